import JvmDerived
import JvmDerived.Pilot.@@N@@Statement
import JvmDerived.Pilot.@@N@@Code
set_option linter.unusedVariables false
set_option linter.unusedSimpArgs false
namespace Jvm.OwnKit
open Sem ClassFile Op Lib Jvm.Stand Jvm.Free Jvm.LawKit Jvm.RoadKit Bundle
/-! The walk's own layer: one predicate for where a walk stands (Wk), one for what it still owes (Owe), one for a callee's contract (Ctr); literals may be interned on the road. -/
theorem nle {a b : Nat} (h : Nat.ble a b = true := by rfl) : a ≤ b := Nat.le_of_ble_eq_true h
theorem nlt {a b : Nat} (h : Nat.ble (a + 1) b = true := by rfl) : a < b := Nat.le_of_ble_eq_true h
def Owe (p : Program) (e : Env) (below : List Frame) (Post : Outcome → State → Prop) (T : State) (g : JFrame) : Prop :=
  ∃ (s₂ : State) (o : Outcome), Steps p.tables e below (T.setTop g) s₂ ∧ s₂.status = .running ∧ Ended s₂ below o ∧ Post o s₂
section OweS
variable {p : Program} {e : Env} {below : List Frame} {Post : Outcome → State → Prop} {T T' : State} {g g' : JFrame}
theorem Owe.via (st : ∀ t, Steps p.tables e below (T'.setTop g') t → Steps p.tables e below (T.setTop g) t) (k : Owe p e below Post T' g') : Owe p e below Post T g := by
  obtain ⟨s₂, o, h1, h2⟩ := k
  exact ⟨s₂, o, st _ h1, h2⟩
theorem Owe.go (st : Steps p.tables e below (T.setTop g) (T'.setTop g')) (k : Owe p e below Post T' g') : Owe p e below Post T g := by
  obtain ⟨s₂, o, h1, h2⟩ := k
  exact ⟨s₂, o, st.trans h1, h2⟩
theorem Owe.stk {m : MethodId} {pc : Nat} {ls : Array Slot} {st : List Value} (st' : List Value) (kk : Owe p e below Post T (mkF m pc ls st')) (q : st = st' := by rfl) : Owe p e below Post T (mkF m pc ls st) := q ▸ kk
theorem Owe.cast (q : g = g') (k : Owe p e below Post T g') : Owe p e below Post T g := q ▸ k
end OweS
/-- what is ours to write -/
def Mine (Z : State) (EL : List (String × Nat)) (hs : Heap) (sf0 : List Addr) (vm : Vm) (h : Heap) (sf : List Addr) : Prop :=
  ∀ x ∈ sf, x < h.size ∧ Z.heap.size ≤ x ∧ (x ∈ sf0 ∨ hs.size ≤ x) ∧ Safe Z EL vm h x
/-- where a walk stands -/
def Wk (p : Program) (l : Launch) (e : Env) (R : Room) (s : State) (m : MethodId) (args : Array Value) (below : List Frame) (meth : Method) (c : Code) (Z : State) (a0 : Array Value) (EL : List (String × Nat)) (own : String) (mx : Nat) (sf0 sf : List Addr) (T : State) (locs : List Loc) (cells slots : Nat) (h : Heap) : Prop :=
  (p.tables.exec = Jvm.exec ∧ EW Z a0 EL ∧ c.maxLocals = mx) ∧ ∃ (vm0 : Vm) (k0 : Nat), Stand p l e R (s.setVm vm0) m args below meth c T locs cells slots ∧ T.heap = h ∧ s.Since vm0 k0 ∧ k0 ≤ h.size ∧ Z.Warmed39 vm0 ∧ vm0.findClass own = some m.cls ∧ CHr Z EL s.vm s.heap vm0 h ∧ Fr Z.heap.size locs ∧ Ext Z.heap h ∧ Keep s.heap h sf0 ∧ Mine Z EL s.heap sf0 vm0 h sf
/-- the end of a contract -/
def PostW (Z : State) (EL : List (String × Nat)) (sf : List Addr) (rm : Room) (Q : Option Value → Heap → List Addr → Prop) (U : State) (o : Outcome) (U' : State) : Prop :=
  ∃ (v : Option Value) (L : List Loc) (fs : List Addr), o = .returned v ∧ Q v U'.heap fs ∧ Fr Z.heap.size L ∧ Ext Z.heap U'.heap ∧ Keep U.heap U'.heap sf ∧ CHr Z EL U.vm U.heap U'.vm U'.heap ∧ (∀ x ∈ fs, x < U'.heap.size ∧ Z.heap.size ≤ x ∧ U.heap.size ≤ x ∧ Safe Z EL U'.vm U'.heap x) ∧ ReturnedEndW U o U' L rm.cells rm.slots
/-- a body's contract, at one heap -/
def Ctr (l : Launch) (Z : State) (EL : List (String × Nat)) (y : MethodName) (bytes : ByteArray) (maxL : Nat) (ret : Option FieldType) (ws : List Cond) (rm : Room) (as' : Array Value) (sf : List Addr) (h : Heap) (Q : Option Value → Heap → List Addr → Prop) : Prop :=
  MetFree l y (head1 (Cond.code y bytes maxL ret :: ws) rm) (fun a U => a = as' ∧ Z.Warmed39 U.vm ∧ U.heap = h ∧ CHv Z EL U.vm h ∧ ∀ x ∈ sf, Safe Z EL U.vm h x) (fun _ _ _ _ _ => True) (fun _ U o U' => PostW Z EL sf rm Q U o U')
abbrev chr (x : Int32) : Int32 := x.toUInt32.toUInt16.toUInt32.toInt32
abbrev byt (x : Int32) : Int32 := x.toInt8.toInt32
theorem nar_byt (x : Int32) : nar .byte (byt x) = byt x := by simp [nar, byt]
theorem chr_rng (x : Int32) : ¬ chr x < (0 : Int32) ∧ ¬ (65535 : Int32) < chr x := by
  have q := c_i2c x
  simp only [Int32.lt_iff_toInt_lt, Int32.reduceToInt, chr]
  omega
theorem chr_id {c : Int32} (h1 : ¬ c < (0 : Int32)) (h2 : ¬ (65535 : Int32) < c) : chr c = c := by
  have q := c_i2c c
  simp only [Int32.lt_iff_toInt_lt, Int32.reduceToInt] at h1 h2
  refine Int32.toInt_inj.mp ?_
  show c.toUInt32.toUInt16.toUInt32.toInt32.toInt = _
  omega
theorem allP1 {sf : List Addr} {n : Nat} {a : Addr} (h1 : a ∈ sf) (g1 : n ≤ a) : ∀ x ∈ [a], x ∈ sf ∧ n ≤ x := fun x hx => by obtain rfl := List.mem_singleton.mp hx; exact ⟨h1, g1⟩
theorem extTrans {h h' h'' : Heap} (A : Ext h h') (B : Ext h' h'') : Ext h h'' := ⟨Nat.le_trans A.1 B.1, fun a c q => B.2 a c (A.2 a c q)⟩
theorem keepExt {Z : State} {h h' : Heap} {ws : List Addr} (A : Ext Z.heap h) (K : Keep h h' ws) (q : ∀ x ∈ ws, Z.heap.size ≤ x) : Ext Z.heap h' := (Old.keep (Z := Z) (n0 := Z.heap.size) ⟨rfl, A⟩ K q).2
theorem Ctr.introP {l : Launch} {Z : State} {a0 : Array Value} {EL : List (String × Nat)} {y : MethodName} {bytes : ByteArray} {maxL : Nat} {ret : Option FieldType} {ws : List Cond} {rm : Room} {as' : Array Value} {sf : List Addr} {h : Heap} {Q : Option Value → Heap → List Addr → Prop}
    (hn : plainFor y = true) (hEL : EW Z a0 EL) (hZh : Ext Z.heap h) (hsf : ∀ x ∈ sf, x < h.size ∧ Z.heap.size ≤ x)
    (body : ∀ (p : Program) (e : Env) (s : State) (m : MethodId) (below : List Frame) (meth : Method) (c : Code) (s₁ : State), c.code = bytes → c.maxLocals = maxL → meth.sig.returnType = ret → meth.name = y.name → meth.locks = false → s.heap = h →
      Wk p l e rm s m as' below meth c Z a0 EL y.cls maxL sf sf s₁ [] 0 0 h → Owe p e below (PostW Z EL sf rm Q s) s₁ (entryFrame m as' maxL)) : Ctr l Z EL y bytes maxL ret ws rm as' sf h Q := by
  refine MetFree.of_bodySF hn hisR ?_
  intro p e s m args below meth c s₁ Bd hml hP hK
  obtain ⟨rfl, hZ, rfl, hC, hS⟩ := hP
  have X0 : Stand p l e rm (s.setVm s.vm) m args below meth c s₁ [] 0 0 := Stand.of_body Bd
  exact body p e s m below meth c s₁ Bd.bytes hml Bd.returns (name_of_methodNamed Bd.named Bd.method).1 Bd.notSynchronized rfl
    ⟨⟨Bd.exec, hEL, hml⟩, s.vm, s.heap.size, X0, by rw [Bd.state]; rfl, (State.WarmedH.refl s).since _, Nat.le_refl _, hZ, findClass_of_methodNamed Bd.named, CHr.refl hC, Fr.nil _, hZh, Keep.refl _ _, fun x hx => ⟨(hsf x hx).1, (hsf x hx).2, Or.inl hx, hS x hx⟩⟩
theorem Ctr.intro {l : Launch} {Z : State} {a0 : Array Value} {EL : List (String × Nat)} {y : MethodName} {bytes : ByteArray} {maxL : Nat} {ret : Option FieldType} {ws : List Cond} {rm : Room} {as' : Array Value} {sf : List Addr} {h : Heap} {Q : Option Value → Heap → List Addr → Prop}
    (hn : plainName y.cls = true) (hEL : EW Z a0 EL) (hZh : Ext Z.heap h) (hsf : ∀ x ∈ sf, x < h.size ∧ Z.heap.size ≤ x)
    (body : ∀ (p : Program) (e : Env) (s : State) (m : MethodId) (below : List Frame) (meth : Method) (c : Code) (s₁ : State), c.code = bytes → c.maxLocals = maxL → meth.sig.returnType = ret → meth.name = y.name → meth.locks = false → s.heap = h →
      Wk p l e rm s m as' below meth c Z a0 EL y.cls maxL sf sf s₁ [] 0 0 h → Owe p e below (PostW Z EL sf rm Q s) s₁ (entryFrame m as' maxL)) : Ctr l Z EL y bytes maxL ret ws rm as' sf h Q := Ctr.introP (plainFor_of_name hn) hEL hZh hsf body
theorem Ctr.mono {l : Launch} {Z : State} {EL : List (String × Nat)} {y : MethodName} {bytes : ByteArray} {maxL : Nat} {ret : Option FieldType} {ws : List Cond} {rm : Room} {as' : Array Value} {sf : List Addr} {h : Heap} {Q Q' : Option Value → Heap → List Addr → Prop}
    (C : Ctr l Z EL y bytes maxL ret ws rm as' sf h Q) (q : ∀ v h' fs, Q v h' fs → Q' v h' fs) : Ctr l Z EL y bytes maxL ret ws rm as' sf h Q' := by
  intro p e ha hc hk s m args below hf happ hP hK
  obtain ⟨n, o, h1, h2, h3, v, L, fs, r1, r2, r3⟩ := C p e ha hc hk s m args below hf happ hP hK
  exact ⟨n, o, h1, h2, h3, v, L, fs, r1, q _ _ _ r2, r3⟩
theorem Owe.mono {p : Program} {e : Env} {below : List Frame} {Z : State} {EL : List (String × Nat)} {sf : List Addr} {rm : Room} {Q Q' : Option Value → Heap → List Addr → Prop} {s T : State} {g : JFrame} (q : ∀ v h fs, Q v h fs → Q' v h fs) (k : Owe p e below (PostW Z EL sf rm Q s) T g) : Owe p e below (PostW Z EL sf rm Q' s) T g := by
  obtain ⟨s₂, o, h1, h2, h3, v, L, fs, r1, r2, r3⟩ := k
  exact ⟨s₂, o, h1, h2, h3, v, L, fs, r1, q _ _ _ r2, r3⟩
section Walk
variable {p : Program} {l : Launch} {e : Env} {R : Room} {s : State} {m : MethodId} {args : Array Value} {below : List Frame} {meth : Method} {c : Code} {Z : State} {a0 : Array Value} {EL : List (String × Nat)} {own : String} {mx : Nat} {sf0 sf : List Addr} {T : State} {locs : List Loc} {cells slots : Nat} {h : Heap} {Post : Outcome → State → Prop} {pc pc' : Nat} {ls : Array Slot} {st : List Value}
theorem Wk.here (K : Wk p l e R s m args below meth c Z a0 EL own mx sf0 sf T locs cells slots h) : At T m c below := by obtain ⟨-, vm0, k0, X, -⟩ := K; exact X.here
theorem Wk.hx (K : Wk p l e R s m args below meth c Z a0 EL own mx sf0 sf T locs cells slots h) : p.tables.exec = Jvm.exec := K.1.1
theorem Wk.old (K : Wk p l e R s m args below meth c Z a0 EL own mx sf0 sf T locs cells slots h) : Ext Z.heap h := by obtain ⟨-, vm0, k0, -, -, -, -, -, -, -, -, q, -⟩ := K; exact q
theorem Wk.keep (K : Wk p l e R s m args below meth c Z a0 EL own mx sf0 sf T locs cells slots h) : Keep s.heap h sf0 := by obtain ⟨-, vm0, k0, -, -, -, -, -, -, -, -, -, q, -⟩ := K; exact q
theorem Wk.lt {x : Addr} (K : Wk p l e R s m args below meth c Z a0 EL own mx sf0 sf T locs cells slots h) (hx : x ∈ sf) : x < h.size := by obtain ⟨-, vm0, k0, -, -, -, -, -, -, -, -, -, -, q⟩ := K; exact (q x hx).1
theorem Wk.ge {x : Addr} (K : Wk p l e R s m args below meth c Z a0 EL own mx sf0 sf T locs cells slots h) (hx : x ∈ sf) : Z.heap.size ≤ x := by obtain ⟨-, vm0, k0, -, -, -, -, -, -, -, -, -, -, q⟩ := K; exact (q x hx).2.1
theorem Wk.both (K : Wk p l e R s m args below meth c Z a0 EL own mx sf0 sf T locs cells slots h) {sf' : List Addr} (q : ∀ x ∈ sf', x ∈ sf := by simp) : ∀ x ∈ sf', x < h.size ∧ Z.heap.size ≤ x := fun x hx => ⟨K.lt (q x hx), K.ge (q x hx)⟩
theorem Wk.to (K : Wk p l e R s m args below meth c Z a0 EL own mx sf0 sf T locs cells slots h) (cells' slots' : Nat) (sf' : List Addr) (hc : cells ≤ cells' := by exact nle) (hs : slots ≤ slots' := by exact nle) (q : ∀ x ∈ sf', x ∈ sf := by exact fun _ h => h) : Wk p l e R s m args below meth c Z a0 EL own mx sf0 sf' T locs cells' slots' h := by
  obtain ⟨q0, vm0, k0, X, r1, r2, r3, r4, r5, r6, r7, r8, r9, M⟩ := K
  exact ⟨q0, vm0, k0, X.more hc hs, r1, r2, r3, r4, r5, r6, r7, r8, r9, fun x hx => M x (q x hx)⟩
theorem Wk.more {cells' slots' : Nat} {sf' : List Addr} (K : Wk p l e R s m args below meth c Z a0 EL own mx sf0 sf T locs cells slots h) (hc : cells ≤ cells') (hs : slots ≤ slots') (q : ∀ x ∈ sf', x ∈ sf) : Wk p l e R s m args below meth c Z a0 EL own mx sf0 sf' T locs cells' slots' h := by
  obtain ⟨q0, vm0, k0, X, r1, r2, r3, r4, r5, r6, r7, r8, r9, M⟩ := K
  exact ⟨q0, vm0, k0, X.more hc hs, r1, r2, r3, r4, r5, r6, r7, r8, r9, fun x hx => M x (q x hx)⟩
/-! ### steps that leave the heap -/
theorem oGetF (K : Wk p l e R s m args below meth c Z a0 EL own mx sf0 sf T locs cells slots h) (pc' : Nat) {O n d : String} {index : Nat} {a : Addr} {v : Value} {rest : List Value} (w : (Cond.fieldLink own index O n d).before a0 Z = true) (F : Fld Z h a O n d v) (hd : decode c.code pc = .ok (.getfield index, 3)) (kk : ∀ T' : State, Wk p l e R s m args below meth c Z a0 EL own mx sf0 sf T' locs cells slots h → Owe p e below Post T' (mkF m pc' ls (v :: rest))) (hp : pc + 3 = pc' := by rfl) : Owe p e below Post T (mkF m pc ls (.ref a :: rest)) := by
  subst hp
  have hg : (mkF m pc ls (.ref a :: rest)).method = m := rfl
  have hs : (mkF m pc ls (.ref a :: rest)).stack = (.ref a :: rest) := rfl
  obtain ⟨q0, vm0, k0, X, eT, hS, hk, hZ, hown, q⟩ := K
  obtain ⟨T', X', e', st⟩ := getF (own := own) (host := "") X q0.1 (show Z.Warmed39 (s.setVm vm0).vm from hZ) hown (Or.inl w) Via.refl eT F hg hs hd
  exact Owe.via st (kk T' ⟨q0, vm0, k0, X', e', hS, hk, hZ, hown, q⟩)
theorem oGetS (K : Wk p l e R s m args below meth c Z a0 EL own mx sf0 sf T locs cells slots h) (pc' : Nat) {O n d : String} {index : Nat} {v : Value} (w : (Cond.fieldLink own index O n d).before a0 Z = true) (F : Sta Z h O n d v) (hd : decode c.code pc = .ok (.getstatic index, 3)) (kk : ∀ T' : State, Wk p l e R s m args below meth c Z a0 EL own mx sf0 sf T' locs cells slots h → Owe p e below Post T' (mkF m pc' ls (v :: st))) (hp : pc + 3 = pc' := by rfl) : Owe p e below Post T (mkF m pc ls st) := by
  subst hp
  have hg : (mkF m pc ls st).method = m := rfl
  obtain ⟨q0, vm0, k0, X, eT, hS, hk, hZ, hown, q⟩ := K
  obtain ⟨T', X', e', st⟩ := getS (own := own) (host := "") X q0.1 (show Z.Warmed39 (s.setVm vm0).vm from hZ) hown w Via.refl eT F hg hd
  exact Owe.via st (kk T' ⟨q0, vm0, k0, X', e', hS, hk, hZ, hown, q⟩)
theorem oCast (K : Wk p l e R s m args below meth c Z a0 EL own mx sf0 sf T locs cells slots h) (pc' : Nat) {C : String} {index : Nat} {a : Addr} {rest : List Value} (w : (Cond.classLink own index C).before a0 Z = true) (F : Ins Z h a C true) (hd : decode c.code pc = .ok (.checkcast index, 3)) (kk : ∀ T' : State, Wk p l e R s m args below meth c Z a0 EL own mx sf0 sf T' locs cells slots h → Owe p e below Post T' (mkF m pc' ls ((.ref a :: rest)))) (hp : pc + 3 = pc' := by rfl) : Owe p e below Post T (mkF m pc ls (.ref a :: rest)) := by
  subst hp
  have hg : (mkF m pc ls (.ref a :: rest)).method = m := rfl
  have hs : (mkF m pc ls (.ref a :: rest)).stack = (.ref a :: rest) := rfl
  obtain ⟨q0, vm0, k0, X, eT, hS, hk, hZ, hown, q⟩ := K
  obtain ⟨T', X', e', st⟩ := castY (own := own) X q0.1 (show Z.Warmed39 (s.setVm vm0).vm from hZ) hown w eT F hg hs hd
  exact Owe.via st (kk T' ⟨q0, vm0, k0, X', e', hS, hk, hZ, hown, q⟩)
theorem oInitO (K : Wk p l e R s m args below meth c Z a0 EL own mx sf0 sf T locs cells slots h) (pc' : Nat) {idx : Nat} {a : Addr} {rest : List Value} (w1 : (Cond.methodLink own idx Lib.objectInit).before a0 Z = true) (w2 : (Cond.instanceMethod Lib.objectInit).before a0 Z = true) (w3 : (Cond.code Lib.objectInit ⟨#[0xb1]⟩ 1 none).before a0 Z = true) (hsize : ls.size = mx) (hd : decode c.code pc = .ok (.invokespecial idx, 3))
    (hf : 1 ≤ R.frames) {W : Nat} (hW : 2 * 0 + (rest.map fun v => v.category).sum ≤ W) (hl : W + 12 ≤ R.locals) (kk : ∀ T' : State, Wk p l e R s m args below meth c Z a0 EL own mx sf0 sf T' locs cells slots h → Owe p e below Post T' (mkF m pc' ls (rest))) (hp : pc + 3 = pc' := by rfl) : Owe p e below Post T (mkF m pc ls (.ref a :: rest)) := by
  subst hp
  have hg : (mkF m pc ls (.ref a :: rest)).method = m := rfl
  have hs : (mkF m pc ls (.ref a :: rest)).stack = (.ref a :: rest) := rfl
  obtain ⟨q0, vm0, k0, X, eT, hS, hk, hZ, hown, q⟩ := K
  obtain ⟨T', X', e', st⟩ := initO (own := own) X q0.1 (show Z.Warmed39 (s.setVm vm0).vm from hZ) hown w1 w2 w3 eT hg (hsize.trans q0.2.2.symm) hs hd hf hW hl
  exact Owe.via st (kk T' ⟨q0, vm0, k0, X', e', hS, hk, hZ, hown, q⟩)
theorem oLdcI (K : Wk p l e R s m args below meth c Z a0 EL own mx sf0 sf T locs cells slots h) (pc' : Nat) {index : Nat} {v : Int32} (w : (Cond.constant own index v).before a0 Z = true) (hd : decode c.code pc = .ok (.ldc index, 2)) (kk : Owe p e below Post T (mkF m pc' ls (.int v :: st))) (hp : pc + 2 = pc' := by rfl) : Owe p e below Post T (mkF m pc ls st) := by
  subst hp
  have hg : (mkF m pc ls st).method = m := rfl
  obtain ⟨q0, vm0, k0, X, eT, hS, hk, hZ, hown, q⟩ := K
  exact Owe.via (fun t r => X.ldcInt q0.1 (own := own) hown (mv (show Z.Warmed39 (s.setVm vm0).vm from hZ) w) hg hd t r) kk
/-! ### arrays of known components -/
def Ary (Z : State) (h : Heap) (a : Addr) (ty : FieldType) (vs : List Value) : Prop := ∃ cl : Cell, Arr Z h a cl ty ∧ cl.slots = vs.toArray ∧ vs.length < 2 ^ 31 ∧ ∀ v ∈ vs, fits ty v = true
theorem Ary.lt {a : Addr} {ty : FieldType} {vs : List Value} (F : Ary Z h a ty vs) : a < h.size := by obtain ⟨_, A, -⟩ := F; exact A.lt
theorem Ary.ext {h' : Heap} {a : Addr} {ty : FieldType} {vs : List Value} (F : Ary Z h a ty vs) (E : Ext h h') : Ary Z h' a ty vs := by obtain ⟨cl, A, r⟩ := F; exact ⟨cl, A.ext E, r⟩
theorem Ary.other {h' : Heap} {a b : Addr} {ty : FieldType} {vs : List Value} {sl : Nat} {v : Value} (F : Ary Z h b ty vs) (W : Wr h h' a sl v) (q : b ≠ a) : Ary Z h' b ty vs := by obtain ⟨cl, A, r⟩ := F; exact ⟨cl, A.other W q, r⟩
theorem Ary.keep {h' : Heap} {a : Addr} {ty : FieldType} {vs : List Value} {ws : List Addr} (F : Ary Z h a ty vs) (K : Keep h h' ws) (q : a ∉ ws) : Ary Z h' a ty vs := by obtain ⟨cl, A, r⟩ := F; exact ⟨cl, ⟨K.2.1 a cl A.1 q, A.2⟩, r⟩
theorem Ary.same {h' : Heap} {a : Addr} {ty : FieldType} {vs : List Value} {i : Nat} {v : Value} (F : Ary Z h a ty vs) (W : Wr h h' a i v) (hv : fits ty v = true) : Ary Z h' a ty (vs.set i v) := by
  obtain ⟨cl, A, r1, r2, r3⟩ := F
  refine ⟨cl.setSlot i v, A.same W, ?_, by simpa using r2, fun w hw => ?_⟩
  · show cl.slots.setIfInBounds i v = _
    rw [r1]; simp
  · rcases List.mem_or_eq_of_mem_set hw with q | rfl
    · exact r3 _ q
    · exact hv
def lats : List Int32 → Prop
  | [] => True
  | c :: r => ¬ (255 : Int32) < c ∧ lats r
def wides : List Int32 → List Value
  | [] => []
  | c :: r => .int (byt (c >>> ((0 : Int32) &&& 31))) :: .int (byt (c >>> ((8 : Int32) &&& 31))) :: wides r
/-- a String of these chars, in either form -/
def Str (Z : State) (h : Heap) (b : Nat) (x : Addr) (cs : List Int32) : Prop :=
  ∃ t : Addr, (x < b ∧ b ≤ h.size) ∧ t < b ∧ Exa Z h x "java/lang/String" ∧ Fld Z h x "java/lang/String" "value" "[B" (.ref t) ∧ ((Fld Z h x "java/lang/String" "coder" "B" (.int (0 : Int32)) ∧ Ary Z h t .byte (cs.map fun c => .int (byt c)) ∧ lats cs) ∨ (Fld Z h x "java/lang/String" "coder" "B" (.int (1 : Int32)) ∧ Ary Z h t .byte (wides cs)))
theorem Str.lat {x t : Addr} {cs : List Int32} (E : Exa Z h x "java/lang/String") (V : Fld Z h x "java/lang/String" "value" "[B" (.ref t)) (C : Fld Z h x "java/lang/String" "coder" "B" (.int (0 : Int32))) (A : Ary Z h t .byte (cs.map fun c => .int (byt c))) (L : lats cs) : Str Z h h.size x cs := ⟨t, ⟨E.lt, Nat.le_refl _⟩, A.lt, E, V, Or.inl ⟨C, A, L⟩⟩
theorem Str.wide {x t : Addr} {cs : List Int32} (E : Exa Z h x "java/lang/String") (V : Fld Z h x "java/lang/String" "value" "[B" (.ref t)) (C : Fld Z h x "java/lang/String" "coder" "B" (.int (1 : Int32))) (A : Ary Z h t .byte (wides cs)) : Str Z h h.size x cs := ⟨t, ⟨E.lt, Nat.le_refl _⟩, A.lt, E, V, Or.inr ⟨C, A⟩⟩
theorem Str.bd {b : Nat} {x : Addr} {cs : List Int32} (S : Str Z h b x cs) : b ≤ h.size := by obtain ⟨_, q, -⟩ := S; exact q.2
theorem Str.exa {b : Nat} {x : Addr} {cs : List Int32} (S : Str Z h b x cs) : Exa Z h x "java/lang/String" := by obtain ⟨_, -, -, E, -⟩ := S; exact E
theorem Str.lt {b : Nat} {x : Addr} {cs : List Int32} (S : Str Z h b x cs) : x < h.size := S.exa.lt
theorem Str.ext {h' : Heap} {b : Nat} {x : Addr} {cs : List Int32} (S : Str Z h b x cs) (E : Ext h h') : Str Z h' b x cs := by
  obtain ⟨t, l1, l2, e, V, ⟨C, A, L⟩ | ⟨C, A⟩⟩ := S
  · exact ⟨t, ⟨l1.1, Nat.le_trans l1.2 E.1⟩, l2, e.ext E, V.ext E, Or.inl ⟨C.ext E, A.ext E, L⟩⟩
  · exact ⟨t, ⟨l1.1, Nat.le_trans l1.2 E.1⟩, l2, e.ext E, V.ext E, Or.inr ⟨C.ext E, A.ext E⟩⟩
theorem Str.keep {h' : Heap} {b : Nat} {x : Addr} {cs : List Int32} {ws : List Addr} (S : Str Z h b x cs) (K : Keep h h' ws) (q : ∀ w ∈ ws, b ≤ w) : Str Z h' b x cs := by
  obtain ⟨t, l1, l2, e, V, r⟩ := S
  have n1 : x ∉ ws := fun g => absurd (q x g) (Nat.not_le_of_lt l1.1)
  have n2 : t ∉ ws := fun g => absurd (q t g) (Nat.not_le_of_lt l2)
  rcases r with ⟨C, A, L⟩ | ⟨C, A⟩
  · exact ⟨t, ⟨l1.1, Nat.le_trans l1.2 K.1⟩, l2, e.keep K, V.keep K n1, Or.inl ⟨C.keep K n1, A.keep K n2, L⟩⟩
  · exact ⟨t, ⟨l1.1, Nat.le_trans l1.2 K.1⟩, l2, e.keep K, V.keep K n1, Or.inr ⟨C.keep K n1, A.keep K n2⟩⟩
theorem Str.wr {h' : Heap} {b : Nat} {x a : Addr} {cs : List Int32} {sl : Nat} {v : Value} (S : Str Z h b x cs) (W : Wr h h' a sl v) (q : b ≤ a) : Str Z h' b x cs := by
  obtain ⟨t, l1, l2, e, V, r⟩ := S
  have n1 : x ≠ a := Nat.ne_of_lt (Nat.lt_of_lt_of_le l1.1 q)
  have n2 : t ≠ a := Nat.ne_of_lt (Nat.lt_of_lt_of_le l2 q)
  rcases r with ⟨C, A, L⟩ | ⟨C, A⟩
  · exact ⟨t, ⟨l1.1, by rw [W.size]; exact l1.2⟩, l2, e.wr W, Fld.other W V (Or.inl n1), Or.inl ⟨Fld.other W C (Or.inl n1), A.other W n2, L⟩⟩
  · exact ⟨t, ⟨l1.1, by rw [W.size]; exact l1.2⟩, l2, e.wr W, Fld.other W V (Or.inl n1), Or.inr ⟨Fld.other W C (Or.inl n1), A.other W n2⟩⟩
theorem geN {b : Nat} : ∀ w ∈ ([] : List Addr), b ≤ w := fun _ h => by cases h
theorem geS {b : Nat} {a : Addr} {ws : List Addr} (g : b ≤ a) (r : ∀ w ∈ ws, b ≤ w) : ∀ w ∈ a :: ws, b ≤ w := fun w h => by
  rcases List.mem_cons.mp h with rfl | q
  · exact g
  · exact r w q
theorem Ary.start {args : Array Value} {t : Term} {a : Addr} {ty : FieldType} {vs : List Value} (hF : Fit Z) (ev : t.eval args Z none [] Z = some (.ref a)) (hx : (Cond.arrayOf t ty).value args Z none Z [] = some true) {n : Int32} (hl : (Term.length t).eval args Z none [] Z = some (.int n)) (hn : n.toNatClampNeg = vs.length)
    (he : ∀ (i : Nat) (v : Value), vs[i]? = some v → (Int32.ofNat i).toNatClampNeg = i ∧ (Term.elem t (.int (Int32.ofNat i))).eval args Z none [] Z = some v) : Ary Z Z.heap a ty vs := by
  obtain ⟨cl, A⟩ := Arr.start ev hx
  have ha : Z.arrayAt? a = some cl := Arr.fin (Vm.Alike.refl _) A
  obtain ⟨a', cl', e1, e2, e3⟩ := Term.length_spec hl
  cases ev.symm.trans e1
  cases ha.symm.trans e2
  have hb : cl.slots.size < 2 ^ 31 := by
    refine Classical.byContradiction fun q => ?_
    have z : (Term.length t).eval args Z none [] Z = none := by simp [Term.eval, ev, ha]; omega
    rw [hl] at z; cases z
  have hsz : cl.slots.size = vs.length := by
    have e4 : n = cl.slots.size.toInt32 := Value.int.inj e3
    rw [← hn, e4]
    have := Int32.toNatClampNeg_ofNat_of_lt (n := cl.slots.size) (by omega)
    exact this.symm
  have hi : ∀ (i : Nat) (v : Value), vs[i]? = some v → cl.slots[i]? = some v ∧ fits ty v = true := by
    intro i v hv
    obtain ⟨q1, q2⟩ := he i v hv
    obtain ⟨r1, r2⟩ := elem_in q2 ev (Term.int_eval _) A.1
    obtain ⟨w, s1, s2⟩ := elem_fit hF A r1
    rw [q1] at r2 s1
    cases r2.symm.trans s1
    exact ⟨r2, s2⟩
  refine ⟨cl, A, ?_, by omega, fun v hv => ?_⟩
  · apply Array.ext_getElem?
    intro i
    cases hv : vs[i]? with
    | some v => rw [(hi i v hv).1]; simpa using hv.symm
    | none =>
      have := List.getElem?_eq_none_iff.mp hv
      rw [Array.getElem?_eq_none (by omega)]; simpa using hv.symm
  · obtain ⟨i, hi', rfl⟩ := List.mem_iff_getElem.mp hv
    exact (hi i _ (List.getElem?_eq_getElem hi')).2
theorem Ary.arv {a : Addr} {ty : FieldType} {vs : List Value} (F : Ary Z h a ty vs) (d : Value) {n : Int32} (hn : n = Int32.ofNat vs.length) : ∃ k, Arv Z h a k ty n vs d := by
  obtain ⟨cl, A, r1, r2, r3⟩ := F
  subst hn
  have hs : cl.slots.size = vs.length := by rw [r1]; simp
  have ht : (Int32.ofNat vs.length).toInt = vs.length := Int32.toInt_ofNat_small r2
  refine ⟨cl.cls, cl, A, rfl, ?_, ?_, fun i hi => ?_, fun i hi => ?_⟩
  · rw [hs]; simp only [Int32.toNatClampNeg, ht]; simp
  · simp only [Int32.lt_iff_toInt_lt, ht, Int32.reduceToInt]; omega
  · rw [hs] at hi; rw [r1]; simp [hi]
  · rw [hs] at hi
    have : vs.getD i d = vs[i] := by simp [hi]
    rw [this]; exact r3 _ (List.getElem_mem hi)
theorem Ary.ofArv {a : Addr} {ty : FieldType} {vs : List Value} {d : Value} {n : Int32} {kc : ClassId} (F : Arv Z h a kc ty n vs d) (hn : n = Int32.ofNat vs.length) (hl : vs.length < 2 ^ 31) : Ary Z h a ty vs := by
  obtain ⟨cl, A, -, r2, r3, H, G⟩ := F
  subst hn
  have ht : (Int32.ofNat vs.length).toInt = vs.length := Int32.toInt_ofNat_small hl
  have hs : cl.slots.size = vs.length := by rw [r2]; simp only [Int32.toNatClampNeg, ht]; simp
  refine ⟨cl, A, ?_, hl, fun v hv => ?_⟩
  · apply Array.ext
    · simpa using hs
    · intro i h1 h2
      have e1 := H i h1
      rw [Array.getElem?_eq_getElem h1] at e1
      have h3 : i < vs.length := by omega
      rw [Option.some.inj e1]; simp [h3]
  · obtain ⟨i, hi, rfl⟩ := List.mem_iff_getElem.mp hv
    have e1 := G i (by omega)
    have : vs.getD i d = vs[i] := by simp [hi]
    rw [this] at e1; exact e1
theorem inb {cl : Cell} {vs : List Value} {j : Int32} {i : Nat} (r1 : cl.slots = vs.toArray) (hj : ¬ j < 0) (hi : j.toNatClampNeg = i) (hl : i < vs.length) : ¬ (j < 0 ∨ cl.slots.size ≤ j.toNatClampNeg) := by
  rw [r1, hi]; simp only [List.size_toArray]; intro q; rcases q with q | q
  · exact hj q
  · omega
theorem oLen (K : Wk p l e R s m args below meth c Z a0 EL own mx sf0 sf T locs cells slots h) (pc' : Nat) {a : Addr} {ty : FieldType} {vs : List Value} {n : Int32} {rest : List Value} (A : Ary Z h a ty vs) (hn : Int32.ofNat vs.length = n) (hd : decode c.code pc = .ok (.arraylength, 1)) (kk : Owe p e below Post T (mkF m pc' ls (.int n :: rest))) (hp : pc + 1 = pc' := by rfl) : Owe p e below Post T (mkF m pc ls (.ref a :: rest)) := by
  subst hp
  have hg : (mkF m pc ls (.ref a :: rest)).method = m := rfl
  have hs : (mkF m pc ls (.ref a :: rest)).stack = (.ref a :: rest) := rfl
  obtain ⟨q0, vm0, k0, X, eT, hS, hk, hZ, hown, q⟩ := K
  obtain ⟨cl, A, r1, r2, r3⟩ := A
  have e : cl.slots.size.toInt32 = n := by rw [r1, ← hn]; simp
  exact Owe.via (fun t r => X.arraylength q0.1 (by rw [eT]; exact A.1) (State.isArrayOf_alike (show Z.vm.Alike (s.setVm vm0).vm from hZ.alike) A.2.1) hg hs hd t (by rw [e]; exact r)) kk
theorem oCaload (K : Wk p l e R s m args below meth c Z a0 EL own mx sf0 sf T locs cells slots h) (pc' : Nat) {a : Addr} {vs : List Value} {v : Value} {j : Int32} {rest : List Value} (A : Ary Z h a .char vs) (i : Nat) (hj : ¬ j < 0) (hi : j.toNatClampNeg = i) (hv : vs[i]? = some v) (hd : decode c.code pc = .ok (.caload, 1)) (kk : Owe p e below Post T (mkF m pc' ls (v :: rest))) (hp : pc + 1 = pc' := by rfl) : Owe p e below Post T (mkF m pc ls (.int j :: .ref a :: rest)) := by
  subst hp
  have hg : (mkF m pc ls (.int j :: .ref a :: rest)).method = m := rfl
  have hs : (mkF m pc ls (.int j :: .ref a :: rest)).stack = (.int j :: .ref a :: rest) := rfl
  obtain ⟨q0, vm0, k0, X, eT, hS, hk, hZ, hown, q⟩ := K
  obtain ⟨cl, A, r1, r2, r3⟩ := A
  exact Owe.via (fun t r => X.caload q0.1 (by rw [eT]; exact A.1) (State.isArrayOf_alike (show Z.vm.Alike (s.setVm vm0).vm from hZ.alike) A.2.1) A.2.2 (inb r1 hj hi (List.getElem?_eq_some_iff.mp hv).1) (by rw [r1, hi]; simpa using hv) hg hs hd t r) kk
theorem oIaload (K : Wk p l e R s m args below meth c Z a0 EL own mx sf0 sf T locs cells slots h) (pc' : Nat) {a : Addr} {vs : List Value} {v : Value} {j : Int32} {rest : List Value} (A : Ary Z h a .int vs) (i : Nat) (hj : ¬ j < 0) (hi : j.toNatClampNeg = i) (hv : vs[i]? = some v) (hd : decode c.code pc = .ok (.iaload, 1)) (kk : Owe p e below Post T (mkF m pc' ls (v :: rest))) (hp : pc + 1 = pc' := by rfl) : Owe p e below Post T (mkF m pc ls (.int j :: .ref a :: rest)) := by
  subst hp
  have hg : (mkF m pc ls (.int j :: .ref a :: rest)).method = m := rfl
  have hs : (mkF m pc ls (.int j :: .ref a :: rest)).stack = (.int j :: .ref a :: rest) := rfl
  obtain ⟨q0, vm0, k0, X, eT, hS, hk, hZ, hown, q⟩ := K
  obtain ⟨cl, A, r1, r2, r3⟩ := A
  exact Owe.via (fun t r => X.iaload q0.1 (by rw [eT]; exact A.1) (State.isArrayOf_alike (show Z.vm.Alike (s.setVm vm0).vm from hZ.alike) A.2.1) A.2.2 (inb r1 hj hi (List.getElem?_eq_some_iff.mp hv).1) (by rw [r1, hi]; simpa using hv) hg hs hd t r) kk
theorem oBaload (K : Wk p l e R s m args below meth c Z a0 EL own mx sf0 sf T locs cells slots h) (pc' : Nat) {a : Addr} {vs : List Value} {v : Value} {j : Int32} {rest : List Value} (A : Ary Z h a .byte vs) (i : Nat) (hj : ¬ j < 0) (hi : j.toNatClampNeg = i) (hv : vs[i]? = some v) (hd : decode c.code pc = .ok (.baload, 1)) (kk : Owe p e below Post T (mkF m pc' ls (v :: rest))) (hp : pc + 1 = pc' := by rfl) : Owe p e below Post T (mkF m pc ls (.int j :: .ref a :: rest)) := by
  subst hp
  have hg : (mkF m pc ls (.int j :: .ref a :: rest)).method = m := rfl
  have hs : (mkF m pc ls (.int j :: .ref a :: rest)).stack = (.int j :: .ref a :: rest) := rfl
  obtain ⟨q0, vm0, k0, X, eT, hS, hk, hZ, hown, q⟩ := K
  obtain ⟨cl, A, r1, r2, r3⟩ := A
  exact Owe.via (fun t r => X.baloadBytes q0.1 (by rw [eT]; exact A.1) (State.isArrayOf_alike (show Z.vm.Alike (s.setVm vm0).vm from hZ.alike) A.2.1) A.2.2 (inb r1 hj hi (List.getElem?_eq_some_iff.mp hv).1) (by rw [r1, hi]; simpa using hv) hg hs hd t r) kk
/-! ### steps that write or make -/
theorem Wk.wr {a : Addr} {sl : Nat} {v : Value} {vm0 : Vm} {k0 : Nat} {T' : State} {h' : Heap} (q0 : p.tables.exec = Jvm.exec ∧ EW Z a0 EL ∧ c.maxLocals = mx) (ha : a ∈ sf) (X' : Stand p l e R (s.setVm vm0) m args below meth c T' (locs ++ [⟨a, sl⟩]) cells slots) (e' : T'.heap = h') (W : Wr h h' a sl v)
    (hS : s.Since vm0 k0) (hk : k0 ≤ h.size) (hZ : Z.Warmed39 vm0) (hown : vm0.findClass own = some m.cls) (hC : CHr Z EL s.vm s.heap vm0 h) (N : Fr Z.heap.size locs) (E : Ext Z.heap h) (Kp : Keep s.heap h sf0) (M : Mine Z EL s.heap sf0 vm0 h sf) : Wk p l e R s m args below meth c Z a0 EL own mx sf0 sf T' (locs ++ [⟨a, sl⟩]) cells slots h' := by
  obtain ⟨m1, m2, m3, m4⟩ := M a ha
  exact ⟨q0, vm0, k0, X', e', hS, by rw [W.size]; exact hk, hZ, hown, hC.trans (CHr.wr W m4 hC.1), Fr.snoc X' N m2, (Old.wr (Z := Z) (n0 := Z.heap.size) ⟨rfl, E⟩ W m2).2, Kp.wr W m3,
    fun x hx => ⟨by rw [W.size]; exact (M x hx).1, (M x hx).2.1, (M x hx).2.2.1, Safe.wr W m4 hC.1 (M x hx).2.2.2⟩⟩
theorem oPutF (K : Wk p l e R s m args below meth c Z a0 EL own mx sf0 sf T locs cells slots h) (pc' : Nat) {O n d C : String} {index kk : Nat} {ty : FieldType} {a : Addr} {v old : Value} {rest : List Value} (ha : a ∈ sf) (w : (Cond.fieldLink own index O n d).before a0 Z = true) (F : Fld Z h a O n d old) (E : Exa Z h a C) (L : (Cond.lays C O n d).before a0 Z = true ∨ ((Cond.laysFinal C O n d).before a0 Z = true ∧ own = O ∧ meth.name = "<init>")) (wi : (Cond.instantiable C kk).before a0 Z = true)
    (hty : parseFieldDescriptor d = some ty) (hn : narrow ty v = v) (hf : fits ty v = true) (hd : decode c.code pc = .ok (.putfield index, 3)) (kk : ∀ (T' : State) (h' : Heap) (locs' : List Loc), Wk p l e R s m args below meth c Z a0 EL own mx sf0 sf T' locs' cells slots h' → Wr h h' a (RoadKit.slotOf Z O n d) v → Owe p e below Post T' (mkF m pc' ls (rest))) (hp : pc + 3 = pc' := by rfl) : Owe p e below Post T (mkF m pc ls (v :: .ref a :: rest)) := by
  subst hp
  have hg : (mkF m pc ls (v :: .ref a :: rest)).method = m := rfl
  have hs : (mkF m pc ls (v :: .ref a :: rest)).stack = (v :: .ref a :: rest) := rfl
  obtain ⟨q0, vm0, k0, X, eT, hS, hk, hZ, hown, hC, N, Ez, Kp, M⟩ := K
  obtain ⟨T', h', X', e', W, st⟩ := putF (own := own) (host := "") X q0.1 (show Z.Warmed39 (s.setVm vm0).vm from hZ) hown (Or.inl w) Via.refl eT F E L wi hty hn hf hg hs hd
  exact Owe.via st (kk T' h' _ (Wk.wr q0 ha X' e' W hS hk hZ hown hC N Ez Kp M) W)
theorem Wk.made {vm0 : Vm} {k0 cells' slots' : Nat} {T' : State} {h' : Heap} (q0 : p.tables.exec = Jvm.exec ∧ EW Z a0 EL ∧ c.maxLocals = mx) (X' : Stand p l e R (s.setVm vm0) m args below meth c T' locs cells' slots') (e' : T'.heap = h') (A : Ext h h') (lt : h.size < h'.size)
    (hS : s.Since vm0 k0) (hk : k0 ≤ h.size) (hZ : Z.Warmed39 vm0) (hown : vm0.findClass own = some m.cls) (hC : CHr Z EL s.vm s.heap vm0 h) (N : Fr Z.heap.size locs) (E : Ext Z.heap h) (Kp : Keep s.heap h sf0) (M : Mine Z EL s.heap sf0 vm0 h sf) : Wk p l e R s m args below meth c Z a0 EL own mx sf0 (h.size :: sf) T' locs cells' slots' h' := by
  refine ⟨q0, vm0, k0, X', e', hS, Nat.le_trans hk A.1, hZ, hown, hC.trans (CHr.ext A hC.1), N, extTrans E A, Kp.ext A, fun x hx => ?_⟩
  rcases List.mem_cons.mp hx with rfl | hx
  · exact ⟨lt, E.1, Or.inr Kp.1, Safe.ext A hC.1 (Safe.new (Nat.le_refl _))⟩
  · obtain ⟨m1, m2, m3, m4⟩ := M x hx
    exact ⟨Nat.lt_of_lt_of_le m1 A.1, m2, m3, Safe.ext A hC.1 m4⟩
theorem oNew (K : Wk p l e R s m args below meth c Z a0 EL own mx sf0 sf T locs cells slots h) (pc' : Nat) {C : String} {index n : Nat} (w : (Cond.classLink own index C).before a0 Z = true) (wi : (Cond.instantiable C n).before a0 Z = true) (wz : (Cond.initialized C).before a0 Z = true) (hd : decode c.code pc = .ok (.new index, 3)) (hc : cells + 1 ≤ R.cells) (hl : slots + n ≤ R.slots) (kk : ∀ (T' : State) (h' : Heap) (a : Addr), h.size = a → Wk p l e R s m args below meth c Z a0 EL own mx sf0 (a :: sf) T' locs (cells + 1) (slots + n) h' → Ext h h' → Exa Z h' a C → (∀ {O nm d : String} {ty : FieldType}, Laid Z a0 C O nm d → parseFieldDescriptor d = some ty → Fld Z h' a O nm d (defaultValue ty)) → Owe p e below Post T' (mkF m pc' ls (.ref a :: st))) (hp : pc + 3 = pc' := by rfl) : Owe p e below Post T (mkF m pc ls st) := by
  subst hp
  have hg : (mkF m pc ls st).method = m := rfl
  obtain ⟨q0, vm0, k0, X, eT, hS, hk, hZ, hown, hC, N, Ez, Kp, M⟩ := K
  obtain ⟨T', h', X', e', A, Ex, D, -, st⟩ := newO (own := own) X q0.1 (show Z.Warmed39 (s.setVm vm0).vm from hZ) hown w wi wz eT hg hd hc hl
  exact Owe.via st (kk T' h' _ rfl (Wk.made q0 X' e' A Ex.lt hS hk hZ hown hC N Ez Kp M) A Ex D)
theorem oNewP (K : Wk p l e R s m args below meth c Z a0 EL own mx sf0 sf T locs cells slots h) (pc' : Nat) {aty : ArrayType} {ty : FieldType} {n : Int32} {rest : List Value} (i : Nat) (w : (Cond.arrayClass ty).before a0 Z = true) (hty : newarray.typeOf aty = ty) (hn : ¬ n < 0) (hi : n.toNatClampNeg = i) (hb : i * 8 ≤ 536870912) (hd : decode c.code pc = .ok (.newarray aty, 2)) (hc : cells + 1 ≤ R.cells) (hl : slots + i ≤ R.slots) (kk : ∀ (T' : State) (h' : Heap) (a : Addr), h.size = a → Wk p l e R s m args below meth c Z a0 EL own mx sf0 (a :: sf) T' locs (cells + 1) (slots + i) h' → Ext h h' → Ary Z h' a ty (List.replicate i (defaultValue ty)) → Owe p e below Post T' (mkF m pc' ls (.ref a :: rest))) (hp : pc + 2 = pc' := by rfl) : Owe p e below Post T (mkF m pc ls (.int n :: rest)) := by
  subst hp
  have hg : (mkF m pc ls (.int n :: rest)).method = m := rfl
  have hs : (mkF m pc ls (.int n :: rest)).stack = (.int n :: rest) := rfl
  subst hty
  obtain ⟨q0, vm0, k0, X, eT, hS, hk, hZ, hown, hC, N, Ez, Kp, M⟩ := K
  obtain ⟨T', h', cA, X', e', A, Ar, st⟩ := newP X q0.1 (show Z.Warmed39 (s.setVm vm0).vm from hZ) w eT hg hd hs hn (cap := i) (Nat.le_of_eq hi) hb hc hl
  refine Owe.via st (kk T' h' _ rfl (Wk.made q0 X' e' A Ar.lt hS hk hZ hown hC N Ez Kp M) A ⟨_, Ar, ?_, ?_, fun v hv => ?_⟩)
  · simp [newA, hi]
  · simp; omega
  · rw [(List.mem_replicate.mp hv).2]; cases aty <;> rfl
theorem oNewPE (K : Wk p l e R s m args below meth c Z a0 EL own mx sf0 sf T locs cells slots h) (pc' : Nat) {aty : ArrayType} {ty : FieldType} {n : Int32} {rest : List Value} (i : Nat) (w : (Cond.arrayClass ty).before a0 Z = true) (hty : newarray.typeOf aty = ty) (hn : ¬ n < 0) (hi : n.toNatClampNeg = i) (hb : i * 8 ≤ 536870912) (hd : decode c.code pc = .ok (.newarray aty, 2)) (hc : cells + 1 ≤ R.cells) (hl : slots + i ≤ R.slots) {ad : String} (had : "[" ++ ty.toString = ad) (kk : ∀ (T' : State) (h' : Heap) (a : Addr), h.size = a → Wk p l e R s m args below meth c Z a0 EL own mx sf0 (a :: sf) T' locs (cells + 1) (slots + i) h' → Ext h h' → Ary Z h' a ty (List.replicate i (defaultValue ty)) → Exa Z h' a ad → Owe p e below Post T' (mkF m pc' ls (.ref a :: rest))) (hp : pc + 2 = pc' := by rfl) : Owe p e below Post T (mkF m pc ls (.int n :: rest)) := by
  subst hp
  have hg : (mkF m pc ls (.int n :: rest)).method = m := rfl
  have hs : (mkF m pc ls (.int n :: rest)).stack = (.int n :: rest) := rfl
  subst hty
  obtain ⟨q0, vm0, k0, X, eT, hS, hk, hZ, hown, hC, N, Ez, Kp, M⟩ := K
  obtain ⟨T', h', cA, X', e', A, Ar, Ea, st⟩ := newPE X q0.1 (show Z.Warmed39 (s.setVm vm0).vm from hZ) w eT hg hd hs hn (cap := i) (Nat.le_of_eq hi) hb hc hl had
  refine Owe.via st (kk T' h' _ rfl (Wk.made q0 X' e' A Ar.lt hS hk hZ hown hC N Ez Kp M) A ⟨_, Ar, ?_, ?_, fun v hv => ?_⟩ Ea)
  · simp [newA, hi]
  · simp; omega
  · rw [(List.mem_replicate.mp hv).2]; cases aty <;> rfl
theorem oCastore (K : Wk p l e R s m args below meth c Z a0 EL own mx sf0 sf T locs cells slots h) (pc' : Nat) {a : Addr} {vs : List Value} {x x' : Int32} {j : Int32} {rest : List Value} (ha : a ∈ sf) (A : Ary Z h a .char vs) (i : Nat) (hj : ¬ j < 0) (hi : j.toNatClampNeg = i) (hl : i < vs.length) (hv : nar .char x = x') (hd : decode c.code pc = .ok (.castore, 1)) (kk : ∀ (T' : State) (h' : Heap) (locs' : List Loc), Wk p l e R s m args below meth c Z a0 EL own mx sf0 sf T' locs' cells slots h' → Wr h h' a i (.int x') → Ary Z h' a .char (vs.set i (.int x')) → Owe p e below Post T' (mkF m pc' ls (rest))) (hp : pc + 1 = pc' := by rfl) : Owe p e below Post T (mkF m pc ls (.int x :: .int j :: .ref a :: rest)) := by
  subst hp
  have hg : (mkF m pc ls (.int x :: .int j :: .ref a :: rest)).method = m := rfl
  have hs : (mkF m pc ls (.int x :: .int j :: .ref a :: rest)).stack = (.int x :: .int j :: .ref a :: rest) := rfl
  obtain ⟨q0, vm0, k0, X, eT, hS, hk, hZ, hown, hC, N, Ez, Kp, M⟩ := K
  have A0 := A
  obtain ⟨cl, A, r1, r2, r3⟩ := A
  subst hi hv
  obtain ⟨T', h', X', e', W, st⟩ := stC X q0.1 (show Z.Warmed39 (s.setVm vm0).vm from hZ) eT A (inb r1 hj rfl hl) hg hs hd
  exact Owe.via st (kk T' h' _ (Wk.wr q0 ha X' e' W hS hk hZ hown hC N Ez Kp M) W (A0.same W (fits_nar_char x)))
theorem oBastore (K : Wk p l e R s m args below meth c Z a0 EL own mx sf0 sf T locs cells slots h) (pc' : Nat) {a : Addr} {vs : List Value} {x x' : Int32} {j : Int32} {rest : List Value} (ha : a ∈ sf) (A : Ary Z h a .byte vs) (i : Nat) (hj : ¬ j < 0) (hi : j.toNatClampNeg = i) (hl : i < vs.length) (hv : nar .byte x = x') (hd : decode c.code pc = .ok (.bastore, 1)) (kk : ∀ (T' : State) (h' : Heap) (locs' : List Loc), Wk p l e R s m args below meth c Z a0 EL own mx sf0 sf T' locs' cells slots h' → Wr h h' a i (.int x') → Ary Z h' a .byte (vs.set i (.int x')) → Owe p e below Post T' (mkF m pc' ls (rest))) (hp : pc + 1 = pc' := by rfl) : Owe p e below Post T (mkF m pc ls (.int x :: .int j :: .ref a :: rest)) := by
  subst hp
  have hg : (mkF m pc ls (.int x :: .int j :: .ref a :: rest)).method = m := rfl
  have hs : (mkF m pc ls (.int x :: .int j :: .ref a :: rest)).stack = (.int x :: .int j :: .ref a :: rest) := rfl
  obtain ⟨q0, vm0, k0, X, eT, hS, hk, hZ, hown, hC, N, Ez, Kp, M⟩ := K
  have A0 := A
  obtain ⟨cl, A, r1, r2, r3⟩ := A
  subst hi hv
  obtain ⟨T', h', X', e', W, st⟩ := stB X q0.1 (show Z.Warmed39 (s.setVm vm0).vm from hZ) eT A (inb r1 hj rfl hl) hg hs hd
  exact Owe.via st (kk T' h' _ (Wk.wr q0 ha X' e' W hS hk hZ hown hC N Ez Kp M) W (A0.same W (fits_nar_byte x)))
theorem oIastore (K : Wk p l e R s m args below meth c Z a0 EL own mx sf0 sf T locs cells slots h) (pc' : Nat) {a : Addr} {vs : List Value} {x x' : Int32} {j : Int32} {rest : List Value} (ha : a ∈ sf) (A : Ary Z h a .int vs) (i : Nat) (hj : ¬ j < 0) (hi : j.toNatClampNeg = i) (hl : i < vs.length) (hv : x = x') (hd : decode c.code pc = .ok (.iastore, 1)) (kk : ∀ (T' : State) (h' : Heap) (locs' : List Loc), Wk p l e R s m args below meth c Z a0 EL own mx sf0 sf T' locs' cells slots h' → Wr h h' a i (.int x') → Ary Z h' a .int (vs.set i (.int x')) → Owe p e below Post T' (mkF m pc' ls (rest))) (hp : pc + 1 = pc' := by rfl) : Owe p e below Post T (mkF m pc ls (.int x :: .int j :: .ref a :: rest)) := by
  subst hp
  have hg : (mkF m pc ls (.int x :: .int j :: .ref a :: rest)).method = m := rfl
  have hs : (mkF m pc ls (.int x :: .int j :: .ref a :: rest)).stack = (.int x :: .int j :: .ref a :: rest) := rfl
  obtain ⟨q0, vm0, k0, X, eT, hS, hk, hZ, hown, hC, N, Ez, Kp, M⟩ := K
  have A0 := A
  obtain ⟨cl, A, r1, r2, r3⟩ := A
  subst hi hv
  obtain ⟨T', h', X', e', W, st⟩ := stI X q0.1 (show Z.Warmed39 (s.setVm vm0).vm from hZ) eT A (inb r1 hj rfl hl) hg hs hd
  exact Owe.via st (kk T' h' _ (Wk.wr q0 ha X' e' W hS hk hZ hown hC N Ez Kp M) W (A0.same W rfl))
/-! ### literals -/
theorem oLdcC (K : Wk p l e R s m args below meth c Z a0 EL own mx sf0 sf T locs cells slots h) (pc' : Nat) {text : String} {index : Nat} (n : Nat) (vs : List Value) (w : (Cond.stringLink own index text).before a0 Z = true) (wS : ∀ a ∈ Bundle.stringAtoms, a.before a0 Z = true) (hmem : (own, index) ∈ EL) (ht : (∀ c ∈ text.toList, c.toNat < 256) ∧ text.toList.map (fun c => Value.int (Jvm.Lit.byteI c.toNat.toUInt16)) = vs) (hvl : vs.length < 2 ^ 31) (hd : decode c.code pc = .ok (.ldc index, 2)) (hn : 4 * text.toList.length ≤ n) (hbig : n ≤ 536870912) (hc : cells + 2 ≤ R.cells) (hl : slots + (n + 4) ≤ R.slots) (kk : ∀ (T' : State) (h' : Heap) (a b : Addr), Wk p l e R s m args below meth c Z a0 EL own mx sf0 sf T' locs (cells + 2) (slots + (n + 4)) h' → Ext h h' → Exa Z h' a "java/lang/String" → Fld Z h' a "java/lang/String" "coder" "B" (.int 0) → Fld Z h' a "java/lang/String" "value" "[B" (.ref b) → Ary Z h' b .byte vs → (∀ x ∈ sf, x ≠ a ∧ x ≠ b) → Owe p e below Post T' (mkF m pc' ls (.ref a :: st))) (hp : pc + 2 = pc' := by rfl) : Owe p e below Post T (mkF m pc ls st) := by
  subst hp
  have hg : (mkF m pc ls st).method = m := rfl
  obtain ⟨q0, vm0, k0, X, eT, hS, hk, hZ, hown, hC, N, Ez, Kp, M⟩ := K
  have hzt : (Int32.ofNat vs.length).toInt = vs.length := Int32.toInt_ofNat_small hvl
  obtain ⟨a, T', h', k1, b, kc, X', e', A, hS', hk', hZ', hown', F1, F2, F3, F4, -, -, hC', hL, hne, st⟩ := ldcCH X q0.1 hZ hown w wS eT hS hk q0.2.1 hmem hC.1 (vs := vs) (z := Int32.ofNat vs.length) ht (by simp only [Int32.lt_iff_toInt_lt, hzt, Int32.reduceToInt]; omega) (by simp only [Int32.toNatClampNeg, hzt]; simp) hg hd hn hbig hc hl
  exact Owe.via st (kk T' h' a b ⟨q0, T'.vm, k1, X', e', hS', hk', hZ', hown', hC.trans hC', N, extTrans Ez A, Kp.ext A, fun x hx => ⟨Nat.lt_of_lt_of_le (M x hx).1 A.1, (M x hx).2.1, (M x hx).2.2.1, hC'.safe (M x hx).1 (M x hx).2.2.2⟩⟩ A F1 F2 F3 (Ary.ofArv F4 rfl hvl) (fun x hx => hne x (hC'.safe (M x hx).1 (M x hx).2.2.2)))
/-! ### calls -/
theorem backC {y : MethodName} {bytes : ByteArray} {maxL : Nat} {ret : Option FieldType} {rm : Room} {len W : Nat} {as' : Array Value} {sf' : List Addr} {Q : Option Value → Heap → List Addr → Prop} {vm0 : Vm} (C : Ctr l Z EL y bytes maxL ret [] rm as' sf' h Q)
    (hZ : Z.Warmed39 vm0) (wc : (Cond.code y bytes maxL ret).before a0 Z = true) (wz : (Cond.initialized y.cls).before a0 Z = true) (hf : rm.frames + 1 ≤ R.frames) (hl : W + (maxL + 11) + rm.locals ≤ R.locals) (hEL : EW Z a0 EL) (H : CHv Z EL vm0 h) (hsafe : ∀ x ∈ sf', x < h.size ∧ Safe Z EL vm0 h x) :
    BackS l R p e below (s.setVm vm0) args y len W (fun A a => a = as' ∧ A.U.heap = h ∧ A.cells + rm.cells ≤ R.cells ∧ A.slots + rm.slots ≤ R.slots)
      (fun A _ v B => ∃ (L : List Loc) (fs : List Addr), Q v B.U.heap fs ∧ Fr Z.heap.size L ∧ Ext Z.heap B.U.heap ∧ Keep h B.U.heap sf' ∧ CHr Z EL vm0 h B.U.vm B.U.heap ∧ (∀ x ∈ fs, x < B.U.heap.size ∧ Z.heap.size ≤ x ∧ h.size ≤ x ∧ Safe Z EL B.U.vm B.U.heap x) ∧ B.locs = A.locs ++ L ∧ B.cells = A.cells + rm.cells ∧ B.slots = A.slots + rm.slots) :=
  BackS.of_freeW (bytes := bytes) (maxL := maxL) (ret := ret) (E := fun _ first o t L k n => k = rm.cells ∧ n = rm.slots ∧ ∃ (v : Option Value) (fs : List Addr), o = .returned v ∧ Q v t.heap fs ∧ Fr Z.heap.size L ∧ Ext Z.heap t.heap ∧ Keep first.heap t.heap sf' ∧ CHr Z EL first.vm first.heap t.vm t.heap ∧ ∀ x ∈ fs, x < t.heap.size ∧ Z.heap.size ≤ x ∧ first.heap.size ≤ x ∧ Safe Z EL t.vm t.heap x) C hf hl
    (fun m meth c A a Y hp => have hU : Z.Warmed39 A.U.vm := wtrans (s := s.setVm vm0) hZ Y.warmed
      ⟨by show (Cond.and _ .tt).before a A.U = true; rw [Cond.before_and, mv hU wc]; rfl, mv hU wc, mv hU wz, hp.2.2.1, hp.2.2.2⟩)
    (fun m meth c A a g mk Y hp => ⟨hp.1, wtrans (s := s.setVm vm0) hZ Y.warmed, hp.2.1, (CHv.at Y hZ hEL H).1, fun x hx => (CHv.at Y hZ hEL H).safe (hsafe x hx).1 (hsafe x hx).2⟩) (fun _ _ _ _ _ _ _ _ _ => trivial)
    (fun _ _ _ _ ⟨v, L, fs, h1, h2, h3, h4, h5, h6, h7, h8⟩ => ⟨L, _, _, h8, rfl, rfl, v, fs, h1, h2, h3, h4, h5, h6, h7⟩)
    (fun m meth c A a g mk v t L k n Y hp _ _ ⟨e1, e2, v', fs, e3, e4, e5, e6, e7, e8, e9⟩ => by
      cases e3; subst e1 e2
      have hh : A.U.heap = h := hp.2.1
      subst hh
      exact ⟨L, fs, e4, e5, e6, e7, (CHv.at Y hZ hEL H).trans e8, e9, rfl, rfl, rfl⟩)
theorem Wk.back {vm0 vm1 : Vm} {k0 : Nat} {B : Pt} {L : List Loc} {fs sf' : List Addr} {ce sl n1 : Nat} (q0 : p.tables.exec = Jvm.exec ∧ EW Z a0 EL ∧ c.maxLocals = mx) (hS : s.Since vm0 k0) (hk : k0 ≤ h.size) (hZ : Z.Warmed39 vm0) (hown : vm0.findClass own = some m.cls) (hC : CHr Z EL s.vm s.heap vm0 h) (N : Fr Z.heap.size locs) (Kp : Keep s.heap h sf0) (M : Mine Z EL s.heap sf0 vm0 h sf)
    (X' : Stand p l e R ((s.setVm vm0).setVm B.U.vm) m args below meth c B.U B.locs B.cells B.slots) (hS' : (s.setVm vm0).Since B.U.vm B.U.heap.size) (hsf : ∀ x ∈ sf', x ∈ sf)
    (r3 : Fr Z.heap.size L) (r4 : Ext Z.heap B.U.heap) (r5 : Keep h B.U.heap sf') (r6 : CHr Z EL vm0 h B.U.vm B.U.heap) (r7 : ∀ x ∈ fs, x < B.U.heap.size ∧ Z.heap.size ≤ x ∧ h.size ≤ x ∧ Safe Z EL B.U.vm B.U.heap x) (r8 : B.locs = locs ++ L) (r9 : B.cells = cells + ce) (r10 : B.slots = slots + sl) : Wk p l e R s m args below meth c Z a0 EL own mx sf0 (fs ++ sf) B.U (locs ++ L) (cells + ce) (slots + sl) B.U.heap := by
  rw [r8, r9, r10] at X'
  refine ⟨q0, B.U.vm, B.U.heap.size, X', rfl, hS.trans hS' (Nat.le_trans hk r5.1), Nat.le_refl _, State.Warmed39.trans (t := s.setVm vm0) hZ hS'.1, (hS'.1.alike.findClass _ _).trans hown, hC.trans r6, N.app r3, r4, Kp.trans r5 (fun x hx => (M x (hsf x hx)).2.2.1), fun x hx => ?_⟩
  rcases List.mem_append.mp hx with hx | hx
  · obtain ⟨f1, f2, f3, f4⟩ := r7 x hx
    exact ⟨f1, f2, Or.inr (Nat.le_trans Kp.1 f3), f4⟩
  · obtain ⟨m1, m2, m3, m4⟩ := M x hx
    exact ⟨Nat.lt_of_lt_of_le m1 r5.1, m2, m3, r6.safe m1 m4⟩
theorem oStatic (K : Wk p l e R s m args below meth c Z a0 EL own mx sf0 sf T locs cells slots h) (pc' : Nat) {index : Nat} {y : MethodName} {bytes : ByteArray} {maxL : Nat} {ret : Option FieldType} {rm : Room} {as' : Array Value} {sf' : List Addr} {Q : Option Value → Heap → List Addr → Prop}  (W : Nat) (w1 : (Cond.methodLink own index y).before a0 Z = true) (w2 : (Cond.static y).before a0 Z = true) (w3 : (Cond.initialized y.cls).before a0 Z = true) (w4 : (Cond.code y bytes maxL ret).before a0 Z = true) (C : Ctr l Z EL y bytes maxL ret [] rm as' sf' h Q) (argsL rest : List Value) (hlen : ∀ sig, parseMethodDescriptor y.desc = some sig → argsL.length = sig.parameters.length) (hd : decode c.code pc = .ok (.invokestatic index, 3)) (kk : ∀ (T' : State) (h' : Heap) (v : Option Value) (locs' : List Loc) (fs : List Addr), Wk p l e R s m args below meth c Z a0 EL own mx sf0 (fs ++ sf) T' locs' (cells + rm.cells) (slots + rm.slots) h' → Keep h h' sf' → Q v h' fs → Owe p e below Post T' (mkF m pc' ls (v.toList ++ rest))) (hy : y.cls ≠ "java/lang/invoke/MethodHandle" ∧ y.cls ≠ "java/lang/invoke/VarHandle" := by decide) (hsf : ∀ x ∈ sf', x ∈ sf := by simp) (hf : rm.frames + 1 ≤ R.frames := by decide) (hl : W + (maxL + 11) + rm.locals ≤ R.locals := by decide) (hcl : cells + rm.cells ≤ R.cells := by decide) (hsl : slots + rm.slots ≤ R.slots := by decide) (has : argsL.toArray = as' := by rfl) (hstack : st = argsL.reverse ++ rest := by rfl) (hW : 2 * 0 + (rest.map fun v => v.category).sum ≤ W := by exact nle) (hsize : ls.size = mx := by rfl) (hp : pc + 3 = pc' := by rfl) : Owe p e below Post T (mkF m pc ls st) := by
  subst hp
  have hg : (mkF m pc ls st).method = m := rfl
  obtain ⟨q0, vm0, k0, X, eT, hS, hk, hZ, hown, hC, N, Ez, Kp, M⟩ := K
  have hZ' : Z.Warmed39 (s.setVm vm0).vm := hZ
  obtain ⟨v, vm₁, B, -, X', hS', -, ⟨L, fs, r1, r3, r4, r5, r6, r7, r8, r9, r10⟩, st⟩ := callSS X q0.1 (own := own) hown (mvT hZ' w1) (mvT hZ' w2) (mvT hZ' w3) (mvT hZ' w4) hy (backC C hZ w4 w3 hf hl q0.2.1 hC.1 (fun x hx => ⟨(M x (hsf x hx)).1, (M x (hsf x hx)).2.2.2⟩)) hg (hsize.trans q0.2.2.symm) hlen hstack hW hd (fun vm1 hv => ⟨has, eT, hcl, hsl⟩)
  exact Owe.go st (kk B.U B.U.heap v _ fs (Wk.back (n1 := 0) (vm1 := vm0) q0 hS hk hZ hown hC N Kp M X' hS' hsf r3 r4 r5 r6 r7 r8 r9 r10) r5 r1)
theorem oSpecial (K : Wk p l e R s m args below meth c Z a0 EL own mx sf0 sf T locs cells slots h) (pc' : Nat) {index : Nat} {y : MethodName} {bytes : ByteArray} {maxL : Nat} {rm : Room} {as' : Array Value} {sf' : List Addr} {Q : Option Value → Heap → List Addr → Prop} {a : Addr}  (W : Nat) (w1 : (Cond.methodLink own index y).before a0 Z = true) (w2 : (Cond.instanceMethod y).before a0 Z = true) (w3 : (Cond.initialized y.cls).before a0 Z = true) (w4 : (Cond.code y bytes maxL none).before a0 Z = true) (C : Ctr l Z EL y bytes maxL none [] rm as' sf' h Q) (argsL rest : List Value) (hlen : ∀ sig, parseMethodDescriptor y.desc = some sig → argsL.length = sig.parameters.length) (hd : decode c.code pc = .ok (.invokespecial index, 3)) (kk : ∀ (T' : State) (h' : Heap) (v : Option Value) (locs' : List Loc) (fs : List Addr), Wk p l e R s m args below meth c Z a0 EL own mx sf0 (fs ++ sf) T' locs' (cells + rm.cells) (slots + rm.slots) h' → Keep h h' sf' → Q v h' fs → Owe p e below Post T' (mkF m pc' ls (v.toList ++ rest))) (hy1 : y.name = "<init>" := by rfl) (hy : y.cls ≠ "java/lang/invoke/MethodHandle" ∧ y.cls ≠ "java/lang/invoke/VarHandle" := by decide) (hsf : ∀ x ∈ sf', x ∈ sf := by simp) (hf : rm.frames + 1 ≤ R.frames := by decide) (hl : W + (maxL + 11) + rm.locals ≤ R.locals := by decide) (hcl : cells + rm.cells ≤ R.cells := by decide) (hsl : slots + rm.slots ≤ R.slots := by decide) (has : (.ref a :: argsL).toArray = as' := by rfl) (hstack : st = argsL.reverse ++ .ref a :: rest := by rfl) (hW : 2 * 0 + (rest.map fun v => v.category).sum ≤ W := by exact nle) (hsize : ls.size = mx := by rfl) (hp : pc + 3 = pc' := by rfl) : Owe p e below Post T (mkF m pc ls st) := by
  subst hp
  have hg : (mkF m pc ls st).method = m := rfl
  obtain ⟨q0, vm0, k0, X, eT, hS, hk, hZ, hown, hC, N, Ez, Kp, M⟩ := K
  have hZ' : Z.Warmed39 (s.setVm vm0).vm := hZ
  obtain ⟨v, vm₁, B, -, X', hS', -, ⟨L, fs, r1, r3, r4, r5, r6, r7, r8, r9, r10⟩, st⟩ := X.specialBackS q0.1 (own := own) hy1 hown (mvT hZ' w1) (mvT hZ' w2) (mvT hZ' w4) hy (backC C hZ w4 w3 hf hl q0.2.1 hC.1 (fun x hx => ⟨(M x (hsf x hx)).1, (M x (hsf x hx)).2.2.2⟩)) hg (hsize.trans q0.2.2.symm) (Steps.refl _) hlen hstack hW hd (fun vm1 hv => ⟨has, eT, hcl, hsl⟩)
  exact Owe.go st (kk B.U B.U.heap v _ fs (Wk.back (n1 := 0) (vm1 := vm0) q0 hS hk hZ hown hC N Kp M X' hS' hsf r3 r4 r5 r6 r7 r8 r9 r10) r5 r1)
theorem oVirtual (K : Wk p l e R s m args below meth c Z a0 EL own mx sf0 sf T locs cells slots h) (pc' : Nat) {index : Nat} {D : String} {y z : MethodName} {bytes : ByteArray} {maxL : Nat} {ret : Option FieldType} {rm : Room} {as' : Array Value} {sf' : List Addr} {Q : Option Value → Heap → List Addr → Prop} {a : Addr}  (W : Nat) (w1 : (Cond.methodLink own index y).before a0 Z = true) (w2 : (Cond.declares y).before a0 Z = true) (nf : ∀ s' : State, Z.Warmed39 s'.vm → NotFace s' y) (w5 : (Cond.selects D y z).before a0 Z = true) (w6 : (Cond.instanceMethod z).before a0 Z = true) (w3 : (Cond.initialized z.cls).before a0 Z = true) (w4 : (Cond.code z bytes maxL ret).before a0 Z = true) (Ex : Exa Z h a D)
    (C : Ctr l Z EL z bytes maxL ret [] rm as' sf' h Q) (argsL rest : List Value) (hlen : ∀ sig, parseMethodDescriptor y.desc = some sig → argsL.length = sig.parameters.length) (hd : decode c.code pc = .ok (.invokevirtual index, 3)) (kk : ∀ (T' : State) (h' : Heap) (v : Option Value) (locs' : List Loc) (fs : List Addr), Wk p l e R s m args below meth c Z a0 EL own mx sf0 (fs ++ sf) T' locs' (cells + rm.cells) (slots + rm.slots) h' → Keep h h' sf' → Q v h' fs → Owe p e below Post T' (mkF m pc' ls (v.toList ++ rest))) (hy : y.cls ≠ "java/lang/invoke/MethodHandle" ∧ y.cls ≠ "java/lang/invoke/VarHandle" := by decide) (hsf : ∀ x ∈ sf', x ∈ sf := by simp) (hf : rm.frames + 1 ≤ R.frames := by decide) (hl : W + (maxL + 11) + rm.locals ≤ R.locals := by decide) (hcl : cells + rm.cells ≤ R.cells := by decide) (hsl : slots + rm.slots ≤ R.slots := by decide) (has : (.ref a :: argsL).toArray = as' := by rfl) (hstack : st = argsL.reverse ++ .ref a :: rest := by rfl) (hW : 2 * 0 + (rest.map fun v => v.category).sum ≤ W := by exact nle) (hsize : ls.size = mx := by rfl) (hp : pc + 3 = pc' := by rfl) : Owe p e below Post T (mkF m pc ls st) := by
  subst hp
  have hg : (mkF m pc ls st).method = m := rfl
  obtain ⟨q0, vm0, k0, X, eT, hS, hk, hZ, hown, hC, N, Ez, Kp, M⟩ := K
  have hZ' : Z.Warmed39 (s.setVm vm0).vm := hZ
  obtain ⟨cq, kq, qa, qb, qc⟩ := isOf hZ' eT Ex
  obtain ⟨v, vm₁, B, -, X', hS', -, ⟨L, fs, r1, r3, r4, r5, r6, r7, r8, r9, r10⟩, st⟩ := X.virtualBackS q0.1 (own := own) hown (mvT hZ' w1) (mvT hZ' w2) (nf _ hZ') (mvT hZ' w5) (mvT hZ' w6) hy (backC C hZ w4 w3 hf hl q0.2.1 hC.1 (fun x hx => ⟨(M x (hsf x hx)).1, (M x (hsf x hx)).2.2.2⟩)) qa qc hg (hsize.trans q0.2.2.symm) (Steps.refl _) hlen hstack hW hd (fun vm1 hv => ⟨has, eT, hcl, hsl⟩)
  exact Owe.go st (kk B.U B.U.heap v _ fs (Wk.back (n1 := 0) (vm1 := vm0) q0 hS hk hZ hown hC N Kp M X' hS' hsf r3 r4 r5 r6 r7 r8 r9 r10) r5 r1)
theorem nfSel {D : String} {y : MethodName} (w : (Cond.selects D y y).before a0 Z = true) : ∀ s' : State, Z.Warmed39 s'.vm → NotFace s' y := fun s' hZ => notFace_of_selects (args := #[]) (mvT hZ w)
theorem Ary.fitC {a : Addr} {ty : FieldType} {vs : List Value} {cl : Cell} (A : Arr Z h a cl ty) (r1 : cl.slots = vs.toArray) (r3 : ∀ v ∈ vs, fits ty v = true) : FitC Z cl := fun i v hv => by
  obtain ⟨hs, k, hk, comp, hkind⟩ := A.2.1
  have hm : v ∈ vs := by rw [r1] at hv; exact List.mem_of_getElem? (by simpa using hv)
  simp [State.fitsSlot, State.slotType?, hk, hkind, r3 v hm]
theorem oClone (K : Wk p l e R s m args below meth c Z a0 EL own mx sf0 sf T locs cells slots h) (pc' : Nat) {ad : String} {index : Nat} {a : Addr} {ty : FieldType} {vs : List Value} {rest : List Value} (W : Nat) (w1 : (Cond.methodLink own index ⟨ad, "clone", "()Ljava/lang/Object;"⟩).before a0 Z = true) (w2 : (Cond.sameMethod ad "java/lang/Object" "clone" "()Ljava/lang/Object;").before a0 Z = true) (w3 : (Cond.native ⟨"java/lang/Object", "clone", "()Ljava/lang/Object;"⟩).before a0 Z = true) (w4 : (Cond.instanceMethod ⟨"java/lang/Object", "clone", "()Ljava/lang/Object;"⟩).before a0 Z = true) (w5 : (Cond.selects ad ⟨ad, "clone", "()Ljava/lang/Object;"⟩ ⟨"java/lang/Object", "clone", "()Ljava/lang/Object;"⟩).before a0 Z = true) (w6 : (Cond.castable ad "java/lang/Cloneable").before a0 Z = true)
    (A : Ary Z h a ty vs) (Ex : Exa Z h a ad) (hsize : ls.size = mx) (hd : decode c.code pc = .ok (.invokevirtual index, 3)) (hf : 1 ≤ R.frames) (hW : 2 * 0 + (rest.map fun v => v.category).sum ≤ W) (hl : W + 14 ≤ R.locals) (hc : cells + 1 ≤ R.cells) (hsl : slots + vs.length ≤ R.slots) (kk : ∀ (T' : State) (h' : Heap) (b : Addr), h.size = b → Wk p l e R s m args below meth c Z a0 EL own mx sf0 (b :: sf) T' locs (cells + 1) (slots + vs.length) h' → Ext h h' → Ary Z h' b ty vs → Exa Z h' b ad → Owe p e below Post T' (mkF m pc' ls (.ref b :: rest))) (hp : pc + 3 = pc' := by rfl) : Owe p e below Post T (mkF m pc ls (.ref a :: rest)) := by
  subst hp
  have hg : (mkF m pc ls (.ref a :: rest)).method = m := rfl
  have hs : (mkF m pc ls (.ref a :: rest)).stack = (.ref a :: rest) := rfl
  obtain ⟨q0, vm0, k0, X, eT, hS, hk, hZ, hown, hC, N, Ez, Kp, M⟩ := K
  obtain ⟨cl, A, r1, r2, r3⟩ := A
  obtain ⟨T', h', X', e', E, Ar, Ea, st⟩ := cloneA (own := own) X q0.1 (show Z.Warmed39 (s.setVm vm0).vm from hZ) hown w1 w2 w3 w4 w5 w6 eT A Ex (Ary.fitC A r1 r3) hg (hsize.trans q0.2.2.symm) hs hd hf hW hl (cap := vs.length) (by rw [r1]; simp) hc hsl
  exact Owe.via st (kk T' h' _ rfl (Wk.made q0 X' e' E Ar.lt hS hk hZ hown hC N Ez Kp M) E ⟨_, Ar, r1, r2, r3⟩ Ea)
theorem copyU {vs : List Value} {d : Value} {n : Nat} (h : n ≤ vs.length) : ((List.range n).map fun i => vs.getD (0 + i) d) = vs.take n := by
  apply List.ext_getElem
  · simp; omega
  · intro i h1 h2
    have hi : i < vs.length := by simp at h1; omega
    simp [List.getD, List.getElem?_eq_getElem hi]
theorem oCopy (K : Wk p l e R s m args below meth c Z a0 EL own mx sf0 sf T locs cells slots h) (pc' : Nat) {index : Nat} {a b : Addr} {vs vd : List Value} {nn : Int32} {rest : List Value} (W : Nat) (w1 : (Cond.methodLink own index Jvm.Stand.acN).before a0 Z = true) (w2 : (Cond.native Jvm.Stand.acN).before a0 Z = true) (w3 : (Cond.static Jvm.Stand.acN).before a0 Z = true) (w4 : (Cond.initialized "java/lang/System").before a0 Z = true) (hb : b ∈ sf) (A : Ary Z h a .byte vs) (B : Ary Z h b .byte vd) (n : Nat) (hn : ¬ nn < 0) (hi : nn.toNatClampNeg = n) (h4 : n ≤ vs.length) (h5 : n ≤ vd.length) (hsize : ls.size = mx) (hd : decode c.code pc = .ok (.invokestatic index, 3)) (hf : 1 ≤ R.frames) (hW : 2 * 0 + (rest.map fun v => v.category).sum ≤ W) (hl : W + (nativeFrameWords "java/lang/System" "arraycopy" 5 + 11) ≤ R.locals) (kk : ∀ (T' : State) (h' : Heap) (locs' : List Loc), Wk p l e R s m args below meth c Z a0 EL own mx sf0 sf T' locs' cells slots h' → Keep h h' [b] → Ary Z h' b .byte (vs.take n ++ vd.drop n) → Owe p e below Post T' (mkF m pc' ls (rest))) (hp : pc + 3 = pc' := by rfl) : Owe p e below Post T (mkF m pc ls (.int nn :: .int 0 :: .ref b :: .int 0 :: .ref a :: rest)) := by
  subst hp
  have hg : (mkF m pc ls (.int nn :: .int 0 :: .ref b :: .int 0 :: .ref a :: rest)).method = m := rfl
  have hs : (mkF m pc ls (.int nn :: .int 0 :: .ref b :: .int 0 :: .ref a :: rest)).stack = (.int nn :: .int 0 :: .ref b :: .int 0 :: .ref a :: rest) := rfl
  obtain ⟨q0, vm0, k0, X, eT, hS, hk, hZ, hown, hC, N, Ez, Kp, M⟩ := K
  have la : vs.length < 2 ^ 31 := by obtain ⟨_, _, _, q, _⟩ := A; exact q
  have lb : vd.length < 2 ^ 31 := by obtain ⟨_, _, _, q, _⟩ := B; exact q
  obtain ⟨ka, Aa⟩ := A.arv (.int 0) (n := Int32.ofNat vs.length) rfl
  obtain ⟨kb, Ba⟩ := B.arv (.int 0) (n := Int32.ofNat vd.length) rfl
  subst hi
  obtain ⟨m1, m2, m3, m4⟩ := M b hb
  have z0 : (0 : Int32).toNatClampNeg = 0 := rfl
  have za : (Int32.ofNat vs.length).toNatClampNeg = vs.length := Int32.toNatClampNeg_ofNat_of_lt (by omega)
  have zb : (Int32.ofNat vd.length).toNatClampNeg = vd.length := Int32.toNatClampNeg_ofNat_of_lt (by omega)
  obtain ⟨T', h', L, X', e', NL, Kk, R', st⟩ := cpA (own := own) (n0 := Z.heap.size) X q0.1 (show Z.Warmed39 (s.setVm vm0).vm from hZ) hown w1 w2 w3 w4 eT Aa Ba (us := (List.range nn.toNatClampNeg).map fun i => vs.getD ((0 : Int32).toNatClampNeg + i) (.int 0)) (Or.inl ⟨rfl, rfl⟩) (sp := 0) (dp := 0) (by decide) (by decide) hn (by rw [z0, za]; omega) (by rw [z0, zb]; omega) rfl (by rw [z0]; omega) N m2 hg (hsize.trans q0.2.2.symm) hs hd hf hW hl
  have hsafe : ∀ x ∈ [b], Safe Z EL vm0 h x := fun x hx => by obtain rfl := List.mem_singleton.mp hx; exact m4
  have C1 : CHr Z EL vm0 h vm0 h' := CHr.keep Kk hsafe hC.1
  rw [z0, copyU h4] at R'
  refine Owe.via st (kk T' h' L ⟨q0, vm0, k0, X', e', hS, Nat.le_trans hk Kk.1, hZ, hown, hC.trans C1, NL, keepExt Ez Kk (fun x hx => by obtain rfl := List.mem_singleton.mp hx; exact m2), Kp.trans Kk (fun x hx => by obtain rfl := List.mem_singleton.mp hx; exact m3), fun x hx => ?_⟩ Kk ?_)
  · obtain ⟨n1, n2, n3, n4⟩ := M x hx
    exact ⟨Nat.lt_of_lt_of_le n1 Kk.1, n2, n3, C1.safe n1 n4⟩
  · have e5 : vd.take 0 ++ vs.take nn.toNatClampNeg ++ vd.drop (0 + nn.toNatClampNeg) = vs.take nn.toNatClampNeg ++ vd.drop nn.toNatClampNeg := by simp
    rw [e5] at R'
    have e6 : (vs.take nn.toNatClampNeg ++ vd.drop nn.toNatClampNeg).length = vd.length := by simp; omega
    exact Ary.ofArv R' (by rw [e6]) (by rw [e6]; exact lb)
theorem xBaload (K : Wk p l e R s m args below meth c Z a0 EL own mx sf0 sf T locs cells slots h) (pc' : Nat) {a : Addr} {vs : List Value} {j : Int32} {rest : List Value} (A : Ary Z h a .byte vs) (hall : ∀ v ∈ vs, ∃ b, v = Value.int b) (hj : ¬ j < 0) (hl : j.toNatClampNeg < vs.length) (hd : decode c.code pc = .ok (.baload, 1)) (kk : ∀ b : Int32, Owe p e below Post T (mkF m pc' ls (.int b :: rest))) (hp : pc + 1 = pc' := by rfl) : Owe p e below Post T (mkF m pc ls (.int j :: .ref a :: rest)) := by
  obtain ⟨b, hb⟩ := hall _ (List.getElem_mem hl)
  exact oBaload K pc' A _ hj rfl ((List.getElem?_eq_getElem hl).trans (congrArg some hb)) hd (kk b) hp
/-! ### a JDK law in RoadKit's shape pays a call -/
/-! ### the end -/
theorem xRet {g : JFrame} (K : Wk p l e R s m args below meth c Z a0 EL own mx sf0 sf T locs cells slots h) {Q : Option Value → Heap → List Addr → Prop} {v : Option Value} (fs : List Addr) (hcl : cells ≤ R.cells) (hsl : slots ≤ R.slots) (hv : meth.sig.returnType = none → v = none) (hlk : meth.locks = false) (hfs : ∀ x ∈ fs, x ∈ sf ∧ s.heap.size ≤ x) (hQ : Q v h fs)
    (st : ∀ (s' : State) (fr : List Frame), Stand p l e R s' m args below meth c T locs cells slots → (∀ (f : JFrame) (acts : List Action), f.method = m → f.locked = none → f.entered = [] → (doReturn e (T.setTop f) acts v).1 = T.setFrames fr) → Steps p.tables e below (T.setTop g) (T.setFrames fr)) : Owe p e below (PostW Z EL sf0 R Q s) T g := by
  obtain ⟨q0, vm0, k0, X, eT, hS, hk, hZ, hown, hC, N, Ez, Kp, M⟩ := K
  obtain ⟨fr, hr, hrun, hend, w1, w2, w3, w4⟩ := X.leaveW hS (by rw [eT]; exact hk) (v := v) hv hlk
  subst eT
  have hA := CHv.at X hZ q0.2.1 hC.1
  exact ⟨_, _, st _ fr X hr, hrun, hend, v, locs, fs, rfl, hQ, N, Ez, Kp, hC.trans hA, fun x hx => ⟨(M x (hfs x hx).1).1, (M x (hfs x hx).1).2.1, (hfs x hx).2, hA.safe (M x (hfs x hx).1).1 (M x (hfs x hx).1).2.2.2⟩, w1, w2, w3, w4.mono hcl hsl⟩
theorem oRetV (K : Wk p l e R s m args below meth c Z a0 EL own mx sf0 sf T locs cells slots h) {Q : Option Value → Heap → List Addr → Prop} (fs : List Addr) {pc : Nat} {Ls : Array Slot} (hret : meth.sig.returnType = none) (hd : decode c.code pc = .ok (.return_, 1)) (hcl : cells ≤ R.cells) (hsl : slots ≤ R.slots) (hlk : meth.locks = false) (hfs : ∀ x ∈ fs, x ∈ sf ∧ s.heap.size ≤ x) (hQ : Q none h fs) : Owe p e below (PostW Z EL sf0 R Q s) T (mkF m pc Ls []) :=
  xRet K fs hcl hsl (fun _ => rfl) hlk hfs hQ (fun s' fr X hr => X.returnOut K.hx hret hd hr)
theorem oRetI (K : Wk p l e R s m args below meth c Z a0 EL own mx sf0 sf T locs cells slots h) {Q : Option Value → Heap → List Addr → Prop} (fs : List Addr) {pc : Nat} {Ls : Array Slot} {z : Int32} {t : FieldType} {rest : List Value} (hret : meth.sig.returnType = some t) (ht : t = .int ∨ t = .boolean ∨ t = .byte ∨ t = .char ∨ t = .short) (hn : narrow t (.int z) = .int z) (hd : decode c.code pc = .ok (.ireturn, 1)) (hcl : cells ≤ R.cells) (hsl : slots ≤ R.slots) (hlk : meth.locks = false) (hfs : ∀ x ∈ fs, x ∈ sf ∧ s.heap.size ≤ x) (hQ : Q (some (.int z)) h fs) : Owe p e below (PostW Z EL sf0 R Q s) T (mkF m pc Ls (.int z :: rest)) :=
  xRet K fs hcl hsl (fun q => by rw [hret] at q; cases q) hlk hfs hQ (fun s' fr X hr => retOut X K.hx hret hn (Or.inl ⟨rfl, ht, z, rfl⟩) hd hr)
theorem oRetA (K : Wk p l e R s m args below meth c Z a0 EL own mx sf0 sf T locs cells slots h) {Q : Option Value → Heap → List Addr → Prop} (fs : List Addr) {pc : Nat} {Ls : Array Slot} {w : Value} {t : FieldType} {rest : List Value} (hret : meth.sig.returnType = some t) (ht : t.isReference = true) (hw : w.isRef = true) (hd : decode c.code pc = .ok (.areturn, 1)) (hcl : cells ≤ R.cells) (hsl : slots ≤ R.slots) (hlk : meth.locks = false) (hfs : ∀ x ∈ fs, x ∈ sf ∧ s.heap.size ≤ x) (hQ : Q (some w) h fs) : Owe p e below (PostW Z EL sf0 R Q s) T (mkF m pc Ls (w :: rest)) :=
  xRet K fs hcl hsl (fun q => by rw [hret] at q; cases q) hlk hfs hQ (fun s' fr X hr => retOut X K.hx hret (by rcases ref_cases hw with rfl | ⟨_, rfl⟩ <;> cases t <;> first | rfl | (cases ht)) (Or.inr (Or.inr (Or.inr (Or.inr ⟨rfl, ht, hw⟩)))) hd hr)
/-! ### plain steps -/
theorem oAloadN (K : Wk p l e R s m args below meth c Z a0 EL own mx sf0 sf T locs cells slots h) (pc' : Nat) {k : Fin 4} {v : Value} (hd : decode c.code pc = .ok (.aload_n k, 1)) (hl : ls[k.val]? = some (.val v)) (hv : v.isRef = true) (kk : Owe p e below Post T (mkF m pc' ls (v :: st))) (hp : pc + 1 = pc' := by rfl) : Owe p e below Post T (mkF m pc ls st) := by
  subst hp
  have hg : (mkF m pc ls st).method = m := rfl
  exact Owe.via (fun _ q => XS.aloadN K.here K.hx hg hd hl hv q) kk
theorem oAload (K : Wk p l e R s m args below meth c Z a0 EL own mx sf0 sf T locs cells slots h) (pc' : Nat) {k : Nat} {v : Value} (hd : decode c.code pc = .ok (.aload k, 2)) (hl : ls[k]? = some (.val v)) (hv : v.isRef = true) (kk : Owe p e below Post T (mkF m pc' ls (v :: st))) (hp : pc + 2 = pc' := by rfl) : Owe p e below Post T (mkF m pc ls st) := by
  subst hp
  have hg : (mkF m pc ls st).method = m := rfl
  exact Owe.via (fun _ q => XS.aload K.here K.hx hg hd hl hv q) kk
theorem oIloadN (K : Wk p l e R s m args below meth c Z a0 EL own mx sf0 sf T locs cells slots h) (pc' : Nat) {k : Fin 4} {v : Int32} (hd : decode c.code pc = .ok (.iload_n k, 1)) (hl : ls[k.val]? = some (.val (.int v))) (kk : Owe p e below Post T (mkF m pc' ls (.int v :: st))) (hp : pc + 1 = pc' := by rfl) : Owe p e below Post T (mkF m pc ls st) := by
  subst hp
  have hg : (mkF m pc ls st).method = m := rfl
  exact Owe.via (fun _ q => XS.iloadN K.here K.hx hg hd hl q) kk
theorem oIload (K : Wk p l e R s m args below meth c Z a0 EL own mx sf0 sf T locs cells slots h) (pc' : Nat) {k : Nat} {v : Int32} (hd : decode c.code pc = .ok (.iload k, 2)) (hl : ls[k]? = some (.val (.int v))) (kk : Owe p e below Post T (mkF m pc' ls (.int v :: st))) (hp : pc + 2 = pc' := by rfl) : Owe p e below Post T (mkF m pc ls st) := by
  subst hp
  have hg : (mkF m pc ls st).method = m := rfl
  exact Owe.via (fun _ q => XS.iload K.here K.hx hg hd hl q) kk
theorem oAconstNull (K : Wk p l e R s m args below meth c Z a0 EL own mx sf0 sf T locs cells slots h) (pc' : Nat) (hd : decode c.code pc = .ok (.aconst_null, 1)) (kk : Owe p e below Post T (mkF m pc' ls (.null :: st))) (hp : pc + 1 = pc' := by rfl) : Owe p e below Post T (mkF m pc ls st) := by
  subst hp
  have hg : (mkF m pc ls st).method = m := rfl
  exact Owe.via (fun _ q => XS.aconstNull K.here K.hx hg hd q) kk
theorem oIadd (K : Wk p l e R s m args below meth c Z a0 EL own mx sf0 sf T locs cells slots h) (pc' : Nat) {x y : Int32} {rest : List Value} (hd : decode c.code pc = .ok (.iadd, 1)) (kk : Owe p e below Post T (mkF m pc' ls (.int (x + y) :: rest))) (hp : pc + 1 = pc' := by rfl) : Owe p e below Post T (mkF m pc ls (.int y :: .int x :: rest)) := by
  subst hp
  have hg : (mkF m pc ls (.int y :: .int x :: rest)).method = m := rfl
  have hs : (mkF m pc ls (.int y :: .int x :: rest)).stack = (.int y :: .int x :: rest) := rfl
  exact Owe.via (fun _ q => XS.iadd K.here K.hx hg hd hs q) kk
theorem oIsub (K : Wk p l e R s m args below meth c Z a0 EL own mx sf0 sf T locs cells slots h) (pc' : Nat) {x y : Int32} {rest : List Value} (hd : decode c.code pc = .ok (.isub, 1)) (kk : Owe p e below Post T (mkF m pc' ls (.int (x - y) :: rest))) (hp : pc + 1 = pc' := by rfl) : Owe p e below Post T (mkF m pc ls (.int y :: .int x :: rest)) := by
  subst hp
  have hg : (mkF m pc ls (.int y :: .int x :: rest)).method = m := rfl
  have hs : (mkF m pc ls (.int y :: .int x :: rest)).stack = (.int y :: .int x :: rest) := rfl
  exact Owe.via (fun _ q => XS.isub K.here K.hx hg hd hs q) kk
theorem oIand (K : Wk p l e R s m args below meth c Z a0 EL own mx sf0 sf T locs cells slots h) (pc' : Nat) {x y : Int32} {rest : List Value} (hd : decode c.code pc = .ok (.iand, 1)) (kk : Owe p e below Post T (mkF m pc' ls (.int (x &&& y) :: rest))) (hp : pc + 1 = pc' := by rfl) : Owe p e below Post T (mkF m pc ls (.int y :: .int x :: rest)) := by
  subst hp
  have hg : (mkF m pc ls (.int y :: .int x :: rest)).method = m := rfl
  have hs : (mkF m pc ls (.int y :: .int x :: rest)).stack = (.int y :: .int x :: rest) := rfl
  exact Owe.via (fun _ q => XS.iand K.here K.hx hg hd hs q) kk
theorem oDup (K : Wk p l e R s m args below meth c Z a0 EL own mx sf0 sf T locs cells slots h) (pc' : Nat) {x : Value} {rest : List Value} (hd : decode c.code pc = .ok (.dup, 1)) (hc : x.category = 1) (kk : Owe p e below Post T (mkF m pc' ls (x :: x :: rest))) (hp : pc + 1 = pc' := by rfl) : Owe p e below Post T (mkF m pc ls (x :: rest)) := by
  subst hp
  have hg : (mkF m pc ls (x :: rest)).method = m := rfl
  have hs : (mkF m pc ls (x :: rest)).stack = (x :: rest) := rfl
  exact Owe.via (fun _ q => XS.dup K.here K.hx hg hd hs hc q) kk
theorem oIstoreN (K : Wk p l e R s m args below meth c Z a0 EL own mx sf0 sf T locs cells slots h) (pc' : Nat) {k : Fin 4} {x : Int32} {rest : List Value} {l' : Array Slot} (hd : decode c.code pc = .ok (.istore_n k, 1)) (hl : storeLocals ls k.val (.int x) = some l') (kk : Owe p e below Post T (mkF m pc' l' (rest))) (hp : pc + 1 = pc' := by rfl) : Owe p e below Post T (mkF m pc ls (.int x :: rest)) := by
  subst hp
  have hg : (mkF m pc ls (.int x :: rest)).method = m := rfl
  have hs : (mkF m pc ls (.int x :: rest)).stack = (.int x :: rest) := rfl
  exact Owe.via (fun _ q => XS.istoreN K.here K.hx hg hd hs hl q) kk
theorem oIstore (K : Wk p l e R s m args below meth c Z a0 EL own mx sf0 sf T locs cells slots h) (pc' : Nat) {k : Nat} {x : Int32} {rest : List Value} {l' : Array Slot} (hd : decode c.code pc = .ok (.istore k, 2)) (hl : storeLocals ls k (.int x) = some l') (kk : Owe p e below Post T (mkF m pc' l' (rest))) (hp : pc + 2 = pc' := by rfl) : Owe p e below Post T (mkF m pc ls (.int x :: rest)) := by
  subst hp
  have hg : (mkF m pc ls (.int x :: rest)).method = m := rfl
  have hs : (mkF m pc ls (.int x :: rest)).stack = (.int x :: rest) := rfl
  exact Owe.via (fun _ q => XS.istore K.here K.hx hg hd hs hl q) kk
theorem oAstoreN (K : Wk p l e R s m args below meth c Z a0 EL own mx sf0 sf T locs cells slots h) (pc' : Nat) {k : Fin 4} {x : Value} {rest : List Value} {l' : Array Slot} (hd : decode c.code pc = .ok (.astore_n k, 1)) (hv : x.isRef = true) (hl : storeLocals ls k.val x = some l') (kk : Owe p e below Post T (mkF m pc' l' (rest))) (hp : pc + 1 = pc' := by rfl) : Owe p e below Post T (mkF m pc ls (x :: rest)) := by
  subst hp
  have hg : (mkF m pc ls (x :: rest)).method = m := rfl
  have hs : (mkF m pc ls (x :: rest)).stack = (x :: rest) := rfl
  exact Owe.via (fun _ q => XS.astoreN K.here K.hx hg hd hs hv hl q) kk
theorem oAstore (K : Wk p l e R s m args below meth c Z a0 EL own mx sf0 sf T locs cells slots h) (pc' : Nat) {k : Nat} {x : Value} {rest : List Value} {l' : Array Slot} (hd : decode c.code pc = .ok (.astore k, 2)) (hv : x.isRef = true) (hl : storeLocals ls k x = some l') (kk : Owe p e below Post T (mkF m pc' l' (rest))) (hp : pc + 2 = pc' := by rfl) : Owe p e below Post T (mkF m pc ls (x :: rest)) := by
  subst hp
  have hg : (mkF m pc ls (x :: rest)).method = m := rfl
  have hs : (mkF m pc ls (x :: rest)).stack = (x :: rest) := rfl
  exact Owe.via (fun _ q => XS.astore K.here K.hx hg hd hs hv hl q) kk
theorem oGoto (K : Wk p l e R s m args below meth c Z a0 EL own mx sf0 sf T locs cells slots h) (pc' : Nat) {o : Int}  (hd : decode c.code pc = .ok (.goto o, 3)) (kk : Owe p e below Post T (mkF m pc' ls (st))) (ho : 0 ≤ (pc : Int) + o := by decide) (hp : ((pc : Int) + o).toNat = pc' := by decide) : Owe p e below Post T (mkF m pc ls st) := by
  have hg : (mkF m pc ls st).method = m := rfl
  have hpc : (mkF m pc ls st).pc = pc := rfl
  exact Owe.via (fun _ q => XS.goto K.here K.hx hg hpc hd ho hp q) kk
theorem oIfYes (K : Wk p l e R s m args below meth c Z a0 EL own mx sf0 sf T locs cells slots h) (pc' : Nat) {cd : ClassFile.Cond} {x : Int32} {rest : List Value} {o : Int}  (hd : decode c.code pc = .ok (.ifCond cd o, 3)) (hc : ifCond.holds cd x = true) (kk : Owe p e below Post T (mkF m pc' ls (rest))) (ho : 0 ≤ (pc : Int) + o := by decide) (hp : ((pc : Int) + o).toNat = pc' := by decide) : Owe p e below Post T (mkF m pc ls (.int x :: rest)) := by
  have hg : (mkF m pc ls (.int x :: rest)).method = m := rfl
  have hs : (mkF m pc ls (.int x :: rest)).stack = (.int x :: rest) := rfl
  have hpc : (mkF m pc ls (.int x :: rest)).pc = pc := rfl
  exact Owe.via (fun _ q => XS.ifYes K.here K.hx hg hpc hd hs hc ho hp q) kk
theorem oIfNo (K : Wk p l e R s m args below meth c Z a0 EL own mx sf0 sf T locs cells slots h) (pc' : Nat) {cd : ClassFile.Cond} {o : Int} {x : Int32} {rest : List Value} (hd : decode c.code pc = .ok (.ifCond cd o, 3)) (hc : ifCond.holds cd x = false) (kk : Owe p e below Post T (mkF m pc' ls (rest))) (hp : pc + 3 = pc' := by rfl) : Owe p e below Post T (mkF m pc ls (.int x :: rest)) := by
  subst hp
  have hg : (mkF m pc ls (.int x :: rest)).method = m := rfl
  have hs : (mkF m pc ls (.int x :: rest)).stack = (.int x :: rest) := rfl
  exact Owe.via (fun _ q => XS.ifNo K.here K.hx hg hd hs hc q) kk
theorem oIcmpYes (K : Wk p l e R s m args below meth c Z a0 EL own mx sf0 sf T locs cells slots h) (pc' : Nat) {cd : ClassFile.Cond} {x y : Int32} {rest : List Value} {o : Int}  (hd : decode c.code pc = .ok (.if_icmp cd o, 3)) (hc : if_icmp.holds cd x y = true) (kk : Owe p e below Post T (mkF m pc' ls (rest))) (ho : 0 ≤ (pc : Int) + o := by decide) (hp : ((pc : Int) + o).toNat = pc' := by decide) : Owe p e below Post T (mkF m pc ls (.int y :: .int x :: rest)) := by
  have hg : (mkF m pc ls (.int y :: .int x :: rest)).method = m := rfl
  have hs : (mkF m pc ls (.int y :: .int x :: rest)).stack = (.int y :: .int x :: rest) := rfl
  have hpc : (mkF m pc ls (.int y :: .int x :: rest)).pc = pc := rfl
  exact Owe.via (fun _ q => XS.icmpYes K.here K.hx hg hpc hd hs hc ho hp q) kk
theorem oIcmpNo (K : Wk p l e R s m args below meth c Z a0 EL own mx sf0 sf T locs cells slots h) (pc' : Nat) {cd : ClassFile.Cond} {o : Int} {x y : Int32} {rest : List Value} (hd : decode c.code pc = .ok (.if_icmp cd o, 3)) (hc : if_icmp.holds cd x y = false) (kk : Owe p e below Post T (mkF m pc' ls (rest))) (hp : pc + 3 = pc' := by rfl) : Owe p e below Post T (mkF m pc ls (.int y :: .int x :: rest)) := by
  subst hp
  have hg : (mkF m pc ls (.int y :: .int x :: rest)).method = m := rfl
  have hs : (mkF m pc ls (.int y :: .int x :: rest)).stack = (.int y :: .int x :: rest) := rfl
  exact Owe.via (fun _ q => XS.icmpNo K.here K.hx hg hd hs hc q) kk
theorem oIfnullNo (K : Wk p l e R s m args below meth c Z a0 EL own mx sf0 sf T locs cells slots h) (pc' : Nat) {o : Int} {b : Addr} {rest : List Value} (hd : decode c.code pc = .ok (.ifnull o, 3)) (kk : Owe p e below Post T (mkF m pc' ls (rest))) (hp : pc + 3 = pc' := by rfl) : Owe p e below Post T (mkF m pc ls (.ref b :: rest)) := by
  subst hp
  have hg : (mkF m pc ls (.ref b :: rest)).method = m := rfl
  have hs : (mkF m pc ls (.ref b :: rest)).stack = (.ref b :: rest) := rfl
  exact Owe.via (fun _ q => XS.ifnullNo K.here K.hx hg hd hs q) kk
theorem oImul (K : Wk p l e R s m args below meth c Z a0 EL own mx sf0 sf T locs cells slots h) (pc' : Nat) {x y : Int32} {rest : List Value} (hd : decode c.code pc = .ok (.imul, 1)) (kk : Owe p e below Post T (mkF m pc' ls (.int (x * y) :: rest))) (hp : pc + 1 = pc' := by rfl) : Owe p e below Post T (mkF m pc ls (.int y :: .int x :: rest)) := by
  subst hp
  have hg : (mkF m pc ls (.int y :: .int x :: rest)).method = m := rfl
  have hs : (mkF m pc ls (.int y :: .int x :: rest)).stack = (.int y :: .int x :: rest) := rfl
  exact Owe.via (fun _ q => XS.imul K.here K.hx hg hd hs q) kk
theorem oIrem (K : Wk p l e R s m args below meth c Z a0 EL own mx sf0 sf T locs cells slots h) (pc' : Nat) {x y : Int32} {rest : List Value} (hd : decode c.code pc = .ok (.irem, 1)) (hy : y ≠ 0) (kk : Owe p e below Post T (mkF m pc' ls (.int (x % y) :: rest))) (hp : pc + 1 = pc' := by rfl) : Owe p e below Post T (mkF m pc ls (.int y :: .int x :: rest)) := by
  subst hp
  have hg : (mkF m pc ls (.int y :: .int x :: rest)).method = m := rfl
  have hs : (mkF m pc ls (.int y :: .int x :: rest)).stack = (.int y :: .int x :: rest) := rfl
  obtain ⟨q0, vm0, k0, X, q⟩ := K
  exact Owe.via (fun _ r => iremM X q0.1 hg hd hs hy r) kk
theorem oIinc (K : Wk p l e R s m args below meth c Z a0 EL own mx sf0 sf T locs cells slots h) (pc' : Nat) {k : Nat} {cst : Int} {x : Int32} {l' : Array Slot} (hd : decode c.code pc = .ok (.iinc k cst, 3)) (hl : ls[k]? = some (.val (.int x))) (hl' : storeLocals ls k (.int (x + Int32.ofInt cst)) = some l') (kk : Owe p e below Post T (mkF m pc' l' (st))) (hp : pc + 3 = pc' := by rfl) : Owe p e below Post T (mkF m pc ls st) := by
  subst hp
  have hg : (mkF m pc ls st).method = m := rfl
  exact Owe.via (fun _ q => XS.iinc K.here K.hx hg hd hl hl' q) kk
theorem oIor (K : Wk p l e R s m args below meth c Z a0 EL own mx sf0 sf T locs cells slots h) (pc' : Nat) {x y : Int32} {rest : List Value} (hd : decode c.code pc = .ok (.ior, 1)) (kk : Owe p e below Post T (mkF m pc' ls (.int (x ||| y) :: rest))) (hp : pc + 1 = pc' := by rfl) : Owe p e below Post T (mkF m pc ls (.int y :: .int x :: rest)) := by
  subst hp
  have hg : (mkF m pc ls (.int y :: .int x :: rest)).method = m := rfl
  have hs : (mkF m pc ls (.int y :: .int x :: rest)).stack = (.int y :: .int x :: rest) := rfl
  exact Owe.via (fun _ q => XT.ior K.here K.hx hg hd hs q) kk
theorem oIshl (K : Wk p l e R s m args below meth c Z a0 EL own mx sf0 sf T locs cells slots h) (pc' : Nat) {x y : Int32} {rest : List Value} (hd : decode c.code pc = .ok (.ishl, 1)) (kk : Owe p e below Post T (mkF m pc' ls (.int (x <<< (y &&& 31)) :: rest))) (hp : pc + 1 = pc' := by rfl) : Owe p e below Post T (mkF m pc ls (.int y :: .int x :: rest)) := by
  subst hp
  have hg : (mkF m pc ls (.int y :: .int x :: rest)).method = m := rfl
  have hs : (mkF m pc ls (.int y :: .int x :: rest)).stack = (.int y :: .int x :: rest) := rfl
  exact Owe.via (fun _ q => XT.ishl K.here K.hx hg hd hs q) kk
theorem oIshr (K : Wk p l e R s m args below meth c Z a0 EL own mx sf0 sf T locs cells slots h) (pc' : Nat) {x y : Int32} {rest : List Value} (hd : decode c.code pc = .ok (.ishr, 1)) (kk : Owe p e below Post T (mkF m pc' ls (.int (x >>> (y &&& 31)) :: rest))) (hp : pc + 1 = pc' := by rfl) : Owe p e below Post T (mkF m pc ls (.int y :: .int x :: rest)) := by
  subst hp
  have hg : (mkF m pc ls (.int y :: .int x :: rest)).method = m := rfl
  have hs : (mkF m pc ls (.int y :: .int x :: rest)).stack = (.int y :: .int x :: rest) := rfl
  exact Owe.via (fun _ q => XT.ishr K.here K.hx hg hd hs q) kk
theorem oIushr (K : Wk p l e R s m args below meth c Z a0 EL own mx sf0 sf T locs cells slots h) (pc' : Nat) {x y : Int32} {rest : List Value} (hd : decode c.code pc = .ok (.iushr, 1)) (kk : Owe p e below Post T (mkF m pc' ls (.int (XT.ushr x y) :: rest))) (hp : pc + 1 = pc' := by rfl) : Owe p e below Post T (mkF m pc ls (.int y :: .int x :: rest)) := by
  subst hp
  have hg : (mkF m pc ls (.int y :: .int x :: rest)).method = m := rfl
  have hs : (mkF m pc ls (.int y :: .int x :: rest)).stack = (.int y :: .int x :: rest) := rfl
  exact Owe.via (fun _ q => XT.iushr K.here K.hx hg hd hs q) kk
theorem oI2b (K : Wk p l e R s m args below meth c Z a0 EL own mx sf0 sf T locs cells slots h) (pc' : Nat) {x : Int32} {rest : List Value} (hd : decode c.code pc = .ok (.i2b, 1)) (kk : Owe p e below Post T (mkF m pc' ls (.int (x.toInt8.toInt32) :: rest))) (hp : pc + 1 = pc' := by rfl) : Owe p e below Post T (mkF m pc ls (.int x :: rest)) := by
  subst hp
  have hg : (mkF m pc ls (.int x :: rest)).method = m := rfl
  have hs : (mkF m pc ls (.int x :: rest)).stack = (.int x :: rest) := rfl
  exact Owe.via (fun _ q => XT.i2b K.here K.hx hg hd hs q) kk
theorem oI2c (K : Wk p l e R s m args below meth c Z a0 EL own mx sf0 sf T locs cells slots h) (pc' : Nat) {x : Int32} {rest : List Value} (hd : decode c.code pc = .ok (.i2c, 1)) (kk : Owe p e below Post T (mkF m pc' ls (.int (x.toUInt32.toUInt16.toUInt32.toInt32) :: rest))) (hp : pc + 1 = pc' := by rfl) : Owe p e below Post T (mkF m pc ls (.int x :: rest)) := by
  subst hp
  have hg : (mkF m pc ls (.int x :: rest)).method = m := rfl
  have hs : (mkF m pc ls (.int x :: rest)).stack = (.int x :: rest) := rfl
  exact Owe.via (fun _ q => XT.i2c K.here K.hx hg hd hs q) kk
theorem oPop (K : Wk p l e R s m args below meth c Z a0 EL own mx sf0 sf T locs cells slots h) (pc' : Nat) {x : Value} {rest : List Value} (hd : decode c.code pc = .ok (.pop, 1)) (hc : x.category = 1) (kk : Owe p e below Post T (mkF m pc' ls (rest))) (hp : pc + 1 = pc' := by rfl) : Owe p e below Post T (mkF m pc ls (x :: rest)) := by
  subst hp
  have hg : (mkF m pc ls (x :: rest)).method = m := rfl
  have hs : (mkF m pc ls (x :: rest)).stack = (x :: rest) := rfl
  exact Owe.via (fun _ q => XT.pop K.here K.hx hg hd hs hc q) kk
theorem oIfnonnullNo (K : Wk p l e R s m args below meth c Z a0 EL own mx sf0 sf T locs cells slots h) (pc' : Nat) {o : Int} {rest : List Value} (hd : decode c.code pc = .ok (.ifnonnull o, 3)) (kk : Owe p e below Post T (mkF m pc' ls (rest))) (hp : pc + 3 = pc' := by rfl) : Owe p e below Post T (mkF m pc ls (.null :: rest)) := by
  subst hp
  have hg : (mkF m pc ls (.null :: rest)).method = m := rfl
  have hs : (mkF m pc ls (.null :: rest)).stack = (.null :: rest) := rfl
  exact Owe.via (fun _ q => XT.ifnonnullNo K.here K.hx hg hd hs q) kk
theorem oIconstV (K : Wk p l e R s m args below meth c Z a0 EL own mx sf0 sf T locs cells slots h) (pc' : Nat) {i : Int} (v : Int32) (hd : decode c.code pc = .ok (.iconst i, 1)) (hv : Int32.ofInt i = v) (kk : Owe p e below Post T (mkF m pc' ls (.int v :: st))) (hp : pc + 1 = pc' := by rfl) : Owe p e below Post T (mkF m pc ls st) := by
  subst hp
  have hg : (mkF m pc ls st).method = m := rfl
  exact Owe.via (fun _ q => XT.iconstV K.here K.hx hg v hd hv q) kk
theorem oBipushV (K : Wk p l e R s m args below meth c Z a0 EL own mx sf0 sf T locs cells slots h) (pc' : Nat) {i : Int} (v : Int32) (hd : decode c.code pc = .ok (.bipush i, 2)) (hv : (Int8.ofInt i).toInt32 = v) (kk : Owe p e below Post T (mkF m pc' ls (.int v :: st))) (hp : pc + 2 = pc' := by rfl) : Owe p e below Post T (mkF m pc ls st) := by
  subst hp
  have hg : (mkF m pc ls st).method = m := rfl
  exact Owe.via (fun _ q => XT.bipushV K.here K.hx hg v hd hv q) kk
theorem oSipushV (K : Wk p l e R s m args below meth c Z a0 EL own mx sf0 sf T locs cells slots h) (pc' : Nat) {i : Int} (v : Int32) (hd : decode c.code pc = .ok (.sipush i, 3)) (hv : (Int16.ofInt i).toInt32 = v) (kk : Owe p e below Post T (mkF m pc' ls (.int v :: st))) (hp : pc + 3 = pc' := by rfl) : Owe p e below Post T (mkF m pc ls st) := by
  subst hp
  have hg : (mkF m pc ls st).method = m := rfl
  exact Owe.via (fun _ q => XT.sipushV K.here K.hx hg v hd hv q) kk
end Walk
end Jvm.OwnKit



namespace Jvm.Pilot.@@N@@
open Jvm Jvm.ClassFile Sem Op Lib Jvm.Free Jvm.Stand Jvm.LawKit Jvm.RoadKit Jvm.OwnKit Bundle Jvm.Pilot.@@N@@.Jvm.D
set_option maxRecDepth 65536
set_option maxHeartbeats 4000000
abbrev rmk (f ce sl lo : Nat) : Room := { frames := f, cells := ce, slots := sl, locals := lo }
abbrev ELs : List (String × Nat) := [("com/example/paredown/paredown/PercentEncodingDecodeBytesPinLaw", 7), ("java/lang/String", 7)]
def Gl (Z : State) (a0 : Array Value) (z0 : Int32) (fm : Value) : Prop := (∀ d ∈ tables_1, d.before a0 Z = true) ∧ EW Z a0 ELs ∧ (∀ a ∈ Bundle.stringAtoms, a.before a0 Z = true) ∧ (Sta Z Z.heap "java/lang/String" "COMPACT_STRINGS" "Z" (.int z0)) ∧ (¬ z0 = (0 : Int32)) ∧ (Sta Z Z.heap "java/lang/StringUTF16" "$assertionsDisabled" "Z" (.int (1 : Int32))) ∧ (Sta Z Z.heap "java/lang/StringUTF16" "HI_BYTE_SHIFT" "I" (.int (0 : Int32))) ∧ (Sta Z Z.heap "java/lang/StringUTF16" "LO_BYTE_SHIFT" "I" (.int (8 : Int32))) ∧ (Sta Z Z.heap "jdk/internal/util/Preconditions" "SIOOBE_FORMATTER" "Ljava/util/function/BiFunction;" fm) ∧ (fm.isRef = true)
theorem wq {Z : State} {a0 : Array Value} (hw : ∀ d ∈ tables_1, d.before a0 Z = true) {d : Jvm.Cond} (i : Nat) (h : tables_1[i]? = some d := by rfl) : d.before a0 Z = true := hw d (List.mem_of_getElem? h)
abbrev DC (b : ByteArray) (pc : Nat) (i : Instr) (n : Nat) : Prop := ∀ {c : Code}, c.code = b → decode c.code pc = .ok (i, n)
theorem hb' {b : ByteArray} {pc n : Nat} {i : Instr} (h : decode b pc = .ok (i, n)) : DC b pc i n := fun q => hb q h
abbrev Own (Z : State) (h0 : Heap) (sf : List Addr) : Prop := ∀ x ∈ sf, x < h0.size ∧ Z.heap.size ≤ x
variable (l : Launch) (Z : State) (a0 : Array Value) (z0 : Int32) (fm : Value)
variable {p : Program} {e : Env} {s : State} {m : MethodId} {below : List Frame} {meth : Method} {c : Code} {T0 : State} {lo0 : List Loc}
theorem nar_rng {c : Int32} (h1 : ¬ c < (0 : Int32)) (h2 : ¬ (65535 : Int32) < c) : nar .char c = c := chr_id h1 h2
theorem narrow_rng {c : Int32} (h1 : ¬ c < (0 : Int32)) (h2 : ¬ (65535 : Int32) < c) : narrow .char (.int c) = .int c := congrArg Value.int (chr_id h1 h2)
theorem c_byt (x : Int32) : ((byt x).toInt - x.toInt) % 256 = 0 ∧ -128 ≤ (byt x).toInt ∧ (byt x).toInt < 128 := c_i2b x
theorem c_chr (x : Int32) : ((chr x).toInt - x.toInt) % 65536 = 0 ∧ 0 ≤ (chr x).toInt ∧ (chr x).toInt < 65536 := c_i2c x
theorem own_lat {c : Int32} (h1 : ¬ c < (0 : Int32)) (h2 : ¬ (255 : Int32) < c) : (byt c) &&& (255 : Int32) = c := by
  simp only [Int32.lt_iff_toInt_lt, Int32.reduceToInt] at h1 h2
  have b := c_byt c
  have d := c_mask (byt c) 255 8 (by decide) (by decide)
  refine Int32.toInt_inj.mp ?_
  omega
theorem own_getc {c : Int32} (h1 : ¬ c < (0 : Int32)) (h2 : ¬ (65535 : Int32) < c) : chr ((((byt (c >>> ((0 : Int32) &&& 31))) &&& (255 : Int32)) <<< ((0 : Int32) &&& 31)) ||| (((byt (c >>> ((8 : Int32) &&& 31))) &&& (255 : Int32)) <<< ((8 : Int32) &&& 31))) = c := by
  simp only [Int32.lt_iff_toInt_lt, Int32.reduceToInt] at h1 h2
  have a1 := c_ishr c 0 0 (by decide)
  have a2 := c_ishr c 8 8 (by decide)
  have b1 := c_byt (c >>> ((0 : Int32) &&& 31))
  have b2 := c_byt (c >>> ((8 : Int32) &&& 31))
  have d1 := c_mask (byt (c >>> ((0 : Int32) &&& 31))) 255 8 (by decide) (by decide)
  have d2 := c_mask (byt (c >>> ((8 : Int32) &&& 31))) 255 8 (by decide) (by decide)
  generalize byt (c >>> ((0 : Int32) &&& 31)) &&& 255 = u at *
  generalize byt (c >>> ((8 : Int32) &&& 31)) &&& 255 = v at *
  have e1 := c_ishl u 0 0 (by decide)
  have e2 := c_ishl v 8 8 (by decide)
  have r1 := rng32 (u <<< ((0 : Int32) &&& 31))
  have r2 := rng32 (v <<< ((8 : Int32) &&& 31))
  have o := c_or' (u <<< ((0 : Int32) &&& 31)) (v <<< ((8 : Int32) &&& 31)) 8 (by decide) 256 (by decide)
  have r3 := rng32 (u <<< ((0 : Int32) &&& 31) ||| v <<< ((8 : Int32) &&& 31))
  have k := c_chr (u <<< ((0 : Int32) &&& 31) ||| v <<< ((8 : Int32) &&& 31))
  refine Int32.toInt_inj.mp ?_
  have hu : (u <<< ((0 : Int32) &&& 31)).toInt = u.toInt := by omega
  have hv : (v <<< ((8 : Int32) &&& 31)).toInt = v.toInt * 256 := by omega
  have o' := o (by omega) (by omega) (by omega)
  omega
theorem own_chl {c : Int32} (h1 : ¬ c < (0 : Int32)) (h2 : ¬ (255 : Int32) < c) : chr ((byt c) &&& (255 : Int32)) = c := by
  have q := own_lat h1 h2
  simp only [Int32.lt_iff_toInt_lt, Int32.reduceToInt] at h1 h2
  have k := c_chr ((byt c) &&& (255 : Int32))
  refine Int32.toInt_inj.mp ?_
  have q' := congrArg Int32.toInt q
  omega
def hx (c : Int32) : Int32 := if c < 48 then -1 else if ¬ 57 < c then c - 48 else if c < 65 then -1 else if ¬ 70 < c then c - 55 else if c < 97 then -1 else if ¬ 102 < c then c - 87 else -1
theorem hx_i (c : Int32) : (hx c).toInt = if c.toInt < 48 then -1 else if c.toInt ≤ 57 then c.toInt - 48 else if c.toInt < 65 then -1 else if c.toInt ≤ 70 then c.toInt - 55 else if c.toInt < 97 then -1 else if c.toInt ≤ 102 then c.toInt - 87 else -1 := by
  have a := c_isub c 48
  have b := c_isub c 55
  have d := c_isub c 87
  have ra := rng32 (c - 48)
  have rb := rng32 (c - 55)
  have rd := rng32 (c - 87)
  simp only [hx, Int32.lt_iff_toInt_lt, Int32.reduceToInt] at *
  repeat' split
  all_goals first | omega | rfl
theorem or32 (n : Nat) : n ||| 32 = if 32 ≤ n % 64 then n else n + 32 := by
  have h1 : n ||| 32 = 64 * (n / 64) + ((n % 64) ||| 32) := by
    have hr : n % 64 < 2 ^ 6 := Nat.mod_lt _ (by decide)
    have h2 : (n % 64 ||| 32) < 2 ^ 6 := Nat.or_lt_two_pow hr (by decide)
    have e1 := Nat.two_pow_add_eq_or_of_lt hr (n / 64)
    have e2 := Nat.two_pow_add_eq_or_of_lt h2 (n / 64)
    have e3 : n = 2 ^ 6 * (n / 64) + n % 64 := (Nat.div_add_mod n 64).symm
    calc n ||| 32 = (2 ^ 6 * (n / 64) + n % 64) ||| 32 := by rw [← e3]
      _ = (2 ^ 6 * (n / 64) ||| n % 64) ||| 32 := by rw [e1]
      _ = 2 ^ 6 * (n / 64) ||| (n % 64 ||| 32) := by rw [Nat.or_assoc]
      _ = _ := by rw [← e2]
  have h3 : ∀ r, r < 64 → (r ||| 32) = if 32 ≤ r then r else r + 32 := by decide +kernel
  rw [h1, h3 _ (Nat.mod_lt _ (by decide))]
  split <;> omega
theorem or32I {c : Int32} (h : 0 ≤ c.toInt) : (c ||| 32).toInt = if 32 ≤ c.toInt % 64 then c.toInt else c.toInt + 32 := by
  have hl := c.toBitVec.isLt
  have e0 : c.toInt = c.toBitVec.toNat := by
    have := BitVec.toInt_eq_toNat_cond c.toBitVec
    have q : c.toInt = c.toBitVec.toInt := rfl
    split at this <;> omega
  have e1 : (c ||| 32).toBitVec.toNat = c.toBitVec.toNat ||| 32 := by
    show (c.toBitVec ||| (32 : Int32).toBitVec).toNat = _
    rw [BitVec.toNat_or]; rfl
  have r := rng32 c
  rw [or32] at e1
  have e2 : (c ||| 32).toInt = (c ||| 32).toBitVec.toInt := rfl
  have e3 := BitVec.toInt_eq_toNat_cond (c ||| 32).toBitVec
  rw [e2, e3, e1]
  generalize c.toBitVec.toNat = k at *
  split at e1 <;> split <;> split <;> omega
theorem own_hexA {c : Int32} (h1 : ¬ c < (48 : Int32)) (h2 : ¬ (57 : Int32) < c) : c - 48 = hx c := by
  have a := c_isub c 48
  have r := rng32 (c - 48)
  refine Int32.toInt_inj.mp ?_
  rw [hx_i]
  simp only [Int32.lt_iff_toInt_lt, Int32.reduceToInt] at *
  repeat' split
  all_goals omega
theorem own_hexB {c : Int32} (h0 : ¬ c < (0 : Int32)) (n : c < (48 : Int32) ∨ (57 : Int32) < c) (h1 : ¬ (c ||| (32 : Int32)) < (97 : Int32)) (h2 : ¬ (102 : Int32) < (c ||| (32 : Int32))) : ((c ||| (32 : Int32)) - 97) + 10 = hx c := by
  simp only [Int32.lt_iff_toInt_lt, Int32.reduceToInt] at h0 h1 h2 n
  have o := or32I (c := c) (by omega)
  have a := c_isub (c ||| 32) 97
  have r := rng32 ((c ||| 32) - 97)
  have b := c_iadd ((c ||| 32) - 97) 10
  have r2 := rng32 ((c ||| 32) - 97 + 10)
  refine Int32.toInt_inj.mp ?_
  rw [hx_i]
  simp only [Int32.reduceToInt] at a b
  split at o <;> (repeat' split) <;> omega
theorem own_hexC {c : Int32} (h0 : ¬ c < (0 : Int32)) (n : c < (48 : Int32) ∨ (57 : Int32) < c) (h : (c ||| (32 : Int32)) < (97 : Int32) ∨ (102 : Int32) < (c ||| (32 : Int32))) : (-1 : Int32) = hx c := by
  simp only [Int32.lt_iff_toInt_lt, Int32.reduceToInt] at h0 h n
  have o := or32I (c := c) (by omega)
  refine Int32.toInt_inj.mp ?_
  rw [hx_i, show (-1 : Int32).toInt = -1 from rfl]
  split at o <;> (repeat' split) <;> omega
theorem own_hd97 {c : Int32} (h1 : ¬ c < (97 : Int32)) (h2 : ¬ (102 : Int32) < c) : (c - 97) + 10 = hx c := by
  have a := c_isub c 97
  have r := rng32 (c - 97)
  have b := c_iadd (c - 97) 10
  have r2 := rng32 (c - 97 + 10)
  refine Int32.toInt_inj.mp ?_
  rw [hx_i]
  simp only [Int32.lt_iff_toInt_lt, Int32.reduceToInt] at *
  repeat' split
  all_goals omega
theorem own_hd65 {c : Int32} (h1 : ¬ c < (65 : Int32)) (h2 : ¬ (70 : Int32) < c) : (c - 65) + 10 = hx c := by
  have a := c_isub c 65
  have r := rng32 (c - 65)
  have b := c_iadd (c - 65) 10
  have r2 := rng32 (c - 65 + 10)
  refine Int32.toInt_inj.mp ?_
  rw [hx_i]
  simp only [Int32.lt_iff_toInt_lt, Int32.reduceToInt] at *
  repeat' split
  all_goals omega
theorem own_hdN {c : Int32} (n1 : c < (48 : Int32) ∨ (57 : Int32) < c) (n2 : c < (97 : Int32) ∨ (102 : Int32) < c) (n3 : c < (65 : Int32) ∨ (70 : Int32) < c) : (-1 : Int32) = hx c := by
  refine Int32.toInt_inj.mp ?_
  rw [hx_i, show (-1 : Int32).toInt = -1 from rfl]
  simp only [Int32.lt_iff_toInt_lt, Int32.reduceToInt] at *
  repeat' split
  all_goals omega
theorem hx_r {c : Int32} (h : ¬ hx c < (0 : Int32)) : 0 ≤ (hx c).toInt ∧ (hx c).toInt ≤ 15 := by
  have e := hx_i c
  simp only [Int32.lt_iff_toInt_lt, Int32.reduceToInt] at h
  (repeat' split at e) <;> omega
abbrev okP (f c : Int32) : Prop := (¬ f = (0 : Int32) ∧ c = (43 : Int32)) ∨ ¬ (255 : Int32) < c
def one (f c : Int32) : Int32 := if ¬ f = (0 : Int32) ∧ c = (43 : Int32) then 32 else c
def tri (h l : Int32) : Int32 := hx h * 16 + hx l
abbrev FO (f c : Int32) : Prop := c = (37 : Int32) ∨ ¬ okP f c
abbrev FT (f c h l : Int32) : Prop := (c = (37 : Int32) ∧ ¬ (¬ hx h < (0 : Int32) ∧ ¬ hx l < (0 : Int32))) ∨ (¬ c = (37 : Int32) ∧ ¬ okP f c)
theorem own_one1 {f c : Int32} (h1 : ¬ f = (0 : Int32)) (h2 : c = (43 : Int32)) : (32 : Int32) = one f c := by rw [one, if_pos ⟨h1, h2⟩]
theorem own_one2 {f c : Int32} (h : f = (0 : Int32) ∨ ¬ c = (43 : Int32)) : one f c = c := by rw [one, if_neg (fun q => h.elim q.1 (fun z => z q.2))]
theorem own_oneP {f c : Int32} (h1 : ¬ f = (0 : Int32)) (h2 : c = (43 : Int32)) : byt (one f c) = (32 : Int32) := by rw [← own_one1 h1 h2]; decide
theorem own_nok {f c : Int32} (h : f = (0 : Int32) ∨ ¬ c = (43 : Int32)) (q : (255 : Int32) < c) : ¬ okP f c := fun z => z.elim (fun w => h.elim w.1 (fun u => u w.2)) (fun w => w q)
theorem own_oneR {f c : Int32} (h : okP f c) (r : ¬ c < (0 : Int32)) : ¬ one f c < (0 : Int32) ∧ ¬ (255 : Int32) < one f c := by
  unfold one
  split
  · decide
  · rename_i n
    rcases h with h | h
    · exact absurd h n
    · exact ⟨r, h⟩
theorem own_ftA {f c h l : Int32} (h1 : c = (37 : Int32)) (h2 : hx h < (0 : Int32)) : FT f c h l := Or.inl ⟨h1, fun q => q.1 h2⟩
theorem own_ftB {f c h l : Int32} (h1 : c = (37 : Int32)) (h2 : hx l < (0 : Int32)) : FT f c h l := Or.inl ⟨h1, fun q => q.2 h2⟩
theorem own_ftl {f c h l : Int32} (F : FT f c h l) (h1 : c = (37 : Int32)) (h2 : ¬ hx h < (0 : Int32)) : hx l < (0 : Int32) := by
  rcases F with F | F
  · exact Decidable.byContradiction fun q => F.2 ⟨h2, q⟩
  · exact absurd h1 F.1
theorem own_noT {f c h l : Int32} (F : FT f c h l) (n : ¬ c = (37 : Int32)) : ¬ okP f c := F.elim (fun q => absurd q.1 n) (fun q => q.2)
theorem own_noO {f c : Int32} (F : FO f c) (n : ¬ c = (37 : Int32)) : ¬ okP f c := F.elim (fun q => absurd q n) id
theorem own_nf {f c : Int32} (n : ¬ okP f c) (h : c = (43 : Int32)) : f = (0 : Int32) := Decidable.byContradiction fun q => n (Or.inl ⟨q, h⟩)
theorem own_nb {f c : Int32} (n : ¬ okP f c) : (255 : Int32) < c := Decidable.byContradiction fun q => n (Or.inr q)
theorem own_okN {f c : Int32} (k : okP f c) (h : f = (0 : Int32) ∨ ¬ c = (43 : Int32)) : ¬ (255 : Int32) < c := k.elim (fun w => absurd w (fun w => h.elim w.1 (fun u => u w.2))) id
theorem own_tri {h l : Int32} (h1 : ¬ hx h < (0 : Int32)) (h2 : ¬ hx l < (0 : Int32)) : ((hx h) <<< ((4 : Int32) &&& 31)) ||| (hx l) = tri h l := by
  have a := hx_r h1
  have b := hx_r h2
  unfold tri
  generalize hx h = u at *
  generalize hx l = v at *
  have e := c_ishl u 4 4 (by decide)
  have r1 := rng32 (u <<< ((4 : Int32) &&& 31))
  have o := c_or (u <<< ((4 : Int32) &&& 31)) v 4 (by decide) 16 (by decide) (by omega) (by omega) (by omega)
  have r2 := rng32 (u <<< ((4 : Int32) &&& 31) ||| v)
  have m := c_imul u 16
  have r3 := rng32 (u * 16)
  have p := c_iadd (u * 16) v
  have r4 := rng32 (u * 16 + v)
  simp only [Int32.reduceToInt] at m
  refine Int32.toInt_inj.mp ?_
  omega
theorem own_triR {h l : Int32} (h1 : ¬ hx h < (0 : Int32)) (h2 : ¬ hx l < (0 : Int32)) : ¬ tri h l < (0 : Int32) ∧ ¬ (255 : Int32) < tri h l := by
  have a := hx_r h1
  have b := hx_r h2
  unfold tri
  generalize hx h = u at *
  generalize hx l = v at *
  have m := c_imul u 16
  have r3 := rng32 (u * 16)
  have p := c_iadd (u * 16) v
  have r4 := rng32 (u * 16 + v)
  simp only [Int32.reduceToInt] at m
  simp only [Int32.lt_iff_toInt_lt, Int32.reduceToInt]
  omega
theorem own_int (cs : List Int32) : ∀ v ∈ cs.map Value.int, ∃ b, v = Value.int b := fun v hv => by obtain ⟨b, -, rfl⟩ := List.mem_map.mp hv; exact ⟨b, rfl⟩
theorem own_l22 {i : Int32} (h1 : ¬ i < (0 : Int32)) (h2 : i < (22 : Int32)) : i.toNatClampNeg < 22 := by
  simp only [Int32.lt_iff_toInt_lt, Int32.reduceToInt] at h1 h2
  show i.toInt.toNat < 22
  omega
theorem own_d22 (x : Int32) : ¬ ((XT.ushr x (3 : Int32)) % (22 : Int32)) < (0 : Int32) ∧ ((XT.ushr x (3 : Int32)) % (22 : Int32)) < (22 : Int32) := by
  have h : (XT.ushr x (3 : Int32)).toInt = (x.toInt % 4294967296) / (2 ^ 3 : Nat) := c_iushr x 3 3 (by decide) (by decide)
  have q := (c_iremV (XT.ushr x 3) 22).1 (by omega) (by decide)
  simp only [Int32.lt_iff_toInt_lt, Int32.reduceToInt] at q ⊢
  omega
abbrev N5 (n : Int32) : Prop := n = (0 : Int32) ∨ n = (1 : Int32) ∨ n = (2 : Int32) ∨ n = (3 : Int32) ∨ n = (4 : Int32)
theorem own_n5 (x : Int32) : N5 ((x &&& (2147483647 : Int32)) % (5 : Int32)) := by
  have a := c_and x 2147483647 (by decide)
  have q := (c_iremV (x &&& 2147483647) 5).1 a.1 (by decide)
  have e : (5 : Int32).toInt = 5 := by decide
  have z : ((x &&& 2147483647) % 5).toInt = 0 ∨ ((x &&& 2147483647) % 5).toInt = 1 ∨ ((x &&& 2147483647) % 5).toInt = 2 ∨ ((x &&& 2147483647) % 5).toInt = 3 ∨ ((x &&& 2147483647) % 5).toInt = 4 := by omega
  exact z.imp Int32.toInt_inj.mp (Or.imp Int32.toInt_inj.mp (Or.imp Int32.toInt_inj.mp (Or.imp Int32.toInt_inj.mp Int32.toInt_inj.mp)))
theorem narrow_lat {c : Int32} (h1 : ¬ c < (0 : Int32)) (h2 : ¬ (255 : Int32) < c) : narrow .char (.int c) = .int c := narrow_rng h1 (by simp only [Int32.lt_iff_toInt_lt, Int32.reduceToInt] at *; omega)

abbrev y0 := jdk_52_method_3_code
theorem d0_0 : DC y0 0 (.iload_n 0) 1 := hb' (by decide +kernel)
theorem d0_1 : DC y0 1 (.ifCond .ge 11) 3 := hb' (by decide +kernel)
theorem d0_12 : DC y0 12 (.iload_n 0) 1 := hb' (by decide +kernel)
theorem d0_13 : DC y0 13 (.ldc 20) 2 := hb' (by decide +kernel)
theorem d0_15 : DC y0 15 (.if_icmp .lt 40) 3 := hb' (by decide +kernel)
theorem d0_55 : DC y0 55 (.iload_n 0) 1 := hb' (by decide +kernel)
theorem d0_56 : DC y0 56 (.iconst 1) 1 := hb' (by decide +kernel)
theorem d0_57 : DC y0 57 (.ishl) 1 := hb' (by decide +kernel)
theorem d0_58 : DC y0 58 (.ireturn) 1 := hb' (by decide +kernel)
theorem ef10 (m : MethodId) (x0 : Int32) : entryFrame m #[(.int x0)] 1 = mkF m 0 #[.val (.int x0)] [] := by first | (simp [entryFrame, mkF, argsToLocals, Value.category]; done) | rfl
abbrev yn11 : MethodName := ⟨"java/lang/StringUTF16", "newBytesLength", "(I)I"⟩
theorem pn12 : plainName "java/lang/StringUTF16" = true := by first | (simp [plainName, overriddenIn]; done) | decide +kernel
theorem rmNBL1 (G : Gl Z a0 z0 fm) (h0 : Heap) (hZh : Ext Z.heap h0) (hsf : Own Z h0 []) :
    Ctr l Z ELs yn11 jdk_52_method_3_code 1 (some .int) [] (rmk 0 0 0 0) #[(.int 1)] [] h0 (fun v h fs => (fs = [] ∧ v = some (.int 2))) := by
  obtain ⟨hw, hEL, wS, OS, hz0, OA, OH, OL, OF, rfm⟩ := id G
  refine Ctr.intro pn12 hEL hZh hsf ?_
  intro p e s m below meth c s₁ hby hml hret hnm hlk hh K0
  refine Owe.cast (ef10 m ((1 : Int32))) ?_
  refine oIloadN K0 1 (d0_0 hby) rfl ?_
  refine oIfYes K0 12 (d0_1 hby) (XT.i0_ge_t (by decide)) ?_
  refine oIloadN K0 13 (d0_12 hby) rfl ?_
  refine oLdcI K0 15 (wq hw 109) (d0_13 hby) ?_
  refine oIcmpYes K0 55 (d0_15 hby) (XT.ii_lt_t (by decide)) ?_
  refine oIloadN K0 56 (d0_55 hby) rfl ?_
  refine oIconstV K0 57 (1 : Int32) (d0_56 hby) rfl ?_
  refine oIshl K0 58 (d0_57 hby) ?_
  show Owe _ _ _ _ s₁ (mkF m 58 #[.val (.int 1)] [(.int 2)])
  exact oRetI K0 [] (t := .int) hret (by simp) rfl (d0_58 hby) (by decide) (by decide) hlk (fun x hx => by cases hx) ⟨rfl, rfl⟩
theorem rmNBL2 (G : Gl Z a0 z0 fm) (h0 : Heap) (hZh : Ext Z.heap h0) (hsf : Own Z h0 []) :
    Ctr l Z ELs yn11 jdk_52_method_3_code 1 (some .int) [] (rmk 0 0 0 0) #[(.int 2)] [] h0 (fun v h fs => (fs = [] ∧ v = some (.int 4))) := by
  obtain ⟨hw, hEL, wS, OS, hz0, OA, OH, OL, OF, rfm⟩ := id G
  refine Ctr.intro pn12 hEL hZh hsf ?_
  intro p e s m below meth c s₁ hby hml hret hnm hlk hh K0
  refine Owe.cast (ef10 m ((2 : Int32))) ?_
  refine oIloadN K0 1 (d0_0 hby) rfl ?_
  refine oIfYes K0 12 (d0_1 hby) (XT.i0_ge_t (by decide)) ?_
  refine oIloadN K0 13 (d0_12 hby) rfl ?_
  refine oLdcI K0 15 (wq hw 109) (d0_13 hby) ?_
  refine oIcmpYes K0 55 (d0_15 hby) (XT.ii_lt_t (by decide)) ?_
  refine oIloadN K0 56 (d0_55 hby) rfl ?_
  refine oIconstV K0 57 (1 : Int32) (d0_56 hby) rfl ?_
  refine oIshl K0 58 (d0_57 hby) ?_
  show Owe _ _ _ _ s₁ (mkF m 58 #[.val (.int 2)] [(.int 4)])
  exact oRetI K0 [] (t := .int) hret (by simp) rfl (d0_58 hby) (by decide) (by decide) hlk (fun x hx => by cases hx) ⟨rfl, rfl⟩
theorem rmNBL3 (G : Gl Z a0 z0 fm) (h0 : Heap) (hZh : Ext Z.heap h0) (hsf : Own Z h0 []) :
    Ctr l Z ELs yn11 jdk_52_method_3_code 1 (some .int) [] (rmk 0 0 0 0) #[(.int 3)] [] h0 (fun v h fs => (fs = [] ∧ v = some (.int 6))) := by
  obtain ⟨hw, hEL, wS, OS, hz0, OA, OH, OL, OF, rfm⟩ := id G
  refine Ctr.intro pn12 hEL hZh hsf ?_
  intro p e s m below meth c s₁ hby hml hret hnm hlk hh K0
  refine Owe.cast (ef10 m ((3 : Int32))) ?_
  refine oIloadN K0 1 (d0_0 hby) rfl ?_
  refine oIfYes K0 12 (d0_1 hby) (XT.i0_ge_t (by decide)) ?_
  refine oIloadN K0 13 (d0_12 hby) rfl ?_
  refine oLdcI K0 15 (wq hw 109) (d0_13 hby) ?_
  refine oIcmpYes K0 55 (d0_15 hby) (XT.ii_lt_t (by decide)) ?_
  refine oIloadN K0 56 (d0_55 hby) rfl ?_
  refine oIconstV K0 57 (1 : Int32) (d0_56 hby) rfl ?_
  refine oIshl K0 58 (d0_57 hby) ?_
  show Owe _ _ _ _ s₁ (mkF m 58 #[.val (.int 3)] [(.int 6)])
  exact oRetI K0 [] (t := .int) hret (by simp) rfl (d0_58 hby) (by decide) (by decide) hlk (fun x hx => by cases hx) ⟨rfl, rfl⟩
theorem rmNBL4 (G : Gl Z a0 z0 fm) (h0 : Heap) (hZh : Ext Z.heap h0) (hsf : Own Z h0 []) :
    Ctr l Z ELs yn11 jdk_52_method_3_code 1 (some .int) [] (rmk 0 0 0 0) #[(.int 4)] [] h0 (fun v h fs => (fs = [] ∧ v = some (.int 8))) := by
  obtain ⟨hw, hEL, wS, OS, hz0, OA, OH, OL, OF, rfm⟩ := id G
  refine Ctr.intro pn12 hEL hZh hsf ?_
  intro p e s m below meth c s₁ hby hml hret hnm hlk hh K0
  refine Owe.cast (ef10 m ((4 : Int32))) ?_
  refine oIloadN K0 1 (d0_0 hby) rfl ?_
  refine oIfYes K0 12 (d0_1 hby) (XT.i0_ge_t (by decide)) ?_
  refine oIloadN K0 13 (d0_12 hby) rfl ?_
  refine oLdcI K0 15 (wq hw 109) (d0_13 hby) ?_
  refine oIcmpYes K0 55 (d0_15 hby) (XT.ii_lt_t (by decide)) ?_
  refine oIloadN K0 56 (d0_55 hby) rfl ?_
  refine oIconstV K0 57 (1 : Int32) (d0_56 hby) rfl ?_
  refine oIshl K0 58 (d0_57 hby) ?_
  show Owe _ _ _ _ s₁ (mkF m 58 #[.val (.int 4)] [(.int 8)])
  exact oRetI K0 [] (t := .int) hret (by simp) rfl (d0_58 hby) (by decide) (by decide) hlk (fun x hx => by cases hx) ⟨rfl, rfl⟩
abbrev y1 := jdk_52_method_2_code
theorem d1_0 : DC y1 0 (.iload_n 0) 1 := hb' (by decide +kernel)
theorem d1_1 : DC y1 1 (.invokestatic 11) 3 := hb' (by decide +kernel)
theorem pd16 : parseMethodDescriptor "(I)I" = some ⟨[.int], some .int⟩ := by decide +kernel
theorem d1_4 : DC y1 4 (.newarray .byte) 2 := hb' (by decide +kernel)
theorem d1_6 : DC y1 6 (.areturn) 1 := hb' (by decide +kernel)
abbrev yn19 : MethodName := ⟨"java/lang/StringUTF16", "newBytesFor", "(I)[B"⟩
theorem rmNBF1 (G : Gl Z a0 z0 fm) (h0 : Heap) (hZh : Ext Z.heap h0) (hsf : Own Z h0 []) :
    Ctr l Z ELs yn19 jdk_52_method_2_code 1 (some (.array .byte)) [] (rmk 1 1 2 12) #[(.int 1)] [] h0 (fun v h fs => (∃ t : Addr, fs = [t] ∧ v = some (.ref t) ∧ Ary Z h t .byte [(.int 0), (.int 0)] ∧ h0.size ≤ t)) := by
  obtain ⟨hw, hEL, wS, OS, hz0, OA, OH, OL, OF, rfm⟩ := id G
  refine Ctr.intro pn12 hEL hZh hsf ?_
  intro p e s m below meth c s₁ hby hml hret hnm hlk hh K0
  refine Owe.cast (ef10 m ((1 : Int32))) ?_
  refine oIloadN K0 1 (d1_0 hby) rfl ?_
  refine oStatic K0 4 0 (wq hw 106) (wq hw 107) (wq hw 85) (wq hw 108) (rmNBL1 l Z a0 z0 fm G  h0 K0.old K0.both ) [(.int 1)] [] (lenOf pd16 rfl) (d1_1 hby) ?_
  intro T1 h3 v4 lo5 fs6 K2 Kp7 q8
  obtain ⟨rfl, rfl⟩ := q8
  have K9 := K2.to 0 0 []
  refine Owe.stk [(.int 2)] ?_
  refine oNewPE K9 6 (ty := .byte) 2 (wq hw 8) rfl (by decide) (by decide) (by decide) (d1_4 hby) (by decide) (by decide) (ad := "[B") rfl ?_
  intro T15 h10 a11 g12 K16 E13 A14 X17
  have K18 := K16.to 1 2 [a11]
  exact oRetA K18 [a11] hret rfl rfl (d1_6 hby) (by decide) (by decide) hlk (allP1 (by simp) (by rw [hh]; exact Nat.le_trans Kp7.1 (Nat.le_of_eq g12))) ⟨a11, rfl, rfl, A14, (Nat.le_trans Kp7.1 (Nat.le_of_eq g12))⟩
theorem rmNBF2 (G : Gl Z a0 z0 fm) (h0 : Heap) (hZh : Ext Z.heap h0) (hsf : Own Z h0 []) :
    Ctr l Z ELs yn19 jdk_52_method_2_code 1 (some (.array .byte)) [] (rmk 1 1 4 12) #[(.int 2)] [] h0 (fun v h fs => (∃ t : Addr, fs = [t] ∧ v = some (.ref t) ∧ Ary Z h t .byte [(.int 0), (.int 0), (.int 0), (.int 0)] ∧ h0.size ≤ t)) := by
  obtain ⟨hw, hEL, wS, OS, hz0, OA, OH, OL, OF, rfm⟩ := id G
  refine Ctr.intro pn12 hEL hZh hsf ?_
  intro p e s m below meth c s₁ hby hml hret hnm hlk hh K0
  refine Owe.cast (ef10 m ((2 : Int32))) ?_
  refine oIloadN K0 1 (d1_0 hby) rfl ?_
  refine oStatic K0 4 0 (wq hw 106) (wq hw 107) (wq hw 85) (wq hw 108) (rmNBL2 l Z a0 z0 fm G  h0 K0.old K0.both ) [(.int 2)] [] (lenOf pd16 rfl) (d1_1 hby) ?_
  intro T1 h3 v4 lo5 fs6 K2 Kp7 q8
  obtain ⟨rfl, rfl⟩ := q8
  have K9 := K2.to 0 0 []
  refine Owe.stk [(.int 4)] ?_
  refine oNewPE K9 6 (ty := .byte) 4 (wq hw 8) rfl (by decide) (by decide) (by decide) (d1_4 hby) (by decide) (by decide) (ad := "[B") rfl ?_
  intro T15 h10 a11 g12 K16 E13 A14 X17
  have K18 := K16.to 1 4 [a11]
  exact oRetA K18 [a11] hret rfl rfl (d1_6 hby) (by decide) (by decide) hlk (allP1 (by simp) (by rw [hh]; exact Nat.le_trans Kp7.1 (Nat.le_of_eq g12))) ⟨a11, rfl, rfl, A14, (Nat.le_trans Kp7.1 (Nat.le_of_eq g12))⟩
theorem rmNBF3 (G : Gl Z a0 z0 fm) (h0 : Heap) (hZh : Ext Z.heap h0) (hsf : Own Z h0 []) :
    Ctr l Z ELs yn19 jdk_52_method_2_code 1 (some (.array .byte)) [] (rmk 1 1 6 12) #[(.int 3)] [] h0 (fun v h fs => (∃ t : Addr, fs = [t] ∧ v = some (.ref t) ∧ Ary Z h t .byte [(.int 0), (.int 0), (.int 0), (.int 0), (.int 0), (.int 0)] ∧ h0.size ≤ t)) := by
  obtain ⟨hw, hEL, wS, OS, hz0, OA, OH, OL, OF, rfm⟩ := id G
  refine Ctr.intro pn12 hEL hZh hsf ?_
  intro p e s m below meth c s₁ hby hml hret hnm hlk hh K0
  refine Owe.cast (ef10 m ((3 : Int32))) ?_
  refine oIloadN K0 1 (d1_0 hby) rfl ?_
  refine oStatic K0 4 0 (wq hw 106) (wq hw 107) (wq hw 85) (wq hw 108) (rmNBL3 l Z a0 z0 fm G  h0 K0.old K0.both ) [(.int 3)] [] (lenOf pd16 rfl) (d1_1 hby) ?_
  intro T1 h3 v4 lo5 fs6 K2 Kp7 q8
  obtain ⟨rfl, rfl⟩ := q8
  have K9 := K2.to 0 0 []
  refine Owe.stk [(.int 6)] ?_
  refine oNewPE K9 6 (ty := .byte) 6 (wq hw 8) rfl (by decide) (by decide) (by decide) (d1_4 hby) (by decide) (by decide) (ad := "[B") rfl ?_
  intro T15 h10 a11 g12 K16 E13 A14 X17
  have K18 := K16.to 1 6 [a11]
  exact oRetA K18 [a11] hret rfl rfl (d1_6 hby) (by decide) (by decide) hlk (allP1 (by simp) (by rw [hh]; exact Nat.le_trans Kp7.1 (Nat.le_of_eq g12))) ⟨a11, rfl, rfl, A14, (Nat.le_trans Kp7.1 (Nat.le_of_eq g12))⟩
theorem rmNBF4 (G : Gl Z a0 z0 fm) (h0 : Heap) (hZh : Ext Z.heap h0) (hsf : Own Z h0 []) :
    Ctr l Z ELs yn19 jdk_52_method_2_code 1 (some (.array .byte)) [] (rmk 1 1 8 12) #[(.int 4)] [] h0 (fun v h fs => (∃ t : Addr, fs = [t] ∧ v = some (.ref t) ∧ Ary Z h t .byte [(.int 0), (.int 0), (.int 0), (.int 0), (.int 0), (.int 0), (.int 0), (.int 0)] ∧ h0.size ≤ t)) := by
  obtain ⟨hw, hEL, wS, OS, hz0, OA, OH, OL, OF, rfm⟩ := id G
  refine Ctr.intro pn12 hEL hZh hsf ?_
  intro p e s m below meth c s₁ hby hml hret hnm hlk hh K0
  refine Owe.cast (ef10 m ((4 : Int32))) ?_
  refine oIloadN K0 1 (d1_0 hby) rfl ?_
  refine oStatic K0 4 0 (wq hw 106) (wq hw 107) (wq hw 85) (wq hw 108) (rmNBL4 l Z a0 z0 fm G  h0 K0.old K0.both ) [(.int 4)] [] (lenOf pd16 rfl) (d1_1 hby) ?_
  intro T1 h3 v4 lo5 fs6 K2 Kp7 q8
  obtain ⟨rfl, rfl⟩ := q8
  have K9 := K2.to 0 0 []
  refine Owe.stk [(.int 8)] ?_
  refine oNewPE K9 6 (ty := .byte) 8 (wq hw 8) rfl (by decide) (by decide) (by decide) (d1_4 hby) (by decide) (by decide) (ad := "[B") rfl ?_
  intro T15 h10 a11 g12 K16 E13 A14 X17
  have K18 := K16.to 1 8 [a11]
  exact oRetA K18 [a11] hret rfl rfl (d1_6 hby) (by decide) (by decide) hlk (allP1 (by simp) (by rw [hh]; exact Nat.le_trans Kp7.1 (Nat.le_of_eq g12))) ⟨a11, rfl, rfl, A14, (Nat.le_trans Kp7.1 (Nat.le_of_eq g12))⟩
abbrev y2 := jdk_52_method_4_code
theorem d2_0 : DC y2 0 (.getstatic 44) 3 := hb' (by decide +kernel)
theorem d2_3 : DC y2 3 (.ifCond .ne 25) 3 := hb' (by decide +kernel)
theorem d2_28 : DC y2 28 (.iload_n 1) 1 := hb' (by decide +kernel)
theorem d2_29 : DC y2 29 (.iconst 1) 1 := hb' (by decide +kernel)
theorem d2_30 : DC y2 30 (.ishl) 1 := hb' (by decide +kernel)
theorem d2_31 : DC y2 31 (.istore_n 1) 1 := hb' (by decide +kernel)
theorem d2_32 : DC y2 32 (.aload_n 0) 1 := hb' (by decide +kernel)
theorem d2_33 : DC y2 33 (.iload_n 1) 1 := hb' (by decide +kernel)
theorem d2_34 : DC y2 34 (.iinc 1 1) 3 := hb' (by decide +kernel)
theorem d2_37 : DC y2 37 (.iload_n 2) 1 := hb' (by decide +kernel)
theorem d2_38 : DC y2 38 (.getstatic 59) 3 := hb' (by decide +kernel)
theorem d2_41 : DC y2 41 (.ishr) 1 := hb' (by decide +kernel)
theorem d2_42 : DC y2 42 (.i2b) 1 := hb' (by decide +kernel)
theorem d2_43 : DC y2 43 (.bastore) 1 := hb' (by decide +kernel)
theorem d2_44 : DC y2 44 (.aload_n 0) 1 := hb' (by decide +kernel)
theorem d2_45 : DC y2 45 (.iload_n 1) 1 := hb' (by decide +kernel)
theorem d2_46 : DC y2 46 (.iload_n 2) 1 := hb' (by decide +kernel)
theorem d2_47 : DC y2 47 (.getstatic 63) 3 := hb' (by decide +kernel)
theorem d2_50 : DC y2 50 (.ishr) 1 := hb' (by decide +kernel)
theorem d2_51 : DC y2 51 (.i2b) 1 := hb' (by decide +kernel)
theorem d2_52 : DC y2 52 (.bastore) 1 := hb' (by decide +kernel)
theorem d2_53 : DC y2 53 (.return_) 1 := hb' (by decide +kernel)
theorem ef43 (m : MethodId) (x0 : Addr) (x1 : Int32) (x2 : Int32) : entryFrame m #[(.ref x0), (.int x1), (.int x2)] 3 = mkF m 0 #[.val (.ref x0), .val (.int x1), .val (.int x2)] [] := by first | (simp [entryFrame, mkF, argsToLocals, Value.category]; done) | rfl
abbrev yn44 : MethodName := ⟨"java/lang/StringUTF16", "putChar", "([BII)V"⟩
theorem rmPut1_0 (G : Gl Z a0 z0 fm) (t : Addr) (cc e0 e1 : Int32) (h0 : Heap) (hZh : Ext Z.heap h0) (hsf : Own Z h0 [t]) (P0 : Ary Z h0 t .byte [(.int e0), (.int e1)]) :
    Ctr l Z ELs yn44 jdk_52_method_4_code 3 none [] (rmk 0 0 0 0) #[(.ref t), (.int 0), (.int cc)] [t] h0 (fun v h fs => (fs = [] ∧ v = none ∧ Ary Z h t .byte [(.int (byt (cc >>> ((0 : Int32) &&& 31)))), (.int (byt (cc >>> ((8 : Int32) &&& 31))))])) := by
  obtain ⟨hw, hEL, wS, OS, hz0, OA, OH, OL, OF, rfm⟩ := id G
  refine Ctr.intro pn12 hEL hZh hsf ?_
  intro p e s m below meth c s₁ hby hml hret hnm hlk hh K0
  refine Owe.cast (ef43 m t ((0 : Int32)) cc) ?_
  refine oGetS K0 3 (wq hw 113) (OA.ext K0.old) (d2_0 hby) ?_
  intro T1 K2
  refine oIfYes K2 28 (d2_3 hby) (XT.i0_ne_t (by decide)) ?_
  refine oIloadN K2 29 (d2_28 hby) rfl ?_
  refine oIconstV K2 30 (1 : Int32) (d2_29 hby) rfl ?_
  refine oIshl K2 31 (d2_30 hby) ?_
  show Owe _ _ _ _ T1 (mkF m 31 #[.val (.ref t), .val (.int 0), .val (.int cc)] [(.int 0)])
  refine oIstoreN K2 32 (d2_31 hby) (l' := #[.val (.ref t), .val (.int 0), .val (.int cc)]) rfl ?_
  refine oAloadN K2 33 (d2_32 hby) rfl rfl ?_
  refine oIloadN K2 34 (d2_33 hby) rfl ?_
  refine oIinc K2 37 (d2_34 hby) rfl (l' := #[.val (.ref t), .val (.int 1), .val (.int cc)]) rfl ?_
  refine oIloadN K2 38 (d2_37 hby) rfl ?_
  refine oGetS K2 41 (wq hw 114) (OH.ext K2.old) (d2_38 hby) ?_
  intro T3 K4
  refine oIshr K4 42 (d2_41 hby) ?_
  refine oI2b K4 43 (d2_42 hby) ?_
  refine oBastore K4 44 (by simp) P0 0 (by decide) (by decide) nlt (nar_byt _) (d2_43 hby) ?_
  intro T9 h5 lo8 K10 W6 A7
  have A11 : Ary Z h5 t .byte [(.int (byt (cc >>> ((0 : Int32) &&& 31)))), (.int e1)] := A7
  refine oAloadN K10 45 (d2_44 hby) rfl rfl ?_
  refine oIloadN K10 46 (d2_45 hby) rfl ?_
  refine oIloadN K10 47 (d2_46 hby) rfl ?_
  refine oGetS K10 50 (wq hw 115) (OL.ext K10.old) (d2_47 hby) ?_
  intro T12 K13
  refine oIshr K13 51 (d2_50 hby) ?_
  refine oI2b K13 52 (d2_51 hby) ?_
  refine oBastore K13 53 (by simp) A11 1 (by decide) (by decide) nlt (nar_byt _) (d2_52 hby) ?_
  intro T18 h14 lo17 K19 W15 A16
  have A20 : Ary Z h14 t .byte [(.int (byt (cc >>> ((0 : Int32) &&& 31)))), (.int (byt (cc >>> ((8 : Int32) &&& 31))))] := A16
  exact oRetV K19 [] hret (d2_53 hby) (by decide) (by decide) hlk (fun x hx => by cases hx) ⟨rfl, rfl, A20⟩
theorem rmPut2_0 (G : Gl Z a0 z0 fm) (t : Addr) (cc e0 e1 e2 e3 : Int32) (h0 : Heap) (hZh : Ext Z.heap h0) (hsf : Own Z h0 [t]) (P0 : Ary Z h0 t .byte [(.int e0), (.int e1), (.int e2), (.int e3)]) :
    Ctr l Z ELs yn44 jdk_52_method_4_code 3 none [] (rmk 0 0 0 0) #[(.ref t), (.int 0), (.int cc)] [t] h0 (fun v h fs => (fs = [] ∧ v = none ∧ Ary Z h t .byte [(.int (byt (cc >>> ((0 : Int32) &&& 31)))), (.int (byt (cc >>> ((8 : Int32) &&& 31)))), (.int e2), (.int e3)])) := by
  obtain ⟨hw, hEL, wS, OS, hz0, OA, OH, OL, OF, rfm⟩ := id G
  refine Ctr.intro pn12 hEL hZh hsf ?_
  intro p e s m below meth c s₁ hby hml hret hnm hlk hh K0
  refine Owe.cast (ef43 m t ((0 : Int32)) cc) ?_
  refine oGetS K0 3 (wq hw 113) (OA.ext K0.old) (d2_0 hby) ?_
  intro T1 K2
  refine oIfYes K2 28 (d2_3 hby) (XT.i0_ne_t (by decide)) ?_
  refine oIloadN K2 29 (d2_28 hby) rfl ?_
  refine oIconstV K2 30 (1 : Int32) (d2_29 hby) rfl ?_
  refine oIshl K2 31 (d2_30 hby) ?_
  show Owe _ _ _ _ T1 (mkF m 31 #[.val (.ref t), .val (.int 0), .val (.int cc)] [(.int 0)])
  refine oIstoreN K2 32 (d2_31 hby) (l' := #[.val (.ref t), .val (.int 0), .val (.int cc)]) rfl ?_
  refine oAloadN K2 33 (d2_32 hby) rfl rfl ?_
  refine oIloadN K2 34 (d2_33 hby) rfl ?_
  refine oIinc K2 37 (d2_34 hby) rfl (l' := #[.val (.ref t), .val (.int 1), .val (.int cc)]) rfl ?_
  refine oIloadN K2 38 (d2_37 hby) rfl ?_
  refine oGetS K2 41 (wq hw 114) (OH.ext K2.old) (d2_38 hby) ?_
  intro T3 K4
  refine oIshr K4 42 (d2_41 hby) ?_
  refine oI2b K4 43 (d2_42 hby) ?_
  refine oBastore K4 44 (by simp) P0 0 (by decide) (by decide) nlt (nar_byt _) (d2_43 hby) ?_
  intro T9 h5 lo8 K10 W6 A7
  have A11 : Ary Z h5 t .byte [(.int (byt (cc >>> ((0 : Int32) &&& 31)))), (.int e1), (.int e2), (.int e3)] := A7
  refine oAloadN K10 45 (d2_44 hby) rfl rfl ?_
  refine oIloadN K10 46 (d2_45 hby) rfl ?_
  refine oIloadN K10 47 (d2_46 hby) rfl ?_
  refine oGetS K10 50 (wq hw 115) (OL.ext K10.old) (d2_47 hby) ?_
  intro T12 K13
  refine oIshr K13 51 (d2_50 hby) ?_
  refine oI2b K13 52 (d2_51 hby) ?_
  refine oBastore K13 53 (by simp) A11 1 (by decide) (by decide) nlt (nar_byt _) (d2_52 hby) ?_
  intro T18 h14 lo17 K19 W15 A16
  have A20 : Ary Z h14 t .byte [(.int (byt (cc >>> ((0 : Int32) &&& 31)))), (.int (byt (cc >>> ((8 : Int32) &&& 31)))), (.int e2), (.int e3)] := A16
  exact oRetV K19 [] hret (d2_53 hby) (by decide) (by decide) hlk (fun x hx => by cases hx) ⟨rfl, rfl, A20⟩
theorem rmPut2_1 (G : Gl Z a0 z0 fm) (t : Addr) (cc e0 e1 e2 e3 : Int32) (h0 : Heap) (hZh : Ext Z.heap h0) (hsf : Own Z h0 [t]) (P0 : Ary Z h0 t .byte [(.int e0), (.int e1), (.int e2), (.int e3)]) :
    Ctr l Z ELs yn44 jdk_52_method_4_code 3 none [] (rmk 0 0 0 0) #[(.ref t), (.int 1), (.int cc)] [t] h0 (fun v h fs => (fs = [] ∧ v = none ∧ Ary Z h t .byte [(.int e0), (.int e1), (.int (byt (cc >>> ((0 : Int32) &&& 31)))), (.int (byt (cc >>> ((8 : Int32) &&& 31))))])) := by
  obtain ⟨hw, hEL, wS, OS, hz0, OA, OH, OL, OF, rfm⟩ := id G
  refine Ctr.intro pn12 hEL hZh hsf ?_
  intro p e s m below meth c s₁ hby hml hret hnm hlk hh K0
  refine Owe.cast (ef43 m t ((1 : Int32)) cc) ?_
  refine oGetS K0 3 (wq hw 113) (OA.ext K0.old) (d2_0 hby) ?_
  intro T1 K2
  refine oIfYes K2 28 (d2_3 hby) (XT.i0_ne_t (by decide)) ?_
  refine oIloadN K2 29 (d2_28 hby) rfl ?_
  refine oIconstV K2 30 (1 : Int32) (d2_29 hby) rfl ?_
  refine oIshl K2 31 (d2_30 hby) ?_
  show Owe _ _ _ _ T1 (mkF m 31 #[.val (.ref t), .val (.int 1), .val (.int cc)] [(.int 2)])
  refine oIstoreN K2 32 (d2_31 hby) (l' := #[.val (.ref t), .val (.int 2), .val (.int cc)]) rfl ?_
  refine oAloadN K2 33 (d2_32 hby) rfl rfl ?_
  refine oIloadN K2 34 (d2_33 hby) rfl ?_
  refine oIinc K2 37 (d2_34 hby) rfl (l' := #[.val (.ref t), .val (.int 3), .val (.int cc)]) rfl ?_
  refine oIloadN K2 38 (d2_37 hby) rfl ?_
  refine oGetS K2 41 (wq hw 114) (OH.ext K2.old) (d2_38 hby) ?_
  intro T3 K4
  refine oIshr K4 42 (d2_41 hby) ?_
  refine oI2b K4 43 (d2_42 hby) ?_
  refine oBastore K4 44 (by simp) P0 2 (by decide) (by decide) nlt (nar_byt _) (d2_43 hby) ?_
  intro T9 h5 lo8 K10 W6 A7
  have A11 : Ary Z h5 t .byte [(.int e0), (.int e1), (.int (byt (cc >>> ((0 : Int32) &&& 31)))), (.int e3)] := A7
  refine oAloadN K10 45 (d2_44 hby) rfl rfl ?_
  refine oIloadN K10 46 (d2_45 hby) rfl ?_
  refine oIloadN K10 47 (d2_46 hby) rfl ?_
  refine oGetS K10 50 (wq hw 115) (OL.ext K10.old) (d2_47 hby) ?_
  intro T12 K13
  refine oIshr K13 51 (d2_50 hby) ?_
  refine oI2b K13 52 (d2_51 hby) ?_
  refine oBastore K13 53 (by simp) A11 3 (by decide) (by decide) nlt (nar_byt _) (d2_52 hby) ?_
  intro T18 h14 lo17 K19 W15 A16
  have A20 : Ary Z h14 t .byte [(.int e0), (.int e1), (.int (byt (cc >>> ((0 : Int32) &&& 31)))), (.int (byt (cc >>> ((8 : Int32) &&& 31))))] := A16
  exact oRetV K19 [] hret (d2_53 hby) (by decide) (by decide) hlk (fun x hx => by cases hx) ⟨rfl, rfl, A20⟩
theorem rmPut3_0 (G : Gl Z a0 z0 fm) (t : Addr) (cc e0 e1 e2 e3 e4 e5 : Int32) (h0 : Heap) (hZh : Ext Z.heap h0) (hsf : Own Z h0 [t]) (P0 : Ary Z h0 t .byte [(.int e0), (.int e1), (.int e2), (.int e3), (.int e4), (.int e5)]) :
    Ctr l Z ELs yn44 jdk_52_method_4_code 3 none [] (rmk 0 0 0 0) #[(.ref t), (.int 0), (.int cc)] [t] h0 (fun v h fs => (fs = [] ∧ v = none ∧ Ary Z h t .byte [(.int (byt (cc >>> ((0 : Int32) &&& 31)))), (.int (byt (cc >>> ((8 : Int32) &&& 31)))), (.int e2), (.int e3), (.int e4), (.int e5)])) := by
  obtain ⟨hw, hEL, wS, OS, hz0, OA, OH, OL, OF, rfm⟩ := id G
  refine Ctr.intro pn12 hEL hZh hsf ?_
  intro p e s m below meth c s₁ hby hml hret hnm hlk hh K0
  refine Owe.cast (ef43 m t ((0 : Int32)) cc) ?_
  refine oGetS K0 3 (wq hw 113) (OA.ext K0.old) (d2_0 hby) ?_
  intro T1 K2
  refine oIfYes K2 28 (d2_3 hby) (XT.i0_ne_t (by decide)) ?_
  refine oIloadN K2 29 (d2_28 hby) rfl ?_
  refine oIconstV K2 30 (1 : Int32) (d2_29 hby) rfl ?_
  refine oIshl K2 31 (d2_30 hby) ?_
  show Owe _ _ _ _ T1 (mkF m 31 #[.val (.ref t), .val (.int 0), .val (.int cc)] [(.int 0)])
  refine oIstoreN K2 32 (d2_31 hby) (l' := #[.val (.ref t), .val (.int 0), .val (.int cc)]) rfl ?_
  refine oAloadN K2 33 (d2_32 hby) rfl rfl ?_
  refine oIloadN K2 34 (d2_33 hby) rfl ?_
  refine oIinc K2 37 (d2_34 hby) rfl (l' := #[.val (.ref t), .val (.int 1), .val (.int cc)]) rfl ?_
  refine oIloadN K2 38 (d2_37 hby) rfl ?_
  refine oGetS K2 41 (wq hw 114) (OH.ext K2.old) (d2_38 hby) ?_
  intro T3 K4
  refine oIshr K4 42 (d2_41 hby) ?_
  refine oI2b K4 43 (d2_42 hby) ?_
  refine oBastore K4 44 (by simp) P0 0 (by decide) (by decide) nlt (nar_byt _) (d2_43 hby) ?_
  intro T9 h5 lo8 K10 W6 A7
  have A11 : Ary Z h5 t .byte [(.int (byt (cc >>> ((0 : Int32) &&& 31)))), (.int e1), (.int e2), (.int e3), (.int e4), (.int e5)] := A7
  refine oAloadN K10 45 (d2_44 hby) rfl rfl ?_
  refine oIloadN K10 46 (d2_45 hby) rfl ?_
  refine oIloadN K10 47 (d2_46 hby) rfl ?_
  refine oGetS K10 50 (wq hw 115) (OL.ext K10.old) (d2_47 hby) ?_
  intro T12 K13
  refine oIshr K13 51 (d2_50 hby) ?_
  refine oI2b K13 52 (d2_51 hby) ?_
  refine oBastore K13 53 (by simp) A11 1 (by decide) (by decide) nlt (nar_byt _) (d2_52 hby) ?_
  intro T18 h14 lo17 K19 W15 A16
  have A20 : Ary Z h14 t .byte [(.int (byt (cc >>> ((0 : Int32) &&& 31)))), (.int (byt (cc >>> ((8 : Int32) &&& 31)))), (.int e2), (.int e3), (.int e4), (.int e5)] := A16
  exact oRetV K19 [] hret (d2_53 hby) (by decide) (by decide) hlk (fun x hx => by cases hx) ⟨rfl, rfl, A20⟩
theorem rmPut3_1 (G : Gl Z a0 z0 fm) (t : Addr) (cc e0 e1 e2 e3 e4 e5 : Int32) (h0 : Heap) (hZh : Ext Z.heap h0) (hsf : Own Z h0 [t]) (P0 : Ary Z h0 t .byte [(.int e0), (.int e1), (.int e2), (.int e3), (.int e4), (.int e5)]) :
    Ctr l Z ELs yn44 jdk_52_method_4_code 3 none [] (rmk 0 0 0 0) #[(.ref t), (.int 1), (.int cc)] [t] h0 (fun v h fs => (fs = [] ∧ v = none ∧ Ary Z h t .byte [(.int e0), (.int e1), (.int (byt (cc >>> ((0 : Int32) &&& 31)))), (.int (byt (cc >>> ((8 : Int32) &&& 31)))), (.int e4), (.int e5)])) := by
  obtain ⟨hw, hEL, wS, OS, hz0, OA, OH, OL, OF, rfm⟩ := id G
  refine Ctr.intro pn12 hEL hZh hsf ?_
  intro p e s m below meth c s₁ hby hml hret hnm hlk hh K0
  refine Owe.cast (ef43 m t ((1 : Int32)) cc) ?_
  refine oGetS K0 3 (wq hw 113) (OA.ext K0.old) (d2_0 hby) ?_
  intro T1 K2
  refine oIfYes K2 28 (d2_3 hby) (XT.i0_ne_t (by decide)) ?_
  refine oIloadN K2 29 (d2_28 hby) rfl ?_
  refine oIconstV K2 30 (1 : Int32) (d2_29 hby) rfl ?_
  refine oIshl K2 31 (d2_30 hby) ?_
  show Owe _ _ _ _ T1 (mkF m 31 #[.val (.ref t), .val (.int 1), .val (.int cc)] [(.int 2)])
  refine oIstoreN K2 32 (d2_31 hby) (l' := #[.val (.ref t), .val (.int 2), .val (.int cc)]) rfl ?_
  refine oAloadN K2 33 (d2_32 hby) rfl rfl ?_
  refine oIloadN K2 34 (d2_33 hby) rfl ?_
  refine oIinc K2 37 (d2_34 hby) rfl (l' := #[.val (.ref t), .val (.int 3), .val (.int cc)]) rfl ?_
  refine oIloadN K2 38 (d2_37 hby) rfl ?_
  refine oGetS K2 41 (wq hw 114) (OH.ext K2.old) (d2_38 hby) ?_
  intro T3 K4
  refine oIshr K4 42 (d2_41 hby) ?_
  refine oI2b K4 43 (d2_42 hby) ?_
  refine oBastore K4 44 (by simp) P0 2 (by decide) (by decide) nlt (nar_byt _) (d2_43 hby) ?_
  intro T9 h5 lo8 K10 W6 A7
  have A11 : Ary Z h5 t .byte [(.int e0), (.int e1), (.int (byt (cc >>> ((0 : Int32) &&& 31)))), (.int e3), (.int e4), (.int e5)] := A7
  refine oAloadN K10 45 (d2_44 hby) rfl rfl ?_
  refine oIloadN K10 46 (d2_45 hby) rfl ?_
  refine oIloadN K10 47 (d2_46 hby) rfl ?_
  refine oGetS K10 50 (wq hw 115) (OL.ext K10.old) (d2_47 hby) ?_
  intro T12 K13
  refine oIshr K13 51 (d2_50 hby) ?_
  refine oI2b K13 52 (d2_51 hby) ?_
  refine oBastore K13 53 (by simp) A11 3 (by decide) (by decide) nlt (nar_byt _) (d2_52 hby) ?_
  intro T18 h14 lo17 K19 W15 A16
  have A20 : Ary Z h14 t .byte [(.int e0), (.int e1), (.int (byt (cc >>> ((0 : Int32) &&& 31)))), (.int (byt (cc >>> ((8 : Int32) &&& 31)))), (.int e4), (.int e5)] := A16
  exact oRetV K19 [] hret (d2_53 hby) (by decide) (by decide) hlk (fun x hx => by cases hx) ⟨rfl, rfl, A20⟩
theorem rmPut3_2 (G : Gl Z a0 z0 fm) (t : Addr) (cc e0 e1 e2 e3 e4 e5 : Int32) (h0 : Heap) (hZh : Ext Z.heap h0) (hsf : Own Z h0 [t]) (P0 : Ary Z h0 t .byte [(.int e0), (.int e1), (.int e2), (.int e3), (.int e4), (.int e5)]) :
    Ctr l Z ELs yn44 jdk_52_method_4_code 3 none [] (rmk 0 0 0 0) #[(.ref t), (.int 2), (.int cc)] [t] h0 (fun v h fs => (fs = [] ∧ v = none ∧ Ary Z h t .byte [(.int e0), (.int e1), (.int e2), (.int e3), (.int (byt (cc >>> ((0 : Int32) &&& 31)))), (.int (byt (cc >>> ((8 : Int32) &&& 31))))])) := by
  obtain ⟨hw, hEL, wS, OS, hz0, OA, OH, OL, OF, rfm⟩ := id G
  refine Ctr.intro pn12 hEL hZh hsf ?_
  intro p e s m below meth c s₁ hby hml hret hnm hlk hh K0
  refine Owe.cast (ef43 m t ((2 : Int32)) cc) ?_
  refine oGetS K0 3 (wq hw 113) (OA.ext K0.old) (d2_0 hby) ?_
  intro T1 K2
  refine oIfYes K2 28 (d2_3 hby) (XT.i0_ne_t (by decide)) ?_
  refine oIloadN K2 29 (d2_28 hby) rfl ?_
  refine oIconstV K2 30 (1 : Int32) (d2_29 hby) rfl ?_
  refine oIshl K2 31 (d2_30 hby) ?_
  show Owe _ _ _ _ T1 (mkF m 31 #[.val (.ref t), .val (.int 2), .val (.int cc)] [(.int 4)])
  refine oIstoreN K2 32 (d2_31 hby) (l' := #[.val (.ref t), .val (.int 4), .val (.int cc)]) rfl ?_
  refine oAloadN K2 33 (d2_32 hby) rfl rfl ?_
  refine oIloadN K2 34 (d2_33 hby) rfl ?_
  refine oIinc K2 37 (d2_34 hby) rfl (l' := #[.val (.ref t), .val (.int 5), .val (.int cc)]) rfl ?_
  refine oIloadN K2 38 (d2_37 hby) rfl ?_
  refine oGetS K2 41 (wq hw 114) (OH.ext K2.old) (d2_38 hby) ?_
  intro T3 K4
  refine oIshr K4 42 (d2_41 hby) ?_
  refine oI2b K4 43 (d2_42 hby) ?_
  refine oBastore K4 44 (by simp) P0 4 (by decide) (by decide) nlt (nar_byt _) (d2_43 hby) ?_
  intro T9 h5 lo8 K10 W6 A7
  have A11 : Ary Z h5 t .byte [(.int e0), (.int e1), (.int e2), (.int e3), (.int (byt (cc >>> ((0 : Int32) &&& 31)))), (.int e5)] := A7
  refine oAloadN K10 45 (d2_44 hby) rfl rfl ?_
  refine oIloadN K10 46 (d2_45 hby) rfl ?_
  refine oIloadN K10 47 (d2_46 hby) rfl ?_
  refine oGetS K10 50 (wq hw 115) (OL.ext K10.old) (d2_47 hby) ?_
  intro T12 K13
  refine oIshr K13 51 (d2_50 hby) ?_
  refine oI2b K13 52 (d2_51 hby) ?_
  refine oBastore K13 53 (by simp) A11 5 (by decide) (by decide) nlt (nar_byt _) (d2_52 hby) ?_
  intro T18 h14 lo17 K19 W15 A16
  have A20 : Ary Z h14 t .byte [(.int e0), (.int e1), (.int e2), (.int e3), (.int (byt (cc >>> ((0 : Int32) &&& 31)))), (.int (byt (cc >>> ((8 : Int32) &&& 31))))] := A16
  exact oRetV K19 [] hret (d2_53 hby) (by decide) (by decide) hlk (fun x hx => by cases hx) ⟨rfl, rfl, A20⟩
theorem rmPut4_0 (G : Gl Z a0 z0 fm) (t : Addr) (cc e0 e1 e2 e3 e4 e5 e6 e7 : Int32) (h0 : Heap) (hZh : Ext Z.heap h0) (hsf : Own Z h0 [t]) (P0 : Ary Z h0 t .byte [(.int e0), (.int e1), (.int e2), (.int e3), (.int e4), (.int e5), (.int e6), (.int e7)]) :
    Ctr l Z ELs yn44 jdk_52_method_4_code 3 none [] (rmk 0 0 0 0) #[(.ref t), (.int 0), (.int cc)] [t] h0 (fun v h fs => (fs = [] ∧ v = none ∧ Ary Z h t .byte [(.int (byt (cc >>> ((0 : Int32) &&& 31)))), (.int (byt (cc >>> ((8 : Int32) &&& 31)))), (.int e2), (.int e3), (.int e4), (.int e5), (.int e6), (.int e7)])) := by
  obtain ⟨hw, hEL, wS, OS, hz0, OA, OH, OL, OF, rfm⟩ := id G
  refine Ctr.intro pn12 hEL hZh hsf ?_
  intro p e s m below meth c s₁ hby hml hret hnm hlk hh K0
  refine Owe.cast (ef43 m t ((0 : Int32)) cc) ?_
  refine oGetS K0 3 (wq hw 113) (OA.ext K0.old) (d2_0 hby) ?_
  intro T1 K2
  refine oIfYes K2 28 (d2_3 hby) (XT.i0_ne_t (by decide)) ?_
  refine oIloadN K2 29 (d2_28 hby) rfl ?_
  refine oIconstV K2 30 (1 : Int32) (d2_29 hby) rfl ?_
  refine oIshl K2 31 (d2_30 hby) ?_
  show Owe _ _ _ _ T1 (mkF m 31 #[.val (.ref t), .val (.int 0), .val (.int cc)] [(.int 0)])
  refine oIstoreN K2 32 (d2_31 hby) (l' := #[.val (.ref t), .val (.int 0), .val (.int cc)]) rfl ?_
  refine oAloadN K2 33 (d2_32 hby) rfl rfl ?_
  refine oIloadN K2 34 (d2_33 hby) rfl ?_
  refine oIinc K2 37 (d2_34 hby) rfl (l' := #[.val (.ref t), .val (.int 1), .val (.int cc)]) rfl ?_
  refine oIloadN K2 38 (d2_37 hby) rfl ?_
  refine oGetS K2 41 (wq hw 114) (OH.ext K2.old) (d2_38 hby) ?_
  intro T3 K4
  refine oIshr K4 42 (d2_41 hby) ?_
  refine oI2b K4 43 (d2_42 hby) ?_
  refine oBastore K4 44 (by simp) P0 0 (by decide) (by decide) nlt (nar_byt _) (d2_43 hby) ?_
  intro T9 h5 lo8 K10 W6 A7
  have A11 : Ary Z h5 t .byte [(.int (byt (cc >>> ((0 : Int32) &&& 31)))), (.int e1), (.int e2), (.int e3), (.int e4), (.int e5), (.int e6), (.int e7)] := A7
  refine oAloadN K10 45 (d2_44 hby) rfl rfl ?_
  refine oIloadN K10 46 (d2_45 hby) rfl ?_
  refine oIloadN K10 47 (d2_46 hby) rfl ?_
  refine oGetS K10 50 (wq hw 115) (OL.ext K10.old) (d2_47 hby) ?_
  intro T12 K13
  refine oIshr K13 51 (d2_50 hby) ?_
  refine oI2b K13 52 (d2_51 hby) ?_
  refine oBastore K13 53 (by simp) A11 1 (by decide) (by decide) nlt (nar_byt _) (d2_52 hby) ?_
  intro T18 h14 lo17 K19 W15 A16
  have A20 : Ary Z h14 t .byte [(.int (byt (cc >>> ((0 : Int32) &&& 31)))), (.int (byt (cc >>> ((8 : Int32) &&& 31)))), (.int e2), (.int e3), (.int e4), (.int e5), (.int e6), (.int e7)] := A16
  exact oRetV K19 [] hret (d2_53 hby) (by decide) (by decide) hlk (fun x hx => by cases hx) ⟨rfl, rfl, A20⟩
theorem rmPut4_1 (G : Gl Z a0 z0 fm) (t : Addr) (cc e0 e1 e2 e3 e4 e5 e6 e7 : Int32) (h0 : Heap) (hZh : Ext Z.heap h0) (hsf : Own Z h0 [t]) (P0 : Ary Z h0 t .byte [(.int e0), (.int e1), (.int e2), (.int e3), (.int e4), (.int e5), (.int e6), (.int e7)]) :
    Ctr l Z ELs yn44 jdk_52_method_4_code 3 none [] (rmk 0 0 0 0) #[(.ref t), (.int 1), (.int cc)] [t] h0 (fun v h fs => (fs = [] ∧ v = none ∧ Ary Z h t .byte [(.int e0), (.int e1), (.int (byt (cc >>> ((0 : Int32) &&& 31)))), (.int (byt (cc >>> ((8 : Int32) &&& 31)))), (.int e4), (.int e5), (.int e6), (.int e7)])) := by
  obtain ⟨hw, hEL, wS, OS, hz0, OA, OH, OL, OF, rfm⟩ := id G
  refine Ctr.intro pn12 hEL hZh hsf ?_
  intro p e s m below meth c s₁ hby hml hret hnm hlk hh K0
  refine Owe.cast (ef43 m t ((1 : Int32)) cc) ?_
  refine oGetS K0 3 (wq hw 113) (OA.ext K0.old) (d2_0 hby) ?_
  intro T1 K2
  refine oIfYes K2 28 (d2_3 hby) (XT.i0_ne_t (by decide)) ?_
  refine oIloadN K2 29 (d2_28 hby) rfl ?_
  refine oIconstV K2 30 (1 : Int32) (d2_29 hby) rfl ?_
  refine oIshl K2 31 (d2_30 hby) ?_
  show Owe _ _ _ _ T1 (mkF m 31 #[.val (.ref t), .val (.int 1), .val (.int cc)] [(.int 2)])
  refine oIstoreN K2 32 (d2_31 hby) (l' := #[.val (.ref t), .val (.int 2), .val (.int cc)]) rfl ?_
  refine oAloadN K2 33 (d2_32 hby) rfl rfl ?_
  refine oIloadN K2 34 (d2_33 hby) rfl ?_
  refine oIinc K2 37 (d2_34 hby) rfl (l' := #[.val (.ref t), .val (.int 3), .val (.int cc)]) rfl ?_
  refine oIloadN K2 38 (d2_37 hby) rfl ?_
  refine oGetS K2 41 (wq hw 114) (OH.ext K2.old) (d2_38 hby) ?_
  intro T3 K4
  refine oIshr K4 42 (d2_41 hby) ?_
  refine oI2b K4 43 (d2_42 hby) ?_
  refine oBastore K4 44 (by simp) P0 2 (by decide) (by decide) nlt (nar_byt _) (d2_43 hby) ?_
  intro T9 h5 lo8 K10 W6 A7
  have A11 : Ary Z h5 t .byte [(.int e0), (.int e1), (.int (byt (cc >>> ((0 : Int32) &&& 31)))), (.int e3), (.int e4), (.int e5), (.int e6), (.int e7)] := A7
  refine oAloadN K10 45 (d2_44 hby) rfl rfl ?_
  refine oIloadN K10 46 (d2_45 hby) rfl ?_
  refine oIloadN K10 47 (d2_46 hby) rfl ?_
  refine oGetS K10 50 (wq hw 115) (OL.ext K10.old) (d2_47 hby) ?_
  intro T12 K13
  refine oIshr K13 51 (d2_50 hby) ?_
  refine oI2b K13 52 (d2_51 hby) ?_
  refine oBastore K13 53 (by simp) A11 3 (by decide) (by decide) nlt (nar_byt _) (d2_52 hby) ?_
  intro T18 h14 lo17 K19 W15 A16
  have A20 : Ary Z h14 t .byte [(.int e0), (.int e1), (.int (byt (cc >>> ((0 : Int32) &&& 31)))), (.int (byt (cc >>> ((8 : Int32) &&& 31)))), (.int e4), (.int e5), (.int e6), (.int e7)] := A16
  exact oRetV K19 [] hret (d2_53 hby) (by decide) (by decide) hlk (fun x hx => by cases hx) ⟨rfl, rfl, A20⟩
theorem rmPut4_2 (G : Gl Z a0 z0 fm) (t : Addr) (cc e0 e1 e2 e3 e4 e5 e6 e7 : Int32) (h0 : Heap) (hZh : Ext Z.heap h0) (hsf : Own Z h0 [t]) (P0 : Ary Z h0 t .byte [(.int e0), (.int e1), (.int e2), (.int e3), (.int e4), (.int e5), (.int e6), (.int e7)]) :
    Ctr l Z ELs yn44 jdk_52_method_4_code 3 none [] (rmk 0 0 0 0) #[(.ref t), (.int 2), (.int cc)] [t] h0 (fun v h fs => (fs = [] ∧ v = none ∧ Ary Z h t .byte [(.int e0), (.int e1), (.int e2), (.int e3), (.int (byt (cc >>> ((0 : Int32) &&& 31)))), (.int (byt (cc >>> ((8 : Int32) &&& 31)))), (.int e6), (.int e7)])) := by
  obtain ⟨hw, hEL, wS, OS, hz0, OA, OH, OL, OF, rfm⟩ := id G
  refine Ctr.intro pn12 hEL hZh hsf ?_
  intro p e s m below meth c s₁ hby hml hret hnm hlk hh K0
  refine Owe.cast (ef43 m t ((2 : Int32)) cc) ?_
  refine oGetS K0 3 (wq hw 113) (OA.ext K0.old) (d2_0 hby) ?_
  intro T1 K2
  refine oIfYes K2 28 (d2_3 hby) (XT.i0_ne_t (by decide)) ?_
  refine oIloadN K2 29 (d2_28 hby) rfl ?_
  refine oIconstV K2 30 (1 : Int32) (d2_29 hby) rfl ?_
  refine oIshl K2 31 (d2_30 hby) ?_
  show Owe _ _ _ _ T1 (mkF m 31 #[.val (.ref t), .val (.int 2), .val (.int cc)] [(.int 4)])
  refine oIstoreN K2 32 (d2_31 hby) (l' := #[.val (.ref t), .val (.int 4), .val (.int cc)]) rfl ?_
  refine oAloadN K2 33 (d2_32 hby) rfl rfl ?_
  refine oIloadN K2 34 (d2_33 hby) rfl ?_
  refine oIinc K2 37 (d2_34 hby) rfl (l' := #[.val (.ref t), .val (.int 5), .val (.int cc)]) rfl ?_
  refine oIloadN K2 38 (d2_37 hby) rfl ?_
  refine oGetS K2 41 (wq hw 114) (OH.ext K2.old) (d2_38 hby) ?_
  intro T3 K4
  refine oIshr K4 42 (d2_41 hby) ?_
  refine oI2b K4 43 (d2_42 hby) ?_
  refine oBastore K4 44 (by simp) P0 4 (by decide) (by decide) nlt (nar_byt _) (d2_43 hby) ?_
  intro T9 h5 lo8 K10 W6 A7
  have A11 : Ary Z h5 t .byte [(.int e0), (.int e1), (.int e2), (.int e3), (.int (byt (cc >>> ((0 : Int32) &&& 31)))), (.int e5), (.int e6), (.int e7)] := A7
  refine oAloadN K10 45 (d2_44 hby) rfl rfl ?_
  refine oIloadN K10 46 (d2_45 hby) rfl ?_
  refine oIloadN K10 47 (d2_46 hby) rfl ?_
  refine oGetS K10 50 (wq hw 115) (OL.ext K10.old) (d2_47 hby) ?_
  intro T12 K13
  refine oIshr K13 51 (d2_50 hby) ?_
  refine oI2b K13 52 (d2_51 hby) ?_
  refine oBastore K13 53 (by simp) A11 5 (by decide) (by decide) nlt (nar_byt _) (d2_52 hby) ?_
  intro T18 h14 lo17 K19 W15 A16
  have A20 : Ary Z h14 t .byte [(.int e0), (.int e1), (.int e2), (.int e3), (.int (byt (cc >>> ((0 : Int32) &&& 31)))), (.int (byt (cc >>> ((8 : Int32) &&& 31)))), (.int e6), (.int e7)] := A16
  exact oRetV K19 [] hret (d2_53 hby) (by decide) (by decide) hlk (fun x hx => by cases hx) ⟨rfl, rfl, A20⟩
theorem rmPut4_3 (G : Gl Z a0 z0 fm) (t : Addr) (cc e0 e1 e2 e3 e4 e5 e6 e7 : Int32) (h0 : Heap) (hZh : Ext Z.heap h0) (hsf : Own Z h0 [t]) (P0 : Ary Z h0 t .byte [(.int e0), (.int e1), (.int e2), (.int e3), (.int e4), (.int e5), (.int e6), (.int e7)]) :
    Ctr l Z ELs yn44 jdk_52_method_4_code 3 none [] (rmk 0 0 0 0) #[(.ref t), (.int 3), (.int cc)] [t] h0 (fun v h fs => (fs = [] ∧ v = none ∧ Ary Z h t .byte [(.int e0), (.int e1), (.int e2), (.int e3), (.int e4), (.int e5), (.int (byt (cc >>> ((0 : Int32) &&& 31)))), (.int (byt (cc >>> ((8 : Int32) &&& 31))))])) := by
  obtain ⟨hw, hEL, wS, OS, hz0, OA, OH, OL, OF, rfm⟩ := id G
  refine Ctr.intro pn12 hEL hZh hsf ?_
  intro p e s m below meth c s₁ hby hml hret hnm hlk hh K0
  refine Owe.cast (ef43 m t ((3 : Int32)) cc) ?_
  refine oGetS K0 3 (wq hw 113) (OA.ext K0.old) (d2_0 hby) ?_
  intro T1 K2
  refine oIfYes K2 28 (d2_3 hby) (XT.i0_ne_t (by decide)) ?_
  refine oIloadN K2 29 (d2_28 hby) rfl ?_
  refine oIconstV K2 30 (1 : Int32) (d2_29 hby) rfl ?_
  refine oIshl K2 31 (d2_30 hby) ?_
  show Owe _ _ _ _ T1 (mkF m 31 #[.val (.ref t), .val (.int 3), .val (.int cc)] [(.int 6)])
  refine oIstoreN K2 32 (d2_31 hby) (l' := #[.val (.ref t), .val (.int 6), .val (.int cc)]) rfl ?_
  refine oAloadN K2 33 (d2_32 hby) rfl rfl ?_
  refine oIloadN K2 34 (d2_33 hby) rfl ?_
  refine oIinc K2 37 (d2_34 hby) rfl (l' := #[.val (.ref t), .val (.int 7), .val (.int cc)]) rfl ?_
  refine oIloadN K2 38 (d2_37 hby) rfl ?_
  refine oGetS K2 41 (wq hw 114) (OH.ext K2.old) (d2_38 hby) ?_
  intro T3 K4
  refine oIshr K4 42 (d2_41 hby) ?_
  refine oI2b K4 43 (d2_42 hby) ?_
  refine oBastore K4 44 (by simp) P0 6 (by decide) (by decide) nlt (nar_byt _) (d2_43 hby) ?_
  intro T9 h5 lo8 K10 W6 A7
  have A11 : Ary Z h5 t .byte [(.int e0), (.int e1), (.int e2), (.int e3), (.int e4), (.int e5), (.int (byt (cc >>> ((0 : Int32) &&& 31)))), (.int e7)] := A7
  refine oAloadN K10 45 (d2_44 hby) rfl rfl ?_
  refine oIloadN K10 46 (d2_45 hby) rfl ?_
  refine oIloadN K10 47 (d2_46 hby) rfl ?_
  refine oGetS K10 50 (wq hw 115) (OL.ext K10.old) (d2_47 hby) ?_
  intro T12 K13
  refine oIshr K13 51 (d2_50 hby) ?_
  refine oI2b K13 52 (d2_51 hby) ?_
  refine oBastore K13 53 (by simp) A11 7 (by decide) (by decide) nlt (nar_byt _) (d2_52 hby) ?_
  intro T18 h14 lo17 K19 W15 A16
  have A20 : Ary Z h14 t .byte [(.int e0), (.int e1), (.int e2), (.int e3), (.int e4), (.int e5), (.int (byt (cc >>> ((0 : Int32) &&& 31)))), (.int (byt (cc >>> ((8 : Int32) &&& 31))))] := A16
  exact oRetV K19 [] hret (d2_53 hby) (by decide) (by decide) hlk (fun x hx => by cases hx) ⟨rfl, rfl, A20⟩
abbrev y3 := jdk_52_method_14_code
theorem d3_0 : DC y3 0 (.iload_n 2) 1 := hb' (by decide +kernel)
theorem d3_1 : DC y3 1 (.invokestatic 107) 3 := hb' (by decide +kernel)
theorem pd48 : parseMethodDescriptor "(I)[B" = some ⟨[.int], some (.array .byte)⟩ := by decide +kernel
theorem d3_4 : DC y3 4 (.astore_n 3) 1 := hb' (by decide +kernel)
theorem d3_5 : DC y3 5 (.iconst 0) 1 := hb' (by decide +kernel)
theorem d3_6 : DC y3 6 (.istore 4) 2 := hb' (by decide +kernel)
theorem d3_8 : DC y3 8 (.iload 4) 2 := hb' (by decide +kernel)
theorem d3_10 : DC y3 10 (.iload_n 2) 1 := hb' (by decide +kernel)
theorem d3_11 : DC y3 11 (.if_icmp .ge 21) 3 := hb' (by decide +kernel)
theorem d3_14 : DC y3 14 (.aload_n 3) 1 := hb' (by decide +kernel)
theorem d3_15 : DC y3 15 (.iload 4) 2 := hb' (by decide +kernel)
theorem d3_17 : DC y3 17 (.aload_n 0) 1 := hb' (by decide +kernel)
theorem d3_18 : DC y3 18 (.iload_n 1) 1 := hb' (by decide +kernel)
theorem d3_19 : DC y3 19 (.caload) 1 := hb' (by decide +kernel)
theorem d3_20 : DC y3 20 (.invokestatic 111) 3 := hb' (by decide +kernel)
theorem pd61 : parseMethodDescriptor "([BII)V" = some ⟨[(.array .byte), .int, .int], none⟩ := by decide +kernel
theorem d3_23 : DC y3 23 (.iinc 1 1) 3 := hb' (by decide +kernel)
theorem d3_26 : DC y3 26 (.iinc 4 1) 3 := hb' (by decide +kernel)
theorem d3_29 : DC y3 29 (.goto (-21)) 3 := hb' (by decide +kernel)
theorem d3_32 : DC y3 32 (.aload_n 3) 1 := hb' (by decide +kernel)
theorem d3_33 : DC y3 33 (.areturn) 1 := hb' (by decide +kernel)
theorem ef67 (m : MethodId) (x0 : Addr) (x1 : Int32) (x2 : Int32) : entryFrame m #[(.ref x0), (.int x1), (.int x2)] 5 = mkF m 0 #[.val (.ref x0), .val (.int x1), .val (.int x2), .unset, .unset] [] := by first | (simp [entryFrame, mkF, argsToLocals, Value.category]; done) | rfl
abbrev yn68 : MethodName := ⟨"java/lang/StringUTF16", "toBytes", "([CII)[B"⟩
theorem rmToB1 (G : Gl Z a0 z0 fm) (b : Addr) (c0 : Int32) (h0 : Heap) (hZh : Ext Z.heap h0) (hsf : Own Z h0 []) (P0 : Ary Z h0 b .char [(.int c0)]) :
    Ctr l Z ELs yn68 jdk_52_method_14_code 5 (some (.array .byte)) [] (rmk 2 1 2 24) #[(.ref b), (.int 0), (.int 1)] [] h0 (fun v h fs => (∃ t : Addr, fs = [] ∧ v = some (.ref t) ∧ Ary Z h t .byte [(.int (byt (c0 >>> ((0 : Int32) &&& 31)))), (.int (byt (c0 >>> ((8 : Int32) &&& 31))))] ∧ h0.size ≤ t)) := by
  obtain ⟨hw, hEL, wS, OS, hz0, OA, OH, OL, OF, rfm⟩ := id G
  refine Ctr.intro pn12 hEL hZh hsf ?_
  intro p e s m below meth c s₁ hby hml hret hnm hlk hh K0
  refine Owe.cast (ef67 m b ((0 : Int32)) ((1 : Int32))) ?_
  refine oIloadN K0 1 (d3_0 hby) rfl ?_
  refine oStatic K0 4 0 (wq hw 103) (wq hw 104) (wq hw 85) (wq hw 105) (rmNBF1 l Z a0 z0 fm G  h0 K0.old K0.both ) [(.int 1)] [] (lenOf pd48 rfl) (d3_1 hby) ?_
  intro T1 h3 v4 lo5 fs6 K2 Kp7 q8
  obtain ⟨t9, rfl, rfl, f10, f11⟩ := q8
  have K12 := K2.to 1 2 [t9]
  refine Owe.stk [(.ref t9)] ?_
  refine oAstoreN K12 5 (d3_4 hby) rfl (l' := #[.val (.ref b), .val (.int 0), .val (.int 1), .val (.ref t9), .unset]) rfl ?_
  refine oIconstV K12 6 (0 : Int32) (d3_5 hby) rfl ?_
  refine oIstore K12 8 (d3_6 hby) (l' := #[.val (.ref b), .val (.int 0), .val (.int 1), .val (.ref t9), .val (.int 0)]) rfl ?_
  refine oIload K12 10 (d3_8 hby) rfl ?_
  refine oIloadN K12 11 (d3_10 hby) rfl ?_
  refine oIcmpNo K12 14 (d3_11 hby) (XT.ii_ge_f (by decide)) ?_
  refine oAloadN K12 15 (d3_14 hby) rfl rfl ?_
  refine oIload K12 17 (d3_15 hby) rfl ?_
  refine oAloadN K12 18 (d3_17 hby) rfl rfl ?_
  refine oIloadN K12 19 (d3_18 hby) rfl ?_
  refine oCaload K12 20 (P0.keep Kp7 nin0) 0 (by decide) (by decide) rfl (d3_19 hby) ?_
  refine oStatic K12 23 0 (wq hw 110) (wq hw 111) (wq hw 85) (wq hw 112) (rmPut1_0 l Z a0 z0 fm G t9 c0 ((0 : Int32)) ((0 : Int32)) h3 K12.old K12.both f10) [(.ref t9), (.int 0), (.int c0)] [] (lenOf pd61 rfl) (d3_20 hby) ?_
  intro T13 h15 v16 lo17 fs18 K14 Kp19 q20
  obtain ⟨rfl, rfl, f21⟩ := q20
  have K22 := K14.to 1 2 [t9]
  refine Owe.stk [] ?_
  refine oIinc K22 26 (d3_23 hby) rfl (l' := #[.val (.ref b), .val (.int 1), .val (.int 1), .val (.ref t9), .val (.int 0)]) rfl ?_
  refine oIinc K22 29 (d3_26 hby) rfl (l' := #[.val (.ref b), .val (.int 1), .val (.int 1), .val (.ref t9), .val (.int 1)]) rfl ?_
  refine oGoto K22 8 (d3_29 hby) ?_
  refine oIload K22 10 (d3_8 hby) rfl ?_
  refine oIloadN K22 11 (d3_10 hby) rfl ?_
  refine oIcmpYes K22 32 (d3_11 hby) (XT.ii_ge_t (by decide)) ?_
  refine oAloadN K22 33 (d3_32 hby) rfl rfl ?_
  exact oRetA K22 [] hret rfl rfl (d3_33 hby) (by decide) (by decide) hlk (fun x hx => by cases hx) ⟨t9, rfl, rfl, f21, (Nat.le_trans (Nat.le_refl _) f11)⟩
theorem rmToB2 (G : Gl Z a0 z0 fm) (b : Addr) (c0 c1 : Int32) (h0 : Heap) (hZh : Ext Z.heap h0) (hsf : Own Z h0 []) (P0 : Ary Z h0 b .char [(.int c0), (.int c1)]) :
    Ctr l Z ELs yn68 jdk_52_method_14_code 5 (some (.array .byte)) [] (rmk 2 1 4 24) #[(.ref b), (.int 0), (.int 2)] [] h0 (fun v h fs => (∃ t : Addr, fs = [] ∧ v = some (.ref t) ∧ Ary Z h t .byte [(.int (byt (c0 >>> ((0 : Int32) &&& 31)))), (.int (byt (c0 >>> ((8 : Int32) &&& 31)))), (.int (byt (c1 >>> ((0 : Int32) &&& 31)))), (.int (byt (c1 >>> ((8 : Int32) &&& 31))))] ∧ h0.size ≤ t)) := by
  obtain ⟨hw, hEL, wS, OS, hz0, OA, OH, OL, OF, rfm⟩ := id G
  refine Ctr.intro pn12 hEL hZh hsf ?_
  intro p e s m below meth c s₁ hby hml hret hnm hlk hh K0
  refine Owe.cast (ef67 m b ((0 : Int32)) ((2 : Int32))) ?_
  refine oIloadN K0 1 (d3_0 hby) rfl ?_
  refine oStatic K0 4 0 (wq hw 103) (wq hw 104) (wq hw 85) (wq hw 105) (rmNBF2 l Z a0 z0 fm G  h0 K0.old K0.both ) [(.int 2)] [] (lenOf pd48 rfl) (d3_1 hby) ?_
  intro T1 h3 v4 lo5 fs6 K2 Kp7 q8
  obtain ⟨t9, rfl, rfl, f10, f11⟩ := q8
  have K12 := K2.to 1 4 [t9]
  refine Owe.stk [(.ref t9)] ?_
  refine oAstoreN K12 5 (d3_4 hby) rfl (l' := #[.val (.ref b), .val (.int 0), .val (.int 2), .val (.ref t9), .unset]) rfl ?_
  refine oIconstV K12 6 (0 : Int32) (d3_5 hby) rfl ?_
  refine oIstore K12 8 (d3_6 hby) (l' := #[.val (.ref b), .val (.int 0), .val (.int 2), .val (.ref t9), .val (.int 0)]) rfl ?_
  refine oIload K12 10 (d3_8 hby) rfl ?_
  refine oIloadN K12 11 (d3_10 hby) rfl ?_
  refine oIcmpNo K12 14 (d3_11 hby) (XT.ii_ge_f (by decide)) ?_
  refine oAloadN K12 15 (d3_14 hby) rfl rfl ?_
  refine oIload K12 17 (d3_15 hby) rfl ?_
  refine oAloadN K12 18 (d3_17 hby) rfl rfl ?_
  refine oIloadN K12 19 (d3_18 hby) rfl ?_
  refine oCaload K12 20 (P0.keep Kp7 nin0) 0 (by decide) (by decide) rfl (d3_19 hby) ?_
  refine oStatic K12 23 0 (wq hw 110) (wq hw 111) (wq hw 85) (wq hw 112) (rmPut2_0 l Z a0 z0 fm G t9 c0 ((0 : Int32)) ((0 : Int32)) ((0 : Int32)) ((0 : Int32)) h3 K12.old K12.both f10) [(.ref t9), (.int 0), (.int c0)] [] (lenOf pd61 rfl) (d3_20 hby) ?_
  intro T13 h15 v16 lo17 fs18 K14 Kp19 q20
  obtain ⟨rfl, rfl, f21⟩ := q20
  have K22 := K14.to 1 4 [t9]
  refine Owe.stk [] ?_
  refine oIinc K22 26 (d3_23 hby) rfl (l' := #[.val (.ref b), .val (.int 1), .val (.int 2), .val (.ref t9), .val (.int 0)]) rfl ?_
  refine oIinc K22 29 (d3_26 hby) rfl (l' := #[.val (.ref b), .val (.int 1), .val (.int 2), .val (.ref t9), .val (.int 1)]) rfl ?_
  refine oGoto K22 8 (d3_29 hby) ?_
  refine oIload K22 10 (d3_8 hby) rfl ?_
  refine oIloadN K22 11 (d3_10 hby) rfl ?_
  refine oIcmpNo K22 14 (d3_11 hby) (XT.ii_ge_f (by decide)) ?_
  refine oAloadN K22 15 (d3_14 hby) rfl rfl ?_
  refine oIload K22 17 (d3_15 hby) rfl ?_
  refine oAloadN K22 18 (d3_17 hby) rfl rfl ?_
  refine oIloadN K22 19 (d3_18 hby) rfl ?_
  have F23 := ((P0.keep Kp7 nin0).keep Kp19 (ninS (Nat.ne_of_lt (Nat.lt_of_lt_of_le P0.lt f11)) nin0))
  refine oCaload K22 20 F23 1 (by decide) (by decide) rfl (d3_19 hby) ?_
  refine oStatic K22 23 0 (wq hw 110) (wq hw 111) (wq hw 85) (wq hw 112) (rmPut2_1 l Z a0 z0 fm G t9 c1 ((byt (c0 >>> ((0 : Int32) &&& 31)))) ((byt (c0 >>> ((8 : Int32) &&& 31)))) ((0 : Int32)) ((0 : Int32)) h15 K22.old K22.both f21) [(.ref t9), (.int 1), (.int c1)] [] (lenOf pd61 rfl) (d3_20 hby) ?_
  intro T24 h26 v27 lo28 fs29 K25 Kp30 q31
  obtain ⟨rfl, rfl, f32⟩ := q31
  have K33 := K25.to 1 4 [t9]
  refine Owe.stk [] ?_
  refine oIinc K33 26 (d3_23 hby) rfl (l' := #[.val (.ref b), .val (.int 2), .val (.int 2), .val (.ref t9), .val (.int 1)]) rfl ?_
  refine oIinc K33 29 (d3_26 hby) rfl (l' := #[.val (.ref b), .val (.int 2), .val (.int 2), .val (.ref t9), .val (.int 2)]) rfl ?_
  refine oGoto K33 8 (d3_29 hby) ?_
  refine oIload K33 10 (d3_8 hby) rfl ?_
  refine oIloadN K33 11 (d3_10 hby) rfl ?_
  refine oIcmpYes K33 32 (d3_11 hby) (XT.ii_ge_t (by decide)) ?_
  refine oAloadN K33 33 (d3_32 hby) rfl rfl ?_
  exact oRetA K33 [] hret rfl rfl (d3_33 hby) (by decide) (by decide) hlk (fun x hx => by cases hx) ⟨t9, rfl, rfl, f32, (Nat.le_trans (Nat.le_refl _) f11)⟩
theorem rmToB3 (G : Gl Z a0 z0 fm) (b : Addr) (c0 c1 c2 : Int32) (h0 : Heap) (hZh : Ext Z.heap h0) (hsf : Own Z h0 []) (P0 : Ary Z h0 b .char [(.int c0), (.int c1), (.int c2)]) :
    Ctr l Z ELs yn68 jdk_52_method_14_code 5 (some (.array .byte)) [] (rmk 2 1 6 24) #[(.ref b), (.int 0), (.int 3)] [] h0 (fun v h fs => (∃ t : Addr, fs = [] ∧ v = some (.ref t) ∧ Ary Z h t .byte [(.int (byt (c0 >>> ((0 : Int32) &&& 31)))), (.int (byt (c0 >>> ((8 : Int32) &&& 31)))), (.int (byt (c1 >>> ((0 : Int32) &&& 31)))), (.int (byt (c1 >>> ((8 : Int32) &&& 31)))), (.int (byt (c2 >>> ((0 : Int32) &&& 31)))), (.int (byt (c2 >>> ((8 : Int32) &&& 31))))] ∧ h0.size ≤ t)) := by
  obtain ⟨hw, hEL, wS, OS, hz0, OA, OH, OL, OF, rfm⟩ := id G
  refine Ctr.intro pn12 hEL hZh hsf ?_
  intro p e s m below meth c s₁ hby hml hret hnm hlk hh K0
  refine Owe.cast (ef67 m b ((0 : Int32)) ((3 : Int32))) ?_
  refine oIloadN K0 1 (d3_0 hby) rfl ?_
  refine oStatic K0 4 0 (wq hw 103) (wq hw 104) (wq hw 85) (wq hw 105) (rmNBF3 l Z a0 z0 fm G  h0 K0.old K0.both ) [(.int 3)] [] (lenOf pd48 rfl) (d3_1 hby) ?_
  intro T1 h3 v4 lo5 fs6 K2 Kp7 q8
  obtain ⟨t9, rfl, rfl, f10, f11⟩ := q8
  have K12 := K2.to 1 6 [t9]
  refine Owe.stk [(.ref t9)] ?_
  refine oAstoreN K12 5 (d3_4 hby) rfl (l' := #[.val (.ref b), .val (.int 0), .val (.int 3), .val (.ref t9), .unset]) rfl ?_
  refine oIconstV K12 6 (0 : Int32) (d3_5 hby) rfl ?_
  refine oIstore K12 8 (d3_6 hby) (l' := #[.val (.ref b), .val (.int 0), .val (.int 3), .val (.ref t9), .val (.int 0)]) rfl ?_
  refine oIload K12 10 (d3_8 hby) rfl ?_
  refine oIloadN K12 11 (d3_10 hby) rfl ?_
  refine oIcmpNo K12 14 (d3_11 hby) (XT.ii_ge_f (by decide)) ?_
  refine oAloadN K12 15 (d3_14 hby) rfl rfl ?_
  refine oIload K12 17 (d3_15 hby) rfl ?_
  refine oAloadN K12 18 (d3_17 hby) rfl rfl ?_
  refine oIloadN K12 19 (d3_18 hby) rfl ?_
  refine oCaload K12 20 (P0.keep Kp7 nin0) 0 (by decide) (by decide) rfl (d3_19 hby) ?_
  refine oStatic K12 23 0 (wq hw 110) (wq hw 111) (wq hw 85) (wq hw 112) (rmPut3_0 l Z a0 z0 fm G t9 c0 ((0 : Int32)) ((0 : Int32)) ((0 : Int32)) ((0 : Int32)) ((0 : Int32)) ((0 : Int32)) h3 K12.old K12.both f10) [(.ref t9), (.int 0), (.int c0)] [] (lenOf pd61 rfl) (d3_20 hby) ?_
  intro T13 h15 v16 lo17 fs18 K14 Kp19 q20
  obtain ⟨rfl, rfl, f21⟩ := q20
  have K22 := K14.to 1 6 [t9]
  refine Owe.stk [] ?_
  refine oIinc K22 26 (d3_23 hby) rfl (l' := #[.val (.ref b), .val (.int 1), .val (.int 3), .val (.ref t9), .val (.int 0)]) rfl ?_
  refine oIinc K22 29 (d3_26 hby) rfl (l' := #[.val (.ref b), .val (.int 1), .val (.int 3), .val (.ref t9), .val (.int 1)]) rfl ?_
  refine oGoto K22 8 (d3_29 hby) ?_
  refine oIload K22 10 (d3_8 hby) rfl ?_
  refine oIloadN K22 11 (d3_10 hby) rfl ?_
  refine oIcmpNo K22 14 (d3_11 hby) (XT.ii_ge_f (by decide)) ?_
  refine oAloadN K22 15 (d3_14 hby) rfl rfl ?_
  refine oIload K22 17 (d3_15 hby) rfl ?_
  refine oAloadN K22 18 (d3_17 hby) rfl rfl ?_
  refine oIloadN K22 19 (d3_18 hby) rfl ?_
  have F23 := ((P0.keep Kp7 nin0).keep Kp19 (ninS (Nat.ne_of_lt (Nat.lt_of_lt_of_le P0.lt f11)) nin0))
  refine oCaload K22 20 F23 1 (by decide) (by decide) rfl (d3_19 hby) ?_
  refine oStatic K22 23 0 (wq hw 110) (wq hw 111) (wq hw 85) (wq hw 112) (rmPut3_1 l Z a0 z0 fm G t9 c1 ((byt (c0 >>> ((0 : Int32) &&& 31)))) ((byt (c0 >>> ((8 : Int32) &&& 31)))) ((0 : Int32)) ((0 : Int32)) ((0 : Int32)) ((0 : Int32)) h15 K22.old K22.both f21) [(.ref t9), (.int 1), (.int c1)] [] (lenOf pd61 rfl) (d3_20 hby) ?_
  intro T24 h26 v27 lo28 fs29 K25 Kp30 q31
  obtain ⟨rfl, rfl, f32⟩ := q31
  have K33 := K25.to 1 6 [t9]
  refine Owe.stk [] ?_
  refine oIinc K33 26 (d3_23 hby) rfl (l' := #[.val (.ref b), .val (.int 2), .val (.int 3), .val (.ref t9), .val (.int 1)]) rfl ?_
  refine oIinc K33 29 (d3_26 hby) rfl (l' := #[.val (.ref b), .val (.int 2), .val (.int 3), .val (.ref t9), .val (.int 2)]) rfl ?_
  refine oGoto K33 8 (d3_29 hby) ?_
  refine oIload K33 10 (d3_8 hby) rfl ?_
  refine oIloadN K33 11 (d3_10 hby) rfl ?_
  refine oIcmpNo K33 14 (d3_11 hby) (XT.ii_ge_f (by decide)) ?_
  refine oAloadN K33 15 (d3_14 hby) rfl rfl ?_
  refine oIload K33 17 (d3_15 hby) rfl ?_
  refine oAloadN K33 18 (d3_17 hby) rfl rfl ?_
  refine oIloadN K33 19 (d3_18 hby) rfl ?_
  have F34 := (F23.keep Kp30 (ninS (Nat.ne_of_lt (Nat.lt_of_lt_of_le P0.lt f11)) nin0))
  refine oCaload K33 20 F34 2 (by decide) (by decide) rfl (d3_19 hby) ?_
  refine oStatic K33 23 0 (wq hw 110) (wq hw 111) (wq hw 85) (wq hw 112) (rmPut3_2 l Z a0 z0 fm G t9 c2 ((byt (c0 >>> ((0 : Int32) &&& 31)))) ((byt (c0 >>> ((8 : Int32) &&& 31)))) ((byt (c1 >>> ((0 : Int32) &&& 31)))) ((byt (c1 >>> ((8 : Int32) &&& 31)))) ((0 : Int32)) ((0 : Int32)) h26 K33.old K33.both f32) [(.ref t9), (.int 2), (.int c2)] [] (lenOf pd61 rfl) (d3_20 hby) ?_
  intro T35 h37 v38 lo39 fs40 K36 Kp41 q42
  obtain ⟨rfl, rfl, f43⟩ := q42
  have K44 := K36.to 1 6 [t9]
  refine Owe.stk [] ?_
  refine oIinc K44 26 (d3_23 hby) rfl (l' := #[.val (.ref b), .val (.int 3), .val (.int 3), .val (.ref t9), .val (.int 2)]) rfl ?_
  refine oIinc K44 29 (d3_26 hby) rfl (l' := #[.val (.ref b), .val (.int 3), .val (.int 3), .val (.ref t9), .val (.int 3)]) rfl ?_
  refine oGoto K44 8 (d3_29 hby) ?_
  refine oIload K44 10 (d3_8 hby) rfl ?_
  refine oIloadN K44 11 (d3_10 hby) rfl ?_
  refine oIcmpYes K44 32 (d3_11 hby) (XT.ii_ge_t (by decide)) ?_
  refine oAloadN K44 33 (d3_32 hby) rfl rfl ?_
  exact oRetA K44 [] hret rfl rfl (d3_33 hby) (by decide) (by decide) hlk (fun x hx => by cases hx) ⟨t9, rfl, rfl, f43, (Nat.le_trans (Nat.le_refl _) f11)⟩
theorem rmToB4 (G : Gl Z a0 z0 fm) (b : Addr) (c0 c1 c2 c3 : Int32) (h0 : Heap) (hZh : Ext Z.heap h0) (hsf : Own Z h0 []) (P0 : Ary Z h0 b .char [(.int c0), (.int c1), (.int c2), (.int c3)]) :
    Ctr l Z ELs yn68 jdk_52_method_14_code 5 (some (.array .byte)) [] (rmk 2 1 8 24) #[(.ref b), (.int 0), (.int 4)] [] h0 (fun v h fs => (∃ t : Addr, fs = [] ∧ v = some (.ref t) ∧ Ary Z h t .byte [(.int (byt (c0 >>> ((0 : Int32) &&& 31)))), (.int (byt (c0 >>> ((8 : Int32) &&& 31)))), (.int (byt (c1 >>> ((0 : Int32) &&& 31)))), (.int (byt (c1 >>> ((8 : Int32) &&& 31)))), (.int (byt (c2 >>> ((0 : Int32) &&& 31)))), (.int (byt (c2 >>> ((8 : Int32) &&& 31)))), (.int (byt (c3 >>> ((0 : Int32) &&& 31)))), (.int (byt (c3 >>> ((8 : Int32) &&& 31))))] ∧ h0.size ≤ t)) := by
  obtain ⟨hw, hEL, wS, OS, hz0, OA, OH, OL, OF, rfm⟩ := id G
  refine Ctr.intro pn12 hEL hZh hsf ?_
  intro p e s m below meth c s₁ hby hml hret hnm hlk hh K0
  refine Owe.cast (ef67 m b ((0 : Int32)) ((4 : Int32))) ?_
  refine oIloadN K0 1 (d3_0 hby) rfl ?_
  refine oStatic K0 4 0 (wq hw 103) (wq hw 104) (wq hw 85) (wq hw 105) (rmNBF4 l Z a0 z0 fm G  h0 K0.old K0.both ) [(.int 4)] [] (lenOf pd48 rfl) (d3_1 hby) ?_
  intro T1 h3 v4 lo5 fs6 K2 Kp7 q8
  obtain ⟨t9, rfl, rfl, f10, f11⟩ := q8
  have K12 := K2.to 1 8 [t9]
  refine Owe.stk [(.ref t9)] ?_
  refine oAstoreN K12 5 (d3_4 hby) rfl (l' := #[.val (.ref b), .val (.int 0), .val (.int 4), .val (.ref t9), .unset]) rfl ?_
  refine oIconstV K12 6 (0 : Int32) (d3_5 hby) rfl ?_
  refine oIstore K12 8 (d3_6 hby) (l' := #[.val (.ref b), .val (.int 0), .val (.int 4), .val (.ref t9), .val (.int 0)]) rfl ?_
  refine oIload K12 10 (d3_8 hby) rfl ?_
  refine oIloadN K12 11 (d3_10 hby) rfl ?_
  refine oIcmpNo K12 14 (d3_11 hby) (XT.ii_ge_f (by decide)) ?_
  refine oAloadN K12 15 (d3_14 hby) rfl rfl ?_
  refine oIload K12 17 (d3_15 hby) rfl ?_
  refine oAloadN K12 18 (d3_17 hby) rfl rfl ?_
  refine oIloadN K12 19 (d3_18 hby) rfl ?_
  refine oCaload K12 20 (P0.keep Kp7 nin0) 0 (by decide) (by decide) rfl (d3_19 hby) ?_
  refine oStatic K12 23 0 (wq hw 110) (wq hw 111) (wq hw 85) (wq hw 112) (rmPut4_0 l Z a0 z0 fm G t9 c0 ((0 : Int32)) ((0 : Int32)) ((0 : Int32)) ((0 : Int32)) ((0 : Int32)) ((0 : Int32)) ((0 : Int32)) ((0 : Int32)) h3 K12.old K12.both f10) [(.ref t9), (.int 0), (.int c0)] [] (lenOf pd61 rfl) (d3_20 hby) ?_
  intro T13 h15 v16 lo17 fs18 K14 Kp19 q20
  obtain ⟨rfl, rfl, f21⟩ := q20
  have K22 := K14.to 1 8 [t9]
  refine Owe.stk [] ?_
  refine oIinc K22 26 (d3_23 hby) rfl (l' := #[.val (.ref b), .val (.int 1), .val (.int 4), .val (.ref t9), .val (.int 0)]) rfl ?_
  refine oIinc K22 29 (d3_26 hby) rfl (l' := #[.val (.ref b), .val (.int 1), .val (.int 4), .val (.ref t9), .val (.int 1)]) rfl ?_
  refine oGoto K22 8 (d3_29 hby) ?_
  refine oIload K22 10 (d3_8 hby) rfl ?_
  refine oIloadN K22 11 (d3_10 hby) rfl ?_
  refine oIcmpNo K22 14 (d3_11 hby) (XT.ii_ge_f (by decide)) ?_
  refine oAloadN K22 15 (d3_14 hby) rfl rfl ?_
  refine oIload K22 17 (d3_15 hby) rfl ?_
  refine oAloadN K22 18 (d3_17 hby) rfl rfl ?_
  refine oIloadN K22 19 (d3_18 hby) rfl ?_
  have F23 := ((P0.keep Kp7 nin0).keep Kp19 (ninS (Nat.ne_of_lt (Nat.lt_of_lt_of_le P0.lt f11)) nin0))
  refine oCaload K22 20 F23 1 (by decide) (by decide) rfl (d3_19 hby) ?_
  refine oStatic K22 23 0 (wq hw 110) (wq hw 111) (wq hw 85) (wq hw 112) (rmPut4_1 l Z a0 z0 fm G t9 c1 ((byt (c0 >>> ((0 : Int32) &&& 31)))) ((byt (c0 >>> ((8 : Int32) &&& 31)))) ((0 : Int32)) ((0 : Int32)) ((0 : Int32)) ((0 : Int32)) ((0 : Int32)) ((0 : Int32)) h15 K22.old K22.both f21) [(.ref t9), (.int 1), (.int c1)] [] (lenOf pd61 rfl) (d3_20 hby) ?_
  intro T24 h26 v27 lo28 fs29 K25 Kp30 q31
  obtain ⟨rfl, rfl, f32⟩ := q31
  have K33 := K25.to 1 8 [t9]
  refine Owe.stk [] ?_
  refine oIinc K33 26 (d3_23 hby) rfl (l' := #[.val (.ref b), .val (.int 2), .val (.int 4), .val (.ref t9), .val (.int 1)]) rfl ?_
  refine oIinc K33 29 (d3_26 hby) rfl (l' := #[.val (.ref b), .val (.int 2), .val (.int 4), .val (.ref t9), .val (.int 2)]) rfl ?_
  refine oGoto K33 8 (d3_29 hby) ?_
  refine oIload K33 10 (d3_8 hby) rfl ?_
  refine oIloadN K33 11 (d3_10 hby) rfl ?_
  refine oIcmpNo K33 14 (d3_11 hby) (XT.ii_ge_f (by decide)) ?_
  refine oAloadN K33 15 (d3_14 hby) rfl rfl ?_
  refine oIload K33 17 (d3_15 hby) rfl ?_
  refine oAloadN K33 18 (d3_17 hby) rfl rfl ?_
  refine oIloadN K33 19 (d3_18 hby) rfl ?_
  have F34 := (F23.keep Kp30 (ninS (Nat.ne_of_lt (Nat.lt_of_lt_of_le P0.lt f11)) nin0))
  refine oCaload K33 20 F34 2 (by decide) (by decide) rfl (d3_19 hby) ?_
  refine oStatic K33 23 0 (wq hw 110) (wq hw 111) (wq hw 85) (wq hw 112) (rmPut4_2 l Z a0 z0 fm G t9 c2 ((byt (c0 >>> ((0 : Int32) &&& 31)))) ((byt (c0 >>> ((8 : Int32) &&& 31)))) ((byt (c1 >>> ((0 : Int32) &&& 31)))) ((byt (c1 >>> ((8 : Int32) &&& 31)))) ((0 : Int32)) ((0 : Int32)) ((0 : Int32)) ((0 : Int32)) h26 K33.old K33.both f32) [(.ref t9), (.int 2), (.int c2)] [] (lenOf pd61 rfl) (d3_20 hby) ?_
  intro T35 h37 v38 lo39 fs40 K36 Kp41 q42
  obtain ⟨rfl, rfl, f43⟩ := q42
  have K44 := K36.to 1 8 [t9]
  refine Owe.stk [] ?_
  refine oIinc K44 26 (d3_23 hby) rfl (l' := #[.val (.ref b), .val (.int 3), .val (.int 4), .val (.ref t9), .val (.int 2)]) rfl ?_
  refine oIinc K44 29 (d3_26 hby) rfl (l' := #[.val (.ref b), .val (.int 3), .val (.int 4), .val (.ref t9), .val (.int 3)]) rfl ?_
  refine oGoto K44 8 (d3_29 hby) ?_
  refine oIload K44 10 (d3_8 hby) rfl ?_
  refine oIloadN K44 11 (d3_10 hby) rfl ?_
  refine oIcmpNo K44 14 (d3_11 hby) (XT.ii_ge_f (by decide)) ?_
  refine oAloadN K44 15 (d3_14 hby) rfl rfl ?_
  refine oIload K44 17 (d3_15 hby) rfl ?_
  refine oAloadN K44 18 (d3_17 hby) rfl rfl ?_
  refine oIloadN K44 19 (d3_18 hby) rfl ?_
  have F45 := (F34.keep Kp41 (ninS (Nat.ne_of_lt (Nat.lt_of_lt_of_le P0.lt f11)) nin0))
  refine oCaload K44 20 F45 3 (by decide) (by decide) rfl (d3_19 hby) ?_
  refine oStatic K44 23 0 (wq hw 110) (wq hw 111) (wq hw 85) (wq hw 112) (rmPut4_3 l Z a0 z0 fm G t9 c3 ((byt (c0 >>> ((0 : Int32) &&& 31)))) ((byt (c0 >>> ((8 : Int32) &&& 31)))) ((byt (c1 >>> ((0 : Int32) &&& 31)))) ((byt (c1 >>> ((8 : Int32) &&& 31)))) ((byt (c2 >>> ((0 : Int32) &&& 31)))) ((byt (c2 >>> ((8 : Int32) &&& 31)))) ((0 : Int32)) ((0 : Int32)) h37 K44.old K44.both f43) [(.ref t9), (.int 3), (.int c3)] [] (lenOf pd61 rfl) (d3_20 hby) ?_
  intro T46 h48 v49 lo50 fs51 K47 Kp52 q53
  obtain ⟨rfl, rfl, f54⟩ := q53
  have K55 := K47.to 1 8 [t9]
  refine Owe.stk [] ?_
  refine oIinc K55 26 (d3_23 hby) rfl (l' := #[.val (.ref b), .val (.int 4), .val (.int 4), .val (.ref t9), .val (.int 3)]) rfl ?_
  refine oIinc K55 29 (d3_26 hby) rfl (l' := #[.val (.ref b), .val (.int 4), .val (.int 4), .val (.ref t9), .val (.int 4)]) rfl ?_
  refine oGoto K55 8 (d3_29 hby) ?_
  refine oIload K55 10 (d3_8 hby) rfl ?_
  refine oIloadN K55 11 (d3_10 hby) rfl ?_
  refine oIcmpYes K55 32 (d3_11 hby) (XT.ii_ge_t (by decide)) ?_
  refine oAloadN K55 33 (d3_32 hby) rfl rfl ?_
  exact oRetA K55 [] hret rfl rfl (d3_33 hby) (by decide) (by decide) hlk (fun x hx => by cases hx) ⟨t9, rfl, rfl, f54, (Nat.le_trans (Nat.le_refl _) f11)⟩
abbrev y4 := jdk_52_method_5_code
theorem d4_0 : DC y4 0 (.getstatic 44) 3 := hb' (by decide +kernel)
theorem d4_3 : DC y4 3 (.ifCond .ne 25) 3 := hb' (by decide +kernel)
theorem d4_28 : DC y4 28 (.iload_n 1) 1 := hb' (by decide +kernel)
theorem d4_29 : DC y4 29 (.iconst 1) 1 := hb' (by decide +kernel)
theorem d4_30 : DC y4 30 (.ishl) 1 := hb' (by decide +kernel)
theorem d4_31 : DC y4 31 (.istore_n 1) 1 := hb' (by decide +kernel)
theorem d4_32 : DC y4 32 (.aload_n 0) 1 := hb' (by decide +kernel)
theorem d4_33 : DC y4 33 (.iload_n 1) 1 := hb' (by decide +kernel)
theorem d4_34 : DC y4 34 (.iinc 1 1) 3 := hb' (by decide +kernel)
theorem d4_37 : DC y4 37 (.baload) 1 := hb' (by decide +kernel)
theorem d4_38 : DC y4 38 (.sipush 255) 3 := hb' (by decide +kernel)
theorem d4_41 : DC y4 41 (.iand) 1 := hb' (by decide +kernel)
theorem d4_42 : DC y4 42 (.getstatic 59) 3 := hb' (by decide +kernel)
theorem d4_45 : DC y4 45 (.ishl) 1 := hb' (by decide +kernel)
theorem d4_46 : DC y4 46 (.aload_n 0) 1 := hb' (by decide +kernel)
theorem d4_47 : DC y4 47 (.iload_n 1) 1 := hb' (by decide +kernel)
theorem d4_48 : DC y4 48 (.baload) 1 := hb' (by decide +kernel)
theorem d4_49 : DC y4 49 (.sipush 255) 3 := hb' (by decide +kernel)
theorem d4_52 : DC y4 52 (.iand) 1 := hb' (by decide +kernel)
theorem d4_53 : DC y4 53 (.getstatic 63) 3 := hb' (by decide +kernel)
theorem d4_56 : DC y4 56 (.ishl) 1 := hb' (by decide +kernel)
theorem d4_57 : DC y4 57 (.ior) 1 := hb' (by decide +kernel)
theorem d4_58 : DC y4 58 (.i2c) 1 := hb' (by decide +kernel)
theorem d4_59 : DC y4 59 (.ireturn) 1 := hb' (by decide +kernel)
theorem ef94 (m : MethodId) (x0 : Addr) (x1 : Int32) : entryFrame m #[(.ref x0), (.int x1)] 2 = mkF m 0 #[.val (.ref x0), .val (.int x1)] [] := by first | (simp [entryFrame, mkF, argsToLocals, Value.category]; done) | rfl
abbrev yn95 : MethodName := ⟨"java/lang/StringUTF16", "getChar", "([BI)C"⟩
theorem rmGet1_0 (G : Gl Z a0 z0 fm) (t : Addr) (c0 : Int32) (h0 : Heap) (hZh : Ext Z.heap h0) (hsf : Own Z h0 []) (P0 : Ary Z h0 t .byte [(.int (byt (c0 >>> ((0 : Int32) &&& 31)))), (.int (byt (c0 >>> ((8 : Int32) &&& 31))))]) (P1 : ¬ c0 < (0 : Int32)) (P2 : ¬ (65535 : Int32) < c0) :
    Ctr l Z ELs yn95 jdk_52_method_5_code 2 (some .char) [] (rmk 0 0 0 0) #[(.ref t), (.int 0)] [] h0 (fun v h fs => (fs = [] ∧ v = some (.int c0))) := by
  obtain ⟨hw, hEL, wS, OS, hz0, OA, OH, OL, OF, rfm⟩ := id G
  refine Ctr.intro pn12 hEL hZh hsf ?_
  intro p e s m below meth c s₁ hby hml hret hnm hlk hh K0
  refine Owe.cast (ef94 m t ((0 : Int32))) ?_
  refine oGetS K0 3 (wq hw 113) (OA.ext K0.old) (d4_0 hby) ?_
  intro T1 K2
  refine oIfYes K2 28 (d4_3 hby) (XT.i0_ne_t (by decide)) ?_
  refine oIloadN K2 29 (d4_28 hby) rfl ?_
  refine oIconstV K2 30 (1 : Int32) (d4_29 hby) rfl ?_
  refine oIshl K2 31 (d4_30 hby) ?_
  show Owe _ _ _ _ T1 (mkF m 31 #[.val (.ref t), .val (.int 0)] [(.int 0)])
  refine oIstoreN K2 32 (d4_31 hby) (l' := #[.val (.ref t), .val (.int 0)]) rfl ?_
  refine oAloadN K2 33 (d4_32 hby) rfl rfl ?_
  refine oIloadN K2 34 (d4_33 hby) rfl ?_
  refine oIinc K2 37 (d4_34 hby) rfl (l' := #[.val (.ref t), .val (.int 1)]) rfl ?_
  refine oBaload K2 38 P0 0 (by decide) (by decide) rfl (d4_37 hby) ?_
  refine oSipushV K2 41 (255 : Int32) (d4_38 hby) (by decide) ?_
  refine oIand K2 42 (d4_41 hby) ?_
  refine oGetS K2 45 (wq hw 114) (OH.ext K2.old) (d4_42 hby) ?_
  intro T3 K4
  refine oIshl K4 46 (d4_45 hby) ?_
  refine oAloadN K4 47 (d4_46 hby) rfl rfl ?_
  refine oIloadN K4 48 (d4_47 hby) rfl ?_
  refine oBaload K4 49 P0 1 (by decide) (by decide) rfl (d4_48 hby) ?_
  refine oSipushV K4 52 (255 : Int32) (d4_49 hby) (by decide) ?_
  refine oIand K4 53 (d4_52 hby) ?_
  refine oGetS K4 56 (wq hw 115) (OL.ext K4.old) (d4_53 hby) ?_
  intro T5 K6
  refine oIshl K6 57 (d4_56 hby) ?_
  refine oIor K6 58 (d4_57 hby) ?_
  refine oI2c K6 59 (d4_58 hby) ?_
  refine Owe.stk [(.int c0)] ?_ (congrArg (fun z => [Value.int z]) (own_getc P1 P2))
  exact oRetI K6 [] (t := .char) hret (by simp) (narrow_rng P1 P2) (d4_59 hby) (by decide) (by decide) hlk (fun x hx => by cases hx) ⟨rfl, rfl⟩
theorem rmGet2_0 (G : Gl Z a0 z0 fm) (t : Addr) (c0 c1 : Int32) (h0 : Heap) (hZh : Ext Z.heap h0) (hsf : Own Z h0 []) (P0 : Ary Z h0 t .byte [(.int (byt (c0 >>> ((0 : Int32) &&& 31)))), (.int (byt (c0 >>> ((8 : Int32) &&& 31)))), (.int (byt (c1 >>> ((0 : Int32) &&& 31)))), (.int (byt (c1 >>> ((8 : Int32) &&& 31))))]) (P1 : ¬ c0 < (0 : Int32)) (P2 : ¬ (65535 : Int32) < c0) :
    Ctr l Z ELs yn95 jdk_52_method_5_code 2 (some .char) [] (rmk 0 0 0 0) #[(.ref t), (.int 0)] [] h0 (fun v h fs => (fs = [] ∧ v = some (.int c0))) := by
  obtain ⟨hw, hEL, wS, OS, hz0, OA, OH, OL, OF, rfm⟩ := id G
  refine Ctr.intro pn12 hEL hZh hsf ?_
  intro p e s m below meth c s₁ hby hml hret hnm hlk hh K0
  refine Owe.cast (ef94 m t ((0 : Int32))) ?_
  refine oGetS K0 3 (wq hw 113) (OA.ext K0.old) (d4_0 hby) ?_
  intro T1 K2
  refine oIfYes K2 28 (d4_3 hby) (XT.i0_ne_t (by decide)) ?_
  refine oIloadN K2 29 (d4_28 hby) rfl ?_
  refine oIconstV K2 30 (1 : Int32) (d4_29 hby) rfl ?_
  refine oIshl K2 31 (d4_30 hby) ?_
  show Owe _ _ _ _ T1 (mkF m 31 #[.val (.ref t), .val (.int 0)] [(.int 0)])
  refine oIstoreN K2 32 (d4_31 hby) (l' := #[.val (.ref t), .val (.int 0)]) rfl ?_
  refine oAloadN K2 33 (d4_32 hby) rfl rfl ?_
  refine oIloadN K2 34 (d4_33 hby) rfl ?_
  refine oIinc K2 37 (d4_34 hby) rfl (l' := #[.val (.ref t), .val (.int 1)]) rfl ?_
  refine oBaload K2 38 P0 0 (by decide) (by decide) rfl (d4_37 hby) ?_
  refine oSipushV K2 41 (255 : Int32) (d4_38 hby) (by decide) ?_
  refine oIand K2 42 (d4_41 hby) ?_
  refine oGetS K2 45 (wq hw 114) (OH.ext K2.old) (d4_42 hby) ?_
  intro T3 K4
  refine oIshl K4 46 (d4_45 hby) ?_
  refine oAloadN K4 47 (d4_46 hby) rfl rfl ?_
  refine oIloadN K4 48 (d4_47 hby) rfl ?_
  refine oBaload K4 49 P0 1 (by decide) (by decide) rfl (d4_48 hby) ?_
  refine oSipushV K4 52 (255 : Int32) (d4_49 hby) (by decide) ?_
  refine oIand K4 53 (d4_52 hby) ?_
  refine oGetS K4 56 (wq hw 115) (OL.ext K4.old) (d4_53 hby) ?_
  intro T5 K6
  refine oIshl K6 57 (d4_56 hby) ?_
  refine oIor K6 58 (d4_57 hby) ?_
  refine oI2c K6 59 (d4_58 hby) ?_
  refine Owe.stk [(.int c0)] ?_ (congrArg (fun z => [Value.int z]) (own_getc P1 P2))
  exact oRetI K6 [] (t := .char) hret (by simp) (narrow_rng P1 P2) (d4_59 hby) (by decide) (by decide) hlk (fun x hx => by cases hx) ⟨rfl, rfl⟩
theorem rmGet2_1 (G : Gl Z a0 z0 fm) (t : Addr) (c0 c1 : Int32) (h0 : Heap) (hZh : Ext Z.heap h0) (hsf : Own Z h0 []) (P0 : Ary Z h0 t .byte [(.int (byt (c0 >>> ((0 : Int32) &&& 31)))), (.int (byt (c0 >>> ((8 : Int32) &&& 31)))), (.int (byt (c1 >>> ((0 : Int32) &&& 31)))), (.int (byt (c1 >>> ((8 : Int32) &&& 31))))]) (P1 : ¬ c1 < (0 : Int32)) (P2 : ¬ (65535 : Int32) < c1) :
    Ctr l Z ELs yn95 jdk_52_method_5_code 2 (some .char) [] (rmk 0 0 0 0) #[(.ref t), (.int 1)] [] h0 (fun v h fs => (fs = [] ∧ v = some (.int c1))) := by
  obtain ⟨hw, hEL, wS, OS, hz0, OA, OH, OL, OF, rfm⟩ := id G
  refine Ctr.intro pn12 hEL hZh hsf ?_
  intro p e s m below meth c s₁ hby hml hret hnm hlk hh K0
  refine Owe.cast (ef94 m t ((1 : Int32))) ?_
  refine oGetS K0 3 (wq hw 113) (OA.ext K0.old) (d4_0 hby) ?_
  intro T1 K2
  refine oIfYes K2 28 (d4_3 hby) (XT.i0_ne_t (by decide)) ?_
  refine oIloadN K2 29 (d4_28 hby) rfl ?_
  refine oIconstV K2 30 (1 : Int32) (d4_29 hby) rfl ?_
  refine oIshl K2 31 (d4_30 hby) ?_
  show Owe _ _ _ _ T1 (mkF m 31 #[.val (.ref t), .val (.int 1)] [(.int 2)])
  refine oIstoreN K2 32 (d4_31 hby) (l' := #[.val (.ref t), .val (.int 2)]) rfl ?_
  refine oAloadN K2 33 (d4_32 hby) rfl rfl ?_
  refine oIloadN K2 34 (d4_33 hby) rfl ?_
  refine oIinc K2 37 (d4_34 hby) rfl (l' := #[.val (.ref t), .val (.int 3)]) rfl ?_
  refine oBaload K2 38 P0 2 (by decide) (by decide) rfl (d4_37 hby) ?_
  refine oSipushV K2 41 (255 : Int32) (d4_38 hby) (by decide) ?_
  refine oIand K2 42 (d4_41 hby) ?_
  refine oGetS K2 45 (wq hw 114) (OH.ext K2.old) (d4_42 hby) ?_
  intro T3 K4
  refine oIshl K4 46 (d4_45 hby) ?_
  refine oAloadN K4 47 (d4_46 hby) rfl rfl ?_
  refine oIloadN K4 48 (d4_47 hby) rfl ?_
  refine oBaload K4 49 P0 3 (by decide) (by decide) rfl (d4_48 hby) ?_
  refine oSipushV K4 52 (255 : Int32) (d4_49 hby) (by decide) ?_
  refine oIand K4 53 (d4_52 hby) ?_
  refine oGetS K4 56 (wq hw 115) (OL.ext K4.old) (d4_53 hby) ?_
  intro T5 K6
  refine oIshl K6 57 (d4_56 hby) ?_
  refine oIor K6 58 (d4_57 hby) ?_
  refine oI2c K6 59 (d4_58 hby) ?_
  refine Owe.stk [(.int c1)] ?_ (congrArg (fun z => [Value.int z]) (own_getc P1 P2))
  exact oRetI K6 [] (t := .char) hret (by simp) (narrow_rng P1 P2) (d4_59 hby) (by decide) (by decide) hlk (fun x hx => by cases hx) ⟨rfl, rfl⟩
theorem rmGet3_0 (G : Gl Z a0 z0 fm) (t : Addr) (c0 c1 c2 : Int32) (h0 : Heap) (hZh : Ext Z.heap h0) (hsf : Own Z h0 []) (P0 : Ary Z h0 t .byte [(.int (byt (c0 >>> ((0 : Int32) &&& 31)))), (.int (byt (c0 >>> ((8 : Int32) &&& 31)))), (.int (byt (c1 >>> ((0 : Int32) &&& 31)))), (.int (byt (c1 >>> ((8 : Int32) &&& 31)))), (.int (byt (c2 >>> ((0 : Int32) &&& 31)))), (.int (byt (c2 >>> ((8 : Int32) &&& 31))))]) (P1 : ¬ c0 < (0 : Int32)) (P2 : ¬ (65535 : Int32) < c0) :
    Ctr l Z ELs yn95 jdk_52_method_5_code 2 (some .char) [] (rmk 0 0 0 0) #[(.ref t), (.int 0)] [] h0 (fun v h fs => (fs = [] ∧ v = some (.int c0))) := by
  obtain ⟨hw, hEL, wS, OS, hz0, OA, OH, OL, OF, rfm⟩ := id G
  refine Ctr.intro pn12 hEL hZh hsf ?_
  intro p e s m below meth c s₁ hby hml hret hnm hlk hh K0
  refine Owe.cast (ef94 m t ((0 : Int32))) ?_
  refine oGetS K0 3 (wq hw 113) (OA.ext K0.old) (d4_0 hby) ?_
  intro T1 K2
  refine oIfYes K2 28 (d4_3 hby) (XT.i0_ne_t (by decide)) ?_
  refine oIloadN K2 29 (d4_28 hby) rfl ?_
  refine oIconstV K2 30 (1 : Int32) (d4_29 hby) rfl ?_
  refine oIshl K2 31 (d4_30 hby) ?_
  show Owe _ _ _ _ T1 (mkF m 31 #[.val (.ref t), .val (.int 0)] [(.int 0)])
  refine oIstoreN K2 32 (d4_31 hby) (l' := #[.val (.ref t), .val (.int 0)]) rfl ?_
  refine oAloadN K2 33 (d4_32 hby) rfl rfl ?_
  refine oIloadN K2 34 (d4_33 hby) rfl ?_
  refine oIinc K2 37 (d4_34 hby) rfl (l' := #[.val (.ref t), .val (.int 1)]) rfl ?_
  refine oBaload K2 38 P0 0 (by decide) (by decide) rfl (d4_37 hby) ?_
  refine oSipushV K2 41 (255 : Int32) (d4_38 hby) (by decide) ?_
  refine oIand K2 42 (d4_41 hby) ?_
  refine oGetS K2 45 (wq hw 114) (OH.ext K2.old) (d4_42 hby) ?_
  intro T3 K4
  refine oIshl K4 46 (d4_45 hby) ?_
  refine oAloadN K4 47 (d4_46 hby) rfl rfl ?_
  refine oIloadN K4 48 (d4_47 hby) rfl ?_
  refine oBaload K4 49 P0 1 (by decide) (by decide) rfl (d4_48 hby) ?_
  refine oSipushV K4 52 (255 : Int32) (d4_49 hby) (by decide) ?_
  refine oIand K4 53 (d4_52 hby) ?_
  refine oGetS K4 56 (wq hw 115) (OL.ext K4.old) (d4_53 hby) ?_
  intro T5 K6
  refine oIshl K6 57 (d4_56 hby) ?_
  refine oIor K6 58 (d4_57 hby) ?_
  refine oI2c K6 59 (d4_58 hby) ?_
  refine Owe.stk [(.int c0)] ?_ (congrArg (fun z => [Value.int z]) (own_getc P1 P2))
  exact oRetI K6 [] (t := .char) hret (by simp) (narrow_rng P1 P2) (d4_59 hby) (by decide) (by decide) hlk (fun x hx => by cases hx) ⟨rfl, rfl⟩
theorem rmGet3_1 (G : Gl Z a0 z0 fm) (t : Addr) (c0 c1 c2 : Int32) (h0 : Heap) (hZh : Ext Z.heap h0) (hsf : Own Z h0 []) (P0 : Ary Z h0 t .byte [(.int (byt (c0 >>> ((0 : Int32) &&& 31)))), (.int (byt (c0 >>> ((8 : Int32) &&& 31)))), (.int (byt (c1 >>> ((0 : Int32) &&& 31)))), (.int (byt (c1 >>> ((8 : Int32) &&& 31)))), (.int (byt (c2 >>> ((0 : Int32) &&& 31)))), (.int (byt (c2 >>> ((8 : Int32) &&& 31))))]) (P1 : ¬ c1 < (0 : Int32)) (P2 : ¬ (65535 : Int32) < c1) :
    Ctr l Z ELs yn95 jdk_52_method_5_code 2 (some .char) [] (rmk 0 0 0 0) #[(.ref t), (.int 1)] [] h0 (fun v h fs => (fs = [] ∧ v = some (.int c1))) := by
  obtain ⟨hw, hEL, wS, OS, hz0, OA, OH, OL, OF, rfm⟩ := id G
  refine Ctr.intro pn12 hEL hZh hsf ?_
  intro p e s m below meth c s₁ hby hml hret hnm hlk hh K0
  refine Owe.cast (ef94 m t ((1 : Int32))) ?_
  refine oGetS K0 3 (wq hw 113) (OA.ext K0.old) (d4_0 hby) ?_
  intro T1 K2
  refine oIfYes K2 28 (d4_3 hby) (XT.i0_ne_t (by decide)) ?_
  refine oIloadN K2 29 (d4_28 hby) rfl ?_
  refine oIconstV K2 30 (1 : Int32) (d4_29 hby) rfl ?_
  refine oIshl K2 31 (d4_30 hby) ?_
  show Owe _ _ _ _ T1 (mkF m 31 #[.val (.ref t), .val (.int 1)] [(.int 2)])
  refine oIstoreN K2 32 (d4_31 hby) (l' := #[.val (.ref t), .val (.int 2)]) rfl ?_
  refine oAloadN K2 33 (d4_32 hby) rfl rfl ?_
  refine oIloadN K2 34 (d4_33 hby) rfl ?_
  refine oIinc K2 37 (d4_34 hby) rfl (l' := #[.val (.ref t), .val (.int 3)]) rfl ?_
  refine oBaload K2 38 P0 2 (by decide) (by decide) rfl (d4_37 hby) ?_
  refine oSipushV K2 41 (255 : Int32) (d4_38 hby) (by decide) ?_
  refine oIand K2 42 (d4_41 hby) ?_
  refine oGetS K2 45 (wq hw 114) (OH.ext K2.old) (d4_42 hby) ?_
  intro T3 K4
  refine oIshl K4 46 (d4_45 hby) ?_
  refine oAloadN K4 47 (d4_46 hby) rfl rfl ?_
  refine oIloadN K4 48 (d4_47 hby) rfl ?_
  refine oBaload K4 49 P0 3 (by decide) (by decide) rfl (d4_48 hby) ?_
  refine oSipushV K4 52 (255 : Int32) (d4_49 hby) (by decide) ?_
  refine oIand K4 53 (d4_52 hby) ?_
  refine oGetS K4 56 (wq hw 115) (OL.ext K4.old) (d4_53 hby) ?_
  intro T5 K6
  refine oIshl K6 57 (d4_56 hby) ?_
  refine oIor K6 58 (d4_57 hby) ?_
  refine oI2c K6 59 (d4_58 hby) ?_
  refine Owe.stk [(.int c1)] ?_ (congrArg (fun z => [Value.int z]) (own_getc P1 P2))
  exact oRetI K6 [] (t := .char) hret (by simp) (narrow_rng P1 P2) (d4_59 hby) (by decide) (by decide) hlk (fun x hx => by cases hx) ⟨rfl, rfl⟩
theorem rmGet3_2 (G : Gl Z a0 z0 fm) (t : Addr) (c0 c1 c2 : Int32) (h0 : Heap) (hZh : Ext Z.heap h0) (hsf : Own Z h0 []) (P0 : Ary Z h0 t .byte [(.int (byt (c0 >>> ((0 : Int32) &&& 31)))), (.int (byt (c0 >>> ((8 : Int32) &&& 31)))), (.int (byt (c1 >>> ((0 : Int32) &&& 31)))), (.int (byt (c1 >>> ((8 : Int32) &&& 31)))), (.int (byt (c2 >>> ((0 : Int32) &&& 31)))), (.int (byt (c2 >>> ((8 : Int32) &&& 31))))]) (P1 : ¬ c2 < (0 : Int32)) (P2 : ¬ (65535 : Int32) < c2) :
    Ctr l Z ELs yn95 jdk_52_method_5_code 2 (some .char) [] (rmk 0 0 0 0) #[(.ref t), (.int 2)] [] h0 (fun v h fs => (fs = [] ∧ v = some (.int c2))) := by
  obtain ⟨hw, hEL, wS, OS, hz0, OA, OH, OL, OF, rfm⟩ := id G
  refine Ctr.intro pn12 hEL hZh hsf ?_
  intro p e s m below meth c s₁ hby hml hret hnm hlk hh K0
  refine Owe.cast (ef94 m t ((2 : Int32))) ?_
  refine oGetS K0 3 (wq hw 113) (OA.ext K0.old) (d4_0 hby) ?_
  intro T1 K2
  refine oIfYes K2 28 (d4_3 hby) (XT.i0_ne_t (by decide)) ?_
  refine oIloadN K2 29 (d4_28 hby) rfl ?_
  refine oIconstV K2 30 (1 : Int32) (d4_29 hby) rfl ?_
  refine oIshl K2 31 (d4_30 hby) ?_
  show Owe _ _ _ _ T1 (mkF m 31 #[.val (.ref t), .val (.int 2)] [(.int 4)])
  refine oIstoreN K2 32 (d4_31 hby) (l' := #[.val (.ref t), .val (.int 4)]) rfl ?_
  refine oAloadN K2 33 (d4_32 hby) rfl rfl ?_
  refine oIloadN K2 34 (d4_33 hby) rfl ?_
  refine oIinc K2 37 (d4_34 hby) rfl (l' := #[.val (.ref t), .val (.int 5)]) rfl ?_
  refine oBaload K2 38 P0 4 (by decide) (by decide) rfl (d4_37 hby) ?_
  refine oSipushV K2 41 (255 : Int32) (d4_38 hby) (by decide) ?_
  refine oIand K2 42 (d4_41 hby) ?_
  refine oGetS K2 45 (wq hw 114) (OH.ext K2.old) (d4_42 hby) ?_
  intro T3 K4
  refine oIshl K4 46 (d4_45 hby) ?_
  refine oAloadN K4 47 (d4_46 hby) rfl rfl ?_
  refine oIloadN K4 48 (d4_47 hby) rfl ?_
  refine oBaload K4 49 P0 5 (by decide) (by decide) rfl (d4_48 hby) ?_
  refine oSipushV K4 52 (255 : Int32) (d4_49 hby) (by decide) ?_
  refine oIand K4 53 (d4_52 hby) ?_
  refine oGetS K4 56 (wq hw 115) (OL.ext K4.old) (d4_53 hby) ?_
  intro T5 K6
  refine oIshl K6 57 (d4_56 hby) ?_
  refine oIor K6 58 (d4_57 hby) ?_
  refine oI2c K6 59 (d4_58 hby) ?_
  refine Owe.stk [(.int c2)] ?_ (congrArg (fun z => [Value.int z]) (own_getc P1 P2))
  exact oRetI K6 [] (t := .char) hret (by simp) (narrow_rng P1 P2) (d4_59 hby) (by decide) (by decide) hlk (fun x hx => by cases hx) ⟨rfl, rfl⟩
theorem rmGet4_0 (G : Gl Z a0 z0 fm) (t : Addr) (c0 c1 c2 c3 : Int32) (h0 : Heap) (hZh : Ext Z.heap h0) (hsf : Own Z h0 []) (P0 : Ary Z h0 t .byte [(.int (byt (c0 >>> ((0 : Int32) &&& 31)))), (.int (byt (c0 >>> ((8 : Int32) &&& 31)))), (.int (byt (c1 >>> ((0 : Int32) &&& 31)))), (.int (byt (c1 >>> ((8 : Int32) &&& 31)))), (.int (byt (c2 >>> ((0 : Int32) &&& 31)))), (.int (byt (c2 >>> ((8 : Int32) &&& 31)))), (.int (byt (c3 >>> ((0 : Int32) &&& 31)))), (.int (byt (c3 >>> ((8 : Int32) &&& 31))))]) (P1 : ¬ c0 < (0 : Int32)) (P2 : ¬ (65535 : Int32) < c0) :
    Ctr l Z ELs yn95 jdk_52_method_5_code 2 (some .char) [] (rmk 0 0 0 0) #[(.ref t), (.int 0)] [] h0 (fun v h fs => (fs = [] ∧ v = some (.int c0))) := by
  obtain ⟨hw, hEL, wS, OS, hz0, OA, OH, OL, OF, rfm⟩ := id G
  refine Ctr.intro pn12 hEL hZh hsf ?_
  intro p e s m below meth c s₁ hby hml hret hnm hlk hh K0
  refine Owe.cast (ef94 m t ((0 : Int32))) ?_
  refine oGetS K0 3 (wq hw 113) (OA.ext K0.old) (d4_0 hby) ?_
  intro T1 K2
  refine oIfYes K2 28 (d4_3 hby) (XT.i0_ne_t (by decide)) ?_
  refine oIloadN K2 29 (d4_28 hby) rfl ?_
  refine oIconstV K2 30 (1 : Int32) (d4_29 hby) rfl ?_
  refine oIshl K2 31 (d4_30 hby) ?_
  show Owe _ _ _ _ T1 (mkF m 31 #[.val (.ref t), .val (.int 0)] [(.int 0)])
  refine oIstoreN K2 32 (d4_31 hby) (l' := #[.val (.ref t), .val (.int 0)]) rfl ?_
  refine oAloadN K2 33 (d4_32 hby) rfl rfl ?_
  refine oIloadN K2 34 (d4_33 hby) rfl ?_
  refine oIinc K2 37 (d4_34 hby) rfl (l' := #[.val (.ref t), .val (.int 1)]) rfl ?_
  refine oBaload K2 38 P0 0 (by decide) (by decide) rfl (d4_37 hby) ?_
  refine oSipushV K2 41 (255 : Int32) (d4_38 hby) (by decide) ?_
  refine oIand K2 42 (d4_41 hby) ?_
  refine oGetS K2 45 (wq hw 114) (OH.ext K2.old) (d4_42 hby) ?_
  intro T3 K4
  refine oIshl K4 46 (d4_45 hby) ?_
  refine oAloadN K4 47 (d4_46 hby) rfl rfl ?_
  refine oIloadN K4 48 (d4_47 hby) rfl ?_
  refine oBaload K4 49 P0 1 (by decide) (by decide) rfl (d4_48 hby) ?_
  refine oSipushV K4 52 (255 : Int32) (d4_49 hby) (by decide) ?_
  refine oIand K4 53 (d4_52 hby) ?_
  refine oGetS K4 56 (wq hw 115) (OL.ext K4.old) (d4_53 hby) ?_
  intro T5 K6
  refine oIshl K6 57 (d4_56 hby) ?_
  refine oIor K6 58 (d4_57 hby) ?_
  refine oI2c K6 59 (d4_58 hby) ?_
  refine Owe.stk [(.int c0)] ?_ (congrArg (fun z => [Value.int z]) (own_getc P1 P2))
  exact oRetI K6 [] (t := .char) hret (by simp) (narrow_rng P1 P2) (d4_59 hby) (by decide) (by decide) hlk (fun x hx => by cases hx) ⟨rfl, rfl⟩
theorem rmGet4_1 (G : Gl Z a0 z0 fm) (t : Addr) (c0 c1 c2 c3 : Int32) (h0 : Heap) (hZh : Ext Z.heap h0) (hsf : Own Z h0 []) (P0 : Ary Z h0 t .byte [(.int (byt (c0 >>> ((0 : Int32) &&& 31)))), (.int (byt (c0 >>> ((8 : Int32) &&& 31)))), (.int (byt (c1 >>> ((0 : Int32) &&& 31)))), (.int (byt (c1 >>> ((8 : Int32) &&& 31)))), (.int (byt (c2 >>> ((0 : Int32) &&& 31)))), (.int (byt (c2 >>> ((8 : Int32) &&& 31)))), (.int (byt (c3 >>> ((0 : Int32) &&& 31)))), (.int (byt (c3 >>> ((8 : Int32) &&& 31))))]) (P1 : ¬ c1 < (0 : Int32)) (P2 : ¬ (65535 : Int32) < c1) :
    Ctr l Z ELs yn95 jdk_52_method_5_code 2 (some .char) [] (rmk 0 0 0 0) #[(.ref t), (.int 1)] [] h0 (fun v h fs => (fs = [] ∧ v = some (.int c1))) := by
  obtain ⟨hw, hEL, wS, OS, hz0, OA, OH, OL, OF, rfm⟩ := id G
  refine Ctr.intro pn12 hEL hZh hsf ?_
  intro p e s m below meth c s₁ hby hml hret hnm hlk hh K0
  refine Owe.cast (ef94 m t ((1 : Int32))) ?_
  refine oGetS K0 3 (wq hw 113) (OA.ext K0.old) (d4_0 hby) ?_
  intro T1 K2
  refine oIfYes K2 28 (d4_3 hby) (XT.i0_ne_t (by decide)) ?_
  refine oIloadN K2 29 (d4_28 hby) rfl ?_
  refine oIconstV K2 30 (1 : Int32) (d4_29 hby) rfl ?_
  refine oIshl K2 31 (d4_30 hby) ?_
  show Owe _ _ _ _ T1 (mkF m 31 #[.val (.ref t), .val (.int 1)] [(.int 2)])
  refine oIstoreN K2 32 (d4_31 hby) (l' := #[.val (.ref t), .val (.int 2)]) rfl ?_
  refine oAloadN K2 33 (d4_32 hby) rfl rfl ?_
  refine oIloadN K2 34 (d4_33 hby) rfl ?_
  refine oIinc K2 37 (d4_34 hby) rfl (l' := #[.val (.ref t), .val (.int 3)]) rfl ?_
  refine oBaload K2 38 P0 2 (by decide) (by decide) rfl (d4_37 hby) ?_
  refine oSipushV K2 41 (255 : Int32) (d4_38 hby) (by decide) ?_
  refine oIand K2 42 (d4_41 hby) ?_
  refine oGetS K2 45 (wq hw 114) (OH.ext K2.old) (d4_42 hby) ?_
  intro T3 K4
  refine oIshl K4 46 (d4_45 hby) ?_
  refine oAloadN K4 47 (d4_46 hby) rfl rfl ?_
  refine oIloadN K4 48 (d4_47 hby) rfl ?_
  refine oBaload K4 49 P0 3 (by decide) (by decide) rfl (d4_48 hby) ?_
  refine oSipushV K4 52 (255 : Int32) (d4_49 hby) (by decide) ?_
  refine oIand K4 53 (d4_52 hby) ?_
  refine oGetS K4 56 (wq hw 115) (OL.ext K4.old) (d4_53 hby) ?_
  intro T5 K6
  refine oIshl K6 57 (d4_56 hby) ?_
  refine oIor K6 58 (d4_57 hby) ?_
  refine oI2c K6 59 (d4_58 hby) ?_
  refine Owe.stk [(.int c1)] ?_ (congrArg (fun z => [Value.int z]) (own_getc P1 P2))
  exact oRetI K6 [] (t := .char) hret (by simp) (narrow_rng P1 P2) (d4_59 hby) (by decide) (by decide) hlk (fun x hx => by cases hx) ⟨rfl, rfl⟩
theorem rmGet4_2 (G : Gl Z a0 z0 fm) (t : Addr) (c0 c1 c2 c3 : Int32) (h0 : Heap) (hZh : Ext Z.heap h0) (hsf : Own Z h0 []) (P0 : Ary Z h0 t .byte [(.int (byt (c0 >>> ((0 : Int32) &&& 31)))), (.int (byt (c0 >>> ((8 : Int32) &&& 31)))), (.int (byt (c1 >>> ((0 : Int32) &&& 31)))), (.int (byt (c1 >>> ((8 : Int32) &&& 31)))), (.int (byt (c2 >>> ((0 : Int32) &&& 31)))), (.int (byt (c2 >>> ((8 : Int32) &&& 31)))), (.int (byt (c3 >>> ((0 : Int32) &&& 31)))), (.int (byt (c3 >>> ((8 : Int32) &&& 31))))]) (P1 : ¬ c2 < (0 : Int32)) (P2 : ¬ (65535 : Int32) < c2) :
    Ctr l Z ELs yn95 jdk_52_method_5_code 2 (some .char) [] (rmk 0 0 0 0) #[(.ref t), (.int 2)] [] h0 (fun v h fs => (fs = [] ∧ v = some (.int c2))) := by
  obtain ⟨hw, hEL, wS, OS, hz0, OA, OH, OL, OF, rfm⟩ := id G
  refine Ctr.intro pn12 hEL hZh hsf ?_
  intro p e s m below meth c s₁ hby hml hret hnm hlk hh K0
  refine Owe.cast (ef94 m t ((2 : Int32))) ?_
  refine oGetS K0 3 (wq hw 113) (OA.ext K0.old) (d4_0 hby) ?_
  intro T1 K2
  refine oIfYes K2 28 (d4_3 hby) (XT.i0_ne_t (by decide)) ?_
  refine oIloadN K2 29 (d4_28 hby) rfl ?_
  refine oIconstV K2 30 (1 : Int32) (d4_29 hby) rfl ?_
  refine oIshl K2 31 (d4_30 hby) ?_
  show Owe _ _ _ _ T1 (mkF m 31 #[.val (.ref t), .val (.int 2)] [(.int 4)])
  refine oIstoreN K2 32 (d4_31 hby) (l' := #[.val (.ref t), .val (.int 4)]) rfl ?_
  refine oAloadN K2 33 (d4_32 hby) rfl rfl ?_
  refine oIloadN K2 34 (d4_33 hby) rfl ?_
  refine oIinc K2 37 (d4_34 hby) rfl (l' := #[.val (.ref t), .val (.int 5)]) rfl ?_
  refine oBaload K2 38 P0 4 (by decide) (by decide) rfl (d4_37 hby) ?_
  refine oSipushV K2 41 (255 : Int32) (d4_38 hby) (by decide) ?_
  refine oIand K2 42 (d4_41 hby) ?_
  refine oGetS K2 45 (wq hw 114) (OH.ext K2.old) (d4_42 hby) ?_
  intro T3 K4
  refine oIshl K4 46 (d4_45 hby) ?_
  refine oAloadN K4 47 (d4_46 hby) rfl rfl ?_
  refine oIloadN K4 48 (d4_47 hby) rfl ?_
  refine oBaload K4 49 P0 5 (by decide) (by decide) rfl (d4_48 hby) ?_
  refine oSipushV K4 52 (255 : Int32) (d4_49 hby) (by decide) ?_
  refine oIand K4 53 (d4_52 hby) ?_
  refine oGetS K4 56 (wq hw 115) (OL.ext K4.old) (d4_53 hby) ?_
  intro T5 K6
  refine oIshl K6 57 (d4_56 hby) ?_
  refine oIor K6 58 (d4_57 hby) ?_
  refine oI2c K6 59 (d4_58 hby) ?_
  refine Owe.stk [(.int c2)] ?_ (congrArg (fun z => [Value.int z]) (own_getc P1 P2))
  exact oRetI K6 [] (t := .char) hret (by simp) (narrow_rng P1 P2) (d4_59 hby) (by decide) (by decide) hlk (fun x hx => by cases hx) ⟨rfl, rfl⟩
theorem rmGet4_3 (G : Gl Z a0 z0 fm) (t : Addr) (c0 c1 c2 c3 : Int32) (h0 : Heap) (hZh : Ext Z.heap h0) (hsf : Own Z h0 []) (P0 : Ary Z h0 t .byte [(.int (byt (c0 >>> ((0 : Int32) &&& 31)))), (.int (byt (c0 >>> ((8 : Int32) &&& 31)))), (.int (byt (c1 >>> ((0 : Int32) &&& 31)))), (.int (byt (c1 >>> ((8 : Int32) &&& 31)))), (.int (byt (c2 >>> ((0 : Int32) &&& 31)))), (.int (byt (c2 >>> ((8 : Int32) &&& 31)))), (.int (byt (c3 >>> ((0 : Int32) &&& 31)))), (.int (byt (c3 >>> ((8 : Int32) &&& 31))))]) (P1 : ¬ c3 < (0 : Int32)) (P2 : ¬ (65535 : Int32) < c3) :
    Ctr l Z ELs yn95 jdk_52_method_5_code 2 (some .char) [] (rmk 0 0 0 0) #[(.ref t), (.int 3)] [] h0 (fun v h fs => (fs = [] ∧ v = some (.int c3))) := by
  obtain ⟨hw, hEL, wS, OS, hz0, OA, OH, OL, OF, rfm⟩ := id G
  refine Ctr.intro pn12 hEL hZh hsf ?_
  intro p e s m below meth c s₁ hby hml hret hnm hlk hh K0
  refine Owe.cast (ef94 m t ((3 : Int32))) ?_
  refine oGetS K0 3 (wq hw 113) (OA.ext K0.old) (d4_0 hby) ?_
  intro T1 K2
  refine oIfYes K2 28 (d4_3 hby) (XT.i0_ne_t (by decide)) ?_
  refine oIloadN K2 29 (d4_28 hby) rfl ?_
  refine oIconstV K2 30 (1 : Int32) (d4_29 hby) rfl ?_
  refine oIshl K2 31 (d4_30 hby) ?_
  show Owe _ _ _ _ T1 (mkF m 31 #[.val (.ref t), .val (.int 3)] [(.int 6)])
  refine oIstoreN K2 32 (d4_31 hby) (l' := #[.val (.ref t), .val (.int 6)]) rfl ?_
  refine oAloadN K2 33 (d4_32 hby) rfl rfl ?_
  refine oIloadN K2 34 (d4_33 hby) rfl ?_
  refine oIinc K2 37 (d4_34 hby) rfl (l' := #[.val (.ref t), .val (.int 7)]) rfl ?_
  refine oBaload K2 38 P0 6 (by decide) (by decide) rfl (d4_37 hby) ?_
  refine oSipushV K2 41 (255 : Int32) (d4_38 hby) (by decide) ?_
  refine oIand K2 42 (d4_41 hby) ?_
  refine oGetS K2 45 (wq hw 114) (OH.ext K2.old) (d4_42 hby) ?_
  intro T3 K4
  refine oIshl K4 46 (d4_45 hby) ?_
  refine oAloadN K4 47 (d4_46 hby) rfl rfl ?_
  refine oIloadN K4 48 (d4_47 hby) rfl ?_
  refine oBaload K4 49 P0 7 (by decide) (by decide) rfl (d4_48 hby) ?_
  refine oSipushV K4 52 (255 : Int32) (d4_49 hby) (by decide) ?_
  refine oIand K4 53 (d4_52 hby) ?_
  refine oGetS K4 56 (wq hw 115) (OL.ext K4.old) (d4_53 hby) ?_
  intro T5 K6
  refine oIshl K6 57 (d4_56 hby) ?_
  refine oIor K6 58 (d4_57 hby) ?_
  refine oI2c K6 59 (d4_58 hby) ?_
  refine Owe.stk [(.int c3)] ?_ (congrArg (fun z => [Value.int z]) (own_getc P1 P2))
  exact oRetI K6 [] (t := .char) hret (by simp) (narrow_rng P1 P2) (d4_59 hby) (by decide) (by decide) hlk (fun x hx => by cases hx) ⟨rfl, rfl⟩
abbrev y5 := jdk_52_method_21_code
theorem d5_0 : DC y5 0 (.iconst 0) 1 := hb' (by decide +kernel)
theorem d5_1 : DC y5 1 (.istore 5) 2 := hb' (by decide +kernel)
theorem d5_3 : DC y5 3 (.iload 5) 2 := hb' (by decide +kernel)
theorem d5_5 : DC y5 5 (.iload 4) 2 := hb' (by decide +kernel)
theorem d5_7 : DC y5 7 (.if_icmp .ge 37) 3 := hb' (by decide +kernel)
theorem d5_10 : DC y5 10 (.aload_n 0) 1 := hb' (by decide +kernel)
theorem d5_11 : DC y5 11 (.iload_n 1) 1 := hb' (by decide +kernel)
theorem d5_12 : DC y5 12 (.caload) 1 := hb' (by decide +kernel)
theorem d5_13 : DC y5 13 (.istore 6) 2 := hb' (by decide +kernel)
theorem d5_15 : DC y5 15 (.iload 6) 2 := hb' (by decide +kernel)
theorem d5_17 : DC y5 17 (.sipush 255) 3 := hb' (by decide +kernel)
theorem d5_20 : DC y5 20 (.if_icmp .le 6) 3 := hb' (by decide +kernel)
theorem d5_23 : DC y5 23 (.iload 5) 2 := hb' (by decide +kernel)
theorem d5_25 : DC y5 25 (.ireturn) 1 := hb' (by decide +kernel)
theorem d5_26 : DC y5 26 (.aload_n 2) 1 := hb' (by decide +kernel)
theorem d5_27 : DC y5 27 (.iload_n 3) 1 := hb' (by decide +kernel)
theorem d5_28 : DC y5 28 (.iload 6) 2 := hb' (by decide +kernel)
theorem d5_30 : DC y5 30 (.i2b) 1 := hb' (by decide +kernel)
theorem d5_31 : DC y5 31 (.bastore) 1 := hb' (by decide +kernel)
theorem d5_32 : DC y5 32 (.iinc 1 1) 3 := hb' (by decide +kernel)
theorem d5_35 : DC y5 35 (.iinc 3 1) 3 := hb' (by decide +kernel)
theorem d5_38 : DC y5 38 (.iinc 5 1) 3 := hb' (by decide +kernel)
theorem d5_41 : DC y5 41 (.goto (-38)) 3 := hb' (by decide +kernel)
theorem d5_44 : DC y5 44 (.iload 4) 2 := hb' (by decide +kernel)
theorem d5_46 : DC y5 46 (.ireturn) 1 := hb' (by decide +kernel)
theorem ef122 (m : MethodId) (x0 : Addr) (x1 : Int32) (x2 : Addr) (x3 : Int32) (x4 : Int32) : entryFrame m #[(.ref x0), (.int x1), (.ref x2), (.int x3), (.int x4)] 7 = mkF m 0 #[.val (.ref x0), .val (.int x1), .val (.ref x2), .val (.int x3), .val (.int x4), .unset, .unset] [] := by first | (simp [entryFrame, mkF, argsToLocals, Value.category]; done) | rfl
abbrev yn123 : MethodName := ⟨"java/lang/StringUTF16", "compress", "([CI[BII)I"⟩
theorem rmCmp5_1 (G : Gl Z a0 z0 fm) (b va : Addr) (c0 : Int32) (h0 : Heap) (hZh : Ext Z.heap h0) (hsf : Own Z h0 [va]) (P0 : Ary Z h0 b .char [(.int c0)]) (P1 : Ary Z h0 va .byte [(.int 0)]) (P2 : b ≠ va) :
    Ctr l Z ELs yn123 jdk_52_method_21_code 7 (some .int) [] (rmk 0 0 0 0) #[(.ref b), (.int 0), (.ref va), (.int 0), (.int 1)] [va] h0 (fun v h fs => (fs = [] ∧ v = some (.int 1) ∧ Ary Z h va .byte [(.int (byt c0))] ∧ ¬ (255 : Int32) < c0) ∨ (fs = [] ∧ v = some (.int 0) ∧ (255 : Int32) < c0)) := by
  obtain ⟨hw, hEL, wS, OS, hz0, OA, OH, OL, OF, rfm⟩ := id G
  refine Ctr.intro pn12 hEL hZh hsf ?_
  intro p e s m below meth c s₁ hby hml hret hnm hlk hh K0
  refine Owe.cast (ef122 m b ((0 : Int32)) va ((0 : Int32)) ((1 : Int32))) ?_
  refine oIconstV K0 1 (0 : Int32) (d5_0 hby) rfl ?_
  refine oIstore K0 3 (d5_1 hby) (l' := #[.val (.ref b), .val (.int 0), .val (.ref va), .val (.int 0), .val (.int 1), .val (.int 0), .unset]) rfl ?_
  refine oIload K0 5 (d5_3 hby) rfl ?_
  refine oIload K0 7 (d5_5 hby) rfl ?_
  refine oIcmpNo K0 10 (d5_7 hby) (XT.ii_ge_f (by decide)) ?_
  refine oAloadN K0 11 (d5_10 hby) rfl rfl ?_
  refine oIloadN K0 12 (d5_11 hby) rfl ?_
  refine oCaload K0 13 P0 0 (by decide) (by decide) rfl (d5_12 hby) ?_
  refine oIstore K0 15 (d5_13 hby) (l' := #[.val (.ref b), .val (.int 0), .val (.ref va), .val (.int 0), .val (.int 1), .val (.int 0), .val (.int c0)]) rfl ?_
  refine oIload K0 17 (d5_15 hby) rfl ?_
  refine oSipushV K0 20 (255 : Int32) (d5_17 hby) (by decide) ?_
  by_cases hc1 : (255 : Int32) < c0
  · refine oIcmpNo K0 23 (d5_20 hby) (XT.ii_le_f hc1) ?_
    refine oIload K0 25 (d5_23 hby) rfl ?_
    exact oRetI K0 [] (t := .int) hret (by simp) rfl (d5_25 hby) (by decide) (by decide) hlk (fun x hx => by cases hx) (Or.inr ⟨rfl, rfl, hc1⟩)
  · refine oIcmpYes K0 26 (d5_20 hby) (XT.ii_le_t hc1) ?_
    refine oAloadN K0 27 (d5_26 hby) rfl rfl ?_
    refine oIloadN K0 28 (d5_27 hby) rfl ?_
    refine oIload K0 30 (d5_28 hby) rfl ?_
    refine oI2b K0 31 (d5_30 hby) ?_
    refine oBastore K0 32 (by simp) P1 0 (by decide) (by decide) nlt (nar_byt _) (d5_31 hby) ?_
    intro T6 h2 lo5 K7 W3 A4
    have A8 : Ary Z h2 va .byte [(.int (byt c0))] := A4
    refine oIinc K7 35 (d5_32 hby) rfl (l' := #[.val (.ref b), .val (.int 1), .val (.ref va), .val (.int 0), .val (.int 1), .val (.int 0), .val (.int c0)]) rfl ?_
    refine oIinc K7 38 (d5_35 hby) rfl (l' := #[.val (.ref b), .val (.int 1), .val (.ref va), .val (.int 1), .val (.int 1), .val (.int 0), .val (.int c0)]) rfl ?_
    refine oIinc K7 41 (d5_38 hby) rfl (l' := #[.val (.ref b), .val (.int 1), .val (.ref va), .val (.int 1), .val (.int 1), .val (.int 1), .val (.int c0)]) rfl ?_
    refine oGoto K7 3 (d5_41 hby) ?_
    refine oIload K7 5 (d5_3 hby) rfl ?_
    refine oIload K7 7 (d5_5 hby) rfl ?_
    refine oIcmpYes K7 44 (d5_7 hby) (XT.ii_ge_t (by decide)) ?_
    refine oIload K7 46 (d5_44 hby) rfl ?_
    exact oRetI K7 [] (t := .int) hret (by simp) rfl (d5_46 hby) (by decide) (by decide) hlk (fun x hx => by cases hx) (Or.inl ⟨rfl, rfl, A8, hc1⟩)
theorem rmCmp5_2 (G : Gl Z a0 z0 fm) (b va : Addr) (c0 c1 : Int32) (h0 : Heap) (hZh : Ext Z.heap h0) (hsf : Own Z h0 [va]) (P0 : Ary Z h0 b .char [(.int c0), (.int c1)]) (P1 : Ary Z h0 va .byte [(.int 0), (.int 0)]) (P2 : b ≠ va) :
    Ctr l Z ELs yn123 jdk_52_method_21_code 7 (some .int) [] (rmk 0 0 0 0) #[(.ref b), (.int 0), (.ref va), (.int 0), (.int 2)] [va] h0 (fun v h fs => (fs = [] ∧ v = some (.int 2) ∧ Ary Z h va .byte [(.int (byt c0)), (.int (byt c1))] ∧ ¬ (255 : Int32) < c0 ∧ ¬ (255 : Int32) < c1) ∨ (fs = [] ∧ v = some (.int 0) ∧ (255 : Int32) < c0) ∨ (fs = [] ∧ v = some (.int 1) ∧ (255 : Int32) < c1)) := by
  obtain ⟨hw, hEL, wS, OS, hz0, OA, OH, OL, OF, rfm⟩ := id G
  refine Ctr.intro pn12 hEL hZh hsf ?_
  intro p e s m below meth c s₁ hby hml hret hnm hlk hh K0
  refine Owe.cast (ef122 m b ((0 : Int32)) va ((0 : Int32)) ((2 : Int32))) ?_
  refine oIconstV K0 1 (0 : Int32) (d5_0 hby) rfl ?_
  refine oIstore K0 3 (d5_1 hby) (l' := #[.val (.ref b), .val (.int 0), .val (.ref va), .val (.int 0), .val (.int 2), .val (.int 0), .unset]) rfl ?_
  refine oIload K0 5 (d5_3 hby) rfl ?_
  refine oIload K0 7 (d5_5 hby) rfl ?_
  refine oIcmpNo K0 10 (d5_7 hby) (XT.ii_ge_f (by decide)) ?_
  refine oAloadN K0 11 (d5_10 hby) rfl rfl ?_
  refine oIloadN K0 12 (d5_11 hby) rfl ?_
  refine oCaload K0 13 P0 0 (by decide) (by decide) rfl (d5_12 hby) ?_
  refine oIstore K0 15 (d5_13 hby) (l' := #[.val (.ref b), .val (.int 0), .val (.ref va), .val (.int 0), .val (.int 2), .val (.int 0), .val (.int c0)]) rfl ?_
  refine oIload K0 17 (d5_15 hby) rfl ?_
  refine oSipushV K0 20 (255 : Int32) (d5_17 hby) (by decide) ?_
  by_cases hc1 : (255 : Int32) < c0
  · refine oIcmpNo K0 23 (d5_20 hby) (XT.ii_le_f hc1) ?_
    refine oIload K0 25 (d5_23 hby) rfl ?_
    exact oRetI K0 [] (t := .int) hret (by simp) rfl (d5_25 hby) (by decide) (by decide) hlk (fun x hx => by cases hx) (Or.inr (Or.inl ⟨rfl, rfl, hc1⟩))
  · refine oIcmpYes K0 26 (d5_20 hby) (XT.ii_le_t hc1) ?_
    refine oAloadN K0 27 (d5_26 hby) rfl rfl ?_
    refine oIloadN K0 28 (d5_27 hby) rfl ?_
    refine oIload K0 30 (d5_28 hby) rfl ?_
    refine oI2b K0 31 (d5_30 hby) ?_
    refine oBastore K0 32 (by simp) P1 0 (by decide) (by decide) nlt (nar_byt _) (d5_31 hby) ?_
    intro T6 h2 lo5 K7 W3 A4
    have A8 : Ary Z h2 va .byte [(.int (byt c0)), (.int 0)] := A4
    refine oIinc K7 35 (d5_32 hby) rfl (l' := #[.val (.ref b), .val (.int 1), .val (.ref va), .val (.int 0), .val (.int 2), .val (.int 0), .val (.int c0)]) rfl ?_
    refine oIinc K7 38 (d5_35 hby) rfl (l' := #[.val (.ref b), .val (.int 1), .val (.ref va), .val (.int 1), .val (.int 2), .val (.int 0), .val (.int c0)]) rfl ?_
    refine oIinc K7 41 (d5_38 hby) rfl (l' := #[.val (.ref b), .val (.int 1), .val (.ref va), .val (.int 1), .val (.int 2), .val (.int 1), .val (.int c0)]) rfl ?_
    refine oGoto K7 3 (d5_41 hby) ?_
    refine oIload K7 5 (d5_3 hby) rfl ?_
    refine oIload K7 7 (d5_5 hby) rfl ?_
    refine oIcmpNo K7 10 (d5_7 hby) (XT.ii_ge_f (by decide)) ?_
    refine oAloadN K7 11 (d5_10 hby) rfl rfl ?_
    refine oIloadN K7 12 (d5_11 hby) rfl ?_
    refine oCaload K7 13 (Ary.other P0 W3 P2) 1 (by decide) (by decide) rfl (d5_12 hby) ?_
    refine oIstore K7 15 (d5_13 hby) (l' := #[.val (.ref b), .val (.int 1), .val (.ref va), .val (.int 1), .val (.int 2), .val (.int 1), .val (.int c1)]) rfl ?_
    refine oIload K7 17 (d5_15 hby) rfl ?_
    refine oSipushV K7 20 (255 : Int32) (d5_17 hby) (by decide) ?_
    by_cases hc9 : (255 : Int32) < c1
    · refine oIcmpNo K7 23 (d5_20 hby) (XT.ii_le_f hc9) ?_
      refine oIload K7 25 (d5_23 hby) rfl ?_
      exact oRetI K7 [] (t := .int) hret (by simp) rfl (d5_25 hby) (by decide) (by decide) hlk (fun x hx => by cases hx) (Or.inr (Or.inr ⟨rfl, rfl, hc9⟩))
    · refine oIcmpYes K7 26 (d5_20 hby) (XT.ii_le_t hc9) ?_
      refine oAloadN K7 27 (d5_26 hby) rfl rfl ?_
      refine oIloadN K7 28 (d5_27 hby) rfl ?_
      refine oIload K7 30 (d5_28 hby) rfl ?_
      refine oI2b K7 31 (d5_30 hby) ?_
      refine oBastore K7 32 (by simp) A8 1 (by decide) (by decide) nlt (nar_byt _) (d5_31 hby) ?_
      intro T14 h10 lo13 K15 W11 A12
      have A16 : Ary Z h10 va .byte [(.int (byt c0)), (.int (byt c1))] := A12
      refine oIinc K15 35 (d5_32 hby) rfl (l' := #[.val (.ref b), .val (.int 2), .val (.ref va), .val (.int 1), .val (.int 2), .val (.int 1), .val (.int c1)]) rfl ?_
      refine oIinc K15 38 (d5_35 hby) rfl (l' := #[.val (.ref b), .val (.int 2), .val (.ref va), .val (.int 2), .val (.int 2), .val (.int 1), .val (.int c1)]) rfl ?_
      refine oIinc K15 41 (d5_38 hby) rfl (l' := #[.val (.ref b), .val (.int 2), .val (.ref va), .val (.int 2), .val (.int 2), .val (.int 2), .val (.int c1)]) rfl ?_
      refine oGoto K15 3 (d5_41 hby) ?_
      refine oIload K15 5 (d5_3 hby) rfl ?_
      refine oIload K15 7 (d5_5 hby) rfl ?_
      refine oIcmpYes K15 44 (d5_7 hby) (XT.ii_ge_t (by decide)) ?_
      refine oIload K15 46 (d5_44 hby) rfl ?_
      exact oRetI K15 [] (t := .int) hret (by simp) rfl (d5_46 hby) (by decide) (by decide) hlk (fun x hx => by cases hx) (Or.inl ⟨rfl, rfl, A16, hc1, hc9⟩)
theorem rmCmp5_3 (G : Gl Z a0 z0 fm) (b va : Addr) (c0 c1 c2 : Int32) (h0 : Heap) (hZh : Ext Z.heap h0) (hsf : Own Z h0 [va]) (P0 : Ary Z h0 b .char [(.int c0), (.int c1), (.int c2)]) (P1 : Ary Z h0 va .byte [(.int 0), (.int 0), (.int 0)]) (P2 : b ≠ va) :
    Ctr l Z ELs yn123 jdk_52_method_21_code 7 (some .int) [] (rmk 0 0 0 0) #[(.ref b), (.int 0), (.ref va), (.int 0), (.int 3)] [va] h0 (fun v h fs => (fs = [] ∧ v = some (.int 3) ∧ Ary Z h va .byte [(.int (byt c0)), (.int (byt c1)), (.int (byt c2))] ∧ ¬ (255 : Int32) < c0 ∧ ¬ (255 : Int32) < c1 ∧ ¬ (255 : Int32) < c2) ∨ (fs = [] ∧ v = some (.int 0) ∧ (255 : Int32) < c0) ∨ (fs = [] ∧ v = some (.int 1) ∧ (255 : Int32) < c1) ∨ (fs = [] ∧ v = some (.int 2) ∧ (255 : Int32) < c2)) := by
  obtain ⟨hw, hEL, wS, OS, hz0, OA, OH, OL, OF, rfm⟩ := id G
  refine Ctr.intro pn12 hEL hZh hsf ?_
  intro p e s m below meth c s₁ hby hml hret hnm hlk hh K0
  refine Owe.cast (ef122 m b ((0 : Int32)) va ((0 : Int32)) ((3 : Int32))) ?_
  refine oIconstV K0 1 (0 : Int32) (d5_0 hby) rfl ?_
  refine oIstore K0 3 (d5_1 hby) (l' := #[.val (.ref b), .val (.int 0), .val (.ref va), .val (.int 0), .val (.int 3), .val (.int 0), .unset]) rfl ?_
  refine oIload K0 5 (d5_3 hby) rfl ?_
  refine oIload K0 7 (d5_5 hby) rfl ?_
  refine oIcmpNo K0 10 (d5_7 hby) (XT.ii_ge_f (by decide)) ?_
  refine oAloadN K0 11 (d5_10 hby) rfl rfl ?_
  refine oIloadN K0 12 (d5_11 hby) rfl ?_
  refine oCaload K0 13 P0 0 (by decide) (by decide) rfl (d5_12 hby) ?_
  refine oIstore K0 15 (d5_13 hby) (l' := #[.val (.ref b), .val (.int 0), .val (.ref va), .val (.int 0), .val (.int 3), .val (.int 0), .val (.int c0)]) rfl ?_
  refine oIload K0 17 (d5_15 hby) rfl ?_
  refine oSipushV K0 20 (255 : Int32) (d5_17 hby) (by decide) ?_
  by_cases hc1 : (255 : Int32) < c0
  · refine oIcmpNo K0 23 (d5_20 hby) (XT.ii_le_f hc1) ?_
    refine oIload K0 25 (d5_23 hby) rfl ?_
    exact oRetI K0 [] (t := .int) hret (by simp) rfl (d5_25 hby) (by decide) (by decide) hlk (fun x hx => by cases hx) (Or.inr (Or.inl ⟨rfl, rfl, hc1⟩))
  · refine oIcmpYes K0 26 (d5_20 hby) (XT.ii_le_t hc1) ?_
    refine oAloadN K0 27 (d5_26 hby) rfl rfl ?_
    refine oIloadN K0 28 (d5_27 hby) rfl ?_
    refine oIload K0 30 (d5_28 hby) rfl ?_
    refine oI2b K0 31 (d5_30 hby) ?_
    refine oBastore K0 32 (by simp) P1 0 (by decide) (by decide) nlt (nar_byt _) (d5_31 hby) ?_
    intro T6 h2 lo5 K7 W3 A4
    have A8 : Ary Z h2 va .byte [(.int (byt c0)), (.int 0), (.int 0)] := A4
    refine oIinc K7 35 (d5_32 hby) rfl (l' := #[.val (.ref b), .val (.int 1), .val (.ref va), .val (.int 0), .val (.int 3), .val (.int 0), .val (.int c0)]) rfl ?_
    refine oIinc K7 38 (d5_35 hby) rfl (l' := #[.val (.ref b), .val (.int 1), .val (.ref va), .val (.int 1), .val (.int 3), .val (.int 0), .val (.int c0)]) rfl ?_
    refine oIinc K7 41 (d5_38 hby) rfl (l' := #[.val (.ref b), .val (.int 1), .val (.ref va), .val (.int 1), .val (.int 3), .val (.int 1), .val (.int c0)]) rfl ?_
    refine oGoto K7 3 (d5_41 hby) ?_
    refine oIload K7 5 (d5_3 hby) rfl ?_
    refine oIload K7 7 (d5_5 hby) rfl ?_
    refine oIcmpNo K7 10 (d5_7 hby) (XT.ii_ge_f (by decide)) ?_
    refine oAloadN K7 11 (d5_10 hby) rfl rfl ?_
    refine oIloadN K7 12 (d5_11 hby) rfl ?_
    refine oCaload K7 13 (Ary.other P0 W3 P2) 1 (by decide) (by decide) rfl (d5_12 hby) ?_
    refine oIstore K7 15 (d5_13 hby) (l' := #[.val (.ref b), .val (.int 1), .val (.ref va), .val (.int 1), .val (.int 3), .val (.int 1), .val (.int c1)]) rfl ?_
    refine oIload K7 17 (d5_15 hby) rfl ?_
    refine oSipushV K7 20 (255 : Int32) (d5_17 hby) (by decide) ?_
    by_cases hc9 : (255 : Int32) < c1
    · refine oIcmpNo K7 23 (d5_20 hby) (XT.ii_le_f hc9) ?_
      refine oIload K7 25 (d5_23 hby) rfl ?_
      exact oRetI K7 [] (t := .int) hret (by simp) rfl (d5_25 hby) (by decide) (by decide) hlk (fun x hx => by cases hx) (Or.inr (Or.inr (Or.inl ⟨rfl, rfl, hc9⟩)))
    · refine oIcmpYes K7 26 (d5_20 hby) (XT.ii_le_t hc9) ?_
      refine oAloadN K7 27 (d5_26 hby) rfl rfl ?_
      refine oIloadN K7 28 (d5_27 hby) rfl ?_
      refine oIload K7 30 (d5_28 hby) rfl ?_
      refine oI2b K7 31 (d5_30 hby) ?_
      refine oBastore K7 32 (by simp) A8 1 (by decide) (by decide) nlt (nar_byt _) (d5_31 hby) ?_
      intro T14 h10 lo13 K15 W11 A12
      have A16 : Ary Z h10 va .byte [(.int (byt c0)), (.int (byt c1)), (.int 0)] := A12
      refine oIinc K15 35 (d5_32 hby) rfl (l' := #[.val (.ref b), .val (.int 2), .val (.ref va), .val (.int 1), .val (.int 3), .val (.int 1), .val (.int c1)]) rfl ?_
      refine oIinc K15 38 (d5_35 hby) rfl (l' := #[.val (.ref b), .val (.int 2), .val (.ref va), .val (.int 2), .val (.int 3), .val (.int 1), .val (.int c1)]) rfl ?_
      refine oIinc K15 41 (d5_38 hby) rfl (l' := #[.val (.ref b), .val (.int 2), .val (.ref va), .val (.int 2), .val (.int 3), .val (.int 2), .val (.int c1)]) rfl ?_
      refine oGoto K15 3 (d5_41 hby) ?_
      refine oIload K15 5 (d5_3 hby) rfl ?_
      refine oIload K15 7 (d5_5 hby) rfl ?_
      refine oIcmpNo K15 10 (d5_7 hby) (XT.ii_ge_f (by decide)) ?_
      refine oAloadN K15 11 (d5_10 hby) rfl rfl ?_
      refine oIloadN K15 12 (d5_11 hby) rfl ?_
      refine oCaload K15 13 (Ary.other (Ary.other P0 W3 P2) W11 P2) 2 (by decide) (by decide) rfl (d5_12 hby) ?_
      refine oIstore K15 15 (d5_13 hby) (l' := #[.val (.ref b), .val (.int 2), .val (.ref va), .val (.int 2), .val (.int 3), .val (.int 2), .val (.int c2)]) rfl ?_
      refine oIload K15 17 (d5_15 hby) rfl ?_
      refine oSipushV K15 20 (255 : Int32) (d5_17 hby) (by decide) ?_
      by_cases hc17 : (255 : Int32) < c2
      · refine oIcmpNo K15 23 (d5_20 hby) (XT.ii_le_f hc17) ?_
        refine oIload K15 25 (d5_23 hby) rfl ?_
        exact oRetI K15 [] (t := .int) hret (by simp) rfl (d5_25 hby) (by decide) (by decide) hlk (fun x hx => by cases hx) (Or.inr (Or.inr (Or.inr ⟨rfl, rfl, hc17⟩)))
      · refine oIcmpYes K15 26 (d5_20 hby) (XT.ii_le_t hc17) ?_
        refine oAloadN K15 27 (d5_26 hby) rfl rfl ?_
        refine oIloadN K15 28 (d5_27 hby) rfl ?_
        refine oIload K15 30 (d5_28 hby) rfl ?_
        refine oI2b K15 31 (d5_30 hby) ?_
        refine oBastore K15 32 (by simp) A16 2 (by decide) (by decide) nlt (nar_byt _) (d5_31 hby) ?_
        intro T22 h18 lo21 K23 W19 A20
        have A24 : Ary Z h18 va .byte [(.int (byt c0)), (.int (byt c1)), (.int (byt c2))] := A20
        refine oIinc K23 35 (d5_32 hby) rfl (l' := #[.val (.ref b), .val (.int 3), .val (.ref va), .val (.int 2), .val (.int 3), .val (.int 2), .val (.int c2)]) rfl ?_
        refine oIinc K23 38 (d5_35 hby) rfl (l' := #[.val (.ref b), .val (.int 3), .val (.ref va), .val (.int 3), .val (.int 3), .val (.int 2), .val (.int c2)]) rfl ?_
        refine oIinc K23 41 (d5_38 hby) rfl (l' := #[.val (.ref b), .val (.int 3), .val (.ref va), .val (.int 3), .val (.int 3), .val (.int 3), .val (.int c2)]) rfl ?_
        refine oGoto K23 3 (d5_41 hby) ?_
        refine oIload K23 5 (d5_3 hby) rfl ?_
        refine oIload K23 7 (d5_5 hby) rfl ?_
        refine oIcmpYes K23 44 (d5_7 hby) (XT.ii_ge_t (by decide)) ?_
        refine oIload K23 46 (d5_44 hby) rfl ?_
        exact oRetI K23 [] (t := .int) hret (by simp) rfl (d5_46 hby) (by decide) (by decide) hlk (fun x hx => by cases hx) (Or.inl ⟨rfl, rfl, A24, hc1, hc9, hc17⟩)
theorem rmCmp5_4 (G : Gl Z a0 z0 fm) (b va : Addr) (c0 c1 c2 c3 : Int32) (h0 : Heap) (hZh : Ext Z.heap h0) (hsf : Own Z h0 [va]) (P0 : Ary Z h0 b .char [(.int c0), (.int c1), (.int c2), (.int c3)]) (P1 : Ary Z h0 va .byte [(.int 0), (.int 0), (.int 0), (.int 0)]) (P2 : b ≠ va) :
    Ctr l Z ELs yn123 jdk_52_method_21_code 7 (some .int) [] (rmk 0 0 0 0) #[(.ref b), (.int 0), (.ref va), (.int 0), (.int 4)] [va] h0 (fun v h fs => (fs = [] ∧ v = some (.int 4) ∧ Ary Z h va .byte [(.int (byt c0)), (.int (byt c1)), (.int (byt c2)), (.int (byt c3))] ∧ ¬ (255 : Int32) < c0 ∧ ¬ (255 : Int32) < c1 ∧ ¬ (255 : Int32) < c2 ∧ ¬ (255 : Int32) < c3) ∨ (fs = [] ∧ v = some (.int 0) ∧ (255 : Int32) < c0) ∨ (fs = [] ∧ v = some (.int 1) ∧ (255 : Int32) < c1) ∨ (fs = [] ∧ v = some (.int 2) ∧ (255 : Int32) < c2) ∨ (fs = [] ∧ v = some (.int 3) ∧ (255 : Int32) < c3)) := by
  obtain ⟨hw, hEL, wS, OS, hz0, OA, OH, OL, OF, rfm⟩ := id G
  refine Ctr.intro pn12 hEL hZh hsf ?_
  intro p e s m below meth c s₁ hby hml hret hnm hlk hh K0
  refine Owe.cast (ef122 m b ((0 : Int32)) va ((0 : Int32)) ((4 : Int32))) ?_
  refine oIconstV K0 1 (0 : Int32) (d5_0 hby) rfl ?_
  refine oIstore K0 3 (d5_1 hby) (l' := #[.val (.ref b), .val (.int 0), .val (.ref va), .val (.int 0), .val (.int 4), .val (.int 0), .unset]) rfl ?_
  refine oIload K0 5 (d5_3 hby) rfl ?_
  refine oIload K0 7 (d5_5 hby) rfl ?_
  refine oIcmpNo K0 10 (d5_7 hby) (XT.ii_ge_f (by decide)) ?_
  refine oAloadN K0 11 (d5_10 hby) rfl rfl ?_
  refine oIloadN K0 12 (d5_11 hby) rfl ?_
  refine oCaload K0 13 P0 0 (by decide) (by decide) rfl (d5_12 hby) ?_
  refine oIstore K0 15 (d5_13 hby) (l' := #[.val (.ref b), .val (.int 0), .val (.ref va), .val (.int 0), .val (.int 4), .val (.int 0), .val (.int c0)]) rfl ?_
  refine oIload K0 17 (d5_15 hby) rfl ?_
  refine oSipushV K0 20 (255 : Int32) (d5_17 hby) (by decide) ?_
  by_cases hc1 : (255 : Int32) < c0
  · refine oIcmpNo K0 23 (d5_20 hby) (XT.ii_le_f hc1) ?_
    refine oIload K0 25 (d5_23 hby) rfl ?_
    exact oRetI K0 [] (t := .int) hret (by simp) rfl (d5_25 hby) (by decide) (by decide) hlk (fun x hx => by cases hx) (Or.inr (Or.inl ⟨rfl, rfl, hc1⟩))
  · refine oIcmpYes K0 26 (d5_20 hby) (XT.ii_le_t hc1) ?_
    refine oAloadN K0 27 (d5_26 hby) rfl rfl ?_
    refine oIloadN K0 28 (d5_27 hby) rfl ?_
    refine oIload K0 30 (d5_28 hby) rfl ?_
    refine oI2b K0 31 (d5_30 hby) ?_
    refine oBastore K0 32 (by simp) P1 0 (by decide) (by decide) nlt (nar_byt _) (d5_31 hby) ?_
    intro T6 h2 lo5 K7 W3 A4
    have A8 : Ary Z h2 va .byte [(.int (byt c0)), (.int 0), (.int 0), (.int 0)] := A4
    refine oIinc K7 35 (d5_32 hby) rfl (l' := #[.val (.ref b), .val (.int 1), .val (.ref va), .val (.int 0), .val (.int 4), .val (.int 0), .val (.int c0)]) rfl ?_
    refine oIinc K7 38 (d5_35 hby) rfl (l' := #[.val (.ref b), .val (.int 1), .val (.ref va), .val (.int 1), .val (.int 4), .val (.int 0), .val (.int c0)]) rfl ?_
    refine oIinc K7 41 (d5_38 hby) rfl (l' := #[.val (.ref b), .val (.int 1), .val (.ref va), .val (.int 1), .val (.int 4), .val (.int 1), .val (.int c0)]) rfl ?_
    refine oGoto K7 3 (d5_41 hby) ?_
    refine oIload K7 5 (d5_3 hby) rfl ?_
    refine oIload K7 7 (d5_5 hby) rfl ?_
    refine oIcmpNo K7 10 (d5_7 hby) (XT.ii_ge_f (by decide)) ?_
    refine oAloadN K7 11 (d5_10 hby) rfl rfl ?_
    refine oIloadN K7 12 (d5_11 hby) rfl ?_
    refine oCaload K7 13 (Ary.other P0 W3 P2) 1 (by decide) (by decide) rfl (d5_12 hby) ?_
    refine oIstore K7 15 (d5_13 hby) (l' := #[.val (.ref b), .val (.int 1), .val (.ref va), .val (.int 1), .val (.int 4), .val (.int 1), .val (.int c1)]) rfl ?_
    refine oIload K7 17 (d5_15 hby) rfl ?_
    refine oSipushV K7 20 (255 : Int32) (d5_17 hby) (by decide) ?_
    by_cases hc9 : (255 : Int32) < c1
    · refine oIcmpNo K7 23 (d5_20 hby) (XT.ii_le_f hc9) ?_
      refine oIload K7 25 (d5_23 hby) rfl ?_
      exact oRetI K7 [] (t := .int) hret (by simp) rfl (d5_25 hby) (by decide) (by decide) hlk (fun x hx => by cases hx) (Or.inr (Or.inr (Or.inl ⟨rfl, rfl, hc9⟩)))
    · refine oIcmpYes K7 26 (d5_20 hby) (XT.ii_le_t hc9) ?_
      refine oAloadN K7 27 (d5_26 hby) rfl rfl ?_
      refine oIloadN K7 28 (d5_27 hby) rfl ?_
      refine oIload K7 30 (d5_28 hby) rfl ?_
      refine oI2b K7 31 (d5_30 hby) ?_
      refine oBastore K7 32 (by simp) A8 1 (by decide) (by decide) nlt (nar_byt _) (d5_31 hby) ?_
      intro T14 h10 lo13 K15 W11 A12
      have A16 : Ary Z h10 va .byte [(.int (byt c0)), (.int (byt c1)), (.int 0), (.int 0)] := A12
      refine oIinc K15 35 (d5_32 hby) rfl (l' := #[.val (.ref b), .val (.int 2), .val (.ref va), .val (.int 1), .val (.int 4), .val (.int 1), .val (.int c1)]) rfl ?_
      refine oIinc K15 38 (d5_35 hby) rfl (l' := #[.val (.ref b), .val (.int 2), .val (.ref va), .val (.int 2), .val (.int 4), .val (.int 1), .val (.int c1)]) rfl ?_
      refine oIinc K15 41 (d5_38 hby) rfl (l' := #[.val (.ref b), .val (.int 2), .val (.ref va), .val (.int 2), .val (.int 4), .val (.int 2), .val (.int c1)]) rfl ?_
      refine oGoto K15 3 (d5_41 hby) ?_
      refine oIload K15 5 (d5_3 hby) rfl ?_
      refine oIload K15 7 (d5_5 hby) rfl ?_
      refine oIcmpNo K15 10 (d5_7 hby) (XT.ii_ge_f (by decide)) ?_
      refine oAloadN K15 11 (d5_10 hby) rfl rfl ?_
      refine oIloadN K15 12 (d5_11 hby) rfl ?_
      refine oCaload K15 13 (Ary.other (Ary.other P0 W3 P2) W11 P2) 2 (by decide) (by decide) rfl (d5_12 hby) ?_
      refine oIstore K15 15 (d5_13 hby) (l' := #[.val (.ref b), .val (.int 2), .val (.ref va), .val (.int 2), .val (.int 4), .val (.int 2), .val (.int c2)]) rfl ?_
      refine oIload K15 17 (d5_15 hby) rfl ?_
      refine oSipushV K15 20 (255 : Int32) (d5_17 hby) (by decide) ?_
      by_cases hc17 : (255 : Int32) < c2
      · refine oIcmpNo K15 23 (d5_20 hby) (XT.ii_le_f hc17) ?_
        refine oIload K15 25 (d5_23 hby) rfl ?_
        exact oRetI K15 [] (t := .int) hret (by simp) rfl (d5_25 hby) (by decide) (by decide) hlk (fun x hx => by cases hx) (Or.inr (Or.inr (Or.inr (Or.inl ⟨rfl, rfl, hc17⟩))))
      · refine oIcmpYes K15 26 (d5_20 hby) (XT.ii_le_t hc17) ?_
        refine oAloadN K15 27 (d5_26 hby) rfl rfl ?_
        refine oIloadN K15 28 (d5_27 hby) rfl ?_
        refine oIload K15 30 (d5_28 hby) rfl ?_
        refine oI2b K15 31 (d5_30 hby) ?_
        refine oBastore K15 32 (by simp) A16 2 (by decide) (by decide) nlt (nar_byt _) (d5_31 hby) ?_
        intro T22 h18 lo21 K23 W19 A20
        have A24 : Ary Z h18 va .byte [(.int (byt c0)), (.int (byt c1)), (.int (byt c2)), (.int 0)] := A20
        refine oIinc K23 35 (d5_32 hby) rfl (l' := #[.val (.ref b), .val (.int 3), .val (.ref va), .val (.int 2), .val (.int 4), .val (.int 2), .val (.int c2)]) rfl ?_
        refine oIinc K23 38 (d5_35 hby) rfl (l' := #[.val (.ref b), .val (.int 3), .val (.ref va), .val (.int 3), .val (.int 4), .val (.int 2), .val (.int c2)]) rfl ?_
        refine oIinc K23 41 (d5_38 hby) rfl (l' := #[.val (.ref b), .val (.int 3), .val (.ref va), .val (.int 3), .val (.int 4), .val (.int 3), .val (.int c2)]) rfl ?_
        refine oGoto K23 3 (d5_41 hby) ?_
        refine oIload K23 5 (d5_3 hby) rfl ?_
        refine oIload K23 7 (d5_5 hby) rfl ?_
        refine oIcmpNo K23 10 (d5_7 hby) (XT.ii_ge_f (by decide)) ?_
        refine oAloadN K23 11 (d5_10 hby) rfl rfl ?_
        refine oIloadN K23 12 (d5_11 hby) rfl ?_
        have F25 := (Ary.other (Ary.other (Ary.other P0 W3 P2) W11 P2) W19 P2)
        refine oCaload K23 13 F25 3 (by decide) (by decide) rfl (d5_12 hby) ?_
        refine oIstore K23 15 (d5_13 hby) (l' := #[.val (.ref b), .val (.int 3), .val (.ref va), .val (.int 3), .val (.int 4), .val (.int 3), .val (.int c3)]) rfl ?_
        refine oIload K23 17 (d5_15 hby) rfl ?_
        refine oSipushV K23 20 (255 : Int32) (d5_17 hby) (by decide) ?_
        by_cases hc26 : (255 : Int32) < c3
        · refine oIcmpNo K23 23 (d5_20 hby) (XT.ii_le_f hc26) ?_
          refine oIload K23 25 (d5_23 hby) rfl ?_
          exact oRetI K23 [] (t := .int) hret (by simp) rfl (d5_25 hby) (by decide) (by decide) hlk (fun x hx => by cases hx) (Or.inr (Or.inr (Or.inr (Or.inr ⟨rfl, rfl, hc26⟩))))
        · refine oIcmpYes K23 26 (d5_20 hby) (XT.ii_le_t hc26) ?_
          refine oAloadN K23 27 (d5_26 hby) rfl rfl ?_
          refine oIloadN K23 28 (d5_27 hby) rfl ?_
          refine oIload K23 30 (d5_28 hby) rfl ?_
          refine oI2b K23 31 (d5_30 hby) ?_
          refine oBastore K23 32 (by simp) A24 3 (by decide) (by decide) nlt (nar_byt _) (d5_31 hby) ?_
          intro T31 h27 lo30 K32 W28 A29
          have A33 : Ary Z h27 va .byte [(.int (byt c0)), (.int (byt c1)), (.int (byt c2)), (.int (byt c3))] := A29
          refine oIinc K32 35 (d5_32 hby) rfl (l' := #[.val (.ref b), .val (.int 4), .val (.ref va), .val (.int 3), .val (.int 4), .val (.int 3), .val (.int c3)]) rfl ?_
          refine oIinc K32 38 (d5_35 hby) rfl (l' := #[.val (.ref b), .val (.int 4), .val (.ref va), .val (.int 4), .val (.int 4), .val (.int 3), .val (.int c3)]) rfl ?_
          refine oIinc K32 41 (d5_38 hby) rfl (l' := #[.val (.ref b), .val (.int 4), .val (.ref va), .val (.int 4), .val (.int 4), .val (.int 4), .val (.int c3)]) rfl ?_
          refine oGoto K32 3 (d5_41 hby) ?_
          refine oIload K32 5 (d5_3 hby) rfl ?_
          refine oIload K32 7 (d5_5 hby) rfl ?_
          refine oIcmpYes K32 44 (d5_7 hby) (XT.ii_ge_t (by decide)) ?_
          refine oIload K32 46 (d5_44 hby) rfl ?_
          exact oRetI K32 [] (t := .int) hret (by simp) rfl (d5_46 hby) (by decide) (by decide) hlk (fun x hx => by cases hx) (Or.inl ⟨rfl, rfl, A33, hc1, hc9, hc17, hc26⟩)
abbrev y6 := jdk_52_method_16_code
theorem d6_0 : DC y6 0 (.iload_n 2) 1 := hb' (by decide +kernel)
theorem d6_1 : DC y6 1 (.newarray .byte) 2 := hb' (by decide +kernel)
theorem d6_3 : DC y6 3 (.astore_n 3) 1 := hb' (by decide +kernel)
theorem d6_4 : DC y6 4 (.aload_n 0) 1 := hb' (by decide +kernel)
theorem d6_5 : DC y6 5 (.iload_n 1) 1 := hb' (by decide +kernel)
theorem d6_6 : DC y6 6 (.aload_n 3) 1 := hb' (by decide +kernel)
theorem d6_7 : DC y6 7 (.iconst 0) 1 := hb' (by decide +kernel)
theorem d6_8 : DC y6 8 (.iload_n 2) 1 := hb' (by decide +kernel)
theorem d6_9 : DC y6 9 (.invokestatic 115) 3 := hb' (by decide +kernel)
theorem pd134 : parseMethodDescriptor "([CI[BII)I" = some ⟨[(.array .char), .int, (.array .byte), .int, .int], some .int⟩ := by decide +kernel
theorem d6_12 : DC y6 12 (.istore 4) 2 := hb' (by decide +kernel)
theorem d6_14 : DC y6 14 (.iload 4) 2 := hb' (by decide +kernel)
theorem d6_16 : DC y6 16 (.iload_n 2) 1 := hb' (by decide +kernel)
theorem d6_17 : DC y6 17 (.if_icmp .eq 40) 3 := hb' (by decide +kernel)
theorem d6_57 : DC y6 57 (.aload_n 3) 1 := hb' (by decide +kernel)
theorem d6_58 : DC y6 58 (.areturn) 1 := hb' (by decide +kernel)
theorem d6_20 : DC y6 20 (.aload_n 0) 1 := hb' (by decide +kernel)
theorem d6_21 : DC y6 21 (.iload_n 1) 1 := hb' (by decide +kernel)
theorem d6_22 : DC y6 22 (.iload_n 2) 1 := hb' (by decide +kernel)
theorem d6_23 : DC y6 23 (.invokestatic 119) 3 := hb' (by decide +kernel)
theorem pd145 : parseMethodDescriptor "([CII)[B" = some ⟨[(.array .char), .int, .int], some (.array .byte)⟩ := by decide +kernel
theorem d6_26 : DC y6 26 (.astore 5) 2 := hb' (by decide +kernel)
theorem d6_28 : DC y6 28 (.aload 5) 2 := hb' (by decide +kernel)
theorem d6_30 : DC y6 30 (.iload 4) 2 := hb' (by decide +kernel)
theorem d6_32 : DC y6 32 (.invokestatic 71) 3 := hb' (by decide +kernel)
theorem pd150 : parseMethodDescriptor "([BI)C" = some ⟨[(.array .byte), .int], some .char⟩ := by decide +kernel
theorem d6_35 : DC y6 35 (.sipush 255) 3 := hb' (by decide +kernel)
theorem d6_38 : DC y6 38 (.if_icmp .gt 16) 3 := hb' (by decide +kernel)
theorem d6_54 : DC y6 54 (.aload 5) 2 := hb' (by decide +kernel)
theorem d6_56 : DC y6 56 (.areturn) 1 := hb' (by decide +kernel)
theorem ef155 (m : MethodId) (x0 : Addr) (x1 : Int32) (x2 : Int32) : entryFrame m #[(.ref x0), (.int x1), (.int x2)] 6 = mkF m 0 #[.val (.ref x0), .val (.int x1), .val (.int x2), .unset, .unset, .unset] [] := by first | (simp [entryFrame, mkF, argsToLocals, Value.category]; done) | rfl
abbrev yn156 : MethodName := ⟨"java/lang/StringUTF16", "compress", "([CII)[B"⟩
theorem rmCmp3_1 (G : Gl Z a0 z0 fm) (b : Addr) (c0 : Int32) (h0 : Heap) (hZh : Ext Z.heap h0) (hsf : Own Z h0 []) (P0 : Ary Z h0 b .char [(.int c0)]) (P1 : ¬ c0 < (0 : Int32)) (P2 : ¬ (65535 : Int32) < c0) :
    Ctr l Z ELs yn156 jdk_52_method_16_code 6 (some (.array .byte)) [] (rmk 3 2 3 40) #[(.ref b), (.int 0), (.int 1)] [] h0 (fun v h fs => (∃ t : Addr, fs = [] ∧ v = some (.ref t) ∧ Ary Z h t .byte [(.int (byt c0))] ∧ h0.size ≤ t ∧ ¬ (255 : Int32) < c0) ∨ (∃ t : Addr, fs = [] ∧ v = some (.ref t) ∧ Ary Z h t .byte [(.int (byt (c0 >>> ((0 : Int32) &&& 31)))), (.int (byt (c0 >>> ((8 : Int32) &&& 31))))] ∧ h0.size ≤ t)) := by
  obtain ⟨hw, hEL, wS, OS, hz0, OA, OH, OL, OF, rfm⟩ := id G
  refine Ctr.intro pn12 hEL hZh hsf ?_
  intro p e s m below meth c s₁ hby hml hret hnm hlk hh K0
  refine Owe.cast (ef155 m b ((0 : Int32)) ((1 : Int32))) ?_
  refine oIloadN K0 1 (d6_0 hby) rfl ?_
  refine oNewPE K0 3 (ty := .byte) 1 (wq hw 8) rfl (by decide) (by decide) (by decide) (d6_1 hby) (by decide) (by decide) (ad := "[B") rfl ?_
  intro T6 h1 a2 g3 K7 E4 A5 X8
  have K9 := K7.to 1 1 [a2]
  refine oAstoreN K9 4 (d6_3 hby) rfl (l' := #[.val (.ref b), .val (.int 0), .val (.int 1), .val (.ref a2), .unset, .unset]) rfl ?_
  refine oAloadN K9 5 (d6_4 hby) rfl rfl ?_
  refine oIloadN K9 6 (d6_5 hby) rfl ?_
  refine oAloadN K9 7 (d6_6 hby) rfl rfl ?_
  refine oIconstV K9 8 (0 : Int32) (d6_7 hby) rfl ?_
  refine oIloadN K9 9 (d6_8 hby) rfl ?_
  refine oStatic K9 12 0 (wq hw 87) (wq hw 88) (wq hw 85) (wq hw 89) (rmCmp5_1 l Z a0 z0 fm G b a2 c0 h1 K9.old K9.both (P0.ext E4) A5 (Nat.ne_of_lt (Nat.lt_of_lt_of_le P0.lt (Nat.le_of_eq g3)))) [(.ref b), (.int 0), (.ref a2), (.int 0), (.int 1)] [] (lenOf pd134 rfl) (d6_9 hby) ?_
  intro T10 h12 v13 lo14 fs15 K11 Kp16 q17
  rcases q17 with qq17_0 | qq17_1
  · obtain ⟨rfl, rfl, f18, f19⟩ := qq17_0
    have K20 := K11.to 1 1 [a2]
    refine Owe.stk [(.int 1)] ?_
    refine oIstore K20 14 (d6_12 hby) (l' := #[.val (.ref b), .val (.int 0), .val (.int 1), .val (.ref a2), .val (.int 1), .unset]) rfl ?_
    refine oIload K20 16 (d6_14 hby) rfl ?_
    refine oIloadN K20 17 (d6_16 hby) rfl ?_
    refine oIcmpYes K20 57 (d6_17 hby) (XT.ii_eq_t (by decide)) ?_
    refine oAloadN K20 58 (d6_57 hby) rfl rfl ?_
    exact oRetA K20 [] hret rfl rfl (d6_58 hby) (by decide) (by decide) hlk (fun x hx => by cases hx) (Or.inl ⟨a2, rfl, rfl, f18, (Nat.le_trans (Nat.le_refl _) (Nat.le_of_eq g3)), f19⟩)
  · obtain ⟨rfl, rfl, f21⟩ := qq17_1
    have K22 := K11.to 1 1 [a2]
    refine Owe.stk [(.int 0)] ?_
    refine oIstore K22 14 (d6_12 hby) (l' := #[.val (.ref b), .val (.int 0), .val (.int 1), .val (.ref a2), .val (.int 0), .unset]) rfl ?_
    refine oIload K22 16 (d6_14 hby) rfl ?_
    refine oIloadN K22 17 (d6_16 hby) rfl ?_
    refine oIcmpNo K22 20 (d6_17 hby) (XT.ii_eq_f (by decide)) ?_
    refine oAloadN K22 21 (d6_20 hby) rfl rfl ?_
    refine oIloadN K22 22 (d6_21 hby) rfl ?_
    refine oIloadN K22 23 (d6_22 hby) rfl ?_
    have F23 := ((P0.ext E4).keep Kp16 (ninS (Nat.ne_of_lt (Nat.lt_of_lt_of_le P0.lt (Nat.le_of_eq g3))) nin0))
    refine oStatic K22 26 0 (wq hw 100) (wq hw 101) (wq hw 85) (wq hw 102) (rmToB1 l Z a0 z0 fm G b c0 h12 K22.old K22.both F23) [(.ref b), (.int 0), (.int 1)] [] (lenOf pd145 rfl) (d6_23 hby) ?_
    intro T24 h26 v27 lo28 fs29 K25 Kp30 q31
    obtain ⟨t32, rfl, rfl, f33, f34⟩ := q31
    have K35 := K25.to 2 3 [a2]
    refine Owe.stk [(.ref t32)] ?_
    refine oAstore K35 28 (d6_26 hby) rfl (l' := #[.val (.ref b), .val (.int 0), .val (.int 1), .val (.ref a2), .val (.int 0), .val (.ref t32)]) rfl ?_
    refine oAload K35 30 (d6_28 hby) rfl rfl ?_
    refine oIload K35 32 (d6_30 hby) rfl ?_
    refine oStatic K35 35 0 (wq hw 116) (wq hw 117) (wq hw 85) (wq hw 118) (rmGet1_0 l Z a0 z0 fm G t32 c0 h26 K35.old K35.both f33 P1 P2) [(.ref t32), (.int 0)] [] (lenOf pd150 rfl) (d6_32 hby) ?_
    intro T36 h38 v39 lo40 fs41 K37 Kp42 q43
    obtain ⟨rfl, rfl⟩ := q43
    have K44 := K37.to 2 3 [a2]
    refine Owe.stk [(.int c0)] ?_
    refine oSipushV K44 38 (255 : Int32) (d6_35 hby) (by decide) ?_
    refine oIcmpYes K44 54 (d6_38 hby) (XT.ii_gt_t f21) ?_
    refine oAload K44 56 (d6_54 hby) rfl rfl ?_
    exact oRetA K44 [] hret rfl rfl (d6_56 hby) (by decide) (by decide) hlk (fun x hx => by cases hx) (Or.inr ⟨t32, rfl, rfl, (f33.keep Kp42 nin0), (Nat.le_trans (Nat.le_trans E4.1 Kp16.1) f34)⟩)
theorem rmCmp3_2 (G : Gl Z a0 z0 fm) (b : Addr) (c0 c1 : Int32) (h0 : Heap) (hZh : Ext Z.heap h0) (hsf : Own Z h0 []) (P0 : Ary Z h0 b .char [(.int c0), (.int c1)]) (P1 : ¬ c0 < (0 : Int32)) (P2 : ¬ (65535 : Int32) < c0) (P3 : ¬ c1 < (0 : Int32)) (P4 : ¬ (65535 : Int32) < c1) :
    Ctr l Z ELs yn156 jdk_52_method_16_code 6 (some (.array .byte)) [] (rmk 3 2 6 40) #[(.ref b), (.int 0), (.int 2)] [] h0 (fun v h fs => (∃ t : Addr, fs = [] ∧ v = some (.ref t) ∧ Ary Z h t .byte [(.int (byt c0)), (.int (byt c1))] ∧ h0.size ≤ t ∧ ¬ (255 : Int32) < c0 ∧ ¬ (255 : Int32) < c1) ∨ (∃ t : Addr, fs = [] ∧ v = some (.ref t) ∧ Ary Z h t .byte [(.int (byt (c0 >>> ((0 : Int32) &&& 31)))), (.int (byt (c0 >>> ((8 : Int32) &&& 31)))), (.int (byt (c1 >>> ((0 : Int32) &&& 31)))), (.int (byt (c1 >>> ((8 : Int32) &&& 31))))] ∧ h0.size ≤ t)) := by
  obtain ⟨hw, hEL, wS, OS, hz0, OA, OH, OL, OF, rfm⟩ := id G
  refine Ctr.intro pn12 hEL hZh hsf ?_
  intro p e s m below meth c s₁ hby hml hret hnm hlk hh K0
  refine Owe.cast (ef155 m b ((0 : Int32)) ((2 : Int32))) ?_
  refine oIloadN K0 1 (d6_0 hby) rfl ?_
  refine oNewPE K0 3 (ty := .byte) 2 (wq hw 8) rfl (by decide) (by decide) (by decide) (d6_1 hby) (by decide) (by decide) (ad := "[B") rfl ?_
  intro T6 h1 a2 g3 K7 E4 A5 X8
  have K9 := K7.to 1 2 [a2]
  refine oAstoreN K9 4 (d6_3 hby) rfl (l' := #[.val (.ref b), .val (.int 0), .val (.int 2), .val (.ref a2), .unset, .unset]) rfl ?_
  refine oAloadN K9 5 (d6_4 hby) rfl rfl ?_
  refine oIloadN K9 6 (d6_5 hby) rfl ?_
  refine oAloadN K9 7 (d6_6 hby) rfl rfl ?_
  refine oIconstV K9 8 (0 : Int32) (d6_7 hby) rfl ?_
  refine oIloadN K9 9 (d6_8 hby) rfl ?_
  refine oStatic K9 12 0 (wq hw 87) (wq hw 88) (wq hw 85) (wq hw 89) (rmCmp5_2 l Z a0 z0 fm G b a2 c0 c1 h1 K9.old K9.both (P0.ext E4) A5 (Nat.ne_of_lt (Nat.lt_of_lt_of_le P0.lt (Nat.le_of_eq g3)))) [(.ref b), (.int 0), (.ref a2), (.int 0), (.int 2)] [] (lenOf pd134 rfl) (d6_9 hby) ?_
  intro T10 h12 v13 lo14 fs15 K11 Kp16 q17
  rcases q17 with qq17_0 | qq17_1 | qq17_2
  · obtain ⟨rfl, rfl, f18, f19, f20⟩ := qq17_0
    have K21 := K11.to 1 2 [a2]
    refine Owe.stk [(.int 2)] ?_
    refine oIstore K21 14 (d6_12 hby) (l' := #[.val (.ref b), .val (.int 0), .val (.int 2), .val (.ref a2), .val (.int 2), .unset]) rfl ?_
    refine oIload K21 16 (d6_14 hby) rfl ?_
    refine oIloadN K21 17 (d6_16 hby) rfl ?_
    refine oIcmpYes K21 57 (d6_17 hby) (XT.ii_eq_t (by decide)) ?_
    refine oAloadN K21 58 (d6_57 hby) rfl rfl ?_
    exact oRetA K21 [] hret rfl rfl (d6_58 hby) (by decide) (by decide) hlk (fun x hx => by cases hx) (Or.inl ⟨a2, rfl, rfl, f18, (Nat.le_trans (Nat.le_refl _) (Nat.le_of_eq g3)), f19, f20⟩)
  · obtain ⟨rfl, rfl, f22⟩ := qq17_1
    have K23 := K11.to 1 2 [a2]
    refine Owe.stk [(.int 0)] ?_
    refine oIstore K23 14 (d6_12 hby) (l' := #[.val (.ref b), .val (.int 0), .val (.int 2), .val (.ref a2), .val (.int 0), .unset]) rfl ?_
    refine oIload K23 16 (d6_14 hby) rfl ?_
    refine oIloadN K23 17 (d6_16 hby) rfl ?_
    refine oIcmpNo K23 20 (d6_17 hby) (XT.ii_eq_f (by decide)) ?_
    refine oAloadN K23 21 (d6_20 hby) rfl rfl ?_
    refine oIloadN K23 22 (d6_21 hby) rfl ?_
    refine oIloadN K23 23 (d6_22 hby) rfl ?_
    have F24 := ((P0.ext E4).keep Kp16 (ninS (Nat.ne_of_lt (Nat.lt_of_lt_of_le P0.lt (Nat.le_of_eq g3))) nin0))
    refine oStatic K23 26 0 (wq hw 100) (wq hw 101) (wq hw 85) (wq hw 102) (rmToB2 l Z a0 z0 fm G b c0 c1 h12 K23.old K23.both F24) [(.ref b), (.int 0), (.int 2)] [] (lenOf pd145 rfl) (d6_23 hby) ?_
    intro T25 h27 v28 lo29 fs30 K26 Kp31 q32
    obtain ⟨t33, rfl, rfl, f34, f35⟩ := q32
    have K36 := K26.to 2 6 [a2]
    refine Owe.stk [(.ref t33)] ?_
    refine oAstore K36 28 (d6_26 hby) rfl (l' := #[.val (.ref b), .val (.int 0), .val (.int 2), .val (.ref a2), .val (.int 0), .val (.ref t33)]) rfl ?_
    refine oAload K36 30 (d6_28 hby) rfl rfl ?_
    refine oIload K36 32 (d6_30 hby) rfl ?_
    refine oStatic K36 35 0 (wq hw 116) (wq hw 117) (wq hw 85) (wq hw 118) (rmGet2_0 l Z a0 z0 fm G t33 c0 c1 h27 K36.old K36.both f34 P1 P2) [(.ref t33), (.int 0)] [] (lenOf pd150 rfl) (d6_32 hby) ?_
    intro T37 h39 v40 lo41 fs42 K38 Kp43 q44
    obtain ⟨rfl, rfl⟩ := q44
    have K45 := K38.to 2 6 [a2]
    refine Owe.stk [(.int c0)] ?_
    refine oSipushV K45 38 (255 : Int32) (d6_35 hby) (by decide) ?_
    refine oIcmpYes K45 54 (d6_38 hby) (XT.ii_gt_t f22) ?_
    refine oAload K45 56 (d6_54 hby) rfl rfl ?_
    exact oRetA K45 [] hret rfl rfl (d6_56 hby) (by decide) (by decide) hlk (fun x hx => by cases hx) (Or.inr ⟨t33, rfl, rfl, (f34.keep Kp43 nin0), (Nat.le_trans (Nat.le_trans E4.1 Kp16.1) f35)⟩)
  · obtain ⟨rfl, rfl, f46⟩ := qq17_2
    have K47 := K11.to 1 2 [a2]
    refine Owe.stk [(.int 1)] ?_
    refine oIstore K47 14 (d6_12 hby) (l' := #[.val (.ref b), .val (.int 0), .val (.int 2), .val (.ref a2), .val (.int 1), .unset]) rfl ?_
    refine oIload K47 16 (d6_14 hby) rfl ?_
    refine oIloadN K47 17 (d6_16 hby) rfl ?_
    refine oIcmpNo K47 20 (d6_17 hby) (XT.ii_eq_f (by decide)) ?_
    refine oAloadN K47 21 (d6_20 hby) rfl rfl ?_
    refine oIloadN K47 22 (d6_21 hby) rfl ?_
    refine oIloadN K47 23 (d6_22 hby) rfl ?_
    have F48 := ((P0.ext E4).keep Kp16 (ninS (Nat.ne_of_lt (Nat.lt_of_lt_of_le P0.lt (Nat.le_of_eq g3))) nin0))
    refine oStatic K47 26 0 (wq hw 100) (wq hw 101) (wq hw 85) (wq hw 102) (rmToB2 l Z a0 z0 fm G b c0 c1 h12 K47.old K47.both F48) [(.ref b), (.int 0), (.int 2)] [] (lenOf pd145 rfl) (d6_23 hby) ?_
    intro T49 h51 v52 lo53 fs54 K50 Kp55 q56
    obtain ⟨t57, rfl, rfl, f58, f59⟩ := q56
    have K60 := K50.to 2 6 [a2]
    refine Owe.stk [(.ref t57)] ?_
    refine oAstore K60 28 (d6_26 hby) rfl (l' := #[.val (.ref b), .val (.int 0), .val (.int 2), .val (.ref a2), .val (.int 1), .val (.ref t57)]) rfl ?_
    refine oAload K60 30 (d6_28 hby) rfl rfl ?_
    refine oIload K60 32 (d6_30 hby) rfl ?_
    refine oStatic K60 35 0 (wq hw 116) (wq hw 117) (wq hw 85) (wq hw 118) (rmGet2_1 l Z a0 z0 fm G t57 c0 c1 h51 K60.old K60.both f58 P3 P4) [(.ref t57), (.int 1)] [] (lenOf pd150 rfl) (d6_32 hby) ?_
    intro T61 h63 v64 lo65 fs66 K62 Kp67 q68
    obtain ⟨rfl, rfl⟩ := q68
    have K69 := K62.to 2 6 [a2]
    refine Owe.stk [(.int c1)] ?_
    refine oSipushV K69 38 (255 : Int32) (d6_35 hby) (by decide) ?_
    refine oIcmpYes K69 54 (d6_38 hby) (XT.ii_gt_t f46) ?_
    refine oAload K69 56 (d6_54 hby) rfl rfl ?_
    exact oRetA K69 [] hret rfl rfl (d6_56 hby) (by decide) (by decide) hlk (fun x hx => by cases hx) (Or.inr ⟨t57, rfl, rfl, (f58.keep Kp67 nin0), (Nat.le_trans (Nat.le_trans E4.1 Kp16.1) f59)⟩)
theorem rmCmp3_3 (G : Gl Z a0 z0 fm) (b : Addr) (c0 c1 c2 : Int32) (h0 : Heap) (hZh : Ext Z.heap h0) (hsf : Own Z h0 []) (P0 : Ary Z h0 b .char [(.int c0), (.int c1), (.int c2)]) (P1 : ¬ c0 < (0 : Int32)) (P2 : ¬ (65535 : Int32) < c0) (P3 : ¬ c1 < (0 : Int32)) (P4 : ¬ (65535 : Int32) < c1) (P5 : ¬ c2 < (0 : Int32)) (P6 : ¬ (65535 : Int32) < c2) :
    Ctr l Z ELs yn156 jdk_52_method_16_code 6 (some (.array .byte)) [] (rmk 3 2 9 40) #[(.ref b), (.int 0), (.int 3)] [] h0 (fun v h fs => (∃ t : Addr, fs = [] ∧ v = some (.ref t) ∧ Ary Z h t .byte [(.int (byt c0)), (.int (byt c1)), (.int (byt c2))] ∧ h0.size ≤ t ∧ ¬ (255 : Int32) < c0 ∧ ¬ (255 : Int32) < c1 ∧ ¬ (255 : Int32) < c2) ∨ (∃ t : Addr, fs = [] ∧ v = some (.ref t) ∧ Ary Z h t .byte [(.int (byt (c0 >>> ((0 : Int32) &&& 31)))), (.int (byt (c0 >>> ((8 : Int32) &&& 31)))), (.int (byt (c1 >>> ((0 : Int32) &&& 31)))), (.int (byt (c1 >>> ((8 : Int32) &&& 31)))), (.int (byt (c2 >>> ((0 : Int32) &&& 31)))), (.int (byt (c2 >>> ((8 : Int32) &&& 31))))] ∧ h0.size ≤ t)) := by
  obtain ⟨hw, hEL, wS, OS, hz0, OA, OH, OL, OF, rfm⟩ := id G
  refine Ctr.intro pn12 hEL hZh hsf ?_
  intro p e s m below meth c s₁ hby hml hret hnm hlk hh K0
  refine Owe.cast (ef155 m b ((0 : Int32)) ((3 : Int32))) ?_
  refine oIloadN K0 1 (d6_0 hby) rfl ?_
  refine oNewPE K0 3 (ty := .byte) 3 (wq hw 8) rfl (by decide) (by decide) (by decide) (d6_1 hby) (by decide) (by decide) (ad := "[B") rfl ?_
  intro T6 h1 a2 g3 K7 E4 A5 X8
  have K9 := K7.to 1 3 [a2]
  refine oAstoreN K9 4 (d6_3 hby) rfl (l' := #[.val (.ref b), .val (.int 0), .val (.int 3), .val (.ref a2), .unset, .unset]) rfl ?_
  refine oAloadN K9 5 (d6_4 hby) rfl rfl ?_
  refine oIloadN K9 6 (d6_5 hby) rfl ?_
  refine oAloadN K9 7 (d6_6 hby) rfl rfl ?_
  refine oIconstV K9 8 (0 : Int32) (d6_7 hby) rfl ?_
  refine oIloadN K9 9 (d6_8 hby) rfl ?_
  refine oStatic K9 12 0 (wq hw 87) (wq hw 88) (wq hw 85) (wq hw 89) (rmCmp5_3 l Z a0 z0 fm G b a2 c0 c1 c2 h1 K9.old K9.both (P0.ext E4) A5 (Nat.ne_of_lt (Nat.lt_of_lt_of_le P0.lt (Nat.le_of_eq g3)))) [(.ref b), (.int 0), (.ref a2), (.int 0), (.int 3)] [] (lenOf pd134 rfl) (d6_9 hby) ?_
  intro T10 h12 v13 lo14 fs15 K11 Kp16 q17
  rcases q17 with qq17_0 | qq17_1 | qq17_2 | qq17_3
  · obtain ⟨rfl, rfl, f18, f19, f20, f21⟩ := qq17_0
    have K22 := K11.to 1 3 [a2]
    refine Owe.stk [(.int 3)] ?_
    refine oIstore K22 14 (d6_12 hby) (l' := #[.val (.ref b), .val (.int 0), .val (.int 3), .val (.ref a2), .val (.int 3), .unset]) rfl ?_
    refine oIload K22 16 (d6_14 hby) rfl ?_
    refine oIloadN K22 17 (d6_16 hby) rfl ?_
    refine oIcmpYes K22 57 (d6_17 hby) (XT.ii_eq_t (by decide)) ?_
    refine oAloadN K22 58 (d6_57 hby) rfl rfl ?_
    exact oRetA K22 [] hret rfl rfl (d6_58 hby) (by decide) (by decide) hlk (fun x hx => by cases hx) (Or.inl ⟨a2, rfl, rfl, f18, (Nat.le_trans (Nat.le_refl _) (Nat.le_of_eq g3)), f19, f20, f21⟩)
  · obtain ⟨rfl, rfl, f23⟩ := qq17_1
    have K24 := K11.to 1 3 [a2]
    refine Owe.stk [(.int 0)] ?_
    refine oIstore K24 14 (d6_12 hby) (l' := #[.val (.ref b), .val (.int 0), .val (.int 3), .val (.ref a2), .val (.int 0), .unset]) rfl ?_
    refine oIload K24 16 (d6_14 hby) rfl ?_
    refine oIloadN K24 17 (d6_16 hby) rfl ?_
    refine oIcmpNo K24 20 (d6_17 hby) (XT.ii_eq_f (by decide)) ?_
    refine oAloadN K24 21 (d6_20 hby) rfl rfl ?_
    refine oIloadN K24 22 (d6_21 hby) rfl ?_
    refine oIloadN K24 23 (d6_22 hby) rfl ?_
    have F25 := ((P0.ext E4).keep Kp16 (ninS (Nat.ne_of_lt (Nat.lt_of_lt_of_le P0.lt (Nat.le_of_eq g3))) nin0))
    refine oStatic K24 26 0 (wq hw 100) (wq hw 101) (wq hw 85) (wq hw 102) (rmToB3 l Z a0 z0 fm G b c0 c1 c2 h12 K24.old K24.both F25) [(.ref b), (.int 0), (.int 3)] [] (lenOf pd145 rfl) (d6_23 hby) ?_
    intro T26 h28 v29 lo30 fs31 K27 Kp32 q33
    obtain ⟨t34, rfl, rfl, f35, f36⟩ := q33
    have K37 := K27.to 2 9 [a2]
    refine Owe.stk [(.ref t34)] ?_
    refine oAstore K37 28 (d6_26 hby) rfl (l' := #[.val (.ref b), .val (.int 0), .val (.int 3), .val (.ref a2), .val (.int 0), .val (.ref t34)]) rfl ?_
    refine oAload K37 30 (d6_28 hby) rfl rfl ?_
    refine oIload K37 32 (d6_30 hby) rfl ?_
    refine oStatic K37 35 0 (wq hw 116) (wq hw 117) (wq hw 85) (wq hw 118) (rmGet3_0 l Z a0 z0 fm G t34 c0 c1 c2 h28 K37.old K37.both f35 P1 P2) [(.ref t34), (.int 0)] [] (lenOf pd150 rfl) (d6_32 hby) ?_
    intro T38 h40 v41 lo42 fs43 K39 Kp44 q45
    obtain ⟨rfl, rfl⟩ := q45
    have K46 := K39.to 2 9 [a2]
    refine Owe.stk [(.int c0)] ?_
    refine oSipushV K46 38 (255 : Int32) (d6_35 hby) (by decide) ?_
    refine oIcmpYes K46 54 (d6_38 hby) (XT.ii_gt_t f23) ?_
    refine oAload K46 56 (d6_54 hby) rfl rfl ?_
    exact oRetA K46 [] hret rfl rfl (d6_56 hby) (by decide) (by decide) hlk (fun x hx => by cases hx) (Or.inr ⟨t34, rfl, rfl, (f35.keep Kp44 nin0), (Nat.le_trans (Nat.le_trans E4.1 Kp16.1) f36)⟩)
  · obtain ⟨rfl, rfl, f47⟩ := qq17_2
    have K48 := K11.to 1 3 [a2]
    refine Owe.stk [(.int 1)] ?_
    refine oIstore K48 14 (d6_12 hby) (l' := #[.val (.ref b), .val (.int 0), .val (.int 3), .val (.ref a2), .val (.int 1), .unset]) rfl ?_
    refine oIload K48 16 (d6_14 hby) rfl ?_
    refine oIloadN K48 17 (d6_16 hby) rfl ?_
    refine oIcmpNo K48 20 (d6_17 hby) (XT.ii_eq_f (by decide)) ?_
    refine oAloadN K48 21 (d6_20 hby) rfl rfl ?_
    refine oIloadN K48 22 (d6_21 hby) rfl ?_
    refine oIloadN K48 23 (d6_22 hby) rfl ?_
    have F49 := ((P0.ext E4).keep Kp16 (ninS (Nat.ne_of_lt (Nat.lt_of_lt_of_le P0.lt (Nat.le_of_eq g3))) nin0))
    refine oStatic K48 26 0 (wq hw 100) (wq hw 101) (wq hw 85) (wq hw 102) (rmToB3 l Z a0 z0 fm G b c0 c1 c2 h12 K48.old K48.both F49) [(.ref b), (.int 0), (.int 3)] [] (lenOf pd145 rfl) (d6_23 hby) ?_
    intro T50 h52 v53 lo54 fs55 K51 Kp56 q57
    obtain ⟨t58, rfl, rfl, f59, f60⟩ := q57
    have K61 := K51.to 2 9 [a2]
    refine Owe.stk [(.ref t58)] ?_
    refine oAstore K61 28 (d6_26 hby) rfl (l' := #[.val (.ref b), .val (.int 0), .val (.int 3), .val (.ref a2), .val (.int 1), .val (.ref t58)]) rfl ?_
    refine oAload K61 30 (d6_28 hby) rfl rfl ?_
    refine oIload K61 32 (d6_30 hby) rfl ?_
    refine oStatic K61 35 0 (wq hw 116) (wq hw 117) (wq hw 85) (wq hw 118) (rmGet3_1 l Z a0 z0 fm G t58 c0 c1 c2 h52 K61.old K61.both f59 P3 P4) [(.ref t58), (.int 1)] [] (lenOf pd150 rfl) (d6_32 hby) ?_
    intro T62 h64 v65 lo66 fs67 K63 Kp68 q69
    obtain ⟨rfl, rfl⟩ := q69
    have K70 := K63.to 2 9 [a2]
    refine Owe.stk [(.int c1)] ?_
    refine oSipushV K70 38 (255 : Int32) (d6_35 hby) (by decide) ?_
    refine oIcmpYes K70 54 (d6_38 hby) (XT.ii_gt_t f47) ?_
    refine oAload K70 56 (d6_54 hby) rfl rfl ?_
    exact oRetA K70 [] hret rfl rfl (d6_56 hby) (by decide) (by decide) hlk (fun x hx => by cases hx) (Or.inr ⟨t58, rfl, rfl, (f59.keep Kp68 nin0), (Nat.le_trans (Nat.le_trans E4.1 Kp16.1) f60)⟩)
  · obtain ⟨rfl, rfl, f71⟩ := qq17_3
    have K72 := K11.to 1 3 [a2]
    refine Owe.stk [(.int 2)] ?_
    refine oIstore K72 14 (d6_12 hby) (l' := #[.val (.ref b), .val (.int 0), .val (.int 3), .val (.ref a2), .val (.int 2), .unset]) rfl ?_
    refine oIload K72 16 (d6_14 hby) rfl ?_
    refine oIloadN K72 17 (d6_16 hby) rfl ?_
    refine oIcmpNo K72 20 (d6_17 hby) (XT.ii_eq_f (by decide)) ?_
    refine oAloadN K72 21 (d6_20 hby) rfl rfl ?_
    refine oIloadN K72 22 (d6_21 hby) rfl ?_
    refine oIloadN K72 23 (d6_22 hby) rfl ?_
    have F73 := ((P0.ext E4).keep Kp16 (ninS (Nat.ne_of_lt (Nat.lt_of_lt_of_le P0.lt (Nat.le_of_eq g3))) nin0))
    refine oStatic K72 26 0 (wq hw 100) (wq hw 101) (wq hw 85) (wq hw 102) (rmToB3 l Z a0 z0 fm G b c0 c1 c2 h12 K72.old K72.both F73) [(.ref b), (.int 0), (.int 3)] [] (lenOf pd145 rfl) (d6_23 hby) ?_
    intro T74 h76 v77 lo78 fs79 K75 Kp80 q81
    obtain ⟨t82, rfl, rfl, f83, f84⟩ := q81
    have K85 := K75.to 2 9 [a2]
    refine Owe.stk [(.ref t82)] ?_
    refine oAstore K85 28 (d6_26 hby) rfl (l' := #[.val (.ref b), .val (.int 0), .val (.int 3), .val (.ref a2), .val (.int 2), .val (.ref t82)]) rfl ?_
    refine oAload K85 30 (d6_28 hby) rfl rfl ?_
    refine oIload K85 32 (d6_30 hby) rfl ?_
    refine oStatic K85 35 0 (wq hw 116) (wq hw 117) (wq hw 85) (wq hw 118) (rmGet3_2 l Z a0 z0 fm G t82 c0 c1 c2 h76 K85.old K85.both f83 P5 P6) [(.ref t82), (.int 2)] [] (lenOf pd150 rfl) (d6_32 hby) ?_
    intro T86 h88 v89 lo90 fs91 K87 Kp92 q93
    obtain ⟨rfl, rfl⟩ := q93
    have K94 := K87.to 2 9 [a2]
    refine Owe.stk [(.int c2)] ?_
    refine oSipushV K94 38 (255 : Int32) (d6_35 hby) (by decide) ?_
    refine oIcmpYes K94 54 (d6_38 hby) (XT.ii_gt_t f71) ?_
    refine oAload K94 56 (d6_54 hby) rfl rfl ?_
    exact oRetA K94 [] hret rfl rfl (d6_56 hby) (by decide) (by decide) hlk (fun x hx => by cases hx) (Or.inr ⟨t82, rfl, rfl, (f83.keep Kp92 nin0), (Nat.le_trans (Nat.le_trans E4.1 Kp16.1) f84)⟩)
theorem rmCmp3_4 (G : Gl Z a0 z0 fm) (b : Addr) (c0 c1 c2 c3 : Int32) (h0 : Heap) (hZh : Ext Z.heap h0) (hsf : Own Z h0 []) (P0 : Ary Z h0 b .char [(.int c0), (.int c1), (.int c2), (.int c3)]) (P1 : ¬ c0 < (0 : Int32)) (P2 : ¬ (65535 : Int32) < c0) (P3 : ¬ c1 < (0 : Int32)) (P4 : ¬ (65535 : Int32) < c1) (P5 : ¬ c2 < (0 : Int32)) (P6 : ¬ (65535 : Int32) < c2) (P7 : ¬ c3 < (0 : Int32)) (P8 : ¬ (65535 : Int32) < c3) :
    Ctr l Z ELs yn156 jdk_52_method_16_code 6 (some (.array .byte)) [] (rmk 3 2 12 40) #[(.ref b), (.int 0), (.int 4)] [] h0 (fun v h fs => (∃ t : Addr, fs = [] ∧ v = some (.ref t) ∧ Ary Z h t .byte [(.int (byt c0)), (.int (byt c1)), (.int (byt c2)), (.int (byt c3))] ∧ h0.size ≤ t ∧ ¬ (255 : Int32) < c0 ∧ ¬ (255 : Int32) < c1 ∧ ¬ (255 : Int32) < c2 ∧ ¬ (255 : Int32) < c3) ∨ (∃ t : Addr, fs = [] ∧ v = some (.ref t) ∧ Ary Z h t .byte [(.int (byt (c0 >>> ((0 : Int32) &&& 31)))), (.int (byt (c0 >>> ((8 : Int32) &&& 31)))), (.int (byt (c1 >>> ((0 : Int32) &&& 31)))), (.int (byt (c1 >>> ((8 : Int32) &&& 31)))), (.int (byt (c2 >>> ((0 : Int32) &&& 31)))), (.int (byt (c2 >>> ((8 : Int32) &&& 31)))), (.int (byt (c3 >>> ((0 : Int32) &&& 31)))), (.int (byt (c3 >>> ((8 : Int32) &&& 31))))] ∧ h0.size ≤ t)) := by
  obtain ⟨hw, hEL, wS, OS, hz0, OA, OH, OL, OF, rfm⟩ := id G
  refine Ctr.intro pn12 hEL hZh hsf ?_
  intro p e s m below meth c s₁ hby hml hret hnm hlk hh K0
  refine Owe.cast (ef155 m b ((0 : Int32)) ((4 : Int32))) ?_
  refine oIloadN K0 1 (d6_0 hby) rfl ?_
  refine oNewPE K0 3 (ty := .byte) 4 (wq hw 8) rfl (by decide) (by decide) (by decide) (d6_1 hby) (by decide) (by decide) (ad := "[B") rfl ?_
  intro T6 h1 a2 g3 K7 E4 A5 X8
  have K9 := K7.to 1 4 [a2]
  refine oAstoreN K9 4 (d6_3 hby) rfl (l' := #[.val (.ref b), .val (.int 0), .val (.int 4), .val (.ref a2), .unset, .unset]) rfl ?_
  refine oAloadN K9 5 (d6_4 hby) rfl rfl ?_
  refine oIloadN K9 6 (d6_5 hby) rfl ?_
  refine oAloadN K9 7 (d6_6 hby) rfl rfl ?_
  refine oIconstV K9 8 (0 : Int32) (d6_7 hby) rfl ?_
  refine oIloadN K9 9 (d6_8 hby) rfl ?_
  refine oStatic K9 12 0 (wq hw 87) (wq hw 88) (wq hw 85) (wq hw 89) (rmCmp5_4 l Z a0 z0 fm G b a2 c0 c1 c2 c3 h1 K9.old K9.both (P0.ext E4) A5 (Nat.ne_of_lt (Nat.lt_of_lt_of_le P0.lt (Nat.le_of_eq g3)))) [(.ref b), (.int 0), (.ref a2), (.int 0), (.int 4)] [] (lenOf pd134 rfl) (d6_9 hby) ?_
  intro T10 h12 v13 lo14 fs15 K11 Kp16 q17
  rcases q17 with qq17_0 | qq17_1 | qq17_2 | qq17_3 | qq17_4
  · obtain ⟨rfl, rfl, f18, f19, f20, f21, f22⟩ := qq17_0
    have K23 := K11.to 1 4 [a2]
    refine Owe.stk [(.int 4)] ?_
    refine oIstore K23 14 (d6_12 hby) (l' := #[.val (.ref b), .val (.int 0), .val (.int 4), .val (.ref a2), .val (.int 4), .unset]) rfl ?_
    refine oIload K23 16 (d6_14 hby) rfl ?_
    refine oIloadN K23 17 (d6_16 hby) rfl ?_
    refine oIcmpYes K23 57 (d6_17 hby) (XT.ii_eq_t (by decide)) ?_
    refine oAloadN K23 58 (d6_57 hby) rfl rfl ?_
    exact oRetA K23 [] hret rfl rfl (d6_58 hby) (by decide) (by decide) hlk (fun x hx => by cases hx) (Or.inl ⟨a2, rfl, rfl, f18, (Nat.le_trans (Nat.le_refl _) (Nat.le_of_eq g3)), f19, f20, f21, f22⟩)
  · obtain ⟨rfl, rfl, f24⟩ := qq17_1
    have K25 := K11.to 1 4 [a2]
    refine Owe.stk [(.int 0)] ?_
    refine oIstore K25 14 (d6_12 hby) (l' := #[.val (.ref b), .val (.int 0), .val (.int 4), .val (.ref a2), .val (.int 0), .unset]) rfl ?_
    refine oIload K25 16 (d6_14 hby) rfl ?_
    refine oIloadN K25 17 (d6_16 hby) rfl ?_
    refine oIcmpNo K25 20 (d6_17 hby) (XT.ii_eq_f (by decide)) ?_
    refine oAloadN K25 21 (d6_20 hby) rfl rfl ?_
    refine oIloadN K25 22 (d6_21 hby) rfl ?_
    refine oIloadN K25 23 (d6_22 hby) rfl ?_
    have F26 := ((P0.ext E4).keep Kp16 (ninS (Nat.ne_of_lt (Nat.lt_of_lt_of_le P0.lt (Nat.le_of_eq g3))) nin0))
    refine oStatic K25 26 0 (wq hw 100) (wq hw 101) (wq hw 85) (wq hw 102) (rmToB4 l Z a0 z0 fm G b c0 c1 c2 c3 h12 K25.old K25.both F26) [(.ref b), (.int 0), (.int 4)] [] (lenOf pd145 rfl) (d6_23 hby) ?_
    intro T27 h29 v30 lo31 fs32 K28 Kp33 q34
    obtain ⟨t35, rfl, rfl, f36, f37⟩ := q34
    have K38 := K28.to 2 12 [a2]
    refine Owe.stk [(.ref t35)] ?_
    refine oAstore K38 28 (d6_26 hby) rfl (l' := #[.val (.ref b), .val (.int 0), .val (.int 4), .val (.ref a2), .val (.int 0), .val (.ref t35)]) rfl ?_
    refine oAload K38 30 (d6_28 hby) rfl rfl ?_
    refine oIload K38 32 (d6_30 hby) rfl ?_
    refine oStatic K38 35 0 (wq hw 116) (wq hw 117) (wq hw 85) (wq hw 118) (rmGet4_0 l Z a0 z0 fm G t35 c0 c1 c2 c3 h29 K38.old K38.both f36 P1 P2) [(.ref t35), (.int 0)] [] (lenOf pd150 rfl) (d6_32 hby) ?_
    intro T39 h41 v42 lo43 fs44 K40 Kp45 q46
    obtain ⟨rfl, rfl⟩ := q46
    have K47 := K40.to 2 12 [a2]
    refine Owe.stk [(.int c0)] ?_
    refine oSipushV K47 38 (255 : Int32) (d6_35 hby) (by decide) ?_
    refine oIcmpYes K47 54 (d6_38 hby) (XT.ii_gt_t f24) ?_
    refine oAload K47 56 (d6_54 hby) rfl rfl ?_
    exact oRetA K47 [] hret rfl rfl (d6_56 hby) (by decide) (by decide) hlk (fun x hx => by cases hx) (Or.inr ⟨t35, rfl, rfl, (f36.keep Kp45 nin0), (Nat.le_trans (Nat.le_trans E4.1 Kp16.1) f37)⟩)
  · obtain ⟨rfl, rfl, f48⟩ := qq17_2
    have K49 := K11.to 1 4 [a2]
    refine Owe.stk [(.int 1)] ?_
    refine oIstore K49 14 (d6_12 hby) (l' := #[.val (.ref b), .val (.int 0), .val (.int 4), .val (.ref a2), .val (.int 1), .unset]) rfl ?_
    refine oIload K49 16 (d6_14 hby) rfl ?_
    refine oIloadN K49 17 (d6_16 hby) rfl ?_
    refine oIcmpNo K49 20 (d6_17 hby) (XT.ii_eq_f (by decide)) ?_
    refine oAloadN K49 21 (d6_20 hby) rfl rfl ?_
    refine oIloadN K49 22 (d6_21 hby) rfl ?_
    refine oIloadN K49 23 (d6_22 hby) rfl ?_
    have F50 := ((P0.ext E4).keep Kp16 (ninS (Nat.ne_of_lt (Nat.lt_of_lt_of_le P0.lt (Nat.le_of_eq g3))) nin0))
    refine oStatic K49 26 0 (wq hw 100) (wq hw 101) (wq hw 85) (wq hw 102) (rmToB4 l Z a0 z0 fm G b c0 c1 c2 c3 h12 K49.old K49.both F50) [(.ref b), (.int 0), (.int 4)] [] (lenOf pd145 rfl) (d6_23 hby) ?_
    intro T51 h53 v54 lo55 fs56 K52 Kp57 q58
    obtain ⟨t59, rfl, rfl, f60, f61⟩ := q58
    have K62 := K52.to 2 12 [a2]
    refine Owe.stk [(.ref t59)] ?_
    refine oAstore K62 28 (d6_26 hby) rfl (l' := #[.val (.ref b), .val (.int 0), .val (.int 4), .val (.ref a2), .val (.int 1), .val (.ref t59)]) rfl ?_
    refine oAload K62 30 (d6_28 hby) rfl rfl ?_
    refine oIload K62 32 (d6_30 hby) rfl ?_
    refine oStatic K62 35 0 (wq hw 116) (wq hw 117) (wq hw 85) (wq hw 118) (rmGet4_1 l Z a0 z0 fm G t59 c0 c1 c2 c3 h53 K62.old K62.both f60 P3 P4) [(.ref t59), (.int 1)] [] (lenOf pd150 rfl) (d6_32 hby) ?_
    intro T63 h65 v66 lo67 fs68 K64 Kp69 q70
    obtain ⟨rfl, rfl⟩ := q70
    have K71 := K64.to 2 12 [a2]
    refine Owe.stk [(.int c1)] ?_
    refine oSipushV K71 38 (255 : Int32) (d6_35 hby) (by decide) ?_
    refine oIcmpYes K71 54 (d6_38 hby) (XT.ii_gt_t f48) ?_
    refine oAload K71 56 (d6_54 hby) rfl rfl ?_
    exact oRetA K71 [] hret rfl rfl (d6_56 hby) (by decide) (by decide) hlk (fun x hx => by cases hx) (Or.inr ⟨t59, rfl, rfl, (f60.keep Kp69 nin0), (Nat.le_trans (Nat.le_trans E4.1 Kp16.1) f61)⟩)
  · obtain ⟨rfl, rfl, f72⟩ := qq17_3
    have K73 := K11.to 1 4 [a2]
    refine Owe.stk [(.int 2)] ?_
    refine oIstore K73 14 (d6_12 hby) (l' := #[.val (.ref b), .val (.int 0), .val (.int 4), .val (.ref a2), .val (.int 2), .unset]) rfl ?_
    refine oIload K73 16 (d6_14 hby) rfl ?_
    refine oIloadN K73 17 (d6_16 hby) rfl ?_
    refine oIcmpNo K73 20 (d6_17 hby) (XT.ii_eq_f (by decide)) ?_
    refine oAloadN K73 21 (d6_20 hby) rfl rfl ?_
    refine oIloadN K73 22 (d6_21 hby) rfl ?_
    refine oIloadN K73 23 (d6_22 hby) rfl ?_
    have F74 := ((P0.ext E4).keep Kp16 (ninS (Nat.ne_of_lt (Nat.lt_of_lt_of_le P0.lt (Nat.le_of_eq g3))) nin0))
    refine oStatic K73 26 0 (wq hw 100) (wq hw 101) (wq hw 85) (wq hw 102) (rmToB4 l Z a0 z0 fm G b c0 c1 c2 c3 h12 K73.old K73.both F74) [(.ref b), (.int 0), (.int 4)] [] (lenOf pd145 rfl) (d6_23 hby) ?_
    intro T75 h77 v78 lo79 fs80 K76 Kp81 q82
    obtain ⟨t83, rfl, rfl, f84, f85⟩ := q82
    have K86 := K76.to 2 12 [a2]
    refine Owe.stk [(.ref t83)] ?_
    refine oAstore K86 28 (d6_26 hby) rfl (l' := #[.val (.ref b), .val (.int 0), .val (.int 4), .val (.ref a2), .val (.int 2), .val (.ref t83)]) rfl ?_
    refine oAload K86 30 (d6_28 hby) rfl rfl ?_
    refine oIload K86 32 (d6_30 hby) rfl ?_
    refine oStatic K86 35 0 (wq hw 116) (wq hw 117) (wq hw 85) (wq hw 118) (rmGet4_2 l Z a0 z0 fm G t83 c0 c1 c2 c3 h77 K86.old K86.both f84 P5 P6) [(.ref t83), (.int 2)] [] (lenOf pd150 rfl) (d6_32 hby) ?_
    intro T87 h89 v90 lo91 fs92 K88 Kp93 q94
    obtain ⟨rfl, rfl⟩ := q94
    have K95 := K88.to 2 12 [a2]
    refine Owe.stk [(.int c2)] ?_
    refine oSipushV K95 38 (255 : Int32) (d6_35 hby) (by decide) ?_
    refine oIcmpYes K95 54 (d6_38 hby) (XT.ii_gt_t f72) ?_
    refine oAload K95 56 (d6_54 hby) rfl rfl ?_
    exact oRetA K95 [] hret rfl rfl (d6_56 hby) (by decide) (by decide) hlk (fun x hx => by cases hx) (Or.inr ⟨t83, rfl, rfl, (f84.keep Kp93 nin0), (Nat.le_trans (Nat.le_trans E4.1 Kp16.1) f85)⟩)
  · obtain ⟨rfl, rfl, f96⟩ := qq17_4
    have K97 := K11.to 1 4 [a2]
    refine Owe.stk [(.int 3)] ?_
    refine oIstore K97 14 (d6_12 hby) (l' := #[.val (.ref b), .val (.int 0), .val (.int 4), .val (.ref a2), .val (.int 3), .unset]) rfl ?_
    refine oIload K97 16 (d6_14 hby) rfl ?_
    refine oIloadN K97 17 (d6_16 hby) rfl ?_
    refine oIcmpNo K97 20 (d6_17 hby) (XT.ii_eq_f (by decide)) ?_
    refine oAloadN K97 21 (d6_20 hby) rfl rfl ?_
    refine oIloadN K97 22 (d6_21 hby) rfl ?_
    refine oIloadN K97 23 (d6_22 hby) rfl ?_
    have F98 := ((P0.ext E4).keep Kp16 (ninS (Nat.ne_of_lt (Nat.lt_of_lt_of_le P0.lt (Nat.le_of_eq g3))) nin0))
    refine oStatic K97 26 0 (wq hw 100) (wq hw 101) (wq hw 85) (wq hw 102) (rmToB4 l Z a0 z0 fm G b c0 c1 c2 c3 h12 K97.old K97.both F98) [(.ref b), (.int 0), (.int 4)] [] (lenOf pd145 rfl) (d6_23 hby) ?_
    intro T99 h101 v102 lo103 fs104 K100 Kp105 q106
    obtain ⟨t107, rfl, rfl, f108, f109⟩ := q106
    have K110 := K100.to 2 12 [a2]
    refine Owe.stk [(.ref t107)] ?_
    refine oAstore K110 28 (d6_26 hby) rfl (l' := #[.val (.ref b), .val (.int 0), .val (.int 4), .val (.ref a2), .val (.int 3), .val (.ref t107)]) rfl ?_
    refine oAload K110 30 (d6_28 hby) rfl rfl ?_
    refine oIload K110 32 (d6_30 hby) rfl ?_
    refine oStatic K110 35 0 (wq hw 116) (wq hw 117) (wq hw 85) (wq hw 118) (rmGet4_3 l Z a0 z0 fm G t107 c0 c1 c2 c3 h101 K110.old K110.both f108 P7 P8) [(.ref t107), (.int 3)] [] (lenOf pd150 rfl) (d6_32 hby) ?_
    intro T111 h113 v114 lo115 fs116 K112 Kp117 q118
    obtain ⟨rfl, rfl⟩ := q118
    have K119 := K112.to 2 12 [a2]
    refine Owe.stk [(.int c3)] ?_
    refine oSipushV K119 38 (255 : Int32) (d6_35 hby) (by decide) ?_
    refine oIcmpYes K119 54 (d6_38 hby) (XT.ii_gt_t f96) ?_
    refine oAload K119 56 (d6_54 hby) rfl rfl ?_
    exact oRetA K119 [] hret rfl rfl (d6_56 hby) (by decide) (by decide) hlk (fun x hx => by cases hx) (Or.inr ⟨t107, rfl, rfl, (f108.keep Kp117 nin0), (Nat.le_trans (Nat.le_trans E4.1 Kp16.1) f109)⟩)
abbrev y7 := jdk_52_method_15_code
theorem d7_0 : DC y7 0 (.iload_n 1) 1 := hb' (by decide +kernel)
theorem d7_1 : DC y7 1 (.aload_n 0) 1 := hb' (by decide +kernel)
theorem d7_2 : DC y7 2 (.arraylength) 1 := hb' (by decide +kernel)
theorem d7_3 : DC y7 3 (.isub) 1 := hb' (by decide +kernel)
theorem d7_4 : DC y7 4 (.bipush 31) 2 := hb' (by decide +kernel)
theorem d7_6 : DC y7 6 (.iushr) 1 := hb' (by decide +kernel)
theorem d7_7 : DC y7 7 (.i2b) 1 := hb' (by decide +kernel)
theorem d7_8 : DC y7 8 (.ireturn) 1 := hb' (by decide +kernel)
abbrev yn166 : MethodName := ⟨"java/lang/StringUTF16", "coderFromArrayLen", "([BI)B"⟩
theorem rmCdL1 (G : Gl Z a0 z0 fm) (t : Addr) (e0 : Int32) (h0 : Heap) (hZh : Ext Z.heap h0) (hsf : Own Z h0 []) (P0 : Ary Z h0 t .byte [(.int e0)]) :
    Ctr l Z ELs yn166 jdk_52_method_15_code 2 (some .byte) [] (rmk 0 0 0 0) #[(.ref t), (.int 1)] [] h0 (fun v h fs => (fs = [] ∧ v = some (.int 0))) := by
  obtain ⟨hw, hEL, wS, OS, hz0, OA, OH, OL, OF, rfm⟩ := id G
  refine Ctr.intro pn12 hEL hZh hsf ?_
  intro p e s m below meth c s₁ hby hml hret hnm hlk hh K0
  refine Owe.cast (ef94 m t ((1 : Int32))) ?_
  refine oIloadN K0 1 (d7_0 hby) rfl ?_
  refine oAloadN K0 2 (d7_1 hby) rfl rfl ?_
  refine oLen K0 3 P0 (n := (1 : Int32)) (by first | rfl | decide) (d7_2 hby) ?_
  refine oIsub K0 4 (d7_3 hby) ?_
  show Owe _ _ _ _ s₁ (mkF m 4 #[.val (.ref t), .val (.int 1)] [(.int 0)])
  refine oBipushV K0 6 (31 : Int32) (d7_4 hby) (by decide) ?_
  refine oIushr K0 7 (d7_6 hby) ?_
  show Owe _ _ _ _ s₁ (mkF m 7 #[.val (.ref t), .val (.int 1)] [(.int 0)])
  refine oI2b K0 8 (d7_7 hby) ?_
  exact oRetI K0 [] (t := .byte) hret (by simp) (by decide) (d7_8 hby) (by decide) (by decide) hlk (fun x hx => by cases hx) ⟨rfl, rfl⟩
theorem rmCdW1 (G : Gl Z a0 z0 fm) (t : Addr) (e0 e1 : Int32) (h0 : Heap) (hZh : Ext Z.heap h0) (hsf : Own Z h0 []) (P0 : Ary Z h0 t .byte [(.int e0), (.int e1)]) :
    Ctr l Z ELs yn166 jdk_52_method_15_code 2 (some .byte) [] (rmk 0 0 0 0) #[(.ref t), (.int 1)] [] h0 (fun v h fs => (fs = [] ∧ v = some (.int 1))) := by
  obtain ⟨hw, hEL, wS, OS, hz0, OA, OH, OL, OF, rfm⟩ := id G
  refine Ctr.intro pn12 hEL hZh hsf ?_
  intro p e s m below meth c s₁ hby hml hret hnm hlk hh K0
  refine Owe.cast (ef94 m t ((1 : Int32))) ?_
  refine oIloadN K0 1 (d7_0 hby) rfl ?_
  refine oAloadN K0 2 (d7_1 hby) rfl rfl ?_
  refine oLen K0 3 P0 (n := (2 : Int32)) (by first | rfl | decide) (d7_2 hby) ?_
  refine oIsub K0 4 (d7_3 hby) ?_
  show Owe _ _ _ _ s₁ (mkF m 4 #[.val (.ref t), .val (.int 1)] [(.int (-1))])
  refine oBipushV K0 6 (31 : Int32) (d7_4 hby) (by decide) ?_
  refine oIushr K0 7 (d7_6 hby) ?_
  show Owe _ _ _ _ s₁ (mkF m 7 #[.val (.ref t), .val (.int 1)] [(.int 1)])
  refine oI2b K0 8 (d7_7 hby) ?_
  exact oRetI K0 [] (t := .byte) hret (by simp) (by decide) (d7_8 hby) (by decide) (by decide) hlk (fun x hx => by cases hx) ⟨rfl, rfl⟩
theorem rmCdL2 (G : Gl Z a0 z0 fm) (t : Addr) (e0 e1 : Int32) (h0 : Heap) (hZh : Ext Z.heap h0) (hsf : Own Z h0 []) (P0 : Ary Z h0 t .byte [(.int e0), (.int e1)]) :
    Ctr l Z ELs yn166 jdk_52_method_15_code 2 (some .byte) [] (rmk 0 0 0 0) #[(.ref t), (.int 2)] [] h0 (fun v h fs => (fs = [] ∧ v = some (.int 0))) := by
  obtain ⟨hw, hEL, wS, OS, hz0, OA, OH, OL, OF, rfm⟩ := id G
  refine Ctr.intro pn12 hEL hZh hsf ?_
  intro p e s m below meth c s₁ hby hml hret hnm hlk hh K0
  refine Owe.cast (ef94 m t ((2 : Int32))) ?_
  refine oIloadN K0 1 (d7_0 hby) rfl ?_
  refine oAloadN K0 2 (d7_1 hby) rfl rfl ?_
  refine oLen K0 3 P0 (n := (2 : Int32)) (by first | rfl | decide) (d7_2 hby) ?_
  refine oIsub K0 4 (d7_3 hby) ?_
  show Owe _ _ _ _ s₁ (mkF m 4 #[.val (.ref t), .val (.int 2)] [(.int 0)])
  refine oBipushV K0 6 (31 : Int32) (d7_4 hby) (by decide) ?_
  refine oIushr K0 7 (d7_6 hby) ?_
  show Owe _ _ _ _ s₁ (mkF m 7 #[.val (.ref t), .val (.int 2)] [(.int 0)])
  refine oI2b K0 8 (d7_7 hby) ?_
  exact oRetI K0 [] (t := .byte) hret (by simp) (by decide) (d7_8 hby) (by decide) (by decide) hlk (fun x hx => by cases hx) ⟨rfl, rfl⟩
theorem rmCdW2 (G : Gl Z a0 z0 fm) (t : Addr) (e0 e1 e2 e3 : Int32) (h0 : Heap) (hZh : Ext Z.heap h0) (hsf : Own Z h0 []) (P0 : Ary Z h0 t .byte [(.int e0), (.int e1), (.int e2), (.int e3)]) :
    Ctr l Z ELs yn166 jdk_52_method_15_code 2 (some .byte) [] (rmk 0 0 0 0) #[(.ref t), (.int 2)] [] h0 (fun v h fs => (fs = [] ∧ v = some (.int 1))) := by
  obtain ⟨hw, hEL, wS, OS, hz0, OA, OH, OL, OF, rfm⟩ := id G
  refine Ctr.intro pn12 hEL hZh hsf ?_
  intro p e s m below meth c s₁ hby hml hret hnm hlk hh K0
  refine Owe.cast (ef94 m t ((2 : Int32))) ?_
  refine oIloadN K0 1 (d7_0 hby) rfl ?_
  refine oAloadN K0 2 (d7_1 hby) rfl rfl ?_
  refine oLen K0 3 P0 (n := (4 : Int32)) (by first | rfl | decide) (d7_2 hby) ?_
  refine oIsub K0 4 (d7_3 hby) ?_
  show Owe _ _ _ _ s₁ (mkF m 4 #[.val (.ref t), .val (.int 2)] [(.int (-2))])
  refine oBipushV K0 6 (31 : Int32) (d7_4 hby) (by decide) ?_
  refine oIushr K0 7 (d7_6 hby) ?_
  show Owe _ _ _ _ s₁ (mkF m 7 #[.val (.ref t), .val (.int 2)] [(.int 1)])
  refine oI2b K0 8 (d7_7 hby) ?_
  exact oRetI K0 [] (t := .byte) hret (by simp) (by decide) (d7_8 hby) (by decide) (by decide) hlk (fun x hx => by cases hx) ⟨rfl, rfl⟩
theorem rmCdL3 (G : Gl Z a0 z0 fm) (t : Addr) (e0 e1 e2 : Int32) (h0 : Heap) (hZh : Ext Z.heap h0) (hsf : Own Z h0 []) (P0 : Ary Z h0 t .byte [(.int e0), (.int e1), (.int e2)]) :
    Ctr l Z ELs yn166 jdk_52_method_15_code 2 (some .byte) [] (rmk 0 0 0 0) #[(.ref t), (.int 3)] [] h0 (fun v h fs => (fs = [] ∧ v = some (.int 0))) := by
  obtain ⟨hw, hEL, wS, OS, hz0, OA, OH, OL, OF, rfm⟩ := id G
  refine Ctr.intro pn12 hEL hZh hsf ?_
  intro p e s m below meth c s₁ hby hml hret hnm hlk hh K0
  refine Owe.cast (ef94 m t ((3 : Int32))) ?_
  refine oIloadN K0 1 (d7_0 hby) rfl ?_
  refine oAloadN K0 2 (d7_1 hby) rfl rfl ?_
  refine oLen K0 3 P0 (n := (3 : Int32)) (by first | rfl | decide) (d7_2 hby) ?_
  refine oIsub K0 4 (d7_3 hby) ?_
  show Owe _ _ _ _ s₁ (mkF m 4 #[.val (.ref t), .val (.int 3)] [(.int 0)])
  refine oBipushV K0 6 (31 : Int32) (d7_4 hby) (by decide) ?_
  refine oIushr K0 7 (d7_6 hby) ?_
  show Owe _ _ _ _ s₁ (mkF m 7 #[.val (.ref t), .val (.int 3)] [(.int 0)])
  refine oI2b K0 8 (d7_7 hby) ?_
  exact oRetI K0 [] (t := .byte) hret (by simp) (by decide) (d7_8 hby) (by decide) (by decide) hlk (fun x hx => by cases hx) ⟨rfl, rfl⟩
theorem rmCdW3 (G : Gl Z a0 z0 fm) (t : Addr) (e0 e1 e2 e3 e4 e5 : Int32) (h0 : Heap) (hZh : Ext Z.heap h0) (hsf : Own Z h0 []) (P0 : Ary Z h0 t .byte [(.int e0), (.int e1), (.int e2), (.int e3), (.int e4), (.int e5)]) :
    Ctr l Z ELs yn166 jdk_52_method_15_code 2 (some .byte) [] (rmk 0 0 0 0) #[(.ref t), (.int 3)] [] h0 (fun v h fs => (fs = [] ∧ v = some (.int 1))) := by
  obtain ⟨hw, hEL, wS, OS, hz0, OA, OH, OL, OF, rfm⟩ := id G
  refine Ctr.intro pn12 hEL hZh hsf ?_
  intro p e s m below meth c s₁ hby hml hret hnm hlk hh K0
  refine Owe.cast (ef94 m t ((3 : Int32))) ?_
  refine oIloadN K0 1 (d7_0 hby) rfl ?_
  refine oAloadN K0 2 (d7_1 hby) rfl rfl ?_
  refine oLen K0 3 P0 (n := (6 : Int32)) (by first | rfl | decide) (d7_2 hby) ?_
  refine oIsub K0 4 (d7_3 hby) ?_
  show Owe _ _ _ _ s₁ (mkF m 4 #[.val (.ref t), .val (.int 3)] [(.int (-3))])
  refine oBipushV K0 6 (31 : Int32) (d7_4 hby) (by decide) ?_
  refine oIushr K0 7 (d7_6 hby) ?_
  show Owe _ _ _ _ s₁ (mkF m 7 #[.val (.ref t), .val (.int 3)] [(.int 1)])
  refine oI2b K0 8 (d7_7 hby) ?_
  exact oRetI K0 [] (t := .byte) hret (by simp) (by decide) (d7_8 hby) (by decide) (by decide) hlk (fun x hx => by cases hx) ⟨rfl, rfl⟩
theorem rmCdL4 (G : Gl Z a0 z0 fm) (t : Addr) (e0 e1 e2 e3 : Int32) (h0 : Heap) (hZh : Ext Z.heap h0) (hsf : Own Z h0 []) (P0 : Ary Z h0 t .byte [(.int e0), (.int e1), (.int e2), (.int e3)]) :
    Ctr l Z ELs yn166 jdk_52_method_15_code 2 (some .byte) [] (rmk 0 0 0 0) #[(.ref t), (.int 4)] [] h0 (fun v h fs => (fs = [] ∧ v = some (.int 0))) := by
  obtain ⟨hw, hEL, wS, OS, hz0, OA, OH, OL, OF, rfm⟩ := id G
  refine Ctr.intro pn12 hEL hZh hsf ?_
  intro p e s m below meth c s₁ hby hml hret hnm hlk hh K0
  refine Owe.cast (ef94 m t ((4 : Int32))) ?_
  refine oIloadN K0 1 (d7_0 hby) rfl ?_
  refine oAloadN K0 2 (d7_1 hby) rfl rfl ?_
  refine oLen K0 3 P0 (n := (4 : Int32)) (by first | rfl | decide) (d7_2 hby) ?_
  refine oIsub K0 4 (d7_3 hby) ?_
  show Owe _ _ _ _ s₁ (mkF m 4 #[.val (.ref t), .val (.int 4)] [(.int 0)])
  refine oBipushV K0 6 (31 : Int32) (d7_4 hby) (by decide) ?_
  refine oIushr K0 7 (d7_6 hby) ?_
  show Owe _ _ _ _ s₁ (mkF m 7 #[.val (.ref t), .val (.int 4)] [(.int 0)])
  refine oI2b K0 8 (d7_7 hby) ?_
  exact oRetI K0 [] (t := .byte) hret (by simp) (by decide) (d7_8 hby) (by decide) (by decide) hlk (fun x hx => by cases hx) ⟨rfl, rfl⟩
theorem rmCdW4 (G : Gl Z a0 z0 fm) (t : Addr) (e0 e1 e2 e3 e4 e5 e6 e7 : Int32) (h0 : Heap) (hZh : Ext Z.heap h0) (hsf : Own Z h0 []) (P0 : Ary Z h0 t .byte [(.int e0), (.int e1), (.int e2), (.int e3), (.int e4), (.int e5), (.int e6), (.int e7)]) :
    Ctr l Z ELs yn166 jdk_52_method_15_code 2 (some .byte) [] (rmk 0 0 0 0) #[(.ref t), (.int 4)] [] h0 (fun v h fs => (fs = [] ∧ v = some (.int 1))) := by
  obtain ⟨hw, hEL, wS, OS, hz0, OA, OH, OL, OF, rfm⟩ := id G
  refine Ctr.intro pn12 hEL hZh hsf ?_
  intro p e s m below meth c s₁ hby hml hret hnm hlk hh K0
  refine Owe.cast (ef94 m t ((4 : Int32))) ?_
  refine oIloadN K0 1 (d7_0 hby) rfl ?_
  refine oAloadN K0 2 (d7_1 hby) rfl rfl ?_
  refine oLen K0 3 P0 (n := (8 : Int32)) (by first | rfl | decide) (d7_2 hby) ?_
  refine oIsub K0 4 (d7_3 hby) ?_
  show Owe _ _ _ _ s₁ (mkF m 4 #[.val (.ref t), .val (.int 4)] [(.int (-4))])
  refine oBipushV K0 6 (31 : Int32) (d7_4 hby) (by decide) ?_
  refine oIushr K0 7 (d7_6 hby) ?_
  show Owe _ _ _ _ s₁ (mkF m 7 #[.val (.ref t), .val (.int 4)] [(.int 1)])
  refine oI2b K0 8 (d7_7 hby) ?_
  exact oRetI K0 [] (t := .byte) hret (by simp) (by decide) (d7_8 hby) (by decide) (by decide) hlk (fun x hx => by cases hx) ⟨rfl, rfl⟩
abbrev y8 := jdk_42_method_149_code
theorem d8_0 : DC y8 0 (.aload_n 0) 1 := hb' (by decide +kernel)
theorem d8_1 : DC y8 1 (.invokespecial 1) 3 := hb' (by decide +kernel)
theorem d8_4 : DC y8 4 (.iload_n 3) 1 := hb' (by decide +kernel)
theorem d8_5 : DC y8 5 (.ifCond .ne 22) 3 := hb' (by decide +kernel)
theorem d8_8 : DC y8 8 (.aload_n 0) 1 := hb' (by decide +kernel)
theorem d8_9 : DC y8 9 (.ldc 7) 2 := hb' (by decide +kernel)
theorem d8_11 : DC y8 11 (.getfield 9) 3 := hb' (by decide +kernel)
theorem d8_14 : DC y8 14 (.putfield 9) 3 := hb' (by decide +kernel)
theorem d8_17 : DC y8 17 (.aload_n 0) 1 := hb' (by decide +kernel)
theorem d8_18 : DC y8 18 (.ldc 7) 2 := hb' (by decide +kernel)
theorem d8_20 : DC y8 20 (.getfield 15) 3 := hb' (by decide +kernel)
theorem d8_23 : DC y8 23 (.putfield 15) 3 := hb' (by decide +kernel)
theorem d8_26 : DC y8 26 (.return_) 1 := hb' (by decide +kernel)
theorem ef181 (m : MethodId) (x0 : Addr) (x1 : Addr) (x2 : Int32) (x3 : Int32) : entryFrame m #[(.ref x0), (.ref x1), (.int x2), (.int x3), .null] 6 = mkF m 0 #[.val (.ref x0), .val (.ref x1), .val (.int x2), .val (.int x3), .val .null, .unset] [] := by first | (simp [entryFrame, mkF, argsToLocals, Value.category]; done) | rfl
abbrev yn182 : MethodName := ⟨"java/lang/String", "<init>", "([CIILjava/lang/Void;)V"⟩
theorem pn183 : plainName "java/lang/String" = true := by first | (simp [plainName, overriddenIn]; done) | decide +kernel
theorem rmN4_0 (G : Gl Z a0 z0 fm) (x b : Addr) (h0 : Heap) (hZh : Ext Z.heap h0) (hsf : Own Z h0 [x]) (P0 : Exa Z h0 x "java/lang/String") (P1 : Fld Z h0 x "java/lang/String" "value" "[B" .null) (P2 : Fld Z h0 x "java/lang/String" "coder" "B" (.int 0)) :
    Ctr l Z ELs yn182 jdk_42_method_149_code 6 none [] (rmk 1 4 8 12) #[(.ref x), (.ref b), (.int 0), (.int 0), .null] [x] h0 (fun v h fs => (∃ t : Addr, fs = [] ∧ v = none ∧ Exa Z h x "java/lang/String" ∧ Fld Z h x "java/lang/String" "value" "[B" (.ref t) ∧ Fld Z h x "java/lang/String" "coder" "B" (.int 0) ∧ Ary Z h t .byte [])) := by
  obtain ⟨hw, hEL, wS, OS, hz0, OA, OH, OL, OF, rfm⟩ := id G
  refine Ctr.intro pn183 hEL hZh hsf ?_
  intro p e s m below meth c s₁ hby hml hret hnm hlk hh K0
  refine Owe.cast (ef181 m x b ((0 : Int32)) ((0 : Int32))) ?_
  refine oAloadN K0 1 (d8_0 hby) rfl rfl ?_
  refine oInitO K0 4 (wq hw 47) (wq hw 48) (wq hw 49) rfl (d8_1 hby) (by decide) (W := 0) nle (by decide) ?_
  intro T1 K2
  refine oIloadN K2 5 (d8_4 hby) rfl ?_
  refine oIfNo K2 8 (d8_5 hby) (XT.i0_ne_f (by decide)) ?_
  refine oAloadN K2 9 (d8_8 hby) rfl rfl ?_
  refine oLdcC K2 11 0 [] (wq hw 50) wS (by decide) (by decide) (by decide) (d8_9 hby) (by decide) (by decide) (by decide) (by decide) ?_
  intro T6 h3 a4 b8 K7 E5 f9 f10 f11 f12 f13
  have K14 := K7.to 2 4 [x]
  refine oGetF K14 14 (wq hw 25) f11 (d8_11 hby) ?_
  intro T15 K16
  refine oPutF K16 17 (by simp) (wq hw 25) (P1.ext E5) (P0.ext E5) (Or.inr ⟨(wq hw 9), rfl, hnm⟩) (wq hw 7) (ty := (.array .byte)) (by decide) rfl rfl (d8_14 hby) ?_
  intro T20 h17 lo19 K21 W18
  have F22 : Fld Z h17 x "java/lang/String" "value" "[B" (.ref b8) := Fld.same W18 (P1.ext E5)
  refine oAloadN K21 18 (d8_17 hby) rfl rfl ?_
  refine oLdcC K21 20 0 [] (wq hw 50) wS (by decide) (by decide) (by decide) (d8_18 hby) (by decide) (by decide) (by decide) (by decide) ?_
  intro T26 h23 a24 b28 K27 E25 f29 f30 f31 f32 f33
  have K34 := K27.to 4 8 [x]
  refine oGetF K34 23 (wq hw 24) f30 (d8_20 hby) ?_
  intro T35 K36
  have F37 := ((Fld.other W18 (P2.ext E5) (Or.inr (slot_ne (Or.inr (wq hw 10)) (Or.inr (wq hw 9)) (by decide) rfl rfl))).ext E25)
  refine oPutF K36 26 (by simp) (wq hw 24) F37 (((P0.ext E5).wr W18).ext E25) (Or.inr ⟨(wq hw 10), rfl, hnm⟩) (wq hw 7) (ty := .byte) (by decide) rfl rfl (d8_23 hby) ?_
  intro T41 h38 lo40 K42 W39
  have F43 : Fld Z h38 x "java/lang/String" "coder" "B" (.int 0) := Fld.same W39 F37
  have F44 := (Fld.other W39 (F22.ext E25) (Or.inr (slot_ne (Or.inr (wq hw 9)) (Or.inr (wq hw 10)) (by decide) rfl rfl)))
  have F45 := (Ary.other ((Ary.other f12 W18 (Ne.symm (f13 x (by simp)).2)).ext E25) W39 (Ne.symm (f13 x (by simp)).2))
  exact oRetV K42 [] hret (d8_26 hby) (by decide) (by decide) hlk (fun x hx => by cases hx) ⟨b8, rfl, rfl, ((((P0.ext E5).wr W18).ext E25).wr W39), F44, F43, F45⟩
theorem d8_27 : DC y8 27 (.getstatic 38) 3 := hb' (by decide +kernel)
theorem d8_30 : DC y8 30 (.ifCond .eq 28) 3 := hb' (by decide +kernel)
theorem d8_33 : DC y8 33 (.aload_n 1) 1 := hb' (by decide +kernel)
theorem d8_34 : DC y8 34 (.iload_n 2) 1 := hb' (by decide +kernel)
theorem d8_35 : DC y8 35 (.iload_n 3) 1 := hb' (by decide +kernel)
theorem d8_36 : DC y8 36 (.invokestatic 177) 3 := hb' (by decide +kernel)
theorem d8_39 : DC y8 39 (.astore 5) 2 := hb' (by decide +kernel)
theorem d8_41 : DC y8 41 (.aload_n 0) 1 := hb' (by decide +kernel)
theorem d8_42 : DC y8 42 (.aload 5) 2 := hb' (by decide +kernel)
theorem d8_44 : DC y8 44 (.iload_n 3) 1 := hb' (by decide +kernel)
theorem d8_45 : DC y8 45 (.invokestatic 47) 3 := hb' (by decide +kernel)
theorem pd195 : parseMethodDescriptor "([BI)B" = some ⟨[(.array .byte), .int], some .byte⟩ := by decide +kernel
theorem d8_48 : DC y8 48 (.putfield 15) 3 := hb' (by decide +kernel)
theorem d8_51 : DC y8 51 (.aload_n 0) 1 := hb' (by decide +kernel)
theorem d8_52 : DC y8 52 (.aload 5) 2 := hb' (by decide +kernel)
theorem d8_54 : DC y8 54 (.putfield 9) 3 := hb' (by decide +kernel)
theorem d8_57 : DC y8 57 (.return_) 1 := hb' (by decide +kernel)
theorem rmN4_1 (G : Gl Z a0 z0 fm) (x b : Addr) (c0 : Int32) (h0 : Heap) (hZh : Ext Z.heap h0) (hsf : Own Z h0 [x]) (P0 : Exa Z h0 x "java/lang/String") (P1 : Fld Z h0 x "java/lang/String" "value" "[B" .null) (P2 : Fld Z h0 x "java/lang/String" "coder" "B" (.int 0)) (P3 : Ary Z h0 b .char [(.int c0)]) (P4 : x ≠ b) (P5 : ¬ c0 < (0 : Int32)) (P6 : ¬ (65535 : Int32) < c0) :
    Ctr l Z ELs yn182 jdk_42_method_149_code 6 none [] (rmk 4 2 3 57) #[(.ref x), (.ref b), (.int 0), (.int 1), .null] [x] h0 (fun v h fs => (∃ t : Addr, fs = [] ∧ v = none ∧ Exa Z h x "java/lang/String" ∧ Fld Z h x "java/lang/String" "value" "[B" (.ref t) ∧ Fld Z h x "java/lang/String" "coder" "B" (.int 0) ∧ Ary Z h t .byte [(.int (byt c0))] ∧ x ≠ t ∧ ¬ (255 : Int32) < c0) ∨ (∃ t : Addr, fs = [] ∧ v = none ∧ Exa Z h x "java/lang/String" ∧ Fld Z h x "java/lang/String" "value" "[B" (.ref t) ∧ Fld Z h x "java/lang/String" "coder" "B" (.int 1) ∧ Ary Z h t .byte [(.int (byt (c0 >>> ((0 : Int32) &&& 31)))), (.int (byt (c0 >>> ((8 : Int32) &&& 31))))] ∧ x ≠ t)) := by
  obtain ⟨hw, hEL, wS, OS, hz0, OA, OH, OL, OF, rfm⟩ := id G
  refine Ctr.intro pn183 hEL hZh hsf ?_
  intro p e s m below meth c s₁ hby hml hret hnm hlk hh K0
  refine Owe.cast (ef181 m x b ((0 : Int32)) ((1 : Int32))) ?_
  refine oAloadN K0 1 (d8_0 hby) rfl rfl ?_
  refine oInitO K0 4 (wq hw 47) (wq hw 48) (wq hw 49) rfl (d8_1 hby) (by decide) (W := 0) nle (by decide) ?_
  intro T1 K2
  refine oIloadN K2 5 (d8_4 hby) rfl ?_
  refine oIfYes K2 27 (d8_5 hby) (XT.i0_ne_t (by decide)) ?_
  refine oGetS K2 30 (wq hw 23) (OS.ext K2.old) (d8_27 hby) ?_
  intro T3 K4
  refine oIfNo K4 33 (d8_30 hby) (XT.i0_eq_f hz0) ?_
  refine oAloadN K4 34 (d8_33 hby) rfl rfl ?_
  refine oIloadN K4 35 (d8_34 hby) rfl ?_
  refine oIloadN K4 36 (d8_35 hby) rfl ?_
  refine oStatic K4 39 0 (wq hw 83) (wq hw 84) (wq hw 85) (wq hw 86) (rmCmp3_1 l Z a0 z0 fm G b c0 h0 K4.old K4.both P3 P5 P6) [(.ref b), (.int 0), (.int 1)] [] (lenOf pd145 rfl) (d8_36 hby) ?_
  intro T5 h7 v8 lo9 fs10 K6 Kp11 q12
  rcases q12 with qq12_0 | qq12_1
  · obtain ⟨t13, rfl, rfl, f14, f15, f16⟩ := qq12_0
    have K17 := K6.to 2 3 [x]
    refine Owe.stk [(.ref t13)] ?_
    refine oAstore K17 41 (d8_39 hby) rfl (l' := #[.val (.ref x), .val (.ref b), .val (.int 0), .val (.int 1), .val .null, .val (.ref t13)]) rfl ?_
    refine oAloadN K17 42 (d8_41 hby) rfl rfl ?_
    refine oAload K17 44 (d8_42 hby) rfl rfl ?_
    refine oIloadN K17 45 (d8_44 hby) rfl ?_
    refine oStatic K17 48 1 (wq hw 90) (wq hw 91) (wq hw 85) (wq hw 92) (rmCdL1 l Z a0 z0 fm G t13 ((byt c0)) h7 K17.old K17.both f14) [(.ref t13), (.int 1)] [(.ref x)] (lenOf pd195 rfl) (d8_45 hby) ?_
    intro T18 h20 v21 lo22 fs23 K19 Kp24 q25
    obtain ⟨rfl, rfl⟩ := q25
    have K26 := K19.to 2 3 [x]
    refine Owe.stk [(.int 0), (.ref x)] ?_
    refine oPutF K26 51 (by simp) (wq hw 24) ((P2.keep Kp11 nin0).keep Kp24 nin0) ((P0.keep Kp11).keep Kp24) (Or.inr ⟨(wq hw 10), rfl, hnm⟩) (wq hw 7) (ty := .byte) (by decide) rfl rfl (d8_48 hby) ?_
    intro T30 h27 lo29 K31 W28
    have F32 : Fld Z h27 x "java/lang/String" "coder" "B" (.int 0) := Fld.same W28 ((P2.keep Kp11 nin0).keep Kp24 nin0)
    refine oAloadN K31 52 (d8_51 hby) rfl rfl ?_
    refine oAload K31 54 (d8_52 hby) rfl rfl ?_
    have F33 := (Fld.other W28 ((P1.keep Kp11 nin0).keep Kp24 nin0) (Or.inr (slot_ne (Or.inr (wq hw 9)) (Or.inr (wq hw 10)) (by decide) rfl rfl)))
    refine oPutF K31 57 (by simp) (wq hw 25) F33 (((P0.keep Kp11).keep Kp24).wr W28) (Or.inr ⟨(wq hw 9), rfl, hnm⟩) (wq hw 7) (ty := (.array .byte)) (by decide) rfl rfl (d8_54 hby) ?_
    intro T37 h34 lo36 K38 W35
    have F39 : Fld Z h34 x "java/lang/String" "value" "[B" (.ref t13) := Fld.same W35 F33
    have F40 := (Fld.other W35 F32 (Or.inr (slot_ne (Or.inr (wq hw 10)) (Or.inr (wq hw 9)) (by decide) rfl rfl)))
    have F41 := (Ary.other (Ary.other (f14.keep Kp24 nin0) W28 (Nat.ne_of_gt (Nat.lt_of_lt_of_le (hsf x (by simp)).1 f15))) W35 (Nat.ne_of_gt (Nat.lt_of_lt_of_le (hsf x (by simp)).1 f15)))
    exact oRetV K38 [] hret (d8_57 hby) (by decide) (by decide) hlk (fun x hx => by cases hx) (Or.inl ⟨t13, rfl, rfl, ((((P0.keep Kp11).keep Kp24).wr W28).wr W35), F39, F40, F41, (Nat.ne_of_lt (Nat.lt_of_lt_of_le (hsf x (by simp)).1 f15)), f16⟩)
  · obtain ⟨t42, rfl, rfl, f43, f44⟩ := qq12_1
    have K45 := K6.to 2 3 [x]
    refine Owe.stk [(.ref t42)] ?_
    refine oAstore K45 41 (d8_39 hby) rfl (l' := #[.val (.ref x), .val (.ref b), .val (.int 0), .val (.int 1), .val .null, .val (.ref t42)]) rfl ?_
    refine oAloadN K45 42 (d8_41 hby) rfl rfl ?_
    refine oAload K45 44 (d8_42 hby) rfl rfl ?_
    refine oIloadN K45 45 (d8_44 hby) rfl ?_
    refine oStatic K45 48 1 (wq hw 90) (wq hw 91) (wq hw 85) (wq hw 92) (rmCdW1 l Z a0 z0 fm G t42 ((byt (c0 >>> ((0 : Int32) &&& 31)))) ((byt (c0 >>> ((8 : Int32) &&& 31)))) h7 K45.old K45.both f43) [(.ref t42), (.int 1)] [(.ref x)] (lenOf pd195 rfl) (d8_45 hby) ?_
    intro T46 h48 v49 lo50 fs51 K47 Kp52 q53
    obtain ⟨rfl, rfl⟩ := q53
    have K54 := K47.to 2 3 [x]
    refine Owe.stk [(.int 1), (.ref x)] ?_
    refine oPutF K54 51 (by simp) (wq hw 24) ((P2.keep Kp11 nin0).keep Kp52 nin0) ((P0.keep Kp11).keep Kp52) (Or.inr ⟨(wq hw 10), rfl, hnm⟩) (wq hw 7) (ty := .byte) (by decide) rfl rfl (d8_48 hby) ?_
    intro T58 h55 lo57 K59 W56
    have F60 : Fld Z h55 x "java/lang/String" "coder" "B" (.int 1) := Fld.same W56 ((P2.keep Kp11 nin0).keep Kp52 nin0)
    refine oAloadN K59 52 (d8_51 hby) rfl rfl ?_
    refine oAload K59 54 (d8_52 hby) rfl rfl ?_
    have F61 := (Fld.other W56 ((P1.keep Kp11 nin0).keep Kp52 nin0) (Or.inr (slot_ne (Or.inr (wq hw 9)) (Or.inr (wq hw 10)) (by decide) rfl rfl)))
    refine oPutF K59 57 (by simp) (wq hw 25) F61 (((P0.keep Kp11).keep Kp52).wr W56) (Or.inr ⟨(wq hw 9), rfl, hnm⟩) (wq hw 7) (ty := (.array .byte)) (by decide) rfl rfl (d8_54 hby) ?_
    intro T65 h62 lo64 K66 W63
    have F67 : Fld Z h62 x "java/lang/String" "value" "[B" (.ref t42) := Fld.same W63 F61
    have F68 := (Fld.other W63 F60 (Or.inr (slot_ne (Or.inr (wq hw 10)) (Or.inr (wq hw 9)) (by decide) rfl rfl)))
    have F69 := (Ary.other (Ary.other (f43.keep Kp52 nin0) W56 (Nat.ne_of_gt (Nat.lt_of_lt_of_le (hsf x (by simp)).1 f44))) W63 (Nat.ne_of_gt (Nat.lt_of_lt_of_le (hsf x (by simp)).1 f44)))
    exact oRetV K66 [] hret (d8_57 hby) (by decide) (by decide) hlk (fun x hx => by cases hx) (Or.inr ⟨t42, rfl, rfl, ((((P0.keep Kp11).keep Kp52).wr W56).wr W63), F67, F68, F69, (Nat.ne_of_lt (Nat.lt_of_lt_of_le (hsf x (by simp)).1 f44))⟩)
theorem rmN4_2 (G : Gl Z a0 z0 fm) (x b : Addr) (c0 c1 : Int32) (h0 : Heap) (hZh : Ext Z.heap h0) (hsf : Own Z h0 [x]) (P0 : Exa Z h0 x "java/lang/String") (P1 : Fld Z h0 x "java/lang/String" "value" "[B" .null) (P2 : Fld Z h0 x "java/lang/String" "coder" "B" (.int 0)) (P3 : Ary Z h0 b .char [(.int c0), (.int c1)]) (P4 : x ≠ b) (P5 : ¬ c0 < (0 : Int32)) (P6 : ¬ (65535 : Int32) < c0) (P7 : ¬ c1 < (0 : Int32)) (P8 : ¬ (65535 : Int32) < c1) :
    Ctr l Z ELs yn182 jdk_42_method_149_code 6 none [] (rmk 4 2 6 57) #[(.ref x), (.ref b), (.int 0), (.int 2), .null] [x] h0 (fun v h fs => (∃ t : Addr, fs = [] ∧ v = none ∧ Exa Z h x "java/lang/String" ∧ Fld Z h x "java/lang/String" "value" "[B" (.ref t) ∧ Fld Z h x "java/lang/String" "coder" "B" (.int 0) ∧ Ary Z h t .byte [(.int (byt c0)), (.int (byt c1))] ∧ x ≠ t ∧ ¬ (255 : Int32) < c0 ∧ ¬ (255 : Int32) < c1) ∨ (∃ t : Addr, fs = [] ∧ v = none ∧ Exa Z h x "java/lang/String" ∧ Fld Z h x "java/lang/String" "value" "[B" (.ref t) ∧ Fld Z h x "java/lang/String" "coder" "B" (.int 1) ∧ Ary Z h t .byte [(.int (byt (c0 >>> ((0 : Int32) &&& 31)))), (.int (byt (c0 >>> ((8 : Int32) &&& 31)))), (.int (byt (c1 >>> ((0 : Int32) &&& 31)))), (.int (byt (c1 >>> ((8 : Int32) &&& 31))))] ∧ x ≠ t)) := by
  obtain ⟨hw, hEL, wS, OS, hz0, OA, OH, OL, OF, rfm⟩ := id G
  refine Ctr.intro pn183 hEL hZh hsf ?_
  intro p e s m below meth c s₁ hby hml hret hnm hlk hh K0
  refine Owe.cast (ef181 m x b ((0 : Int32)) ((2 : Int32))) ?_
  refine oAloadN K0 1 (d8_0 hby) rfl rfl ?_
  refine oInitO K0 4 (wq hw 47) (wq hw 48) (wq hw 49) rfl (d8_1 hby) (by decide) (W := 0) nle (by decide) ?_
  intro T1 K2
  refine oIloadN K2 5 (d8_4 hby) rfl ?_
  refine oIfYes K2 27 (d8_5 hby) (XT.i0_ne_t (by decide)) ?_
  refine oGetS K2 30 (wq hw 23) (OS.ext K2.old) (d8_27 hby) ?_
  intro T3 K4
  refine oIfNo K4 33 (d8_30 hby) (XT.i0_eq_f hz0) ?_
  refine oAloadN K4 34 (d8_33 hby) rfl rfl ?_
  refine oIloadN K4 35 (d8_34 hby) rfl ?_
  refine oIloadN K4 36 (d8_35 hby) rfl ?_
  refine oStatic K4 39 0 (wq hw 83) (wq hw 84) (wq hw 85) (wq hw 86) (rmCmp3_2 l Z a0 z0 fm G b c0 c1 h0 K4.old K4.both P3 P5 P6 P7 P8) [(.ref b), (.int 0), (.int 2)] [] (lenOf pd145 rfl) (d8_36 hby) ?_
  intro T5 h7 v8 lo9 fs10 K6 Kp11 q12
  rcases q12 with qq12_0 | qq12_1
  · obtain ⟨t13, rfl, rfl, f14, f15, f16, f17⟩ := qq12_0
    have K18 := K6.to 2 6 [x]
    refine Owe.stk [(.ref t13)] ?_
    refine oAstore K18 41 (d8_39 hby) rfl (l' := #[.val (.ref x), .val (.ref b), .val (.int 0), .val (.int 2), .val .null, .val (.ref t13)]) rfl ?_
    refine oAloadN K18 42 (d8_41 hby) rfl rfl ?_
    refine oAload K18 44 (d8_42 hby) rfl rfl ?_
    refine oIloadN K18 45 (d8_44 hby) rfl ?_
    refine oStatic K18 48 1 (wq hw 90) (wq hw 91) (wq hw 85) (wq hw 92) (rmCdL2 l Z a0 z0 fm G t13 ((byt c0)) ((byt c1)) h7 K18.old K18.both f14) [(.ref t13), (.int 2)] [(.ref x)] (lenOf pd195 rfl) (d8_45 hby) ?_
    intro T19 h21 v22 lo23 fs24 K20 Kp25 q26
    obtain ⟨rfl, rfl⟩ := q26
    have K27 := K20.to 2 6 [x]
    refine Owe.stk [(.int 0), (.ref x)] ?_
    refine oPutF K27 51 (by simp) (wq hw 24) ((P2.keep Kp11 nin0).keep Kp25 nin0) ((P0.keep Kp11).keep Kp25) (Or.inr ⟨(wq hw 10), rfl, hnm⟩) (wq hw 7) (ty := .byte) (by decide) rfl rfl (d8_48 hby) ?_
    intro T31 h28 lo30 K32 W29
    have F33 : Fld Z h28 x "java/lang/String" "coder" "B" (.int 0) := Fld.same W29 ((P2.keep Kp11 nin0).keep Kp25 nin0)
    refine oAloadN K32 52 (d8_51 hby) rfl rfl ?_
    refine oAload K32 54 (d8_52 hby) rfl rfl ?_
    have F34 := (Fld.other W29 ((P1.keep Kp11 nin0).keep Kp25 nin0) (Or.inr (slot_ne (Or.inr (wq hw 9)) (Or.inr (wq hw 10)) (by decide) rfl rfl)))
    refine oPutF K32 57 (by simp) (wq hw 25) F34 (((P0.keep Kp11).keep Kp25).wr W29) (Or.inr ⟨(wq hw 9), rfl, hnm⟩) (wq hw 7) (ty := (.array .byte)) (by decide) rfl rfl (d8_54 hby) ?_
    intro T38 h35 lo37 K39 W36
    have F40 : Fld Z h35 x "java/lang/String" "value" "[B" (.ref t13) := Fld.same W36 F34
    have F41 := (Fld.other W36 F33 (Or.inr (slot_ne (Or.inr (wq hw 10)) (Or.inr (wq hw 9)) (by decide) rfl rfl)))
    have F42 := (Ary.other (Ary.other (f14.keep Kp25 nin0) W29 (Nat.ne_of_gt (Nat.lt_of_lt_of_le (hsf x (by simp)).1 f15))) W36 (Nat.ne_of_gt (Nat.lt_of_lt_of_le (hsf x (by simp)).1 f15)))
    exact oRetV K39 [] hret (d8_57 hby) (by decide) (by decide) hlk (fun x hx => by cases hx) (Or.inl ⟨t13, rfl, rfl, ((((P0.keep Kp11).keep Kp25).wr W29).wr W36), F40, F41, F42, (Nat.ne_of_lt (Nat.lt_of_lt_of_le (hsf x (by simp)).1 f15)), f16, f17⟩)
  · obtain ⟨t43, rfl, rfl, f44, f45⟩ := qq12_1
    have K46 := K6.to 2 6 [x]
    refine Owe.stk [(.ref t43)] ?_
    refine oAstore K46 41 (d8_39 hby) rfl (l' := #[.val (.ref x), .val (.ref b), .val (.int 0), .val (.int 2), .val .null, .val (.ref t43)]) rfl ?_
    refine oAloadN K46 42 (d8_41 hby) rfl rfl ?_
    refine oAload K46 44 (d8_42 hby) rfl rfl ?_
    refine oIloadN K46 45 (d8_44 hby) rfl ?_
    refine oStatic K46 48 1 (wq hw 90) (wq hw 91) (wq hw 85) (wq hw 92) (rmCdW2 l Z a0 z0 fm G t43 ((byt (c0 >>> ((0 : Int32) &&& 31)))) ((byt (c0 >>> ((8 : Int32) &&& 31)))) ((byt (c1 >>> ((0 : Int32) &&& 31)))) ((byt (c1 >>> ((8 : Int32) &&& 31)))) h7 K46.old K46.both f44) [(.ref t43), (.int 2)] [(.ref x)] (lenOf pd195 rfl) (d8_45 hby) ?_
    intro T47 h49 v50 lo51 fs52 K48 Kp53 q54
    obtain ⟨rfl, rfl⟩ := q54
    have K55 := K48.to 2 6 [x]
    refine Owe.stk [(.int 1), (.ref x)] ?_
    refine oPutF K55 51 (by simp) (wq hw 24) ((P2.keep Kp11 nin0).keep Kp53 nin0) ((P0.keep Kp11).keep Kp53) (Or.inr ⟨(wq hw 10), rfl, hnm⟩) (wq hw 7) (ty := .byte) (by decide) rfl rfl (d8_48 hby) ?_
    intro T59 h56 lo58 K60 W57
    have F61 : Fld Z h56 x "java/lang/String" "coder" "B" (.int 1) := Fld.same W57 ((P2.keep Kp11 nin0).keep Kp53 nin0)
    refine oAloadN K60 52 (d8_51 hby) rfl rfl ?_
    refine oAload K60 54 (d8_52 hby) rfl rfl ?_
    have F62 := (Fld.other W57 ((P1.keep Kp11 nin0).keep Kp53 nin0) (Or.inr (slot_ne (Or.inr (wq hw 9)) (Or.inr (wq hw 10)) (by decide) rfl rfl)))
    refine oPutF K60 57 (by simp) (wq hw 25) F62 (((P0.keep Kp11).keep Kp53).wr W57) (Or.inr ⟨(wq hw 9), rfl, hnm⟩) (wq hw 7) (ty := (.array .byte)) (by decide) rfl rfl (d8_54 hby) ?_
    intro T66 h63 lo65 K67 W64
    have F68 : Fld Z h63 x "java/lang/String" "value" "[B" (.ref t43) := Fld.same W64 F62
    have F69 := (Fld.other W64 F61 (Or.inr (slot_ne (Or.inr (wq hw 10)) (Or.inr (wq hw 9)) (by decide) rfl rfl)))
    have F70 := (Ary.other (Ary.other (f44.keep Kp53 nin0) W57 (Nat.ne_of_gt (Nat.lt_of_lt_of_le (hsf x (by simp)).1 f45))) W64 (Nat.ne_of_gt (Nat.lt_of_lt_of_le (hsf x (by simp)).1 f45)))
    exact oRetV K67 [] hret (d8_57 hby) (by decide) (by decide) hlk (fun x hx => by cases hx) (Or.inr ⟨t43, rfl, rfl, ((((P0.keep Kp11).keep Kp53).wr W57).wr W64), F68, F69, F70, (Nat.ne_of_lt (Nat.lt_of_lt_of_le (hsf x (by simp)).1 f45))⟩)
theorem rmN4_3 (G : Gl Z a0 z0 fm) (x b : Addr) (c0 c1 c2 : Int32) (h0 : Heap) (hZh : Ext Z.heap h0) (hsf : Own Z h0 [x]) (P0 : Exa Z h0 x "java/lang/String") (P1 : Fld Z h0 x "java/lang/String" "value" "[B" .null) (P2 : Fld Z h0 x "java/lang/String" "coder" "B" (.int 0)) (P3 : Ary Z h0 b .char [(.int c0), (.int c1), (.int c2)]) (P4 : x ≠ b) (P5 : ¬ c0 < (0 : Int32)) (P6 : ¬ (65535 : Int32) < c0) (P7 : ¬ c1 < (0 : Int32)) (P8 : ¬ (65535 : Int32) < c1) (P9 : ¬ c2 < (0 : Int32)) (P10 : ¬ (65535 : Int32) < c2) :
    Ctr l Z ELs yn182 jdk_42_method_149_code 6 none [] (rmk 4 2 9 57) #[(.ref x), (.ref b), (.int 0), (.int 3), .null] [x] h0 (fun v h fs => (∃ t : Addr, fs = [] ∧ v = none ∧ Exa Z h x "java/lang/String" ∧ Fld Z h x "java/lang/String" "value" "[B" (.ref t) ∧ Fld Z h x "java/lang/String" "coder" "B" (.int 0) ∧ Ary Z h t .byte [(.int (byt c0)), (.int (byt c1)), (.int (byt c2))] ∧ x ≠ t ∧ ¬ (255 : Int32) < c0 ∧ ¬ (255 : Int32) < c1 ∧ ¬ (255 : Int32) < c2) ∨ (∃ t : Addr, fs = [] ∧ v = none ∧ Exa Z h x "java/lang/String" ∧ Fld Z h x "java/lang/String" "value" "[B" (.ref t) ∧ Fld Z h x "java/lang/String" "coder" "B" (.int 1) ∧ Ary Z h t .byte [(.int (byt (c0 >>> ((0 : Int32) &&& 31)))), (.int (byt (c0 >>> ((8 : Int32) &&& 31)))), (.int (byt (c1 >>> ((0 : Int32) &&& 31)))), (.int (byt (c1 >>> ((8 : Int32) &&& 31)))), (.int (byt (c2 >>> ((0 : Int32) &&& 31)))), (.int (byt (c2 >>> ((8 : Int32) &&& 31))))] ∧ x ≠ t)) := by
  obtain ⟨hw, hEL, wS, OS, hz0, OA, OH, OL, OF, rfm⟩ := id G
  refine Ctr.intro pn183 hEL hZh hsf ?_
  intro p e s m below meth c s₁ hby hml hret hnm hlk hh K0
  refine Owe.cast (ef181 m x b ((0 : Int32)) ((3 : Int32))) ?_
  refine oAloadN K0 1 (d8_0 hby) rfl rfl ?_
  refine oInitO K0 4 (wq hw 47) (wq hw 48) (wq hw 49) rfl (d8_1 hby) (by decide) (W := 0) nle (by decide) ?_
  intro T1 K2
  refine oIloadN K2 5 (d8_4 hby) rfl ?_
  refine oIfYes K2 27 (d8_5 hby) (XT.i0_ne_t (by decide)) ?_
  refine oGetS K2 30 (wq hw 23) (OS.ext K2.old) (d8_27 hby) ?_
  intro T3 K4
  refine oIfNo K4 33 (d8_30 hby) (XT.i0_eq_f hz0) ?_
  refine oAloadN K4 34 (d8_33 hby) rfl rfl ?_
  refine oIloadN K4 35 (d8_34 hby) rfl ?_
  refine oIloadN K4 36 (d8_35 hby) rfl ?_
  refine oStatic K4 39 0 (wq hw 83) (wq hw 84) (wq hw 85) (wq hw 86) (rmCmp3_3 l Z a0 z0 fm G b c0 c1 c2 h0 K4.old K4.both P3 P5 P6 P7 P8 P9 P10) [(.ref b), (.int 0), (.int 3)] [] (lenOf pd145 rfl) (d8_36 hby) ?_
  intro T5 h7 v8 lo9 fs10 K6 Kp11 q12
  rcases q12 with qq12_0 | qq12_1
  · obtain ⟨t13, rfl, rfl, f14, f15, f16, f17, f18⟩ := qq12_0
    have K19 := K6.to 2 9 [x]
    refine Owe.stk [(.ref t13)] ?_
    refine oAstore K19 41 (d8_39 hby) rfl (l' := #[.val (.ref x), .val (.ref b), .val (.int 0), .val (.int 3), .val .null, .val (.ref t13)]) rfl ?_
    refine oAloadN K19 42 (d8_41 hby) rfl rfl ?_
    refine oAload K19 44 (d8_42 hby) rfl rfl ?_
    refine oIloadN K19 45 (d8_44 hby) rfl ?_
    refine oStatic K19 48 1 (wq hw 90) (wq hw 91) (wq hw 85) (wq hw 92) (rmCdL3 l Z a0 z0 fm G t13 ((byt c0)) ((byt c1)) ((byt c2)) h7 K19.old K19.both f14) [(.ref t13), (.int 3)] [(.ref x)] (lenOf pd195 rfl) (d8_45 hby) ?_
    intro T20 h22 v23 lo24 fs25 K21 Kp26 q27
    obtain ⟨rfl, rfl⟩ := q27
    have K28 := K21.to 2 9 [x]
    refine Owe.stk [(.int 0), (.ref x)] ?_
    refine oPutF K28 51 (by simp) (wq hw 24) ((P2.keep Kp11 nin0).keep Kp26 nin0) ((P0.keep Kp11).keep Kp26) (Or.inr ⟨(wq hw 10), rfl, hnm⟩) (wq hw 7) (ty := .byte) (by decide) rfl rfl (d8_48 hby) ?_
    intro T32 h29 lo31 K33 W30
    have F34 : Fld Z h29 x "java/lang/String" "coder" "B" (.int 0) := Fld.same W30 ((P2.keep Kp11 nin0).keep Kp26 nin0)
    refine oAloadN K33 52 (d8_51 hby) rfl rfl ?_
    refine oAload K33 54 (d8_52 hby) rfl rfl ?_
    have F35 := (Fld.other W30 ((P1.keep Kp11 nin0).keep Kp26 nin0) (Or.inr (slot_ne (Or.inr (wq hw 9)) (Or.inr (wq hw 10)) (by decide) rfl rfl)))
    refine oPutF K33 57 (by simp) (wq hw 25) F35 (((P0.keep Kp11).keep Kp26).wr W30) (Or.inr ⟨(wq hw 9), rfl, hnm⟩) (wq hw 7) (ty := (.array .byte)) (by decide) rfl rfl (d8_54 hby) ?_
    intro T39 h36 lo38 K40 W37
    have F41 : Fld Z h36 x "java/lang/String" "value" "[B" (.ref t13) := Fld.same W37 F35
    have F42 := (Fld.other W37 F34 (Or.inr (slot_ne (Or.inr (wq hw 10)) (Or.inr (wq hw 9)) (by decide) rfl rfl)))
    have F43 := (Ary.other (Ary.other (f14.keep Kp26 nin0) W30 (Nat.ne_of_gt (Nat.lt_of_lt_of_le (hsf x (by simp)).1 f15))) W37 (Nat.ne_of_gt (Nat.lt_of_lt_of_le (hsf x (by simp)).1 f15)))
    exact oRetV K40 [] hret (d8_57 hby) (by decide) (by decide) hlk (fun x hx => by cases hx) (Or.inl ⟨t13, rfl, rfl, ((((P0.keep Kp11).keep Kp26).wr W30).wr W37), F41, F42, F43, (Nat.ne_of_lt (Nat.lt_of_lt_of_le (hsf x (by simp)).1 f15)), f16, f17, f18⟩)
  · obtain ⟨t44, rfl, rfl, f45, f46⟩ := qq12_1
    have K47 := K6.to 2 9 [x]
    refine Owe.stk [(.ref t44)] ?_
    refine oAstore K47 41 (d8_39 hby) rfl (l' := #[.val (.ref x), .val (.ref b), .val (.int 0), .val (.int 3), .val .null, .val (.ref t44)]) rfl ?_
    refine oAloadN K47 42 (d8_41 hby) rfl rfl ?_
    refine oAload K47 44 (d8_42 hby) rfl rfl ?_
    refine oIloadN K47 45 (d8_44 hby) rfl ?_
    refine oStatic K47 48 1 (wq hw 90) (wq hw 91) (wq hw 85) (wq hw 92) (rmCdW3 l Z a0 z0 fm G t44 ((byt (c0 >>> ((0 : Int32) &&& 31)))) ((byt (c0 >>> ((8 : Int32) &&& 31)))) ((byt (c1 >>> ((0 : Int32) &&& 31)))) ((byt (c1 >>> ((8 : Int32) &&& 31)))) ((byt (c2 >>> ((0 : Int32) &&& 31)))) ((byt (c2 >>> ((8 : Int32) &&& 31)))) h7 K47.old K47.both f45) [(.ref t44), (.int 3)] [(.ref x)] (lenOf pd195 rfl) (d8_45 hby) ?_
    intro T48 h50 v51 lo52 fs53 K49 Kp54 q55
    obtain ⟨rfl, rfl⟩ := q55
    have K56 := K49.to 2 9 [x]
    refine Owe.stk [(.int 1), (.ref x)] ?_
    refine oPutF K56 51 (by simp) (wq hw 24) ((P2.keep Kp11 nin0).keep Kp54 nin0) ((P0.keep Kp11).keep Kp54) (Or.inr ⟨(wq hw 10), rfl, hnm⟩) (wq hw 7) (ty := .byte) (by decide) rfl rfl (d8_48 hby) ?_
    intro T60 h57 lo59 K61 W58
    have F62 : Fld Z h57 x "java/lang/String" "coder" "B" (.int 1) := Fld.same W58 ((P2.keep Kp11 nin0).keep Kp54 nin0)
    refine oAloadN K61 52 (d8_51 hby) rfl rfl ?_
    refine oAload K61 54 (d8_52 hby) rfl rfl ?_
    have F63 := (Fld.other W58 ((P1.keep Kp11 nin0).keep Kp54 nin0) (Or.inr (slot_ne (Or.inr (wq hw 9)) (Or.inr (wq hw 10)) (by decide) rfl rfl)))
    refine oPutF K61 57 (by simp) (wq hw 25) F63 (((P0.keep Kp11).keep Kp54).wr W58) (Or.inr ⟨(wq hw 9), rfl, hnm⟩) (wq hw 7) (ty := (.array .byte)) (by decide) rfl rfl (d8_54 hby) ?_
    intro T67 h64 lo66 K68 W65
    have F69 : Fld Z h64 x "java/lang/String" "value" "[B" (.ref t44) := Fld.same W65 F63
    have F70 := (Fld.other W65 F62 (Or.inr (slot_ne (Or.inr (wq hw 10)) (Or.inr (wq hw 9)) (by decide) rfl rfl)))
    have F71 := (Ary.other (Ary.other (f45.keep Kp54 nin0) W58 (Nat.ne_of_gt (Nat.lt_of_lt_of_le (hsf x (by simp)).1 f46))) W65 (Nat.ne_of_gt (Nat.lt_of_lt_of_le (hsf x (by simp)).1 f46)))
    exact oRetV K68 [] hret (d8_57 hby) (by decide) (by decide) hlk (fun x hx => by cases hx) (Or.inr ⟨t44, rfl, rfl, ((((P0.keep Kp11).keep Kp54).wr W58).wr W65), F69, F70, F71, (Nat.ne_of_lt (Nat.lt_of_lt_of_le (hsf x (by simp)).1 f46))⟩)
theorem rmN4_4 (G : Gl Z a0 z0 fm) (x b : Addr) (c0 c1 c2 c3 : Int32) (h0 : Heap) (hZh : Ext Z.heap h0) (hsf : Own Z h0 [x]) (P0 : Exa Z h0 x "java/lang/String") (P1 : Fld Z h0 x "java/lang/String" "value" "[B" .null) (P2 : Fld Z h0 x "java/lang/String" "coder" "B" (.int 0)) (P3 : Ary Z h0 b .char [(.int c0), (.int c1), (.int c2), (.int c3)]) (P4 : x ≠ b) (P5 : ¬ c0 < (0 : Int32)) (P6 : ¬ (65535 : Int32) < c0) (P7 : ¬ c1 < (0 : Int32)) (P8 : ¬ (65535 : Int32) < c1) (P9 : ¬ c2 < (0 : Int32)) (P10 : ¬ (65535 : Int32) < c2) (P11 : ¬ c3 < (0 : Int32)) (P12 : ¬ (65535 : Int32) < c3) :
    Ctr l Z ELs yn182 jdk_42_method_149_code 6 none [] (rmk 4 2 12 57) #[(.ref x), (.ref b), (.int 0), (.int 4), .null] [x] h0 (fun v h fs => (∃ t : Addr, fs = [] ∧ v = none ∧ Exa Z h x "java/lang/String" ∧ Fld Z h x "java/lang/String" "value" "[B" (.ref t) ∧ Fld Z h x "java/lang/String" "coder" "B" (.int 0) ∧ Ary Z h t .byte [(.int (byt c0)), (.int (byt c1)), (.int (byt c2)), (.int (byt c3))] ∧ x ≠ t ∧ ¬ (255 : Int32) < c0 ∧ ¬ (255 : Int32) < c1 ∧ ¬ (255 : Int32) < c2 ∧ ¬ (255 : Int32) < c3) ∨ (∃ t : Addr, fs = [] ∧ v = none ∧ Exa Z h x "java/lang/String" ∧ Fld Z h x "java/lang/String" "value" "[B" (.ref t) ∧ Fld Z h x "java/lang/String" "coder" "B" (.int 1) ∧ Ary Z h t .byte [(.int (byt (c0 >>> ((0 : Int32) &&& 31)))), (.int (byt (c0 >>> ((8 : Int32) &&& 31)))), (.int (byt (c1 >>> ((0 : Int32) &&& 31)))), (.int (byt (c1 >>> ((8 : Int32) &&& 31)))), (.int (byt (c2 >>> ((0 : Int32) &&& 31)))), (.int (byt (c2 >>> ((8 : Int32) &&& 31)))), (.int (byt (c3 >>> ((0 : Int32) &&& 31)))), (.int (byt (c3 >>> ((8 : Int32) &&& 31))))] ∧ x ≠ t)) := by
  obtain ⟨hw, hEL, wS, OS, hz0, OA, OH, OL, OF, rfm⟩ := id G
  refine Ctr.intro pn183 hEL hZh hsf ?_
  intro p e s m below meth c s₁ hby hml hret hnm hlk hh K0
  refine Owe.cast (ef181 m x b ((0 : Int32)) ((4 : Int32))) ?_
  refine oAloadN K0 1 (d8_0 hby) rfl rfl ?_
  refine oInitO K0 4 (wq hw 47) (wq hw 48) (wq hw 49) rfl (d8_1 hby) (by decide) (W := 0) nle (by decide) ?_
  intro T1 K2
  refine oIloadN K2 5 (d8_4 hby) rfl ?_
  refine oIfYes K2 27 (d8_5 hby) (XT.i0_ne_t (by decide)) ?_
  refine oGetS K2 30 (wq hw 23) (OS.ext K2.old) (d8_27 hby) ?_
  intro T3 K4
  refine oIfNo K4 33 (d8_30 hby) (XT.i0_eq_f hz0) ?_
  refine oAloadN K4 34 (d8_33 hby) rfl rfl ?_
  refine oIloadN K4 35 (d8_34 hby) rfl ?_
  refine oIloadN K4 36 (d8_35 hby) rfl ?_
  refine oStatic K4 39 0 (wq hw 83) (wq hw 84) (wq hw 85) (wq hw 86) (rmCmp3_4 l Z a0 z0 fm G b c0 c1 c2 c3 h0 K4.old K4.both P3 P5 P6 P7 P8 P9 P10 P11 P12) [(.ref b), (.int 0), (.int 4)] [] (lenOf pd145 rfl) (d8_36 hby) ?_
  intro T5 h7 v8 lo9 fs10 K6 Kp11 q12
  rcases q12 with qq12_0 | qq12_1
  · obtain ⟨t13, rfl, rfl, f14, f15, f16, f17, f18, f19⟩ := qq12_0
    have K20 := K6.to 2 12 [x]
    refine Owe.stk [(.ref t13)] ?_
    refine oAstore K20 41 (d8_39 hby) rfl (l' := #[.val (.ref x), .val (.ref b), .val (.int 0), .val (.int 4), .val .null, .val (.ref t13)]) rfl ?_
    refine oAloadN K20 42 (d8_41 hby) rfl rfl ?_
    refine oAload K20 44 (d8_42 hby) rfl rfl ?_
    refine oIloadN K20 45 (d8_44 hby) rfl ?_
    refine oStatic K20 48 1 (wq hw 90) (wq hw 91) (wq hw 85) (wq hw 92) (rmCdL4 l Z a0 z0 fm G t13 ((byt c0)) ((byt c1)) ((byt c2)) ((byt c3)) h7 K20.old K20.both f14) [(.ref t13), (.int 4)] [(.ref x)] (lenOf pd195 rfl) (d8_45 hby) ?_
    intro T21 h23 v24 lo25 fs26 K22 Kp27 q28
    obtain ⟨rfl, rfl⟩ := q28
    have K29 := K22.to 2 12 [x]
    refine Owe.stk [(.int 0), (.ref x)] ?_
    refine oPutF K29 51 (by simp) (wq hw 24) ((P2.keep Kp11 nin0).keep Kp27 nin0) ((P0.keep Kp11).keep Kp27) (Or.inr ⟨(wq hw 10), rfl, hnm⟩) (wq hw 7) (ty := .byte) (by decide) rfl rfl (d8_48 hby) ?_
    intro T33 h30 lo32 K34 W31
    have F35 : Fld Z h30 x "java/lang/String" "coder" "B" (.int 0) := Fld.same W31 ((P2.keep Kp11 nin0).keep Kp27 nin0)
    refine oAloadN K34 52 (d8_51 hby) rfl rfl ?_
    refine oAload K34 54 (d8_52 hby) rfl rfl ?_
    have F36 := (Fld.other W31 ((P1.keep Kp11 nin0).keep Kp27 nin0) (Or.inr (slot_ne (Or.inr (wq hw 9)) (Or.inr (wq hw 10)) (by decide) rfl rfl)))
    refine oPutF K34 57 (by simp) (wq hw 25) F36 (((P0.keep Kp11).keep Kp27).wr W31) (Or.inr ⟨(wq hw 9), rfl, hnm⟩) (wq hw 7) (ty := (.array .byte)) (by decide) rfl rfl (d8_54 hby) ?_
    intro T40 h37 lo39 K41 W38
    have F42 : Fld Z h37 x "java/lang/String" "value" "[B" (.ref t13) := Fld.same W38 F36
    have F43 := (Fld.other W38 F35 (Or.inr (slot_ne (Or.inr (wq hw 10)) (Or.inr (wq hw 9)) (by decide) rfl rfl)))
    have F44 := (Ary.other (Ary.other (f14.keep Kp27 nin0) W31 (Nat.ne_of_gt (Nat.lt_of_lt_of_le (hsf x (by simp)).1 f15))) W38 (Nat.ne_of_gt (Nat.lt_of_lt_of_le (hsf x (by simp)).1 f15)))
    exact oRetV K41 [] hret (d8_57 hby) (by decide) (by decide) hlk (fun x hx => by cases hx) (Or.inl ⟨t13, rfl, rfl, ((((P0.keep Kp11).keep Kp27).wr W31).wr W38), F42, F43, F44, (Nat.ne_of_lt (Nat.lt_of_lt_of_le (hsf x (by simp)).1 f15)), f16, f17, f18, f19⟩)
  · obtain ⟨t45, rfl, rfl, f46, f47⟩ := qq12_1
    have K48 := K6.to 2 12 [x]
    refine Owe.stk [(.ref t45)] ?_
    refine oAstore K48 41 (d8_39 hby) rfl (l' := #[.val (.ref x), .val (.ref b), .val (.int 0), .val (.int 4), .val .null, .val (.ref t45)]) rfl ?_
    refine oAloadN K48 42 (d8_41 hby) rfl rfl ?_
    refine oAload K48 44 (d8_42 hby) rfl rfl ?_
    refine oIloadN K48 45 (d8_44 hby) rfl ?_
    refine oStatic K48 48 1 (wq hw 90) (wq hw 91) (wq hw 85) (wq hw 92) (rmCdW4 l Z a0 z0 fm G t45 ((byt (c0 >>> ((0 : Int32) &&& 31)))) ((byt (c0 >>> ((8 : Int32) &&& 31)))) ((byt (c1 >>> ((0 : Int32) &&& 31)))) ((byt (c1 >>> ((8 : Int32) &&& 31)))) ((byt (c2 >>> ((0 : Int32) &&& 31)))) ((byt (c2 >>> ((8 : Int32) &&& 31)))) ((byt (c3 >>> ((0 : Int32) &&& 31)))) ((byt (c3 >>> ((8 : Int32) &&& 31)))) h7 K48.old K48.both f46) [(.ref t45), (.int 4)] [(.ref x)] (lenOf pd195 rfl) (d8_45 hby) ?_
    intro T49 h51 v52 lo53 fs54 K50 Kp55 q56
    obtain ⟨rfl, rfl⟩ := q56
    have K57 := K50.to 2 12 [x]
    refine Owe.stk [(.int 1), (.ref x)] ?_
    refine oPutF K57 51 (by simp) (wq hw 24) ((P2.keep Kp11 nin0).keep Kp55 nin0) ((P0.keep Kp11).keep Kp55) (Or.inr ⟨(wq hw 10), rfl, hnm⟩) (wq hw 7) (ty := .byte) (by decide) rfl rfl (d8_48 hby) ?_
    intro T61 h58 lo60 K62 W59
    have F63 : Fld Z h58 x "java/lang/String" "coder" "B" (.int 1) := Fld.same W59 ((P2.keep Kp11 nin0).keep Kp55 nin0)
    refine oAloadN K62 52 (d8_51 hby) rfl rfl ?_
    refine oAload K62 54 (d8_52 hby) rfl rfl ?_
    have F64 := (Fld.other W59 ((P1.keep Kp11 nin0).keep Kp55 nin0) (Or.inr (slot_ne (Or.inr (wq hw 9)) (Or.inr (wq hw 10)) (by decide) rfl rfl)))
    refine oPutF K62 57 (by simp) (wq hw 25) F64 (((P0.keep Kp11).keep Kp55).wr W59) (Or.inr ⟨(wq hw 9), rfl, hnm⟩) (wq hw 7) (ty := (.array .byte)) (by decide) rfl rfl (d8_54 hby) ?_
    intro T68 h65 lo67 K69 W66
    have F70 : Fld Z h65 x "java/lang/String" "value" "[B" (.ref t45) := Fld.same W66 F64
    have F71 := (Fld.other W66 F63 (Or.inr (slot_ne (Or.inr (wq hw 10)) (Or.inr (wq hw 9)) (by decide) rfl rfl)))
    have F72 := (Ary.other (Ary.other (f46.keep Kp55 nin0) W59 (Nat.ne_of_gt (Nat.lt_of_lt_of_le (hsf x (by simp)).1 f47))) W66 (Nat.ne_of_gt (Nat.lt_of_lt_of_le (hsf x (by simp)).1 f47)))
    exact oRetV K69 [] hret (d8_57 hby) (by decide) (by decide) hlk (fun x hx => by cases hx) (Or.inr ⟨t45, rfl, rfl, ((((P0.keep Kp11).keep Kp55).wr W59).wr W66), F70, F71, F72, (Nat.ne_of_lt (Nat.lt_of_lt_of_le (hsf x (by simp)).1 f47))⟩)
abbrev y9 := jdk_42_method_3_code
theorem d9_0 : DC y9 0 (.aload_n 0) 1 := hb' (by decide +kernel)
theorem d9_1 : DC y9 1 (.aload_n 1) 1 := hb' (by decide +kernel)
theorem d9_2 : DC y9 2 (.iconst 0) 1 := hb' (by decide +kernel)
theorem d9_3 : DC y9 3 (.aload_n 1) 1 := hb' (by decide +kernel)
theorem d9_4 : DC y9 4 (.arraylength) 1 := hb' (by decide +kernel)
theorem d9_5 : DC y9 5 (.aconst_null) 1 := hb' (by decide +kernel)
theorem d9_6 : DC y9 6 (.invokespecial 27) 3 := hb' (by decide +kernel)
theorem pd209 : parseMethodDescriptor "([CIILjava/lang/Void;)V" = some ⟨[(.array .char), .int, .int, (.object "java/lang/Void")], none⟩ := by decide +kernel
theorem d9_9 : DC y9 9 (.return_) 1 := hb' (by decide +kernel)
theorem ef211 (m : MethodId) (x0 : Addr) (x1 : Addr) : entryFrame m #[(.ref x0), (.ref x1)] 2 = mkF m 0 #[.val (.ref x0), .val (.ref x1)] [] := by first | (simp [entryFrame, mkF, argsToLocals, Value.category]; done) | rfl
abbrev yn212 : MethodName := ⟨"java/lang/String", "<init>", "([C)V"⟩
theorem rmN1_0 (G : Gl Z a0 z0 fm) (x b : Addr) (h0 : Heap) (hZh : Ext Z.heap h0) (hsf : Own Z h0 [x]) (P0 : Exa Z h0 x "java/lang/String") (P1 : Fld Z h0 x "java/lang/String" "value" "[B" .null) (P2 : Fld Z h0 x "java/lang/String" "coder" "B" (.int 0)) (P3 : Ary Z h0 b .char []) (P4 : x ≠ b) :
    Ctr l Z ELs yn212 jdk_42_method_3_code 2 none [] (rmk 2 4 8 29) #[(.ref x), (.ref b)] [x] h0 (fun v h fs => (fs = [] ∧ v = none ∧ Str Z h h.size x [])) := by
  obtain ⟨hw, hEL, wS, OS, hz0, OA, OH, OL, OF, rfm⟩ := id G
  refine Ctr.intro pn183 hEL hZh hsf ?_
  intro p e s m below meth c s₁ hby hml hret hnm hlk hh K0
  refine Owe.cast (ef211 m x b) ?_
  refine oAloadN K0 1 (d9_0 hby) rfl rfl ?_
  refine oAloadN K0 2 (d9_1 hby) rfl rfl ?_
  refine oIconstV K0 3 (0 : Int32) (d9_2 hby) rfl ?_
  refine oAloadN K0 4 (d9_3 hby) rfl rfl ?_
  refine oLen K0 5 P3 (n := (0 : Int32)) (by first | rfl | decide) (d9_4 hby) ?_
  refine oAconstNull K0 6 (d9_5 hby) ?_
  refine oSpecial K0 9 0 (wq hw 43) (wq hw 44) (wq hw 6) (wq hw 46) (rmN4_0 l Z a0 z0 fm G x b h0 K0.old K0.both P0 P1 P2) [(.ref b), (.int 0), (.int 0), .null] [] (lenOf pd209 rfl) (d9_6 hby) ?_
  intro T1 h3 v4 lo5 fs6 K2 Kp7 q8
  obtain ⟨t9, rfl, rfl, f10, f11, f12, f13⟩ := q8
  have K14 := K2.to 4 8 [x]
  refine Owe.stk [] ?_
  exact oRetV K14 [] hret (d9_9 hby) (by decide) (by decide) hlk (fun x hx => by cases hx) ⟨rfl, rfl, (Str.lat f10 f11 f12 f13 trivial)⟩
theorem rmN1_1 (G : Gl Z a0 z0 fm) (x b : Addr) (c0 : Int32) (h0 : Heap) (hZh : Ext Z.heap h0) (hsf : Own Z h0 [x]) (P0 : Exa Z h0 x "java/lang/String") (P1 : Fld Z h0 x "java/lang/String" "value" "[B" .null) (P2 : Fld Z h0 x "java/lang/String" "coder" "B" (.int 0)) (P3 : Ary Z h0 b .char [(.int c0)]) (P4 : x ≠ b) (P5 : ¬ c0 < (0 : Int32)) (P6 : ¬ (65535 : Int32) < c0) :
    Ctr l Z ELs yn212 jdk_42_method_3_code 2 none [] (rmk 5 2 3 74) #[(.ref x), (.ref b)] [x] h0 (fun v h fs => (fs = [] ∧ v = none ∧ Str Z h h.size x [c0])) := by
  obtain ⟨hw, hEL, wS, OS, hz0, OA, OH, OL, OF, rfm⟩ := id G
  refine Ctr.intro pn183 hEL hZh hsf ?_
  intro p e s m below meth c s₁ hby hml hret hnm hlk hh K0
  refine Owe.cast (ef211 m x b) ?_
  refine oAloadN K0 1 (d9_0 hby) rfl rfl ?_
  refine oAloadN K0 2 (d9_1 hby) rfl rfl ?_
  refine oIconstV K0 3 (0 : Int32) (d9_2 hby) rfl ?_
  refine oAloadN K0 4 (d9_3 hby) rfl rfl ?_
  refine oLen K0 5 P3 (n := (1 : Int32)) (by first | rfl | decide) (d9_4 hby) ?_
  refine oAconstNull K0 6 (d9_5 hby) ?_
  refine oSpecial K0 9 0 (wq hw 43) (wq hw 44) (wq hw 6) (wq hw 46) (rmN4_1 l Z a0 z0 fm G x b c0 h0 K0.old K0.both P0 P1 P2 P3 P4 P5 P6) [(.ref b), (.int 0), (.int 1), .null] [] (lenOf pd209 rfl) (d9_6 hby) ?_
  intro T1 h3 v4 lo5 fs6 K2 Kp7 q8
  rcases q8 with qq8_0 | qq8_1
  · obtain ⟨t9, rfl, rfl, f10, f11, f12, f13, f14, f15⟩ := qq8_0
    have K16 := K2.to 2 3 [x]
    refine Owe.stk [] ?_
    exact oRetV K16 [] hret (d9_9 hby) (by decide) (by decide) hlk (fun x hx => by cases hx) ⟨rfl, rfl, (Str.lat f10 f11 f12 f13 ⟨f15, trivial⟩)⟩
  · obtain ⟨t17, rfl, rfl, f18, f19, f20, f21, f22⟩ := qq8_1
    have K23 := K2.to 2 3 [x]
    refine Owe.stk [] ?_
    exact oRetV K23 [] hret (d9_9 hby) (by decide) (by decide) hlk (fun x hx => by cases hx) ⟨rfl, rfl, (Str.wide f18 f19 f20 f21)⟩
theorem rmN1_2 (G : Gl Z a0 z0 fm) (x b : Addr) (c0 c1 : Int32) (h0 : Heap) (hZh : Ext Z.heap h0) (hsf : Own Z h0 [x]) (P0 : Exa Z h0 x "java/lang/String") (P1 : Fld Z h0 x "java/lang/String" "value" "[B" .null) (P2 : Fld Z h0 x "java/lang/String" "coder" "B" (.int 0)) (P3 : Ary Z h0 b .char [(.int c0), (.int c1)]) (P4 : x ≠ b) (P5 : ¬ c0 < (0 : Int32)) (P6 : ¬ (65535 : Int32) < c0) (P7 : ¬ c1 < (0 : Int32)) (P8 : ¬ (65535 : Int32) < c1) :
    Ctr l Z ELs yn212 jdk_42_method_3_code 2 none [] (rmk 5 2 6 74) #[(.ref x), (.ref b)] [x] h0 (fun v h fs => (fs = [] ∧ v = none ∧ Str Z h h.size x [c0, c1])) := by
  obtain ⟨hw, hEL, wS, OS, hz0, OA, OH, OL, OF, rfm⟩ := id G
  refine Ctr.intro pn183 hEL hZh hsf ?_
  intro p e s m below meth c s₁ hby hml hret hnm hlk hh K0
  refine Owe.cast (ef211 m x b) ?_
  refine oAloadN K0 1 (d9_0 hby) rfl rfl ?_
  refine oAloadN K0 2 (d9_1 hby) rfl rfl ?_
  refine oIconstV K0 3 (0 : Int32) (d9_2 hby) rfl ?_
  refine oAloadN K0 4 (d9_3 hby) rfl rfl ?_
  refine oLen K0 5 P3 (n := (2 : Int32)) (by first | rfl | decide) (d9_4 hby) ?_
  refine oAconstNull K0 6 (d9_5 hby) ?_
  refine oSpecial K0 9 0 (wq hw 43) (wq hw 44) (wq hw 6) (wq hw 46) (rmN4_2 l Z a0 z0 fm G x b c0 c1 h0 K0.old K0.both P0 P1 P2 P3 P4 P5 P6 P7 P8) [(.ref b), (.int 0), (.int 2), .null] [] (lenOf pd209 rfl) (d9_6 hby) ?_
  intro T1 h3 v4 lo5 fs6 K2 Kp7 q8
  rcases q8 with qq8_0 | qq8_1
  · obtain ⟨t9, rfl, rfl, f10, f11, f12, f13, f14, f15, f16⟩ := qq8_0
    have K17 := K2.to 2 6 [x]
    refine Owe.stk [] ?_
    exact oRetV K17 [] hret (d9_9 hby) (by decide) (by decide) hlk (fun x hx => by cases hx) ⟨rfl, rfl, (Str.lat f10 f11 f12 f13 ⟨f15, f16, trivial⟩)⟩
  · obtain ⟨t18, rfl, rfl, f19, f20, f21, f22, f23⟩ := qq8_1
    have K24 := K2.to 2 6 [x]
    refine Owe.stk [] ?_
    exact oRetV K24 [] hret (d9_9 hby) (by decide) (by decide) hlk (fun x hx => by cases hx) ⟨rfl, rfl, (Str.wide f19 f20 f21 f22)⟩
theorem rmN1_3 (G : Gl Z a0 z0 fm) (x b : Addr) (c0 c1 c2 : Int32) (h0 : Heap) (hZh : Ext Z.heap h0) (hsf : Own Z h0 [x]) (P0 : Exa Z h0 x "java/lang/String") (P1 : Fld Z h0 x "java/lang/String" "value" "[B" .null) (P2 : Fld Z h0 x "java/lang/String" "coder" "B" (.int 0)) (P3 : Ary Z h0 b .char [(.int c0), (.int c1), (.int c2)]) (P4 : x ≠ b) (P5 : ¬ c0 < (0 : Int32)) (P6 : ¬ (65535 : Int32) < c0) (P7 : ¬ c1 < (0 : Int32)) (P8 : ¬ (65535 : Int32) < c1) (P9 : ¬ c2 < (0 : Int32)) (P10 : ¬ (65535 : Int32) < c2) :
    Ctr l Z ELs yn212 jdk_42_method_3_code 2 none [] (rmk 5 2 9 74) #[(.ref x), (.ref b)] [x] h0 (fun v h fs => (fs = [] ∧ v = none ∧ Str Z h h.size x [c0, c1, c2])) := by
  obtain ⟨hw, hEL, wS, OS, hz0, OA, OH, OL, OF, rfm⟩ := id G
  refine Ctr.intro pn183 hEL hZh hsf ?_
  intro p e s m below meth c s₁ hby hml hret hnm hlk hh K0
  refine Owe.cast (ef211 m x b) ?_
  refine oAloadN K0 1 (d9_0 hby) rfl rfl ?_
  refine oAloadN K0 2 (d9_1 hby) rfl rfl ?_
  refine oIconstV K0 3 (0 : Int32) (d9_2 hby) rfl ?_
  refine oAloadN K0 4 (d9_3 hby) rfl rfl ?_
  refine oLen K0 5 P3 (n := (3 : Int32)) (by first | rfl | decide) (d9_4 hby) ?_
  refine oAconstNull K0 6 (d9_5 hby) ?_
  refine oSpecial K0 9 0 (wq hw 43) (wq hw 44) (wq hw 6) (wq hw 46) (rmN4_3 l Z a0 z0 fm G x b c0 c1 c2 h0 K0.old K0.both P0 P1 P2 P3 P4 P5 P6 P7 P8 P9 P10) [(.ref b), (.int 0), (.int 3), .null] [] (lenOf pd209 rfl) (d9_6 hby) ?_
  intro T1 h3 v4 lo5 fs6 K2 Kp7 q8
  rcases q8 with qq8_0 | qq8_1
  · obtain ⟨t9, rfl, rfl, f10, f11, f12, f13, f14, f15, f16, f17⟩ := qq8_0
    have K18 := K2.to 2 9 [x]
    refine Owe.stk [] ?_
    exact oRetV K18 [] hret (d9_9 hby) (by decide) (by decide) hlk (fun x hx => by cases hx) ⟨rfl, rfl, (Str.lat f10 f11 f12 f13 ⟨f15, f16, f17, trivial⟩)⟩
  · obtain ⟨t19, rfl, rfl, f20, f21, f22, f23, f24⟩ := qq8_1
    have K25 := K2.to 2 9 [x]
    refine Owe.stk [] ?_
    exact oRetV K25 [] hret (d9_9 hby) (by decide) (by decide) hlk (fun x hx => by cases hx) ⟨rfl, rfl, (Str.wide f20 f21 f22 f23)⟩
theorem rmN1_4 (G : Gl Z a0 z0 fm) (x b : Addr) (c0 c1 c2 c3 : Int32) (h0 : Heap) (hZh : Ext Z.heap h0) (hsf : Own Z h0 [x]) (P0 : Exa Z h0 x "java/lang/String") (P1 : Fld Z h0 x "java/lang/String" "value" "[B" .null) (P2 : Fld Z h0 x "java/lang/String" "coder" "B" (.int 0)) (P3 : Ary Z h0 b .char [(.int c0), (.int c1), (.int c2), (.int c3)]) (P4 : x ≠ b) (P5 : ¬ c0 < (0 : Int32)) (P6 : ¬ (65535 : Int32) < c0) (P7 : ¬ c1 < (0 : Int32)) (P8 : ¬ (65535 : Int32) < c1) (P9 : ¬ c2 < (0 : Int32)) (P10 : ¬ (65535 : Int32) < c2) (P11 : ¬ c3 < (0 : Int32)) (P12 : ¬ (65535 : Int32) < c3) :
    Ctr l Z ELs yn212 jdk_42_method_3_code 2 none [] (rmk 5 2 12 74) #[(.ref x), (.ref b)] [x] h0 (fun v h fs => (fs = [] ∧ v = none ∧ Str Z h h.size x [c0, c1, c2, c3])) := by
  obtain ⟨hw, hEL, wS, OS, hz0, OA, OH, OL, OF, rfm⟩ := id G
  refine Ctr.intro pn183 hEL hZh hsf ?_
  intro p e s m below meth c s₁ hby hml hret hnm hlk hh K0
  refine Owe.cast (ef211 m x b) ?_
  refine oAloadN K0 1 (d9_0 hby) rfl rfl ?_
  refine oAloadN K0 2 (d9_1 hby) rfl rfl ?_
  refine oIconstV K0 3 (0 : Int32) (d9_2 hby) rfl ?_
  refine oAloadN K0 4 (d9_3 hby) rfl rfl ?_
  refine oLen K0 5 P3 (n := (4 : Int32)) (by first | rfl | decide) (d9_4 hby) ?_
  refine oAconstNull K0 6 (d9_5 hby) ?_
  refine oSpecial K0 9 0 (wq hw 43) (wq hw 44) (wq hw 6) (wq hw 46) (rmN4_4 l Z a0 z0 fm G x b c0 c1 c2 c3 h0 K0.old K0.both P0 P1 P2 P3 P4 P5 P6 P7 P8 P9 P10 P11 P12) [(.ref b), (.int 0), (.int 4), .null] [] (lenOf pd209 rfl) (d9_6 hby) ?_
  intro T1 h3 v4 lo5 fs6 K2 Kp7 q8
  rcases q8 with qq8_0 | qq8_1
  · obtain ⟨t9, rfl, rfl, f10, f11, f12, f13, f14, f15, f16, f17, f18⟩ := qq8_0
    have K19 := K2.to 2 12 [x]
    refine Owe.stk [] ?_
    exact oRetV K19 [] hret (d9_9 hby) (by decide) (by decide) hlk (fun x hx => by cases hx) ⟨rfl, rfl, (Str.lat f10 f11 f12 f13 ⟨f15, f16, f17, f18, trivial⟩)⟩
  · obtain ⟨t20, rfl, rfl, f21, f22, f23, f24, f25⟩ := qq8_1
    have K26 := K2.to 2 12 [x]
    refine Owe.stk [] ?_
    exact oRetV K26 [] hret (d9_9 hby) (by decide) (by decide) hlk (fun x hx => by cases hx) ⟨rfl, rfl, (Str.wide f21 f22 f23 f24)⟩
abbrev y10 := jdk_42_method_152_code
theorem d10_0 : DC y10 0 (.getstatic 38) 3 := hb' (by decide +kernel)
theorem d10_3 : DC y10 3 (.ifCond .eq 10) 3 := hb' (by decide +kernel)
theorem d10_6 : DC y10 6 (.aload_n 0) 1 := hb' (by decide +kernel)
theorem d10_7 : DC y10 7 (.getfield 15) 3 := hb' (by decide +kernel)
theorem d10_10 : DC y10 10 (.goto 4) 3 := hb' (by decide +kernel)
theorem d10_14 : DC y10 14 (.ireturn) 1 := hb' (by decide +kernel)
theorem ef220 (m : MethodId) (x0 : Addr) : entryFrame m #[(.ref x0)] 1 = mkF m 0 #[.val (.ref x0)] [] := by first | (simp [entryFrame, mkF, argsToLocals, Value.category]; done) | rfl
abbrev yn221 : MethodName := ⟨"java/lang/String", "coder", "()B"⟩
theorem rmCoder0 (G : Gl Z a0 z0 fm) (x : Addr) (h0 : Heap) (hZh : Ext Z.heap h0) (hsf : Own Z h0 []) (P0 : Fld Z h0 x "java/lang/String" "coder" "B" (.int 0)) :
    Ctr l Z ELs yn221 jdk_42_method_152_code 1 (some .byte) [] (rmk 0 0 0 0) #[(.ref x)] [] h0 (fun v h fs => (fs = [] ∧ v = some (.int 0))) := by
  obtain ⟨hw, hEL, wS, OS, hz0, OA, OH, OL, OF, rfm⟩ := id G
  refine Ctr.intro pn183 hEL hZh hsf ?_
  intro p e s m below meth c s₁ hby hml hret hnm hlk hh K0
  refine Owe.cast (ef220 m x) ?_
  refine oGetS K0 3 (wq hw 23) (OS.ext K0.old) (d10_0 hby) ?_
  intro T1 K2
  refine oIfNo K2 6 (d10_3 hby) (XT.i0_eq_f hz0) ?_
  refine oAloadN K2 7 (d10_6 hby) rfl rfl ?_
  refine oGetF K2 10 (wq hw 24) P0 (d10_7 hby) ?_
  intro T3 K4
  refine oGoto K4 14 (d10_10 hby) ?_
  exact oRetI K4 [] (t := .byte) hret (by simp) (by decide) (d10_14 hby) (by decide) (by decide) hlk (fun x hx => by cases hx) ⟨rfl, rfl⟩
abbrev y11 := jdk_42_method_154_code
theorem d11_0 : DC y11 0 (.getstatic 38) 3 := hb' (by decide +kernel)
theorem d11_3 : DC y11 3 (.ifCond .eq 14) 3 := hb' (by decide +kernel)
theorem d11_6 : DC y11 6 (.aload_n 0) 1 := hb' (by decide +kernel)
theorem d11_7 : DC y11 7 (.getfield 15) 3 := hb' (by decide +kernel)
theorem d11_10 : DC y11 10 (.ifCond .ne 7) 3 := hb' (by decide +kernel)
theorem d11_13 : DC y11 13 (.iconst 1) 1 := hb' (by decide +kernel)
theorem d11_14 : DC y11 14 (.goto 4) 3 := hb' (by decide +kernel)
theorem d11_18 : DC y11 18 (.ireturn) 1 := hb' (by decide +kernel)
abbrev yn231 : MethodName := ⟨"java/lang/String", "isLatin1", "()Z"⟩
theorem rmIsL0 (G : Gl Z a0 z0 fm) (x : Addr) (h0 : Heap) (hZh : Ext Z.heap h0) (hsf : Own Z h0 []) (P0 : Fld Z h0 x "java/lang/String" "coder" "B" (.int 0)) :
    Ctr l Z ELs yn231 jdk_42_method_154_code 1 (some .boolean) [] (rmk 0 0 0 0) #[(.ref x)] [] h0 (fun v h fs => (fs = [] ∧ v = some (.int 1))) := by
  obtain ⟨hw, hEL, wS, OS, hz0, OA, OH, OL, OF, rfm⟩ := id G
  refine Ctr.intro pn183 hEL hZh hsf ?_
  intro p e s m below meth c s₁ hby hml hret hnm hlk hh K0
  refine Owe.cast (ef220 m x) ?_
  refine oGetS K0 3 (wq hw 23) (OS.ext K0.old) (d11_0 hby) ?_
  intro T1 K2
  refine oIfNo K2 6 (d11_3 hby) (XT.i0_eq_f hz0) ?_
  refine oAloadN K2 7 (d11_6 hby) rfl rfl ?_
  refine oGetF K2 10 (wq hw 24) P0 (d11_7 hby) ?_
  intro T3 K4
  refine oIfNo K4 13 (d11_10 hby) (XT.i0_ne_f (by decide)) ?_
  refine oIconstV K4 14 (1 : Int32) (d11_13 hby) rfl ?_
  refine oGoto K4 18 (d11_14 hby) ?_
  exact oRetI K4 [] (t := .boolean) hret (by simp) (by decide) (d11_18 hby) (by decide) (by decide) hlk (fun x hx => by cases hx) ⟨rfl, rfl⟩
theorem rmCoder1 (G : Gl Z a0 z0 fm) (x : Addr) (h0 : Heap) (hZh : Ext Z.heap h0) (hsf : Own Z h0 []) (P0 : Fld Z h0 x "java/lang/String" "coder" "B" (.int 1)) :
    Ctr l Z ELs yn221 jdk_42_method_152_code 1 (some .byte) [] (rmk 0 0 0 0) #[(.ref x)] [] h0 (fun v h fs => (fs = [] ∧ v = some (.int 1))) := by
  obtain ⟨hw, hEL, wS, OS, hz0, OA, OH, OL, OF, rfm⟩ := id G
  refine Ctr.intro pn183 hEL hZh hsf ?_
  intro p e s m below meth c s₁ hby hml hret hnm hlk hh K0
  refine Owe.cast (ef220 m x) ?_
  refine oGetS K0 3 (wq hw 23) (OS.ext K0.old) (d10_0 hby) ?_
  intro T1 K2
  refine oIfNo K2 6 (d10_3 hby) (XT.i0_eq_f hz0) ?_
  refine oAloadN K2 7 (d10_6 hby) rfl rfl ?_
  refine oGetF K2 10 (wq hw 24) P0 (d10_7 hby) ?_
  intro T3 K4
  refine oGoto K4 14 (d10_10 hby) ?_
  exact oRetI K4 [] (t := .byte) hret (by simp) (by decide) (d10_14 hby) (by decide) (by decide) hlk (fun x hx => by cases hx) ⟨rfl, rfl⟩
theorem d11_17 : DC y11 17 (.iconst 0) 1 := hb' (by decide +kernel)
theorem rmIsL1 (G : Gl Z a0 z0 fm) (x : Addr) (h0 : Heap) (hZh : Ext Z.heap h0) (hsf : Own Z h0 []) (P0 : Fld Z h0 x "java/lang/String" "coder" "B" (.int 1)) :
    Ctr l Z ELs yn231 jdk_42_method_154_code 1 (some .boolean) [] (rmk 0 0 0 0) #[(.ref x)] [] h0 (fun v h fs => (fs = [] ∧ v = some (.int 0))) := by
  obtain ⟨hw, hEL, wS, OS, hz0, OA, OH, OL, OF, rfm⟩ := id G
  refine Ctr.intro pn183 hEL hZh hsf ?_
  intro p e s m below meth c s₁ hby hml hret hnm hlk hh K0
  refine Owe.cast (ef220 m x) ?_
  refine oGetS K0 3 (wq hw 23) (OS.ext K0.old) (d11_0 hby) ?_
  intro T1 K2
  refine oIfNo K2 6 (d11_3 hby) (XT.i0_eq_f hz0) ?_
  refine oAloadN K2 7 (d11_6 hby) rfl rfl ?_
  refine oGetF K2 10 (wq hw 24) P0 (d11_7 hby) ?_
  intro T3 K4
  refine oIfYes K4 17 (d11_10 hby) (XT.i0_ne_t (by decide)) ?_
  refine oIconstV K4 18 (0 : Int32) (d11_17 hby) rfl ?_
  exact oRetI K4 [] (t := .boolean) hret (by simp) (by decide) (d11_18 hby) (by decide) (by decide) hlk (fun x hx => by cases hx) ⟨rfl, rfl⟩
abbrev y12 := jdk_42_method_54_code
theorem d12_0 : DC y12 0 (.aload_n 0) 1 := hb' (by decide +kernel)
theorem d12_1 : DC y12 1 (.getfield 9) 3 := hb' (by decide +kernel)
theorem d12_4 : DC y12 4 (.arraylength) 1 := hb' (by decide +kernel)
theorem d12_5 : DC y12 5 (.aload_n 0) 1 := hb' (by decide +kernel)
theorem d12_6 : DC y12 6 (.invokevirtual 335) 3 := hb' (by decide +kernel)
theorem pd239 : parseMethodDescriptor "()B" = some ⟨[], some .byte⟩ := by decide +kernel
theorem d12_9 : DC y12 9 (.ishr) 1 := hb' (by decide +kernel)
theorem d12_10 : DC y12 10 (.ireturn) 1 := hb' (by decide +kernel)
abbrev yn242 : MethodName := ⟨"java/lang/String", "length", "()I"⟩
theorem rmLen0 (G : Gl Z a0 z0 fm) (x : Addr) (b : Nat) (h0 : Heap) (hZh : Ext Z.heap h0) (hsf : Own Z h0 []) (P0 : Str Z h0 b x []) :
    Ctr l Z ELs yn242 jdk_42_method_54_code 1 (some .int) [] (rmk 1 0 0 13) #[(.ref x)] [] h0 (fun v h fs => (fs = [] ∧ v = some (.int 0))) := by
  obtain ⟨hw, hEL, wS, OS, hz0, OA, OH, OL, OF, rfm⟩ := id G
  refine Ctr.intro pn183 hEL hZh hsf ?_
  intro p e s m below meth c s₁ hby hml hret hnm hlk hh K0
  refine Owe.cast (ef220 m x) ?_
  obtain ⟨t1, -, -, f2, f3, ⟨f4, A5, L6⟩ | ⟨f4, A5⟩⟩ := P0
  · have A7 : Ary Z h0 t1 .byte [] := A5
    refine oAloadN K0 1 (d12_0 hby) rfl rfl ?_
    refine oGetF K0 4 (wq hw 25) f3 (d12_1 hby) ?_
    intro T8 K9
    refine oLen K9 5 A7 (n := (0 : Int32)) (by first | rfl | decide) (d12_4 hby) ?_
    refine oAloadN K9 6 (d12_5 hby) rfl rfl ?_
    refine oVirtual K9 9 1 (wq hw 61) (wq hw 62) (nfSel (wq hw 64)) (wq hw 64) (wq hw 63) (wq hw 6) (wq hw 65) f2 (rmCoder0 l Z a0 z0 fm G x h0 K9.old K9.both f4) [] [(.int 0)] (lenOf pd239 rfl) (d12_6 hby) ?_
    intro T10 h12 v13 lo14 fs15 K11 Kp16 q17
    obtain ⟨rfl, rfl⟩ := q17
    have K18 := K11.to 0 0 []
    refine Owe.stk [(.int 0), (.int 0)] ?_
    refine oIshr K18 10 (d12_9 hby) ?_
    show Owe _ _ _ _ T10 (mkF m 10 #[.val (.ref x)] [(.int 0)])
    exact oRetI K18 [] (t := .int) hret (by simp) rfl (d12_10 hby) (by decide) (by decide) hlk (fun x hx => by cases hx) ⟨rfl, rfl⟩
  · have A7 : Ary Z h0 t1 .byte [] := A5
    refine oAloadN K0 1 (d12_0 hby) rfl rfl ?_
    refine oGetF K0 4 (wq hw 25) f3 (d12_1 hby) ?_
    intro T19 K20
    refine oLen K20 5 A7 (n := (0 : Int32)) (by first | rfl | decide) (d12_4 hby) ?_
    refine oAloadN K20 6 (d12_5 hby) rfl rfl ?_
    refine oVirtual K20 9 1 (wq hw 61) (wq hw 62) (nfSel (wq hw 64)) (wq hw 64) (wq hw 63) (wq hw 6) (wq hw 65) f2 (rmCoder1 l Z a0 z0 fm G x h0 K20.old K20.both f4) [] [(.int 0)] (lenOf pd239 rfl) (d12_6 hby) ?_
    intro T21 h23 v24 lo25 fs26 K22 Kp27 q28
    obtain ⟨rfl, rfl⟩ := q28
    have K29 := K22.to 0 0 []
    refine Owe.stk [(.int 1), (.int 0)] ?_
    refine oIshr K29 10 (d12_9 hby) ?_
    show Owe _ _ _ _ T21 (mkF m 10 #[.val (.ref x)] [(.int 0)])
    exact oRetI K29 [] (t := .int) hret (by simp) rfl (d12_10 hby) (by decide) (by decide) hlk (fun x hx => by cases hx) ⟨rfl, rfl⟩
theorem rmLen1 (G : Gl Z a0 z0 fm) (x : Addr) (b : Nat) (c0 : Int32) (h0 : Heap) (hZh : Ext Z.heap h0) (hsf : Own Z h0 []) (P0 : Str Z h0 b x [c0]) :
    Ctr l Z ELs yn242 jdk_42_method_54_code 1 (some .int) [] (rmk 1 0 0 13) #[(.ref x)] [] h0 (fun v h fs => (fs = [] ∧ v = some (.int 1))) := by
  obtain ⟨hw, hEL, wS, OS, hz0, OA, OH, OL, OF, rfm⟩ := id G
  refine Ctr.intro pn183 hEL hZh hsf ?_
  intro p e s m below meth c s₁ hby hml hret hnm hlk hh K0
  refine Owe.cast (ef220 m x) ?_
  obtain ⟨t1, -, -, f2, f3, ⟨f4, A5, L6⟩ | ⟨f4, A5⟩⟩ := P0
  · have A7 : Ary Z h0 t1 .byte [(.int (byt c0))] := A5
    obtain ⟨l8, -⟩ := L6
    refine oAloadN K0 1 (d12_0 hby) rfl rfl ?_
    refine oGetF K0 4 (wq hw 25) f3 (d12_1 hby) ?_
    intro T9 K10
    refine oLen K10 5 A7 (n := (1 : Int32)) (by first | rfl | decide) (d12_4 hby) ?_
    refine oAloadN K10 6 (d12_5 hby) rfl rfl ?_
    refine oVirtual K10 9 1 (wq hw 61) (wq hw 62) (nfSel (wq hw 64)) (wq hw 64) (wq hw 63) (wq hw 6) (wq hw 65) f2 (rmCoder0 l Z a0 z0 fm G x h0 K10.old K10.both f4) [] [(.int 1)] (lenOf pd239 rfl) (d12_6 hby) ?_
    intro T11 h13 v14 lo15 fs16 K12 Kp17 q18
    obtain ⟨rfl, rfl⟩ := q18
    have K19 := K12.to 0 0 []
    refine Owe.stk [(.int 0), (.int 1)] ?_
    refine oIshr K19 10 (d12_9 hby) ?_
    show Owe _ _ _ _ T11 (mkF m 10 #[.val (.ref x)] [(.int 1)])
    exact oRetI K19 [] (t := .int) hret (by simp) rfl (d12_10 hby) (by decide) (by decide) hlk (fun x hx => by cases hx) ⟨rfl, rfl⟩
  · have A7 : Ary Z h0 t1 .byte [(.int (byt (c0 >>> ((0 : Int32) &&& 31)))), (.int (byt (c0 >>> ((8 : Int32) &&& 31))))] := A5
    refine oAloadN K0 1 (d12_0 hby) rfl rfl ?_
    refine oGetF K0 4 (wq hw 25) f3 (d12_1 hby) ?_
    intro T20 K21
    refine oLen K21 5 A7 (n := (2 : Int32)) (by first | rfl | decide) (d12_4 hby) ?_
    refine oAloadN K21 6 (d12_5 hby) rfl rfl ?_
    refine oVirtual K21 9 1 (wq hw 61) (wq hw 62) (nfSel (wq hw 64)) (wq hw 64) (wq hw 63) (wq hw 6) (wq hw 65) f2 (rmCoder1 l Z a0 z0 fm G x h0 K21.old K21.both f4) [] [(.int 2)] (lenOf pd239 rfl) (d12_6 hby) ?_
    intro T22 h24 v25 lo26 fs27 K23 Kp28 q29
    obtain ⟨rfl, rfl⟩ := q29
    have K30 := K23.to 0 0 []
    refine Owe.stk [(.int 1), (.int 2)] ?_
    refine oIshr K30 10 (d12_9 hby) ?_
    show Owe _ _ _ _ T22 (mkF m 10 #[.val (.ref x)] [(.int 1)])
    exact oRetI K30 [] (t := .int) hret (by simp) rfl (d12_10 hby) (by decide) (by decide) hlk (fun x hx => by cases hx) ⟨rfl, rfl⟩
theorem rmLen2 (G : Gl Z a0 z0 fm) (x : Addr) (b : Nat) (c0 c1 : Int32) (h0 : Heap) (hZh : Ext Z.heap h0) (hsf : Own Z h0 []) (P0 : Str Z h0 b x [c0, c1]) :
    Ctr l Z ELs yn242 jdk_42_method_54_code 1 (some .int) [] (rmk 1 0 0 13) #[(.ref x)] [] h0 (fun v h fs => (fs = [] ∧ v = some (.int 2))) := by
  obtain ⟨hw, hEL, wS, OS, hz0, OA, OH, OL, OF, rfm⟩ := id G
  refine Ctr.intro pn183 hEL hZh hsf ?_
  intro p e s m below meth c s₁ hby hml hret hnm hlk hh K0
  refine Owe.cast (ef220 m x) ?_
  obtain ⟨t1, -, -, f2, f3, ⟨f4, A5, L6⟩ | ⟨f4, A5⟩⟩ := P0
  · have A7 : Ary Z h0 t1 .byte [(.int (byt c0)), (.int (byt c1))] := A5
    obtain ⟨l8, l9, -⟩ := L6
    refine oAloadN K0 1 (d12_0 hby) rfl rfl ?_
    refine oGetF K0 4 (wq hw 25) f3 (d12_1 hby) ?_
    intro T10 K11
    refine oLen K11 5 A7 (n := (2 : Int32)) (by first | rfl | decide) (d12_4 hby) ?_
    refine oAloadN K11 6 (d12_5 hby) rfl rfl ?_
    refine oVirtual K11 9 1 (wq hw 61) (wq hw 62) (nfSel (wq hw 64)) (wq hw 64) (wq hw 63) (wq hw 6) (wq hw 65) f2 (rmCoder0 l Z a0 z0 fm G x h0 K11.old K11.both f4) [] [(.int 2)] (lenOf pd239 rfl) (d12_6 hby) ?_
    intro T12 h14 v15 lo16 fs17 K13 Kp18 q19
    obtain ⟨rfl, rfl⟩ := q19
    have K20 := K13.to 0 0 []
    refine Owe.stk [(.int 0), (.int 2)] ?_
    refine oIshr K20 10 (d12_9 hby) ?_
    show Owe _ _ _ _ T12 (mkF m 10 #[.val (.ref x)] [(.int 2)])
    exact oRetI K20 [] (t := .int) hret (by simp) rfl (d12_10 hby) (by decide) (by decide) hlk (fun x hx => by cases hx) ⟨rfl, rfl⟩
  · have A7 : Ary Z h0 t1 .byte [(.int (byt (c0 >>> ((0 : Int32) &&& 31)))), (.int (byt (c0 >>> ((8 : Int32) &&& 31)))), (.int (byt (c1 >>> ((0 : Int32) &&& 31)))), (.int (byt (c1 >>> ((8 : Int32) &&& 31))))] := A5
    refine oAloadN K0 1 (d12_0 hby) rfl rfl ?_
    refine oGetF K0 4 (wq hw 25) f3 (d12_1 hby) ?_
    intro T21 K22
    refine oLen K22 5 A7 (n := (4 : Int32)) (by first | rfl | decide) (d12_4 hby) ?_
    refine oAloadN K22 6 (d12_5 hby) rfl rfl ?_
    refine oVirtual K22 9 1 (wq hw 61) (wq hw 62) (nfSel (wq hw 64)) (wq hw 64) (wq hw 63) (wq hw 6) (wq hw 65) f2 (rmCoder1 l Z a0 z0 fm G x h0 K22.old K22.both f4) [] [(.int 4)] (lenOf pd239 rfl) (d12_6 hby) ?_
    intro T23 h25 v26 lo27 fs28 K24 Kp29 q30
    obtain ⟨rfl, rfl⟩ := q30
    have K31 := K24.to 0 0 []
    refine Owe.stk [(.int 1), (.int 4)] ?_
    refine oIshr K31 10 (d12_9 hby) ?_
    show Owe _ _ _ _ T23 (mkF m 10 #[.val (.ref x)] [(.int 2)])
    exact oRetI K31 [] (t := .int) hret (by simp) rfl (d12_10 hby) (by decide) (by decide) hlk (fun x hx => by cases hx) ⟨rfl, rfl⟩
theorem rmLen3 (G : Gl Z a0 z0 fm) (x : Addr) (b : Nat) (c0 c1 c2 : Int32) (h0 : Heap) (hZh : Ext Z.heap h0) (hsf : Own Z h0 []) (P0 : Str Z h0 b x [c0, c1, c2]) :
    Ctr l Z ELs yn242 jdk_42_method_54_code 1 (some .int) [] (rmk 1 0 0 13) #[(.ref x)] [] h0 (fun v h fs => (fs = [] ∧ v = some (.int 3))) := by
  obtain ⟨hw, hEL, wS, OS, hz0, OA, OH, OL, OF, rfm⟩ := id G
  refine Ctr.intro pn183 hEL hZh hsf ?_
  intro p e s m below meth c s₁ hby hml hret hnm hlk hh K0
  refine Owe.cast (ef220 m x) ?_
  obtain ⟨t1, -, -, f2, f3, ⟨f4, A5, L6⟩ | ⟨f4, A5⟩⟩ := P0
  · have A7 : Ary Z h0 t1 .byte [(.int (byt c0)), (.int (byt c1)), (.int (byt c2))] := A5
    obtain ⟨l8, l9, l10, -⟩ := L6
    refine oAloadN K0 1 (d12_0 hby) rfl rfl ?_
    refine oGetF K0 4 (wq hw 25) f3 (d12_1 hby) ?_
    intro T11 K12
    refine oLen K12 5 A7 (n := (3 : Int32)) (by first | rfl | decide) (d12_4 hby) ?_
    refine oAloadN K12 6 (d12_5 hby) rfl rfl ?_
    refine oVirtual K12 9 1 (wq hw 61) (wq hw 62) (nfSel (wq hw 64)) (wq hw 64) (wq hw 63) (wq hw 6) (wq hw 65) f2 (rmCoder0 l Z a0 z0 fm G x h0 K12.old K12.both f4) [] [(.int 3)] (lenOf pd239 rfl) (d12_6 hby) ?_
    intro T13 h15 v16 lo17 fs18 K14 Kp19 q20
    obtain ⟨rfl, rfl⟩ := q20
    have K21 := K14.to 0 0 []
    refine Owe.stk [(.int 0), (.int 3)] ?_
    refine oIshr K21 10 (d12_9 hby) ?_
    show Owe _ _ _ _ T13 (mkF m 10 #[.val (.ref x)] [(.int 3)])
    exact oRetI K21 [] (t := .int) hret (by simp) rfl (d12_10 hby) (by decide) (by decide) hlk (fun x hx => by cases hx) ⟨rfl, rfl⟩
  · have A7 : Ary Z h0 t1 .byte [(.int (byt (c0 >>> ((0 : Int32) &&& 31)))), (.int (byt (c0 >>> ((8 : Int32) &&& 31)))), (.int (byt (c1 >>> ((0 : Int32) &&& 31)))), (.int (byt (c1 >>> ((8 : Int32) &&& 31)))), (.int (byt (c2 >>> ((0 : Int32) &&& 31)))), (.int (byt (c2 >>> ((8 : Int32) &&& 31))))] := A5
    refine oAloadN K0 1 (d12_0 hby) rfl rfl ?_
    refine oGetF K0 4 (wq hw 25) f3 (d12_1 hby) ?_
    intro T22 K23
    refine oLen K23 5 A7 (n := (6 : Int32)) (by first | rfl | decide) (d12_4 hby) ?_
    refine oAloadN K23 6 (d12_5 hby) rfl rfl ?_
    refine oVirtual K23 9 1 (wq hw 61) (wq hw 62) (nfSel (wq hw 64)) (wq hw 64) (wq hw 63) (wq hw 6) (wq hw 65) f2 (rmCoder1 l Z a0 z0 fm G x h0 K23.old K23.both f4) [] [(.int 6)] (lenOf pd239 rfl) (d12_6 hby) ?_
    intro T24 h26 v27 lo28 fs29 K25 Kp30 q31
    obtain ⟨rfl, rfl⟩ := q31
    have K32 := K25.to 0 0 []
    refine Owe.stk [(.int 1), (.int 6)] ?_
    refine oIshr K32 10 (d12_9 hby) ?_
    show Owe _ _ _ _ T24 (mkF m 10 #[.val (.ref x)] [(.int 3)])
    exact oRetI K32 [] (t := .int) hret (by simp) rfl (d12_10 hby) (by decide) (by decide) hlk (fun x hx => by cases hx) ⟨rfl, rfl⟩
theorem rmLen4 (G : Gl Z a0 z0 fm) (x : Addr) (b : Nat) (c0 c1 c2 c3 : Int32) (h0 : Heap) (hZh : Ext Z.heap h0) (hsf : Own Z h0 []) (P0 : Str Z h0 b x [c0, c1, c2, c3]) :
    Ctr l Z ELs yn242 jdk_42_method_54_code 1 (some .int) [] (rmk 1 0 0 13) #[(.ref x)] [] h0 (fun v h fs => (fs = [] ∧ v = some (.int 4))) := by
  obtain ⟨hw, hEL, wS, OS, hz0, OA, OH, OL, OF, rfm⟩ := id G
  refine Ctr.intro pn183 hEL hZh hsf ?_
  intro p e s m below meth c s₁ hby hml hret hnm hlk hh K0
  refine Owe.cast (ef220 m x) ?_
  obtain ⟨t1, -, -, f2, f3, ⟨f4, A5, L6⟩ | ⟨f4, A5⟩⟩ := P0
  · have A7 : Ary Z h0 t1 .byte [(.int (byt c0)), (.int (byt c1)), (.int (byt c2)), (.int (byt c3))] := A5
    obtain ⟨l8, l9, l10, l11, -⟩ := L6
    refine oAloadN K0 1 (d12_0 hby) rfl rfl ?_
    refine oGetF K0 4 (wq hw 25) f3 (d12_1 hby) ?_
    intro T12 K13
    refine oLen K13 5 A7 (n := (4 : Int32)) (by first | rfl | decide) (d12_4 hby) ?_
    refine oAloadN K13 6 (d12_5 hby) rfl rfl ?_
    refine oVirtual K13 9 1 (wq hw 61) (wq hw 62) (nfSel (wq hw 64)) (wq hw 64) (wq hw 63) (wq hw 6) (wq hw 65) f2 (rmCoder0 l Z a0 z0 fm G x h0 K13.old K13.both f4) [] [(.int 4)] (lenOf pd239 rfl) (d12_6 hby) ?_
    intro T14 h16 v17 lo18 fs19 K15 Kp20 q21
    obtain ⟨rfl, rfl⟩ := q21
    have K22 := K15.to 0 0 []
    refine Owe.stk [(.int 0), (.int 4)] ?_
    refine oIshr K22 10 (d12_9 hby) ?_
    show Owe _ _ _ _ T14 (mkF m 10 #[.val (.ref x)] [(.int 4)])
    exact oRetI K22 [] (t := .int) hret (by simp) rfl (d12_10 hby) (by decide) (by decide) hlk (fun x hx => by cases hx) ⟨rfl, rfl⟩
  · have A7 : Ary Z h0 t1 .byte [(.int (byt (c0 >>> ((0 : Int32) &&& 31)))), (.int (byt (c0 >>> ((8 : Int32) &&& 31)))), (.int (byt (c1 >>> ((0 : Int32) &&& 31)))), (.int (byt (c1 >>> ((8 : Int32) &&& 31)))), (.int (byt (c2 >>> ((0 : Int32) &&& 31)))), (.int (byt (c2 >>> ((8 : Int32) &&& 31)))), (.int (byt (c3 >>> ((0 : Int32) &&& 31)))), (.int (byt (c3 >>> ((8 : Int32) &&& 31))))] := A5
    refine oAloadN K0 1 (d12_0 hby) rfl rfl ?_
    refine oGetF K0 4 (wq hw 25) f3 (d12_1 hby) ?_
    intro T23 K24
    refine oLen K24 5 A7 (n := (8 : Int32)) (by first | rfl | decide) (d12_4 hby) ?_
    refine oAloadN K24 6 (d12_5 hby) rfl rfl ?_
    refine oVirtual K24 9 1 (wq hw 61) (wq hw 62) (nfSel (wq hw 64)) (wq hw 64) (wq hw 63) (wq hw 6) (wq hw 65) f2 (rmCoder1 l Z a0 z0 fm G x h0 K24.old K24.both f4) [] [(.int 8)] (lenOf pd239 rfl) (d12_6 hby) ?_
    intro T25 h27 v28 lo29 fs30 K26 Kp31 q32
    obtain ⟨rfl, rfl⟩ := q32
    have K33 := K26.to 0 0 []
    refine Owe.stk [(.int 1), (.int 8)] ?_
    refine oIshr K33 10 (d12_9 hby) ?_
    show Owe _ _ _ _ T25 (mkF m 10 #[.val (.ref x)] [(.int 4)])
    exact oRetI K33 [] (t := .int) hret (by simp) rfl (d12_10 hby) (by decide) (by decide) hlk (fun x hx => by cases hx) ⟨rfl, rfl⟩
abbrev y13 := jdk_41_method_11_code
theorem d13_0 : DC y13 0 (.iload_n 0) 1 := hb' (by decide +kernel)
theorem d13_1 : DC y13 1 (.ifCond .lt 8) 3 := hb' (by decide +kernel)
theorem d13_4 : DC y13 4 (.iload_n 0) 1 := hb' (by decide +kernel)
theorem d13_5 : DC y13 5 (.iload_n 1) 1 := hb' (by decide +kernel)
theorem d13_6 : DC y13 6 (.if_icmp .lt 10) 3 := hb' (by decide +kernel)
theorem d13_16 : DC y13 16 (.iload_n 0) 1 := hb' (by decide +kernel)
theorem d13_17 : DC y13 17 (.ireturn) 1 := hb' (by decide +kernel)
theorem ef251 (m : MethodId) (x0 : Int32) (x1 : Int32) (x2 : Value) (hx2 : x2.isRef = true) : entryFrame m #[(.int x0), (.int x1), x2] 3 = mkF m 0 #[.val (.int x0), .val (.int x1), .val x2] [] := by rcases ref_cases hx2 with rfl | ⟨_, rfl⟩ <;> first | (simp [entryFrame, mkF, argsToLocals, Value.category]; done) | rfl
abbrev yn252 : MethodName := ⟨"jdk/internal/util/Preconditions", "checkIndex", "(IILjava/util/function/BiFunction;)I"⟩
theorem pn253 : plainName "jdk/internal/util/Preconditions" = true := by first | (simp [plainName, overriddenIn]; done) | decide +kernel
theorem rmPck (G : Gl Z a0 z0 fm) (i n : Int32) (h0 : Heap) (hZh : Ext Z.heap h0) (hsf : Own Z h0 []) (P0 : ¬ i < (0 : Int32)) (P1 : i < n) :
    Ctr l Z ELs yn252 jdk_41_method_11_code 3 (some .int) [] (rmk 0 0 0 0) #[(.int i), (.int n), fm] [] h0 (fun v h fs => (fs = [] ∧ v = some (.int i))) := by
  obtain ⟨hw, hEL, wS, OS, hz0, OA, OH, OL, OF, rfm⟩ := id G
  refine Ctr.intro pn253 hEL hZh hsf ?_
  intro p e s m below meth c s₁ hby hml hret hnm hlk hh K0
  refine Owe.cast (ef251 m i n fm rfm) ?_
  refine oIloadN K0 1 (d13_0 hby) rfl ?_
  refine oIfNo K0 4 (d13_1 hby) (XT.i0_lt_f P0) ?_
  refine oIloadN K0 5 (d13_4 hby) rfl ?_
  refine oIloadN K0 6 (d13_5 hby) rfl ?_
  refine oIcmpYes K0 16 (d13_6 hby) (XT.ii_lt_t P1) ?_
  refine oIloadN K0 17 (d13_16 hby) rfl ?_
  exact oRetI K0 [] (t := .int) hret (by simp) rfl (d13_17 hby) (by decide) (by decide) hlk (fun x hx => by cases hx) ⟨rfl, rfl⟩
abbrev y14 := jdk_42_method_155_code
theorem d14_0 : DC y14 0 (.iload_n 0) 1 := hb' (by decide +kernel)
theorem d14_1 : DC y14 1 (.iload_n 1) 1 := hb' (by decide +kernel)
theorem d14_2 : DC y14 2 (.getstatic 1053) 3 := hb' (by decide +kernel)
theorem d14_5 : DC y14 5 (.invokestatic 1059) 3 := hb' (by decide +kernel)
theorem pd259 : parseMethodDescriptor "(IILjava/util/function/BiFunction;)I" = some ⟨[.int, .int, (.object "java/util/function/BiFunction")], some .int⟩ := by decide +kernel
theorem d14_8 : DC y14 8 (.pop) 1 := hb' (by decide +kernel)
theorem d14_9 : DC y14 9 (.return_) 1 := hb' (by decide +kernel)
theorem ef262 (m : MethodId) (x0 : Int32) (x1 : Int32) : entryFrame m #[(.int x0), (.int x1)] 2 = mkF m 0 #[.val (.int x0), .val (.int x1)] [] := by first | (simp [entryFrame, mkF, argsToLocals, Value.category]; done) | rfl
abbrev yn263 : MethodName := ⟨"java/lang/String", "checkIndex", "(II)V"⟩
theorem rmCkI (G : Gl Z a0 z0 fm) (i n : Int32) (h0 : Heap) (hZh : Ext Z.heap h0) (hsf : Own Z h0 []) (P0 : ¬ i < (0 : Int32)) (P1 : i < n) :
    Ctr l Z ELs yn263 jdk_42_method_155_code 2 none [] (rmk 1 0 0 14) #[(.int i), (.int n)] [] h0 (fun v h fs => (fs = [] ∧ v = none)) := by
  obtain ⟨hw, hEL, wS, OS, hz0, OA, OH, OL, OF, rfm⟩ := id G
  refine Ctr.intro pn183 hEL hZh hsf ?_
  intro p e s m below meth c s₁ hby hml hret hnm hlk hh K0
  refine Owe.cast (ef262 m i n) ?_
  refine oIloadN K0 1 (d14_0 hby) rfl ?_
  refine oIloadN K0 2 (d14_1 hby) rfl ?_
  refine oGetS K0 5 (wq hw 33) (OF.ext K0.old) (d14_2 hby) ?_
  intro T1 K2
  refine oStatic K2 8 0 (wq hw 35) (wq hw 36) (wq hw 34) (wq hw 37) (rmPck l Z a0 z0 fm G i n h0 K2.old K2.both P0 P1) [(.int i), (.int n), fm] [] (lenOf pd259 rfl) (d14_5 hby) ?_
  intro T3 h5 v6 lo7 fs8 K4 Kp9 q10
  obtain ⟨rfl, rfl⟩ := q10
  have K11 := K4.to 0 0 []
  refine Owe.stk [(.int i)] ?_
  refine oPop K11 9 (d14_8 hby) rfl ?_
  exact oRetV K11 [] hret (d14_9 hby) (by decide) (by decide) hlk (fun x hx => by cases hx) ⟨rfl, rfl⟩
abbrev y15 := jdk_43_method_2_code
theorem d15_0 : DC y15 0 (.iload_n 1) 1 := hb' (by decide +kernel)
theorem d15_1 : DC y15 1 (.aload_n 0) 1 := hb' (by decide +kernel)
theorem d15_2 : DC y15 2 (.arraylength) 1 := hb' (by decide +kernel)
theorem d15_3 : DC y15 3 (.invokestatic 9) 3 := hb' (by decide +kernel)
theorem pd269 : parseMethodDescriptor "(II)V" = some ⟨[.int, .int], none⟩ := by decide +kernel
theorem d15_6 : DC y15 6 (.aload_n 0) 1 := hb' (by decide +kernel)
theorem d15_7 : DC y15 7 (.iload_n 1) 1 := hb' (by decide +kernel)
theorem d15_8 : DC y15 8 (.baload) 1 := hb' (by decide +kernel)
theorem d15_9 : DC y15 9 (.sipush 255) 3 := hb' (by decide +kernel)
theorem d15_12 : DC y15 12 (.iand) 1 := hb' (by decide +kernel)
theorem d15_13 : DC y15 13 (.i2c) 1 := hb' (by decide +kernel)
theorem d15_14 : DC y15 14 (.ireturn) 1 := hb' (by decide +kernel)
abbrev yn277 : MethodName := ⟨"java/lang/StringLatin1", "charAt", "([BI)C"⟩
theorem pn278 : plainName "java/lang/StringLatin1" = true := by first | (simp [plainName, overriddenIn]; done) | decide +kernel
theorem rmLCx (G : Gl Z a0 z0 fm) (t : Addr) (i : Int32) (h0 : Heap) (hZh : Ext Z.heap h0) (hsf : Own Z h0 []) (P0 : Ary Z h0 t .byte [(.int 48), (.int 49), (.int 50), (.int 51), (.int 52), (.int 53), (.int 54), (.int 55), (.int 56), (.int 57), (.int 97), (.int 98), (.int 99), (.int 100), (.int 101), (.int 102), (.int 65), (.int 66), (.int 67), (.int 68), (.int 69), (.int 70)]) (P1 : ¬ i < (0 : Int32)) (P2 : i < (22 : Int32)) :
    Ctr l Z ELs yn277 jdk_43_method_2_code 2 (some .char) [] (rmk 2 0 0 27) #[(.ref t), (.int i)] [] h0 (fun v h fs => (∃ r : Int32, fs = [] ∧ v = some (.int r) ∧ ¬ r < (0 : Int32) ∧ ¬ (65535 : Int32) < r)) := by
  obtain ⟨hw, hEL, wS, OS, hz0, OA, OH, OL, OF, rfm⟩ := id G
  refine Ctr.intro pn278 hEL hZh hsf ?_
  intro p e s m below meth c s₁ hby hml hret hnm hlk hh K0
  refine Owe.cast (ef94 m t i) ?_
  refine oIloadN K0 1 (d15_0 hby) rfl ?_
  refine oAloadN K0 2 (d15_1 hby) rfl rfl ?_
  refine oLen K0 3 P0 (n := (22 : Int32)) (by first | rfl | decide) (d15_2 hby) ?_
  refine oStatic K0 6 0 (wq hw 30) (wq hw 31) (wq hw 6) (wq hw 32) (rmCkI l Z a0 z0 fm G i ((22 : Int32)) h0 K0.old K0.both P1 P2) [(.int i), (.int 22)] [] (lenOf pd269 rfl) (d15_3 hby) ?_
  intro T1 h3 v4 lo5 fs6 K2 Kp7 q8
  obtain ⟨rfl, rfl⟩ := q8
  have K9 := K2.to 0 0 []
  refine Owe.stk [] ?_
  refine oAloadN K9 7 (d15_6 hby) rfl rfl ?_
  refine oIloadN K9 8 (d15_7 hby) rfl ?_
  refine xBaload K9 9 (P0.keep Kp7 nin0) (own_int [48, 49, 50, 51, 52, 53, 54, 55, 56, 57, 97, 98, 99, 100, 101, 102, 65, 66, 67, 68, 69, 70]) P1 (own_l22 P1 P2) (d15_8 hby) ?_
  intro bb10
  refine oSipushV K9 12 (255 : Int32) (d15_9 hby) (by decide) ?_
  refine oIand K9 13 (d15_12 hby) ?_
  refine oI2c K9 14 (d15_13 hby) ?_
  exact oRetI K9 [] (t := .char) hret (by simp) (XT.narrow_c _) (d15_14 hby) (by decide) (by decide) hlk (fun x hx => by cases hx) ⟨(chr (bb10 &&& (255 : Int32))), rfl, rfl, (chr_rng _).1, (chr_rng _).2⟩
abbrev y16 := jdk_42_method_56_code
theorem d16_0 : DC y16 0 (.aload_n 0) 1 := hb' (by decide +kernel)
theorem d16_1 : DC y16 1 (.invokevirtual 492) 3 := hb' (by decide +kernel)
theorem pd282 : parseMethodDescriptor "()Z" = some ⟨[], some .boolean⟩ := by decide +kernel
theorem d16_4 : DC y16 4 (.ifCond .eq 12) 3 := hb' (by decide +kernel)
theorem d16_7 : DC y16 7 (.aload_n 0) 1 := hb' (by decide +kernel)
theorem d16_8 : DC y16 8 (.getfield 9) 3 := hb' (by decide +kernel)
theorem d16_11 : DC y16 11 (.iload_n 1) 1 := hb' (by decide +kernel)
theorem d16_12 : DC y16 12 (.invokestatic 495) 3 := hb' (by decide +kernel)
theorem d16_15 : DC y16 15 (.ireturn) 1 := hb' (by decide +kernel)
abbrev yn289 : MethodName := ⟨"java/lang/String", "charAt", "(I)C"⟩
theorem rmChx (G : Gl Z a0 z0 fm) (x t : Addr) (i : Int32) (h0 : Heap) (hZh : Ext Z.heap h0) (hsf : Own Z h0 []) (P0 : Exa Z h0 x "java/lang/String") (P1 : Fld Z h0 x "java/lang/String" "value" "[B" (.ref t)) (P2 : Fld Z h0 x "java/lang/String" "coder" "B" (.int 0)) (P3 : Ary Z h0 t .byte [(.int 48), (.int 49), (.int 50), (.int 51), (.int 52), (.int 53), (.int 54), (.int 55), (.int 56), (.int 57), (.int 97), (.int 98), (.int 99), (.int 100), (.int 101), (.int 102), (.int 65), (.int 66), (.int 67), (.int 68), (.int 69), (.int 70)]) (P4 : ¬ i < (0 : Int32)) (P5 : i < (22 : Int32)) :
    Ctr l Z ELs yn289 jdk_42_method_56_code 2 (some .char) [] (rmk 3 0 0 40) #[(.ref x), (.int i)] [] h0 (fun v h fs => (∃ r : Int32, fs = [] ∧ v = some (.int r) ∧ ¬ r < (0 : Int32) ∧ ¬ (65535 : Int32) < r)) := by
  obtain ⟨hw, hEL, wS, OS, hz0, OA, OH, OL, OF, rfm⟩ := id G
  refine Ctr.intro pn183 hEL hZh hsf ?_
  intro p e s m below meth c s₁ hby hml hret hnm hlk hh K0
  refine Owe.cast (ef94 m x i) ?_
  refine oAloadN K0 1 (d16_0 hby) rfl rfl ?_
  refine oVirtual K0 4 0 (wq hw 18) (wq hw 19) (nfSel (wq hw 21)) (wq hw 21) (wq hw 20) (wq hw 6) (wq hw 22) P0 (rmIsL0 l Z a0 z0 fm G x h0 K0.old K0.both P2) [] [] (lenOf pd282 rfl) (d16_1 hby) ?_
  intro T1 h3 v4 lo5 fs6 K2 Kp7 q8
  obtain ⟨rfl, rfl⟩ := q8
  have K9 := K2.to 0 0 []
  refine Owe.stk [(.int 1)] ?_
  refine oIfNo K9 7 (d16_4 hby) (XT.i0_eq_f (by decide)) ?_
  refine oAloadN K9 8 (d16_7 hby) rfl rfl ?_
  refine oGetF K9 11 (wq hw 25) (P1.keep Kp7 nin0) (d16_8 hby) ?_
  intro T10 K11
  refine oIloadN K11 12 (d16_11 hby) rfl ?_
  refine oStatic K11 15 0 (wq hw 26) (wq hw 27) (wq hw 28) (wq hw 29) (rmLCx l Z a0 z0 fm G t i h3 K11.old K11.both (P3.keep Kp7 nin0) P4 P5) [(.ref t), (.int i)] [] (lenOf pd150 rfl) (d16_12 hby) ?_
  intro T12 h14 v15 lo16 fs17 K13 Kp18 q19
  obtain ⟨r20, rfl, rfl, f21, f22⟩ := q19
  have K23 := K13.to 0 0 []
  refine Owe.stk [(.int r20)] ?_
  exact oRetI K23 [] (t := .char) hret (by simp) (narrow_rng f21 f22) (d16_15 hby) (by decide) (by decide) hlk (fun x hx => by cases hx) ⟨r20, rfl, rfl, f21, f22⟩
abbrev y17 := method_2_code
theorem d17_0 : DC y17 0 (.iload_n 0) 1 := hb' (by decide +kernel)
theorem d17_1 : DC y17 1 (.bipush 7) 2 := hb' (by decide +kernel)
theorem d17_3 : DC y17 3 (.iand) 1 := hb' (by decide +kernel)
theorem d17_4 : DC y17 4 (.istore_n 1) 1 := hb' (by decide +kernel)
theorem d17_5 : DC y17 5 (.iload_n 0) 1 := hb' (by decide +kernel)
theorem d17_6 : DC y17 6 (.iconst 3) 1 := hb' (by decide +kernel)
theorem d17_7 : DC y17 7 (.iushr) 1 := hb' (by decide +kernel)
theorem d17_8 : DC y17 8 (.istore_n 2) 1 := hb' (by decide +kernel)
theorem d17_9 : DC y17 9 (.iload_n 1) 1 := hb' (by decide +kernel)
theorem d17_10 : DC y17 10 (.ifCond .ne 6) 3 := hb' (by decide +kernel)
theorem d17_13 : DC y17 13 (.bipush 37) 2 := hb' (by decide +kernel)
theorem d17_15 : DC y17 15 (.ireturn) 1 := hb' (by decide +kernel)
theorem d17_16 : DC y17 16 (.iload_n 1) 1 := hb' (by decide +kernel)
theorem d17_17 : DC y17 17 (.iconst 1) 1 := hb' (by decide +kernel)
theorem d17_18 : DC y17 18 (.if_icmp .ne 6) 3 := hb' (by decide +kernel)
theorem d17_21 : DC y17 21 (.bipush 43) 2 := hb' (by decide +kernel)
theorem d17_23 : DC y17 23 (.ireturn) 1 := hb' (by decide +kernel)
theorem d17_24 : DC y17 24 (.iload_n 1) 1 := hb' (by decide +kernel)
theorem d17_25 : DC y17 25 (.iconst 4) 1 := hb' (by decide +kernel)
theorem d17_26 : DC y17 26 (.if_icmp .gt 13) 3 := hb' (by decide +kernel)
theorem d17_39 : DC y17 39 (.iload_n 1) 1 := hb' (by decide +kernel)
theorem d17_40 : DC y17 40 (.iconst 5) 1 := hb' (by decide +kernel)
theorem d17_41 : DC y17 41 (.if_icmp .ne 10) 3 := hb' (by decide +kernel)
theorem d17_44 : DC y17 44 (.iload_n 2) 1 := hb' (by decide +kernel)
theorem d17_45 : DC y17 45 (.sipush 255) 3 := hb' (by decide +kernel)
theorem d17_48 : DC y17 48 (.iand) 1 := hb' (by decide +kernel)
theorem d17_49 : DC y17 49 (.i2c) 1 := hb' (by decide +kernel)
theorem d17_50 : DC y17 50 (.ireturn) 1 := hb' (by decide +kernel)
theorem d17_51 : DC y17 51 (.iload_n 2) 1 := hb' (by decide +kernel)
theorem d17_52 : DC y17 52 (.ldc 15) 2 := hb' (by decide +kernel)
theorem d17_54 : DC y17 54 (.iand) 1 := hb' (by decide +kernel)
theorem d17_55 : DC y17 55 (.i2c) 1 := hb' (by decide +kernel)
theorem d17_56 : DC y17 56 (.ireturn) 1 := hb' (by decide +kernel)
theorem d17_29 : DC y17 29 (.ldc 7) 2 := hb' (by decide +kernel)
theorem d17_31 : DC y17 31 (.iload_n 2) 1 := hb' (by decide +kernel)
theorem d17_32 : DC y17 32 (.bipush 22) 2 := hb' (by decide +kernel)
theorem d17_34 : DC y17 34 (.irem) 1 := hb' (by decide +kernel)
theorem d17_35 : DC y17 35 (.invokevirtual 9) 3 := hb' (by decide +kernel)
theorem pd329 : parseMethodDescriptor "(I)C" = some ⟨[.int], some .char⟩ := by decide +kernel
theorem d17_38 : DC y17 38 (.ireturn) 1 := hb' (by decide +kernel)
theorem ef331 (m : MethodId) (x0 : Int32) : entryFrame m #[(.int x0)] 3 = mkF m 0 #[.val (.int x0), .unset, .unset] [] := by first | (simp [entryFrame, mkF, argsToLocals, Value.category]; done) | rfl
abbrev yn332 : MethodName := ⟨"com/example/paredown/paredown/PercentEncodingDecodeBytesPinLaw", "draw", "(I)C"⟩
theorem pn333 : plainName "com/example/paredown/paredown/PercentEncodingDecodeBytesPinLaw" = true := by first | (simp [plainName, overriddenIn]; done) | decide +kernel
theorem rmDraw (G : Gl Z a0 z0 fm) (p0 : Int32) (h0 : Heap) (hZh : Ext Z.heap h0) (hsf : Own Z h0 []) :
    Ctr l Z ELs yn332 method_2_code 3 (some .char) [] (rmk 4 2 92 53) #[(.int p0)] [] h0 (fun v h fs => (∃ r : Int32, fs = [] ∧ v = some (.int r) ∧ ¬ r < (0 : Int32) ∧ ¬ (65535 : Int32) < r)) := by
  obtain ⟨hw, hEL, wS, OS, hz0, OA, OH, OL, OF, rfm⟩ := id G
  refine Ctr.intro pn333 hEL hZh hsf ?_
  intro p e s m below meth c s₁ hby hml hret hnm hlk hh K0
  refine Owe.cast (ef331 m p0) ?_
  refine oIloadN K0 1 (d17_0 hby) rfl ?_
  refine oBipushV K0 3 (7 : Int32) (d17_1 hby) (by decide) ?_
  refine oIand K0 4 (d17_3 hby) ?_
  refine oIstoreN K0 5 (d17_4 hby) (l' := #[.val (.int p0), .val (.int (p0 &&& (7 : Int32))), .unset]) rfl ?_
  refine oIloadN K0 6 (d17_5 hby) rfl ?_
  refine oIconstV K0 7 (3 : Int32) (d17_6 hby) rfl ?_
  refine oIushr K0 8 (d17_7 hby) ?_
  refine oIstoreN K0 9 (d17_8 hby) (l' := #[.val (.int p0), .val (.int (p0 &&& (7 : Int32))), .val (.int (XT.ushr p0 (3 : Int32)))]) rfl ?_
  refine oIloadN K0 10 (d17_9 hby) rfl ?_
  by_cases hc1 : (p0 &&& (7 : Int32)) = (0 : Int32)
  · refine oIfNo K0 13 (d17_10 hby) (XT.i0_ne_f hc1) ?_
    refine oBipushV K0 15 (37 : Int32) (d17_13 hby) (by decide) ?_
    exact oRetI K0 [] (t := .char) hret (by simp) (by decide) (d17_15 hby) (by decide) (by decide) hlk (fun x hx => by cases hx) ⟨(37 : Int32), rfl, rfl, (by decide), (by decide)⟩
  · refine oIfYes K0 16 (d17_10 hby) (XT.i0_ne_t hc1) ?_
    refine oIloadN K0 17 (d17_16 hby) rfl ?_
    refine oIconstV K0 18 (1 : Int32) (d17_17 hby) rfl ?_
    by_cases hc2 : (p0 &&& (7 : Int32)) = (1 : Int32)
    · refine oIcmpNo K0 21 (d17_18 hby) (XT.ii_ne_f hc2) ?_
      refine oBipushV K0 23 (43 : Int32) (d17_21 hby) (by decide) ?_
      exact oRetI K0 [] (t := .char) hret (by simp) (by decide) (d17_23 hby) (by decide) (by decide) hlk (fun x hx => by cases hx) ⟨(43 : Int32), rfl, rfl, (by decide), (by decide)⟩
    · refine oIcmpYes K0 24 (d17_18 hby) (XT.ii_ne_t hc2) ?_
      refine oIloadN K0 25 (d17_24 hby) rfl ?_
      refine oIconstV K0 26 (4 : Int32) (d17_25 hby) rfl ?_
      by_cases hc3 : (4 : Int32) < (p0 &&& (7 : Int32))
      · refine oIcmpYes K0 39 (d17_26 hby) (XT.ii_gt_t hc3) ?_
        refine oIloadN K0 40 (d17_39 hby) rfl ?_
        refine oIconstV K0 41 (5 : Int32) (d17_40 hby) rfl ?_
        by_cases hc4 : (p0 &&& (7 : Int32)) = (5 : Int32)
        · refine oIcmpNo K0 44 (d17_41 hby) (XT.ii_ne_f hc4) ?_
          refine oIloadN K0 45 (d17_44 hby) rfl ?_
          refine oSipushV K0 48 (255 : Int32) (d17_45 hby) (by decide) ?_
          refine oIand K0 49 (d17_48 hby) ?_
          refine oI2c K0 50 (d17_49 hby) ?_
          exact oRetI K0 [] (t := .char) hret (by simp) (XT.narrow_c _) (d17_50 hby) (by decide) (by decide) hlk (fun x hx => by cases hx) ⟨(chr ((XT.ushr p0 (3 : Int32)) &&& (255 : Int32))), rfl, rfl, (chr_rng _).1, (chr_rng _).2⟩
        · refine oIcmpYes K0 51 (d17_41 hby) (XT.ii_ne_t hc4) ?_
          refine oIloadN K0 52 (d17_51 hby) rfl ?_
          refine oLdcI K0 54 (wq hw 82) (d17_52 hby) ?_
          refine oIand K0 55 (d17_54 hby) ?_
          refine oI2c K0 56 (d17_55 hby) ?_
          exact oRetI K0 [] (t := .char) hret (by simp) (XT.narrow_c _) (d17_56 hby) (by decide) (by decide) hlk (fun x hx => by cases hx) ⟨(chr ((XT.ushr p0 (3 : Int32)) &&& (65535 : Int32))), rfl, rfl, (chr_rng _).1, (chr_rng _).2⟩
      · refine oIcmpNo K0 29 (d17_26 hby) (XT.ii_gt_f hc3) ?_
        refine oLdcC K0 31 88 [(.int 48), (.int 49), (.int 50), (.int 51), (.int 52), (.int 53), (.int 54), (.int 55), (.int 56), (.int 57), (.int 97), (.int 98), (.int 99), (.int 100), (.int 101), (.int 102), (.int 65), (.int 66), (.int 67), (.int 68), (.int 69), (.int 70)] (wq hw 5) wS (by decide) (by decide) (by decide) (d17_29 hby) (by decide) (by decide) (by decide) (by decide) ?_
        intro T8 h5 a6 b10 K9 E7 f11 f12 f13 f14 f15
        have K16 := K9.to 2 92 []
        refine oIloadN K16 32 (d17_31 hby) rfl ?_
        refine oBipushV K16 34 (22 : Int32) (d17_32 hby) (by decide) ?_
        refine oIrem K16 35 (d17_34 hby) (by decide) ?_
        refine oVirtual K16 38 0 (wq hw 13) (wq hw 14) (nfSel (wq hw 16)) (wq hw 16) (wq hw 15) (wq hw 6) (wq hw 17) f11 (rmChx l Z a0 z0 fm G a6 b10 (((XT.ushr p0 (3 : Int32)) % (22 : Int32))) h5 K16.old K16.both f11 f13 f12 f14 (own_d22 p0).1 (own_d22 p0).2) [(.int ((XT.ushr p0 (3 : Int32)) % (22 : Int32)))] [] (lenOf pd329 rfl) (d17_35 hby) ?_
        intro T17 h19 v20 lo21 fs22 K18 Kp23 q24
        obtain ⟨r25, rfl, rfl, f26, f27⟩ := q24
        have K28 := K18.to 2 92 []
        refine Owe.stk [(.int r25)] ?_
        exact oRetI K28 [] (t := .char) hret (by simp) (narrow_rng f26 f27) (d17_38 hby) (by decide) (by decide) hlk (fun x hx => by cases hx) ⟨r25, rfl, rfl, f26, f27⟩
abbrev y18 := method_3_code
theorem d18_0 : DC y18 0 (.iload_n 0) 1 := hb' (by decide +kernel)
theorem d18_1 : DC y18 1 (.bipush 48) 2 := hb' (by decide +kernel)
theorem d18_3 : DC y18 3 (.if_icmp .lt 14) 3 := hb' (by decide +kernel)
theorem d18_17 : DC y18 17 (.iload_n 0) 1 := hb' (by decide +kernel)
theorem d18_18 : DC y18 18 (.bipush 32) 2 := hb' (by decide +kernel)
theorem d18_20 : DC y18 20 (.ior) 1 := hb' (by decide +kernel)
theorem d18_21 : DC y18 21 (.istore_n 1) 1 := hb' (by decide +kernel)
theorem d18_22 : DC y18 22 (.iload_n 1) 1 := hb' (by decide +kernel)
theorem d18_23 : DC y18 23 (.bipush 97) 2 := hb' (by decide +kernel)
theorem d18_25 : DC y18 25 (.if_icmp .lt 17) 3 := hb' (by decide +kernel)
theorem d18_42 : DC y18 42 (.iconst (-1)) 1 := hb' (by decide +kernel)
theorem d18_43 : DC y18 43 (.ireturn) 1 := hb' (by decide +kernel)
theorem d18_28 : DC y18 28 (.iload_n 1) 1 := hb' (by decide +kernel)
theorem d18_29 : DC y18 29 (.bipush 102) 2 := hb' (by decide +kernel)
theorem d18_31 : DC y18 31 (.if_icmp .gt 11) 3 := hb' (by decide +kernel)
theorem d18_34 : DC y18 34 (.iload_n 1) 1 := hb' (by decide +kernel)
theorem d18_35 : DC y18 35 (.bipush 97) 2 := hb' (by decide +kernel)
theorem d18_37 : DC y18 37 (.isub) 1 := hb' (by decide +kernel)
theorem d18_38 : DC y18 38 (.bipush 10) 2 := hb' (by decide +kernel)
theorem d18_40 : DC y18 40 (.iadd) 1 := hb' (by decide +kernel)
theorem d18_41 : DC y18 41 (.ireturn) 1 := hb' (by decide +kernel)
theorem d18_6 : DC y18 6 (.iload_n 0) 1 := hb' (by decide +kernel)
theorem d18_7 : DC y18 7 (.bipush 57) 2 := hb' (by decide +kernel)
theorem d18_9 : DC y18 9 (.if_icmp .gt 8) 3 := hb' (by decide +kernel)
theorem d18_12 : DC y18 12 (.iload_n 0) 1 := hb' (by decide +kernel)
theorem d18_13 : DC y18 13 (.bipush 48) 2 := hb' (by decide +kernel)
theorem d18_15 : DC y18 15 (.isub) 1 := hb' (by decide +kernel)
theorem d18_16 : DC y18 16 (.ireturn) 1 := hb' (by decide +kernel)
theorem ef363 (m : MethodId) (x0 : Int32) : entryFrame m #[(.int x0)] 2 = mkF m 0 #[.val (.int x0), .unset] [] := by first | (simp [entryFrame, mkF, argsToLocals, Value.category]; done) | rfl
abbrev yn364 : MethodName := ⟨"com/example/paredown/paredown/PercentEncodingDecodeBytesPinLaw", "hex", "(C)I"⟩
theorem rmHex (G : Gl Z a0 z0 fm) (cc : Int32) (h0 : Heap) (hZh : Ext Z.heap h0) (hsf : Own Z h0 []) (P0 : ¬ cc < (0 : Int32)) (P1 : ¬ (65535 : Int32) < cc) :
    Ctr l Z ELs yn364 method_3_code 2 (some .int) [] (rmk 0 0 0 0) #[(.int cc)] [] h0 (fun v h fs => (fs = [] ∧ v = some (.int (hx cc)))) := by
  obtain ⟨hw, hEL, wS, OS, hz0, OA, OH, OL, OF, rfm⟩ := id G
  refine Ctr.intro pn333 hEL hZh hsf ?_
  intro p e s m below meth c s₁ hby hml hret hnm hlk hh K0
  refine Owe.cast (ef363 m cc) ?_
  refine oIloadN K0 1 (d18_0 hby) rfl ?_
  refine oBipushV K0 3 (48 : Int32) (d18_1 hby) (by decide) ?_
  by_cases hc1 : cc < (48 : Int32)
  · refine oIcmpYes K0 17 (d18_3 hby) (XT.ii_lt_t hc1) ?_
    refine oIloadN K0 18 (d18_17 hby) rfl ?_
    refine oBipushV K0 20 (32 : Int32) (d18_18 hby) (by decide) ?_
    refine oIor K0 21 (d18_20 hby) ?_
    refine oIstoreN K0 22 (d18_21 hby) (l' := #[.val (.int cc), .val (.int (cc ||| (32 : Int32)))]) rfl ?_
    refine oIloadN K0 23 (d18_22 hby) rfl ?_
    refine oBipushV K0 25 (97 : Int32) (d18_23 hby) (by decide) ?_
    by_cases hc2 : (cc ||| (32 : Int32)) < (97 : Int32)
    · refine oIcmpYes K0 42 (d18_25 hby) (XT.ii_lt_t hc2) ?_
      refine oIconstV K0 43 (-1 : Int32) (d18_42 hby) rfl ?_
      refine Owe.stk [(.int (hx cc))] ?_ (congrArg (fun z => [Value.int z]) (own_hexC P0 (Or.inl hc1) (Or.inl hc2)))
      exact oRetI K0 [] (t := .int) hret (by simp) rfl (d18_43 hby) (by decide) (by decide) hlk (fun x hx => by cases hx) ⟨rfl, rfl⟩
    · refine oIcmpNo K0 28 (d18_25 hby) (XT.ii_lt_f hc2) ?_
      refine oIloadN K0 29 (d18_28 hby) rfl ?_
      refine oBipushV K0 31 (102 : Int32) (d18_29 hby) (by decide) ?_
      by_cases hc3 : (102 : Int32) < (cc ||| (32 : Int32))
      · refine oIcmpYes K0 42 (d18_31 hby) (XT.ii_gt_t hc3) ?_
        refine oIconstV K0 43 (-1 : Int32) (d18_42 hby) rfl ?_
        refine Owe.stk [(.int (hx cc))] ?_ (congrArg (fun z => [Value.int z]) (own_hexC P0 (Or.inl hc1) (Or.inr hc3)))
        exact oRetI K0 [] (t := .int) hret (by simp) rfl (d18_43 hby) (by decide) (by decide) hlk (fun x hx => by cases hx) ⟨rfl, rfl⟩
      · refine oIcmpNo K0 34 (d18_31 hby) (XT.ii_gt_f hc3) ?_
        refine oIloadN K0 35 (d18_34 hby) rfl ?_
        refine oBipushV K0 37 (97 : Int32) (d18_35 hby) (by decide) ?_
        refine oIsub K0 38 (d18_37 hby) ?_
        refine oBipushV K0 40 (10 : Int32) (d18_38 hby) (by decide) ?_
        refine oIadd K0 41 (d18_40 hby) ?_
        refine Owe.stk [(.int (hx cc))] ?_ (congrArg (fun z => [Value.int z]) (own_hexB P0 (Or.inl hc1) hc2 hc3))
        exact oRetI K0 [] (t := .int) hret (by simp) rfl (d18_41 hby) (by decide) (by decide) hlk (fun x hx => by cases hx) ⟨rfl, rfl⟩
  · refine oIcmpNo K0 6 (d18_3 hby) (XT.ii_lt_f hc1) ?_
    refine oIloadN K0 7 (d18_6 hby) rfl ?_
    refine oBipushV K0 9 (57 : Int32) (d18_7 hby) (by decide) ?_
    by_cases hc4 : (57 : Int32) < cc
    · refine oIcmpYes K0 17 (d18_9 hby) (XT.ii_gt_t hc4) ?_
      refine oIloadN K0 18 (d18_17 hby) rfl ?_
      refine oBipushV K0 20 (32 : Int32) (d18_18 hby) (by decide) ?_
      refine oIor K0 21 (d18_20 hby) ?_
      refine oIstoreN K0 22 (d18_21 hby) (l' := #[.val (.int cc), .val (.int (cc ||| (32 : Int32)))]) rfl ?_
      refine oIloadN K0 23 (d18_22 hby) rfl ?_
      refine oBipushV K0 25 (97 : Int32) (d18_23 hby) (by decide) ?_
      by_cases hc5 : (cc ||| (32 : Int32)) < (97 : Int32)
      · refine oIcmpYes K0 42 (d18_25 hby) (XT.ii_lt_t hc5) ?_
        refine oIconstV K0 43 (-1 : Int32) (d18_42 hby) rfl ?_
        refine Owe.stk [(.int (hx cc))] ?_ (congrArg (fun z => [Value.int z]) (own_hexC P0 (Or.inr hc4) (Or.inl hc5)))
        exact oRetI K0 [] (t := .int) hret (by simp) rfl (d18_43 hby) (by decide) (by decide) hlk (fun x hx => by cases hx) ⟨rfl, rfl⟩
      · refine oIcmpNo K0 28 (d18_25 hby) (XT.ii_lt_f hc5) ?_
        refine oIloadN K0 29 (d18_28 hby) rfl ?_
        refine oBipushV K0 31 (102 : Int32) (d18_29 hby) (by decide) ?_
        by_cases hc6 : (102 : Int32) < (cc ||| (32 : Int32))
        · refine oIcmpYes K0 42 (d18_31 hby) (XT.ii_gt_t hc6) ?_
          refine oIconstV K0 43 (-1 : Int32) (d18_42 hby) rfl ?_
          refine Owe.stk [(.int (hx cc))] ?_ (congrArg (fun z => [Value.int z]) (own_hexC P0 (Or.inr hc4) (Or.inr hc6)))
          exact oRetI K0 [] (t := .int) hret (by simp) rfl (d18_43 hby) (by decide) (by decide) hlk (fun x hx => by cases hx) ⟨rfl, rfl⟩
        · refine oIcmpNo K0 34 (d18_31 hby) (XT.ii_gt_f hc6) ?_
          refine oIloadN K0 35 (d18_34 hby) rfl ?_
          refine oBipushV K0 37 (97 : Int32) (d18_35 hby) (by decide) ?_
          refine oIsub K0 38 (d18_37 hby) ?_
          refine oBipushV K0 40 (10 : Int32) (d18_38 hby) (by decide) ?_
          refine oIadd K0 41 (d18_40 hby) ?_
          refine Owe.stk [(.int (hx cc))] ?_ (congrArg (fun z => [Value.int z]) (own_hexB P0 (Or.inr hc4) hc5 hc6))
          exact oRetI K0 [] (t := .int) hret (by simp) rfl (d18_41 hby) (by decide) (by decide) hlk (fun x hx => by cases hx) ⟨rfl, rfl⟩
    · refine oIcmpNo K0 12 (d18_9 hby) (XT.ii_gt_f hc4) ?_
      refine oIloadN K0 13 (d18_12 hby) rfl ?_
      refine oBipushV K0 15 (48 : Int32) (d18_13 hby) (by decide) ?_
      refine oIsub K0 16 (d18_15 hby) ?_
      refine Owe.stk [(.int (hx cc))] ?_ (congrArg (fun z => [Value.int z]) (own_hexA hc1 hc4))
      exact oRetI K0 [] (t := .int) hret (by simp) rfl (d18_16 hby) (by decide) (by decide) hlk (fun x hx => by cases hx) ⟨rfl, rfl⟩
abbrev y19 := prog_18_method_5_code
theorem d19_0 : DC y19 0 (.iload_n 0) 1 := hb' (by decide +kernel)
theorem d19_1 : DC y19 1 (.bipush 48) 2 := hb' (by decide +kernel)
theorem d19_3 : DC y19 3 (.if_icmp .lt 14) 3 := hb' (by decide +kernel)
theorem d19_17 : DC y19 17 (.iload_n 0) 1 := hb' (by decide +kernel)
theorem d19_18 : DC y19 18 (.bipush 97) 2 := hb' (by decide +kernel)
theorem d19_20 : DC y19 20 (.if_icmp .lt 17) 3 := hb' (by decide +kernel)
theorem d19_37 : DC y19 37 (.iload_n 0) 1 := hb' (by decide +kernel)
theorem d19_38 : DC y19 38 (.bipush 65) 2 := hb' (by decide +kernel)
theorem d19_40 : DC y19 40 (.if_icmp .lt 17) 3 := hb' (by decide +kernel)
theorem d19_57 : DC y19 57 (.iconst (-1)) 1 := hb' (by decide +kernel)
theorem d19_58 : DC y19 58 (.ireturn) 1 := hb' (by decide +kernel)
theorem d19_43 : DC y19 43 (.iload_n 0) 1 := hb' (by decide +kernel)
theorem d19_44 : DC y19 44 (.bipush 70) 2 := hb' (by decide +kernel)
theorem d19_46 : DC y19 46 (.if_icmp .gt 11) 3 := hb' (by decide +kernel)
theorem d19_49 : DC y19 49 (.iload_n 0) 1 := hb' (by decide +kernel)
theorem d19_50 : DC y19 50 (.bipush 65) 2 := hb' (by decide +kernel)
theorem d19_52 : DC y19 52 (.isub) 1 := hb' (by decide +kernel)
theorem d19_53 : DC y19 53 (.bipush 10) 2 := hb' (by decide +kernel)
theorem d19_55 : DC y19 55 (.iadd) 1 := hb' (by decide +kernel)
theorem d19_56 : DC y19 56 (.ireturn) 1 := hb' (by decide +kernel)
theorem d19_23 : DC y19 23 (.iload_n 0) 1 := hb' (by decide +kernel)
theorem d19_24 : DC y19 24 (.bipush 102) 2 := hb' (by decide +kernel)
theorem d19_26 : DC y19 26 (.if_icmp .gt 11) 3 := hb' (by decide +kernel)
theorem d19_29 : DC y19 29 (.iload_n 0) 1 := hb' (by decide +kernel)
theorem d19_30 : DC y19 30 (.bipush 97) 2 := hb' (by decide +kernel)
theorem d19_32 : DC y19 32 (.isub) 1 := hb' (by decide +kernel)
theorem d19_33 : DC y19 33 (.bipush 10) 2 := hb' (by decide +kernel)
theorem d19_35 : DC y19 35 (.iadd) 1 := hb' (by decide +kernel)
theorem d19_36 : DC y19 36 (.ireturn) 1 := hb' (by decide +kernel)
theorem d19_6 : DC y19 6 (.iload_n 0) 1 := hb' (by decide +kernel)
theorem d19_7 : DC y19 7 (.bipush 57) 2 := hb' (by decide +kernel)
theorem d19_9 : DC y19 9 (.if_icmp .gt 8) 3 := hb' (by decide +kernel)
theorem d19_12 : DC y19 12 (.iload_n 0) 1 := hb' (by decide +kernel)
theorem d19_13 : DC y19 13 (.bipush 48) 2 := hb' (by decide +kernel)
theorem d19_15 : DC y19 15 (.isub) 1 := hb' (by decide +kernel)
theorem d19_16 : DC y19 16 (.ireturn) 1 := hb' (by decide +kernel)
abbrev yn402 : MethodName := ⟨"com/example/paredown/paredown/PercentEncoding", "hexDigit", "(C)I"⟩
theorem pn403 : plainName "com/example/paredown/paredown/PercentEncoding" = true := by first | (simp [plainName, overriddenIn]; done) | decide +kernel
theorem rmHxD (G : Gl Z a0 z0 fm) (cc : Int32) (h0 : Heap) (hZh : Ext Z.heap h0) (hsf : Own Z h0 []) :
    Ctr l Z ELs yn402 prog_18_method_5_code 1 (some .int) [] (rmk 0 0 0 0) #[(.int cc)] [] h0 (fun v h fs => (fs = [] ∧ v = some (.int (hx cc)))) := by
  obtain ⟨hw, hEL, wS, OS, hz0, OA, OH, OL, OF, rfm⟩ := id G
  refine Ctr.intro pn403 hEL hZh hsf ?_
  intro p e s m below meth c s₁ hby hml hret hnm hlk hh K0
  refine Owe.cast (ef10 m cc) ?_
  refine oIloadN K0 1 (d19_0 hby) rfl ?_
  refine oBipushV K0 3 (48 : Int32) (d19_1 hby) (by decide) ?_
  by_cases hc1 : cc < (48 : Int32)
  · refine oIcmpYes K0 17 (d19_3 hby) (XT.ii_lt_t hc1) ?_
    refine oIloadN K0 18 (d19_17 hby) rfl ?_
    refine oBipushV K0 20 (97 : Int32) (d19_18 hby) (by decide) ?_
    by_cases hc2 : cc < (97 : Int32)
    · refine oIcmpYes K0 37 (d19_20 hby) (XT.ii_lt_t hc2) ?_
      refine oIloadN K0 38 (d19_37 hby) rfl ?_
      refine oBipushV K0 40 (65 : Int32) (d19_38 hby) (by decide) ?_
      by_cases hc3 : cc < (65 : Int32)
      · refine oIcmpYes K0 57 (d19_40 hby) (XT.ii_lt_t hc3) ?_
        refine oIconstV K0 58 (-1 : Int32) (d19_57 hby) rfl ?_
        refine Owe.stk [(.int (hx cc))] ?_ (congrArg (fun z => [Value.int z]) (own_hdN (Or.inl hc1) (Or.inl hc2) (Or.inl hc3)))
        exact oRetI K0 [] (t := .int) hret (by simp) rfl (d19_58 hby) (by decide) (by decide) hlk (fun x hx => by cases hx) ⟨rfl, rfl⟩
      · refine oIcmpNo K0 43 (d19_40 hby) (XT.ii_lt_f hc3) ?_
        refine oIloadN K0 44 (d19_43 hby) rfl ?_
        refine oBipushV K0 46 (70 : Int32) (d19_44 hby) (by decide) ?_
        by_cases hc4 : (70 : Int32) < cc
        · refine oIcmpYes K0 57 (d19_46 hby) (XT.ii_gt_t hc4) ?_
          refine oIconstV K0 58 (-1 : Int32) (d19_57 hby) rfl ?_
          refine Owe.stk [(.int (hx cc))] ?_ (congrArg (fun z => [Value.int z]) (own_hdN (Or.inl hc1) (Or.inl hc2) (Or.inr hc4)))
          exact oRetI K0 [] (t := .int) hret (by simp) rfl (d19_58 hby) (by decide) (by decide) hlk (fun x hx => by cases hx) ⟨rfl, rfl⟩
        · refine oIcmpNo K0 49 (d19_46 hby) (XT.ii_gt_f hc4) ?_
          refine oIloadN K0 50 (d19_49 hby) rfl ?_
          refine oBipushV K0 52 (65 : Int32) (d19_50 hby) (by decide) ?_
          refine oIsub K0 53 (d19_52 hby) ?_
          refine oBipushV K0 55 (10 : Int32) (d19_53 hby) (by decide) ?_
          refine oIadd K0 56 (d19_55 hby) ?_
          refine Owe.stk [(.int (hx cc))] ?_ (congrArg (fun z => [Value.int z]) (own_hd65 hc3 hc4))
          exact oRetI K0 [] (t := .int) hret (by simp) rfl (d19_56 hby) (by decide) (by decide) hlk (fun x hx => by cases hx) ⟨rfl, rfl⟩
    · refine oIcmpNo K0 23 (d19_20 hby) (XT.ii_lt_f hc2) ?_
      refine oIloadN K0 24 (d19_23 hby) rfl ?_
      refine oBipushV K0 26 (102 : Int32) (d19_24 hby) (by decide) ?_
      by_cases hc5 : (102 : Int32) < cc
      · refine oIcmpYes K0 37 (d19_26 hby) (XT.ii_gt_t hc5) ?_
        refine oIloadN K0 38 (d19_37 hby) rfl ?_
        refine oBipushV K0 40 (65 : Int32) (d19_38 hby) (by decide) ?_
        by_cases hc6 : cc < (65 : Int32)
        · refine oIcmpYes K0 57 (d19_40 hby) (XT.ii_lt_t hc6) ?_
          refine oIconstV K0 58 (-1 : Int32) (d19_57 hby) rfl ?_
          refine Owe.stk [(.int (hx cc))] ?_ (congrArg (fun z => [Value.int z]) (own_hdN (Or.inl hc1) (Or.inr hc5) (Or.inl hc6)))
          exact oRetI K0 [] (t := .int) hret (by simp) rfl (d19_58 hby) (by decide) (by decide) hlk (fun x hx => by cases hx) ⟨rfl, rfl⟩
        · refine oIcmpNo K0 43 (d19_40 hby) (XT.ii_lt_f hc6) ?_
          refine oIloadN K0 44 (d19_43 hby) rfl ?_
          refine oBipushV K0 46 (70 : Int32) (d19_44 hby) (by decide) ?_
          by_cases hc7 : (70 : Int32) < cc
          · refine oIcmpYes K0 57 (d19_46 hby) (XT.ii_gt_t hc7) ?_
            refine oIconstV K0 58 (-1 : Int32) (d19_57 hby) rfl ?_
            refine Owe.stk [(.int (hx cc))] ?_ (congrArg (fun z => [Value.int z]) (own_hdN (Or.inl hc1) (Or.inr hc5) (Or.inr hc7)))
            exact oRetI K0 [] (t := .int) hret (by simp) rfl (d19_58 hby) (by decide) (by decide) hlk (fun x hx => by cases hx) ⟨rfl, rfl⟩
          · refine oIcmpNo K0 49 (d19_46 hby) (XT.ii_gt_f hc7) ?_
            refine oIloadN K0 50 (d19_49 hby) rfl ?_
            refine oBipushV K0 52 (65 : Int32) (d19_50 hby) (by decide) ?_
            refine oIsub K0 53 (d19_52 hby) ?_
            refine oBipushV K0 55 (10 : Int32) (d19_53 hby) (by decide) ?_
            refine oIadd K0 56 (d19_55 hby) ?_
            refine Owe.stk [(.int (hx cc))] ?_ (congrArg (fun z => [Value.int z]) (own_hd65 hc6 hc7))
            exact oRetI K0 [] (t := .int) hret (by simp) rfl (d19_56 hby) (by decide) (by decide) hlk (fun x hx => by cases hx) ⟨rfl, rfl⟩
      · refine oIcmpNo K0 29 (d19_26 hby) (XT.ii_gt_f hc5) ?_
        refine oIloadN K0 30 (d19_29 hby) rfl ?_
        refine oBipushV K0 32 (97 : Int32) (d19_30 hby) (by decide) ?_
        refine oIsub K0 33 (d19_32 hby) ?_
        refine oBipushV K0 35 (10 : Int32) (d19_33 hby) (by decide) ?_
        refine oIadd K0 36 (d19_35 hby) ?_
        refine Owe.stk [(.int (hx cc))] ?_ (congrArg (fun z => [Value.int z]) (own_hd97 hc2 hc5))
        exact oRetI K0 [] (t := .int) hret (by simp) rfl (d19_36 hby) (by decide) (by decide) hlk (fun x hx => by cases hx) ⟨rfl, rfl⟩
  · refine oIcmpNo K0 6 (d19_3 hby) (XT.ii_lt_f hc1) ?_
    refine oIloadN K0 7 (d19_6 hby) rfl ?_
    refine oBipushV K0 9 (57 : Int32) (d19_7 hby) (by decide) ?_
    by_cases hc8 : (57 : Int32) < cc
    · refine oIcmpYes K0 17 (d19_9 hby) (XT.ii_gt_t hc8) ?_
      refine oIloadN K0 18 (d19_17 hby) rfl ?_
      refine oBipushV K0 20 (97 : Int32) (d19_18 hby) (by decide) ?_
      by_cases hc9 : cc < (97 : Int32)
      · refine oIcmpYes K0 37 (d19_20 hby) (XT.ii_lt_t hc9) ?_
        refine oIloadN K0 38 (d19_37 hby) rfl ?_
        refine oBipushV K0 40 (65 : Int32) (d19_38 hby) (by decide) ?_
        by_cases hc10 : cc < (65 : Int32)
        · refine oIcmpYes K0 57 (d19_40 hby) (XT.ii_lt_t hc10) ?_
          refine oIconstV K0 58 (-1 : Int32) (d19_57 hby) rfl ?_
          refine Owe.stk [(.int (hx cc))] ?_ (congrArg (fun z => [Value.int z]) (own_hdN (Or.inr hc8) (Or.inl hc9) (Or.inl hc10)))
          exact oRetI K0 [] (t := .int) hret (by simp) rfl (d19_58 hby) (by decide) (by decide) hlk (fun x hx => by cases hx) ⟨rfl, rfl⟩
        · refine oIcmpNo K0 43 (d19_40 hby) (XT.ii_lt_f hc10) ?_
          refine oIloadN K0 44 (d19_43 hby) rfl ?_
          refine oBipushV K0 46 (70 : Int32) (d19_44 hby) (by decide) ?_
          by_cases hc11 : (70 : Int32) < cc
          · refine oIcmpYes K0 57 (d19_46 hby) (XT.ii_gt_t hc11) ?_
            refine oIconstV K0 58 (-1 : Int32) (d19_57 hby) rfl ?_
            refine Owe.stk [(.int (hx cc))] ?_ (congrArg (fun z => [Value.int z]) (own_hdN (Or.inr hc8) (Or.inl hc9) (Or.inr hc11)))
            exact oRetI K0 [] (t := .int) hret (by simp) rfl (d19_58 hby) (by decide) (by decide) hlk (fun x hx => by cases hx) ⟨rfl, rfl⟩
          · refine oIcmpNo K0 49 (d19_46 hby) (XT.ii_gt_f hc11) ?_
            refine oIloadN K0 50 (d19_49 hby) rfl ?_
            refine oBipushV K0 52 (65 : Int32) (d19_50 hby) (by decide) ?_
            refine oIsub K0 53 (d19_52 hby) ?_
            refine oBipushV K0 55 (10 : Int32) (d19_53 hby) (by decide) ?_
            refine oIadd K0 56 (d19_55 hby) ?_
            refine Owe.stk [(.int (hx cc))] ?_ (congrArg (fun z => [Value.int z]) (own_hd65 hc10 hc11))
            exact oRetI K0 [] (t := .int) hret (by simp) rfl (d19_56 hby) (by decide) (by decide) hlk (fun x hx => by cases hx) ⟨rfl, rfl⟩
      · refine oIcmpNo K0 23 (d19_20 hby) (XT.ii_lt_f hc9) ?_
        refine oIloadN K0 24 (d19_23 hby) rfl ?_
        refine oBipushV K0 26 (102 : Int32) (d19_24 hby) (by decide) ?_
        by_cases hc12 : (102 : Int32) < cc
        · refine oIcmpYes K0 37 (d19_26 hby) (XT.ii_gt_t hc12) ?_
          refine oIloadN K0 38 (d19_37 hby) rfl ?_
          refine oBipushV K0 40 (65 : Int32) (d19_38 hby) (by decide) ?_
          by_cases hc13 : cc < (65 : Int32)
          · refine oIcmpYes K0 57 (d19_40 hby) (XT.ii_lt_t hc13) ?_
            refine oIconstV K0 58 (-1 : Int32) (d19_57 hby) rfl ?_
            refine Owe.stk [(.int (hx cc))] ?_ (congrArg (fun z => [Value.int z]) (own_hdN (Or.inr hc8) (Or.inr hc12) (Or.inl hc13)))
            exact oRetI K0 [] (t := .int) hret (by simp) rfl (d19_58 hby) (by decide) (by decide) hlk (fun x hx => by cases hx) ⟨rfl, rfl⟩
          · refine oIcmpNo K0 43 (d19_40 hby) (XT.ii_lt_f hc13) ?_
            refine oIloadN K0 44 (d19_43 hby) rfl ?_
            refine oBipushV K0 46 (70 : Int32) (d19_44 hby) (by decide) ?_
            by_cases hc14 : (70 : Int32) < cc
            · refine oIcmpYes K0 57 (d19_46 hby) (XT.ii_gt_t hc14) ?_
              refine oIconstV K0 58 (-1 : Int32) (d19_57 hby) rfl ?_
              refine Owe.stk [(.int (hx cc))] ?_ (congrArg (fun z => [Value.int z]) (own_hdN (Or.inr hc8) (Or.inr hc12) (Or.inr hc14)))
              exact oRetI K0 [] (t := .int) hret (by simp) rfl (d19_58 hby) (by decide) (by decide) hlk (fun x hx => by cases hx) ⟨rfl, rfl⟩
            · refine oIcmpNo K0 49 (d19_46 hby) (XT.ii_gt_f hc14) ?_
              refine oIloadN K0 50 (d19_49 hby) rfl ?_
              refine oBipushV K0 52 (65 : Int32) (d19_50 hby) (by decide) ?_
              refine oIsub K0 53 (d19_52 hby) ?_
              refine oBipushV K0 55 (10 : Int32) (d19_53 hby) (by decide) ?_
              refine oIadd K0 56 (d19_55 hby) ?_
              refine Owe.stk [(.int (hx cc))] ?_ (congrArg (fun z => [Value.int z]) (own_hd65 hc13 hc14))
              exact oRetI K0 [] (t := .int) hret (by simp) rfl (d19_56 hby) (by decide) (by decide) hlk (fun x hx => by cases hx) ⟨rfl, rfl⟩
        · refine oIcmpNo K0 29 (d19_26 hby) (XT.ii_gt_f hc12) ?_
          refine oIloadN K0 30 (d19_29 hby) rfl ?_
          refine oBipushV K0 32 (97 : Int32) (d19_30 hby) (by decide) ?_
          refine oIsub K0 33 (d19_32 hby) ?_
          refine oBipushV K0 35 (10 : Int32) (d19_33 hby) (by decide) ?_
          refine oIadd K0 36 (d19_35 hby) ?_
          refine Owe.stk [(.int (hx cc))] ?_ (congrArg (fun z => [Value.int z]) (own_hd97 hc9 hc12))
          exact oRetI K0 [] (t := .int) hret (by simp) rfl (d19_36 hby) (by decide) (by decide) hlk (fun x hx => by cases hx) ⟨rfl, rfl⟩
    · refine oIcmpNo K0 12 (d19_9 hby) (XT.ii_gt_f hc8) ?_
      refine oIloadN K0 13 (d19_12 hby) rfl ?_
      refine oBipushV K0 15 (48 : Int32) (d19_13 hby) (by decide) ?_
      refine oIsub K0 16 (d19_15 hby) ?_
      refine Owe.stk [(.int (hx cc))] ?_ (congrArg (fun z => [Value.int z]) (own_hexA hc1 hc8))
      exact oRetI K0 [] (t := .int) hret (by simp) rfl (d19_16 hby) (by decide) (by decide) hlk (fun x hx => by cases hx) ⟨rfl, rfl⟩
abbrev y20 := method_4_code
theorem d20_0 : DC y20 0 (.iload_n 1) 1 := hb' (by decide +kernel)
theorem d20_1 : DC y20 1 (.ifCond .eq 12) 3 := hb' (by decide +kernel)
theorem d20_13 : DC y20 13 (.iload_n 0) 1 := hb' (by decide +kernel)
theorem d20_14 : DC y20 14 (.sipush 255) 3 := hb' (by decide +kernel)
theorem d20_17 : DC y20 17 (.if_icmp .le 5) 3 := hb' (by decide +kernel)
theorem d20_20 : DC y20 20 (.iconst (-1)) 1 := hb' (by decide +kernel)
theorem d20_21 : DC y20 21 (.ireturn) 1 := hb' (by decide +kernel)
theorem d20_22 : DC y20 22 (.iload_n 0) 1 := hb' (by decide +kernel)
theorem d20_23 : DC y20 23 (.ireturn) 1 := hb' (by decide +kernel)
theorem d20_4 : DC y20 4 (.iload_n 0) 1 := hb' (by decide +kernel)
theorem d20_5 : DC y20 5 (.bipush 43) 2 := hb' (by decide +kernel)
theorem d20_7 : DC y20 7 (.if_icmp .ne 6) 3 := hb' (by decide +kernel)
theorem d20_10 : DC y20 10 (.bipush 32) 2 := hb' (by decide +kernel)
theorem d20_12 : DC y20 12 (.ireturn) 1 := hb' (by decide +kernel)
abbrev yn419 : MethodName := ⟨"com/example/paredown/paredown/PercentEncodingDecodeBytesPinLaw", "plain", "(CZ)I"⟩
theorem rmPlain (G : Gl Z a0 z0 fm) (cc f : Int32) (h0 : Heap) (hZh : Ext Z.heap h0) (hsf : Own Z h0 []) (P0 : ¬ cc < (0 : Int32)) (P1 : ¬ (65535 : Int32) < cc) :
    Ctr l Z ELs yn419 method_4_code 2 (some .int) [] (rmk 0 0 0 0) #[(.int cc), (.int f)] [] h0 (fun v h fs => (fs = [] ∧ v = some (.int (one f cc)) ∧ okP f cc ∧ ¬ (one f cc) < (0 : Int32) ∧ ¬ (255 : Int32) < (one f cc)) ∨ (fs = [] ∧ v = some (.int (-1)) ∧ ¬ okP f cc)) := by
  obtain ⟨hw, hEL, wS, OS, hz0, OA, OH, OL, OF, rfm⟩ := id G
  refine Ctr.intro pn333 hEL hZh hsf ?_
  intro p e s m below meth c s₁ hby hml hret hnm hlk hh K0
  refine Owe.cast (ef262 m cc f) ?_
  refine oIloadN K0 1 (d20_0 hby) rfl ?_
  by_cases hc1 : f = (0 : Int32)
  · refine oIfYes K0 13 (d20_1 hby) (XT.i0_eq_t hc1) ?_
    refine oIloadN K0 14 (d20_13 hby) rfl ?_
    refine oSipushV K0 17 (255 : Int32) (d20_14 hby) (by decide) ?_
    by_cases hc2 : (255 : Int32) < cc
    · refine oIcmpNo K0 20 (d20_17 hby) (XT.ii_le_f hc2) ?_
      refine oIconstV K0 21 (-1 : Int32) (d20_20 hby) rfl ?_
      exact oRetI K0 [] (t := .int) hret (by simp) rfl (d20_21 hby) (by decide) (by decide) hlk (fun x hx => by cases hx) (Or.inr ⟨rfl, rfl, (own_nok (Or.inl hc1) hc2)⟩)
    · refine oIcmpYes K0 22 (d20_17 hby) (XT.ii_le_t hc2) ?_
      refine oIloadN K0 23 (d20_22 hby) rfl ?_
      refine Owe.stk [(.int (one f cc))] ?_ (congrArg (fun z => [Value.int z]) ((own_one2 (Or.inl hc1)).symm))
      exact oRetI K0 [] (t := .int) hret (by simp) rfl (d20_23 hby) (by decide) (by decide) hlk (fun x hx => by cases hx) (Or.inl ⟨rfl, rfl, (Or.inr hc2), (own_oneR (Or.inr hc2) P0).1, (own_oneR (Or.inr hc2) P0).2⟩)
  · refine oIfNo K0 4 (d20_1 hby) (XT.i0_eq_f hc1) ?_
    refine oIloadN K0 5 (d20_4 hby) rfl ?_
    refine oBipushV K0 7 (43 : Int32) (d20_5 hby) (by decide) ?_
    by_cases hc3 : cc = (43 : Int32)
    · refine oIcmpNo K0 10 (d20_7 hby) (XT.ii_ne_f hc3) ?_
      refine oBipushV K0 12 (32 : Int32) (d20_10 hby) (by decide) ?_
      refine Owe.stk [(.int (one f cc))] ?_ (congrArg (fun z => [Value.int z]) (own_one1 hc1 hc3))
      exact oRetI K0 [] (t := .int) hret (by simp) rfl (d20_12 hby) (by decide) (by decide) hlk (fun x hx => by cases hx) (Or.inl ⟨rfl, rfl, (Or.inl ⟨hc1, hc3⟩), (own_oneR (Or.inl ⟨hc1, hc3⟩) P0).1, (own_oneR (Or.inl ⟨hc1, hc3⟩) P0).2⟩)
    · refine oIcmpYes K0 13 (d20_7 hby) (XT.ii_ne_t hc3) ?_
      refine oIloadN K0 14 (d20_13 hby) rfl ?_
      refine oSipushV K0 17 (255 : Int32) (d20_14 hby) (by decide) ?_
      by_cases hc4 : (255 : Int32) < cc
      · refine oIcmpNo K0 20 (d20_17 hby) (XT.ii_le_f hc4) ?_
        refine oIconstV K0 21 (-1 : Int32) (d20_20 hby) rfl ?_
        exact oRetI K0 [] (t := .int) hret (by simp) rfl (d20_21 hby) (by decide) (by decide) hlk (fun x hx => by cases hx) (Or.inr ⟨rfl, rfl, (own_nok (Or.inr hc3) hc4)⟩)
      · refine oIcmpYes K0 22 (d20_17 hby) (XT.ii_le_t hc4) ?_
        refine oIloadN K0 23 (d20_22 hby) rfl ?_
        refine Owe.stk [(.int (one f cc))] ?_ (congrArg (fun z => [Value.int z]) ((own_one2 (Or.inr hc3)).symm))
        exact oRetI K0 [] (t := .int) hret (by simp) rfl (d20_23 hby) (by decide) (by decide) hlk (fun x hx => by cases hx) (Or.inl ⟨rfl, rfl, (Or.inr hc4), (own_oneR (Or.inr hc4) P0).1, (own_oneR (Or.inr hc4) P0).2⟩)
abbrev y21 := method_5_code
theorem d21_0 : DC y21 0 (.aload_n 0) 1 := hb' (by decide +kernel)
theorem d21_1 : DC y21 1 (.iload_n 2) 1 := hb' (by decide +kernel)
theorem d21_2 : DC y21 2 (.caload) 1 := hb' (by decide +kernel)
theorem d21_3 : DC y21 3 (.istore 6) 2 := hb' (by decide +kernel)
theorem d21_5 : DC y21 5 (.iload 6) 2 := hb' (by decide +kernel)
theorem d21_7 : DC y21 7 (.bipush 37) 2 := hb' (by decide +kernel)
theorem d21_9 : DC y21 9 (.if_icmp .ne 73) 3 := hb' (by decide +kernel)
theorem d21_12 : DC y21 12 (.iload_n 2) 1 := hb' (by decide +kernel)
theorem d21_13 : DC y21 13 (.iconst 2) 1 := hb' (by decide +kernel)
theorem d21_14 : DC y21 14 (.iadd) 1 := hb' (by decide +kernel)
theorem d21_15 : DC y21 15 (.iload_n 1) 1 := hb' (by decide +kernel)
theorem d21_16 : DC y21 16 (.if_icmp .lt 5) 3 := hb' (by decide +kernel)
theorem d21_19 : DC y21 19 (.iconst (-1)) 1 := hb' (by decide +kernel)
theorem d21_20 : DC y21 20 (.ireturn) 1 := hb' (by decide +kernel)
theorem d21_82 : DC y21 82 (.iload 6) 2 := hb' (by decide +kernel)
theorem d21_84 : DC y21 84 (.iload_n 3) 1 := hb' (by decide +kernel)
theorem d21_85 : DC y21 85 (.invokestatic 22) 3 := hb' (by decide +kernel)
theorem pd438 : parseMethodDescriptor "(CZ)I" = some ⟨[.char, .boolean], some .int⟩ := by decide +kernel
theorem d21_88 : DC y21 88 (.istore 7) 2 := hb' (by decide +kernel)
theorem d21_90 : DC y21 90 (.iload 7) 2 := hb' (by decide +kernel)
theorem d21_92 : DC y21 92 (.ifCond .ge 5) 3 := hb' (by decide +kernel)
theorem d21_97 : DC y21 97 (.aload 4) 2 := hb' (by decide +kernel)
theorem d21_99 : DC y21 99 (.aload 5) 2 := hb' (by decide +kernel)
theorem d21_101 : DC y21 101 (.iconst 0) 1 := hb' (by decide +kernel)
theorem d21_102 : DC y21 102 (.iaload) 1 := hb' (by decide +kernel)
theorem d21_103 : DC y21 103 (.iload 7) 2 := hb' (by decide +kernel)
theorem d21_105 : DC y21 105 (.iastore) 1 := hb' (by decide +kernel)
theorem d21_106 : DC y21 106 (.aload 5) 2 := hb' (by decide +kernel)
theorem d21_108 : DC y21 108 (.iconst 0) 1 := hb' (by decide +kernel)
theorem d21_109 : DC y21 109 (.aload 5) 2 := hb' (by decide +kernel)
theorem d21_111 : DC y21 111 (.iconst 0) 1 := hb' (by decide +kernel)
theorem d21_112 : DC y21 112 (.iaload) 1 := hb' (by decide +kernel)
theorem d21_113 : DC y21 113 (.iconst 1) 1 := hb' (by decide +kernel)
theorem d21_114 : DC y21 114 (.iadd) 1 := hb' (by decide +kernel)
theorem d21_115 : DC y21 115 (.iastore) 1 := hb' (by decide +kernel)
theorem d21_116 : DC y21 116 (.iload_n 2) 1 := hb' (by decide +kernel)
theorem d21_117 : DC y21 117 (.iconst 1) 1 := hb' (by decide +kernel)
theorem d21_118 : DC y21 118 (.iadd) 1 := hb' (by decide +kernel)
theorem d21_119 : DC y21 119 (.ireturn) 1 := hb' (by decide +kernel)
theorem d21_95 : DC y21 95 (.iconst (-1)) 1 := hb' (by decide +kernel)
theorem d21_96 : DC y21 96 (.ireturn) 1 := hb' (by decide +kernel)
theorem ef462 (m : MethodId) (x0 : Addr) (x1 : Int32) (x2 : Int32) (x3 : Int32) (x4 : Addr) (x5 : Addr) : entryFrame m #[(.ref x0), (.int x1), (.int x2), (.int x3), (.ref x4), (.ref x5)] 9 = mkF m 0 #[.val (.ref x0), .val (.int x1), .val (.int x2), .val (.int x3), .val (.ref x4), .val (.ref x5), .unset, .unset, .unset] [] := by first | (simp [entryFrame, mkF, argsToLocals, Value.category]; done) | rfl
abbrev yn463 : MethodName := ⟨"com/example/paredown/paredown/PercentEncodingDecodeBytesPinLaw", "step", "([CIIZ[I[I)I"⟩
theorem rmStep1_0_0 (G : Gl Z a0 z0 fm) (ch o q : Addr) (f c0 c1 c2 c3 e0 e1 e2 e3 : Int32) (h0 : Heap) (hZh : Ext Z.heap h0) (hsf : Own Z h0 [o, q]) (P0 : Ary Z h0 ch .char [(.int c0), (.int c1), (.int c2), (.int c3)]) (P1 : Ary Z h0 o .int [(.int e0), (.int e1), (.int e2), (.int e3)]) (P2 : Ary Z h0 q .int [(.int 0)]) (P3 : o ≠ q) (P4 : ¬ c0 < (0 : Int32)) (P5 : ¬ (65535 : Int32) < c0) (P6 : ¬ c1 < (0 : Int32)) (P7 : ¬ (65535 : Int32) < c1) (P8 : ¬ c2 < (0 : Int32)) (P9 : ¬ (65535 : Int32) < c2) (P10 : ¬ c3 < (0 : Int32)) (P11 : ¬ (65535 : Int32) < c3) :
    Ctr l Z ELs yn463 method_5_code 9 (some .int) [] (rmk 1 0 0 13) #[(.ref ch), (.int 1), (.int 0), (.int f), (.ref o), (.ref q)] [o, q] h0 (fun v h fs => (fs = [] ∧ v = some (.int (-1)) ∧ Ary Z h o .int [(.int e0), (.int e1), (.int e2), (.int e3)] ∧ Ary Z h q .int [(.int 0)] ∧ (FO f c0)) ∨ (fs = [] ∧ v = some (.int 1) ∧ Ary Z h o .int [(.int (one f c0)), (.int e1), (.int e2), (.int e3)] ∧ Ary Z h q .int [(.int 1)] ∧ ¬ c0 = (37 : Int32) ∧ okP f c0 ∧ ¬ (one f c0) < (0 : Int32) ∧ ¬ (255 : Int32) < (one f c0))) := by
  obtain ⟨hw, hEL, wS, OS, hz0, OA, OH, OL, OF, rfm⟩ := id G
  refine Ctr.intro pn333 hEL hZh hsf ?_
  intro p e s m below meth c s₁ hby hml hret hnm hlk hh K0
  refine Owe.cast (ef462 m ch ((1 : Int32)) ((0 : Int32)) f o q) ?_
  refine oAloadN K0 1 (d21_0 hby) rfl rfl ?_
  refine oIloadN K0 2 (d21_1 hby) rfl ?_
  refine oCaload K0 3 P0 0 (by decide) (by decide) rfl (d21_2 hby) ?_
  refine oIstore K0 5 (d21_3 hby) (l' := #[.val (.ref ch), .val (.int 1), .val (.int 0), .val (.int f), .val (.ref o), .val (.ref q), .val (.int c0), .unset, .unset]) rfl ?_
  refine oIload K0 7 (d21_5 hby) rfl ?_
  refine oBipushV K0 9 (37 : Int32) (d21_7 hby) (by decide) ?_
  by_cases hc1 : c0 = (37 : Int32)
  · refine oIcmpNo K0 12 (d21_9 hby) (XT.ii_ne_f hc1) ?_
    refine oIloadN K0 13 (d21_12 hby) rfl ?_
    refine oIconstV K0 14 (2 : Int32) (d21_13 hby) rfl ?_
    refine oIadd K0 15 (d21_14 hby) ?_
    show Owe _ _ _ _ s₁ (mkF m 15 #[.val (.ref ch), .val (.int 1), .val (.int 0), .val (.int f), .val (.ref o), .val (.ref q), .val (.int c0), .unset, .unset] [(.int 2)])
    refine oIloadN K0 16 (d21_15 hby) rfl ?_
    refine oIcmpNo K0 19 (d21_16 hby) (XT.ii_lt_f (by decide)) ?_
    refine oIconstV K0 20 (-1 : Int32) (d21_19 hby) rfl ?_
    exact oRetI K0 [] (t := .int) hret (by simp) rfl (d21_20 hby) (by decide) (by decide) hlk (fun x hx => by cases hx) (Or.inl ⟨rfl, rfl, P1, P2, (Or.inl hc1)⟩)
  · refine oIcmpYes K0 82 (d21_9 hby) (XT.ii_ne_t hc1) ?_
    refine oIload K0 84 (d21_82 hby) rfl ?_
    refine oIloadN K0 85 (d21_84 hby) rfl ?_
    refine oStatic K0 88 0 (wq hw 96) (wq hw 97) (wq hw 3) (wq hw 98) (rmPlain l Z a0 z0 fm G c0 f h0 K0.old K0.both P4 P5) [(.int c0), (.int f)] [] (lenOf pd438 rfl) (d21_85 hby) ?_
    intro T2 h4 v5 lo6 fs7 K3 Kp8 q9
    rcases q9 with qq9_0 | qq9_1
    · obtain ⟨rfl, rfl, f10, f11, f12⟩ := qq9_0
      have K13 := K3.to 0 0 [o, q]
      refine Owe.stk [(.int (one f c0))] ?_
      refine oIstore K13 90 (d21_88 hby) (l' := #[.val (.ref ch), .val (.int 1), .val (.int 0), .val (.int f), .val (.ref o), .val (.ref q), .val (.int c0), .val (.int (one f c0)), .unset]) rfl ?_
      refine oIload K13 92 (d21_90 hby) rfl ?_
      refine oIfYes K13 97 (d21_92 hby) (XT.i0_ge_t f11) ?_
      refine oAload K13 99 (d21_97 hby) rfl rfl ?_
      refine oAload K13 101 (d21_99 hby) rfl rfl ?_
      refine oIconstV K13 102 (0 : Int32) (d21_101 hby) rfl ?_
      refine oIaload K13 103 (P2.keep Kp8 nin0) 0 (by decide) (by decide) rfl (d21_102 hby) ?_
      refine oIload K13 105 (d21_103 hby) rfl ?_
      refine oIastore K13 106 (by simp) (P1.keep Kp8 nin0) 0 (by decide) (by decide) nlt rfl (d21_105 hby) ?_
      intro T18 h14 lo17 K19 W15 A16
      have A20 : Ary Z h14 o .int [(.int (one f c0)), (.int e1), (.int e2), (.int e3)] := A16
      refine oAload K19 108 (d21_106 hby) rfl rfl ?_
      refine oIconstV K19 109 (0 : Int32) (d21_108 hby) rfl ?_
      refine oAload K19 111 (d21_109 hby) rfl rfl ?_
      refine oIconstV K19 112 (0 : Int32) (d21_111 hby) rfl ?_
      refine oIaload K19 113 (Ary.other (P2.keep Kp8 nin0) W15 (Ne.symm P3)) 0 (by decide) (by decide) rfl (d21_112 hby) ?_
      refine oIconstV K19 114 (1 : Int32) (d21_113 hby) rfl ?_
      refine oIadd K19 115 (d21_114 hby) ?_
      show Owe _ _ _ _ T18 (mkF m 115 #[.val (.ref ch), .val (.int 1), .val (.int 0), .val (.int f), .val (.ref o), .val (.ref q), .val (.int c0), .val (.int (one f c0)), .unset] [(.int 1), (.int 0), (.ref q)])
      refine oIastore K19 116 (by simp) (Ary.other (P2.keep Kp8 nin0) W15 (Ne.symm P3)) 0 (by decide) (by decide) nlt rfl (d21_115 hby) ?_
      intro T25 h21 lo24 K26 W22 A23
      have A27 : Ary Z h21 q .int [(.int 1)] := A23
      refine oIloadN K26 117 (d21_116 hby) rfl ?_
      refine oIconstV K26 118 (1 : Int32) (d21_117 hby) rfl ?_
      refine oIadd K26 119 (d21_118 hby) ?_
      show Owe _ _ _ _ T25 (mkF m 119 #[.val (.ref ch), .val (.int 1), .val (.int 0), .val (.int f), .val (.ref o), .val (.ref q), .val (.int c0), .val (.int (one f c0)), .unset] [(.int 1)])
      exact oRetI K26 [] (t := .int) hret (by simp) rfl (d21_119 hby) (by decide) (by decide) hlk (fun x hx => by cases hx) (Or.inr ⟨rfl, rfl, (Ary.other A20 W22 P3), A27, hc1, f10, f11, f12⟩)
    · obtain ⟨rfl, rfl, f28⟩ := qq9_1
      have K29 := K3.to 0 0 [o, q]
      refine Owe.stk [(.int (-1))] ?_
      refine oIstore K29 90 (d21_88 hby) (l' := #[.val (.ref ch), .val (.int 1), .val (.int 0), .val (.int f), .val (.ref o), .val (.ref q), .val (.int c0), .val (.int (-1)), .unset]) rfl ?_
      refine oIload K29 92 (d21_90 hby) rfl ?_
      refine oIfNo K29 95 (d21_92 hby) (XT.i0_ge_f (by decide)) ?_
      refine oIconstV K29 96 (-1 : Int32) (d21_95 hby) rfl ?_
      exact oRetI K29 [] (t := .int) hret (by simp) rfl (d21_96 hby) (by decide) (by decide) hlk (fun x hx => by cases hx) (Or.inl ⟨rfl, rfl, (P1.keep Kp8 nin0), (P2.keep Kp8 nin0), (Or.inr f28)⟩)
theorem rmStep2_0_0 (G : Gl Z a0 z0 fm) (ch o q : Addr) (f c0 c1 c2 c3 e0 e1 e2 e3 : Int32) (h0 : Heap) (hZh : Ext Z.heap h0) (hsf : Own Z h0 [o, q]) (P0 : Ary Z h0 ch .char [(.int c0), (.int c1), (.int c2), (.int c3)]) (P1 : Ary Z h0 o .int [(.int e0), (.int e1), (.int e2), (.int e3)]) (P2 : Ary Z h0 q .int [(.int 0)]) (P3 : o ≠ q) (P4 : ¬ c0 < (0 : Int32)) (P5 : ¬ (65535 : Int32) < c0) (P6 : ¬ c1 < (0 : Int32)) (P7 : ¬ (65535 : Int32) < c1) (P8 : ¬ c2 < (0 : Int32)) (P9 : ¬ (65535 : Int32) < c2) (P10 : ¬ c3 < (0 : Int32)) (P11 : ¬ (65535 : Int32) < c3) :
    Ctr l Z ELs yn463 method_5_code 9 (some .int) [] (rmk 1 0 0 13) #[(.ref ch), (.int 2), (.int 0), (.int f), (.ref o), (.ref q)] [o, q] h0 (fun v h fs => (fs = [] ∧ v = some (.int (-1)) ∧ Ary Z h o .int [(.int e0), (.int e1), (.int e2), (.int e3)] ∧ Ary Z h q .int [(.int 0)] ∧ (FO f c0)) ∨ (fs = [] ∧ v = some (.int 1) ∧ Ary Z h o .int [(.int (one f c0)), (.int e1), (.int e2), (.int e3)] ∧ Ary Z h q .int [(.int 1)] ∧ ¬ c0 = (37 : Int32) ∧ okP f c0 ∧ ¬ (one f c0) < (0 : Int32) ∧ ¬ (255 : Int32) < (one f c0))) := by
  obtain ⟨hw, hEL, wS, OS, hz0, OA, OH, OL, OF, rfm⟩ := id G
  refine Ctr.intro pn333 hEL hZh hsf ?_
  intro p e s m below meth c s₁ hby hml hret hnm hlk hh K0
  refine Owe.cast (ef462 m ch ((2 : Int32)) ((0 : Int32)) f o q) ?_
  refine oAloadN K0 1 (d21_0 hby) rfl rfl ?_
  refine oIloadN K0 2 (d21_1 hby) rfl ?_
  refine oCaload K0 3 P0 0 (by decide) (by decide) rfl (d21_2 hby) ?_
  refine oIstore K0 5 (d21_3 hby) (l' := #[.val (.ref ch), .val (.int 2), .val (.int 0), .val (.int f), .val (.ref o), .val (.ref q), .val (.int c0), .unset, .unset]) rfl ?_
  refine oIload K0 7 (d21_5 hby) rfl ?_
  refine oBipushV K0 9 (37 : Int32) (d21_7 hby) (by decide) ?_
  by_cases hc1 : c0 = (37 : Int32)
  · refine oIcmpNo K0 12 (d21_9 hby) (XT.ii_ne_f hc1) ?_
    refine oIloadN K0 13 (d21_12 hby) rfl ?_
    refine oIconstV K0 14 (2 : Int32) (d21_13 hby) rfl ?_
    refine oIadd K0 15 (d21_14 hby) ?_
    show Owe _ _ _ _ s₁ (mkF m 15 #[.val (.ref ch), .val (.int 2), .val (.int 0), .val (.int f), .val (.ref o), .val (.ref q), .val (.int c0), .unset, .unset] [(.int 2)])
    refine oIloadN K0 16 (d21_15 hby) rfl ?_
    refine oIcmpNo K0 19 (d21_16 hby) (XT.ii_lt_f (by decide)) ?_
    refine oIconstV K0 20 (-1 : Int32) (d21_19 hby) rfl ?_
    exact oRetI K0 [] (t := .int) hret (by simp) rfl (d21_20 hby) (by decide) (by decide) hlk (fun x hx => by cases hx) (Or.inl ⟨rfl, rfl, P1, P2, (Or.inl hc1)⟩)
  · refine oIcmpYes K0 82 (d21_9 hby) (XT.ii_ne_t hc1) ?_
    refine oIload K0 84 (d21_82 hby) rfl ?_
    refine oIloadN K0 85 (d21_84 hby) rfl ?_
    refine oStatic K0 88 0 (wq hw 96) (wq hw 97) (wq hw 3) (wq hw 98) (rmPlain l Z a0 z0 fm G c0 f h0 K0.old K0.both P4 P5) [(.int c0), (.int f)] [] (lenOf pd438 rfl) (d21_85 hby) ?_
    intro T2 h4 v5 lo6 fs7 K3 Kp8 q9
    rcases q9 with qq9_0 | qq9_1
    · obtain ⟨rfl, rfl, f10, f11, f12⟩ := qq9_0
      have K13 := K3.to 0 0 [o, q]
      refine Owe.stk [(.int (one f c0))] ?_
      refine oIstore K13 90 (d21_88 hby) (l' := #[.val (.ref ch), .val (.int 2), .val (.int 0), .val (.int f), .val (.ref o), .val (.ref q), .val (.int c0), .val (.int (one f c0)), .unset]) rfl ?_
      refine oIload K13 92 (d21_90 hby) rfl ?_
      refine oIfYes K13 97 (d21_92 hby) (XT.i0_ge_t f11) ?_
      refine oAload K13 99 (d21_97 hby) rfl rfl ?_
      refine oAload K13 101 (d21_99 hby) rfl rfl ?_
      refine oIconstV K13 102 (0 : Int32) (d21_101 hby) rfl ?_
      refine oIaload K13 103 (P2.keep Kp8 nin0) 0 (by decide) (by decide) rfl (d21_102 hby) ?_
      refine oIload K13 105 (d21_103 hby) rfl ?_
      refine oIastore K13 106 (by simp) (P1.keep Kp8 nin0) 0 (by decide) (by decide) nlt rfl (d21_105 hby) ?_
      intro T18 h14 lo17 K19 W15 A16
      have A20 : Ary Z h14 o .int [(.int (one f c0)), (.int e1), (.int e2), (.int e3)] := A16
      refine oAload K19 108 (d21_106 hby) rfl rfl ?_
      refine oIconstV K19 109 (0 : Int32) (d21_108 hby) rfl ?_
      refine oAload K19 111 (d21_109 hby) rfl rfl ?_
      refine oIconstV K19 112 (0 : Int32) (d21_111 hby) rfl ?_
      refine oIaload K19 113 (Ary.other (P2.keep Kp8 nin0) W15 (Ne.symm P3)) 0 (by decide) (by decide) rfl (d21_112 hby) ?_
      refine oIconstV K19 114 (1 : Int32) (d21_113 hby) rfl ?_
      refine oIadd K19 115 (d21_114 hby) ?_
      show Owe _ _ _ _ T18 (mkF m 115 #[.val (.ref ch), .val (.int 2), .val (.int 0), .val (.int f), .val (.ref o), .val (.ref q), .val (.int c0), .val (.int (one f c0)), .unset] [(.int 1), (.int 0), (.ref q)])
      refine oIastore K19 116 (by simp) (Ary.other (P2.keep Kp8 nin0) W15 (Ne.symm P3)) 0 (by decide) (by decide) nlt rfl (d21_115 hby) ?_
      intro T25 h21 lo24 K26 W22 A23
      have A27 : Ary Z h21 q .int [(.int 1)] := A23
      refine oIloadN K26 117 (d21_116 hby) rfl ?_
      refine oIconstV K26 118 (1 : Int32) (d21_117 hby) rfl ?_
      refine oIadd K26 119 (d21_118 hby) ?_
      show Owe _ _ _ _ T25 (mkF m 119 #[.val (.ref ch), .val (.int 2), .val (.int 0), .val (.int f), .val (.ref o), .val (.ref q), .val (.int c0), .val (.int (one f c0)), .unset] [(.int 1)])
      exact oRetI K26 [] (t := .int) hret (by simp) rfl (d21_119 hby) (by decide) (by decide) hlk (fun x hx => by cases hx) (Or.inr ⟨rfl, rfl, (Ary.other A20 W22 P3), A27, hc1, f10, f11, f12⟩)
    · obtain ⟨rfl, rfl, f28⟩ := qq9_1
      have K29 := K3.to 0 0 [o, q]
      refine Owe.stk [(.int (-1))] ?_
      refine oIstore K29 90 (d21_88 hby) (l' := #[.val (.ref ch), .val (.int 2), .val (.int 0), .val (.int f), .val (.ref o), .val (.ref q), .val (.int c0), .val (.int (-1)), .unset]) rfl ?_
      refine oIload K29 92 (d21_90 hby) rfl ?_
      refine oIfNo K29 95 (d21_92 hby) (XT.i0_ge_f (by decide)) ?_
      refine oIconstV K29 96 (-1 : Int32) (d21_95 hby) rfl ?_
      exact oRetI K29 [] (t := .int) hret (by simp) rfl (d21_96 hby) (by decide) (by decide) hlk (fun x hx => by cases hx) (Or.inl ⟨rfl, rfl, (P1.keep Kp8 nin0), (P2.keep Kp8 nin0), (Or.inr f28)⟩)
theorem rmStep2_1_1 (G : Gl Z a0 z0 fm) (ch o q : Addr) (f c0 c1 c2 c3 e0 e1 e2 e3 : Int32) (h0 : Heap) (hZh : Ext Z.heap h0) (hsf : Own Z h0 [o, q]) (P0 : Ary Z h0 ch .char [(.int c0), (.int c1), (.int c2), (.int c3)]) (P1 : Ary Z h0 o .int [(.int e0), (.int e1), (.int e2), (.int e3)]) (P2 : Ary Z h0 q .int [(.int 1)]) (P3 : o ≠ q) (P4 : ¬ c0 < (0 : Int32)) (P5 : ¬ (65535 : Int32) < c0) (P6 : ¬ c1 < (0 : Int32)) (P7 : ¬ (65535 : Int32) < c1) (P8 : ¬ c2 < (0 : Int32)) (P9 : ¬ (65535 : Int32) < c2) (P10 : ¬ c3 < (0 : Int32)) (P11 : ¬ (65535 : Int32) < c3) :
    Ctr l Z ELs yn463 method_5_code 9 (some .int) [] (rmk 1 0 0 13) #[(.ref ch), (.int 2), (.int 1), (.int f), (.ref o), (.ref q)] [o, q] h0 (fun v h fs => (fs = [] ∧ v = some (.int (-1)) ∧ Ary Z h o .int [(.int e0), (.int e1), (.int e2), (.int e3)] ∧ Ary Z h q .int [(.int 1)] ∧ (FO f c1)) ∨ (fs = [] ∧ v = some (.int 2) ∧ Ary Z h o .int [(.int e0), (.int (one f c1)), (.int e2), (.int e3)] ∧ Ary Z h q .int [(.int 2)] ∧ ¬ c1 = (37 : Int32) ∧ okP f c1 ∧ ¬ (one f c1) < (0 : Int32) ∧ ¬ (255 : Int32) < (one f c1))) := by
  obtain ⟨hw, hEL, wS, OS, hz0, OA, OH, OL, OF, rfm⟩ := id G
  refine Ctr.intro pn333 hEL hZh hsf ?_
  intro p e s m below meth c s₁ hby hml hret hnm hlk hh K0
  refine Owe.cast (ef462 m ch ((2 : Int32)) ((1 : Int32)) f o q) ?_
  refine oAloadN K0 1 (d21_0 hby) rfl rfl ?_
  refine oIloadN K0 2 (d21_1 hby) rfl ?_
  refine oCaload K0 3 P0 1 (by decide) (by decide) rfl (d21_2 hby) ?_
  refine oIstore K0 5 (d21_3 hby) (l' := #[.val (.ref ch), .val (.int 2), .val (.int 1), .val (.int f), .val (.ref o), .val (.ref q), .val (.int c1), .unset, .unset]) rfl ?_
  refine oIload K0 7 (d21_5 hby) rfl ?_
  refine oBipushV K0 9 (37 : Int32) (d21_7 hby) (by decide) ?_
  by_cases hc1 : c1 = (37 : Int32)
  · refine oIcmpNo K0 12 (d21_9 hby) (XT.ii_ne_f hc1) ?_
    refine oIloadN K0 13 (d21_12 hby) rfl ?_
    refine oIconstV K0 14 (2 : Int32) (d21_13 hby) rfl ?_
    refine oIadd K0 15 (d21_14 hby) ?_
    show Owe _ _ _ _ s₁ (mkF m 15 #[.val (.ref ch), .val (.int 2), .val (.int 1), .val (.int f), .val (.ref o), .val (.ref q), .val (.int c1), .unset, .unset] [(.int 3)])
    refine oIloadN K0 16 (d21_15 hby) rfl ?_
    refine oIcmpNo K0 19 (d21_16 hby) (XT.ii_lt_f (by decide)) ?_
    refine oIconstV K0 20 (-1 : Int32) (d21_19 hby) rfl ?_
    exact oRetI K0 [] (t := .int) hret (by simp) rfl (d21_20 hby) (by decide) (by decide) hlk (fun x hx => by cases hx) (Or.inl ⟨rfl, rfl, P1, P2, (Or.inl hc1)⟩)
  · refine oIcmpYes K0 82 (d21_9 hby) (XT.ii_ne_t hc1) ?_
    refine oIload K0 84 (d21_82 hby) rfl ?_
    refine oIloadN K0 85 (d21_84 hby) rfl ?_
    refine oStatic K0 88 0 (wq hw 96) (wq hw 97) (wq hw 3) (wq hw 98) (rmPlain l Z a0 z0 fm G c1 f h0 K0.old K0.both P6 P7) [(.int c1), (.int f)] [] (lenOf pd438 rfl) (d21_85 hby) ?_
    intro T2 h4 v5 lo6 fs7 K3 Kp8 q9
    rcases q9 with qq9_0 | qq9_1
    · obtain ⟨rfl, rfl, f10, f11, f12⟩ := qq9_0
      have K13 := K3.to 0 0 [o, q]
      refine Owe.stk [(.int (one f c1))] ?_
      refine oIstore K13 90 (d21_88 hby) (l' := #[.val (.ref ch), .val (.int 2), .val (.int 1), .val (.int f), .val (.ref o), .val (.ref q), .val (.int c1), .val (.int (one f c1)), .unset]) rfl ?_
      refine oIload K13 92 (d21_90 hby) rfl ?_
      refine oIfYes K13 97 (d21_92 hby) (XT.i0_ge_t f11) ?_
      refine oAload K13 99 (d21_97 hby) rfl rfl ?_
      refine oAload K13 101 (d21_99 hby) rfl rfl ?_
      refine oIconstV K13 102 (0 : Int32) (d21_101 hby) rfl ?_
      refine oIaload K13 103 (P2.keep Kp8 nin0) 0 (by decide) (by decide) rfl (d21_102 hby) ?_
      refine oIload K13 105 (d21_103 hby) rfl ?_
      refine oIastore K13 106 (by simp) (P1.keep Kp8 nin0) 1 (by decide) (by decide) nlt rfl (d21_105 hby) ?_
      intro T18 h14 lo17 K19 W15 A16
      have A20 : Ary Z h14 o .int [(.int e0), (.int (one f c1)), (.int e2), (.int e3)] := A16
      refine oAload K19 108 (d21_106 hby) rfl rfl ?_
      refine oIconstV K19 109 (0 : Int32) (d21_108 hby) rfl ?_
      refine oAload K19 111 (d21_109 hby) rfl rfl ?_
      refine oIconstV K19 112 (0 : Int32) (d21_111 hby) rfl ?_
      refine oIaload K19 113 (Ary.other (P2.keep Kp8 nin0) W15 (Ne.symm P3)) 0 (by decide) (by decide) rfl (d21_112 hby) ?_
      refine oIconstV K19 114 (1 : Int32) (d21_113 hby) rfl ?_
      refine oIadd K19 115 (d21_114 hby) ?_
      show Owe _ _ _ _ T18 (mkF m 115 #[.val (.ref ch), .val (.int 2), .val (.int 1), .val (.int f), .val (.ref o), .val (.ref q), .val (.int c1), .val (.int (one f c1)), .unset] [(.int 2), (.int 0), (.ref q)])
      refine oIastore K19 116 (by simp) (Ary.other (P2.keep Kp8 nin0) W15 (Ne.symm P3)) 0 (by decide) (by decide) nlt rfl (d21_115 hby) ?_
      intro T25 h21 lo24 K26 W22 A23
      have A27 : Ary Z h21 q .int [(.int 2)] := A23
      refine oIloadN K26 117 (d21_116 hby) rfl ?_
      refine oIconstV K26 118 (1 : Int32) (d21_117 hby) rfl ?_
      refine oIadd K26 119 (d21_118 hby) ?_
      show Owe _ _ _ _ T25 (mkF m 119 #[.val (.ref ch), .val (.int 2), .val (.int 1), .val (.int f), .val (.ref o), .val (.ref q), .val (.int c1), .val (.int (one f c1)), .unset] [(.int 2)])
      exact oRetI K26 [] (t := .int) hret (by simp) rfl (d21_119 hby) (by decide) (by decide) hlk (fun x hx => by cases hx) (Or.inr ⟨rfl, rfl, (Ary.other A20 W22 P3), A27, hc1, f10, f11, f12⟩)
    · obtain ⟨rfl, rfl, f28⟩ := qq9_1
      have K29 := K3.to 0 0 [o, q]
      refine Owe.stk [(.int (-1))] ?_
      refine oIstore K29 90 (d21_88 hby) (l' := #[.val (.ref ch), .val (.int 2), .val (.int 1), .val (.int f), .val (.ref o), .val (.ref q), .val (.int c1), .val (.int (-1)), .unset]) rfl ?_
      refine oIload K29 92 (d21_90 hby) rfl ?_
      refine oIfNo K29 95 (d21_92 hby) (XT.i0_ge_f (by decide)) ?_
      refine oIconstV K29 96 (-1 : Int32) (d21_95 hby) rfl ?_
      exact oRetI K29 [] (t := .int) hret (by simp) rfl (d21_96 hby) (by decide) (by decide) hlk (fun x hx => by cases hx) (Or.inl ⟨rfl, rfl, (P1.keep Kp8 nin0), (P2.keep Kp8 nin0), (Or.inr f28)⟩)
theorem d21_21 : DC y21 21 (.aload_n 0) 1 := hb' (by decide +kernel)
theorem d21_22 : DC y21 22 (.iload_n 2) 1 := hb' (by decide +kernel)
theorem d21_23 : DC y21 23 (.iconst 1) 1 := hb' (by decide +kernel)
theorem d21_24 : DC y21 24 (.iadd) 1 := hb' (by decide +kernel)
theorem d21_25 : DC y21 25 (.caload) 1 := hb' (by decide +kernel)
theorem d21_26 : DC y21 26 (.invokestatic 16) 3 := hb' (by decide +kernel)
theorem pd470 : parseMethodDescriptor "(C)I" = some ⟨[.char], some .int⟩ := by decide +kernel
theorem d21_29 : DC y21 29 (.istore 7) 2 := hb' (by decide +kernel)
theorem d21_31 : DC y21 31 (.aload_n 0) 1 := hb' (by decide +kernel)
theorem d21_32 : DC y21 32 (.iload_n 2) 1 := hb' (by decide +kernel)
theorem d21_33 : DC y21 33 (.iconst 2) 1 := hb' (by decide +kernel)
theorem d21_34 : DC y21 34 (.iadd) 1 := hb' (by decide +kernel)
theorem d21_35 : DC y21 35 (.caload) 1 := hb' (by decide +kernel)
theorem d21_36 : DC y21 36 (.invokestatic 16) 3 := hb' (by decide +kernel)
theorem d21_39 : DC y21 39 (.istore 8) 2 := hb' (by decide +kernel)
theorem d21_41 : DC y21 41 (.iload 7) 2 := hb' (by decide +kernel)
theorem d21_43 : DC y21 43 (.ifCond .lt 8) 3 := hb' (by decide +kernel)
theorem d21_51 : DC y21 51 (.iconst (-1)) 1 := hb' (by decide +kernel)
theorem d21_52 : DC y21 52 (.ireturn) 1 := hb' (by decide +kernel)
theorem d21_46 : DC y21 46 (.iload 8) 2 := hb' (by decide +kernel)
theorem d21_48 : DC y21 48 (.ifCond .ge 5) 3 := hb' (by decide +kernel)
theorem d21_53 : DC y21 53 (.aload 4) 2 := hb' (by decide +kernel)
theorem d21_55 : DC y21 55 (.aload 5) 2 := hb' (by decide +kernel)
theorem d21_57 : DC y21 57 (.iconst 0) 1 := hb' (by decide +kernel)
theorem d21_58 : DC y21 58 (.iaload) 1 := hb' (by decide +kernel)
theorem d21_59 : DC y21 59 (.iload 7) 2 := hb' (by decide +kernel)
theorem d21_61 : DC y21 61 (.bipush 16) 2 := hb' (by decide +kernel)
theorem d21_63 : DC y21 63 (.imul) 1 := hb' (by decide +kernel)
theorem d21_64 : DC y21 64 (.iload 8) 2 := hb' (by decide +kernel)
theorem d21_66 : DC y21 66 (.iadd) 1 := hb' (by decide +kernel)
theorem d21_67 : DC y21 67 (.iastore) 1 := hb' (by decide +kernel)
theorem d21_68 : DC y21 68 (.aload 5) 2 := hb' (by decide +kernel)
theorem d21_70 : DC y21 70 (.iconst 0) 1 := hb' (by decide +kernel)
theorem d21_71 : DC y21 71 (.aload 5) 2 := hb' (by decide +kernel)
theorem d21_73 : DC y21 73 (.iconst 0) 1 := hb' (by decide +kernel)
theorem d21_74 : DC y21 74 (.iaload) 1 := hb' (by decide +kernel)
theorem d21_75 : DC y21 75 (.iconst 1) 1 := hb' (by decide +kernel)
theorem d21_76 : DC y21 76 (.iadd) 1 := hb' (by decide +kernel)
theorem d21_77 : DC y21 77 (.iastore) 1 := hb' (by decide +kernel)
theorem d21_78 : DC y21 78 (.iload_n 2) 1 := hb' (by decide +kernel)
theorem d21_79 : DC y21 79 (.iconst 3) 1 := hb' (by decide +kernel)
theorem d21_80 : DC y21 80 (.iadd) 1 := hb' (by decide +kernel)
theorem d21_81 : DC y21 81 (.ireturn) 1 := hb' (by decide +kernel)
theorem rmStep3_0_0 (G : Gl Z a0 z0 fm) (ch o q : Addr) (f c0 c1 c2 c3 e0 e1 e2 e3 : Int32) (h0 : Heap) (hZh : Ext Z.heap h0) (hsf : Own Z h0 [o, q]) (P0 : Ary Z h0 ch .char [(.int c0), (.int c1), (.int c2), (.int c3)]) (P1 : Ary Z h0 o .int [(.int e0), (.int e1), (.int e2), (.int e3)]) (P2 : Ary Z h0 q .int [(.int 0)]) (P3 : o ≠ q) (P4 : ¬ c0 < (0 : Int32)) (P5 : ¬ (65535 : Int32) < c0) (P6 : ¬ c1 < (0 : Int32)) (P7 : ¬ (65535 : Int32) < c1) (P8 : ¬ c2 < (0 : Int32)) (P9 : ¬ (65535 : Int32) < c2) (P10 : ¬ c3 < (0 : Int32)) (P11 : ¬ (65535 : Int32) < c3) :
    Ctr l Z ELs yn463 method_5_code 9 (some .int) [] (rmk 1 0 0 13) #[(.ref ch), (.int 3), (.int 0), (.int f), (.ref o), (.ref q)] [o, q] h0 (fun v h fs => (fs = [] ∧ v = some (.int (-1)) ∧ Ary Z h o .int [(.int e0), (.int e1), (.int e2), (.int e3)] ∧ Ary Z h q .int [(.int 0)] ∧ (FT f c0 c1 c2)) ∨ (fs = [] ∧ v = some (.int 1) ∧ Ary Z h o .int [(.int (one f c0)), (.int e1), (.int e2), (.int e3)] ∧ Ary Z h q .int [(.int 1)] ∧ ¬ c0 = (37 : Int32) ∧ okP f c0 ∧ ¬ (one f c0) < (0 : Int32) ∧ ¬ (255 : Int32) < (one f c0)) ∨ (fs = [] ∧ v = some (.int 3) ∧ Ary Z h o .int [(.int (tri c1 c2)), (.int e1), (.int e2), (.int e3)] ∧ Ary Z h q .int [(.int 1)] ∧ c0 = (37 : Int32) ∧ ¬ (hx c1) < (0 : Int32) ∧ ¬ (hx c2) < (0 : Int32) ∧ ¬ (tri c1 c2) < (0 : Int32) ∧ ¬ (255 : Int32) < (tri c1 c2))) := by
  obtain ⟨hw, hEL, wS, OS, hz0, OA, OH, OL, OF, rfm⟩ := id G
  refine Ctr.intro pn333 hEL hZh hsf ?_
  intro p e s m below meth c s₁ hby hml hret hnm hlk hh K0
  refine Owe.cast (ef462 m ch ((3 : Int32)) ((0 : Int32)) f o q) ?_
  refine oAloadN K0 1 (d21_0 hby) rfl rfl ?_
  refine oIloadN K0 2 (d21_1 hby) rfl ?_
  refine oCaload K0 3 P0 0 (by decide) (by decide) rfl (d21_2 hby) ?_
  refine oIstore K0 5 (d21_3 hby) (l' := #[.val (.ref ch), .val (.int 3), .val (.int 0), .val (.int f), .val (.ref o), .val (.ref q), .val (.int c0), .unset, .unset]) rfl ?_
  refine oIload K0 7 (d21_5 hby) rfl ?_
  refine oBipushV K0 9 (37 : Int32) (d21_7 hby) (by decide) ?_
  by_cases hc1 : c0 = (37 : Int32)
  · refine oIcmpNo K0 12 (d21_9 hby) (XT.ii_ne_f hc1) ?_
    refine oIloadN K0 13 (d21_12 hby) rfl ?_
    refine oIconstV K0 14 (2 : Int32) (d21_13 hby) rfl ?_
    refine oIadd K0 15 (d21_14 hby) ?_
    show Owe _ _ _ _ s₁ (mkF m 15 #[.val (.ref ch), .val (.int 3), .val (.int 0), .val (.int f), .val (.ref o), .val (.ref q), .val (.int c0), .unset, .unset] [(.int 2)])
    refine oIloadN K0 16 (d21_15 hby) rfl ?_
    refine oIcmpYes K0 21 (d21_16 hby) (XT.ii_lt_t (by decide)) ?_
    refine oAloadN K0 22 (d21_21 hby) rfl rfl ?_
    refine oIloadN K0 23 (d21_22 hby) rfl ?_
    refine oIconstV K0 24 (1 : Int32) (d21_23 hby) rfl ?_
    refine oIadd K0 25 (d21_24 hby) ?_
    show Owe _ _ _ _ s₁ (mkF m 25 #[.val (.ref ch), .val (.int 3), .val (.int 0), .val (.int f), .val (.ref o), .val (.ref q), .val (.int c0), .unset, .unset] [(.int 1), (.ref ch)])
    refine oCaload K0 26 P0 1 (by decide) (by decide) rfl (d21_25 hby) ?_
    refine oStatic K0 29 0 (wq hw 129) (wq hw 130) (wq hw 3) (wq hw 131) (rmHex l Z a0 z0 fm G c1 h0 K0.old K0.both P6 P7) [(.int c1)] [] (lenOf pd470 rfl) (d21_26 hby) ?_
    intro T2 h4 v5 lo6 fs7 K3 Kp8 q9
    obtain ⟨rfl, rfl⟩ := q9
    have K10 := K3.to 0 0 [o, q]
    refine Owe.stk [(.int (hx c1))] ?_
    refine oIstore K10 31 (d21_29 hby) (l' := #[.val (.ref ch), .val (.int 3), .val (.int 0), .val (.int f), .val (.ref o), .val (.ref q), .val (.int c0), .val (.int (hx c1)), .unset]) rfl ?_
    refine oAloadN K10 32 (d21_31 hby) rfl rfl ?_
    refine oIloadN K10 33 (d21_32 hby) rfl ?_
    refine oIconstV K10 34 (2 : Int32) (d21_33 hby) rfl ?_
    refine oIadd K10 35 (d21_34 hby) ?_
    show Owe _ _ _ _ T2 (mkF m 35 #[.val (.ref ch), .val (.int 3), .val (.int 0), .val (.int f), .val (.ref o), .val (.ref q), .val (.int c0), .val (.int (hx c1)), .unset] [(.int 2), (.ref ch)])
    refine oCaload K10 36 (P0.keep Kp8 nin0) 2 (by decide) (by decide) rfl (d21_35 hby) ?_
    refine oStatic K10 39 0 (wq hw 129) (wq hw 130) (wq hw 3) (wq hw 131) (rmHex l Z a0 z0 fm G c2 h4 K10.old K10.both P8 P9) [(.int c2)] [] (lenOf pd470 rfl) (d21_36 hby) ?_
    intro T11 h13 v14 lo15 fs16 K12 Kp17 q18
    obtain ⟨rfl, rfl⟩ := q18
    have K19 := K12.to 0 0 [o, q]
    refine Owe.stk [(.int (hx c2))] ?_
    refine oIstore K19 41 (d21_39 hby) (l' := #[.val (.ref ch), .val (.int 3), .val (.int 0), .val (.int f), .val (.ref o), .val (.ref q), .val (.int c0), .val (.int (hx c1)), .val (.int (hx c2))]) rfl ?_
    refine oIload K19 43 (d21_41 hby) rfl ?_
    by_cases hc20 : (hx c1) < (0 : Int32)
    · refine oIfYes K19 51 (d21_43 hby) (XT.i0_lt_t hc20) ?_
      refine oIconstV K19 52 (-1 : Int32) (d21_51 hby) rfl ?_
      exact oRetI K19 [] (t := .int) hret (by simp) rfl (d21_52 hby) (by decide) (by decide) hlk (fun x hx => by cases hx) (Or.inl ⟨rfl, rfl, ((P1.keep Kp8 nin0).keep Kp17 nin0), ((P2.keep Kp8 nin0).keep Kp17 nin0), (own_ftA hc1 hc20)⟩)
    · refine oIfNo K19 46 (d21_43 hby) (XT.i0_lt_f hc20) ?_
      refine oIload K19 48 (d21_46 hby) rfl ?_
      by_cases hc21 : (hx c2) < (0 : Int32)
      · refine oIfNo K19 51 (d21_48 hby) (XT.i0_ge_f hc21) ?_
        refine oIconstV K19 52 (-1 : Int32) (d21_51 hby) rfl ?_
        exact oRetI K19 [] (t := .int) hret (by simp) rfl (d21_52 hby) (by decide) (by decide) hlk (fun x hx => by cases hx) (Or.inl ⟨rfl, rfl, ((P1.keep Kp8 nin0).keep Kp17 nin0), ((P2.keep Kp8 nin0).keep Kp17 nin0), (own_ftB hc1 hc21)⟩)
      · refine oIfYes K19 53 (d21_48 hby) (XT.i0_ge_t hc21) ?_
        refine oAload K19 55 (d21_53 hby) rfl rfl ?_
        refine oAload K19 57 (d21_55 hby) rfl rfl ?_
        refine oIconstV K19 58 (0 : Int32) (d21_57 hby) rfl ?_
        refine oIaload K19 59 ((P2.keep Kp8 nin0).keep Kp17 nin0) 0 (by decide) (by decide) rfl (d21_58 hby) ?_
        refine oIload K19 61 (d21_59 hby) rfl ?_
        refine oBipushV K19 63 (16 : Int32) (d21_61 hby) (by decide) ?_
        refine oImul K19 64 (d21_63 hby) ?_
        refine oIload K19 66 (d21_64 hby) rfl ?_
        refine oIadd K19 67 (d21_66 hby) ?_
        refine oIastore K19 68 (by simp) ((P1.keep Kp8 nin0).keep Kp17 nin0) 0 (by decide) (by decide) nlt rfl (d21_67 hby) ?_
        intro T26 h22 lo25 K27 W23 A24
        have A28 : Ary Z h22 o .int [(.int (((hx c1) * (16 : Int32)) + (hx c2))), (.int e1), (.int e2), (.int e3)] := A24
        have A29 : Ary Z h22 o .int [(.int (tri c1 c2)), (.int e1), (.int e2), (.int e3)] := A28
        refine oAload K27 70 (d21_68 hby) rfl rfl ?_
        refine oIconstV K27 71 (0 : Int32) (d21_70 hby) rfl ?_
        refine oAload K27 73 (d21_71 hby) rfl rfl ?_
        refine oIconstV K27 74 (0 : Int32) (d21_73 hby) rfl ?_
        have F30 := (Ary.other ((P2.keep Kp8 nin0).keep Kp17 nin0) W23 (Ne.symm P3))
        refine oIaload K27 75 F30 0 (by decide) (by decide) rfl (d21_74 hby) ?_
        refine oIconstV K27 76 (1 : Int32) (d21_75 hby) rfl ?_
        refine oIadd K27 77 (d21_76 hby) ?_
        show Owe _ _ _ _ T26 (mkF m 77 #[.val (.ref ch), .val (.int 3), .val (.int 0), .val (.int f), .val (.ref o), .val (.ref q), .val (.int c0), .val (.int (hx c1)), .val (.int (hx c2))] [(.int 1), (.int 0), (.ref q)])
        refine oIastore K27 78 (by simp) F30 0 (by decide) (by decide) nlt rfl (d21_77 hby) ?_
        intro T35 h31 lo34 K36 W32 A33
        have A37 : Ary Z h31 q .int [(.int 1)] := A33
        refine oIloadN K36 79 (d21_78 hby) rfl ?_
        refine oIconstV K36 80 (3 : Int32) (d21_79 hby) rfl ?_
        refine oIadd K36 81 (d21_80 hby) ?_
        show Owe _ _ _ _ T35 (mkF m 81 #[.val (.ref ch), .val (.int 3), .val (.int 0), .val (.int f), .val (.ref o), .val (.ref q), .val (.int c0), .val (.int (hx c1)), .val (.int (hx c2))] [(.int 3)])
        exact oRetI K36 [] (t := .int) hret (by simp) rfl (d21_81 hby) (by decide) (by decide) hlk (fun x hx => by cases hx) (Or.inr (Or.inr ⟨rfl, rfl, (Ary.other A29 W32 P3), A37, hc1, hc20, hc21, (own_triR hc20 hc21).1, (own_triR hc20 hc21).2⟩))
  · refine oIcmpYes K0 82 (d21_9 hby) (XT.ii_ne_t hc1) ?_
    refine oIload K0 84 (d21_82 hby) rfl ?_
    refine oIloadN K0 85 (d21_84 hby) rfl ?_
    refine oStatic K0 88 0 (wq hw 96) (wq hw 97) (wq hw 3) (wq hw 98) (rmPlain l Z a0 z0 fm G c0 f h0 K0.old K0.both P4 P5) [(.int c0), (.int f)] [] (lenOf pd438 rfl) (d21_85 hby) ?_
    intro T38 h40 v41 lo42 fs43 K39 Kp44 q45
    rcases q45 with qq45_0 | qq45_1
    · obtain ⟨rfl, rfl, f46, f47, f48⟩ := qq45_0
      have K49 := K39.to 0 0 [o, q]
      refine Owe.stk [(.int (one f c0))] ?_
      refine oIstore K49 90 (d21_88 hby) (l' := #[.val (.ref ch), .val (.int 3), .val (.int 0), .val (.int f), .val (.ref o), .val (.ref q), .val (.int c0), .val (.int (one f c0)), .unset]) rfl ?_
      refine oIload K49 92 (d21_90 hby) rfl ?_
      refine oIfYes K49 97 (d21_92 hby) (XT.i0_ge_t f47) ?_
      refine oAload K49 99 (d21_97 hby) rfl rfl ?_
      refine oAload K49 101 (d21_99 hby) rfl rfl ?_
      refine oIconstV K49 102 (0 : Int32) (d21_101 hby) rfl ?_
      refine oIaload K49 103 (P2.keep Kp44 nin0) 0 (by decide) (by decide) rfl (d21_102 hby) ?_
      refine oIload K49 105 (d21_103 hby) rfl ?_
      refine oIastore K49 106 (by simp) (P1.keep Kp44 nin0) 0 (by decide) (by decide) nlt rfl (d21_105 hby) ?_
      intro T54 h50 lo53 K55 W51 A52
      have A56 : Ary Z h50 o .int [(.int (one f c0)), (.int e1), (.int e2), (.int e3)] := A52
      refine oAload K55 108 (d21_106 hby) rfl rfl ?_
      refine oIconstV K55 109 (0 : Int32) (d21_108 hby) rfl ?_
      refine oAload K55 111 (d21_109 hby) rfl rfl ?_
      refine oIconstV K55 112 (0 : Int32) (d21_111 hby) rfl ?_
      refine oIaload K55 113 (Ary.other (P2.keep Kp44 nin0) W51 (Ne.symm P3)) 0 (by decide) (by decide) rfl (d21_112 hby) ?_
      refine oIconstV K55 114 (1 : Int32) (d21_113 hby) rfl ?_
      refine oIadd K55 115 (d21_114 hby) ?_
      show Owe _ _ _ _ T54 (mkF m 115 #[.val (.ref ch), .val (.int 3), .val (.int 0), .val (.int f), .val (.ref o), .val (.ref q), .val (.int c0), .val (.int (one f c0)), .unset] [(.int 1), (.int 0), (.ref q)])
      refine oIastore K55 116 (by simp) (Ary.other (P2.keep Kp44 nin0) W51 (Ne.symm P3)) 0 (by decide) (by decide) nlt rfl (d21_115 hby) ?_
      intro T61 h57 lo60 K62 W58 A59
      have A63 : Ary Z h57 q .int [(.int 1)] := A59
      refine oIloadN K62 117 (d21_116 hby) rfl ?_
      refine oIconstV K62 118 (1 : Int32) (d21_117 hby) rfl ?_
      refine oIadd K62 119 (d21_118 hby) ?_
      show Owe _ _ _ _ T61 (mkF m 119 #[.val (.ref ch), .val (.int 3), .val (.int 0), .val (.int f), .val (.ref o), .val (.ref q), .val (.int c0), .val (.int (one f c0)), .unset] [(.int 1)])
      exact oRetI K62 [] (t := .int) hret (by simp) rfl (d21_119 hby) (by decide) (by decide) hlk (fun x hx => by cases hx) (Or.inr (Or.inl ⟨rfl, rfl, (Ary.other A56 W58 P3), A63, hc1, f46, f47, f48⟩))
    · obtain ⟨rfl, rfl, f64⟩ := qq45_1
      have K65 := K39.to 0 0 [o, q]
      refine Owe.stk [(.int (-1))] ?_
      refine oIstore K65 90 (d21_88 hby) (l' := #[.val (.ref ch), .val (.int 3), .val (.int 0), .val (.int f), .val (.ref o), .val (.ref q), .val (.int c0), .val (.int (-1)), .unset]) rfl ?_
      refine oIload K65 92 (d21_90 hby) rfl ?_
      refine oIfNo K65 95 (d21_92 hby) (XT.i0_ge_f (by decide)) ?_
      refine oIconstV K65 96 (-1 : Int32) (d21_95 hby) rfl ?_
      exact oRetI K65 [] (t := .int) hret (by simp) rfl (d21_96 hby) (by decide) (by decide) hlk (fun x hx => by cases hx) (Or.inl ⟨rfl, rfl, (P1.keep Kp44 nin0), (P2.keep Kp44 nin0), (Or.inr ⟨hc1, f64⟩)⟩)
theorem rmStep3_1_1 (G : Gl Z a0 z0 fm) (ch o q : Addr) (f c0 c1 c2 c3 e0 e1 e2 e3 : Int32) (h0 : Heap) (hZh : Ext Z.heap h0) (hsf : Own Z h0 [o, q]) (P0 : Ary Z h0 ch .char [(.int c0), (.int c1), (.int c2), (.int c3)]) (P1 : Ary Z h0 o .int [(.int e0), (.int e1), (.int e2), (.int e3)]) (P2 : Ary Z h0 q .int [(.int 1)]) (P3 : o ≠ q) (P4 : ¬ c0 < (0 : Int32)) (P5 : ¬ (65535 : Int32) < c0) (P6 : ¬ c1 < (0 : Int32)) (P7 : ¬ (65535 : Int32) < c1) (P8 : ¬ c2 < (0 : Int32)) (P9 : ¬ (65535 : Int32) < c2) (P10 : ¬ c3 < (0 : Int32)) (P11 : ¬ (65535 : Int32) < c3) :
    Ctr l Z ELs yn463 method_5_code 9 (some .int) [] (rmk 1 0 0 13) #[(.ref ch), (.int 3), (.int 1), (.int f), (.ref o), (.ref q)] [o, q] h0 (fun v h fs => (fs = [] ∧ v = some (.int (-1)) ∧ Ary Z h o .int [(.int e0), (.int e1), (.int e2), (.int e3)] ∧ Ary Z h q .int [(.int 1)] ∧ (FO f c1)) ∨ (fs = [] ∧ v = some (.int 2) ∧ Ary Z h o .int [(.int e0), (.int (one f c1)), (.int e2), (.int e3)] ∧ Ary Z h q .int [(.int 2)] ∧ ¬ c1 = (37 : Int32) ∧ okP f c1 ∧ ¬ (one f c1) < (0 : Int32) ∧ ¬ (255 : Int32) < (one f c1))) := by
  obtain ⟨hw, hEL, wS, OS, hz0, OA, OH, OL, OF, rfm⟩ := id G
  refine Ctr.intro pn333 hEL hZh hsf ?_
  intro p e s m below meth c s₁ hby hml hret hnm hlk hh K0
  refine Owe.cast (ef462 m ch ((3 : Int32)) ((1 : Int32)) f o q) ?_
  refine oAloadN K0 1 (d21_0 hby) rfl rfl ?_
  refine oIloadN K0 2 (d21_1 hby) rfl ?_
  refine oCaload K0 3 P0 1 (by decide) (by decide) rfl (d21_2 hby) ?_
  refine oIstore K0 5 (d21_3 hby) (l' := #[.val (.ref ch), .val (.int 3), .val (.int 1), .val (.int f), .val (.ref o), .val (.ref q), .val (.int c1), .unset, .unset]) rfl ?_
  refine oIload K0 7 (d21_5 hby) rfl ?_
  refine oBipushV K0 9 (37 : Int32) (d21_7 hby) (by decide) ?_
  by_cases hc1 : c1 = (37 : Int32)
  · refine oIcmpNo K0 12 (d21_9 hby) (XT.ii_ne_f hc1) ?_
    refine oIloadN K0 13 (d21_12 hby) rfl ?_
    refine oIconstV K0 14 (2 : Int32) (d21_13 hby) rfl ?_
    refine oIadd K0 15 (d21_14 hby) ?_
    show Owe _ _ _ _ s₁ (mkF m 15 #[.val (.ref ch), .val (.int 3), .val (.int 1), .val (.int f), .val (.ref o), .val (.ref q), .val (.int c1), .unset, .unset] [(.int 3)])
    refine oIloadN K0 16 (d21_15 hby) rfl ?_
    refine oIcmpNo K0 19 (d21_16 hby) (XT.ii_lt_f (by decide)) ?_
    refine oIconstV K0 20 (-1 : Int32) (d21_19 hby) rfl ?_
    exact oRetI K0 [] (t := .int) hret (by simp) rfl (d21_20 hby) (by decide) (by decide) hlk (fun x hx => by cases hx) (Or.inl ⟨rfl, rfl, P1, P2, (Or.inl hc1)⟩)
  · refine oIcmpYes K0 82 (d21_9 hby) (XT.ii_ne_t hc1) ?_
    refine oIload K0 84 (d21_82 hby) rfl ?_
    refine oIloadN K0 85 (d21_84 hby) rfl ?_
    refine oStatic K0 88 0 (wq hw 96) (wq hw 97) (wq hw 3) (wq hw 98) (rmPlain l Z a0 z0 fm G c1 f h0 K0.old K0.both P6 P7) [(.int c1), (.int f)] [] (lenOf pd438 rfl) (d21_85 hby) ?_
    intro T2 h4 v5 lo6 fs7 K3 Kp8 q9
    rcases q9 with qq9_0 | qq9_1
    · obtain ⟨rfl, rfl, f10, f11, f12⟩ := qq9_0
      have K13 := K3.to 0 0 [o, q]
      refine Owe.stk [(.int (one f c1))] ?_
      refine oIstore K13 90 (d21_88 hby) (l' := #[.val (.ref ch), .val (.int 3), .val (.int 1), .val (.int f), .val (.ref o), .val (.ref q), .val (.int c1), .val (.int (one f c1)), .unset]) rfl ?_
      refine oIload K13 92 (d21_90 hby) rfl ?_
      refine oIfYes K13 97 (d21_92 hby) (XT.i0_ge_t f11) ?_
      refine oAload K13 99 (d21_97 hby) rfl rfl ?_
      refine oAload K13 101 (d21_99 hby) rfl rfl ?_
      refine oIconstV K13 102 (0 : Int32) (d21_101 hby) rfl ?_
      refine oIaload K13 103 (P2.keep Kp8 nin0) 0 (by decide) (by decide) rfl (d21_102 hby) ?_
      refine oIload K13 105 (d21_103 hby) rfl ?_
      refine oIastore K13 106 (by simp) (P1.keep Kp8 nin0) 1 (by decide) (by decide) nlt rfl (d21_105 hby) ?_
      intro T18 h14 lo17 K19 W15 A16
      have A20 : Ary Z h14 o .int [(.int e0), (.int (one f c1)), (.int e2), (.int e3)] := A16
      refine oAload K19 108 (d21_106 hby) rfl rfl ?_
      refine oIconstV K19 109 (0 : Int32) (d21_108 hby) rfl ?_
      refine oAload K19 111 (d21_109 hby) rfl rfl ?_
      refine oIconstV K19 112 (0 : Int32) (d21_111 hby) rfl ?_
      refine oIaload K19 113 (Ary.other (P2.keep Kp8 nin0) W15 (Ne.symm P3)) 0 (by decide) (by decide) rfl (d21_112 hby) ?_
      refine oIconstV K19 114 (1 : Int32) (d21_113 hby) rfl ?_
      refine oIadd K19 115 (d21_114 hby) ?_
      show Owe _ _ _ _ T18 (mkF m 115 #[.val (.ref ch), .val (.int 3), .val (.int 1), .val (.int f), .val (.ref o), .val (.ref q), .val (.int c1), .val (.int (one f c1)), .unset] [(.int 2), (.int 0), (.ref q)])
      refine oIastore K19 116 (by simp) (Ary.other (P2.keep Kp8 nin0) W15 (Ne.symm P3)) 0 (by decide) (by decide) nlt rfl (d21_115 hby) ?_
      intro T25 h21 lo24 K26 W22 A23
      have A27 : Ary Z h21 q .int [(.int 2)] := A23
      refine oIloadN K26 117 (d21_116 hby) rfl ?_
      refine oIconstV K26 118 (1 : Int32) (d21_117 hby) rfl ?_
      refine oIadd K26 119 (d21_118 hby) ?_
      show Owe _ _ _ _ T25 (mkF m 119 #[.val (.ref ch), .val (.int 3), .val (.int 1), .val (.int f), .val (.ref o), .val (.ref q), .val (.int c1), .val (.int (one f c1)), .unset] [(.int 2)])
      exact oRetI K26 [] (t := .int) hret (by simp) rfl (d21_119 hby) (by decide) (by decide) hlk (fun x hx => by cases hx) (Or.inr ⟨rfl, rfl, (Ary.other A20 W22 P3), A27, hc1, f10, f11, f12⟩)
    · obtain ⟨rfl, rfl, f28⟩ := qq9_1
      have K29 := K3.to 0 0 [o, q]
      refine Owe.stk [(.int (-1))] ?_
      refine oIstore K29 90 (d21_88 hby) (l' := #[.val (.ref ch), .val (.int 3), .val (.int 1), .val (.int f), .val (.ref o), .val (.ref q), .val (.int c1), .val (.int (-1)), .unset]) rfl ?_
      refine oIload K29 92 (d21_90 hby) rfl ?_
      refine oIfNo K29 95 (d21_92 hby) (XT.i0_ge_f (by decide)) ?_
      refine oIconstV K29 96 (-1 : Int32) (d21_95 hby) rfl ?_
      exact oRetI K29 [] (t := .int) hret (by simp) rfl (d21_96 hby) (by decide) (by decide) hlk (fun x hx => by cases hx) (Or.inl ⟨rfl, rfl, (P1.keep Kp8 nin0), (P2.keep Kp8 nin0), (Or.inr f28)⟩)
theorem rmStep3_2_2 (G : Gl Z a0 z0 fm) (ch o q : Addr) (f c0 c1 c2 c3 e0 e1 e2 e3 : Int32) (h0 : Heap) (hZh : Ext Z.heap h0) (hsf : Own Z h0 [o, q]) (P0 : Ary Z h0 ch .char [(.int c0), (.int c1), (.int c2), (.int c3)]) (P1 : Ary Z h0 o .int [(.int e0), (.int e1), (.int e2), (.int e3)]) (P2 : Ary Z h0 q .int [(.int 2)]) (P3 : o ≠ q) (P4 : ¬ c0 < (0 : Int32)) (P5 : ¬ (65535 : Int32) < c0) (P6 : ¬ c1 < (0 : Int32)) (P7 : ¬ (65535 : Int32) < c1) (P8 : ¬ c2 < (0 : Int32)) (P9 : ¬ (65535 : Int32) < c2) (P10 : ¬ c3 < (0 : Int32)) (P11 : ¬ (65535 : Int32) < c3) :
    Ctr l Z ELs yn463 method_5_code 9 (some .int) [] (rmk 1 0 0 13) #[(.ref ch), (.int 3), (.int 2), (.int f), (.ref o), (.ref q)] [o, q] h0 (fun v h fs => (fs = [] ∧ v = some (.int (-1)) ∧ Ary Z h o .int [(.int e0), (.int e1), (.int e2), (.int e3)] ∧ Ary Z h q .int [(.int 2)] ∧ (FO f c2)) ∨ (fs = [] ∧ v = some (.int 3) ∧ Ary Z h o .int [(.int e0), (.int e1), (.int (one f c2)), (.int e3)] ∧ Ary Z h q .int [(.int 3)] ∧ ¬ c2 = (37 : Int32) ∧ okP f c2 ∧ ¬ (one f c2) < (0 : Int32) ∧ ¬ (255 : Int32) < (one f c2))) := by
  obtain ⟨hw, hEL, wS, OS, hz0, OA, OH, OL, OF, rfm⟩ := id G
  refine Ctr.intro pn333 hEL hZh hsf ?_
  intro p e s m below meth c s₁ hby hml hret hnm hlk hh K0
  refine Owe.cast (ef462 m ch ((3 : Int32)) ((2 : Int32)) f o q) ?_
  refine oAloadN K0 1 (d21_0 hby) rfl rfl ?_
  refine oIloadN K0 2 (d21_1 hby) rfl ?_
  refine oCaload K0 3 P0 2 (by decide) (by decide) rfl (d21_2 hby) ?_
  refine oIstore K0 5 (d21_3 hby) (l' := #[.val (.ref ch), .val (.int 3), .val (.int 2), .val (.int f), .val (.ref o), .val (.ref q), .val (.int c2), .unset, .unset]) rfl ?_
  refine oIload K0 7 (d21_5 hby) rfl ?_
  refine oBipushV K0 9 (37 : Int32) (d21_7 hby) (by decide) ?_
  by_cases hc1 : c2 = (37 : Int32)
  · refine oIcmpNo K0 12 (d21_9 hby) (XT.ii_ne_f hc1) ?_
    refine oIloadN K0 13 (d21_12 hby) rfl ?_
    refine oIconstV K0 14 (2 : Int32) (d21_13 hby) rfl ?_
    refine oIadd K0 15 (d21_14 hby) ?_
    show Owe _ _ _ _ s₁ (mkF m 15 #[.val (.ref ch), .val (.int 3), .val (.int 2), .val (.int f), .val (.ref o), .val (.ref q), .val (.int c2), .unset, .unset] [(.int 4)])
    refine oIloadN K0 16 (d21_15 hby) rfl ?_
    refine oIcmpNo K0 19 (d21_16 hby) (XT.ii_lt_f (by decide)) ?_
    refine oIconstV K0 20 (-1 : Int32) (d21_19 hby) rfl ?_
    exact oRetI K0 [] (t := .int) hret (by simp) rfl (d21_20 hby) (by decide) (by decide) hlk (fun x hx => by cases hx) (Or.inl ⟨rfl, rfl, P1, P2, (Or.inl hc1)⟩)
  · refine oIcmpYes K0 82 (d21_9 hby) (XT.ii_ne_t hc1) ?_
    refine oIload K0 84 (d21_82 hby) rfl ?_
    refine oIloadN K0 85 (d21_84 hby) rfl ?_
    refine oStatic K0 88 0 (wq hw 96) (wq hw 97) (wq hw 3) (wq hw 98) (rmPlain l Z a0 z0 fm G c2 f h0 K0.old K0.both P8 P9) [(.int c2), (.int f)] [] (lenOf pd438 rfl) (d21_85 hby) ?_
    intro T2 h4 v5 lo6 fs7 K3 Kp8 q9
    rcases q9 with qq9_0 | qq9_1
    · obtain ⟨rfl, rfl, f10, f11, f12⟩ := qq9_0
      have K13 := K3.to 0 0 [o, q]
      refine Owe.stk [(.int (one f c2))] ?_
      refine oIstore K13 90 (d21_88 hby) (l' := #[.val (.ref ch), .val (.int 3), .val (.int 2), .val (.int f), .val (.ref o), .val (.ref q), .val (.int c2), .val (.int (one f c2)), .unset]) rfl ?_
      refine oIload K13 92 (d21_90 hby) rfl ?_
      refine oIfYes K13 97 (d21_92 hby) (XT.i0_ge_t f11) ?_
      refine oAload K13 99 (d21_97 hby) rfl rfl ?_
      refine oAload K13 101 (d21_99 hby) rfl rfl ?_
      refine oIconstV K13 102 (0 : Int32) (d21_101 hby) rfl ?_
      refine oIaload K13 103 (P2.keep Kp8 nin0) 0 (by decide) (by decide) rfl (d21_102 hby) ?_
      refine oIload K13 105 (d21_103 hby) rfl ?_
      refine oIastore K13 106 (by simp) (P1.keep Kp8 nin0) 2 (by decide) (by decide) nlt rfl (d21_105 hby) ?_
      intro T18 h14 lo17 K19 W15 A16
      have A20 : Ary Z h14 o .int [(.int e0), (.int e1), (.int (one f c2)), (.int e3)] := A16
      refine oAload K19 108 (d21_106 hby) rfl rfl ?_
      refine oIconstV K19 109 (0 : Int32) (d21_108 hby) rfl ?_
      refine oAload K19 111 (d21_109 hby) rfl rfl ?_
      refine oIconstV K19 112 (0 : Int32) (d21_111 hby) rfl ?_
      refine oIaload K19 113 (Ary.other (P2.keep Kp8 nin0) W15 (Ne.symm P3)) 0 (by decide) (by decide) rfl (d21_112 hby) ?_
      refine oIconstV K19 114 (1 : Int32) (d21_113 hby) rfl ?_
      refine oIadd K19 115 (d21_114 hby) ?_
      show Owe _ _ _ _ T18 (mkF m 115 #[.val (.ref ch), .val (.int 3), .val (.int 2), .val (.int f), .val (.ref o), .val (.ref q), .val (.int c2), .val (.int (one f c2)), .unset] [(.int 3), (.int 0), (.ref q)])
      refine oIastore K19 116 (by simp) (Ary.other (P2.keep Kp8 nin0) W15 (Ne.symm P3)) 0 (by decide) (by decide) nlt rfl (d21_115 hby) ?_
      intro T25 h21 lo24 K26 W22 A23
      have A27 : Ary Z h21 q .int [(.int 3)] := A23
      refine oIloadN K26 117 (d21_116 hby) rfl ?_
      refine oIconstV K26 118 (1 : Int32) (d21_117 hby) rfl ?_
      refine oIadd K26 119 (d21_118 hby) ?_
      show Owe _ _ _ _ T25 (mkF m 119 #[.val (.ref ch), .val (.int 3), .val (.int 2), .val (.int f), .val (.ref o), .val (.ref q), .val (.int c2), .val (.int (one f c2)), .unset] [(.int 3)])
      exact oRetI K26 [] (t := .int) hret (by simp) rfl (d21_119 hby) (by decide) (by decide) hlk (fun x hx => by cases hx) (Or.inr ⟨rfl, rfl, (Ary.other A20 W22 P3), A27, hc1, f10, f11, f12⟩)
    · obtain ⟨rfl, rfl, f28⟩ := qq9_1
      have K29 := K3.to 0 0 [o, q]
      refine Owe.stk [(.int (-1))] ?_
      refine oIstore K29 90 (d21_88 hby) (l' := #[.val (.ref ch), .val (.int 3), .val (.int 2), .val (.int f), .val (.ref o), .val (.ref q), .val (.int c2), .val (.int (-1)), .unset]) rfl ?_
      refine oIload K29 92 (d21_90 hby) rfl ?_
      refine oIfNo K29 95 (d21_92 hby) (XT.i0_ge_f (by decide)) ?_
      refine oIconstV K29 96 (-1 : Int32) (d21_95 hby) rfl ?_
      exact oRetI K29 [] (t := .int) hret (by simp) rfl (d21_96 hby) (by decide) (by decide) hlk (fun x hx => by cases hx) (Or.inl ⟨rfl, rfl, (P1.keep Kp8 nin0), (P2.keep Kp8 nin0), (Or.inr f28)⟩)
theorem rmStep4_0_0 (G : Gl Z a0 z0 fm) (ch o q : Addr) (f c0 c1 c2 c3 e0 e1 e2 e3 : Int32) (h0 : Heap) (hZh : Ext Z.heap h0) (hsf : Own Z h0 [o, q]) (P0 : Ary Z h0 ch .char [(.int c0), (.int c1), (.int c2), (.int c3)]) (P1 : Ary Z h0 o .int [(.int e0), (.int e1), (.int e2), (.int e3)]) (P2 : Ary Z h0 q .int [(.int 0)]) (P3 : o ≠ q) (P4 : ¬ c0 < (0 : Int32)) (P5 : ¬ (65535 : Int32) < c0) (P6 : ¬ c1 < (0 : Int32)) (P7 : ¬ (65535 : Int32) < c1) (P8 : ¬ c2 < (0 : Int32)) (P9 : ¬ (65535 : Int32) < c2) (P10 : ¬ c3 < (0 : Int32)) (P11 : ¬ (65535 : Int32) < c3) :
    Ctr l Z ELs yn463 method_5_code 9 (some .int) [] (rmk 1 0 0 13) #[(.ref ch), (.int 4), (.int 0), (.int f), (.ref o), (.ref q)] [o, q] h0 (fun v h fs => (fs = [] ∧ v = some (.int (-1)) ∧ Ary Z h o .int [(.int e0), (.int e1), (.int e2), (.int e3)] ∧ Ary Z h q .int [(.int 0)] ∧ (FT f c0 c1 c2)) ∨ (fs = [] ∧ v = some (.int 1) ∧ Ary Z h o .int [(.int (one f c0)), (.int e1), (.int e2), (.int e3)] ∧ Ary Z h q .int [(.int 1)] ∧ ¬ c0 = (37 : Int32) ∧ okP f c0 ∧ ¬ (one f c0) < (0 : Int32) ∧ ¬ (255 : Int32) < (one f c0)) ∨ (fs = [] ∧ v = some (.int 3) ∧ Ary Z h o .int [(.int (tri c1 c2)), (.int e1), (.int e2), (.int e3)] ∧ Ary Z h q .int [(.int 1)] ∧ c0 = (37 : Int32) ∧ ¬ (hx c1) < (0 : Int32) ∧ ¬ (hx c2) < (0 : Int32) ∧ ¬ (tri c1 c2) < (0 : Int32) ∧ ¬ (255 : Int32) < (tri c1 c2))) := by
  obtain ⟨hw, hEL, wS, OS, hz0, OA, OH, OL, OF, rfm⟩ := id G
  refine Ctr.intro pn333 hEL hZh hsf ?_
  intro p e s m below meth c s₁ hby hml hret hnm hlk hh K0
  refine Owe.cast (ef462 m ch ((4 : Int32)) ((0 : Int32)) f o q) ?_
  refine oAloadN K0 1 (d21_0 hby) rfl rfl ?_
  refine oIloadN K0 2 (d21_1 hby) rfl ?_
  refine oCaload K0 3 P0 0 (by decide) (by decide) rfl (d21_2 hby) ?_
  refine oIstore K0 5 (d21_3 hby) (l' := #[.val (.ref ch), .val (.int 4), .val (.int 0), .val (.int f), .val (.ref o), .val (.ref q), .val (.int c0), .unset, .unset]) rfl ?_
  refine oIload K0 7 (d21_5 hby) rfl ?_
  refine oBipushV K0 9 (37 : Int32) (d21_7 hby) (by decide) ?_
  by_cases hc1 : c0 = (37 : Int32)
  · refine oIcmpNo K0 12 (d21_9 hby) (XT.ii_ne_f hc1) ?_
    refine oIloadN K0 13 (d21_12 hby) rfl ?_
    refine oIconstV K0 14 (2 : Int32) (d21_13 hby) rfl ?_
    refine oIadd K0 15 (d21_14 hby) ?_
    show Owe _ _ _ _ s₁ (mkF m 15 #[.val (.ref ch), .val (.int 4), .val (.int 0), .val (.int f), .val (.ref o), .val (.ref q), .val (.int c0), .unset, .unset] [(.int 2)])
    refine oIloadN K0 16 (d21_15 hby) rfl ?_
    refine oIcmpYes K0 21 (d21_16 hby) (XT.ii_lt_t (by decide)) ?_
    refine oAloadN K0 22 (d21_21 hby) rfl rfl ?_
    refine oIloadN K0 23 (d21_22 hby) rfl ?_
    refine oIconstV K0 24 (1 : Int32) (d21_23 hby) rfl ?_
    refine oIadd K0 25 (d21_24 hby) ?_
    show Owe _ _ _ _ s₁ (mkF m 25 #[.val (.ref ch), .val (.int 4), .val (.int 0), .val (.int f), .val (.ref o), .val (.ref q), .val (.int c0), .unset, .unset] [(.int 1), (.ref ch)])
    refine oCaload K0 26 P0 1 (by decide) (by decide) rfl (d21_25 hby) ?_
    refine oStatic K0 29 0 (wq hw 129) (wq hw 130) (wq hw 3) (wq hw 131) (rmHex l Z a0 z0 fm G c1 h0 K0.old K0.both P6 P7) [(.int c1)] [] (lenOf pd470 rfl) (d21_26 hby) ?_
    intro T2 h4 v5 lo6 fs7 K3 Kp8 q9
    obtain ⟨rfl, rfl⟩ := q9
    have K10 := K3.to 0 0 [o, q]
    refine Owe.stk [(.int (hx c1))] ?_
    refine oIstore K10 31 (d21_29 hby) (l' := #[.val (.ref ch), .val (.int 4), .val (.int 0), .val (.int f), .val (.ref o), .val (.ref q), .val (.int c0), .val (.int (hx c1)), .unset]) rfl ?_
    refine oAloadN K10 32 (d21_31 hby) rfl rfl ?_
    refine oIloadN K10 33 (d21_32 hby) rfl ?_
    refine oIconstV K10 34 (2 : Int32) (d21_33 hby) rfl ?_
    refine oIadd K10 35 (d21_34 hby) ?_
    show Owe _ _ _ _ T2 (mkF m 35 #[.val (.ref ch), .val (.int 4), .val (.int 0), .val (.int f), .val (.ref o), .val (.ref q), .val (.int c0), .val (.int (hx c1)), .unset] [(.int 2), (.ref ch)])
    refine oCaload K10 36 (P0.keep Kp8 nin0) 2 (by decide) (by decide) rfl (d21_35 hby) ?_
    refine oStatic K10 39 0 (wq hw 129) (wq hw 130) (wq hw 3) (wq hw 131) (rmHex l Z a0 z0 fm G c2 h4 K10.old K10.both P8 P9) [(.int c2)] [] (lenOf pd470 rfl) (d21_36 hby) ?_
    intro T11 h13 v14 lo15 fs16 K12 Kp17 q18
    obtain ⟨rfl, rfl⟩ := q18
    have K19 := K12.to 0 0 [o, q]
    refine Owe.stk [(.int (hx c2))] ?_
    refine oIstore K19 41 (d21_39 hby) (l' := #[.val (.ref ch), .val (.int 4), .val (.int 0), .val (.int f), .val (.ref o), .val (.ref q), .val (.int c0), .val (.int (hx c1)), .val (.int (hx c2))]) rfl ?_
    refine oIload K19 43 (d21_41 hby) rfl ?_
    by_cases hc20 : (hx c1) < (0 : Int32)
    · refine oIfYes K19 51 (d21_43 hby) (XT.i0_lt_t hc20) ?_
      refine oIconstV K19 52 (-1 : Int32) (d21_51 hby) rfl ?_
      exact oRetI K19 [] (t := .int) hret (by simp) rfl (d21_52 hby) (by decide) (by decide) hlk (fun x hx => by cases hx) (Or.inl ⟨rfl, rfl, ((P1.keep Kp8 nin0).keep Kp17 nin0), ((P2.keep Kp8 nin0).keep Kp17 nin0), (own_ftA hc1 hc20)⟩)
    · refine oIfNo K19 46 (d21_43 hby) (XT.i0_lt_f hc20) ?_
      refine oIload K19 48 (d21_46 hby) rfl ?_
      by_cases hc21 : (hx c2) < (0 : Int32)
      · refine oIfNo K19 51 (d21_48 hby) (XT.i0_ge_f hc21) ?_
        refine oIconstV K19 52 (-1 : Int32) (d21_51 hby) rfl ?_
        exact oRetI K19 [] (t := .int) hret (by simp) rfl (d21_52 hby) (by decide) (by decide) hlk (fun x hx => by cases hx) (Or.inl ⟨rfl, rfl, ((P1.keep Kp8 nin0).keep Kp17 nin0), ((P2.keep Kp8 nin0).keep Kp17 nin0), (own_ftB hc1 hc21)⟩)
      · refine oIfYes K19 53 (d21_48 hby) (XT.i0_ge_t hc21) ?_
        refine oAload K19 55 (d21_53 hby) rfl rfl ?_
        refine oAload K19 57 (d21_55 hby) rfl rfl ?_
        refine oIconstV K19 58 (0 : Int32) (d21_57 hby) rfl ?_
        refine oIaload K19 59 ((P2.keep Kp8 nin0).keep Kp17 nin0) 0 (by decide) (by decide) rfl (d21_58 hby) ?_
        refine oIload K19 61 (d21_59 hby) rfl ?_
        refine oBipushV K19 63 (16 : Int32) (d21_61 hby) (by decide) ?_
        refine oImul K19 64 (d21_63 hby) ?_
        refine oIload K19 66 (d21_64 hby) rfl ?_
        refine oIadd K19 67 (d21_66 hby) ?_
        refine oIastore K19 68 (by simp) ((P1.keep Kp8 nin0).keep Kp17 nin0) 0 (by decide) (by decide) nlt rfl (d21_67 hby) ?_
        intro T26 h22 lo25 K27 W23 A24
        have A28 : Ary Z h22 o .int [(.int (((hx c1) * (16 : Int32)) + (hx c2))), (.int e1), (.int e2), (.int e3)] := A24
        have A29 : Ary Z h22 o .int [(.int (tri c1 c2)), (.int e1), (.int e2), (.int e3)] := A28
        refine oAload K27 70 (d21_68 hby) rfl rfl ?_
        refine oIconstV K27 71 (0 : Int32) (d21_70 hby) rfl ?_
        refine oAload K27 73 (d21_71 hby) rfl rfl ?_
        refine oIconstV K27 74 (0 : Int32) (d21_73 hby) rfl ?_
        have F30 := (Ary.other ((P2.keep Kp8 nin0).keep Kp17 nin0) W23 (Ne.symm P3))
        refine oIaload K27 75 F30 0 (by decide) (by decide) rfl (d21_74 hby) ?_
        refine oIconstV K27 76 (1 : Int32) (d21_75 hby) rfl ?_
        refine oIadd K27 77 (d21_76 hby) ?_
        show Owe _ _ _ _ T26 (mkF m 77 #[.val (.ref ch), .val (.int 4), .val (.int 0), .val (.int f), .val (.ref o), .val (.ref q), .val (.int c0), .val (.int (hx c1)), .val (.int (hx c2))] [(.int 1), (.int 0), (.ref q)])
        refine oIastore K27 78 (by simp) F30 0 (by decide) (by decide) nlt rfl (d21_77 hby) ?_
        intro T35 h31 lo34 K36 W32 A33
        have A37 : Ary Z h31 q .int [(.int 1)] := A33
        refine oIloadN K36 79 (d21_78 hby) rfl ?_
        refine oIconstV K36 80 (3 : Int32) (d21_79 hby) rfl ?_
        refine oIadd K36 81 (d21_80 hby) ?_
        show Owe _ _ _ _ T35 (mkF m 81 #[.val (.ref ch), .val (.int 4), .val (.int 0), .val (.int f), .val (.ref o), .val (.ref q), .val (.int c0), .val (.int (hx c1)), .val (.int (hx c2))] [(.int 3)])
        exact oRetI K36 [] (t := .int) hret (by simp) rfl (d21_81 hby) (by decide) (by decide) hlk (fun x hx => by cases hx) (Or.inr (Or.inr ⟨rfl, rfl, (Ary.other A29 W32 P3), A37, hc1, hc20, hc21, (own_triR hc20 hc21).1, (own_triR hc20 hc21).2⟩))
  · refine oIcmpYes K0 82 (d21_9 hby) (XT.ii_ne_t hc1) ?_
    refine oIload K0 84 (d21_82 hby) rfl ?_
    refine oIloadN K0 85 (d21_84 hby) rfl ?_
    refine oStatic K0 88 0 (wq hw 96) (wq hw 97) (wq hw 3) (wq hw 98) (rmPlain l Z a0 z0 fm G c0 f h0 K0.old K0.both P4 P5) [(.int c0), (.int f)] [] (lenOf pd438 rfl) (d21_85 hby) ?_
    intro T38 h40 v41 lo42 fs43 K39 Kp44 q45
    rcases q45 with qq45_0 | qq45_1
    · obtain ⟨rfl, rfl, f46, f47, f48⟩ := qq45_0
      have K49 := K39.to 0 0 [o, q]
      refine Owe.stk [(.int (one f c0))] ?_
      refine oIstore K49 90 (d21_88 hby) (l' := #[.val (.ref ch), .val (.int 4), .val (.int 0), .val (.int f), .val (.ref o), .val (.ref q), .val (.int c0), .val (.int (one f c0)), .unset]) rfl ?_
      refine oIload K49 92 (d21_90 hby) rfl ?_
      refine oIfYes K49 97 (d21_92 hby) (XT.i0_ge_t f47) ?_
      refine oAload K49 99 (d21_97 hby) rfl rfl ?_
      refine oAload K49 101 (d21_99 hby) rfl rfl ?_
      refine oIconstV K49 102 (0 : Int32) (d21_101 hby) rfl ?_
      refine oIaload K49 103 (P2.keep Kp44 nin0) 0 (by decide) (by decide) rfl (d21_102 hby) ?_
      refine oIload K49 105 (d21_103 hby) rfl ?_
      refine oIastore K49 106 (by simp) (P1.keep Kp44 nin0) 0 (by decide) (by decide) nlt rfl (d21_105 hby) ?_
      intro T54 h50 lo53 K55 W51 A52
      have A56 : Ary Z h50 o .int [(.int (one f c0)), (.int e1), (.int e2), (.int e3)] := A52
      refine oAload K55 108 (d21_106 hby) rfl rfl ?_
      refine oIconstV K55 109 (0 : Int32) (d21_108 hby) rfl ?_
      refine oAload K55 111 (d21_109 hby) rfl rfl ?_
      refine oIconstV K55 112 (0 : Int32) (d21_111 hby) rfl ?_
      refine oIaload K55 113 (Ary.other (P2.keep Kp44 nin0) W51 (Ne.symm P3)) 0 (by decide) (by decide) rfl (d21_112 hby) ?_
      refine oIconstV K55 114 (1 : Int32) (d21_113 hby) rfl ?_
      refine oIadd K55 115 (d21_114 hby) ?_
      show Owe _ _ _ _ T54 (mkF m 115 #[.val (.ref ch), .val (.int 4), .val (.int 0), .val (.int f), .val (.ref o), .val (.ref q), .val (.int c0), .val (.int (one f c0)), .unset] [(.int 1), (.int 0), (.ref q)])
      refine oIastore K55 116 (by simp) (Ary.other (P2.keep Kp44 nin0) W51 (Ne.symm P3)) 0 (by decide) (by decide) nlt rfl (d21_115 hby) ?_
      intro T61 h57 lo60 K62 W58 A59
      have A63 : Ary Z h57 q .int [(.int 1)] := A59
      refine oIloadN K62 117 (d21_116 hby) rfl ?_
      refine oIconstV K62 118 (1 : Int32) (d21_117 hby) rfl ?_
      refine oIadd K62 119 (d21_118 hby) ?_
      show Owe _ _ _ _ T61 (mkF m 119 #[.val (.ref ch), .val (.int 4), .val (.int 0), .val (.int f), .val (.ref o), .val (.ref q), .val (.int c0), .val (.int (one f c0)), .unset] [(.int 1)])
      exact oRetI K62 [] (t := .int) hret (by simp) rfl (d21_119 hby) (by decide) (by decide) hlk (fun x hx => by cases hx) (Or.inr (Or.inl ⟨rfl, rfl, (Ary.other A56 W58 P3), A63, hc1, f46, f47, f48⟩))
    · obtain ⟨rfl, rfl, f64⟩ := qq45_1
      have K65 := K39.to 0 0 [o, q]
      refine Owe.stk [(.int (-1))] ?_
      refine oIstore K65 90 (d21_88 hby) (l' := #[.val (.ref ch), .val (.int 4), .val (.int 0), .val (.int f), .val (.ref o), .val (.ref q), .val (.int c0), .val (.int (-1)), .unset]) rfl ?_
      refine oIload K65 92 (d21_90 hby) rfl ?_
      refine oIfNo K65 95 (d21_92 hby) (XT.i0_ge_f (by decide)) ?_
      refine oIconstV K65 96 (-1 : Int32) (d21_95 hby) rfl ?_
      exact oRetI K65 [] (t := .int) hret (by simp) rfl (d21_96 hby) (by decide) (by decide) hlk (fun x hx => by cases hx) (Or.inl ⟨rfl, rfl, (P1.keep Kp44 nin0), (P2.keep Kp44 nin0), (Or.inr ⟨hc1, f64⟩)⟩)
theorem rmStep4_1_1 (G : Gl Z a0 z0 fm) (ch o q : Addr) (f c0 c1 c2 c3 e0 e1 e2 e3 : Int32) (h0 : Heap) (hZh : Ext Z.heap h0) (hsf : Own Z h0 [o, q]) (P0 : Ary Z h0 ch .char [(.int c0), (.int c1), (.int c2), (.int c3)]) (P1 : Ary Z h0 o .int [(.int e0), (.int e1), (.int e2), (.int e3)]) (P2 : Ary Z h0 q .int [(.int 1)]) (P3 : o ≠ q) (P4 : ¬ c0 < (0 : Int32)) (P5 : ¬ (65535 : Int32) < c0) (P6 : ¬ c1 < (0 : Int32)) (P7 : ¬ (65535 : Int32) < c1) (P8 : ¬ c2 < (0 : Int32)) (P9 : ¬ (65535 : Int32) < c2) (P10 : ¬ c3 < (0 : Int32)) (P11 : ¬ (65535 : Int32) < c3) :
    Ctr l Z ELs yn463 method_5_code 9 (some .int) [] (rmk 1 0 0 13) #[(.ref ch), (.int 4), (.int 1), (.int f), (.ref o), (.ref q)] [o, q] h0 (fun v h fs => (fs = [] ∧ v = some (.int (-1)) ∧ Ary Z h o .int [(.int e0), (.int e1), (.int e2), (.int e3)] ∧ Ary Z h q .int [(.int 1)] ∧ (FT f c1 c2 c3)) ∨ (fs = [] ∧ v = some (.int 2) ∧ Ary Z h o .int [(.int e0), (.int (one f c1)), (.int e2), (.int e3)] ∧ Ary Z h q .int [(.int 2)] ∧ ¬ c1 = (37 : Int32) ∧ okP f c1 ∧ ¬ (one f c1) < (0 : Int32) ∧ ¬ (255 : Int32) < (one f c1)) ∨ (fs = [] ∧ v = some (.int 4) ∧ Ary Z h o .int [(.int e0), (.int (tri c2 c3)), (.int e2), (.int e3)] ∧ Ary Z h q .int [(.int 2)] ∧ c1 = (37 : Int32) ∧ ¬ (hx c2) < (0 : Int32) ∧ ¬ (hx c3) < (0 : Int32) ∧ ¬ (tri c2 c3) < (0 : Int32) ∧ ¬ (255 : Int32) < (tri c2 c3))) := by
  obtain ⟨hw, hEL, wS, OS, hz0, OA, OH, OL, OF, rfm⟩ := id G
  refine Ctr.intro pn333 hEL hZh hsf ?_
  intro p e s m below meth c s₁ hby hml hret hnm hlk hh K0
  refine Owe.cast (ef462 m ch ((4 : Int32)) ((1 : Int32)) f o q) ?_
  refine oAloadN K0 1 (d21_0 hby) rfl rfl ?_
  refine oIloadN K0 2 (d21_1 hby) rfl ?_
  refine oCaload K0 3 P0 1 (by decide) (by decide) rfl (d21_2 hby) ?_
  refine oIstore K0 5 (d21_3 hby) (l' := #[.val (.ref ch), .val (.int 4), .val (.int 1), .val (.int f), .val (.ref o), .val (.ref q), .val (.int c1), .unset, .unset]) rfl ?_
  refine oIload K0 7 (d21_5 hby) rfl ?_
  refine oBipushV K0 9 (37 : Int32) (d21_7 hby) (by decide) ?_
  by_cases hc1 : c1 = (37 : Int32)
  · refine oIcmpNo K0 12 (d21_9 hby) (XT.ii_ne_f hc1) ?_
    refine oIloadN K0 13 (d21_12 hby) rfl ?_
    refine oIconstV K0 14 (2 : Int32) (d21_13 hby) rfl ?_
    refine oIadd K0 15 (d21_14 hby) ?_
    show Owe _ _ _ _ s₁ (mkF m 15 #[.val (.ref ch), .val (.int 4), .val (.int 1), .val (.int f), .val (.ref o), .val (.ref q), .val (.int c1), .unset, .unset] [(.int 3)])
    refine oIloadN K0 16 (d21_15 hby) rfl ?_
    refine oIcmpYes K0 21 (d21_16 hby) (XT.ii_lt_t (by decide)) ?_
    refine oAloadN K0 22 (d21_21 hby) rfl rfl ?_
    refine oIloadN K0 23 (d21_22 hby) rfl ?_
    refine oIconstV K0 24 (1 : Int32) (d21_23 hby) rfl ?_
    refine oIadd K0 25 (d21_24 hby) ?_
    show Owe _ _ _ _ s₁ (mkF m 25 #[.val (.ref ch), .val (.int 4), .val (.int 1), .val (.int f), .val (.ref o), .val (.ref q), .val (.int c1), .unset, .unset] [(.int 2), (.ref ch)])
    refine oCaload K0 26 P0 2 (by decide) (by decide) rfl (d21_25 hby) ?_
    refine oStatic K0 29 0 (wq hw 129) (wq hw 130) (wq hw 3) (wq hw 131) (rmHex l Z a0 z0 fm G c2 h0 K0.old K0.both P8 P9) [(.int c2)] [] (lenOf pd470 rfl) (d21_26 hby) ?_
    intro T2 h4 v5 lo6 fs7 K3 Kp8 q9
    obtain ⟨rfl, rfl⟩ := q9
    have K10 := K3.to 0 0 [o, q]
    refine Owe.stk [(.int (hx c2))] ?_
    refine oIstore K10 31 (d21_29 hby) (l' := #[.val (.ref ch), .val (.int 4), .val (.int 1), .val (.int f), .val (.ref o), .val (.ref q), .val (.int c1), .val (.int (hx c2)), .unset]) rfl ?_
    refine oAloadN K10 32 (d21_31 hby) rfl rfl ?_
    refine oIloadN K10 33 (d21_32 hby) rfl ?_
    refine oIconstV K10 34 (2 : Int32) (d21_33 hby) rfl ?_
    refine oIadd K10 35 (d21_34 hby) ?_
    show Owe _ _ _ _ T2 (mkF m 35 #[.val (.ref ch), .val (.int 4), .val (.int 1), .val (.int f), .val (.ref o), .val (.ref q), .val (.int c1), .val (.int (hx c2)), .unset] [(.int 3), (.ref ch)])
    refine oCaload K10 36 (P0.keep Kp8 nin0) 3 (by decide) (by decide) rfl (d21_35 hby) ?_
    refine oStatic K10 39 0 (wq hw 129) (wq hw 130) (wq hw 3) (wq hw 131) (rmHex l Z a0 z0 fm G c3 h4 K10.old K10.both P10 P11) [(.int c3)] [] (lenOf pd470 rfl) (d21_36 hby) ?_
    intro T11 h13 v14 lo15 fs16 K12 Kp17 q18
    obtain ⟨rfl, rfl⟩ := q18
    have K19 := K12.to 0 0 [o, q]
    refine Owe.stk [(.int (hx c3))] ?_
    refine oIstore K19 41 (d21_39 hby) (l' := #[.val (.ref ch), .val (.int 4), .val (.int 1), .val (.int f), .val (.ref o), .val (.ref q), .val (.int c1), .val (.int (hx c2)), .val (.int (hx c3))]) rfl ?_
    refine oIload K19 43 (d21_41 hby) rfl ?_
    by_cases hc20 : (hx c2) < (0 : Int32)
    · refine oIfYes K19 51 (d21_43 hby) (XT.i0_lt_t hc20) ?_
      refine oIconstV K19 52 (-1 : Int32) (d21_51 hby) rfl ?_
      exact oRetI K19 [] (t := .int) hret (by simp) rfl (d21_52 hby) (by decide) (by decide) hlk (fun x hx => by cases hx) (Or.inl ⟨rfl, rfl, ((P1.keep Kp8 nin0).keep Kp17 nin0), ((P2.keep Kp8 nin0).keep Kp17 nin0), (own_ftA hc1 hc20)⟩)
    · refine oIfNo K19 46 (d21_43 hby) (XT.i0_lt_f hc20) ?_
      refine oIload K19 48 (d21_46 hby) rfl ?_
      by_cases hc21 : (hx c3) < (0 : Int32)
      · refine oIfNo K19 51 (d21_48 hby) (XT.i0_ge_f hc21) ?_
        refine oIconstV K19 52 (-1 : Int32) (d21_51 hby) rfl ?_
        exact oRetI K19 [] (t := .int) hret (by simp) rfl (d21_52 hby) (by decide) (by decide) hlk (fun x hx => by cases hx) (Or.inl ⟨rfl, rfl, ((P1.keep Kp8 nin0).keep Kp17 nin0), ((P2.keep Kp8 nin0).keep Kp17 nin0), (own_ftB hc1 hc21)⟩)
      · refine oIfYes K19 53 (d21_48 hby) (XT.i0_ge_t hc21) ?_
        refine oAload K19 55 (d21_53 hby) rfl rfl ?_
        refine oAload K19 57 (d21_55 hby) rfl rfl ?_
        refine oIconstV K19 58 (0 : Int32) (d21_57 hby) rfl ?_
        refine oIaload K19 59 ((P2.keep Kp8 nin0).keep Kp17 nin0) 0 (by decide) (by decide) rfl (d21_58 hby) ?_
        refine oIload K19 61 (d21_59 hby) rfl ?_
        refine oBipushV K19 63 (16 : Int32) (d21_61 hby) (by decide) ?_
        refine oImul K19 64 (d21_63 hby) ?_
        refine oIload K19 66 (d21_64 hby) rfl ?_
        refine oIadd K19 67 (d21_66 hby) ?_
        refine oIastore K19 68 (by simp) ((P1.keep Kp8 nin0).keep Kp17 nin0) 1 (by decide) (by decide) nlt rfl (d21_67 hby) ?_
        intro T26 h22 lo25 K27 W23 A24
        have A28 : Ary Z h22 o .int [(.int e0), (.int (((hx c2) * (16 : Int32)) + (hx c3))), (.int e2), (.int e3)] := A24
        have A29 : Ary Z h22 o .int [(.int e0), (.int (tri c2 c3)), (.int e2), (.int e3)] := A28
        refine oAload K27 70 (d21_68 hby) rfl rfl ?_
        refine oIconstV K27 71 (0 : Int32) (d21_70 hby) rfl ?_
        refine oAload K27 73 (d21_71 hby) rfl rfl ?_
        refine oIconstV K27 74 (0 : Int32) (d21_73 hby) rfl ?_
        have F30 := (Ary.other ((P2.keep Kp8 nin0).keep Kp17 nin0) W23 (Ne.symm P3))
        refine oIaload K27 75 F30 0 (by decide) (by decide) rfl (d21_74 hby) ?_
        refine oIconstV K27 76 (1 : Int32) (d21_75 hby) rfl ?_
        refine oIadd K27 77 (d21_76 hby) ?_
        show Owe _ _ _ _ T26 (mkF m 77 #[.val (.ref ch), .val (.int 4), .val (.int 1), .val (.int f), .val (.ref o), .val (.ref q), .val (.int c1), .val (.int (hx c2)), .val (.int (hx c3))] [(.int 2), (.int 0), (.ref q)])
        refine oIastore K27 78 (by simp) F30 0 (by decide) (by decide) nlt rfl (d21_77 hby) ?_
        intro T35 h31 lo34 K36 W32 A33
        have A37 : Ary Z h31 q .int [(.int 2)] := A33
        refine oIloadN K36 79 (d21_78 hby) rfl ?_
        refine oIconstV K36 80 (3 : Int32) (d21_79 hby) rfl ?_
        refine oIadd K36 81 (d21_80 hby) ?_
        show Owe _ _ _ _ T35 (mkF m 81 #[.val (.ref ch), .val (.int 4), .val (.int 1), .val (.int f), .val (.ref o), .val (.ref q), .val (.int c1), .val (.int (hx c2)), .val (.int (hx c3))] [(.int 4)])
        exact oRetI K36 [] (t := .int) hret (by simp) rfl (d21_81 hby) (by decide) (by decide) hlk (fun x hx => by cases hx) (Or.inr (Or.inr ⟨rfl, rfl, (Ary.other A29 W32 P3), A37, hc1, hc20, hc21, (own_triR hc20 hc21).1, (own_triR hc20 hc21).2⟩))
  · refine oIcmpYes K0 82 (d21_9 hby) (XT.ii_ne_t hc1) ?_
    refine oIload K0 84 (d21_82 hby) rfl ?_
    refine oIloadN K0 85 (d21_84 hby) rfl ?_
    refine oStatic K0 88 0 (wq hw 96) (wq hw 97) (wq hw 3) (wq hw 98) (rmPlain l Z a0 z0 fm G c1 f h0 K0.old K0.both P6 P7) [(.int c1), (.int f)] [] (lenOf pd438 rfl) (d21_85 hby) ?_
    intro T38 h40 v41 lo42 fs43 K39 Kp44 q45
    rcases q45 with qq45_0 | qq45_1
    · obtain ⟨rfl, rfl, f46, f47, f48⟩ := qq45_0
      have K49 := K39.to 0 0 [o, q]
      refine Owe.stk [(.int (one f c1))] ?_
      refine oIstore K49 90 (d21_88 hby) (l' := #[.val (.ref ch), .val (.int 4), .val (.int 1), .val (.int f), .val (.ref o), .val (.ref q), .val (.int c1), .val (.int (one f c1)), .unset]) rfl ?_
      refine oIload K49 92 (d21_90 hby) rfl ?_
      refine oIfYes K49 97 (d21_92 hby) (XT.i0_ge_t f47) ?_
      refine oAload K49 99 (d21_97 hby) rfl rfl ?_
      refine oAload K49 101 (d21_99 hby) rfl rfl ?_
      refine oIconstV K49 102 (0 : Int32) (d21_101 hby) rfl ?_
      refine oIaload K49 103 (P2.keep Kp44 nin0) 0 (by decide) (by decide) rfl (d21_102 hby) ?_
      refine oIload K49 105 (d21_103 hby) rfl ?_
      refine oIastore K49 106 (by simp) (P1.keep Kp44 nin0) 1 (by decide) (by decide) nlt rfl (d21_105 hby) ?_
      intro T54 h50 lo53 K55 W51 A52
      have A56 : Ary Z h50 o .int [(.int e0), (.int (one f c1)), (.int e2), (.int e3)] := A52
      refine oAload K55 108 (d21_106 hby) rfl rfl ?_
      refine oIconstV K55 109 (0 : Int32) (d21_108 hby) rfl ?_
      refine oAload K55 111 (d21_109 hby) rfl rfl ?_
      refine oIconstV K55 112 (0 : Int32) (d21_111 hby) rfl ?_
      refine oIaload K55 113 (Ary.other (P2.keep Kp44 nin0) W51 (Ne.symm P3)) 0 (by decide) (by decide) rfl (d21_112 hby) ?_
      refine oIconstV K55 114 (1 : Int32) (d21_113 hby) rfl ?_
      refine oIadd K55 115 (d21_114 hby) ?_
      show Owe _ _ _ _ T54 (mkF m 115 #[.val (.ref ch), .val (.int 4), .val (.int 1), .val (.int f), .val (.ref o), .val (.ref q), .val (.int c1), .val (.int (one f c1)), .unset] [(.int 2), (.int 0), (.ref q)])
      refine oIastore K55 116 (by simp) (Ary.other (P2.keep Kp44 nin0) W51 (Ne.symm P3)) 0 (by decide) (by decide) nlt rfl (d21_115 hby) ?_
      intro T61 h57 lo60 K62 W58 A59
      have A63 : Ary Z h57 q .int [(.int 2)] := A59
      refine oIloadN K62 117 (d21_116 hby) rfl ?_
      refine oIconstV K62 118 (1 : Int32) (d21_117 hby) rfl ?_
      refine oIadd K62 119 (d21_118 hby) ?_
      show Owe _ _ _ _ T61 (mkF m 119 #[.val (.ref ch), .val (.int 4), .val (.int 1), .val (.int f), .val (.ref o), .val (.ref q), .val (.int c1), .val (.int (one f c1)), .unset] [(.int 2)])
      exact oRetI K62 [] (t := .int) hret (by simp) rfl (d21_119 hby) (by decide) (by decide) hlk (fun x hx => by cases hx) (Or.inr (Or.inl ⟨rfl, rfl, (Ary.other A56 W58 P3), A63, hc1, f46, f47, f48⟩))
    · obtain ⟨rfl, rfl, f64⟩ := qq45_1
      have K65 := K39.to 0 0 [o, q]
      refine Owe.stk [(.int (-1))] ?_
      refine oIstore K65 90 (d21_88 hby) (l' := #[.val (.ref ch), .val (.int 4), .val (.int 1), .val (.int f), .val (.ref o), .val (.ref q), .val (.int c1), .val (.int (-1)), .unset]) rfl ?_
      refine oIload K65 92 (d21_90 hby) rfl ?_
      refine oIfNo K65 95 (d21_92 hby) (XT.i0_ge_f (by decide)) ?_
      refine oIconstV K65 96 (-1 : Int32) (d21_95 hby) rfl ?_
      exact oRetI K65 [] (t := .int) hret (by simp) rfl (d21_96 hby) (by decide) (by decide) hlk (fun x hx => by cases hx) (Or.inl ⟨rfl, rfl, (P1.keep Kp44 nin0), (P2.keep Kp44 nin0), (Or.inr ⟨hc1, f64⟩)⟩)
theorem rmStep4_2_2 (G : Gl Z a0 z0 fm) (ch o q : Addr) (f c0 c1 c2 c3 e0 e1 e2 e3 : Int32) (h0 : Heap) (hZh : Ext Z.heap h0) (hsf : Own Z h0 [o, q]) (P0 : Ary Z h0 ch .char [(.int c0), (.int c1), (.int c2), (.int c3)]) (P1 : Ary Z h0 o .int [(.int e0), (.int e1), (.int e2), (.int e3)]) (P2 : Ary Z h0 q .int [(.int 2)]) (P3 : o ≠ q) (P4 : ¬ c0 < (0 : Int32)) (P5 : ¬ (65535 : Int32) < c0) (P6 : ¬ c1 < (0 : Int32)) (P7 : ¬ (65535 : Int32) < c1) (P8 : ¬ c2 < (0 : Int32)) (P9 : ¬ (65535 : Int32) < c2) (P10 : ¬ c3 < (0 : Int32)) (P11 : ¬ (65535 : Int32) < c3) :
    Ctr l Z ELs yn463 method_5_code 9 (some .int) [] (rmk 1 0 0 13) #[(.ref ch), (.int 4), (.int 2), (.int f), (.ref o), (.ref q)] [o, q] h0 (fun v h fs => (fs = [] ∧ v = some (.int (-1)) ∧ Ary Z h o .int [(.int e0), (.int e1), (.int e2), (.int e3)] ∧ Ary Z h q .int [(.int 2)] ∧ (FO f c2)) ∨ (fs = [] ∧ v = some (.int 3) ∧ Ary Z h o .int [(.int e0), (.int e1), (.int (one f c2)), (.int e3)] ∧ Ary Z h q .int [(.int 3)] ∧ ¬ c2 = (37 : Int32) ∧ okP f c2 ∧ ¬ (one f c2) < (0 : Int32) ∧ ¬ (255 : Int32) < (one f c2))) := by
  obtain ⟨hw, hEL, wS, OS, hz0, OA, OH, OL, OF, rfm⟩ := id G
  refine Ctr.intro pn333 hEL hZh hsf ?_
  intro p e s m below meth c s₁ hby hml hret hnm hlk hh K0
  refine Owe.cast (ef462 m ch ((4 : Int32)) ((2 : Int32)) f o q) ?_
  refine oAloadN K0 1 (d21_0 hby) rfl rfl ?_
  refine oIloadN K0 2 (d21_1 hby) rfl ?_
  refine oCaload K0 3 P0 2 (by decide) (by decide) rfl (d21_2 hby) ?_
  refine oIstore K0 5 (d21_3 hby) (l' := #[.val (.ref ch), .val (.int 4), .val (.int 2), .val (.int f), .val (.ref o), .val (.ref q), .val (.int c2), .unset, .unset]) rfl ?_
  refine oIload K0 7 (d21_5 hby) rfl ?_
  refine oBipushV K0 9 (37 : Int32) (d21_7 hby) (by decide) ?_
  by_cases hc1 : c2 = (37 : Int32)
  · refine oIcmpNo K0 12 (d21_9 hby) (XT.ii_ne_f hc1) ?_
    refine oIloadN K0 13 (d21_12 hby) rfl ?_
    refine oIconstV K0 14 (2 : Int32) (d21_13 hby) rfl ?_
    refine oIadd K0 15 (d21_14 hby) ?_
    show Owe _ _ _ _ s₁ (mkF m 15 #[.val (.ref ch), .val (.int 4), .val (.int 2), .val (.int f), .val (.ref o), .val (.ref q), .val (.int c2), .unset, .unset] [(.int 4)])
    refine oIloadN K0 16 (d21_15 hby) rfl ?_
    refine oIcmpNo K0 19 (d21_16 hby) (XT.ii_lt_f (by decide)) ?_
    refine oIconstV K0 20 (-1 : Int32) (d21_19 hby) rfl ?_
    exact oRetI K0 [] (t := .int) hret (by simp) rfl (d21_20 hby) (by decide) (by decide) hlk (fun x hx => by cases hx) (Or.inl ⟨rfl, rfl, P1, P2, (Or.inl hc1)⟩)
  · refine oIcmpYes K0 82 (d21_9 hby) (XT.ii_ne_t hc1) ?_
    refine oIload K0 84 (d21_82 hby) rfl ?_
    refine oIloadN K0 85 (d21_84 hby) rfl ?_
    refine oStatic K0 88 0 (wq hw 96) (wq hw 97) (wq hw 3) (wq hw 98) (rmPlain l Z a0 z0 fm G c2 f h0 K0.old K0.both P8 P9) [(.int c2), (.int f)] [] (lenOf pd438 rfl) (d21_85 hby) ?_
    intro T2 h4 v5 lo6 fs7 K3 Kp8 q9
    rcases q9 with qq9_0 | qq9_1
    · obtain ⟨rfl, rfl, f10, f11, f12⟩ := qq9_0
      have K13 := K3.to 0 0 [o, q]
      refine Owe.stk [(.int (one f c2))] ?_
      refine oIstore K13 90 (d21_88 hby) (l' := #[.val (.ref ch), .val (.int 4), .val (.int 2), .val (.int f), .val (.ref o), .val (.ref q), .val (.int c2), .val (.int (one f c2)), .unset]) rfl ?_
      refine oIload K13 92 (d21_90 hby) rfl ?_
      refine oIfYes K13 97 (d21_92 hby) (XT.i0_ge_t f11) ?_
      refine oAload K13 99 (d21_97 hby) rfl rfl ?_
      refine oAload K13 101 (d21_99 hby) rfl rfl ?_
      refine oIconstV K13 102 (0 : Int32) (d21_101 hby) rfl ?_
      refine oIaload K13 103 (P2.keep Kp8 nin0) 0 (by decide) (by decide) rfl (d21_102 hby) ?_
      refine oIload K13 105 (d21_103 hby) rfl ?_
      refine oIastore K13 106 (by simp) (P1.keep Kp8 nin0) 2 (by decide) (by decide) nlt rfl (d21_105 hby) ?_
      intro T18 h14 lo17 K19 W15 A16
      have A20 : Ary Z h14 o .int [(.int e0), (.int e1), (.int (one f c2)), (.int e3)] := A16
      refine oAload K19 108 (d21_106 hby) rfl rfl ?_
      refine oIconstV K19 109 (0 : Int32) (d21_108 hby) rfl ?_
      refine oAload K19 111 (d21_109 hby) rfl rfl ?_
      refine oIconstV K19 112 (0 : Int32) (d21_111 hby) rfl ?_
      refine oIaload K19 113 (Ary.other (P2.keep Kp8 nin0) W15 (Ne.symm P3)) 0 (by decide) (by decide) rfl (d21_112 hby) ?_
      refine oIconstV K19 114 (1 : Int32) (d21_113 hby) rfl ?_
      refine oIadd K19 115 (d21_114 hby) ?_
      show Owe _ _ _ _ T18 (mkF m 115 #[.val (.ref ch), .val (.int 4), .val (.int 2), .val (.int f), .val (.ref o), .val (.ref q), .val (.int c2), .val (.int (one f c2)), .unset] [(.int 3), (.int 0), (.ref q)])
      refine oIastore K19 116 (by simp) (Ary.other (P2.keep Kp8 nin0) W15 (Ne.symm P3)) 0 (by decide) (by decide) nlt rfl (d21_115 hby) ?_
      intro T25 h21 lo24 K26 W22 A23
      have A27 : Ary Z h21 q .int [(.int 3)] := A23
      refine oIloadN K26 117 (d21_116 hby) rfl ?_
      refine oIconstV K26 118 (1 : Int32) (d21_117 hby) rfl ?_
      refine oIadd K26 119 (d21_118 hby) ?_
      show Owe _ _ _ _ T25 (mkF m 119 #[.val (.ref ch), .val (.int 4), .val (.int 2), .val (.int f), .val (.ref o), .val (.ref q), .val (.int c2), .val (.int (one f c2)), .unset] [(.int 3)])
      exact oRetI K26 [] (t := .int) hret (by simp) rfl (d21_119 hby) (by decide) (by decide) hlk (fun x hx => by cases hx) (Or.inr ⟨rfl, rfl, (Ary.other A20 W22 P3), A27, hc1, f10, f11, f12⟩)
    · obtain ⟨rfl, rfl, f28⟩ := qq9_1
      have K29 := K3.to 0 0 [o, q]
      refine Owe.stk [(.int (-1))] ?_
      refine oIstore K29 90 (d21_88 hby) (l' := #[.val (.ref ch), .val (.int 4), .val (.int 2), .val (.int f), .val (.ref o), .val (.ref q), .val (.int c2), .val (.int (-1)), .unset]) rfl ?_
      refine oIload K29 92 (d21_90 hby) rfl ?_
      refine oIfNo K29 95 (d21_92 hby) (XT.i0_ge_f (by decide)) ?_
      refine oIconstV K29 96 (-1 : Int32) (d21_95 hby) rfl ?_
      exact oRetI K29 [] (t := .int) hret (by simp) rfl (d21_96 hby) (by decide) (by decide) hlk (fun x hx => by cases hx) (Or.inl ⟨rfl, rfl, (P1.keep Kp8 nin0), (P2.keep Kp8 nin0), (Or.inr f28)⟩)
theorem rmStep4_3_3 (G : Gl Z a0 z0 fm) (ch o q : Addr) (f c0 c1 c2 c3 e0 e1 e2 e3 : Int32) (h0 : Heap) (hZh : Ext Z.heap h0) (hsf : Own Z h0 [o, q]) (P0 : Ary Z h0 ch .char [(.int c0), (.int c1), (.int c2), (.int c3)]) (P1 : Ary Z h0 o .int [(.int e0), (.int e1), (.int e2), (.int e3)]) (P2 : Ary Z h0 q .int [(.int 3)]) (P3 : o ≠ q) (P4 : ¬ c0 < (0 : Int32)) (P5 : ¬ (65535 : Int32) < c0) (P6 : ¬ c1 < (0 : Int32)) (P7 : ¬ (65535 : Int32) < c1) (P8 : ¬ c2 < (0 : Int32)) (P9 : ¬ (65535 : Int32) < c2) (P10 : ¬ c3 < (0 : Int32)) (P11 : ¬ (65535 : Int32) < c3) :
    Ctr l Z ELs yn463 method_5_code 9 (some .int) [] (rmk 1 0 0 13) #[(.ref ch), (.int 4), (.int 3), (.int f), (.ref o), (.ref q)] [o, q] h0 (fun v h fs => (fs = [] ∧ v = some (.int (-1)) ∧ Ary Z h o .int [(.int e0), (.int e1), (.int e2), (.int e3)] ∧ Ary Z h q .int [(.int 3)] ∧ (FO f c3)) ∨ (fs = [] ∧ v = some (.int 4) ∧ Ary Z h o .int [(.int e0), (.int e1), (.int e2), (.int (one f c3))] ∧ Ary Z h q .int [(.int 4)] ∧ ¬ c3 = (37 : Int32) ∧ okP f c3 ∧ ¬ (one f c3) < (0 : Int32) ∧ ¬ (255 : Int32) < (one f c3))) := by
  obtain ⟨hw, hEL, wS, OS, hz0, OA, OH, OL, OF, rfm⟩ := id G
  refine Ctr.intro pn333 hEL hZh hsf ?_
  intro p e s m below meth c s₁ hby hml hret hnm hlk hh K0
  refine Owe.cast (ef462 m ch ((4 : Int32)) ((3 : Int32)) f o q) ?_
  refine oAloadN K0 1 (d21_0 hby) rfl rfl ?_
  refine oIloadN K0 2 (d21_1 hby) rfl ?_
  refine oCaload K0 3 P0 3 (by decide) (by decide) rfl (d21_2 hby) ?_
  refine oIstore K0 5 (d21_3 hby) (l' := #[.val (.ref ch), .val (.int 4), .val (.int 3), .val (.int f), .val (.ref o), .val (.ref q), .val (.int c3), .unset, .unset]) rfl ?_
  refine oIload K0 7 (d21_5 hby) rfl ?_
  refine oBipushV K0 9 (37 : Int32) (d21_7 hby) (by decide) ?_
  by_cases hc1 : c3 = (37 : Int32)
  · refine oIcmpNo K0 12 (d21_9 hby) (XT.ii_ne_f hc1) ?_
    refine oIloadN K0 13 (d21_12 hby) rfl ?_
    refine oIconstV K0 14 (2 : Int32) (d21_13 hby) rfl ?_
    refine oIadd K0 15 (d21_14 hby) ?_
    show Owe _ _ _ _ s₁ (mkF m 15 #[.val (.ref ch), .val (.int 4), .val (.int 3), .val (.int f), .val (.ref o), .val (.ref q), .val (.int c3), .unset, .unset] [(.int 5)])
    refine oIloadN K0 16 (d21_15 hby) rfl ?_
    refine oIcmpNo K0 19 (d21_16 hby) (XT.ii_lt_f (by decide)) ?_
    refine oIconstV K0 20 (-1 : Int32) (d21_19 hby) rfl ?_
    exact oRetI K0 [] (t := .int) hret (by simp) rfl (d21_20 hby) (by decide) (by decide) hlk (fun x hx => by cases hx) (Or.inl ⟨rfl, rfl, P1, P2, (Or.inl hc1)⟩)
  · refine oIcmpYes K0 82 (d21_9 hby) (XT.ii_ne_t hc1) ?_
    refine oIload K0 84 (d21_82 hby) rfl ?_
    refine oIloadN K0 85 (d21_84 hby) rfl ?_
    refine oStatic K0 88 0 (wq hw 96) (wq hw 97) (wq hw 3) (wq hw 98) (rmPlain l Z a0 z0 fm G c3 f h0 K0.old K0.both P10 P11) [(.int c3), (.int f)] [] (lenOf pd438 rfl) (d21_85 hby) ?_
    intro T2 h4 v5 lo6 fs7 K3 Kp8 q9
    rcases q9 with qq9_0 | qq9_1
    · obtain ⟨rfl, rfl, f10, f11, f12⟩ := qq9_0
      have K13 := K3.to 0 0 [o, q]
      refine Owe.stk [(.int (one f c3))] ?_
      refine oIstore K13 90 (d21_88 hby) (l' := #[.val (.ref ch), .val (.int 4), .val (.int 3), .val (.int f), .val (.ref o), .val (.ref q), .val (.int c3), .val (.int (one f c3)), .unset]) rfl ?_
      refine oIload K13 92 (d21_90 hby) rfl ?_
      refine oIfYes K13 97 (d21_92 hby) (XT.i0_ge_t f11) ?_
      refine oAload K13 99 (d21_97 hby) rfl rfl ?_
      refine oAload K13 101 (d21_99 hby) rfl rfl ?_
      refine oIconstV K13 102 (0 : Int32) (d21_101 hby) rfl ?_
      refine oIaload K13 103 (P2.keep Kp8 nin0) 0 (by decide) (by decide) rfl (d21_102 hby) ?_
      refine oIload K13 105 (d21_103 hby) rfl ?_
      refine oIastore K13 106 (by simp) (P1.keep Kp8 nin0) 3 (by decide) (by decide) nlt rfl (d21_105 hby) ?_
      intro T18 h14 lo17 K19 W15 A16
      have A20 : Ary Z h14 o .int [(.int e0), (.int e1), (.int e2), (.int (one f c3))] := A16
      refine oAload K19 108 (d21_106 hby) rfl rfl ?_
      refine oIconstV K19 109 (0 : Int32) (d21_108 hby) rfl ?_
      refine oAload K19 111 (d21_109 hby) rfl rfl ?_
      refine oIconstV K19 112 (0 : Int32) (d21_111 hby) rfl ?_
      refine oIaload K19 113 (Ary.other (P2.keep Kp8 nin0) W15 (Ne.symm P3)) 0 (by decide) (by decide) rfl (d21_112 hby) ?_
      refine oIconstV K19 114 (1 : Int32) (d21_113 hby) rfl ?_
      refine oIadd K19 115 (d21_114 hby) ?_
      show Owe _ _ _ _ T18 (mkF m 115 #[.val (.ref ch), .val (.int 4), .val (.int 3), .val (.int f), .val (.ref o), .val (.ref q), .val (.int c3), .val (.int (one f c3)), .unset] [(.int 4), (.int 0), (.ref q)])
      refine oIastore K19 116 (by simp) (Ary.other (P2.keep Kp8 nin0) W15 (Ne.symm P3)) 0 (by decide) (by decide) nlt rfl (d21_115 hby) ?_
      intro T25 h21 lo24 K26 W22 A23
      have A27 : Ary Z h21 q .int [(.int 4)] := A23
      refine oIloadN K26 117 (d21_116 hby) rfl ?_
      refine oIconstV K26 118 (1 : Int32) (d21_117 hby) rfl ?_
      refine oIadd K26 119 (d21_118 hby) ?_
      show Owe _ _ _ _ T25 (mkF m 119 #[.val (.ref ch), .val (.int 4), .val (.int 3), .val (.int f), .val (.ref o), .val (.ref q), .val (.int c3), .val (.int (one f c3)), .unset] [(.int 4)])
      exact oRetI K26 [] (t := .int) hret (by simp) rfl (d21_119 hby) (by decide) (by decide) hlk (fun x hx => by cases hx) (Or.inr ⟨rfl, rfl, (Ary.other A20 W22 P3), A27, hc1, f10, f11, f12⟩)
    · obtain ⟨rfl, rfl, f28⟩ := qq9_1
      have K29 := K3.to 0 0 [o, q]
      refine Owe.stk [(.int (-1))] ?_
      refine oIstore K29 90 (d21_88 hby) (l' := #[.val (.ref ch), .val (.int 4), .val (.int 3), .val (.int f), .val (.ref o), .val (.ref q), .val (.int c3), .val (.int (-1)), .unset]) rfl ?_
      refine oIload K29 92 (d21_90 hby) rfl ?_
      refine oIfNo K29 95 (d21_92 hby) (XT.i0_ge_f (by decide)) ?_
      refine oIconstV K29 96 (-1 : Int32) (d21_95 hby) rfl ?_
      exact oRetI K29 [] (t := .int) hret (by simp) rfl (d21_96 hby) (by decide) (by decide) hlk (fun x hx => by cases hx) (Or.inl ⟨rfl, rfl, (P1.keep Kp8 nin0), (P2.keep Kp8 nin0), (Or.inr f28)⟩)
theorem rmStep4_3_1 (G : Gl Z a0 z0 fm) (ch o q : Addr) (f c0 c1 c2 c3 e0 e1 e2 e3 : Int32) (h0 : Heap) (hZh : Ext Z.heap h0) (hsf : Own Z h0 [o, q]) (P0 : Ary Z h0 ch .char [(.int c0), (.int c1), (.int c2), (.int c3)]) (P1 : Ary Z h0 o .int [(.int e0), (.int e1), (.int e2), (.int e3)]) (P2 : Ary Z h0 q .int [(.int 1)]) (P3 : o ≠ q) (P4 : ¬ c0 < (0 : Int32)) (P5 : ¬ (65535 : Int32) < c0) (P6 : ¬ c1 < (0 : Int32)) (P7 : ¬ (65535 : Int32) < c1) (P8 : ¬ c2 < (0 : Int32)) (P9 : ¬ (65535 : Int32) < c2) (P10 : ¬ c3 < (0 : Int32)) (P11 : ¬ (65535 : Int32) < c3) :
    Ctr l Z ELs yn463 method_5_code 9 (some .int) [] (rmk 1 0 0 13) #[(.ref ch), (.int 4), (.int 3), (.int f), (.ref o), (.ref q)] [o, q] h0 (fun v h fs => (fs = [] ∧ v = some (.int (-1)) ∧ Ary Z h o .int [(.int e0), (.int e1), (.int e2), (.int e3)] ∧ Ary Z h q .int [(.int 1)] ∧ (FO f c3)) ∨ (fs = [] ∧ v = some (.int 4) ∧ Ary Z h o .int [(.int e0), (.int (one f c3)), (.int e2), (.int e3)] ∧ Ary Z h q .int [(.int 2)] ∧ ¬ c3 = (37 : Int32) ∧ okP f c3 ∧ ¬ (one f c3) < (0 : Int32) ∧ ¬ (255 : Int32) < (one f c3))) := by
  obtain ⟨hw, hEL, wS, OS, hz0, OA, OH, OL, OF, rfm⟩ := id G
  refine Ctr.intro pn333 hEL hZh hsf ?_
  intro p e s m below meth c s₁ hby hml hret hnm hlk hh K0
  refine Owe.cast (ef462 m ch ((4 : Int32)) ((3 : Int32)) f o q) ?_
  refine oAloadN K0 1 (d21_0 hby) rfl rfl ?_
  refine oIloadN K0 2 (d21_1 hby) rfl ?_
  refine oCaload K0 3 P0 3 (by decide) (by decide) rfl (d21_2 hby) ?_
  refine oIstore K0 5 (d21_3 hby) (l' := #[.val (.ref ch), .val (.int 4), .val (.int 3), .val (.int f), .val (.ref o), .val (.ref q), .val (.int c3), .unset, .unset]) rfl ?_
  refine oIload K0 7 (d21_5 hby) rfl ?_
  refine oBipushV K0 9 (37 : Int32) (d21_7 hby) (by decide) ?_
  by_cases hc1 : c3 = (37 : Int32)
  · refine oIcmpNo K0 12 (d21_9 hby) (XT.ii_ne_f hc1) ?_
    refine oIloadN K0 13 (d21_12 hby) rfl ?_
    refine oIconstV K0 14 (2 : Int32) (d21_13 hby) rfl ?_
    refine oIadd K0 15 (d21_14 hby) ?_
    show Owe _ _ _ _ s₁ (mkF m 15 #[.val (.ref ch), .val (.int 4), .val (.int 3), .val (.int f), .val (.ref o), .val (.ref q), .val (.int c3), .unset, .unset] [(.int 5)])
    refine oIloadN K0 16 (d21_15 hby) rfl ?_
    refine oIcmpNo K0 19 (d21_16 hby) (XT.ii_lt_f (by decide)) ?_
    refine oIconstV K0 20 (-1 : Int32) (d21_19 hby) rfl ?_
    exact oRetI K0 [] (t := .int) hret (by simp) rfl (d21_20 hby) (by decide) (by decide) hlk (fun x hx => by cases hx) (Or.inl ⟨rfl, rfl, P1, P2, (Or.inl hc1)⟩)
  · refine oIcmpYes K0 82 (d21_9 hby) (XT.ii_ne_t hc1) ?_
    refine oIload K0 84 (d21_82 hby) rfl ?_
    refine oIloadN K0 85 (d21_84 hby) rfl ?_
    refine oStatic K0 88 0 (wq hw 96) (wq hw 97) (wq hw 3) (wq hw 98) (rmPlain l Z a0 z0 fm G c3 f h0 K0.old K0.both P10 P11) [(.int c3), (.int f)] [] (lenOf pd438 rfl) (d21_85 hby) ?_
    intro T2 h4 v5 lo6 fs7 K3 Kp8 q9
    rcases q9 with qq9_0 | qq9_1
    · obtain ⟨rfl, rfl, f10, f11, f12⟩ := qq9_0
      have K13 := K3.to 0 0 [o, q]
      refine Owe.stk [(.int (one f c3))] ?_
      refine oIstore K13 90 (d21_88 hby) (l' := #[.val (.ref ch), .val (.int 4), .val (.int 3), .val (.int f), .val (.ref o), .val (.ref q), .val (.int c3), .val (.int (one f c3)), .unset]) rfl ?_
      refine oIload K13 92 (d21_90 hby) rfl ?_
      refine oIfYes K13 97 (d21_92 hby) (XT.i0_ge_t f11) ?_
      refine oAload K13 99 (d21_97 hby) rfl rfl ?_
      refine oAload K13 101 (d21_99 hby) rfl rfl ?_
      refine oIconstV K13 102 (0 : Int32) (d21_101 hby) rfl ?_
      refine oIaload K13 103 (P2.keep Kp8 nin0) 0 (by decide) (by decide) rfl (d21_102 hby) ?_
      refine oIload K13 105 (d21_103 hby) rfl ?_
      refine oIastore K13 106 (by simp) (P1.keep Kp8 nin0) 1 (by decide) (by decide) nlt rfl (d21_105 hby) ?_
      intro T18 h14 lo17 K19 W15 A16
      have A20 : Ary Z h14 o .int [(.int e0), (.int (one f c3)), (.int e2), (.int e3)] := A16
      refine oAload K19 108 (d21_106 hby) rfl rfl ?_
      refine oIconstV K19 109 (0 : Int32) (d21_108 hby) rfl ?_
      refine oAload K19 111 (d21_109 hby) rfl rfl ?_
      refine oIconstV K19 112 (0 : Int32) (d21_111 hby) rfl ?_
      refine oIaload K19 113 (Ary.other (P2.keep Kp8 nin0) W15 (Ne.symm P3)) 0 (by decide) (by decide) rfl (d21_112 hby) ?_
      refine oIconstV K19 114 (1 : Int32) (d21_113 hby) rfl ?_
      refine oIadd K19 115 (d21_114 hby) ?_
      show Owe _ _ _ _ T18 (mkF m 115 #[.val (.ref ch), .val (.int 4), .val (.int 3), .val (.int f), .val (.ref o), .val (.ref q), .val (.int c3), .val (.int (one f c3)), .unset] [(.int 2), (.int 0), (.ref q)])
      refine oIastore K19 116 (by simp) (Ary.other (P2.keep Kp8 nin0) W15 (Ne.symm P3)) 0 (by decide) (by decide) nlt rfl (d21_115 hby) ?_
      intro T25 h21 lo24 K26 W22 A23
      have A27 : Ary Z h21 q .int [(.int 2)] := A23
      refine oIloadN K26 117 (d21_116 hby) rfl ?_
      refine oIconstV K26 118 (1 : Int32) (d21_117 hby) rfl ?_
      refine oIadd K26 119 (d21_118 hby) ?_
      show Owe _ _ _ _ T25 (mkF m 119 #[.val (.ref ch), .val (.int 4), .val (.int 3), .val (.int f), .val (.ref o), .val (.ref q), .val (.int c3), .val (.int (one f c3)), .unset] [(.int 4)])
      exact oRetI K26 [] (t := .int) hret (by simp) rfl (d21_119 hby) (by decide) (by decide) hlk (fun x hx => by cases hx) (Or.inr ⟨rfl, rfl, (Ary.other A20 W22 P3), A27, hc1, f10, f11, f12⟩)
    · obtain ⟨rfl, rfl, f28⟩ := qq9_1
      have K29 := K3.to 0 0 [o, q]
      refine Owe.stk [(.int (-1))] ?_
      refine oIstore K29 90 (d21_88 hby) (l' := #[.val (.ref ch), .val (.int 4), .val (.int 3), .val (.int f), .val (.ref o), .val (.ref q), .val (.int c3), .val (.int (-1)), .unset]) rfl ?_
      refine oIload K29 92 (d21_90 hby) rfl ?_
      refine oIfNo K29 95 (d21_92 hby) (XT.i0_ge_f (by decide)) ?_
      refine oIconstV K29 96 (-1 : Int32) (d21_95 hby) rfl ?_
      exact oRetI K29 [] (t := .int) hret (by simp) rfl (d21_96 hby) (by decide) (by decide) hlk (fun x hx => by cases hx) (Or.inl ⟨rfl, rfl, (P1.keep Kp8 nin0), (P2.keep Kp8 nin0), (Or.inr f28)⟩)
theorem rmLC1_0 (G : Gl Z a0 z0 fm) (t : Addr) (cc : Int32) (h0 : Heap) (hZh : Ext Z.heap h0) (hsf : Own Z h0 []) (P0 : Ary Z h0 t .byte [(.int (byt cc))]) (P1 : ¬ cc < (0 : Int32)) (P2 : ¬ (255 : Int32) < cc) :
    Ctr l Z ELs yn277 jdk_43_method_2_code 2 (some .char) [] (rmk 2 0 0 27) #[(.ref t), (.int 0)] [] h0 (fun v h fs => (fs = [] ∧ v = some (.int cc))) := by
  obtain ⟨hw, hEL, wS, OS, hz0, OA, OH, OL, OF, rfm⟩ := id G
  refine Ctr.intro pn278 hEL hZh hsf ?_
  intro p e s m below meth c s₁ hby hml hret hnm hlk hh K0
  refine Owe.cast (ef94 m t ((0 : Int32))) ?_
  refine oIloadN K0 1 (d15_0 hby) rfl ?_
  refine oAloadN K0 2 (d15_1 hby) rfl rfl ?_
  refine oLen K0 3 P0 (n := (1 : Int32)) (by first | rfl | decide) (d15_2 hby) ?_
  refine oStatic K0 6 0 (wq hw 30) (wq hw 31) (wq hw 6) (wq hw 32) (rmCkI l Z a0 z0 fm G ((0 : Int32)) ((1 : Int32)) h0 K0.old K0.both (by decide) (by decide)) [(.int 0), (.int 1)] [] (lenOf pd269 rfl) (d15_3 hby) ?_
  intro T1 h3 v4 lo5 fs6 K2 Kp7 q8
  obtain ⟨rfl, rfl⟩ := q8
  have K9 := K2.to 0 0 []
  refine Owe.stk [] ?_
  refine oAloadN K9 7 (d15_6 hby) rfl rfl ?_
  refine oIloadN K9 8 (d15_7 hby) rfl ?_
  refine oBaload K9 9 (P0.keep Kp7 nin0) 0 (by decide) (by decide) rfl (d15_8 hby) ?_
  refine oSipushV K9 12 (255 : Int32) (d15_9 hby) (by decide) ?_
  refine oIand K9 13 (d15_12 hby) ?_
  refine oI2c K9 14 (d15_13 hby) ?_
  refine Owe.stk [(.int cc)] ?_ (congrArg (fun z => [Value.int z]) (own_chl P1 P2))
  exact oRetI K9 [] (t := .char) hret (by simp) (narrow_lat P1 P2) (d15_14 hby) (by decide) (by decide) hlk (fun x hx => by cases hx) ⟨rfl, rfl⟩
theorem rmLC2_0 (G : Gl Z a0 z0 fm) (t : Addr) (cc e1 : Int32) (h0 : Heap) (hZh : Ext Z.heap h0) (hsf : Own Z h0 []) (P0 : Ary Z h0 t .byte [(.int (byt cc)), (.int e1)]) (P1 : ¬ cc < (0 : Int32)) (P2 : ¬ (255 : Int32) < cc) :
    Ctr l Z ELs yn277 jdk_43_method_2_code 2 (some .char) [] (rmk 2 0 0 27) #[(.ref t), (.int 0)] [] h0 (fun v h fs => (fs = [] ∧ v = some (.int cc))) := by
  obtain ⟨hw, hEL, wS, OS, hz0, OA, OH, OL, OF, rfm⟩ := id G
  refine Ctr.intro pn278 hEL hZh hsf ?_
  intro p e s m below meth c s₁ hby hml hret hnm hlk hh K0
  refine Owe.cast (ef94 m t ((0 : Int32))) ?_
  refine oIloadN K0 1 (d15_0 hby) rfl ?_
  refine oAloadN K0 2 (d15_1 hby) rfl rfl ?_
  refine oLen K0 3 P0 (n := (2 : Int32)) (by first | rfl | decide) (d15_2 hby) ?_
  refine oStatic K0 6 0 (wq hw 30) (wq hw 31) (wq hw 6) (wq hw 32) (rmCkI l Z a0 z0 fm G ((0 : Int32)) ((2 : Int32)) h0 K0.old K0.both (by decide) (by decide)) [(.int 0), (.int 2)] [] (lenOf pd269 rfl) (d15_3 hby) ?_
  intro T1 h3 v4 lo5 fs6 K2 Kp7 q8
  obtain ⟨rfl, rfl⟩ := q8
  have K9 := K2.to 0 0 []
  refine Owe.stk [] ?_
  refine oAloadN K9 7 (d15_6 hby) rfl rfl ?_
  refine oIloadN K9 8 (d15_7 hby) rfl ?_
  refine oBaload K9 9 (P0.keep Kp7 nin0) 0 (by decide) (by decide) rfl (d15_8 hby) ?_
  refine oSipushV K9 12 (255 : Int32) (d15_9 hby) (by decide) ?_
  refine oIand K9 13 (d15_12 hby) ?_
  refine oI2c K9 14 (d15_13 hby) ?_
  refine Owe.stk [(.int cc)] ?_ (congrArg (fun z => [Value.int z]) (own_chl P1 P2))
  exact oRetI K9 [] (t := .char) hret (by simp) (narrow_lat P1 P2) (d15_14 hby) (by decide) (by decide) hlk (fun x hx => by cases hx) ⟨rfl, rfl⟩
theorem rmLC2_1 (G : Gl Z a0 z0 fm) (t : Addr) (cc e0 : Int32) (h0 : Heap) (hZh : Ext Z.heap h0) (hsf : Own Z h0 []) (P0 : Ary Z h0 t .byte [(.int e0), (.int (byt cc))]) (P1 : ¬ cc < (0 : Int32)) (P2 : ¬ (255 : Int32) < cc) :
    Ctr l Z ELs yn277 jdk_43_method_2_code 2 (some .char) [] (rmk 2 0 0 27) #[(.ref t), (.int 1)] [] h0 (fun v h fs => (fs = [] ∧ v = some (.int cc))) := by
  obtain ⟨hw, hEL, wS, OS, hz0, OA, OH, OL, OF, rfm⟩ := id G
  refine Ctr.intro pn278 hEL hZh hsf ?_
  intro p e s m below meth c s₁ hby hml hret hnm hlk hh K0
  refine Owe.cast (ef94 m t ((1 : Int32))) ?_
  refine oIloadN K0 1 (d15_0 hby) rfl ?_
  refine oAloadN K0 2 (d15_1 hby) rfl rfl ?_
  refine oLen K0 3 P0 (n := (2 : Int32)) (by first | rfl | decide) (d15_2 hby) ?_
  refine oStatic K0 6 0 (wq hw 30) (wq hw 31) (wq hw 6) (wq hw 32) (rmCkI l Z a0 z0 fm G ((1 : Int32)) ((2 : Int32)) h0 K0.old K0.both (by decide) (by decide)) [(.int 1), (.int 2)] [] (lenOf pd269 rfl) (d15_3 hby) ?_
  intro T1 h3 v4 lo5 fs6 K2 Kp7 q8
  obtain ⟨rfl, rfl⟩ := q8
  have K9 := K2.to 0 0 []
  refine Owe.stk [] ?_
  refine oAloadN K9 7 (d15_6 hby) rfl rfl ?_
  refine oIloadN K9 8 (d15_7 hby) rfl ?_
  refine oBaload K9 9 (P0.keep Kp7 nin0) 1 (by decide) (by decide) rfl (d15_8 hby) ?_
  refine oSipushV K9 12 (255 : Int32) (d15_9 hby) (by decide) ?_
  refine oIand K9 13 (d15_12 hby) ?_
  refine oI2c K9 14 (d15_13 hby) ?_
  refine Owe.stk [(.int cc)] ?_ (congrArg (fun z => [Value.int z]) (own_chl P1 P2))
  exact oRetI K9 [] (t := .char) hret (by simp) (narrow_lat P1 P2) (d15_14 hby) (by decide) (by decide) hlk (fun x hx => by cases hx) ⟨rfl, rfl⟩
theorem rmLC3_0 (G : Gl Z a0 z0 fm) (t : Addr) (cc e1 e2 : Int32) (h0 : Heap) (hZh : Ext Z.heap h0) (hsf : Own Z h0 []) (P0 : Ary Z h0 t .byte [(.int (byt cc)), (.int e1), (.int e2)]) (P1 : ¬ cc < (0 : Int32)) (P2 : ¬ (255 : Int32) < cc) :
    Ctr l Z ELs yn277 jdk_43_method_2_code 2 (some .char) [] (rmk 2 0 0 27) #[(.ref t), (.int 0)] [] h0 (fun v h fs => (fs = [] ∧ v = some (.int cc))) := by
  obtain ⟨hw, hEL, wS, OS, hz0, OA, OH, OL, OF, rfm⟩ := id G
  refine Ctr.intro pn278 hEL hZh hsf ?_
  intro p e s m below meth c s₁ hby hml hret hnm hlk hh K0
  refine Owe.cast (ef94 m t ((0 : Int32))) ?_
  refine oIloadN K0 1 (d15_0 hby) rfl ?_
  refine oAloadN K0 2 (d15_1 hby) rfl rfl ?_
  refine oLen K0 3 P0 (n := (3 : Int32)) (by first | rfl | decide) (d15_2 hby) ?_
  refine oStatic K0 6 0 (wq hw 30) (wq hw 31) (wq hw 6) (wq hw 32) (rmCkI l Z a0 z0 fm G ((0 : Int32)) ((3 : Int32)) h0 K0.old K0.both (by decide) (by decide)) [(.int 0), (.int 3)] [] (lenOf pd269 rfl) (d15_3 hby) ?_
  intro T1 h3 v4 lo5 fs6 K2 Kp7 q8
  obtain ⟨rfl, rfl⟩ := q8
  have K9 := K2.to 0 0 []
  refine Owe.stk [] ?_
  refine oAloadN K9 7 (d15_6 hby) rfl rfl ?_
  refine oIloadN K9 8 (d15_7 hby) rfl ?_
  refine oBaload K9 9 (P0.keep Kp7 nin0) 0 (by decide) (by decide) rfl (d15_8 hby) ?_
  refine oSipushV K9 12 (255 : Int32) (d15_9 hby) (by decide) ?_
  refine oIand K9 13 (d15_12 hby) ?_
  refine oI2c K9 14 (d15_13 hby) ?_
  refine Owe.stk [(.int cc)] ?_ (congrArg (fun z => [Value.int z]) (own_chl P1 P2))
  exact oRetI K9 [] (t := .char) hret (by simp) (narrow_lat P1 P2) (d15_14 hby) (by decide) (by decide) hlk (fun x hx => by cases hx) ⟨rfl, rfl⟩
theorem rmLC3_1 (G : Gl Z a0 z0 fm) (t : Addr) (cc e0 e2 : Int32) (h0 : Heap) (hZh : Ext Z.heap h0) (hsf : Own Z h0 []) (P0 : Ary Z h0 t .byte [(.int e0), (.int (byt cc)), (.int e2)]) (P1 : ¬ cc < (0 : Int32)) (P2 : ¬ (255 : Int32) < cc) :
    Ctr l Z ELs yn277 jdk_43_method_2_code 2 (some .char) [] (rmk 2 0 0 27) #[(.ref t), (.int 1)] [] h0 (fun v h fs => (fs = [] ∧ v = some (.int cc))) := by
  obtain ⟨hw, hEL, wS, OS, hz0, OA, OH, OL, OF, rfm⟩ := id G
  refine Ctr.intro pn278 hEL hZh hsf ?_
  intro p e s m below meth c s₁ hby hml hret hnm hlk hh K0
  refine Owe.cast (ef94 m t ((1 : Int32))) ?_
  refine oIloadN K0 1 (d15_0 hby) rfl ?_
  refine oAloadN K0 2 (d15_1 hby) rfl rfl ?_
  refine oLen K0 3 P0 (n := (3 : Int32)) (by first | rfl | decide) (d15_2 hby) ?_
  refine oStatic K0 6 0 (wq hw 30) (wq hw 31) (wq hw 6) (wq hw 32) (rmCkI l Z a0 z0 fm G ((1 : Int32)) ((3 : Int32)) h0 K0.old K0.both (by decide) (by decide)) [(.int 1), (.int 3)] [] (lenOf pd269 rfl) (d15_3 hby) ?_
  intro T1 h3 v4 lo5 fs6 K2 Kp7 q8
  obtain ⟨rfl, rfl⟩ := q8
  have K9 := K2.to 0 0 []
  refine Owe.stk [] ?_
  refine oAloadN K9 7 (d15_6 hby) rfl rfl ?_
  refine oIloadN K9 8 (d15_7 hby) rfl ?_
  refine oBaload K9 9 (P0.keep Kp7 nin0) 1 (by decide) (by decide) rfl (d15_8 hby) ?_
  refine oSipushV K9 12 (255 : Int32) (d15_9 hby) (by decide) ?_
  refine oIand K9 13 (d15_12 hby) ?_
  refine oI2c K9 14 (d15_13 hby) ?_
  refine Owe.stk [(.int cc)] ?_ (congrArg (fun z => [Value.int z]) (own_chl P1 P2))
  exact oRetI K9 [] (t := .char) hret (by simp) (narrow_lat P1 P2) (d15_14 hby) (by decide) (by decide) hlk (fun x hx => by cases hx) ⟨rfl, rfl⟩
theorem rmLC3_2 (G : Gl Z a0 z0 fm) (t : Addr) (cc e0 e1 : Int32) (h0 : Heap) (hZh : Ext Z.heap h0) (hsf : Own Z h0 []) (P0 : Ary Z h0 t .byte [(.int e0), (.int e1), (.int (byt cc))]) (P1 : ¬ cc < (0 : Int32)) (P2 : ¬ (255 : Int32) < cc) :
    Ctr l Z ELs yn277 jdk_43_method_2_code 2 (some .char) [] (rmk 2 0 0 27) #[(.ref t), (.int 2)] [] h0 (fun v h fs => (fs = [] ∧ v = some (.int cc))) := by
  obtain ⟨hw, hEL, wS, OS, hz0, OA, OH, OL, OF, rfm⟩ := id G
  refine Ctr.intro pn278 hEL hZh hsf ?_
  intro p e s m below meth c s₁ hby hml hret hnm hlk hh K0
  refine Owe.cast (ef94 m t ((2 : Int32))) ?_
  refine oIloadN K0 1 (d15_0 hby) rfl ?_
  refine oAloadN K0 2 (d15_1 hby) rfl rfl ?_
  refine oLen K0 3 P0 (n := (3 : Int32)) (by first | rfl | decide) (d15_2 hby) ?_
  refine oStatic K0 6 0 (wq hw 30) (wq hw 31) (wq hw 6) (wq hw 32) (rmCkI l Z a0 z0 fm G ((2 : Int32)) ((3 : Int32)) h0 K0.old K0.both (by decide) (by decide)) [(.int 2), (.int 3)] [] (lenOf pd269 rfl) (d15_3 hby) ?_
  intro T1 h3 v4 lo5 fs6 K2 Kp7 q8
  obtain ⟨rfl, rfl⟩ := q8
  have K9 := K2.to 0 0 []
  refine Owe.stk [] ?_
  refine oAloadN K9 7 (d15_6 hby) rfl rfl ?_
  refine oIloadN K9 8 (d15_7 hby) rfl ?_
  refine oBaload K9 9 (P0.keep Kp7 nin0) 2 (by decide) (by decide) rfl (d15_8 hby) ?_
  refine oSipushV K9 12 (255 : Int32) (d15_9 hby) (by decide) ?_
  refine oIand K9 13 (d15_12 hby) ?_
  refine oI2c K9 14 (d15_13 hby) ?_
  refine Owe.stk [(.int cc)] ?_ (congrArg (fun z => [Value.int z]) (own_chl P1 P2))
  exact oRetI K9 [] (t := .char) hret (by simp) (narrow_lat P1 P2) (d15_14 hby) (by decide) (by decide) hlk (fun x hx => by cases hx) ⟨rfl, rfl⟩
theorem rmLC4_0 (G : Gl Z a0 z0 fm) (t : Addr) (cc e1 e2 e3 : Int32) (h0 : Heap) (hZh : Ext Z.heap h0) (hsf : Own Z h0 []) (P0 : Ary Z h0 t .byte [(.int (byt cc)), (.int e1), (.int e2), (.int e3)]) (P1 : ¬ cc < (0 : Int32)) (P2 : ¬ (255 : Int32) < cc) :
    Ctr l Z ELs yn277 jdk_43_method_2_code 2 (some .char) [] (rmk 2 0 0 27) #[(.ref t), (.int 0)] [] h0 (fun v h fs => (fs = [] ∧ v = some (.int cc))) := by
  obtain ⟨hw, hEL, wS, OS, hz0, OA, OH, OL, OF, rfm⟩ := id G
  refine Ctr.intro pn278 hEL hZh hsf ?_
  intro p e s m below meth c s₁ hby hml hret hnm hlk hh K0
  refine Owe.cast (ef94 m t ((0 : Int32))) ?_
  refine oIloadN K0 1 (d15_0 hby) rfl ?_
  refine oAloadN K0 2 (d15_1 hby) rfl rfl ?_
  refine oLen K0 3 P0 (n := (4 : Int32)) (by first | rfl | decide) (d15_2 hby) ?_
  refine oStatic K0 6 0 (wq hw 30) (wq hw 31) (wq hw 6) (wq hw 32) (rmCkI l Z a0 z0 fm G ((0 : Int32)) ((4 : Int32)) h0 K0.old K0.both (by decide) (by decide)) [(.int 0), (.int 4)] [] (lenOf pd269 rfl) (d15_3 hby) ?_
  intro T1 h3 v4 lo5 fs6 K2 Kp7 q8
  obtain ⟨rfl, rfl⟩ := q8
  have K9 := K2.to 0 0 []
  refine Owe.stk [] ?_
  refine oAloadN K9 7 (d15_6 hby) rfl rfl ?_
  refine oIloadN K9 8 (d15_7 hby) rfl ?_
  refine oBaload K9 9 (P0.keep Kp7 nin0) 0 (by decide) (by decide) rfl (d15_8 hby) ?_
  refine oSipushV K9 12 (255 : Int32) (d15_9 hby) (by decide) ?_
  refine oIand K9 13 (d15_12 hby) ?_
  refine oI2c K9 14 (d15_13 hby) ?_
  refine Owe.stk [(.int cc)] ?_ (congrArg (fun z => [Value.int z]) (own_chl P1 P2))
  exact oRetI K9 [] (t := .char) hret (by simp) (narrow_lat P1 P2) (d15_14 hby) (by decide) (by decide) hlk (fun x hx => by cases hx) ⟨rfl, rfl⟩
theorem rmLC4_1 (G : Gl Z a0 z0 fm) (t : Addr) (cc e0 e2 e3 : Int32) (h0 : Heap) (hZh : Ext Z.heap h0) (hsf : Own Z h0 []) (P0 : Ary Z h0 t .byte [(.int e0), (.int (byt cc)), (.int e2), (.int e3)]) (P1 : ¬ cc < (0 : Int32)) (P2 : ¬ (255 : Int32) < cc) :
    Ctr l Z ELs yn277 jdk_43_method_2_code 2 (some .char) [] (rmk 2 0 0 27) #[(.ref t), (.int 1)] [] h0 (fun v h fs => (fs = [] ∧ v = some (.int cc))) := by
  obtain ⟨hw, hEL, wS, OS, hz0, OA, OH, OL, OF, rfm⟩ := id G
  refine Ctr.intro pn278 hEL hZh hsf ?_
  intro p e s m below meth c s₁ hby hml hret hnm hlk hh K0
  refine Owe.cast (ef94 m t ((1 : Int32))) ?_
  refine oIloadN K0 1 (d15_0 hby) rfl ?_
  refine oAloadN K0 2 (d15_1 hby) rfl rfl ?_
  refine oLen K0 3 P0 (n := (4 : Int32)) (by first | rfl | decide) (d15_2 hby) ?_
  refine oStatic K0 6 0 (wq hw 30) (wq hw 31) (wq hw 6) (wq hw 32) (rmCkI l Z a0 z0 fm G ((1 : Int32)) ((4 : Int32)) h0 K0.old K0.both (by decide) (by decide)) [(.int 1), (.int 4)] [] (lenOf pd269 rfl) (d15_3 hby) ?_
  intro T1 h3 v4 lo5 fs6 K2 Kp7 q8
  obtain ⟨rfl, rfl⟩ := q8
  have K9 := K2.to 0 0 []
  refine Owe.stk [] ?_
  refine oAloadN K9 7 (d15_6 hby) rfl rfl ?_
  refine oIloadN K9 8 (d15_7 hby) rfl ?_
  refine oBaload K9 9 (P0.keep Kp7 nin0) 1 (by decide) (by decide) rfl (d15_8 hby) ?_
  refine oSipushV K9 12 (255 : Int32) (d15_9 hby) (by decide) ?_
  refine oIand K9 13 (d15_12 hby) ?_
  refine oI2c K9 14 (d15_13 hby) ?_
  refine Owe.stk [(.int cc)] ?_ (congrArg (fun z => [Value.int z]) (own_chl P1 P2))
  exact oRetI K9 [] (t := .char) hret (by simp) (narrow_lat P1 P2) (d15_14 hby) (by decide) (by decide) hlk (fun x hx => by cases hx) ⟨rfl, rfl⟩
theorem rmLC4_2 (G : Gl Z a0 z0 fm) (t : Addr) (cc e0 e1 e3 : Int32) (h0 : Heap) (hZh : Ext Z.heap h0) (hsf : Own Z h0 []) (P0 : Ary Z h0 t .byte [(.int e0), (.int e1), (.int (byt cc)), (.int e3)]) (P1 : ¬ cc < (0 : Int32)) (P2 : ¬ (255 : Int32) < cc) :
    Ctr l Z ELs yn277 jdk_43_method_2_code 2 (some .char) [] (rmk 2 0 0 27) #[(.ref t), (.int 2)] [] h0 (fun v h fs => (fs = [] ∧ v = some (.int cc))) := by
  obtain ⟨hw, hEL, wS, OS, hz0, OA, OH, OL, OF, rfm⟩ := id G
  refine Ctr.intro pn278 hEL hZh hsf ?_
  intro p e s m below meth c s₁ hby hml hret hnm hlk hh K0
  refine Owe.cast (ef94 m t ((2 : Int32))) ?_
  refine oIloadN K0 1 (d15_0 hby) rfl ?_
  refine oAloadN K0 2 (d15_1 hby) rfl rfl ?_
  refine oLen K0 3 P0 (n := (4 : Int32)) (by first | rfl | decide) (d15_2 hby) ?_
  refine oStatic K0 6 0 (wq hw 30) (wq hw 31) (wq hw 6) (wq hw 32) (rmCkI l Z a0 z0 fm G ((2 : Int32)) ((4 : Int32)) h0 K0.old K0.both (by decide) (by decide)) [(.int 2), (.int 4)] [] (lenOf pd269 rfl) (d15_3 hby) ?_
  intro T1 h3 v4 lo5 fs6 K2 Kp7 q8
  obtain ⟨rfl, rfl⟩ := q8
  have K9 := K2.to 0 0 []
  refine Owe.stk [] ?_
  refine oAloadN K9 7 (d15_6 hby) rfl rfl ?_
  refine oIloadN K9 8 (d15_7 hby) rfl ?_
  refine oBaload K9 9 (P0.keep Kp7 nin0) 2 (by decide) (by decide) rfl (d15_8 hby) ?_
  refine oSipushV K9 12 (255 : Int32) (d15_9 hby) (by decide) ?_
  refine oIand K9 13 (d15_12 hby) ?_
  refine oI2c K9 14 (d15_13 hby) ?_
  refine Owe.stk [(.int cc)] ?_ (congrArg (fun z => [Value.int z]) (own_chl P1 P2))
  exact oRetI K9 [] (t := .char) hret (by simp) (narrow_lat P1 P2) (d15_14 hby) (by decide) (by decide) hlk (fun x hx => by cases hx) ⟨rfl, rfl⟩
theorem rmLC4_3 (G : Gl Z a0 z0 fm) (t : Addr) (cc e0 e1 e2 : Int32) (h0 : Heap) (hZh : Ext Z.heap h0) (hsf : Own Z h0 []) (P0 : Ary Z h0 t .byte [(.int e0), (.int e1), (.int e2), (.int (byt cc))]) (P1 : ¬ cc < (0 : Int32)) (P2 : ¬ (255 : Int32) < cc) :
    Ctr l Z ELs yn277 jdk_43_method_2_code 2 (some .char) [] (rmk 2 0 0 27) #[(.ref t), (.int 3)] [] h0 (fun v h fs => (fs = [] ∧ v = some (.int cc))) := by
  obtain ⟨hw, hEL, wS, OS, hz0, OA, OH, OL, OF, rfm⟩ := id G
  refine Ctr.intro pn278 hEL hZh hsf ?_
  intro p e s m below meth c s₁ hby hml hret hnm hlk hh K0
  refine Owe.cast (ef94 m t ((3 : Int32))) ?_
  refine oIloadN K0 1 (d15_0 hby) rfl ?_
  refine oAloadN K0 2 (d15_1 hby) rfl rfl ?_
  refine oLen K0 3 P0 (n := (4 : Int32)) (by first | rfl | decide) (d15_2 hby) ?_
  refine oStatic K0 6 0 (wq hw 30) (wq hw 31) (wq hw 6) (wq hw 32) (rmCkI l Z a0 z0 fm G ((3 : Int32)) ((4 : Int32)) h0 K0.old K0.both (by decide) (by decide)) [(.int 3), (.int 4)] [] (lenOf pd269 rfl) (d15_3 hby) ?_
  intro T1 h3 v4 lo5 fs6 K2 Kp7 q8
  obtain ⟨rfl, rfl⟩ := q8
  have K9 := K2.to 0 0 []
  refine Owe.stk [] ?_
  refine oAloadN K9 7 (d15_6 hby) rfl rfl ?_
  refine oIloadN K9 8 (d15_7 hby) rfl ?_
  refine oBaload K9 9 (P0.keep Kp7 nin0) 3 (by decide) (by decide) rfl (d15_8 hby) ?_
  refine oSipushV K9 12 (255 : Int32) (d15_9 hby) (by decide) ?_
  refine oIand K9 13 (d15_12 hby) ?_
  refine oI2c K9 14 (d15_13 hby) ?_
  refine Owe.stk [(.int cc)] ?_ (congrArg (fun z => [Value.int z]) (own_chl P1 P2))
  exact oRetI K9 [] (t := .char) hret (by simp) (narrow_lat P1 P2) (d15_14 hby) (by decide) (by decide) hlk (fun x hx => by cases hx) ⟨rfl, rfl⟩
abbrev y22 := jdk_52_method_6_code
theorem d22_0 : DC y22 0 (.aload_n 0) 1 := hb' (by decide +kernel)
theorem d22_1 : DC y22 1 (.arraylength) 1 := hb' (by decide +kernel)
theorem d22_2 : DC y22 2 (.iconst 1) 1 := hb' (by decide +kernel)
theorem d22_3 : DC y22 3 (.ishr) 1 := hb' (by decide +kernel)
theorem d22_4 : DC y22 4 (.ireturn) 1 := hb' (by decide +kernel)
abbrev yn513 : MethodName := ⟨"java/lang/StringUTF16", "length", "([B)I"⟩
theorem rmULen1 (G : Gl Z a0 z0 fm) (t : Addr) (e0 e1 : Int32) (h0 : Heap) (hZh : Ext Z.heap h0) (hsf : Own Z h0 []) (P0 : Ary Z h0 t .byte [(.int e0), (.int e1)]) :
    Ctr l Z ELs yn513 jdk_52_method_6_code 1 (some .int) [] (rmk 0 0 0 0) #[(.ref t)] [] h0 (fun v h fs => (fs = [] ∧ v = some (.int 1))) := by
  obtain ⟨hw, hEL, wS, OS, hz0, OA, OH, OL, OF, rfm⟩ := id G
  refine Ctr.intro pn12 hEL hZh hsf ?_
  intro p e s m below meth c s₁ hby hml hret hnm hlk hh K0
  refine Owe.cast (ef220 m t) ?_
  refine oAloadN K0 1 (d22_0 hby) rfl rfl ?_
  refine oLen K0 2 P0 (n := (2 : Int32)) (by first | rfl | decide) (d22_1 hby) ?_
  refine oIconstV K0 3 (1 : Int32) (d22_2 hby) rfl ?_
  refine oIshr K0 4 (d22_3 hby) ?_
  show Owe _ _ _ _ s₁ (mkF m 4 #[.val (.ref t)] [(.int 1)])
  exact oRetI K0 [] (t := .int) hret (by simp) rfl (d22_4 hby) (by decide) (by decide) hlk (fun x hx => by cases hx) ⟨rfl, rfl⟩
abbrev y23 := jdk_52_method_91_code
theorem d23_0 : DC y23 0 (.iload_n 0) 1 := hb' (by decide +kernel)
theorem d23_1 : DC y23 1 (.aload_n 1) 1 := hb' (by decide +kernel)
theorem d23_2 : DC y23 2 (.invokestatic 48) 3 := hb' (by decide +kernel)
theorem pd518 : parseMethodDescriptor "([B)I" = some ⟨[(.array .byte)], some .int⟩ := by decide +kernel
theorem d23_5 : DC y23 5 (.invokestatic 414) 3 := hb' (by decide +kernel)
theorem d23_8 : DC y23 8 (.return_) 1 := hb' (by decide +kernel)
theorem ef521 (m : MethodId) (x0 : Int32) (x1 : Addr) : entryFrame m #[(.int x0), (.ref x1)] 2 = mkF m 0 #[.val (.int x0), .val (.ref x1)] [] := by first | (simp [entryFrame, mkF, argsToLocals, Value.category]; done) | rfl
abbrev yn522 : MethodName := ⟨"java/lang/StringUTF16", "checkIndex", "(I[B)V"⟩
theorem rmUck1_0 (G : Gl Z a0 z0 fm) (t : Addr) (e0 e1 : Int32) (h0 : Heap) (hZh : Ext Z.heap h0) (hsf : Own Z h0 []) (P0 : Ary Z h0 t .byte [(.int e0), (.int e1)]) :
    Ctr l Z ELs yn522 jdk_52_method_91_code 2 none [] (rmk 2 0 0 27) #[(.int 0), (.ref t)] [] h0 (fun v h fs => (fs = [] ∧ v = none)) := by
  obtain ⟨hw, hEL, wS, OS, hz0, OA, OH, OL, OF, rfm⟩ := id G
  refine Ctr.intro pn12 hEL hZh hsf ?_
  intro p e s m below meth c s₁ hby hml hret hnm hlk hh K0
  refine Owe.cast (ef521 m ((0 : Int32)) t) ?_
  refine oIloadN K0 1 (d23_0 hby) rfl ?_
  refine oAloadN K0 2 (d23_1 hby) rfl rfl ?_
  refine oStatic K0 5 1 (wq hw 125) (wq hw 126) (wq hw 85) (wq hw 127) (rmULen1 l Z a0 z0 fm G t e0 e1 h0 K0.old K0.both P0) [(.ref t)] [(.int 0)] (lenOf pd518 rfl) (d23_2 hby) ?_
  intro T1 h3 v4 lo5 fs6 K2 Kp7 q8
  obtain ⟨rfl, rfl⟩ := q8
  have K9 := K2.to 0 0 []
  refine Owe.stk [(.int 1), (.int 0)] ?_
  refine oStatic K9 8 0 (wq hw 128) (wq hw 31) (wq hw 6) (wq hw 32) (rmCkI l Z a0 z0 fm G ((0 : Int32)) ((1 : Int32)) h3 K9.old K9.both (by decide) (by decide)) [(.int 0), (.int 1)] [] (lenOf pd269 rfl) (d23_5 hby) ?_
  intro T10 h12 v13 lo14 fs15 K11 Kp16 q17
  obtain ⟨rfl, rfl⟩ := q17
  have K18 := K11.to 0 0 []
  refine Owe.stk [] ?_
  exact oRetV K18 [] hret (d23_8 hby) (by decide) (by decide) hlk (fun x hx => by cases hx) ⟨rfl, rfl⟩
abbrev y24 := jdk_52_method_83_code
theorem d24_0 : DC y24 0 (.iload_n 1) 1 := hb' (by decide +kernel)
theorem d24_1 : DC y24 1 (.aload_n 0) 1 := hb' (by decide +kernel)
theorem d24_2 : DC y24 2 (.invokestatic 67) 3 := hb' (by decide +kernel)
theorem pd527 : parseMethodDescriptor "(I[B)V" = some ⟨[.int, (.array .byte)], none⟩ := by decide +kernel
theorem d24_5 : DC y24 5 (.aload_n 0) 1 := hb' (by decide +kernel)
theorem d24_6 : DC y24 6 (.iload_n 1) 1 := hb' (by decide +kernel)
theorem d24_7 : DC y24 7 (.invokestatic 71) 3 := hb' (by decide +kernel)
theorem d24_10 : DC y24 10 (.ireturn) 1 := hb' (by decide +kernel)
abbrev yn532 : MethodName := ⟨"java/lang/StringUTF16", "charAt", "([BI)C"⟩
theorem rmUch1_0 (G : Gl Z a0 z0 fm) (t : Addr) (c0 : Int32) (h0 : Heap) (hZh : Ext Z.heap h0) (hsf : Own Z h0 []) (P0 : Ary Z h0 t .byte [(.int (byt (c0 >>> ((0 : Int32) &&& 31)))), (.int (byt (c0 >>> ((8 : Int32) &&& 31))))]) (P1 : ¬ c0 < (0 : Int32)) (P2 : ¬ (65535 : Int32) < c0) :
    Ctr l Z ELs yn532 jdk_52_method_83_code 2 (some .char) [] (rmk 3 0 0 40) #[(.ref t), (.int 0)] [] h0 (fun v h fs => (fs = [] ∧ v = some (.int c0))) := by
  obtain ⟨hw, hEL, wS, OS, hz0, OA, OH, OL, OF, rfm⟩ := id G
  refine Ctr.intro pn12 hEL hZh hsf ?_
  intro p e s m below meth c s₁ hby hml hret hnm hlk hh K0
  refine Owe.cast (ef94 m t ((0 : Int32))) ?_
  refine oIloadN K0 1 (d24_0 hby) rfl ?_
  refine oAloadN K0 2 (d24_1 hby) rfl rfl ?_
  refine oStatic K0 5 0 (wq hw 122) (wq hw 123) (wq hw 85) (wq hw 124) (rmUck1_0 l Z a0 z0 fm G t ((byt (c0 >>> ((0 : Int32) &&& 31)))) ((byt (c0 >>> ((8 : Int32) &&& 31)))) h0 K0.old K0.both P0) [(.int 0), (.ref t)] [] (lenOf pd527 rfl) (d24_2 hby) ?_
  intro T1 h3 v4 lo5 fs6 K2 Kp7 q8
  obtain ⟨rfl, rfl⟩ := q8
  have K9 := K2.to 0 0 []
  refine Owe.stk [] ?_
  refine oAloadN K9 6 (d24_5 hby) rfl rfl ?_
  refine oIloadN K9 7 (d24_6 hby) rfl ?_
  refine oStatic K9 10 0 (wq hw 116) (wq hw 117) (wq hw 85) (wq hw 118) (rmGet1_0 l Z a0 z0 fm G t c0 h3 K9.old K9.both (P0.keep Kp7 nin0) P1 P2) [(.ref t), (.int 0)] [] (lenOf pd150 rfl) (d24_7 hby) ?_
  intro T10 h12 v13 lo14 fs15 K11 Kp16 q17
  obtain ⟨rfl, rfl⟩ := q17
  have K18 := K11.to 0 0 []
  refine Owe.stk [(.int c0)] ?_
  exact oRetI K18 [] (t := .char) hret (by simp) (narrow_rng P1 P2) (d24_10 hby) (by decide) (by decide) hlk (fun x hx => by cases hx) ⟨rfl, rfl⟩
theorem d16_16 : DC y16 16 (.aload_n 0) 1 := hb' (by decide +kernel)
theorem d16_17 : DC y16 17 (.getfield 9) 3 := hb' (by decide +kernel)
theorem d16_20 : DC y16 20 (.iload_n 1) 1 := hb' (by decide +kernel)
theorem d16_21 : DC y16 21 (.invokestatic 498) 3 := hb' (by decide +kernel)
theorem d16_24 : DC y16 24 (.ireturn) 1 := hb' (by decide +kernel)
theorem rmCh1_0 (G : Gl Z a0 z0 fm) (x : Addr) (b : Nat) (c0 : Int32) (h0 : Heap) (hZh : Ext Z.heap h0) (hsf : Own Z h0 []) (P0 : Str Z h0 b x [c0]) (P1 : ¬ c0 < (0 : Int32)) (P2 : ¬ (65535 : Int32) < c0) :
    Ctr l Z ELs yn289 jdk_42_method_56_code 2 (some .char) [] (rmk 4 0 0 53) #[(.ref x), (.int 0)] [] h0 (fun v h fs => (fs = [] ∧ v = some (.int c0))) := by
  obtain ⟨hw, hEL, wS, OS, hz0, OA, OH, OL, OF, rfm⟩ := id G
  refine Ctr.intro pn183 hEL hZh hsf ?_
  intro p e s m below meth c s₁ hby hml hret hnm hlk hh K0
  refine Owe.cast (ef94 m x ((0 : Int32))) ?_
  obtain ⟨t1, -, -, f2, f3, ⟨f4, A5, L6⟩ | ⟨f4, A5⟩⟩ := P0
  · have A7 : Ary Z h0 t1 .byte [(.int (byt c0))] := A5
    obtain ⟨l8, -⟩ := L6
    refine oAloadN K0 1 (d16_0 hby) rfl rfl ?_
    refine oVirtual K0 4 0 (wq hw 18) (wq hw 19) (nfSel (wq hw 21)) (wq hw 21) (wq hw 20) (wq hw 6) (wq hw 22) f2 (rmIsL0 l Z a0 z0 fm G x h0 K0.old K0.both f4) [] [] (lenOf pd282 rfl) (d16_1 hby) ?_
    intro T9 h11 v12 lo13 fs14 K10 Kp15 q16
    obtain ⟨rfl, rfl⟩ := q16
    have K17 := K10.to 0 0 []
    refine Owe.stk [(.int 1)] ?_
    refine oIfNo K17 7 (d16_4 hby) (XT.i0_eq_f (by decide)) ?_
    refine oAloadN K17 8 (d16_7 hby) rfl rfl ?_
    refine oGetF K17 11 (wq hw 25) (f3.keep Kp15 nin0) (d16_8 hby) ?_
    intro T18 K19
    refine oIloadN K19 12 (d16_11 hby) rfl ?_
    refine oStatic K19 15 0 (wq hw 26) (wq hw 27) (wq hw 28) (wq hw 29) (rmLC1_0 l Z a0 z0 fm G t1 c0 h11 K19.old K19.both (A7.keep Kp15 nin0) P1 l8) [(.ref t1), (.int 0)] [] (lenOf pd150 rfl) (d16_12 hby) ?_
    intro T20 h22 v23 lo24 fs25 K21 Kp26 q27
    obtain ⟨rfl, rfl⟩ := q27
    have K28 := K21.to 0 0 []
    refine Owe.stk [(.int c0)] ?_
    exact oRetI K28 [] (t := .char) hret (by simp) (narrow_rng P1 P2) (d16_15 hby) (by decide) (by decide) hlk (fun x hx => by cases hx) ⟨rfl, rfl⟩
  · have A7 : Ary Z h0 t1 .byte [(.int (byt (c0 >>> ((0 : Int32) &&& 31)))), (.int (byt (c0 >>> ((8 : Int32) &&& 31))))] := A5
    refine oAloadN K0 1 (d16_0 hby) rfl rfl ?_
    refine oVirtual K0 4 0 (wq hw 18) (wq hw 19) (nfSel (wq hw 21)) (wq hw 21) (wq hw 20) (wq hw 6) (wq hw 22) f2 (rmIsL1 l Z a0 z0 fm G x h0 K0.old K0.both f4) [] [] (lenOf pd282 rfl) (d16_1 hby) ?_
    intro T29 h31 v32 lo33 fs34 K30 Kp35 q36
    obtain ⟨rfl, rfl⟩ := q36
    have K37 := K30.to 0 0 []
    refine Owe.stk [(.int 0)] ?_
    refine oIfYes K37 16 (d16_4 hby) (XT.i0_eq_t (by decide)) ?_
    refine oAloadN K37 17 (d16_16 hby) rfl rfl ?_
    refine oGetF K37 20 (wq hw 25) (f3.keep Kp35 nin0) (d16_17 hby) ?_
    intro T38 K39
    refine oIloadN K39 21 (d16_20 hby) rfl ?_
    refine oStatic K39 24 0 (wq hw 119) (wq hw 120) (wq hw 85) (wq hw 121) (rmUch1_0 l Z a0 z0 fm G t1 c0 h31 K39.old K39.both (A7.keep Kp35 nin0) P1 P2) [(.ref t1), (.int 0)] [] (lenOf pd150 rfl) (d16_21 hby) ?_
    intro T40 h42 v43 lo44 fs45 K41 Kp46 q47
    obtain ⟨rfl, rfl⟩ := q47
    have K48 := K41.to 0 0 []
    refine Owe.stk [(.int c0)] ?_
    exact oRetI K48 [] (t := .char) hret (by simp) (narrow_rng P1 P2) (d16_24 hby) (by decide) (by decide) hlk (fun x hx => by cases hx) ⟨rfl, rfl⟩
theorem rmULen2 (G : Gl Z a0 z0 fm) (t : Addr) (e0 e1 e2 e3 : Int32) (h0 : Heap) (hZh : Ext Z.heap h0) (hsf : Own Z h0 []) (P0 : Ary Z h0 t .byte [(.int e0), (.int e1), (.int e2), (.int e3)]) :
    Ctr l Z ELs yn513 jdk_52_method_6_code 1 (some .int) [] (rmk 0 0 0 0) #[(.ref t)] [] h0 (fun v h fs => (fs = [] ∧ v = some (.int 2))) := by
  obtain ⟨hw, hEL, wS, OS, hz0, OA, OH, OL, OF, rfm⟩ := id G
  refine Ctr.intro pn12 hEL hZh hsf ?_
  intro p e s m below meth c s₁ hby hml hret hnm hlk hh K0
  refine Owe.cast (ef220 m t) ?_
  refine oAloadN K0 1 (d22_0 hby) rfl rfl ?_
  refine oLen K0 2 P0 (n := (4 : Int32)) (by first | rfl | decide) (d22_1 hby) ?_
  refine oIconstV K0 3 (1 : Int32) (d22_2 hby) rfl ?_
  refine oIshr K0 4 (d22_3 hby) ?_
  show Owe _ _ _ _ s₁ (mkF m 4 #[.val (.ref t)] [(.int 2)])
  exact oRetI K0 [] (t := .int) hret (by simp) rfl (d22_4 hby) (by decide) (by decide) hlk (fun x hx => by cases hx) ⟨rfl, rfl⟩
theorem rmUck2_0 (G : Gl Z a0 z0 fm) (t : Addr) (e0 e1 e2 e3 : Int32) (h0 : Heap) (hZh : Ext Z.heap h0) (hsf : Own Z h0 []) (P0 : Ary Z h0 t .byte [(.int e0), (.int e1), (.int e2), (.int e3)]) :
    Ctr l Z ELs yn522 jdk_52_method_91_code 2 none [] (rmk 2 0 0 27) #[(.int 0), (.ref t)] [] h0 (fun v h fs => (fs = [] ∧ v = none)) := by
  obtain ⟨hw, hEL, wS, OS, hz0, OA, OH, OL, OF, rfm⟩ := id G
  refine Ctr.intro pn12 hEL hZh hsf ?_
  intro p e s m below meth c s₁ hby hml hret hnm hlk hh K0
  refine Owe.cast (ef521 m ((0 : Int32)) t) ?_
  refine oIloadN K0 1 (d23_0 hby) rfl ?_
  refine oAloadN K0 2 (d23_1 hby) rfl rfl ?_
  refine oStatic K0 5 1 (wq hw 125) (wq hw 126) (wq hw 85) (wq hw 127) (rmULen2 l Z a0 z0 fm G t e0 e1 e2 e3 h0 K0.old K0.both P0) [(.ref t)] [(.int 0)] (lenOf pd518 rfl) (d23_2 hby) ?_
  intro T1 h3 v4 lo5 fs6 K2 Kp7 q8
  obtain ⟨rfl, rfl⟩ := q8
  have K9 := K2.to 0 0 []
  refine Owe.stk [(.int 2), (.int 0)] ?_
  refine oStatic K9 8 0 (wq hw 128) (wq hw 31) (wq hw 6) (wq hw 32) (rmCkI l Z a0 z0 fm G ((0 : Int32)) ((2 : Int32)) h3 K9.old K9.both (by decide) (by decide)) [(.int 0), (.int 2)] [] (lenOf pd269 rfl) (d23_5 hby) ?_
  intro T10 h12 v13 lo14 fs15 K11 Kp16 q17
  obtain ⟨rfl, rfl⟩ := q17
  have K18 := K11.to 0 0 []
  refine Owe.stk [] ?_
  exact oRetV K18 [] hret (d23_8 hby) (by decide) (by decide) hlk (fun x hx => by cases hx) ⟨rfl, rfl⟩
theorem rmUch2_0 (G : Gl Z a0 z0 fm) (t : Addr) (c0 c1 : Int32) (h0 : Heap) (hZh : Ext Z.heap h0) (hsf : Own Z h0 []) (P0 : Ary Z h0 t .byte [(.int (byt (c0 >>> ((0 : Int32) &&& 31)))), (.int (byt (c0 >>> ((8 : Int32) &&& 31)))), (.int (byt (c1 >>> ((0 : Int32) &&& 31)))), (.int (byt (c1 >>> ((8 : Int32) &&& 31))))]) (P1 : ¬ c0 < (0 : Int32)) (P2 : ¬ (65535 : Int32) < c0) :
    Ctr l Z ELs yn532 jdk_52_method_83_code 2 (some .char) [] (rmk 3 0 0 40) #[(.ref t), (.int 0)] [] h0 (fun v h fs => (fs = [] ∧ v = some (.int c0))) := by
  obtain ⟨hw, hEL, wS, OS, hz0, OA, OH, OL, OF, rfm⟩ := id G
  refine Ctr.intro pn12 hEL hZh hsf ?_
  intro p e s m below meth c s₁ hby hml hret hnm hlk hh K0
  refine Owe.cast (ef94 m t ((0 : Int32))) ?_
  refine oIloadN K0 1 (d24_0 hby) rfl ?_
  refine oAloadN K0 2 (d24_1 hby) rfl rfl ?_
  refine oStatic K0 5 0 (wq hw 122) (wq hw 123) (wq hw 85) (wq hw 124) (rmUck2_0 l Z a0 z0 fm G t ((byt (c0 >>> ((0 : Int32) &&& 31)))) ((byt (c0 >>> ((8 : Int32) &&& 31)))) ((byt (c1 >>> ((0 : Int32) &&& 31)))) ((byt (c1 >>> ((8 : Int32) &&& 31)))) h0 K0.old K0.both P0) [(.int 0), (.ref t)] [] (lenOf pd527 rfl) (d24_2 hby) ?_
  intro T1 h3 v4 lo5 fs6 K2 Kp7 q8
  obtain ⟨rfl, rfl⟩ := q8
  have K9 := K2.to 0 0 []
  refine Owe.stk [] ?_
  refine oAloadN K9 6 (d24_5 hby) rfl rfl ?_
  refine oIloadN K9 7 (d24_6 hby) rfl ?_
  refine oStatic K9 10 0 (wq hw 116) (wq hw 117) (wq hw 85) (wq hw 118) (rmGet2_0 l Z a0 z0 fm G t c0 c1 h3 K9.old K9.both (P0.keep Kp7 nin0) P1 P2) [(.ref t), (.int 0)] [] (lenOf pd150 rfl) (d24_7 hby) ?_
  intro T10 h12 v13 lo14 fs15 K11 Kp16 q17
  obtain ⟨rfl, rfl⟩ := q17
  have K18 := K11.to 0 0 []
  refine Owe.stk [(.int c0)] ?_
  exact oRetI K18 [] (t := .char) hret (by simp) (narrow_rng P1 P2) (d24_10 hby) (by decide) (by decide) hlk (fun x hx => by cases hx) ⟨rfl, rfl⟩
theorem rmCh2_0 (G : Gl Z a0 z0 fm) (x : Addr) (b : Nat) (c0 c1 : Int32) (h0 : Heap) (hZh : Ext Z.heap h0) (hsf : Own Z h0 []) (P0 : Str Z h0 b x [c0, c1]) (P1 : ¬ c0 < (0 : Int32)) (P2 : ¬ (65535 : Int32) < c0) :
    Ctr l Z ELs yn289 jdk_42_method_56_code 2 (some .char) [] (rmk 4 0 0 53) #[(.ref x), (.int 0)] [] h0 (fun v h fs => (fs = [] ∧ v = some (.int c0))) := by
  obtain ⟨hw, hEL, wS, OS, hz0, OA, OH, OL, OF, rfm⟩ := id G
  refine Ctr.intro pn183 hEL hZh hsf ?_
  intro p e s m below meth c s₁ hby hml hret hnm hlk hh K0
  refine Owe.cast (ef94 m x ((0 : Int32))) ?_
  obtain ⟨t1, -, -, f2, f3, ⟨f4, A5, L6⟩ | ⟨f4, A5⟩⟩ := P0
  · have A7 : Ary Z h0 t1 .byte [(.int (byt c0)), (.int (byt c1))] := A5
    obtain ⟨l8, l9, -⟩ := L6
    refine oAloadN K0 1 (d16_0 hby) rfl rfl ?_
    refine oVirtual K0 4 0 (wq hw 18) (wq hw 19) (nfSel (wq hw 21)) (wq hw 21) (wq hw 20) (wq hw 6) (wq hw 22) f2 (rmIsL0 l Z a0 z0 fm G x h0 K0.old K0.both f4) [] [] (lenOf pd282 rfl) (d16_1 hby) ?_
    intro T10 h12 v13 lo14 fs15 K11 Kp16 q17
    obtain ⟨rfl, rfl⟩ := q17
    have K18 := K11.to 0 0 []
    refine Owe.stk [(.int 1)] ?_
    refine oIfNo K18 7 (d16_4 hby) (XT.i0_eq_f (by decide)) ?_
    refine oAloadN K18 8 (d16_7 hby) rfl rfl ?_
    refine oGetF K18 11 (wq hw 25) (f3.keep Kp16 nin0) (d16_8 hby) ?_
    intro T19 K20
    refine oIloadN K20 12 (d16_11 hby) rfl ?_
    refine oStatic K20 15 0 (wq hw 26) (wq hw 27) (wq hw 28) (wq hw 29) (rmLC2_0 l Z a0 z0 fm G t1 c0 ((byt c1)) h12 K20.old K20.both (A7.keep Kp16 nin0) P1 l8) [(.ref t1), (.int 0)] [] (lenOf pd150 rfl) (d16_12 hby) ?_
    intro T21 h23 v24 lo25 fs26 K22 Kp27 q28
    obtain ⟨rfl, rfl⟩ := q28
    have K29 := K22.to 0 0 []
    refine Owe.stk [(.int c0)] ?_
    exact oRetI K29 [] (t := .char) hret (by simp) (narrow_rng P1 P2) (d16_15 hby) (by decide) (by decide) hlk (fun x hx => by cases hx) ⟨rfl, rfl⟩
  · have A7 : Ary Z h0 t1 .byte [(.int (byt (c0 >>> ((0 : Int32) &&& 31)))), (.int (byt (c0 >>> ((8 : Int32) &&& 31)))), (.int (byt (c1 >>> ((0 : Int32) &&& 31)))), (.int (byt (c1 >>> ((8 : Int32) &&& 31))))] := A5
    refine oAloadN K0 1 (d16_0 hby) rfl rfl ?_
    refine oVirtual K0 4 0 (wq hw 18) (wq hw 19) (nfSel (wq hw 21)) (wq hw 21) (wq hw 20) (wq hw 6) (wq hw 22) f2 (rmIsL1 l Z a0 z0 fm G x h0 K0.old K0.both f4) [] [] (lenOf pd282 rfl) (d16_1 hby) ?_
    intro T30 h32 v33 lo34 fs35 K31 Kp36 q37
    obtain ⟨rfl, rfl⟩ := q37
    have K38 := K31.to 0 0 []
    refine Owe.stk [(.int 0)] ?_
    refine oIfYes K38 16 (d16_4 hby) (XT.i0_eq_t (by decide)) ?_
    refine oAloadN K38 17 (d16_16 hby) rfl rfl ?_
    refine oGetF K38 20 (wq hw 25) (f3.keep Kp36 nin0) (d16_17 hby) ?_
    intro T39 K40
    refine oIloadN K40 21 (d16_20 hby) rfl ?_
    refine oStatic K40 24 0 (wq hw 119) (wq hw 120) (wq hw 85) (wq hw 121) (rmUch2_0 l Z a0 z0 fm G t1 c0 c1 h32 K40.old K40.both (A7.keep Kp36 nin0) P1 P2) [(.ref t1), (.int 0)] [] (lenOf pd150 rfl) (d16_21 hby) ?_
    intro T41 h43 v44 lo45 fs46 K42 Kp47 q48
    obtain ⟨rfl, rfl⟩ := q48
    have K49 := K42.to 0 0 []
    refine Owe.stk [(.int c0)] ?_
    exact oRetI K49 [] (t := .char) hret (by simp) (narrow_rng P1 P2) (d16_24 hby) (by decide) (by decide) hlk (fun x hx => by cases hx) ⟨rfl, rfl⟩
theorem rmUck2_1 (G : Gl Z a0 z0 fm) (t : Addr) (e0 e1 e2 e3 : Int32) (h0 : Heap) (hZh : Ext Z.heap h0) (hsf : Own Z h0 []) (P0 : Ary Z h0 t .byte [(.int e0), (.int e1), (.int e2), (.int e3)]) :
    Ctr l Z ELs yn522 jdk_52_method_91_code 2 none [] (rmk 2 0 0 27) #[(.int 1), (.ref t)] [] h0 (fun v h fs => (fs = [] ∧ v = none)) := by
  obtain ⟨hw, hEL, wS, OS, hz0, OA, OH, OL, OF, rfm⟩ := id G
  refine Ctr.intro pn12 hEL hZh hsf ?_
  intro p e s m below meth c s₁ hby hml hret hnm hlk hh K0
  refine Owe.cast (ef521 m ((1 : Int32)) t) ?_
  refine oIloadN K0 1 (d23_0 hby) rfl ?_
  refine oAloadN K0 2 (d23_1 hby) rfl rfl ?_
  refine oStatic K0 5 1 (wq hw 125) (wq hw 126) (wq hw 85) (wq hw 127) (rmULen2 l Z a0 z0 fm G t e0 e1 e2 e3 h0 K0.old K0.both P0) [(.ref t)] [(.int 1)] (lenOf pd518 rfl) (d23_2 hby) ?_
  intro T1 h3 v4 lo5 fs6 K2 Kp7 q8
  obtain ⟨rfl, rfl⟩ := q8
  have K9 := K2.to 0 0 []
  refine Owe.stk [(.int 2), (.int 1)] ?_
  refine oStatic K9 8 0 (wq hw 128) (wq hw 31) (wq hw 6) (wq hw 32) (rmCkI l Z a0 z0 fm G ((1 : Int32)) ((2 : Int32)) h3 K9.old K9.both (by decide) (by decide)) [(.int 1), (.int 2)] [] (lenOf pd269 rfl) (d23_5 hby) ?_
  intro T10 h12 v13 lo14 fs15 K11 Kp16 q17
  obtain ⟨rfl, rfl⟩ := q17
  have K18 := K11.to 0 0 []
  refine Owe.stk [] ?_
  exact oRetV K18 [] hret (d23_8 hby) (by decide) (by decide) hlk (fun x hx => by cases hx) ⟨rfl, rfl⟩
theorem rmUch2_1 (G : Gl Z a0 z0 fm) (t : Addr) (c0 c1 : Int32) (h0 : Heap) (hZh : Ext Z.heap h0) (hsf : Own Z h0 []) (P0 : Ary Z h0 t .byte [(.int (byt (c0 >>> ((0 : Int32) &&& 31)))), (.int (byt (c0 >>> ((8 : Int32) &&& 31)))), (.int (byt (c1 >>> ((0 : Int32) &&& 31)))), (.int (byt (c1 >>> ((8 : Int32) &&& 31))))]) (P1 : ¬ c1 < (0 : Int32)) (P2 : ¬ (65535 : Int32) < c1) :
    Ctr l Z ELs yn532 jdk_52_method_83_code 2 (some .char) [] (rmk 3 0 0 40) #[(.ref t), (.int 1)] [] h0 (fun v h fs => (fs = [] ∧ v = some (.int c1))) := by
  obtain ⟨hw, hEL, wS, OS, hz0, OA, OH, OL, OF, rfm⟩ := id G
  refine Ctr.intro pn12 hEL hZh hsf ?_
  intro p e s m below meth c s₁ hby hml hret hnm hlk hh K0
  refine Owe.cast (ef94 m t ((1 : Int32))) ?_
  refine oIloadN K0 1 (d24_0 hby) rfl ?_
  refine oAloadN K0 2 (d24_1 hby) rfl rfl ?_
  refine oStatic K0 5 0 (wq hw 122) (wq hw 123) (wq hw 85) (wq hw 124) (rmUck2_1 l Z a0 z0 fm G t ((byt (c0 >>> ((0 : Int32) &&& 31)))) ((byt (c0 >>> ((8 : Int32) &&& 31)))) ((byt (c1 >>> ((0 : Int32) &&& 31)))) ((byt (c1 >>> ((8 : Int32) &&& 31)))) h0 K0.old K0.both P0) [(.int 1), (.ref t)] [] (lenOf pd527 rfl) (d24_2 hby) ?_
  intro T1 h3 v4 lo5 fs6 K2 Kp7 q8
  obtain ⟨rfl, rfl⟩ := q8
  have K9 := K2.to 0 0 []
  refine Owe.stk [] ?_
  refine oAloadN K9 6 (d24_5 hby) rfl rfl ?_
  refine oIloadN K9 7 (d24_6 hby) rfl ?_
  refine oStatic K9 10 0 (wq hw 116) (wq hw 117) (wq hw 85) (wq hw 118) (rmGet2_1 l Z a0 z0 fm G t c0 c1 h3 K9.old K9.both (P0.keep Kp7 nin0) P1 P2) [(.ref t), (.int 1)] [] (lenOf pd150 rfl) (d24_7 hby) ?_
  intro T10 h12 v13 lo14 fs15 K11 Kp16 q17
  obtain ⟨rfl, rfl⟩ := q17
  have K18 := K11.to 0 0 []
  refine Owe.stk [(.int c1)] ?_
  exact oRetI K18 [] (t := .char) hret (by simp) (narrow_rng P1 P2) (d24_10 hby) (by decide) (by decide) hlk (fun x hx => by cases hx) ⟨rfl, rfl⟩
theorem rmCh2_1 (G : Gl Z a0 z0 fm) (x : Addr) (b : Nat) (c0 c1 : Int32) (h0 : Heap) (hZh : Ext Z.heap h0) (hsf : Own Z h0 []) (P0 : Str Z h0 b x [c0, c1]) (P1 : ¬ c1 < (0 : Int32)) (P2 : ¬ (65535 : Int32) < c1) :
    Ctr l Z ELs yn289 jdk_42_method_56_code 2 (some .char) [] (rmk 4 0 0 53) #[(.ref x), (.int 1)] [] h0 (fun v h fs => (fs = [] ∧ v = some (.int c1))) := by
  obtain ⟨hw, hEL, wS, OS, hz0, OA, OH, OL, OF, rfm⟩ := id G
  refine Ctr.intro pn183 hEL hZh hsf ?_
  intro p e s m below meth c s₁ hby hml hret hnm hlk hh K0
  refine Owe.cast (ef94 m x ((1 : Int32))) ?_
  obtain ⟨t1, -, -, f2, f3, ⟨f4, A5, L6⟩ | ⟨f4, A5⟩⟩ := P0
  · have A7 : Ary Z h0 t1 .byte [(.int (byt c0)), (.int (byt c1))] := A5
    obtain ⟨l8, l9, -⟩ := L6
    refine oAloadN K0 1 (d16_0 hby) rfl rfl ?_
    refine oVirtual K0 4 0 (wq hw 18) (wq hw 19) (nfSel (wq hw 21)) (wq hw 21) (wq hw 20) (wq hw 6) (wq hw 22) f2 (rmIsL0 l Z a0 z0 fm G x h0 K0.old K0.both f4) [] [] (lenOf pd282 rfl) (d16_1 hby) ?_
    intro T10 h12 v13 lo14 fs15 K11 Kp16 q17
    obtain ⟨rfl, rfl⟩ := q17
    have K18 := K11.to 0 0 []
    refine Owe.stk [(.int 1)] ?_
    refine oIfNo K18 7 (d16_4 hby) (XT.i0_eq_f (by decide)) ?_
    refine oAloadN K18 8 (d16_7 hby) rfl rfl ?_
    refine oGetF K18 11 (wq hw 25) (f3.keep Kp16 nin0) (d16_8 hby) ?_
    intro T19 K20
    refine oIloadN K20 12 (d16_11 hby) rfl ?_
    refine oStatic K20 15 0 (wq hw 26) (wq hw 27) (wq hw 28) (wq hw 29) (rmLC2_1 l Z a0 z0 fm G t1 c1 ((byt c0)) h12 K20.old K20.both (A7.keep Kp16 nin0) P1 l9) [(.ref t1), (.int 1)] [] (lenOf pd150 rfl) (d16_12 hby) ?_
    intro T21 h23 v24 lo25 fs26 K22 Kp27 q28
    obtain ⟨rfl, rfl⟩ := q28
    have K29 := K22.to 0 0 []
    refine Owe.stk [(.int c1)] ?_
    exact oRetI K29 [] (t := .char) hret (by simp) (narrow_rng P1 P2) (d16_15 hby) (by decide) (by decide) hlk (fun x hx => by cases hx) ⟨rfl, rfl⟩
  · have A7 : Ary Z h0 t1 .byte [(.int (byt (c0 >>> ((0 : Int32) &&& 31)))), (.int (byt (c0 >>> ((8 : Int32) &&& 31)))), (.int (byt (c1 >>> ((0 : Int32) &&& 31)))), (.int (byt (c1 >>> ((8 : Int32) &&& 31))))] := A5
    refine oAloadN K0 1 (d16_0 hby) rfl rfl ?_
    refine oVirtual K0 4 0 (wq hw 18) (wq hw 19) (nfSel (wq hw 21)) (wq hw 21) (wq hw 20) (wq hw 6) (wq hw 22) f2 (rmIsL1 l Z a0 z0 fm G x h0 K0.old K0.both f4) [] [] (lenOf pd282 rfl) (d16_1 hby) ?_
    intro T30 h32 v33 lo34 fs35 K31 Kp36 q37
    obtain ⟨rfl, rfl⟩ := q37
    have K38 := K31.to 0 0 []
    refine Owe.stk [(.int 0)] ?_
    refine oIfYes K38 16 (d16_4 hby) (XT.i0_eq_t (by decide)) ?_
    refine oAloadN K38 17 (d16_16 hby) rfl rfl ?_
    refine oGetF K38 20 (wq hw 25) (f3.keep Kp36 nin0) (d16_17 hby) ?_
    intro T39 K40
    refine oIloadN K40 21 (d16_20 hby) rfl ?_
    refine oStatic K40 24 0 (wq hw 119) (wq hw 120) (wq hw 85) (wq hw 121) (rmUch2_1 l Z a0 z0 fm G t1 c0 c1 h32 K40.old K40.both (A7.keep Kp36 nin0) P1 P2) [(.ref t1), (.int 1)] [] (lenOf pd150 rfl) (d16_21 hby) ?_
    intro T41 h43 v44 lo45 fs46 K42 Kp47 q48
    obtain ⟨rfl, rfl⟩ := q48
    have K49 := K42.to 0 0 []
    refine Owe.stk [(.int c1)] ?_
    exact oRetI K49 [] (t := .char) hret (by simp) (narrow_rng P1 P2) (d16_24 hby) (by decide) (by decide) hlk (fun x hx => by cases hx) ⟨rfl, rfl⟩
theorem rmULen3 (G : Gl Z a0 z0 fm) (t : Addr) (e0 e1 e2 e3 e4 e5 : Int32) (h0 : Heap) (hZh : Ext Z.heap h0) (hsf : Own Z h0 []) (P0 : Ary Z h0 t .byte [(.int e0), (.int e1), (.int e2), (.int e3), (.int e4), (.int e5)]) :
    Ctr l Z ELs yn513 jdk_52_method_6_code 1 (some .int) [] (rmk 0 0 0 0) #[(.ref t)] [] h0 (fun v h fs => (fs = [] ∧ v = some (.int 3))) := by
  obtain ⟨hw, hEL, wS, OS, hz0, OA, OH, OL, OF, rfm⟩ := id G
  refine Ctr.intro pn12 hEL hZh hsf ?_
  intro p e s m below meth c s₁ hby hml hret hnm hlk hh K0
  refine Owe.cast (ef220 m t) ?_
  refine oAloadN K0 1 (d22_0 hby) rfl rfl ?_
  refine oLen K0 2 P0 (n := (6 : Int32)) (by first | rfl | decide) (d22_1 hby) ?_
  refine oIconstV K0 3 (1 : Int32) (d22_2 hby) rfl ?_
  refine oIshr K0 4 (d22_3 hby) ?_
  show Owe _ _ _ _ s₁ (mkF m 4 #[.val (.ref t)] [(.int 3)])
  exact oRetI K0 [] (t := .int) hret (by simp) rfl (d22_4 hby) (by decide) (by decide) hlk (fun x hx => by cases hx) ⟨rfl, rfl⟩
theorem rmUck3_0 (G : Gl Z a0 z0 fm) (t : Addr) (e0 e1 e2 e3 e4 e5 : Int32) (h0 : Heap) (hZh : Ext Z.heap h0) (hsf : Own Z h0 []) (P0 : Ary Z h0 t .byte [(.int e0), (.int e1), (.int e2), (.int e3), (.int e4), (.int e5)]) :
    Ctr l Z ELs yn522 jdk_52_method_91_code 2 none [] (rmk 2 0 0 27) #[(.int 0), (.ref t)] [] h0 (fun v h fs => (fs = [] ∧ v = none)) := by
  obtain ⟨hw, hEL, wS, OS, hz0, OA, OH, OL, OF, rfm⟩ := id G
  refine Ctr.intro pn12 hEL hZh hsf ?_
  intro p e s m below meth c s₁ hby hml hret hnm hlk hh K0
  refine Owe.cast (ef521 m ((0 : Int32)) t) ?_
  refine oIloadN K0 1 (d23_0 hby) rfl ?_
  refine oAloadN K0 2 (d23_1 hby) rfl rfl ?_
  refine oStatic K0 5 1 (wq hw 125) (wq hw 126) (wq hw 85) (wq hw 127) (rmULen3 l Z a0 z0 fm G t e0 e1 e2 e3 e4 e5 h0 K0.old K0.both P0) [(.ref t)] [(.int 0)] (lenOf pd518 rfl) (d23_2 hby) ?_
  intro T1 h3 v4 lo5 fs6 K2 Kp7 q8
  obtain ⟨rfl, rfl⟩ := q8
  have K9 := K2.to 0 0 []
  refine Owe.stk [(.int 3), (.int 0)] ?_
  refine oStatic K9 8 0 (wq hw 128) (wq hw 31) (wq hw 6) (wq hw 32) (rmCkI l Z a0 z0 fm G ((0 : Int32)) ((3 : Int32)) h3 K9.old K9.both (by decide) (by decide)) [(.int 0), (.int 3)] [] (lenOf pd269 rfl) (d23_5 hby) ?_
  intro T10 h12 v13 lo14 fs15 K11 Kp16 q17
  obtain ⟨rfl, rfl⟩ := q17
  have K18 := K11.to 0 0 []
  refine Owe.stk [] ?_
  exact oRetV K18 [] hret (d23_8 hby) (by decide) (by decide) hlk (fun x hx => by cases hx) ⟨rfl, rfl⟩
theorem rmUch3_0 (G : Gl Z a0 z0 fm) (t : Addr) (c0 c1 c2 : Int32) (h0 : Heap) (hZh : Ext Z.heap h0) (hsf : Own Z h0 []) (P0 : Ary Z h0 t .byte [(.int (byt (c0 >>> ((0 : Int32) &&& 31)))), (.int (byt (c0 >>> ((8 : Int32) &&& 31)))), (.int (byt (c1 >>> ((0 : Int32) &&& 31)))), (.int (byt (c1 >>> ((8 : Int32) &&& 31)))), (.int (byt (c2 >>> ((0 : Int32) &&& 31)))), (.int (byt (c2 >>> ((8 : Int32) &&& 31))))]) (P1 : ¬ c0 < (0 : Int32)) (P2 : ¬ (65535 : Int32) < c0) :
    Ctr l Z ELs yn532 jdk_52_method_83_code 2 (some .char) [] (rmk 3 0 0 40) #[(.ref t), (.int 0)] [] h0 (fun v h fs => (fs = [] ∧ v = some (.int c0))) := by
  obtain ⟨hw, hEL, wS, OS, hz0, OA, OH, OL, OF, rfm⟩ := id G
  refine Ctr.intro pn12 hEL hZh hsf ?_
  intro p e s m below meth c s₁ hby hml hret hnm hlk hh K0
  refine Owe.cast (ef94 m t ((0 : Int32))) ?_
  refine oIloadN K0 1 (d24_0 hby) rfl ?_
  refine oAloadN K0 2 (d24_1 hby) rfl rfl ?_
  refine oStatic K0 5 0 (wq hw 122) (wq hw 123) (wq hw 85) (wq hw 124) (rmUck3_0 l Z a0 z0 fm G t ((byt (c0 >>> ((0 : Int32) &&& 31)))) ((byt (c0 >>> ((8 : Int32) &&& 31)))) ((byt (c1 >>> ((0 : Int32) &&& 31)))) ((byt (c1 >>> ((8 : Int32) &&& 31)))) ((byt (c2 >>> ((0 : Int32) &&& 31)))) ((byt (c2 >>> ((8 : Int32) &&& 31)))) h0 K0.old K0.both P0) [(.int 0), (.ref t)] [] (lenOf pd527 rfl) (d24_2 hby) ?_
  intro T1 h3 v4 lo5 fs6 K2 Kp7 q8
  obtain ⟨rfl, rfl⟩ := q8
  have K9 := K2.to 0 0 []
  refine Owe.stk [] ?_
  refine oAloadN K9 6 (d24_5 hby) rfl rfl ?_
  refine oIloadN K9 7 (d24_6 hby) rfl ?_
  refine oStatic K9 10 0 (wq hw 116) (wq hw 117) (wq hw 85) (wq hw 118) (rmGet3_0 l Z a0 z0 fm G t c0 c1 c2 h3 K9.old K9.both (P0.keep Kp7 nin0) P1 P2) [(.ref t), (.int 0)] [] (lenOf pd150 rfl) (d24_7 hby) ?_
  intro T10 h12 v13 lo14 fs15 K11 Kp16 q17
  obtain ⟨rfl, rfl⟩ := q17
  have K18 := K11.to 0 0 []
  refine Owe.stk [(.int c0)] ?_
  exact oRetI K18 [] (t := .char) hret (by simp) (narrow_rng P1 P2) (d24_10 hby) (by decide) (by decide) hlk (fun x hx => by cases hx) ⟨rfl, rfl⟩
theorem rmCh3_0 (G : Gl Z a0 z0 fm) (x : Addr) (b : Nat) (c0 c1 c2 : Int32) (h0 : Heap) (hZh : Ext Z.heap h0) (hsf : Own Z h0 []) (P0 : Str Z h0 b x [c0, c1, c2]) (P1 : ¬ c0 < (0 : Int32)) (P2 : ¬ (65535 : Int32) < c0) :
    Ctr l Z ELs yn289 jdk_42_method_56_code 2 (some .char) [] (rmk 4 0 0 53) #[(.ref x), (.int 0)] [] h0 (fun v h fs => (fs = [] ∧ v = some (.int c0))) := by
  obtain ⟨hw, hEL, wS, OS, hz0, OA, OH, OL, OF, rfm⟩ := id G
  refine Ctr.intro pn183 hEL hZh hsf ?_
  intro p e s m below meth c s₁ hby hml hret hnm hlk hh K0
  refine Owe.cast (ef94 m x ((0 : Int32))) ?_
  obtain ⟨t1, -, -, f2, f3, ⟨f4, A5, L6⟩ | ⟨f4, A5⟩⟩ := P0
  · have A7 : Ary Z h0 t1 .byte [(.int (byt c0)), (.int (byt c1)), (.int (byt c2))] := A5
    obtain ⟨l8, l9, l10, -⟩ := L6
    refine oAloadN K0 1 (d16_0 hby) rfl rfl ?_
    refine oVirtual K0 4 0 (wq hw 18) (wq hw 19) (nfSel (wq hw 21)) (wq hw 21) (wq hw 20) (wq hw 6) (wq hw 22) f2 (rmIsL0 l Z a0 z0 fm G x h0 K0.old K0.both f4) [] [] (lenOf pd282 rfl) (d16_1 hby) ?_
    intro T11 h13 v14 lo15 fs16 K12 Kp17 q18
    obtain ⟨rfl, rfl⟩ := q18
    have K19 := K12.to 0 0 []
    refine Owe.stk [(.int 1)] ?_
    refine oIfNo K19 7 (d16_4 hby) (XT.i0_eq_f (by decide)) ?_
    refine oAloadN K19 8 (d16_7 hby) rfl rfl ?_
    refine oGetF K19 11 (wq hw 25) (f3.keep Kp17 nin0) (d16_8 hby) ?_
    intro T20 K21
    refine oIloadN K21 12 (d16_11 hby) rfl ?_
    refine oStatic K21 15 0 (wq hw 26) (wq hw 27) (wq hw 28) (wq hw 29) (rmLC3_0 l Z a0 z0 fm G t1 c0 ((byt c1)) ((byt c2)) h13 K21.old K21.both (A7.keep Kp17 nin0) P1 l8) [(.ref t1), (.int 0)] [] (lenOf pd150 rfl) (d16_12 hby) ?_
    intro T22 h24 v25 lo26 fs27 K23 Kp28 q29
    obtain ⟨rfl, rfl⟩ := q29
    have K30 := K23.to 0 0 []
    refine Owe.stk [(.int c0)] ?_
    exact oRetI K30 [] (t := .char) hret (by simp) (narrow_rng P1 P2) (d16_15 hby) (by decide) (by decide) hlk (fun x hx => by cases hx) ⟨rfl, rfl⟩
  · have A7 : Ary Z h0 t1 .byte [(.int (byt (c0 >>> ((0 : Int32) &&& 31)))), (.int (byt (c0 >>> ((8 : Int32) &&& 31)))), (.int (byt (c1 >>> ((0 : Int32) &&& 31)))), (.int (byt (c1 >>> ((8 : Int32) &&& 31)))), (.int (byt (c2 >>> ((0 : Int32) &&& 31)))), (.int (byt (c2 >>> ((8 : Int32) &&& 31))))] := A5
    refine oAloadN K0 1 (d16_0 hby) rfl rfl ?_
    refine oVirtual K0 4 0 (wq hw 18) (wq hw 19) (nfSel (wq hw 21)) (wq hw 21) (wq hw 20) (wq hw 6) (wq hw 22) f2 (rmIsL1 l Z a0 z0 fm G x h0 K0.old K0.both f4) [] [] (lenOf pd282 rfl) (d16_1 hby) ?_
    intro T31 h33 v34 lo35 fs36 K32 Kp37 q38
    obtain ⟨rfl, rfl⟩ := q38
    have K39 := K32.to 0 0 []
    refine Owe.stk [(.int 0)] ?_
    refine oIfYes K39 16 (d16_4 hby) (XT.i0_eq_t (by decide)) ?_
    refine oAloadN K39 17 (d16_16 hby) rfl rfl ?_
    refine oGetF K39 20 (wq hw 25) (f3.keep Kp37 nin0) (d16_17 hby) ?_
    intro T40 K41
    refine oIloadN K41 21 (d16_20 hby) rfl ?_
    refine oStatic K41 24 0 (wq hw 119) (wq hw 120) (wq hw 85) (wq hw 121) (rmUch3_0 l Z a0 z0 fm G t1 c0 c1 c2 h33 K41.old K41.both (A7.keep Kp37 nin0) P1 P2) [(.ref t1), (.int 0)] [] (lenOf pd150 rfl) (d16_21 hby) ?_
    intro T42 h44 v45 lo46 fs47 K43 Kp48 q49
    obtain ⟨rfl, rfl⟩ := q49
    have K50 := K43.to 0 0 []
    refine Owe.stk [(.int c0)] ?_
    exact oRetI K50 [] (t := .char) hret (by simp) (narrow_rng P1 P2) (d16_24 hby) (by decide) (by decide) hlk (fun x hx => by cases hx) ⟨rfl, rfl⟩
theorem rmUck3_1 (G : Gl Z a0 z0 fm) (t : Addr) (e0 e1 e2 e3 e4 e5 : Int32) (h0 : Heap) (hZh : Ext Z.heap h0) (hsf : Own Z h0 []) (P0 : Ary Z h0 t .byte [(.int e0), (.int e1), (.int e2), (.int e3), (.int e4), (.int e5)]) :
    Ctr l Z ELs yn522 jdk_52_method_91_code 2 none [] (rmk 2 0 0 27) #[(.int 1), (.ref t)] [] h0 (fun v h fs => (fs = [] ∧ v = none)) := by
  obtain ⟨hw, hEL, wS, OS, hz0, OA, OH, OL, OF, rfm⟩ := id G
  refine Ctr.intro pn12 hEL hZh hsf ?_
  intro p e s m below meth c s₁ hby hml hret hnm hlk hh K0
  refine Owe.cast (ef521 m ((1 : Int32)) t) ?_
  refine oIloadN K0 1 (d23_0 hby) rfl ?_
  refine oAloadN K0 2 (d23_1 hby) rfl rfl ?_
  refine oStatic K0 5 1 (wq hw 125) (wq hw 126) (wq hw 85) (wq hw 127) (rmULen3 l Z a0 z0 fm G t e0 e1 e2 e3 e4 e5 h0 K0.old K0.both P0) [(.ref t)] [(.int 1)] (lenOf pd518 rfl) (d23_2 hby) ?_
  intro T1 h3 v4 lo5 fs6 K2 Kp7 q8
  obtain ⟨rfl, rfl⟩ := q8
  have K9 := K2.to 0 0 []
  refine Owe.stk [(.int 3), (.int 1)] ?_
  refine oStatic K9 8 0 (wq hw 128) (wq hw 31) (wq hw 6) (wq hw 32) (rmCkI l Z a0 z0 fm G ((1 : Int32)) ((3 : Int32)) h3 K9.old K9.both (by decide) (by decide)) [(.int 1), (.int 3)] [] (lenOf pd269 rfl) (d23_5 hby) ?_
  intro T10 h12 v13 lo14 fs15 K11 Kp16 q17
  obtain ⟨rfl, rfl⟩ := q17
  have K18 := K11.to 0 0 []
  refine Owe.stk [] ?_
  exact oRetV K18 [] hret (d23_8 hby) (by decide) (by decide) hlk (fun x hx => by cases hx) ⟨rfl, rfl⟩
theorem rmUch3_1 (G : Gl Z a0 z0 fm) (t : Addr) (c0 c1 c2 : Int32) (h0 : Heap) (hZh : Ext Z.heap h0) (hsf : Own Z h0 []) (P0 : Ary Z h0 t .byte [(.int (byt (c0 >>> ((0 : Int32) &&& 31)))), (.int (byt (c0 >>> ((8 : Int32) &&& 31)))), (.int (byt (c1 >>> ((0 : Int32) &&& 31)))), (.int (byt (c1 >>> ((8 : Int32) &&& 31)))), (.int (byt (c2 >>> ((0 : Int32) &&& 31)))), (.int (byt (c2 >>> ((8 : Int32) &&& 31))))]) (P1 : ¬ c1 < (0 : Int32)) (P2 : ¬ (65535 : Int32) < c1) :
    Ctr l Z ELs yn532 jdk_52_method_83_code 2 (some .char) [] (rmk 3 0 0 40) #[(.ref t), (.int 1)] [] h0 (fun v h fs => (fs = [] ∧ v = some (.int c1))) := by
  obtain ⟨hw, hEL, wS, OS, hz0, OA, OH, OL, OF, rfm⟩ := id G
  refine Ctr.intro pn12 hEL hZh hsf ?_
  intro p e s m below meth c s₁ hby hml hret hnm hlk hh K0
  refine Owe.cast (ef94 m t ((1 : Int32))) ?_
  refine oIloadN K0 1 (d24_0 hby) rfl ?_
  refine oAloadN K0 2 (d24_1 hby) rfl rfl ?_
  refine oStatic K0 5 0 (wq hw 122) (wq hw 123) (wq hw 85) (wq hw 124) (rmUck3_1 l Z a0 z0 fm G t ((byt (c0 >>> ((0 : Int32) &&& 31)))) ((byt (c0 >>> ((8 : Int32) &&& 31)))) ((byt (c1 >>> ((0 : Int32) &&& 31)))) ((byt (c1 >>> ((8 : Int32) &&& 31)))) ((byt (c2 >>> ((0 : Int32) &&& 31)))) ((byt (c2 >>> ((8 : Int32) &&& 31)))) h0 K0.old K0.both P0) [(.int 1), (.ref t)] [] (lenOf pd527 rfl) (d24_2 hby) ?_
  intro T1 h3 v4 lo5 fs6 K2 Kp7 q8
  obtain ⟨rfl, rfl⟩ := q8
  have K9 := K2.to 0 0 []
  refine Owe.stk [] ?_
  refine oAloadN K9 6 (d24_5 hby) rfl rfl ?_
  refine oIloadN K9 7 (d24_6 hby) rfl ?_
  refine oStatic K9 10 0 (wq hw 116) (wq hw 117) (wq hw 85) (wq hw 118) (rmGet3_1 l Z a0 z0 fm G t c0 c1 c2 h3 K9.old K9.both (P0.keep Kp7 nin0) P1 P2) [(.ref t), (.int 1)] [] (lenOf pd150 rfl) (d24_7 hby) ?_
  intro T10 h12 v13 lo14 fs15 K11 Kp16 q17
  obtain ⟨rfl, rfl⟩ := q17
  have K18 := K11.to 0 0 []
  refine Owe.stk [(.int c1)] ?_
  exact oRetI K18 [] (t := .char) hret (by simp) (narrow_rng P1 P2) (d24_10 hby) (by decide) (by decide) hlk (fun x hx => by cases hx) ⟨rfl, rfl⟩
theorem rmCh3_1 (G : Gl Z a0 z0 fm) (x : Addr) (b : Nat) (c0 c1 c2 : Int32) (h0 : Heap) (hZh : Ext Z.heap h0) (hsf : Own Z h0 []) (P0 : Str Z h0 b x [c0, c1, c2]) (P1 : ¬ c1 < (0 : Int32)) (P2 : ¬ (65535 : Int32) < c1) :
    Ctr l Z ELs yn289 jdk_42_method_56_code 2 (some .char) [] (rmk 4 0 0 53) #[(.ref x), (.int 1)] [] h0 (fun v h fs => (fs = [] ∧ v = some (.int c1))) := by
  obtain ⟨hw, hEL, wS, OS, hz0, OA, OH, OL, OF, rfm⟩ := id G
  refine Ctr.intro pn183 hEL hZh hsf ?_
  intro p e s m below meth c s₁ hby hml hret hnm hlk hh K0
  refine Owe.cast (ef94 m x ((1 : Int32))) ?_
  obtain ⟨t1, -, -, f2, f3, ⟨f4, A5, L6⟩ | ⟨f4, A5⟩⟩ := P0
  · have A7 : Ary Z h0 t1 .byte [(.int (byt c0)), (.int (byt c1)), (.int (byt c2))] := A5
    obtain ⟨l8, l9, l10, -⟩ := L6
    refine oAloadN K0 1 (d16_0 hby) rfl rfl ?_
    refine oVirtual K0 4 0 (wq hw 18) (wq hw 19) (nfSel (wq hw 21)) (wq hw 21) (wq hw 20) (wq hw 6) (wq hw 22) f2 (rmIsL0 l Z a0 z0 fm G x h0 K0.old K0.both f4) [] [] (lenOf pd282 rfl) (d16_1 hby) ?_
    intro T11 h13 v14 lo15 fs16 K12 Kp17 q18
    obtain ⟨rfl, rfl⟩ := q18
    have K19 := K12.to 0 0 []
    refine Owe.stk [(.int 1)] ?_
    refine oIfNo K19 7 (d16_4 hby) (XT.i0_eq_f (by decide)) ?_
    refine oAloadN K19 8 (d16_7 hby) rfl rfl ?_
    refine oGetF K19 11 (wq hw 25) (f3.keep Kp17 nin0) (d16_8 hby) ?_
    intro T20 K21
    refine oIloadN K21 12 (d16_11 hby) rfl ?_
    refine oStatic K21 15 0 (wq hw 26) (wq hw 27) (wq hw 28) (wq hw 29) (rmLC3_1 l Z a0 z0 fm G t1 c1 ((byt c0)) ((byt c2)) h13 K21.old K21.both (A7.keep Kp17 nin0) P1 l9) [(.ref t1), (.int 1)] [] (lenOf pd150 rfl) (d16_12 hby) ?_
    intro T22 h24 v25 lo26 fs27 K23 Kp28 q29
    obtain ⟨rfl, rfl⟩ := q29
    have K30 := K23.to 0 0 []
    refine Owe.stk [(.int c1)] ?_
    exact oRetI K30 [] (t := .char) hret (by simp) (narrow_rng P1 P2) (d16_15 hby) (by decide) (by decide) hlk (fun x hx => by cases hx) ⟨rfl, rfl⟩
  · have A7 : Ary Z h0 t1 .byte [(.int (byt (c0 >>> ((0 : Int32) &&& 31)))), (.int (byt (c0 >>> ((8 : Int32) &&& 31)))), (.int (byt (c1 >>> ((0 : Int32) &&& 31)))), (.int (byt (c1 >>> ((8 : Int32) &&& 31)))), (.int (byt (c2 >>> ((0 : Int32) &&& 31)))), (.int (byt (c2 >>> ((8 : Int32) &&& 31))))] := A5
    refine oAloadN K0 1 (d16_0 hby) rfl rfl ?_
    refine oVirtual K0 4 0 (wq hw 18) (wq hw 19) (nfSel (wq hw 21)) (wq hw 21) (wq hw 20) (wq hw 6) (wq hw 22) f2 (rmIsL1 l Z a0 z0 fm G x h0 K0.old K0.both f4) [] [] (lenOf pd282 rfl) (d16_1 hby) ?_
    intro T31 h33 v34 lo35 fs36 K32 Kp37 q38
    obtain ⟨rfl, rfl⟩ := q38
    have K39 := K32.to 0 0 []
    refine Owe.stk [(.int 0)] ?_
    refine oIfYes K39 16 (d16_4 hby) (XT.i0_eq_t (by decide)) ?_
    refine oAloadN K39 17 (d16_16 hby) rfl rfl ?_
    refine oGetF K39 20 (wq hw 25) (f3.keep Kp37 nin0) (d16_17 hby) ?_
    intro T40 K41
    refine oIloadN K41 21 (d16_20 hby) rfl ?_
    refine oStatic K41 24 0 (wq hw 119) (wq hw 120) (wq hw 85) (wq hw 121) (rmUch3_1 l Z a0 z0 fm G t1 c0 c1 c2 h33 K41.old K41.both (A7.keep Kp37 nin0) P1 P2) [(.ref t1), (.int 1)] [] (lenOf pd150 rfl) (d16_21 hby) ?_
    intro T42 h44 v45 lo46 fs47 K43 Kp48 q49
    obtain ⟨rfl, rfl⟩ := q49
    have K50 := K43.to 0 0 []
    refine Owe.stk [(.int c1)] ?_
    exact oRetI K50 [] (t := .char) hret (by simp) (narrow_rng P1 P2) (d16_24 hby) (by decide) (by decide) hlk (fun x hx => by cases hx) ⟨rfl, rfl⟩
theorem rmUck3_2 (G : Gl Z a0 z0 fm) (t : Addr) (e0 e1 e2 e3 e4 e5 : Int32) (h0 : Heap) (hZh : Ext Z.heap h0) (hsf : Own Z h0 []) (P0 : Ary Z h0 t .byte [(.int e0), (.int e1), (.int e2), (.int e3), (.int e4), (.int e5)]) :
    Ctr l Z ELs yn522 jdk_52_method_91_code 2 none [] (rmk 2 0 0 27) #[(.int 2), (.ref t)] [] h0 (fun v h fs => (fs = [] ∧ v = none)) := by
  obtain ⟨hw, hEL, wS, OS, hz0, OA, OH, OL, OF, rfm⟩ := id G
  refine Ctr.intro pn12 hEL hZh hsf ?_
  intro p e s m below meth c s₁ hby hml hret hnm hlk hh K0
  refine Owe.cast (ef521 m ((2 : Int32)) t) ?_
  refine oIloadN K0 1 (d23_0 hby) rfl ?_
  refine oAloadN K0 2 (d23_1 hby) rfl rfl ?_
  refine oStatic K0 5 1 (wq hw 125) (wq hw 126) (wq hw 85) (wq hw 127) (rmULen3 l Z a0 z0 fm G t e0 e1 e2 e3 e4 e5 h0 K0.old K0.both P0) [(.ref t)] [(.int 2)] (lenOf pd518 rfl) (d23_2 hby) ?_
  intro T1 h3 v4 lo5 fs6 K2 Kp7 q8
  obtain ⟨rfl, rfl⟩ := q8
  have K9 := K2.to 0 0 []
  refine Owe.stk [(.int 3), (.int 2)] ?_
  refine oStatic K9 8 0 (wq hw 128) (wq hw 31) (wq hw 6) (wq hw 32) (rmCkI l Z a0 z0 fm G ((2 : Int32)) ((3 : Int32)) h3 K9.old K9.both (by decide) (by decide)) [(.int 2), (.int 3)] [] (lenOf pd269 rfl) (d23_5 hby) ?_
  intro T10 h12 v13 lo14 fs15 K11 Kp16 q17
  obtain ⟨rfl, rfl⟩ := q17
  have K18 := K11.to 0 0 []
  refine Owe.stk [] ?_
  exact oRetV K18 [] hret (d23_8 hby) (by decide) (by decide) hlk (fun x hx => by cases hx) ⟨rfl, rfl⟩
theorem rmUch3_2 (G : Gl Z a0 z0 fm) (t : Addr) (c0 c1 c2 : Int32) (h0 : Heap) (hZh : Ext Z.heap h0) (hsf : Own Z h0 []) (P0 : Ary Z h0 t .byte [(.int (byt (c0 >>> ((0 : Int32) &&& 31)))), (.int (byt (c0 >>> ((8 : Int32) &&& 31)))), (.int (byt (c1 >>> ((0 : Int32) &&& 31)))), (.int (byt (c1 >>> ((8 : Int32) &&& 31)))), (.int (byt (c2 >>> ((0 : Int32) &&& 31)))), (.int (byt (c2 >>> ((8 : Int32) &&& 31))))]) (P1 : ¬ c2 < (0 : Int32)) (P2 : ¬ (65535 : Int32) < c2) :
    Ctr l Z ELs yn532 jdk_52_method_83_code 2 (some .char) [] (rmk 3 0 0 40) #[(.ref t), (.int 2)] [] h0 (fun v h fs => (fs = [] ∧ v = some (.int c2))) := by
  obtain ⟨hw, hEL, wS, OS, hz0, OA, OH, OL, OF, rfm⟩ := id G
  refine Ctr.intro pn12 hEL hZh hsf ?_
  intro p e s m below meth c s₁ hby hml hret hnm hlk hh K0
  refine Owe.cast (ef94 m t ((2 : Int32))) ?_
  refine oIloadN K0 1 (d24_0 hby) rfl ?_
  refine oAloadN K0 2 (d24_1 hby) rfl rfl ?_
  refine oStatic K0 5 0 (wq hw 122) (wq hw 123) (wq hw 85) (wq hw 124) (rmUck3_2 l Z a0 z0 fm G t ((byt (c0 >>> ((0 : Int32) &&& 31)))) ((byt (c0 >>> ((8 : Int32) &&& 31)))) ((byt (c1 >>> ((0 : Int32) &&& 31)))) ((byt (c1 >>> ((8 : Int32) &&& 31)))) ((byt (c2 >>> ((0 : Int32) &&& 31)))) ((byt (c2 >>> ((8 : Int32) &&& 31)))) h0 K0.old K0.both P0) [(.int 2), (.ref t)] [] (lenOf pd527 rfl) (d24_2 hby) ?_
  intro T1 h3 v4 lo5 fs6 K2 Kp7 q8
  obtain ⟨rfl, rfl⟩ := q8
  have K9 := K2.to 0 0 []
  refine Owe.stk [] ?_
  refine oAloadN K9 6 (d24_5 hby) rfl rfl ?_
  refine oIloadN K9 7 (d24_6 hby) rfl ?_
  refine oStatic K9 10 0 (wq hw 116) (wq hw 117) (wq hw 85) (wq hw 118) (rmGet3_2 l Z a0 z0 fm G t c0 c1 c2 h3 K9.old K9.both (P0.keep Kp7 nin0) P1 P2) [(.ref t), (.int 2)] [] (lenOf pd150 rfl) (d24_7 hby) ?_
  intro T10 h12 v13 lo14 fs15 K11 Kp16 q17
  obtain ⟨rfl, rfl⟩ := q17
  have K18 := K11.to 0 0 []
  refine Owe.stk [(.int c2)] ?_
  exact oRetI K18 [] (t := .char) hret (by simp) (narrow_rng P1 P2) (d24_10 hby) (by decide) (by decide) hlk (fun x hx => by cases hx) ⟨rfl, rfl⟩
theorem rmCh3_2 (G : Gl Z a0 z0 fm) (x : Addr) (b : Nat) (c0 c1 c2 : Int32) (h0 : Heap) (hZh : Ext Z.heap h0) (hsf : Own Z h0 []) (P0 : Str Z h0 b x [c0, c1, c2]) (P1 : ¬ c2 < (0 : Int32)) (P2 : ¬ (65535 : Int32) < c2) :
    Ctr l Z ELs yn289 jdk_42_method_56_code 2 (some .char) [] (rmk 4 0 0 53) #[(.ref x), (.int 2)] [] h0 (fun v h fs => (fs = [] ∧ v = some (.int c2))) := by
  obtain ⟨hw, hEL, wS, OS, hz0, OA, OH, OL, OF, rfm⟩ := id G
  refine Ctr.intro pn183 hEL hZh hsf ?_
  intro p e s m below meth c s₁ hby hml hret hnm hlk hh K0
  refine Owe.cast (ef94 m x ((2 : Int32))) ?_
  obtain ⟨t1, -, -, f2, f3, ⟨f4, A5, L6⟩ | ⟨f4, A5⟩⟩ := P0
  · have A7 : Ary Z h0 t1 .byte [(.int (byt c0)), (.int (byt c1)), (.int (byt c2))] := A5
    obtain ⟨l8, l9, l10, -⟩ := L6
    refine oAloadN K0 1 (d16_0 hby) rfl rfl ?_
    refine oVirtual K0 4 0 (wq hw 18) (wq hw 19) (nfSel (wq hw 21)) (wq hw 21) (wq hw 20) (wq hw 6) (wq hw 22) f2 (rmIsL0 l Z a0 z0 fm G x h0 K0.old K0.both f4) [] [] (lenOf pd282 rfl) (d16_1 hby) ?_
    intro T11 h13 v14 lo15 fs16 K12 Kp17 q18
    obtain ⟨rfl, rfl⟩ := q18
    have K19 := K12.to 0 0 []
    refine Owe.stk [(.int 1)] ?_
    refine oIfNo K19 7 (d16_4 hby) (XT.i0_eq_f (by decide)) ?_
    refine oAloadN K19 8 (d16_7 hby) rfl rfl ?_
    refine oGetF K19 11 (wq hw 25) (f3.keep Kp17 nin0) (d16_8 hby) ?_
    intro T20 K21
    refine oIloadN K21 12 (d16_11 hby) rfl ?_
    refine oStatic K21 15 0 (wq hw 26) (wq hw 27) (wq hw 28) (wq hw 29) (rmLC3_2 l Z a0 z0 fm G t1 c2 ((byt c0)) ((byt c1)) h13 K21.old K21.both (A7.keep Kp17 nin0) P1 l10) [(.ref t1), (.int 2)] [] (lenOf pd150 rfl) (d16_12 hby) ?_
    intro T22 h24 v25 lo26 fs27 K23 Kp28 q29
    obtain ⟨rfl, rfl⟩ := q29
    have K30 := K23.to 0 0 []
    refine Owe.stk [(.int c2)] ?_
    exact oRetI K30 [] (t := .char) hret (by simp) (narrow_rng P1 P2) (d16_15 hby) (by decide) (by decide) hlk (fun x hx => by cases hx) ⟨rfl, rfl⟩
  · have A7 : Ary Z h0 t1 .byte [(.int (byt (c0 >>> ((0 : Int32) &&& 31)))), (.int (byt (c0 >>> ((8 : Int32) &&& 31)))), (.int (byt (c1 >>> ((0 : Int32) &&& 31)))), (.int (byt (c1 >>> ((8 : Int32) &&& 31)))), (.int (byt (c2 >>> ((0 : Int32) &&& 31)))), (.int (byt (c2 >>> ((8 : Int32) &&& 31))))] := A5
    refine oAloadN K0 1 (d16_0 hby) rfl rfl ?_
    refine oVirtual K0 4 0 (wq hw 18) (wq hw 19) (nfSel (wq hw 21)) (wq hw 21) (wq hw 20) (wq hw 6) (wq hw 22) f2 (rmIsL1 l Z a0 z0 fm G x h0 K0.old K0.both f4) [] [] (lenOf pd282 rfl) (d16_1 hby) ?_
    intro T31 h33 v34 lo35 fs36 K32 Kp37 q38
    obtain ⟨rfl, rfl⟩ := q38
    have K39 := K32.to 0 0 []
    refine Owe.stk [(.int 0)] ?_
    refine oIfYes K39 16 (d16_4 hby) (XT.i0_eq_t (by decide)) ?_
    refine oAloadN K39 17 (d16_16 hby) rfl rfl ?_
    refine oGetF K39 20 (wq hw 25) (f3.keep Kp37 nin0) (d16_17 hby) ?_
    intro T40 K41
    refine oIloadN K41 21 (d16_20 hby) rfl ?_
    refine oStatic K41 24 0 (wq hw 119) (wq hw 120) (wq hw 85) (wq hw 121) (rmUch3_2 l Z a0 z0 fm G t1 c0 c1 c2 h33 K41.old K41.both (A7.keep Kp37 nin0) P1 P2) [(.ref t1), (.int 2)] [] (lenOf pd150 rfl) (d16_21 hby) ?_
    intro T42 h44 v45 lo46 fs47 K43 Kp48 q49
    obtain ⟨rfl, rfl⟩ := q49
    have K50 := K43.to 0 0 []
    refine Owe.stk [(.int c2)] ?_
    exact oRetI K50 [] (t := .char) hret (by simp) (narrow_rng P1 P2) (d16_24 hby) (by decide) (by decide) hlk (fun x hx => by cases hx) ⟨rfl, rfl⟩
theorem rmULen4 (G : Gl Z a0 z0 fm) (t : Addr) (e0 e1 e2 e3 e4 e5 e6 e7 : Int32) (h0 : Heap) (hZh : Ext Z.heap h0) (hsf : Own Z h0 []) (P0 : Ary Z h0 t .byte [(.int e0), (.int e1), (.int e2), (.int e3), (.int e4), (.int e5), (.int e6), (.int e7)]) :
    Ctr l Z ELs yn513 jdk_52_method_6_code 1 (some .int) [] (rmk 0 0 0 0) #[(.ref t)] [] h0 (fun v h fs => (fs = [] ∧ v = some (.int 4))) := by
  obtain ⟨hw, hEL, wS, OS, hz0, OA, OH, OL, OF, rfm⟩ := id G
  refine Ctr.intro pn12 hEL hZh hsf ?_
  intro p e s m below meth c s₁ hby hml hret hnm hlk hh K0
  refine Owe.cast (ef220 m t) ?_
  refine oAloadN K0 1 (d22_0 hby) rfl rfl ?_
  refine oLen K0 2 P0 (n := (8 : Int32)) (by first | rfl | decide) (d22_1 hby) ?_
  refine oIconstV K0 3 (1 : Int32) (d22_2 hby) rfl ?_
  refine oIshr K0 4 (d22_3 hby) ?_
  show Owe _ _ _ _ s₁ (mkF m 4 #[.val (.ref t)] [(.int 4)])
  exact oRetI K0 [] (t := .int) hret (by simp) rfl (d22_4 hby) (by decide) (by decide) hlk (fun x hx => by cases hx) ⟨rfl, rfl⟩
theorem rmUck4_0 (G : Gl Z a0 z0 fm) (t : Addr) (e0 e1 e2 e3 e4 e5 e6 e7 : Int32) (h0 : Heap) (hZh : Ext Z.heap h0) (hsf : Own Z h0 []) (P0 : Ary Z h0 t .byte [(.int e0), (.int e1), (.int e2), (.int e3), (.int e4), (.int e5), (.int e6), (.int e7)]) :
    Ctr l Z ELs yn522 jdk_52_method_91_code 2 none [] (rmk 2 0 0 27) #[(.int 0), (.ref t)] [] h0 (fun v h fs => (fs = [] ∧ v = none)) := by
  obtain ⟨hw, hEL, wS, OS, hz0, OA, OH, OL, OF, rfm⟩ := id G
  refine Ctr.intro pn12 hEL hZh hsf ?_
  intro p e s m below meth c s₁ hby hml hret hnm hlk hh K0
  refine Owe.cast (ef521 m ((0 : Int32)) t) ?_
  refine oIloadN K0 1 (d23_0 hby) rfl ?_
  refine oAloadN K0 2 (d23_1 hby) rfl rfl ?_
  refine oStatic K0 5 1 (wq hw 125) (wq hw 126) (wq hw 85) (wq hw 127) (rmULen4 l Z a0 z0 fm G t e0 e1 e2 e3 e4 e5 e6 e7 h0 K0.old K0.both P0) [(.ref t)] [(.int 0)] (lenOf pd518 rfl) (d23_2 hby) ?_
  intro T1 h3 v4 lo5 fs6 K2 Kp7 q8
  obtain ⟨rfl, rfl⟩ := q8
  have K9 := K2.to 0 0 []
  refine Owe.stk [(.int 4), (.int 0)] ?_
  refine oStatic K9 8 0 (wq hw 128) (wq hw 31) (wq hw 6) (wq hw 32) (rmCkI l Z a0 z0 fm G ((0 : Int32)) ((4 : Int32)) h3 K9.old K9.both (by decide) (by decide)) [(.int 0), (.int 4)] [] (lenOf pd269 rfl) (d23_5 hby) ?_
  intro T10 h12 v13 lo14 fs15 K11 Kp16 q17
  obtain ⟨rfl, rfl⟩ := q17
  have K18 := K11.to 0 0 []
  refine Owe.stk [] ?_
  exact oRetV K18 [] hret (d23_8 hby) (by decide) (by decide) hlk (fun x hx => by cases hx) ⟨rfl, rfl⟩
theorem rmUch4_0 (G : Gl Z a0 z0 fm) (t : Addr) (c0 c1 c2 c3 : Int32) (h0 : Heap) (hZh : Ext Z.heap h0) (hsf : Own Z h0 []) (P0 : Ary Z h0 t .byte [(.int (byt (c0 >>> ((0 : Int32) &&& 31)))), (.int (byt (c0 >>> ((8 : Int32) &&& 31)))), (.int (byt (c1 >>> ((0 : Int32) &&& 31)))), (.int (byt (c1 >>> ((8 : Int32) &&& 31)))), (.int (byt (c2 >>> ((0 : Int32) &&& 31)))), (.int (byt (c2 >>> ((8 : Int32) &&& 31)))), (.int (byt (c3 >>> ((0 : Int32) &&& 31)))), (.int (byt (c3 >>> ((8 : Int32) &&& 31))))]) (P1 : ¬ c0 < (0 : Int32)) (P2 : ¬ (65535 : Int32) < c0) :
    Ctr l Z ELs yn532 jdk_52_method_83_code 2 (some .char) [] (rmk 3 0 0 40) #[(.ref t), (.int 0)] [] h0 (fun v h fs => (fs = [] ∧ v = some (.int c0))) := by
  obtain ⟨hw, hEL, wS, OS, hz0, OA, OH, OL, OF, rfm⟩ := id G
  refine Ctr.intro pn12 hEL hZh hsf ?_
  intro p e s m below meth c s₁ hby hml hret hnm hlk hh K0
  refine Owe.cast (ef94 m t ((0 : Int32))) ?_
  refine oIloadN K0 1 (d24_0 hby) rfl ?_
  refine oAloadN K0 2 (d24_1 hby) rfl rfl ?_
  refine oStatic K0 5 0 (wq hw 122) (wq hw 123) (wq hw 85) (wq hw 124) (rmUck4_0 l Z a0 z0 fm G t ((byt (c0 >>> ((0 : Int32) &&& 31)))) ((byt (c0 >>> ((8 : Int32) &&& 31)))) ((byt (c1 >>> ((0 : Int32) &&& 31)))) ((byt (c1 >>> ((8 : Int32) &&& 31)))) ((byt (c2 >>> ((0 : Int32) &&& 31)))) ((byt (c2 >>> ((8 : Int32) &&& 31)))) ((byt (c3 >>> ((0 : Int32) &&& 31)))) ((byt (c3 >>> ((8 : Int32) &&& 31)))) h0 K0.old K0.both P0) [(.int 0), (.ref t)] [] (lenOf pd527 rfl) (d24_2 hby) ?_
  intro T1 h3 v4 lo5 fs6 K2 Kp7 q8
  obtain ⟨rfl, rfl⟩ := q8
  have K9 := K2.to 0 0 []
  refine Owe.stk [] ?_
  refine oAloadN K9 6 (d24_5 hby) rfl rfl ?_
  refine oIloadN K9 7 (d24_6 hby) rfl ?_
  refine oStatic K9 10 0 (wq hw 116) (wq hw 117) (wq hw 85) (wq hw 118) (rmGet4_0 l Z a0 z0 fm G t c0 c1 c2 c3 h3 K9.old K9.both (P0.keep Kp7 nin0) P1 P2) [(.ref t), (.int 0)] [] (lenOf pd150 rfl) (d24_7 hby) ?_
  intro T10 h12 v13 lo14 fs15 K11 Kp16 q17
  obtain ⟨rfl, rfl⟩ := q17
  have K18 := K11.to 0 0 []
  refine Owe.stk [(.int c0)] ?_
  exact oRetI K18 [] (t := .char) hret (by simp) (narrow_rng P1 P2) (d24_10 hby) (by decide) (by decide) hlk (fun x hx => by cases hx) ⟨rfl, rfl⟩
theorem rmCh4_0 (G : Gl Z a0 z0 fm) (x : Addr) (b : Nat) (c0 c1 c2 c3 : Int32) (h0 : Heap) (hZh : Ext Z.heap h0) (hsf : Own Z h0 []) (P0 : Str Z h0 b x [c0, c1, c2, c3]) (P1 : ¬ c0 < (0 : Int32)) (P2 : ¬ (65535 : Int32) < c0) :
    Ctr l Z ELs yn289 jdk_42_method_56_code 2 (some .char) [] (rmk 4 0 0 53) #[(.ref x), (.int 0)] [] h0 (fun v h fs => (fs = [] ∧ v = some (.int c0))) := by
  obtain ⟨hw, hEL, wS, OS, hz0, OA, OH, OL, OF, rfm⟩ := id G
  refine Ctr.intro pn183 hEL hZh hsf ?_
  intro p e s m below meth c s₁ hby hml hret hnm hlk hh K0
  refine Owe.cast (ef94 m x ((0 : Int32))) ?_
  obtain ⟨t1, -, -, f2, f3, ⟨f4, A5, L6⟩ | ⟨f4, A5⟩⟩ := P0
  · have A7 : Ary Z h0 t1 .byte [(.int (byt c0)), (.int (byt c1)), (.int (byt c2)), (.int (byt c3))] := A5
    obtain ⟨l8, l9, l10, l11, -⟩ := L6
    refine oAloadN K0 1 (d16_0 hby) rfl rfl ?_
    refine oVirtual K0 4 0 (wq hw 18) (wq hw 19) (nfSel (wq hw 21)) (wq hw 21) (wq hw 20) (wq hw 6) (wq hw 22) f2 (rmIsL0 l Z a0 z0 fm G x h0 K0.old K0.both f4) [] [] (lenOf pd282 rfl) (d16_1 hby) ?_
    intro T12 h14 v15 lo16 fs17 K13 Kp18 q19
    obtain ⟨rfl, rfl⟩ := q19
    have K20 := K13.to 0 0 []
    refine Owe.stk [(.int 1)] ?_
    refine oIfNo K20 7 (d16_4 hby) (XT.i0_eq_f (by decide)) ?_
    refine oAloadN K20 8 (d16_7 hby) rfl rfl ?_
    refine oGetF K20 11 (wq hw 25) (f3.keep Kp18 nin0) (d16_8 hby) ?_
    intro T21 K22
    refine oIloadN K22 12 (d16_11 hby) rfl ?_
    refine oStatic K22 15 0 (wq hw 26) (wq hw 27) (wq hw 28) (wq hw 29) (rmLC4_0 l Z a0 z0 fm G t1 c0 ((byt c1)) ((byt c2)) ((byt c3)) h14 K22.old K22.both (A7.keep Kp18 nin0) P1 l8) [(.ref t1), (.int 0)] [] (lenOf pd150 rfl) (d16_12 hby) ?_
    intro T23 h25 v26 lo27 fs28 K24 Kp29 q30
    obtain ⟨rfl, rfl⟩ := q30
    have K31 := K24.to 0 0 []
    refine Owe.stk [(.int c0)] ?_
    exact oRetI K31 [] (t := .char) hret (by simp) (narrow_rng P1 P2) (d16_15 hby) (by decide) (by decide) hlk (fun x hx => by cases hx) ⟨rfl, rfl⟩
  · have A7 : Ary Z h0 t1 .byte [(.int (byt (c0 >>> ((0 : Int32) &&& 31)))), (.int (byt (c0 >>> ((8 : Int32) &&& 31)))), (.int (byt (c1 >>> ((0 : Int32) &&& 31)))), (.int (byt (c1 >>> ((8 : Int32) &&& 31)))), (.int (byt (c2 >>> ((0 : Int32) &&& 31)))), (.int (byt (c2 >>> ((8 : Int32) &&& 31)))), (.int (byt (c3 >>> ((0 : Int32) &&& 31)))), (.int (byt (c3 >>> ((8 : Int32) &&& 31))))] := A5
    refine oAloadN K0 1 (d16_0 hby) rfl rfl ?_
    refine oVirtual K0 4 0 (wq hw 18) (wq hw 19) (nfSel (wq hw 21)) (wq hw 21) (wq hw 20) (wq hw 6) (wq hw 22) f2 (rmIsL1 l Z a0 z0 fm G x h0 K0.old K0.both f4) [] [] (lenOf pd282 rfl) (d16_1 hby) ?_
    intro T32 h34 v35 lo36 fs37 K33 Kp38 q39
    obtain ⟨rfl, rfl⟩ := q39
    have K40 := K33.to 0 0 []
    refine Owe.stk [(.int 0)] ?_
    refine oIfYes K40 16 (d16_4 hby) (XT.i0_eq_t (by decide)) ?_
    refine oAloadN K40 17 (d16_16 hby) rfl rfl ?_
    refine oGetF K40 20 (wq hw 25) (f3.keep Kp38 nin0) (d16_17 hby) ?_
    intro T41 K42
    refine oIloadN K42 21 (d16_20 hby) rfl ?_
    refine oStatic K42 24 0 (wq hw 119) (wq hw 120) (wq hw 85) (wq hw 121) (rmUch4_0 l Z a0 z0 fm G t1 c0 c1 c2 c3 h34 K42.old K42.both (A7.keep Kp38 nin0) P1 P2) [(.ref t1), (.int 0)] [] (lenOf pd150 rfl) (d16_21 hby) ?_
    intro T43 h45 v46 lo47 fs48 K44 Kp49 q50
    obtain ⟨rfl, rfl⟩ := q50
    have K51 := K44.to 0 0 []
    refine Owe.stk [(.int c0)] ?_
    exact oRetI K51 [] (t := .char) hret (by simp) (narrow_rng P1 P2) (d16_24 hby) (by decide) (by decide) hlk (fun x hx => by cases hx) ⟨rfl, rfl⟩
theorem rmUck4_1 (G : Gl Z a0 z0 fm) (t : Addr) (e0 e1 e2 e3 e4 e5 e6 e7 : Int32) (h0 : Heap) (hZh : Ext Z.heap h0) (hsf : Own Z h0 []) (P0 : Ary Z h0 t .byte [(.int e0), (.int e1), (.int e2), (.int e3), (.int e4), (.int e5), (.int e6), (.int e7)]) :
    Ctr l Z ELs yn522 jdk_52_method_91_code 2 none [] (rmk 2 0 0 27) #[(.int 1), (.ref t)] [] h0 (fun v h fs => (fs = [] ∧ v = none)) := by
  obtain ⟨hw, hEL, wS, OS, hz0, OA, OH, OL, OF, rfm⟩ := id G
  refine Ctr.intro pn12 hEL hZh hsf ?_
  intro p e s m below meth c s₁ hby hml hret hnm hlk hh K0
  refine Owe.cast (ef521 m ((1 : Int32)) t) ?_
  refine oIloadN K0 1 (d23_0 hby) rfl ?_
  refine oAloadN K0 2 (d23_1 hby) rfl rfl ?_
  refine oStatic K0 5 1 (wq hw 125) (wq hw 126) (wq hw 85) (wq hw 127) (rmULen4 l Z a0 z0 fm G t e0 e1 e2 e3 e4 e5 e6 e7 h0 K0.old K0.both P0) [(.ref t)] [(.int 1)] (lenOf pd518 rfl) (d23_2 hby) ?_
  intro T1 h3 v4 lo5 fs6 K2 Kp7 q8
  obtain ⟨rfl, rfl⟩ := q8
  have K9 := K2.to 0 0 []
  refine Owe.stk [(.int 4), (.int 1)] ?_
  refine oStatic K9 8 0 (wq hw 128) (wq hw 31) (wq hw 6) (wq hw 32) (rmCkI l Z a0 z0 fm G ((1 : Int32)) ((4 : Int32)) h3 K9.old K9.both (by decide) (by decide)) [(.int 1), (.int 4)] [] (lenOf pd269 rfl) (d23_5 hby) ?_
  intro T10 h12 v13 lo14 fs15 K11 Kp16 q17
  obtain ⟨rfl, rfl⟩ := q17
  have K18 := K11.to 0 0 []
  refine Owe.stk [] ?_
  exact oRetV K18 [] hret (d23_8 hby) (by decide) (by decide) hlk (fun x hx => by cases hx) ⟨rfl, rfl⟩
theorem rmUch4_1 (G : Gl Z a0 z0 fm) (t : Addr) (c0 c1 c2 c3 : Int32) (h0 : Heap) (hZh : Ext Z.heap h0) (hsf : Own Z h0 []) (P0 : Ary Z h0 t .byte [(.int (byt (c0 >>> ((0 : Int32) &&& 31)))), (.int (byt (c0 >>> ((8 : Int32) &&& 31)))), (.int (byt (c1 >>> ((0 : Int32) &&& 31)))), (.int (byt (c1 >>> ((8 : Int32) &&& 31)))), (.int (byt (c2 >>> ((0 : Int32) &&& 31)))), (.int (byt (c2 >>> ((8 : Int32) &&& 31)))), (.int (byt (c3 >>> ((0 : Int32) &&& 31)))), (.int (byt (c3 >>> ((8 : Int32) &&& 31))))]) (P1 : ¬ c1 < (0 : Int32)) (P2 : ¬ (65535 : Int32) < c1) :
    Ctr l Z ELs yn532 jdk_52_method_83_code 2 (some .char) [] (rmk 3 0 0 40) #[(.ref t), (.int 1)] [] h0 (fun v h fs => (fs = [] ∧ v = some (.int c1))) := by
  obtain ⟨hw, hEL, wS, OS, hz0, OA, OH, OL, OF, rfm⟩ := id G
  refine Ctr.intro pn12 hEL hZh hsf ?_
  intro p e s m below meth c s₁ hby hml hret hnm hlk hh K0
  refine Owe.cast (ef94 m t ((1 : Int32))) ?_
  refine oIloadN K0 1 (d24_0 hby) rfl ?_
  refine oAloadN K0 2 (d24_1 hby) rfl rfl ?_
  refine oStatic K0 5 0 (wq hw 122) (wq hw 123) (wq hw 85) (wq hw 124) (rmUck4_1 l Z a0 z0 fm G t ((byt (c0 >>> ((0 : Int32) &&& 31)))) ((byt (c0 >>> ((8 : Int32) &&& 31)))) ((byt (c1 >>> ((0 : Int32) &&& 31)))) ((byt (c1 >>> ((8 : Int32) &&& 31)))) ((byt (c2 >>> ((0 : Int32) &&& 31)))) ((byt (c2 >>> ((8 : Int32) &&& 31)))) ((byt (c3 >>> ((0 : Int32) &&& 31)))) ((byt (c3 >>> ((8 : Int32) &&& 31)))) h0 K0.old K0.both P0) [(.int 1), (.ref t)] [] (lenOf pd527 rfl) (d24_2 hby) ?_
  intro T1 h3 v4 lo5 fs6 K2 Kp7 q8
  obtain ⟨rfl, rfl⟩ := q8
  have K9 := K2.to 0 0 []
  refine Owe.stk [] ?_
  refine oAloadN K9 6 (d24_5 hby) rfl rfl ?_
  refine oIloadN K9 7 (d24_6 hby) rfl ?_
  refine oStatic K9 10 0 (wq hw 116) (wq hw 117) (wq hw 85) (wq hw 118) (rmGet4_1 l Z a0 z0 fm G t c0 c1 c2 c3 h3 K9.old K9.both (P0.keep Kp7 nin0) P1 P2) [(.ref t), (.int 1)] [] (lenOf pd150 rfl) (d24_7 hby) ?_
  intro T10 h12 v13 lo14 fs15 K11 Kp16 q17
  obtain ⟨rfl, rfl⟩ := q17
  have K18 := K11.to 0 0 []
  refine Owe.stk [(.int c1)] ?_
  exact oRetI K18 [] (t := .char) hret (by simp) (narrow_rng P1 P2) (d24_10 hby) (by decide) (by decide) hlk (fun x hx => by cases hx) ⟨rfl, rfl⟩
theorem rmCh4_1 (G : Gl Z a0 z0 fm) (x : Addr) (b : Nat) (c0 c1 c2 c3 : Int32) (h0 : Heap) (hZh : Ext Z.heap h0) (hsf : Own Z h0 []) (P0 : Str Z h0 b x [c0, c1, c2, c3]) (P1 : ¬ c1 < (0 : Int32)) (P2 : ¬ (65535 : Int32) < c1) :
    Ctr l Z ELs yn289 jdk_42_method_56_code 2 (some .char) [] (rmk 4 0 0 53) #[(.ref x), (.int 1)] [] h0 (fun v h fs => (fs = [] ∧ v = some (.int c1))) := by
  obtain ⟨hw, hEL, wS, OS, hz0, OA, OH, OL, OF, rfm⟩ := id G
  refine Ctr.intro pn183 hEL hZh hsf ?_
  intro p e s m below meth c s₁ hby hml hret hnm hlk hh K0
  refine Owe.cast (ef94 m x ((1 : Int32))) ?_
  obtain ⟨t1, -, -, f2, f3, ⟨f4, A5, L6⟩ | ⟨f4, A5⟩⟩ := P0
  · have A7 : Ary Z h0 t1 .byte [(.int (byt c0)), (.int (byt c1)), (.int (byt c2)), (.int (byt c3))] := A5
    obtain ⟨l8, l9, l10, l11, -⟩ := L6
    refine oAloadN K0 1 (d16_0 hby) rfl rfl ?_
    refine oVirtual K0 4 0 (wq hw 18) (wq hw 19) (nfSel (wq hw 21)) (wq hw 21) (wq hw 20) (wq hw 6) (wq hw 22) f2 (rmIsL0 l Z a0 z0 fm G x h0 K0.old K0.both f4) [] [] (lenOf pd282 rfl) (d16_1 hby) ?_
    intro T12 h14 v15 lo16 fs17 K13 Kp18 q19
    obtain ⟨rfl, rfl⟩ := q19
    have K20 := K13.to 0 0 []
    refine Owe.stk [(.int 1)] ?_
    refine oIfNo K20 7 (d16_4 hby) (XT.i0_eq_f (by decide)) ?_
    refine oAloadN K20 8 (d16_7 hby) rfl rfl ?_
    refine oGetF K20 11 (wq hw 25) (f3.keep Kp18 nin0) (d16_8 hby) ?_
    intro T21 K22
    refine oIloadN K22 12 (d16_11 hby) rfl ?_
    refine oStatic K22 15 0 (wq hw 26) (wq hw 27) (wq hw 28) (wq hw 29) (rmLC4_1 l Z a0 z0 fm G t1 c1 ((byt c0)) ((byt c2)) ((byt c3)) h14 K22.old K22.both (A7.keep Kp18 nin0) P1 l9) [(.ref t1), (.int 1)] [] (lenOf pd150 rfl) (d16_12 hby) ?_
    intro T23 h25 v26 lo27 fs28 K24 Kp29 q30
    obtain ⟨rfl, rfl⟩ := q30
    have K31 := K24.to 0 0 []
    refine Owe.stk [(.int c1)] ?_
    exact oRetI K31 [] (t := .char) hret (by simp) (narrow_rng P1 P2) (d16_15 hby) (by decide) (by decide) hlk (fun x hx => by cases hx) ⟨rfl, rfl⟩
  · have A7 : Ary Z h0 t1 .byte [(.int (byt (c0 >>> ((0 : Int32) &&& 31)))), (.int (byt (c0 >>> ((8 : Int32) &&& 31)))), (.int (byt (c1 >>> ((0 : Int32) &&& 31)))), (.int (byt (c1 >>> ((8 : Int32) &&& 31)))), (.int (byt (c2 >>> ((0 : Int32) &&& 31)))), (.int (byt (c2 >>> ((8 : Int32) &&& 31)))), (.int (byt (c3 >>> ((0 : Int32) &&& 31)))), (.int (byt (c3 >>> ((8 : Int32) &&& 31))))] := A5
    refine oAloadN K0 1 (d16_0 hby) rfl rfl ?_
    refine oVirtual K0 4 0 (wq hw 18) (wq hw 19) (nfSel (wq hw 21)) (wq hw 21) (wq hw 20) (wq hw 6) (wq hw 22) f2 (rmIsL1 l Z a0 z0 fm G x h0 K0.old K0.both f4) [] [] (lenOf pd282 rfl) (d16_1 hby) ?_
    intro T32 h34 v35 lo36 fs37 K33 Kp38 q39
    obtain ⟨rfl, rfl⟩ := q39
    have K40 := K33.to 0 0 []
    refine Owe.stk [(.int 0)] ?_
    refine oIfYes K40 16 (d16_4 hby) (XT.i0_eq_t (by decide)) ?_
    refine oAloadN K40 17 (d16_16 hby) rfl rfl ?_
    refine oGetF K40 20 (wq hw 25) (f3.keep Kp38 nin0) (d16_17 hby) ?_
    intro T41 K42
    refine oIloadN K42 21 (d16_20 hby) rfl ?_
    refine oStatic K42 24 0 (wq hw 119) (wq hw 120) (wq hw 85) (wq hw 121) (rmUch4_1 l Z a0 z0 fm G t1 c0 c1 c2 c3 h34 K42.old K42.both (A7.keep Kp38 nin0) P1 P2) [(.ref t1), (.int 1)] [] (lenOf pd150 rfl) (d16_21 hby) ?_
    intro T43 h45 v46 lo47 fs48 K44 Kp49 q50
    obtain ⟨rfl, rfl⟩ := q50
    have K51 := K44.to 0 0 []
    refine Owe.stk [(.int c1)] ?_
    exact oRetI K51 [] (t := .char) hret (by simp) (narrow_rng P1 P2) (d16_24 hby) (by decide) (by decide) hlk (fun x hx => by cases hx) ⟨rfl, rfl⟩
theorem rmUck4_2 (G : Gl Z a0 z0 fm) (t : Addr) (e0 e1 e2 e3 e4 e5 e6 e7 : Int32) (h0 : Heap) (hZh : Ext Z.heap h0) (hsf : Own Z h0 []) (P0 : Ary Z h0 t .byte [(.int e0), (.int e1), (.int e2), (.int e3), (.int e4), (.int e5), (.int e6), (.int e7)]) :
    Ctr l Z ELs yn522 jdk_52_method_91_code 2 none [] (rmk 2 0 0 27) #[(.int 2), (.ref t)] [] h0 (fun v h fs => (fs = [] ∧ v = none)) := by
  obtain ⟨hw, hEL, wS, OS, hz0, OA, OH, OL, OF, rfm⟩ := id G
  refine Ctr.intro pn12 hEL hZh hsf ?_
  intro p e s m below meth c s₁ hby hml hret hnm hlk hh K0
  refine Owe.cast (ef521 m ((2 : Int32)) t) ?_
  refine oIloadN K0 1 (d23_0 hby) rfl ?_
  refine oAloadN K0 2 (d23_1 hby) rfl rfl ?_
  refine oStatic K0 5 1 (wq hw 125) (wq hw 126) (wq hw 85) (wq hw 127) (rmULen4 l Z a0 z0 fm G t e0 e1 e2 e3 e4 e5 e6 e7 h0 K0.old K0.both P0) [(.ref t)] [(.int 2)] (lenOf pd518 rfl) (d23_2 hby) ?_
  intro T1 h3 v4 lo5 fs6 K2 Kp7 q8
  obtain ⟨rfl, rfl⟩ := q8
  have K9 := K2.to 0 0 []
  refine Owe.stk [(.int 4), (.int 2)] ?_
  refine oStatic K9 8 0 (wq hw 128) (wq hw 31) (wq hw 6) (wq hw 32) (rmCkI l Z a0 z0 fm G ((2 : Int32)) ((4 : Int32)) h3 K9.old K9.both (by decide) (by decide)) [(.int 2), (.int 4)] [] (lenOf pd269 rfl) (d23_5 hby) ?_
  intro T10 h12 v13 lo14 fs15 K11 Kp16 q17
  obtain ⟨rfl, rfl⟩ := q17
  have K18 := K11.to 0 0 []
  refine Owe.stk [] ?_
  exact oRetV K18 [] hret (d23_8 hby) (by decide) (by decide) hlk (fun x hx => by cases hx) ⟨rfl, rfl⟩
theorem rmUch4_2 (G : Gl Z a0 z0 fm) (t : Addr) (c0 c1 c2 c3 : Int32) (h0 : Heap) (hZh : Ext Z.heap h0) (hsf : Own Z h0 []) (P0 : Ary Z h0 t .byte [(.int (byt (c0 >>> ((0 : Int32) &&& 31)))), (.int (byt (c0 >>> ((8 : Int32) &&& 31)))), (.int (byt (c1 >>> ((0 : Int32) &&& 31)))), (.int (byt (c1 >>> ((8 : Int32) &&& 31)))), (.int (byt (c2 >>> ((0 : Int32) &&& 31)))), (.int (byt (c2 >>> ((8 : Int32) &&& 31)))), (.int (byt (c3 >>> ((0 : Int32) &&& 31)))), (.int (byt (c3 >>> ((8 : Int32) &&& 31))))]) (P1 : ¬ c2 < (0 : Int32)) (P2 : ¬ (65535 : Int32) < c2) :
    Ctr l Z ELs yn532 jdk_52_method_83_code 2 (some .char) [] (rmk 3 0 0 40) #[(.ref t), (.int 2)] [] h0 (fun v h fs => (fs = [] ∧ v = some (.int c2))) := by
  obtain ⟨hw, hEL, wS, OS, hz0, OA, OH, OL, OF, rfm⟩ := id G
  refine Ctr.intro pn12 hEL hZh hsf ?_
  intro p e s m below meth c s₁ hby hml hret hnm hlk hh K0
  refine Owe.cast (ef94 m t ((2 : Int32))) ?_
  refine oIloadN K0 1 (d24_0 hby) rfl ?_
  refine oAloadN K0 2 (d24_1 hby) rfl rfl ?_
  refine oStatic K0 5 0 (wq hw 122) (wq hw 123) (wq hw 85) (wq hw 124) (rmUck4_2 l Z a0 z0 fm G t ((byt (c0 >>> ((0 : Int32) &&& 31)))) ((byt (c0 >>> ((8 : Int32) &&& 31)))) ((byt (c1 >>> ((0 : Int32) &&& 31)))) ((byt (c1 >>> ((8 : Int32) &&& 31)))) ((byt (c2 >>> ((0 : Int32) &&& 31)))) ((byt (c2 >>> ((8 : Int32) &&& 31)))) ((byt (c3 >>> ((0 : Int32) &&& 31)))) ((byt (c3 >>> ((8 : Int32) &&& 31)))) h0 K0.old K0.both P0) [(.int 2), (.ref t)] [] (lenOf pd527 rfl) (d24_2 hby) ?_
  intro T1 h3 v4 lo5 fs6 K2 Kp7 q8
  obtain ⟨rfl, rfl⟩ := q8
  have K9 := K2.to 0 0 []
  refine Owe.stk [] ?_
  refine oAloadN K9 6 (d24_5 hby) rfl rfl ?_
  refine oIloadN K9 7 (d24_6 hby) rfl ?_
  refine oStatic K9 10 0 (wq hw 116) (wq hw 117) (wq hw 85) (wq hw 118) (rmGet4_2 l Z a0 z0 fm G t c0 c1 c2 c3 h3 K9.old K9.both (P0.keep Kp7 nin0) P1 P2) [(.ref t), (.int 2)] [] (lenOf pd150 rfl) (d24_7 hby) ?_
  intro T10 h12 v13 lo14 fs15 K11 Kp16 q17
  obtain ⟨rfl, rfl⟩ := q17
  have K18 := K11.to 0 0 []
  refine Owe.stk [(.int c2)] ?_
  exact oRetI K18 [] (t := .char) hret (by simp) (narrow_rng P1 P2) (d24_10 hby) (by decide) (by decide) hlk (fun x hx => by cases hx) ⟨rfl, rfl⟩
theorem rmCh4_2 (G : Gl Z a0 z0 fm) (x : Addr) (b : Nat) (c0 c1 c2 c3 : Int32) (h0 : Heap) (hZh : Ext Z.heap h0) (hsf : Own Z h0 []) (P0 : Str Z h0 b x [c0, c1, c2, c3]) (P1 : ¬ c2 < (0 : Int32)) (P2 : ¬ (65535 : Int32) < c2) :
    Ctr l Z ELs yn289 jdk_42_method_56_code 2 (some .char) [] (rmk 4 0 0 53) #[(.ref x), (.int 2)] [] h0 (fun v h fs => (fs = [] ∧ v = some (.int c2))) := by
  obtain ⟨hw, hEL, wS, OS, hz0, OA, OH, OL, OF, rfm⟩ := id G
  refine Ctr.intro pn183 hEL hZh hsf ?_
  intro p e s m below meth c s₁ hby hml hret hnm hlk hh K0
  refine Owe.cast (ef94 m x ((2 : Int32))) ?_
  obtain ⟨t1, -, -, f2, f3, ⟨f4, A5, L6⟩ | ⟨f4, A5⟩⟩ := P0
  · have A7 : Ary Z h0 t1 .byte [(.int (byt c0)), (.int (byt c1)), (.int (byt c2)), (.int (byt c3))] := A5
    obtain ⟨l8, l9, l10, l11, -⟩ := L6
    refine oAloadN K0 1 (d16_0 hby) rfl rfl ?_
    refine oVirtual K0 4 0 (wq hw 18) (wq hw 19) (nfSel (wq hw 21)) (wq hw 21) (wq hw 20) (wq hw 6) (wq hw 22) f2 (rmIsL0 l Z a0 z0 fm G x h0 K0.old K0.both f4) [] [] (lenOf pd282 rfl) (d16_1 hby) ?_
    intro T12 h14 v15 lo16 fs17 K13 Kp18 q19
    obtain ⟨rfl, rfl⟩ := q19
    have K20 := K13.to 0 0 []
    refine Owe.stk [(.int 1)] ?_
    refine oIfNo K20 7 (d16_4 hby) (XT.i0_eq_f (by decide)) ?_
    refine oAloadN K20 8 (d16_7 hby) rfl rfl ?_
    refine oGetF K20 11 (wq hw 25) (f3.keep Kp18 nin0) (d16_8 hby) ?_
    intro T21 K22
    refine oIloadN K22 12 (d16_11 hby) rfl ?_
    refine oStatic K22 15 0 (wq hw 26) (wq hw 27) (wq hw 28) (wq hw 29) (rmLC4_2 l Z a0 z0 fm G t1 c2 ((byt c0)) ((byt c1)) ((byt c3)) h14 K22.old K22.both (A7.keep Kp18 nin0) P1 l10) [(.ref t1), (.int 2)] [] (lenOf pd150 rfl) (d16_12 hby) ?_
    intro T23 h25 v26 lo27 fs28 K24 Kp29 q30
    obtain ⟨rfl, rfl⟩ := q30
    have K31 := K24.to 0 0 []
    refine Owe.stk [(.int c2)] ?_
    exact oRetI K31 [] (t := .char) hret (by simp) (narrow_rng P1 P2) (d16_15 hby) (by decide) (by decide) hlk (fun x hx => by cases hx) ⟨rfl, rfl⟩
  · have A7 : Ary Z h0 t1 .byte [(.int (byt (c0 >>> ((0 : Int32) &&& 31)))), (.int (byt (c0 >>> ((8 : Int32) &&& 31)))), (.int (byt (c1 >>> ((0 : Int32) &&& 31)))), (.int (byt (c1 >>> ((8 : Int32) &&& 31)))), (.int (byt (c2 >>> ((0 : Int32) &&& 31)))), (.int (byt (c2 >>> ((8 : Int32) &&& 31)))), (.int (byt (c3 >>> ((0 : Int32) &&& 31)))), (.int (byt (c3 >>> ((8 : Int32) &&& 31))))] := A5
    refine oAloadN K0 1 (d16_0 hby) rfl rfl ?_
    refine oVirtual K0 4 0 (wq hw 18) (wq hw 19) (nfSel (wq hw 21)) (wq hw 21) (wq hw 20) (wq hw 6) (wq hw 22) f2 (rmIsL1 l Z a0 z0 fm G x h0 K0.old K0.both f4) [] [] (lenOf pd282 rfl) (d16_1 hby) ?_
    intro T32 h34 v35 lo36 fs37 K33 Kp38 q39
    obtain ⟨rfl, rfl⟩ := q39
    have K40 := K33.to 0 0 []
    refine Owe.stk [(.int 0)] ?_
    refine oIfYes K40 16 (d16_4 hby) (XT.i0_eq_t (by decide)) ?_
    refine oAloadN K40 17 (d16_16 hby) rfl rfl ?_
    refine oGetF K40 20 (wq hw 25) (f3.keep Kp38 nin0) (d16_17 hby) ?_
    intro T41 K42
    refine oIloadN K42 21 (d16_20 hby) rfl ?_
    refine oStatic K42 24 0 (wq hw 119) (wq hw 120) (wq hw 85) (wq hw 121) (rmUch4_2 l Z a0 z0 fm G t1 c0 c1 c2 c3 h34 K42.old K42.both (A7.keep Kp38 nin0) P1 P2) [(.ref t1), (.int 2)] [] (lenOf pd150 rfl) (d16_21 hby) ?_
    intro T43 h45 v46 lo47 fs48 K44 Kp49 q50
    obtain ⟨rfl, rfl⟩ := q50
    have K51 := K44.to 0 0 []
    refine Owe.stk [(.int c2)] ?_
    exact oRetI K51 [] (t := .char) hret (by simp) (narrow_rng P1 P2) (d16_24 hby) (by decide) (by decide) hlk (fun x hx => by cases hx) ⟨rfl, rfl⟩
theorem rmUck4_3 (G : Gl Z a0 z0 fm) (t : Addr) (e0 e1 e2 e3 e4 e5 e6 e7 : Int32) (h0 : Heap) (hZh : Ext Z.heap h0) (hsf : Own Z h0 []) (P0 : Ary Z h0 t .byte [(.int e0), (.int e1), (.int e2), (.int e3), (.int e4), (.int e5), (.int e6), (.int e7)]) :
    Ctr l Z ELs yn522 jdk_52_method_91_code 2 none [] (rmk 2 0 0 27) #[(.int 3), (.ref t)] [] h0 (fun v h fs => (fs = [] ∧ v = none)) := by
  obtain ⟨hw, hEL, wS, OS, hz0, OA, OH, OL, OF, rfm⟩ := id G
  refine Ctr.intro pn12 hEL hZh hsf ?_
  intro p e s m below meth c s₁ hby hml hret hnm hlk hh K0
  refine Owe.cast (ef521 m ((3 : Int32)) t) ?_
  refine oIloadN K0 1 (d23_0 hby) rfl ?_
  refine oAloadN K0 2 (d23_1 hby) rfl rfl ?_
  refine oStatic K0 5 1 (wq hw 125) (wq hw 126) (wq hw 85) (wq hw 127) (rmULen4 l Z a0 z0 fm G t e0 e1 e2 e3 e4 e5 e6 e7 h0 K0.old K0.both P0) [(.ref t)] [(.int 3)] (lenOf pd518 rfl) (d23_2 hby) ?_
  intro T1 h3 v4 lo5 fs6 K2 Kp7 q8
  obtain ⟨rfl, rfl⟩ := q8
  have K9 := K2.to 0 0 []
  refine Owe.stk [(.int 4), (.int 3)] ?_
  refine oStatic K9 8 0 (wq hw 128) (wq hw 31) (wq hw 6) (wq hw 32) (rmCkI l Z a0 z0 fm G ((3 : Int32)) ((4 : Int32)) h3 K9.old K9.both (by decide) (by decide)) [(.int 3), (.int 4)] [] (lenOf pd269 rfl) (d23_5 hby) ?_
  intro T10 h12 v13 lo14 fs15 K11 Kp16 q17
  obtain ⟨rfl, rfl⟩ := q17
  have K18 := K11.to 0 0 []
  refine Owe.stk [] ?_
  exact oRetV K18 [] hret (d23_8 hby) (by decide) (by decide) hlk (fun x hx => by cases hx) ⟨rfl, rfl⟩
theorem rmUch4_3 (G : Gl Z a0 z0 fm) (t : Addr) (c0 c1 c2 c3 : Int32) (h0 : Heap) (hZh : Ext Z.heap h0) (hsf : Own Z h0 []) (P0 : Ary Z h0 t .byte [(.int (byt (c0 >>> ((0 : Int32) &&& 31)))), (.int (byt (c0 >>> ((8 : Int32) &&& 31)))), (.int (byt (c1 >>> ((0 : Int32) &&& 31)))), (.int (byt (c1 >>> ((8 : Int32) &&& 31)))), (.int (byt (c2 >>> ((0 : Int32) &&& 31)))), (.int (byt (c2 >>> ((8 : Int32) &&& 31)))), (.int (byt (c3 >>> ((0 : Int32) &&& 31)))), (.int (byt (c3 >>> ((8 : Int32) &&& 31))))]) (P1 : ¬ c3 < (0 : Int32)) (P2 : ¬ (65535 : Int32) < c3) :
    Ctr l Z ELs yn532 jdk_52_method_83_code 2 (some .char) [] (rmk 3 0 0 40) #[(.ref t), (.int 3)] [] h0 (fun v h fs => (fs = [] ∧ v = some (.int c3))) := by
  obtain ⟨hw, hEL, wS, OS, hz0, OA, OH, OL, OF, rfm⟩ := id G
  refine Ctr.intro pn12 hEL hZh hsf ?_
  intro p e s m below meth c s₁ hby hml hret hnm hlk hh K0
  refine Owe.cast (ef94 m t ((3 : Int32))) ?_
  refine oIloadN K0 1 (d24_0 hby) rfl ?_
  refine oAloadN K0 2 (d24_1 hby) rfl rfl ?_
  refine oStatic K0 5 0 (wq hw 122) (wq hw 123) (wq hw 85) (wq hw 124) (rmUck4_3 l Z a0 z0 fm G t ((byt (c0 >>> ((0 : Int32) &&& 31)))) ((byt (c0 >>> ((8 : Int32) &&& 31)))) ((byt (c1 >>> ((0 : Int32) &&& 31)))) ((byt (c1 >>> ((8 : Int32) &&& 31)))) ((byt (c2 >>> ((0 : Int32) &&& 31)))) ((byt (c2 >>> ((8 : Int32) &&& 31)))) ((byt (c3 >>> ((0 : Int32) &&& 31)))) ((byt (c3 >>> ((8 : Int32) &&& 31)))) h0 K0.old K0.both P0) [(.int 3), (.ref t)] [] (lenOf pd527 rfl) (d24_2 hby) ?_
  intro T1 h3 v4 lo5 fs6 K2 Kp7 q8
  obtain ⟨rfl, rfl⟩ := q8
  have K9 := K2.to 0 0 []
  refine Owe.stk [] ?_
  refine oAloadN K9 6 (d24_5 hby) rfl rfl ?_
  refine oIloadN K9 7 (d24_6 hby) rfl ?_
  refine oStatic K9 10 0 (wq hw 116) (wq hw 117) (wq hw 85) (wq hw 118) (rmGet4_3 l Z a0 z0 fm G t c0 c1 c2 c3 h3 K9.old K9.both (P0.keep Kp7 nin0) P1 P2) [(.ref t), (.int 3)] [] (lenOf pd150 rfl) (d24_7 hby) ?_
  intro T10 h12 v13 lo14 fs15 K11 Kp16 q17
  obtain ⟨rfl, rfl⟩ := q17
  have K18 := K11.to 0 0 []
  refine Owe.stk [(.int c3)] ?_
  exact oRetI K18 [] (t := .char) hret (by simp) (narrow_rng P1 P2) (d24_10 hby) (by decide) (by decide) hlk (fun x hx => by cases hx) ⟨rfl, rfl⟩
theorem rmCh4_3 (G : Gl Z a0 z0 fm) (x : Addr) (b : Nat) (c0 c1 c2 c3 : Int32) (h0 : Heap) (hZh : Ext Z.heap h0) (hsf : Own Z h0 []) (P0 : Str Z h0 b x [c0, c1, c2, c3]) (P1 : ¬ c3 < (0 : Int32)) (P2 : ¬ (65535 : Int32) < c3) :
    Ctr l Z ELs yn289 jdk_42_method_56_code 2 (some .char) [] (rmk 4 0 0 53) #[(.ref x), (.int 3)] [] h0 (fun v h fs => (fs = [] ∧ v = some (.int c3))) := by
  obtain ⟨hw, hEL, wS, OS, hz0, OA, OH, OL, OF, rfm⟩ := id G
  refine Ctr.intro pn183 hEL hZh hsf ?_
  intro p e s m below meth c s₁ hby hml hret hnm hlk hh K0
  refine Owe.cast (ef94 m x ((3 : Int32))) ?_
  obtain ⟨t1, -, -, f2, f3, ⟨f4, A5, L6⟩ | ⟨f4, A5⟩⟩ := P0
  · have A7 : Ary Z h0 t1 .byte [(.int (byt c0)), (.int (byt c1)), (.int (byt c2)), (.int (byt c3))] := A5
    obtain ⟨l8, l9, l10, l11, -⟩ := L6
    refine oAloadN K0 1 (d16_0 hby) rfl rfl ?_
    refine oVirtual K0 4 0 (wq hw 18) (wq hw 19) (nfSel (wq hw 21)) (wq hw 21) (wq hw 20) (wq hw 6) (wq hw 22) f2 (rmIsL0 l Z a0 z0 fm G x h0 K0.old K0.both f4) [] [] (lenOf pd282 rfl) (d16_1 hby) ?_
    intro T12 h14 v15 lo16 fs17 K13 Kp18 q19
    obtain ⟨rfl, rfl⟩ := q19
    have K20 := K13.to 0 0 []
    refine Owe.stk [(.int 1)] ?_
    refine oIfNo K20 7 (d16_4 hby) (XT.i0_eq_f (by decide)) ?_
    refine oAloadN K20 8 (d16_7 hby) rfl rfl ?_
    refine oGetF K20 11 (wq hw 25) (f3.keep Kp18 nin0) (d16_8 hby) ?_
    intro T21 K22
    refine oIloadN K22 12 (d16_11 hby) rfl ?_
    refine oStatic K22 15 0 (wq hw 26) (wq hw 27) (wq hw 28) (wq hw 29) (rmLC4_3 l Z a0 z0 fm G t1 c3 ((byt c0)) ((byt c1)) ((byt c2)) h14 K22.old K22.both (A7.keep Kp18 nin0) P1 l11) [(.ref t1), (.int 3)] [] (lenOf pd150 rfl) (d16_12 hby) ?_
    intro T23 h25 v26 lo27 fs28 K24 Kp29 q30
    obtain ⟨rfl, rfl⟩ := q30
    have K31 := K24.to 0 0 []
    refine Owe.stk [(.int c3)] ?_
    exact oRetI K31 [] (t := .char) hret (by simp) (narrow_rng P1 P2) (d16_15 hby) (by decide) (by decide) hlk (fun x hx => by cases hx) ⟨rfl, rfl⟩
  · have A7 : Ary Z h0 t1 .byte [(.int (byt (c0 >>> ((0 : Int32) &&& 31)))), (.int (byt (c0 >>> ((8 : Int32) &&& 31)))), (.int (byt (c1 >>> ((0 : Int32) &&& 31)))), (.int (byt (c1 >>> ((8 : Int32) &&& 31)))), (.int (byt (c2 >>> ((0 : Int32) &&& 31)))), (.int (byt (c2 >>> ((8 : Int32) &&& 31)))), (.int (byt (c3 >>> ((0 : Int32) &&& 31)))), (.int (byt (c3 >>> ((8 : Int32) &&& 31))))] := A5
    refine oAloadN K0 1 (d16_0 hby) rfl rfl ?_
    refine oVirtual K0 4 0 (wq hw 18) (wq hw 19) (nfSel (wq hw 21)) (wq hw 21) (wq hw 20) (wq hw 6) (wq hw 22) f2 (rmIsL1 l Z a0 z0 fm G x h0 K0.old K0.both f4) [] [] (lenOf pd282 rfl) (d16_1 hby) ?_
    intro T32 h34 v35 lo36 fs37 K33 Kp38 q39
    obtain ⟨rfl, rfl⟩ := q39
    have K40 := K33.to 0 0 []
    refine Owe.stk [(.int 0)] ?_
    refine oIfYes K40 16 (d16_4 hby) (XT.i0_eq_t (by decide)) ?_
    refine oAloadN K40 17 (d16_16 hby) rfl rfl ?_
    refine oGetF K40 20 (wq hw 25) (f3.keep Kp38 nin0) (d16_17 hby) ?_
    intro T41 K42
    refine oIloadN K42 21 (d16_20 hby) rfl ?_
    refine oStatic K42 24 0 (wq hw 119) (wq hw 120) (wq hw 85) (wq hw 121) (rmUch4_3 l Z a0 z0 fm G t1 c0 c1 c2 c3 h34 K42.old K42.both (A7.keep Kp38 nin0) P1 P2) [(.ref t1), (.int 3)] [] (lenOf pd150 rfl) (d16_21 hby) ?_
    intro T43 h45 v46 lo47 fs48 K44 Kp49 q50
    obtain ⟨rfl, rfl⟩ := q50
    have K51 := K44.to 0 0 []
    refine Owe.stk [(.int c3)] ?_
    exact oRetI K51 [] (t := .char) hret (by simp) (narrow_rng P1 P2) (d16_24 hby) (by decide) (by decide) hlk (fun x hx => by cases hx) ⟨rfl, rfl⟩
abbrev y25 := jdk_65_method_121_code
theorem d25_0 : DC y25 0 (.iload_n 1) 1 := hb' (by decide +kernel)
theorem d25_1 : DC y25 1 (.aload_n 0) 1 := hb' (by decide +kernel)
theorem d25_2 : DC y25 2 (.arraylength) 1 := hb' (by decide +kernel)
theorem d25_3 : DC y25 3 (.if_icmp .ne 11) 3 := hb' (by decide +kernel)
theorem d25_6 : DC y25 6 (.aload_n 0) 1 := hb' (by decide +kernel)
theorem d25_7 : DC y25 7 (.invokevirtual 310) 3 := hb' (by decide +kernel)
theorem d25_10 : DC y25 10 (.checkcast 311) 3 := hb' (by decide +kernel)
theorem d25_13 : DC y25 13 (.areturn) 1 := hb' (by decide +kernel)
theorem ef547 (m : MethodId) (x0 : Addr) (x1 : Int32) : entryFrame m #[(.ref x0), (.int x1)] 3 = mkF m 0 #[.val (.ref x0), .val (.int x1), .unset] [] := by first | (simp [entryFrame, mkF, argsToLocals, Value.category]; done) | rfl
abbrev yn548 : MethodName := ⟨"java/util/Arrays", "copyOf", "([BI)[B"⟩
theorem pn549 : plainName "java/util/Arrays" = true := by first | (simp [plainName, overriddenIn]; done) | decide +kernel
theorem rmCopy0_0 (G : Gl Z a0 z0 fm) (t : Addr) (h0 : Heap) (hZh : Ext Z.heap h0) (hsf : Own Z h0 []) (P0 : Ary Z h0 t .byte []) (P1 : Exa Z h0 t "[B") :
    Ctr l Z ELs yn548 jdk_65_method_121_code 3 (some (.array .byte)) [] (rmk 1 1 0 14) #[(.ref t), (.int 0)] [] h0 (fun v h fs => (∃ r : Addr, fs = [] ∧ v = some (.ref r) ∧ Ary Z h r .byte [])) := by
  obtain ⟨hw, hEL, wS, OS, hz0, OA, OH, OL, OF, rfm⟩ := id G
  refine Ctr.intro pn549 hEL hZh hsf ?_
  intro p e s m below meth c s₁ hby hml hret hnm hlk hh K0
  refine Owe.cast (ef547 m t ((0 : Int32))) ?_
  refine oIloadN K0 1 (d25_0 hby) rfl ?_
  refine oAloadN K0 2 (d25_1 hby) rfl rfl ?_
  refine oLen K0 3 P0 (n := (0 : Int32)) (by first | rfl | decide) (d25_2 hby) ?_
  refine oIcmpNo K0 6 (d25_3 hby) (XT.ii_ne_f (by decide)) ?_
  refine oAloadN K0 7 (d25_6 hby) rfl rfl ?_
  refine oClone K0 10 0 (wq hw 70) (wq hw 71) (wq hw 75) (wq hw 73) (wq hw 74) (wq hw 76) P0 P1 rfl (d25_7 hby) (by decide) nle (by decide) (by decide) nle ?_
  intro T1 h3 a4 g5 K2 E6 f7 f8
  have K9 := K2.to 1 0 [a4]
  refine oCast K9 13 (wq hw 77) (Ins.self f8) (d25_10 hby) ?_
  intro T10 K11
  exact oRetA K11 [] hret rfl rfl (d25_13 hby) (by decide) (by decide) hlk (fun x hx => by cases hx) ⟨a4, rfl, rfl, f7⟩
theorem rmCopy1_1 (G : Gl Z a0 z0 fm) (t : Addr) (e0 : Int32) (h0 : Heap) (hZh : Ext Z.heap h0) (hsf : Own Z h0 []) (P0 : Ary Z h0 t .byte [(.int e0)]) (P1 : Exa Z h0 t "[B") :
    Ctr l Z ELs yn548 jdk_65_method_121_code 3 (some (.array .byte)) [] (rmk 1 1 1 14) #[(.ref t), (.int 1)] [] h0 (fun v h fs => (∃ r : Addr, fs = [] ∧ v = some (.ref r) ∧ Ary Z h r .byte [(.int e0)])) := by
  obtain ⟨hw, hEL, wS, OS, hz0, OA, OH, OL, OF, rfm⟩ := id G
  refine Ctr.intro pn549 hEL hZh hsf ?_
  intro p e s m below meth c s₁ hby hml hret hnm hlk hh K0
  refine Owe.cast (ef547 m t ((1 : Int32))) ?_
  refine oIloadN K0 1 (d25_0 hby) rfl ?_
  refine oAloadN K0 2 (d25_1 hby) rfl rfl ?_
  refine oLen K0 3 P0 (n := (1 : Int32)) (by first | rfl | decide) (d25_2 hby) ?_
  refine oIcmpNo K0 6 (d25_3 hby) (XT.ii_ne_f (by decide)) ?_
  refine oAloadN K0 7 (d25_6 hby) rfl rfl ?_
  refine oClone K0 10 0 (wq hw 70) (wq hw 71) (wq hw 75) (wq hw 73) (wq hw 74) (wq hw 76) P0 P1 rfl (d25_7 hby) (by decide) nle (by decide) (by decide) nle ?_
  intro T1 h3 a4 g5 K2 E6 f7 f8
  have K9 := K2.to 1 1 [a4]
  refine oCast K9 13 (wq hw 77) (Ins.self f8) (d25_10 hby) ?_
  intro T10 K11
  exact oRetA K11 [] hret rfl rfl (d25_13 hby) (by decide) (by decide) hlk (fun x hx => by cases hx) ⟨a4, rfl, rfl, f7⟩
theorem rmCopy2_2 (G : Gl Z a0 z0 fm) (t : Addr) (e0 e1 : Int32) (h0 : Heap) (hZh : Ext Z.heap h0) (hsf : Own Z h0 []) (P0 : Ary Z h0 t .byte [(.int e0), (.int e1)]) (P1 : Exa Z h0 t "[B") :
    Ctr l Z ELs yn548 jdk_65_method_121_code 3 (some (.array .byte)) [] (rmk 1 1 2 14) #[(.ref t), (.int 2)] [] h0 (fun v h fs => (∃ r : Addr, fs = [] ∧ v = some (.ref r) ∧ Ary Z h r .byte [(.int e0), (.int e1)])) := by
  obtain ⟨hw, hEL, wS, OS, hz0, OA, OH, OL, OF, rfm⟩ := id G
  refine Ctr.intro pn549 hEL hZh hsf ?_
  intro p e s m below meth c s₁ hby hml hret hnm hlk hh K0
  refine Owe.cast (ef547 m t ((2 : Int32))) ?_
  refine oIloadN K0 1 (d25_0 hby) rfl ?_
  refine oAloadN K0 2 (d25_1 hby) rfl rfl ?_
  refine oLen K0 3 P0 (n := (2 : Int32)) (by first | rfl | decide) (d25_2 hby) ?_
  refine oIcmpNo K0 6 (d25_3 hby) (XT.ii_ne_f (by decide)) ?_
  refine oAloadN K0 7 (d25_6 hby) rfl rfl ?_
  refine oClone K0 10 0 (wq hw 70) (wq hw 71) (wq hw 75) (wq hw 73) (wq hw 74) (wq hw 76) P0 P1 rfl (d25_7 hby) (by decide) nle (by decide) (by decide) nle ?_
  intro T1 h3 a4 g5 K2 E6 f7 f8
  have K9 := K2.to 1 2 [a4]
  refine oCast K9 13 (wq hw 77) (Ins.self f8) (d25_10 hby) ?_
  intro T10 K11
  exact oRetA K11 [] hret rfl rfl (d25_13 hby) (by decide) (by decide) hlk (fun x hx => by cases hx) ⟨a4, rfl, rfl, f7⟩
abbrev y26 := jdk_29_method_69_code
theorem d26_0 : DC y26 0 (.iload_n 0) 1 := hb' (by decide +kernel)
theorem d26_1 : DC y26 1 (.iload_n 1) 1 := hb' (by decide +kernel)
theorem d26_2 : DC y26 2 (.if_icmp .gt 7) 3 := hb' (by decide +kernel)
theorem d26_9 : DC y26 9 (.iload_n 1) 1 := hb' (by decide +kernel)
theorem d26_10 : DC y26 10 (.ireturn) 1 := hb' (by decide +kernel)
abbrev yn556 : MethodName := ⟨"java/lang/Math", "min", "(II)I"⟩
theorem rmMin3_1 (G : Gl Z a0 z0 fm) (h0 : Heap) (hZh : Ext Z.heap h0) (hsf : Own Z h0 []) :
    Ctr l Z ELs yn556 jdk_29_method_69_code 2 (some .int) [] (rmk 0 0 0 0) #[(.int 3), (.int 1)] [] h0 (fun v h fs => (fs = [] ∧ v = some (.int 1))) := by
  obtain ⟨hw, hEL, wS, OS, hz0, OA, OH, OL, OF, rfm⟩ := id G
  refine Ctr.introP (JP.mathPlain rfl (by decide +kernel)) hEL hZh hsf ?_
  intro p e s m below meth c s₁ hby hml hret hnm hlk hh K0
  refine Owe.cast (ef262 m ((3 : Int32)) ((1 : Int32))) ?_
  refine oIloadN K0 1 (d26_0 hby) rfl ?_
  refine oIloadN K0 2 (d26_1 hby) rfl ?_
  refine oIcmpYes K0 9 (d26_2 hby) (XT.ii_gt_t (by decide)) ?_
  refine oIloadN K0 10 (d26_9 hby) rfl ?_
  exact oRetI K0 [] (t := .int) hret (by simp) rfl (d26_10 hby) (by decide) (by decide) hlk (fun x hx => by cases hx) ⟨rfl, rfl⟩
theorem d25_14 : DC y25 14 (.iload_n 1) 1 := hb' (by decide +kernel)
theorem d25_15 : DC y25 15 (.newarray .byte) 2 := hb' (by decide +kernel)
theorem d25_17 : DC y25 17 (.astore_n 2) 1 := hb' (by decide +kernel)
theorem d25_18 : DC y25 18 (.aload_n 0) 1 := hb' (by decide +kernel)
theorem d25_19 : DC y25 19 (.iconst 0) 1 := hb' (by decide +kernel)
theorem d25_20 : DC y25 20 (.aload_n 2) 1 := hb' (by decide +kernel)
theorem d25_21 : DC y25 21 (.iconst 0) 1 := hb' (by decide +kernel)
theorem d25_22 : DC y25 22 (.aload_n 0) 1 := hb' (by decide +kernel)
theorem d25_23 : DC y25 23 (.arraylength) 1 := hb' (by decide +kernel)
theorem d25_24 : DC y25 24 (.iload_n 1) 1 := hb' (by decide +kernel)
theorem d25_25 : DC y25 25 (.invokestatic 304) 3 := hb' (by decide +kernel)
theorem pd568 : parseMethodDescriptor "(II)I" = some ⟨[.int, .int], some .int⟩ := by decide +kernel
theorem d25_28 : DC y25 28 (.invokestatic 150) 3 := hb' (by decide +kernel)
theorem d25_31 : DC y25 31 (.aload_n 2) 1 := hb' (by decide +kernel)
theorem d25_32 : DC y25 32 (.areturn) 1 := hb' (by decide +kernel)
theorem rmCopy3_1 (G : Gl Z a0 z0 fm) (t : Addr) (e0 e1 e2 : Int32) (h0 : Heap) (hZh : Ext Z.heap h0) (hsf : Own Z h0 []) (P0 : Ary Z h0 t .byte [(.int e0), (.int e1), (.int e2)]) (P1 : Exa Z h0 t "[B") :
    Ctr l Z ELs yn548 jdk_65_method_121_code 3 (some (.array .byte)) [] (rmk 1 1 1 40) #[(.ref t), (.int 1)] [] h0 (fun v h fs => (∃ r : Addr, fs = [] ∧ v = some (.ref r) ∧ Ary Z h r .byte [(.int e0)])) := by
  obtain ⟨hw, hEL, wS, OS, hz0, OA, OH, OL, OF, rfm⟩ := id G
  refine Ctr.intro pn549 hEL hZh hsf ?_
  intro p e s m below meth c s₁ hby hml hret hnm hlk hh K0
  refine Owe.cast (ef547 m t ((1 : Int32))) ?_
  refine oIloadN K0 1 (d25_0 hby) rfl ?_
  refine oAloadN K0 2 (d25_1 hby) rfl rfl ?_
  refine oLen K0 3 P0 (n := (3 : Int32)) (by first | rfl | decide) (d25_2 hby) ?_
  refine oIcmpYes K0 14 (d25_3 hby) (XT.ii_ne_t (by decide)) ?_
  refine oIloadN K0 15 (d25_14 hby) rfl ?_
  refine oNewPE K0 17 (ty := .byte) 1 (wq hw 8) rfl (by decide) (by decide) (by decide) (d25_15 hby) (by decide) (by decide) (ad := "[B") rfl ?_
  intro T6 h1 a2 g3 K7 E4 A5 X8
  have K9 := K7.to 1 1 [a2]
  refine oAstoreN K9 18 (d25_17 hby) rfl (l' := #[.val (.ref t), .val (.int 1), .val (.ref a2)]) rfl ?_
  refine oAloadN K9 19 (d25_18 hby) rfl rfl ?_
  refine oIconstV K9 20 (0 : Int32) (d25_19 hby) rfl ?_
  refine oAloadN K9 21 (d25_20 hby) rfl rfl ?_
  refine oIconstV K9 22 (0 : Int32) (d25_21 hby) rfl ?_
  refine oAloadN K9 23 (d25_22 hby) rfl rfl ?_
  refine oLen K9 24 (P0.ext E4) (n := (3 : Int32)) (by first | rfl | decide) (d25_23 hby) ?_
  refine oIloadN K9 25 (d25_24 hby) rfl ?_
  refine oStatic K9 28 4 (wq hw 135) (wq hw 136) (wq hw 137) (wq hw 138) (rmMin3_1 l Z a0 z0 fm G  h1 K9.old K9.both ) [(.int 3), (.int 1)] [(.int 0), (.ref a2), (.int 0), (.ref t)] (lenOf pd568 rfl) (d25_25 hby) ?_
  intro T10 h12 v13 lo14 fs15 K11 Kp16 q17
  obtain ⟨rfl, rfl⟩ := q17
  have K18 := K11.to 1 1 [a2]
  refine Owe.stk [(.int 1), (.int 0), (.ref a2), (.int 0), (.ref t)] ?_
  refine oCopy K18 31 0 (wq hw 139) (wq hw 142) (wq hw 140) (wq hw 141) (by simp) ((P0.ext E4).keep Kp16 nin0) (A5.keep Kp16 nin0) 1 (by decide) (by decide) nle nle rfl (d25_28 hby) (by decide) nle (by decide) ?_
  intro T19 h21 lo22 K20 Kp23 f24
  have f25 : Ary Z h21 a2 .byte [(.int e0)] := f24
  refine oAloadN K20 32 (d25_31 hby) rfl rfl ?_
  exact oRetA K20 [] hret rfl rfl (d25_32 hby) (by decide) (by decide) hlk (fun x hx => by cases hx) ⟨a2, rfl, rfl, f25⟩
theorem rmCopy3_3 (G : Gl Z a0 z0 fm) (t : Addr) (e0 e1 e2 : Int32) (h0 : Heap) (hZh : Ext Z.heap h0) (hsf : Own Z h0 []) (P0 : Ary Z h0 t .byte [(.int e0), (.int e1), (.int e2)]) (P1 : Exa Z h0 t "[B") :
    Ctr l Z ELs yn548 jdk_65_method_121_code 3 (some (.array .byte)) [] (rmk 1 1 3 14) #[(.ref t), (.int 3)] [] h0 (fun v h fs => (∃ r : Addr, fs = [] ∧ v = some (.ref r) ∧ Ary Z h r .byte [(.int e0), (.int e1), (.int e2)])) := by
  obtain ⟨hw, hEL, wS, OS, hz0, OA, OH, OL, OF, rfm⟩ := id G
  refine Ctr.intro pn549 hEL hZh hsf ?_
  intro p e s m below meth c s₁ hby hml hret hnm hlk hh K0
  refine Owe.cast (ef547 m t ((3 : Int32))) ?_
  refine oIloadN K0 1 (d25_0 hby) rfl ?_
  refine oAloadN K0 2 (d25_1 hby) rfl rfl ?_
  refine oLen K0 3 P0 (n := (3 : Int32)) (by first | rfl | decide) (d25_2 hby) ?_
  refine oIcmpNo K0 6 (d25_3 hby) (XT.ii_ne_f (by decide)) ?_
  refine oAloadN K0 7 (d25_6 hby) rfl rfl ?_
  refine oClone K0 10 0 (wq hw 70) (wq hw 71) (wq hw 75) (wq hw 73) (wq hw 74) (wq hw 76) P0 P1 rfl (d25_7 hby) (by decide) nle (by decide) (by decide) nle ?_
  intro T1 h3 a4 g5 K2 E6 f7 f8
  have K9 := K2.to 1 3 [a4]
  refine oCast K9 13 (wq hw 77) (Ins.self f8) (d25_10 hby) ?_
  intro T10 K11
  exact oRetA K11 [] hret rfl rfl (d25_13 hby) (by decide) (by decide) hlk (fun x hx => by cases hx) ⟨a4, rfl, rfl, f7⟩
theorem rmMin4_2 (G : Gl Z a0 z0 fm) (h0 : Heap) (hZh : Ext Z.heap h0) (hsf : Own Z h0 []) :
    Ctr l Z ELs yn556 jdk_29_method_69_code 2 (some .int) [] (rmk 0 0 0 0) #[(.int 4), (.int 2)] [] h0 (fun v h fs => (fs = [] ∧ v = some (.int 2))) := by
  obtain ⟨hw, hEL, wS, OS, hz0, OA, OH, OL, OF, rfm⟩ := id G
  refine Ctr.introP (JP.mathPlain rfl (by decide +kernel)) hEL hZh hsf ?_
  intro p e s m below meth c s₁ hby hml hret hnm hlk hh K0
  refine Owe.cast (ef262 m ((4 : Int32)) ((2 : Int32))) ?_
  refine oIloadN K0 1 (d26_0 hby) rfl ?_
  refine oIloadN K0 2 (d26_1 hby) rfl ?_
  refine oIcmpYes K0 9 (d26_2 hby) (XT.ii_gt_t (by decide)) ?_
  refine oIloadN K0 10 (d26_9 hby) rfl ?_
  exact oRetI K0 [] (t := .int) hret (by simp) rfl (d26_10 hby) (by decide) (by decide) hlk (fun x hx => by cases hx) ⟨rfl, rfl⟩
theorem rmCopy4_2 (G : Gl Z a0 z0 fm) (t : Addr) (e0 e1 e2 e3 : Int32) (h0 : Heap) (hZh : Ext Z.heap h0) (hsf : Own Z h0 []) (P0 : Ary Z h0 t .byte [(.int e0), (.int e1), (.int e2), (.int e3)]) (P1 : Exa Z h0 t "[B") :
    Ctr l Z ELs yn548 jdk_65_method_121_code 3 (some (.array .byte)) [] (rmk 1 1 2 40) #[(.ref t), (.int 2)] [] h0 (fun v h fs => (∃ r : Addr, fs = [] ∧ v = some (.ref r) ∧ Ary Z h r .byte [(.int e0), (.int e1)])) := by
  obtain ⟨hw, hEL, wS, OS, hz0, OA, OH, OL, OF, rfm⟩ := id G
  refine Ctr.intro pn549 hEL hZh hsf ?_
  intro p e s m below meth c s₁ hby hml hret hnm hlk hh K0
  refine Owe.cast (ef547 m t ((2 : Int32))) ?_
  refine oIloadN K0 1 (d25_0 hby) rfl ?_
  refine oAloadN K0 2 (d25_1 hby) rfl rfl ?_
  refine oLen K0 3 P0 (n := (4 : Int32)) (by first | rfl | decide) (d25_2 hby) ?_
  refine oIcmpYes K0 14 (d25_3 hby) (XT.ii_ne_t (by decide)) ?_
  refine oIloadN K0 15 (d25_14 hby) rfl ?_
  refine oNewPE K0 17 (ty := .byte) 2 (wq hw 8) rfl (by decide) (by decide) (by decide) (d25_15 hby) (by decide) (by decide) (ad := "[B") rfl ?_
  intro T6 h1 a2 g3 K7 E4 A5 X8
  have K9 := K7.to 1 2 [a2]
  refine oAstoreN K9 18 (d25_17 hby) rfl (l' := #[.val (.ref t), .val (.int 2), .val (.ref a2)]) rfl ?_
  refine oAloadN K9 19 (d25_18 hby) rfl rfl ?_
  refine oIconstV K9 20 (0 : Int32) (d25_19 hby) rfl ?_
  refine oAloadN K9 21 (d25_20 hby) rfl rfl ?_
  refine oIconstV K9 22 (0 : Int32) (d25_21 hby) rfl ?_
  refine oAloadN K9 23 (d25_22 hby) rfl rfl ?_
  refine oLen K9 24 (P0.ext E4) (n := (4 : Int32)) (by first | rfl | decide) (d25_23 hby) ?_
  refine oIloadN K9 25 (d25_24 hby) rfl ?_
  refine oStatic K9 28 4 (wq hw 135) (wq hw 136) (wq hw 137) (wq hw 138) (rmMin4_2 l Z a0 z0 fm G  h1 K9.old K9.both ) [(.int 4), (.int 2)] [(.int 0), (.ref a2), (.int 0), (.ref t)] (lenOf pd568 rfl) (d25_25 hby) ?_
  intro T10 h12 v13 lo14 fs15 K11 Kp16 q17
  obtain ⟨rfl, rfl⟩ := q17
  have K18 := K11.to 1 2 [a2]
  refine Owe.stk [(.int 2), (.int 0), (.ref a2), (.int 0), (.ref t)] ?_
  refine oCopy K18 31 0 (wq hw 139) (wq hw 142) (wq hw 140) (wq hw 141) (by simp) ((P0.ext E4).keep Kp16 nin0) (A5.keep Kp16 nin0) 2 (by decide) (by decide) nle nle rfl (d25_28 hby) (by decide) nle (by decide) ?_
  intro T19 h21 lo22 K20 Kp23 f24
  have f25 : Ary Z h21 a2 .byte [(.int e0), (.int e1)] := f24
  refine oAloadN K20 32 (d25_31 hby) rfl rfl ?_
  exact oRetA K20 [] hret rfl rfl (d25_32 hby) (by decide) (by decide) hlk (fun x hx => by cases hx) ⟨a2, rfl, rfl, f25⟩
theorem rmCopy4_4 (G : Gl Z a0 z0 fm) (t : Addr) (e0 e1 e2 e3 : Int32) (h0 : Heap) (hZh : Ext Z.heap h0) (hsf : Own Z h0 []) (P0 : Ary Z h0 t .byte [(.int e0), (.int e1), (.int e2), (.int e3)]) (P1 : Exa Z h0 t "[B") :
    Ctr l Z ELs yn548 jdk_65_method_121_code 3 (some (.array .byte)) [] (rmk 1 1 4 14) #[(.ref t), (.int 4)] [] h0 (fun v h fs => (∃ r : Addr, fs = [] ∧ v = some (.ref r) ∧ Ary Z h r .byte [(.int e0), (.int e1), (.int e2), (.int e3)])) := by
  obtain ⟨hw, hEL, wS, OS, hz0, OA, OH, OL, OF, rfm⟩ := id G
  refine Ctr.intro pn549 hEL hZh hsf ?_
  intro p e s m below meth c s₁ hby hml hret hnm hlk hh K0
  refine Owe.cast (ef547 m t ((4 : Int32))) ?_
  refine oIloadN K0 1 (d25_0 hby) rfl ?_
  refine oAloadN K0 2 (d25_1 hby) rfl rfl ?_
  refine oLen K0 3 P0 (n := (4 : Int32)) (by first | rfl | decide) (d25_2 hby) ?_
  refine oIcmpNo K0 6 (d25_3 hby) (XT.ii_ne_f (by decide)) ?_
  refine oAloadN K0 7 (d25_6 hby) rfl rfl ?_
  refine oClone K0 10 0 (wq hw 70) (wq hw 71) (wq hw 75) (wq hw 73) (wq hw 74) (wq hw 76) P0 P1 rfl (d25_7 hby) (by decide) nle (by decide) (by decide) nle ?_
  intro T1 h3 a4 g5 K2 E6 f7 f8
  have K9 := K2.to 1 4 [a4]
  refine oCast K9 13 (wq hw 77) (Ins.self f8) (d25_10 hby) ?_
  intro T10 K11
  exact oRetA K11 [] hret rfl rfl (d25_13 hby) (by decide) (by decide) hlk (fun x hx => by cases hx) ⟨a4, rfl, rfl, f7⟩
abbrev y27 := prog_18_method_4_code
theorem d27_0 : DC y27 0 (.aload_n 0) 1 := hb' (by decide +kernel)
theorem d27_1 : DC y27 1 (.invokevirtual 74) 3 := hb' (by decide +kernel)
theorem pd575 : parseMethodDescriptor "()I" = some ⟨[], some .int⟩ := by decide +kernel
theorem d27_4 : DC y27 4 (.newarray .byte) 2 := hb' (by decide +kernel)
theorem d27_6 : DC y27 6 (.astore_n 2) 1 := hb' (by decide +kernel)
theorem d27_7 : DC y27 7 (.iconst 0) 1 := hb' (by decide +kernel)
theorem d27_8 : DC y27 8 (.istore_n 3) 1 := hb' (by decide +kernel)
theorem d27_9 : DC y27 9 (.iconst 0) 1 := hb' (by decide +kernel)
theorem d27_10 : DC y27 10 (.istore 4) 2 := hb' (by decide +kernel)
theorem d27_12 : DC y27 12 (.iload 4) 2 := hb' (by decide +kernel)
theorem d27_14 : DC y27 14 (.aload_n 0) 1 := hb' (by decide +kernel)
theorem d27_15 : DC y27 15 (.invokevirtual 74) 3 := hb' (by decide +kernel)
theorem d27_18 : DC y27 18 (.if_icmp .ge 142) 3 := hb' (by decide +kernel)
theorem d27_160 : DC y27 160 (.aload_n 2) 1 := hb' (by decide +kernel)
theorem d27_161 : DC y27 161 (.iload_n 3) 1 := hb' (by decide +kernel)
theorem d27_162 : DC y27 162 (.invokestatic 86) 3 := hb' (by decide +kernel)
theorem pd589 : parseMethodDescriptor "([BI)[B" = some ⟨[(.array .byte), .int], some (.array .byte)⟩ := by decide +kernel
theorem d27_165 : DC y27 165 (.areturn) 1 := hb' (by decide +kernel)
theorem ef591 (m : MethodId) (x0 : Addr) (x1 : Int32) : entryFrame m #[(.ref x0), (.int x1)] 8 = mkF m 0 #[.val (.ref x0), .val (.int x1), .unset, .unset, .unset, .unset, .unset, .unset] [] := by first | (simp [entryFrame, mkF, argsToLocals, Value.category]; done) | rfl
abbrev yn592 : MethodName := ⟨"com/example/paredown/paredown/PercentEncoding", "decodeBytes", "(Ljava/lang/String;Z)[B"⟩
theorem rmDB0 (G : Gl Z a0 z0 fm) (x : Addr) (b : Nat) (f : Int32) (h0 : Heap) (hZh : Ext Z.heap h0) (hsf : Own Z h0 []) (P0 : Str Z h0 b x []) :
    Ctr l Z ELs yn592 prog_18_method_4_code 8 (some (.array .byte)) [] (rmk 7 6 40 160) #[(.ref x), (.int f)] [] h0 (fun v h fs => (∃ r : Addr, fs = [] ∧ v = some (.ref r) ∧ Ary Z h r .byte [])) := by
  obtain ⟨hw, hEL, wS, OS, hz0, OA, OH, OL, OF, rfm⟩ := id G
  refine Ctr.intro pn403 hEL hZh hsf ?_
  intro p e s m below meth c s₁ hby hml hret hnm hlk hh K0
  refine Owe.cast (ef591 m x f) ?_
  refine oAloadN K0 1 (d27_0 hby) rfl rfl ?_
  refine oVirtual K0 4 0 (wq hw 56) (wq hw 57) (nfSel (wq hw 59)) (wq hw 59) (wq hw 58) (wq hw 6) (wq hw 60) P0.exa (rmLen0 l Z a0 z0 fm G x b h0 K0.old K0.both P0) [] [] (lenOf pd575 rfl) (d27_1 hby) ?_
  intro T1 h3 v4 lo5 fs6 K2 Kp7 q8
  obtain ⟨rfl, rfl⟩ := q8
  have K9 := K2.to 0 0 []
  refine Owe.stk [(.int 0)] ?_
  refine oNewPE K9 6 (ty := .byte) 0 (wq hw 8) rfl (by decide) (by decide) (by decide) (d27_4 hby) (by decide) (by decide) (ad := "[B") rfl ?_
  intro T15 h10 a11 g12 K16 E13 A14 X17
  have K18 := K16.to 1 0 [a11]
  refine oAstoreN K18 7 (d27_6 hby) rfl (l' := #[.val (.ref x), .val (.int f), .val (.ref a11), .unset, .unset, .unset, .unset, .unset]) rfl ?_
  refine oIconstV K18 8 (0 : Int32) (d27_7 hby) rfl ?_
  refine oIstoreN K18 9 (d27_8 hby) (l' := #[.val (.ref x), .val (.int f), .val (.ref a11), .val (.int 0), .unset, .unset, .unset, .unset]) rfl ?_
  refine oIconstV K18 10 (0 : Int32) (d27_9 hby) rfl ?_
  refine oIstore K18 12 (d27_10 hby) (l' := #[.val (.ref x), .val (.int f), .val (.ref a11), .val (.int 0), .val (.int 0), .unset, .unset, .unset]) rfl ?_
  refine oIload K18 14 (d27_12 hby) rfl ?_
  refine oAloadN K18 15 (d27_14 hby) rfl rfl ?_
  refine oVirtual K18 18 1 (wq hw 56) (wq hw 57) (nfSel (wq hw 59)) (wq hw 59) (wq hw 58) (wq hw 6) (wq hw 60) ((P0.exa.keep Kp7).ext E13) (rmLen0 l Z a0 z0 fm G x b h10 K18.old K18.both ((P0.keep Kp7 geN).ext E13)) [] [(.int 0)] (lenOf pd575 rfl) (d27_15 hby) ?_
  intro T19 h21 v22 lo23 fs24 K20 Kp25 q26
  obtain ⟨rfl, rfl⟩ := q26
  have K27 := K20.to 1 0 [a11]
  refine Owe.stk [(.int 0), (.int 0)] ?_
  refine oIcmpYes K27 160 (d27_18 hby) (XT.ii_ge_t (by decide)) ?_
  refine oAloadN K27 161 (d27_160 hby) rfl rfl ?_
  refine oIloadN K27 162 (d27_161 hby) rfl ?_
  refine oStatic K27 165 0 (wq hw 66) (wq hw 67) (wq hw 68) (wq hw 69) (rmCopy0_0 l Z a0 z0 fm G a11 h21 K27.old K27.both (A14.keep Kp25 nin0) (X17.keep Kp25)) [(.ref a11), (.int 0)] [] (lenOf pd589 rfl) (d27_162 hby) ?_
  intro T28 h30 v31 lo32 fs33 K29 Kp34 q35
  obtain ⟨r36, rfl, rfl, f37⟩ := q35
  have K38 := K29.to 2 0 [a11]
  refine Owe.stk [(.ref r36)] ?_
  exact oRetA K38 [] hret rfl rfl (d27_165 hby) (by decide) (by decide) hlk (fun x hx => by cases hx) ⟨r36, rfl, rfl, f37⟩
theorem sgD1_1_1 (G : Gl Z a0 z0 fm) (x : Addr) (b : Nat) (t : Addr) (f q5 c0 e0 : Int32) (hby : c.code = prog_18_method_4_code) (hret : meth.sig.returnType = (some (.array .byte))) (hlk : meth.locks = false) (h0 : Heap)
    (K0 : Wk p l e (rmk 7 6 40 160) s m #[(.ref x), (.int f)] below meth c Z a0 ELs "com/example/paredown/paredown/PercentEncoding" 8 [] [t] T0 lo0 1 1 h0) (P0 : Str Z h0 b x [c0]) (P1 : Ary Z h0 t .byte [(.int e0)]) (P2 : Exa Z h0 t "[B") (P3 : b ≤ t) (P4 : ¬ c0 < (0 : Int32)) (P5 : ¬ (65535 : Int32) < c0) :
    Owe p e below (PostW Z ELs [] (rmk 7 6 40 160) (fun v h fs => (∃ r : Addr, fs = [] ∧ v = some (.ref r) ∧ Ary Z h r .byte [(.int e0)])) s) T0 (mkF m 12 #[.val (.ref x), .val (.int f), .val (.ref t), .val (.int 1), .val (.int 1), .val (.int q5), .unset, .unset] []) := by
  obtain ⟨hw, hEL, wS, OS, hz0, OA, OH, OL, OF, rfm⟩ := id G
  refine oIload K0 14 (d27_12 hby) rfl ?_
  refine oAloadN K0 15 (d27_14 hby) rfl rfl ?_
  refine oVirtual K0 18 1 (wq hw 56) (wq hw 57) (nfSel (wq hw 59)) (wq hw 59) (wq hw 58) (wq hw 6) (wq hw 60) P0.exa (rmLen1 l Z a0 z0 fm G x b c0 h0 K0.old K0.both P0) [] [(.int 1)] (lenOf pd575 rfl) (d27_15 hby) ?_
  intro T1 h3 v4 lo5 fs6 K2 Kp7 q8
  obtain ⟨rfl, rfl⟩ := q8
  have K9 := K2.to 1 1 [t]
  refine Owe.stk [(.int 1), (.int 1)] ?_
  refine oIcmpYes K9 160 (d27_18 hby) (XT.ii_ge_t (by decide)) ?_
  refine oAloadN K9 161 (d27_160 hby) rfl rfl ?_
  refine oIloadN K9 162 (d27_161 hby) rfl ?_
  refine oStatic K9 165 0 (wq hw 66) (wq hw 67) (wq hw 68) (wq hw 69) (rmCopy1_1 l Z a0 z0 fm G t e0 h3 K9.old K9.both (P1.keep Kp7 nin0) (P2.keep Kp7)) [(.ref t), (.int 1)] [] (lenOf pd589 rfl) (d27_162 hby) ?_
  intro T10 h12 v13 lo14 fs15 K11 Kp16 q17
  obtain ⟨r18, rfl, rfl, f19⟩ := q17
  have K20 := K11.to 2 2 [t]
  refine Owe.stk [(.ref r18)] ?_
  exact oRetA K20 [] hret rfl rfl (d27_165 hby) (by decide) (by decide) hlk (fun x hx => by cases hx) ⟨r18, rfl, rfl, f19⟩
theorem d27_21 : DC y27 21 (.aload_n 0) 1 := hb' (by decide +kernel)
theorem d27_22 : DC y27 22 (.iload 4) 2 := hb' (by decide +kernel)
theorem d27_24 : DC y27 24 (.invokevirtual 78) 3 := hb' (by decide +kernel)
theorem d27_27 : DC y27 27 (.istore 5) 2 := hb' (by decide +kernel)
theorem d27_29 : DC y27 29 (.iload 5) 2 := hb' (by decide +kernel)
theorem d27_31 : DC y27 31 (.bipush 37) 2 := hb' (by decide +kernel)
theorem d27_33 : DC y27 33 (.if_icmp .ne 80) 3 := hb' (by decide +kernel)
theorem d27_36 : DC y27 36 (.iload 4) 2 := hb' (by decide +kernel)
theorem d27_38 : DC y27 38 (.iconst 2) 1 := hb' (by decide +kernel)
theorem d27_39 : DC y27 39 (.iadd) 1 := hb' (by decide +kernel)
theorem d27_40 : DC y27 40 (.aload_n 0) 1 := hb' (by decide +kernel)
theorem d27_41 : DC y27 41 (.invokevirtual 74) 3 := hb' (by decide +kernel)
theorem d27_44 : DC y27 44 (.if_icmp .ge 17) 3 := hb' (by decide +kernel)
theorem d27_61 : DC y27 61 (.iconst (-1)) 1 := hb' (by decide +kernel)
theorem d27_62 : DC y27 62 (.istore 6) 2 := hb' (by decide +kernel)
theorem d27_64 : DC y27 64 (.iload 6) 2 := hb' (by decide +kernel)
theorem d27_66 : DC y27 66 (.ifCond .ge 7) 3 := hb' (by decide +kernel)
theorem d27_69 : DC y27 69 (.iconst (-1)) 1 := hb' (by decide +kernel)
theorem d27_70 : DC y27 70 (.goto 14) 3 := hb' (by decide +kernel)
theorem d27_84 : DC y27 84 (.istore 7) 2 := hb' (by decide +kernel)
theorem d27_86 : DC y27 86 (.iload 7) 2 := hb' (by decide +kernel)
theorem d27_88 : DC y27 88 (.ifCond .ge 5) 3 := hb' (by decide +kernel)
theorem d27_91 : DC y27 91 (.aconst_null) 1 := hb' (by decide +kernel)
theorem d27_92 : DC y27 92 (.areturn) 1 := hb' (by decide +kernel)
theorem d27_113 : DC y27 113 (.iload 5) 2 := hb' (by decide +kernel)
theorem d27_115 : DC y27 115 (.bipush 43) 2 := hb' (by decide +kernel)
theorem d27_117 : DC y27 117 (.if_icmp .ne 18) 3 := hb' (by decide +kernel)
theorem d27_120 : DC y27 120 (.iload_n 1) 1 := hb' (by decide +kernel)
theorem d27_121 : DC y27 121 (.ifCond .eq 14) 3 := hb' (by decide +kernel)
theorem d27_135 : DC y27 135 (.iload 5) 2 := hb' (by decide +kernel)
theorem d27_137 : DC y27 137 (.sipush 255) 3 := hb' (by decide +kernel)
theorem d27_140 : DC y27 140 (.if_icmp .le 5) 3 := hb' (by decide +kernel)
theorem d27_143 : DC y27 143 (.aconst_null) 1 := hb' (by decide +kernel)
theorem d27_144 : DC y27 144 (.areturn) 1 := hb' (by decide +kernel)
theorem d27_145 : DC y27 145 (.aload_n 2) 1 := hb' (by decide +kernel)
theorem d27_146 : DC y27 146 (.iload_n 3) 1 := hb' (by decide +kernel)
theorem d27_147 : DC y27 147 (.iinc 3 1) 3 := hb' (by decide +kernel)
theorem d27_150 : DC y27 150 (.iload 5) 2 := hb' (by decide +kernel)
theorem d27_152 : DC y27 152 (.i2b) 1 := hb' (by decide +kernel)
theorem d27_153 : DC y27 153 (.bastore) 1 := hb' (by decide +kernel)
theorem d27_154 : DC y27 154 (.iinc 4 1) 3 := hb' (by decide +kernel)
theorem d27_157 : DC y27 157 (.goto (-145)) 3 := hb' (by decide +kernel)
theorem d27_124 : DC y27 124 (.aload_n 2) 1 := hb' (by decide +kernel)
theorem d27_125 : DC y27 125 (.iload_n 3) 1 := hb' (by decide +kernel)
theorem d27_126 : DC y27 126 (.iinc 3 1) 3 := hb' (by decide +kernel)
theorem d27_129 : DC y27 129 (.bipush 32) 2 := hb' (by decide +kernel)
theorem d27_131 : DC y27 131 (.bastore) 1 := hb' (by decide +kernel)
theorem d27_132 : DC y27 132 (.goto 22) 3 := hb' (by decide +kernel)
theorem rmDB1 (G : Gl Z a0 z0 fm) (x : Addr) (b : Nat) (f c0 : Int32) (h0 : Heap) (hZh : Ext Z.heap h0) (hsf : Own Z h0 []) (P0 : Str Z h0 b x [c0]) (P1 : ¬ c0 < (0 : Int32)) (P2 : ¬ (65535 : Int32) < c0) :
    Ctr l Z ELs yn592 prog_18_method_4_code 8 (some (.array .byte)) [] (rmk 7 6 40 160) #[(.ref x), (.int f)] [] h0 (fun v h fs => (fs = [] ∧ v = some .null ∧ (FO f c0)) ∨ (∃ r : Addr, fs = [] ∧ v = some (.ref r) ∧ Ary Z h r .byte [(.int (byt (one f c0)))] ∧ ¬ c0 = (37 : Int32) ∧ okP f c0)) := by
  obtain ⟨hw, hEL, wS, OS, hz0, OA, OH, OL, OF, rfm⟩ := id G
  refine Ctr.intro pn403 hEL hZh hsf ?_
  intro p e s m below meth c s₁ hby hml hret hnm hlk hh K0
  refine Owe.cast (ef591 m x f) ?_
  refine oAloadN K0 1 (d27_0 hby) rfl rfl ?_
  refine oVirtual K0 4 0 (wq hw 56) (wq hw 57) (nfSel (wq hw 59)) (wq hw 59) (wq hw 58) (wq hw 6) (wq hw 60) P0.exa (rmLen1 l Z a0 z0 fm G x b c0 h0 K0.old K0.both P0) [] [] (lenOf pd575 rfl) (d27_1 hby) ?_
  intro T1 h3 v4 lo5 fs6 K2 Kp7 q8
  obtain ⟨rfl, rfl⟩ := q8
  have K9 := K2.to 0 0 []
  refine Owe.stk [(.int 1)] ?_
  refine oNewPE K9 6 (ty := .byte) 1 (wq hw 8) rfl (by decide) (by decide) (by decide) (d27_4 hby) (by decide) (by decide) (ad := "[B") rfl ?_
  intro T15 h10 a11 g12 K16 E13 A14 X17
  have K18 := K16.to 1 1 [a11]
  refine oAstoreN K18 7 (d27_6 hby) rfl (l' := #[.val (.ref x), .val (.int f), .val (.ref a11), .unset, .unset, .unset, .unset, .unset]) rfl ?_
  refine oIconstV K18 8 (0 : Int32) (d27_7 hby) rfl ?_
  refine oIstoreN K18 9 (d27_8 hby) (l' := #[.val (.ref x), .val (.int f), .val (.ref a11), .val (.int 0), .unset, .unset, .unset, .unset]) rfl ?_
  refine oIconstV K18 10 (0 : Int32) (d27_9 hby) rfl ?_
  refine oIstore K18 12 (d27_10 hby) (l' := #[.val (.ref x), .val (.int f), .val (.ref a11), .val (.int 0), .val (.int 0), .unset, .unset, .unset]) rfl ?_
  refine oIload K18 14 (d27_12 hby) rfl ?_
  refine oAloadN K18 15 (d27_14 hby) rfl rfl ?_
  refine oVirtual K18 18 1 (wq hw 56) (wq hw 57) (nfSel (wq hw 59)) (wq hw 59) (wq hw 58) (wq hw 6) (wq hw 60) ((P0.exa.keep Kp7).ext E13) (rmLen1 l Z a0 z0 fm G x b c0 h10 K18.old K18.both ((P0.keep Kp7 geN).ext E13)) [] [(.int 0)] (lenOf pd575 rfl) (d27_15 hby) ?_
  intro T19 h21 v22 lo23 fs24 K20 Kp25 q26
  obtain ⟨rfl, rfl⟩ := q26
  have K27 := K20.to 1 1 [a11]
  refine Owe.stk [(.int 1), (.int 0)] ?_
  refine oIcmpNo K27 21 (d27_18 hby) (XT.ii_ge_f (by decide)) ?_
  refine oAloadN K27 22 (d27_21 hby) rfl rfl ?_
  refine oIload K27 24 (d27_22 hby) rfl ?_
  refine oVirtual K27 27 0 (wq hw 99) (wq hw 14) (nfSel (wq hw 16)) (wq hw 16) (wq hw 15) (wq hw 6) (wq hw 17) (((P0.exa.keep Kp7).ext E13).keep Kp25) (rmCh1_0 l Z a0 z0 fm G x b c0 h21 K27.old K27.both (((P0.keep Kp7 geN).ext E13).keep Kp25 geN) P1 P2) [(.int 0)] [] (lenOf pd329 rfl) (d27_24 hby) ?_
  intro T28 h30 v31 lo32 fs33 K29 Kp34 q35
  obtain ⟨rfl, rfl⟩ := q35
  have K36 := K29.to 1 1 [a11]
  refine Owe.stk [(.int c0)] ?_
  refine oIstore K36 29 (d27_27 hby) (l' := #[.val (.ref x), .val (.int f), .val (.ref a11), .val (.int 0), .val (.int 0), .val (.int c0), .unset, .unset]) rfl ?_
  refine oIload K36 31 (d27_29 hby) rfl ?_
  refine oBipushV K36 33 (37 : Int32) (d27_31 hby) (by decide) ?_
  by_cases hc37 : c0 = (37 : Int32)
  · refine oIcmpNo K36 36 (d27_33 hby) (XT.ii_ne_f hc37) ?_
    refine oIload K36 38 (d27_36 hby) rfl ?_
    refine oIconstV K36 39 (2 : Int32) (d27_38 hby) rfl ?_
    refine oIadd K36 40 (d27_39 hby) ?_
    show Owe _ _ _ _ T28 (mkF m 40 #[.val (.ref x), .val (.int f), .val (.ref a11), .val (.int 0), .val (.int 0), .val (.int c0), .unset, .unset] [(.int 2)])
    refine oAloadN K36 41 (d27_40 hby) rfl rfl ?_
    have F38 := ((((P0.keep Kp7 geN).ext E13).keep Kp25 geN).keep Kp34 geN)
    have F39 := ((((P0.exa.keep Kp7).ext E13).keep Kp25).keep Kp34)
    refine oVirtual K36 44 1 (wq hw 56) (wq hw 57) (nfSel (wq hw 59)) (wq hw 59) (wq hw 58) (wq hw 6) (wq hw 60) F39 (rmLen1 l Z a0 z0 fm G x b c0 h30 K36.old K36.both F38) [] [(.int 2)] (lenOf pd575 rfl) (d27_41 hby) ?_
    intro T40 h42 v43 lo44 fs45 K41 Kp46 q47
    obtain ⟨rfl, rfl⟩ := q47
    have K48 := K41.to 1 1 [a11]
    refine Owe.stk [(.int 1), (.int 2)] ?_
    refine oIcmpYes K48 61 (d27_44 hby) (XT.ii_ge_t (by decide)) ?_
    refine oIconstV K48 62 (-1 : Int32) (d27_61 hby) rfl ?_
    refine oIstore K48 64 (d27_62 hby) (l' := #[.val (.ref x), .val (.int f), .val (.ref a11), .val (.int 0), .val (.int 0), .val (.int c0), .val (.int (-1)), .unset]) rfl ?_
    refine oIload K48 66 (d27_64 hby) rfl ?_
    refine oIfNo K48 69 (d27_66 hby) (XT.i0_ge_f (by decide)) ?_
    refine oIconstV K48 70 (-1 : Int32) (d27_69 hby) rfl ?_
    refine oGoto K48 84 (d27_70 hby) ?_
    refine oIstore K48 86 (d27_84 hby) (l' := #[.val (.ref x), .val (.int f), .val (.ref a11), .val (.int 0), .val (.int 0), .val (.int c0), .val (.int (-1)), .val (.int (-1))]) rfl ?_
    refine oIload K48 88 (d27_86 hby) rfl ?_
    refine oIfNo K48 91 (d27_88 hby) (XT.i0_ge_f (by decide)) ?_
    refine oAconstNull K48 92 (d27_91 hby) ?_
    exact oRetA K48 [] hret rfl rfl (d27_92 hby) (by decide) (by decide) hlk (fun x hx => by cases hx) (Or.inl ⟨rfl, rfl, (Or.inl hc37)⟩)
  · refine oIcmpYes K36 113 (d27_33 hby) (XT.ii_ne_t hc37) ?_
    refine oIload K36 115 (d27_113 hby) rfl ?_
    refine oBipushV K36 117 (43 : Int32) (d27_115 hby) (by decide) ?_
    by_cases hc49 : c0 = (43 : Int32)
    · refine oIcmpNo K36 120 (d27_117 hby) (XT.ii_ne_f hc49) ?_
      refine oIloadN K36 121 (d27_120 hby) rfl ?_
      by_cases hc50 : f = (0 : Int32)
      · refine oIfYes K36 135 (d27_121 hby) (XT.i0_eq_t hc50) ?_
        refine oIload K36 137 (d27_135 hby) rfl ?_
        refine oSipushV K36 140 (255 : Int32) (d27_137 hby) (by decide) ?_
        by_cases hc51 : (255 : Int32) < c0
        · refine oIcmpNo K36 143 (d27_140 hby) (XT.ii_le_f hc51) ?_
          refine oAconstNull K36 144 (d27_143 hby) ?_
          exact oRetA K36 [] hret rfl rfl (d27_144 hby) (by decide) (by decide) hlk (fun x hx => by cases hx) (Or.inl ⟨rfl, rfl, (Or.inr (own_nok (Or.inl hc50) hc51))⟩)
        · refine oIcmpYes K36 145 (d27_140 hby) (XT.ii_le_t hc51) ?_
          refine oAloadN K36 146 (d27_145 hby) rfl rfl ?_
          refine oIloadN K36 147 (d27_146 hby) rfl ?_
          refine oIinc K36 150 (d27_147 hby) rfl (l' := #[.val (.ref x), .val (.int f), .val (.ref a11), .val (.int 1), .val (.int 0), .val (.int c0), .unset, .unset]) rfl ?_
          refine oIload K36 152 (d27_150 hby) rfl ?_
          refine oI2b K36 153 (d27_152 hby) ?_
          refine oBastore K36 154 (by simp) ((A14.keep Kp25 nin0).keep Kp34 nin0) 0 (by decide) (by decide) nlt (nar_byt _) (d27_153 hby) ?_
          intro T56 h52 lo55 K57 W53 A54
          have A58 : Ary Z h52 a11 .byte [(.int (byt c0))] := A54
          have A59 : Ary Z h52 a11 .byte [(.int (byt (one f c0)))] := by rw [own_one2 (Or.inl hc50)]; exact A58
          refine oIinc K57 157 (d27_154 hby) rfl (l' := #[.val (.ref x), .val (.int f), .val (.ref a11), .val (.int 1), .val (.int 1), .val (.int c0), .unset, .unset]) rfl ?_
          refine oGoto K57 12 (d27_157 hby) ?_
          have F60 := (((((P0.keep Kp7 geN).ext E13).keep Kp25 geN).keep Kp34 geN).wr W53 (Nat.le_trans (P0.keep Kp7 geN).bd (Nat.le_of_eq g12)))
          exact Owe.mono (fun _ _ _ q => by obtain ⟨r, e1, e2, hA⟩ := q; exact Or.inr ⟨r, e1, e2, hA, hc37, (Or.inr hc51)⟩) (sgD1_1_1 l Z a0 z0 fm G x b a11 f c0 c0 ((byt (one f c0))) hby hret hlk h52 (K57.to 1 1 [a11] (q := by simp)) F60 A59 (((X17.keep Kp25).keep Kp34).wr W53) (Nat.le_trans (P0.keep Kp7 geN).bd (Nat.le_of_eq g12)) P1 P2)
      · refine oIfNo K36 124 (d27_121 hby) (XT.i0_eq_f hc50) ?_
        refine oAloadN K36 125 (d27_124 hby) rfl rfl ?_
        refine oIloadN K36 126 (d27_125 hby) rfl ?_
        refine oIinc K36 129 (d27_126 hby) rfl (l' := #[.val (.ref x), .val (.int f), .val (.ref a11), .val (.int 1), .val (.int 0), .val (.int c0), .unset, .unset]) rfl ?_
        refine oBipushV K36 131 (32 : Int32) (d27_129 hby) (by decide) ?_
        refine oBastore K36 132 (by simp) ((A14.keep Kp25 nin0).keep Kp34 nin0) 0 (by decide) (by decide) nlt (by decide : nar .byte (32 : Int32) = (32 : Int32)) (d27_131 hby) ?_
        intro T65 h61 lo64 K66 W62 A63
        have A67 : Ary Z h61 a11 .byte [(.int 32)] := A63
        refine oGoto K66 154 (d27_132 hby) ?_
        have A68 : Ary Z h61 a11 .byte [(.int (byt (one f c0)))] := by rw [own_oneP hc50 hc49]; exact A67
        refine oIinc K66 157 (d27_154 hby) rfl (l' := #[.val (.ref x), .val (.int f), .val (.ref a11), .val (.int 1), .val (.int 1), .val (.int c0), .unset, .unset]) rfl ?_
        refine oGoto K66 12 (d27_157 hby) ?_
        have F69 := (((((P0.keep Kp7 geN).ext E13).keep Kp25 geN).keep Kp34 geN).wr W62 (Nat.le_trans (P0.keep Kp7 geN).bd (Nat.le_of_eq g12)))
        exact Owe.mono (fun _ _ _ q => by obtain ⟨r, e1, e2, hA⟩ := q; exact Or.inr ⟨r, e1, e2, hA, hc37, (Or.inl ⟨hc50, hc49⟩)⟩) (sgD1_1_1 l Z a0 z0 fm G x b a11 f c0 c0 ((byt (one f c0))) hby hret hlk h61 (K66.to 1 1 [a11] (q := by simp)) F69 A68 (((X17.keep Kp25).keep Kp34).wr W62) (Nat.le_trans (P0.keep Kp7 geN).bd (Nat.le_of_eq g12)) P1 P2)
    · refine oIcmpYes K36 135 (d27_117 hby) (XT.ii_ne_t hc49) ?_
      refine oIload K36 137 (d27_135 hby) rfl ?_
      refine oSipushV K36 140 (255 : Int32) (d27_137 hby) (by decide) ?_
      by_cases hc70 : (255 : Int32) < c0
      · refine oIcmpNo K36 143 (d27_140 hby) (XT.ii_le_f hc70) ?_
        refine oAconstNull K36 144 (d27_143 hby) ?_
        exact oRetA K36 [] hret rfl rfl (d27_144 hby) (by decide) (by decide) hlk (fun x hx => by cases hx) (Or.inl ⟨rfl, rfl, (Or.inr (own_nok (Or.inr hc49) hc70))⟩)
      · refine oIcmpYes K36 145 (d27_140 hby) (XT.ii_le_t hc70) ?_
        refine oAloadN K36 146 (d27_145 hby) rfl rfl ?_
        refine oIloadN K36 147 (d27_146 hby) rfl ?_
        refine oIinc K36 150 (d27_147 hby) rfl (l' := #[.val (.ref x), .val (.int f), .val (.ref a11), .val (.int 1), .val (.int 0), .val (.int c0), .unset, .unset]) rfl ?_
        refine oIload K36 152 (d27_150 hby) rfl ?_
        refine oI2b K36 153 (d27_152 hby) ?_
        refine oBastore K36 154 (by simp) ((A14.keep Kp25 nin0).keep Kp34 nin0) 0 (by decide) (by decide) nlt (nar_byt _) (d27_153 hby) ?_
        intro T75 h71 lo74 K76 W72 A73
        have A77 : Ary Z h71 a11 .byte [(.int (byt c0))] := A73
        have A78 : Ary Z h71 a11 .byte [(.int (byt (one f c0)))] := by rw [own_one2 (Or.inr hc49)]; exact A77
        refine oIinc K76 157 (d27_154 hby) rfl (l' := #[.val (.ref x), .val (.int f), .val (.ref a11), .val (.int 1), .val (.int 1), .val (.int c0), .unset, .unset]) rfl ?_
        refine oGoto K76 12 (d27_157 hby) ?_
        have F79 := (((((P0.keep Kp7 geN).ext E13).keep Kp25 geN).keep Kp34 geN).wr W72 (Nat.le_trans (P0.keep Kp7 geN).bd (Nat.le_of_eq g12)))
        exact Owe.mono (fun _ _ _ q => by obtain ⟨r, e1, e2, hA⟩ := q; exact Or.inr ⟨r, e1, e2, hA, hc37, (Or.inr hc70)⟩) (sgD1_1_1 l Z a0 z0 fm G x b a11 f c0 c0 ((byt (one f c0))) hby hret hlk h71 (K76.to 1 1 [a11] (q := by simp)) F79 A78 (((X17.keep Kp25).keep Kp34).wr W72) (Nat.le_trans (P0.keep Kp7 geN).bd (Nat.le_of_eq g12)) P1 P2)
theorem sgD2_2_2 (G : Gl Z a0 z0 fm) (x : Addr) (b : Nat) (t : Addr) (f q5 c0 c1 e0 e1 : Int32) (hby : c.code = prog_18_method_4_code) (hret : meth.sig.returnType = (some (.array .byte))) (hlk : meth.locks = false) (h0 : Heap)
    (K0 : Wk p l e (rmk 7 6 40 160) s m #[(.ref x), (.int f)] below meth c Z a0 ELs "com/example/paredown/paredown/PercentEncoding" 8 [] [t] T0 lo0 1 2 h0) (P0 : Str Z h0 b x [c0, c1]) (P1 : Ary Z h0 t .byte [(.int e0), (.int e1)]) (P2 : Exa Z h0 t "[B") (P3 : b ≤ t) (P4 : ¬ c0 < (0 : Int32)) (P5 : ¬ (65535 : Int32) < c0) (P6 : ¬ c1 < (0 : Int32)) (P7 : ¬ (65535 : Int32) < c1) :
    Owe p e below (PostW Z ELs [] (rmk 7 6 40 160) (fun v h fs => (∃ r : Addr, fs = [] ∧ v = some (.ref r) ∧ Ary Z h r .byte [(.int e0), (.int e1)])) s) T0 (mkF m 12 #[.val (.ref x), .val (.int f), .val (.ref t), .val (.int 2), .val (.int 2), .val (.int q5), .unset, .unset] []) := by
  obtain ⟨hw, hEL, wS, OS, hz0, OA, OH, OL, OF, rfm⟩ := id G
  refine oIload K0 14 (d27_12 hby) rfl ?_
  refine oAloadN K0 15 (d27_14 hby) rfl rfl ?_
  refine oVirtual K0 18 1 (wq hw 56) (wq hw 57) (nfSel (wq hw 59)) (wq hw 59) (wq hw 58) (wq hw 6) (wq hw 60) P0.exa (rmLen2 l Z a0 z0 fm G x b c0 c1 h0 K0.old K0.both P0) [] [(.int 2)] (lenOf pd575 rfl) (d27_15 hby) ?_
  intro T1 h3 v4 lo5 fs6 K2 Kp7 q8
  obtain ⟨rfl, rfl⟩ := q8
  have K9 := K2.to 1 2 [t]
  refine Owe.stk [(.int 2), (.int 2)] ?_
  refine oIcmpYes K9 160 (d27_18 hby) (XT.ii_ge_t (by decide)) ?_
  refine oAloadN K9 161 (d27_160 hby) rfl rfl ?_
  refine oIloadN K9 162 (d27_161 hby) rfl ?_
  refine oStatic K9 165 0 (wq hw 66) (wq hw 67) (wq hw 68) (wq hw 69) (rmCopy2_2 l Z a0 z0 fm G t e0 e1 h3 K9.old K9.both (P1.keep Kp7 nin0) (P2.keep Kp7)) [(.ref t), (.int 2)] [] (lenOf pd589 rfl) (d27_162 hby) ?_
  intro T10 h12 v13 lo14 fs15 K11 Kp16 q17
  obtain ⟨r18, rfl, rfl, f19⟩ := q17
  have K20 := K11.to 2 4 [t]
  refine Owe.stk [(.ref r18)] ?_
  exact oRetA K20 [] hret rfl rfl (d27_165 hby) (by decide) (by decide) hlk (fun x hx => by cases hx) ⟨r18, rfl, rfl, f19⟩
theorem sgD2_1_1 (G : Gl Z a0 z0 fm) (x : Addr) (b : Nat) (t : Addr) (f q5 c0 c1 e0 : Int32) (hby : c.code = prog_18_method_4_code) (hret : meth.sig.returnType = (some (.array .byte))) (hlk : meth.locks = false) (h0 : Heap)
    (K0 : Wk p l e (rmk 7 6 40 160) s m #[(.ref x), (.int f)] below meth c Z a0 ELs "com/example/paredown/paredown/PercentEncoding" 8 [] [t] T0 lo0 1 2 h0) (P0 : Str Z h0 b x [c0, c1]) (P1 : Ary Z h0 t .byte [(.int e0), (.int 0)]) (P2 : Exa Z h0 t "[B") (P3 : b ≤ t) (P4 : ¬ c0 < (0 : Int32)) (P5 : ¬ (65535 : Int32) < c0) (P6 : ¬ c1 < (0 : Int32)) (P7 : ¬ (65535 : Int32) < c1) :
    Owe p e below (PostW Z ELs [] (rmk 7 6 40 160) (fun v h fs => (fs = [] ∧ v = some .null ∧ (FO f c1)) ∨ (∃ r : Addr, fs = [] ∧ v = some (.ref r) ∧ Ary Z h r .byte [(.int e0), (.int (byt (one f c1)))] ∧ ¬ c1 = (37 : Int32) ∧ okP f c1)) s) T0 (mkF m 12 #[.val (.ref x), .val (.int f), .val (.ref t), .val (.int 1), .val (.int 1), .val (.int q5), .unset, .unset] []) := by
  obtain ⟨hw, hEL, wS, OS, hz0, OA, OH, OL, OF, rfm⟩ := id G
  refine oIload K0 14 (d27_12 hby) rfl ?_
  refine oAloadN K0 15 (d27_14 hby) rfl rfl ?_
  refine oVirtual K0 18 1 (wq hw 56) (wq hw 57) (nfSel (wq hw 59)) (wq hw 59) (wq hw 58) (wq hw 6) (wq hw 60) P0.exa (rmLen2 l Z a0 z0 fm G x b c0 c1 h0 K0.old K0.both P0) [] [(.int 1)] (lenOf pd575 rfl) (d27_15 hby) ?_
  intro T1 h3 v4 lo5 fs6 K2 Kp7 q8
  obtain ⟨rfl, rfl⟩ := q8
  have K9 := K2.to 1 2 [t]
  refine Owe.stk [(.int 2), (.int 1)] ?_
  refine oIcmpNo K9 21 (d27_18 hby) (XT.ii_ge_f (by decide)) ?_
  refine oAloadN K9 22 (d27_21 hby) rfl rfl ?_
  refine oIload K9 24 (d27_22 hby) rfl ?_
  refine oVirtual K9 27 0 (wq hw 99) (wq hw 14) (nfSel (wq hw 16)) (wq hw 16) (wq hw 15) (wq hw 6) (wq hw 17) (P0.exa.keep Kp7) (rmCh2_1 l Z a0 z0 fm G x b c0 c1 h3 K9.old K9.both (P0.keep Kp7 geN) P6 P7) [(.int 1)] [] (lenOf pd329 rfl) (d27_24 hby) ?_
  intro T10 h12 v13 lo14 fs15 K11 Kp16 q17
  obtain ⟨rfl, rfl⟩ := q17
  have K18 := K11.to 1 2 [t]
  refine Owe.stk [(.int c1)] ?_
  refine oIstore K18 29 (d27_27 hby) (l' := #[.val (.ref x), .val (.int f), .val (.ref t), .val (.int 1), .val (.int 1), .val (.int c1), .unset, .unset]) rfl ?_
  refine oIload K18 31 (d27_29 hby) rfl ?_
  refine oBipushV K18 33 (37 : Int32) (d27_31 hby) (by decide) ?_
  by_cases hc19 : c1 = (37 : Int32)
  · refine oIcmpNo K18 36 (d27_33 hby) (XT.ii_ne_f hc19) ?_
    refine oIload K18 38 (d27_36 hby) rfl ?_
    refine oIconstV K18 39 (2 : Int32) (d27_38 hby) rfl ?_
    refine oIadd K18 40 (d27_39 hby) ?_
    show Owe _ _ _ _ T10 (mkF m 40 #[.val (.ref x), .val (.int f), .val (.ref t), .val (.int 1), .val (.int 1), .val (.int c1), .unset, .unset] [(.int 3)])
    refine oAloadN K18 41 (d27_40 hby) rfl rfl ?_
    refine oVirtual K18 44 1 (wq hw 56) (wq hw 57) (nfSel (wq hw 59)) (wq hw 59) (wq hw 58) (wq hw 6) (wq hw 60) ((P0.exa.keep Kp7).keep Kp16) (rmLen2 l Z a0 z0 fm G x b c0 c1 h12 K18.old K18.both ((P0.keep Kp7 geN).keep Kp16 geN)) [] [(.int 3)] (lenOf pd575 rfl) (d27_41 hby) ?_
    intro T20 h22 v23 lo24 fs25 K21 Kp26 q27
    obtain ⟨rfl, rfl⟩ := q27
    have K28 := K21.to 1 2 [t]
    refine Owe.stk [(.int 2), (.int 3)] ?_
    refine oIcmpYes K28 61 (d27_44 hby) (XT.ii_ge_t (by decide)) ?_
    refine oIconstV K28 62 (-1 : Int32) (d27_61 hby) rfl ?_
    refine oIstore K28 64 (d27_62 hby) (l' := #[.val (.ref x), .val (.int f), .val (.ref t), .val (.int 1), .val (.int 1), .val (.int c1), .val (.int (-1)), .unset]) rfl ?_
    refine oIload K28 66 (d27_64 hby) rfl ?_
    refine oIfNo K28 69 (d27_66 hby) (XT.i0_ge_f (by decide)) ?_
    refine oIconstV K28 70 (-1 : Int32) (d27_69 hby) rfl ?_
    refine oGoto K28 84 (d27_70 hby) ?_
    refine oIstore K28 86 (d27_84 hby) (l' := #[.val (.ref x), .val (.int f), .val (.ref t), .val (.int 1), .val (.int 1), .val (.int c1), .val (.int (-1)), .val (.int (-1))]) rfl ?_
    refine oIload K28 88 (d27_86 hby) rfl ?_
    refine oIfNo K28 91 (d27_88 hby) (XT.i0_ge_f (by decide)) ?_
    refine oAconstNull K28 92 (d27_91 hby) ?_
    exact oRetA K28 [] hret rfl rfl (d27_92 hby) (by decide) (by decide) hlk (fun x hx => by cases hx) (Or.inl ⟨rfl, rfl, (Or.inl hc19)⟩)
  · refine oIcmpYes K18 113 (d27_33 hby) (XT.ii_ne_t hc19) ?_
    refine oIload K18 115 (d27_113 hby) rfl ?_
    refine oBipushV K18 117 (43 : Int32) (d27_115 hby) (by decide) ?_
    by_cases hc29 : c1 = (43 : Int32)
    · refine oIcmpNo K18 120 (d27_117 hby) (XT.ii_ne_f hc29) ?_
      refine oIloadN K18 121 (d27_120 hby) rfl ?_
      by_cases hc30 : f = (0 : Int32)
      · refine oIfYes K18 135 (d27_121 hby) (XT.i0_eq_t hc30) ?_
        refine oIload K18 137 (d27_135 hby) rfl ?_
        refine oSipushV K18 140 (255 : Int32) (d27_137 hby) (by decide) ?_
        by_cases hc31 : (255 : Int32) < c1
        · refine oIcmpNo K18 143 (d27_140 hby) (XT.ii_le_f hc31) ?_
          refine oAconstNull K18 144 (d27_143 hby) ?_
          exact oRetA K18 [] hret rfl rfl (d27_144 hby) (by decide) (by decide) hlk (fun x hx => by cases hx) (Or.inl ⟨rfl, rfl, (Or.inr (own_nok (Or.inl hc30) hc31))⟩)
        · refine oIcmpYes K18 145 (d27_140 hby) (XT.ii_le_t hc31) ?_
          refine oAloadN K18 146 (d27_145 hby) rfl rfl ?_
          refine oIloadN K18 147 (d27_146 hby) rfl ?_
          refine oIinc K18 150 (d27_147 hby) rfl (l' := #[.val (.ref x), .val (.int f), .val (.ref t), .val (.int 2), .val (.int 1), .val (.int c1), .unset, .unset]) rfl ?_
          refine oIload K18 152 (d27_150 hby) rfl ?_
          refine oI2b K18 153 (d27_152 hby) ?_
          refine oBastore K18 154 (by simp) ((P1.keep Kp7 nin0).keep Kp16 nin0) 1 (by decide) (by decide) nlt (nar_byt _) (d27_153 hby) ?_
          intro T36 h32 lo35 K37 W33 A34
          have A38 : Ary Z h32 t .byte [(.int e0), (.int (byt c1))] := A34
          have A39 : Ary Z h32 t .byte [(.int e0), (.int (byt (one f c1)))] := by rw [own_one2 (Or.inl hc30)]; exact A38
          refine oIinc K37 157 (d27_154 hby) rfl (l' := #[.val (.ref x), .val (.int f), .val (.ref t), .val (.int 2), .val (.int 2), .val (.int c1), .unset, .unset]) rfl ?_
          refine oGoto K37 12 (d27_157 hby) ?_
          exact Owe.mono (fun _ _ _ q => by obtain ⟨r, e1, e2, hA⟩ := q; exact Or.inr ⟨r, e1, e2, hA, hc19, (Or.inr hc31)⟩) (sgD2_2_2 l Z a0 z0 fm G x b t f c1 c0 c1 e0 ((byt (one f c1))) hby hret hlk h32 (K37.to 1 2 [t] (q := by simp)) (((P0.keep Kp7 geN).keep Kp16 geN).wr W33 P3) A39 (((P2.keep Kp7).keep Kp16).wr W33) P3 P4 P5 P6 P7)
      · refine oIfNo K18 124 (d27_121 hby) (XT.i0_eq_f hc30) ?_
        refine oAloadN K18 125 (d27_124 hby) rfl rfl ?_
        refine oIloadN K18 126 (d27_125 hby) rfl ?_
        refine oIinc K18 129 (d27_126 hby) rfl (l' := #[.val (.ref x), .val (.int f), .val (.ref t), .val (.int 2), .val (.int 1), .val (.int c1), .unset, .unset]) rfl ?_
        refine oBipushV K18 131 (32 : Int32) (d27_129 hby) (by decide) ?_
        refine oBastore K18 132 (by simp) ((P1.keep Kp7 nin0).keep Kp16 nin0) 1 (by decide) (by decide) nlt (by decide : nar .byte (32 : Int32) = (32 : Int32)) (d27_131 hby) ?_
        intro T44 h40 lo43 K45 W41 A42
        have A46 : Ary Z h40 t .byte [(.int e0), (.int 32)] := A42
        refine oGoto K45 154 (d27_132 hby) ?_
        have A47 : Ary Z h40 t .byte [(.int e0), (.int (byt (one f c1)))] := by rw [own_oneP hc30 hc29]; exact A46
        refine oIinc K45 157 (d27_154 hby) rfl (l' := #[.val (.ref x), .val (.int f), .val (.ref t), .val (.int 2), .val (.int 2), .val (.int c1), .unset, .unset]) rfl ?_
        refine oGoto K45 12 (d27_157 hby) ?_
        exact Owe.mono (fun _ _ _ q => by obtain ⟨r, e1, e2, hA⟩ := q; exact Or.inr ⟨r, e1, e2, hA, hc19, (Or.inl ⟨hc30, hc29⟩)⟩) (sgD2_2_2 l Z a0 z0 fm G x b t f c1 c0 c1 e0 ((byt (one f c1))) hby hret hlk h40 (K45.to 1 2 [t] (q := by simp)) (((P0.keep Kp7 geN).keep Kp16 geN).wr W41 P3) A47 (((P2.keep Kp7).keep Kp16).wr W41) P3 P4 P5 P6 P7)
    · refine oIcmpYes K18 135 (d27_117 hby) (XT.ii_ne_t hc29) ?_
      refine oIload K18 137 (d27_135 hby) rfl ?_
      refine oSipushV K18 140 (255 : Int32) (d27_137 hby) (by decide) ?_
      by_cases hc48 : (255 : Int32) < c1
      · refine oIcmpNo K18 143 (d27_140 hby) (XT.ii_le_f hc48) ?_
        refine oAconstNull K18 144 (d27_143 hby) ?_
        exact oRetA K18 [] hret rfl rfl (d27_144 hby) (by decide) (by decide) hlk (fun x hx => by cases hx) (Or.inl ⟨rfl, rfl, (Or.inr (own_nok (Or.inr hc29) hc48))⟩)
      · refine oIcmpYes K18 145 (d27_140 hby) (XT.ii_le_t hc48) ?_
        refine oAloadN K18 146 (d27_145 hby) rfl rfl ?_
        refine oIloadN K18 147 (d27_146 hby) rfl ?_
        refine oIinc K18 150 (d27_147 hby) rfl (l' := #[.val (.ref x), .val (.int f), .val (.ref t), .val (.int 2), .val (.int 1), .val (.int c1), .unset, .unset]) rfl ?_
        refine oIload K18 152 (d27_150 hby) rfl ?_
        refine oI2b K18 153 (d27_152 hby) ?_
        refine oBastore K18 154 (by simp) ((P1.keep Kp7 nin0).keep Kp16 nin0) 1 (by decide) (by decide) nlt (nar_byt _) (d27_153 hby) ?_
        intro T53 h49 lo52 K54 W50 A51
        have A55 : Ary Z h49 t .byte [(.int e0), (.int (byt c1))] := A51
        have A56 : Ary Z h49 t .byte [(.int e0), (.int (byt (one f c1)))] := by rw [own_one2 (Or.inr hc29)]; exact A55
        refine oIinc K54 157 (d27_154 hby) rfl (l' := #[.val (.ref x), .val (.int f), .val (.ref t), .val (.int 2), .val (.int 2), .val (.int c1), .unset, .unset]) rfl ?_
        refine oGoto K54 12 (d27_157 hby) ?_
        exact Owe.mono (fun _ _ _ q => by obtain ⟨r, e1, e2, hA⟩ := q; exact Or.inr ⟨r, e1, e2, hA, hc19, (Or.inr hc48)⟩) (sgD2_2_2 l Z a0 z0 fm G x b t f c1 c0 c1 e0 ((byt (one f c1))) hby hret hlk h49 (K54.to 1 2 [t] (q := by simp)) (((P0.keep Kp7 geN).keep Kp16 geN).wr W50 P3) A56 (((P2.keep Kp7).keep Kp16).wr W50) P3 P4 P5 P6 P7)
theorem rmDB2 (G : Gl Z a0 z0 fm) (x : Addr) (b : Nat) (f c0 c1 : Int32) (h0 : Heap) (hZh : Ext Z.heap h0) (hsf : Own Z h0 []) (P0 : Str Z h0 b x [c0, c1]) (P1 : ¬ c0 < (0 : Int32)) (P2 : ¬ (65535 : Int32) < c0) (P3 : ¬ c1 < (0 : Int32)) (P4 : ¬ (65535 : Int32) < c1) :
    Ctr l Z ELs yn592 prog_18_method_4_code 8 (some (.array .byte)) [] (rmk 7 6 40 160) #[(.ref x), (.int f)] [] h0 (fun v h fs => (fs = [] ∧ v = some .null ∧ (FO f c0)) ∨ (fs = [] ∧ v = some .null ∧ ¬ c0 = (37 : Int32) ∧ okP f c0 ∧ (FO f c1)) ∨ (∃ r : Addr, fs = [] ∧ v = some (.ref r) ∧ Ary Z h r .byte [(.int (byt (one f c0))), (.int (byt (one f c1)))] ∧ ¬ c0 = (37 : Int32) ∧ okP f c0 ∧ ¬ c1 = (37 : Int32) ∧ okP f c1)) := by
  obtain ⟨hw, hEL, wS, OS, hz0, OA, OH, OL, OF, rfm⟩ := id G
  refine Ctr.intro pn403 hEL hZh hsf ?_
  intro p e s m below meth c s₁ hby hml hret hnm hlk hh K0
  refine Owe.cast (ef591 m x f) ?_
  refine oAloadN K0 1 (d27_0 hby) rfl rfl ?_
  refine oVirtual K0 4 0 (wq hw 56) (wq hw 57) (nfSel (wq hw 59)) (wq hw 59) (wq hw 58) (wq hw 6) (wq hw 60) P0.exa (rmLen2 l Z a0 z0 fm G x b c0 c1 h0 K0.old K0.both P0) [] [] (lenOf pd575 rfl) (d27_1 hby) ?_
  intro T1 h3 v4 lo5 fs6 K2 Kp7 q8
  obtain ⟨rfl, rfl⟩ := q8
  have K9 := K2.to 0 0 []
  refine Owe.stk [(.int 2)] ?_
  refine oNewPE K9 6 (ty := .byte) 2 (wq hw 8) rfl (by decide) (by decide) (by decide) (d27_4 hby) (by decide) (by decide) (ad := "[B") rfl ?_
  intro T15 h10 a11 g12 K16 E13 A14 X17
  have K18 := K16.to 1 2 [a11]
  refine oAstoreN K18 7 (d27_6 hby) rfl (l' := #[.val (.ref x), .val (.int f), .val (.ref a11), .unset, .unset, .unset, .unset, .unset]) rfl ?_
  refine oIconstV K18 8 (0 : Int32) (d27_7 hby) rfl ?_
  refine oIstoreN K18 9 (d27_8 hby) (l' := #[.val (.ref x), .val (.int f), .val (.ref a11), .val (.int 0), .unset, .unset, .unset, .unset]) rfl ?_
  refine oIconstV K18 10 (0 : Int32) (d27_9 hby) rfl ?_
  refine oIstore K18 12 (d27_10 hby) (l' := #[.val (.ref x), .val (.int f), .val (.ref a11), .val (.int 0), .val (.int 0), .unset, .unset, .unset]) rfl ?_
  refine oIload K18 14 (d27_12 hby) rfl ?_
  refine oAloadN K18 15 (d27_14 hby) rfl rfl ?_
  refine oVirtual K18 18 1 (wq hw 56) (wq hw 57) (nfSel (wq hw 59)) (wq hw 59) (wq hw 58) (wq hw 6) (wq hw 60) ((P0.exa.keep Kp7).ext E13) (rmLen2 l Z a0 z0 fm G x b c0 c1 h10 K18.old K18.both ((P0.keep Kp7 geN).ext E13)) [] [(.int 0)] (lenOf pd575 rfl) (d27_15 hby) ?_
  intro T19 h21 v22 lo23 fs24 K20 Kp25 q26
  obtain ⟨rfl, rfl⟩ := q26
  have K27 := K20.to 1 2 [a11]
  refine Owe.stk [(.int 2), (.int 0)] ?_
  refine oIcmpNo K27 21 (d27_18 hby) (XT.ii_ge_f (by decide)) ?_
  refine oAloadN K27 22 (d27_21 hby) rfl rfl ?_
  refine oIload K27 24 (d27_22 hby) rfl ?_
  refine oVirtual K27 27 0 (wq hw 99) (wq hw 14) (nfSel (wq hw 16)) (wq hw 16) (wq hw 15) (wq hw 6) (wq hw 17) (((P0.exa.keep Kp7).ext E13).keep Kp25) (rmCh2_0 l Z a0 z0 fm G x b c0 c1 h21 K27.old K27.both (((P0.keep Kp7 geN).ext E13).keep Kp25 geN) P1 P2) [(.int 0)] [] (lenOf pd329 rfl) (d27_24 hby) ?_
  intro T28 h30 v31 lo32 fs33 K29 Kp34 q35
  obtain ⟨rfl, rfl⟩ := q35
  have K36 := K29.to 1 2 [a11]
  refine Owe.stk [(.int c0)] ?_
  refine oIstore K36 29 (d27_27 hby) (l' := #[.val (.ref x), .val (.int f), .val (.ref a11), .val (.int 0), .val (.int 0), .val (.int c0), .unset, .unset]) rfl ?_
  refine oIload K36 31 (d27_29 hby) rfl ?_
  refine oBipushV K36 33 (37 : Int32) (d27_31 hby) (by decide) ?_
  by_cases hc37 : c0 = (37 : Int32)
  · refine oIcmpNo K36 36 (d27_33 hby) (XT.ii_ne_f hc37) ?_
    refine oIload K36 38 (d27_36 hby) rfl ?_
    refine oIconstV K36 39 (2 : Int32) (d27_38 hby) rfl ?_
    refine oIadd K36 40 (d27_39 hby) ?_
    show Owe _ _ _ _ T28 (mkF m 40 #[.val (.ref x), .val (.int f), .val (.ref a11), .val (.int 0), .val (.int 0), .val (.int c0), .unset, .unset] [(.int 2)])
    refine oAloadN K36 41 (d27_40 hby) rfl rfl ?_
    have F38 := ((((P0.keep Kp7 geN).ext E13).keep Kp25 geN).keep Kp34 geN)
    have F39 := ((((P0.exa.keep Kp7).ext E13).keep Kp25).keep Kp34)
    refine oVirtual K36 44 1 (wq hw 56) (wq hw 57) (nfSel (wq hw 59)) (wq hw 59) (wq hw 58) (wq hw 6) (wq hw 60) F39 (rmLen2 l Z a0 z0 fm G x b c0 c1 h30 K36.old K36.both F38) [] [(.int 2)] (lenOf pd575 rfl) (d27_41 hby) ?_
    intro T40 h42 v43 lo44 fs45 K41 Kp46 q47
    obtain ⟨rfl, rfl⟩ := q47
    have K48 := K41.to 1 2 [a11]
    refine Owe.stk [(.int 2), (.int 2)] ?_
    refine oIcmpYes K48 61 (d27_44 hby) (XT.ii_ge_t (by decide)) ?_
    refine oIconstV K48 62 (-1 : Int32) (d27_61 hby) rfl ?_
    refine oIstore K48 64 (d27_62 hby) (l' := #[.val (.ref x), .val (.int f), .val (.ref a11), .val (.int 0), .val (.int 0), .val (.int c0), .val (.int (-1)), .unset]) rfl ?_
    refine oIload K48 66 (d27_64 hby) rfl ?_
    refine oIfNo K48 69 (d27_66 hby) (XT.i0_ge_f (by decide)) ?_
    refine oIconstV K48 70 (-1 : Int32) (d27_69 hby) rfl ?_
    refine oGoto K48 84 (d27_70 hby) ?_
    refine oIstore K48 86 (d27_84 hby) (l' := #[.val (.ref x), .val (.int f), .val (.ref a11), .val (.int 0), .val (.int 0), .val (.int c0), .val (.int (-1)), .val (.int (-1))]) rfl ?_
    refine oIload K48 88 (d27_86 hby) rfl ?_
    refine oIfNo K48 91 (d27_88 hby) (XT.i0_ge_f (by decide)) ?_
    refine oAconstNull K48 92 (d27_91 hby) ?_
    exact oRetA K48 [] hret rfl rfl (d27_92 hby) (by decide) (by decide) hlk (fun x hx => by cases hx) (Or.inl ⟨rfl, rfl, (Or.inl hc37)⟩)
  · refine oIcmpYes K36 113 (d27_33 hby) (XT.ii_ne_t hc37) ?_
    refine oIload K36 115 (d27_113 hby) rfl ?_
    refine oBipushV K36 117 (43 : Int32) (d27_115 hby) (by decide) ?_
    by_cases hc49 : c0 = (43 : Int32)
    · refine oIcmpNo K36 120 (d27_117 hby) (XT.ii_ne_f hc49) ?_
      refine oIloadN K36 121 (d27_120 hby) rfl ?_
      by_cases hc50 : f = (0 : Int32)
      · refine oIfYes K36 135 (d27_121 hby) (XT.i0_eq_t hc50) ?_
        refine oIload K36 137 (d27_135 hby) rfl ?_
        refine oSipushV K36 140 (255 : Int32) (d27_137 hby) (by decide) ?_
        by_cases hc51 : (255 : Int32) < c0
        · refine oIcmpNo K36 143 (d27_140 hby) (XT.ii_le_f hc51) ?_
          refine oAconstNull K36 144 (d27_143 hby) ?_
          exact oRetA K36 [] hret rfl rfl (d27_144 hby) (by decide) (by decide) hlk (fun x hx => by cases hx) (Or.inl ⟨rfl, rfl, (Or.inr (own_nok (Or.inl hc50) hc51))⟩)
        · refine oIcmpYes K36 145 (d27_140 hby) (XT.ii_le_t hc51) ?_
          refine oAloadN K36 146 (d27_145 hby) rfl rfl ?_
          refine oIloadN K36 147 (d27_146 hby) rfl ?_
          refine oIinc K36 150 (d27_147 hby) rfl (l' := #[.val (.ref x), .val (.int f), .val (.ref a11), .val (.int 1), .val (.int 0), .val (.int c0), .unset, .unset]) rfl ?_
          refine oIload K36 152 (d27_150 hby) rfl ?_
          refine oI2b K36 153 (d27_152 hby) ?_
          refine oBastore K36 154 (by simp) ((A14.keep Kp25 nin0).keep Kp34 nin0) 0 (by decide) (by decide) nlt (nar_byt _) (d27_153 hby) ?_
          intro T56 h52 lo55 K57 W53 A54
          have A58 : Ary Z h52 a11 .byte [(.int (byt c0)), (.int 0)] := A54
          have A59 : Ary Z h52 a11 .byte [(.int (byt (one f c0))), (.int 0)] := by rw [own_one2 (Or.inl hc50)]; exact A58
          refine oIinc K57 157 (d27_154 hby) rfl (l' := #[.val (.ref x), .val (.int f), .val (.ref a11), .val (.int 1), .val (.int 1), .val (.int c0), .unset, .unset]) rfl ?_
          refine oGoto K57 12 (d27_157 hby) ?_
          have F60 := (((((P0.keep Kp7 geN).ext E13).keep Kp25 geN).keep Kp34 geN).wr W53 (Nat.le_trans (P0.keep Kp7 geN).bd (Nat.le_of_eq g12)))
          exact Owe.mono (fun _ _ _ q => by rcases q with ⟨e1, e2, ps⟩ | ⟨r, e1, e2, hA, ps⟩; exact Or.inr (Or.inl ⟨e1, e2, hc37, (Or.inr hc51), ps⟩); exact Or.inr (Or.inr ⟨r, e1, e2, hA, hc37, (Or.inr hc51), ps⟩)) (sgD2_1_1 l Z a0 z0 fm G x b a11 f c0 c0 c1 ((byt (one f c0))) hby hret hlk h52 (K57.to 1 2 [a11] (q := by simp)) F60 A59 (((X17.keep Kp25).keep Kp34).wr W53) (Nat.le_trans (P0.keep Kp7 geN).bd (Nat.le_of_eq g12)) P1 P2 P3 P4)
      · refine oIfNo K36 124 (d27_121 hby) (XT.i0_eq_f hc50) ?_
        refine oAloadN K36 125 (d27_124 hby) rfl rfl ?_
        refine oIloadN K36 126 (d27_125 hby) rfl ?_
        refine oIinc K36 129 (d27_126 hby) rfl (l' := #[.val (.ref x), .val (.int f), .val (.ref a11), .val (.int 1), .val (.int 0), .val (.int c0), .unset, .unset]) rfl ?_
        refine oBipushV K36 131 (32 : Int32) (d27_129 hby) (by decide) ?_
        refine oBastore K36 132 (by simp) ((A14.keep Kp25 nin0).keep Kp34 nin0) 0 (by decide) (by decide) nlt (by decide : nar .byte (32 : Int32) = (32 : Int32)) (d27_131 hby) ?_
        intro T65 h61 lo64 K66 W62 A63
        have A67 : Ary Z h61 a11 .byte [(.int 32), (.int 0)] := A63
        refine oGoto K66 154 (d27_132 hby) ?_
        have A68 : Ary Z h61 a11 .byte [(.int (byt (one f c0))), (.int 0)] := by rw [own_oneP hc50 hc49]; exact A67
        refine oIinc K66 157 (d27_154 hby) rfl (l' := #[.val (.ref x), .val (.int f), .val (.ref a11), .val (.int 1), .val (.int 1), .val (.int c0), .unset, .unset]) rfl ?_
        refine oGoto K66 12 (d27_157 hby) ?_
        have F69 := (((((P0.keep Kp7 geN).ext E13).keep Kp25 geN).keep Kp34 geN).wr W62 (Nat.le_trans (P0.keep Kp7 geN).bd (Nat.le_of_eq g12)))
        exact Owe.mono (fun _ _ _ q => by rcases q with ⟨e1, e2, ps⟩ | ⟨r, e1, e2, hA, ps⟩; exact Or.inr (Or.inl ⟨e1, e2, hc37, (Or.inl ⟨hc50, hc49⟩), ps⟩); exact Or.inr (Or.inr ⟨r, e1, e2, hA, hc37, (Or.inl ⟨hc50, hc49⟩), ps⟩)) (sgD2_1_1 l Z a0 z0 fm G x b a11 f c0 c0 c1 ((byt (one f c0))) hby hret hlk h61 (K66.to 1 2 [a11] (q := by simp)) F69 A68 (((X17.keep Kp25).keep Kp34).wr W62) (Nat.le_trans (P0.keep Kp7 geN).bd (Nat.le_of_eq g12)) P1 P2 P3 P4)
    · refine oIcmpYes K36 135 (d27_117 hby) (XT.ii_ne_t hc49) ?_
      refine oIload K36 137 (d27_135 hby) rfl ?_
      refine oSipushV K36 140 (255 : Int32) (d27_137 hby) (by decide) ?_
      by_cases hc70 : (255 : Int32) < c0
      · refine oIcmpNo K36 143 (d27_140 hby) (XT.ii_le_f hc70) ?_
        refine oAconstNull K36 144 (d27_143 hby) ?_
        exact oRetA K36 [] hret rfl rfl (d27_144 hby) (by decide) (by decide) hlk (fun x hx => by cases hx) (Or.inl ⟨rfl, rfl, (Or.inr (own_nok (Or.inr hc49) hc70))⟩)
      · refine oIcmpYes K36 145 (d27_140 hby) (XT.ii_le_t hc70) ?_
        refine oAloadN K36 146 (d27_145 hby) rfl rfl ?_
        refine oIloadN K36 147 (d27_146 hby) rfl ?_
        refine oIinc K36 150 (d27_147 hby) rfl (l' := #[.val (.ref x), .val (.int f), .val (.ref a11), .val (.int 1), .val (.int 0), .val (.int c0), .unset, .unset]) rfl ?_
        refine oIload K36 152 (d27_150 hby) rfl ?_
        refine oI2b K36 153 (d27_152 hby) ?_
        refine oBastore K36 154 (by simp) ((A14.keep Kp25 nin0).keep Kp34 nin0) 0 (by decide) (by decide) nlt (nar_byt _) (d27_153 hby) ?_
        intro T75 h71 lo74 K76 W72 A73
        have A77 : Ary Z h71 a11 .byte [(.int (byt c0)), (.int 0)] := A73
        have A78 : Ary Z h71 a11 .byte [(.int (byt (one f c0))), (.int 0)] := by rw [own_one2 (Or.inr hc49)]; exact A77
        refine oIinc K76 157 (d27_154 hby) rfl (l' := #[.val (.ref x), .val (.int f), .val (.ref a11), .val (.int 1), .val (.int 1), .val (.int c0), .unset, .unset]) rfl ?_
        refine oGoto K76 12 (d27_157 hby) ?_
        have F79 := (((((P0.keep Kp7 geN).ext E13).keep Kp25 geN).keep Kp34 geN).wr W72 (Nat.le_trans (P0.keep Kp7 geN).bd (Nat.le_of_eq g12)))
        exact Owe.mono (fun _ _ _ q => by rcases q with ⟨e1, e2, ps⟩ | ⟨r, e1, e2, hA, ps⟩; exact Or.inr (Or.inl ⟨e1, e2, hc37, (Or.inr hc70), ps⟩); exact Or.inr (Or.inr ⟨r, e1, e2, hA, hc37, (Or.inr hc70), ps⟩)) (sgD2_1_1 l Z a0 z0 fm G x b a11 f c0 c0 c1 ((byt (one f c0))) hby hret hlk h71 (K76.to 1 2 [a11] (q := by simp)) F79 A78 (((X17.keep Kp25).keep Kp34).wr W72) (Nat.le_trans (P0.keep Kp7 geN).bd (Nat.le_of_eq g12)) P1 P2 P3 P4)
theorem sgD3_3_3 (G : Gl Z a0 z0 fm) (x : Addr) (b : Nat) (t : Addr) (f q5 c0 c1 c2 e0 e1 e2 : Int32) (hby : c.code = prog_18_method_4_code) (hret : meth.sig.returnType = (some (.array .byte))) (hlk : meth.locks = false) (h0 : Heap)
    (K0 : Wk p l e (rmk 7 6 40 160) s m #[(.ref x), (.int f)] below meth c Z a0 ELs "com/example/paredown/paredown/PercentEncoding" 8 [] [t] T0 lo0 1 3 h0) (P0 : Str Z h0 b x [c0, c1, c2]) (P1 : Ary Z h0 t .byte [(.int e0), (.int e1), (.int e2)]) (P2 : Exa Z h0 t "[B") (P3 : b ≤ t) (P4 : ¬ c0 < (0 : Int32)) (P5 : ¬ (65535 : Int32) < c0) (P6 : ¬ c1 < (0 : Int32)) (P7 : ¬ (65535 : Int32) < c1) (P8 : ¬ c2 < (0 : Int32)) (P9 : ¬ (65535 : Int32) < c2) :
    Owe p e below (PostW Z ELs [] (rmk 7 6 40 160) (fun v h fs => (∃ r : Addr, fs = [] ∧ v = some (.ref r) ∧ Ary Z h r .byte [(.int e0), (.int e1), (.int e2)])) s) T0 (mkF m 12 #[.val (.ref x), .val (.int f), .val (.ref t), .val (.int 3), .val (.int 3), .val (.int q5), .unset, .unset] []) := by
  obtain ⟨hw, hEL, wS, OS, hz0, OA, OH, OL, OF, rfm⟩ := id G
  refine oIload K0 14 (d27_12 hby) rfl ?_
  refine oAloadN K0 15 (d27_14 hby) rfl rfl ?_
  refine oVirtual K0 18 1 (wq hw 56) (wq hw 57) (nfSel (wq hw 59)) (wq hw 59) (wq hw 58) (wq hw 6) (wq hw 60) P0.exa (rmLen3 l Z a0 z0 fm G x b c0 c1 c2 h0 K0.old K0.both P0) [] [(.int 3)] (lenOf pd575 rfl) (d27_15 hby) ?_
  intro T1 h3 v4 lo5 fs6 K2 Kp7 q8
  obtain ⟨rfl, rfl⟩ := q8
  have K9 := K2.to 1 3 [t]
  refine Owe.stk [(.int 3), (.int 3)] ?_
  refine oIcmpYes K9 160 (d27_18 hby) (XT.ii_ge_t (by decide)) ?_
  refine oAloadN K9 161 (d27_160 hby) rfl rfl ?_
  refine oIloadN K9 162 (d27_161 hby) rfl ?_
  refine oStatic K9 165 0 (wq hw 66) (wq hw 67) (wq hw 68) (wq hw 69) (rmCopy3_3 l Z a0 z0 fm G t e0 e1 e2 h3 K9.old K9.both (P1.keep Kp7 nin0) (P2.keep Kp7)) [(.ref t), (.int 3)] [] (lenOf pd589 rfl) (d27_162 hby) ?_
  intro T10 h12 v13 lo14 fs15 K11 Kp16 q17
  obtain ⟨r18, rfl, rfl, f19⟩ := q17
  have K20 := K11.to 2 6 [t]
  refine Owe.stk [(.ref r18)] ?_
  exact oRetA K20 [] hret rfl rfl (d27_165 hby) (by decide) (by decide) hlk (fun x hx => by cases hx) ⟨r18, rfl, rfl, f19⟩
theorem sgD3_2_2 (G : Gl Z a0 z0 fm) (x : Addr) (b : Nat) (t : Addr) (f q5 c0 c1 c2 e0 e1 : Int32) (hby : c.code = prog_18_method_4_code) (hret : meth.sig.returnType = (some (.array .byte))) (hlk : meth.locks = false) (h0 : Heap)
    (K0 : Wk p l e (rmk 7 6 40 160) s m #[(.ref x), (.int f)] below meth c Z a0 ELs "com/example/paredown/paredown/PercentEncoding" 8 [] [t] T0 lo0 1 3 h0) (P0 : Str Z h0 b x [c0, c1, c2]) (P1 : Ary Z h0 t .byte [(.int e0), (.int e1), (.int 0)]) (P2 : Exa Z h0 t "[B") (P3 : b ≤ t) (P4 : ¬ c0 < (0 : Int32)) (P5 : ¬ (65535 : Int32) < c0) (P6 : ¬ c1 < (0 : Int32)) (P7 : ¬ (65535 : Int32) < c1) (P8 : ¬ c2 < (0 : Int32)) (P9 : ¬ (65535 : Int32) < c2) :
    Owe p e below (PostW Z ELs [] (rmk 7 6 40 160) (fun v h fs => (fs = [] ∧ v = some .null ∧ (FO f c2)) ∨ (∃ r : Addr, fs = [] ∧ v = some (.ref r) ∧ Ary Z h r .byte [(.int e0), (.int e1), (.int (byt (one f c2)))] ∧ ¬ c2 = (37 : Int32) ∧ okP f c2)) s) T0 (mkF m 12 #[.val (.ref x), .val (.int f), .val (.ref t), .val (.int 2), .val (.int 2), .val (.int q5), .unset, .unset] []) := by
  obtain ⟨hw, hEL, wS, OS, hz0, OA, OH, OL, OF, rfm⟩ := id G
  refine oIload K0 14 (d27_12 hby) rfl ?_
  refine oAloadN K0 15 (d27_14 hby) rfl rfl ?_
  refine oVirtual K0 18 1 (wq hw 56) (wq hw 57) (nfSel (wq hw 59)) (wq hw 59) (wq hw 58) (wq hw 6) (wq hw 60) P0.exa (rmLen3 l Z a0 z0 fm G x b c0 c1 c2 h0 K0.old K0.both P0) [] [(.int 2)] (lenOf pd575 rfl) (d27_15 hby) ?_
  intro T1 h3 v4 lo5 fs6 K2 Kp7 q8
  obtain ⟨rfl, rfl⟩ := q8
  have K9 := K2.to 1 3 [t]
  refine Owe.stk [(.int 3), (.int 2)] ?_
  refine oIcmpNo K9 21 (d27_18 hby) (XT.ii_ge_f (by decide)) ?_
  refine oAloadN K9 22 (d27_21 hby) rfl rfl ?_
  refine oIload K9 24 (d27_22 hby) rfl ?_
  refine oVirtual K9 27 0 (wq hw 99) (wq hw 14) (nfSel (wq hw 16)) (wq hw 16) (wq hw 15) (wq hw 6) (wq hw 17) (P0.exa.keep Kp7) (rmCh3_2 l Z a0 z0 fm G x b c0 c1 c2 h3 K9.old K9.both (P0.keep Kp7 geN) P8 P9) [(.int 2)] [] (lenOf pd329 rfl) (d27_24 hby) ?_
  intro T10 h12 v13 lo14 fs15 K11 Kp16 q17
  obtain ⟨rfl, rfl⟩ := q17
  have K18 := K11.to 1 3 [t]
  refine Owe.stk [(.int c2)] ?_
  refine oIstore K18 29 (d27_27 hby) (l' := #[.val (.ref x), .val (.int f), .val (.ref t), .val (.int 2), .val (.int 2), .val (.int c2), .unset, .unset]) rfl ?_
  refine oIload K18 31 (d27_29 hby) rfl ?_
  refine oBipushV K18 33 (37 : Int32) (d27_31 hby) (by decide) ?_
  by_cases hc19 : c2 = (37 : Int32)
  · refine oIcmpNo K18 36 (d27_33 hby) (XT.ii_ne_f hc19) ?_
    refine oIload K18 38 (d27_36 hby) rfl ?_
    refine oIconstV K18 39 (2 : Int32) (d27_38 hby) rfl ?_
    refine oIadd K18 40 (d27_39 hby) ?_
    show Owe _ _ _ _ T10 (mkF m 40 #[.val (.ref x), .val (.int f), .val (.ref t), .val (.int 2), .val (.int 2), .val (.int c2), .unset, .unset] [(.int 4)])
    refine oAloadN K18 41 (d27_40 hby) rfl rfl ?_
    refine oVirtual K18 44 1 (wq hw 56) (wq hw 57) (nfSel (wq hw 59)) (wq hw 59) (wq hw 58) (wq hw 6) (wq hw 60) ((P0.exa.keep Kp7).keep Kp16) (rmLen3 l Z a0 z0 fm G x b c0 c1 c2 h12 K18.old K18.both ((P0.keep Kp7 geN).keep Kp16 geN)) [] [(.int 4)] (lenOf pd575 rfl) (d27_41 hby) ?_
    intro T20 h22 v23 lo24 fs25 K21 Kp26 q27
    obtain ⟨rfl, rfl⟩ := q27
    have K28 := K21.to 1 3 [t]
    refine Owe.stk [(.int 3), (.int 4)] ?_
    refine oIcmpYes K28 61 (d27_44 hby) (XT.ii_ge_t (by decide)) ?_
    refine oIconstV K28 62 (-1 : Int32) (d27_61 hby) rfl ?_
    refine oIstore K28 64 (d27_62 hby) (l' := #[.val (.ref x), .val (.int f), .val (.ref t), .val (.int 2), .val (.int 2), .val (.int c2), .val (.int (-1)), .unset]) rfl ?_
    refine oIload K28 66 (d27_64 hby) rfl ?_
    refine oIfNo K28 69 (d27_66 hby) (XT.i0_ge_f (by decide)) ?_
    refine oIconstV K28 70 (-1 : Int32) (d27_69 hby) rfl ?_
    refine oGoto K28 84 (d27_70 hby) ?_
    refine oIstore K28 86 (d27_84 hby) (l' := #[.val (.ref x), .val (.int f), .val (.ref t), .val (.int 2), .val (.int 2), .val (.int c2), .val (.int (-1)), .val (.int (-1))]) rfl ?_
    refine oIload K28 88 (d27_86 hby) rfl ?_
    refine oIfNo K28 91 (d27_88 hby) (XT.i0_ge_f (by decide)) ?_
    refine oAconstNull K28 92 (d27_91 hby) ?_
    exact oRetA K28 [] hret rfl rfl (d27_92 hby) (by decide) (by decide) hlk (fun x hx => by cases hx) (Or.inl ⟨rfl, rfl, (Or.inl hc19)⟩)
  · refine oIcmpYes K18 113 (d27_33 hby) (XT.ii_ne_t hc19) ?_
    refine oIload K18 115 (d27_113 hby) rfl ?_
    refine oBipushV K18 117 (43 : Int32) (d27_115 hby) (by decide) ?_
    by_cases hc29 : c2 = (43 : Int32)
    · refine oIcmpNo K18 120 (d27_117 hby) (XT.ii_ne_f hc29) ?_
      refine oIloadN K18 121 (d27_120 hby) rfl ?_
      by_cases hc30 : f = (0 : Int32)
      · refine oIfYes K18 135 (d27_121 hby) (XT.i0_eq_t hc30) ?_
        refine oIload K18 137 (d27_135 hby) rfl ?_
        refine oSipushV K18 140 (255 : Int32) (d27_137 hby) (by decide) ?_
        by_cases hc31 : (255 : Int32) < c2
        · refine oIcmpNo K18 143 (d27_140 hby) (XT.ii_le_f hc31) ?_
          refine oAconstNull K18 144 (d27_143 hby) ?_
          exact oRetA K18 [] hret rfl rfl (d27_144 hby) (by decide) (by decide) hlk (fun x hx => by cases hx) (Or.inl ⟨rfl, rfl, (Or.inr (own_nok (Or.inl hc30) hc31))⟩)
        · refine oIcmpYes K18 145 (d27_140 hby) (XT.ii_le_t hc31) ?_
          refine oAloadN K18 146 (d27_145 hby) rfl rfl ?_
          refine oIloadN K18 147 (d27_146 hby) rfl ?_
          refine oIinc K18 150 (d27_147 hby) rfl (l' := #[.val (.ref x), .val (.int f), .val (.ref t), .val (.int 3), .val (.int 2), .val (.int c2), .unset, .unset]) rfl ?_
          refine oIload K18 152 (d27_150 hby) rfl ?_
          refine oI2b K18 153 (d27_152 hby) ?_
          refine oBastore K18 154 (by simp) ((P1.keep Kp7 nin0).keep Kp16 nin0) 2 (by decide) (by decide) nlt (nar_byt _) (d27_153 hby) ?_
          intro T36 h32 lo35 K37 W33 A34
          have A38 : Ary Z h32 t .byte [(.int e0), (.int e1), (.int (byt c2))] := A34
          have A39 : Ary Z h32 t .byte [(.int e0), (.int e1), (.int (byt (one f c2)))] := by rw [own_one2 (Or.inl hc30)]; exact A38
          refine oIinc K37 157 (d27_154 hby) rfl (l' := #[.val (.ref x), .val (.int f), .val (.ref t), .val (.int 3), .val (.int 3), .val (.int c2), .unset, .unset]) rfl ?_
          refine oGoto K37 12 (d27_157 hby) ?_
          exact Owe.mono (fun _ _ _ q => by obtain ⟨r, e1, e2, hA⟩ := q; exact Or.inr ⟨r, e1, e2, hA, hc19, (Or.inr hc31)⟩) (sgD3_3_3 l Z a0 z0 fm G x b t f c2 c0 c1 c2 e0 e1 ((byt (one f c2))) hby hret hlk h32 (K37.to 1 3 [t] (q := by simp)) (((P0.keep Kp7 geN).keep Kp16 geN).wr W33 P3) A39 (((P2.keep Kp7).keep Kp16).wr W33) P3 P4 P5 P6 P7 P8 P9)
      · refine oIfNo K18 124 (d27_121 hby) (XT.i0_eq_f hc30) ?_
        refine oAloadN K18 125 (d27_124 hby) rfl rfl ?_
        refine oIloadN K18 126 (d27_125 hby) rfl ?_
        refine oIinc K18 129 (d27_126 hby) rfl (l' := #[.val (.ref x), .val (.int f), .val (.ref t), .val (.int 3), .val (.int 2), .val (.int c2), .unset, .unset]) rfl ?_
        refine oBipushV K18 131 (32 : Int32) (d27_129 hby) (by decide) ?_
        refine oBastore K18 132 (by simp) ((P1.keep Kp7 nin0).keep Kp16 nin0) 2 (by decide) (by decide) nlt (by decide : nar .byte (32 : Int32) = (32 : Int32)) (d27_131 hby) ?_
        intro T44 h40 lo43 K45 W41 A42
        have A46 : Ary Z h40 t .byte [(.int e0), (.int e1), (.int 32)] := A42
        refine oGoto K45 154 (d27_132 hby) ?_
        have A47 : Ary Z h40 t .byte [(.int e0), (.int e1), (.int (byt (one f c2)))] := by rw [own_oneP hc30 hc29]; exact A46
        refine oIinc K45 157 (d27_154 hby) rfl (l' := #[.val (.ref x), .val (.int f), .val (.ref t), .val (.int 3), .val (.int 3), .val (.int c2), .unset, .unset]) rfl ?_
        refine oGoto K45 12 (d27_157 hby) ?_
        exact Owe.mono (fun _ _ _ q => by obtain ⟨r, e1, e2, hA⟩ := q; exact Or.inr ⟨r, e1, e2, hA, hc19, (Or.inl ⟨hc30, hc29⟩)⟩) (sgD3_3_3 l Z a0 z0 fm G x b t f c2 c0 c1 c2 e0 e1 ((byt (one f c2))) hby hret hlk h40 (K45.to 1 3 [t] (q := by simp)) (((P0.keep Kp7 geN).keep Kp16 geN).wr W41 P3) A47 (((P2.keep Kp7).keep Kp16).wr W41) P3 P4 P5 P6 P7 P8 P9)
    · refine oIcmpYes K18 135 (d27_117 hby) (XT.ii_ne_t hc29) ?_
      refine oIload K18 137 (d27_135 hby) rfl ?_
      refine oSipushV K18 140 (255 : Int32) (d27_137 hby) (by decide) ?_
      by_cases hc48 : (255 : Int32) < c2
      · refine oIcmpNo K18 143 (d27_140 hby) (XT.ii_le_f hc48) ?_
        refine oAconstNull K18 144 (d27_143 hby) ?_
        exact oRetA K18 [] hret rfl rfl (d27_144 hby) (by decide) (by decide) hlk (fun x hx => by cases hx) (Or.inl ⟨rfl, rfl, (Or.inr (own_nok (Or.inr hc29) hc48))⟩)
      · refine oIcmpYes K18 145 (d27_140 hby) (XT.ii_le_t hc48) ?_
        refine oAloadN K18 146 (d27_145 hby) rfl rfl ?_
        refine oIloadN K18 147 (d27_146 hby) rfl ?_
        refine oIinc K18 150 (d27_147 hby) rfl (l' := #[.val (.ref x), .val (.int f), .val (.ref t), .val (.int 3), .val (.int 2), .val (.int c2), .unset, .unset]) rfl ?_
        refine oIload K18 152 (d27_150 hby) rfl ?_
        refine oI2b K18 153 (d27_152 hby) ?_
        refine oBastore K18 154 (by simp) ((P1.keep Kp7 nin0).keep Kp16 nin0) 2 (by decide) (by decide) nlt (nar_byt _) (d27_153 hby) ?_
        intro T53 h49 lo52 K54 W50 A51
        have A55 : Ary Z h49 t .byte [(.int e0), (.int e1), (.int (byt c2))] := A51
        have A56 : Ary Z h49 t .byte [(.int e0), (.int e1), (.int (byt (one f c2)))] := by rw [own_one2 (Or.inr hc29)]; exact A55
        refine oIinc K54 157 (d27_154 hby) rfl (l' := #[.val (.ref x), .val (.int f), .val (.ref t), .val (.int 3), .val (.int 3), .val (.int c2), .unset, .unset]) rfl ?_
        refine oGoto K54 12 (d27_157 hby) ?_
        exact Owe.mono (fun _ _ _ q => by obtain ⟨r, e1, e2, hA⟩ := q; exact Or.inr ⟨r, e1, e2, hA, hc19, (Or.inr hc48)⟩) (sgD3_3_3 l Z a0 z0 fm G x b t f c2 c0 c1 c2 e0 e1 ((byt (one f c2))) hby hret hlk h49 (K54.to 1 3 [t] (q := by simp)) (((P0.keep Kp7 geN).keep Kp16 geN).wr W50 P3) A56 (((P2.keep Kp7).keep Kp16).wr W50) P3 P4 P5 P6 P7 P8 P9)
theorem sgD3_1_1 (G : Gl Z a0 z0 fm) (x : Addr) (b : Nat) (t : Addr) (f q5 c0 c1 c2 e0 : Int32) (hby : c.code = prog_18_method_4_code) (hret : meth.sig.returnType = (some (.array .byte))) (hlk : meth.locks = false) (h0 : Heap)
    (K0 : Wk p l e (rmk 7 6 40 160) s m #[(.ref x), (.int f)] below meth c Z a0 ELs "com/example/paredown/paredown/PercentEncoding" 8 [] [t] T0 lo0 1 3 h0) (P0 : Str Z h0 b x [c0, c1, c2]) (P1 : Ary Z h0 t .byte [(.int e0), (.int 0), (.int 0)]) (P2 : Exa Z h0 t "[B") (P3 : b ≤ t) (P4 : ¬ c0 < (0 : Int32)) (P5 : ¬ (65535 : Int32) < c0) (P6 : ¬ c1 < (0 : Int32)) (P7 : ¬ (65535 : Int32) < c1) (P8 : ¬ c2 < (0 : Int32)) (P9 : ¬ (65535 : Int32) < c2) :
    Owe p e below (PostW Z ELs [] (rmk 7 6 40 160) (fun v h fs => (fs = [] ∧ v = some .null ∧ (FO f c1)) ∨ (fs = [] ∧ v = some .null ∧ ¬ c1 = (37 : Int32) ∧ okP f c1 ∧ (FO f c2)) ∨ (∃ r : Addr, fs = [] ∧ v = some (.ref r) ∧ Ary Z h r .byte [(.int e0), (.int (byt (one f c1))), (.int (byt (one f c2)))] ∧ ¬ c1 = (37 : Int32) ∧ okP f c1 ∧ ¬ c2 = (37 : Int32) ∧ okP f c2)) s) T0 (mkF m 12 #[.val (.ref x), .val (.int f), .val (.ref t), .val (.int 1), .val (.int 1), .val (.int q5), .unset, .unset] []) := by
  obtain ⟨hw, hEL, wS, OS, hz0, OA, OH, OL, OF, rfm⟩ := id G
  refine oIload K0 14 (d27_12 hby) rfl ?_
  refine oAloadN K0 15 (d27_14 hby) rfl rfl ?_
  refine oVirtual K0 18 1 (wq hw 56) (wq hw 57) (nfSel (wq hw 59)) (wq hw 59) (wq hw 58) (wq hw 6) (wq hw 60) P0.exa (rmLen3 l Z a0 z0 fm G x b c0 c1 c2 h0 K0.old K0.both P0) [] [(.int 1)] (lenOf pd575 rfl) (d27_15 hby) ?_
  intro T1 h3 v4 lo5 fs6 K2 Kp7 q8
  obtain ⟨rfl, rfl⟩ := q8
  have K9 := K2.to 1 3 [t]
  refine Owe.stk [(.int 3), (.int 1)] ?_
  refine oIcmpNo K9 21 (d27_18 hby) (XT.ii_ge_f (by decide)) ?_
  refine oAloadN K9 22 (d27_21 hby) rfl rfl ?_
  refine oIload K9 24 (d27_22 hby) rfl ?_
  refine oVirtual K9 27 0 (wq hw 99) (wq hw 14) (nfSel (wq hw 16)) (wq hw 16) (wq hw 15) (wq hw 6) (wq hw 17) (P0.exa.keep Kp7) (rmCh3_1 l Z a0 z0 fm G x b c0 c1 c2 h3 K9.old K9.both (P0.keep Kp7 geN) P6 P7) [(.int 1)] [] (lenOf pd329 rfl) (d27_24 hby) ?_
  intro T10 h12 v13 lo14 fs15 K11 Kp16 q17
  obtain ⟨rfl, rfl⟩ := q17
  have K18 := K11.to 1 3 [t]
  refine Owe.stk [(.int c1)] ?_
  refine oIstore K18 29 (d27_27 hby) (l' := #[.val (.ref x), .val (.int f), .val (.ref t), .val (.int 1), .val (.int 1), .val (.int c1), .unset, .unset]) rfl ?_
  refine oIload K18 31 (d27_29 hby) rfl ?_
  refine oBipushV K18 33 (37 : Int32) (d27_31 hby) (by decide) ?_
  by_cases hc19 : c1 = (37 : Int32)
  · refine oIcmpNo K18 36 (d27_33 hby) (XT.ii_ne_f hc19) ?_
    refine oIload K18 38 (d27_36 hby) rfl ?_
    refine oIconstV K18 39 (2 : Int32) (d27_38 hby) rfl ?_
    refine oIadd K18 40 (d27_39 hby) ?_
    show Owe _ _ _ _ T10 (mkF m 40 #[.val (.ref x), .val (.int f), .val (.ref t), .val (.int 1), .val (.int 1), .val (.int c1), .unset, .unset] [(.int 3)])
    refine oAloadN K18 41 (d27_40 hby) rfl rfl ?_
    refine oVirtual K18 44 1 (wq hw 56) (wq hw 57) (nfSel (wq hw 59)) (wq hw 59) (wq hw 58) (wq hw 6) (wq hw 60) ((P0.exa.keep Kp7).keep Kp16) (rmLen3 l Z a0 z0 fm G x b c0 c1 c2 h12 K18.old K18.both ((P0.keep Kp7 geN).keep Kp16 geN)) [] [(.int 3)] (lenOf pd575 rfl) (d27_41 hby) ?_
    intro T20 h22 v23 lo24 fs25 K21 Kp26 q27
    obtain ⟨rfl, rfl⟩ := q27
    have K28 := K21.to 1 3 [t]
    refine Owe.stk [(.int 3), (.int 3)] ?_
    refine oIcmpYes K28 61 (d27_44 hby) (XT.ii_ge_t (by decide)) ?_
    refine oIconstV K28 62 (-1 : Int32) (d27_61 hby) rfl ?_
    refine oIstore K28 64 (d27_62 hby) (l' := #[.val (.ref x), .val (.int f), .val (.ref t), .val (.int 1), .val (.int 1), .val (.int c1), .val (.int (-1)), .unset]) rfl ?_
    refine oIload K28 66 (d27_64 hby) rfl ?_
    refine oIfNo K28 69 (d27_66 hby) (XT.i0_ge_f (by decide)) ?_
    refine oIconstV K28 70 (-1 : Int32) (d27_69 hby) rfl ?_
    refine oGoto K28 84 (d27_70 hby) ?_
    refine oIstore K28 86 (d27_84 hby) (l' := #[.val (.ref x), .val (.int f), .val (.ref t), .val (.int 1), .val (.int 1), .val (.int c1), .val (.int (-1)), .val (.int (-1))]) rfl ?_
    refine oIload K28 88 (d27_86 hby) rfl ?_
    refine oIfNo K28 91 (d27_88 hby) (XT.i0_ge_f (by decide)) ?_
    refine oAconstNull K28 92 (d27_91 hby) ?_
    exact oRetA K28 [] hret rfl rfl (d27_92 hby) (by decide) (by decide) hlk (fun x hx => by cases hx) (Or.inl ⟨rfl, rfl, (Or.inl hc19)⟩)
  · refine oIcmpYes K18 113 (d27_33 hby) (XT.ii_ne_t hc19) ?_
    refine oIload K18 115 (d27_113 hby) rfl ?_
    refine oBipushV K18 117 (43 : Int32) (d27_115 hby) (by decide) ?_
    by_cases hc29 : c1 = (43 : Int32)
    · refine oIcmpNo K18 120 (d27_117 hby) (XT.ii_ne_f hc29) ?_
      refine oIloadN K18 121 (d27_120 hby) rfl ?_
      by_cases hc30 : f = (0 : Int32)
      · refine oIfYes K18 135 (d27_121 hby) (XT.i0_eq_t hc30) ?_
        refine oIload K18 137 (d27_135 hby) rfl ?_
        refine oSipushV K18 140 (255 : Int32) (d27_137 hby) (by decide) ?_
        by_cases hc31 : (255 : Int32) < c1
        · refine oIcmpNo K18 143 (d27_140 hby) (XT.ii_le_f hc31) ?_
          refine oAconstNull K18 144 (d27_143 hby) ?_
          exact oRetA K18 [] hret rfl rfl (d27_144 hby) (by decide) (by decide) hlk (fun x hx => by cases hx) (Or.inl ⟨rfl, rfl, (Or.inr (own_nok (Or.inl hc30) hc31))⟩)
        · refine oIcmpYes K18 145 (d27_140 hby) (XT.ii_le_t hc31) ?_
          refine oAloadN K18 146 (d27_145 hby) rfl rfl ?_
          refine oIloadN K18 147 (d27_146 hby) rfl ?_
          refine oIinc K18 150 (d27_147 hby) rfl (l' := #[.val (.ref x), .val (.int f), .val (.ref t), .val (.int 2), .val (.int 1), .val (.int c1), .unset, .unset]) rfl ?_
          refine oIload K18 152 (d27_150 hby) rfl ?_
          refine oI2b K18 153 (d27_152 hby) ?_
          refine oBastore K18 154 (by simp) ((P1.keep Kp7 nin0).keep Kp16 nin0) 1 (by decide) (by decide) nlt (nar_byt _) (d27_153 hby) ?_
          intro T36 h32 lo35 K37 W33 A34
          have A38 : Ary Z h32 t .byte [(.int e0), (.int (byt c1)), (.int 0)] := A34
          have A39 : Ary Z h32 t .byte [(.int e0), (.int (byt (one f c1))), (.int 0)] := by rw [own_one2 (Or.inl hc30)]; exact A38
          refine oIinc K37 157 (d27_154 hby) rfl (l' := #[.val (.ref x), .val (.int f), .val (.ref t), .val (.int 2), .val (.int 2), .val (.int c1), .unset, .unset]) rfl ?_
          refine oGoto K37 12 (d27_157 hby) ?_
          exact Owe.mono (fun _ _ _ q => by rcases q with ⟨e1, e2, ps⟩ | ⟨r, e1, e2, hA, ps⟩; exact Or.inr (Or.inl ⟨e1, e2, hc19, (Or.inr hc31), ps⟩); exact Or.inr (Or.inr ⟨r, e1, e2, hA, hc19, (Or.inr hc31), ps⟩)) (sgD3_2_2 l Z a0 z0 fm G x b t f c1 c0 c1 c2 e0 ((byt (one f c1))) hby hret hlk h32 (K37.to 1 3 [t] (q := by simp)) (((P0.keep Kp7 geN).keep Kp16 geN).wr W33 P3) A39 (((P2.keep Kp7).keep Kp16).wr W33) P3 P4 P5 P6 P7 P8 P9)
      · refine oIfNo K18 124 (d27_121 hby) (XT.i0_eq_f hc30) ?_
        refine oAloadN K18 125 (d27_124 hby) rfl rfl ?_
        refine oIloadN K18 126 (d27_125 hby) rfl ?_
        refine oIinc K18 129 (d27_126 hby) rfl (l' := #[.val (.ref x), .val (.int f), .val (.ref t), .val (.int 2), .val (.int 1), .val (.int c1), .unset, .unset]) rfl ?_
        refine oBipushV K18 131 (32 : Int32) (d27_129 hby) (by decide) ?_
        refine oBastore K18 132 (by simp) ((P1.keep Kp7 nin0).keep Kp16 nin0) 1 (by decide) (by decide) nlt (by decide : nar .byte (32 : Int32) = (32 : Int32)) (d27_131 hby) ?_
        intro T44 h40 lo43 K45 W41 A42
        have A46 : Ary Z h40 t .byte [(.int e0), (.int 32), (.int 0)] := A42
        refine oGoto K45 154 (d27_132 hby) ?_
        have A47 : Ary Z h40 t .byte [(.int e0), (.int (byt (one f c1))), (.int 0)] := by rw [own_oneP hc30 hc29]; exact A46
        refine oIinc K45 157 (d27_154 hby) rfl (l' := #[.val (.ref x), .val (.int f), .val (.ref t), .val (.int 2), .val (.int 2), .val (.int c1), .unset, .unset]) rfl ?_
        refine oGoto K45 12 (d27_157 hby) ?_
        exact Owe.mono (fun _ _ _ q => by rcases q with ⟨e1, e2, ps⟩ | ⟨r, e1, e2, hA, ps⟩; exact Or.inr (Or.inl ⟨e1, e2, hc19, (Or.inl ⟨hc30, hc29⟩), ps⟩); exact Or.inr (Or.inr ⟨r, e1, e2, hA, hc19, (Or.inl ⟨hc30, hc29⟩), ps⟩)) (sgD3_2_2 l Z a0 z0 fm G x b t f c1 c0 c1 c2 e0 ((byt (one f c1))) hby hret hlk h40 (K45.to 1 3 [t] (q := by simp)) (((P0.keep Kp7 geN).keep Kp16 geN).wr W41 P3) A47 (((P2.keep Kp7).keep Kp16).wr W41) P3 P4 P5 P6 P7 P8 P9)
    · refine oIcmpYes K18 135 (d27_117 hby) (XT.ii_ne_t hc29) ?_
      refine oIload K18 137 (d27_135 hby) rfl ?_
      refine oSipushV K18 140 (255 : Int32) (d27_137 hby) (by decide) ?_
      by_cases hc48 : (255 : Int32) < c1
      · refine oIcmpNo K18 143 (d27_140 hby) (XT.ii_le_f hc48) ?_
        refine oAconstNull K18 144 (d27_143 hby) ?_
        exact oRetA K18 [] hret rfl rfl (d27_144 hby) (by decide) (by decide) hlk (fun x hx => by cases hx) (Or.inl ⟨rfl, rfl, (Or.inr (own_nok (Or.inr hc29) hc48))⟩)
      · refine oIcmpYes K18 145 (d27_140 hby) (XT.ii_le_t hc48) ?_
        refine oAloadN K18 146 (d27_145 hby) rfl rfl ?_
        refine oIloadN K18 147 (d27_146 hby) rfl ?_
        refine oIinc K18 150 (d27_147 hby) rfl (l' := #[.val (.ref x), .val (.int f), .val (.ref t), .val (.int 2), .val (.int 1), .val (.int c1), .unset, .unset]) rfl ?_
        refine oIload K18 152 (d27_150 hby) rfl ?_
        refine oI2b K18 153 (d27_152 hby) ?_
        refine oBastore K18 154 (by simp) ((P1.keep Kp7 nin0).keep Kp16 nin0) 1 (by decide) (by decide) nlt (nar_byt _) (d27_153 hby) ?_
        intro T53 h49 lo52 K54 W50 A51
        have A55 : Ary Z h49 t .byte [(.int e0), (.int (byt c1)), (.int 0)] := A51
        have A56 : Ary Z h49 t .byte [(.int e0), (.int (byt (one f c1))), (.int 0)] := by rw [own_one2 (Or.inr hc29)]; exact A55
        refine oIinc K54 157 (d27_154 hby) rfl (l' := #[.val (.ref x), .val (.int f), .val (.ref t), .val (.int 2), .val (.int 2), .val (.int c1), .unset, .unset]) rfl ?_
        refine oGoto K54 12 (d27_157 hby) ?_
        exact Owe.mono (fun _ _ _ q => by rcases q with ⟨e1, e2, ps⟩ | ⟨r, e1, e2, hA, ps⟩; exact Or.inr (Or.inl ⟨e1, e2, hc19, (Or.inr hc48), ps⟩); exact Or.inr (Or.inr ⟨r, e1, e2, hA, hc19, (Or.inr hc48), ps⟩)) (sgD3_2_2 l Z a0 z0 fm G x b t f c1 c0 c1 c2 e0 ((byt (one f c1))) hby hret hlk h49 (K54.to 1 3 [t] (q := by simp)) (((P0.keep Kp7 geN).keep Kp16 geN).wr W50 P3) A56 (((P2.keep Kp7).keep Kp16).wr W50) P3 P4 P5 P6 P7 P8 P9)
theorem sgD3_3_1 (G : Gl Z a0 z0 fm) (x : Addr) (b : Nat) (t : Addr) (f q5 q6 q7 c0 c1 c2 e0 : Int32) (hby : c.code = prog_18_method_4_code) (hret : meth.sig.returnType = (some (.array .byte))) (hlk : meth.locks = false) (h0 : Heap)
    (K0 : Wk p l e (rmk 7 6 40 160) s m #[(.ref x), (.int f)] below meth c Z a0 ELs "com/example/paredown/paredown/PercentEncoding" 8 [] [t] T0 lo0 1 3 h0) (P0 : Str Z h0 b x [c0, c1, c2]) (P1 : Ary Z h0 t .byte [(.int e0), (.int 0), (.int 0)]) (P2 : Exa Z h0 t "[B") (P3 : b ≤ t) (P4 : ¬ c0 < (0 : Int32)) (P5 : ¬ (65535 : Int32) < c0) (P6 : ¬ c1 < (0 : Int32)) (P7 : ¬ (65535 : Int32) < c1) (P8 : ¬ c2 < (0 : Int32)) (P9 : ¬ (65535 : Int32) < c2) :
    Owe p e below (PostW Z ELs [] (rmk 7 6 40 160) (fun v h fs => (∃ r : Addr, fs = [] ∧ v = some (.ref r) ∧ Ary Z h r .byte [(.int e0)])) s) T0 (mkF m 12 #[.val (.ref x), .val (.int f), .val (.ref t), .val (.int 1), .val (.int 3), .val (.int q5), .val (.int q6), .val (.int q7)] []) := by
  obtain ⟨hw, hEL, wS, OS, hz0, OA, OH, OL, OF, rfm⟩ := id G
  refine oIload K0 14 (d27_12 hby) rfl ?_
  refine oAloadN K0 15 (d27_14 hby) rfl rfl ?_
  refine oVirtual K0 18 1 (wq hw 56) (wq hw 57) (nfSel (wq hw 59)) (wq hw 59) (wq hw 58) (wq hw 6) (wq hw 60) P0.exa (rmLen3 l Z a0 z0 fm G x b c0 c1 c2 h0 K0.old K0.both P0) [] [(.int 3)] (lenOf pd575 rfl) (d27_15 hby) ?_
  intro T1 h3 v4 lo5 fs6 K2 Kp7 q8
  obtain ⟨rfl, rfl⟩ := q8
  have K9 := K2.to 1 3 [t]
  refine Owe.stk [(.int 3), (.int 3)] ?_
  refine oIcmpYes K9 160 (d27_18 hby) (XT.ii_ge_t (by decide)) ?_
  refine oAloadN K9 161 (d27_160 hby) rfl rfl ?_
  refine oIloadN K9 162 (d27_161 hby) rfl ?_
  refine oStatic K9 165 0 (wq hw 66) (wq hw 67) (wq hw 68) (wq hw 69) (rmCopy3_1 l Z a0 z0 fm G t e0 ((0 : Int32)) ((0 : Int32)) h3 K9.old K9.both (P1.keep Kp7 nin0) (P2.keep Kp7)) [(.ref t), (.int 1)] [] (lenOf pd589 rfl) (d27_162 hby) ?_
  intro T10 h12 v13 lo14 fs15 K11 Kp16 q17
  obtain ⟨r18, rfl, rfl, f19⟩ := q17
  have K20 := K11.to 2 4 [t]
  refine Owe.stk [(.ref r18)] ?_
  exact oRetA K20 [] hret rfl rfl (d27_165 hby) (by decide) (by decide) hlk (fun x hx => by cases hx) ⟨r18, rfl, rfl, f19⟩
theorem d27_47 : DC y27 47 (.aload_n 0) 1 := hb' (by decide +kernel)
theorem d27_48 : DC y27 48 (.iload 4) 2 := hb' (by decide +kernel)
theorem d27_50 : DC y27 50 (.iconst 1) 1 := hb' (by decide +kernel)
theorem d27_51 : DC y27 51 (.iadd) 1 := hb' (by decide +kernel)
theorem d27_52 : DC y27 52 (.invokevirtual 78) 3 := hb' (by decide +kernel)
theorem d27_55 : DC y27 55 (.invokestatic 82) 3 := hb' (by decide +kernel)
theorem d27_58 : DC y27 58 (.goto 4) 3 := hb' (by decide +kernel)
theorem d27_73 : DC y27 73 (.aload_n 0) 1 := hb' (by decide +kernel)
theorem d27_74 : DC y27 74 (.iload 4) 2 := hb' (by decide +kernel)
theorem d27_76 : DC y27 76 (.iconst 2) 1 := hb' (by decide +kernel)
theorem d27_77 : DC y27 77 (.iadd) 1 := hb' (by decide +kernel)
theorem d27_78 : DC y27 78 (.invokevirtual 78) 3 := hb' (by decide +kernel)
theorem d27_81 : DC y27 81 (.invokestatic 82) 3 := hb' (by decide +kernel)
theorem d27_93 : DC y27 93 (.aload_n 2) 1 := hb' (by decide +kernel)
theorem d27_94 : DC y27 94 (.iload_n 3) 1 := hb' (by decide +kernel)
theorem d27_95 : DC y27 95 (.iinc 3 1) 3 := hb' (by decide +kernel)
theorem d27_98 : DC y27 98 (.iload 6) 2 := hb' (by decide +kernel)
theorem d27_100 : DC y27 100 (.iconst 4) 1 := hb' (by decide +kernel)
theorem d27_101 : DC y27 101 (.ishl) 1 := hb' (by decide +kernel)
theorem d27_102 : DC y27 102 (.iload 7) 2 := hb' (by decide +kernel)
theorem d27_104 : DC y27 104 (.ior) 1 := hb' (by decide +kernel)
theorem d27_105 : DC y27 105 (.i2b) 1 := hb' (by decide +kernel)
theorem d27_106 : DC y27 106 (.bastore) 1 := hb' (by decide +kernel)
theorem d27_107 : DC y27 107 (.iinc 4 2) 3 := hb' (by decide +kernel)
theorem d27_110 : DC y27 110 (.goto 44) 3 := hb' (by decide +kernel)
theorem rmDB3 (G : Gl Z a0 z0 fm) (x : Addr) (b : Nat) (f c0 c1 c2 : Int32) (h0 : Heap) (hZh : Ext Z.heap h0) (hsf : Own Z h0 []) (P0 : Str Z h0 b x [c0, c1, c2]) (P1 : ¬ c0 < (0 : Int32)) (P2 : ¬ (65535 : Int32) < c0) (P3 : ¬ c1 < (0 : Int32)) (P4 : ¬ (65535 : Int32) < c1) (P5 : ¬ c2 < (0 : Int32)) (P6 : ¬ (65535 : Int32) < c2) :
    Ctr l Z ELs yn592 prog_18_method_4_code 8 (some (.array .byte)) [] (rmk 7 6 40 160) #[(.ref x), (.int f)] [] h0 (fun v h fs => (fs = [] ∧ v = some .null ∧ (FT f c0 c1 c2)) ∨ (fs = [] ∧ v = some .null ∧ ¬ c0 = (37 : Int32) ∧ okP f c0 ∧ (FO f c1)) ∨ (fs = [] ∧ v = some .null ∧ ¬ c0 = (37 : Int32) ∧ okP f c0 ∧ ¬ c1 = (37 : Int32) ∧ okP f c1 ∧ (FO f c2)) ∨ (∃ r : Addr, fs = [] ∧ v = some (.ref r) ∧ Ary Z h r .byte [(.int (byt (one f c0))), (.int (byt (one f c1))), (.int (byt (one f c2)))] ∧ ¬ c0 = (37 : Int32) ∧ okP f c0 ∧ ¬ c1 = (37 : Int32) ∧ okP f c1 ∧ ¬ c2 = (37 : Int32) ∧ okP f c2) ∨ (∃ r : Addr, fs = [] ∧ v = some (.ref r) ∧ Ary Z h r .byte [(.int (byt (tri c1 c2)))] ∧ c0 = (37 : Int32) ∧ ¬ (hx c1) < (0 : Int32) ∧ ¬ (hx c2) < (0 : Int32))) := by
  obtain ⟨hw, hEL, wS, OS, hz0, OA, OH, OL, OF, rfm⟩ := id G
  refine Ctr.intro pn403 hEL hZh hsf ?_
  intro p e s m below meth c s₁ hby hml hret hnm hlk hh K0
  refine Owe.cast (ef591 m x f) ?_
  refine oAloadN K0 1 (d27_0 hby) rfl rfl ?_
  refine oVirtual K0 4 0 (wq hw 56) (wq hw 57) (nfSel (wq hw 59)) (wq hw 59) (wq hw 58) (wq hw 6) (wq hw 60) P0.exa (rmLen3 l Z a0 z0 fm G x b c0 c1 c2 h0 K0.old K0.both P0) [] [] (lenOf pd575 rfl) (d27_1 hby) ?_
  intro T1 h3 v4 lo5 fs6 K2 Kp7 q8
  obtain ⟨rfl, rfl⟩ := q8
  have K9 := K2.to 0 0 []
  refine Owe.stk [(.int 3)] ?_
  refine oNewPE K9 6 (ty := .byte) 3 (wq hw 8) rfl (by decide) (by decide) (by decide) (d27_4 hby) (by decide) (by decide) (ad := "[B") rfl ?_
  intro T15 h10 a11 g12 K16 E13 A14 X17
  have K18 := K16.to 1 3 [a11]
  refine oAstoreN K18 7 (d27_6 hby) rfl (l' := #[.val (.ref x), .val (.int f), .val (.ref a11), .unset, .unset, .unset, .unset, .unset]) rfl ?_
  refine oIconstV K18 8 (0 : Int32) (d27_7 hby) rfl ?_
  refine oIstoreN K18 9 (d27_8 hby) (l' := #[.val (.ref x), .val (.int f), .val (.ref a11), .val (.int 0), .unset, .unset, .unset, .unset]) rfl ?_
  refine oIconstV K18 10 (0 : Int32) (d27_9 hby) rfl ?_
  refine oIstore K18 12 (d27_10 hby) (l' := #[.val (.ref x), .val (.int f), .val (.ref a11), .val (.int 0), .val (.int 0), .unset, .unset, .unset]) rfl ?_
  refine oIload K18 14 (d27_12 hby) rfl ?_
  refine oAloadN K18 15 (d27_14 hby) rfl rfl ?_
  refine oVirtual K18 18 1 (wq hw 56) (wq hw 57) (nfSel (wq hw 59)) (wq hw 59) (wq hw 58) (wq hw 6) (wq hw 60) ((P0.exa.keep Kp7).ext E13) (rmLen3 l Z a0 z0 fm G x b c0 c1 c2 h10 K18.old K18.both ((P0.keep Kp7 geN).ext E13)) [] [(.int 0)] (lenOf pd575 rfl) (d27_15 hby) ?_
  intro T19 h21 v22 lo23 fs24 K20 Kp25 q26
  obtain ⟨rfl, rfl⟩ := q26
  have K27 := K20.to 1 3 [a11]
  refine Owe.stk [(.int 3), (.int 0)] ?_
  refine oIcmpNo K27 21 (d27_18 hby) (XT.ii_ge_f (by decide)) ?_
  refine oAloadN K27 22 (d27_21 hby) rfl rfl ?_
  refine oIload K27 24 (d27_22 hby) rfl ?_
  refine oVirtual K27 27 0 (wq hw 99) (wq hw 14) (nfSel (wq hw 16)) (wq hw 16) (wq hw 15) (wq hw 6) (wq hw 17) (((P0.exa.keep Kp7).ext E13).keep Kp25) (rmCh3_0 l Z a0 z0 fm G x b c0 c1 c2 h21 K27.old K27.both (((P0.keep Kp7 geN).ext E13).keep Kp25 geN) P1 P2) [(.int 0)] [] (lenOf pd329 rfl) (d27_24 hby) ?_
  intro T28 h30 v31 lo32 fs33 K29 Kp34 q35
  obtain ⟨rfl, rfl⟩ := q35
  have K36 := K29.to 1 3 [a11]
  refine Owe.stk [(.int c0)] ?_
  refine oIstore K36 29 (d27_27 hby) (l' := #[.val (.ref x), .val (.int f), .val (.ref a11), .val (.int 0), .val (.int 0), .val (.int c0), .unset, .unset]) rfl ?_
  refine oIload K36 31 (d27_29 hby) rfl ?_
  refine oBipushV K36 33 (37 : Int32) (d27_31 hby) (by decide) ?_
  by_cases hc37 : c0 = (37 : Int32)
  · refine oIcmpNo K36 36 (d27_33 hby) (XT.ii_ne_f hc37) ?_
    refine oIload K36 38 (d27_36 hby) rfl ?_
    refine oIconstV K36 39 (2 : Int32) (d27_38 hby) rfl ?_
    refine oIadd K36 40 (d27_39 hby) ?_
    show Owe _ _ _ _ T28 (mkF m 40 #[.val (.ref x), .val (.int f), .val (.ref a11), .val (.int 0), .val (.int 0), .val (.int c0), .unset, .unset] [(.int 2)])
    refine oAloadN K36 41 (d27_40 hby) rfl rfl ?_
    have F38 := ((((P0.keep Kp7 geN).ext E13).keep Kp25 geN).keep Kp34 geN)
    have F39 := ((((P0.exa.keep Kp7).ext E13).keep Kp25).keep Kp34)
    refine oVirtual K36 44 1 (wq hw 56) (wq hw 57) (nfSel (wq hw 59)) (wq hw 59) (wq hw 58) (wq hw 6) (wq hw 60) F39 (rmLen3 l Z a0 z0 fm G x b c0 c1 c2 h30 K36.old K36.both F38) [] [(.int 2)] (lenOf pd575 rfl) (d27_41 hby) ?_
    intro T40 h42 v43 lo44 fs45 K41 Kp46 q47
    obtain ⟨rfl, rfl⟩ := q47
    have K48 := K41.to 1 3 [a11]
    refine Owe.stk [(.int 3), (.int 2)] ?_
    refine oIcmpNo K48 47 (d27_44 hby) (XT.ii_ge_f (by decide)) ?_
    refine oAloadN K48 48 (d27_47 hby) rfl rfl ?_
    refine oIload K48 50 (d27_48 hby) rfl ?_
    refine oIconstV K48 51 (1 : Int32) (d27_50 hby) rfl ?_
    refine oIadd K48 52 (d27_51 hby) ?_
    show Owe _ _ _ _ T40 (mkF m 52 #[.val (.ref x), .val (.int f), .val (.ref a11), .val (.int 0), .val (.int 0), .val (.int c0), .unset, .unset] [(.int 1), (.ref x)])
    refine oVirtual K48 55 0 (wq hw 99) (wq hw 14) (nfSel (wq hw 16)) (wq hw 16) (wq hw 15) (wq hw 6) (wq hw 17) (F38.exa.keep Kp46) (rmCh3_1 l Z a0 z0 fm G x b c0 c1 c2 h42 K48.old K48.both (F38.keep Kp46 geN) P3 P4) [(.int 1)] [] (lenOf pd329 rfl) (d27_52 hby) ?_
    intro T49 h51 v52 lo53 fs54 K50 Kp55 q56
    obtain ⟨rfl, rfl⟩ := q56
    have K57 := K50.to 1 3 [a11]
    refine Owe.stk [(.int c1)] ?_
    refine oStatic K57 58 0 (wq hw 132) (wq hw 133) (wq hw 54) (wq hw 134) (rmHxD l Z a0 z0 fm G c1 h51 K57.old K57.both ) [(.int c1)] [] (lenOf pd470 rfl) (d27_55 hby) ?_
    intro T58 h60 v61 lo62 fs63 K59 Kp64 q65
    obtain ⟨rfl, rfl⟩ := q65
    have K66 := K59.to 1 3 [a11]
    refine Owe.stk [(.int (hx c1))] ?_
    refine oGoto K66 62 (d27_58 hby) ?_
    refine oIstore K66 64 (d27_62 hby) (l' := #[.val (.ref x), .val (.int f), .val (.ref a11), .val (.int 0), .val (.int 0), .val (.int c0), .val (.int (hx c1)), .unset]) rfl ?_
    refine oIload K66 66 (d27_64 hby) rfl ?_
    by_cases hc67 : (hx c1) < (0 : Int32)
    · refine oIfNo K66 69 (d27_66 hby) (XT.i0_ge_f hc67) ?_
      refine oIconstV K66 70 (-1 : Int32) (d27_69 hby) rfl ?_
      refine oGoto K66 84 (d27_70 hby) ?_
      refine oIstore K66 86 (d27_84 hby) (l' := #[.val (.ref x), .val (.int f), .val (.ref a11), .val (.int 0), .val (.int 0), .val (.int c0), .val (.int (hx c1)), .val (.int (-1))]) rfl ?_
      refine oIload K66 88 (d27_86 hby) rfl ?_
      refine oIfNo K66 91 (d27_88 hby) (XT.i0_ge_f (by decide)) ?_
      refine oAconstNull K66 92 (d27_91 hby) ?_
      exact oRetA K66 [] hret rfl rfl (d27_92 hby) (by decide) (by decide) hlk (fun x hx => by cases hx) (Or.inl ⟨rfl, rfl, (own_ftA hc37 hc67)⟩)
    · refine oIfYes K66 73 (d27_66 hby) (XT.i0_ge_t hc67) ?_
      refine oAloadN K66 74 (d27_73 hby) rfl rfl ?_
      refine oIload K66 76 (d27_74 hby) rfl ?_
      refine oIconstV K66 77 (2 : Int32) (d27_76 hby) rfl ?_
      refine oIadd K66 78 (d27_77 hby) ?_
      show Owe _ _ _ _ T58 (mkF m 78 #[.val (.ref x), .val (.int f), .val (.ref a11), .val (.int 0), .val (.int 0), .val (.int c0), .val (.int (hx c1)), .unset] [(.int 2), (.ref x)])
      have F68 := (((F38.keep Kp46 geN).keep Kp55 geN).keep Kp64 geN)
      refine oVirtual K66 81 0 (wq hw 99) (wq hw 14) (nfSel (wq hw 16)) (wq hw 16) (wq hw 15) (wq hw 6) (wq hw 17) (((F38.exa.keep Kp46).keep Kp55).keep Kp64) (rmCh3_2 l Z a0 z0 fm G x b c0 c1 c2 h60 K66.old K66.both F68 P5 P6) [(.int 2)] [] (lenOf pd329 rfl) (d27_78 hby) ?_
      intro T69 h71 v72 lo73 fs74 K70 Kp75 q76
      obtain ⟨rfl, rfl⟩ := q76
      have K77 := K70.to 1 3 [a11]
      refine Owe.stk [(.int c2)] ?_
      refine oStatic K77 84 0 (wq hw 132) (wq hw 133) (wq hw 54) (wq hw 134) (rmHxD l Z a0 z0 fm G c2 h71 K77.old K77.both ) [(.int c2)] [] (lenOf pd470 rfl) (d27_81 hby) ?_
      intro T78 h80 v81 lo82 fs83 K79 Kp84 q85
      obtain ⟨rfl, rfl⟩ := q85
      have K86 := K79.to 1 3 [a11]
      refine Owe.stk [(.int (hx c2))] ?_
      refine oIstore K86 86 (d27_84 hby) (l' := #[.val (.ref x), .val (.int f), .val (.ref a11), .val (.int 0), .val (.int 0), .val (.int c0), .val (.int (hx c1)), .val (.int (hx c2))]) rfl ?_
      refine oIload K86 88 (d27_86 hby) rfl ?_
      by_cases hc87 : (hx c2) < (0 : Int32)
      · refine oIfNo K86 91 (d27_88 hby) (XT.i0_ge_f hc87) ?_
        refine oAconstNull K86 92 (d27_91 hby) ?_
        exact oRetA K86 [] hret rfl rfl (d27_92 hby) (by decide) (by decide) hlk (fun x hx => by cases hx) (Or.inl ⟨rfl, rfl, (own_ftB hc37 hc87)⟩)
      · refine oIfYes K86 93 (d27_88 hby) (XT.i0_ge_t hc87) ?_
        refine oAloadN K86 94 (d27_93 hby) rfl rfl ?_
        refine oIloadN K86 95 (d27_94 hby) rfl ?_
        refine oIinc K86 98 (d27_95 hby) rfl (l' := #[.val (.ref x), .val (.int f), .val (.ref a11), .val (.int 1), .val (.int 0), .val (.int c0), .val (.int (hx c1)), .val (.int (hx c2))]) rfl ?_
        refine oIload K86 100 (d27_98 hby) rfl ?_
        refine oIconstV K86 101 (4 : Int32) (d27_100 hby) rfl ?_
        refine oIshl K86 102 (d27_101 hby) ?_
        refine oIload K86 104 (d27_102 hby) rfl ?_
        refine oIor K86 105 (d27_104 hby) ?_
        refine oI2b K86 106 (d27_105 hby) ?_
        have F88 := (((((((A14.keep Kp25 nin0).keep Kp34 nin0).keep Kp46 nin0).keep Kp55 nin0).keep Kp64 nin0).keep Kp75 nin0).keep Kp84 nin0)
        refine oBastore K86 107 (by simp) F88 0 (by decide) (by decide) nlt (nar_byt _) (d27_106 hby) ?_
        intro T93 h89 lo92 K94 W90 A91
        have A95 : Ary Z h89 a11 .byte [(.int (byt (((hx c1) <<< ((4 : Int32) &&& 31)) ||| (hx c2)))), (.int 0), (.int 0)] := A91
        refine oIinc K94 110 (d27_107 hby) rfl (l' := #[.val (.ref x), .val (.int f), .val (.ref a11), .val (.int 1), .val (.int 2), .val (.int c0), .val (.int (hx c1)), .val (.int (hx c2))]) rfl ?_
        refine oGoto K94 154 (d27_110 hby) ?_
        have A96 : Ary Z h89 a11 .byte [(.int (byt (tri c1 c2))), (.int 0), (.int 0)] := by rw [← own_tri hc67 hc87]; exact A95
        refine oIinc K94 157 (d27_154 hby) rfl (l' := #[.val (.ref x), .val (.int f), .val (.ref a11), .val (.int 1), .val (.int 3), .val (.int c0), .val (.int (hx c1)), .val (.int (hx c2))]) rfl ?_
        refine oGoto K94 12 (d27_157 hby) ?_
        have F97 := (((F68.keep Kp75 geN).keep Kp84 geN).wr W90 (Nat.le_trans (P0.keep Kp7 geN).bd (Nat.le_of_eq g12)))
        have F98 := ((((((((X17.keep Kp25).keep Kp34).keep Kp46).keep Kp55).keep Kp64).keep Kp75).keep Kp84).wr W90)
        exact Owe.mono (fun _ _ _ q => by obtain ⟨r, e1, e2, hA⟩ := q; exact Or.inr (Or.inr (Or.inr (Or.inr ⟨r, e1, e2, hA, hc37, hc67, hc87⟩)))) (sgD3_3_1 l Z a0 z0 fm G x b a11 f c0 ((hx c1)) ((hx c2)) c0 c1 c2 ((byt (tri c1 c2))) hby hret hlk h89 (K94.to 1 3 [a11] (q := by simp)) F97 A96 F98 (Nat.le_trans (P0.keep Kp7 geN).bd (Nat.le_of_eq g12)) P1 P2 P3 P4 P5 P6)
  · refine oIcmpYes K36 113 (d27_33 hby) (XT.ii_ne_t hc37) ?_
    refine oIload K36 115 (d27_113 hby) rfl ?_
    refine oBipushV K36 117 (43 : Int32) (d27_115 hby) (by decide) ?_
    by_cases hc99 : c0 = (43 : Int32)
    · refine oIcmpNo K36 120 (d27_117 hby) (XT.ii_ne_f hc99) ?_
      refine oIloadN K36 121 (d27_120 hby) rfl ?_
      by_cases hc100 : f = (0 : Int32)
      · refine oIfYes K36 135 (d27_121 hby) (XT.i0_eq_t hc100) ?_
        refine oIload K36 137 (d27_135 hby) rfl ?_
        refine oSipushV K36 140 (255 : Int32) (d27_137 hby) (by decide) ?_
        by_cases hc101 : (255 : Int32) < c0
        · refine oIcmpNo K36 143 (d27_140 hby) (XT.ii_le_f hc101) ?_
          refine oAconstNull K36 144 (d27_143 hby) ?_
          exact oRetA K36 [] hret rfl rfl (d27_144 hby) (by decide) (by decide) hlk (fun x hx => by cases hx) (Or.inl ⟨rfl, rfl, (Or.inr ⟨hc37, (own_nok (Or.inl hc100) hc101)⟩)⟩)
        · refine oIcmpYes K36 145 (d27_140 hby) (XT.ii_le_t hc101) ?_
          refine oAloadN K36 146 (d27_145 hby) rfl rfl ?_
          refine oIloadN K36 147 (d27_146 hby) rfl ?_
          refine oIinc K36 150 (d27_147 hby) rfl (l' := #[.val (.ref x), .val (.int f), .val (.ref a11), .val (.int 1), .val (.int 0), .val (.int c0), .unset, .unset]) rfl ?_
          refine oIload K36 152 (d27_150 hby) rfl ?_
          refine oI2b K36 153 (d27_152 hby) ?_
          refine oBastore K36 154 (by simp) ((A14.keep Kp25 nin0).keep Kp34 nin0) 0 (by decide) (by decide) nlt (nar_byt _) (d27_153 hby) ?_
          intro T106 h102 lo105 K107 W103 A104
          have A108 : Ary Z h102 a11 .byte [(.int (byt c0)), (.int 0), (.int 0)] := A104
          have A109 : Ary Z h102 a11 .byte [(.int (byt (one f c0))), (.int 0), (.int 0)] := by rw [own_one2 (Or.inl hc100)]; exact A108
          refine oIinc K107 157 (d27_154 hby) rfl (l' := #[.val (.ref x), .val (.int f), .val (.ref a11), .val (.int 1), .val (.int 1), .val (.int c0), .unset, .unset]) rfl ?_
          refine oGoto K107 12 (d27_157 hby) ?_
          have F110 := (((((P0.keep Kp7 geN).ext E13).keep Kp25 geN).keep Kp34 geN).wr W103 (Nat.le_trans (P0.keep Kp7 geN).bd (Nat.le_of_eq g12)))
          exact Owe.mono (fun _ _ _ q => by rcases q with ⟨e1, e2, ps⟩ | ⟨e1, e2, ps⟩ | ⟨r, e1, e2, hA, ps⟩; exact Or.inr (Or.inl ⟨e1, e2, hc37, (Or.inr hc101), ps⟩); exact Or.inr (Or.inr (Or.inl ⟨e1, e2, hc37, (Or.inr hc101), ps⟩)); exact Or.inr (Or.inr (Or.inr (Or.inl ⟨r, e1, e2, hA, hc37, (Or.inr hc101), ps⟩)))) (sgD3_1_1 l Z a0 z0 fm G x b a11 f c0 c0 c1 c2 ((byt (one f c0))) hby hret hlk h102 (K107.to 1 3 [a11] (q := by simp)) F110 A109 (((X17.keep Kp25).keep Kp34).wr W103) (Nat.le_trans (P0.keep Kp7 geN).bd (Nat.le_of_eq g12)) P1 P2 P3 P4 P5 P6)
      · refine oIfNo K36 124 (d27_121 hby) (XT.i0_eq_f hc100) ?_
        refine oAloadN K36 125 (d27_124 hby) rfl rfl ?_
        refine oIloadN K36 126 (d27_125 hby) rfl ?_
        refine oIinc K36 129 (d27_126 hby) rfl (l' := #[.val (.ref x), .val (.int f), .val (.ref a11), .val (.int 1), .val (.int 0), .val (.int c0), .unset, .unset]) rfl ?_
        refine oBipushV K36 131 (32 : Int32) (d27_129 hby) (by decide) ?_
        refine oBastore K36 132 (by simp) ((A14.keep Kp25 nin0).keep Kp34 nin0) 0 (by decide) (by decide) nlt (by decide : nar .byte (32 : Int32) = (32 : Int32)) (d27_131 hby) ?_
        intro T115 h111 lo114 K116 W112 A113
        have A117 : Ary Z h111 a11 .byte [(.int 32), (.int 0), (.int 0)] := A113
        refine oGoto K116 154 (d27_132 hby) ?_
        have A118 : Ary Z h111 a11 .byte [(.int (byt (one f c0))), (.int 0), (.int 0)] := by rw [own_oneP hc100 hc99]; exact A117
        refine oIinc K116 157 (d27_154 hby) rfl (l' := #[.val (.ref x), .val (.int f), .val (.ref a11), .val (.int 1), .val (.int 1), .val (.int c0), .unset, .unset]) rfl ?_
        refine oGoto K116 12 (d27_157 hby) ?_
        have F119 := (((((P0.keep Kp7 geN).ext E13).keep Kp25 geN).keep Kp34 geN).wr W112 (Nat.le_trans (P0.keep Kp7 geN).bd (Nat.le_of_eq g12)))
        exact Owe.mono (fun _ _ _ q => by rcases q with ⟨e1, e2, ps⟩ | ⟨e1, e2, ps⟩ | ⟨r, e1, e2, hA, ps⟩; exact Or.inr (Or.inl ⟨e1, e2, hc37, (Or.inl ⟨hc100, hc99⟩), ps⟩); exact Or.inr (Or.inr (Or.inl ⟨e1, e2, hc37, (Or.inl ⟨hc100, hc99⟩), ps⟩)); exact Or.inr (Or.inr (Or.inr (Or.inl ⟨r, e1, e2, hA, hc37, (Or.inl ⟨hc100, hc99⟩), ps⟩)))) (sgD3_1_1 l Z a0 z0 fm G x b a11 f c0 c0 c1 c2 ((byt (one f c0))) hby hret hlk h111 (K116.to 1 3 [a11] (q := by simp)) F119 A118 (((X17.keep Kp25).keep Kp34).wr W112) (Nat.le_trans (P0.keep Kp7 geN).bd (Nat.le_of_eq g12)) P1 P2 P3 P4 P5 P6)
    · refine oIcmpYes K36 135 (d27_117 hby) (XT.ii_ne_t hc99) ?_
      refine oIload K36 137 (d27_135 hby) rfl ?_
      refine oSipushV K36 140 (255 : Int32) (d27_137 hby) (by decide) ?_
      by_cases hc120 : (255 : Int32) < c0
      · refine oIcmpNo K36 143 (d27_140 hby) (XT.ii_le_f hc120) ?_
        refine oAconstNull K36 144 (d27_143 hby) ?_
        exact oRetA K36 [] hret rfl rfl (d27_144 hby) (by decide) (by decide) hlk (fun x hx => by cases hx) (Or.inl ⟨rfl, rfl, (Or.inr ⟨hc37, (own_nok (Or.inr hc99) hc120)⟩)⟩)
      · refine oIcmpYes K36 145 (d27_140 hby) (XT.ii_le_t hc120) ?_
        refine oAloadN K36 146 (d27_145 hby) rfl rfl ?_
        refine oIloadN K36 147 (d27_146 hby) rfl ?_
        refine oIinc K36 150 (d27_147 hby) rfl (l' := #[.val (.ref x), .val (.int f), .val (.ref a11), .val (.int 1), .val (.int 0), .val (.int c0), .unset, .unset]) rfl ?_
        refine oIload K36 152 (d27_150 hby) rfl ?_
        refine oI2b K36 153 (d27_152 hby) ?_
        refine oBastore K36 154 (by simp) ((A14.keep Kp25 nin0).keep Kp34 nin0) 0 (by decide) (by decide) nlt (nar_byt _) (d27_153 hby) ?_
        intro T125 h121 lo124 K126 W122 A123
        have A127 : Ary Z h121 a11 .byte [(.int (byt c0)), (.int 0), (.int 0)] := A123
        have A128 : Ary Z h121 a11 .byte [(.int (byt (one f c0))), (.int 0), (.int 0)] := by rw [own_one2 (Or.inr hc99)]; exact A127
        refine oIinc K126 157 (d27_154 hby) rfl (l' := #[.val (.ref x), .val (.int f), .val (.ref a11), .val (.int 1), .val (.int 1), .val (.int c0), .unset, .unset]) rfl ?_
        refine oGoto K126 12 (d27_157 hby) ?_
        have F129 := (((((P0.keep Kp7 geN).ext E13).keep Kp25 geN).keep Kp34 geN).wr W122 (Nat.le_trans (P0.keep Kp7 geN).bd (Nat.le_of_eq g12)))
        exact Owe.mono (fun _ _ _ q => by rcases q with ⟨e1, e2, ps⟩ | ⟨e1, e2, ps⟩ | ⟨r, e1, e2, hA, ps⟩; exact Or.inr (Or.inl ⟨e1, e2, hc37, (Or.inr hc120), ps⟩); exact Or.inr (Or.inr (Or.inl ⟨e1, e2, hc37, (Or.inr hc120), ps⟩)); exact Or.inr (Or.inr (Or.inr (Or.inl ⟨r, e1, e2, hA, hc37, (Or.inr hc120), ps⟩)))) (sgD3_1_1 l Z a0 z0 fm G x b a11 f c0 c0 c1 c2 ((byt (one f c0))) hby hret hlk h121 (K126.to 1 3 [a11] (q := by simp)) F129 A128 (((X17.keep Kp25).keep Kp34).wr W122) (Nat.le_trans (P0.keep Kp7 geN).bd (Nat.le_of_eq g12)) P1 P2 P3 P4 P5 P6)
theorem sgD4_4_4 (G : Gl Z a0 z0 fm) (x : Addr) (b : Nat) (t : Addr) (f q5 c0 c1 c2 c3 e0 e1 e2 e3 : Int32) (hby : c.code = prog_18_method_4_code) (hret : meth.sig.returnType = (some (.array .byte))) (hlk : meth.locks = false) (h0 : Heap)
    (K0 : Wk p l e (rmk 7 6 40 160) s m #[(.ref x), (.int f)] below meth c Z a0 ELs "com/example/paredown/paredown/PercentEncoding" 8 [] [t] T0 lo0 1 4 h0) (P0 : Str Z h0 b x [c0, c1, c2, c3]) (P1 : Ary Z h0 t .byte [(.int e0), (.int e1), (.int e2), (.int e3)]) (P2 : Exa Z h0 t "[B") (P3 : b ≤ t) (P4 : ¬ c0 < (0 : Int32)) (P5 : ¬ (65535 : Int32) < c0) (P6 : ¬ c1 < (0 : Int32)) (P7 : ¬ (65535 : Int32) < c1) (P8 : ¬ c2 < (0 : Int32)) (P9 : ¬ (65535 : Int32) < c2) (P10 : ¬ c3 < (0 : Int32)) (P11 : ¬ (65535 : Int32) < c3) :
    Owe p e below (PostW Z ELs [] (rmk 7 6 40 160) (fun v h fs => (∃ r : Addr, fs = [] ∧ v = some (.ref r) ∧ Ary Z h r .byte [(.int e0), (.int e1), (.int e2), (.int e3)])) s) T0 (mkF m 12 #[.val (.ref x), .val (.int f), .val (.ref t), .val (.int 4), .val (.int 4), .val (.int q5), .unset, .unset] []) := by
  obtain ⟨hw, hEL, wS, OS, hz0, OA, OH, OL, OF, rfm⟩ := id G
  refine oIload K0 14 (d27_12 hby) rfl ?_
  refine oAloadN K0 15 (d27_14 hby) rfl rfl ?_
  refine oVirtual K0 18 1 (wq hw 56) (wq hw 57) (nfSel (wq hw 59)) (wq hw 59) (wq hw 58) (wq hw 6) (wq hw 60) P0.exa (rmLen4 l Z a0 z0 fm G x b c0 c1 c2 c3 h0 K0.old K0.both P0) [] [(.int 4)] (lenOf pd575 rfl) (d27_15 hby) ?_
  intro T1 h3 v4 lo5 fs6 K2 Kp7 q8
  obtain ⟨rfl, rfl⟩ := q8
  have K9 := K2.to 1 4 [t]
  refine Owe.stk [(.int 4), (.int 4)] ?_
  refine oIcmpYes K9 160 (d27_18 hby) (XT.ii_ge_t (by decide)) ?_
  refine oAloadN K9 161 (d27_160 hby) rfl rfl ?_
  refine oIloadN K9 162 (d27_161 hby) rfl ?_
  refine oStatic K9 165 0 (wq hw 66) (wq hw 67) (wq hw 68) (wq hw 69) (rmCopy4_4 l Z a0 z0 fm G t e0 e1 e2 e3 h3 K9.old K9.both (P1.keep Kp7 nin0) (P2.keep Kp7)) [(.ref t), (.int 4)] [] (lenOf pd589 rfl) (d27_162 hby) ?_
  intro T10 h12 v13 lo14 fs15 K11 Kp16 q17
  obtain ⟨r18, rfl, rfl, f19⟩ := q17
  have K20 := K11.to 2 8 [t]
  refine Owe.stk [(.ref r18)] ?_
  exact oRetA K20 [] hret rfl rfl (d27_165 hby) (by decide) (by decide) hlk (fun x hx => by cases hx) ⟨r18, rfl, rfl, f19⟩
theorem sgD4_3_3 (G : Gl Z a0 z0 fm) (x : Addr) (b : Nat) (t : Addr) (f q5 c0 c1 c2 c3 e0 e1 e2 : Int32) (hby : c.code = prog_18_method_4_code) (hret : meth.sig.returnType = (some (.array .byte))) (hlk : meth.locks = false) (h0 : Heap)
    (K0 : Wk p l e (rmk 7 6 40 160) s m #[(.ref x), (.int f)] below meth c Z a0 ELs "com/example/paredown/paredown/PercentEncoding" 8 [] [t] T0 lo0 1 4 h0) (P0 : Str Z h0 b x [c0, c1, c2, c3]) (P1 : Ary Z h0 t .byte [(.int e0), (.int e1), (.int e2), (.int 0)]) (P2 : Exa Z h0 t "[B") (P3 : b ≤ t) (P4 : ¬ c0 < (0 : Int32)) (P5 : ¬ (65535 : Int32) < c0) (P6 : ¬ c1 < (0 : Int32)) (P7 : ¬ (65535 : Int32) < c1) (P8 : ¬ c2 < (0 : Int32)) (P9 : ¬ (65535 : Int32) < c2) (P10 : ¬ c3 < (0 : Int32)) (P11 : ¬ (65535 : Int32) < c3) :
    Owe p e below (PostW Z ELs [] (rmk 7 6 40 160) (fun v h fs => (fs = [] ∧ v = some .null ∧ (FO f c3)) ∨ (∃ r : Addr, fs = [] ∧ v = some (.ref r) ∧ Ary Z h r .byte [(.int e0), (.int e1), (.int e2), (.int (byt (one f c3)))] ∧ ¬ c3 = (37 : Int32) ∧ okP f c3)) s) T0 (mkF m 12 #[.val (.ref x), .val (.int f), .val (.ref t), .val (.int 3), .val (.int 3), .val (.int q5), .unset, .unset] []) := by
  obtain ⟨hw, hEL, wS, OS, hz0, OA, OH, OL, OF, rfm⟩ := id G
  refine oIload K0 14 (d27_12 hby) rfl ?_
  refine oAloadN K0 15 (d27_14 hby) rfl rfl ?_
  refine oVirtual K0 18 1 (wq hw 56) (wq hw 57) (nfSel (wq hw 59)) (wq hw 59) (wq hw 58) (wq hw 6) (wq hw 60) P0.exa (rmLen4 l Z a0 z0 fm G x b c0 c1 c2 c3 h0 K0.old K0.both P0) [] [(.int 3)] (lenOf pd575 rfl) (d27_15 hby) ?_
  intro T1 h3 v4 lo5 fs6 K2 Kp7 q8
  obtain ⟨rfl, rfl⟩ := q8
  have K9 := K2.to 1 4 [t]
  refine Owe.stk [(.int 4), (.int 3)] ?_
  refine oIcmpNo K9 21 (d27_18 hby) (XT.ii_ge_f (by decide)) ?_
  refine oAloadN K9 22 (d27_21 hby) rfl rfl ?_
  refine oIload K9 24 (d27_22 hby) rfl ?_
  refine oVirtual K9 27 0 (wq hw 99) (wq hw 14) (nfSel (wq hw 16)) (wq hw 16) (wq hw 15) (wq hw 6) (wq hw 17) (P0.exa.keep Kp7) (rmCh4_3 l Z a0 z0 fm G x b c0 c1 c2 c3 h3 K9.old K9.both (P0.keep Kp7 geN) P10 P11) [(.int 3)] [] (lenOf pd329 rfl) (d27_24 hby) ?_
  intro T10 h12 v13 lo14 fs15 K11 Kp16 q17
  obtain ⟨rfl, rfl⟩ := q17
  have K18 := K11.to 1 4 [t]
  refine Owe.stk [(.int c3)] ?_
  refine oIstore K18 29 (d27_27 hby) (l' := #[.val (.ref x), .val (.int f), .val (.ref t), .val (.int 3), .val (.int 3), .val (.int c3), .unset, .unset]) rfl ?_
  refine oIload K18 31 (d27_29 hby) rfl ?_
  refine oBipushV K18 33 (37 : Int32) (d27_31 hby) (by decide) ?_
  by_cases hc19 : c3 = (37 : Int32)
  · refine oIcmpNo K18 36 (d27_33 hby) (XT.ii_ne_f hc19) ?_
    refine oIload K18 38 (d27_36 hby) rfl ?_
    refine oIconstV K18 39 (2 : Int32) (d27_38 hby) rfl ?_
    refine oIadd K18 40 (d27_39 hby) ?_
    show Owe _ _ _ _ T10 (mkF m 40 #[.val (.ref x), .val (.int f), .val (.ref t), .val (.int 3), .val (.int 3), .val (.int c3), .unset, .unset] [(.int 5)])
    refine oAloadN K18 41 (d27_40 hby) rfl rfl ?_
    refine oVirtual K18 44 1 (wq hw 56) (wq hw 57) (nfSel (wq hw 59)) (wq hw 59) (wq hw 58) (wq hw 6) (wq hw 60) ((P0.exa.keep Kp7).keep Kp16) (rmLen4 l Z a0 z0 fm G x b c0 c1 c2 c3 h12 K18.old K18.both ((P0.keep Kp7 geN).keep Kp16 geN)) [] [(.int 5)] (lenOf pd575 rfl) (d27_41 hby) ?_
    intro T20 h22 v23 lo24 fs25 K21 Kp26 q27
    obtain ⟨rfl, rfl⟩ := q27
    have K28 := K21.to 1 4 [t]
    refine Owe.stk [(.int 4), (.int 5)] ?_
    refine oIcmpYes K28 61 (d27_44 hby) (XT.ii_ge_t (by decide)) ?_
    refine oIconstV K28 62 (-1 : Int32) (d27_61 hby) rfl ?_
    refine oIstore K28 64 (d27_62 hby) (l' := #[.val (.ref x), .val (.int f), .val (.ref t), .val (.int 3), .val (.int 3), .val (.int c3), .val (.int (-1)), .unset]) rfl ?_
    refine oIload K28 66 (d27_64 hby) rfl ?_
    refine oIfNo K28 69 (d27_66 hby) (XT.i0_ge_f (by decide)) ?_
    refine oIconstV K28 70 (-1 : Int32) (d27_69 hby) rfl ?_
    refine oGoto K28 84 (d27_70 hby) ?_
    refine oIstore K28 86 (d27_84 hby) (l' := #[.val (.ref x), .val (.int f), .val (.ref t), .val (.int 3), .val (.int 3), .val (.int c3), .val (.int (-1)), .val (.int (-1))]) rfl ?_
    refine oIload K28 88 (d27_86 hby) rfl ?_
    refine oIfNo K28 91 (d27_88 hby) (XT.i0_ge_f (by decide)) ?_
    refine oAconstNull K28 92 (d27_91 hby) ?_
    exact oRetA K28 [] hret rfl rfl (d27_92 hby) (by decide) (by decide) hlk (fun x hx => by cases hx) (Or.inl ⟨rfl, rfl, (Or.inl hc19)⟩)
  · refine oIcmpYes K18 113 (d27_33 hby) (XT.ii_ne_t hc19) ?_
    refine oIload K18 115 (d27_113 hby) rfl ?_
    refine oBipushV K18 117 (43 : Int32) (d27_115 hby) (by decide) ?_
    by_cases hc29 : c3 = (43 : Int32)
    · refine oIcmpNo K18 120 (d27_117 hby) (XT.ii_ne_f hc29) ?_
      refine oIloadN K18 121 (d27_120 hby) rfl ?_
      by_cases hc30 : f = (0 : Int32)
      · refine oIfYes K18 135 (d27_121 hby) (XT.i0_eq_t hc30) ?_
        refine oIload K18 137 (d27_135 hby) rfl ?_
        refine oSipushV K18 140 (255 : Int32) (d27_137 hby) (by decide) ?_
        by_cases hc31 : (255 : Int32) < c3
        · refine oIcmpNo K18 143 (d27_140 hby) (XT.ii_le_f hc31) ?_
          refine oAconstNull K18 144 (d27_143 hby) ?_
          exact oRetA K18 [] hret rfl rfl (d27_144 hby) (by decide) (by decide) hlk (fun x hx => by cases hx) (Or.inl ⟨rfl, rfl, (Or.inr (own_nok (Or.inl hc30) hc31))⟩)
        · refine oIcmpYes K18 145 (d27_140 hby) (XT.ii_le_t hc31) ?_
          refine oAloadN K18 146 (d27_145 hby) rfl rfl ?_
          refine oIloadN K18 147 (d27_146 hby) rfl ?_
          refine oIinc K18 150 (d27_147 hby) rfl (l' := #[.val (.ref x), .val (.int f), .val (.ref t), .val (.int 4), .val (.int 3), .val (.int c3), .unset, .unset]) rfl ?_
          refine oIload K18 152 (d27_150 hby) rfl ?_
          refine oI2b K18 153 (d27_152 hby) ?_
          refine oBastore K18 154 (by simp) ((P1.keep Kp7 nin0).keep Kp16 nin0) 3 (by decide) (by decide) nlt (nar_byt _) (d27_153 hby) ?_
          intro T36 h32 lo35 K37 W33 A34
          have A38 : Ary Z h32 t .byte [(.int e0), (.int e1), (.int e2), (.int (byt c3))] := A34
          have A39 : Ary Z h32 t .byte [(.int e0), (.int e1), (.int e2), (.int (byt (one f c3)))] := by rw [own_one2 (Or.inl hc30)]; exact A38
          refine oIinc K37 157 (d27_154 hby) rfl (l' := #[.val (.ref x), .val (.int f), .val (.ref t), .val (.int 4), .val (.int 4), .val (.int c3), .unset, .unset]) rfl ?_
          refine oGoto K37 12 (d27_157 hby) ?_
          exact Owe.mono (fun _ _ _ q => by obtain ⟨r, e1, e2, hA⟩ := q; exact Or.inr ⟨r, e1, e2, hA, hc19, (Or.inr hc31)⟩) (sgD4_4_4 l Z a0 z0 fm G x b t f c3 c0 c1 c2 c3 e0 e1 e2 ((byt (one f c3))) hby hret hlk h32 (K37.to 1 4 [t] (q := by simp)) (((P0.keep Kp7 geN).keep Kp16 geN).wr W33 P3) A39 (((P2.keep Kp7).keep Kp16).wr W33) P3 P4 P5 P6 P7 P8 P9 P10 P11)
      · refine oIfNo K18 124 (d27_121 hby) (XT.i0_eq_f hc30) ?_
        refine oAloadN K18 125 (d27_124 hby) rfl rfl ?_
        refine oIloadN K18 126 (d27_125 hby) rfl ?_
        refine oIinc K18 129 (d27_126 hby) rfl (l' := #[.val (.ref x), .val (.int f), .val (.ref t), .val (.int 4), .val (.int 3), .val (.int c3), .unset, .unset]) rfl ?_
        refine oBipushV K18 131 (32 : Int32) (d27_129 hby) (by decide) ?_
        refine oBastore K18 132 (by simp) ((P1.keep Kp7 nin0).keep Kp16 nin0) 3 (by decide) (by decide) nlt (by decide : nar .byte (32 : Int32) = (32 : Int32)) (d27_131 hby) ?_
        intro T44 h40 lo43 K45 W41 A42
        have A46 : Ary Z h40 t .byte [(.int e0), (.int e1), (.int e2), (.int 32)] := A42
        refine oGoto K45 154 (d27_132 hby) ?_
        have A47 : Ary Z h40 t .byte [(.int e0), (.int e1), (.int e2), (.int (byt (one f c3)))] := by rw [own_oneP hc30 hc29]; exact A46
        refine oIinc K45 157 (d27_154 hby) rfl (l' := #[.val (.ref x), .val (.int f), .val (.ref t), .val (.int 4), .val (.int 4), .val (.int c3), .unset, .unset]) rfl ?_
        refine oGoto K45 12 (d27_157 hby) ?_
        exact Owe.mono (fun _ _ _ q => by obtain ⟨r, e1, e2, hA⟩ := q; exact Or.inr ⟨r, e1, e2, hA, hc19, (Or.inl ⟨hc30, hc29⟩)⟩) (sgD4_4_4 l Z a0 z0 fm G x b t f c3 c0 c1 c2 c3 e0 e1 e2 ((byt (one f c3))) hby hret hlk h40 (K45.to 1 4 [t] (q := by simp)) (((P0.keep Kp7 geN).keep Kp16 geN).wr W41 P3) A47 (((P2.keep Kp7).keep Kp16).wr W41) P3 P4 P5 P6 P7 P8 P9 P10 P11)
    · refine oIcmpYes K18 135 (d27_117 hby) (XT.ii_ne_t hc29) ?_
      refine oIload K18 137 (d27_135 hby) rfl ?_
      refine oSipushV K18 140 (255 : Int32) (d27_137 hby) (by decide) ?_
      by_cases hc48 : (255 : Int32) < c3
      · refine oIcmpNo K18 143 (d27_140 hby) (XT.ii_le_f hc48) ?_
        refine oAconstNull K18 144 (d27_143 hby) ?_
        exact oRetA K18 [] hret rfl rfl (d27_144 hby) (by decide) (by decide) hlk (fun x hx => by cases hx) (Or.inl ⟨rfl, rfl, (Or.inr (own_nok (Or.inr hc29) hc48))⟩)
      · refine oIcmpYes K18 145 (d27_140 hby) (XT.ii_le_t hc48) ?_
        refine oAloadN K18 146 (d27_145 hby) rfl rfl ?_
        refine oIloadN K18 147 (d27_146 hby) rfl ?_
        refine oIinc K18 150 (d27_147 hby) rfl (l' := #[.val (.ref x), .val (.int f), .val (.ref t), .val (.int 4), .val (.int 3), .val (.int c3), .unset, .unset]) rfl ?_
        refine oIload K18 152 (d27_150 hby) rfl ?_
        refine oI2b K18 153 (d27_152 hby) ?_
        refine oBastore K18 154 (by simp) ((P1.keep Kp7 nin0).keep Kp16 nin0) 3 (by decide) (by decide) nlt (nar_byt _) (d27_153 hby) ?_
        intro T53 h49 lo52 K54 W50 A51
        have A55 : Ary Z h49 t .byte [(.int e0), (.int e1), (.int e2), (.int (byt c3))] := A51
        have A56 : Ary Z h49 t .byte [(.int e0), (.int e1), (.int e2), (.int (byt (one f c3)))] := by rw [own_one2 (Or.inr hc29)]; exact A55
        refine oIinc K54 157 (d27_154 hby) rfl (l' := #[.val (.ref x), .val (.int f), .val (.ref t), .val (.int 4), .val (.int 4), .val (.int c3), .unset, .unset]) rfl ?_
        refine oGoto K54 12 (d27_157 hby) ?_
        exact Owe.mono (fun _ _ _ q => by obtain ⟨r, e1, e2, hA⟩ := q; exact Or.inr ⟨r, e1, e2, hA, hc19, (Or.inr hc48)⟩) (sgD4_4_4 l Z a0 z0 fm G x b t f c3 c0 c1 c2 c3 e0 e1 e2 ((byt (one f c3))) hby hret hlk h49 (K54.to 1 4 [t] (q := by simp)) (((P0.keep Kp7 geN).keep Kp16 geN).wr W50 P3) A56 (((P2.keep Kp7).keep Kp16).wr W50) P3 P4 P5 P6 P7 P8 P9 P10 P11)
theorem sgD4_2_2 (G : Gl Z a0 z0 fm) (x : Addr) (b : Nat) (t : Addr) (f q5 c0 c1 c2 c3 e0 e1 : Int32) (hby : c.code = prog_18_method_4_code) (hret : meth.sig.returnType = (some (.array .byte))) (hlk : meth.locks = false) (h0 : Heap)
    (K0 : Wk p l e (rmk 7 6 40 160) s m #[(.ref x), (.int f)] below meth c Z a0 ELs "com/example/paredown/paredown/PercentEncoding" 8 [] [t] T0 lo0 1 4 h0) (P0 : Str Z h0 b x [c0, c1, c2, c3]) (P1 : Ary Z h0 t .byte [(.int e0), (.int e1), (.int 0), (.int 0)]) (P2 : Exa Z h0 t "[B") (P3 : b ≤ t) (P4 : ¬ c0 < (0 : Int32)) (P5 : ¬ (65535 : Int32) < c0) (P6 : ¬ c1 < (0 : Int32)) (P7 : ¬ (65535 : Int32) < c1) (P8 : ¬ c2 < (0 : Int32)) (P9 : ¬ (65535 : Int32) < c2) (P10 : ¬ c3 < (0 : Int32)) (P11 : ¬ (65535 : Int32) < c3) :
    Owe p e below (PostW Z ELs [] (rmk 7 6 40 160) (fun v h fs => (fs = [] ∧ v = some .null ∧ (FO f c2)) ∨ (fs = [] ∧ v = some .null ∧ ¬ c2 = (37 : Int32) ∧ okP f c2 ∧ (FO f c3)) ∨ (∃ r : Addr, fs = [] ∧ v = some (.ref r) ∧ Ary Z h r .byte [(.int e0), (.int e1), (.int (byt (one f c2))), (.int (byt (one f c3)))] ∧ ¬ c2 = (37 : Int32) ∧ okP f c2 ∧ ¬ c3 = (37 : Int32) ∧ okP f c3)) s) T0 (mkF m 12 #[.val (.ref x), .val (.int f), .val (.ref t), .val (.int 2), .val (.int 2), .val (.int q5), .unset, .unset] []) := by
  obtain ⟨hw, hEL, wS, OS, hz0, OA, OH, OL, OF, rfm⟩ := id G
  refine oIload K0 14 (d27_12 hby) rfl ?_
  refine oAloadN K0 15 (d27_14 hby) rfl rfl ?_
  refine oVirtual K0 18 1 (wq hw 56) (wq hw 57) (nfSel (wq hw 59)) (wq hw 59) (wq hw 58) (wq hw 6) (wq hw 60) P0.exa (rmLen4 l Z a0 z0 fm G x b c0 c1 c2 c3 h0 K0.old K0.both P0) [] [(.int 2)] (lenOf pd575 rfl) (d27_15 hby) ?_
  intro T1 h3 v4 lo5 fs6 K2 Kp7 q8
  obtain ⟨rfl, rfl⟩ := q8
  have K9 := K2.to 1 4 [t]
  refine Owe.stk [(.int 4), (.int 2)] ?_
  refine oIcmpNo K9 21 (d27_18 hby) (XT.ii_ge_f (by decide)) ?_
  refine oAloadN K9 22 (d27_21 hby) rfl rfl ?_
  refine oIload K9 24 (d27_22 hby) rfl ?_
  refine oVirtual K9 27 0 (wq hw 99) (wq hw 14) (nfSel (wq hw 16)) (wq hw 16) (wq hw 15) (wq hw 6) (wq hw 17) (P0.exa.keep Kp7) (rmCh4_2 l Z a0 z0 fm G x b c0 c1 c2 c3 h3 K9.old K9.both (P0.keep Kp7 geN) P8 P9) [(.int 2)] [] (lenOf pd329 rfl) (d27_24 hby) ?_
  intro T10 h12 v13 lo14 fs15 K11 Kp16 q17
  obtain ⟨rfl, rfl⟩ := q17
  have K18 := K11.to 1 4 [t]
  refine Owe.stk [(.int c2)] ?_
  refine oIstore K18 29 (d27_27 hby) (l' := #[.val (.ref x), .val (.int f), .val (.ref t), .val (.int 2), .val (.int 2), .val (.int c2), .unset, .unset]) rfl ?_
  refine oIload K18 31 (d27_29 hby) rfl ?_
  refine oBipushV K18 33 (37 : Int32) (d27_31 hby) (by decide) ?_
  by_cases hc19 : c2 = (37 : Int32)
  · refine oIcmpNo K18 36 (d27_33 hby) (XT.ii_ne_f hc19) ?_
    refine oIload K18 38 (d27_36 hby) rfl ?_
    refine oIconstV K18 39 (2 : Int32) (d27_38 hby) rfl ?_
    refine oIadd K18 40 (d27_39 hby) ?_
    show Owe _ _ _ _ T10 (mkF m 40 #[.val (.ref x), .val (.int f), .val (.ref t), .val (.int 2), .val (.int 2), .val (.int c2), .unset, .unset] [(.int 4)])
    refine oAloadN K18 41 (d27_40 hby) rfl rfl ?_
    refine oVirtual K18 44 1 (wq hw 56) (wq hw 57) (nfSel (wq hw 59)) (wq hw 59) (wq hw 58) (wq hw 6) (wq hw 60) ((P0.exa.keep Kp7).keep Kp16) (rmLen4 l Z a0 z0 fm G x b c0 c1 c2 c3 h12 K18.old K18.both ((P0.keep Kp7 geN).keep Kp16 geN)) [] [(.int 4)] (lenOf pd575 rfl) (d27_41 hby) ?_
    intro T20 h22 v23 lo24 fs25 K21 Kp26 q27
    obtain ⟨rfl, rfl⟩ := q27
    have K28 := K21.to 1 4 [t]
    refine Owe.stk [(.int 4), (.int 4)] ?_
    refine oIcmpYes K28 61 (d27_44 hby) (XT.ii_ge_t (by decide)) ?_
    refine oIconstV K28 62 (-1 : Int32) (d27_61 hby) rfl ?_
    refine oIstore K28 64 (d27_62 hby) (l' := #[.val (.ref x), .val (.int f), .val (.ref t), .val (.int 2), .val (.int 2), .val (.int c2), .val (.int (-1)), .unset]) rfl ?_
    refine oIload K28 66 (d27_64 hby) rfl ?_
    refine oIfNo K28 69 (d27_66 hby) (XT.i0_ge_f (by decide)) ?_
    refine oIconstV K28 70 (-1 : Int32) (d27_69 hby) rfl ?_
    refine oGoto K28 84 (d27_70 hby) ?_
    refine oIstore K28 86 (d27_84 hby) (l' := #[.val (.ref x), .val (.int f), .val (.ref t), .val (.int 2), .val (.int 2), .val (.int c2), .val (.int (-1)), .val (.int (-1))]) rfl ?_
    refine oIload K28 88 (d27_86 hby) rfl ?_
    refine oIfNo K28 91 (d27_88 hby) (XT.i0_ge_f (by decide)) ?_
    refine oAconstNull K28 92 (d27_91 hby) ?_
    exact oRetA K28 [] hret rfl rfl (d27_92 hby) (by decide) (by decide) hlk (fun x hx => by cases hx) (Or.inl ⟨rfl, rfl, (Or.inl hc19)⟩)
  · refine oIcmpYes K18 113 (d27_33 hby) (XT.ii_ne_t hc19) ?_
    refine oIload K18 115 (d27_113 hby) rfl ?_
    refine oBipushV K18 117 (43 : Int32) (d27_115 hby) (by decide) ?_
    by_cases hc29 : c2 = (43 : Int32)
    · refine oIcmpNo K18 120 (d27_117 hby) (XT.ii_ne_f hc29) ?_
      refine oIloadN K18 121 (d27_120 hby) rfl ?_
      by_cases hc30 : f = (0 : Int32)
      · refine oIfYes K18 135 (d27_121 hby) (XT.i0_eq_t hc30) ?_
        refine oIload K18 137 (d27_135 hby) rfl ?_
        refine oSipushV K18 140 (255 : Int32) (d27_137 hby) (by decide) ?_
        by_cases hc31 : (255 : Int32) < c2
        · refine oIcmpNo K18 143 (d27_140 hby) (XT.ii_le_f hc31) ?_
          refine oAconstNull K18 144 (d27_143 hby) ?_
          exact oRetA K18 [] hret rfl rfl (d27_144 hby) (by decide) (by decide) hlk (fun x hx => by cases hx) (Or.inl ⟨rfl, rfl, (Or.inr (own_nok (Or.inl hc30) hc31))⟩)
        · refine oIcmpYes K18 145 (d27_140 hby) (XT.ii_le_t hc31) ?_
          refine oAloadN K18 146 (d27_145 hby) rfl rfl ?_
          refine oIloadN K18 147 (d27_146 hby) rfl ?_
          refine oIinc K18 150 (d27_147 hby) rfl (l' := #[.val (.ref x), .val (.int f), .val (.ref t), .val (.int 3), .val (.int 2), .val (.int c2), .unset, .unset]) rfl ?_
          refine oIload K18 152 (d27_150 hby) rfl ?_
          refine oI2b K18 153 (d27_152 hby) ?_
          refine oBastore K18 154 (by simp) ((P1.keep Kp7 nin0).keep Kp16 nin0) 2 (by decide) (by decide) nlt (nar_byt _) (d27_153 hby) ?_
          intro T36 h32 lo35 K37 W33 A34
          have A38 : Ary Z h32 t .byte [(.int e0), (.int e1), (.int (byt c2)), (.int 0)] := A34
          have A39 : Ary Z h32 t .byte [(.int e0), (.int e1), (.int (byt (one f c2))), (.int 0)] := by rw [own_one2 (Or.inl hc30)]; exact A38
          refine oIinc K37 157 (d27_154 hby) rfl (l' := #[.val (.ref x), .val (.int f), .val (.ref t), .val (.int 3), .val (.int 3), .val (.int c2), .unset, .unset]) rfl ?_
          refine oGoto K37 12 (d27_157 hby) ?_
          exact Owe.mono (fun _ _ _ q => by rcases q with ⟨e1, e2, ps⟩ | ⟨r, e1, e2, hA, ps⟩; exact Or.inr (Or.inl ⟨e1, e2, hc19, (Or.inr hc31), ps⟩); exact Or.inr (Or.inr ⟨r, e1, e2, hA, hc19, (Or.inr hc31), ps⟩)) (sgD4_3_3 l Z a0 z0 fm G x b t f c2 c0 c1 c2 c3 e0 e1 ((byt (one f c2))) hby hret hlk h32 (K37.to 1 4 [t] (q := by simp)) (((P0.keep Kp7 geN).keep Kp16 geN).wr W33 P3) A39 (((P2.keep Kp7).keep Kp16).wr W33) P3 P4 P5 P6 P7 P8 P9 P10 P11)
      · refine oIfNo K18 124 (d27_121 hby) (XT.i0_eq_f hc30) ?_
        refine oAloadN K18 125 (d27_124 hby) rfl rfl ?_
        refine oIloadN K18 126 (d27_125 hby) rfl ?_
        refine oIinc K18 129 (d27_126 hby) rfl (l' := #[.val (.ref x), .val (.int f), .val (.ref t), .val (.int 3), .val (.int 2), .val (.int c2), .unset, .unset]) rfl ?_
        refine oBipushV K18 131 (32 : Int32) (d27_129 hby) (by decide) ?_
        refine oBastore K18 132 (by simp) ((P1.keep Kp7 nin0).keep Kp16 nin0) 2 (by decide) (by decide) nlt (by decide : nar .byte (32 : Int32) = (32 : Int32)) (d27_131 hby) ?_
        intro T44 h40 lo43 K45 W41 A42
        have A46 : Ary Z h40 t .byte [(.int e0), (.int e1), (.int 32), (.int 0)] := A42
        refine oGoto K45 154 (d27_132 hby) ?_
        have A47 : Ary Z h40 t .byte [(.int e0), (.int e1), (.int (byt (one f c2))), (.int 0)] := by rw [own_oneP hc30 hc29]; exact A46
        refine oIinc K45 157 (d27_154 hby) rfl (l' := #[.val (.ref x), .val (.int f), .val (.ref t), .val (.int 3), .val (.int 3), .val (.int c2), .unset, .unset]) rfl ?_
        refine oGoto K45 12 (d27_157 hby) ?_
        exact Owe.mono (fun _ _ _ q => by rcases q with ⟨e1, e2, ps⟩ | ⟨r, e1, e2, hA, ps⟩; exact Or.inr (Or.inl ⟨e1, e2, hc19, (Or.inl ⟨hc30, hc29⟩), ps⟩); exact Or.inr (Or.inr ⟨r, e1, e2, hA, hc19, (Or.inl ⟨hc30, hc29⟩), ps⟩)) (sgD4_3_3 l Z a0 z0 fm G x b t f c2 c0 c1 c2 c3 e0 e1 ((byt (one f c2))) hby hret hlk h40 (K45.to 1 4 [t] (q := by simp)) (((P0.keep Kp7 geN).keep Kp16 geN).wr W41 P3) A47 (((P2.keep Kp7).keep Kp16).wr W41) P3 P4 P5 P6 P7 P8 P9 P10 P11)
    · refine oIcmpYes K18 135 (d27_117 hby) (XT.ii_ne_t hc29) ?_
      refine oIload K18 137 (d27_135 hby) rfl ?_
      refine oSipushV K18 140 (255 : Int32) (d27_137 hby) (by decide) ?_
      by_cases hc48 : (255 : Int32) < c2
      · refine oIcmpNo K18 143 (d27_140 hby) (XT.ii_le_f hc48) ?_
        refine oAconstNull K18 144 (d27_143 hby) ?_
        exact oRetA K18 [] hret rfl rfl (d27_144 hby) (by decide) (by decide) hlk (fun x hx => by cases hx) (Or.inl ⟨rfl, rfl, (Or.inr (own_nok (Or.inr hc29) hc48))⟩)
      · refine oIcmpYes K18 145 (d27_140 hby) (XT.ii_le_t hc48) ?_
        refine oAloadN K18 146 (d27_145 hby) rfl rfl ?_
        refine oIloadN K18 147 (d27_146 hby) rfl ?_
        refine oIinc K18 150 (d27_147 hby) rfl (l' := #[.val (.ref x), .val (.int f), .val (.ref t), .val (.int 3), .val (.int 2), .val (.int c2), .unset, .unset]) rfl ?_
        refine oIload K18 152 (d27_150 hby) rfl ?_
        refine oI2b K18 153 (d27_152 hby) ?_
        refine oBastore K18 154 (by simp) ((P1.keep Kp7 nin0).keep Kp16 nin0) 2 (by decide) (by decide) nlt (nar_byt _) (d27_153 hby) ?_
        intro T53 h49 lo52 K54 W50 A51
        have A55 : Ary Z h49 t .byte [(.int e0), (.int e1), (.int (byt c2)), (.int 0)] := A51
        have A56 : Ary Z h49 t .byte [(.int e0), (.int e1), (.int (byt (one f c2))), (.int 0)] := by rw [own_one2 (Or.inr hc29)]; exact A55
        refine oIinc K54 157 (d27_154 hby) rfl (l' := #[.val (.ref x), .val (.int f), .val (.ref t), .val (.int 3), .val (.int 3), .val (.int c2), .unset, .unset]) rfl ?_
        refine oGoto K54 12 (d27_157 hby) ?_
        exact Owe.mono (fun _ _ _ q => by rcases q with ⟨e1, e2, ps⟩ | ⟨r, e1, e2, hA, ps⟩; exact Or.inr (Or.inl ⟨e1, e2, hc19, (Or.inr hc48), ps⟩); exact Or.inr (Or.inr ⟨r, e1, e2, hA, hc19, (Or.inr hc48), ps⟩)) (sgD4_3_3 l Z a0 z0 fm G x b t f c2 c0 c1 c2 c3 e0 e1 ((byt (one f c2))) hby hret hlk h49 (K54.to 1 4 [t] (q := by simp)) (((P0.keep Kp7 geN).keep Kp16 geN).wr W50 P3) A56 (((P2.keep Kp7).keep Kp16).wr W50) P3 P4 P5 P6 P7 P8 P9 P10 P11)
theorem sgD4_4_2 (G : Gl Z a0 z0 fm) (x : Addr) (b : Nat) (t : Addr) (f q5 q6 q7 c0 c1 c2 c3 e0 e1 : Int32) (hby : c.code = prog_18_method_4_code) (hret : meth.sig.returnType = (some (.array .byte))) (hlk : meth.locks = false) (h0 : Heap)
    (K0 : Wk p l e (rmk 7 6 40 160) s m #[(.ref x), (.int f)] below meth c Z a0 ELs "com/example/paredown/paredown/PercentEncoding" 8 [] [t] T0 lo0 1 4 h0) (P0 : Str Z h0 b x [c0, c1, c2, c3]) (P1 : Ary Z h0 t .byte [(.int e0), (.int e1), (.int 0), (.int 0)]) (P2 : Exa Z h0 t "[B") (P3 : b ≤ t) (P4 : ¬ c0 < (0 : Int32)) (P5 : ¬ (65535 : Int32) < c0) (P6 : ¬ c1 < (0 : Int32)) (P7 : ¬ (65535 : Int32) < c1) (P8 : ¬ c2 < (0 : Int32)) (P9 : ¬ (65535 : Int32) < c2) (P10 : ¬ c3 < (0 : Int32)) (P11 : ¬ (65535 : Int32) < c3) :
    Owe p e below (PostW Z ELs [] (rmk 7 6 40 160) (fun v h fs => (∃ r : Addr, fs = [] ∧ v = some (.ref r) ∧ Ary Z h r .byte [(.int e0), (.int e1)])) s) T0 (mkF m 12 #[.val (.ref x), .val (.int f), .val (.ref t), .val (.int 2), .val (.int 4), .val (.int q5), .val (.int q6), .val (.int q7)] []) := by
  obtain ⟨hw, hEL, wS, OS, hz0, OA, OH, OL, OF, rfm⟩ := id G
  refine oIload K0 14 (d27_12 hby) rfl ?_
  refine oAloadN K0 15 (d27_14 hby) rfl rfl ?_
  refine oVirtual K0 18 1 (wq hw 56) (wq hw 57) (nfSel (wq hw 59)) (wq hw 59) (wq hw 58) (wq hw 6) (wq hw 60) P0.exa (rmLen4 l Z a0 z0 fm G x b c0 c1 c2 c3 h0 K0.old K0.both P0) [] [(.int 4)] (lenOf pd575 rfl) (d27_15 hby) ?_
  intro T1 h3 v4 lo5 fs6 K2 Kp7 q8
  obtain ⟨rfl, rfl⟩ := q8
  have K9 := K2.to 1 4 [t]
  refine Owe.stk [(.int 4), (.int 4)] ?_
  refine oIcmpYes K9 160 (d27_18 hby) (XT.ii_ge_t (by decide)) ?_
  refine oAloadN K9 161 (d27_160 hby) rfl rfl ?_
  refine oIloadN K9 162 (d27_161 hby) rfl ?_
  refine oStatic K9 165 0 (wq hw 66) (wq hw 67) (wq hw 68) (wq hw 69) (rmCopy4_2 l Z a0 z0 fm G t e0 e1 ((0 : Int32)) ((0 : Int32)) h3 K9.old K9.both (P1.keep Kp7 nin0) (P2.keep Kp7)) [(.ref t), (.int 2)] [] (lenOf pd589 rfl) (d27_162 hby) ?_
  intro T10 h12 v13 lo14 fs15 K11 Kp16 q17
  obtain ⟨r18, rfl, rfl, f19⟩ := q17
  have K20 := K11.to 2 6 [t]
  refine Owe.stk [(.ref r18)] ?_
  exact oRetA K20 [] hret rfl rfl (d27_165 hby) (by decide) (by decide) hlk (fun x hx => by cases hx) ⟨r18, rfl, rfl, f19⟩
theorem sgD4_1_1 (G : Gl Z a0 z0 fm) (x : Addr) (b : Nat) (t : Addr) (f q5 c0 c1 c2 c3 e0 : Int32) (hby : c.code = prog_18_method_4_code) (hret : meth.sig.returnType = (some (.array .byte))) (hlk : meth.locks = false) (h0 : Heap)
    (K0 : Wk p l e (rmk 7 6 40 160) s m #[(.ref x), (.int f)] below meth c Z a0 ELs "com/example/paredown/paredown/PercentEncoding" 8 [] [t] T0 lo0 1 4 h0) (P0 : Str Z h0 b x [c0, c1, c2, c3]) (P1 : Ary Z h0 t .byte [(.int e0), (.int 0), (.int 0), (.int 0)]) (P2 : Exa Z h0 t "[B") (P3 : b ≤ t) (P4 : ¬ c0 < (0 : Int32)) (P5 : ¬ (65535 : Int32) < c0) (P6 : ¬ c1 < (0 : Int32)) (P7 : ¬ (65535 : Int32) < c1) (P8 : ¬ c2 < (0 : Int32)) (P9 : ¬ (65535 : Int32) < c2) (P10 : ¬ c3 < (0 : Int32)) (P11 : ¬ (65535 : Int32) < c3) :
    Owe p e below (PostW Z ELs [] (rmk 7 6 40 160) (fun v h fs => (fs = [] ∧ v = some .null ∧ (FT f c1 c2 c3)) ∨ (fs = [] ∧ v = some .null ∧ ¬ c1 = (37 : Int32) ∧ okP f c1 ∧ (FO f c2)) ∨ (fs = [] ∧ v = some .null ∧ ¬ c1 = (37 : Int32) ∧ okP f c1 ∧ ¬ c2 = (37 : Int32) ∧ okP f c2 ∧ (FO f c3)) ∨ (∃ r : Addr, fs = [] ∧ v = some (.ref r) ∧ Ary Z h r .byte [(.int e0), (.int (byt (one f c1))), (.int (byt (one f c2))), (.int (byt (one f c3)))] ∧ ¬ c1 = (37 : Int32) ∧ okP f c1 ∧ ¬ c2 = (37 : Int32) ∧ okP f c2 ∧ ¬ c3 = (37 : Int32) ∧ okP f c3) ∨ (∃ r : Addr, fs = [] ∧ v = some (.ref r) ∧ Ary Z h r .byte [(.int e0), (.int (byt (tri c2 c3)))] ∧ c1 = (37 : Int32) ∧ ¬ (hx c2) < (0 : Int32) ∧ ¬ (hx c3) < (0 : Int32))) s) T0 (mkF m 12 #[.val (.ref x), .val (.int f), .val (.ref t), .val (.int 1), .val (.int 1), .val (.int q5), .unset, .unset] []) := by
  obtain ⟨hw, hEL, wS, OS, hz0, OA, OH, OL, OF, rfm⟩ := id G
  refine oIload K0 14 (d27_12 hby) rfl ?_
  refine oAloadN K0 15 (d27_14 hby) rfl rfl ?_
  refine oVirtual K0 18 1 (wq hw 56) (wq hw 57) (nfSel (wq hw 59)) (wq hw 59) (wq hw 58) (wq hw 6) (wq hw 60) P0.exa (rmLen4 l Z a0 z0 fm G x b c0 c1 c2 c3 h0 K0.old K0.both P0) [] [(.int 1)] (lenOf pd575 rfl) (d27_15 hby) ?_
  intro T1 h3 v4 lo5 fs6 K2 Kp7 q8
  obtain ⟨rfl, rfl⟩ := q8
  have K9 := K2.to 1 4 [t]
  refine Owe.stk [(.int 4), (.int 1)] ?_
  refine oIcmpNo K9 21 (d27_18 hby) (XT.ii_ge_f (by decide)) ?_
  refine oAloadN K9 22 (d27_21 hby) rfl rfl ?_
  refine oIload K9 24 (d27_22 hby) rfl ?_
  refine oVirtual K9 27 0 (wq hw 99) (wq hw 14) (nfSel (wq hw 16)) (wq hw 16) (wq hw 15) (wq hw 6) (wq hw 17) (P0.exa.keep Kp7) (rmCh4_1 l Z a0 z0 fm G x b c0 c1 c2 c3 h3 K9.old K9.both (P0.keep Kp7 geN) P6 P7) [(.int 1)] [] (lenOf pd329 rfl) (d27_24 hby) ?_
  intro T10 h12 v13 lo14 fs15 K11 Kp16 q17
  obtain ⟨rfl, rfl⟩ := q17
  have K18 := K11.to 1 4 [t]
  refine Owe.stk [(.int c1)] ?_
  refine oIstore K18 29 (d27_27 hby) (l' := #[.val (.ref x), .val (.int f), .val (.ref t), .val (.int 1), .val (.int 1), .val (.int c1), .unset, .unset]) rfl ?_
  refine oIload K18 31 (d27_29 hby) rfl ?_
  refine oBipushV K18 33 (37 : Int32) (d27_31 hby) (by decide) ?_
  by_cases hc19 : c1 = (37 : Int32)
  · refine oIcmpNo K18 36 (d27_33 hby) (XT.ii_ne_f hc19) ?_
    refine oIload K18 38 (d27_36 hby) rfl ?_
    refine oIconstV K18 39 (2 : Int32) (d27_38 hby) rfl ?_
    refine oIadd K18 40 (d27_39 hby) ?_
    show Owe _ _ _ _ T10 (mkF m 40 #[.val (.ref x), .val (.int f), .val (.ref t), .val (.int 1), .val (.int 1), .val (.int c1), .unset, .unset] [(.int 3)])
    refine oAloadN K18 41 (d27_40 hby) rfl rfl ?_
    refine oVirtual K18 44 1 (wq hw 56) (wq hw 57) (nfSel (wq hw 59)) (wq hw 59) (wq hw 58) (wq hw 6) (wq hw 60) ((P0.exa.keep Kp7).keep Kp16) (rmLen4 l Z a0 z0 fm G x b c0 c1 c2 c3 h12 K18.old K18.both ((P0.keep Kp7 geN).keep Kp16 geN)) [] [(.int 3)] (lenOf pd575 rfl) (d27_41 hby) ?_
    intro T20 h22 v23 lo24 fs25 K21 Kp26 q27
    obtain ⟨rfl, rfl⟩ := q27
    have K28 := K21.to 1 4 [t]
    refine Owe.stk [(.int 4), (.int 3)] ?_
    refine oIcmpNo K28 47 (d27_44 hby) (XT.ii_ge_f (by decide)) ?_
    refine oAloadN K28 48 (d27_47 hby) rfl rfl ?_
    refine oIload K28 50 (d27_48 hby) rfl ?_
    refine oIconstV K28 51 (1 : Int32) (d27_50 hby) rfl ?_
    refine oIadd K28 52 (d27_51 hby) ?_
    show Owe _ _ _ _ T20 (mkF m 52 #[.val (.ref x), .val (.int f), .val (.ref t), .val (.int 1), .val (.int 1), .val (.int c1), .unset, .unset] [(.int 2), (.ref x)])
    have F29 := (((P0.keep Kp7 geN).keep Kp16 geN).keep Kp26 geN)
    refine oVirtual K28 55 0 (wq hw 99) (wq hw 14) (nfSel (wq hw 16)) (wq hw 16) (wq hw 15) (wq hw 6) (wq hw 17) (((P0.exa.keep Kp7).keep Kp16).keep Kp26) (rmCh4_2 l Z a0 z0 fm G x b c0 c1 c2 c3 h22 K28.old K28.both F29 P8 P9) [(.int 2)] [] (lenOf pd329 rfl) (d27_52 hby) ?_
    intro T30 h32 v33 lo34 fs35 K31 Kp36 q37
    obtain ⟨rfl, rfl⟩ := q37
    have K38 := K31.to 1 4 [t]
    refine Owe.stk [(.int c2)] ?_
    refine oStatic K38 58 0 (wq hw 132) (wq hw 133) (wq hw 54) (wq hw 134) (rmHxD l Z a0 z0 fm G c2 h32 K38.old K38.both ) [(.int c2)] [] (lenOf pd470 rfl) (d27_55 hby) ?_
    intro T39 h41 v42 lo43 fs44 K40 Kp45 q46
    obtain ⟨rfl, rfl⟩ := q46
    have K47 := K40.to 1 4 [t]
    refine Owe.stk [(.int (hx c2))] ?_
    refine oGoto K47 62 (d27_58 hby) ?_
    refine oIstore K47 64 (d27_62 hby) (l' := #[.val (.ref x), .val (.int f), .val (.ref t), .val (.int 1), .val (.int 1), .val (.int c1), .val (.int (hx c2)), .unset]) rfl ?_
    refine oIload K47 66 (d27_64 hby) rfl ?_
    by_cases hc48 : (hx c2) < (0 : Int32)
    · refine oIfNo K47 69 (d27_66 hby) (XT.i0_ge_f hc48) ?_
      refine oIconstV K47 70 (-1 : Int32) (d27_69 hby) rfl ?_
      refine oGoto K47 84 (d27_70 hby) ?_
      refine oIstore K47 86 (d27_84 hby) (l' := #[.val (.ref x), .val (.int f), .val (.ref t), .val (.int 1), .val (.int 1), .val (.int c1), .val (.int (hx c2)), .val (.int (-1))]) rfl ?_
      refine oIload K47 88 (d27_86 hby) rfl ?_
      refine oIfNo K47 91 (d27_88 hby) (XT.i0_ge_f (by decide)) ?_
      refine oAconstNull K47 92 (d27_91 hby) ?_
      exact oRetA K47 [] hret rfl rfl (d27_92 hby) (by decide) (by decide) hlk (fun x hx => by cases hx) (Or.inl ⟨rfl, rfl, (own_ftA hc19 hc48)⟩)
    · refine oIfYes K47 73 (d27_66 hby) (XT.i0_ge_t hc48) ?_
      refine oAloadN K47 74 (d27_73 hby) rfl rfl ?_
      refine oIload K47 76 (d27_74 hby) rfl ?_
      refine oIconstV K47 77 (2 : Int32) (d27_76 hby) rfl ?_
      refine oIadd K47 78 (d27_77 hby) ?_
      show Owe _ _ _ _ T39 (mkF m 78 #[.val (.ref x), .val (.int f), .val (.ref t), .val (.int 1), .val (.int 1), .val (.int c1), .val (.int (hx c2)), .unset] [(.int 3), (.ref x)])
      refine oVirtual K47 81 0 (wq hw 99) (wq hw 14) (nfSel (wq hw 16)) (wq hw 16) (wq hw 15) (wq hw 6) (wq hw 17) ((F29.exa.keep Kp36).keep Kp45) (rmCh4_3 l Z a0 z0 fm G x b c0 c1 c2 c3 h41 K47.old K47.both ((F29.keep Kp36 geN).keep Kp45 geN) P10 P11) [(.int 3)] [] (lenOf pd329 rfl) (d27_78 hby) ?_
      intro T49 h51 v52 lo53 fs54 K50 Kp55 q56
      obtain ⟨rfl, rfl⟩ := q56
      have K57 := K50.to 1 4 [t]
      refine Owe.stk [(.int c3)] ?_
      refine oStatic K57 84 0 (wq hw 132) (wq hw 133) (wq hw 54) (wq hw 134) (rmHxD l Z a0 z0 fm G c3 h51 K57.old K57.both ) [(.int c3)] [] (lenOf pd470 rfl) (d27_81 hby) ?_
      intro T58 h60 v61 lo62 fs63 K59 Kp64 q65
      obtain ⟨rfl, rfl⟩ := q65
      have K66 := K59.to 1 4 [t]
      refine Owe.stk [(.int (hx c3))] ?_
      refine oIstore K66 86 (d27_84 hby) (l' := #[.val (.ref x), .val (.int f), .val (.ref t), .val (.int 1), .val (.int 1), .val (.int c1), .val (.int (hx c2)), .val (.int (hx c3))]) rfl ?_
      refine oIload K66 88 (d27_86 hby) rfl ?_
      by_cases hc67 : (hx c3) < (0 : Int32)
      · refine oIfNo K66 91 (d27_88 hby) (XT.i0_ge_f hc67) ?_
        refine oAconstNull K66 92 (d27_91 hby) ?_
        exact oRetA K66 [] hret rfl rfl (d27_92 hby) (by decide) (by decide) hlk (fun x hx => by cases hx) (Or.inl ⟨rfl, rfl, (own_ftB hc19 hc67)⟩)
      · refine oIfYes K66 93 (d27_88 hby) (XT.i0_ge_t hc67) ?_
        refine oAloadN K66 94 (d27_93 hby) rfl rfl ?_
        refine oIloadN K66 95 (d27_94 hby) rfl ?_
        refine oIinc K66 98 (d27_95 hby) rfl (l' := #[.val (.ref x), .val (.int f), .val (.ref t), .val (.int 2), .val (.int 1), .val (.int c1), .val (.int (hx c2)), .val (.int (hx c3))]) rfl ?_
        refine oIload K66 100 (d27_98 hby) rfl ?_
        refine oIconstV K66 101 (4 : Int32) (d27_100 hby) rfl ?_
        refine oIshl K66 102 (d27_101 hby) ?_
        refine oIload K66 104 (d27_102 hby) rfl ?_
        refine oIor K66 105 (d27_104 hby) ?_
        refine oI2b K66 106 (d27_105 hby) ?_
        have F68 := (((((((P1.keep Kp7 nin0).keep Kp16 nin0).keep Kp26 nin0).keep Kp36 nin0).keep Kp45 nin0).keep Kp55 nin0).keep Kp64 nin0)
        refine oBastore K66 107 (by simp) F68 1 (by decide) (by decide) nlt (nar_byt _) (d27_106 hby) ?_
        intro T73 h69 lo72 K74 W70 A71
        have A75 : Ary Z h69 t .byte [(.int e0), (.int (byt (((hx c2) <<< ((4 : Int32) &&& 31)) ||| (hx c3)))), (.int 0), (.int 0)] := A71
        refine oIinc K74 110 (d27_107 hby) rfl (l' := #[.val (.ref x), .val (.int f), .val (.ref t), .val (.int 2), .val (.int 3), .val (.int c1), .val (.int (hx c2)), .val (.int (hx c3))]) rfl ?_
        refine oGoto K74 154 (d27_110 hby) ?_
        have A76 : Ary Z h69 t .byte [(.int e0), (.int (byt (tri c2 c3))), (.int 0), (.int 0)] := by rw [← own_tri hc48 hc67]; exact A75
        refine oIinc K74 157 (d27_154 hby) rfl (l' := #[.val (.ref x), .val (.int f), .val (.ref t), .val (.int 2), .val (.int 4), .val (.int c1), .val (.int (hx c2)), .val (.int (hx c3))]) rfl ?_
        refine oGoto K74 12 (d27_157 hby) ?_
        have F77 := (((((F29.keep Kp36 geN).keep Kp45 geN).keep Kp55 geN).keep Kp64 geN).wr W70 P3)
        have F78 := ((((((((P2.keep Kp7).keep Kp16).keep Kp26).keep Kp36).keep Kp45).keep Kp55).keep Kp64).wr W70)
        exact Owe.mono (fun _ _ _ q => by obtain ⟨r, e1, e2, hA⟩ := q; exact Or.inr (Or.inr (Or.inr (Or.inr ⟨r, e1, e2, hA, hc19, hc48, hc67⟩)))) (sgD4_4_2 l Z a0 z0 fm G x b t f c1 ((hx c2)) ((hx c3)) c0 c1 c2 c3 e0 ((byt (tri c2 c3))) hby hret hlk h69 (K74.to 1 4 [t] (q := by simp)) F77 A76 F78 P3 P4 P5 P6 P7 P8 P9 P10 P11)
  · refine oIcmpYes K18 113 (d27_33 hby) (XT.ii_ne_t hc19) ?_
    refine oIload K18 115 (d27_113 hby) rfl ?_
    refine oBipushV K18 117 (43 : Int32) (d27_115 hby) (by decide) ?_
    by_cases hc79 : c1 = (43 : Int32)
    · refine oIcmpNo K18 120 (d27_117 hby) (XT.ii_ne_f hc79) ?_
      refine oIloadN K18 121 (d27_120 hby) rfl ?_
      by_cases hc80 : f = (0 : Int32)
      · refine oIfYes K18 135 (d27_121 hby) (XT.i0_eq_t hc80) ?_
        refine oIload K18 137 (d27_135 hby) rfl ?_
        refine oSipushV K18 140 (255 : Int32) (d27_137 hby) (by decide) ?_
        by_cases hc81 : (255 : Int32) < c1
        · refine oIcmpNo K18 143 (d27_140 hby) (XT.ii_le_f hc81) ?_
          refine oAconstNull K18 144 (d27_143 hby) ?_
          exact oRetA K18 [] hret rfl rfl (d27_144 hby) (by decide) (by decide) hlk (fun x hx => by cases hx) (Or.inl ⟨rfl, rfl, (Or.inr ⟨hc19, (own_nok (Or.inl hc80) hc81)⟩)⟩)
        · refine oIcmpYes K18 145 (d27_140 hby) (XT.ii_le_t hc81) ?_
          refine oAloadN K18 146 (d27_145 hby) rfl rfl ?_
          refine oIloadN K18 147 (d27_146 hby) rfl ?_
          refine oIinc K18 150 (d27_147 hby) rfl (l' := #[.val (.ref x), .val (.int f), .val (.ref t), .val (.int 2), .val (.int 1), .val (.int c1), .unset, .unset]) rfl ?_
          refine oIload K18 152 (d27_150 hby) rfl ?_
          refine oI2b K18 153 (d27_152 hby) ?_
          refine oBastore K18 154 (by simp) ((P1.keep Kp7 nin0).keep Kp16 nin0) 1 (by decide) (by decide) nlt (nar_byt _) (d27_153 hby) ?_
          intro T86 h82 lo85 K87 W83 A84
          have A88 : Ary Z h82 t .byte [(.int e0), (.int (byt c1)), (.int 0), (.int 0)] := A84
          have A89 : Ary Z h82 t .byte [(.int e0), (.int (byt (one f c1))), (.int 0), (.int 0)] := by rw [own_one2 (Or.inl hc80)]; exact A88
          refine oIinc K87 157 (d27_154 hby) rfl (l' := #[.val (.ref x), .val (.int f), .val (.ref t), .val (.int 2), .val (.int 2), .val (.int c1), .unset, .unset]) rfl ?_
          refine oGoto K87 12 (d27_157 hby) ?_
          exact Owe.mono (fun _ _ _ q => by rcases q with ⟨e1, e2, ps⟩ | ⟨e1, e2, ps⟩ | ⟨r, e1, e2, hA, ps⟩; exact Or.inr (Or.inl ⟨e1, e2, hc19, (Or.inr hc81), ps⟩); exact Or.inr (Or.inr (Or.inl ⟨e1, e2, hc19, (Or.inr hc81), ps⟩)); exact Or.inr (Or.inr (Or.inr (Or.inl ⟨r, e1, e2, hA, hc19, (Or.inr hc81), ps⟩)))) (sgD4_2_2 l Z a0 z0 fm G x b t f c1 c0 c1 c2 c3 e0 ((byt (one f c1))) hby hret hlk h82 (K87.to 1 4 [t] (q := by simp)) (((P0.keep Kp7 geN).keep Kp16 geN).wr W83 P3) A89 (((P2.keep Kp7).keep Kp16).wr W83) P3 P4 P5 P6 P7 P8 P9 P10 P11)
      · refine oIfNo K18 124 (d27_121 hby) (XT.i0_eq_f hc80) ?_
        refine oAloadN K18 125 (d27_124 hby) rfl rfl ?_
        refine oIloadN K18 126 (d27_125 hby) rfl ?_
        refine oIinc K18 129 (d27_126 hby) rfl (l' := #[.val (.ref x), .val (.int f), .val (.ref t), .val (.int 2), .val (.int 1), .val (.int c1), .unset, .unset]) rfl ?_
        refine oBipushV K18 131 (32 : Int32) (d27_129 hby) (by decide) ?_
        refine oBastore K18 132 (by simp) ((P1.keep Kp7 nin0).keep Kp16 nin0) 1 (by decide) (by decide) nlt (by decide : nar .byte (32 : Int32) = (32 : Int32)) (d27_131 hby) ?_
        intro T94 h90 lo93 K95 W91 A92
        have A96 : Ary Z h90 t .byte [(.int e0), (.int 32), (.int 0), (.int 0)] := A92
        refine oGoto K95 154 (d27_132 hby) ?_
        have A97 : Ary Z h90 t .byte [(.int e0), (.int (byt (one f c1))), (.int 0), (.int 0)] := by rw [own_oneP hc80 hc79]; exact A96
        refine oIinc K95 157 (d27_154 hby) rfl (l' := #[.val (.ref x), .val (.int f), .val (.ref t), .val (.int 2), .val (.int 2), .val (.int c1), .unset, .unset]) rfl ?_
        refine oGoto K95 12 (d27_157 hby) ?_
        exact Owe.mono (fun _ _ _ q => by rcases q with ⟨e1, e2, ps⟩ | ⟨e1, e2, ps⟩ | ⟨r, e1, e2, hA, ps⟩; exact Or.inr (Or.inl ⟨e1, e2, hc19, (Or.inl ⟨hc80, hc79⟩), ps⟩); exact Or.inr (Or.inr (Or.inl ⟨e1, e2, hc19, (Or.inl ⟨hc80, hc79⟩), ps⟩)); exact Or.inr (Or.inr (Or.inr (Or.inl ⟨r, e1, e2, hA, hc19, (Or.inl ⟨hc80, hc79⟩), ps⟩)))) (sgD4_2_2 l Z a0 z0 fm G x b t f c1 c0 c1 c2 c3 e0 ((byt (one f c1))) hby hret hlk h90 (K95.to 1 4 [t] (q := by simp)) (((P0.keep Kp7 geN).keep Kp16 geN).wr W91 P3) A97 (((P2.keep Kp7).keep Kp16).wr W91) P3 P4 P5 P6 P7 P8 P9 P10 P11)
    · refine oIcmpYes K18 135 (d27_117 hby) (XT.ii_ne_t hc79) ?_
      refine oIload K18 137 (d27_135 hby) rfl ?_
      refine oSipushV K18 140 (255 : Int32) (d27_137 hby) (by decide) ?_
      by_cases hc98 : (255 : Int32) < c1
      · refine oIcmpNo K18 143 (d27_140 hby) (XT.ii_le_f hc98) ?_
        refine oAconstNull K18 144 (d27_143 hby) ?_
        exact oRetA K18 [] hret rfl rfl (d27_144 hby) (by decide) (by decide) hlk (fun x hx => by cases hx) (Or.inl ⟨rfl, rfl, (Or.inr ⟨hc19, (own_nok (Or.inr hc79) hc98)⟩)⟩)
      · refine oIcmpYes K18 145 (d27_140 hby) (XT.ii_le_t hc98) ?_
        refine oAloadN K18 146 (d27_145 hby) rfl rfl ?_
        refine oIloadN K18 147 (d27_146 hby) rfl ?_
        refine oIinc K18 150 (d27_147 hby) rfl (l' := #[.val (.ref x), .val (.int f), .val (.ref t), .val (.int 2), .val (.int 1), .val (.int c1), .unset, .unset]) rfl ?_
        refine oIload K18 152 (d27_150 hby) rfl ?_
        refine oI2b K18 153 (d27_152 hby) ?_
        refine oBastore K18 154 (by simp) ((P1.keep Kp7 nin0).keep Kp16 nin0) 1 (by decide) (by decide) nlt (nar_byt _) (d27_153 hby) ?_
        intro T103 h99 lo102 K104 W100 A101
        have A105 : Ary Z h99 t .byte [(.int e0), (.int (byt c1)), (.int 0), (.int 0)] := A101
        have A106 : Ary Z h99 t .byte [(.int e0), (.int (byt (one f c1))), (.int 0), (.int 0)] := by rw [own_one2 (Or.inr hc79)]; exact A105
        refine oIinc K104 157 (d27_154 hby) rfl (l' := #[.val (.ref x), .val (.int f), .val (.ref t), .val (.int 2), .val (.int 2), .val (.int c1), .unset, .unset]) rfl ?_
        refine oGoto K104 12 (d27_157 hby) ?_
        exact Owe.mono (fun _ _ _ q => by rcases q with ⟨e1, e2, ps⟩ | ⟨e1, e2, ps⟩ | ⟨r, e1, e2, hA, ps⟩; exact Or.inr (Or.inl ⟨e1, e2, hc19, (Or.inr hc98), ps⟩); exact Or.inr (Or.inr (Or.inl ⟨e1, e2, hc19, (Or.inr hc98), ps⟩)); exact Or.inr (Or.inr (Or.inr (Or.inl ⟨r, e1, e2, hA, hc19, (Or.inr hc98), ps⟩)))) (sgD4_2_2 l Z a0 z0 fm G x b t f c1 c0 c1 c2 c3 e0 ((byt (one f c1))) hby hret hlk h99 (K104.to 1 4 [t] (q := by simp)) (((P0.keep Kp7 geN).keep Kp16 geN).wr W100 P3) A106 (((P2.keep Kp7).keep Kp16).wr W100) P3 P4 P5 P6 P7 P8 P9 P10 P11)
theorem sgD4_3_1 (G : Gl Z a0 z0 fm) (x : Addr) (b : Nat) (t : Addr) (f q5 q6 q7 c0 c1 c2 c3 e0 : Int32) (hby : c.code = prog_18_method_4_code) (hret : meth.sig.returnType = (some (.array .byte))) (hlk : meth.locks = false) (h0 : Heap)
    (K0 : Wk p l e (rmk 7 6 40 160) s m #[(.ref x), (.int f)] below meth c Z a0 ELs "com/example/paredown/paredown/PercentEncoding" 8 [] [t] T0 lo0 1 4 h0) (P0 : Str Z h0 b x [c0, c1, c2, c3]) (P1 : Ary Z h0 t .byte [(.int e0), (.int 0), (.int 0), (.int 0)]) (P2 : Exa Z h0 t "[B") (P3 : b ≤ t) (P4 : ¬ c0 < (0 : Int32)) (P5 : ¬ (65535 : Int32) < c0) (P6 : ¬ c1 < (0 : Int32)) (P7 : ¬ (65535 : Int32) < c1) (P8 : ¬ c2 < (0 : Int32)) (P9 : ¬ (65535 : Int32) < c2) (P10 : ¬ c3 < (0 : Int32)) (P11 : ¬ (65535 : Int32) < c3) :
    Owe p e below (PostW Z ELs [] (rmk 7 6 40 160) (fun v h fs => (fs = [] ∧ v = some .null ∧ (FO f c3)) ∨ (∃ r : Addr, fs = [] ∧ v = some (.ref r) ∧ Ary Z h r .byte [(.int e0), (.int (byt (one f c3)))] ∧ ¬ c3 = (37 : Int32) ∧ okP f c3)) s) T0 (mkF m 12 #[.val (.ref x), .val (.int f), .val (.ref t), .val (.int 1), .val (.int 3), .val (.int q5), .val (.int q6), .val (.int q7)] []) := by
  obtain ⟨hw, hEL, wS, OS, hz0, OA, OH, OL, OF, rfm⟩ := id G
  refine oIload K0 14 (d27_12 hby) rfl ?_
  refine oAloadN K0 15 (d27_14 hby) rfl rfl ?_
  refine oVirtual K0 18 1 (wq hw 56) (wq hw 57) (nfSel (wq hw 59)) (wq hw 59) (wq hw 58) (wq hw 6) (wq hw 60) P0.exa (rmLen4 l Z a0 z0 fm G x b c0 c1 c2 c3 h0 K0.old K0.both P0) [] [(.int 3)] (lenOf pd575 rfl) (d27_15 hby) ?_
  intro T1 h3 v4 lo5 fs6 K2 Kp7 q8
  obtain ⟨rfl, rfl⟩ := q8
  have K9 := K2.to 1 4 [t]
  refine Owe.stk [(.int 4), (.int 3)] ?_
  refine oIcmpNo K9 21 (d27_18 hby) (XT.ii_ge_f (by decide)) ?_
  refine oAloadN K9 22 (d27_21 hby) rfl rfl ?_
  refine oIload K9 24 (d27_22 hby) rfl ?_
  refine oVirtual K9 27 0 (wq hw 99) (wq hw 14) (nfSel (wq hw 16)) (wq hw 16) (wq hw 15) (wq hw 6) (wq hw 17) (P0.exa.keep Kp7) (rmCh4_3 l Z a0 z0 fm G x b c0 c1 c2 c3 h3 K9.old K9.both (P0.keep Kp7 geN) P10 P11) [(.int 3)] [] (lenOf pd329 rfl) (d27_24 hby) ?_
  intro T10 h12 v13 lo14 fs15 K11 Kp16 q17
  obtain ⟨rfl, rfl⟩ := q17
  have K18 := K11.to 1 4 [t]
  refine Owe.stk [(.int c3)] ?_
  refine oIstore K18 29 (d27_27 hby) (l' := #[.val (.ref x), .val (.int f), .val (.ref t), .val (.int 1), .val (.int 3), .val (.int c3), .val (.int q6), .val (.int q7)]) rfl ?_
  refine oIload K18 31 (d27_29 hby) rfl ?_
  refine oBipushV K18 33 (37 : Int32) (d27_31 hby) (by decide) ?_
  by_cases hc19 : c3 = (37 : Int32)
  · refine oIcmpNo K18 36 (d27_33 hby) (XT.ii_ne_f hc19) ?_
    refine oIload K18 38 (d27_36 hby) rfl ?_
    refine oIconstV K18 39 (2 : Int32) (d27_38 hby) rfl ?_
    refine oIadd K18 40 (d27_39 hby) ?_
    show Owe _ _ _ _ T10 (mkF m 40 #[.val (.ref x), .val (.int f), .val (.ref t), .val (.int 1), .val (.int 3), .val (.int c3), .val (.int q6), .val (.int q7)] [(.int 5)])
    refine oAloadN K18 41 (d27_40 hby) rfl rfl ?_
    refine oVirtual K18 44 1 (wq hw 56) (wq hw 57) (nfSel (wq hw 59)) (wq hw 59) (wq hw 58) (wq hw 6) (wq hw 60) ((P0.exa.keep Kp7).keep Kp16) (rmLen4 l Z a0 z0 fm G x b c0 c1 c2 c3 h12 K18.old K18.both ((P0.keep Kp7 geN).keep Kp16 geN)) [] [(.int 5)] (lenOf pd575 rfl) (d27_41 hby) ?_
    intro T20 h22 v23 lo24 fs25 K21 Kp26 q27
    obtain ⟨rfl, rfl⟩ := q27
    have K28 := K21.to 1 4 [t]
    refine Owe.stk [(.int 4), (.int 5)] ?_
    refine oIcmpYes K28 61 (d27_44 hby) (XT.ii_ge_t (by decide)) ?_
    refine oIconstV K28 62 (-1 : Int32) (d27_61 hby) rfl ?_
    refine oIstore K28 64 (d27_62 hby) (l' := #[.val (.ref x), .val (.int f), .val (.ref t), .val (.int 1), .val (.int 3), .val (.int c3), .val (.int (-1)), .val (.int q7)]) rfl ?_
    refine oIload K28 66 (d27_64 hby) rfl ?_
    refine oIfNo K28 69 (d27_66 hby) (XT.i0_ge_f (by decide)) ?_
    refine oIconstV K28 70 (-1 : Int32) (d27_69 hby) rfl ?_
    refine oGoto K28 84 (d27_70 hby) ?_
    refine oIstore K28 86 (d27_84 hby) (l' := #[.val (.ref x), .val (.int f), .val (.ref t), .val (.int 1), .val (.int 3), .val (.int c3), .val (.int (-1)), .val (.int (-1))]) rfl ?_
    refine oIload K28 88 (d27_86 hby) rfl ?_
    refine oIfNo K28 91 (d27_88 hby) (XT.i0_ge_f (by decide)) ?_
    refine oAconstNull K28 92 (d27_91 hby) ?_
    exact oRetA K28 [] hret rfl rfl (d27_92 hby) (by decide) (by decide) hlk (fun x hx => by cases hx) (Or.inl ⟨rfl, rfl, (Or.inl hc19)⟩)
  · refine oIcmpYes K18 113 (d27_33 hby) (XT.ii_ne_t hc19) ?_
    refine oIload K18 115 (d27_113 hby) rfl ?_
    refine oBipushV K18 117 (43 : Int32) (d27_115 hby) (by decide) ?_
    by_cases hc29 : c3 = (43 : Int32)
    · refine oIcmpNo K18 120 (d27_117 hby) (XT.ii_ne_f hc29) ?_
      refine oIloadN K18 121 (d27_120 hby) rfl ?_
      by_cases hc30 : f = (0 : Int32)
      · refine oIfYes K18 135 (d27_121 hby) (XT.i0_eq_t hc30) ?_
        refine oIload K18 137 (d27_135 hby) rfl ?_
        refine oSipushV K18 140 (255 : Int32) (d27_137 hby) (by decide) ?_
        by_cases hc31 : (255 : Int32) < c3
        · refine oIcmpNo K18 143 (d27_140 hby) (XT.ii_le_f hc31) ?_
          refine oAconstNull K18 144 (d27_143 hby) ?_
          exact oRetA K18 [] hret rfl rfl (d27_144 hby) (by decide) (by decide) hlk (fun x hx => by cases hx) (Or.inl ⟨rfl, rfl, (Or.inr (own_nok (Or.inl hc30) hc31))⟩)
        · refine oIcmpYes K18 145 (d27_140 hby) (XT.ii_le_t hc31) ?_
          refine oAloadN K18 146 (d27_145 hby) rfl rfl ?_
          refine oIloadN K18 147 (d27_146 hby) rfl ?_
          refine oIinc K18 150 (d27_147 hby) rfl (l' := #[.val (.ref x), .val (.int f), .val (.ref t), .val (.int 2), .val (.int 3), .val (.int c3), .val (.int q6), .val (.int q7)]) rfl ?_
          refine oIload K18 152 (d27_150 hby) rfl ?_
          refine oI2b K18 153 (d27_152 hby) ?_
          refine oBastore K18 154 (by simp) ((P1.keep Kp7 nin0).keep Kp16 nin0) 1 (by decide) (by decide) nlt (nar_byt _) (d27_153 hby) ?_
          intro T36 h32 lo35 K37 W33 A34
          have A38 : Ary Z h32 t .byte [(.int e0), (.int (byt c3)), (.int 0), (.int 0)] := A34
          have A39 : Ary Z h32 t .byte [(.int e0), (.int (byt (one f c3))), (.int 0), (.int 0)] := by rw [own_one2 (Or.inl hc30)]; exact A38
          refine oIinc K37 157 (d27_154 hby) rfl (l' := #[.val (.ref x), .val (.int f), .val (.ref t), .val (.int 2), .val (.int 4), .val (.int c3), .val (.int q6), .val (.int q7)]) rfl ?_
          refine oGoto K37 12 (d27_157 hby) ?_
          exact Owe.mono (fun _ _ _ q => by obtain ⟨r, e1, e2, hA⟩ := q; exact Or.inr ⟨r, e1, e2, hA, hc19, (Or.inr hc31)⟩) (sgD4_4_2 l Z a0 z0 fm G x b t f c3 q6 q7 c0 c1 c2 c3 e0 ((byt (one f c3))) hby hret hlk h32 (K37.to 1 4 [t] (q := by simp)) (((P0.keep Kp7 geN).keep Kp16 geN).wr W33 P3) A39 (((P2.keep Kp7).keep Kp16).wr W33) P3 P4 P5 P6 P7 P8 P9 P10 P11)
      · refine oIfNo K18 124 (d27_121 hby) (XT.i0_eq_f hc30) ?_
        refine oAloadN K18 125 (d27_124 hby) rfl rfl ?_
        refine oIloadN K18 126 (d27_125 hby) rfl ?_
        refine oIinc K18 129 (d27_126 hby) rfl (l' := #[.val (.ref x), .val (.int f), .val (.ref t), .val (.int 2), .val (.int 3), .val (.int c3), .val (.int q6), .val (.int q7)]) rfl ?_
        refine oBipushV K18 131 (32 : Int32) (d27_129 hby) (by decide) ?_
        refine oBastore K18 132 (by simp) ((P1.keep Kp7 nin0).keep Kp16 nin0) 1 (by decide) (by decide) nlt (by decide : nar .byte (32 : Int32) = (32 : Int32)) (d27_131 hby) ?_
        intro T44 h40 lo43 K45 W41 A42
        have A46 : Ary Z h40 t .byte [(.int e0), (.int 32), (.int 0), (.int 0)] := A42
        refine oGoto K45 154 (d27_132 hby) ?_
        have A47 : Ary Z h40 t .byte [(.int e0), (.int (byt (one f c3))), (.int 0), (.int 0)] := by rw [own_oneP hc30 hc29]; exact A46
        refine oIinc K45 157 (d27_154 hby) rfl (l' := #[.val (.ref x), .val (.int f), .val (.ref t), .val (.int 2), .val (.int 4), .val (.int c3), .val (.int q6), .val (.int q7)]) rfl ?_
        refine oGoto K45 12 (d27_157 hby) ?_
        exact Owe.mono (fun _ _ _ q => by obtain ⟨r, e1, e2, hA⟩ := q; exact Or.inr ⟨r, e1, e2, hA, hc19, (Or.inl ⟨hc30, hc29⟩)⟩) (sgD4_4_2 l Z a0 z0 fm G x b t f c3 q6 q7 c0 c1 c2 c3 e0 ((byt (one f c3))) hby hret hlk h40 (K45.to 1 4 [t] (q := by simp)) (((P0.keep Kp7 geN).keep Kp16 geN).wr W41 P3) A47 (((P2.keep Kp7).keep Kp16).wr W41) P3 P4 P5 P6 P7 P8 P9 P10 P11)
    · refine oIcmpYes K18 135 (d27_117 hby) (XT.ii_ne_t hc29) ?_
      refine oIload K18 137 (d27_135 hby) rfl ?_
      refine oSipushV K18 140 (255 : Int32) (d27_137 hby) (by decide) ?_
      by_cases hc48 : (255 : Int32) < c3
      · refine oIcmpNo K18 143 (d27_140 hby) (XT.ii_le_f hc48) ?_
        refine oAconstNull K18 144 (d27_143 hby) ?_
        exact oRetA K18 [] hret rfl rfl (d27_144 hby) (by decide) (by decide) hlk (fun x hx => by cases hx) (Or.inl ⟨rfl, rfl, (Or.inr (own_nok (Or.inr hc29) hc48))⟩)
      · refine oIcmpYes K18 145 (d27_140 hby) (XT.ii_le_t hc48) ?_
        refine oAloadN K18 146 (d27_145 hby) rfl rfl ?_
        refine oIloadN K18 147 (d27_146 hby) rfl ?_
        refine oIinc K18 150 (d27_147 hby) rfl (l' := #[.val (.ref x), .val (.int f), .val (.ref t), .val (.int 2), .val (.int 3), .val (.int c3), .val (.int q6), .val (.int q7)]) rfl ?_
        refine oIload K18 152 (d27_150 hby) rfl ?_
        refine oI2b K18 153 (d27_152 hby) ?_
        refine oBastore K18 154 (by simp) ((P1.keep Kp7 nin0).keep Kp16 nin0) 1 (by decide) (by decide) nlt (nar_byt _) (d27_153 hby) ?_
        intro T53 h49 lo52 K54 W50 A51
        have A55 : Ary Z h49 t .byte [(.int e0), (.int (byt c3)), (.int 0), (.int 0)] := A51
        have A56 : Ary Z h49 t .byte [(.int e0), (.int (byt (one f c3))), (.int 0), (.int 0)] := by rw [own_one2 (Or.inr hc29)]; exact A55
        refine oIinc K54 157 (d27_154 hby) rfl (l' := #[.val (.ref x), .val (.int f), .val (.ref t), .val (.int 2), .val (.int 4), .val (.int c3), .val (.int q6), .val (.int q7)]) rfl ?_
        refine oGoto K54 12 (d27_157 hby) ?_
        exact Owe.mono (fun _ _ _ q => by obtain ⟨r, e1, e2, hA⟩ := q; exact Or.inr ⟨r, e1, e2, hA, hc19, (Or.inr hc48)⟩) (sgD4_4_2 l Z a0 z0 fm G x b t f c3 q6 q7 c0 c1 c2 c3 e0 ((byt (one f c3))) hby hret hlk h49 (K54.to 1 4 [t] (q := by simp)) (((P0.keep Kp7 geN).keep Kp16 geN).wr W50 P3) A56 (((P2.keep Kp7).keep Kp16).wr W50) P3 P4 P5 P6 P7 P8 P9 P10 P11)
theorem rmDB4 (G : Gl Z a0 z0 fm) (x : Addr) (b : Nat) (f c0 c1 c2 c3 : Int32) (h0 : Heap) (hZh : Ext Z.heap h0) (hsf : Own Z h0 []) (P0 : Str Z h0 b x [c0, c1, c2, c3]) (P1 : ¬ c0 < (0 : Int32)) (P2 : ¬ (65535 : Int32) < c0) (P3 : ¬ c1 < (0 : Int32)) (P4 : ¬ (65535 : Int32) < c1) (P5 : ¬ c2 < (0 : Int32)) (P6 : ¬ (65535 : Int32) < c2) (P7 : ¬ c3 < (0 : Int32)) (P8 : ¬ (65535 : Int32) < c3) :
    Ctr l Z ELs yn592 prog_18_method_4_code 8 (some (.array .byte)) [] (rmk 7 6 40 160) #[(.ref x), (.int f)] [] h0 (fun v h fs => (fs = [] ∧ v = some .null ∧ (FT f c0 c1 c2)) ∨ (fs = [] ∧ v = some .null ∧ ¬ c0 = (37 : Int32) ∧ okP f c0 ∧ (FT f c1 c2 c3)) ∨ (fs = [] ∧ v = some .null ∧ ¬ c0 = (37 : Int32) ∧ okP f c0 ∧ ¬ c1 = (37 : Int32) ∧ okP f c1 ∧ (FO f c2)) ∨ (fs = [] ∧ v = some .null ∧ ¬ c0 = (37 : Int32) ∧ okP f c0 ∧ ¬ c1 = (37 : Int32) ∧ okP f c1 ∧ ¬ c2 = (37 : Int32) ∧ okP f c2 ∧ (FO f c3)) ∨ (∃ r : Addr, fs = [] ∧ v = some (.ref r) ∧ Ary Z h r .byte [(.int (byt (one f c0))), (.int (byt (one f c1))), (.int (byt (one f c2))), (.int (byt (one f c3)))] ∧ ¬ c0 = (37 : Int32) ∧ okP f c0 ∧ ¬ c1 = (37 : Int32) ∧ okP f c1 ∧ ¬ c2 = (37 : Int32) ∧ okP f c2 ∧ ¬ c3 = (37 : Int32) ∧ okP f c3) ∨ (∃ r : Addr, fs = [] ∧ v = some (.ref r) ∧ Ary Z h r .byte [(.int (byt (one f c0))), (.int (byt (tri c2 c3)))] ∧ ¬ c0 = (37 : Int32) ∧ okP f c0 ∧ c1 = (37 : Int32) ∧ ¬ (hx c2) < (0 : Int32) ∧ ¬ (hx c3) < (0 : Int32)) ∨ (fs = [] ∧ v = some .null ∧ c0 = (37 : Int32) ∧ ¬ (hx c1) < (0 : Int32) ∧ ¬ (hx c2) < (0 : Int32) ∧ (FO f c3)) ∨ (∃ r : Addr, fs = [] ∧ v = some (.ref r) ∧ Ary Z h r .byte [(.int (byt (tri c1 c2))), (.int (byt (one f c3)))] ∧ c0 = (37 : Int32) ∧ ¬ (hx c1) < (0 : Int32) ∧ ¬ (hx c2) < (0 : Int32) ∧ ¬ c3 = (37 : Int32) ∧ okP f c3)) := by
  obtain ⟨hw, hEL, wS, OS, hz0, OA, OH, OL, OF, rfm⟩ := id G
  refine Ctr.intro pn403 hEL hZh hsf ?_
  intro p e s m below meth c s₁ hby hml hret hnm hlk hh K0
  refine Owe.cast (ef591 m x f) ?_
  refine oAloadN K0 1 (d27_0 hby) rfl rfl ?_
  refine oVirtual K0 4 0 (wq hw 56) (wq hw 57) (nfSel (wq hw 59)) (wq hw 59) (wq hw 58) (wq hw 6) (wq hw 60) P0.exa (rmLen4 l Z a0 z0 fm G x b c0 c1 c2 c3 h0 K0.old K0.both P0) [] [] (lenOf pd575 rfl) (d27_1 hby) ?_
  intro T1 h3 v4 lo5 fs6 K2 Kp7 q8
  obtain ⟨rfl, rfl⟩ := q8
  have K9 := K2.to 0 0 []
  refine Owe.stk [(.int 4)] ?_
  refine oNewPE K9 6 (ty := .byte) 4 (wq hw 8) rfl (by decide) (by decide) (by decide) (d27_4 hby) (by decide) (by decide) (ad := "[B") rfl ?_
  intro T15 h10 a11 g12 K16 E13 A14 X17
  have K18 := K16.to 1 4 [a11]
  refine oAstoreN K18 7 (d27_6 hby) rfl (l' := #[.val (.ref x), .val (.int f), .val (.ref a11), .unset, .unset, .unset, .unset, .unset]) rfl ?_
  refine oIconstV K18 8 (0 : Int32) (d27_7 hby) rfl ?_
  refine oIstoreN K18 9 (d27_8 hby) (l' := #[.val (.ref x), .val (.int f), .val (.ref a11), .val (.int 0), .unset, .unset, .unset, .unset]) rfl ?_
  refine oIconstV K18 10 (0 : Int32) (d27_9 hby) rfl ?_
  refine oIstore K18 12 (d27_10 hby) (l' := #[.val (.ref x), .val (.int f), .val (.ref a11), .val (.int 0), .val (.int 0), .unset, .unset, .unset]) rfl ?_
  refine oIload K18 14 (d27_12 hby) rfl ?_
  refine oAloadN K18 15 (d27_14 hby) rfl rfl ?_
  refine oVirtual K18 18 1 (wq hw 56) (wq hw 57) (nfSel (wq hw 59)) (wq hw 59) (wq hw 58) (wq hw 6) (wq hw 60) ((P0.exa.keep Kp7).ext E13) (rmLen4 l Z a0 z0 fm G x b c0 c1 c2 c3 h10 K18.old K18.both ((P0.keep Kp7 geN).ext E13)) [] [(.int 0)] (lenOf pd575 rfl) (d27_15 hby) ?_
  intro T19 h21 v22 lo23 fs24 K20 Kp25 q26
  obtain ⟨rfl, rfl⟩ := q26
  have K27 := K20.to 1 4 [a11]
  refine Owe.stk [(.int 4), (.int 0)] ?_
  refine oIcmpNo K27 21 (d27_18 hby) (XT.ii_ge_f (by decide)) ?_
  refine oAloadN K27 22 (d27_21 hby) rfl rfl ?_
  refine oIload K27 24 (d27_22 hby) rfl ?_
  refine oVirtual K27 27 0 (wq hw 99) (wq hw 14) (nfSel (wq hw 16)) (wq hw 16) (wq hw 15) (wq hw 6) (wq hw 17) (((P0.exa.keep Kp7).ext E13).keep Kp25) (rmCh4_0 l Z a0 z0 fm G x b c0 c1 c2 c3 h21 K27.old K27.both (((P0.keep Kp7 geN).ext E13).keep Kp25 geN) P1 P2) [(.int 0)] [] (lenOf pd329 rfl) (d27_24 hby) ?_
  intro T28 h30 v31 lo32 fs33 K29 Kp34 q35
  obtain ⟨rfl, rfl⟩ := q35
  have K36 := K29.to 1 4 [a11]
  refine Owe.stk [(.int c0)] ?_
  refine oIstore K36 29 (d27_27 hby) (l' := #[.val (.ref x), .val (.int f), .val (.ref a11), .val (.int 0), .val (.int 0), .val (.int c0), .unset, .unset]) rfl ?_
  refine oIload K36 31 (d27_29 hby) rfl ?_
  refine oBipushV K36 33 (37 : Int32) (d27_31 hby) (by decide) ?_
  by_cases hc37 : c0 = (37 : Int32)
  · refine oIcmpNo K36 36 (d27_33 hby) (XT.ii_ne_f hc37) ?_
    refine oIload K36 38 (d27_36 hby) rfl ?_
    refine oIconstV K36 39 (2 : Int32) (d27_38 hby) rfl ?_
    refine oIadd K36 40 (d27_39 hby) ?_
    show Owe _ _ _ _ T28 (mkF m 40 #[.val (.ref x), .val (.int f), .val (.ref a11), .val (.int 0), .val (.int 0), .val (.int c0), .unset, .unset] [(.int 2)])
    refine oAloadN K36 41 (d27_40 hby) rfl rfl ?_
    have F38 := ((((P0.keep Kp7 geN).ext E13).keep Kp25 geN).keep Kp34 geN)
    have F39 := ((((P0.exa.keep Kp7).ext E13).keep Kp25).keep Kp34)
    refine oVirtual K36 44 1 (wq hw 56) (wq hw 57) (nfSel (wq hw 59)) (wq hw 59) (wq hw 58) (wq hw 6) (wq hw 60) F39 (rmLen4 l Z a0 z0 fm G x b c0 c1 c2 c3 h30 K36.old K36.both F38) [] [(.int 2)] (lenOf pd575 rfl) (d27_41 hby) ?_
    intro T40 h42 v43 lo44 fs45 K41 Kp46 q47
    obtain ⟨rfl, rfl⟩ := q47
    have K48 := K41.to 1 4 [a11]
    refine Owe.stk [(.int 4), (.int 2)] ?_
    refine oIcmpNo K48 47 (d27_44 hby) (XT.ii_ge_f (by decide)) ?_
    refine oAloadN K48 48 (d27_47 hby) rfl rfl ?_
    refine oIload K48 50 (d27_48 hby) rfl ?_
    refine oIconstV K48 51 (1 : Int32) (d27_50 hby) rfl ?_
    refine oIadd K48 52 (d27_51 hby) ?_
    show Owe _ _ _ _ T40 (mkF m 52 #[.val (.ref x), .val (.int f), .val (.ref a11), .val (.int 0), .val (.int 0), .val (.int c0), .unset, .unset] [(.int 1), (.ref x)])
    refine oVirtual K48 55 0 (wq hw 99) (wq hw 14) (nfSel (wq hw 16)) (wq hw 16) (wq hw 15) (wq hw 6) (wq hw 17) (F38.exa.keep Kp46) (rmCh4_1 l Z a0 z0 fm G x b c0 c1 c2 c3 h42 K48.old K48.both (F38.keep Kp46 geN) P3 P4) [(.int 1)] [] (lenOf pd329 rfl) (d27_52 hby) ?_
    intro T49 h51 v52 lo53 fs54 K50 Kp55 q56
    obtain ⟨rfl, rfl⟩ := q56
    have K57 := K50.to 1 4 [a11]
    refine Owe.stk [(.int c1)] ?_
    refine oStatic K57 58 0 (wq hw 132) (wq hw 133) (wq hw 54) (wq hw 134) (rmHxD l Z a0 z0 fm G c1 h51 K57.old K57.both ) [(.int c1)] [] (lenOf pd470 rfl) (d27_55 hby) ?_
    intro T58 h60 v61 lo62 fs63 K59 Kp64 q65
    obtain ⟨rfl, rfl⟩ := q65
    have K66 := K59.to 1 4 [a11]
    refine Owe.stk [(.int (hx c1))] ?_
    refine oGoto K66 62 (d27_58 hby) ?_
    refine oIstore K66 64 (d27_62 hby) (l' := #[.val (.ref x), .val (.int f), .val (.ref a11), .val (.int 0), .val (.int 0), .val (.int c0), .val (.int (hx c1)), .unset]) rfl ?_
    refine oIload K66 66 (d27_64 hby) rfl ?_
    by_cases hc67 : (hx c1) < (0 : Int32)
    · refine oIfNo K66 69 (d27_66 hby) (XT.i0_ge_f hc67) ?_
      refine oIconstV K66 70 (-1 : Int32) (d27_69 hby) rfl ?_
      refine oGoto K66 84 (d27_70 hby) ?_
      refine oIstore K66 86 (d27_84 hby) (l' := #[.val (.ref x), .val (.int f), .val (.ref a11), .val (.int 0), .val (.int 0), .val (.int c0), .val (.int (hx c1)), .val (.int (-1))]) rfl ?_
      refine oIload K66 88 (d27_86 hby) rfl ?_
      refine oIfNo K66 91 (d27_88 hby) (XT.i0_ge_f (by decide)) ?_
      refine oAconstNull K66 92 (d27_91 hby) ?_
      exact oRetA K66 [] hret rfl rfl (d27_92 hby) (by decide) (by decide) hlk (fun x hx => by cases hx) (Or.inl ⟨rfl, rfl, (own_ftA hc37 hc67)⟩)
    · refine oIfYes K66 73 (d27_66 hby) (XT.i0_ge_t hc67) ?_
      refine oAloadN K66 74 (d27_73 hby) rfl rfl ?_
      refine oIload K66 76 (d27_74 hby) rfl ?_
      refine oIconstV K66 77 (2 : Int32) (d27_76 hby) rfl ?_
      refine oIadd K66 78 (d27_77 hby) ?_
      show Owe _ _ _ _ T58 (mkF m 78 #[.val (.ref x), .val (.int f), .val (.ref a11), .val (.int 0), .val (.int 0), .val (.int c0), .val (.int (hx c1)), .unset] [(.int 2), (.ref x)])
      have F68 := (((F38.keep Kp46 geN).keep Kp55 geN).keep Kp64 geN)
      refine oVirtual K66 81 0 (wq hw 99) (wq hw 14) (nfSel (wq hw 16)) (wq hw 16) (wq hw 15) (wq hw 6) (wq hw 17) (((F38.exa.keep Kp46).keep Kp55).keep Kp64) (rmCh4_2 l Z a0 z0 fm G x b c0 c1 c2 c3 h60 K66.old K66.both F68 P5 P6) [(.int 2)] [] (lenOf pd329 rfl) (d27_78 hby) ?_
      intro T69 h71 v72 lo73 fs74 K70 Kp75 q76
      obtain ⟨rfl, rfl⟩ := q76
      have K77 := K70.to 1 4 [a11]
      refine Owe.stk [(.int c2)] ?_
      refine oStatic K77 84 0 (wq hw 132) (wq hw 133) (wq hw 54) (wq hw 134) (rmHxD l Z a0 z0 fm G c2 h71 K77.old K77.both ) [(.int c2)] [] (lenOf pd470 rfl) (d27_81 hby) ?_
      intro T78 h80 v81 lo82 fs83 K79 Kp84 q85
      obtain ⟨rfl, rfl⟩ := q85
      have K86 := K79.to 1 4 [a11]
      refine Owe.stk [(.int (hx c2))] ?_
      refine oIstore K86 86 (d27_84 hby) (l' := #[.val (.ref x), .val (.int f), .val (.ref a11), .val (.int 0), .val (.int 0), .val (.int c0), .val (.int (hx c1)), .val (.int (hx c2))]) rfl ?_
      refine oIload K86 88 (d27_86 hby) rfl ?_
      by_cases hc87 : (hx c2) < (0 : Int32)
      · refine oIfNo K86 91 (d27_88 hby) (XT.i0_ge_f hc87) ?_
        refine oAconstNull K86 92 (d27_91 hby) ?_
        exact oRetA K86 [] hret rfl rfl (d27_92 hby) (by decide) (by decide) hlk (fun x hx => by cases hx) (Or.inl ⟨rfl, rfl, (own_ftB hc37 hc87)⟩)
      · refine oIfYes K86 93 (d27_88 hby) (XT.i0_ge_t hc87) ?_
        refine oAloadN K86 94 (d27_93 hby) rfl rfl ?_
        refine oIloadN K86 95 (d27_94 hby) rfl ?_
        refine oIinc K86 98 (d27_95 hby) rfl (l' := #[.val (.ref x), .val (.int f), .val (.ref a11), .val (.int 1), .val (.int 0), .val (.int c0), .val (.int (hx c1)), .val (.int (hx c2))]) rfl ?_
        refine oIload K86 100 (d27_98 hby) rfl ?_
        refine oIconstV K86 101 (4 : Int32) (d27_100 hby) rfl ?_
        refine oIshl K86 102 (d27_101 hby) ?_
        refine oIload K86 104 (d27_102 hby) rfl ?_
        refine oIor K86 105 (d27_104 hby) ?_
        refine oI2b K86 106 (d27_105 hby) ?_
        have F88 := (((((((A14.keep Kp25 nin0).keep Kp34 nin0).keep Kp46 nin0).keep Kp55 nin0).keep Kp64 nin0).keep Kp75 nin0).keep Kp84 nin0)
        refine oBastore K86 107 (by simp) F88 0 (by decide) (by decide) nlt (nar_byt _) (d27_106 hby) ?_
        intro T93 h89 lo92 K94 W90 A91
        have A95 : Ary Z h89 a11 .byte [(.int (byt (((hx c1) <<< ((4 : Int32) &&& 31)) ||| (hx c2)))), (.int 0), (.int 0), (.int 0)] := A91
        refine oIinc K94 110 (d27_107 hby) rfl (l' := #[.val (.ref x), .val (.int f), .val (.ref a11), .val (.int 1), .val (.int 2), .val (.int c0), .val (.int (hx c1)), .val (.int (hx c2))]) rfl ?_
        refine oGoto K94 154 (d27_110 hby) ?_
        have A96 : Ary Z h89 a11 .byte [(.int (byt (tri c1 c2))), (.int 0), (.int 0), (.int 0)] := by rw [← own_tri hc67 hc87]; exact A95
        refine oIinc K94 157 (d27_154 hby) rfl (l' := #[.val (.ref x), .val (.int f), .val (.ref a11), .val (.int 1), .val (.int 3), .val (.int c0), .val (.int (hx c1)), .val (.int (hx c2))]) rfl ?_
        refine oGoto K94 12 (d27_157 hby) ?_
        have F97 := (((F68.keep Kp75 geN).keep Kp84 geN).wr W90 (Nat.le_trans (P0.keep Kp7 geN).bd (Nat.le_of_eq g12)))
        have F98 := ((((((((X17.keep Kp25).keep Kp34).keep Kp46).keep Kp55).keep Kp64).keep Kp75).keep Kp84).wr W90)
        exact Owe.mono (fun _ _ _ q => by rcases q with ⟨e1, e2, ps⟩ | ⟨r, e1, e2, hA, ps⟩; exact Or.inr (Or.inr (Or.inr (Or.inr (Or.inr (Or.inr (Or.inl ⟨e1, e2, hc37, hc67, hc87, ps⟩)))))); exact Or.inr (Or.inr (Or.inr (Or.inr (Or.inr (Or.inr (Or.inr ⟨r, e1, e2, hA, hc37, hc67, hc87, ps⟩))))))) (sgD4_3_1 l Z a0 z0 fm G x b a11 f c0 ((hx c1)) ((hx c2)) c0 c1 c2 c3 ((byt (tri c1 c2))) hby hret hlk h89 (K94.to 1 4 [a11] (q := by simp)) F97 A96 F98 (Nat.le_trans (P0.keep Kp7 geN).bd (Nat.le_of_eq g12)) P1 P2 P3 P4 P5 P6 P7 P8)
  · refine oIcmpYes K36 113 (d27_33 hby) (XT.ii_ne_t hc37) ?_
    refine oIload K36 115 (d27_113 hby) rfl ?_
    refine oBipushV K36 117 (43 : Int32) (d27_115 hby) (by decide) ?_
    by_cases hc99 : c0 = (43 : Int32)
    · refine oIcmpNo K36 120 (d27_117 hby) (XT.ii_ne_f hc99) ?_
      refine oIloadN K36 121 (d27_120 hby) rfl ?_
      by_cases hc100 : f = (0 : Int32)
      · refine oIfYes K36 135 (d27_121 hby) (XT.i0_eq_t hc100) ?_
        refine oIload K36 137 (d27_135 hby) rfl ?_
        refine oSipushV K36 140 (255 : Int32) (d27_137 hby) (by decide) ?_
        by_cases hc101 : (255 : Int32) < c0
        · refine oIcmpNo K36 143 (d27_140 hby) (XT.ii_le_f hc101) ?_
          refine oAconstNull K36 144 (d27_143 hby) ?_
          exact oRetA K36 [] hret rfl rfl (d27_144 hby) (by decide) (by decide) hlk (fun x hx => by cases hx) (Or.inl ⟨rfl, rfl, (Or.inr ⟨hc37, (own_nok (Or.inl hc100) hc101)⟩)⟩)
        · refine oIcmpYes K36 145 (d27_140 hby) (XT.ii_le_t hc101) ?_
          refine oAloadN K36 146 (d27_145 hby) rfl rfl ?_
          refine oIloadN K36 147 (d27_146 hby) rfl ?_
          refine oIinc K36 150 (d27_147 hby) rfl (l' := #[.val (.ref x), .val (.int f), .val (.ref a11), .val (.int 1), .val (.int 0), .val (.int c0), .unset, .unset]) rfl ?_
          refine oIload K36 152 (d27_150 hby) rfl ?_
          refine oI2b K36 153 (d27_152 hby) ?_
          refine oBastore K36 154 (by simp) ((A14.keep Kp25 nin0).keep Kp34 nin0) 0 (by decide) (by decide) nlt (nar_byt _) (d27_153 hby) ?_
          intro T106 h102 lo105 K107 W103 A104
          have A108 : Ary Z h102 a11 .byte [(.int (byt c0)), (.int 0), (.int 0), (.int 0)] := A104
          have A109 : Ary Z h102 a11 .byte [(.int (byt (one f c0))), (.int 0), (.int 0), (.int 0)] := by rw [own_one2 (Or.inl hc100)]; exact A108
          refine oIinc K107 157 (d27_154 hby) rfl (l' := #[.val (.ref x), .val (.int f), .val (.ref a11), .val (.int 1), .val (.int 1), .val (.int c0), .unset, .unset]) rfl ?_
          refine oGoto K107 12 (d27_157 hby) ?_
          have F110 := (((((P0.keep Kp7 geN).ext E13).keep Kp25 geN).keep Kp34 geN).wr W103 (Nat.le_trans (P0.keep Kp7 geN).bd (Nat.le_of_eq g12)))
          exact Owe.mono (fun _ _ _ q => by rcases q with ⟨e1, e2, ps⟩ | ⟨e1, e2, ps⟩ | ⟨e1, e2, ps⟩ | ⟨r, e1, e2, hA, ps⟩ | ⟨r, e1, e2, hA, ps⟩; exact Or.inr (Or.inl ⟨e1, e2, hc37, (Or.inr hc101), ps⟩); exact Or.inr (Or.inr (Or.inl ⟨e1, e2, hc37, (Or.inr hc101), ps⟩)); exact Or.inr (Or.inr (Or.inr (Or.inl ⟨e1, e2, hc37, (Or.inr hc101), ps⟩))); exact Or.inr (Or.inr (Or.inr (Or.inr (Or.inl ⟨r, e1, e2, hA, hc37, (Or.inr hc101), ps⟩)))); exact Or.inr (Or.inr (Or.inr (Or.inr (Or.inr (Or.inl ⟨r, e1, e2, hA, hc37, (Or.inr hc101), ps⟩)))))) (sgD4_1_1 l Z a0 z0 fm G x b a11 f c0 c0 c1 c2 c3 ((byt (one f c0))) hby hret hlk h102 (K107.to 1 4 [a11] (q := by simp)) F110 A109 (((X17.keep Kp25).keep Kp34).wr W103) (Nat.le_trans (P0.keep Kp7 geN).bd (Nat.le_of_eq g12)) P1 P2 P3 P4 P5 P6 P7 P8)
      · refine oIfNo K36 124 (d27_121 hby) (XT.i0_eq_f hc100) ?_
        refine oAloadN K36 125 (d27_124 hby) rfl rfl ?_
        refine oIloadN K36 126 (d27_125 hby) rfl ?_
        refine oIinc K36 129 (d27_126 hby) rfl (l' := #[.val (.ref x), .val (.int f), .val (.ref a11), .val (.int 1), .val (.int 0), .val (.int c0), .unset, .unset]) rfl ?_
        refine oBipushV K36 131 (32 : Int32) (d27_129 hby) (by decide) ?_
        refine oBastore K36 132 (by simp) ((A14.keep Kp25 nin0).keep Kp34 nin0) 0 (by decide) (by decide) nlt (by decide : nar .byte (32 : Int32) = (32 : Int32)) (d27_131 hby) ?_
        intro T115 h111 lo114 K116 W112 A113
        have A117 : Ary Z h111 a11 .byte [(.int 32), (.int 0), (.int 0), (.int 0)] := A113
        refine oGoto K116 154 (d27_132 hby) ?_
        have A118 : Ary Z h111 a11 .byte [(.int (byt (one f c0))), (.int 0), (.int 0), (.int 0)] := by rw [own_oneP hc100 hc99]; exact A117
        refine oIinc K116 157 (d27_154 hby) rfl (l' := #[.val (.ref x), .val (.int f), .val (.ref a11), .val (.int 1), .val (.int 1), .val (.int c0), .unset, .unset]) rfl ?_
        refine oGoto K116 12 (d27_157 hby) ?_
        have F119 := (((((P0.keep Kp7 geN).ext E13).keep Kp25 geN).keep Kp34 geN).wr W112 (Nat.le_trans (P0.keep Kp7 geN).bd (Nat.le_of_eq g12)))
        exact Owe.mono (fun _ _ _ q => by rcases q with ⟨e1, e2, ps⟩ | ⟨e1, e2, ps⟩ | ⟨e1, e2, ps⟩ | ⟨r, e1, e2, hA, ps⟩ | ⟨r, e1, e2, hA, ps⟩; exact Or.inr (Or.inl ⟨e1, e2, hc37, (Or.inl ⟨hc100, hc99⟩), ps⟩); exact Or.inr (Or.inr (Or.inl ⟨e1, e2, hc37, (Or.inl ⟨hc100, hc99⟩), ps⟩)); exact Or.inr (Or.inr (Or.inr (Or.inl ⟨e1, e2, hc37, (Or.inl ⟨hc100, hc99⟩), ps⟩))); exact Or.inr (Or.inr (Or.inr (Or.inr (Or.inl ⟨r, e1, e2, hA, hc37, (Or.inl ⟨hc100, hc99⟩), ps⟩)))); exact Or.inr (Or.inr (Or.inr (Or.inr (Or.inr (Or.inl ⟨r, e1, e2, hA, hc37, (Or.inl ⟨hc100, hc99⟩), ps⟩)))))) (sgD4_1_1 l Z a0 z0 fm G x b a11 f c0 c0 c1 c2 c3 ((byt (one f c0))) hby hret hlk h111 (K116.to 1 4 [a11] (q := by simp)) F119 A118 (((X17.keep Kp25).keep Kp34).wr W112) (Nat.le_trans (P0.keep Kp7 geN).bd (Nat.le_of_eq g12)) P1 P2 P3 P4 P5 P6 P7 P8)
    · refine oIcmpYes K36 135 (d27_117 hby) (XT.ii_ne_t hc99) ?_
      refine oIload K36 137 (d27_135 hby) rfl ?_
      refine oSipushV K36 140 (255 : Int32) (d27_137 hby) (by decide) ?_
      by_cases hc120 : (255 : Int32) < c0
      · refine oIcmpNo K36 143 (d27_140 hby) (XT.ii_le_f hc120) ?_
        refine oAconstNull K36 144 (d27_143 hby) ?_
        exact oRetA K36 [] hret rfl rfl (d27_144 hby) (by decide) (by decide) hlk (fun x hx => by cases hx) (Or.inl ⟨rfl, rfl, (Or.inr ⟨hc37, (own_nok (Or.inr hc99) hc120)⟩)⟩)
      · refine oIcmpYes K36 145 (d27_140 hby) (XT.ii_le_t hc120) ?_
        refine oAloadN K36 146 (d27_145 hby) rfl rfl ?_
        refine oIloadN K36 147 (d27_146 hby) rfl ?_
        refine oIinc K36 150 (d27_147 hby) rfl (l' := #[.val (.ref x), .val (.int f), .val (.ref a11), .val (.int 1), .val (.int 0), .val (.int c0), .unset, .unset]) rfl ?_
        refine oIload K36 152 (d27_150 hby) rfl ?_
        refine oI2b K36 153 (d27_152 hby) ?_
        refine oBastore K36 154 (by simp) ((A14.keep Kp25 nin0).keep Kp34 nin0) 0 (by decide) (by decide) nlt (nar_byt _) (d27_153 hby) ?_
        intro T125 h121 lo124 K126 W122 A123
        have A127 : Ary Z h121 a11 .byte [(.int (byt c0)), (.int 0), (.int 0), (.int 0)] := A123
        have A128 : Ary Z h121 a11 .byte [(.int (byt (one f c0))), (.int 0), (.int 0), (.int 0)] := by rw [own_one2 (Or.inr hc99)]; exact A127
        refine oIinc K126 157 (d27_154 hby) rfl (l' := #[.val (.ref x), .val (.int f), .val (.ref a11), .val (.int 1), .val (.int 1), .val (.int c0), .unset, .unset]) rfl ?_
        refine oGoto K126 12 (d27_157 hby) ?_
        have F129 := (((((P0.keep Kp7 geN).ext E13).keep Kp25 geN).keep Kp34 geN).wr W122 (Nat.le_trans (P0.keep Kp7 geN).bd (Nat.le_of_eq g12)))
        exact Owe.mono (fun _ _ _ q => by rcases q with ⟨e1, e2, ps⟩ | ⟨e1, e2, ps⟩ | ⟨e1, e2, ps⟩ | ⟨r, e1, e2, hA, ps⟩ | ⟨r, e1, e2, hA, ps⟩; exact Or.inr (Or.inl ⟨e1, e2, hc37, (Or.inr hc120), ps⟩); exact Or.inr (Or.inr (Or.inl ⟨e1, e2, hc37, (Or.inr hc120), ps⟩)); exact Or.inr (Or.inr (Or.inr (Or.inl ⟨e1, e2, hc37, (Or.inr hc120), ps⟩))); exact Or.inr (Or.inr (Or.inr (Or.inr (Or.inl ⟨r, e1, e2, hA, hc37, (Or.inr hc120), ps⟩)))); exact Or.inr (Or.inr (Or.inr (Or.inr (Or.inr (Or.inl ⟨r, e1, e2, hA, hc37, (Or.inr hc120), ps⟩)))))) (sgD4_1_1 l Z a0 z0 fm G x b a11 f c0 c0 c1 c2 c3 ((byt (one f c0))) hby hret hlk h121 (K126.to 1 4 [a11] (q := by simp)) F129 A128 (((X17.keep Kp25).keep Kp34).wr W122) (Nat.le_trans (P0.keep Kp7 geN).bd (Nat.le_of_eq g12)) P1 P2 P3 P4 P5 P6 P7 P8)
abbrev y28 := method_6_code
theorem d28_0 : DC y28 0 (.iload_n 2) 1 := hb' (by decide +kernel)
theorem d28_1 : DC y28 1 (.iload_n 3) 1 := hb' (by decide +kernel)
theorem d28_2 : DC y28 2 (.if_icmp .le 16) 3 := hb' (by decide +kernel)
theorem d28_18 : DC y28 18 (.iconst 1) 1 := hb' (by decide +kernel)
theorem d28_19 : DC y28 19 (.goto 4) 3 := hb' (by decide +kernel)
theorem d28_23 : DC y28 23 (.ireturn) 1 := hb' (by decide +kernel)
theorem ef673 (m : MethodId) (x0 : Addr) (x1 : Addr) (x2 : Int32) (x3 : Int32) : entryFrame m #[(.ref x0), (.ref x1), (.int x2), (.int x3)] 4 = mkF m 0 #[.val (.ref x0), .val (.ref x1), .val (.int x2), .val (.int x3)] [] := by first | (simp [entryFrame, mkF, argsToLocals, Value.category]; done) | rfl
abbrev yn674 : MethodName := ⟨"com/example/paredown/paredown/PercentEncodingDecodeBytesPinLaw", "at", "([B[III)Z"⟩
theorem rmAt0_0 (G : Gl Z a0 z0 fm) (r o : Addr) (h0 : Heap) (hZh : Ext Z.heap h0) (hsf : Own Z h0 []) :
    Ctr l Z ELs yn674 method_6_code 4 (some .boolean) [] (rmk 0 0 0 0) #[(.ref r), (.ref o), (.int 0), (.int 0)] [] h0 (fun v h fs => (fs = [] ∧ v = some (.int 1))) := by
  obtain ⟨hw, hEL, wS, OS, hz0, OA, OH, OL, OF, rfm⟩ := id G
  refine Ctr.intro pn333 hEL hZh hsf ?_
  intro p e s m below meth c s₁ hby hml hret hnm hlk hh K0
  refine Owe.cast (ef673 m r o ((0 : Int32)) ((0 : Int32))) ?_
  refine oIloadN K0 1 (d28_0 hby) rfl ?_
  refine oIloadN K0 2 (d28_1 hby) rfl ?_
  refine oIcmpYes K0 18 (d28_2 hby) (XT.ii_le_t (by decide)) ?_
  refine oIconstV K0 19 (1 : Int32) (d28_18 hby) rfl ?_
  refine oGoto K0 23 (d28_19 hby) ?_
  exact oRetI K0 [] (t := .boolean) hret (by simp) (by decide) (d28_23 hby) (by decide) (by decide) hlk (fun x hx => by cases hx) ⟨rfl, rfl⟩
theorem rmAt0_1 (G : Gl Z a0 z0 fm) (r o : Addr) (h0 : Heap) (hZh : Ext Z.heap h0) (hsf : Own Z h0 []) :
    Ctr l Z ELs yn674 method_6_code 4 (some .boolean) [] (rmk 0 0 0 0) #[(.ref r), (.ref o), (.int 0), (.int 1)] [] h0 (fun v h fs => (fs = [] ∧ v = some (.int 1))) := by
  obtain ⟨hw, hEL, wS, OS, hz0, OA, OH, OL, OF, rfm⟩ := id G
  refine Ctr.intro pn333 hEL hZh hsf ?_
  intro p e s m below meth c s₁ hby hml hret hnm hlk hh K0
  refine Owe.cast (ef673 m r o ((0 : Int32)) ((1 : Int32))) ?_
  refine oIloadN K0 1 (d28_0 hby) rfl ?_
  refine oIloadN K0 2 (d28_1 hby) rfl ?_
  refine oIcmpYes K0 18 (d28_2 hby) (XT.ii_le_t (by decide)) ?_
  refine oIconstV K0 19 (1 : Int32) (d28_18 hby) rfl ?_
  refine oGoto K0 23 (d28_19 hby) ?_
  exact oRetI K0 [] (t := .boolean) hret (by simp) (by decide) (d28_23 hby) (by decide) (by decide) hlk (fun x hx => by cases hx) ⟨rfl, rfl⟩
theorem rmAt0_2 (G : Gl Z a0 z0 fm) (r o : Addr) (h0 : Heap) (hZh : Ext Z.heap h0) (hsf : Own Z h0 []) :
    Ctr l Z ELs yn674 method_6_code 4 (some .boolean) [] (rmk 0 0 0 0) #[(.ref r), (.ref o), (.int 0), (.int 2)] [] h0 (fun v h fs => (fs = [] ∧ v = some (.int 1))) := by
  obtain ⟨hw, hEL, wS, OS, hz0, OA, OH, OL, OF, rfm⟩ := id G
  refine Ctr.intro pn333 hEL hZh hsf ?_
  intro p e s m below meth c s₁ hby hml hret hnm hlk hh K0
  refine Owe.cast (ef673 m r o ((0 : Int32)) ((2 : Int32))) ?_
  refine oIloadN K0 1 (d28_0 hby) rfl ?_
  refine oIloadN K0 2 (d28_1 hby) rfl ?_
  refine oIcmpYes K0 18 (d28_2 hby) (XT.ii_le_t (by decide)) ?_
  refine oIconstV K0 19 (1 : Int32) (d28_18 hby) rfl ?_
  refine oGoto K0 23 (d28_19 hby) ?_
  exact oRetI K0 [] (t := .boolean) hret (by simp) (by decide) (d28_23 hby) (by decide) (by decide) hlk (fun x hx => by cases hx) ⟨rfl, rfl⟩
theorem rmAt0_3 (G : Gl Z a0 z0 fm) (r o : Addr) (h0 : Heap) (hZh : Ext Z.heap h0) (hsf : Own Z h0 []) :
    Ctr l Z ELs yn674 method_6_code 4 (some .boolean) [] (rmk 0 0 0 0) #[(.ref r), (.ref o), (.int 0), (.int 3)] [] h0 (fun v h fs => (fs = [] ∧ v = some (.int 1))) := by
  obtain ⟨hw, hEL, wS, OS, hz0, OA, OH, OL, OF, rfm⟩ := id G
  refine Ctr.intro pn333 hEL hZh hsf ?_
  intro p e s m below meth c s₁ hby hml hret hnm hlk hh K0
  refine Owe.cast (ef673 m r o ((0 : Int32)) ((3 : Int32))) ?_
  refine oIloadN K0 1 (d28_0 hby) rfl ?_
  refine oIloadN K0 2 (d28_1 hby) rfl ?_
  refine oIcmpYes K0 18 (d28_2 hby) (XT.ii_le_t (by decide)) ?_
  refine oIconstV K0 19 (1 : Int32) (d28_18 hby) rfl ?_
  refine oGoto K0 23 (d28_19 hby) ?_
  exact oRetI K0 [] (t := .boolean) hret (by simp) (by decide) (d28_23 hby) (by decide) (by decide) hlk (fun x hx => by cases hx) ⟨rfl, rfl⟩
theorem d28_5 : DC y28 5 (.aload_n 0) 1 := hb' (by decide +kernel)
theorem d28_6 : DC y28 6 (.iload_n 3) 1 := hb' (by decide +kernel)
theorem d28_7 : DC y28 7 (.baload) 1 := hb' (by decide +kernel)
theorem d28_8 : DC y28 8 (.sipush 255) 3 := hb' (by decide +kernel)
theorem d28_11 : DC y28 11 (.iand) 1 := hb' (by decide +kernel)
theorem d28_12 : DC y28 12 (.aload_n 1) 1 := hb' (by decide +kernel)
theorem d28_13 : DC y28 13 (.iload_n 3) 1 := hb' (by decide +kernel)
theorem d28_14 : DC y28 14 (.iaload) 1 := hb' (by decide +kernel)
theorem d28_15 : DC y28 15 (.if_icmp .ne 7) 3 := hb' (by decide +kernel)
theorem rmAt1_0 (G : Gl Z a0 z0 fm) (r o : Addr) (v w1 w2 w3 : Int32) (h0 : Heap) (hZh : Ext Z.heap h0) (hsf : Own Z h0 []) (P0 : Ary Z h0 r .byte [(.int (byt v))]) (P1 : Ary Z h0 o .int [(.int v), (.int w1), (.int w2), (.int w3)]) (P2 : ¬ v < (0 : Int32)) (P3 : ¬ (255 : Int32) < v) :
    Ctr l Z ELs yn674 method_6_code 4 (some .boolean) [] (rmk 0 0 0 0) #[(.ref r), (.ref o), (.int 1), (.int 0)] [] h0 (fun v h fs => (fs = [] ∧ v = some (.int 1))) := by
  obtain ⟨hw, hEL, wS, OS, hz0, OA, OH, OL, OF, rfm⟩ := id G
  refine Ctr.intro pn333 hEL hZh hsf ?_
  intro p e s m below meth c s₁ hby hml hret hnm hlk hh K0
  refine Owe.cast (ef673 m r o ((1 : Int32)) ((0 : Int32))) ?_
  refine oIloadN K0 1 (d28_0 hby) rfl ?_
  refine oIloadN K0 2 (d28_1 hby) rfl ?_
  refine oIcmpNo K0 5 (d28_2 hby) (XT.ii_le_f (by decide)) ?_
  refine oAloadN K0 6 (d28_5 hby) rfl rfl ?_
  refine oIloadN K0 7 (d28_6 hby) rfl ?_
  refine oBaload K0 8 P0 0 (by decide) (by decide) rfl (d28_7 hby) ?_
  refine oSipushV K0 11 (255 : Int32) (d28_8 hby) (by decide) ?_
  refine oIand K0 12 (d28_11 hby) ?_
  refine oAloadN K0 13 (d28_12 hby) rfl rfl ?_
  refine oIloadN K0 14 (d28_13 hby) rfl ?_
  refine oIaload K0 15 P1 0 (by decide) (by decide) rfl (d28_14 hby) ?_
  refine oIcmpNo K0 18 (d28_15 hby) (XT.ii_ne_f (own_lat P2 P3)) ?_
  refine oIconstV K0 19 (1 : Int32) (d28_18 hby) rfl ?_
  refine oGoto K0 23 (d28_19 hby) ?_
  exact oRetI K0 [] (t := .boolean) hret (by simp) (by decide) (d28_23 hby) (by decide) (by decide) hlk (fun x hx => by cases hx) ⟨rfl, rfl⟩
theorem rmAt1_1 (G : Gl Z a0 z0 fm) (r o : Addr) (h0 : Heap) (hZh : Ext Z.heap h0) (hsf : Own Z h0 []) :
    Ctr l Z ELs yn674 method_6_code 4 (some .boolean) [] (rmk 0 0 0 0) #[(.ref r), (.ref o), (.int 1), (.int 1)] [] h0 (fun v h fs => (fs = [] ∧ v = some (.int 1))) := by
  obtain ⟨hw, hEL, wS, OS, hz0, OA, OH, OL, OF, rfm⟩ := id G
  refine Ctr.intro pn333 hEL hZh hsf ?_
  intro p e s m below meth c s₁ hby hml hret hnm hlk hh K0
  refine Owe.cast (ef673 m r o ((1 : Int32)) ((1 : Int32))) ?_
  refine oIloadN K0 1 (d28_0 hby) rfl ?_
  refine oIloadN K0 2 (d28_1 hby) rfl ?_
  refine oIcmpYes K0 18 (d28_2 hby) (XT.ii_le_t (by decide)) ?_
  refine oIconstV K0 19 (1 : Int32) (d28_18 hby) rfl ?_
  refine oGoto K0 23 (d28_19 hby) ?_
  exact oRetI K0 [] (t := .boolean) hret (by simp) (by decide) (d28_23 hby) (by decide) (by decide) hlk (fun x hx => by cases hx) ⟨rfl, rfl⟩
theorem rmAt1_2 (G : Gl Z a0 z0 fm) (r o : Addr) (h0 : Heap) (hZh : Ext Z.heap h0) (hsf : Own Z h0 []) :
    Ctr l Z ELs yn674 method_6_code 4 (some .boolean) [] (rmk 0 0 0 0) #[(.ref r), (.ref o), (.int 1), (.int 2)] [] h0 (fun v h fs => (fs = [] ∧ v = some (.int 1))) := by
  obtain ⟨hw, hEL, wS, OS, hz0, OA, OH, OL, OF, rfm⟩ := id G
  refine Ctr.intro pn333 hEL hZh hsf ?_
  intro p e s m below meth c s₁ hby hml hret hnm hlk hh K0
  refine Owe.cast (ef673 m r o ((1 : Int32)) ((2 : Int32))) ?_
  refine oIloadN K0 1 (d28_0 hby) rfl ?_
  refine oIloadN K0 2 (d28_1 hby) rfl ?_
  refine oIcmpYes K0 18 (d28_2 hby) (XT.ii_le_t (by decide)) ?_
  refine oIconstV K0 19 (1 : Int32) (d28_18 hby) rfl ?_
  refine oGoto K0 23 (d28_19 hby) ?_
  exact oRetI K0 [] (t := .boolean) hret (by simp) (by decide) (d28_23 hby) (by decide) (by decide) hlk (fun x hx => by cases hx) ⟨rfl, rfl⟩
theorem rmAt1_3 (G : Gl Z a0 z0 fm) (r o : Addr) (h0 : Heap) (hZh : Ext Z.heap h0) (hsf : Own Z h0 []) :
    Ctr l Z ELs yn674 method_6_code 4 (some .boolean) [] (rmk 0 0 0 0) #[(.ref r), (.ref o), (.int 1), (.int 3)] [] h0 (fun v h fs => (fs = [] ∧ v = some (.int 1))) := by
  obtain ⟨hw, hEL, wS, OS, hz0, OA, OH, OL, OF, rfm⟩ := id G
  refine Ctr.intro pn333 hEL hZh hsf ?_
  intro p e s m below meth c s₁ hby hml hret hnm hlk hh K0
  refine Owe.cast (ef673 m r o ((1 : Int32)) ((3 : Int32))) ?_
  refine oIloadN K0 1 (d28_0 hby) rfl ?_
  refine oIloadN K0 2 (d28_1 hby) rfl ?_
  refine oIcmpYes K0 18 (d28_2 hby) (XT.ii_le_t (by decide)) ?_
  refine oIconstV K0 19 (1 : Int32) (d28_18 hby) rfl ?_
  refine oGoto K0 23 (d28_19 hby) ?_
  exact oRetI K0 [] (t := .boolean) hret (by simp) (by decide) (d28_23 hby) (by decide) (by decide) hlk (fun x hx => by cases hx) ⟨rfl, rfl⟩
theorem rmAt2_0 (G : Gl Z a0 z0 fm) (r o : Addr) (v q1 w1 w2 w3 : Int32) (h0 : Heap) (hZh : Ext Z.heap h0) (hsf : Own Z h0 []) (P0 : Ary Z h0 r .byte [(.int (byt v)), (.int q1)]) (P1 : Ary Z h0 o .int [(.int v), (.int w1), (.int w2), (.int w3)]) (P2 : ¬ v < (0 : Int32)) (P3 : ¬ (255 : Int32) < v) :
    Ctr l Z ELs yn674 method_6_code 4 (some .boolean) [] (rmk 0 0 0 0) #[(.ref r), (.ref o), (.int 2), (.int 0)] [] h0 (fun v h fs => (fs = [] ∧ v = some (.int 1))) := by
  obtain ⟨hw, hEL, wS, OS, hz0, OA, OH, OL, OF, rfm⟩ := id G
  refine Ctr.intro pn333 hEL hZh hsf ?_
  intro p e s m below meth c s₁ hby hml hret hnm hlk hh K0
  refine Owe.cast (ef673 m r o ((2 : Int32)) ((0 : Int32))) ?_
  refine oIloadN K0 1 (d28_0 hby) rfl ?_
  refine oIloadN K0 2 (d28_1 hby) rfl ?_
  refine oIcmpNo K0 5 (d28_2 hby) (XT.ii_le_f (by decide)) ?_
  refine oAloadN K0 6 (d28_5 hby) rfl rfl ?_
  refine oIloadN K0 7 (d28_6 hby) rfl ?_
  refine oBaload K0 8 P0 0 (by decide) (by decide) rfl (d28_7 hby) ?_
  refine oSipushV K0 11 (255 : Int32) (d28_8 hby) (by decide) ?_
  refine oIand K0 12 (d28_11 hby) ?_
  refine oAloadN K0 13 (d28_12 hby) rfl rfl ?_
  refine oIloadN K0 14 (d28_13 hby) rfl ?_
  refine oIaload K0 15 P1 0 (by decide) (by decide) rfl (d28_14 hby) ?_
  refine oIcmpNo K0 18 (d28_15 hby) (XT.ii_ne_f (own_lat P2 P3)) ?_
  refine oIconstV K0 19 (1 : Int32) (d28_18 hby) rfl ?_
  refine oGoto K0 23 (d28_19 hby) ?_
  exact oRetI K0 [] (t := .boolean) hret (by simp) (by decide) (d28_23 hby) (by decide) (by decide) hlk (fun x hx => by cases hx) ⟨rfl, rfl⟩
theorem rmAt2_1 (G : Gl Z a0 z0 fm) (r o : Addr) (v q0 w0 w2 w3 : Int32) (h0 : Heap) (hZh : Ext Z.heap h0) (hsf : Own Z h0 []) (P0 : Ary Z h0 r .byte [(.int q0), (.int (byt v))]) (P1 : Ary Z h0 o .int [(.int w0), (.int v), (.int w2), (.int w3)]) (P2 : ¬ v < (0 : Int32)) (P3 : ¬ (255 : Int32) < v) :
    Ctr l Z ELs yn674 method_6_code 4 (some .boolean) [] (rmk 0 0 0 0) #[(.ref r), (.ref o), (.int 2), (.int 1)] [] h0 (fun v h fs => (fs = [] ∧ v = some (.int 1))) := by
  obtain ⟨hw, hEL, wS, OS, hz0, OA, OH, OL, OF, rfm⟩ := id G
  refine Ctr.intro pn333 hEL hZh hsf ?_
  intro p e s m below meth c s₁ hby hml hret hnm hlk hh K0
  refine Owe.cast (ef673 m r o ((2 : Int32)) ((1 : Int32))) ?_
  refine oIloadN K0 1 (d28_0 hby) rfl ?_
  refine oIloadN K0 2 (d28_1 hby) rfl ?_
  refine oIcmpNo K0 5 (d28_2 hby) (XT.ii_le_f (by decide)) ?_
  refine oAloadN K0 6 (d28_5 hby) rfl rfl ?_
  refine oIloadN K0 7 (d28_6 hby) rfl ?_
  refine oBaload K0 8 P0 1 (by decide) (by decide) rfl (d28_7 hby) ?_
  refine oSipushV K0 11 (255 : Int32) (d28_8 hby) (by decide) ?_
  refine oIand K0 12 (d28_11 hby) ?_
  refine oAloadN K0 13 (d28_12 hby) rfl rfl ?_
  refine oIloadN K0 14 (d28_13 hby) rfl ?_
  refine oIaload K0 15 P1 1 (by decide) (by decide) rfl (d28_14 hby) ?_
  refine oIcmpNo K0 18 (d28_15 hby) (XT.ii_ne_f (own_lat P2 P3)) ?_
  refine oIconstV K0 19 (1 : Int32) (d28_18 hby) rfl ?_
  refine oGoto K0 23 (d28_19 hby) ?_
  exact oRetI K0 [] (t := .boolean) hret (by simp) (by decide) (d28_23 hby) (by decide) (by decide) hlk (fun x hx => by cases hx) ⟨rfl, rfl⟩
theorem rmAt2_2 (G : Gl Z a0 z0 fm) (r o : Addr) (h0 : Heap) (hZh : Ext Z.heap h0) (hsf : Own Z h0 []) :
    Ctr l Z ELs yn674 method_6_code 4 (some .boolean) [] (rmk 0 0 0 0) #[(.ref r), (.ref o), (.int 2), (.int 2)] [] h0 (fun v h fs => (fs = [] ∧ v = some (.int 1))) := by
  obtain ⟨hw, hEL, wS, OS, hz0, OA, OH, OL, OF, rfm⟩ := id G
  refine Ctr.intro pn333 hEL hZh hsf ?_
  intro p e s m below meth c s₁ hby hml hret hnm hlk hh K0
  refine Owe.cast (ef673 m r o ((2 : Int32)) ((2 : Int32))) ?_
  refine oIloadN K0 1 (d28_0 hby) rfl ?_
  refine oIloadN K0 2 (d28_1 hby) rfl ?_
  refine oIcmpYes K0 18 (d28_2 hby) (XT.ii_le_t (by decide)) ?_
  refine oIconstV K0 19 (1 : Int32) (d28_18 hby) rfl ?_
  refine oGoto K0 23 (d28_19 hby) ?_
  exact oRetI K0 [] (t := .boolean) hret (by simp) (by decide) (d28_23 hby) (by decide) (by decide) hlk (fun x hx => by cases hx) ⟨rfl, rfl⟩
theorem rmAt2_3 (G : Gl Z a0 z0 fm) (r o : Addr) (h0 : Heap) (hZh : Ext Z.heap h0) (hsf : Own Z h0 []) :
    Ctr l Z ELs yn674 method_6_code 4 (some .boolean) [] (rmk 0 0 0 0) #[(.ref r), (.ref o), (.int 2), (.int 3)] [] h0 (fun v h fs => (fs = [] ∧ v = some (.int 1))) := by
  obtain ⟨hw, hEL, wS, OS, hz0, OA, OH, OL, OF, rfm⟩ := id G
  refine Ctr.intro pn333 hEL hZh hsf ?_
  intro p e s m below meth c s₁ hby hml hret hnm hlk hh K0
  refine Owe.cast (ef673 m r o ((2 : Int32)) ((3 : Int32))) ?_
  refine oIloadN K0 1 (d28_0 hby) rfl ?_
  refine oIloadN K0 2 (d28_1 hby) rfl ?_
  refine oIcmpYes K0 18 (d28_2 hby) (XT.ii_le_t (by decide)) ?_
  refine oIconstV K0 19 (1 : Int32) (d28_18 hby) rfl ?_
  refine oGoto K0 23 (d28_19 hby) ?_
  exact oRetI K0 [] (t := .boolean) hret (by simp) (by decide) (d28_23 hby) (by decide) (by decide) hlk (fun x hx => by cases hx) ⟨rfl, rfl⟩
theorem rmAt3_0 (G : Gl Z a0 z0 fm) (r o : Addr) (v q1 q2 w1 w2 w3 : Int32) (h0 : Heap) (hZh : Ext Z.heap h0) (hsf : Own Z h0 []) (P0 : Ary Z h0 r .byte [(.int (byt v)), (.int q1), (.int q2)]) (P1 : Ary Z h0 o .int [(.int v), (.int w1), (.int w2), (.int w3)]) (P2 : ¬ v < (0 : Int32)) (P3 : ¬ (255 : Int32) < v) :
    Ctr l Z ELs yn674 method_6_code 4 (some .boolean) [] (rmk 0 0 0 0) #[(.ref r), (.ref o), (.int 3), (.int 0)] [] h0 (fun v h fs => (fs = [] ∧ v = some (.int 1))) := by
  obtain ⟨hw, hEL, wS, OS, hz0, OA, OH, OL, OF, rfm⟩ := id G
  refine Ctr.intro pn333 hEL hZh hsf ?_
  intro p e s m below meth c s₁ hby hml hret hnm hlk hh K0
  refine Owe.cast (ef673 m r o ((3 : Int32)) ((0 : Int32))) ?_
  refine oIloadN K0 1 (d28_0 hby) rfl ?_
  refine oIloadN K0 2 (d28_1 hby) rfl ?_
  refine oIcmpNo K0 5 (d28_2 hby) (XT.ii_le_f (by decide)) ?_
  refine oAloadN K0 6 (d28_5 hby) rfl rfl ?_
  refine oIloadN K0 7 (d28_6 hby) rfl ?_
  refine oBaload K0 8 P0 0 (by decide) (by decide) rfl (d28_7 hby) ?_
  refine oSipushV K0 11 (255 : Int32) (d28_8 hby) (by decide) ?_
  refine oIand K0 12 (d28_11 hby) ?_
  refine oAloadN K0 13 (d28_12 hby) rfl rfl ?_
  refine oIloadN K0 14 (d28_13 hby) rfl ?_
  refine oIaload K0 15 P1 0 (by decide) (by decide) rfl (d28_14 hby) ?_
  refine oIcmpNo K0 18 (d28_15 hby) (XT.ii_ne_f (own_lat P2 P3)) ?_
  refine oIconstV K0 19 (1 : Int32) (d28_18 hby) rfl ?_
  refine oGoto K0 23 (d28_19 hby) ?_
  exact oRetI K0 [] (t := .boolean) hret (by simp) (by decide) (d28_23 hby) (by decide) (by decide) hlk (fun x hx => by cases hx) ⟨rfl, rfl⟩
theorem rmAt3_1 (G : Gl Z a0 z0 fm) (r o : Addr) (v q0 q2 w0 w2 w3 : Int32) (h0 : Heap) (hZh : Ext Z.heap h0) (hsf : Own Z h0 []) (P0 : Ary Z h0 r .byte [(.int q0), (.int (byt v)), (.int q2)]) (P1 : Ary Z h0 o .int [(.int w0), (.int v), (.int w2), (.int w3)]) (P2 : ¬ v < (0 : Int32)) (P3 : ¬ (255 : Int32) < v) :
    Ctr l Z ELs yn674 method_6_code 4 (some .boolean) [] (rmk 0 0 0 0) #[(.ref r), (.ref o), (.int 3), (.int 1)] [] h0 (fun v h fs => (fs = [] ∧ v = some (.int 1))) := by
  obtain ⟨hw, hEL, wS, OS, hz0, OA, OH, OL, OF, rfm⟩ := id G
  refine Ctr.intro pn333 hEL hZh hsf ?_
  intro p e s m below meth c s₁ hby hml hret hnm hlk hh K0
  refine Owe.cast (ef673 m r o ((3 : Int32)) ((1 : Int32))) ?_
  refine oIloadN K0 1 (d28_0 hby) rfl ?_
  refine oIloadN K0 2 (d28_1 hby) rfl ?_
  refine oIcmpNo K0 5 (d28_2 hby) (XT.ii_le_f (by decide)) ?_
  refine oAloadN K0 6 (d28_5 hby) rfl rfl ?_
  refine oIloadN K0 7 (d28_6 hby) rfl ?_
  refine oBaload K0 8 P0 1 (by decide) (by decide) rfl (d28_7 hby) ?_
  refine oSipushV K0 11 (255 : Int32) (d28_8 hby) (by decide) ?_
  refine oIand K0 12 (d28_11 hby) ?_
  refine oAloadN K0 13 (d28_12 hby) rfl rfl ?_
  refine oIloadN K0 14 (d28_13 hby) rfl ?_
  refine oIaload K0 15 P1 1 (by decide) (by decide) rfl (d28_14 hby) ?_
  refine oIcmpNo K0 18 (d28_15 hby) (XT.ii_ne_f (own_lat P2 P3)) ?_
  refine oIconstV K0 19 (1 : Int32) (d28_18 hby) rfl ?_
  refine oGoto K0 23 (d28_19 hby) ?_
  exact oRetI K0 [] (t := .boolean) hret (by simp) (by decide) (d28_23 hby) (by decide) (by decide) hlk (fun x hx => by cases hx) ⟨rfl, rfl⟩
theorem rmAt3_2 (G : Gl Z a0 z0 fm) (r o : Addr) (v q0 q1 w0 w1 w3 : Int32) (h0 : Heap) (hZh : Ext Z.heap h0) (hsf : Own Z h0 []) (P0 : Ary Z h0 r .byte [(.int q0), (.int q1), (.int (byt v))]) (P1 : Ary Z h0 o .int [(.int w0), (.int w1), (.int v), (.int w3)]) (P2 : ¬ v < (0 : Int32)) (P3 : ¬ (255 : Int32) < v) :
    Ctr l Z ELs yn674 method_6_code 4 (some .boolean) [] (rmk 0 0 0 0) #[(.ref r), (.ref o), (.int 3), (.int 2)] [] h0 (fun v h fs => (fs = [] ∧ v = some (.int 1))) := by
  obtain ⟨hw, hEL, wS, OS, hz0, OA, OH, OL, OF, rfm⟩ := id G
  refine Ctr.intro pn333 hEL hZh hsf ?_
  intro p e s m below meth c s₁ hby hml hret hnm hlk hh K0
  refine Owe.cast (ef673 m r o ((3 : Int32)) ((2 : Int32))) ?_
  refine oIloadN K0 1 (d28_0 hby) rfl ?_
  refine oIloadN K0 2 (d28_1 hby) rfl ?_
  refine oIcmpNo K0 5 (d28_2 hby) (XT.ii_le_f (by decide)) ?_
  refine oAloadN K0 6 (d28_5 hby) rfl rfl ?_
  refine oIloadN K0 7 (d28_6 hby) rfl ?_
  refine oBaload K0 8 P0 2 (by decide) (by decide) rfl (d28_7 hby) ?_
  refine oSipushV K0 11 (255 : Int32) (d28_8 hby) (by decide) ?_
  refine oIand K0 12 (d28_11 hby) ?_
  refine oAloadN K0 13 (d28_12 hby) rfl rfl ?_
  refine oIloadN K0 14 (d28_13 hby) rfl ?_
  refine oIaload K0 15 P1 2 (by decide) (by decide) rfl (d28_14 hby) ?_
  refine oIcmpNo K0 18 (d28_15 hby) (XT.ii_ne_f (own_lat P2 P3)) ?_
  refine oIconstV K0 19 (1 : Int32) (d28_18 hby) rfl ?_
  refine oGoto K0 23 (d28_19 hby) ?_
  exact oRetI K0 [] (t := .boolean) hret (by simp) (by decide) (d28_23 hby) (by decide) (by decide) hlk (fun x hx => by cases hx) ⟨rfl, rfl⟩
theorem rmAt3_3 (G : Gl Z a0 z0 fm) (r o : Addr) (h0 : Heap) (hZh : Ext Z.heap h0) (hsf : Own Z h0 []) :
    Ctr l Z ELs yn674 method_6_code 4 (some .boolean) [] (rmk 0 0 0 0) #[(.ref r), (.ref o), (.int 3), (.int 3)] [] h0 (fun v h fs => (fs = [] ∧ v = some (.int 1))) := by
  obtain ⟨hw, hEL, wS, OS, hz0, OA, OH, OL, OF, rfm⟩ := id G
  refine Ctr.intro pn333 hEL hZh hsf ?_
  intro p e s m below meth c s₁ hby hml hret hnm hlk hh K0
  refine Owe.cast (ef673 m r o ((3 : Int32)) ((3 : Int32))) ?_
  refine oIloadN K0 1 (d28_0 hby) rfl ?_
  refine oIloadN K0 2 (d28_1 hby) rfl ?_
  refine oIcmpYes K0 18 (d28_2 hby) (XT.ii_le_t (by decide)) ?_
  refine oIconstV K0 19 (1 : Int32) (d28_18 hby) rfl ?_
  refine oGoto K0 23 (d28_19 hby) ?_
  exact oRetI K0 [] (t := .boolean) hret (by simp) (by decide) (d28_23 hby) (by decide) (by decide) hlk (fun x hx => by cases hx) ⟨rfl, rfl⟩
theorem rmAt4_0 (G : Gl Z a0 z0 fm) (r o : Addr) (v q1 q2 q3 w1 w2 w3 : Int32) (h0 : Heap) (hZh : Ext Z.heap h0) (hsf : Own Z h0 []) (P0 : Ary Z h0 r .byte [(.int (byt v)), (.int q1), (.int q2), (.int q3)]) (P1 : Ary Z h0 o .int [(.int v), (.int w1), (.int w2), (.int w3)]) (P2 : ¬ v < (0 : Int32)) (P3 : ¬ (255 : Int32) < v) :
    Ctr l Z ELs yn674 method_6_code 4 (some .boolean) [] (rmk 0 0 0 0) #[(.ref r), (.ref o), (.int 4), (.int 0)] [] h0 (fun v h fs => (fs = [] ∧ v = some (.int 1))) := by
  obtain ⟨hw, hEL, wS, OS, hz0, OA, OH, OL, OF, rfm⟩ := id G
  refine Ctr.intro pn333 hEL hZh hsf ?_
  intro p e s m below meth c s₁ hby hml hret hnm hlk hh K0
  refine Owe.cast (ef673 m r o ((4 : Int32)) ((0 : Int32))) ?_
  refine oIloadN K0 1 (d28_0 hby) rfl ?_
  refine oIloadN K0 2 (d28_1 hby) rfl ?_
  refine oIcmpNo K0 5 (d28_2 hby) (XT.ii_le_f (by decide)) ?_
  refine oAloadN K0 6 (d28_5 hby) rfl rfl ?_
  refine oIloadN K0 7 (d28_6 hby) rfl ?_
  refine oBaload K0 8 P0 0 (by decide) (by decide) rfl (d28_7 hby) ?_
  refine oSipushV K0 11 (255 : Int32) (d28_8 hby) (by decide) ?_
  refine oIand K0 12 (d28_11 hby) ?_
  refine oAloadN K0 13 (d28_12 hby) rfl rfl ?_
  refine oIloadN K0 14 (d28_13 hby) rfl ?_
  refine oIaload K0 15 P1 0 (by decide) (by decide) rfl (d28_14 hby) ?_
  refine oIcmpNo K0 18 (d28_15 hby) (XT.ii_ne_f (own_lat P2 P3)) ?_
  refine oIconstV K0 19 (1 : Int32) (d28_18 hby) rfl ?_
  refine oGoto K0 23 (d28_19 hby) ?_
  exact oRetI K0 [] (t := .boolean) hret (by simp) (by decide) (d28_23 hby) (by decide) (by decide) hlk (fun x hx => by cases hx) ⟨rfl, rfl⟩
theorem rmAt4_1 (G : Gl Z a0 z0 fm) (r o : Addr) (v q0 q2 q3 w0 w2 w3 : Int32) (h0 : Heap) (hZh : Ext Z.heap h0) (hsf : Own Z h0 []) (P0 : Ary Z h0 r .byte [(.int q0), (.int (byt v)), (.int q2), (.int q3)]) (P1 : Ary Z h0 o .int [(.int w0), (.int v), (.int w2), (.int w3)]) (P2 : ¬ v < (0 : Int32)) (P3 : ¬ (255 : Int32) < v) :
    Ctr l Z ELs yn674 method_6_code 4 (some .boolean) [] (rmk 0 0 0 0) #[(.ref r), (.ref o), (.int 4), (.int 1)] [] h0 (fun v h fs => (fs = [] ∧ v = some (.int 1))) := by
  obtain ⟨hw, hEL, wS, OS, hz0, OA, OH, OL, OF, rfm⟩ := id G
  refine Ctr.intro pn333 hEL hZh hsf ?_
  intro p e s m below meth c s₁ hby hml hret hnm hlk hh K0
  refine Owe.cast (ef673 m r o ((4 : Int32)) ((1 : Int32))) ?_
  refine oIloadN K0 1 (d28_0 hby) rfl ?_
  refine oIloadN K0 2 (d28_1 hby) rfl ?_
  refine oIcmpNo K0 5 (d28_2 hby) (XT.ii_le_f (by decide)) ?_
  refine oAloadN K0 6 (d28_5 hby) rfl rfl ?_
  refine oIloadN K0 7 (d28_6 hby) rfl ?_
  refine oBaload K0 8 P0 1 (by decide) (by decide) rfl (d28_7 hby) ?_
  refine oSipushV K0 11 (255 : Int32) (d28_8 hby) (by decide) ?_
  refine oIand K0 12 (d28_11 hby) ?_
  refine oAloadN K0 13 (d28_12 hby) rfl rfl ?_
  refine oIloadN K0 14 (d28_13 hby) rfl ?_
  refine oIaload K0 15 P1 1 (by decide) (by decide) rfl (d28_14 hby) ?_
  refine oIcmpNo K0 18 (d28_15 hby) (XT.ii_ne_f (own_lat P2 P3)) ?_
  refine oIconstV K0 19 (1 : Int32) (d28_18 hby) rfl ?_
  refine oGoto K0 23 (d28_19 hby) ?_
  exact oRetI K0 [] (t := .boolean) hret (by simp) (by decide) (d28_23 hby) (by decide) (by decide) hlk (fun x hx => by cases hx) ⟨rfl, rfl⟩
theorem rmAt4_2 (G : Gl Z a0 z0 fm) (r o : Addr) (v q0 q1 q3 w0 w1 w3 : Int32) (h0 : Heap) (hZh : Ext Z.heap h0) (hsf : Own Z h0 []) (P0 : Ary Z h0 r .byte [(.int q0), (.int q1), (.int (byt v)), (.int q3)]) (P1 : Ary Z h0 o .int [(.int w0), (.int w1), (.int v), (.int w3)]) (P2 : ¬ v < (0 : Int32)) (P3 : ¬ (255 : Int32) < v) :
    Ctr l Z ELs yn674 method_6_code 4 (some .boolean) [] (rmk 0 0 0 0) #[(.ref r), (.ref o), (.int 4), (.int 2)] [] h0 (fun v h fs => (fs = [] ∧ v = some (.int 1))) := by
  obtain ⟨hw, hEL, wS, OS, hz0, OA, OH, OL, OF, rfm⟩ := id G
  refine Ctr.intro pn333 hEL hZh hsf ?_
  intro p e s m below meth c s₁ hby hml hret hnm hlk hh K0
  refine Owe.cast (ef673 m r o ((4 : Int32)) ((2 : Int32))) ?_
  refine oIloadN K0 1 (d28_0 hby) rfl ?_
  refine oIloadN K0 2 (d28_1 hby) rfl ?_
  refine oIcmpNo K0 5 (d28_2 hby) (XT.ii_le_f (by decide)) ?_
  refine oAloadN K0 6 (d28_5 hby) rfl rfl ?_
  refine oIloadN K0 7 (d28_6 hby) rfl ?_
  refine oBaload K0 8 P0 2 (by decide) (by decide) rfl (d28_7 hby) ?_
  refine oSipushV K0 11 (255 : Int32) (d28_8 hby) (by decide) ?_
  refine oIand K0 12 (d28_11 hby) ?_
  refine oAloadN K0 13 (d28_12 hby) rfl rfl ?_
  refine oIloadN K0 14 (d28_13 hby) rfl ?_
  refine oIaload K0 15 P1 2 (by decide) (by decide) rfl (d28_14 hby) ?_
  refine oIcmpNo K0 18 (d28_15 hby) (XT.ii_ne_f (own_lat P2 P3)) ?_
  refine oIconstV K0 19 (1 : Int32) (d28_18 hby) rfl ?_
  refine oGoto K0 23 (d28_19 hby) ?_
  exact oRetI K0 [] (t := .boolean) hret (by simp) (by decide) (d28_23 hby) (by decide) (by decide) hlk (fun x hx => by cases hx) ⟨rfl, rfl⟩
theorem rmAt4_3 (G : Gl Z a0 z0 fm) (r o : Addr) (v q0 q1 q2 w0 w1 w2 : Int32) (h0 : Heap) (hZh : Ext Z.heap h0) (hsf : Own Z h0 []) (P0 : Ary Z h0 r .byte [(.int q0), (.int q1), (.int q2), (.int (byt v))]) (P1 : Ary Z h0 o .int [(.int w0), (.int w1), (.int w2), (.int v)]) (P2 : ¬ v < (0 : Int32)) (P3 : ¬ (255 : Int32) < v) :
    Ctr l Z ELs yn674 method_6_code 4 (some .boolean) [] (rmk 0 0 0 0) #[(.ref r), (.ref o), (.int 4), (.int 3)] [] h0 (fun v h fs => (fs = [] ∧ v = some (.int 1))) := by
  obtain ⟨hw, hEL, wS, OS, hz0, OA, OH, OL, OF, rfm⟩ := id G
  refine Ctr.intro pn333 hEL hZh hsf ?_
  intro p e s m below meth c s₁ hby hml hret hnm hlk hh K0
  refine Owe.cast (ef673 m r o ((4 : Int32)) ((3 : Int32))) ?_
  refine oIloadN K0 1 (d28_0 hby) rfl ?_
  refine oIloadN K0 2 (d28_1 hby) rfl ?_
  refine oIcmpNo K0 5 (d28_2 hby) (XT.ii_le_f (by decide)) ?_
  refine oAloadN K0 6 (d28_5 hby) rfl rfl ?_
  refine oIloadN K0 7 (d28_6 hby) rfl ?_
  refine oBaload K0 8 P0 3 (by decide) (by decide) rfl (d28_7 hby) ?_
  refine oSipushV K0 11 (255 : Int32) (d28_8 hby) (by decide) ?_
  refine oIand K0 12 (d28_11 hby) ?_
  refine oAloadN K0 13 (d28_12 hby) rfl rfl ?_
  refine oIloadN K0 14 (d28_13 hby) rfl ?_
  refine oIaload K0 15 P1 3 (by decide) (by decide) rfl (d28_14 hby) ?_
  refine oIcmpNo K0 18 (d28_15 hby) (XT.ii_ne_f (own_lat P2 P3)) ?_
  refine oIconstV K0 19 (1 : Int32) (d28_18 hby) rfl ?_
  refine oGoto K0 23 (d28_19 hby) ?_
  exact oRetI K0 [] (t := .boolean) hret (by simp) (by decide) (d28_23 hby) (by decide) (by decide) hlk (fun x hx => by cases hx) ⟨rfl, rfl⟩
theorem pd684 : parseMethodDescriptor "([C)V" = some ⟨[(.array .char)], none⟩ := by decide +kernel
theorem pd685 : parseMethodDescriptor "(Ljava/lang/String;Z)[B" = some ⟨[(.object "java/lang/String"), .boolean], some (.array .byte)⟩ := by decide +kernel
theorem pd686 : parseMethodDescriptor "([B[III)Z" = some ⟨[(.array .byte), (.array .int), .int, .int], some .boolean⟩ := by decide +kernel
theorem sgN0 (G : Gl Z a0 z0 fm) (p0 p1 p2 p3 p4 p5 f c0 c1 c2 c3 : Int32) (ch : Addr) (hby : c.code = code) (hret : meth.sig.returnType = ret) (hlk : meth.locks = false) (h0 : Heap)
    (K0 : Wk p l e room_1 s m #[(.int p0), (.int p1), (.int p2), (.int p3), (.int p4), (.int p5)] below meth c Z a0 ELs "com/example/paredown/paredown/PercentEncodingDecodeBytesPinLaw" maxLocals [] [ch] T0 lo0 9 372 h0) (P0 : Ary Z h0 ch .char [(.int c0), (.int c1), (.int c2), (.int c3)]) (P1 : ¬ c0 < (0 : Int32)) (P2 : ¬ (65535 : Int32) < c0) (P3 : ¬ c1 < (0 : Int32)) (P4 : ¬ (65535 : Int32) < c1) (P5 : ¬ c2 < (0 : Int32)) (P6 : ¬ (65535 : Int32) < c2) (P7 : ¬ c3 < (0 : Int32)) (P8 : ¬ (65535 : Int32) < c3) :
    Owe p e below (PostW Z ELs [] room_1 (fun v h fs => (fs = [] ∧ v = some (.int 1))) s) T0 (mkF m 72 #[.val (.int p0), .val (.int p1), .val (.int p2), .val (.int p3), .val (.int p4), .val (.int p5), .val (.int 0), .val (.int f), .val (.int c0), .val (.int c1), .val (.int c2), .val (.int c3), .val (.ref ch), .unset, .unset, .unset, .unset, .unset, .unset] []) := by
  obtain ⟨hw, hEL, wS, OS, hz0, OA, OH, OL, OF, rfm⟩ := id G
  refine oIload K0 74 (hb hby at_72) rfl ?_
  refine oIfNo K0 77 (hb hby at_74) (XT.i0_ne_f (by decide)) ?_
  refine oNew K0 80 (wq hw 39) (wq hw 7) (wq hw 6) (hb hby at_77) (by decide) (by decide) ?_
  intro T7 h1 a2 g3 K8 E4 X5 D6
  have F9 : Fld Z h1 a2 "java/lang/String" "value" "[B" .null := D6 (Or.inr (wq hw 9)) (ty := (.array .byte)) (by decide)
  have F10 : Fld Z h1 a2 "java/lang/String" "coder" "B" (.int 0) := D6 (Or.inr (wq hw 10)) (ty := .byte) (by decide)
  have K11 := K8.to 10 376 [a2, ch]
  refine oDup K11 81 (hb hby at_80) rfl ?_
  refine oIconstV K11 82 (0 : Int32) (hb hby at_81) rfl ?_
  refine oNewP K11 84 (ty := .char) 0 (wq hw 38) rfl (by decide) (by decide) (by decide) (hb hby at_82) (by decide) (by decide) ?_
  intro T17 h12 a13 g14 K18 E15 A16 
  have K19 := K18.to 11 376 [a13, a2, ch]
  refine oSpecial K19 87 1 (wq hw 40) (wq hw 41) (wq hw 6) (wq hw 42) (rmN1_0 l Z a0 z0 fm G a2 a13 h12 K19.old K19.both (X5.ext E15) (F9.ext E15) (F10.ext E15) A16 (Nat.ne_of_lt (Nat.lt_of_lt_of_le X5.lt (Nat.le_of_eq g14)))) [(.ref a13)] [(.ref a2)] (lenOf pd684 rfl) (hb hby at_84) ?_
  intro T20 h22 v23 lo24 fs25 K21 Kp26 q27
  obtain ⟨rfl, rfl, f28⟩ := q27
  have K29 := K21.to 15 384 [a13, a2, ch]
  refine Owe.stk [(.ref a2)] ?_
  refine oAstore K29 89 (hb hby at_87) rfl (l' := #[.val (.int p0), .val (.int p1), .val (.int p2), .val (.int p3), .val (.int p4), .val (.int p5), .val (.int 0), .val (.int f), .val (.int c0), .val (.int c1), .val (.int c2), .val (.int c3), .val (.ref ch), .val (.ref a2), .unset, .unset, .unset, .unset, .unset]) rfl ?_
  refine oGoto K29 217 (hb hby at_89) ?_
  refine oIconstV K29 218 (4 : Int32) (hb hby at_217) rfl ?_
  refine oNewP K29 220 (ty := .int) 4 (wq hw 51) rfl (by decide) (by decide) (by decide) (hb hby at_218) (by decide) (by decide) ?_
  intro T35 h30 a31 g32 K36 E33 A34 
  have K37 := K36.to 16 388 [a31, a13, a2, ch]
  refine oAstore K37 222 (hb hby at_220) rfl (l' := #[.val (.int p0), .val (.int p1), .val (.int p2), .val (.int p3), .val (.int p4), .val (.int p5), .val (.int 0), .val (.int f), .val (.int c0), .val (.int c1), .val (.int c2), .val (.int c3), .val (.ref ch), .val (.ref a2), .val (.ref a31), .unset, .unset, .unset, .unset]) rfl ?_
  refine oIconstV K37 223 (1 : Int32) (hb hby at_222) rfl ?_
  refine oNewP K37 225 (ty := .int) 1 (wq hw 51) rfl (by decide) (by decide) (by decide) (hb hby at_223) (by decide) (by decide) ?_
  intro T43 h38 a39 g40 K44 E41 A42 
  have K45 := K44.to 17 389 [a39, a31, a13, a2, ch]
  refine oAstore K45 227 (hb hby at_225) rfl (l' := #[.val (.int p0), .val (.int p1), .val (.int p2), .val (.int p3), .val (.int p4), .val (.int p5), .val (.int 0), .val (.int f), .val (.int c0), .val (.int c1), .val (.int c2), .val (.int c3), .val (.ref ch), .val (.ref a2), .val (.ref a31), .val (.ref a39), .unset, .unset, .unset]) rfl ?_
  refine oIconstV K45 228 (0 : Int32) (hb hby at_227) rfl ?_
  refine oIstore K45 230 (hb hby at_228) (l' := #[.val (.int p0), .val (.int p1), .val (.int p2), .val (.int p3), .val (.int p4), .val (.int p5), .val (.int 0), .val (.int f), .val (.int c0), .val (.int c1), .val (.int c2), .val (.int c3), .val (.ref ch), .val (.ref a2), .val (.ref a31), .val (.ref a39), .val (.int 0), .unset, .unset]) rfl ?_
  refine oIload K45 232 (hb hby at_230) rfl ?_
  refine oIfNo K45 235 (hb hby at_232) (XT.i0_lt_f (by decide)) ?_
  refine oIload K45 237 (hb hby at_235) rfl ?_
  refine oIload K45 239 (hb hby at_237) rfl ?_
  refine oIcmpYes K45 259 (hb hby at_239) (XT.ii_ge_t (by decide)) ?_
  refine oIload K45 261 (hb hby at_259) rfl ?_
  refine oIfNo K45 264 (hb hby at_261) (XT.i0_lt_f (by decide)) ?_
  refine oIload K45 266 (hb hby at_264) rfl ?_
  refine oIload K45 268 (hb hby at_266) rfl ?_
  refine oIcmpYes K45 288 (hb hby at_268) (XT.ii_ge_t (by decide)) ?_
  refine oIload K45 290 (hb hby at_288) rfl ?_
  refine oIfNo K45 293 (hb hby at_290) (XT.i0_lt_f (by decide)) ?_
  refine oIload K45 295 (hb hby at_293) rfl ?_
  refine oIload K45 297 (hb hby at_295) rfl ?_
  refine oIcmpYes K45 317 (hb hby at_297) (XT.ii_ge_t (by decide)) ?_
  refine oIload K45 319 (hb hby at_317) rfl ?_
  refine oIfNo K45 322 (hb hby at_319) (XT.i0_lt_f (by decide)) ?_
  refine oIload K45 324 (hb hby at_322) rfl ?_
  refine oIload K45 326 (hb hby at_324) rfl ?_
  refine oIcmpYes K45 346 (hb hby at_326) (XT.ii_ge_t (by decide)) ?_
  refine oAload K45 348 (hb hby at_346) rfl rfl ?_
  refine oIload K45 350 (hb hby at_348) rfl ?_
  refine oStatic K45 353 0 (wq hw 52) (wq hw 53) (wq hw 54) (wq hw 55) (rmDB0 l Z a0 z0 fm G a2 (h22.size) f h38 K45.old K45.both ((f28.ext E33).ext E41)) [(.ref a2), (.int f)] [] (lenOf pd685 rfl) (hb hby at_350) ?_
  intro T46 h48 v49 lo50 fs51 K47 Kp52 q53
  obtain ⟨r54, rfl, rfl, f55⟩ := q53
  have K56 := K47.to 23 429 [a39, a31, a13, a2, ch]
  refine Owe.stk [(.ref r54)] ?_
  refine oAstore K56 355 (hb hby at_353) rfl (l' := #[.val (.int p0), .val (.int p1), .val (.int p2), .val (.int p3), .val (.int p4), .val (.int p5), .val (.int 0), .val (.int f), .val (.int c0), .val (.int c1), .val (.int c2), .val (.int c3), .val (.ref ch), .val (.ref a2), .val (.ref a31), .val (.ref a39), .val (.int 0), .val (.ref r54), .unset]) rfl ?_
  refine oIload K56 357 (hb hby at_355) rfl ?_
  refine oIfYes K56 371 (hb hby at_357) (XT.i0_ge_t (by decide)) ?_
  refine oAload K56 373 (hb hby at_371) rfl rfl ?_
  refine oIfnullNo K56 376 (hb hby at_373) ?_
  refine oAload K56 378 (hb hby at_376) rfl rfl ?_
  refine oLen K56 379 f55 (n := (0 : Int32)) (by first | rfl | decide) (hb hby at_378) ?_
  refine oAload K56 381 (hb hby at_379) rfl rfl ?_
  refine oIconstV K56 382 (0 : Int32) (hb hby at_381) rfl ?_
  refine oIaload K56 383 (A42.keep Kp52 nin0) 0 (by decide) (by decide) rfl (hb hby at_382) ?_
  refine oIcmpYes K56 388 (hb hby at_383) (XT.ii_eq_t (by decide)) ?_
  refine oAload K56 390 (hb hby at_388) rfl rfl ?_
  refine oIconstV K56 391 (0 : Int32) (hb hby at_390) rfl ?_
  refine oIaload K56 392 (A42.keep Kp52 nin0) 0 (by decide) (by decide) rfl (hb hby at_391) ?_
  refine oIstore K56 394 (hb hby at_392) (l' := #[.val (.int p0), .val (.int p1), .val (.int p2), .val (.int p3), .val (.int p4), .val (.int p5), .val (.int 0), .val (.int f), .val (.int c0), .val (.int c1), .val (.int c2), .val (.int c3), .val (.ref ch), .val (.ref a2), .val (.ref a31), .val (.ref a39), .val (.int 0), .val (.ref r54), .val (.int 0)]) rfl ?_
  refine oAload K56 396 (hb hby at_394) rfl rfl ?_
  refine oAload K56 398 (hb hby at_396) rfl rfl ?_
  refine oIload K56 400 (hb hby at_398) rfl ?_
  refine oIconstV K56 401 (0 : Int32) (hb hby at_400) rfl ?_
  refine oStatic K56 404 0 (wq hw 79) (wq hw 80) (wq hw 3) (wq hw 81) (rmAt0_0 l Z a0 z0 fm G r54 a31 h48 K56.old K56.both ) [(.ref r54), (.ref a31), (.int 0), (.int 0)] [] (lenOf pd686 rfl) (hb hby at_401) ?_
  intro T57 h59 v60 lo61 fs62 K58 Kp63 q64
  obtain ⟨rfl, rfl⟩ := q64
  have K65 := K58.to 23 429 [a39, a31, a13, a2, ch]
  refine Owe.stk [(.int 1)] ?_
  refine oIfNo K65 407 (hb hby at_404) (XT.i0_eq_f (by decide)) ?_
  refine oAload K65 409 (hb hby at_407) rfl rfl ?_
  refine oAload K65 411 (hb hby at_409) rfl rfl ?_
  refine oIload K65 413 (hb hby at_411) rfl ?_
  refine oIconstV K65 414 (1 : Int32) (hb hby at_413) rfl ?_
  refine oStatic K65 417 0 (wq hw 79) (wq hw 80) (wq hw 3) (wq hw 81) (rmAt0_1 l Z a0 z0 fm G r54 a31 h59 K65.old K65.both ) [(.ref r54), (.ref a31), (.int 0), (.int 1)] [] (lenOf pd686 rfl) (hb hby at_414) ?_
  intro T66 h68 v69 lo70 fs71 K67 Kp72 q73
  obtain ⟨rfl, rfl⟩ := q73
  have K74 := K67.to 23 429 [a39, a31, a13, a2, ch]
  refine Owe.stk [(.int 1)] ?_
  refine oIfNo K74 420 (hb hby at_417) (XT.i0_eq_f (by decide)) ?_
  refine oAload K74 422 (hb hby at_420) rfl rfl ?_
  refine oAload K74 424 (hb hby at_422) rfl rfl ?_
  refine oIload K74 426 (hb hby at_424) rfl ?_
  refine oIconstV K74 427 (2 : Int32) (hb hby at_426) rfl ?_
  refine oStatic K74 430 0 (wq hw 79) (wq hw 80) (wq hw 3) (wq hw 81) (rmAt0_2 l Z a0 z0 fm G r54 a31 h68 K74.old K74.both ) [(.ref r54), (.ref a31), (.int 0), (.int 2)] [] (lenOf pd686 rfl) (hb hby at_427) ?_
  intro T75 h77 v78 lo79 fs80 K76 Kp81 q82
  obtain ⟨rfl, rfl⟩ := q82
  have K83 := K76.to 23 429 [a39, a31, a13, a2, ch]
  refine Owe.stk [(.int 1)] ?_
  refine oIfNo K83 433 (hb hby at_430) (XT.i0_eq_f (by decide)) ?_
  refine oAload K83 435 (hb hby at_433) rfl rfl ?_
  refine oAload K83 437 (hb hby at_435) rfl rfl ?_
  refine oIload K83 439 (hb hby at_437) rfl ?_
  refine oIconstV K83 440 (3 : Int32) (hb hby at_439) rfl ?_
  refine oStatic K83 443 0 (wq hw 79) (wq hw 80) (wq hw 3) (wq hw 81) (rmAt0_3 l Z a0 z0 fm G r54 a31 h77 K83.old K83.both ) [(.ref r54), (.ref a31), (.int 0), (.int 3)] [] (lenOf pd686 rfl) (hb hby at_440) ?_
  intro T84 h86 v87 lo88 fs89 K85 Kp90 q91
  obtain ⟨rfl, rfl⟩ := q91
  have K92 := K85.to 23 429 [a39, a31, a13, a2, ch]
  refine Owe.stk [(.int 1)] ?_
  refine oIfNo K92 446 (hb hby at_443) (XT.i0_eq_f (by decide)) ?_
  refine oIconstV K92 447 (1 : Int32) (hb hby at_446) rfl ?_
  refine oGoto K92 451 (hb hby at_447) ?_
  exact oRetI K92 [] (t := .boolean) hret (by simp) (by decide) (hb hby at_451) (by decide) (by decide) hlk (fun x hx => by cases hx) ⟨rfl, rfl⟩
theorem pd687 : parseMethodDescriptor "([CIIZ[I[I)I" = some ⟨[(.array .char), .int, .int, .boolean, (.array .int), (.array .int)], some .int⟩ := by decide +kernel
theorem sgN1 (G : Gl Z a0 z0 fm) (p0 p1 p2 p3 p4 p5 f c0 c1 c2 c3 : Int32) (ch : Addr) (hby : c.code = code) (hret : meth.sig.returnType = ret) (hlk : meth.locks = false) (h0 : Heap)
    (K0 : Wk p l e room_1 s m #[(.int p0), (.int p1), (.int p2), (.int p3), (.int p4), (.int p5)] below meth c Z a0 ELs "com/example/paredown/paredown/PercentEncodingDecodeBytesPinLaw" maxLocals [] [ch] T0 lo0 9 372 h0) (P0 : Ary Z h0 ch .char [(.int c0), (.int c1), (.int c2), (.int c3)]) (P1 : ¬ c0 < (0 : Int32)) (P2 : ¬ (65535 : Int32) < c0) (P3 : ¬ c1 < (0 : Int32)) (P4 : ¬ (65535 : Int32) < c1) (P5 : ¬ c2 < (0 : Int32)) (P6 : ¬ (65535 : Int32) < c2) (P7 : ¬ c3 < (0 : Int32)) (P8 : ¬ (65535 : Int32) < c3) :
    Owe p e below (PostW Z ELs [] room_1 (fun v h fs => (fs = [] ∧ v = some (.int 1))) s) T0 (mkF m 72 #[.val (.int p0), .val (.int p1), .val (.int p2), .val (.int p3), .val (.int p4), .val (.int p5), .val (.int 1), .val (.int f), .val (.int c0), .val (.int c1), .val (.int c2), .val (.int c3), .val (.ref ch), .unset, .unset, .unset, .unset, .unset, .unset] []) := by
  obtain ⟨hw, hEL, wS, OS, hz0, OA, OH, OL, OF, rfm⟩ := id G
  refine oIload K0 74 (hb hby at_72) rfl ?_
  refine oIfYes K0 92 (hb hby at_74) (XT.i0_ne_t (by decide)) ?_
  refine oIload K0 94 (hb hby at_92) rfl ?_
  refine oIconstV K0 95 (1 : Int32) (hb hby at_94) rfl ?_
  refine oIcmpNo K0 98 (hb hby at_95) (XT.ii_ne_f (by decide)) ?_
  refine oNew K0 101 (wq hw 39) (wq hw 7) (wq hw 6) (hb hby at_98) (by decide) (by decide) ?_
  intro T7 h1 a2 g3 K8 E4 X5 D6
  have F9 : Fld Z h1 a2 "java/lang/String" "value" "[B" .null := D6 (Or.inr (wq hw 9)) (ty := (.array .byte)) (by decide)
  have F10 : Fld Z h1 a2 "java/lang/String" "coder" "B" (.int 0) := D6 (Or.inr (wq hw 10)) (ty := .byte) (by decide)
  have K11 := K8.to 10 376 [a2, ch]
  refine oDup K11 102 (hb hby at_101) rfl ?_
  refine oIconstV K11 103 (1 : Int32) (hb hby at_102) rfl ?_
  refine oNewP K11 105 (ty := .char) 1 (wq hw 38) rfl (by decide) (by decide) (by decide) (hb hby at_103) (by decide) (by decide) ?_
  intro T17 h12 a13 g14 K18 E15 A16 
  have K19 := K18.to 11 377 [a13, a2, ch]
  refine oDup K19 106 (hb hby at_105) rfl ?_
  refine oIconstV K19 107 (0 : Int32) (hb hby at_106) rfl ?_
  refine oIload K19 109 (hb hby at_107) rfl ?_
  refine oCastore K19 110 (by simp) A16 0 (by decide) (by decide) nlt (nar_rng P1 P2) (hb hby at_109) ?_
  intro T24 h20 lo23 K25 W21 A22
  have A26 : Ary Z h20 a13 .char [(.int c0)] := A22
  have F27 := (Fld.other W21 (F9.ext E15) (Or.inl (Nat.ne_of_lt (Nat.lt_of_lt_of_le X5.lt (Nat.le_of_eq g14)))))
  have F28 := (Fld.other W21 (F10.ext E15) (Or.inl (Nat.ne_of_lt (Nat.lt_of_lt_of_le X5.lt (Nat.le_of_eq g14)))))
  refine oSpecial K25 113 1 (wq hw 40) (wq hw 41) (wq hw 6) (wq hw 42) (rmN1_1 l Z a0 z0 fm G a2 a13 c0 h20 K25.old K25.both ((X5.ext E15).wr W21) F27 F28 A26 (Nat.ne_of_lt (Nat.lt_of_lt_of_le X5.lt (Nat.le_of_eq g14))) P1 P2) [(.ref a13)] [(.ref a2)] (lenOf pd684 rfl) (hb hby at_110) ?_
  intro T29 h31 v32 lo33 fs34 K30 Kp35 q36
  obtain ⟨rfl, rfl, f37⟩ := q36
  have K38 := K30.to 13 380 [a13, a2, ch]
  refine Owe.stk [(.ref a2)] ?_
  refine oAstore K38 115 (hb hby at_113) rfl (l' := #[.val (.int p0), .val (.int p1), .val (.int p2), .val (.int p3), .val (.int p4), .val (.int p5), .val (.int 1), .val (.int f), .val (.int c0), .val (.int c1), .val (.int c2), .val (.int c3), .val (.ref ch), .val (.ref a2), .unset, .unset, .unset, .unset, .unset]) rfl ?_
  refine oGoto K38 217 (hb hby at_115) ?_
  refine oIconstV K38 218 (4 : Int32) (hb hby at_217) rfl ?_
  refine oNewP K38 220 (ty := .int) 4 (wq hw 51) rfl (by decide) (by decide) (by decide) (hb hby at_218) (by decide) (by decide) ?_
  intro T44 h39 a40 g41 K45 E42 A43 
  have K46 := K45.to 14 384 [a40, a13, a2, ch]
  refine oAstore K46 222 (hb hby at_220) rfl (l' := #[.val (.int p0), .val (.int p1), .val (.int p2), .val (.int p3), .val (.int p4), .val (.int p5), .val (.int 1), .val (.int f), .val (.int c0), .val (.int c1), .val (.int c2), .val (.int c3), .val (.ref ch), .val (.ref a2), .val (.ref a40), .unset, .unset, .unset, .unset]) rfl ?_
  refine oIconstV K46 223 (1 : Int32) (hb hby at_222) rfl ?_
  refine oNewP K46 225 (ty := .int) 1 (wq hw 51) rfl (by decide) (by decide) (by decide) (hb hby at_223) (by decide) (by decide) ?_
  intro T52 h47 a48 g49 K53 E50 A51 
  have K54 := K53.to 15 385 [a48, a40, a13, a2, ch]
  refine oAstore K54 227 (hb hby at_225) rfl (l' := #[.val (.int p0), .val (.int p1), .val (.int p2), .val (.int p3), .val (.int p4), .val (.int p5), .val (.int 1), .val (.int f), .val (.int c0), .val (.int c1), .val (.int c2), .val (.int c3), .val (.ref ch), .val (.ref a2), .val (.ref a40), .val (.ref a48), .unset, .unset, .unset]) rfl ?_
  refine oIconstV K54 228 (0 : Int32) (hb hby at_227) rfl ?_
  refine oIstore K54 230 (hb hby at_228) (l' := #[.val (.int p0), .val (.int p1), .val (.int p2), .val (.int p3), .val (.int p4), .val (.int p5), .val (.int 1), .val (.int f), .val (.int c0), .val (.int c1), .val (.int c2), .val (.int c3), .val (.ref ch), .val (.ref a2), .val (.ref a40), .val (.ref a48), .val (.int 0), .unset, .unset]) rfl ?_
  refine oIload K54 232 (hb hby at_230) rfl ?_
  refine oIfNo K54 235 (hb hby at_232) (XT.i0_lt_f (by decide)) ?_
  refine oIload K54 237 (hb hby at_235) rfl ?_
  refine oIload K54 239 (hb hby at_237) rfl ?_
  refine oIcmpNo K54 242 (hb hby at_239) (XT.ii_ge_f (by decide)) ?_
  refine oAload K54 244 (hb hby at_242) rfl rfl ?_
  refine oIload K54 246 (hb hby at_244) rfl ?_
  refine oIload K54 248 (hb hby at_246) rfl ?_
  refine oIload K54 250 (hb hby at_248) rfl ?_
  refine oAload K54 252 (hb hby at_250) rfl rfl ?_
  refine oAload K54 254 (hb hby at_252) rfl rfl ?_
  have n55 := (Nat.ne_of_lt (Nat.lt_of_lt_of_le (Nat.lt_of_lt_of_le P0.lt E4.1) (Nat.le_of_eq g14)))
  have F56 := ((((Ary.other ((P0.ext E4).ext E15) W21 n55).keep Kp35 (ninS (Nat.ne_of_lt (Nat.lt_of_lt_of_le P0.lt (Nat.le_of_eq g3))) nin0)).ext E42).ext E50)
  refine oStatic K54 257 0 (wq hw 93) (wq hw 94) (wq hw 3) (wq hw 95) (rmStep1_0_0 l Z a0 z0 fm G ch a40 a48 f c0 c1 c2 c3 ((0 : Int32)) ((0 : Int32)) ((0 : Int32)) ((0 : Int32)) h47 K54.old K54.both F56 (A43.ext E50) A51 (Nat.ne_of_lt (Nat.lt_of_lt_of_le A43.lt (Nat.le_of_eq g49))) P1 P2 P3 P4 P5 P6 P7 P8) [(.ref ch), (.int 1), (.int 0), (.int f), (.ref a40), (.ref a48)] [] (lenOf pd687 rfl) (hb hby at_254) ?_
  intro T57 h59 v60 lo61 fs62 K58 Kp63 q64
  rcases q64 with qq64_0 | qq64_1
  · obtain ⟨rfl, rfl, f65, f66, f67⟩ := qq64_0
    have K68 := K58.to 15 385 [a48, a40, a13, a2, ch]
    refine Owe.stk [(.int (-1))] ?_
    refine oIstore K68 259 (hb hby at_257) (l' := #[.val (.int p0), .val (.int p1), .val (.int p2), .val (.int p3), .val (.int p4), .val (.int p5), .val (.int 1), .val (.int f), .val (.int c0), .val (.int c1), .val (.int c2), .val (.int c3), .val (.ref ch), .val (.ref a2), .val (.ref a40), .val (.ref a48), .val (.int (-1)), .unset, .unset]) rfl ?_
    refine oIload K68 261 (hb hby at_259) rfl ?_
    refine oIfYes K68 288 (hb hby at_261) (XT.i0_lt_t (by decide)) ?_
    refine oIload K68 290 (hb hby at_288) rfl ?_
    refine oIfYes K68 317 (hb hby at_290) (XT.i0_lt_t (by decide)) ?_
    refine oIload K68 319 (hb hby at_317) rfl ?_
    refine oIfYes K68 346 (hb hby at_319) (XT.i0_lt_t (by decide)) ?_
    refine oAload K68 348 (hb hby at_346) rfl rfl ?_
    refine oIload K68 350 (hb hby at_348) rfl ?_
    have F69 := (((f37.ext E42).ext E50).keep Kp63 (geS (Nat.le_trans f37.bd (Nat.le_of_eq g41)) (geS (Nat.le_trans (f37.ext E42).bd (Nat.le_of_eq g49)) geN)))
    refine oStatic K68 353 0 (wq hw 52) (wq hw 53) (wq hw 54) (wq hw 55) (rmDB1 l Z a0 z0 fm G a2 (h31.size) f c0 h59 K68.old K68.both F69 P1 P2) [(.ref a2), (.int f)] [] (lenOf pd685 rfl) (hb hby at_350) ?_
    intro T70 h72 v73 lo74 fs75 K71 Kp76 q77
    rcases q77 with qq77_0 | qq77_1
    · obtain ⟨rfl, rfl, f78⟩ := qq77_0
      have K79 := K71.to 21 425 [a48, a40, a13, a2, ch]
      refine Owe.stk [.null] ?_
      refine oAstore K79 355 (hb hby at_353) rfl (l' := #[.val (.int p0), .val (.int p1), .val (.int p2), .val (.int p3), .val (.int p4), .val (.int p5), .val (.int 1), .val (.int f), .val (.int c0), .val (.int c1), .val (.int c2), .val (.int c3), .val (.ref ch), .val (.ref a2), .val (.ref a40), .val (.ref a48), .val (.int (-1)), .val .null, .unset]) rfl ?_
      refine oIload K79 357 (hb hby at_355) rfl ?_
      refine oIfNo K79 360 (hb hby at_357) (XT.i0_ge_f (by decide)) ?_
      refine oAload K79 362 (hb hby at_360) rfl rfl ?_
      refine oIfnonnullNo K79 365 (hb hby at_362) ?_
      refine oIconstV K79 366 (1 : Int32) (hb hby at_365) rfl ?_
      refine oGoto K79 370 (hb hby at_366) ?_
      exact oRetI K79 [] (t := .boolean) hret (by simp) (by decide) (hb hby at_370) (by decide) (by decide) hlk (fun x hx => by cases hx) ⟨rfl, rfl⟩
    · obtain ⟨r80, rfl, rfl, f81, f82, f83⟩ := qq77_1
      exact False.elim (own_noO f67 f82 f83)
  · obtain ⟨rfl, rfl, f84, f85, f86, f87, f88, f89⟩ := qq64_1
    have K90 := K58.to 15 385 [a48, a40, a13, a2, ch]
    refine Owe.stk [(.int 1)] ?_
    refine oIstore K90 259 (hb hby at_257) (l' := #[.val (.int p0), .val (.int p1), .val (.int p2), .val (.int p3), .val (.int p4), .val (.int p5), .val (.int 1), .val (.int f), .val (.int c0), .val (.int c1), .val (.int c2), .val (.int c3), .val (.ref ch), .val (.ref a2), .val (.ref a40), .val (.ref a48), .val (.int 1), .unset, .unset]) rfl ?_
    refine oIload K90 261 (hb hby at_259) rfl ?_
    refine oIfNo K90 264 (hb hby at_261) (XT.i0_lt_f (by decide)) ?_
    refine oIload K90 266 (hb hby at_264) rfl ?_
    refine oIload K90 268 (hb hby at_266) rfl ?_
    refine oIcmpYes K90 288 (hb hby at_268) (XT.ii_ge_t (by decide)) ?_
    refine oIload K90 290 (hb hby at_288) rfl ?_
    refine oIfNo K90 293 (hb hby at_290) (XT.i0_lt_f (by decide)) ?_
    refine oIload K90 295 (hb hby at_293) rfl ?_
    refine oIload K90 297 (hb hby at_295) rfl ?_
    refine oIcmpYes K90 317 (hb hby at_297) (XT.ii_ge_t (by decide)) ?_
    refine oIload K90 319 (hb hby at_317) rfl ?_
    refine oIfNo K90 322 (hb hby at_319) (XT.i0_lt_f (by decide)) ?_
    refine oIload K90 324 (hb hby at_322) rfl ?_
    refine oIload K90 326 (hb hby at_324) rfl ?_
    refine oIcmpYes K90 346 (hb hby at_326) (XT.ii_ge_t (by decide)) ?_
    refine oAload K90 348 (hb hby at_346) rfl rfl ?_
    refine oIload K90 350 (hb hby at_348) rfl ?_
    have F91 := (((f37.ext E42).ext E50).keep Kp63 (geS (Nat.le_trans f37.bd (Nat.le_of_eq g41)) (geS (Nat.le_trans (f37.ext E42).bd (Nat.le_of_eq g49)) geN)))
    refine oStatic K90 353 0 (wq hw 52) (wq hw 53) (wq hw 54) (wq hw 55) (rmDB1 l Z a0 z0 fm G a2 (h31.size) f c0 h59 K90.old K90.both F91 P1 P2) [(.ref a2), (.int f)] [] (lenOf pd685 rfl) (hb hby at_350) ?_
    intro T92 h94 v95 lo96 fs97 K93 Kp98 q99
    rcases q99 with qq99_0 | qq99_1
    · obtain ⟨rfl, rfl, f100⟩ := qq99_0
      exact False.elim (own_noO f100 f86 f87)
    · obtain ⟨r101, rfl, rfl, f102, f103, f104⟩ := qq99_1
      have K105 := K93.to 21 425 [a48, a40, a13, a2, ch]
      refine Owe.stk [(.ref r101)] ?_
      refine oAstore K105 355 (hb hby at_353) rfl (l' := #[.val (.int p0), .val (.int p1), .val (.int p2), .val (.int p3), .val (.int p4), .val (.int p5), .val (.int 1), .val (.int f), .val (.int c0), .val (.int c1), .val (.int c2), .val (.int c3), .val (.ref ch), .val (.ref a2), .val (.ref a40), .val (.ref a48), .val (.int 1), .val (.ref r101), .unset]) rfl ?_
      refine oIload K105 357 (hb hby at_355) rfl ?_
      refine oIfYes K105 371 (hb hby at_357) (XT.i0_ge_t (by decide)) ?_
      refine oAload K105 373 (hb hby at_371) rfl rfl ?_
      refine oIfnullNo K105 376 (hb hby at_373) ?_
      refine oAload K105 378 (hb hby at_376) rfl rfl ?_
      refine oLen K105 379 f102 (n := (1 : Int32)) (by first | rfl | decide) (hb hby at_378) ?_
      refine oAload K105 381 (hb hby at_379) rfl rfl ?_
      refine oIconstV K105 382 (0 : Int32) (hb hby at_381) rfl ?_
      refine oIaload K105 383 (f85.keep Kp98 nin0) 0 (by decide) (by decide) rfl (hb hby at_382) ?_
      refine oIcmpYes K105 388 (hb hby at_383) (XT.ii_eq_t (by decide)) ?_
      refine oAload K105 390 (hb hby at_388) rfl rfl ?_
      refine oIconstV K105 391 (0 : Int32) (hb hby at_390) rfl ?_
      refine oIaload K105 392 (f85.keep Kp98 nin0) 0 (by decide) (by decide) rfl (hb hby at_391) ?_
      refine oIstore K105 394 (hb hby at_392) (l' := #[.val (.int p0), .val (.int p1), .val (.int p2), .val (.int p3), .val (.int p4), .val (.int p5), .val (.int 1), .val (.int f), .val (.int c0), .val (.int c1), .val (.int c2), .val (.int c3), .val (.ref ch), .val (.ref a2), .val (.ref a40), .val (.ref a48), .val (.int 1), .val (.ref r101), .val (.int 1)]) rfl ?_
      refine oAload K105 396 (hb hby at_394) rfl rfl ?_
      refine oAload K105 398 (hb hby at_396) rfl rfl ?_
      refine oIload K105 400 (hb hby at_398) rfl ?_
      refine oIconstV K105 401 (0 : Int32) (hb hby at_400) rfl ?_
      refine oStatic K105 404 0 (wq hw 79) (wq hw 80) (wq hw 3) (wq hw 81) (rmAt1_0 l Z a0 z0 fm G r101 a40 ((one f c0)) ((0 : Int32)) ((0 : Int32)) ((0 : Int32)) h94 K105.old K105.both f102 (f84.keep Kp98 nin0) f88 f89) [(.ref r101), (.ref a40), (.int 1), (.int 0)] [] (lenOf pd686 rfl) (hb hby at_401) ?_
      intro T106 h108 v109 lo110 fs111 K107 Kp112 q113
      obtain ⟨rfl, rfl⟩ := q113
      have K114 := K107.to 21 425 [a48, a40, a13, a2, ch]
      refine Owe.stk [(.int 1)] ?_
      refine oIfNo K114 407 (hb hby at_404) (XT.i0_eq_f (by decide)) ?_
      refine oAload K114 409 (hb hby at_407) rfl rfl ?_
      refine oAload K114 411 (hb hby at_409) rfl rfl ?_
      refine oIload K114 413 (hb hby at_411) rfl ?_
      refine oIconstV K114 414 (1 : Int32) (hb hby at_413) rfl ?_
      refine oStatic K114 417 0 (wq hw 79) (wq hw 80) (wq hw 3) (wq hw 81) (rmAt1_1 l Z a0 z0 fm G r101 a40 h108 K114.old K114.both ) [(.ref r101), (.ref a40), (.int 1), (.int 1)] [] (lenOf pd686 rfl) (hb hby at_414) ?_
      intro T115 h117 v118 lo119 fs120 K116 Kp121 q122
      obtain ⟨rfl, rfl⟩ := q122
      have K123 := K116.to 21 425 [a48, a40, a13, a2, ch]
      refine Owe.stk [(.int 1)] ?_
      refine oIfNo K123 420 (hb hby at_417) (XT.i0_eq_f (by decide)) ?_
      refine oAload K123 422 (hb hby at_420) rfl rfl ?_
      refine oAload K123 424 (hb hby at_422) rfl rfl ?_
      refine oIload K123 426 (hb hby at_424) rfl ?_
      refine oIconstV K123 427 (2 : Int32) (hb hby at_426) rfl ?_
      refine oStatic K123 430 0 (wq hw 79) (wq hw 80) (wq hw 3) (wq hw 81) (rmAt1_2 l Z a0 z0 fm G r101 a40 h117 K123.old K123.both ) [(.ref r101), (.ref a40), (.int 1), (.int 2)] [] (lenOf pd686 rfl) (hb hby at_427) ?_
      intro T124 h126 v127 lo128 fs129 K125 Kp130 q131
      obtain ⟨rfl, rfl⟩ := q131
      have K132 := K125.to 21 425 [a48, a40, a13, a2, ch]
      refine Owe.stk [(.int 1)] ?_
      refine oIfNo K132 433 (hb hby at_430) (XT.i0_eq_f (by decide)) ?_
      refine oAload K132 435 (hb hby at_433) rfl rfl ?_
      refine oAload K132 437 (hb hby at_435) rfl rfl ?_
      refine oIload K132 439 (hb hby at_437) rfl ?_
      refine oIconstV K132 440 (3 : Int32) (hb hby at_439) rfl ?_
      refine oStatic K132 443 0 (wq hw 79) (wq hw 80) (wq hw 3) (wq hw 81) (rmAt1_3 l Z a0 z0 fm G r101 a40 h126 K132.old K132.both ) [(.ref r101), (.ref a40), (.int 1), (.int 3)] [] (lenOf pd686 rfl) (hb hby at_440) ?_
      intro T133 h135 v136 lo137 fs138 K134 Kp139 q140
      obtain ⟨rfl, rfl⟩ := q140
      have K141 := K134.to 21 425 [a48, a40, a13, a2, ch]
      refine Owe.stk [(.int 1)] ?_
      refine oIfNo K141 446 (hb hby at_443) (XT.i0_eq_f (by decide)) ?_
      refine oIconstV K141 447 (1 : Int32) (hb hby at_446) rfl ?_
      refine oGoto K141 451 (hb hby at_447) ?_
      exact oRetI K141 [] (t := .boolean) hret (by simp) (by decide) (hb hby at_451) (by decide) (by decide) hlk (fun x hx => by cases hx) ⟨rfl, rfl⟩
theorem sgN2 (G : Gl Z a0 z0 fm) (p0 p1 p2 p3 p4 p5 f c0 c1 c2 c3 : Int32) (ch : Addr) (hby : c.code = code) (hret : meth.sig.returnType = ret) (hlk : meth.locks = false) (h0 : Heap)
    (K0 : Wk p l e room_1 s m #[(.int p0), (.int p1), (.int p2), (.int p3), (.int p4), (.int p5)] below meth c Z a0 ELs "com/example/paredown/paredown/PercentEncodingDecodeBytesPinLaw" maxLocals [] [ch] T0 lo0 9 372 h0) (P0 : Ary Z h0 ch .char [(.int c0), (.int c1), (.int c2), (.int c3)]) (P1 : ¬ c0 < (0 : Int32)) (P2 : ¬ (65535 : Int32) < c0) (P3 : ¬ c1 < (0 : Int32)) (P4 : ¬ (65535 : Int32) < c1) (P5 : ¬ c2 < (0 : Int32)) (P6 : ¬ (65535 : Int32) < c2) (P7 : ¬ c3 < (0 : Int32)) (P8 : ¬ (65535 : Int32) < c3) :
    Owe p e below (PostW Z ELs [] room_1 (fun v h fs => (fs = [] ∧ v = some (.int 1))) s) T0 (mkF m 72 #[.val (.int p0), .val (.int p1), .val (.int p2), .val (.int p3), .val (.int p4), .val (.int p5), .val (.int 2), .val (.int f), .val (.int c0), .val (.int c1), .val (.int c2), .val (.int c3), .val (.ref ch), .unset, .unset, .unset, .unset, .unset, .unset] []) := by
  obtain ⟨hw, hEL, wS, OS, hz0, OA, OH, OL, OF, rfm⟩ := id G
  refine oIload K0 74 (hb hby at_72) rfl ?_
  refine oIfYes K0 92 (hb hby at_74) (XT.i0_ne_t (by decide)) ?_
  refine oIload K0 94 (hb hby at_92) rfl ?_
  refine oIconstV K0 95 (1 : Int32) (hb hby at_94) rfl ?_
  refine oIcmpYes K0 118 (hb hby at_95) (XT.ii_ne_t (by decide)) ?_
  refine oIload K0 120 (hb hby at_118) rfl ?_
  refine oIconstV K0 121 (2 : Int32) (hb hby at_120) rfl ?_
  refine oIcmpNo K0 124 (hb hby at_121) (XT.ii_ne_f (by decide)) ?_
  refine oNew K0 127 (wq hw 39) (wq hw 7) (wq hw 6) (hb hby at_124) (by decide) (by decide) ?_
  intro T7 h1 a2 g3 K8 E4 X5 D6
  have F9 : Fld Z h1 a2 "java/lang/String" "value" "[B" .null := D6 (Or.inr (wq hw 9)) (ty := (.array .byte)) (by decide)
  have F10 : Fld Z h1 a2 "java/lang/String" "coder" "B" (.int 0) := D6 (Or.inr (wq hw 10)) (ty := .byte) (by decide)
  have K11 := K8.to 10 376 [a2, ch]
  refine oDup K11 128 (hb hby at_127) rfl ?_
  refine oIconstV K11 129 (2 : Int32) (hb hby at_128) rfl ?_
  refine oNewP K11 131 (ty := .char) 2 (wq hw 38) rfl (by decide) (by decide) (by decide) (hb hby at_129) (by decide) (by decide) ?_
  intro T17 h12 a13 g14 K18 E15 A16 
  have K19 := K18.to 11 378 [a13, a2, ch]
  refine oDup K19 132 (hb hby at_131) rfl ?_
  refine oIconstV K19 133 (0 : Int32) (hb hby at_132) rfl ?_
  refine oIload K19 135 (hb hby at_133) rfl ?_
  refine oCastore K19 136 (by simp) A16 0 (by decide) (by decide) nlt (nar_rng P1 P2) (hb hby at_135) ?_
  intro T24 h20 lo23 K25 W21 A22
  have A26 : Ary Z h20 a13 .char [(.int c0), (.int 0)] := A22
  refine oDup K25 137 (hb hby at_136) rfl ?_
  refine oIconstV K25 138 (1 : Int32) (hb hby at_137) rfl ?_
  refine oIload K25 140 (hb hby at_138) rfl ?_
  refine oCastore K25 141 (by simp) A26 1 (by decide) (by decide) nlt (nar_rng P3 P4) (hb hby at_140) ?_
  intro T31 h27 lo30 K32 W28 A29
  have A33 : Ary Z h27 a13 .char [(.int c0), (.int c1)] := A29
  have F34 := (Fld.other W28 (Fld.other W21 (F9.ext E15) (Or.inl (Nat.ne_of_lt (Nat.lt_of_lt_of_le X5.lt (Nat.le_of_eq g14))))) (Or.inl (Nat.ne_of_lt (Nat.lt_of_lt_of_le X5.lt (Nat.le_of_eq g14)))))
  have F35 := (Fld.other W28 (Fld.other W21 (F10.ext E15) (Or.inl (Nat.ne_of_lt (Nat.lt_of_lt_of_le X5.lt (Nat.le_of_eq g14))))) (Or.inl (Nat.ne_of_lt (Nat.lt_of_lt_of_le X5.lt (Nat.le_of_eq g14)))))
  refine oSpecial K32 144 1 (wq hw 40) (wq hw 41) (wq hw 6) (wq hw 42) (rmN1_2 l Z a0 z0 fm G a2 a13 c0 c1 h27 K32.old K32.both (((X5.ext E15).wr W21).wr W28) F34 F35 A33 (Nat.ne_of_lt (Nat.lt_of_lt_of_le X5.lt (Nat.le_of_eq g14))) P1 P2 P3 P4) [(.ref a13)] [(.ref a2)] (lenOf pd684 rfl) (hb hby at_141) ?_
  intro T36 h38 v39 lo40 fs41 K37 Kp42 q43
  obtain ⟨rfl, rfl, f44⟩ := q43
  have K45 := K37.to 13 384 [a13, a2, ch]
  refine Owe.stk [(.ref a2)] ?_
  refine oAstore K45 146 (hb hby at_144) rfl (l' := #[.val (.int p0), .val (.int p1), .val (.int p2), .val (.int p3), .val (.int p4), .val (.int p5), .val (.int 2), .val (.int f), .val (.int c0), .val (.int c1), .val (.int c2), .val (.int c3), .val (.ref ch), .val (.ref a2), .unset, .unset, .unset, .unset, .unset]) rfl ?_
  refine oGoto K45 217 (hb hby at_146) ?_
  refine oIconstV K45 218 (4 : Int32) (hb hby at_217) rfl ?_
  refine oNewP K45 220 (ty := .int) 4 (wq hw 51) rfl (by decide) (by decide) (by decide) (hb hby at_218) (by decide) (by decide) ?_
  intro T51 h46 a47 g48 K52 E49 A50 
  have K53 := K52.to 14 388 [a47, a13, a2, ch]
  refine oAstore K53 222 (hb hby at_220) rfl (l' := #[.val (.int p0), .val (.int p1), .val (.int p2), .val (.int p3), .val (.int p4), .val (.int p5), .val (.int 2), .val (.int f), .val (.int c0), .val (.int c1), .val (.int c2), .val (.int c3), .val (.ref ch), .val (.ref a2), .val (.ref a47), .unset, .unset, .unset, .unset]) rfl ?_
  refine oIconstV K53 223 (1 : Int32) (hb hby at_222) rfl ?_
  refine oNewP K53 225 (ty := .int) 1 (wq hw 51) rfl (by decide) (by decide) (by decide) (hb hby at_223) (by decide) (by decide) ?_
  intro T59 h54 a55 g56 K60 E57 A58 
  have K61 := K60.to 15 389 [a55, a47, a13, a2, ch]
  refine oAstore K61 227 (hb hby at_225) rfl (l' := #[.val (.int p0), .val (.int p1), .val (.int p2), .val (.int p3), .val (.int p4), .val (.int p5), .val (.int 2), .val (.int f), .val (.int c0), .val (.int c1), .val (.int c2), .val (.int c3), .val (.ref ch), .val (.ref a2), .val (.ref a47), .val (.ref a55), .unset, .unset, .unset]) rfl ?_
  refine oIconstV K61 228 (0 : Int32) (hb hby at_227) rfl ?_
  refine oIstore K61 230 (hb hby at_228) (l' := #[.val (.int p0), .val (.int p1), .val (.int p2), .val (.int p3), .val (.int p4), .val (.int p5), .val (.int 2), .val (.int f), .val (.int c0), .val (.int c1), .val (.int c2), .val (.int c3), .val (.ref ch), .val (.ref a2), .val (.ref a47), .val (.ref a55), .val (.int 0), .unset, .unset]) rfl ?_
  refine oIload K61 232 (hb hby at_230) rfl ?_
  refine oIfNo K61 235 (hb hby at_232) (XT.i0_lt_f (by decide)) ?_
  refine oIload K61 237 (hb hby at_235) rfl ?_
  refine oIload K61 239 (hb hby at_237) rfl ?_
  refine oIcmpNo K61 242 (hb hby at_239) (XT.ii_ge_f (by decide)) ?_
  refine oAload K61 244 (hb hby at_242) rfl rfl ?_
  refine oIload K61 246 (hb hby at_244) rfl ?_
  refine oIload K61 248 (hb hby at_246) rfl ?_
  refine oIload K61 250 (hb hby at_248) rfl ?_
  refine oAload K61 252 (hb hby at_250) rfl rfl ?_
  refine oAload K61 254 (hb hby at_252) rfl rfl ?_
  have n62 := (Nat.ne_of_lt (Nat.lt_of_lt_of_le (Nat.lt_of_lt_of_le P0.lt E4.1) (Nat.le_of_eq g14)))
  have F63 := ((((Ary.other (Ary.other ((P0.ext E4).ext E15) W21 n62) W28 n62).keep Kp42 (ninS (Nat.ne_of_lt (Nat.lt_of_lt_of_le P0.lt (Nat.le_of_eq g3))) nin0)).ext E49).ext E57)
  refine oStatic K61 257 0 (wq hw 93) (wq hw 94) (wq hw 3) (wq hw 95) (rmStep2_0_0 l Z a0 z0 fm G ch a47 a55 f c0 c1 c2 c3 ((0 : Int32)) ((0 : Int32)) ((0 : Int32)) ((0 : Int32)) h54 K61.old K61.both F63 (A50.ext E57) A58 (Nat.ne_of_lt (Nat.lt_of_lt_of_le A50.lt (Nat.le_of_eq g56))) P1 P2 P3 P4 P5 P6 P7 P8) [(.ref ch), (.int 2), (.int 0), (.int f), (.ref a47), (.ref a55)] [] (lenOf pd687 rfl) (hb hby at_254) ?_
  intro T64 h66 v67 lo68 fs69 K65 Kp70 q71
  rcases q71 with qq71_0 | qq71_1
  · obtain ⟨rfl, rfl, f72, f73, f74⟩ := qq71_0
    have K75 := K65.to 15 389 [a55, a47, a13, a2, ch]
    refine Owe.stk [(.int (-1))] ?_
    refine oIstore K75 259 (hb hby at_257) (l' := #[.val (.int p0), .val (.int p1), .val (.int p2), .val (.int p3), .val (.int p4), .val (.int p5), .val (.int 2), .val (.int f), .val (.int c0), .val (.int c1), .val (.int c2), .val (.int c3), .val (.ref ch), .val (.ref a2), .val (.ref a47), .val (.ref a55), .val (.int (-1)), .unset, .unset]) rfl ?_
    refine oIload K75 261 (hb hby at_259) rfl ?_
    refine oIfYes K75 288 (hb hby at_261) (XT.i0_lt_t (by decide)) ?_
    refine oIload K75 290 (hb hby at_288) rfl ?_
    refine oIfYes K75 317 (hb hby at_290) (XT.i0_lt_t (by decide)) ?_
    refine oIload K75 319 (hb hby at_317) rfl ?_
    refine oIfYes K75 346 (hb hby at_319) (XT.i0_lt_t (by decide)) ?_
    refine oAload K75 348 (hb hby at_346) rfl rfl ?_
    refine oIload K75 350 (hb hby at_348) rfl ?_
    have F76 := (((f44.ext E49).ext E57).keep Kp70 (geS (Nat.le_trans f44.bd (Nat.le_of_eq g48)) (geS (Nat.le_trans (f44.ext E49).bd (Nat.le_of_eq g56)) geN)))
    refine oStatic K75 353 0 (wq hw 52) (wq hw 53) (wq hw 54) (wq hw 55) (rmDB2 l Z a0 z0 fm G a2 (h38.size) f c0 c1 h66 K75.old K75.both F76 P1 P2 P3 P4) [(.ref a2), (.int f)] [] (lenOf pd685 rfl) (hb hby at_350) ?_
    intro T77 h79 v80 lo81 fs82 K78 Kp83 q84
    rcases q84 with qq84_0 | qq84_1 | qq84_2
    · obtain ⟨rfl, rfl, f85⟩ := qq84_0
      have K86 := K78.to 21 429 [a55, a47, a13, a2, ch]
      refine Owe.stk [.null] ?_
      refine oAstore K86 355 (hb hby at_353) rfl (l' := #[.val (.int p0), .val (.int p1), .val (.int p2), .val (.int p3), .val (.int p4), .val (.int p5), .val (.int 2), .val (.int f), .val (.int c0), .val (.int c1), .val (.int c2), .val (.int c3), .val (.ref ch), .val (.ref a2), .val (.ref a47), .val (.ref a55), .val (.int (-1)), .val .null, .unset]) rfl ?_
      refine oIload K86 357 (hb hby at_355) rfl ?_
      refine oIfNo K86 360 (hb hby at_357) (XT.i0_ge_f (by decide)) ?_
      refine oAload K86 362 (hb hby at_360) rfl rfl ?_
      refine oIfnonnullNo K86 365 (hb hby at_362) ?_
      refine oIconstV K86 366 (1 : Int32) (hb hby at_365) rfl ?_
      refine oGoto K86 370 (hb hby at_366) ?_
      exact oRetI K86 [] (t := .boolean) hret (by simp) (by decide) (hb hby at_370) (by decide) (by decide) hlk (fun x hx => by cases hx) ⟨rfl, rfl⟩
    · obtain ⟨rfl, rfl, f87, f88, f89⟩ := qq84_1
      exact False.elim (own_noO f74 f87 f88)
    · obtain ⟨r90, rfl, rfl, f91, f92, f93, f94, f95⟩ := qq84_2
      exact False.elim (own_noO f74 f92 f93)
  · obtain ⟨rfl, rfl, f96, f97, f98, f99, f100, f101⟩ := qq71_1
    have K102 := K65.to 15 389 [a55, a47, a13, a2, ch]
    refine Owe.stk [(.int 1)] ?_
    refine oIstore K102 259 (hb hby at_257) (l' := #[.val (.int p0), .val (.int p1), .val (.int p2), .val (.int p3), .val (.int p4), .val (.int p5), .val (.int 2), .val (.int f), .val (.int c0), .val (.int c1), .val (.int c2), .val (.int c3), .val (.ref ch), .val (.ref a2), .val (.ref a47), .val (.ref a55), .val (.int 1), .unset, .unset]) rfl ?_
    refine oIload K102 261 (hb hby at_259) rfl ?_
    refine oIfNo K102 264 (hb hby at_261) (XT.i0_lt_f (by decide)) ?_
    refine oIload K102 266 (hb hby at_264) rfl ?_
    refine oIload K102 268 (hb hby at_266) rfl ?_
    refine oIcmpNo K102 271 (hb hby at_268) (XT.ii_ge_f (by decide)) ?_
    refine oAload K102 273 (hb hby at_271) rfl rfl ?_
    refine oIload K102 275 (hb hby at_273) rfl ?_
    refine oIload K102 277 (hb hby at_275) rfl ?_
    refine oIload K102 279 (hb hby at_277) rfl ?_
    refine oAload K102 281 (hb hby at_279) rfl rfl ?_
    refine oAload K102 283 (hb hby at_281) rfl rfl ?_
    have n103 := (Nat.ne_of_lt (Nat.lt_of_lt_of_le (Nat.lt_of_lt_of_le P0.lt (Nat.le_trans E4.1 (Nat.le_trans E15.1 (Nat.le_trans (Nat.le_of_eq W21.size.symm) (Nat.le_trans (Nat.le_of_eq W28.size.symm) (Nat.le_trans Kp42.1 E49.1)))))) (Nat.le_of_eq g56)))
    have n104 := (Nat.ne_of_lt (Nat.lt_of_lt_of_le (Nat.lt_of_lt_of_le P0.lt (Nat.le_trans E4.1 (Nat.le_trans E15.1 (Nat.le_trans (Nat.le_of_eq W21.size.symm) (Nat.le_trans (Nat.le_of_eq W28.size.symm) Kp42.1))))) (Nat.le_of_eq g48)))
    refine oStatic K102 286 0 (wq hw 93) (wq hw 94) (wq hw 3) (wq hw 95) (rmStep2_1_1 l Z a0 z0 fm G ch a47 a55 f c0 c1 c2 c3 ((one f c0)) ((0 : Int32)) ((0 : Int32)) ((0 : Int32)) h66 K102.old K102.both (F63.keep Kp70 (ninS n104 (ninS n103 nin0))) f96 f97 (Nat.ne_of_lt (Nat.lt_of_lt_of_le A50.lt (Nat.le_of_eq g56))) P1 P2 P3 P4 P5 P6 P7 P8) [(.ref ch), (.int 2), (.int 1), (.int f), (.ref a47), (.ref a55)] [] (lenOf pd687 rfl) (hb hby at_283) ?_
    intro T105 h107 v108 lo109 fs110 K106 Kp111 q112
    rcases q112 with qq112_0 | qq112_1
    · obtain ⟨rfl, rfl, f113, f114, f115⟩ := qq112_0
      have K116 := K106.to 15 389 [a55, a47, a13, a2, ch]
      refine Owe.stk [(.int (-1))] ?_
      refine oIstore K116 288 (hb hby at_286) (l' := #[.val (.int p0), .val (.int p1), .val (.int p2), .val (.int p3), .val (.int p4), .val (.int p5), .val (.int 2), .val (.int f), .val (.int c0), .val (.int c1), .val (.int c2), .val (.int c3), .val (.ref ch), .val (.ref a2), .val (.ref a47), .val (.ref a55), .val (.int (-1)), .unset, .unset]) rfl ?_
      refine oIload K116 290 (hb hby at_288) rfl ?_
      refine oIfYes K116 317 (hb hby at_290) (XT.i0_lt_t (by decide)) ?_
      refine oIload K116 319 (hb hby at_317) rfl ?_
      refine oIfYes K116 346 (hb hby at_319) (XT.i0_lt_t (by decide)) ?_
      refine oAload K116 348 (hb hby at_346) rfl rfl ?_
      refine oIload K116 350 (hb hby at_348) rfl ?_
      have F117 := ((((f44.ext E49).ext E57).keep Kp70 (geS (Nat.le_trans f44.bd (Nat.le_of_eq g48)) (geS (Nat.le_trans (f44.ext E49).bd (Nat.le_of_eq g56)) geN))).keep Kp111 (geS (Nat.le_trans f44.bd (Nat.le_of_eq g48)) (geS (Nat.le_trans (f44.ext E49).bd (Nat.le_of_eq g56)) geN)))
      refine oStatic K116 353 0 (wq hw 52) (wq hw 53) (wq hw 54) (wq hw 55) (rmDB2 l Z a0 z0 fm G a2 (h38.size) f c0 c1 h107 K116.old K116.both F117 P1 P2 P3 P4) [(.ref a2), (.int f)] [] (lenOf pd685 rfl) (hb hby at_350) ?_
      intro T118 h120 v121 lo122 fs123 K119 Kp124 q125
      rcases q125 with qq125_0 | qq125_1 | qq125_2
      · obtain ⟨rfl, rfl, f126⟩ := qq125_0
        exact False.elim (own_noO f126 f98 f99)
      · obtain ⟨rfl, rfl, f127, f128, f129⟩ := qq125_1
        have K130 := K119.to 21 429 [a55, a47, a13, a2, ch]
        refine Owe.stk [.null] ?_
        refine oAstore K130 355 (hb hby at_353) rfl (l' := #[.val (.int p0), .val (.int p1), .val (.int p2), .val (.int p3), .val (.int p4), .val (.int p5), .val (.int 2), .val (.int f), .val (.int c0), .val (.int c1), .val (.int c2), .val (.int c3), .val (.ref ch), .val (.ref a2), .val (.ref a47), .val (.ref a55), .val (.int (-1)), .val .null, .unset]) rfl ?_
        refine oIload K130 357 (hb hby at_355) rfl ?_
        refine oIfNo K130 360 (hb hby at_357) (XT.i0_ge_f (by decide)) ?_
        refine oAload K130 362 (hb hby at_360) rfl rfl ?_
        refine oIfnonnullNo K130 365 (hb hby at_362) ?_
        refine oIconstV K130 366 (1 : Int32) (hb hby at_365) rfl ?_
        refine oGoto K130 370 (hb hby at_366) ?_
        exact oRetI K130 [] (t := .boolean) hret (by simp) (by decide) (hb hby at_370) (by decide) (by decide) hlk (fun x hx => by cases hx) ⟨rfl, rfl⟩
      · obtain ⟨r131, rfl, rfl, f132, f133, f134, f135, f136⟩ := qq125_2
        exact False.elim (own_noO f115 f135 f136)
    · obtain ⟨rfl, rfl, f137, f138, f139, f140, f141, f142⟩ := qq112_1
      have K143 := K106.to 15 389 [a55, a47, a13, a2, ch]
      refine Owe.stk [(.int 2)] ?_
      refine oIstore K143 288 (hb hby at_286) (l' := #[.val (.int p0), .val (.int p1), .val (.int p2), .val (.int p3), .val (.int p4), .val (.int p5), .val (.int 2), .val (.int f), .val (.int c0), .val (.int c1), .val (.int c2), .val (.int c3), .val (.ref ch), .val (.ref a2), .val (.ref a47), .val (.ref a55), .val (.int 2), .unset, .unset]) rfl ?_
      refine oIload K143 290 (hb hby at_288) rfl ?_
      refine oIfNo K143 293 (hb hby at_290) (XT.i0_lt_f (by decide)) ?_
      refine oIload K143 295 (hb hby at_293) rfl ?_
      refine oIload K143 297 (hb hby at_295) rfl ?_
      refine oIcmpYes K143 317 (hb hby at_297) (XT.ii_ge_t (by decide)) ?_
      refine oIload K143 319 (hb hby at_317) rfl ?_
      refine oIfNo K143 322 (hb hby at_319) (XT.i0_lt_f (by decide)) ?_
      refine oIload K143 324 (hb hby at_322) rfl ?_
      refine oIload K143 326 (hb hby at_324) rfl ?_
      refine oIcmpYes K143 346 (hb hby at_326) (XT.ii_ge_t (by decide)) ?_
      refine oAload K143 348 (hb hby at_346) rfl rfl ?_
      refine oIload K143 350 (hb hby at_348) rfl ?_
      have F144 := ((((f44.ext E49).ext E57).keep Kp70 (geS (Nat.le_trans f44.bd (Nat.le_of_eq g48)) (geS (Nat.le_trans (f44.ext E49).bd (Nat.le_of_eq g56)) geN))).keep Kp111 (geS (Nat.le_trans f44.bd (Nat.le_of_eq g48)) (geS (Nat.le_trans (f44.ext E49).bd (Nat.le_of_eq g56)) geN)))
      refine oStatic K143 353 0 (wq hw 52) (wq hw 53) (wq hw 54) (wq hw 55) (rmDB2 l Z a0 z0 fm G a2 (h38.size) f c0 c1 h107 K143.old K143.both F144 P1 P2 P3 P4) [(.ref a2), (.int f)] [] (lenOf pd685 rfl) (hb hby at_350) ?_
      intro T145 h147 v148 lo149 fs150 K146 Kp151 q152
      rcases q152 with qq152_0 | qq152_1 | qq152_2
      · obtain ⟨rfl, rfl, f153⟩ := qq152_0
        exact False.elim (own_noO f153 f98 f99)
      · obtain ⟨rfl, rfl, f154, f155, f156⟩ := qq152_1
        exact False.elim (own_noO f156 f139 f140)
      · obtain ⟨r157, rfl, rfl, f158, f159, f160, f161, f162⟩ := qq152_2
        have K163 := K146.to 21 429 [a55, a47, a13, a2, ch]
        refine Owe.stk [(.ref r157)] ?_
        refine oAstore K163 355 (hb hby at_353) rfl (l' := #[.val (.int p0), .val (.int p1), .val (.int p2), .val (.int p3), .val (.int p4), .val (.int p5), .val (.int 2), .val (.int f), .val (.int c0), .val (.int c1), .val (.int c2), .val (.int c3), .val (.ref ch), .val (.ref a2), .val (.ref a47), .val (.ref a55), .val (.int 2), .val (.ref r157), .unset]) rfl ?_
        refine oIload K163 357 (hb hby at_355) rfl ?_
        refine oIfYes K163 371 (hb hby at_357) (XT.i0_ge_t (by decide)) ?_
        refine oAload K163 373 (hb hby at_371) rfl rfl ?_
        refine oIfnullNo K163 376 (hb hby at_373) ?_
        refine oAload K163 378 (hb hby at_376) rfl rfl ?_
        refine oLen K163 379 f158 (n := (2 : Int32)) (by first | rfl | decide) (hb hby at_378) ?_
        refine oAload K163 381 (hb hby at_379) rfl rfl ?_
        refine oIconstV K163 382 (0 : Int32) (hb hby at_381) rfl ?_
        refine oIaload K163 383 (f138.keep Kp151 nin0) 0 (by decide) (by decide) rfl (hb hby at_382) ?_
        refine oIcmpYes K163 388 (hb hby at_383) (XT.ii_eq_t (by decide)) ?_
        refine oAload K163 390 (hb hby at_388) rfl rfl ?_
        refine oIconstV K163 391 (0 : Int32) (hb hby at_390) rfl ?_
        refine oIaload K163 392 (f138.keep Kp151 nin0) 0 (by decide) (by decide) rfl (hb hby at_391) ?_
        refine oIstore K163 394 (hb hby at_392) (l' := #[.val (.int p0), .val (.int p1), .val (.int p2), .val (.int p3), .val (.int p4), .val (.int p5), .val (.int 2), .val (.int f), .val (.int c0), .val (.int c1), .val (.int c2), .val (.int c3), .val (.ref ch), .val (.ref a2), .val (.ref a47), .val (.ref a55), .val (.int 2), .val (.ref r157), .val (.int 2)]) rfl ?_
        refine oAload K163 396 (hb hby at_394) rfl rfl ?_
        refine oAload K163 398 (hb hby at_396) rfl rfl ?_
        refine oIload K163 400 (hb hby at_398) rfl ?_
        refine oIconstV K163 401 (0 : Int32) (hb hby at_400) rfl ?_
        refine oStatic K163 404 0 (wq hw 79) (wq hw 80) (wq hw 3) (wq hw 81) (rmAt2_0 l Z a0 z0 fm G r157 a47 ((one f c0)) ((byt (one f c1))) ((one f c1)) ((0 : Int32)) ((0 : Int32)) h147 K163.old K163.both f158 (f137.keep Kp151 nin0) f100 f101) [(.ref r157), (.ref a47), (.int 2), (.int 0)] [] (lenOf pd686 rfl) (hb hby at_401) ?_
        intro T164 h166 v167 lo168 fs169 K165 Kp170 q171
        obtain ⟨rfl, rfl⟩ := q171
        have K172 := K165.to 21 429 [a55, a47, a13, a2, ch]
        refine Owe.stk [(.int 1)] ?_
        refine oIfNo K172 407 (hb hby at_404) (XT.i0_eq_f (by decide)) ?_
        refine oAload K172 409 (hb hby at_407) rfl rfl ?_
        refine oAload K172 411 (hb hby at_409) rfl rfl ?_
        refine oIload K172 413 (hb hby at_411) rfl ?_
        refine oIconstV K172 414 (1 : Int32) (hb hby at_413) rfl ?_
        refine oStatic K172 417 0 (wq hw 79) (wq hw 80) (wq hw 3) (wq hw 81) (rmAt2_1 l Z a0 z0 fm G r157 a47 ((one f c1)) ((byt (one f c0))) ((one f c0)) ((0 : Int32)) ((0 : Int32)) h166 K172.old K172.both (f158.keep Kp170 nin0) ((f137.keep Kp151 nin0).keep Kp170 nin0) f141 f142) [(.ref r157), (.ref a47), (.int 2), (.int 1)] [] (lenOf pd686 rfl) (hb hby at_414) ?_
        intro T173 h175 v176 lo177 fs178 K174 Kp179 q180
        obtain ⟨rfl, rfl⟩ := q180
        have K181 := K174.to 21 429 [a55, a47, a13, a2, ch]
        refine Owe.stk [(.int 1)] ?_
        refine oIfNo K181 420 (hb hby at_417) (XT.i0_eq_f (by decide)) ?_
        refine oAload K181 422 (hb hby at_420) rfl rfl ?_
        refine oAload K181 424 (hb hby at_422) rfl rfl ?_
        refine oIload K181 426 (hb hby at_424) rfl ?_
        refine oIconstV K181 427 (2 : Int32) (hb hby at_426) rfl ?_
        refine oStatic K181 430 0 (wq hw 79) (wq hw 80) (wq hw 3) (wq hw 81) (rmAt2_2 l Z a0 z0 fm G r157 a47 h175 K181.old K181.both ) [(.ref r157), (.ref a47), (.int 2), (.int 2)] [] (lenOf pd686 rfl) (hb hby at_427) ?_
        intro T182 h184 v185 lo186 fs187 K183 Kp188 q189
        obtain ⟨rfl, rfl⟩ := q189
        have K190 := K183.to 21 429 [a55, a47, a13, a2, ch]
        refine Owe.stk [(.int 1)] ?_
        refine oIfNo K190 433 (hb hby at_430) (XT.i0_eq_f (by decide)) ?_
        refine oAload K190 435 (hb hby at_433) rfl rfl ?_
        refine oAload K190 437 (hb hby at_435) rfl rfl ?_
        refine oIload K190 439 (hb hby at_437) rfl ?_
        refine oIconstV K190 440 (3 : Int32) (hb hby at_439) rfl ?_
        refine oStatic K190 443 0 (wq hw 79) (wq hw 80) (wq hw 3) (wq hw 81) (rmAt2_3 l Z a0 z0 fm G r157 a47 h184 K190.old K190.both ) [(.ref r157), (.ref a47), (.int 2), (.int 3)] [] (lenOf pd686 rfl) (hb hby at_440) ?_
        intro T191 h193 v194 lo195 fs196 K192 Kp197 q198
        obtain ⟨rfl, rfl⟩ := q198
        have K199 := K192.to 21 429 [a55, a47, a13, a2, ch]
        refine Owe.stk [(.int 1)] ?_
        refine oIfNo K199 446 (hb hby at_443) (XT.i0_eq_f (by decide)) ?_
        refine oIconstV K199 447 (1 : Int32) (hb hby at_446) rfl ?_
        refine oGoto K199 451 (hb hby at_447) ?_
        exact oRetI K199 [] (t := .boolean) hret (by simp) (by decide) (hb hby at_451) (by decide) (by decide) hlk (fun x hx => by cases hx) ⟨rfl, rfl⟩
theorem sgN3 (G : Gl Z a0 z0 fm) (p0 p1 p2 p3 p4 p5 f c0 c1 c2 c3 : Int32) (ch : Addr) (hby : c.code = code) (hret : meth.sig.returnType = ret) (hlk : meth.locks = false) (h0 : Heap)
    (K0 : Wk p l e room_1 s m #[(.int p0), (.int p1), (.int p2), (.int p3), (.int p4), (.int p5)] below meth c Z a0 ELs "com/example/paredown/paredown/PercentEncodingDecodeBytesPinLaw" maxLocals [] [ch] T0 lo0 9 372 h0) (P0 : Ary Z h0 ch .char [(.int c0), (.int c1), (.int c2), (.int c3)]) (P1 : ¬ c0 < (0 : Int32)) (P2 : ¬ (65535 : Int32) < c0) (P3 : ¬ c1 < (0 : Int32)) (P4 : ¬ (65535 : Int32) < c1) (P5 : ¬ c2 < (0 : Int32)) (P6 : ¬ (65535 : Int32) < c2) (P7 : ¬ c3 < (0 : Int32)) (P8 : ¬ (65535 : Int32) < c3) :
    Owe p e below (PostW Z ELs [] room_1 (fun v h fs => (fs = [] ∧ v = some (.int 1))) s) T0 (mkF m 72 #[.val (.int p0), .val (.int p1), .val (.int p2), .val (.int p3), .val (.int p4), .val (.int p5), .val (.int 3), .val (.int f), .val (.int c0), .val (.int c1), .val (.int c2), .val (.int c3), .val (.ref ch), .unset, .unset, .unset, .unset, .unset, .unset] []) := by
  obtain ⟨hw, hEL, wS, OS, hz0, OA, OH, OL, OF, rfm⟩ := id G
  refine oIload K0 74 (hb hby at_72) rfl ?_
  refine oIfYes K0 92 (hb hby at_74) (XT.i0_ne_t (by decide)) ?_
  refine oIload K0 94 (hb hby at_92) rfl ?_
  refine oIconstV K0 95 (1 : Int32) (hb hby at_94) rfl ?_
  refine oIcmpYes K0 118 (hb hby at_95) (XT.ii_ne_t (by decide)) ?_
  refine oIload K0 120 (hb hby at_118) rfl ?_
  refine oIconstV K0 121 (2 : Int32) (hb hby at_120) rfl ?_
  refine oIcmpYes K0 149 (hb hby at_121) (XT.ii_ne_t (by decide)) ?_
  refine oIload K0 151 (hb hby at_149) rfl ?_
  refine oIconstV K0 152 (3 : Int32) (hb hby at_151) rfl ?_
  refine oIcmpNo K0 155 (hb hby at_152) (XT.ii_ne_f (by decide)) ?_
  refine oNew K0 158 (wq hw 39) (wq hw 7) (wq hw 6) (hb hby at_155) (by decide) (by decide) ?_
  intro T7 h1 a2 g3 K8 E4 X5 D6
  have F9 : Fld Z h1 a2 "java/lang/String" "value" "[B" .null := D6 (Or.inr (wq hw 9)) (ty := (.array .byte)) (by decide)
  have F10 : Fld Z h1 a2 "java/lang/String" "coder" "B" (.int 0) := D6 (Or.inr (wq hw 10)) (ty := .byte) (by decide)
  have K11 := K8.to 10 376 [a2, ch]
  refine oDup K11 159 (hb hby at_158) rfl ?_
  refine oIconstV K11 160 (3 : Int32) (hb hby at_159) rfl ?_
  refine oNewP K11 162 (ty := .char) 3 (wq hw 38) rfl (by decide) (by decide) (by decide) (hb hby at_160) (by decide) (by decide) ?_
  intro T17 h12 a13 g14 K18 E15 A16 
  have K19 := K18.to 11 379 [a13, a2, ch]
  refine oDup K19 163 (hb hby at_162) rfl ?_
  refine oIconstV K19 164 (0 : Int32) (hb hby at_163) rfl ?_
  refine oIload K19 166 (hb hby at_164) rfl ?_
  refine oCastore K19 167 (by simp) A16 0 (by decide) (by decide) nlt (nar_rng P1 P2) (hb hby at_166) ?_
  intro T24 h20 lo23 K25 W21 A22
  have A26 : Ary Z h20 a13 .char [(.int c0), (.int 0), (.int 0)] := A22
  refine oDup K25 168 (hb hby at_167) rfl ?_
  refine oIconstV K25 169 (1 : Int32) (hb hby at_168) rfl ?_
  refine oIload K25 171 (hb hby at_169) rfl ?_
  refine oCastore K25 172 (by simp) A26 1 (by decide) (by decide) nlt (nar_rng P3 P4) (hb hby at_171) ?_
  intro T31 h27 lo30 K32 W28 A29
  have A33 : Ary Z h27 a13 .char [(.int c0), (.int c1), (.int 0)] := A29
  refine oDup K32 173 (hb hby at_172) rfl ?_
  refine oIconstV K32 174 (2 : Int32) (hb hby at_173) rfl ?_
  refine oIload K32 176 (hb hby at_174) rfl ?_
  refine oCastore K32 177 (by simp) A33 2 (by decide) (by decide) nlt (nar_rng P5 P6) (hb hby at_176) ?_
  intro T38 h34 lo37 K39 W35 A36
  have A40 : Ary Z h34 a13 .char [(.int c0), (.int c1), (.int c2)] := A36
  have F41 := (Fld.other W35 (Fld.other W28 (Fld.other W21 (F9.ext E15) (Or.inl (Nat.ne_of_lt (Nat.lt_of_lt_of_le X5.lt (Nat.le_of_eq g14))))) (Or.inl (Nat.ne_of_lt (Nat.lt_of_lt_of_le X5.lt (Nat.le_of_eq g14))))) (Or.inl (Nat.ne_of_lt (Nat.lt_of_lt_of_le X5.lt (Nat.le_of_eq g14)))))
  have F42 := (Fld.other W35 (Fld.other W28 (Fld.other W21 (F10.ext E15) (Or.inl (Nat.ne_of_lt (Nat.lt_of_lt_of_le X5.lt (Nat.le_of_eq g14))))) (Or.inl (Nat.ne_of_lt (Nat.lt_of_lt_of_le X5.lt (Nat.le_of_eq g14))))) (Or.inl (Nat.ne_of_lt (Nat.lt_of_lt_of_le X5.lt (Nat.le_of_eq g14)))))
  refine oSpecial K39 180 1 (wq hw 40) (wq hw 41) (wq hw 6) (wq hw 42) (rmN1_3 l Z a0 z0 fm G a2 a13 c0 c1 c2 h34 K39.old K39.both ((((X5.ext E15).wr W21).wr W28).wr W35) F41 F42 A40 (Nat.ne_of_lt (Nat.lt_of_lt_of_le X5.lt (Nat.le_of_eq g14))) P1 P2 P3 P4 P5 P6) [(.ref a13)] [(.ref a2)] (lenOf pd684 rfl) (hb hby at_177) ?_
  intro T43 h45 v46 lo47 fs48 K44 Kp49 q50
  obtain ⟨rfl, rfl, f51⟩ := q50
  have K52 := K44.to 13 388 [a13, a2, ch]
  refine Owe.stk [(.ref a2)] ?_
  refine oAstore K52 182 (hb hby at_180) rfl (l' := #[.val (.int p0), .val (.int p1), .val (.int p2), .val (.int p3), .val (.int p4), .val (.int p5), .val (.int 3), .val (.int f), .val (.int c0), .val (.int c1), .val (.int c2), .val (.int c3), .val (.ref ch), .val (.ref a2), .unset, .unset, .unset, .unset, .unset]) rfl ?_
  refine oGoto K52 217 (hb hby at_182) ?_
  refine oIconstV K52 218 (4 : Int32) (hb hby at_217) rfl ?_
  refine oNewP K52 220 (ty := .int) 4 (wq hw 51) rfl (by decide) (by decide) (by decide) (hb hby at_218) (by decide) (by decide) ?_
  intro T58 h53 a54 g55 K59 E56 A57 
  have K60 := K59.to 14 392 [a54, a13, a2, ch]
  refine oAstore K60 222 (hb hby at_220) rfl (l' := #[.val (.int p0), .val (.int p1), .val (.int p2), .val (.int p3), .val (.int p4), .val (.int p5), .val (.int 3), .val (.int f), .val (.int c0), .val (.int c1), .val (.int c2), .val (.int c3), .val (.ref ch), .val (.ref a2), .val (.ref a54), .unset, .unset, .unset, .unset]) rfl ?_
  refine oIconstV K60 223 (1 : Int32) (hb hby at_222) rfl ?_
  refine oNewP K60 225 (ty := .int) 1 (wq hw 51) rfl (by decide) (by decide) (by decide) (hb hby at_223) (by decide) (by decide) ?_
  intro T66 h61 a62 g63 K67 E64 A65 
  have K68 := K67.to 15 393 [a62, a54, a13, a2, ch]
  refine oAstore K68 227 (hb hby at_225) rfl (l' := #[.val (.int p0), .val (.int p1), .val (.int p2), .val (.int p3), .val (.int p4), .val (.int p5), .val (.int 3), .val (.int f), .val (.int c0), .val (.int c1), .val (.int c2), .val (.int c3), .val (.ref ch), .val (.ref a2), .val (.ref a54), .val (.ref a62), .unset, .unset, .unset]) rfl ?_
  refine oIconstV K68 228 (0 : Int32) (hb hby at_227) rfl ?_
  refine oIstore K68 230 (hb hby at_228) (l' := #[.val (.int p0), .val (.int p1), .val (.int p2), .val (.int p3), .val (.int p4), .val (.int p5), .val (.int 3), .val (.int f), .val (.int c0), .val (.int c1), .val (.int c2), .val (.int c3), .val (.ref ch), .val (.ref a2), .val (.ref a54), .val (.ref a62), .val (.int 0), .unset, .unset]) rfl ?_
  refine oIload K68 232 (hb hby at_230) rfl ?_
  refine oIfNo K68 235 (hb hby at_232) (XT.i0_lt_f (by decide)) ?_
  refine oIload K68 237 (hb hby at_235) rfl ?_
  refine oIload K68 239 (hb hby at_237) rfl ?_
  refine oIcmpNo K68 242 (hb hby at_239) (XT.ii_ge_f (by decide)) ?_
  refine oAload K68 244 (hb hby at_242) rfl rfl ?_
  refine oIload K68 246 (hb hby at_244) rfl ?_
  refine oIload K68 248 (hb hby at_246) rfl ?_
  refine oIload K68 250 (hb hby at_248) rfl ?_
  refine oAload K68 252 (hb hby at_250) rfl rfl ?_
  refine oAload K68 254 (hb hby at_252) rfl rfl ?_
  have n69 := (Nat.ne_of_lt (Nat.lt_of_lt_of_le (Nat.lt_of_lt_of_le P0.lt E4.1) (Nat.le_of_eq g14)))
  have F70 := ((((Ary.other (Ary.other (Ary.other ((P0.ext E4).ext E15) W21 n69) W28 n69) W35 n69).keep Kp49 (ninS (Nat.ne_of_lt (Nat.lt_of_lt_of_le P0.lt (Nat.le_of_eq g3))) nin0)).ext E56).ext E64)
  refine oStatic K68 257 0 (wq hw 93) (wq hw 94) (wq hw 3) (wq hw 95) (rmStep3_0_0 l Z a0 z0 fm G ch a54 a62 f c0 c1 c2 c3 ((0 : Int32)) ((0 : Int32)) ((0 : Int32)) ((0 : Int32)) h61 K68.old K68.both F70 (A57.ext E64) A65 (Nat.ne_of_lt (Nat.lt_of_lt_of_le A57.lt (Nat.le_of_eq g63))) P1 P2 P3 P4 P5 P6 P7 P8) [(.ref ch), (.int 3), (.int 0), (.int f), (.ref a54), (.ref a62)] [] (lenOf pd687 rfl) (hb hby at_254) ?_
  intro T71 h73 v74 lo75 fs76 K72 Kp77 q78
  rcases q78 with qq78_0 | qq78_1 | qq78_2
  · obtain ⟨rfl, rfl, f79, f80, f81⟩ := qq78_0
    have K82 := K72.to 15 393 [a62, a54, a13, a2, ch]
    refine Owe.stk [(.int (-1))] ?_
    refine oIstore K82 259 (hb hby at_257) (l' := #[.val (.int p0), .val (.int p1), .val (.int p2), .val (.int p3), .val (.int p4), .val (.int p5), .val (.int 3), .val (.int f), .val (.int c0), .val (.int c1), .val (.int c2), .val (.int c3), .val (.ref ch), .val (.ref a2), .val (.ref a54), .val (.ref a62), .val (.int (-1)), .unset, .unset]) rfl ?_
    refine oIload K82 261 (hb hby at_259) rfl ?_
    refine oIfYes K82 288 (hb hby at_261) (XT.i0_lt_t (by decide)) ?_
    refine oIload K82 290 (hb hby at_288) rfl ?_
    refine oIfYes K82 317 (hb hby at_290) (XT.i0_lt_t (by decide)) ?_
    refine oIload K82 319 (hb hby at_317) rfl ?_
    refine oIfYes K82 346 (hb hby at_319) (XT.i0_lt_t (by decide)) ?_
    refine oAload K82 348 (hb hby at_346) rfl rfl ?_
    refine oIload K82 350 (hb hby at_348) rfl ?_
    have F83 := (((f51.ext E56).ext E64).keep Kp77 (geS (Nat.le_trans f51.bd (Nat.le_of_eq g55)) (geS (Nat.le_trans (f51.ext E56).bd (Nat.le_of_eq g63)) geN)))
    refine oStatic K82 353 0 (wq hw 52) (wq hw 53) (wq hw 54) (wq hw 55) (rmDB3 l Z a0 z0 fm G a2 (h45.size) f c0 c1 c2 h73 K82.old K82.both F83 P1 P2 P3 P4 P5 P6) [(.ref a2), (.int f)] [] (lenOf pd685 rfl) (hb hby at_350) ?_
    intro T84 h86 v87 lo88 fs89 K85 Kp90 q91
    rcases q91 with qq91_0 | qq91_1 | qq91_2 | qq91_3 | qq91_4
    · obtain ⟨rfl, rfl, f92⟩ := qq91_0
      have K93 := K85.to 21 433 [a62, a54, a13, a2, ch]
      refine Owe.stk [.null] ?_
      refine oAstore K93 355 (hb hby at_353) rfl (l' := #[.val (.int p0), .val (.int p1), .val (.int p2), .val (.int p3), .val (.int p4), .val (.int p5), .val (.int 3), .val (.int f), .val (.int c0), .val (.int c1), .val (.int c2), .val (.int c3), .val (.ref ch), .val (.ref a2), .val (.ref a54), .val (.ref a62), .val (.int (-1)), .val .null, .unset]) rfl ?_
      refine oIload K93 357 (hb hby at_355) rfl ?_
      refine oIfNo K93 360 (hb hby at_357) (XT.i0_ge_f (by decide)) ?_
      refine oAload K93 362 (hb hby at_360) rfl rfl ?_
      refine oIfnonnullNo K93 365 (hb hby at_362) ?_
      refine oIconstV K93 366 (1 : Int32) (hb hby at_365) rfl ?_
      refine oGoto K93 370 (hb hby at_366) ?_
      exact oRetI K93 [] (t := .boolean) hret (by simp) (by decide) (hb hby at_370) (by decide) (by decide) hlk (fun x hx => by cases hx) ⟨rfl, rfl⟩
    · obtain ⟨rfl, rfl, f94, f95, f96⟩ := qq91_1
      exact False.elim (own_noT f81 f94 f95)
    · obtain ⟨rfl, rfl, f97, f98, f99, f100, f101⟩ := qq91_2
      exact False.elim (own_noT f81 f97 f98)
    · obtain ⟨r102, rfl, rfl, f103, f104, f105, f106, f107, f108, f109⟩ := qq91_3
      exact False.elim (own_noT f81 f104 f105)
    · obtain ⟨r110, rfl, rfl, f111, f112, f113, f114⟩ := qq91_4
      exact False.elim (absurd (own_ftl f81 f112 f113) f114)
  · obtain ⟨rfl, rfl, f115, f116, f117, f118, f119, f120⟩ := qq78_1
    have K121 := K72.to 15 393 [a62, a54, a13, a2, ch]
    refine Owe.stk [(.int 1)] ?_
    refine oIstore K121 259 (hb hby at_257) (l' := #[.val (.int p0), .val (.int p1), .val (.int p2), .val (.int p3), .val (.int p4), .val (.int p5), .val (.int 3), .val (.int f), .val (.int c0), .val (.int c1), .val (.int c2), .val (.int c3), .val (.ref ch), .val (.ref a2), .val (.ref a54), .val (.ref a62), .val (.int 1), .unset, .unset]) rfl ?_
    refine oIload K121 261 (hb hby at_259) rfl ?_
    refine oIfNo K121 264 (hb hby at_261) (XT.i0_lt_f (by decide)) ?_
    refine oIload K121 266 (hb hby at_264) rfl ?_
    refine oIload K121 268 (hb hby at_266) rfl ?_
    refine oIcmpNo K121 271 (hb hby at_268) (XT.ii_ge_f (by decide)) ?_
    refine oAload K121 273 (hb hby at_271) rfl rfl ?_
    refine oIload K121 275 (hb hby at_273) rfl ?_
    refine oIload K121 277 (hb hby at_275) rfl ?_
    refine oIload K121 279 (hb hby at_277) rfl ?_
    refine oAload K121 281 (hb hby at_279) rfl rfl ?_
    refine oAload K121 283 (hb hby at_281) rfl rfl ?_
    have n122 := (Nat.ne_of_lt (Nat.lt_of_lt_of_le (Nat.lt_of_lt_of_le P0.lt (Nat.le_trans E4.1 (Nat.le_trans E15.1 (Nat.le_trans (Nat.le_of_eq W21.size.symm) (Nat.le_trans (Nat.le_of_eq W28.size.symm) (Nat.le_trans (Nat.le_of_eq W35.size.symm) (Nat.le_trans Kp49.1 E56.1))))))) (Nat.le_of_eq g63)))
    have n123 := (Nat.ne_of_lt (Nat.lt_of_lt_of_le (Nat.lt_of_lt_of_le P0.lt (Nat.le_trans E4.1 (Nat.le_trans E15.1 (Nat.le_trans (Nat.le_of_eq W21.size.symm) (Nat.le_trans (Nat.le_of_eq W28.size.symm) (Nat.le_trans (Nat.le_of_eq W35.size.symm) Kp49.1)))))) (Nat.le_of_eq g55)))
    refine oStatic K121 286 0 (wq hw 93) (wq hw 94) (wq hw 3) (wq hw 95) (rmStep3_1_1 l Z a0 z0 fm G ch a54 a62 f c0 c1 c2 c3 ((one f c0)) ((0 : Int32)) ((0 : Int32)) ((0 : Int32)) h73 K121.old K121.both (F70.keep Kp77 (ninS n123 (ninS n122 nin0))) f115 f116 (Nat.ne_of_lt (Nat.lt_of_lt_of_le A57.lt (Nat.le_of_eq g63))) P1 P2 P3 P4 P5 P6 P7 P8) [(.ref ch), (.int 3), (.int 1), (.int f), (.ref a54), (.ref a62)] [] (lenOf pd687 rfl) (hb hby at_283) ?_
    intro T124 h126 v127 lo128 fs129 K125 Kp130 q131
    rcases q131 with qq131_0 | qq131_1
    · obtain ⟨rfl, rfl, f132, f133, f134⟩ := qq131_0
      have K135 := K125.to 15 393 [a62, a54, a13, a2, ch]
      refine Owe.stk [(.int (-1))] ?_
      refine oIstore K135 288 (hb hby at_286) (l' := #[.val (.int p0), .val (.int p1), .val (.int p2), .val (.int p3), .val (.int p4), .val (.int p5), .val (.int 3), .val (.int f), .val (.int c0), .val (.int c1), .val (.int c2), .val (.int c3), .val (.ref ch), .val (.ref a2), .val (.ref a54), .val (.ref a62), .val (.int (-1)), .unset, .unset]) rfl ?_
      refine oIload K135 290 (hb hby at_288) rfl ?_
      refine oIfYes K135 317 (hb hby at_290) (XT.i0_lt_t (by decide)) ?_
      refine oIload K135 319 (hb hby at_317) rfl ?_
      refine oIfYes K135 346 (hb hby at_319) (XT.i0_lt_t (by decide)) ?_
      refine oAload K135 348 (hb hby at_346) rfl rfl ?_
      refine oIload K135 350 (hb hby at_348) rfl ?_
      have F136 := ((((f51.ext E56).ext E64).keep Kp77 (geS (Nat.le_trans f51.bd (Nat.le_of_eq g55)) (geS (Nat.le_trans (f51.ext E56).bd (Nat.le_of_eq g63)) geN))).keep Kp130 (geS (Nat.le_trans f51.bd (Nat.le_of_eq g55)) (geS (Nat.le_trans (f51.ext E56).bd (Nat.le_of_eq g63)) geN)))
      refine oStatic K135 353 0 (wq hw 52) (wq hw 53) (wq hw 54) (wq hw 55) (rmDB3 l Z a0 z0 fm G a2 (h45.size) f c0 c1 c2 h126 K135.old K135.both F136 P1 P2 P3 P4 P5 P6) [(.ref a2), (.int f)] [] (lenOf pd685 rfl) (hb hby at_350) ?_
      intro T137 h139 v140 lo141 fs142 K138 Kp143 q144
      rcases q144 with qq144_0 | qq144_1 | qq144_2 | qq144_3 | qq144_4
      · obtain ⟨rfl, rfl, f145⟩ := qq144_0
        exact False.elim (own_noT f145 f117 f118)
      · obtain ⟨rfl, rfl, f146, f147, f148⟩ := qq144_1
        have K149 := K138.to 21 433 [a62, a54, a13, a2, ch]
        refine Owe.stk [.null] ?_
        refine oAstore K149 355 (hb hby at_353) rfl (l' := #[.val (.int p0), .val (.int p1), .val (.int p2), .val (.int p3), .val (.int p4), .val (.int p5), .val (.int 3), .val (.int f), .val (.int c0), .val (.int c1), .val (.int c2), .val (.int c3), .val (.ref ch), .val (.ref a2), .val (.ref a54), .val (.ref a62), .val (.int (-1)), .val .null, .unset]) rfl ?_
        refine oIload K149 357 (hb hby at_355) rfl ?_
        refine oIfNo K149 360 (hb hby at_357) (XT.i0_ge_f (by decide)) ?_
        refine oAload K149 362 (hb hby at_360) rfl rfl ?_
        refine oIfnonnullNo K149 365 (hb hby at_362) ?_
        refine oIconstV K149 366 (1 : Int32) (hb hby at_365) rfl ?_
        refine oGoto K149 370 (hb hby at_366) ?_
        exact oRetI K149 [] (t := .boolean) hret (by simp) (by decide) (hb hby at_370) (by decide) (by decide) hlk (fun x hx => by cases hx) ⟨rfl, rfl⟩
      · obtain ⟨rfl, rfl, f150, f151, f152, f153, f154⟩ := qq144_2
        exact False.elim (own_noO f134 f152 f153)
      · obtain ⟨r155, rfl, rfl, f156, f157, f158, f159, f160, f161, f162⟩ := qq144_3
        exact False.elim (own_noO f134 f159 f160)
      · obtain ⟨r163, rfl, rfl, f164, f165, f166, f167⟩ := qq144_4
        exact absurd f165 f117
    · obtain ⟨rfl, rfl, f168, f169, f170, f171, f172, f173⟩ := qq131_1
      have K174 := K125.to 15 393 [a62, a54, a13, a2, ch]
      refine Owe.stk [(.int 2)] ?_
      refine oIstore K174 288 (hb hby at_286) (l' := #[.val (.int p0), .val (.int p1), .val (.int p2), .val (.int p3), .val (.int p4), .val (.int p5), .val (.int 3), .val (.int f), .val (.int c0), .val (.int c1), .val (.int c2), .val (.int c3), .val (.ref ch), .val (.ref a2), .val (.ref a54), .val (.ref a62), .val (.int 2), .unset, .unset]) rfl ?_
      refine oIload K174 290 (hb hby at_288) rfl ?_
      refine oIfNo K174 293 (hb hby at_290) (XT.i0_lt_f (by decide)) ?_
      refine oIload K174 295 (hb hby at_293) rfl ?_
      refine oIload K174 297 (hb hby at_295) rfl ?_
      refine oIcmpNo K174 300 (hb hby at_297) (XT.ii_ge_f (by decide)) ?_
      refine oAload K174 302 (hb hby at_300) rfl rfl ?_
      refine oIload K174 304 (hb hby at_302) rfl ?_
      refine oIload K174 306 (hb hby at_304) rfl ?_
      refine oIload K174 308 (hb hby at_306) rfl ?_
      refine oAload K174 310 (hb hby at_308) rfl rfl ?_
      refine oAload K174 312 (hb hby at_310) rfl rfl ?_
      have F175 := ((F70.keep Kp77 (ninS n123 (ninS n122 nin0))).keep Kp130 (ninS n123 (ninS n122 nin0)))
      refine oStatic K174 315 0 (wq hw 93) (wq hw 94) (wq hw 3) (wq hw 95) (rmStep3_2_2 l Z a0 z0 fm G ch a54 a62 f c0 c1 c2 c3 ((one f c0)) ((one f c1)) ((0 : Int32)) ((0 : Int32)) h126 K174.old K174.both F175 f168 f169 (Nat.ne_of_lt (Nat.lt_of_lt_of_le A57.lt (Nat.le_of_eq g63))) P1 P2 P3 P4 P5 P6 P7 P8) [(.ref ch), (.int 3), (.int 2), (.int f), (.ref a54), (.ref a62)] [] (lenOf pd687 rfl) (hb hby at_312) ?_
      intro T176 h178 v179 lo180 fs181 K177 Kp182 q183
      rcases q183 with qq183_0 | qq183_1
      · obtain ⟨rfl, rfl, f184, f185, f186⟩ := qq183_0
        have K187 := K177.to 15 393 [a62, a54, a13, a2, ch]
        refine Owe.stk [(.int (-1))] ?_
        refine oIstore K187 317 (hb hby at_315) (l' := #[.val (.int p0), .val (.int p1), .val (.int p2), .val (.int p3), .val (.int p4), .val (.int p5), .val (.int 3), .val (.int f), .val (.int c0), .val (.int c1), .val (.int c2), .val (.int c3), .val (.ref ch), .val (.ref a2), .val (.ref a54), .val (.ref a62), .val (.int (-1)), .unset, .unset]) rfl ?_
        refine oIload K187 319 (hb hby at_317) rfl ?_
        refine oIfYes K187 346 (hb hby at_319) (XT.i0_lt_t (by decide)) ?_
        refine oAload K187 348 (hb hby at_346) rfl rfl ?_
        refine oIload K187 350 (hb hby at_348) rfl ?_
        have F188 := (((((f51.ext E56).ext E64).keep Kp77 (geS (Nat.le_trans f51.bd (Nat.le_of_eq g55)) (geS (Nat.le_trans (f51.ext E56).bd (Nat.le_of_eq g63)) geN))).keep Kp130 (geS (Nat.le_trans f51.bd (Nat.le_of_eq g55)) (geS (Nat.le_trans (f51.ext E56).bd (Nat.le_of_eq g63)) geN))).keep Kp182 (geS (Nat.le_trans f51.bd (Nat.le_of_eq g55)) (geS (Nat.le_trans (f51.ext E56).bd (Nat.le_of_eq g63)) geN)))
        refine oStatic K187 353 0 (wq hw 52) (wq hw 53) (wq hw 54) (wq hw 55) (rmDB3 l Z a0 z0 fm G a2 (h45.size) f c0 c1 c2 h178 K187.old K187.both F188 P1 P2 P3 P4 P5 P6) [(.ref a2), (.int f)] [] (lenOf pd685 rfl) (hb hby at_350) ?_
        intro T189 h191 v192 lo193 fs194 K190 Kp195 q196
        rcases q196 with qq196_0 | qq196_1 | qq196_2 | qq196_3 | qq196_4
        · obtain ⟨rfl, rfl, f197⟩ := qq196_0
          exact False.elim (own_noT f197 f117 f118)
        · obtain ⟨rfl, rfl, f198, f199, f200⟩ := qq196_1
          exact False.elim (own_noO f200 f170 f171)
        · obtain ⟨rfl, rfl, f201, f202, f203, f204, f205⟩ := qq196_2
          have K206 := K190.to 21 433 [a62, a54, a13, a2, ch]
          refine Owe.stk [.null] ?_
          refine oAstore K206 355 (hb hby at_353) rfl (l' := #[.val (.int p0), .val (.int p1), .val (.int p2), .val (.int p3), .val (.int p4), .val (.int p5), .val (.int 3), .val (.int f), .val (.int c0), .val (.int c1), .val (.int c2), .val (.int c3), .val (.ref ch), .val (.ref a2), .val (.ref a54), .val (.ref a62), .val (.int (-1)), .val .null, .unset]) rfl ?_
          refine oIload K206 357 (hb hby at_355) rfl ?_
          refine oIfNo K206 360 (hb hby at_357) (XT.i0_ge_f (by decide)) ?_
          refine oAload K206 362 (hb hby at_360) rfl rfl ?_
          refine oIfnonnullNo K206 365 (hb hby at_362) ?_
          refine oIconstV K206 366 (1 : Int32) (hb hby at_365) rfl ?_
          refine oGoto K206 370 (hb hby at_366) ?_
          exact oRetI K206 [] (t := .boolean) hret (by simp) (by decide) (hb hby at_370) (by decide) (by decide) hlk (fun x hx => by cases hx) ⟨rfl, rfl⟩
        · obtain ⟨r207, rfl, rfl, f208, f209, f210, f211, f212, f213, f214⟩ := qq196_3
          exact False.elim (own_noO f186 f213 f214)
        · obtain ⟨r215, rfl, rfl, f216, f217, f218, f219⟩ := qq196_4
          exact absurd f217 f117
      · obtain ⟨rfl, rfl, f220, f221, f222, f223, f224, f225⟩ := qq183_1
        have K226 := K177.to 15 393 [a62, a54, a13, a2, ch]
        refine Owe.stk [(.int 3)] ?_
        refine oIstore K226 317 (hb hby at_315) (l' := #[.val (.int p0), .val (.int p1), .val (.int p2), .val (.int p3), .val (.int p4), .val (.int p5), .val (.int 3), .val (.int f), .val (.int c0), .val (.int c1), .val (.int c2), .val (.int c3), .val (.ref ch), .val (.ref a2), .val (.ref a54), .val (.ref a62), .val (.int 3), .unset, .unset]) rfl ?_
        refine oIload K226 319 (hb hby at_317) rfl ?_
        refine oIfNo K226 322 (hb hby at_319) (XT.i0_lt_f (by decide)) ?_
        refine oIload K226 324 (hb hby at_322) rfl ?_
        refine oIload K226 326 (hb hby at_324) rfl ?_
        refine oIcmpYes K226 346 (hb hby at_326) (XT.ii_ge_t (by decide)) ?_
        refine oAload K226 348 (hb hby at_346) rfl rfl ?_
        refine oIload K226 350 (hb hby at_348) rfl ?_
        have F227 := (((((f51.ext E56).ext E64).keep Kp77 (geS (Nat.le_trans f51.bd (Nat.le_of_eq g55)) (geS (Nat.le_trans (f51.ext E56).bd (Nat.le_of_eq g63)) geN))).keep Kp130 (geS (Nat.le_trans f51.bd (Nat.le_of_eq g55)) (geS (Nat.le_trans (f51.ext E56).bd (Nat.le_of_eq g63)) geN))).keep Kp182 (geS (Nat.le_trans f51.bd (Nat.le_of_eq g55)) (geS (Nat.le_trans (f51.ext E56).bd (Nat.le_of_eq g63)) geN)))
        refine oStatic K226 353 0 (wq hw 52) (wq hw 53) (wq hw 54) (wq hw 55) (rmDB3 l Z a0 z0 fm G a2 (h45.size) f c0 c1 c2 h178 K226.old K226.both F227 P1 P2 P3 P4 P5 P6) [(.ref a2), (.int f)] [] (lenOf pd685 rfl) (hb hby at_350) ?_
        intro T228 h230 v231 lo232 fs233 K229 Kp234 q235
        rcases q235 with qq235_0 | qq235_1 | qq235_2 | qq235_3 | qq235_4
        · obtain ⟨rfl, rfl, f236⟩ := qq235_0
          exact False.elim (own_noT f236 f117 f118)
        · obtain ⟨rfl, rfl, f237, f238, f239⟩ := qq235_1
          exact False.elim (own_noO f239 f170 f171)
        · obtain ⟨rfl, rfl, f240, f241, f242, f243, f244⟩ := qq235_2
          exact False.elim (own_noO f244 f222 f223)
        · obtain ⟨r245, rfl, rfl, f246, f247, f248, f249, f250, f251, f252⟩ := qq235_3
          have K253 := K229.to 21 433 [a62, a54, a13, a2, ch]
          refine Owe.stk [(.ref r245)] ?_
          refine oAstore K253 355 (hb hby at_353) rfl (l' := #[.val (.int p0), .val (.int p1), .val (.int p2), .val (.int p3), .val (.int p4), .val (.int p5), .val (.int 3), .val (.int f), .val (.int c0), .val (.int c1), .val (.int c2), .val (.int c3), .val (.ref ch), .val (.ref a2), .val (.ref a54), .val (.ref a62), .val (.int 3), .val (.ref r245), .unset]) rfl ?_
          refine oIload K253 357 (hb hby at_355) rfl ?_
          refine oIfYes K253 371 (hb hby at_357) (XT.i0_ge_t (by decide)) ?_
          refine oAload K253 373 (hb hby at_371) rfl rfl ?_
          refine oIfnullNo K253 376 (hb hby at_373) ?_
          refine oAload K253 378 (hb hby at_376) rfl rfl ?_
          refine oLen K253 379 f246 (n := (3 : Int32)) (by first | rfl | decide) (hb hby at_378) ?_
          refine oAload K253 381 (hb hby at_379) rfl rfl ?_
          refine oIconstV K253 382 (0 : Int32) (hb hby at_381) rfl ?_
          refine oIaload K253 383 (f221.keep Kp234 nin0) 0 (by decide) (by decide) rfl (hb hby at_382) ?_
          refine oIcmpYes K253 388 (hb hby at_383) (XT.ii_eq_t (by decide)) ?_
          refine oAload K253 390 (hb hby at_388) rfl rfl ?_
          refine oIconstV K253 391 (0 : Int32) (hb hby at_390) rfl ?_
          refine oIaload K253 392 (f221.keep Kp234 nin0) 0 (by decide) (by decide) rfl (hb hby at_391) ?_
          refine oIstore K253 394 (hb hby at_392) (l' := #[.val (.int p0), .val (.int p1), .val (.int p2), .val (.int p3), .val (.int p4), .val (.int p5), .val (.int 3), .val (.int f), .val (.int c0), .val (.int c1), .val (.int c2), .val (.int c3), .val (.ref ch), .val (.ref a2), .val (.ref a54), .val (.ref a62), .val (.int 3), .val (.ref r245), .val (.int 3)]) rfl ?_
          refine oAload K253 396 (hb hby at_394) rfl rfl ?_
          refine oAload K253 398 (hb hby at_396) rfl rfl ?_
          refine oIload K253 400 (hb hby at_398) rfl ?_
          refine oIconstV K253 401 (0 : Int32) (hb hby at_400) rfl ?_
          refine oStatic K253 404 0 (wq hw 79) (wq hw 80) (wq hw 3) (wq hw 81) (rmAt3_0 l Z a0 z0 fm G r245 a54 ((one f c0)) ((byt (one f c1))) ((byt (one f c2))) ((one f c1)) ((one f c2)) ((0 : Int32)) h230 K253.old K253.both f246 (f220.keep Kp234 nin0) f119 f120) [(.ref r245), (.ref a54), (.int 3), (.int 0)] [] (lenOf pd686 rfl) (hb hby at_401) ?_
          intro T254 h256 v257 lo258 fs259 K255 Kp260 q261
          obtain ⟨rfl, rfl⟩ := q261
          have K262 := K255.to 21 433 [a62, a54, a13, a2, ch]
          refine Owe.stk [(.int 1)] ?_
          refine oIfNo K262 407 (hb hby at_404) (XT.i0_eq_f (by decide)) ?_
          refine oAload K262 409 (hb hby at_407) rfl rfl ?_
          refine oAload K262 411 (hb hby at_409) rfl rfl ?_
          refine oIload K262 413 (hb hby at_411) rfl ?_
          refine oIconstV K262 414 (1 : Int32) (hb hby at_413) rfl ?_
          refine oStatic K262 417 0 (wq hw 79) (wq hw 80) (wq hw 3) (wq hw 81) (rmAt3_1 l Z a0 z0 fm G r245 a54 ((one f c1)) ((byt (one f c0))) ((byt (one f c2))) ((one f c0)) ((one f c2)) ((0 : Int32)) h256 K262.old K262.both (f246.keep Kp260 nin0) ((f220.keep Kp234 nin0).keep Kp260 nin0) f172 f173) [(.ref r245), (.ref a54), (.int 3), (.int 1)] [] (lenOf pd686 rfl) (hb hby at_414) ?_
          intro T263 h265 v266 lo267 fs268 K264 Kp269 q270
          obtain ⟨rfl, rfl⟩ := q270
          have K271 := K264.to 21 433 [a62, a54, a13, a2, ch]
          refine Owe.stk [(.int 1)] ?_
          refine oIfNo K271 420 (hb hby at_417) (XT.i0_eq_f (by decide)) ?_
          refine oAload K271 422 (hb hby at_420) rfl rfl ?_
          refine oAload K271 424 (hb hby at_422) rfl rfl ?_
          refine oIload K271 426 (hb hby at_424) rfl ?_
          refine oIconstV K271 427 (2 : Int32) (hb hby at_426) rfl ?_
          have F272 := (((f220.keep Kp234 nin0).keep Kp260 nin0).keep Kp269 nin0)
          refine oStatic K271 430 0 (wq hw 79) (wq hw 80) (wq hw 3) (wq hw 81) (rmAt3_2 l Z a0 z0 fm G r245 a54 ((one f c2)) ((byt (one f c0))) ((byt (one f c1))) ((one f c0)) ((one f c1)) ((0 : Int32)) h265 K271.old K271.both ((f246.keep Kp260 nin0).keep Kp269 nin0) F272 f224 f225) [(.ref r245), (.ref a54), (.int 3), (.int 2)] [] (lenOf pd686 rfl) (hb hby at_427) ?_
          intro T273 h275 v276 lo277 fs278 K274 Kp279 q280
          obtain ⟨rfl, rfl⟩ := q280
          have K281 := K274.to 21 433 [a62, a54, a13, a2, ch]
          refine Owe.stk [(.int 1)] ?_
          refine oIfNo K281 433 (hb hby at_430) (XT.i0_eq_f (by decide)) ?_
          refine oAload K281 435 (hb hby at_433) rfl rfl ?_
          refine oAload K281 437 (hb hby at_435) rfl rfl ?_
          refine oIload K281 439 (hb hby at_437) rfl ?_
          refine oIconstV K281 440 (3 : Int32) (hb hby at_439) rfl ?_
          refine oStatic K281 443 0 (wq hw 79) (wq hw 80) (wq hw 3) (wq hw 81) (rmAt3_3 l Z a0 z0 fm G r245 a54 h275 K281.old K281.both ) [(.ref r245), (.ref a54), (.int 3), (.int 3)] [] (lenOf pd686 rfl) (hb hby at_440) ?_
          intro T282 h284 v285 lo286 fs287 K283 Kp288 q289
          obtain ⟨rfl, rfl⟩ := q289
          have K290 := K283.to 21 433 [a62, a54, a13, a2, ch]
          refine Owe.stk [(.int 1)] ?_
          refine oIfNo K290 446 (hb hby at_443) (XT.i0_eq_f (by decide)) ?_
          refine oIconstV K290 447 (1 : Int32) (hb hby at_446) rfl ?_
          refine oGoto K290 451 (hb hby at_447) ?_
          exact oRetI K290 [] (t := .boolean) hret (by simp) (by decide) (hb hby at_451) (by decide) (by decide) hlk (fun x hx => by cases hx) ⟨rfl, rfl⟩
        · obtain ⟨r291, rfl, rfl, f292, f293, f294, f295⟩ := qq235_4
          exact absurd f293 f117
  · obtain ⟨rfl, rfl, f296, f297, f298, f299, f300, f301, f302⟩ := qq78_2
    have K303 := K72.to 15 393 [a62, a54, a13, a2, ch]
    refine Owe.stk [(.int 3)] ?_
    refine oIstore K303 259 (hb hby at_257) (l' := #[.val (.int p0), .val (.int p1), .val (.int p2), .val (.int p3), .val (.int p4), .val (.int p5), .val (.int 3), .val (.int f), .val (.int c0), .val (.int c1), .val (.int c2), .val (.int c3), .val (.ref ch), .val (.ref a2), .val (.ref a54), .val (.ref a62), .val (.int 3), .unset, .unset]) rfl ?_
    refine oIload K303 261 (hb hby at_259) rfl ?_
    refine oIfNo K303 264 (hb hby at_261) (XT.i0_lt_f (by decide)) ?_
    refine oIload K303 266 (hb hby at_264) rfl ?_
    refine oIload K303 268 (hb hby at_266) rfl ?_
    refine oIcmpYes K303 288 (hb hby at_268) (XT.ii_ge_t (by decide)) ?_
    refine oIload K303 290 (hb hby at_288) rfl ?_
    refine oIfNo K303 293 (hb hby at_290) (XT.i0_lt_f (by decide)) ?_
    refine oIload K303 295 (hb hby at_293) rfl ?_
    refine oIload K303 297 (hb hby at_295) rfl ?_
    refine oIcmpYes K303 317 (hb hby at_297) (XT.ii_ge_t (by decide)) ?_
    refine oIload K303 319 (hb hby at_317) rfl ?_
    refine oIfNo K303 322 (hb hby at_319) (XT.i0_lt_f (by decide)) ?_
    refine oIload K303 324 (hb hby at_322) rfl ?_
    refine oIload K303 326 (hb hby at_324) rfl ?_
    refine oIcmpYes K303 346 (hb hby at_326) (XT.ii_ge_t (by decide)) ?_
    refine oAload K303 348 (hb hby at_346) rfl rfl ?_
    refine oIload K303 350 (hb hby at_348) rfl ?_
    have F304 := (((f51.ext E56).ext E64).keep Kp77 (geS (Nat.le_trans f51.bd (Nat.le_of_eq g55)) (geS (Nat.le_trans (f51.ext E56).bd (Nat.le_of_eq g63)) geN)))
    refine oStatic K303 353 0 (wq hw 52) (wq hw 53) (wq hw 54) (wq hw 55) (rmDB3 l Z a0 z0 fm G a2 (h45.size) f c0 c1 c2 h73 K303.old K303.both F304 P1 P2 P3 P4 P5 P6) [(.ref a2), (.int f)] [] (lenOf pd685 rfl) (hb hby at_350) ?_
    intro T305 h307 v308 lo309 fs310 K306 Kp311 q312
    rcases q312 with qq312_0 | qq312_1 | qq312_2 | qq312_3 | qq312_4
    · obtain ⟨rfl, rfl, f313⟩ := qq312_0
      exact False.elim (absurd (own_ftl f313 f298 f299) f300)
    · obtain ⟨rfl, rfl, f314, f315, f316⟩ := qq312_1
      exact absurd f298 f314
    · obtain ⟨rfl, rfl, f317, f318, f319, f320, f321⟩ := qq312_2
      exact absurd f298 f317
    · obtain ⟨r322, rfl, rfl, f323, f324, f325, f326, f327, f328, f329⟩ := qq312_3
      exact absurd f298 f324
    · obtain ⟨r330, rfl, rfl, f331, f332, f333, f334⟩ := qq312_4
      have K335 := K306.to 21 433 [a62, a54, a13, a2, ch]
      refine Owe.stk [(.ref r330)] ?_
      refine oAstore K335 355 (hb hby at_353) rfl (l' := #[.val (.int p0), .val (.int p1), .val (.int p2), .val (.int p3), .val (.int p4), .val (.int p5), .val (.int 3), .val (.int f), .val (.int c0), .val (.int c1), .val (.int c2), .val (.int c3), .val (.ref ch), .val (.ref a2), .val (.ref a54), .val (.ref a62), .val (.int 3), .val (.ref r330), .unset]) rfl ?_
      refine oIload K335 357 (hb hby at_355) rfl ?_
      refine oIfYes K335 371 (hb hby at_357) (XT.i0_ge_t (by decide)) ?_
      refine oAload K335 373 (hb hby at_371) rfl rfl ?_
      refine oIfnullNo K335 376 (hb hby at_373) ?_
      refine oAload K335 378 (hb hby at_376) rfl rfl ?_
      refine oLen K335 379 f331 (n := (1 : Int32)) (by first | rfl | decide) (hb hby at_378) ?_
      refine oAload K335 381 (hb hby at_379) rfl rfl ?_
      refine oIconstV K335 382 (0 : Int32) (hb hby at_381) rfl ?_
      refine oIaload K335 383 (f297.keep Kp311 nin0) 0 (by decide) (by decide) rfl (hb hby at_382) ?_
      refine oIcmpYes K335 388 (hb hby at_383) (XT.ii_eq_t (by decide)) ?_
      refine oAload K335 390 (hb hby at_388) rfl rfl ?_
      refine oIconstV K335 391 (0 : Int32) (hb hby at_390) rfl ?_
      refine oIaload K335 392 (f297.keep Kp311 nin0) 0 (by decide) (by decide) rfl (hb hby at_391) ?_
      refine oIstore K335 394 (hb hby at_392) (l' := #[.val (.int p0), .val (.int p1), .val (.int p2), .val (.int p3), .val (.int p4), .val (.int p5), .val (.int 3), .val (.int f), .val (.int c0), .val (.int c1), .val (.int c2), .val (.int c3), .val (.ref ch), .val (.ref a2), .val (.ref a54), .val (.ref a62), .val (.int 3), .val (.ref r330), .val (.int 1)]) rfl ?_
      refine oAload K335 396 (hb hby at_394) rfl rfl ?_
      refine oAload K335 398 (hb hby at_396) rfl rfl ?_
      refine oIload K335 400 (hb hby at_398) rfl ?_
      refine oIconstV K335 401 (0 : Int32) (hb hby at_400) rfl ?_
      refine oStatic K335 404 0 (wq hw 79) (wq hw 80) (wq hw 3) (wq hw 81) (rmAt1_0 l Z a0 z0 fm G r330 a54 ((tri c1 c2)) ((0 : Int32)) ((0 : Int32)) ((0 : Int32)) h307 K335.old K335.both f331 (f296.keep Kp311 nin0) f301 f302) [(.ref r330), (.ref a54), (.int 1), (.int 0)] [] (lenOf pd686 rfl) (hb hby at_401) ?_
      intro T336 h338 v339 lo340 fs341 K337 Kp342 q343
      obtain ⟨rfl, rfl⟩ := q343
      have K344 := K337.to 21 433 [a62, a54, a13, a2, ch]
      refine Owe.stk [(.int 1)] ?_
      refine oIfNo K344 407 (hb hby at_404) (XT.i0_eq_f (by decide)) ?_
      refine oAload K344 409 (hb hby at_407) rfl rfl ?_
      refine oAload K344 411 (hb hby at_409) rfl rfl ?_
      refine oIload K344 413 (hb hby at_411) rfl ?_
      refine oIconstV K344 414 (1 : Int32) (hb hby at_413) rfl ?_
      refine oStatic K344 417 0 (wq hw 79) (wq hw 80) (wq hw 3) (wq hw 81) (rmAt1_1 l Z a0 z0 fm G r330 a54 h338 K344.old K344.both ) [(.ref r330), (.ref a54), (.int 1), (.int 1)] [] (lenOf pd686 rfl) (hb hby at_414) ?_
      intro T345 h347 v348 lo349 fs350 K346 Kp351 q352
      obtain ⟨rfl, rfl⟩ := q352
      have K353 := K346.to 21 433 [a62, a54, a13, a2, ch]
      refine Owe.stk [(.int 1)] ?_
      refine oIfNo K353 420 (hb hby at_417) (XT.i0_eq_f (by decide)) ?_
      refine oAload K353 422 (hb hby at_420) rfl rfl ?_
      refine oAload K353 424 (hb hby at_422) rfl rfl ?_
      refine oIload K353 426 (hb hby at_424) rfl ?_
      refine oIconstV K353 427 (2 : Int32) (hb hby at_426) rfl ?_
      refine oStatic K353 430 0 (wq hw 79) (wq hw 80) (wq hw 3) (wq hw 81) (rmAt1_2 l Z a0 z0 fm G r330 a54 h347 K353.old K353.both ) [(.ref r330), (.ref a54), (.int 1), (.int 2)] [] (lenOf pd686 rfl) (hb hby at_427) ?_
      intro T354 h356 v357 lo358 fs359 K355 Kp360 q361
      obtain ⟨rfl, rfl⟩ := q361
      have K362 := K355.to 21 433 [a62, a54, a13, a2, ch]
      refine Owe.stk [(.int 1)] ?_
      refine oIfNo K362 433 (hb hby at_430) (XT.i0_eq_f (by decide)) ?_
      refine oAload K362 435 (hb hby at_433) rfl rfl ?_
      refine oAload K362 437 (hb hby at_435) rfl rfl ?_
      refine oIload K362 439 (hb hby at_437) rfl ?_
      refine oIconstV K362 440 (3 : Int32) (hb hby at_439) rfl ?_
      refine oStatic K362 443 0 (wq hw 79) (wq hw 80) (wq hw 3) (wq hw 81) (rmAt1_3 l Z a0 z0 fm G r330 a54 h356 K362.old K362.both ) [(.ref r330), (.ref a54), (.int 1), (.int 3)] [] (lenOf pd686 rfl) (hb hby at_440) ?_
      intro T363 h365 v366 lo367 fs368 K364 Kp369 q370
      obtain ⟨rfl, rfl⟩ := q370
      have K371 := K364.to 21 433 [a62, a54, a13, a2, ch]
      refine Owe.stk [(.int 1)] ?_
      refine oIfNo K371 446 (hb hby at_443) (XT.i0_eq_f (by decide)) ?_
      refine oIconstV K371 447 (1 : Int32) (hb hby at_446) rfl ?_
      refine oGoto K371 451 (hb hby at_447) ?_
      exact oRetI K371 [] (t := .boolean) hret (by simp) (by decide) (hb hby at_451) (by decide) (by decide) hlk (fun x hx => by cases hx) ⟨rfl, rfl⟩
theorem sgN4 (G : Gl Z a0 z0 fm) (p0 p1 p2 p3 p4 p5 f c0 c1 c2 c3 : Int32) (ch : Addr) (hby : c.code = code) (hret : meth.sig.returnType = ret) (hlk : meth.locks = false) (h0 : Heap)
    (K0 : Wk p l e room_1 s m #[(.int p0), (.int p1), (.int p2), (.int p3), (.int p4), (.int p5)] below meth c Z a0 ELs "com/example/paredown/paredown/PercentEncodingDecodeBytesPinLaw" maxLocals [] [ch] T0 lo0 9 372 h0) (P0 : Ary Z h0 ch .char [(.int c0), (.int c1), (.int c2), (.int c3)]) (P1 : ¬ c0 < (0 : Int32)) (P2 : ¬ (65535 : Int32) < c0) (P3 : ¬ c1 < (0 : Int32)) (P4 : ¬ (65535 : Int32) < c1) (P5 : ¬ c2 < (0 : Int32)) (P6 : ¬ (65535 : Int32) < c2) (P7 : ¬ c3 < (0 : Int32)) (P8 : ¬ (65535 : Int32) < c3) :
    Owe p e below (PostW Z ELs [] room_1 (fun v h fs => (fs = [] ∧ v = some (.int 1))) s) T0 (mkF m 72 #[.val (.int p0), .val (.int p1), .val (.int p2), .val (.int p3), .val (.int p4), .val (.int p5), .val (.int 4), .val (.int f), .val (.int c0), .val (.int c1), .val (.int c2), .val (.int c3), .val (.ref ch), .unset, .unset, .unset, .unset, .unset, .unset] []) := by
  obtain ⟨hw, hEL, wS, OS, hz0, OA, OH, OL, OF, rfm⟩ := id G
  refine oIload K0 74 (hb hby at_72) rfl ?_
  refine oIfYes K0 92 (hb hby at_74) (XT.i0_ne_t (by decide)) ?_
  refine oIload K0 94 (hb hby at_92) rfl ?_
  refine oIconstV K0 95 (1 : Int32) (hb hby at_94) rfl ?_
  refine oIcmpYes K0 118 (hb hby at_95) (XT.ii_ne_t (by decide)) ?_
  refine oIload K0 120 (hb hby at_118) rfl ?_
  refine oIconstV K0 121 (2 : Int32) (hb hby at_120) rfl ?_
  refine oIcmpYes K0 149 (hb hby at_121) (XT.ii_ne_t (by decide)) ?_
  refine oIload K0 151 (hb hby at_149) rfl ?_
  refine oIconstV K0 152 (3 : Int32) (hb hby at_151) rfl ?_
  refine oIcmpYes K0 185 (hb hby at_152) (XT.ii_ne_t (by decide)) ?_
  refine oNew K0 188 (wq hw 39) (wq hw 7) (wq hw 6) (hb hby at_185) (by decide) (by decide) ?_
  intro T7 h1 a2 g3 K8 E4 X5 D6
  have F9 : Fld Z h1 a2 "java/lang/String" "value" "[B" .null := D6 (Or.inr (wq hw 9)) (ty := (.array .byte)) (by decide)
  have F10 : Fld Z h1 a2 "java/lang/String" "coder" "B" (.int 0) := D6 (Or.inr (wq hw 10)) (ty := .byte) (by decide)
  have K11 := K8.to 10 376 [a2, ch]
  refine oDup K11 189 (hb hby at_188) rfl ?_
  refine oIconstV K11 190 (4 : Int32) (hb hby at_189) rfl ?_
  refine oNewP K11 192 (ty := .char) 4 (wq hw 38) rfl (by decide) (by decide) (by decide) (hb hby at_190) (by decide) (by decide) ?_
  intro T17 h12 a13 g14 K18 E15 A16 
  have K19 := K18.to 11 380 [a13, a2, ch]
  refine oDup K19 193 (hb hby at_192) rfl ?_
  refine oIconstV K19 194 (0 : Int32) (hb hby at_193) rfl ?_
  refine oIload K19 196 (hb hby at_194) rfl ?_
  refine oCastore K19 197 (by simp) A16 0 (by decide) (by decide) nlt (nar_rng P1 P2) (hb hby at_196) ?_
  intro T24 h20 lo23 K25 W21 A22
  have A26 : Ary Z h20 a13 .char [(.int c0), (.int 0), (.int 0), (.int 0)] := A22
  refine oDup K25 198 (hb hby at_197) rfl ?_
  refine oIconstV K25 199 (1 : Int32) (hb hby at_198) rfl ?_
  refine oIload K25 201 (hb hby at_199) rfl ?_
  refine oCastore K25 202 (by simp) A26 1 (by decide) (by decide) nlt (nar_rng P3 P4) (hb hby at_201) ?_
  intro T31 h27 lo30 K32 W28 A29
  have A33 : Ary Z h27 a13 .char [(.int c0), (.int c1), (.int 0), (.int 0)] := A29
  refine oDup K32 203 (hb hby at_202) rfl ?_
  refine oIconstV K32 204 (2 : Int32) (hb hby at_203) rfl ?_
  refine oIload K32 206 (hb hby at_204) rfl ?_
  refine oCastore K32 207 (by simp) A33 2 (by decide) (by decide) nlt (nar_rng P5 P6) (hb hby at_206) ?_
  intro T38 h34 lo37 K39 W35 A36
  have A40 : Ary Z h34 a13 .char [(.int c0), (.int c1), (.int c2), (.int 0)] := A36
  refine oDup K39 208 (hb hby at_207) rfl ?_
  refine oIconstV K39 209 (3 : Int32) (hb hby at_208) rfl ?_
  refine oIload K39 211 (hb hby at_209) rfl ?_
  refine oCastore K39 212 (by simp) A40 3 (by decide) (by decide) nlt (nar_rng P7 P8) (hb hby at_211) ?_
  intro T45 h41 lo44 K46 W42 A43
  have A47 : Ary Z h41 a13 .char [(.int c0), (.int c1), (.int c2), (.int c3)] := A43
  have F48 := (Fld.other W42 (Fld.other W35 (Fld.other W28 (Fld.other W21 (F9.ext E15) (Or.inl (Nat.ne_of_lt (Nat.lt_of_lt_of_le X5.lt (Nat.le_of_eq g14))))) (Or.inl (Nat.ne_of_lt (Nat.lt_of_lt_of_le X5.lt (Nat.le_of_eq g14))))) (Or.inl (Nat.ne_of_lt (Nat.lt_of_lt_of_le X5.lt (Nat.le_of_eq g14))))) (Or.inl (Nat.ne_of_lt (Nat.lt_of_lt_of_le X5.lt (Nat.le_of_eq g14)))))
  have F49 := (Fld.other W42 (Fld.other W35 (Fld.other W28 (Fld.other W21 (F10.ext E15) (Or.inl (Nat.ne_of_lt (Nat.lt_of_lt_of_le X5.lt (Nat.le_of_eq g14))))) (Or.inl (Nat.ne_of_lt (Nat.lt_of_lt_of_le X5.lt (Nat.le_of_eq g14))))) (Or.inl (Nat.ne_of_lt (Nat.lt_of_lt_of_le X5.lt (Nat.le_of_eq g14))))) (Or.inl (Nat.ne_of_lt (Nat.lt_of_lt_of_le X5.lt (Nat.le_of_eq g14)))))
  refine oSpecial K46 215 1 (wq hw 40) (wq hw 41) (wq hw 6) (wq hw 42) (rmN1_4 l Z a0 z0 fm G a2 a13 c0 c1 c2 c3 h41 K46.old K46.both (((((X5.ext E15).wr W21).wr W28).wr W35).wr W42) F48 F49 A47 (Nat.ne_of_lt (Nat.lt_of_lt_of_le X5.lt (Nat.le_of_eq g14))) P1 P2 P3 P4 P5 P6 P7 P8) [(.ref a13)] [(.ref a2)] (lenOf pd684 rfl) (hb hby at_212) ?_
  intro T50 h52 v53 lo54 fs55 K51 Kp56 q57
  obtain ⟨rfl, rfl, f58⟩ := q57
  have K59 := K51.to 13 392 [a13, a2, ch]
  refine Owe.stk [(.ref a2)] ?_
  refine oAstore K59 217 (hb hby at_215) rfl (l' := #[.val (.int p0), .val (.int p1), .val (.int p2), .val (.int p3), .val (.int p4), .val (.int p5), .val (.int 4), .val (.int f), .val (.int c0), .val (.int c1), .val (.int c2), .val (.int c3), .val (.ref ch), .val (.ref a2), .unset, .unset, .unset, .unset, .unset]) rfl ?_
  refine oIconstV K59 218 (4 : Int32) (hb hby at_217) rfl ?_
  refine oNewP K59 220 (ty := .int) 4 (wq hw 51) rfl (by decide) (by decide) (by decide) (hb hby at_218) (by decide) (by decide) ?_
  intro T65 h60 a61 g62 K66 E63 A64 
  have K67 := K66.to 14 396 [a61, a13, a2, ch]
  refine oAstore K67 222 (hb hby at_220) rfl (l' := #[.val (.int p0), .val (.int p1), .val (.int p2), .val (.int p3), .val (.int p4), .val (.int p5), .val (.int 4), .val (.int f), .val (.int c0), .val (.int c1), .val (.int c2), .val (.int c3), .val (.ref ch), .val (.ref a2), .val (.ref a61), .unset, .unset, .unset, .unset]) rfl ?_
  refine oIconstV K67 223 (1 : Int32) (hb hby at_222) rfl ?_
  refine oNewP K67 225 (ty := .int) 1 (wq hw 51) rfl (by decide) (by decide) (by decide) (hb hby at_223) (by decide) (by decide) ?_
  intro T73 h68 a69 g70 K74 E71 A72 
  have K75 := K74.to 15 397 [a69, a61, a13, a2, ch]
  refine oAstore K75 227 (hb hby at_225) rfl (l' := #[.val (.int p0), .val (.int p1), .val (.int p2), .val (.int p3), .val (.int p4), .val (.int p5), .val (.int 4), .val (.int f), .val (.int c0), .val (.int c1), .val (.int c2), .val (.int c3), .val (.ref ch), .val (.ref a2), .val (.ref a61), .val (.ref a69), .unset, .unset, .unset]) rfl ?_
  refine oIconstV K75 228 (0 : Int32) (hb hby at_227) rfl ?_
  refine oIstore K75 230 (hb hby at_228) (l' := #[.val (.int p0), .val (.int p1), .val (.int p2), .val (.int p3), .val (.int p4), .val (.int p5), .val (.int 4), .val (.int f), .val (.int c0), .val (.int c1), .val (.int c2), .val (.int c3), .val (.ref ch), .val (.ref a2), .val (.ref a61), .val (.ref a69), .val (.int 0), .unset, .unset]) rfl ?_
  refine oIload K75 232 (hb hby at_230) rfl ?_
  refine oIfNo K75 235 (hb hby at_232) (XT.i0_lt_f (by decide)) ?_
  refine oIload K75 237 (hb hby at_235) rfl ?_
  refine oIload K75 239 (hb hby at_237) rfl ?_
  refine oIcmpNo K75 242 (hb hby at_239) (XT.ii_ge_f (by decide)) ?_
  refine oAload K75 244 (hb hby at_242) rfl rfl ?_
  refine oIload K75 246 (hb hby at_244) rfl ?_
  refine oIload K75 248 (hb hby at_246) rfl ?_
  refine oIload K75 250 (hb hby at_248) rfl ?_
  refine oAload K75 252 (hb hby at_250) rfl rfl ?_
  refine oAload K75 254 (hb hby at_252) rfl rfl ?_
  have n76 := (Nat.ne_of_lt (Nat.lt_of_lt_of_le (Nat.lt_of_lt_of_le P0.lt E4.1) (Nat.le_of_eq g14)))
  have F77 := ((((Ary.other (Ary.other (Ary.other (Ary.other ((P0.ext E4).ext E15) W21 n76) W28 n76) W35 n76) W42 n76).keep Kp56 (ninS (Nat.ne_of_lt (Nat.lt_of_lt_of_le P0.lt (Nat.le_of_eq g3))) nin0)).ext E63).ext E71)
  refine oStatic K75 257 0 (wq hw 93) (wq hw 94) (wq hw 3) (wq hw 95) (rmStep4_0_0 l Z a0 z0 fm G ch a61 a69 f c0 c1 c2 c3 ((0 : Int32)) ((0 : Int32)) ((0 : Int32)) ((0 : Int32)) h68 K75.old K75.both F77 (A64.ext E71) A72 (Nat.ne_of_lt (Nat.lt_of_lt_of_le A64.lt (Nat.le_of_eq g70))) P1 P2 P3 P4 P5 P6 P7 P8) [(.ref ch), (.int 4), (.int 0), (.int f), (.ref a61), (.ref a69)] [] (lenOf pd687 rfl) (hb hby at_254) ?_
  intro T78 h80 v81 lo82 fs83 K79 Kp84 q85
  rcases q85 with qq85_0 | qq85_1 | qq85_2
  · obtain ⟨rfl, rfl, f86, f87, f88⟩ := qq85_0
    have K89 := K79.to 15 397 [a69, a61, a13, a2, ch]
    refine Owe.stk [(.int (-1))] ?_
    refine oIstore K89 259 (hb hby at_257) (l' := #[.val (.int p0), .val (.int p1), .val (.int p2), .val (.int p3), .val (.int p4), .val (.int p5), .val (.int 4), .val (.int f), .val (.int c0), .val (.int c1), .val (.int c2), .val (.int c3), .val (.ref ch), .val (.ref a2), .val (.ref a61), .val (.ref a69), .val (.int (-1)), .unset, .unset]) rfl ?_
    refine oIload K89 261 (hb hby at_259) rfl ?_
    refine oIfYes K89 288 (hb hby at_261) (XT.i0_lt_t (by decide)) ?_
    refine oIload K89 290 (hb hby at_288) rfl ?_
    refine oIfYes K89 317 (hb hby at_290) (XT.i0_lt_t (by decide)) ?_
    refine oIload K89 319 (hb hby at_317) rfl ?_
    refine oIfYes K89 346 (hb hby at_319) (XT.i0_lt_t (by decide)) ?_
    refine oAload K89 348 (hb hby at_346) rfl rfl ?_
    refine oIload K89 350 (hb hby at_348) rfl ?_
    have F90 := (((f58.ext E63).ext E71).keep Kp84 (geS (Nat.le_trans f58.bd (Nat.le_of_eq g62)) (geS (Nat.le_trans (f58.ext E63).bd (Nat.le_of_eq g70)) geN)))
    refine oStatic K89 353 0 (wq hw 52) (wq hw 53) (wq hw 54) (wq hw 55) (rmDB4 l Z a0 z0 fm G a2 (h52.size) f c0 c1 c2 c3 h80 K89.old K89.both F90 P1 P2 P3 P4 P5 P6 P7 P8) [(.ref a2), (.int f)] [] (lenOf pd685 rfl) (hb hby at_350) ?_
    intro T91 h93 v94 lo95 fs96 K92 Kp97 q98
    rcases q98 with qq98_0 | qq98_1 | qq98_2 | qq98_3 | qq98_4 | qq98_5 | qq98_6 | qq98_7
    · obtain ⟨rfl, rfl, f99⟩ := qq98_0
      have K100 := K92.to 21 437 [a69, a61, a13, a2, ch]
      refine Owe.stk [.null] ?_
      refine oAstore K100 355 (hb hby at_353) rfl (l' := #[.val (.int p0), .val (.int p1), .val (.int p2), .val (.int p3), .val (.int p4), .val (.int p5), .val (.int 4), .val (.int f), .val (.int c0), .val (.int c1), .val (.int c2), .val (.int c3), .val (.ref ch), .val (.ref a2), .val (.ref a61), .val (.ref a69), .val (.int (-1)), .val .null, .unset]) rfl ?_
      refine oIload K100 357 (hb hby at_355) rfl ?_
      refine oIfNo K100 360 (hb hby at_357) (XT.i0_ge_f (by decide)) ?_
      refine oAload K100 362 (hb hby at_360) rfl rfl ?_
      refine oIfnonnullNo K100 365 (hb hby at_362) ?_
      refine oIconstV K100 366 (1 : Int32) (hb hby at_365) rfl ?_
      refine oGoto K100 370 (hb hby at_366) ?_
      exact oRetI K100 [] (t := .boolean) hret (by simp) (by decide) (hb hby at_370) (by decide) (by decide) hlk (fun x hx => by cases hx) ⟨rfl, rfl⟩
    · obtain ⟨rfl, rfl, f101, f102, f103⟩ := qq98_1
      exact False.elim (own_noT f88 f101 f102)
    · obtain ⟨rfl, rfl, f104, f105, f106, f107, f108⟩ := qq98_2
      exact False.elim (own_noT f88 f104 f105)
    · obtain ⟨rfl, rfl, f109, f110, f111, f112, f113, f114, f115⟩ := qq98_3
      exact False.elim (own_noT f88 f109 f110)
    · obtain ⟨r116, rfl, rfl, f117, f118, f119, f120, f121, f122, f123, f124, f125⟩ := qq98_4
      exact False.elim (own_noT f88 f118 f119)
    · obtain ⟨r126, rfl, rfl, f127, f128, f129, f130, f131, f132⟩ := qq98_5
      exact False.elim (own_noT f88 f128 f129)
    · obtain ⟨rfl, rfl, f133, f134, f135, f136⟩ := qq98_6
      exact False.elim (absurd (own_ftl f88 f133 f134) f135)
    · obtain ⟨r137, rfl, rfl, f138, f139, f140, f141, f142, f143⟩ := qq98_7
      exact False.elim (absurd (own_ftl f88 f139 f140) f141)
  · obtain ⟨rfl, rfl, f144, f145, f146, f147, f148, f149⟩ := qq85_1
    have K150 := K79.to 15 397 [a69, a61, a13, a2, ch]
    refine Owe.stk [(.int 1)] ?_
    refine oIstore K150 259 (hb hby at_257) (l' := #[.val (.int p0), .val (.int p1), .val (.int p2), .val (.int p3), .val (.int p4), .val (.int p5), .val (.int 4), .val (.int f), .val (.int c0), .val (.int c1), .val (.int c2), .val (.int c3), .val (.ref ch), .val (.ref a2), .val (.ref a61), .val (.ref a69), .val (.int 1), .unset, .unset]) rfl ?_
    refine oIload K150 261 (hb hby at_259) rfl ?_
    refine oIfNo K150 264 (hb hby at_261) (XT.i0_lt_f (by decide)) ?_
    refine oIload K150 266 (hb hby at_264) rfl ?_
    refine oIload K150 268 (hb hby at_266) rfl ?_
    refine oIcmpNo K150 271 (hb hby at_268) (XT.ii_ge_f (by decide)) ?_
    refine oAload K150 273 (hb hby at_271) rfl rfl ?_
    refine oIload K150 275 (hb hby at_273) rfl ?_
    refine oIload K150 277 (hb hby at_275) rfl ?_
    refine oIload K150 279 (hb hby at_277) rfl ?_
    refine oAload K150 281 (hb hby at_279) rfl rfl ?_
    refine oAload K150 283 (hb hby at_281) rfl rfl ?_
    have n151 := (Nat.ne_of_lt (Nat.lt_of_lt_of_le (Nat.lt_of_lt_of_le P0.lt (Nat.le_trans E4.1 (Nat.le_trans E15.1 (Nat.le_trans (Nat.le_of_eq W21.size.symm) (Nat.le_trans (Nat.le_of_eq W28.size.symm) (Nat.le_trans (Nat.le_of_eq W35.size.symm) (Nat.le_trans (Nat.le_of_eq W42.size.symm) (Nat.le_trans Kp56.1 E63.1)))))))) (Nat.le_of_eq g70)))
    have n152 := (Nat.ne_of_lt (Nat.lt_of_lt_of_le (Nat.lt_of_lt_of_le P0.lt (Nat.le_trans E4.1 (Nat.le_trans E15.1 (Nat.le_trans (Nat.le_of_eq W21.size.symm) (Nat.le_trans (Nat.le_of_eq W28.size.symm) (Nat.le_trans (Nat.le_of_eq W35.size.symm) (Nat.le_trans (Nat.le_of_eq W42.size.symm) Kp56.1))))))) (Nat.le_of_eq g62)))
    refine oStatic K150 286 0 (wq hw 93) (wq hw 94) (wq hw 3) (wq hw 95) (rmStep4_1_1 l Z a0 z0 fm G ch a61 a69 f c0 c1 c2 c3 ((one f c0)) ((0 : Int32)) ((0 : Int32)) ((0 : Int32)) h80 K150.old K150.both (F77.keep Kp84 (ninS n152 (ninS n151 nin0))) f144 f145 (Nat.ne_of_lt (Nat.lt_of_lt_of_le A64.lt (Nat.le_of_eq g70))) P1 P2 P3 P4 P5 P6 P7 P8) [(.ref ch), (.int 4), (.int 1), (.int f), (.ref a61), (.ref a69)] [] (lenOf pd687 rfl) (hb hby at_283) ?_
    intro T153 h155 v156 lo157 fs158 K154 Kp159 q160
    rcases q160 with qq160_0 | qq160_1 | qq160_2
    · obtain ⟨rfl, rfl, f161, f162, f163⟩ := qq160_0
      have K164 := K154.to 15 397 [a69, a61, a13, a2, ch]
      refine Owe.stk [(.int (-1))] ?_
      refine oIstore K164 288 (hb hby at_286) (l' := #[.val (.int p0), .val (.int p1), .val (.int p2), .val (.int p3), .val (.int p4), .val (.int p5), .val (.int 4), .val (.int f), .val (.int c0), .val (.int c1), .val (.int c2), .val (.int c3), .val (.ref ch), .val (.ref a2), .val (.ref a61), .val (.ref a69), .val (.int (-1)), .unset, .unset]) rfl ?_
      refine oIload K164 290 (hb hby at_288) rfl ?_
      refine oIfYes K164 317 (hb hby at_290) (XT.i0_lt_t (by decide)) ?_
      refine oIload K164 319 (hb hby at_317) rfl ?_
      refine oIfYes K164 346 (hb hby at_319) (XT.i0_lt_t (by decide)) ?_
      refine oAload K164 348 (hb hby at_346) rfl rfl ?_
      refine oIload K164 350 (hb hby at_348) rfl ?_
      have F165 := ((((f58.ext E63).ext E71).keep Kp84 (geS (Nat.le_trans f58.bd (Nat.le_of_eq g62)) (geS (Nat.le_trans (f58.ext E63).bd (Nat.le_of_eq g70)) geN))).keep Kp159 (geS (Nat.le_trans f58.bd (Nat.le_of_eq g62)) (geS (Nat.le_trans (f58.ext E63).bd (Nat.le_of_eq g70)) geN)))
      refine oStatic K164 353 0 (wq hw 52) (wq hw 53) (wq hw 54) (wq hw 55) (rmDB4 l Z a0 z0 fm G a2 (h52.size) f c0 c1 c2 c3 h155 K164.old K164.both F165 P1 P2 P3 P4 P5 P6 P7 P8) [(.ref a2), (.int f)] [] (lenOf pd685 rfl) (hb hby at_350) ?_
      intro T166 h168 v169 lo170 fs171 K167 Kp172 q173
      rcases q173 with qq173_0 | qq173_1 | qq173_2 | qq173_3 | qq173_4 | qq173_5 | qq173_6 | qq173_7
      · obtain ⟨rfl, rfl, f174⟩ := qq173_0
        exact False.elim (own_noT f174 f146 f147)
      · obtain ⟨rfl, rfl, f175, f176, f177⟩ := qq173_1
        have K178 := K167.to 21 437 [a69, a61, a13, a2, ch]
        refine Owe.stk [.null] ?_
        refine oAstore K178 355 (hb hby at_353) rfl (l' := #[.val (.int p0), .val (.int p1), .val (.int p2), .val (.int p3), .val (.int p4), .val (.int p5), .val (.int 4), .val (.int f), .val (.int c0), .val (.int c1), .val (.int c2), .val (.int c3), .val (.ref ch), .val (.ref a2), .val (.ref a61), .val (.ref a69), .val (.int (-1)), .val .null, .unset]) rfl ?_
        refine oIload K178 357 (hb hby at_355) rfl ?_
        refine oIfNo K178 360 (hb hby at_357) (XT.i0_ge_f (by decide)) ?_
        refine oAload K178 362 (hb hby at_360) rfl rfl ?_
        refine oIfnonnullNo K178 365 (hb hby at_362) ?_
        refine oIconstV K178 366 (1 : Int32) (hb hby at_365) rfl ?_
        refine oGoto K178 370 (hb hby at_366) ?_
        exact oRetI K178 [] (t := .boolean) hret (by simp) (by decide) (hb hby at_370) (by decide) (by decide) hlk (fun x hx => by cases hx) ⟨rfl, rfl⟩
      · obtain ⟨rfl, rfl, f179, f180, f181, f182, f183⟩ := qq173_2
        exact False.elim (own_noT f163 f181 f182)
      · obtain ⟨rfl, rfl, f184, f185, f186, f187, f188, f189, f190⟩ := qq173_3
        exact False.elim (own_noT f163 f186 f187)
      · obtain ⟨r191, rfl, rfl, f192, f193, f194, f195, f196, f197, f198, f199, f200⟩ := qq173_4
        exact False.elim (own_noT f163 f195 f196)
      · obtain ⟨r201, rfl, rfl, f202, f203, f204, f205, f206, f207⟩ := qq173_5
        exact False.elim (absurd (own_ftl f163 f205 f206) f207)
      · obtain ⟨rfl, rfl, f208, f209, f210, f211⟩ := qq173_6
        exact absurd f208 f146
      · obtain ⟨r212, rfl, rfl, f213, f214, f215, f216, f217, f218⟩ := qq173_7
        exact absurd f214 f146
    · obtain ⟨rfl, rfl, f219, f220, f221, f222, f223, f224⟩ := qq160_1
      have K225 := K154.to 15 397 [a69, a61, a13, a2, ch]
      refine Owe.stk [(.int 2)] ?_
      refine oIstore K225 288 (hb hby at_286) (l' := #[.val (.int p0), .val (.int p1), .val (.int p2), .val (.int p3), .val (.int p4), .val (.int p5), .val (.int 4), .val (.int f), .val (.int c0), .val (.int c1), .val (.int c2), .val (.int c3), .val (.ref ch), .val (.ref a2), .val (.ref a61), .val (.ref a69), .val (.int 2), .unset, .unset]) rfl ?_
      refine oIload K225 290 (hb hby at_288) rfl ?_
      refine oIfNo K225 293 (hb hby at_290) (XT.i0_lt_f (by decide)) ?_
      refine oIload K225 295 (hb hby at_293) rfl ?_
      refine oIload K225 297 (hb hby at_295) rfl ?_
      refine oIcmpNo K225 300 (hb hby at_297) (XT.ii_ge_f (by decide)) ?_
      refine oAload K225 302 (hb hby at_300) rfl rfl ?_
      refine oIload K225 304 (hb hby at_302) rfl ?_
      refine oIload K225 306 (hb hby at_304) rfl ?_
      refine oIload K225 308 (hb hby at_306) rfl ?_
      refine oAload K225 310 (hb hby at_308) rfl rfl ?_
      refine oAload K225 312 (hb hby at_310) rfl rfl ?_
      have F226 := ((F77.keep Kp84 (ninS n152 (ninS n151 nin0))).keep Kp159 (ninS n152 (ninS n151 nin0)))
      refine oStatic K225 315 0 (wq hw 93) (wq hw 94) (wq hw 3) (wq hw 95) (rmStep4_2_2 l Z a0 z0 fm G ch a61 a69 f c0 c1 c2 c3 ((one f c0)) ((one f c1)) ((0 : Int32)) ((0 : Int32)) h155 K225.old K225.both F226 f219 f220 (Nat.ne_of_lt (Nat.lt_of_lt_of_le A64.lt (Nat.le_of_eq g70))) P1 P2 P3 P4 P5 P6 P7 P8) [(.ref ch), (.int 4), (.int 2), (.int f), (.ref a61), (.ref a69)] [] (lenOf pd687 rfl) (hb hby at_312) ?_
      intro T227 h229 v230 lo231 fs232 K228 Kp233 q234
      rcases q234 with qq234_0 | qq234_1
      · obtain ⟨rfl, rfl, f235, f236, f237⟩ := qq234_0
        have K238 := K228.to 15 397 [a69, a61, a13, a2, ch]
        refine Owe.stk [(.int (-1))] ?_
        refine oIstore K238 317 (hb hby at_315) (l' := #[.val (.int p0), .val (.int p1), .val (.int p2), .val (.int p3), .val (.int p4), .val (.int p5), .val (.int 4), .val (.int f), .val (.int c0), .val (.int c1), .val (.int c2), .val (.int c3), .val (.ref ch), .val (.ref a2), .val (.ref a61), .val (.ref a69), .val (.int (-1)), .unset, .unset]) rfl ?_
        refine oIload K238 319 (hb hby at_317) rfl ?_
        refine oIfYes K238 346 (hb hby at_319) (XT.i0_lt_t (by decide)) ?_
        refine oAload K238 348 (hb hby at_346) rfl rfl ?_
        refine oIload K238 350 (hb hby at_348) rfl ?_
        have F239 := (((((f58.ext E63).ext E71).keep Kp84 (geS (Nat.le_trans f58.bd (Nat.le_of_eq g62)) (geS (Nat.le_trans (f58.ext E63).bd (Nat.le_of_eq g70)) geN))).keep Kp159 (geS (Nat.le_trans f58.bd (Nat.le_of_eq g62)) (geS (Nat.le_trans (f58.ext E63).bd (Nat.le_of_eq g70)) geN))).keep Kp233 (geS (Nat.le_trans f58.bd (Nat.le_of_eq g62)) (geS (Nat.le_trans (f58.ext E63).bd (Nat.le_of_eq g70)) geN)))
        refine oStatic K238 353 0 (wq hw 52) (wq hw 53) (wq hw 54) (wq hw 55) (rmDB4 l Z a0 z0 fm G a2 (h52.size) f c0 c1 c2 c3 h229 K238.old K238.both F239 P1 P2 P3 P4 P5 P6 P7 P8) [(.ref a2), (.int f)] [] (lenOf pd685 rfl) (hb hby at_350) ?_
        intro T240 h242 v243 lo244 fs245 K241 Kp246 q247
        rcases q247 with qq247_0 | qq247_1 | qq247_2 | qq247_3 | qq247_4 | qq247_5 | qq247_6 | qq247_7
        · obtain ⟨rfl, rfl, f248⟩ := qq247_0
          exact False.elim (own_noT f248 f146 f147)
        · obtain ⟨rfl, rfl, f249, f250, f251⟩ := qq247_1
          exact False.elim (own_noT f251 f221 f222)
        · obtain ⟨rfl, rfl, f252, f253, f254, f255, f256⟩ := qq247_2
          have K257 := K241.to 21 437 [a69, a61, a13, a2, ch]
          refine Owe.stk [.null] ?_
          refine oAstore K257 355 (hb hby at_353) rfl (l' := #[.val (.int p0), .val (.int p1), .val (.int p2), .val (.int p3), .val (.int p4), .val (.int p5), .val (.int 4), .val (.int f), .val (.int c0), .val (.int c1), .val (.int c2), .val (.int c3), .val (.ref ch), .val (.ref a2), .val (.ref a61), .val (.ref a69), .val (.int (-1)), .val .null, .unset]) rfl ?_
          refine oIload K257 357 (hb hby at_355) rfl ?_
          refine oIfNo K257 360 (hb hby at_357) (XT.i0_ge_f (by decide)) ?_
          refine oAload K257 362 (hb hby at_360) rfl rfl ?_
          refine oIfnonnullNo K257 365 (hb hby at_362) ?_
          refine oIconstV K257 366 (1 : Int32) (hb hby at_365) rfl ?_
          refine oGoto K257 370 (hb hby at_366) ?_
          exact oRetI K257 [] (t := .boolean) hret (by simp) (by decide) (hb hby at_370) (by decide) (by decide) hlk (fun x hx => by cases hx) ⟨rfl, rfl⟩
        · obtain ⟨rfl, rfl, f258, f259, f260, f261, f262, f263, f264⟩ := qq247_3
          exact False.elim (own_noO f237 f262 f263)
        · obtain ⟨r265, rfl, rfl, f266, f267, f268, f269, f270, f271, f272, f273, f274⟩ := qq247_4
          exact False.elim (own_noO f237 f271 f272)
        · obtain ⟨r275, rfl, rfl, f276, f277, f278, f279, f280, f281⟩ := qq247_5
          exact absurd f279 f221
        · obtain ⟨rfl, rfl, f282, f283, f284, f285⟩ := qq247_6
          exact absurd f282 f146
        · obtain ⟨r286, rfl, rfl, f287, f288, f289, f290, f291, f292⟩ := qq247_7
          exact absurd f288 f146
      · obtain ⟨rfl, rfl, f293, f294, f295, f296, f297, f298⟩ := qq234_1
        have K299 := K228.to 15 397 [a69, a61, a13, a2, ch]
        refine Owe.stk [(.int 3)] ?_
        refine oIstore K299 317 (hb hby at_315) (l' := #[.val (.int p0), .val (.int p1), .val (.int p2), .val (.int p3), .val (.int p4), .val (.int p5), .val (.int 4), .val (.int f), .val (.int c0), .val (.int c1), .val (.int c2), .val (.int c3), .val (.ref ch), .val (.ref a2), .val (.ref a61), .val (.ref a69), .val (.int 3), .unset, .unset]) rfl ?_
        refine oIload K299 319 (hb hby at_317) rfl ?_
        refine oIfNo K299 322 (hb hby at_319) (XT.i0_lt_f (by decide)) ?_
        refine oIload K299 324 (hb hby at_322) rfl ?_
        refine oIload K299 326 (hb hby at_324) rfl ?_
        refine oIcmpNo K299 329 (hb hby at_326) (XT.ii_ge_f (by decide)) ?_
        refine oAload K299 331 (hb hby at_329) rfl rfl ?_
        refine oIload K299 333 (hb hby at_331) rfl ?_
        refine oIload K299 335 (hb hby at_333) rfl ?_
        refine oIload K299 337 (hb hby at_335) rfl ?_
        refine oAload K299 339 (hb hby at_337) rfl rfl ?_
        refine oAload K299 341 (hb hby at_339) rfl rfl ?_
        refine oStatic K299 344 0 (wq hw 93) (wq hw 94) (wq hw 3) (wq hw 95) (rmStep4_3_3 l Z a0 z0 fm G ch a61 a69 f c0 c1 c2 c3 ((one f c0)) ((one f c1)) ((one f c2)) ((0 : Int32)) h229 K299.old K299.both (F226.keep Kp233 (ninS n152 (ninS n151 nin0))) f293 f294 (Nat.ne_of_lt (Nat.lt_of_lt_of_le A64.lt (Nat.le_of_eq g70))) P1 P2 P3 P4 P5 P6 P7 P8) [(.ref ch), (.int 4), (.int 3), (.int f), (.ref a61), (.ref a69)] [] (lenOf pd687 rfl) (hb hby at_341) ?_
        intro T300 h302 v303 lo304 fs305 K301 Kp306 q307
        rcases q307 with qq307_0 | qq307_1
        · obtain ⟨rfl, rfl, f308, f309, f310⟩ := qq307_0
          have K311 := K301.to 15 397 [a69, a61, a13, a2, ch]
          refine Owe.stk [(.int (-1))] ?_
          refine oIstore K311 346 (hb hby at_344) (l' := #[.val (.int p0), .val (.int p1), .val (.int p2), .val (.int p3), .val (.int p4), .val (.int p5), .val (.int 4), .val (.int f), .val (.int c0), .val (.int c1), .val (.int c2), .val (.int c3), .val (.ref ch), .val (.ref a2), .val (.ref a61), .val (.ref a69), .val (.int (-1)), .unset, .unset]) rfl ?_
          refine oAload K311 348 (hb hby at_346) rfl rfl ?_
          refine oIload K311 350 (hb hby at_348) rfl ?_
          have F312 := ((((((f58.ext E63).ext E71).keep Kp84 (geS (Nat.le_trans f58.bd (Nat.le_of_eq g62)) (geS (Nat.le_trans (f58.ext E63).bd (Nat.le_of_eq g70)) geN))).keep Kp159 (geS (Nat.le_trans f58.bd (Nat.le_of_eq g62)) (geS (Nat.le_trans (f58.ext E63).bd (Nat.le_of_eq g70)) geN))).keep Kp233 (geS (Nat.le_trans f58.bd (Nat.le_of_eq g62)) (geS (Nat.le_trans (f58.ext E63).bd (Nat.le_of_eq g70)) geN))).keep Kp306 (geS (Nat.le_trans f58.bd (Nat.le_of_eq g62)) (geS (Nat.le_trans (f58.ext E63).bd (Nat.le_of_eq g70)) geN)))
          refine oStatic K311 353 0 (wq hw 52) (wq hw 53) (wq hw 54) (wq hw 55) (rmDB4 l Z a0 z0 fm G a2 (h52.size) f c0 c1 c2 c3 h302 K311.old K311.both F312 P1 P2 P3 P4 P5 P6 P7 P8) [(.ref a2), (.int f)] [] (lenOf pd685 rfl) (hb hby at_350) ?_
          intro T313 h315 v316 lo317 fs318 K314 Kp319 q320
          rcases q320 with qq320_0 | qq320_1 | qq320_2 | qq320_3 | qq320_4 | qq320_5 | qq320_6 | qq320_7
          · obtain ⟨rfl, rfl, f321⟩ := qq320_0
            exact False.elim (own_noT f321 f146 f147)
          · obtain ⟨rfl, rfl, f322, f323, f324⟩ := qq320_1
            exact False.elim (own_noT f324 f221 f222)
          · obtain ⟨rfl, rfl, f325, f326, f327, f328, f329⟩ := qq320_2
            exact False.elim (own_noO f329 f295 f296)
          · obtain ⟨rfl, rfl, f330, f331, f332, f333, f334, f335, f336⟩ := qq320_3
            have K337 := K314.to 21 437 [a69, a61, a13, a2, ch]
            refine Owe.stk [.null] ?_
            refine oAstore K337 355 (hb hby at_353) rfl (l' := #[.val (.int p0), .val (.int p1), .val (.int p2), .val (.int p3), .val (.int p4), .val (.int p5), .val (.int 4), .val (.int f), .val (.int c0), .val (.int c1), .val (.int c2), .val (.int c3), .val (.ref ch), .val (.ref a2), .val (.ref a61), .val (.ref a69), .val (.int (-1)), .val .null, .unset]) rfl ?_
            refine oIload K337 357 (hb hby at_355) rfl ?_
            refine oIfNo K337 360 (hb hby at_357) (XT.i0_ge_f (by decide)) ?_
            refine oAload K337 362 (hb hby at_360) rfl rfl ?_
            refine oIfnonnullNo K337 365 (hb hby at_362) ?_
            refine oIconstV K337 366 (1 : Int32) (hb hby at_365) rfl ?_
            refine oGoto K337 370 (hb hby at_366) ?_
            exact oRetI K337 [] (t := .boolean) hret (by simp) (by decide) (hb hby at_370) (by decide) (by decide) hlk (fun x hx => by cases hx) ⟨rfl, rfl⟩
          · obtain ⟨r338, rfl, rfl, f339, f340, f341, f342, f343, f344, f345, f346, f347⟩ := qq320_4
            exact False.elim (own_noO f310 f346 f347)
          · obtain ⟨r348, rfl, rfl, f349, f350, f351, f352, f353, f354⟩ := qq320_5
            exact absurd f352 f221
          · obtain ⟨rfl, rfl, f355, f356, f357, f358⟩ := qq320_6
            exact absurd f355 f146
          · obtain ⟨r359, rfl, rfl, f360, f361, f362, f363, f364, f365⟩ := qq320_7
            exact absurd f361 f146
        · obtain ⟨rfl, rfl, f366, f367, f368, f369, f370, f371⟩ := qq307_1
          have K372 := K301.to 15 397 [a69, a61, a13, a2, ch]
          refine Owe.stk [(.int 4)] ?_
          refine oIstore K372 346 (hb hby at_344) (l' := #[.val (.int p0), .val (.int p1), .val (.int p2), .val (.int p3), .val (.int p4), .val (.int p5), .val (.int 4), .val (.int f), .val (.int c0), .val (.int c1), .val (.int c2), .val (.int c3), .val (.ref ch), .val (.ref a2), .val (.ref a61), .val (.ref a69), .val (.int 4), .unset, .unset]) rfl ?_
          refine oAload K372 348 (hb hby at_346) rfl rfl ?_
          refine oIload K372 350 (hb hby at_348) rfl ?_
          have F373 := ((((((f58.ext E63).ext E71).keep Kp84 (geS (Nat.le_trans f58.bd (Nat.le_of_eq g62)) (geS (Nat.le_trans (f58.ext E63).bd (Nat.le_of_eq g70)) geN))).keep Kp159 (geS (Nat.le_trans f58.bd (Nat.le_of_eq g62)) (geS (Nat.le_trans (f58.ext E63).bd (Nat.le_of_eq g70)) geN))).keep Kp233 (geS (Nat.le_trans f58.bd (Nat.le_of_eq g62)) (geS (Nat.le_trans (f58.ext E63).bd (Nat.le_of_eq g70)) geN))).keep Kp306 (geS (Nat.le_trans f58.bd (Nat.le_of_eq g62)) (geS (Nat.le_trans (f58.ext E63).bd (Nat.le_of_eq g70)) geN)))
          refine oStatic K372 353 0 (wq hw 52) (wq hw 53) (wq hw 54) (wq hw 55) (rmDB4 l Z a0 z0 fm G a2 (h52.size) f c0 c1 c2 c3 h302 K372.old K372.both F373 P1 P2 P3 P4 P5 P6 P7 P8) [(.ref a2), (.int f)] [] (lenOf pd685 rfl) (hb hby at_350) ?_
          intro T374 h376 v377 lo378 fs379 K375 Kp380 q381
          rcases q381 with qq381_0 | qq381_1 | qq381_2 | qq381_3 | qq381_4 | qq381_5 | qq381_6 | qq381_7
          · obtain ⟨rfl, rfl, f382⟩ := qq381_0
            exact False.elim (own_noT f382 f146 f147)
          · obtain ⟨rfl, rfl, f383, f384, f385⟩ := qq381_1
            exact False.elim (own_noT f385 f221 f222)
          · obtain ⟨rfl, rfl, f386, f387, f388, f389, f390⟩ := qq381_2
            exact False.elim (own_noO f390 f295 f296)
          · obtain ⟨rfl, rfl, f391, f392, f393, f394, f395, f396, f397⟩ := qq381_3
            exact False.elim (own_noO f397 f368 f369)
          · obtain ⟨r398, rfl, rfl, f399, f400, f401, f402, f403, f404, f405, f406, f407⟩ := qq381_4
            have K408 := K375.to 21 437 [a69, a61, a13, a2, ch]
            refine Owe.stk [(.ref r398)] ?_
            refine oAstore K408 355 (hb hby at_353) rfl (l' := #[.val (.int p0), .val (.int p1), .val (.int p2), .val (.int p3), .val (.int p4), .val (.int p5), .val (.int 4), .val (.int f), .val (.int c0), .val (.int c1), .val (.int c2), .val (.int c3), .val (.ref ch), .val (.ref a2), .val (.ref a61), .val (.ref a69), .val (.int 4), .val (.ref r398), .unset]) rfl ?_
            refine oIload K408 357 (hb hby at_355) rfl ?_
            refine oIfYes K408 371 (hb hby at_357) (XT.i0_ge_t (by decide)) ?_
            refine oAload K408 373 (hb hby at_371) rfl rfl ?_
            refine oIfnullNo K408 376 (hb hby at_373) ?_
            refine oAload K408 378 (hb hby at_376) rfl rfl ?_
            refine oLen K408 379 f399 (n := (4 : Int32)) (by first | rfl | decide) (hb hby at_378) ?_
            refine oAload K408 381 (hb hby at_379) rfl rfl ?_
            refine oIconstV K408 382 (0 : Int32) (hb hby at_381) rfl ?_
            refine oIaload K408 383 (f367.keep Kp380 nin0) 0 (by decide) (by decide) rfl (hb hby at_382) ?_
            refine oIcmpYes K408 388 (hb hby at_383) (XT.ii_eq_t (by decide)) ?_
            refine oAload K408 390 (hb hby at_388) rfl rfl ?_
            refine oIconstV K408 391 (0 : Int32) (hb hby at_390) rfl ?_
            refine oIaload K408 392 (f367.keep Kp380 nin0) 0 (by decide) (by decide) rfl (hb hby at_391) ?_
            refine oIstore K408 394 (hb hby at_392) (l' := #[.val (.int p0), .val (.int p1), .val (.int p2), .val (.int p3), .val (.int p4), .val (.int p5), .val (.int 4), .val (.int f), .val (.int c0), .val (.int c1), .val (.int c2), .val (.int c3), .val (.ref ch), .val (.ref a2), .val (.ref a61), .val (.ref a69), .val (.int 4), .val (.ref r398), .val (.int 4)]) rfl ?_
            refine oAload K408 396 (hb hby at_394) rfl rfl ?_
            refine oAload K408 398 (hb hby at_396) rfl rfl ?_
            refine oIload K408 400 (hb hby at_398) rfl ?_
            refine oIconstV K408 401 (0 : Int32) (hb hby at_400) rfl ?_
            refine oStatic K408 404 0 (wq hw 79) (wq hw 80) (wq hw 3) (wq hw 81) (rmAt4_0 l Z a0 z0 fm G r398 a61 ((one f c0)) ((byt (one f c1))) ((byt (one f c2))) ((byt (one f c3))) ((one f c1)) ((one f c2)) ((one f c3)) h376 K408.old K408.both f399 (f366.keep Kp380 nin0) f148 f149) [(.ref r398), (.ref a61), (.int 4), (.int 0)] [] (lenOf pd686 rfl) (hb hby at_401) ?_
            intro T409 h411 v412 lo413 fs414 K410 Kp415 q416
            obtain ⟨rfl, rfl⟩ := q416
            have K417 := K410.to 21 437 [a69, a61, a13, a2, ch]
            refine Owe.stk [(.int 1)] ?_
            refine oIfNo K417 407 (hb hby at_404) (XT.i0_eq_f (by decide)) ?_
            refine oAload K417 409 (hb hby at_407) rfl rfl ?_
            refine oAload K417 411 (hb hby at_409) rfl rfl ?_
            refine oIload K417 413 (hb hby at_411) rfl ?_
            refine oIconstV K417 414 (1 : Int32) (hb hby at_413) rfl ?_
            refine oStatic K417 417 0 (wq hw 79) (wq hw 80) (wq hw 3) (wq hw 81) (rmAt4_1 l Z a0 z0 fm G r398 a61 ((one f c1)) ((byt (one f c0))) ((byt (one f c2))) ((byt (one f c3))) ((one f c0)) ((one f c2)) ((one f c3)) h411 K417.old K417.both (f399.keep Kp415 nin0) ((f366.keep Kp380 nin0).keep Kp415 nin0) f223 f224) [(.ref r398), (.ref a61), (.int 4), (.int 1)] [] (lenOf pd686 rfl) (hb hby at_414) ?_
            intro T418 h420 v421 lo422 fs423 K419 Kp424 q425
            obtain ⟨rfl, rfl⟩ := q425
            have K426 := K419.to 21 437 [a69, a61, a13, a2, ch]
            refine Owe.stk [(.int 1)] ?_
            refine oIfNo K426 420 (hb hby at_417) (XT.i0_eq_f (by decide)) ?_
            refine oAload K426 422 (hb hby at_420) rfl rfl ?_
            refine oAload K426 424 (hb hby at_422) rfl rfl ?_
            refine oIload K426 426 (hb hby at_424) rfl ?_
            refine oIconstV K426 427 (2 : Int32) (hb hby at_426) rfl ?_
            have F427 := (((f366.keep Kp380 nin0).keep Kp415 nin0).keep Kp424 nin0)
            refine oStatic K426 430 0 (wq hw 79) (wq hw 80) (wq hw 3) (wq hw 81) (rmAt4_2 l Z a0 z0 fm G r398 a61 ((one f c2)) ((byt (one f c0))) ((byt (one f c1))) ((byt (one f c3))) ((one f c0)) ((one f c1)) ((one f c3)) h420 K426.old K426.both ((f399.keep Kp415 nin0).keep Kp424 nin0) F427 f297 f298) [(.ref r398), (.ref a61), (.int 4), (.int 2)] [] (lenOf pd686 rfl) (hb hby at_427) ?_
            intro T428 h430 v431 lo432 fs433 K429 Kp434 q435
            obtain ⟨rfl, rfl⟩ := q435
            have K436 := K429.to 21 437 [a69, a61, a13, a2, ch]
            refine Owe.stk [(.int 1)] ?_
            refine oIfNo K436 433 (hb hby at_430) (XT.i0_eq_f (by decide)) ?_
            refine oAload K436 435 (hb hby at_433) rfl rfl ?_
            refine oAload K436 437 (hb hby at_435) rfl rfl ?_
            refine oIload K436 439 (hb hby at_437) rfl ?_
            refine oIconstV K436 440 (3 : Int32) (hb hby at_439) rfl ?_
            have F437 := (((f399.keep Kp415 nin0).keep Kp424 nin0).keep Kp434 nin0)
            refine oStatic K436 443 0 (wq hw 79) (wq hw 80) (wq hw 3) (wq hw 81) (rmAt4_3 l Z a0 z0 fm G r398 a61 ((one f c3)) ((byt (one f c0))) ((byt (one f c1))) ((byt (one f c2))) ((one f c0)) ((one f c1)) ((one f c2)) h430 K436.old K436.both F437 (F427.keep Kp434 nin0) f370 f371) [(.ref r398), (.ref a61), (.int 4), (.int 3)] [] (lenOf pd686 rfl) (hb hby at_440) ?_
            intro T438 h440 v441 lo442 fs443 K439 Kp444 q445
            obtain ⟨rfl, rfl⟩ := q445
            have K446 := K439.to 21 437 [a69, a61, a13, a2, ch]
            refine Owe.stk [(.int 1)] ?_
            refine oIfNo K446 446 (hb hby at_443) (XT.i0_eq_f (by decide)) ?_
            refine oIconstV K446 447 (1 : Int32) (hb hby at_446) rfl ?_
            refine oGoto K446 451 (hb hby at_447) ?_
            exact oRetI K446 [] (t := .boolean) hret (by simp) (by decide) (hb hby at_451) (by decide) (by decide) hlk (fun x hx => by cases hx) ⟨rfl, rfl⟩
          · obtain ⟨r447, rfl, rfl, f448, f449, f450, f451, f452, f453⟩ := qq381_5
            exact absurd f451 f221
          · obtain ⟨rfl, rfl, f454, f455, f456, f457⟩ := qq381_6
            exact absurd f454 f146
          · obtain ⟨r458, rfl, rfl, f459, f460, f461, f462, f463, f464⟩ := qq381_7
            exact absurd f460 f146
    · obtain ⟨rfl, rfl, f465, f466, f467, f468, f469, f470, f471⟩ := qq160_2
      have K472 := K154.to 15 397 [a69, a61, a13, a2, ch]
      refine Owe.stk [(.int 4)] ?_
      refine oIstore K472 288 (hb hby at_286) (l' := #[.val (.int p0), .val (.int p1), .val (.int p2), .val (.int p3), .val (.int p4), .val (.int p5), .val (.int 4), .val (.int f), .val (.int c0), .val (.int c1), .val (.int c2), .val (.int c3), .val (.ref ch), .val (.ref a2), .val (.ref a61), .val (.ref a69), .val (.int 4), .unset, .unset]) rfl ?_
      refine oIload K472 290 (hb hby at_288) rfl ?_
      refine oIfNo K472 293 (hb hby at_290) (XT.i0_lt_f (by decide)) ?_
      refine oIload K472 295 (hb hby at_293) rfl ?_
      refine oIload K472 297 (hb hby at_295) rfl ?_
      refine oIcmpYes K472 317 (hb hby at_297) (XT.ii_ge_t (by decide)) ?_
      refine oIload K472 319 (hb hby at_317) rfl ?_
      refine oIfNo K472 322 (hb hby at_319) (XT.i0_lt_f (by decide)) ?_
      refine oIload K472 324 (hb hby at_322) rfl ?_
      refine oIload K472 326 (hb hby at_324) rfl ?_
      refine oIcmpYes K472 346 (hb hby at_326) (XT.ii_ge_t (by decide)) ?_
      refine oAload K472 348 (hb hby at_346) rfl rfl ?_
      refine oIload K472 350 (hb hby at_348) rfl ?_
      have F473 := ((((f58.ext E63).ext E71).keep Kp84 (geS (Nat.le_trans f58.bd (Nat.le_of_eq g62)) (geS (Nat.le_trans (f58.ext E63).bd (Nat.le_of_eq g70)) geN))).keep Kp159 (geS (Nat.le_trans f58.bd (Nat.le_of_eq g62)) (geS (Nat.le_trans (f58.ext E63).bd (Nat.le_of_eq g70)) geN)))
      refine oStatic K472 353 0 (wq hw 52) (wq hw 53) (wq hw 54) (wq hw 55) (rmDB4 l Z a0 z0 fm G a2 (h52.size) f c0 c1 c2 c3 h155 K472.old K472.both F473 P1 P2 P3 P4 P5 P6 P7 P8) [(.ref a2), (.int f)] [] (lenOf pd685 rfl) (hb hby at_350) ?_
      intro T474 h476 v477 lo478 fs479 K475 Kp480 q481
      rcases q481 with qq481_0 | qq481_1 | qq481_2 | qq481_3 | qq481_4 | qq481_5 | qq481_6 | qq481_7
      · obtain ⟨rfl, rfl, f482⟩ := qq481_0
        exact False.elim (own_noT f482 f146 f147)
      · obtain ⟨rfl, rfl, f483, f484, f485⟩ := qq481_1
        exact False.elim (absurd (own_ftl f485 f467 f468) f469)
      · obtain ⟨rfl, rfl, f486, f487, f488, f489, f490⟩ := qq481_2
        exact absurd f467 f488
      · obtain ⟨rfl, rfl, f491, f492, f493, f494, f495, f496, f497⟩ := qq481_3
        exact absurd f467 f493
      · obtain ⟨r498, rfl, rfl, f499, f500, f501, f502, f503, f504, f505, f506, f507⟩ := qq481_4
        exact absurd f467 f502
      · obtain ⟨r508, rfl, rfl, f509, f510, f511, f512, f513, f514⟩ := qq481_5
        have K515 := K475.to 21 437 [a69, a61, a13, a2, ch]
        refine Owe.stk [(.ref r508)] ?_
        refine oAstore K515 355 (hb hby at_353) rfl (l' := #[.val (.int p0), .val (.int p1), .val (.int p2), .val (.int p3), .val (.int p4), .val (.int p5), .val (.int 4), .val (.int f), .val (.int c0), .val (.int c1), .val (.int c2), .val (.int c3), .val (.ref ch), .val (.ref a2), .val (.ref a61), .val (.ref a69), .val (.int 4), .val (.ref r508), .unset]) rfl ?_
        refine oIload K515 357 (hb hby at_355) rfl ?_
        refine oIfYes K515 371 (hb hby at_357) (XT.i0_ge_t (by decide)) ?_
        refine oAload K515 373 (hb hby at_371) rfl rfl ?_
        refine oIfnullNo K515 376 (hb hby at_373) ?_
        refine oAload K515 378 (hb hby at_376) rfl rfl ?_
        refine oLen K515 379 f509 (n := (2 : Int32)) (by first | rfl | decide) (hb hby at_378) ?_
        refine oAload K515 381 (hb hby at_379) rfl rfl ?_
        refine oIconstV K515 382 (0 : Int32) (hb hby at_381) rfl ?_
        refine oIaload K515 383 (f466.keep Kp480 nin0) 0 (by decide) (by decide) rfl (hb hby at_382) ?_
        refine oIcmpYes K515 388 (hb hby at_383) (XT.ii_eq_t (by decide)) ?_
        refine oAload K515 390 (hb hby at_388) rfl rfl ?_
        refine oIconstV K515 391 (0 : Int32) (hb hby at_390) rfl ?_
        refine oIaload K515 392 (f466.keep Kp480 nin0) 0 (by decide) (by decide) rfl (hb hby at_391) ?_
        refine oIstore K515 394 (hb hby at_392) (l' := #[.val (.int p0), .val (.int p1), .val (.int p2), .val (.int p3), .val (.int p4), .val (.int p5), .val (.int 4), .val (.int f), .val (.int c0), .val (.int c1), .val (.int c2), .val (.int c3), .val (.ref ch), .val (.ref a2), .val (.ref a61), .val (.ref a69), .val (.int 4), .val (.ref r508), .val (.int 2)]) rfl ?_
        refine oAload K515 396 (hb hby at_394) rfl rfl ?_
        refine oAload K515 398 (hb hby at_396) rfl rfl ?_
        refine oIload K515 400 (hb hby at_398) rfl ?_
        refine oIconstV K515 401 (0 : Int32) (hb hby at_400) rfl ?_
        refine oStatic K515 404 0 (wq hw 79) (wq hw 80) (wq hw 3) (wq hw 81) (rmAt2_0 l Z a0 z0 fm G r508 a61 ((one f c0)) ((byt (tri c2 c3))) ((tri c2 c3)) ((0 : Int32)) ((0 : Int32)) h476 K515.old K515.both f509 (f465.keep Kp480 nin0) f148 f149) [(.ref r508), (.ref a61), (.int 2), (.int 0)] [] (lenOf pd686 rfl) (hb hby at_401) ?_
        intro T516 h518 v519 lo520 fs521 K517 Kp522 q523
        obtain ⟨rfl, rfl⟩ := q523
        have K524 := K517.to 21 437 [a69, a61, a13, a2, ch]
        refine Owe.stk [(.int 1)] ?_
        refine oIfNo K524 407 (hb hby at_404) (XT.i0_eq_f (by decide)) ?_
        refine oAload K524 409 (hb hby at_407) rfl rfl ?_
        refine oAload K524 411 (hb hby at_409) rfl rfl ?_
        refine oIload K524 413 (hb hby at_411) rfl ?_
        refine oIconstV K524 414 (1 : Int32) (hb hby at_413) rfl ?_
        refine oStatic K524 417 0 (wq hw 79) (wq hw 80) (wq hw 3) (wq hw 81) (rmAt2_1 l Z a0 z0 fm G r508 a61 ((tri c2 c3)) ((byt (one f c0))) ((one f c0)) ((0 : Int32)) ((0 : Int32)) h518 K524.old K524.both (f509.keep Kp522 nin0) ((f465.keep Kp480 nin0).keep Kp522 nin0) f470 f471) [(.ref r508), (.ref a61), (.int 2), (.int 1)] [] (lenOf pd686 rfl) (hb hby at_414) ?_
        intro T525 h527 v528 lo529 fs530 K526 Kp531 q532
        obtain ⟨rfl, rfl⟩ := q532
        have K533 := K526.to 21 437 [a69, a61, a13, a2, ch]
        refine Owe.stk [(.int 1)] ?_
        refine oIfNo K533 420 (hb hby at_417) (XT.i0_eq_f (by decide)) ?_
        refine oAload K533 422 (hb hby at_420) rfl rfl ?_
        refine oAload K533 424 (hb hby at_422) rfl rfl ?_
        refine oIload K533 426 (hb hby at_424) rfl ?_
        refine oIconstV K533 427 (2 : Int32) (hb hby at_426) rfl ?_
        refine oStatic K533 430 0 (wq hw 79) (wq hw 80) (wq hw 3) (wq hw 81) (rmAt2_2 l Z a0 z0 fm G r508 a61 h527 K533.old K533.both ) [(.ref r508), (.ref a61), (.int 2), (.int 2)] [] (lenOf pd686 rfl) (hb hby at_427) ?_
        intro T534 h536 v537 lo538 fs539 K535 Kp540 q541
        obtain ⟨rfl, rfl⟩ := q541
        have K542 := K535.to 21 437 [a69, a61, a13, a2, ch]
        refine Owe.stk [(.int 1)] ?_
        refine oIfNo K542 433 (hb hby at_430) (XT.i0_eq_f (by decide)) ?_
        refine oAload K542 435 (hb hby at_433) rfl rfl ?_
        refine oAload K542 437 (hb hby at_435) rfl rfl ?_
        refine oIload K542 439 (hb hby at_437) rfl ?_
        refine oIconstV K542 440 (3 : Int32) (hb hby at_439) rfl ?_
        refine oStatic K542 443 0 (wq hw 79) (wq hw 80) (wq hw 3) (wq hw 81) (rmAt2_3 l Z a0 z0 fm G r508 a61 h536 K542.old K542.both ) [(.ref r508), (.ref a61), (.int 2), (.int 3)] [] (lenOf pd686 rfl) (hb hby at_440) ?_
        intro T543 h545 v546 lo547 fs548 K544 Kp549 q550
        obtain ⟨rfl, rfl⟩ := q550
        have K551 := K544.to 21 437 [a69, a61, a13, a2, ch]
        refine Owe.stk [(.int 1)] ?_
        refine oIfNo K551 446 (hb hby at_443) (XT.i0_eq_f (by decide)) ?_
        refine oIconstV K551 447 (1 : Int32) (hb hby at_446) rfl ?_
        refine oGoto K551 451 (hb hby at_447) ?_
        exact oRetI K551 [] (t := .boolean) hret (by simp) (by decide) (hb hby at_451) (by decide) (by decide) hlk (fun x hx => by cases hx) ⟨rfl, rfl⟩
      · obtain ⟨rfl, rfl, f552, f553, f554, f555⟩ := qq481_6
        exact absurd f552 f146
      · obtain ⟨r556, rfl, rfl, f557, f558, f559, f560, f561, f562⟩ := qq481_7
        exact absurd f558 f146
  · obtain ⟨rfl, rfl, f563, f564, f565, f566, f567, f568, f569⟩ := qq85_2
    have K570 := K79.to 15 397 [a69, a61, a13, a2, ch]
    refine Owe.stk [(.int 3)] ?_
    refine oIstore K570 259 (hb hby at_257) (l' := #[.val (.int p0), .val (.int p1), .val (.int p2), .val (.int p3), .val (.int p4), .val (.int p5), .val (.int 4), .val (.int f), .val (.int c0), .val (.int c1), .val (.int c2), .val (.int c3), .val (.ref ch), .val (.ref a2), .val (.ref a61), .val (.ref a69), .val (.int 3), .unset, .unset]) rfl ?_
    refine oIload K570 261 (hb hby at_259) rfl ?_
    refine oIfNo K570 264 (hb hby at_261) (XT.i0_lt_f (by decide)) ?_
    refine oIload K570 266 (hb hby at_264) rfl ?_
    refine oIload K570 268 (hb hby at_266) rfl ?_
    refine oIcmpNo K570 271 (hb hby at_268) (XT.ii_ge_f (by decide)) ?_
    refine oAload K570 273 (hb hby at_271) rfl rfl ?_
    refine oIload K570 275 (hb hby at_273) rfl ?_
    refine oIload K570 277 (hb hby at_275) rfl ?_
    refine oIload K570 279 (hb hby at_277) rfl ?_
    refine oAload K570 281 (hb hby at_279) rfl rfl ?_
    refine oAload K570 283 (hb hby at_281) rfl rfl ?_
    have n571 := (Nat.ne_of_lt (Nat.lt_of_lt_of_le (Nat.lt_of_lt_of_le P0.lt (Nat.le_trans E4.1 (Nat.le_trans E15.1 (Nat.le_trans (Nat.le_of_eq W21.size.symm) (Nat.le_trans (Nat.le_of_eq W28.size.symm) (Nat.le_trans (Nat.le_of_eq W35.size.symm) (Nat.le_trans (Nat.le_of_eq W42.size.symm) (Nat.le_trans Kp56.1 E63.1)))))))) (Nat.le_of_eq g70)))
    have n572 := (Nat.ne_of_lt (Nat.lt_of_lt_of_le (Nat.lt_of_lt_of_le P0.lt (Nat.le_trans E4.1 (Nat.le_trans E15.1 (Nat.le_trans (Nat.le_of_eq W21.size.symm) (Nat.le_trans (Nat.le_of_eq W28.size.symm) (Nat.le_trans (Nat.le_of_eq W35.size.symm) (Nat.le_trans (Nat.le_of_eq W42.size.symm) Kp56.1))))))) (Nat.le_of_eq g62)))
    refine oStatic K570 286 0 (wq hw 93) (wq hw 94) (wq hw 3) (wq hw 95) (rmStep4_3_1 l Z a0 z0 fm G ch a61 a69 f c0 c1 c2 c3 ((tri c1 c2)) ((0 : Int32)) ((0 : Int32)) ((0 : Int32)) h80 K570.old K570.both (F77.keep Kp84 (ninS n572 (ninS n571 nin0))) f563 f564 (Nat.ne_of_lt (Nat.lt_of_lt_of_le A64.lt (Nat.le_of_eq g70))) P1 P2 P3 P4 P5 P6 P7 P8) [(.ref ch), (.int 4), (.int 3), (.int f), (.ref a61), (.ref a69)] [] (lenOf pd687 rfl) (hb hby at_283) ?_
    intro T573 h575 v576 lo577 fs578 K574 Kp579 q580
    rcases q580 with qq580_0 | qq580_1
    · obtain ⟨rfl, rfl, f581, f582, f583⟩ := qq580_0
      have K584 := K574.to 15 397 [a69, a61, a13, a2, ch]
      refine Owe.stk [(.int (-1))] ?_
      refine oIstore K584 288 (hb hby at_286) (l' := #[.val (.int p0), .val (.int p1), .val (.int p2), .val (.int p3), .val (.int p4), .val (.int p5), .val (.int 4), .val (.int f), .val (.int c0), .val (.int c1), .val (.int c2), .val (.int c3), .val (.ref ch), .val (.ref a2), .val (.ref a61), .val (.ref a69), .val (.int (-1)), .unset, .unset]) rfl ?_
      refine oIload K584 290 (hb hby at_288) rfl ?_
      refine oIfYes K584 317 (hb hby at_290) (XT.i0_lt_t (by decide)) ?_
      refine oIload K584 319 (hb hby at_317) rfl ?_
      refine oIfYes K584 346 (hb hby at_319) (XT.i0_lt_t (by decide)) ?_
      refine oAload K584 348 (hb hby at_346) rfl rfl ?_
      refine oIload K584 350 (hb hby at_348) rfl ?_
      have F585 := ((((f58.ext E63).ext E71).keep Kp84 (geS (Nat.le_trans f58.bd (Nat.le_of_eq g62)) (geS (Nat.le_trans (f58.ext E63).bd (Nat.le_of_eq g70)) geN))).keep Kp579 (geS (Nat.le_trans f58.bd (Nat.le_of_eq g62)) (geS (Nat.le_trans (f58.ext E63).bd (Nat.le_of_eq g70)) geN)))
      refine oStatic K584 353 0 (wq hw 52) (wq hw 53) (wq hw 54) (wq hw 55) (rmDB4 l Z a0 z0 fm G a2 (h52.size) f c0 c1 c2 c3 h575 K584.old K584.both F585 P1 P2 P3 P4 P5 P6 P7 P8) [(.ref a2), (.int f)] [] (lenOf pd685 rfl) (hb hby at_350) ?_
      intro T586 h588 v589 lo590 fs591 K587 Kp592 q593
      rcases q593 with qq593_0 | qq593_1 | qq593_2 | qq593_3 | qq593_4 | qq593_5 | qq593_6 | qq593_7
      · obtain ⟨rfl, rfl, f594⟩ := qq593_0
        exact False.elim (absurd (own_ftl f594 f565 f566) f567)
      · obtain ⟨rfl, rfl, f595, f596, f597⟩ := qq593_1
        exact absurd f565 f595
      · obtain ⟨rfl, rfl, f598, f599, f600, f601, f602⟩ := qq593_2
        exact absurd f565 f598
      · obtain ⟨rfl, rfl, f603, f604, f605, f606, f607, f608, f609⟩ := qq593_3
        exact absurd f565 f603
      · obtain ⟨r610, rfl, rfl, f611, f612, f613, f614, f615, f616, f617, f618, f619⟩ := qq593_4
        exact absurd f565 f612
      · obtain ⟨r620, rfl, rfl, f621, f622, f623, f624, f625, f626⟩ := qq593_5
        exact absurd f565 f622
      · obtain ⟨rfl, rfl, f627, f628, f629, f630⟩ := qq593_6
        have K631 := K587.to 21 437 [a69, a61, a13, a2, ch]
        refine Owe.stk [.null] ?_
        refine oAstore K631 355 (hb hby at_353) rfl (l' := #[.val (.int p0), .val (.int p1), .val (.int p2), .val (.int p3), .val (.int p4), .val (.int p5), .val (.int 4), .val (.int f), .val (.int c0), .val (.int c1), .val (.int c2), .val (.int c3), .val (.ref ch), .val (.ref a2), .val (.ref a61), .val (.ref a69), .val (.int (-1)), .val .null, .unset]) rfl ?_
        refine oIload K631 357 (hb hby at_355) rfl ?_
        refine oIfNo K631 360 (hb hby at_357) (XT.i0_ge_f (by decide)) ?_
        refine oAload K631 362 (hb hby at_360) rfl rfl ?_
        refine oIfnonnullNo K631 365 (hb hby at_362) ?_
        refine oIconstV K631 366 (1 : Int32) (hb hby at_365) rfl ?_
        refine oGoto K631 370 (hb hby at_366) ?_
        exact oRetI K631 [] (t := .boolean) hret (by simp) (by decide) (hb hby at_370) (by decide) (by decide) hlk (fun x hx => by cases hx) ⟨rfl, rfl⟩
      · obtain ⟨r632, rfl, rfl, f633, f634, f635, f636, f637, f638⟩ := qq593_7
        exact False.elim (own_noO f583 f637 f638)
    · obtain ⟨rfl, rfl, f639, f640, f641, f642, f643, f644⟩ := qq580_1
      have K645 := K574.to 15 397 [a69, a61, a13, a2, ch]
      refine Owe.stk [(.int 4)] ?_
      refine oIstore K645 288 (hb hby at_286) (l' := #[.val (.int p0), .val (.int p1), .val (.int p2), .val (.int p3), .val (.int p4), .val (.int p5), .val (.int 4), .val (.int f), .val (.int c0), .val (.int c1), .val (.int c2), .val (.int c3), .val (.ref ch), .val (.ref a2), .val (.ref a61), .val (.ref a69), .val (.int 4), .unset, .unset]) rfl ?_
      refine oIload K645 290 (hb hby at_288) rfl ?_
      refine oIfNo K645 293 (hb hby at_290) (XT.i0_lt_f (by decide)) ?_
      refine oIload K645 295 (hb hby at_293) rfl ?_
      refine oIload K645 297 (hb hby at_295) rfl ?_
      refine oIcmpYes K645 317 (hb hby at_297) (XT.ii_ge_t (by decide)) ?_
      refine oIload K645 319 (hb hby at_317) rfl ?_
      refine oIfNo K645 322 (hb hby at_319) (XT.i0_lt_f (by decide)) ?_
      refine oIload K645 324 (hb hby at_322) rfl ?_
      refine oIload K645 326 (hb hby at_324) rfl ?_
      refine oIcmpYes K645 346 (hb hby at_326) (XT.ii_ge_t (by decide)) ?_
      refine oAload K645 348 (hb hby at_346) rfl rfl ?_
      refine oIload K645 350 (hb hby at_348) rfl ?_
      have F646 := ((((f58.ext E63).ext E71).keep Kp84 (geS (Nat.le_trans f58.bd (Nat.le_of_eq g62)) (geS (Nat.le_trans (f58.ext E63).bd (Nat.le_of_eq g70)) geN))).keep Kp579 (geS (Nat.le_trans f58.bd (Nat.le_of_eq g62)) (geS (Nat.le_trans (f58.ext E63).bd (Nat.le_of_eq g70)) geN)))
      refine oStatic K645 353 0 (wq hw 52) (wq hw 53) (wq hw 54) (wq hw 55) (rmDB4 l Z a0 z0 fm G a2 (h52.size) f c0 c1 c2 c3 h575 K645.old K645.both F646 P1 P2 P3 P4 P5 P6 P7 P8) [(.ref a2), (.int f)] [] (lenOf pd685 rfl) (hb hby at_350) ?_
      intro T647 h649 v650 lo651 fs652 K648 Kp653 q654
      rcases q654 with qq654_0 | qq654_1 | qq654_2 | qq654_3 | qq654_4 | qq654_5 | qq654_6 | qq654_7
      · obtain ⟨rfl, rfl, f655⟩ := qq654_0
        exact False.elim (absurd (own_ftl f655 f565 f566) f567)
      · obtain ⟨rfl, rfl, f656, f657, f658⟩ := qq654_1
        exact absurd f565 f656
      · obtain ⟨rfl, rfl, f659, f660, f661, f662, f663⟩ := qq654_2
        exact absurd f565 f659
      · obtain ⟨rfl, rfl, f664, f665, f666, f667, f668, f669, f670⟩ := qq654_3
        exact absurd f565 f664
      · obtain ⟨r671, rfl, rfl, f672, f673, f674, f675, f676, f677, f678, f679, f680⟩ := qq654_4
        exact absurd f565 f673
      · obtain ⟨r681, rfl, rfl, f682, f683, f684, f685, f686, f687⟩ := qq654_5
        exact absurd f565 f683
      · obtain ⟨rfl, rfl, f688, f689, f690, f691⟩ := qq654_6
        exact False.elim (own_noO f691 f641 f642)
      · obtain ⟨r692, rfl, rfl, f693, f694, f695, f696, f697, f698⟩ := qq654_7
        have K699 := K648.to 21 437 [a69, a61, a13, a2, ch]
        refine Owe.stk [(.ref r692)] ?_
        refine oAstore K699 355 (hb hby at_353) rfl (l' := #[.val (.int p0), .val (.int p1), .val (.int p2), .val (.int p3), .val (.int p4), .val (.int p5), .val (.int 4), .val (.int f), .val (.int c0), .val (.int c1), .val (.int c2), .val (.int c3), .val (.ref ch), .val (.ref a2), .val (.ref a61), .val (.ref a69), .val (.int 4), .val (.ref r692), .unset]) rfl ?_
        refine oIload K699 357 (hb hby at_355) rfl ?_
        refine oIfYes K699 371 (hb hby at_357) (XT.i0_ge_t (by decide)) ?_
        refine oAload K699 373 (hb hby at_371) rfl rfl ?_
        refine oIfnullNo K699 376 (hb hby at_373) ?_
        refine oAload K699 378 (hb hby at_376) rfl rfl ?_
        refine oLen K699 379 f693 (n := (2 : Int32)) (by first | rfl | decide) (hb hby at_378) ?_
        refine oAload K699 381 (hb hby at_379) rfl rfl ?_
        refine oIconstV K699 382 (0 : Int32) (hb hby at_381) rfl ?_
        refine oIaload K699 383 (f640.keep Kp653 nin0) 0 (by decide) (by decide) rfl (hb hby at_382) ?_
        refine oIcmpYes K699 388 (hb hby at_383) (XT.ii_eq_t (by decide)) ?_
        refine oAload K699 390 (hb hby at_388) rfl rfl ?_
        refine oIconstV K699 391 (0 : Int32) (hb hby at_390) rfl ?_
        refine oIaload K699 392 (f640.keep Kp653 nin0) 0 (by decide) (by decide) rfl (hb hby at_391) ?_
        refine oIstore K699 394 (hb hby at_392) (l' := #[.val (.int p0), .val (.int p1), .val (.int p2), .val (.int p3), .val (.int p4), .val (.int p5), .val (.int 4), .val (.int f), .val (.int c0), .val (.int c1), .val (.int c2), .val (.int c3), .val (.ref ch), .val (.ref a2), .val (.ref a61), .val (.ref a69), .val (.int 4), .val (.ref r692), .val (.int 2)]) rfl ?_
        refine oAload K699 396 (hb hby at_394) rfl rfl ?_
        refine oAload K699 398 (hb hby at_396) rfl rfl ?_
        refine oIload K699 400 (hb hby at_398) rfl ?_
        refine oIconstV K699 401 (0 : Int32) (hb hby at_400) rfl ?_
        refine oStatic K699 404 0 (wq hw 79) (wq hw 80) (wq hw 3) (wq hw 81) (rmAt2_0 l Z a0 z0 fm G r692 a61 ((tri c1 c2)) ((byt (one f c3))) ((one f c3)) ((0 : Int32)) ((0 : Int32)) h649 K699.old K699.both f693 (f639.keep Kp653 nin0) f568 f569) [(.ref r692), (.ref a61), (.int 2), (.int 0)] [] (lenOf pd686 rfl) (hb hby at_401) ?_
        intro T700 h702 v703 lo704 fs705 K701 Kp706 q707
        obtain ⟨rfl, rfl⟩ := q707
        have K708 := K701.to 21 437 [a69, a61, a13, a2, ch]
        refine Owe.stk [(.int 1)] ?_
        refine oIfNo K708 407 (hb hby at_404) (XT.i0_eq_f (by decide)) ?_
        refine oAload K708 409 (hb hby at_407) rfl rfl ?_
        refine oAload K708 411 (hb hby at_409) rfl rfl ?_
        refine oIload K708 413 (hb hby at_411) rfl ?_
        refine oIconstV K708 414 (1 : Int32) (hb hby at_413) rfl ?_
        refine oStatic K708 417 0 (wq hw 79) (wq hw 80) (wq hw 3) (wq hw 81) (rmAt2_1 l Z a0 z0 fm G r692 a61 ((one f c3)) ((byt (tri c1 c2))) ((tri c1 c2)) ((0 : Int32)) ((0 : Int32)) h702 K708.old K708.both (f693.keep Kp706 nin0) ((f639.keep Kp653 nin0).keep Kp706 nin0) f643 f644) [(.ref r692), (.ref a61), (.int 2), (.int 1)] [] (lenOf pd686 rfl) (hb hby at_414) ?_
        intro T709 h711 v712 lo713 fs714 K710 Kp715 q716
        obtain ⟨rfl, rfl⟩ := q716
        have K717 := K710.to 21 437 [a69, a61, a13, a2, ch]
        refine Owe.stk [(.int 1)] ?_
        refine oIfNo K717 420 (hb hby at_417) (XT.i0_eq_f (by decide)) ?_
        refine oAload K717 422 (hb hby at_420) rfl rfl ?_
        refine oAload K717 424 (hb hby at_422) rfl rfl ?_
        refine oIload K717 426 (hb hby at_424) rfl ?_
        refine oIconstV K717 427 (2 : Int32) (hb hby at_426) rfl ?_
        refine oStatic K717 430 0 (wq hw 79) (wq hw 80) (wq hw 3) (wq hw 81) (rmAt2_2 l Z a0 z0 fm G r692 a61 h711 K717.old K717.both ) [(.ref r692), (.ref a61), (.int 2), (.int 2)] [] (lenOf pd686 rfl) (hb hby at_427) ?_
        intro T718 h720 v721 lo722 fs723 K719 Kp724 q725
        obtain ⟨rfl, rfl⟩ := q725
        have K726 := K719.to 21 437 [a69, a61, a13, a2, ch]
        refine Owe.stk [(.int 1)] ?_
        refine oIfNo K726 433 (hb hby at_430) (XT.i0_eq_f (by decide)) ?_
        refine oAload K726 435 (hb hby at_433) rfl rfl ?_
        refine oAload K726 437 (hb hby at_435) rfl rfl ?_
        refine oIload K726 439 (hb hby at_437) rfl ?_
        refine oIconstV K726 440 (3 : Int32) (hb hby at_439) rfl ?_
        refine oStatic K726 443 0 (wq hw 79) (wq hw 80) (wq hw 3) (wq hw 81) (rmAt2_3 l Z a0 z0 fm G r692 a61 h720 K726.old K726.both ) [(.ref r692), (.ref a61), (.int 2), (.int 3)] [] (lenOf pd686 rfl) (hb hby at_440) ?_
        intro T727 h729 v730 lo731 fs732 K728 Kp733 q734
        obtain ⟨rfl, rfl⟩ := q734
        have K735 := K728.to 21 437 [a69, a61, a13, a2, ch]
        refine Owe.stk [(.int 1)] ?_
        refine oIfNo K735 446 (hb hby at_443) (XT.i0_eq_f (by decide)) ?_
        refine oIconstV K735 447 (1 : Int32) (hb hby at_446) rfl ?_
        refine oGoto K735 451 (hb hby at_447) ?_
        exact oRetI K735 [] (t := .boolean) hret (by simp) (by decide) (hb hby at_451) (by decide) (by decide) hlk (fun x hx => by cases hx) ⟨rfl, rfl⟩
theorem sgF (G : Gl Z a0 z0 fm) (p0 p1 p2 p3 p4 p5 nn f : Int32) (hby : c.code = code) (hret : meth.sig.returnType = ret) (hlk : meth.locks = false) (h0 : Heap)
    (K0 : Wk p l e room_1 s m #[(.int p0), (.int p1), (.int p2), (.int p3), (.int p4), (.int p5)] below meth c Z a0 ELs "com/example/paredown/paredown/PercentEncodingDecodeBytesPinLaw" maxLocals [] [] T0 lo0 0 0 h0) (P0 : (N5 nn)) :
    Owe p e below (PostW Z ELs [] room_1 (fun v h fs => (fs = [] ∧ v = some (.int 1))) s) T0 (mkF m 22 #[.val (.int p0), .val (.int p1), .val (.int p2), .val (.int p3), .val (.int p4), .val (.int p5), .val (.int nn), .val (.int f), .unset, .unset, .unset, .unset, .unset, .unset, .unset, .unset, .unset, .unset, .unset] []) := by
  obtain ⟨hw, hEL, wS, OS, hz0, OA, OH, OL, OF, rfm⟩ := id G
  refine oIloadN K0 23 (hb hby at_22) rfl ?_
  refine oStatic K0 26 0 (wq hw 1) (wq hw 2) (wq hw 3) (wq hw 4) (rmDraw l Z a0 z0 fm G p1 h0 K0.old K0.both ) [(.int p1)] [] (lenOf pd329 rfl) (hb hby at_23) ?_
  intro T1 h3 v4 lo5 fs6 K2 Kp7 q8
  obtain ⟨r9, rfl, rfl, f10, f11⟩ := q8
  have K12 := K2.to 2 92 []
  refine Owe.stk [(.int r9)] ?_
  refine oIstore K12 28 (hb hby at_26) (l' := #[.val (.int p0), .val (.int p1), .val (.int p2), .val (.int p3), .val (.int p4), .val (.int p5), .val (.int nn), .val (.int f), .val (.int r9), .unset, .unset, .unset, .unset, .unset, .unset, .unset, .unset, .unset, .unset]) rfl ?_
  refine oIloadN K12 29 (hb hby at_28) rfl ?_
  refine oStatic K12 32 0 (wq hw 1) (wq hw 2) (wq hw 3) (wq hw 4) (rmDraw l Z a0 z0 fm G p2 h3 K12.old K12.both ) [(.int p2)] [] (lenOf pd329 rfl) (hb hby at_29) ?_
  intro T13 h15 v16 lo17 fs18 K14 Kp19 q20
  obtain ⟨r21, rfl, rfl, f22, f23⟩ := q20
  have K24 := K14.to 4 184 []
  refine Owe.stk [(.int r21)] ?_
  refine oIstore K24 34 (hb hby at_32) (l' := #[.val (.int p0), .val (.int p1), .val (.int p2), .val (.int p3), .val (.int p4), .val (.int p5), .val (.int nn), .val (.int f), .val (.int r9), .val (.int r21), .unset, .unset, .unset, .unset, .unset, .unset, .unset, .unset, .unset]) rfl ?_
  refine oIloadN K24 35 (hb hby at_34) rfl ?_
  refine oStatic K24 38 0 (wq hw 1) (wq hw 2) (wq hw 3) (wq hw 4) (rmDraw l Z a0 z0 fm G p3 h15 K24.old K24.both ) [(.int p3)] [] (lenOf pd329 rfl) (hb hby at_35) ?_
  intro T25 h27 v28 lo29 fs30 K26 Kp31 q32
  obtain ⟨r33, rfl, rfl, f34, f35⟩ := q32
  have K36 := K26.to 6 276 []
  refine Owe.stk [(.int r33)] ?_
  refine oIstore K36 40 (hb hby at_38) (l' := #[.val (.int p0), .val (.int p1), .val (.int p2), .val (.int p3), .val (.int p4), .val (.int p5), .val (.int nn), .val (.int f), .val (.int r9), .val (.int r21), .val (.int r33), .unset, .unset, .unset, .unset, .unset, .unset, .unset, .unset]) rfl ?_
  refine oIload K36 42 (hb hby at_40) rfl ?_
  refine oStatic K36 45 0 (wq hw 1) (wq hw 2) (wq hw 3) (wq hw 4) (rmDraw l Z a0 z0 fm G p4 h27 K36.old K36.both ) [(.int p4)] [] (lenOf pd329 rfl) (hb hby at_42) ?_
  intro T37 h39 v40 lo41 fs42 K38 Kp43 q44
  obtain ⟨r45, rfl, rfl, f46, f47⟩ := q44
  have K48 := K38.to 8 368 []
  refine Owe.stk [(.int r45)] ?_
  refine oIstore K48 47 (hb hby at_45) (l' := #[.val (.int p0), .val (.int p1), .val (.int p2), .val (.int p3), .val (.int p4), .val (.int p5), .val (.int nn), .val (.int f), .val (.int r9), .val (.int r21), .val (.int r33), .val (.int r45), .unset, .unset, .unset, .unset, .unset, .unset, .unset]) rfl ?_
  refine oIconstV K48 48 (4 : Int32) (hb hby at_47) rfl ?_
  refine oNewP K48 50 (ty := .char) 4 (wq hw 38) rfl (by decide) (by decide) (by decide) (hb hby at_48) (by decide) (by decide) ?_
  intro T54 h49 a50 g51 K55 E52 A53 
  have K56 := K55.to 9 372 [a50]
  refine oDup K56 51 (hb hby at_50) rfl ?_
  refine oIconstV K56 52 (0 : Int32) (hb hby at_51) rfl ?_
  refine oIload K56 54 (hb hby at_52) rfl ?_
  refine oCastore K56 55 (by simp) A53 0 (by decide) (by decide) nlt (nar_rng f10 f11) (hb hby at_54) ?_
  intro T61 h57 lo60 K62 W58 A59
  have A63 : Ary Z h57 a50 .char [(.int r9), (.int 0), (.int 0), (.int 0)] := A59
  refine oDup K62 56 (hb hby at_55) rfl ?_
  refine oIconstV K62 57 (1 : Int32) (hb hby at_56) rfl ?_
  refine oIload K62 59 (hb hby at_57) rfl ?_
  refine oCastore K62 60 (by simp) A63 1 (by decide) (by decide) nlt (nar_rng f22 f23) (hb hby at_59) ?_
  intro T68 h64 lo67 K69 W65 A66
  have A70 : Ary Z h64 a50 .char [(.int r9), (.int r21), (.int 0), (.int 0)] := A66
  refine oDup K69 61 (hb hby at_60) rfl ?_
  refine oIconstV K69 62 (2 : Int32) (hb hby at_61) rfl ?_
  refine oIload K69 64 (hb hby at_62) rfl ?_
  refine oCastore K69 65 (by simp) A70 2 (by decide) (by decide) nlt (nar_rng f34 f35) (hb hby at_64) ?_
  intro T75 h71 lo74 K76 W72 A73
  have A77 : Ary Z h71 a50 .char [(.int r9), (.int r21), (.int r33), (.int 0)] := A73
  refine oDup K76 66 (hb hby at_65) rfl ?_
  refine oIconstV K76 67 (3 : Int32) (hb hby at_66) rfl ?_
  refine oIload K76 69 (hb hby at_67) rfl ?_
  refine oCastore K76 70 (by simp) A77 3 (by decide) (by decide) nlt (nar_rng f46 f47) (hb hby at_69) ?_
  intro T82 h78 lo81 K83 W79 A80
  have A84 : Ary Z h78 a50 .char [(.int r9), (.int r21), (.int r33), (.int r45)] := A80
  refine oAstore K83 72 (hb hby at_70) rfl (l' := #[.val (.int p0), .val (.int p1), .val (.int p2), .val (.int p3), .val (.int p4), .val (.int p5), .val (.int nn), .val (.int f), .val (.int r9), .val (.int r21), .val (.int r33), .val (.int r45), .val (.ref a50), .unset, .unset, .unset, .unset, .unset, .unset]) rfl ?_
  rcases P0 with hn85 | hn86 | hn87 | hn88 | hn89
  · rw [hn85]
    show Owe _ _ _ _ T82 (mkF m 72 #[.val (.int p0), .val (.int p1), .val (.int p2), .val (.int p3), .val (.int p4), .val (.int p5), .val (.int 0), .val (.int f), .val (.int r9), .val (.int r21), .val (.int r33), .val (.int r45), .val (.ref a50), .unset, .unset, .unset, .unset, .unset, .unset] [])
    exact (sgN0 l Z a0 z0 fm G p0 p1 p2 p3 p4 p5 f r9 r21 r33 r45 a50 hby hret hlk h78 (K83.to 9 372 [a50] (q := by simp)) A84 f10 f11 f22 f23 f34 f35 f46 f47)
  · rw [hn86]
    show Owe _ _ _ _ T82 (mkF m 72 #[.val (.int p0), .val (.int p1), .val (.int p2), .val (.int p3), .val (.int p4), .val (.int p5), .val (.int 1), .val (.int f), .val (.int r9), .val (.int r21), .val (.int r33), .val (.int r45), .val (.ref a50), .unset, .unset, .unset, .unset, .unset, .unset] [])
    exact (sgN1 l Z a0 z0 fm G p0 p1 p2 p3 p4 p5 f r9 r21 r33 r45 a50 hby hret hlk h78 (K83.to 9 372 [a50] (q := by simp)) A84 f10 f11 f22 f23 f34 f35 f46 f47)
  · rw [hn87]
    show Owe _ _ _ _ T82 (mkF m 72 #[.val (.int p0), .val (.int p1), .val (.int p2), .val (.int p3), .val (.int p4), .val (.int p5), .val (.int 2), .val (.int f), .val (.int r9), .val (.int r21), .val (.int r33), .val (.int r45), .val (.ref a50), .unset, .unset, .unset, .unset, .unset, .unset] [])
    exact (sgN2 l Z a0 z0 fm G p0 p1 p2 p3 p4 p5 f r9 r21 r33 r45 a50 hby hret hlk h78 (K83.to 9 372 [a50] (q := by simp)) A84 f10 f11 f22 f23 f34 f35 f46 f47)
  · rw [hn88]
    show Owe _ _ _ _ T82 (mkF m 72 #[.val (.int p0), .val (.int p1), .val (.int p2), .val (.int p3), .val (.int p4), .val (.int p5), .val (.int 3), .val (.int f), .val (.int r9), .val (.int r21), .val (.int r33), .val (.int r45), .val (.ref a50), .unset, .unset, .unset, .unset, .unset, .unset] [])
    exact (sgN3 l Z a0 z0 fm G p0 p1 p2 p3 p4 p5 f r9 r21 r33 r45 a50 hby hret hlk h78 (K83.to 9 372 [a50] (q := by simp)) A84 f10 f11 f22 f23 f34 f35 f46 f47)
  · rw [hn89]
    show Owe _ _ _ _ T82 (mkF m 72 #[.val (.int p0), .val (.int p1), .val (.int p2), .val (.int p3), .val (.int p4), .val (.int p5), .val (.int 4), .val (.int f), .val (.int r9), .val (.int r21), .val (.int r33), .val (.int r45), .val (.ref a50), .unset, .unset, .unset, .unset, .unset, .unset] [])
    exact (sgN4 l Z a0 z0 fm G p0 p1 p2 p3 p4 p5 f r9 r21 r33 r45 a50 hby hret hlk h78 (K83.to 9 372 [a50] (q := by simp)) A84 f10 f11 f22 f23 f34 f35 f46 f47)
theorem ef688 (m : MethodId) (x0 : Int32) (x1 : Int32) (x2 : Int32) (x3 : Int32) (x4 : Int32) (x5 : Int32) : entryFrame m #[(.int x0), (.int x1), (.int x2), (.int x3), (.int x4), (.int x5)] maxLocals = mkF m 0 #[.val (.int x0), .val (.int x1), .val (.int x2), .val (.int x3), .val (.int x4), .val (.int x5), .unset, .unset, .unset, .unset, .unset, .unset, .unset, .unset, .unset, .unset, .unset, .unset, .unset] [] := by first | (simp [entryFrame, mkF, argsToLocals, Value.category, maxLocals]; done) | rfl
theorem rmLaw (G : Gl Z a0 z0 fm) (p0 p1 p2 p3 p4 p5 : Int32) (h0 : Heap) (hZh : Ext Z.heap h0) (hsf : Own Z h0 []) :
    Ctr l Z ELs x code maxLocals ret tables_1 room_1 #[(.int p0), (.int p1), (.int p2), (.int p3), (.int p4), (.int p5)] [] h0 (fun v h fs => (fs = [] ∧ v = some (.int 1))) := by
  obtain ⟨hw, hEL, wS, OS, hz0, OA, OH, OL, OF, rfm⟩ := id G
  refine Ctr.intro pn333 hEL hZh hsf ?_
  intro p e s m below meth c s₁ hby hml hret hnm hlk hh K0
  refine Owe.cast (ef688 m p0 p1 p2 p3 p4 p5) ?_
  refine oIloadN K0 1 (hb hby at_0) rfl ?_
  refine oLdcI K0 3 (wq hw 0) (hb hby at_1) ?_
  refine oIand K0 4 (hb hby at_3) ?_
  refine oIconstV K0 5 (5 : Int32) (hb hby at_4) rfl ?_
  refine oIrem K0 6 (hb hby at_5) (by decide) ?_
  refine oIstore K0 8 (hb hby at_6) (l' := #[.val (.int p0), .val (.int p1), .val (.int p2), .val (.int p3), .val (.int p4), .val (.int p5), .val (.int ((p0 &&& (2147483647 : Int32)) % (5 : Int32))), .unset, .unset, .unset, .unset, .unset, .unset, .unset, .unset, .unset, .unset, .unset, .unset]) rfl ?_
  refine oIload K0 10 (hb hby at_8) rfl ?_
  refine oIconstV K0 11 (1 : Int32) (hb hby at_10) rfl ?_
  refine oIand K0 12 (hb hby at_11) ?_
  by_cases hc1 : (p5 &&& (1 : Int32)) = (0 : Int32)
  · refine oIfYes K0 19 (hb hby at_12) (XT.i0_eq_t hc1) ?_
    refine oIconstV K0 20 (0 : Int32) (hb hby at_19) rfl ?_
    refine oIstore K0 22 (hb hby at_20) (l' := #[.val (.int p0), .val (.int p1), .val (.int p2), .val (.int p3), .val (.int p4), .val (.int p5), .val (.int ((p0 &&& (2147483647 : Int32)) % (5 : Int32))), .val (.int 0), .unset, .unset, .unset, .unset, .unset, .unset, .unset, .unset, .unset, .unset, .unset]) rfl ?_
    exact (sgF l Z a0 z0 fm G p0 p1 p2 p3 p4 p5 (((p0 &&& (2147483647 : Int32)) % (5 : Int32))) ((0 : Int32)) hby hret hlk h0 (K0.to 0 0 [] (q := by simp)) (own_n5 p0))
  · refine oIfNo K0 15 (hb hby at_12) (XT.i0_eq_f hc1) ?_
    refine oIconstV K0 16 (1 : Int32) (hb hby at_15) rfl ?_
    refine oGoto K0 20 (hb hby at_16) ?_
    refine oIstore K0 22 (hb hby at_20) (l' := #[.val (.int p0), .val (.int p1), .val (.int p2), .val (.int p3), .val (.int p4), .val (.int p5), .val (.int ((p0 &&& (2147483647 : Int32)) % (5 : Int32))), .val (.int 1), .unset, .unset, .unset, .unset, .unset, .unset, .unset, .unset, .unset, .unset, .unset]) rfl ?_
    exact (sgF l Z a0 z0 fm G p0 p1 p2 p3 p4 p5 (((p0 &&& (2147483647 : Int32)) % (5 : Int32))) ((1 : Int32)) hby hret hlk h0 (K0.to 0 0 [] (q := by simp)) (own_n5 p0))
theorem comes_1 {Post : Tables → Env → Array Value → State → Outcome → State → Prop} (hpost : ∀ tb e args s v u, (limb_1_1.after args s (.returned v) u = true ∧ limb_1_2.after args s (.returned v) u = true ∧ True) → FramedW s (.returned v) u (Jvm.fieldLocs frame_1_writes args s ++ Jvm.arrayLocs frame_1_arrays args s ++ Jvm.staticLocs frame_1_statics s) 32 2240 → Post tb e args s (.returned v) u) :
    ArmFor flags0 classFile x code maxLocals ret World_1 tables_1 room_1 Calls_1 rest_1 Pre_1 Post := by
  intro l hfl _ _ p e ha hc hk s m args below hf hA hF happ hP
  obtain ⟨hcalls, hrest, hpre⟩ := hP
  obtain ⟨-, -, -, hnamed, -, -, -, hat⟩ := (Spec.applies_iff hf).mp happ
  obtain ⟨hg, hn⟩ := and_e (Cond.before_iff.mp (show (Jvm.Cond.and given_1 narrow_1).before args s = true from hpre))
  obtain ⟨hx0, hr0⟩ := and_e hg
  obtain ⟨hx1, hr1⟩ := and_e hr0
  obtain ⟨hx2, hr2⟩ := and_e hr1
  obtain ⟨hx3, hr3⟩ := and_e hr2
  obtain ⟨hx4, hr4⟩ := and_e hr3
  obtain ⟨hx5, hr5⟩ := and_e hr4
  obtain ⟨w0, w1, w2, w3, w4, w5, rfl⟩ : ∃ w0 w1 w2 w3 w4 w5 : Value, args = #[w0, w1, w2, w3, w4, w5] := by
    have hs : args.size = 6 := by simpa [Cond.value, given_1] using hx0
    obtain ⟨L⟩ := args
    match L, hs with
    | [w0, w1, w2, w3, w4, w5], _ => exact ⟨w0, w1, w2, w3, w4, w5, rfl⟩
  have hw := fun d (hd : d ∈ tables_1) => atoms_spec (ws := Jvm.Cond.code x code maxLocals ret :: tables_1) hat d (List.mem_cons_of_mem _ hd)
  obtain ⟨hsets, hown0⟩ := atoms_of _ (rest_1_c_eq ▸ (show rest_1_c.before _ s = true from hrest))
  have hfit : Fit s := fun {y c} hc i hi => by
    obtain ⟨ha, rfl⟩ := Array.getElem?_eq_some_iff.mp hc
    have q := List.all_eq_true.mp ((Array.all_eq_true_iff_forall_mem.mp hF) _ (Array.getElem_mem ha)) i (List.mem_range.mpr hi)
    simpa [Array.getElem?_eq_getElem hi] using q
  obtain ⟨i0, e0⟩ := is_v hx1
  obtain rfl : w0 = (.int i0) := Option.some.inj e0
  obtain ⟨i1, e1⟩ := is_v hx2
  obtain rfl : w1 = (.int i1) := Option.some.inj e1
  obtain ⟨i2, e2⟩ := is_v hx3
  obtain rfl : w2 = (.int i2) := Option.some.inj e2
  obtain ⟨i3, e3⟩ := is_v hx4
  obtain rfl : w3 = (.int i3) := Option.some.inj e3
  obtain ⟨i4, e4⟩ := is_v hx5
  obtain rfl : w4 = (.int i4) := Option.some.inj e4
  obtain ⟨i5, e5⟩ := is_v hr5
  obtain rfl : w5 = (.int i5) := Option.some.inj e5
  have wS : ∀ a ∈ Bundle.stringAtoms, a.before #[(.int i0), (.int i1), (.int i2), (.int i3), (.int i4), (.int i5)] s = true := fun a ha => hw a ((by decide +kernel : ∀ d ∈ Bundle.stringAtoms, d ∈ tables_1) a ha)
  have n5 := not_v (Cond.before_iff.mp (hsets _ (List.mem_of_getElem? (i := 2) rfl)))
  obtain ⟨z0, ez0⟩ := is_v (Cond.before_iff.mp (hsets _ (List.mem_of_getElem? (i := 1) rfl)))
  have OS : Sta s s.heap "java/lang/String" "COMPACT_STRINGS" "Z" (.int z0) := Sta.start ez0 (Or.inl (hsets _ (List.mem_of_getElem? (i := 0) rfl)))
  have hz0 : ¬ (z0 = (0 : Int32)) := gotF (Cond.eq_ints ez0 (Term.int_eval (0))) n5
  have hEL : EW s #[(.int i0), (.int i1), (.int i2), (.int i3), (.int i4), (.int i5)] ELs := (EW.cons (wq hw 5) (by decide) (EW.cons (wq hw 50) (by decide) EW.nil))
  have hCH : CHv s ELs s.vm s.heap := CHv.start hEL (fun q hq => hcalls.1 q ((by decide : ∀ q ∈ ELs, q ∈ consts_1) q hq)) (hsets _ (List.mem_of_getElem? (i := 2) rfl)) (wq hw 8) (wq hw 7)
  have OA := Sta.start (Cond.eq_int (hsets _ (List.mem_of_getElem? (i := 12) rfl)) rfl) (Or.inl (hsets _ (List.mem_of_getElem? (i := 11) rfl)))
  have OH := Sta.start (Cond.eq_int (hsets _ (List.mem_of_getElem? (i := 15) rfl)) rfl) (Or.inl (hsets _ (List.mem_of_getElem? (i := 14) rfl)))
  have OL := Sta.start (Cond.eq_int (hsets _ (List.mem_of_getElem? (i := 18) rfl)) rfl) (Or.inl (hsets _ (List.mem_of_getElem? (i := 17) rfl)))
  obtain ⟨fm, efm, rfm⟩ := isR_v (Cond.before_iff.mp (hsets _ (List.mem_of_getElem? (i := 8) rfl)))
  have OF : Sta s s.heap "jdk/internal/util/Preconditions" "SIOOBE_FORMATTER" "Ljava/util/function/BiFunction;" fm := Sta.start efm (Or.inl (hsets _ (List.mem_of_getElem? (i := 7) rfl)))
  obtain ⟨n, o, h1, h2, h3, v, L, fs, rfl, ⟨-, rfl⟩, N, -, -, -, -, w1', w2', w3', w4'⟩ := rmLaw l s _ z0 fm ⟨hw, hEL, wS, OS, hz0, OA, OH, OL, OF, rfm⟩ i0 i1 i2 i3 i4 i5 s.heap ⟨Nat.le_refl _, fun _ _ q => q⟩ (fun x hx => by cases hx) p e ha hc hk s m _ below hf ((Spec.applies_iff_loose hf).mp happ).1 ⟨rfl, State.Warmed39.refl s, rfl, hCH, fun x hx => by cases hx⟩ trivial
  refine ⟨n, _, h1, h2, h3, hpost _ _ _ _ _ _ ⟨Cond.after_iff.mpr rfl, Cond.after_iff.mpr (eq_i res_at (Term.int_eval (1)) rfl), trivial⟩ ⟨w1', w2', w3', (w4'.sift fun y hy => Or.inr (N y hy)).mono (by decide) (by decide)⟩⟩
theorem main_1_1 : Claimed_1_1 := comes_1 fun _ _ _ _ _ _ h hF => ⟨h.1, hF⟩
theorem main_1_2 : Claimed_1_2 := comes_1 fun _ _ _ _ _ _ h hF => ⟨h.2.1, hF⟩
end Jvm.Pilot.@@N@@
namespace Jvm.Pilot.@@N@@
open Jvm Jvm.ClassFile Sem Op Lib Jvm.Free Jvm.Stand Jvm.Pilot.@@N@@.Jvm.D
/-! MADE BY PROGRAM (witnessworld.py) out of the Statement's table words and the real class files: 23 classes; the members and pool entries that the words name. The judged class is class 1, her method 6. -/
namespace start1
open Jvm.ClassFile
def u (s : String) : CpInfo := .utf8 (stringToUtf16 s)
/-- a pool by its gaps: so many unusable entries, then the entry; so many at the end -/
def gap : Nat → List CpInfo → List CpInfo
  | 0, r => r
  | n + 1, r => .unusable :: gap n r
def poolList (es : List (Nat × CpInfo)) (last : Nat) : List CpInfo := es.foldr (fun e r => gap e.1 (e.2 :: r)) (gap last [])
def pool (es : List (Nat × CpInfo)) (last : Nat) : Array CpInfo := ⟨poolList es last⟩
def fileOf (pool : Array CpInfo) (this : Nat) (attrs : Array Attribute := #[]) (ms : Array MethodInfo := #[]) (fl : Nat := 33) (sup : Nat := 0) (ifs : Array Nat := #[]) (fds : Array FieldInfo := #[]) : ClassFile where
  minorVersion := 0
  majorVersion := 65
  constantPool := pool
  accessFlags := fl
  thisClass := this
  superClass := sup
  interfaces := ifs
  fields := fds
  methods := ms
  attributes := attrs
def plain (name : String) (sup : Option ClassId) : Class where
  name := name
  kind := .ordinary
  loader := none
  accessFlags := 33
  super := sup
  interfaces := #[]
  cf := none
  fields := #[]
  methods := #[]
  instanceTypes := #[]
  staticTypes := #[]
  resolved := #[]
  callSites := []
  init := .initialized
  statics := none
  mirror := none

def pool0 : Array CpInfo := pool [(5, u "<init>"), (0, u "()V"), (1, .class_ 10), (1, u "java/lang/Object"), (85, u "clone"), (0, u "()Ljava/lang/Object;")] 26

def k0c0 : Code := { maxStack := 0, maxLocals := 1, code := object_method_1_code, exceptionTable := #[], attributes := #[] }
def k0m0 : Method := { name := "<init>", desc := "()V", sig := { parameters := [], returnType := none }, accessFlags := 1, code := some k0c0 }
def k0m1 : Method := { name := "clone", desc := "()Ljava/lang/Object;", sig := { parameters := [], returnType := some (.object "java/lang/Object") }, accessFlags := 260, code := none }
/-- java/lang/Object -/
def k0 : Class := { plain "java/lang/Object" none with
  accessFlags := 33
  interfaces := #[]
  cf := some (fileOf pool0 8 #[] #[{ accessFlags := 1, nameIndex := 5, descriptorIndex := 6, attributes := #[] }, { accessFlags := 260, nameIndex := 96, descriptorIndex := 97, attributes := #[] }] 33 0 #[] #[])
  fields := #[]
  methods := #[k0m0, k0m1]
  instanceTypes := #[]
  staticTypes := #[]
  resolved := Array.replicate 124 none
  statics := none }

def pool1 : Array CpInfo := pool [(2, .class_ 4), (1, u "java/lang/Object"), (0, u "<init>"), (0, u "()V"), (0, .string 8), (0, u "0123456789abcdefABCDEF"), (0, .methodref 10 11), (0, .class_ 12), (0, .nameAndType 13 14), (0, u "java/lang/String"), (0, u "charAt"), (0, u "(I)C"), (0, .integer 65535), (0, .methodref 17 18), (0, .class_ 19), (0, .nameAndType 20 21), (0, u "com/example/paredown/paredown/PercentEncodingDecodeBytesPinLaw"), (0, u "hex"), (0, u "(C)I"), (0, .methodref 17 23), (0, .nameAndType 24 25), (0, u "plain"), (0, u "(CZ)I"), (0, .integer 2147483647), (0, .methodref 17 28), (0, .nameAndType 29 14), (0, u "draw"), (0, .methodref 10 31), (0, .nameAndType 5 32), (0, u "([C)V"), (0, .methodref 17 34), (0, .nameAndType 35 36), (0, u "step"), (0, u "([CIIZ[I[I)I"), (0, .methodref 38 39), (0, .class_ 40), (0, .nameAndType 41 42), (0, u "com/example/paredown/paredown/PercentEncoding"), (0, u "decodeBytes"), (0, u "(Ljava/lang/String;Z)[B"), (0, .methodref 17 44), (0, .nameAndType 45 46), (0, u "at"), (0, u "([B[III)Z"), (3, u "law"), (0, u "(IIIIII)Z")] 8

def k1m0 : Method := { name := "<init>", desc := "()V", sig := { parameters := [], returnType := none }, accessFlags := 2, code := none }
def k1c1 : Code := { maxStack := 3, maxLocals := 3, code := method_2_code, exceptionTable := #[], attributes := #[] }
def k1m1 : Method := { name := "draw", desc := "(I)C", sig := { parameters := [.int], returnType := some .char }, accessFlags := 10, code := some k1c1 }
def k1c2 : Code := { maxStack := 2, maxLocals := 2, code := method_3_code, exceptionTable := #[], attributes := #[] }
def k1m2 : Method := { name := "hex", desc := "(C)I", sig := { parameters := [.char], returnType := some .int }, accessFlags := 10, code := some k1c2 }
def k1c3 : Code := { maxStack := 2, maxLocals := 2, code := method_4_code, exceptionTable := #[], attributes := #[] }
def k1m3 : Method := { name := "plain", desc := "(CZ)I", sig := { parameters := [.char, .boolean], returnType := some .int }, accessFlags := 10, code := some k1c3 }
def k1c4 : Code := { maxStack := 4, maxLocals := 9, code := method_5_code, exceptionTable := #[], attributes := #[] }
def k1m4 : Method := { name := "step", desc := "([CIIZ[I[I)I", sig := { parameters := [(.array .char), .int, .int, .boolean, (.array .int), (.array .int)], returnType := some .int }, accessFlags := 10, code := some k1c4 }
def k1c5 : Code := { maxStack := 3, maxLocals := 4, code := method_6_code, exceptionTable := #[], attributes := #[] }
def k1m5 : Method := { name := "at", desc := "([B[III)Z", sig := { parameters := [(.array .byte), (.array .int), .int, .int], returnType := some .boolean }, accessFlags := 10, code := some k1c5 }
def k1c6 : Code := { maxStack := 6, maxLocals := 19, code := code, exceptionTable := #[], attributes := #[] }
def k1m6 : Method := { name := "law", desc := "(IIIIII)Z", sig := { parameters := [.int, .int, .int, .int, .int, .int], returnType := some .boolean }, accessFlags := 9, code := some k1c6 }
/-- com/example/paredown/paredown/PercentEncodingDecodeBytesPinLaw -/
def k1 : Class := { plain "com/example/paredown/paredown/PercentEncodingDecodeBytesPinLaw" (some 0) with
  accessFlags := 49
  interfaces := #[]
  cf := some (fileOf pool1 17 #[] #[{ accessFlags := 2, nameIndex := 5, descriptorIndex := 6, attributes := #[] }, { accessFlags := 10, nameIndex := 29, descriptorIndex := 14, attributes := #[] }, { accessFlags := 10, nameIndex := 20, descriptorIndex := 21, attributes := #[] }, { accessFlags := 10, nameIndex := 24, descriptorIndex := 25, attributes := #[] }, { accessFlags := 10, nameIndex := 35, descriptorIndex := 36, attributes := #[] }, { accessFlags := 10, nameIndex := 45, descriptorIndex := 46, attributes := #[] }, { accessFlags := 9, nameIndex := 50, descriptorIndex := 51, attributes := #[] }] 49 2 #[] #[])
  fields := #[]
  methods := #[k1m0, k1m1, k1m2, k1m3, k1m4, k1m5, k1m6]
  instanceTypes := #[]
  staticTypes := #[]
  resolved := Array.replicate 60 none
  statics := none }

def pool2 : Array CpInfo := pool [(1, .class_ 2), (0, u "java/io/Serializable"), (0, .class_ 4), (0, u "java/lang/Object")] 2

/-- java/io/Serializable -/
def k2 : Class := { plain "java/io/Serializable" (some 0) with
  accessFlags := 1537
  interfaces := #[]
  cf := some (fileOf pool2 1 #[] #[] 1537 3 #[] #[])
  fields := #[]
  methods := #[]
  instanceTypes := #[]
  staticTypes := #[]
  resolved := Array.replicate 7 none
  statics := none }

def pool3 : Array CpInfo := pool [(1, .class_ 2), (0, u "java/lang/Comparable"), (0, .class_ 4), (0, u "java/lang/Object")] 7

/-- java/lang/Comparable -/
def k3 : Class := { plain "java/lang/Comparable" (some 0) with
  accessFlags := 1537
  interfaces := #[]
  cf := some (fileOf pool3 1 #[] #[] 1537 3 #[] #[])
  fields := #[]
  methods := #[]
  instanceTypes := #[]
  staticTypes := #[]
  resolved := Array.replicate 12 none
  statics := none }

def pool4 : Array CpInfo := pool [(2, .class_ 4), (1, u "java/lang/CharSequence"), (42, .class_ 48), (0, u "java/lang/CharSequence$1CodePointIterator"), (10, .class_ 60), (0, u "java/lang/CharSequence$1CharIterator"), (5, .class_ 67), (0, u "java/lang/Object")] 63

/-- java/lang/CharSequence -/
def k4 : Class := { plain "java/lang/CharSequence" (some 0) with
  accessFlags := 1537
  interfaces := #[]
  cf := some (fileOf pool4 2 #[.nestMembers #[47, 59]] #[] 1537 66 #[] #[])
  fields := #[]
  methods := #[]
  instanceTypes := #[]
  staticTypes := #[]
  resolved := Array.replicate 131 none
  statics := none }

def pool5 : Array CpInfo := pool [(1, .class_ 2), (0, u "java/lang/constant/Constable"), (0, .class_ 4), (0, u "java/lang/Object")] 6

/-- java/lang/constant/Constable -/
def k5 : Class := { plain "java/lang/constant/Constable" (some 0) with
  accessFlags := 1537
  interfaces := #[]
  cf := some (fileOf pool5 1 #[] #[] 1537 3 #[] #[])
  fields := #[]
  methods := #[]
  instanceTypes := #[]
  staticTypes := #[]
  resolved := Array.replicate 11 none
  statics := none }

def pool6 : Array CpInfo := pool [(1, .class_ 2), (0, u "java/lang/constant/ConstantDesc"), (0, .class_ 4), (0, u "java/lang/Object")] 32

/-- java/lang/constant/ConstantDesc -/
def k6 : Class := { plain "java/lang/constant/ConstantDesc" (some 0) with
  accessFlags := 1537
  interfaces := #[]
  cf := some (fileOf pool6 1 #[] #[] 1537 3 #[] #[])
  fields := #[]
  methods := #[]
  instanceTypes := #[]
  staticTypes := #[]
  resolved := Array.replicate 37 none
  statics := none }

def pool7 : Array CpInfo := pool [(1, .methodref 2 3), (0, .class_ 4), (0, .nameAndType 5 6), (0, u "java/lang/Object"), (0, u "<init>"), (0, u "()V"), (0, .string 8), (0, u ""), (0, .fieldref 10 11), (0, .class_ 12), (0, .nameAndType 13 14), (0, u "java/lang/String"), (0, u "value"), (0, u "[B"), (0, .fieldref 10 16), (0, .nameAndType 17 18), (0, u "coder"), (0, u "B"), (2, u "hash"), (0, u "I"), (2, u "hashIsZero"), (0, u "Z"), (0, .methodref 10 28), (0, .nameAndType 5 29), (0, u "([CIILjava/lang/Void;)V"), (8, .fieldref 10 39), (0, .nameAndType 40 26), (0, u "COMPACT_STRINGS"), (1, .class_ 44), (1, u "java/lang/StringUTF16"), (0, u "compress"), (1, .methodref 42 48), (0, .nameAndType 49 50), (0, u "coderFromArrayLen"), (0, u "([BI)B"), (56, .class_ 109), (1, u "java/lang/StringLatin1"), (32, u "()Z"), (34, .methodref 42 178), (0, .nameAndType 45 179), (0, u "([CII)[B"), (154, u "()I"), (0, .methodref 10 336), (0, .nameAndType 17 337), (0, u "()B"), (25, u "([BI)C"), (27, u "(II)V"), (35, u "(I)C"), (64, .methodref 10 493), (0, .nameAndType 494 142), (0, u "isLatin1"), (0, .methodref 107 496), (0, .nameAndType 497 363), (0, u "charAt"), (0, .methodref 42 496), (2, u "checkIndex"), (5, u "length"), (67, .class_ 576), (0, u "java/lang/CharSequence"), (22, u "CASE_INSENSITIVE_ORDER"), (0, u "Ljava/util/Comparator;"), (409, u "([C)V"), (42, .fieldref 1054 1055), (0, .class_ 1056), (0, .nameAndType 1057 1058), (0, u "jdk/internal/util/Preconditions"), (0, u "SIOOBE_FORMATTER"), (0, u "Ljava/util/function/BiFunction;"), (0, .methodref 1054 1060), (0, .nameAndType 501 1061), (0, u "(IILjava/util/function/BiFunction;)I"), (39, u "serialPersistentFields"), (0, u "[Ljava/io/ObjectStreamField;"), (0, .class_ 1104), (0, u "java/lang/String$CaseInsensitiveComparator"), (1, .class_ 1107), (0, u "java/io/Serializable"), (0, .class_ 1109), (0, u "java/lang/Comparable"), (0, .class_ 1111), (0, u "java/lang/constant/Constable"), (0, .class_ 1113), (0, u "java/lang/constant/ConstantDesc"), (2, u "serialVersionUID"), (0, u "J"), (3, u "REPL"), (0, u "C"), (2, u "LATIN1"), (1, u "UTF16")] 323

def k7m0 : Method := { name := "<init>", desc := "()V", sig := { parameters := [], returnType := none }, accessFlags := 1, code := none }
def k7c1 : Code := { maxStack := 5, maxLocals := 2, code := jdk_42_method_3_code, exceptionTable := #[], attributes := #[] }
def k7m1 : Method := { name := "<init>", desc := "([C)V", sig := { parameters := [(.array .char)], returnType := none }, accessFlags := 1, code := some k7c1 }
def k7c2 : Code := { maxStack := 2, maxLocals := 1, code := jdk_42_method_54_code, exceptionTable := #[], attributes := #[] }
def k7m2 : Method := { name := "length", desc := "()I", sig := { parameters := [], returnType := some .int }, accessFlags := 1, code := some k7c2 }
def k7c3 : Code := { maxStack := 2, maxLocals := 2, code := jdk_42_method_56_code, exceptionTable := #[], attributes := #[] }
def k7m3 : Method := { name := "charAt", desc := "(I)C", sig := { parameters := [.int], returnType := some .char }, accessFlags := 1, code := some k7c3 }
def k7c4 : Code := { maxStack := 4, maxLocals := 6, code := jdk_42_method_149_code, exceptionTable := #[], attributes := #[] }
def k7m4 : Method := { name := "<init>", desc := "([CIILjava/lang/Void;)V", sig := { parameters := [(.array .char), .int, .int, (.object "java/lang/Void")], returnType := none }, accessFlags := 2, code := some k7c4 }
def k7c5 : Code := { maxStack := 1, maxLocals := 1, code := jdk_42_method_152_code, exceptionTable := #[], attributes := #[] }
def k7m5 : Method := { name := "coder", desc := "()B", sig := { parameters := [], returnType := some .byte }, accessFlags := 0, code := some k7c5 }
def k7c6 : Code := { maxStack := 1, maxLocals := 1, code := jdk_42_method_154_code, exceptionTable := #[], attributes := #[] }
def k7m6 : Method := { name := "isLatin1", desc := "()Z", sig := { parameters := [], returnType := some .boolean }, accessFlags := 0, code := some k7c6 }
def k7c7 : Code := { maxStack := 3, maxLocals := 2, code := jdk_42_method_155_code, exceptionTable := #[], attributes := #[] }
def k7m7 : Method := { name := "checkIndex", desc := "(II)V", sig := { parameters := [.int, .int], returnType := none }, accessFlags := 8, code := some k7c7 }
/-- java/lang/String -/
def k7 : Class := { plain "java/lang/String" (some 0) with
  accessFlags := 49
  interfaces := #[2, 3, 4, 5, 6]
  cf := some (fileOf pool7 10 #[.nestMembers #[1103]] #[{ accessFlags := 1, nameIndex := 5, descriptorIndex := 6, attributes := #[] }, { accessFlags := 1, nameIndex := 5, descriptorIndex := 1010, attributes := #[] }, { accessFlags := 1, nameIndex := 507, descriptorIndex := 334, attributes := #[] }, { accessFlags := 1, nameIndex := 497, descriptorIndex := 427, attributes := #[] }, { accessFlags := 2, nameIndex := 5, descriptorIndex := 29, attributes := #[] }, { accessFlags := 0, nameIndex := 17, descriptorIndex := 337, attributes := #[] }, { accessFlags := 0, nameIndex := 494, descriptorIndex := 142, attributes := #[] }, { accessFlags := 8, nameIndex := 501, descriptorIndex := 391, attributes := #[] }] 49 2 #[1106, 1108, 575, 1110, 1112] #[{ accessFlags := 18, nameIndex := 13, descriptorIndex := 14, attributes := #[] }, { accessFlags := 18, nameIndex := 17, descriptorIndex := 18, attributes := #[] }, { accessFlags := 2, nameIndex := 21, descriptorIndex := 22, attributes := #[] }, { accessFlags := 2, nameIndex := 25, descriptorIndex := 26, attributes := #[] }, { accessFlags := 26, nameIndex := 1116, descriptorIndex := 1117, attributes := #[] }, { accessFlags := 24, nameIndex := 40, descriptorIndex := 26, attributes := #[] }, { accessFlags := 26, nameIndex := 1101, descriptorIndex := 1102, attributes := #[] }, { accessFlags := 26, nameIndex := 1121, descriptorIndex := 1122, attributes := #[] }, { accessFlags := 25, nameIndex := 599, descriptorIndex := 600, attributes := #[] }, { accessFlags := 24, nameIndex := 1125, descriptorIndex := 18, attributes := #[] }, { accessFlags := 24, nameIndex := 1127, descriptorIndex := 18, attributes := #[] }])
  fields := #[{ name := "value", type := (.array .byte), accessFlags := 18, slot := 0, constantValue := 0 }, { name := "coder", type := .byte, accessFlags := 18, slot := 1, constantValue := 0 }, { name := "hash", type := .int, accessFlags := 2, slot := 2, constantValue := 0 }, { name := "hashIsZero", type := .boolean, accessFlags := 2, slot := 3, constantValue := 0 }, { name := "serialVersionUID", type := .long, accessFlags := 26, slot := 0, constantValue := 0 }, { name := "COMPACT_STRINGS", type := .boolean, accessFlags := 24, slot := 1, constantValue := 0 }, { name := "serialPersistentFields", type := (.array (.object "java/io/ObjectStreamField")), accessFlags := 26, slot := 2, constantValue := 0 }, { name := "REPL", type := .char, accessFlags := 26, slot := 3, constantValue := 0 }, { name := "CASE_INSENSITIVE_ORDER", type := (.object "java/util/Comparator"), accessFlags := 25, slot := 4, constantValue := 0 }, { name := "LATIN1", type := .byte, accessFlags := 24, slot := 5, constantValue := 0 }, { name := "UTF16", type := .byte, accessFlags := 24, slot := 6, constantValue := 0 }]
  methods := #[k7m0, k7m1, k7m2, k7m3, k7m4, k7m5, k7m6, k7m7]
  instanceTypes := #[(.array .byte), .byte, .int, .boolean]
  staticTypes := #[.long, .boolean, (.array (.object "java/io/ObjectStreamField")), .char, (.object "java/util/Comparator"), .byte, .byte]
  resolved := Array.replicate 1451 none
  statics := some 0 }

def pool8 : Array CpInfo := pool [(1, .class_ 2), (0, u "java/lang/String"), (1, .class_ 6), (1, u "java/lang/Object"), (0, u "<init>"), (0, u "()V"), (0, .methodref 1 10), (0, .nameAndType 11 12), (0, u "checkIndex"), (0, u "(II)V"), (1, .class_ 16), (1, u "java/lang/StringLatin1"), (36, u "([BI)C"), (67, u "$assertionsDisabled"), (0, u "Z"), (98, .class_ 223), (1, u "java/lang/StringLatin1$LinesSpliterator"), (28, u "charAt"), (137, .class_ 391), (0, u "java/lang/StringLatin1$CharsSpliterator")] 3

def k8m0 : Method := { name := "<init>", desc := "()V", sig := { parameters := [], returnType := none }, accessFlags := 0, code := none }
def k8c1 : Code := { maxStack := 2, maxLocals := 2, code := jdk_43_method_2_code, exceptionTable := #[], attributes := #[] }
def k8m1 : Method := { name := "charAt", desc := "([BI)C", sig := { parameters := [(.array .byte), .int], returnType := some .char }, accessFlags := 9, code := some k8c1 }
/-- java/lang/StringLatin1 -/
def k8 : Class := { plain "java/lang/StringLatin1" (some 0) with
  accessFlags := 48
  interfaces := #[]
  cf := some (fileOf pool8 14 #[.nestMembers #[390, 221]] #[{ accessFlags := 0, nameIndex := 7, descriptorIndex := 8, attributes := #[] }, { accessFlags := 9, nameIndex := 252, descriptorIndex := 53, attributes := #[] }] 48 4 #[] #[{ accessFlags := 4120, nameIndex := 121, descriptorIndex := 122, attributes := #[] }])
  fields := #[{ name := "$assertionsDisabled", type := .boolean, accessFlags := 4120, slot := 0, constantValue := 0 }]
  methods := #[k8m0, k8m1]
  instanceTypes := #[]
  staticTypes := #[.boolean]
  resolved := Array.replicate 395 none
  statics := none }

def pool9 : Array CpInfo := pool [(2, .class_ 4), (1, u "java/lang/Object"), (0, u "<init>"), (0, u "()V"), (17, .class_ 26), (1, u "jdk/internal/util/Preconditions"), (6, u "checkIndex"), (21, .class_ 56), (0, u "jdk/internal/util/Preconditions$4"), (57, .class_ 115), (0, u "jdk/internal/util/Preconditions$1"), (7, u "SIOOBE_FORMATTER"), (0, u "Ljava/util/function/BiFunction;"), (0, .class_ 126), (0, u "jdk/internal/util/Preconditions$2"), (3, u "AIOOBE_FORMATTER"), (0, .class_ 132), (0, u "jdk/internal/util/Preconditions$3"), (3, u "IOOBE_FORMATTER"), (41, u "(IILjava/util/function/BiFunction;)I")] 15

def k9m0 : Method := { name := "<init>", desc := "()V", sig := { parameters := [], returnType := none }, accessFlags := 1, code := none }
def k9c1 : Code := { maxStack := 3, maxLocals := 3, code := jdk_41_method_11_code, exceptionTable := #[], attributes := #[] }
def k9m1 : Method := { name := "checkIndex", desc := "(IILjava/util/function/BiFunction;)I", sig := { parameters := [.int, .int, (.object "java/util/function/BiFunction")], returnType := some .int }, accessFlags := 9, code := some k9c1 }
/-- jdk/internal/util/Preconditions -/
def k9 : Class := { plain "jdk/internal/util/Preconditions" (some 0) with
  accessFlags := 33
  interfaces := #[]
  cf := some (fileOf pool9 24 #[.nestMembers #[55, 131, 125, 114]] #[{ accessFlags := 1, nameIndex := 5, descriptorIndex := 6, attributes := #[] }, { accessFlags := 9, nameIndex := 33, descriptorIndex := 178, attributes := #[] }] 33 2 #[] #[{ accessFlags := 25, nameIndex := 123, descriptorIndex := 124, attributes := #[] }, { accessFlags := 25, nameIndex := 130, descriptorIndex := 124, attributes := #[] }, { accessFlags := 25, nameIndex := 136, descriptorIndex := 124, attributes := #[] }])
  fields := #[{ name := "SIOOBE_FORMATTER", type := (.object "java/util/function/BiFunction"), accessFlags := 25, slot := 0, constantValue := 0 }, { name := "AIOOBE_FORMATTER", type := (.object "java/util/function/BiFunction"), accessFlags := 25, slot := 1, constantValue := 0 }, { name := "IOOBE_FORMATTER", type := (.object "java/util/function/BiFunction"), accessFlags := 25, slot := 2, constantValue := 0 }]
  methods := #[k9m0, k9m1]
  instanceTypes := #[]
  staticTypes := #[(.object "java/util/function/BiFunction"), (.object "java/util/function/BiFunction"), (.object "java/util/function/BiFunction")]
  resolved := Array.replicate 194 none
  statics := some 1 }

def pool10 : Array CpInfo := pool [(2, .class_ 4), (1, u "java/lang/Object"), (0, u "<init>"), (0, u "()V"), (3, .class_ 11), (0, u "com/example/paredown/paredown/PercentEncoding"), (3, .class_ 17), (1, u "java/lang/String"), (25, u "decodeBytes"), (0, u "(Ljava/lang/String;Z)[B"), (29, .methodref 15 75), (0, .nameAndType 76 77), (0, u "length"), (0, u "()I"), (0, .methodref 15 79), (0, .nameAndType 80 81), (0, u "charAt"), (0, u "(I)C"), (0, .methodref 10 83), (0, .nameAndType 84 85), (0, u "hexDigit"), (0, u "(C)I"), (0, .methodref 87 88), (0, .class_ 89), (0, .nameAndType 90 91), (0, u "java/util/Arrays"), (0, u "copyOf"), (0, u "([BI)[B"), (0, u "UNRESERVED"), (0, u "Ljava/lang/String;")] 11

def k10m0 : Method := { name := "<init>", desc := "()V", sig := { parameters := [], returnType := none }, accessFlags := 2, code := none }
def k10c1 : Code := { maxStack := 4, maxLocals := 8, code := prog_18_method_4_code, exceptionTable := #[], attributes := #[] }
def k10m1 : Method := { name := "decodeBytes", desc := "(Ljava/lang/String;Z)[B", sig := { parameters := [(.object "java/lang/String"), .boolean], returnType := some (.array .byte) }, accessFlags := 8, code := some k10c1 }
def k10c2 : Code := { maxStack := 2, maxLocals := 1, code := prog_18_method_5_code, exceptionTable := #[], attributes := #[] }
def k10m2 : Method := { name := "hexDigit", desc := "(C)I", sig := { parameters := [.char], returnType := some .int }, accessFlags := 10, code := some k10c2 }
/-- com/example/paredown/paredown/PercentEncoding -/
def k10 : Class := { plain "com/example/paredown/paredown/PercentEncoding" (some 0) with
  accessFlags := 48
  interfaces := #[]
  cf := some (fileOf pool10 10 #[] #[{ accessFlags := 2, nameIndex := 5, descriptorIndex := 6, attributes := #[] }, { accessFlags := 8, nameIndex := 43, descriptorIndex := 44, attributes := #[] }, { accessFlags := 10, nameIndex := 84, descriptorIndex := 85, attributes := #[] }] 48 2 #[] #[{ accessFlags := 26, nameIndex := 92, descriptorIndex := 93, attributes := #[] }])
  fields := #[{ name := "UNRESERVED", type := (.object "java/lang/String"), accessFlags := 26, slot := 0, constantValue := 0 }]
  methods := #[k10m0, k10m1, k10m2]
  instanceTypes := #[]
  staticTypes := #[(.object "java/lang/String")]
  resolved := Array.replicate 105 none
  statics := none }

def pool11 : Array CpInfo := pool [(2, .class_ 4), (1, u "java/lang/Object"), (0, u "<init>"), (0, u "()V"), (7, .class_ 16), (1, u "java/util/Arrays"), (57, .class_ 76), (1, u "java/util/Arrays$NaturalOrder"), (32, u "()Ljava/lang/Object;"), (3, .class_ 115), (1, u "java/util/Arrays$LegacyMergeSort"), (1, u "Z"), (10, .nameAndType 129 109), (0, u "clone"), (20, .methodref 151 152), (0, .class_ 153), (0, .nameAndType 154 155), (0, u "java/lang/System"), (0, u "arraycopy"), (0, u "(Ljava/lang/Object;ILjava/lang/Object;II)V"), (146, u "copyOf"), (1, .methodref 305 306), (0, .class_ 307), (0, .nameAndType 308 309), (0, u "java/lang/Math"), (0, u "min"), (0, u "(II)I"), (0, .methodref 311 128), (0, .class_ 312), (0, u "[B"), (62, .class_ 376), (0, u "java/util/Arrays$ArrayList"), (68, u "$assertionsDisabled"), (269, u "MIN_ARRAY_SORT_GRAN"), (0, u "I"), (2, u "INSERTIONSORT_THRESHOLD"), (149, u "([BI)[B"), (105, .class_ 976), (0, u "java/util/Arrays$ArrayItr")] 52

def k11m0 : Method := { name := "<init>", desc := "()V", sig := { parameters := [], returnType := none }, accessFlags := 2, code := none }
def k11c1 : Code := { maxStack := 6, maxLocals := 3, code := jdk_65_method_121_code, exceptionTable := #[], attributes := #[] }
def k11m1 : Method := { name := "copyOf", desc := "([BI)[B", sig := { parameters := [(.array .byte), .int], returnType := some (.array .byte) }, accessFlags := 9, code := some k11c1 }
/-- java/util/Arrays -/
def k11 : Class := { plain "java/util/Arrays" (some 0) with
  accessFlags := 49
  interfaces := #[]
  cf := some (fileOf pool11 14 #[.nestMembers #[975, 375, 113, 74]] #[{ accessFlags := 2, nameIndex := 5, descriptorIndex := 6, attributes := #[] }, { accessFlags := 9, nameIndex := 302, descriptorIndex := 869, attributes := #[] }] 49 2 #[] #[{ accessFlags := 26, nameIndex := 715, descriptorIndex := 716, attributes := #[] }, { accessFlags := 26, nameIndex := 719, descriptorIndex := 716, attributes := #[] }, { accessFlags := 4120, nameIndex := 445, descriptorIndex := 117, attributes := #[] }])
  fields := #[{ name := "MIN_ARRAY_SORT_GRAN", type := .int, accessFlags := 26, slot := 0, constantValue := 0 }, { name := "INSERTIONSORT_THRESHOLD", type := .int, accessFlags := 26, slot := 1, constantValue := 0 }, { name := "$assertionsDisabled", type := .boolean, accessFlags := 4120, slot := 2, constantValue := 0 }]
  methods := #[k11m0, k11m1]
  instanceTypes := #[]
  staticTypes := #[.int, .int, .boolean]
  resolved := Array.replicate 1029 none
  statics := none }

def pool12 : Array CpInfo := pool [(1, .class_ 2), (0, u "java/lang/Cloneable"), (0, .class_ 4), (0, u "java/lang/Object")] 2

/-- java/lang/Cloneable -/
def k12 : Class := { plain "java/lang/Cloneable" (some 0) with
  accessFlags := 1537
  interfaces := #[]
  cf := some (fileOf pool12 1 #[] #[] 1537 3 #[] #[])
  fields := #[]
  methods := #[]
  instanceTypes := #[]
  staticTypes := #[]
  resolved := Array.replicate 7 none
  statics := none }

def pool13 : Array CpInfo := pool [(3, .class_ 4), (0, u "java/lang/String"), (1, .class_ 8), (1, u "java/lang/Object"), (0, u "<init>"), (0, u "()V"), (0, .methodref 12 13), (0, .class_ 14), (0, .nameAndType 15 16), (0, u "java/lang/StringUTF16"), (0, u "newBytesLength"), (0, u "(I)I"), (3, .integer 1073741823), (23, .fieldref 12 45), (0, .nameAndType 46 47), (0, u "$assertionsDisabled"), (0, u "Z"), (0, .methodref 12 49), (0, .nameAndType 50 51), (0, u "length"), (0, u "([B)I"), (7, .fieldref 12 60), (0, .nameAndType 61 62), (0, u "HI_BYTE_SHIFT"), (0, u "I"), (0, .fieldref 12 64), (0, .nameAndType 65 62), (0, u "LO_BYTE_SHIFT"), (1, .methodref 12 68), (0, .nameAndType 69 70), (0, u "checkIndex"), (0, u "(I[B)V"), (0, .methodref 12 72), (0, .nameAndType 73 74), (0, u "getChar"), (0, u "([BI)C"), (32, .methodref 12 108), (0, .nameAndType 109 110), (0, u "newBytesFor"), (0, u "(I)[B"), (0, .methodref 12 112), (0, .nameAndType 113 114), (0, u "putChar"), (0, u "([BII)V"), (0, .methodref 12 116), (0, .nameAndType 117 118), (0, u "compress"), (0, u "([CI[BII)I"), (0, .methodref 12 120), (0, .nameAndType 121 122), (0, u "toBytes"), (0, u "([CII)[B"), (138, u "coderFromArrayLen"), (0, u "([BI)B"), (106, .class_ 371), (1, u "java/lang/StringUTF16$LinesSpliterator"), (20, u "charAt"), (21, .methodref 3 415), (0, .nameAndType 69 416), (0, u "(II)V"), (13, u "MAX_LENGTH"), (196, .class_ 628), (0, u "java/lang/StringUTF16$CodePointsSpliterator"), (0, .class_ 630), (0, u "java/lang/StringUTF16$CharsSpliterator")] 4

def k13m0 : Method := { name := "<init>", desc := "()V", sig := { parameters := [], returnType := none }, accessFlags := 0, code := none }
def k13c1 : Code := { maxStack := 1, maxLocals := 1, code := jdk_52_method_2_code, exceptionTable := #[], attributes := #[] }
def k13m1 : Method := { name := "newBytesFor", desc := "(I)[B", sig := { parameters := [.int], returnType := some (.array .byte) }, accessFlags := 9, code := some k13c1 }
def k13c2 : Code := { maxStack := 4, maxLocals := 1, code := jdk_52_method_3_code, exceptionTable := #[], attributes := #[] }
def k13m2 : Method := { name := "newBytesLength", desc := "(I)I", sig := { parameters := [.int], returnType := some .int }, accessFlags := 9, code := some k13c2 }
def k13c3 : Code := { maxStack := 4, maxLocals := 3, code := jdk_52_method_4_code, exceptionTable := #[], attributes := #[] }
def k13m3 : Method := { name := "putChar", desc := "([BII)V", sig := { parameters := [(.array .byte), .int, .int], returnType := none }, accessFlags := 8, code := some k13c3 }
def k13c4 : Code := { maxStack := 3, maxLocals := 2, code := jdk_52_method_5_code, exceptionTable := #[], attributes := #[] }
def k13m4 : Method := { name := "getChar", desc := "([BI)C", sig := { parameters := [(.array .byte), .int], returnType := some .char }, accessFlags := 8, code := some k13c4 }
def k13c5 : Code := { maxStack := 2, maxLocals := 1, code := jdk_52_method_6_code, exceptionTable := #[], attributes := #[] }
def k13m5 : Method := { name := "length", desc := "([B)I", sig := { parameters := [(.array .byte)], returnType := some .int }, accessFlags := 9, code := some k13c5 }
def k13c6 : Code := { maxStack := 4, maxLocals := 5, code := jdk_52_method_14_code, exceptionTable := #[], attributes := #[] }
def k13m6 : Method := { name := "toBytes", desc := "([CII)[B", sig := { parameters := [(.array .char), .int, .int], returnType := some (.array .byte) }, accessFlags := 9, code := some k13c6 }
def k13c7 : Code := { maxStack := 2, maxLocals := 2, code := jdk_52_method_15_code, exceptionTable := #[], attributes := #[] }
def k13m7 : Method := { name := "coderFromArrayLen", desc := "([BI)B", sig := { parameters := [(.array .byte), .int], returnType := some .byte }, accessFlags := 8, code := some k13c7 }
def k13c8 : Code := { maxStack := 5, maxLocals := 6, code := jdk_52_method_16_code, exceptionTable := #[], attributes := #[] }
def k13m8 : Method := { name := "compress", desc := "([CII)[B", sig := { parameters := [(.array .char), .int, .int], returnType := some (.array .byte) }, accessFlags := 9, code := some k13c8 }
def k13c9 : Code := { maxStack := 3, maxLocals := 7, code := jdk_52_method_21_code, exceptionTable := #[], attributes := #[] }
def k13m9 : Method := { name := "compress", desc := "([CI[BII)I", sig := { parameters := [(.array .char), .int, (.array .byte), .int, .int], returnType := some .int }, accessFlags := 9, code := some k13c9 }
def k13c10 : Code := { maxStack := 2, maxLocals := 2, code := jdk_52_method_83_code, exceptionTable := #[], attributes := #[] }
def k13m10 : Method := { name := "charAt", desc := "([BI)C", sig := { parameters := [(.array .byte), .int], returnType := some .char }, accessFlags := 9, code := some k13c10 }
def k13c11 : Code := { maxStack := 2, maxLocals := 2, code := jdk_52_method_91_code, exceptionTable := #[], attributes := #[] }
def k13m11 : Method := { name := "checkIndex", desc := "(I[B)V", sig := { parameters := [.int, (.array .byte)], returnType := none }, accessFlags := 9, code := some k13c11 }
/-- java/lang/StringUTF16 -/
def k13 : Class := { plain "java/lang/StringUTF16" (some 0) with
  accessFlags := 48
  interfaces := #[]
  cf := some (fileOf pool13 12 #[.nestMembers #[627, 629, 369]] #[{ accessFlags := 0, nameIndex := 9, descriptorIndex := 10, attributes := #[] }, { accessFlags := 9, nameIndex := 109, descriptorIndex := 110, attributes := #[] }, { accessFlags := 9, nameIndex := 15, descriptorIndex := 16, attributes := #[] }, { accessFlags := 8, nameIndex := 113, descriptorIndex := 114, attributes := #[] }, { accessFlags := 8, nameIndex := 73, descriptorIndex := 74, attributes := #[] }, { accessFlags := 9, nameIndex := 50, descriptorIndex := 51, attributes := #[] }, { accessFlags := 9, nameIndex := 121, descriptorIndex := 122, attributes := #[] }, { accessFlags := 8, nameIndex := 261, descriptorIndex := 262, attributes := #[] }, { accessFlags := 9, nameIndex := 117, descriptorIndex := 122, attributes := #[] }, { accessFlags := 9, nameIndex := 117, descriptorIndex := 118, attributes := #[] }, { accessFlags := 9, nameIndex := 392, descriptorIndex := 74, attributes := #[] }, { accessFlags := 9, nameIndex := 69, descriptorIndex := 70, attributes := #[] }] 48 6 #[] #[{ accessFlags := 26, nameIndex := 61, descriptorIndex := 62, attributes := #[] }, { accessFlags := 26, nameIndex := 65, descriptorIndex := 62, attributes := #[] }, { accessFlags := 24, nameIndex := 430, descriptorIndex := 62, attributes := #[] }, { accessFlags := 4120, nameIndex := 46, descriptorIndex := 47, attributes := #[] }])
  fields := #[{ name := "HI_BYTE_SHIFT", type := .int, accessFlags := 26, slot := 0, constantValue := 0 }, { name := "LO_BYTE_SHIFT", type := .int, accessFlags := 26, slot := 1, constantValue := 0 }, { name := "MAX_LENGTH", type := .int, accessFlags := 24, slot := 2, constantValue := 0 }, { name := "$assertionsDisabled", type := .boolean, accessFlags := 4120, slot := 3, constantValue := 0 }]
  methods := #[k13m0, k13m1, k13m2, k13m3, k13m4, k13m5, k13m6, k13m7, k13m8, k13m9, k13m10, k13m11]
  instanceTypes := #[]
  staticTypes := #[.int, .int, .int, .boolean]
  resolved := Array.replicate 635 none
  statics := some 2 }

def pool14 : Array CpInfo := pool [(1, .class_ 2), (0, u "java/lang/Math"), (1, .class_ 6), (1, u "java/lang/Object"), (0, u "<init>"), (0, u "()V"), (89, .class_ 100), (1, u "java/lang/Math$RandomNumberGeneratorHolder"), (71, u "negativeZeroFloatBits"), (0, u "J"), (2, u "negativeZeroDoubleBits"), (24, u "min"), (43, u "$assertionsDisabled"), (0, u "Z"), (88, u "(II)I"), (2, u "twoToTheDoubleScaleDown"), (0, u "D"), (4, u "twoToTheDoubleScaleUp"), (9, u "E"), (3, u "PI"), (2, u "TAU"), (2, u "DEGREES_TO_RADIANS"), (0, u "RADIANS_TO_DEGREES")] 94

def k14m0 : Method := { name := "<init>", desc := "()V", sig := { parameters := [], returnType := none }, accessFlags := 2, code := none }
def k14c1 : Code := { maxStack := 2, maxLocals := 2, code := jdk_29_method_69_code, exceptionTable := #[], attributes := #[] }
def k14m1 : Method := { name := "min", desc := "(II)I", sig := { parameters := [.int, .int], returnType := some .int }, accessFlags := 9, code := some k14c1 }
/-- java/lang/Math -/
def k14 : Class := { plain "java/lang/Math" (some 0) with
  accessFlags := 49
  interfaces := #[]
  cf := some (fileOf pool14 1 #[.nestMembers #[98]] #[{ accessFlags := 2, nameIndex := 7, descriptorIndex := 8, attributes := #[] }, { accessFlags := 9, nameIndex := 201, descriptorIndex := 335, attributes := #[] }] 49 4 #[] #[{ accessFlags := 25, nameIndex := 354, descriptorIndex := 339, attributes := #[] }, { accessFlags := 25, nameIndex := 358, descriptorIndex := 339, attributes := #[] }, { accessFlags := 25, nameIndex := 361, descriptorIndex := 339, attributes := #[] }, { accessFlags := 26, nameIndex := 364, descriptorIndex := 339, attributes := #[] }, { accessFlags := 26, nameIndex := 365, descriptorIndex := 339, attributes := #[] }, { accessFlags := 26, nameIndex := 172, descriptorIndex := 173, attributes := #[] }, { accessFlags := 26, nameIndex := 176, descriptorIndex := 173, attributes := #[] }, { accessFlags := 8, nameIndex := 344, descriptorIndex := 339, attributes := #[] }, { accessFlags := 8, nameIndex := 338, descriptorIndex := 339, attributes := #[] }, { accessFlags := 4120, nameIndex := 245, descriptorIndex := 246, attributes := #[] }])
  fields := #[{ name := "E", type := .double, accessFlags := 25, slot := 0, constantValue := 0 }, { name := "PI", type := .double, accessFlags := 25, slot := 1, constantValue := 0 }, { name := "TAU", type := .double, accessFlags := 25, slot := 2, constantValue := 0 }, { name := "DEGREES_TO_RADIANS", type := .double, accessFlags := 26, slot := 3, constantValue := 0 }, { name := "RADIANS_TO_DEGREES", type := .double, accessFlags := 26, slot := 4, constantValue := 0 }, { name := "negativeZeroFloatBits", type := .long, accessFlags := 26, slot := 5, constantValue := 0 }, { name := "negativeZeroDoubleBits", type := .long, accessFlags := 26, slot := 6, constantValue := 0 }, { name := "twoToTheDoubleScaleUp", type := .double, accessFlags := 8, slot := 7, constantValue := 0 }, { name := "twoToTheDoubleScaleDown", type := .double, accessFlags := 8, slot := 8, constantValue := 0 }, { name := "$assertionsDisabled", type := .boolean, accessFlags := 4120, slot := 9, constantValue := 0 }]
  methods := #[k14m0, k14m1]
  instanceTypes := #[]
  staticTypes := #[.double, .double, .double, .double, .double, .long, .long, .double, .double, .boolean]
  resolved := Array.replicate 460 none
  statics := none }

def pool15 : Array CpInfo := pool [(2, .class_ 4), (1, u "java/lang/Object"), (0, u "<init>"), (0, u "()V"), (1, .class_ 10), (1, u "java/lang/System"), (0, u "allowSecurityManager"), (0, u "I"), (16, u "cons"), (0, u "Ljava/io/Console;"), (77, .class_ 110), (1, u "java/lang/System$CallersHolder"), (43, u "initialErrStream"), (0, u "Ljava/io/PrintStream;"), (19, u "security"), (0, u "Ljava/lang/SecurityManager;"), (31, .class_ 209), (0, u "java/lang/System$1"), (7, u "props"), (0, u "Ljava/util/Properties;"), (2, u "lineSeparator"), (0, u "Ljava/lang/String;"), (96, .class_ 321), (1, u "java/lang/System$LoggerFinder"), (5, .class_ 328), (0, u "java/lang/System$Logger"), (67, u "err"), (2, u "out"), (91, u "notSupportedJnuEncoding"), (15, u "in"), (17, u "initialIn"), (0, u "Ljava/io/InputStream;"), (35, u "bootLayer"), (0, u "Ljava/lang/ModuleLayer;"), (99, .class_ 664), (0, u "java/lang/System$2"), (9, u "NEVER"), (2, u "MAYBE"), (49, u "arraycopy"), (0, u "(Ljava/lang/Object;ILjava/lang/Object;II)V"), (72, .class_ 802), (0, u "java/lang/System$Logger$Level")] 31

def k15m0 : Method := { name := "<init>", desc := "()V", sig := { parameters := [], returnType := none }, accessFlags := 2, code := none }
def k15m1 : Method := { name := "arraycopy", desc := "(Ljava/lang/Object;ILjava/lang/Object;II)V", sig := { parameters := [(.object "java/lang/Object"), .int, (.object "java/lang/Object"), .int, .int], returnType := none }, accessFlags := 265, code := none }
/-- java/lang/System -/
def k15 : Class := { plain "java/lang/System" (some 0) with
  accessFlags := 49
  interfaces := #[]
  cf := some (fileOf pool15 8 #[.nestMembers #[319, 327, 801, 108, 663, 208]] #[{ accessFlags := 2, nameIndex := 5, descriptorIndex := 6, attributes := #[] }, { accessFlags := 265, nameIndex := 727, descriptorIndex := 728, attributes := #[] }] 49 2 #[] #[{ accessFlags := 25, nameIndex := 507, descriptorIndex := 526, attributes := #[] }, { accessFlags := 25, nameIndex := 399, descriptorIndex := 155, attributes := #[] }, { accessFlags := 25, nameIndex := 396, descriptorIndex := 155, attributes := #[] }, { accessFlags := 10, nameIndex := 525, descriptorIndex := 526, attributes := #[] }, { accessFlags := 26, nameIndex := 674, descriptorIndex := 12, attributes := #[] }, { accessFlags := 26, nameIndex := 677, descriptorIndex := 12, attributes := #[] }, { accessFlags := 10, nameIndex := 11, descriptorIndex := 12, attributes := #[] }, { accessFlags := 74, nameIndex := 175, descriptorIndex := 176, attributes := #[] }, { accessFlags := 10, nameIndex := 491, descriptorIndex := 222, attributes := #[] }, { accessFlags := 74, nameIndex := 29, descriptorIndex := 30, attributes := #[] }, { accessFlags := 74, nameIndex := 154, descriptorIndex := 155, attributes := #[] }, { accessFlags := 10, nameIndex := 217, descriptorIndex := 218, attributes := #[] }, { accessFlags := 10, nameIndex := 221, descriptorIndex := 222, attributes := #[] }, { accessFlags := 8, nameIndex := 562, descriptorIndex := 563, attributes := #[] }])
  fields := #[{ name := "in", type := (.object "java/io/InputStream"), accessFlags := 25, slot := 0, constantValue := 0 }, { name := "out", type := (.object "java/io/PrintStream"), accessFlags := 25, slot := 1, constantValue := 0 }, { name := "err", type := (.object "java/io/PrintStream"), accessFlags := 25, slot := 2, constantValue := 0 }, { name := "initialIn", type := (.object "java/io/InputStream"), accessFlags := 10, slot := 3, constantValue := 0 }, { name := "NEVER", type := .int, accessFlags := 26, slot := 4, constantValue := 0 }, { name := "MAYBE", type := .int, accessFlags := 26, slot := 5, constantValue := 0 }, { name := "allowSecurityManager", type := .int, accessFlags := 10, slot := 6, constantValue := 0 }, { name := "security", type := (.object "java/lang/SecurityManager"), accessFlags := 74, slot := 7, constantValue := 0 }, { name := "notSupportedJnuEncoding", type := (.object "java/lang/String"), accessFlags := 10, slot := 8, constantValue := 0 }, { name := "cons", type := (.object "java/io/Console"), accessFlags := 74, slot := 9, constantValue := 0 }, { name := "initialErrStream", type := (.object "java/io/PrintStream"), accessFlags := 74, slot := 10, constantValue := 0 }, { name := "props", type := (.object "java/util/Properties"), accessFlags := 10, slot := 11, constantValue := 0 }, { name := "lineSeparator", type := (.object "java/lang/String"), accessFlags := 10, slot := 12, constantValue := 0 }, { name := "bootLayer", type := (.object "java/lang/ModuleLayer"), accessFlags := 8, slot := 13, constantValue := 0 }]
  methods := #[k15m0, k15m1]
  instanceTypes := #[]
  staticTypes := #[(.object "java/io/InputStream"), (.object "java/io/PrintStream"), (.object "java/io/PrintStream"), (.object "java/io/InputStream"), .int, .int, .int, (.object "java/lang/SecurityManager"), (.object "java/lang/String"), (.object "java/io/Console"), (.object "java/io/PrintStream"), (.object "java/util/Properties"), (.object "java/lang/String"), (.object "java/lang/ModuleLayer")]
  resolved := Array.replicate 834 none
  statics := none }

def pool16 : Array CpInfo := pool [(9, u "<init>"), (6, .class_ 18), (1, u "java/lang/Object"), (0, u "()V"), (1, .class_ 23), (1, u "jdk/internal/util/ArraysSupport"), (0, u "LOG2_ARRAY_LONG_INDEX_SCALE"), (0, u "I"), (2, u "U"), (0, u "Ljdk/internal/misc/Unsafe;"), (8, u "BIG_ENDIAN"), (0, u "Z"), (8, u "LOG2_BYTE_BIT_SIZE"), (4, u "LOG2_ARRAY_INT_INDEX_SCALE"), (54, u "JLA"), (0, u "Ljdk/internal/access/JavaLangAccess;"), (11, u "LOG2_ARRAY_BOOLEAN_INDEX_SCALE"), (9, u "LOG2_ARRAY_BYTE_INDEX_SCALE"), (5, u "LOG2_ARRAY_CHAR_INDEX_SCALE"), (5, u "LOG2_ARRAY_SHORT_INDEX_SCALE"), (18, u "LOG2_ARRAY_FLOAT_INDEX_SCALE"), (24, u "LOG2_ARRAY_DOUBLE_INDEX_SCALE"), (89, u "T_BOOLEAN"), (2, u "T_CHAR"), (1, u "T_FLOAT"), (1, u "T_DOUBLE"), (1, u "T_BYTE"), (1, u "T_SHORT"), (1, u "T_INT"), (1, u "T_LONG"), (1, u "SOFT_MAX_ARRAY_LENGTH")] 83

def k16m0 : Method := { name := "<init>", desc := "()V", sig := { parameters := [], returnType := none }, accessFlags := 2, code := none }
/-- jdk/internal/util/ArraysSupport -/
def k16 : Class := { plain "jdk/internal/util/ArraysSupport" (some 0) with
  accessFlags := 33
  interfaces := #[]
  cf := some (fileOf pool16 21 #[] #[{ accessFlags := 2, nameIndex := 9, descriptorIndex := 19, attributes := #[] }] 33 16 #[] #[{ accessFlags := 24, nameIndex := 28, descriptorIndex := 29, attributes := #[] }, { accessFlags := 26, nameIndex := 38, descriptorIndex := 39, attributes := #[] }, { accessFlags := 25, nameIndex := 121, descriptorIndex := 25, attributes := #[] }, { accessFlags := 25, nameIndex := 131, descriptorIndex := 25, attributes := #[] }, { accessFlags := 25, nameIndex := 137, descriptorIndex := 25, attributes := #[] }, { accessFlags := 25, nameIndex := 143, descriptorIndex := 25, attributes := #[] }, { accessFlags := 25, nameIndex := 53, descriptorIndex := 25, attributes := #[] }, { accessFlags := 25, nameIndex := 24, descriptorIndex := 25, attributes := #[] }, { accessFlags := 25, nameIndex := 162, descriptorIndex := 25, attributes := #[] }, { accessFlags := 25, nameIndex := 187, descriptorIndex := 25, attributes := #[] }, { accessFlags := 26, nameIndex := 48, descriptorIndex := 25, attributes := #[] }, { accessFlags := 25, nameIndex := 277, descriptorIndex := 25, attributes := #[] }, { accessFlags := 25, nameIndex := 280, descriptorIndex := 25, attributes := #[] }, { accessFlags := 25, nameIndex := 282, descriptorIndex := 25, attributes := #[] }, { accessFlags := 25, nameIndex := 284, descriptorIndex := 25, attributes := #[] }, { accessFlags := 25, nameIndex := 286, descriptorIndex := 25, attributes := #[] }, { accessFlags := 25, nameIndex := 288, descriptorIndex := 25, attributes := #[] }, { accessFlags := 25, nameIndex := 290, descriptorIndex := 25, attributes := #[] }, { accessFlags := 25, nameIndex := 292, descriptorIndex := 25, attributes := #[] }, { accessFlags := 26, nameIndex := 108, descriptorIndex := 109, attributes := #[] }, { accessFlags := 25, nameIndex := 294, descriptorIndex := 25, attributes := #[] }])
  fields := #[{ name := "U", type := (.object "jdk/internal/misc/Unsafe"), accessFlags := 24, slot := 0, constantValue := 0 }, { name := "BIG_ENDIAN", type := .boolean, accessFlags := 26, slot := 1, constantValue := 0 }, { name := "LOG2_ARRAY_BOOLEAN_INDEX_SCALE", type := .int, accessFlags := 25, slot := 2, constantValue := 0 }, { name := "LOG2_ARRAY_BYTE_INDEX_SCALE", type := .int, accessFlags := 25, slot := 3, constantValue := 0 }, { name := "LOG2_ARRAY_CHAR_INDEX_SCALE", type := .int, accessFlags := 25, slot := 4, constantValue := 0 }, { name := "LOG2_ARRAY_SHORT_INDEX_SCALE", type := .int, accessFlags := 25, slot := 5, constantValue := 0 }, { name := "LOG2_ARRAY_INT_INDEX_SCALE", type := .int, accessFlags := 25, slot := 6, constantValue := 0 }, { name := "LOG2_ARRAY_LONG_INDEX_SCALE", type := .int, accessFlags := 25, slot := 7, constantValue := 0 }, { name := "LOG2_ARRAY_FLOAT_INDEX_SCALE", type := .int, accessFlags := 25, slot := 8, constantValue := 0 }, { name := "LOG2_ARRAY_DOUBLE_INDEX_SCALE", type := .int, accessFlags := 25, slot := 9, constantValue := 0 }, { name := "LOG2_BYTE_BIT_SIZE", type := .int, accessFlags := 26, slot := 10, constantValue := 0 }, { name := "T_BOOLEAN", type := .int, accessFlags := 25, slot := 11, constantValue := 0 }, { name := "T_CHAR", type := .int, accessFlags := 25, slot := 12, constantValue := 0 }, { name := "T_FLOAT", type := .int, accessFlags := 25, slot := 13, constantValue := 0 }, { name := "T_DOUBLE", type := .int, accessFlags := 25, slot := 14, constantValue := 0 }, { name := "T_BYTE", type := .int, accessFlags := 25, slot := 15, constantValue := 0 }, { name := "T_SHORT", type := .int, accessFlags := 25, slot := 16, constantValue := 0 }, { name := "T_INT", type := .int, accessFlags := 25, slot := 17, constantValue := 0 }, { name := "T_LONG", type := .int, accessFlags := 25, slot := 18, constantValue := 0 }, { name := "JLA", type := (.object "jdk/internal/access/JavaLangAccess"), accessFlags := 26, slot := 19, constantValue := 0 }, { name := "SOFT_MAX_ARRAY_LENGTH", type := .int, accessFlags := 25, slot := 20, constantValue := 0 }]
  methods := #[k16m0]
  instanceTypes := #[]
  staticTypes := #[(.object "jdk/internal/misc/Unsafe"), .boolean, .int, .int, .int, .int, .int, .int, .int, .int, .int, .int, .int, .int, .int, .int, .int, .int, .int, (.object "jdk/internal/access/JavaLangAccess"), .int]
  resolved := Array.replicate 378 none
  statics := none }

/-- the primitive byte -/
def k17 : Class := { plain "byte" none with kind := .primitive 'B', accessFlags := 0x411 }
/-- [B -/
def k18 : Class := { plain "[B" (some 0) with kind := .array 17 .byte, interfaces := #[12, 2], accessFlags := 1041 }

/-- the primitive char -/
def k19 : Class := { plain "char" none with kind := .primitive 'C', accessFlags := 0x411 }
/-- [C -/
def k20 : Class := { plain "[C" (some 0) with kind := .array 19 .char, interfaces := #[12, 2], accessFlags := 1041 }

/-- the primitive int -/
def k21 : Class := { plain "int" none with kind := .primitive 'I', accessFlags := 0x411 }
/-- [I -/
def k22 : Class := { plain "[I" (some 0) with kind := .array 21 .int, interfaces := #[12, 2], accessFlags := 1041 }

def heap : Heap := #[{ cls := 7, slots := #[.long 0, .int 1, .null, .int 0, .null, .int 0, .int 0], vm := .statics 7 },
  { cls := 9, slots := #[.null, .null, .null], vm := .statics 9 },
  { cls := 13, slots := #[.int 0, .int 8, .int 0, .int 1], vm := .statics 13 }]
def classes : Array Class := #[k0, k1, k2, k3, k4, k5, k6, k7, k8, k9, k10, k11, k12, k13, k14, k15, k16, k17, k18, k19, k20, k21, k22]
def interned : List (Array UInt16 × Addr) := []
def slotsUsed : Nat := 14
def theMethod : MethodId := ⟨1, 6⟩
def args0 : Array Value := #[.int 5, .int 6, .int 7, .int 3, .int 4, .int 1]
def aboutOver (below : List Frame) : State where
  vm := { classes := classes, interned := interned.toArray }
  heap := heap
  slotsUsed := slotsUsed
  threads := #[{ frames := .invoking theMethod args0 :: below }]
def below0 : List Frame := [.native { method := ⟨0, 0⟩, args := #[] }]
def about1 : State := aboutOver below0
def p0 : Program := .bare "" "" ""
def e0 : Env := launch0.env 0 0 0
theorem w_frames : about1.frames = Frame.invoking theMethod args0 :: below0 := rfl
set_option maxRecDepth 65536 in
theorem w_args : argsFit about1.vm theMethod args0 = true := by decide +kernel
set_option maxRecDepth 65536 in
theorem w_heap : heapFits about1 = true := by decide +kernel
set_option maxRecDepth 65536 in
theorem w_runnable : about1.curStatus? = some .runnable := by decide +kernel
set_option maxRecDepth 65536 in
theorem w_alone : about1.alone = true := by decide +kernel
set_option maxRecDepth 65536 in
theorem w_named : about1.methodNamed? x = some theMethod := by decide +kernel
set_option maxRecDepth 65536 in
theorem w_hears : about1.hears theMethod below0 = true := by decide +kernel
set_option maxRecDepth 65536 in
theorem w_ripe : about1.ripe theMethod args0 below0 = true := by decide +kernel
theorem w_running : about1.status = .running := rfl
set_option maxRecDepth 65536 in
theorem w_room : about1.hasRoom e0.platform room_1 = true :=
  launch0.hasRoom_least _ room_1 (by decide +kernel) (by decide +kernel) (by decide +kernel) (by decide +kernel) (by decide +kernel) (by decide +kernel)
theorem allAtoms_all (ts : List Jvm.Cond) (a : Array Jvm.Value) (st : Jvm.State) : (allAtoms ts).before a st = ts.all (fun c => c.before a st) := by
  induction ts with
  | nil => rfl
  | cons c t ih =>
    show (Jvm.Cond.and c (allAtoms t)).before a st = _
    rw [Jvm.Cond.before_and, ih, List.all_cons]
def words1 : List Jvm.Cond := Jvm.Cond.code x code maxLocals ret :: tables_1
/-- a 'code' word, met by the world's own term for the bytes: nothing is compared byte by byte -/
theorem code_word {y : MethodName} {bytes : ByteArray} {mx : Nat} {rt : Option FieldType} {a : Array Value} {s : State} {m : MethodId} {meth : Method} {c : Code} (h1 : s.methodNamed? y = some m) (h2 : s.vm.method? m = some meth) (h3 : meth.code = some c) (h4 : c.code = bytes)
    (h5 : (c.maxLocals == mx && c.exceptionTable.isEmpty && decide (c.maxStack ≤ mostOperands) && decide (meth.sig.returnType = rt) && !meth.locks && decide (parseMethodDescriptor y.desc = some meth.sig)) = true) : (Jvm.Cond.code y bytes mx rt).before a s = true := by
  simp only [Bool.and_eq_true, beq_iff_eq, Bool.not_eq_true', decide_eq_true_eq] at h5
  obtain ⟨⟨⟨⟨⟨g1, g2⟩, g3⟩, g4⟩, g5⟩, g6⟩ := h5
  simp [Cond.before, Cond.holds, Cond.value, h1, h2, h3, h4, g1, g2, g3, g4, g5, g6]
def isCode : Jvm.Cond → Bool
  | .code _ _ _ _ => true
  | _ => false
theorem all_split {L : List Jvm.Cond} {P : Jvm.Cond → Bool} (h1 : L.all (fun c => isCode c || P c) = true) (h2 : ∀ c ∈ L.filter isCode, P c = true) : L.all P = true := by
  refine List.all_eq_true.mpr fun c hc => ?_
  have h := List.all_eq_true.mp h1 c hc
  rcases Bool.eq_false_or_eq_true (isCode c) with hi | hi
  · exact h2 c (List.mem_filter.mpr ⟨hc, hi⟩)
  · simpa [hi] using h
set_option maxRecDepth 65536 in
theorem w_c0 : (Jvm.Cond.code x code maxLocals ret).before args0 about1 = true := code_word (m := ⟨1, 6⟩) (meth := k1m6) (c := k1c6) (by decide +kernel) rfl rfl rfl (by decide +kernel)
set_option maxRecDepth 65536 in
theorem w_c1 : (Jvm.Cond.code ({ cls := "com/example/paredown/paredown/PercentEncodingDecodeBytesPinLaw", name := "draw", desc := "(I)C" } : Jvm.MethodName) method_2_code (3 : Nat) (Option.some Jvm.ClassFile.FieldType.char)).before args0 about1 = true := code_word (m := ⟨1, 1⟩) (meth := k1m1) (c := k1c1) (by decide +kernel) rfl rfl rfl (by decide +kernel)
set_option maxRecDepth 65536 in
theorem w_c2 : (Jvm.Cond.code ({ cls := "java/lang/String", name := "charAt", desc := "(I)C" } : Jvm.MethodName) jdk_42_method_56_code (2 : Nat) (Option.some Jvm.ClassFile.FieldType.char)).before args0 about1 = true := code_word (m := ⟨7, 3⟩) (meth := k7m3) (c := k7c3) (by decide +kernel) rfl rfl rfl (by decide +kernel)
set_option maxRecDepth 65536 in
theorem w_c3 : (Jvm.Cond.code ({ cls := "java/lang/String", name := "isLatin1", desc := "()Z" } : Jvm.MethodName) jdk_42_method_154_code (1 : Nat) (Option.some Jvm.ClassFile.FieldType.boolean)).before args0 about1 = true := code_word (m := ⟨7, 6⟩) (meth := k7m6) (c := k7c6) (by decide +kernel) rfl rfl rfl (by decide +kernel)
set_option maxRecDepth 65536 in
theorem w_c4 : (Jvm.Cond.code ({ cls := "java/lang/StringLatin1", name := "charAt", desc := "([BI)C" } : Jvm.MethodName) jdk_43_method_2_code (2 : Nat) (Option.some Jvm.ClassFile.FieldType.char)).before args0 about1 = true := code_word (m := ⟨8, 1⟩) (meth := k8m1) (c := k8c1) (by decide +kernel) rfl rfl rfl (by decide +kernel)
set_option maxRecDepth 65536 in
theorem w_c5 : (Jvm.Cond.code ({ cls := "java/lang/String", name := "checkIndex", desc := "(II)V" } : Jvm.MethodName) jdk_42_method_155_code (2 : Nat) (Option.none : Option Jvm.ClassFile.FieldType)).before args0 about1 = true := code_word (m := ⟨7, 7⟩) (meth := k7m7) (c := k7c7) (by decide +kernel) rfl rfl rfl (by decide +kernel)
set_option maxRecDepth 65536 in
theorem w_c6 : (Jvm.Cond.code ({ cls := "jdk/internal/util/Preconditions", name := "checkIndex", desc := "(IILjava/util/function/BiFunction;)I" } : Jvm.MethodName) jdk_41_method_11_code (3 : Nat) (Option.some Jvm.ClassFile.FieldType.int)).before args0 about1 = true := code_word (m := ⟨9, 1⟩) (meth := k9m1) (c := k9c1) (by decide +kernel) rfl rfl rfl (by decide +kernel)
set_option maxRecDepth 65536 in
theorem w_c7 : (Jvm.Cond.code ({ cls := "java/lang/String", name := "<init>", desc := "([C)V" } : Jvm.MethodName) jdk_42_method_3_code (2 : Nat) (Option.none : Option Jvm.ClassFile.FieldType)).before args0 about1 = true := code_word (m := ⟨7, 1⟩) (meth := k7m1) (c := k7c1) (by decide +kernel) rfl rfl rfl (by decide +kernel)
set_option maxRecDepth 65536 in
theorem w_c8 : (Jvm.Cond.code ({ cls := "java/lang/String", name := "<init>", desc := "([CIILjava/lang/Void;)V" } : Jvm.MethodName) jdk_42_method_149_code (6 : Nat) (Option.none : Option Jvm.ClassFile.FieldType)).before args0 about1 = true := code_word (m := ⟨7, 4⟩) (meth := k7m4) (c := k7c4) (by decide +kernel) rfl rfl rfl (by decide +kernel)
set_option maxRecDepth 65536 in
theorem w_c9 : (Jvm.Cond.code ({ cls := "java/lang/Object", name := "<init>", desc := "()V" } : Jvm.MethodName) object_method_1_code (1 : Nat) (Option.none : Option Jvm.ClassFile.FieldType)).before args0 about1 = true := code_word (m := ⟨0, 0⟩) (meth := k0m0) (c := k0c0) (by decide +kernel) rfl rfl rfl (by decide +kernel)
set_option maxRecDepth 65536 in
theorem w_c10 : (Jvm.Cond.code ({ cls := "com/example/paredown/paredown/PercentEncoding", name := "decodeBytes", desc := "(Ljava/lang/String;Z)[B" } : Jvm.MethodName) prog_18_method_4_code (8 : Nat) (Option.some (Jvm.ClassFile.FieldType.array Jvm.ClassFile.FieldType.byte))).before args0 about1 = true := code_word (m := ⟨10, 1⟩) (meth := k10m1) (c := k10c1) (by decide +kernel) rfl rfl rfl (by decide +kernel)
set_option maxRecDepth 65536 in
theorem w_c11 : (Jvm.Cond.code ({ cls := "java/lang/String", name := "length", desc := "()I" } : Jvm.MethodName) jdk_42_method_54_code (1 : Nat) (Option.some Jvm.ClassFile.FieldType.int)).before args0 about1 = true := code_word (m := ⟨7, 2⟩) (meth := k7m2) (c := k7c2) (by decide +kernel) rfl rfl rfl (by decide +kernel)
set_option maxRecDepth 65536 in
theorem w_c12 : (Jvm.Cond.code ({ cls := "java/lang/String", name := "coder", desc := "()B" } : Jvm.MethodName) jdk_42_method_152_code (1 : Nat) (Option.some Jvm.ClassFile.FieldType.byte)).before args0 about1 = true := code_word (m := ⟨7, 5⟩) (meth := k7m5) (c := k7c5) (by decide +kernel) rfl rfl rfl (by decide +kernel)
set_option maxRecDepth 65536 in
theorem w_c13 : (Jvm.Cond.code ({ cls := "java/util/Arrays", name := "copyOf", desc := "([BI)[B" } : Jvm.MethodName) jdk_65_method_121_code (3 : Nat) (Option.some (Jvm.ClassFile.FieldType.array Jvm.ClassFile.FieldType.byte))).before args0 about1 = true := code_word (m := ⟨11, 1⟩) (meth := k11m1) (c := k11c1) (by decide +kernel) rfl rfl rfl (by decide +kernel)
set_option maxRecDepth 65536 in
theorem w_c14 : (Jvm.Cond.code ({ cls := "com/example/paredown/paredown/PercentEncodingDecodeBytesPinLaw", name := "at", desc := "([B[III)Z" } : Jvm.MethodName) method_6_code (4 : Nat) (Option.some Jvm.ClassFile.FieldType.boolean)).before args0 about1 = true := code_word (m := ⟨1, 5⟩) (meth := k1m5) (c := k1c5) (by decide +kernel) rfl rfl rfl (by decide +kernel)
set_option maxRecDepth 65536 in
theorem w_c15 : (Jvm.Cond.code ({ cls := "java/lang/StringUTF16", name := "compress", desc := "([CII)[B" } : Jvm.MethodName) jdk_52_method_16_code (6 : Nat) (Option.some (Jvm.ClassFile.FieldType.array Jvm.ClassFile.FieldType.byte))).before args0 about1 = true := code_word (m := ⟨13, 8⟩) (meth := k13m8) (c := k13c8) (by decide +kernel) rfl rfl rfl (by decide +kernel)
set_option maxRecDepth 65536 in
theorem w_c16 : (Jvm.Cond.code ({ cls := "java/lang/StringUTF16", name := "compress", desc := "([CI[BII)I" } : Jvm.MethodName) jdk_52_method_21_code (7 : Nat) (Option.some Jvm.ClassFile.FieldType.int)).before args0 about1 = true := code_word (m := ⟨13, 9⟩) (meth := k13m9) (c := k13c9) (by decide +kernel) rfl rfl rfl (by decide +kernel)
set_option maxRecDepth 65536 in
theorem w_c17 : (Jvm.Cond.code ({ cls := "java/lang/StringUTF16", name := "coderFromArrayLen", desc := "([BI)B" } : Jvm.MethodName) jdk_52_method_15_code (2 : Nat) (Option.some Jvm.ClassFile.FieldType.byte)).before args0 about1 = true := code_word (m := ⟨13, 7⟩) (meth := k13m7) (c := k13c7) (by decide +kernel) rfl rfl rfl (by decide +kernel)
set_option maxRecDepth 65536 in
theorem w_c18 : (Jvm.Cond.code ({ cls := "com/example/paredown/paredown/PercentEncodingDecodeBytesPinLaw", name := "step", desc := "([CIIZ[I[I)I" } : Jvm.MethodName) method_5_code (9 : Nat) (Option.some Jvm.ClassFile.FieldType.int)).before args0 about1 = true := code_word (m := ⟨1, 4⟩) (meth := k1m4) (c := k1c4) (by decide +kernel) rfl rfl rfl (by decide +kernel)
set_option maxRecDepth 65536 in
theorem w_c19 : (Jvm.Cond.code ({ cls := "com/example/paredown/paredown/PercentEncodingDecodeBytesPinLaw", name := "plain", desc := "(CZ)I" } : Jvm.MethodName) method_4_code (2 : Nat) (Option.some Jvm.ClassFile.FieldType.int)).before args0 about1 = true := code_word (m := ⟨1, 3⟩) (meth := k1m3) (c := k1c3) (by decide +kernel) rfl rfl rfl (by decide +kernel)
set_option maxRecDepth 65536 in
theorem w_c20 : (Jvm.Cond.code ({ cls := "java/lang/StringUTF16", name := "toBytes", desc := "([CII)[B" } : Jvm.MethodName) jdk_52_method_14_code (5 : Nat) (Option.some (Jvm.ClassFile.FieldType.array Jvm.ClassFile.FieldType.byte))).before args0 about1 = true := code_word (m := ⟨13, 6⟩) (meth := k13m6) (c := k13c6) (by decide +kernel) rfl rfl rfl (by decide +kernel)
set_option maxRecDepth 65536 in
theorem w_c21 : (Jvm.Cond.code ({ cls := "java/lang/StringUTF16", name := "newBytesFor", desc := "(I)[B" } : Jvm.MethodName) jdk_52_method_2_code (1 : Nat) (Option.some (Jvm.ClassFile.FieldType.array Jvm.ClassFile.FieldType.byte))).before args0 about1 = true := code_word (m := ⟨13, 1⟩) (meth := k13m1) (c := k13c1) (by decide +kernel) rfl rfl rfl (by decide +kernel)
set_option maxRecDepth 65536 in
theorem w_c22 : (Jvm.Cond.code ({ cls := "java/lang/StringUTF16", name := "newBytesLength", desc := "(I)I" } : Jvm.MethodName) jdk_52_method_3_code (1 : Nat) (Option.some Jvm.ClassFile.FieldType.int)).before args0 about1 = true := code_word (m := ⟨13, 2⟩) (meth := k13m2) (c := k13c2) (by decide +kernel) rfl rfl rfl (by decide +kernel)
set_option maxRecDepth 65536 in
theorem w_c23 : (Jvm.Cond.code ({ cls := "java/lang/StringUTF16", name := "putChar", desc := "([BII)V" } : Jvm.MethodName) jdk_52_method_4_code (3 : Nat) (Option.none : Option Jvm.ClassFile.FieldType)).before args0 about1 = true := code_word (m := ⟨13, 3⟩) (meth := k13m3) (c := k13c3) (by decide +kernel) rfl rfl rfl (by decide +kernel)
set_option maxRecDepth 65536 in
theorem w_c24 : (Jvm.Cond.code ({ cls := "java/lang/StringUTF16", name := "getChar", desc := "([BI)C" } : Jvm.MethodName) jdk_52_method_5_code (2 : Nat) (Option.some Jvm.ClassFile.FieldType.char)).before args0 about1 = true := code_word (m := ⟨13, 4⟩) (meth := k13m4) (c := k13c4) (by decide +kernel) rfl rfl rfl (by decide +kernel)
set_option maxRecDepth 65536 in
theorem w_c25 : (Jvm.Cond.code ({ cls := "java/lang/StringUTF16", name := "charAt", desc := "([BI)C" } : Jvm.MethodName) jdk_52_method_83_code (2 : Nat) (Option.some Jvm.ClassFile.FieldType.char)).before args0 about1 = true := code_word (m := ⟨13, 10⟩) (meth := k13m10) (c := k13c10) (by decide +kernel) rfl rfl rfl (by decide +kernel)
set_option maxRecDepth 65536 in
theorem w_c26 : (Jvm.Cond.code ({ cls := "java/lang/StringUTF16", name := "checkIndex", desc := "(I[B)V" } : Jvm.MethodName) jdk_52_method_91_code (2 : Nat) (Option.none : Option Jvm.ClassFile.FieldType)).before args0 about1 = true := code_word (m := ⟨13, 11⟩) (meth := k13m11) (c := k13c11) (by decide +kernel) rfl rfl rfl (by decide +kernel)
set_option maxRecDepth 65536 in
theorem w_c27 : (Jvm.Cond.code ({ cls := "java/lang/StringUTF16", name := "length", desc := "([B)I" } : Jvm.MethodName) jdk_52_method_6_code (1 : Nat) (Option.some Jvm.ClassFile.FieldType.int)).before args0 about1 = true := code_word (m := ⟨13, 5⟩) (meth := k13m5) (c := k13c5) (by decide +kernel) rfl rfl rfl (by decide +kernel)
set_option maxRecDepth 65536 in
theorem w_c28 : (Jvm.Cond.code ({ cls := "com/example/paredown/paredown/PercentEncodingDecodeBytesPinLaw", name := "hex", desc := "(C)I" } : Jvm.MethodName) method_3_code (2 : Nat) (Option.some Jvm.ClassFile.FieldType.int)).before args0 about1 = true := code_word (m := ⟨1, 2⟩) (meth := k1m2) (c := k1c2) (by decide +kernel) rfl rfl rfl (by decide +kernel)
set_option maxRecDepth 65536 in
theorem w_c29 : (Jvm.Cond.code ({ cls := "com/example/paredown/paredown/PercentEncoding", name := "hexDigit", desc := "(C)I" } : Jvm.MethodName) prog_18_method_5_code (1 : Nat) (Option.some Jvm.ClassFile.FieldType.int)).before args0 about1 = true := code_word (m := ⟨10, 2⟩) (meth := k10m2) (c := k10c2) (by decide +kernel) rfl rfl rfl (by decide +kernel)
set_option maxRecDepth 65536 in
theorem w_c30 : (Jvm.Cond.code ({ cls := "java/lang/Math", name := "min", desc := "(II)I" } : Jvm.MethodName) jdk_29_method_69_code (2 : Nat) (Option.some Jvm.ClassFile.FieldType.int)).before args0 about1 = true := code_word (m := ⟨14, 1⟩) (meth := k14m1) (c := k14c1) (by decide +kernel) rfl rfl rfl (by decide +kernel)
def codes1 : List Jvm.Cond := [Jvm.Cond.code x code maxLocals ret, Jvm.Cond.code ({ cls := "com/example/paredown/paredown/PercentEncodingDecodeBytesPinLaw", name := "draw", desc := "(I)C" } : Jvm.MethodName) method_2_code (3 : Nat) (Option.some Jvm.ClassFile.FieldType.char), Jvm.Cond.code ({ cls := "java/lang/String", name := "charAt", desc := "(I)C" } : Jvm.MethodName) jdk_42_method_56_code (2 : Nat) (Option.some Jvm.ClassFile.FieldType.char), Jvm.Cond.code ({ cls := "java/lang/String", name := "isLatin1", desc := "()Z" } : Jvm.MethodName) jdk_42_method_154_code (1 : Nat) (Option.some Jvm.ClassFile.FieldType.boolean), Jvm.Cond.code ({ cls := "java/lang/StringLatin1", name := "charAt", desc := "([BI)C" } : Jvm.MethodName) jdk_43_method_2_code (2 : Nat) (Option.some Jvm.ClassFile.FieldType.char), Jvm.Cond.code ({ cls := "java/lang/String", name := "checkIndex", desc := "(II)V" } : Jvm.MethodName) jdk_42_method_155_code (2 : Nat) (Option.none : Option Jvm.ClassFile.FieldType), Jvm.Cond.code ({ cls := "jdk/internal/util/Preconditions", name := "checkIndex", desc := "(IILjava/util/function/BiFunction;)I" } : Jvm.MethodName) jdk_41_method_11_code (3 : Nat) (Option.some Jvm.ClassFile.FieldType.int), Jvm.Cond.code ({ cls := "java/lang/String", name := "<init>", desc := "([C)V" } : Jvm.MethodName) jdk_42_method_3_code (2 : Nat) (Option.none : Option Jvm.ClassFile.FieldType), Jvm.Cond.code ({ cls := "java/lang/String", name := "<init>", desc := "([CIILjava/lang/Void;)V" } : Jvm.MethodName) jdk_42_method_149_code (6 : Nat) (Option.none : Option Jvm.ClassFile.FieldType), Jvm.Cond.code ({ cls := "java/lang/Object", name := "<init>", desc := "()V" } : Jvm.MethodName) object_method_1_code (1 : Nat) (Option.none : Option Jvm.ClassFile.FieldType), Jvm.Cond.code ({ cls := "com/example/paredown/paredown/PercentEncoding", name := "decodeBytes", desc := "(Ljava/lang/String;Z)[B" } : Jvm.MethodName) prog_18_method_4_code (8 : Nat) (Option.some (Jvm.ClassFile.FieldType.array Jvm.ClassFile.FieldType.byte)), Jvm.Cond.code ({ cls := "java/lang/String", name := "length", desc := "()I" } : Jvm.MethodName) jdk_42_method_54_code (1 : Nat) (Option.some Jvm.ClassFile.FieldType.int), Jvm.Cond.code ({ cls := "java/lang/String", name := "coder", desc := "()B" } : Jvm.MethodName) jdk_42_method_152_code (1 : Nat) (Option.some Jvm.ClassFile.FieldType.byte), Jvm.Cond.code ({ cls := "java/util/Arrays", name := "copyOf", desc := "([BI)[B" } : Jvm.MethodName) jdk_65_method_121_code (3 : Nat) (Option.some (Jvm.ClassFile.FieldType.array Jvm.ClassFile.FieldType.byte)), Jvm.Cond.code ({ cls := "com/example/paredown/paredown/PercentEncodingDecodeBytesPinLaw", name := "at", desc := "([B[III)Z" } : Jvm.MethodName) method_6_code (4 : Nat) (Option.some Jvm.ClassFile.FieldType.boolean), Jvm.Cond.code ({ cls := "java/lang/StringUTF16", name := "compress", desc := "([CII)[B" } : Jvm.MethodName) jdk_52_method_16_code (6 : Nat) (Option.some (Jvm.ClassFile.FieldType.array Jvm.ClassFile.FieldType.byte)), Jvm.Cond.code ({ cls := "java/lang/StringUTF16", name := "compress", desc := "([CI[BII)I" } : Jvm.MethodName) jdk_52_method_21_code (7 : Nat) (Option.some Jvm.ClassFile.FieldType.int), Jvm.Cond.code ({ cls := "java/lang/StringUTF16", name := "coderFromArrayLen", desc := "([BI)B" } : Jvm.MethodName) jdk_52_method_15_code (2 : Nat) (Option.some Jvm.ClassFile.FieldType.byte), Jvm.Cond.code ({ cls := "com/example/paredown/paredown/PercentEncodingDecodeBytesPinLaw", name := "step", desc := "([CIIZ[I[I)I" } : Jvm.MethodName) method_5_code (9 : Nat) (Option.some Jvm.ClassFile.FieldType.int), Jvm.Cond.code ({ cls := "com/example/paredown/paredown/PercentEncodingDecodeBytesPinLaw", name := "plain", desc := "(CZ)I" } : Jvm.MethodName) method_4_code (2 : Nat) (Option.some Jvm.ClassFile.FieldType.int), Jvm.Cond.code ({ cls := "java/lang/StringUTF16", name := "toBytes", desc := "([CII)[B" } : Jvm.MethodName) jdk_52_method_14_code (5 : Nat) (Option.some (Jvm.ClassFile.FieldType.array Jvm.ClassFile.FieldType.byte)), Jvm.Cond.code ({ cls := "java/lang/StringUTF16", name := "newBytesFor", desc := "(I)[B" } : Jvm.MethodName) jdk_52_method_2_code (1 : Nat) (Option.some (Jvm.ClassFile.FieldType.array Jvm.ClassFile.FieldType.byte)), Jvm.Cond.code ({ cls := "java/lang/StringUTF16", name := "newBytesLength", desc := "(I)I" } : Jvm.MethodName) jdk_52_method_3_code (1 : Nat) (Option.some Jvm.ClassFile.FieldType.int), Jvm.Cond.code ({ cls := "java/lang/StringUTF16", name := "putChar", desc := "([BII)V" } : Jvm.MethodName) jdk_52_method_4_code (3 : Nat) (Option.none : Option Jvm.ClassFile.FieldType), Jvm.Cond.code ({ cls := "java/lang/StringUTF16", name := "getChar", desc := "([BI)C" } : Jvm.MethodName) jdk_52_method_5_code (2 : Nat) (Option.some Jvm.ClassFile.FieldType.char), Jvm.Cond.code ({ cls := "java/lang/StringUTF16", name := "charAt", desc := "([BI)C" } : Jvm.MethodName) jdk_52_method_83_code (2 : Nat) (Option.some Jvm.ClassFile.FieldType.char), Jvm.Cond.code ({ cls := "java/lang/StringUTF16", name := "checkIndex", desc := "(I[B)V" } : Jvm.MethodName) jdk_52_method_91_code (2 : Nat) (Option.none : Option Jvm.ClassFile.FieldType), Jvm.Cond.code ({ cls := "java/lang/StringUTF16", name := "length", desc := "([B)I" } : Jvm.MethodName) jdk_52_method_6_code (1 : Nat) (Option.some Jvm.ClassFile.FieldType.int), Jvm.Cond.code ({ cls := "com/example/paredown/paredown/PercentEncodingDecodeBytesPinLaw", name := "hex", desc := "(C)I" } : Jvm.MethodName) method_3_code (2 : Nat) (Option.some Jvm.ClassFile.FieldType.int), Jvm.Cond.code ({ cls := "com/example/paredown/paredown/PercentEncoding", name := "hexDigit", desc := "(C)I" } : Jvm.MethodName) prog_18_method_5_code (1 : Nat) (Option.some Jvm.ClassFile.FieldType.int), Jvm.Cond.code ({ cls := "java/lang/Math", name := "min", desc := "(II)I" } : Jvm.MethodName) jdk_29_method_69_code (2 : Nat) (Option.some Jvm.ClassFile.FieldType.int)]
set_option maxRecDepth 65536 in
theorem codes_eq : words1.filter isCode = codes1 := rfl
theorem w_codes : ∀ c ∈ words1.filter isCode, c.before args0 about1 = true := by
  rw [codes_eq]
  intro c hc
  simp only [codes1, List.mem_cons, List.not_mem_nil, or_false] at hc
  rcases hc with rfl | rfl | rfl | rfl | rfl | rfl | rfl | rfl | rfl | rfl | rfl | rfl | rfl | rfl | rfl | rfl | rfl | rfl | rfl | rfl | rfl | rfl | rfl | rfl | rfl | rfl | rfl | rfl | rfl | rfl | rfl
  · exact w_c0
  · exact w_c1
  · exact w_c2
  · exact w_c3
  · exact w_c4
  · exact w_c5
  · exact w_c6
  · exact w_c7
  · exact w_c8
  · exact w_c9
  · exact w_c10
  · exact w_c11
  · exact w_c12
  · exact w_c13
  · exact w_c14
  · exact w_c15
  · exact w_c16
  · exact w_c17
  · exact w_c18
  · exact w_c19
  · exact w_c20
  · exact w_c21
  · exact w_c22
  · exact w_c23
  · exact w_c24
  · exact w_c25
  · exact w_c26
  · exact w_c27
  · exact w_c28
  · exact w_c29
  · exact w_c30
set_option maxRecDepth 65536 in
theorem w_t1 : (words1.take 24).all (fun c => isCode c || c.before args0 about1) = true := by decide +kernel
set_option maxRecDepth 65536 in
theorem w_t2 : ((words1.drop 24).take 24).all (fun c => isCode c || c.before args0 about1) = true := by decide +kernel
set_option maxRecDepth 65536 in
theorem w_t3 : (((words1.drop 24).drop 24).take 24).all (fun c => isCode c || c.before args0 about1) = true := by decide +kernel
set_option maxRecDepth 65536 in
theorem w_t4 : ((((words1.drop 24).drop 24).drop 24).take 24).all (fun c => isCode c || c.before args0 about1) = true := by decide +kernel
set_option maxRecDepth 65536 in
theorem w_t5 : (((((words1.drop 24).drop 24).drop 24).drop 24).take 24).all (fun c => isCode c || c.before args0 about1) = true := by decide +kernel
set_option maxRecDepth 65536 in
theorem w_t6 : (((((words1.drop 24).drop 24).drop 24).drop 24).drop 24).all (fun c => isCode c || c.before args0 about1) = true := by decide +kernel
theorem w_tables : (allAtoms (Jvm.Cond.code x code maxLocals ret :: tables_1)).before args0 about1 = true := by
  rw [allAtoms_all]
  show words1.all (fun c => c.before args0 about1) = true
  refine all_split ?_ w_codes
  rw [← List.take_append_drop 24 words1, List.all_append, w_t1, ← List.take_append_drop 24 (words1.drop 24), List.all_append, w_t2, ← List.take_append_drop 24 ((words1.drop 24).drop 24), List.all_append, w_t3, ← List.take_append_drop 24 (((words1.drop 24).drop 24).drop 24), List.all_append, w_t4, ← List.take_append_drop 24 ((((words1.drop 24).drop 24).drop 24).drop 24), List.all_append, w_t5, w_t6]
  rfl
set_option maxRecDepth 65536 in
theorem w_rest : rest_1_c.before args0 about1 = true := by decide +kernel
set_option maxRecDepth 65536 in
theorem w_case : (Jvm.Cond.and given_1 narrow_1).before args0 about1 = true := by decide +kernel
set_option maxRecDepth 65536 in
theorem w_consts : constsHeld consts_1 about1 := Jvm.Lit.constsHeldB_iff.mp (by decide +kernel)
theorem w_applies : (headSpec (Jvm.Cond.code x code maxLocals ret :: tables_1) room_1).applies x e0.platform about1 = true :=
  (Spec.applies_iff w_frames).mpr ⟨w_running, w_runnable, w_alone, w_named, w_hears, w_ripe, w_room, w_tables⟩
theorem atStart : AtStart classFile x code maxLocals ret World_1 tables_1 room_1 Calls_1 rest_1 Pre_1 launch0 p0 e0 about1 theMethod args0 below0 :=
  ⟨lists_1, trivial, launch0.admits_env _ _ _, launch0.least_env, fairChoices_fair.cas, fairChoices_fair.clock, w_frames, w_args, w_heap, w_applies, ⟨w_consts, trivial⟩, w_rest, w_case⟩
end start1
theorem witness_1 : WitnessClaimed_1 := ⟨start1.p0, start1.e0, start1.about1, start1.theMethod, start1.args0, start1.below0, start1.atStart⟩
end Jvm.Pilot.@@N@@
