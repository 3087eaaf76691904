import JvmDerived
import JvmDerived.Pilot.@@N@@Statement
import JvmDerived.Pilot.@@N@@Code
set_option linter.unusedVariables false
set_option linter.unusedSimpArgs false
namespace Jvm.OwnKit
open Sem ClassFile Op Lib Jvm.Stand Jvm.Free Jvm.LawKit Jvm.RoadKit Bundle
/-! The walk's own layer: one predicate for where a walk stands (Wk), one for what it still owes (Owe), one for a callee's contract (Ctr); literals may be interned on the road. -/
theorem nle {a b : Nat} (h : Nat.ble a b = true := by rfl) : a ≤ b := Nat.le_of_ble_eq_true h
theorem nlt {a b : Nat} (h : Nat.ble (a + 1) b = true := by rfl) : a < b := Nat.le_of_ble_eq_true h
def Owe (p : Program) (e : Env) (below : List Frame) (Post : Outcome → State → Prop) (T : State) (g : JFrame) : Prop :=
  ∃ (s₂ : State) (o : Outcome), Steps p.tables e below (T.setTop g) s₂ ∧ s₂.status = .running ∧ Ended s₂ below o ∧ Post o s₂
section OweS
variable {p : Program} {e : Env} {below : List Frame} {Post : Outcome → State → Prop} {T T' : State} {g g' : JFrame}
theorem Owe.via (st : ∀ t, Steps p.tables e below (T'.setTop g') t → Steps p.tables e below (T.setTop g) t) (k : Owe p e below Post T' g') : Owe p e below Post T g := by
  obtain ⟨s₂, o, h1, h2⟩ := k
  exact ⟨s₂, o, st _ h1, h2⟩
theorem Owe.go (st : Steps p.tables e below (T.setTop g) (T'.setTop g')) (k : Owe p e below Post T' g') : Owe p e below Post T g := by
  obtain ⟨s₂, o, h1, h2⟩ := k
  exact ⟨s₂, o, st.trans h1, h2⟩
theorem Owe.join {P : Prop} (g'' : JFrame) (h1 : P → Owe p e below Post T g'') (h2 : (P → Owe p e below Post T g'') → Owe p e below Post T g) : Owe p e below Post T g := h2 h1
theorem Owe.stk {m : MethodId} {pc : Nat} {ls : Array Slot} {st : List Value} (st' : List Value) (kk : Owe p e below Post T (mkF m pc ls st')) (q : st = st' := by rfl) : Owe p e below Post T (mkF m pc ls st) := q ▸ kk
theorem Owe.cast (q : g = g') (k : Owe p e below Post T g') : Owe p e below Post T g := q ▸ k
end OweS
/-- what is ours to write -/
def Mine (Z : State) (EL : List (String × Nat)) (hs : Heap) (sf0 : List Addr) (vm : Vm) (h : Heap) (sf : List Addr) : Prop :=
  ∀ x ∈ sf, x < h.size ∧ Z.heap.size ≤ x ∧ (x ∈ sf0 ∨ hs.size ≤ x) ∧ Safe Z EL vm h x
/-- where a walk stands -/
def Wk (p : Program) (l : Launch) (e : Env) (R : Room) (s : State) (m : MethodId) (args : Array Value) (below : List Frame) (meth : Method) (c : Code) (Z : State) (a0 : Array Value) (EL : List (String × Nat)) (own : String) (mx : Nat) (sf0 sf : List Addr) (T : State) (locs : List Loc) (cells slots : Nat) (h : Heap) : Prop :=
  (p.tables.exec = Jvm.exec ∧ EW Z a0 EL ∧ c.maxLocals = mx) ∧ ∃ (vm0 : Vm) (k0 : Nat), Stand p l e R (s.setVm vm0) m args below meth c T locs cells slots ∧ T.heap = h ∧ s.Since vm0 k0 ∧ k0 ≤ h.size ∧ Z.Warmed39 vm0 ∧ vm0.findClass own = some m.cls ∧ CHr Z EL s.vm s.heap vm0 h ∧ Fr Z.heap.size locs ∧ Ext Z.heap h ∧ Keep s.heap h sf0 ∧ Mine Z EL s.heap sf0 vm0 h sf
/-- the end of a contract -/
def PostW (Z : State) (EL : List (String × Nat)) (sf : List Addr) (rm : Room) (Q : Option Value → Heap → List Addr → Prop) (U : State) (o : Outcome) (U' : State) : Prop :=
  ∃ (v : Option Value) (L : List Loc) (fs : List Addr), o = .returned v ∧ Q v U'.heap fs ∧ Fr Z.heap.size L ∧ Ext Z.heap U'.heap ∧ Keep U.heap U'.heap sf ∧ CHr Z EL U.vm U.heap U'.vm U'.heap ∧ (∀ x ∈ fs, x < U'.heap.size ∧ Z.heap.size ≤ x ∧ U.heap.size ≤ x ∧ Safe Z EL U'.vm U'.heap x) ∧ ReturnedEndW U o U' L rm.cells rm.slots
/-- a body's contract, at one heap -/
def Ctr (l : Launch) (Z : State) (EL : List (String × Nat)) (y : MethodName) (bytes : ByteArray) (maxL : Nat) (ret : Option FieldType) (ws : List Cond) (rm : Room) (as' : Array Value) (sf : List Addr) (h : Heap) (Q : Option Value → Heap → List Addr → Prop) : Prop :=
  MetFree l y (head1 (Cond.code y bytes maxL ret :: ws) rm) (fun a U => a = as' ∧ Z.Warmed39 U.vm ∧ U.heap = h ∧ CHv Z EL U.vm h ∧ ∀ x ∈ sf, Safe Z EL U.vm h x) (fun _ _ _ _ _ => True) (fun _ U o U' => PostW Z EL sf rm Q U o U')
abbrev chr (x : Int32) : Int32 := x.toUInt32.toUInt16.toUInt32.toInt32
abbrev byt (x : Int32) : Int32 := x.toInt8.toInt32
theorem nar_chr (x : Int32) : nar .char (chr x) = chr x := by simp only [nar, chr, UInt32.toUInt32_toInt32, UInt16.toUInt16_toUInt32]
theorem nar_byt (x : Int32) : nar .byte (byt x) = byt x := by simp [nar, byt]
theorem chr_rng (x : Int32) : ¬ chr x < (0 : Int32) ∧ ¬ (65535 : Int32) < chr x := by
  have q := c_i2c x
  simp only [Int32.lt_iff_toInt_lt, Int32.reduceToInt, chr]
  omega
theorem chr_id {c : Int32} (h1 : ¬ c < (0 : Int32)) (h2 : ¬ (65535 : Int32) < c) : chr c = c := by
  have q := c_i2c c
  simp only [Int32.lt_iff_toInt_lt, Int32.reduceToInt] at h1 h2
  refine Int32.toInt_inj.mp ?_
  show c.toUInt32.toUInt16.toUInt32.toInt32.toInt = _
  omega
theorem chr255 (x : Int32) : ¬ chr (x &&& 255) < 0 ∧ ¬ (255 : Int32) < chr (x &&& 255) := by
  have e : chr (x &&& 255) = x &&& 255 := i2c_mask x
  have q := c_and x 255 (by decide)
  rw [e]; simp only [Int32.lt_iff_toInt_lt]
  have r : (255 : Int32).toInt = 255 := rfl
  have r0 : (0 : Int32).toInt = 0 := rfl
  omega
theorem allP1 {sf : List Addr} {n : Nat} {a : Addr} (h1 : a ∈ sf) (g1 : n ≤ a) : ∀ x ∈ [a], x ∈ sf ∧ n ≤ x := fun x hx => by obtain rfl := List.mem_singleton.mp hx; exact ⟨h1, g1⟩
theorem extTrans {h h' h'' : Heap} (A : Ext h h') (B : Ext h' h'') : Ext h h'' := ⟨Nat.le_trans A.1 B.1, fun a c q => B.2 a c (A.2 a c q)⟩
theorem keepExt {Z : State} {h h' : Heap} {ws : List Addr} (A : Ext Z.heap h) (K : Keep h h' ws) (q : ∀ x ∈ ws, Z.heap.size ≤ x) : Ext Z.heap h' := (Old.keep (Z := Z) (n0 := Z.heap.size) ⟨rfl, A⟩ K q).2
theorem Ctr.intro {l : Launch} {Z : State} {a0 : Array Value} {EL : List (String × Nat)} {y : MethodName} {bytes : ByteArray} {maxL : Nat} {ret : Option FieldType} {ws : List Cond} {rm : Room} {as' : Array Value} {sf : List Addr} {h : Heap} {Q : Option Value → Heap → List Addr → Prop}
    (hn : plainName y.cls = true) (hEL : EW Z a0 EL) (hZh : Ext Z.heap h) (hsf : ∀ x ∈ sf, x < h.size ∧ Z.heap.size ≤ x)
    (body : ∀ (p : Program) (e : Env) (s : State) (m : MethodId) (below : List Frame) (meth : Method) (c : Code) (s₁ : State), c.code = bytes → c.maxLocals = maxL → meth.sig.returnType = ret → meth.name = y.name → meth.locks = false → s.heap = h →
      Wk p l e rm s m as' below meth c Z a0 EL y.cls maxL sf sf s₁ [] 0 0 h → Owe p e below (PostW Z EL sf rm Q s) s₁ (entryFrame m as' maxL)) : Ctr l Z EL y bytes maxL ret ws rm as' sf h Q := by
  refine MetFree.of_bodySF (plainFor_of_name hn) hisR ?_
  intro p e s m args below meth c s₁ Bd hml hP hK
  obtain ⟨rfl, hZ, rfl, hC, hS⟩ := hP
  have X0 : Stand p l e rm (s.setVm s.vm) m args below meth c s₁ [] 0 0 := Stand.of_body Bd
  exact body p e s m below meth c s₁ Bd.bytes hml Bd.returns (name_of_methodNamed Bd.named Bd.method).1 Bd.notSynchronized rfl
    ⟨⟨Bd.exec, hEL, hml⟩, s.vm, s.heap.size, X0, by rw [Bd.state]; rfl, (State.WarmedH.refl s).since _, Nat.le_refl _, hZ, findClass_of_methodNamed Bd.named, CHr.refl hC, Fr.nil _, hZh, Keep.refl _ _, fun x hx => ⟨(hsf x hx).1, (hsf x hx).2, Or.inl hx, hS x hx⟩⟩
theorem Ctr.mono {l : Launch} {Z : State} {EL : List (String × Nat)} {y : MethodName} {bytes : ByteArray} {maxL : Nat} {ret : Option FieldType} {ws : List Cond} {rm : Room} {as' : Array Value} {sf : List Addr} {h : Heap} {Q Q' : Option Value → Heap → List Addr → Prop}
    (C : Ctr l Z EL y bytes maxL ret ws rm as' sf h Q) (q : ∀ v h' fs, Q v h' fs → Q' v h' fs) : Ctr l Z EL y bytes maxL ret ws rm as' sf h Q' := by
  intro p e ha hc hk s m args below hf happ hP hK
  obtain ⟨n, o, h1, h2, h3, v, L, fs, r1, r2, r3⟩ := C p e ha hc hk s m args below hf happ hP hK
  exact ⟨n, o, h1, h2, h3, v, L, fs, r1, q _ _ _ r2, r3⟩
theorem Owe.mono {p : Program} {e : Env} {below : List Frame} {Z : State} {EL : List (String × Nat)} {sf : List Addr} {rm : Room} {Q Q' : Option Value → Heap → List Addr → Prop} {s T : State} {g : JFrame} (q : ∀ v h fs, Q v h fs → Q' v h fs) (k : Owe p e below (PostW Z EL sf rm Q s) T g) : Owe p e below (PostW Z EL sf rm Q' s) T g := by
  obtain ⟨s₂, o, h1, h2, h3, v, L, fs, r1, r2, r3⟩ := k
  exact ⟨s₂, o, h1, h2, h3, v, L, fs, r1, q _ _ _ r2, r3⟩
section Walk
variable {p : Program} {l : Launch} {e : Env} {R : Room} {s : State} {m : MethodId} {args : Array Value} {below : List Frame} {meth : Method} {c : Code} {Z : State} {a0 : Array Value} {EL : List (String × Nat)} {own : String} {mx : Nat} {sf0 sf : List Addr} {T : State} {locs : List Loc} {cells slots : Nat} {h : Heap} {Post : Outcome → State → Prop} {pc pc' : Nat} {ls : Array Slot} {st : List Value}
theorem Wk.here (K : Wk p l e R s m args below meth c Z a0 EL own mx sf0 sf T locs cells slots h) : At T m c below := by obtain ⟨-, vm0, k0, X, -⟩ := K; exact X.here
theorem Wk.hmx (K : Wk p l e R s m args below meth c Z a0 EL own mx sf0 sf T locs cells slots h) : c.maxLocals = mx := K.1.2.2
theorem Wk.hx (K : Wk p l e R s m args below meth c Z a0 EL own mx sf0 sf T locs cells slots h) : p.tables.exec = Jvm.exec := K.1.1
theorem Wk.old (K : Wk p l e R s m args below meth c Z a0 EL own mx sf0 sf T locs cells slots h) : Ext Z.heap h := by obtain ⟨-, vm0, k0, -, -, -, -, -, -, -, -, q, -⟩ := K; exact q
theorem Wk.keep (K : Wk p l e R s m args below meth c Z a0 EL own mx sf0 sf T locs cells slots h) : Keep s.heap h sf0 := by obtain ⟨-, vm0, k0, -, -, -, -, -, -, -, -, -, q, -⟩ := K; exact q
theorem Wk.lt {x : Addr} (K : Wk p l e R s m args below meth c Z a0 EL own mx sf0 sf T locs cells slots h) (hx : x ∈ sf) : x < h.size := by obtain ⟨-, vm0, k0, -, -, -, -, -, -, -, -, -, -, q⟩ := K; exact (q x hx).1
theorem Wk.ge {x : Addr} (K : Wk p l e R s m args below meth c Z a0 EL own mx sf0 sf T locs cells slots h) (hx : x ∈ sf) : Z.heap.size ≤ x := by obtain ⟨-, vm0, k0, -, -, -, -, -, -, -, -, -, -, q⟩ := K; exact (q x hx).2.1
theorem Wk.both (K : Wk p l e R s m args below meth c Z a0 EL own mx sf0 sf T locs cells slots h) {sf' : List Addr} (q : ∀ x ∈ sf', x ∈ sf := by simp) : ∀ x ∈ sf', x < h.size ∧ Z.heap.size ≤ x := fun x hx => ⟨K.lt (q x hx), K.ge (q x hx)⟩
theorem Wk.to (K : Wk p l e R s m args below meth c Z a0 EL own mx sf0 sf T locs cells slots h) (cells' slots' : Nat) (sf' : List Addr) (hc : cells ≤ cells' := by decide) (hs : slots ≤ slots' := by decide) (q : ∀ x ∈ sf', x ∈ sf := by exact fun _ h => h) : Wk p l e R s m args below meth c Z a0 EL own mx sf0 sf' T locs cells' slots' h := by
  obtain ⟨q0, vm0, k0, X, r1, r2, r3, r4, r5, r6, r7, r8, r9, M⟩ := K
  exact ⟨q0, vm0, k0, X.more hc hs, r1, r2, r3, r4, r5, r6, r7, r8, r9, fun x hx => M x (q x hx)⟩
theorem Wk.more {cells' slots' : Nat} {sf' : List Addr} (K : Wk p l e R s m args below meth c Z a0 EL own mx sf0 sf T locs cells slots h) (hc : cells ≤ cells') (hs : slots ≤ slots') (q : ∀ x ∈ sf', x ∈ sf) : Wk p l e R s m args below meth c Z a0 EL own mx sf0 sf' T locs cells' slots' h := by
  obtain ⟨q0, vm0, k0, X, r1, r2, r3, r4, r5, r6, r7, r8, r9, M⟩ := K
  exact ⟨q0, vm0, k0, X.more hc hs, r1, r2, r3, r4, r5, r6, r7, r8, r9, fun x hx => M x (q x hx)⟩
/-! ### steps that leave the heap -/
theorem oGetF (K : Wk p l e R s m args below meth c Z a0 EL own mx sf0 sf T locs cells slots h) (pc' : Nat) {O n d : String} {index : Nat} {a : Addr} {v : Value} {rest : List Value} (w : (Cond.fieldLink own index O n d).before a0 Z = true) (F : Fld Z h a O n d v) (hd : decode c.code pc = .ok (.getfield index, 3)) (kk : ∀ T' : State, Wk p l e R s m args below meth c Z a0 EL own mx sf0 sf T' locs cells slots h → Owe p e below Post T' (mkF m pc' ls (v :: rest))) (hp : pc + 3 = pc' := by rfl) : Owe p e below Post T (mkF m pc ls (.ref a :: rest)) := by
  subst hp
  have hg : (mkF m pc ls (.ref a :: rest)).method = m := rfl
  have hs : (mkF m pc ls (.ref a :: rest)).stack = (.ref a :: rest) := rfl
  obtain ⟨q0, vm0, k0, X, eT, hS, hk, hZ, hown, q⟩ := K
  obtain ⟨T', X', e', st⟩ := getF (own := own) (host := "") X q0.1 (show Z.Warmed39 (s.setVm vm0).vm from hZ) hown (Or.inl w) Via.refl eT F hg hs hd
  exact Owe.via st (kk T' ⟨q0, vm0, k0, X', e', hS, hk, hZ, hown, q⟩)
theorem oGetS (K : Wk p l e R s m args below meth c Z a0 EL own mx sf0 sf T locs cells slots h) (pc' : Nat) {O n d : String} {index : Nat} {v : Value} (w : (Cond.fieldLink own index O n d).before a0 Z = true) (F : Sta Z h O n d v) (hd : decode c.code pc = .ok (.getstatic index, 3)) (kk : ∀ T' : State, Wk p l e R s m args below meth c Z a0 EL own mx sf0 sf T' locs cells slots h → Owe p e below Post T' (mkF m pc' ls (v :: st))) (hp : pc + 3 = pc' := by rfl) : Owe p e below Post T (mkF m pc ls st) := by
  subst hp
  have hg : (mkF m pc ls st).method = m := rfl
  obtain ⟨q0, vm0, k0, X, eT, hS, hk, hZ, hown, q⟩ := K
  obtain ⟨T', X', e', st⟩ := getS (own := own) (host := "") X q0.1 (show Z.Warmed39 (s.setVm vm0).vm from hZ) hown w Via.refl eT F hg hd
  exact Owe.via st (kk T' ⟨q0, vm0, k0, X', e', hS, hk, hZ, hown, q⟩)
theorem oCast (K : Wk p l e R s m args below meth c Z a0 EL own mx sf0 sf T locs cells slots h) (pc' : Nat) {C : String} {index : Nat} {a : Addr} {rest : List Value} (w : (Cond.classLink own index C).before a0 Z = true) (F : Ins Z h a C true) (hd : decode c.code pc = .ok (.checkcast index, 3)) (kk : ∀ T' : State, Wk p l e R s m args below meth c Z a0 EL own mx sf0 sf T' locs cells slots h → Owe p e below Post T' (mkF m pc' ls ((.ref a :: rest)))) (hp : pc + 3 = pc' := by rfl) : Owe p e below Post T (mkF m pc ls (.ref a :: rest)) := by
  subst hp
  have hg : (mkF m pc ls (.ref a :: rest)).method = m := rfl
  have hs : (mkF m pc ls (.ref a :: rest)).stack = (.ref a :: rest) := rfl
  obtain ⟨q0, vm0, k0, X, eT, hS, hk, hZ, hown, q⟩ := K
  obtain ⟨T', X', e', st⟩ := castY (own := own) X q0.1 (show Z.Warmed39 (s.setVm vm0).vm from hZ) hown w eT F hg hs hd
  exact Owe.via st (kk T' ⟨q0, vm0, k0, X', e', hS, hk, hZ, hown, q⟩)
theorem oInstY (K : Wk p l e R s m args below meth c Z a0 EL own mx sf0 sf T locs cells slots h) (pc' : Nat) {C : String} {index : Nat} {a : Addr} {rest : List Value} (w : (Cond.classLink own index C).before a0 Z = true) (F : Ins Z h a C true) (hd : decode c.code pc = .ok (.instanceof index, 3)) (kk : ∀ T' : State, Wk p l e R s m args below meth c Z a0 EL own mx sf0 sf T' locs cells slots h → Owe p e below Post T' (mkF m pc' ls (.int 1 :: rest))) (hp : pc + 3 = pc' := by rfl) : Owe p e below Post T (mkF m pc ls (.ref a :: rest)) := by
  subst hp
  have hg : (mkF m pc ls (.ref a :: rest)).method = m := rfl
  have hs : (mkF m pc ls (.ref a :: rest)).stack = (.ref a :: rest) := rfl
  obtain ⟨q0, vm0, k0, X, eT, hS, hk, hZ, hown, q⟩ := K
  obtain ⟨T', X', e', st⟩ := instY (own := own) X q0.1 (show Z.Warmed39 (s.setVm vm0).vm from hZ) hown w eT F hg hs hd
  exact Owe.via st (kk T' ⟨q0, vm0, k0, X', e', hS, hk, hZ, hown, q⟩)
theorem oInstN (K : Wk p l e R s m args below meth c Z a0 EL own mx sf0 sf T locs cells slots h) (pc' : Nat) {C D : String} {index : Nat} {a : Addr} {rest : List Value} (w : (Cond.classLink own index C).before a0 Z = true) (F : Ins Z s.heap a C false) (E : Exa Z s.heap a D) (hd : decode c.code pc = .ok (.instanceof index, 3)) (kk : ∀ T' : State, Wk p l e R s m args below meth c Z a0 EL own mx sf0 sf T' locs cells slots h → Owe p e below Post T' (mkF m pc' ls (.int 0 :: rest))) (hp : pc + 3 = pc' := by rfl) : Owe p e below Post T (mkF m pc ls (.ref a :: rest)) := by
  subst hp
  have hg : (mkF m pc ls (.ref a :: rest)).method = m := rfl
  have hs : (mkF m pc ls (.ref a :: rest)).stack = (.ref a :: rest) := rfl
  obtain ⟨q0, vm0, k0, X, eT, hS, hk, hZ, hown, q⟩ := K
  obtain ⟨T', X', e', st⟩ := instN (own := own) (C := D) X q0.1 (show Z.Warmed39 (s.setVm vm0).vm from hZ) hown w eT F E hg hs hd
  exact Owe.via st (kk T' ⟨q0, vm0, k0, X', e', hS, hk, hZ, hown, q⟩)
theorem oInitO (K : Wk p l e R s m args below meth c Z a0 EL own mx sf0 sf T locs cells slots h) (pc' : Nat) {idx : Nat} {a : Addr} {rest : List Value} (w1 : (Cond.methodLink own idx Lib.objectInit).before a0 Z = true) (w2 : (Cond.instanceMethod Lib.objectInit).before a0 Z = true) (w3 : (Cond.code Lib.objectInit ⟨#[0xb1]⟩ 1 none).before a0 Z = true) (hsize : ls.size = mx) (hd : decode c.code pc = .ok (.invokespecial idx, 3))
    (hf : 1 ≤ R.frames) {W : Nat} (hW : 2 * 0 + (rest.map fun v => v.category).sum ≤ W) (hl : W + 12 ≤ R.locals) (kk : ∀ T' : State, Wk p l e R s m args below meth c Z a0 EL own mx sf0 sf T' locs cells slots h → Owe p e below Post T' (mkF m pc' ls (rest))) (hp : pc + 3 = pc' := by rfl) : Owe p e below Post T (mkF m pc ls (.ref a :: rest)) := by
  subst hp
  have hg : (mkF m pc ls (.ref a :: rest)).method = m := rfl
  have hs : (mkF m pc ls (.ref a :: rest)).stack = (.ref a :: rest) := rfl
  obtain ⟨q0, vm0, k0, X, eT, hS, hk, hZ, hown, q⟩ := K
  obtain ⟨T', X', e', st⟩ := initO (own := own) X q0.1 (show Z.Warmed39 (s.setVm vm0).vm from hZ) hown w1 w2 w3 eT hg (hsize.trans q0.2.2.symm) hs hd hf hW hl
  exact Owe.via st (kk T' ⟨q0, vm0, k0, X', e', hS, hk, hZ, hown, q⟩)
theorem oLdcI (K : Wk p l e R s m args below meth c Z a0 EL own mx sf0 sf T locs cells slots h) (pc' : Nat) {index : Nat} {v : Int32} (w : (Cond.constant own index v).before a0 Z = true) (hd : decode c.code pc = .ok (.ldc index, 2)) (kk : Owe p e below Post T (mkF m pc' ls (.int v :: st))) (hp : pc + 2 = pc' := by rfl) : Owe p e below Post T (mkF m pc ls st) := by
  subst hp
  have hg : (mkF m pc ls st).method = m := rfl
  obtain ⟨q0, vm0, k0, X, eT, hS, hk, hZ, hown, q⟩ := K
  exact Owe.via (fun t r => X.ldcInt q0.1 (own := own) hown (mv (show Z.Warmed39 (s.setVm vm0).vm from hZ) w) hg hd t r) kk
theorem oLdc2J (K : Wk p l e R s m args below meth c Z a0 EL own mx sf0 sf T locs cells slots h) (pc' : Nat) {index : Nat} {v : Int64} (w : (Cond.constantLong own index v).before a0 Z = true) (hd : decode c.code pc = .ok (.ldc2_w index, 3)) (kk : Owe p e below Post T (mkF m pc' ls (.long v :: st))) (hp : pc + 3 = pc' := by rfl) : Owe p e below Post T (mkF m pc ls st) := by
  subst hp
  have hg : (mkF m pc ls st).method = m := rfl
  obtain ⟨q0, vm0, k0, X, eT, hS, hk, hZ, hown, q⟩ := K
  exact Owe.via (fun t r => X.ldc2Long q0.1 (own := own) hown (mv (show Z.Warmed39 (s.setVm vm0).vm from hZ) w) hg hd t r) kk
/-! ### arrays of known components -/
def Ary (Z : State) (h : Heap) (a : Addr) (ty : FieldType) (vs : List Value) : Prop := ∃ cl : Cell, Arr Z h a cl ty ∧ cl.slots = vs.toArray ∧ vs.length < 2 ^ 31 ∧ ∀ v ∈ vs, fits ty v = true
theorem Ary.lt {a : Addr} {ty : FieldType} {vs : List Value} (F : Ary Z h a ty vs) : a < h.size := by obtain ⟨_, A, -⟩ := F; exact A.lt
theorem Ary.ext {h' : Heap} {a : Addr} {ty : FieldType} {vs : List Value} (F : Ary Z h a ty vs) (E : Ext h h') : Ary Z h' a ty vs := by obtain ⟨cl, A, r⟩ := F; exact ⟨cl, A.ext E, r⟩
theorem Ary.other {h' : Heap} {a b : Addr} {ty : FieldType} {vs : List Value} {sl : Nat} {v : Value} (F : Ary Z h b ty vs) (W : Wr h h' a sl v) (q : b ≠ a) : Ary Z h' b ty vs := by obtain ⟨cl, A, r⟩ := F; exact ⟨cl, A.other W q, r⟩
theorem Ary.keep {h' : Heap} {a : Addr} {ty : FieldType} {vs : List Value} {ws : List Addr} (F : Ary Z h a ty vs) (K : Keep h h' ws) (q : a ∉ ws) : Ary Z h' a ty vs := by obtain ⟨cl, A, r⟩ := F; exact ⟨cl, ⟨K.2.1 a cl A.1 q, A.2⟩, r⟩
theorem Ary.same {h' : Heap} {a : Addr} {ty : FieldType} {vs : List Value} {i : Nat} {v : Value} (F : Ary Z h a ty vs) (W : Wr h h' a i v) (hv : fits ty v = true) : Ary Z h' a ty (vs.set i v) := by
  obtain ⟨cl, A, r1, r2, r3⟩ := F
  refine ⟨cl.setSlot i v, A.same W, ?_, by simpa using r2, fun w hw => ?_⟩
  · show cl.slots.setIfInBounds i v = _
    rw [r1]; simp
  · rcases List.mem_or_eq_of_mem_set hw with q | rfl
    · exact r3 _ q
    · exact hv
def lats : List Int32 → Prop
  | [] => True
  | c :: r => ¬ (255 : Int32) < c ∧ lats r
def wides : List Int32 → List Value
  | [] => []
  | c :: r => .int (byt (c >>> ((0 : Int32) &&& 31))) :: .int (byt (c >>> ((8 : Int32) &&& 31))) :: wides r
/-- a String of these chars, in either form -/
def Str (Z : State) (h : Heap) (b : Nat) (x : Addr) (cs : List Int32) : Prop :=
  ∃ t : Addr, x < b ∧ t < b ∧ Exa Z h x "java/lang/String" ∧ Fld Z h x "java/lang/String" "value" "[B" (.ref t) ∧ ((Fld Z h x "java/lang/String" "coder" "B" (.int (0 : Int32)) ∧ Ary Z h t .byte (cs.map fun c => .int (byt c)) ∧ lats cs) ∨ (Fld Z h x "java/lang/String" "coder" "B" (.int (1 : Int32)) ∧ Ary Z h t .byte (wides cs)))
theorem Str.lat {x t : Addr} {cs : List Int32} (E : Exa Z h x "java/lang/String") (V : Fld Z h x "java/lang/String" "value" "[B" (.ref t)) (C : Fld Z h x "java/lang/String" "coder" "B" (.int (0 : Int32))) (A : Ary Z h t .byte (cs.map fun c => .int (byt c))) (L : lats cs) : Str Z h h.size x cs := ⟨t, E.lt, A.lt, E, V, Or.inl ⟨C, A, L⟩⟩
theorem Str.wide {x t : Addr} {cs : List Int32} (E : Exa Z h x "java/lang/String") (V : Fld Z h x "java/lang/String" "value" "[B" (.ref t)) (C : Fld Z h x "java/lang/String" "coder" "B" (.int (1 : Int32))) (A : Ary Z h t .byte (wides cs)) : Str Z h h.size x cs := ⟨t, E.lt, A.lt, E, V, Or.inr ⟨C, A⟩⟩
theorem Str.exa {b : Nat} {x : Addr} {cs : List Int32} (S : Str Z h b x cs) : Exa Z h x "java/lang/String" := by obtain ⟨_, -, -, E, -⟩ := S; exact E
theorem Str.lt {b : Nat} {x : Addr} {cs : List Int32} (S : Str Z h b x cs) : x < h.size := S.exa.lt
theorem Str.ext {h' : Heap} {b : Nat} {x : Addr} {cs : List Int32} (S : Str Z h b x cs) (E : Ext h h') : Str Z h' b x cs := by
  obtain ⟨t, l1, l2, e, V, ⟨C, A, L⟩ | ⟨C, A⟩⟩ := S
  · exact ⟨t, l1, l2, e.ext E, V.ext E, Or.inl ⟨C.ext E, A.ext E, L⟩⟩
  · exact ⟨t, l1, l2, e.ext E, V.ext E, Or.inr ⟨C.ext E, A.ext E⟩⟩
theorem Str.keep {h' : Heap} {b : Nat} {x : Addr} {cs : List Int32} {ws : List Addr} (S : Str Z h b x cs) (K : Keep h h' ws) (q : ∀ w ∈ ws, b ≤ w) : Str Z h' b x cs := by
  obtain ⟨t, l1, l2, e, V, r⟩ := S
  have n1 : x ∉ ws := fun g => absurd (q x g) (Nat.not_le_of_lt l1)
  have n2 : t ∉ ws := fun g => absurd (q t g) (Nat.not_le_of_lt l2)
  rcases r with ⟨C, A, L⟩ | ⟨C, A⟩
  · exact ⟨t, l1, l2, e.keep K, V.keep K n1, Or.inl ⟨C.keep K n1, A.keep K n2, L⟩⟩
  · exact ⟨t, l1, l2, e.keep K, V.keep K n1, Or.inr ⟨C.keep K n1, A.keep K n2⟩⟩
theorem Str.wr {h' : Heap} {b : Nat} {x a : Addr} {cs : List Int32} {sl : Nat} {v : Value} (S : Str Z h b x cs) (W : Wr h h' a sl v) (q : b ≤ a) : Str Z h' b x cs := by
  obtain ⟨t, l1, l2, e, V, r⟩ := S
  have n1 : x ≠ a := Nat.ne_of_lt (Nat.lt_of_lt_of_le l1 q)
  have n2 : t ≠ a := Nat.ne_of_lt (Nat.lt_of_lt_of_le l2 q)
  rcases r with ⟨C, A, L⟩ | ⟨C, A⟩
  · exact ⟨t, l1, l2, e.wr W, Fld.other W V (Or.inl n1), Or.inl ⟨Fld.other W C (Or.inl n1), A.other W n2, L⟩⟩
  · exact ⟨t, l1, l2, e.wr W, Fld.other W V (Or.inl n1), Or.inr ⟨Fld.other W C (Or.inl n1), A.other W n2⟩⟩
theorem geN {b : Nat} : ∀ w ∈ ([] : List Addr), b ≤ w := fun _ h => by cases h
theorem geS {b : Nat} {a : Addr} {ws : List Addr} (g : b ≤ a) (r : ∀ w ∈ ws, b ≤ w) : ∀ w ∈ a :: ws, b ≤ w := fun w h => by
  rcases List.mem_cons.mp h with rfl | q
  · exact g
  · exact r w q
theorem Ary.start {args : Array Value} {t : Term} {a : Addr} {ty : FieldType} {vs : List Value} (hF : Fit Z) (ev : t.eval args Z none [] Z = some (.ref a)) (hx : (Cond.arrayOf t ty).value args Z none Z [] = some true) {n : Int32} (hl : (Term.length t).eval args Z none [] Z = some (.int n)) (hn : n.toNatClampNeg = vs.length)
    (he : ∀ (i : Nat) (v : Value), vs[i]? = some v → (Int32.ofNat i).toNatClampNeg = i ∧ (Term.elem t (.int (Int32.ofNat i))).eval args Z none [] Z = some v) : Ary Z Z.heap a ty vs := by
  obtain ⟨cl, A⟩ := Arr.start ev hx
  have ha : Z.arrayAt? a = some cl := Arr.fin (Vm.Alike.refl _) A
  obtain ⟨a', cl', e1, e2, e3⟩ := Term.length_spec hl
  cases ev.symm.trans e1
  cases ha.symm.trans e2
  have hb : cl.slots.size < 2 ^ 31 := by
    refine Classical.byContradiction fun q => ?_
    have z : (Term.length t).eval args Z none [] Z = none := by simp [Term.eval, ev, ha]; omega
    rw [hl] at z; cases z
  have hsz : cl.slots.size = vs.length := by
    have e4 : n = cl.slots.size.toInt32 := Value.int.inj e3
    rw [← hn, e4]
    have := Int32.toNatClampNeg_ofNat_of_lt (n := cl.slots.size) (by omega)
    exact this.symm
  have hi : ∀ (i : Nat) (v : Value), vs[i]? = some v → cl.slots[i]? = some v ∧ fits ty v = true := by
    intro i v hv
    obtain ⟨q1, q2⟩ := he i v hv
    obtain ⟨r1, r2⟩ := elem_in q2 ev (Term.int_eval _) A.1
    obtain ⟨w, s1, s2⟩ := elem_fit hF A r1
    rw [q1] at r2 s1
    cases r2.symm.trans s1
    exact ⟨r2, s2⟩
  refine ⟨cl, A, ?_, by omega, fun v hv => ?_⟩
  · apply Array.ext_getElem?
    intro i
    cases hv : vs[i]? with
    | some v => rw [(hi i v hv).1]; simpa using hv.symm
    | none =>
      have := List.getElem?_eq_none_iff.mp hv
      rw [Array.getElem?_eq_none (by omega)]; simpa using hv.symm
  · obtain ⟨i, hi', rfl⟩ := List.mem_iff_getElem.mp hv
    exact (hi i _ (List.getElem?_eq_getElem hi')).2
theorem Ary.arv {a : Addr} {ty : FieldType} {vs : List Value} (F : Ary Z h a ty vs) (d : Value) {n : Int32} (hn : n = Int32.ofNat vs.length) : ∃ k, Arv Z h a k ty n vs d := by
  obtain ⟨cl, A, r1, r2, r3⟩ := F
  subst hn
  have hs : cl.slots.size = vs.length := by rw [r1]; simp
  have ht : (Int32.ofNat vs.length).toInt = vs.length := Int32.toInt_ofNat_small r2
  refine ⟨cl.cls, cl, A, rfl, ?_, ?_, fun i hi => ?_, fun i hi => ?_⟩
  · rw [hs]; simp only [Int32.toNatClampNeg, ht]; simp
  · simp only [Int32.lt_iff_toInt_lt, ht, Int32.reduceToInt]; omega
  · rw [hs] at hi; rw [r1]; simp [hi]
  · rw [hs] at hi
    have : vs.getD i d = vs[i] := by simp [hi]
    rw [this]; exact r3 _ (List.getElem_mem hi)
theorem Ary.ofArv {a : Addr} {ty : FieldType} {vs : List Value} {d : Value} {n : Int32} {kc : ClassId} (F : Arv Z h a kc ty n vs d) (hn : n = Int32.ofNat vs.length) (hl : vs.length < 2 ^ 31) : Ary Z h a ty vs := by
  obtain ⟨cl, A, -, r2, r3, H, G⟩ := F
  subst hn
  have ht : (Int32.ofNat vs.length).toInt = vs.length := Int32.toInt_ofNat_small hl
  have hs : cl.slots.size = vs.length := by rw [r2]; simp only [Int32.toNatClampNeg, ht]; simp
  refine ⟨cl, A, ?_, hl, fun v hv => ?_⟩
  · apply Array.ext
    · simpa using hs
    · intro i h1 h2
      have e1 := H i h1
      rw [Array.getElem?_eq_getElem h1] at e1
      have h3 : i < vs.length := by omega
      rw [Option.some.inj e1]; simp [h3]
  · obtain ⟨i, hi, rfl⟩ := List.mem_iff_getElem.mp hv
    have e1 := G i (by omega)
    have : vs.getD i d = vs[i] := by simp [hi]
    rw [this] at e1; exact e1
theorem inb {cl : Cell} {vs : List Value} {j : Int32} {i : Nat} (r1 : cl.slots = vs.toArray) (hj : ¬ j < 0) (hi : j.toNatClampNeg = i) (hl : i < vs.length) : ¬ (j < 0 ∨ cl.slots.size ≤ j.toNatClampNeg) := by
  rw [r1, hi]; simp only [List.size_toArray]; intro q; rcases q with q | q
  · exact hj q
  · omega
theorem oLen (K : Wk p l e R s m args below meth c Z a0 EL own mx sf0 sf T locs cells slots h) (pc' : Nat) {a : Addr} {ty : FieldType} {vs : List Value} {n : Int32} {rest : List Value} (A : Ary Z h a ty vs) (hn : Int32.ofNat vs.length = n) (hd : decode c.code pc = .ok (.arraylength, 1)) (kk : Owe p e below Post T (mkF m pc' ls (.int n :: rest))) (hp : pc + 1 = pc' := by rfl) : Owe p e below Post T (mkF m pc ls (.ref a :: rest)) := by
  subst hp
  have hg : (mkF m pc ls (.ref a :: rest)).method = m := rfl
  have hs : (mkF m pc ls (.ref a :: rest)).stack = (.ref a :: rest) := rfl
  obtain ⟨q0, vm0, k0, X, eT, hS, hk, hZ, hown, q⟩ := K
  obtain ⟨cl, A, r1, r2, r3⟩ := A
  have e : cl.slots.size.toInt32 = n := by rw [r1, ← hn]; simp
  exact Owe.via (fun t r => X.arraylength q0.1 (by rw [eT]; exact A.1) (State.isArrayOf_alike (show Z.vm.Alike (s.setVm vm0).vm from hZ.alike) A.2.1) hg hs hd t (by rw [e]; exact r)) kk
theorem oCaload (K : Wk p l e R s m args below meth c Z a0 EL own mx sf0 sf T locs cells slots h) (pc' : Nat) {a : Addr} {vs : List Value} {v : Value} {j : Int32} {rest : List Value} (A : Ary Z h a .char vs) (i : Nat) (hj : ¬ j < 0) (hi : j.toNatClampNeg = i) (hv : vs[i]? = some v) (hd : decode c.code pc = .ok (.caload, 1)) (kk : Owe p e below Post T (mkF m pc' ls (v :: rest))) (hp : pc + 1 = pc' := by rfl) : Owe p e below Post T (mkF m pc ls (.int j :: .ref a :: rest)) := by
  subst hp
  have hg : (mkF m pc ls (.int j :: .ref a :: rest)).method = m := rfl
  have hs : (mkF m pc ls (.int j :: .ref a :: rest)).stack = (.int j :: .ref a :: rest) := rfl
  obtain ⟨q0, vm0, k0, X, eT, hS, hk, hZ, hown, q⟩ := K
  obtain ⟨cl, A, r1, r2, r3⟩ := A
  exact Owe.via (fun t r => X.caload q0.1 (by rw [eT]; exact A.1) (State.isArrayOf_alike (show Z.vm.Alike (s.setVm vm0).vm from hZ.alike) A.2.1) A.2.2 (inb r1 hj hi (List.getElem?_eq_some_iff.mp hv).1) (by rw [r1, hi]; simpa using hv) hg hs hd t r) kk
theorem oIaload (K : Wk p l e R s m args below meth c Z a0 EL own mx sf0 sf T locs cells slots h) (pc' : Nat) {a : Addr} {vs : List Value} {v : Value} {j : Int32} {rest : List Value} (A : Ary Z h a .int vs) (i : Nat) (hj : ¬ j < 0) (hi : j.toNatClampNeg = i) (hv : vs[i]? = some v) (hd : decode c.code pc = .ok (.iaload, 1)) (kk : Owe p e below Post T (mkF m pc' ls (v :: rest))) (hp : pc + 1 = pc' := by rfl) : Owe p e below Post T (mkF m pc ls (.int j :: .ref a :: rest)) := by
  subst hp
  have hg : (mkF m pc ls (.int j :: .ref a :: rest)).method = m := rfl
  have hs : (mkF m pc ls (.int j :: .ref a :: rest)).stack = (.int j :: .ref a :: rest) := rfl
  obtain ⟨q0, vm0, k0, X, eT, hS, hk, hZ, hown, q⟩ := K
  obtain ⟨cl, A, r1, r2, r3⟩ := A
  exact Owe.via (fun t r => X.iaload q0.1 (by rw [eT]; exact A.1) (State.isArrayOf_alike (show Z.vm.Alike (s.setVm vm0).vm from hZ.alike) A.2.1) A.2.2 (inb r1 hj hi (List.getElem?_eq_some_iff.mp hv).1) (by rw [r1, hi]; simpa using hv) hg hs hd t r) kk
theorem oBaload (K : Wk p l e R s m args below meth c Z a0 EL own mx sf0 sf T locs cells slots h) (pc' : Nat) {a : Addr} {vs : List Value} {v : Value} {j : Int32} {rest : List Value} (A : Ary Z h a .byte vs) (i : Nat) (hj : ¬ j < 0) (hi : j.toNatClampNeg = i) (hv : vs[i]? = some v) (hd : decode c.code pc = .ok (.baload, 1)) (kk : Owe p e below Post T (mkF m pc' ls (v :: rest))) (hp : pc + 1 = pc' := by rfl) : Owe p e below Post T (mkF m pc ls (.int j :: .ref a :: rest)) := by
  subst hp
  have hg : (mkF m pc ls (.int j :: .ref a :: rest)).method = m := rfl
  have hs : (mkF m pc ls (.int j :: .ref a :: rest)).stack = (.int j :: .ref a :: rest) := rfl
  obtain ⟨q0, vm0, k0, X, eT, hS, hk, hZ, hown, q⟩ := K
  obtain ⟨cl, A, r1, r2, r3⟩ := A
  exact Owe.via (fun t r => X.baloadBytes q0.1 (by rw [eT]; exact A.1) (State.isArrayOf_alike (show Z.vm.Alike (s.setVm vm0).vm from hZ.alike) A.2.1) A.2.2 (inb r1 hj hi (List.getElem?_eq_some_iff.mp hv).1) (by rw [r1, hi]; simpa using hv) hg hs hd t r) kk
theorem oAaload (K : Wk p l e R s m args below meth c Z a0 EL own mx sf0 sf T locs cells slots h) (pc' : Nat) {a : Addr} {ty : FieldType} {vs : List Value} {v : Value} {j : Int32} {rest : List Value} (A : Ary Z h a ty vs) (hty : ty.isReference = true) (i : Nat) (hj : ¬ j < 0) (hi : j.toNatClampNeg = i) (hv : vs[i]? = some v) (hd : decode c.code pc = .ok (.aaload, 1)) (kk : Owe p e below Post T (mkF m pc' ls (v :: rest))) (hp : pc + 1 = pc' := by rfl) : Owe p e below Post T (mkF m pc ls (.int j :: .ref a :: rest)) := by
  subst hp
  have hg : (mkF m pc ls (.int j :: .ref a :: rest)).method = m := rfl
  have hs : (mkF m pc ls (.int j :: .ref a :: rest)).stack = (.int j :: .ref a :: rest) := rfl
  obtain ⟨q0, vm0, k0, X, eT, hS, hk, hZ, hown, q⟩ := K
  obtain ⟨cl, A, r1, r2, r3⟩ := A
  exact Owe.via (fun t r => X.aaload q0.1 (by rw [eT]; exact A.1) (State.isArrayOf_alike (show Z.vm.Alike (s.setVm vm0).vm from hZ.alike) A.2.1) hty A.2.2 (inb r1 hj hi (List.getElem?_eq_some_iff.mp hv).1) (by rw [r1, hi]; simpa using hv) hg hs hd t r) kk
/-! ### steps that write or make -/
theorem Wk.wr {a : Addr} {sl : Nat} {v : Value} {vm0 : Vm} {k0 : Nat} {T' : State} {h' : Heap} (q0 : p.tables.exec = Jvm.exec ∧ EW Z a0 EL ∧ c.maxLocals = mx) (ha : a ∈ sf) (X' : Stand p l e R (s.setVm vm0) m args below meth c T' (locs ++ [⟨a, sl⟩]) cells slots) (e' : T'.heap = h') (W : Wr h h' a sl v)
    (hS : s.Since vm0 k0) (hk : k0 ≤ h.size) (hZ : Z.Warmed39 vm0) (hown : vm0.findClass own = some m.cls) (hC : CHr Z EL s.vm s.heap vm0 h) (N : Fr Z.heap.size locs) (E : Ext Z.heap h) (Kp : Keep s.heap h sf0) (M : Mine Z EL s.heap sf0 vm0 h sf) : Wk p l e R s m args below meth c Z a0 EL own mx sf0 sf T' (locs ++ [⟨a, sl⟩]) cells slots h' := by
  obtain ⟨m1, m2, m3, m4⟩ := M a ha
  exact ⟨q0, vm0, k0, X', e', hS, by rw [W.size]; exact hk, hZ, hown, hC.trans (CHr.wr W m4 hC.1), Fr.snoc X' N m2, (Old.wr (Z := Z) (n0 := Z.heap.size) ⟨rfl, E⟩ W m2).2, Kp.wr W m3,
    fun x hx => ⟨by rw [W.size]; exact (M x hx).1, (M x hx).2.1, (M x hx).2.2.1, Safe.wr W m4 hC.1 (M x hx).2.2.2⟩⟩
theorem oPutF (K : Wk p l e R s m args below meth c Z a0 EL own mx sf0 sf T locs cells slots h) (pc' : Nat) {O n d C : String} {index kk : Nat} {ty : FieldType} {a : Addr} {v old : Value} {rest : List Value} (ha : a ∈ sf) (w : (Cond.fieldLink own index O n d).before a0 Z = true) (F : Fld Z h a O n d old) (E : Exa Z h a C) (L : (Cond.lays C O n d).before a0 Z = true ∨ ((Cond.laysFinal C O n d).before a0 Z = true ∧ own = O ∧ meth.name = "<init>")) (wi : (Cond.instantiable C kk).before a0 Z = true)
    (hty : parseFieldDescriptor d = some ty) (hn : narrow ty v = v) (hf : fits ty v = true) (hd : decode c.code pc = .ok (.putfield index, 3)) (kk : ∀ (T' : State) (h' : Heap) (locs' : List Loc), Wk p l e R s m args below meth c Z a0 EL own mx sf0 sf T' locs' cells slots h' → Wr h h' a (RoadKit.slotOf Z O n d) v → Owe p e below Post T' (mkF m pc' ls (rest))) (hp : pc + 3 = pc' := by rfl) : Owe p e below Post T (mkF m pc ls (v :: .ref a :: rest)) := by
  subst hp
  have hg : (mkF m pc ls (v :: .ref a :: rest)).method = m := rfl
  have hs : (mkF m pc ls (v :: .ref a :: rest)).stack = (v :: .ref a :: rest) := rfl
  obtain ⟨q0, vm0, k0, X, eT, hS, hk, hZ, hown, hC, N, Ez, Kp, M⟩ := K
  obtain ⟨T', h', X', e', W, st⟩ := putF (own := own) (host := "") X q0.1 (show Z.Warmed39 (s.setVm vm0).vm from hZ) hown (Or.inl w) Via.refl eT F E L wi hty hn hf hg hs hd
  exact Owe.via st (kk T' h' _ (Wk.wr q0 ha X' e' W hS hk hZ hown hC N Ez Kp M) W)
theorem Wk.made {vm0 : Vm} {k0 cells' slots' : Nat} {T' : State} {h' : Heap} (q0 : p.tables.exec = Jvm.exec ∧ EW Z a0 EL ∧ c.maxLocals = mx) (X' : Stand p l e R (s.setVm vm0) m args below meth c T' locs cells' slots') (e' : T'.heap = h') (A : Ext h h') (lt : h.size < h'.size)
    (hS : s.Since vm0 k0) (hk : k0 ≤ h.size) (hZ : Z.Warmed39 vm0) (hown : vm0.findClass own = some m.cls) (hC : CHr Z EL s.vm s.heap vm0 h) (N : Fr Z.heap.size locs) (E : Ext Z.heap h) (Kp : Keep s.heap h sf0) (M : Mine Z EL s.heap sf0 vm0 h sf) : Wk p l e R s m args below meth c Z a0 EL own mx sf0 (h.size :: sf) T' locs cells' slots' h' := by
  refine ⟨q0, vm0, k0, X', e', hS, Nat.le_trans hk A.1, hZ, hown, hC.trans (CHr.ext A hC.1), N, extTrans E A, Kp.ext A, fun x hx => ?_⟩
  rcases List.mem_cons.mp hx with rfl | hx
  · exact ⟨lt, E.1, Or.inr Kp.1, Safe.ext A hC.1 (Safe.new (Nat.le_refl _))⟩
  · obtain ⟨m1, m2, m3, m4⟩ := M x hx
    exact ⟨Nat.lt_of_lt_of_le m1 A.1, m2, m3, Safe.ext A hC.1 m4⟩
theorem oNew (K : Wk p l e R s m args below meth c Z a0 EL own mx sf0 sf T locs cells slots h) (pc' : Nat) {C : String} {index n : Nat} (w : (Cond.classLink own index C).before a0 Z = true) (wi : (Cond.instantiable C n).before a0 Z = true) (wz : (Cond.initialized C).before a0 Z = true) (hd : decode c.code pc = .ok (.new index, 3)) (hc : cells + 1 ≤ R.cells) (hl : slots + n ≤ R.slots) (kk : ∀ (T' : State) (h' : Heap) (a : Addr), h.size = a → Wk p l e R s m args below meth c Z a0 EL own mx sf0 (a :: sf) T' locs (cells + 1) (slots + n) h' → Ext h h' → Exa Z h' a C → (∀ {O nm d : String} {ty : FieldType}, Laid Z a0 C O nm d → parseFieldDescriptor d = some ty → Fld Z h' a O nm d (defaultValue ty)) → Owe p e below Post T' (mkF m pc' ls (.ref a :: st))) (hp : pc + 3 = pc' := by rfl) : Owe p e below Post T (mkF m pc ls st) := by
  subst hp
  have hg : (mkF m pc ls st).method = m := rfl
  obtain ⟨q0, vm0, k0, X, eT, hS, hk, hZ, hown, hC, N, Ez, Kp, M⟩ := K
  obtain ⟨T', h', X', e', A, Ex, D, -, st⟩ := newO (own := own) X q0.1 (show Z.Warmed39 (s.setVm vm0).vm from hZ) hown w wi wz eT hg hd hc hl
  exact Owe.via st (kk T' h' _ rfl (Wk.made q0 X' e' A Ex.lt hS hk hZ hown hC N Ez Kp M) A Ex D)
theorem oNewP (K : Wk p l e R s m args below meth c Z a0 EL own mx sf0 sf T locs cells slots h) (pc' : Nat) {aty : ArrayType} {ty : FieldType} {n : Int32} {rest : List Value} (i : Nat) (w : (Cond.arrayClass ty).before a0 Z = true) (hty : newarray.typeOf aty = ty) (hn : ¬ n < 0) (hi : n.toNatClampNeg = i) (hb : i * 8 ≤ 536870912) (hd : decode c.code pc = .ok (.newarray aty, 2)) (hc : cells + 1 ≤ R.cells) (hl : slots + i ≤ R.slots) (kk : ∀ (T' : State) (h' : Heap) (a : Addr), h.size = a → Wk p l e R s m args below meth c Z a0 EL own mx sf0 (a :: sf) T' locs (cells + 1) (slots + i) h' → Ext h h' → Ary Z h' a ty (List.replicate i (defaultValue ty)) → Owe p e below Post T' (mkF m pc' ls (.ref a :: rest))) (hp : pc + 2 = pc' := by rfl) : Owe p e below Post T (mkF m pc ls (.int n :: rest)) := by
  subst hp
  have hg : (mkF m pc ls (.int n :: rest)).method = m := rfl
  have hs : (mkF m pc ls (.int n :: rest)).stack = (.int n :: rest) := rfl
  subst hty
  obtain ⟨q0, vm0, k0, X, eT, hS, hk, hZ, hown, hC, N, Ez, Kp, M⟩ := K
  obtain ⟨T', h', cA, X', e', A, Ar, st⟩ := newP X q0.1 (show Z.Warmed39 (s.setVm vm0).vm from hZ) w eT hg hd hs hn (cap := i) (Nat.le_of_eq hi) hb hc hl
  refine Owe.via st (kk T' h' _ rfl (Wk.made q0 X' e' A Ar.lt hS hk hZ hown hC N Ez Kp M) A ⟨_, Ar, ?_, ?_, fun v hv => ?_⟩)
  · simp [newA, hi]
  · simp; omega
  · rw [(List.mem_replicate.mp hv).2]; cases aty <;> rfl
theorem oNewR (K : Wk p l e R s m args below meth c Z a0 EL own mx sf0 sf T locs cells slots h) (pc' : Nat) {C : String} {index : Nat} {n : Int32} {rest : List Value} (i : Nat) (w1 : (Cond.classLink own index C).before a0 Z = true) (w2 : (Cond.arrayOver (.object C)).before a0 Z = true) (hn : ¬ n < 0) (hi : n.toNatClampNeg = i) (hb : i * 8 ≤ 536870912) (hd : decode c.code pc = .ok (.anewarray index, 3)) (hc : cells + 1 ≤ R.cells) (hl : slots + i ≤ R.slots) {ad : String} (had : "[" ++ (FieldType.object C).toString = ad) (kk : ∀ (T' : State) (h' : Heap) (a : Addr) (cA : ClassId), h.size = a → Wk p l e R s m args below meth c Z a0 EL own mx sf0 (a :: sf) T' locs (cells + 1) (slots + i) h' → Ext h h' → Ary Z h' a (.object C) (List.replicate i .null) → Exa Z h' a ad → (∀ {h2 : Heap} {y : Addr}, Keep h' h2 [a] → Ins Z h2 y C true → Sto Z h2 a (.ref y)) → Owe p e below Post T' (mkF m pc' ls (.ref a :: rest))) (hp : pc + 3 = pc' := by rfl) : Owe p e below Post T (mkF m pc ls (.int n :: rest)) := by
  subst hp
  have hg : (mkF m pc ls (.int n :: rest)).method = m := rfl
  have hs : (mkF m pc ls (.int n :: rest)).stack = (.int n :: rest) := rfl
  obtain ⟨q0, vm0, k0, X, eT, hS, hk, hZ, hown, hC, N, Ez, Kp, M⟩ := K
  obtain ⟨T', h', cA, X', e', A, Ar, Ea, Ov, st⟩ := newRE (own := own) X q0.1 (show Z.Warmed39 (s.setVm vm0).vm from hZ) hown w1 w2 eT hg hd hs hn (cap := i) (Nat.le_of_eq hi) hb hc hl had
  refine Owe.via st (kk T' h' _ cA rfl (Wk.made q0 X' e' A Ar.lt hS hk hZ hown hC N Ez Kp M) A ⟨_, Ar, ?_, ?_, fun v hv => ?_⟩ Ea (fun {h2 y} Kq I => ?_))
  · simp [newA, hi, defaultValue]
  · simp; omega
  · rw [(List.mem_replicate.mp hv).2]; rfl
  · obtain ⟨cl', z1, z2, z3, z4⟩ := Kq.2.2 _ _ Ar.1
    refine Sto.of (cl := cl') (ty := .object C) ⟨z1, ?_, ?_⟩ (by rw [z2]; exact Ov) I
    · obtain ⟨y1, y2⟩ := Ar.2.1
      exact ⟨by rw [z3]; exact y1, by rw [z2]; exact y2⟩
    · rw [z3]; exact Ar.2.2
theorem oCastore (K : Wk p l e R s m args below meth c Z a0 EL own mx sf0 sf T locs cells slots h) (pc' : Nat) {a : Addr} {vs : List Value} {x x' : Int32} {j : Int32} {rest : List Value} (ha : a ∈ sf) (A : Ary Z h a .char vs) (i : Nat) (hj : ¬ j < 0) (hi : j.toNatClampNeg = i) (hl : i < vs.length) (hv : nar .char x = x') (hd : decode c.code pc = .ok (.castore, 1)) (kk : ∀ (T' : State) (h' : Heap) (locs' : List Loc), Wk p l e R s m args below meth c Z a0 EL own mx sf0 sf T' locs' cells slots h' → Wr h h' a i (.int x') → Ary Z h' a .char (vs.set i (.int x')) → Owe p e below Post T' (mkF m pc' ls (rest))) (hp : pc + 1 = pc' := by rfl) : Owe p e below Post T (mkF m pc ls (.int x :: .int j :: .ref a :: rest)) := by
  subst hp
  have hg : (mkF m pc ls (.int x :: .int j :: .ref a :: rest)).method = m := rfl
  have hs : (mkF m pc ls (.int x :: .int j :: .ref a :: rest)).stack = (.int x :: .int j :: .ref a :: rest) := rfl
  obtain ⟨q0, vm0, k0, X, eT, hS, hk, hZ, hown, hC, N, Ez, Kp, M⟩ := K
  have A0 := A
  obtain ⟨cl, A, r1, r2, r3⟩ := A
  subst hi hv
  obtain ⟨T', h', X', e', W, st⟩ := stC X q0.1 (show Z.Warmed39 (s.setVm vm0).vm from hZ) eT A (inb r1 hj rfl hl) hg hs hd
  exact Owe.via st (kk T' h' _ (Wk.wr q0 ha X' e' W hS hk hZ hown hC N Ez Kp M) W (A0.same W (fits_nar_char x)))
theorem oBastore (K : Wk p l e R s m args below meth c Z a0 EL own mx sf0 sf T locs cells slots h) (pc' : Nat) {a : Addr} {vs : List Value} {x x' : Int32} {j : Int32} {rest : List Value} (ha : a ∈ sf) (A : Ary Z h a .byte vs) (i : Nat) (hj : ¬ j < 0) (hi : j.toNatClampNeg = i) (hl : i < vs.length) (hv : nar .byte x = x') (hd : decode c.code pc = .ok (.bastore, 1)) (kk : ∀ (T' : State) (h' : Heap) (locs' : List Loc), Wk p l e R s m args below meth c Z a0 EL own mx sf0 sf T' locs' cells slots h' → Wr h h' a i (.int x') → Ary Z h' a .byte (vs.set i (.int x')) → Owe p e below Post T' (mkF m pc' ls (rest))) (hp : pc + 1 = pc' := by rfl) : Owe p e below Post T (mkF m pc ls (.int x :: .int j :: .ref a :: rest)) := by
  subst hp
  have hg : (mkF m pc ls (.int x :: .int j :: .ref a :: rest)).method = m := rfl
  have hs : (mkF m pc ls (.int x :: .int j :: .ref a :: rest)).stack = (.int x :: .int j :: .ref a :: rest) := rfl
  obtain ⟨q0, vm0, k0, X, eT, hS, hk, hZ, hown, hC, N, Ez, Kp, M⟩ := K
  have A0 := A
  obtain ⟨cl, A, r1, r2, r3⟩ := A
  subst hi hv
  obtain ⟨T', h', X', e', W, st⟩ := stB X q0.1 (show Z.Warmed39 (s.setVm vm0).vm from hZ) eT A (inb r1 hj rfl hl) hg hs hd
  exact Owe.via st (kk T' h' _ (Wk.wr q0 ha X' e' W hS hk hZ hown hC N Ez Kp M) W (A0.same W (fits_nar_byte x)))
theorem oIastore (K : Wk p l e R s m args below meth c Z a0 EL own mx sf0 sf T locs cells slots h) (pc' : Nat) {a : Addr} {vs : List Value} {x x' : Int32} {j : Int32} {rest : List Value} (ha : a ∈ sf) (A : Ary Z h a .int vs) (i : Nat) (hj : ¬ j < 0) (hi : j.toNatClampNeg = i) (hl : i < vs.length) (hv : x = x') (hd : decode c.code pc = .ok (.iastore, 1)) (kk : ∀ (T' : State) (h' : Heap) (locs' : List Loc), Wk p l e R s m args below meth c Z a0 EL own mx sf0 sf T' locs' cells slots h' → Wr h h' a i (.int x') → Ary Z h' a .int (vs.set i (.int x')) → Owe p e below Post T' (mkF m pc' ls (rest))) (hp : pc + 1 = pc' := by rfl) : Owe p e below Post T (mkF m pc ls (.int x :: .int j :: .ref a :: rest)) := by
  subst hp
  have hg : (mkF m pc ls (.int x :: .int j :: .ref a :: rest)).method = m := rfl
  have hs : (mkF m pc ls (.int x :: .int j :: .ref a :: rest)).stack = (.int x :: .int j :: .ref a :: rest) := rfl
  obtain ⟨q0, vm0, k0, X, eT, hS, hk, hZ, hown, hC, N, Ez, Kp, M⟩ := K
  have A0 := A
  obtain ⟨cl, A, r1, r2, r3⟩ := A
  subst hi hv
  obtain ⟨T', h', X', e', W, st⟩ := stI X q0.1 (show Z.Warmed39 (s.setVm vm0).vm from hZ) eT A (inb r1 hj rfl hl) hg hs hd
  exact Owe.via st (kk T' h' _ (Wk.wr q0 ha X' e' W hS hk hZ hown hC N Ez Kp M) W (A0.same W rfl))
theorem oAastore (K : Wk p l e R s m args below meth c Z a0 EL own mx sf0 sf T locs cells slots h) (pc' : Nat) {a : Addr} {ty : FieldType} {vs : List Value} {v : Value} {j : Int32} {rest : List Value} (ha : a ∈ sf) (A : Ary Z h a ty vs) (hty : ty.isReference = true) (hf : fits ty v = true) (F : Sto Z h a v) (i : Nat) (hj : ¬ j < 0) (hi : j.toNatClampNeg = i) (hl : i < vs.length) (hd : decode c.code pc = .ok (.aastore, 1)) (kk : ∀ (T' : State) (h' : Heap) (locs' : List Loc), Wk p l e R s m args below meth c Z a0 EL own mx sf0 sf T' locs' cells slots h' → Wr h h' a i v → Ary Z h' a ty (vs.set i v) → Owe p e below Post T' (mkF m pc' ls (rest))) (hp : pc + 1 = pc' := by rfl) : Owe p e below Post T (mkF m pc ls (v :: .int j :: .ref a :: rest)) := by
  subst hp
  have hg : (mkF m pc ls (v :: .int j :: .ref a :: rest)).method = m := rfl
  have hs : (mkF m pc ls (v :: .int j :: .ref a :: rest)).stack = (v :: .int j :: .ref a :: rest) := rfl
  obtain ⟨q0, vm0, k0, X, eT, hS, hk, hZ, hown, hC, N, Ez, Kp, M⟩ := K
  have A0 := A
  obtain ⟨cl, A, r1, r2, r3⟩ := A
  subst hi
  obtain ⟨T', h', X', e', W, st⟩ := stR X q0.1 (show Z.Warmed39 (s.setVm vm0).vm from hZ) eT A (inb r1 hj rfl hl) hty F hg hs hd
  exact Owe.via st (kk T' h' _ (Wk.wr q0 ha X' e' W hS hk hZ hown hC N Ez Kp M) W (A0.same W hf))
/-! ### literals -/
theorem oLdcO (K : Wk p l e R s m args below meth c Z a0 EL own mx sf0 sf T locs cells slots h) (pc' : Nat) {text : String} {index : Nat} (n : Nat) (w : (Cond.stringLink own index text).before a0 Z = true) (wS : ∀ a ∈ Bundle.stringAtoms, a.before a0 Z = true) (hd : decode c.code pc = .ok (.ldc index, 2)) (hn : 4 * text.toList.length ≤ n) (hbig : n ≤ 536870912) (hc : cells + 2 ≤ R.cells) (hl : slots + (n + 4) ≤ R.slots) (kk : ∀ (T' : State) (h' : Heap) (a : Addr), Wk p l e R s m args below meth c Z a0 EL own mx sf0 sf T' locs (cells + 2) (slots + (n + 4)) h' → Ext h h' → Owe p e below Post T' (mkF m pc' ls (.ref a :: st))) (hp : pc + 2 = pc' := by rfl) : Owe p e below Post T (mkF m pc ls st) := by
  subst hp
  have hg : (mkF m pc ls st).method = m := rfl
  obtain ⟨q0, vm0, k0, X, eT, hS, hk, hZ, hown, hC, N, Ez, Kp, M⟩ := K
  obtain ⟨a, T', h', k1, X', e', A, hS', hk', hZ', hown', hC', hL, st⟩ := ldcOH X q0.1 hZ hown w wS eT hS hk q0.2.1 hC.1 hg hd hn hbig hc hl
  exact Owe.via st (kk T' h' a ⟨q0, T'.vm, k1, X', e', hS', hk', hZ', hown', hC.trans hC', N, extTrans Ez A, Kp.ext A, fun x hx => ⟨Nat.lt_of_lt_of_le (M x hx).1 A.1, (M x hx).2.1, (M x hx).2.2.1, hC'.safe (M x hx).1 (M x hx).2.2.2⟩⟩ A)
theorem oLdcC (K : Wk p l e R s m args below meth c Z a0 EL own mx sf0 sf T locs cells slots h) (pc' : Nat) {text : String} {index : Nat} (n : Nat) (vs : List Value) (w : (Cond.stringLink own index text).before a0 Z = true) (wS : ∀ a ∈ Bundle.stringAtoms, a.before a0 Z = true) (hmem : (own, index) ∈ EL) (ht : (∀ c ∈ text.toList, c.toNat < 256) ∧ text.toList.map (fun c => Value.int (Jvm.Lit.byteI c.toNat.toUInt16)) = vs) (hvl : vs.length < 2 ^ 31) (hd : decode c.code pc = .ok (.ldc index, 2)) (hn : 4 * text.toList.length ≤ n) (hbig : n ≤ 536870912) (hc : cells + 2 ≤ R.cells) (hl : slots + (n + 4) ≤ R.slots) (kk : ∀ (T' : State) (h' : Heap) (a b : Addr), Wk p l e R s m args below meth c Z a0 EL own mx sf0 sf T' locs (cells + 2) (slots + (n + 4)) h' → Ext h h' → Exa Z h' a "java/lang/String" → Fld Z h' a "java/lang/String" "coder" "B" (.int 0) → Fld Z h' a "java/lang/String" "value" "[B" (.ref b) → Ary Z h' b .byte vs → (∀ x ∈ sf, x ≠ a ∧ x ≠ b) → Owe p e below Post T' (mkF m pc' ls (.ref a :: st))) (hp : pc + 2 = pc' := by rfl) : Owe p e below Post T (mkF m pc ls st) := by
  subst hp
  have hg : (mkF m pc ls st).method = m := rfl
  obtain ⟨q0, vm0, k0, X, eT, hS, hk, hZ, hown, hC, N, Ez, Kp, M⟩ := K
  have hzt : (Int32.ofNat vs.length).toInt = vs.length := Int32.toInt_ofNat_small hvl
  obtain ⟨a, T', h', k1, b, kc, X', e', A, hS', hk', hZ', hown', F1, F2, F3, F4, -, -, hC', hL, hne, st⟩ := ldcCH X q0.1 hZ hown w wS eT hS hk q0.2.1 hmem hC.1 (vs := vs) (z := Int32.ofNat vs.length) ht (by simp only [Int32.lt_iff_toInt_lt, hzt, Int32.reduceToInt]; omega) (by simp only [Int32.toNatClampNeg, hzt]; simp) hg hd hn hbig hc hl
  exact Owe.via st (kk T' h' a b ⟨q0, T'.vm, k1, X', e', hS', hk', hZ', hown', hC.trans hC', N, extTrans Ez A, Kp.ext A, fun x hx => ⟨Nat.lt_of_lt_of_le (M x hx).1 A.1, (M x hx).2.1, (M x hx).2.2.1, hC'.safe (M x hx).1 (M x hx).2.2.2⟩⟩ A F1 F2 F3 (Ary.ofArv F4 rfl hvl) (fun x hx => hne x (hC'.safe (M x hx).1 (M x hx).2.2.2)))
/-! ### calls -/
theorem backC {y : MethodName} {bytes : ByteArray} {maxL : Nat} {ret : Option FieldType} {rm : Room} {len W : Nat} {as' : Array Value} {sf' : List Addr} {Q : Option Value → Heap → List Addr → Prop} {vm0 : Vm} (C : Ctr l Z EL y bytes maxL ret [] rm as' sf' h Q)
    (hZ : Z.Warmed39 vm0) (wc : (Cond.code y bytes maxL ret).before a0 Z = true) (wz : (Cond.initialized y.cls).before a0 Z = true) (hf : rm.frames + 1 ≤ R.frames) (hl : W + (maxL + 11) + rm.locals ≤ R.locals) (hEL : EW Z a0 EL) (H : CHv Z EL vm0 h) (hsafe : ∀ x ∈ sf', x < h.size ∧ Safe Z EL vm0 h x) :
    BackS l R p e below (s.setVm vm0) args y len W (fun A a => a = as' ∧ A.U.heap = h ∧ A.cells + rm.cells ≤ R.cells ∧ A.slots + rm.slots ≤ R.slots)
      (fun A _ v B => ∃ (L : List Loc) (fs : List Addr), Q v B.U.heap fs ∧ Fr Z.heap.size L ∧ Ext Z.heap B.U.heap ∧ Keep h B.U.heap sf' ∧ CHr Z EL vm0 h B.U.vm B.U.heap ∧ (∀ x ∈ fs, x < B.U.heap.size ∧ Z.heap.size ≤ x ∧ h.size ≤ x ∧ Safe Z EL B.U.vm B.U.heap x) ∧ B.locs = A.locs ++ L ∧ B.cells = A.cells + rm.cells ∧ B.slots = A.slots + rm.slots) :=
  BackS.of_freeW (bytes := bytes) (maxL := maxL) (ret := ret) (E := fun _ first o t L k n => k = rm.cells ∧ n = rm.slots ∧ ∃ (v : Option Value) (fs : List Addr), o = .returned v ∧ Q v t.heap fs ∧ Fr Z.heap.size L ∧ Ext Z.heap t.heap ∧ Keep first.heap t.heap sf' ∧ CHr Z EL first.vm first.heap t.vm t.heap ∧ ∀ x ∈ fs, x < t.heap.size ∧ Z.heap.size ≤ x ∧ first.heap.size ≤ x ∧ Safe Z EL t.vm t.heap x) C hf hl
    (fun m meth c A a Y hp => have hU : Z.Warmed39 A.U.vm := wtrans (s := s.setVm vm0) hZ Y.warmed
      ⟨by show (Cond.and _ .tt).before a A.U = true; rw [Cond.before_and, mv hU wc]; rfl, mv hU wc, mv hU wz, hp.2.2.1, hp.2.2.2⟩)
    (fun m meth c A a g mk Y hp => ⟨hp.1, wtrans (s := s.setVm vm0) hZ Y.warmed, hp.2.1, (CHv.at Y hZ hEL H).1, fun x hx => (CHv.at Y hZ hEL H).safe (hsafe x hx).1 (hsafe x hx).2⟩) (fun _ _ _ _ _ _ _ _ _ => trivial)
    (fun _ _ _ _ ⟨v, L, fs, h1, h2, h3, h4, h5, h6, h7, h8⟩ => ⟨L, _, _, h8, rfl, rfl, v, fs, h1, h2, h3, h4, h5, h6, h7⟩)
    (fun m meth c A a g mk v t L k n Y hp _ _ ⟨e1, e2, v', fs, e3, e4, e5, e6, e7, e8, e9⟩ => by
      cases e3; subst e1 e2
      have hh : A.U.heap = h := hp.2.1
      subst hh
      exact ⟨L, fs, e4, e5, e6, e7, (CHv.at Y hZ hEL H).trans e8, e9, rfl, rfl, rfl⟩)
theorem Wk.back {vm0 vm1 : Vm} {k0 : Nat} {B : Pt} {L : List Loc} {fs sf' : List Addr} {ce sl n1 : Nat} (q0 : p.tables.exec = Jvm.exec ∧ EW Z a0 EL ∧ c.maxLocals = mx) (hS : s.Since vm0 k0) (hk : k0 ≤ h.size) (hZ : Z.Warmed39 vm0) (hown : vm0.findClass own = some m.cls) (hC : CHr Z EL s.vm s.heap vm0 h) (N : Fr Z.heap.size locs) (Kp : Keep s.heap h sf0) (M : Mine Z EL s.heap sf0 vm0 h sf)
    (X' : Stand p l e R ((s.setVm vm0).setVm B.U.vm) m args below meth c B.U B.locs B.cells B.slots) (hS' : (s.setVm vm0).Since B.U.vm B.U.heap.size) (hsf : ∀ x ∈ sf', x ∈ sf)
    (r3 : Fr Z.heap.size L) (r4 : Ext Z.heap B.U.heap) (r5 : Keep h B.U.heap sf') (r6 : CHr Z EL vm0 h B.U.vm B.U.heap) (r7 : ∀ x ∈ fs, x < B.U.heap.size ∧ Z.heap.size ≤ x ∧ h.size ≤ x ∧ Safe Z EL B.U.vm B.U.heap x) (r8 : B.locs = locs ++ L) (r9 : B.cells = cells + ce) (r10 : B.slots = slots + sl) : Wk p l e R s m args below meth c Z a0 EL own mx sf0 (fs ++ sf) B.U (locs ++ L) (cells + ce) (slots + sl) B.U.heap := by
  rw [r8, r9, r10] at X'
  refine ⟨q0, B.U.vm, B.U.heap.size, X', rfl, hS.trans hS' (Nat.le_trans hk r5.1), Nat.le_refl _, State.Warmed39.trans (t := s.setVm vm0) hZ hS'.1, (hS'.1.alike.findClass _ _).trans hown, hC.trans r6, N.app r3, r4, Kp.trans r5 (fun x hx => (M x (hsf x hx)).2.2.1), fun x hx => ?_⟩
  rcases List.mem_append.mp hx with hx | hx
  · obtain ⟨f1, f2, f3, f4⟩ := r7 x hx
    exact ⟨f1, f2, Or.inr (Nat.le_trans Kp.1 f3), f4⟩
  · obtain ⟨m1, m2, m3, m4⟩ := M x hx
    exact ⟨Nat.lt_of_lt_of_le m1 r5.1, m2, m3, r6.safe m1 m4⟩
theorem oStatic (K : Wk p l e R s m args below meth c Z a0 EL own mx sf0 sf T locs cells slots h) (pc' : Nat) {index : Nat} {y : MethodName} {bytes : ByteArray} {maxL : Nat} {ret : Option FieldType} {rm : Room} {as' : Array Value} {sf' : List Addr} {Q : Option Value → Heap → List Addr → Prop}  (W : Nat) (w1 : (Cond.methodLink own index y).before a0 Z = true) (w2 : (Cond.static y).before a0 Z = true) (w3 : (Cond.initialized y.cls).before a0 Z = true) (w4 : (Cond.code y bytes maxL ret).before a0 Z = true) (C : Ctr l Z EL y bytes maxL ret [] rm as' sf' h Q) (argsL rest : List Value) (hlen : ∀ sig, parseMethodDescriptor y.desc = some sig → argsL.length = sig.parameters.length) (hd : decode c.code pc = .ok (.invokestatic index, 3)) (kk : ∀ (T' : State) (h' : Heap) (v : Option Value) (locs' : List Loc) (fs : List Addr), Wk p l e R s m args below meth c Z a0 EL own mx sf0 (fs ++ sf) T' locs' (cells + rm.cells) (slots + rm.slots) h' → Keep h h' sf' → Q v h' fs → Owe p e below Post T' (mkF m pc' ls (v.toList ++ rest))) (hy : y.cls ≠ "java/lang/invoke/MethodHandle" ∧ y.cls ≠ "java/lang/invoke/VarHandle" := by decide) (hsf : ∀ x ∈ sf', x ∈ sf := by simp) (hf : rm.frames + 1 ≤ R.frames := by decide) (hl : W + (maxL + 11) + rm.locals ≤ R.locals := by decide) (hcl : cells + rm.cells ≤ R.cells := by decide) (hsl : slots + rm.slots ≤ R.slots := by decide) (has : argsL.toArray = as' := by rfl) (hstack : st = argsL.reverse ++ rest := by rfl) (hW : 2 * 0 + (rest.map fun v => v.category).sum ≤ W := by exact nle) (hsize : ls.size = mx := by rfl) (hp : pc + 3 = pc' := by rfl) : Owe p e below Post T (mkF m pc ls st) := by
  subst hp
  have hg : (mkF m pc ls st).method = m := rfl
  obtain ⟨q0, vm0, k0, X, eT, hS, hk, hZ, hown, hC, N, Ez, Kp, M⟩ := K
  have hZ' : Z.Warmed39 (s.setVm vm0).vm := hZ
  obtain ⟨v, vm₁, B, -, X', hS', -, ⟨L, fs, r1, r3, r4, r5, r6, r7, r8, r9, r10⟩, st⟩ := callSS X q0.1 (own := own) hown (mvT hZ' w1) (mvT hZ' w2) (mvT hZ' w3) (mvT hZ' w4) hy (backC C hZ w4 w3 hf hl q0.2.1 hC.1 (fun x hx => ⟨(M x (hsf x hx)).1, (M x (hsf x hx)).2.2.2⟩)) hg (hsize.trans q0.2.2.symm) hlen hstack hW hd (fun vm1 hv => ⟨has, eT, hcl, hsl⟩)
  exact Owe.go st (kk B.U B.U.heap v _ fs (Wk.back (n1 := 0) (vm1 := vm0) q0 hS hk hZ hown hC N Kp M X' hS' hsf r3 r4 r5 r6 r7 r8 r9 r10) r5 r1)
theorem oSpecial (K : Wk p l e R s m args below meth c Z a0 EL own mx sf0 sf T locs cells slots h) (pc' : Nat) {index : Nat} {y : MethodName} {bytes : ByteArray} {maxL : Nat} {rm : Room} {as' : Array Value} {sf' : List Addr} {Q : Option Value → Heap → List Addr → Prop} {a : Addr}  (W : Nat) (w1 : (Cond.methodLink own index y).before a0 Z = true) (w2 : (Cond.instanceMethod y).before a0 Z = true) (w3 : (Cond.initialized y.cls).before a0 Z = true) (w4 : (Cond.code y bytes maxL none).before a0 Z = true) (C : Ctr l Z EL y bytes maxL none [] rm as' sf' h Q) (argsL rest : List Value) (hlen : ∀ sig, parseMethodDescriptor y.desc = some sig → argsL.length = sig.parameters.length) (hd : decode c.code pc = .ok (.invokespecial index, 3)) (kk : ∀ (T' : State) (h' : Heap) (v : Option Value) (locs' : List Loc) (fs : List Addr), Wk p l e R s m args below meth c Z a0 EL own mx sf0 (fs ++ sf) T' locs' (cells + rm.cells) (slots + rm.slots) h' → Keep h h' sf' → Q v h' fs → Owe p e below Post T' (mkF m pc' ls (v.toList ++ rest))) (hy1 : y.name = "<init>" := by rfl) (hy : y.cls ≠ "java/lang/invoke/MethodHandle" ∧ y.cls ≠ "java/lang/invoke/VarHandle" := by decide) (hsf : ∀ x ∈ sf', x ∈ sf := by simp) (hf : rm.frames + 1 ≤ R.frames := by decide) (hl : W + (maxL + 11) + rm.locals ≤ R.locals := by decide) (hcl : cells + rm.cells ≤ R.cells := by decide) (hsl : slots + rm.slots ≤ R.slots := by decide) (has : (.ref a :: argsL).toArray = as' := by rfl) (hstack : st = argsL.reverse ++ .ref a :: rest := by rfl) (hW : 2 * 0 + (rest.map fun v => v.category).sum ≤ W := by exact nle) (hsize : ls.size = mx := by rfl) (hp : pc + 3 = pc' := by rfl) : Owe p e below Post T (mkF m pc ls st) := by
  subst hp
  have hg : (mkF m pc ls st).method = m := rfl
  obtain ⟨q0, vm0, k0, X, eT, hS, hk, hZ, hown, hC, N, Ez, Kp, M⟩ := K
  have hZ' : Z.Warmed39 (s.setVm vm0).vm := hZ
  obtain ⟨v, vm₁, B, -, X', hS', -, ⟨L, fs, r1, r3, r4, r5, r6, r7, r8, r9, r10⟩, st⟩ := X.specialBackS q0.1 (own := own) hy1 hown (mvT hZ' w1) (mvT hZ' w2) (mvT hZ' w4) hy (backC C hZ w4 w3 hf hl q0.2.1 hC.1 (fun x hx => ⟨(M x (hsf x hx)).1, (M x (hsf x hx)).2.2.2⟩)) hg (hsize.trans q0.2.2.symm) (Steps.refl _) hlen hstack hW hd (fun vm1 hv => ⟨has, eT, hcl, hsl⟩)
  exact Owe.go st (kk B.U B.U.heap v _ fs (Wk.back (n1 := 0) (vm1 := vm0) q0 hS hk hZ hown hC N Kp M X' hS' hsf r3 r4 r5 r6 r7 r8 r9 r10) r5 r1)
theorem oVirtual (K : Wk p l e R s m args below meth c Z a0 EL own mx sf0 sf T locs cells slots h) (pc' : Nat) {index : Nat} {D : String} {y z : MethodName} {bytes : ByteArray} {maxL : Nat} {ret : Option FieldType} {rm : Room} {as' : Array Value} {sf' : List Addr} {Q : Option Value → Heap → List Addr → Prop} {a : Addr}  (W : Nat) (w1 : (Cond.methodLink own index y).before a0 Z = true) (w2 : (Cond.declares y).before a0 Z = true) (nf : ∀ s' : State, Z.Warmed39 s'.vm → NotFace s' y) (w5 : (Cond.selects D y z).before a0 Z = true) (w6 : (Cond.instanceMethod z).before a0 Z = true) (w3 : (Cond.initialized z.cls).before a0 Z = true) (w4 : (Cond.code z bytes maxL ret).before a0 Z = true) (Ex : Exa Z h a D)
    (C : Ctr l Z EL z bytes maxL ret [] rm as' sf' h Q) (argsL rest : List Value) (hlen : ∀ sig, parseMethodDescriptor y.desc = some sig → argsL.length = sig.parameters.length) (hd : decode c.code pc = .ok (.invokevirtual index, 3)) (kk : ∀ (T' : State) (h' : Heap) (v : Option Value) (locs' : List Loc) (fs : List Addr), Wk p l e R s m args below meth c Z a0 EL own mx sf0 (fs ++ sf) T' locs' (cells + rm.cells) (slots + rm.slots) h' → Keep h h' sf' → Q v h' fs → Owe p e below Post T' (mkF m pc' ls (v.toList ++ rest))) (hy : y.cls ≠ "java/lang/invoke/MethodHandle" ∧ y.cls ≠ "java/lang/invoke/VarHandle" := by decide) (hsf : ∀ x ∈ sf', x ∈ sf := by simp) (hf : rm.frames + 1 ≤ R.frames := by decide) (hl : W + (maxL + 11) + rm.locals ≤ R.locals := by decide) (hcl : cells + rm.cells ≤ R.cells := by decide) (hsl : slots + rm.slots ≤ R.slots := by decide) (has : (.ref a :: argsL).toArray = as' := by rfl) (hstack : st = argsL.reverse ++ .ref a :: rest := by rfl) (hW : 2 * 0 + (rest.map fun v => v.category).sum ≤ W := by exact nle) (hsize : ls.size = mx := by rfl) (hp : pc + 3 = pc' := by rfl) : Owe p e below Post T (mkF m pc ls st) := by
  subst hp
  have hg : (mkF m pc ls st).method = m := rfl
  obtain ⟨q0, vm0, k0, X, eT, hS, hk, hZ, hown, hC, N, Ez, Kp, M⟩ := K
  have hZ' : Z.Warmed39 (s.setVm vm0).vm := hZ
  obtain ⟨cq, kq, qa, qb, qc⟩ := isOf hZ' eT Ex
  obtain ⟨v, vm₁, B, -, X', hS', -, ⟨L, fs, r1, r3, r4, r5, r6, r7, r8, r9, r10⟩, st⟩ := X.virtualBackS q0.1 (own := own) hown (mvT hZ' w1) (mvT hZ' w2) (nf _ hZ') (mvT hZ' w5) (mvT hZ' w6) hy (backC C hZ w4 w3 hf hl q0.2.1 hC.1 (fun x hx => ⟨(M x (hsf x hx)).1, (M x (hsf x hx)).2.2.2⟩)) qa qc hg (hsize.trans q0.2.2.symm) (Steps.refl _) hlen hstack hW hd (fun vm1 hv => ⟨has, eT, hcl, hsl⟩)
  exact Owe.go st (kk B.U B.U.heap v _ fs (Wk.back (n1 := 0) (vm1 := vm0) q0 hS hk hZ hown hC N Kp M X' hS' hsf r3 r4 r5 r6 r7 r8 r9 r10) r5 r1)
theorem nfSel {D : String} {y : MethodName} (w : (Cond.selects D y y).before a0 Z = true) : ∀ s' : State, Z.Warmed39 s'.vm → NotFace s' y := fun s' hZ => notFace_of_selects (args := #[]) (mvT hZ w)
theorem oIface (K : Wk p l e R s m args below meth c Z a0 EL own mx sf0 sf T locs cells slots h) (pc' : Nat) {index count : Nat} {D : String} {y z : MethodName} {bytes : ByteArray} {maxL : Nat} {ret : Option FieldType} {rm : Room} {as' : Array Value} {sf' : List Addr} {Q : Option Value → Heap → List Addr → Prop} {a : Addr}  (W : Nat) (w1 : (Cond.methodLink own index y).before a0 Z = true) (w2 : (Cond.declares y).before a0 Z = true) (w7 : (Cond.interfaceMethod y.cls y.cls y.name y.desc).before a0 Z = true) (w5 : (Cond.selects D y z).before a0 Z = true) (w6 : (Cond.instanceMethod z).before a0 Z = true) (w8 : (Cond.publicMethod z).before a0 Z = true) (w9 : (Cond.unhidden D y.name y.desc).before a0 Z = true) (w10 : (Cond.castable D y.cls).before a0 Z = true) (w3 : (Cond.initialized z.cls).before a0 Z = true) (w4 : (Cond.code z bytes maxL ret).before a0 Z = true) (Ex : Exa Z h a D)
    (C : Ctr l Z EL z bytes maxL ret [] rm as' sf' h Q) (argsL rest : List Value) (hlen : ∀ sig, parseMethodDescriptor y.desc = some sig → argsL.length = sig.parameters.length) (hd : decode c.code pc = .ok (.invokeinterface index count, 5)) (kk : ∀ (T' : State) (h' : Heap) (v : Option Value) (locs' : List Loc) (fs : List Addr), Wk p l e R s m args below meth c Z a0 EL own mx sf0 (fs ++ sf) T' locs' (cells + rm.cells) (slots + rm.slots) h' → Keep h h' sf' → Q v h' fs → Owe p e below Post T' (mkF m pc' ls (v.toList ++ rest))) (hy : y.cls ≠ "java/lang/invoke/MethodHandle" ∧ y.cls ≠ "java/lang/invoke/VarHandle" := by decide) (hsf : ∀ x ∈ sf', x ∈ sf := by simp) (hf : rm.frames + 1 ≤ R.frames := by decide) (hl : W + (maxL + 11) + rm.locals ≤ R.locals := by decide) (hcl : cells + rm.cells ≤ R.cells := by decide) (hsl : slots + rm.slots ≤ R.slots := by decide) (has : (.ref a :: argsL).toArray = as' := by rfl) (hstack : st = argsL.reverse ++ .ref a :: rest := by rfl) (hW : 2 * 0 + (rest.map fun v => v.category).sum ≤ W := by exact nle) (hsize : ls.size = mx := by rfl) (hp : pc + 5 = pc' := by rfl) : Owe p e below Post T (mkF m pc ls st) := by
  subst hp
  have hg : (mkF m pc ls st).method = m := rfl
  obtain ⟨q0, vm0, k0, X, eT, hS, hk, hZ, hown, hC, N, Ez, Kp, M⟩ := K
  have hZ' : Z.Warmed39 (s.setVm vm0).vm := hZ
  obtain ⟨cq, kq, qa, qb, qc⟩ := isOf hZ' eT Ex
  obtain ⟨v, vm₁, B, -, X', hS', -, ⟨L, fs, r1, r3, r4, r5, r6, r7, r8, r9, r10⟩, st⟩ := X.interfaceBackS q0.1 (own := own) hown (mvT hZ' w1) (mvT hZ' w2) (mvT hZ' w7 (hd := by simp [Cond.onTables, Cond.keepsFace, Cond.keeps, Cond.steady, Cond.faceAtom, hy.1, hy.2])) (mvT hZ' w5) (mvT hZ' w6) (mvT hZ' w8) (mvT hZ' w9) (mvT hZ' w10) hy (backC C hZ w4 w3 hf hl q0.2.1 hC.1 (fun x hx => ⟨(M x (hsf x hx)).1, (M x (hsf x hx)).2.2.2⟩)) qa qb qc hg (hsize.trans q0.2.2.symm) (Steps.refl _) hlen hstack hW hd (fun vm1 hv => ⟨has, eT, hcl, hsl⟩)
  exact Owe.go st (kk B.U B.U.heap v _ fs (Wk.back (n1 := 0) (vm1 := vm0) q0 hS hk hZ hown hC N Kp M X' hS' hsf r3 r4 r5 r6 r7 r8 r9 r10) r5 r1)
theorem Ary.fitC {a : Addr} {ty : FieldType} {vs : List Value} {cl : Cell} (A : Arr Z h a cl ty) (r1 : cl.slots = vs.toArray) (r3 : ∀ v ∈ vs, fits ty v = true) : FitC Z cl := fun i v hv => by
  obtain ⟨hs, k, hk, comp, hkind⟩ := A.2.1
  have hm : v ∈ vs := by rw [r1] at hv; exact List.mem_of_getElem? (by simpa using hv)
  simp [State.fitsSlot, State.slotType?, hk, hkind, r3 v hm]
theorem oClone (K : Wk p l e R s m args below meth c Z a0 EL own mx sf0 sf T locs cells slots h) (pc' : Nat) {ad : String} {index : Nat} {a : Addr} {ty : FieldType} {vs : List Value} {rest : List Value} (W : Nat) (w1 : (Cond.methodLink own index ⟨ad, "clone", "()Ljava/lang/Object;"⟩).before a0 Z = true) (w2 : (Cond.sameMethod ad "java/lang/Object" "clone" "()Ljava/lang/Object;").before a0 Z = true) (w3 : (Cond.native ⟨"java/lang/Object", "clone", "()Ljava/lang/Object;"⟩).before a0 Z = true) (w4 : (Cond.instanceMethod ⟨"java/lang/Object", "clone", "()Ljava/lang/Object;"⟩).before a0 Z = true) (w5 : (Cond.selects ad ⟨ad, "clone", "()Ljava/lang/Object;"⟩ ⟨"java/lang/Object", "clone", "()Ljava/lang/Object;"⟩).before a0 Z = true) (w6 : (Cond.castable ad "java/lang/Cloneable").before a0 Z = true)
    (A : Ary Z h a ty vs) (Ex : Exa Z h a ad) (hsize : ls.size = mx) (hd : decode c.code pc = .ok (.invokevirtual index, 3)) (hf : 1 ≤ R.frames) (hW : 2 * 0 + (rest.map fun v => v.category).sum ≤ W) (hl : W + 14 ≤ R.locals) (hc : cells + 1 ≤ R.cells) (hsl : slots + vs.length ≤ R.slots) (kk : ∀ (T' : State) (h' : Heap) (b : Addr), h.size = b → Wk p l e R s m args below meth c Z a0 EL own mx sf0 (b :: sf) T' locs (cells + 1) (slots + vs.length) h' → Ext h h' → Ary Z h' b ty vs → Exa Z h' b ad → Owe p e below Post T' (mkF m pc' ls (.ref b :: rest))) (hp : pc + 3 = pc' := by rfl) : Owe p e below Post T (mkF m pc ls (.ref a :: rest)) := by
  subst hp
  have hg : (mkF m pc ls (.ref a :: rest)).method = m := rfl
  have hs : (mkF m pc ls (.ref a :: rest)).stack = (.ref a :: rest) := rfl
  obtain ⟨q0, vm0, k0, X, eT, hS, hk, hZ, hown, hC, N, Ez, Kp, M⟩ := K
  obtain ⟨cl, A, r1, r2, r3⟩ := A
  obtain ⟨T', h', X', e', E, Ar, Ea, st⟩ := cloneA (own := own) X q0.1 (show Z.Warmed39 (s.setVm vm0).vm from hZ) hown w1 w2 w3 w4 w5 w6 eT A Ex (Ary.fitC A r1 r3) hg (hsize.trans q0.2.2.symm) hs hd hf hW hl (cap := vs.length) (by rw [r1]; simp) hc hsl
  exact Owe.via st (kk T' h' _ rfl (Wk.made q0 X' e' E Ar.lt hS hk hZ hown hC N Ez Kp M) E ⟨_, Ar, r1, r2, r3⟩ Ea)
/-! ### a JDK law in RoadKit's shape pays a call -/
theorem backN {y : MethodName} {len W ce sl : Nat} {as' : Array Value} {ws : List Addr} {vm0 : Vm} (Q : Option Value → Heap → List Loc → Prop) (Bk : Back l R p e below (s.setVm vm0) args y len W (fun A a => a = as' ∧ A.U.heap = h ∧ A.cells + ce ≤ R.cells ∧ A.slots + sl ≤ R.slots) (fun A _ v B => ∃ L, Q v B.U.heap L ∧ B.locs = A.locs ++ L ∧ B.cells = A.cells + ce ∧ B.slots = A.slots + sl))
    (hQ : ∀ v h' L, Q v h' L → Fr Z.heap.size L ∧ Keep h h' ws) (hZ : Z.Warmed39 vm0) (hEL : EW Z a0 EL) (H : CHv Z EL vm0 h) (hE : Ext Z.heap h) (hsafe : ∀ x ∈ ws, Z.heap.size ≤ x ∧ Safe Z EL vm0 h x) :
    BackS l R p e below (s.setVm vm0) args y len W (fun A a => a = as' ∧ A.U.heap = h ∧ A.cells + ce ≤ R.cells ∧ A.slots + sl ≤ R.slots)
      (fun A _ v B => ∃ (L : List Loc) (fs : List Addr), (Q v B.U.heap L ∧ fs = []) ∧ Fr Z.heap.size L ∧ Ext Z.heap B.U.heap ∧ Keep h B.U.heap ws ∧ CHr Z EL vm0 h B.U.vm B.U.heap ∧ (∀ x ∈ fs, x < B.U.heap.size ∧ Z.heap.size ≤ x ∧ h.size ≤ x ∧ Safe Z EL B.U.vm B.U.heap x) ∧ B.locs = A.locs ++ L ∧ B.cells = A.cells + ce ∧ B.slots = A.slots + sl) := by
  intro m meth c A g ig mk a X hg hsize hdg hW hn hp
  obtain ⟨v, B, X', ⟨L, q1, q2, q3, q4⟩, st⟩ := Bk m meth c A g ig mk a X hg hsize hdg hW hn hp
  obtain ⟨n1, n2⟩ := hQ _ _ _ q1
  have hh : A.U.heap = h := hp.2.1
  have C1 : CHr Z EL vm0 h vm0 B.U.heap := CHr.keep n2 (fun x hx => (hsafe x hx).2) H
  have C2 : CHr Z EL vm0 B.U.heap B.U.vm B.U.heap := CHv.at X' hZ hEL C1.1
  exact ⟨v, B, X'.retabled X'.warmed.wide, X'.warmed.since _, by rw [hh]; exact n2.1, ⟨L, [], ⟨q1, rfl⟩, n1, keepExt hE n2 (fun x hx => (hsafe x hx).1), n2, C1.trans C2, fun x hx => (by cases hx), q2, q3, q4⟩, st⟩
theorem oSpecialN (K : Wk p l e R s m args below meth c Z a0 EL own mx sf0 sf T locs cells slots h) (pc' : Nat) {index : Nat} {y : MethodName} {bytes : ByteArray} {maxL ce sl : Nat} {as' : Array Value} {ws : List Addr} {a : Addr}  (W : Nat) (Q : Option Value → Heap → List Loc → Prop) (w1 : (Cond.methodLink own index y).before a0 Z = true) (w2 : (Cond.instanceMethod y).before a0 Z = true) (w4 : (Cond.code y bytes maxL none).before a0 Z = true) (Bk : ∀ s' : State, Z.Warmed39 s'.vm → Back l R p e below s' args y 3 W (fun A a => a = as' ∧ A.U.heap = h ∧ A.cells + ce ≤ R.cells ∧ A.slots + sl ≤ R.slots) (fun A _ v B => ∃ L, Q v B.U.heap L ∧ B.locs = A.locs ++ L ∧ B.cells = A.cells + ce ∧ B.slots = A.slots + sl)) (hQ : ∀ v h' L, Q v h' L → Fr Z.heap.size L ∧ Keep h h' ws) (argsL rest : List Value) (hlen : ∀ sig, parseMethodDescriptor y.desc = some sig → argsL.length = sig.parameters.length) (hd : decode c.code pc = .ok (.invokespecial index, 3)) (kk : ∀ (T' : State) (h' : Heap) (v : Option Value) (locs' L : List Loc), Wk p l e R s m args below meth c Z a0 EL own mx sf0 sf T' locs' (cells + ce) (slots + sl) h' → Keep h h' ws → Q v h' L → Owe p e below Post T' (mkF m pc' ls (v.toList ++ rest))) (hy1 : y.name = "<init>" := by rfl) (hy : y.cls ≠ "java/lang/invoke/MethodHandle" ∧ y.cls ≠ "java/lang/invoke/VarHandle" := by decide) (hsf : ∀ x ∈ ws, x ∈ sf := by simp) (hcl : cells + ce ≤ R.cells := by decide) (hsl : slots + sl ≤ R.slots := by decide) (has : (.ref a :: argsL).toArray = as' := by rfl) (hstack : st = argsL.reverse ++ .ref a :: rest := by rfl) (hW : 2 * 0 + (rest.map fun v => v.category).sum ≤ W := by exact nle) (hsize : ls.size = mx := by rfl) (hp : pc + 3 = pc' := by rfl) : Owe p e below Post T (mkF m pc ls st) := by
  subst hp
  have hg : (mkF m pc ls st).method = m := rfl
  obtain ⟨q0, vm0, k0, X, eT, hS, hk, hZ, hown, hC, N, Ez, Kp, M⟩ := K
  have hZ' : Z.Warmed39 (s.setVm vm0).vm := hZ
  obtain ⟨v, vm₁, B, -, X', hS', -, ⟨L, fs, ⟨r1, rfl⟩, r3, r4, r5, r6, r7, r8, r9, r10⟩, st⟩ := X.specialBackS q0.1 (own := own) hy1 hown (mvT hZ' w1) (mvT hZ' w2) (mvT hZ' w4) hy (backN Q (Bk _ hZ') hQ hZ q0.2.1 hC.1 Ez (fun x hx => ⟨(M x (hsf x hx)).2.1, (M x (hsf x hx)).2.2.2⟩)) hg (hsize.trans q0.2.2.symm) (Steps.refl _) hlen hstack hW hd (fun vm1 hv => ⟨has, eT, hcl, hsl⟩)
  exact Owe.go st (kk B.U B.U.heap v _ L (Wk.back (n1 := 0) (vm1 := vm0) q0 hS hk hZ hown hC N Kp M X' hS' hsf r3 r4 r5 r6 r7 r8 r9 r10) r5 r1)
theorem oVirtualN (K : Wk p l e R s m args below meth c Z a0 EL own mx sf0 sf T locs cells slots h) (pc' : Nat) {index : Nat} {D : String} {y z : MethodName} {ce sl : Nat} {as' : Array Value} {ws : List Addr} {a : Addr}  (W : Nat) (Q : Option Value → Heap → List Loc → Prop) (w1 : (Cond.methodLink own index y).before a0 Z = true) (w2 : (Cond.declares y).before a0 Z = true) (nf : ∀ s' : State, Z.Warmed39 s'.vm → NotFace s' y) (w5 : (Cond.selects D y z).before a0 Z = true) (w6 : (Cond.instanceMethod z).before a0 Z = true) (Ex : Exa Z h a D)
    (Bk : ∀ s' : State, Z.Warmed39 s'.vm → Back l R p e below s' args z 3 W (fun A a => a = as' ∧ A.U.heap = h ∧ A.cells + ce ≤ R.cells ∧ A.slots + sl ≤ R.slots) (fun A _ v B => ∃ L, Q v B.U.heap L ∧ B.locs = A.locs ++ L ∧ B.cells = A.cells + ce ∧ B.slots = A.slots + sl)) (hQ : ∀ v h' L, Q v h' L → Fr Z.heap.size L ∧ Keep h h' ws) (argsL rest : List Value) (hlen : ∀ sig, parseMethodDescriptor y.desc = some sig → argsL.length = sig.parameters.length) (hd : decode c.code pc = .ok (.invokevirtual index, 3)) (kk : ∀ (T' : State) (h' : Heap) (v : Option Value) (locs' L : List Loc), Wk p l e R s m args below meth c Z a0 EL own mx sf0 sf T' locs' (cells + ce) (slots + sl) h' → Keep h h' ws → Q v h' L → Owe p e below Post T' (mkF m pc' ls (v.toList ++ rest))) (hy : y.cls ≠ "java/lang/invoke/MethodHandle" ∧ y.cls ≠ "java/lang/invoke/VarHandle" := by decide) (hsf : ∀ x ∈ ws, x ∈ sf := by simp) (hcl : cells + ce ≤ R.cells := by decide) (hsl : slots + sl ≤ R.slots := by decide) (has : (.ref a :: argsL).toArray = as' := by rfl) (hstack : st = argsL.reverse ++ .ref a :: rest := by rfl) (hW : 2 * 0 + (rest.map fun v => v.category).sum ≤ W := by exact nle) (hsize : ls.size = mx := by rfl) (hp : pc + 3 = pc' := by rfl) : Owe p e below Post T (mkF m pc ls st) := by
  subst hp
  have hg : (mkF m pc ls st).method = m := rfl
  obtain ⟨q0, vm0, k0, X, eT, hS, hk, hZ, hown, hC, N, Ez, Kp, M⟩ := K
  have hZ' : Z.Warmed39 (s.setVm vm0).vm := hZ
  obtain ⟨cq, kq, qa, qb, qc⟩ := isOf hZ' eT Ex
  obtain ⟨v, vm₁, B, -, X', hS', -, ⟨L, fs, ⟨r1, rfl⟩, r3, r4, r5, r6, r7, r8, r9, r10⟩, st⟩ := X.virtualBackS q0.1 (own := own) hown (mvT hZ' w1) (mvT hZ' w2) (nf _ hZ') (mvT hZ' w5) (mvT hZ' w6) hy (backN Q (Bk _ hZ') hQ hZ q0.2.1 hC.1 Ez (fun x hx => ⟨(M x (hsf x hx)).2.1, (M x (hsf x hx)).2.2.2⟩)) qa qc hg (hsize.trans q0.2.2.symm) (Steps.refl _) hlen hstack hW hd (fun vm1 hv => ⟨has, eT, hcl, hsl⟩)
  exact Owe.go st (kk B.U B.U.heap v _ L (Wk.back (n1 := 0) (vm1 := vm0) q0 hS hk hZ hown hC N Kp M X' hS' hsf r3 r4 r5 r6 r7 r8 r9 r10) r5 r1)
/-! ### the end -/
theorem xRet {g : JFrame} (K : Wk p l e R s m args below meth c Z a0 EL own mx sf0 sf T locs cells slots h) {Q : Option Value → Heap → List Addr → Prop} {v : Option Value} (fs : List Addr) (hcl : cells ≤ R.cells) (hsl : slots ≤ R.slots) (hv : meth.sig.returnType = none → v = none) (hlk : meth.locks = false) (hfs : ∀ x ∈ fs, x ∈ sf ∧ s.heap.size ≤ x) (hQ : Q v h fs)
    (st : ∀ (s' : State) (fr : List Frame), Stand p l e R s' m args below meth c T locs cells slots → (∀ (f : JFrame) (acts : List Action), f.method = m → f.locked = none → f.entered = [] → (doReturn e (T.setTop f) acts v).1 = T.setFrames fr) → Steps p.tables e below (T.setTop g) (T.setFrames fr)) : Owe p e below (PostW Z EL sf0 R Q s) T g := by
  obtain ⟨q0, vm0, k0, X, eT, hS, hk, hZ, hown, hC, N, Ez, Kp, M⟩ := K
  obtain ⟨fr, hr, hrun, hend, w1, w2, w3, w4⟩ := X.leaveW hS (by rw [eT]; exact hk) (v := v) hv hlk
  subst eT
  have hA := CHv.at X hZ q0.2.1 hC.1
  exact ⟨_, _, st _ fr X hr, hrun, hend, v, locs, fs, rfl, hQ, N, Ez, Kp, hC.trans hA, fun x hx => ⟨(M x (hfs x hx).1).1, (M x (hfs x hx).1).2.1, (hfs x hx).2, hA.safe (M x (hfs x hx).1).1 (M x (hfs x hx).1).2.2.2⟩, w1, w2, w3, w4.mono hcl hsl⟩
theorem oRetV (K : Wk p l e R s m args below meth c Z a0 EL own mx sf0 sf T locs cells slots h) {Q : Option Value → Heap → List Addr → Prop} (fs : List Addr) {pc : Nat} {Ls : Array Slot} (hret : meth.sig.returnType = none) (hd : decode c.code pc = .ok (.return_, 1)) (hcl : cells ≤ R.cells) (hsl : slots ≤ R.slots) (hlk : meth.locks = false) (hfs : ∀ x ∈ fs, x ∈ sf ∧ s.heap.size ≤ x) (hQ : Q none h fs) : Owe p e below (PostW Z EL sf0 R Q s) T (mkF m pc Ls []) :=
  xRet K fs hcl hsl (fun _ => rfl) hlk hfs hQ (fun s' fr X hr => X.returnOut K.hx hret hd hr)
theorem oRetI (K : Wk p l e R s m args below meth c Z a0 EL own mx sf0 sf T locs cells slots h) {Q : Option Value → Heap → List Addr → Prop} (fs : List Addr) {pc : Nat} {Ls : Array Slot} {z : Int32} {t : FieldType} {rest : List Value} (hret : meth.sig.returnType = some t) (ht : t = .int ∨ t = .boolean ∨ t = .byte ∨ t = .char ∨ t = .short) (hn : narrow t (.int z) = .int z) (hd : decode c.code pc = .ok (.ireturn, 1)) (hcl : cells ≤ R.cells) (hsl : slots ≤ R.slots) (hlk : meth.locks = false) (hfs : ∀ x ∈ fs, x ∈ sf ∧ s.heap.size ≤ x) (hQ : Q (some (.int z)) h fs) : Owe p e below (PostW Z EL sf0 R Q s) T (mkF m pc Ls (.int z :: rest)) :=
  xRet K fs hcl hsl (fun q => by rw [hret] at q; cases q) hlk hfs hQ (fun s' fr X hr => retOut X K.hx hret hn (Or.inl ⟨rfl, ht, z, rfl⟩) hd hr)
theorem oRetJ (K : Wk p l e R s m args below meth c Z a0 EL own mx sf0 sf T locs cells slots h) {Q : Option Value → Heap → List Addr → Prop} (fs : List Addr) {pc : Nat} {Ls : Array Slot} {z : Int64} {rest : List Value} (hret : meth.sig.returnType = some .long) (hd : decode c.code pc = .ok (.lreturn, 1)) (hcl : cells ≤ R.cells) (hsl : slots ≤ R.slots) (hlk : meth.locks = false) (hfs : ∀ x ∈ fs, x ∈ sf ∧ s.heap.size ≤ x) (hQ : Q (some (.long z)) h fs) : Owe p e below (PostW Z EL sf0 R Q s) T (mkF m pc Ls (.long z :: rest)) :=
  xRet K fs hcl hsl (fun q => by rw [hret] at q; cases q) hlk hfs hQ (fun s' fr X hr => retOut X K.hx hret rfl (Or.inr (Or.inl ⟨rfl, rfl, z, rfl⟩)) hd hr)
theorem oRetA (K : Wk p l e R s m args below meth c Z a0 EL own mx sf0 sf T locs cells slots h) {Q : Option Value → Heap → List Addr → Prop} (fs : List Addr) {pc : Nat} {Ls : Array Slot} {w : Value} {t : FieldType} {rest : List Value} (hret : meth.sig.returnType = some t) (ht : t.isReference = true) (hw : w.isRef = true) (hd : decode c.code pc = .ok (.areturn, 1)) (hcl : cells ≤ R.cells) (hsl : slots ≤ R.slots) (hlk : meth.locks = false) (hfs : ∀ x ∈ fs, x ∈ sf ∧ s.heap.size ≤ x) (hQ : Q (some w) h fs) : Owe p e below (PostW Z EL sf0 R Q s) T (mkF m pc Ls (w :: rest)) :=
  xRet K fs hcl hsl (fun q => by rw [hret] at q; cases q) hlk hfs hQ (fun s' fr X hr => retOut X K.hx hret (by rcases ref_cases hw with rfl | ⟨_, rfl⟩ <;> cases t <;> first | rfl | (cases ht)) (Or.inr (Or.inr (Or.inr (Or.inr ⟨rfl, ht, hw⟩)))) hd hr)
/-! ### plain steps -/
theorem oAloadN (K : Wk p l e R s m args below meth c Z a0 EL own mx sf0 sf T locs cells slots h) (pc' : Nat) {k : Fin 4} {v : Value} (hd : decode c.code pc = .ok (.aload_n k, 1)) (hl : ls[k.val]? = some (.val v)) (hv : v.isRef = true) (kk : Owe p e below Post T (mkF m pc' ls (v :: st))) (hp : pc + 1 = pc' := by rfl) : Owe p e below Post T (mkF m pc ls st) := by
  subst hp
  have hg : (mkF m pc ls st).method = m := rfl
  exact Owe.via (fun _ q => XS.aloadN K.here K.hx hg hd hl hv q) kk
theorem oAload (K : Wk p l e R s m args below meth c Z a0 EL own mx sf0 sf T locs cells slots h) (pc' : Nat) {k : Nat} {v : Value} (hd : decode c.code pc = .ok (.aload k, 2)) (hl : ls[k]? = some (.val v)) (hv : v.isRef = true) (kk : Owe p e below Post T (mkF m pc' ls (v :: st))) (hp : pc + 2 = pc' := by rfl) : Owe p e below Post T (mkF m pc ls st) := by
  subst hp
  have hg : (mkF m pc ls st).method = m := rfl
  exact Owe.via (fun _ q => XS.aload K.here K.hx hg hd hl hv q) kk
theorem oIloadN (K : Wk p l e R s m args below meth c Z a0 EL own mx sf0 sf T locs cells slots h) (pc' : Nat) {k : Fin 4} {v : Int32} (hd : decode c.code pc = .ok (.iload_n k, 1)) (hl : ls[k.val]? = some (.val (.int v))) (kk : Owe p e below Post T (mkF m pc' ls (.int v :: st))) (hp : pc + 1 = pc' := by rfl) : Owe p e below Post T (mkF m pc ls st) := by
  subst hp
  have hg : (mkF m pc ls st).method = m := rfl
  exact Owe.via (fun _ q => XS.iloadN K.here K.hx hg hd hl q) kk
theorem oIload (K : Wk p l e R s m args below meth c Z a0 EL own mx sf0 sf T locs cells slots h) (pc' : Nat) {k : Nat} {v : Int32} (hd : decode c.code pc = .ok (.iload k, 2)) (hl : ls[k]? = some (.val (.int v))) (kk : Owe p e below Post T (mkF m pc' ls (.int v :: st))) (hp : pc + 2 = pc' := by rfl) : Owe p e below Post T (mkF m pc ls st) := by
  subst hp
  have hg : (mkF m pc ls st).method = m := rfl
  exact Owe.via (fun _ q => XS.iload K.here K.hx hg hd hl q) kk
theorem oIconst (K : Wk p l e R s m args below meth c Z a0 EL own mx sf0 sf T locs cells slots h) (pc' : Nat) {i : Int} (hd : decode c.code pc = .ok (.iconst i, 1)) (kk : Owe p e below Post T (mkF m pc' ls (.int (Int32.ofInt i) :: st))) (hp : pc + 1 = pc' := by rfl) : Owe p e below Post T (mkF m pc ls st) := by
  subst hp
  have hg : (mkF m pc ls st).method = m := rfl
  exact Owe.via (fun _ q => XS.iconst K.here K.hx hg hd q) kk
theorem oBipush (K : Wk p l e R s m args below meth c Z a0 EL own mx sf0 sf T locs cells slots h) (pc' : Nat) {i : Int} (hd : decode c.code pc = .ok (.bipush i, 2)) (kk : Owe p e below Post T (mkF m pc' ls (.int (Int8.ofInt i).toInt32 :: st))) (hp : pc + 2 = pc' := by rfl) : Owe p e below Post T (mkF m pc ls st) := by
  subst hp
  have hg : (mkF m pc ls st).method = m := rfl
  exact Owe.via (fun _ q => XS.bipush K.here K.hx hg hd q) kk
theorem oAconstNull (K : Wk p l e R s m args below meth c Z a0 EL own mx sf0 sf T locs cells slots h) (pc' : Nat) (hd : decode c.code pc = .ok (.aconst_null, 1)) (kk : Owe p e below Post T (mkF m pc' ls (.null :: st))) (hp : pc + 1 = pc' := by rfl) : Owe p e below Post T (mkF m pc ls st) := by
  subst hp
  have hg : (mkF m pc ls st).method = m := rfl
  exact Owe.via (fun _ q => XS.aconstNull K.here K.hx hg hd q) kk
theorem oIadd (K : Wk p l e R s m args below meth c Z a0 EL own mx sf0 sf T locs cells slots h) (pc' : Nat) {x y : Int32} {rest : List Value} (hd : decode c.code pc = .ok (.iadd, 1)) (kk : Owe p e below Post T (mkF m pc' ls (.int (x + y) :: rest))) (hp : pc + 1 = pc' := by rfl) : Owe p e below Post T (mkF m pc ls (.int y :: .int x :: rest)) := by
  subst hp
  have hg : (mkF m pc ls (.int y :: .int x :: rest)).method = m := rfl
  have hs : (mkF m pc ls (.int y :: .int x :: rest)).stack = (.int y :: .int x :: rest) := rfl
  exact Owe.via (fun _ q => XS.iadd K.here K.hx hg hd hs q) kk
theorem oIsub (K : Wk p l e R s m args below meth c Z a0 EL own mx sf0 sf T locs cells slots h) (pc' : Nat) {x y : Int32} {rest : List Value} (hd : decode c.code pc = .ok (.isub, 1)) (kk : Owe p e below Post T (mkF m pc' ls (.int (x - y) :: rest))) (hp : pc + 1 = pc' := by rfl) : Owe p e below Post T (mkF m pc ls (.int y :: .int x :: rest)) := by
  subst hp
  have hg : (mkF m pc ls (.int y :: .int x :: rest)).method = m := rfl
  have hs : (mkF m pc ls (.int y :: .int x :: rest)).stack = (.int y :: .int x :: rest) := rfl
  exact Owe.via (fun _ q => XS.isub K.here K.hx hg hd hs q) kk
theorem oIand (K : Wk p l e R s m args below meth c Z a0 EL own mx sf0 sf T locs cells slots h) (pc' : Nat) {x y : Int32} {rest : List Value} (hd : decode c.code pc = .ok (.iand, 1)) (kk : Owe p e below Post T (mkF m pc' ls (.int (x &&& y) :: rest))) (hp : pc + 1 = pc' := by rfl) : Owe p e below Post T (mkF m pc ls (.int y :: .int x :: rest)) := by
  subst hp
  have hg : (mkF m pc ls (.int y :: .int x :: rest)).method = m := rfl
  have hs : (mkF m pc ls (.int y :: .int x :: rest)).stack = (.int y :: .int x :: rest) := rfl
  exact Owe.via (fun _ q => XS.iand K.here K.hx hg hd hs q) kk
theorem oDup (K : Wk p l e R s m args below meth c Z a0 EL own mx sf0 sf T locs cells slots h) (pc' : Nat) {x : Value} {rest : List Value} (hd : decode c.code pc = .ok (.dup, 1)) (hc : x.category = 1) (kk : Owe p e below Post T (mkF m pc' ls (x :: x :: rest))) (hp : pc + 1 = pc' := by rfl) : Owe p e below Post T (mkF m pc ls (x :: rest)) := by
  subst hp
  have hg : (mkF m pc ls (x :: rest)).method = m := rfl
  have hs : (mkF m pc ls (x :: rest)).stack = (x :: rest) := rfl
  exact Owe.via (fun _ q => XS.dup K.here K.hx hg hd hs hc q) kk
theorem oIstoreN (K : Wk p l e R s m args below meth c Z a0 EL own mx sf0 sf T locs cells slots h) (pc' : Nat) {k : Fin 4} {x : Int32} {rest : List Value} {l' : Array Slot} (hd : decode c.code pc = .ok (.istore_n k, 1)) (hl : storeLocals ls k.val (.int x) = some l') (kk : Owe p e below Post T (mkF m pc' l' (rest))) (hp : pc + 1 = pc' := by rfl) : Owe p e below Post T (mkF m pc ls (.int x :: rest)) := by
  subst hp
  have hg : (mkF m pc ls (.int x :: rest)).method = m := rfl
  have hs : (mkF m pc ls (.int x :: rest)).stack = (.int x :: rest) := rfl
  exact Owe.via (fun _ q => XS.istoreN K.here K.hx hg hd hs hl q) kk
theorem oIstore (K : Wk p l e R s m args below meth c Z a0 EL own mx sf0 sf T locs cells slots h) (pc' : Nat) {k : Nat} {x : Int32} {rest : List Value} {l' : Array Slot} (hd : decode c.code pc = .ok (.istore k, 2)) (hl : storeLocals ls k (.int x) = some l') (kk : Owe p e below Post T (mkF m pc' l' (rest))) (hp : pc + 2 = pc' := by rfl) : Owe p e below Post T (mkF m pc ls (.int x :: rest)) := by
  subst hp
  have hg : (mkF m pc ls (.int x :: rest)).method = m := rfl
  have hs : (mkF m pc ls (.int x :: rest)).stack = (.int x :: rest) := rfl
  exact Owe.via (fun _ q => XS.istore K.here K.hx hg hd hs hl q) kk
theorem oAstoreN (K : Wk p l e R s m args below meth c Z a0 EL own mx sf0 sf T locs cells slots h) (pc' : Nat) {k : Fin 4} {x : Value} {rest : List Value} {l' : Array Slot} (hd : decode c.code pc = .ok (.astore_n k, 1)) (hv : x.isRef = true) (hl : storeLocals ls k.val x = some l') (kk : Owe p e below Post T (mkF m pc' l' (rest))) (hp : pc + 1 = pc' := by rfl) : Owe p e below Post T (mkF m pc ls (x :: rest)) := by
  subst hp
  have hg : (mkF m pc ls (x :: rest)).method = m := rfl
  have hs : (mkF m pc ls (x :: rest)).stack = (x :: rest) := rfl
  exact Owe.via (fun _ q => XS.astoreN K.here K.hx hg hd hs hv hl q) kk
theorem oAstore (K : Wk p l e R s m args below meth c Z a0 EL own mx sf0 sf T locs cells slots h) (pc' : Nat) {k : Nat} {x : Value} {rest : List Value} {l' : Array Slot} (hd : decode c.code pc = .ok (.astore k, 2)) (hv : x.isRef = true) (hl : storeLocals ls k x = some l') (kk : Owe p e below Post T (mkF m pc' l' (rest))) (hp : pc + 2 = pc' := by rfl) : Owe p e below Post T (mkF m pc ls (x :: rest)) := by
  subst hp
  have hg : (mkF m pc ls (x :: rest)).method = m := rfl
  have hs : (mkF m pc ls (x :: rest)).stack = (x :: rest) := rfl
  exact Owe.via (fun _ q => XS.astore K.here K.hx hg hd hs hv hl q) kk
theorem oGoto (K : Wk p l e R s m args below meth c Z a0 EL own mx sf0 sf T locs cells slots h) (pc' : Nat) {o : Int}  (hd : decode c.code pc = .ok (.goto o, 3)) (kk : Owe p e below Post T (mkF m pc' ls (st))) (ho : 0 ≤ (pc : Int) + o := by decide) (hp : ((pc : Int) + o).toNat = pc' := by decide) : Owe p e below Post T (mkF m pc ls st) := by
  have hg : (mkF m pc ls st).method = m := rfl
  have hpc : (mkF m pc ls st).pc = pc := rfl
  exact Owe.via (fun _ q => XS.goto K.here K.hx hg hpc hd ho hp q) kk
theorem oIfYes (K : Wk p l e R s m args below meth c Z a0 EL own mx sf0 sf T locs cells slots h) (pc' : Nat) {cd : ClassFile.Cond} {x : Int32} {rest : List Value} {o : Int}  (hd : decode c.code pc = .ok (.ifCond cd o, 3)) (hc : ifCond.holds cd x = true) (kk : Owe p e below Post T (mkF m pc' ls (rest))) (ho : 0 ≤ (pc : Int) + o := by decide) (hp : ((pc : Int) + o).toNat = pc' := by decide) : Owe p e below Post T (mkF m pc ls (.int x :: rest)) := by
  have hg : (mkF m pc ls (.int x :: rest)).method = m := rfl
  have hs : (mkF m pc ls (.int x :: rest)).stack = (.int x :: rest) := rfl
  have hpc : (mkF m pc ls (.int x :: rest)).pc = pc := rfl
  exact Owe.via (fun _ q => XS.ifYes K.here K.hx hg hpc hd hs hc ho hp q) kk
theorem oIfNo (K : Wk p l e R s m args below meth c Z a0 EL own mx sf0 sf T locs cells slots h) (pc' : Nat) {cd : ClassFile.Cond} {o : Int} {x : Int32} {rest : List Value} (hd : decode c.code pc = .ok (.ifCond cd o, 3)) (hc : ifCond.holds cd x = false) (kk : Owe p e below Post T (mkF m pc' ls (rest))) (hp : pc + 3 = pc' := by rfl) : Owe p e below Post T (mkF m pc ls (.int x :: rest)) := by
  subst hp
  have hg : (mkF m pc ls (.int x :: rest)).method = m := rfl
  have hs : (mkF m pc ls (.int x :: rest)).stack = (.int x :: rest) := rfl
  exact Owe.via (fun _ q => XS.ifNo K.here K.hx hg hd hs hc q) kk
theorem oIcmpYes (K : Wk p l e R s m args below meth c Z a0 EL own mx sf0 sf T locs cells slots h) (pc' : Nat) {cd : ClassFile.Cond} {x y : Int32} {rest : List Value} {o : Int}  (hd : decode c.code pc = .ok (.if_icmp cd o, 3)) (hc : if_icmp.holds cd x y = true) (kk : Owe p e below Post T (mkF m pc' ls (rest))) (ho : 0 ≤ (pc : Int) + o := by decide) (hp : ((pc : Int) + o).toNat = pc' := by decide) : Owe p e below Post T (mkF m pc ls (.int y :: .int x :: rest)) := by
  have hg : (mkF m pc ls (.int y :: .int x :: rest)).method = m := rfl
  have hs : (mkF m pc ls (.int y :: .int x :: rest)).stack = (.int y :: .int x :: rest) := rfl
  have hpc : (mkF m pc ls (.int y :: .int x :: rest)).pc = pc := rfl
  exact Owe.via (fun _ q => XS.icmpYes K.here K.hx hg hpc hd hs hc ho hp q) kk
theorem oIcmpNo (K : Wk p l e R s m args below meth c Z a0 EL own mx sf0 sf T locs cells slots h) (pc' : Nat) {cd : ClassFile.Cond} {o : Int} {x y : Int32} {rest : List Value} (hd : decode c.code pc = .ok (.if_icmp cd o, 3)) (hc : if_icmp.holds cd x y = false) (kk : Owe p e below Post T (mkF m pc' ls (rest))) (hp : pc + 3 = pc' := by rfl) : Owe p e below Post T (mkF m pc ls (.int y :: .int x :: rest)) := by
  subst hp
  have hg : (mkF m pc ls (.int y :: .int x :: rest)).method = m := rfl
  have hs : (mkF m pc ls (.int y :: .int x :: rest)).stack = (.int y :: .int x :: rest) := rfl
  exact Owe.via (fun _ q => XS.icmpNo K.here K.hx hg hd hs hc q) kk
theorem oIfnullYes (K : Wk p l e R s m args below meth c Z a0 EL own mx sf0 sf T locs cells slots h) (pc' : Nat) {rest : List Value} {o : Int}  (hd : decode c.code pc = .ok (.ifnull o, 3)) (kk : Owe p e below Post T (mkF m pc' ls (rest))) (ho : 0 ≤ (pc : Int) + o := by decide) (hp : ((pc : Int) + o).toNat = pc' := by decide) : Owe p e below Post T (mkF m pc ls (.null :: rest)) := by
  have hg : (mkF m pc ls (.null :: rest)).method = m := rfl
  have hs : (mkF m pc ls (.null :: rest)).stack = (.null :: rest) := rfl
  have hpc : (mkF m pc ls (.null :: rest)).pc = pc := rfl
  exact Owe.via (fun _ q => XS.ifnullYes K.here K.hx hg hpc hd hs ho hp q) kk
theorem oIfnullNo (K : Wk p l e R s m args below meth c Z a0 EL own mx sf0 sf T locs cells slots h) (pc' : Nat) {o : Int} {b : Addr} {rest : List Value} (hd : decode c.code pc = .ok (.ifnull o, 3)) (kk : Owe p e below Post T (mkF m pc' ls (rest))) (hp : pc + 3 = pc' := by rfl) : Owe p e below Post T (mkF m pc ls (.ref b :: rest)) := by
  subst hp
  have hg : (mkF m pc ls (.ref b :: rest)).method = m := rfl
  have hs : (mkF m pc ls (.ref b :: rest)).stack = (.ref b :: rest) := rfl
  exact Owe.via (fun _ q => XS.ifnullNo K.here K.hx hg hd hs q) kk
theorem oImul (K : Wk p l e R s m args below meth c Z a0 EL own mx sf0 sf T locs cells slots h) (pc' : Nat) {x y : Int32} {rest : List Value} (hd : decode c.code pc = .ok (.imul, 1)) (kk : Owe p e below Post T (mkF m pc' ls (.int (x * y) :: rest))) (hp : pc + 1 = pc' := by rfl) : Owe p e below Post T (mkF m pc ls (.int y :: .int x :: rest)) := by
  subst hp
  have hg : (mkF m pc ls (.int y :: .int x :: rest)).method = m := rfl
  have hs : (mkF m pc ls (.int y :: .int x :: rest)).stack = (.int y :: .int x :: rest) := rfl
  exact Owe.via (fun _ q => XS.imul K.here K.hx hg hd hs q) kk
theorem oIrem (K : Wk p l e R s m args below meth c Z a0 EL own mx sf0 sf T locs cells slots h) (pc' : Nat) {x y : Int32} {rest : List Value} (hd : decode c.code pc = .ok (.irem, 1)) (hy : y ≠ 0) (kk : Owe p e below Post T (mkF m pc' ls (.int (x % y) :: rest))) (hp : pc + 1 = pc' := by rfl) : Owe p e below Post T (mkF m pc ls (.int y :: .int x :: rest)) := by
  subst hp
  have hg : (mkF m pc ls (.int y :: .int x :: rest)).method = m := rfl
  have hs : (mkF m pc ls (.int y :: .int x :: rest)).stack = (.int y :: .int x :: rest) := rfl
  obtain ⟨q0, vm0, k0, X, q⟩ := K
  exact Owe.via (fun _ r => iremM X q0.1 hg hd hs hy r) kk
theorem oIdiv (K : Wk p l e R s m args below meth c Z a0 EL own mx sf0 sf T locs cells slots h) (pc' : Nat) {x y : Int32} {rest : List Value} (hd : decode c.code pc = .ok (.idiv, 1)) (hy : y ≠ 0) (kk : Owe p e below Post T (mkF m pc' ls (.int (x / y) :: rest))) (hp : pc + 1 = pc' := by rfl) : Owe p e below Post T (mkF m pc ls (.int y :: .int x :: rest)) := by
  subst hp
  have hg : (mkF m pc ls (.int y :: .int x :: rest)).method = m := rfl
  have hs : (mkF m pc ls (.int y :: .int x :: rest)).stack = (.int y :: .int x :: rest) := rfl
  exact Owe.via (fun _ q => XS.idiv K.here K.hx hg hd hs hy q) kk
theorem oIneg (K : Wk p l e R s m args below meth c Z a0 EL own mx sf0 sf T locs cells slots h) (pc' : Nat) {x : Int32} {rest : List Value} (hd : decode c.code pc = .ok (.ineg, 1)) (kk : Owe p e below Post T (mkF m pc' ls (.int (-x) :: rest))) (hp : pc + 1 = pc' := by rfl) : Owe p e below Post T (mkF m pc ls (.int x :: rest)) := by
  subst hp
  have hg : (mkF m pc ls (.int x :: rest)).method = m := rfl
  have hs : (mkF m pc ls (.int x :: rest)).stack = (.int x :: rest) := rfl
  exact Owe.via (fun _ q => XS.ineg K.here K.hx hg hd hs q) kk
theorem oIinc (K : Wk p l e R s m args below meth c Z a0 EL own mx sf0 sf T locs cells slots h) (pc' : Nat) {k : Nat} {cst : Int} {x : Int32} {l' : Array Slot} (hd : decode c.code pc = .ok (.iinc k cst, 3)) (hl : ls[k]? = some (.val (.int x))) (hl' : storeLocals ls k (.int (x + Int32.ofInt cst)) = some l') (kk : Owe p e below Post T (mkF m pc' l' (st))) (hp : pc + 3 = pc' := by rfl) : Owe p e below Post T (mkF m pc ls st) := by
  subst hp
  have hg : (mkF m pc ls st).method = m := rfl
  exact Owe.via (fun _ q => XS.iinc K.here K.hx hg hd hl hl' q) kk
theorem oSipush (K : Wk p l e R s m args below meth c Z a0 EL own mx sf0 sf T locs cells slots h) (pc' : Nat) {i : Int} (hd : decode c.code pc = .ok (.sipush i, 3)) (kk : Owe p e below Post T (mkF m pc' ls (.int (Int16.ofInt i).toInt32 :: st))) (hp : pc + 3 = pc' := by rfl) : Owe p e below Post T (mkF m pc ls st) := by
  subst hp
  have hg : (mkF m pc ls st).method = m := rfl
  exact Owe.via (fun _ q => XS.sipush K.here K.hx hg hd q) kk
theorem oIor (K : Wk p l e R s m args below meth c Z a0 EL own mx sf0 sf T locs cells slots h) (pc' : Nat) {x y : Int32} {rest : List Value} (hd : decode c.code pc = .ok (.ior, 1)) (kk : Owe p e below Post T (mkF m pc' ls (.int (x ||| y) :: rest))) (hp : pc + 1 = pc' := by rfl) : Owe p e below Post T (mkF m pc ls (.int y :: .int x :: rest)) := by
  subst hp
  have hg : (mkF m pc ls (.int y :: .int x :: rest)).method = m := rfl
  have hs : (mkF m pc ls (.int y :: .int x :: rest)).stack = (.int y :: .int x :: rest) := rfl
  exact Owe.via (fun _ q => XT.ior K.here K.hx hg hd hs q) kk
theorem oIshl (K : Wk p l e R s m args below meth c Z a0 EL own mx sf0 sf T locs cells slots h) (pc' : Nat) {x y : Int32} {rest : List Value} (hd : decode c.code pc = .ok (.ishl, 1)) (kk : Owe p e below Post T (mkF m pc' ls (.int (x <<< (y &&& 31)) :: rest))) (hp : pc + 1 = pc' := by rfl) : Owe p e below Post T (mkF m pc ls (.int y :: .int x :: rest)) := by
  subst hp
  have hg : (mkF m pc ls (.int y :: .int x :: rest)).method = m := rfl
  have hs : (mkF m pc ls (.int y :: .int x :: rest)).stack = (.int y :: .int x :: rest) := rfl
  exact Owe.via (fun _ q => XT.ishl K.here K.hx hg hd hs q) kk
theorem oIshr (K : Wk p l e R s m args below meth c Z a0 EL own mx sf0 sf T locs cells slots h) (pc' : Nat) {x y : Int32} {rest : List Value} (hd : decode c.code pc = .ok (.ishr, 1)) (kk : Owe p e below Post T (mkF m pc' ls (.int (x >>> (y &&& 31)) :: rest))) (hp : pc + 1 = pc' := by rfl) : Owe p e below Post T (mkF m pc ls (.int y :: .int x :: rest)) := by
  subst hp
  have hg : (mkF m pc ls (.int y :: .int x :: rest)).method = m := rfl
  have hs : (mkF m pc ls (.int y :: .int x :: rest)).stack = (.int y :: .int x :: rest) := rfl
  exact Owe.via (fun _ q => XT.ishr K.here K.hx hg hd hs q) kk
theorem oIushr (K : Wk p l e R s m args below meth c Z a0 EL own mx sf0 sf T locs cells slots h) (pc' : Nat) {x y : Int32} {rest : List Value} (hd : decode c.code pc = .ok (.iushr, 1)) (kk : Owe p e below Post T (mkF m pc' ls (.int (XT.ushr x y) :: rest))) (hp : pc + 1 = pc' := by rfl) : Owe p e below Post T (mkF m pc ls (.int y :: .int x :: rest)) := by
  subst hp
  have hg : (mkF m pc ls (.int y :: .int x :: rest)).method = m := rfl
  have hs : (mkF m pc ls (.int y :: .int x :: rest)).stack = (.int y :: .int x :: rest) := rfl
  exact Owe.via (fun _ q => XT.iushr K.here K.hx hg hd hs q) kk
theorem oLand (K : Wk p l e R s m args below meth c Z a0 EL own mx sf0 sf T locs cells slots h) (pc' : Nat) {x y : Int64} {rest : List Value} (hd : decode c.code pc = .ok (.land, 1)) (kk : Owe p e below Post T (mkF m pc' ls (.long (x &&& y) :: rest))) (hp : pc + 1 = pc' := by rfl) : Owe p e below Post T (mkF m pc ls (.long y :: .long x :: rest)) := by
  subst hp
  have hg : (mkF m pc ls (.long y :: .long x :: rest)).method = m := rfl
  have hs : (mkF m pc ls (.long y :: .long x :: rest)).stack = (.long y :: .long x :: rest) := rfl
  exact Owe.via (fun _ q => XT.land K.here K.hx hg hd hs q) kk
theorem oLushr (K : Wk p l e R s m args below meth c Z a0 EL own mx sf0 sf T locs cells slots h) (pc' : Nat) {x : Int64} {y : Int32} {rest : List Value} (hd : decode c.code pc = .ok (.lushr, 1)) (kk : Owe p e below Post T (mkF m pc' ls (.long (XT.ushrL x y) :: rest))) (hp : pc + 1 = pc' := by rfl) : Owe p e below Post T (mkF m pc ls (.int y :: .long x :: rest)) := by
  subst hp
  have hg : (mkF m pc ls (.int y :: .long x :: rest)).method = m := rfl
  have hs : (mkF m pc ls (.int y :: .long x :: rest)).stack = (.int y :: .long x :: rest) := rfl
  exact Owe.via (fun _ q => XT.lushr K.here K.hx hg hd hs q) kk
theorem oI2l (K : Wk p l e R s m args below meth c Z a0 EL own mx sf0 sf T locs cells slots h) (pc' : Nat) {x : Int32} {rest : List Value} (hd : decode c.code pc = .ok (.i2l, 1)) (kk : Owe p e below Post T (mkF m pc' ls (.long (x.toInt64) :: rest))) (hp : pc + 1 = pc' := by rfl) : Owe p e below Post T (mkF m pc ls (.int x :: rest)) := by
  subst hp
  have hg : (mkF m pc ls (.int x :: rest)).method = m := rfl
  have hs : (mkF m pc ls (.int x :: rest)).stack = (.int x :: rest) := rfl
  exact Owe.via (fun _ q => XT.i2l K.here K.hx hg hd hs q) kk
theorem oL2i (K : Wk p l e R s m args below meth c Z a0 EL own mx sf0 sf T locs cells slots h) (pc' : Nat) {x : Int64} {rest : List Value} (hd : decode c.code pc = .ok (.l2i, 1)) (kk : Owe p e below Post T (mkF m pc' ls (.int (x.toInt32) :: rest))) (hp : pc + 1 = pc' := by rfl) : Owe p e below Post T (mkF m pc ls (.long x :: rest)) := by
  subst hp
  have hg : (mkF m pc ls (.long x :: rest)).method = m := rfl
  have hs : (mkF m pc ls (.long x :: rest)).stack = (.long x :: rest) := rfl
  exact Owe.via (fun _ q => XT.l2i K.here K.hx hg hd hs q) kk
theorem oI2b (K : Wk p l e R s m args below meth c Z a0 EL own mx sf0 sf T locs cells slots h) (pc' : Nat) {x : Int32} {rest : List Value} (hd : decode c.code pc = .ok (.i2b, 1)) (kk : Owe p e below Post T (mkF m pc' ls (.int (x.toInt8.toInt32) :: rest))) (hp : pc + 1 = pc' := by rfl) : Owe p e below Post T (mkF m pc ls (.int x :: rest)) := by
  subst hp
  have hg : (mkF m pc ls (.int x :: rest)).method = m := rfl
  have hs : (mkF m pc ls (.int x :: rest)).stack = (.int x :: rest) := rfl
  exact Owe.via (fun _ q => XT.i2b K.here K.hx hg hd hs q) kk
theorem oI2c (K : Wk p l e R s m args below meth c Z a0 EL own mx sf0 sf T locs cells slots h) (pc' : Nat) {x : Int32} {rest : List Value} (hd : decode c.code pc = .ok (.i2c, 1)) (kk : Owe p e below Post T (mkF m pc' ls (.int (x.toUInt32.toUInt16.toUInt32.toInt32) :: rest))) (hp : pc + 1 = pc' := by rfl) : Owe p e below Post T (mkF m pc ls (.int x :: rest)) := by
  subst hp
  have hg : (mkF m pc ls (.int x :: rest)).method = m := rfl
  have hs : (mkF m pc ls (.int x :: rest)).stack = (.int x :: rest) := rfl
  exact Owe.via (fun _ q => XT.i2c K.here K.hx hg hd hs q) kk
theorem oLloadN (K : Wk p l e R s m args below meth c Z a0 EL own mx sf0 sf T locs cells slots h) (pc' : Nat) {k : Fin 4} {v : Int64} (hd : decode c.code pc = .ok (.lload_n k, 1)) (hl : ls[k.val]? = some (.val (.long v))) (kk : Owe p e below Post T (mkF m pc' ls (.long v :: st))) (hp : pc + 1 = pc' := by rfl) : Owe p e below Post T (mkF m pc ls st) := by
  subst hp
  have hg : (mkF m pc ls st).method = m := rfl
  exact Owe.via (fun _ q => XT.lloadN K.here K.hx hg hd hl q) kk
theorem oLload (K : Wk p l e R s m args below meth c Z a0 EL own mx sf0 sf T locs cells slots h) (pc' : Nat) {k : Nat} {v : Int64} (hd : decode c.code pc = .ok (.lload k, 2)) (hl : ls[k]? = some (.val (.long v))) (kk : Owe p e below Post T (mkF m pc' ls (.long v :: st))) (hp : pc + 2 = pc' := by rfl) : Owe p e below Post T (mkF m pc ls st) := by
  subst hp
  have hg : (mkF m pc ls st).method = m := rfl
  exact Owe.via (fun _ q => XT.lload K.here K.hx hg hd hl q) kk
theorem oLconst (K : Wk p l e R s m args below meth c Z a0 EL own mx sf0 sf T locs cells slots h) (pc' : Nat) {k : Fin 2} (hd : decode c.code pc = .ok (.lconst k, 1)) (kk : Owe p e below Post T (mkF m pc' ls (.long (Int64.ofNat k) :: st))) (hp : pc + 1 = pc' := by rfl) : Owe p e below Post T (mkF m pc ls st) := by
  subst hp
  have hg : (mkF m pc ls st).method = m := rfl
  exact Owe.via (fun _ q => XT.lconst K.here K.hx hg hd q) kk
theorem oLcmp (K : Wk p l e R s m args below meth c Z a0 EL own mx sf0 sf T locs cells slots h) (pc' : Nat) {x y : Int64} {rest : List Value} (hd : decode c.code pc = .ok (.lcmp, 1)) (kk : Owe p e below Post T (mkF m pc' ls (.int (XT.cmpL x y) :: rest))) (hp : pc + 1 = pc' := by rfl) : Owe p e below Post T (mkF m pc ls (.long y :: .long x :: rest)) := by
  subst hp
  have hg : (mkF m pc ls (.long y :: .long x :: rest)).method = m := rfl
  have hs : (mkF m pc ls (.long y :: .long x :: rest)).stack = (.long y :: .long x :: rest) := rfl
  exact Owe.via (fun _ q => XT.lcmp K.here K.hx hg hd hs q) kk
theorem oPop (K : Wk p l e R s m args below meth c Z a0 EL own mx sf0 sf T locs cells slots h) (pc' : Nat) {x : Value} {rest : List Value} (hd : decode c.code pc = .ok (.pop, 1)) (hc : x.category = 1) (kk : Owe p e below Post T (mkF m pc' ls (rest))) (hp : pc + 1 = pc' := by rfl) : Owe p e below Post T (mkF m pc ls (x :: rest)) := by
  subst hp
  have hg : (mkF m pc ls (x :: rest)).method = m := rfl
  have hs : (mkF m pc ls (x :: rest)).stack = (x :: rest) := rfl
  exact Owe.via (fun _ q => XT.pop K.here K.hx hg hd hs hc q) kk
theorem oIfnonnullYes (K : Wk p l e R s m args below meth c Z a0 EL own mx sf0 sf T locs cells slots h) (pc' : Nat) {b : Addr} {rest : List Value} {o : Int}  (hd : decode c.code pc = .ok (.ifnonnull o, 3)) (kk : Owe p e below Post T (mkF m pc' ls (rest))) (ho : 0 ≤ (pc : Int) + o := by decide) (hp : ((pc : Int) + o).toNat = pc' := by decide) : Owe p e below Post T (mkF m pc ls (.ref b :: rest)) := by
  have hg : (mkF m pc ls (.ref b :: rest)).method = m := rfl
  have hs : (mkF m pc ls (.ref b :: rest)).stack = (.ref b :: rest) := rfl
  have hpc : (mkF m pc ls (.ref b :: rest)).pc = pc := rfl
  exact Owe.via (fun _ q => XT.ifnonnullYes K.here K.hx hg hpc hd hs ho hp q) kk
theorem oIfnonnullNo (K : Wk p l e R s m args below meth c Z a0 EL own mx sf0 sf T locs cells slots h) (pc' : Nat) {o : Int} {rest : List Value} (hd : decode c.code pc = .ok (.ifnonnull o, 3)) (kk : Owe p e below Post T (mkF m pc' ls (rest))) (hp : pc + 3 = pc' := by rfl) : Owe p e below Post T (mkF m pc ls (.null :: rest)) := by
  subst hp
  have hg : (mkF m pc ls (.null :: rest)).method = m := rfl
  have hs : (mkF m pc ls (.null :: rest)).stack = (.null :: rest) := rfl
  exact Owe.via (fun _ q => XT.ifnonnullNo K.here K.hx hg hd hs q) kk
theorem oAcmpYes (K : Wk p l e R s m args below meth c Z a0 EL own mx sf0 sf T locs cells slots h) (pc' : Nat) {cd : ClassFile.ACond} {x y : Value} {rest : List Value} {o : Int}  (hd : decode c.code pc = .ok (.if_acmp cd o, 3)) (hx' : x.isRef = true) (hy' : y.isRef = true) (hc : XT.acmp cd x y = true) (kk : Owe p e below Post T (mkF m pc' ls (rest))) (ho : 0 ≤ (pc : Int) + o := by decide) (hp : ((pc : Int) + o).toNat = pc' := by decide) : Owe p e below Post T (mkF m pc ls (y :: x :: rest)) := by
  have hg : (mkF m pc ls (y :: x :: rest)).method = m := rfl
  have hs : (mkF m pc ls (y :: x :: rest)).stack = (y :: x :: rest) := rfl
  have hpc : (mkF m pc ls (y :: x :: rest)).pc = pc := rfl
  exact Owe.via (fun _ q => XT.acmpYes K.here K.hx hg hpc hd hs hx' hy' hc ho hp q) kk
theorem oAcmpNo (K : Wk p l e R s m args below meth c Z a0 EL own mx sf0 sf T locs cells slots h) (pc' : Nat) {cd : ClassFile.ACond} {o : Int} {x y : Value} {rest : List Value} (hd : decode c.code pc = .ok (.if_acmp cd o, 3)) (hx' : x.isRef = true) (hy' : y.isRef = true) (hc : XT.acmp cd x y = false) (kk : Owe p e below Post T (mkF m pc' ls (rest))) (hp : pc + 3 = pc' := by rfl) : Owe p e below Post T (mkF m pc ls (y :: x :: rest)) := by
  subst hp
  have hg : (mkF m pc ls (y :: x :: rest)).method = m := rfl
  have hs : (mkF m pc ls (y :: x :: rest)).stack = (y :: x :: rest) := rfl
  exact Owe.via (fun _ q => XT.acmpNo K.here K.hx hg hd hs hx' hy' hc q) kk
theorem oLstore (K : Wk p l e R s m args below meth c Z a0 EL own mx sf0 sf T locs cells slots h) (pc' : Nat) {k : Nat} {x : Int64} {rest : List Value} {l' : Array Slot} (hd : decode c.code pc = .ok (.lstore k, 2)) (hl : storeLocals ls k (.long x) = some l') (kk : Owe p e below Post T (mkF m pc' l' (rest))) (hp : pc + 2 = pc' := by rfl) : Owe p e below Post T (mkF m pc ls (.long x :: rest)) := by
  subst hp
  have hg : (mkF m pc ls (.long x :: rest)).method = m := rfl
  have hs : (mkF m pc ls (.long x :: rest)).stack = (.long x :: rest) := rfl
  exact Owe.via (fun _ q => XT.lstore K.here K.hx hg hd hs hl q) kk
theorem oLstoreN (K : Wk p l e R s m args below meth c Z a0 EL own mx sf0 sf T locs cells slots h) (pc' : Nat) {k : Fin 4} {x : Int64} {rest : List Value} {l' : Array Slot} (hd : decode c.code pc = .ok (.lstore_n k, 1)) (hl : storeLocals ls k.val (.long x) = some l') (kk : Owe p e below Post T (mkF m pc' l' (rest))) (hp : pc + 1 = pc' := by rfl) : Owe p e below Post T (mkF m pc ls (.long x :: rest)) := by
  subst hp
  have hg : (mkF m pc ls (.long x :: rest)).method = m := rfl
  have hs : (mkF m pc ls (.long x :: rest)).stack = (.long x :: rest) := rfl
  exact Owe.via (fun _ q => XT.lstoreN K.here K.hx hg hd hs hl q) kk
theorem oDup2 (K : Wk p l e R s m args below meth c Z a0 EL own mx sf0 sf T locs cells slots h) (pc' : Nat) {x y : Value} {rest : List Value} (hd : decode c.code pc = .ok (.dup2, 1)) (hc : x.category = 1) (hc' : y.category = 1) (kk : Owe p e below Post T (mkF m pc' ls (x :: y :: x :: y :: rest))) (hp : pc + 1 = pc' := by rfl) : Owe p e below Post T (mkF m pc ls (x :: y :: rest)) := by
  subst hp
  have hg : (mkF m pc ls (x :: y :: rest)).method = m := rfl
  have hs : (mkF m pc ls (x :: y :: rest)).stack = (x :: y :: rest) := rfl
  exact Owe.via (fun _ q => XT.dup2 K.here K.hx hg hd hs hc hc' q) kk
theorem oDupX1 (K : Wk p l e R s m args below meth c Z a0 EL own mx sf0 sf T locs cells slots h) (pc' : Nat) {x y : Value} {rest : List Value} (hd : decode c.code pc = .ok (.dup_x1, 1)) (hc : x.category = 1) (hc' : y.category = 1) (kk : Owe p e below Post T (mkF m pc' ls (x :: y :: x :: rest))) (hp : pc + 1 = pc' := by rfl) : Owe p e below Post T (mkF m pc ls (x :: y :: rest)) := by
  subst hp
  have hg : (mkF m pc ls (x :: y :: rest)).method = m := rfl
  have hs : (mkF m pc ls (x :: y :: rest)).stack = (x :: y :: rest) := rfl
  exact Owe.via (fun _ q => XT.dupX1 K.here K.hx hg hd hs hc hc' q) kk
theorem oIconstV (K : Wk p l e R s m args below meth c Z a0 EL own mx sf0 sf T locs cells slots h) (pc' : Nat) {i : Int} (v : Int32) (hd : decode c.code pc = .ok (.iconst i, 1)) (hv : Int32.ofInt i = v) (kk : Owe p e below Post T (mkF m pc' ls (.int v :: st))) (hp : pc + 1 = pc' := by rfl) : Owe p e below Post T (mkF m pc ls st) := by
  subst hp
  have hg : (mkF m pc ls st).method = m := rfl
  exact Owe.via (fun _ q => XT.iconstV K.here K.hx hg v hd hv q) kk
theorem oBipushV (K : Wk p l e R s m args below meth c Z a0 EL own mx sf0 sf T locs cells slots h) (pc' : Nat) {i : Int} (v : Int32) (hd : decode c.code pc = .ok (.bipush i, 2)) (hv : (Int8.ofInt i).toInt32 = v) (kk : Owe p e below Post T (mkF m pc' ls (.int v :: st))) (hp : pc + 2 = pc' := by rfl) : Owe p e below Post T (mkF m pc ls st) := by
  subst hp
  have hg : (mkF m pc ls st).method = m := rfl
  exact Owe.via (fun _ q => XT.bipushV K.here K.hx hg v hd hv q) kk
theorem oSipushV (K : Wk p l e R s m args below meth c Z a0 EL own mx sf0 sf T locs cells slots h) (pc' : Nat) {i : Int} (v : Int32) (hd : decode c.code pc = .ok (.sipush i, 3)) (hv : (Int16.ofInt i).toInt32 = v) (kk : Owe p e below Post T (mkF m pc' ls (.int v :: st))) (hp : pc + 3 = pc' := by rfl) : Owe p e below Post T (mkF m pc ls st) := by
  subst hp
  have hg : (mkF m pc ls st).method = m := rfl
  exact Owe.via (fun _ q => XT.sipushV K.here K.hx hg v hd hv q) kk
theorem oLconstV (K : Wk p l e R s m args below meth c Z a0 EL own mx sf0 sf T locs cells slots h) (pc' : Nat) {k : Fin 2} (v : Int64) (hd : decode c.code pc = .ok (.lconst k, 1)) (hv : Int64.ofNat k = v) (kk : Owe p e below Post T (mkF m pc' ls (.long v :: st))) (hp : pc + 1 = pc' := by rfl) : Owe p e below Post T (mkF m pc ls st) := by
  subst hp
  have hg : (mkF m pc ls st).method = m := rfl
  exact Owe.via (fun _ q => XT.lconstV K.here K.hx hg v hd hv q) kk
theorem oIincV (K : Wk p l e R s m args below meth c Z a0 EL own mx sf0 sf T locs cells slots h) (pc' : Nat) {k : Nat} {cst : Int} {x : Int32} {l' : Array Slot} (v : Int32) (hd : decode c.code pc = .ok (.iinc k cst, 3)) (hv : Int32.ofInt cst = v) (hl : ls[k]? = some (.val (.int x))) (hl' : storeLocals ls k (.int (x + v)) = some l') (kk : Owe p e below Post T (mkF m pc' l' (st))) (hp : pc + 3 = pc' := by rfl) : Owe p e below Post T (mkF m pc ls st) := by
  subst hp
  have hg : (mkF m pc ls st).method = m := rfl
  exact Owe.via (fun _ q => XT.iincV K.here K.hx hg v hd hv hl hl' q) kk
end Walk
end Jvm.OwnKit

/- laws to paste: Road.backV (cut by pick.py; bodies as the Statement names them) -/
namespace Jvm.Pilot.@@N@@
namespace StrChars
open Jvm Sem ClassFile Op Lib Jvm.Stand Jvm.Free.XT Jvm.Free.ALB Jvm.Free.JM Jvm.Free
open Jvm.Lib.Cold (StaticIs)
/-- a char array whose places are chars -/
def Ch (a : Addr) (A : Cell) (U : State) : Prop := Arr .char a A U ∧ Typed .char A
theorem Ch.mv {a : Addr} {A : Cell} {U U' : State} (h : Ch a A U) (hal : U.vm.Alike U'.vm) (hh : U'.heap = U.heap) : Ch a A U' := ⟨h.1.mv hal hh, h.2⟩
theorem Ch.keep {a : Addr} {A : Cell} {U U' : State} (h : Ch a A U) (hal : U.vm.Alike U'.vm) (hk : U'.heap[a]? = some A) : Ch a A U' := ⟨h.1.keep hal hk, h.2⟩
/-- what place i of a char[]'s cell holds -/
def cv (A : Cell) (i : Nat) : Int32 := match A.slots[i]? with | some (.int x) => x | _ => 0
theorem Ch.get {a : Addr} {A : Cell} {U : State} (h : Ch a A U) {i : Nat} (hi : i < A.slots.size) : A.slots[i]? = some (.int (cv A i)) := by
  have e := Array.getElem?_eq_getElem hi
  have f := h.2 i _ e
  unfold cv; rw [e]
  generalize A.slots[i] = v at f
  cases v <;> simp [fits] at f ⊢
/-- the byte that i2b leaves of a char -/
def lo8 (x : Int32) : Int32 := x.toInt8.toInt32
theorem fits_lo8 (y : Int32) : fits .byte (.int (lo8 y)) = true := by
  have h1 := y.toInt8.le_toInt
  have h2 := y.toInt8.toInt_lt
  simp only [lo8, fits, Bool.and_eq_true, decide_eq_true_eq, Int32.le_iff_toInt_le, Int8.toInt_toInt32, show (-128 : Int32).toInt = -128 from by decide, show (127 : Int32).toInt = 127 from by decide]
  omega
/-- A' is A but that each place j of lo .. hi - 1 holds f j -/
def Laid (A A' : Cell) (lo hi : Nat) (f : Nat → Value) : Prop := A'.cls = A.cls ∧ A'.vm = A.vm ∧ A'.slots.size = A.slots.size ∧ ∀ i, A'.slots[i]? = if lo ≤ i ∧ i < hi then some (f i) else A.slots[i]?
theorem Laid.zero (A : Cell) (lo : Nat) (f : Nat → Value) : Laid A A lo (lo + 0) f := ⟨rfl, rfl, rfl, fun i => by rw [if_neg (by omega)]⟩
theorem Laid.step {A Ak : Cell} {lo k : Nat} {f : Nat → Value} {v : Value} (h : Laid A Ak lo k f) (hlo : lo ≤ k) (hk : k < Ak.slots.size) (hv : v = f k) : Laid A (Ak.setSlot k v) lo (k + 1) f := by
  refine ⟨h.1, h.2.1, by simpa [Cell.setSlot] using h.2.2.1, fun i => ?_⟩
  by_cases e : k = i
  · subst e; rw [Cell.slots_setSlot_self v hk, if_pos (by omega), hv]
  · rw [Cell.slots_setSlot_ne v e, h.2.2.2 i]
    by_cases q : lo ≤ i ∧ i < k
    · rw [if_pos q, if_pos (by omega)]
    · rw [if_neg q, if_neg (by omega)]
def U16 : String := "java/lang/StringUTF16"
namespace Cmp5
def yN : MethodName := ⟨"java/lang/StringUTF16", "compress", "([CI[BII)I"⟩
abbrev yB : ByteArray := jdk_52_method_21_code
theorem d0 : decode yB 0 = .ok (.iconst 0, 1) := by decide +kernel
theorem d1 : decode yB 1 = .ok (.istore 5, 2) := by decide +kernel
theorem d3 : decode yB 3 = .ok (.iload 5, 2) := by decide +kernel
theorem d5 : decode yB 5 = .ok (.iload 4, 2) := by decide +kernel
theorem d7 : decode yB 7 = .ok (.if_icmp (.ge) 37, 3) := by decide +kernel
theorem d10 : decode yB 10 = .ok (.aload_n 0, 1) := by decide +kernel
theorem d11 : decode yB 11 = .ok (.iload_n 1, 1) := by decide +kernel
theorem d12 : decode yB 12 = .ok (.caload, 1) := by decide +kernel
theorem d13 : decode yB 13 = .ok (.istore 6, 2) := by decide +kernel
theorem d15 : decode yB 15 = .ok (.iload 6, 2) := by decide +kernel
theorem d17 : decode yB 17 = .ok (.sipush 255, 3) := by decide +kernel
theorem d20 : decode yB 20 = .ok (.if_icmp (.le) 6, 3) := by decide +kernel
theorem d26 : decode yB 26 = .ok (.aload_n 2, 1) := by decide +kernel
theorem d27 : decode yB 27 = .ok (.iload_n 3, 1) := by decide +kernel
theorem d28 : decode yB 28 = .ok (.iload 6, 2) := by decide +kernel
theorem d30 : decode yB 30 = .ok (.i2b, 1) := by decide +kernel
theorem d31 : decode yB 31 = .ok (.bastore, 1) := by decide +kernel
theorem d32 : decode yB 32 = .ok (.iinc 1 1, 3) := by decide +kernel
theorem d35 : decode yB 35 = .ok (.iinc 3 1, 3) := by decide +kernel
theorem d38 : decode yB 38 = .ok (.iinc 5 1, 3) := by decide +kernel
theorem d41 : decode yB 41 = .ok (.goto (-38), 3) := by decide +kernel
theorem d44 : decode yB 44 = .ok (.iload 4, 2) := by decide +kernel
theorem d46 : decode yB 46 = .ok (.ireturn, 1) := by decide +kernel
def site : List Cond := []
def tab : Cond := tabOf yN yB 7 (some .int) site
def P (b : Addr) (A : Cell) (d : Addr) (B : Cell) (o q len : Nat) (args : Array Value) (s : State) : Prop := args = #[.ref b, .int (Int32.ofNat o), .ref d, .int (Int32.ofNat q), .int (Int32.ofNat len)] ∧ Ch b A s ∧ Arr .byte d B s ∧ b ≠ d ∧ o + len ≤ A.slots.size ∧ q + len ≤ B.slots.size ∧ ∀ i, i < len → ¬ 255 < cv A (o + i)
def E (b : Addr) (A : Cell) (d : Addr) (B : Cell) (o q len : Nat) (r : Option Value) (s u : State) : Prop := r = some (.int (Int32.ofNat len)) ∧ ∃ B', Put d B' s u ∧ Laid B B' q (q + len) (fun j => Value.int (lo8 (cv A (o + (j - q)))))
/-- no char of the range above 255: len; the places written hold each char's low byte -/
theorem law (l : Launch) (b : Addr) (A : Cell) (d : Addr) (B : Cell) (o q len : Nat) : Law l yN 5 5 0 0 yB 7 (some .int) site (P b A d B o q len) (E b A d B o q len) (copyLocs d q len) 0 0 := by
  refine Law.of_walk (plainFor_of_name (by decide +kernel)) (by decide +kernel) (by decide +kernel) (by decide) (fun _ _ h => by rw [h.1]; rfl) (fun _ U U' hal hh h => ⟨h.1, h.2.1.mv hal hh, h.2.2.1.mv hal hh, h.2.2.2⟩) (fun r U U' V V' h1 hal h2 h => ⟨h.1, h.2.elim fun B' q => ⟨B', q.1.mv h1 h2, q.2⟩⟩) ?_
  intro p e s m args below meth c s₁ X0 hexec hbytes hml hret hlk hnm hown hh0 W hP
  obtain ⟨rfl, hA, hB, hne, l1, l2, hp⟩ := hP
  have c1 : Steps p.tables e below (s₁.setTop (entryFrame m #[.ref b, .int (Int32.ofNat o), .ref d, .int (Int32.ofNat q), .int (Int32.ofNat len)] 7)) (s₁.setTop (mkF m 0 #[.val (.ref b), .val (.int (Int32.ofNat o)), .val (.ref d), .val (.int (Int32.ofNat q)), .val (.int (Int32.ofNat len)), .unset, .unset] [])) := entry rfl
  have hA0 := hA.1.mv X0.warmed.alike hh0
  have hB0 := hB.mv X0.warmed.alike hh0
  have a31 := hA.1.2.2.2
  have c2 : Steps p.tables e below (s₁.setTop (entryFrame m #[.ref b, .int (Int32.ofNat o), .ref d, .int (Int32.ofNat q), .int (Int32.ofNat len)] 7)) (s₁.setTop (mkF m 3 #[.val (.ref b), .val (.int (Int32.ofNat o)), .val (.ref d), .val (.int (Int32.ofNat q)), .val (.int (Int32.ofNat len)), .val (.int 0), .unset] [])) := c1.trans (by
    refine iconstV X0.here hexec rfl 0 (hb hbytes d0) (by decide) ?_
    refine XS.istore X0.here hexec rfl (hb hbytes d1) rfl rfl ?_
    exact Steps.refl _)
  have loop : ∀ (r i : Nat), i + r = len → ∀ (z : Slot), (z = .unset ∨ ∃ w, z = .val w ∧ w.category = 1) → ∀ (Tl : State) (Bk : Cell), Stand p l e { frames := 0, locals := 0, cells := 0, slots := 0 } s m #[.ref b, .int (Int32.ofNat o), .ref d, .int (Int32.ofNat q), .int (Int32.ofNat len)] below meth c Tl ([] ++ copyLocs d q i) 0 0 → Put d Bk s₁ Tl → Laid B Bk q (q + i) (fun j => Value.int (lo8 (cv A (o + (j - q))))) →
      Steps p.tables e below (s₁.setTop (entryFrame m #[.ref b, .int (Int32.ofNat o), .ref d, .int (Int32.ofNat q), .int (Int32.ofNat len)] 7)) (Tl.setTop (mkF m 3 #[.val (.ref b), .val (.int (Int32.ofNat (o + i))), .val (.ref d), .val (.int (Int32.ofNat (q + i))), .val (.int (Int32.ofNat len)), .val (.int (Int32.ofNat i)), z] [])) → ∃ (T' : State) (B' : Cell) (z' : Slot), Stand p l e { frames := 0, locals := 0, cells := 0, slots := 0 } s m #[.ref b, .int (Int32.ofNat o), .ref d, .int (Int32.ofNat q), .int (Int32.ofNat len)] below meth c T' ([] ++ copyLocs d q len) 0 0 ∧ Put d B' s₁ T' ∧ Laid B B' q (q + len) (fun j => Value.int (lo8 (cv A (o + (j - q))))) ∧
      Steps p.tables e below (s₁.setTop (entryFrame m #[.ref b, .int (Int32.ofNat o), .ref d, .int (Int32.ofNat q), .int (Int32.ofNat len)] 7)) (T'.setTop (mkF m 3 #[.val (.ref b), .val (.int (Int32.ofNat (o + len))), .val (.ref d), .val (.int (Int32.ofNat (q + len))), .val (.int (Int32.ofNat len)), .val (.int (Int32.ofNat len)), z'] [])) := by
    intro r
    induction r with
    | zero =>
      intro i hi z hz Tl Bk Xl pl fl cl
      have hil : i = len := by omega
      rw [hil] at Xl fl cl
      exact ⟨Tl, Bk, z, Xl, pl, fl, cl⟩
    | succ r ih =>
      intro i hi z hz Tl Bk Xl pl fl cl
      have all := X0.warmed.alike.symm.trans Xl.warmed.alike
      have hAl := hA0.keep all (pl.other hne hA0.1)
      have hBk := hB0.like all pl.1 fl.1 fl.2.1 fl.2.2.1
      have hlt : q + i < Bk.slots.size := by rw [fl.2.2.1]; omega
      have c3 : Steps p.tables e below (s₁.setTop (entryFrame m #[.ref b, .int (Int32.ofNat o), .ref d, .int (Int32.ofNat q), .int (Int32.ofNat len)] 7)) (Tl.setTop (mkF m 12 #[.val (.ref b), .val (.int (Int32.ofNat (o + i))), .val (.ref d), .val (.int (Int32.ofNat (q + i))), .val (.int (Int32.ofNat len)), .val (.int (Int32.ofNat i)), z] [.int (Int32.ofNat (o + i)), .ref b])) := cl.trans (by
        refine XS.iload Xl.here hexec rfl (hb hbytes d3) rfl ?_
        refine XS.iload Xl.here hexec rfl (hb hbytes d5) rfl ?_
        refine XS.icmpNo Xl.here hexec rfl (hb hbytes d7) rfl (ii_ge_f (lt32 (by omega) (by omega))) ?_
        refine XS.aloadN Xl.here hexec rfl (hb hbytes d10) rfl rfl ?_
        refine XS.iloadN Xl.here hexec rfl (hb hbytes d11) rfl ?_
        exact Steps.refl _)
      have c4 : Steps p.tables e below (s₁.setTop (entryFrame m #[.ref b, .int (Int32.ofNat o), .ref d, .int (Int32.ofNat q), .int (Int32.ofNat len)] 7)) (Tl.setTop (mkF m 13 #[.val (.ref b), .val (.int (Int32.ofNat (o + i))), .val (.ref d), .val (.int (Int32.ofNat (q + i))), .val (.int (Int32.ofNat len)), .val (.int (Int32.ofNat i)), z] [.int (cv A (o + i))])) := c3.trans (by
        refine Xl.aget hexec hAl rfl (hA.get (i := o + i) (by omega)) rfl rfl (hb hbytes d12) ?_
        exact Steps.refl _)
      have c5 : Steps p.tables e below (s₁.setTop (entryFrame m #[.ref b, .int (Int32.ofNat o), .ref d, .int (Int32.ofNat q), .int (Int32.ofNat len)] 7)) (Tl.setTop (mkF m 15 #[.val (.ref b), .val (.int (Int32.ofNat (o + i))), .val (.ref d), .val (.int (Int32.ofNat (q + i))), .val (.int (Int32.ofNat len)), .val (.int (Int32.ofNat i)), .val (.int (cv A (o + i)))] [])) := c4.trans (by
        refine XS.istoreS Xl.here hexec rfl (hb hbytes d13) rfl rfl hz ?_
        exact Steps.refl _)
      have c6 : Steps p.tables e below (s₁.setTop (entryFrame m #[.ref b, .int (Int32.ofNat o), .ref d, .int (Int32.ofNat q), .int (Int32.ofNat len)] 7)) (Tl.setTop (mkF m 31 #[.val (.ref b), .val (.int (Int32.ofNat (o + i))), .val (.ref d), .val (.int (Int32.ofNat (q + i))), .val (.int (Int32.ofNat len)), .val (.int (Int32.ofNat i)), .val (.int (cv A (o + i)))] [.int (lo8 (cv A (o + i))), .int (Int32.ofNat (q + i)), .ref d])) := c5.trans (by
        refine XS.iload Xl.here hexec rfl (hb hbytes d15) rfl ?_
        refine sipushV Xl.here hexec rfl 255 (hb hbytes d17) (by decide) ?_
        refine XS.icmpYes Xl.here hexec rfl (pc0 := 20) rfl (hb hbytes d20) rfl (ii_le_t (hp i (by omega))) (by decide) rfl ?_
        refine XS.aloadN Xl.here hexec rfl (hb hbytes d26) rfl rfl ?_
        refine XS.iloadN Xl.here hexec rfl (hb hbytes d27) rfl ?_
        refine XS.iload Xl.here hexec rfl (hb hbytes d28) rfl ?_
        refine i2b Xl.here hexec rfl (hb hbytes d30) rfl ?_
        exact Steps.refl _)
      obtain ⟨T7, X7, p7, st7⟩ := Xl.aput hexec hBk rfl hlt rfl (fits_lo8 (cv A (o + i))) (g := (mkF m 31 #[.val (.ref b), .val (.int (Int32.ofNat (o + i))), .val (.ref d), .val (.int (Int32.ofNat (q + i))), .val (.int (Int32.ofNat len)), .val (.int (Int32.ofNat i)), .val (.int (cv A (o + i)))] [.int (lo8 (cv A (o + i))), .int (Int32.ofNat (q + i)), .ref d])) rfl (rest := []) rfl (hb hbytes d31)
      have c8 : Steps p.tables e below (s₁.setTop (entryFrame m #[.ref b, .int (Int32.ofNat o), .ref d, .int (Int32.ofNat q), .int (Int32.ofNat len)] 7)) (T7.setTop (mkF m 32 #[.val (.ref b), .val (.int (Int32.ofNat (o + i))), .val (.ref d), .val (.int (Int32.ofNat (q + i))), .val (.int (Int32.ofNat len)), .val (.int (Int32.ofNat i)), .val (.int (cv A (o + i)))] [])) := c6.trans (st7 _ (Steps.refl _))
      have c9 : Steps p.tables e below (s₁.setTop (entryFrame m #[.ref b, .int (Int32.ofNat o), .ref d, .int (Int32.ofNat q), .int (Int32.ofNat len)] 7)) (T7.setTop (mkF m 3 #[.val (.ref b), .val (.int (Int32.ofNat (o + i) + 1)), .val (.ref d), .val (.int (Int32.ofNat (q + i) + 1)), .val (.int (Int32.ofNat len)), .val (.int (Int32.ofNat i + 1)), .val (.int (cv A (o + i)))] [])) := c8.trans (by
        refine iincV X7.here hexec rfl 1 (hb hbytes d32) (by decide) rfl rfl ?_
        refine iincV X7.here hexec rfl 1 (hb hbytes d35) (by decide) rfl rfl ?_
        refine iincV X7.here hexec rfl 1 (hb hbytes d38) (by decide) rfl rfl ?_
        refine XS.goto X7.here hexec rfl (pc0 := 41) rfl (hb hbytes d41) (by decide) rfl ?_
        exact Steps.refl _)
      have c10 : Steps p.tables e below (s₁.setTop (entryFrame m #[.ref b, .int (Int32.ofNat o), .ref d, .int (Int32.ofNat q), .int (Int32.ofNat len)] 7)) (T7.setTop (mkF m 3 #[.val (.ref b), .val (.int (Int32.ofNat (o + (i + 1)))), .val (.ref d), .val (.int (Int32.ofNat (q + (i + 1)))), .val (.int (Int32.ofNat len)), .val (.int (Int32.ofNat (i + 1))), .val (.int (cv A (o + i)))] [])) := by
        have := c9
        rw [succ32, succ32, succ32] at this
        exact this
      exact ih (i + 1) (by omega) _ (Or.inr ⟨_, rfl, rfl⟩) T7 _ (by rw [copyLocs_step, ← List.append_assoc]; exact X7) (pl.trans p7) (fl.step (by omega) hlt (by simp)) c10
  obtain ⟨T9, B9, z9, X9, p9, f9, g9⟩ := loop len 0 (by omega) .unset (Or.inl rfl) s₁ B (by simpa [copyLocs] using X0) ⟨hB0.1, fun _ _ => rfl, rfl⟩ (Laid.zero _ _ _) c2
  have c11 : Steps p.tables e below (s₁.setTop (entryFrame m #[.ref b, .int (Int32.ofNat o), .ref d, .int (Int32.ofNat q), .int (Int32.ofNat len)] 7)) (T9.setTop (mkF m 46 #[.val (.ref b), .val (.int (Int32.ofNat (o + len))), .val (.ref d), .val (.int (Int32.ofNat (q + len))), .val (.int (Int32.ofNat len)), .val (.int (Int32.ofNat len)), z9] [.int (Int32.ofNat len)])) := g9.trans (by
    refine XS.iload X9.here hexec rfl (hb hbytes d3) rfl ?_
    refine XS.iload X9.here hexec rfl (hb hbytes d5) rfl ?_
    refine XS.icmpYes X9.here hexec rfl (pc0 := 7) rfl (hb hbytes d7) rfl (ii_ge_t (nlt32 (by omega) (Nat.le_refl _))) (by decide) rfl ?_
    refine XS.iload X9.here hexec rfl (hb hbytes d44) rfl ?_
    exact Steps.refl _)
  exact ⟨T9, some (.int (Int32.ofNat len)), _, _, _, X9, by simp, rfl, rfl, (fun h => by cases h), ⟨rfl, B9, p9.from hh0, f9⟩, fun fs hl => c11.trans (X9.ireturnOut hexec hret rfl (Or.inl rfl) (hb hbytes d46) hl)⟩
end Cmp5
namespace Cmp3
def yN : MethodName := ⟨"java/lang/StringUTF16", "compress", "([CII)[B"⟩
abbrev yB : ByteArray := jdk_52_method_16_code
theorem d0 : decode yB 0 = .ok (.iload_n 2, 1) := by decide +kernel
theorem d1 : decode yB 1 = .ok (.newarray .byte, 2) := by decide +kernel
theorem d3 : decode yB 3 = .ok (.astore_n 3, 1) := by decide +kernel
theorem d4 : decode yB 4 = .ok (.aload_n 0, 1) := by decide +kernel
theorem d5 : decode yB 5 = .ok (.iload_n 1, 1) := by decide +kernel
theorem d6 : decode yB 6 = .ok (.aload_n 3, 1) := by decide +kernel
theorem d7 : decode yB 7 = .ok (.iconst 0, 1) := by decide +kernel
theorem d8 : decode yB 8 = .ok (.iload_n 2, 1) := by decide +kernel
theorem d9 : decode yB 9 = .ok (.invokestatic 115, 3) := by decide +kernel
theorem d12 : decode yB 12 = .ok (.istore 4, 2) := by decide +kernel
theorem d14 : decode yB 14 = .ok (.iload 4, 2) := by decide +kernel
theorem d16 : decode yB 16 = .ok (.iload_n 2, 1) := by decide +kernel
theorem d17 : decode yB 17 = .ok (.if_icmp (.eq) 40, 3) := by decide +kernel
theorem d57 : decode yB 57 = .ok (.aload_n 3, 1) := by decide +kernel
theorem d58 : decode yB 58 = .ok (.areturn, 1) := by decide +kernel
def site : List Cond := [.arrayClass .byte, Cmp5.tab] ++ staticW U16 115 Cmp5.yN
def tab : Cond := tabOf yN yB 6 (some (.array .byte)) site
def P (b : Addr) (A : Cell) (o len : Nat) (args : Array Value) (s : State) : Prop := args = #[.ref b, .int (Int32.ofNat o), .int (Int32.ofNat len)] ∧ Ch b A s ∧ o + len ≤ A.slots.size ∧ len ≤ 536870912 ∧ ∀ i, i < len → ¬ 255 < cv A (o + i)
def E (b : Addr) (A : Cell) (o len : Nat) (r : Option Value) (s u : State) : Prop := NewArr .byte "[B" len (fun j => .int (lo8 (cv A (o + j)))) r s u ∧ u.heap.size = s.heap.size + 1
/-- no char of the range above 255: a new byte[] of their low bytes -/
theorem law (l : Launch) (b : Addr) (A : Cell) (o len : Nat) : Law l yN 3 3 1 18 yB 6 (some (.array .byte)) site (P b A o len) (E b A o len) [] 1 len := by
  refine Law.of_walk (plainFor_of_name (by decide +kernel)) (by decide +kernel) (by decide +kernel) (by decide) (fun _ _ h => by rw [h.1]; rfl) (fun _ U U' hal hh h => ⟨h.1, h.2.1.mv hal hh, h.2.2⟩) (fun r U U' V V' h1 hal h2 h => ⟨NewArr.mv r U U' V V' h1 hal h2 h.1, by rw [h1, h2]; exact h.2⟩) ?_
  intro p e s m args below meth c s₁ X0 hexec hbytes hml hret hlk hnm hown hh0 W hP
  obtain ⟨rfl, hA, l1, l2, hp⟩ := hP
  have a31 := hA.1.2.2.2
  have c1 : Steps p.tables e below (s₁.setTop (entryFrame m #[.ref b, .int (Int32.ofNat o), .int (Int32.ofNat len)] 6)) (s₁.setTop (mkF m 0 #[.val (.ref b), .val (.int (Int32.ofNat o)), .val (.int (Int32.ofNat len)), .unset, .unset, .unset] [])) := entry rfl
  have c2 : Steps p.tables e below (s₁.setTop (entryFrame m #[.ref b, .int (Int32.ofNat o), .int (Int32.ofNat len)] 6)) (s₁.setTop (mkF m 1 #[.val (.ref b), .val (.int (Int32.ofNat o)), .val (.int (Int32.ofNat len)), .unset, .unset, .unset] [.int (Int32.ofNat len)])) := c1.trans (by
    refine XS.iloadN X0.here hexec rfl (hb hbytes d0) rfl ?_
    exact Steps.refl _)
  obtain ⟨T3, B3, X3, ba3, bs3, bv3, bh3, bf3, st3⟩ := X0.anew hexec (atype := .byte) (wk W (.arrayClass .byte)) rfl (by show len * 1 ≤ _; omega) (by omega) (g := (mkF m 1 #[.val (.ref b), .val (.int (Int32.ofNat o)), .val (.int (Int32.ofNat len)), .unset, .unset, .unset] [.int (Int32.ofNat len)])) rfl (hb hbytes d1) (rest := []) rfl (Nat.le_refl _) (by show 0 + len ≤ len; omega)
  rw [hh0] at ba3 st3
  have kp3 : XT.Kept s T3 := (XT.Kept.of_eq hh0).push bh3
  have hA3 := hA.keep X3.warmed.alike (kp3 _ _ hA.1.1)
  have hne : b ≠ s.heap.size := hA.1.ne
  have c4 : Steps p.tables e below (s₁.setTop (entryFrame m #[.ref b, .int (Int32.ofNat o), .int (Int32.ofNat len)] 6)) (T3.setTop (mkF m 3 #[.val (.ref b), .val (.int (Int32.ofNat o)), .val (.int (Int32.ofNat len)), .unset, .unset, .unset] [.ref s.heap.size])) := c2.trans (st3 _ (Steps.refl _))
  have c5 : Steps p.tables e below (s₁.setTop (entryFrame m #[.ref b, .int (Int32.ofNat o), .int (Int32.ofNat len)] 6)) (T3.setTop (mkF m 9 #[.val (.ref b), .val (.int (Int32.ofNat o)), .val (.int (Int32.ofNat len)), .val (.ref s.heap.size), .unset, .unset] [.int (Int32.ofNat len), .int 0, .ref s.heap.size, .int (Int32.ofNat o), .ref b])) := c4.trans (by
    refine XS.astoreN X3.here hexec rfl (hb hbytes d3) rfl rfl rfl ?_
    refine XS.aloadN X3.here hexec rfl (hb hbytes d4) rfl rfl ?_
    refine XS.iloadN X3.here hexec rfl (hb hbytes d5) rfl ?_
    refine XS.aloadN X3.here hexec rfl (hb hbytes d6) rfl rfl ?_
    refine iconstV X3.here hexec rfl 0 (hb hbytes d7) (by decide) ?_
    refine XS.iloadN X3.here hexec rfl (hb hbytes d8) rfl ?_
    exact Steps.refl _)
  obtain ⟨v6, T6, X6, E6, g6⟩ := X3.callS hexec (Cmp5.law l b A s.heap.size B3 o 0 len) hown (wks W (staticW U16 115 Cmp5.yN)) (wk W Cmp5.tab) (W := 0) (Nat.le_of_ble_eq_true rfl) (Nat.le_of_ble_eq_true rfl) (Nat.le_refl _) (by show 0 + len + 0 ≤ len; omega) (g := (mkF m 9 #[.val (.ref b), .val (.int (Int32.ofNat o)), .val (.int (Int32.ofNat len)), .val (.ref s.heap.size), .unset, .unset] [.int (Int32.ofNat len), .int (Int32.ofNat 0), .ref s.heap.size, .int (Int32.ofNat o), .ref b])) rfl (by rw [hml]; rfl) c5 (argsL := [.ref b, .int (Int32.ofNat o), .ref s.heap.size, .int (Int32.ofNat 0), .int (Int32.ofNat len)]) (rest := []) rfl rfl (by show 2 * 0 + 0 ≤ _; decide) (hb hbytes d9) (⟨rfl, hA3, ba3, hne, l1, by rw [bs3]; simp, hp⟩)
  obtain ⟨rfl, B6, p6, f6⟩ := E6
  have c7 : Steps p.tables e below (s₁.setTop (entryFrame m #[.ref b, .int (Int32.ofNat o), .int (Int32.ofNat len)] 6)) (T6.setTop (mkF m 12 #[.val (.ref b), .val (.int (Int32.ofNat o)), .val (.int (Int32.ofNat len)), .val (.ref s.heap.size), .unset, .unset] [.int (Int32.ofNat len)])) := g6
  have c8 : Steps p.tables e below (s₁.setTop (entryFrame m #[.ref b, .int (Int32.ofNat o), .int (Int32.ofNat len)] 6)) (T6.setTop (mkF m 58 #[.val (.ref b), .val (.int (Int32.ofNat o)), .val (.int (Int32.ofNat len)), .val (.ref s.heap.size), .val (.int (Int32.ofNat len)), .unset] [.ref s.heap.size])) := c7.trans (by
    refine XS.istore X6.here hexec rfl (hb hbytes d12) rfl rfl ?_
    refine XS.iload X6.here hexec rfl (hb hbytes d14) rfl ?_
    refine XS.iloadN X6.here hexec rfl (hb hbytes d16) rfl ?_
    refine XS.icmpYes X6.here hexec rfl (pc0 := 17) rfl (hb hbytes d17) rfl (ii_eq_t rfl) (by decide) rfl ?_
    refine XS.aloadN X6.here hexec rfl (hb hbytes d57) rfl rfl ?_
    exact Steps.refl _)
  have X8 := X6.wide (L' := []) (cells' := 1) (slots' := len) (fun x hx hlt => by
    simp only [List.nil_append, copyLocs, List.mem_map, List.mem_range] at hx
    obtain ⟨i, -, rfl⟩ := hx
    exact absurd hlt (Nat.lt_irrefl _)) (Nat.le_refl _) (by omega)
  exact ⟨T6, some (.ref s.heap.size), _, _, _, X8, rfl, rfl, rfl, (fun h => by cases h), ⟨⟨rfl, B6, ba3.like (X3.warmed.alike.symm.trans X6.warmed.alike) p6.1 f6.1 f6.2.1 f6.2.2.1, f6.2.1.trans bv3, by rw [X6.warmed.alike.findClass, f6.1]; exact bf3, by rw [f6.2.2.1, bs3]; simp, fun j hj => by rw [f6.2.2.2 j, if_pos (by omega)]; rfl, kp3.put p6 (Nat.le_refl _)⟩, by rw [p6.2.2, bh3, hh0]; simp⟩, fun fs hl => c8.trans (X8.areturnOut hexec rfl hret rfl (hb hbytes d58) hl)⟩
end Cmp3
namespace CodL
def yN : MethodName := ⟨"java/lang/StringUTF16", "coderFromArrayLen", "([BI)B"⟩
abbrev yB : ByteArray := jdk_52_method_15_code
theorem d0 : decode yB 0 = .ok (.iload_n 1, 1) := by decide +kernel
theorem d1 : decode yB 1 = .ok (.aload_n 0, 1) := by decide +kernel
theorem d2 : decode yB 2 = .ok (.arraylength, 1) := by decide +kernel
theorem d3 : decode yB 3 = .ok (.isub, 1) := by decide +kernel
theorem d4 : decode yB 4 = .ok (.bipush 31, 2) := by decide +kernel
theorem d6 : decode yB 6 = .ok (.iushr, 1) := by decide +kernel
theorem d7 : decode yB 7 = .ok (.i2b, 1) := by decide +kernel
theorem d8 : decode yB 8 = .ok (.ireturn, 1) := by decide +kernel
def site : List Cond := []
def tab : Cond := tabOf yN yB 2 (some .byte) site
def P (d : Addr) (B : Cell) (args : Array Value) (s : State) : Prop := args = #[.ref d, .int (Int32.ofNat B.slots.size)] ∧ Arr .byte d B s
def E (r : Option Value) (s u : State) : Prop := XT.PureE (some (.int 0)) r s u
/-- an array as long as the number of chars: LATIN1 -/
theorem law (l : Launch) (d : Addr) (B : Cell) : Law l yN 2 2 0 0 yB 2 (some .byte) site (P d B) E [] 0 0 := by
  refine Law.of_walk (plainFor_of_name (by decide +kernel)) (by decide +kernel) (by decide +kernel) (by decide) (fun _ _ h => by rw [h.1]; rfl) (fun _ U U' hal hh h => ⟨h.1, h.2.mv hal hh⟩) (fun r U U' V V' h1 hal h2 h => XT.PureE.mv r U U' V V' h1 hal h2 h) ?_
  intro p e s m args below meth c s₁ X0 hexec hbytes hml hret hlk hnm hown hh0 W hP
  obtain ⟨rfl, hB⟩ := hP
  have hB0 := hB.mv X0.warmed.alike hh0
  have c1 : Steps p.tables e below (s₁.setTop (entryFrame m #[.ref d, .int (Int32.ofNat B.slots.size)] 2)) (s₁.setTop (mkF m 0 #[.val (.ref d), .val (.int (Int32.ofNat B.slots.size))] [])) := entry rfl
  have c2 : Steps p.tables e below (s₁.setTop (entryFrame m #[.ref d, .int (Int32.ofNat B.slots.size)] 2)) (s₁.setTop (mkF m 2 #[.val (.ref d), .val (.int (Int32.ofNat B.slots.size))] [.ref d, .int (Int32.ofNat B.slots.size)])) := c1.trans (by
    refine XS.iloadN X0.here hexec rfl (hb hbytes d0) rfl ?_
    refine XS.aloadN X0.here hexec rfl (hb hbytes d1) rfl rfl ?_
    exact Steps.refl _)
  have c3 : Steps p.tables e below (s₁.setTop (entryFrame m #[.ref d, .int (Int32.ofNat B.slots.size)] 2)) (s₁.setTop (mkF m 8 #[.val (.ref d), .val (.int (Int32.ofNat B.slots.size))] [.int (lo8 (ushr (Int32.ofNat B.slots.size - Int32.ofNat B.slots.size) 31))])) := c2.trans (by
    refine X0.alen hexec hB0 rfl rfl (hb hbytes d2) ?_
    refine XS.isub X0.here hexec rfl (hb hbytes d3) rfl ?_
    refine bipushV X0.here hexec rfl 31 (hb hbytes d4) (by decide) ?_
    refine iushr X0.here hexec rfl (hb hbytes d6) rfl ?_
    refine i2b X0.here hexec rfl (hb hbytes d7) rfl ?_
    exact Steps.refl _)
  have e0 : lo8 (ushr (Int32.ofNat B.slots.size - Int32.ofNat B.slots.size) 31) = 0 := by rw [Int32.sub_self]; decide
  rw [e0] at c3
  exact ⟨s₁, some (.int 0), _, _, _, X0, rfl, rfl, rfl, (fun h => by cases h), ⟨rfl, hh0⟩, fun fs hl => c3.trans (X0.ireturnOut hexec hret rfl (Or.inr (Or.inr (Or.inl rfl))) (hb hbytes d8) hl)⟩
end CodL
/-- the String at a is Latin-1 over a new byte[] (the heap's one new cell): the low bytes of the len chars of A from o on; every cell but a is kept -/
def Got (a : Addr) (D : Cell) (fV fC : Field) (A : Cell) (o len : Nat) (r : Option Value) (s u : State) : Prop := r = none ∧ ∃ D' V : Cell, Blank "java/lang/String" a D' u ∧ Same D D' [fV.slot, fC.slot] ∧ D'.slots[fV.slot]? = some (.ref s.heap.size) ∧ D'.slots[fC.slot]? = some (.int 0) ∧ Arr .byte s.heap.size V u ∧ V.vm = .none ∧ u.vm.findClass "[B" = some V.cls ∧ V.slots.size = len ∧ (∀ j, j < len → V.slots[j]? = some (.int (lo8 (cv A (o + j))))) ∧ (∀ (y : Addr) (c : Cell), y ≠ a → s.heap[y]? = some c → u.heap[y]? = some c) ∧ u.heap.size = s.heap.size + 1
theorem Got.mv {a : Addr} {D A : Cell} {fV fC : Field} {o len : Nat} : ∀ r (U U' V V' : State), U'.heap = U.heap → V.vm.Alike V'.vm → V'.heap = V.heap → Got a D fV fC A o len r U V → Got a D fV fC A o len r U' V' :=
  fun r U U' V V' h1 hal h2 ⟨e0, D', X, a1, a2, a3, a4, a5, a6, a7, a8, a9, a10, a11⟩ => ⟨e0, D', X, a1.mv hal h2, a2, by rw [h1]; exact a3, a4, by rw [h1]; exact a5.mv hal h2, a6, by rw [hal.findClass]; exact a7, a8, a9, by rw [h1, h2]; exact a10, by rw [h1, h2]; exact a11⟩
namespace New4
def yN : MethodName := ⟨"java/lang/String", "<init>", "([CIILjava/lang/Void;)V"⟩
abbrev yB : ByteArray := jdk_42_method_149_code
theorem d0 : decode yB 0 = .ok (.aload_n 0, 1) := by decide +kernel
theorem d1 : decode yB 1 = .ok (.invokespecial 1, 3) := by decide +kernel
theorem d4 : decode yB 4 = .ok (.iload_n 3, 1) := by decide +kernel
theorem d5 : decode yB 5 = .ok (.ifCond (.ne) 22, 3) := by decide +kernel
theorem d27 : decode yB 27 = .ok (.getstatic 38, 3) := by decide +kernel
theorem d30 : decode yB 30 = .ok (.ifCond (.eq) 28, 3) := by decide +kernel
theorem d33 : decode yB 33 = .ok (.aload_n 1, 1) := by decide +kernel
theorem d34 : decode yB 34 = .ok (.iload_n 2, 1) := by decide +kernel
theorem d35 : decode yB 35 = .ok (.iload_n 3, 1) := by decide +kernel
theorem d36 : decode yB 36 = .ok (.invokestatic 177, 3) := by decide +kernel
theorem d39 : decode yB 39 = .ok (.astore 5, 2) := by decide +kernel
theorem d41 : decode yB 41 = .ok (.aload_n 0, 1) := by decide +kernel
theorem d42 : decode yB 42 = .ok (.aload 5, 2) := by decide +kernel
theorem d44 : decode yB 44 = .ok (.iload_n 3, 1) := by decide +kernel
theorem d45 : decode yB 45 = .ok (.invokestatic 47, 3) := by decide +kernel
theorem d48 : decode yB 48 = .ok (.putfield 15, 3) := by decide +kernel
theorem d51 : decode yB 51 = .ok (.aload_n 0, 1) := by decide +kernel
theorem d52 : decode yB 52 = .ok (.aload 5, 2) := by decide +kernel
theorem d54 : decode yB 54 = .ok (.putfield 9, 3) := by decide +kernel
theorem d57 : decode yB 57 = .ok (.return_, 1) := by decide +kernel
def site : List Cond := [.fieldLink "java/lang/String" 38 "java/lang/String" "COMPACT_STRINGS" "Z", Cmp3.tab, CodL.tab, .laysFinal "java/lang/String" "java/lang/String" "value" "[B", .fieldLink "java/lang/String" 9 "java/lang/String" "value" "[B", .laysFinal "java/lang/String" "java/lang/String" "coder" "B", .fieldLink "java/lang/String" 15 "java/lang/String" "coder" "B"] ++ objW "java/lang/String" 1 ++ staticW "java/lang/String" 177 Cmp3.yN ++ staticW "java/lang/String" 47 CodL.yN
def tab : Cond := tabOf yN yB 6 none site
def P (a : Addr) (D : Cell) (fV fC : Field) (b : Addr) (A : Cell) (z : Int32) (o len : Nat) (args : Array Value) (s : State) : Prop := args = #[.ref a, .ref b, .int (Int32.ofNat o), .int (Int32.ofNat len), .null] ∧ Blank "java/lang/String" a D s ∧ Found "java/lang/String" "value" "[B" fV s ∧ Found "java/lang/String" "coder" "B" fC s ∧ Ch b A s ∧ StaticIs s "java/lang/String" "COMPACT_STRINGS" "Z" (.int z) ∧ ¬ z = 0 ∧ 0 < len ∧ o + len ≤ A.slots.size ∧ len ≤ 536870912 ∧ ∀ i, i < len → ¬ 255 < cv A (o + i)
def E (a : Addr) (D : Cell) (fV fC : Field) (A : Cell) (o len : Nat) (r : Option Value) (s u : State) : Prop := Got a D fV fC A o len r s u
/-- len > 0, no char of the range above 255: a Latin-1 String of their low bytes -/
theorem law (l : Launch) (a : Addr) (D : Cell) (fV fC : Field) (b : Addr) (A : Cell) (z : Int32) (o len : Nat) : Law l yN 5 4 2 35 yB 6 none site (P a D fV fC b A z o len) (E a D fV fC A o len) [⟨a, fC.slot⟩, ⟨a, fV.slot⟩] 1 len := by
  refine Law.of_walk (plainFor_of_name (by decide +kernel)) (by decide +kernel) (by decide +kernel) (by decide) (fun _ _ h => by rw [h.1]; rfl) (fun _ U U' hal hh h => ⟨h.1, h.2.1.mv hal hh, h.2.2.1.al hal, h.2.2.2.1.al hal, h.2.2.2.2.1.mv hal hh, h.2.2.2.2.2.1.there hal hh, h.2.2.2.2.2.2⟩) (fun r U U' V V' h1 hal h2 h => Got.mv r U U' V V' h1 hal h2 h) ?_
  intro p e s m args below meth c s₁ X0 hexec hbytes hml hret hlk hnm hown hh0 W hP
  obtain ⟨rfl, hB, f1, f2, hA, s1, hz, l0, l1, l2, hp⟩ := hP
  have a31 := hA.1.2.2.2
  have c1 : Steps p.tables e below (s₁.setTop (entryFrame m #[.ref a, .ref b, .int (Int32.ofNat o), .int (Int32.ofNat len), .null] 6)) (s₁.setTop (mkF m 0 #[.val (.ref a), .val (.ref b), .val (.int (Int32.ofNat o)), .val (.int (Int32.ofNat len)), .val .null, .unset] [])) := entry rfl
  have c2 : Steps p.tables e below (s₁.setTop (entryFrame m #[.ref a, .ref b, .int (Int32.ofNat o), .int (Int32.ofNat len), .null] 6)) (s₁.setTop (mkF m 1 #[.val (.ref a), .val (.ref b), .val (.int (Int32.ofNat o)), .val (.int (Int32.ofNat len)), .val .null, .unset] [.ref a])) := c1.trans (by
    refine XS.aloadN X0.here hexec rfl (hb hbytes d0) rfl rfl ?_
    exact Steps.refl _)
  obtain ⟨T3, X3, q3, st3⟩ := X0.oinit hexec hown (wks W (objW "java/lang/String" 1)) (g := (mkF m 1 #[.val (.ref a), .val (.ref b), .val (.int (Int32.ofNat o)), .val (.int (Int32.ofNat len)), .val .null, .unset] [.ref a])) rfl (by rw [hml]; rfl) (rest := []) rfl (hb hbytes d1) (W := 0) (by show 2 * 0 + 0 ≤ _; decide) (Nat.le_of_ble_eq_true rfl) (Nat.le_of_ble_eq_true rfl)
  have hh3 := q3.trans hh0
  have c4 : Steps p.tables e below (s₁.setTop (entryFrame m #[.ref a, .ref b, .int (Int32.ofNat o), .int (Int32.ofNat len), .null] 6)) (T3.setTop (mkF m 27 #[.val (.ref a), .val (.ref b), .val (.int (Int32.ofNat o)), .val (.int (Int32.ofNat len)), .val .null, .unset] [])) := (c2.trans (st3 _ (Steps.refl _))).trans (by
    refine XS.iloadN X3.here hexec rfl (hb hbytes d4) rfl ?_
    refine XS.ifYes X3.here hexec rfl (pc0 := 5) rfl (hb hbytes d5) rfl (i0_ne_t (nz32 (by omega) l0)) (by decide) rfl ?_
    exact Steps.refl _)
  obtain ⟨T5, X5, q5, st5⟩ := X3.sget hexec hown (wk W (.fieldLink "java/lang/String" 38 "java/lang/String" "COMPACT_STRINGS" "Z")) s1 (fun _ _ h => by rw [hh3]; exact h) (g := (mkF m 27 #[.val (.ref a), .val (.ref b), .val (.int (Int32.ofNat o)), .val (.int (Int32.ofNat len)), .val .null, .unset] [])) rfl (hb hbytes d27)
  have hh5 := q5.trans hh3
  have c6 : Steps p.tables e below (s₁.setTop (entryFrame m #[.ref a, .ref b, .int (Int32.ofNat o), .int (Int32.ofNat len), .null] 6)) (T5.setTop (mkF m 30 #[.val (.ref a), .val (.ref b), .val (.int (Int32.ofNat o)), .val (.int (Int32.ofNat len)), .val .null, .unset] [.int z])) := c4.trans (st5 _ (Steps.refl _))
  have c7 : Steps p.tables e below (s₁.setTop (entryFrame m #[.ref a, .ref b, .int (Int32.ofNat o), .int (Int32.ofNat len), .null] 6)) (T5.setTop (mkF m 36 #[.val (.ref a), .val (.ref b), .val (.int (Int32.ofNat o)), .val (.int (Int32.ofNat len)), .val .null, .unset] [.int (Int32.ofNat len), .int (Int32.ofNat o), .ref b])) := c6.trans (by
    refine XS.ifNo X5.here hexec rfl (hb hbytes d30) rfl (i0_eq_f hz) ?_
    refine XS.aloadN X5.here hexec rfl (hb hbytes d33) rfl rfl ?_
    refine XS.iloadN X5.here hexec rfl (hb hbytes d34) rfl ?_
    refine XS.iloadN X5.here hexec rfl (hb hbytes d35) rfl ?_
    exact Steps.refl _)
  obtain ⟨v8, T8, X8, E8, g8⟩ := X5.callS hexec (Cmp3.law l b A o len) hown (wks W (staticW "java/lang/String" 177 Cmp3.yN)) (wk W Cmp3.tab) (W := 0) (Nat.le_of_ble_eq_true rfl) (Nat.le_of_ble_eq_true rfl) (Nat.le_refl _) (by show 0 + len ≤ len; omega) (g := (mkF m 36 #[.val (.ref a), .val (.ref b), .val (.int (Int32.ofNat o)), .val (.int (Int32.ofNat len)), .val .null, .unset] [.int (Int32.ofNat len), .int (Int32.ofNat o), .ref b])) rfl (by rw [hml]; rfl) c7 (argsL := [.ref b, .int (Int32.ofNat o), .int (Int32.ofNat len)]) (rest := []) rfl rfl (by show 2 * 0 + 0 ≤ _; decide) (hb hbytes d36) (⟨rfl, hA.mv X5.warmed.alike hh5, l1, l2, hp⟩)
  obtain ⟨e8, z8⟩ := E8
  obtain ⟨rfl, N, n1, n2, n3, n4, n5, n6⟩ := NewArr.mv _ T5 s _ _ hh5.symm (Vm.Alike.refl _) rfl e8
  rw [hh5] at z8
  have hB1 := hB.keep X8.warmed.alike (n6 _ _ hB.1)
  have hne : s.heap.size ≠ a := (Nat.ne_of_lt (Array.getElem?_eq_some_iff.mp hB.1).1).symm
  have c9 : Steps p.tables e below (s₁.setTop (entryFrame m #[.ref a, .ref b, .int (Int32.ofNat o), .int (Int32.ofNat len), .null] 6)) (T8.setTop (mkF m 39 #[.val (.ref a), .val (.ref b), .val (.int (Int32.ofNat o)), .val (.int (Int32.ofNat len)), .val .null, .unset] [.ref s.heap.size])) := g8
  have c10 : Steps p.tables e below (s₁.setTop (entryFrame m #[.ref a, .ref b, .int (Int32.ofNat o), .int (Int32.ofNat len), .null] 6)) (T8.setTop (mkF m 45 #[.val (.ref a), .val (.ref b), .val (.int (Int32.ofNat o)), .val (.int (Int32.ofNat len)), .val .null, .val (.ref s.heap.size)] [.int (Int32.ofNat N.slots.size), .ref s.heap.size, .ref a])) := by
    have hc : Steps p.tables e below (s₁.setTop (entryFrame m #[.ref a, .ref b, .int (Int32.ofNat o), .int (Int32.ofNat len), .null] 6)) (T8.setTop (mkF m 45 #[.val (.ref a), .val (.ref b), .val (.int (Int32.ofNat o)), .val (.int (Int32.ofNat len)), .val .null, .val (.ref s.heap.size)] [.int (Int32.ofNat len), .ref s.heap.size, .ref a])) := c9.trans (by
      refine XS.astore X8.here hexec rfl (hb hbytes d39) rfl rfl rfl ?_
      refine XS.aloadN X8.here hexec rfl (hb hbytes d41) rfl rfl ?_
      refine XS.aload X8.here hexec rfl (hb hbytes d42) rfl rfl ?_
      refine XS.iloadN X8.here hexec rfl (hb hbytes d44) rfl ?_
      exact Steps.refl _)
    rw [n4]; exact hc
  obtain ⟨v11, T11, X11, E11, g11⟩ := X8.callS hexec (CodL.law l s.heap.size N) hown (wks W (staticW "java/lang/String" 47 CodL.yN)) (wk W CodL.tab) (W := 1) (Nat.le_of_ble_eq_true rfl) (Nat.le_of_ble_eq_true rfl) (Nat.le_refl _) (by show 0 + len + 0 ≤ len; omega) (g := (mkF m 45 #[.val (.ref a), .val (.ref b), .val (.int (Int32.ofNat o)), .val (.int (Int32.ofNat len)), .val .null, .val (.ref s.heap.size)] [.int (Int32.ofNat N.slots.size), .ref s.heap.size, .ref a])) rfl (by rw [hml]; rfl) c10 (argsL := [.ref s.heap.size, .int (Int32.ofNat N.slots.size)]) (rest := [.ref a]) rfl rfl (by show 2 * 0 + (1 + 0) ≤ _; decide) (hb hbytes d45) (⟨rfl, n1⟩)
  obtain ⟨rfl, q11⟩ := E11
  have hB11 := hB1.mv (X8.warmed.alike.symm.trans X11.warmed.alike) q11
  have c12 : Steps p.tables e below (s₁.setTop (entryFrame m #[.ref a, .ref b, .int (Int32.ofNat o), .int (Int32.ofNat len), .null] 6)) (T11.setTop (mkF m 48 #[.val (.ref a), .val (.ref b), .val (.int (Int32.ofNat o)), .val (.int (Int32.ofNat len)), .val .null, .val (.ref s.heap.size)] [.int 0, .ref a])) := g11
  obtain ⟨T13, X13, p13, bl13, sl13, st13⟩ := X11.finit hexec hown (wk W (.fieldLink "java/lang/String" 15 "java/lang/String" "coder" "B")) (Or.inr ⟨_, (wk W (.laysFinal "java/lang/String" "java/lang/String" "coder" "B"))⟩) (Or.inl ⟨rfl, hnm⟩) f2 (Or.inl rfl) hB11 (t := .byte) (by decide +kernel) rfl (g := (mkF m 48 #[.val (.ref a), .val (.ref b), .val (.int (Int32.ofNat o)), .val (.int (Int32.ofNat len)), .val .null, .val (.ref s.heap.size)] [.int 0, .ref a])) rfl (rest := []) rfl (hb hbytes d48)
  have c14 : Steps p.tables e below (s₁.setTop (entryFrame m #[.ref a, .ref b, .int (Int32.ofNat o), .int (Int32.ofNat len), .null] 6)) (T13.setTop (mkF m 54 #[.val (.ref a), .val (.ref b), .val (.int (Int32.ofNat o)), .val (.int (Int32.ofNat len)), .val .null, .val (.ref s.heap.size)] [.ref s.heap.size, .ref a])) := (c12.trans (st13 _ (Steps.refl _))).trans (by
    refine XS.aloadN X13.here hexec rfl (hb hbytes d51) rfl rfl ?_
    refine XS.aload X13.here hexec rfl (hb hbytes d52) rfl rfl ?_
    exact Steps.refl _)
  obtain ⟨T15, X15, p15, bl15, sl15, st15⟩ := X13.finit hexec hown (wk W (.fieldLink "java/lang/String" 9 "java/lang/String" "value" "[B")) (Or.inr ⟨_, (wk W (.laysFinal "java/lang/String" "java/lang/String" "value" "[B"))⟩) (Or.inl ⟨rfl, hnm⟩) f1 (Or.inl rfl) bl13 (t := (.array .byte)) (by decide +kernel) rfl (g := (mkF m 54 #[.val (.ref a), .val (.ref b), .val (.int (Int32.ofNat o)), .val (.int (Int32.ofNat len)), .val .null, .val (.ref s.heap.size)] [.ref s.heap.size, .ref a])) rfl (rest := []) rfl (hb hbytes d54)
  have c16 : Steps p.tables e below (s₁.setTop (entryFrame m #[.ref a, .ref b, .int (Int32.ofNat o), .int (Int32.ofNat len), .null] 6)) (T15.setTop (mkF m 57 #[.val (.ref a), .val (.ref b), .val (.int (Int32.ofNat o)), .val (.int (Int32.ofNat len)), .val .null, .val (.ref s.heap.size)] [])) := c14.trans (st15 _ (Steps.refl _))
  have ap := apart (Or.inr ⟨_, (wk W (.laysFinal "java/lang/String" "java/lang/String" "value" "[B"))⟩) (Or.inr ⟨_, (wk W (.laysFinal "java/lang/String" "java/lang/String" "coder" "B"))⟩) f1 f2 (t₁ := .array .byte) (t₂ := .byte) (by decide +kernel) (by decide +kernel) (by decide)
  have al := X8.warmed.alike.symm.trans X15.warmed.alike
  have n7 : T11.heap[s.heap.size]? = some N := by rw [q11]; exact n1.1
  exact ⟨T15, none, _, _, _, X15, by simp, rfl, by omega, (fun _ => rfl), ⟨rfl, _, N, bl15, ((Same.refl D _).set _ (by simp)).set _ (by simp), sl15, (Cell.slots_setSlot_ne _ ap).trans sl13, n1.keep al (p15.other hne (p13.other hne n7)), n2, by rw [al.findClass]; exact n3, n4, n5, fun y c h1 h2 => p15.other h1 (p13.other h1 (by rw [q11]; exact n6 y c h2)), by rw [p15.2.2, p13.2.2, q11]; exact z8⟩, fun fs hl => c16.trans (X15.returnOut hexec hret (hb hbytes d57) hl)⟩
end New4
namespace New1
def yN : MethodName := ⟨"java/lang/String", "<init>", "([C)V"⟩
abbrev yB : ByteArray := jdk_42_method_3_code
theorem d0 : decode yB 0 = .ok (.aload_n 0, 1) := by decide +kernel
theorem d1 : decode yB 1 = .ok (.aload_n 1, 1) := by decide +kernel
theorem d2 : decode yB 2 = .ok (.iconst 0, 1) := by decide +kernel
theorem d3 : decode yB 3 = .ok (.aload_n 1, 1) := by decide +kernel
theorem d4 : decode yB 4 = .ok (.arraylength, 1) := by decide +kernel
theorem d5 : decode yB 5 = .ok (.aconst_null, 1) := by decide +kernel
theorem d6 : decode yB 6 = .ok (.invokespecial 27, 3) := by decide +kernel
theorem d9 : decode yB 9 = .ok (.return_, 1) := by decide +kernel
def site : List Cond := [New4.tab] ++ initW "java/lang/String" 27 New4.yN
def tab : Cond := tabOf yN yB 2 none site
def P (a : Addr) (D : Cell) (fV fC : Field) (b : Addr) (A : Cell) (z : Int32) (args : Array Value) (s : State) : Prop := args = #[.ref a, .ref b] ∧ Blank "java/lang/String" a D s ∧ Found "java/lang/String" "value" "[B" fV s ∧ Found "java/lang/String" "coder" "B" fC s ∧ Ch b A s ∧ StaticIs s "java/lang/String" "COMPACT_STRINGS" "Z" (.int z) ∧ ¬ z = 0 ∧ 0 < A.slots.size ∧ A.slots.size ≤ 536870912 ∧ ∀ i, i < A.slots.size → ¬ 255 < cv A i
def E (a : Addr) (D : Cell) (fV fC : Field) (A : Cell) (r : Option Value) (s u : State) : Prop := Got a D fV fC A 0 A.slots.size r s u
/-- new String(chars), not empty, no char above 255: a Latin-1 String of their low bytes -/
theorem law (l : Launch) (a : Addr) (D : Cell) (fV fC : Field) (b : Addr) (A : Cell) (z : Int32) : Law l yN 2 1 3 52 yB 2 none site (P a D fV fC b A z) (E a D fV fC A) [⟨a, fC.slot⟩, ⟨a, fV.slot⟩] 1 A.slots.size := by
  refine Law.of_walk (plainFor_of_name (by decide +kernel)) (by decide +kernel) (by decide +kernel) (by decide) (fun _ _ h => by rw [h.1]; rfl) (fun _ U U' hal hh h => ⟨h.1, h.2.1.mv hal hh, h.2.2.1.al hal, h.2.2.2.1.al hal, h.2.2.2.2.1.mv hal hh, h.2.2.2.2.2.1.there hal hh, h.2.2.2.2.2.2⟩) (fun r U U' V V' h1 hal h2 h => Got.mv r U U' V V' h1 hal h2 h) ?_
  intro p e s m args below meth c s₁ X0 hexec hbytes hml hret hlk hnm hown hh0 W hP
  obtain ⟨rfl, hB, f1, f2, hA, s1, hz, l0, l2, hp⟩ := hP
  have c1 : Steps p.tables e below (s₁.setTop (entryFrame m #[.ref a, .ref b] 2)) (s₁.setTop (mkF m 0 #[.val (.ref a), .val (.ref b)] [])) := entry rfl
  have c2 : Steps p.tables e below (s₁.setTop (entryFrame m #[.ref a, .ref b] 2)) (s₁.setTop (mkF m 6 #[.val (.ref a), .val (.ref b)] [.null, .int (Int32.ofNat A.slots.size), .int 0, .ref b, .ref a])) := c1.trans (by
    refine XS.aloadN X0.here hexec rfl (hb hbytes d0) rfl rfl ?_
    refine XS.aloadN X0.here hexec rfl (hb hbytes d1) rfl rfl ?_
    refine iconstV X0.here hexec rfl 0 (hb hbytes d2) (by decide) ?_
    refine XS.aloadN X0.here hexec rfl (hb hbytes d3) rfl rfl ?_
    refine X0.alen hexec (hA.1.mv X0.warmed.alike hh0) rfl rfl (hb hbytes d4) ?_
    refine XS.aconstNull X0.here hexec rfl (hb hbytes d5) ?_
    exact Steps.refl _)
  obtain ⟨v3, T3, X3, E3, g3⟩ := X0.callN hexec (New4.law l a D fV fC b A z 0 A.slots.size) rfl hown (wks W (initW "java/lang/String" 27 New4.yN)) (W New4.tab (by simp only [site, List.mem_cons, List.mem_append, true_or, or_true])) (W := 0) (Nat.le_of_ble_eq_true rfl) (Nat.le_of_ble_eq_true rfl) (Nat.le_refl _) (by show 0 + A.slots.size ≤ A.slots.size; omega) (g := (mkF m 6 #[.val (.ref a), .val (.ref b)] [.null, .int (Int32.ofNat A.slots.size), .int (Int32.ofNat 0), .ref b, .ref a])) rfl (by rw [hml]; rfl) c2 (argsL := [.ref b, .int (Int32.ofNat 0), .int (Int32.ofNat A.slots.size), .null]) (rest := []) rfl rfl (by show 2 * 0 + 0 ≤ _; decide) (hb hbytes d6) (⟨rfl, hB.mv X0.warmed.alike hh0, f1.al X0.warmed.alike, f2.al X0.warmed.alike, hA.mv X0.warmed.alike hh0, s1.there X0.warmed.alike hh0, hz, l0, by omega, l2, fun i hi => by rw [Nat.zero_add]; exact hp i hi⟩)
  have e0 := Got.mv _ s₁ s _ _ hh0.symm (Vm.Alike.refl _) rfl E3
  obtain rfl := e0.1
  have c4 : Steps p.tables e below (s₁.setTop (entryFrame m #[.ref a, .ref b] 2)) (T3.setTop (mkF m 9 #[.val (.ref a), .val (.ref b)] [])) := g3
  exact ⟨T3, none, _, _, _, X3, by simp, rfl, by omega, (fun _ => rfl), e0, fun fs hl => c4.trans (X3.returnOut hexec hret (hb hbytes d9) hl)⟩
theorem pays {l : Launch} {R : Room} {p : Program} {e : Env} {below : List Frame} {s : State} {sargs : Array Value} {len W : Nat} (a : Addr) (D : Cell) (fV fC : Field) (b : Addr) (A : Cell) (z : Int32) (htab : tab.before sargs s = true) (hfr : 4 ≤ R.frames) (hlo : W + 65 ≤ R.locals) :
    Back l R p e below s sargs yN len W (fun A₁ a₁ => A₁.cells + 1 ≤ R.cells ∧ A₁.slots + A.slots.size ≤ R.slots ∧ P a D fV fC b A z a₁ A₁.U) (fun A₁ _ v₁ B₁ => E a D fV fC A v₁ A₁.U B₁.U ∧ B₁.locs = A₁.locs ++ [⟨a, fC.slot⟩, ⟨a, fV.slot⟩] ∧ B₁.cells = A₁.cells + 1 ∧ B₁.slots = A₁.slots + A.slots.size) :=
  (law l a D fV fC b A z).pays htab hfr (by omega)
end New1
end StrChars
namespace StrChars.Road
open Jvm Sem ClassFile Op Lib Jvm.Stand Jvm.Free Jvm.Free.XT
open Jvm.Lib.Cold (StaticIs)
abbrev ST : String := "java/lang/String"
/-- every table word that New1's law asks, flat -/
abbrev words : List Jvm.Cond := [.code New1.yN New1.yB 2 none, .initialized ST, .methodLink ST 27 New4.yN, .instanceMethod New4.yN,
  .code New4.yN New4.yB 6 none, .fieldLink ST 38 ST "COMPACT_STRINGS" "Z", .laysFinal ST ST "value" "[B", .fieldLink ST 9 ST "value" "[B", .laysFinal ST ST "coder" "B", .fieldLink ST 15 ST "coder" "B",
  .methodLink ST 1 Lib.objectInit, .instanceMethod Lib.objectInit, .code Lib.objectInit ⟨#[0xb1]⟩ 1 none, .methodLink ST 177 Cmp3.yN, .static Cmp3.yN, .methodLink ST 47 CodL.yN, .static CodL.yN,
  .code Cmp3.yN Cmp3.yB 6 (some (.array .byte)), .initialized U16, .arrayClass .byte, .methodLink U16 115 Cmp5.yN, .static Cmp5.yN, .code Cmp5.yN Cmp5.yB 7 (some .int), .code CodL.yN CodL.yB 2 (some .byte)]
theorem tab_of {a : Array Value} {s : State} (h : ∀ w ∈ words, w.before a s = true) : New1.tab.before a s = true := by
  have h5 : Cmp5.tab.before a s = true := unparts (wk h (.code Cmp5.yN Cmp5.yB 7 (some .int))) (wks h (.initialized Cmp5.yN.cls :: Cmp5.site))
  have hc : CodL.tab.before a s = true := unparts (wk h (.code CodL.yN CodL.yB 2 (some .byte))) (wks h (.initialized CodL.yN.cls :: CodL.site))
  have q5 : ∀ w ∈ Cmp5.tab :: words, w.before a s = true := fun w hw => (List.mem_cons.mp hw).elim (fun e => e ▸ h5) (h w)
  have h3 : Cmp3.tab.before a s = true := unparts (wk q5 (.code Cmp3.yN Cmp3.yB 6 (some (.array .byte)))) (wks q5 (.initialized Cmp3.yN.cls :: Cmp3.site))
  have q3 : ∀ w ∈ Cmp3.tab :: CodL.tab :: words, w.before a s = true := fun w hw => (List.mem_cons.mp hw).elim (fun e => e ▸ h3) fun hw => (List.mem_cons.mp hw).elim (fun e => e ▸ hc) (h w)
  have h4 : New4.tab.before a s = true := unparts (wk q3 (.code New4.yN New4.yB 6 none)) (wks q3 (.initialized New4.yN.cls :: New4.site))
  have q4 : ∀ w ∈ New4.tab :: words, w.before a s = true := fun w hw => (List.mem_cons.mp hw).elim (fun e => e ▸ h4) (h w)
  exact unparts (wk q4 (.code New1.yN New1.yB 2 none)) (wks q4 (.initialized New1.yN.cls :: New1.site))
/-- the words ride from the start Z to the walk's own state -/
theorem moved {Z s : State} {a0 args : Array Value} (hZ : Z.Warmed39 s.vm) (hw : ∀ d ∈ words, d.before a0 Z = true) : ∀ d ∈ words, d.before args s = true := fun d hd => by
  have q := hw d hd
  have t : ∀ d ∈ words, d = .arrayClass .byte ∨ (d.onTables && d.keepsFace) = true := by decide +kernel
  rcases t d hd with rfl | t
  · exact RoadKit.mvA hZ q
  · exact RoadKit.mv hZ q t
/-- WHAT COMES BACK, over the tables of the start Z: h the heap at the call, h' behind it -/
def Q (Z : State) (x : Addr) (A : Cell) (h : Heap) (v : Option Value) (h' : Heap) (L : List Loc) : Prop := v = none ∧ (∀ y ∈ L, y.base = x) ∧ RoadKit.Keep h h' [x] ∧ h'.size = h.size + 1 ∧ RoadKit.Exa Z h' x ST ∧ RoadKit.Fld Z h' x ST "value" "[B" (.ref h.size) ∧ RoadKit.Fld Z h' x ST "coder" "B" (.int 0) ∧
  (∃ V : Cell, RoadKit.Arr Z h' h.size V .byte ∧ V.vm = .none ∧ Z.vm.findClass "[B" = some V.cls ∧ V.slots.size = A.slots.size ∧ ∀ j, j < A.slots.size → V.slots[j]? = some (.int (lo8 (cv A j)))) ∧
  ∀ (O n d : String) (w : Value), RoadKit.Fld Z h x O n d w → RoadKit.slotOf Z O n d ≠ RoadKit.slotOf Z ST "value" "[B" → RoadKit.slotOf Z O n d ≠ RoadKit.slotOf Z ST "coder" "B" → RoadKit.Fld Z h' x O n d w
/-- **new String(chars) AT A CALL, IN THE ROAD'S FORM**: for specialBack behind newO: x the fresh String, b the char[] with the cell A -/
theorem back {p : Program} {l : Launch} {e : Env} {R : Room} {s : State} {args : Array Value} {below : List Frame} {len W : Nat} {Z : State} {a0 : Array Value} {h : Heap} (hZ : Z.Warmed39 s.vm) (hw : ∀ d ∈ words, d.before a0 Z = true) {kI : Nat} (wi : (Jvm.Cond.instantiable ST kI).before a0 Z = true)
    {x b : Addr} {A : Cell} {z : Int32} {v0 c0 : Value} (E : RoadKit.Exa Z h x ST) (V : RoadKit.Fld Z h x ST "value" "[B" v0) (C : RoadKit.Fld Z h x ST "coder" "B" c0) (K : RoadKit.Arr Z h b A .char) (hty : Typed .char A) (S : RoadKit.Sta Z h ST "COMPACT_STRINGS" "Z" (.int z)) (hz : ¬ z = 0)
    (l0 : 0 < A.slots.size) (l2 : A.slots.size ≤ 536870912) (hp : ∀ i, i < A.slots.size → ¬ 255 < cv A i) (hfr : 4 ≤ R.frames) (hlo : W + 65 ≤ R.locals) :
    Back l R p e below s args New1.yN len W (fun P a => a = #[.ref x, .ref b] ∧ P.U.heap = h ∧ P.cells + 1 ≤ R.cells ∧ P.slots + A.slots.size ≤ R.slots)
      (fun P _ v B => ∃ L, Q Z x A h v B.U.heap L ∧ B.locs = P.locs ++ L ∧ B.cells = P.cells + 1 ∧ B.slots = P.slots + A.slots.size) := by
  intro m meth c P g ig mk a X hg hsize hdg hW hn hp'
  obtain ⟨rfl, rfl, r1, r2⟩ := hp'
  have al : Z.vm.Alike P.U.vm := hZ.alike.trans X.warmed.alike
  obtain ⟨D, cfV, kV, iV, fV, hD, gV, stV, knV, obV, asV, slV⟩ := id V
  obtain ⟨D', cfC, kC, iC, fC, hD', gC, stC, -, -, asC, slC⟩ := id C
  cases hD.symm.trans hD'
  obtain ⟨D2, kD, e1, e2, e3, e4, e5⟩ := id E
  cases hD.symm.trans e1
  obtain ⟨c2, k2, i1, i2, i3, -⟩ := Cond.instantiable_spec wi
  cases e2.symm.trans i1
  cases e3.symm.trans i2
  obtain ⟨kU, u1, u2⟩ := al.2.2 _ _ e3
  have hB : Blank ST x D P.U := ⟨hD, ⟨knV, fun q hq => by rw [hq] at obV; cases obV⟩, by rw [al.findClass]; exact e2, kU, u1, by rw [u2]; exact i3, by rw [u2]; exact e5 i3⟩
  have F1 : Found ST "value" "[B" fV P.U := ⟨SBG.found_only al ⟨cfV, kV, iV, gV⟩, stV⟩
  have F2 : Found ST "coder" "B" fC P.U := ⟨SBG.found_only al ⟨cfC, kC, iC, gC⟩, stC⟩
  have hA : Ch b A P.U := ⟨⟨K.1, State.isArrayOf_alike al K.2.1, K.2.2, by omega⟩, hty⟩
  have hS : StaticIs P.U ST "COMPACT_STRINGS" "Z" (.int z) := by
    obtain ⟨cfS, iS, kS, fS, st, cS, t1, t2, t3, t4, t5, t6, t7⟩ := S
    exact StaticIs.there (s := { Z with heap := P.U.heap }) ⟨cfS, iS, kS, fS, st, cS, t1, t2, t3, t4, t5, (fun q => by rw [q] at t6; cases t6), t7⟩ al rfl
  obtain ⟨v, B, X', ⟨⟨hv, E', V', q1, q2, q3, q4, q5, q6, q7, q8, q9, q10, q11⟩, hl, hc, hs⟩, st⟩ := New1.pays x D fV fC b A z (tab_of (moved hZ hw)) hfr hlo m meth c P g ig mk _ X hg hsize hdg hW hn ⟨r1, r2, rfl, hB, F1, F2, hA, hS, hz, l0, l2, hp⟩
  have al' : Z.vm.Alike B.U.vm := hZ.alike.trans X'.warmed.alike
  have hsz : E'.slots.size = D.slots.size := by
    obtain ⟨-, -, -, kB, w1, w2, w3⟩ := q1
    obtain ⟨kB', y1, y2⟩ := al'.2.2 _ _ e3
    rw [q2.2.1] at w1
    cases w1.symm.trans y1
    rw [w3, e5 i3, y2]
  refine ⟨v, B, X', ⟨_, ⟨hv, ?_, ⟨by omega, fun y cy hy hn' => q10 y cy (by simpa using hn') hy, fun y cy hy => ?_⟩, q11, ⟨E', _, q1.1, by rw [q2.2.1]; exact e2, by rw [q2.2.1]; exact e3, by rw [q2.1]; exact obV, fun _ => by rw [hsz]; exact e5 i3⟩,
    ⟨E', cfV, kV, iV, fV, q1.1, gV, stV, by rw [q2.1]; exact knV, by rw [q2.1]; exact obV, by rw [q2.2.1]; exact asV, q3⟩, ⟨E', cfC, kC, iC, fC, q1.1, gC, stC, by rw [q2.1]; exact knV, by rw [q2.1]; exact obV, by rw [q2.2.1]; exact asC, q4⟩,
    ⟨V', ⟨q5.1, State.isArrayOf_alike al'.symm q5.2.1, q5.2.2.1⟩, q6, by rw [← al'.findClass]; exact q7, q8, fun j hj => by have := q9 j hj; rwa [Nat.zero_add] at this⟩, fun O n d w F n1 n2 => ?_⟩, hl, hc, hs⟩, st⟩
  · intro y hy
    simp only [List.mem_cons, List.not_mem_nil, or_false] at hy
    rcases hy with rfl | rfl <;> rfl
  · by_cases q : y = x
    · subst q
      cases hD.symm.trans hy
      exact ⟨E', q1.1, q2.2.1, q2.1, hsz⟩
    · exact ⟨cy, q10 y cy q hy, rfl, rfl, rfl⟩
  · obtain ⟨D3, cf, k, i, f, g1, g2, g3, g4, g5, g6, g7⟩ := F
    cases hD.symm.trans g1
    simp only [RoadKit.slotOf, g2, gV, gC, Option.map_some, Option.getD_some] at n1 n2
    exact ⟨E', cf, k, i, f, q1.1, g2, g3, by rw [q2.1]; exact g4, by rw [q2.1]; exact g5, by rw [q2.2.1]; exact g6, by rw [q2.2.2 f.slot (by simp [n1, n2])]; exact g7⟩
end StrChars.Road
namespace StrChars.Road
open Jvm Sem ClassFile Op Lib Jvm.Stand Jvm.Free Jvm.Free.XT
/-- WHAT COMES BACK, the byte[] as a list of values -/
def QA (Z : State) (x : Addr) (zn : Int32) (cs : List Int32) (h : Heap) (v : Option Value) (h' : Heap) (L : List Loc) : Prop := v = none ∧ (∀ y ∈ L, y.base = x) ∧ RoadKit.Keep h h' [x] ∧ h'.size = h.size + 1 ∧ RoadKit.Exa Z h' x ST ∧ RoadKit.Fld Z h' x ST "value" "[B" (.ref h.size) ∧ RoadKit.Fld Z h' x ST "coder" "B" (.int 0) ∧
  (∃ kb, Z.vm.findClass "[B" = some kb ∧ RoadKit.Arv Z h' h.size kb .byte zn (cs.map fun c => .int (lo8 c)) (.int 0)) ∧
  ∀ (O n d : String) (w : Value), RoadKit.Fld Z h x O n d w → RoadKit.slotOf Z O n d ≠ RoadKit.slotOf Z ST "value" "[B" → RoadKit.slotOf Z O n d ≠ RoadKit.slotOf Z ST "coder" "B" → RoadKit.Fld Z h' x O n d w
/-- **new String(chars) AT A CALL, THE ARRAYS AS LISTS**: the char[] at b holds cs, not empty, no char above 255 -/
theorem backArv {p : Program} {l : Launch} {e : Env} {R : Room} {s : State} {args : Array Value} {below : List Frame} {len W : Nat} {Z : State} {a0 : Array Value} {h : Heap} (hZ : Z.Warmed39 s.vm) (hw : ∀ d ∈ words, d.before a0 Z = true) {kI : Nat} (wi : (Jvm.Cond.instantiable ST kI).before a0 Z = true)
    {x b : Addr} {k : ClassId} {zn z : Int32} {cs : List Int32} {dv v0 c0 : Value} (E : RoadKit.Exa Z h x ST) (V : RoadKit.Fld Z h x ST "value" "[B" v0) (C : RoadKit.Fld Z h x ST "coder" "B" c0) (K : RoadKit.Arv Z h b k .char zn (cs.map Value.int) dv) (S : RoadKit.Sta Z h ST "COMPACT_STRINGS" "Z" (.int z)) (hz : ¬ z = 0)
    (hlen : zn.toNatClampNeg = cs.length) (h0 : 0 < cs.length) (hbig : cs.length ≤ 536870912) (hall : ∀ c ∈ cs, ¬ 255 < c) (hfr : 4 ≤ R.frames) (hlo : W + 65 ≤ R.locals) :
    Back l R p e below s args New1.yN len W (fun P a => a = #[.ref x, .ref b] ∧ P.U.heap = h ∧ P.cells + 1 ≤ R.cells ∧ P.slots + cs.length ≤ R.slots)
      (fun P _ v B => ∃ L, QA Z x zn cs h v B.U.heap L ∧ B.locs = P.locs ++ L ∧ B.cells = P.cells + 1 ∧ B.slots = P.slots + cs.length) := by
  obtain ⟨A, K1, K2, K3, K4, K5, K6⟩ := K
  have e : A.slots.size = cs.length := K3.trans hlen
  have hat : ∀ (i : Nat) (hi : i < cs.length), A.slots[i]? = some (.int cs[i]) := fun i hi => by rw [K5 i (by omega)]; simp [List.getD_eq_getElem?_getD, hi]
  have hcv : ∀ (i : Nat) (hi : i < cs.length), cv A i = cs[i] := fun i hi => by unfold cv; rw [hat i hi]
  have hty : Typed .char A := fun i v hv => by
    have hi : i < A.slots.size := (Array.getElem?_eq_some_iff.mp hv).1
    have q := K5 i hi
    rw [hv] at q
    rw [Option.some.inj q]
    exact K6 i hi
  refine Back.mono (back hZ hw wi E V C K1 hty S hz (by omega) (by omega) (fun i hi => by rw [hcv i (by omega)]; exact hall _ (List.getElem_mem _)) hfr hlo) (fun P a hp => ⟨hp.1, hp.2.1, hp.2.2.1, by rw [e]; exact hp.2.2.2⟩) (fun P a v B hp hq => ?_)
  obtain ⟨L, ⟨q1, q2, q3, q4, q5, q6, q7, ⟨V', v1, v2, v3, v4, v5⟩, q9⟩, hl, hc, hs⟩ := hq
  refine ⟨L, ⟨q1, q2, q3, q4, q5, q6, q7, ⟨V'.cls, v3, V', v1, rfl, by rw [v4, e, hlen], K4, fun i hi => ?_, fun i hi => ?_⟩, q9⟩, hl, hc, by rw [hs, e]⟩
  · have hi' : i < cs.length := by omega
    rw [v5 i (by omega), hcv i hi']; simp [List.getD_eq_getElem?_getD, hi']
  · have hi' : i < cs.length := by omega
    simp only [List.getD_eq_getElem?_getD, List.getElem?_map, List.getElem?_eq_getElem hi', Option.map_some, Option.getD_some]
    exact fits_lo8 _
end StrChars.Road
namespace StrChars.Road
open Jvm Sem ClassFile Op Lib Jvm.Stand Jvm.Free Jvm.Free.XT
/-- WHAT COMES BACK, in the writer's own shape -/
def QV (Z : State) (x : Addr) (N : Int32) (bs : List Int32) (h : Heap) (n0 : Nat) (v : Option Value) (h' : Heap) (L : List Loc) : Prop := v = none ∧ RoadKit.Fr n0 L ∧ RoadKit.Keep h h' [x] ∧ RoadKit.Exa Z h' x ST ∧ RoadKit.Fld Z h' x ST "coder" "B" (.int 0) ∧
  ∃ (t : Addr) (kb : ClassId), n0 ≤ t ∧ h.size ≤ t ∧ ¬ t = x ∧ RoadKit.Fld Z h' x ST "value" "[B" (.ref t) ∧ RoadKit.Arv Z h' t kb .byte N (bs.map Value.int) (.int 0)
/-- **new String(chars) AT A CALL, FOR THE WRITER**: a char[] of n known ints, each 0 to 255 -/
theorem backV {p : Program} {l : Launch} {e : Env} {R : Room} {s : State} {args : Array Value} {below : List Frame} {len W : Nat} {Z : State} {a0 : Array Value} {h : Heap} (hZ : Z.Warmed39 s.vm) (hw : ∀ d ∈ words, d.before a0 Z = true) {kI : Nat} (wi : (Jvm.Cond.instantiable ST kI).before a0 Z = true)
    {x b : Addr} {kC : ClassId} {cs bs : List Int32} {d v0 c0 : Value} {z N : Int32} {n n0 : Nat} (hx0 : n0 ≤ x) (hh0 : n0 ≤ h.size) (E : RoadKit.Exa Z h x ST) (V : RoadKit.Fld Z h x ST "value" "[B" v0) (C : RoadKit.Fld Z h x ST "coder" "B" c0) (K : RoadKit.Arv Z h b kC .char N (cs.map Value.int) d) (S : RoadKit.Sta Z h ST "COMPACT_STRINGS" "Z" (.int z)) (hz : ¬ z = 0)
    (hn : cs.length = n) (hN : N = Int32.ofNat n) (l0 : 0 < n) (l2 : n ≤ 4000) (hp : ∀ c ∈ cs, ¬ c < 0 ∧ ¬ (255 : Int32) < c) (hb : bs = cs.map (fun c => c.toInt8.toInt32)) (hfr : 4 ≤ R.frames) (hlo : W + 65 ≤ R.locals) :
    Back l R p e below s args (⟨"java/lang/String", "<init>", "([C)V"⟩ : MethodName) len W (fun P a => a = #[.ref x, .ref b] ∧ P.U.heap = h ∧ P.cells + 1 ≤ R.cells ∧ P.slots + n ≤ R.slots)
      (fun P _ v B => ∃ L, QV Z x N bs h n0 v B.U.heap L ∧ B.locs = P.locs ++ L ∧ B.cells = P.cells + 1 ∧ B.slots = P.slots + n) := by
  subst hn hN hb
  refine Back.mono (backArv hZ hw wi E V C K S hz (n32 (by omega)) l0 (by omega) (fun c hc => (hp c hc).2) hfr hlo) (fun P a hp => hp) (fun P a v B hp hq => ?_)
  obtain ⟨L, ⟨q1, q2, q3, q4, q5, q6, q7, ⟨kb, v1, v2⟩, q9⟩, hl, hc, hs⟩ := hq
  exact ⟨L, ⟨q1, fun y hy => by rw [q2 y hy]; exact hx0, q3, q5, q7, h.size, kb, hh0, Nat.le_refl _, Nat.ne_of_gt E.lt, q6, by rw [List.map_map]; exact v2⟩, hl, hc, hs⟩
end StrChars.Road
end Jvm.Pilot.@@N@@

namespace Jvm.Pilot.@@N@@
open Jvm Jvm.ClassFile Sem Op Lib Jvm.Free Jvm.Stand Jvm.LawKit Jvm.RoadKit Jvm.OwnKit Bundle Jvm.Pilot.@@N@@.Jvm.D
set_option maxRecDepth 65536
set_option maxHeartbeats 40000000
abbrev rmk (f ce sl lo : Nat) : Room := { frames := f, cells := ce, slots := sl, locals := lo }
abbrev ELs : List (String × Nat) := [("java/lang/String", 7)]
def Gl (Z : State) (a0 : Array Value) (z0 : Int32) (em : Addr) : Prop := (∀ d ∈ tables_1, d.before a0 Z = true) ∧ EW Z a0 ELs ∧ (∀ a ∈ Bundle.stringAtoms, a.before a0 Z = true) ∧ (Sta Z Z.heap "java/lang/String" "COMPACT_STRINGS" "Z" (.int z0)) ∧ (¬ z0 = (0 : Int32)) ∧ (Sta Z Z.heap "java/util/Optional" "EMPTY" "Ljava/util/Optional;" (.ref em)) ∧ (Exa Z Z.heap em "java/util/Optional") ∧ (Fld Z Z.heap em "java/util/Optional" "value" "Ljava/lang/Object;" .null)
theorem wq {Z : State} {a0 : Array Value} (hw : ∀ d ∈ tables_1, d.before a0 Z = true) {d : Jvm.Cond} (i : Nat) (h : tables_1[i]? = some d) : d.before a0 Z = true := hw d (List.mem_of_getElem? h)
theorem own_hws {Z : State} {a0 : Array Value} (hw : ∀ d ∈ tables_1, d.before a0 Z = true) : ∀ d ∈ StrChars.Road.words, d.before a0 Z = true := fun d hd => hw d ((by decide +kernel : ∀ d ∈ StrChars.Road.words, d ∈ tables_1) d hd)
theorem d0_0 {c : Code} (h : c.code = jdk_42_method_149_code) : decode c.code 0 = .ok (.aload_n 0, 1) := hb h (by decide +kernel)
theorem d0_1 {c : Code} (h : c.code = jdk_42_method_149_code) : decode c.code 1 = .ok (.invokespecial 1, 3) := hb h (by decide +kernel)
theorem d0_4 {c : Code} (h : c.code = jdk_42_method_149_code) : decode c.code 4 = .ok (.iload_n 3, 1) := hb h (by decide +kernel)
theorem d0_5 {c : Code} (h : c.code = jdk_42_method_149_code) : decode c.code 5 = .ok (.ifCond .ne 22, 3) := hb h (by decide +kernel)
theorem d0_8 {c : Code} (h : c.code = jdk_42_method_149_code) : decode c.code 8 = .ok (.aload_n 0, 1) := hb h (by decide +kernel)
theorem d0_9 {c : Code} (h : c.code = jdk_42_method_149_code) : decode c.code 9 = .ok (.ldc 7, 2) := hb h (by decide +kernel)
theorem d0_11 {c : Code} (h : c.code = jdk_42_method_149_code) : decode c.code 11 = .ok (.getfield 9, 3) := hb h (by decide +kernel)
theorem d0_14 {c : Code} (h : c.code = jdk_42_method_149_code) : decode c.code 14 = .ok (.putfield 9, 3) := hb h (by decide +kernel)
theorem d0_17 {c : Code} (h : c.code = jdk_42_method_149_code) : decode c.code 17 = .ok (.aload_n 0, 1) := hb h (by decide +kernel)
theorem d0_18 {c : Code} (h : c.code = jdk_42_method_149_code) : decode c.code 18 = .ok (.ldc 7, 2) := hb h (by decide +kernel)
theorem d0_20 {c : Code} (h : c.code = jdk_42_method_149_code) : decode c.code 20 = .ok (.getfield 15, 3) := hb h (by decide +kernel)
theorem d0_23 {c : Code} (h : c.code = jdk_42_method_149_code) : decode c.code 23 = .ok (.putfield 15, 3) := hb h (by decide +kernel)
theorem d0_26 {c : Code} (h : c.code = jdk_42_method_149_code) : decode c.code 26 = .ok (.return_, 1) := hb h (by decide +kernel)
theorem ef13 (m : MethodId) (x0 : Addr) (x1 : Addr) (x2 : Int32) (x3 : Int32) : entryFrame m #[(.ref x0), (.ref x1), (.int x2), (.int x3), .null] 6 = mkF m 0 #[.val (.ref x0), .val (.ref x1), .val (.int x2), .val (.int x3), .val .null, .unset] [] := by first | (simp [entryFrame, mkF, argsToLocals, Value.category]; done) | rfl
abbrev yn14 : MethodName := ⟨"java/lang/String", "<init>", "([CIILjava/lang/Void;)V"⟩
theorem pn15 : plainName "java/lang/String" = true := by first | (simp [plainName, overriddenIn]; done) | decide +kernel
theorem rmN4 (l : Launch) (Z : State) (a0 : Array Value) (z0 : Int32) (em : Addr) (G : Gl Z a0 z0 em) (x : Addr) (b : Addr) (h0 : Heap) (hZh : Ext Z.heap h0) (hsf : ∀ x' ∈ ([x] : List Addr), x' < h0.size ∧ Z.heap.size ≤ x') (P0 : Exa Z h0 x "java/lang/String") (P1 : Fld Z h0 x "java/lang/String" "value" "[B" .null) (P2 : Fld Z h0 x "java/lang/String" "coder" "B" (.int (0 : Int32))) :
    Ctr l Z ELs yn14 jdk_42_method_149_code 6 none [] (rmk 1 4 8 12) #[(.ref x), (.ref b), (.int (0 : Int32)), (.int (0 : Int32)), .null] [x] h0 (fun v h fs => (∃ t : Addr, fs = [] ∧ v = none ∧ Exa Z h x "java/lang/String" ∧ Fld Z h x "java/lang/String" "value" "[B" (.ref t) ∧ Fld Z h x "java/lang/String" "coder" "B" (.int (0 : Int32)) ∧ Ary Z h t .byte [] ∧ x ≠ t)) := by
  obtain ⟨hw, hEL, wS, OS, hz0, OE, OX, OV⟩ := id G
  refine Ctr.intro pn15 hEL hZh hsf ?_
  intro p e s m below meth c s₁ hby hml hret hnm hlk hh K0
  refine Owe.cast (ef13 m x b ((0 : Int32)) ((0 : Int32))) ?_
  show Owe _ _ _ _ s₁ (mkF m 0 #[.val (.ref x), .val (.ref b), .val (.int (0 : Int32)), .val (.int (0 : Int32)), .val .null, .unset] [])
  refine oAloadN K0 1 (d0_0 hby) rfl rfl ?_
  refine oInitO K0 4 (wq hw 16 rfl) (wq hw 17 rfl) (wq hw 18 rfl) rfl (d0_1 hby) (by decide) (W := 0) nle (by decide) ?_
  intro T1 K2
  refine oIloadN K2 5 (d0_4 hby) rfl ?_
  refine oIfNo K2 8 (d0_5 hby) (XT.i0_ne_f (by decide)) ?_
  refine oAloadN K2 9 (d0_8 hby) rfl rfl ?_
  refine oLdcC K2 11 0 [] (wq hw 108 rfl) wS (by decide) (by decide) (by decide) (d0_9 hby) (by decide) (by decide) (by decide) (by decide) ?_
  intro T6 h3 a4 b8 K7 E5 f9 f10 f11 f12 f13
  have K14 := K7.to 2 4 [x]
  refine oGetF K14 14 (wq hw 33 rfl) f11 (d0_11 hby) ?_
  intro T15 K16
  refine oPutF K16 17 (by simp) (wq hw 33 rfl) (P1.ext E5) (P0.ext E5) (Or.inr ⟨(wq hw 34 rfl), rfl, hnm⟩) (wq hw 6 rfl) (ty := (.array .byte)) (by decide) rfl rfl (d0_14 hby) ?_
  intro T20 h17 lo19 K21 W18
  have F22 : Fld Z h17 x "java/lang/String" "value" "[B" (.ref b8) := Fld.same W18 (P1.ext E5)
  refine oAloadN K21 18 (d0_17 hby) rfl rfl ?_
  refine oLdcC K21 20 0 [] (wq hw 108 rfl) wS (by decide) (by decide) (by decide) (d0_18 hby) (by decide) (by decide) (by decide) (by decide) ?_
  intro T26 h23 a24 b28 K27 E25 f29 f30 f31 f32 f33
  have K34 := K27.to 4 8 [x]
  refine oGetF K34 23 (wq hw 31 rfl) f30 (d0_20 hby) ?_
  intro T35 K36
  refine oPutF K36 26 (by simp) (wq hw 31 rfl) ((Fld.other W18 (P2.ext E5) (Or.inr (slot_ne (Or.inr (wq hw 32 rfl)) (Or.inr (wq hw 34 rfl)) (by decide) rfl rfl))).ext E25) (((P0.ext E5).wr W18).ext E25) (Or.inr ⟨(wq hw 32 rfl), rfl, hnm⟩) (wq hw 6 rfl) (ty := .byte) (by decide) rfl rfl (d0_23 hby) ?_
  intro T40 h37 lo39 K41 W38
  have F42 : Fld Z h37 x "java/lang/String" "coder" "B" (.int (0 : Int32)) := Fld.same W38 ((Fld.other W18 (P2.ext E5) (Or.inr (slot_ne (Or.inr (wq hw 32 rfl)) (Or.inr (wq hw 34 rfl)) (by decide) rfl rfl))).ext E25)
  exact oRetV K41 [] hret (d0_26 hby) (by decide) (by decide) hlk (fun x hx => by cases hx) ⟨b8, rfl, rfl, ((((P0.ext E5).wr W18).ext E25).wr W38), (Fld.other W38 (F22.ext E25) (Or.inr (slot_ne (Or.inr (wq hw 34 rfl)) (Or.inr (wq hw 32 rfl)) (by decide) rfl rfl))), F42, (Ary.other ((Ary.other f12 W18 (Ne.symm (f13 x (by simp)).2)).ext E25) W38 (Ne.symm (f13 x (by simp)).2)), (f13 x (by simp)).2⟩
theorem d1_0 {c : Code} (h : c.code = jdk_42_method_3_code) : decode c.code 0 = .ok (.aload_n 0, 1) := hb h (by decide +kernel)
theorem d1_1 {c : Code} (h : c.code = jdk_42_method_3_code) : decode c.code 1 = .ok (.aload_n 1, 1) := hb h (by decide +kernel)
theorem d1_2 {c : Code} (h : c.code = jdk_42_method_3_code) : decode c.code 2 = .ok (.iconst 0, 1) := hb h (by decide +kernel)
theorem d1_3 {c : Code} (h : c.code = jdk_42_method_3_code) : decode c.code 3 = .ok (.aload_n 1, 1) := hb h (by decide +kernel)
theorem d1_4 {c : Code} (h : c.code = jdk_42_method_3_code) : decode c.code 4 = .ok (.arraylength, 1) := hb h (by decide +kernel)
theorem d1_5 {c : Code} (h : c.code = jdk_42_method_3_code) : decode c.code 5 = .ok (.aconst_null, 1) := hb h (by decide +kernel)
theorem d1_6 {c : Code} (h : c.code = jdk_42_method_3_code) : decode c.code 6 = .ok (.invokespecial 27, 3) := hb h (by decide +kernel)
theorem pd23 : parseMethodDescriptor "([CIILjava/lang/Void;)V" = some ⟨[(.array .char), .int, .int, (.object "java/lang/Void")], none⟩ := by decide +kernel
theorem d1_9 {c : Code} (h : c.code = jdk_42_method_3_code) : decode c.code 9 = .ok (.return_, 1) := hb h (by decide +kernel)
theorem ef25 (m : MethodId) (x0 : Addr) (x1 : Addr) : entryFrame m #[(.ref x0), (.ref x1)] 2 = mkF m 0 #[.val (.ref x0), .val (.ref x1)] [] := by first | (simp [entryFrame, mkF, argsToLocals, Value.category]; done) | rfl
abbrev yn26 : MethodName := ⟨"java/lang/String", "<init>", "([C)V"⟩
theorem rmN1 (l : Launch) (Z : State) (a0 : Array Value) (z0 : Int32) (em : Addr) (G : Gl Z a0 z0 em) (x : Addr) (b : Addr) (h0 : Heap) (hZh : Ext Z.heap h0) (hsf : ∀ x' ∈ ([x] : List Addr), x' < h0.size ∧ Z.heap.size ≤ x') (P0 : Exa Z h0 x "java/lang/String") (P1 : Fld Z h0 x "java/lang/String" "value" "[B" .null) (P2 : Fld Z h0 x "java/lang/String" "coder" "B" (.int (0 : Int32))) (P3 : Ary Z h0 b .char []) :
    Ctr l Z ELs yn26 jdk_42_method_3_code 2 none [] (rmk 2 4 8 29) #[(.ref x), (.ref b)] [x] h0 (fun v h fs => (∃ t : Addr, fs = [] ∧ v = none ∧ Exa Z h x "java/lang/String" ∧ Fld Z h x "java/lang/String" "value" "[B" (.ref t) ∧ Fld Z h x "java/lang/String" "coder" "B" (.int (0 : Int32)) ∧ Ary Z h t .byte [] ∧ x ≠ t)) := by
  obtain ⟨hw, hEL, wS, OS, hz0, OE, OX, OV⟩ := id G
  refine Ctr.intro pn15 hEL hZh hsf ?_
  intro p e s m below meth c s₁ hby hml hret hnm hlk hh K0
  refine Owe.cast (ef25 m x b) ?_
  show Owe _ _ _ _ s₁ (mkF m 0 #[.val (.ref x), .val (.ref b)] [])
  refine oAloadN K0 1 (d1_0 hby) rfl rfl ?_
  refine oAloadN K0 2 (d1_1 hby) rfl rfl ?_
  refine oIconstV K0 3 (0 : Int32) (d1_2 hby) rfl ?_
  refine oAloadN K0 4 (d1_3 hby) rfl rfl ?_
  refine oLen K0 5 P3 (n := (0 : Int32)) (by first | rfl | decide) (d1_4 hby) ?_
  refine oAconstNull K0 6 (d1_5 hby) ?_
  refine oSpecial K0 9 0 (wq hw 12 rfl) (wq hw 13 rfl) (wq hw 7 rfl) (wq hw 15 rfl) (rmN4 l Z a0 z0 em G x b h0 K0.old K0.both P0 P1 P2) [(.ref b), (.int (0 : Int32)), (.int (0 : Int32)), .null] [] (lenOf pd23 rfl) (d1_6 hby) ?_
  intro T1 h3 v4 lo5 fs6 K2 Kp7 q8
  obtain ⟨t9, rfl, rfl, f10, f11, f12, f13, f14⟩ := q8
  have K15 := K2.to 4 8 [x]
  refine Owe.stk [] ?_
  exact oRetV K15 [] hret (d1_9 hby) (by decide) (by decide) hlk (fun x hx => by cases hx) ⟨t9, rfl, rfl, f10, f11, f12, f13, f14⟩
theorem d2_0 {c : Code} (h : c.code = method_2_code) : decode c.code 0 = .ok (.iload_n 0, 1) := hb h (by decide +kernel)
theorem d2_1 {c : Code} (h : c.code = method_2_code) : decode c.code 1 = .ok (.sipush 255, 3) := hb h (by decide +kernel)
theorem d2_4 {c : Code} (h : c.code = method_2_code) : decode c.code 4 = .ok (.iand, 1) := hb h (by decide +kernel)
theorem d2_5 {c : Code} (h : c.code = method_2_code) : decode c.code 5 = .ok (.i2c, 1) := hb h (by decide +kernel)
theorem d2_6 {c : Code} (h : c.code = method_2_code) : decode c.code 6 = .ok (.istore 4, 2) := hb h (by decide +kernel)
theorem d2_8 {c : Code} (h : c.code = method_2_code) : decode c.code 8 = .ok (.iload_n 1, 1) := hb h (by decide +kernel)
theorem d2_9 {c : Code} (h : c.code = method_2_code) : decode c.code 9 = .ok (.sipush 255, 3) := hb h (by decide +kernel)
theorem d2_12 {c : Code} (h : c.code = method_2_code) : decode c.code 12 = .ok (.iand, 1) := hb h (by decide +kernel)
theorem d2_13 {c : Code} (h : c.code = method_2_code) : decode c.code 13 = .ok (.i2c, 1) := hb h (by decide +kernel)
theorem d2_14 {c : Code} (h : c.code = method_2_code) : decode c.code 14 = .ok (.istore 5, 2) := hb h (by decide +kernel)
theorem d2_16 {c : Code} (h : c.code = method_2_code) : decode c.code 16 = .ok (.iload_n 2, 1) := hb h (by decide +kernel)
theorem d2_17 {c : Code} (h : c.code = method_2_code) : decode c.code 17 = .ok (.sipush 255, 3) := hb h (by decide +kernel)
theorem d2_20 {c : Code} (h : c.code = method_2_code) : decode c.code 20 = .ok (.iand, 1) := hb h (by decide +kernel)
theorem d2_21 {c : Code} (h : c.code = method_2_code) : decode c.code 21 = .ok (.i2c, 1) := hb h (by decide +kernel)
theorem d2_22 {c : Code} (h : c.code = method_2_code) : decode c.code 22 = .ok (.istore 6, 2) := hb h (by decide +kernel)
theorem d2_24 {c : Code} (h : c.code = method_2_code) : decode c.code 24 = .ok (.iload_n 3, 1) := hb h (by decide +kernel)
theorem d2_25 {c : Code} (h : c.code = method_2_code) : decode c.code 25 = .ok (.ldc 7, 2) := hb h (by decide +kernel)
theorem d2_27 {c : Code} (h : c.code = method_2_code) : decode c.code 27 = .ok (.iand, 1) := hb h (by decide +kernel)
theorem d2_28 {c : Code} (h : c.code = method_2_code) : decode c.code 28 = .ok (.iconst 4, 1) := hb h (by decide +kernel)
theorem d2_29 {c : Code} (h : c.code = method_2_code) : decode c.code 29 = .ok (.irem, 1) := hb h (by decide +kernel)
theorem d2_30 {c : Code} (h : c.code = method_2_code) : decode c.code 30 = .ok (.istore 7, 2) := hb h (by decide +kernel)
theorem d2_32 {c : Code} (h : c.code = method_2_code) : decode c.code 32 = .ok (.iload 7, 2) := hb h (by decide +kernel)
theorem d2_34 {c : Code} (h : c.code = method_2_code) : decode c.code 34 = .ok (.ifCond .ne 14, 3) := hb h (by decide +kernel)
theorem d2_37 {c : Code} (h : c.code = method_2_code) : decode c.code 37 = .ok (.new 8, 3) := hb h (by decide +kernel)
theorem d2_40 {c : Code} (h : c.code = method_2_code) : decode c.code 40 = .ok (.dup, 1) := hb h (by decide +kernel)
theorem d2_41 {c : Code} (h : c.code = method_2_code) : decode c.code 41 = .ok (.iconst 0, 1) := hb h (by decide +kernel)
theorem d2_42 {c : Code} (h : c.code = method_2_code) : decode c.code 42 = .ok (.newarray .char, 2) := hb h (by decide +kernel)
theorem d2_44 {c : Code} (h : c.code = method_2_code) : decode c.code 44 = .ok (.invokespecial 10, 3) := hb h (by decide +kernel)
theorem pd55 : parseMethodDescriptor "([C)V" = some ⟨[(.array .char)], none⟩ := by decide +kernel
theorem d2_47 {c : Code} (h : c.code = method_2_code) : decode c.code 47 = .ok (.areturn, 1) := hb h (by decide +kernel)
theorem d2_48 {c : Code} (h : c.code = method_2_code) : decode c.code 48 = .ok (.iload 7, 2) := hb h (by decide +kernel)
theorem d2_50 {c : Code} (h : c.code = method_2_code) : decode c.code 50 = .ok (.iconst 1, 1) := hb h (by decide +kernel)
theorem d2_51 {c : Code} (h : c.code = method_2_code) : decode c.code 51 = .ok (.if_icmp .ne 19, 3) := hb h (by decide +kernel)
theorem d2_54 {c : Code} (h : c.code = method_2_code) : decode c.code 54 = .ok (.new 8, 3) := hb h (by decide +kernel)
theorem d2_57 {c : Code} (h : c.code = method_2_code) : decode c.code 57 = .ok (.dup, 1) := hb h (by decide +kernel)
theorem d2_58 {c : Code} (h : c.code = method_2_code) : decode c.code 58 = .ok (.iconst 1, 1) := hb h (by decide +kernel)
theorem d2_59 {c : Code} (h : c.code = method_2_code) : decode c.code 59 = .ok (.newarray .char, 2) := hb h (by decide +kernel)
theorem d2_61 {c : Code} (h : c.code = method_2_code) : decode c.code 61 = .ok (.dup, 1) := hb h (by decide +kernel)
theorem d2_62 {c : Code} (h : c.code = method_2_code) : decode c.code 62 = .ok (.iconst 0, 1) := hb h (by decide +kernel)
theorem d2_63 {c : Code} (h : c.code = method_2_code) : decode c.code 63 = .ok (.iload 4, 2) := hb h (by decide +kernel)
theorem d2_65 {c : Code} (h : c.code = method_2_code) : decode c.code 65 = .ok (.castore, 1) := hb h (by decide +kernel)
theorem d2_66 {c : Code} (h : c.code = method_2_code) : decode c.code 66 = .ok (.invokespecial 10, 3) := hb h (by decide +kernel)
theorem d2_69 {c : Code} (h : c.code = method_2_code) : decode c.code 69 = .ok (.areturn, 1) := hb h (by decide +kernel)
theorem d2_70 {c : Code} (h : c.code = method_2_code) : decode c.code 70 = .ok (.iload 7, 2) := hb h (by decide +kernel)
theorem d2_72 {c : Code} (h : c.code = method_2_code) : decode c.code 72 = .ok (.iconst 2, 1) := hb h (by decide +kernel)
theorem d2_73 {c : Code} (h : c.code = method_2_code) : decode c.code 73 = .ok (.if_icmp .ne 24, 3) := hb h (by decide +kernel)
theorem d2_76 {c : Code} (h : c.code = method_2_code) : decode c.code 76 = .ok (.new 8, 3) := hb h (by decide +kernel)
theorem d2_79 {c : Code} (h : c.code = method_2_code) : decode c.code 79 = .ok (.dup, 1) := hb h (by decide +kernel)
theorem d2_80 {c : Code} (h : c.code = method_2_code) : decode c.code 80 = .ok (.iconst 2, 1) := hb h (by decide +kernel)
theorem d2_81 {c : Code} (h : c.code = method_2_code) : decode c.code 81 = .ok (.newarray .char, 2) := hb h (by decide +kernel)
theorem d2_83 {c : Code} (h : c.code = method_2_code) : decode c.code 83 = .ok (.dup, 1) := hb h (by decide +kernel)
theorem d2_84 {c : Code} (h : c.code = method_2_code) : decode c.code 84 = .ok (.iconst 0, 1) := hb h (by decide +kernel)
theorem d2_85 {c : Code} (h : c.code = method_2_code) : decode c.code 85 = .ok (.iload 4, 2) := hb h (by decide +kernel)
theorem d2_87 {c : Code} (h : c.code = method_2_code) : decode c.code 87 = .ok (.castore, 1) := hb h (by decide +kernel)
theorem d2_88 {c : Code} (h : c.code = method_2_code) : decode c.code 88 = .ok (.dup, 1) := hb h (by decide +kernel)
theorem d2_89 {c : Code} (h : c.code = method_2_code) : decode c.code 89 = .ok (.iconst 1, 1) := hb h (by decide +kernel)
theorem d2_90 {c : Code} (h : c.code = method_2_code) : decode c.code 90 = .ok (.iload 5, 2) := hb h (by decide +kernel)
theorem d2_92 {c : Code} (h : c.code = method_2_code) : decode c.code 92 = .ok (.castore, 1) := hb h (by decide +kernel)
theorem d2_93 {c : Code} (h : c.code = method_2_code) : decode c.code 93 = .ok (.invokespecial 10, 3) := hb h (by decide +kernel)
theorem d2_96 {c : Code} (h : c.code = method_2_code) : decode c.code 96 = .ok (.areturn, 1) := hb h (by decide +kernel)
theorem d2_97 {c : Code} (h : c.code = method_2_code) : decode c.code 97 = .ok (.new 8, 3) := hb h (by decide +kernel)
theorem d2_100 {c : Code} (h : c.code = method_2_code) : decode c.code 100 = .ok (.dup, 1) := hb h (by decide +kernel)
theorem d2_101 {c : Code} (h : c.code = method_2_code) : decode c.code 101 = .ok (.iconst 3, 1) := hb h (by decide +kernel)
theorem d2_102 {c : Code} (h : c.code = method_2_code) : decode c.code 102 = .ok (.newarray .char, 2) := hb h (by decide +kernel)
theorem d2_104 {c : Code} (h : c.code = method_2_code) : decode c.code 104 = .ok (.dup, 1) := hb h (by decide +kernel)
theorem d2_105 {c : Code} (h : c.code = method_2_code) : decode c.code 105 = .ok (.iconst 0, 1) := hb h (by decide +kernel)
theorem d2_106 {c : Code} (h : c.code = method_2_code) : decode c.code 106 = .ok (.iload 4, 2) := hb h (by decide +kernel)
theorem d2_108 {c : Code} (h : c.code = method_2_code) : decode c.code 108 = .ok (.castore, 1) := hb h (by decide +kernel)
theorem d2_109 {c : Code} (h : c.code = method_2_code) : decode c.code 109 = .ok (.dup, 1) := hb h (by decide +kernel)
theorem d2_110 {c : Code} (h : c.code = method_2_code) : decode c.code 110 = .ok (.iconst 1, 1) := hb h (by decide +kernel)
theorem d2_111 {c : Code} (h : c.code = method_2_code) : decode c.code 111 = .ok (.iload 5, 2) := hb h (by decide +kernel)
theorem d2_113 {c : Code} (h : c.code = method_2_code) : decode c.code 113 = .ok (.castore, 1) := hb h (by decide +kernel)
theorem d2_114 {c : Code} (h : c.code = method_2_code) : decode c.code 114 = .ok (.dup, 1) := hb h (by decide +kernel)
theorem d2_115 {c : Code} (h : c.code = method_2_code) : decode c.code 115 = .ok (.iconst 2, 1) := hb h (by decide +kernel)
theorem d2_116 {c : Code} (h : c.code = method_2_code) : decode c.code 116 = .ok (.iload 6, 2) := hb h (by decide +kernel)
theorem d2_118 {c : Code} (h : c.code = method_2_code) : decode c.code 118 = .ok (.castore, 1) := hb h (by decide +kernel)
theorem d2_119 {c : Code} (h : c.code = method_2_code) : decode c.code 119 = .ok (.invokespecial 10, 3) := hb h (by decide +kernel)
theorem d2_122 {c : Code} (h : c.code = method_2_code) : decode c.code 122 = .ok (.areturn, 1) := hb h (by decide +kernel)
theorem ef105 (m : MethodId) (x0 : Int32) (x1 : Int32) (x2 : Int32) (x3 : Int32) : entryFrame m #[(.int x0), (.int x1), (.int x2), (.int x3)] 8 = mkF m 0 #[.val (.int x0), .val (.int x1), .val (.int x2), .val (.int x3), .unset, .unset, .unset, .unset] [] := by first | (simp [entryFrame, mkF, argsToLocals, Value.category]; done) | rfl
abbrev yn106 : MethodName := ⟨"com/example/row_lease/rowlease/lease/LeaseStatusNeverTakenPinLaw", "draw", "(IIII)Ljava/lang/String;"⟩
theorem pn107 : plainName "com/example/row_lease/rowlease/lease/LeaseStatusNeverTakenPinLaw" = true := by first | (simp [plainName, overriddenIn]; done) | decide +kernel
theorem rmDraw (l : Launch) (Z : State) (a0 : Array Value) (z0 : Int32) (em : Addr) (G : Gl Z a0 z0 em) (p0 : Int32) (p1 : Int32) (p2 : Int32) (p3 : Int32) (h0 : Heap) (hZh : Ext Z.heap h0) (hsf : ∀ x' ∈ ([] : List Addr), x' < h0.size ∧ Z.heap.size ≤ x') :
    Ctr l Z ELs yn106 method_2_code 8 (some (.object "java/lang/String")) [] (rmk 4 6 12 66) #[(.int p0), (.int p1), (.int p2), (.int p3)] [] h0 (fun v h fs => (∃ x : Addr, ∃ t : Addr, ∃ vs : List Value, fs = [] ∧ v = some (.ref x) ∧ Exa Z h x "java/lang/String" ∧ Fld Z h x "java/lang/String" "value" "[B" (.ref t) ∧ Fld Z h x "java/lang/String" "coder" "B" (.int (0 : Int32)) ∧ Ary Z h t .byte (vs))) := by
  obtain ⟨hw, hEL, wS, OS, hz0, OE, OX, OV⟩ := id G
  refine Ctr.intro pn107 hEL hZh hsf ?_
  intro p e s m below meth c s₁ hby hml hret hnm hlk hh K0
  refine Owe.cast (ef105 m p0 p1 p2 p3) ?_
  show Owe _ _ _ _ s₁ (mkF m 0 #[.val (.int p0), .val (.int p1), .val (.int p2), .val (.int p3), .unset, .unset, .unset, .unset] [])
  refine oIloadN K0 1 (d2_0 hby) rfl ?_
  refine oSipushV K0 4 (255 : Int32) (d2_1 hby) (by decide) ?_
  refine oIand K0 5 (d2_4 hby) ?_
  refine oI2c K0 6 (d2_5 hby) ?_
  refine oIstore K0 8 (d2_6 hby) (l' := #[.val (.int p0), .val (.int p1), .val (.int p2), .val (.int p3), .val (.int (chr (p0 &&& (255 : Int32)))), .unset, .unset, .unset]) rfl ?_
  refine oIloadN K0 9 (d2_8 hby) rfl ?_
  refine oSipushV K0 12 (255 : Int32) (d2_9 hby) (by decide) ?_
  refine oIand K0 13 (d2_12 hby) ?_
  refine oI2c K0 14 (d2_13 hby) ?_
  refine oIstore K0 16 (d2_14 hby) (l' := #[.val (.int p0), .val (.int p1), .val (.int p2), .val (.int p3), .val (.int (chr (p0 &&& (255 : Int32)))), .val (.int (chr (p1 &&& (255 : Int32)))), .unset, .unset]) rfl ?_
  refine oIloadN K0 17 (d2_16 hby) rfl ?_
  refine oSipushV K0 20 (255 : Int32) (d2_17 hby) (by decide) ?_
  refine oIand K0 21 (d2_20 hby) ?_
  refine oI2c K0 22 (d2_21 hby) ?_
  refine oIstore K0 24 (d2_22 hby) (l' := #[.val (.int p0), .val (.int p1), .val (.int p2), .val (.int p3), .val (.int (chr (p0 &&& (255 : Int32)))), .val (.int (chr (p1 &&& (255 : Int32)))), .val (.int (chr (p2 &&& (255 : Int32)))), .unset]) rfl ?_
  refine oIloadN K0 25 (d2_24 hby) rfl ?_
  refine oLdcI K0 27 (wq hw 4 rfl) (d2_25 hby) ?_
  refine oIand K0 28 (d2_27 hby) ?_
  refine oIconstV K0 29 (4 : Int32) (d2_28 hby) rfl ?_
  refine oIrem K0 30 (d2_29 hby) (by decide) ?_
  refine oIstore K0 32 (d2_30 hby) (l' := #[.val (.int p0), .val (.int p1), .val (.int p2), .val (.int p3), .val (.int (chr (p0 &&& (255 : Int32)))), .val (.int (chr (p1 &&& (255 : Int32)))), .val (.int (chr (p2 &&& (255 : Int32)))), .val (.int ((p3 &&& (2147483647 : Int32)) % (4 : Int32)))]) rfl ?_
  refine oIload K0 34 (d2_32 hby) rfl ?_
  by_cases hc1 : ((p3 &&& (2147483647 : Int32)) % (4 : Int32)) = (0 : Int32)
  · refine oIfNo K0 37 (d2_34 hby) (XT.i0_ne_f hc1) ?_
    refine oNew K0 40 (wq hw 5 rfl) (wq hw 6 rfl) (wq hw 7 rfl) (d2_37 hby) (by decide) (by decide) ?_
    intro T8 h2 a3 g4 K9 E5 X6 D7
    have F10 : Fld Z h2 a3 "java/lang/String" "coder" "B" (.int (0 : Int32)) := D7 (Or.inr (wq hw 32 rfl)) (ty := .byte) (by decide)
    have F11 : Fld Z h2 a3 "java/lang/String" "value" "[B" .null := D7 (Or.inr (wq hw 34 rfl)) (ty := (.array .byte)) (by decide)
    have K12 := K9.to 1 4 [a3]
    refine oDup K12 41 (d2_40 hby) rfl ?_
    refine oIconstV K12 42 (0 : Int32) (d2_41 hby) rfl ?_
    refine oNewP K12 44 (ty := .char) 0 (wq hw 8 rfl) rfl (by decide) (by decide) (by decide) (d2_42 hby) (by decide) (by decide) ?_
    intro T18 h13 a14 g15 K19 E16 A17
    have K20 := K19.to 2 4 [a14, a3]
    refine oSpecial K20 47 1 (wq hw 9 rfl) (wq hw 10 rfl) (wq hw 7 rfl) (wq hw 11 rfl) (rmN1 l Z a0 z0 em G a3 a14 h13 K20.old K20.both (X6.ext E16) (F11.ext E16) (F10.ext E16) A17) [(.ref a14)] [(.ref a3)] (lenOf pd55 rfl) (d2_44 hby) ?_
    intro T21 h23 v24 lo25 fs26 K22 Kp27 q28
    obtain ⟨t29, rfl, rfl, f30, f31, f32, f33, f34⟩ := q28
    have K35 := K22.to 6 12 [a14, a3]
    refine Owe.stk [(.ref a3)] ?_
    exact oRetA K35 [] hret rfl rfl (d2_47 hby) (by decide) (by decide) hlk (fun x hx => by cases hx) ⟨a3, t29, [], rfl, rfl, f30, f31, f32, f33⟩
  · refine oIfYes K0 48 (d2_34 hby) (XT.i0_ne_t hc1) ?_
    refine oIload K0 50 (d2_48 hby) rfl ?_
    refine oIconstV K0 51 (1 : Int32) (d2_50 hby) rfl ?_
    by_cases hc36 : ((p3 &&& (2147483647 : Int32)) % (4 : Int32)) = (1 : Int32)
    · refine oIcmpNo K0 54 (d2_51 hby) (XT.ii_ne_f hc36) ?_
      refine oNew K0 57 (wq hw 5 rfl) (wq hw 6 rfl) (wq hw 7 rfl) (d2_54 hby) (by decide) (by decide) ?_
      intro T43 h37 a38 g39 K44 E40 X41 D42
      have F45 : Fld Z h37 a38 "java/lang/String" "coder" "B" (.int (0 : Int32)) := D42 (Or.inr (wq hw 32 rfl)) (ty := .byte) (by decide)
      have F46 : Fld Z h37 a38 "java/lang/String" "value" "[B" .null := D42 (Or.inr (wq hw 34 rfl)) (ty := (.array .byte)) (by decide)
      have K47 := K44.to 1 4 [a38]
      refine oDup K47 58 (d2_57 hby) rfl ?_
      refine oIconstV K47 59 (1 : Int32) (d2_58 hby) rfl ?_
      refine oNewP K47 61 (ty := .char) 1 (wq hw 8 rfl) rfl (by decide) (by decide) (by decide) (d2_59 hby) (by decide) (by decide) ?_
      intro T53 h48 a49 g50 K54 E51 A52
      have K55 := K54.to 2 5 [a49, a38]
      refine oDup K55 62 (d2_61 hby) rfl ?_
      refine oIconstV K55 63 (0 : Int32) (d2_62 hby) rfl ?_
      refine oIload K55 65 (d2_63 hby) rfl ?_
      refine oCastore K55 66 (by simp) A52 0 (by decide) (by decide) nlt (nar_chr _) (d2_65 hby) ?_
      intro T60 h56 lo59 K61 W57 A58
      have A62 : Ary Z h56 a49 .char [(.int (chr (p0 &&& (255 : Int32))))] := A58
      obtain ⟨kc63, Kc64⟩ := Ary.arv A62 (.int 0) (n := (1 : Int32)) rfl
      have Kc64 : Arv Z h56 a49 kc63 .char (1 : Int32) (([(chr (p0 &&& (255 : Int32)))] : List Int32).map Value.int) (.int 0) := Kc64
      refine oSpecialN K61 69 1 (StrChars.Road.QV Z a38 (1 : Int32) ([(byt (chr (p0 &&& (255 : Int32))))] : List Int32) h56 Z.heap.size) (wq hw 9 rfl) (wq hw 10 rfl) (wq hw 11 rfl)
        (fun s' hZ' => StrChars.Road.backV (W := 1) hZ' (own_hws hw) (kI := 4) (wq hw 6 rfl) (cs := ([(chr (p0 &&& (255 : Int32)))] : List Int32)) (bs := ([(byt (chr (p0 &&& (255 : Int32))))] : List Int32)) (n := 1) (n0 := Z.heap.size) (K61.ge (by simp)) K61.old.1 ((X41.ext E51).wr W57) (Fld.other W57 (F46.ext E51) (Or.inl (Nat.ne_of_lt (Nat.lt_of_lt_of_le X41.lt (Nat.le_of_eq g50))))) (Fld.other W57 (F45.ext E51) (Or.inl (Nat.ne_of_lt (Nat.lt_of_lt_of_le X41.lt (Nat.le_of_eq g50))))) Kc64 (OS.ext K61.old) hz0 rfl rfl (by decide) (by decide) (by intro c hc; simp only [List.mem_cons, List.not_mem_nil, or_false] at hc; rcases hc with rfl <;> first | exact chr255 _ | decide) rfl (by decide) (by decide))
        (ws := [a38]) (fun v h' L q => ⟨q.2.1, q.2.2.1⟩) [(.ref a49)] [(.ref a38)] (lenOf pd55 rfl) (d2_66 hby) ?_
      intro T65 h67 v68 lo69 L70 K66 Kp71 q72
      obtain ⟨rfl, -, -, f74, f75, t73, f76, -, f77, f78, f79, f80⟩ := q72
      have A81 : Ary Z h67 t73 .byte [(.int (byt (chr (p0 &&& (255 : Int32)))))] := Ary.ofArv f80 rfl nlt
      have K82 := K66.to 3 6 [a49, a38]
      refine Owe.stk [(.ref a38)] ?_
      exact oRetA K82 [] hret rfl rfl (d2_69 hby) (by decide) (by decide) hlk (fun x hx => by cases hx) ⟨a38, t73, [(.int (byt (chr (p0 &&& (255 : Int32)))))], rfl, rfl, f74, f79, f75, A81⟩
    · refine oIcmpYes K0 70 (d2_51 hby) (XT.ii_ne_t hc36) ?_
      refine oIload K0 72 (d2_70 hby) rfl ?_
      refine oIconstV K0 73 (2 : Int32) (d2_72 hby) rfl ?_
      by_cases hc83 : ((p3 &&& (2147483647 : Int32)) % (4 : Int32)) = (2 : Int32)
      · refine oIcmpNo K0 76 (d2_73 hby) (XT.ii_ne_f hc83) ?_
        refine oNew K0 79 (wq hw 5 rfl) (wq hw 6 rfl) (wq hw 7 rfl) (d2_76 hby) (by decide) (by decide) ?_
        intro T90 h84 a85 g86 K91 E87 X88 D89
        have F92 : Fld Z h84 a85 "java/lang/String" "coder" "B" (.int (0 : Int32)) := D89 (Or.inr (wq hw 32 rfl)) (ty := .byte) (by decide)
        have F93 : Fld Z h84 a85 "java/lang/String" "value" "[B" .null := D89 (Or.inr (wq hw 34 rfl)) (ty := (.array .byte)) (by decide)
        have K94 := K91.to 1 4 [a85]
        refine oDup K94 80 (d2_79 hby) rfl ?_
        refine oIconstV K94 81 (2 : Int32) (d2_80 hby) rfl ?_
        refine oNewP K94 83 (ty := .char) 2 (wq hw 8 rfl) rfl (by decide) (by decide) (by decide) (d2_81 hby) (by decide) (by decide) ?_
        intro T100 h95 a96 g97 K101 E98 A99
        have K102 := K101.to 2 6 [a96, a85]
        refine oDup K102 84 (d2_83 hby) rfl ?_
        refine oIconstV K102 85 (0 : Int32) (d2_84 hby) rfl ?_
        refine oIload K102 87 (d2_85 hby) rfl ?_
        refine oCastore K102 88 (by simp) A99 0 (by decide) (by decide) nlt (nar_chr _) (d2_87 hby) ?_
        intro T107 h103 lo106 K108 W104 A105
        have A109 : Ary Z h103 a96 .char [(.int (chr (p0 &&& (255 : Int32)))), (.int (0 : Int32))] := A105
        refine oDup K108 89 (d2_88 hby) rfl ?_
        refine oIconstV K108 90 (1 : Int32) (d2_89 hby) rfl ?_
        refine oIload K108 92 (d2_90 hby) rfl ?_
        refine oCastore K108 93 (by simp) A109 1 (by decide) (by decide) nlt (nar_chr _) (d2_92 hby) ?_
        intro T114 h110 lo113 K115 W111 A112
        have A116 : Ary Z h110 a96 .char [(.int (chr (p0 &&& (255 : Int32)))), (.int (chr (p1 &&& (255 : Int32))))] := A112
        obtain ⟨kc117, Kc118⟩ := Ary.arv A116 (.int 0) (n := (2 : Int32)) rfl
        have Kc118 : Arv Z h110 a96 kc117 .char (2 : Int32) (([(chr (p0 &&& (255 : Int32))), (chr (p1 &&& (255 : Int32)))] : List Int32).map Value.int) (.int 0) := Kc118
        refine oSpecialN K115 96 1 (StrChars.Road.QV Z a85 (2 : Int32) ([(byt (chr (p0 &&& (255 : Int32)))), (byt (chr (p1 &&& (255 : Int32))))] : List Int32) h110 Z.heap.size) (wq hw 9 rfl) (wq hw 10 rfl) (wq hw 11 rfl)
          (fun s' hZ' => StrChars.Road.backV (W := 1) hZ' (own_hws hw) (kI := 4) (wq hw 6 rfl) (cs := ([(chr (p0 &&& (255 : Int32))), (chr (p1 &&& (255 : Int32)))] : List Int32)) (bs := ([(byt (chr (p0 &&& (255 : Int32)))), (byt (chr (p1 &&& (255 : Int32))))] : List Int32)) (n := 2) (n0 := Z.heap.size) (K115.ge (by simp)) K115.old.1 (((X88.ext E98).wr W104).wr W111) (Fld.other W111 (Fld.other W104 (F93.ext E98) (Or.inl (Nat.ne_of_lt (Nat.lt_of_lt_of_le X88.lt (Nat.le_of_eq g97))))) (Or.inl (Nat.ne_of_lt (Nat.lt_of_lt_of_le X88.lt (Nat.le_of_eq g97))))) (Fld.other W111 (Fld.other W104 (F92.ext E98) (Or.inl (Nat.ne_of_lt (Nat.lt_of_lt_of_le X88.lt (Nat.le_of_eq g97))))) (Or.inl (Nat.ne_of_lt (Nat.lt_of_lt_of_le X88.lt (Nat.le_of_eq g97))))) Kc118 (OS.ext K115.old) hz0 rfl rfl (by decide) (by decide) (by intro c hc; simp only [List.mem_cons, List.not_mem_nil, or_false] at hc; rcases hc with rfl | rfl <;> first | exact chr255 _ | decide) rfl (by decide) (by decide))
          (ws := [a85]) (fun v h' L q => ⟨q.2.1, q.2.2.1⟩) [(.ref a96)] [(.ref a85)] (lenOf pd55 rfl) (d2_93 hby) ?_
        intro T119 h121 v122 lo123 L124 K120 Kp125 q126
        obtain ⟨rfl, -, -, f128, f129, t127, f130, -, f131, f132, f133, f134⟩ := q126
        have A135 : Ary Z h121 t127 .byte [(.int (byt (chr (p0 &&& (255 : Int32))))), (.int (byt (chr (p1 &&& (255 : Int32)))))] := Ary.ofArv f134 rfl nlt
        have K136 := K120.to 3 8 [a96, a85]
        refine Owe.stk [(.ref a85)] ?_
        exact oRetA K136 [] hret rfl rfl (d2_96 hby) (by decide) (by decide) hlk (fun x hx => by cases hx) ⟨a85, t127, [(.int (byt (chr (p0 &&& (255 : Int32))))), (.int (byt (chr (p1 &&& (255 : Int32)))))], rfl, rfl, f128, f133, f129, A135⟩
      · refine oIcmpYes K0 97 (d2_73 hby) (XT.ii_ne_t hc83) ?_
        refine oNew K0 100 (wq hw 5 rfl) (wq hw 6 rfl) (wq hw 7 rfl) (d2_97 hby) (by decide) (by decide) ?_
        intro T143 h137 a138 g139 K144 E140 X141 D142
        have F145 : Fld Z h137 a138 "java/lang/String" "coder" "B" (.int (0 : Int32)) := D142 (Or.inr (wq hw 32 rfl)) (ty := .byte) (by decide)
        have F146 : Fld Z h137 a138 "java/lang/String" "value" "[B" .null := D142 (Or.inr (wq hw 34 rfl)) (ty := (.array .byte)) (by decide)
        have K147 := K144.to 1 4 [a138]
        refine oDup K147 101 (d2_100 hby) rfl ?_
        refine oIconstV K147 102 (3 : Int32) (d2_101 hby) rfl ?_
        refine oNewP K147 104 (ty := .char) 3 (wq hw 8 rfl) rfl (by decide) (by decide) (by decide) (d2_102 hby) (by decide) (by decide) ?_
        intro T153 h148 a149 g150 K154 E151 A152
        have K155 := K154.to 2 7 [a149, a138]
        refine oDup K155 105 (d2_104 hby) rfl ?_
        refine oIconstV K155 106 (0 : Int32) (d2_105 hby) rfl ?_
        refine oIload K155 108 (d2_106 hby) rfl ?_
        refine oCastore K155 109 (by simp) A152 0 (by decide) (by decide) nlt (nar_chr _) (d2_108 hby) ?_
        intro T160 h156 lo159 K161 W157 A158
        have A162 : Ary Z h156 a149 .char [(.int (chr (p0 &&& (255 : Int32)))), (.int (0 : Int32)), (.int (0 : Int32))] := A158
        refine oDup K161 110 (d2_109 hby) rfl ?_
        refine oIconstV K161 111 (1 : Int32) (d2_110 hby) rfl ?_
        refine oIload K161 113 (d2_111 hby) rfl ?_
        refine oCastore K161 114 (by simp) A162 1 (by decide) (by decide) nlt (nar_chr _) (d2_113 hby) ?_
        intro T167 h163 lo166 K168 W164 A165
        have A169 : Ary Z h163 a149 .char [(.int (chr (p0 &&& (255 : Int32)))), (.int (chr (p1 &&& (255 : Int32)))), (.int (0 : Int32))] := A165
        refine oDup K168 115 (d2_114 hby) rfl ?_
        refine oIconstV K168 116 (2 : Int32) (d2_115 hby) rfl ?_
        refine oIload K168 118 (d2_116 hby) rfl ?_
        refine oCastore K168 119 (by simp) A169 2 (by decide) (by decide) nlt (nar_chr _) (d2_118 hby) ?_
        intro T174 h170 lo173 K175 W171 A172
        have A176 : Ary Z h170 a149 .char [(.int (chr (p0 &&& (255 : Int32)))), (.int (chr (p1 &&& (255 : Int32)))), (.int (chr (p2 &&& (255 : Int32))))] := A172
        obtain ⟨kc177, Kc178⟩ := Ary.arv A176 (.int 0) (n := (3 : Int32)) rfl
        have Kc178 : Arv Z h170 a149 kc177 .char (3 : Int32) (([(chr (p0 &&& (255 : Int32))), (chr (p1 &&& (255 : Int32))), (chr (p2 &&& (255 : Int32)))] : List Int32).map Value.int) (.int 0) := Kc178
        refine oSpecialN K175 122 1 (StrChars.Road.QV Z a138 (3 : Int32) ([(byt (chr (p0 &&& (255 : Int32)))), (byt (chr (p1 &&& (255 : Int32)))), (byt (chr (p2 &&& (255 : Int32))))] : List Int32) h170 Z.heap.size) (wq hw 9 rfl) (wq hw 10 rfl) (wq hw 11 rfl)
          (fun s' hZ' => StrChars.Road.backV (W := 1) hZ' (own_hws hw) (kI := 4) (wq hw 6 rfl) (cs := ([(chr (p0 &&& (255 : Int32))), (chr (p1 &&& (255 : Int32))), (chr (p2 &&& (255 : Int32)))] : List Int32)) (bs := ([(byt (chr (p0 &&& (255 : Int32)))), (byt (chr (p1 &&& (255 : Int32)))), (byt (chr (p2 &&& (255 : Int32))))] : List Int32)) (n := 3) (n0 := Z.heap.size) (K175.ge (by simp)) K175.old.1 ((((X141.ext E151).wr W157).wr W164).wr W171) (Fld.other W171 (Fld.other W164 (Fld.other W157 (F146.ext E151) (Or.inl (Nat.ne_of_lt (Nat.lt_of_lt_of_le X141.lt (Nat.le_of_eq g150))))) (Or.inl (Nat.ne_of_lt (Nat.lt_of_lt_of_le X141.lt (Nat.le_of_eq g150))))) (Or.inl (Nat.ne_of_lt (Nat.lt_of_lt_of_le X141.lt (Nat.le_of_eq g150))))) (Fld.other W171 (Fld.other W164 (Fld.other W157 (F145.ext E151) (Or.inl (Nat.ne_of_lt (Nat.lt_of_lt_of_le X141.lt (Nat.le_of_eq g150))))) (Or.inl (Nat.ne_of_lt (Nat.lt_of_lt_of_le X141.lt (Nat.le_of_eq g150))))) (Or.inl (Nat.ne_of_lt (Nat.lt_of_lt_of_le X141.lt (Nat.le_of_eq g150))))) Kc178 (OS.ext K175.old) hz0 rfl rfl (by decide) (by decide) (by intro c hc; simp only [List.mem_cons, List.not_mem_nil, or_false] at hc; rcases hc with rfl | rfl | rfl <;> first | exact chr255 _ | decide) rfl (by decide) (by decide))
          (ws := [a138]) (fun v h' L q => ⟨q.2.1, q.2.2.1⟩) [(.ref a149)] [(.ref a138)] (lenOf pd55 rfl) (d2_119 hby) ?_
        intro T179 h181 v182 lo183 L184 K180 Kp185 q186
        obtain ⟨rfl, -, -, f188, f189, t187, f190, -, f191, f192, f193, f194⟩ := q186
        have A195 : Ary Z h181 t187 .byte [(.int (byt (chr (p0 &&& (255 : Int32))))), (.int (byt (chr (p1 &&& (255 : Int32))))), (.int (byt (chr (p2 &&& (255 : Int32)))))] := Ary.ofArv f194 rfl nlt
        have K196 := K180.to 3 10 [a149, a138]
        refine Owe.stk [(.ref a138)] ?_
        exact oRetA K196 [] hret rfl rfl (d2_122 hby) (by decide) (by decide) hlk (fun x hx => by cases hx) ⟨a138, t187, [(.int (byt (chr (p0 &&& (255 : Int32))))), (.int (byt (chr (p1 &&& (255 : Int32))))), (.int (byt (chr (p2 &&& (255 : Int32)))))], rfl, rfl, f188, f193, f189, A195⟩
theorem d3_0 {c : Code} (h : c.code = jdk_42_method_152_code) : decode c.code 0 = .ok (.getstatic 38, 3) := hb h (by decide +kernel)
theorem d3_3 {c : Code} (h : c.code = jdk_42_method_152_code) : decode c.code 3 = .ok (.ifCond .eq 10, 3) := hb h (by decide +kernel)
theorem d3_6 {c : Code} (h : c.code = jdk_42_method_152_code) : decode c.code 6 = .ok (.aload_n 0, 1) := hb h (by decide +kernel)
theorem d3_7 {c : Code} (h : c.code = jdk_42_method_152_code) : decode c.code 7 = .ok (.getfield 15, 3) := hb h (by decide +kernel)
theorem d3_10 {c : Code} (h : c.code = jdk_42_method_152_code) : decode c.code 10 = .ok (.goto 4, 3) := hb h (by decide +kernel)
theorem d3_14 {c : Code} (h : c.code = jdk_42_method_152_code) : decode c.code 14 = .ok (.ireturn, 1) := hb h (by decide +kernel)
theorem ef114 (m : MethodId) (x0 : Addr) : entryFrame m #[(.ref x0)] 1 = mkF m 0 #[.val (.ref x0)] [] := by first | (simp [entryFrame, mkF, argsToLocals, Value.category]; done) | rfl
abbrev yn115 : MethodName := ⟨"java/lang/String", "coder", "()B"⟩
theorem rmCoder (l : Launch) (Z : State) (a0 : Array Value) (z0 : Int32) (em : Addr) (G : Gl Z a0 z0 em) (x : Addr) (h0 : Heap) (hZh : Ext Z.heap h0) (hsf : ∀ x' ∈ ([] : List Addr), x' < h0.size ∧ Z.heap.size ≤ x') (P0 : Fld Z h0 x "java/lang/String" "coder" "B" (.int (0 : Int32))) :
    Ctr l Z ELs yn115 jdk_42_method_152_code 1 (some .byte) [] (rmk 0 0 0 0) #[(.ref x)] [] h0 (fun v h fs => (fs = [] ∧ v = some (.int (0 : Int32)))) := by
  obtain ⟨hw, hEL, wS, OS, hz0, OE, OX, OV⟩ := id G
  refine Ctr.intro pn15 hEL hZh hsf ?_
  intro p e s m below meth c s₁ hby hml hret hnm hlk hh K0
  refine Owe.cast (ef114 m x) ?_
  show Owe _ _ _ _ s₁ (mkF m 0 #[.val (.ref x)] [])
  refine oGetS K0 3 (wq hw 19 rfl) (OS.ext K0.old) (d3_0 hby) ?_
  intro T1 K2
  refine oIfNo K2 6 (d3_3 hby) (XT.i0_eq_f hz0) ?_
  refine oAloadN K2 7 (d3_6 hby) rfl rfl ?_
  refine oGetF K2 10 (wq hw 31 rfl) P0 (d3_7 hby) ?_
  intro T3 K4
  refine oGoto K4 14 (d3_10 hby) ?_
  exact oRetI K4 [] (t := .byte) hret (by simp) (by decide) (d3_14 hby) (by decide) (by decide) hlk (fun x hx => by cases hx) ⟨rfl, rfl⟩
theorem d4_0 {c : Code} (h : c.code = jdk_42_method_54_code) : decode c.code 0 = .ok (.aload_n 0, 1) := hb h (by decide +kernel)
theorem d4_1 {c : Code} (h : c.code = jdk_42_method_54_code) : decode c.code 1 = .ok (.getfield 9, 3) := hb h (by decide +kernel)
theorem d4_4 {c : Code} (h : c.code = jdk_42_method_54_code) : decode c.code 4 = .ok (.arraylength, 1) := hb h (by decide +kernel)
theorem d4_5 {c : Code} (h : c.code = jdk_42_method_54_code) : decode c.code 5 = .ok (.aload_n 0, 1) := hb h (by decide +kernel)
theorem d4_6 {c : Code} (h : c.code = jdk_42_method_54_code) : decode c.code 6 = .ok (.invokevirtual 335, 3) := hb h (by decide +kernel)
theorem pd121 : parseMethodDescriptor "()B" = some ⟨[], some .byte⟩ := by decide +kernel
theorem d4_9 {c : Code} (h : c.code = jdk_42_method_54_code) : decode c.code 9 = .ok (.ishr, 1) := hb h (by decide +kernel)
theorem d4_10 {c : Code} (h : c.code = jdk_42_method_54_code) : decode c.code 10 = .ok (.ireturn, 1) := hb h (by decide +kernel)
abbrev yn124 : MethodName := ⟨"java/lang/String", "length", "()I"⟩
theorem rmLength (l : Launch) (Z : State) (a0 : Array Value) (z0 : Int32) (em : Addr) (G : Gl Z a0 z0 em) (x : Addr) (t : Addr) (vs : List Value) (h0 : Heap) (hZh : Ext Z.heap h0) (hsf : ∀ x' ∈ ([] : List Addr), x' < h0.size ∧ Z.heap.size ≤ x') (P0 : Exa Z h0 x "java/lang/String") (P1 : Fld Z h0 x "java/lang/String" "value" "[B" (.ref t)) (P2 : Fld Z h0 x "java/lang/String" "coder" "B" (.int (0 : Int32))) (P3 : Ary Z h0 t .byte (vs)) :
    Ctr l Z ELs yn124 jdk_42_method_54_code 1 (some .int) [] (rmk 1 0 0 13) #[(.ref x)] [] h0 (fun v h fs => (fs = [] ∧ v = some (.int ((Int32.ofNat (vs).length) >>> ((0 : Int32) &&& 31))))) := by
  obtain ⟨hw, hEL, wS, OS, hz0, OE, OX, OV⟩ := id G
  refine Ctr.intro pn15 hEL hZh hsf ?_
  intro p e s m below meth c s₁ hby hml hret hnm hlk hh K0
  refine Owe.cast (ef114 m x) ?_
  show Owe _ _ _ _ s₁ (mkF m 0 #[.val (.ref x)] [])
  refine oAloadN K0 1 (d4_0 hby) rfl rfl ?_
  refine oGetF K0 4 (wq hw 33 rfl) P1 (d4_1 hby) ?_
  intro T1 K2
  refine oLen K2 5 P3 (n := (Int32.ofNat (vs).length)) (by first | rfl | decide) (d4_4 hby) ?_
  refine oAloadN K2 6 (d4_5 hby) rfl rfl ?_
  refine oVirtual K2 9 1 (wq hw 76 rfl) (wq hw 77 rfl) (nfSel (wq hw 79 rfl)) (wq hw 79 rfl) (wq hw 78 rfl) (wq hw 7 rfl) (wq hw 80 rfl) P0 (rmCoder l Z a0 z0 em G x h0 K2.old K2.both P2) [] [(.int (Int32.ofNat (vs).length))] (lenOf pd121 rfl) (d4_6 hby) ?_
  intro T3 h5 v6 lo7 fs8 K4 Kp9 q10
  obtain ⟨rfl, rfl⟩ := q10
  have K11 := K4.to 0 0 []
  refine Owe.stk [(.int (0 : Int32)), (.int (Int32.ofNat (vs).length))] ?_
  refine oIshr K11 10 (d4_9 hby) ?_
  exact oRetI K11 [] (t := .int) hret (by simp) rfl (d4_10 hby) (by decide) (by decide) hlk (fun x hx => by cases hx) ⟨rfl, rfl⟩
theorem d5_0 {c : Code} (h : c.code = jdk_42_method_66_code) : decode c.code 0 = .ok (.aload_n 0, 1) := hb h (by decide +kernel)
theorem d5_1 {c : Code} (h : c.code = jdk_42_method_66_code) : decode c.code 1 = .ok (.aload_n 1, 1) := hb h (by decide +kernel)
theorem d5_2 {c : Code} (h : c.code = jdk_42_method_66_code) : decode c.code 2 = .ok (.if_acmp .ne 5, 3) := hb h (by decide +kernel)
theorem d5_5 {c : Code} (h : c.code = jdk_42_method_66_code) : decode c.code 5 = .ok (.iconst 1, 1) := hb h (by decide +kernel)
theorem d5_6 {c : Code} (h : c.code = jdk_42_method_66_code) : decode c.code 6 = .ok (.ireturn, 1) := hb h (by decide +kernel)
theorem ef130 (m : MethodId) (x0 : Addr) (x1 : Addr) : entryFrame m #[(.ref x0), (.ref x1)] 3 = mkF m 0 #[.val (.ref x0), .val (.ref x1), .unset] [] := by first | (simp [entryFrame, mkF, argsToLocals, Value.category]; done) | rfl
abbrev yn131 : MethodName := ⟨"java/lang/String", "equals", "(Ljava/lang/Object;)Z"⟩
theorem rmEqSame (l : Launch) (Z : State) (a0 : Array Value) (z0 : Int32) (em : Addr) (G : Gl Z a0 z0 em) (x : Addr) (h0 : Heap) (hZh : Ext Z.heap h0) (hsf : ∀ x' ∈ ([] : List Addr), x' < h0.size ∧ Z.heap.size ≤ x') :
    Ctr l Z ELs yn131 jdk_42_method_66_code 3 (some .boolean) [] (rmk 0 0 0 0) #[(.ref x), (.ref x)] [] h0 (fun v h fs => (fs = [] ∧ v = some (.int (1 : Int32)))) := by
  obtain ⟨hw, hEL, wS, OS, hz0, OE, OX, OV⟩ := id G
  refine Ctr.intro pn15 hEL hZh hsf ?_
  intro p e s m below meth c s₁ hby hml hret hnm hlk hh K0
  refine Owe.cast (ef130 m x x) ?_
  show Owe _ _ _ _ s₁ (mkF m 0 #[.val (.ref x), .val (.ref x), .unset] [])
  refine oAloadN K0 1 (d5_0 hby) rfl rfl ?_
  refine oAloadN K0 2 (d5_1 hby) rfl rfl ?_
  refine oAcmpNo K0 5 (d5_2 hby) rfl rfl (XT.aa_ne_f rfl) ?_
  refine oIconstV K0 6 (1 : Int32) (d5_5 hby) rfl ?_
  exact oRetI K0 [] (t := .boolean) hret (by simp) (by decide) (d5_6 hby) (by decide) (by decide) hlk (fun x hx => by cases hx) ⟨rfl, rfl⟩
theorem d6_0 {c : Code} (h : c.code = jdk_31_method_11_code) : decode c.code 0 = .ok (.aload_n 0, 1) := hb h (by decide +kernel)
theorem d6_1 {c : Code} (h : c.code = jdk_31_method_11_code) : decode c.code 1 = .ok (.ifnonnull 12, 3) := hb h (by decide +kernel)
theorem d6_13 {c : Code} (h : c.code = jdk_31_method_11_code) : decode c.code 13 = .ok (.aload_n 0, 1) := hb h (by decide +kernel)
theorem d6_14 {c : Code} (h : c.code = jdk_31_method_11_code) : decode c.code 14 = .ok (.areturn, 1) := hb h (by decide +kernel)
abbrev yn136 : MethodName := ⟨"java/util/Objects", "requireNonNull", "(Ljava/lang/Object;Ljava/lang/String;)Ljava/lang/Object;"⟩
theorem pn137 : plainName "java/util/Objects" = true := by first | (simp [plainName, overriddenIn]; done) | decide +kernel
theorem rmReq (l : Launch) (Z : State) (a0 : Array Value) (z0 : Int32) (em : Addr) (G : Gl Z a0 z0 em) (x : Addr) (q : Addr) (h0 : Heap) (hZh : Ext Z.heap h0) (hsf : ∀ x' ∈ ([] : List Addr), x' < h0.size ∧ Z.heap.size ≤ x') :
    Ctr l Z ELs yn136 jdk_31_method_11_code 2 (some (.object "java/lang/Object")) [] (rmk 0 0 0 0) #[(.ref x), (.ref q)] [] h0 (fun v h fs => (fs = [] ∧ v = some (.ref x))) := by
  obtain ⟨hw, hEL, wS, OS, hz0, OE, OX, OV⟩ := id G
  refine Ctr.intro pn137 hEL hZh hsf ?_
  intro p e s m below meth c s₁ hby hml hret hnm hlk hh K0
  refine Owe.cast (ef25 m x q) ?_
  show Owe _ _ _ _ s₁ (mkF m 0 #[.val (.ref x), .val (.ref q)] [])
  refine oAloadN K0 1 (d6_0 hby) rfl rfl ?_
  refine oIfnonnullYes K0 13 (d6_1 hby) ?_
  refine oAloadN K0 14 (d6_13 hby) rfl rfl ?_
  exact oRetA K0 [] hret rfl rfl (d6_14 hby) (by decide) (by decide) hlk (fun x hx => by cases hx) ⟨rfl, rfl⟩
theorem d7_0 {c : Code} (h : c.code = prog_15_method_1_code) : decode c.code 0 = .ok (.aload_n 0, 1) := hb h (by decide +kernel)
theorem d7_1 {c : Code} (h : c.code = prog_15_method_1_code) : decode c.code 1 = .ok (.invokespecial 1, 3) := hb h (by decide +kernel)
theorem d7_4 {c : Code} (h : c.code = prog_15_method_1_code) : decode c.code 4 = .ok (.aload_n 0, 1) := hb h (by decide +kernel)
theorem d7_5 {c : Code} (h : c.code = prog_15_method_1_code) : decode c.code 5 = .ok (.aload_n 1, 1) := hb h (by decide +kernel)
theorem d7_6 {c : Code} (h : c.code = prog_15_method_1_code) : decode c.code 6 = .ok (.ldc 7, 2) := hb h (by decide +kernel)
theorem d7_8 {c : Code} (h : c.code = prog_15_method_1_code) : decode c.code 8 = .ok (.invokestatic 9, 3) := hb h (by decide +kernel)
theorem pd144 : parseMethodDescriptor "(Ljava/lang/Object;Ljava/lang/String;)Ljava/lang/Object;" = some ⟨[(.object "java/lang/Object"), (.object "java/lang/String")], some (.object "java/lang/Object")⟩ := by decide +kernel
theorem d7_11 {c : Code} (h : c.code = prog_15_method_1_code) : decode c.code 11 = .ok (.checkcast 15, 3) := hb h (by decide +kernel)
theorem d7_14 {c : Code} (h : c.code = prog_15_method_1_code) : decode c.code 14 = .ok (.putfield 17, 3) := hb h (by decide +kernel)
theorem d7_17 {c : Code} (h : c.code = prog_15_method_1_code) : decode c.code 17 = .ok (.aload_n 0, 1) := hb h (by decide +kernel)
theorem d7_18 {c : Code} (h : c.code = prog_15_method_1_code) : decode c.code 18 = .ok (.aload_n 2, 1) := hb h (by decide +kernel)
theorem d7_19 {c : Code} (h : c.code = prog_15_method_1_code) : decode c.code 19 = .ok (.putfield 23, 3) := hb h (by decide +kernel)
theorem d7_22 {c : Code} (h : c.code = prog_15_method_1_code) : decode c.code 22 = .ok (.aload_n 0, 1) := hb h (by decide +kernel)
theorem d7_23 {c : Code} (h : c.code = prog_15_method_1_code) : decode c.code 23 = .ok (.lload_n 3, 1) := hb h (by decide +kernel)
theorem d7_24 {c : Code} (h : c.code = prog_15_method_1_code) : decode c.code 24 = .ok (.putfield 26, 3) := hb h (by decide +kernel)
theorem d7_27 {c : Code} (h : c.code = prog_15_method_1_code) : decode c.code 27 = .ok (.aload_n 0, 1) := hb h (by decide +kernel)
theorem d7_28 {c : Code} (h : c.code = prog_15_method_1_code) : decode c.code 28 = .ok (.lload 5, 2) := hb h (by decide +kernel)
theorem d7_30 {c : Code} (h : c.code = prog_15_method_1_code) : decode c.code 30 = .ok (.putfield 30, 3) := hb h (by decide +kernel)
theorem d7_33 {c : Code} (h : c.code = prog_15_method_1_code) : decode c.code 33 = .ok (.return_, 1) := hb h (by decide +kernel)
theorem ef157 (m : MethodId) (x0 : Addr) (x1 : Addr) (x3 : Int64) (x4 : Int64) : entryFrame m #[(.ref x0), (.ref x1), .null, (.long x3), (.long x4)] 7 = mkF m 0 #[.val (.ref x0), .val (.ref x1), .val .null, .val (.long x3), .second, .val (.long x4), .second] [] := by first | (simp [entryFrame, mkF, argsToLocals, Value.category]; done) | rfl
abbrev yn158 : MethodName := ⟨"com/example/row_lease/rowlease/lease/LeaseStatus", "<init>", "(Ljava/lang/String;Ljava/lang/String;JJ)V"⟩
theorem pn159 : plainName "com/example/row_lease/rowlease/lease/LeaseStatus" = true := by first | (simp [plainName, overriddenIn]; done) | decide +kernel
theorem rmLS (l : Launch) (Z : State) (a0 : Array Value) (z0 : Int32) (em : Addr) (G : Gl Z a0 z0 em) (x : Addr) (n : Addr) (h0 : Heap) (hZh : Ext Z.heap h0) (hsf : ∀ x' ∈ ([x] : List Addr), x' < h0.size ∧ Z.heap.size ≤ x') (P0 : Exa Z h0 x "com/example/row_lease/rowlease/lease/LeaseStatus") (P1 : Exa Z h0 n "java/lang/String") (P2 : Fld Z h0 x "com/example/row_lease/rowlease/lease/LeaseStatus" "name" "Ljava/lang/String;" .null) (P3 : Fld Z h0 x "com/example/row_lease/rowlease/lease/LeaseStatus" "holder" "Ljava/lang/String;" .null) (P4 : Fld Z h0 x "com/example/row_lease/rowlease/lease/LeaseStatus" "token" "J" (.long (0 : Int64))) (P5 : Fld Z h0 x "com/example/row_lease/rowlease/lease/LeaseStatus" "millisLeft" "J" (.long (0 : Int64))) :
    Ctr l Z ELs yn158 prog_15_method_1_code 7 none [] (rmk 1 2 52 14) #[(.ref x), (.ref n), .null, (.long (0 : Int64)), (.long (0 : Int64))] [x] h0 (fun v h fs => (fs = [] ∧ v = none ∧ Exa Z h x "com/example/row_lease/rowlease/lease/LeaseStatus" ∧ Fld Z h x "com/example/row_lease/rowlease/lease/LeaseStatus" "name" "Ljava/lang/String;" (.ref n) ∧ Fld Z h x "com/example/row_lease/rowlease/lease/LeaseStatus" "holder" "Ljava/lang/String;" .null ∧ Fld Z h x "com/example/row_lease/rowlease/lease/LeaseStatus" "token" "J" (.long (0 : Int64)) ∧ Fld Z h x "com/example/row_lease/rowlease/lease/LeaseStatus" "millisLeft" "J" (.long (0 : Int64)))) := by
  obtain ⟨hw, hEL, wS, OS, hz0, OE, OX, OV⟩ := id G
  refine Ctr.intro pn159 hEL hZh hsf ?_
  intro p e s m below meth c s₁ hby hml hret hnm hlk hh K0
  refine Owe.cast (ef157 m x n ((0 : Int64)) ((0 : Int64))) ?_
  show Owe _ _ _ _ s₁ (mkF m 0 #[.val (.ref x), .val (.ref n), .val .null, .val (.long (0 : Int64)), .second, .val (.long (0 : Int64)), .second] [])
  refine oAloadN K0 1 (d7_0 hby) rfl rfl ?_
  refine oInitO K0 4 (wq hw 44 rfl) (wq hw 17 rfl) (wq hw 18 rfl) rfl (d7_1 hby) (by decide) (W := 0) nle (by decide) ?_
  intro T1 K2
  refine oAloadN K2 5 (d7_4 hby) rfl rfl ?_
  refine oAloadN K2 6 (d7_5 hby) rfl rfl ?_
  refine oLdcO K2 8 48 (wq hw 45 rfl) wS (d7_6 hby) (by decide) (by decide) (by decide) (by decide) ?_
  intro T6 h3 a4 K7 E5
  have K8 := K7.to 2 52 [x]
  refine oStatic K8 11 1 (wq hw 48 rfl) (wq hw 49 rfl) (wq hw 50 rfl) (wq hw 51 rfl) (rmReq l Z a0 z0 em G n a4 h3 K8.old K8.both ) [(.ref n), (.ref a4)] [(.ref x)] (lenOf pd144 rfl) (d7_8 hby) ?_
  intro T9 h11 v12 lo13 fs14 K10 Kp15 q16
  obtain ⟨rfl, rfl⟩ := q16
  have K17 := K10.to 2 52 [x]
  refine Owe.stk [(.ref n), (.ref x)] ?_
  refine oCast K17 14 (wq hw 52 rfl) (Ins.self ((P1.ext E5).keep Kp15)) (d7_11 hby) ?_
  intro T18 K19
  refine oPutF K19 17 (by simp) (wq hw 53 rfl) ((P2.ext E5).keep Kp15 nin0) ((P0.ext E5).keep Kp15) (Or.inr ⟨(wq hw 54 rfl), rfl, hnm⟩) (wq hw 40 rfl) (ty := (.object "java/lang/String")) (by decide) rfl rfl (d7_14 hby) ?_
  intro T23 h20 lo22 K24 W21
  have F25 : Fld Z h20 x "com/example/row_lease/rowlease/lease/LeaseStatus" "name" "Ljava/lang/String;" (.ref n) := Fld.same W21 ((P2.ext E5).keep Kp15 nin0)
  refine oAloadN K24 18 (d7_17 hby) rfl rfl ?_
  refine oAloadN K24 19 (d7_18 hby) rfl rfl ?_
  refine oPutF K24 22 (by simp) (wq hw 55 rfl) (Fld.other W21 ((P3.ext E5).keep Kp15 nin0) (Or.inr (slot_ne (Or.inr (wq hw 56 rfl)) (Or.inr (wq hw 54 rfl)) (by decide) rfl rfl))) (((P0.ext E5).keep Kp15).wr W21) (Or.inr ⟨(wq hw 56 rfl), rfl, hnm⟩) (wq hw 40 rfl) (ty := (.object "java/lang/String")) (by decide) rfl rfl (d7_19 hby) ?_
  intro T29 h26 lo28 K30 W27
  have F31 : Fld Z h26 x "com/example/row_lease/rowlease/lease/LeaseStatus" "holder" "Ljava/lang/String;" .null := Fld.same W27 (Fld.other W21 ((P3.ext E5).keep Kp15 nin0) (Or.inr (slot_ne (Or.inr (wq hw 56 rfl)) (Or.inr (wq hw 54 rfl)) (by decide) rfl rfl)))
  refine oAloadN K30 23 (d7_22 hby) rfl rfl ?_
  refine oLloadN K30 24 (d7_23 hby) rfl ?_
  refine oPutF K30 27 (by simp) (wq hw 57 rfl) (Fld.other W27 (Fld.other W21 ((P4.ext E5).keep Kp15 nin0) (Or.inr (slot_ne (Or.inr (wq hw 58 rfl)) (Or.inr (wq hw 54 rfl)) (by decide) rfl rfl))) (Or.inr (slot_ne (Or.inr (wq hw 58 rfl)) (Or.inr (wq hw 56 rfl)) (by decide) rfl rfl))) ((((P0.ext E5).keep Kp15).wr W21).wr W27) (Or.inr ⟨(wq hw 58 rfl), rfl, hnm⟩) (wq hw 40 rfl) (ty := .long) (by decide) rfl rfl (d7_24 hby) ?_
  intro T35 h32 lo34 K36 W33
  have F37 : Fld Z h32 x "com/example/row_lease/rowlease/lease/LeaseStatus" "token" "J" (.long (0 : Int64)) := Fld.same W33 (Fld.other W27 (Fld.other W21 ((P4.ext E5).keep Kp15 nin0) (Or.inr (slot_ne (Or.inr (wq hw 58 rfl)) (Or.inr (wq hw 54 rfl)) (by decide) rfl rfl))) (Or.inr (slot_ne (Or.inr (wq hw 58 rfl)) (Or.inr (wq hw 56 rfl)) (by decide) rfl rfl)))
  refine oAloadN K36 28 (d7_27 hby) rfl rfl ?_
  refine oLload K36 30 (d7_28 hby) rfl ?_
  refine oPutF K36 33 (by simp) (wq hw 59 rfl) (Fld.other W33 (Fld.other W27 (Fld.other W21 ((P5.ext E5).keep Kp15 nin0) (Or.inr (slot_ne (Or.inr (wq hw 60 rfl)) (Or.inr (wq hw 54 rfl)) (by decide) rfl rfl))) (Or.inr (slot_ne (Or.inr (wq hw 60 rfl)) (Or.inr (wq hw 56 rfl)) (by decide) rfl rfl))) (Or.inr (slot_ne (Or.inr (wq hw 60 rfl)) (Or.inr (wq hw 58 rfl)) (by decide) rfl rfl))) (((((P0.ext E5).keep Kp15).wr W21).wr W27).wr W33) (Or.inr ⟨(wq hw 60 rfl), rfl, hnm⟩) (wq hw 40 rfl) (ty := .long) (by decide) rfl rfl (d7_30 hby) ?_
  intro T41 h38 lo40 K42 W39
  have F43 : Fld Z h38 x "com/example/row_lease/rowlease/lease/LeaseStatus" "millisLeft" "J" (.long (0 : Int64)) := Fld.same W39 (Fld.other W33 (Fld.other W27 (Fld.other W21 ((P5.ext E5).keep Kp15 nin0) (Or.inr (slot_ne (Or.inr (wq hw 60 rfl)) (Or.inr (wq hw 54 rfl)) (by decide) rfl rfl))) (Or.inr (slot_ne (Or.inr (wq hw 60 rfl)) (Or.inr (wq hw 56 rfl)) (by decide) rfl rfl))) (Or.inr (slot_ne (Or.inr (wq hw 60 rfl)) (Or.inr (wq hw 58 rfl)) (by decide) rfl rfl)))
  exact oRetV K42 [] hret (d7_33 hby) (by decide) (by decide) hlk (fun x hx => by cases hx) ⟨rfl, rfl, ((((((P0.ext E5).keep Kp15).wr W21).wr W27).wr W33).wr W39), (Fld.other W39 (Fld.other W33 (Fld.other W27 F25 (Or.inr (slot_ne (Or.inr (wq hw 54 rfl)) (Or.inr (wq hw 56 rfl)) (by decide) rfl rfl))) (Or.inr (slot_ne (Or.inr (wq hw 54 rfl)) (Or.inr (wq hw 58 rfl)) (by decide) rfl rfl))) (Or.inr (slot_ne (Or.inr (wq hw 54 rfl)) (Or.inr (wq hw 60 rfl)) (by decide) rfl rfl))), (Fld.other W39 (Fld.other W33 F31 (Or.inr (slot_ne (Or.inr (wq hw 56 rfl)) (Or.inr (wq hw 58 rfl)) (by decide) rfl rfl))) (Or.inr (slot_ne (Or.inr (wq hw 56 rfl)) (Or.inr (wq hw 60 rfl)) (by decide) rfl rfl))), (Fld.other W39 F37 (Or.inr (slot_ne (Or.inr (wq hw 58 rfl)) (Or.inr (wq hw 60 rfl)) (by decide) rfl rfl))), F43⟩
theorem d8_0 {c : Code} (h : c.code = prog_15_method_2_code) : decode c.code 0 = .ok (.new 18, 3) := hb h (by decide +kernel)
theorem d8_3 {c : Code} (h : c.code = prog_15_method_2_code) : decode c.code 3 = .ok (.dup, 1) := hb h (by decide +kernel)
theorem d8_4 {c : Code} (h : c.code = prog_15_method_2_code) : decode c.code 4 = .ok (.aload_n 0, 1) := hb h (by decide +kernel)
theorem d8_5 {c : Code} (h : c.code = prog_15_method_2_code) : decode c.code 5 = .ok (.aconst_null, 1) := hb h (by decide +kernel)
theorem d8_6 {c : Code} (h : c.code = prog_15_method_2_code) : decode c.code 6 = .ok (.lconst 0, 1) := hb h (by decide +kernel)
theorem d8_7 {c : Code} (h : c.code = prog_15_method_2_code) : decode c.code 7 = .ok (.lconst 0, 1) := hb h (by decide +kernel)
theorem d8_8 {c : Code} (h : c.code = prog_15_method_2_code) : decode c.code 8 = .ok (.invokespecial 33, 3) := hb h (by decide +kernel)
theorem pd167 : parseMethodDescriptor "(Ljava/lang/String;Ljava/lang/String;JJ)V" = some ⟨[(.object "java/lang/String"), (.object "java/lang/String"), .long, .long], none⟩ := by decide +kernel
theorem d8_11 {c : Code} (h : c.code = prog_15_method_2_code) : decode c.code 11 = .ok (.areturn, 1) := hb h (by decide +kernel)
abbrev yn169 : MethodName := ⟨"com/example/row_lease/rowlease/lease/LeaseStatus", "neverTaken", "(Ljava/lang/String;)Lcom/example/row_lease/rowlease/lease/LeaseStatus;"⟩
theorem rmNever (l : Launch) (Z : State) (a0 : Array Value) (z0 : Int32) (em : Addr) (G : Gl Z a0 z0 em) (n : Addr) (h0 : Heap) (hZh : Ext Z.heap h0) (hsf : ∀ x' ∈ ([] : List Addr), x' < h0.size ∧ Z.heap.size ≤ x') (P0 : Exa Z h0 n "java/lang/String") :
    Ctr l Z ELs yn169 prog_15_method_2_code 1 (some (.object "com/example/row_lease/rowlease/lease/LeaseStatus")) [] (rmk 2 3 56 33) #[(.ref n)] [] h0 (fun v h fs => (∃ x : Addr, fs = [] ∧ v = some (.ref x) ∧ Exa Z h x "com/example/row_lease/rowlease/lease/LeaseStatus" ∧ Fld Z h x "com/example/row_lease/rowlease/lease/LeaseStatus" "name" "Ljava/lang/String;" (.ref n) ∧ Fld Z h x "com/example/row_lease/rowlease/lease/LeaseStatus" "holder" "Ljava/lang/String;" .null ∧ Fld Z h x "com/example/row_lease/rowlease/lease/LeaseStatus" "token" "J" (.long (0 : Int64)) ∧ Fld Z h x "com/example/row_lease/rowlease/lease/LeaseStatus" "millisLeft" "J" (.long (0 : Int64)))) := by
  obtain ⟨hw, hEL, wS, OS, hz0, OE, OX, OV⟩ := id G
  refine Ctr.intro pn159 hEL hZh hsf ?_
  intro p e s m below meth c s₁ hby hml hret hnm hlk hh K0
  refine Owe.cast (ef114 m n) ?_
  show Owe _ _ _ _ s₁ (mkF m 0 #[.val (.ref n)] [])
  refine oNew K0 3 (wq hw 39 rfl) (wq hw 40 rfl) (wq hw 37 rfl) (d8_0 hby) (by decide) (by decide) ?_
  intro T7 h1 a2 g3 K8 E4 X5 D6
  have F9 : Fld Z h1 a2 "com/example/row_lease/rowlease/lease/LeaseStatus" "name" "Ljava/lang/String;" .null := D6 (Or.inr (wq hw 54 rfl)) (ty := (.object "java/lang/String")) (by decide)
  have F10 : Fld Z h1 a2 "com/example/row_lease/rowlease/lease/LeaseStatus" "holder" "Ljava/lang/String;" .null := D6 (Or.inr (wq hw 56 rfl)) (ty := (.object "java/lang/String")) (by decide)
  have F11 : Fld Z h1 a2 "com/example/row_lease/rowlease/lease/LeaseStatus" "token" "J" (.long (0 : Int64)) := D6 (Or.inr (wq hw 58 rfl)) (ty := .long) (by decide)
  have F12 : Fld Z h1 a2 "com/example/row_lease/rowlease/lease/LeaseStatus" "millisLeft" "J" (.long (0 : Int64)) := D6 (Or.inr (wq hw 60 rfl)) (ty := .long) (by decide)
  have K13 := K8.to 1 4 [a2]
  refine oDup K13 4 (d8_3 hby) rfl ?_
  refine oAloadN K13 5 (d8_4 hby) rfl rfl ?_
  refine oAconstNull K13 6 (d8_5 hby) ?_
  refine oLconstV K13 7 (0 : Int64) (d8_6 hby) rfl ?_
  refine oLconstV K13 8 (0 : Int64) (d8_7 hby) rfl ?_
  refine oSpecial K13 11 1 (wq hw 41 rfl) (wq hw 42 rfl) (wq hw 37 rfl) (wq hw 43 rfl) (rmLS l Z a0 z0 em G a2 n h1 K13.old K13.both X5 (P0.ext E4) F9 F10 F11 F12) [(.ref n), .null, (.long (0 : Int64)), (.long (0 : Int64))] [(.ref a2)] (lenOf pd167 rfl) (d8_8 hby) ?_
  intro T14 h16 v17 lo18 fs19 K15 Kp20 q21
  obtain ⟨rfl, rfl, f22, f23, f24, f25, f26⟩ := q21
  have K27 := K15.to 3 56 [a2]
  refine Owe.stk [(.ref a2)] ?_
  exact oRetA K27 [] hret rfl rfl (d8_11 hby) (by decide) (by decide) hlk (fun x hx => by cases hx) ⟨a2, rfl, rfl, f22, f23, f24, f25, f26⟩
theorem d9_0 {c : Code} (h : c.code = prog_15_method_3_code) : decode c.code 0 = .ok (.aload_n 0, 1) := hb h (by decide +kernel)
theorem d9_1 {c : Code} (h : c.code = prog_15_method_3_code) : decode c.code 1 = .ok (.getfield 17, 3) := hb h (by decide +kernel)
theorem d9_4 {c : Code} (h : c.code = prog_15_method_3_code) : decode c.code 4 = .ok (.areturn, 1) := hb h (by decide +kernel)
abbrev yn173 : MethodName := ⟨"com/example/row_lease/rowlease/lease/LeaseStatus", "name", "()Ljava/lang/String;"⟩
theorem rmName (l : Launch) (Z : State) (a0 : Array Value) (z0 : Int32) (em : Addr) (G : Gl Z a0 z0 em) (x : Addr) (vv : Addr) (h0 : Heap) (hZh : Ext Z.heap h0) (hsf : ∀ x' ∈ ([] : List Addr), x' < h0.size ∧ Z.heap.size ≤ x') (P0 : Fld Z h0 x "com/example/row_lease/rowlease/lease/LeaseStatus" "name" "Ljava/lang/String;" (.ref vv)) :
    Ctr l Z ELs yn173 prog_15_method_3_code 1 (some (.object "java/lang/String")) [] (rmk 0 0 0 0) #[(.ref x)] [] h0 (fun v h fs => (fs = [] ∧ v = some (.ref vv))) := by
  obtain ⟨hw, hEL, wS, OS, hz0, OE, OX, OV⟩ := id G
  refine Ctr.intro pn159 hEL hZh hsf ?_
  intro p e s m below meth c s₁ hby hml hret hnm hlk hh K0
  refine Owe.cast (ef114 m x) ?_
  show Owe _ _ _ _ s₁ (mkF m 0 #[.val (.ref x)] [])
  refine oAloadN K0 1 (d9_0 hby) rfl rfl ?_
  refine oGetF K0 4 (wq hw 53 rfl) P0 (d9_1 hby) ?_
  intro T1 K2
  exact oRetA K2 [] hret rfl rfl (d9_4 hby) (by decide) (by decide) hlk (fun x hx => by cases hx) ⟨rfl, rfl⟩
theorem d10_0 {c : Code} (h : c.code = prog_15_method_5_code) : decode c.code 0 = .ok (.aload_n 0, 1) := hb h (by decide +kernel)
theorem d10_1 {c : Code} (h : c.code = prog_15_method_5_code) : decode c.code 1 = .ok (.getfield 26, 3) := hb h (by decide +kernel)
theorem d10_4 {c : Code} (h : c.code = prog_15_method_5_code) : decode c.code 4 = .ok (.lreturn, 1) := hb h (by decide +kernel)
abbrev yn177 : MethodName := ⟨"com/example/row_lease/rowlease/lease/LeaseStatus", "token", "()J"⟩
theorem rmToken (l : Launch) (Z : State) (a0 : Array Value) (z0 : Int32) (em : Addr) (G : Gl Z a0 z0 em) (x : Addr) (vv : Int64) (h0 : Heap) (hZh : Ext Z.heap h0) (hsf : ∀ x' ∈ ([] : List Addr), x' < h0.size ∧ Z.heap.size ≤ x') (P0 : Fld Z h0 x "com/example/row_lease/rowlease/lease/LeaseStatus" "token" "J" (.long vv)) :
    Ctr l Z ELs yn177 prog_15_method_5_code 1 (some .long) [] (rmk 0 0 0 0) #[(.ref x)] [] h0 (fun v h fs => (fs = [] ∧ v = some (.long vv))) := by
  obtain ⟨hw, hEL, wS, OS, hz0, OE, OX, OV⟩ := id G
  refine Ctr.intro pn159 hEL hZh hsf ?_
  intro p e s m below meth c s₁ hby hml hret hnm hlk hh K0
  refine Owe.cast (ef114 m x) ?_
  show Owe _ _ _ _ s₁ (mkF m 0 #[.val (.ref x)] [])
  refine oAloadN K0 1 (d10_0 hby) rfl rfl ?_
  refine oGetF K0 4 (wq hw 57 rfl) P0 (d10_1 hby) ?_
  intro T1 K2
  exact oRetJ K2 [] hret (d10_4 hby) (by decide) (by decide) hlk (fun x hx => by cases hx) ⟨rfl, rfl⟩
theorem d11_0 {c : Code} (h : c.code = prog_15_method_6_code) : decode c.code 0 = .ok (.aload_n 0, 1) := hb h (by decide +kernel)
theorem d11_1 {c : Code} (h : c.code = prog_15_method_6_code) : decode c.code 1 = .ok (.getfield 30, 3) := hb h (by decide +kernel)
theorem d11_4 {c : Code} (h : c.code = prog_15_method_6_code) : decode c.code 4 = .ok (.lreturn, 1) := hb h (by decide +kernel)
abbrev yn181 : MethodName := ⟨"com/example/row_lease/rowlease/lease/LeaseStatus", "millisLeft", "()J"⟩
theorem rmMillis (l : Launch) (Z : State) (a0 : Array Value) (z0 : Int32) (em : Addr) (G : Gl Z a0 z0 em) (x : Addr) (vv : Int64) (h0 : Heap) (hZh : Ext Z.heap h0) (hsf : ∀ x' ∈ ([] : List Addr), x' < h0.size ∧ Z.heap.size ≤ x') (P0 : Fld Z h0 x "com/example/row_lease/rowlease/lease/LeaseStatus" "millisLeft" "J" (.long vv)) :
    Ctr l Z ELs yn181 prog_15_method_6_code 1 (some .long) [] (rmk 0 0 0 0) #[(.ref x)] [] h0 (fun v h fs => (fs = [] ∧ v = some (.long vv))) := by
  obtain ⟨hw, hEL, wS, OS, hz0, OE, OX, OV⟩ := id G
  refine Ctr.intro pn159 hEL hZh hsf ?_
  intro p e s m below meth c s₁ hby hml hret hnm hlk hh K0
  refine Owe.cast (ef114 m x) ?_
  show Owe _ _ _ _ s₁ (mkF m 0 #[.val (.ref x)] [])
  refine oAloadN K0 1 (d11_0 hby) rfl rfl ?_
  refine oGetF K0 4 (wq hw 59 rfl) P0 (d11_1 hby) ?_
  intro T1 K2
  exact oRetJ K2 [] hret (d11_4 hby) (by decide) (by decide) hlk (fun x hx => by cases hx) ⟨rfl, rfl⟩
theorem d12_0 {c : Code} (h : c.code = jdk_32_method_4_code) : decode c.code 0 = .ok (.aload_n 0, 1) := hb h (by decide +kernel)
theorem d12_1 {c : Code} (h : c.code = jdk_32_method_4_code) : decode c.code 1 = .ok (.ifnonnull 9, 3) := hb h (by decide +kernel)
theorem d12_4 {c : Code} (h : c.code = jdk_32_method_4_code) : decode c.code 4 = .ok (.getstatic 1, 3) := hb h (by decide +kernel)
theorem d12_7 {c : Code} (h : c.code = jdk_32_method_4_code) : decode c.code 7 = .ok (.goto 11, 3) := hb h (by decide +kernel)
theorem d12_18 {c : Code} (h : c.code = jdk_32_method_4_code) : decode c.code 18 = .ok (.areturn, 1) := hb h (by decide +kernel)
theorem ef187 (m : MethodId) : entryFrame m #[.null] 1 = mkF m 0 #[.val .null] [] := by first | (simp [entryFrame, mkF, argsToLocals, Value.category]; done) | rfl
abbrev yn188 : MethodName := ⟨"java/util/Optional", "ofNullable", "(Ljava/lang/Object;)Ljava/util/Optional;"⟩
theorem pn189 : plainName "java/util/Optional" = true := by first | (simp [plainName, overriddenIn]; done) | decide +kernel
theorem rmOfN (l : Launch) (Z : State) (a0 : Array Value) (z0 : Int32) (em : Addr) (G : Gl Z a0 z0 em) (h0 : Heap) (hZh : Ext Z.heap h0) (hsf : ∀ x' ∈ ([] : List Addr), x' < h0.size ∧ Z.heap.size ≤ x') :
    Ctr l Z ELs yn188 jdk_32_method_4_code 1 (some (.object "java/util/Optional")) [] (rmk 0 0 0 0) #[.null] [] h0 (fun v h fs => (fs = [] ∧ v = some (.ref em))) := by
  obtain ⟨hw, hEL, wS, OS, hz0, OE, OX, OV⟩ := id G
  refine Ctr.intro pn189 hEL hZh hsf ?_
  intro p e s m below meth c s₁ hby hml hret hnm hlk hh K0
  refine Owe.cast (ef187 m ) ?_
  show Owe _ _ _ _ s₁ (mkF m 0 #[.val .null] [])
  refine oAloadN K0 1 (d12_0 hby) rfl rfl ?_
  refine oIfnonnullNo K0 4 (d12_1 hby) ?_
  refine oGetS K0 7 (wq hw 90 rfl) (OE.ext K0.old) (d12_4 hby) ?_
  intro T1 K2
  refine oGoto K2 18 (d12_7 hby) ?_
  exact oRetA K2 [] hret rfl rfl (d12_18 hby) (by decide) (by decide) hlk (fun x hx => by cases hx) ⟨rfl, rfl⟩
theorem d13_0 {c : Code} (h : c.code = prog_15_method_4_code) : decode c.code 0 = .ok (.aload_n 0, 1) := hb h (by decide +kernel)
theorem d13_1 {c : Code} (h : c.code = prog_15_method_4_code) : decode c.code 1 = .ok (.getfield 23, 3) := hb h (by decide +kernel)
theorem d13_4 {c : Code} (h : c.code = prog_15_method_4_code) : decode c.code 4 = .ok (.invokestatic 36, 3) := hb h (by decide +kernel)
theorem pd193 : parseMethodDescriptor "(Ljava/lang/Object;)Ljava/util/Optional;" = some ⟨[(.object "java/lang/Object")], some (.object "java/util/Optional")⟩ := by decide +kernel
theorem d13_7 {c : Code} (h : c.code = prog_15_method_4_code) : decode c.code 7 = .ok (.areturn, 1) := hb h (by decide +kernel)
abbrev yn195 : MethodName := ⟨"com/example/row_lease/rowlease/lease/LeaseStatus", "holder", "()Ljava/util/Optional;"⟩
theorem rmHolder (l : Launch) (Z : State) (a0 : Array Value) (z0 : Int32) (em : Addr) (G : Gl Z a0 z0 em) (x : Addr) (h0 : Heap) (hZh : Ext Z.heap h0) (hsf : ∀ x' ∈ ([] : List Addr), x' < h0.size ∧ Z.heap.size ≤ x') (P0 : Fld Z h0 x "com/example/row_lease/rowlease/lease/LeaseStatus" "holder" "Ljava/lang/String;" .null) :
    Ctr l Z ELs yn195 prog_15_method_4_code 1 (some (.object "java/util/Optional")) [] (rmk 1 0 0 12) #[(.ref x)] [] h0 (fun v h fs => (fs = [] ∧ v = some (.ref em))) := by
  obtain ⟨hw, hEL, wS, OS, hz0, OE, OX, OV⟩ := id G
  refine Ctr.intro pn159 hEL hZh hsf ?_
  intro p e s m below meth c s₁ hby hml hret hnm hlk hh K0
  refine Owe.cast (ef114 m x) ?_
  show Owe _ _ _ _ s₁ (mkF m 0 #[.val (.ref x)] [])
  refine oAloadN K0 1 (d13_0 hby) rfl rfl ?_
  refine oGetF K0 4 (wq hw 55 rfl) P0 (d13_1 hby) ?_
  intro T1 K2
  refine oStatic K2 7 0 (wq hw 86 rfl) (wq hw 87 rfl) (wq hw 88 rfl) (wq hw 89 rfl) (rmOfN l Z a0 z0 em G  h0 K2.old K2.both ) [.null] [] (lenOf pd193 rfl) (d13_4 hby) ?_
  intro T3 h5 v6 lo7 fs8 K4 Kp9 q10
  obtain ⟨rfl, rfl⟩ := q10
  have K11 := K4.to 0 0 []
  refine Owe.stk [(.ref em)] ?_
  exact oRetA K11 [] hret rfl rfl (d13_7 hby) (by decide) (by decide) hlk (fun x hx => by cases hx) ⟨rfl, rfl⟩
theorem d14_0 {c : Code} (h : c.code = jdk_32_method_6_code) : decode c.code 0 = .ok (.aload_n 0, 1) := hb h (by decide +kernel)
theorem d14_1 {c : Code} (h : c.code = jdk_32_method_6_code) : decode c.code 1 = .ok (.getfield 13, 3) := hb h (by decide +kernel)
theorem d14_4 {c : Code} (h : c.code = jdk_32_method_6_code) : decode c.code 4 = .ok (.ifnull 7, 3) := hb h (by decide +kernel)
theorem d14_11 {c : Code} (h : c.code = jdk_32_method_6_code) : decode c.code 11 = .ok (.iconst 0, 1) := hb h (by decide +kernel)
theorem d14_12 {c : Code} (h : c.code = jdk_32_method_6_code) : decode c.code 12 = .ok (.ireturn, 1) := hb h (by decide +kernel)
abbrev yn201 : MethodName := ⟨"java/util/Optional", "isPresent", "()Z"⟩
theorem rmPres (l : Launch) (Z : State) (a0 : Array Value) (z0 : Int32) (em : Addr) (G : Gl Z a0 z0 em) (h0 : Heap) (hZh : Ext Z.heap h0) (hsf : ∀ x' ∈ ([] : List Addr), x' < h0.size ∧ Z.heap.size ≤ x') :
    Ctr l Z ELs yn201 jdk_32_method_6_code 1 (some .boolean) [] (rmk 0 0 0 0) #[(.ref em)] [] h0 (fun v h fs => (fs = [] ∧ v = some (.int (0 : Int32)))) := by
  obtain ⟨hw, hEL, wS, OS, hz0, OE, OX, OV⟩ := id G
  refine Ctr.intro pn189 hEL hZh hsf ?_
  intro p e s m below meth c s₁ hby hml hret hnm hlk hh K0
  refine Owe.cast (ef114 m em) ?_
  show Owe _ _ _ _ s₁ (mkF m 0 #[.val (.ref em)] [])
  refine oAloadN K0 1 (d14_0 hby) rfl rfl ?_
  refine oGetF K0 4 (wq hw 96 rfl) (OV.ext K0.old) (d14_1 hby) ?_
  intro T1 K2
  refine oIfnullYes K2 11 (d14_4 hby) ?_
  refine oIconstV K2 12 (0 : Int32) (d14_11 hby) rfl ?_
  exact oRetI K2 [] (t := .boolean) hret (by simp) (by decide) (d14_12 hby) (by decide) (by decide) hlk (fun x hx => by cases hx) ⟨rfl, rfl⟩
theorem pd202 : parseMethodDescriptor "(IIII)Ljava/lang/String;" = some ⟨[.int, .int, .int, .int], some (.object "java/lang/String")⟩ := by decide +kernel
theorem pd203 : parseMethodDescriptor "(Ljava/lang/String;)Lcom/example/row_lease/rowlease/lease/LeaseStatus;" = some ⟨[(.object "java/lang/String")], some (.object "com/example/row_lease/rowlease/lease/LeaseStatus")⟩ := by decide +kernel
theorem pd204 : parseMethodDescriptor "()Ljava/lang/String;" = some ⟨[], some (.object "java/lang/String")⟩ := by decide +kernel
theorem pd205 : parseMethodDescriptor "(Ljava/lang/Object;)Z" = some ⟨[(.object "java/lang/Object")], some .boolean⟩ := by decide +kernel
theorem pd206 : parseMethodDescriptor "()I" = some ⟨[], some .int⟩ := by decide +kernel
theorem pd207 : parseMethodDescriptor "()Ljava/util/Optional;" = some ⟨[], some (.object "java/util/Optional")⟩ := by decide +kernel
theorem pd208 : parseMethodDescriptor "()Z" = some ⟨[], some .boolean⟩ := by decide +kernel
theorem pd209 : parseMethodDescriptor "()J" = some ⟨[], some .long⟩ := by decide +kernel
theorem ef210 (m : MethodId) (x0 : Int32) (x1 : Int32) (x2 : Int32) (x3 : Int32) : entryFrame m #[(.int x0), (.int x1), (.int x2), (.int x3)] maxLocals = mkF m 0 #[.val (.int x0), .val (.int x1), .val (.int x2), .val (.int x3), .unset, .unset, .unset, .unset, .unset, .unset] [] := by first | (simp [entryFrame, mkF, argsToLocals, Value.category, maxLocals]; done) | rfl
theorem rmLaw (l : Launch) (Z : State) (a0 : Array Value) (z0 : Int32) (em : Addr) (G : Gl Z a0 z0 em) (p0 : Int32) (p1 : Int32) (p2 : Int32) (p3 : Int32) (h0 : Heap) (hZh : Ext Z.heap h0) (hsf : ∀ x' ∈ ([] : List Addr), x' < h0.size ∧ Z.heap.size ≤ x') :
    Ctr l Z ELs x code maxLocals ret tables_1 room_1 #[(.int p0), (.int p1), (.int p2), (.int p3)] [] h0 (fun v h fs => (fs = [] ∧ v = some (.int (1 : Int32)))) := by
  obtain ⟨hw, hEL, wS, OS, hz0, OE, OX, OV⟩ := id G
  refine Ctr.intro pn107 hEL hZh hsf ?_
  intro p e s m below meth c s₁ hby hml hret hnm hlk hh K0
  refine Owe.cast (ef210 m p0 p1 p2 p3) ?_
  show Owe _ _ _ _ s₁ (mkF m 0 #[.val (.int p0), .val (.int p1), .val (.int p2), .val (.int p3), .unset, .unset, .unset, .unset, .unset, .unset] [])
  refine oIloadN K0 1 (hb hby at_0) rfl ?_
  refine oIloadN K0 2 (hb hby at_1) rfl ?_
  refine oIloadN K0 3 (hb hby at_2) rfl ?_
  refine oIloadN K0 4 (hb hby at_3) rfl ?_
  refine oStatic K0 7 0 (wq hw 0 rfl) (wq hw 1 rfl) (wq hw 2 rfl) (wq hw 3 rfl) (rmDraw l Z a0 z0 em G p0 p1 p2 p3 h0 K0.old K0.both ) [(.int p0), (.int p1), (.int p2), (.int p3)] [] (lenOf pd202 rfl) (hb hby at_4) ?_
  intro T1 h3 v4 lo5 fs6 K2 Kp7 q8
  obtain ⟨x9, t10, vs11, rfl, rfl, f12, f13, f14, f15⟩ := q8
  have K16 := K2.to 6 12 []
  refine Owe.stk [(.ref x9)] ?_
  refine oAstore K16 9 (hb hby at_7) rfl (l' := #[.val (.int p0), .val (.int p1), .val (.int p2), .val (.int p3), .val (.ref x9), .unset, .unset, .unset, .unset, .unset]) rfl ?_
  refine oAload K16 11 (hb hby at_9) rfl rfl ?_
  refine oStatic K16 14 0 (wq hw 35 rfl) (wq hw 36 rfl) (wq hw 37 rfl) (wq hw 38 rfl) (rmNever l Z a0 z0 em G x9 h3 K16.old K16.both f12) [(.ref x9)] [] (lenOf pd203 rfl) (hb hby at_11) ?_
  intro T17 h19 v20 lo21 fs22 K18 Kp23 q24
  obtain ⟨x25, rfl, rfl, f26, f27, f28, f29, f30⟩ := q24
  have K31 := K18.to 9 68 []
  refine Owe.stk [(.ref x25)] ?_
  refine oAstore K31 16 (hb hby at_14) rfl (l' := #[.val (.int p0), .val (.int p1), .val (.int p2), .val (.int p3), .val (.ref x9), .val (.ref x25), .unset, .unset, .unset, .unset]) rfl ?_
  refine oAload K31 18 (hb hby at_16) rfl rfl ?_
  refine oVirtual K31 21 0 (wq hw 61 rfl) (wq hw 62 rfl) (nfSel (wq hw 64 rfl)) (wq hw 64 rfl) (wq hw 63 rfl) (wq hw 37 rfl) (wq hw 65 rfl) f26 (rmName l Z a0 z0 em G x25 x9 h19 K31.old K31.both f27) [] [] (lenOf pd204 rfl) (hb hby at_18) ?_
  intro T32 h34 v35 lo36 fs37 K33 Kp38 q39
  obtain ⟨rfl, rfl⟩ := q39
  have K40 := K33.to 9 68 []
  refine Owe.stk [(.ref x9)] ?_
  refine oAload K40 23 (hb hby at_21) rfl rfl ?_
  refine oVirtual K40 26 0 (wq hw 66 rfl) (wq hw 67 rfl) (nfSel (wq hw 69 rfl)) (wq hw 69 rfl) (wq hw 68 rfl) (wq hw 7 rfl) (wq hw 70 rfl) ((f12.keep Kp23).keep Kp38) (rmEqSame l Z a0 z0 em G x9 h34 K40.old K40.both ) [(.ref x9)] [] (lenOf pd205 rfl) (hb hby at_23) ?_
  intro T41 h43 v44 lo45 fs46 K42 Kp47 q48
  obtain ⟨rfl, rfl⟩ := q48
  have K49 := K42.to 9 68 []
  refine Owe.stk [(.int (1 : Int32))] ?_
  refine oIfNo K49 29 (hb hby at_26) (XT.i0_eq_f (by decide)) ?_
  refine oAload K49 31 (hb hby at_29) rfl rfl ?_
  refine oVirtual K49 34 0 (wq hw 61 rfl) (wq hw 62 rfl) (nfSel (wq hw 64 rfl)) (wq hw 64 rfl) (wq hw 63 rfl) (wq hw 37 rfl) (wq hw 65 rfl) ((f26.keep Kp38).keep Kp47) (rmName l Z a0 z0 em G x25 x9 h43 K49.old K49.both ((f27.keep Kp38 nin0).keep Kp47 nin0)) [] [] (lenOf pd204 rfl) (hb hby at_31) ?_
  intro T50 h52 v53 lo54 fs55 K51 Kp56 q57
  obtain ⟨rfl, rfl⟩ := q57
  have K58 := K51.to 9 68 []
  refine Owe.stk [(.ref x9)] ?_
  refine oVirtual K58 37 0 (wq hw 71 rfl) (wq hw 72 rfl) (nfSel (wq hw 74 rfl)) (wq hw 74 rfl) (wq hw 73 rfl) (wq hw 7 rfl) (wq hw 75 rfl) ((((f12.keep Kp23).keep Kp38).keep Kp47).keep Kp56) (rmLength l Z a0 z0 em G x9 t10 vs11 h52 K58.old K58.both ((((f12.keep Kp23).keep Kp38).keep Kp47).keep Kp56) ((((f13.keep Kp23 nin0).keep Kp38 nin0).keep Kp47 nin0).keep Kp56 nin0) ((((f14.keep Kp23 nin0).keep Kp38 nin0).keep Kp47 nin0).keep Kp56 nin0) ((((f15.keep Kp23 nin0).keep Kp38 nin0).keep Kp47 nin0).keep Kp56 nin0)) [] [] (lenOf pd206 rfl) (hb hby at_34) ?_
  intro T59 h61 v62 lo63 fs64 K60 Kp65 q66
  obtain ⟨rfl, rfl⟩ := q66
  have K67 := K60.to 9 68 []
  refine Owe.stk [(.int ((Int32.ofNat (vs11).length) >>> ((0 : Int32) &&& 31)))] ?_
  refine oAload K67 39 (hb hby at_37) rfl rfl ?_
  refine oVirtual K67 42 1 (wq hw 71 rfl) (wq hw 72 rfl) (nfSel (wq hw 74 rfl)) (wq hw 74 rfl) (wq hw 73 rfl) (wq hw 7 rfl) (wq hw 75 rfl) (((((f12.keep Kp23).keep Kp38).keep Kp47).keep Kp56).keep Kp65) (rmLength l Z a0 z0 em G x9 t10 vs11 h61 K67.old K67.both (((((f12.keep Kp23).keep Kp38).keep Kp47).keep Kp56).keep Kp65) (((((f13.keep Kp23 nin0).keep Kp38 nin0).keep Kp47 nin0).keep Kp56 nin0).keep Kp65 nin0) (((((f14.keep Kp23 nin0).keep Kp38 nin0).keep Kp47 nin0).keep Kp56 nin0).keep Kp65 nin0) (((((f15.keep Kp23 nin0).keep Kp38 nin0).keep Kp47 nin0).keep Kp56 nin0).keep Kp65 nin0)) [] [(.int ((Int32.ofNat (vs11).length) >>> ((0 : Int32) &&& 31)))] (lenOf pd206 rfl) (hb hby at_39) ?_
  intro T68 h70 v71 lo72 fs73 K69 Kp74 q75
  obtain ⟨rfl, rfl⟩ := q75
  have K76 := K69.to 9 68 []
  refine Owe.stk [(.int ((Int32.ofNat (vs11).length) >>> ((0 : Int32) &&& 31))), (.int ((Int32.ofNat (vs11).length) >>> ((0 : Int32) &&& 31)))] ?_
  refine oIcmpNo K76 45 (hb hby at_42) (XT.ii_ne_f rfl) ?_
  refine oIconstV K76 46 (1 : Int32) (hb hby at_45) rfl ?_
  refine oGoto K76 50 (hb hby at_46) ?_
  refine oIstore K76 52 (hb hby at_50) (l' := #[.val (.int p0), .val (.int p1), .val (.int p2), .val (.int p3), .val (.ref x9), .val (.ref x25), .val (.int (1 : Int32)), .unset, .unset, .unset]) rfl ?_
  refine oAload K76 54 (hb hby at_52) rfl rfl ?_
  refine oVirtual K76 57 0 (wq hw 81 rfl) (wq hw 82 rfl) (nfSel (wq hw 84 rfl)) (wq hw 84 rfl) (wq hw 83 rfl) (wq hw 37 rfl) (wq hw 85 rfl) (((((f26.keep Kp38).keep Kp47).keep Kp56).keep Kp65).keep Kp74) (rmHolder l Z a0 z0 em G x25 h70 K76.old K76.both (((((f28.keep Kp38 nin0).keep Kp47 nin0).keep Kp56 nin0).keep Kp65 nin0).keep Kp74 nin0)) [] [] (lenOf pd207 rfl) (hb hby at_54) ?_
  intro T77 h79 v80 lo81 fs82 K78 Kp83 q84
  obtain ⟨rfl, rfl⟩ := q84
  have K85 := K78.to 9 68 []
  refine Owe.stk [(.ref em)] ?_
  refine oVirtual K85 60 0 (wq hw 91 rfl) (wq hw 92 rfl) (nfSel (wq hw 94 rfl)) (wq hw 94 rfl) (wq hw 93 rfl) (wq hw 88 rfl) (wq hw 95 rfl) (OX.ext K85.old) (rmPres l Z a0 z0 em G  h79 K85.old K85.both ) [] [] (lenOf pd208 rfl) (hb hby at_57) ?_
  intro T86 h88 v89 lo90 fs91 K87 Kp92 q93
  obtain ⟨rfl, rfl⟩ := q93
  have K94 := K87.to 9 68 []
  refine Owe.stk [(.int (0 : Int32))] ?_
  refine oIfNo K94 63 (hb hby at_60) (XT.i0_ne_f (by decide)) ?_
  refine oIconstV K94 64 (1 : Int32) (hb hby at_63) rfl ?_
  refine oGoto K94 68 (hb hby at_64) ?_
  refine oIstore K94 70 (hb hby at_68) (l' := #[.val (.int p0), .val (.int p1), .val (.int p2), .val (.int p3), .val (.ref x9), .val (.ref x25), .val (.int (1 : Int32)), .val (.int (1 : Int32)), .unset, .unset]) rfl ?_
  refine oAload K94 72 (hb hby at_70) rfl rfl ?_
  refine oVirtual K94 75 0 (wq hw 98 rfl) (wq hw 99 rfl) (nfSel (wq hw 101 rfl)) (wq hw 101 rfl) (wq hw 100 rfl) (wq hw 37 rfl) (wq hw 102 rfl) (((((((f26.keep Kp38).keep Kp47).keep Kp56).keep Kp65).keep Kp74).keep Kp83).keep Kp92) (rmToken l Z a0 z0 em G x25 ((0 : Int64)) h88 K94.old K94.both (((((((f29.keep Kp38 nin0).keep Kp47 nin0).keep Kp56 nin0).keep Kp65 nin0).keep Kp74 nin0).keep Kp83 nin0).keep Kp92 nin0)) [] [] (lenOf pd209 rfl) (hb hby at_72) ?_
  intro T95 h97 v98 lo99 fs100 K96 Kp101 q102
  obtain ⟨rfl, rfl⟩ := q102
  have K103 := K96.to 9 68 []
  refine Owe.stk [(.long (0 : Int64))] ?_
  refine oLconstV K103 76 (0 : Int64) (hb hby at_75) rfl ?_
  refine oLcmp K103 77 (hb hby at_76) ?_
  refine oIfNo K103 80 (hb hby at_77) (XT.ll_ne_f rfl) ?_
  refine oIconstV K103 81 (1 : Int32) (hb hby at_80) rfl ?_
  refine oGoto K103 85 (hb hby at_81) ?_
  refine oIstore K103 87 (hb hby at_85) (l' := #[.val (.int p0), .val (.int p1), .val (.int p2), .val (.int p3), .val (.ref x9), .val (.ref x25), .val (.int (1 : Int32)), .val (.int (1 : Int32)), .val (.int (1 : Int32)), .unset]) rfl ?_
  refine oAload K103 89 (hb hby at_87) rfl rfl ?_
  refine oVirtual K103 92 0 (wq hw 103 rfl) (wq hw 104 rfl) (nfSel (wq hw 106 rfl)) (wq hw 106 rfl) (wq hw 105 rfl) (wq hw 37 rfl) (wq hw 107 rfl) ((((((((f26.keep Kp38).keep Kp47).keep Kp56).keep Kp65).keep Kp74).keep Kp83).keep Kp92).keep Kp101) (rmMillis l Z a0 z0 em G x25 ((0 : Int64)) h97 K103.old K103.both ((((((((f30.keep Kp38 nin0).keep Kp47 nin0).keep Kp56 nin0).keep Kp65 nin0).keep Kp74 nin0).keep Kp83 nin0).keep Kp92 nin0).keep Kp101 nin0)) [] [] (lenOf pd209 rfl) (hb hby at_89) ?_
  intro T104 h106 v107 lo108 fs109 K105 Kp110 q111
  obtain ⟨rfl, rfl⟩ := q111
  have K112 := K105.to 9 68 []
  refine Owe.stk [(.long (0 : Int64))] ?_
  refine oLconstV K112 93 (0 : Int64) (hb hby at_92) rfl ?_
  refine oLcmp K112 94 (hb hby at_93) ?_
  refine oIfNo K112 97 (hb hby at_94) (XT.ll_ne_f rfl) ?_
  refine oIconstV K112 98 (1 : Int32) (hb hby at_97) rfl ?_
  refine oGoto K112 102 (hb hby at_98) ?_
  refine oIstore K112 104 (hb hby at_102) (l' := #[.val (.int p0), .val (.int p1), .val (.int p2), .val (.int p3), .val (.ref x9), .val (.ref x25), .val (.int (1 : Int32)), .val (.int (1 : Int32)), .val (.int (1 : Int32)), .val (.int (1 : Int32))]) rfl ?_
  refine oIload K112 106 (hb hby at_104) rfl ?_
  refine oIfNo K112 109 (hb hby at_106) (XT.i0_eq_f (by decide)) ?_
  refine oIload K112 111 (hb hby at_109) rfl ?_
  refine oIfNo K112 114 (hb hby at_111) (XT.i0_eq_f (by decide)) ?_
  refine oIload K112 116 (hb hby at_114) rfl ?_
  refine oIfNo K112 119 (hb hby at_116) (XT.i0_eq_f (by decide)) ?_
  refine oIload K112 121 (hb hby at_119) rfl ?_
  refine oIfNo K112 124 (hb hby at_121) (XT.i0_eq_f (by decide)) ?_
  refine oIconstV K112 125 (1 : Int32) (hb hby at_124) rfl ?_
  refine oGoto K112 129 (hb hby at_125) ?_
  exact oRetI K112 [] (t := .boolean) hret (by simp) (by decide) (hb hby at_129) (by decide) (by decide) hlk (fun x hx => by cases hx) ⟨rfl, rfl⟩
theorem comes_1 {Post : Tables → Env → Array Value → State → Outcome → State → Prop} (hpost : ∀ tb e args s v u, (limb_1_1.after args s (.returned v) u = true ∧ limb_1_2.after args s (.returned v) u = true ∧ True) → FramedW s (.returned v) u (Jvm.fieldLocs frame_1_writes args s ++ Jvm.arrayLocs frame_1_arrays args s ++ Jvm.staticLocs frame_1_statics s) 24 2176 → Post tb e args s (.returned v) u) :
    ArmFor flags0 classFile x code maxLocals ret World_1 tables_1 room_1 Calls_1 rest_1 Pre_1 Post := by
  intro l hfl _ _ p e ha hc hk s m args below hf hA hF happ hP
  obtain ⟨hcalls, hrest, hpre⟩ := hP
  obtain ⟨-, -, -, hnamed, -, -, -, hat⟩ := (Spec.applies_iff hf).mp happ
  obtain ⟨hg, hn⟩ := and_e (Cond.before_iff.mp (show (Jvm.Cond.and given_1 narrow_1).before args s = true from hpre))
  obtain ⟨hx0, hr0⟩ := and_e hg
  obtain ⟨hx1, hr1⟩ := and_e hr0
  obtain ⟨hx2, hr2⟩ := and_e hr1
  obtain ⟨hx3, hr3⟩ := and_e hr2
  obtain ⟨w0, w1, w2, w3, rfl⟩ : ∃ w0 w1 w2 w3 : Value, args = #[w0, w1, w2, w3] := by
    have hs : args.size = 4 := by simpa [Cond.value, given_1] using hx0
    obtain ⟨L⟩ := args
    match L, hs with
    | [w0, w1, w2, w3], _ => exact ⟨w0, w1, w2, w3, rfl⟩
  have hw := fun d (hd : d ∈ tables_1) => atoms_spec (ws := Jvm.Cond.code x code maxLocals ret :: tables_1) hat d (List.mem_cons_of_mem _ hd)
  obtain ⟨hsets, hown0⟩ := atoms_of _ (rest_1_c_eq ▸ (show rest_1_c.before _ s = true from hrest))
  have hfit : Fit s := fun {y c} hc i hi => by
    obtain ⟨ha, rfl⟩ := Array.getElem?_eq_some_iff.mp hc
    have q := List.all_eq_true.mp ((Array.all_eq_true_iff_forall_mem.mp hF) _ (Array.getElem_mem ha)) i (List.mem_range.mpr hi)
    simpa [Array.getElem?_eq_getElem hi] using q
  obtain ⟨i0, e0⟩ := is_v hx1
  obtain rfl : w0 = (.int i0) := Option.some.inj e0
  obtain ⟨i1, e1⟩ := is_v hx2
  obtain rfl : w1 = (.int i1) := Option.some.inj e1
  obtain ⟨i2, e2⟩ := is_v hx3
  obtain rfl : w2 = (.int i2) := Option.some.inj e2
  obtain ⟨i3, e3⟩ := is_v hr3
  obtain rfl : w3 = (.int i3) := Option.some.inj e3
  have wS : ∀ a ∈ Bundle.stringAtoms, a.before #[(.int i0), (.int i1), (.int i2), (.int i3)] s = true := fun a ha => hw a ((by decide +kernel : ∀ d ∈ Bundle.stringAtoms, d ∈ tables_1) a ha)
  have n5 := not_v (Cond.before_iff.mp (hsets _ (List.mem_of_getElem? (i := 2) rfl)))
  obtain ⟨z0, ez0⟩ := is_v (Cond.before_iff.mp (hsets _ (List.mem_of_getElem? (i := 1) rfl)))
  have OS : Sta s s.heap "java/lang/String" "COMPACT_STRINGS" "Z" (.int z0) := Sta.start ez0 (Or.inl (hsets _ (List.mem_of_getElem? (i := 0) rfl)))
  have hz0 : ¬ (z0 = (0 : Int32)) := gotF (Cond.eq_ints ez0 (Term.int_eval (0))) n5
  have hEL : EW s #[(.int i0), (.int i1), (.int i2), (.int i3)] ELs := (EW.cons (wq hw 108 rfl) (by decide) EW.nil)
  have hCH : CHv s ELs s.vm s.heap := CHv.start hEL (fun q hq => hcalls.1 q ((by decide : ∀ q ∈ ELs, q ∈ consts_1) q hq)) (hsets _ (List.mem_of_getElem? (i := 2) rfl)) (wq hw 24 rfl) (wq hw 6 rfl)
  obtain ⟨em, eem⟩ := exa_v (Cond.before_iff.mp (hsets _ (List.mem_of_getElem? (i := 11) rfl)))
  have OE : Sta s s.heap "java/util/Optional" "EMPTY" "Ljava/util/Optional;" (.ref em) := Sta.start eem (Or.inl (hsets _ (List.mem_of_getElem? (i := 10) rfl)))
  have OX : Exa s s.heap em "java/util/Optional" := Exa.start eem (Cond.before_iff.mp (hsets _ (List.mem_of_getElem? (i := 11) rfl)))
  have OV : Fld s s.heap em "java/util/Optional" "value" "Ljava/lang/Object;" .null := Fld.start ((fld_at eem).symm.trans (null_v (Cond.before_iff.mp (hsets _ (List.mem_of_getElem? (i := 12) rfl)))))
  obtain ⟨n, o, h1, h2, h3, v, L, fs, rfl, ⟨-, rfl⟩, N, -, -, -, -, w1', w2', w3', w4'⟩ := rmLaw l s _ z0 em ⟨hw, hEL, wS, OS, hz0, OE, OX, OV⟩ i0 i1 i2 i3 s.heap ⟨Nat.le_refl _, fun _ _ q => q⟩ (fun x hx => by cases hx) p e ha hc hk s m _ below hf ((Spec.applies_iff_loose hf).mp happ).1 ⟨rfl, State.Warmed39.refl s, rfl, hCH, fun x hx => by cases hx⟩ trivial
  refine ⟨n, _, h1, h2, h3, hpost _ _ _ _ _ _ ⟨Cond.after_iff.mpr rfl, Cond.after_iff.mpr (eq_i res_at (Term.int_eval (1)) rfl), trivial⟩ ⟨w1', w2', w3', (w4'.sift fun y hy => Or.inr (N y hy)).mono (by decide) (by decide)⟩⟩
theorem main_1_1 : Claimed_1_1 := comes_1 fun _ _ _ _ _ _ h hF => ⟨h.1, hF⟩
theorem main_1_2 : Claimed_1_2 := comes_1 fun _ _ _ _ _ _ h hF => ⟨h.2.1, hF⟩
end Jvm.Pilot.@@N@@
namespace Jvm.Pilot.@@N@@
open Jvm Jvm.ClassFile Sem Op Lib Jvm.Free Jvm.Stand Jvm.Pilot.@@N@@.Jvm.D
/-! MADE BY PROGRAM (witnessworld.py) out of the Statement's table words and the real class files: 20 classes; the members and pool entries that the words name. The judged class is class 1, her method 2. -/
namespace start1
open Jvm.ClassFile
def u (s : String) : CpInfo := .utf8 (stringToUtf16 s)
/-- a pool by its gaps: so many unusable entries, then the entry; so many at the end -/
def gap : Nat → List CpInfo → List CpInfo
  | 0, r => r
  | n + 1, r => .unusable :: gap n r
def poolList (es : List (Nat × CpInfo)) (last : Nat) : List CpInfo := es.foldr (fun e r => gap e.1 (e.2 :: r)) (gap last [])
def pool (es : List (Nat × CpInfo)) (last : Nat) : Array CpInfo := ⟨poolList es last⟩
def fileOf (pool : Array CpInfo) (this : Nat) (attrs : Array Attribute := #[]) (ms : Array MethodInfo := #[]) (fl : Nat := 33) (sup : Nat := 0) (ifs : Array Nat := #[]) (fds : Array FieldInfo := #[]) : ClassFile where
  minorVersion := 0
  majorVersion := 65
  constantPool := pool
  accessFlags := fl
  thisClass := this
  superClass := sup
  interfaces := ifs
  fields := fds
  methods := ms
  attributes := attrs
def plain (name : String) (sup : Option ClassId) : Class where
  name := name
  kind := .ordinary
  loader := none
  accessFlags := 33
  super := sup
  interfaces := #[]
  cf := none
  fields := #[]
  methods := #[]
  instanceTypes := #[]
  staticTypes := #[]
  resolved := #[]
  callSites := []
  init := .initialized
  statics := none
  mirror := none

def pool0 : Array CpInfo := pool [(5, u "<init>"), (0, u "()V"), (1, .class_ 10), (1, u "java/lang/Object")] 113

def k0c0 : Code := { maxStack := 0, maxLocals := 1, code := object_method_1_code, exceptionTable := #[], attributes := #[] }
def k0m0 : Method := { name := "<init>", desc := "()V", sig := { parameters := [], returnType := none }, accessFlags := 1, code := some k0c0 }
/-- java/lang/Object -/
def k0 : Class := { plain "java/lang/Object" none with
  accessFlags := 33
  interfaces := #[]
  cf := some (fileOf pool0 8 #[] #[{ accessFlags := 1, nameIndex := 5, descriptorIndex := 6, attributes := #[] }] 33 0 #[] #[])
  fields := #[]
  methods := #[k0m0]
  instanceTypes := #[]
  staticTypes := #[]
  resolved := Array.replicate 124 none
  statics := none }

def pool1 : Array CpInfo := pool [(2, .class_ 4), (1, u "java/lang/Object"), (0, u "<init>"), (0, u "()V"), (0, .integer 2147483647), (0, .class_ 9), (0, u "java/lang/String"), (0, .methodref 8 11), (0, .nameAndType 5 12), (0, u "([C)V"), (0, .methodref 14 15), (0, .class_ 16), (0, .nameAndType 17 18), (0, u "com/example/row_lease/rowlease/lease/LeaseStatusNeverTakenPinLaw"), (0, u "draw"), (0, u "(IIII)Ljava/lang/String;"), (0, .methodref 20 21), (0, .class_ 22), (0, .nameAndType 23 24), (0, u "com/example/row_lease/rowlease/lease/LeaseStatus"), (0, u "neverTaken"), (0, u "(Ljava/lang/String;)Lcom/example/row_lease/rowlease/lease/LeaseStatus;"), (0, .methodref 20 26), (0, .nameAndType 27 28), (0, u "name"), (0, u "()Ljava/lang/String;"), (0, .methodref 8 30), (0, .nameAndType 31 32), (0, u "equals"), (0, u "(Ljava/lang/Object;)Z"), (0, .methodref 8 34), (0, .nameAndType 35 36), (0, u "length"), (0, u "()I"), (0, .methodref 20 38), (0, .nameAndType 39 40), (0, u "holder"), (0, u "()Ljava/util/Optional;"), (0, .methodref 42 43), (0, .class_ 44), (0, .nameAndType 45 46), (0, u "java/util/Optional"), (0, u "isPresent"), (0, u "()Z"), (0, .methodref 20 48), (0, .nameAndType 49 50), (0, u "token"), (0, u "()J"), (0, .methodref 20 52), (0, .nameAndType 53 50), (0, u "millisLeft"), (3, u "law"), (0, u "(IIII)Z")] 2

def k1m0 : Method := { name := "<init>", desc := "()V", sig := { parameters := [], returnType := none }, accessFlags := 1, code := none }
def k1c1 : Code := { maxStack := 6, maxLocals := 8, code := method_2_code, exceptionTable := #[], attributes := #[] }
def k1m1 : Method := { name := "draw", desc := "(IIII)Ljava/lang/String;", sig := { parameters := [.int, .int, .int, .int], returnType := some (.object "java/lang/String") }, accessFlags := 10, code := some k1c1 }
def k1c2 : Code := { maxStack := 4, maxLocals := 10, code := code, exceptionTable := #[], attributes := #[] }
def k1m2 : Method := { name := "law", desc := "(IIII)Z", sig := { parameters := [.int, .int, .int, .int], returnType := some .boolean }, accessFlags := 9, code := some k1c2 }
/-- com/example/row_lease/rowlease/lease/LeaseStatusNeverTakenPinLaw -/
def k1 : Class := { plain "com/example/row_lease/rowlease/lease/LeaseStatusNeverTakenPinLaw" (some 0) with
  accessFlags := 49
  interfaces := #[]
  cf := some (fileOf pool1 14 #[] #[{ accessFlags := 1, nameIndex := 5, descriptorIndex := 6, attributes := #[] }, { accessFlags := 10, nameIndex := 17, descriptorIndex := 18, attributes := #[] }, { accessFlags := 9, nameIndex := 57, descriptorIndex := 58, attributes := #[] }] 49 2 #[] #[])
  fields := #[]
  methods := #[k1m0, k1m1, k1m2]
  instanceTypes := #[]
  staticTypes := #[]
  resolved := Array.replicate 61 none
  statics := none }

def pool2 : Array CpInfo := pool [(1, .class_ 2), (0, u "java/io/Serializable"), (0, .class_ 4), (0, u "java/lang/Object")] 2

/-- java/io/Serializable -/
def k2 : Class := { plain "java/io/Serializable" (some 0) with
  accessFlags := 1537
  interfaces := #[]
  cf := some (fileOf pool2 1 #[] #[] 1537 3 #[] #[])
  fields := #[]
  methods := #[]
  instanceTypes := #[]
  staticTypes := #[]
  resolved := Array.replicate 7 none
  statics := none }

def pool3 : Array CpInfo := pool [(1, .class_ 2), (0, u "java/lang/Comparable"), (0, .class_ 4), (0, u "java/lang/Object")] 7

/-- java/lang/Comparable -/
def k3 : Class := { plain "java/lang/Comparable" (some 0) with
  accessFlags := 1537
  interfaces := #[]
  cf := some (fileOf pool3 1 #[] #[] 1537 3 #[] #[])
  fields := #[]
  methods := #[]
  instanceTypes := #[]
  staticTypes := #[]
  resolved := Array.replicate 12 none
  statics := none }

def pool4 : Array CpInfo := pool [(2, .class_ 4), (1, u "java/lang/CharSequence"), (42, .class_ 48), (0, u "java/lang/CharSequence$1CodePointIterator"), (10, .class_ 60), (0, u "java/lang/CharSequence$1CharIterator"), (5, .class_ 67), (0, u "java/lang/Object")] 63

/-- java/lang/CharSequence -/
def k4 : Class := { plain "java/lang/CharSequence" (some 0) with
  accessFlags := 1537
  interfaces := #[]
  cf := some (fileOf pool4 2 #[.nestMembers #[47, 59]] #[] 1537 66 #[] #[])
  fields := #[]
  methods := #[]
  instanceTypes := #[]
  staticTypes := #[]
  resolved := Array.replicate 131 none
  statics := none }

def pool5 : Array CpInfo := pool [(1, .class_ 2), (0, u "java/lang/constant/Constable"), (0, .class_ 4), (0, u "java/lang/Object")] 6

/-- java/lang/constant/Constable -/
def k5 : Class := { plain "java/lang/constant/Constable" (some 0) with
  accessFlags := 1537
  interfaces := #[]
  cf := some (fileOf pool5 1 #[] #[] 1537 3 #[] #[])
  fields := #[]
  methods := #[]
  instanceTypes := #[]
  staticTypes := #[]
  resolved := Array.replicate 11 none
  statics := none }

def pool6 : Array CpInfo := pool [(1, .class_ 2), (0, u "java/lang/constant/ConstantDesc"), (0, .class_ 4), (0, u "java/lang/Object")] 32

/-- java/lang/constant/ConstantDesc -/
def k6 : Class := { plain "java/lang/constant/ConstantDesc" (some 0) with
  accessFlags := 1537
  interfaces := #[]
  cf := some (fileOf pool6 1 #[] #[] 1537 3 #[] #[])
  fields := #[]
  methods := #[]
  instanceTypes := #[]
  staticTypes := #[]
  resolved := Array.replicate 37 none
  statics := none }

def pool7 : Array CpInfo := pool [(1, .methodref 2 3), (0, .class_ 4), (0, .nameAndType 5 6), (0, u "java/lang/Object"), (0, u "<init>"), (0, u "()V"), (0, .string 8), (0, u ""), (0, .fieldref 10 11), (0, .class_ 12), (0, .nameAndType 13 14), (0, u "java/lang/String"), (0, u "value"), (0, u "[B"), (0, .fieldref 10 16), (0, .nameAndType 17 18), (0, u "coder"), (0, u "B"), (2, u "hash"), (0, u "I"), (2, u "hashIsZero"), (0, u "Z"), (0, .methodref 10 28), (0, .nameAndType 5 29), (0, u "([CIILjava/lang/Void;)V"), (8, .fieldref 10 39), (0, .nameAndType 40 26), (0, u "COMPACT_STRINGS"), (1, .class_ 44), (1, u "java/lang/StringUTF16"), (0, u "compress"), (1, .methodref 42 48), (0, .nameAndType 49 50), (0, u "coderFromArrayLen"), (0, u "([BI)B"), (126, .methodref 42 178), (0, .nameAndType 45 179), (0, u "([CII)[B"), (154, u "()I"), (0, .methodref 10 336), (0, .nameAndType 17 337), (0, u "()B"), (169, u "length"), (35, u "equals"), (29, u "(Ljava/lang/Object;)Z"), (1, .class_ 576), (0, u "java/lang/CharSequence"), (22, u "CASE_INSENSITIVE_ORDER"), (0, u "Ljava/util/Comparator;"), (409, u "([C)V"), (90, u "serialPersistentFields"), (0, u "[Ljava/io/ObjectStreamField;"), (0, .class_ 1104), (0, u "java/lang/String$CaseInsensitiveComparator"), (1, .class_ 1107), (0, u "java/io/Serializable"), (0, .class_ 1109), (0, u "java/lang/Comparable"), (0, .class_ 1111), (0, u "java/lang/constant/Constable"), (0, .class_ 1113), (0, u "java/lang/constant/ConstantDesc"), (2, u "serialVersionUID"), (0, u "J"), (3, u "REPL"), (0, u "C"), (2, u "LATIN1"), (1, u "UTF16")] 323

def k7m0 : Method := { name := "<init>", desc := "()V", sig := { parameters := [], returnType := none }, accessFlags := 1, code := none }
def k7c1 : Code := { maxStack := 5, maxLocals := 2, code := jdk_42_method_3_code, exceptionTable := #[], attributes := #[] }
def k7m1 : Method := { name := "<init>", desc := "([C)V", sig := { parameters := [(.array .char)], returnType := none }, accessFlags := 1, code := some k7c1 }
def k7c2 : Code := { maxStack := 2, maxLocals := 1, code := jdk_42_method_54_code, exceptionTable := #[], attributes := #[] }
def k7m2 : Method := { name := "length", desc := "()I", sig := { parameters := [], returnType := some .int }, accessFlags := 1, code := some k7c2 }
def k7c3 : Code := { maxStack := 2, maxLocals := 3, code := jdk_42_method_66_code, exceptionTable := #[], attributes := #[] }
def k7m3 : Method := { name := "equals", desc := "(Ljava/lang/Object;)Z", sig := { parameters := [(.object "java/lang/Object")], returnType := some .boolean }, accessFlags := 1, code := some k7c3 }
def k7c4 : Code := { maxStack := 4, maxLocals := 6, code := jdk_42_method_149_code, exceptionTable := #[], attributes := #[] }
def k7m4 : Method := { name := "<init>", desc := "([CIILjava/lang/Void;)V", sig := { parameters := [(.array .char), .int, .int, (.object "java/lang/Void")], returnType := none }, accessFlags := 2, code := some k7c4 }
def k7c5 : Code := { maxStack := 1, maxLocals := 1, code := jdk_42_method_152_code, exceptionTable := #[], attributes := #[] }
def k7m5 : Method := { name := "coder", desc := "()B", sig := { parameters := [], returnType := some .byte }, accessFlags := 0, code := some k7c5 }
/-- java/lang/String -/
def k7 : Class := { plain "java/lang/String" (some 0) with
  accessFlags := 49
  interfaces := #[2, 3, 4, 5, 6]
  cf := some (fileOf pool7 10 #[.nestMembers #[1103]] #[{ accessFlags := 1, nameIndex := 5, descriptorIndex := 6, attributes := #[] }, { accessFlags := 1, nameIndex := 5, descriptorIndex := 1010, attributes := #[] }, { accessFlags := 1, nameIndex := 507, descriptorIndex := 334, attributes := #[] }, { accessFlags := 1, nameIndex := 543, descriptorIndex := 573, attributes := #[] }, { accessFlags := 2, nameIndex := 5, descriptorIndex := 29, attributes := #[] }, { accessFlags := 0, nameIndex := 17, descriptorIndex := 337, attributes := #[] }] 49 2 #[1106, 1108, 575, 1110, 1112] #[{ accessFlags := 18, nameIndex := 13, descriptorIndex := 14, attributes := #[] }, { accessFlags := 18, nameIndex := 17, descriptorIndex := 18, attributes := #[] }, { accessFlags := 2, nameIndex := 21, descriptorIndex := 22, attributes := #[] }, { accessFlags := 2, nameIndex := 25, descriptorIndex := 26, attributes := #[] }, { accessFlags := 26, nameIndex := 1116, descriptorIndex := 1117, attributes := #[] }, { accessFlags := 24, nameIndex := 40, descriptorIndex := 26, attributes := #[] }, { accessFlags := 26, nameIndex := 1101, descriptorIndex := 1102, attributes := #[] }, { accessFlags := 26, nameIndex := 1121, descriptorIndex := 1122, attributes := #[] }, { accessFlags := 25, nameIndex := 599, descriptorIndex := 600, attributes := #[] }, { accessFlags := 24, nameIndex := 1125, descriptorIndex := 18, attributes := #[] }, { accessFlags := 24, nameIndex := 1127, descriptorIndex := 18, attributes := #[] }])
  fields := #[{ name := "value", type := (.array .byte), accessFlags := 18, slot := 0, constantValue := 0 }, { name := "coder", type := .byte, accessFlags := 18, slot := 1, constantValue := 0 }, { name := "hash", type := .int, accessFlags := 2, slot := 2, constantValue := 0 }, { name := "hashIsZero", type := .boolean, accessFlags := 2, slot := 3, constantValue := 0 }, { name := "serialVersionUID", type := .long, accessFlags := 26, slot := 0, constantValue := 0 }, { name := "COMPACT_STRINGS", type := .boolean, accessFlags := 24, slot := 1, constantValue := 0 }, { name := "serialPersistentFields", type := (.array (.object "java/io/ObjectStreamField")), accessFlags := 26, slot := 2, constantValue := 0 }, { name := "REPL", type := .char, accessFlags := 26, slot := 3, constantValue := 0 }, { name := "CASE_INSENSITIVE_ORDER", type := (.object "java/util/Comparator"), accessFlags := 25, slot := 4, constantValue := 0 }, { name := "LATIN1", type := .byte, accessFlags := 24, slot := 5, constantValue := 0 }, { name := "UTF16", type := .byte, accessFlags := 24, slot := 6, constantValue := 0 }]
  methods := #[k7m0, k7m1, k7m2, k7m3, k7m4, k7m5]
  instanceTypes := #[(.array .byte), .byte, .int, .boolean]
  staticTypes := #[.long, .boolean, (.array (.object "java/io/ObjectStreamField")), .char, (.object "java/util/Comparator"), .byte, .byte]
  resolved := Array.replicate 1451 none
  statics := some 0 }

def pool8 : Array CpInfo := pool [(6, .class_ 8), (1, u "java/lang/Object"), (0, u "<init>"), (0, u "()V"), (1, .class_ 14), (1, u "java/lang/StringUTF16"), (31, u "$assertionsDisabled"), (0, u "Z"), (13, u "HI_BYTE_SHIFT"), (0, u "I"), (2, u "LO_BYTE_SHIFT"), (49, .methodref 12 116), (0, .nameAndType 117 118), (0, u "compress"), (0, u "([CI[BII)I"), (3, u "([CII)[B"), (138, u "coderFromArrayLen"), (0, u "([BI)B"), (106, .class_ 371), (1, u "java/lang/StringUTF16$LinesSpliterator"), (58, u "MAX_LENGTH"), (196, .class_ 628), (0, u "java/lang/StringUTF16$CodePointsSpliterator"), (0, .class_ 630), (0, u "java/lang/StringUTF16$CharsSpliterator")] 4

def k8m0 : Method := { name := "<init>", desc := "()V", sig := { parameters := [], returnType := none }, accessFlags := 0, code := none }
def k8c1 : Code := { maxStack := 2, maxLocals := 2, code := jdk_52_method_15_code, exceptionTable := #[], attributes := #[] }
def k8m1 : Method := { name := "coderFromArrayLen", desc := "([BI)B", sig := { parameters := [(.array .byte), .int], returnType := some .byte }, accessFlags := 8, code := some k8c1 }
def k8c2 : Code := { maxStack := 5, maxLocals := 6, code := jdk_52_method_16_code, exceptionTable := #[], attributes := #[] }
def k8m2 : Method := { name := "compress", desc := "([CII)[B", sig := { parameters := [(.array .char), .int, .int], returnType := some (.array .byte) }, accessFlags := 9, code := some k8c2 }
def k8c3 : Code := { maxStack := 3, maxLocals := 7, code := jdk_52_method_21_code, exceptionTable := #[], attributes := #[] }
def k8m3 : Method := { name := "compress", desc := "([CI[BII)I", sig := { parameters := [(.array .char), .int, (.array .byte), .int, .int], returnType := some .int }, accessFlags := 9, code := some k8c3 }
/-- java/lang/StringUTF16 -/
def k8 : Class := { plain "java/lang/StringUTF16" (some 0) with
  accessFlags := 48
  interfaces := #[]
  cf := some (fileOf pool8 12 #[.nestMembers #[627, 629, 369]] #[{ accessFlags := 0, nameIndex := 9, descriptorIndex := 10, attributes := #[] }, { accessFlags := 8, nameIndex := 261, descriptorIndex := 262, attributes := #[] }, { accessFlags := 9, nameIndex := 117, descriptorIndex := 122, attributes := #[] }, { accessFlags := 9, nameIndex := 117, descriptorIndex := 118, attributes := #[] }] 48 6 #[] #[{ accessFlags := 26, nameIndex := 61, descriptorIndex := 62, attributes := #[] }, { accessFlags := 26, nameIndex := 65, descriptorIndex := 62, attributes := #[] }, { accessFlags := 24, nameIndex := 430, descriptorIndex := 62, attributes := #[] }, { accessFlags := 4120, nameIndex := 46, descriptorIndex := 47, attributes := #[] }])
  fields := #[{ name := "HI_BYTE_SHIFT", type := .int, accessFlags := 26, slot := 0, constantValue := 0 }, { name := "LO_BYTE_SHIFT", type := .int, accessFlags := 26, slot := 1, constantValue := 0 }, { name := "MAX_LENGTH", type := .int, accessFlags := 24, slot := 2, constantValue := 0 }, { name := "$assertionsDisabled", type := .boolean, accessFlags := 4120, slot := 3, constantValue := 0 }]
  methods := #[k8m0, k8m1, k8m2, k8m3]
  instanceTypes := #[]
  staticTypes := #[.int, .int, .int, .boolean]
  resolved := Array.replicate 635 none
  statics := none }

def pool9 : Array CpInfo := pool [(1, .methodref 2 3), (0, .class_ 4), (0, .nameAndType 5 6), (0, u "java/lang/Object"), (0, u "<init>"), (0, u "()V"), (0, .string 8), (0, u "name is null"), (0, .methodref 10 11), (0, .class_ 12), (0, .nameAndType 13 14), (0, u "java/util/Objects"), (0, u "requireNonNull"), (0, u "(Ljava/lang/Object;Ljava/lang/String;)Ljava/lang/Object;"), (0, .class_ 16), (0, u "java/lang/String"), (0, .fieldref 18 19), (0, .class_ 20), (0, .nameAndType 21 22), (0, u "com/example/row_lease/rowlease/lease/LeaseStatus"), (0, u "name"), (0, u "Ljava/lang/String;"), (0, .fieldref 18 24), (0, .nameAndType 25 22), (0, u "holder"), (0, .fieldref 18 27), (0, .nameAndType 28 29), (0, u "token"), (0, u "J"), (0, .fieldref 18 31), (0, .nameAndType 32 29), (0, u "millisLeft"), (0, .methodref 18 34), (0, .nameAndType 5 35), (0, u "(Ljava/lang/String;Ljava/lang/String;JJ)V"), (0, .methodref 37 38), (0, .class_ 39), (0, .nameAndType 40 41), (0, u "java/util/Optional"), (0, u "ofNullable"), (0, u "(Ljava/lang/Object;)Ljava/util/Optional;"), (2, u "neverTaken"), (0, u "(Ljava/lang/String;)Lcom/example/row_lease/rowlease/lease/LeaseStatus;"), (0, u "()Ljava/lang/String;"), (0, u "()Ljava/util/Optional;"), (2, u "()J")] 2

def k9c0 : Code := { maxStack := 3, maxLocals := 7, code := prog_15_method_1_code, exceptionTable := #[], attributes := #[] }
def k9m0 : Method := { name := "<init>", desc := "(Ljava/lang/String;Ljava/lang/String;JJ)V", sig := { parameters := [(.object "java/lang/String"), (.object "java/lang/String"), .long, .long], returnType := none }, accessFlags := 0, code := some k9c0 }
def k9c1 : Code := { maxStack := 8, maxLocals := 1, code := prog_15_method_2_code, exceptionTable := #[], attributes := #[] }
def k9m1 : Method := { name := "neverTaken", desc := "(Ljava/lang/String;)Lcom/example/row_lease/rowlease/lease/LeaseStatus;", sig := { parameters := [(.object "java/lang/String")], returnType := some (.object "com/example/row_lease/rowlease/lease/LeaseStatus") }, accessFlags := 8, code := some k9c1 }
def k9c2 : Code := { maxStack := 1, maxLocals := 1, code := prog_15_method_3_code, exceptionTable := #[], attributes := #[] }
def k9m2 : Method := { name := "name", desc := "()Ljava/lang/String;", sig := { parameters := [], returnType := some (.object "java/lang/String") }, accessFlags := 1, code := some k9c2 }
def k9c3 : Code := { maxStack := 1, maxLocals := 1, code := prog_15_method_4_code, exceptionTable := #[], attributes := #[] }
def k9m3 : Method := { name := "holder", desc := "()Ljava/util/Optional;", sig := { parameters := [], returnType := some (.object "java/util/Optional") }, accessFlags := 1, code := some k9c3 }
def k9c4 : Code := { maxStack := 2, maxLocals := 1, code := prog_15_method_5_code, exceptionTable := #[], attributes := #[] }
def k9m4 : Method := { name := "token", desc := "()J", sig := { parameters := [], returnType := some .long }, accessFlags := 1, code := some k9c4 }
def k9c5 : Code := { maxStack := 2, maxLocals := 1, code := prog_15_method_6_code, exceptionTable := #[], attributes := #[] }
def k9m5 : Method := { name := "millisLeft", desc := "()J", sig := { parameters := [], returnType := some .long }, accessFlags := 1, code := some k9c5 }
/-- com/example/row_lease/rowlease/lease/LeaseStatus -/
def k9 : Class := { plain "com/example/row_lease/rowlease/lease/LeaseStatus" (some 0) with
  accessFlags := 49
  interfaces := #[]
  cf := some (fileOf pool9 18 #[] #[{ accessFlags := 0, nameIndex := 5, descriptorIndex := 35, attributes := #[] }, { accessFlags := 8, nameIndex := 44, descriptorIndex := 45, attributes := #[] }, { accessFlags := 1, nameIndex := 21, descriptorIndex := 46, attributes := #[] }, { accessFlags := 1, nameIndex := 25, descriptorIndex := 47, attributes := #[] }, { accessFlags := 1, nameIndex := 28, descriptorIndex := 50, attributes := #[] }, { accessFlags := 1, nameIndex := 32, descriptorIndex := 50, attributes := #[] }] 49 2 #[] #[{ accessFlags := 18, nameIndex := 21, descriptorIndex := 22, attributes := #[] }, { accessFlags := 18, nameIndex := 25, descriptorIndex := 22, attributes := #[] }, { accessFlags := 18, nameIndex := 28, descriptorIndex := 29, attributes := #[] }, { accessFlags := 18, nameIndex := 32, descriptorIndex := 29, attributes := #[] }])
  fields := #[{ name := "name", type := (.object "java/lang/String"), accessFlags := 18, slot := 0, constantValue := 0 }, { name := "holder", type := (.object "java/lang/String"), accessFlags := 18, slot := 1, constantValue := 0 }, { name := "token", type := .long, accessFlags := 18, slot := 2, constantValue := 0 }, { name := "millisLeft", type := .long, accessFlags := 18, slot := 3, constantValue := 0 }]
  methods := #[k9m0, k9m1, k9m2, k9m3, k9m4, k9m5]
  instanceTypes := #[(.object "java/lang/String"), (.object "java/lang/String"), .long, .long]
  staticTypes := #[]
  resolved := Array.replicate 53 none
  statics := none }

def pool10 : Array CpInfo := pool [(2, .class_ 4), (1, u "java/lang/Object"), (0, u "<init>"), (0, u "()V"), (35, .class_ 44), (1, u "java/util/Objects"), (0, u "requireNonNull"), (48, u "(Ljava/lang/Object;Ljava/lang/String;)Ljava/lang/Object;")] 89

def k10m0 : Method := { name := "<init>", desc := "()V", sig := { parameters := [], returnType := none }, accessFlags := 2, code := none }
def k10c1 : Code := { maxStack := 3, maxLocals := 2, code := jdk_31_method_11_code, exceptionTable := #[], attributes := #[] }
def k10m1 : Method := { name := "requireNonNull", desc := "(Ljava/lang/Object;Ljava/lang/String;)Ljava/lang/Object;", sig := { parameters := [(.object "java/lang/Object"), (.object "java/lang/String")], returnType := some (.object "java/lang/Object") }, accessFlags := 9, code := some k10c1 }
/-- java/util/Objects -/
def k10 : Class := { plain "java/util/Objects" (some 0) with
  accessFlags := 49
  interfaces := #[]
  cf := some (fileOf pool10 42 #[] #[{ accessFlags := 2, nameIndex := 5, descriptorIndex := 6, attributes := #[] }, { accessFlags := 9, nameIndex := 45, descriptorIndex := 94, attributes := #[] }] 49 2 #[] #[])
  fields := #[]
  methods := #[k10m0, k10m1]
  instanceTypes := #[]
  staticTypes := #[]
  resolved := Array.replicate 184 none
  statics := none }

def pool11 : Array CpInfo := pool [(1, .fieldref 2 3), (0, .class_ 4), (0, .nameAndType 5 6), (0, u "java/util/Optional"), (0, u "EMPTY"), (0, u "Ljava/util/Optional;"), (1, .class_ 10), (1, u "java/lang/Object"), (2, .fieldref 2 14), (0, .nameAndType 15 16), (0, u "value"), (0, u "Ljava/lang/Object;"), (29, u "()Z"), (17, u "ofNullable"), (0, u "(Ljava/lang/Object;)Ljava/util/Optional;"), (2, u "isPresent")] 118

def k11c0 : Code := { maxStack := 3, maxLocals := 1, code := jdk_32_method_4_code, exceptionTable := #[], attributes := #[] }
def k11m0 : Method := { name := "ofNullable", desc := "(Ljava/lang/Object;)Ljava/util/Optional;", sig := { parameters := [(.object "java/lang/Object")], returnType := some (.object "java/util/Optional") }, accessFlags := 9, code := some k11c0 }
def k11c1 : Code := { maxStack := 1, maxLocals := 1, code := jdk_32_method_6_code, exceptionTable := #[], attributes := #[] }
def k11m1 : Method := { name := "isPresent", desc := "()Z", sig := { parameters := [], returnType := some .boolean }, accessFlags := 1, code := some k11c1 }
/-- java/util/Optional -/
def k11 : Class := { plain "java/util/Optional" (some 0) with
  accessFlags := 49
  interfaces := #[]
  cf := some (fileOf pool11 2 #[] #[{ accessFlags := 9, nameIndex := 64, descriptorIndex := 65, attributes := #[] }, { accessFlags := 1, nameIndex := 68, descriptorIndex := 46, attributes := #[] }] 49 8 #[] #[{ accessFlags := 26, nameIndex := 5, descriptorIndex := 6, attributes := #[] }, { accessFlags := 18, nameIndex := 15, descriptorIndex := 16, attributes := #[] }])
  fields := #[{ name := "EMPTY", type := (.object "java/util/Optional"), accessFlags := 26, slot := 0, constantValue := 0 }, { name := "value", type := (.object "java/lang/Object"), accessFlags := 18, slot := 0, constantValue := 0 }]
  methods := #[k11m0, k11m1]
  instanceTypes := #[(.object "java/lang/Object")]
  staticTypes := #[(.object "java/util/Optional")]
  resolved := Array.replicate 187 none
  statics := some 1 }

def pool12 : Array CpInfo := pool [(4, .class_ 6), (1, u "java/lang/Object"), (0, u "<init>"), (0, u "()V"), (5, .class_ 16), (1, u "java/lang/StringLatin1"), (104, u "$assertionsDisabled"), (0, u "Z"), (98, .class_ 223), (1, u "java/lang/StringLatin1$LinesSpliterator"), (166, .class_ 391), (0, u "java/lang/StringLatin1$CharsSpliterator")] 3

def k12m0 : Method := { name := "<init>", desc := "()V", sig := { parameters := [], returnType := none }, accessFlags := 0, code := none }
/-- java/lang/StringLatin1 -/
def k12 : Class := { plain "java/lang/StringLatin1" (some 0) with
  accessFlags := 48
  interfaces := #[]
  cf := some (fileOf pool12 14 #[.nestMembers #[390, 221]] #[{ accessFlags := 0, nameIndex := 7, descriptorIndex := 8, attributes := #[] }] 48 4 #[] #[{ accessFlags := 4120, nameIndex := 121, descriptorIndex := 122, attributes := #[] }])
  fields := #[{ name := "$assertionsDisabled", type := .boolean, accessFlags := 4120, slot := 0, constantValue := 0 }]
  methods := #[k12m0]
  instanceTypes := #[]
  staticTypes := #[.boolean]
  resolved := Array.replicate 395 none
  statics := none }

def pool13 : Array CpInfo := pool [(2, .class_ 4), (1, u "java/lang/Object"), (0, u "<init>"), (0, u "()V"), (17, .class_ 26), (1, u "jdk/internal/util/Preconditions"), (28, .class_ 56), (0, u "jdk/internal/util/Preconditions$4"), (57, .class_ 115), (0, u "jdk/internal/util/Preconditions$1"), (7, u "SIOOBE_FORMATTER"), (0, u "Ljava/util/function/BiFunction;"), (0, .class_ 126), (0, u "jdk/internal/util/Preconditions$2"), (3, u "AIOOBE_FORMATTER"), (0, .class_ 132), (0, u "jdk/internal/util/Preconditions$3"), (3, u "IOOBE_FORMATTER")] 57

def k13m0 : Method := { name := "<init>", desc := "()V", sig := { parameters := [], returnType := none }, accessFlags := 1, code := none }
/-- jdk/internal/util/Preconditions -/
def k13 : Class := { plain "jdk/internal/util/Preconditions" (some 0) with
  accessFlags := 33
  interfaces := #[]
  cf := some (fileOf pool13 24 #[.nestMembers #[55, 131, 125, 114]] #[{ accessFlags := 1, nameIndex := 5, descriptorIndex := 6, attributes := #[] }] 33 2 #[] #[{ accessFlags := 25, nameIndex := 123, descriptorIndex := 124, attributes := #[] }, { accessFlags := 25, nameIndex := 130, descriptorIndex := 124, attributes := #[] }, { accessFlags := 25, nameIndex := 136, descriptorIndex := 124, attributes := #[] }])
  fields := #[{ name := "SIOOBE_FORMATTER", type := (.object "java/util/function/BiFunction"), accessFlags := 25, slot := 0, constantValue := 0 }, { name := "AIOOBE_FORMATTER", type := (.object "java/util/function/BiFunction"), accessFlags := 25, slot := 1, constantValue := 0 }, { name := "IOOBE_FORMATTER", type := (.object "java/util/function/BiFunction"), accessFlags := 25, slot := 2, constantValue := 0 }]
  methods := #[k13m0]
  instanceTypes := #[]
  staticTypes := #[(.object "java/util/function/BiFunction"), (.object "java/util/function/BiFunction"), (.object "java/util/function/BiFunction")]
  resolved := Array.replicate 194 none
  statics := some 2 }

def pool14 : Array CpInfo := pool [(9, u "<init>"), (6, .class_ 18), (1, u "java/lang/Object"), (0, u "()V"), (1, .class_ 23), (1, u "jdk/internal/util/ArraysSupport"), (0, u "LOG2_ARRAY_LONG_INDEX_SCALE"), (0, u "I"), (2, u "U"), (0, u "Ljdk/internal/misc/Unsafe;"), (8, u "BIG_ENDIAN"), (0, u "Z"), (8, u "LOG2_BYTE_BIT_SIZE"), (4, u "LOG2_ARRAY_INT_INDEX_SCALE"), (54, u "JLA"), (0, u "Ljdk/internal/access/JavaLangAccess;"), (11, u "LOG2_ARRAY_BOOLEAN_INDEX_SCALE"), (9, u "LOG2_ARRAY_BYTE_INDEX_SCALE"), (5, u "LOG2_ARRAY_CHAR_INDEX_SCALE"), (5, u "LOG2_ARRAY_SHORT_INDEX_SCALE"), (18, u "LOG2_ARRAY_FLOAT_INDEX_SCALE"), (24, u "LOG2_ARRAY_DOUBLE_INDEX_SCALE"), (89, u "T_BOOLEAN"), (2, u "T_CHAR"), (1, u "T_FLOAT"), (1, u "T_DOUBLE"), (1, u "T_BYTE"), (1, u "T_SHORT"), (1, u "T_INT"), (1, u "T_LONG"), (1, u "SOFT_MAX_ARRAY_LENGTH")] 83

def k14m0 : Method := { name := "<init>", desc := "()V", sig := { parameters := [], returnType := none }, accessFlags := 2, code := none }
/-- jdk/internal/util/ArraysSupport -/
def k14 : Class := { plain "jdk/internal/util/ArraysSupport" (some 0) with
  accessFlags := 33
  interfaces := #[]
  cf := some (fileOf pool14 21 #[] #[{ accessFlags := 2, nameIndex := 9, descriptorIndex := 19, attributes := #[] }] 33 16 #[] #[{ accessFlags := 24, nameIndex := 28, descriptorIndex := 29, attributes := #[] }, { accessFlags := 26, nameIndex := 38, descriptorIndex := 39, attributes := #[] }, { accessFlags := 25, nameIndex := 121, descriptorIndex := 25, attributes := #[] }, { accessFlags := 25, nameIndex := 131, descriptorIndex := 25, attributes := #[] }, { accessFlags := 25, nameIndex := 137, descriptorIndex := 25, attributes := #[] }, { accessFlags := 25, nameIndex := 143, descriptorIndex := 25, attributes := #[] }, { accessFlags := 25, nameIndex := 53, descriptorIndex := 25, attributes := #[] }, { accessFlags := 25, nameIndex := 24, descriptorIndex := 25, attributes := #[] }, { accessFlags := 25, nameIndex := 162, descriptorIndex := 25, attributes := #[] }, { accessFlags := 25, nameIndex := 187, descriptorIndex := 25, attributes := #[] }, { accessFlags := 26, nameIndex := 48, descriptorIndex := 25, attributes := #[] }, { accessFlags := 25, nameIndex := 277, descriptorIndex := 25, attributes := #[] }, { accessFlags := 25, nameIndex := 280, descriptorIndex := 25, attributes := #[] }, { accessFlags := 25, nameIndex := 282, descriptorIndex := 25, attributes := #[] }, { accessFlags := 25, nameIndex := 284, descriptorIndex := 25, attributes := #[] }, { accessFlags := 25, nameIndex := 286, descriptorIndex := 25, attributes := #[] }, { accessFlags := 25, nameIndex := 288, descriptorIndex := 25, attributes := #[] }, { accessFlags := 25, nameIndex := 290, descriptorIndex := 25, attributes := #[] }, { accessFlags := 25, nameIndex := 292, descriptorIndex := 25, attributes := #[] }, { accessFlags := 26, nameIndex := 108, descriptorIndex := 109, attributes := #[] }, { accessFlags := 25, nameIndex := 294, descriptorIndex := 25, attributes := #[] }])
  fields := #[{ name := "U", type := (.object "jdk/internal/misc/Unsafe"), accessFlags := 24, slot := 0, constantValue := 0 }, { name := "BIG_ENDIAN", type := .boolean, accessFlags := 26, slot := 1, constantValue := 0 }, { name := "LOG2_ARRAY_BOOLEAN_INDEX_SCALE", type := .int, accessFlags := 25, slot := 2, constantValue := 0 }, { name := "LOG2_ARRAY_BYTE_INDEX_SCALE", type := .int, accessFlags := 25, slot := 3, constantValue := 0 }, { name := "LOG2_ARRAY_CHAR_INDEX_SCALE", type := .int, accessFlags := 25, slot := 4, constantValue := 0 }, { name := "LOG2_ARRAY_SHORT_INDEX_SCALE", type := .int, accessFlags := 25, slot := 5, constantValue := 0 }, { name := "LOG2_ARRAY_INT_INDEX_SCALE", type := .int, accessFlags := 25, slot := 6, constantValue := 0 }, { name := "LOG2_ARRAY_LONG_INDEX_SCALE", type := .int, accessFlags := 25, slot := 7, constantValue := 0 }, { name := "LOG2_ARRAY_FLOAT_INDEX_SCALE", type := .int, accessFlags := 25, slot := 8, constantValue := 0 }, { name := "LOG2_ARRAY_DOUBLE_INDEX_SCALE", type := .int, accessFlags := 25, slot := 9, constantValue := 0 }, { name := "LOG2_BYTE_BIT_SIZE", type := .int, accessFlags := 26, slot := 10, constantValue := 0 }, { name := "T_BOOLEAN", type := .int, accessFlags := 25, slot := 11, constantValue := 0 }, { name := "T_CHAR", type := .int, accessFlags := 25, slot := 12, constantValue := 0 }, { name := "T_FLOAT", type := .int, accessFlags := 25, slot := 13, constantValue := 0 }, { name := "T_DOUBLE", type := .int, accessFlags := 25, slot := 14, constantValue := 0 }, { name := "T_BYTE", type := .int, accessFlags := 25, slot := 15, constantValue := 0 }, { name := "T_SHORT", type := .int, accessFlags := 25, slot := 16, constantValue := 0 }, { name := "T_INT", type := .int, accessFlags := 25, slot := 17, constantValue := 0 }, { name := "T_LONG", type := .int, accessFlags := 25, slot := 18, constantValue := 0 }, { name := "JLA", type := (.object "jdk/internal/access/JavaLangAccess"), accessFlags := 26, slot := 19, constantValue := 0 }, { name := "SOFT_MAX_ARRAY_LENGTH", type := .int, accessFlags := 25, slot := 20, constantValue := 0 }]
  methods := #[k14m0]
  instanceTypes := #[]
  staticTypes := #[(.object "jdk/internal/misc/Unsafe"), .boolean, .int, .int, .int, .int, .int, .int, .int, .int, .int, .int, .int, .int, .int, .int, .int, .int, .int, (.object "jdk/internal/access/JavaLangAccess"), .int]
  resolved := Array.replicate 378 none
  statics := none }

def pool15 : Array CpInfo := pool [(1, u "java/lang/Cloneable"), (0, .class_ 1), (0, u "java/lang/Object"), (0, .class_ 3)] 3

/-- java/lang/Cloneable -/
def k15 : Class := { plain "java/lang/Cloneable" (some 0) with
  accessFlags := 1537
  interfaces := #[]
  cf := some (fileOf pool15 2 #[] #[] 1537 4 #[] #[])
  fields := #[]
  methods := #[]
  instanceTypes := #[]
  staticTypes := #[]
  resolved := Array.replicate 8 none
  statics := none }

/-- the primitive byte -/
def k16 : Class := { plain "byte" none with kind := .primitive 'B', accessFlags := 0x411 }
/-- [B -/
def k17 : Class := { plain "[B" (some 0) with kind := .array 16 .byte, interfaces := #[15, 2], accessFlags := 1041 }

/-- the primitive char -/
def k18 : Class := { plain "char" none with kind := .primitive 'C', accessFlags := 0x411 }
/-- [C -/
def k19 : Class := { plain "[C" (some 0) with kind := .array 18 .char, interfaces := #[15, 2], accessFlags := 1041 }

def heap : Heap := #[{ cls := 7, slots := #[.long 0, .int 1, .null, .int 0, .null, .int 0, .int 0], vm := .statics 7 },
  { cls := 11, slots := #[.ref 3], vm := .statics 11 },
  { cls := 13, slots := #[.null, .null, .null], vm := .statics 13 },
  { cls := 11, slots := #[.null], vm := .none }]
def classes : Array Class := #[k0, k1, k2, k3, k4, k5, k6, k7, k8, k9, k10, k11, k12, k13, k14, k15, k16, k17, k18, k19]
def interned : List (Array UInt16 × Addr) := []
def slotsUsed : Nat := 12
def theMethod : MethodId := ⟨1, 2⟩
def args0 : Array Value := #[.int 5, .int 6, .int 7, .int 3]
def aboutOver (below : List Frame) : State where
  vm := { classes := classes, interned := interned.toArray }
  heap := heap
  slotsUsed := slotsUsed
  threads := #[{ frames := .invoking theMethod args0 :: below }]
def below0 : List Frame := [.native { method := ⟨0, 0⟩, args := #[] }]
def about1 : State := aboutOver below0
def p0 : Program := .bare "" "" ""
def e0 : Env := launch0.env 0 0 0
theorem w_frames : about1.frames = Frame.invoking theMethod args0 :: below0 := rfl
set_option maxRecDepth 65536 in
theorem w_args : argsFit about1.vm theMethod args0 = true := by decide +kernel
set_option maxRecDepth 65536 in
theorem w_heap : heapFits about1 = true := by decide +kernel
set_option maxRecDepth 65536 in
theorem w_runnable : about1.curStatus? = some .runnable := by decide +kernel
set_option maxRecDepth 65536 in
theorem w_alone : about1.alone = true := by decide +kernel
set_option maxRecDepth 65536 in
theorem w_named : about1.methodNamed? x = some theMethod := by decide +kernel
set_option maxRecDepth 65536 in
theorem w_hears : about1.hears theMethod below0 = true := by decide +kernel
set_option maxRecDepth 65536 in
theorem w_ripe : about1.ripe theMethod args0 below0 = true := by decide +kernel
theorem w_running : about1.status = .running := rfl
set_option maxRecDepth 65536 in
theorem w_room : about1.hasRoom e0.platform room_1 = true :=
  launch0.hasRoom_least _ room_1 (by decide +kernel) (by decide +kernel) (by decide +kernel) (by decide +kernel) (by decide +kernel) (by decide +kernel)
theorem allAtoms_all (ts : List Jvm.Cond) (a : Array Jvm.Value) (st : Jvm.State) : (allAtoms ts).before a st = ts.all (fun c => c.before a st) := by
  induction ts with
  | nil => rfl
  | cons c t ih =>
    show (Jvm.Cond.and c (allAtoms t)).before a st = _
    rw [Jvm.Cond.before_and, ih, List.all_cons]
def words1 : List Jvm.Cond := Jvm.Cond.code x code maxLocals ret :: tables_1
/-- a 'code' word, met by the world's own term for the bytes: nothing is compared byte by byte -/
theorem code_word {y : MethodName} {bytes : ByteArray} {mx : Nat} {rt : Option FieldType} {a : Array Value} {s : State} {m : MethodId} {meth : Method} {c : Code} (h1 : s.methodNamed? y = some m) (h2 : s.vm.method? m = some meth) (h3 : meth.code = some c) (h4 : c.code = bytes)
    (h5 : (c.maxLocals == mx && c.exceptionTable.isEmpty && decide (c.maxStack ≤ mostOperands) && decide (meth.sig.returnType = rt) && !meth.locks && decide (parseMethodDescriptor y.desc = some meth.sig)) = true) : (Jvm.Cond.code y bytes mx rt).before a s = true := by
  simp only [Bool.and_eq_true, beq_iff_eq, Bool.not_eq_true', decide_eq_true_eq] at h5
  obtain ⟨⟨⟨⟨⟨g1, g2⟩, g3⟩, g4⟩, g5⟩, g6⟩ := h5
  simp [Cond.before, Cond.holds, Cond.value, h1, h2, h3, h4, g1, g2, g3, g4, g5, g6]
def isCode : Jvm.Cond → Bool
  | .code _ _ _ _ => true
  | _ => false
theorem all_split {L : List Jvm.Cond} {P : Jvm.Cond → Bool} (h1 : L.all (fun c => isCode c || P c) = true) (h2 : ∀ c ∈ L.filter isCode, P c = true) : L.all P = true := by
  refine List.all_eq_true.mpr fun c hc => ?_
  have h := List.all_eq_true.mp h1 c hc
  rcases Bool.eq_false_or_eq_true (isCode c) with hi | hi
  · exact h2 c (List.mem_filter.mpr ⟨hc, hi⟩)
  · simpa [hi] using h
set_option maxRecDepth 65536 in
theorem w_c0 : (Jvm.Cond.code x code maxLocals ret).before args0 about1 = true := code_word (m := ⟨1, 2⟩) (meth := k1m2) (c := k1c2) (by decide +kernel) rfl rfl rfl (by decide +kernel)
set_option maxRecDepth 65536 in
theorem w_c1 : (Jvm.Cond.code ({ cls := "com/example/row_lease/rowlease/lease/LeaseStatusNeverTakenPinLaw", name := "draw", desc := "(IIII)Ljava/lang/String;" } : Jvm.MethodName) method_2_code (8 : Nat) (Option.some (Jvm.ClassFile.FieldType.object "java/lang/String"))).before args0 about1 = true := code_word (m := ⟨1, 1⟩) (meth := k1m1) (c := k1c1) (by decide +kernel) rfl rfl rfl (by decide +kernel)
set_option maxRecDepth 65536 in
theorem w_c2 : (Jvm.Cond.code ({ cls := "java/lang/String", name := "<init>", desc := "([C)V" } : Jvm.MethodName) jdk_42_method_3_code (2 : Nat) (Option.none : Option Jvm.ClassFile.FieldType)).before args0 about1 = true := code_word (m := ⟨7, 1⟩) (meth := k7m1) (c := k7c1) (by decide +kernel) rfl rfl rfl (by decide +kernel)
set_option maxRecDepth 65536 in
theorem w_c3 : (Jvm.Cond.code ({ cls := "java/lang/String", name := "<init>", desc := "([CIILjava/lang/Void;)V" } : Jvm.MethodName) jdk_42_method_149_code (6 : Nat) (Option.none : Option Jvm.ClassFile.FieldType)).before args0 about1 = true := code_word (m := ⟨7, 4⟩) (meth := k7m4) (c := k7c4) (by decide +kernel) rfl rfl rfl (by decide +kernel)
set_option maxRecDepth 65536 in
theorem w_c4 : (Jvm.Cond.code ({ cls := "java/lang/Object", name := "<init>", desc := "()V" } : Jvm.MethodName) object_method_1_code (1 : Nat) (Option.none : Option Jvm.ClassFile.FieldType)).before args0 about1 = true := code_word (m := ⟨0, 0⟩) (meth := k0m0) (c := k0c0) (by decide +kernel) rfl rfl rfl (by decide +kernel)
set_option maxRecDepth 65536 in
theorem w_c5 : (Jvm.Cond.code ({ cls := "java/lang/StringUTF16", name := "compress", desc := "([CII)[B" } : Jvm.MethodName) jdk_52_method_16_code (6 : Nat) (Option.some (Jvm.ClassFile.FieldType.array Jvm.ClassFile.FieldType.byte))).before args0 about1 = true := code_word (m := ⟨8, 2⟩) (meth := k8m2) (c := k8c2) (by decide +kernel) rfl rfl rfl (by decide +kernel)
set_option maxRecDepth 65536 in
theorem w_c6 : (Jvm.Cond.code ({ cls := "java/lang/StringUTF16", name := "compress", desc := "([CI[BII)I" } : Jvm.MethodName) jdk_52_method_21_code (7 : Nat) (Option.some Jvm.ClassFile.FieldType.int)).before args0 about1 = true := code_word (m := ⟨8, 3⟩) (meth := k8m3) (c := k8c3) (by decide +kernel) rfl rfl rfl (by decide +kernel)
set_option maxRecDepth 65536 in
theorem w_c7 : (Jvm.Cond.code ({ cls := "java/lang/StringUTF16", name := "coderFromArrayLen", desc := "([BI)B" } : Jvm.MethodName) jdk_52_method_15_code (2 : Nat) (Option.some Jvm.ClassFile.FieldType.byte)).before args0 about1 = true := code_word (m := ⟨8, 1⟩) (meth := k8m1) (c := k8c1) (by decide +kernel) rfl rfl rfl (by decide +kernel)
set_option maxRecDepth 65536 in
theorem w_c8 : (Jvm.Cond.code ({ cls := "com/example/row_lease/rowlease/lease/LeaseStatus", name := "neverTaken", desc := "(Ljava/lang/String;)Lcom/example/row_lease/rowlease/lease/LeaseStatus;" } : Jvm.MethodName) prog_15_method_2_code (1 : Nat) (Option.some (Jvm.ClassFile.FieldType.object "com/example/row_lease/rowlease/lease/LeaseStatus"))).before args0 about1 = true := code_word (m := ⟨9, 1⟩) (meth := k9m1) (c := k9c1) (by decide +kernel) rfl rfl rfl (by decide +kernel)
set_option maxRecDepth 65536 in
theorem w_c9 : (Jvm.Cond.code ({ cls := "com/example/row_lease/rowlease/lease/LeaseStatus", name := "<init>", desc := "(Ljava/lang/String;Ljava/lang/String;JJ)V" } : Jvm.MethodName) prog_15_method_1_code (7 : Nat) (Option.none : Option Jvm.ClassFile.FieldType)).before args0 about1 = true := code_word (m := ⟨9, 0⟩) (meth := k9m0) (c := k9c0) (by decide +kernel) rfl rfl rfl (by decide +kernel)
set_option maxRecDepth 65536 in
theorem w_c10 : (Jvm.Cond.code ({ cls := "java/util/Objects", name := "requireNonNull", desc := "(Ljava/lang/Object;Ljava/lang/String;)Ljava/lang/Object;" } : Jvm.MethodName) jdk_31_method_11_code (2 : Nat) (Option.some (Jvm.ClassFile.FieldType.object "java/lang/Object"))).before args0 about1 = true := code_word (m := ⟨10, 1⟩) (meth := k10m1) (c := k10c1) (by decide +kernel) rfl rfl rfl (by decide +kernel)
set_option maxRecDepth 65536 in
theorem w_c11 : (Jvm.Cond.code ({ cls := "com/example/row_lease/rowlease/lease/LeaseStatus", name := "name", desc := "()Ljava/lang/String;" } : Jvm.MethodName) prog_15_method_3_code (1 : Nat) (Option.some (Jvm.ClassFile.FieldType.object "java/lang/String"))).before args0 about1 = true := code_word (m := ⟨9, 2⟩) (meth := k9m2) (c := k9c2) (by decide +kernel) rfl rfl rfl (by decide +kernel)
set_option maxRecDepth 65536 in
theorem w_c12 : (Jvm.Cond.code ({ cls := "java/lang/String", name := "equals", desc := "(Ljava/lang/Object;)Z" } : Jvm.MethodName) jdk_42_method_66_code (3 : Nat) (Option.some Jvm.ClassFile.FieldType.boolean)).before args0 about1 = true := code_word (m := ⟨7, 3⟩) (meth := k7m3) (c := k7c3) (by decide +kernel) rfl rfl rfl (by decide +kernel)
set_option maxRecDepth 65536 in
theorem w_c13 : (Jvm.Cond.code ({ cls := "java/lang/String", name := "length", desc := "()I" } : Jvm.MethodName) jdk_42_method_54_code (1 : Nat) (Option.some Jvm.ClassFile.FieldType.int)).before args0 about1 = true := code_word (m := ⟨7, 2⟩) (meth := k7m2) (c := k7c2) (by decide +kernel) rfl rfl rfl (by decide +kernel)
set_option maxRecDepth 65536 in
theorem w_c14 : (Jvm.Cond.code ({ cls := "java/lang/String", name := "coder", desc := "()B" } : Jvm.MethodName) jdk_42_method_152_code (1 : Nat) (Option.some Jvm.ClassFile.FieldType.byte)).before args0 about1 = true := code_word (m := ⟨7, 5⟩) (meth := k7m5) (c := k7c5) (by decide +kernel) rfl rfl rfl (by decide +kernel)
set_option maxRecDepth 65536 in
theorem w_c15 : (Jvm.Cond.code ({ cls := "com/example/row_lease/rowlease/lease/LeaseStatus", name := "holder", desc := "()Ljava/util/Optional;" } : Jvm.MethodName) prog_15_method_4_code (1 : Nat) (Option.some (Jvm.ClassFile.FieldType.object "java/util/Optional"))).before args0 about1 = true := code_word (m := ⟨9, 3⟩) (meth := k9m3) (c := k9c3) (by decide +kernel) rfl rfl rfl (by decide +kernel)
set_option maxRecDepth 65536 in
theorem w_c16 : (Jvm.Cond.code ({ cls := "java/util/Optional", name := "ofNullable", desc := "(Ljava/lang/Object;)Ljava/util/Optional;" } : Jvm.MethodName) jdk_32_method_4_code (1 : Nat) (Option.some (Jvm.ClassFile.FieldType.object "java/util/Optional"))).before args0 about1 = true := code_word (m := ⟨11, 0⟩) (meth := k11m0) (c := k11c0) (by decide +kernel) rfl rfl rfl (by decide +kernel)
set_option maxRecDepth 65536 in
theorem w_c17 : (Jvm.Cond.code ({ cls := "java/util/Optional", name := "isPresent", desc := "()Z" } : Jvm.MethodName) jdk_32_method_6_code (1 : Nat) (Option.some Jvm.ClassFile.FieldType.boolean)).before args0 about1 = true := code_word (m := ⟨11, 1⟩) (meth := k11m1) (c := k11c1) (by decide +kernel) rfl rfl rfl (by decide +kernel)
set_option maxRecDepth 65536 in
theorem w_c18 : (Jvm.Cond.code ({ cls := "com/example/row_lease/rowlease/lease/LeaseStatus", name := "token", desc := "()J" } : Jvm.MethodName) prog_15_method_5_code (1 : Nat) (Option.some Jvm.ClassFile.FieldType.long)).before args0 about1 = true := code_word (m := ⟨9, 4⟩) (meth := k9m4) (c := k9c4) (by decide +kernel) rfl rfl rfl (by decide +kernel)
set_option maxRecDepth 65536 in
theorem w_c19 : (Jvm.Cond.code ({ cls := "com/example/row_lease/rowlease/lease/LeaseStatus", name := "millisLeft", desc := "()J" } : Jvm.MethodName) prog_15_method_6_code (1 : Nat) (Option.some Jvm.ClassFile.FieldType.long)).before args0 about1 = true := code_word (m := ⟨9, 5⟩) (meth := k9m5) (c := k9c5) (by decide +kernel) rfl rfl rfl (by decide +kernel)
def codes1 : List Jvm.Cond := [Jvm.Cond.code x code maxLocals ret, Jvm.Cond.code ({ cls := "com/example/row_lease/rowlease/lease/LeaseStatusNeverTakenPinLaw", name := "draw", desc := "(IIII)Ljava/lang/String;" } : Jvm.MethodName) method_2_code (8 : Nat) (Option.some (Jvm.ClassFile.FieldType.object "java/lang/String")), Jvm.Cond.code ({ cls := "java/lang/String", name := "<init>", desc := "([C)V" } : Jvm.MethodName) jdk_42_method_3_code (2 : Nat) (Option.none : Option Jvm.ClassFile.FieldType), Jvm.Cond.code ({ cls := "java/lang/String", name := "<init>", desc := "([CIILjava/lang/Void;)V" } : Jvm.MethodName) jdk_42_method_149_code (6 : Nat) (Option.none : Option Jvm.ClassFile.FieldType), Jvm.Cond.code ({ cls := "java/lang/Object", name := "<init>", desc := "()V" } : Jvm.MethodName) object_method_1_code (1 : Nat) (Option.none : Option Jvm.ClassFile.FieldType), Jvm.Cond.code ({ cls := "java/lang/StringUTF16", name := "compress", desc := "([CII)[B" } : Jvm.MethodName) jdk_52_method_16_code (6 : Nat) (Option.some (Jvm.ClassFile.FieldType.array Jvm.ClassFile.FieldType.byte)), Jvm.Cond.code ({ cls := "java/lang/StringUTF16", name := "compress", desc := "([CI[BII)I" } : Jvm.MethodName) jdk_52_method_21_code (7 : Nat) (Option.some Jvm.ClassFile.FieldType.int), Jvm.Cond.code ({ cls := "java/lang/StringUTF16", name := "coderFromArrayLen", desc := "([BI)B" } : Jvm.MethodName) jdk_52_method_15_code (2 : Nat) (Option.some Jvm.ClassFile.FieldType.byte), Jvm.Cond.code ({ cls := "com/example/row_lease/rowlease/lease/LeaseStatus", name := "neverTaken", desc := "(Ljava/lang/String;)Lcom/example/row_lease/rowlease/lease/LeaseStatus;" } : Jvm.MethodName) prog_15_method_2_code (1 : Nat) (Option.some (Jvm.ClassFile.FieldType.object "com/example/row_lease/rowlease/lease/LeaseStatus")), Jvm.Cond.code ({ cls := "com/example/row_lease/rowlease/lease/LeaseStatus", name := "<init>", desc := "(Ljava/lang/String;Ljava/lang/String;JJ)V" } : Jvm.MethodName) prog_15_method_1_code (7 : Nat) (Option.none : Option Jvm.ClassFile.FieldType), Jvm.Cond.code ({ cls := "java/util/Objects", name := "requireNonNull", desc := "(Ljava/lang/Object;Ljava/lang/String;)Ljava/lang/Object;" } : Jvm.MethodName) jdk_31_method_11_code (2 : Nat) (Option.some (Jvm.ClassFile.FieldType.object "java/lang/Object")), Jvm.Cond.code ({ cls := "com/example/row_lease/rowlease/lease/LeaseStatus", name := "name", desc := "()Ljava/lang/String;" } : Jvm.MethodName) prog_15_method_3_code (1 : Nat) (Option.some (Jvm.ClassFile.FieldType.object "java/lang/String")), Jvm.Cond.code ({ cls := "java/lang/String", name := "equals", desc := "(Ljava/lang/Object;)Z" } : Jvm.MethodName) jdk_42_method_66_code (3 : Nat) (Option.some Jvm.ClassFile.FieldType.boolean), Jvm.Cond.code ({ cls := "java/lang/String", name := "length", desc := "()I" } : Jvm.MethodName) jdk_42_method_54_code (1 : Nat) (Option.some Jvm.ClassFile.FieldType.int), Jvm.Cond.code ({ cls := "java/lang/String", name := "coder", desc := "()B" } : Jvm.MethodName) jdk_42_method_152_code (1 : Nat) (Option.some Jvm.ClassFile.FieldType.byte), Jvm.Cond.code ({ cls := "com/example/row_lease/rowlease/lease/LeaseStatus", name := "holder", desc := "()Ljava/util/Optional;" } : Jvm.MethodName) prog_15_method_4_code (1 : Nat) (Option.some (Jvm.ClassFile.FieldType.object "java/util/Optional")), Jvm.Cond.code ({ cls := "java/util/Optional", name := "ofNullable", desc := "(Ljava/lang/Object;)Ljava/util/Optional;" } : Jvm.MethodName) jdk_32_method_4_code (1 : Nat) (Option.some (Jvm.ClassFile.FieldType.object "java/util/Optional")), Jvm.Cond.code ({ cls := "java/util/Optional", name := "isPresent", desc := "()Z" } : Jvm.MethodName) jdk_32_method_6_code (1 : Nat) (Option.some Jvm.ClassFile.FieldType.boolean), Jvm.Cond.code ({ cls := "com/example/row_lease/rowlease/lease/LeaseStatus", name := "token", desc := "()J" } : Jvm.MethodName) prog_15_method_5_code (1 : Nat) (Option.some Jvm.ClassFile.FieldType.long), Jvm.Cond.code ({ cls := "com/example/row_lease/rowlease/lease/LeaseStatus", name := "millisLeft", desc := "()J" } : Jvm.MethodName) prog_15_method_6_code (1 : Nat) (Option.some Jvm.ClassFile.FieldType.long)]
set_option maxRecDepth 65536 in
theorem codes_eq : words1.filter isCode = codes1 := rfl
theorem w_codes : ∀ c ∈ words1.filter isCode, c.before args0 about1 = true := by
  rw [codes_eq]
  intro c hc
  simp only [codes1, List.mem_cons, List.not_mem_nil, or_false] at hc
  rcases hc with rfl | rfl | rfl | rfl | rfl | rfl | rfl | rfl | rfl | rfl | rfl | rfl | rfl | rfl | rfl | rfl | rfl | rfl | rfl | rfl
  · exact w_c0
  · exact w_c1
  · exact w_c2
  · exact w_c3
  · exact w_c4
  · exact w_c5
  · exact w_c6
  · exact w_c7
  · exact w_c8
  · exact w_c9
  · exact w_c10
  · exact w_c11
  · exact w_c12
  · exact w_c13
  · exact w_c14
  · exact w_c15
  · exact w_c16
  · exact w_c17
  · exact w_c18
  · exact w_c19
set_option maxRecDepth 65536 in
theorem w_t1 : (words1.take 24).all (fun c => isCode c || c.before args0 about1) = true := by decide +kernel
set_option maxRecDepth 65536 in
theorem w_t2 : ((words1.drop 24).take 24).all (fun c => isCode c || c.before args0 about1) = true := by decide +kernel
set_option maxRecDepth 65536 in
theorem w_t3 : (((words1.drop 24).drop 24).take 24).all (fun c => isCode c || c.before args0 about1) = true := by decide +kernel
set_option maxRecDepth 65536 in
theorem w_t4 : ((((words1.drop 24).drop 24).drop 24).take 24).all (fun c => isCode c || c.before args0 about1) = true := by decide +kernel
set_option maxRecDepth 65536 in
theorem w_t5 : ((((words1.drop 24).drop 24).drop 24).drop 24).all (fun c => isCode c || c.before args0 about1) = true := by decide +kernel
theorem w_tables : (allAtoms (Jvm.Cond.code x code maxLocals ret :: tables_1)).before args0 about1 = true := by
  rw [allAtoms_all]
  show words1.all (fun c => c.before args0 about1) = true
  refine all_split ?_ w_codes
  rw [← List.take_append_drop 24 words1, List.all_append, w_t1, ← List.take_append_drop 24 (words1.drop 24), List.all_append, w_t2, ← List.take_append_drop 24 ((words1.drop 24).drop 24), List.all_append, w_t3, ← List.take_append_drop 24 (((words1.drop 24).drop 24).drop 24), List.all_append, w_t4, w_t5]
  rfl
set_option maxRecDepth 65536 in
theorem w_rest : rest_1_c.before args0 about1 = true := by decide +kernel
set_option maxRecDepth 65536 in
theorem w_case : (Jvm.Cond.and given_1 narrow_1).before args0 about1 = true := by decide +kernel
set_option maxRecDepth 65536 in
theorem w_consts : constsHeld consts_1 about1 := Jvm.Lit.constsHeldB_iff.mp (by decide +kernel)
theorem w_applies : (headSpec (Jvm.Cond.code x code maxLocals ret :: tables_1) room_1).applies x e0.platform about1 = true :=
  (Spec.applies_iff w_frames).mpr ⟨w_running, w_runnable, w_alone, w_named, w_hears, w_ripe, w_room, w_tables⟩
theorem atStart : AtStart classFile x code maxLocals ret World_1 tables_1 room_1 Calls_1 rest_1 Pre_1 launch0 p0 e0 about1 theMethod args0 below0 :=
  ⟨lists_1, trivial, launch0.admits_env _ _ _, launch0.least_env, fairChoices_fair.cas, fairChoices_fair.clock, w_frames, w_args, w_heap, w_applies, ⟨w_consts, trivial⟩, w_rest, w_case⟩
end start1
theorem witness_1 : WitnessClaimed_1 := ⟨start1.p0, start1.e0, start1.about1, start1.theMethod, start1.args0, start1.below0, start1.atStart⟩
end Jvm.Pilot.@@N@@
