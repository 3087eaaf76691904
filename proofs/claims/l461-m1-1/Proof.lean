import JvmDerived
import JvmDerived.Pilot.@@N@@Statement
import JvmDerived.Pilot.@@N@@Code
set_option linter.unusedVariables false
set_option linter.unusedSimpArgs false
namespace Jvm.OwnKit
open Sem ClassFile Op Lib Jvm.Stand Jvm.Free Jvm.LawKit Jvm.RoadKit Bundle
/-! The walk's own layer: one predicate for where a walk stands (Wk), one for what it still owes (Owe), one for a callee's contract (Ctr); literals may be interned on the road. -/
theorem nle {a b : Nat} (h : Nat.ble a b = true := by rfl) : a ≤ b := Nat.le_of_ble_eq_true h
theorem nlt {a b : Nat} (h : Nat.ble (a + 1) b = true := by rfl) : a < b := Nat.le_of_ble_eq_true h
def Owe (p : Program) (e : Env) (below : List Frame) (Post : Outcome → State → Prop) (T : State) (g : JFrame) : Prop :=
  ∃ (s₂ : State) (o : Outcome), Steps p.tables e below (T.setTop g) s₂ ∧ s₂.status = .running ∧ Ended s₂ below o ∧ Post o s₂
section OweS
variable {p : Program} {e : Env} {below : List Frame} {Post : Outcome → State → Prop} {T T' : State} {g g' : JFrame}
theorem Owe.via (st : ∀ t, Steps p.tables e below (T'.setTop g') t → Steps p.tables e below (T.setTop g) t) (k : Owe p e below Post T' g') : Owe p e below Post T g := by
  obtain ⟨s₂, o, h1, h2⟩ := k
  exact ⟨s₂, o, st _ h1, h2⟩
theorem Owe.go (st : Steps p.tables e below (T.setTop g) (T'.setTop g')) (k : Owe p e below Post T' g') : Owe p e below Post T g := by
  obtain ⟨s₂, o, h1, h2⟩ := k
  exact ⟨s₂, o, st.trans h1, h2⟩
theorem Owe.join {P : Prop} (g'' : JFrame) (h1 : P → Owe p e below Post T g'') (h2 : (P → Owe p e below Post T g'') → Owe p e below Post T g) : Owe p e below Post T g := h2 h1
theorem Owe.stk {m : MethodId} {pc : Nat} {ls : Array Slot} {st : List Value} (st' : List Value) (kk : Owe p e below Post T (mkF m pc ls st')) (q : st = st' := by rfl) : Owe p e below Post T (mkF m pc ls st) := q ▸ kk
theorem Owe.cast (q : g = g') (k : Owe p e below Post T g') : Owe p e below Post T g := q ▸ k
end OweS
/-- what is ours to write -/
def Mine (Z : State) (EL : List (String × Nat)) (hs : Heap) (sf0 : List Addr) (vm : Vm) (h : Heap) (sf : List Addr) : Prop :=
  ∀ x ∈ sf, x < h.size ∧ Z.heap.size ≤ x ∧ (x ∈ sf0 ∨ hs.size ≤ x) ∧ Safe Z EL vm h x
/-- where a walk stands -/
def Wk (p : Program) (l : Launch) (e : Env) (R : Room) (s : State) (m : MethodId) (args : Array Value) (below : List Frame) (meth : Method) (c : Code) (Z : State) (a0 : Array Value) (EL : List (String × Nat)) (own : String) (mx : Nat) (sf0 sf : List Addr) (T : State) (locs : List Loc) (cells slots : Nat) (h : Heap) : Prop :=
  (p.tables.exec = Jvm.exec ∧ EW Z a0 EL ∧ c.maxLocals = mx) ∧ ∃ (vm0 : Vm) (k0 : Nat), Stand p l e R (s.setVm vm0) m args below meth c T locs cells slots ∧ T.heap = h ∧ s.Since vm0 k0 ∧ k0 ≤ h.size ∧ Z.Warmed39 vm0 ∧ vm0.findClass own = some m.cls ∧ CHr Z EL s.vm s.heap vm0 h ∧ Fr Z.heap.size locs ∧ Ext Z.heap h ∧ Keep s.heap h sf0 ∧ Mine Z EL s.heap sf0 vm0 h sf
/-- the end of a contract -/
def PostW (Z : State) (EL : List (String × Nat)) (sf : List Addr) (rm : Room) (Q : Option Value → Heap → List Addr → Prop) (U : State) (o : Outcome) (U' : State) : Prop :=
  ∃ (v : Option Value) (L : List Loc) (fs : List Addr), o = .returned v ∧ Q v U'.heap fs ∧ Fr Z.heap.size L ∧ Ext Z.heap U'.heap ∧ Keep U.heap U'.heap sf ∧ CHr Z EL U.vm U.heap U'.vm U'.heap ∧ (∀ x ∈ fs, x < U'.heap.size ∧ Z.heap.size ≤ x ∧ U.heap.size ≤ x ∧ Safe Z EL U'.vm U'.heap x) ∧ ReturnedEndW U o U' L rm.cells rm.slots
/-- a body's contract, at one heap -/
def Ctr (l : Launch) (Z : State) (EL : List (String × Nat)) (y : MethodName) (bytes : ByteArray) (maxL : Nat) (ret : Option FieldType) (ws : List Cond) (rm : Room) (as' : Array Value) (sf : List Addr) (h : Heap) (Q : Option Value → Heap → List Addr → Prop) : Prop :=
  MetFree l y (head1 (Cond.code y bytes maxL ret :: ws) rm) (fun a U => a = as' ∧ Z.Warmed39 U.vm ∧ U.heap = h ∧ CHv Z EL U.vm h ∧ ∀ x ∈ sf, Safe Z EL U.vm h x) (fun _ _ _ _ _ => True) (fun _ U o U' => PostW Z EL sf rm Q U o U')
abbrev chr (x : Int32) : Int32 := x.toUInt32.toUInt16.toUInt32.toInt32
abbrev byt (x : Int32) : Int32 := x.toInt8.toInt32
theorem nar_byt (x : Int32) : nar .byte (byt x) = byt x := by simp [nar, byt]
theorem chr_rng (x : Int32) : ¬ chr x < (0 : Int32) ∧ ¬ (65535 : Int32) < chr x := by
  have q := c_i2c x
  simp only [Int32.lt_iff_toInt_lt, Int32.reduceToInt, chr]
  omega
theorem chr_id {c : Int32} (h1 : ¬ c < (0 : Int32)) (h2 : ¬ (65535 : Int32) < c) : chr c = c := by
  have q := c_i2c c
  simp only [Int32.lt_iff_toInt_lt, Int32.reduceToInt] at h1 h2
  refine Int32.toInt_inj.mp ?_
  show c.toUInt32.toUInt16.toUInt32.toInt32.toInt = _
  omega
theorem allP1 {sf : List Addr} {n : Nat} {a : Addr} (h1 : a ∈ sf) (g1 : n ≤ a) : ∀ x ∈ [a], x ∈ sf ∧ n ≤ x := fun x hx => by obtain rfl := List.mem_singleton.mp hx; exact ⟨h1, g1⟩
theorem extTrans {h h' h'' : Heap} (A : Ext h h') (B : Ext h' h'') : Ext h h'' := ⟨Nat.le_trans A.1 B.1, fun a c q => B.2 a c (A.2 a c q)⟩
theorem Ctr.intro {l : Launch} {Z : State} {a0 : Array Value} {EL : List (String × Nat)} {y : MethodName} {bytes : ByteArray} {maxL : Nat} {ret : Option FieldType} {ws : List Cond} {rm : Room} {as' : Array Value} {sf : List Addr} {h : Heap} {Q : Option Value → Heap → List Addr → Prop}
    (hn : plainName y.cls = true) (hEL : EW Z a0 EL) (hZh : Ext Z.heap h) (hsf : ∀ x ∈ sf, x < h.size ∧ Z.heap.size ≤ x)
    (body : ∀ (p : Program) (e : Env) (s : State) (m : MethodId) (below : List Frame) (meth : Method) (c : Code) (s₁ : State), c.code = bytes → c.maxLocals = maxL → meth.sig.returnType = ret → meth.name = y.name → meth.locks = false → s.heap = h →
      Wk p l e rm s m as' below meth c Z a0 EL y.cls maxL sf sf s₁ [] 0 0 h → Owe p e below (PostW Z EL sf rm Q s) s₁ (entryFrame m as' maxL)) : Ctr l Z EL y bytes maxL ret ws rm as' sf h Q := by
  refine MetFree.of_bodySF (plainFor_of_name hn) hisR ?_
  intro p e s m args below meth c s₁ Bd hml hP hK
  obtain ⟨rfl, hZ, rfl, hC, hS⟩ := hP
  have X0 : Stand p l e rm (s.setVm s.vm) m args below meth c s₁ [] 0 0 := Stand.of_body Bd
  exact body p e s m below meth c s₁ Bd.bytes hml Bd.returns (name_of_methodNamed Bd.named Bd.method).1 Bd.notSynchronized rfl
    ⟨⟨Bd.exec, hEL, hml⟩, s.vm, s.heap.size, X0, by rw [Bd.state]; rfl, (State.WarmedH.refl s).since _, Nat.le_refl _, hZ, findClass_of_methodNamed Bd.named, CHr.refl hC, Fr.nil _, hZh, Keep.refl _ _, fun x hx => ⟨(hsf x hx).1, (hsf x hx).2, Or.inl hx, hS x hx⟩⟩
theorem Ctr.mono {l : Launch} {Z : State} {EL : List (String × Nat)} {y : MethodName} {bytes : ByteArray} {maxL : Nat} {ret : Option FieldType} {ws : List Cond} {rm : Room} {as' : Array Value} {sf : List Addr} {h : Heap} {Q Q' : Option Value → Heap → List Addr → Prop}
    (C : Ctr l Z EL y bytes maxL ret ws rm as' sf h Q) (q : ∀ v h' fs, Q v h' fs → Q' v h' fs) : Ctr l Z EL y bytes maxL ret ws rm as' sf h Q' := by
  intro p e ha hc hk s m args below hf happ hP hK
  obtain ⟨n, o, h1, h2, h3, v, L, fs, r1, r2, r3⟩ := C p e ha hc hk s m args below hf happ hP hK
  exact ⟨n, o, h1, h2, h3, v, L, fs, r1, q _ _ _ r2, r3⟩
theorem Owe.mono {p : Program} {e : Env} {below : List Frame} {Z : State} {EL : List (String × Nat)} {sf : List Addr} {rm : Room} {Q Q' : Option Value → Heap → List Addr → Prop} {s T : State} {g : JFrame} (q : ∀ v h fs, Q v h fs → Q' v h fs) (k : Owe p e below (PostW Z EL sf rm Q s) T g) : Owe p e below (PostW Z EL sf rm Q' s) T g := by
  obtain ⟨s₂, o, h1, h2, h3, v, L, fs, r1, r2, r3⟩ := k
  exact ⟨s₂, o, h1, h2, h3, v, L, fs, r1, q _ _ _ r2, r3⟩
section Walk
variable {p : Program} {l : Launch} {e : Env} {R : Room} {s : State} {m : MethodId} {args : Array Value} {below : List Frame} {meth : Method} {c : Code} {Z : State} {a0 : Array Value} {EL : List (String × Nat)} {own : String} {mx : Nat} {sf0 sf : List Addr} {T : State} {locs : List Loc} {cells slots : Nat} {h : Heap} {Post : Outcome → State → Prop} {pc pc' : Nat} {ls : Array Slot} {st : List Value}
theorem Wk.here (K : Wk p l e R s m args below meth c Z a0 EL own mx sf0 sf T locs cells slots h) : At T m c below := by obtain ⟨-, vm0, k0, X, -⟩ := K; exact X.here
theorem Wk.hx (K : Wk p l e R s m args below meth c Z a0 EL own mx sf0 sf T locs cells slots h) : p.tables.exec = Jvm.exec := K.1.1
theorem Wk.old (K : Wk p l e R s m args below meth c Z a0 EL own mx sf0 sf T locs cells slots h) : Ext Z.heap h := by obtain ⟨-, vm0, k0, -, -, -, -, -, -, -, -, q, -⟩ := K; exact q
theorem Wk.keep (K : Wk p l e R s m args below meth c Z a0 EL own mx sf0 sf T locs cells slots h) : Keep s.heap h sf0 := by obtain ⟨-, vm0, k0, -, -, -, -, -, -, -, -, -, q, -⟩ := K; exact q
theorem Wk.lt {x : Addr} (K : Wk p l e R s m args below meth c Z a0 EL own mx sf0 sf T locs cells slots h) (hx : x ∈ sf) : x < h.size := by obtain ⟨-, vm0, k0, -, -, -, -, -, -, -, -, -, -, q⟩ := K; exact (q x hx).1
theorem Wk.ge {x : Addr} (K : Wk p l e R s m args below meth c Z a0 EL own mx sf0 sf T locs cells slots h) (hx : x ∈ sf) : Z.heap.size ≤ x := by obtain ⟨-, vm0, k0, -, -, -, -, -, -, -, -, -, -, q⟩ := K; exact (q x hx).2.1
theorem Wk.both (K : Wk p l e R s m args below meth c Z a0 EL own mx sf0 sf T locs cells slots h) {sf' : List Addr} (q : ∀ x ∈ sf', x ∈ sf := by simp) : ∀ x ∈ sf', x < h.size ∧ Z.heap.size ≤ x := fun x hx => ⟨K.lt (q x hx), K.ge (q x hx)⟩
theorem Wk.to (K : Wk p l e R s m args below meth c Z a0 EL own mx sf0 sf T locs cells slots h) (cells' slots' : Nat) (sf' : List Addr) (hc : cells ≤ cells' := by exact nle) (hs : slots ≤ slots' := by exact nle) (q : ∀ x ∈ sf', x ∈ sf := by exact fun _ h => h) : Wk p l e R s m args below meth c Z a0 EL own mx sf0 sf' T locs cells' slots' h := by
  obtain ⟨q0, vm0, k0, X, r1, r2, r3, r4, r5, r6, r7, r8, r9, M⟩ := K
  exact ⟨q0, vm0, k0, X.more hc hs, r1, r2, r3, r4, r5, r6, r7, r8, r9, fun x hx => M x (q x hx)⟩
theorem Wk.more {cells' slots' : Nat} {sf' : List Addr} (K : Wk p l e R s m args below meth c Z a0 EL own mx sf0 sf T locs cells slots h) (hc : cells ≤ cells') (hs : slots ≤ slots') (q : ∀ x ∈ sf', x ∈ sf) : Wk p l e R s m args below meth c Z a0 EL own mx sf0 sf' T locs cells' slots' h := by
  obtain ⟨q0, vm0, k0, X, r1, r2, r3, r4, r5, r6, r7, r8, r9, M⟩ := K
  exact ⟨q0, vm0, k0, X.more hc hs, r1, r2, r3, r4, r5, r6, r7, r8, r9, fun x hx => M x (q x hx)⟩
/-! ### steps that leave the heap -/
theorem oGetF (K : Wk p l e R s m args below meth c Z a0 EL own mx sf0 sf T locs cells slots h) (pc' : Nat) {O n d : String} {index : Nat} {a : Addr} {v : Value} {rest : List Value} (w : (Cond.fieldLink own index O n d).before a0 Z = true) (F : Fld Z h a O n d v) (hd : decode c.code pc = .ok (.getfield index, 3)) (kk : ∀ T' : State, Wk p l e R s m args below meth c Z a0 EL own mx sf0 sf T' locs cells slots h → Owe p e below Post T' (mkF m pc' ls (v :: rest))) (hp : pc + 3 = pc' := by rfl) : Owe p e below Post T (mkF m pc ls (.ref a :: rest)) := by
  subst hp
  have hg : (mkF m pc ls (.ref a :: rest)).method = m := rfl
  have hs : (mkF m pc ls (.ref a :: rest)).stack = (.ref a :: rest) := rfl
  obtain ⟨q0, vm0, k0, X, eT, hS, hk, hZ, hown, q⟩ := K
  obtain ⟨T', X', e', st⟩ := getF (own := own) (host := "") X q0.1 (show Z.Warmed39 (s.setVm vm0).vm from hZ) hown (Or.inl w) Via.refl eT F hg hs hd
  exact Owe.via st (kk T' ⟨q0, vm0, k0, X', e', hS, hk, hZ, hown, q⟩)
theorem oGetS (K : Wk p l e R s m args below meth c Z a0 EL own mx sf0 sf T locs cells slots h) (pc' : Nat) {O n d : String} {index : Nat} {v : Value} (w : (Cond.fieldLink own index O n d).before a0 Z = true) (F : Sta Z h O n d v) (hd : decode c.code pc = .ok (.getstatic index, 3)) (kk : ∀ T' : State, Wk p l e R s m args below meth c Z a0 EL own mx sf0 sf T' locs cells slots h → Owe p e below Post T' (mkF m pc' ls (v :: st))) (hp : pc + 3 = pc' := by rfl) : Owe p e below Post T (mkF m pc ls st) := by
  subst hp
  have hg : (mkF m pc ls st).method = m := rfl
  obtain ⟨q0, vm0, k0, X, eT, hS, hk, hZ, hown, q⟩ := K
  obtain ⟨T', X', e', st⟩ := getS (own := own) (host := "") X q0.1 (show Z.Warmed39 (s.setVm vm0).vm from hZ) hown w Via.refl eT F hg hd
  exact Owe.via st (kk T' ⟨q0, vm0, k0, X', e', hS, hk, hZ, hown, q⟩)
theorem oInitO (K : Wk p l e R s m args below meth c Z a0 EL own mx sf0 sf T locs cells slots h) (pc' : Nat) {idx : Nat} {a : Addr} {rest : List Value} (w1 : (Cond.methodLink own idx Lib.objectInit).before a0 Z = true) (w2 : (Cond.instanceMethod Lib.objectInit).before a0 Z = true) (w3 : (Cond.code Lib.objectInit ⟨#[0xb1]⟩ 1 none).before a0 Z = true) (hsize : ls.size = mx) (hd : decode c.code pc = .ok (.invokespecial idx, 3))
    (hf : 1 ≤ R.frames) {W : Nat} (hW : 2 * 0 + (rest.map fun v => v.category).sum ≤ W) (hl : W + 12 ≤ R.locals) (kk : ∀ T' : State, Wk p l e R s m args below meth c Z a0 EL own mx sf0 sf T' locs cells slots h → Owe p e below Post T' (mkF m pc' ls (rest))) (hp : pc + 3 = pc' := by rfl) : Owe p e below Post T (mkF m pc ls (.ref a :: rest)) := by
  subst hp
  have hg : (mkF m pc ls (.ref a :: rest)).method = m := rfl
  have hs : (mkF m pc ls (.ref a :: rest)).stack = (.ref a :: rest) := rfl
  obtain ⟨q0, vm0, k0, X, eT, hS, hk, hZ, hown, q⟩ := K
  obtain ⟨T', X', e', st⟩ := initO (own := own) X q0.1 (show Z.Warmed39 (s.setVm vm0).vm from hZ) hown w1 w2 w3 eT hg (hsize.trans q0.2.2.symm) hs hd hf hW hl
  exact Owe.via st (kk T' ⟨q0, vm0, k0, X', e', hS, hk, hZ, hown, q⟩)
theorem oLdcI (K : Wk p l e R s m args below meth c Z a0 EL own mx sf0 sf T locs cells slots h) (pc' : Nat) {index : Nat} {v : Int32} (w : (Cond.constant own index v).before a0 Z = true) (hd : decode c.code pc = .ok (.ldc index, 2)) (kk : Owe p e below Post T (mkF m pc' ls (.int v :: st))) (hp : pc + 2 = pc' := by rfl) : Owe p e below Post T (mkF m pc ls st) := by
  subst hp
  have hg : (mkF m pc ls st).method = m := rfl
  obtain ⟨q0, vm0, k0, X, eT, hS, hk, hZ, hown, q⟩ := K
  exact Owe.via (fun t r => X.ldcInt q0.1 (own := own) hown (mv (show Z.Warmed39 (s.setVm vm0).vm from hZ) w) hg hd t r) kk
/-! ### arrays of known components -/
def Ary (Z : State) (h : Heap) (a : Addr) (ty : FieldType) (vs : List Value) : Prop := ∃ cl : Cell, Arr Z h a cl ty ∧ cl.slots = vs.toArray ∧ vs.length < 2 ^ 31 ∧ ∀ v ∈ vs, fits ty v = true
theorem Ary.lt {a : Addr} {ty : FieldType} {vs : List Value} (F : Ary Z h a ty vs) : a < h.size := by obtain ⟨_, A, -⟩ := F; exact A.lt
theorem Ary.ext {h' : Heap} {a : Addr} {ty : FieldType} {vs : List Value} (F : Ary Z h a ty vs) (E : Ext h h') : Ary Z h' a ty vs := by obtain ⟨cl, A, r⟩ := F; exact ⟨cl, A.ext E, r⟩
theorem Ary.other {h' : Heap} {a b : Addr} {ty : FieldType} {vs : List Value} {sl : Nat} {v : Value} (F : Ary Z h b ty vs) (W : Wr h h' a sl v) (q : b ≠ a) : Ary Z h' b ty vs := by obtain ⟨cl, A, r⟩ := F; exact ⟨cl, A.other W q, r⟩
theorem Ary.keep {h' : Heap} {a : Addr} {ty : FieldType} {vs : List Value} {ws : List Addr} (F : Ary Z h a ty vs) (K : Keep h h' ws) (q : a ∉ ws) : Ary Z h' a ty vs := by obtain ⟨cl, A, r⟩ := F; exact ⟨cl, ⟨K.2.1 a cl A.1 q, A.2⟩, r⟩
theorem Ary.same {h' : Heap} {a : Addr} {ty : FieldType} {vs : List Value} {i : Nat} {v : Value} (F : Ary Z h a ty vs) (W : Wr h h' a i v) (hv : fits ty v = true) : Ary Z h' a ty (vs.set i v) := by
  obtain ⟨cl, A, r1, r2, r3⟩ := F
  refine ⟨cl.setSlot i v, A.same W, ?_, by simpa using r2, fun w hw => ?_⟩
  · show cl.slots.setIfInBounds i v = _
    rw [r1]; simp
  · rcases List.mem_or_eq_of_mem_set hw with q | rfl
    · exact r3 _ q
    · exact hv
def lats : List Int32 → Prop
  | [] => True
  | c :: r => ¬ (255 : Int32) < c ∧ lats r
def wides : List Int32 → List Value
  | [] => []
  | c :: r => .int (byt (c >>> ((0 : Int32) &&& 31))) :: .int (byt (c >>> ((8 : Int32) &&& 31))) :: wides r
/-- a String of these chars, in either form -/
def Str (Z : State) (h : Heap) (b : Nat) (x : Addr) (cs : List Int32) : Prop :=
  ∃ t : Addr, (x < b ∧ b ≤ h.size) ∧ t < b ∧ Exa Z h x "java/lang/String" ∧ Fld Z h x "java/lang/String" "value" "[B" (.ref t) ∧ ((Fld Z h x "java/lang/String" "coder" "B" (.int (0 : Int32)) ∧ Ary Z h t .byte (cs.map fun c => .int (byt c)) ∧ lats cs) ∨ (Fld Z h x "java/lang/String" "coder" "B" (.int (1 : Int32)) ∧ Ary Z h t .byte (wides cs)))
theorem Str.lat {x t : Addr} {cs : List Int32} (E : Exa Z h x "java/lang/String") (V : Fld Z h x "java/lang/String" "value" "[B" (.ref t)) (C : Fld Z h x "java/lang/String" "coder" "B" (.int (0 : Int32))) (A : Ary Z h t .byte (cs.map fun c => .int (byt c))) (L : lats cs) : Str Z h h.size x cs := ⟨t, ⟨E.lt, Nat.le_refl _⟩, A.lt, E, V, Or.inl ⟨C, A, L⟩⟩
theorem Str.wide {x t : Addr} {cs : List Int32} (E : Exa Z h x "java/lang/String") (V : Fld Z h x "java/lang/String" "value" "[B" (.ref t)) (C : Fld Z h x "java/lang/String" "coder" "B" (.int (1 : Int32))) (A : Ary Z h t .byte (wides cs)) : Str Z h h.size x cs := ⟨t, ⟨E.lt, Nat.le_refl _⟩, A.lt, E, V, Or.inr ⟨C, A⟩⟩
theorem Str.exa {b : Nat} {x : Addr} {cs : List Int32} (S : Str Z h b x cs) : Exa Z h x "java/lang/String" := by obtain ⟨_, -, -, E, -⟩ := S; exact E
theorem Str.lt {b : Nat} {x : Addr} {cs : List Int32} (S : Str Z h b x cs) : x < h.size := S.exa.lt
theorem Str.ext {h' : Heap} {b : Nat} {x : Addr} {cs : List Int32} (S : Str Z h b x cs) (E : Ext h h') : Str Z h' b x cs := by
  obtain ⟨t, l1, l2, e, V, ⟨C, A, L⟩ | ⟨C, A⟩⟩ := S
  · exact ⟨t, ⟨l1.1, Nat.le_trans l1.2 E.1⟩, l2, e.ext E, V.ext E, Or.inl ⟨C.ext E, A.ext E, L⟩⟩
  · exact ⟨t, ⟨l1.1, Nat.le_trans l1.2 E.1⟩, l2, e.ext E, V.ext E, Or.inr ⟨C.ext E, A.ext E⟩⟩
theorem Str.keep {h' : Heap} {b : Nat} {x : Addr} {cs : List Int32} {ws : List Addr} (S : Str Z h b x cs) (K : Keep h h' ws) (q : ∀ w ∈ ws, b ≤ w) : Str Z h' b x cs := by
  obtain ⟨t, l1, l2, e, V, r⟩ := S
  have n1 : x ∉ ws := fun g => absurd (q x g) (Nat.not_le_of_lt l1.1)
  have n2 : t ∉ ws := fun g => absurd (q t g) (Nat.not_le_of_lt l2)
  rcases r with ⟨C, A, L⟩ | ⟨C, A⟩
  · exact ⟨t, ⟨l1.1, Nat.le_trans l1.2 K.1⟩, l2, e.keep K, V.keep K n1, Or.inl ⟨C.keep K n1, A.keep K n2, L⟩⟩
  · exact ⟨t, ⟨l1.1, Nat.le_trans l1.2 K.1⟩, l2, e.keep K, V.keep K n1, Or.inr ⟨C.keep K n1, A.keep K n2⟩⟩
theorem Str.wr {h' : Heap} {b : Nat} {x a : Addr} {cs : List Int32} {sl : Nat} {v : Value} (S : Str Z h b x cs) (W : Wr h h' a sl v) (q : b ≤ a) : Str Z h' b x cs := by
  obtain ⟨t, l1, l2, e, V, r⟩ := S
  have n1 : x ≠ a := Nat.ne_of_lt (Nat.lt_of_lt_of_le l1.1 q)
  have n2 : t ≠ a := Nat.ne_of_lt (Nat.lt_of_lt_of_le l2 q)
  rcases r with ⟨C, A, L⟩ | ⟨C, A⟩
  · exact ⟨t, ⟨l1.1, by rw [W.size]; exact l1.2⟩, l2, e.wr W, Fld.other W V (Or.inl n1), Or.inl ⟨Fld.other W C (Or.inl n1), A.other W n2, L⟩⟩
  · exact ⟨t, ⟨l1.1, by rw [W.size]; exact l1.2⟩, l2, e.wr W, Fld.other W V (Or.inl n1), Or.inr ⟨Fld.other W C (Or.inl n1), A.other W n2⟩⟩
theorem geN {b : Nat} : ∀ w ∈ ([] : List Addr), b ≤ w := fun _ h => by cases h
theorem Ary.start {args : Array Value} {t : Term} {a : Addr} {ty : FieldType} {vs : List Value} (hF : Fit Z) (ev : t.eval args Z none [] Z = some (.ref a)) (hx : (Cond.arrayOf t ty).value args Z none Z [] = some true) {n : Int32} (hl : (Term.length t).eval args Z none [] Z = some (.int n)) (hn : n.toNatClampNeg = vs.length)
    (he : ∀ (i : Nat) (v : Value), vs[i]? = some v → (Int32.ofNat i).toNatClampNeg = i ∧ (Term.elem t (.int (Int32.ofNat i))).eval args Z none [] Z = some v) : Ary Z Z.heap a ty vs := by
  obtain ⟨cl, A⟩ := Arr.start ev hx
  have ha : Z.arrayAt? a = some cl := Arr.fin (Vm.Alike.refl _) A
  obtain ⟨a', cl', e1, e2, e3⟩ := Term.length_spec hl
  cases ev.symm.trans e1
  cases ha.symm.trans e2
  have hb : cl.slots.size < 2 ^ 31 := by
    refine Classical.byContradiction fun q => ?_
    have z : (Term.length t).eval args Z none [] Z = none := by simp [Term.eval, ev, ha]; omega
    rw [hl] at z; cases z
  have hsz : cl.slots.size = vs.length := by
    have e4 : n = cl.slots.size.toInt32 := Value.int.inj e3
    rw [← hn, e4]
    have := Int32.toNatClampNeg_ofNat_of_lt (n := cl.slots.size) (by omega)
    exact this.symm
  have hi : ∀ (i : Nat) (v : Value), vs[i]? = some v → cl.slots[i]? = some v ∧ fits ty v = true := by
    intro i v hv
    obtain ⟨q1, q2⟩ := he i v hv
    obtain ⟨r1, r2⟩ := elem_in q2 ev (Term.int_eval _) A.1
    obtain ⟨w, s1, s2⟩ := elem_fit hF A r1
    rw [q1] at r2 s1
    cases r2.symm.trans s1
    exact ⟨r2, s2⟩
  refine ⟨cl, A, ?_, by omega, fun v hv => ?_⟩
  · apply Array.ext_getElem?
    intro i
    cases hv : vs[i]? with
    | some v => rw [(hi i v hv).1]; simpa using hv.symm
    | none =>
      have := List.getElem?_eq_none_iff.mp hv
      rw [Array.getElem?_eq_none (by omega)]; simpa using hv.symm
  · obtain ⟨i, hi', rfl⟩ := List.mem_iff_getElem.mp hv
    exact (hi i _ (List.getElem?_eq_getElem hi')).2
theorem Ary.ofArv {a : Addr} {ty : FieldType} {vs : List Value} {d : Value} {n : Int32} {kc : ClassId} (F : Arv Z h a kc ty n vs d) (hn : n = Int32.ofNat vs.length) (hl : vs.length < 2 ^ 31) : Ary Z h a ty vs := by
  obtain ⟨cl, A, -, r2, r3, H, G⟩ := F
  subst hn
  have ht : (Int32.ofNat vs.length).toInt = vs.length := Int32.toInt_ofNat_small hl
  have hs : cl.slots.size = vs.length := by rw [r2]; simp only [Int32.toNatClampNeg, ht]; simp
  refine ⟨cl, A, ?_, hl, fun v hv => ?_⟩
  · apply Array.ext
    · simpa using hs
    · intro i h1 h2
      have e1 := H i h1
      rw [Array.getElem?_eq_getElem h1] at e1
      have h3 : i < vs.length := by omega
      rw [Option.some.inj e1]; simp [h3]
  · obtain ⟨i, hi, rfl⟩ := List.mem_iff_getElem.mp hv
    have e1 := G i (by omega)
    have : vs.getD i d = vs[i] := by simp [hi]
    rw [this] at e1; exact e1
theorem inb {cl : Cell} {vs : List Value} {j : Int32} {i : Nat} (r1 : cl.slots = vs.toArray) (hj : ¬ j < 0) (hi : j.toNatClampNeg = i) (hl : i < vs.length) : ¬ (j < 0 ∨ cl.slots.size ≤ j.toNatClampNeg) := by
  rw [r1, hi]; simp only [List.size_toArray]; intro q; rcases q with q | q
  · exact hj q
  · omega
theorem oLen (K : Wk p l e R s m args below meth c Z a0 EL own mx sf0 sf T locs cells slots h) (pc' : Nat) {a : Addr} {ty : FieldType} {vs : List Value} {n : Int32} {rest : List Value} (A : Ary Z h a ty vs) (hn : Int32.ofNat vs.length = n) (hd : decode c.code pc = .ok (.arraylength, 1)) (kk : Owe p e below Post T (mkF m pc' ls (.int n :: rest))) (hp : pc + 1 = pc' := by rfl) : Owe p e below Post T (mkF m pc ls (.ref a :: rest)) := by
  subst hp
  have hg : (mkF m pc ls (.ref a :: rest)).method = m := rfl
  have hs : (mkF m pc ls (.ref a :: rest)).stack = (.ref a :: rest) := rfl
  obtain ⟨q0, vm0, k0, X, eT, hS, hk, hZ, hown, q⟩ := K
  obtain ⟨cl, A, r1, r2, r3⟩ := A
  have e : cl.slots.size.toInt32 = n := by rw [r1, ← hn]; simp
  exact Owe.via (fun t r => X.arraylength q0.1 (by rw [eT]; exact A.1) (State.isArrayOf_alike (show Z.vm.Alike (s.setVm vm0).vm from hZ.alike) A.2.1) hg hs hd t (by rw [e]; exact r)) kk
theorem oCaload (K : Wk p l e R s m args below meth c Z a0 EL own mx sf0 sf T locs cells slots h) (pc' : Nat) {a : Addr} {vs : List Value} {v : Value} {j : Int32} {rest : List Value} (A : Ary Z h a .char vs) (i : Nat) (hj : ¬ j < 0) (hi : j.toNatClampNeg = i) (hv : vs[i]? = some v) (hd : decode c.code pc = .ok (.caload, 1)) (kk : Owe p e below Post T (mkF m pc' ls (v :: rest))) (hp : pc + 1 = pc' := by rfl) : Owe p e below Post T (mkF m pc ls (.int j :: .ref a :: rest)) := by
  subst hp
  have hg : (mkF m pc ls (.int j :: .ref a :: rest)).method = m := rfl
  have hs : (mkF m pc ls (.int j :: .ref a :: rest)).stack = (.int j :: .ref a :: rest) := rfl
  obtain ⟨q0, vm0, k0, X, eT, hS, hk, hZ, hown, q⟩ := K
  obtain ⟨cl, A, r1, r2, r3⟩ := A
  exact Owe.via (fun t r => X.caload q0.1 (by rw [eT]; exact A.1) (State.isArrayOf_alike (show Z.vm.Alike (s.setVm vm0).vm from hZ.alike) A.2.1) A.2.2 (inb r1 hj hi (List.getElem?_eq_some_iff.mp hv).1) (by rw [r1, hi]; simpa using hv) hg hs hd t r) kk
theorem oBaload (K : Wk p l e R s m args below meth c Z a0 EL own mx sf0 sf T locs cells slots h) (pc' : Nat) {a : Addr} {vs : List Value} {v : Value} {j : Int32} {rest : List Value} (A : Ary Z h a .byte vs) (i : Nat) (hj : ¬ j < 0) (hi : j.toNatClampNeg = i) (hv : vs[i]? = some v) (hd : decode c.code pc = .ok (.baload, 1)) (kk : Owe p e below Post T (mkF m pc' ls (v :: rest))) (hp : pc + 1 = pc' := by rfl) : Owe p e below Post T (mkF m pc ls (.int j :: .ref a :: rest)) := by
  subst hp
  have hg : (mkF m pc ls (.int j :: .ref a :: rest)).method = m := rfl
  have hs : (mkF m pc ls (.int j :: .ref a :: rest)).stack = (.int j :: .ref a :: rest) := rfl
  obtain ⟨q0, vm0, k0, X, eT, hS, hk, hZ, hown, q⟩ := K
  obtain ⟨cl, A, r1, r2, r3⟩ := A
  exact Owe.via (fun t r => X.baloadBytes q0.1 (by rw [eT]; exact A.1) (State.isArrayOf_alike (show Z.vm.Alike (s.setVm vm0).vm from hZ.alike) A.2.1) A.2.2 (inb r1 hj hi (List.getElem?_eq_some_iff.mp hv).1) (by rw [r1, hi]; simpa using hv) hg hs hd t r) kk
/-! ### steps that write or make -/
theorem Wk.wr {a : Addr} {sl : Nat} {v : Value} {vm0 : Vm} {k0 : Nat} {T' : State} {h' : Heap} (q0 : p.tables.exec = Jvm.exec ∧ EW Z a0 EL ∧ c.maxLocals = mx) (ha : a ∈ sf) (X' : Stand p l e R (s.setVm vm0) m args below meth c T' (locs ++ [⟨a, sl⟩]) cells slots) (e' : T'.heap = h') (W : Wr h h' a sl v)
    (hS : s.Since vm0 k0) (hk : k0 ≤ h.size) (hZ : Z.Warmed39 vm0) (hown : vm0.findClass own = some m.cls) (hC : CHr Z EL s.vm s.heap vm0 h) (N : Fr Z.heap.size locs) (E : Ext Z.heap h) (Kp : Keep s.heap h sf0) (M : Mine Z EL s.heap sf0 vm0 h sf) : Wk p l e R s m args below meth c Z a0 EL own mx sf0 sf T' (locs ++ [⟨a, sl⟩]) cells slots h' := by
  obtain ⟨m1, m2, m3, m4⟩ := M a ha
  exact ⟨q0, vm0, k0, X', e', hS, by rw [W.size]; exact hk, hZ, hown, hC.trans (CHr.wr W m4 hC.1), Fr.snoc X' N m2, (Old.wr (Z := Z) (n0 := Z.heap.size) ⟨rfl, E⟩ W m2).2, Kp.wr W m3,
    fun x hx => ⟨by rw [W.size]; exact (M x hx).1, (M x hx).2.1, (M x hx).2.2.1, Safe.wr W m4 hC.1 (M x hx).2.2.2⟩⟩
theorem oPutF (K : Wk p l e R s m args below meth c Z a0 EL own mx sf0 sf T locs cells slots h) (pc' : Nat) {O n d C : String} {index kk : Nat} {ty : FieldType} {a : Addr} {v old : Value} {rest : List Value} (ha : a ∈ sf) (w : (Cond.fieldLink own index O n d).before a0 Z = true) (F : Fld Z h a O n d old) (E : Exa Z h a C) (L : (Cond.lays C O n d).before a0 Z = true ∨ ((Cond.laysFinal C O n d).before a0 Z = true ∧ own = O ∧ meth.name = "<init>")) (wi : (Cond.instantiable C kk).before a0 Z = true)
    (hty : parseFieldDescriptor d = some ty) (hn : narrow ty v = v) (hf : fits ty v = true) (hd : decode c.code pc = .ok (.putfield index, 3)) (kk : ∀ (T' : State) (h' : Heap) (locs' : List Loc), Wk p l e R s m args below meth c Z a0 EL own mx sf0 sf T' locs' cells slots h' → Wr h h' a (RoadKit.slotOf Z O n d) v → Owe p e below Post T' (mkF m pc' ls (rest))) (hp : pc + 3 = pc' := by rfl) : Owe p e below Post T (mkF m pc ls (v :: .ref a :: rest)) := by
  subst hp
  have hg : (mkF m pc ls (v :: .ref a :: rest)).method = m := rfl
  have hs : (mkF m pc ls (v :: .ref a :: rest)).stack = (v :: .ref a :: rest) := rfl
  obtain ⟨q0, vm0, k0, X, eT, hS, hk, hZ, hown, hC, N, Ez, Kp, M⟩ := K
  obtain ⟨T', h', X', e', W, st⟩ := putF (own := own) (host := "") X q0.1 (show Z.Warmed39 (s.setVm vm0).vm from hZ) hown (Or.inl w) Via.refl eT F E L wi hty hn hf hg hs hd
  exact Owe.via st (kk T' h' _ (Wk.wr q0 ha X' e' W hS hk hZ hown hC N Ez Kp M) W)
theorem Wk.made {vm0 : Vm} {k0 cells' slots' : Nat} {T' : State} {h' : Heap} (q0 : p.tables.exec = Jvm.exec ∧ EW Z a0 EL ∧ c.maxLocals = mx) (X' : Stand p l e R (s.setVm vm0) m args below meth c T' locs cells' slots') (e' : T'.heap = h') (A : Ext h h') (lt : h.size < h'.size)
    (hS : s.Since vm0 k0) (hk : k0 ≤ h.size) (hZ : Z.Warmed39 vm0) (hown : vm0.findClass own = some m.cls) (hC : CHr Z EL s.vm s.heap vm0 h) (N : Fr Z.heap.size locs) (E : Ext Z.heap h) (Kp : Keep s.heap h sf0) (M : Mine Z EL s.heap sf0 vm0 h sf) : Wk p l e R s m args below meth c Z a0 EL own mx sf0 (h.size :: sf) T' locs cells' slots' h' := by
  refine ⟨q0, vm0, k0, X', e', hS, Nat.le_trans hk A.1, hZ, hown, hC.trans (CHr.ext A hC.1), N, extTrans E A, Kp.ext A, fun x hx => ?_⟩
  rcases List.mem_cons.mp hx with rfl | hx
  · exact ⟨lt, E.1, Or.inr Kp.1, Safe.ext A hC.1 (Safe.new (Nat.le_refl _))⟩
  · obtain ⟨m1, m2, m3, m4⟩ := M x hx
    exact ⟨Nat.lt_of_lt_of_le m1 A.1, m2, m3, Safe.ext A hC.1 m4⟩
theorem oNew (K : Wk p l e R s m args below meth c Z a0 EL own mx sf0 sf T locs cells slots h) (pc' : Nat) {C : String} {index n : Nat} (w : (Cond.classLink own index C).before a0 Z = true) (wi : (Cond.instantiable C n).before a0 Z = true) (wz : (Cond.initialized C).before a0 Z = true) (hd : decode c.code pc = .ok (.new index, 3)) (hc : cells + 1 ≤ R.cells) (hl : slots + n ≤ R.slots) (kk : ∀ (T' : State) (h' : Heap) (a : Addr), h.size = a → Wk p l e R s m args below meth c Z a0 EL own mx sf0 (a :: sf) T' locs (cells + 1) (slots + n) h' → Ext h h' → Exa Z h' a C → (∀ {O nm d : String} {ty : FieldType}, Laid Z a0 C O nm d → parseFieldDescriptor d = some ty → Fld Z h' a O nm d (defaultValue ty)) → Owe p e below Post T' (mkF m pc' ls (.ref a :: st))) (hp : pc + 3 = pc' := by rfl) : Owe p e below Post T (mkF m pc ls st) := by
  subst hp
  have hg : (mkF m pc ls st).method = m := rfl
  obtain ⟨q0, vm0, k0, X, eT, hS, hk, hZ, hown, hC, N, Ez, Kp, M⟩ := K
  obtain ⟨T', h', X', e', A, Ex, D, -, st⟩ := newO (own := own) X q0.1 (show Z.Warmed39 (s.setVm vm0).vm from hZ) hown w wi wz eT hg hd hc hl
  exact Owe.via st (kk T' h' _ rfl (Wk.made q0 X' e' A Ex.lt hS hk hZ hown hC N Ez Kp M) A Ex D)
theorem oNewP (K : Wk p l e R s m args below meth c Z a0 EL own mx sf0 sf T locs cells slots h) (pc' : Nat) {aty : ArrayType} {ty : FieldType} {n : Int32} {rest : List Value} (i : Nat) (w : (Cond.arrayClass ty).before a0 Z = true) (hty : newarray.typeOf aty = ty) (hn : ¬ n < 0) (hi : n.toNatClampNeg = i) (hb : i * 8 ≤ 536870912) (hd : decode c.code pc = .ok (.newarray aty, 2)) (hc : cells + 1 ≤ R.cells) (hl : slots + i ≤ R.slots) (kk : ∀ (T' : State) (h' : Heap) (a : Addr), h.size = a → Wk p l e R s m args below meth c Z a0 EL own mx sf0 (a :: sf) T' locs (cells + 1) (slots + i) h' → Ext h h' → Ary Z h' a ty (List.replicate i (defaultValue ty)) → Owe p e below Post T' (mkF m pc' ls (.ref a :: rest))) (hp : pc + 2 = pc' := by rfl) : Owe p e below Post T (mkF m pc ls (.int n :: rest)) := by
  subst hp
  have hg : (mkF m pc ls (.int n :: rest)).method = m := rfl
  have hs : (mkF m pc ls (.int n :: rest)).stack = (.int n :: rest) := rfl
  subst hty
  obtain ⟨q0, vm0, k0, X, eT, hS, hk, hZ, hown, hC, N, Ez, Kp, M⟩ := K
  obtain ⟨T', h', cA, X', e', A, Ar, st⟩ := newP X q0.1 (show Z.Warmed39 (s.setVm vm0).vm from hZ) w eT hg hd hs hn (cap := i) (Nat.le_of_eq hi) hb hc hl
  refine Owe.via st (kk T' h' _ rfl (Wk.made q0 X' e' A Ar.lt hS hk hZ hown hC N Ez Kp M) A ⟨_, Ar, ?_, ?_, fun v hv => ?_⟩)
  · simp [newA, hi]
  · simp; omega
  · rw [(List.mem_replicate.mp hv).2]; cases aty <;> rfl
theorem oCastore (K : Wk p l e R s m args below meth c Z a0 EL own mx sf0 sf T locs cells slots h) (pc' : Nat) {a : Addr} {vs : List Value} {x x' : Int32} {j : Int32} {rest : List Value} (ha : a ∈ sf) (A : Ary Z h a .char vs) (i : Nat) (hj : ¬ j < 0) (hi : j.toNatClampNeg = i) (hl : i < vs.length) (hv : nar .char x = x') (hd : decode c.code pc = .ok (.castore, 1)) (kk : ∀ (T' : State) (h' : Heap) (locs' : List Loc), Wk p l e R s m args below meth c Z a0 EL own mx sf0 sf T' locs' cells slots h' → Wr h h' a i (.int x') → Ary Z h' a .char (vs.set i (.int x')) → Owe p e below Post T' (mkF m pc' ls (rest))) (hp : pc + 1 = pc' := by rfl) : Owe p e below Post T (mkF m pc ls (.int x :: .int j :: .ref a :: rest)) := by
  subst hp
  have hg : (mkF m pc ls (.int x :: .int j :: .ref a :: rest)).method = m := rfl
  have hs : (mkF m pc ls (.int x :: .int j :: .ref a :: rest)).stack = (.int x :: .int j :: .ref a :: rest) := rfl
  obtain ⟨q0, vm0, k0, X, eT, hS, hk, hZ, hown, hC, N, Ez, Kp, M⟩ := K
  have A0 := A
  obtain ⟨cl, A, r1, r2, r3⟩ := A
  subst hi hv
  obtain ⟨T', h', X', e', W, st⟩ := stC X q0.1 (show Z.Warmed39 (s.setVm vm0).vm from hZ) eT A (inb r1 hj rfl hl) hg hs hd
  exact Owe.via st (kk T' h' _ (Wk.wr q0 ha X' e' W hS hk hZ hown hC N Ez Kp M) W (A0.same W (fits_nar_char x)))
theorem oBastore (K : Wk p l e R s m args below meth c Z a0 EL own mx sf0 sf T locs cells slots h) (pc' : Nat) {a : Addr} {vs : List Value} {x x' : Int32} {j : Int32} {rest : List Value} (ha : a ∈ sf) (A : Ary Z h a .byte vs) (i : Nat) (hj : ¬ j < 0) (hi : j.toNatClampNeg = i) (hl : i < vs.length) (hv : nar .byte x = x') (hd : decode c.code pc = .ok (.bastore, 1)) (kk : ∀ (T' : State) (h' : Heap) (locs' : List Loc), Wk p l e R s m args below meth c Z a0 EL own mx sf0 sf T' locs' cells slots h' → Wr h h' a i (.int x') → Ary Z h' a .byte (vs.set i (.int x')) → Owe p e below Post T' (mkF m pc' ls (rest))) (hp : pc + 1 = pc' := by rfl) : Owe p e below Post T (mkF m pc ls (.int x :: .int j :: .ref a :: rest)) := by
  subst hp
  have hg : (mkF m pc ls (.int x :: .int j :: .ref a :: rest)).method = m := rfl
  have hs : (mkF m pc ls (.int x :: .int j :: .ref a :: rest)).stack = (.int x :: .int j :: .ref a :: rest) := rfl
  obtain ⟨q0, vm0, k0, X, eT, hS, hk, hZ, hown, hC, N, Ez, Kp, M⟩ := K
  have A0 := A
  obtain ⟨cl, A, r1, r2, r3⟩ := A
  subst hi hv
  obtain ⟨T', h', X', e', W, st⟩ := stB X q0.1 (show Z.Warmed39 (s.setVm vm0).vm from hZ) eT A (inb r1 hj rfl hl) hg hs hd
  exact Owe.via st (kk T' h' _ (Wk.wr q0 ha X' e' W hS hk hZ hown hC N Ez Kp M) W (A0.same W (fits_nar_byte x)))
/-! ### literals -/
theorem oLdcC (K : Wk p l e R s m args below meth c Z a0 EL own mx sf0 sf T locs cells slots h) (pc' : Nat) {text : String} {index : Nat} (n : Nat) (vs : List Value) (w : (Cond.stringLink own index text).before a0 Z = true) (wS : ∀ a ∈ Bundle.stringAtoms, a.before a0 Z = true) (hmem : (own, index) ∈ EL) (ht : (∀ c ∈ text.toList, c.toNat < 256) ∧ text.toList.map (fun c => Value.int (Jvm.Lit.byteI c.toNat.toUInt16)) = vs) (hvl : vs.length < 2 ^ 31) (hd : decode c.code pc = .ok (.ldc index, 2)) (hn : 4 * text.toList.length ≤ n) (hbig : n ≤ 536870912) (hc : cells + 2 ≤ R.cells) (hl : slots + (n + 4) ≤ R.slots) (kk : ∀ (T' : State) (h' : Heap) (a b : Addr), Wk p l e R s m args below meth c Z a0 EL own mx sf0 sf T' locs (cells + 2) (slots + (n + 4)) h' → Ext h h' → Exa Z h' a "java/lang/String" → Fld Z h' a "java/lang/String" "coder" "B" (.int 0) → Fld Z h' a "java/lang/String" "value" "[B" (.ref b) → Ary Z h' b .byte vs → (∀ x ∈ sf, x ≠ a ∧ x ≠ b) → Owe p e below Post T' (mkF m pc' ls (.ref a :: st))) (hp : pc + 2 = pc' := by rfl) : Owe p e below Post T (mkF m pc ls st) := by
  subst hp
  have hg : (mkF m pc ls st).method = m := rfl
  obtain ⟨q0, vm0, k0, X, eT, hS, hk, hZ, hown, hC, N, Ez, Kp, M⟩ := K
  have hzt : (Int32.ofNat vs.length).toInt = vs.length := Int32.toInt_ofNat_small hvl
  obtain ⟨a, T', h', k1, b, kc, X', e', A, hS', hk', hZ', hown', F1, F2, F3, F4, -, -, hC', hL, hne, st⟩ := ldcCH X q0.1 hZ hown w wS eT hS hk q0.2.1 hmem hC.1 (vs := vs) (z := Int32.ofNat vs.length) ht (by simp only [Int32.lt_iff_toInt_lt, hzt, Int32.reduceToInt]; omega) (by simp only [Int32.toNatClampNeg, hzt]; simp) hg hd hn hbig hc hl
  exact Owe.via st (kk T' h' a b ⟨q0, T'.vm, k1, X', e', hS', hk', hZ', hown', hC.trans hC', N, extTrans Ez A, Kp.ext A, fun x hx => ⟨Nat.lt_of_lt_of_le (M x hx).1 A.1, (M x hx).2.1, (M x hx).2.2.1, hC'.safe (M x hx).1 (M x hx).2.2.2⟩⟩ A F1 F2 F3 (Ary.ofArv F4 rfl hvl) (fun x hx => hne x (hC'.safe (M x hx).1 (M x hx).2.2.2)))
/-! ### calls -/
theorem backC {y : MethodName} {bytes : ByteArray} {maxL : Nat} {ret : Option FieldType} {rm : Room} {len W : Nat} {as' : Array Value} {sf' : List Addr} {Q : Option Value → Heap → List Addr → Prop} {vm0 : Vm} (C : Ctr l Z EL y bytes maxL ret [] rm as' sf' h Q)
    (hZ : Z.Warmed39 vm0) (wc : (Cond.code y bytes maxL ret).before a0 Z = true) (wz : (Cond.initialized y.cls).before a0 Z = true) (hf : rm.frames + 1 ≤ R.frames) (hl : W + (maxL + 11) + rm.locals ≤ R.locals) (hEL : EW Z a0 EL) (H : CHv Z EL vm0 h) (hsafe : ∀ x ∈ sf', x < h.size ∧ Safe Z EL vm0 h x) :
    BackS l R p e below (s.setVm vm0) args y len W (fun A a => a = as' ∧ A.U.heap = h ∧ A.cells + rm.cells ≤ R.cells ∧ A.slots + rm.slots ≤ R.slots)
      (fun A _ v B => ∃ (L : List Loc) (fs : List Addr), Q v B.U.heap fs ∧ Fr Z.heap.size L ∧ Ext Z.heap B.U.heap ∧ Keep h B.U.heap sf' ∧ CHr Z EL vm0 h B.U.vm B.U.heap ∧ (∀ x ∈ fs, x < B.U.heap.size ∧ Z.heap.size ≤ x ∧ h.size ≤ x ∧ Safe Z EL B.U.vm B.U.heap x) ∧ B.locs = A.locs ++ L ∧ B.cells = A.cells + rm.cells ∧ B.slots = A.slots + rm.slots) :=
  BackS.of_freeW (bytes := bytes) (maxL := maxL) (ret := ret) (E := fun _ first o t L k n => k = rm.cells ∧ n = rm.slots ∧ ∃ (v : Option Value) (fs : List Addr), o = .returned v ∧ Q v t.heap fs ∧ Fr Z.heap.size L ∧ Ext Z.heap t.heap ∧ Keep first.heap t.heap sf' ∧ CHr Z EL first.vm first.heap t.vm t.heap ∧ ∀ x ∈ fs, x < t.heap.size ∧ Z.heap.size ≤ x ∧ first.heap.size ≤ x ∧ Safe Z EL t.vm t.heap x) C hf hl
    (fun m meth c A a Y hp => have hU : Z.Warmed39 A.U.vm := wtrans (s := s.setVm vm0) hZ Y.warmed
      ⟨by show (Cond.and _ .tt).before a A.U = true; rw [Cond.before_and, mv hU wc]; rfl, mv hU wc, mv hU wz, hp.2.2.1, hp.2.2.2⟩)
    (fun m meth c A a g mk Y hp => ⟨hp.1, wtrans (s := s.setVm vm0) hZ Y.warmed, hp.2.1, (CHv.at Y hZ hEL H).1, fun x hx => (CHv.at Y hZ hEL H).safe (hsafe x hx).1 (hsafe x hx).2⟩) (fun _ _ _ _ _ _ _ _ _ => trivial)
    (fun _ _ _ _ ⟨v, L, fs, h1, h2, h3, h4, h5, h6, h7, h8⟩ => ⟨L, _, _, h8, rfl, rfl, v, fs, h1, h2, h3, h4, h5, h6, h7⟩)
    (fun m meth c A a g mk v t L k n Y hp _ _ ⟨e1, e2, v', fs, e3, e4, e5, e6, e7, e8, e9⟩ => by
      cases e3; subst e1 e2
      have hh : A.U.heap = h := hp.2.1
      subst hh
      exact ⟨L, fs, e4, e5, e6, e7, (CHv.at Y hZ hEL H).trans e8, e9, rfl, rfl, rfl⟩)
theorem Wk.back {vm0 vm1 : Vm} {k0 : Nat} {B : Pt} {L : List Loc} {fs sf' : List Addr} {ce sl n1 : Nat} (q0 : p.tables.exec = Jvm.exec ∧ EW Z a0 EL ∧ c.maxLocals = mx) (hS : s.Since vm0 k0) (hk : k0 ≤ h.size) (hZ : Z.Warmed39 vm0) (hown : vm0.findClass own = some m.cls) (hC : CHr Z EL s.vm s.heap vm0 h) (N : Fr Z.heap.size locs) (Kp : Keep s.heap h sf0) (M : Mine Z EL s.heap sf0 vm0 h sf)
    (X' : Stand p l e R ((s.setVm vm0).setVm B.U.vm) m args below meth c B.U B.locs B.cells B.slots) (hS' : (s.setVm vm0).Since B.U.vm B.U.heap.size) (hsf : ∀ x ∈ sf', x ∈ sf)
    (r3 : Fr Z.heap.size L) (r4 : Ext Z.heap B.U.heap) (r5 : Keep h B.U.heap sf') (r6 : CHr Z EL vm0 h B.U.vm B.U.heap) (r7 : ∀ x ∈ fs, x < B.U.heap.size ∧ Z.heap.size ≤ x ∧ h.size ≤ x ∧ Safe Z EL B.U.vm B.U.heap x) (r8 : B.locs = locs ++ L) (r9 : B.cells = cells + ce) (r10 : B.slots = slots + sl) : Wk p l e R s m args below meth c Z a0 EL own mx sf0 (fs ++ sf) B.U (locs ++ L) (cells + ce) (slots + sl) B.U.heap := by
  rw [r8, r9, r10] at X'
  refine ⟨q0, B.U.vm, B.U.heap.size, X', rfl, hS.trans hS' (Nat.le_trans hk r5.1), Nat.le_refl _, State.Warmed39.trans (t := s.setVm vm0) hZ hS'.1, (hS'.1.alike.findClass _ _).trans hown, hC.trans r6, N.app r3, r4, Kp.trans r5 (fun x hx => (M x (hsf x hx)).2.2.1), fun x hx => ?_⟩
  rcases List.mem_append.mp hx with hx | hx
  · obtain ⟨f1, f2, f3, f4⟩ := r7 x hx
    exact ⟨f1, f2, Or.inr (Nat.le_trans Kp.1 f3), f4⟩
  · obtain ⟨m1, m2, m3, m4⟩ := M x hx
    exact ⟨Nat.lt_of_lt_of_le m1 r5.1, m2, m3, r6.safe m1 m4⟩
theorem oStatic (K : Wk p l e R s m args below meth c Z a0 EL own mx sf0 sf T locs cells slots h) (pc' : Nat) {index : Nat} {y : MethodName} {bytes : ByteArray} {maxL : Nat} {ret : Option FieldType} {rm : Room} {as' : Array Value} {sf' : List Addr} {Q : Option Value → Heap → List Addr → Prop}  (W : Nat) (w1 : (Cond.methodLink own index y).before a0 Z = true) (w2 : (Cond.static y).before a0 Z = true) (w3 : (Cond.initialized y.cls).before a0 Z = true) (w4 : (Cond.code y bytes maxL ret).before a0 Z = true) (C : Ctr l Z EL y bytes maxL ret [] rm as' sf' h Q) (argsL rest : List Value) (hlen : ∀ sig, parseMethodDescriptor y.desc = some sig → argsL.length = sig.parameters.length) (hd : decode c.code pc = .ok (.invokestatic index, 3)) (kk : ∀ (T' : State) (h' : Heap) (v : Option Value) (locs' : List Loc) (fs : List Addr), Wk p l e R s m args below meth c Z a0 EL own mx sf0 (fs ++ sf) T' locs' (cells + rm.cells) (slots + rm.slots) h' → Keep h h' sf' → Q v h' fs → Owe p e below Post T' (mkF m pc' ls (v.toList ++ rest))) (hy : y.cls ≠ "java/lang/invoke/MethodHandle" ∧ y.cls ≠ "java/lang/invoke/VarHandle" := by decide) (hsf : ∀ x ∈ sf', x ∈ sf := by simp) (hf : rm.frames + 1 ≤ R.frames := by decide) (hl : W + (maxL + 11) + rm.locals ≤ R.locals := by decide) (hcl : cells + rm.cells ≤ R.cells := by decide) (hsl : slots + rm.slots ≤ R.slots := by decide) (has : argsL.toArray = as' := by rfl) (hstack : st = argsL.reverse ++ rest := by rfl) (hW : 2 * 0 + (rest.map fun v => v.category).sum ≤ W := by exact nle) (hsize : ls.size = mx := by rfl) (hp : pc + 3 = pc' := by rfl) : Owe p e below Post T (mkF m pc ls st) := by
  subst hp
  have hg : (mkF m pc ls st).method = m := rfl
  obtain ⟨q0, vm0, k0, X, eT, hS, hk, hZ, hown, hC, N, Ez, Kp, M⟩ := K
  have hZ' : Z.Warmed39 (s.setVm vm0).vm := hZ
  obtain ⟨v, vm₁, B, -, X', hS', -, ⟨L, fs, r1, r3, r4, r5, r6, r7, r8, r9, r10⟩, st⟩ := callSS X q0.1 (own := own) hown (mvT hZ' w1) (mvT hZ' w2) (mvT hZ' w3) (mvT hZ' w4) hy (backC C hZ w4 w3 hf hl q0.2.1 hC.1 (fun x hx => ⟨(M x (hsf x hx)).1, (M x (hsf x hx)).2.2.2⟩)) hg (hsize.trans q0.2.2.symm) hlen hstack hW hd (fun vm1 hv => ⟨has, eT, hcl, hsl⟩)
  exact Owe.go st (kk B.U B.U.heap v _ fs (Wk.back (n1 := 0) (vm1 := vm0) q0 hS hk hZ hown hC N Kp M X' hS' hsf r3 r4 r5 r6 r7 r8 r9 r10) r5 r1)
theorem oSpecial (K : Wk p l e R s m args below meth c Z a0 EL own mx sf0 sf T locs cells slots h) (pc' : Nat) {index : Nat} {y : MethodName} {bytes : ByteArray} {maxL : Nat} {rm : Room} {as' : Array Value} {sf' : List Addr} {Q : Option Value → Heap → List Addr → Prop} {a : Addr}  (W : Nat) (w1 : (Cond.methodLink own index y).before a0 Z = true) (w2 : (Cond.instanceMethod y).before a0 Z = true) (w3 : (Cond.initialized y.cls).before a0 Z = true) (w4 : (Cond.code y bytes maxL none).before a0 Z = true) (C : Ctr l Z EL y bytes maxL none [] rm as' sf' h Q) (argsL rest : List Value) (hlen : ∀ sig, parseMethodDescriptor y.desc = some sig → argsL.length = sig.parameters.length) (hd : decode c.code pc = .ok (.invokespecial index, 3)) (kk : ∀ (T' : State) (h' : Heap) (v : Option Value) (locs' : List Loc) (fs : List Addr), Wk p l e R s m args below meth c Z a0 EL own mx sf0 (fs ++ sf) T' locs' (cells + rm.cells) (slots + rm.slots) h' → Keep h h' sf' → Q v h' fs → Owe p e below Post T' (mkF m pc' ls (v.toList ++ rest))) (hy1 : y.name = "<init>" := by rfl) (hy : y.cls ≠ "java/lang/invoke/MethodHandle" ∧ y.cls ≠ "java/lang/invoke/VarHandle" := by decide) (hsf : ∀ x ∈ sf', x ∈ sf := by simp) (hf : rm.frames + 1 ≤ R.frames := by decide) (hl : W + (maxL + 11) + rm.locals ≤ R.locals := by decide) (hcl : cells + rm.cells ≤ R.cells := by decide) (hsl : slots + rm.slots ≤ R.slots := by decide) (has : (.ref a :: argsL).toArray = as' := by rfl) (hstack : st = argsL.reverse ++ .ref a :: rest := by rfl) (hW : 2 * 0 + (rest.map fun v => v.category).sum ≤ W := by exact nle) (hsize : ls.size = mx := by rfl) (hp : pc + 3 = pc' := by rfl) : Owe p e below Post T (mkF m pc ls st) := by
  subst hp
  have hg : (mkF m pc ls st).method = m := rfl
  obtain ⟨q0, vm0, k0, X, eT, hS, hk, hZ, hown, hC, N, Ez, Kp, M⟩ := K
  have hZ' : Z.Warmed39 (s.setVm vm0).vm := hZ
  obtain ⟨v, vm₁, B, -, X', hS', -, ⟨L, fs, r1, r3, r4, r5, r6, r7, r8, r9, r10⟩, st⟩ := X.specialBackS q0.1 (own := own) hy1 hown (mvT hZ' w1) (mvT hZ' w2) (mvT hZ' w4) hy (backC C hZ w4 w3 hf hl q0.2.1 hC.1 (fun x hx => ⟨(M x (hsf x hx)).1, (M x (hsf x hx)).2.2.2⟩)) hg (hsize.trans q0.2.2.symm) (Steps.refl _) hlen hstack hW hd (fun vm1 hv => ⟨has, eT, hcl, hsl⟩)
  exact Owe.go st (kk B.U B.U.heap v _ fs (Wk.back (n1 := 0) (vm1 := vm0) q0 hS hk hZ hown hC N Kp M X' hS' hsf r3 r4 r5 r6 r7 r8 r9 r10) r5 r1)
theorem oVirtual (K : Wk p l e R s m args below meth c Z a0 EL own mx sf0 sf T locs cells slots h) (pc' : Nat) {index : Nat} {D : String} {y z : MethodName} {bytes : ByteArray} {maxL : Nat} {ret : Option FieldType} {rm : Room} {as' : Array Value} {sf' : List Addr} {Q : Option Value → Heap → List Addr → Prop} {a : Addr}  (W : Nat) (w1 : (Cond.methodLink own index y).before a0 Z = true) (w2 : (Cond.declares y).before a0 Z = true) (nf : ∀ s' : State, Z.Warmed39 s'.vm → NotFace s' y) (w5 : (Cond.selects D y z).before a0 Z = true) (w6 : (Cond.instanceMethod z).before a0 Z = true) (w3 : (Cond.initialized z.cls).before a0 Z = true) (w4 : (Cond.code z bytes maxL ret).before a0 Z = true) (Ex : Exa Z h a D)
    (C : Ctr l Z EL z bytes maxL ret [] rm as' sf' h Q) (argsL rest : List Value) (hlen : ∀ sig, parseMethodDescriptor y.desc = some sig → argsL.length = sig.parameters.length) (hd : decode c.code pc = .ok (.invokevirtual index, 3)) (kk : ∀ (T' : State) (h' : Heap) (v : Option Value) (locs' : List Loc) (fs : List Addr), Wk p l e R s m args below meth c Z a0 EL own mx sf0 (fs ++ sf) T' locs' (cells + rm.cells) (slots + rm.slots) h' → Keep h h' sf' → Q v h' fs → Owe p e below Post T' (mkF m pc' ls (v.toList ++ rest))) (hy : y.cls ≠ "java/lang/invoke/MethodHandle" ∧ y.cls ≠ "java/lang/invoke/VarHandle" := by decide) (hsf : ∀ x ∈ sf', x ∈ sf := by simp) (hf : rm.frames + 1 ≤ R.frames := by decide) (hl : W + (maxL + 11) + rm.locals ≤ R.locals := by decide) (hcl : cells + rm.cells ≤ R.cells := by decide) (hsl : slots + rm.slots ≤ R.slots := by decide) (has : (.ref a :: argsL).toArray = as' := by rfl) (hstack : st = argsL.reverse ++ .ref a :: rest := by rfl) (hW : 2 * 0 + (rest.map fun v => v.category).sum ≤ W := by exact nle) (hsize : ls.size = mx := by rfl) (hp : pc + 3 = pc' := by rfl) : Owe p e below Post T (mkF m pc ls st) := by
  subst hp
  have hg : (mkF m pc ls st).method = m := rfl
  obtain ⟨q0, vm0, k0, X, eT, hS, hk, hZ, hown, hC, N, Ez, Kp, M⟩ := K
  have hZ' : Z.Warmed39 (s.setVm vm0).vm := hZ
  obtain ⟨cq, kq, qa, qb, qc⟩ := isOf hZ' eT Ex
  obtain ⟨v, vm₁, B, -, X', hS', -, ⟨L, fs, r1, r3, r4, r5, r6, r7, r8, r9, r10⟩, st⟩ := X.virtualBackS q0.1 (own := own) hown (mvT hZ' w1) (mvT hZ' w2) (nf _ hZ') (mvT hZ' w5) (mvT hZ' w6) hy (backC C hZ w4 w3 hf hl q0.2.1 hC.1 (fun x hx => ⟨(M x (hsf x hx)).1, (M x (hsf x hx)).2.2.2⟩)) qa qc hg (hsize.trans q0.2.2.symm) (Steps.refl _) hlen hstack hW hd (fun vm1 hv => ⟨has, eT, hcl, hsl⟩)
  exact Owe.go st (kk B.U B.U.heap v _ fs (Wk.back (n1 := 0) (vm1 := vm0) q0 hS hk hZ hown hC N Kp M X' hS' hsf r3 r4 r5 r6 r7 r8 r9 r10) r5 r1)
theorem nfSel {D : String} {y : MethodName} (w : (Cond.selects D y y).before a0 Z = true) : ∀ s' : State, Z.Warmed39 s'.vm → NotFace s' y := fun s' hZ => notFace_of_selects (args := #[]) (mvT hZ w)
/-! ### a JDK law in RoadKit's shape pays a call -/
/-! ### the end -/
theorem xRet {g : JFrame} (K : Wk p l e R s m args below meth c Z a0 EL own mx sf0 sf T locs cells slots h) {Q : Option Value → Heap → List Addr → Prop} {v : Option Value} (fs : List Addr) (hcl : cells ≤ R.cells) (hsl : slots ≤ R.slots) (hv : meth.sig.returnType = none → v = none) (hlk : meth.locks = false) (hfs : ∀ x ∈ fs, x ∈ sf ∧ s.heap.size ≤ x) (hQ : Q v h fs)
    (st : ∀ (s' : State) (fr : List Frame), Stand p l e R s' m args below meth c T locs cells slots → (∀ (f : JFrame) (acts : List Action), f.method = m → f.locked = none → f.entered = [] → (doReturn e (T.setTop f) acts v).1 = T.setFrames fr) → Steps p.tables e below (T.setTop g) (T.setFrames fr)) : Owe p e below (PostW Z EL sf0 R Q s) T g := by
  obtain ⟨q0, vm0, k0, X, eT, hS, hk, hZ, hown, hC, N, Ez, Kp, M⟩ := K
  obtain ⟨fr, hr, hrun, hend, w1, w2, w3, w4⟩ := X.leaveW hS (by rw [eT]; exact hk) (v := v) hv hlk
  subst eT
  have hA := CHv.at X hZ q0.2.1 hC.1
  exact ⟨_, _, st _ fr X hr, hrun, hend, v, locs, fs, rfl, hQ, N, Ez, Kp, hC.trans hA, fun x hx => ⟨(M x (hfs x hx).1).1, (M x (hfs x hx).1).2.1, (hfs x hx).2, hA.safe (M x (hfs x hx).1).1 (M x (hfs x hx).1).2.2.2⟩, w1, w2, w3, w4.mono hcl hsl⟩
theorem oRetV (K : Wk p l e R s m args below meth c Z a0 EL own mx sf0 sf T locs cells slots h) {Q : Option Value → Heap → List Addr → Prop} (fs : List Addr) {pc : Nat} {Ls : Array Slot} (hret : meth.sig.returnType = none) (hd : decode c.code pc = .ok (.return_, 1)) (hcl : cells ≤ R.cells) (hsl : slots ≤ R.slots) (hlk : meth.locks = false) (hfs : ∀ x ∈ fs, x ∈ sf ∧ s.heap.size ≤ x) (hQ : Q none h fs) : Owe p e below (PostW Z EL sf0 R Q s) T (mkF m pc Ls []) :=
  xRet K fs hcl hsl (fun _ => rfl) hlk hfs hQ (fun s' fr X hr => X.returnOut K.hx hret hd hr)
theorem oRetI (K : Wk p l e R s m args below meth c Z a0 EL own mx sf0 sf T locs cells slots h) {Q : Option Value → Heap → List Addr → Prop} (fs : List Addr) {pc : Nat} {Ls : Array Slot} {z : Int32} {t : FieldType} {rest : List Value} (hret : meth.sig.returnType = some t) (ht : t = .int ∨ t = .boolean ∨ t = .byte ∨ t = .char ∨ t = .short) (hn : narrow t (.int z) = .int z) (hd : decode c.code pc = .ok (.ireturn, 1)) (hcl : cells ≤ R.cells) (hsl : slots ≤ R.slots) (hlk : meth.locks = false) (hfs : ∀ x ∈ fs, x ∈ sf ∧ s.heap.size ≤ x) (hQ : Q (some (.int z)) h fs) : Owe p e below (PostW Z EL sf0 R Q s) T (mkF m pc Ls (.int z :: rest)) :=
  xRet K fs hcl hsl (fun q => by rw [hret] at q; cases q) hlk hfs hQ (fun s' fr X hr => retOut X K.hx hret hn (Or.inl ⟨rfl, ht, z, rfl⟩) hd hr)
theorem oRetA (K : Wk p l e R s m args below meth c Z a0 EL own mx sf0 sf T locs cells slots h) {Q : Option Value → Heap → List Addr → Prop} (fs : List Addr) {pc : Nat} {Ls : Array Slot} {w : Value} {t : FieldType} {rest : List Value} (hret : meth.sig.returnType = some t) (ht : t.isReference = true) (hw : w.isRef = true) (hd : decode c.code pc = .ok (.areturn, 1)) (hcl : cells ≤ R.cells) (hsl : slots ≤ R.slots) (hlk : meth.locks = false) (hfs : ∀ x ∈ fs, x ∈ sf ∧ s.heap.size ≤ x) (hQ : Q (some w) h fs) : Owe p e below (PostW Z EL sf0 R Q s) T (mkF m pc Ls (w :: rest)) :=
  xRet K fs hcl hsl (fun q => by rw [hret] at q; cases q) hlk hfs hQ (fun s' fr X hr => retOut X K.hx hret (by rcases ref_cases hw with rfl | ⟨_, rfl⟩ <;> cases t <;> first | rfl | (cases ht)) (Or.inr (Or.inr (Or.inr (Or.inr ⟨rfl, ht, hw⟩)))) hd hr)
/-! ### plain steps -/
theorem oAloadN (K : Wk p l e R s m args below meth c Z a0 EL own mx sf0 sf T locs cells slots h) (pc' : Nat) {k : Fin 4} {v : Value} (hd : decode c.code pc = .ok (.aload_n k, 1)) (hl : ls[k.val]? = some (.val v)) (hv : v.isRef = true) (kk : Owe p e below Post T (mkF m pc' ls (v :: st))) (hp : pc + 1 = pc' := by rfl) : Owe p e below Post T (mkF m pc ls st) := by
  subst hp
  have hg : (mkF m pc ls st).method = m := rfl
  exact Owe.via (fun _ q => XS.aloadN K.here K.hx hg hd hl hv q) kk
theorem oAload (K : Wk p l e R s m args below meth c Z a0 EL own mx sf0 sf T locs cells slots h) (pc' : Nat) {k : Nat} {v : Value} (hd : decode c.code pc = .ok (.aload k, 2)) (hl : ls[k]? = some (.val v)) (hv : v.isRef = true) (kk : Owe p e below Post T (mkF m pc' ls (v :: st))) (hp : pc + 2 = pc' := by rfl) : Owe p e below Post T (mkF m pc ls st) := by
  subst hp
  have hg : (mkF m pc ls st).method = m := rfl
  exact Owe.via (fun _ q => XS.aload K.here K.hx hg hd hl hv q) kk
theorem oIloadN (K : Wk p l e R s m args below meth c Z a0 EL own mx sf0 sf T locs cells slots h) (pc' : Nat) {k : Fin 4} {v : Int32} (hd : decode c.code pc = .ok (.iload_n k, 1)) (hl : ls[k.val]? = some (.val (.int v))) (kk : Owe p e below Post T (mkF m pc' ls (.int v :: st))) (hp : pc + 1 = pc' := by rfl) : Owe p e below Post T (mkF m pc ls st) := by
  subst hp
  have hg : (mkF m pc ls st).method = m := rfl
  exact Owe.via (fun _ q => XS.iloadN K.here K.hx hg hd hl q) kk
theorem oIload (K : Wk p l e R s m args below meth c Z a0 EL own mx sf0 sf T locs cells slots h) (pc' : Nat) {k : Nat} {v : Int32} (hd : decode c.code pc = .ok (.iload k, 2)) (hl : ls[k]? = some (.val (.int v))) (kk : Owe p e below Post T (mkF m pc' ls (.int v :: st))) (hp : pc + 2 = pc' := by rfl) : Owe p e below Post T (mkF m pc ls st) := by
  subst hp
  have hg : (mkF m pc ls st).method = m := rfl
  exact Owe.via (fun _ q => XS.iload K.here K.hx hg hd hl q) kk
theorem oAconstNull (K : Wk p l e R s m args below meth c Z a0 EL own mx sf0 sf T locs cells slots h) (pc' : Nat) (hd : decode c.code pc = .ok (.aconst_null, 1)) (kk : Owe p e below Post T (mkF m pc' ls (.null :: st))) (hp : pc + 1 = pc' := by rfl) : Owe p e below Post T (mkF m pc ls st) := by
  subst hp
  have hg : (mkF m pc ls st).method = m := rfl
  exact Owe.via (fun _ q => XS.aconstNull K.here K.hx hg hd q) kk
theorem oIadd (K : Wk p l e R s m args below meth c Z a0 EL own mx sf0 sf T locs cells slots h) (pc' : Nat) {x y : Int32} {rest : List Value} (hd : decode c.code pc = .ok (.iadd, 1)) (kk : Owe p e below Post T (mkF m pc' ls (.int (x + y) :: rest))) (hp : pc + 1 = pc' := by rfl) : Owe p e below Post T (mkF m pc ls (.int y :: .int x :: rest)) := by
  subst hp
  have hg : (mkF m pc ls (.int y :: .int x :: rest)).method = m := rfl
  have hs : (mkF m pc ls (.int y :: .int x :: rest)).stack = (.int y :: .int x :: rest) := rfl
  exact Owe.via (fun _ q => XS.iadd K.here K.hx hg hd hs q) kk
theorem oIsub (K : Wk p l e R s m args below meth c Z a0 EL own mx sf0 sf T locs cells slots h) (pc' : Nat) {x y : Int32} {rest : List Value} (hd : decode c.code pc = .ok (.isub, 1)) (kk : Owe p e below Post T (mkF m pc' ls (.int (x - y) :: rest))) (hp : pc + 1 = pc' := by rfl) : Owe p e below Post T (mkF m pc ls (.int y :: .int x :: rest)) := by
  subst hp
  have hg : (mkF m pc ls (.int y :: .int x :: rest)).method = m := rfl
  have hs : (mkF m pc ls (.int y :: .int x :: rest)).stack = (.int y :: .int x :: rest) := rfl
  exact Owe.via (fun _ q => XS.isub K.here K.hx hg hd hs q) kk
theorem oIand (K : Wk p l e R s m args below meth c Z a0 EL own mx sf0 sf T locs cells slots h) (pc' : Nat) {x y : Int32} {rest : List Value} (hd : decode c.code pc = .ok (.iand, 1)) (kk : Owe p e below Post T (mkF m pc' ls (.int (x &&& y) :: rest))) (hp : pc + 1 = pc' := by rfl) : Owe p e below Post T (mkF m pc ls (.int y :: .int x :: rest)) := by
  subst hp
  have hg : (mkF m pc ls (.int y :: .int x :: rest)).method = m := rfl
  have hs : (mkF m pc ls (.int y :: .int x :: rest)).stack = (.int y :: .int x :: rest) := rfl
  exact Owe.via (fun _ q => XS.iand K.here K.hx hg hd hs q) kk
theorem oDup (K : Wk p l e R s m args below meth c Z a0 EL own mx sf0 sf T locs cells slots h) (pc' : Nat) {x : Value} {rest : List Value} (hd : decode c.code pc = .ok (.dup, 1)) (hc : x.category = 1) (kk : Owe p e below Post T (mkF m pc' ls (x :: x :: rest))) (hp : pc + 1 = pc' := by rfl) : Owe p e below Post T (mkF m pc ls (x :: rest)) := by
  subst hp
  have hg : (mkF m pc ls (x :: rest)).method = m := rfl
  have hs : (mkF m pc ls (x :: rest)).stack = (x :: rest) := rfl
  exact Owe.via (fun _ q => XS.dup K.here K.hx hg hd hs hc q) kk
theorem oIstoreN (K : Wk p l e R s m args below meth c Z a0 EL own mx sf0 sf T locs cells slots h) (pc' : Nat) {k : Fin 4} {x : Int32} {rest : List Value} {l' : Array Slot} (hd : decode c.code pc = .ok (.istore_n k, 1)) (hl : storeLocals ls k.val (.int x) = some l') (kk : Owe p e below Post T (mkF m pc' l' (rest))) (hp : pc + 1 = pc' := by rfl) : Owe p e below Post T (mkF m pc ls (.int x :: rest)) := by
  subst hp
  have hg : (mkF m pc ls (.int x :: rest)).method = m := rfl
  have hs : (mkF m pc ls (.int x :: rest)).stack = (.int x :: rest) := rfl
  exact Owe.via (fun _ q => XS.istoreN K.here K.hx hg hd hs hl q) kk
theorem oIstore (K : Wk p l e R s m args below meth c Z a0 EL own mx sf0 sf T locs cells slots h) (pc' : Nat) {k : Nat} {x : Int32} {rest : List Value} {l' : Array Slot} (hd : decode c.code pc = .ok (.istore k, 2)) (hl : storeLocals ls k (.int x) = some l') (kk : Owe p e below Post T (mkF m pc' l' (rest))) (hp : pc + 2 = pc' := by rfl) : Owe p e below Post T (mkF m pc ls (.int x :: rest)) := by
  subst hp
  have hg : (mkF m pc ls (.int x :: rest)).method = m := rfl
  have hs : (mkF m pc ls (.int x :: rest)).stack = (.int x :: rest) := rfl
  exact Owe.via (fun _ q => XS.istore K.here K.hx hg hd hs hl q) kk
theorem oAstoreN (K : Wk p l e R s m args below meth c Z a0 EL own mx sf0 sf T locs cells slots h) (pc' : Nat) {k : Fin 4} {x : Value} {rest : List Value} {l' : Array Slot} (hd : decode c.code pc = .ok (.astore_n k, 1)) (hv : x.isRef = true) (hl : storeLocals ls k.val x = some l') (kk : Owe p e below Post T (mkF m pc' l' (rest))) (hp : pc + 1 = pc' := by rfl) : Owe p e below Post T (mkF m pc ls (x :: rest)) := by
  subst hp
  have hg : (mkF m pc ls (x :: rest)).method = m := rfl
  have hs : (mkF m pc ls (x :: rest)).stack = (x :: rest) := rfl
  exact Owe.via (fun _ q => XS.astoreN K.here K.hx hg hd hs hv hl q) kk
theorem oAstore (K : Wk p l e R s m args below meth c Z a0 EL own mx sf0 sf T locs cells slots h) (pc' : Nat) {k : Nat} {x : Value} {rest : List Value} {l' : Array Slot} (hd : decode c.code pc = .ok (.astore k, 2)) (hv : x.isRef = true) (hl : storeLocals ls k x = some l') (kk : Owe p e below Post T (mkF m pc' l' (rest))) (hp : pc + 2 = pc' := by rfl) : Owe p e below Post T (mkF m pc ls (x :: rest)) := by
  subst hp
  have hg : (mkF m pc ls (x :: rest)).method = m := rfl
  have hs : (mkF m pc ls (x :: rest)).stack = (x :: rest) := rfl
  exact Owe.via (fun _ q => XS.astore K.here K.hx hg hd hs hv hl q) kk
theorem oGoto (K : Wk p l e R s m args below meth c Z a0 EL own mx sf0 sf T locs cells slots h) (pc' : Nat) {o : Int}  (hd : decode c.code pc = .ok (.goto o, 3)) (kk : Owe p e below Post T (mkF m pc' ls (st))) (ho : 0 ≤ (pc : Int) + o := by decide) (hp : ((pc : Int) + o).toNat = pc' := by decide) : Owe p e below Post T (mkF m pc ls st) := by
  have hg : (mkF m pc ls st).method = m := rfl
  have hpc : (mkF m pc ls st).pc = pc := rfl
  exact Owe.via (fun _ q => XS.goto K.here K.hx hg hpc hd ho hp q) kk
theorem oIfYes (K : Wk p l e R s m args below meth c Z a0 EL own mx sf0 sf T locs cells slots h) (pc' : Nat) {cd : ClassFile.Cond} {x : Int32} {rest : List Value} {o : Int}  (hd : decode c.code pc = .ok (.ifCond cd o, 3)) (hc : ifCond.holds cd x = true) (kk : Owe p e below Post T (mkF m pc' ls (rest))) (ho : 0 ≤ (pc : Int) + o := by decide) (hp : ((pc : Int) + o).toNat = pc' := by decide) : Owe p e below Post T (mkF m pc ls (.int x :: rest)) := by
  have hg : (mkF m pc ls (.int x :: rest)).method = m := rfl
  have hs : (mkF m pc ls (.int x :: rest)).stack = (.int x :: rest) := rfl
  have hpc : (mkF m pc ls (.int x :: rest)).pc = pc := rfl
  exact Owe.via (fun _ q => XS.ifYes K.here K.hx hg hpc hd hs hc ho hp q) kk
theorem oIfNo (K : Wk p l e R s m args below meth c Z a0 EL own mx sf0 sf T locs cells slots h) (pc' : Nat) {cd : ClassFile.Cond} {o : Int} {x : Int32} {rest : List Value} (hd : decode c.code pc = .ok (.ifCond cd o, 3)) (hc : ifCond.holds cd x = false) (kk : Owe p e below Post T (mkF m pc' ls (rest))) (hp : pc + 3 = pc' := by rfl) : Owe p e below Post T (mkF m pc ls (.int x :: rest)) := by
  subst hp
  have hg : (mkF m pc ls (.int x :: rest)).method = m := rfl
  have hs : (mkF m pc ls (.int x :: rest)).stack = (.int x :: rest) := rfl
  exact Owe.via (fun _ q => XS.ifNo K.here K.hx hg hd hs hc q) kk
theorem oIcmpYes (K : Wk p l e R s m args below meth c Z a0 EL own mx sf0 sf T locs cells slots h) (pc' : Nat) {cd : ClassFile.Cond} {x y : Int32} {rest : List Value} {o : Int}  (hd : decode c.code pc = .ok (.if_icmp cd o, 3)) (hc : if_icmp.holds cd x y = true) (kk : Owe p e below Post T (mkF m pc' ls (rest))) (ho : 0 ≤ (pc : Int) + o := by decide) (hp : ((pc : Int) + o).toNat = pc' := by decide) : Owe p e below Post T (mkF m pc ls (.int y :: .int x :: rest)) := by
  have hg : (mkF m pc ls (.int y :: .int x :: rest)).method = m := rfl
  have hs : (mkF m pc ls (.int y :: .int x :: rest)).stack = (.int y :: .int x :: rest) := rfl
  have hpc : (mkF m pc ls (.int y :: .int x :: rest)).pc = pc := rfl
  exact Owe.via (fun _ q => XS.icmpYes K.here K.hx hg hpc hd hs hc ho hp q) kk
theorem oIcmpNo (K : Wk p l e R s m args below meth c Z a0 EL own mx sf0 sf T locs cells slots h) (pc' : Nat) {cd : ClassFile.Cond} {o : Int} {x y : Int32} {rest : List Value} (hd : decode c.code pc = .ok (.if_icmp cd o, 3)) (hc : if_icmp.holds cd x y = false) (kk : Owe p e below Post T (mkF m pc' ls (rest))) (hp : pc + 3 = pc' := by rfl) : Owe p e below Post T (mkF m pc ls (.int y :: .int x :: rest)) := by
  subst hp
  have hg : (mkF m pc ls (.int y :: .int x :: rest)).method = m := rfl
  have hs : (mkF m pc ls (.int y :: .int x :: rest)).stack = (.int y :: .int x :: rest) := rfl
  exact Owe.via (fun _ q => XS.icmpNo K.here K.hx hg hd hs hc q) kk
theorem oIrem (K : Wk p l e R s m args below meth c Z a0 EL own mx sf0 sf T locs cells slots h) (pc' : Nat) {x y : Int32} {rest : List Value} (hd : decode c.code pc = .ok (.irem, 1)) (hy : y ≠ 0) (kk : Owe p e below Post T (mkF m pc' ls (.int (x % y) :: rest))) (hp : pc + 1 = pc' := by rfl) : Owe p e below Post T (mkF m pc ls (.int y :: .int x :: rest)) := by
  subst hp
  have hg : (mkF m pc ls (.int y :: .int x :: rest)).method = m := rfl
  have hs : (mkF m pc ls (.int y :: .int x :: rest)).stack = (.int y :: .int x :: rest) := rfl
  obtain ⟨q0, vm0, k0, X, q⟩ := K
  exact Owe.via (fun _ r => iremM X q0.1 hg hd hs hy r) kk
theorem oIinc (K : Wk p l e R s m args below meth c Z a0 EL own mx sf0 sf T locs cells slots h) (pc' : Nat) {k : Nat} {cst : Int} {x : Int32} {l' : Array Slot} (hd : decode c.code pc = .ok (.iinc k cst, 3)) (hl : ls[k]? = some (.val (.int x))) (hl' : storeLocals ls k (.int (x + Int32.ofInt cst)) = some l') (kk : Owe p e below Post T (mkF m pc' l' (st))) (hp : pc + 3 = pc' := by rfl) : Owe p e below Post T (mkF m pc ls st) := by
  subst hp
  have hg : (mkF m pc ls st).method = m := rfl
  exact Owe.via (fun _ q => XS.iinc K.here K.hx hg hd hl hl' q) kk
theorem oIor (K : Wk p l e R s m args below meth c Z a0 EL own mx sf0 sf T locs cells slots h) (pc' : Nat) {x y : Int32} {rest : List Value} (hd : decode c.code pc = .ok (.ior, 1)) (kk : Owe p e below Post T (mkF m pc' ls (.int (x ||| y) :: rest))) (hp : pc + 1 = pc' := by rfl) : Owe p e below Post T (mkF m pc ls (.int y :: .int x :: rest)) := by
  subst hp
  have hg : (mkF m pc ls (.int y :: .int x :: rest)).method = m := rfl
  have hs : (mkF m pc ls (.int y :: .int x :: rest)).stack = (.int y :: .int x :: rest) := rfl
  exact Owe.via (fun _ q => XT.ior K.here K.hx hg hd hs q) kk
theorem oIshl (K : Wk p l e R s m args below meth c Z a0 EL own mx sf0 sf T locs cells slots h) (pc' : Nat) {x y : Int32} {rest : List Value} (hd : decode c.code pc = .ok (.ishl, 1)) (kk : Owe p e below Post T (mkF m pc' ls (.int (x <<< (y &&& 31)) :: rest))) (hp : pc + 1 = pc' := by rfl) : Owe p e below Post T (mkF m pc ls (.int y :: .int x :: rest)) := by
  subst hp
  have hg : (mkF m pc ls (.int y :: .int x :: rest)).method = m := rfl
  have hs : (mkF m pc ls (.int y :: .int x :: rest)).stack = (.int y :: .int x :: rest) := rfl
  exact Owe.via (fun _ q => XT.ishl K.here K.hx hg hd hs q) kk
theorem oIshr (K : Wk p l e R s m args below meth c Z a0 EL own mx sf0 sf T locs cells slots h) (pc' : Nat) {x y : Int32} {rest : List Value} (hd : decode c.code pc = .ok (.ishr, 1)) (kk : Owe p e below Post T (mkF m pc' ls (.int (x >>> (y &&& 31)) :: rest))) (hp : pc + 1 = pc' := by rfl) : Owe p e below Post T (mkF m pc ls (.int y :: .int x :: rest)) := by
  subst hp
  have hg : (mkF m pc ls (.int y :: .int x :: rest)).method = m := rfl
  have hs : (mkF m pc ls (.int y :: .int x :: rest)).stack = (.int y :: .int x :: rest) := rfl
  exact Owe.via (fun _ q => XT.ishr K.here K.hx hg hd hs q) kk
theorem oIushr (K : Wk p l e R s m args below meth c Z a0 EL own mx sf0 sf T locs cells slots h) (pc' : Nat) {x y : Int32} {rest : List Value} (hd : decode c.code pc = .ok (.iushr, 1)) (kk : Owe p e below Post T (mkF m pc' ls (.int (XT.ushr x y) :: rest))) (hp : pc + 1 = pc' := by rfl) : Owe p e below Post T (mkF m pc ls (.int y :: .int x :: rest)) := by
  subst hp
  have hg : (mkF m pc ls (.int y :: .int x :: rest)).method = m := rfl
  have hs : (mkF m pc ls (.int y :: .int x :: rest)).stack = (.int y :: .int x :: rest) := rfl
  exact Owe.via (fun _ q => XT.iushr K.here K.hx hg hd hs q) kk
theorem oI2b (K : Wk p l e R s m args below meth c Z a0 EL own mx sf0 sf T locs cells slots h) (pc' : Nat) {x : Int32} {rest : List Value} (hd : decode c.code pc = .ok (.i2b, 1)) (kk : Owe p e below Post T (mkF m pc' ls (.int (x.toInt8.toInt32) :: rest))) (hp : pc + 1 = pc' := by rfl) : Owe p e below Post T (mkF m pc ls (.int x :: rest)) := by
  subst hp
  have hg : (mkF m pc ls (.int x :: rest)).method = m := rfl
  have hs : (mkF m pc ls (.int x :: rest)).stack = (.int x :: rest) := rfl
  exact Owe.via (fun _ q => XT.i2b K.here K.hx hg hd hs q) kk
theorem oI2c (K : Wk p l e R s m args below meth c Z a0 EL own mx sf0 sf T locs cells slots h) (pc' : Nat) {x : Int32} {rest : List Value} (hd : decode c.code pc = .ok (.i2c, 1)) (kk : Owe p e below Post T (mkF m pc' ls (.int (x.toUInt32.toUInt16.toUInt32.toInt32) :: rest))) (hp : pc + 1 = pc' := by rfl) : Owe p e below Post T (mkF m pc ls (.int x :: rest)) := by
  subst hp
  have hg : (mkF m pc ls (.int x :: rest)).method = m := rfl
  have hs : (mkF m pc ls (.int x :: rest)).stack = (.int x :: rest) := rfl
  exact Owe.via (fun _ q => XT.i2c K.here K.hx hg hd hs q) kk
theorem oPop (K : Wk p l e R s m args below meth c Z a0 EL own mx sf0 sf T locs cells slots h) (pc' : Nat) {x : Value} {rest : List Value} (hd : decode c.code pc = .ok (.pop, 1)) (hc : x.category = 1) (kk : Owe p e below Post T (mkF m pc' ls (rest))) (hp : pc + 1 = pc' := by rfl) : Owe p e below Post T (mkF m pc ls (x :: rest)) := by
  subst hp
  have hg : (mkF m pc ls (x :: rest)).method = m := rfl
  have hs : (mkF m pc ls (x :: rest)).stack = (x :: rest) := rfl
  exact Owe.via (fun _ q => XT.pop K.here K.hx hg hd hs hc q) kk
theorem oIconstV (K : Wk p l e R s m args below meth c Z a0 EL own mx sf0 sf T locs cells slots h) (pc' : Nat) {i : Int} (v : Int32) (hd : decode c.code pc = .ok (.iconst i, 1)) (hv : Int32.ofInt i = v) (kk : Owe p e below Post T (mkF m pc' ls (.int v :: st))) (hp : pc + 1 = pc' := by rfl) : Owe p e below Post T (mkF m pc ls st) := by
  subst hp
  have hg : (mkF m pc ls st).method = m := rfl
  exact Owe.via (fun _ q => XT.iconstV K.here K.hx hg v hd hv q) kk
theorem oBipushV (K : Wk p l e R s m args below meth c Z a0 EL own mx sf0 sf T locs cells slots h) (pc' : Nat) {i : Int} (v : Int32) (hd : decode c.code pc = .ok (.bipush i, 2)) (hv : (Int8.ofInt i).toInt32 = v) (kk : Owe p e below Post T (mkF m pc' ls (.int v :: st))) (hp : pc + 2 = pc' := by rfl) : Owe p e below Post T (mkF m pc ls st) := by
  subst hp
  have hg : (mkF m pc ls st).method = m := rfl
  exact Owe.via (fun _ q => XT.bipushV K.here K.hx hg v hd hv q) kk
theorem oSipushV (K : Wk p l e R s m args below meth c Z a0 EL own mx sf0 sf T locs cells slots h) (pc' : Nat) {i : Int} (v : Int32) (hd : decode c.code pc = .ok (.sipush i, 3)) (hv : (Int16.ofInt i).toInt32 = v) (kk : Owe p e below Post T (mkF m pc' ls (.int v :: st))) (hp : pc + 3 = pc' := by rfl) : Owe p e below Post T (mkF m pc ls st) := by
  subst hp
  have hg : (mkF m pc ls st).method = m := rfl
  exact Owe.via (fun _ q => XT.sipushV K.here K.hx hg v hd hv q) kk
end Walk
end Jvm.OwnKit



namespace Jvm.Pilot.@@N@@
open Jvm Jvm.ClassFile Sem Op Lib Jvm.Free Jvm.Stand Jvm.LawKit Jvm.RoadKit Jvm.OwnKit Bundle Jvm.Pilot.@@N@@.Jvm.D
set_option maxRecDepth 65536
set_option maxHeartbeats 1000000
abbrev rmk (f ce sl lo : Nat) : Room := { frames := f, cells := ce, slots := sl, locals := lo }
abbrev ELs : List (String × Nat) := [("java/lang/String", 7)]
def Gl (Z : State) (a0 : Array Value) (z0 : Int32) (fm : Value) : Prop := (∀ d ∈ tables_1, d.before a0 Z = true) ∧ EW Z a0 ELs ∧ (∀ a ∈ Bundle.stringAtoms, a.before a0 Z = true) ∧ (Sta Z Z.heap "java/lang/String" "COMPACT_STRINGS" "Z" (.int z0)) ∧ (¬ z0 = (0 : Int32)) ∧ (Sta Z Z.heap "java/lang/StringUTF16" "$assertionsDisabled" "Z" (.int (1 : Int32))) ∧ (Sta Z Z.heap "java/lang/StringUTF16" "HI_BYTE_SHIFT" "I" (.int (0 : Int32))) ∧ (Sta Z Z.heap "java/lang/StringUTF16" "LO_BYTE_SHIFT" "I" (.int (8 : Int32))) ∧ (Sta Z Z.heap "jdk/internal/util/Preconditions" "SIOOBE_FORMATTER" "Ljava/util/function/BiFunction;" fm) ∧ (fm.isRef = true)
theorem wq {Z : State} {a0 : Array Value} (hw : ∀ d ∈ tables_1, d.before a0 Z = true) {d : Jvm.Cond} (i : Nat) (h : tables_1[i]? = some d := by rfl) : d.before a0 Z = true := hw d (List.mem_of_getElem? h)
abbrev DC (b : ByteArray) (pc : Nat) (i : Instr) (n : Nat) : Prop := ∀ {c : Code}, c.code = b → decode c.code pc = .ok (i, n)
theorem hb' {b : ByteArray} {pc n : Nat} {i : Instr} (h : decode b pc = .ok (i, n)) : DC b pc i n := fun q => hb q h
abbrev Own (Z : State) (h0 : Heap) (sf : List Addr) : Prop := ∀ x ∈ sf, x < h0.size ∧ Z.heap.size ≤ x
variable (l : Launch) (Z : State) (a0 : Array Value) (z0 : Int32) (fm : Value)
variable {p : Program} {e : Env} {s : State} {m : MethodId} {below : List Frame} {meth : Method} {c : Code} {T0 : State} {lo0 : List Loc}
theorem nar_rng {c : Int32} (h1 : ¬ c < (0 : Int32)) (h2 : ¬ (65535 : Int32) < c) : nar .char c = c := chr_id h1 h2
theorem narrow_rng {c : Int32} (h1 : ¬ c < (0 : Int32)) (h2 : ¬ (65535 : Int32) < c) : narrow .char (.int c) = .int c := congrArg Value.int (chr_id h1 h2)
theorem c_byt (x : Int32) : ((byt x).toInt - x.toInt) % 256 = 0 ∧ -128 ≤ (byt x).toInt ∧ (byt x).toInt < 128 := c_i2b x
theorem c_chr (x : Int32) : ((chr x).toInt - x.toInt) % 65536 = 0 ∧ 0 ≤ (chr x).toInt ∧ (chr x).toInt < 65536 := c_i2c x
theorem own_lat {c : Int32} (h1 : ¬ c < (0 : Int32)) (h2 : ¬ (255 : Int32) < c) : (byt c) &&& (255 : Int32) = c := by
  simp only [Int32.lt_iff_toInt_lt, Int32.reduceToInt] at h1 h2
  have b := c_byt c
  have d := c_mask (byt c) 255 8 (by decide) (by decide)
  refine Int32.toInt_inj.mp ?_
  omega
theorem own_getc {c : Int32} (h1 : ¬ c < (0 : Int32)) (h2 : ¬ (65535 : Int32) < c) : chr ((((byt (c >>> ((0 : Int32) &&& 31))) &&& (255 : Int32)) <<< ((0 : Int32) &&& 31)) ||| (((byt (c >>> ((8 : Int32) &&& 31))) &&& (255 : Int32)) <<< ((8 : Int32) &&& 31))) = c := by
  simp only [Int32.lt_iff_toInt_lt, Int32.reduceToInt] at h1 h2
  have a1 := c_ishr c 0 0 (by decide)
  have a2 := c_ishr c 8 8 (by decide)
  have b1 := c_byt (c >>> ((0 : Int32) &&& 31))
  have b2 := c_byt (c >>> ((8 : Int32) &&& 31))
  have d1 := c_mask (byt (c >>> ((0 : Int32) &&& 31))) 255 8 (by decide) (by decide)
  have d2 := c_mask (byt (c >>> ((8 : Int32) &&& 31))) 255 8 (by decide) (by decide)
  generalize byt (c >>> ((0 : Int32) &&& 31)) &&& 255 = u at *
  generalize byt (c >>> ((8 : Int32) &&& 31)) &&& 255 = v at *
  have e1 := c_ishl u 0 0 (by decide)
  have e2 := c_ishl v 8 8 (by decide)
  have r1 := rng32 (u <<< ((0 : Int32) &&& 31))
  have r2 := rng32 (v <<< ((8 : Int32) &&& 31))
  have o := c_or' (u <<< ((0 : Int32) &&& 31)) (v <<< ((8 : Int32) &&& 31)) 8 (by decide) 256 (by decide)
  have r3 := rng32 (u <<< ((0 : Int32) &&& 31) ||| v <<< ((8 : Int32) &&& 31))
  have k := c_chr (u <<< ((0 : Int32) &&& 31) ||| v <<< ((8 : Int32) &&& 31))
  refine Int32.toInt_inj.mp ?_
  have hu : (u <<< ((0 : Int32) &&& 31)).toInt = u.toInt := by omega
  have hv : (v <<< ((8 : Int32) &&& 31)).toInt = v.toInt * 256 := by omega
  have o' := o (by omega) (by omega) (by omega)
  omega
theorem own_chl {c : Int32} (h1 : ¬ c < (0 : Int32)) (h2 : ¬ (255 : Int32) < c) : chr ((byt c) &&& (255 : Int32)) = c := by
  have q := own_lat h1 h2
  simp only [Int32.lt_iff_toInt_lt, Int32.reduceToInt] at h1 h2
  have k := c_chr ((byt c) &&& (255 : Int32))
  refine Int32.toInt_inj.mp ?_
  have q' := congrArg Int32.toInt q
  omega
abbrev hiI (c : Int32) : Prop := 55296 ≤ c.toInt ∧ c.toInt ≤ 56319
abbrev loI (c : Int32) : Prop := 56320 ≤ c.toInt ∧ c.toInt ≤ 57343
abbrev y0 := jdk_42_method_149_code
theorem d0_0 : DC y0 0 (.aload_n 0) 1 := hb' (by decide +kernel)
theorem d0_1 : DC y0 1 (.invokespecial 1) 3 := hb' (by decide +kernel)
theorem d0_4 : DC y0 4 (.iload_n 3) 1 := hb' (by decide +kernel)
theorem d0_5 : DC y0 5 (.ifCond .ne 22) 3 := hb' (by decide +kernel)
theorem d0_8 : DC y0 8 (.aload_n 0) 1 := hb' (by decide +kernel)
theorem d0_9 : DC y0 9 (.ldc 7) 2 := hb' (by decide +kernel)
theorem d0_11 : DC y0 11 (.getfield 9) 3 := hb' (by decide +kernel)
theorem d0_14 : DC y0 14 (.putfield 9) 3 := hb' (by decide +kernel)
theorem d0_17 : DC y0 17 (.aload_n 0) 1 := hb' (by decide +kernel)
theorem d0_18 : DC y0 18 (.ldc 7) 2 := hb' (by decide +kernel)
theorem d0_20 : DC y0 20 (.getfield 15) 3 := hb' (by decide +kernel)
theorem d0_23 : DC y0 23 (.putfield 15) 3 := hb' (by decide +kernel)
theorem d0_26 : DC y0 26 (.return_) 1 := hb' (by decide +kernel)
theorem ef14 (m : MethodId) (x0 : Addr) (x1 : Addr) (x2 : Int32) (x3 : Int32) : entryFrame m #[(.ref x0), (.ref x1), (.int x2), (.int x3), .null] 6 = mkF m 0 #[.val (.ref x0), .val (.ref x1), .val (.int x2), .val (.int x3), .val .null, .unset] [] := by first | (simp [entryFrame, mkF, argsToLocals, Value.category]; done) | rfl
abbrev yn15 : MethodName := ⟨"java/lang/String", "<init>", "([CIILjava/lang/Void;)V"⟩
theorem pn16 : plainName "java/lang/String" = true := by first | (simp [plainName, overriddenIn]; done) | decide +kernel
theorem rmN4 (G : Gl Z a0 z0 fm) (x b : Addr) (h0 : Heap) (hZh : Ext Z.heap h0) (hsf : Own Z h0 [x]) (P0 : Exa Z h0 x "java/lang/String") (P1 : Fld Z h0 x "java/lang/String" "value" "[B" .null) (P2 : Fld Z h0 x "java/lang/String" "coder" "B" (.int 0)) :
    Ctr l Z ELs yn15 jdk_42_method_149_code 6 none [] (rmk 1 4 8 12) #[(.ref x), (.ref b), (.int 0), (.int 0), .null] [x] h0 (fun v h fs => (∃ t : Addr, fs = [] ∧ v = none ∧ Exa Z h x "java/lang/String" ∧ Fld Z h x "java/lang/String" "value" "[B" (.ref t) ∧ Fld Z h x "java/lang/String" "coder" "B" (.int 0) ∧ Ary Z h t .byte [] ∧ x ≠ t)) := by
  obtain ⟨hw, hEL, wS, OS, hz0, OA, OH, OL, OF, rfm⟩ := id G
  refine Ctr.intro pn16 hEL hZh hsf ?_
  intro p e s m below meth c s₁ hby hml hret hnm hlk hh K0
  refine Owe.cast (ef14 m x b ((0 : Int32)) ((0 : Int32))) ?_
  show Owe _ _ _ _ s₁ (mkF m 0 #[.val (.ref x), .val (.ref b), .val (.int 0), .val (.int 0), .val .null, .unset] [])
  refine oAloadN K0 1 (d0_0 hby) rfl rfl ?_
  refine oInitO K0 4 (wq hw 22) (wq hw 23) (wq hw 24) rfl (d0_1 hby) (by decide) (W := 0) nle (by decide) ?_
  intro T1 K2
  refine oIloadN K2 5 (d0_4 hby) rfl ?_
  refine oIfNo K2 8 (d0_5 hby) (XT.i0_ne_f (by decide)) ?_
  refine oAloadN K2 9 (d0_8 hby) rfl rfl ?_
  refine oLdcC K2 11 0 [] (wq hw 25) wS (by decide) (by decide) (by decide) (d0_9 hby) (by decide) (by decide) (by decide) (by decide) ?_
  intro T6 h3 a4 b8 K7 E5 f9 f10 f11 f12 f13
  have K14 := K7.to 2 4 [x]
  refine oGetF K14 14 (wq hw 31) f11 (d0_11 hby) ?_
  intro T15 K16
  refine oPutF K16 17 (by simp) (wq hw 31) (P1.ext E5) (P0.ext E5) (Or.inr ⟨(wq hw 27), rfl, hnm⟩) (wq hw 13) (ty := (.array .byte)) (by decide) rfl rfl (d0_14 hby) ?_
  intro T20 h17 lo19 K21 W18
  have F22 : Fld Z h17 x "java/lang/String" "value" "[B" (.ref b8) := Fld.same W18 (P1.ext E5)
  refine oAloadN K21 18 (d0_17 hby) rfl rfl ?_
  refine oLdcC K21 20 0 [] (wq hw 25) wS (by decide) (by decide) (by decide) (d0_18 hby) (by decide) (by decide) (by decide) (by decide) ?_
  intro T26 h23 a24 b28 K27 E25 f29 f30 f31 f32 f33
  have K34 := K27.to 4 8 [x]
  refine oGetF K34 23 (wq hw 32) f30 (d0_20 hby) ?_
  intro T35 K36
  refine oPutF K36 26 (by simp) (wq hw 32) ((Fld.other W18 (P2.ext E5) (Or.inr (slot_ne (Or.inr (wq hw 28)) (Or.inr (wq hw 27)) (by decide) rfl rfl))).ext E25) (((P0.ext E5).wr W18).ext E25) (Or.inr ⟨(wq hw 28), rfl, hnm⟩) (wq hw 13) (ty := .byte) (by decide) rfl rfl (d0_23 hby) ?_
  intro T40 h37 lo39 K41 W38
  have F42 : Fld Z h37 x "java/lang/String" "coder" "B" (.int 0) := Fld.same W38 ((Fld.other W18 (P2.ext E5) (Or.inr (slot_ne (Or.inr (wq hw 28)) (Or.inr (wq hw 27)) (by decide) rfl rfl))).ext E25)
  exact oRetV K41 [] hret (d0_26 hby) (by decide) (by decide) hlk (fun x hx => by cases hx) ⟨b8, rfl, rfl, ((((P0.ext E5).wr W18).ext E25).wr W38), (Fld.other W38 (F22.ext E25) (Or.inr (slot_ne (Or.inr (wq hw 27)) (Or.inr (wq hw 28)) (by decide) rfl rfl))), F42, (Ary.other ((Ary.other f12 W18 (Ne.symm (f13 x (by simp)).2)).ext E25) W38 (Ne.symm (f13 x (by simp)).2)), (f13 x (by simp)).2⟩
abbrev y1 := jdk_42_method_3_code
theorem d1_0 : DC y1 0 (.aload_n 0) 1 := hb' (by decide +kernel)
theorem d1_1 : DC y1 1 (.aload_n 1) 1 := hb' (by decide +kernel)
theorem d1_2 : DC y1 2 (.iconst 0) 1 := hb' (by decide +kernel)
theorem d1_3 : DC y1 3 (.aload_n 1) 1 := hb' (by decide +kernel)
theorem d1_4 : DC y1 4 (.arraylength) 1 := hb' (by decide +kernel)
theorem d1_5 : DC y1 5 (.aconst_null) 1 := hb' (by decide +kernel)
theorem d1_6 : DC y1 6 (.invokespecial 27) 3 := hb' (by decide +kernel)
theorem pd25 : parseMethodDescriptor "([CIILjava/lang/Void;)V" = some ⟨[(.array .char), .int, .int, (.object "java/lang/Void")], none⟩ := by decide +kernel
theorem d1_9 : DC y1 9 (.return_) 1 := hb' (by decide +kernel)
theorem ef27 (m : MethodId) (x0 : Addr) (x1 : Addr) : entryFrame m #[(.ref x0), (.ref x1)] 2 = mkF m 0 #[.val (.ref x0), .val (.ref x1)] [] := by first | (simp [entryFrame, mkF, argsToLocals, Value.category]; done) | rfl
abbrev yn28 : MethodName := ⟨"java/lang/String", "<init>", "([C)V"⟩
theorem rmN1 (G : Gl Z a0 z0 fm) (x b : Addr) (h0 : Heap) (hZh : Ext Z.heap h0) (hsf : Own Z h0 [x]) (P0 : Exa Z h0 x "java/lang/String") (P1 : Fld Z h0 x "java/lang/String" "value" "[B" .null) (P2 : Fld Z h0 x "java/lang/String" "coder" "B" (.int 0)) (P3 : Ary Z h0 b .char []) :
    Ctr l Z ELs yn28 jdk_42_method_3_code 2 none [] (rmk 2 4 8 29) #[(.ref x), (.ref b)] [x] h0 (fun v h fs => (∃ t : Addr, fs = [] ∧ v = none ∧ Exa Z h x "java/lang/String" ∧ Fld Z h x "java/lang/String" "value" "[B" (.ref t) ∧ Fld Z h x "java/lang/String" "coder" "B" (.int 0) ∧ Ary Z h t .byte [] ∧ x ≠ t)) := by
  obtain ⟨hw, hEL, wS, OS, hz0, OA, OH, OL, OF, rfm⟩ := id G
  refine Ctr.intro pn16 hEL hZh hsf ?_
  intro p e s m below meth c s₁ hby hml hret hnm hlk hh K0
  refine Owe.cast (ef27 m x b) ?_
  show Owe _ _ _ _ s₁ (mkF m 0 #[.val (.ref x), .val (.ref b)] [])
  refine oAloadN K0 1 (d1_0 hby) rfl rfl ?_
  refine oAloadN K0 2 (d1_1 hby) rfl rfl ?_
  refine oIconstV K0 3 (0 : Int32) (d1_2 hby) rfl ?_
  refine oAloadN K0 4 (d1_3 hby) rfl rfl ?_
  refine oLen K0 5 P3 (n := (0 : Int32)) (by first | rfl | decide) (d1_4 hby) ?_
  refine oAconstNull K0 6 (d1_5 hby) ?_
  refine oSpecial K0 9 0 (wq hw 18) (wq hw 19) (wq hw 14) (wq hw 21) (rmN4 l Z a0 z0 fm G x b h0 K0.old K0.both P0 P1 P2) [(.ref b), (.int 0), (.int 0), .null] [] (lenOf pd25 rfl) (d1_6 hby) ?_
  intro T1 h3 v4 lo5 fs6 K2 Kp7 q8
  obtain ⟨t9, rfl, rfl, f10, f11, f12, f13, f14⟩ := q8
  have K15 := K2.to 4 8 [x]
  refine Owe.stk [] ?_
  exact oRetV K15 [] hret (d1_9 hby) (by decide) (by decide) hlk (fun x hx => by cases hx) ⟨t9, rfl, rfl, f10, f11, f12, f13, f14⟩
abbrev y2 := jdk_52_method_3_code
theorem d2_0 : DC y2 0 (.iload_n 0) 1 := hb' (by decide +kernel)
theorem d2_1 : DC y2 1 (.ifCond .ge 11) 3 := hb' (by decide +kernel)
theorem d2_12 : DC y2 12 (.iload_n 0) 1 := hb' (by decide +kernel)
theorem d2_13 : DC y2 13 (.ldc 20) 2 := hb' (by decide +kernel)
theorem d2_15 : DC y2 15 (.if_icmp .lt 40) 3 := hb' (by decide +kernel)
theorem d2_55 : DC y2 55 (.iload_n 0) 1 := hb' (by decide +kernel)
theorem d2_56 : DC y2 56 (.iconst 1) 1 := hb' (by decide +kernel)
theorem d2_57 : DC y2 57 (.ishl) 1 := hb' (by decide +kernel)
theorem d2_58 : DC y2 58 (.ireturn) 1 := hb' (by decide +kernel)
theorem ef39 (m : MethodId) (x0 : Int32) : entryFrame m #[(.int x0)] 1 = mkF m 0 #[.val (.int x0)] [] := by first | (simp [entryFrame, mkF, argsToLocals, Value.category]; done) | rfl
abbrev yn40 : MethodName := ⟨"java/lang/StringUTF16", "newBytesLength", "(I)I"⟩
theorem pn41 : plainName "java/lang/StringUTF16" = true := by first | (simp [plainName, overriddenIn]; done) | decide +kernel
theorem rmNBL1 (G : Gl Z a0 z0 fm) (h0 : Heap) (hZh : Ext Z.heap h0) (hsf : Own Z h0 []) :
    Ctr l Z ELs yn40 jdk_52_method_3_code 1 (some .int) [] (rmk 0 0 0 0) #[(.int 1)] [] h0 (fun v h fs => (fs = [] ∧ v = some (.int 2))) := by
  obtain ⟨hw, hEL, wS, OS, hz0, OA, OH, OL, OF, rfm⟩ := id G
  refine Ctr.intro pn41 hEL hZh hsf ?_
  intro p e s m below meth c s₁ hby hml hret hnm hlk hh K0
  refine Owe.cast (ef39 m ((1 : Int32))) ?_
  show Owe _ _ _ _ s₁ (mkF m 0 #[.val (.int 1)] [])
  refine oIloadN K0 1 (d2_0 hby) rfl ?_
  refine oIfYes K0 12 (d2_1 hby) (XT.i0_ge_t (by decide)) ?_
  refine oIloadN K0 13 (d2_12 hby) rfl ?_
  refine oLdcI K0 15 (wq hw 114) (d2_13 hby) ?_
  refine oIcmpYes K0 55 (d2_15 hby) (XT.ii_lt_t (by decide)) ?_
  refine oIloadN K0 56 (d2_55 hby) rfl ?_
  refine oIconstV K0 57 (1 : Int32) (d2_56 hby) rfl ?_
  refine oIshl K0 58 (d2_57 hby) ?_
  show Owe _ _ _ _ s₁ (mkF m 58 #[.val (.int 1)] [(.int 2)])
  exact oRetI K0 [] (t := .int) hret (by simp) rfl (d2_58 hby) (by decide) (by decide) hlk (fun x hx => by cases hx) ⟨rfl, rfl⟩
theorem rmNBL2 (G : Gl Z a0 z0 fm) (h0 : Heap) (hZh : Ext Z.heap h0) (hsf : Own Z h0 []) :
    Ctr l Z ELs yn40 jdk_52_method_3_code 1 (some .int) [] (rmk 0 0 0 0) #[(.int 2)] [] h0 (fun v h fs => (fs = [] ∧ v = some (.int 4))) := by
  obtain ⟨hw, hEL, wS, OS, hz0, OA, OH, OL, OF, rfm⟩ := id G
  refine Ctr.intro pn41 hEL hZh hsf ?_
  intro p e s m below meth c s₁ hby hml hret hnm hlk hh K0
  refine Owe.cast (ef39 m ((2 : Int32))) ?_
  show Owe _ _ _ _ s₁ (mkF m 0 #[.val (.int 2)] [])
  refine oIloadN K0 1 (d2_0 hby) rfl ?_
  refine oIfYes K0 12 (d2_1 hby) (XT.i0_ge_t (by decide)) ?_
  refine oIloadN K0 13 (d2_12 hby) rfl ?_
  refine oLdcI K0 15 (wq hw 114) (d2_13 hby) ?_
  refine oIcmpYes K0 55 (d2_15 hby) (XT.ii_lt_t (by decide)) ?_
  refine oIloadN K0 56 (d2_55 hby) rfl ?_
  refine oIconstV K0 57 (1 : Int32) (d2_56 hby) rfl ?_
  refine oIshl K0 58 (d2_57 hby) ?_
  show Owe _ _ _ _ s₁ (mkF m 58 #[.val (.int 2)] [(.int 4)])
  exact oRetI K0 [] (t := .int) hret (by simp) rfl (d2_58 hby) (by decide) (by decide) hlk (fun x hx => by cases hx) ⟨rfl, rfl⟩
theorem rmNBL3 (G : Gl Z a0 z0 fm) (h0 : Heap) (hZh : Ext Z.heap h0) (hsf : Own Z h0 []) :
    Ctr l Z ELs yn40 jdk_52_method_3_code 1 (some .int) [] (rmk 0 0 0 0) #[(.int 3)] [] h0 (fun v h fs => (fs = [] ∧ v = some (.int 6))) := by
  obtain ⟨hw, hEL, wS, OS, hz0, OA, OH, OL, OF, rfm⟩ := id G
  refine Ctr.intro pn41 hEL hZh hsf ?_
  intro p e s m below meth c s₁ hby hml hret hnm hlk hh K0
  refine Owe.cast (ef39 m ((3 : Int32))) ?_
  show Owe _ _ _ _ s₁ (mkF m 0 #[.val (.int 3)] [])
  refine oIloadN K0 1 (d2_0 hby) rfl ?_
  refine oIfYes K0 12 (d2_1 hby) (XT.i0_ge_t (by decide)) ?_
  refine oIloadN K0 13 (d2_12 hby) rfl ?_
  refine oLdcI K0 15 (wq hw 114) (d2_13 hby) ?_
  refine oIcmpYes K0 55 (d2_15 hby) (XT.ii_lt_t (by decide)) ?_
  refine oIloadN K0 56 (d2_55 hby) rfl ?_
  refine oIconstV K0 57 (1 : Int32) (d2_56 hby) rfl ?_
  refine oIshl K0 58 (d2_57 hby) ?_
  show Owe _ _ _ _ s₁ (mkF m 58 #[.val (.int 3)] [(.int 6)])
  exact oRetI K0 [] (t := .int) hret (by simp) rfl (d2_58 hby) (by decide) (by decide) hlk (fun x hx => by cases hx) ⟨rfl, rfl⟩
theorem rmNBL4 (G : Gl Z a0 z0 fm) (h0 : Heap) (hZh : Ext Z.heap h0) (hsf : Own Z h0 []) :
    Ctr l Z ELs yn40 jdk_52_method_3_code 1 (some .int) [] (rmk 0 0 0 0) #[(.int 4)] [] h0 (fun v h fs => (fs = [] ∧ v = some (.int 8))) := by
  obtain ⟨hw, hEL, wS, OS, hz0, OA, OH, OL, OF, rfm⟩ := id G
  refine Ctr.intro pn41 hEL hZh hsf ?_
  intro p e s m below meth c s₁ hby hml hret hnm hlk hh K0
  refine Owe.cast (ef39 m ((4 : Int32))) ?_
  show Owe _ _ _ _ s₁ (mkF m 0 #[.val (.int 4)] [])
  refine oIloadN K0 1 (d2_0 hby) rfl ?_
  refine oIfYes K0 12 (d2_1 hby) (XT.i0_ge_t (by decide)) ?_
  refine oIloadN K0 13 (d2_12 hby) rfl ?_
  refine oLdcI K0 15 (wq hw 114) (d2_13 hby) ?_
  refine oIcmpYes K0 55 (d2_15 hby) (XT.ii_lt_t (by decide)) ?_
  refine oIloadN K0 56 (d2_55 hby) rfl ?_
  refine oIconstV K0 57 (1 : Int32) (d2_56 hby) rfl ?_
  refine oIshl K0 58 (d2_57 hby) ?_
  show Owe _ _ _ _ s₁ (mkF m 58 #[.val (.int 4)] [(.int 8)])
  exact oRetI K0 [] (t := .int) hret (by simp) rfl (d2_58 hby) (by decide) (by decide) hlk (fun x hx => by cases hx) ⟨rfl, rfl⟩
abbrev y3 := jdk_52_method_2_code
theorem d3_0 : DC y3 0 (.iload_n 0) 1 := hb' (by decide +kernel)
theorem d3_1 : DC y3 1 (.invokestatic 11) 3 := hb' (by decide +kernel)
theorem pd45 : parseMethodDescriptor "(I)I" = some ⟨[.int], some .int⟩ := by decide +kernel
theorem d3_4 : DC y3 4 (.newarray .byte) 2 := hb' (by decide +kernel)
theorem d3_6 : DC y3 6 (.areturn) 1 := hb' (by decide +kernel)
abbrev yn48 : MethodName := ⟨"java/lang/StringUTF16", "newBytesFor", "(I)[B"⟩
theorem rmNBF1 (G : Gl Z a0 z0 fm) (h0 : Heap) (hZh : Ext Z.heap h0) (hsf : Own Z h0 []) :
    Ctr l Z ELs yn48 jdk_52_method_2_code 1 (some (.array .byte)) [] (rmk 1 1 2 12) #[(.int 1)] [] h0 (fun v h fs => (∃ t : Addr, fs = [t] ∧ v = some (.ref t) ∧ Ary Z h t .byte [(.int 0), (.int 0)] ∧ h0.size ≤ t)) := by
  obtain ⟨hw, hEL, wS, OS, hz0, OA, OH, OL, OF, rfm⟩ := id G
  refine Ctr.intro pn41 hEL hZh hsf ?_
  intro p e s m below meth c s₁ hby hml hret hnm hlk hh K0
  refine Owe.cast (ef39 m ((1 : Int32))) ?_
  show Owe _ _ _ _ s₁ (mkF m 0 #[.val (.int 1)] [])
  refine oIloadN K0 1 (d3_0 hby) rfl ?_
  refine oStatic K0 4 0 (wq hw 111) (wq hw 112) (wq hw 53) (wq hw 113) (rmNBL1 l Z a0 z0 fm G  h0 K0.old K0.both ) [(.int 1)] [] (lenOf pd45 rfl) (d3_1 hby) ?_
  intro T1 h3 v4 lo5 fs6 K2 Kp7 q8
  obtain ⟨rfl, rfl⟩ := q8
  have K9 := K2.to 0 0 []
  refine Owe.stk [(.int 2)] ?_
  refine oNewP K9 6 (ty := .byte) 2 (wq hw 26) rfl (by decide) (by decide) (by decide) (d3_4 hby) (by decide) (by decide) ?_
  intro T15 h10 a11 g12 K16 E13 A14
  have K17 := K16.to 1 2 [a11]
  exact oRetA K17 [a11] hret rfl rfl (d3_6 hby) (by decide) (by decide) hlk (allP1 (by simp) (by rw [hh]; exact Nat.le_trans Kp7.1 (Nat.le_of_eq g12))) ⟨a11, rfl, rfl, A14, (Nat.le_trans Kp7.1 (Nat.le_of_eq g12))⟩
theorem rmNBF2 (G : Gl Z a0 z0 fm) (h0 : Heap) (hZh : Ext Z.heap h0) (hsf : Own Z h0 []) :
    Ctr l Z ELs yn48 jdk_52_method_2_code 1 (some (.array .byte)) [] (rmk 1 1 4 12) #[(.int 2)] [] h0 (fun v h fs => (∃ t : Addr, fs = [t] ∧ v = some (.ref t) ∧ Ary Z h t .byte [(.int 0), (.int 0), (.int 0), (.int 0)] ∧ h0.size ≤ t)) := by
  obtain ⟨hw, hEL, wS, OS, hz0, OA, OH, OL, OF, rfm⟩ := id G
  refine Ctr.intro pn41 hEL hZh hsf ?_
  intro p e s m below meth c s₁ hby hml hret hnm hlk hh K0
  refine Owe.cast (ef39 m ((2 : Int32))) ?_
  show Owe _ _ _ _ s₁ (mkF m 0 #[.val (.int 2)] [])
  refine oIloadN K0 1 (d3_0 hby) rfl ?_
  refine oStatic K0 4 0 (wq hw 111) (wq hw 112) (wq hw 53) (wq hw 113) (rmNBL2 l Z a0 z0 fm G  h0 K0.old K0.both ) [(.int 2)] [] (lenOf pd45 rfl) (d3_1 hby) ?_
  intro T1 h3 v4 lo5 fs6 K2 Kp7 q8
  obtain ⟨rfl, rfl⟩ := q8
  have K9 := K2.to 0 0 []
  refine Owe.stk [(.int 4)] ?_
  refine oNewP K9 6 (ty := .byte) 4 (wq hw 26) rfl (by decide) (by decide) (by decide) (d3_4 hby) (by decide) (by decide) ?_
  intro T15 h10 a11 g12 K16 E13 A14
  have K17 := K16.to 1 4 [a11]
  exact oRetA K17 [a11] hret rfl rfl (d3_6 hby) (by decide) (by decide) hlk (allP1 (by simp) (by rw [hh]; exact Nat.le_trans Kp7.1 (Nat.le_of_eq g12))) ⟨a11, rfl, rfl, A14, (Nat.le_trans Kp7.1 (Nat.le_of_eq g12))⟩
theorem rmNBF3 (G : Gl Z a0 z0 fm) (h0 : Heap) (hZh : Ext Z.heap h0) (hsf : Own Z h0 []) :
    Ctr l Z ELs yn48 jdk_52_method_2_code 1 (some (.array .byte)) [] (rmk 1 1 6 12) #[(.int 3)] [] h0 (fun v h fs => (∃ t : Addr, fs = [t] ∧ v = some (.ref t) ∧ Ary Z h t .byte [(.int 0), (.int 0), (.int 0), (.int 0), (.int 0), (.int 0)] ∧ h0.size ≤ t)) := by
  obtain ⟨hw, hEL, wS, OS, hz0, OA, OH, OL, OF, rfm⟩ := id G
  refine Ctr.intro pn41 hEL hZh hsf ?_
  intro p e s m below meth c s₁ hby hml hret hnm hlk hh K0
  refine Owe.cast (ef39 m ((3 : Int32))) ?_
  show Owe _ _ _ _ s₁ (mkF m 0 #[.val (.int 3)] [])
  refine oIloadN K0 1 (d3_0 hby) rfl ?_
  refine oStatic K0 4 0 (wq hw 111) (wq hw 112) (wq hw 53) (wq hw 113) (rmNBL3 l Z a0 z0 fm G  h0 K0.old K0.both ) [(.int 3)] [] (lenOf pd45 rfl) (d3_1 hby) ?_
  intro T1 h3 v4 lo5 fs6 K2 Kp7 q8
  obtain ⟨rfl, rfl⟩ := q8
  have K9 := K2.to 0 0 []
  refine Owe.stk [(.int 6)] ?_
  refine oNewP K9 6 (ty := .byte) 6 (wq hw 26) rfl (by decide) (by decide) (by decide) (d3_4 hby) (by decide) (by decide) ?_
  intro T15 h10 a11 g12 K16 E13 A14
  have K17 := K16.to 1 6 [a11]
  exact oRetA K17 [a11] hret rfl rfl (d3_6 hby) (by decide) (by decide) hlk (allP1 (by simp) (by rw [hh]; exact Nat.le_trans Kp7.1 (Nat.le_of_eq g12))) ⟨a11, rfl, rfl, A14, (Nat.le_trans Kp7.1 (Nat.le_of_eq g12))⟩
theorem rmNBF4 (G : Gl Z a0 z0 fm) (h0 : Heap) (hZh : Ext Z.heap h0) (hsf : Own Z h0 []) :
    Ctr l Z ELs yn48 jdk_52_method_2_code 1 (some (.array .byte)) [] (rmk 1 1 8 12) #[(.int 4)] [] h0 (fun v h fs => (∃ t : Addr, fs = [t] ∧ v = some (.ref t) ∧ Ary Z h t .byte [(.int 0), (.int 0), (.int 0), (.int 0), (.int 0), (.int 0), (.int 0), (.int 0)] ∧ h0.size ≤ t)) := by
  obtain ⟨hw, hEL, wS, OS, hz0, OA, OH, OL, OF, rfm⟩ := id G
  refine Ctr.intro pn41 hEL hZh hsf ?_
  intro p e s m below meth c s₁ hby hml hret hnm hlk hh K0
  refine Owe.cast (ef39 m ((4 : Int32))) ?_
  show Owe _ _ _ _ s₁ (mkF m 0 #[.val (.int 4)] [])
  refine oIloadN K0 1 (d3_0 hby) rfl ?_
  refine oStatic K0 4 0 (wq hw 111) (wq hw 112) (wq hw 53) (wq hw 113) (rmNBL4 l Z a0 z0 fm G  h0 K0.old K0.both ) [(.int 4)] [] (lenOf pd45 rfl) (d3_1 hby) ?_
  intro T1 h3 v4 lo5 fs6 K2 Kp7 q8
  obtain ⟨rfl, rfl⟩ := q8
  have K9 := K2.to 0 0 []
  refine Owe.stk [(.int 8)] ?_
  refine oNewP K9 6 (ty := .byte) 8 (wq hw 26) rfl (by decide) (by decide) (by decide) (d3_4 hby) (by decide) (by decide) ?_
  intro T15 h10 a11 g12 K16 E13 A14
  have K17 := K16.to 1 8 [a11]
  exact oRetA K17 [a11] hret rfl rfl (d3_6 hby) (by decide) (by decide) hlk (allP1 (by simp) (by rw [hh]; exact Nat.le_trans Kp7.1 (Nat.le_of_eq g12))) ⟨a11, rfl, rfl, A14, (Nat.le_trans Kp7.1 (Nat.le_of_eq g12))⟩
abbrev y4 := jdk_52_method_4_code
theorem d4_0 : DC y4 0 (.getstatic 44) 3 := hb' (by decide +kernel)
theorem d4_3 : DC y4 3 (.ifCond .ne 25) 3 := hb' (by decide +kernel)
theorem d4_28 : DC y4 28 (.iload_n 1) 1 := hb' (by decide +kernel)
theorem d4_29 : DC y4 29 (.iconst 1) 1 := hb' (by decide +kernel)
theorem d4_30 : DC y4 30 (.ishl) 1 := hb' (by decide +kernel)
theorem d4_31 : DC y4 31 (.istore_n 1) 1 := hb' (by decide +kernel)
theorem d4_32 : DC y4 32 (.aload_n 0) 1 := hb' (by decide +kernel)
theorem d4_33 : DC y4 33 (.iload_n 1) 1 := hb' (by decide +kernel)
theorem d4_34 : DC y4 34 (.iinc 1 1) 3 := hb' (by decide +kernel)
theorem d4_37 : DC y4 37 (.iload_n 2) 1 := hb' (by decide +kernel)
theorem d4_38 : DC y4 38 (.getstatic 59) 3 := hb' (by decide +kernel)
theorem d4_41 : DC y4 41 (.ishr) 1 := hb' (by decide +kernel)
theorem d4_42 : DC y4 42 (.i2b) 1 := hb' (by decide +kernel)
theorem d4_43 : DC y4 43 (.bastore) 1 := hb' (by decide +kernel)
theorem d4_44 : DC y4 44 (.aload_n 0) 1 := hb' (by decide +kernel)
theorem d4_45 : DC y4 45 (.iload_n 1) 1 := hb' (by decide +kernel)
theorem d4_46 : DC y4 46 (.iload_n 2) 1 := hb' (by decide +kernel)
theorem d4_47 : DC y4 47 (.getstatic 63) 3 := hb' (by decide +kernel)
theorem d4_50 : DC y4 50 (.ishr) 1 := hb' (by decide +kernel)
theorem d4_51 : DC y4 51 (.i2b) 1 := hb' (by decide +kernel)
theorem d4_52 : DC y4 52 (.bastore) 1 := hb' (by decide +kernel)
theorem d4_53 : DC y4 53 (.return_) 1 := hb' (by decide +kernel)
theorem ef72 (m : MethodId) (x0 : Addr) (x1 : Int32) (x2 : Int32) : entryFrame m #[(.ref x0), (.int x1), (.int x2)] 3 = mkF m 0 #[.val (.ref x0), .val (.int x1), .val (.int x2)] [] := by first | (simp [entryFrame, mkF, argsToLocals, Value.category]; done) | rfl
abbrev yn73 : MethodName := ⟨"java/lang/StringUTF16", "putChar", "([BII)V"⟩
theorem rmPut1_0 (G : Gl Z a0 z0 fm) (t : Addr) (cc e0 e1 : Int32) (h0 : Heap) (hZh : Ext Z.heap h0) (hsf : Own Z h0 [t]) (P0 : Ary Z h0 t .byte [(.int e0), (.int e1)]) :
    Ctr l Z ELs yn73 jdk_52_method_4_code 3 none [] (rmk 0 0 0 0) #[(.ref t), (.int 0), (.int cc)] [t] h0 (fun v h fs => (fs = [] ∧ v = none ∧ Ary Z h t .byte [(.int (byt (cc >>> ((0 : Int32) &&& 31)))), (.int (byt (cc >>> ((8 : Int32) &&& 31))))])) := by
  obtain ⟨hw, hEL, wS, OS, hz0, OA, OH, OL, OF, rfm⟩ := id G
  refine Ctr.intro pn41 hEL hZh hsf ?_
  intro p e s m below meth c s₁ hby hml hret hnm hlk hh K0
  refine Owe.cast (ef72 m t ((0 : Int32)) cc) ?_
  show Owe _ _ _ _ s₁ (mkF m 0 #[.val (.ref t), .val (.int 0), .val (.int cc)] [])
  refine oGetS K0 3 (wq hw 118) (OA.ext K0.old) (d4_0 hby) ?_
  intro T1 K2
  refine oIfYes K2 28 (d4_3 hby) (XT.i0_ne_t (by decide)) ?_
  refine oIloadN K2 29 (d4_28 hby) rfl ?_
  refine oIconstV K2 30 (1 : Int32) (d4_29 hby) rfl ?_
  refine oIshl K2 31 (d4_30 hby) ?_
  show Owe _ _ _ _ T1 (mkF m 31 #[.val (.ref t), .val (.int 0), .val (.int cc)] [(.int 0)])
  refine oIstoreN K2 32 (d4_31 hby) (l' := #[.val (.ref t), .val (.int 0), .val (.int cc)]) rfl ?_
  refine oAloadN K2 33 (d4_32 hby) rfl rfl ?_
  refine oIloadN K2 34 (d4_33 hby) rfl ?_
  refine oIinc K2 37 (d4_34 hby) rfl (l' := #[.val (.ref t), .val (.int 1), .val (.int cc)]) rfl ?_
  refine oIloadN K2 38 (d4_37 hby) rfl ?_
  refine oGetS K2 41 (wq hw 119) (OH.ext K2.old) (d4_38 hby) ?_
  intro T3 K4
  refine oIshr K4 42 (d4_41 hby) ?_
  refine oI2b K4 43 (d4_42 hby) ?_
  refine oBastore K4 44 (by simp) P0 0 (by decide) (by decide) nlt (nar_byt _) (d4_43 hby) ?_
  intro T9 h5 lo8 K10 W6 A7
  have A11 : Ary Z h5 t .byte [(.int (byt (cc >>> ((0 : Int32) &&& 31)))), (.int e1)] := A7
  refine oAloadN K10 45 (d4_44 hby) rfl rfl ?_
  refine oIloadN K10 46 (d4_45 hby) rfl ?_
  refine oIloadN K10 47 (d4_46 hby) rfl ?_
  refine oGetS K10 50 (wq hw 120) (OL.ext K10.old) (d4_47 hby) ?_
  intro T12 K13
  refine oIshr K13 51 (d4_50 hby) ?_
  refine oI2b K13 52 (d4_51 hby) ?_
  refine oBastore K13 53 (by simp) A11 1 (by decide) (by decide) nlt (nar_byt _) (d4_52 hby) ?_
  intro T18 h14 lo17 K19 W15 A16
  have A20 : Ary Z h14 t .byte [(.int (byt (cc >>> ((0 : Int32) &&& 31)))), (.int (byt (cc >>> ((8 : Int32) &&& 31))))] := A16
  exact oRetV K19 [] hret (d4_53 hby) (by decide) (by decide) hlk (fun x hx => by cases hx) ⟨rfl, rfl, A20⟩
theorem rmPut2_0 (G : Gl Z a0 z0 fm) (t : Addr) (cc e0 e1 e2 e3 : Int32) (h0 : Heap) (hZh : Ext Z.heap h0) (hsf : Own Z h0 [t]) (P0 : Ary Z h0 t .byte [(.int e0), (.int e1), (.int e2), (.int e3)]) :
    Ctr l Z ELs yn73 jdk_52_method_4_code 3 none [] (rmk 0 0 0 0) #[(.ref t), (.int 0), (.int cc)] [t] h0 (fun v h fs => (fs = [] ∧ v = none ∧ Ary Z h t .byte [(.int (byt (cc >>> ((0 : Int32) &&& 31)))), (.int (byt (cc >>> ((8 : Int32) &&& 31)))), (.int e2), (.int e3)])) := by
  obtain ⟨hw, hEL, wS, OS, hz0, OA, OH, OL, OF, rfm⟩ := id G
  refine Ctr.intro pn41 hEL hZh hsf ?_
  intro p e s m below meth c s₁ hby hml hret hnm hlk hh K0
  refine Owe.cast (ef72 m t ((0 : Int32)) cc) ?_
  show Owe _ _ _ _ s₁ (mkF m 0 #[.val (.ref t), .val (.int 0), .val (.int cc)] [])
  refine oGetS K0 3 (wq hw 118) (OA.ext K0.old) (d4_0 hby) ?_
  intro T1 K2
  refine oIfYes K2 28 (d4_3 hby) (XT.i0_ne_t (by decide)) ?_
  refine oIloadN K2 29 (d4_28 hby) rfl ?_
  refine oIconstV K2 30 (1 : Int32) (d4_29 hby) rfl ?_
  refine oIshl K2 31 (d4_30 hby) ?_
  show Owe _ _ _ _ T1 (mkF m 31 #[.val (.ref t), .val (.int 0), .val (.int cc)] [(.int 0)])
  refine oIstoreN K2 32 (d4_31 hby) (l' := #[.val (.ref t), .val (.int 0), .val (.int cc)]) rfl ?_
  refine oAloadN K2 33 (d4_32 hby) rfl rfl ?_
  refine oIloadN K2 34 (d4_33 hby) rfl ?_
  refine oIinc K2 37 (d4_34 hby) rfl (l' := #[.val (.ref t), .val (.int 1), .val (.int cc)]) rfl ?_
  refine oIloadN K2 38 (d4_37 hby) rfl ?_
  refine oGetS K2 41 (wq hw 119) (OH.ext K2.old) (d4_38 hby) ?_
  intro T3 K4
  refine oIshr K4 42 (d4_41 hby) ?_
  refine oI2b K4 43 (d4_42 hby) ?_
  refine oBastore K4 44 (by simp) P0 0 (by decide) (by decide) nlt (nar_byt _) (d4_43 hby) ?_
  intro T9 h5 lo8 K10 W6 A7
  have A11 : Ary Z h5 t .byte [(.int (byt (cc >>> ((0 : Int32) &&& 31)))), (.int e1), (.int e2), (.int e3)] := A7
  refine oAloadN K10 45 (d4_44 hby) rfl rfl ?_
  refine oIloadN K10 46 (d4_45 hby) rfl ?_
  refine oIloadN K10 47 (d4_46 hby) rfl ?_
  refine oGetS K10 50 (wq hw 120) (OL.ext K10.old) (d4_47 hby) ?_
  intro T12 K13
  refine oIshr K13 51 (d4_50 hby) ?_
  refine oI2b K13 52 (d4_51 hby) ?_
  refine oBastore K13 53 (by simp) A11 1 (by decide) (by decide) nlt (nar_byt _) (d4_52 hby) ?_
  intro T18 h14 lo17 K19 W15 A16
  have A20 : Ary Z h14 t .byte [(.int (byt (cc >>> ((0 : Int32) &&& 31)))), (.int (byt (cc >>> ((8 : Int32) &&& 31)))), (.int e2), (.int e3)] := A16
  exact oRetV K19 [] hret (d4_53 hby) (by decide) (by decide) hlk (fun x hx => by cases hx) ⟨rfl, rfl, A20⟩
theorem rmPut2_1 (G : Gl Z a0 z0 fm) (t : Addr) (cc e0 e1 e2 e3 : Int32) (h0 : Heap) (hZh : Ext Z.heap h0) (hsf : Own Z h0 [t]) (P0 : Ary Z h0 t .byte [(.int e0), (.int e1), (.int e2), (.int e3)]) :
    Ctr l Z ELs yn73 jdk_52_method_4_code 3 none [] (rmk 0 0 0 0) #[(.ref t), (.int 1), (.int cc)] [t] h0 (fun v h fs => (fs = [] ∧ v = none ∧ Ary Z h t .byte [(.int e0), (.int e1), (.int (byt (cc >>> ((0 : Int32) &&& 31)))), (.int (byt (cc >>> ((8 : Int32) &&& 31))))])) := by
  obtain ⟨hw, hEL, wS, OS, hz0, OA, OH, OL, OF, rfm⟩ := id G
  refine Ctr.intro pn41 hEL hZh hsf ?_
  intro p e s m below meth c s₁ hby hml hret hnm hlk hh K0
  refine Owe.cast (ef72 m t ((1 : Int32)) cc) ?_
  show Owe _ _ _ _ s₁ (mkF m 0 #[.val (.ref t), .val (.int 1), .val (.int cc)] [])
  refine oGetS K0 3 (wq hw 118) (OA.ext K0.old) (d4_0 hby) ?_
  intro T1 K2
  refine oIfYes K2 28 (d4_3 hby) (XT.i0_ne_t (by decide)) ?_
  refine oIloadN K2 29 (d4_28 hby) rfl ?_
  refine oIconstV K2 30 (1 : Int32) (d4_29 hby) rfl ?_
  refine oIshl K2 31 (d4_30 hby) ?_
  show Owe _ _ _ _ T1 (mkF m 31 #[.val (.ref t), .val (.int 1), .val (.int cc)] [(.int 2)])
  refine oIstoreN K2 32 (d4_31 hby) (l' := #[.val (.ref t), .val (.int 2), .val (.int cc)]) rfl ?_
  refine oAloadN K2 33 (d4_32 hby) rfl rfl ?_
  refine oIloadN K2 34 (d4_33 hby) rfl ?_
  refine oIinc K2 37 (d4_34 hby) rfl (l' := #[.val (.ref t), .val (.int 3), .val (.int cc)]) rfl ?_
  refine oIloadN K2 38 (d4_37 hby) rfl ?_
  refine oGetS K2 41 (wq hw 119) (OH.ext K2.old) (d4_38 hby) ?_
  intro T3 K4
  refine oIshr K4 42 (d4_41 hby) ?_
  refine oI2b K4 43 (d4_42 hby) ?_
  refine oBastore K4 44 (by simp) P0 2 (by decide) (by decide) nlt (nar_byt _) (d4_43 hby) ?_
  intro T9 h5 lo8 K10 W6 A7
  have A11 : Ary Z h5 t .byte [(.int e0), (.int e1), (.int (byt (cc >>> ((0 : Int32) &&& 31)))), (.int e3)] := A7
  refine oAloadN K10 45 (d4_44 hby) rfl rfl ?_
  refine oIloadN K10 46 (d4_45 hby) rfl ?_
  refine oIloadN K10 47 (d4_46 hby) rfl ?_
  refine oGetS K10 50 (wq hw 120) (OL.ext K10.old) (d4_47 hby) ?_
  intro T12 K13
  refine oIshr K13 51 (d4_50 hby) ?_
  refine oI2b K13 52 (d4_51 hby) ?_
  refine oBastore K13 53 (by simp) A11 3 (by decide) (by decide) nlt (nar_byt _) (d4_52 hby) ?_
  intro T18 h14 lo17 K19 W15 A16
  have A20 : Ary Z h14 t .byte [(.int e0), (.int e1), (.int (byt (cc >>> ((0 : Int32) &&& 31)))), (.int (byt (cc >>> ((8 : Int32) &&& 31))))] := A16
  exact oRetV K19 [] hret (d4_53 hby) (by decide) (by decide) hlk (fun x hx => by cases hx) ⟨rfl, rfl, A20⟩
theorem rmPut3_0 (G : Gl Z a0 z0 fm) (t : Addr) (cc e0 e1 e2 e3 e4 e5 : Int32) (h0 : Heap) (hZh : Ext Z.heap h0) (hsf : Own Z h0 [t]) (P0 : Ary Z h0 t .byte [(.int e0), (.int e1), (.int e2), (.int e3), (.int e4), (.int e5)]) :
    Ctr l Z ELs yn73 jdk_52_method_4_code 3 none [] (rmk 0 0 0 0) #[(.ref t), (.int 0), (.int cc)] [t] h0 (fun v h fs => (fs = [] ∧ v = none ∧ Ary Z h t .byte [(.int (byt (cc >>> ((0 : Int32) &&& 31)))), (.int (byt (cc >>> ((8 : Int32) &&& 31)))), (.int e2), (.int e3), (.int e4), (.int e5)])) := by
  obtain ⟨hw, hEL, wS, OS, hz0, OA, OH, OL, OF, rfm⟩ := id G
  refine Ctr.intro pn41 hEL hZh hsf ?_
  intro p e s m below meth c s₁ hby hml hret hnm hlk hh K0
  refine Owe.cast (ef72 m t ((0 : Int32)) cc) ?_
  show Owe _ _ _ _ s₁ (mkF m 0 #[.val (.ref t), .val (.int 0), .val (.int cc)] [])
  refine oGetS K0 3 (wq hw 118) (OA.ext K0.old) (d4_0 hby) ?_
  intro T1 K2
  refine oIfYes K2 28 (d4_3 hby) (XT.i0_ne_t (by decide)) ?_
  refine oIloadN K2 29 (d4_28 hby) rfl ?_
  refine oIconstV K2 30 (1 : Int32) (d4_29 hby) rfl ?_
  refine oIshl K2 31 (d4_30 hby) ?_
  show Owe _ _ _ _ T1 (mkF m 31 #[.val (.ref t), .val (.int 0), .val (.int cc)] [(.int 0)])
  refine oIstoreN K2 32 (d4_31 hby) (l' := #[.val (.ref t), .val (.int 0), .val (.int cc)]) rfl ?_
  refine oAloadN K2 33 (d4_32 hby) rfl rfl ?_
  refine oIloadN K2 34 (d4_33 hby) rfl ?_
  refine oIinc K2 37 (d4_34 hby) rfl (l' := #[.val (.ref t), .val (.int 1), .val (.int cc)]) rfl ?_
  refine oIloadN K2 38 (d4_37 hby) rfl ?_
  refine oGetS K2 41 (wq hw 119) (OH.ext K2.old) (d4_38 hby) ?_
  intro T3 K4
  refine oIshr K4 42 (d4_41 hby) ?_
  refine oI2b K4 43 (d4_42 hby) ?_
  refine oBastore K4 44 (by simp) P0 0 (by decide) (by decide) nlt (nar_byt _) (d4_43 hby) ?_
  intro T9 h5 lo8 K10 W6 A7
  have A11 : Ary Z h5 t .byte [(.int (byt (cc >>> ((0 : Int32) &&& 31)))), (.int e1), (.int e2), (.int e3), (.int e4), (.int e5)] := A7
  refine oAloadN K10 45 (d4_44 hby) rfl rfl ?_
  refine oIloadN K10 46 (d4_45 hby) rfl ?_
  refine oIloadN K10 47 (d4_46 hby) rfl ?_
  refine oGetS K10 50 (wq hw 120) (OL.ext K10.old) (d4_47 hby) ?_
  intro T12 K13
  refine oIshr K13 51 (d4_50 hby) ?_
  refine oI2b K13 52 (d4_51 hby) ?_
  refine oBastore K13 53 (by simp) A11 1 (by decide) (by decide) nlt (nar_byt _) (d4_52 hby) ?_
  intro T18 h14 lo17 K19 W15 A16
  have A20 : Ary Z h14 t .byte [(.int (byt (cc >>> ((0 : Int32) &&& 31)))), (.int (byt (cc >>> ((8 : Int32) &&& 31)))), (.int e2), (.int e3), (.int e4), (.int e5)] := A16
  exact oRetV K19 [] hret (d4_53 hby) (by decide) (by decide) hlk (fun x hx => by cases hx) ⟨rfl, rfl, A20⟩
theorem rmPut3_1 (G : Gl Z a0 z0 fm) (t : Addr) (cc e0 e1 e2 e3 e4 e5 : Int32) (h0 : Heap) (hZh : Ext Z.heap h0) (hsf : Own Z h0 [t]) (P0 : Ary Z h0 t .byte [(.int e0), (.int e1), (.int e2), (.int e3), (.int e4), (.int e5)]) :
    Ctr l Z ELs yn73 jdk_52_method_4_code 3 none [] (rmk 0 0 0 0) #[(.ref t), (.int 1), (.int cc)] [t] h0 (fun v h fs => (fs = [] ∧ v = none ∧ Ary Z h t .byte [(.int e0), (.int e1), (.int (byt (cc >>> ((0 : Int32) &&& 31)))), (.int (byt (cc >>> ((8 : Int32) &&& 31)))), (.int e4), (.int e5)])) := by
  obtain ⟨hw, hEL, wS, OS, hz0, OA, OH, OL, OF, rfm⟩ := id G
  refine Ctr.intro pn41 hEL hZh hsf ?_
  intro p e s m below meth c s₁ hby hml hret hnm hlk hh K0
  refine Owe.cast (ef72 m t ((1 : Int32)) cc) ?_
  show Owe _ _ _ _ s₁ (mkF m 0 #[.val (.ref t), .val (.int 1), .val (.int cc)] [])
  refine oGetS K0 3 (wq hw 118) (OA.ext K0.old) (d4_0 hby) ?_
  intro T1 K2
  refine oIfYes K2 28 (d4_3 hby) (XT.i0_ne_t (by decide)) ?_
  refine oIloadN K2 29 (d4_28 hby) rfl ?_
  refine oIconstV K2 30 (1 : Int32) (d4_29 hby) rfl ?_
  refine oIshl K2 31 (d4_30 hby) ?_
  show Owe _ _ _ _ T1 (mkF m 31 #[.val (.ref t), .val (.int 1), .val (.int cc)] [(.int 2)])
  refine oIstoreN K2 32 (d4_31 hby) (l' := #[.val (.ref t), .val (.int 2), .val (.int cc)]) rfl ?_
  refine oAloadN K2 33 (d4_32 hby) rfl rfl ?_
  refine oIloadN K2 34 (d4_33 hby) rfl ?_
  refine oIinc K2 37 (d4_34 hby) rfl (l' := #[.val (.ref t), .val (.int 3), .val (.int cc)]) rfl ?_
  refine oIloadN K2 38 (d4_37 hby) rfl ?_
  refine oGetS K2 41 (wq hw 119) (OH.ext K2.old) (d4_38 hby) ?_
  intro T3 K4
  refine oIshr K4 42 (d4_41 hby) ?_
  refine oI2b K4 43 (d4_42 hby) ?_
  refine oBastore K4 44 (by simp) P0 2 (by decide) (by decide) nlt (nar_byt _) (d4_43 hby) ?_
  intro T9 h5 lo8 K10 W6 A7
  have A11 : Ary Z h5 t .byte [(.int e0), (.int e1), (.int (byt (cc >>> ((0 : Int32) &&& 31)))), (.int e3), (.int e4), (.int e5)] := A7
  refine oAloadN K10 45 (d4_44 hby) rfl rfl ?_
  refine oIloadN K10 46 (d4_45 hby) rfl ?_
  refine oIloadN K10 47 (d4_46 hby) rfl ?_
  refine oGetS K10 50 (wq hw 120) (OL.ext K10.old) (d4_47 hby) ?_
  intro T12 K13
  refine oIshr K13 51 (d4_50 hby) ?_
  refine oI2b K13 52 (d4_51 hby) ?_
  refine oBastore K13 53 (by simp) A11 3 (by decide) (by decide) nlt (nar_byt _) (d4_52 hby) ?_
  intro T18 h14 lo17 K19 W15 A16
  have A20 : Ary Z h14 t .byte [(.int e0), (.int e1), (.int (byt (cc >>> ((0 : Int32) &&& 31)))), (.int (byt (cc >>> ((8 : Int32) &&& 31)))), (.int e4), (.int e5)] := A16
  exact oRetV K19 [] hret (d4_53 hby) (by decide) (by decide) hlk (fun x hx => by cases hx) ⟨rfl, rfl, A20⟩
theorem rmPut3_2 (G : Gl Z a0 z0 fm) (t : Addr) (cc e0 e1 e2 e3 e4 e5 : Int32) (h0 : Heap) (hZh : Ext Z.heap h0) (hsf : Own Z h0 [t]) (P0 : Ary Z h0 t .byte [(.int e0), (.int e1), (.int e2), (.int e3), (.int e4), (.int e5)]) :
    Ctr l Z ELs yn73 jdk_52_method_4_code 3 none [] (rmk 0 0 0 0) #[(.ref t), (.int 2), (.int cc)] [t] h0 (fun v h fs => (fs = [] ∧ v = none ∧ Ary Z h t .byte [(.int e0), (.int e1), (.int e2), (.int e3), (.int (byt (cc >>> ((0 : Int32) &&& 31)))), (.int (byt (cc >>> ((8 : Int32) &&& 31))))])) := by
  obtain ⟨hw, hEL, wS, OS, hz0, OA, OH, OL, OF, rfm⟩ := id G
  refine Ctr.intro pn41 hEL hZh hsf ?_
  intro p e s m below meth c s₁ hby hml hret hnm hlk hh K0
  refine Owe.cast (ef72 m t ((2 : Int32)) cc) ?_
  show Owe _ _ _ _ s₁ (mkF m 0 #[.val (.ref t), .val (.int 2), .val (.int cc)] [])
  refine oGetS K0 3 (wq hw 118) (OA.ext K0.old) (d4_0 hby) ?_
  intro T1 K2
  refine oIfYes K2 28 (d4_3 hby) (XT.i0_ne_t (by decide)) ?_
  refine oIloadN K2 29 (d4_28 hby) rfl ?_
  refine oIconstV K2 30 (1 : Int32) (d4_29 hby) rfl ?_
  refine oIshl K2 31 (d4_30 hby) ?_
  show Owe _ _ _ _ T1 (mkF m 31 #[.val (.ref t), .val (.int 2), .val (.int cc)] [(.int 4)])
  refine oIstoreN K2 32 (d4_31 hby) (l' := #[.val (.ref t), .val (.int 4), .val (.int cc)]) rfl ?_
  refine oAloadN K2 33 (d4_32 hby) rfl rfl ?_
  refine oIloadN K2 34 (d4_33 hby) rfl ?_
  refine oIinc K2 37 (d4_34 hby) rfl (l' := #[.val (.ref t), .val (.int 5), .val (.int cc)]) rfl ?_
  refine oIloadN K2 38 (d4_37 hby) rfl ?_
  refine oGetS K2 41 (wq hw 119) (OH.ext K2.old) (d4_38 hby) ?_
  intro T3 K4
  refine oIshr K4 42 (d4_41 hby) ?_
  refine oI2b K4 43 (d4_42 hby) ?_
  refine oBastore K4 44 (by simp) P0 4 (by decide) (by decide) nlt (nar_byt _) (d4_43 hby) ?_
  intro T9 h5 lo8 K10 W6 A7
  have A11 : Ary Z h5 t .byte [(.int e0), (.int e1), (.int e2), (.int e3), (.int (byt (cc >>> ((0 : Int32) &&& 31)))), (.int e5)] := A7
  refine oAloadN K10 45 (d4_44 hby) rfl rfl ?_
  refine oIloadN K10 46 (d4_45 hby) rfl ?_
  refine oIloadN K10 47 (d4_46 hby) rfl ?_
  refine oGetS K10 50 (wq hw 120) (OL.ext K10.old) (d4_47 hby) ?_
  intro T12 K13
  refine oIshr K13 51 (d4_50 hby) ?_
  refine oI2b K13 52 (d4_51 hby) ?_
  refine oBastore K13 53 (by simp) A11 5 (by decide) (by decide) nlt (nar_byt _) (d4_52 hby) ?_
  intro T18 h14 lo17 K19 W15 A16
  have A20 : Ary Z h14 t .byte [(.int e0), (.int e1), (.int e2), (.int e3), (.int (byt (cc >>> ((0 : Int32) &&& 31)))), (.int (byt (cc >>> ((8 : Int32) &&& 31))))] := A16
  exact oRetV K19 [] hret (d4_53 hby) (by decide) (by decide) hlk (fun x hx => by cases hx) ⟨rfl, rfl, A20⟩
theorem rmPut4_0 (G : Gl Z a0 z0 fm) (t : Addr) (cc e0 e1 e2 e3 e4 e5 e6 e7 : Int32) (h0 : Heap) (hZh : Ext Z.heap h0) (hsf : Own Z h0 [t]) (P0 : Ary Z h0 t .byte [(.int e0), (.int e1), (.int e2), (.int e3), (.int e4), (.int e5), (.int e6), (.int e7)]) :
    Ctr l Z ELs yn73 jdk_52_method_4_code 3 none [] (rmk 0 0 0 0) #[(.ref t), (.int 0), (.int cc)] [t] h0 (fun v h fs => (fs = [] ∧ v = none ∧ Ary Z h t .byte [(.int (byt (cc >>> ((0 : Int32) &&& 31)))), (.int (byt (cc >>> ((8 : Int32) &&& 31)))), (.int e2), (.int e3), (.int e4), (.int e5), (.int e6), (.int e7)])) := by
  obtain ⟨hw, hEL, wS, OS, hz0, OA, OH, OL, OF, rfm⟩ := id G
  refine Ctr.intro pn41 hEL hZh hsf ?_
  intro p e s m below meth c s₁ hby hml hret hnm hlk hh K0
  refine Owe.cast (ef72 m t ((0 : Int32)) cc) ?_
  show Owe _ _ _ _ s₁ (mkF m 0 #[.val (.ref t), .val (.int 0), .val (.int cc)] [])
  refine oGetS K0 3 (wq hw 118) (OA.ext K0.old) (d4_0 hby) ?_
  intro T1 K2
  refine oIfYes K2 28 (d4_3 hby) (XT.i0_ne_t (by decide)) ?_
  refine oIloadN K2 29 (d4_28 hby) rfl ?_
  refine oIconstV K2 30 (1 : Int32) (d4_29 hby) rfl ?_
  refine oIshl K2 31 (d4_30 hby) ?_
  show Owe _ _ _ _ T1 (mkF m 31 #[.val (.ref t), .val (.int 0), .val (.int cc)] [(.int 0)])
  refine oIstoreN K2 32 (d4_31 hby) (l' := #[.val (.ref t), .val (.int 0), .val (.int cc)]) rfl ?_
  refine oAloadN K2 33 (d4_32 hby) rfl rfl ?_
  refine oIloadN K2 34 (d4_33 hby) rfl ?_
  refine oIinc K2 37 (d4_34 hby) rfl (l' := #[.val (.ref t), .val (.int 1), .val (.int cc)]) rfl ?_
  refine oIloadN K2 38 (d4_37 hby) rfl ?_
  refine oGetS K2 41 (wq hw 119) (OH.ext K2.old) (d4_38 hby) ?_
  intro T3 K4
  refine oIshr K4 42 (d4_41 hby) ?_
  refine oI2b K4 43 (d4_42 hby) ?_
  refine oBastore K4 44 (by simp) P0 0 (by decide) (by decide) nlt (nar_byt _) (d4_43 hby) ?_
  intro T9 h5 lo8 K10 W6 A7
  have A11 : Ary Z h5 t .byte [(.int (byt (cc >>> ((0 : Int32) &&& 31)))), (.int e1), (.int e2), (.int e3), (.int e4), (.int e5), (.int e6), (.int e7)] := A7
  refine oAloadN K10 45 (d4_44 hby) rfl rfl ?_
  refine oIloadN K10 46 (d4_45 hby) rfl ?_
  refine oIloadN K10 47 (d4_46 hby) rfl ?_
  refine oGetS K10 50 (wq hw 120) (OL.ext K10.old) (d4_47 hby) ?_
  intro T12 K13
  refine oIshr K13 51 (d4_50 hby) ?_
  refine oI2b K13 52 (d4_51 hby) ?_
  refine oBastore K13 53 (by simp) A11 1 (by decide) (by decide) nlt (nar_byt _) (d4_52 hby) ?_
  intro T18 h14 lo17 K19 W15 A16
  have A20 : Ary Z h14 t .byte [(.int (byt (cc >>> ((0 : Int32) &&& 31)))), (.int (byt (cc >>> ((8 : Int32) &&& 31)))), (.int e2), (.int e3), (.int e4), (.int e5), (.int e6), (.int e7)] := A16
  exact oRetV K19 [] hret (d4_53 hby) (by decide) (by decide) hlk (fun x hx => by cases hx) ⟨rfl, rfl, A20⟩
theorem rmPut4_1 (G : Gl Z a0 z0 fm) (t : Addr) (cc e0 e1 e2 e3 e4 e5 e6 e7 : Int32) (h0 : Heap) (hZh : Ext Z.heap h0) (hsf : Own Z h0 [t]) (P0 : Ary Z h0 t .byte [(.int e0), (.int e1), (.int e2), (.int e3), (.int e4), (.int e5), (.int e6), (.int e7)]) :
    Ctr l Z ELs yn73 jdk_52_method_4_code 3 none [] (rmk 0 0 0 0) #[(.ref t), (.int 1), (.int cc)] [t] h0 (fun v h fs => (fs = [] ∧ v = none ∧ Ary Z h t .byte [(.int e0), (.int e1), (.int (byt (cc >>> ((0 : Int32) &&& 31)))), (.int (byt (cc >>> ((8 : Int32) &&& 31)))), (.int e4), (.int e5), (.int e6), (.int e7)])) := by
  obtain ⟨hw, hEL, wS, OS, hz0, OA, OH, OL, OF, rfm⟩ := id G
  refine Ctr.intro pn41 hEL hZh hsf ?_
  intro p e s m below meth c s₁ hby hml hret hnm hlk hh K0
  refine Owe.cast (ef72 m t ((1 : Int32)) cc) ?_
  show Owe _ _ _ _ s₁ (mkF m 0 #[.val (.ref t), .val (.int 1), .val (.int cc)] [])
  refine oGetS K0 3 (wq hw 118) (OA.ext K0.old) (d4_0 hby) ?_
  intro T1 K2
  refine oIfYes K2 28 (d4_3 hby) (XT.i0_ne_t (by decide)) ?_
  refine oIloadN K2 29 (d4_28 hby) rfl ?_
  refine oIconstV K2 30 (1 : Int32) (d4_29 hby) rfl ?_
  refine oIshl K2 31 (d4_30 hby) ?_
  show Owe _ _ _ _ T1 (mkF m 31 #[.val (.ref t), .val (.int 1), .val (.int cc)] [(.int 2)])
  refine oIstoreN K2 32 (d4_31 hby) (l' := #[.val (.ref t), .val (.int 2), .val (.int cc)]) rfl ?_
  refine oAloadN K2 33 (d4_32 hby) rfl rfl ?_
  refine oIloadN K2 34 (d4_33 hby) rfl ?_
  refine oIinc K2 37 (d4_34 hby) rfl (l' := #[.val (.ref t), .val (.int 3), .val (.int cc)]) rfl ?_
  refine oIloadN K2 38 (d4_37 hby) rfl ?_
  refine oGetS K2 41 (wq hw 119) (OH.ext K2.old) (d4_38 hby) ?_
  intro T3 K4
  refine oIshr K4 42 (d4_41 hby) ?_
  refine oI2b K4 43 (d4_42 hby) ?_
  refine oBastore K4 44 (by simp) P0 2 (by decide) (by decide) nlt (nar_byt _) (d4_43 hby) ?_
  intro T9 h5 lo8 K10 W6 A7
  have A11 : Ary Z h5 t .byte [(.int e0), (.int e1), (.int (byt (cc >>> ((0 : Int32) &&& 31)))), (.int e3), (.int e4), (.int e5), (.int e6), (.int e7)] := A7
  refine oAloadN K10 45 (d4_44 hby) rfl rfl ?_
  refine oIloadN K10 46 (d4_45 hby) rfl ?_
  refine oIloadN K10 47 (d4_46 hby) rfl ?_
  refine oGetS K10 50 (wq hw 120) (OL.ext K10.old) (d4_47 hby) ?_
  intro T12 K13
  refine oIshr K13 51 (d4_50 hby) ?_
  refine oI2b K13 52 (d4_51 hby) ?_
  refine oBastore K13 53 (by simp) A11 3 (by decide) (by decide) nlt (nar_byt _) (d4_52 hby) ?_
  intro T18 h14 lo17 K19 W15 A16
  have A20 : Ary Z h14 t .byte [(.int e0), (.int e1), (.int (byt (cc >>> ((0 : Int32) &&& 31)))), (.int (byt (cc >>> ((8 : Int32) &&& 31)))), (.int e4), (.int e5), (.int e6), (.int e7)] := A16
  exact oRetV K19 [] hret (d4_53 hby) (by decide) (by decide) hlk (fun x hx => by cases hx) ⟨rfl, rfl, A20⟩
theorem rmPut4_2 (G : Gl Z a0 z0 fm) (t : Addr) (cc e0 e1 e2 e3 e4 e5 e6 e7 : Int32) (h0 : Heap) (hZh : Ext Z.heap h0) (hsf : Own Z h0 [t]) (P0 : Ary Z h0 t .byte [(.int e0), (.int e1), (.int e2), (.int e3), (.int e4), (.int e5), (.int e6), (.int e7)]) :
    Ctr l Z ELs yn73 jdk_52_method_4_code 3 none [] (rmk 0 0 0 0) #[(.ref t), (.int 2), (.int cc)] [t] h0 (fun v h fs => (fs = [] ∧ v = none ∧ Ary Z h t .byte [(.int e0), (.int e1), (.int e2), (.int e3), (.int (byt (cc >>> ((0 : Int32) &&& 31)))), (.int (byt (cc >>> ((8 : Int32) &&& 31)))), (.int e6), (.int e7)])) := by
  obtain ⟨hw, hEL, wS, OS, hz0, OA, OH, OL, OF, rfm⟩ := id G
  refine Ctr.intro pn41 hEL hZh hsf ?_
  intro p e s m below meth c s₁ hby hml hret hnm hlk hh K0
  refine Owe.cast (ef72 m t ((2 : Int32)) cc) ?_
  show Owe _ _ _ _ s₁ (mkF m 0 #[.val (.ref t), .val (.int 2), .val (.int cc)] [])
  refine oGetS K0 3 (wq hw 118) (OA.ext K0.old) (d4_0 hby) ?_
  intro T1 K2
  refine oIfYes K2 28 (d4_3 hby) (XT.i0_ne_t (by decide)) ?_
  refine oIloadN K2 29 (d4_28 hby) rfl ?_
  refine oIconstV K2 30 (1 : Int32) (d4_29 hby) rfl ?_
  refine oIshl K2 31 (d4_30 hby) ?_
  show Owe _ _ _ _ T1 (mkF m 31 #[.val (.ref t), .val (.int 2), .val (.int cc)] [(.int 4)])
  refine oIstoreN K2 32 (d4_31 hby) (l' := #[.val (.ref t), .val (.int 4), .val (.int cc)]) rfl ?_
  refine oAloadN K2 33 (d4_32 hby) rfl rfl ?_
  refine oIloadN K2 34 (d4_33 hby) rfl ?_
  refine oIinc K2 37 (d4_34 hby) rfl (l' := #[.val (.ref t), .val (.int 5), .val (.int cc)]) rfl ?_
  refine oIloadN K2 38 (d4_37 hby) rfl ?_
  refine oGetS K2 41 (wq hw 119) (OH.ext K2.old) (d4_38 hby) ?_
  intro T3 K4
  refine oIshr K4 42 (d4_41 hby) ?_
  refine oI2b K4 43 (d4_42 hby) ?_
  refine oBastore K4 44 (by simp) P0 4 (by decide) (by decide) nlt (nar_byt _) (d4_43 hby) ?_
  intro T9 h5 lo8 K10 W6 A7
  have A11 : Ary Z h5 t .byte [(.int e0), (.int e1), (.int e2), (.int e3), (.int (byt (cc >>> ((0 : Int32) &&& 31)))), (.int e5), (.int e6), (.int e7)] := A7
  refine oAloadN K10 45 (d4_44 hby) rfl rfl ?_
  refine oIloadN K10 46 (d4_45 hby) rfl ?_
  refine oIloadN K10 47 (d4_46 hby) rfl ?_
  refine oGetS K10 50 (wq hw 120) (OL.ext K10.old) (d4_47 hby) ?_
  intro T12 K13
  refine oIshr K13 51 (d4_50 hby) ?_
  refine oI2b K13 52 (d4_51 hby) ?_
  refine oBastore K13 53 (by simp) A11 5 (by decide) (by decide) nlt (nar_byt _) (d4_52 hby) ?_
  intro T18 h14 lo17 K19 W15 A16
  have A20 : Ary Z h14 t .byte [(.int e0), (.int e1), (.int e2), (.int e3), (.int (byt (cc >>> ((0 : Int32) &&& 31)))), (.int (byt (cc >>> ((8 : Int32) &&& 31)))), (.int e6), (.int e7)] := A16
  exact oRetV K19 [] hret (d4_53 hby) (by decide) (by decide) hlk (fun x hx => by cases hx) ⟨rfl, rfl, A20⟩
theorem rmPut4_3 (G : Gl Z a0 z0 fm) (t : Addr) (cc e0 e1 e2 e3 e4 e5 e6 e7 : Int32) (h0 : Heap) (hZh : Ext Z.heap h0) (hsf : Own Z h0 [t]) (P0 : Ary Z h0 t .byte [(.int e0), (.int e1), (.int e2), (.int e3), (.int e4), (.int e5), (.int e6), (.int e7)]) :
    Ctr l Z ELs yn73 jdk_52_method_4_code 3 none [] (rmk 0 0 0 0) #[(.ref t), (.int 3), (.int cc)] [t] h0 (fun v h fs => (fs = [] ∧ v = none ∧ Ary Z h t .byte [(.int e0), (.int e1), (.int e2), (.int e3), (.int e4), (.int e5), (.int (byt (cc >>> ((0 : Int32) &&& 31)))), (.int (byt (cc >>> ((8 : Int32) &&& 31))))])) := by
  obtain ⟨hw, hEL, wS, OS, hz0, OA, OH, OL, OF, rfm⟩ := id G
  refine Ctr.intro pn41 hEL hZh hsf ?_
  intro p e s m below meth c s₁ hby hml hret hnm hlk hh K0
  refine Owe.cast (ef72 m t ((3 : Int32)) cc) ?_
  show Owe _ _ _ _ s₁ (mkF m 0 #[.val (.ref t), .val (.int 3), .val (.int cc)] [])
  refine oGetS K0 3 (wq hw 118) (OA.ext K0.old) (d4_0 hby) ?_
  intro T1 K2
  refine oIfYes K2 28 (d4_3 hby) (XT.i0_ne_t (by decide)) ?_
  refine oIloadN K2 29 (d4_28 hby) rfl ?_
  refine oIconstV K2 30 (1 : Int32) (d4_29 hby) rfl ?_
  refine oIshl K2 31 (d4_30 hby) ?_
  show Owe _ _ _ _ T1 (mkF m 31 #[.val (.ref t), .val (.int 3), .val (.int cc)] [(.int 6)])
  refine oIstoreN K2 32 (d4_31 hby) (l' := #[.val (.ref t), .val (.int 6), .val (.int cc)]) rfl ?_
  refine oAloadN K2 33 (d4_32 hby) rfl rfl ?_
  refine oIloadN K2 34 (d4_33 hby) rfl ?_
  refine oIinc K2 37 (d4_34 hby) rfl (l' := #[.val (.ref t), .val (.int 7), .val (.int cc)]) rfl ?_
  refine oIloadN K2 38 (d4_37 hby) rfl ?_
  refine oGetS K2 41 (wq hw 119) (OH.ext K2.old) (d4_38 hby) ?_
  intro T3 K4
  refine oIshr K4 42 (d4_41 hby) ?_
  refine oI2b K4 43 (d4_42 hby) ?_
  refine oBastore K4 44 (by simp) P0 6 (by decide) (by decide) nlt (nar_byt _) (d4_43 hby) ?_
  intro T9 h5 lo8 K10 W6 A7
  have A11 : Ary Z h5 t .byte [(.int e0), (.int e1), (.int e2), (.int e3), (.int e4), (.int e5), (.int (byt (cc >>> ((0 : Int32) &&& 31)))), (.int e7)] := A7
  refine oAloadN K10 45 (d4_44 hby) rfl rfl ?_
  refine oIloadN K10 46 (d4_45 hby) rfl ?_
  refine oIloadN K10 47 (d4_46 hby) rfl ?_
  refine oGetS K10 50 (wq hw 120) (OL.ext K10.old) (d4_47 hby) ?_
  intro T12 K13
  refine oIshr K13 51 (d4_50 hby) ?_
  refine oI2b K13 52 (d4_51 hby) ?_
  refine oBastore K13 53 (by simp) A11 7 (by decide) (by decide) nlt (nar_byt _) (d4_52 hby) ?_
  intro T18 h14 lo17 K19 W15 A16
  have A20 : Ary Z h14 t .byte [(.int e0), (.int e1), (.int e2), (.int e3), (.int e4), (.int e5), (.int (byt (cc >>> ((0 : Int32) &&& 31)))), (.int (byt (cc >>> ((8 : Int32) &&& 31))))] := A16
  exact oRetV K19 [] hret (d4_53 hby) (by decide) (by decide) hlk (fun x hx => by cases hx) ⟨rfl, rfl, A20⟩
abbrev y5 := jdk_52_method_14_code
theorem d5_0 : DC y5 0 (.iload_n 2) 1 := hb' (by decide +kernel)
theorem d5_1 : DC y5 1 (.invokestatic 107) 3 := hb' (by decide +kernel)
theorem pd77 : parseMethodDescriptor "(I)[B" = some ⟨[.int], some (.array .byte)⟩ := by decide +kernel
theorem d5_4 : DC y5 4 (.astore_n 3) 1 := hb' (by decide +kernel)
theorem d5_5 : DC y5 5 (.iconst 0) 1 := hb' (by decide +kernel)
theorem d5_6 : DC y5 6 (.istore 4) 2 := hb' (by decide +kernel)
theorem d5_8 : DC y5 8 (.iload 4) 2 := hb' (by decide +kernel)
theorem d5_10 : DC y5 10 (.iload_n 2) 1 := hb' (by decide +kernel)
theorem d5_11 : DC y5 11 (.if_icmp .ge 21) 3 := hb' (by decide +kernel)
theorem d5_14 : DC y5 14 (.aload_n 3) 1 := hb' (by decide +kernel)
theorem d5_15 : DC y5 15 (.iload 4) 2 := hb' (by decide +kernel)
theorem d5_17 : DC y5 17 (.aload_n 0) 1 := hb' (by decide +kernel)
theorem d5_18 : DC y5 18 (.iload_n 1) 1 := hb' (by decide +kernel)
theorem d5_19 : DC y5 19 (.caload) 1 := hb' (by decide +kernel)
theorem d5_20 : DC y5 20 (.invokestatic 111) 3 := hb' (by decide +kernel)
theorem pd90 : parseMethodDescriptor "([BII)V" = some ⟨[(.array .byte), .int, .int], none⟩ := by decide +kernel
theorem d5_23 : DC y5 23 (.iinc 1 1) 3 := hb' (by decide +kernel)
theorem d5_26 : DC y5 26 (.iinc 4 1) 3 := hb' (by decide +kernel)
theorem d5_29 : DC y5 29 (.goto (-21)) 3 := hb' (by decide +kernel)
theorem d5_32 : DC y5 32 (.aload_n 3) 1 := hb' (by decide +kernel)
theorem d5_33 : DC y5 33 (.areturn) 1 := hb' (by decide +kernel)
theorem ef96 (m : MethodId) (x0 : Addr) (x1 : Int32) (x2 : Int32) : entryFrame m #[(.ref x0), (.int x1), (.int x2)] 5 = mkF m 0 #[.val (.ref x0), .val (.int x1), .val (.int x2), .unset, .unset] [] := by first | (simp [entryFrame, mkF, argsToLocals, Value.category]; done) | rfl
abbrev yn97 : MethodName := ⟨"java/lang/StringUTF16", "toBytes", "([CII)[B"⟩
theorem rmToB1 (G : Gl Z a0 z0 fm) (b : Addr) (c0 : Int32) (h0 : Heap) (hZh : Ext Z.heap h0) (hsf : Own Z h0 []) (P0 : Ary Z h0 b .char [(.int c0)]) :
    Ctr l Z ELs yn97 jdk_52_method_14_code 5 (some (.array .byte)) [] (rmk 2 1 2 24) #[(.ref b), (.int 0), (.int 1)] [] h0 (fun v h fs => (∃ t : Addr, fs = [] ∧ v = some (.ref t) ∧ Ary Z h t .byte [(.int (byt (c0 >>> ((0 : Int32) &&& 31)))), (.int (byt (c0 >>> ((8 : Int32) &&& 31))))] ∧ h0.size ≤ t)) := by
  obtain ⟨hw, hEL, wS, OS, hz0, OA, OH, OL, OF, rfm⟩ := id G
  refine Ctr.intro pn41 hEL hZh hsf ?_
  intro p e s m below meth c s₁ hby hml hret hnm hlk hh K0
  refine Owe.cast (ef96 m b ((0 : Int32)) ((1 : Int32))) ?_
  show Owe _ _ _ _ s₁ (mkF m 0 #[.val (.ref b), .val (.int 0), .val (.int 1), .unset, .unset] [])
  refine oIloadN K0 1 (d5_0 hby) rfl ?_
  refine oStatic K0 4 0 (wq hw 108) (wq hw 109) (wq hw 53) (wq hw 110) (rmNBF1 l Z a0 z0 fm G  h0 K0.old K0.both ) [(.int 1)] [] (lenOf pd77 rfl) (d5_1 hby) ?_
  intro T1 h3 v4 lo5 fs6 K2 Kp7 q8
  obtain ⟨t9, rfl, rfl, f10, f11⟩ := q8
  have K12 := K2.to 1 2 [t9]
  refine Owe.stk [(.ref t9)] ?_
  refine oAstoreN K12 5 (d5_4 hby) rfl (l' := #[.val (.ref b), .val (.int 0), .val (.int 1), .val (.ref t9), .unset]) rfl ?_
  refine oIconstV K12 6 (0 : Int32) (d5_5 hby) rfl ?_
  refine oIstore K12 8 (d5_6 hby) (l' := #[.val (.ref b), .val (.int 0), .val (.int 1), .val (.ref t9), .val (.int 0)]) rfl ?_
  refine oIload K12 10 (d5_8 hby) rfl ?_
  refine oIloadN K12 11 (d5_10 hby) rfl ?_
  refine oIcmpNo K12 14 (d5_11 hby) (XT.ii_ge_f (by decide)) ?_
  refine oAloadN K12 15 (d5_14 hby) rfl rfl ?_
  refine oIload K12 17 (d5_15 hby) rfl ?_
  refine oAloadN K12 18 (d5_17 hby) rfl rfl ?_
  refine oIloadN K12 19 (d5_18 hby) rfl ?_
  refine oCaload K12 20 (P0.keep Kp7 nin0) 0 (by decide) (by decide) rfl (d5_19 hby) ?_
  refine oStatic K12 23 0 (wq hw 115) (wq hw 116) (wq hw 53) (wq hw 117) (rmPut1_0 l Z a0 z0 fm G t9 c0 ((0 : Int32)) ((0 : Int32)) h3 K12.old K12.both f10) [(.ref t9), (.int 0), (.int c0)] [] (lenOf pd90 rfl) (d5_20 hby) ?_
  intro T13 h15 v16 lo17 fs18 K14 Kp19 q20
  obtain ⟨rfl, rfl, f21⟩ := q20
  have K22 := K14.to 1 2 [t9]
  refine Owe.stk [] ?_
  refine oIinc K22 26 (d5_23 hby) rfl (l' := #[.val (.ref b), .val (.int 1), .val (.int 1), .val (.ref t9), .val (.int 0)]) rfl ?_
  refine oIinc K22 29 (d5_26 hby) rfl (l' := #[.val (.ref b), .val (.int 1), .val (.int 1), .val (.ref t9), .val (.int 1)]) rfl ?_
  refine oGoto K22 8 (d5_29 hby) ?_
  refine oIload K22 10 (d5_8 hby) rfl ?_
  refine oIloadN K22 11 (d5_10 hby) rfl ?_
  refine oIcmpYes K22 32 (d5_11 hby) (XT.ii_ge_t (by decide)) ?_
  refine oAloadN K22 33 (d5_32 hby) rfl rfl ?_
  exact oRetA K22 [] hret rfl rfl (d5_33 hby) (by decide) (by decide) hlk (fun x hx => by cases hx) ⟨t9, rfl, rfl, f21, (Nat.le_trans (Nat.le_refl _) f11)⟩
theorem rmToB2 (G : Gl Z a0 z0 fm) (b : Addr) (c0 c1 : Int32) (h0 : Heap) (hZh : Ext Z.heap h0) (hsf : Own Z h0 []) (P0 : Ary Z h0 b .char [(.int c0), (.int c1)]) :
    Ctr l Z ELs yn97 jdk_52_method_14_code 5 (some (.array .byte)) [] (rmk 2 1 4 24) #[(.ref b), (.int 0), (.int 2)] [] h0 (fun v h fs => (∃ t : Addr, fs = [] ∧ v = some (.ref t) ∧ Ary Z h t .byte [(.int (byt (c0 >>> ((0 : Int32) &&& 31)))), (.int (byt (c0 >>> ((8 : Int32) &&& 31)))), (.int (byt (c1 >>> ((0 : Int32) &&& 31)))), (.int (byt (c1 >>> ((8 : Int32) &&& 31))))] ∧ h0.size ≤ t)) := by
  obtain ⟨hw, hEL, wS, OS, hz0, OA, OH, OL, OF, rfm⟩ := id G
  refine Ctr.intro pn41 hEL hZh hsf ?_
  intro p e s m below meth c s₁ hby hml hret hnm hlk hh K0
  refine Owe.cast (ef96 m b ((0 : Int32)) ((2 : Int32))) ?_
  show Owe _ _ _ _ s₁ (mkF m 0 #[.val (.ref b), .val (.int 0), .val (.int 2), .unset, .unset] [])
  refine oIloadN K0 1 (d5_0 hby) rfl ?_
  refine oStatic K0 4 0 (wq hw 108) (wq hw 109) (wq hw 53) (wq hw 110) (rmNBF2 l Z a0 z0 fm G  h0 K0.old K0.both ) [(.int 2)] [] (lenOf pd77 rfl) (d5_1 hby) ?_
  intro T1 h3 v4 lo5 fs6 K2 Kp7 q8
  obtain ⟨t9, rfl, rfl, f10, f11⟩ := q8
  have K12 := K2.to 1 4 [t9]
  refine Owe.stk [(.ref t9)] ?_
  refine oAstoreN K12 5 (d5_4 hby) rfl (l' := #[.val (.ref b), .val (.int 0), .val (.int 2), .val (.ref t9), .unset]) rfl ?_
  refine oIconstV K12 6 (0 : Int32) (d5_5 hby) rfl ?_
  refine oIstore K12 8 (d5_6 hby) (l' := #[.val (.ref b), .val (.int 0), .val (.int 2), .val (.ref t9), .val (.int 0)]) rfl ?_
  refine oIload K12 10 (d5_8 hby) rfl ?_
  refine oIloadN K12 11 (d5_10 hby) rfl ?_
  refine oIcmpNo K12 14 (d5_11 hby) (XT.ii_ge_f (by decide)) ?_
  refine oAloadN K12 15 (d5_14 hby) rfl rfl ?_
  refine oIload K12 17 (d5_15 hby) rfl ?_
  refine oAloadN K12 18 (d5_17 hby) rfl rfl ?_
  refine oIloadN K12 19 (d5_18 hby) rfl ?_
  refine oCaload K12 20 (P0.keep Kp7 nin0) 0 (by decide) (by decide) rfl (d5_19 hby) ?_
  refine oStatic K12 23 0 (wq hw 115) (wq hw 116) (wq hw 53) (wq hw 117) (rmPut2_0 l Z a0 z0 fm G t9 c0 ((0 : Int32)) ((0 : Int32)) ((0 : Int32)) ((0 : Int32)) h3 K12.old K12.both f10) [(.ref t9), (.int 0), (.int c0)] [] (lenOf pd90 rfl) (d5_20 hby) ?_
  intro T13 h15 v16 lo17 fs18 K14 Kp19 q20
  obtain ⟨rfl, rfl, f21⟩ := q20
  have K22 := K14.to 1 4 [t9]
  refine Owe.stk [] ?_
  refine oIinc K22 26 (d5_23 hby) rfl (l' := #[.val (.ref b), .val (.int 1), .val (.int 2), .val (.ref t9), .val (.int 0)]) rfl ?_
  refine oIinc K22 29 (d5_26 hby) rfl (l' := #[.val (.ref b), .val (.int 1), .val (.int 2), .val (.ref t9), .val (.int 1)]) rfl ?_
  refine oGoto K22 8 (d5_29 hby) ?_
  refine oIload K22 10 (d5_8 hby) rfl ?_
  refine oIloadN K22 11 (d5_10 hby) rfl ?_
  refine oIcmpNo K22 14 (d5_11 hby) (XT.ii_ge_f (by decide)) ?_
  refine oAloadN K22 15 (d5_14 hby) rfl rfl ?_
  refine oIload K22 17 (d5_15 hby) rfl ?_
  refine oAloadN K22 18 (d5_17 hby) rfl rfl ?_
  refine oIloadN K22 19 (d5_18 hby) rfl ?_
  refine oCaload K22 20 ((P0.keep Kp7 nin0).keep Kp19 (ninS (Nat.ne_of_lt (Nat.lt_of_lt_of_le P0.lt f11)) nin0)) 1 (by decide) (by decide) rfl (d5_19 hby) ?_
  refine oStatic K22 23 0 (wq hw 115) (wq hw 116) (wq hw 53) (wq hw 117) (rmPut2_1 l Z a0 z0 fm G t9 c1 ((byt (c0 >>> ((0 : Int32) &&& 31)))) ((byt (c0 >>> ((8 : Int32) &&& 31)))) ((0 : Int32)) ((0 : Int32)) h15 K22.old K22.both f21) [(.ref t9), (.int 1), (.int c1)] [] (lenOf pd90 rfl) (d5_20 hby) ?_
  intro T23 h25 v26 lo27 fs28 K24 Kp29 q30
  obtain ⟨rfl, rfl, f31⟩ := q30
  have K32 := K24.to 1 4 [t9]
  refine Owe.stk [] ?_
  refine oIinc K32 26 (d5_23 hby) rfl (l' := #[.val (.ref b), .val (.int 2), .val (.int 2), .val (.ref t9), .val (.int 1)]) rfl ?_
  refine oIinc K32 29 (d5_26 hby) rfl (l' := #[.val (.ref b), .val (.int 2), .val (.int 2), .val (.ref t9), .val (.int 2)]) rfl ?_
  refine oGoto K32 8 (d5_29 hby) ?_
  refine oIload K32 10 (d5_8 hby) rfl ?_
  refine oIloadN K32 11 (d5_10 hby) rfl ?_
  refine oIcmpYes K32 32 (d5_11 hby) (XT.ii_ge_t (by decide)) ?_
  refine oAloadN K32 33 (d5_32 hby) rfl rfl ?_
  exact oRetA K32 [] hret rfl rfl (d5_33 hby) (by decide) (by decide) hlk (fun x hx => by cases hx) ⟨t9, rfl, rfl, f31, (Nat.le_trans (Nat.le_refl _) f11)⟩
theorem rmToB3 (G : Gl Z a0 z0 fm) (b : Addr) (c0 c1 c2 : Int32) (h0 : Heap) (hZh : Ext Z.heap h0) (hsf : Own Z h0 []) (P0 : Ary Z h0 b .char [(.int c0), (.int c1), (.int c2)]) :
    Ctr l Z ELs yn97 jdk_52_method_14_code 5 (some (.array .byte)) [] (rmk 2 1 6 24) #[(.ref b), (.int 0), (.int 3)] [] h0 (fun v h fs => (∃ t : Addr, fs = [] ∧ v = some (.ref t) ∧ Ary Z h t .byte [(.int (byt (c0 >>> ((0 : Int32) &&& 31)))), (.int (byt (c0 >>> ((8 : Int32) &&& 31)))), (.int (byt (c1 >>> ((0 : Int32) &&& 31)))), (.int (byt (c1 >>> ((8 : Int32) &&& 31)))), (.int (byt (c2 >>> ((0 : Int32) &&& 31)))), (.int (byt (c2 >>> ((8 : Int32) &&& 31))))] ∧ h0.size ≤ t)) := by
  obtain ⟨hw, hEL, wS, OS, hz0, OA, OH, OL, OF, rfm⟩ := id G
  refine Ctr.intro pn41 hEL hZh hsf ?_
  intro p e s m below meth c s₁ hby hml hret hnm hlk hh K0
  refine Owe.cast (ef96 m b ((0 : Int32)) ((3 : Int32))) ?_
  show Owe _ _ _ _ s₁ (mkF m 0 #[.val (.ref b), .val (.int 0), .val (.int 3), .unset, .unset] [])
  refine oIloadN K0 1 (d5_0 hby) rfl ?_
  refine oStatic K0 4 0 (wq hw 108) (wq hw 109) (wq hw 53) (wq hw 110) (rmNBF3 l Z a0 z0 fm G  h0 K0.old K0.both ) [(.int 3)] [] (lenOf pd77 rfl) (d5_1 hby) ?_
  intro T1 h3 v4 lo5 fs6 K2 Kp7 q8
  obtain ⟨t9, rfl, rfl, f10, f11⟩ := q8
  have K12 := K2.to 1 6 [t9]
  refine Owe.stk [(.ref t9)] ?_
  refine oAstoreN K12 5 (d5_4 hby) rfl (l' := #[.val (.ref b), .val (.int 0), .val (.int 3), .val (.ref t9), .unset]) rfl ?_
  refine oIconstV K12 6 (0 : Int32) (d5_5 hby) rfl ?_
  refine oIstore K12 8 (d5_6 hby) (l' := #[.val (.ref b), .val (.int 0), .val (.int 3), .val (.ref t9), .val (.int 0)]) rfl ?_
  refine oIload K12 10 (d5_8 hby) rfl ?_
  refine oIloadN K12 11 (d5_10 hby) rfl ?_
  refine oIcmpNo K12 14 (d5_11 hby) (XT.ii_ge_f (by decide)) ?_
  refine oAloadN K12 15 (d5_14 hby) rfl rfl ?_
  refine oIload K12 17 (d5_15 hby) rfl ?_
  refine oAloadN K12 18 (d5_17 hby) rfl rfl ?_
  refine oIloadN K12 19 (d5_18 hby) rfl ?_
  refine oCaload K12 20 (P0.keep Kp7 nin0) 0 (by decide) (by decide) rfl (d5_19 hby) ?_
  refine oStatic K12 23 0 (wq hw 115) (wq hw 116) (wq hw 53) (wq hw 117) (rmPut3_0 l Z a0 z0 fm G t9 c0 ((0 : Int32)) ((0 : Int32)) ((0 : Int32)) ((0 : Int32)) ((0 : Int32)) ((0 : Int32)) h3 K12.old K12.both f10) [(.ref t9), (.int 0), (.int c0)] [] (lenOf pd90 rfl) (d5_20 hby) ?_
  intro T13 h15 v16 lo17 fs18 K14 Kp19 q20
  obtain ⟨rfl, rfl, f21⟩ := q20
  have K22 := K14.to 1 6 [t9]
  refine Owe.stk [] ?_
  refine oIinc K22 26 (d5_23 hby) rfl (l' := #[.val (.ref b), .val (.int 1), .val (.int 3), .val (.ref t9), .val (.int 0)]) rfl ?_
  refine oIinc K22 29 (d5_26 hby) rfl (l' := #[.val (.ref b), .val (.int 1), .val (.int 3), .val (.ref t9), .val (.int 1)]) rfl ?_
  refine oGoto K22 8 (d5_29 hby) ?_
  refine oIload K22 10 (d5_8 hby) rfl ?_
  refine oIloadN K22 11 (d5_10 hby) rfl ?_
  refine oIcmpNo K22 14 (d5_11 hby) (XT.ii_ge_f (by decide)) ?_
  refine oAloadN K22 15 (d5_14 hby) rfl rfl ?_
  refine oIload K22 17 (d5_15 hby) rfl ?_
  refine oAloadN K22 18 (d5_17 hby) rfl rfl ?_
  refine oIloadN K22 19 (d5_18 hby) rfl ?_
  refine oCaload K22 20 ((P0.keep Kp7 nin0).keep Kp19 (ninS (Nat.ne_of_lt (Nat.lt_of_lt_of_le P0.lt f11)) nin0)) 1 (by decide) (by decide) rfl (d5_19 hby) ?_
  refine oStatic K22 23 0 (wq hw 115) (wq hw 116) (wq hw 53) (wq hw 117) (rmPut3_1 l Z a0 z0 fm G t9 c1 ((byt (c0 >>> ((0 : Int32) &&& 31)))) ((byt (c0 >>> ((8 : Int32) &&& 31)))) ((0 : Int32)) ((0 : Int32)) ((0 : Int32)) ((0 : Int32)) h15 K22.old K22.both f21) [(.ref t9), (.int 1), (.int c1)] [] (lenOf pd90 rfl) (d5_20 hby) ?_
  intro T23 h25 v26 lo27 fs28 K24 Kp29 q30
  obtain ⟨rfl, rfl, f31⟩ := q30
  have K32 := K24.to 1 6 [t9]
  refine Owe.stk [] ?_
  refine oIinc K32 26 (d5_23 hby) rfl (l' := #[.val (.ref b), .val (.int 2), .val (.int 3), .val (.ref t9), .val (.int 1)]) rfl ?_
  refine oIinc K32 29 (d5_26 hby) rfl (l' := #[.val (.ref b), .val (.int 2), .val (.int 3), .val (.ref t9), .val (.int 2)]) rfl ?_
  refine oGoto K32 8 (d5_29 hby) ?_
  refine oIload K32 10 (d5_8 hby) rfl ?_
  refine oIloadN K32 11 (d5_10 hby) rfl ?_
  refine oIcmpNo K32 14 (d5_11 hby) (XT.ii_ge_f (by decide)) ?_
  refine oAloadN K32 15 (d5_14 hby) rfl rfl ?_
  refine oIload K32 17 (d5_15 hby) rfl ?_
  refine oAloadN K32 18 (d5_17 hby) rfl rfl ?_
  refine oIloadN K32 19 (d5_18 hby) rfl ?_
  refine oCaload K32 20 (((P0.keep Kp7 nin0).keep Kp19 (ninS (Nat.ne_of_lt (Nat.lt_of_lt_of_le P0.lt f11)) nin0)).keep Kp29 (ninS (Nat.ne_of_lt (Nat.lt_of_lt_of_le P0.lt f11)) nin0)) 2 (by decide) (by decide) rfl (d5_19 hby) ?_
  refine oStatic K32 23 0 (wq hw 115) (wq hw 116) (wq hw 53) (wq hw 117) (rmPut3_2 l Z a0 z0 fm G t9 c2 ((byt (c0 >>> ((0 : Int32) &&& 31)))) ((byt (c0 >>> ((8 : Int32) &&& 31)))) ((byt (c1 >>> ((0 : Int32) &&& 31)))) ((byt (c1 >>> ((8 : Int32) &&& 31)))) ((0 : Int32)) ((0 : Int32)) h25 K32.old K32.both f31) [(.ref t9), (.int 2), (.int c2)] [] (lenOf pd90 rfl) (d5_20 hby) ?_
  intro T33 h35 v36 lo37 fs38 K34 Kp39 q40
  obtain ⟨rfl, rfl, f41⟩ := q40
  have K42 := K34.to 1 6 [t9]
  refine Owe.stk [] ?_
  refine oIinc K42 26 (d5_23 hby) rfl (l' := #[.val (.ref b), .val (.int 3), .val (.int 3), .val (.ref t9), .val (.int 2)]) rfl ?_
  refine oIinc K42 29 (d5_26 hby) rfl (l' := #[.val (.ref b), .val (.int 3), .val (.int 3), .val (.ref t9), .val (.int 3)]) rfl ?_
  refine oGoto K42 8 (d5_29 hby) ?_
  refine oIload K42 10 (d5_8 hby) rfl ?_
  refine oIloadN K42 11 (d5_10 hby) rfl ?_
  refine oIcmpYes K42 32 (d5_11 hby) (XT.ii_ge_t (by decide)) ?_
  refine oAloadN K42 33 (d5_32 hby) rfl rfl ?_
  exact oRetA K42 [] hret rfl rfl (d5_33 hby) (by decide) (by decide) hlk (fun x hx => by cases hx) ⟨t9, rfl, rfl, f41, (Nat.le_trans (Nat.le_refl _) f11)⟩
theorem rmToB4 (G : Gl Z a0 z0 fm) (b : Addr) (c0 c1 c2 c3 : Int32) (h0 : Heap) (hZh : Ext Z.heap h0) (hsf : Own Z h0 []) (P0 : Ary Z h0 b .char [(.int c0), (.int c1), (.int c2), (.int c3)]) :
    Ctr l Z ELs yn97 jdk_52_method_14_code 5 (some (.array .byte)) [] (rmk 2 1 8 24) #[(.ref b), (.int 0), (.int 4)] [] h0 (fun v h fs => (∃ t : Addr, fs = [] ∧ v = some (.ref t) ∧ Ary Z h t .byte [(.int (byt (c0 >>> ((0 : Int32) &&& 31)))), (.int (byt (c0 >>> ((8 : Int32) &&& 31)))), (.int (byt (c1 >>> ((0 : Int32) &&& 31)))), (.int (byt (c1 >>> ((8 : Int32) &&& 31)))), (.int (byt (c2 >>> ((0 : Int32) &&& 31)))), (.int (byt (c2 >>> ((8 : Int32) &&& 31)))), (.int (byt (c3 >>> ((0 : Int32) &&& 31)))), (.int (byt (c3 >>> ((8 : Int32) &&& 31))))] ∧ h0.size ≤ t)) := by
  obtain ⟨hw, hEL, wS, OS, hz0, OA, OH, OL, OF, rfm⟩ := id G
  refine Ctr.intro pn41 hEL hZh hsf ?_
  intro p e s m below meth c s₁ hby hml hret hnm hlk hh K0
  refine Owe.cast (ef96 m b ((0 : Int32)) ((4 : Int32))) ?_
  show Owe _ _ _ _ s₁ (mkF m 0 #[.val (.ref b), .val (.int 0), .val (.int 4), .unset, .unset] [])
  refine oIloadN K0 1 (d5_0 hby) rfl ?_
  refine oStatic K0 4 0 (wq hw 108) (wq hw 109) (wq hw 53) (wq hw 110) (rmNBF4 l Z a0 z0 fm G  h0 K0.old K0.both ) [(.int 4)] [] (lenOf pd77 rfl) (d5_1 hby) ?_
  intro T1 h3 v4 lo5 fs6 K2 Kp7 q8
  obtain ⟨t9, rfl, rfl, f10, f11⟩ := q8
  have K12 := K2.to 1 8 [t9]
  refine Owe.stk [(.ref t9)] ?_
  refine oAstoreN K12 5 (d5_4 hby) rfl (l' := #[.val (.ref b), .val (.int 0), .val (.int 4), .val (.ref t9), .unset]) rfl ?_
  refine oIconstV K12 6 (0 : Int32) (d5_5 hby) rfl ?_
  refine oIstore K12 8 (d5_6 hby) (l' := #[.val (.ref b), .val (.int 0), .val (.int 4), .val (.ref t9), .val (.int 0)]) rfl ?_
  refine oIload K12 10 (d5_8 hby) rfl ?_
  refine oIloadN K12 11 (d5_10 hby) rfl ?_
  refine oIcmpNo K12 14 (d5_11 hby) (XT.ii_ge_f (by decide)) ?_
  refine oAloadN K12 15 (d5_14 hby) rfl rfl ?_
  refine oIload K12 17 (d5_15 hby) rfl ?_
  refine oAloadN K12 18 (d5_17 hby) rfl rfl ?_
  refine oIloadN K12 19 (d5_18 hby) rfl ?_
  refine oCaload K12 20 (P0.keep Kp7 nin0) 0 (by decide) (by decide) rfl (d5_19 hby) ?_
  refine oStatic K12 23 0 (wq hw 115) (wq hw 116) (wq hw 53) (wq hw 117) (rmPut4_0 l Z a0 z0 fm G t9 c0 ((0 : Int32)) ((0 : Int32)) ((0 : Int32)) ((0 : Int32)) ((0 : Int32)) ((0 : Int32)) ((0 : Int32)) ((0 : Int32)) h3 K12.old K12.both f10) [(.ref t9), (.int 0), (.int c0)] [] (lenOf pd90 rfl) (d5_20 hby) ?_
  intro T13 h15 v16 lo17 fs18 K14 Kp19 q20
  obtain ⟨rfl, rfl, f21⟩ := q20
  have K22 := K14.to 1 8 [t9]
  refine Owe.stk [] ?_
  refine oIinc K22 26 (d5_23 hby) rfl (l' := #[.val (.ref b), .val (.int 1), .val (.int 4), .val (.ref t9), .val (.int 0)]) rfl ?_
  refine oIinc K22 29 (d5_26 hby) rfl (l' := #[.val (.ref b), .val (.int 1), .val (.int 4), .val (.ref t9), .val (.int 1)]) rfl ?_
  refine oGoto K22 8 (d5_29 hby) ?_
  refine oIload K22 10 (d5_8 hby) rfl ?_
  refine oIloadN K22 11 (d5_10 hby) rfl ?_
  refine oIcmpNo K22 14 (d5_11 hby) (XT.ii_ge_f (by decide)) ?_
  refine oAloadN K22 15 (d5_14 hby) rfl rfl ?_
  refine oIload K22 17 (d5_15 hby) rfl ?_
  refine oAloadN K22 18 (d5_17 hby) rfl rfl ?_
  refine oIloadN K22 19 (d5_18 hby) rfl ?_
  refine oCaload K22 20 ((P0.keep Kp7 nin0).keep Kp19 (ninS (Nat.ne_of_lt (Nat.lt_of_lt_of_le P0.lt f11)) nin0)) 1 (by decide) (by decide) rfl (d5_19 hby) ?_
  refine oStatic K22 23 0 (wq hw 115) (wq hw 116) (wq hw 53) (wq hw 117) (rmPut4_1 l Z a0 z0 fm G t9 c1 ((byt (c0 >>> ((0 : Int32) &&& 31)))) ((byt (c0 >>> ((8 : Int32) &&& 31)))) ((0 : Int32)) ((0 : Int32)) ((0 : Int32)) ((0 : Int32)) ((0 : Int32)) ((0 : Int32)) h15 K22.old K22.both f21) [(.ref t9), (.int 1), (.int c1)] [] (lenOf pd90 rfl) (d5_20 hby) ?_
  intro T23 h25 v26 lo27 fs28 K24 Kp29 q30
  obtain ⟨rfl, rfl, f31⟩ := q30
  have K32 := K24.to 1 8 [t9]
  refine Owe.stk [] ?_
  refine oIinc K32 26 (d5_23 hby) rfl (l' := #[.val (.ref b), .val (.int 2), .val (.int 4), .val (.ref t9), .val (.int 1)]) rfl ?_
  refine oIinc K32 29 (d5_26 hby) rfl (l' := #[.val (.ref b), .val (.int 2), .val (.int 4), .val (.ref t9), .val (.int 2)]) rfl ?_
  refine oGoto K32 8 (d5_29 hby) ?_
  refine oIload K32 10 (d5_8 hby) rfl ?_
  refine oIloadN K32 11 (d5_10 hby) rfl ?_
  refine oIcmpNo K32 14 (d5_11 hby) (XT.ii_ge_f (by decide)) ?_
  refine oAloadN K32 15 (d5_14 hby) rfl rfl ?_
  refine oIload K32 17 (d5_15 hby) rfl ?_
  refine oAloadN K32 18 (d5_17 hby) rfl rfl ?_
  refine oIloadN K32 19 (d5_18 hby) rfl ?_
  refine oCaload K32 20 (((P0.keep Kp7 nin0).keep Kp19 (ninS (Nat.ne_of_lt (Nat.lt_of_lt_of_le P0.lt f11)) nin0)).keep Kp29 (ninS (Nat.ne_of_lt (Nat.lt_of_lt_of_le P0.lt f11)) nin0)) 2 (by decide) (by decide) rfl (d5_19 hby) ?_
  refine oStatic K32 23 0 (wq hw 115) (wq hw 116) (wq hw 53) (wq hw 117) (rmPut4_2 l Z a0 z0 fm G t9 c2 ((byt (c0 >>> ((0 : Int32) &&& 31)))) ((byt (c0 >>> ((8 : Int32) &&& 31)))) ((byt (c1 >>> ((0 : Int32) &&& 31)))) ((byt (c1 >>> ((8 : Int32) &&& 31)))) ((0 : Int32)) ((0 : Int32)) ((0 : Int32)) ((0 : Int32)) h25 K32.old K32.both f31) [(.ref t9), (.int 2), (.int c2)] [] (lenOf pd90 rfl) (d5_20 hby) ?_
  intro T33 h35 v36 lo37 fs38 K34 Kp39 q40
  obtain ⟨rfl, rfl, f41⟩ := q40
  have K42 := K34.to 1 8 [t9]
  refine Owe.stk [] ?_
  refine oIinc K42 26 (d5_23 hby) rfl (l' := #[.val (.ref b), .val (.int 3), .val (.int 4), .val (.ref t9), .val (.int 2)]) rfl ?_
  refine oIinc K42 29 (d5_26 hby) rfl (l' := #[.val (.ref b), .val (.int 3), .val (.int 4), .val (.ref t9), .val (.int 3)]) rfl ?_
  refine oGoto K42 8 (d5_29 hby) ?_
  refine oIload K42 10 (d5_8 hby) rfl ?_
  refine oIloadN K42 11 (d5_10 hby) rfl ?_
  refine oIcmpNo K42 14 (d5_11 hby) (XT.ii_ge_f (by decide)) ?_
  refine oAloadN K42 15 (d5_14 hby) rfl rfl ?_
  refine oIload K42 17 (d5_15 hby) rfl ?_
  refine oAloadN K42 18 (d5_17 hby) rfl rfl ?_
  refine oIloadN K42 19 (d5_18 hby) rfl ?_
  refine oCaload K42 20 ((((P0.keep Kp7 nin0).keep Kp19 (ninS (Nat.ne_of_lt (Nat.lt_of_lt_of_le P0.lt f11)) nin0)).keep Kp29 (ninS (Nat.ne_of_lt (Nat.lt_of_lt_of_le P0.lt f11)) nin0)).keep Kp39 (ninS (Nat.ne_of_lt (Nat.lt_of_lt_of_le P0.lt f11)) nin0)) 3 (by decide) (by decide) rfl (d5_19 hby) ?_
  refine oStatic K42 23 0 (wq hw 115) (wq hw 116) (wq hw 53) (wq hw 117) (rmPut4_3 l Z a0 z0 fm G t9 c3 ((byt (c0 >>> ((0 : Int32) &&& 31)))) ((byt (c0 >>> ((8 : Int32) &&& 31)))) ((byt (c1 >>> ((0 : Int32) &&& 31)))) ((byt (c1 >>> ((8 : Int32) &&& 31)))) ((byt (c2 >>> ((0 : Int32) &&& 31)))) ((byt (c2 >>> ((8 : Int32) &&& 31)))) ((0 : Int32)) ((0 : Int32)) h35 K42.old K42.both f41) [(.ref t9), (.int 3), (.int c3)] [] (lenOf pd90 rfl) (d5_20 hby) ?_
  intro T43 h45 v46 lo47 fs48 K44 Kp49 q50
  obtain ⟨rfl, rfl, f51⟩ := q50
  have K52 := K44.to 1 8 [t9]
  refine Owe.stk [] ?_
  refine oIinc K52 26 (d5_23 hby) rfl (l' := #[.val (.ref b), .val (.int 4), .val (.int 4), .val (.ref t9), .val (.int 3)]) rfl ?_
  refine oIinc K52 29 (d5_26 hby) rfl (l' := #[.val (.ref b), .val (.int 4), .val (.int 4), .val (.ref t9), .val (.int 4)]) rfl ?_
  refine oGoto K52 8 (d5_29 hby) ?_
  refine oIload K52 10 (d5_8 hby) rfl ?_
  refine oIloadN K52 11 (d5_10 hby) rfl ?_
  refine oIcmpYes K52 32 (d5_11 hby) (XT.ii_ge_t (by decide)) ?_
  refine oAloadN K52 33 (d5_32 hby) rfl rfl ?_
  exact oRetA K52 [] hret rfl rfl (d5_33 hby) (by decide) (by decide) hlk (fun x hx => by cases hx) ⟨t9, rfl, rfl, f51, (Nat.le_trans (Nat.le_refl _) f11)⟩
abbrev y6 := jdk_52_method_5_code
theorem d6_0 : DC y6 0 (.getstatic 44) 3 := hb' (by decide +kernel)
theorem d6_3 : DC y6 3 (.ifCond .ne 25) 3 := hb' (by decide +kernel)
theorem d6_28 : DC y6 28 (.iload_n 1) 1 := hb' (by decide +kernel)
theorem d6_29 : DC y6 29 (.iconst 1) 1 := hb' (by decide +kernel)
theorem d6_30 : DC y6 30 (.ishl) 1 := hb' (by decide +kernel)
theorem d6_31 : DC y6 31 (.istore_n 1) 1 := hb' (by decide +kernel)
theorem d6_32 : DC y6 32 (.aload_n 0) 1 := hb' (by decide +kernel)
theorem d6_33 : DC y6 33 (.iload_n 1) 1 := hb' (by decide +kernel)
theorem d6_34 : DC y6 34 (.iinc 1 1) 3 := hb' (by decide +kernel)
theorem d6_37 : DC y6 37 (.baload) 1 := hb' (by decide +kernel)
theorem d6_38 : DC y6 38 (.sipush 255) 3 := hb' (by decide +kernel)
theorem d6_41 : DC y6 41 (.iand) 1 := hb' (by decide +kernel)
theorem d6_42 : DC y6 42 (.getstatic 59) 3 := hb' (by decide +kernel)
theorem d6_45 : DC y6 45 (.ishl) 1 := hb' (by decide +kernel)
theorem d6_46 : DC y6 46 (.aload_n 0) 1 := hb' (by decide +kernel)
theorem d6_47 : DC y6 47 (.iload_n 1) 1 := hb' (by decide +kernel)
theorem d6_48 : DC y6 48 (.baload) 1 := hb' (by decide +kernel)
theorem d6_49 : DC y6 49 (.sipush 255) 3 := hb' (by decide +kernel)
theorem d6_52 : DC y6 52 (.iand) 1 := hb' (by decide +kernel)
theorem d6_53 : DC y6 53 (.getstatic 63) 3 := hb' (by decide +kernel)
theorem d6_56 : DC y6 56 (.ishl) 1 := hb' (by decide +kernel)
theorem d6_57 : DC y6 57 (.ior) 1 := hb' (by decide +kernel)
theorem d6_58 : DC y6 58 (.i2c) 1 := hb' (by decide +kernel)
theorem d6_59 : DC y6 59 (.ireturn) 1 := hb' (by decide +kernel)
theorem ef123 (m : MethodId) (x0 : Addr) (x1 : Int32) : entryFrame m #[(.ref x0), (.int x1)] 2 = mkF m 0 #[.val (.ref x0), .val (.int x1)] [] := by first | (simp [entryFrame, mkF, argsToLocals, Value.category]; done) | rfl
abbrev yn124 : MethodName := ⟨"java/lang/StringUTF16", "getChar", "([BI)C"⟩
theorem rmGet1_0 (G : Gl Z a0 z0 fm) (t : Addr) (c0 : Int32) (h0 : Heap) (hZh : Ext Z.heap h0) (hsf : Own Z h0 []) (P0 : Ary Z h0 t .byte [(.int (byt (c0 >>> ((0 : Int32) &&& 31)))), (.int (byt (c0 >>> ((8 : Int32) &&& 31))))]) (P1 : ¬ c0 < (0 : Int32)) (P2 : ¬ (65535 : Int32) < c0) :
    Ctr l Z ELs yn124 jdk_52_method_5_code 2 (some .char) [] (rmk 0 0 0 0) #[(.ref t), (.int 0)] [] h0 (fun v h fs => (fs = [] ∧ v = some (.int c0))) := by
  obtain ⟨hw, hEL, wS, OS, hz0, OA, OH, OL, OF, rfm⟩ := id G
  refine Ctr.intro pn41 hEL hZh hsf ?_
  intro p e s m below meth c s₁ hby hml hret hnm hlk hh K0
  refine Owe.cast (ef123 m t ((0 : Int32))) ?_
  show Owe _ _ _ _ s₁ (mkF m 0 #[.val (.ref t), .val (.int 0)] [])
  refine oGetS K0 3 (wq hw 118) (OA.ext K0.old) (d6_0 hby) ?_
  intro T1 K2
  refine oIfYes K2 28 (d6_3 hby) (XT.i0_ne_t (by decide)) ?_
  refine oIloadN K2 29 (d6_28 hby) rfl ?_
  refine oIconstV K2 30 (1 : Int32) (d6_29 hby) rfl ?_
  refine oIshl K2 31 (d6_30 hby) ?_
  show Owe _ _ _ _ T1 (mkF m 31 #[.val (.ref t), .val (.int 0)] [(.int 0)])
  refine oIstoreN K2 32 (d6_31 hby) (l' := #[.val (.ref t), .val (.int 0)]) rfl ?_
  refine oAloadN K2 33 (d6_32 hby) rfl rfl ?_
  refine oIloadN K2 34 (d6_33 hby) rfl ?_
  refine oIinc K2 37 (d6_34 hby) rfl (l' := #[.val (.ref t), .val (.int 1)]) rfl ?_
  refine oBaload K2 38 P0 0 (by decide) (by decide) rfl (d6_37 hby) ?_
  refine oSipushV K2 41 (255 : Int32) (d6_38 hby) (by decide) ?_
  refine oIand K2 42 (d6_41 hby) ?_
  refine oGetS K2 45 (wq hw 119) (OH.ext K2.old) (d6_42 hby) ?_
  intro T3 K4
  refine oIshl K4 46 (d6_45 hby) ?_
  refine oAloadN K4 47 (d6_46 hby) rfl rfl ?_
  refine oIloadN K4 48 (d6_47 hby) rfl ?_
  refine oBaload K4 49 P0 1 (by decide) (by decide) rfl (d6_48 hby) ?_
  refine oSipushV K4 52 (255 : Int32) (d6_49 hby) (by decide) ?_
  refine oIand K4 53 (d6_52 hby) ?_
  refine oGetS K4 56 (wq hw 120) (OL.ext K4.old) (d6_53 hby) ?_
  intro T5 K6
  refine oIshl K6 57 (d6_56 hby) ?_
  refine oIor K6 58 (d6_57 hby) ?_
  refine oI2c K6 59 (d6_58 hby) ?_
  refine Owe.stk [(.int c0)] ?_ (congrArg (fun z => [Value.int z]) (own_getc P1 P2))
  exact oRetI K6 [] (t := .char) hret (by simp) (narrow_rng P1 P2) (d6_59 hby) (by decide) (by decide) hlk (fun x hx => by cases hx) ⟨rfl, rfl⟩
theorem rmGet2_0 (G : Gl Z a0 z0 fm) (t : Addr) (c0 c1 : Int32) (h0 : Heap) (hZh : Ext Z.heap h0) (hsf : Own Z h0 []) (P0 : Ary Z h0 t .byte [(.int (byt (c0 >>> ((0 : Int32) &&& 31)))), (.int (byt (c0 >>> ((8 : Int32) &&& 31)))), (.int (byt (c1 >>> ((0 : Int32) &&& 31)))), (.int (byt (c1 >>> ((8 : Int32) &&& 31))))]) (P1 : ¬ c0 < (0 : Int32)) (P2 : ¬ (65535 : Int32) < c0) :
    Ctr l Z ELs yn124 jdk_52_method_5_code 2 (some .char) [] (rmk 0 0 0 0) #[(.ref t), (.int 0)] [] h0 (fun v h fs => (fs = [] ∧ v = some (.int c0))) := by
  obtain ⟨hw, hEL, wS, OS, hz0, OA, OH, OL, OF, rfm⟩ := id G
  refine Ctr.intro pn41 hEL hZh hsf ?_
  intro p e s m below meth c s₁ hby hml hret hnm hlk hh K0
  refine Owe.cast (ef123 m t ((0 : Int32))) ?_
  show Owe _ _ _ _ s₁ (mkF m 0 #[.val (.ref t), .val (.int 0)] [])
  refine oGetS K0 3 (wq hw 118) (OA.ext K0.old) (d6_0 hby) ?_
  intro T1 K2
  refine oIfYes K2 28 (d6_3 hby) (XT.i0_ne_t (by decide)) ?_
  refine oIloadN K2 29 (d6_28 hby) rfl ?_
  refine oIconstV K2 30 (1 : Int32) (d6_29 hby) rfl ?_
  refine oIshl K2 31 (d6_30 hby) ?_
  show Owe _ _ _ _ T1 (mkF m 31 #[.val (.ref t), .val (.int 0)] [(.int 0)])
  refine oIstoreN K2 32 (d6_31 hby) (l' := #[.val (.ref t), .val (.int 0)]) rfl ?_
  refine oAloadN K2 33 (d6_32 hby) rfl rfl ?_
  refine oIloadN K2 34 (d6_33 hby) rfl ?_
  refine oIinc K2 37 (d6_34 hby) rfl (l' := #[.val (.ref t), .val (.int 1)]) rfl ?_
  refine oBaload K2 38 P0 0 (by decide) (by decide) rfl (d6_37 hby) ?_
  refine oSipushV K2 41 (255 : Int32) (d6_38 hby) (by decide) ?_
  refine oIand K2 42 (d6_41 hby) ?_
  refine oGetS K2 45 (wq hw 119) (OH.ext K2.old) (d6_42 hby) ?_
  intro T3 K4
  refine oIshl K4 46 (d6_45 hby) ?_
  refine oAloadN K4 47 (d6_46 hby) rfl rfl ?_
  refine oIloadN K4 48 (d6_47 hby) rfl ?_
  refine oBaload K4 49 P0 1 (by decide) (by decide) rfl (d6_48 hby) ?_
  refine oSipushV K4 52 (255 : Int32) (d6_49 hby) (by decide) ?_
  refine oIand K4 53 (d6_52 hby) ?_
  refine oGetS K4 56 (wq hw 120) (OL.ext K4.old) (d6_53 hby) ?_
  intro T5 K6
  refine oIshl K6 57 (d6_56 hby) ?_
  refine oIor K6 58 (d6_57 hby) ?_
  refine oI2c K6 59 (d6_58 hby) ?_
  refine Owe.stk [(.int c0)] ?_ (congrArg (fun z => [Value.int z]) (own_getc P1 P2))
  exact oRetI K6 [] (t := .char) hret (by simp) (narrow_rng P1 P2) (d6_59 hby) (by decide) (by decide) hlk (fun x hx => by cases hx) ⟨rfl, rfl⟩
theorem rmGet2_1 (G : Gl Z a0 z0 fm) (t : Addr) (c0 c1 : Int32) (h0 : Heap) (hZh : Ext Z.heap h0) (hsf : Own Z h0 []) (P0 : Ary Z h0 t .byte [(.int (byt (c0 >>> ((0 : Int32) &&& 31)))), (.int (byt (c0 >>> ((8 : Int32) &&& 31)))), (.int (byt (c1 >>> ((0 : Int32) &&& 31)))), (.int (byt (c1 >>> ((8 : Int32) &&& 31))))]) (P1 : ¬ c1 < (0 : Int32)) (P2 : ¬ (65535 : Int32) < c1) :
    Ctr l Z ELs yn124 jdk_52_method_5_code 2 (some .char) [] (rmk 0 0 0 0) #[(.ref t), (.int 1)] [] h0 (fun v h fs => (fs = [] ∧ v = some (.int c1))) := by
  obtain ⟨hw, hEL, wS, OS, hz0, OA, OH, OL, OF, rfm⟩ := id G
  refine Ctr.intro pn41 hEL hZh hsf ?_
  intro p e s m below meth c s₁ hby hml hret hnm hlk hh K0
  refine Owe.cast (ef123 m t ((1 : Int32))) ?_
  show Owe _ _ _ _ s₁ (mkF m 0 #[.val (.ref t), .val (.int 1)] [])
  refine oGetS K0 3 (wq hw 118) (OA.ext K0.old) (d6_0 hby) ?_
  intro T1 K2
  refine oIfYes K2 28 (d6_3 hby) (XT.i0_ne_t (by decide)) ?_
  refine oIloadN K2 29 (d6_28 hby) rfl ?_
  refine oIconstV K2 30 (1 : Int32) (d6_29 hby) rfl ?_
  refine oIshl K2 31 (d6_30 hby) ?_
  show Owe _ _ _ _ T1 (mkF m 31 #[.val (.ref t), .val (.int 1)] [(.int 2)])
  refine oIstoreN K2 32 (d6_31 hby) (l' := #[.val (.ref t), .val (.int 2)]) rfl ?_
  refine oAloadN K2 33 (d6_32 hby) rfl rfl ?_
  refine oIloadN K2 34 (d6_33 hby) rfl ?_
  refine oIinc K2 37 (d6_34 hby) rfl (l' := #[.val (.ref t), .val (.int 3)]) rfl ?_
  refine oBaload K2 38 P0 2 (by decide) (by decide) rfl (d6_37 hby) ?_
  refine oSipushV K2 41 (255 : Int32) (d6_38 hby) (by decide) ?_
  refine oIand K2 42 (d6_41 hby) ?_
  refine oGetS K2 45 (wq hw 119) (OH.ext K2.old) (d6_42 hby) ?_
  intro T3 K4
  refine oIshl K4 46 (d6_45 hby) ?_
  refine oAloadN K4 47 (d6_46 hby) rfl rfl ?_
  refine oIloadN K4 48 (d6_47 hby) rfl ?_
  refine oBaload K4 49 P0 3 (by decide) (by decide) rfl (d6_48 hby) ?_
  refine oSipushV K4 52 (255 : Int32) (d6_49 hby) (by decide) ?_
  refine oIand K4 53 (d6_52 hby) ?_
  refine oGetS K4 56 (wq hw 120) (OL.ext K4.old) (d6_53 hby) ?_
  intro T5 K6
  refine oIshl K6 57 (d6_56 hby) ?_
  refine oIor K6 58 (d6_57 hby) ?_
  refine oI2c K6 59 (d6_58 hby) ?_
  refine Owe.stk [(.int c1)] ?_ (congrArg (fun z => [Value.int z]) (own_getc P1 P2))
  exact oRetI K6 [] (t := .char) hret (by simp) (narrow_rng P1 P2) (d6_59 hby) (by decide) (by decide) hlk (fun x hx => by cases hx) ⟨rfl, rfl⟩
theorem rmGet3_0 (G : Gl Z a0 z0 fm) (t : Addr) (c0 c1 c2 : Int32) (h0 : Heap) (hZh : Ext Z.heap h0) (hsf : Own Z h0 []) (P0 : Ary Z h0 t .byte [(.int (byt (c0 >>> ((0 : Int32) &&& 31)))), (.int (byt (c0 >>> ((8 : Int32) &&& 31)))), (.int (byt (c1 >>> ((0 : Int32) &&& 31)))), (.int (byt (c1 >>> ((8 : Int32) &&& 31)))), (.int (byt (c2 >>> ((0 : Int32) &&& 31)))), (.int (byt (c2 >>> ((8 : Int32) &&& 31))))]) (P1 : ¬ c0 < (0 : Int32)) (P2 : ¬ (65535 : Int32) < c0) :
    Ctr l Z ELs yn124 jdk_52_method_5_code 2 (some .char) [] (rmk 0 0 0 0) #[(.ref t), (.int 0)] [] h0 (fun v h fs => (fs = [] ∧ v = some (.int c0))) := by
  obtain ⟨hw, hEL, wS, OS, hz0, OA, OH, OL, OF, rfm⟩ := id G
  refine Ctr.intro pn41 hEL hZh hsf ?_
  intro p e s m below meth c s₁ hby hml hret hnm hlk hh K0
  refine Owe.cast (ef123 m t ((0 : Int32))) ?_
  show Owe _ _ _ _ s₁ (mkF m 0 #[.val (.ref t), .val (.int 0)] [])
  refine oGetS K0 3 (wq hw 118) (OA.ext K0.old) (d6_0 hby) ?_
  intro T1 K2
  refine oIfYes K2 28 (d6_3 hby) (XT.i0_ne_t (by decide)) ?_
  refine oIloadN K2 29 (d6_28 hby) rfl ?_
  refine oIconstV K2 30 (1 : Int32) (d6_29 hby) rfl ?_
  refine oIshl K2 31 (d6_30 hby) ?_
  show Owe _ _ _ _ T1 (mkF m 31 #[.val (.ref t), .val (.int 0)] [(.int 0)])
  refine oIstoreN K2 32 (d6_31 hby) (l' := #[.val (.ref t), .val (.int 0)]) rfl ?_
  refine oAloadN K2 33 (d6_32 hby) rfl rfl ?_
  refine oIloadN K2 34 (d6_33 hby) rfl ?_
  refine oIinc K2 37 (d6_34 hby) rfl (l' := #[.val (.ref t), .val (.int 1)]) rfl ?_
  refine oBaload K2 38 P0 0 (by decide) (by decide) rfl (d6_37 hby) ?_
  refine oSipushV K2 41 (255 : Int32) (d6_38 hby) (by decide) ?_
  refine oIand K2 42 (d6_41 hby) ?_
  refine oGetS K2 45 (wq hw 119) (OH.ext K2.old) (d6_42 hby) ?_
  intro T3 K4
  refine oIshl K4 46 (d6_45 hby) ?_
  refine oAloadN K4 47 (d6_46 hby) rfl rfl ?_
  refine oIloadN K4 48 (d6_47 hby) rfl ?_
  refine oBaload K4 49 P0 1 (by decide) (by decide) rfl (d6_48 hby) ?_
  refine oSipushV K4 52 (255 : Int32) (d6_49 hby) (by decide) ?_
  refine oIand K4 53 (d6_52 hby) ?_
  refine oGetS K4 56 (wq hw 120) (OL.ext K4.old) (d6_53 hby) ?_
  intro T5 K6
  refine oIshl K6 57 (d6_56 hby) ?_
  refine oIor K6 58 (d6_57 hby) ?_
  refine oI2c K6 59 (d6_58 hby) ?_
  refine Owe.stk [(.int c0)] ?_ (congrArg (fun z => [Value.int z]) (own_getc P1 P2))
  exact oRetI K6 [] (t := .char) hret (by simp) (narrow_rng P1 P2) (d6_59 hby) (by decide) (by decide) hlk (fun x hx => by cases hx) ⟨rfl, rfl⟩
theorem rmGet3_1 (G : Gl Z a0 z0 fm) (t : Addr) (c0 c1 c2 : Int32) (h0 : Heap) (hZh : Ext Z.heap h0) (hsf : Own Z h0 []) (P0 : Ary Z h0 t .byte [(.int (byt (c0 >>> ((0 : Int32) &&& 31)))), (.int (byt (c0 >>> ((8 : Int32) &&& 31)))), (.int (byt (c1 >>> ((0 : Int32) &&& 31)))), (.int (byt (c1 >>> ((8 : Int32) &&& 31)))), (.int (byt (c2 >>> ((0 : Int32) &&& 31)))), (.int (byt (c2 >>> ((8 : Int32) &&& 31))))]) (P1 : ¬ c1 < (0 : Int32)) (P2 : ¬ (65535 : Int32) < c1) :
    Ctr l Z ELs yn124 jdk_52_method_5_code 2 (some .char) [] (rmk 0 0 0 0) #[(.ref t), (.int 1)] [] h0 (fun v h fs => (fs = [] ∧ v = some (.int c1))) := by
  obtain ⟨hw, hEL, wS, OS, hz0, OA, OH, OL, OF, rfm⟩ := id G
  refine Ctr.intro pn41 hEL hZh hsf ?_
  intro p e s m below meth c s₁ hby hml hret hnm hlk hh K0
  refine Owe.cast (ef123 m t ((1 : Int32))) ?_
  show Owe _ _ _ _ s₁ (mkF m 0 #[.val (.ref t), .val (.int 1)] [])
  refine oGetS K0 3 (wq hw 118) (OA.ext K0.old) (d6_0 hby) ?_
  intro T1 K2
  refine oIfYes K2 28 (d6_3 hby) (XT.i0_ne_t (by decide)) ?_
  refine oIloadN K2 29 (d6_28 hby) rfl ?_
  refine oIconstV K2 30 (1 : Int32) (d6_29 hby) rfl ?_
  refine oIshl K2 31 (d6_30 hby) ?_
  show Owe _ _ _ _ T1 (mkF m 31 #[.val (.ref t), .val (.int 1)] [(.int 2)])
  refine oIstoreN K2 32 (d6_31 hby) (l' := #[.val (.ref t), .val (.int 2)]) rfl ?_
  refine oAloadN K2 33 (d6_32 hby) rfl rfl ?_
  refine oIloadN K2 34 (d6_33 hby) rfl ?_
  refine oIinc K2 37 (d6_34 hby) rfl (l' := #[.val (.ref t), .val (.int 3)]) rfl ?_
  refine oBaload K2 38 P0 2 (by decide) (by decide) rfl (d6_37 hby) ?_
  refine oSipushV K2 41 (255 : Int32) (d6_38 hby) (by decide) ?_
  refine oIand K2 42 (d6_41 hby) ?_
  refine oGetS K2 45 (wq hw 119) (OH.ext K2.old) (d6_42 hby) ?_
  intro T3 K4
  refine oIshl K4 46 (d6_45 hby) ?_
  refine oAloadN K4 47 (d6_46 hby) rfl rfl ?_
  refine oIloadN K4 48 (d6_47 hby) rfl ?_
  refine oBaload K4 49 P0 3 (by decide) (by decide) rfl (d6_48 hby) ?_
  refine oSipushV K4 52 (255 : Int32) (d6_49 hby) (by decide) ?_
  refine oIand K4 53 (d6_52 hby) ?_
  refine oGetS K4 56 (wq hw 120) (OL.ext K4.old) (d6_53 hby) ?_
  intro T5 K6
  refine oIshl K6 57 (d6_56 hby) ?_
  refine oIor K6 58 (d6_57 hby) ?_
  refine oI2c K6 59 (d6_58 hby) ?_
  refine Owe.stk [(.int c1)] ?_ (congrArg (fun z => [Value.int z]) (own_getc P1 P2))
  exact oRetI K6 [] (t := .char) hret (by simp) (narrow_rng P1 P2) (d6_59 hby) (by decide) (by decide) hlk (fun x hx => by cases hx) ⟨rfl, rfl⟩
theorem rmGet3_2 (G : Gl Z a0 z0 fm) (t : Addr) (c0 c1 c2 : Int32) (h0 : Heap) (hZh : Ext Z.heap h0) (hsf : Own Z h0 []) (P0 : Ary Z h0 t .byte [(.int (byt (c0 >>> ((0 : Int32) &&& 31)))), (.int (byt (c0 >>> ((8 : Int32) &&& 31)))), (.int (byt (c1 >>> ((0 : Int32) &&& 31)))), (.int (byt (c1 >>> ((8 : Int32) &&& 31)))), (.int (byt (c2 >>> ((0 : Int32) &&& 31)))), (.int (byt (c2 >>> ((8 : Int32) &&& 31))))]) (P1 : ¬ c2 < (0 : Int32)) (P2 : ¬ (65535 : Int32) < c2) :
    Ctr l Z ELs yn124 jdk_52_method_5_code 2 (some .char) [] (rmk 0 0 0 0) #[(.ref t), (.int 2)] [] h0 (fun v h fs => (fs = [] ∧ v = some (.int c2))) := by
  obtain ⟨hw, hEL, wS, OS, hz0, OA, OH, OL, OF, rfm⟩ := id G
  refine Ctr.intro pn41 hEL hZh hsf ?_
  intro p e s m below meth c s₁ hby hml hret hnm hlk hh K0
  refine Owe.cast (ef123 m t ((2 : Int32))) ?_
  show Owe _ _ _ _ s₁ (mkF m 0 #[.val (.ref t), .val (.int 2)] [])
  refine oGetS K0 3 (wq hw 118) (OA.ext K0.old) (d6_0 hby) ?_
  intro T1 K2
  refine oIfYes K2 28 (d6_3 hby) (XT.i0_ne_t (by decide)) ?_
  refine oIloadN K2 29 (d6_28 hby) rfl ?_
  refine oIconstV K2 30 (1 : Int32) (d6_29 hby) rfl ?_
  refine oIshl K2 31 (d6_30 hby) ?_
  show Owe _ _ _ _ T1 (mkF m 31 #[.val (.ref t), .val (.int 2)] [(.int 4)])
  refine oIstoreN K2 32 (d6_31 hby) (l' := #[.val (.ref t), .val (.int 4)]) rfl ?_
  refine oAloadN K2 33 (d6_32 hby) rfl rfl ?_
  refine oIloadN K2 34 (d6_33 hby) rfl ?_
  refine oIinc K2 37 (d6_34 hby) rfl (l' := #[.val (.ref t), .val (.int 5)]) rfl ?_
  refine oBaload K2 38 P0 4 (by decide) (by decide) rfl (d6_37 hby) ?_
  refine oSipushV K2 41 (255 : Int32) (d6_38 hby) (by decide) ?_
  refine oIand K2 42 (d6_41 hby) ?_
  refine oGetS K2 45 (wq hw 119) (OH.ext K2.old) (d6_42 hby) ?_
  intro T3 K4
  refine oIshl K4 46 (d6_45 hby) ?_
  refine oAloadN K4 47 (d6_46 hby) rfl rfl ?_
  refine oIloadN K4 48 (d6_47 hby) rfl ?_
  refine oBaload K4 49 P0 5 (by decide) (by decide) rfl (d6_48 hby) ?_
  refine oSipushV K4 52 (255 : Int32) (d6_49 hby) (by decide) ?_
  refine oIand K4 53 (d6_52 hby) ?_
  refine oGetS K4 56 (wq hw 120) (OL.ext K4.old) (d6_53 hby) ?_
  intro T5 K6
  refine oIshl K6 57 (d6_56 hby) ?_
  refine oIor K6 58 (d6_57 hby) ?_
  refine oI2c K6 59 (d6_58 hby) ?_
  refine Owe.stk [(.int c2)] ?_ (congrArg (fun z => [Value.int z]) (own_getc P1 P2))
  exact oRetI K6 [] (t := .char) hret (by simp) (narrow_rng P1 P2) (d6_59 hby) (by decide) (by decide) hlk (fun x hx => by cases hx) ⟨rfl, rfl⟩
theorem rmGet4_0 (G : Gl Z a0 z0 fm) (t : Addr) (c0 c1 c2 c3 : Int32) (h0 : Heap) (hZh : Ext Z.heap h0) (hsf : Own Z h0 []) (P0 : Ary Z h0 t .byte [(.int (byt (c0 >>> ((0 : Int32) &&& 31)))), (.int (byt (c0 >>> ((8 : Int32) &&& 31)))), (.int (byt (c1 >>> ((0 : Int32) &&& 31)))), (.int (byt (c1 >>> ((8 : Int32) &&& 31)))), (.int (byt (c2 >>> ((0 : Int32) &&& 31)))), (.int (byt (c2 >>> ((8 : Int32) &&& 31)))), (.int (byt (c3 >>> ((0 : Int32) &&& 31)))), (.int (byt (c3 >>> ((8 : Int32) &&& 31))))]) (P1 : ¬ c0 < (0 : Int32)) (P2 : ¬ (65535 : Int32) < c0) :
    Ctr l Z ELs yn124 jdk_52_method_5_code 2 (some .char) [] (rmk 0 0 0 0) #[(.ref t), (.int 0)] [] h0 (fun v h fs => (fs = [] ∧ v = some (.int c0))) := by
  obtain ⟨hw, hEL, wS, OS, hz0, OA, OH, OL, OF, rfm⟩ := id G
  refine Ctr.intro pn41 hEL hZh hsf ?_
  intro p e s m below meth c s₁ hby hml hret hnm hlk hh K0
  refine Owe.cast (ef123 m t ((0 : Int32))) ?_
  show Owe _ _ _ _ s₁ (mkF m 0 #[.val (.ref t), .val (.int 0)] [])
  refine oGetS K0 3 (wq hw 118) (OA.ext K0.old) (d6_0 hby) ?_
  intro T1 K2
  refine oIfYes K2 28 (d6_3 hby) (XT.i0_ne_t (by decide)) ?_
  refine oIloadN K2 29 (d6_28 hby) rfl ?_
  refine oIconstV K2 30 (1 : Int32) (d6_29 hby) rfl ?_
  refine oIshl K2 31 (d6_30 hby) ?_
  show Owe _ _ _ _ T1 (mkF m 31 #[.val (.ref t), .val (.int 0)] [(.int 0)])
  refine oIstoreN K2 32 (d6_31 hby) (l' := #[.val (.ref t), .val (.int 0)]) rfl ?_
  refine oAloadN K2 33 (d6_32 hby) rfl rfl ?_
  refine oIloadN K2 34 (d6_33 hby) rfl ?_
  refine oIinc K2 37 (d6_34 hby) rfl (l' := #[.val (.ref t), .val (.int 1)]) rfl ?_
  refine oBaload K2 38 P0 0 (by decide) (by decide) rfl (d6_37 hby) ?_
  refine oSipushV K2 41 (255 : Int32) (d6_38 hby) (by decide) ?_
  refine oIand K2 42 (d6_41 hby) ?_
  refine oGetS K2 45 (wq hw 119) (OH.ext K2.old) (d6_42 hby) ?_
  intro T3 K4
  refine oIshl K4 46 (d6_45 hby) ?_
  refine oAloadN K4 47 (d6_46 hby) rfl rfl ?_
  refine oIloadN K4 48 (d6_47 hby) rfl ?_
  refine oBaload K4 49 P0 1 (by decide) (by decide) rfl (d6_48 hby) ?_
  refine oSipushV K4 52 (255 : Int32) (d6_49 hby) (by decide) ?_
  refine oIand K4 53 (d6_52 hby) ?_
  refine oGetS K4 56 (wq hw 120) (OL.ext K4.old) (d6_53 hby) ?_
  intro T5 K6
  refine oIshl K6 57 (d6_56 hby) ?_
  refine oIor K6 58 (d6_57 hby) ?_
  refine oI2c K6 59 (d6_58 hby) ?_
  refine Owe.stk [(.int c0)] ?_ (congrArg (fun z => [Value.int z]) (own_getc P1 P2))
  exact oRetI K6 [] (t := .char) hret (by simp) (narrow_rng P1 P2) (d6_59 hby) (by decide) (by decide) hlk (fun x hx => by cases hx) ⟨rfl, rfl⟩
theorem rmGet4_1 (G : Gl Z a0 z0 fm) (t : Addr) (c0 c1 c2 c3 : Int32) (h0 : Heap) (hZh : Ext Z.heap h0) (hsf : Own Z h0 []) (P0 : Ary Z h0 t .byte [(.int (byt (c0 >>> ((0 : Int32) &&& 31)))), (.int (byt (c0 >>> ((8 : Int32) &&& 31)))), (.int (byt (c1 >>> ((0 : Int32) &&& 31)))), (.int (byt (c1 >>> ((8 : Int32) &&& 31)))), (.int (byt (c2 >>> ((0 : Int32) &&& 31)))), (.int (byt (c2 >>> ((8 : Int32) &&& 31)))), (.int (byt (c3 >>> ((0 : Int32) &&& 31)))), (.int (byt (c3 >>> ((8 : Int32) &&& 31))))]) (P1 : ¬ c1 < (0 : Int32)) (P2 : ¬ (65535 : Int32) < c1) :
    Ctr l Z ELs yn124 jdk_52_method_5_code 2 (some .char) [] (rmk 0 0 0 0) #[(.ref t), (.int 1)] [] h0 (fun v h fs => (fs = [] ∧ v = some (.int c1))) := by
  obtain ⟨hw, hEL, wS, OS, hz0, OA, OH, OL, OF, rfm⟩ := id G
  refine Ctr.intro pn41 hEL hZh hsf ?_
  intro p e s m below meth c s₁ hby hml hret hnm hlk hh K0
  refine Owe.cast (ef123 m t ((1 : Int32))) ?_
  show Owe _ _ _ _ s₁ (mkF m 0 #[.val (.ref t), .val (.int 1)] [])
  refine oGetS K0 3 (wq hw 118) (OA.ext K0.old) (d6_0 hby) ?_
  intro T1 K2
  refine oIfYes K2 28 (d6_3 hby) (XT.i0_ne_t (by decide)) ?_
  refine oIloadN K2 29 (d6_28 hby) rfl ?_
  refine oIconstV K2 30 (1 : Int32) (d6_29 hby) rfl ?_
  refine oIshl K2 31 (d6_30 hby) ?_
  show Owe _ _ _ _ T1 (mkF m 31 #[.val (.ref t), .val (.int 1)] [(.int 2)])
  refine oIstoreN K2 32 (d6_31 hby) (l' := #[.val (.ref t), .val (.int 2)]) rfl ?_
  refine oAloadN K2 33 (d6_32 hby) rfl rfl ?_
  refine oIloadN K2 34 (d6_33 hby) rfl ?_
  refine oIinc K2 37 (d6_34 hby) rfl (l' := #[.val (.ref t), .val (.int 3)]) rfl ?_
  refine oBaload K2 38 P0 2 (by decide) (by decide) rfl (d6_37 hby) ?_
  refine oSipushV K2 41 (255 : Int32) (d6_38 hby) (by decide) ?_
  refine oIand K2 42 (d6_41 hby) ?_
  refine oGetS K2 45 (wq hw 119) (OH.ext K2.old) (d6_42 hby) ?_
  intro T3 K4
  refine oIshl K4 46 (d6_45 hby) ?_
  refine oAloadN K4 47 (d6_46 hby) rfl rfl ?_
  refine oIloadN K4 48 (d6_47 hby) rfl ?_
  refine oBaload K4 49 P0 3 (by decide) (by decide) rfl (d6_48 hby) ?_
  refine oSipushV K4 52 (255 : Int32) (d6_49 hby) (by decide) ?_
  refine oIand K4 53 (d6_52 hby) ?_
  refine oGetS K4 56 (wq hw 120) (OL.ext K4.old) (d6_53 hby) ?_
  intro T5 K6
  refine oIshl K6 57 (d6_56 hby) ?_
  refine oIor K6 58 (d6_57 hby) ?_
  refine oI2c K6 59 (d6_58 hby) ?_
  refine Owe.stk [(.int c1)] ?_ (congrArg (fun z => [Value.int z]) (own_getc P1 P2))
  exact oRetI K6 [] (t := .char) hret (by simp) (narrow_rng P1 P2) (d6_59 hby) (by decide) (by decide) hlk (fun x hx => by cases hx) ⟨rfl, rfl⟩
theorem rmGet4_2 (G : Gl Z a0 z0 fm) (t : Addr) (c0 c1 c2 c3 : Int32) (h0 : Heap) (hZh : Ext Z.heap h0) (hsf : Own Z h0 []) (P0 : Ary Z h0 t .byte [(.int (byt (c0 >>> ((0 : Int32) &&& 31)))), (.int (byt (c0 >>> ((8 : Int32) &&& 31)))), (.int (byt (c1 >>> ((0 : Int32) &&& 31)))), (.int (byt (c1 >>> ((8 : Int32) &&& 31)))), (.int (byt (c2 >>> ((0 : Int32) &&& 31)))), (.int (byt (c2 >>> ((8 : Int32) &&& 31)))), (.int (byt (c3 >>> ((0 : Int32) &&& 31)))), (.int (byt (c3 >>> ((8 : Int32) &&& 31))))]) (P1 : ¬ c2 < (0 : Int32)) (P2 : ¬ (65535 : Int32) < c2) :
    Ctr l Z ELs yn124 jdk_52_method_5_code 2 (some .char) [] (rmk 0 0 0 0) #[(.ref t), (.int 2)] [] h0 (fun v h fs => (fs = [] ∧ v = some (.int c2))) := by
  obtain ⟨hw, hEL, wS, OS, hz0, OA, OH, OL, OF, rfm⟩ := id G
  refine Ctr.intro pn41 hEL hZh hsf ?_
  intro p e s m below meth c s₁ hby hml hret hnm hlk hh K0
  refine Owe.cast (ef123 m t ((2 : Int32))) ?_
  show Owe _ _ _ _ s₁ (mkF m 0 #[.val (.ref t), .val (.int 2)] [])
  refine oGetS K0 3 (wq hw 118) (OA.ext K0.old) (d6_0 hby) ?_
  intro T1 K2
  refine oIfYes K2 28 (d6_3 hby) (XT.i0_ne_t (by decide)) ?_
  refine oIloadN K2 29 (d6_28 hby) rfl ?_
  refine oIconstV K2 30 (1 : Int32) (d6_29 hby) rfl ?_
  refine oIshl K2 31 (d6_30 hby) ?_
  show Owe _ _ _ _ T1 (mkF m 31 #[.val (.ref t), .val (.int 2)] [(.int 4)])
  refine oIstoreN K2 32 (d6_31 hby) (l' := #[.val (.ref t), .val (.int 4)]) rfl ?_
  refine oAloadN K2 33 (d6_32 hby) rfl rfl ?_
  refine oIloadN K2 34 (d6_33 hby) rfl ?_
  refine oIinc K2 37 (d6_34 hby) rfl (l' := #[.val (.ref t), .val (.int 5)]) rfl ?_
  refine oBaload K2 38 P0 4 (by decide) (by decide) rfl (d6_37 hby) ?_
  refine oSipushV K2 41 (255 : Int32) (d6_38 hby) (by decide) ?_
  refine oIand K2 42 (d6_41 hby) ?_
  refine oGetS K2 45 (wq hw 119) (OH.ext K2.old) (d6_42 hby) ?_
  intro T3 K4
  refine oIshl K4 46 (d6_45 hby) ?_
  refine oAloadN K4 47 (d6_46 hby) rfl rfl ?_
  refine oIloadN K4 48 (d6_47 hby) rfl ?_
  refine oBaload K4 49 P0 5 (by decide) (by decide) rfl (d6_48 hby) ?_
  refine oSipushV K4 52 (255 : Int32) (d6_49 hby) (by decide) ?_
  refine oIand K4 53 (d6_52 hby) ?_
  refine oGetS K4 56 (wq hw 120) (OL.ext K4.old) (d6_53 hby) ?_
  intro T5 K6
  refine oIshl K6 57 (d6_56 hby) ?_
  refine oIor K6 58 (d6_57 hby) ?_
  refine oI2c K6 59 (d6_58 hby) ?_
  refine Owe.stk [(.int c2)] ?_ (congrArg (fun z => [Value.int z]) (own_getc P1 P2))
  exact oRetI K6 [] (t := .char) hret (by simp) (narrow_rng P1 P2) (d6_59 hby) (by decide) (by decide) hlk (fun x hx => by cases hx) ⟨rfl, rfl⟩
theorem rmGet4_3 (G : Gl Z a0 z0 fm) (t : Addr) (c0 c1 c2 c3 : Int32) (h0 : Heap) (hZh : Ext Z.heap h0) (hsf : Own Z h0 []) (P0 : Ary Z h0 t .byte [(.int (byt (c0 >>> ((0 : Int32) &&& 31)))), (.int (byt (c0 >>> ((8 : Int32) &&& 31)))), (.int (byt (c1 >>> ((0 : Int32) &&& 31)))), (.int (byt (c1 >>> ((8 : Int32) &&& 31)))), (.int (byt (c2 >>> ((0 : Int32) &&& 31)))), (.int (byt (c2 >>> ((8 : Int32) &&& 31)))), (.int (byt (c3 >>> ((0 : Int32) &&& 31)))), (.int (byt (c3 >>> ((8 : Int32) &&& 31))))]) (P1 : ¬ c3 < (0 : Int32)) (P2 : ¬ (65535 : Int32) < c3) :
    Ctr l Z ELs yn124 jdk_52_method_5_code 2 (some .char) [] (rmk 0 0 0 0) #[(.ref t), (.int 3)] [] h0 (fun v h fs => (fs = [] ∧ v = some (.int c3))) := by
  obtain ⟨hw, hEL, wS, OS, hz0, OA, OH, OL, OF, rfm⟩ := id G
  refine Ctr.intro pn41 hEL hZh hsf ?_
  intro p e s m below meth c s₁ hby hml hret hnm hlk hh K0
  refine Owe.cast (ef123 m t ((3 : Int32))) ?_
  show Owe _ _ _ _ s₁ (mkF m 0 #[.val (.ref t), .val (.int 3)] [])
  refine oGetS K0 3 (wq hw 118) (OA.ext K0.old) (d6_0 hby) ?_
  intro T1 K2
  refine oIfYes K2 28 (d6_3 hby) (XT.i0_ne_t (by decide)) ?_
  refine oIloadN K2 29 (d6_28 hby) rfl ?_
  refine oIconstV K2 30 (1 : Int32) (d6_29 hby) rfl ?_
  refine oIshl K2 31 (d6_30 hby) ?_
  show Owe _ _ _ _ T1 (mkF m 31 #[.val (.ref t), .val (.int 3)] [(.int 6)])
  refine oIstoreN K2 32 (d6_31 hby) (l' := #[.val (.ref t), .val (.int 6)]) rfl ?_
  refine oAloadN K2 33 (d6_32 hby) rfl rfl ?_
  refine oIloadN K2 34 (d6_33 hby) rfl ?_
  refine oIinc K2 37 (d6_34 hby) rfl (l' := #[.val (.ref t), .val (.int 7)]) rfl ?_
  refine oBaload K2 38 P0 6 (by decide) (by decide) rfl (d6_37 hby) ?_
  refine oSipushV K2 41 (255 : Int32) (d6_38 hby) (by decide) ?_
  refine oIand K2 42 (d6_41 hby) ?_
  refine oGetS K2 45 (wq hw 119) (OH.ext K2.old) (d6_42 hby) ?_
  intro T3 K4
  refine oIshl K4 46 (d6_45 hby) ?_
  refine oAloadN K4 47 (d6_46 hby) rfl rfl ?_
  refine oIloadN K4 48 (d6_47 hby) rfl ?_
  refine oBaload K4 49 P0 7 (by decide) (by decide) rfl (d6_48 hby) ?_
  refine oSipushV K4 52 (255 : Int32) (d6_49 hby) (by decide) ?_
  refine oIand K4 53 (d6_52 hby) ?_
  refine oGetS K4 56 (wq hw 120) (OL.ext K4.old) (d6_53 hby) ?_
  intro T5 K6
  refine oIshl K6 57 (d6_56 hby) ?_
  refine oIor K6 58 (d6_57 hby) ?_
  refine oI2c K6 59 (d6_58 hby) ?_
  refine Owe.stk [(.int c3)] ?_ (congrArg (fun z => [Value.int z]) (own_getc P1 P2))
  exact oRetI K6 [] (t := .char) hret (by simp) (narrow_rng P1 P2) (d6_59 hby) (by decide) (by decide) hlk (fun x hx => by cases hx) ⟨rfl, rfl⟩
abbrev y7 := jdk_52_method_21_code
theorem d7_0 : DC y7 0 (.iconst 0) 1 := hb' (by decide +kernel)
theorem d7_1 : DC y7 1 (.istore 5) 2 := hb' (by decide +kernel)
theorem d7_3 : DC y7 3 (.iload 5) 2 := hb' (by decide +kernel)
theorem d7_5 : DC y7 5 (.iload 4) 2 := hb' (by decide +kernel)
theorem d7_7 : DC y7 7 (.if_icmp .ge 37) 3 := hb' (by decide +kernel)
theorem d7_10 : DC y7 10 (.aload_n 0) 1 := hb' (by decide +kernel)
theorem d7_11 : DC y7 11 (.iload_n 1) 1 := hb' (by decide +kernel)
theorem d7_12 : DC y7 12 (.caload) 1 := hb' (by decide +kernel)
theorem d7_13 : DC y7 13 (.istore 6) 2 := hb' (by decide +kernel)
theorem d7_15 : DC y7 15 (.iload 6) 2 := hb' (by decide +kernel)
theorem d7_17 : DC y7 17 (.sipush 255) 3 := hb' (by decide +kernel)
theorem d7_20 : DC y7 20 (.if_icmp .le 6) 3 := hb' (by decide +kernel)
theorem d7_23 : DC y7 23 (.iload 5) 2 := hb' (by decide +kernel)
theorem d7_25 : DC y7 25 (.ireturn) 1 := hb' (by decide +kernel)
theorem d7_26 : DC y7 26 (.aload_n 2) 1 := hb' (by decide +kernel)
theorem d7_27 : DC y7 27 (.iload_n 3) 1 := hb' (by decide +kernel)
theorem d7_28 : DC y7 28 (.iload 6) 2 := hb' (by decide +kernel)
theorem d7_30 : DC y7 30 (.i2b) 1 := hb' (by decide +kernel)
theorem d7_31 : DC y7 31 (.bastore) 1 := hb' (by decide +kernel)
theorem d7_32 : DC y7 32 (.iinc 1 1) 3 := hb' (by decide +kernel)
theorem d7_35 : DC y7 35 (.iinc 3 1) 3 := hb' (by decide +kernel)
theorem d7_38 : DC y7 38 (.iinc 5 1) 3 := hb' (by decide +kernel)
theorem d7_41 : DC y7 41 (.goto (-38)) 3 := hb' (by decide +kernel)
theorem d7_44 : DC y7 44 (.iload 4) 2 := hb' (by decide +kernel)
theorem d7_46 : DC y7 46 (.ireturn) 1 := hb' (by decide +kernel)
theorem ef151 (m : MethodId) (x0 : Addr) (x1 : Int32) (x2 : Addr) (x3 : Int32) (x4 : Int32) : entryFrame m #[(.ref x0), (.int x1), (.ref x2), (.int x3), (.int x4)] 7 = mkF m 0 #[.val (.ref x0), .val (.int x1), .val (.ref x2), .val (.int x3), .val (.int x4), .unset, .unset] [] := by first | (simp [entryFrame, mkF, argsToLocals, Value.category]; done) | rfl
abbrev yn152 : MethodName := ⟨"java/lang/StringUTF16", "compress", "([CI[BII)I"⟩
theorem rmCmp5_1 (G : Gl Z a0 z0 fm) (b va : Addr) (c0 : Int32) (h0 : Heap) (hZh : Ext Z.heap h0) (hsf : Own Z h0 [va]) (P0 : Ary Z h0 b .char [(.int c0)]) (P1 : Ary Z h0 va .byte [(.int 0)]) (P2 : b ≠ va) :
    Ctr l Z ELs yn152 jdk_52_method_21_code 7 (some .int) [] (rmk 0 0 0 0) #[(.ref b), (.int 0), (.ref va), (.int 0), (.int 1)] [va] h0 (fun v h fs => (fs = [] ∧ v = some (.int 1) ∧ Ary Z h va .byte [(.int (byt c0))] ∧ ¬ (255 : Int32) < c0) ∨ (fs = [] ∧ v = some (.int 0) ∧ (255 : Int32) < c0)) := by
  obtain ⟨hw, hEL, wS, OS, hz0, OA, OH, OL, OF, rfm⟩ := id G
  refine Ctr.intro pn41 hEL hZh hsf ?_
  intro p e s m below meth c s₁ hby hml hret hnm hlk hh K0
  refine Owe.cast (ef151 m b ((0 : Int32)) va ((0 : Int32)) ((1 : Int32))) ?_
  show Owe _ _ _ _ s₁ (mkF m 0 #[.val (.ref b), .val (.int 0), .val (.ref va), .val (.int 0), .val (.int 1), .unset, .unset] [])
  refine oIconstV K0 1 (0 : Int32) (d7_0 hby) rfl ?_
  refine oIstore K0 3 (d7_1 hby) (l' := #[.val (.ref b), .val (.int 0), .val (.ref va), .val (.int 0), .val (.int 1), .val (.int 0), .unset]) rfl ?_
  refine oIload K0 5 (d7_3 hby) rfl ?_
  refine oIload K0 7 (d7_5 hby) rfl ?_
  refine oIcmpNo K0 10 (d7_7 hby) (XT.ii_ge_f (by decide)) ?_
  refine oAloadN K0 11 (d7_10 hby) rfl rfl ?_
  refine oIloadN K0 12 (d7_11 hby) rfl ?_
  refine oCaload K0 13 P0 0 (by decide) (by decide) rfl (d7_12 hby) ?_
  refine oIstore K0 15 (d7_13 hby) (l' := #[.val (.ref b), .val (.int 0), .val (.ref va), .val (.int 0), .val (.int 1), .val (.int 0), .val (.int c0)]) rfl ?_
  refine oIload K0 17 (d7_15 hby) rfl ?_
  refine oSipushV K0 20 (255 : Int32) (d7_17 hby) (by decide) ?_
  by_cases hc1 : (255 : Int32) < c0
  · refine oIcmpNo K0 23 (d7_20 hby) (XT.ii_le_f hc1) ?_
    refine oIload K0 25 (d7_23 hby) rfl ?_
    exact oRetI K0 [] (t := .int) hret (by simp) rfl (d7_25 hby) (by decide) (by decide) hlk (fun x hx => by cases hx) (Or.inr ⟨rfl, rfl, hc1⟩)
  · refine oIcmpYes K0 26 (d7_20 hby) (XT.ii_le_t hc1) ?_
    refine oAloadN K0 27 (d7_26 hby) rfl rfl ?_
    refine oIloadN K0 28 (d7_27 hby) rfl ?_
    refine oIload K0 30 (d7_28 hby) rfl ?_
    refine oI2b K0 31 (d7_30 hby) ?_
    refine oBastore K0 32 (by simp) P1 0 (by decide) (by decide) nlt (nar_byt _) (d7_31 hby) ?_
    intro T6 h2 lo5 K7 W3 A4
    have A8 : Ary Z h2 va .byte [(.int (byt c0))] := A4
    refine oIinc K7 35 (d7_32 hby) rfl (l' := #[.val (.ref b), .val (.int 1), .val (.ref va), .val (.int 0), .val (.int 1), .val (.int 0), .val (.int c0)]) rfl ?_
    refine oIinc K7 38 (d7_35 hby) rfl (l' := #[.val (.ref b), .val (.int 1), .val (.ref va), .val (.int 1), .val (.int 1), .val (.int 0), .val (.int c0)]) rfl ?_
    refine oIinc K7 41 (d7_38 hby) rfl (l' := #[.val (.ref b), .val (.int 1), .val (.ref va), .val (.int 1), .val (.int 1), .val (.int 1), .val (.int c0)]) rfl ?_
    refine oGoto K7 3 (d7_41 hby) ?_
    refine oIload K7 5 (d7_3 hby) rfl ?_
    refine oIload K7 7 (d7_5 hby) rfl ?_
    refine oIcmpYes K7 44 (d7_7 hby) (XT.ii_ge_t (by decide)) ?_
    refine oIload K7 46 (d7_44 hby) rfl ?_
    exact oRetI K7 [] (t := .int) hret (by simp) rfl (d7_46 hby) (by decide) (by decide) hlk (fun x hx => by cases hx) (Or.inl ⟨rfl, rfl, A8, hc1⟩)
theorem rmCmp5_2 (G : Gl Z a0 z0 fm) (b va : Addr) (c0 c1 : Int32) (h0 : Heap) (hZh : Ext Z.heap h0) (hsf : Own Z h0 [va]) (P0 : Ary Z h0 b .char [(.int c0), (.int c1)]) (P1 : Ary Z h0 va .byte [(.int 0), (.int 0)]) (P2 : b ≠ va) :
    Ctr l Z ELs yn152 jdk_52_method_21_code 7 (some .int) [] (rmk 0 0 0 0) #[(.ref b), (.int 0), (.ref va), (.int 0), (.int 2)] [va] h0 (fun v h fs => (fs = [] ∧ v = some (.int 2) ∧ Ary Z h va .byte [(.int (byt c0)), (.int (byt c1))] ∧ ¬ (255 : Int32) < c0 ∧ ¬ (255 : Int32) < c1) ∨ (fs = [] ∧ v = some (.int 0) ∧ (255 : Int32) < c0) ∨ (fs = [] ∧ v = some (.int 1) ∧ (255 : Int32) < c1)) := by
  obtain ⟨hw, hEL, wS, OS, hz0, OA, OH, OL, OF, rfm⟩ := id G
  refine Ctr.intro pn41 hEL hZh hsf ?_
  intro p e s m below meth c s₁ hby hml hret hnm hlk hh K0
  refine Owe.cast (ef151 m b ((0 : Int32)) va ((0 : Int32)) ((2 : Int32))) ?_
  show Owe _ _ _ _ s₁ (mkF m 0 #[.val (.ref b), .val (.int 0), .val (.ref va), .val (.int 0), .val (.int 2), .unset, .unset] [])
  refine oIconstV K0 1 (0 : Int32) (d7_0 hby) rfl ?_
  refine oIstore K0 3 (d7_1 hby) (l' := #[.val (.ref b), .val (.int 0), .val (.ref va), .val (.int 0), .val (.int 2), .val (.int 0), .unset]) rfl ?_
  refine oIload K0 5 (d7_3 hby) rfl ?_
  refine oIload K0 7 (d7_5 hby) rfl ?_
  refine oIcmpNo K0 10 (d7_7 hby) (XT.ii_ge_f (by decide)) ?_
  refine oAloadN K0 11 (d7_10 hby) rfl rfl ?_
  refine oIloadN K0 12 (d7_11 hby) rfl ?_
  refine oCaload K0 13 P0 0 (by decide) (by decide) rfl (d7_12 hby) ?_
  refine oIstore K0 15 (d7_13 hby) (l' := #[.val (.ref b), .val (.int 0), .val (.ref va), .val (.int 0), .val (.int 2), .val (.int 0), .val (.int c0)]) rfl ?_
  refine oIload K0 17 (d7_15 hby) rfl ?_
  refine oSipushV K0 20 (255 : Int32) (d7_17 hby) (by decide) ?_
  by_cases hc1 : (255 : Int32) < c0
  · refine oIcmpNo K0 23 (d7_20 hby) (XT.ii_le_f hc1) ?_
    refine oIload K0 25 (d7_23 hby) rfl ?_
    exact oRetI K0 [] (t := .int) hret (by simp) rfl (d7_25 hby) (by decide) (by decide) hlk (fun x hx => by cases hx) (Or.inr (Or.inl ⟨rfl, rfl, hc1⟩))
  · refine oIcmpYes K0 26 (d7_20 hby) (XT.ii_le_t hc1) ?_
    refine oAloadN K0 27 (d7_26 hby) rfl rfl ?_
    refine oIloadN K0 28 (d7_27 hby) rfl ?_
    refine oIload K0 30 (d7_28 hby) rfl ?_
    refine oI2b K0 31 (d7_30 hby) ?_
    refine oBastore K0 32 (by simp) P1 0 (by decide) (by decide) nlt (nar_byt _) (d7_31 hby) ?_
    intro T6 h2 lo5 K7 W3 A4
    have A8 : Ary Z h2 va .byte [(.int (byt c0)), (.int 0)] := A4
    refine oIinc K7 35 (d7_32 hby) rfl (l' := #[.val (.ref b), .val (.int 1), .val (.ref va), .val (.int 0), .val (.int 2), .val (.int 0), .val (.int c0)]) rfl ?_
    refine oIinc K7 38 (d7_35 hby) rfl (l' := #[.val (.ref b), .val (.int 1), .val (.ref va), .val (.int 1), .val (.int 2), .val (.int 0), .val (.int c0)]) rfl ?_
    refine oIinc K7 41 (d7_38 hby) rfl (l' := #[.val (.ref b), .val (.int 1), .val (.ref va), .val (.int 1), .val (.int 2), .val (.int 1), .val (.int c0)]) rfl ?_
    refine oGoto K7 3 (d7_41 hby) ?_
    refine oIload K7 5 (d7_3 hby) rfl ?_
    refine oIload K7 7 (d7_5 hby) rfl ?_
    refine oIcmpNo K7 10 (d7_7 hby) (XT.ii_ge_f (by decide)) ?_
    refine oAloadN K7 11 (d7_10 hby) rfl rfl ?_
    refine oIloadN K7 12 (d7_11 hby) rfl ?_
    refine oCaload K7 13 (Ary.other P0 W3 P2) 1 (by decide) (by decide) rfl (d7_12 hby) ?_
    refine oIstore K7 15 (d7_13 hby) (l' := #[.val (.ref b), .val (.int 1), .val (.ref va), .val (.int 1), .val (.int 2), .val (.int 1), .val (.int c1)]) rfl ?_
    refine oIload K7 17 (d7_15 hby) rfl ?_
    refine oSipushV K7 20 (255 : Int32) (d7_17 hby) (by decide) ?_
    by_cases hc9 : (255 : Int32) < c1
    · refine oIcmpNo K7 23 (d7_20 hby) (XT.ii_le_f hc9) ?_
      refine oIload K7 25 (d7_23 hby) rfl ?_
      exact oRetI K7 [] (t := .int) hret (by simp) rfl (d7_25 hby) (by decide) (by decide) hlk (fun x hx => by cases hx) (Or.inr (Or.inr ⟨rfl, rfl, hc9⟩))
    · refine oIcmpYes K7 26 (d7_20 hby) (XT.ii_le_t hc9) ?_
      refine oAloadN K7 27 (d7_26 hby) rfl rfl ?_
      refine oIloadN K7 28 (d7_27 hby) rfl ?_
      refine oIload K7 30 (d7_28 hby) rfl ?_
      refine oI2b K7 31 (d7_30 hby) ?_
      refine oBastore K7 32 (by simp) A8 1 (by decide) (by decide) nlt (nar_byt _) (d7_31 hby) ?_
      intro T14 h10 lo13 K15 W11 A12
      have A16 : Ary Z h10 va .byte [(.int (byt c0)), (.int (byt c1))] := A12
      refine oIinc K15 35 (d7_32 hby) rfl (l' := #[.val (.ref b), .val (.int 2), .val (.ref va), .val (.int 1), .val (.int 2), .val (.int 1), .val (.int c1)]) rfl ?_
      refine oIinc K15 38 (d7_35 hby) rfl (l' := #[.val (.ref b), .val (.int 2), .val (.ref va), .val (.int 2), .val (.int 2), .val (.int 1), .val (.int c1)]) rfl ?_
      refine oIinc K15 41 (d7_38 hby) rfl (l' := #[.val (.ref b), .val (.int 2), .val (.ref va), .val (.int 2), .val (.int 2), .val (.int 2), .val (.int c1)]) rfl ?_
      refine oGoto K15 3 (d7_41 hby) ?_
      refine oIload K15 5 (d7_3 hby) rfl ?_
      refine oIload K15 7 (d7_5 hby) rfl ?_
      refine oIcmpYes K15 44 (d7_7 hby) (XT.ii_ge_t (by decide)) ?_
      refine oIload K15 46 (d7_44 hby) rfl ?_
      exact oRetI K15 [] (t := .int) hret (by simp) rfl (d7_46 hby) (by decide) (by decide) hlk (fun x hx => by cases hx) (Or.inl ⟨rfl, rfl, A16, hc1, hc9⟩)
theorem rmCmp5_3 (G : Gl Z a0 z0 fm) (b va : Addr) (c0 c1 c2 : Int32) (h0 : Heap) (hZh : Ext Z.heap h0) (hsf : Own Z h0 [va]) (P0 : Ary Z h0 b .char [(.int c0), (.int c1), (.int c2)]) (P1 : Ary Z h0 va .byte [(.int 0), (.int 0), (.int 0)]) (P2 : b ≠ va) :
    Ctr l Z ELs yn152 jdk_52_method_21_code 7 (some .int) [] (rmk 0 0 0 0) #[(.ref b), (.int 0), (.ref va), (.int 0), (.int 3)] [va] h0 (fun v h fs => (fs = [] ∧ v = some (.int 3) ∧ Ary Z h va .byte [(.int (byt c0)), (.int (byt c1)), (.int (byt c2))] ∧ ¬ (255 : Int32) < c0 ∧ ¬ (255 : Int32) < c1 ∧ ¬ (255 : Int32) < c2) ∨ (fs = [] ∧ v = some (.int 0) ∧ (255 : Int32) < c0) ∨ (fs = [] ∧ v = some (.int 1) ∧ (255 : Int32) < c1) ∨ (fs = [] ∧ v = some (.int 2) ∧ (255 : Int32) < c2)) := by
  obtain ⟨hw, hEL, wS, OS, hz0, OA, OH, OL, OF, rfm⟩ := id G
  refine Ctr.intro pn41 hEL hZh hsf ?_
  intro p e s m below meth c s₁ hby hml hret hnm hlk hh K0
  refine Owe.cast (ef151 m b ((0 : Int32)) va ((0 : Int32)) ((3 : Int32))) ?_
  show Owe _ _ _ _ s₁ (mkF m 0 #[.val (.ref b), .val (.int 0), .val (.ref va), .val (.int 0), .val (.int 3), .unset, .unset] [])
  refine oIconstV K0 1 (0 : Int32) (d7_0 hby) rfl ?_
  refine oIstore K0 3 (d7_1 hby) (l' := #[.val (.ref b), .val (.int 0), .val (.ref va), .val (.int 0), .val (.int 3), .val (.int 0), .unset]) rfl ?_
  refine oIload K0 5 (d7_3 hby) rfl ?_
  refine oIload K0 7 (d7_5 hby) rfl ?_
  refine oIcmpNo K0 10 (d7_7 hby) (XT.ii_ge_f (by decide)) ?_
  refine oAloadN K0 11 (d7_10 hby) rfl rfl ?_
  refine oIloadN K0 12 (d7_11 hby) rfl ?_
  refine oCaload K0 13 P0 0 (by decide) (by decide) rfl (d7_12 hby) ?_
  refine oIstore K0 15 (d7_13 hby) (l' := #[.val (.ref b), .val (.int 0), .val (.ref va), .val (.int 0), .val (.int 3), .val (.int 0), .val (.int c0)]) rfl ?_
  refine oIload K0 17 (d7_15 hby) rfl ?_
  refine oSipushV K0 20 (255 : Int32) (d7_17 hby) (by decide) ?_
  by_cases hc1 : (255 : Int32) < c0
  · refine oIcmpNo K0 23 (d7_20 hby) (XT.ii_le_f hc1) ?_
    refine oIload K0 25 (d7_23 hby) rfl ?_
    exact oRetI K0 [] (t := .int) hret (by simp) rfl (d7_25 hby) (by decide) (by decide) hlk (fun x hx => by cases hx) (Or.inr (Or.inl ⟨rfl, rfl, hc1⟩))
  · refine oIcmpYes K0 26 (d7_20 hby) (XT.ii_le_t hc1) ?_
    refine oAloadN K0 27 (d7_26 hby) rfl rfl ?_
    refine oIloadN K0 28 (d7_27 hby) rfl ?_
    refine oIload K0 30 (d7_28 hby) rfl ?_
    refine oI2b K0 31 (d7_30 hby) ?_
    refine oBastore K0 32 (by simp) P1 0 (by decide) (by decide) nlt (nar_byt _) (d7_31 hby) ?_
    intro T6 h2 lo5 K7 W3 A4
    have A8 : Ary Z h2 va .byte [(.int (byt c0)), (.int 0), (.int 0)] := A4
    refine oIinc K7 35 (d7_32 hby) rfl (l' := #[.val (.ref b), .val (.int 1), .val (.ref va), .val (.int 0), .val (.int 3), .val (.int 0), .val (.int c0)]) rfl ?_
    refine oIinc K7 38 (d7_35 hby) rfl (l' := #[.val (.ref b), .val (.int 1), .val (.ref va), .val (.int 1), .val (.int 3), .val (.int 0), .val (.int c0)]) rfl ?_
    refine oIinc K7 41 (d7_38 hby) rfl (l' := #[.val (.ref b), .val (.int 1), .val (.ref va), .val (.int 1), .val (.int 3), .val (.int 1), .val (.int c0)]) rfl ?_
    refine oGoto K7 3 (d7_41 hby) ?_
    refine oIload K7 5 (d7_3 hby) rfl ?_
    refine oIload K7 7 (d7_5 hby) rfl ?_
    refine oIcmpNo K7 10 (d7_7 hby) (XT.ii_ge_f (by decide)) ?_
    refine oAloadN K7 11 (d7_10 hby) rfl rfl ?_
    refine oIloadN K7 12 (d7_11 hby) rfl ?_
    refine oCaload K7 13 (Ary.other P0 W3 P2) 1 (by decide) (by decide) rfl (d7_12 hby) ?_
    refine oIstore K7 15 (d7_13 hby) (l' := #[.val (.ref b), .val (.int 1), .val (.ref va), .val (.int 1), .val (.int 3), .val (.int 1), .val (.int c1)]) rfl ?_
    refine oIload K7 17 (d7_15 hby) rfl ?_
    refine oSipushV K7 20 (255 : Int32) (d7_17 hby) (by decide) ?_
    by_cases hc9 : (255 : Int32) < c1
    · refine oIcmpNo K7 23 (d7_20 hby) (XT.ii_le_f hc9) ?_
      refine oIload K7 25 (d7_23 hby) rfl ?_
      exact oRetI K7 [] (t := .int) hret (by simp) rfl (d7_25 hby) (by decide) (by decide) hlk (fun x hx => by cases hx) (Or.inr (Or.inr (Or.inl ⟨rfl, rfl, hc9⟩)))
    · refine oIcmpYes K7 26 (d7_20 hby) (XT.ii_le_t hc9) ?_
      refine oAloadN K7 27 (d7_26 hby) rfl rfl ?_
      refine oIloadN K7 28 (d7_27 hby) rfl ?_
      refine oIload K7 30 (d7_28 hby) rfl ?_
      refine oI2b K7 31 (d7_30 hby) ?_
      refine oBastore K7 32 (by simp) A8 1 (by decide) (by decide) nlt (nar_byt _) (d7_31 hby) ?_
      intro T14 h10 lo13 K15 W11 A12
      have A16 : Ary Z h10 va .byte [(.int (byt c0)), (.int (byt c1)), (.int 0)] := A12
      refine oIinc K15 35 (d7_32 hby) rfl (l' := #[.val (.ref b), .val (.int 2), .val (.ref va), .val (.int 1), .val (.int 3), .val (.int 1), .val (.int c1)]) rfl ?_
      refine oIinc K15 38 (d7_35 hby) rfl (l' := #[.val (.ref b), .val (.int 2), .val (.ref va), .val (.int 2), .val (.int 3), .val (.int 1), .val (.int c1)]) rfl ?_
      refine oIinc K15 41 (d7_38 hby) rfl (l' := #[.val (.ref b), .val (.int 2), .val (.ref va), .val (.int 2), .val (.int 3), .val (.int 2), .val (.int c1)]) rfl ?_
      refine oGoto K15 3 (d7_41 hby) ?_
      refine oIload K15 5 (d7_3 hby) rfl ?_
      refine oIload K15 7 (d7_5 hby) rfl ?_
      refine oIcmpNo K15 10 (d7_7 hby) (XT.ii_ge_f (by decide)) ?_
      refine oAloadN K15 11 (d7_10 hby) rfl rfl ?_
      refine oIloadN K15 12 (d7_11 hby) rfl ?_
      refine oCaload K15 13 (Ary.other (Ary.other P0 W3 P2) W11 P2) 2 (by decide) (by decide) rfl (d7_12 hby) ?_
      refine oIstore K15 15 (d7_13 hby) (l' := #[.val (.ref b), .val (.int 2), .val (.ref va), .val (.int 2), .val (.int 3), .val (.int 2), .val (.int c2)]) rfl ?_
      refine oIload K15 17 (d7_15 hby) rfl ?_
      refine oSipushV K15 20 (255 : Int32) (d7_17 hby) (by decide) ?_
      by_cases hc17 : (255 : Int32) < c2
      · refine oIcmpNo K15 23 (d7_20 hby) (XT.ii_le_f hc17) ?_
        refine oIload K15 25 (d7_23 hby) rfl ?_
        exact oRetI K15 [] (t := .int) hret (by simp) rfl (d7_25 hby) (by decide) (by decide) hlk (fun x hx => by cases hx) (Or.inr (Or.inr (Or.inr ⟨rfl, rfl, hc17⟩)))
      · refine oIcmpYes K15 26 (d7_20 hby) (XT.ii_le_t hc17) ?_
        refine oAloadN K15 27 (d7_26 hby) rfl rfl ?_
        refine oIloadN K15 28 (d7_27 hby) rfl ?_
        refine oIload K15 30 (d7_28 hby) rfl ?_
        refine oI2b K15 31 (d7_30 hby) ?_
        refine oBastore K15 32 (by simp) A16 2 (by decide) (by decide) nlt (nar_byt _) (d7_31 hby) ?_
        intro T22 h18 lo21 K23 W19 A20
        have A24 : Ary Z h18 va .byte [(.int (byt c0)), (.int (byt c1)), (.int (byt c2))] := A20
        refine oIinc K23 35 (d7_32 hby) rfl (l' := #[.val (.ref b), .val (.int 3), .val (.ref va), .val (.int 2), .val (.int 3), .val (.int 2), .val (.int c2)]) rfl ?_
        refine oIinc K23 38 (d7_35 hby) rfl (l' := #[.val (.ref b), .val (.int 3), .val (.ref va), .val (.int 3), .val (.int 3), .val (.int 2), .val (.int c2)]) rfl ?_
        refine oIinc K23 41 (d7_38 hby) rfl (l' := #[.val (.ref b), .val (.int 3), .val (.ref va), .val (.int 3), .val (.int 3), .val (.int 3), .val (.int c2)]) rfl ?_
        refine oGoto K23 3 (d7_41 hby) ?_
        refine oIload K23 5 (d7_3 hby) rfl ?_
        refine oIload K23 7 (d7_5 hby) rfl ?_
        refine oIcmpYes K23 44 (d7_7 hby) (XT.ii_ge_t (by decide)) ?_
        refine oIload K23 46 (d7_44 hby) rfl ?_
        exact oRetI K23 [] (t := .int) hret (by simp) rfl (d7_46 hby) (by decide) (by decide) hlk (fun x hx => by cases hx) (Or.inl ⟨rfl, rfl, A24, hc1, hc9, hc17⟩)
theorem rmCmp5_4 (G : Gl Z a0 z0 fm) (b va : Addr) (c0 c1 c2 c3 : Int32) (h0 : Heap) (hZh : Ext Z.heap h0) (hsf : Own Z h0 [va]) (P0 : Ary Z h0 b .char [(.int c0), (.int c1), (.int c2), (.int c3)]) (P1 : Ary Z h0 va .byte [(.int 0), (.int 0), (.int 0), (.int 0)]) (P2 : b ≠ va) :
    Ctr l Z ELs yn152 jdk_52_method_21_code 7 (some .int) [] (rmk 0 0 0 0) #[(.ref b), (.int 0), (.ref va), (.int 0), (.int 4)] [va] h0 (fun v h fs => (fs = [] ∧ v = some (.int 4) ∧ Ary Z h va .byte [(.int (byt c0)), (.int (byt c1)), (.int (byt c2)), (.int (byt c3))] ∧ ¬ (255 : Int32) < c0 ∧ ¬ (255 : Int32) < c1 ∧ ¬ (255 : Int32) < c2 ∧ ¬ (255 : Int32) < c3) ∨ (fs = [] ∧ v = some (.int 0) ∧ (255 : Int32) < c0) ∨ (fs = [] ∧ v = some (.int 1) ∧ (255 : Int32) < c1) ∨ (fs = [] ∧ v = some (.int 2) ∧ (255 : Int32) < c2) ∨ (fs = [] ∧ v = some (.int 3) ∧ (255 : Int32) < c3)) := by
  obtain ⟨hw, hEL, wS, OS, hz0, OA, OH, OL, OF, rfm⟩ := id G
  refine Ctr.intro pn41 hEL hZh hsf ?_
  intro p e s m below meth c s₁ hby hml hret hnm hlk hh K0
  refine Owe.cast (ef151 m b ((0 : Int32)) va ((0 : Int32)) ((4 : Int32))) ?_
  show Owe _ _ _ _ s₁ (mkF m 0 #[.val (.ref b), .val (.int 0), .val (.ref va), .val (.int 0), .val (.int 4), .unset, .unset] [])
  refine oIconstV K0 1 (0 : Int32) (d7_0 hby) rfl ?_
  refine oIstore K0 3 (d7_1 hby) (l' := #[.val (.ref b), .val (.int 0), .val (.ref va), .val (.int 0), .val (.int 4), .val (.int 0), .unset]) rfl ?_
  refine oIload K0 5 (d7_3 hby) rfl ?_
  refine oIload K0 7 (d7_5 hby) rfl ?_
  refine oIcmpNo K0 10 (d7_7 hby) (XT.ii_ge_f (by decide)) ?_
  refine oAloadN K0 11 (d7_10 hby) rfl rfl ?_
  refine oIloadN K0 12 (d7_11 hby) rfl ?_
  refine oCaload K0 13 P0 0 (by decide) (by decide) rfl (d7_12 hby) ?_
  refine oIstore K0 15 (d7_13 hby) (l' := #[.val (.ref b), .val (.int 0), .val (.ref va), .val (.int 0), .val (.int 4), .val (.int 0), .val (.int c0)]) rfl ?_
  refine oIload K0 17 (d7_15 hby) rfl ?_
  refine oSipushV K0 20 (255 : Int32) (d7_17 hby) (by decide) ?_
  by_cases hc1 : (255 : Int32) < c0
  · refine oIcmpNo K0 23 (d7_20 hby) (XT.ii_le_f hc1) ?_
    refine oIload K0 25 (d7_23 hby) rfl ?_
    exact oRetI K0 [] (t := .int) hret (by simp) rfl (d7_25 hby) (by decide) (by decide) hlk (fun x hx => by cases hx) (Or.inr (Or.inl ⟨rfl, rfl, hc1⟩))
  · refine oIcmpYes K0 26 (d7_20 hby) (XT.ii_le_t hc1) ?_
    refine oAloadN K0 27 (d7_26 hby) rfl rfl ?_
    refine oIloadN K0 28 (d7_27 hby) rfl ?_
    refine oIload K0 30 (d7_28 hby) rfl ?_
    refine oI2b K0 31 (d7_30 hby) ?_
    refine oBastore K0 32 (by simp) P1 0 (by decide) (by decide) nlt (nar_byt _) (d7_31 hby) ?_
    intro T6 h2 lo5 K7 W3 A4
    have A8 : Ary Z h2 va .byte [(.int (byt c0)), (.int 0), (.int 0), (.int 0)] := A4
    refine oIinc K7 35 (d7_32 hby) rfl (l' := #[.val (.ref b), .val (.int 1), .val (.ref va), .val (.int 0), .val (.int 4), .val (.int 0), .val (.int c0)]) rfl ?_
    refine oIinc K7 38 (d7_35 hby) rfl (l' := #[.val (.ref b), .val (.int 1), .val (.ref va), .val (.int 1), .val (.int 4), .val (.int 0), .val (.int c0)]) rfl ?_
    refine oIinc K7 41 (d7_38 hby) rfl (l' := #[.val (.ref b), .val (.int 1), .val (.ref va), .val (.int 1), .val (.int 4), .val (.int 1), .val (.int c0)]) rfl ?_
    refine oGoto K7 3 (d7_41 hby) ?_
    refine oIload K7 5 (d7_3 hby) rfl ?_
    refine oIload K7 7 (d7_5 hby) rfl ?_
    refine oIcmpNo K7 10 (d7_7 hby) (XT.ii_ge_f (by decide)) ?_
    refine oAloadN K7 11 (d7_10 hby) rfl rfl ?_
    refine oIloadN K7 12 (d7_11 hby) rfl ?_
    refine oCaload K7 13 (Ary.other P0 W3 P2) 1 (by decide) (by decide) rfl (d7_12 hby) ?_
    refine oIstore K7 15 (d7_13 hby) (l' := #[.val (.ref b), .val (.int 1), .val (.ref va), .val (.int 1), .val (.int 4), .val (.int 1), .val (.int c1)]) rfl ?_
    refine oIload K7 17 (d7_15 hby) rfl ?_
    refine oSipushV K7 20 (255 : Int32) (d7_17 hby) (by decide) ?_
    by_cases hc9 : (255 : Int32) < c1
    · refine oIcmpNo K7 23 (d7_20 hby) (XT.ii_le_f hc9) ?_
      refine oIload K7 25 (d7_23 hby) rfl ?_
      exact oRetI K7 [] (t := .int) hret (by simp) rfl (d7_25 hby) (by decide) (by decide) hlk (fun x hx => by cases hx) (Or.inr (Or.inr (Or.inl ⟨rfl, rfl, hc9⟩)))
    · refine oIcmpYes K7 26 (d7_20 hby) (XT.ii_le_t hc9) ?_
      refine oAloadN K7 27 (d7_26 hby) rfl rfl ?_
      refine oIloadN K7 28 (d7_27 hby) rfl ?_
      refine oIload K7 30 (d7_28 hby) rfl ?_
      refine oI2b K7 31 (d7_30 hby) ?_
      refine oBastore K7 32 (by simp) A8 1 (by decide) (by decide) nlt (nar_byt _) (d7_31 hby) ?_
      intro T14 h10 lo13 K15 W11 A12
      have A16 : Ary Z h10 va .byte [(.int (byt c0)), (.int (byt c1)), (.int 0), (.int 0)] := A12
      refine oIinc K15 35 (d7_32 hby) rfl (l' := #[.val (.ref b), .val (.int 2), .val (.ref va), .val (.int 1), .val (.int 4), .val (.int 1), .val (.int c1)]) rfl ?_
      refine oIinc K15 38 (d7_35 hby) rfl (l' := #[.val (.ref b), .val (.int 2), .val (.ref va), .val (.int 2), .val (.int 4), .val (.int 1), .val (.int c1)]) rfl ?_
      refine oIinc K15 41 (d7_38 hby) rfl (l' := #[.val (.ref b), .val (.int 2), .val (.ref va), .val (.int 2), .val (.int 4), .val (.int 2), .val (.int c1)]) rfl ?_
      refine oGoto K15 3 (d7_41 hby) ?_
      refine oIload K15 5 (d7_3 hby) rfl ?_
      refine oIload K15 7 (d7_5 hby) rfl ?_
      refine oIcmpNo K15 10 (d7_7 hby) (XT.ii_ge_f (by decide)) ?_
      refine oAloadN K15 11 (d7_10 hby) rfl rfl ?_
      refine oIloadN K15 12 (d7_11 hby) rfl ?_
      refine oCaload K15 13 (Ary.other (Ary.other P0 W3 P2) W11 P2) 2 (by decide) (by decide) rfl (d7_12 hby) ?_
      refine oIstore K15 15 (d7_13 hby) (l' := #[.val (.ref b), .val (.int 2), .val (.ref va), .val (.int 2), .val (.int 4), .val (.int 2), .val (.int c2)]) rfl ?_
      refine oIload K15 17 (d7_15 hby) rfl ?_
      refine oSipushV K15 20 (255 : Int32) (d7_17 hby) (by decide) ?_
      by_cases hc17 : (255 : Int32) < c2
      · refine oIcmpNo K15 23 (d7_20 hby) (XT.ii_le_f hc17) ?_
        refine oIload K15 25 (d7_23 hby) rfl ?_
        exact oRetI K15 [] (t := .int) hret (by simp) rfl (d7_25 hby) (by decide) (by decide) hlk (fun x hx => by cases hx) (Or.inr (Or.inr (Or.inr (Or.inl ⟨rfl, rfl, hc17⟩))))
      · refine oIcmpYes K15 26 (d7_20 hby) (XT.ii_le_t hc17) ?_
        refine oAloadN K15 27 (d7_26 hby) rfl rfl ?_
        refine oIloadN K15 28 (d7_27 hby) rfl ?_
        refine oIload K15 30 (d7_28 hby) rfl ?_
        refine oI2b K15 31 (d7_30 hby) ?_
        refine oBastore K15 32 (by simp) A16 2 (by decide) (by decide) nlt (nar_byt _) (d7_31 hby) ?_
        intro T22 h18 lo21 K23 W19 A20
        have A24 : Ary Z h18 va .byte [(.int (byt c0)), (.int (byt c1)), (.int (byt c2)), (.int 0)] := A20
        refine oIinc K23 35 (d7_32 hby) rfl (l' := #[.val (.ref b), .val (.int 3), .val (.ref va), .val (.int 2), .val (.int 4), .val (.int 2), .val (.int c2)]) rfl ?_
        refine oIinc K23 38 (d7_35 hby) rfl (l' := #[.val (.ref b), .val (.int 3), .val (.ref va), .val (.int 3), .val (.int 4), .val (.int 2), .val (.int c2)]) rfl ?_
        refine oIinc K23 41 (d7_38 hby) rfl (l' := #[.val (.ref b), .val (.int 3), .val (.ref va), .val (.int 3), .val (.int 4), .val (.int 3), .val (.int c2)]) rfl ?_
        refine oGoto K23 3 (d7_41 hby) ?_
        refine oIload K23 5 (d7_3 hby) rfl ?_
        refine oIload K23 7 (d7_5 hby) rfl ?_
        refine oIcmpNo K23 10 (d7_7 hby) (XT.ii_ge_f (by decide)) ?_
        refine oAloadN K23 11 (d7_10 hby) rfl rfl ?_
        refine oIloadN K23 12 (d7_11 hby) rfl ?_
        refine oCaload K23 13 (Ary.other (Ary.other (Ary.other P0 W3 P2) W11 P2) W19 P2) 3 (by decide) (by decide) rfl (d7_12 hby) ?_
        refine oIstore K23 15 (d7_13 hby) (l' := #[.val (.ref b), .val (.int 3), .val (.ref va), .val (.int 3), .val (.int 4), .val (.int 3), .val (.int c3)]) rfl ?_
        refine oIload K23 17 (d7_15 hby) rfl ?_
        refine oSipushV K23 20 (255 : Int32) (d7_17 hby) (by decide) ?_
        by_cases hc25 : (255 : Int32) < c3
        · refine oIcmpNo K23 23 (d7_20 hby) (XT.ii_le_f hc25) ?_
          refine oIload K23 25 (d7_23 hby) rfl ?_
          exact oRetI K23 [] (t := .int) hret (by simp) rfl (d7_25 hby) (by decide) (by decide) hlk (fun x hx => by cases hx) (Or.inr (Or.inr (Or.inr (Or.inr ⟨rfl, rfl, hc25⟩))))
        · refine oIcmpYes K23 26 (d7_20 hby) (XT.ii_le_t hc25) ?_
          refine oAloadN K23 27 (d7_26 hby) rfl rfl ?_
          refine oIloadN K23 28 (d7_27 hby) rfl ?_
          refine oIload K23 30 (d7_28 hby) rfl ?_
          refine oI2b K23 31 (d7_30 hby) ?_
          refine oBastore K23 32 (by simp) A24 3 (by decide) (by decide) nlt (nar_byt _) (d7_31 hby) ?_
          intro T30 h26 lo29 K31 W27 A28
          have A32 : Ary Z h26 va .byte [(.int (byt c0)), (.int (byt c1)), (.int (byt c2)), (.int (byt c3))] := A28
          refine oIinc K31 35 (d7_32 hby) rfl (l' := #[.val (.ref b), .val (.int 4), .val (.ref va), .val (.int 3), .val (.int 4), .val (.int 3), .val (.int c3)]) rfl ?_
          refine oIinc K31 38 (d7_35 hby) rfl (l' := #[.val (.ref b), .val (.int 4), .val (.ref va), .val (.int 4), .val (.int 4), .val (.int 3), .val (.int c3)]) rfl ?_
          refine oIinc K31 41 (d7_38 hby) rfl (l' := #[.val (.ref b), .val (.int 4), .val (.ref va), .val (.int 4), .val (.int 4), .val (.int 4), .val (.int c3)]) rfl ?_
          refine oGoto K31 3 (d7_41 hby) ?_
          refine oIload K31 5 (d7_3 hby) rfl ?_
          refine oIload K31 7 (d7_5 hby) rfl ?_
          refine oIcmpYes K31 44 (d7_7 hby) (XT.ii_ge_t (by decide)) ?_
          refine oIload K31 46 (d7_44 hby) rfl ?_
          exact oRetI K31 [] (t := .int) hret (by simp) rfl (d7_46 hby) (by decide) (by decide) hlk (fun x hx => by cases hx) (Or.inl ⟨rfl, rfl, A32, hc1, hc9, hc17, hc25⟩)
abbrev y8 := jdk_52_method_16_code
theorem d8_0 : DC y8 0 (.iload_n 2) 1 := hb' (by decide +kernel)
theorem d8_1 : DC y8 1 (.newarray .byte) 2 := hb' (by decide +kernel)
theorem d8_3 : DC y8 3 (.astore_n 3) 1 := hb' (by decide +kernel)
theorem d8_4 : DC y8 4 (.aload_n 0) 1 := hb' (by decide +kernel)
theorem d8_5 : DC y8 5 (.iload_n 1) 1 := hb' (by decide +kernel)
theorem d8_6 : DC y8 6 (.aload_n 3) 1 := hb' (by decide +kernel)
theorem d8_7 : DC y8 7 (.iconst 0) 1 := hb' (by decide +kernel)
theorem d8_8 : DC y8 8 (.iload_n 2) 1 := hb' (by decide +kernel)
theorem d8_9 : DC y8 9 (.invokestatic 115) 3 := hb' (by decide +kernel)
theorem pd163 : parseMethodDescriptor "([CI[BII)I" = some ⟨[(.array .char), .int, (.array .byte), .int, .int], some .int⟩ := by decide +kernel
theorem d8_12 : DC y8 12 (.istore 4) 2 := hb' (by decide +kernel)
theorem d8_14 : DC y8 14 (.iload 4) 2 := hb' (by decide +kernel)
theorem d8_16 : DC y8 16 (.iload_n 2) 1 := hb' (by decide +kernel)
theorem d8_17 : DC y8 17 (.if_icmp .eq 40) 3 := hb' (by decide +kernel)
theorem d8_57 : DC y8 57 (.aload_n 3) 1 := hb' (by decide +kernel)
theorem d8_58 : DC y8 58 (.areturn) 1 := hb' (by decide +kernel)
theorem d8_20 : DC y8 20 (.aload_n 0) 1 := hb' (by decide +kernel)
theorem d8_21 : DC y8 21 (.iload_n 1) 1 := hb' (by decide +kernel)
theorem d8_22 : DC y8 22 (.iload_n 2) 1 := hb' (by decide +kernel)
theorem d8_23 : DC y8 23 (.invokestatic 119) 3 := hb' (by decide +kernel)
theorem pd174 : parseMethodDescriptor "([CII)[B" = some ⟨[(.array .char), .int, .int], some (.array .byte)⟩ := by decide +kernel
theorem d8_26 : DC y8 26 (.astore 5) 2 := hb' (by decide +kernel)
theorem d8_28 : DC y8 28 (.aload 5) 2 := hb' (by decide +kernel)
theorem d8_30 : DC y8 30 (.iload 4) 2 := hb' (by decide +kernel)
theorem d8_32 : DC y8 32 (.invokestatic 71) 3 := hb' (by decide +kernel)
theorem pd179 : parseMethodDescriptor "([BI)C" = some ⟨[(.array .byte), .int], some .char⟩ := by decide +kernel
theorem d8_35 : DC y8 35 (.sipush 255) 3 := hb' (by decide +kernel)
theorem d8_38 : DC y8 38 (.if_icmp .gt 16) 3 := hb' (by decide +kernel)
theorem d8_54 : DC y8 54 (.aload 5) 2 := hb' (by decide +kernel)
theorem d8_56 : DC y8 56 (.areturn) 1 := hb' (by decide +kernel)
theorem ef184 (m : MethodId) (x0 : Addr) (x1 : Int32) (x2 : Int32) : entryFrame m #[(.ref x0), (.int x1), (.int x2)] 6 = mkF m 0 #[.val (.ref x0), .val (.int x1), .val (.int x2), .unset, .unset, .unset] [] := by first | (simp [entryFrame, mkF, argsToLocals, Value.category]; done) | rfl
abbrev yn185 : MethodName := ⟨"java/lang/StringUTF16", "compress", "([CII)[B"⟩
theorem rmCmp3_1 (G : Gl Z a0 z0 fm) (b : Addr) (c0 : Int32) (h0 : Heap) (hZh : Ext Z.heap h0) (hsf : Own Z h0 []) (P0 : Ary Z h0 b .char [(.int c0)]) (P1 : ¬ c0 < (0 : Int32)) (P2 : ¬ (65535 : Int32) < c0) :
    Ctr l Z ELs yn185 jdk_52_method_16_code 6 (some (.array .byte)) [] (rmk 3 2 3 40) #[(.ref b), (.int 0), (.int 1)] [] h0 (fun v h fs => (∃ t : Addr, fs = [] ∧ v = some (.ref t) ∧ Ary Z h t .byte [(.int (byt c0))] ∧ h0.size ≤ t ∧ ¬ (255 : Int32) < c0) ∨ (∃ t : Addr, fs = [] ∧ v = some (.ref t) ∧ Ary Z h t .byte [(.int (byt (c0 >>> ((0 : Int32) &&& 31)))), (.int (byt (c0 >>> ((8 : Int32) &&& 31))))] ∧ h0.size ≤ t)) := by
  obtain ⟨hw, hEL, wS, OS, hz0, OA, OH, OL, OF, rfm⟩ := id G
  refine Ctr.intro pn41 hEL hZh hsf ?_
  intro p e s m below meth c s₁ hby hml hret hnm hlk hh K0
  refine Owe.cast (ef184 m b ((0 : Int32)) ((1 : Int32))) ?_
  show Owe _ _ _ _ s₁ (mkF m 0 #[.val (.ref b), .val (.int 0), .val (.int 1), .unset, .unset, .unset] [])
  refine oIloadN K0 1 (d8_0 hby) rfl ?_
  refine oNewP K0 3 (ty := .byte) 1 (wq hw 26) rfl (by decide) (by decide) (by decide) (d8_1 hby) (by decide) (by decide) ?_
  intro T6 h1 a2 g3 K7 E4 A5
  have K8 := K7.to 1 1 [a2]
  refine oAstoreN K8 4 (d8_3 hby) rfl (l' := #[.val (.ref b), .val (.int 0), .val (.int 1), .val (.ref a2), .unset, .unset]) rfl ?_
  refine oAloadN K8 5 (d8_4 hby) rfl rfl ?_
  refine oIloadN K8 6 (d8_5 hby) rfl ?_
  refine oAloadN K8 7 (d8_6 hby) rfl rfl ?_
  refine oIconstV K8 8 (0 : Int32) (d8_7 hby) rfl ?_
  refine oIloadN K8 9 (d8_8 hby) rfl ?_
  refine oStatic K8 12 0 (wq hw 55) (wq hw 56) (wq hw 53) (wq hw 57) (rmCmp5_1 l Z a0 z0 fm G b a2 c0 h1 K8.old K8.both (P0.ext E4) A5 (Nat.ne_of_lt (Nat.lt_of_lt_of_le P0.lt (Nat.le_of_eq g3)))) [(.ref b), (.int 0), (.ref a2), (.int 0), (.int 1)] [] (lenOf pd163 rfl) (d8_9 hby) ?_
  intro T9 h11 v12 lo13 fs14 K10 Kp15 q16
  rcases q16 with qq16_0 | qq16_1
  · obtain ⟨rfl, rfl, f17, f18⟩ := qq16_0
    have K19 := K10.to 1 1 [a2]
    refine Owe.stk [(.int 1)] ?_
    refine oIstore K19 14 (d8_12 hby) (l' := #[.val (.ref b), .val (.int 0), .val (.int 1), .val (.ref a2), .val (.int 1), .unset]) rfl ?_
    refine oIload K19 16 (d8_14 hby) rfl ?_
    refine oIloadN K19 17 (d8_16 hby) rfl ?_
    refine oIcmpYes K19 57 (d8_17 hby) (XT.ii_eq_t (by decide)) ?_
    refine oAloadN K19 58 (d8_57 hby) rfl rfl ?_
    exact oRetA K19 [] hret rfl rfl (d8_58 hby) (by decide) (by decide) hlk (fun x hx => by cases hx) (Or.inl ⟨a2, rfl, rfl, f17, (Nat.le_trans (Nat.le_refl _) (Nat.le_of_eq g3)), f18⟩)
  · obtain ⟨rfl, rfl, f20⟩ := qq16_1
    have K21 := K10.to 1 1 [a2]
    refine Owe.stk [(.int 0)] ?_
    refine oIstore K21 14 (d8_12 hby) (l' := #[.val (.ref b), .val (.int 0), .val (.int 1), .val (.ref a2), .val (.int 0), .unset]) rfl ?_
    refine oIload K21 16 (d8_14 hby) rfl ?_
    refine oIloadN K21 17 (d8_16 hby) rfl ?_
    refine oIcmpNo K21 20 (d8_17 hby) (XT.ii_eq_f (by decide)) ?_
    refine oAloadN K21 21 (d8_20 hby) rfl rfl ?_
    refine oIloadN K21 22 (d8_21 hby) rfl ?_
    refine oIloadN K21 23 (d8_22 hby) rfl ?_
    refine oStatic K21 26 0 (wq hw 105) (wq hw 106) (wq hw 53) (wq hw 107) (rmToB1 l Z a0 z0 fm G b c0 h11 K21.old K21.both ((P0.ext E4).keep Kp15 (ninS (Nat.ne_of_lt (Nat.lt_of_lt_of_le P0.lt (Nat.le_of_eq g3))) nin0))) [(.ref b), (.int 0), (.int 1)] [] (lenOf pd174 rfl) (d8_23 hby) ?_
    intro T22 h24 v25 lo26 fs27 K23 Kp28 q29
    obtain ⟨t30, rfl, rfl, f31, f32⟩ := q29
    have K33 := K23.to 2 3 [a2]
    refine Owe.stk [(.ref t30)] ?_
    refine oAstore K33 28 (d8_26 hby) rfl (l' := #[.val (.ref b), .val (.int 0), .val (.int 1), .val (.ref a2), .val (.int 0), .val (.ref t30)]) rfl ?_
    refine oAload K33 30 (d8_28 hby) rfl rfl ?_
    refine oIload K33 32 (d8_30 hby) rfl ?_
    refine oStatic K33 35 0 (wq hw 121) (wq hw 122) (wq hw 53) (wq hw 123) (rmGet1_0 l Z a0 z0 fm G t30 c0 h24 K33.old K33.both f31 P1 P2) [(.ref t30), (.int 0)] [] (lenOf pd179 rfl) (d8_32 hby) ?_
    intro T34 h36 v37 lo38 fs39 K35 Kp40 q41
    obtain ⟨rfl, rfl⟩ := q41
    have K42 := K35.to 2 3 [a2]
    refine Owe.stk [(.int c0)] ?_
    refine oSipushV K42 38 (255 : Int32) (d8_35 hby) (by decide) ?_
    refine oIcmpYes K42 54 (d8_38 hby) (XT.ii_gt_t f20) ?_
    refine oAload K42 56 (d8_54 hby) rfl rfl ?_
    exact oRetA K42 [] hret rfl rfl (d8_56 hby) (by decide) (by decide) hlk (fun x hx => by cases hx) (Or.inr ⟨t30, rfl, rfl, (f31.keep Kp40 nin0), (Nat.le_trans (Nat.le_trans E4.1 Kp15.1) f32)⟩)
theorem rmCmp3_2 (G : Gl Z a0 z0 fm) (b : Addr) (c0 c1 : Int32) (h0 : Heap) (hZh : Ext Z.heap h0) (hsf : Own Z h0 []) (P0 : Ary Z h0 b .char [(.int c0), (.int c1)]) (P1 : ¬ c0 < (0 : Int32)) (P2 : ¬ (65535 : Int32) < c0) (P3 : ¬ c1 < (0 : Int32)) (P4 : ¬ (65535 : Int32) < c1) :
    Ctr l Z ELs yn185 jdk_52_method_16_code 6 (some (.array .byte)) [] (rmk 3 2 6 40) #[(.ref b), (.int 0), (.int 2)] [] h0 (fun v h fs => (∃ t : Addr, fs = [] ∧ v = some (.ref t) ∧ Ary Z h t .byte [(.int (byt c0)), (.int (byt c1))] ∧ h0.size ≤ t ∧ ¬ (255 : Int32) < c0 ∧ ¬ (255 : Int32) < c1) ∨ (∃ t : Addr, fs = [] ∧ v = some (.ref t) ∧ Ary Z h t .byte [(.int (byt (c0 >>> ((0 : Int32) &&& 31)))), (.int (byt (c0 >>> ((8 : Int32) &&& 31)))), (.int (byt (c1 >>> ((0 : Int32) &&& 31)))), (.int (byt (c1 >>> ((8 : Int32) &&& 31))))] ∧ h0.size ≤ t)) := by
  obtain ⟨hw, hEL, wS, OS, hz0, OA, OH, OL, OF, rfm⟩ := id G
  refine Ctr.intro pn41 hEL hZh hsf ?_
  intro p e s m below meth c s₁ hby hml hret hnm hlk hh K0
  refine Owe.cast (ef184 m b ((0 : Int32)) ((2 : Int32))) ?_
  show Owe _ _ _ _ s₁ (mkF m 0 #[.val (.ref b), .val (.int 0), .val (.int 2), .unset, .unset, .unset] [])
  refine oIloadN K0 1 (d8_0 hby) rfl ?_
  refine oNewP K0 3 (ty := .byte) 2 (wq hw 26) rfl (by decide) (by decide) (by decide) (d8_1 hby) (by decide) (by decide) ?_
  intro T6 h1 a2 g3 K7 E4 A5
  have K8 := K7.to 1 2 [a2]
  refine oAstoreN K8 4 (d8_3 hby) rfl (l' := #[.val (.ref b), .val (.int 0), .val (.int 2), .val (.ref a2), .unset, .unset]) rfl ?_
  refine oAloadN K8 5 (d8_4 hby) rfl rfl ?_
  refine oIloadN K8 6 (d8_5 hby) rfl ?_
  refine oAloadN K8 7 (d8_6 hby) rfl rfl ?_
  refine oIconstV K8 8 (0 : Int32) (d8_7 hby) rfl ?_
  refine oIloadN K8 9 (d8_8 hby) rfl ?_
  refine oStatic K8 12 0 (wq hw 55) (wq hw 56) (wq hw 53) (wq hw 57) (rmCmp5_2 l Z a0 z0 fm G b a2 c0 c1 h1 K8.old K8.both (P0.ext E4) A5 (Nat.ne_of_lt (Nat.lt_of_lt_of_le P0.lt (Nat.le_of_eq g3)))) [(.ref b), (.int 0), (.ref a2), (.int 0), (.int 2)] [] (lenOf pd163 rfl) (d8_9 hby) ?_
  intro T9 h11 v12 lo13 fs14 K10 Kp15 q16
  rcases q16 with qq16_0 | qq16_1 | qq16_2
  · obtain ⟨rfl, rfl, f17, f18, f19⟩ := qq16_0
    have K20 := K10.to 1 2 [a2]
    refine Owe.stk [(.int 2)] ?_
    refine oIstore K20 14 (d8_12 hby) (l' := #[.val (.ref b), .val (.int 0), .val (.int 2), .val (.ref a2), .val (.int 2), .unset]) rfl ?_
    refine oIload K20 16 (d8_14 hby) rfl ?_
    refine oIloadN K20 17 (d8_16 hby) rfl ?_
    refine oIcmpYes K20 57 (d8_17 hby) (XT.ii_eq_t (by decide)) ?_
    refine oAloadN K20 58 (d8_57 hby) rfl rfl ?_
    exact oRetA K20 [] hret rfl rfl (d8_58 hby) (by decide) (by decide) hlk (fun x hx => by cases hx) (Or.inl ⟨a2, rfl, rfl, f17, (Nat.le_trans (Nat.le_refl _) (Nat.le_of_eq g3)), f18, f19⟩)
  · obtain ⟨rfl, rfl, f21⟩ := qq16_1
    have K22 := K10.to 1 2 [a2]
    refine Owe.stk [(.int 0)] ?_
    refine oIstore K22 14 (d8_12 hby) (l' := #[.val (.ref b), .val (.int 0), .val (.int 2), .val (.ref a2), .val (.int 0), .unset]) rfl ?_
    refine oIload K22 16 (d8_14 hby) rfl ?_
    refine oIloadN K22 17 (d8_16 hby) rfl ?_
    refine oIcmpNo K22 20 (d8_17 hby) (XT.ii_eq_f (by decide)) ?_
    refine oAloadN K22 21 (d8_20 hby) rfl rfl ?_
    refine oIloadN K22 22 (d8_21 hby) rfl ?_
    refine oIloadN K22 23 (d8_22 hby) rfl ?_
    refine oStatic K22 26 0 (wq hw 105) (wq hw 106) (wq hw 53) (wq hw 107) (rmToB2 l Z a0 z0 fm G b c0 c1 h11 K22.old K22.both ((P0.ext E4).keep Kp15 (ninS (Nat.ne_of_lt (Nat.lt_of_lt_of_le P0.lt (Nat.le_of_eq g3))) nin0))) [(.ref b), (.int 0), (.int 2)] [] (lenOf pd174 rfl) (d8_23 hby) ?_
    intro T23 h25 v26 lo27 fs28 K24 Kp29 q30
    obtain ⟨t31, rfl, rfl, f32, f33⟩ := q30
    have K34 := K24.to 2 6 [a2]
    refine Owe.stk [(.ref t31)] ?_
    refine oAstore K34 28 (d8_26 hby) rfl (l' := #[.val (.ref b), .val (.int 0), .val (.int 2), .val (.ref a2), .val (.int 0), .val (.ref t31)]) rfl ?_
    refine oAload K34 30 (d8_28 hby) rfl rfl ?_
    refine oIload K34 32 (d8_30 hby) rfl ?_
    refine oStatic K34 35 0 (wq hw 121) (wq hw 122) (wq hw 53) (wq hw 123) (rmGet2_0 l Z a0 z0 fm G t31 c0 c1 h25 K34.old K34.both f32 P1 P2) [(.ref t31), (.int 0)] [] (lenOf pd179 rfl) (d8_32 hby) ?_
    intro T35 h37 v38 lo39 fs40 K36 Kp41 q42
    obtain ⟨rfl, rfl⟩ := q42
    have K43 := K36.to 2 6 [a2]
    refine Owe.stk [(.int c0)] ?_
    refine oSipushV K43 38 (255 : Int32) (d8_35 hby) (by decide) ?_
    refine oIcmpYes K43 54 (d8_38 hby) (XT.ii_gt_t f21) ?_
    refine oAload K43 56 (d8_54 hby) rfl rfl ?_
    exact oRetA K43 [] hret rfl rfl (d8_56 hby) (by decide) (by decide) hlk (fun x hx => by cases hx) (Or.inr ⟨t31, rfl, rfl, (f32.keep Kp41 nin0), (Nat.le_trans (Nat.le_trans E4.1 Kp15.1) f33)⟩)
  · obtain ⟨rfl, rfl, f44⟩ := qq16_2
    have K45 := K10.to 1 2 [a2]
    refine Owe.stk [(.int 1)] ?_
    refine oIstore K45 14 (d8_12 hby) (l' := #[.val (.ref b), .val (.int 0), .val (.int 2), .val (.ref a2), .val (.int 1), .unset]) rfl ?_
    refine oIload K45 16 (d8_14 hby) rfl ?_
    refine oIloadN K45 17 (d8_16 hby) rfl ?_
    refine oIcmpNo K45 20 (d8_17 hby) (XT.ii_eq_f (by decide)) ?_
    refine oAloadN K45 21 (d8_20 hby) rfl rfl ?_
    refine oIloadN K45 22 (d8_21 hby) rfl ?_
    refine oIloadN K45 23 (d8_22 hby) rfl ?_
    refine oStatic K45 26 0 (wq hw 105) (wq hw 106) (wq hw 53) (wq hw 107) (rmToB2 l Z a0 z0 fm G b c0 c1 h11 K45.old K45.both ((P0.ext E4).keep Kp15 (ninS (Nat.ne_of_lt (Nat.lt_of_lt_of_le P0.lt (Nat.le_of_eq g3))) nin0))) [(.ref b), (.int 0), (.int 2)] [] (lenOf pd174 rfl) (d8_23 hby) ?_
    intro T46 h48 v49 lo50 fs51 K47 Kp52 q53
    obtain ⟨t54, rfl, rfl, f55, f56⟩ := q53
    have K57 := K47.to 2 6 [a2]
    refine Owe.stk [(.ref t54)] ?_
    refine oAstore K57 28 (d8_26 hby) rfl (l' := #[.val (.ref b), .val (.int 0), .val (.int 2), .val (.ref a2), .val (.int 1), .val (.ref t54)]) rfl ?_
    refine oAload K57 30 (d8_28 hby) rfl rfl ?_
    refine oIload K57 32 (d8_30 hby) rfl ?_
    refine oStatic K57 35 0 (wq hw 121) (wq hw 122) (wq hw 53) (wq hw 123) (rmGet2_1 l Z a0 z0 fm G t54 c0 c1 h48 K57.old K57.both f55 P3 P4) [(.ref t54), (.int 1)] [] (lenOf pd179 rfl) (d8_32 hby) ?_
    intro T58 h60 v61 lo62 fs63 K59 Kp64 q65
    obtain ⟨rfl, rfl⟩ := q65
    have K66 := K59.to 2 6 [a2]
    refine Owe.stk [(.int c1)] ?_
    refine oSipushV K66 38 (255 : Int32) (d8_35 hby) (by decide) ?_
    refine oIcmpYes K66 54 (d8_38 hby) (XT.ii_gt_t f44) ?_
    refine oAload K66 56 (d8_54 hby) rfl rfl ?_
    exact oRetA K66 [] hret rfl rfl (d8_56 hby) (by decide) (by decide) hlk (fun x hx => by cases hx) (Or.inr ⟨t54, rfl, rfl, (f55.keep Kp64 nin0), (Nat.le_trans (Nat.le_trans E4.1 Kp15.1) f56)⟩)
theorem rmCmp3_3 (G : Gl Z a0 z0 fm) (b : Addr) (c0 c1 c2 : Int32) (h0 : Heap) (hZh : Ext Z.heap h0) (hsf : Own Z h0 []) (P0 : Ary Z h0 b .char [(.int c0), (.int c1), (.int c2)]) (P1 : ¬ c0 < (0 : Int32)) (P2 : ¬ (65535 : Int32) < c0) (P3 : ¬ c1 < (0 : Int32)) (P4 : ¬ (65535 : Int32) < c1) (P5 : ¬ c2 < (0 : Int32)) (P6 : ¬ (65535 : Int32) < c2) :
    Ctr l Z ELs yn185 jdk_52_method_16_code 6 (some (.array .byte)) [] (rmk 3 2 9 40) #[(.ref b), (.int 0), (.int 3)] [] h0 (fun v h fs => (∃ t : Addr, fs = [] ∧ v = some (.ref t) ∧ Ary Z h t .byte [(.int (byt c0)), (.int (byt c1)), (.int (byt c2))] ∧ h0.size ≤ t ∧ ¬ (255 : Int32) < c0 ∧ ¬ (255 : Int32) < c1 ∧ ¬ (255 : Int32) < c2) ∨ (∃ t : Addr, fs = [] ∧ v = some (.ref t) ∧ Ary Z h t .byte [(.int (byt (c0 >>> ((0 : Int32) &&& 31)))), (.int (byt (c0 >>> ((8 : Int32) &&& 31)))), (.int (byt (c1 >>> ((0 : Int32) &&& 31)))), (.int (byt (c1 >>> ((8 : Int32) &&& 31)))), (.int (byt (c2 >>> ((0 : Int32) &&& 31)))), (.int (byt (c2 >>> ((8 : Int32) &&& 31))))] ∧ h0.size ≤ t)) := by
  obtain ⟨hw, hEL, wS, OS, hz0, OA, OH, OL, OF, rfm⟩ := id G
  refine Ctr.intro pn41 hEL hZh hsf ?_
  intro p e s m below meth c s₁ hby hml hret hnm hlk hh K0
  refine Owe.cast (ef184 m b ((0 : Int32)) ((3 : Int32))) ?_
  show Owe _ _ _ _ s₁ (mkF m 0 #[.val (.ref b), .val (.int 0), .val (.int 3), .unset, .unset, .unset] [])
  refine oIloadN K0 1 (d8_0 hby) rfl ?_
  refine oNewP K0 3 (ty := .byte) 3 (wq hw 26) rfl (by decide) (by decide) (by decide) (d8_1 hby) (by decide) (by decide) ?_
  intro T6 h1 a2 g3 K7 E4 A5
  have K8 := K7.to 1 3 [a2]
  refine oAstoreN K8 4 (d8_3 hby) rfl (l' := #[.val (.ref b), .val (.int 0), .val (.int 3), .val (.ref a2), .unset, .unset]) rfl ?_
  refine oAloadN K8 5 (d8_4 hby) rfl rfl ?_
  refine oIloadN K8 6 (d8_5 hby) rfl ?_
  refine oAloadN K8 7 (d8_6 hby) rfl rfl ?_
  refine oIconstV K8 8 (0 : Int32) (d8_7 hby) rfl ?_
  refine oIloadN K8 9 (d8_8 hby) rfl ?_
  refine oStatic K8 12 0 (wq hw 55) (wq hw 56) (wq hw 53) (wq hw 57) (rmCmp5_3 l Z a0 z0 fm G b a2 c0 c1 c2 h1 K8.old K8.both (P0.ext E4) A5 (Nat.ne_of_lt (Nat.lt_of_lt_of_le P0.lt (Nat.le_of_eq g3)))) [(.ref b), (.int 0), (.ref a2), (.int 0), (.int 3)] [] (lenOf pd163 rfl) (d8_9 hby) ?_
  intro T9 h11 v12 lo13 fs14 K10 Kp15 q16
  rcases q16 with qq16_0 | qq16_1 | qq16_2 | qq16_3
  · obtain ⟨rfl, rfl, f17, f18, f19, f20⟩ := qq16_0
    have K21 := K10.to 1 3 [a2]
    refine Owe.stk [(.int 3)] ?_
    refine oIstore K21 14 (d8_12 hby) (l' := #[.val (.ref b), .val (.int 0), .val (.int 3), .val (.ref a2), .val (.int 3), .unset]) rfl ?_
    refine oIload K21 16 (d8_14 hby) rfl ?_
    refine oIloadN K21 17 (d8_16 hby) rfl ?_
    refine oIcmpYes K21 57 (d8_17 hby) (XT.ii_eq_t (by decide)) ?_
    refine oAloadN K21 58 (d8_57 hby) rfl rfl ?_
    exact oRetA K21 [] hret rfl rfl (d8_58 hby) (by decide) (by decide) hlk (fun x hx => by cases hx) (Or.inl ⟨a2, rfl, rfl, f17, (Nat.le_trans (Nat.le_refl _) (Nat.le_of_eq g3)), f18, f19, f20⟩)
  · obtain ⟨rfl, rfl, f22⟩ := qq16_1
    have K23 := K10.to 1 3 [a2]
    refine Owe.stk [(.int 0)] ?_
    refine oIstore K23 14 (d8_12 hby) (l' := #[.val (.ref b), .val (.int 0), .val (.int 3), .val (.ref a2), .val (.int 0), .unset]) rfl ?_
    refine oIload K23 16 (d8_14 hby) rfl ?_
    refine oIloadN K23 17 (d8_16 hby) rfl ?_
    refine oIcmpNo K23 20 (d8_17 hby) (XT.ii_eq_f (by decide)) ?_
    refine oAloadN K23 21 (d8_20 hby) rfl rfl ?_
    refine oIloadN K23 22 (d8_21 hby) rfl ?_
    refine oIloadN K23 23 (d8_22 hby) rfl ?_
    refine oStatic K23 26 0 (wq hw 105) (wq hw 106) (wq hw 53) (wq hw 107) (rmToB3 l Z a0 z0 fm G b c0 c1 c2 h11 K23.old K23.both ((P0.ext E4).keep Kp15 (ninS (Nat.ne_of_lt (Nat.lt_of_lt_of_le P0.lt (Nat.le_of_eq g3))) nin0))) [(.ref b), (.int 0), (.int 3)] [] (lenOf pd174 rfl) (d8_23 hby) ?_
    intro T24 h26 v27 lo28 fs29 K25 Kp30 q31
    obtain ⟨t32, rfl, rfl, f33, f34⟩ := q31
    have K35 := K25.to 2 9 [a2]
    refine Owe.stk [(.ref t32)] ?_
    refine oAstore K35 28 (d8_26 hby) rfl (l' := #[.val (.ref b), .val (.int 0), .val (.int 3), .val (.ref a2), .val (.int 0), .val (.ref t32)]) rfl ?_
    refine oAload K35 30 (d8_28 hby) rfl rfl ?_
    refine oIload K35 32 (d8_30 hby) rfl ?_
    refine oStatic K35 35 0 (wq hw 121) (wq hw 122) (wq hw 53) (wq hw 123) (rmGet3_0 l Z a0 z0 fm G t32 c0 c1 c2 h26 K35.old K35.both f33 P1 P2) [(.ref t32), (.int 0)] [] (lenOf pd179 rfl) (d8_32 hby) ?_
    intro T36 h38 v39 lo40 fs41 K37 Kp42 q43
    obtain ⟨rfl, rfl⟩ := q43
    have K44 := K37.to 2 9 [a2]
    refine Owe.stk [(.int c0)] ?_
    refine oSipushV K44 38 (255 : Int32) (d8_35 hby) (by decide) ?_
    refine oIcmpYes K44 54 (d8_38 hby) (XT.ii_gt_t f22) ?_
    refine oAload K44 56 (d8_54 hby) rfl rfl ?_
    exact oRetA K44 [] hret rfl rfl (d8_56 hby) (by decide) (by decide) hlk (fun x hx => by cases hx) (Or.inr ⟨t32, rfl, rfl, (f33.keep Kp42 nin0), (Nat.le_trans (Nat.le_trans E4.1 Kp15.1) f34)⟩)
  · obtain ⟨rfl, rfl, f45⟩ := qq16_2
    have K46 := K10.to 1 3 [a2]
    refine Owe.stk [(.int 1)] ?_
    refine oIstore K46 14 (d8_12 hby) (l' := #[.val (.ref b), .val (.int 0), .val (.int 3), .val (.ref a2), .val (.int 1), .unset]) rfl ?_
    refine oIload K46 16 (d8_14 hby) rfl ?_
    refine oIloadN K46 17 (d8_16 hby) rfl ?_
    refine oIcmpNo K46 20 (d8_17 hby) (XT.ii_eq_f (by decide)) ?_
    refine oAloadN K46 21 (d8_20 hby) rfl rfl ?_
    refine oIloadN K46 22 (d8_21 hby) rfl ?_
    refine oIloadN K46 23 (d8_22 hby) rfl ?_
    refine oStatic K46 26 0 (wq hw 105) (wq hw 106) (wq hw 53) (wq hw 107) (rmToB3 l Z a0 z0 fm G b c0 c1 c2 h11 K46.old K46.both ((P0.ext E4).keep Kp15 (ninS (Nat.ne_of_lt (Nat.lt_of_lt_of_le P0.lt (Nat.le_of_eq g3))) nin0))) [(.ref b), (.int 0), (.int 3)] [] (lenOf pd174 rfl) (d8_23 hby) ?_
    intro T47 h49 v50 lo51 fs52 K48 Kp53 q54
    obtain ⟨t55, rfl, rfl, f56, f57⟩ := q54
    have K58 := K48.to 2 9 [a2]
    refine Owe.stk [(.ref t55)] ?_
    refine oAstore K58 28 (d8_26 hby) rfl (l' := #[.val (.ref b), .val (.int 0), .val (.int 3), .val (.ref a2), .val (.int 1), .val (.ref t55)]) rfl ?_
    refine oAload K58 30 (d8_28 hby) rfl rfl ?_
    refine oIload K58 32 (d8_30 hby) rfl ?_
    refine oStatic K58 35 0 (wq hw 121) (wq hw 122) (wq hw 53) (wq hw 123) (rmGet3_1 l Z a0 z0 fm G t55 c0 c1 c2 h49 K58.old K58.both f56 P3 P4) [(.ref t55), (.int 1)] [] (lenOf pd179 rfl) (d8_32 hby) ?_
    intro T59 h61 v62 lo63 fs64 K60 Kp65 q66
    obtain ⟨rfl, rfl⟩ := q66
    have K67 := K60.to 2 9 [a2]
    refine Owe.stk [(.int c1)] ?_
    refine oSipushV K67 38 (255 : Int32) (d8_35 hby) (by decide) ?_
    refine oIcmpYes K67 54 (d8_38 hby) (XT.ii_gt_t f45) ?_
    refine oAload K67 56 (d8_54 hby) rfl rfl ?_
    exact oRetA K67 [] hret rfl rfl (d8_56 hby) (by decide) (by decide) hlk (fun x hx => by cases hx) (Or.inr ⟨t55, rfl, rfl, (f56.keep Kp65 nin0), (Nat.le_trans (Nat.le_trans E4.1 Kp15.1) f57)⟩)
  · obtain ⟨rfl, rfl, f68⟩ := qq16_3
    have K69 := K10.to 1 3 [a2]
    refine Owe.stk [(.int 2)] ?_
    refine oIstore K69 14 (d8_12 hby) (l' := #[.val (.ref b), .val (.int 0), .val (.int 3), .val (.ref a2), .val (.int 2), .unset]) rfl ?_
    refine oIload K69 16 (d8_14 hby) rfl ?_
    refine oIloadN K69 17 (d8_16 hby) rfl ?_
    refine oIcmpNo K69 20 (d8_17 hby) (XT.ii_eq_f (by decide)) ?_
    refine oAloadN K69 21 (d8_20 hby) rfl rfl ?_
    refine oIloadN K69 22 (d8_21 hby) rfl ?_
    refine oIloadN K69 23 (d8_22 hby) rfl ?_
    refine oStatic K69 26 0 (wq hw 105) (wq hw 106) (wq hw 53) (wq hw 107) (rmToB3 l Z a0 z0 fm G b c0 c1 c2 h11 K69.old K69.both ((P0.ext E4).keep Kp15 (ninS (Nat.ne_of_lt (Nat.lt_of_lt_of_le P0.lt (Nat.le_of_eq g3))) nin0))) [(.ref b), (.int 0), (.int 3)] [] (lenOf pd174 rfl) (d8_23 hby) ?_
    intro T70 h72 v73 lo74 fs75 K71 Kp76 q77
    obtain ⟨t78, rfl, rfl, f79, f80⟩ := q77
    have K81 := K71.to 2 9 [a2]
    refine Owe.stk [(.ref t78)] ?_
    refine oAstore K81 28 (d8_26 hby) rfl (l' := #[.val (.ref b), .val (.int 0), .val (.int 3), .val (.ref a2), .val (.int 2), .val (.ref t78)]) rfl ?_
    refine oAload K81 30 (d8_28 hby) rfl rfl ?_
    refine oIload K81 32 (d8_30 hby) rfl ?_
    refine oStatic K81 35 0 (wq hw 121) (wq hw 122) (wq hw 53) (wq hw 123) (rmGet3_2 l Z a0 z0 fm G t78 c0 c1 c2 h72 K81.old K81.both f79 P5 P6) [(.ref t78), (.int 2)] [] (lenOf pd179 rfl) (d8_32 hby) ?_
    intro T82 h84 v85 lo86 fs87 K83 Kp88 q89
    obtain ⟨rfl, rfl⟩ := q89
    have K90 := K83.to 2 9 [a2]
    refine Owe.stk [(.int c2)] ?_
    refine oSipushV K90 38 (255 : Int32) (d8_35 hby) (by decide) ?_
    refine oIcmpYes K90 54 (d8_38 hby) (XT.ii_gt_t f68) ?_
    refine oAload K90 56 (d8_54 hby) rfl rfl ?_
    exact oRetA K90 [] hret rfl rfl (d8_56 hby) (by decide) (by decide) hlk (fun x hx => by cases hx) (Or.inr ⟨t78, rfl, rfl, (f79.keep Kp88 nin0), (Nat.le_trans (Nat.le_trans E4.1 Kp15.1) f80)⟩)
theorem rmCmp3_4 (G : Gl Z a0 z0 fm) (b : Addr) (c0 c1 c2 c3 : Int32) (h0 : Heap) (hZh : Ext Z.heap h0) (hsf : Own Z h0 []) (P0 : Ary Z h0 b .char [(.int c0), (.int c1), (.int c2), (.int c3)]) (P1 : ¬ c0 < (0 : Int32)) (P2 : ¬ (65535 : Int32) < c0) (P3 : ¬ c1 < (0 : Int32)) (P4 : ¬ (65535 : Int32) < c1) (P5 : ¬ c2 < (0 : Int32)) (P6 : ¬ (65535 : Int32) < c2) (P7 : ¬ c3 < (0 : Int32)) (P8 : ¬ (65535 : Int32) < c3) :
    Ctr l Z ELs yn185 jdk_52_method_16_code 6 (some (.array .byte)) [] (rmk 3 2 12 40) #[(.ref b), (.int 0), (.int 4)] [] h0 (fun v h fs => (∃ t : Addr, fs = [] ∧ v = some (.ref t) ∧ Ary Z h t .byte [(.int (byt c0)), (.int (byt c1)), (.int (byt c2)), (.int (byt c3))] ∧ h0.size ≤ t ∧ ¬ (255 : Int32) < c0 ∧ ¬ (255 : Int32) < c1 ∧ ¬ (255 : Int32) < c2 ∧ ¬ (255 : Int32) < c3) ∨ (∃ t : Addr, fs = [] ∧ v = some (.ref t) ∧ Ary Z h t .byte [(.int (byt (c0 >>> ((0 : Int32) &&& 31)))), (.int (byt (c0 >>> ((8 : Int32) &&& 31)))), (.int (byt (c1 >>> ((0 : Int32) &&& 31)))), (.int (byt (c1 >>> ((8 : Int32) &&& 31)))), (.int (byt (c2 >>> ((0 : Int32) &&& 31)))), (.int (byt (c2 >>> ((8 : Int32) &&& 31)))), (.int (byt (c3 >>> ((0 : Int32) &&& 31)))), (.int (byt (c3 >>> ((8 : Int32) &&& 31))))] ∧ h0.size ≤ t)) := by
  obtain ⟨hw, hEL, wS, OS, hz0, OA, OH, OL, OF, rfm⟩ := id G
  refine Ctr.intro pn41 hEL hZh hsf ?_
  intro p e s m below meth c s₁ hby hml hret hnm hlk hh K0
  refine Owe.cast (ef184 m b ((0 : Int32)) ((4 : Int32))) ?_
  show Owe _ _ _ _ s₁ (mkF m 0 #[.val (.ref b), .val (.int 0), .val (.int 4), .unset, .unset, .unset] [])
  refine oIloadN K0 1 (d8_0 hby) rfl ?_
  refine oNewP K0 3 (ty := .byte) 4 (wq hw 26) rfl (by decide) (by decide) (by decide) (d8_1 hby) (by decide) (by decide) ?_
  intro T6 h1 a2 g3 K7 E4 A5
  have K8 := K7.to 1 4 [a2]
  refine oAstoreN K8 4 (d8_3 hby) rfl (l' := #[.val (.ref b), .val (.int 0), .val (.int 4), .val (.ref a2), .unset, .unset]) rfl ?_
  refine oAloadN K8 5 (d8_4 hby) rfl rfl ?_
  refine oIloadN K8 6 (d8_5 hby) rfl ?_
  refine oAloadN K8 7 (d8_6 hby) rfl rfl ?_
  refine oIconstV K8 8 (0 : Int32) (d8_7 hby) rfl ?_
  refine oIloadN K8 9 (d8_8 hby) rfl ?_
  refine oStatic K8 12 0 (wq hw 55) (wq hw 56) (wq hw 53) (wq hw 57) (rmCmp5_4 l Z a0 z0 fm G b a2 c0 c1 c2 c3 h1 K8.old K8.both (P0.ext E4) A5 (Nat.ne_of_lt (Nat.lt_of_lt_of_le P0.lt (Nat.le_of_eq g3)))) [(.ref b), (.int 0), (.ref a2), (.int 0), (.int 4)] [] (lenOf pd163 rfl) (d8_9 hby) ?_
  intro T9 h11 v12 lo13 fs14 K10 Kp15 q16
  rcases q16 with qq16_0 | qq16_1 | qq16_2 | qq16_3 | qq16_4
  · obtain ⟨rfl, rfl, f17, f18, f19, f20, f21⟩ := qq16_0
    have K22 := K10.to 1 4 [a2]
    refine Owe.stk [(.int 4)] ?_
    refine oIstore K22 14 (d8_12 hby) (l' := #[.val (.ref b), .val (.int 0), .val (.int 4), .val (.ref a2), .val (.int 4), .unset]) rfl ?_
    refine oIload K22 16 (d8_14 hby) rfl ?_
    refine oIloadN K22 17 (d8_16 hby) rfl ?_
    refine oIcmpYes K22 57 (d8_17 hby) (XT.ii_eq_t (by decide)) ?_
    refine oAloadN K22 58 (d8_57 hby) rfl rfl ?_
    exact oRetA K22 [] hret rfl rfl (d8_58 hby) (by decide) (by decide) hlk (fun x hx => by cases hx) (Or.inl ⟨a2, rfl, rfl, f17, (Nat.le_trans (Nat.le_refl _) (Nat.le_of_eq g3)), f18, f19, f20, f21⟩)
  · obtain ⟨rfl, rfl, f23⟩ := qq16_1
    have K24 := K10.to 1 4 [a2]
    refine Owe.stk [(.int 0)] ?_
    refine oIstore K24 14 (d8_12 hby) (l' := #[.val (.ref b), .val (.int 0), .val (.int 4), .val (.ref a2), .val (.int 0), .unset]) rfl ?_
    refine oIload K24 16 (d8_14 hby) rfl ?_
    refine oIloadN K24 17 (d8_16 hby) rfl ?_
    refine oIcmpNo K24 20 (d8_17 hby) (XT.ii_eq_f (by decide)) ?_
    refine oAloadN K24 21 (d8_20 hby) rfl rfl ?_
    refine oIloadN K24 22 (d8_21 hby) rfl ?_
    refine oIloadN K24 23 (d8_22 hby) rfl ?_
    refine oStatic K24 26 0 (wq hw 105) (wq hw 106) (wq hw 53) (wq hw 107) (rmToB4 l Z a0 z0 fm G b c0 c1 c2 c3 h11 K24.old K24.both ((P0.ext E4).keep Kp15 (ninS (Nat.ne_of_lt (Nat.lt_of_lt_of_le P0.lt (Nat.le_of_eq g3))) nin0))) [(.ref b), (.int 0), (.int 4)] [] (lenOf pd174 rfl) (d8_23 hby) ?_
    intro T25 h27 v28 lo29 fs30 K26 Kp31 q32
    obtain ⟨t33, rfl, rfl, f34, f35⟩ := q32
    have K36 := K26.to 2 12 [a2]
    refine Owe.stk [(.ref t33)] ?_
    refine oAstore K36 28 (d8_26 hby) rfl (l' := #[.val (.ref b), .val (.int 0), .val (.int 4), .val (.ref a2), .val (.int 0), .val (.ref t33)]) rfl ?_
    refine oAload K36 30 (d8_28 hby) rfl rfl ?_
    refine oIload K36 32 (d8_30 hby) rfl ?_
    refine oStatic K36 35 0 (wq hw 121) (wq hw 122) (wq hw 53) (wq hw 123) (rmGet4_0 l Z a0 z0 fm G t33 c0 c1 c2 c3 h27 K36.old K36.both f34 P1 P2) [(.ref t33), (.int 0)] [] (lenOf pd179 rfl) (d8_32 hby) ?_
    intro T37 h39 v40 lo41 fs42 K38 Kp43 q44
    obtain ⟨rfl, rfl⟩ := q44
    have K45 := K38.to 2 12 [a2]
    refine Owe.stk [(.int c0)] ?_
    refine oSipushV K45 38 (255 : Int32) (d8_35 hby) (by decide) ?_
    refine oIcmpYes K45 54 (d8_38 hby) (XT.ii_gt_t f23) ?_
    refine oAload K45 56 (d8_54 hby) rfl rfl ?_
    exact oRetA K45 [] hret rfl rfl (d8_56 hby) (by decide) (by decide) hlk (fun x hx => by cases hx) (Or.inr ⟨t33, rfl, rfl, (f34.keep Kp43 nin0), (Nat.le_trans (Nat.le_trans E4.1 Kp15.1) f35)⟩)
  · obtain ⟨rfl, rfl, f46⟩ := qq16_2
    have K47 := K10.to 1 4 [a2]
    refine Owe.stk [(.int 1)] ?_
    refine oIstore K47 14 (d8_12 hby) (l' := #[.val (.ref b), .val (.int 0), .val (.int 4), .val (.ref a2), .val (.int 1), .unset]) rfl ?_
    refine oIload K47 16 (d8_14 hby) rfl ?_
    refine oIloadN K47 17 (d8_16 hby) rfl ?_
    refine oIcmpNo K47 20 (d8_17 hby) (XT.ii_eq_f (by decide)) ?_
    refine oAloadN K47 21 (d8_20 hby) rfl rfl ?_
    refine oIloadN K47 22 (d8_21 hby) rfl ?_
    refine oIloadN K47 23 (d8_22 hby) rfl ?_
    refine oStatic K47 26 0 (wq hw 105) (wq hw 106) (wq hw 53) (wq hw 107) (rmToB4 l Z a0 z0 fm G b c0 c1 c2 c3 h11 K47.old K47.both ((P0.ext E4).keep Kp15 (ninS (Nat.ne_of_lt (Nat.lt_of_lt_of_le P0.lt (Nat.le_of_eq g3))) nin0))) [(.ref b), (.int 0), (.int 4)] [] (lenOf pd174 rfl) (d8_23 hby) ?_
    intro T48 h50 v51 lo52 fs53 K49 Kp54 q55
    obtain ⟨t56, rfl, rfl, f57, f58⟩ := q55
    have K59 := K49.to 2 12 [a2]
    refine Owe.stk [(.ref t56)] ?_
    refine oAstore K59 28 (d8_26 hby) rfl (l' := #[.val (.ref b), .val (.int 0), .val (.int 4), .val (.ref a2), .val (.int 1), .val (.ref t56)]) rfl ?_
    refine oAload K59 30 (d8_28 hby) rfl rfl ?_
    refine oIload K59 32 (d8_30 hby) rfl ?_
    refine oStatic K59 35 0 (wq hw 121) (wq hw 122) (wq hw 53) (wq hw 123) (rmGet4_1 l Z a0 z0 fm G t56 c0 c1 c2 c3 h50 K59.old K59.both f57 P3 P4) [(.ref t56), (.int 1)] [] (lenOf pd179 rfl) (d8_32 hby) ?_
    intro T60 h62 v63 lo64 fs65 K61 Kp66 q67
    obtain ⟨rfl, rfl⟩ := q67
    have K68 := K61.to 2 12 [a2]
    refine Owe.stk [(.int c1)] ?_
    refine oSipushV K68 38 (255 : Int32) (d8_35 hby) (by decide) ?_
    refine oIcmpYes K68 54 (d8_38 hby) (XT.ii_gt_t f46) ?_
    refine oAload K68 56 (d8_54 hby) rfl rfl ?_
    exact oRetA K68 [] hret rfl rfl (d8_56 hby) (by decide) (by decide) hlk (fun x hx => by cases hx) (Or.inr ⟨t56, rfl, rfl, (f57.keep Kp66 nin0), (Nat.le_trans (Nat.le_trans E4.1 Kp15.1) f58)⟩)
  · obtain ⟨rfl, rfl, f69⟩ := qq16_3
    have K70 := K10.to 1 4 [a2]
    refine Owe.stk [(.int 2)] ?_
    refine oIstore K70 14 (d8_12 hby) (l' := #[.val (.ref b), .val (.int 0), .val (.int 4), .val (.ref a2), .val (.int 2), .unset]) rfl ?_
    refine oIload K70 16 (d8_14 hby) rfl ?_
    refine oIloadN K70 17 (d8_16 hby) rfl ?_
    refine oIcmpNo K70 20 (d8_17 hby) (XT.ii_eq_f (by decide)) ?_
    refine oAloadN K70 21 (d8_20 hby) rfl rfl ?_
    refine oIloadN K70 22 (d8_21 hby) rfl ?_
    refine oIloadN K70 23 (d8_22 hby) rfl ?_
    refine oStatic K70 26 0 (wq hw 105) (wq hw 106) (wq hw 53) (wq hw 107) (rmToB4 l Z a0 z0 fm G b c0 c1 c2 c3 h11 K70.old K70.both ((P0.ext E4).keep Kp15 (ninS (Nat.ne_of_lt (Nat.lt_of_lt_of_le P0.lt (Nat.le_of_eq g3))) nin0))) [(.ref b), (.int 0), (.int 4)] [] (lenOf pd174 rfl) (d8_23 hby) ?_
    intro T71 h73 v74 lo75 fs76 K72 Kp77 q78
    obtain ⟨t79, rfl, rfl, f80, f81⟩ := q78
    have K82 := K72.to 2 12 [a2]
    refine Owe.stk [(.ref t79)] ?_
    refine oAstore K82 28 (d8_26 hby) rfl (l' := #[.val (.ref b), .val (.int 0), .val (.int 4), .val (.ref a2), .val (.int 2), .val (.ref t79)]) rfl ?_
    refine oAload K82 30 (d8_28 hby) rfl rfl ?_
    refine oIload K82 32 (d8_30 hby) rfl ?_
    refine oStatic K82 35 0 (wq hw 121) (wq hw 122) (wq hw 53) (wq hw 123) (rmGet4_2 l Z a0 z0 fm G t79 c0 c1 c2 c3 h73 K82.old K82.both f80 P5 P6) [(.ref t79), (.int 2)] [] (lenOf pd179 rfl) (d8_32 hby) ?_
    intro T83 h85 v86 lo87 fs88 K84 Kp89 q90
    obtain ⟨rfl, rfl⟩ := q90
    have K91 := K84.to 2 12 [a2]
    refine Owe.stk [(.int c2)] ?_
    refine oSipushV K91 38 (255 : Int32) (d8_35 hby) (by decide) ?_
    refine oIcmpYes K91 54 (d8_38 hby) (XT.ii_gt_t f69) ?_
    refine oAload K91 56 (d8_54 hby) rfl rfl ?_
    exact oRetA K91 [] hret rfl rfl (d8_56 hby) (by decide) (by decide) hlk (fun x hx => by cases hx) (Or.inr ⟨t79, rfl, rfl, (f80.keep Kp89 nin0), (Nat.le_trans (Nat.le_trans E4.1 Kp15.1) f81)⟩)
  · obtain ⟨rfl, rfl, f92⟩ := qq16_4
    have K93 := K10.to 1 4 [a2]
    refine Owe.stk [(.int 3)] ?_
    refine oIstore K93 14 (d8_12 hby) (l' := #[.val (.ref b), .val (.int 0), .val (.int 4), .val (.ref a2), .val (.int 3), .unset]) rfl ?_
    refine oIload K93 16 (d8_14 hby) rfl ?_
    refine oIloadN K93 17 (d8_16 hby) rfl ?_
    refine oIcmpNo K93 20 (d8_17 hby) (XT.ii_eq_f (by decide)) ?_
    refine oAloadN K93 21 (d8_20 hby) rfl rfl ?_
    refine oIloadN K93 22 (d8_21 hby) rfl ?_
    refine oIloadN K93 23 (d8_22 hby) rfl ?_
    refine oStatic K93 26 0 (wq hw 105) (wq hw 106) (wq hw 53) (wq hw 107) (rmToB4 l Z a0 z0 fm G b c0 c1 c2 c3 h11 K93.old K93.both ((P0.ext E4).keep Kp15 (ninS (Nat.ne_of_lt (Nat.lt_of_lt_of_le P0.lt (Nat.le_of_eq g3))) nin0))) [(.ref b), (.int 0), (.int 4)] [] (lenOf pd174 rfl) (d8_23 hby) ?_
    intro T94 h96 v97 lo98 fs99 K95 Kp100 q101
    obtain ⟨t102, rfl, rfl, f103, f104⟩ := q101
    have K105 := K95.to 2 12 [a2]
    refine Owe.stk [(.ref t102)] ?_
    refine oAstore K105 28 (d8_26 hby) rfl (l' := #[.val (.ref b), .val (.int 0), .val (.int 4), .val (.ref a2), .val (.int 3), .val (.ref t102)]) rfl ?_
    refine oAload K105 30 (d8_28 hby) rfl rfl ?_
    refine oIload K105 32 (d8_30 hby) rfl ?_
    refine oStatic K105 35 0 (wq hw 121) (wq hw 122) (wq hw 53) (wq hw 123) (rmGet4_3 l Z a0 z0 fm G t102 c0 c1 c2 c3 h96 K105.old K105.both f103 P7 P8) [(.ref t102), (.int 3)] [] (lenOf pd179 rfl) (d8_32 hby) ?_
    intro T106 h108 v109 lo110 fs111 K107 Kp112 q113
    obtain ⟨rfl, rfl⟩ := q113
    have K114 := K107.to 2 12 [a2]
    refine Owe.stk [(.int c3)] ?_
    refine oSipushV K114 38 (255 : Int32) (d8_35 hby) (by decide) ?_
    refine oIcmpYes K114 54 (d8_38 hby) (XT.ii_gt_t f92) ?_
    refine oAload K114 56 (d8_54 hby) rfl rfl ?_
    exact oRetA K114 [] hret rfl rfl (d8_56 hby) (by decide) (by decide) hlk (fun x hx => by cases hx) (Or.inr ⟨t102, rfl, rfl, (f103.keep Kp112 nin0), (Nat.le_trans (Nat.le_trans E4.1 Kp15.1) f104)⟩)
abbrev y9 := jdk_52_method_15_code
theorem d9_0 : DC y9 0 (.iload_n 1) 1 := hb' (by decide +kernel)
theorem d9_1 : DC y9 1 (.aload_n 0) 1 := hb' (by decide +kernel)
theorem d9_2 : DC y9 2 (.arraylength) 1 := hb' (by decide +kernel)
theorem d9_3 : DC y9 3 (.isub) 1 := hb' (by decide +kernel)
theorem d9_4 : DC y9 4 (.bipush 31) 2 := hb' (by decide +kernel)
theorem d9_6 : DC y9 6 (.iushr) 1 := hb' (by decide +kernel)
theorem d9_7 : DC y9 7 (.i2b) 1 := hb' (by decide +kernel)
theorem d9_8 : DC y9 8 (.ireturn) 1 := hb' (by decide +kernel)
abbrev yn195 : MethodName := ⟨"java/lang/StringUTF16", "coderFromArrayLen", "([BI)B"⟩
theorem rmCdL1 (G : Gl Z a0 z0 fm) (t : Addr) (e0 : Int32) (h0 : Heap) (hZh : Ext Z.heap h0) (hsf : Own Z h0 []) (P0 : Ary Z h0 t .byte [(.int e0)]) :
    Ctr l Z ELs yn195 jdk_52_method_15_code 2 (some .byte) [] (rmk 0 0 0 0) #[(.ref t), (.int 1)] [] h0 (fun v h fs => (fs = [] ∧ v = some (.int 0))) := by
  obtain ⟨hw, hEL, wS, OS, hz0, OA, OH, OL, OF, rfm⟩ := id G
  refine Ctr.intro pn41 hEL hZh hsf ?_
  intro p e s m below meth c s₁ hby hml hret hnm hlk hh K0
  refine Owe.cast (ef123 m t ((1 : Int32))) ?_
  show Owe _ _ _ _ s₁ (mkF m 0 #[.val (.ref t), .val (.int 1)] [])
  refine oIloadN K0 1 (d9_0 hby) rfl ?_
  refine oAloadN K0 2 (d9_1 hby) rfl rfl ?_
  refine oLen K0 3 P0 (n := (1 : Int32)) (by first | rfl | decide) (d9_2 hby) ?_
  refine oIsub K0 4 (d9_3 hby) ?_
  show Owe _ _ _ _ s₁ (mkF m 4 #[.val (.ref t), .val (.int 1)] [(.int 0)])
  refine oBipushV K0 6 (31 : Int32) (d9_4 hby) (by decide) ?_
  refine oIushr K0 7 (d9_6 hby) ?_
  show Owe _ _ _ _ s₁ (mkF m 7 #[.val (.ref t), .val (.int 1)] [(.int 0)])
  refine oI2b K0 8 (d9_7 hby) ?_
  exact oRetI K0 [] (t := .byte) hret (by simp) (by decide) (d9_8 hby) (by decide) (by decide) hlk (fun x hx => by cases hx) ⟨rfl, rfl⟩
theorem rmCdW1 (G : Gl Z a0 z0 fm) (t : Addr) (e0 e1 : Int32) (h0 : Heap) (hZh : Ext Z.heap h0) (hsf : Own Z h0 []) (P0 : Ary Z h0 t .byte [(.int e0), (.int e1)]) :
    Ctr l Z ELs yn195 jdk_52_method_15_code 2 (some .byte) [] (rmk 0 0 0 0) #[(.ref t), (.int 1)] [] h0 (fun v h fs => (fs = [] ∧ v = some (.int 1))) := by
  obtain ⟨hw, hEL, wS, OS, hz0, OA, OH, OL, OF, rfm⟩ := id G
  refine Ctr.intro pn41 hEL hZh hsf ?_
  intro p e s m below meth c s₁ hby hml hret hnm hlk hh K0
  refine Owe.cast (ef123 m t ((1 : Int32))) ?_
  show Owe _ _ _ _ s₁ (mkF m 0 #[.val (.ref t), .val (.int 1)] [])
  refine oIloadN K0 1 (d9_0 hby) rfl ?_
  refine oAloadN K0 2 (d9_1 hby) rfl rfl ?_
  refine oLen K0 3 P0 (n := (2 : Int32)) (by first | rfl | decide) (d9_2 hby) ?_
  refine oIsub K0 4 (d9_3 hby) ?_
  show Owe _ _ _ _ s₁ (mkF m 4 #[.val (.ref t), .val (.int 1)] [(.int (-1))])
  refine oBipushV K0 6 (31 : Int32) (d9_4 hby) (by decide) ?_
  refine oIushr K0 7 (d9_6 hby) ?_
  show Owe _ _ _ _ s₁ (mkF m 7 #[.val (.ref t), .val (.int 1)] [(.int 1)])
  refine oI2b K0 8 (d9_7 hby) ?_
  exact oRetI K0 [] (t := .byte) hret (by simp) (by decide) (d9_8 hby) (by decide) (by decide) hlk (fun x hx => by cases hx) ⟨rfl, rfl⟩
theorem rmCdL2 (G : Gl Z a0 z0 fm) (t : Addr) (e0 e1 : Int32) (h0 : Heap) (hZh : Ext Z.heap h0) (hsf : Own Z h0 []) (P0 : Ary Z h0 t .byte [(.int e0), (.int e1)]) :
    Ctr l Z ELs yn195 jdk_52_method_15_code 2 (some .byte) [] (rmk 0 0 0 0) #[(.ref t), (.int 2)] [] h0 (fun v h fs => (fs = [] ∧ v = some (.int 0))) := by
  obtain ⟨hw, hEL, wS, OS, hz0, OA, OH, OL, OF, rfm⟩ := id G
  refine Ctr.intro pn41 hEL hZh hsf ?_
  intro p e s m below meth c s₁ hby hml hret hnm hlk hh K0
  refine Owe.cast (ef123 m t ((2 : Int32))) ?_
  show Owe _ _ _ _ s₁ (mkF m 0 #[.val (.ref t), .val (.int 2)] [])
  refine oIloadN K0 1 (d9_0 hby) rfl ?_
  refine oAloadN K0 2 (d9_1 hby) rfl rfl ?_
  refine oLen K0 3 P0 (n := (2 : Int32)) (by first | rfl | decide) (d9_2 hby) ?_
  refine oIsub K0 4 (d9_3 hby) ?_
  show Owe _ _ _ _ s₁ (mkF m 4 #[.val (.ref t), .val (.int 2)] [(.int 0)])
  refine oBipushV K0 6 (31 : Int32) (d9_4 hby) (by decide) ?_
  refine oIushr K0 7 (d9_6 hby) ?_
  show Owe _ _ _ _ s₁ (mkF m 7 #[.val (.ref t), .val (.int 2)] [(.int 0)])
  refine oI2b K0 8 (d9_7 hby) ?_
  exact oRetI K0 [] (t := .byte) hret (by simp) (by decide) (d9_8 hby) (by decide) (by decide) hlk (fun x hx => by cases hx) ⟨rfl, rfl⟩
theorem rmCdW2 (G : Gl Z a0 z0 fm) (t : Addr) (e0 e1 e2 e3 : Int32) (h0 : Heap) (hZh : Ext Z.heap h0) (hsf : Own Z h0 []) (P0 : Ary Z h0 t .byte [(.int e0), (.int e1), (.int e2), (.int e3)]) :
    Ctr l Z ELs yn195 jdk_52_method_15_code 2 (some .byte) [] (rmk 0 0 0 0) #[(.ref t), (.int 2)] [] h0 (fun v h fs => (fs = [] ∧ v = some (.int 1))) := by
  obtain ⟨hw, hEL, wS, OS, hz0, OA, OH, OL, OF, rfm⟩ := id G
  refine Ctr.intro pn41 hEL hZh hsf ?_
  intro p e s m below meth c s₁ hby hml hret hnm hlk hh K0
  refine Owe.cast (ef123 m t ((2 : Int32))) ?_
  show Owe _ _ _ _ s₁ (mkF m 0 #[.val (.ref t), .val (.int 2)] [])
  refine oIloadN K0 1 (d9_0 hby) rfl ?_
  refine oAloadN K0 2 (d9_1 hby) rfl rfl ?_
  refine oLen K0 3 P0 (n := (4 : Int32)) (by first | rfl | decide) (d9_2 hby) ?_
  refine oIsub K0 4 (d9_3 hby) ?_
  show Owe _ _ _ _ s₁ (mkF m 4 #[.val (.ref t), .val (.int 2)] [(.int (-2))])
  refine oBipushV K0 6 (31 : Int32) (d9_4 hby) (by decide) ?_
  refine oIushr K0 7 (d9_6 hby) ?_
  show Owe _ _ _ _ s₁ (mkF m 7 #[.val (.ref t), .val (.int 2)] [(.int 1)])
  refine oI2b K0 8 (d9_7 hby) ?_
  exact oRetI K0 [] (t := .byte) hret (by simp) (by decide) (d9_8 hby) (by decide) (by decide) hlk (fun x hx => by cases hx) ⟨rfl, rfl⟩
theorem rmCdL3 (G : Gl Z a0 z0 fm) (t : Addr) (e0 e1 e2 : Int32) (h0 : Heap) (hZh : Ext Z.heap h0) (hsf : Own Z h0 []) (P0 : Ary Z h0 t .byte [(.int e0), (.int e1), (.int e2)]) :
    Ctr l Z ELs yn195 jdk_52_method_15_code 2 (some .byte) [] (rmk 0 0 0 0) #[(.ref t), (.int 3)] [] h0 (fun v h fs => (fs = [] ∧ v = some (.int 0))) := by
  obtain ⟨hw, hEL, wS, OS, hz0, OA, OH, OL, OF, rfm⟩ := id G
  refine Ctr.intro pn41 hEL hZh hsf ?_
  intro p e s m below meth c s₁ hby hml hret hnm hlk hh K0
  refine Owe.cast (ef123 m t ((3 : Int32))) ?_
  show Owe _ _ _ _ s₁ (mkF m 0 #[.val (.ref t), .val (.int 3)] [])
  refine oIloadN K0 1 (d9_0 hby) rfl ?_
  refine oAloadN K0 2 (d9_1 hby) rfl rfl ?_
  refine oLen K0 3 P0 (n := (3 : Int32)) (by first | rfl | decide) (d9_2 hby) ?_
  refine oIsub K0 4 (d9_3 hby) ?_
  show Owe _ _ _ _ s₁ (mkF m 4 #[.val (.ref t), .val (.int 3)] [(.int 0)])
  refine oBipushV K0 6 (31 : Int32) (d9_4 hby) (by decide) ?_
  refine oIushr K0 7 (d9_6 hby) ?_
  show Owe _ _ _ _ s₁ (mkF m 7 #[.val (.ref t), .val (.int 3)] [(.int 0)])
  refine oI2b K0 8 (d9_7 hby) ?_
  exact oRetI K0 [] (t := .byte) hret (by simp) (by decide) (d9_8 hby) (by decide) (by decide) hlk (fun x hx => by cases hx) ⟨rfl, rfl⟩
theorem rmCdW3 (G : Gl Z a0 z0 fm) (t : Addr) (e0 e1 e2 e3 e4 e5 : Int32) (h0 : Heap) (hZh : Ext Z.heap h0) (hsf : Own Z h0 []) (P0 : Ary Z h0 t .byte [(.int e0), (.int e1), (.int e2), (.int e3), (.int e4), (.int e5)]) :
    Ctr l Z ELs yn195 jdk_52_method_15_code 2 (some .byte) [] (rmk 0 0 0 0) #[(.ref t), (.int 3)] [] h0 (fun v h fs => (fs = [] ∧ v = some (.int 1))) := by
  obtain ⟨hw, hEL, wS, OS, hz0, OA, OH, OL, OF, rfm⟩ := id G
  refine Ctr.intro pn41 hEL hZh hsf ?_
  intro p e s m below meth c s₁ hby hml hret hnm hlk hh K0
  refine Owe.cast (ef123 m t ((3 : Int32))) ?_
  show Owe _ _ _ _ s₁ (mkF m 0 #[.val (.ref t), .val (.int 3)] [])
  refine oIloadN K0 1 (d9_0 hby) rfl ?_
  refine oAloadN K0 2 (d9_1 hby) rfl rfl ?_
  refine oLen K0 3 P0 (n := (6 : Int32)) (by first | rfl | decide) (d9_2 hby) ?_
  refine oIsub K0 4 (d9_3 hby) ?_
  show Owe _ _ _ _ s₁ (mkF m 4 #[.val (.ref t), .val (.int 3)] [(.int (-3))])
  refine oBipushV K0 6 (31 : Int32) (d9_4 hby) (by decide) ?_
  refine oIushr K0 7 (d9_6 hby) ?_
  show Owe _ _ _ _ s₁ (mkF m 7 #[.val (.ref t), .val (.int 3)] [(.int 1)])
  refine oI2b K0 8 (d9_7 hby) ?_
  exact oRetI K0 [] (t := .byte) hret (by simp) (by decide) (d9_8 hby) (by decide) (by decide) hlk (fun x hx => by cases hx) ⟨rfl, rfl⟩
theorem rmCdL4 (G : Gl Z a0 z0 fm) (t : Addr) (e0 e1 e2 e3 : Int32) (h0 : Heap) (hZh : Ext Z.heap h0) (hsf : Own Z h0 []) (P0 : Ary Z h0 t .byte [(.int e0), (.int e1), (.int e2), (.int e3)]) :
    Ctr l Z ELs yn195 jdk_52_method_15_code 2 (some .byte) [] (rmk 0 0 0 0) #[(.ref t), (.int 4)] [] h0 (fun v h fs => (fs = [] ∧ v = some (.int 0))) := by
  obtain ⟨hw, hEL, wS, OS, hz0, OA, OH, OL, OF, rfm⟩ := id G
  refine Ctr.intro pn41 hEL hZh hsf ?_
  intro p e s m below meth c s₁ hby hml hret hnm hlk hh K0
  refine Owe.cast (ef123 m t ((4 : Int32))) ?_
  show Owe _ _ _ _ s₁ (mkF m 0 #[.val (.ref t), .val (.int 4)] [])
  refine oIloadN K0 1 (d9_0 hby) rfl ?_
  refine oAloadN K0 2 (d9_1 hby) rfl rfl ?_
  refine oLen K0 3 P0 (n := (4 : Int32)) (by first | rfl | decide) (d9_2 hby) ?_
  refine oIsub K0 4 (d9_3 hby) ?_
  show Owe _ _ _ _ s₁ (mkF m 4 #[.val (.ref t), .val (.int 4)] [(.int 0)])
  refine oBipushV K0 6 (31 : Int32) (d9_4 hby) (by decide) ?_
  refine oIushr K0 7 (d9_6 hby) ?_
  show Owe _ _ _ _ s₁ (mkF m 7 #[.val (.ref t), .val (.int 4)] [(.int 0)])
  refine oI2b K0 8 (d9_7 hby) ?_
  exact oRetI K0 [] (t := .byte) hret (by simp) (by decide) (d9_8 hby) (by decide) (by decide) hlk (fun x hx => by cases hx) ⟨rfl, rfl⟩
theorem rmCdW4 (G : Gl Z a0 z0 fm) (t : Addr) (e0 e1 e2 e3 e4 e5 e6 e7 : Int32) (h0 : Heap) (hZh : Ext Z.heap h0) (hsf : Own Z h0 []) (P0 : Ary Z h0 t .byte [(.int e0), (.int e1), (.int e2), (.int e3), (.int e4), (.int e5), (.int e6), (.int e7)]) :
    Ctr l Z ELs yn195 jdk_52_method_15_code 2 (some .byte) [] (rmk 0 0 0 0) #[(.ref t), (.int 4)] [] h0 (fun v h fs => (fs = [] ∧ v = some (.int 1))) := by
  obtain ⟨hw, hEL, wS, OS, hz0, OA, OH, OL, OF, rfm⟩ := id G
  refine Ctr.intro pn41 hEL hZh hsf ?_
  intro p e s m below meth c s₁ hby hml hret hnm hlk hh K0
  refine Owe.cast (ef123 m t ((4 : Int32))) ?_
  show Owe _ _ _ _ s₁ (mkF m 0 #[.val (.ref t), .val (.int 4)] [])
  refine oIloadN K0 1 (d9_0 hby) rfl ?_
  refine oAloadN K0 2 (d9_1 hby) rfl rfl ?_
  refine oLen K0 3 P0 (n := (8 : Int32)) (by first | rfl | decide) (d9_2 hby) ?_
  refine oIsub K0 4 (d9_3 hby) ?_
  show Owe _ _ _ _ s₁ (mkF m 4 #[.val (.ref t), .val (.int 4)] [(.int (-4))])
  refine oBipushV K0 6 (31 : Int32) (d9_4 hby) (by decide) ?_
  refine oIushr K0 7 (d9_6 hby) ?_
  show Owe _ _ _ _ s₁ (mkF m 7 #[.val (.ref t), .val (.int 4)] [(.int 1)])
  refine oI2b K0 8 (d9_7 hby) ?_
  exact oRetI K0 [] (t := .byte) hret (by simp) (by decide) (d9_8 hby) (by decide) (by decide) hlk (fun x hx => by cases hx) ⟨rfl, rfl⟩
theorem d0_27 : DC y0 27 (.getstatic 38) 3 := hb' (by decide +kernel)
theorem d0_30 : DC y0 30 (.ifCond .eq 28) 3 := hb' (by decide +kernel)
theorem d0_33 : DC y0 33 (.aload_n 1) 1 := hb' (by decide +kernel)
theorem d0_34 : DC y0 34 (.iload_n 2) 1 := hb' (by decide +kernel)
theorem d0_35 : DC y0 35 (.iload_n 3) 1 := hb' (by decide +kernel)
theorem d0_36 : DC y0 36 (.invokestatic 177) 3 := hb' (by decide +kernel)
theorem d0_39 : DC y0 39 (.astore 5) 2 := hb' (by decide +kernel)
theorem d0_41 : DC y0 41 (.aload_n 0) 1 := hb' (by decide +kernel)
theorem d0_42 : DC y0 42 (.aload 5) 2 := hb' (by decide +kernel)
theorem d0_44 : DC y0 44 (.iload_n 3) 1 := hb' (by decide +kernel)
theorem d0_45 : DC y0 45 (.invokestatic 47) 3 := hb' (by decide +kernel)
theorem pd207 : parseMethodDescriptor "([BI)B" = some ⟨[(.array .byte), .int], some .byte⟩ := by decide +kernel
theorem d0_48 : DC y0 48 (.putfield 15) 3 := hb' (by decide +kernel)
theorem d0_51 : DC y0 51 (.aload_n 0) 1 := hb' (by decide +kernel)
theorem d0_52 : DC y0 52 (.aload 5) 2 := hb' (by decide +kernel)
theorem d0_54 : DC y0 54 (.putfield 9) 3 := hb' (by decide +kernel)
theorem d0_57 : DC y0 57 (.return_) 1 := hb' (by decide +kernel)
theorem rmN4_2 (G : Gl Z a0 z0 fm) (x b : Addr) (c0 c1 : Int32) (h0 : Heap) (hZh : Ext Z.heap h0) (hsf : Own Z h0 [x]) (P0 : Exa Z h0 x "java/lang/String") (P1 : Fld Z h0 x "java/lang/String" "value" "[B" .null) (P2 : Fld Z h0 x "java/lang/String" "coder" "B" (.int 0)) (P3 : Ary Z h0 b .char [(.int c0), (.int c1)]) (P4 : x ≠ b) (P5 : ¬ c0 < (0 : Int32)) (P6 : ¬ (65535 : Int32) < c0) (P7 : ¬ c1 < (0 : Int32)) (P8 : ¬ (65535 : Int32) < c1) :
    Ctr l Z ELs yn15 jdk_42_method_149_code 6 none [] (rmk 4 2 6 57) #[(.ref x), (.ref b), (.int 0), (.int 2), .null] [x] h0 (fun v h fs => (∃ t : Addr, fs = [] ∧ v = none ∧ Exa Z h x "java/lang/String" ∧ Fld Z h x "java/lang/String" "value" "[B" (.ref t) ∧ Fld Z h x "java/lang/String" "coder" "B" (.int 0) ∧ Ary Z h t .byte [(.int (byt c0)), (.int (byt c1))] ∧ x ≠ t ∧ ¬ (255 : Int32) < c0 ∧ ¬ (255 : Int32) < c1) ∨ (∃ t : Addr, fs = [] ∧ v = none ∧ Exa Z h x "java/lang/String" ∧ Fld Z h x "java/lang/String" "value" "[B" (.ref t) ∧ Fld Z h x "java/lang/String" "coder" "B" (.int 1) ∧ Ary Z h t .byte [(.int (byt (c0 >>> ((0 : Int32) &&& 31)))), (.int (byt (c0 >>> ((8 : Int32) &&& 31)))), (.int (byt (c1 >>> ((0 : Int32) &&& 31)))), (.int (byt (c1 >>> ((8 : Int32) &&& 31))))] ∧ x ≠ t)) := by
  obtain ⟨hw, hEL, wS, OS, hz0, OA, OH, OL, OF, rfm⟩ := id G
  refine Ctr.intro pn16 hEL hZh hsf ?_
  intro p e s m below meth c s₁ hby hml hret hnm hlk hh K0
  refine Owe.cast (ef14 m x b ((0 : Int32)) ((2 : Int32))) ?_
  show Owe _ _ _ _ s₁ (mkF m 0 #[.val (.ref x), .val (.ref b), .val (.int 0), .val (.int 2), .val .null, .unset] [])
  refine oAloadN K0 1 (d0_0 hby) rfl rfl ?_
  refine oInitO K0 4 (wq hw 22) (wq hw 23) (wq hw 24) rfl (d0_1 hby) (by decide) (W := 0) nle (by decide) ?_
  intro T1 K2
  refine oIloadN K2 5 (d0_4 hby) rfl ?_
  refine oIfYes K2 27 (d0_5 hby) (XT.i0_ne_t (by decide)) ?_
  refine oGetS K2 30 (wq hw 50) (OS.ext K2.old) (d0_27 hby) ?_
  intro T3 K4
  refine oIfNo K4 33 (d0_30 hby) (XT.i0_eq_f hz0) ?_
  refine oAloadN K4 34 (d0_33 hby) rfl rfl ?_
  refine oIloadN K4 35 (d0_34 hby) rfl ?_
  refine oIloadN K4 36 (d0_35 hby) rfl ?_
  refine oStatic K4 39 0 (wq hw 51) (wq hw 52) (wq hw 53) (wq hw 54) (rmCmp3_2 l Z a0 z0 fm G b c0 c1 h0 K4.old K4.both P3 P5 P6 P7 P8) [(.ref b), (.int 0), (.int 2)] [] (lenOf pd174 rfl) (d0_36 hby) ?_
  intro T5 h7 v8 lo9 fs10 K6 Kp11 q12
  rcases q12 with qq12_0 | qq12_1
  · obtain ⟨t13, rfl, rfl, f14, f15, f16, f17⟩ := qq12_0
    have K18 := K6.to 2 6 [x]
    refine Owe.stk [(.ref t13)] ?_
    refine oAstore K18 41 (d0_39 hby) rfl (l' := #[.val (.ref x), .val (.ref b), .val (.int 0), .val (.int 2), .val .null, .val (.ref t13)]) rfl ?_
    refine oAloadN K18 42 (d0_41 hby) rfl rfl ?_
    refine oAload K18 44 (d0_42 hby) rfl rfl ?_
    refine oIloadN K18 45 (d0_44 hby) rfl ?_
    refine oStatic K18 48 1 (wq hw 58) (wq hw 59) (wq hw 53) (wq hw 60) (rmCdL2 l Z a0 z0 fm G t13 ((byt c0)) ((byt c1)) h7 K18.old K18.both f14) [(.ref t13), (.int 2)] [(.ref x)] (lenOf pd207 rfl) (d0_45 hby) ?_
    intro T19 h21 v22 lo23 fs24 K20 Kp25 q26
    obtain ⟨rfl, rfl⟩ := q26
    have K27 := K20.to 2 6 [x]
    refine Owe.stk [(.int 0), (.ref x)] ?_
    refine oPutF K27 51 (by simp) (wq hw 32) ((P2.keep Kp11 nin0).keep Kp25 nin0) ((P0.keep Kp11).keep Kp25) (Or.inr ⟨(wq hw 28), rfl, hnm⟩) (wq hw 13) (ty := .byte) (by decide) rfl rfl (d0_48 hby) ?_
    intro T31 h28 lo30 K32 W29
    have F33 : Fld Z h28 x "java/lang/String" "coder" "B" (.int 0) := Fld.same W29 ((P2.keep Kp11 nin0).keep Kp25 nin0)
    refine oAloadN K32 52 (d0_51 hby) rfl rfl ?_
    refine oAload K32 54 (d0_52 hby) rfl rfl ?_
    refine oPutF K32 57 (by simp) (wq hw 31) (Fld.other W29 ((P1.keep Kp11 nin0).keep Kp25 nin0) (Or.inr (slot_ne (Or.inr (wq hw 27)) (Or.inr (wq hw 28)) (by decide) rfl rfl))) (((P0.keep Kp11).keep Kp25).wr W29) (Or.inr ⟨(wq hw 27), rfl, hnm⟩) (wq hw 13) (ty := (.array .byte)) (by decide) rfl rfl (d0_54 hby) ?_
    intro T37 h34 lo36 K38 W35
    have F39 : Fld Z h34 x "java/lang/String" "value" "[B" (.ref t13) := Fld.same W35 (Fld.other W29 ((P1.keep Kp11 nin0).keep Kp25 nin0) (Or.inr (slot_ne (Or.inr (wq hw 27)) (Or.inr (wq hw 28)) (by decide) rfl rfl)))
    exact oRetV K38 [] hret (d0_57 hby) (by decide) (by decide) hlk (fun x hx => by cases hx) (Or.inl ⟨t13, rfl, rfl, ((((P0.keep Kp11).keep Kp25).wr W29).wr W35), F39, (Fld.other W35 F33 (Or.inr (slot_ne (Or.inr (wq hw 28)) (Or.inr (wq hw 27)) (by decide) rfl rfl))), (Ary.other (Ary.other (f14.keep Kp25 nin0) W29 (Nat.ne_of_gt (Nat.lt_of_lt_of_le (hsf x (by simp)).1 f15))) W35 (Nat.ne_of_gt (Nat.lt_of_lt_of_le (hsf x (by simp)).1 f15))), (Nat.ne_of_lt (Nat.lt_of_lt_of_le (hsf x (by simp)).1 f15)), f16, f17⟩)
  · obtain ⟨t40, rfl, rfl, f41, f42⟩ := qq12_1
    have K43 := K6.to 2 6 [x]
    refine Owe.stk [(.ref t40)] ?_
    refine oAstore K43 41 (d0_39 hby) rfl (l' := #[.val (.ref x), .val (.ref b), .val (.int 0), .val (.int 2), .val .null, .val (.ref t40)]) rfl ?_
    refine oAloadN K43 42 (d0_41 hby) rfl rfl ?_
    refine oAload K43 44 (d0_42 hby) rfl rfl ?_
    refine oIloadN K43 45 (d0_44 hby) rfl ?_
    refine oStatic K43 48 1 (wq hw 58) (wq hw 59) (wq hw 53) (wq hw 60) (rmCdW2 l Z a0 z0 fm G t40 ((byt (c0 >>> ((0 : Int32) &&& 31)))) ((byt (c0 >>> ((8 : Int32) &&& 31)))) ((byt (c1 >>> ((0 : Int32) &&& 31)))) ((byt (c1 >>> ((8 : Int32) &&& 31)))) h7 K43.old K43.both f41) [(.ref t40), (.int 2)] [(.ref x)] (lenOf pd207 rfl) (d0_45 hby) ?_
    intro T44 h46 v47 lo48 fs49 K45 Kp50 q51
    obtain ⟨rfl, rfl⟩ := q51
    have K52 := K45.to 2 6 [x]
    refine Owe.stk [(.int 1), (.ref x)] ?_
    refine oPutF K52 51 (by simp) (wq hw 32) ((P2.keep Kp11 nin0).keep Kp50 nin0) ((P0.keep Kp11).keep Kp50) (Or.inr ⟨(wq hw 28), rfl, hnm⟩) (wq hw 13) (ty := .byte) (by decide) rfl rfl (d0_48 hby) ?_
    intro T56 h53 lo55 K57 W54
    have F58 : Fld Z h53 x "java/lang/String" "coder" "B" (.int 1) := Fld.same W54 ((P2.keep Kp11 nin0).keep Kp50 nin0)
    refine oAloadN K57 52 (d0_51 hby) rfl rfl ?_
    refine oAload K57 54 (d0_52 hby) rfl rfl ?_
    refine oPutF K57 57 (by simp) (wq hw 31) (Fld.other W54 ((P1.keep Kp11 nin0).keep Kp50 nin0) (Or.inr (slot_ne (Or.inr (wq hw 27)) (Or.inr (wq hw 28)) (by decide) rfl rfl))) (((P0.keep Kp11).keep Kp50).wr W54) (Or.inr ⟨(wq hw 27), rfl, hnm⟩) (wq hw 13) (ty := (.array .byte)) (by decide) rfl rfl (d0_54 hby) ?_
    intro T62 h59 lo61 K63 W60
    have F64 : Fld Z h59 x "java/lang/String" "value" "[B" (.ref t40) := Fld.same W60 (Fld.other W54 ((P1.keep Kp11 nin0).keep Kp50 nin0) (Or.inr (slot_ne (Or.inr (wq hw 27)) (Or.inr (wq hw 28)) (by decide) rfl rfl)))
    exact oRetV K63 [] hret (d0_57 hby) (by decide) (by decide) hlk (fun x hx => by cases hx) (Or.inr ⟨t40, rfl, rfl, ((((P0.keep Kp11).keep Kp50).wr W54).wr W60), F64, (Fld.other W60 F58 (Or.inr (slot_ne (Or.inr (wq hw 28)) (Or.inr (wq hw 27)) (by decide) rfl rfl))), (Ary.other (Ary.other (f41.keep Kp50 nin0) W54 (Nat.ne_of_gt (Nat.lt_of_lt_of_le (hsf x (by simp)).1 f42))) W60 (Nat.ne_of_gt (Nat.lt_of_lt_of_le (hsf x (by simp)).1 f42))), (Nat.ne_of_lt (Nat.lt_of_lt_of_le (hsf x (by simp)).1 f42))⟩)
theorem rmN4_3 (G : Gl Z a0 z0 fm) (x b : Addr) (c0 c1 c2 : Int32) (h0 : Heap) (hZh : Ext Z.heap h0) (hsf : Own Z h0 [x]) (P0 : Exa Z h0 x "java/lang/String") (P1 : Fld Z h0 x "java/lang/String" "value" "[B" .null) (P2 : Fld Z h0 x "java/lang/String" "coder" "B" (.int 0)) (P3 : Ary Z h0 b .char [(.int c0), (.int c1), (.int c2)]) (P4 : x ≠ b) (P5 : ¬ c0 < (0 : Int32)) (P6 : ¬ (65535 : Int32) < c0) (P7 : ¬ c1 < (0 : Int32)) (P8 : ¬ (65535 : Int32) < c1) (P9 : ¬ c2 < (0 : Int32)) (P10 : ¬ (65535 : Int32) < c2) :
    Ctr l Z ELs yn15 jdk_42_method_149_code 6 none [] (rmk 4 2 9 57) #[(.ref x), (.ref b), (.int 0), (.int 3), .null] [x] h0 (fun v h fs => (∃ t : Addr, fs = [] ∧ v = none ∧ Exa Z h x "java/lang/String" ∧ Fld Z h x "java/lang/String" "value" "[B" (.ref t) ∧ Fld Z h x "java/lang/String" "coder" "B" (.int 0) ∧ Ary Z h t .byte [(.int (byt c0)), (.int (byt c1)), (.int (byt c2))] ∧ x ≠ t ∧ ¬ (255 : Int32) < c0 ∧ ¬ (255 : Int32) < c1 ∧ ¬ (255 : Int32) < c2) ∨ (∃ t : Addr, fs = [] ∧ v = none ∧ Exa Z h x "java/lang/String" ∧ Fld Z h x "java/lang/String" "value" "[B" (.ref t) ∧ Fld Z h x "java/lang/String" "coder" "B" (.int 1) ∧ Ary Z h t .byte [(.int (byt (c0 >>> ((0 : Int32) &&& 31)))), (.int (byt (c0 >>> ((8 : Int32) &&& 31)))), (.int (byt (c1 >>> ((0 : Int32) &&& 31)))), (.int (byt (c1 >>> ((8 : Int32) &&& 31)))), (.int (byt (c2 >>> ((0 : Int32) &&& 31)))), (.int (byt (c2 >>> ((8 : Int32) &&& 31))))] ∧ x ≠ t)) := by
  obtain ⟨hw, hEL, wS, OS, hz0, OA, OH, OL, OF, rfm⟩ := id G
  refine Ctr.intro pn16 hEL hZh hsf ?_
  intro p e s m below meth c s₁ hby hml hret hnm hlk hh K0
  refine Owe.cast (ef14 m x b ((0 : Int32)) ((3 : Int32))) ?_
  show Owe _ _ _ _ s₁ (mkF m 0 #[.val (.ref x), .val (.ref b), .val (.int 0), .val (.int 3), .val .null, .unset] [])
  refine oAloadN K0 1 (d0_0 hby) rfl rfl ?_
  refine oInitO K0 4 (wq hw 22) (wq hw 23) (wq hw 24) rfl (d0_1 hby) (by decide) (W := 0) nle (by decide) ?_
  intro T1 K2
  refine oIloadN K2 5 (d0_4 hby) rfl ?_
  refine oIfYes K2 27 (d0_5 hby) (XT.i0_ne_t (by decide)) ?_
  refine oGetS K2 30 (wq hw 50) (OS.ext K2.old) (d0_27 hby) ?_
  intro T3 K4
  refine oIfNo K4 33 (d0_30 hby) (XT.i0_eq_f hz0) ?_
  refine oAloadN K4 34 (d0_33 hby) rfl rfl ?_
  refine oIloadN K4 35 (d0_34 hby) rfl ?_
  refine oIloadN K4 36 (d0_35 hby) rfl ?_
  refine oStatic K4 39 0 (wq hw 51) (wq hw 52) (wq hw 53) (wq hw 54) (rmCmp3_3 l Z a0 z0 fm G b c0 c1 c2 h0 K4.old K4.both P3 P5 P6 P7 P8 P9 P10) [(.ref b), (.int 0), (.int 3)] [] (lenOf pd174 rfl) (d0_36 hby) ?_
  intro T5 h7 v8 lo9 fs10 K6 Kp11 q12
  rcases q12 with qq12_0 | qq12_1
  · obtain ⟨t13, rfl, rfl, f14, f15, f16, f17, f18⟩ := qq12_0
    have K19 := K6.to 2 9 [x]
    refine Owe.stk [(.ref t13)] ?_
    refine oAstore K19 41 (d0_39 hby) rfl (l' := #[.val (.ref x), .val (.ref b), .val (.int 0), .val (.int 3), .val .null, .val (.ref t13)]) rfl ?_
    refine oAloadN K19 42 (d0_41 hby) rfl rfl ?_
    refine oAload K19 44 (d0_42 hby) rfl rfl ?_
    refine oIloadN K19 45 (d0_44 hby) rfl ?_
    refine oStatic K19 48 1 (wq hw 58) (wq hw 59) (wq hw 53) (wq hw 60) (rmCdL3 l Z a0 z0 fm G t13 ((byt c0)) ((byt c1)) ((byt c2)) h7 K19.old K19.both f14) [(.ref t13), (.int 3)] [(.ref x)] (lenOf pd207 rfl) (d0_45 hby) ?_
    intro T20 h22 v23 lo24 fs25 K21 Kp26 q27
    obtain ⟨rfl, rfl⟩ := q27
    have K28 := K21.to 2 9 [x]
    refine Owe.stk [(.int 0), (.ref x)] ?_
    refine oPutF K28 51 (by simp) (wq hw 32) ((P2.keep Kp11 nin0).keep Kp26 nin0) ((P0.keep Kp11).keep Kp26) (Or.inr ⟨(wq hw 28), rfl, hnm⟩) (wq hw 13) (ty := .byte) (by decide) rfl rfl (d0_48 hby) ?_
    intro T32 h29 lo31 K33 W30
    have F34 : Fld Z h29 x "java/lang/String" "coder" "B" (.int 0) := Fld.same W30 ((P2.keep Kp11 nin0).keep Kp26 nin0)
    refine oAloadN K33 52 (d0_51 hby) rfl rfl ?_
    refine oAload K33 54 (d0_52 hby) rfl rfl ?_
    refine oPutF K33 57 (by simp) (wq hw 31) (Fld.other W30 ((P1.keep Kp11 nin0).keep Kp26 nin0) (Or.inr (slot_ne (Or.inr (wq hw 27)) (Or.inr (wq hw 28)) (by decide) rfl rfl))) (((P0.keep Kp11).keep Kp26).wr W30) (Or.inr ⟨(wq hw 27), rfl, hnm⟩) (wq hw 13) (ty := (.array .byte)) (by decide) rfl rfl (d0_54 hby) ?_
    intro T38 h35 lo37 K39 W36
    have F40 : Fld Z h35 x "java/lang/String" "value" "[B" (.ref t13) := Fld.same W36 (Fld.other W30 ((P1.keep Kp11 nin0).keep Kp26 nin0) (Or.inr (slot_ne (Or.inr (wq hw 27)) (Or.inr (wq hw 28)) (by decide) rfl rfl)))
    exact oRetV K39 [] hret (d0_57 hby) (by decide) (by decide) hlk (fun x hx => by cases hx) (Or.inl ⟨t13, rfl, rfl, ((((P0.keep Kp11).keep Kp26).wr W30).wr W36), F40, (Fld.other W36 F34 (Or.inr (slot_ne (Or.inr (wq hw 28)) (Or.inr (wq hw 27)) (by decide) rfl rfl))), (Ary.other (Ary.other (f14.keep Kp26 nin0) W30 (Nat.ne_of_gt (Nat.lt_of_lt_of_le (hsf x (by simp)).1 f15))) W36 (Nat.ne_of_gt (Nat.lt_of_lt_of_le (hsf x (by simp)).1 f15))), (Nat.ne_of_lt (Nat.lt_of_lt_of_le (hsf x (by simp)).1 f15)), f16, f17, f18⟩)
  · obtain ⟨t41, rfl, rfl, f42, f43⟩ := qq12_1
    have K44 := K6.to 2 9 [x]
    refine Owe.stk [(.ref t41)] ?_
    refine oAstore K44 41 (d0_39 hby) rfl (l' := #[.val (.ref x), .val (.ref b), .val (.int 0), .val (.int 3), .val .null, .val (.ref t41)]) rfl ?_
    refine oAloadN K44 42 (d0_41 hby) rfl rfl ?_
    refine oAload K44 44 (d0_42 hby) rfl rfl ?_
    refine oIloadN K44 45 (d0_44 hby) rfl ?_
    refine oStatic K44 48 1 (wq hw 58) (wq hw 59) (wq hw 53) (wq hw 60) (rmCdW3 l Z a0 z0 fm G t41 ((byt (c0 >>> ((0 : Int32) &&& 31)))) ((byt (c0 >>> ((8 : Int32) &&& 31)))) ((byt (c1 >>> ((0 : Int32) &&& 31)))) ((byt (c1 >>> ((8 : Int32) &&& 31)))) ((byt (c2 >>> ((0 : Int32) &&& 31)))) ((byt (c2 >>> ((8 : Int32) &&& 31)))) h7 K44.old K44.both f42) [(.ref t41), (.int 3)] [(.ref x)] (lenOf pd207 rfl) (d0_45 hby) ?_
    intro T45 h47 v48 lo49 fs50 K46 Kp51 q52
    obtain ⟨rfl, rfl⟩ := q52
    have K53 := K46.to 2 9 [x]
    refine Owe.stk [(.int 1), (.ref x)] ?_
    refine oPutF K53 51 (by simp) (wq hw 32) ((P2.keep Kp11 nin0).keep Kp51 nin0) ((P0.keep Kp11).keep Kp51) (Or.inr ⟨(wq hw 28), rfl, hnm⟩) (wq hw 13) (ty := .byte) (by decide) rfl rfl (d0_48 hby) ?_
    intro T57 h54 lo56 K58 W55
    have F59 : Fld Z h54 x "java/lang/String" "coder" "B" (.int 1) := Fld.same W55 ((P2.keep Kp11 nin0).keep Kp51 nin0)
    refine oAloadN K58 52 (d0_51 hby) rfl rfl ?_
    refine oAload K58 54 (d0_52 hby) rfl rfl ?_
    refine oPutF K58 57 (by simp) (wq hw 31) (Fld.other W55 ((P1.keep Kp11 nin0).keep Kp51 nin0) (Or.inr (slot_ne (Or.inr (wq hw 27)) (Or.inr (wq hw 28)) (by decide) rfl rfl))) (((P0.keep Kp11).keep Kp51).wr W55) (Or.inr ⟨(wq hw 27), rfl, hnm⟩) (wq hw 13) (ty := (.array .byte)) (by decide) rfl rfl (d0_54 hby) ?_
    intro T63 h60 lo62 K64 W61
    have F65 : Fld Z h60 x "java/lang/String" "value" "[B" (.ref t41) := Fld.same W61 (Fld.other W55 ((P1.keep Kp11 nin0).keep Kp51 nin0) (Or.inr (slot_ne (Or.inr (wq hw 27)) (Or.inr (wq hw 28)) (by decide) rfl rfl)))
    exact oRetV K64 [] hret (d0_57 hby) (by decide) (by decide) hlk (fun x hx => by cases hx) (Or.inr ⟨t41, rfl, rfl, ((((P0.keep Kp11).keep Kp51).wr W55).wr W61), F65, (Fld.other W61 F59 (Or.inr (slot_ne (Or.inr (wq hw 28)) (Or.inr (wq hw 27)) (by decide) rfl rfl))), (Ary.other (Ary.other (f42.keep Kp51 nin0) W55 (Nat.ne_of_gt (Nat.lt_of_lt_of_le (hsf x (by simp)).1 f43))) W61 (Nat.ne_of_gt (Nat.lt_of_lt_of_le (hsf x (by simp)).1 f43))), (Nat.ne_of_lt (Nat.lt_of_lt_of_le (hsf x (by simp)).1 f43))⟩)
theorem rmN4_4 (G : Gl Z a0 z0 fm) (x b : Addr) (c0 c1 c2 c3 : Int32) (h0 : Heap) (hZh : Ext Z.heap h0) (hsf : Own Z h0 [x]) (P0 : Exa Z h0 x "java/lang/String") (P1 : Fld Z h0 x "java/lang/String" "value" "[B" .null) (P2 : Fld Z h0 x "java/lang/String" "coder" "B" (.int 0)) (P3 : Ary Z h0 b .char [(.int c0), (.int c1), (.int c2), (.int c3)]) (P4 : x ≠ b) (P5 : ¬ c0 < (0 : Int32)) (P6 : ¬ (65535 : Int32) < c0) (P7 : ¬ c1 < (0 : Int32)) (P8 : ¬ (65535 : Int32) < c1) (P9 : ¬ c2 < (0 : Int32)) (P10 : ¬ (65535 : Int32) < c2) (P11 : ¬ c3 < (0 : Int32)) (P12 : ¬ (65535 : Int32) < c3) :
    Ctr l Z ELs yn15 jdk_42_method_149_code 6 none [] (rmk 4 2 12 57) #[(.ref x), (.ref b), (.int 0), (.int 4), .null] [x] h0 (fun v h fs => (∃ t : Addr, fs = [] ∧ v = none ∧ Exa Z h x "java/lang/String" ∧ Fld Z h x "java/lang/String" "value" "[B" (.ref t) ∧ Fld Z h x "java/lang/String" "coder" "B" (.int 0) ∧ Ary Z h t .byte [(.int (byt c0)), (.int (byt c1)), (.int (byt c2)), (.int (byt c3))] ∧ x ≠ t ∧ ¬ (255 : Int32) < c0 ∧ ¬ (255 : Int32) < c1 ∧ ¬ (255 : Int32) < c2 ∧ ¬ (255 : Int32) < c3) ∨ (∃ t : Addr, fs = [] ∧ v = none ∧ Exa Z h x "java/lang/String" ∧ Fld Z h x "java/lang/String" "value" "[B" (.ref t) ∧ Fld Z h x "java/lang/String" "coder" "B" (.int 1) ∧ Ary Z h t .byte [(.int (byt (c0 >>> ((0 : Int32) &&& 31)))), (.int (byt (c0 >>> ((8 : Int32) &&& 31)))), (.int (byt (c1 >>> ((0 : Int32) &&& 31)))), (.int (byt (c1 >>> ((8 : Int32) &&& 31)))), (.int (byt (c2 >>> ((0 : Int32) &&& 31)))), (.int (byt (c2 >>> ((8 : Int32) &&& 31)))), (.int (byt (c3 >>> ((0 : Int32) &&& 31)))), (.int (byt (c3 >>> ((8 : Int32) &&& 31))))] ∧ x ≠ t)) := by
  obtain ⟨hw, hEL, wS, OS, hz0, OA, OH, OL, OF, rfm⟩ := id G
  refine Ctr.intro pn16 hEL hZh hsf ?_
  intro p e s m below meth c s₁ hby hml hret hnm hlk hh K0
  refine Owe.cast (ef14 m x b ((0 : Int32)) ((4 : Int32))) ?_
  show Owe _ _ _ _ s₁ (mkF m 0 #[.val (.ref x), .val (.ref b), .val (.int 0), .val (.int 4), .val .null, .unset] [])
  refine oAloadN K0 1 (d0_0 hby) rfl rfl ?_
  refine oInitO K0 4 (wq hw 22) (wq hw 23) (wq hw 24) rfl (d0_1 hby) (by decide) (W := 0) nle (by decide) ?_
  intro T1 K2
  refine oIloadN K2 5 (d0_4 hby) rfl ?_
  refine oIfYes K2 27 (d0_5 hby) (XT.i0_ne_t (by decide)) ?_
  refine oGetS K2 30 (wq hw 50) (OS.ext K2.old) (d0_27 hby) ?_
  intro T3 K4
  refine oIfNo K4 33 (d0_30 hby) (XT.i0_eq_f hz0) ?_
  refine oAloadN K4 34 (d0_33 hby) rfl rfl ?_
  refine oIloadN K4 35 (d0_34 hby) rfl ?_
  refine oIloadN K4 36 (d0_35 hby) rfl ?_
  refine oStatic K4 39 0 (wq hw 51) (wq hw 52) (wq hw 53) (wq hw 54) (rmCmp3_4 l Z a0 z0 fm G b c0 c1 c2 c3 h0 K4.old K4.both P3 P5 P6 P7 P8 P9 P10 P11 P12) [(.ref b), (.int 0), (.int 4)] [] (lenOf pd174 rfl) (d0_36 hby) ?_
  intro T5 h7 v8 lo9 fs10 K6 Kp11 q12
  rcases q12 with qq12_0 | qq12_1
  · obtain ⟨t13, rfl, rfl, f14, f15, f16, f17, f18, f19⟩ := qq12_0
    have K20 := K6.to 2 12 [x]
    refine Owe.stk [(.ref t13)] ?_
    refine oAstore K20 41 (d0_39 hby) rfl (l' := #[.val (.ref x), .val (.ref b), .val (.int 0), .val (.int 4), .val .null, .val (.ref t13)]) rfl ?_
    refine oAloadN K20 42 (d0_41 hby) rfl rfl ?_
    refine oAload K20 44 (d0_42 hby) rfl rfl ?_
    refine oIloadN K20 45 (d0_44 hby) rfl ?_
    refine oStatic K20 48 1 (wq hw 58) (wq hw 59) (wq hw 53) (wq hw 60) (rmCdL4 l Z a0 z0 fm G t13 ((byt c0)) ((byt c1)) ((byt c2)) ((byt c3)) h7 K20.old K20.both f14) [(.ref t13), (.int 4)] [(.ref x)] (lenOf pd207 rfl) (d0_45 hby) ?_
    intro T21 h23 v24 lo25 fs26 K22 Kp27 q28
    obtain ⟨rfl, rfl⟩ := q28
    have K29 := K22.to 2 12 [x]
    refine Owe.stk [(.int 0), (.ref x)] ?_
    refine oPutF K29 51 (by simp) (wq hw 32) ((P2.keep Kp11 nin0).keep Kp27 nin0) ((P0.keep Kp11).keep Kp27) (Or.inr ⟨(wq hw 28), rfl, hnm⟩) (wq hw 13) (ty := .byte) (by decide) rfl rfl (d0_48 hby) ?_
    intro T33 h30 lo32 K34 W31
    have F35 : Fld Z h30 x "java/lang/String" "coder" "B" (.int 0) := Fld.same W31 ((P2.keep Kp11 nin0).keep Kp27 nin0)
    refine oAloadN K34 52 (d0_51 hby) rfl rfl ?_
    refine oAload K34 54 (d0_52 hby) rfl rfl ?_
    refine oPutF K34 57 (by simp) (wq hw 31) (Fld.other W31 ((P1.keep Kp11 nin0).keep Kp27 nin0) (Or.inr (slot_ne (Or.inr (wq hw 27)) (Or.inr (wq hw 28)) (by decide) rfl rfl))) (((P0.keep Kp11).keep Kp27).wr W31) (Or.inr ⟨(wq hw 27), rfl, hnm⟩) (wq hw 13) (ty := (.array .byte)) (by decide) rfl rfl (d0_54 hby) ?_
    intro T39 h36 lo38 K40 W37
    have F41 : Fld Z h36 x "java/lang/String" "value" "[B" (.ref t13) := Fld.same W37 (Fld.other W31 ((P1.keep Kp11 nin0).keep Kp27 nin0) (Or.inr (slot_ne (Or.inr (wq hw 27)) (Or.inr (wq hw 28)) (by decide) rfl rfl)))
    exact oRetV K40 [] hret (d0_57 hby) (by decide) (by decide) hlk (fun x hx => by cases hx) (Or.inl ⟨t13, rfl, rfl, ((((P0.keep Kp11).keep Kp27).wr W31).wr W37), F41, (Fld.other W37 F35 (Or.inr (slot_ne (Or.inr (wq hw 28)) (Or.inr (wq hw 27)) (by decide) rfl rfl))), (Ary.other (Ary.other (f14.keep Kp27 nin0) W31 (Nat.ne_of_gt (Nat.lt_of_lt_of_le (hsf x (by simp)).1 f15))) W37 (Nat.ne_of_gt (Nat.lt_of_lt_of_le (hsf x (by simp)).1 f15))), (Nat.ne_of_lt (Nat.lt_of_lt_of_le (hsf x (by simp)).1 f15)), f16, f17, f18, f19⟩)
  · obtain ⟨t42, rfl, rfl, f43, f44⟩ := qq12_1
    have K45 := K6.to 2 12 [x]
    refine Owe.stk [(.ref t42)] ?_
    refine oAstore K45 41 (d0_39 hby) rfl (l' := #[.val (.ref x), .val (.ref b), .val (.int 0), .val (.int 4), .val .null, .val (.ref t42)]) rfl ?_
    refine oAloadN K45 42 (d0_41 hby) rfl rfl ?_
    refine oAload K45 44 (d0_42 hby) rfl rfl ?_
    refine oIloadN K45 45 (d0_44 hby) rfl ?_
    refine oStatic K45 48 1 (wq hw 58) (wq hw 59) (wq hw 53) (wq hw 60) (rmCdW4 l Z a0 z0 fm G t42 ((byt (c0 >>> ((0 : Int32) &&& 31)))) ((byt (c0 >>> ((8 : Int32) &&& 31)))) ((byt (c1 >>> ((0 : Int32) &&& 31)))) ((byt (c1 >>> ((8 : Int32) &&& 31)))) ((byt (c2 >>> ((0 : Int32) &&& 31)))) ((byt (c2 >>> ((8 : Int32) &&& 31)))) ((byt (c3 >>> ((0 : Int32) &&& 31)))) ((byt (c3 >>> ((8 : Int32) &&& 31)))) h7 K45.old K45.both f43) [(.ref t42), (.int 4)] [(.ref x)] (lenOf pd207 rfl) (d0_45 hby) ?_
    intro T46 h48 v49 lo50 fs51 K47 Kp52 q53
    obtain ⟨rfl, rfl⟩ := q53
    have K54 := K47.to 2 12 [x]
    refine Owe.stk [(.int 1), (.ref x)] ?_
    refine oPutF K54 51 (by simp) (wq hw 32) ((P2.keep Kp11 nin0).keep Kp52 nin0) ((P0.keep Kp11).keep Kp52) (Or.inr ⟨(wq hw 28), rfl, hnm⟩) (wq hw 13) (ty := .byte) (by decide) rfl rfl (d0_48 hby) ?_
    intro T58 h55 lo57 K59 W56
    have F60 : Fld Z h55 x "java/lang/String" "coder" "B" (.int 1) := Fld.same W56 ((P2.keep Kp11 nin0).keep Kp52 nin0)
    refine oAloadN K59 52 (d0_51 hby) rfl rfl ?_
    refine oAload K59 54 (d0_52 hby) rfl rfl ?_
    refine oPutF K59 57 (by simp) (wq hw 31) (Fld.other W56 ((P1.keep Kp11 nin0).keep Kp52 nin0) (Or.inr (slot_ne (Or.inr (wq hw 27)) (Or.inr (wq hw 28)) (by decide) rfl rfl))) (((P0.keep Kp11).keep Kp52).wr W56) (Or.inr ⟨(wq hw 27), rfl, hnm⟩) (wq hw 13) (ty := (.array .byte)) (by decide) rfl rfl (d0_54 hby) ?_
    intro T64 h61 lo63 K65 W62
    have F66 : Fld Z h61 x "java/lang/String" "value" "[B" (.ref t42) := Fld.same W62 (Fld.other W56 ((P1.keep Kp11 nin0).keep Kp52 nin0) (Or.inr (slot_ne (Or.inr (wq hw 27)) (Or.inr (wq hw 28)) (by decide) rfl rfl)))
    exact oRetV K65 [] hret (d0_57 hby) (by decide) (by decide) hlk (fun x hx => by cases hx) (Or.inr ⟨t42, rfl, rfl, ((((P0.keep Kp11).keep Kp52).wr W56).wr W62), F66, (Fld.other W62 F60 (Or.inr (slot_ne (Or.inr (wq hw 28)) (Or.inr (wq hw 27)) (by decide) rfl rfl))), (Ary.other (Ary.other (f43.keep Kp52 nin0) W56 (Nat.ne_of_gt (Nat.lt_of_lt_of_le (hsf x (by simp)).1 f44))) W62 (Nat.ne_of_gt (Nat.lt_of_lt_of_le (hsf x (by simp)).1 f44))), (Nat.ne_of_lt (Nat.lt_of_lt_of_le (hsf x (by simp)).1 f44))⟩)
theorem rmN1_2 (G : Gl Z a0 z0 fm) (x b : Addr) (c0 c1 : Int32) (h0 : Heap) (hZh : Ext Z.heap h0) (hsf : Own Z h0 [x]) (P0 : Exa Z h0 x "java/lang/String") (P1 : Fld Z h0 x "java/lang/String" "value" "[B" .null) (P2 : Fld Z h0 x "java/lang/String" "coder" "B" (.int 0)) (P3 : Ary Z h0 b .char [(.int c0), (.int c1)]) (P4 : x ≠ b) (P5 : ¬ c0 < (0 : Int32)) (P6 : ¬ (65535 : Int32) < c0) (P7 : ¬ c1 < (0 : Int32)) (P8 : ¬ (65535 : Int32) < c1) :
    Ctr l Z ELs yn28 jdk_42_method_3_code 2 none [] (rmk 5 2 6 74) #[(.ref x), (.ref b)] [x] h0 (fun v h fs => (∃ t : Addr, fs = [] ∧ v = none ∧ Exa Z h x "java/lang/String" ∧ Fld Z h x "java/lang/String" "value" "[B" (.ref t) ∧ Fld Z h x "java/lang/String" "coder" "B" (.int 0) ∧ Ary Z h t .byte [(.int (byt c0)), (.int (byt c1))] ∧ x ≠ t ∧ ¬ (255 : Int32) < c0 ∧ ¬ (255 : Int32) < c1) ∨ (∃ t : Addr, fs = [] ∧ v = none ∧ Exa Z h x "java/lang/String" ∧ Fld Z h x "java/lang/String" "value" "[B" (.ref t) ∧ Fld Z h x "java/lang/String" "coder" "B" (.int 1) ∧ Ary Z h t .byte [(.int (byt (c0 >>> ((0 : Int32) &&& 31)))), (.int (byt (c0 >>> ((8 : Int32) &&& 31)))), (.int (byt (c1 >>> ((0 : Int32) &&& 31)))), (.int (byt (c1 >>> ((8 : Int32) &&& 31))))] ∧ x ≠ t)) := by
  obtain ⟨hw, hEL, wS, OS, hz0, OA, OH, OL, OF, rfm⟩ := id G
  refine Ctr.intro pn16 hEL hZh hsf ?_
  intro p e s m below meth c s₁ hby hml hret hnm hlk hh K0
  refine Owe.cast (ef27 m x b) ?_
  show Owe _ _ _ _ s₁ (mkF m 0 #[.val (.ref x), .val (.ref b)] [])
  refine oAloadN K0 1 (d1_0 hby) rfl rfl ?_
  refine oAloadN K0 2 (d1_1 hby) rfl rfl ?_
  refine oIconstV K0 3 (0 : Int32) (d1_2 hby) rfl ?_
  refine oAloadN K0 4 (d1_3 hby) rfl rfl ?_
  refine oLen K0 5 P3 (n := (2 : Int32)) (by first | rfl | decide) (d1_4 hby) ?_
  refine oAconstNull K0 6 (d1_5 hby) ?_
  refine oSpecial K0 9 0 (wq hw 18) (wq hw 19) (wq hw 14) (wq hw 21) (rmN4_2 l Z a0 z0 fm G x b c0 c1 h0 K0.old K0.both P0 P1 P2 P3 P4 P5 P6 P7 P8) [(.ref b), (.int 0), (.int 2), .null] [] (lenOf pd25 rfl) (d1_6 hby) ?_
  intro T1 h3 v4 lo5 fs6 K2 Kp7 q8
  rcases q8 with qq8_0 | qq8_1
  · obtain ⟨t9, rfl, rfl, f10, f11, f12, f13, f14, f15, f16⟩ := qq8_0
    have K17 := K2.to 2 6 [x]
    refine Owe.stk [] ?_
    exact oRetV K17 [] hret (d1_9 hby) (by decide) (by decide) hlk (fun x hx => by cases hx) (Or.inl ⟨t9, rfl, rfl, f10, f11, f12, f13, f14, f15, f16⟩)
  · obtain ⟨t18, rfl, rfl, f19, f20, f21, f22, f23⟩ := qq8_1
    have K24 := K2.to 2 6 [x]
    refine Owe.stk [] ?_
    exact oRetV K24 [] hret (d1_9 hby) (by decide) (by decide) hlk (fun x hx => by cases hx) (Or.inr ⟨t18, rfl, rfl, f19, f20, f21, f22, f23⟩)
theorem rmN1_3 (G : Gl Z a0 z0 fm) (x b : Addr) (c0 c1 c2 : Int32) (h0 : Heap) (hZh : Ext Z.heap h0) (hsf : Own Z h0 [x]) (P0 : Exa Z h0 x "java/lang/String") (P1 : Fld Z h0 x "java/lang/String" "value" "[B" .null) (P2 : Fld Z h0 x "java/lang/String" "coder" "B" (.int 0)) (P3 : Ary Z h0 b .char [(.int c0), (.int c1), (.int c2)]) (P4 : x ≠ b) (P5 : ¬ c0 < (0 : Int32)) (P6 : ¬ (65535 : Int32) < c0) (P7 : ¬ c1 < (0 : Int32)) (P8 : ¬ (65535 : Int32) < c1) (P9 : ¬ c2 < (0 : Int32)) (P10 : ¬ (65535 : Int32) < c2) :
    Ctr l Z ELs yn28 jdk_42_method_3_code 2 none [] (rmk 5 2 9 74) #[(.ref x), (.ref b)] [x] h0 (fun v h fs => (∃ t : Addr, fs = [] ∧ v = none ∧ Exa Z h x "java/lang/String" ∧ Fld Z h x "java/lang/String" "value" "[B" (.ref t) ∧ Fld Z h x "java/lang/String" "coder" "B" (.int 0) ∧ Ary Z h t .byte [(.int (byt c0)), (.int (byt c1)), (.int (byt c2))] ∧ x ≠ t ∧ ¬ (255 : Int32) < c0 ∧ ¬ (255 : Int32) < c1 ∧ ¬ (255 : Int32) < c2) ∨ (∃ t : Addr, fs = [] ∧ v = none ∧ Exa Z h x "java/lang/String" ∧ Fld Z h x "java/lang/String" "value" "[B" (.ref t) ∧ Fld Z h x "java/lang/String" "coder" "B" (.int 1) ∧ Ary Z h t .byte [(.int (byt (c0 >>> ((0 : Int32) &&& 31)))), (.int (byt (c0 >>> ((8 : Int32) &&& 31)))), (.int (byt (c1 >>> ((0 : Int32) &&& 31)))), (.int (byt (c1 >>> ((8 : Int32) &&& 31)))), (.int (byt (c2 >>> ((0 : Int32) &&& 31)))), (.int (byt (c2 >>> ((8 : Int32) &&& 31))))] ∧ x ≠ t)) := by
  obtain ⟨hw, hEL, wS, OS, hz0, OA, OH, OL, OF, rfm⟩ := id G
  refine Ctr.intro pn16 hEL hZh hsf ?_
  intro p e s m below meth c s₁ hby hml hret hnm hlk hh K0
  refine Owe.cast (ef27 m x b) ?_
  show Owe _ _ _ _ s₁ (mkF m 0 #[.val (.ref x), .val (.ref b)] [])
  refine oAloadN K0 1 (d1_0 hby) rfl rfl ?_
  refine oAloadN K0 2 (d1_1 hby) rfl rfl ?_
  refine oIconstV K0 3 (0 : Int32) (d1_2 hby) rfl ?_
  refine oAloadN K0 4 (d1_3 hby) rfl rfl ?_
  refine oLen K0 5 P3 (n := (3 : Int32)) (by first | rfl | decide) (d1_4 hby) ?_
  refine oAconstNull K0 6 (d1_5 hby) ?_
  refine oSpecial K0 9 0 (wq hw 18) (wq hw 19) (wq hw 14) (wq hw 21) (rmN4_3 l Z a0 z0 fm G x b c0 c1 c2 h0 K0.old K0.both P0 P1 P2 P3 P4 P5 P6 P7 P8 P9 P10) [(.ref b), (.int 0), (.int 3), .null] [] (lenOf pd25 rfl) (d1_6 hby) ?_
  intro T1 h3 v4 lo5 fs6 K2 Kp7 q8
  rcases q8 with qq8_0 | qq8_1
  · obtain ⟨t9, rfl, rfl, f10, f11, f12, f13, f14, f15, f16, f17⟩ := qq8_0
    have K18 := K2.to 2 9 [x]
    refine Owe.stk [] ?_
    exact oRetV K18 [] hret (d1_9 hby) (by decide) (by decide) hlk (fun x hx => by cases hx) (Or.inl ⟨t9, rfl, rfl, f10, f11, f12, f13, f14, f15, f16, f17⟩)
  · obtain ⟨t19, rfl, rfl, f20, f21, f22, f23, f24⟩ := qq8_1
    have K25 := K2.to 2 9 [x]
    refine Owe.stk [] ?_
    exact oRetV K25 [] hret (d1_9 hby) (by decide) (by decide) hlk (fun x hx => by cases hx) (Or.inr ⟨t19, rfl, rfl, f20, f21, f22, f23, f24⟩)
theorem rmN1_4 (G : Gl Z a0 z0 fm) (x b : Addr) (c0 c1 c2 c3 : Int32) (h0 : Heap) (hZh : Ext Z.heap h0) (hsf : Own Z h0 [x]) (P0 : Exa Z h0 x "java/lang/String") (P1 : Fld Z h0 x "java/lang/String" "value" "[B" .null) (P2 : Fld Z h0 x "java/lang/String" "coder" "B" (.int 0)) (P3 : Ary Z h0 b .char [(.int c0), (.int c1), (.int c2), (.int c3)]) (P4 : x ≠ b) (P5 : ¬ c0 < (0 : Int32)) (P6 : ¬ (65535 : Int32) < c0) (P7 : ¬ c1 < (0 : Int32)) (P8 : ¬ (65535 : Int32) < c1) (P9 : ¬ c2 < (0 : Int32)) (P10 : ¬ (65535 : Int32) < c2) (P11 : ¬ c3 < (0 : Int32)) (P12 : ¬ (65535 : Int32) < c3) :
    Ctr l Z ELs yn28 jdk_42_method_3_code 2 none [] (rmk 5 2 12 74) #[(.ref x), (.ref b)] [x] h0 (fun v h fs => (∃ t : Addr, fs = [] ∧ v = none ∧ Exa Z h x "java/lang/String" ∧ Fld Z h x "java/lang/String" "value" "[B" (.ref t) ∧ Fld Z h x "java/lang/String" "coder" "B" (.int 0) ∧ Ary Z h t .byte [(.int (byt c0)), (.int (byt c1)), (.int (byt c2)), (.int (byt c3))] ∧ x ≠ t ∧ ¬ (255 : Int32) < c0 ∧ ¬ (255 : Int32) < c1 ∧ ¬ (255 : Int32) < c2 ∧ ¬ (255 : Int32) < c3) ∨ (∃ t : Addr, fs = [] ∧ v = none ∧ Exa Z h x "java/lang/String" ∧ Fld Z h x "java/lang/String" "value" "[B" (.ref t) ∧ Fld Z h x "java/lang/String" "coder" "B" (.int 1) ∧ Ary Z h t .byte [(.int (byt (c0 >>> ((0 : Int32) &&& 31)))), (.int (byt (c0 >>> ((8 : Int32) &&& 31)))), (.int (byt (c1 >>> ((0 : Int32) &&& 31)))), (.int (byt (c1 >>> ((8 : Int32) &&& 31)))), (.int (byt (c2 >>> ((0 : Int32) &&& 31)))), (.int (byt (c2 >>> ((8 : Int32) &&& 31)))), (.int (byt (c3 >>> ((0 : Int32) &&& 31)))), (.int (byt (c3 >>> ((8 : Int32) &&& 31))))] ∧ x ≠ t)) := by
  obtain ⟨hw, hEL, wS, OS, hz0, OA, OH, OL, OF, rfm⟩ := id G
  refine Ctr.intro pn16 hEL hZh hsf ?_
  intro p e s m below meth c s₁ hby hml hret hnm hlk hh K0
  refine Owe.cast (ef27 m x b) ?_
  show Owe _ _ _ _ s₁ (mkF m 0 #[.val (.ref x), .val (.ref b)] [])
  refine oAloadN K0 1 (d1_0 hby) rfl rfl ?_
  refine oAloadN K0 2 (d1_1 hby) rfl rfl ?_
  refine oIconstV K0 3 (0 : Int32) (d1_2 hby) rfl ?_
  refine oAloadN K0 4 (d1_3 hby) rfl rfl ?_
  refine oLen K0 5 P3 (n := (4 : Int32)) (by first | rfl | decide) (d1_4 hby) ?_
  refine oAconstNull K0 6 (d1_5 hby) ?_
  refine oSpecial K0 9 0 (wq hw 18) (wq hw 19) (wq hw 14) (wq hw 21) (rmN4_4 l Z a0 z0 fm G x b c0 c1 c2 c3 h0 K0.old K0.both P0 P1 P2 P3 P4 P5 P6 P7 P8 P9 P10 P11 P12) [(.ref b), (.int 0), (.int 4), .null] [] (lenOf pd25 rfl) (d1_6 hby) ?_
  intro T1 h3 v4 lo5 fs6 K2 Kp7 q8
  rcases q8 with qq8_0 | qq8_1
  · obtain ⟨t9, rfl, rfl, f10, f11, f12, f13, f14, f15, f16, f17, f18⟩ := qq8_0
    have K19 := K2.to 2 12 [x]
    refine Owe.stk [] ?_
    exact oRetV K19 [] hret (d1_9 hby) (by decide) (by decide) hlk (fun x hx => by cases hx) (Or.inl ⟨t9, rfl, rfl, f10, f11, f12, f13, f14, f15, f16, f17, f18⟩)
  · obtain ⟨t20, rfl, rfl, f21, f22, f23, f24, f25⟩ := qq8_1
    have K26 := K2.to 2 12 [x]
    refine Owe.stk [] ?_
    exact oRetV K26 [] hret (d1_9 hby) (by decide) (by decide) hlk (fun x hx => by cases hx) (Or.inr ⟨t20, rfl, rfl, f21, f22, f23, f24, f25⟩)
abbrev y10 := jdk_43_method_3_code
theorem d10_0 : DC y10 0 (.iload_n 0) 1 := hb' (by decide +kernel)
theorem d10_1 : DC y10 1 (.sipush 255) 3 := hb' (by decide +kernel)
theorem d10_4 : DC y10 4 (.if_icmp .gt 7) 3 := hb' (by decide +kernel)
theorem d10_11 : DC y10 11 (.iconst 0) 1 := hb' (by decide +kernel)
theorem d10_12 : DC y10 12 (.ireturn) 1 := hb' (by decide +kernel)
theorem d10_7 : DC y10 7 (.iconst 1) 1 := hb' (by decide +kernel)
theorem d10_8 : DC y10 8 (.goto 4) 3 := hb' (by decide +kernel)
abbrev yn221 : MethodName := ⟨"java/lang/StringLatin1", "canEncode", "(C)Z"⟩
theorem pn222 : plainName "java/lang/StringLatin1" = true := by first | (simp [plainName, overriddenIn]; done) | decide +kernel
theorem rmCan (G : Gl Z a0 z0 fm) (c0 : Int32) (h0 : Heap) (hZh : Ext Z.heap h0) (hsf : Own Z h0 []) :
    Ctr l Z ELs yn221 jdk_43_method_3_code 1 (some .boolean) [] (rmk 0 0 0 0) #[(.int c0)] [] h0 (fun v h fs => (fs = [] ∧ v = some (.int 1) ∧ ¬ (255 : Int32) < c0) ∨ (fs = [] ∧ v = some (.int 0) ∧ (255 : Int32) < c0)) := by
  obtain ⟨hw, hEL, wS, OS, hz0, OA, OH, OL, OF, rfm⟩ := id G
  refine Ctr.intro pn222 hEL hZh hsf ?_
  intro p e s m below meth c s₁ hby hml hret hnm hlk hh K0
  refine Owe.cast (ef39 m c0) ?_
  show Owe _ _ _ _ s₁ (mkF m 0 #[.val (.int c0)] [])
  refine oIloadN K0 1 (d10_0 hby) rfl ?_
  refine oSipushV K0 4 (255 : Int32) (d10_1 hby) (by decide) ?_
  by_cases hc1 : (255 : Int32) < c0
  · refine oIcmpYes K0 11 (d10_4 hby) (XT.ii_gt_t hc1) ?_
    refine oIconstV K0 12 (0 : Int32) (d10_11 hby) rfl ?_
    exact oRetI K0 [] (t := .boolean) hret (by simp) (by decide) (d10_12 hby) (by decide) (by decide) hlk (fun x hx => by cases hx) (Or.inr ⟨rfl, rfl, hc1⟩)
  · refine oIcmpNo K0 7 (d10_4 hby) (XT.ii_gt_f hc1) ?_
    refine oIconstV K0 8 (1 : Int32) (d10_7 hby) rfl ?_
    refine oGoto K0 12 (d10_8 hby) ?_
    exact oRetI K0 [] (t := .boolean) hret (by simp) (by decide) (d10_12 hby) (by decide) (by decide) hlk (fun x hx => by cases hx) (Or.inl ⟨rfl, rfl, hc1⟩)
abbrev y11 := jdk_43_method_46_code
theorem d11_0 : DC y11 0 (.iconst 1) 1 := hb' (by decide +kernel)
theorem d11_1 : DC y11 1 (.newarray .byte) 2 := hb' (by decide +kernel)
theorem d11_3 : DC y11 3 (.dup) 1 := hb' (by decide +kernel)
theorem d11_4 : DC y11 4 (.iconst 0) 1 := hb' (by decide +kernel)
theorem d11_5 : DC y11 5 (.iload_n 0) 1 := hb' (by decide +kernel)
theorem d11_6 : DC y11 6 (.i2b) 1 := hb' (by decide +kernel)
theorem d11_7 : DC y11 7 (.bastore) 1 := hb' (by decide +kernel)
theorem d11_8 : DC y11 8 (.areturn) 1 := hb' (by decide +kernel)
abbrev yn232 : MethodName := ⟨"java/lang/StringLatin1", "toBytes", "(C)[B"⟩
theorem rmLtB (G : Gl Z a0 z0 fm) (c0 : Int32) (h0 : Heap) (hZh : Ext Z.heap h0) (hsf : Own Z h0 []) :
    Ctr l Z ELs yn232 jdk_43_method_46_code 1 (some (.array .byte)) [] (rmk 0 1 1 0) #[(.int c0)] [] h0 (fun v h fs => (∃ t : Addr, fs = [] ∧ v = some (.ref t) ∧ Ary Z h t .byte [(.int (byt c0))] ∧ h0.size ≤ t)) := by
  obtain ⟨hw, hEL, wS, OS, hz0, OA, OH, OL, OF, rfm⟩ := id G
  refine Ctr.intro pn222 hEL hZh hsf ?_
  intro p e s m below meth c s₁ hby hml hret hnm hlk hh K0
  refine Owe.cast (ef39 m c0) ?_
  show Owe _ _ _ _ s₁ (mkF m 0 #[.val (.int c0)] [])
  refine oIconstV K0 1 (1 : Int32) (d11_0 hby) rfl ?_
  refine oNewP K0 3 (ty := .byte) 1 (wq hw 26) rfl (by decide) (by decide) (by decide) (d11_1 hby) (by decide) (by decide) ?_
  intro T6 h1 a2 g3 K7 E4 A5
  have K8 := K7.to 1 1 [a2]
  refine oDup K8 4 (d11_3 hby) rfl ?_
  refine oIconstV K8 5 (0 : Int32) (d11_4 hby) rfl ?_
  refine oIloadN K8 6 (d11_5 hby) rfl ?_
  refine oI2b K8 7 (d11_6 hby) ?_
  refine oBastore K8 8 (by simp) A5 0 (by decide) (by decide) nlt (nar_byt _) (d11_7 hby) ?_
  intro T13 h9 lo12 K14 W10 A11
  have A15 : Ary Z h9 a2 .byte [(.int (byt c0))] := A11
  exact oRetA K14 [] hret rfl rfl (d11_8 hby) (by decide) (by decide) hlk (fun x hx => by cases hx) ⟨a2, rfl, rfl, A15, (Nat.le_trans (Nat.le_refl _) (Nat.le_of_eq g3))⟩
abbrev y12 := jdk_52_method_24_code
theorem d12_0 : DC y12 0 (.iconst 2) 1 := hb' (by decide +kernel)
theorem d12_1 : DC y12 1 (.newarray .byte) 2 := hb' (by decide +kernel)
theorem d12_3 : DC y12 3 (.astore_n 1) 1 := hb' (by decide +kernel)
theorem d12_4 : DC y12 4 (.aload_n 1) 1 := hb' (by decide +kernel)
theorem d12_5 : DC y12 5 (.iconst 0) 1 := hb' (by decide +kernel)
theorem d12_6 : DC y12 6 (.iload_n 0) 1 := hb' (by decide +kernel)
theorem d12_7 : DC y12 7 (.invokestatic 111) 3 := hb' (by decide +kernel)
theorem d12_10 : DC y12 10 (.aload_n 1) 1 := hb' (by decide +kernel)
theorem d12_11 : DC y12 11 (.areturn) 1 := hb' (by decide +kernel)
theorem ef243 (m : MethodId) (x0 : Int32) : entryFrame m #[(.int x0)] 2 = mkF m 0 #[.val (.int x0), .unset] [] := by first | (simp [entryFrame, mkF, argsToLocals, Value.category]; done) | rfl
abbrev yn244 : MethodName := ⟨"java/lang/StringUTF16", "toBytes", "(C)[B"⟩
theorem rmUtB (G : Gl Z a0 z0 fm) (c0 : Int32) (h0 : Heap) (hZh : Ext Z.heap h0) (hsf : Own Z h0 []) :
    Ctr l Z ELs yn244 jdk_52_method_24_code 2 (some (.array .byte)) [] (rmk 1 1 2 14) #[(.int c0)] [] h0 (fun v h fs => (∃ t : Addr, fs = [] ∧ v = some (.ref t) ∧ Ary Z h t .byte [(.int (byt (c0 >>> ((0 : Int32) &&& 31)))), (.int (byt (c0 >>> ((8 : Int32) &&& 31))))] ∧ h0.size ≤ t)) := by
  obtain ⟨hw, hEL, wS, OS, hz0, OA, OH, OL, OF, rfm⟩ := id G
  refine Ctr.intro pn41 hEL hZh hsf ?_
  intro p e s m below meth c s₁ hby hml hret hnm hlk hh K0
  refine Owe.cast (ef243 m c0) ?_
  show Owe _ _ _ _ s₁ (mkF m 0 #[.val (.int c0), .unset] [])
  refine oIconstV K0 1 (2 : Int32) (d12_0 hby) rfl ?_
  refine oNewP K0 3 (ty := .byte) 2 (wq hw 26) rfl (by decide) (by decide) (by decide) (d12_1 hby) (by decide) (by decide) ?_
  intro T6 h1 a2 g3 K7 E4 A5
  have K8 := K7.to 1 2 [a2]
  refine oAstoreN K8 4 (d12_3 hby) rfl (l' := #[.val (.int c0), .val (.ref a2)]) rfl ?_
  refine oAloadN K8 5 (d12_4 hby) rfl rfl ?_
  refine oIconstV K8 6 (0 : Int32) (d12_5 hby) rfl ?_
  refine oIloadN K8 7 (d12_6 hby) rfl ?_
  refine oStatic K8 10 0 (wq hw 115) (wq hw 116) (wq hw 53) (wq hw 117) (rmPut1_0 l Z a0 z0 fm G a2 c0 ((0 : Int32)) ((0 : Int32)) h1 K8.old K8.both A5) [(.ref a2), (.int 0), (.int c0)] [] (lenOf pd90 rfl) (d12_7 hby) ?_
  intro T9 h11 v12 lo13 fs14 K10 Kp15 q16
  obtain ⟨rfl, rfl, f17⟩ := q16
  have K18 := K10.to 1 2 [a2]
  refine Owe.stk [] ?_
  refine oAloadN K18 11 (d12_10 hby) rfl rfl ?_
  exact oRetA K18 [] hret rfl rfl (d12_11 hby) (by decide) (by decide) hlk (fun x hx => by cases hx) ⟨a2, rfl, rfl, f17, (Nat.le_trans (Nat.le_refl _) (Nat.le_of_eq g3))⟩
abbrev y13 := jdk_42_method_151_code
theorem d13_0 : DC y13 0 (.aload_n 0) 1 := hb' (by decide +kernel)
theorem d13_1 : DC y13 1 (.invokespecial 1) 3 := hb' (by decide +kernel)
theorem d13_4 : DC y13 4 (.aload_n 0) 1 := hb' (by decide +kernel)
theorem d13_5 : DC y13 5 (.aload_n 1) 1 := hb' (by decide +kernel)
theorem d13_6 : DC y13 6 (.putfield 9) 3 := hb' (by decide +kernel)
theorem d13_9 : DC y13 9 (.aload_n 0) 1 := hb' (by decide +kernel)
theorem d13_10 : DC y13 10 (.iload_n 2) 1 := hb' (by decide +kernel)
theorem d13_11 : DC y13 11 (.putfield 15) 3 := hb' (by decide +kernel)
theorem d13_14 : DC y13 14 (.return_) 1 := hb' (by decide +kernel)
theorem ef255 (m : MethodId) (x0 : Addr) (x1 : Addr) (x2 : Int32) : entryFrame m #[(.ref x0), (.ref x1), (.int x2)] 3 = mkF m 0 #[.val (.ref x0), .val (.ref x1), .val (.int x2)] [] := by first | (simp [entryFrame, mkF, argsToLocals, Value.category]; done) | rfl
abbrev yn256 : MethodName := ⟨"java/lang/String", "<init>", "([BB)V"⟩
theorem rmBB0 (G : Gl Z a0 z0 fm) (x t : Addr) (h0 : Heap) (hZh : Ext Z.heap h0) (hsf : Own Z h0 [x]) (P0 : Exa Z h0 x "java/lang/String") (P1 : Fld Z h0 x "java/lang/String" "value" "[B" .null) (P2 : Fld Z h0 x "java/lang/String" "coder" "B" (.int 0)) :
    Ctr l Z ELs yn256 jdk_42_method_151_code 3 none [] (rmk 1 0 0 12) #[(.ref x), (.ref t), (.int 0)] [x] h0 (fun v h fs => (fs = [] ∧ v = none ∧ Exa Z h x "java/lang/String" ∧ Fld Z h x "java/lang/String" "value" "[B" (.ref t) ∧ Fld Z h x "java/lang/String" "coder" "B" (.int 0))) := by
  obtain ⟨hw, hEL, wS, OS, hz0, OA, OH, OL, OF, rfm⟩ := id G
  refine Ctr.intro pn16 hEL hZh hsf ?_
  intro p e s m below meth c s₁ hby hml hret hnm hlk hh K0
  refine Owe.cast (ef255 m x t ((0 : Int32))) ?_
  show Owe _ _ _ _ s₁ (mkF m 0 #[.val (.ref x), .val (.ref t), .val (.int 0)] [])
  refine oAloadN K0 1 (d13_0 hby) rfl rfl ?_
  refine oInitO K0 4 (wq hw 22) (wq hw 23) (wq hw 24) rfl (d13_1 hby) (by decide) (W := 0) nle (by decide) ?_
  intro T1 K2
  refine oAloadN K2 5 (d13_4 hby) rfl rfl ?_
  refine oAloadN K2 6 (d13_5 hby) rfl rfl ?_
  refine oPutF K2 9 (by simp) (wq hw 31) P1 P0 (Or.inr ⟨(wq hw 27), rfl, hnm⟩) (wq hw 13) (ty := (.array .byte)) (by decide) rfl rfl (d13_6 hby) ?_
  intro T6 h3 lo5 K7 W4
  have F8 : Fld Z h3 x "java/lang/String" "value" "[B" (.ref t) := Fld.same W4 P1
  refine oAloadN K7 10 (d13_9 hby) rfl rfl ?_
  refine oIloadN K7 11 (d13_10 hby) rfl ?_
  refine oPutF K7 14 (by simp) (wq hw 32) (Fld.other W4 P2 (Or.inr (slot_ne (Or.inr (wq hw 28)) (Or.inr (wq hw 27)) (by decide) rfl rfl))) (P0.wr W4) (Or.inr ⟨(wq hw 28), rfl, hnm⟩) (wq hw 13) (ty := .byte) (by decide) rfl rfl (d13_11 hby) ?_
  intro T12 h9 lo11 K13 W10
  have F14 : Fld Z h9 x "java/lang/String" "coder" "B" (.int 0) := Fld.same W10 (Fld.other W4 P2 (Or.inr (slot_ne (Or.inr (wq hw 28)) (Or.inr (wq hw 27)) (by decide) rfl rfl)))
  exact oRetV K13 [] hret (d13_14 hby) (by decide) (by decide) hlk (fun x hx => by cases hx) ⟨rfl, rfl, ((P0.wr W4).wr W10), (Fld.other W10 F8 (Or.inr (slot_ne (Or.inr (wq hw 27)) (Or.inr (wq hw 28)) (by decide) rfl rfl))), F14⟩
theorem rmBB1 (G : Gl Z a0 z0 fm) (x t : Addr) (h0 : Heap) (hZh : Ext Z.heap h0) (hsf : Own Z h0 [x]) (P0 : Exa Z h0 x "java/lang/String") (P1 : Fld Z h0 x "java/lang/String" "value" "[B" .null) (P2 : Fld Z h0 x "java/lang/String" "coder" "B" (.int 0)) :
    Ctr l Z ELs yn256 jdk_42_method_151_code 3 none [] (rmk 1 0 0 12) #[(.ref x), (.ref t), (.int 1)] [x] h0 (fun v h fs => (fs = [] ∧ v = none ∧ Exa Z h x "java/lang/String" ∧ Fld Z h x "java/lang/String" "value" "[B" (.ref t) ∧ Fld Z h x "java/lang/String" "coder" "B" (.int 1))) := by
  obtain ⟨hw, hEL, wS, OS, hz0, OA, OH, OL, OF, rfm⟩ := id G
  refine Ctr.intro pn16 hEL hZh hsf ?_
  intro p e s m below meth c s₁ hby hml hret hnm hlk hh K0
  refine Owe.cast (ef255 m x t ((1 : Int32))) ?_
  show Owe _ _ _ _ s₁ (mkF m 0 #[.val (.ref x), .val (.ref t), .val (.int 1)] [])
  refine oAloadN K0 1 (d13_0 hby) rfl rfl ?_
  refine oInitO K0 4 (wq hw 22) (wq hw 23) (wq hw 24) rfl (d13_1 hby) (by decide) (W := 0) nle (by decide) ?_
  intro T1 K2
  refine oAloadN K2 5 (d13_4 hby) rfl rfl ?_
  refine oAloadN K2 6 (d13_5 hby) rfl rfl ?_
  refine oPutF K2 9 (by simp) (wq hw 31) P1 P0 (Or.inr ⟨(wq hw 27), rfl, hnm⟩) (wq hw 13) (ty := (.array .byte)) (by decide) rfl rfl (d13_6 hby) ?_
  intro T6 h3 lo5 K7 W4
  have F8 : Fld Z h3 x "java/lang/String" "value" "[B" (.ref t) := Fld.same W4 P1
  refine oAloadN K7 10 (d13_9 hby) rfl rfl ?_
  refine oIloadN K7 11 (d13_10 hby) rfl ?_
  refine oPutF K7 14 (by simp) (wq hw 32) (Fld.other W4 P2 (Or.inr (slot_ne (Or.inr (wq hw 28)) (Or.inr (wq hw 27)) (by decide) rfl rfl))) (P0.wr W4) (Or.inr ⟨(wq hw 28), rfl, hnm⟩) (wq hw 13) (ty := .byte) (by decide) rfl rfl (d13_11 hby) ?_
  intro T12 h9 lo11 K13 W10
  have F14 : Fld Z h9 x "java/lang/String" "coder" "B" (.int 1) := Fld.same W10 (Fld.other W4 P2 (Or.inr (slot_ne (Or.inr (wq hw 28)) (Or.inr (wq hw 27)) (by decide) rfl rfl)))
  exact oRetV K13 [] hret (d13_14 hby) (by decide) (by decide) hlk (fun x hx => by cases hx) ⟨rfl, rfl, ((P0.wr W4).wr W10), (Fld.other W10 F8 (Or.inr (slot_ne (Or.inr (wq hw 27)) (Or.inr (wq hw 28)) (by decide) rfl rfl))), F14⟩
abbrev y14 := jdk_42_method_139_code
theorem d14_0 : DC y14 0 (.getstatic 38) 3 := hb' (by decide +kernel)
theorem d14_3 : DC y14 3 (.ifCond .eq 23) 3 := hb' (by decide +kernel)
theorem d14_6 : DC y14 6 (.iload_n 0) 1 := hb' (by decide +kernel)
theorem d14_7 : DC y14 7 (.invokestatic 1015) 3 := hb' (by decide +kernel)
theorem pd262 : parseMethodDescriptor "(C)Z" = some ⟨[.char], some .boolean⟩ := by decide +kernel
theorem d14_10 : DC y14 10 (.ifCond .eq 16) 3 := hb' (by decide +kernel)
theorem d14_13 : DC y14 13 (.new 10) 3 := hb' (by decide +kernel)
theorem d14_16 : DC y14 16 (.dup) 1 := hb' (by decide +kernel)
theorem d14_17 : DC y14 17 (.iload_n 0) 1 := hb' (by decide +kernel)
theorem d14_18 : DC y14 18 (.invokestatic 1018) 3 := hb' (by decide +kernel)
theorem pd268 : parseMethodDescriptor "(C)[B" = some ⟨[.char], some (.array .byte)⟩ := by decide +kernel
theorem d14_21 : DC y14 21 (.iconst 0) 1 := hb' (by decide +kernel)
theorem d14_22 : DC y14 22 (.invokespecial 209) 3 := hb' (by decide +kernel)
theorem pd271 : parseMethodDescriptor "([BB)V" = some ⟨[(.array .byte), .byte], none⟩ := by decide +kernel
theorem d14_25 : DC y14 25 (.areturn) 1 := hb' (by decide +kernel)
theorem d14_26 : DC y14 26 (.new 10) 3 := hb' (by decide +kernel)
theorem d14_29 : DC y14 29 (.dup) 1 := hb' (by decide +kernel)
theorem d14_30 : DC y14 30 (.iload_n 0) 1 := hb' (by decide +kernel)
theorem d14_31 : DC y14 31 (.invokestatic 1021) 3 := hb' (by decide +kernel)
theorem d14_34 : DC y14 34 (.iconst 1) 1 := hb' (by decide +kernel)
theorem d14_35 : DC y14 35 (.invokespecial 209) 3 := hb' (by decide +kernel)
theorem d14_38 : DC y14 38 (.areturn) 1 := hb' (by decide +kernel)
abbrev yn280 : MethodName := ⟨"java/lang/String", "valueOf", "(C)Ljava/lang/String;"⟩
theorem rmVal (G : Gl Z a0 z0 fm) (c0 : Int32) (h0 : Heap) (hZh : Ext Z.heap h0) (hsf : Own Z h0 []) :
    Ctr l Z ELs yn280 jdk_42_method_139_code 1 (some (.object "java/lang/String")) [] (rmk 2 2 6 29) #[(.int c0)] [] h0 (fun v h fs => (∃ x : Addr, fs = [] ∧ v = some (.ref x) ∧ Str Z h h.size x [c0])) := by
  obtain ⟨hw, hEL, wS, OS, hz0, OA, OH, OL, OF, rfm⟩ := id G
  refine Ctr.intro pn16 hEL hZh hsf ?_
  intro p e s m below meth c s₁ hby hml hret hnm hlk hh K0
  refine Owe.cast (ef39 m c0) ?_
  show Owe _ _ _ _ s₁ (mkF m 0 #[.val (.int c0)] [])
  refine oGetS K0 3 (wq hw 50) (OS.ext K0.old) (d14_0 hby) ?_
  intro T1 K2
  refine oIfNo K2 6 (d14_3 hby) (XT.i0_eq_f hz0) ?_
  refine oIloadN K2 7 (d14_6 hby) rfl ?_
  refine oStatic K2 10 0 (wq hw 94) (wq hw 95) (wq hw 96) (wq hw 97) (rmCan l Z a0 z0 fm G c0 h0 K2.old K2.both ) [(.int c0)] [] (lenOf pd262 rfl) (d14_7 hby) ?_
  intro T3 h5 v6 lo7 fs8 K4 Kp9 q10
  rcases q10 with qq10_0 | qq10_1
  · obtain ⟨rfl, rfl, f11⟩ := qq10_0
    have K12 := K4.to 0 0 []
    refine Owe.stk [(.int 1)] ?_
    refine oIfNo K12 13 (d14_10 hby) (XT.i0_eq_f (by decide)) ?_
    refine oNew K12 16 (wq hw 98) (wq hw 13) (wq hw 14) (d14_13 hby) (by decide) (by decide) ?_
    intro T19 h13 a14 g15 K20 E16 X17 D18
    have F21 : Fld Z h13 a14 "java/lang/String" "value" "[B" .null := D18 (Or.inr (wq hw 27)) (ty := (.array .byte)) (by decide)
    have F22 : Fld Z h13 a14 "java/lang/String" "coder" "B" (.int 0) := D18 (Or.inr (wq hw 28)) (ty := .byte) (by decide)
    have K23 := K20.to 1 4 [a14]
    refine oDup K23 17 (d14_16 hby) rfl ?_
    refine oIloadN K23 18 (d14_17 hby) rfl ?_
    refine oStatic K23 21 2 (wq hw 99) (wq hw 100) (wq hw 96) (wq hw 101) (rmLtB l Z a0 z0 fm G c0 h13 K23.old K23.both ) [(.int c0)] [(.ref a14), (.ref a14)] (lenOf pd268 rfl) (d14_18 hby) ?_
    intro T24 h26 v27 lo28 fs29 K25 Kp30 q31
    obtain ⟨t32, rfl, rfl, f33, f34⟩ := q31
    have K35 := K25.to 2 5 [a14]
    refine Owe.stk [(.ref t32), (.ref a14), (.ref a14)] ?_
    refine oIconstV K35 22 (0 : Int32) (d14_21 hby) rfl ?_
    refine oSpecial K35 25 1 (wq hw 102) (wq hw 103) (wq hw 14) (wq hw 104) (rmBB0 l Z a0 z0 fm G a14 t32 h26 K35.old K35.both (X17.keep Kp30) (F21.keep Kp30 nin0) (F22.keep Kp30 nin0)) [(.ref t32), (.int 0)] [(.ref a14)] (lenOf pd271 rfl) (d14_22 hby) ?_
    intro T36 h38 v39 lo40 fs41 K37 Kp42 q43
    obtain ⟨rfl, rfl, f44, f45, f46⟩ := q43
    have K47 := K37.to 2 5 [a14]
    refine Owe.stk [(.ref a14)] ?_
    exact oRetA K47 [] hret rfl rfl (d14_25 hby) (by decide) (by decide) hlk (fun x hx => by cases hx) ⟨a14, rfl, rfl, (Str.lat f44 f45 f46 (f33.keep Kp42 (ninS (Nat.ne_of_gt (Nat.lt_of_lt_of_le X17.lt f34)) nin0)) ⟨f11, trivial⟩)⟩
  · obtain ⟨rfl, rfl, f48⟩ := qq10_1
    have K49 := K4.to 0 0 []
    refine Owe.stk [(.int 0)] ?_
    refine oIfYes K49 26 (d14_10 hby) (XT.i0_eq_t (by decide)) ?_
    refine oNew K49 29 (wq hw 98) (wq hw 13) (wq hw 14) (d14_26 hby) (by decide) (by decide) ?_
    intro T56 h50 a51 g52 K57 E53 X54 D55
    have F58 : Fld Z h50 a51 "java/lang/String" "value" "[B" .null := D55 (Or.inr (wq hw 27)) (ty := (.array .byte)) (by decide)
    have F59 : Fld Z h50 a51 "java/lang/String" "coder" "B" (.int 0) := D55 (Or.inr (wq hw 28)) (ty := .byte) (by decide)
    have K60 := K57.to 1 4 [a51]
    refine oDup K60 30 (d14_29 hby) rfl ?_
    refine oIloadN K60 31 (d14_30 hby) rfl ?_
    refine oStatic K60 34 2 (wq hw 141) (wq hw 142) (wq hw 53) (wq hw 143) (rmUtB l Z a0 z0 fm G c0 h50 K60.old K60.both ) [(.int c0)] [(.ref a51), (.ref a51)] (lenOf pd268 rfl) (d14_31 hby) ?_
    intro T61 h63 v64 lo65 fs66 K62 Kp67 q68
    obtain ⟨t69, rfl, rfl, f70, f71⟩ := q68
    have K72 := K62.to 2 6 [a51]
    refine Owe.stk [(.ref t69), (.ref a51), (.ref a51)] ?_
    refine oIconstV K72 35 (1 : Int32) (d14_34 hby) rfl ?_
    refine oSpecial K72 38 1 (wq hw 102) (wq hw 103) (wq hw 14) (wq hw 104) (rmBB1 l Z a0 z0 fm G a51 t69 h63 K72.old K72.both (X54.keep Kp67) (F58.keep Kp67 nin0) (F59.keep Kp67 nin0)) [(.ref t69), (.int 1)] [(.ref a51)] (lenOf pd271 rfl) (d14_35 hby) ?_
    intro T73 h75 v76 lo77 fs78 K74 Kp79 q80
    obtain ⟨rfl, rfl, f81, f82, f83⟩ := q80
    have K84 := K74.to 2 6 [a51]
    refine Owe.stk [(.ref a51)] ?_
    exact oRetA K84 [] hret rfl rfl (d14_38 hby) (by decide) (by decide) hlk (fun x hx => by cases hx) ⟨a51, rfl, rfl, (Str.wide f81 f82 f83 (f70.keep Kp79 (ninS (Nat.ne_of_gt (Nat.lt_of_lt_of_le X54.lt f71)) nin0)))⟩
abbrev y15 := method_4_code
theorem d15_0 : DC y15 0 (.iload_n 0) 1 := hb' (by decide +kernel)
theorem d15_1 : DC y15 1 (.iconst 3) 1 := hb' (by decide +kernel)
theorem d15_2 : DC y15 2 (.iand) 1 := hb' (by decide +kernel)
theorem d15_3 : DC y15 3 (.istore_n 1) 1 := hb' (by decide +kernel)
theorem d15_4 : DC y15 4 (.iload_n 0) 1 := hb' (by decide +kernel)
theorem d15_5 : DC y15 5 (.iconst 2) 1 := hb' (by decide +kernel)
theorem d15_6 : DC y15 6 (.iushr) 1 := hb' (by decide +kernel)
theorem d15_7 : DC y15 7 (.istore_n 2) 1 := hb' (by decide +kernel)
theorem d15_8 : DC y15 8 (.iload_n 1) 1 := hb' (by decide +kernel)
theorem d15_9 : DC y15 9 (.ifCond .ne 9) 3 := hb' (by decide +kernel)
theorem d15_12 : DC y15 12 (.iload_n 2) 1 := hb' (by decide +kernel)
theorem d15_13 : DC y15 13 (.ldc 11) 2 := hb' (by decide +kernel)
theorem d15_15 : DC y15 15 (.iand) 1 := hb' (by decide +kernel)
theorem d15_16 : DC y15 16 (.i2c) 1 := hb' (by decide +kernel)
theorem d15_17 : DC y15 17 (.ireturn) 1 := hb' (by decide +kernel)
theorem d15_18 : DC y15 18 (.iload_n 1) 1 := hb' (by decide +kernel)
theorem d15_19 : DC y15 19 (.iconst 1) 1 := hb' (by decide +kernel)
theorem d15_20 : DC y15 20 (.if_icmp .ne 13) 3 := hb' (by decide +kernel)
theorem d15_23 : DC y15 23 (.ldc 7) 2 := hb' (by decide +kernel)
theorem d15_25 : DC y15 25 (.iload_n 2) 1 := hb' (by decide +kernel)
theorem d15_26 : DC y15 26 (.sipush 1023) 3 := hb' (by decide +kernel)
theorem d15_29 : DC y15 29 (.iand) 1 := hb' (by decide +kernel)
theorem d15_30 : DC y15 30 (.ior) 1 := hb' (by decide +kernel)
theorem d15_31 : DC y15 31 (.i2c) 1 := hb' (by decide +kernel)
theorem d15_32 : DC y15 32 (.ireturn) 1 := hb' (by decide +kernel)
theorem d15_33 : DC y15 33 (.iload_n 1) 1 := hb' (by decide +kernel)
theorem d15_34 : DC y15 34 (.iconst 2) 1 := hb' (by decide +kernel)
theorem d15_35 : DC y15 35 (.if_icmp .ne 13) 3 := hb' (by decide +kernel)
theorem d15_38 : DC y15 38 (.ldc 9) 2 := hb' (by decide +kernel)
theorem d15_40 : DC y15 40 (.iload_n 2) 1 := hb' (by decide +kernel)
theorem d15_41 : DC y15 41 (.sipush 1023) 3 := hb' (by decide +kernel)
theorem d15_44 : DC y15 44 (.iand) 1 := hb' (by decide +kernel)
theorem d15_45 : DC y15 45 (.ior) 1 := hb' (by decide +kernel)
theorem d15_46 : DC y15 46 (.i2c) 1 := hb' (by decide +kernel)
theorem d15_47 : DC y15 47 (.ireturn) 1 := hb' (by decide +kernel)
theorem d15_48 : DC y15 48 (.iload_n 2) 1 := hb' (by decide +kernel)
theorem d15_49 : DC y15 49 (.bipush 127) 2 := hb' (by decide +kernel)
theorem d15_51 : DC y15 51 (.iand) 1 := hb' (by decide +kernel)
theorem d15_52 : DC y15 52 (.i2c) 1 := hb' (by decide +kernel)
theorem d15_53 : DC y15 53 (.ireturn) 1 := hb' (by decide +kernel)
theorem ef322 (m : MethodId) (x0 : Int32) : entryFrame m #[(.int x0)] 3 = mkF m 0 #[.val (.int x0), .unset, .unset] [] := by first | (simp [entryFrame, mkF, argsToLocals, Value.category]; done) | rfl
abbrev yn323 : MethodName := ⟨"com/example/mangrove/mangrove/Utf8TextLoneSurrogateAtPinLaw", "draw", "(I)C"⟩
theorem pn324 : plainName "com/example/mangrove/mangrove/Utf8TextLoneSurrogateAtPinLaw" = true := by first | (simp [plainName, overriddenIn]; done) | decide +kernel
theorem rmDraw (G : Gl Z a0 z0 fm) (p0 : Int32) (h0 : Heap) (hZh : Ext Z.heap h0) (hsf : Own Z h0 []) :
    Ctr l Z ELs yn323 method_4_code 3 (some .char) [] (rmk 0 0 0 0) #[(.int p0)] [] h0 (fun v h fs => (∃ r : Int32, fs = [] ∧ v = some (.int r) ∧ ¬ r < (0 : Int32) ∧ ¬ (65535 : Int32) < r)) := by
  obtain ⟨hw, hEL, wS, OS, hz0, OA, OH, OL, OF, rfm⟩ := id G
  refine Ctr.intro pn324 hEL hZh hsf ?_
  intro p e s m below meth c s₁ hby hml hret hnm hlk hh K0
  refine Owe.cast (ef322 m p0) ?_
  show Owe _ _ _ _ s₁ (mkF m 0 #[.val (.int p0), .unset, .unset] [])
  refine oIloadN K0 1 (d15_0 hby) rfl ?_
  refine oIconstV K0 2 (3 : Int32) (d15_1 hby) rfl ?_
  refine oIand K0 3 (d15_2 hby) ?_
  refine oIstoreN K0 4 (d15_3 hby) (l' := #[.val (.int p0), .val (.int (p0 &&& (3 : Int32))), .unset]) rfl ?_
  refine oIloadN K0 5 (d15_4 hby) rfl ?_
  refine oIconstV K0 6 (2 : Int32) (d15_5 hby) rfl ?_
  refine oIushr K0 7 (d15_6 hby) ?_
  refine oIstoreN K0 8 (d15_7 hby) (l' := #[.val (.int p0), .val (.int (p0 &&& (3 : Int32))), .val (.int (XT.ushr p0 (2 : Int32)))]) rfl ?_
  refine oIloadN K0 9 (d15_8 hby) rfl ?_
  by_cases hc1 : (p0 &&& (3 : Int32)) = (0 : Int32)
  · refine oIfNo K0 12 (d15_9 hby) (XT.i0_ne_f hc1) ?_
    refine oIloadN K0 13 (d15_12 hby) rfl ?_
    refine oLdcI K0 15 (wq hw 6) (d15_13 hby) ?_
    refine oIand K0 16 (d15_15 hby) ?_
    refine oI2c K0 17 (d15_16 hby) ?_
    exact oRetI K0 [] (t := .char) hret (by simp) (XT.narrow_c _) (d15_17 hby) (by decide) (by decide) hlk (fun x hx => by cases hx) ⟨(chr ((XT.ushr p0 (2 : Int32)) &&& (65535 : Int32))), rfl, rfl, (chr_rng _).1, (chr_rng _).2⟩
  · refine oIfYes K0 18 (d15_9 hby) (XT.i0_ne_t hc1) ?_
    refine oIloadN K0 19 (d15_18 hby) rfl ?_
    refine oIconstV K0 20 (1 : Int32) (d15_19 hby) rfl ?_
    by_cases hc2 : (p0 &&& (3 : Int32)) = (1 : Int32)
    · refine oIcmpNo K0 23 (d15_20 hby) (XT.ii_ne_f hc2) ?_
      refine oLdcI K0 25 (wq hw 8) (d15_23 hby) ?_
      refine oIloadN K0 26 (d15_25 hby) rfl ?_
      refine oSipushV K0 29 (1023 : Int32) (d15_26 hby) (by decide) ?_
      refine oIand K0 30 (d15_29 hby) ?_
      refine oIor K0 31 (d15_30 hby) ?_
      refine oI2c K0 32 (d15_31 hby) ?_
      exact oRetI K0 [] (t := .char) hret (by simp) (XT.narrow_c _) (d15_32 hby) (by decide) (by decide) hlk (fun x hx => by cases hx) ⟨(chr ((55296 : Int32) ||| ((XT.ushr p0 (2 : Int32)) &&& (1023 : Int32)))), rfl, rfl, (chr_rng _).1, (chr_rng _).2⟩
    · refine oIcmpYes K0 33 (d15_20 hby) (XT.ii_ne_t hc2) ?_
      refine oIloadN K0 34 (d15_33 hby) rfl ?_
      refine oIconstV K0 35 (2 : Int32) (d15_34 hby) rfl ?_
      by_cases hc3 : (p0 &&& (3 : Int32)) = (2 : Int32)
      · refine oIcmpNo K0 38 (d15_35 hby) (XT.ii_ne_f hc3) ?_
        refine oLdcI K0 40 (wq hw 7) (d15_38 hby) ?_
        refine oIloadN K0 41 (d15_40 hby) rfl ?_
        refine oSipushV K0 44 (1023 : Int32) (d15_41 hby) (by decide) ?_
        refine oIand K0 45 (d15_44 hby) ?_
        refine oIor K0 46 (d15_45 hby) ?_
        refine oI2c K0 47 (d15_46 hby) ?_
        exact oRetI K0 [] (t := .char) hret (by simp) (XT.narrow_c _) (d15_47 hby) (by decide) (by decide) hlk (fun x hx => by cases hx) ⟨(chr ((56320 : Int32) ||| ((XT.ushr p0 (2 : Int32)) &&& (1023 : Int32)))), rfl, rfl, (chr_rng _).1, (chr_rng _).2⟩
      · refine oIcmpYes K0 48 (d15_35 hby) (XT.ii_ne_t hc3) ?_
        refine oIloadN K0 49 (d15_48 hby) rfl ?_
        refine oBipushV K0 51 (127 : Int32) (d15_49 hby) (by decide) ?_
        refine oIand K0 52 (d15_51 hby) ?_
        refine oI2c K0 53 (d15_52 hby) ?_
        exact oRetI K0 [] (t := .char) hret (by simp) (XT.narrow_c _) (d15_53 hby) (by decide) (by decide) hlk (fun x hx => by cases hx) ⟨(chr ((XT.ushr p0 (2 : Int32)) &&& (127 : Int32))), rfl, rfl, (chr_rng _).1, (chr_rng _).2⟩
abbrev y16 := method_5_code
theorem d16_0 : DC y16 0 (.iload_n 1) 1 := hb' (by decide +kernel)
theorem d16_1 : DC y16 1 (.ifCond .ne 14) 3 := hb' (by decide +kernel)
theorem d16_4 : DC y16 4 (.new 12) 3 := hb' (by decide +kernel)
theorem d16_7 : DC y16 7 (.dup) 1 := hb' (by decide +kernel)
theorem d16_8 : DC y16 8 (.iconst 0) 1 := hb' (by decide +kernel)
theorem d16_9 : DC y16 9 (.newarray .char) 2 := hb' (by decide +kernel)
theorem d16_11 : DC y16 11 (.invokespecial 14) 3 := hb' (by decide +kernel)
theorem pd333 : parseMethodDescriptor "([C)V" = some ⟨[(.array .char)], none⟩ := by decide +kernel
theorem d16_14 : DC y16 14 (.areturn) 1 := hb' (by decide +kernel)
abbrev yn335 : MethodName := ⟨"com/example/mangrove/mangrove/Utf8TextLoneSurrogateAtPinLaw", "str", "([CI)Ljava/lang/String;"⟩
theorem rmStr0 (G : Gl Z a0 z0 fm) (b : Addr) (c0 c1 c2 c3 : Int32) (h0 : Heap) (hZh : Ext Z.heap h0) (hsf : Own Z h0 []) (P0 : Ary Z h0 b .char [(.int c0), (.int c1), (.int c2), (.int c3)]) (P1 : ¬ c0 < (0 : Int32)) (P2 : ¬ (65535 : Int32) < c0) (P3 : ¬ c1 < (0 : Int32)) (P4 : ¬ (65535 : Int32) < c1) (P5 : ¬ c2 < (0 : Int32)) (P6 : ¬ (65535 : Int32) < c2) (P7 : ¬ c3 < (0 : Int32)) (P8 : ¬ (65535 : Int32) < c3) :
    Ctr l Z ELs yn335 method_5_code 2 (some (.object "java/lang/String")) [] (rmk 3 6 12 43) #[(.ref b), (.int 0)] [] h0 (fun v h fs => (∃ x : Addr, fs = [] ∧ v = some (.ref x) ∧ Str Z h h.size x [])) := by
  obtain ⟨hw, hEL, wS, OS, hz0, OA, OH, OL, OF, rfm⟩ := id G
  refine Ctr.intro pn324 hEL hZh hsf ?_
  intro p e s m below meth c s₁ hby hml hret hnm hlk hh K0
  refine Owe.cast (ef123 m b ((0 : Int32))) ?_
  show Owe _ _ _ _ s₁ (mkF m 0 #[.val (.ref b), .val (.int 0)] [])
  refine oIloadN K0 1 (d16_0 hby) rfl ?_
  refine oIfNo K0 4 (d16_1 hby) (XT.i0_ne_f (by decide)) ?_
  refine oNew K0 7 (wq hw 12) (wq hw 13) (wq hw 14) (d16_4 hby) (by decide) (by decide) ?_
  intro T7 h1 a2 g3 K8 E4 X5 D6
  have F9 : Fld Z h1 a2 "java/lang/String" "value" "[B" .null := D6 (Or.inr (wq hw 27)) (ty := (.array .byte)) (by decide)
  have F10 : Fld Z h1 a2 "java/lang/String" "coder" "B" (.int 0) := D6 (Or.inr (wq hw 28)) (ty := .byte) (by decide)
  have K11 := K8.to 1 4 [a2]
  refine oDup K11 8 (d16_7 hby) rfl ?_
  refine oIconstV K11 9 (0 : Int32) (d16_8 hby) rfl ?_
  refine oNewP K11 11 (ty := .char) 0 (wq hw 1) rfl (by decide) (by decide) (by decide) (d16_9 hby) (by decide) (by decide) ?_
  intro T17 h12 a13 g14 K18 E15 A16
  have K19 := K18.to 2 4 [a13, a2]
  refine oSpecial K19 14 1 (wq hw 15) (wq hw 16) (wq hw 14) (wq hw 17) (rmN1 l Z a0 z0 fm G a2 a13 h12 K19.old K19.both (X5.ext E15) (F9.ext E15) (F10.ext E15) A16) [(.ref a13)] [(.ref a2)] (lenOf pd333 rfl) (d16_11 hby) ?_
  intro T20 h22 v23 lo24 fs25 K21 Kp26 q27
  obtain ⟨t28, rfl, rfl, f29, f30, f31, f32, f33⟩ := q27
  have K34 := K21.to 6 12 [a13, a2]
  refine Owe.stk [(.ref a2)] ?_
  exact oRetA K34 [] hret rfl rfl (d16_14 hby) (by decide) (by decide) hlk (fun x hx => by cases hx) ⟨a2, rfl, rfl, (Str.lat f29 f30 f31 f32 trivial)⟩
theorem d16_15 : DC y16 15 (.iload_n 1) 1 := hb' (by decide +kernel)
theorem d16_16 : DC y16 16 (.iconst 1) 1 := hb' (by decide +kernel)
theorem d16_17 : DC y16 17 (.if_icmp .ne 10) 3 := hb' (by decide +kernel)
theorem d16_20 : DC y16 20 (.aload_n 0) 1 := hb' (by decide +kernel)
theorem d16_21 : DC y16 21 (.iconst 0) 1 := hb' (by decide +kernel)
theorem d16_22 : DC y16 22 (.caload) 1 := hb' (by decide +kernel)
theorem d16_23 : DC y16 23 (.invokestatic 17) 3 := hb' (by decide +kernel)
theorem pd343 : parseMethodDescriptor "(C)Ljava/lang/String;" = some ⟨[.char], some (.object "java/lang/String")⟩ := by decide +kernel
theorem d16_26 : DC y16 26 (.areturn) 1 := hb' (by decide +kernel)
theorem rmStr1 (G : Gl Z a0 z0 fm) (b : Addr) (c0 c1 c2 c3 : Int32) (h0 : Heap) (hZh : Ext Z.heap h0) (hsf : Own Z h0 []) (P0 : Ary Z h0 b .char [(.int c0), (.int c1), (.int c2), (.int c3)]) (P1 : ¬ c0 < (0 : Int32)) (P2 : ¬ (65535 : Int32) < c0) (P3 : ¬ c1 < (0 : Int32)) (P4 : ¬ (65535 : Int32) < c1) (P5 : ¬ c2 < (0 : Int32)) (P6 : ¬ (65535 : Int32) < c2) (P7 : ¬ c3 < (0 : Int32)) (P8 : ¬ (65535 : Int32) < c3) :
    Ctr l Z ELs yn335 method_5_code 2 (some (.object "java/lang/String")) [] (rmk 3 2 6 41) #[(.ref b), (.int 1)] [] h0 (fun v h fs => (∃ x : Addr, fs = [] ∧ v = some (.ref x) ∧ Str Z h h.size x [c0])) := by
  obtain ⟨hw, hEL, wS, OS, hz0, OA, OH, OL, OF, rfm⟩ := id G
  refine Ctr.intro pn324 hEL hZh hsf ?_
  intro p e s m below meth c s₁ hby hml hret hnm hlk hh K0
  refine Owe.cast (ef123 m b ((1 : Int32))) ?_
  show Owe _ _ _ _ s₁ (mkF m 0 #[.val (.ref b), .val (.int 1)] [])
  refine oIloadN K0 1 (d16_0 hby) rfl ?_
  refine oIfYes K0 15 (d16_1 hby) (XT.i0_ne_t (by decide)) ?_
  refine oIloadN K0 16 (d16_15 hby) rfl ?_
  refine oIconstV K0 17 (1 : Int32) (d16_16 hby) rfl ?_
  refine oIcmpNo K0 20 (d16_17 hby) (XT.ii_ne_f (by decide)) ?_
  refine oAloadN K0 21 (d16_20 hby) rfl rfl ?_
  refine oIconstV K0 22 (0 : Int32) (d16_21 hby) rfl ?_
  refine oCaload K0 23 P0 0 (by decide) (by decide) rfl (d16_22 hby) ?_
  refine oStatic K0 26 0 (wq hw 91) (wq hw 92) (wq hw 14) (wq hw 93) (rmVal l Z a0 z0 fm G c0 h0 K0.old K0.both ) [(.int c0)] [] (lenOf pd343 rfl) (d16_23 hby) ?_
  intro T1 h3 v4 lo5 fs6 K2 Kp7 q8
  obtain ⟨x9, rfl, rfl, f10⟩ := q8
  have K11 := K2.to 2 6 []
  refine Owe.stk [(.ref x9)] ?_
  exact oRetA K11 [] hret rfl rfl (d16_26 hby) (by decide) (by decide) hlk (fun x hx => by cases hx) ⟨x9, rfl, rfl, f10⟩
theorem d16_27 : DC y16 27 (.iload_n 1) 1 := hb' (by decide +kernel)
theorem d16_28 : DC y16 28 (.iconst 2) 1 := hb' (by decide +kernel)
theorem d16_29 : DC y16 29 (.if_icmp .ne 26) 3 := hb' (by decide +kernel)
theorem d16_32 : DC y16 32 (.new 12) 3 := hb' (by decide +kernel)
theorem d16_35 : DC y16 35 (.dup) 1 := hb' (by decide +kernel)
theorem d16_36 : DC y16 36 (.iconst 2) 1 := hb' (by decide +kernel)
theorem d16_37 : DC y16 37 (.newarray .char) 2 := hb' (by decide +kernel)
theorem d16_39 : DC y16 39 (.dup) 1 := hb' (by decide +kernel)
theorem d16_40 : DC y16 40 (.iconst 0) 1 := hb' (by decide +kernel)
theorem d16_41 : DC y16 41 (.aload_n 0) 1 := hb' (by decide +kernel)
theorem d16_42 : DC y16 42 (.iconst 0) 1 := hb' (by decide +kernel)
theorem d16_43 : DC y16 43 (.caload) 1 := hb' (by decide +kernel)
theorem d16_44 : DC y16 44 (.castore) 1 := hb' (by decide +kernel)
theorem d16_45 : DC y16 45 (.dup) 1 := hb' (by decide +kernel)
theorem d16_46 : DC y16 46 (.iconst 1) 1 := hb' (by decide +kernel)
theorem d16_47 : DC y16 47 (.aload_n 0) 1 := hb' (by decide +kernel)
theorem d16_48 : DC y16 48 (.iconst 1) 1 := hb' (by decide +kernel)
theorem d16_49 : DC y16 49 (.caload) 1 := hb' (by decide +kernel)
theorem d16_50 : DC y16 50 (.castore) 1 := hb' (by decide +kernel)
theorem d16_51 : DC y16 51 (.invokespecial 14) 3 := hb' (by decide +kernel)
theorem d16_54 : DC y16 54 (.areturn) 1 := hb' (by decide +kernel)
theorem rmStr2 (G : Gl Z a0 z0 fm) (b : Addr) (c0 c1 c2 c3 : Int32) (h0 : Heap) (hZh : Ext Z.heap h0) (hsf : Own Z h0 []) (P0 : Ary Z h0 b .char [(.int c0), (.int c1), (.int c2), (.int c3)]) (P1 : ¬ c0 < (0 : Int32)) (P2 : ¬ (65535 : Int32) < c0) (P3 : ¬ c1 < (0 : Int32)) (P4 : ¬ (65535 : Int32) < c1) (P5 : ¬ c2 < (0 : Int32)) (P6 : ¬ (65535 : Int32) < c2) (P7 : ¬ c3 < (0 : Int32)) (P8 : ¬ (65535 : Int32) < c3) :
    Ctr l Z ELs yn335 method_5_code 2 (some (.object "java/lang/String")) [] (rmk 6 4 12 88) #[(.ref b), (.int 2)] [] h0 (fun v h fs => (∃ x : Addr, fs = [] ∧ v = some (.ref x) ∧ Str Z h h.size x [c0, c1])) := by
  obtain ⟨hw, hEL, wS, OS, hz0, OA, OH, OL, OF, rfm⟩ := id G
  refine Ctr.intro pn324 hEL hZh hsf ?_
  intro p e s m below meth c s₁ hby hml hret hnm hlk hh K0
  refine Owe.cast (ef123 m b ((2 : Int32))) ?_
  show Owe _ _ _ _ s₁ (mkF m 0 #[.val (.ref b), .val (.int 2)] [])
  refine oIloadN K0 1 (d16_0 hby) rfl ?_
  refine oIfYes K0 15 (d16_1 hby) (XT.i0_ne_t (by decide)) ?_
  refine oIloadN K0 16 (d16_15 hby) rfl ?_
  refine oIconstV K0 17 (1 : Int32) (d16_16 hby) rfl ?_
  refine oIcmpYes K0 27 (d16_17 hby) (XT.ii_ne_t (by decide)) ?_
  refine oIloadN K0 28 (d16_27 hby) rfl ?_
  refine oIconstV K0 29 (2 : Int32) (d16_28 hby) rfl ?_
  refine oIcmpNo K0 32 (d16_29 hby) (XT.ii_ne_f (by decide)) ?_
  refine oNew K0 35 (wq hw 12) (wq hw 13) (wq hw 14) (d16_32 hby) (by decide) (by decide) ?_
  intro T7 h1 a2 g3 K8 E4 X5 D6
  have F9 : Fld Z h1 a2 "java/lang/String" "value" "[B" .null := D6 (Or.inr (wq hw 27)) (ty := (.array .byte)) (by decide)
  have F10 : Fld Z h1 a2 "java/lang/String" "coder" "B" (.int 0) := D6 (Or.inr (wq hw 28)) (ty := .byte) (by decide)
  have K11 := K8.to 1 4 [a2]
  refine oDup K11 36 (d16_35 hby) rfl ?_
  refine oIconstV K11 37 (2 : Int32) (d16_36 hby) rfl ?_
  refine oNewP K11 39 (ty := .char) 2 (wq hw 1) rfl (by decide) (by decide) (by decide) (d16_37 hby) (by decide) (by decide) ?_
  intro T17 h12 a13 g14 K18 E15 A16
  have K19 := K18.to 2 6 [a13, a2]
  refine oDup K19 40 (d16_39 hby) rfl ?_
  refine oIconstV K19 41 (0 : Int32) (d16_40 hby) rfl ?_
  refine oAloadN K19 42 (d16_41 hby) rfl rfl ?_
  refine oIconstV K19 43 (0 : Int32) (d16_42 hby) rfl ?_
  refine oCaload K19 44 ((P0.ext E4).ext E15) 0 (by decide) (by decide) rfl (d16_43 hby) ?_
  refine oCastore K19 45 (by simp) A16 0 (by decide) (by decide) nlt (nar_rng P1 P2) (d16_44 hby) ?_
  intro T24 h20 lo23 K25 W21 A22
  have A26 : Ary Z h20 a13 .char [(.int c0), (.int 0)] := A22
  refine oDup K25 46 (d16_45 hby) rfl ?_
  refine oIconstV K25 47 (1 : Int32) (d16_46 hby) rfl ?_
  refine oAloadN K25 48 (d16_47 hby) rfl rfl ?_
  refine oIconstV K25 49 (1 : Int32) (d16_48 hby) rfl ?_
  refine oCaload K25 50 (Ary.other ((P0.ext E4).ext E15) W21 (Nat.ne_of_lt (Nat.lt_of_lt_of_le (Nat.lt_of_lt_of_le P0.lt E4.1) (Nat.le_of_eq g14)))) 1 (by decide) (by decide) rfl (d16_49 hby) ?_
  refine oCastore K25 51 (by simp) A26 1 (by decide) (by decide) nlt (nar_rng P3 P4) (d16_50 hby) ?_
  intro T31 h27 lo30 K32 W28 A29
  have A33 : Ary Z h27 a13 .char [(.int c0), (.int c1)] := A29
  refine oSpecial K32 54 1 (wq hw 15) (wq hw 16) (wq hw 14) (wq hw 17) (rmN1_2 l Z a0 z0 fm G a2 a13 c0 c1 h27 K32.old K32.both (((X5.ext E15).wr W21).wr W28) (Fld.other W28 (Fld.other W21 (F9.ext E15) (Or.inl (Nat.ne_of_lt (Nat.lt_of_lt_of_le X5.lt (Nat.le_of_eq g14))))) (Or.inl (Nat.ne_of_lt (Nat.lt_of_lt_of_le X5.lt (Nat.le_of_eq g14))))) (Fld.other W28 (Fld.other W21 (F10.ext E15) (Or.inl (Nat.ne_of_lt (Nat.lt_of_lt_of_le X5.lt (Nat.le_of_eq g14))))) (Or.inl (Nat.ne_of_lt (Nat.lt_of_lt_of_le X5.lt (Nat.le_of_eq g14))))) A33 (Nat.ne_of_lt (Nat.lt_of_lt_of_le X5.lt (Nat.le_of_eq g14))) P1 P2 P3 P4) [(.ref a13)] [(.ref a2)] (lenOf pd333 rfl) (d16_51 hby) ?_
  intro T34 h36 v37 lo38 fs39 K35 Kp40 q41
  rcases q41 with qq41_0 | qq41_1
  · obtain ⟨t42, rfl, rfl, f43, f44, f45, f46, f47, f48, f49⟩ := qq41_0
    have K50 := K35.to 4 12 [a13, a2]
    refine Owe.stk [(.ref a2)] ?_
    exact oRetA K50 [] hret rfl rfl (d16_54 hby) (by decide) (by decide) hlk (fun x hx => by cases hx) ⟨a2, rfl, rfl, (Str.lat f43 f44 f45 f46 ⟨f48, f49, trivial⟩)⟩
  · obtain ⟨t51, rfl, rfl, f52, f53, f54, f55, f56⟩ := qq41_1
    have K57 := K35.to 4 12 [a13, a2]
    refine Owe.stk [(.ref a2)] ?_
    exact oRetA K57 [] hret rfl rfl (d16_54 hby) (by decide) (by decide) hlk (fun x hx => by cases hx) ⟨a2, rfl, rfl, (Str.wide f52 f53 f54 f55)⟩
theorem d16_55 : DC y16 55 (.iload_n 1) 1 := hb' (by decide +kernel)
theorem d16_56 : DC y16 56 (.iconst 3) 1 := hb' (by decide +kernel)
theorem d16_57 : DC y16 57 (.if_icmp .ne 32) 3 := hb' (by decide +kernel)
theorem d16_60 : DC y16 60 (.new 12) 3 := hb' (by decide +kernel)
theorem d16_63 : DC y16 63 (.dup) 1 := hb' (by decide +kernel)
theorem d16_64 : DC y16 64 (.iconst 3) 1 := hb' (by decide +kernel)
theorem d16_65 : DC y16 65 (.newarray .char) 2 := hb' (by decide +kernel)
theorem d16_67 : DC y16 67 (.dup) 1 := hb' (by decide +kernel)
theorem d16_68 : DC y16 68 (.iconst 0) 1 := hb' (by decide +kernel)
theorem d16_69 : DC y16 69 (.aload_n 0) 1 := hb' (by decide +kernel)
theorem d16_70 : DC y16 70 (.iconst 0) 1 := hb' (by decide +kernel)
theorem d16_71 : DC y16 71 (.caload) 1 := hb' (by decide +kernel)
theorem d16_72 : DC y16 72 (.castore) 1 := hb' (by decide +kernel)
theorem d16_73 : DC y16 73 (.dup) 1 := hb' (by decide +kernel)
theorem d16_74 : DC y16 74 (.iconst 1) 1 := hb' (by decide +kernel)
theorem d16_75 : DC y16 75 (.aload_n 0) 1 := hb' (by decide +kernel)
theorem d16_76 : DC y16 76 (.iconst 1) 1 := hb' (by decide +kernel)
theorem d16_77 : DC y16 77 (.caload) 1 := hb' (by decide +kernel)
theorem d16_78 : DC y16 78 (.castore) 1 := hb' (by decide +kernel)
theorem d16_79 : DC y16 79 (.dup) 1 := hb' (by decide +kernel)
theorem d16_80 : DC y16 80 (.iconst 2) 1 := hb' (by decide +kernel)
theorem d16_81 : DC y16 81 (.aload_n 0) 1 := hb' (by decide +kernel)
theorem d16_82 : DC y16 82 (.iconst 2) 1 := hb' (by decide +kernel)
theorem d16_83 : DC y16 83 (.caload) 1 := hb' (by decide +kernel)
theorem d16_84 : DC y16 84 (.castore) 1 := hb' (by decide +kernel)
theorem d16_85 : DC y16 85 (.invokespecial 14) 3 := hb' (by decide +kernel)
theorem d16_88 : DC y16 88 (.areturn) 1 := hb' (by decide +kernel)
theorem rmStr3 (G : Gl Z a0 z0 fm) (b : Addr) (c0 c1 c2 c3 : Int32) (h0 : Heap) (hZh : Ext Z.heap h0) (hsf : Own Z h0 []) (P0 : Ary Z h0 b .char [(.int c0), (.int c1), (.int c2), (.int c3)]) (P1 : ¬ c0 < (0 : Int32)) (P2 : ¬ (65535 : Int32) < c0) (P3 : ¬ c1 < (0 : Int32)) (P4 : ¬ (65535 : Int32) < c1) (P5 : ¬ c2 < (0 : Int32)) (P6 : ¬ (65535 : Int32) < c2) (P7 : ¬ c3 < (0 : Int32)) (P8 : ¬ (65535 : Int32) < c3) :
    Ctr l Z ELs yn335 method_5_code 2 (some (.object "java/lang/String")) [] (rmk 6 4 16 88) #[(.ref b), (.int 3)] [] h0 (fun v h fs => (∃ x : Addr, fs = [] ∧ v = some (.ref x) ∧ Str Z h h.size x [c0, c1, c2])) := by
  obtain ⟨hw, hEL, wS, OS, hz0, OA, OH, OL, OF, rfm⟩ := id G
  refine Ctr.intro pn324 hEL hZh hsf ?_
  intro p e s m below meth c s₁ hby hml hret hnm hlk hh K0
  refine Owe.cast (ef123 m b ((3 : Int32))) ?_
  show Owe _ _ _ _ s₁ (mkF m 0 #[.val (.ref b), .val (.int 3)] [])
  refine oIloadN K0 1 (d16_0 hby) rfl ?_
  refine oIfYes K0 15 (d16_1 hby) (XT.i0_ne_t (by decide)) ?_
  refine oIloadN K0 16 (d16_15 hby) rfl ?_
  refine oIconstV K0 17 (1 : Int32) (d16_16 hby) rfl ?_
  refine oIcmpYes K0 27 (d16_17 hby) (XT.ii_ne_t (by decide)) ?_
  refine oIloadN K0 28 (d16_27 hby) rfl ?_
  refine oIconstV K0 29 (2 : Int32) (d16_28 hby) rfl ?_
  refine oIcmpYes K0 55 (d16_29 hby) (XT.ii_ne_t (by decide)) ?_
  refine oIloadN K0 56 (d16_55 hby) rfl ?_
  refine oIconstV K0 57 (3 : Int32) (d16_56 hby) rfl ?_
  refine oIcmpNo K0 60 (d16_57 hby) (XT.ii_ne_f (by decide)) ?_
  refine oNew K0 63 (wq hw 12) (wq hw 13) (wq hw 14) (d16_60 hby) (by decide) (by decide) ?_
  intro T7 h1 a2 g3 K8 E4 X5 D6
  have F9 : Fld Z h1 a2 "java/lang/String" "value" "[B" .null := D6 (Or.inr (wq hw 27)) (ty := (.array .byte)) (by decide)
  have F10 : Fld Z h1 a2 "java/lang/String" "coder" "B" (.int 0) := D6 (Or.inr (wq hw 28)) (ty := .byte) (by decide)
  have K11 := K8.to 1 4 [a2]
  refine oDup K11 64 (d16_63 hby) rfl ?_
  refine oIconstV K11 65 (3 : Int32) (d16_64 hby) rfl ?_
  refine oNewP K11 67 (ty := .char) 3 (wq hw 1) rfl (by decide) (by decide) (by decide) (d16_65 hby) (by decide) (by decide) ?_
  intro T17 h12 a13 g14 K18 E15 A16
  have K19 := K18.to 2 7 [a13, a2]
  refine oDup K19 68 (d16_67 hby) rfl ?_
  refine oIconstV K19 69 (0 : Int32) (d16_68 hby) rfl ?_
  refine oAloadN K19 70 (d16_69 hby) rfl rfl ?_
  refine oIconstV K19 71 (0 : Int32) (d16_70 hby) rfl ?_
  refine oCaload K19 72 ((P0.ext E4).ext E15) 0 (by decide) (by decide) rfl (d16_71 hby) ?_
  refine oCastore K19 73 (by simp) A16 0 (by decide) (by decide) nlt (nar_rng P1 P2) (d16_72 hby) ?_
  intro T24 h20 lo23 K25 W21 A22
  have A26 : Ary Z h20 a13 .char [(.int c0), (.int 0), (.int 0)] := A22
  refine oDup K25 74 (d16_73 hby) rfl ?_
  refine oIconstV K25 75 (1 : Int32) (d16_74 hby) rfl ?_
  refine oAloadN K25 76 (d16_75 hby) rfl rfl ?_
  refine oIconstV K25 77 (1 : Int32) (d16_76 hby) rfl ?_
  refine oCaload K25 78 (Ary.other ((P0.ext E4).ext E15) W21 (Nat.ne_of_lt (Nat.lt_of_lt_of_le (Nat.lt_of_lt_of_le P0.lt E4.1) (Nat.le_of_eq g14)))) 1 (by decide) (by decide) rfl (d16_77 hby) ?_
  refine oCastore K25 79 (by simp) A26 1 (by decide) (by decide) nlt (nar_rng P3 P4) (d16_78 hby) ?_
  intro T31 h27 lo30 K32 W28 A29
  have A33 : Ary Z h27 a13 .char [(.int c0), (.int c1), (.int 0)] := A29
  refine oDup K32 80 (d16_79 hby) rfl ?_
  refine oIconstV K32 81 (2 : Int32) (d16_80 hby) rfl ?_
  refine oAloadN K32 82 (d16_81 hby) rfl rfl ?_
  refine oIconstV K32 83 (2 : Int32) (d16_82 hby) rfl ?_
  refine oCaload K32 84 (Ary.other (Ary.other ((P0.ext E4).ext E15) W21 (Nat.ne_of_lt (Nat.lt_of_lt_of_le (Nat.lt_of_lt_of_le P0.lt E4.1) (Nat.le_of_eq g14)))) W28 (Nat.ne_of_lt (Nat.lt_of_lt_of_le (Nat.lt_of_lt_of_le P0.lt E4.1) (Nat.le_of_eq g14)))) 2 (by decide) (by decide) rfl (d16_83 hby) ?_
  refine oCastore K32 85 (by simp) A33 2 (by decide) (by decide) nlt (nar_rng P5 P6) (d16_84 hby) ?_
  intro T38 h34 lo37 K39 W35 A36
  have A40 : Ary Z h34 a13 .char [(.int c0), (.int c1), (.int c2)] := A36
  refine oSpecial K39 88 1 (wq hw 15) (wq hw 16) (wq hw 14) (wq hw 17) (rmN1_3 l Z a0 z0 fm G a2 a13 c0 c1 c2 h34 K39.old K39.both ((((X5.ext E15).wr W21).wr W28).wr W35) (Fld.other W35 (Fld.other W28 (Fld.other W21 (F9.ext E15) (Or.inl (Nat.ne_of_lt (Nat.lt_of_lt_of_le X5.lt (Nat.le_of_eq g14))))) (Or.inl (Nat.ne_of_lt (Nat.lt_of_lt_of_le X5.lt (Nat.le_of_eq g14))))) (Or.inl (Nat.ne_of_lt (Nat.lt_of_lt_of_le X5.lt (Nat.le_of_eq g14))))) (Fld.other W35 (Fld.other W28 (Fld.other W21 (F10.ext E15) (Or.inl (Nat.ne_of_lt (Nat.lt_of_lt_of_le X5.lt (Nat.le_of_eq g14))))) (Or.inl (Nat.ne_of_lt (Nat.lt_of_lt_of_le X5.lt (Nat.le_of_eq g14))))) (Or.inl (Nat.ne_of_lt (Nat.lt_of_lt_of_le X5.lt (Nat.le_of_eq g14))))) A40 (Nat.ne_of_lt (Nat.lt_of_lt_of_le X5.lt (Nat.le_of_eq g14))) P1 P2 P3 P4 P5 P6) [(.ref a13)] [(.ref a2)] (lenOf pd333 rfl) (d16_85 hby) ?_
  intro T41 h43 v44 lo45 fs46 K42 Kp47 q48
  rcases q48 with qq48_0 | qq48_1
  · obtain ⟨t49, rfl, rfl, f50, f51, f52, f53, f54, f55, f56, f57⟩ := qq48_0
    have K58 := K42.to 4 16 [a13, a2]
    refine Owe.stk [(.ref a2)] ?_
    exact oRetA K58 [] hret rfl rfl (d16_88 hby) (by decide) (by decide) hlk (fun x hx => by cases hx) ⟨a2, rfl, rfl, (Str.lat f50 f51 f52 f53 ⟨f55, f56, f57, trivial⟩)⟩
  · obtain ⟨t59, rfl, rfl, f60, f61, f62, f63, f64⟩ := qq48_1
    have K65 := K42.to 4 16 [a13, a2]
    refine Owe.stk [(.ref a2)] ?_
    exact oRetA K65 [] hret rfl rfl (d16_88 hby) (by decide) (by decide) hlk (fun x hx => by cases hx) ⟨a2, rfl, rfl, (Str.wide f60 f61 f62 f63)⟩
theorem d16_89 : DC y16 89 (.new 12) 3 := hb' (by decide +kernel)
theorem d16_92 : DC y16 92 (.dup) 1 := hb' (by decide +kernel)
theorem d16_93 : DC y16 93 (.iconst 4) 1 := hb' (by decide +kernel)
theorem d16_94 : DC y16 94 (.newarray .char) 2 := hb' (by decide +kernel)
theorem d16_96 : DC y16 96 (.dup) 1 := hb' (by decide +kernel)
theorem d16_97 : DC y16 97 (.iconst 0) 1 := hb' (by decide +kernel)
theorem d16_98 : DC y16 98 (.aload_n 0) 1 := hb' (by decide +kernel)
theorem d16_99 : DC y16 99 (.iconst 0) 1 := hb' (by decide +kernel)
theorem d16_100 : DC y16 100 (.caload) 1 := hb' (by decide +kernel)
theorem d16_101 : DC y16 101 (.castore) 1 := hb' (by decide +kernel)
theorem d16_102 : DC y16 102 (.dup) 1 := hb' (by decide +kernel)
theorem d16_103 : DC y16 103 (.iconst 1) 1 := hb' (by decide +kernel)
theorem d16_104 : DC y16 104 (.aload_n 0) 1 := hb' (by decide +kernel)
theorem d16_105 : DC y16 105 (.iconst 1) 1 := hb' (by decide +kernel)
theorem d16_106 : DC y16 106 (.caload) 1 := hb' (by decide +kernel)
theorem d16_107 : DC y16 107 (.castore) 1 := hb' (by decide +kernel)
theorem d16_108 : DC y16 108 (.dup) 1 := hb' (by decide +kernel)
theorem d16_109 : DC y16 109 (.iconst 2) 1 := hb' (by decide +kernel)
theorem d16_110 : DC y16 110 (.aload_n 0) 1 := hb' (by decide +kernel)
theorem d16_111 : DC y16 111 (.iconst 2) 1 := hb' (by decide +kernel)
theorem d16_112 : DC y16 112 (.caload) 1 := hb' (by decide +kernel)
theorem d16_113 : DC y16 113 (.castore) 1 := hb' (by decide +kernel)
theorem d16_114 : DC y16 114 (.dup) 1 := hb' (by decide +kernel)
theorem d16_115 : DC y16 115 (.iconst 3) 1 := hb' (by decide +kernel)
theorem d16_116 : DC y16 116 (.aload_n 0) 1 := hb' (by decide +kernel)
theorem d16_117 : DC y16 117 (.iconst 3) 1 := hb' (by decide +kernel)
theorem d16_118 : DC y16 118 (.caload) 1 := hb' (by decide +kernel)
theorem d16_119 : DC y16 119 (.castore) 1 := hb' (by decide +kernel)
theorem d16_120 : DC y16 120 (.invokespecial 14) 3 := hb' (by decide +kernel)
theorem d16_123 : DC y16 123 (.areturn) 1 := hb' (by decide +kernel)
theorem rmStr4 (G : Gl Z a0 z0 fm) (b : Addr) (c0 c1 c2 c3 : Int32) (h0 : Heap) (hZh : Ext Z.heap h0) (hsf : Own Z h0 []) (P0 : Ary Z h0 b .char [(.int c0), (.int c1), (.int c2), (.int c3)]) (P1 : ¬ c0 < (0 : Int32)) (P2 : ¬ (65535 : Int32) < c0) (P3 : ¬ c1 < (0 : Int32)) (P4 : ¬ (65535 : Int32) < c1) (P5 : ¬ c2 < (0 : Int32)) (P6 : ¬ (65535 : Int32) < c2) (P7 : ¬ c3 < (0 : Int32)) (P8 : ¬ (65535 : Int32) < c3) :
    Ctr l Z ELs yn335 method_5_code 2 (some (.object "java/lang/String")) [] (rmk 6 4 20 88) #[(.ref b), (.int 4)] [] h0 (fun v h fs => (∃ x : Addr, fs = [] ∧ v = some (.ref x) ∧ Str Z h h.size x [c0, c1, c2, c3])) := by
  obtain ⟨hw, hEL, wS, OS, hz0, OA, OH, OL, OF, rfm⟩ := id G
  refine Ctr.intro pn324 hEL hZh hsf ?_
  intro p e s m below meth c s₁ hby hml hret hnm hlk hh K0
  refine Owe.cast (ef123 m b ((4 : Int32))) ?_
  show Owe _ _ _ _ s₁ (mkF m 0 #[.val (.ref b), .val (.int 4)] [])
  refine oIloadN K0 1 (d16_0 hby) rfl ?_
  refine oIfYes K0 15 (d16_1 hby) (XT.i0_ne_t (by decide)) ?_
  refine oIloadN K0 16 (d16_15 hby) rfl ?_
  refine oIconstV K0 17 (1 : Int32) (d16_16 hby) rfl ?_
  refine oIcmpYes K0 27 (d16_17 hby) (XT.ii_ne_t (by decide)) ?_
  refine oIloadN K0 28 (d16_27 hby) rfl ?_
  refine oIconstV K0 29 (2 : Int32) (d16_28 hby) rfl ?_
  refine oIcmpYes K0 55 (d16_29 hby) (XT.ii_ne_t (by decide)) ?_
  refine oIloadN K0 56 (d16_55 hby) rfl ?_
  refine oIconstV K0 57 (3 : Int32) (d16_56 hby) rfl ?_
  refine oIcmpYes K0 89 (d16_57 hby) (XT.ii_ne_t (by decide)) ?_
  refine oNew K0 92 (wq hw 12) (wq hw 13) (wq hw 14) (d16_89 hby) (by decide) (by decide) ?_
  intro T7 h1 a2 g3 K8 E4 X5 D6
  have F9 : Fld Z h1 a2 "java/lang/String" "value" "[B" .null := D6 (Or.inr (wq hw 27)) (ty := (.array .byte)) (by decide)
  have F10 : Fld Z h1 a2 "java/lang/String" "coder" "B" (.int 0) := D6 (Or.inr (wq hw 28)) (ty := .byte) (by decide)
  have K11 := K8.to 1 4 [a2]
  refine oDup K11 93 (d16_92 hby) rfl ?_
  refine oIconstV K11 94 (4 : Int32) (d16_93 hby) rfl ?_
  refine oNewP K11 96 (ty := .char) 4 (wq hw 1) rfl (by decide) (by decide) (by decide) (d16_94 hby) (by decide) (by decide) ?_
  intro T17 h12 a13 g14 K18 E15 A16
  have K19 := K18.to 2 8 [a13, a2]
  refine oDup K19 97 (d16_96 hby) rfl ?_
  refine oIconstV K19 98 (0 : Int32) (d16_97 hby) rfl ?_
  refine oAloadN K19 99 (d16_98 hby) rfl rfl ?_
  refine oIconstV K19 100 (0 : Int32) (d16_99 hby) rfl ?_
  refine oCaload K19 101 ((P0.ext E4).ext E15) 0 (by decide) (by decide) rfl (d16_100 hby) ?_
  refine oCastore K19 102 (by simp) A16 0 (by decide) (by decide) nlt (nar_rng P1 P2) (d16_101 hby) ?_
  intro T24 h20 lo23 K25 W21 A22
  have A26 : Ary Z h20 a13 .char [(.int c0), (.int 0), (.int 0), (.int 0)] := A22
  refine oDup K25 103 (d16_102 hby) rfl ?_
  refine oIconstV K25 104 (1 : Int32) (d16_103 hby) rfl ?_
  refine oAloadN K25 105 (d16_104 hby) rfl rfl ?_
  refine oIconstV K25 106 (1 : Int32) (d16_105 hby) rfl ?_
  refine oCaload K25 107 (Ary.other ((P0.ext E4).ext E15) W21 (Nat.ne_of_lt (Nat.lt_of_lt_of_le (Nat.lt_of_lt_of_le P0.lt E4.1) (Nat.le_of_eq g14)))) 1 (by decide) (by decide) rfl (d16_106 hby) ?_
  refine oCastore K25 108 (by simp) A26 1 (by decide) (by decide) nlt (nar_rng P3 P4) (d16_107 hby) ?_
  intro T31 h27 lo30 K32 W28 A29
  have A33 : Ary Z h27 a13 .char [(.int c0), (.int c1), (.int 0), (.int 0)] := A29
  refine oDup K32 109 (d16_108 hby) rfl ?_
  refine oIconstV K32 110 (2 : Int32) (d16_109 hby) rfl ?_
  refine oAloadN K32 111 (d16_110 hby) rfl rfl ?_
  refine oIconstV K32 112 (2 : Int32) (d16_111 hby) rfl ?_
  refine oCaload K32 113 (Ary.other (Ary.other ((P0.ext E4).ext E15) W21 (Nat.ne_of_lt (Nat.lt_of_lt_of_le (Nat.lt_of_lt_of_le P0.lt E4.1) (Nat.le_of_eq g14)))) W28 (Nat.ne_of_lt (Nat.lt_of_lt_of_le (Nat.lt_of_lt_of_le P0.lt E4.1) (Nat.le_of_eq g14)))) 2 (by decide) (by decide) rfl (d16_112 hby) ?_
  refine oCastore K32 114 (by simp) A33 2 (by decide) (by decide) nlt (nar_rng P5 P6) (d16_113 hby) ?_
  intro T38 h34 lo37 K39 W35 A36
  have A40 : Ary Z h34 a13 .char [(.int c0), (.int c1), (.int c2), (.int 0)] := A36
  refine oDup K39 115 (d16_114 hby) rfl ?_
  refine oIconstV K39 116 (3 : Int32) (d16_115 hby) rfl ?_
  refine oAloadN K39 117 (d16_116 hby) rfl rfl ?_
  refine oIconstV K39 118 (3 : Int32) (d16_117 hby) rfl ?_
  refine oCaload K39 119 (Ary.other (Ary.other (Ary.other ((P0.ext E4).ext E15) W21 (Nat.ne_of_lt (Nat.lt_of_lt_of_le (Nat.lt_of_lt_of_le P0.lt E4.1) (Nat.le_of_eq g14)))) W28 (Nat.ne_of_lt (Nat.lt_of_lt_of_le (Nat.lt_of_lt_of_le P0.lt E4.1) (Nat.le_of_eq g14)))) W35 (Nat.ne_of_lt (Nat.lt_of_lt_of_le (Nat.lt_of_lt_of_le P0.lt E4.1) (Nat.le_of_eq g14)))) 3 (by decide) (by decide) rfl (d16_118 hby) ?_
  refine oCastore K39 120 (by simp) A40 3 (by decide) (by decide) nlt (nar_rng P7 P8) (d16_119 hby) ?_
  intro T45 h41 lo44 K46 W42 A43
  have A47 : Ary Z h41 a13 .char [(.int c0), (.int c1), (.int c2), (.int c3)] := A43
  refine oSpecial K46 123 1 (wq hw 15) (wq hw 16) (wq hw 14) (wq hw 17) (rmN1_4 l Z a0 z0 fm G a2 a13 c0 c1 c2 c3 h41 K46.old K46.both (((((X5.ext E15).wr W21).wr W28).wr W35).wr W42) (Fld.other W42 (Fld.other W35 (Fld.other W28 (Fld.other W21 (F9.ext E15) (Or.inl (Nat.ne_of_lt (Nat.lt_of_lt_of_le X5.lt (Nat.le_of_eq g14))))) (Or.inl (Nat.ne_of_lt (Nat.lt_of_lt_of_le X5.lt (Nat.le_of_eq g14))))) (Or.inl (Nat.ne_of_lt (Nat.lt_of_lt_of_le X5.lt (Nat.le_of_eq g14))))) (Or.inl (Nat.ne_of_lt (Nat.lt_of_lt_of_le X5.lt (Nat.le_of_eq g14))))) (Fld.other W42 (Fld.other W35 (Fld.other W28 (Fld.other W21 (F10.ext E15) (Or.inl (Nat.ne_of_lt (Nat.lt_of_lt_of_le X5.lt (Nat.le_of_eq g14))))) (Or.inl (Nat.ne_of_lt (Nat.lt_of_lt_of_le X5.lt (Nat.le_of_eq g14))))) (Or.inl (Nat.ne_of_lt (Nat.lt_of_lt_of_le X5.lt (Nat.le_of_eq g14))))) (Or.inl (Nat.ne_of_lt (Nat.lt_of_lt_of_le X5.lt (Nat.le_of_eq g14))))) A47 (Nat.ne_of_lt (Nat.lt_of_lt_of_le X5.lt (Nat.le_of_eq g14))) P1 P2 P3 P4 P5 P6 P7 P8) [(.ref a13)] [(.ref a2)] (lenOf pd333 rfl) (d16_120 hby) ?_
  intro T48 h50 v51 lo52 fs53 K49 Kp54 q55
  rcases q55 with qq55_0 | qq55_1
  · obtain ⟨t56, rfl, rfl, f57, f58, f59, f60, f61, f62, f63, f64, f65⟩ := qq55_0
    have K66 := K49.to 4 20 [a13, a2]
    refine Owe.stk [(.ref a2)] ?_
    exact oRetA K66 [] hret rfl rfl (d16_123 hby) (by decide) (by decide) hlk (fun x hx => by cases hx) ⟨a2, rfl, rfl, (Str.lat f57 f58 f59 f60 ⟨f62, f63, f64, f65, trivial⟩)⟩
  · obtain ⟨t67, rfl, rfl, f68, f69, f70, f71, f72⟩ := qq55_1
    have K73 := K49.to 4 20 [a13, a2]
    refine Owe.stk [(.ref a2)] ?_
    exact oRetA K73 [] hret rfl rfl (d16_123 hby) (by decide) (by decide) hlk (fun x hx => by cases hx) ⟨a2, rfl, rfl, (Str.wide f68 f69 f70 f71)⟩
abbrev y17 := method_2_code
theorem d17_0 : DC y17 0 (.iload_n 0) 1 := hb' (by decide +kernel)
theorem d17_1 : DC y17 1 (.ldc 7) 2 := hb' (by decide +kernel)
theorem d17_3 : DC y17 3 (.if_icmp .lt 13) 3 := hb' (by decide +kernel)
theorem d17_16 : DC y17 16 (.iconst 0) 1 := hb' (by decide +kernel)
theorem d17_17 : DC y17 17 (.ireturn) 1 := hb' (by decide +kernel)
theorem d17_6 : DC y17 6 (.iload_n 0) 1 := hb' (by decide +kernel)
theorem d17_7 : DC y17 7 (.ldc 8) 2 := hb' (by decide +kernel)
theorem d17_9 : DC y17 9 (.if_icmp .gt 7) 3 := hb' (by decide +kernel)
theorem d17_12 : DC y17 12 (.iconst 1) 1 := hb' (by decide +kernel)
theorem d17_13 : DC y17 13 (.goto 4) 3 := hb' (by decide +kernel)
abbrev yn434 : MethodName := ⟨"com/example/mangrove/mangrove/Utf8TextLoneSurrogateAtPinLaw", "isHigh", "(C)Z"⟩
theorem rmIsH (G : Gl Z a0 z0 fm) (cc : Int32) (h0 : Heap) (hZh : Ext Z.heap h0) (hsf : Own Z h0 []) :
    Ctr l Z ELs yn434 method_2_code 1 (some .boolean) [] (rmk 0 0 0 0) #[(.int cc)] [] h0 (fun v h fs => (fs = [] ∧ v = some (.int 1) ∧ hiI cc) ∨ (fs = [] ∧ v = some (.int 0) ∧ ¬ hiI cc)) := by
  obtain ⟨hw, hEL, wS, OS, hz0, OA, OH, OL, OF, rfm⟩ := id G
  refine Ctr.intro pn324 hEL hZh hsf ?_
  intro p e s m below meth c s₁ hby hml hret hnm hlk hh K0
  refine Owe.cast (ef39 m cc) ?_
  show Owe _ _ _ _ s₁ (mkF m 0 #[.val (.int cc)] [])
  refine oIloadN K0 1 (d17_0 hby) rfl ?_
  refine oLdcI K0 3 (wq hw 8) (d17_1 hby) ?_
  by_cases hc1 : cc < (55296 : Int32)
  · refine oIcmpYes K0 16 (d17_3 hby) (XT.ii_lt_t hc1) ?_
    refine oIconstV K0 17 (0 : Int32) (d17_16 hby) rfl ?_
    exact oRetI K0 [] (t := .boolean) hret (by simp) (by decide) (d17_17 hby) (by decide) (by decide) hlk (fun x hx => by cases hx) (Or.inr ⟨rfl, rfl, (by simp only [hiI, loI, Int32.lt_iff_toInt_lt, Int32.reduceToInt] at hc1 ⊢; omega)⟩)
  · refine oIcmpNo K0 6 (d17_3 hby) (XT.ii_lt_f hc1) ?_
    refine oIloadN K0 7 (d17_6 hby) rfl ?_
    refine oLdcI K0 9 (wq hw 124) (d17_7 hby) ?_
    by_cases hc2 : (56319 : Int32) < cc
    · refine oIcmpYes K0 16 (d17_9 hby) (XT.ii_gt_t hc2) ?_
      refine oIconstV K0 17 (0 : Int32) (d17_16 hby) rfl ?_
      exact oRetI K0 [] (t := .boolean) hret (by simp) (by decide) (d17_17 hby) (by decide) (by decide) hlk (fun x hx => by cases hx) (Or.inr ⟨rfl, rfl, (by simp only [hiI, loI, Int32.lt_iff_toInt_lt, Int32.reduceToInt] at hc1 hc2 ⊢; omega)⟩)
    · refine oIcmpNo K0 12 (d17_9 hby) (XT.ii_gt_f hc2) ?_
      refine oIconstV K0 13 (1 : Int32) (d17_12 hby) rfl ?_
      refine oGoto K0 17 (d17_13 hby) ?_
      exact oRetI K0 [] (t := .boolean) hret (by simp) (by decide) (d17_17 hby) (by decide) (by decide) hlk (fun x hx => by cases hx) (Or.inl ⟨rfl, rfl, (by simp only [hiI, loI, Int32.lt_iff_toInt_lt, Int32.reduceToInt] at hc1 hc2 ⊢; omega)⟩)
abbrev y18 := method_3_code
theorem d18_0 : DC y18 0 (.iload_n 0) 1 := hb' (by decide +kernel)
theorem d18_1 : DC y18 1 (.ldc 9) 2 := hb' (by decide +kernel)
theorem d18_3 : DC y18 3 (.if_icmp .lt 13) 3 := hb' (by decide +kernel)
theorem d18_16 : DC y18 16 (.iconst 0) 1 := hb' (by decide +kernel)
theorem d18_17 : DC y18 17 (.ireturn) 1 := hb' (by decide +kernel)
theorem d18_6 : DC y18 6 (.iload_n 0) 1 := hb' (by decide +kernel)
theorem d18_7 : DC y18 7 (.ldc 10) 2 := hb' (by decide +kernel)
theorem d18_9 : DC y18 9 (.if_icmp .gt 7) 3 := hb' (by decide +kernel)
theorem d18_12 : DC y18 12 (.iconst 1) 1 := hb' (by decide +kernel)
theorem d18_13 : DC y18 13 (.goto 4) 3 := hb' (by decide +kernel)
abbrev yn446 : MethodName := ⟨"com/example/mangrove/mangrove/Utf8TextLoneSurrogateAtPinLaw", "isLow", "(C)Z"⟩
theorem rmIsL (G : Gl Z a0 z0 fm) (cc : Int32) (h0 : Heap) (hZh : Ext Z.heap h0) (hsf : Own Z h0 []) :
    Ctr l Z ELs yn446 method_3_code 1 (some .boolean) [] (rmk 0 0 0 0) #[(.int cc)] [] h0 (fun v h fs => (fs = [] ∧ v = some (.int 1) ∧ loI cc) ∨ (fs = [] ∧ v = some (.int 0) ∧ ¬ loI cc)) := by
  obtain ⟨hw, hEL, wS, OS, hz0, OA, OH, OL, OF, rfm⟩ := id G
  refine Ctr.intro pn324 hEL hZh hsf ?_
  intro p e s m below meth c s₁ hby hml hret hnm hlk hh K0
  refine Owe.cast (ef39 m cc) ?_
  show Owe _ _ _ _ s₁ (mkF m 0 #[.val (.int cc)] [])
  refine oIloadN K0 1 (d18_0 hby) rfl ?_
  refine oLdcI K0 3 (wq hw 7) (d18_1 hby) ?_
  by_cases hc1 : cc < (56320 : Int32)
  · refine oIcmpYes K0 16 (d18_3 hby) (XT.ii_lt_t hc1) ?_
    refine oIconstV K0 17 (0 : Int32) (d18_16 hby) rfl ?_
    exact oRetI K0 [] (t := .boolean) hret (by simp) (by decide) (d18_17 hby) (by decide) (by decide) hlk (fun x hx => by cases hx) (Or.inr ⟨rfl, rfl, (by simp only [hiI, loI, Int32.lt_iff_toInt_lt, Int32.reduceToInt] at hc1 ⊢; omega)⟩)
  · refine oIcmpNo K0 6 (d18_3 hby) (XT.ii_lt_f hc1) ?_
    refine oIloadN K0 7 (d18_6 hby) rfl ?_
    refine oLdcI K0 9 (wq hw 125) (d18_7 hby) ?_
    by_cases hc2 : (57343 : Int32) < cc
    · refine oIcmpYes K0 16 (d18_9 hby) (XT.ii_gt_t hc2) ?_
      refine oIconstV K0 17 (0 : Int32) (d18_16 hby) rfl ?_
      exact oRetI K0 [] (t := .boolean) hret (by simp) (by decide) (d18_17 hby) (by decide) (by decide) hlk (fun x hx => by cases hx) (Or.inr ⟨rfl, rfl, (by simp only [hiI, loI, Int32.lt_iff_toInt_lt, Int32.reduceToInt] at hc1 hc2 ⊢; omega)⟩)
    · refine oIcmpNo K0 12 (d18_9 hby) (XT.ii_gt_f hc2) ?_
      refine oIconstV K0 13 (1 : Int32) (d18_12 hby) rfl ?_
      refine oGoto K0 17 (d18_13 hby) ?_
      exact oRetI K0 [] (t := .boolean) hret (by simp) (by decide) (d18_17 hby) (by decide) (by decide) hlk (fun x hx => by cases hx) (Or.inl ⟨rfl, rfl, (by simp only [hiI, loI, Int32.lt_iff_toInt_lt, Int32.reduceToInt] at hc1 hc2 ⊢; omega)⟩)
abbrev y19 := jdk_89_method_14_code
theorem d19_0 : DC y19 0 (.iload_n 0) 1 := hb' (by decide +kernel)
theorem d19_1 : DC y19 1 (.ldc 75) 2 := hb' (by decide +kernel)
theorem d19_3 : DC y19 3 (.if_icmp .lt 13) 3 := hb' (by decide +kernel)
theorem d19_16 : DC y19 16 (.iconst 0) 1 := hb' (by decide +kernel)
theorem d19_17 : DC y19 17 (.ireturn) 1 := hb' (by decide +kernel)
theorem d19_6 : DC y19 6 (.iload_n 0) 1 := hb' (by decide +kernel)
theorem d19_7 : DC y19 7 (.ldc 76) 2 := hb' (by decide +kernel)
theorem d19_9 : DC y19 9 (.if_icmp .ge 7) 3 := hb' (by decide +kernel)
theorem d19_12 : DC y19 12 (.iconst 1) 1 := hb' (by decide +kernel)
theorem d19_13 : DC y19 13 (.goto 4) 3 := hb' (by decide +kernel)
abbrev yn458 : MethodName := ⟨"java/lang/Character", "isHighSurrogate", "(C)Z"⟩
theorem pn459 : plainName "java/lang/Character" = true := by first | (simp [plainName, overriddenIn]; done) | decide +kernel
theorem rmJH (G : Gl Z a0 z0 fm) (cc : Int32) (h0 : Heap) (hZh : Ext Z.heap h0) (hsf : Own Z h0 []) :
    Ctr l Z ELs yn458 jdk_89_method_14_code 1 (some .boolean) [] (rmk 0 0 0 0) #[(.int cc)] [] h0 (fun v h fs => (fs = [] ∧ v = some (.int 1) ∧ hiI cc) ∨ (fs = [] ∧ v = some (.int 0) ∧ ¬ hiI cc)) := by
  obtain ⟨hw, hEL, wS, OS, hz0, OA, OH, OL, OF, rfm⟩ := id G
  refine Ctr.intro pn459 hEL hZh hsf ?_
  intro p e s m below meth c s₁ hby hml hret hnm hlk hh K0
  refine Owe.cast (ef39 m cc) ?_
  show Owe _ _ _ _ s₁ (mkF m 0 #[.val (.int cc)] [])
  refine oIloadN K0 1 (d19_0 hby) rfl ?_
  refine oLdcI K0 3 (wq hw 135) (d19_1 hby) ?_
  by_cases hc1 : cc < (55296 : Int32)
  · refine oIcmpYes K0 16 (d19_3 hby) (XT.ii_lt_t hc1) ?_
    refine oIconstV K0 17 (0 : Int32) (d19_16 hby) rfl ?_
    exact oRetI K0 [] (t := .boolean) hret (by simp) (by decide) (d19_17 hby) (by decide) (by decide) hlk (fun x hx => by cases hx) (Or.inr ⟨rfl, rfl, (by simp only [hiI, loI, Int32.lt_iff_toInt_lt, Int32.reduceToInt] at hc1 ⊢; omega)⟩)
  · refine oIcmpNo K0 6 (d19_3 hby) (XT.ii_lt_f hc1) ?_
    refine oIloadN K0 7 (d19_6 hby) rfl ?_
    refine oLdcI K0 9 (wq hw 136) (d19_7 hby) ?_
    by_cases hc2 : cc < (56320 : Int32)
    · refine oIcmpNo K0 12 (d19_9 hby) (XT.ii_ge_f hc2) ?_
      refine oIconstV K0 13 (1 : Int32) (d19_12 hby) rfl ?_
      refine oGoto K0 17 (d19_13 hby) ?_
      exact oRetI K0 [] (t := .boolean) hret (by simp) (by decide) (d19_17 hby) (by decide) (by decide) hlk (fun x hx => by cases hx) (Or.inl ⟨rfl, rfl, (by simp only [hiI, loI, Int32.lt_iff_toInt_lt, Int32.reduceToInt] at hc1 hc2 ⊢; omega)⟩)
    · refine oIcmpYes K0 16 (d19_9 hby) (XT.ii_ge_t hc2) ?_
      refine oIconstV K0 17 (0 : Int32) (d19_16 hby) rfl ?_
      exact oRetI K0 [] (t := .boolean) hret (by simp) (by decide) (d19_17 hby) (by decide) (by decide) hlk (fun x hx => by cases hx) (Or.inr ⟨rfl, rfl, (by simp only [hiI, loI, Int32.lt_iff_toInt_lt, Int32.reduceToInt] at hc1 hc2 ⊢; omega)⟩)
abbrev y20 := jdk_89_method_15_code
theorem d20_0 : DC y20 0 (.iload_n 0) 1 := hb' (by decide +kernel)
theorem d20_1 : DC y20 1 (.ldc 76) 2 := hb' (by decide +kernel)
theorem d20_3 : DC y20 3 (.if_icmp .lt 13) 3 := hb' (by decide +kernel)
theorem d20_16 : DC y20 16 (.iconst 0) 1 := hb' (by decide +kernel)
theorem d20_17 : DC y20 17 (.ireturn) 1 := hb' (by decide +kernel)
theorem d20_6 : DC y20 6 (.iload_n 0) 1 := hb' (by decide +kernel)
theorem d20_7 : DC y20 7 (.ldc 77) 2 := hb' (by decide +kernel)
theorem d20_9 : DC y20 9 (.if_icmp .ge 7) 3 := hb' (by decide +kernel)
theorem d20_12 : DC y20 12 (.iconst 1) 1 := hb' (by decide +kernel)
theorem d20_13 : DC y20 13 (.goto 4) 3 := hb' (by decide +kernel)
abbrev yn471 : MethodName := ⟨"java/lang/Character", "isLowSurrogate", "(C)Z"⟩
theorem rmJL (G : Gl Z a0 z0 fm) (cc : Int32) (h0 : Heap) (hZh : Ext Z.heap h0) (hsf : Own Z h0 []) :
    Ctr l Z ELs yn471 jdk_89_method_15_code 1 (some .boolean) [] (rmk 0 0 0 0) #[(.int cc)] [] h0 (fun v h fs => (fs = [] ∧ v = some (.int 1) ∧ loI cc) ∨ (fs = [] ∧ v = some (.int 0) ∧ ¬ loI cc)) := by
  obtain ⟨hw, hEL, wS, OS, hz0, OA, OH, OL, OF, rfm⟩ := id G
  refine Ctr.intro pn459 hEL hZh hsf ?_
  intro p e s m below meth c s₁ hby hml hret hnm hlk hh K0
  refine Owe.cast (ef39 m cc) ?_
  show Owe _ _ _ _ s₁ (mkF m 0 #[.val (.int cc)] [])
  refine oIloadN K0 1 (d20_0 hby) rfl ?_
  refine oLdcI K0 3 (wq hw 136) (d20_1 hby) ?_
  by_cases hc1 : cc < (56320 : Int32)
  · refine oIcmpYes K0 16 (d20_3 hby) (XT.ii_lt_t hc1) ?_
    refine oIconstV K0 17 (0 : Int32) (d20_16 hby) rfl ?_
    exact oRetI K0 [] (t := .boolean) hret (by simp) (by decide) (d20_17 hby) (by decide) (by decide) hlk (fun x hx => by cases hx) (Or.inr ⟨rfl, rfl, (by simp only [hiI, loI, Int32.lt_iff_toInt_lt, Int32.reduceToInt] at hc1 ⊢; omega)⟩)
  · refine oIcmpNo K0 6 (d20_3 hby) (XT.ii_lt_f hc1) ?_
    refine oIloadN K0 7 (d20_6 hby) rfl ?_
    refine oLdcI K0 9 (wq hw 144) (d20_7 hby) ?_
    by_cases hc2 : cc < (57344 : Int32)
    · refine oIcmpNo K0 12 (d20_9 hby) (XT.ii_ge_f hc2) ?_
      refine oIconstV K0 13 (1 : Int32) (d20_12 hby) rfl ?_
      refine oGoto K0 17 (d20_13 hby) ?_
      exact oRetI K0 [] (t := .boolean) hret (by simp) (by decide) (d20_17 hby) (by decide) (by decide) hlk (fun x hx => by cases hx) (Or.inl ⟨rfl, rfl, (by simp only [hiI, loI, Int32.lt_iff_toInt_lt, Int32.reduceToInt] at hc1 hc2 ⊢; omega)⟩)
    · refine oIcmpYes K0 16 (d20_9 hby) (XT.ii_ge_t hc2) ?_
      refine oIconstV K0 17 (0 : Int32) (d20_16 hby) rfl ?_
      exact oRetI K0 [] (t := .boolean) hret (by simp) (by decide) (d20_17 hby) (by decide) (by decide) hlk (fun x hx => by cases hx) (Or.inr ⟨rfl, rfl, (by simp only [hiI, loI, Int32.lt_iff_toInt_lt, Int32.reduceToInt] at hc1 hc2 ⊢; omega)⟩)
abbrev y21 := jdk_89_method_19_code
theorem d21_0 : DC y21 0 (.iload_n 0) 1 := hb' (by decide +kernel)
theorem d21_1 : DC y21 1 (.bipush 10) 2 := hb' (by decide +kernel)
theorem d21_3 : DC y21 3 (.ishl) 1 := hb' (by decide +kernel)
theorem d21_4 : DC y21 4 (.iload_n 1) 1 := hb' (by decide +kernel)
theorem d21_5 : DC y21 5 (.iadd) 1 := hb' (by decide +kernel)
theorem d21_6 : DC y21 6 (.ldc 85) 2 := hb' (by decide +kernel)
theorem d21_8 : DC y21 8 (.iadd) 1 := hb' (by decide +kernel)
theorem d21_9 : DC y21 9 (.ireturn) 1 := hb' (by decide +kernel)
theorem ef481 (m : MethodId) (x0 : Int32) (x1 : Int32) : entryFrame m #[(.int x0), (.int x1)] 2 = mkF m 0 #[.val (.int x0), .val (.int x1)] [] := by first | (simp [entryFrame, mkF, argsToLocals, Value.category]; done) | rfl
abbrev yn482 : MethodName := ⟨"java/lang/Character", "toCodePoint", "(CC)I"⟩
theorem rmTCP (G : Gl Z a0 z0 fm) (c0 c1 : Int32) (h0 : Heap) (hZh : Ext Z.heap h0) (hsf : Own Z h0 []) :
    Ctr l Z ELs yn482 jdk_89_method_19_code 2 (some .int) [] (rmk 0 0 0 0) #[(.int c0), (.int c1)] [] h0 (fun v h fs => (fs = [] ∧ v = some (.int (((c0 <<< ((10 : Int32) &&& 31)) + c1) + (-56613888 : Int32))))) := by
  obtain ⟨hw, hEL, wS, OS, hz0, OA, OH, OL, OF, rfm⟩ := id G
  refine Ctr.intro pn459 hEL hZh hsf ?_
  intro p e s m below meth c s₁ hby hml hret hnm hlk hh K0
  refine Owe.cast (ef481 m c0 c1) ?_
  show Owe _ _ _ _ s₁ (mkF m 0 #[.val (.int c0), .val (.int c1)] [])
  refine oIloadN K0 1 (d21_0 hby) rfl ?_
  refine oBipushV K0 3 (10 : Int32) (d21_1 hby) (by decide) ?_
  refine oIshl K0 4 (d21_3 hby) ?_
  refine oIloadN K0 5 (d21_4 hby) rfl ?_
  refine oIadd K0 6 (d21_5 hby) ?_
  refine oLdcI K0 8 (wq hw 148) (d21_6 hby) ?_
  refine oIadd K0 9 (d21_8 hby) ?_
  exact oRetI K0 [] (t := .int) hret (by simp) rfl (d21_9 hby) (by decide) (by decide) hlk (fun x hx => by cases hx) ⟨rfl, rfl⟩
abbrev y22 := jdk_89_method_18_code
theorem d22_0 : DC y22 0 (.iload_n 0) 1 := hb' (by decide +kernel)
theorem d22_1 : DC y22 1 (.ldc 73) 2 := hb' (by decide +kernel)
theorem d22_3 : DC y22 3 (.if_icmp .lt 7) 3 := hb' (by decide +kernel)
theorem d22_10 : DC y22 10 (.iconst 1) 1 := hb' (by decide +kernel)
theorem d22_11 : DC y22 11 (.ireturn) 1 := hb' (by decide +kernel)
abbrev yn489 : MethodName := ⟨"java/lang/Character", "charCount", "(I)I"⟩
theorem rmCC1 (G : Gl Z a0 z0 fm) (cc : Int32) (h0 : Heap) (hZh : Ext Z.heap h0) (hsf : Own Z h0 []) (P0 : cc < (65536 : Int32)) :
    Ctr l Z ELs yn489 jdk_89_method_18_code 1 (some .int) [] (rmk 0 0 0 0) #[(.int cc)] [] h0 (fun v h fs => (fs = [] ∧ v = some (.int 1))) := by
  obtain ⟨hw, hEL, wS, OS, hz0, OA, OH, OL, OF, rfm⟩ := id G
  refine Ctr.intro pn459 hEL hZh hsf ?_
  intro p e s m below meth c s₁ hby hml hret hnm hlk hh K0
  refine Owe.cast (ef39 m cc) ?_
  show Owe _ _ _ _ s₁ (mkF m 0 #[.val (.int cc)] [])
  refine oIloadN K0 1 (d22_0 hby) rfl ?_
  refine oLdcI K0 3 (wq hw 90) (d22_1 hby) ?_
  refine oIcmpYes K0 10 (d22_3 hby) (XT.ii_lt_t P0) ?_
  refine oIconstV K0 11 (1 : Int32) (d22_10 hby) rfl ?_
  exact oRetI K0 [] (t := .int) hret (by simp) rfl (d22_11 hby) (by decide) (by decide) hlk (fun x hx => by cases hx) ⟨rfl, rfl⟩
theorem d22_6 : DC y22 6 (.iconst 2) 1 := hb' (by decide +kernel)
theorem d22_7 : DC y22 7 (.goto 4) 3 := hb' (by decide +kernel)
theorem rmCC2 (G : Gl Z a0 z0 fm) (cc : Int32) (h0 : Heap) (hZh : Ext Z.heap h0) (hsf : Own Z h0 []) (P0 : ¬ cc < (65536 : Int32)) :
    Ctr l Z ELs yn489 jdk_89_method_18_code 1 (some .int) [] (rmk 0 0 0 0) #[(.int cc)] [] h0 (fun v h fs => (fs = [] ∧ v = some (.int 2))) := by
  obtain ⟨hw, hEL, wS, OS, hz0, OA, OH, OL, OF, rfm⟩ := id G
  refine Ctr.intro pn459 hEL hZh hsf ?_
  intro p e s m below meth c s₁ hby hml hret hnm hlk hh K0
  refine Owe.cast (ef39 m cc) ?_
  show Owe _ _ _ _ s₁ (mkF m 0 #[.val (.int cc)] [])
  refine oIloadN K0 1 (d22_0 hby) rfl ?_
  refine oLdcI K0 3 (wq hw 90) (d22_1 hby) ?_
  refine oIcmpNo K0 6 (d22_3 hby) (XT.ii_lt_f P0) ?_
  refine oIconstV K0 7 (2 : Int32) (d22_6 hby) rfl ?_
  refine oGoto K0 11 (d22_7 hby) ?_
  exact oRetI K0 [] (t := .int) hret (by simp) rfl (d22_11 hby) (by decide) (by decide) hlk (fun x hx => by cases hx) ⟨rfl, rfl⟩
abbrev y23 := method_6_code
theorem d23_0 : DC y23 0 (.iload_n 3) 1 := hb' (by decide +kernel)
theorem d23_1 : DC y23 1 (.iload_n 2) 1 := hb' (by decide +kernel)
theorem d23_2 : DC y23 2 (.if_icmp .lt 8) 3 := hb' (by decide +kernel)
theorem d23_10 : DC y23 10 (.iconst 0) 1 := hb' (by decide +kernel)
theorem d23_11 : DC y23 11 (.ireturn) 1 := hb' (by decide +kernel)
theorem ef498 (m : MethodId) (x0 : Addr) (x1 : Int32) (x2 : Int32) (x3 : Int32) : entryFrame m #[(.ref x0), (.int x1), (.int x2), (.int x3)] 5 = mkF m 0 #[.val (.ref x0), .val (.int x1), .val (.int x2), .val (.int x3), .unset] [] := by first | (simp [entryFrame, mkF, argsToLocals, Value.category]; done) | rfl
abbrev yn499 : MethodName := ⟨"com/example/mangrove/mangrove/Utf8TextLoneSurrogateAtPinLaw", "loneAt", "([CIII)Z"⟩
theorem rmLA0_a (G : Gl Z a0 z0 fm) (b : Addr) (n f : Int32) (h0 : Heap) (hZh : Ext Z.heap h0) (hsf : Own Z h0 []) (P0 : (0 : Int32) < f) :
    Ctr l Z ELs yn499 method_6_code 5 (some .boolean) [] (rmk 0 0 0 0) #[(.ref b), (.int n), (.int f), (.int 0)] [] h0 (fun v h fs => (fs = [] ∧ v = some (.int 0))) := by
  obtain ⟨hw, hEL, wS, OS, hz0, OA, OH, OL, OF, rfm⟩ := id G
  refine Ctr.intro pn324 hEL hZh hsf ?_
  intro p e s m below meth c s₁ hby hml hret hnm hlk hh K0
  refine Owe.cast (ef498 m b n f ((0 : Int32))) ?_
  show Owe _ _ _ _ s₁ (mkF m 0 #[.val (.ref b), .val (.int n), .val (.int f), .val (.int 0), .unset] [])
  refine oIloadN K0 1 (d23_0 hby) rfl ?_
  refine oIloadN K0 2 (d23_1 hby) rfl ?_
  refine oIcmpYes K0 10 (d23_2 hby) (XT.ii_lt_t P0) ?_
  refine oIconstV K0 11 (0 : Int32) (d23_10 hby) rfl ?_
  exact oRetI K0 [] (t := .boolean) hret (by simp) (by decide) (d23_11 hby) (by decide) (by decide) hlk (fun x hx => by cases hx) ⟨rfl, rfl⟩
theorem d23_5 : DC y23 5 (.iload_n 3) 1 := hb' (by decide +kernel)
theorem d23_6 : DC y23 6 (.iload_n 1) 1 := hb' (by decide +kernel)
theorem d23_7 : DC y23 7 (.if_icmp .lt 5) 3 := hb' (by decide +kernel)
theorem rmLA0_b (G : Gl Z a0 z0 fm) (b : Addr) (n f : Int32) (h0 : Heap) (hZh : Ext Z.heap h0) (hsf : Own Z h0 []) (P0 : ¬ (0 : Int32) < f) (P1 : ¬ (0 : Int32) < n) :
    Ctr l Z ELs yn499 method_6_code 5 (some .boolean) [] (rmk 0 0 0 0) #[(.ref b), (.int n), (.int f), (.int 0)] [] h0 (fun v h fs => (fs = [] ∧ v = some (.int 0))) := by
  obtain ⟨hw, hEL, wS, OS, hz0, OA, OH, OL, OF, rfm⟩ := id G
  refine Ctr.intro pn324 hEL hZh hsf ?_
  intro p e s m below meth c s₁ hby hml hret hnm hlk hh K0
  refine Owe.cast (ef498 m b n f ((0 : Int32))) ?_
  show Owe _ _ _ _ s₁ (mkF m 0 #[.val (.ref b), .val (.int n), .val (.int f), .val (.int 0), .unset] [])
  refine oIloadN K0 1 (d23_0 hby) rfl ?_
  refine oIloadN K0 2 (d23_1 hby) rfl ?_
  refine oIcmpNo K0 5 (d23_2 hby) (XT.ii_lt_f P0) ?_
  refine oIloadN K0 6 (d23_5 hby) rfl ?_
  refine oIloadN K0 7 (d23_6 hby) rfl ?_
  refine oIcmpNo K0 10 (d23_7 hby) (XT.ii_lt_f P1) ?_
  refine oIconstV K0 11 (0 : Int32) (d23_10 hby) rfl ?_
  exact oRetI K0 [] (t := .boolean) hret (by simp) (by decide) (d23_11 hby) (by decide) (by decide) hlk (fun x hx => by cases hx) ⟨rfl, rfl⟩
theorem d23_12 : DC y23 12 (.aload_n 0) 1 := hb' (by decide +kernel)
theorem d23_13 : DC y23 13 (.iload_n 3) 1 := hb' (by decide +kernel)
theorem d23_14 : DC y23 14 (.caload) 1 := hb' (by decide +kernel)
theorem d23_15 : DC y23 15 (.istore 4) 2 := hb' (by decide +kernel)
theorem d23_17 : DC y23 17 (.iload 4) 2 := hb' (by decide +kernel)
theorem d23_19 : DC y23 19 (.invokestatic 21) 3 := hb' (by decide +kernel)
theorem d23_22 : DC y23 22 (.ifCond .eq 27) 3 := hb' (by decide +kernel)
theorem d23_25 : DC y23 25 (.iload_n 3) 1 := hb' (by decide +kernel)
theorem d23_26 : DC y23 26 (.iconst 1) 1 := hb' (by decide +kernel)
theorem d23_27 : DC y23 27 (.iadd) 1 := hb' (by decide +kernel)
theorem d23_28 : DC y23 28 (.iload_n 1) 1 := hb' (by decide +kernel)
theorem d23_29 : DC y23 29 (.if_icmp .ge 14) 3 := hb' (by decide +kernel)
theorem d23_43 : DC y23 43 (.iconst 1) 1 := hb' (by decide +kernel)
theorem d23_44 : DC y23 44 (.goto 4) 3 := hb' (by decide +kernel)
theorem d23_48 : DC y23 48 (.ireturn) 1 := hb' (by decide +kernel)
theorem d23_49 : DC y23 49 (.iload 4) 2 := hb' (by decide +kernel)
theorem d23_51 : DC y23 51 (.invokestatic 27) 3 := hb' (by decide +kernel)
theorem d23_54 : DC y23 54 (.ifCond .eq 27) 3 := hb' (by decide +kernel)
theorem d23_57 : DC y23 57 (.iload_n 3) 1 := hb' (by decide +kernel)
theorem d23_58 : DC y23 58 (.iconst 1) 1 := hb' (by decide +kernel)
theorem d23_59 : DC y23 59 (.isub) 1 := hb' (by decide +kernel)
theorem d23_60 : DC y23 60 (.iload_n 2) 1 := hb' (by decide +kernel)
theorem d23_61 : DC y23 61 (.if_icmp .lt 14) 3 := hb' (by decide +kernel)
theorem d23_75 : DC y23 75 (.iconst 1) 1 := hb' (by decide +kernel)
theorem d23_76 : DC y23 76 (.goto 4) 3 := hb' (by decide +kernel)
theorem d23_80 : DC y23 80 (.ireturn) 1 := hb' (by decide +kernel)
theorem d23_81 : DC y23 81 (.iconst 0) 1 := hb' (by decide +kernel)
theorem d23_82 : DC y23 82 (.ireturn) 1 := hb' (by decide +kernel)
theorem rmLA0_00 (G : Gl Z a0 z0 fm) (b : Addr) (n f c0 c1 c2 c3 : Int32) (h0 : Heap) (hZh : Ext Z.heap h0) (hsf : Own Z h0 []) (P0 : Ary Z h0 b .char [(.int c0), (.int c1), (.int c2), (.int c3)]) (P1 : ¬ (0 : Int32) < f) (P2 : (0 : Int32) < n) (P3 : ¬ (1 : Int32) < n) (P4 : (-1 : Int32) < f) :
    Ctr l Z ELs yn499 method_6_code 5 (some .boolean) [] (rmk 1 0 0 12) #[(.ref b), (.int n), (.int f), (.int 0)] [] h0 (fun v h fs => (fs = [] ∧ v = some (.int 1) ∧ (hiI c0 ∨ loI c0)) ∨ (fs = [] ∧ v = some (.int 0) ∧ ¬ (hiI c0 ∨ loI c0))) := by
  obtain ⟨hw, hEL, wS, OS, hz0, OA, OH, OL, OF, rfm⟩ := id G
  refine Ctr.intro pn324 hEL hZh hsf ?_
  intro p e s m below meth c s₁ hby hml hret hnm hlk hh K0
  refine Owe.cast (ef498 m b n f ((0 : Int32))) ?_
  show Owe _ _ _ _ s₁ (mkF m 0 #[.val (.ref b), .val (.int n), .val (.int f), .val (.int 0), .unset] [])
  refine oIloadN K0 1 (d23_0 hby) rfl ?_
  refine oIloadN K0 2 (d23_1 hby) rfl ?_
  refine oIcmpNo K0 5 (d23_2 hby) (XT.ii_lt_f P1) ?_
  refine oIloadN K0 6 (d23_5 hby) rfl ?_
  refine oIloadN K0 7 (d23_6 hby) rfl ?_
  refine oIcmpYes K0 12 (d23_7 hby) (XT.ii_lt_t P2) ?_
  refine oAloadN K0 13 (d23_12 hby) rfl rfl ?_
  refine oIloadN K0 14 (d23_13 hby) rfl ?_
  refine oCaload K0 15 P0 0 (by decide) (by decide) rfl (d23_14 hby) ?_
  refine oIstore K0 17 (d23_15 hby) (l' := #[.val (.ref b), .val (.int n), .val (.int f), .val (.int 0), .val (.int c0)]) rfl ?_
  refine oIload K0 19 (d23_17 hby) rfl ?_
  refine oStatic K0 22 0 (wq hw 61) (wq hw 62) (wq hw 4) (wq hw 63) (rmIsH l Z a0 z0 fm G c0 h0 K0.old K0.both ) [(.int c0)] [] (lenOf pd262 rfl) (d23_19 hby) ?_
  intro T1 h3 v4 lo5 fs6 K2 Kp7 q8
  rcases q8 with qq8_0 | qq8_1
  · obtain ⟨rfl, rfl, f9⟩ := qq8_0
    have K10 := K2.to 0 0 []
    refine Owe.stk [(.int 1)] ?_
    refine oIfNo K10 25 (d23_22 hby) (XT.i0_eq_f (by decide)) ?_
    refine oIloadN K10 26 (d23_25 hby) rfl ?_
    refine oIconstV K10 27 (1 : Int32) (d23_26 hby) rfl ?_
    refine oIadd K10 28 (d23_27 hby) ?_
    show Owe _ _ _ _ T1 (mkF m 28 #[.val (.ref b), .val (.int n), .val (.int f), .val (.int 0), .val (.int c0)] [(.int 1)])
    refine oIloadN K10 29 (d23_28 hby) rfl ?_
    refine oIcmpYes K10 43 (d23_29 hby) (XT.ii_ge_t P3) ?_
    refine oIconstV K10 44 (1 : Int32) (d23_43 hby) rfl ?_
    refine oGoto K10 48 (d23_44 hby) ?_
    exact oRetI K10 [] (t := .boolean) hret (by simp) (by decide) (d23_48 hby) (by decide) (by decide) hlk (fun x hx => by cases hx) (Or.inl ⟨rfl, rfl, (by simp only [hiI, loI, Int32.lt_iff_toInt_lt, Int32.reduceToInt] at f9 ⊢; omega)⟩)
  · obtain ⟨rfl, rfl, f11⟩ := qq8_1
    have K12 := K2.to 0 0 []
    refine Owe.stk [(.int 0)] ?_
    refine oIfYes K12 49 (d23_22 hby) (XT.i0_eq_t (by decide)) ?_
    refine oIload K12 51 (d23_49 hby) rfl ?_
    refine oStatic K12 54 0 (wq hw 64) (wq hw 65) (wq hw 4) (wq hw 66) (rmIsL l Z a0 z0 fm G c0 h3 K12.old K12.both ) [(.int c0)] [] (lenOf pd262 rfl) (d23_51 hby) ?_
    intro T13 h15 v16 lo17 fs18 K14 Kp19 q20
    rcases q20 with qq20_0 | qq20_1
    · obtain ⟨rfl, rfl, f21⟩ := qq20_0
      have K22 := K14.to 0 0 []
      refine Owe.stk [(.int 1)] ?_
      refine oIfNo K22 57 (d23_54 hby) (XT.i0_eq_f (by decide)) ?_
      refine oIloadN K22 58 (d23_57 hby) rfl ?_
      refine oIconstV K22 59 (1 : Int32) (d23_58 hby) rfl ?_
      refine oIsub K22 60 (d23_59 hby) ?_
      show Owe _ _ _ _ T13 (mkF m 60 #[.val (.ref b), .val (.int n), .val (.int f), .val (.int 0), .val (.int c0)] [(.int (-1))])
      refine oIloadN K22 61 (d23_60 hby) rfl ?_
      refine oIcmpYes K22 75 (d23_61 hby) (XT.ii_lt_t P4) ?_
      refine oIconstV K22 76 (1 : Int32) (d23_75 hby) rfl ?_
      refine oGoto K22 80 (d23_76 hby) ?_
      exact oRetI K22 [] (t := .boolean) hret (by simp) (by decide) (d23_80 hby) (by decide) (by decide) hlk (fun x hx => by cases hx) (Or.inl ⟨rfl, rfl, (by simp only [hiI, loI, Int32.lt_iff_toInt_lt, Int32.reduceToInt] at f11 f21 ⊢; omega)⟩)
    · obtain ⟨rfl, rfl, f23⟩ := qq20_1
      have K24 := K14.to 0 0 []
      refine Owe.stk [(.int 0)] ?_
      refine oIfYes K24 81 (d23_54 hby) (XT.i0_eq_t (by decide)) ?_
      refine oIconstV K24 82 (0 : Int32) (d23_81 hby) rfl ?_
      exact oRetI K24 [] (t := .boolean) hret (by simp) (by decide) (d23_82 hby) (by decide) (by decide) hlk (fun x hx => by cases hx) (Or.inr ⟨rfl, rfl, (by simp only [hiI, loI, Int32.lt_iff_toInt_lt, Int32.reduceToInt] at f11 f23 ⊢; omega)⟩)
theorem d23_32 : DC y23 32 (.aload_n 0) 1 := hb' (by decide +kernel)
theorem d23_33 : DC y23 33 (.iload_n 3) 1 := hb' (by decide +kernel)
theorem d23_34 : DC y23 34 (.iconst 1) 1 := hb' (by decide +kernel)
theorem d23_35 : DC y23 35 (.iadd) 1 := hb' (by decide +kernel)
theorem d23_36 : DC y23 36 (.caload) 1 := hb' (by decide +kernel)
theorem d23_37 : DC y23 37 (.invokestatic 27) 3 := hb' (by decide +kernel)
theorem d23_40 : DC y23 40 (.ifCond .ne 7) 3 := hb' (by decide +kernel)
theorem d23_47 : DC y23 47 (.iconst 0) 1 := hb' (by decide +kernel)
theorem rmLA0_10 (G : Gl Z a0 z0 fm) (b : Addr) (n f c0 c1 c2 c3 : Int32) (h0 : Heap) (hZh : Ext Z.heap h0) (hsf : Own Z h0 []) (P0 : Ary Z h0 b .char [(.int c0), (.int c1), (.int c2), (.int c3)]) (P1 : ¬ (0 : Int32) < f) (P2 : (0 : Int32) < n) (P3 : (1 : Int32) < n) (P4 : (-1 : Int32) < f) :
    Ctr l Z ELs yn499 method_6_code 5 (some .boolean) [] (rmk 1 0 0 12) #[(.ref b), (.int n), (.int f), (.int 0)] [] h0 (fun v h fs => (fs = [] ∧ v = some (.int 1) ∧ ((hiI c0 ∧ ¬ loI c1) ∨ loI c0)) ∨ (fs = [] ∧ v = some (.int 0) ∧ ¬ ((hiI c0 ∧ ¬ loI c1) ∨ loI c0))) := by
  obtain ⟨hw, hEL, wS, OS, hz0, OA, OH, OL, OF, rfm⟩ := id G
  refine Ctr.intro pn324 hEL hZh hsf ?_
  intro p e s m below meth c s₁ hby hml hret hnm hlk hh K0
  refine Owe.cast (ef498 m b n f ((0 : Int32))) ?_
  show Owe _ _ _ _ s₁ (mkF m 0 #[.val (.ref b), .val (.int n), .val (.int f), .val (.int 0), .unset] [])
  refine oIloadN K0 1 (d23_0 hby) rfl ?_
  refine oIloadN K0 2 (d23_1 hby) rfl ?_
  refine oIcmpNo K0 5 (d23_2 hby) (XT.ii_lt_f P1) ?_
  refine oIloadN K0 6 (d23_5 hby) rfl ?_
  refine oIloadN K0 7 (d23_6 hby) rfl ?_
  refine oIcmpYes K0 12 (d23_7 hby) (XT.ii_lt_t P2) ?_
  refine oAloadN K0 13 (d23_12 hby) rfl rfl ?_
  refine oIloadN K0 14 (d23_13 hby) rfl ?_
  refine oCaload K0 15 P0 0 (by decide) (by decide) rfl (d23_14 hby) ?_
  refine oIstore K0 17 (d23_15 hby) (l' := #[.val (.ref b), .val (.int n), .val (.int f), .val (.int 0), .val (.int c0)]) rfl ?_
  refine oIload K0 19 (d23_17 hby) rfl ?_
  refine oStatic K0 22 0 (wq hw 61) (wq hw 62) (wq hw 4) (wq hw 63) (rmIsH l Z a0 z0 fm G c0 h0 K0.old K0.both ) [(.int c0)] [] (lenOf pd262 rfl) (d23_19 hby) ?_
  intro T1 h3 v4 lo5 fs6 K2 Kp7 q8
  rcases q8 with qq8_0 | qq8_1
  · obtain ⟨rfl, rfl, f9⟩ := qq8_0
    have K10 := K2.to 0 0 []
    refine Owe.stk [(.int 1)] ?_
    refine oIfNo K10 25 (d23_22 hby) (XT.i0_eq_f (by decide)) ?_
    refine oIloadN K10 26 (d23_25 hby) rfl ?_
    refine oIconstV K10 27 (1 : Int32) (d23_26 hby) rfl ?_
    refine oIadd K10 28 (d23_27 hby) ?_
    show Owe _ _ _ _ T1 (mkF m 28 #[.val (.ref b), .val (.int n), .val (.int f), .val (.int 0), .val (.int c0)] [(.int 1)])
    refine oIloadN K10 29 (d23_28 hby) rfl ?_
    refine oIcmpNo K10 32 (d23_29 hby) (XT.ii_ge_f P3) ?_
    refine oAloadN K10 33 (d23_32 hby) rfl rfl ?_
    refine oIloadN K10 34 (d23_33 hby) rfl ?_
    refine oIconstV K10 35 (1 : Int32) (d23_34 hby) rfl ?_
    refine oIadd K10 36 (d23_35 hby) ?_
    show Owe _ _ _ _ T1 (mkF m 36 #[.val (.ref b), .val (.int n), .val (.int f), .val (.int 0), .val (.int c0)] [(.int 1), (.ref b)])
    refine oCaload K10 37 (P0.keep Kp7 nin0) 1 (by decide) (by decide) rfl (d23_36 hby) ?_
    refine oStatic K10 40 0 (wq hw 64) (wq hw 65) (wq hw 4) (wq hw 66) (rmIsL l Z a0 z0 fm G c1 h3 K10.old K10.both ) [(.int c1)] [] (lenOf pd262 rfl) (d23_37 hby) ?_
    intro T11 h13 v14 lo15 fs16 K12 Kp17 q18
    rcases q18 with qq18_0 | qq18_1
    · obtain ⟨rfl, rfl, f19⟩ := qq18_0
      have K20 := K12.to 0 0 []
      refine Owe.stk [(.int 1)] ?_
      refine oIfYes K20 47 (d23_40 hby) (XT.i0_ne_t (by decide)) ?_
      refine oIconstV K20 48 (0 : Int32) (d23_47 hby) rfl ?_
      exact oRetI K20 [] (t := .boolean) hret (by simp) (by decide) (d23_48 hby) (by decide) (by decide) hlk (fun x hx => by cases hx) (Or.inr ⟨rfl, rfl, (by simp only [hiI, loI, Int32.lt_iff_toInt_lt, Int32.reduceToInt] at f9 f19 ⊢; omega)⟩)
    · obtain ⟨rfl, rfl, f21⟩ := qq18_1
      have K22 := K12.to 0 0 []
      refine Owe.stk [(.int 0)] ?_
      refine oIfNo K22 43 (d23_40 hby) (XT.i0_ne_f (by decide)) ?_
      refine oIconstV K22 44 (1 : Int32) (d23_43 hby) rfl ?_
      refine oGoto K22 48 (d23_44 hby) ?_
      exact oRetI K22 [] (t := .boolean) hret (by simp) (by decide) (d23_48 hby) (by decide) (by decide) hlk (fun x hx => by cases hx) (Or.inl ⟨rfl, rfl, (by simp only [hiI, loI, Int32.lt_iff_toInt_lt, Int32.reduceToInt] at f9 f21 ⊢; omega)⟩)
  · obtain ⟨rfl, rfl, f23⟩ := qq8_1
    have K24 := K2.to 0 0 []
    refine Owe.stk [(.int 0)] ?_
    refine oIfYes K24 49 (d23_22 hby) (XT.i0_eq_t (by decide)) ?_
    refine oIload K24 51 (d23_49 hby) rfl ?_
    refine oStatic K24 54 0 (wq hw 64) (wq hw 65) (wq hw 4) (wq hw 66) (rmIsL l Z a0 z0 fm G c0 h3 K24.old K24.both ) [(.int c0)] [] (lenOf pd262 rfl) (d23_51 hby) ?_
    intro T25 h27 v28 lo29 fs30 K26 Kp31 q32
    rcases q32 with qq32_0 | qq32_1
    · obtain ⟨rfl, rfl, f33⟩ := qq32_0
      have K34 := K26.to 0 0 []
      refine Owe.stk [(.int 1)] ?_
      refine oIfNo K34 57 (d23_54 hby) (XT.i0_eq_f (by decide)) ?_
      refine oIloadN K34 58 (d23_57 hby) rfl ?_
      refine oIconstV K34 59 (1 : Int32) (d23_58 hby) rfl ?_
      refine oIsub K34 60 (d23_59 hby) ?_
      show Owe _ _ _ _ T25 (mkF m 60 #[.val (.ref b), .val (.int n), .val (.int f), .val (.int 0), .val (.int c0)] [(.int (-1))])
      refine oIloadN K34 61 (d23_60 hby) rfl ?_
      refine oIcmpYes K34 75 (d23_61 hby) (XT.ii_lt_t P4) ?_
      refine oIconstV K34 76 (1 : Int32) (d23_75 hby) rfl ?_
      refine oGoto K34 80 (d23_76 hby) ?_
      exact oRetI K34 [] (t := .boolean) hret (by simp) (by decide) (d23_80 hby) (by decide) (by decide) hlk (fun x hx => by cases hx) (Or.inl ⟨rfl, rfl, (by simp only [hiI, loI, Int32.lt_iff_toInt_lt, Int32.reduceToInt] at f23 f33 ⊢; omega)⟩)
    · obtain ⟨rfl, rfl, f35⟩ := qq32_1
      have K36 := K26.to 0 0 []
      refine Owe.stk [(.int 0)] ?_
      refine oIfYes K36 81 (d23_54 hby) (XT.i0_eq_t (by decide)) ?_
      refine oIconstV K36 82 (0 : Int32) (d23_81 hby) rfl ?_
      exact oRetI K36 [] (t := .boolean) hret (by simp) (by decide) (d23_82 hby) (by decide) (by decide) hlk (fun x hx => by cases hx) (Or.inr ⟨rfl, rfl, (by simp only [hiI, loI, Int32.lt_iff_toInt_lt, Int32.reduceToInt] at f23 f35 ⊢; omega)⟩)
theorem rmLA1_a (G : Gl Z a0 z0 fm) (b : Addr) (n f : Int32) (h0 : Heap) (hZh : Ext Z.heap h0) (hsf : Own Z h0 []) (P0 : (1 : Int32) < f) :
    Ctr l Z ELs yn499 method_6_code 5 (some .boolean) [] (rmk 0 0 0 0) #[(.ref b), (.int n), (.int f), (.int 1)] [] h0 (fun v h fs => (fs = [] ∧ v = some (.int 0))) := by
  obtain ⟨hw, hEL, wS, OS, hz0, OA, OH, OL, OF, rfm⟩ := id G
  refine Ctr.intro pn324 hEL hZh hsf ?_
  intro p e s m below meth c s₁ hby hml hret hnm hlk hh K0
  refine Owe.cast (ef498 m b n f ((1 : Int32))) ?_
  show Owe _ _ _ _ s₁ (mkF m 0 #[.val (.ref b), .val (.int n), .val (.int f), .val (.int 1), .unset] [])
  refine oIloadN K0 1 (d23_0 hby) rfl ?_
  refine oIloadN K0 2 (d23_1 hby) rfl ?_
  refine oIcmpYes K0 10 (d23_2 hby) (XT.ii_lt_t P0) ?_
  refine oIconstV K0 11 (0 : Int32) (d23_10 hby) rfl ?_
  exact oRetI K0 [] (t := .boolean) hret (by simp) (by decide) (d23_11 hby) (by decide) (by decide) hlk (fun x hx => by cases hx) ⟨rfl, rfl⟩
theorem rmLA1_b (G : Gl Z a0 z0 fm) (b : Addr) (n f : Int32) (h0 : Heap) (hZh : Ext Z.heap h0) (hsf : Own Z h0 []) (P0 : ¬ (1 : Int32) < f) (P1 : ¬ (1 : Int32) < n) :
    Ctr l Z ELs yn499 method_6_code 5 (some .boolean) [] (rmk 0 0 0 0) #[(.ref b), (.int n), (.int f), (.int 1)] [] h0 (fun v h fs => (fs = [] ∧ v = some (.int 0))) := by
  obtain ⟨hw, hEL, wS, OS, hz0, OA, OH, OL, OF, rfm⟩ := id G
  refine Ctr.intro pn324 hEL hZh hsf ?_
  intro p e s m below meth c s₁ hby hml hret hnm hlk hh K0
  refine Owe.cast (ef498 m b n f ((1 : Int32))) ?_
  show Owe _ _ _ _ s₁ (mkF m 0 #[.val (.ref b), .val (.int n), .val (.int f), .val (.int 1), .unset] [])
  refine oIloadN K0 1 (d23_0 hby) rfl ?_
  refine oIloadN K0 2 (d23_1 hby) rfl ?_
  refine oIcmpNo K0 5 (d23_2 hby) (XT.ii_lt_f P0) ?_
  refine oIloadN K0 6 (d23_5 hby) rfl ?_
  refine oIloadN K0 7 (d23_6 hby) rfl ?_
  refine oIcmpNo K0 10 (d23_7 hby) (XT.ii_lt_f P1) ?_
  refine oIconstV K0 11 (0 : Int32) (d23_10 hby) rfl ?_
  exact oRetI K0 [] (t := .boolean) hret (by simp) (by decide) (d23_11 hby) (by decide) (by decide) hlk (fun x hx => by cases hx) ⟨rfl, rfl⟩
theorem rmLA1_00 (G : Gl Z a0 z0 fm) (b : Addr) (n f c0 c1 c2 c3 : Int32) (h0 : Heap) (hZh : Ext Z.heap h0) (hsf : Own Z h0 []) (P0 : Ary Z h0 b .char [(.int c0), (.int c1), (.int c2), (.int c3)]) (P1 : ¬ (1 : Int32) < f) (P2 : (1 : Int32) < n) (P3 : ¬ (2 : Int32) < n) (P4 : (0 : Int32) < f) :
    Ctr l Z ELs yn499 method_6_code 5 (some .boolean) [] (rmk 1 0 0 12) #[(.ref b), (.int n), (.int f), (.int 1)] [] h0 (fun v h fs => (fs = [] ∧ v = some (.int 1) ∧ (hiI c1 ∨ loI c1)) ∨ (fs = [] ∧ v = some (.int 0) ∧ ¬ (hiI c1 ∨ loI c1))) := by
  obtain ⟨hw, hEL, wS, OS, hz0, OA, OH, OL, OF, rfm⟩ := id G
  refine Ctr.intro pn324 hEL hZh hsf ?_
  intro p e s m below meth c s₁ hby hml hret hnm hlk hh K0
  refine Owe.cast (ef498 m b n f ((1 : Int32))) ?_
  show Owe _ _ _ _ s₁ (mkF m 0 #[.val (.ref b), .val (.int n), .val (.int f), .val (.int 1), .unset] [])
  refine oIloadN K0 1 (d23_0 hby) rfl ?_
  refine oIloadN K0 2 (d23_1 hby) rfl ?_
  refine oIcmpNo K0 5 (d23_2 hby) (XT.ii_lt_f P1) ?_
  refine oIloadN K0 6 (d23_5 hby) rfl ?_
  refine oIloadN K0 7 (d23_6 hby) rfl ?_
  refine oIcmpYes K0 12 (d23_7 hby) (XT.ii_lt_t P2) ?_
  refine oAloadN K0 13 (d23_12 hby) rfl rfl ?_
  refine oIloadN K0 14 (d23_13 hby) rfl ?_
  refine oCaload K0 15 P0 1 (by decide) (by decide) rfl (d23_14 hby) ?_
  refine oIstore K0 17 (d23_15 hby) (l' := #[.val (.ref b), .val (.int n), .val (.int f), .val (.int 1), .val (.int c1)]) rfl ?_
  refine oIload K0 19 (d23_17 hby) rfl ?_
  refine oStatic K0 22 0 (wq hw 61) (wq hw 62) (wq hw 4) (wq hw 63) (rmIsH l Z a0 z0 fm G c1 h0 K0.old K0.both ) [(.int c1)] [] (lenOf pd262 rfl) (d23_19 hby) ?_
  intro T1 h3 v4 lo5 fs6 K2 Kp7 q8
  rcases q8 with qq8_0 | qq8_1
  · obtain ⟨rfl, rfl, f9⟩ := qq8_0
    have K10 := K2.to 0 0 []
    refine Owe.stk [(.int 1)] ?_
    refine oIfNo K10 25 (d23_22 hby) (XT.i0_eq_f (by decide)) ?_
    refine oIloadN K10 26 (d23_25 hby) rfl ?_
    refine oIconstV K10 27 (1 : Int32) (d23_26 hby) rfl ?_
    refine oIadd K10 28 (d23_27 hby) ?_
    show Owe _ _ _ _ T1 (mkF m 28 #[.val (.ref b), .val (.int n), .val (.int f), .val (.int 1), .val (.int c1)] [(.int 2)])
    refine oIloadN K10 29 (d23_28 hby) rfl ?_
    refine oIcmpYes K10 43 (d23_29 hby) (XT.ii_ge_t P3) ?_
    refine oIconstV K10 44 (1 : Int32) (d23_43 hby) rfl ?_
    refine oGoto K10 48 (d23_44 hby) ?_
    exact oRetI K10 [] (t := .boolean) hret (by simp) (by decide) (d23_48 hby) (by decide) (by decide) hlk (fun x hx => by cases hx) (Or.inl ⟨rfl, rfl, (by simp only [hiI, loI, Int32.lt_iff_toInt_lt, Int32.reduceToInt] at f9 ⊢; omega)⟩)
  · obtain ⟨rfl, rfl, f11⟩ := qq8_1
    have K12 := K2.to 0 0 []
    refine Owe.stk [(.int 0)] ?_
    refine oIfYes K12 49 (d23_22 hby) (XT.i0_eq_t (by decide)) ?_
    refine oIload K12 51 (d23_49 hby) rfl ?_
    refine oStatic K12 54 0 (wq hw 64) (wq hw 65) (wq hw 4) (wq hw 66) (rmIsL l Z a0 z0 fm G c1 h3 K12.old K12.both ) [(.int c1)] [] (lenOf pd262 rfl) (d23_51 hby) ?_
    intro T13 h15 v16 lo17 fs18 K14 Kp19 q20
    rcases q20 with qq20_0 | qq20_1
    · obtain ⟨rfl, rfl, f21⟩ := qq20_0
      have K22 := K14.to 0 0 []
      refine Owe.stk [(.int 1)] ?_
      refine oIfNo K22 57 (d23_54 hby) (XT.i0_eq_f (by decide)) ?_
      refine oIloadN K22 58 (d23_57 hby) rfl ?_
      refine oIconstV K22 59 (1 : Int32) (d23_58 hby) rfl ?_
      refine oIsub K22 60 (d23_59 hby) ?_
      show Owe _ _ _ _ T13 (mkF m 60 #[.val (.ref b), .val (.int n), .val (.int f), .val (.int 1), .val (.int c1)] [(.int 0)])
      refine oIloadN K22 61 (d23_60 hby) rfl ?_
      refine oIcmpYes K22 75 (d23_61 hby) (XT.ii_lt_t P4) ?_
      refine oIconstV K22 76 (1 : Int32) (d23_75 hby) rfl ?_
      refine oGoto K22 80 (d23_76 hby) ?_
      exact oRetI K22 [] (t := .boolean) hret (by simp) (by decide) (d23_80 hby) (by decide) (by decide) hlk (fun x hx => by cases hx) (Or.inl ⟨rfl, rfl, (by simp only [hiI, loI, Int32.lt_iff_toInt_lt, Int32.reduceToInt] at f11 f21 ⊢; omega)⟩)
    · obtain ⟨rfl, rfl, f23⟩ := qq20_1
      have K24 := K14.to 0 0 []
      refine Owe.stk [(.int 0)] ?_
      refine oIfYes K24 81 (d23_54 hby) (XT.i0_eq_t (by decide)) ?_
      refine oIconstV K24 82 (0 : Int32) (d23_81 hby) rfl ?_
      exact oRetI K24 [] (t := .boolean) hret (by simp) (by decide) (d23_82 hby) (by decide) (by decide) hlk (fun x hx => by cases hx) (Or.inr ⟨rfl, rfl, (by simp only [hiI, loI, Int32.lt_iff_toInt_lt, Int32.reduceToInt] at f11 f23 ⊢; omega)⟩)
theorem d23_64 : DC y23 64 (.aload_n 0) 1 := hb' (by decide +kernel)
theorem d23_65 : DC y23 65 (.iload_n 3) 1 := hb' (by decide +kernel)
theorem d23_66 : DC y23 66 (.iconst 1) 1 := hb' (by decide +kernel)
theorem d23_67 : DC y23 67 (.isub) 1 := hb' (by decide +kernel)
theorem d23_68 : DC y23 68 (.caload) 1 := hb' (by decide +kernel)
theorem d23_69 : DC y23 69 (.invokestatic 21) 3 := hb' (by decide +kernel)
theorem d23_72 : DC y23 72 (.ifCond .ne 7) 3 := hb' (by decide +kernel)
theorem d23_79 : DC y23 79 (.iconst 0) 1 := hb' (by decide +kernel)
theorem rmLA1_01 (G : Gl Z a0 z0 fm) (b : Addr) (n f c0 c1 c2 c3 : Int32) (h0 : Heap) (hZh : Ext Z.heap h0) (hsf : Own Z h0 []) (P0 : Ary Z h0 b .char [(.int c0), (.int c1), (.int c2), (.int c3)]) (P1 : ¬ (1 : Int32) < f) (P2 : (1 : Int32) < n) (P3 : ¬ (2 : Int32) < n) (P4 : ¬ (0 : Int32) < f) :
    Ctr l Z ELs yn499 method_6_code 5 (some .boolean) [] (rmk 1 0 0 12) #[(.ref b), (.int n), (.int f), (.int 1)] [] h0 (fun v h fs => (fs = [] ∧ v = some (.int 1) ∧ (hiI c1 ∨ (loI c1 ∧ ¬ hiI c0))) ∨ (fs = [] ∧ v = some (.int 0) ∧ ¬ (hiI c1 ∨ (loI c1 ∧ ¬ hiI c0)))) := by
  obtain ⟨hw, hEL, wS, OS, hz0, OA, OH, OL, OF, rfm⟩ := id G
  refine Ctr.intro pn324 hEL hZh hsf ?_
  intro p e s m below meth c s₁ hby hml hret hnm hlk hh K0
  refine Owe.cast (ef498 m b n f ((1 : Int32))) ?_
  show Owe _ _ _ _ s₁ (mkF m 0 #[.val (.ref b), .val (.int n), .val (.int f), .val (.int 1), .unset] [])
  refine oIloadN K0 1 (d23_0 hby) rfl ?_
  refine oIloadN K0 2 (d23_1 hby) rfl ?_
  refine oIcmpNo K0 5 (d23_2 hby) (XT.ii_lt_f P1) ?_
  refine oIloadN K0 6 (d23_5 hby) rfl ?_
  refine oIloadN K0 7 (d23_6 hby) rfl ?_
  refine oIcmpYes K0 12 (d23_7 hby) (XT.ii_lt_t P2) ?_
  refine oAloadN K0 13 (d23_12 hby) rfl rfl ?_
  refine oIloadN K0 14 (d23_13 hby) rfl ?_
  refine oCaload K0 15 P0 1 (by decide) (by decide) rfl (d23_14 hby) ?_
  refine oIstore K0 17 (d23_15 hby) (l' := #[.val (.ref b), .val (.int n), .val (.int f), .val (.int 1), .val (.int c1)]) rfl ?_
  refine oIload K0 19 (d23_17 hby) rfl ?_
  refine oStatic K0 22 0 (wq hw 61) (wq hw 62) (wq hw 4) (wq hw 63) (rmIsH l Z a0 z0 fm G c1 h0 K0.old K0.both ) [(.int c1)] [] (lenOf pd262 rfl) (d23_19 hby) ?_
  intro T1 h3 v4 lo5 fs6 K2 Kp7 q8
  rcases q8 with qq8_0 | qq8_1
  · obtain ⟨rfl, rfl, f9⟩ := qq8_0
    have K10 := K2.to 0 0 []
    refine Owe.stk [(.int 1)] ?_
    refine oIfNo K10 25 (d23_22 hby) (XT.i0_eq_f (by decide)) ?_
    refine oIloadN K10 26 (d23_25 hby) rfl ?_
    refine oIconstV K10 27 (1 : Int32) (d23_26 hby) rfl ?_
    refine oIadd K10 28 (d23_27 hby) ?_
    show Owe _ _ _ _ T1 (mkF m 28 #[.val (.ref b), .val (.int n), .val (.int f), .val (.int 1), .val (.int c1)] [(.int 2)])
    refine oIloadN K10 29 (d23_28 hby) rfl ?_
    refine oIcmpYes K10 43 (d23_29 hby) (XT.ii_ge_t P3) ?_
    refine oIconstV K10 44 (1 : Int32) (d23_43 hby) rfl ?_
    refine oGoto K10 48 (d23_44 hby) ?_
    exact oRetI K10 [] (t := .boolean) hret (by simp) (by decide) (d23_48 hby) (by decide) (by decide) hlk (fun x hx => by cases hx) (Or.inl ⟨rfl, rfl, (by simp only [hiI, loI, Int32.lt_iff_toInt_lt, Int32.reduceToInt] at f9 ⊢; omega)⟩)
  · obtain ⟨rfl, rfl, f11⟩ := qq8_1
    have K12 := K2.to 0 0 []
    refine Owe.stk [(.int 0)] ?_
    refine oIfYes K12 49 (d23_22 hby) (XT.i0_eq_t (by decide)) ?_
    refine oIload K12 51 (d23_49 hby) rfl ?_
    refine oStatic K12 54 0 (wq hw 64) (wq hw 65) (wq hw 4) (wq hw 66) (rmIsL l Z a0 z0 fm G c1 h3 K12.old K12.both ) [(.int c1)] [] (lenOf pd262 rfl) (d23_51 hby) ?_
    intro T13 h15 v16 lo17 fs18 K14 Kp19 q20
    rcases q20 with qq20_0 | qq20_1
    · obtain ⟨rfl, rfl, f21⟩ := qq20_0
      have K22 := K14.to 0 0 []
      refine Owe.stk [(.int 1)] ?_
      refine oIfNo K22 57 (d23_54 hby) (XT.i0_eq_f (by decide)) ?_
      refine oIloadN K22 58 (d23_57 hby) rfl ?_
      refine oIconstV K22 59 (1 : Int32) (d23_58 hby) rfl ?_
      refine oIsub K22 60 (d23_59 hby) ?_
      show Owe _ _ _ _ T13 (mkF m 60 #[.val (.ref b), .val (.int n), .val (.int f), .val (.int 1), .val (.int c1)] [(.int 0)])
      refine oIloadN K22 61 (d23_60 hby) rfl ?_
      refine oIcmpNo K22 64 (d23_61 hby) (XT.ii_lt_f P4) ?_
      refine oAloadN K22 65 (d23_64 hby) rfl rfl ?_
      refine oIloadN K22 66 (d23_65 hby) rfl ?_
      refine oIconstV K22 67 (1 : Int32) (d23_66 hby) rfl ?_
      refine oIsub K22 68 (d23_67 hby) ?_
      show Owe _ _ _ _ T13 (mkF m 68 #[.val (.ref b), .val (.int n), .val (.int f), .val (.int 1), .val (.int c1)] [(.int 0), (.ref b)])
      refine oCaload K22 69 ((P0.keep Kp7 nin0).keep Kp19 nin0) 0 (by decide) (by decide) rfl (d23_68 hby) ?_
      refine oStatic K22 72 0 (wq hw 61) (wq hw 62) (wq hw 4) (wq hw 63) (rmIsH l Z a0 z0 fm G c0 h15 K22.old K22.both ) [(.int c0)] [] (lenOf pd262 rfl) (d23_69 hby) ?_
      intro T23 h25 v26 lo27 fs28 K24 Kp29 q30
      rcases q30 with qq30_0 | qq30_1
      · obtain ⟨rfl, rfl, f31⟩ := qq30_0
        have K32 := K24.to 0 0 []
        refine Owe.stk [(.int 1)] ?_
        refine oIfYes K32 79 (d23_72 hby) (XT.i0_ne_t (by decide)) ?_
        refine oIconstV K32 80 (0 : Int32) (d23_79 hby) rfl ?_
        exact oRetI K32 [] (t := .boolean) hret (by simp) (by decide) (d23_80 hby) (by decide) (by decide) hlk (fun x hx => by cases hx) (Or.inr ⟨rfl, rfl, (by simp only [hiI, loI, Int32.lt_iff_toInt_lt, Int32.reduceToInt] at f11 f21 f31 ⊢; omega)⟩)
      · obtain ⟨rfl, rfl, f33⟩ := qq30_1
        have K34 := K24.to 0 0 []
        refine Owe.stk [(.int 0)] ?_
        refine oIfNo K34 75 (d23_72 hby) (XT.i0_ne_f (by decide)) ?_
        refine oIconstV K34 76 (1 : Int32) (d23_75 hby) rfl ?_
        refine oGoto K34 80 (d23_76 hby) ?_
        exact oRetI K34 [] (t := .boolean) hret (by simp) (by decide) (d23_80 hby) (by decide) (by decide) hlk (fun x hx => by cases hx) (Or.inl ⟨rfl, rfl, (by simp only [hiI, loI, Int32.lt_iff_toInt_lt, Int32.reduceToInt] at f11 f21 f33 ⊢; omega)⟩)
    · obtain ⟨rfl, rfl, f35⟩ := qq20_1
      have K36 := K14.to 0 0 []
      refine Owe.stk [(.int 0)] ?_
      refine oIfYes K36 81 (d23_54 hby) (XT.i0_eq_t (by decide)) ?_
      refine oIconstV K36 82 (0 : Int32) (d23_81 hby) rfl ?_
      exact oRetI K36 [] (t := .boolean) hret (by simp) (by decide) (d23_82 hby) (by decide) (by decide) hlk (fun x hx => by cases hx) (Or.inr ⟨rfl, rfl, (by simp only [hiI, loI, Int32.lt_iff_toInt_lt, Int32.reduceToInt] at f11 f35 ⊢; omega)⟩)
theorem rmLA1_10 (G : Gl Z a0 z0 fm) (b : Addr) (n f c0 c1 c2 c3 : Int32) (h0 : Heap) (hZh : Ext Z.heap h0) (hsf : Own Z h0 []) (P0 : Ary Z h0 b .char [(.int c0), (.int c1), (.int c2), (.int c3)]) (P1 : ¬ (1 : Int32) < f) (P2 : (1 : Int32) < n) (P3 : (2 : Int32) < n) (P4 : (0 : Int32) < f) :
    Ctr l Z ELs yn499 method_6_code 5 (some .boolean) [] (rmk 1 0 0 12) #[(.ref b), (.int n), (.int f), (.int 1)] [] h0 (fun v h fs => (fs = [] ∧ v = some (.int 1) ∧ ((hiI c1 ∧ ¬ loI c2) ∨ loI c1)) ∨ (fs = [] ∧ v = some (.int 0) ∧ ¬ ((hiI c1 ∧ ¬ loI c2) ∨ loI c1))) := by
  obtain ⟨hw, hEL, wS, OS, hz0, OA, OH, OL, OF, rfm⟩ := id G
  refine Ctr.intro pn324 hEL hZh hsf ?_
  intro p e s m below meth c s₁ hby hml hret hnm hlk hh K0
  refine Owe.cast (ef498 m b n f ((1 : Int32))) ?_
  show Owe _ _ _ _ s₁ (mkF m 0 #[.val (.ref b), .val (.int n), .val (.int f), .val (.int 1), .unset] [])
  refine oIloadN K0 1 (d23_0 hby) rfl ?_
  refine oIloadN K0 2 (d23_1 hby) rfl ?_
  refine oIcmpNo K0 5 (d23_2 hby) (XT.ii_lt_f P1) ?_
  refine oIloadN K0 6 (d23_5 hby) rfl ?_
  refine oIloadN K0 7 (d23_6 hby) rfl ?_
  refine oIcmpYes K0 12 (d23_7 hby) (XT.ii_lt_t P2) ?_
  refine oAloadN K0 13 (d23_12 hby) rfl rfl ?_
  refine oIloadN K0 14 (d23_13 hby) rfl ?_
  refine oCaload K0 15 P0 1 (by decide) (by decide) rfl (d23_14 hby) ?_
  refine oIstore K0 17 (d23_15 hby) (l' := #[.val (.ref b), .val (.int n), .val (.int f), .val (.int 1), .val (.int c1)]) rfl ?_
  refine oIload K0 19 (d23_17 hby) rfl ?_
  refine oStatic K0 22 0 (wq hw 61) (wq hw 62) (wq hw 4) (wq hw 63) (rmIsH l Z a0 z0 fm G c1 h0 K0.old K0.both ) [(.int c1)] [] (lenOf pd262 rfl) (d23_19 hby) ?_
  intro T1 h3 v4 lo5 fs6 K2 Kp7 q8
  rcases q8 with qq8_0 | qq8_1
  · obtain ⟨rfl, rfl, f9⟩ := qq8_0
    have K10 := K2.to 0 0 []
    refine Owe.stk [(.int 1)] ?_
    refine oIfNo K10 25 (d23_22 hby) (XT.i0_eq_f (by decide)) ?_
    refine oIloadN K10 26 (d23_25 hby) rfl ?_
    refine oIconstV K10 27 (1 : Int32) (d23_26 hby) rfl ?_
    refine oIadd K10 28 (d23_27 hby) ?_
    show Owe _ _ _ _ T1 (mkF m 28 #[.val (.ref b), .val (.int n), .val (.int f), .val (.int 1), .val (.int c1)] [(.int 2)])
    refine oIloadN K10 29 (d23_28 hby) rfl ?_
    refine oIcmpNo K10 32 (d23_29 hby) (XT.ii_ge_f P3) ?_
    refine oAloadN K10 33 (d23_32 hby) rfl rfl ?_
    refine oIloadN K10 34 (d23_33 hby) rfl ?_
    refine oIconstV K10 35 (1 : Int32) (d23_34 hby) rfl ?_
    refine oIadd K10 36 (d23_35 hby) ?_
    show Owe _ _ _ _ T1 (mkF m 36 #[.val (.ref b), .val (.int n), .val (.int f), .val (.int 1), .val (.int c1)] [(.int 2), (.ref b)])
    refine oCaload K10 37 (P0.keep Kp7 nin0) 2 (by decide) (by decide) rfl (d23_36 hby) ?_
    refine oStatic K10 40 0 (wq hw 64) (wq hw 65) (wq hw 4) (wq hw 66) (rmIsL l Z a0 z0 fm G c2 h3 K10.old K10.both ) [(.int c2)] [] (lenOf pd262 rfl) (d23_37 hby) ?_
    intro T11 h13 v14 lo15 fs16 K12 Kp17 q18
    rcases q18 with qq18_0 | qq18_1
    · obtain ⟨rfl, rfl, f19⟩ := qq18_0
      have K20 := K12.to 0 0 []
      refine Owe.stk [(.int 1)] ?_
      refine oIfYes K20 47 (d23_40 hby) (XT.i0_ne_t (by decide)) ?_
      refine oIconstV K20 48 (0 : Int32) (d23_47 hby) rfl ?_
      exact oRetI K20 [] (t := .boolean) hret (by simp) (by decide) (d23_48 hby) (by decide) (by decide) hlk (fun x hx => by cases hx) (Or.inr ⟨rfl, rfl, (by simp only [hiI, loI, Int32.lt_iff_toInt_lt, Int32.reduceToInt] at f9 f19 ⊢; omega)⟩)
    · obtain ⟨rfl, rfl, f21⟩ := qq18_1
      have K22 := K12.to 0 0 []
      refine Owe.stk [(.int 0)] ?_
      refine oIfNo K22 43 (d23_40 hby) (XT.i0_ne_f (by decide)) ?_
      refine oIconstV K22 44 (1 : Int32) (d23_43 hby) rfl ?_
      refine oGoto K22 48 (d23_44 hby) ?_
      exact oRetI K22 [] (t := .boolean) hret (by simp) (by decide) (d23_48 hby) (by decide) (by decide) hlk (fun x hx => by cases hx) (Or.inl ⟨rfl, rfl, (by simp only [hiI, loI, Int32.lt_iff_toInt_lt, Int32.reduceToInt] at f9 f21 ⊢; omega)⟩)
  · obtain ⟨rfl, rfl, f23⟩ := qq8_1
    have K24 := K2.to 0 0 []
    refine Owe.stk [(.int 0)] ?_
    refine oIfYes K24 49 (d23_22 hby) (XT.i0_eq_t (by decide)) ?_
    refine oIload K24 51 (d23_49 hby) rfl ?_
    refine oStatic K24 54 0 (wq hw 64) (wq hw 65) (wq hw 4) (wq hw 66) (rmIsL l Z a0 z0 fm G c1 h3 K24.old K24.both ) [(.int c1)] [] (lenOf pd262 rfl) (d23_51 hby) ?_
    intro T25 h27 v28 lo29 fs30 K26 Kp31 q32
    rcases q32 with qq32_0 | qq32_1
    · obtain ⟨rfl, rfl, f33⟩ := qq32_0
      have K34 := K26.to 0 0 []
      refine Owe.stk [(.int 1)] ?_
      refine oIfNo K34 57 (d23_54 hby) (XT.i0_eq_f (by decide)) ?_
      refine oIloadN K34 58 (d23_57 hby) rfl ?_
      refine oIconstV K34 59 (1 : Int32) (d23_58 hby) rfl ?_
      refine oIsub K34 60 (d23_59 hby) ?_
      show Owe _ _ _ _ T25 (mkF m 60 #[.val (.ref b), .val (.int n), .val (.int f), .val (.int 1), .val (.int c1)] [(.int 0)])
      refine oIloadN K34 61 (d23_60 hby) rfl ?_
      refine oIcmpYes K34 75 (d23_61 hby) (XT.ii_lt_t P4) ?_
      refine oIconstV K34 76 (1 : Int32) (d23_75 hby) rfl ?_
      refine oGoto K34 80 (d23_76 hby) ?_
      exact oRetI K34 [] (t := .boolean) hret (by simp) (by decide) (d23_80 hby) (by decide) (by decide) hlk (fun x hx => by cases hx) (Or.inl ⟨rfl, rfl, (by simp only [hiI, loI, Int32.lt_iff_toInt_lt, Int32.reduceToInt] at f23 f33 ⊢; omega)⟩)
    · obtain ⟨rfl, rfl, f35⟩ := qq32_1
      have K36 := K26.to 0 0 []
      refine Owe.stk [(.int 0)] ?_
      refine oIfYes K36 81 (d23_54 hby) (XT.i0_eq_t (by decide)) ?_
      refine oIconstV K36 82 (0 : Int32) (d23_81 hby) rfl ?_
      exact oRetI K36 [] (t := .boolean) hret (by simp) (by decide) (d23_82 hby) (by decide) (by decide) hlk (fun x hx => by cases hx) (Or.inr ⟨rfl, rfl, (by simp only [hiI, loI, Int32.lt_iff_toInt_lt, Int32.reduceToInt] at f23 f35 ⊢; omega)⟩)
theorem rmLA1_11 (G : Gl Z a0 z0 fm) (b : Addr) (n f c0 c1 c2 c3 : Int32) (h0 : Heap) (hZh : Ext Z.heap h0) (hsf : Own Z h0 []) (P0 : Ary Z h0 b .char [(.int c0), (.int c1), (.int c2), (.int c3)]) (P1 : ¬ (1 : Int32) < f) (P2 : (1 : Int32) < n) (P3 : (2 : Int32) < n) (P4 : ¬ (0 : Int32) < f) :
    Ctr l Z ELs yn499 method_6_code 5 (some .boolean) [] (rmk 1 0 0 12) #[(.ref b), (.int n), (.int f), (.int 1)] [] h0 (fun v h fs => (fs = [] ∧ v = some (.int 1) ∧ ((hiI c1 ∧ ¬ loI c2) ∨ (loI c1 ∧ ¬ hiI c0))) ∨ (fs = [] ∧ v = some (.int 0) ∧ ¬ ((hiI c1 ∧ ¬ loI c2) ∨ (loI c1 ∧ ¬ hiI c0)))) := by
  obtain ⟨hw, hEL, wS, OS, hz0, OA, OH, OL, OF, rfm⟩ := id G
  refine Ctr.intro pn324 hEL hZh hsf ?_
  intro p e s m below meth c s₁ hby hml hret hnm hlk hh K0
  refine Owe.cast (ef498 m b n f ((1 : Int32))) ?_
  show Owe _ _ _ _ s₁ (mkF m 0 #[.val (.ref b), .val (.int n), .val (.int f), .val (.int 1), .unset] [])
  refine oIloadN K0 1 (d23_0 hby) rfl ?_
  refine oIloadN K0 2 (d23_1 hby) rfl ?_
  refine oIcmpNo K0 5 (d23_2 hby) (XT.ii_lt_f P1) ?_
  refine oIloadN K0 6 (d23_5 hby) rfl ?_
  refine oIloadN K0 7 (d23_6 hby) rfl ?_
  refine oIcmpYes K0 12 (d23_7 hby) (XT.ii_lt_t P2) ?_
  refine oAloadN K0 13 (d23_12 hby) rfl rfl ?_
  refine oIloadN K0 14 (d23_13 hby) rfl ?_
  refine oCaload K0 15 P0 1 (by decide) (by decide) rfl (d23_14 hby) ?_
  refine oIstore K0 17 (d23_15 hby) (l' := #[.val (.ref b), .val (.int n), .val (.int f), .val (.int 1), .val (.int c1)]) rfl ?_
  refine oIload K0 19 (d23_17 hby) rfl ?_
  refine oStatic K0 22 0 (wq hw 61) (wq hw 62) (wq hw 4) (wq hw 63) (rmIsH l Z a0 z0 fm G c1 h0 K0.old K0.both ) [(.int c1)] [] (lenOf pd262 rfl) (d23_19 hby) ?_
  intro T1 h3 v4 lo5 fs6 K2 Kp7 q8
  rcases q8 with qq8_0 | qq8_1
  · obtain ⟨rfl, rfl, f9⟩ := qq8_0
    have K10 := K2.to 0 0 []
    refine Owe.stk [(.int 1)] ?_
    refine oIfNo K10 25 (d23_22 hby) (XT.i0_eq_f (by decide)) ?_
    refine oIloadN K10 26 (d23_25 hby) rfl ?_
    refine oIconstV K10 27 (1 : Int32) (d23_26 hby) rfl ?_
    refine oIadd K10 28 (d23_27 hby) ?_
    show Owe _ _ _ _ T1 (mkF m 28 #[.val (.ref b), .val (.int n), .val (.int f), .val (.int 1), .val (.int c1)] [(.int 2)])
    refine oIloadN K10 29 (d23_28 hby) rfl ?_
    refine oIcmpNo K10 32 (d23_29 hby) (XT.ii_ge_f P3) ?_
    refine oAloadN K10 33 (d23_32 hby) rfl rfl ?_
    refine oIloadN K10 34 (d23_33 hby) rfl ?_
    refine oIconstV K10 35 (1 : Int32) (d23_34 hby) rfl ?_
    refine oIadd K10 36 (d23_35 hby) ?_
    show Owe _ _ _ _ T1 (mkF m 36 #[.val (.ref b), .val (.int n), .val (.int f), .val (.int 1), .val (.int c1)] [(.int 2), (.ref b)])
    refine oCaload K10 37 (P0.keep Kp7 nin0) 2 (by decide) (by decide) rfl (d23_36 hby) ?_
    refine oStatic K10 40 0 (wq hw 64) (wq hw 65) (wq hw 4) (wq hw 66) (rmIsL l Z a0 z0 fm G c2 h3 K10.old K10.both ) [(.int c2)] [] (lenOf pd262 rfl) (d23_37 hby) ?_
    intro T11 h13 v14 lo15 fs16 K12 Kp17 q18
    rcases q18 with qq18_0 | qq18_1
    · obtain ⟨rfl, rfl, f19⟩ := qq18_0
      have K20 := K12.to 0 0 []
      refine Owe.stk [(.int 1)] ?_
      refine oIfYes K20 47 (d23_40 hby) (XT.i0_ne_t (by decide)) ?_
      refine oIconstV K20 48 (0 : Int32) (d23_47 hby) rfl ?_
      exact oRetI K20 [] (t := .boolean) hret (by simp) (by decide) (d23_48 hby) (by decide) (by decide) hlk (fun x hx => by cases hx) (Or.inr ⟨rfl, rfl, (by simp only [hiI, loI, Int32.lt_iff_toInt_lt, Int32.reduceToInt] at f9 f19 ⊢; omega)⟩)
    · obtain ⟨rfl, rfl, f21⟩ := qq18_1
      have K22 := K12.to 0 0 []
      refine Owe.stk [(.int 0)] ?_
      refine oIfNo K22 43 (d23_40 hby) (XT.i0_ne_f (by decide)) ?_
      refine oIconstV K22 44 (1 : Int32) (d23_43 hby) rfl ?_
      refine oGoto K22 48 (d23_44 hby) ?_
      exact oRetI K22 [] (t := .boolean) hret (by simp) (by decide) (d23_48 hby) (by decide) (by decide) hlk (fun x hx => by cases hx) (Or.inl ⟨rfl, rfl, (by simp only [hiI, loI, Int32.lt_iff_toInt_lt, Int32.reduceToInt] at f9 f21 ⊢; omega)⟩)
  · obtain ⟨rfl, rfl, f23⟩ := qq8_1
    have K24 := K2.to 0 0 []
    refine Owe.stk [(.int 0)] ?_
    refine oIfYes K24 49 (d23_22 hby) (XT.i0_eq_t (by decide)) ?_
    refine oIload K24 51 (d23_49 hby) rfl ?_
    refine oStatic K24 54 0 (wq hw 64) (wq hw 65) (wq hw 4) (wq hw 66) (rmIsL l Z a0 z0 fm G c1 h3 K24.old K24.both ) [(.int c1)] [] (lenOf pd262 rfl) (d23_51 hby) ?_
    intro T25 h27 v28 lo29 fs30 K26 Kp31 q32
    rcases q32 with qq32_0 | qq32_1
    · obtain ⟨rfl, rfl, f33⟩ := qq32_0
      have K34 := K26.to 0 0 []
      refine Owe.stk [(.int 1)] ?_
      refine oIfNo K34 57 (d23_54 hby) (XT.i0_eq_f (by decide)) ?_
      refine oIloadN K34 58 (d23_57 hby) rfl ?_
      refine oIconstV K34 59 (1 : Int32) (d23_58 hby) rfl ?_
      refine oIsub K34 60 (d23_59 hby) ?_
      show Owe _ _ _ _ T25 (mkF m 60 #[.val (.ref b), .val (.int n), .val (.int f), .val (.int 1), .val (.int c1)] [(.int 0)])
      refine oIloadN K34 61 (d23_60 hby) rfl ?_
      refine oIcmpNo K34 64 (d23_61 hby) (XT.ii_lt_f P4) ?_
      refine oAloadN K34 65 (d23_64 hby) rfl rfl ?_
      refine oIloadN K34 66 (d23_65 hby) rfl ?_
      refine oIconstV K34 67 (1 : Int32) (d23_66 hby) rfl ?_
      refine oIsub K34 68 (d23_67 hby) ?_
      show Owe _ _ _ _ T25 (mkF m 68 #[.val (.ref b), .val (.int n), .val (.int f), .val (.int 1), .val (.int c1)] [(.int 0), (.ref b)])
      refine oCaload K34 69 ((P0.keep Kp7 nin0).keep Kp31 nin0) 0 (by decide) (by decide) rfl (d23_68 hby) ?_
      refine oStatic K34 72 0 (wq hw 61) (wq hw 62) (wq hw 4) (wq hw 63) (rmIsH l Z a0 z0 fm G c0 h27 K34.old K34.both ) [(.int c0)] [] (lenOf pd262 rfl) (d23_69 hby) ?_
      intro T35 h37 v38 lo39 fs40 K36 Kp41 q42
      rcases q42 with qq42_0 | qq42_1
      · obtain ⟨rfl, rfl, f43⟩ := qq42_0
        have K44 := K36.to 0 0 []
        refine Owe.stk [(.int 1)] ?_
        refine oIfYes K44 79 (d23_72 hby) (XT.i0_ne_t (by decide)) ?_
        refine oIconstV K44 80 (0 : Int32) (d23_79 hby) rfl ?_
        exact oRetI K44 [] (t := .boolean) hret (by simp) (by decide) (d23_80 hby) (by decide) (by decide) hlk (fun x hx => by cases hx) (Or.inr ⟨rfl, rfl, (by simp only [hiI, loI, Int32.lt_iff_toInt_lt, Int32.reduceToInt] at f23 f33 f43 ⊢; omega)⟩)
      · obtain ⟨rfl, rfl, f45⟩ := qq42_1
        have K46 := K36.to 0 0 []
        refine Owe.stk [(.int 0)] ?_
        refine oIfNo K46 75 (d23_72 hby) (XT.i0_ne_f (by decide)) ?_
        refine oIconstV K46 76 (1 : Int32) (d23_75 hby) rfl ?_
        refine oGoto K46 80 (d23_76 hby) ?_
        exact oRetI K46 [] (t := .boolean) hret (by simp) (by decide) (d23_80 hby) (by decide) (by decide) hlk (fun x hx => by cases hx) (Or.inl ⟨rfl, rfl, (by simp only [hiI, loI, Int32.lt_iff_toInt_lt, Int32.reduceToInt] at f23 f33 f45 ⊢; omega)⟩)
    · obtain ⟨rfl, rfl, f47⟩ := qq32_1
      have K48 := K26.to 0 0 []
      refine Owe.stk [(.int 0)] ?_
      refine oIfYes K48 81 (d23_54 hby) (XT.i0_eq_t (by decide)) ?_
      refine oIconstV K48 82 (0 : Int32) (d23_81 hby) rfl ?_
      exact oRetI K48 [] (t := .boolean) hret (by simp) (by decide) (d23_82 hby) (by decide) (by decide) hlk (fun x hx => by cases hx) (Or.inr ⟨rfl, rfl, (by simp only [hiI, loI, Int32.lt_iff_toInt_lt, Int32.reduceToInt] at f23 f47 ⊢; omega)⟩)
theorem rmLA2_a (G : Gl Z a0 z0 fm) (b : Addr) (n f : Int32) (h0 : Heap) (hZh : Ext Z.heap h0) (hsf : Own Z h0 []) (P0 : (2 : Int32) < f) :
    Ctr l Z ELs yn499 method_6_code 5 (some .boolean) [] (rmk 0 0 0 0) #[(.ref b), (.int n), (.int f), (.int 2)] [] h0 (fun v h fs => (fs = [] ∧ v = some (.int 0))) := by
  obtain ⟨hw, hEL, wS, OS, hz0, OA, OH, OL, OF, rfm⟩ := id G
  refine Ctr.intro pn324 hEL hZh hsf ?_
  intro p e s m below meth c s₁ hby hml hret hnm hlk hh K0
  refine Owe.cast (ef498 m b n f ((2 : Int32))) ?_
  show Owe _ _ _ _ s₁ (mkF m 0 #[.val (.ref b), .val (.int n), .val (.int f), .val (.int 2), .unset] [])
  refine oIloadN K0 1 (d23_0 hby) rfl ?_
  refine oIloadN K0 2 (d23_1 hby) rfl ?_
  refine oIcmpYes K0 10 (d23_2 hby) (XT.ii_lt_t P0) ?_
  refine oIconstV K0 11 (0 : Int32) (d23_10 hby) rfl ?_
  exact oRetI K0 [] (t := .boolean) hret (by simp) (by decide) (d23_11 hby) (by decide) (by decide) hlk (fun x hx => by cases hx) ⟨rfl, rfl⟩
theorem rmLA2_b (G : Gl Z a0 z0 fm) (b : Addr) (n f : Int32) (h0 : Heap) (hZh : Ext Z.heap h0) (hsf : Own Z h0 []) (P0 : ¬ (2 : Int32) < f) (P1 : ¬ (2 : Int32) < n) :
    Ctr l Z ELs yn499 method_6_code 5 (some .boolean) [] (rmk 0 0 0 0) #[(.ref b), (.int n), (.int f), (.int 2)] [] h0 (fun v h fs => (fs = [] ∧ v = some (.int 0))) := by
  obtain ⟨hw, hEL, wS, OS, hz0, OA, OH, OL, OF, rfm⟩ := id G
  refine Ctr.intro pn324 hEL hZh hsf ?_
  intro p e s m below meth c s₁ hby hml hret hnm hlk hh K0
  refine Owe.cast (ef498 m b n f ((2 : Int32))) ?_
  show Owe _ _ _ _ s₁ (mkF m 0 #[.val (.ref b), .val (.int n), .val (.int f), .val (.int 2), .unset] [])
  refine oIloadN K0 1 (d23_0 hby) rfl ?_
  refine oIloadN K0 2 (d23_1 hby) rfl ?_
  refine oIcmpNo K0 5 (d23_2 hby) (XT.ii_lt_f P0) ?_
  refine oIloadN K0 6 (d23_5 hby) rfl ?_
  refine oIloadN K0 7 (d23_6 hby) rfl ?_
  refine oIcmpNo K0 10 (d23_7 hby) (XT.ii_lt_f P1) ?_
  refine oIconstV K0 11 (0 : Int32) (d23_10 hby) rfl ?_
  exact oRetI K0 [] (t := .boolean) hret (by simp) (by decide) (d23_11 hby) (by decide) (by decide) hlk (fun x hx => by cases hx) ⟨rfl, rfl⟩
theorem rmLA2_00 (G : Gl Z a0 z0 fm) (b : Addr) (n f c0 c1 c2 c3 : Int32) (h0 : Heap) (hZh : Ext Z.heap h0) (hsf : Own Z h0 []) (P0 : Ary Z h0 b .char [(.int c0), (.int c1), (.int c2), (.int c3)]) (P1 : ¬ (2 : Int32) < f) (P2 : (2 : Int32) < n) (P3 : ¬ (3 : Int32) < n) (P4 : (1 : Int32) < f) :
    Ctr l Z ELs yn499 method_6_code 5 (some .boolean) [] (rmk 1 0 0 12) #[(.ref b), (.int n), (.int f), (.int 2)] [] h0 (fun v h fs => (fs = [] ∧ v = some (.int 1) ∧ (hiI c2 ∨ loI c2)) ∨ (fs = [] ∧ v = some (.int 0) ∧ ¬ (hiI c2 ∨ loI c2))) := by
  obtain ⟨hw, hEL, wS, OS, hz0, OA, OH, OL, OF, rfm⟩ := id G
  refine Ctr.intro pn324 hEL hZh hsf ?_
  intro p e s m below meth c s₁ hby hml hret hnm hlk hh K0
  refine Owe.cast (ef498 m b n f ((2 : Int32))) ?_
  show Owe _ _ _ _ s₁ (mkF m 0 #[.val (.ref b), .val (.int n), .val (.int f), .val (.int 2), .unset] [])
  refine oIloadN K0 1 (d23_0 hby) rfl ?_
  refine oIloadN K0 2 (d23_1 hby) rfl ?_
  refine oIcmpNo K0 5 (d23_2 hby) (XT.ii_lt_f P1) ?_
  refine oIloadN K0 6 (d23_5 hby) rfl ?_
  refine oIloadN K0 7 (d23_6 hby) rfl ?_
  refine oIcmpYes K0 12 (d23_7 hby) (XT.ii_lt_t P2) ?_
  refine oAloadN K0 13 (d23_12 hby) rfl rfl ?_
  refine oIloadN K0 14 (d23_13 hby) rfl ?_
  refine oCaload K0 15 P0 2 (by decide) (by decide) rfl (d23_14 hby) ?_
  refine oIstore K0 17 (d23_15 hby) (l' := #[.val (.ref b), .val (.int n), .val (.int f), .val (.int 2), .val (.int c2)]) rfl ?_
  refine oIload K0 19 (d23_17 hby) rfl ?_
  refine oStatic K0 22 0 (wq hw 61) (wq hw 62) (wq hw 4) (wq hw 63) (rmIsH l Z a0 z0 fm G c2 h0 K0.old K0.both ) [(.int c2)] [] (lenOf pd262 rfl) (d23_19 hby) ?_
  intro T1 h3 v4 lo5 fs6 K2 Kp7 q8
  rcases q8 with qq8_0 | qq8_1
  · obtain ⟨rfl, rfl, f9⟩ := qq8_0
    have K10 := K2.to 0 0 []
    refine Owe.stk [(.int 1)] ?_
    refine oIfNo K10 25 (d23_22 hby) (XT.i0_eq_f (by decide)) ?_
    refine oIloadN K10 26 (d23_25 hby) rfl ?_
    refine oIconstV K10 27 (1 : Int32) (d23_26 hby) rfl ?_
    refine oIadd K10 28 (d23_27 hby) ?_
    show Owe _ _ _ _ T1 (mkF m 28 #[.val (.ref b), .val (.int n), .val (.int f), .val (.int 2), .val (.int c2)] [(.int 3)])
    refine oIloadN K10 29 (d23_28 hby) rfl ?_
    refine oIcmpYes K10 43 (d23_29 hby) (XT.ii_ge_t P3) ?_
    refine oIconstV K10 44 (1 : Int32) (d23_43 hby) rfl ?_
    refine oGoto K10 48 (d23_44 hby) ?_
    exact oRetI K10 [] (t := .boolean) hret (by simp) (by decide) (d23_48 hby) (by decide) (by decide) hlk (fun x hx => by cases hx) (Or.inl ⟨rfl, rfl, (by simp only [hiI, loI, Int32.lt_iff_toInt_lt, Int32.reduceToInt] at f9 ⊢; omega)⟩)
  · obtain ⟨rfl, rfl, f11⟩ := qq8_1
    have K12 := K2.to 0 0 []
    refine Owe.stk [(.int 0)] ?_
    refine oIfYes K12 49 (d23_22 hby) (XT.i0_eq_t (by decide)) ?_
    refine oIload K12 51 (d23_49 hby) rfl ?_
    refine oStatic K12 54 0 (wq hw 64) (wq hw 65) (wq hw 4) (wq hw 66) (rmIsL l Z a0 z0 fm G c2 h3 K12.old K12.both ) [(.int c2)] [] (lenOf pd262 rfl) (d23_51 hby) ?_
    intro T13 h15 v16 lo17 fs18 K14 Kp19 q20
    rcases q20 with qq20_0 | qq20_1
    · obtain ⟨rfl, rfl, f21⟩ := qq20_0
      have K22 := K14.to 0 0 []
      refine Owe.stk [(.int 1)] ?_
      refine oIfNo K22 57 (d23_54 hby) (XT.i0_eq_f (by decide)) ?_
      refine oIloadN K22 58 (d23_57 hby) rfl ?_
      refine oIconstV K22 59 (1 : Int32) (d23_58 hby) rfl ?_
      refine oIsub K22 60 (d23_59 hby) ?_
      show Owe _ _ _ _ T13 (mkF m 60 #[.val (.ref b), .val (.int n), .val (.int f), .val (.int 2), .val (.int c2)] [(.int 1)])
      refine oIloadN K22 61 (d23_60 hby) rfl ?_
      refine oIcmpYes K22 75 (d23_61 hby) (XT.ii_lt_t P4) ?_
      refine oIconstV K22 76 (1 : Int32) (d23_75 hby) rfl ?_
      refine oGoto K22 80 (d23_76 hby) ?_
      exact oRetI K22 [] (t := .boolean) hret (by simp) (by decide) (d23_80 hby) (by decide) (by decide) hlk (fun x hx => by cases hx) (Or.inl ⟨rfl, rfl, (by simp only [hiI, loI, Int32.lt_iff_toInt_lt, Int32.reduceToInt] at f11 f21 ⊢; omega)⟩)
    · obtain ⟨rfl, rfl, f23⟩ := qq20_1
      have K24 := K14.to 0 0 []
      refine Owe.stk [(.int 0)] ?_
      refine oIfYes K24 81 (d23_54 hby) (XT.i0_eq_t (by decide)) ?_
      refine oIconstV K24 82 (0 : Int32) (d23_81 hby) rfl ?_
      exact oRetI K24 [] (t := .boolean) hret (by simp) (by decide) (d23_82 hby) (by decide) (by decide) hlk (fun x hx => by cases hx) (Or.inr ⟨rfl, rfl, (by simp only [hiI, loI, Int32.lt_iff_toInt_lt, Int32.reduceToInt] at f11 f23 ⊢; omega)⟩)
theorem rmLA2_01 (G : Gl Z a0 z0 fm) (b : Addr) (n f c0 c1 c2 c3 : Int32) (h0 : Heap) (hZh : Ext Z.heap h0) (hsf : Own Z h0 []) (P0 : Ary Z h0 b .char [(.int c0), (.int c1), (.int c2), (.int c3)]) (P1 : ¬ (2 : Int32) < f) (P2 : (2 : Int32) < n) (P3 : ¬ (3 : Int32) < n) (P4 : ¬ (1 : Int32) < f) :
    Ctr l Z ELs yn499 method_6_code 5 (some .boolean) [] (rmk 1 0 0 12) #[(.ref b), (.int n), (.int f), (.int 2)] [] h0 (fun v h fs => (fs = [] ∧ v = some (.int 1) ∧ (hiI c2 ∨ (loI c2 ∧ ¬ hiI c1))) ∨ (fs = [] ∧ v = some (.int 0) ∧ ¬ (hiI c2 ∨ (loI c2 ∧ ¬ hiI c1)))) := by
  obtain ⟨hw, hEL, wS, OS, hz0, OA, OH, OL, OF, rfm⟩ := id G
  refine Ctr.intro pn324 hEL hZh hsf ?_
  intro p e s m below meth c s₁ hby hml hret hnm hlk hh K0
  refine Owe.cast (ef498 m b n f ((2 : Int32))) ?_
  show Owe _ _ _ _ s₁ (mkF m 0 #[.val (.ref b), .val (.int n), .val (.int f), .val (.int 2), .unset] [])
  refine oIloadN K0 1 (d23_0 hby) rfl ?_
  refine oIloadN K0 2 (d23_1 hby) rfl ?_
  refine oIcmpNo K0 5 (d23_2 hby) (XT.ii_lt_f P1) ?_
  refine oIloadN K0 6 (d23_5 hby) rfl ?_
  refine oIloadN K0 7 (d23_6 hby) rfl ?_
  refine oIcmpYes K0 12 (d23_7 hby) (XT.ii_lt_t P2) ?_
  refine oAloadN K0 13 (d23_12 hby) rfl rfl ?_
  refine oIloadN K0 14 (d23_13 hby) rfl ?_
  refine oCaload K0 15 P0 2 (by decide) (by decide) rfl (d23_14 hby) ?_
  refine oIstore K0 17 (d23_15 hby) (l' := #[.val (.ref b), .val (.int n), .val (.int f), .val (.int 2), .val (.int c2)]) rfl ?_
  refine oIload K0 19 (d23_17 hby) rfl ?_
  refine oStatic K0 22 0 (wq hw 61) (wq hw 62) (wq hw 4) (wq hw 63) (rmIsH l Z a0 z0 fm G c2 h0 K0.old K0.both ) [(.int c2)] [] (lenOf pd262 rfl) (d23_19 hby) ?_
  intro T1 h3 v4 lo5 fs6 K2 Kp7 q8
  rcases q8 with qq8_0 | qq8_1
  · obtain ⟨rfl, rfl, f9⟩ := qq8_0
    have K10 := K2.to 0 0 []
    refine Owe.stk [(.int 1)] ?_
    refine oIfNo K10 25 (d23_22 hby) (XT.i0_eq_f (by decide)) ?_
    refine oIloadN K10 26 (d23_25 hby) rfl ?_
    refine oIconstV K10 27 (1 : Int32) (d23_26 hby) rfl ?_
    refine oIadd K10 28 (d23_27 hby) ?_
    show Owe _ _ _ _ T1 (mkF m 28 #[.val (.ref b), .val (.int n), .val (.int f), .val (.int 2), .val (.int c2)] [(.int 3)])
    refine oIloadN K10 29 (d23_28 hby) rfl ?_
    refine oIcmpYes K10 43 (d23_29 hby) (XT.ii_ge_t P3) ?_
    refine oIconstV K10 44 (1 : Int32) (d23_43 hby) rfl ?_
    refine oGoto K10 48 (d23_44 hby) ?_
    exact oRetI K10 [] (t := .boolean) hret (by simp) (by decide) (d23_48 hby) (by decide) (by decide) hlk (fun x hx => by cases hx) (Or.inl ⟨rfl, rfl, (by simp only [hiI, loI, Int32.lt_iff_toInt_lt, Int32.reduceToInt] at f9 ⊢; omega)⟩)
  · obtain ⟨rfl, rfl, f11⟩ := qq8_1
    have K12 := K2.to 0 0 []
    refine Owe.stk [(.int 0)] ?_
    refine oIfYes K12 49 (d23_22 hby) (XT.i0_eq_t (by decide)) ?_
    refine oIload K12 51 (d23_49 hby) rfl ?_
    refine oStatic K12 54 0 (wq hw 64) (wq hw 65) (wq hw 4) (wq hw 66) (rmIsL l Z a0 z0 fm G c2 h3 K12.old K12.both ) [(.int c2)] [] (lenOf pd262 rfl) (d23_51 hby) ?_
    intro T13 h15 v16 lo17 fs18 K14 Kp19 q20
    rcases q20 with qq20_0 | qq20_1
    · obtain ⟨rfl, rfl, f21⟩ := qq20_0
      have K22 := K14.to 0 0 []
      refine Owe.stk [(.int 1)] ?_
      refine oIfNo K22 57 (d23_54 hby) (XT.i0_eq_f (by decide)) ?_
      refine oIloadN K22 58 (d23_57 hby) rfl ?_
      refine oIconstV K22 59 (1 : Int32) (d23_58 hby) rfl ?_
      refine oIsub K22 60 (d23_59 hby) ?_
      show Owe _ _ _ _ T13 (mkF m 60 #[.val (.ref b), .val (.int n), .val (.int f), .val (.int 2), .val (.int c2)] [(.int 1)])
      refine oIloadN K22 61 (d23_60 hby) rfl ?_
      refine oIcmpNo K22 64 (d23_61 hby) (XT.ii_lt_f P4) ?_
      refine oAloadN K22 65 (d23_64 hby) rfl rfl ?_
      refine oIloadN K22 66 (d23_65 hby) rfl ?_
      refine oIconstV K22 67 (1 : Int32) (d23_66 hby) rfl ?_
      refine oIsub K22 68 (d23_67 hby) ?_
      show Owe _ _ _ _ T13 (mkF m 68 #[.val (.ref b), .val (.int n), .val (.int f), .val (.int 2), .val (.int c2)] [(.int 1), (.ref b)])
      refine oCaload K22 69 ((P0.keep Kp7 nin0).keep Kp19 nin0) 1 (by decide) (by decide) rfl (d23_68 hby) ?_
      refine oStatic K22 72 0 (wq hw 61) (wq hw 62) (wq hw 4) (wq hw 63) (rmIsH l Z a0 z0 fm G c1 h15 K22.old K22.both ) [(.int c1)] [] (lenOf pd262 rfl) (d23_69 hby) ?_
      intro T23 h25 v26 lo27 fs28 K24 Kp29 q30
      rcases q30 with qq30_0 | qq30_1
      · obtain ⟨rfl, rfl, f31⟩ := qq30_0
        have K32 := K24.to 0 0 []
        refine Owe.stk [(.int 1)] ?_
        refine oIfYes K32 79 (d23_72 hby) (XT.i0_ne_t (by decide)) ?_
        refine oIconstV K32 80 (0 : Int32) (d23_79 hby) rfl ?_
        exact oRetI K32 [] (t := .boolean) hret (by simp) (by decide) (d23_80 hby) (by decide) (by decide) hlk (fun x hx => by cases hx) (Or.inr ⟨rfl, rfl, (by simp only [hiI, loI, Int32.lt_iff_toInt_lt, Int32.reduceToInt] at f11 f21 f31 ⊢; omega)⟩)
      · obtain ⟨rfl, rfl, f33⟩ := qq30_1
        have K34 := K24.to 0 0 []
        refine Owe.stk [(.int 0)] ?_
        refine oIfNo K34 75 (d23_72 hby) (XT.i0_ne_f (by decide)) ?_
        refine oIconstV K34 76 (1 : Int32) (d23_75 hby) rfl ?_
        refine oGoto K34 80 (d23_76 hby) ?_
        exact oRetI K34 [] (t := .boolean) hret (by simp) (by decide) (d23_80 hby) (by decide) (by decide) hlk (fun x hx => by cases hx) (Or.inl ⟨rfl, rfl, (by simp only [hiI, loI, Int32.lt_iff_toInt_lt, Int32.reduceToInt] at f11 f21 f33 ⊢; omega)⟩)
    · obtain ⟨rfl, rfl, f35⟩ := qq20_1
      have K36 := K14.to 0 0 []
      refine Owe.stk [(.int 0)] ?_
      refine oIfYes K36 81 (d23_54 hby) (XT.i0_eq_t (by decide)) ?_
      refine oIconstV K36 82 (0 : Int32) (d23_81 hby) rfl ?_
      exact oRetI K36 [] (t := .boolean) hret (by simp) (by decide) (d23_82 hby) (by decide) (by decide) hlk (fun x hx => by cases hx) (Or.inr ⟨rfl, rfl, (by simp only [hiI, loI, Int32.lt_iff_toInt_lt, Int32.reduceToInt] at f11 f35 ⊢; omega)⟩)
theorem rmLA2_10 (G : Gl Z a0 z0 fm) (b : Addr) (n f c0 c1 c2 c3 : Int32) (h0 : Heap) (hZh : Ext Z.heap h0) (hsf : Own Z h0 []) (P0 : Ary Z h0 b .char [(.int c0), (.int c1), (.int c2), (.int c3)]) (P1 : ¬ (2 : Int32) < f) (P2 : (2 : Int32) < n) (P3 : (3 : Int32) < n) (P4 : (1 : Int32) < f) :
    Ctr l Z ELs yn499 method_6_code 5 (some .boolean) [] (rmk 1 0 0 12) #[(.ref b), (.int n), (.int f), (.int 2)] [] h0 (fun v h fs => (fs = [] ∧ v = some (.int 1) ∧ ((hiI c2 ∧ ¬ loI c3) ∨ loI c2)) ∨ (fs = [] ∧ v = some (.int 0) ∧ ¬ ((hiI c2 ∧ ¬ loI c3) ∨ loI c2))) := by
  obtain ⟨hw, hEL, wS, OS, hz0, OA, OH, OL, OF, rfm⟩ := id G
  refine Ctr.intro pn324 hEL hZh hsf ?_
  intro p e s m below meth c s₁ hby hml hret hnm hlk hh K0
  refine Owe.cast (ef498 m b n f ((2 : Int32))) ?_
  show Owe _ _ _ _ s₁ (mkF m 0 #[.val (.ref b), .val (.int n), .val (.int f), .val (.int 2), .unset] [])
  refine oIloadN K0 1 (d23_0 hby) rfl ?_
  refine oIloadN K0 2 (d23_1 hby) rfl ?_
  refine oIcmpNo K0 5 (d23_2 hby) (XT.ii_lt_f P1) ?_
  refine oIloadN K0 6 (d23_5 hby) rfl ?_
  refine oIloadN K0 7 (d23_6 hby) rfl ?_
  refine oIcmpYes K0 12 (d23_7 hby) (XT.ii_lt_t P2) ?_
  refine oAloadN K0 13 (d23_12 hby) rfl rfl ?_
  refine oIloadN K0 14 (d23_13 hby) rfl ?_
  refine oCaload K0 15 P0 2 (by decide) (by decide) rfl (d23_14 hby) ?_
  refine oIstore K0 17 (d23_15 hby) (l' := #[.val (.ref b), .val (.int n), .val (.int f), .val (.int 2), .val (.int c2)]) rfl ?_
  refine oIload K0 19 (d23_17 hby) rfl ?_
  refine oStatic K0 22 0 (wq hw 61) (wq hw 62) (wq hw 4) (wq hw 63) (rmIsH l Z a0 z0 fm G c2 h0 K0.old K0.both ) [(.int c2)] [] (lenOf pd262 rfl) (d23_19 hby) ?_
  intro T1 h3 v4 lo5 fs6 K2 Kp7 q8
  rcases q8 with qq8_0 | qq8_1
  · obtain ⟨rfl, rfl, f9⟩ := qq8_0
    have K10 := K2.to 0 0 []
    refine Owe.stk [(.int 1)] ?_
    refine oIfNo K10 25 (d23_22 hby) (XT.i0_eq_f (by decide)) ?_
    refine oIloadN K10 26 (d23_25 hby) rfl ?_
    refine oIconstV K10 27 (1 : Int32) (d23_26 hby) rfl ?_
    refine oIadd K10 28 (d23_27 hby) ?_
    show Owe _ _ _ _ T1 (mkF m 28 #[.val (.ref b), .val (.int n), .val (.int f), .val (.int 2), .val (.int c2)] [(.int 3)])
    refine oIloadN K10 29 (d23_28 hby) rfl ?_
    refine oIcmpNo K10 32 (d23_29 hby) (XT.ii_ge_f P3) ?_
    refine oAloadN K10 33 (d23_32 hby) rfl rfl ?_
    refine oIloadN K10 34 (d23_33 hby) rfl ?_
    refine oIconstV K10 35 (1 : Int32) (d23_34 hby) rfl ?_
    refine oIadd K10 36 (d23_35 hby) ?_
    show Owe _ _ _ _ T1 (mkF m 36 #[.val (.ref b), .val (.int n), .val (.int f), .val (.int 2), .val (.int c2)] [(.int 3), (.ref b)])
    refine oCaload K10 37 (P0.keep Kp7 nin0) 3 (by decide) (by decide) rfl (d23_36 hby) ?_
    refine oStatic K10 40 0 (wq hw 64) (wq hw 65) (wq hw 4) (wq hw 66) (rmIsL l Z a0 z0 fm G c3 h3 K10.old K10.both ) [(.int c3)] [] (lenOf pd262 rfl) (d23_37 hby) ?_
    intro T11 h13 v14 lo15 fs16 K12 Kp17 q18
    rcases q18 with qq18_0 | qq18_1
    · obtain ⟨rfl, rfl, f19⟩ := qq18_0
      have K20 := K12.to 0 0 []
      refine Owe.stk [(.int 1)] ?_
      refine oIfYes K20 47 (d23_40 hby) (XT.i0_ne_t (by decide)) ?_
      refine oIconstV K20 48 (0 : Int32) (d23_47 hby) rfl ?_
      exact oRetI K20 [] (t := .boolean) hret (by simp) (by decide) (d23_48 hby) (by decide) (by decide) hlk (fun x hx => by cases hx) (Or.inr ⟨rfl, rfl, (by simp only [hiI, loI, Int32.lt_iff_toInt_lt, Int32.reduceToInt] at f9 f19 ⊢; omega)⟩)
    · obtain ⟨rfl, rfl, f21⟩ := qq18_1
      have K22 := K12.to 0 0 []
      refine Owe.stk [(.int 0)] ?_
      refine oIfNo K22 43 (d23_40 hby) (XT.i0_ne_f (by decide)) ?_
      refine oIconstV K22 44 (1 : Int32) (d23_43 hby) rfl ?_
      refine oGoto K22 48 (d23_44 hby) ?_
      exact oRetI K22 [] (t := .boolean) hret (by simp) (by decide) (d23_48 hby) (by decide) (by decide) hlk (fun x hx => by cases hx) (Or.inl ⟨rfl, rfl, (by simp only [hiI, loI, Int32.lt_iff_toInt_lt, Int32.reduceToInt] at f9 f21 ⊢; omega)⟩)
  · obtain ⟨rfl, rfl, f23⟩ := qq8_1
    have K24 := K2.to 0 0 []
    refine Owe.stk [(.int 0)] ?_
    refine oIfYes K24 49 (d23_22 hby) (XT.i0_eq_t (by decide)) ?_
    refine oIload K24 51 (d23_49 hby) rfl ?_
    refine oStatic K24 54 0 (wq hw 64) (wq hw 65) (wq hw 4) (wq hw 66) (rmIsL l Z a0 z0 fm G c2 h3 K24.old K24.both ) [(.int c2)] [] (lenOf pd262 rfl) (d23_51 hby) ?_
    intro T25 h27 v28 lo29 fs30 K26 Kp31 q32
    rcases q32 with qq32_0 | qq32_1
    · obtain ⟨rfl, rfl, f33⟩ := qq32_0
      have K34 := K26.to 0 0 []
      refine Owe.stk [(.int 1)] ?_
      refine oIfNo K34 57 (d23_54 hby) (XT.i0_eq_f (by decide)) ?_
      refine oIloadN K34 58 (d23_57 hby) rfl ?_
      refine oIconstV K34 59 (1 : Int32) (d23_58 hby) rfl ?_
      refine oIsub K34 60 (d23_59 hby) ?_
      show Owe _ _ _ _ T25 (mkF m 60 #[.val (.ref b), .val (.int n), .val (.int f), .val (.int 2), .val (.int c2)] [(.int 1)])
      refine oIloadN K34 61 (d23_60 hby) rfl ?_
      refine oIcmpYes K34 75 (d23_61 hby) (XT.ii_lt_t P4) ?_
      refine oIconstV K34 76 (1 : Int32) (d23_75 hby) rfl ?_
      refine oGoto K34 80 (d23_76 hby) ?_
      exact oRetI K34 [] (t := .boolean) hret (by simp) (by decide) (d23_80 hby) (by decide) (by decide) hlk (fun x hx => by cases hx) (Or.inl ⟨rfl, rfl, (by simp only [hiI, loI, Int32.lt_iff_toInt_lt, Int32.reduceToInt] at f23 f33 ⊢; omega)⟩)
    · obtain ⟨rfl, rfl, f35⟩ := qq32_1
      have K36 := K26.to 0 0 []
      refine Owe.stk [(.int 0)] ?_
      refine oIfYes K36 81 (d23_54 hby) (XT.i0_eq_t (by decide)) ?_
      refine oIconstV K36 82 (0 : Int32) (d23_81 hby) rfl ?_
      exact oRetI K36 [] (t := .boolean) hret (by simp) (by decide) (d23_82 hby) (by decide) (by decide) hlk (fun x hx => by cases hx) (Or.inr ⟨rfl, rfl, (by simp only [hiI, loI, Int32.lt_iff_toInt_lt, Int32.reduceToInt] at f23 f35 ⊢; omega)⟩)
theorem rmLA2_11 (G : Gl Z a0 z0 fm) (b : Addr) (n f c0 c1 c2 c3 : Int32) (h0 : Heap) (hZh : Ext Z.heap h0) (hsf : Own Z h0 []) (P0 : Ary Z h0 b .char [(.int c0), (.int c1), (.int c2), (.int c3)]) (P1 : ¬ (2 : Int32) < f) (P2 : (2 : Int32) < n) (P3 : (3 : Int32) < n) (P4 : ¬ (1 : Int32) < f) :
    Ctr l Z ELs yn499 method_6_code 5 (some .boolean) [] (rmk 1 0 0 12) #[(.ref b), (.int n), (.int f), (.int 2)] [] h0 (fun v h fs => (fs = [] ∧ v = some (.int 1) ∧ ((hiI c2 ∧ ¬ loI c3) ∨ (loI c2 ∧ ¬ hiI c1))) ∨ (fs = [] ∧ v = some (.int 0) ∧ ¬ ((hiI c2 ∧ ¬ loI c3) ∨ (loI c2 ∧ ¬ hiI c1)))) := by
  obtain ⟨hw, hEL, wS, OS, hz0, OA, OH, OL, OF, rfm⟩ := id G
  refine Ctr.intro pn324 hEL hZh hsf ?_
  intro p e s m below meth c s₁ hby hml hret hnm hlk hh K0
  refine Owe.cast (ef498 m b n f ((2 : Int32))) ?_
  show Owe _ _ _ _ s₁ (mkF m 0 #[.val (.ref b), .val (.int n), .val (.int f), .val (.int 2), .unset] [])
  refine oIloadN K0 1 (d23_0 hby) rfl ?_
  refine oIloadN K0 2 (d23_1 hby) rfl ?_
  refine oIcmpNo K0 5 (d23_2 hby) (XT.ii_lt_f P1) ?_
  refine oIloadN K0 6 (d23_5 hby) rfl ?_
  refine oIloadN K0 7 (d23_6 hby) rfl ?_
  refine oIcmpYes K0 12 (d23_7 hby) (XT.ii_lt_t P2) ?_
  refine oAloadN K0 13 (d23_12 hby) rfl rfl ?_
  refine oIloadN K0 14 (d23_13 hby) rfl ?_
  refine oCaload K0 15 P0 2 (by decide) (by decide) rfl (d23_14 hby) ?_
  refine oIstore K0 17 (d23_15 hby) (l' := #[.val (.ref b), .val (.int n), .val (.int f), .val (.int 2), .val (.int c2)]) rfl ?_
  refine oIload K0 19 (d23_17 hby) rfl ?_
  refine oStatic K0 22 0 (wq hw 61) (wq hw 62) (wq hw 4) (wq hw 63) (rmIsH l Z a0 z0 fm G c2 h0 K0.old K0.both ) [(.int c2)] [] (lenOf pd262 rfl) (d23_19 hby) ?_
  intro T1 h3 v4 lo5 fs6 K2 Kp7 q8
  rcases q8 with qq8_0 | qq8_1
  · obtain ⟨rfl, rfl, f9⟩ := qq8_0
    have K10 := K2.to 0 0 []
    refine Owe.stk [(.int 1)] ?_
    refine oIfNo K10 25 (d23_22 hby) (XT.i0_eq_f (by decide)) ?_
    refine oIloadN K10 26 (d23_25 hby) rfl ?_
    refine oIconstV K10 27 (1 : Int32) (d23_26 hby) rfl ?_
    refine oIadd K10 28 (d23_27 hby) ?_
    show Owe _ _ _ _ T1 (mkF m 28 #[.val (.ref b), .val (.int n), .val (.int f), .val (.int 2), .val (.int c2)] [(.int 3)])
    refine oIloadN K10 29 (d23_28 hby) rfl ?_
    refine oIcmpNo K10 32 (d23_29 hby) (XT.ii_ge_f P3) ?_
    refine oAloadN K10 33 (d23_32 hby) rfl rfl ?_
    refine oIloadN K10 34 (d23_33 hby) rfl ?_
    refine oIconstV K10 35 (1 : Int32) (d23_34 hby) rfl ?_
    refine oIadd K10 36 (d23_35 hby) ?_
    show Owe _ _ _ _ T1 (mkF m 36 #[.val (.ref b), .val (.int n), .val (.int f), .val (.int 2), .val (.int c2)] [(.int 3), (.ref b)])
    refine oCaload K10 37 (P0.keep Kp7 nin0) 3 (by decide) (by decide) rfl (d23_36 hby) ?_
    refine oStatic K10 40 0 (wq hw 64) (wq hw 65) (wq hw 4) (wq hw 66) (rmIsL l Z a0 z0 fm G c3 h3 K10.old K10.both ) [(.int c3)] [] (lenOf pd262 rfl) (d23_37 hby) ?_
    intro T11 h13 v14 lo15 fs16 K12 Kp17 q18
    rcases q18 with qq18_0 | qq18_1
    · obtain ⟨rfl, rfl, f19⟩ := qq18_0
      have K20 := K12.to 0 0 []
      refine Owe.stk [(.int 1)] ?_
      refine oIfYes K20 47 (d23_40 hby) (XT.i0_ne_t (by decide)) ?_
      refine oIconstV K20 48 (0 : Int32) (d23_47 hby) rfl ?_
      exact oRetI K20 [] (t := .boolean) hret (by simp) (by decide) (d23_48 hby) (by decide) (by decide) hlk (fun x hx => by cases hx) (Or.inr ⟨rfl, rfl, (by simp only [hiI, loI, Int32.lt_iff_toInt_lt, Int32.reduceToInt] at f9 f19 ⊢; omega)⟩)
    · obtain ⟨rfl, rfl, f21⟩ := qq18_1
      have K22 := K12.to 0 0 []
      refine Owe.stk [(.int 0)] ?_
      refine oIfNo K22 43 (d23_40 hby) (XT.i0_ne_f (by decide)) ?_
      refine oIconstV K22 44 (1 : Int32) (d23_43 hby) rfl ?_
      refine oGoto K22 48 (d23_44 hby) ?_
      exact oRetI K22 [] (t := .boolean) hret (by simp) (by decide) (d23_48 hby) (by decide) (by decide) hlk (fun x hx => by cases hx) (Or.inl ⟨rfl, rfl, (by simp only [hiI, loI, Int32.lt_iff_toInt_lt, Int32.reduceToInt] at f9 f21 ⊢; omega)⟩)
  · obtain ⟨rfl, rfl, f23⟩ := qq8_1
    have K24 := K2.to 0 0 []
    refine Owe.stk [(.int 0)] ?_
    refine oIfYes K24 49 (d23_22 hby) (XT.i0_eq_t (by decide)) ?_
    refine oIload K24 51 (d23_49 hby) rfl ?_
    refine oStatic K24 54 0 (wq hw 64) (wq hw 65) (wq hw 4) (wq hw 66) (rmIsL l Z a0 z0 fm G c2 h3 K24.old K24.both ) [(.int c2)] [] (lenOf pd262 rfl) (d23_51 hby) ?_
    intro T25 h27 v28 lo29 fs30 K26 Kp31 q32
    rcases q32 with qq32_0 | qq32_1
    · obtain ⟨rfl, rfl, f33⟩ := qq32_0
      have K34 := K26.to 0 0 []
      refine Owe.stk [(.int 1)] ?_
      refine oIfNo K34 57 (d23_54 hby) (XT.i0_eq_f (by decide)) ?_
      refine oIloadN K34 58 (d23_57 hby) rfl ?_
      refine oIconstV K34 59 (1 : Int32) (d23_58 hby) rfl ?_
      refine oIsub K34 60 (d23_59 hby) ?_
      show Owe _ _ _ _ T25 (mkF m 60 #[.val (.ref b), .val (.int n), .val (.int f), .val (.int 2), .val (.int c2)] [(.int 1)])
      refine oIloadN K34 61 (d23_60 hby) rfl ?_
      refine oIcmpNo K34 64 (d23_61 hby) (XT.ii_lt_f P4) ?_
      refine oAloadN K34 65 (d23_64 hby) rfl rfl ?_
      refine oIloadN K34 66 (d23_65 hby) rfl ?_
      refine oIconstV K34 67 (1 : Int32) (d23_66 hby) rfl ?_
      refine oIsub K34 68 (d23_67 hby) ?_
      show Owe _ _ _ _ T25 (mkF m 68 #[.val (.ref b), .val (.int n), .val (.int f), .val (.int 2), .val (.int c2)] [(.int 1), (.ref b)])
      refine oCaload K34 69 ((P0.keep Kp7 nin0).keep Kp31 nin0) 1 (by decide) (by decide) rfl (d23_68 hby) ?_
      refine oStatic K34 72 0 (wq hw 61) (wq hw 62) (wq hw 4) (wq hw 63) (rmIsH l Z a0 z0 fm G c1 h27 K34.old K34.both ) [(.int c1)] [] (lenOf pd262 rfl) (d23_69 hby) ?_
      intro T35 h37 v38 lo39 fs40 K36 Kp41 q42
      rcases q42 with qq42_0 | qq42_1
      · obtain ⟨rfl, rfl, f43⟩ := qq42_0
        have K44 := K36.to 0 0 []
        refine Owe.stk [(.int 1)] ?_
        refine oIfYes K44 79 (d23_72 hby) (XT.i0_ne_t (by decide)) ?_
        refine oIconstV K44 80 (0 : Int32) (d23_79 hby) rfl ?_
        exact oRetI K44 [] (t := .boolean) hret (by simp) (by decide) (d23_80 hby) (by decide) (by decide) hlk (fun x hx => by cases hx) (Or.inr ⟨rfl, rfl, (by simp only [hiI, loI, Int32.lt_iff_toInt_lt, Int32.reduceToInt] at f23 f33 f43 ⊢; omega)⟩)
      · obtain ⟨rfl, rfl, f45⟩ := qq42_1
        have K46 := K36.to 0 0 []
        refine Owe.stk [(.int 0)] ?_
        refine oIfNo K46 75 (d23_72 hby) (XT.i0_ne_f (by decide)) ?_
        refine oIconstV K46 76 (1 : Int32) (d23_75 hby) rfl ?_
        refine oGoto K46 80 (d23_76 hby) ?_
        exact oRetI K46 [] (t := .boolean) hret (by simp) (by decide) (d23_80 hby) (by decide) (by decide) hlk (fun x hx => by cases hx) (Or.inl ⟨rfl, rfl, (by simp only [hiI, loI, Int32.lt_iff_toInt_lt, Int32.reduceToInt] at f23 f33 f45 ⊢; omega)⟩)
    · obtain ⟨rfl, rfl, f47⟩ := qq32_1
      have K48 := K26.to 0 0 []
      refine Owe.stk [(.int 0)] ?_
      refine oIfYes K48 81 (d23_54 hby) (XT.i0_eq_t (by decide)) ?_
      refine oIconstV K48 82 (0 : Int32) (d23_81 hby) rfl ?_
      exact oRetI K48 [] (t := .boolean) hret (by simp) (by decide) (d23_82 hby) (by decide) (by decide) hlk (fun x hx => by cases hx) (Or.inr ⟨rfl, rfl, (by simp only [hiI, loI, Int32.lt_iff_toInt_lt, Int32.reduceToInt] at f23 f47 ⊢; omega)⟩)
theorem rmLA3_a (G : Gl Z a0 z0 fm) (b : Addr) (n f : Int32) (h0 : Heap) (hZh : Ext Z.heap h0) (hsf : Own Z h0 []) (P0 : (3 : Int32) < f) :
    Ctr l Z ELs yn499 method_6_code 5 (some .boolean) [] (rmk 0 0 0 0) #[(.ref b), (.int n), (.int f), (.int 3)] [] h0 (fun v h fs => (fs = [] ∧ v = some (.int 0))) := by
  obtain ⟨hw, hEL, wS, OS, hz0, OA, OH, OL, OF, rfm⟩ := id G
  refine Ctr.intro pn324 hEL hZh hsf ?_
  intro p e s m below meth c s₁ hby hml hret hnm hlk hh K0
  refine Owe.cast (ef498 m b n f ((3 : Int32))) ?_
  show Owe _ _ _ _ s₁ (mkF m 0 #[.val (.ref b), .val (.int n), .val (.int f), .val (.int 3), .unset] [])
  refine oIloadN K0 1 (d23_0 hby) rfl ?_
  refine oIloadN K0 2 (d23_1 hby) rfl ?_
  refine oIcmpYes K0 10 (d23_2 hby) (XT.ii_lt_t P0) ?_
  refine oIconstV K0 11 (0 : Int32) (d23_10 hby) rfl ?_
  exact oRetI K0 [] (t := .boolean) hret (by simp) (by decide) (d23_11 hby) (by decide) (by decide) hlk (fun x hx => by cases hx) ⟨rfl, rfl⟩
theorem rmLA3_b (G : Gl Z a0 z0 fm) (b : Addr) (n f : Int32) (h0 : Heap) (hZh : Ext Z.heap h0) (hsf : Own Z h0 []) (P0 : ¬ (3 : Int32) < f) (P1 : ¬ (3 : Int32) < n) :
    Ctr l Z ELs yn499 method_6_code 5 (some .boolean) [] (rmk 0 0 0 0) #[(.ref b), (.int n), (.int f), (.int 3)] [] h0 (fun v h fs => (fs = [] ∧ v = some (.int 0))) := by
  obtain ⟨hw, hEL, wS, OS, hz0, OA, OH, OL, OF, rfm⟩ := id G
  refine Ctr.intro pn324 hEL hZh hsf ?_
  intro p e s m below meth c s₁ hby hml hret hnm hlk hh K0
  refine Owe.cast (ef498 m b n f ((3 : Int32))) ?_
  show Owe _ _ _ _ s₁ (mkF m 0 #[.val (.ref b), .val (.int n), .val (.int f), .val (.int 3), .unset] [])
  refine oIloadN K0 1 (d23_0 hby) rfl ?_
  refine oIloadN K0 2 (d23_1 hby) rfl ?_
  refine oIcmpNo K0 5 (d23_2 hby) (XT.ii_lt_f P0) ?_
  refine oIloadN K0 6 (d23_5 hby) rfl ?_
  refine oIloadN K0 7 (d23_6 hby) rfl ?_
  refine oIcmpNo K0 10 (d23_7 hby) (XT.ii_lt_f P1) ?_
  refine oIconstV K0 11 (0 : Int32) (d23_10 hby) rfl ?_
  exact oRetI K0 [] (t := .boolean) hret (by simp) (by decide) (d23_11 hby) (by decide) (by decide) hlk (fun x hx => by cases hx) ⟨rfl, rfl⟩
theorem rmLA3_00 (G : Gl Z a0 z0 fm) (b : Addr) (n f c0 c1 c2 c3 : Int32) (h0 : Heap) (hZh : Ext Z.heap h0) (hsf : Own Z h0 []) (P0 : Ary Z h0 b .char [(.int c0), (.int c1), (.int c2), (.int c3)]) (P1 : ¬ (3 : Int32) < f) (P2 : (3 : Int32) < n) (P3 : ¬ (4 : Int32) < n) (P4 : (2 : Int32) < f) :
    Ctr l Z ELs yn499 method_6_code 5 (some .boolean) [] (rmk 1 0 0 12) #[(.ref b), (.int n), (.int f), (.int 3)] [] h0 (fun v h fs => (fs = [] ∧ v = some (.int 1) ∧ (hiI c3 ∨ loI c3)) ∨ (fs = [] ∧ v = some (.int 0) ∧ ¬ (hiI c3 ∨ loI c3))) := by
  obtain ⟨hw, hEL, wS, OS, hz0, OA, OH, OL, OF, rfm⟩ := id G
  refine Ctr.intro pn324 hEL hZh hsf ?_
  intro p e s m below meth c s₁ hby hml hret hnm hlk hh K0
  refine Owe.cast (ef498 m b n f ((3 : Int32))) ?_
  show Owe _ _ _ _ s₁ (mkF m 0 #[.val (.ref b), .val (.int n), .val (.int f), .val (.int 3), .unset] [])
  refine oIloadN K0 1 (d23_0 hby) rfl ?_
  refine oIloadN K0 2 (d23_1 hby) rfl ?_
  refine oIcmpNo K0 5 (d23_2 hby) (XT.ii_lt_f P1) ?_
  refine oIloadN K0 6 (d23_5 hby) rfl ?_
  refine oIloadN K0 7 (d23_6 hby) rfl ?_
  refine oIcmpYes K0 12 (d23_7 hby) (XT.ii_lt_t P2) ?_
  refine oAloadN K0 13 (d23_12 hby) rfl rfl ?_
  refine oIloadN K0 14 (d23_13 hby) rfl ?_
  refine oCaload K0 15 P0 3 (by decide) (by decide) rfl (d23_14 hby) ?_
  refine oIstore K0 17 (d23_15 hby) (l' := #[.val (.ref b), .val (.int n), .val (.int f), .val (.int 3), .val (.int c3)]) rfl ?_
  refine oIload K0 19 (d23_17 hby) rfl ?_
  refine oStatic K0 22 0 (wq hw 61) (wq hw 62) (wq hw 4) (wq hw 63) (rmIsH l Z a0 z0 fm G c3 h0 K0.old K0.both ) [(.int c3)] [] (lenOf pd262 rfl) (d23_19 hby) ?_
  intro T1 h3 v4 lo5 fs6 K2 Kp7 q8
  rcases q8 with qq8_0 | qq8_1
  · obtain ⟨rfl, rfl, f9⟩ := qq8_0
    have K10 := K2.to 0 0 []
    refine Owe.stk [(.int 1)] ?_
    refine oIfNo K10 25 (d23_22 hby) (XT.i0_eq_f (by decide)) ?_
    refine oIloadN K10 26 (d23_25 hby) rfl ?_
    refine oIconstV K10 27 (1 : Int32) (d23_26 hby) rfl ?_
    refine oIadd K10 28 (d23_27 hby) ?_
    show Owe _ _ _ _ T1 (mkF m 28 #[.val (.ref b), .val (.int n), .val (.int f), .val (.int 3), .val (.int c3)] [(.int 4)])
    refine oIloadN K10 29 (d23_28 hby) rfl ?_
    refine oIcmpYes K10 43 (d23_29 hby) (XT.ii_ge_t P3) ?_
    refine oIconstV K10 44 (1 : Int32) (d23_43 hby) rfl ?_
    refine oGoto K10 48 (d23_44 hby) ?_
    exact oRetI K10 [] (t := .boolean) hret (by simp) (by decide) (d23_48 hby) (by decide) (by decide) hlk (fun x hx => by cases hx) (Or.inl ⟨rfl, rfl, (by simp only [hiI, loI, Int32.lt_iff_toInt_lt, Int32.reduceToInt] at f9 ⊢; omega)⟩)
  · obtain ⟨rfl, rfl, f11⟩ := qq8_1
    have K12 := K2.to 0 0 []
    refine Owe.stk [(.int 0)] ?_
    refine oIfYes K12 49 (d23_22 hby) (XT.i0_eq_t (by decide)) ?_
    refine oIload K12 51 (d23_49 hby) rfl ?_
    refine oStatic K12 54 0 (wq hw 64) (wq hw 65) (wq hw 4) (wq hw 66) (rmIsL l Z a0 z0 fm G c3 h3 K12.old K12.both ) [(.int c3)] [] (lenOf pd262 rfl) (d23_51 hby) ?_
    intro T13 h15 v16 lo17 fs18 K14 Kp19 q20
    rcases q20 with qq20_0 | qq20_1
    · obtain ⟨rfl, rfl, f21⟩ := qq20_0
      have K22 := K14.to 0 0 []
      refine Owe.stk [(.int 1)] ?_
      refine oIfNo K22 57 (d23_54 hby) (XT.i0_eq_f (by decide)) ?_
      refine oIloadN K22 58 (d23_57 hby) rfl ?_
      refine oIconstV K22 59 (1 : Int32) (d23_58 hby) rfl ?_
      refine oIsub K22 60 (d23_59 hby) ?_
      show Owe _ _ _ _ T13 (mkF m 60 #[.val (.ref b), .val (.int n), .val (.int f), .val (.int 3), .val (.int c3)] [(.int 2)])
      refine oIloadN K22 61 (d23_60 hby) rfl ?_
      refine oIcmpYes K22 75 (d23_61 hby) (XT.ii_lt_t P4) ?_
      refine oIconstV K22 76 (1 : Int32) (d23_75 hby) rfl ?_
      refine oGoto K22 80 (d23_76 hby) ?_
      exact oRetI K22 [] (t := .boolean) hret (by simp) (by decide) (d23_80 hby) (by decide) (by decide) hlk (fun x hx => by cases hx) (Or.inl ⟨rfl, rfl, (by simp only [hiI, loI, Int32.lt_iff_toInt_lt, Int32.reduceToInt] at f11 f21 ⊢; omega)⟩)
    · obtain ⟨rfl, rfl, f23⟩ := qq20_1
      have K24 := K14.to 0 0 []
      refine Owe.stk [(.int 0)] ?_
      refine oIfYes K24 81 (d23_54 hby) (XT.i0_eq_t (by decide)) ?_
      refine oIconstV K24 82 (0 : Int32) (d23_81 hby) rfl ?_
      exact oRetI K24 [] (t := .boolean) hret (by simp) (by decide) (d23_82 hby) (by decide) (by decide) hlk (fun x hx => by cases hx) (Or.inr ⟨rfl, rfl, (by simp only [hiI, loI, Int32.lt_iff_toInt_lt, Int32.reduceToInt] at f11 f23 ⊢; omega)⟩)
theorem rmLA3_01 (G : Gl Z a0 z0 fm) (b : Addr) (n f c0 c1 c2 c3 : Int32) (h0 : Heap) (hZh : Ext Z.heap h0) (hsf : Own Z h0 []) (P0 : Ary Z h0 b .char [(.int c0), (.int c1), (.int c2), (.int c3)]) (P1 : ¬ (3 : Int32) < f) (P2 : (3 : Int32) < n) (P3 : ¬ (4 : Int32) < n) (P4 : ¬ (2 : Int32) < f) :
    Ctr l Z ELs yn499 method_6_code 5 (some .boolean) [] (rmk 1 0 0 12) #[(.ref b), (.int n), (.int f), (.int 3)] [] h0 (fun v h fs => (fs = [] ∧ v = some (.int 1) ∧ (hiI c3 ∨ (loI c3 ∧ ¬ hiI c2))) ∨ (fs = [] ∧ v = some (.int 0) ∧ ¬ (hiI c3 ∨ (loI c3 ∧ ¬ hiI c2)))) := by
  obtain ⟨hw, hEL, wS, OS, hz0, OA, OH, OL, OF, rfm⟩ := id G
  refine Ctr.intro pn324 hEL hZh hsf ?_
  intro p e s m below meth c s₁ hby hml hret hnm hlk hh K0
  refine Owe.cast (ef498 m b n f ((3 : Int32))) ?_
  show Owe _ _ _ _ s₁ (mkF m 0 #[.val (.ref b), .val (.int n), .val (.int f), .val (.int 3), .unset] [])
  refine oIloadN K0 1 (d23_0 hby) rfl ?_
  refine oIloadN K0 2 (d23_1 hby) rfl ?_
  refine oIcmpNo K0 5 (d23_2 hby) (XT.ii_lt_f P1) ?_
  refine oIloadN K0 6 (d23_5 hby) rfl ?_
  refine oIloadN K0 7 (d23_6 hby) rfl ?_
  refine oIcmpYes K0 12 (d23_7 hby) (XT.ii_lt_t P2) ?_
  refine oAloadN K0 13 (d23_12 hby) rfl rfl ?_
  refine oIloadN K0 14 (d23_13 hby) rfl ?_
  refine oCaload K0 15 P0 3 (by decide) (by decide) rfl (d23_14 hby) ?_
  refine oIstore K0 17 (d23_15 hby) (l' := #[.val (.ref b), .val (.int n), .val (.int f), .val (.int 3), .val (.int c3)]) rfl ?_
  refine oIload K0 19 (d23_17 hby) rfl ?_
  refine oStatic K0 22 0 (wq hw 61) (wq hw 62) (wq hw 4) (wq hw 63) (rmIsH l Z a0 z0 fm G c3 h0 K0.old K0.both ) [(.int c3)] [] (lenOf pd262 rfl) (d23_19 hby) ?_
  intro T1 h3 v4 lo5 fs6 K2 Kp7 q8
  rcases q8 with qq8_0 | qq8_1
  · obtain ⟨rfl, rfl, f9⟩ := qq8_0
    have K10 := K2.to 0 0 []
    refine Owe.stk [(.int 1)] ?_
    refine oIfNo K10 25 (d23_22 hby) (XT.i0_eq_f (by decide)) ?_
    refine oIloadN K10 26 (d23_25 hby) rfl ?_
    refine oIconstV K10 27 (1 : Int32) (d23_26 hby) rfl ?_
    refine oIadd K10 28 (d23_27 hby) ?_
    show Owe _ _ _ _ T1 (mkF m 28 #[.val (.ref b), .val (.int n), .val (.int f), .val (.int 3), .val (.int c3)] [(.int 4)])
    refine oIloadN K10 29 (d23_28 hby) rfl ?_
    refine oIcmpYes K10 43 (d23_29 hby) (XT.ii_ge_t P3) ?_
    refine oIconstV K10 44 (1 : Int32) (d23_43 hby) rfl ?_
    refine oGoto K10 48 (d23_44 hby) ?_
    exact oRetI K10 [] (t := .boolean) hret (by simp) (by decide) (d23_48 hby) (by decide) (by decide) hlk (fun x hx => by cases hx) (Or.inl ⟨rfl, rfl, (by simp only [hiI, loI, Int32.lt_iff_toInt_lt, Int32.reduceToInt] at f9 ⊢; omega)⟩)
  · obtain ⟨rfl, rfl, f11⟩ := qq8_1
    have K12 := K2.to 0 0 []
    refine Owe.stk [(.int 0)] ?_
    refine oIfYes K12 49 (d23_22 hby) (XT.i0_eq_t (by decide)) ?_
    refine oIload K12 51 (d23_49 hby) rfl ?_
    refine oStatic K12 54 0 (wq hw 64) (wq hw 65) (wq hw 4) (wq hw 66) (rmIsL l Z a0 z0 fm G c3 h3 K12.old K12.both ) [(.int c3)] [] (lenOf pd262 rfl) (d23_51 hby) ?_
    intro T13 h15 v16 lo17 fs18 K14 Kp19 q20
    rcases q20 with qq20_0 | qq20_1
    · obtain ⟨rfl, rfl, f21⟩ := qq20_0
      have K22 := K14.to 0 0 []
      refine Owe.stk [(.int 1)] ?_
      refine oIfNo K22 57 (d23_54 hby) (XT.i0_eq_f (by decide)) ?_
      refine oIloadN K22 58 (d23_57 hby) rfl ?_
      refine oIconstV K22 59 (1 : Int32) (d23_58 hby) rfl ?_
      refine oIsub K22 60 (d23_59 hby) ?_
      show Owe _ _ _ _ T13 (mkF m 60 #[.val (.ref b), .val (.int n), .val (.int f), .val (.int 3), .val (.int c3)] [(.int 2)])
      refine oIloadN K22 61 (d23_60 hby) rfl ?_
      refine oIcmpNo K22 64 (d23_61 hby) (XT.ii_lt_f P4) ?_
      refine oAloadN K22 65 (d23_64 hby) rfl rfl ?_
      refine oIloadN K22 66 (d23_65 hby) rfl ?_
      refine oIconstV K22 67 (1 : Int32) (d23_66 hby) rfl ?_
      refine oIsub K22 68 (d23_67 hby) ?_
      show Owe _ _ _ _ T13 (mkF m 68 #[.val (.ref b), .val (.int n), .val (.int f), .val (.int 3), .val (.int c3)] [(.int 2), (.ref b)])
      refine oCaload K22 69 ((P0.keep Kp7 nin0).keep Kp19 nin0) 2 (by decide) (by decide) rfl (d23_68 hby) ?_
      refine oStatic K22 72 0 (wq hw 61) (wq hw 62) (wq hw 4) (wq hw 63) (rmIsH l Z a0 z0 fm G c2 h15 K22.old K22.both ) [(.int c2)] [] (lenOf pd262 rfl) (d23_69 hby) ?_
      intro T23 h25 v26 lo27 fs28 K24 Kp29 q30
      rcases q30 with qq30_0 | qq30_1
      · obtain ⟨rfl, rfl, f31⟩ := qq30_0
        have K32 := K24.to 0 0 []
        refine Owe.stk [(.int 1)] ?_
        refine oIfYes K32 79 (d23_72 hby) (XT.i0_ne_t (by decide)) ?_
        refine oIconstV K32 80 (0 : Int32) (d23_79 hby) rfl ?_
        exact oRetI K32 [] (t := .boolean) hret (by simp) (by decide) (d23_80 hby) (by decide) (by decide) hlk (fun x hx => by cases hx) (Or.inr ⟨rfl, rfl, (by simp only [hiI, loI, Int32.lt_iff_toInt_lt, Int32.reduceToInt] at f11 f21 f31 ⊢; omega)⟩)
      · obtain ⟨rfl, rfl, f33⟩ := qq30_1
        have K34 := K24.to 0 0 []
        refine Owe.stk [(.int 0)] ?_
        refine oIfNo K34 75 (d23_72 hby) (XT.i0_ne_f (by decide)) ?_
        refine oIconstV K34 76 (1 : Int32) (d23_75 hby) rfl ?_
        refine oGoto K34 80 (d23_76 hby) ?_
        exact oRetI K34 [] (t := .boolean) hret (by simp) (by decide) (d23_80 hby) (by decide) (by decide) hlk (fun x hx => by cases hx) (Or.inl ⟨rfl, rfl, (by simp only [hiI, loI, Int32.lt_iff_toInt_lt, Int32.reduceToInt] at f11 f21 f33 ⊢; omega)⟩)
    · obtain ⟨rfl, rfl, f35⟩ := qq20_1
      have K36 := K14.to 0 0 []
      refine Owe.stk [(.int 0)] ?_
      refine oIfYes K36 81 (d23_54 hby) (XT.i0_eq_t (by decide)) ?_
      refine oIconstV K36 82 (0 : Int32) (d23_81 hby) rfl ?_
      exact oRetI K36 [] (t := .boolean) hret (by simp) (by decide) (d23_82 hby) (by decide) (by decide) hlk (fun x hx => by cases hx) (Or.inr ⟨rfl, rfl, (by simp only [hiI, loI, Int32.lt_iff_toInt_lt, Int32.reduceToInt] at f11 f35 ⊢; omega)⟩)
abbrev y24 := jdk_42_method_152_code
theorem d24_0 : DC y24 0 (.getstatic 38) 3 := hb' (by decide +kernel)
theorem d24_3 : DC y24 3 (.ifCond .eq 10) 3 := hb' (by decide +kernel)
theorem d24_6 : DC y24 6 (.aload_n 0) 1 := hb' (by decide +kernel)
theorem d24_7 : DC y24 7 (.getfield 15) 3 := hb' (by decide +kernel)
theorem d24_10 : DC y24 10 (.goto 4) 3 := hb' (by decide +kernel)
theorem d24_14 : DC y24 14 (.ireturn) 1 := hb' (by decide +kernel)
theorem ef554 (m : MethodId) (x0 : Addr) : entryFrame m #[(.ref x0)] 1 = mkF m 0 #[.val (.ref x0)] [] := by first | (simp [entryFrame, mkF, argsToLocals, Value.category]; done) | rfl
abbrev yn555 : MethodName := ⟨"java/lang/String", "coder", "()B"⟩
theorem rmCoder0 (G : Gl Z a0 z0 fm) (x : Addr) (h0 : Heap) (hZh : Ext Z.heap h0) (hsf : Own Z h0 []) (P0 : Fld Z h0 x "java/lang/String" "coder" "B" (.int 0)) :
    Ctr l Z ELs yn555 jdk_42_method_152_code 1 (some .byte) [] (rmk 0 0 0 0) #[(.ref x)] [] h0 (fun v h fs => (fs = [] ∧ v = some (.int 0))) := by
  obtain ⟨hw, hEL, wS, OS, hz0, OA, OH, OL, OF, rfm⟩ := id G
  refine Ctr.intro pn16 hEL hZh hsf ?_
  intro p e s m below meth c s₁ hby hml hret hnm hlk hh K0
  refine Owe.cast (ef554 m x) ?_
  show Owe _ _ _ _ s₁ (mkF m 0 #[.val (.ref x)] [])
  refine oGetS K0 3 (wq hw 50) (OS.ext K0.old) (d24_0 hby) ?_
  intro T1 K2
  refine oIfNo K2 6 (d24_3 hby) (XT.i0_eq_f hz0) ?_
  refine oAloadN K2 7 (d24_6 hby) rfl rfl ?_
  refine oGetF K2 10 (wq hw 32) P0 (d24_7 hby) ?_
  intro T3 K4
  refine oGoto K4 14 (d24_10 hby) ?_
  exact oRetI K4 [] (t := .byte) hret (by simp) (by decide) (d24_14 hby) (by decide) (by decide) hlk (fun x hx => by cases hx) ⟨rfl, rfl⟩
theorem rmCoder1 (G : Gl Z a0 z0 fm) (x : Addr) (h0 : Heap) (hZh : Ext Z.heap h0) (hsf : Own Z h0 []) (P0 : Fld Z h0 x "java/lang/String" "coder" "B" (.int 1)) :
    Ctr l Z ELs yn555 jdk_42_method_152_code 1 (some .byte) [] (rmk 0 0 0 0) #[(.ref x)] [] h0 (fun v h fs => (fs = [] ∧ v = some (.int 1))) := by
  obtain ⟨hw, hEL, wS, OS, hz0, OA, OH, OL, OF, rfm⟩ := id G
  refine Ctr.intro pn16 hEL hZh hsf ?_
  intro p e s m below meth c s₁ hby hml hret hnm hlk hh K0
  refine Owe.cast (ef554 m x) ?_
  show Owe _ _ _ _ s₁ (mkF m 0 #[.val (.ref x)] [])
  refine oGetS K0 3 (wq hw 50) (OS.ext K0.old) (d24_0 hby) ?_
  intro T1 K2
  refine oIfNo K2 6 (d24_3 hby) (XT.i0_eq_f hz0) ?_
  refine oAloadN K2 7 (d24_6 hby) rfl rfl ?_
  refine oGetF K2 10 (wq hw 32) P0 (d24_7 hby) ?_
  intro T3 K4
  refine oGoto K4 14 (d24_10 hby) ?_
  exact oRetI K4 [] (t := .byte) hret (by simp) (by decide) (d24_14 hby) (by decide) (by decide) hlk (fun x hx => by cases hx) ⟨rfl, rfl⟩
abbrev y25 := jdk_42_method_154_code
theorem d25_0 : DC y25 0 (.getstatic 38) 3 := hb' (by decide +kernel)
theorem d25_3 : DC y25 3 (.ifCond .eq 14) 3 := hb' (by decide +kernel)
theorem d25_6 : DC y25 6 (.aload_n 0) 1 := hb' (by decide +kernel)
theorem d25_7 : DC y25 7 (.getfield 15) 3 := hb' (by decide +kernel)
theorem d25_10 : DC y25 10 (.ifCond .ne 7) 3 := hb' (by decide +kernel)
theorem d25_13 : DC y25 13 (.iconst 1) 1 := hb' (by decide +kernel)
theorem d25_14 : DC y25 14 (.goto 4) 3 := hb' (by decide +kernel)
theorem d25_18 : DC y25 18 (.ireturn) 1 := hb' (by decide +kernel)
abbrev yn565 : MethodName := ⟨"java/lang/String", "isLatin1", "()Z"⟩
theorem rmIsL0 (G : Gl Z a0 z0 fm) (x : Addr) (h0 : Heap) (hZh : Ext Z.heap h0) (hsf : Own Z h0 []) (P0 : Fld Z h0 x "java/lang/String" "coder" "B" (.int 0)) :
    Ctr l Z ELs yn565 jdk_42_method_154_code 1 (some .boolean) [] (rmk 0 0 0 0) #[(.ref x)] [] h0 (fun v h fs => (fs = [] ∧ v = some (.int 1))) := by
  obtain ⟨hw, hEL, wS, OS, hz0, OA, OH, OL, OF, rfm⟩ := id G
  refine Ctr.intro pn16 hEL hZh hsf ?_
  intro p e s m below meth c s₁ hby hml hret hnm hlk hh K0
  refine Owe.cast (ef554 m x) ?_
  show Owe _ _ _ _ s₁ (mkF m 0 #[.val (.ref x)] [])
  refine oGetS K0 3 (wq hw 50) (OS.ext K0.old) (d25_0 hby) ?_
  intro T1 K2
  refine oIfNo K2 6 (d25_3 hby) (XT.i0_eq_f hz0) ?_
  refine oAloadN K2 7 (d25_6 hby) rfl rfl ?_
  refine oGetF K2 10 (wq hw 32) P0 (d25_7 hby) ?_
  intro T3 K4
  refine oIfNo K4 13 (d25_10 hby) (XT.i0_ne_f (by decide)) ?_
  refine oIconstV K4 14 (1 : Int32) (d25_13 hby) rfl ?_
  refine oGoto K4 18 (d25_14 hby) ?_
  exact oRetI K4 [] (t := .boolean) hret (by simp) (by decide) (d25_18 hby) (by decide) (by decide) hlk (fun x hx => by cases hx) ⟨rfl, rfl⟩
theorem d25_17 : DC y25 17 (.iconst 0) 1 := hb' (by decide +kernel)
theorem rmIsL1 (G : Gl Z a0 z0 fm) (x : Addr) (h0 : Heap) (hZh : Ext Z.heap h0) (hsf : Own Z h0 []) (P0 : Fld Z h0 x "java/lang/String" "coder" "B" (.int 1)) :
    Ctr l Z ELs yn565 jdk_42_method_154_code 1 (some .boolean) [] (rmk 0 0 0 0) #[(.ref x)] [] h0 (fun v h fs => (fs = [] ∧ v = some (.int 0))) := by
  obtain ⟨hw, hEL, wS, OS, hz0, OA, OH, OL, OF, rfm⟩ := id G
  refine Ctr.intro pn16 hEL hZh hsf ?_
  intro p e s m below meth c s₁ hby hml hret hnm hlk hh K0
  refine Owe.cast (ef554 m x) ?_
  show Owe _ _ _ _ s₁ (mkF m 0 #[.val (.ref x)] [])
  refine oGetS K0 3 (wq hw 50) (OS.ext K0.old) (d25_0 hby) ?_
  intro T1 K2
  refine oIfNo K2 6 (d25_3 hby) (XT.i0_eq_f hz0) ?_
  refine oAloadN K2 7 (d25_6 hby) rfl rfl ?_
  refine oGetF K2 10 (wq hw 32) P0 (d25_7 hby) ?_
  intro T3 K4
  refine oIfYes K4 17 (d25_10 hby) (XT.i0_ne_t (by decide)) ?_
  refine oIconstV K4 18 (0 : Int32) (d25_17 hby) rfl ?_
  exact oRetI K4 [] (t := .boolean) hret (by simp) (by decide) (d25_18 hby) (by decide) (by decide) hlk (fun x hx => by cases hx) ⟨rfl, rfl⟩
abbrev y26 := jdk_42_method_54_code
theorem d26_0 : DC y26 0 (.aload_n 0) 1 := hb' (by decide +kernel)
theorem d26_1 : DC y26 1 (.getfield 9) 3 := hb' (by decide +kernel)
theorem d26_4 : DC y26 4 (.arraylength) 1 := hb' (by decide +kernel)
theorem d26_5 : DC y26 5 (.aload_n 0) 1 := hb' (by decide +kernel)
theorem d26_6 : DC y26 6 (.invokevirtual 335) 3 := hb' (by decide +kernel)
theorem pd573 : parseMethodDescriptor "()B" = some ⟨[], some .byte⟩ := by decide +kernel
theorem d26_9 : DC y26 9 (.ishr) 1 := hb' (by decide +kernel)
theorem d26_10 : DC y26 10 (.ireturn) 1 := hb' (by decide +kernel)
abbrev yn576 : MethodName := ⟨"java/lang/String", "length", "()I"⟩
theorem rmLen0 (G : Gl Z a0 z0 fm) (x : Addr) (b : Nat) (h0 : Heap) (hZh : Ext Z.heap h0) (hsf : Own Z h0 []) (P0 : Str Z h0 b x []) :
    Ctr l Z ELs yn576 jdk_42_method_54_code 1 (some .int) [] (rmk 1 0 0 13) #[(.ref x)] [] h0 (fun v h fs => (fs = [] ∧ v = some (.int 0))) := by
  obtain ⟨hw, hEL, wS, OS, hz0, OA, OH, OL, OF, rfm⟩ := id G
  refine Ctr.intro pn16 hEL hZh hsf ?_
  intro p e s m below meth c s₁ hby hml hret hnm hlk hh K0
  refine Owe.cast (ef554 m x) ?_
  show Owe _ _ _ _ s₁ (mkF m 0 #[.val (.ref x)] [])
  obtain ⟨t1, -, -, f2, f3, ⟨f4, A5, L6⟩ | ⟨f4, A5⟩⟩ := P0
  · have A7 : Ary Z h0 t1 .byte [] := A5
    refine oAloadN K0 1 (d26_0 hby) rfl rfl ?_
    refine oGetF K0 4 (wq hw 31) f3 (d26_1 hby) ?_
    intro T8 K9
    refine oLen K9 5 A7 (n := (0 : Int32)) (by first | rfl | decide) (d26_4 hby) ?_
    refine oAloadN K9 6 (d26_5 hby) rfl rfl ?_
    refine oVirtual K9 9 1 (wq hw 45) (wq hw 46) (nfSel (wq hw 48)) (wq hw 48) (wq hw 47) (wq hw 14) (wq hw 49) f2 (rmCoder0 l Z a0 z0 fm G x h0 K9.old K9.both f4) [] [(.int 0)] (lenOf pd573 rfl) (d26_6 hby) ?_
    intro T10 h12 v13 lo14 fs15 K11 Kp16 q17
    obtain ⟨rfl, rfl⟩ := q17
    have K18 := K11.to 0 0 []
    refine Owe.stk [(.int 0), (.int 0)] ?_
    refine oIshr K18 10 (d26_9 hby) ?_
    show Owe _ _ _ _ T10 (mkF m 10 #[.val (.ref x)] [(.int 0)])
    exact oRetI K18 [] (t := .int) hret (by simp) rfl (d26_10 hby) (by decide) (by decide) hlk (fun x hx => by cases hx) ⟨rfl, rfl⟩
  · have A7 : Ary Z h0 t1 .byte [] := A5
    refine oAloadN K0 1 (d26_0 hby) rfl rfl ?_
    refine oGetF K0 4 (wq hw 31) f3 (d26_1 hby) ?_
    intro T19 K20
    refine oLen K20 5 A7 (n := (0 : Int32)) (by first | rfl | decide) (d26_4 hby) ?_
    refine oAloadN K20 6 (d26_5 hby) rfl rfl ?_
    refine oVirtual K20 9 1 (wq hw 45) (wq hw 46) (nfSel (wq hw 48)) (wq hw 48) (wq hw 47) (wq hw 14) (wq hw 49) f2 (rmCoder1 l Z a0 z0 fm G x h0 K20.old K20.both f4) [] [(.int 0)] (lenOf pd573 rfl) (d26_6 hby) ?_
    intro T21 h23 v24 lo25 fs26 K22 Kp27 q28
    obtain ⟨rfl, rfl⟩ := q28
    have K29 := K22.to 0 0 []
    refine Owe.stk [(.int 1), (.int 0)] ?_
    refine oIshr K29 10 (d26_9 hby) ?_
    show Owe _ _ _ _ T21 (mkF m 10 #[.val (.ref x)] [(.int 0)])
    exact oRetI K29 [] (t := .int) hret (by simp) rfl (d26_10 hby) (by decide) (by decide) hlk (fun x hx => by cases hx) ⟨rfl, rfl⟩
theorem rmLen1 (G : Gl Z a0 z0 fm) (x : Addr) (b : Nat) (c0 : Int32) (h0 : Heap) (hZh : Ext Z.heap h0) (hsf : Own Z h0 []) (P0 : Str Z h0 b x [c0]) :
    Ctr l Z ELs yn576 jdk_42_method_54_code 1 (some .int) [] (rmk 1 0 0 13) #[(.ref x)] [] h0 (fun v h fs => (fs = [] ∧ v = some (.int 1))) := by
  obtain ⟨hw, hEL, wS, OS, hz0, OA, OH, OL, OF, rfm⟩ := id G
  refine Ctr.intro pn16 hEL hZh hsf ?_
  intro p e s m below meth c s₁ hby hml hret hnm hlk hh K0
  refine Owe.cast (ef554 m x) ?_
  show Owe _ _ _ _ s₁ (mkF m 0 #[.val (.ref x)] [])
  obtain ⟨t1, -, -, f2, f3, ⟨f4, A5, L6⟩ | ⟨f4, A5⟩⟩ := P0
  · have A7 : Ary Z h0 t1 .byte [(.int (byt c0))] := A5
    obtain ⟨l8, -⟩ := L6
    refine oAloadN K0 1 (d26_0 hby) rfl rfl ?_
    refine oGetF K0 4 (wq hw 31) f3 (d26_1 hby) ?_
    intro T9 K10
    refine oLen K10 5 A7 (n := (1 : Int32)) (by first | rfl | decide) (d26_4 hby) ?_
    refine oAloadN K10 6 (d26_5 hby) rfl rfl ?_
    refine oVirtual K10 9 1 (wq hw 45) (wq hw 46) (nfSel (wq hw 48)) (wq hw 48) (wq hw 47) (wq hw 14) (wq hw 49) f2 (rmCoder0 l Z a0 z0 fm G x h0 K10.old K10.both f4) [] [(.int 1)] (lenOf pd573 rfl) (d26_6 hby) ?_
    intro T11 h13 v14 lo15 fs16 K12 Kp17 q18
    obtain ⟨rfl, rfl⟩ := q18
    have K19 := K12.to 0 0 []
    refine Owe.stk [(.int 0), (.int 1)] ?_
    refine oIshr K19 10 (d26_9 hby) ?_
    show Owe _ _ _ _ T11 (mkF m 10 #[.val (.ref x)] [(.int 1)])
    exact oRetI K19 [] (t := .int) hret (by simp) rfl (d26_10 hby) (by decide) (by decide) hlk (fun x hx => by cases hx) ⟨rfl, rfl⟩
  · have A7 : Ary Z h0 t1 .byte [(.int (byt (c0 >>> ((0 : Int32) &&& 31)))), (.int (byt (c0 >>> ((8 : Int32) &&& 31))))] := A5
    refine oAloadN K0 1 (d26_0 hby) rfl rfl ?_
    refine oGetF K0 4 (wq hw 31) f3 (d26_1 hby) ?_
    intro T20 K21
    refine oLen K21 5 A7 (n := (2 : Int32)) (by first | rfl | decide) (d26_4 hby) ?_
    refine oAloadN K21 6 (d26_5 hby) rfl rfl ?_
    refine oVirtual K21 9 1 (wq hw 45) (wq hw 46) (nfSel (wq hw 48)) (wq hw 48) (wq hw 47) (wq hw 14) (wq hw 49) f2 (rmCoder1 l Z a0 z0 fm G x h0 K21.old K21.both f4) [] [(.int 2)] (lenOf pd573 rfl) (d26_6 hby) ?_
    intro T22 h24 v25 lo26 fs27 K23 Kp28 q29
    obtain ⟨rfl, rfl⟩ := q29
    have K30 := K23.to 0 0 []
    refine Owe.stk [(.int 1), (.int 2)] ?_
    refine oIshr K30 10 (d26_9 hby) ?_
    show Owe _ _ _ _ T22 (mkF m 10 #[.val (.ref x)] [(.int 1)])
    exact oRetI K30 [] (t := .int) hret (by simp) rfl (d26_10 hby) (by decide) (by decide) hlk (fun x hx => by cases hx) ⟨rfl, rfl⟩
theorem rmLen2 (G : Gl Z a0 z0 fm) (x : Addr) (b : Nat) (c0 c1 : Int32) (h0 : Heap) (hZh : Ext Z.heap h0) (hsf : Own Z h0 []) (P0 : Str Z h0 b x [c0, c1]) :
    Ctr l Z ELs yn576 jdk_42_method_54_code 1 (some .int) [] (rmk 1 0 0 13) #[(.ref x)] [] h0 (fun v h fs => (fs = [] ∧ v = some (.int 2))) := by
  obtain ⟨hw, hEL, wS, OS, hz0, OA, OH, OL, OF, rfm⟩ := id G
  refine Ctr.intro pn16 hEL hZh hsf ?_
  intro p e s m below meth c s₁ hby hml hret hnm hlk hh K0
  refine Owe.cast (ef554 m x) ?_
  show Owe _ _ _ _ s₁ (mkF m 0 #[.val (.ref x)] [])
  obtain ⟨t1, -, -, f2, f3, ⟨f4, A5, L6⟩ | ⟨f4, A5⟩⟩ := P0
  · have A7 : Ary Z h0 t1 .byte [(.int (byt c0)), (.int (byt c1))] := A5
    obtain ⟨l8, l9, -⟩ := L6
    refine oAloadN K0 1 (d26_0 hby) rfl rfl ?_
    refine oGetF K0 4 (wq hw 31) f3 (d26_1 hby) ?_
    intro T10 K11
    refine oLen K11 5 A7 (n := (2 : Int32)) (by first | rfl | decide) (d26_4 hby) ?_
    refine oAloadN K11 6 (d26_5 hby) rfl rfl ?_
    refine oVirtual K11 9 1 (wq hw 45) (wq hw 46) (nfSel (wq hw 48)) (wq hw 48) (wq hw 47) (wq hw 14) (wq hw 49) f2 (rmCoder0 l Z a0 z0 fm G x h0 K11.old K11.both f4) [] [(.int 2)] (lenOf pd573 rfl) (d26_6 hby) ?_
    intro T12 h14 v15 lo16 fs17 K13 Kp18 q19
    obtain ⟨rfl, rfl⟩ := q19
    have K20 := K13.to 0 0 []
    refine Owe.stk [(.int 0), (.int 2)] ?_
    refine oIshr K20 10 (d26_9 hby) ?_
    show Owe _ _ _ _ T12 (mkF m 10 #[.val (.ref x)] [(.int 2)])
    exact oRetI K20 [] (t := .int) hret (by simp) rfl (d26_10 hby) (by decide) (by decide) hlk (fun x hx => by cases hx) ⟨rfl, rfl⟩
  · have A7 : Ary Z h0 t1 .byte [(.int (byt (c0 >>> ((0 : Int32) &&& 31)))), (.int (byt (c0 >>> ((8 : Int32) &&& 31)))), (.int (byt (c1 >>> ((0 : Int32) &&& 31)))), (.int (byt (c1 >>> ((8 : Int32) &&& 31))))] := A5
    refine oAloadN K0 1 (d26_0 hby) rfl rfl ?_
    refine oGetF K0 4 (wq hw 31) f3 (d26_1 hby) ?_
    intro T21 K22
    refine oLen K22 5 A7 (n := (4 : Int32)) (by first | rfl | decide) (d26_4 hby) ?_
    refine oAloadN K22 6 (d26_5 hby) rfl rfl ?_
    refine oVirtual K22 9 1 (wq hw 45) (wq hw 46) (nfSel (wq hw 48)) (wq hw 48) (wq hw 47) (wq hw 14) (wq hw 49) f2 (rmCoder1 l Z a0 z0 fm G x h0 K22.old K22.both f4) [] [(.int 4)] (lenOf pd573 rfl) (d26_6 hby) ?_
    intro T23 h25 v26 lo27 fs28 K24 Kp29 q30
    obtain ⟨rfl, rfl⟩ := q30
    have K31 := K24.to 0 0 []
    refine Owe.stk [(.int 1), (.int 4)] ?_
    refine oIshr K31 10 (d26_9 hby) ?_
    show Owe _ _ _ _ T23 (mkF m 10 #[.val (.ref x)] [(.int 2)])
    exact oRetI K31 [] (t := .int) hret (by simp) rfl (d26_10 hby) (by decide) (by decide) hlk (fun x hx => by cases hx) ⟨rfl, rfl⟩
theorem rmLen3 (G : Gl Z a0 z0 fm) (x : Addr) (b : Nat) (c0 c1 c2 : Int32) (h0 : Heap) (hZh : Ext Z.heap h0) (hsf : Own Z h0 []) (P0 : Str Z h0 b x [c0, c1, c2]) :
    Ctr l Z ELs yn576 jdk_42_method_54_code 1 (some .int) [] (rmk 1 0 0 13) #[(.ref x)] [] h0 (fun v h fs => (fs = [] ∧ v = some (.int 3))) := by
  obtain ⟨hw, hEL, wS, OS, hz0, OA, OH, OL, OF, rfm⟩ := id G
  refine Ctr.intro pn16 hEL hZh hsf ?_
  intro p e s m below meth c s₁ hby hml hret hnm hlk hh K0
  refine Owe.cast (ef554 m x) ?_
  show Owe _ _ _ _ s₁ (mkF m 0 #[.val (.ref x)] [])
  obtain ⟨t1, -, -, f2, f3, ⟨f4, A5, L6⟩ | ⟨f4, A5⟩⟩ := P0
  · have A7 : Ary Z h0 t1 .byte [(.int (byt c0)), (.int (byt c1)), (.int (byt c2))] := A5
    obtain ⟨l8, l9, l10, -⟩ := L6
    refine oAloadN K0 1 (d26_0 hby) rfl rfl ?_
    refine oGetF K0 4 (wq hw 31) f3 (d26_1 hby) ?_
    intro T11 K12
    refine oLen K12 5 A7 (n := (3 : Int32)) (by first | rfl | decide) (d26_4 hby) ?_
    refine oAloadN K12 6 (d26_5 hby) rfl rfl ?_
    refine oVirtual K12 9 1 (wq hw 45) (wq hw 46) (nfSel (wq hw 48)) (wq hw 48) (wq hw 47) (wq hw 14) (wq hw 49) f2 (rmCoder0 l Z a0 z0 fm G x h0 K12.old K12.both f4) [] [(.int 3)] (lenOf pd573 rfl) (d26_6 hby) ?_
    intro T13 h15 v16 lo17 fs18 K14 Kp19 q20
    obtain ⟨rfl, rfl⟩ := q20
    have K21 := K14.to 0 0 []
    refine Owe.stk [(.int 0), (.int 3)] ?_
    refine oIshr K21 10 (d26_9 hby) ?_
    show Owe _ _ _ _ T13 (mkF m 10 #[.val (.ref x)] [(.int 3)])
    exact oRetI K21 [] (t := .int) hret (by simp) rfl (d26_10 hby) (by decide) (by decide) hlk (fun x hx => by cases hx) ⟨rfl, rfl⟩
  · have A7 : Ary Z h0 t1 .byte [(.int (byt (c0 >>> ((0 : Int32) &&& 31)))), (.int (byt (c0 >>> ((8 : Int32) &&& 31)))), (.int (byt (c1 >>> ((0 : Int32) &&& 31)))), (.int (byt (c1 >>> ((8 : Int32) &&& 31)))), (.int (byt (c2 >>> ((0 : Int32) &&& 31)))), (.int (byt (c2 >>> ((8 : Int32) &&& 31))))] := A5
    refine oAloadN K0 1 (d26_0 hby) rfl rfl ?_
    refine oGetF K0 4 (wq hw 31) f3 (d26_1 hby) ?_
    intro T22 K23
    refine oLen K23 5 A7 (n := (6 : Int32)) (by first | rfl | decide) (d26_4 hby) ?_
    refine oAloadN K23 6 (d26_5 hby) rfl rfl ?_
    refine oVirtual K23 9 1 (wq hw 45) (wq hw 46) (nfSel (wq hw 48)) (wq hw 48) (wq hw 47) (wq hw 14) (wq hw 49) f2 (rmCoder1 l Z a0 z0 fm G x h0 K23.old K23.both f4) [] [(.int 6)] (lenOf pd573 rfl) (d26_6 hby) ?_
    intro T24 h26 v27 lo28 fs29 K25 Kp30 q31
    obtain ⟨rfl, rfl⟩ := q31
    have K32 := K25.to 0 0 []
    refine Owe.stk [(.int 1), (.int 6)] ?_
    refine oIshr K32 10 (d26_9 hby) ?_
    show Owe _ _ _ _ T24 (mkF m 10 #[.val (.ref x)] [(.int 3)])
    exact oRetI K32 [] (t := .int) hret (by simp) rfl (d26_10 hby) (by decide) (by decide) hlk (fun x hx => by cases hx) ⟨rfl, rfl⟩
theorem rmLen4 (G : Gl Z a0 z0 fm) (x : Addr) (b : Nat) (c0 c1 c2 c3 : Int32) (h0 : Heap) (hZh : Ext Z.heap h0) (hsf : Own Z h0 []) (P0 : Str Z h0 b x [c0, c1, c2, c3]) :
    Ctr l Z ELs yn576 jdk_42_method_54_code 1 (some .int) [] (rmk 1 0 0 13) #[(.ref x)] [] h0 (fun v h fs => (fs = [] ∧ v = some (.int 4))) := by
  obtain ⟨hw, hEL, wS, OS, hz0, OA, OH, OL, OF, rfm⟩ := id G
  refine Ctr.intro pn16 hEL hZh hsf ?_
  intro p e s m below meth c s₁ hby hml hret hnm hlk hh K0
  refine Owe.cast (ef554 m x) ?_
  show Owe _ _ _ _ s₁ (mkF m 0 #[.val (.ref x)] [])
  obtain ⟨t1, -, -, f2, f3, ⟨f4, A5, L6⟩ | ⟨f4, A5⟩⟩ := P0
  · have A7 : Ary Z h0 t1 .byte [(.int (byt c0)), (.int (byt c1)), (.int (byt c2)), (.int (byt c3))] := A5
    obtain ⟨l8, l9, l10, l11, -⟩ := L6
    refine oAloadN K0 1 (d26_0 hby) rfl rfl ?_
    refine oGetF K0 4 (wq hw 31) f3 (d26_1 hby) ?_
    intro T12 K13
    refine oLen K13 5 A7 (n := (4 : Int32)) (by first | rfl | decide) (d26_4 hby) ?_
    refine oAloadN K13 6 (d26_5 hby) rfl rfl ?_
    refine oVirtual K13 9 1 (wq hw 45) (wq hw 46) (nfSel (wq hw 48)) (wq hw 48) (wq hw 47) (wq hw 14) (wq hw 49) f2 (rmCoder0 l Z a0 z0 fm G x h0 K13.old K13.both f4) [] [(.int 4)] (lenOf pd573 rfl) (d26_6 hby) ?_
    intro T14 h16 v17 lo18 fs19 K15 Kp20 q21
    obtain ⟨rfl, rfl⟩ := q21
    have K22 := K15.to 0 0 []
    refine Owe.stk [(.int 0), (.int 4)] ?_
    refine oIshr K22 10 (d26_9 hby) ?_
    show Owe _ _ _ _ T14 (mkF m 10 #[.val (.ref x)] [(.int 4)])
    exact oRetI K22 [] (t := .int) hret (by simp) rfl (d26_10 hby) (by decide) (by decide) hlk (fun x hx => by cases hx) ⟨rfl, rfl⟩
  · have A7 : Ary Z h0 t1 .byte [(.int (byt (c0 >>> ((0 : Int32) &&& 31)))), (.int (byt (c0 >>> ((8 : Int32) &&& 31)))), (.int (byt (c1 >>> ((0 : Int32) &&& 31)))), (.int (byt (c1 >>> ((8 : Int32) &&& 31)))), (.int (byt (c2 >>> ((0 : Int32) &&& 31)))), (.int (byt (c2 >>> ((8 : Int32) &&& 31)))), (.int (byt (c3 >>> ((0 : Int32) &&& 31)))), (.int (byt (c3 >>> ((8 : Int32) &&& 31))))] := A5
    refine oAloadN K0 1 (d26_0 hby) rfl rfl ?_
    refine oGetF K0 4 (wq hw 31) f3 (d26_1 hby) ?_
    intro T23 K24
    refine oLen K24 5 A7 (n := (8 : Int32)) (by first | rfl | decide) (d26_4 hby) ?_
    refine oAloadN K24 6 (d26_5 hby) rfl rfl ?_
    refine oVirtual K24 9 1 (wq hw 45) (wq hw 46) (nfSel (wq hw 48)) (wq hw 48) (wq hw 47) (wq hw 14) (wq hw 49) f2 (rmCoder1 l Z a0 z0 fm G x h0 K24.old K24.both f4) [] [(.int 8)] (lenOf pd573 rfl) (d26_6 hby) ?_
    intro T25 h27 v28 lo29 fs30 K26 Kp31 q32
    obtain ⟨rfl, rfl⟩ := q32
    have K33 := K26.to 0 0 []
    refine Owe.stk [(.int 1), (.int 8)] ?_
    refine oIshr K33 10 (d26_9 hby) ?_
    show Owe _ _ _ _ T25 (mkF m 10 #[.val (.ref x)] [(.int 4)])
    exact oRetI K33 [] (t := .int) hret (by simp) rfl (d26_10 hby) (by decide) (by decide) hlk (fun x hx => by cases hx) ⟨rfl, rfl⟩
abbrev y27 := jdk_41_method_11_code
theorem d27_0 : DC y27 0 (.iload_n 0) 1 := hb' (by decide +kernel)
theorem d27_1 : DC y27 1 (.ifCond .lt 8) 3 := hb' (by decide +kernel)
theorem d27_4 : DC y27 4 (.iload_n 0) 1 := hb' (by decide +kernel)
theorem d27_5 : DC y27 5 (.iload_n 1) 1 := hb' (by decide +kernel)
theorem d27_6 : DC y27 6 (.if_icmp .lt 10) 3 := hb' (by decide +kernel)
theorem d27_16 : DC y27 16 (.iload_n 0) 1 := hb' (by decide +kernel)
theorem d27_17 : DC y27 17 (.ireturn) 1 := hb' (by decide +kernel)
theorem ef585 (m : MethodId) (x0 : Int32) (x1 : Int32) (x2 : Value) (hx2 : x2.isRef = true) : entryFrame m #[(.int x0), (.int x1), x2] 3 = mkF m 0 #[.val (.int x0), .val (.int x1), .val x2] [] := by rcases ref_cases hx2 with rfl | ⟨_, rfl⟩ <;> first | (simp [entryFrame, mkF, argsToLocals, Value.category]; done) | rfl
abbrev yn586 : MethodName := ⟨"jdk/internal/util/Preconditions", "checkIndex", "(IILjava/util/function/BiFunction;)I"⟩
theorem pn587 : plainName "jdk/internal/util/Preconditions" = true := by first | (simp [plainName, overriddenIn]; done) | decide +kernel
theorem rmPck (G : Gl Z a0 z0 fm) (i n : Int32) (h0 : Heap) (hZh : Ext Z.heap h0) (hsf : Own Z h0 []) (P0 : ¬ i < (0 : Int32)) (P1 : i < n) :
    Ctr l Z ELs yn586 jdk_41_method_11_code 3 (some .int) [] (rmk 0 0 0 0) #[(.int i), (.int n), fm] [] h0 (fun v h fs => (fs = [] ∧ v = some (.int i))) := by
  obtain ⟨hw, hEL, wS, OS, hz0, OA, OH, OL, OF, rfm⟩ := id G
  refine Ctr.intro pn587 hEL hZh hsf ?_
  intro p e s m below meth c s₁ hby hml hret hnm hlk hh K0
  refine Owe.cast (ef585 m i n fm rfm) ?_
  show Owe _ _ _ _ s₁ (mkF m 0 #[.val (.int i), .val (.int n), .val fm] [])
  refine oIloadN K0 1 (d27_0 hby) rfl ?_
  refine oIfNo K0 4 (d27_1 hby) (XT.i0_lt_f P0) ?_
  refine oIloadN K0 5 (d27_4 hby) rfl ?_
  refine oIloadN K0 6 (d27_5 hby) rfl ?_
  refine oIcmpYes K0 16 (d27_6 hby) (XT.ii_lt_t P1) ?_
  refine oIloadN K0 17 (d27_16 hby) rfl ?_
  exact oRetI K0 [] (t := .int) hret (by simp) rfl (d27_17 hby) (by decide) (by decide) hlk (fun x hx => by cases hx) ⟨rfl, rfl⟩
abbrev y28 := jdk_42_method_155_code
theorem d28_0 : DC y28 0 (.iload_n 0) 1 := hb' (by decide +kernel)
theorem d28_1 : DC y28 1 (.iload_n 1) 1 := hb' (by decide +kernel)
theorem d28_2 : DC y28 2 (.getstatic 1053) 3 := hb' (by decide +kernel)
theorem d28_5 : DC y28 5 (.invokestatic 1059) 3 := hb' (by decide +kernel)
theorem pd593 : parseMethodDescriptor "(IILjava/util/function/BiFunction;)I" = some ⟨[.int, .int, (.object "java/util/function/BiFunction")], some .int⟩ := by decide +kernel
theorem d28_8 : DC y28 8 (.pop) 1 := hb' (by decide +kernel)
theorem d28_9 : DC y28 9 (.return_) 1 := hb' (by decide +kernel)
abbrev yn596 : MethodName := ⟨"java/lang/String", "checkIndex", "(II)V"⟩
theorem rmCkI (G : Gl Z a0 z0 fm) (i n : Int32) (h0 : Heap) (hZh : Ext Z.heap h0) (hsf : Own Z h0 []) (P0 : ¬ i < (0 : Int32)) (P1 : i < n) :
    Ctr l Z ELs yn596 jdk_42_method_155_code 2 none [] (rmk 1 0 0 14) #[(.int i), (.int n)] [] h0 (fun v h fs => (fs = [] ∧ v = none)) := by
  obtain ⟨hw, hEL, wS, OS, hz0, OA, OH, OL, OF, rfm⟩ := id G
  refine Ctr.intro pn16 hEL hZh hsf ?_
  intro p e s m below meth c s₁ hby hml hret hnm hlk hh K0
  refine Owe.cast (ef481 m i n) ?_
  show Owe _ _ _ _ s₁ (mkF m 0 #[.val (.int i), .val (.int n)] [])
  refine oIloadN K0 1 (d28_0 hby) rfl ?_
  refine oIloadN K0 2 (d28_1 hby) rfl ?_
  refine oGetS K0 5 (wq hw 80) (OF.ext K0.old) (d28_2 hby) ?_
  intro T1 K2
  refine oStatic K2 8 0 (wq hw 82) (wq hw 83) (wq hw 81) (wq hw 84) (rmPck l Z a0 z0 fm G i n h0 K2.old K2.both P0 P1) [(.int i), (.int n), fm] [] (lenOf pd593 rfl) (d28_5 hby) ?_
  intro T3 h5 v6 lo7 fs8 K4 Kp9 q10
  obtain ⟨rfl, rfl⟩ := q10
  have K11 := K4.to 0 0 []
  refine Owe.stk [(.int i)] ?_
  refine oPop K11 9 (d28_8 hby) rfl ?_
  exact oRetV K11 [] hret (d28_9 hby) (by decide) (by decide) hlk (fun x hx => by cases hx) ⟨rfl, rfl⟩
theorem own_pair {c d : Int32} (h1 : hiI c) (h2 : loI d) : ¬ (((c <<< ((10 : Int32) &&& 31)) + d) + (-56613888 : Int32)) < (65536 : Int32) ∧ (57343 : Int32) < (((c <<< ((10 : Int32) &&& 31)) + d) + (-56613888 : Int32)) := by
  have a := c_ishl c 10 10 (by decide)
  have r1 := rng32 (c <<< ((10 : Int32) &&& 31))
  have b := c_iadd (c <<< ((10 : Int32) &&& 31)) d
  have r2 := rng32 ((c <<< ((10 : Int32) &&& 31)) + d)
  have k := c_iadd ((c <<< ((10 : Int32) &&& 31)) + d) (-56613888)
  have r3 := rng32 (((c <<< ((10 : Int32) &&& 31)) + d) + (-56613888 : Int32))
  have e : (-56613888 : Int32).toInt = -56613888 := by decide
  simp only [Int32.lt_iff_toInt_lt, Int32.reduceToInt]
  omega
abbrev y29 := jdk_52_method_7_code
theorem d29_0 : DC y29 0 (.getstatic 44) 3 := hb' (by decide +kernel)
theorem d29_3 : DC y29 3 (.ifCond .ne 16) 3 := hb' (by decide +kernel)
theorem d29_19 : DC y29 19 (.iload_n 3) 1 := hb' (by decide +kernel)
theorem d29_20 : DC y29 20 (.ifCond .eq 8) 3 := hb' (by decide +kernel)
theorem d29_28 : DC y29 28 (.aload_n 0) 1 := hb' (by decide +kernel)
theorem d29_29 : DC y29 29 (.iload_n 1) 1 := hb' (by decide +kernel)
theorem d29_30 : DC y29 30 (.invokestatic 71) 3 := hb' (by decide +kernel)
theorem d29_33 : DC y29 33 (.istore 4) 2 := hb' (by decide +kernel)
theorem d29_35 : DC y29 35 (.iload 4) 2 := hb' (by decide +kernel)
theorem d29_37 : DC y29 37 (.invokestatic 75) 3 := hb' (by decide +kernel)
theorem d29_40 : DC y29 40 (.ifCond .eq 43) 3 := hb' (by decide +kernel)
theorem d29_43 : DC y29 43 (.iinc 1 1) 3 := hb' (by decide +kernel)
theorem d29_46 : DC y29 46 (.iload_n 1) 1 := hb' (by decide +kernel)
theorem d29_47 : DC y29 47 (.iload_n 2) 1 := hb' (by decide +kernel)
theorem d29_48 : DC y29 48 (.if_icmp .ge 35) 3 := hb' (by decide +kernel)
theorem d29_83 : DC y29 83 (.iload 4) 2 := hb' (by decide +kernel)
theorem d29_85 : DC y29 85 (.ireturn) 1 := hb' (by decide +kernel)
theorem ef615 (m : MethodId) (x0 : Addr) (x1 : Int32) (x2 : Int32) (x3 : Int32) : entryFrame m #[(.ref x0), (.int x1), (.int x2), (.int x3)] 6 = mkF m 0 #[.val (.ref x0), .val (.int x1), .val (.int x2), .val (.int x3), .unset, .unset] [] := by first | (simp [entryFrame, mkF, argsToLocals, Value.category]; done) | rfl
abbrev yn616 : MethodName := ⟨"java/lang/StringUTF16", "codePointAt", "([BIIZ)I"⟩
theorem rmCPz1_0 (G : Gl Z a0 z0 fm) (t : Addr) (c0 : Int32) (h0 : Heap) (hZh : Ext Z.heap h0) (hsf : Own Z h0 []) (P0 : Ary Z h0 t .byte [(.int (byt (c0 >>> ((0 : Int32) &&& 31)))), (.int (byt (c0 >>> ((8 : Int32) &&& 31))))]) (P1 : ¬ c0 < (0 : Int32)) (P2 : ¬ (65535 : Int32) < c0) :
    Ctr l Z ELs yn616 jdk_52_method_7_code 6 (some .int) [] (rmk 1 0 0 13) #[(.ref t), (.int 0), (.int 1), (.int 0)] [] h0 (fun v h fs => (fs = [] ∧ v = some (.int c0))) := by
  obtain ⟨hw, hEL, wS, OS, hz0, OA, OH, OL, OF, rfm⟩ := id G
  refine Ctr.intro pn41 hEL hZh hsf ?_
  intro p e s m below meth c s₁ hby hml hret hnm hlk hh K0
  refine Owe.cast (ef615 m t ((0 : Int32)) ((1 : Int32)) ((0 : Int32))) ?_
  show Owe _ _ _ _ s₁ (mkF m 0 #[.val (.ref t), .val (.int 0), .val (.int 1), .val (.int 0), .unset, .unset] [])
  refine oGetS K0 3 (wq hw 118) (OA.ext K0.old) (d29_0 hby) ?_
  intro T1 K2
  refine oIfYes K2 19 (d29_3 hby) (XT.i0_ne_t (by decide)) ?_
  refine oIloadN K2 20 (d29_19 hby) rfl ?_
  refine oIfYes K2 28 (d29_20 hby) (XT.i0_eq_t (by decide)) ?_
  refine oAloadN K2 29 (d29_28 hby) rfl rfl ?_
  refine oIloadN K2 30 (d29_29 hby) rfl ?_
  refine oStatic K2 33 0 (wq hw 121) (wq hw 122) (wq hw 53) (wq hw 123) (rmGet1_0 l Z a0 z0 fm G t c0 h0 K2.old K2.both P0 P1 P2) [(.ref t), (.int 0)] [] (lenOf pd179 rfl) (d29_30 hby) ?_
  intro T3 h5 v6 lo7 fs8 K4 Kp9 q10
  obtain ⟨rfl, rfl⟩ := q10
  have K11 := K4.to 0 0 []
  refine Owe.stk [(.int c0)] ?_
  refine oIstore K11 35 (d29_33 hby) (l' := #[.val (.ref t), .val (.int 0), .val (.int 1), .val (.int 0), .val (.int c0), .unset]) rfl ?_
  refine oIload K11 37 (d29_35 hby) rfl ?_
  refine oStatic K11 40 0 (wq hw 132) (wq hw 133) (wq hw 88) (wq hw 134) (rmJH l Z a0 z0 fm G c0 h5 K11.old K11.both ) [(.int c0)] [] (lenOf pd262 rfl) (d29_37 hby) ?_
  intro T12 h14 v15 lo16 fs17 K13 Kp18 q19
  rcases q19 with qq19_0 | qq19_1
  · obtain ⟨rfl, rfl, f20⟩ := qq19_0
    have K21 := K13.to 0 0 []
    refine Owe.stk [(.int 1)] ?_
    refine oIfNo K21 43 (d29_40 hby) (XT.i0_eq_f (by decide)) ?_
    refine oIinc K21 46 (d29_43 hby) rfl (l' := #[.val (.ref t), .val (.int 1), .val (.int 1), .val (.int 0), .val (.int c0), .unset]) rfl ?_
    refine oIloadN K21 47 (d29_46 hby) rfl ?_
    refine oIloadN K21 48 (d29_47 hby) rfl ?_
    refine oIcmpYes K21 83 (d29_48 hby) (XT.ii_ge_t (by decide)) ?_
    refine oIload K21 85 (d29_83 hby) rfl ?_
    exact oRetI K21 [] (t := .int) hret (by simp) rfl (d29_85 hby) (by decide) (by decide) hlk (fun x hx => by cases hx) ⟨rfl, rfl⟩
  · obtain ⟨rfl, rfl, f22⟩ := qq19_1
    have K23 := K13.to 0 0 []
    refine Owe.stk [(.int 0)] ?_
    refine oIfYes K23 83 (d29_40 hby) (XT.i0_eq_t (by decide)) ?_
    refine oIload K23 85 (d29_83 hby) rfl ?_
    exact oRetI K23 [] (t := .int) hret (by simp) rfl (d29_85 hby) (by decide) (by decide) hlk (fun x hx => by cases hx) ⟨rfl, rfl⟩
abbrev y30 := jdk_52_method_8_code
theorem d30_0 : DC y30 0 (.aload_n 0) 1 := hb' (by decide +kernel)
theorem d30_1 : DC y30 1 (.iload_n 1) 1 := hb' (by decide +kernel)
theorem d30_2 : DC y30 2 (.iload_n 2) 1 := hb' (by decide +kernel)
theorem d30_3 : DC y30 3 (.iconst 0) 1 := hb' (by decide +kernel)
theorem d30_4 : DC y30 4 (.invokestatic 88) 3 := hb' (by decide +kernel)
theorem pd623 : parseMethodDescriptor "([BIIZ)I" = some ⟨[(.array .byte), .int, .int, .boolean], some .int⟩ := by decide +kernel
theorem d30_7 : DC y30 7 (.ireturn) 1 := hb' (by decide +kernel)
abbrev yn625 : MethodName := ⟨"java/lang/StringUTF16", "codePointAt", "([BII)I"⟩
theorem rmCPu1_0 (G : Gl Z a0 z0 fm) (t : Addr) (c0 : Int32) (h0 : Heap) (hZh : Ext Z.heap h0) (hsf : Own Z h0 []) (P0 : Ary Z h0 t .byte [(.int (byt (c0 >>> ((0 : Int32) &&& 31)))), (.int (byt (c0 >>> ((8 : Int32) &&& 31))))]) (P1 : ¬ c0 < (0 : Int32)) (P2 : ¬ (65535 : Int32) < c0) :
    Ctr l Z ELs yn625 jdk_52_method_8_code 3 (some .int) [] (rmk 2 0 0 30) #[(.ref t), (.int 0), (.int 1)] [] h0 (fun v h fs => (fs = [] ∧ v = some (.int c0))) := by
  obtain ⟨hw, hEL, wS, OS, hz0, OA, OH, OL, OF, rfm⟩ := id G
  refine Ctr.intro pn41 hEL hZh hsf ?_
  intro p e s m below meth c s₁ hby hml hret hnm hlk hh K0
  refine Owe.cast (ef72 m t ((0 : Int32)) ((1 : Int32))) ?_
  show Owe _ _ _ _ s₁ (mkF m 0 #[.val (.ref t), .val (.int 0), .val (.int 1)] [])
  refine oAloadN K0 1 (d30_0 hby) rfl rfl ?_
  refine oIloadN K0 2 (d30_1 hby) rfl ?_
  refine oIloadN K0 3 (d30_2 hby) rfl ?_
  refine oIconstV K0 4 (0 : Int32) (d30_3 hby) rfl ?_
  refine oStatic K0 7 0 (wq hw 129) (wq hw 130) (wq hw 53) (wq hw 131) (rmCPz1_0 l Z a0 z0 fm G t c0 h0 K0.old K0.both P0 P1 P2) [(.ref t), (.int 0), (.int 1), (.int 0)] [] (lenOf pd623 rfl) (d30_4 hby) ?_
  intro T1 h3 v4 lo5 fs6 K2 Kp7 q8
  obtain ⟨rfl, rfl⟩ := q8
  have K9 := K2.to 0 0 []
  refine Owe.stk [(.int c0)] ?_
  exact oRetI K9 [] (t := .int) hret (by simp) rfl (d30_7 hby) (by decide) (by decide) hlk (fun x hx => by cases hx) ⟨rfl, rfl⟩
abbrev y31 := jdk_42_method_57_code
theorem d31_0 : DC y31 0 (.aload_n 0) 1 := hb' (by decide +kernel)
theorem d31_1 : DC y31 1 (.invokevirtual 492) 3 := hb' (by decide +kernel)
theorem pd629 : parseMethodDescriptor "()Z" = some ⟨[], some .boolean⟩ := by decide +kernel
theorem d31_4 : DC y31 4 (.ifCond .eq 23) 3 := hb' (by decide +kernel)
theorem d31_7 : DC y31 7 (.iload_n 1) 1 := hb' (by decide +kernel)
theorem d31_8 : DC y31 8 (.aload_n 0) 1 := hb' (by decide +kernel)
theorem d31_9 : DC y31 9 (.getfield 9) 3 := hb' (by decide +kernel)
theorem d31_12 : DC y31 12 (.arraylength) 1 := hb' (by decide +kernel)
theorem d31_13 : DC y31 13 (.invokestatic 499) 3 := hb' (by decide +kernel)
theorem pd636 : parseMethodDescriptor "(II)V" = some ⟨[.int, .int], none⟩ := by decide +kernel
theorem d31_16 : DC y31 16 (.aload_n 0) 1 := hb' (by decide +kernel)
theorem d31_17 : DC y31 17 (.getfield 9) 3 := hb' (by decide +kernel)
theorem d31_20 : DC y31 20 (.iload_n 1) 1 := hb' (by decide +kernel)
theorem d31_21 : DC y31 21 (.baload) 1 := hb' (by decide +kernel)
theorem d31_22 : DC y31 22 (.sipush 255) 3 := hb' (by decide +kernel)
theorem d31_25 : DC y31 25 (.iand) 1 := hb' (by decide +kernel)
theorem d31_26 : DC y31 26 (.ireturn) 1 := hb' (by decide +kernel)
theorem d31_27 : DC y31 27 (.aload_n 0) 1 := hb' (by decide +kernel)
theorem d31_28 : DC y31 28 (.getfield 9) 3 := hb' (by decide +kernel)
theorem d31_31 : DC y31 31 (.arraylength) 1 := hb' (by decide +kernel)
theorem d31_32 : DC y31 32 (.iconst 1) 1 := hb' (by decide +kernel)
theorem d31_33 : DC y31 33 (.ishr) 1 := hb' (by decide +kernel)
theorem d31_34 : DC y31 34 (.istore_n 2) 1 := hb' (by decide +kernel)
theorem d31_35 : DC y31 35 (.iload_n 1) 1 := hb' (by decide +kernel)
theorem d31_36 : DC y31 36 (.iload_n 2) 1 := hb' (by decide +kernel)
theorem d31_37 : DC y31 37 (.invokestatic 499) 3 := hb' (by decide +kernel)
theorem d31_40 : DC y31 40 (.aload_n 0) 1 := hb' (by decide +kernel)
theorem d31_41 : DC y31 41 (.getfield 9) 3 := hb' (by decide +kernel)
theorem d31_44 : DC y31 44 (.iload_n 1) 1 := hb' (by decide +kernel)
theorem d31_45 : DC y31 45 (.iload_n 2) 1 := hb' (by decide +kernel)
theorem d31_46 : DC y31 46 (.invokestatic 502) 3 := hb' (by decide +kernel)
theorem pd658 : parseMethodDescriptor "([BII)I" = some ⟨[(.array .byte), .int, .int], some .int⟩ := by decide +kernel
theorem d31_49 : DC y31 49 (.ireturn) 1 := hb' (by decide +kernel)
theorem ef660 (m : MethodId) (x0 : Addr) (x1 : Int32) : entryFrame m #[(.ref x0), (.int x1)] 3 = mkF m 0 #[.val (.ref x0), .val (.int x1), .unset] [] := by first | (simp [entryFrame, mkF, argsToLocals, Value.category]; done) | rfl
abbrev yn661 : MethodName := ⟨"java/lang/String", "codePointAt", "(I)I"⟩
theorem rmCP1_0 (G : Gl Z a0 z0 fm) (x : Addr) (b : Nat) (c0 : Int32) (h0 : Heap) (hZh : Ext Z.heap h0) (hsf : Own Z h0 []) (P0 : Str Z h0 b x [c0]) (P1 : ¬ c0 < (0 : Int32)) (P2 : ¬ (65535 : Int32) < c0) :
    Ctr l Z ELs yn661 jdk_42_method_57_code 3 (some .int) [] (rmk 3 0 0 44) #[(.ref x), (.int 0)] [] h0 (fun v h fs => (fs = [] ∧ v = some (.int c0))) := by
  obtain ⟨hw, hEL, wS, OS, hz0, OA, OH, OL, OF, rfm⟩ := id G
  refine Ctr.intro pn16 hEL hZh hsf ?_
  intro p e s m below meth c s₁ hby hml hret hnm hlk hh K0
  refine Owe.cast (ef660 m x ((0 : Int32))) ?_
  show Owe _ _ _ _ s₁ (mkF m 0 #[.val (.ref x), .val (.int 0), .unset] [])
  obtain ⟨t1, -, -, f2, f3, ⟨f4, A5, L6⟩ | ⟨f4, A5⟩⟩ := P0
  · have A7 : Ary Z h0 t1 .byte [(.int (byt c0))] := A5
    obtain ⟨l8, -⟩ := L6
    refine oAloadN K0 1 (d31_0 hby) rfl rfl ?_
    refine oVirtual K0 4 0 (wq hw 72) (wq hw 73) (nfSel (wq hw 75)) (wq hw 75) (wq hw 74) (wq hw 14) (wq hw 76) f2 (rmIsL0 l Z a0 z0 fm G x h0 K0.old K0.both f4) [] [] (lenOf pd629 rfl) (d31_1 hby) ?_
    intro T9 h11 v12 lo13 fs14 K10 Kp15 q16
    obtain ⟨rfl, rfl⟩ := q16
    have K17 := K10.to 0 0 []
    refine Owe.stk [(.int 1)] ?_
    refine oIfNo K17 7 (d31_4 hby) (XT.i0_eq_f (by decide)) ?_
    refine oIloadN K17 8 (d31_7 hby) rfl ?_
    refine oAloadN K17 9 (d31_8 hby) rfl rfl ?_
    refine oGetF K17 12 (wq hw 31) (f3.keep Kp15 nin0) (d31_9 hby) ?_
    intro T18 K19
    refine oLen K19 13 (A7.keep Kp15 nin0) (n := (1 : Int32)) (by first | rfl | decide) (d31_12 hby) ?_
    refine oStatic K19 16 0 (wq hw 77) (wq hw 78) (wq hw 14) (wq hw 79) (rmCkI l Z a0 z0 fm G ((0 : Int32)) ((1 : Int32)) h11 K19.old K19.both (by decide) (by decide)) [(.int 0), (.int 1)] [] (lenOf pd636 rfl) (d31_13 hby) ?_
    intro T20 h22 v23 lo24 fs25 K21 Kp26 q27
    obtain ⟨rfl, rfl⟩ := q27
    have K28 := K21.to 0 0 []
    refine Owe.stk [] ?_
    refine oAloadN K28 17 (d31_16 hby) rfl rfl ?_
    refine oGetF K28 20 (wq hw 31) ((f3.keep Kp15 nin0).keep Kp26 nin0) (d31_17 hby) ?_
    intro T29 K30
    refine oIloadN K30 21 (d31_20 hby) rfl ?_
    refine oBaload K30 22 ((A7.keep Kp15 nin0).keep Kp26 nin0) 0 (by decide) (by decide) rfl (d31_21 hby) ?_
    refine oSipushV K30 25 (255 : Int32) (d31_22 hby) (by decide) ?_
    refine oIand K30 26 (d31_25 hby) ?_
    refine Owe.stk [(.int c0)] ?_ (congrArg (fun z => [Value.int z]) (own_lat P1 l8))
    exact oRetI K30 [] (t := .int) hret (by simp) rfl (d31_26 hby) (by decide) (by decide) hlk (fun x hx => by cases hx) ⟨rfl, rfl⟩
  · have A7 : Ary Z h0 t1 .byte [(.int (byt (c0 >>> ((0 : Int32) &&& 31)))), (.int (byt (c0 >>> ((8 : Int32) &&& 31))))] := A5
    refine oAloadN K0 1 (d31_0 hby) rfl rfl ?_
    refine oVirtual K0 4 0 (wq hw 72) (wq hw 73) (nfSel (wq hw 75)) (wq hw 75) (wq hw 74) (wq hw 14) (wq hw 76) f2 (rmIsL1 l Z a0 z0 fm G x h0 K0.old K0.both f4) [] [] (lenOf pd629 rfl) (d31_1 hby) ?_
    intro T31 h33 v34 lo35 fs36 K32 Kp37 q38
    obtain ⟨rfl, rfl⟩ := q38
    have K39 := K32.to 0 0 []
    refine Owe.stk [(.int 0)] ?_
    refine oIfYes K39 27 (d31_4 hby) (XT.i0_eq_t (by decide)) ?_
    refine oAloadN K39 28 (d31_27 hby) rfl rfl ?_
    refine oGetF K39 31 (wq hw 31) (f3.keep Kp37 nin0) (d31_28 hby) ?_
    intro T40 K41
    refine oLen K41 32 (A7.keep Kp37 nin0) (n := (2 : Int32)) (by first | rfl | decide) (d31_31 hby) ?_
    refine oIconstV K41 33 (1 : Int32) (d31_32 hby) rfl ?_
    refine oIshr K41 34 (d31_33 hby) ?_
    show Owe _ _ _ _ T40 (mkF m 34 #[.val (.ref x), .val (.int 0), .unset] [(.int 1)])
    refine oIstoreN K41 35 (d31_34 hby) (l' := #[.val (.ref x), .val (.int 0), .val (.int 1)]) rfl ?_
    refine oIloadN K41 36 (d31_35 hby) rfl ?_
    refine oIloadN K41 37 (d31_36 hby) rfl ?_
    refine oStatic K41 40 0 (wq hw 77) (wq hw 78) (wq hw 14) (wq hw 79) (rmCkI l Z a0 z0 fm G ((0 : Int32)) ((1 : Int32)) h33 K41.old K41.both (by decide) (by decide)) [(.int 0), (.int 1)] [] (lenOf pd636 rfl) (d31_37 hby) ?_
    intro T42 h44 v45 lo46 fs47 K43 Kp48 q49
    obtain ⟨rfl, rfl⟩ := q49
    have K50 := K43.to 0 0 []
    refine Owe.stk [] ?_
    refine oAloadN K50 41 (d31_40 hby) rfl rfl ?_
    refine oGetF K50 44 (wq hw 31) ((f3.keep Kp37 nin0).keep Kp48 nin0) (d31_41 hby) ?_
    intro T51 K52
    refine oIloadN K52 45 (d31_44 hby) rfl ?_
    refine oIloadN K52 46 (d31_45 hby) rfl ?_
    refine oStatic K52 49 0 (wq hw 126) (wq hw 127) (wq hw 53) (wq hw 128) (rmCPu1_0 l Z a0 z0 fm G t1 c0 h44 K52.old K52.both ((A7.keep Kp37 nin0).keep Kp48 nin0) P1 P2) [(.ref t1), (.int 0), (.int 1)] [] (lenOf pd658 rfl) (d31_46 hby) ?_
    intro T53 h55 v56 lo57 fs58 K54 Kp59 q60
    obtain ⟨rfl, rfl⟩ := q60
    have K61 := K54.to 0 0 []
    refine Owe.stk [(.int c0)] ?_
    exact oRetI K61 [] (t := .int) hret (by simp) rfl (d31_49 hby) (by decide) (by decide) hlk (fun x hx => by cases hx) ⟨rfl, rfl⟩
theorem d29_51 : DC y29 51 (.iload_n 3) 1 := hb' (by decide +kernel)
theorem d29_52 : DC y29 52 (.ifCond .eq 8) 3 := hb' (by decide +kernel)
theorem d29_60 : DC y29 60 (.aload_n 0) 1 := hb' (by decide +kernel)
theorem d29_61 : DC y29 61 (.iload_n 1) 1 := hb' (by decide +kernel)
theorem d29_62 : DC y29 62 (.invokestatic 71) 3 := hb' (by decide +kernel)
theorem d29_65 : DC y29 65 (.istore 5) 2 := hb' (by decide +kernel)
theorem d29_67 : DC y29 67 (.iload 5) 2 := hb' (by decide +kernel)
theorem d29_69 : DC y29 69 (.invokestatic 81) 3 := hb' (by decide +kernel)
theorem d29_72 : DC y29 72 (.ifCond .eq 11) 3 := hb' (by decide +kernel)
theorem d29_75 : DC y29 75 (.iload 4) 2 := hb' (by decide +kernel)
theorem d29_77 : DC y29 77 (.iload 5) 2 := hb' (by decide +kernel)
theorem d29_79 : DC y29 79 (.invokestatic 84) 3 := hb' (by decide +kernel)
theorem pd674 : parseMethodDescriptor "(CC)I" = some ⟨[.char, .char], some .int⟩ := by decide +kernel
theorem d29_82 : DC y29 82 (.ireturn) 1 := hb' (by decide +kernel)
theorem rmCPz2_0 (G : Gl Z a0 z0 fm) (t : Addr) (c0 c1 : Int32) (h0 : Heap) (hZh : Ext Z.heap h0) (hsf : Own Z h0 []) (P0 : Ary Z h0 t .byte [(.int (byt (c0 >>> ((0 : Int32) &&& 31)))), (.int (byt (c0 >>> ((8 : Int32) &&& 31)))), (.int (byt (c1 >>> ((0 : Int32) &&& 31)))), (.int (byt (c1 >>> ((8 : Int32) &&& 31))))]) (P1 : ¬ c0 < (0 : Int32)) (P2 : ¬ (65535 : Int32) < c0) (P3 : ¬ c1 < (0 : Int32)) (P4 : ¬ (65535 : Int32) < c1) :
    Ctr l Z ELs yn616 jdk_52_method_7_code 6 (some .int) [] (rmk 1 0 0 13) #[(.ref t), (.int 0), (.int 2), (.int 0)] [] h0 (fun v h fs => (∃ r : Int32, fs = [] ∧ v = some (.int r) ∧ hiI c0 ∧ loI c1 ∧ ¬ r < (65536 : Int32) ∧ (57343 : Int32) < r) ∨ (fs = [] ∧ v = some (.int c0) ∧ ¬ (hiI c0 ∧ loI c1))) := by
  obtain ⟨hw, hEL, wS, OS, hz0, OA, OH, OL, OF, rfm⟩ := id G
  refine Ctr.intro pn41 hEL hZh hsf ?_
  intro p e s m below meth c s₁ hby hml hret hnm hlk hh K0
  refine Owe.cast (ef615 m t ((0 : Int32)) ((2 : Int32)) ((0 : Int32))) ?_
  show Owe _ _ _ _ s₁ (mkF m 0 #[.val (.ref t), .val (.int 0), .val (.int 2), .val (.int 0), .unset, .unset] [])
  refine oGetS K0 3 (wq hw 118) (OA.ext K0.old) (d29_0 hby) ?_
  intro T1 K2
  refine oIfYes K2 19 (d29_3 hby) (XT.i0_ne_t (by decide)) ?_
  refine oIloadN K2 20 (d29_19 hby) rfl ?_
  refine oIfYes K2 28 (d29_20 hby) (XT.i0_eq_t (by decide)) ?_
  refine oAloadN K2 29 (d29_28 hby) rfl rfl ?_
  refine oIloadN K2 30 (d29_29 hby) rfl ?_
  refine oStatic K2 33 0 (wq hw 121) (wq hw 122) (wq hw 53) (wq hw 123) (rmGet2_0 l Z a0 z0 fm G t c0 c1 h0 K2.old K2.both P0 P1 P2) [(.ref t), (.int 0)] [] (lenOf pd179 rfl) (d29_30 hby) ?_
  intro T3 h5 v6 lo7 fs8 K4 Kp9 q10
  obtain ⟨rfl, rfl⟩ := q10
  have K11 := K4.to 0 0 []
  refine Owe.stk [(.int c0)] ?_
  refine oIstore K11 35 (d29_33 hby) (l' := #[.val (.ref t), .val (.int 0), .val (.int 2), .val (.int 0), .val (.int c0), .unset]) rfl ?_
  refine oIload K11 37 (d29_35 hby) rfl ?_
  refine oStatic K11 40 0 (wq hw 132) (wq hw 133) (wq hw 88) (wq hw 134) (rmJH l Z a0 z0 fm G c0 h5 K11.old K11.both ) [(.int c0)] [] (lenOf pd262 rfl) (d29_37 hby) ?_
  intro T12 h14 v15 lo16 fs17 K13 Kp18 q19
  rcases q19 with qq19_0 | qq19_1
  · obtain ⟨rfl, rfl, f20⟩ := qq19_0
    have K21 := K13.to 0 0 []
    refine Owe.stk [(.int 1)] ?_
    refine oIfNo K21 43 (d29_40 hby) (XT.i0_eq_f (by decide)) ?_
    refine oIinc K21 46 (d29_43 hby) rfl (l' := #[.val (.ref t), .val (.int 1), .val (.int 2), .val (.int 0), .val (.int c0), .unset]) rfl ?_
    refine oIloadN K21 47 (d29_46 hby) rfl ?_
    refine oIloadN K21 48 (d29_47 hby) rfl ?_
    refine oIcmpNo K21 51 (d29_48 hby) (XT.ii_ge_f (by decide)) ?_
    refine oIloadN K21 52 (d29_51 hby) rfl ?_
    refine oIfYes K21 60 (d29_52 hby) (XT.i0_eq_t (by decide)) ?_
    refine oAloadN K21 61 (d29_60 hby) rfl rfl ?_
    refine oIloadN K21 62 (d29_61 hby) rfl ?_
    refine oStatic K21 65 0 (wq hw 121) (wq hw 122) (wq hw 53) (wq hw 123) (rmGet2_1 l Z a0 z0 fm G t c0 c1 h14 K21.old K21.both ((P0.keep Kp9 nin0).keep Kp18 nin0) P3 P4) [(.ref t), (.int 1)] [] (lenOf pd179 rfl) (d29_62 hby) ?_
    intro T22 h24 v25 lo26 fs27 K23 Kp28 q29
    obtain ⟨rfl, rfl⟩ := q29
    have K30 := K23.to 0 0 []
    refine Owe.stk [(.int c1)] ?_
    refine oIstore K30 67 (d29_65 hby) (l' := #[.val (.ref t), .val (.int 1), .val (.int 2), .val (.int 0), .val (.int c0), .val (.int c1)]) rfl ?_
    refine oIload K30 69 (d29_67 hby) rfl ?_
    refine oStatic K30 72 0 (wq hw 138) (wq hw 139) (wq hw 88) (wq hw 140) (rmJL l Z a0 z0 fm G c1 h24 K30.old K30.both ) [(.int c1)] [] (lenOf pd262 rfl) (d29_69 hby) ?_
    intro T31 h33 v34 lo35 fs36 K32 Kp37 q38
    rcases q38 with qq38_0 | qq38_1
    · obtain ⟨rfl, rfl, f39⟩ := qq38_0
      have K40 := K32.to 0 0 []
      refine Owe.stk [(.int 1)] ?_
      refine oIfNo K40 75 (d29_72 hby) (XT.i0_eq_f (by decide)) ?_
      refine oIload K40 77 (d29_75 hby) rfl ?_
      refine oIload K40 79 (d29_77 hby) rfl ?_
      refine oStatic K40 82 0 (wq hw 145) (wq hw 146) (wq hw 88) (wq hw 147) (rmTCP l Z a0 z0 fm G c0 c1 h33 K40.old K40.both ) [(.int c0), (.int c1)] [] (lenOf pd674 rfl) (d29_79 hby) ?_
      intro T41 h43 v44 lo45 fs46 K42 Kp47 q48
      obtain ⟨rfl, rfl⟩ := q48
      have K49 := K42.to 0 0 []
      refine Owe.stk [(.int (((c0 <<< ((10 : Int32) &&& 31)) + c1) + (-56613888 : Int32)))] ?_
      exact oRetI K49 [] (t := .int) hret (by simp) rfl (d29_82 hby) (by decide) (by decide) hlk (fun x hx => by cases hx) (Or.inl ⟨(((c0 <<< ((10 : Int32) &&& 31)) + c1) + (-56613888 : Int32)), rfl, rfl, f20, f39, (own_pair f20 f39).1, (own_pair f20 f39).2⟩)
    · obtain ⟨rfl, rfl, f50⟩ := qq38_1
      have K51 := K32.to 0 0 []
      refine Owe.stk [(.int 0)] ?_
      refine oIfYes K51 83 (d29_72 hby) (XT.i0_eq_t (by decide)) ?_
      refine oIload K51 85 (d29_83 hby) rfl ?_
      exact oRetI K51 [] (t := .int) hret (by simp) rfl (d29_85 hby) (by decide) (by decide) hlk (fun x hx => by cases hx) (Or.inr ⟨rfl, rfl, (by simp only [hiI, loI, Int32.lt_iff_toInt_lt, Int32.reduceToInt] at P1 P2 P3 P4 f20 f50 ⊢; omega)⟩)
  · obtain ⟨rfl, rfl, f52⟩ := qq19_1
    have K53 := K13.to 0 0 []
    refine Owe.stk [(.int 0)] ?_
    refine oIfYes K53 83 (d29_40 hby) (XT.i0_eq_t (by decide)) ?_
    refine oIload K53 85 (d29_83 hby) rfl ?_
    exact oRetI K53 [] (t := .int) hret (by simp) rfl (d29_85 hby) (by decide) (by decide) hlk (fun x hx => by cases hx) (Or.inr ⟨rfl, rfl, (by simp only [hiI, loI, Int32.lt_iff_toInt_lt, Int32.reduceToInt] at P1 P2 P3 P4 f52 ⊢; omega)⟩)
theorem rmCPu2_0 (G : Gl Z a0 z0 fm) (t : Addr) (c0 c1 : Int32) (h0 : Heap) (hZh : Ext Z.heap h0) (hsf : Own Z h0 []) (P0 : Ary Z h0 t .byte [(.int (byt (c0 >>> ((0 : Int32) &&& 31)))), (.int (byt (c0 >>> ((8 : Int32) &&& 31)))), (.int (byt (c1 >>> ((0 : Int32) &&& 31)))), (.int (byt (c1 >>> ((8 : Int32) &&& 31))))]) (P1 : ¬ c0 < (0 : Int32)) (P2 : ¬ (65535 : Int32) < c0) (P3 : ¬ c1 < (0 : Int32)) (P4 : ¬ (65535 : Int32) < c1) :
    Ctr l Z ELs yn625 jdk_52_method_8_code 3 (some .int) [] (rmk 2 0 0 30) #[(.ref t), (.int 0), (.int 2)] [] h0 (fun v h fs => (∃ r : Int32, fs = [] ∧ v = some (.int r) ∧ hiI c0 ∧ loI c1 ∧ ¬ r < (65536 : Int32) ∧ (57343 : Int32) < r) ∨ (fs = [] ∧ v = some (.int c0) ∧ ¬ (hiI c0 ∧ loI c1))) := by
  obtain ⟨hw, hEL, wS, OS, hz0, OA, OH, OL, OF, rfm⟩ := id G
  refine Ctr.intro pn41 hEL hZh hsf ?_
  intro p e s m below meth c s₁ hby hml hret hnm hlk hh K0
  refine Owe.cast (ef72 m t ((0 : Int32)) ((2 : Int32))) ?_
  show Owe _ _ _ _ s₁ (mkF m 0 #[.val (.ref t), .val (.int 0), .val (.int 2)] [])
  refine oAloadN K0 1 (d30_0 hby) rfl rfl ?_
  refine oIloadN K0 2 (d30_1 hby) rfl ?_
  refine oIloadN K0 3 (d30_2 hby) rfl ?_
  refine oIconstV K0 4 (0 : Int32) (d30_3 hby) rfl ?_
  refine oStatic K0 7 0 (wq hw 129) (wq hw 130) (wq hw 53) (wq hw 131) (rmCPz2_0 l Z a0 z0 fm G t c0 c1 h0 K0.old K0.both P0 P1 P2 P3 P4) [(.ref t), (.int 0), (.int 2), (.int 0)] [] (lenOf pd623 rfl) (d30_4 hby) ?_
  intro T1 h3 v4 lo5 fs6 K2 Kp7 q8
  rcases q8 with qq8_0 | qq8_1
  · obtain ⟨r9, rfl, rfl, f10, f11, f12, f13⟩ := qq8_0
    have K14 := K2.to 0 0 []
    refine Owe.stk [(.int r9)] ?_
    exact oRetI K14 [] (t := .int) hret (by simp) rfl (d30_7 hby) (by decide) (by decide) hlk (fun x hx => by cases hx) (Or.inl ⟨r9, rfl, rfl, f10, f11, f12, f13⟩)
  · obtain ⟨rfl, rfl, f15⟩ := qq8_1
    have K16 := K2.to 0 0 []
    refine Owe.stk [(.int c0)] ?_
    exact oRetI K16 [] (t := .int) hret (by simp) rfl (d30_7 hby) (by decide) (by decide) hlk (fun x hx => by cases hx) (Or.inr ⟨rfl, rfl, f15⟩)
theorem rmCP2_0 (G : Gl Z a0 z0 fm) (x : Addr) (b : Nat) (c0 c1 : Int32) (h0 : Heap) (hZh : Ext Z.heap h0) (hsf : Own Z h0 []) (P0 : Str Z h0 b x [c0, c1]) (P1 : ¬ c0 < (0 : Int32)) (P2 : ¬ (65535 : Int32) < c0) (P3 : ¬ c1 < (0 : Int32)) (P4 : ¬ (65535 : Int32) < c1) :
    Ctr l Z ELs yn661 jdk_42_method_57_code 3 (some .int) [] (rmk 3 0 0 44) #[(.ref x), (.int 0)] [] h0 (fun v h fs => (∃ r : Int32, fs = [] ∧ v = some (.int r) ∧ hiI c0 ∧ loI c1 ∧ ¬ r < (65536 : Int32) ∧ (57343 : Int32) < r) ∨ (fs = [] ∧ v = some (.int c0) ∧ ¬ (hiI c0 ∧ loI c1))) := by
  obtain ⟨hw, hEL, wS, OS, hz0, OA, OH, OL, OF, rfm⟩ := id G
  refine Ctr.intro pn16 hEL hZh hsf ?_
  intro p e s m below meth c s₁ hby hml hret hnm hlk hh K0
  refine Owe.cast (ef660 m x ((0 : Int32))) ?_
  show Owe _ _ _ _ s₁ (mkF m 0 #[.val (.ref x), .val (.int 0), .unset] [])
  obtain ⟨t1, -, -, f2, f3, ⟨f4, A5, L6⟩ | ⟨f4, A5⟩⟩ := P0
  · have A7 : Ary Z h0 t1 .byte [(.int (byt c0)), (.int (byt c1))] := A5
    obtain ⟨l8, l9, -⟩ := L6
    refine oAloadN K0 1 (d31_0 hby) rfl rfl ?_
    refine oVirtual K0 4 0 (wq hw 72) (wq hw 73) (nfSel (wq hw 75)) (wq hw 75) (wq hw 74) (wq hw 14) (wq hw 76) f2 (rmIsL0 l Z a0 z0 fm G x h0 K0.old K0.both f4) [] [] (lenOf pd629 rfl) (d31_1 hby) ?_
    intro T10 h12 v13 lo14 fs15 K11 Kp16 q17
    obtain ⟨rfl, rfl⟩ := q17
    have K18 := K11.to 0 0 []
    refine Owe.stk [(.int 1)] ?_
    refine oIfNo K18 7 (d31_4 hby) (XT.i0_eq_f (by decide)) ?_
    refine oIloadN K18 8 (d31_7 hby) rfl ?_
    refine oAloadN K18 9 (d31_8 hby) rfl rfl ?_
    refine oGetF K18 12 (wq hw 31) (f3.keep Kp16 nin0) (d31_9 hby) ?_
    intro T19 K20
    refine oLen K20 13 (A7.keep Kp16 nin0) (n := (2 : Int32)) (by first | rfl | decide) (d31_12 hby) ?_
    refine oStatic K20 16 0 (wq hw 77) (wq hw 78) (wq hw 14) (wq hw 79) (rmCkI l Z a0 z0 fm G ((0 : Int32)) ((2 : Int32)) h12 K20.old K20.both (by decide) (by decide)) [(.int 0), (.int 2)] [] (lenOf pd636 rfl) (d31_13 hby) ?_
    intro T21 h23 v24 lo25 fs26 K22 Kp27 q28
    obtain ⟨rfl, rfl⟩ := q28
    have K29 := K22.to 0 0 []
    refine Owe.stk [] ?_
    refine oAloadN K29 17 (d31_16 hby) rfl rfl ?_
    refine oGetF K29 20 (wq hw 31) ((f3.keep Kp16 nin0).keep Kp27 nin0) (d31_17 hby) ?_
    intro T30 K31
    refine oIloadN K31 21 (d31_20 hby) rfl ?_
    refine oBaload K31 22 ((A7.keep Kp16 nin0).keep Kp27 nin0) 0 (by decide) (by decide) rfl (d31_21 hby) ?_
    refine oSipushV K31 25 (255 : Int32) (d31_22 hby) (by decide) ?_
    refine oIand K31 26 (d31_25 hby) ?_
    refine Owe.stk [(.int c0)] ?_ (congrArg (fun z => [Value.int z]) (own_lat P1 l8))
    exact oRetI K31 [] (t := .int) hret (by simp) rfl (d31_26 hby) (by decide) (by decide) hlk (fun x hx => by cases hx) (Or.inr ⟨rfl, rfl, (by simp only [hiI, loI, Int32.lt_iff_toInt_lt, Int32.reduceToInt] at P1 P2 P3 P4 l8 l9 ⊢; omega)⟩)
  · have A7 : Ary Z h0 t1 .byte [(.int (byt (c0 >>> ((0 : Int32) &&& 31)))), (.int (byt (c0 >>> ((8 : Int32) &&& 31)))), (.int (byt (c1 >>> ((0 : Int32) &&& 31)))), (.int (byt (c1 >>> ((8 : Int32) &&& 31))))] := A5
    refine oAloadN K0 1 (d31_0 hby) rfl rfl ?_
    refine oVirtual K0 4 0 (wq hw 72) (wq hw 73) (nfSel (wq hw 75)) (wq hw 75) (wq hw 74) (wq hw 14) (wq hw 76) f2 (rmIsL1 l Z a0 z0 fm G x h0 K0.old K0.both f4) [] [] (lenOf pd629 rfl) (d31_1 hby) ?_
    intro T32 h34 v35 lo36 fs37 K33 Kp38 q39
    obtain ⟨rfl, rfl⟩ := q39
    have K40 := K33.to 0 0 []
    refine Owe.stk [(.int 0)] ?_
    refine oIfYes K40 27 (d31_4 hby) (XT.i0_eq_t (by decide)) ?_
    refine oAloadN K40 28 (d31_27 hby) rfl rfl ?_
    refine oGetF K40 31 (wq hw 31) (f3.keep Kp38 nin0) (d31_28 hby) ?_
    intro T41 K42
    refine oLen K42 32 (A7.keep Kp38 nin0) (n := (4 : Int32)) (by first | rfl | decide) (d31_31 hby) ?_
    refine oIconstV K42 33 (1 : Int32) (d31_32 hby) rfl ?_
    refine oIshr K42 34 (d31_33 hby) ?_
    show Owe _ _ _ _ T41 (mkF m 34 #[.val (.ref x), .val (.int 0), .unset] [(.int 2)])
    refine oIstoreN K42 35 (d31_34 hby) (l' := #[.val (.ref x), .val (.int 0), .val (.int 2)]) rfl ?_
    refine oIloadN K42 36 (d31_35 hby) rfl ?_
    refine oIloadN K42 37 (d31_36 hby) rfl ?_
    refine oStatic K42 40 0 (wq hw 77) (wq hw 78) (wq hw 14) (wq hw 79) (rmCkI l Z a0 z0 fm G ((0 : Int32)) ((2 : Int32)) h34 K42.old K42.both (by decide) (by decide)) [(.int 0), (.int 2)] [] (lenOf pd636 rfl) (d31_37 hby) ?_
    intro T43 h45 v46 lo47 fs48 K44 Kp49 q50
    obtain ⟨rfl, rfl⟩ := q50
    have K51 := K44.to 0 0 []
    refine Owe.stk [] ?_
    refine oAloadN K51 41 (d31_40 hby) rfl rfl ?_
    refine oGetF K51 44 (wq hw 31) ((f3.keep Kp38 nin0).keep Kp49 nin0) (d31_41 hby) ?_
    intro T52 K53
    refine oIloadN K53 45 (d31_44 hby) rfl ?_
    refine oIloadN K53 46 (d31_45 hby) rfl ?_
    refine oStatic K53 49 0 (wq hw 126) (wq hw 127) (wq hw 53) (wq hw 128) (rmCPu2_0 l Z a0 z0 fm G t1 c0 c1 h45 K53.old K53.both ((A7.keep Kp38 nin0).keep Kp49 nin0) P1 P2 P3 P4) [(.ref t1), (.int 0), (.int 2)] [] (lenOf pd658 rfl) (d31_46 hby) ?_
    intro T54 h56 v57 lo58 fs59 K55 Kp60 q61
    rcases q61 with qq61_0 | qq61_1
    · obtain ⟨r62, rfl, rfl, f63, f64, f65, f66⟩ := qq61_0
      have K67 := K55.to 0 0 []
      refine Owe.stk [(.int r62)] ?_
      exact oRetI K67 [] (t := .int) hret (by simp) rfl (d31_49 hby) (by decide) (by decide) hlk (fun x hx => by cases hx) (Or.inl ⟨r62, rfl, rfl, f63, f64, f65, f66⟩)
    · obtain ⟨rfl, rfl, f68⟩ := qq61_1
      have K69 := K55.to 0 0 []
      refine Owe.stk [(.int c0)] ?_
      exact oRetI K69 [] (t := .int) hret (by simp) rfl (d31_49 hby) (by decide) (by decide) hlk (fun x hx => by cases hx) (Or.inr ⟨rfl, rfl, f68⟩)
theorem rmCPz2_1 (G : Gl Z a0 z0 fm) (t : Addr) (c0 c1 : Int32) (h0 : Heap) (hZh : Ext Z.heap h0) (hsf : Own Z h0 []) (P0 : Ary Z h0 t .byte [(.int (byt (c0 >>> ((0 : Int32) &&& 31)))), (.int (byt (c0 >>> ((8 : Int32) &&& 31)))), (.int (byt (c1 >>> ((0 : Int32) &&& 31)))), (.int (byt (c1 >>> ((8 : Int32) &&& 31))))]) (P1 : ¬ c1 < (0 : Int32)) (P2 : ¬ (65535 : Int32) < c1) :
    Ctr l Z ELs yn616 jdk_52_method_7_code 6 (some .int) [] (rmk 1 0 0 13) #[(.ref t), (.int 1), (.int 2), (.int 0)] [] h0 (fun v h fs => (fs = [] ∧ v = some (.int c1))) := by
  obtain ⟨hw, hEL, wS, OS, hz0, OA, OH, OL, OF, rfm⟩ := id G
  refine Ctr.intro pn41 hEL hZh hsf ?_
  intro p e s m below meth c s₁ hby hml hret hnm hlk hh K0
  refine Owe.cast (ef615 m t ((1 : Int32)) ((2 : Int32)) ((0 : Int32))) ?_
  show Owe _ _ _ _ s₁ (mkF m 0 #[.val (.ref t), .val (.int 1), .val (.int 2), .val (.int 0), .unset, .unset] [])
  refine oGetS K0 3 (wq hw 118) (OA.ext K0.old) (d29_0 hby) ?_
  intro T1 K2
  refine oIfYes K2 19 (d29_3 hby) (XT.i0_ne_t (by decide)) ?_
  refine oIloadN K2 20 (d29_19 hby) rfl ?_
  refine oIfYes K2 28 (d29_20 hby) (XT.i0_eq_t (by decide)) ?_
  refine oAloadN K2 29 (d29_28 hby) rfl rfl ?_
  refine oIloadN K2 30 (d29_29 hby) rfl ?_
  refine oStatic K2 33 0 (wq hw 121) (wq hw 122) (wq hw 53) (wq hw 123) (rmGet2_1 l Z a0 z0 fm G t c0 c1 h0 K2.old K2.both P0 P1 P2) [(.ref t), (.int 1)] [] (lenOf pd179 rfl) (d29_30 hby) ?_
  intro T3 h5 v6 lo7 fs8 K4 Kp9 q10
  obtain ⟨rfl, rfl⟩ := q10
  have K11 := K4.to 0 0 []
  refine Owe.stk [(.int c1)] ?_
  refine oIstore K11 35 (d29_33 hby) (l' := #[.val (.ref t), .val (.int 1), .val (.int 2), .val (.int 0), .val (.int c1), .unset]) rfl ?_
  refine oIload K11 37 (d29_35 hby) rfl ?_
  refine oStatic K11 40 0 (wq hw 132) (wq hw 133) (wq hw 88) (wq hw 134) (rmJH l Z a0 z0 fm G c1 h5 K11.old K11.both ) [(.int c1)] [] (lenOf pd262 rfl) (d29_37 hby) ?_
  intro T12 h14 v15 lo16 fs17 K13 Kp18 q19
  rcases q19 with qq19_0 | qq19_1
  · obtain ⟨rfl, rfl, f20⟩ := qq19_0
    have K21 := K13.to 0 0 []
    refine Owe.stk [(.int 1)] ?_
    refine oIfNo K21 43 (d29_40 hby) (XT.i0_eq_f (by decide)) ?_
    refine oIinc K21 46 (d29_43 hby) rfl (l' := #[.val (.ref t), .val (.int 2), .val (.int 2), .val (.int 0), .val (.int c1), .unset]) rfl ?_
    refine oIloadN K21 47 (d29_46 hby) rfl ?_
    refine oIloadN K21 48 (d29_47 hby) rfl ?_
    refine oIcmpYes K21 83 (d29_48 hby) (XT.ii_ge_t (by decide)) ?_
    refine oIload K21 85 (d29_83 hby) rfl ?_
    exact oRetI K21 [] (t := .int) hret (by simp) rfl (d29_85 hby) (by decide) (by decide) hlk (fun x hx => by cases hx) ⟨rfl, rfl⟩
  · obtain ⟨rfl, rfl, f22⟩ := qq19_1
    have K23 := K13.to 0 0 []
    refine Owe.stk [(.int 0)] ?_
    refine oIfYes K23 83 (d29_40 hby) (XT.i0_eq_t (by decide)) ?_
    refine oIload K23 85 (d29_83 hby) rfl ?_
    exact oRetI K23 [] (t := .int) hret (by simp) rfl (d29_85 hby) (by decide) (by decide) hlk (fun x hx => by cases hx) ⟨rfl, rfl⟩
theorem rmCPu2_1 (G : Gl Z a0 z0 fm) (t : Addr) (c0 c1 : Int32) (h0 : Heap) (hZh : Ext Z.heap h0) (hsf : Own Z h0 []) (P0 : Ary Z h0 t .byte [(.int (byt (c0 >>> ((0 : Int32) &&& 31)))), (.int (byt (c0 >>> ((8 : Int32) &&& 31)))), (.int (byt (c1 >>> ((0 : Int32) &&& 31)))), (.int (byt (c1 >>> ((8 : Int32) &&& 31))))]) (P1 : ¬ c1 < (0 : Int32)) (P2 : ¬ (65535 : Int32) < c1) :
    Ctr l Z ELs yn625 jdk_52_method_8_code 3 (some .int) [] (rmk 2 0 0 30) #[(.ref t), (.int 1), (.int 2)] [] h0 (fun v h fs => (fs = [] ∧ v = some (.int c1))) := by
  obtain ⟨hw, hEL, wS, OS, hz0, OA, OH, OL, OF, rfm⟩ := id G
  refine Ctr.intro pn41 hEL hZh hsf ?_
  intro p e s m below meth c s₁ hby hml hret hnm hlk hh K0
  refine Owe.cast (ef72 m t ((1 : Int32)) ((2 : Int32))) ?_
  show Owe _ _ _ _ s₁ (mkF m 0 #[.val (.ref t), .val (.int 1), .val (.int 2)] [])
  refine oAloadN K0 1 (d30_0 hby) rfl rfl ?_
  refine oIloadN K0 2 (d30_1 hby) rfl ?_
  refine oIloadN K0 3 (d30_2 hby) rfl ?_
  refine oIconstV K0 4 (0 : Int32) (d30_3 hby) rfl ?_
  refine oStatic K0 7 0 (wq hw 129) (wq hw 130) (wq hw 53) (wq hw 131) (rmCPz2_1 l Z a0 z0 fm G t c0 c1 h0 K0.old K0.both P0 P1 P2) [(.ref t), (.int 1), (.int 2), (.int 0)] [] (lenOf pd623 rfl) (d30_4 hby) ?_
  intro T1 h3 v4 lo5 fs6 K2 Kp7 q8
  obtain ⟨rfl, rfl⟩ := q8
  have K9 := K2.to 0 0 []
  refine Owe.stk [(.int c1)] ?_
  exact oRetI K9 [] (t := .int) hret (by simp) rfl (d30_7 hby) (by decide) (by decide) hlk (fun x hx => by cases hx) ⟨rfl, rfl⟩
theorem rmCP2_1 (G : Gl Z a0 z0 fm) (x : Addr) (b : Nat) (c0 c1 : Int32) (h0 : Heap) (hZh : Ext Z.heap h0) (hsf : Own Z h0 []) (P0 : Str Z h0 b x [c0, c1]) (P1 : ¬ c1 < (0 : Int32)) (P2 : ¬ (65535 : Int32) < c1) :
    Ctr l Z ELs yn661 jdk_42_method_57_code 3 (some .int) [] (rmk 3 0 0 44) #[(.ref x), (.int 1)] [] h0 (fun v h fs => (fs = [] ∧ v = some (.int c1))) := by
  obtain ⟨hw, hEL, wS, OS, hz0, OA, OH, OL, OF, rfm⟩ := id G
  refine Ctr.intro pn16 hEL hZh hsf ?_
  intro p e s m below meth c s₁ hby hml hret hnm hlk hh K0
  refine Owe.cast (ef660 m x ((1 : Int32))) ?_
  show Owe _ _ _ _ s₁ (mkF m 0 #[.val (.ref x), .val (.int 1), .unset] [])
  obtain ⟨t1, -, -, f2, f3, ⟨f4, A5, L6⟩ | ⟨f4, A5⟩⟩ := P0
  · have A7 : Ary Z h0 t1 .byte [(.int (byt c0)), (.int (byt c1))] := A5
    obtain ⟨l8, l9, -⟩ := L6
    refine oAloadN K0 1 (d31_0 hby) rfl rfl ?_
    refine oVirtual K0 4 0 (wq hw 72) (wq hw 73) (nfSel (wq hw 75)) (wq hw 75) (wq hw 74) (wq hw 14) (wq hw 76) f2 (rmIsL0 l Z a0 z0 fm G x h0 K0.old K0.both f4) [] [] (lenOf pd629 rfl) (d31_1 hby) ?_
    intro T10 h12 v13 lo14 fs15 K11 Kp16 q17
    obtain ⟨rfl, rfl⟩ := q17
    have K18 := K11.to 0 0 []
    refine Owe.stk [(.int 1)] ?_
    refine oIfNo K18 7 (d31_4 hby) (XT.i0_eq_f (by decide)) ?_
    refine oIloadN K18 8 (d31_7 hby) rfl ?_
    refine oAloadN K18 9 (d31_8 hby) rfl rfl ?_
    refine oGetF K18 12 (wq hw 31) (f3.keep Kp16 nin0) (d31_9 hby) ?_
    intro T19 K20
    refine oLen K20 13 (A7.keep Kp16 nin0) (n := (2 : Int32)) (by first | rfl | decide) (d31_12 hby) ?_
    refine oStatic K20 16 0 (wq hw 77) (wq hw 78) (wq hw 14) (wq hw 79) (rmCkI l Z a0 z0 fm G ((1 : Int32)) ((2 : Int32)) h12 K20.old K20.both (by decide) (by decide)) [(.int 1), (.int 2)] [] (lenOf pd636 rfl) (d31_13 hby) ?_
    intro T21 h23 v24 lo25 fs26 K22 Kp27 q28
    obtain ⟨rfl, rfl⟩ := q28
    have K29 := K22.to 0 0 []
    refine Owe.stk [] ?_
    refine oAloadN K29 17 (d31_16 hby) rfl rfl ?_
    refine oGetF K29 20 (wq hw 31) ((f3.keep Kp16 nin0).keep Kp27 nin0) (d31_17 hby) ?_
    intro T30 K31
    refine oIloadN K31 21 (d31_20 hby) rfl ?_
    refine oBaload K31 22 ((A7.keep Kp16 nin0).keep Kp27 nin0) 1 (by decide) (by decide) rfl (d31_21 hby) ?_
    refine oSipushV K31 25 (255 : Int32) (d31_22 hby) (by decide) ?_
    refine oIand K31 26 (d31_25 hby) ?_
    refine Owe.stk [(.int c1)] ?_ (congrArg (fun z => [Value.int z]) (own_lat P1 l9))
    exact oRetI K31 [] (t := .int) hret (by simp) rfl (d31_26 hby) (by decide) (by decide) hlk (fun x hx => by cases hx) ⟨rfl, rfl⟩
  · have A7 : Ary Z h0 t1 .byte [(.int (byt (c0 >>> ((0 : Int32) &&& 31)))), (.int (byt (c0 >>> ((8 : Int32) &&& 31)))), (.int (byt (c1 >>> ((0 : Int32) &&& 31)))), (.int (byt (c1 >>> ((8 : Int32) &&& 31))))] := A5
    refine oAloadN K0 1 (d31_0 hby) rfl rfl ?_
    refine oVirtual K0 4 0 (wq hw 72) (wq hw 73) (nfSel (wq hw 75)) (wq hw 75) (wq hw 74) (wq hw 14) (wq hw 76) f2 (rmIsL1 l Z a0 z0 fm G x h0 K0.old K0.both f4) [] [] (lenOf pd629 rfl) (d31_1 hby) ?_
    intro T32 h34 v35 lo36 fs37 K33 Kp38 q39
    obtain ⟨rfl, rfl⟩ := q39
    have K40 := K33.to 0 0 []
    refine Owe.stk [(.int 0)] ?_
    refine oIfYes K40 27 (d31_4 hby) (XT.i0_eq_t (by decide)) ?_
    refine oAloadN K40 28 (d31_27 hby) rfl rfl ?_
    refine oGetF K40 31 (wq hw 31) (f3.keep Kp38 nin0) (d31_28 hby) ?_
    intro T41 K42
    refine oLen K42 32 (A7.keep Kp38 nin0) (n := (4 : Int32)) (by first | rfl | decide) (d31_31 hby) ?_
    refine oIconstV K42 33 (1 : Int32) (d31_32 hby) rfl ?_
    refine oIshr K42 34 (d31_33 hby) ?_
    show Owe _ _ _ _ T41 (mkF m 34 #[.val (.ref x), .val (.int 1), .unset] [(.int 2)])
    refine oIstoreN K42 35 (d31_34 hby) (l' := #[.val (.ref x), .val (.int 1), .val (.int 2)]) rfl ?_
    refine oIloadN K42 36 (d31_35 hby) rfl ?_
    refine oIloadN K42 37 (d31_36 hby) rfl ?_
    refine oStatic K42 40 0 (wq hw 77) (wq hw 78) (wq hw 14) (wq hw 79) (rmCkI l Z a0 z0 fm G ((1 : Int32)) ((2 : Int32)) h34 K42.old K42.both (by decide) (by decide)) [(.int 1), (.int 2)] [] (lenOf pd636 rfl) (d31_37 hby) ?_
    intro T43 h45 v46 lo47 fs48 K44 Kp49 q50
    obtain ⟨rfl, rfl⟩ := q50
    have K51 := K44.to 0 0 []
    refine Owe.stk [] ?_
    refine oAloadN K51 41 (d31_40 hby) rfl rfl ?_
    refine oGetF K51 44 (wq hw 31) ((f3.keep Kp38 nin0).keep Kp49 nin0) (d31_41 hby) ?_
    intro T52 K53
    refine oIloadN K53 45 (d31_44 hby) rfl ?_
    refine oIloadN K53 46 (d31_45 hby) rfl ?_
    refine oStatic K53 49 0 (wq hw 126) (wq hw 127) (wq hw 53) (wq hw 128) (rmCPu2_1 l Z a0 z0 fm G t1 c0 c1 h45 K53.old K53.both ((A7.keep Kp38 nin0).keep Kp49 nin0) P1 P2) [(.ref t1), (.int 1), (.int 2)] [] (lenOf pd658 rfl) (d31_46 hby) ?_
    intro T54 h56 v57 lo58 fs59 K55 Kp60 q61
    obtain ⟨rfl, rfl⟩ := q61
    have K62 := K55.to 0 0 []
    refine Owe.stk [(.int c1)] ?_
    exact oRetI K62 [] (t := .int) hret (by simp) rfl (d31_49 hby) (by decide) (by decide) hlk (fun x hx => by cases hx) ⟨rfl, rfl⟩
theorem rmCPz3_0 (G : Gl Z a0 z0 fm) (t : Addr) (c0 c1 c2 : Int32) (h0 : Heap) (hZh : Ext Z.heap h0) (hsf : Own Z h0 []) (P0 : Ary Z h0 t .byte [(.int (byt (c0 >>> ((0 : Int32) &&& 31)))), (.int (byt (c0 >>> ((8 : Int32) &&& 31)))), (.int (byt (c1 >>> ((0 : Int32) &&& 31)))), (.int (byt (c1 >>> ((8 : Int32) &&& 31)))), (.int (byt (c2 >>> ((0 : Int32) &&& 31)))), (.int (byt (c2 >>> ((8 : Int32) &&& 31))))]) (P1 : ¬ c0 < (0 : Int32)) (P2 : ¬ (65535 : Int32) < c0) (P3 : ¬ c1 < (0 : Int32)) (P4 : ¬ (65535 : Int32) < c1) :
    Ctr l Z ELs yn616 jdk_52_method_7_code 6 (some .int) [] (rmk 1 0 0 13) #[(.ref t), (.int 0), (.int 3), (.int 0)] [] h0 (fun v h fs => (∃ r : Int32, fs = [] ∧ v = some (.int r) ∧ hiI c0 ∧ loI c1 ∧ ¬ r < (65536 : Int32) ∧ (57343 : Int32) < r) ∨ (fs = [] ∧ v = some (.int c0) ∧ ¬ (hiI c0 ∧ loI c1))) := by
  obtain ⟨hw, hEL, wS, OS, hz0, OA, OH, OL, OF, rfm⟩ := id G
  refine Ctr.intro pn41 hEL hZh hsf ?_
  intro p e s m below meth c s₁ hby hml hret hnm hlk hh K0
  refine Owe.cast (ef615 m t ((0 : Int32)) ((3 : Int32)) ((0 : Int32))) ?_
  show Owe _ _ _ _ s₁ (mkF m 0 #[.val (.ref t), .val (.int 0), .val (.int 3), .val (.int 0), .unset, .unset] [])
  refine oGetS K0 3 (wq hw 118) (OA.ext K0.old) (d29_0 hby) ?_
  intro T1 K2
  refine oIfYes K2 19 (d29_3 hby) (XT.i0_ne_t (by decide)) ?_
  refine oIloadN K2 20 (d29_19 hby) rfl ?_
  refine oIfYes K2 28 (d29_20 hby) (XT.i0_eq_t (by decide)) ?_
  refine oAloadN K2 29 (d29_28 hby) rfl rfl ?_
  refine oIloadN K2 30 (d29_29 hby) rfl ?_
  refine oStatic K2 33 0 (wq hw 121) (wq hw 122) (wq hw 53) (wq hw 123) (rmGet3_0 l Z a0 z0 fm G t c0 c1 c2 h0 K2.old K2.both P0 P1 P2) [(.ref t), (.int 0)] [] (lenOf pd179 rfl) (d29_30 hby) ?_
  intro T3 h5 v6 lo7 fs8 K4 Kp9 q10
  obtain ⟨rfl, rfl⟩ := q10
  have K11 := K4.to 0 0 []
  refine Owe.stk [(.int c0)] ?_
  refine oIstore K11 35 (d29_33 hby) (l' := #[.val (.ref t), .val (.int 0), .val (.int 3), .val (.int 0), .val (.int c0), .unset]) rfl ?_
  refine oIload K11 37 (d29_35 hby) rfl ?_
  refine oStatic K11 40 0 (wq hw 132) (wq hw 133) (wq hw 88) (wq hw 134) (rmJH l Z a0 z0 fm G c0 h5 K11.old K11.both ) [(.int c0)] [] (lenOf pd262 rfl) (d29_37 hby) ?_
  intro T12 h14 v15 lo16 fs17 K13 Kp18 q19
  rcases q19 with qq19_0 | qq19_1
  · obtain ⟨rfl, rfl, f20⟩ := qq19_0
    have K21 := K13.to 0 0 []
    refine Owe.stk [(.int 1)] ?_
    refine oIfNo K21 43 (d29_40 hby) (XT.i0_eq_f (by decide)) ?_
    refine oIinc K21 46 (d29_43 hby) rfl (l' := #[.val (.ref t), .val (.int 1), .val (.int 3), .val (.int 0), .val (.int c0), .unset]) rfl ?_
    refine oIloadN K21 47 (d29_46 hby) rfl ?_
    refine oIloadN K21 48 (d29_47 hby) rfl ?_
    refine oIcmpNo K21 51 (d29_48 hby) (XT.ii_ge_f (by decide)) ?_
    refine oIloadN K21 52 (d29_51 hby) rfl ?_
    refine oIfYes K21 60 (d29_52 hby) (XT.i0_eq_t (by decide)) ?_
    refine oAloadN K21 61 (d29_60 hby) rfl rfl ?_
    refine oIloadN K21 62 (d29_61 hby) rfl ?_
    refine oStatic K21 65 0 (wq hw 121) (wq hw 122) (wq hw 53) (wq hw 123) (rmGet3_1 l Z a0 z0 fm G t c0 c1 c2 h14 K21.old K21.both ((P0.keep Kp9 nin0).keep Kp18 nin0) P3 P4) [(.ref t), (.int 1)] [] (lenOf pd179 rfl) (d29_62 hby) ?_
    intro T22 h24 v25 lo26 fs27 K23 Kp28 q29
    obtain ⟨rfl, rfl⟩ := q29
    have K30 := K23.to 0 0 []
    refine Owe.stk [(.int c1)] ?_
    refine oIstore K30 67 (d29_65 hby) (l' := #[.val (.ref t), .val (.int 1), .val (.int 3), .val (.int 0), .val (.int c0), .val (.int c1)]) rfl ?_
    refine oIload K30 69 (d29_67 hby) rfl ?_
    refine oStatic K30 72 0 (wq hw 138) (wq hw 139) (wq hw 88) (wq hw 140) (rmJL l Z a0 z0 fm G c1 h24 K30.old K30.both ) [(.int c1)] [] (lenOf pd262 rfl) (d29_69 hby) ?_
    intro T31 h33 v34 lo35 fs36 K32 Kp37 q38
    rcases q38 with qq38_0 | qq38_1
    · obtain ⟨rfl, rfl, f39⟩ := qq38_0
      have K40 := K32.to 0 0 []
      refine Owe.stk [(.int 1)] ?_
      refine oIfNo K40 75 (d29_72 hby) (XT.i0_eq_f (by decide)) ?_
      refine oIload K40 77 (d29_75 hby) rfl ?_
      refine oIload K40 79 (d29_77 hby) rfl ?_
      refine oStatic K40 82 0 (wq hw 145) (wq hw 146) (wq hw 88) (wq hw 147) (rmTCP l Z a0 z0 fm G c0 c1 h33 K40.old K40.both ) [(.int c0), (.int c1)] [] (lenOf pd674 rfl) (d29_79 hby) ?_
      intro T41 h43 v44 lo45 fs46 K42 Kp47 q48
      obtain ⟨rfl, rfl⟩ := q48
      have K49 := K42.to 0 0 []
      refine Owe.stk [(.int (((c0 <<< ((10 : Int32) &&& 31)) + c1) + (-56613888 : Int32)))] ?_
      exact oRetI K49 [] (t := .int) hret (by simp) rfl (d29_82 hby) (by decide) (by decide) hlk (fun x hx => by cases hx) (Or.inl ⟨(((c0 <<< ((10 : Int32) &&& 31)) + c1) + (-56613888 : Int32)), rfl, rfl, f20, f39, (own_pair f20 f39).1, (own_pair f20 f39).2⟩)
    · obtain ⟨rfl, rfl, f50⟩ := qq38_1
      have K51 := K32.to 0 0 []
      refine Owe.stk [(.int 0)] ?_
      refine oIfYes K51 83 (d29_72 hby) (XT.i0_eq_t (by decide)) ?_
      refine oIload K51 85 (d29_83 hby) rfl ?_
      exact oRetI K51 [] (t := .int) hret (by simp) rfl (d29_85 hby) (by decide) (by decide) hlk (fun x hx => by cases hx) (Or.inr ⟨rfl, rfl, (by simp only [hiI, loI, Int32.lt_iff_toInt_lt, Int32.reduceToInt] at P1 P2 P3 P4 f20 f50 ⊢; omega)⟩)
  · obtain ⟨rfl, rfl, f52⟩ := qq19_1
    have K53 := K13.to 0 0 []
    refine Owe.stk [(.int 0)] ?_
    refine oIfYes K53 83 (d29_40 hby) (XT.i0_eq_t (by decide)) ?_
    refine oIload K53 85 (d29_83 hby) rfl ?_
    exact oRetI K53 [] (t := .int) hret (by simp) rfl (d29_85 hby) (by decide) (by decide) hlk (fun x hx => by cases hx) (Or.inr ⟨rfl, rfl, (by simp only [hiI, loI, Int32.lt_iff_toInt_lt, Int32.reduceToInt] at P1 P2 P3 P4 f52 ⊢; omega)⟩)
theorem rmCPu3_0 (G : Gl Z a0 z0 fm) (t : Addr) (c0 c1 c2 : Int32) (h0 : Heap) (hZh : Ext Z.heap h0) (hsf : Own Z h0 []) (P0 : Ary Z h0 t .byte [(.int (byt (c0 >>> ((0 : Int32) &&& 31)))), (.int (byt (c0 >>> ((8 : Int32) &&& 31)))), (.int (byt (c1 >>> ((0 : Int32) &&& 31)))), (.int (byt (c1 >>> ((8 : Int32) &&& 31)))), (.int (byt (c2 >>> ((0 : Int32) &&& 31)))), (.int (byt (c2 >>> ((8 : Int32) &&& 31))))]) (P1 : ¬ c0 < (0 : Int32)) (P2 : ¬ (65535 : Int32) < c0) (P3 : ¬ c1 < (0 : Int32)) (P4 : ¬ (65535 : Int32) < c1) :
    Ctr l Z ELs yn625 jdk_52_method_8_code 3 (some .int) [] (rmk 2 0 0 30) #[(.ref t), (.int 0), (.int 3)] [] h0 (fun v h fs => (∃ r : Int32, fs = [] ∧ v = some (.int r) ∧ hiI c0 ∧ loI c1 ∧ ¬ r < (65536 : Int32) ∧ (57343 : Int32) < r) ∨ (fs = [] ∧ v = some (.int c0) ∧ ¬ (hiI c0 ∧ loI c1))) := by
  obtain ⟨hw, hEL, wS, OS, hz0, OA, OH, OL, OF, rfm⟩ := id G
  refine Ctr.intro pn41 hEL hZh hsf ?_
  intro p e s m below meth c s₁ hby hml hret hnm hlk hh K0
  refine Owe.cast (ef72 m t ((0 : Int32)) ((3 : Int32))) ?_
  show Owe _ _ _ _ s₁ (mkF m 0 #[.val (.ref t), .val (.int 0), .val (.int 3)] [])
  refine oAloadN K0 1 (d30_0 hby) rfl rfl ?_
  refine oIloadN K0 2 (d30_1 hby) rfl ?_
  refine oIloadN K0 3 (d30_2 hby) rfl ?_
  refine oIconstV K0 4 (0 : Int32) (d30_3 hby) rfl ?_
  refine oStatic K0 7 0 (wq hw 129) (wq hw 130) (wq hw 53) (wq hw 131) (rmCPz3_0 l Z a0 z0 fm G t c0 c1 c2 h0 K0.old K0.both P0 P1 P2 P3 P4) [(.ref t), (.int 0), (.int 3), (.int 0)] [] (lenOf pd623 rfl) (d30_4 hby) ?_
  intro T1 h3 v4 lo5 fs6 K2 Kp7 q8
  rcases q8 with qq8_0 | qq8_1
  · obtain ⟨r9, rfl, rfl, f10, f11, f12, f13⟩ := qq8_0
    have K14 := K2.to 0 0 []
    refine Owe.stk [(.int r9)] ?_
    exact oRetI K14 [] (t := .int) hret (by simp) rfl (d30_7 hby) (by decide) (by decide) hlk (fun x hx => by cases hx) (Or.inl ⟨r9, rfl, rfl, f10, f11, f12, f13⟩)
  · obtain ⟨rfl, rfl, f15⟩ := qq8_1
    have K16 := K2.to 0 0 []
    refine Owe.stk [(.int c0)] ?_
    exact oRetI K16 [] (t := .int) hret (by simp) rfl (d30_7 hby) (by decide) (by decide) hlk (fun x hx => by cases hx) (Or.inr ⟨rfl, rfl, f15⟩)
theorem rmCP3_0 (G : Gl Z a0 z0 fm) (x : Addr) (b : Nat) (c0 c1 c2 : Int32) (h0 : Heap) (hZh : Ext Z.heap h0) (hsf : Own Z h0 []) (P0 : Str Z h0 b x [c0, c1, c2]) (P1 : ¬ c0 < (0 : Int32)) (P2 : ¬ (65535 : Int32) < c0) (P3 : ¬ c1 < (0 : Int32)) (P4 : ¬ (65535 : Int32) < c1) :
    Ctr l Z ELs yn661 jdk_42_method_57_code 3 (some .int) [] (rmk 3 0 0 44) #[(.ref x), (.int 0)] [] h0 (fun v h fs => (∃ r : Int32, fs = [] ∧ v = some (.int r) ∧ hiI c0 ∧ loI c1 ∧ ¬ r < (65536 : Int32) ∧ (57343 : Int32) < r) ∨ (fs = [] ∧ v = some (.int c0) ∧ ¬ (hiI c0 ∧ loI c1))) := by
  obtain ⟨hw, hEL, wS, OS, hz0, OA, OH, OL, OF, rfm⟩ := id G
  refine Ctr.intro pn16 hEL hZh hsf ?_
  intro p e s m below meth c s₁ hby hml hret hnm hlk hh K0
  refine Owe.cast (ef660 m x ((0 : Int32))) ?_
  show Owe _ _ _ _ s₁ (mkF m 0 #[.val (.ref x), .val (.int 0), .unset] [])
  obtain ⟨t1, -, -, f2, f3, ⟨f4, A5, L6⟩ | ⟨f4, A5⟩⟩ := P0
  · have A7 : Ary Z h0 t1 .byte [(.int (byt c0)), (.int (byt c1)), (.int (byt c2))] := A5
    obtain ⟨l8, l9, l10, -⟩ := L6
    refine oAloadN K0 1 (d31_0 hby) rfl rfl ?_
    refine oVirtual K0 4 0 (wq hw 72) (wq hw 73) (nfSel (wq hw 75)) (wq hw 75) (wq hw 74) (wq hw 14) (wq hw 76) f2 (rmIsL0 l Z a0 z0 fm G x h0 K0.old K0.both f4) [] [] (lenOf pd629 rfl) (d31_1 hby) ?_
    intro T11 h13 v14 lo15 fs16 K12 Kp17 q18
    obtain ⟨rfl, rfl⟩ := q18
    have K19 := K12.to 0 0 []
    refine Owe.stk [(.int 1)] ?_
    refine oIfNo K19 7 (d31_4 hby) (XT.i0_eq_f (by decide)) ?_
    refine oIloadN K19 8 (d31_7 hby) rfl ?_
    refine oAloadN K19 9 (d31_8 hby) rfl rfl ?_
    refine oGetF K19 12 (wq hw 31) (f3.keep Kp17 nin0) (d31_9 hby) ?_
    intro T20 K21
    refine oLen K21 13 (A7.keep Kp17 nin0) (n := (3 : Int32)) (by first | rfl | decide) (d31_12 hby) ?_
    refine oStatic K21 16 0 (wq hw 77) (wq hw 78) (wq hw 14) (wq hw 79) (rmCkI l Z a0 z0 fm G ((0 : Int32)) ((3 : Int32)) h13 K21.old K21.both (by decide) (by decide)) [(.int 0), (.int 3)] [] (lenOf pd636 rfl) (d31_13 hby) ?_
    intro T22 h24 v25 lo26 fs27 K23 Kp28 q29
    obtain ⟨rfl, rfl⟩ := q29
    have K30 := K23.to 0 0 []
    refine Owe.stk [] ?_
    refine oAloadN K30 17 (d31_16 hby) rfl rfl ?_
    refine oGetF K30 20 (wq hw 31) ((f3.keep Kp17 nin0).keep Kp28 nin0) (d31_17 hby) ?_
    intro T31 K32
    refine oIloadN K32 21 (d31_20 hby) rfl ?_
    refine oBaload K32 22 ((A7.keep Kp17 nin0).keep Kp28 nin0) 0 (by decide) (by decide) rfl (d31_21 hby) ?_
    refine oSipushV K32 25 (255 : Int32) (d31_22 hby) (by decide) ?_
    refine oIand K32 26 (d31_25 hby) ?_
    refine Owe.stk [(.int c0)] ?_ (congrArg (fun z => [Value.int z]) (own_lat P1 l8))
    exact oRetI K32 [] (t := .int) hret (by simp) rfl (d31_26 hby) (by decide) (by decide) hlk (fun x hx => by cases hx) (Or.inr ⟨rfl, rfl, (by simp only [hiI, loI, Int32.lt_iff_toInt_lt, Int32.reduceToInt] at P1 P2 P3 P4 l8 l9 ⊢; omega)⟩)
  · have A7 : Ary Z h0 t1 .byte [(.int (byt (c0 >>> ((0 : Int32) &&& 31)))), (.int (byt (c0 >>> ((8 : Int32) &&& 31)))), (.int (byt (c1 >>> ((0 : Int32) &&& 31)))), (.int (byt (c1 >>> ((8 : Int32) &&& 31)))), (.int (byt (c2 >>> ((0 : Int32) &&& 31)))), (.int (byt (c2 >>> ((8 : Int32) &&& 31))))] := A5
    refine oAloadN K0 1 (d31_0 hby) rfl rfl ?_
    refine oVirtual K0 4 0 (wq hw 72) (wq hw 73) (nfSel (wq hw 75)) (wq hw 75) (wq hw 74) (wq hw 14) (wq hw 76) f2 (rmIsL1 l Z a0 z0 fm G x h0 K0.old K0.both f4) [] [] (lenOf pd629 rfl) (d31_1 hby) ?_
    intro T33 h35 v36 lo37 fs38 K34 Kp39 q40
    obtain ⟨rfl, rfl⟩ := q40
    have K41 := K34.to 0 0 []
    refine Owe.stk [(.int 0)] ?_
    refine oIfYes K41 27 (d31_4 hby) (XT.i0_eq_t (by decide)) ?_
    refine oAloadN K41 28 (d31_27 hby) rfl rfl ?_
    refine oGetF K41 31 (wq hw 31) (f3.keep Kp39 nin0) (d31_28 hby) ?_
    intro T42 K43
    refine oLen K43 32 (A7.keep Kp39 nin0) (n := (6 : Int32)) (by first | rfl | decide) (d31_31 hby) ?_
    refine oIconstV K43 33 (1 : Int32) (d31_32 hby) rfl ?_
    refine oIshr K43 34 (d31_33 hby) ?_
    show Owe _ _ _ _ T42 (mkF m 34 #[.val (.ref x), .val (.int 0), .unset] [(.int 3)])
    refine oIstoreN K43 35 (d31_34 hby) (l' := #[.val (.ref x), .val (.int 0), .val (.int 3)]) rfl ?_
    refine oIloadN K43 36 (d31_35 hby) rfl ?_
    refine oIloadN K43 37 (d31_36 hby) rfl ?_
    refine oStatic K43 40 0 (wq hw 77) (wq hw 78) (wq hw 14) (wq hw 79) (rmCkI l Z a0 z0 fm G ((0 : Int32)) ((3 : Int32)) h35 K43.old K43.both (by decide) (by decide)) [(.int 0), (.int 3)] [] (lenOf pd636 rfl) (d31_37 hby) ?_
    intro T44 h46 v47 lo48 fs49 K45 Kp50 q51
    obtain ⟨rfl, rfl⟩ := q51
    have K52 := K45.to 0 0 []
    refine Owe.stk [] ?_
    refine oAloadN K52 41 (d31_40 hby) rfl rfl ?_
    refine oGetF K52 44 (wq hw 31) ((f3.keep Kp39 nin0).keep Kp50 nin0) (d31_41 hby) ?_
    intro T53 K54
    refine oIloadN K54 45 (d31_44 hby) rfl ?_
    refine oIloadN K54 46 (d31_45 hby) rfl ?_
    refine oStatic K54 49 0 (wq hw 126) (wq hw 127) (wq hw 53) (wq hw 128) (rmCPu3_0 l Z a0 z0 fm G t1 c0 c1 c2 h46 K54.old K54.both ((A7.keep Kp39 nin0).keep Kp50 nin0) P1 P2 P3 P4) [(.ref t1), (.int 0), (.int 3)] [] (lenOf pd658 rfl) (d31_46 hby) ?_
    intro T55 h57 v58 lo59 fs60 K56 Kp61 q62
    rcases q62 with qq62_0 | qq62_1
    · obtain ⟨r63, rfl, rfl, f64, f65, f66, f67⟩ := qq62_0
      have K68 := K56.to 0 0 []
      refine Owe.stk [(.int r63)] ?_
      exact oRetI K68 [] (t := .int) hret (by simp) rfl (d31_49 hby) (by decide) (by decide) hlk (fun x hx => by cases hx) (Or.inl ⟨r63, rfl, rfl, f64, f65, f66, f67⟩)
    · obtain ⟨rfl, rfl, f69⟩ := qq62_1
      have K70 := K56.to 0 0 []
      refine Owe.stk [(.int c0)] ?_
      exact oRetI K70 [] (t := .int) hret (by simp) rfl (d31_49 hby) (by decide) (by decide) hlk (fun x hx => by cases hx) (Or.inr ⟨rfl, rfl, f69⟩)
theorem rmCPz3_1 (G : Gl Z a0 z0 fm) (t : Addr) (c0 c1 c2 : Int32) (h0 : Heap) (hZh : Ext Z.heap h0) (hsf : Own Z h0 []) (P0 : Ary Z h0 t .byte [(.int (byt (c0 >>> ((0 : Int32) &&& 31)))), (.int (byt (c0 >>> ((8 : Int32) &&& 31)))), (.int (byt (c1 >>> ((0 : Int32) &&& 31)))), (.int (byt (c1 >>> ((8 : Int32) &&& 31)))), (.int (byt (c2 >>> ((0 : Int32) &&& 31)))), (.int (byt (c2 >>> ((8 : Int32) &&& 31))))]) (P1 : ¬ c1 < (0 : Int32)) (P2 : ¬ (65535 : Int32) < c1) (P3 : ¬ c2 < (0 : Int32)) (P4 : ¬ (65535 : Int32) < c2) :
    Ctr l Z ELs yn616 jdk_52_method_7_code 6 (some .int) [] (rmk 1 0 0 13) #[(.ref t), (.int 1), (.int 3), (.int 0)] [] h0 (fun v h fs => (∃ r : Int32, fs = [] ∧ v = some (.int r) ∧ hiI c1 ∧ loI c2 ∧ ¬ r < (65536 : Int32) ∧ (57343 : Int32) < r) ∨ (fs = [] ∧ v = some (.int c1) ∧ ¬ (hiI c1 ∧ loI c2))) := by
  obtain ⟨hw, hEL, wS, OS, hz0, OA, OH, OL, OF, rfm⟩ := id G
  refine Ctr.intro pn41 hEL hZh hsf ?_
  intro p e s m below meth c s₁ hby hml hret hnm hlk hh K0
  refine Owe.cast (ef615 m t ((1 : Int32)) ((3 : Int32)) ((0 : Int32))) ?_
  show Owe _ _ _ _ s₁ (mkF m 0 #[.val (.ref t), .val (.int 1), .val (.int 3), .val (.int 0), .unset, .unset] [])
  refine oGetS K0 3 (wq hw 118) (OA.ext K0.old) (d29_0 hby) ?_
  intro T1 K2
  refine oIfYes K2 19 (d29_3 hby) (XT.i0_ne_t (by decide)) ?_
  refine oIloadN K2 20 (d29_19 hby) rfl ?_
  refine oIfYes K2 28 (d29_20 hby) (XT.i0_eq_t (by decide)) ?_
  refine oAloadN K2 29 (d29_28 hby) rfl rfl ?_
  refine oIloadN K2 30 (d29_29 hby) rfl ?_
  refine oStatic K2 33 0 (wq hw 121) (wq hw 122) (wq hw 53) (wq hw 123) (rmGet3_1 l Z a0 z0 fm G t c0 c1 c2 h0 K2.old K2.both P0 P1 P2) [(.ref t), (.int 1)] [] (lenOf pd179 rfl) (d29_30 hby) ?_
  intro T3 h5 v6 lo7 fs8 K4 Kp9 q10
  obtain ⟨rfl, rfl⟩ := q10
  have K11 := K4.to 0 0 []
  refine Owe.stk [(.int c1)] ?_
  refine oIstore K11 35 (d29_33 hby) (l' := #[.val (.ref t), .val (.int 1), .val (.int 3), .val (.int 0), .val (.int c1), .unset]) rfl ?_
  refine oIload K11 37 (d29_35 hby) rfl ?_
  refine oStatic K11 40 0 (wq hw 132) (wq hw 133) (wq hw 88) (wq hw 134) (rmJH l Z a0 z0 fm G c1 h5 K11.old K11.both ) [(.int c1)] [] (lenOf pd262 rfl) (d29_37 hby) ?_
  intro T12 h14 v15 lo16 fs17 K13 Kp18 q19
  rcases q19 with qq19_0 | qq19_1
  · obtain ⟨rfl, rfl, f20⟩ := qq19_0
    have K21 := K13.to 0 0 []
    refine Owe.stk [(.int 1)] ?_
    refine oIfNo K21 43 (d29_40 hby) (XT.i0_eq_f (by decide)) ?_
    refine oIinc K21 46 (d29_43 hby) rfl (l' := #[.val (.ref t), .val (.int 2), .val (.int 3), .val (.int 0), .val (.int c1), .unset]) rfl ?_
    refine oIloadN K21 47 (d29_46 hby) rfl ?_
    refine oIloadN K21 48 (d29_47 hby) rfl ?_
    refine oIcmpNo K21 51 (d29_48 hby) (XT.ii_ge_f (by decide)) ?_
    refine oIloadN K21 52 (d29_51 hby) rfl ?_
    refine oIfYes K21 60 (d29_52 hby) (XT.i0_eq_t (by decide)) ?_
    refine oAloadN K21 61 (d29_60 hby) rfl rfl ?_
    refine oIloadN K21 62 (d29_61 hby) rfl ?_
    refine oStatic K21 65 0 (wq hw 121) (wq hw 122) (wq hw 53) (wq hw 123) (rmGet3_2 l Z a0 z0 fm G t c0 c1 c2 h14 K21.old K21.both ((P0.keep Kp9 nin0).keep Kp18 nin0) P3 P4) [(.ref t), (.int 2)] [] (lenOf pd179 rfl) (d29_62 hby) ?_
    intro T22 h24 v25 lo26 fs27 K23 Kp28 q29
    obtain ⟨rfl, rfl⟩ := q29
    have K30 := K23.to 0 0 []
    refine Owe.stk [(.int c2)] ?_
    refine oIstore K30 67 (d29_65 hby) (l' := #[.val (.ref t), .val (.int 2), .val (.int 3), .val (.int 0), .val (.int c1), .val (.int c2)]) rfl ?_
    refine oIload K30 69 (d29_67 hby) rfl ?_
    refine oStatic K30 72 0 (wq hw 138) (wq hw 139) (wq hw 88) (wq hw 140) (rmJL l Z a0 z0 fm G c2 h24 K30.old K30.both ) [(.int c2)] [] (lenOf pd262 rfl) (d29_69 hby) ?_
    intro T31 h33 v34 lo35 fs36 K32 Kp37 q38
    rcases q38 with qq38_0 | qq38_1
    · obtain ⟨rfl, rfl, f39⟩ := qq38_0
      have K40 := K32.to 0 0 []
      refine Owe.stk [(.int 1)] ?_
      refine oIfNo K40 75 (d29_72 hby) (XT.i0_eq_f (by decide)) ?_
      refine oIload K40 77 (d29_75 hby) rfl ?_
      refine oIload K40 79 (d29_77 hby) rfl ?_
      refine oStatic K40 82 0 (wq hw 145) (wq hw 146) (wq hw 88) (wq hw 147) (rmTCP l Z a0 z0 fm G c1 c2 h33 K40.old K40.both ) [(.int c1), (.int c2)] [] (lenOf pd674 rfl) (d29_79 hby) ?_
      intro T41 h43 v44 lo45 fs46 K42 Kp47 q48
      obtain ⟨rfl, rfl⟩ := q48
      have K49 := K42.to 0 0 []
      refine Owe.stk [(.int (((c1 <<< ((10 : Int32) &&& 31)) + c2) + (-56613888 : Int32)))] ?_
      exact oRetI K49 [] (t := .int) hret (by simp) rfl (d29_82 hby) (by decide) (by decide) hlk (fun x hx => by cases hx) (Or.inl ⟨(((c1 <<< ((10 : Int32) &&& 31)) + c2) + (-56613888 : Int32)), rfl, rfl, f20, f39, (own_pair f20 f39).1, (own_pair f20 f39).2⟩)
    · obtain ⟨rfl, rfl, f50⟩ := qq38_1
      have K51 := K32.to 0 0 []
      refine Owe.stk [(.int 0)] ?_
      refine oIfYes K51 83 (d29_72 hby) (XT.i0_eq_t (by decide)) ?_
      refine oIload K51 85 (d29_83 hby) rfl ?_
      exact oRetI K51 [] (t := .int) hret (by simp) rfl (d29_85 hby) (by decide) (by decide) hlk (fun x hx => by cases hx) (Or.inr ⟨rfl, rfl, (by simp only [hiI, loI, Int32.lt_iff_toInt_lt, Int32.reduceToInt] at P1 P2 P3 P4 f20 f50 ⊢; omega)⟩)
  · obtain ⟨rfl, rfl, f52⟩ := qq19_1
    have K53 := K13.to 0 0 []
    refine Owe.stk [(.int 0)] ?_
    refine oIfYes K53 83 (d29_40 hby) (XT.i0_eq_t (by decide)) ?_
    refine oIload K53 85 (d29_83 hby) rfl ?_
    exact oRetI K53 [] (t := .int) hret (by simp) rfl (d29_85 hby) (by decide) (by decide) hlk (fun x hx => by cases hx) (Or.inr ⟨rfl, rfl, (by simp only [hiI, loI, Int32.lt_iff_toInt_lt, Int32.reduceToInt] at P1 P2 P3 P4 f52 ⊢; omega)⟩)
theorem rmCPu3_1 (G : Gl Z a0 z0 fm) (t : Addr) (c0 c1 c2 : Int32) (h0 : Heap) (hZh : Ext Z.heap h0) (hsf : Own Z h0 []) (P0 : Ary Z h0 t .byte [(.int (byt (c0 >>> ((0 : Int32) &&& 31)))), (.int (byt (c0 >>> ((8 : Int32) &&& 31)))), (.int (byt (c1 >>> ((0 : Int32) &&& 31)))), (.int (byt (c1 >>> ((8 : Int32) &&& 31)))), (.int (byt (c2 >>> ((0 : Int32) &&& 31)))), (.int (byt (c2 >>> ((8 : Int32) &&& 31))))]) (P1 : ¬ c1 < (0 : Int32)) (P2 : ¬ (65535 : Int32) < c1) (P3 : ¬ c2 < (0 : Int32)) (P4 : ¬ (65535 : Int32) < c2) :
    Ctr l Z ELs yn625 jdk_52_method_8_code 3 (some .int) [] (rmk 2 0 0 30) #[(.ref t), (.int 1), (.int 3)] [] h0 (fun v h fs => (∃ r : Int32, fs = [] ∧ v = some (.int r) ∧ hiI c1 ∧ loI c2 ∧ ¬ r < (65536 : Int32) ∧ (57343 : Int32) < r) ∨ (fs = [] ∧ v = some (.int c1) ∧ ¬ (hiI c1 ∧ loI c2))) := by
  obtain ⟨hw, hEL, wS, OS, hz0, OA, OH, OL, OF, rfm⟩ := id G
  refine Ctr.intro pn41 hEL hZh hsf ?_
  intro p e s m below meth c s₁ hby hml hret hnm hlk hh K0
  refine Owe.cast (ef72 m t ((1 : Int32)) ((3 : Int32))) ?_
  show Owe _ _ _ _ s₁ (mkF m 0 #[.val (.ref t), .val (.int 1), .val (.int 3)] [])
  refine oAloadN K0 1 (d30_0 hby) rfl rfl ?_
  refine oIloadN K0 2 (d30_1 hby) rfl ?_
  refine oIloadN K0 3 (d30_2 hby) rfl ?_
  refine oIconstV K0 4 (0 : Int32) (d30_3 hby) rfl ?_
  refine oStatic K0 7 0 (wq hw 129) (wq hw 130) (wq hw 53) (wq hw 131) (rmCPz3_1 l Z a0 z0 fm G t c0 c1 c2 h0 K0.old K0.both P0 P1 P2 P3 P4) [(.ref t), (.int 1), (.int 3), (.int 0)] [] (lenOf pd623 rfl) (d30_4 hby) ?_
  intro T1 h3 v4 lo5 fs6 K2 Kp7 q8
  rcases q8 with qq8_0 | qq8_1
  · obtain ⟨r9, rfl, rfl, f10, f11, f12, f13⟩ := qq8_0
    have K14 := K2.to 0 0 []
    refine Owe.stk [(.int r9)] ?_
    exact oRetI K14 [] (t := .int) hret (by simp) rfl (d30_7 hby) (by decide) (by decide) hlk (fun x hx => by cases hx) (Or.inl ⟨r9, rfl, rfl, f10, f11, f12, f13⟩)
  · obtain ⟨rfl, rfl, f15⟩ := qq8_1
    have K16 := K2.to 0 0 []
    refine Owe.stk [(.int c1)] ?_
    exact oRetI K16 [] (t := .int) hret (by simp) rfl (d30_7 hby) (by decide) (by decide) hlk (fun x hx => by cases hx) (Or.inr ⟨rfl, rfl, f15⟩)
theorem rmCP3_1 (G : Gl Z a0 z0 fm) (x : Addr) (b : Nat) (c0 c1 c2 : Int32) (h0 : Heap) (hZh : Ext Z.heap h0) (hsf : Own Z h0 []) (P0 : Str Z h0 b x [c0, c1, c2]) (P1 : ¬ c1 < (0 : Int32)) (P2 : ¬ (65535 : Int32) < c1) (P3 : ¬ c2 < (0 : Int32)) (P4 : ¬ (65535 : Int32) < c2) :
    Ctr l Z ELs yn661 jdk_42_method_57_code 3 (some .int) [] (rmk 3 0 0 44) #[(.ref x), (.int 1)] [] h0 (fun v h fs => (∃ r : Int32, fs = [] ∧ v = some (.int r) ∧ hiI c1 ∧ loI c2 ∧ ¬ r < (65536 : Int32) ∧ (57343 : Int32) < r) ∨ (fs = [] ∧ v = some (.int c1) ∧ ¬ (hiI c1 ∧ loI c2))) := by
  obtain ⟨hw, hEL, wS, OS, hz0, OA, OH, OL, OF, rfm⟩ := id G
  refine Ctr.intro pn16 hEL hZh hsf ?_
  intro p e s m below meth c s₁ hby hml hret hnm hlk hh K0
  refine Owe.cast (ef660 m x ((1 : Int32))) ?_
  show Owe _ _ _ _ s₁ (mkF m 0 #[.val (.ref x), .val (.int 1), .unset] [])
  obtain ⟨t1, -, -, f2, f3, ⟨f4, A5, L6⟩ | ⟨f4, A5⟩⟩ := P0
  · have A7 : Ary Z h0 t1 .byte [(.int (byt c0)), (.int (byt c1)), (.int (byt c2))] := A5
    obtain ⟨l8, l9, l10, -⟩ := L6
    refine oAloadN K0 1 (d31_0 hby) rfl rfl ?_
    refine oVirtual K0 4 0 (wq hw 72) (wq hw 73) (nfSel (wq hw 75)) (wq hw 75) (wq hw 74) (wq hw 14) (wq hw 76) f2 (rmIsL0 l Z a0 z0 fm G x h0 K0.old K0.both f4) [] [] (lenOf pd629 rfl) (d31_1 hby) ?_
    intro T11 h13 v14 lo15 fs16 K12 Kp17 q18
    obtain ⟨rfl, rfl⟩ := q18
    have K19 := K12.to 0 0 []
    refine Owe.stk [(.int 1)] ?_
    refine oIfNo K19 7 (d31_4 hby) (XT.i0_eq_f (by decide)) ?_
    refine oIloadN K19 8 (d31_7 hby) rfl ?_
    refine oAloadN K19 9 (d31_8 hby) rfl rfl ?_
    refine oGetF K19 12 (wq hw 31) (f3.keep Kp17 nin0) (d31_9 hby) ?_
    intro T20 K21
    refine oLen K21 13 (A7.keep Kp17 nin0) (n := (3 : Int32)) (by first | rfl | decide) (d31_12 hby) ?_
    refine oStatic K21 16 0 (wq hw 77) (wq hw 78) (wq hw 14) (wq hw 79) (rmCkI l Z a0 z0 fm G ((1 : Int32)) ((3 : Int32)) h13 K21.old K21.both (by decide) (by decide)) [(.int 1), (.int 3)] [] (lenOf pd636 rfl) (d31_13 hby) ?_
    intro T22 h24 v25 lo26 fs27 K23 Kp28 q29
    obtain ⟨rfl, rfl⟩ := q29
    have K30 := K23.to 0 0 []
    refine Owe.stk [] ?_
    refine oAloadN K30 17 (d31_16 hby) rfl rfl ?_
    refine oGetF K30 20 (wq hw 31) ((f3.keep Kp17 nin0).keep Kp28 nin0) (d31_17 hby) ?_
    intro T31 K32
    refine oIloadN K32 21 (d31_20 hby) rfl ?_
    refine oBaload K32 22 ((A7.keep Kp17 nin0).keep Kp28 nin0) 1 (by decide) (by decide) rfl (d31_21 hby) ?_
    refine oSipushV K32 25 (255 : Int32) (d31_22 hby) (by decide) ?_
    refine oIand K32 26 (d31_25 hby) ?_
    refine Owe.stk [(.int c1)] ?_ (congrArg (fun z => [Value.int z]) (own_lat P1 l9))
    exact oRetI K32 [] (t := .int) hret (by simp) rfl (d31_26 hby) (by decide) (by decide) hlk (fun x hx => by cases hx) (Or.inr ⟨rfl, rfl, (by simp only [hiI, loI, Int32.lt_iff_toInt_lt, Int32.reduceToInt] at P1 P2 P3 P4 l9 l10 ⊢; omega)⟩)
  · have A7 : Ary Z h0 t1 .byte [(.int (byt (c0 >>> ((0 : Int32) &&& 31)))), (.int (byt (c0 >>> ((8 : Int32) &&& 31)))), (.int (byt (c1 >>> ((0 : Int32) &&& 31)))), (.int (byt (c1 >>> ((8 : Int32) &&& 31)))), (.int (byt (c2 >>> ((0 : Int32) &&& 31)))), (.int (byt (c2 >>> ((8 : Int32) &&& 31))))] := A5
    refine oAloadN K0 1 (d31_0 hby) rfl rfl ?_
    refine oVirtual K0 4 0 (wq hw 72) (wq hw 73) (nfSel (wq hw 75)) (wq hw 75) (wq hw 74) (wq hw 14) (wq hw 76) f2 (rmIsL1 l Z a0 z0 fm G x h0 K0.old K0.both f4) [] [] (lenOf pd629 rfl) (d31_1 hby) ?_
    intro T33 h35 v36 lo37 fs38 K34 Kp39 q40
    obtain ⟨rfl, rfl⟩ := q40
    have K41 := K34.to 0 0 []
    refine Owe.stk [(.int 0)] ?_
    refine oIfYes K41 27 (d31_4 hby) (XT.i0_eq_t (by decide)) ?_
    refine oAloadN K41 28 (d31_27 hby) rfl rfl ?_
    refine oGetF K41 31 (wq hw 31) (f3.keep Kp39 nin0) (d31_28 hby) ?_
    intro T42 K43
    refine oLen K43 32 (A7.keep Kp39 nin0) (n := (6 : Int32)) (by first | rfl | decide) (d31_31 hby) ?_
    refine oIconstV K43 33 (1 : Int32) (d31_32 hby) rfl ?_
    refine oIshr K43 34 (d31_33 hby) ?_
    show Owe _ _ _ _ T42 (mkF m 34 #[.val (.ref x), .val (.int 1), .unset] [(.int 3)])
    refine oIstoreN K43 35 (d31_34 hby) (l' := #[.val (.ref x), .val (.int 1), .val (.int 3)]) rfl ?_
    refine oIloadN K43 36 (d31_35 hby) rfl ?_
    refine oIloadN K43 37 (d31_36 hby) rfl ?_
    refine oStatic K43 40 0 (wq hw 77) (wq hw 78) (wq hw 14) (wq hw 79) (rmCkI l Z a0 z0 fm G ((1 : Int32)) ((3 : Int32)) h35 K43.old K43.both (by decide) (by decide)) [(.int 1), (.int 3)] [] (lenOf pd636 rfl) (d31_37 hby) ?_
    intro T44 h46 v47 lo48 fs49 K45 Kp50 q51
    obtain ⟨rfl, rfl⟩ := q51
    have K52 := K45.to 0 0 []
    refine Owe.stk [] ?_
    refine oAloadN K52 41 (d31_40 hby) rfl rfl ?_
    refine oGetF K52 44 (wq hw 31) ((f3.keep Kp39 nin0).keep Kp50 nin0) (d31_41 hby) ?_
    intro T53 K54
    refine oIloadN K54 45 (d31_44 hby) rfl ?_
    refine oIloadN K54 46 (d31_45 hby) rfl ?_
    refine oStatic K54 49 0 (wq hw 126) (wq hw 127) (wq hw 53) (wq hw 128) (rmCPu3_1 l Z a0 z0 fm G t1 c0 c1 c2 h46 K54.old K54.both ((A7.keep Kp39 nin0).keep Kp50 nin0) P1 P2 P3 P4) [(.ref t1), (.int 1), (.int 3)] [] (lenOf pd658 rfl) (d31_46 hby) ?_
    intro T55 h57 v58 lo59 fs60 K56 Kp61 q62
    rcases q62 with qq62_0 | qq62_1
    · obtain ⟨r63, rfl, rfl, f64, f65, f66, f67⟩ := qq62_0
      have K68 := K56.to 0 0 []
      refine Owe.stk [(.int r63)] ?_
      exact oRetI K68 [] (t := .int) hret (by simp) rfl (d31_49 hby) (by decide) (by decide) hlk (fun x hx => by cases hx) (Or.inl ⟨r63, rfl, rfl, f64, f65, f66, f67⟩)
    · obtain ⟨rfl, rfl, f69⟩ := qq62_1
      have K70 := K56.to 0 0 []
      refine Owe.stk [(.int c1)] ?_
      exact oRetI K70 [] (t := .int) hret (by simp) rfl (d31_49 hby) (by decide) (by decide) hlk (fun x hx => by cases hx) (Or.inr ⟨rfl, rfl, f69⟩)
theorem rmCPz3_2 (G : Gl Z a0 z0 fm) (t : Addr) (c0 c1 c2 : Int32) (h0 : Heap) (hZh : Ext Z.heap h0) (hsf : Own Z h0 []) (P0 : Ary Z h0 t .byte [(.int (byt (c0 >>> ((0 : Int32) &&& 31)))), (.int (byt (c0 >>> ((8 : Int32) &&& 31)))), (.int (byt (c1 >>> ((0 : Int32) &&& 31)))), (.int (byt (c1 >>> ((8 : Int32) &&& 31)))), (.int (byt (c2 >>> ((0 : Int32) &&& 31)))), (.int (byt (c2 >>> ((8 : Int32) &&& 31))))]) (P1 : ¬ c2 < (0 : Int32)) (P2 : ¬ (65535 : Int32) < c2) :
    Ctr l Z ELs yn616 jdk_52_method_7_code 6 (some .int) [] (rmk 1 0 0 13) #[(.ref t), (.int 2), (.int 3), (.int 0)] [] h0 (fun v h fs => (fs = [] ∧ v = some (.int c2))) := by
  obtain ⟨hw, hEL, wS, OS, hz0, OA, OH, OL, OF, rfm⟩ := id G
  refine Ctr.intro pn41 hEL hZh hsf ?_
  intro p e s m below meth c s₁ hby hml hret hnm hlk hh K0
  refine Owe.cast (ef615 m t ((2 : Int32)) ((3 : Int32)) ((0 : Int32))) ?_
  show Owe _ _ _ _ s₁ (mkF m 0 #[.val (.ref t), .val (.int 2), .val (.int 3), .val (.int 0), .unset, .unset] [])
  refine oGetS K0 3 (wq hw 118) (OA.ext K0.old) (d29_0 hby) ?_
  intro T1 K2
  refine oIfYes K2 19 (d29_3 hby) (XT.i0_ne_t (by decide)) ?_
  refine oIloadN K2 20 (d29_19 hby) rfl ?_
  refine oIfYes K2 28 (d29_20 hby) (XT.i0_eq_t (by decide)) ?_
  refine oAloadN K2 29 (d29_28 hby) rfl rfl ?_
  refine oIloadN K2 30 (d29_29 hby) rfl ?_
  refine oStatic K2 33 0 (wq hw 121) (wq hw 122) (wq hw 53) (wq hw 123) (rmGet3_2 l Z a0 z0 fm G t c0 c1 c2 h0 K2.old K2.both P0 P1 P2) [(.ref t), (.int 2)] [] (lenOf pd179 rfl) (d29_30 hby) ?_
  intro T3 h5 v6 lo7 fs8 K4 Kp9 q10
  obtain ⟨rfl, rfl⟩ := q10
  have K11 := K4.to 0 0 []
  refine Owe.stk [(.int c2)] ?_
  refine oIstore K11 35 (d29_33 hby) (l' := #[.val (.ref t), .val (.int 2), .val (.int 3), .val (.int 0), .val (.int c2), .unset]) rfl ?_
  refine oIload K11 37 (d29_35 hby) rfl ?_
  refine oStatic K11 40 0 (wq hw 132) (wq hw 133) (wq hw 88) (wq hw 134) (rmJH l Z a0 z0 fm G c2 h5 K11.old K11.both ) [(.int c2)] [] (lenOf pd262 rfl) (d29_37 hby) ?_
  intro T12 h14 v15 lo16 fs17 K13 Kp18 q19
  rcases q19 with qq19_0 | qq19_1
  · obtain ⟨rfl, rfl, f20⟩ := qq19_0
    have K21 := K13.to 0 0 []
    refine Owe.stk [(.int 1)] ?_
    refine oIfNo K21 43 (d29_40 hby) (XT.i0_eq_f (by decide)) ?_
    refine oIinc K21 46 (d29_43 hby) rfl (l' := #[.val (.ref t), .val (.int 3), .val (.int 3), .val (.int 0), .val (.int c2), .unset]) rfl ?_
    refine oIloadN K21 47 (d29_46 hby) rfl ?_
    refine oIloadN K21 48 (d29_47 hby) rfl ?_
    refine oIcmpYes K21 83 (d29_48 hby) (XT.ii_ge_t (by decide)) ?_
    refine oIload K21 85 (d29_83 hby) rfl ?_
    exact oRetI K21 [] (t := .int) hret (by simp) rfl (d29_85 hby) (by decide) (by decide) hlk (fun x hx => by cases hx) ⟨rfl, rfl⟩
  · obtain ⟨rfl, rfl, f22⟩ := qq19_1
    have K23 := K13.to 0 0 []
    refine Owe.stk [(.int 0)] ?_
    refine oIfYes K23 83 (d29_40 hby) (XT.i0_eq_t (by decide)) ?_
    refine oIload K23 85 (d29_83 hby) rfl ?_
    exact oRetI K23 [] (t := .int) hret (by simp) rfl (d29_85 hby) (by decide) (by decide) hlk (fun x hx => by cases hx) ⟨rfl, rfl⟩
theorem rmCPu3_2 (G : Gl Z a0 z0 fm) (t : Addr) (c0 c1 c2 : Int32) (h0 : Heap) (hZh : Ext Z.heap h0) (hsf : Own Z h0 []) (P0 : Ary Z h0 t .byte [(.int (byt (c0 >>> ((0 : Int32) &&& 31)))), (.int (byt (c0 >>> ((8 : Int32) &&& 31)))), (.int (byt (c1 >>> ((0 : Int32) &&& 31)))), (.int (byt (c1 >>> ((8 : Int32) &&& 31)))), (.int (byt (c2 >>> ((0 : Int32) &&& 31)))), (.int (byt (c2 >>> ((8 : Int32) &&& 31))))]) (P1 : ¬ c2 < (0 : Int32)) (P2 : ¬ (65535 : Int32) < c2) :
    Ctr l Z ELs yn625 jdk_52_method_8_code 3 (some .int) [] (rmk 2 0 0 30) #[(.ref t), (.int 2), (.int 3)] [] h0 (fun v h fs => (fs = [] ∧ v = some (.int c2))) := by
  obtain ⟨hw, hEL, wS, OS, hz0, OA, OH, OL, OF, rfm⟩ := id G
  refine Ctr.intro pn41 hEL hZh hsf ?_
  intro p e s m below meth c s₁ hby hml hret hnm hlk hh K0
  refine Owe.cast (ef72 m t ((2 : Int32)) ((3 : Int32))) ?_
  show Owe _ _ _ _ s₁ (mkF m 0 #[.val (.ref t), .val (.int 2), .val (.int 3)] [])
  refine oAloadN K0 1 (d30_0 hby) rfl rfl ?_
  refine oIloadN K0 2 (d30_1 hby) rfl ?_
  refine oIloadN K0 3 (d30_2 hby) rfl ?_
  refine oIconstV K0 4 (0 : Int32) (d30_3 hby) rfl ?_
  refine oStatic K0 7 0 (wq hw 129) (wq hw 130) (wq hw 53) (wq hw 131) (rmCPz3_2 l Z a0 z0 fm G t c0 c1 c2 h0 K0.old K0.both P0 P1 P2) [(.ref t), (.int 2), (.int 3), (.int 0)] [] (lenOf pd623 rfl) (d30_4 hby) ?_
  intro T1 h3 v4 lo5 fs6 K2 Kp7 q8
  obtain ⟨rfl, rfl⟩ := q8
  have K9 := K2.to 0 0 []
  refine Owe.stk [(.int c2)] ?_
  exact oRetI K9 [] (t := .int) hret (by simp) rfl (d30_7 hby) (by decide) (by decide) hlk (fun x hx => by cases hx) ⟨rfl, rfl⟩
theorem rmCP3_2 (G : Gl Z a0 z0 fm) (x : Addr) (b : Nat) (c0 c1 c2 : Int32) (h0 : Heap) (hZh : Ext Z.heap h0) (hsf : Own Z h0 []) (P0 : Str Z h0 b x [c0, c1, c2]) (P1 : ¬ c2 < (0 : Int32)) (P2 : ¬ (65535 : Int32) < c2) :
    Ctr l Z ELs yn661 jdk_42_method_57_code 3 (some .int) [] (rmk 3 0 0 44) #[(.ref x), (.int 2)] [] h0 (fun v h fs => (fs = [] ∧ v = some (.int c2))) := by
  obtain ⟨hw, hEL, wS, OS, hz0, OA, OH, OL, OF, rfm⟩ := id G
  refine Ctr.intro pn16 hEL hZh hsf ?_
  intro p e s m below meth c s₁ hby hml hret hnm hlk hh K0
  refine Owe.cast (ef660 m x ((2 : Int32))) ?_
  show Owe _ _ _ _ s₁ (mkF m 0 #[.val (.ref x), .val (.int 2), .unset] [])
  obtain ⟨t1, -, -, f2, f3, ⟨f4, A5, L6⟩ | ⟨f4, A5⟩⟩ := P0
  · have A7 : Ary Z h0 t1 .byte [(.int (byt c0)), (.int (byt c1)), (.int (byt c2))] := A5
    obtain ⟨l8, l9, l10, -⟩ := L6
    refine oAloadN K0 1 (d31_0 hby) rfl rfl ?_
    refine oVirtual K0 4 0 (wq hw 72) (wq hw 73) (nfSel (wq hw 75)) (wq hw 75) (wq hw 74) (wq hw 14) (wq hw 76) f2 (rmIsL0 l Z a0 z0 fm G x h0 K0.old K0.both f4) [] [] (lenOf pd629 rfl) (d31_1 hby) ?_
    intro T11 h13 v14 lo15 fs16 K12 Kp17 q18
    obtain ⟨rfl, rfl⟩ := q18
    have K19 := K12.to 0 0 []
    refine Owe.stk [(.int 1)] ?_
    refine oIfNo K19 7 (d31_4 hby) (XT.i0_eq_f (by decide)) ?_
    refine oIloadN K19 8 (d31_7 hby) rfl ?_
    refine oAloadN K19 9 (d31_8 hby) rfl rfl ?_
    refine oGetF K19 12 (wq hw 31) (f3.keep Kp17 nin0) (d31_9 hby) ?_
    intro T20 K21
    refine oLen K21 13 (A7.keep Kp17 nin0) (n := (3 : Int32)) (by first | rfl | decide) (d31_12 hby) ?_
    refine oStatic K21 16 0 (wq hw 77) (wq hw 78) (wq hw 14) (wq hw 79) (rmCkI l Z a0 z0 fm G ((2 : Int32)) ((3 : Int32)) h13 K21.old K21.both (by decide) (by decide)) [(.int 2), (.int 3)] [] (lenOf pd636 rfl) (d31_13 hby) ?_
    intro T22 h24 v25 lo26 fs27 K23 Kp28 q29
    obtain ⟨rfl, rfl⟩ := q29
    have K30 := K23.to 0 0 []
    refine Owe.stk [] ?_
    refine oAloadN K30 17 (d31_16 hby) rfl rfl ?_
    refine oGetF K30 20 (wq hw 31) ((f3.keep Kp17 nin0).keep Kp28 nin0) (d31_17 hby) ?_
    intro T31 K32
    refine oIloadN K32 21 (d31_20 hby) rfl ?_
    refine oBaload K32 22 ((A7.keep Kp17 nin0).keep Kp28 nin0) 2 (by decide) (by decide) rfl (d31_21 hby) ?_
    refine oSipushV K32 25 (255 : Int32) (d31_22 hby) (by decide) ?_
    refine oIand K32 26 (d31_25 hby) ?_
    refine Owe.stk [(.int c2)] ?_ (congrArg (fun z => [Value.int z]) (own_lat P1 l10))
    exact oRetI K32 [] (t := .int) hret (by simp) rfl (d31_26 hby) (by decide) (by decide) hlk (fun x hx => by cases hx) ⟨rfl, rfl⟩
  · have A7 : Ary Z h0 t1 .byte [(.int (byt (c0 >>> ((0 : Int32) &&& 31)))), (.int (byt (c0 >>> ((8 : Int32) &&& 31)))), (.int (byt (c1 >>> ((0 : Int32) &&& 31)))), (.int (byt (c1 >>> ((8 : Int32) &&& 31)))), (.int (byt (c2 >>> ((0 : Int32) &&& 31)))), (.int (byt (c2 >>> ((8 : Int32) &&& 31))))] := A5
    refine oAloadN K0 1 (d31_0 hby) rfl rfl ?_
    refine oVirtual K0 4 0 (wq hw 72) (wq hw 73) (nfSel (wq hw 75)) (wq hw 75) (wq hw 74) (wq hw 14) (wq hw 76) f2 (rmIsL1 l Z a0 z0 fm G x h0 K0.old K0.both f4) [] [] (lenOf pd629 rfl) (d31_1 hby) ?_
    intro T33 h35 v36 lo37 fs38 K34 Kp39 q40
    obtain ⟨rfl, rfl⟩ := q40
    have K41 := K34.to 0 0 []
    refine Owe.stk [(.int 0)] ?_
    refine oIfYes K41 27 (d31_4 hby) (XT.i0_eq_t (by decide)) ?_
    refine oAloadN K41 28 (d31_27 hby) rfl rfl ?_
    refine oGetF K41 31 (wq hw 31) (f3.keep Kp39 nin0) (d31_28 hby) ?_
    intro T42 K43
    refine oLen K43 32 (A7.keep Kp39 nin0) (n := (6 : Int32)) (by first | rfl | decide) (d31_31 hby) ?_
    refine oIconstV K43 33 (1 : Int32) (d31_32 hby) rfl ?_
    refine oIshr K43 34 (d31_33 hby) ?_
    show Owe _ _ _ _ T42 (mkF m 34 #[.val (.ref x), .val (.int 2), .unset] [(.int 3)])
    refine oIstoreN K43 35 (d31_34 hby) (l' := #[.val (.ref x), .val (.int 2), .val (.int 3)]) rfl ?_
    refine oIloadN K43 36 (d31_35 hby) rfl ?_
    refine oIloadN K43 37 (d31_36 hby) rfl ?_
    refine oStatic K43 40 0 (wq hw 77) (wq hw 78) (wq hw 14) (wq hw 79) (rmCkI l Z a0 z0 fm G ((2 : Int32)) ((3 : Int32)) h35 K43.old K43.both (by decide) (by decide)) [(.int 2), (.int 3)] [] (lenOf pd636 rfl) (d31_37 hby) ?_
    intro T44 h46 v47 lo48 fs49 K45 Kp50 q51
    obtain ⟨rfl, rfl⟩ := q51
    have K52 := K45.to 0 0 []
    refine Owe.stk [] ?_
    refine oAloadN K52 41 (d31_40 hby) rfl rfl ?_
    refine oGetF K52 44 (wq hw 31) ((f3.keep Kp39 nin0).keep Kp50 nin0) (d31_41 hby) ?_
    intro T53 K54
    refine oIloadN K54 45 (d31_44 hby) rfl ?_
    refine oIloadN K54 46 (d31_45 hby) rfl ?_
    refine oStatic K54 49 0 (wq hw 126) (wq hw 127) (wq hw 53) (wq hw 128) (rmCPu3_2 l Z a0 z0 fm G t1 c0 c1 c2 h46 K54.old K54.both ((A7.keep Kp39 nin0).keep Kp50 nin0) P1 P2) [(.ref t1), (.int 2), (.int 3)] [] (lenOf pd658 rfl) (d31_46 hby) ?_
    intro T55 h57 v58 lo59 fs60 K56 Kp61 q62
    obtain ⟨rfl, rfl⟩ := q62
    have K63 := K56.to 0 0 []
    refine Owe.stk [(.int c2)] ?_
    exact oRetI K63 [] (t := .int) hret (by simp) rfl (d31_49 hby) (by decide) (by decide) hlk (fun x hx => by cases hx) ⟨rfl, rfl⟩
theorem rmCPz4_0 (G : Gl Z a0 z0 fm) (t : Addr) (c0 c1 c2 c3 : Int32) (h0 : Heap) (hZh : Ext Z.heap h0) (hsf : Own Z h0 []) (P0 : Ary Z h0 t .byte [(.int (byt (c0 >>> ((0 : Int32) &&& 31)))), (.int (byt (c0 >>> ((8 : Int32) &&& 31)))), (.int (byt (c1 >>> ((0 : Int32) &&& 31)))), (.int (byt (c1 >>> ((8 : Int32) &&& 31)))), (.int (byt (c2 >>> ((0 : Int32) &&& 31)))), (.int (byt (c2 >>> ((8 : Int32) &&& 31)))), (.int (byt (c3 >>> ((0 : Int32) &&& 31)))), (.int (byt (c3 >>> ((8 : Int32) &&& 31))))]) (P1 : ¬ c0 < (0 : Int32)) (P2 : ¬ (65535 : Int32) < c0) (P3 : ¬ c1 < (0 : Int32)) (P4 : ¬ (65535 : Int32) < c1) :
    Ctr l Z ELs yn616 jdk_52_method_7_code 6 (some .int) [] (rmk 1 0 0 13) #[(.ref t), (.int 0), (.int 4), (.int 0)] [] h0 (fun v h fs => (∃ r : Int32, fs = [] ∧ v = some (.int r) ∧ hiI c0 ∧ loI c1 ∧ ¬ r < (65536 : Int32) ∧ (57343 : Int32) < r) ∨ (fs = [] ∧ v = some (.int c0) ∧ ¬ (hiI c0 ∧ loI c1))) := by
  obtain ⟨hw, hEL, wS, OS, hz0, OA, OH, OL, OF, rfm⟩ := id G
  refine Ctr.intro pn41 hEL hZh hsf ?_
  intro p e s m below meth c s₁ hby hml hret hnm hlk hh K0
  refine Owe.cast (ef615 m t ((0 : Int32)) ((4 : Int32)) ((0 : Int32))) ?_
  show Owe _ _ _ _ s₁ (mkF m 0 #[.val (.ref t), .val (.int 0), .val (.int 4), .val (.int 0), .unset, .unset] [])
  refine oGetS K0 3 (wq hw 118) (OA.ext K0.old) (d29_0 hby) ?_
  intro T1 K2
  refine oIfYes K2 19 (d29_3 hby) (XT.i0_ne_t (by decide)) ?_
  refine oIloadN K2 20 (d29_19 hby) rfl ?_
  refine oIfYes K2 28 (d29_20 hby) (XT.i0_eq_t (by decide)) ?_
  refine oAloadN K2 29 (d29_28 hby) rfl rfl ?_
  refine oIloadN K2 30 (d29_29 hby) rfl ?_
  refine oStatic K2 33 0 (wq hw 121) (wq hw 122) (wq hw 53) (wq hw 123) (rmGet4_0 l Z a0 z0 fm G t c0 c1 c2 c3 h0 K2.old K2.both P0 P1 P2) [(.ref t), (.int 0)] [] (lenOf pd179 rfl) (d29_30 hby) ?_
  intro T3 h5 v6 lo7 fs8 K4 Kp9 q10
  obtain ⟨rfl, rfl⟩ := q10
  have K11 := K4.to 0 0 []
  refine Owe.stk [(.int c0)] ?_
  refine oIstore K11 35 (d29_33 hby) (l' := #[.val (.ref t), .val (.int 0), .val (.int 4), .val (.int 0), .val (.int c0), .unset]) rfl ?_
  refine oIload K11 37 (d29_35 hby) rfl ?_
  refine oStatic K11 40 0 (wq hw 132) (wq hw 133) (wq hw 88) (wq hw 134) (rmJH l Z a0 z0 fm G c0 h5 K11.old K11.both ) [(.int c0)] [] (lenOf pd262 rfl) (d29_37 hby) ?_
  intro T12 h14 v15 lo16 fs17 K13 Kp18 q19
  rcases q19 with qq19_0 | qq19_1
  · obtain ⟨rfl, rfl, f20⟩ := qq19_0
    have K21 := K13.to 0 0 []
    refine Owe.stk [(.int 1)] ?_
    refine oIfNo K21 43 (d29_40 hby) (XT.i0_eq_f (by decide)) ?_
    refine oIinc K21 46 (d29_43 hby) rfl (l' := #[.val (.ref t), .val (.int 1), .val (.int 4), .val (.int 0), .val (.int c0), .unset]) rfl ?_
    refine oIloadN K21 47 (d29_46 hby) rfl ?_
    refine oIloadN K21 48 (d29_47 hby) rfl ?_
    refine oIcmpNo K21 51 (d29_48 hby) (XT.ii_ge_f (by decide)) ?_
    refine oIloadN K21 52 (d29_51 hby) rfl ?_
    refine oIfYes K21 60 (d29_52 hby) (XT.i0_eq_t (by decide)) ?_
    refine oAloadN K21 61 (d29_60 hby) rfl rfl ?_
    refine oIloadN K21 62 (d29_61 hby) rfl ?_
    refine oStatic K21 65 0 (wq hw 121) (wq hw 122) (wq hw 53) (wq hw 123) (rmGet4_1 l Z a0 z0 fm G t c0 c1 c2 c3 h14 K21.old K21.both ((P0.keep Kp9 nin0).keep Kp18 nin0) P3 P4) [(.ref t), (.int 1)] [] (lenOf pd179 rfl) (d29_62 hby) ?_
    intro T22 h24 v25 lo26 fs27 K23 Kp28 q29
    obtain ⟨rfl, rfl⟩ := q29
    have K30 := K23.to 0 0 []
    refine Owe.stk [(.int c1)] ?_
    refine oIstore K30 67 (d29_65 hby) (l' := #[.val (.ref t), .val (.int 1), .val (.int 4), .val (.int 0), .val (.int c0), .val (.int c1)]) rfl ?_
    refine oIload K30 69 (d29_67 hby) rfl ?_
    refine oStatic K30 72 0 (wq hw 138) (wq hw 139) (wq hw 88) (wq hw 140) (rmJL l Z a0 z0 fm G c1 h24 K30.old K30.both ) [(.int c1)] [] (lenOf pd262 rfl) (d29_69 hby) ?_
    intro T31 h33 v34 lo35 fs36 K32 Kp37 q38
    rcases q38 with qq38_0 | qq38_1
    · obtain ⟨rfl, rfl, f39⟩ := qq38_0
      have K40 := K32.to 0 0 []
      refine Owe.stk [(.int 1)] ?_
      refine oIfNo K40 75 (d29_72 hby) (XT.i0_eq_f (by decide)) ?_
      refine oIload K40 77 (d29_75 hby) rfl ?_
      refine oIload K40 79 (d29_77 hby) rfl ?_
      refine oStatic K40 82 0 (wq hw 145) (wq hw 146) (wq hw 88) (wq hw 147) (rmTCP l Z a0 z0 fm G c0 c1 h33 K40.old K40.both ) [(.int c0), (.int c1)] [] (lenOf pd674 rfl) (d29_79 hby) ?_
      intro T41 h43 v44 lo45 fs46 K42 Kp47 q48
      obtain ⟨rfl, rfl⟩ := q48
      have K49 := K42.to 0 0 []
      refine Owe.stk [(.int (((c0 <<< ((10 : Int32) &&& 31)) + c1) + (-56613888 : Int32)))] ?_
      exact oRetI K49 [] (t := .int) hret (by simp) rfl (d29_82 hby) (by decide) (by decide) hlk (fun x hx => by cases hx) (Or.inl ⟨(((c0 <<< ((10 : Int32) &&& 31)) + c1) + (-56613888 : Int32)), rfl, rfl, f20, f39, (own_pair f20 f39).1, (own_pair f20 f39).2⟩)
    · obtain ⟨rfl, rfl, f50⟩ := qq38_1
      have K51 := K32.to 0 0 []
      refine Owe.stk [(.int 0)] ?_
      refine oIfYes K51 83 (d29_72 hby) (XT.i0_eq_t (by decide)) ?_
      refine oIload K51 85 (d29_83 hby) rfl ?_
      exact oRetI K51 [] (t := .int) hret (by simp) rfl (d29_85 hby) (by decide) (by decide) hlk (fun x hx => by cases hx) (Or.inr ⟨rfl, rfl, (by simp only [hiI, loI, Int32.lt_iff_toInt_lt, Int32.reduceToInt] at P1 P2 P3 P4 f20 f50 ⊢; omega)⟩)
  · obtain ⟨rfl, rfl, f52⟩ := qq19_1
    have K53 := K13.to 0 0 []
    refine Owe.stk [(.int 0)] ?_
    refine oIfYes K53 83 (d29_40 hby) (XT.i0_eq_t (by decide)) ?_
    refine oIload K53 85 (d29_83 hby) rfl ?_
    exact oRetI K53 [] (t := .int) hret (by simp) rfl (d29_85 hby) (by decide) (by decide) hlk (fun x hx => by cases hx) (Or.inr ⟨rfl, rfl, (by simp only [hiI, loI, Int32.lt_iff_toInt_lt, Int32.reduceToInt] at P1 P2 P3 P4 f52 ⊢; omega)⟩)
theorem rmCPu4_0 (G : Gl Z a0 z0 fm) (t : Addr) (c0 c1 c2 c3 : Int32) (h0 : Heap) (hZh : Ext Z.heap h0) (hsf : Own Z h0 []) (P0 : Ary Z h0 t .byte [(.int (byt (c0 >>> ((0 : Int32) &&& 31)))), (.int (byt (c0 >>> ((8 : Int32) &&& 31)))), (.int (byt (c1 >>> ((0 : Int32) &&& 31)))), (.int (byt (c1 >>> ((8 : Int32) &&& 31)))), (.int (byt (c2 >>> ((0 : Int32) &&& 31)))), (.int (byt (c2 >>> ((8 : Int32) &&& 31)))), (.int (byt (c3 >>> ((0 : Int32) &&& 31)))), (.int (byt (c3 >>> ((8 : Int32) &&& 31))))]) (P1 : ¬ c0 < (0 : Int32)) (P2 : ¬ (65535 : Int32) < c0) (P3 : ¬ c1 < (0 : Int32)) (P4 : ¬ (65535 : Int32) < c1) :
    Ctr l Z ELs yn625 jdk_52_method_8_code 3 (some .int) [] (rmk 2 0 0 30) #[(.ref t), (.int 0), (.int 4)] [] h0 (fun v h fs => (∃ r : Int32, fs = [] ∧ v = some (.int r) ∧ hiI c0 ∧ loI c1 ∧ ¬ r < (65536 : Int32) ∧ (57343 : Int32) < r) ∨ (fs = [] ∧ v = some (.int c0) ∧ ¬ (hiI c0 ∧ loI c1))) := by
  obtain ⟨hw, hEL, wS, OS, hz0, OA, OH, OL, OF, rfm⟩ := id G
  refine Ctr.intro pn41 hEL hZh hsf ?_
  intro p e s m below meth c s₁ hby hml hret hnm hlk hh K0
  refine Owe.cast (ef72 m t ((0 : Int32)) ((4 : Int32))) ?_
  show Owe _ _ _ _ s₁ (mkF m 0 #[.val (.ref t), .val (.int 0), .val (.int 4)] [])
  refine oAloadN K0 1 (d30_0 hby) rfl rfl ?_
  refine oIloadN K0 2 (d30_1 hby) rfl ?_
  refine oIloadN K0 3 (d30_2 hby) rfl ?_
  refine oIconstV K0 4 (0 : Int32) (d30_3 hby) rfl ?_
  refine oStatic K0 7 0 (wq hw 129) (wq hw 130) (wq hw 53) (wq hw 131) (rmCPz4_0 l Z a0 z0 fm G t c0 c1 c2 c3 h0 K0.old K0.both P0 P1 P2 P3 P4) [(.ref t), (.int 0), (.int 4), (.int 0)] [] (lenOf pd623 rfl) (d30_4 hby) ?_
  intro T1 h3 v4 lo5 fs6 K2 Kp7 q8
  rcases q8 with qq8_0 | qq8_1
  · obtain ⟨r9, rfl, rfl, f10, f11, f12, f13⟩ := qq8_0
    have K14 := K2.to 0 0 []
    refine Owe.stk [(.int r9)] ?_
    exact oRetI K14 [] (t := .int) hret (by simp) rfl (d30_7 hby) (by decide) (by decide) hlk (fun x hx => by cases hx) (Or.inl ⟨r9, rfl, rfl, f10, f11, f12, f13⟩)
  · obtain ⟨rfl, rfl, f15⟩ := qq8_1
    have K16 := K2.to 0 0 []
    refine Owe.stk [(.int c0)] ?_
    exact oRetI K16 [] (t := .int) hret (by simp) rfl (d30_7 hby) (by decide) (by decide) hlk (fun x hx => by cases hx) (Or.inr ⟨rfl, rfl, f15⟩)
theorem rmCP4_0 (G : Gl Z a0 z0 fm) (x : Addr) (b : Nat) (c0 c1 c2 c3 : Int32) (h0 : Heap) (hZh : Ext Z.heap h0) (hsf : Own Z h0 []) (P0 : Str Z h0 b x [c0, c1, c2, c3]) (P1 : ¬ c0 < (0 : Int32)) (P2 : ¬ (65535 : Int32) < c0) (P3 : ¬ c1 < (0 : Int32)) (P4 : ¬ (65535 : Int32) < c1) :
    Ctr l Z ELs yn661 jdk_42_method_57_code 3 (some .int) [] (rmk 3 0 0 44) #[(.ref x), (.int 0)] [] h0 (fun v h fs => (∃ r : Int32, fs = [] ∧ v = some (.int r) ∧ hiI c0 ∧ loI c1 ∧ ¬ r < (65536 : Int32) ∧ (57343 : Int32) < r) ∨ (fs = [] ∧ v = some (.int c0) ∧ ¬ (hiI c0 ∧ loI c1))) := by
  obtain ⟨hw, hEL, wS, OS, hz0, OA, OH, OL, OF, rfm⟩ := id G
  refine Ctr.intro pn16 hEL hZh hsf ?_
  intro p e s m below meth c s₁ hby hml hret hnm hlk hh K0
  refine Owe.cast (ef660 m x ((0 : Int32))) ?_
  show Owe _ _ _ _ s₁ (mkF m 0 #[.val (.ref x), .val (.int 0), .unset] [])
  obtain ⟨t1, -, -, f2, f3, ⟨f4, A5, L6⟩ | ⟨f4, A5⟩⟩ := P0
  · have A7 : Ary Z h0 t1 .byte [(.int (byt c0)), (.int (byt c1)), (.int (byt c2)), (.int (byt c3))] := A5
    obtain ⟨l8, l9, l10, l11, -⟩ := L6
    refine oAloadN K0 1 (d31_0 hby) rfl rfl ?_
    refine oVirtual K0 4 0 (wq hw 72) (wq hw 73) (nfSel (wq hw 75)) (wq hw 75) (wq hw 74) (wq hw 14) (wq hw 76) f2 (rmIsL0 l Z a0 z0 fm G x h0 K0.old K0.both f4) [] [] (lenOf pd629 rfl) (d31_1 hby) ?_
    intro T12 h14 v15 lo16 fs17 K13 Kp18 q19
    obtain ⟨rfl, rfl⟩ := q19
    have K20 := K13.to 0 0 []
    refine Owe.stk [(.int 1)] ?_
    refine oIfNo K20 7 (d31_4 hby) (XT.i0_eq_f (by decide)) ?_
    refine oIloadN K20 8 (d31_7 hby) rfl ?_
    refine oAloadN K20 9 (d31_8 hby) rfl rfl ?_
    refine oGetF K20 12 (wq hw 31) (f3.keep Kp18 nin0) (d31_9 hby) ?_
    intro T21 K22
    refine oLen K22 13 (A7.keep Kp18 nin0) (n := (4 : Int32)) (by first | rfl | decide) (d31_12 hby) ?_
    refine oStatic K22 16 0 (wq hw 77) (wq hw 78) (wq hw 14) (wq hw 79) (rmCkI l Z a0 z0 fm G ((0 : Int32)) ((4 : Int32)) h14 K22.old K22.both (by decide) (by decide)) [(.int 0), (.int 4)] [] (lenOf pd636 rfl) (d31_13 hby) ?_
    intro T23 h25 v26 lo27 fs28 K24 Kp29 q30
    obtain ⟨rfl, rfl⟩ := q30
    have K31 := K24.to 0 0 []
    refine Owe.stk [] ?_
    refine oAloadN K31 17 (d31_16 hby) rfl rfl ?_
    refine oGetF K31 20 (wq hw 31) ((f3.keep Kp18 nin0).keep Kp29 nin0) (d31_17 hby) ?_
    intro T32 K33
    refine oIloadN K33 21 (d31_20 hby) rfl ?_
    refine oBaload K33 22 ((A7.keep Kp18 nin0).keep Kp29 nin0) 0 (by decide) (by decide) rfl (d31_21 hby) ?_
    refine oSipushV K33 25 (255 : Int32) (d31_22 hby) (by decide) ?_
    refine oIand K33 26 (d31_25 hby) ?_
    refine Owe.stk [(.int c0)] ?_ (congrArg (fun z => [Value.int z]) (own_lat P1 l8))
    exact oRetI K33 [] (t := .int) hret (by simp) rfl (d31_26 hby) (by decide) (by decide) hlk (fun x hx => by cases hx) (Or.inr ⟨rfl, rfl, (by simp only [hiI, loI, Int32.lt_iff_toInt_lt, Int32.reduceToInt] at P1 P2 P3 P4 l8 l9 ⊢; omega)⟩)
  · have A7 : Ary Z h0 t1 .byte [(.int (byt (c0 >>> ((0 : Int32) &&& 31)))), (.int (byt (c0 >>> ((8 : Int32) &&& 31)))), (.int (byt (c1 >>> ((0 : Int32) &&& 31)))), (.int (byt (c1 >>> ((8 : Int32) &&& 31)))), (.int (byt (c2 >>> ((0 : Int32) &&& 31)))), (.int (byt (c2 >>> ((8 : Int32) &&& 31)))), (.int (byt (c3 >>> ((0 : Int32) &&& 31)))), (.int (byt (c3 >>> ((8 : Int32) &&& 31))))] := A5
    refine oAloadN K0 1 (d31_0 hby) rfl rfl ?_
    refine oVirtual K0 4 0 (wq hw 72) (wq hw 73) (nfSel (wq hw 75)) (wq hw 75) (wq hw 74) (wq hw 14) (wq hw 76) f2 (rmIsL1 l Z a0 z0 fm G x h0 K0.old K0.both f4) [] [] (lenOf pd629 rfl) (d31_1 hby) ?_
    intro T34 h36 v37 lo38 fs39 K35 Kp40 q41
    obtain ⟨rfl, rfl⟩ := q41
    have K42 := K35.to 0 0 []
    refine Owe.stk [(.int 0)] ?_
    refine oIfYes K42 27 (d31_4 hby) (XT.i0_eq_t (by decide)) ?_
    refine oAloadN K42 28 (d31_27 hby) rfl rfl ?_
    refine oGetF K42 31 (wq hw 31) (f3.keep Kp40 nin0) (d31_28 hby) ?_
    intro T43 K44
    refine oLen K44 32 (A7.keep Kp40 nin0) (n := (8 : Int32)) (by first | rfl | decide) (d31_31 hby) ?_
    refine oIconstV K44 33 (1 : Int32) (d31_32 hby) rfl ?_
    refine oIshr K44 34 (d31_33 hby) ?_
    show Owe _ _ _ _ T43 (mkF m 34 #[.val (.ref x), .val (.int 0), .unset] [(.int 4)])
    refine oIstoreN K44 35 (d31_34 hby) (l' := #[.val (.ref x), .val (.int 0), .val (.int 4)]) rfl ?_
    refine oIloadN K44 36 (d31_35 hby) rfl ?_
    refine oIloadN K44 37 (d31_36 hby) rfl ?_
    refine oStatic K44 40 0 (wq hw 77) (wq hw 78) (wq hw 14) (wq hw 79) (rmCkI l Z a0 z0 fm G ((0 : Int32)) ((4 : Int32)) h36 K44.old K44.both (by decide) (by decide)) [(.int 0), (.int 4)] [] (lenOf pd636 rfl) (d31_37 hby) ?_
    intro T45 h47 v48 lo49 fs50 K46 Kp51 q52
    obtain ⟨rfl, rfl⟩ := q52
    have K53 := K46.to 0 0 []
    refine Owe.stk [] ?_
    refine oAloadN K53 41 (d31_40 hby) rfl rfl ?_
    refine oGetF K53 44 (wq hw 31) ((f3.keep Kp40 nin0).keep Kp51 nin0) (d31_41 hby) ?_
    intro T54 K55
    refine oIloadN K55 45 (d31_44 hby) rfl ?_
    refine oIloadN K55 46 (d31_45 hby) rfl ?_
    refine oStatic K55 49 0 (wq hw 126) (wq hw 127) (wq hw 53) (wq hw 128) (rmCPu4_0 l Z a0 z0 fm G t1 c0 c1 c2 c3 h47 K55.old K55.both ((A7.keep Kp40 nin0).keep Kp51 nin0) P1 P2 P3 P4) [(.ref t1), (.int 0), (.int 4)] [] (lenOf pd658 rfl) (d31_46 hby) ?_
    intro T56 h58 v59 lo60 fs61 K57 Kp62 q63
    rcases q63 with qq63_0 | qq63_1
    · obtain ⟨r64, rfl, rfl, f65, f66, f67, f68⟩ := qq63_0
      have K69 := K57.to 0 0 []
      refine Owe.stk [(.int r64)] ?_
      exact oRetI K69 [] (t := .int) hret (by simp) rfl (d31_49 hby) (by decide) (by decide) hlk (fun x hx => by cases hx) (Or.inl ⟨r64, rfl, rfl, f65, f66, f67, f68⟩)
    · obtain ⟨rfl, rfl, f70⟩ := qq63_1
      have K71 := K57.to 0 0 []
      refine Owe.stk [(.int c0)] ?_
      exact oRetI K71 [] (t := .int) hret (by simp) rfl (d31_49 hby) (by decide) (by decide) hlk (fun x hx => by cases hx) (Or.inr ⟨rfl, rfl, f70⟩)
theorem rmCPz4_1 (G : Gl Z a0 z0 fm) (t : Addr) (c0 c1 c2 c3 : Int32) (h0 : Heap) (hZh : Ext Z.heap h0) (hsf : Own Z h0 []) (P0 : Ary Z h0 t .byte [(.int (byt (c0 >>> ((0 : Int32) &&& 31)))), (.int (byt (c0 >>> ((8 : Int32) &&& 31)))), (.int (byt (c1 >>> ((0 : Int32) &&& 31)))), (.int (byt (c1 >>> ((8 : Int32) &&& 31)))), (.int (byt (c2 >>> ((0 : Int32) &&& 31)))), (.int (byt (c2 >>> ((8 : Int32) &&& 31)))), (.int (byt (c3 >>> ((0 : Int32) &&& 31)))), (.int (byt (c3 >>> ((8 : Int32) &&& 31))))]) (P1 : ¬ c1 < (0 : Int32)) (P2 : ¬ (65535 : Int32) < c1) (P3 : ¬ c2 < (0 : Int32)) (P4 : ¬ (65535 : Int32) < c2) :
    Ctr l Z ELs yn616 jdk_52_method_7_code 6 (some .int) [] (rmk 1 0 0 13) #[(.ref t), (.int 1), (.int 4), (.int 0)] [] h0 (fun v h fs => (∃ r : Int32, fs = [] ∧ v = some (.int r) ∧ hiI c1 ∧ loI c2 ∧ ¬ r < (65536 : Int32) ∧ (57343 : Int32) < r) ∨ (fs = [] ∧ v = some (.int c1) ∧ ¬ (hiI c1 ∧ loI c2))) := by
  obtain ⟨hw, hEL, wS, OS, hz0, OA, OH, OL, OF, rfm⟩ := id G
  refine Ctr.intro pn41 hEL hZh hsf ?_
  intro p e s m below meth c s₁ hby hml hret hnm hlk hh K0
  refine Owe.cast (ef615 m t ((1 : Int32)) ((4 : Int32)) ((0 : Int32))) ?_
  show Owe _ _ _ _ s₁ (mkF m 0 #[.val (.ref t), .val (.int 1), .val (.int 4), .val (.int 0), .unset, .unset] [])
  refine oGetS K0 3 (wq hw 118) (OA.ext K0.old) (d29_0 hby) ?_
  intro T1 K2
  refine oIfYes K2 19 (d29_3 hby) (XT.i0_ne_t (by decide)) ?_
  refine oIloadN K2 20 (d29_19 hby) rfl ?_
  refine oIfYes K2 28 (d29_20 hby) (XT.i0_eq_t (by decide)) ?_
  refine oAloadN K2 29 (d29_28 hby) rfl rfl ?_
  refine oIloadN K2 30 (d29_29 hby) rfl ?_
  refine oStatic K2 33 0 (wq hw 121) (wq hw 122) (wq hw 53) (wq hw 123) (rmGet4_1 l Z a0 z0 fm G t c0 c1 c2 c3 h0 K2.old K2.both P0 P1 P2) [(.ref t), (.int 1)] [] (lenOf pd179 rfl) (d29_30 hby) ?_
  intro T3 h5 v6 lo7 fs8 K4 Kp9 q10
  obtain ⟨rfl, rfl⟩ := q10
  have K11 := K4.to 0 0 []
  refine Owe.stk [(.int c1)] ?_
  refine oIstore K11 35 (d29_33 hby) (l' := #[.val (.ref t), .val (.int 1), .val (.int 4), .val (.int 0), .val (.int c1), .unset]) rfl ?_
  refine oIload K11 37 (d29_35 hby) rfl ?_
  refine oStatic K11 40 0 (wq hw 132) (wq hw 133) (wq hw 88) (wq hw 134) (rmJH l Z a0 z0 fm G c1 h5 K11.old K11.both ) [(.int c1)] [] (lenOf pd262 rfl) (d29_37 hby) ?_
  intro T12 h14 v15 lo16 fs17 K13 Kp18 q19
  rcases q19 with qq19_0 | qq19_1
  · obtain ⟨rfl, rfl, f20⟩ := qq19_0
    have K21 := K13.to 0 0 []
    refine Owe.stk [(.int 1)] ?_
    refine oIfNo K21 43 (d29_40 hby) (XT.i0_eq_f (by decide)) ?_
    refine oIinc K21 46 (d29_43 hby) rfl (l' := #[.val (.ref t), .val (.int 2), .val (.int 4), .val (.int 0), .val (.int c1), .unset]) rfl ?_
    refine oIloadN K21 47 (d29_46 hby) rfl ?_
    refine oIloadN K21 48 (d29_47 hby) rfl ?_
    refine oIcmpNo K21 51 (d29_48 hby) (XT.ii_ge_f (by decide)) ?_
    refine oIloadN K21 52 (d29_51 hby) rfl ?_
    refine oIfYes K21 60 (d29_52 hby) (XT.i0_eq_t (by decide)) ?_
    refine oAloadN K21 61 (d29_60 hby) rfl rfl ?_
    refine oIloadN K21 62 (d29_61 hby) rfl ?_
    refine oStatic K21 65 0 (wq hw 121) (wq hw 122) (wq hw 53) (wq hw 123) (rmGet4_2 l Z a0 z0 fm G t c0 c1 c2 c3 h14 K21.old K21.both ((P0.keep Kp9 nin0).keep Kp18 nin0) P3 P4) [(.ref t), (.int 2)] [] (lenOf pd179 rfl) (d29_62 hby) ?_
    intro T22 h24 v25 lo26 fs27 K23 Kp28 q29
    obtain ⟨rfl, rfl⟩ := q29
    have K30 := K23.to 0 0 []
    refine Owe.stk [(.int c2)] ?_
    refine oIstore K30 67 (d29_65 hby) (l' := #[.val (.ref t), .val (.int 2), .val (.int 4), .val (.int 0), .val (.int c1), .val (.int c2)]) rfl ?_
    refine oIload K30 69 (d29_67 hby) rfl ?_
    refine oStatic K30 72 0 (wq hw 138) (wq hw 139) (wq hw 88) (wq hw 140) (rmJL l Z a0 z0 fm G c2 h24 K30.old K30.both ) [(.int c2)] [] (lenOf pd262 rfl) (d29_69 hby) ?_
    intro T31 h33 v34 lo35 fs36 K32 Kp37 q38
    rcases q38 with qq38_0 | qq38_1
    · obtain ⟨rfl, rfl, f39⟩ := qq38_0
      have K40 := K32.to 0 0 []
      refine Owe.stk [(.int 1)] ?_
      refine oIfNo K40 75 (d29_72 hby) (XT.i0_eq_f (by decide)) ?_
      refine oIload K40 77 (d29_75 hby) rfl ?_
      refine oIload K40 79 (d29_77 hby) rfl ?_
      refine oStatic K40 82 0 (wq hw 145) (wq hw 146) (wq hw 88) (wq hw 147) (rmTCP l Z a0 z0 fm G c1 c2 h33 K40.old K40.both ) [(.int c1), (.int c2)] [] (lenOf pd674 rfl) (d29_79 hby) ?_
      intro T41 h43 v44 lo45 fs46 K42 Kp47 q48
      obtain ⟨rfl, rfl⟩ := q48
      have K49 := K42.to 0 0 []
      refine Owe.stk [(.int (((c1 <<< ((10 : Int32) &&& 31)) + c2) + (-56613888 : Int32)))] ?_
      exact oRetI K49 [] (t := .int) hret (by simp) rfl (d29_82 hby) (by decide) (by decide) hlk (fun x hx => by cases hx) (Or.inl ⟨(((c1 <<< ((10 : Int32) &&& 31)) + c2) + (-56613888 : Int32)), rfl, rfl, f20, f39, (own_pair f20 f39).1, (own_pair f20 f39).2⟩)
    · obtain ⟨rfl, rfl, f50⟩ := qq38_1
      have K51 := K32.to 0 0 []
      refine Owe.stk [(.int 0)] ?_
      refine oIfYes K51 83 (d29_72 hby) (XT.i0_eq_t (by decide)) ?_
      refine oIload K51 85 (d29_83 hby) rfl ?_
      exact oRetI K51 [] (t := .int) hret (by simp) rfl (d29_85 hby) (by decide) (by decide) hlk (fun x hx => by cases hx) (Or.inr ⟨rfl, rfl, (by simp only [hiI, loI, Int32.lt_iff_toInt_lt, Int32.reduceToInt] at P1 P2 P3 P4 f20 f50 ⊢; omega)⟩)
  · obtain ⟨rfl, rfl, f52⟩ := qq19_1
    have K53 := K13.to 0 0 []
    refine Owe.stk [(.int 0)] ?_
    refine oIfYes K53 83 (d29_40 hby) (XT.i0_eq_t (by decide)) ?_
    refine oIload K53 85 (d29_83 hby) rfl ?_
    exact oRetI K53 [] (t := .int) hret (by simp) rfl (d29_85 hby) (by decide) (by decide) hlk (fun x hx => by cases hx) (Or.inr ⟨rfl, rfl, (by simp only [hiI, loI, Int32.lt_iff_toInt_lt, Int32.reduceToInt] at P1 P2 P3 P4 f52 ⊢; omega)⟩)
theorem rmCPu4_1 (G : Gl Z a0 z0 fm) (t : Addr) (c0 c1 c2 c3 : Int32) (h0 : Heap) (hZh : Ext Z.heap h0) (hsf : Own Z h0 []) (P0 : Ary Z h0 t .byte [(.int (byt (c0 >>> ((0 : Int32) &&& 31)))), (.int (byt (c0 >>> ((8 : Int32) &&& 31)))), (.int (byt (c1 >>> ((0 : Int32) &&& 31)))), (.int (byt (c1 >>> ((8 : Int32) &&& 31)))), (.int (byt (c2 >>> ((0 : Int32) &&& 31)))), (.int (byt (c2 >>> ((8 : Int32) &&& 31)))), (.int (byt (c3 >>> ((0 : Int32) &&& 31)))), (.int (byt (c3 >>> ((8 : Int32) &&& 31))))]) (P1 : ¬ c1 < (0 : Int32)) (P2 : ¬ (65535 : Int32) < c1) (P3 : ¬ c2 < (0 : Int32)) (P4 : ¬ (65535 : Int32) < c2) :
    Ctr l Z ELs yn625 jdk_52_method_8_code 3 (some .int) [] (rmk 2 0 0 30) #[(.ref t), (.int 1), (.int 4)] [] h0 (fun v h fs => (∃ r : Int32, fs = [] ∧ v = some (.int r) ∧ hiI c1 ∧ loI c2 ∧ ¬ r < (65536 : Int32) ∧ (57343 : Int32) < r) ∨ (fs = [] ∧ v = some (.int c1) ∧ ¬ (hiI c1 ∧ loI c2))) := by
  obtain ⟨hw, hEL, wS, OS, hz0, OA, OH, OL, OF, rfm⟩ := id G
  refine Ctr.intro pn41 hEL hZh hsf ?_
  intro p e s m below meth c s₁ hby hml hret hnm hlk hh K0
  refine Owe.cast (ef72 m t ((1 : Int32)) ((4 : Int32))) ?_
  show Owe _ _ _ _ s₁ (mkF m 0 #[.val (.ref t), .val (.int 1), .val (.int 4)] [])
  refine oAloadN K0 1 (d30_0 hby) rfl rfl ?_
  refine oIloadN K0 2 (d30_1 hby) rfl ?_
  refine oIloadN K0 3 (d30_2 hby) rfl ?_
  refine oIconstV K0 4 (0 : Int32) (d30_3 hby) rfl ?_
  refine oStatic K0 7 0 (wq hw 129) (wq hw 130) (wq hw 53) (wq hw 131) (rmCPz4_1 l Z a0 z0 fm G t c0 c1 c2 c3 h0 K0.old K0.both P0 P1 P2 P3 P4) [(.ref t), (.int 1), (.int 4), (.int 0)] [] (lenOf pd623 rfl) (d30_4 hby) ?_
  intro T1 h3 v4 lo5 fs6 K2 Kp7 q8
  rcases q8 with qq8_0 | qq8_1
  · obtain ⟨r9, rfl, rfl, f10, f11, f12, f13⟩ := qq8_0
    have K14 := K2.to 0 0 []
    refine Owe.stk [(.int r9)] ?_
    exact oRetI K14 [] (t := .int) hret (by simp) rfl (d30_7 hby) (by decide) (by decide) hlk (fun x hx => by cases hx) (Or.inl ⟨r9, rfl, rfl, f10, f11, f12, f13⟩)
  · obtain ⟨rfl, rfl, f15⟩ := qq8_1
    have K16 := K2.to 0 0 []
    refine Owe.stk [(.int c1)] ?_
    exact oRetI K16 [] (t := .int) hret (by simp) rfl (d30_7 hby) (by decide) (by decide) hlk (fun x hx => by cases hx) (Or.inr ⟨rfl, rfl, f15⟩)
theorem rmCP4_1 (G : Gl Z a0 z0 fm) (x : Addr) (b : Nat) (c0 c1 c2 c3 : Int32) (h0 : Heap) (hZh : Ext Z.heap h0) (hsf : Own Z h0 []) (P0 : Str Z h0 b x [c0, c1, c2, c3]) (P1 : ¬ c1 < (0 : Int32)) (P2 : ¬ (65535 : Int32) < c1) (P3 : ¬ c2 < (0 : Int32)) (P4 : ¬ (65535 : Int32) < c2) :
    Ctr l Z ELs yn661 jdk_42_method_57_code 3 (some .int) [] (rmk 3 0 0 44) #[(.ref x), (.int 1)] [] h0 (fun v h fs => (∃ r : Int32, fs = [] ∧ v = some (.int r) ∧ hiI c1 ∧ loI c2 ∧ ¬ r < (65536 : Int32) ∧ (57343 : Int32) < r) ∨ (fs = [] ∧ v = some (.int c1) ∧ ¬ (hiI c1 ∧ loI c2))) := by
  obtain ⟨hw, hEL, wS, OS, hz0, OA, OH, OL, OF, rfm⟩ := id G
  refine Ctr.intro pn16 hEL hZh hsf ?_
  intro p e s m below meth c s₁ hby hml hret hnm hlk hh K0
  refine Owe.cast (ef660 m x ((1 : Int32))) ?_
  show Owe _ _ _ _ s₁ (mkF m 0 #[.val (.ref x), .val (.int 1), .unset] [])
  obtain ⟨t1, -, -, f2, f3, ⟨f4, A5, L6⟩ | ⟨f4, A5⟩⟩ := P0
  · have A7 : Ary Z h0 t1 .byte [(.int (byt c0)), (.int (byt c1)), (.int (byt c2)), (.int (byt c3))] := A5
    obtain ⟨l8, l9, l10, l11, -⟩ := L6
    refine oAloadN K0 1 (d31_0 hby) rfl rfl ?_
    refine oVirtual K0 4 0 (wq hw 72) (wq hw 73) (nfSel (wq hw 75)) (wq hw 75) (wq hw 74) (wq hw 14) (wq hw 76) f2 (rmIsL0 l Z a0 z0 fm G x h0 K0.old K0.both f4) [] [] (lenOf pd629 rfl) (d31_1 hby) ?_
    intro T12 h14 v15 lo16 fs17 K13 Kp18 q19
    obtain ⟨rfl, rfl⟩ := q19
    have K20 := K13.to 0 0 []
    refine Owe.stk [(.int 1)] ?_
    refine oIfNo K20 7 (d31_4 hby) (XT.i0_eq_f (by decide)) ?_
    refine oIloadN K20 8 (d31_7 hby) rfl ?_
    refine oAloadN K20 9 (d31_8 hby) rfl rfl ?_
    refine oGetF K20 12 (wq hw 31) (f3.keep Kp18 nin0) (d31_9 hby) ?_
    intro T21 K22
    refine oLen K22 13 (A7.keep Kp18 nin0) (n := (4 : Int32)) (by first | rfl | decide) (d31_12 hby) ?_
    refine oStatic K22 16 0 (wq hw 77) (wq hw 78) (wq hw 14) (wq hw 79) (rmCkI l Z a0 z0 fm G ((1 : Int32)) ((4 : Int32)) h14 K22.old K22.both (by decide) (by decide)) [(.int 1), (.int 4)] [] (lenOf pd636 rfl) (d31_13 hby) ?_
    intro T23 h25 v26 lo27 fs28 K24 Kp29 q30
    obtain ⟨rfl, rfl⟩ := q30
    have K31 := K24.to 0 0 []
    refine Owe.stk [] ?_
    refine oAloadN K31 17 (d31_16 hby) rfl rfl ?_
    refine oGetF K31 20 (wq hw 31) ((f3.keep Kp18 nin0).keep Kp29 nin0) (d31_17 hby) ?_
    intro T32 K33
    refine oIloadN K33 21 (d31_20 hby) rfl ?_
    refine oBaload K33 22 ((A7.keep Kp18 nin0).keep Kp29 nin0) 1 (by decide) (by decide) rfl (d31_21 hby) ?_
    refine oSipushV K33 25 (255 : Int32) (d31_22 hby) (by decide) ?_
    refine oIand K33 26 (d31_25 hby) ?_
    refine Owe.stk [(.int c1)] ?_ (congrArg (fun z => [Value.int z]) (own_lat P1 l9))
    exact oRetI K33 [] (t := .int) hret (by simp) rfl (d31_26 hby) (by decide) (by decide) hlk (fun x hx => by cases hx) (Or.inr ⟨rfl, rfl, (by simp only [hiI, loI, Int32.lt_iff_toInt_lt, Int32.reduceToInt] at P1 P2 P3 P4 l9 l10 ⊢; omega)⟩)
  · have A7 : Ary Z h0 t1 .byte [(.int (byt (c0 >>> ((0 : Int32) &&& 31)))), (.int (byt (c0 >>> ((8 : Int32) &&& 31)))), (.int (byt (c1 >>> ((0 : Int32) &&& 31)))), (.int (byt (c1 >>> ((8 : Int32) &&& 31)))), (.int (byt (c2 >>> ((0 : Int32) &&& 31)))), (.int (byt (c2 >>> ((8 : Int32) &&& 31)))), (.int (byt (c3 >>> ((0 : Int32) &&& 31)))), (.int (byt (c3 >>> ((8 : Int32) &&& 31))))] := A5
    refine oAloadN K0 1 (d31_0 hby) rfl rfl ?_
    refine oVirtual K0 4 0 (wq hw 72) (wq hw 73) (nfSel (wq hw 75)) (wq hw 75) (wq hw 74) (wq hw 14) (wq hw 76) f2 (rmIsL1 l Z a0 z0 fm G x h0 K0.old K0.both f4) [] [] (lenOf pd629 rfl) (d31_1 hby) ?_
    intro T34 h36 v37 lo38 fs39 K35 Kp40 q41
    obtain ⟨rfl, rfl⟩ := q41
    have K42 := K35.to 0 0 []
    refine Owe.stk [(.int 0)] ?_
    refine oIfYes K42 27 (d31_4 hby) (XT.i0_eq_t (by decide)) ?_
    refine oAloadN K42 28 (d31_27 hby) rfl rfl ?_
    refine oGetF K42 31 (wq hw 31) (f3.keep Kp40 nin0) (d31_28 hby) ?_
    intro T43 K44
    refine oLen K44 32 (A7.keep Kp40 nin0) (n := (8 : Int32)) (by first | rfl | decide) (d31_31 hby) ?_
    refine oIconstV K44 33 (1 : Int32) (d31_32 hby) rfl ?_
    refine oIshr K44 34 (d31_33 hby) ?_
    show Owe _ _ _ _ T43 (mkF m 34 #[.val (.ref x), .val (.int 1), .unset] [(.int 4)])
    refine oIstoreN K44 35 (d31_34 hby) (l' := #[.val (.ref x), .val (.int 1), .val (.int 4)]) rfl ?_
    refine oIloadN K44 36 (d31_35 hby) rfl ?_
    refine oIloadN K44 37 (d31_36 hby) rfl ?_
    refine oStatic K44 40 0 (wq hw 77) (wq hw 78) (wq hw 14) (wq hw 79) (rmCkI l Z a0 z0 fm G ((1 : Int32)) ((4 : Int32)) h36 K44.old K44.both (by decide) (by decide)) [(.int 1), (.int 4)] [] (lenOf pd636 rfl) (d31_37 hby) ?_
    intro T45 h47 v48 lo49 fs50 K46 Kp51 q52
    obtain ⟨rfl, rfl⟩ := q52
    have K53 := K46.to 0 0 []
    refine Owe.stk [] ?_
    refine oAloadN K53 41 (d31_40 hby) rfl rfl ?_
    refine oGetF K53 44 (wq hw 31) ((f3.keep Kp40 nin0).keep Kp51 nin0) (d31_41 hby) ?_
    intro T54 K55
    refine oIloadN K55 45 (d31_44 hby) rfl ?_
    refine oIloadN K55 46 (d31_45 hby) rfl ?_
    refine oStatic K55 49 0 (wq hw 126) (wq hw 127) (wq hw 53) (wq hw 128) (rmCPu4_1 l Z a0 z0 fm G t1 c0 c1 c2 c3 h47 K55.old K55.both ((A7.keep Kp40 nin0).keep Kp51 nin0) P1 P2 P3 P4) [(.ref t1), (.int 1), (.int 4)] [] (lenOf pd658 rfl) (d31_46 hby) ?_
    intro T56 h58 v59 lo60 fs61 K57 Kp62 q63
    rcases q63 with qq63_0 | qq63_1
    · obtain ⟨r64, rfl, rfl, f65, f66, f67, f68⟩ := qq63_0
      have K69 := K57.to 0 0 []
      refine Owe.stk [(.int r64)] ?_
      exact oRetI K69 [] (t := .int) hret (by simp) rfl (d31_49 hby) (by decide) (by decide) hlk (fun x hx => by cases hx) (Or.inl ⟨r64, rfl, rfl, f65, f66, f67, f68⟩)
    · obtain ⟨rfl, rfl, f70⟩ := qq63_1
      have K71 := K57.to 0 0 []
      refine Owe.stk [(.int c1)] ?_
      exact oRetI K71 [] (t := .int) hret (by simp) rfl (d31_49 hby) (by decide) (by decide) hlk (fun x hx => by cases hx) (Or.inr ⟨rfl, rfl, f70⟩)
theorem rmCPz4_2 (G : Gl Z a0 z0 fm) (t : Addr) (c0 c1 c2 c3 : Int32) (h0 : Heap) (hZh : Ext Z.heap h0) (hsf : Own Z h0 []) (P0 : Ary Z h0 t .byte [(.int (byt (c0 >>> ((0 : Int32) &&& 31)))), (.int (byt (c0 >>> ((8 : Int32) &&& 31)))), (.int (byt (c1 >>> ((0 : Int32) &&& 31)))), (.int (byt (c1 >>> ((8 : Int32) &&& 31)))), (.int (byt (c2 >>> ((0 : Int32) &&& 31)))), (.int (byt (c2 >>> ((8 : Int32) &&& 31)))), (.int (byt (c3 >>> ((0 : Int32) &&& 31)))), (.int (byt (c3 >>> ((8 : Int32) &&& 31))))]) (P1 : ¬ c2 < (0 : Int32)) (P2 : ¬ (65535 : Int32) < c2) (P3 : ¬ c3 < (0 : Int32)) (P4 : ¬ (65535 : Int32) < c3) :
    Ctr l Z ELs yn616 jdk_52_method_7_code 6 (some .int) [] (rmk 1 0 0 13) #[(.ref t), (.int 2), (.int 4), (.int 0)] [] h0 (fun v h fs => (∃ r : Int32, fs = [] ∧ v = some (.int r) ∧ hiI c2 ∧ loI c3 ∧ ¬ r < (65536 : Int32) ∧ (57343 : Int32) < r) ∨ (fs = [] ∧ v = some (.int c2) ∧ ¬ (hiI c2 ∧ loI c3))) := by
  obtain ⟨hw, hEL, wS, OS, hz0, OA, OH, OL, OF, rfm⟩ := id G
  refine Ctr.intro pn41 hEL hZh hsf ?_
  intro p e s m below meth c s₁ hby hml hret hnm hlk hh K0
  refine Owe.cast (ef615 m t ((2 : Int32)) ((4 : Int32)) ((0 : Int32))) ?_
  show Owe _ _ _ _ s₁ (mkF m 0 #[.val (.ref t), .val (.int 2), .val (.int 4), .val (.int 0), .unset, .unset] [])
  refine oGetS K0 3 (wq hw 118) (OA.ext K0.old) (d29_0 hby) ?_
  intro T1 K2
  refine oIfYes K2 19 (d29_3 hby) (XT.i0_ne_t (by decide)) ?_
  refine oIloadN K2 20 (d29_19 hby) rfl ?_
  refine oIfYes K2 28 (d29_20 hby) (XT.i0_eq_t (by decide)) ?_
  refine oAloadN K2 29 (d29_28 hby) rfl rfl ?_
  refine oIloadN K2 30 (d29_29 hby) rfl ?_
  refine oStatic K2 33 0 (wq hw 121) (wq hw 122) (wq hw 53) (wq hw 123) (rmGet4_2 l Z a0 z0 fm G t c0 c1 c2 c3 h0 K2.old K2.both P0 P1 P2) [(.ref t), (.int 2)] [] (lenOf pd179 rfl) (d29_30 hby) ?_
  intro T3 h5 v6 lo7 fs8 K4 Kp9 q10
  obtain ⟨rfl, rfl⟩ := q10
  have K11 := K4.to 0 0 []
  refine Owe.stk [(.int c2)] ?_
  refine oIstore K11 35 (d29_33 hby) (l' := #[.val (.ref t), .val (.int 2), .val (.int 4), .val (.int 0), .val (.int c2), .unset]) rfl ?_
  refine oIload K11 37 (d29_35 hby) rfl ?_
  refine oStatic K11 40 0 (wq hw 132) (wq hw 133) (wq hw 88) (wq hw 134) (rmJH l Z a0 z0 fm G c2 h5 K11.old K11.both ) [(.int c2)] [] (lenOf pd262 rfl) (d29_37 hby) ?_
  intro T12 h14 v15 lo16 fs17 K13 Kp18 q19
  rcases q19 with qq19_0 | qq19_1
  · obtain ⟨rfl, rfl, f20⟩ := qq19_0
    have K21 := K13.to 0 0 []
    refine Owe.stk [(.int 1)] ?_
    refine oIfNo K21 43 (d29_40 hby) (XT.i0_eq_f (by decide)) ?_
    refine oIinc K21 46 (d29_43 hby) rfl (l' := #[.val (.ref t), .val (.int 3), .val (.int 4), .val (.int 0), .val (.int c2), .unset]) rfl ?_
    refine oIloadN K21 47 (d29_46 hby) rfl ?_
    refine oIloadN K21 48 (d29_47 hby) rfl ?_
    refine oIcmpNo K21 51 (d29_48 hby) (XT.ii_ge_f (by decide)) ?_
    refine oIloadN K21 52 (d29_51 hby) rfl ?_
    refine oIfYes K21 60 (d29_52 hby) (XT.i0_eq_t (by decide)) ?_
    refine oAloadN K21 61 (d29_60 hby) rfl rfl ?_
    refine oIloadN K21 62 (d29_61 hby) rfl ?_
    refine oStatic K21 65 0 (wq hw 121) (wq hw 122) (wq hw 53) (wq hw 123) (rmGet4_3 l Z a0 z0 fm G t c0 c1 c2 c3 h14 K21.old K21.both ((P0.keep Kp9 nin0).keep Kp18 nin0) P3 P4) [(.ref t), (.int 3)] [] (lenOf pd179 rfl) (d29_62 hby) ?_
    intro T22 h24 v25 lo26 fs27 K23 Kp28 q29
    obtain ⟨rfl, rfl⟩ := q29
    have K30 := K23.to 0 0 []
    refine Owe.stk [(.int c3)] ?_
    refine oIstore K30 67 (d29_65 hby) (l' := #[.val (.ref t), .val (.int 3), .val (.int 4), .val (.int 0), .val (.int c2), .val (.int c3)]) rfl ?_
    refine oIload K30 69 (d29_67 hby) rfl ?_
    refine oStatic K30 72 0 (wq hw 138) (wq hw 139) (wq hw 88) (wq hw 140) (rmJL l Z a0 z0 fm G c3 h24 K30.old K30.both ) [(.int c3)] [] (lenOf pd262 rfl) (d29_69 hby) ?_
    intro T31 h33 v34 lo35 fs36 K32 Kp37 q38
    rcases q38 with qq38_0 | qq38_1
    · obtain ⟨rfl, rfl, f39⟩ := qq38_0
      have K40 := K32.to 0 0 []
      refine Owe.stk [(.int 1)] ?_
      refine oIfNo K40 75 (d29_72 hby) (XT.i0_eq_f (by decide)) ?_
      refine oIload K40 77 (d29_75 hby) rfl ?_
      refine oIload K40 79 (d29_77 hby) rfl ?_
      refine oStatic K40 82 0 (wq hw 145) (wq hw 146) (wq hw 88) (wq hw 147) (rmTCP l Z a0 z0 fm G c2 c3 h33 K40.old K40.both ) [(.int c2), (.int c3)] [] (lenOf pd674 rfl) (d29_79 hby) ?_
      intro T41 h43 v44 lo45 fs46 K42 Kp47 q48
      obtain ⟨rfl, rfl⟩ := q48
      have K49 := K42.to 0 0 []
      refine Owe.stk [(.int (((c2 <<< ((10 : Int32) &&& 31)) + c3) + (-56613888 : Int32)))] ?_
      exact oRetI K49 [] (t := .int) hret (by simp) rfl (d29_82 hby) (by decide) (by decide) hlk (fun x hx => by cases hx) (Or.inl ⟨(((c2 <<< ((10 : Int32) &&& 31)) + c3) + (-56613888 : Int32)), rfl, rfl, f20, f39, (own_pair f20 f39).1, (own_pair f20 f39).2⟩)
    · obtain ⟨rfl, rfl, f50⟩ := qq38_1
      have K51 := K32.to 0 0 []
      refine Owe.stk [(.int 0)] ?_
      refine oIfYes K51 83 (d29_72 hby) (XT.i0_eq_t (by decide)) ?_
      refine oIload K51 85 (d29_83 hby) rfl ?_
      exact oRetI K51 [] (t := .int) hret (by simp) rfl (d29_85 hby) (by decide) (by decide) hlk (fun x hx => by cases hx) (Or.inr ⟨rfl, rfl, (by simp only [hiI, loI, Int32.lt_iff_toInt_lt, Int32.reduceToInt] at P1 P2 P3 P4 f20 f50 ⊢; omega)⟩)
  · obtain ⟨rfl, rfl, f52⟩ := qq19_1
    have K53 := K13.to 0 0 []
    refine Owe.stk [(.int 0)] ?_
    refine oIfYes K53 83 (d29_40 hby) (XT.i0_eq_t (by decide)) ?_
    refine oIload K53 85 (d29_83 hby) rfl ?_
    exact oRetI K53 [] (t := .int) hret (by simp) rfl (d29_85 hby) (by decide) (by decide) hlk (fun x hx => by cases hx) (Or.inr ⟨rfl, rfl, (by simp only [hiI, loI, Int32.lt_iff_toInt_lt, Int32.reduceToInt] at P1 P2 P3 P4 f52 ⊢; omega)⟩)
theorem rmCPu4_2 (G : Gl Z a0 z0 fm) (t : Addr) (c0 c1 c2 c3 : Int32) (h0 : Heap) (hZh : Ext Z.heap h0) (hsf : Own Z h0 []) (P0 : Ary Z h0 t .byte [(.int (byt (c0 >>> ((0 : Int32) &&& 31)))), (.int (byt (c0 >>> ((8 : Int32) &&& 31)))), (.int (byt (c1 >>> ((0 : Int32) &&& 31)))), (.int (byt (c1 >>> ((8 : Int32) &&& 31)))), (.int (byt (c2 >>> ((0 : Int32) &&& 31)))), (.int (byt (c2 >>> ((8 : Int32) &&& 31)))), (.int (byt (c3 >>> ((0 : Int32) &&& 31)))), (.int (byt (c3 >>> ((8 : Int32) &&& 31))))]) (P1 : ¬ c2 < (0 : Int32)) (P2 : ¬ (65535 : Int32) < c2) (P3 : ¬ c3 < (0 : Int32)) (P4 : ¬ (65535 : Int32) < c3) :
    Ctr l Z ELs yn625 jdk_52_method_8_code 3 (some .int) [] (rmk 2 0 0 30) #[(.ref t), (.int 2), (.int 4)] [] h0 (fun v h fs => (∃ r : Int32, fs = [] ∧ v = some (.int r) ∧ hiI c2 ∧ loI c3 ∧ ¬ r < (65536 : Int32) ∧ (57343 : Int32) < r) ∨ (fs = [] ∧ v = some (.int c2) ∧ ¬ (hiI c2 ∧ loI c3))) := by
  obtain ⟨hw, hEL, wS, OS, hz0, OA, OH, OL, OF, rfm⟩ := id G
  refine Ctr.intro pn41 hEL hZh hsf ?_
  intro p e s m below meth c s₁ hby hml hret hnm hlk hh K0
  refine Owe.cast (ef72 m t ((2 : Int32)) ((4 : Int32))) ?_
  show Owe _ _ _ _ s₁ (mkF m 0 #[.val (.ref t), .val (.int 2), .val (.int 4)] [])
  refine oAloadN K0 1 (d30_0 hby) rfl rfl ?_
  refine oIloadN K0 2 (d30_1 hby) rfl ?_
  refine oIloadN K0 3 (d30_2 hby) rfl ?_
  refine oIconstV K0 4 (0 : Int32) (d30_3 hby) rfl ?_
  refine oStatic K0 7 0 (wq hw 129) (wq hw 130) (wq hw 53) (wq hw 131) (rmCPz4_2 l Z a0 z0 fm G t c0 c1 c2 c3 h0 K0.old K0.both P0 P1 P2 P3 P4) [(.ref t), (.int 2), (.int 4), (.int 0)] [] (lenOf pd623 rfl) (d30_4 hby) ?_
  intro T1 h3 v4 lo5 fs6 K2 Kp7 q8
  rcases q8 with qq8_0 | qq8_1
  · obtain ⟨r9, rfl, rfl, f10, f11, f12, f13⟩ := qq8_0
    have K14 := K2.to 0 0 []
    refine Owe.stk [(.int r9)] ?_
    exact oRetI K14 [] (t := .int) hret (by simp) rfl (d30_7 hby) (by decide) (by decide) hlk (fun x hx => by cases hx) (Or.inl ⟨r9, rfl, rfl, f10, f11, f12, f13⟩)
  · obtain ⟨rfl, rfl, f15⟩ := qq8_1
    have K16 := K2.to 0 0 []
    refine Owe.stk [(.int c2)] ?_
    exact oRetI K16 [] (t := .int) hret (by simp) rfl (d30_7 hby) (by decide) (by decide) hlk (fun x hx => by cases hx) (Or.inr ⟨rfl, rfl, f15⟩)
theorem rmCP4_2 (G : Gl Z a0 z0 fm) (x : Addr) (b : Nat) (c0 c1 c2 c3 : Int32) (h0 : Heap) (hZh : Ext Z.heap h0) (hsf : Own Z h0 []) (P0 : Str Z h0 b x [c0, c1, c2, c3]) (P1 : ¬ c2 < (0 : Int32)) (P2 : ¬ (65535 : Int32) < c2) (P3 : ¬ c3 < (0 : Int32)) (P4 : ¬ (65535 : Int32) < c3) :
    Ctr l Z ELs yn661 jdk_42_method_57_code 3 (some .int) [] (rmk 3 0 0 44) #[(.ref x), (.int 2)] [] h0 (fun v h fs => (∃ r : Int32, fs = [] ∧ v = some (.int r) ∧ hiI c2 ∧ loI c3 ∧ ¬ r < (65536 : Int32) ∧ (57343 : Int32) < r) ∨ (fs = [] ∧ v = some (.int c2) ∧ ¬ (hiI c2 ∧ loI c3))) := by
  obtain ⟨hw, hEL, wS, OS, hz0, OA, OH, OL, OF, rfm⟩ := id G
  refine Ctr.intro pn16 hEL hZh hsf ?_
  intro p e s m below meth c s₁ hby hml hret hnm hlk hh K0
  refine Owe.cast (ef660 m x ((2 : Int32))) ?_
  show Owe _ _ _ _ s₁ (mkF m 0 #[.val (.ref x), .val (.int 2), .unset] [])
  obtain ⟨t1, -, -, f2, f3, ⟨f4, A5, L6⟩ | ⟨f4, A5⟩⟩ := P0
  · have A7 : Ary Z h0 t1 .byte [(.int (byt c0)), (.int (byt c1)), (.int (byt c2)), (.int (byt c3))] := A5
    obtain ⟨l8, l9, l10, l11, -⟩ := L6
    refine oAloadN K0 1 (d31_0 hby) rfl rfl ?_
    refine oVirtual K0 4 0 (wq hw 72) (wq hw 73) (nfSel (wq hw 75)) (wq hw 75) (wq hw 74) (wq hw 14) (wq hw 76) f2 (rmIsL0 l Z a0 z0 fm G x h0 K0.old K0.both f4) [] [] (lenOf pd629 rfl) (d31_1 hby) ?_
    intro T12 h14 v15 lo16 fs17 K13 Kp18 q19
    obtain ⟨rfl, rfl⟩ := q19
    have K20 := K13.to 0 0 []
    refine Owe.stk [(.int 1)] ?_
    refine oIfNo K20 7 (d31_4 hby) (XT.i0_eq_f (by decide)) ?_
    refine oIloadN K20 8 (d31_7 hby) rfl ?_
    refine oAloadN K20 9 (d31_8 hby) rfl rfl ?_
    refine oGetF K20 12 (wq hw 31) (f3.keep Kp18 nin0) (d31_9 hby) ?_
    intro T21 K22
    refine oLen K22 13 (A7.keep Kp18 nin0) (n := (4 : Int32)) (by first | rfl | decide) (d31_12 hby) ?_
    refine oStatic K22 16 0 (wq hw 77) (wq hw 78) (wq hw 14) (wq hw 79) (rmCkI l Z a0 z0 fm G ((2 : Int32)) ((4 : Int32)) h14 K22.old K22.both (by decide) (by decide)) [(.int 2), (.int 4)] [] (lenOf pd636 rfl) (d31_13 hby) ?_
    intro T23 h25 v26 lo27 fs28 K24 Kp29 q30
    obtain ⟨rfl, rfl⟩ := q30
    have K31 := K24.to 0 0 []
    refine Owe.stk [] ?_
    refine oAloadN K31 17 (d31_16 hby) rfl rfl ?_
    refine oGetF K31 20 (wq hw 31) ((f3.keep Kp18 nin0).keep Kp29 nin0) (d31_17 hby) ?_
    intro T32 K33
    refine oIloadN K33 21 (d31_20 hby) rfl ?_
    refine oBaload K33 22 ((A7.keep Kp18 nin0).keep Kp29 nin0) 2 (by decide) (by decide) rfl (d31_21 hby) ?_
    refine oSipushV K33 25 (255 : Int32) (d31_22 hby) (by decide) ?_
    refine oIand K33 26 (d31_25 hby) ?_
    refine Owe.stk [(.int c2)] ?_ (congrArg (fun z => [Value.int z]) (own_lat P1 l10))
    exact oRetI K33 [] (t := .int) hret (by simp) rfl (d31_26 hby) (by decide) (by decide) hlk (fun x hx => by cases hx) (Or.inr ⟨rfl, rfl, (by simp only [hiI, loI, Int32.lt_iff_toInt_lt, Int32.reduceToInt] at P1 P2 P3 P4 l10 l11 ⊢; omega)⟩)
  · have A7 : Ary Z h0 t1 .byte [(.int (byt (c0 >>> ((0 : Int32) &&& 31)))), (.int (byt (c0 >>> ((8 : Int32) &&& 31)))), (.int (byt (c1 >>> ((0 : Int32) &&& 31)))), (.int (byt (c1 >>> ((8 : Int32) &&& 31)))), (.int (byt (c2 >>> ((0 : Int32) &&& 31)))), (.int (byt (c2 >>> ((8 : Int32) &&& 31)))), (.int (byt (c3 >>> ((0 : Int32) &&& 31)))), (.int (byt (c3 >>> ((8 : Int32) &&& 31))))] := A5
    refine oAloadN K0 1 (d31_0 hby) rfl rfl ?_
    refine oVirtual K0 4 0 (wq hw 72) (wq hw 73) (nfSel (wq hw 75)) (wq hw 75) (wq hw 74) (wq hw 14) (wq hw 76) f2 (rmIsL1 l Z a0 z0 fm G x h0 K0.old K0.both f4) [] [] (lenOf pd629 rfl) (d31_1 hby) ?_
    intro T34 h36 v37 lo38 fs39 K35 Kp40 q41
    obtain ⟨rfl, rfl⟩ := q41
    have K42 := K35.to 0 0 []
    refine Owe.stk [(.int 0)] ?_
    refine oIfYes K42 27 (d31_4 hby) (XT.i0_eq_t (by decide)) ?_
    refine oAloadN K42 28 (d31_27 hby) rfl rfl ?_
    refine oGetF K42 31 (wq hw 31) (f3.keep Kp40 nin0) (d31_28 hby) ?_
    intro T43 K44
    refine oLen K44 32 (A7.keep Kp40 nin0) (n := (8 : Int32)) (by first | rfl | decide) (d31_31 hby) ?_
    refine oIconstV K44 33 (1 : Int32) (d31_32 hby) rfl ?_
    refine oIshr K44 34 (d31_33 hby) ?_
    show Owe _ _ _ _ T43 (mkF m 34 #[.val (.ref x), .val (.int 2), .unset] [(.int 4)])
    refine oIstoreN K44 35 (d31_34 hby) (l' := #[.val (.ref x), .val (.int 2), .val (.int 4)]) rfl ?_
    refine oIloadN K44 36 (d31_35 hby) rfl ?_
    refine oIloadN K44 37 (d31_36 hby) rfl ?_
    refine oStatic K44 40 0 (wq hw 77) (wq hw 78) (wq hw 14) (wq hw 79) (rmCkI l Z a0 z0 fm G ((2 : Int32)) ((4 : Int32)) h36 K44.old K44.both (by decide) (by decide)) [(.int 2), (.int 4)] [] (lenOf pd636 rfl) (d31_37 hby) ?_
    intro T45 h47 v48 lo49 fs50 K46 Kp51 q52
    obtain ⟨rfl, rfl⟩ := q52
    have K53 := K46.to 0 0 []
    refine Owe.stk [] ?_
    refine oAloadN K53 41 (d31_40 hby) rfl rfl ?_
    refine oGetF K53 44 (wq hw 31) ((f3.keep Kp40 nin0).keep Kp51 nin0) (d31_41 hby) ?_
    intro T54 K55
    refine oIloadN K55 45 (d31_44 hby) rfl ?_
    refine oIloadN K55 46 (d31_45 hby) rfl ?_
    refine oStatic K55 49 0 (wq hw 126) (wq hw 127) (wq hw 53) (wq hw 128) (rmCPu4_2 l Z a0 z0 fm G t1 c0 c1 c2 c3 h47 K55.old K55.both ((A7.keep Kp40 nin0).keep Kp51 nin0) P1 P2 P3 P4) [(.ref t1), (.int 2), (.int 4)] [] (lenOf pd658 rfl) (d31_46 hby) ?_
    intro T56 h58 v59 lo60 fs61 K57 Kp62 q63
    rcases q63 with qq63_0 | qq63_1
    · obtain ⟨r64, rfl, rfl, f65, f66, f67, f68⟩ := qq63_0
      have K69 := K57.to 0 0 []
      refine Owe.stk [(.int r64)] ?_
      exact oRetI K69 [] (t := .int) hret (by simp) rfl (d31_49 hby) (by decide) (by decide) hlk (fun x hx => by cases hx) (Or.inl ⟨r64, rfl, rfl, f65, f66, f67, f68⟩)
    · obtain ⟨rfl, rfl, f70⟩ := qq63_1
      have K71 := K57.to 0 0 []
      refine Owe.stk [(.int c2)] ?_
      exact oRetI K71 [] (t := .int) hret (by simp) rfl (d31_49 hby) (by decide) (by decide) hlk (fun x hx => by cases hx) (Or.inr ⟨rfl, rfl, f70⟩)
theorem rmCPz4_3 (G : Gl Z a0 z0 fm) (t : Addr) (c0 c1 c2 c3 : Int32) (h0 : Heap) (hZh : Ext Z.heap h0) (hsf : Own Z h0 []) (P0 : Ary Z h0 t .byte [(.int (byt (c0 >>> ((0 : Int32) &&& 31)))), (.int (byt (c0 >>> ((8 : Int32) &&& 31)))), (.int (byt (c1 >>> ((0 : Int32) &&& 31)))), (.int (byt (c1 >>> ((8 : Int32) &&& 31)))), (.int (byt (c2 >>> ((0 : Int32) &&& 31)))), (.int (byt (c2 >>> ((8 : Int32) &&& 31)))), (.int (byt (c3 >>> ((0 : Int32) &&& 31)))), (.int (byt (c3 >>> ((8 : Int32) &&& 31))))]) (P1 : ¬ c3 < (0 : Int32)) (P2 : ¬ (65535 : Int32) < c3) :
    Ctr l Z ELs yn616 jdk_52_method_7_code 6 (some .int) [] (rmk 1 0 0 13) #[(.ref t), (.int 3), (.int 4), (.int 0)] [] h0 (fun v h fs => (fs = [] ∧ v = some (.int c3))) := by
  obtain ⟨hw, hEL, wS, OS, hz0, OA, OH, OL, OF, rfm⟩ := id G
  refine Ctr.intro pn41 hEL hZh hsf ?_
  intro p e s m below meth c s₁ hby hml hret hnm hlk hh K0
  refine Owe.cast (ef615 m t ((3 : Int32)) ((4 : Int32)) ((0 : Int32))) ?_
  show Owe _ _ _ _ s₁ (mkF m 0 #[.val (.ref t), .val (.int 3), .val (.int 4), .val (.int 0), .unset, .unset] [])
  refine oGetS K0 3 (wq hw 118) (OA.ext K0.old) (d29_0 hby) ?_
  intro T1 K2
  refine oIfYes K2 19 (d29_3 hby) (XT.i0_ne_t (by decide)) ?_
  refine oIloadN K2 20 (d29_19 hby) rfl ?_
  refine oIfYes K2 28 (d29_20 hby) (XT.i0_eq_t (by decide)) ?_
  refine oAloadN K2 29 (d29_28 hby) rfl rfl ?_
  refine oIloadN K2 30 (d29_29 hby) rfl ?_
  refine oStatic K2 33 0 (wq hw 121) (wq hw 122) (wq hw 53) (wq hw 123) (rmGet4_3 l Z a0 z0 fm G t c0 c1 c2 c3 h0 K2.old K2.both P0 P1 P2) [(.ref t), (.int 3)] [] (lenOf pd179 rfl) (d29_30 hby) ?_
  intro T3 h5 v6 lo7 fs8 K4 Kp9 q10
  obtain ⟨rfl, rfl⟩ := q10
  have K11 := K4.to 0 0 []
  refine Owe.stk [(.int c3)] ?_
  refine oIstore K11 35 (d29_33 hby) (l' := #[.val (.ref t), .val (.int 3), .val (.int 4), .val (.int 0), .val (.int c3), .unset]) rfl ?_
  refine oIload K11 37 (d29_35 hby) rfl ?_
  refine oStatic K11 40 0 (wq hw 132) (wq hw 133) (wq hw 88) (wq hw 134) (rmJH l Z a0 z0 fm G c3 h5 K11.old K11.both ) [(.int c3)] [] (lenOf pd262 rfl) (d29_37 hby) ?_
  intro T12 h14 v15 lo16 fs17 K13 Kp18 q19
  rcases q19 with qq19_0 | qq19_1
  · obtain ⟨rfl, rfl, f20⟩ := qq19_0
    have K21 := K13.to 0 0 []
    refine Owe.stk [(.int 1)] ?_
    refine oIfNo K21 43 (d29_40 hby) (XT.i0_eq_f (by decide)) ?_
    refine oIinc K21 46 (d29_43 hby) rfl (l' := #[.val (.ref t), .val (.int 4), .val (.int 4), .val (.int 0), .val (.int c3), .unset]) rfl ?_
    refine oIloadN K21 47 (d29_46 hby) rfl ?_
    refine oIloadN K21 48 (d29_47 hby) rfl ?_
    refine oIcmpYes K21 83 (d29_48 hby) (XT.ii_ge_t (by decide)) ?_
    refine oIload K21 85 (d29_83 hby) rfl ?_
    exact oRetI K21 [] (t := .int) hret (by simp) rfl (d29_85 hby) (by decide) (by decide) hlk (fun x hx => by cases hx) ⟨rfl, rfl⟩
  · obtain ⟨rfl, rfl, f22⟩ := qq19_1
    have K23 := K13.to 0 0 []
    refine Owe.stk [(.int 0)] ?_
    refine oIfYes K23 83 (d29_40 hby) (XT.i0_eq_t (by decide)) ?_
    refine oIload K23 85 (d29_83 hby) rfl ?_
    exact oRetI K23 [] (t := .int) hret (by simp) rfl (d29_85 hby) (by decide) (by decide) hlk (fun x hx => by cases hx) ⟨rfl, rfl⟩
theorem rmCPu4_3 (G : Gl Z a0 z0 fm) (t : Addr) (c0 c1 c2 c3 : Int32) (h0 : Heap) (hZh : Ext Z.heap h0) (hsf : Own Z h0 []) (P0 : Ary Z h0 t .byte [(.int (byt (c0 >>> ((0 : Int32) &&& 31)))), (.int (byt (c0 >>> ((8 : Int32) &&& 31)))), (.int (byt (c1 >>> ((0 : Int32) &&& 31)))), (.int (byt (c1 >>> ((8 : Int32) &&& 31)))), (.int (byt (c2 >>> ((0 : Int32) &&& 31)))), (.int (byt (c2 >>> ((8 : Int32) &&& 31)))), (.int (byt (c3 >>> ((0 : Int32) &&& 31)))), (.int (byt (c3 >>> ((8 : Int32) &&& 31))))]) (P1 : ¬ c3 < (0 : Int32)) (P2 : ¬ (65535 : Int32) < c3) :
    Ctr l Z ELs yn625 jdk_52_method_8_code 3 (some .int) [] (rmk 2 0 0 30) #[(.ref t), (.int 3), (.int 4)] [] h0 (fun v h fs => (fs = [] ∧ v = some (.int c3))) := by
  obtain ⟨hw, hEL, wS, OS, hz0, OA, OH, OL, OF, rfm⟩ := id G
  refine Ctr.intro pn41 hEL hZh hsf ?_
  intro p e s m below meth c s₁ hby hml hret hnm hlk hh K0
  refine Owe.cast (ef72 m t ((3 : Int32)) ((4 : Int32))) ?_
  show Owe _ _ _ _ s₁ (mkF m 0 #[.val (.ref t), .val (.int 3), .val (.int 4)] [])
  refine oAloadN K0 1 (d30_0 hby) rfl rfl ?_
  refine oIloadN K0 2 (d30_1 hby) rfl ?_
  refine oIloadN K0 3 (d30_2 hby) rfl ?_
  refine oIconstV K0 4 (0 : Int32) (d30_3 hby) rfl ?_
  refine oStatic K0 7 0 (wq hw 129) (wq hw 130) (wq hw 53) (wq hw 131) (rmCPz4_3 l Z a0 z0 fm G t c0 c1 c2 c3 h0 K0.old K0.both P0 P1 P2) [(.ref t), (.int 3), (.int 4), (.int 0)] [] (lenOf pd623 rfl) (d30_4 hby) ?_
  intro T1 h3 v4 lo5 fs6 K2 Kp7 q8
  obtain ⟨rfl, rfl⟩ := q8
  have K9 := K2.to 0 0 []
  refine Owe.stk [(.int c3)] ?_
  exact oRetI K9 [] (t := .int) hret (by simp) rfl (d30_7 hby) (by decide) (by decide) hlk (fun x hx => by cases hx) ⟨rfl, rfl⟩
theorem rmCP4_3 (G : Gl Z a0 z0 fm) (x : Addr) (b : Nat) (c0 c1 c2 c3 : Int32) (h0 : Heap) (hZh : Ext Z.heap h0) (hsf : Own Z h0 []) (P0 : Str Z h0 b x [c0, c1, c2, c3]) (P1 : ¬ c3 < (0 : Int32)) (P2 : ¬ (65535 : Int32) < c3) :
    Ctr l Z ELs yn661 jdk_42_method_57_code 3 (some .int) [] (rmk 3 0 0 44) #[(.ref x), (.int 3)] [] h0 (fun v h fs => (fs = [] ∧ v = some (.int c3))) := by
  obtain ⟨hw, hEL, wS, OS, hz0, OA, OH, OL, OF, rfm⟩ := id G
  refine Ctr.intro pn16 hEL hZh hsf ?_
  intro p e s m below meth c s₁ hby hml hret hnm hlk hh K0
  refine Owe.cast (ef660 m x ((3 : Int32))) ?_
  show Owe _ _ _ _ s₁ (mkF m 0 #[.val (.ref x), .val (.int 3), .unset] [])
  obtain ⟨t1, -, -, f2, f3, ⟨f4, A5, L6⟩ | ⟨f4, A5⟩⟩ := P0
  · have A7 : Ary Z h0 t1 .byte [(.int (byt c0)), (.int (byt c1)), (.int (byt c2)), (.int (byt c3))] := A5
    obtain ⟨l8, l9, l10, l11, -⟩ := L6
    refine oAloadN K0 1 (d31_0 hby) rfl rfl ?_
    refine oVirtual K0 4 0 (wq hw 72) (wq hw 73) (nfSel (wq hw 75)) (wq hw 75) (wq hw 74) (wq hw 14) (wq hw 76) f2 (rmIsL0 l Z a0 z0 fm G x h0 K0.old K0.both f4) [] [] (lenOf pd629 rfl) (d31_1 hby) ?_
    intro T12 h14 v15 lo16 fs17 K13 Kp18 q19
    obtain ⟨rfl, rfl⟩ := q19
    have K20 := K13.to 0 0 []
    refine Owe.stk [(.int 1)] ?_
    refine oIfNo K20 7 (d31_4 hby) (XT.i0_eq_f (by decide)) ?_
    refine oIloadN K20 8 (d31_7 hby) rfl ?_
    refine oAloadN K20 9 (d31_8 hby) rfl rfl ?_
    refine oGetF K20 12 (wq hw 31) (f3.keep Kp18 nin0) (d31_9 hby) ?_
    intro T21 K22
    refine oLen K22 13 (A7.keep Kp18 nin0) (n := (4 : Int32)) (by first | rfl | decide) (d31_12 hby) ?_
    refine oStatic K22 16 0 (wq hw 77) (wq hw 78) (wq hw 14) (wq hw 79) (rmCkI l Z a0 z0 fm G ((3 : Int32)) ((4 : Int32)) h14 K22.old K22.both (by decide) (by decide)) [(.int 3), (.int 4)] [] (lenOf pd636 rfl) (d31_13 hby) ?_
    intro T23 h25 v26 lo27 fs28 K24 Kp29 q30
    obtain ⟨rfl, rfl⟩ := q30
    have K31 := K24.to 0 0 []
    refine Owe.stk [] ?_
    refine oAloadN K31 17 (d31_16 hby) rfl rfl ?_
    refine oGetF K31 20 (wq hw 31) ((f3.keep Kp18 nin0).keep Kp29 nin0) (d31_17 hby) ?_
    intro T32 K33
    refine oIloadN K33 21 (d31_20 hby) rfl ?_
    refine oBaload K33 22 ((A7.keep Kp18 nin0).keep Kp29 nin0) 3 (by decide) (by decide) rfl (d31_21 hby) ?_
    refine oSipushV K33 25 (255 : Int32) (d31_22 hby) (by decide) ?_
    refine oIand K33 26 (d31_25 hby) ?_
    refine Owe.stk [(.int c3)] ?_ (congrArg (fun z => [Value.int z]) (own_lat P1 l11))
    exact oRetI K33 [] (t := .int) hret (by simp) rfl (d31_26 hby) (by decide) (by decide) hlk (fun x hx => by cases hx) ⟨rfl, rfl⟩
  · have A7 : Ary Z h0 t1 .byte [(.int (byt (c0 >>> ((0 : Int32) &&& 31)))), (.int (byt (c0 >>> ((8 : Int32) &&& 31)))), (.int (byt (c1 >>> ((0 : Int32) &&& 31)))), (.int (byt (c1 >>> ((8 : Int32) &&& 31)))), (.int (byt (c2 >>> ((0 : Int32) &&& 31)))), (.int (byt (c2 >>> ((8 : Int32) &&& 31)))), (.int (byt (c3 >>> ((0 : Int32) &&& 31)))), (.int (byt (c3 >>> ((8 : Int32) &&& 31))))] := A5
    refine oAloadN K0 1 (d31_0 hby) rfl rfl ?_
    refine oVirtual K0 4 0 (wq hw 72) (wq hw 73) (nfSel (wq hw 75)) (wq hw 75) (wq hw 74) (wq hw 14) (wq hw 76) f2 (rmIsL1 l Z a0 z0 fm G x h0 K0.old K0.both f4) [] [] (lenOf pd629 rfl) (d31_1 hby) ?_
    intro T34 h36 v37 lo38 fs39 K35 Kp40 q41
    obtain ⟨rfl, rfl⟩ := q41
    have K42 := K35.to 0 0 []
    refine Owe.stk [(.int 0)] ?_
    refine oIfYes K42 27 (d31_4 hby) (XT.i0_eq_t (by decide)) ?_
    refine oAloadN K42 28 (d31_27 hby) rfl rfl ?_
    refine oGetF K42 31 (wq hw 31) (f3.keep Kp40 nin0) (d31_28 hby) ?_
    intro T43 K44
    refine oLen K44 32 (A7.keep Kp40 nin0) (n := (8 : Int32)) (by first | rfl | decide) (d31_31 hby) ?_
    refine oIconstV K44 33 (1 : Int32) (d31_32 hby) rfl ?_
    refine oIshr K44 34 (d31_33 hby) ?_
    show Owe _ _ _ _ T43 (mkF m 34 #[.val (.ref x), .val (.int 3), .unset] [(.int 4)])
    refine oIstoreN K44 35 (d31_34 hby) (l' := #[.val (.ref x), .val (.int 3), .val (.int 4)]) rfl ?_
    refine oIloadN K44 36 (d31_35 hby) rfl ?_
    refine oIloadN K44 37 (d31_36 hby) rfl ?_
    refine oStatic K44 40 0 (wq hw 77) (wq hw 78) (wq hw 14) (wq hw 79) (rmCkI l Z a0 z0 fm G ((3 : Int32)) ((4 : Int32)) h36 K44.old K44.both (by decide) (by decide)) [(.int 3), (.int 4)] [] (lenOf pd636 rfl) (d31_37 hby) ?_
    intro T45 h47 v48 lo49 fs50 K46 Kp51 q52
    obtain ⟨rfl, rfl⟩ := q52
    have K53 := K46.to 0 0 []
    refine Owe.stk [] ?_
    refine oAloadN K53 41 (d31_40 hby) rfl rfl ?_
    refine oGetF K53 44 (wq hw 31) ((f3.keep Kp40 nin0).keep Kp51 nin0) (d31_41 hby) ?_
    intro T54 K55
    refine oIloadN K55 45 (d31_44 hby) rfl ?_
    refine oIloadN K55 46 (d31_45 hby) rfl ?_
    refine oStatic K55 49 0 (wq hw 126) (wq hw 127) (wq hw 53) (wq hw 128) (rmCPu4_3 l Z a0 z0 fm G t1 c0 c1 c2 c3 h47 K55.old K55.both ((A7.keep Kp40 nin0).keep Kp51 nin0) P1 P2) [(.ref t1), (.int 3), (.int 4)] [] (lenOf pd658 rfl) (d31_46 hby) ?_
    intro T56 h58 v59 lo60 fs61 K57 Kp62 q63
    obtain ⟨rfl, rfl⟩ := q63
    have K64 := K57.to 0 0 []
    refine Owe.stk [(.int c3)] ?_
    exact oRetI K64 [] (t := .int) hret (by simp) rfl (d31_49 hby) (by decide) (by decide) hlk (fun x hx => by cases hx) ⟨rfl, rfl⟩
def scan : List Int32 → Int → Int
  | [], _ => -1
  | [c], i => if 55296 ≤ c.toInt ∧ c.toInt ≤ 57343 then i else -1
  | c :: d :: r, i => if hiI c ∧ loI d then scan r (i + 2) else if 55296 ≤ c.toInt ∧ c.toInt ≤ 57343 then i else scan (d :: r) (i + 1)
theorem inS {c : Int32} (h1 : ¬ c < (55296 : Int32)) (h2 : ¬ (57343 : Int32) < c) : 55296 ≤ c.toInt ∧ c.toInt ≤ 57343 := by
  simp only [Int32.lt_iff_toInt_lt, Int32.reduceToInt] at h1 h2; omega
theorem outS {c : Int32} (h : c < (55296 : Int32) ∨ (57343 : Int32) < c) : ¬ (55296 ≤ c.toInt ∧ c.toInt ≤ 57343) := by
  simp only [Int32.lt_iff_toInt_lt, Int32.reduceToInt] at h; omega
theorem scan_hit {c d : Int32} {r : List Int32} {i : Int} (np : ¬ (hiI c ∧ loI d)) (hs : 55296 ≤ c.toInt ∧ c.toInt ≤ 57343) : scan (c :: d :: r) i = i := by rw [scan, if_neg np, if_pos hs]
theorem scan_hit1 {c : Int32} {i : Int} (hs : 55296 ≤ c.toInt ∧ c.toInt ≤ 57343) : scan [c] i = i := by rw [scan, if_pos hs]
theorem scan_next {c d : Int32} {r : List Int32} {i : Int} (np : ¬ (hiI c ∧ loI d)) (hs : ¬ (55296 ≤ c.toInt ∧ c.toInt ≤ 57343)) : scan (c :: d :: r) i = scan (d :: r) (i + 1) := by rw [scan, if_neg np, if_neg hs]
theorem scan_end {c : Int32} {i : Int} (hs : ¬ (55296 ≤ c.toInt ∧ c.toInt ≤ 57343)) : scan [c] i = scan [] (i + 1) := by simp only [scan, if_neg hs]
theorem scan_pair {c d : Int32} {r : List Int32} {i : Int} (h1 : hiI c) (h2 : loI d) : scan (c :: d :: r) i = scan r (i + 2) := by rw [scan, if_pos ⟨h1, h2⟩]
abbrev y32 := prog_25_method_3_code
theorem d32_2 : DC y32 2 (.iload_n 2) 1 := hb' (by decide +kernel)
theorem d32_3 : DC y32 3 (.aload_n 0) 1 := hb' (by decide +kernel)
theorem d32_4 : DC y32 4 (.invokevirtual 25) 3 := hb' (by decide +kernel)
theorem pd680 : parseMethodDescriptor "()I" = some ⟨[], some .int⟩ := by decide +kernel
theorem d32_7 : DC y32 7 (.if_icmp .ge 33) 3 := hb' (by decide +kernel)
theorem d32_40 : DC y32 40 (.iconst (-1)) 1 := hb' (by decide +kernel)
theorem d32_41 : DC y32 41 (.ireturn) 1 := hb' (by decide +kernel)
theorem sgLS1_1 (G : Gl Z a0 z0 fm) (x : Addr) (b : Nat) (f q c0 : Int32) (hby : c.code = prog_25_method_3_code) (hret : meth.sig.returnType = (some .int)) (hlk : meth.locks = false) (h0 : Heap)
    (K0 : Wk p l e (rmk 6 0 0 150) s m #[(.ref x), (.int f)] below meth c Z a0 ELs "com/example/mangrove/mangrove/Utf8Text" 4 [] [] T0 lo0 0 0 h0) (P0 : Str Z h0 b x [c0]) (P1 : ¬ c0 < (0 : Int32)) (P2 : ¬ (65535 : Int32) < c0) :
    Owe p e below (PostW Z ELs [] (rmk 6 0 0 150) (fun v h fs => (∃ r : Int32, fs = [] ∧ v = some (.int r) ∧ r.toInt = scan [] 1)) s) T0 (mkF m 2 #[.val (.ref x), .val (.int f), .val (.int 1), .val (.int q)] []) := by
  obtain ⟨hw, hEL, wS, OS, hz0, OA, OH, OL, OF, rfm⟩ := id G
  refine oIloadN K0 3 (d32_2 hby) rfl ?_
  refine oAloadN K0 4 (d32_3 hby) rfl rfl ?_
  refine oVirtual K0 7 1 (wq hw 40) (wq hw 41) (nfSel (wq hw 43)) (wq hw 43) (wq hw 42) (wq hw 14) (wq hw 44) P0.exa (rmLen1 l Z a0 z0 fm G x b c0 h0 K0.old K0.both P0) [] [(.int 1)] (lenOf pd680 rfl) (d32_4 hby) ?_
  intro T1 h3 v4 lo5 fs6 K2 Kp7 q8
  obtain ⟨rfl, rfl⟩ := q8
  have K9 := K2.to 0 0 []
  refine Owe.stk [(.int 1), (.int 1)] ?_
  refine oIcmpYes K9 40 (d32_7 hby) (XT.ii_ge_t (by decide)) ?_
  refine oIconstV K9 41 (-1 : Int32) (d32_40 hby) rfl ?_
  exact oRetI K9 [] (t := .int) hret (by simp) rfl (d32_41 hby) (by decide) (by decide) hlk (fun x hx => by cases hx) ⟨(-1 : Int32), rfl, rfl, rfl⟩
theorem sgLS2_2 (G : Gl Z a0 z0 fm) (x : Addr) (b : Nat) (f q c0 c1 : Int32) (hby : c.code = prog_25_method_3_code) (hret : meth.sig.returnType = (some .int)) (hlk : meth.locks = false) (h0 : Heap)
    (K0 : Wk p l e (rmk 6 0 0 150) s m #[(.ref x), (.int f)] below meth c Z a0 ELs "com/example/mangrove/mangrove/Utf8Text" 4 [] [] T0 lo0 0 0 h0) (P0 : Str Z h0 b x [c0, c1]) (P1 : ¬ c0 < (0 : Int32)) (P2 : ¬ (65535 : Int32) < c0) (P3 : ¬ c1 < (0 : Int32)) (P4 : ¬ (65535 : Int32) < c1) :
    Owe p e below (PostW Z ELs [] (rmk 6 0 0 150) (fun v h fs => (∃ r : Int32, fs = [] ∧ v = some (.int r) ∧ r.toInt = scan [] 2)) s) T0 (mkF m 2 #[.val (.ref x), .val (.int f), .val (.int 2), .val (.int q)] []) := by
  obtain ⟨hw, hEL, wS, OS, hz0, OA, OH, OL, OF, rfm⟩ := id G
  refine oIloadN K0 3 (d32_2 hby) rfl ?_
  refine oAloadN K0 4 (d32_3 hby) rfl rfl ?_
  refine oVirtual K0 7 1 (wq hw 40) (wq hw 41) (nfSel (wq hw 43)) (wq hw 43) (wq hw 42) (wq hw 14) (wq hw 44) P0.exa (rmLen2 l Z a0 z0 fm G x b c0 c1 h0 K0.old K0.both P0) [] [(.int 2)] (lenOf pd680 rfl) (d32_4 hby) ?_
  intro T1 h3 v4 lo5 fs6 K2 Kp7 q8
  obtain ⟨rfl, rfl⟩ := q8
  have K9 := K2.to 0 0 []
  refine Owe.stk [(.int 2), (.int 2)] ?_
  refine oIcmpYes K9 40 (d32_7 hby) (XT.ii_ge_t (by decide)) ?_
  refine oIconstV K9 41 (-1 : Int32) (d32_40 hby) rfl ?_
  exact oRetI K9 [] (t := .int) hret (by simp) rfl (d32_41 hby) (by decide) (by decide) hlk (fun x hx => by cases hx) ⟨(-1 : Int32), rfl, rfl, rfl⟩
theorem d32_10 : DC y32 10 (.aload_n 0) 1 := hb' (by decide +kernel)
theorem d32_11 : DC y32 11 (.iload_n 2) 1 := hb' (by decide +kernel)
theorem d32_12 : DC y32 12 (.invokevirtual 31) 3 := hb' (by decide +kernel)
theorem d32_15 : DC y32 15 (.istore_n 3) 1 := hb' (by decide +kernel)
theorem d32_30 : DC y32 30 (.iload_n 2) 1 := hb' (by decide +kernel)
theorem d32_31 : DC y32 31 (.iload_n 3) 1 := hb' (by decide +kernel)
theorem d32_32 : DC y32 32 (.invokestatic 39) 3 := hb' (by decide +kernel)
theorem d32_35 : DC y32 35 (.iadd) 1 := hb' (by decide +kernel)
theorem d32_36 : DC y32 36 (.istore_n 2) 1 := hb' (by decide +kernel)
theorem d32_37 : DC y32 37 (.goto (-35)) 3 := hb' (by decide +kernel)
theorem d32_16 : DC y32 16 (.iload_n 3) 1 := hb' (by decide +kernel)
theorem d32_17 : DC y32 17 (.ldc 37) 2 := hb' (by decide +kernel)
theorem d32_19 : DC y32 19 (.if_icmp .lt 11) 3 := hb' (by decide +kernel)
theorem d32_22 : DC y32 22 (.iload_n 3) 1 := hb' (by decide +kernel)
theorem d32_23 : DC y32 23 (.ldc 38) 2 := hb' (by decide +kernel)
theorem d32_25 : DC y32 25 (.if_icmp .gt 5) 3 := hb' (by decide +kernel)
theorem d32_28 : DC y32 28 (.iload_n 2) 1 := hb' (by decide +kernel)
theorem d32_29 : DC y32 29 (.ireturn) 1 := hb' (by decide +kernel)
theorem sgLS2_1 (G : Gl Z a0 z0 fm) (x : Addr) (b : Nat) (f q c0 c1 : Int32) (hby : c.code = prog_25_method_3_code) (hret : meth.sig.returnType = (some .int)) (hlk : meth.locks = false) (h0 : Heap)
    (K0 : Wk p l e (rmk 6 0 0 150) s m #[(.ref x), (.int f)] below meth c Z a0 ELs "com/example/mangrove/mangrove/Utf8Text" 4 [] [] T0 lo0 0 0 h0) (P0 : Str Z h0 b x [c0, c1]) (P1 : ¬ c0 < (0 : Int32)) (P2 : ¬ (65535 : Int32) < c0) (P3 : ¬ c1 < (0 : Int32)) (P4 : ¬ (65535 : Int32) < c1) :
    Owe p e below (PostW Z ELs [] (rmk 6 0 0 150) (fun v h fs => (∃ r : Int32, fs = [] ∧ v = some (.int r) ∧ r.toInt = scan [c1] 1)) s) T0 (mkF m 2 #[.val (.ref x), .val (.int f), .val (.int 1), .val (.int q)] []) := by
  obtain ⟨hw, hEL, wS, OS, hz0, OA, OH, OL, OF, rfm⟩ := id G
  refine oIloadN K0 3 (d32_2 hby) rfl ?_
  refine oAloadN K0 4 (d32_3 hby) rfl rfl ?_
  refine oVirtual K0 7 1 (wq hw 40) (wq hw 41) (nfSel (wq hw 43)) (wq hw 43) (wq hw 42) (wq hw 14) (wq hw 44) P0.exa (rmLen2 l Z a0 z0 fm G x b c0 c1 h0 K0.old K0.both P0) [] [(.int 1)] (lenOf pd680 rfl) (d32_4 hby) ?_
  intro T1 h3 v4 lo5 fs6 K2 Kp7 q8
  obtain ⟨rfl, rfl⟩ := q8
  have K9 := K2.to 0 0 []
  refine Owe.stk [(.int 2), (.int 1)] ?_
  refine oIcmpNo K9 10 (d32_7 hby) (XT.ii_ge_f (by decide)) ?_
  refine oAloadN K9 11 (d32_10 hby) rfl rfl ?_
  refine oIloadN K9 12 (d32_11 hby) rfl ?_
  refine oVirtual K9 15 0 (wq hw 67) (wq hw 68) (nfSel (wq hw 70)) (wq hw 70) (wq hw 69) (wq hw 14) (wq hw 71) (P0.exa.keep Kp7) (rmCP2_1 l Z a0 z0 fm G x b c0 c1 h3 K9.old K9.both (P0.keep Kp7 geN) P3 P4) [(.int 1)] [] (lenOf pd45 rfl) (d32_12 hby) ?_
  intro T10 h12 v13 lo14 fs15 K11 Kp16 q17
  obtain ⟨rfl, rfl⟩ := q17
  have K18 := K11.to 0 0 []
  refine Owe.stk [(.int c1)] ?_
  refine oIstoreN K18 16 (d32_15 hby) (l' := #[.val (.ref x), .val (.int f), .val (.int 1), .val (.int c1)]) rfl ?_
  refine Owe.join (P := ((c1 < (55296 : Int32)) ∨ ((57343 : Int32) < c1))) (mkF m 30 #[.val (.ref x), .val (.int f), .val (.int 1), .val (.int c1)] []) ?_ ?_
  · intro hj19
    refine oIloadN K18 31 (d32_30 hby) rfl ?_
    refine oIloadN K18 32 (d32_31 hby) rfl ?_
    refine oStatic K18 35 1 (wq hw 86) (wq hw 87) (wq hw 88) (wq hw 89) (rmCC1 l Z a0 z0 fm G c1 h12 K18.old K18.both (by simp only [hiI, loI, Int32.lt_iff_toInt_lt, Int32.reduceToInt] at P3 P4 hj19 ⊢; omega)) [(.int c1)] [(.int 1)] (lenOf pd45 rfl) (d32_32 hby) ?_
    intro T21 h23 v24 lo25 fs26 K22 Kp27 q28
    obtain ⟨rfl, rfl⟩ := q28
    have K29 := K22.to 0 0 []
    refine Owe.stk [(.int 1), (.int 1)] ?_
    refine oIadd K29 36 (d32_35 hby) ?_
    show Owe _ _ _ _ T21 (mkF m 36 #[.val (.ref x), .val (.int f), .val (.int 1), .val (.int c1)] [(.int 2)])
    refine oIstoreN K29 37 (d32_36 hby) (l' := #[.val (.ref x), .val (.int f), .val (.int 2), .val (.int c1)]) rfl ?_
    refine oGoto K29 2 (d32_37 hby) ?_
    exact Owe.mono (fun _ _ _ ⟨r, e1, e2, e3⟩ => ⟨r, e1, e2, e3.trans (scan_end (i := 1) (outS hj19)).symm⟩) (sgLS2_2 l Z a0 z0 fm G x b f c1 c0 c1 hby hret hlk h23 (K29.to 0 0 [] (q := by simp)) (((P0.keep Kp7 geN).keep Kp16 geN).keep Kp27 geN) P1 P2 P3 P4)
  · intro tl20
    refine oIloadN K18 17 (d32_16 hby) rfl ?_
    refine oLdcI K18 19 (wq hw 85) (d32_17 hby) ?_
    by_cases hc30 : c1 < (55296 : Int32)
    · refine oIcmpYes K18 30 (d32_19 hby) (XT.ii_lt_t hc30) ?_
      exact tl20 (Or.inl hc30)
    · refine oIcmpNo K18 22 (d32_19 hby) (XT.ii_lt_f hc30) ?_
      refine oIloadN K18 23 (d32_22 hby) rfl ?_
      refine oLdcI K18 25 (wq hw 137) (d32_23 hby) ?_
      by_cases hc31 : (57343 : Int32) < c1
      · refine oIcmpYes K18 30 (d32_25 hby) (XT.ii_gt_t hc31) ?_
        exact tl20 (Or.inr hc31)
      · refine oIcmpNo K18 28 (d32_25 hby) (XT.ii_gt_f hc31) ?_
        refine oIloadN K18 29 (d32_28 hby) rfl ?_
        exact oRetI K18 [] (t := .int) hret (by simp) rfl (d32_29 hby) (by decide) (by decide) hlk (fun x hx => by cases hx) ⟨(1 : Int32), rfl, rfl, (scan_hit1 (inS hc30 hc31)).symm⟩
theorem sgLS3_3 (G : Gl Z a0 z0 fm) (x : Addr) (b : Nat) (f q c0 c1 c2 : Int32) (hby : c.code = prog_25_method_3_code) (hret : meth.sig.returnType = (some .int)) (hlk : meth.locks = false) (h0 : Heap)
    (K0 : Wk p l e (rmk 6 0 0 150) s m #[(.ref x), (.int f)] below meth c Z a0 ELs "com/example/mangrove/mangrove/Utf8Text" 4 [] [] T0 lo0 0 0 h0) (P0 : Str Z h0 b x [c0, c1, c2]) (P1 : ¬ c0 < (0 : Int32)) (P2 : ¬ (65535 : Int32) < c0) (P3 : ¬ c1 < (0 : Int32)) (P4 : ¬ (65535 : Int32) < c1) (P5 : ¬ c2 < (0 : Int32)) (P6 : ¬ (65535 : Int32) < c2) :
    Owe p e below (PostW Z ELs [] (rmk 6 0 0 150) (fun v h fs => (∃ r : Int32, fs = [] ∧ v = some (.int r) ∧ r.toInt = scan [] 3)) s) T0 (mkF m 2 #[.val (.ref x), .val (.int f), .val (.int 3), .val (.int q)] []) := by
  obtain ⟨hw, hEL, wS, OS, hz0, OA, OH, OL, OF, rfm⟩ := id G
  refine oIloadN K0 3 (d32_2 hby) rfl ?_
  refine oAloadN K0 4 (d32_3 hby) rfl rfl ?_
  refine oVirtual K0 7 1 (wq hw 40) (wq hw 41) (nfSel (wq hw 43)) (wq hw 43) (wq hw 42) (wq hw 14) (wq hw 44) P0.exa (rmLen3 l Z a0 z0 fm G x b c0 c1 c2 h0 K0.old K0.both P0) [] [(.int 3)] (lenOf pd680 rfl) (d32_4 hby) ?_
  intro T1 h3 v4 lo5 fs6 K2 Kp7 q8
  obtain ⟨rfl, rfl⟩ := q8
  have K9 := K2.to 0 0 []
  refine Owe.stk [(.int 3), (.int 3)] ?_
  refine oIcmpYes K9 40 (d32_7 hby) (XT.ii_ge_t (by decide)) ?_
  refine oIconstV K9 41 (-1 : Int32) (d32_40 hby) rfl ?_
  exact oRetI K9 [] (t := .int) hret (by simp) rfl (d32_41 hby) (by decide) (by decide) hlk (fun x hx => by cases hx) ⟨(-1 : Int32), rfl, rfl, rfl⟩
theorem sgLS3_2 (G : Gl Z a0 z0 fm) (x : Addr) (b : Nat) (f q c0 c1 c2 : Int32) (hby : c.code = prog_25_method_3_code) (hret : meth.sig.returnType = (some .int)) (hlk : meth.locks = false) (h0 : Heap)
    (K0 : Wk p l e (rmk 6 0 0 150) s m #[(.ref x), (.int f)] below meth c Z a0 ELs "com/example/mangrove/mangrove/Utf8Text" 4 [] [] T0 lo0 0 0 h0) (P0 : Str Z h0 b x [c0, c1, c2]) (P1 : ¬ c0 < (0 : Int32)) (P2 : ¬ (65535 : Int32) < c0) (P3 : ¬ c1 < (0 : Int32)) (P4 : ¬ (65535 : Int32) < c1) (P5 : ¬ c2 < (0 : Int32)) (P6 : ¬ (65535 : Int32) < c2) :
    Owe p e below (PostW Z ELs [] (rmk 6 0 0 150) (fun v h fs => (∃ r : Int32, fs = [] ∧ v = some (.int r) ∧ r.toInt = scan [c2] 2)) s) T0 (mkF m 2 #[.val (.ref x), .val (.int f), .val (.int 2), .val (.int q)] []) := by
  obtain ⟨hw, hEL, wS, OS, hz0, OA, OH, OL, OF, rfm⟩ := id G
  refine oIloadN K0 3 (d32_2 hby) rfl ?_
  refine oAloadN K0 4 (d32_3 hby) rfl rfl ?_
  refine oVirtual K0 7 1 (wq hw 40) (wq hw 41) (nfSel (wq hw 43)) (wq hw 43) (wq hw 42) (wq hw 14) (wq hw 44) P0.exa (rmLen3 l Z a0 z0 fm G x b c0 c1 c2 h0 K0.old K0.both P0) [] [(.int 2)] (lenOf pd680 rfl) (d32_4 hby) ?_
  intro T1 h3 v4 lo5 fs6 K2 Kp7 q8
  obtain ⟨rfl, rfl⟩ := q8
  have K9 := K2.to 0 0 []
  refine Owe.stk [(.int 3), (.int 2)] ?_
  refine oIcmpNo K9 10 (d32_7 hby) (XT.ii_ge_f (by decide)) ?_
  refine oAloadN K9 11 (d32_10 hby) rfl rfl ?_
  refine oIloadN K9 12 (d32_11 hby) rfl ?_
  refine oVirtual K9 15 0 (wq hw 67) (wq hw 68) (nfSel (wq hw 70)) (wq hw 70) (wq hw 69) (wq hw 14) (wq hw 71) (P0.exa.keep Kp7) (rmCP3_2 l Z a0 z0 fm G x b c0 c1 c2 h3 K9.old K9.both (P0.keep Kp7 geN) P5 P6) [(.int 2)] [] (lenOf pd45 rfl) (d32_12 hby) ?_
  intro T10 h12 v13 lo14 fs15 K11 Kp16 q17
  obtain ⟨rfl, rfl⟩ := q17
  have K18 := K11.to 0 0 []
  refine Owe.stk [(.int c2)] ?_
  refine oIstoreN K18 16 (d32_15 hby) (l' := #[.val (.ref x), .val (.int f), .val (.int 2), .val (.int c2)]) rfl ?_
  refine Owe.join (P := ((c2 < (55296 : Int32)) ∨ ((57343 : Int32) < c2))) (mkF m 30 #[.val (.ref x), .val (.int f), .val (.int 2), .val (.int c2)] []) ?_ ?_
  · intro hj19
    refine oIloadN K18 31 (d32_30 hby) rfl ?_
    refine oIloadN K18 32 (d32_31 hby) rfl ?_
    refine oStatic K18 35 1 (wq hw 86) (wq hw 87) (wq hw 88) (wq hw 89) (rmCC1 l Z a0 z0 fm G c2 h12 K18.old K18.both (by simp only [hiI, loI, Int32.lt_iff_toInt_lt, Int32.reduceToInt] at P5 P6 hj19 ⊢; omega)) [(.int c2)] [(.int 2)] (lenOf pd45 rfl) (d32_32 hby) ?_
    intro T21 h23 v24 lo25 fs26 K22 Kp27 q28
    obtain ⟨rfl, rfl⟩ := q28
    have K29 := K22.to 0 0 []
    refine Owe.stk [(.int 1), (.int 2)] ?_
    refine oIadd K29 36 (d32_35 hby) ?_
    show Owe _ _ _ _ T21 (mkF m 36 #[.val (.ref x), .val (.int f), .val (.int 2), .val (.int c2)] [(.int 3)])
    refine oIstoreN K29 37 (d32_36 hby) (l' := #[.val (.ref x), .val (.int f), .val (.int 3), .val (.int c2)]) rfl ?_
    refine oGoto K29 2 (d32_37 hby) ?_
    exact Owe.mono (fun _ _ _ ⟨r, e1, e2, e3⟩ => ⟨r, e1, e2, e3.trans (scan_end (i := 2) (outS hj19)).symm⟩) (sgLS3_3 l Z a0 z0 fm G x b f c2 c0 c1 c2 hby hret hlk h23 (K29.to 0 0 [] (q := by simp)) (((P0.keep Kp7 geN).keep Kp16 geN).keep Kp27 geN) P1 P2 P3 P4 P5 P6)
  · intro tl20
    refine oIloadN K18 17 (d32_16 hby) rfl ?_
    refine oLdcI K18 19 (wq hw 85) (d32_17 hby) ?_
    by_cases hc30 : c2 < (55296 : Int32)
    · refine oIcmpYes K18 30 (d32_19 hby) (XT.ii_lt_t hc30) ?_
      exact tl20 (Or.inl hc30)
    · refine oIcmpNo K18 22 (d32_19 hby) (XT.ii_lt_f hc30) ?_
      refine oIloadN K18 23 (d32_22 hby) rfl ?_
      refine oLdcI K18 25 (wq hw 137) (d32_23 hby) ?_
      by_cases hc31 : (57343 : Int32) < c2
      · refine oIcmpYes K18 30 (d32_25 hby) (XT.ii_gt_t hc31) ?_
        exact tl20 (Or.inr hc31)
      · refine oIcmpNo K18 28 (d32_25 hby) (XT.ii_gt_f hc31) ?_
        refine oIloadN K18 29 (d32_28 hby) rfl ?_
        exact oRetI K18 [] (t := .int) hret (by simp) rfl (d32_29 hby) (by decide) (by decide) hlk (fun x hx => by cases hx) ⟨(2 : Int32), rfl, rfl, (scan_hit1 (inS hc30 hc31)).symm⟩
theorem sgLS3_1 (G : Gl Z a0 z0 fm) (x : Addr) (b : Nat) (f q c0 c1 c2 : Int32) (hby : c.code = prog_25_method_3_code) (hret : meth.sig.returnType = (some .int)) (hlk : meth.locks = false) (h0 : Heap)
    (K0 : Wk p l e (rmk 6 0 0 150) s m #[(.ref x), (.int f)] below meth c Z a0 ELs "com/example/mangrove/mangrove/Utf8Text" 4 [] [] T0 lo0 0 0 h0) (P0 : Str Z h0 b x [c0, c1, c2]) (P1 : ¬ c0 < (0 : Int32)) (P2 : ¬ (65535 : Int32) < c0) (P3 : ¬ c1 < (0 : Int32)) (P4 : ¬ (65535 : Int32) < c1) (P5 : ¬ c2 < (0 : Int32)) (P6 : ¬ (65535 : Int32) < c2) :
    Owe p e below (PostW Z ELs [] (rmk 6 0 0 150) (fun v h fs => (∃ r : Int32, fs = [] ∧ v = some (.int r) ∧ r.toInt = scan [c1, c2] 1)) s) T0 (mkF m 2 #[.val (.ref x), .val (.int f), .val (.int 1), .val (.int q)] []) := by
  obtain ⟨hw, hEL, wS, OS, hz0, OA, OH, OL, OF, rfm⟩ := id G
  refine oIloadN K0 3 (d32_2 hby) rfl ?_
  refine oAloadN K0 4 (d32_3 hby) rfl rfl ?_
  refine oVirtual K0 7 1 (wq hw 40) (wq hw 41) (nfSel (wq hw 43)) (wq hw 43) (wq hw 42) (wq hw 14) (wq hw 44) P0.exa (rmLen3 l Z a0 z0 fm G x b c0 c1 c2 h0 K0.old K0.both P0) [] [(.int 1)] (lenOf pd680 rfl) (d32_4 hby) ?_
  intro T1 h3 v4 lo5 fs6 K2 Kp7 q8
  obtain ⟨rfl, rfl⟩ := q8
  have K9 := K2.to 0 0 []
  refine Owe.stk [(.int 3), (.int 1)] ?_
  refine oIcmpNo K9 10 (d32_7 hby) (XT.ii_ge_f (by decide)) ?_
  refine oAloadN K9 11 (d32_10 hby) rfl rfl ?_
  refine oIloadN K9 12 (d32_11 hby) rfl ?_
  refine oVirtual K9 15 0 (wq hw 67) (wq hw 68) (nfSel (wq hw 70)) (wq hw 70) (wq hw 69) (wq hw 14) (wq hw 71) (P0.exa.keep Kp7) (rmCP3_1 l Z a0 z0 fm G x b c0 c1 c2 h3 K9.old K9.both (P0.keep Kp7 geN) P3 P4 P5 P6) [(.int 1)] [] (lenOf pd45 rfl) (d32_12 hby) ?_
  intro T10 h12 v13 lo14 fs15 K11 Kp16 q17
  rcases q17 with qq17_0 | qq17_1
  · obtain ⟨r18, rfl, rfl, f19, f20, f21, f22⟩ := qq17_0
    have K23 := K11.to 0 0 []
    refine Owe.stk [(.int r18)] ?_
    refine oIstoreN K23 16 (d32_15 hby) (l' := #[.val (.ref x), .val (.int f), .val (.int 1), .val (.int r18)]) rfl ?_
    refine oIloadN K23 17 (d32_16 hby) rfl ?_
    refine oLdcI K23 19 (wq hw 85) (d32_17 hby) ?_
    by_cases hc24 : r18 < (55296 : Int32)
    · refine oIcmpYes K23 30 (d32_19 hby) (XT.ii_lt_t hc24) ?_
      refine oIloadN K23 31 (d32_30 hby) rfl ?_
      refine oIloadN K23 32 (d32_31 hby) rfl ?_
      refine oStatic K23 35 1 (wq hw 86) (wq hw 87) (wq hw 88) (wq hw 89) (rmCC2 l Z a0 z0 fm G r18 h12 K23.old K23.both f21) [(.int r18)] [(.int 1)] (lenOf pd45 rfl) (d32_32 hby) ?_
      intro T25 h27 v28 lo29 fs30 K26 Kp31 q32
      obtain ⟨rfl, rfl⟩ := q32
      have K33 := K26.to 0 0 []
      refine Owe.stk [(.int 2), (.int 1)] ?_
      refine oIadd K33 36 (d32_35 hby) ?_
      show Owe _ _ _ _ T25 (mkF m 36 #[.val (.ref x), .val (.int f), .val (.int 1), .val (.int r18)] [(.int 3)])
      refine oIstoreN K33 37 (d32_36 hby) (l' := #[.val (.ref x), .val (.int f), .val (.int 3), .val (.int r18)]) rfl ?_
      refine oGoto K33 2 (d32_37 hby) ?_
      exact Owe.mono (fun _ _ _ ⟨r, e1, e2, e3⟩ => ⟨r, e1, e2, e3.trans (scan_pair (i := 1) f19 f20).symm⟩) (sgLS3_3 l Z a0 z0 fm G x b f r18 c0 c1 c2 hby hret hlk h27 (K33.to 0 0 [] (q := by simp)) (((P0.keep Kp7 geN).keep Kp16 geN).keep Kp31 geN) P1 P2 P3 P4 P5 P6)
    · refine oIcmpNo K23 22 (d32_19 hby) (XT.ii_lt_f hc24) ?_
      refine oIloadN K23 23 (d32_22 hby) rfl ?_
      refine oLdcI K23 25 (wq hw 137) (d32_23 hby) ?_
      refine oIcmpYes K23 30 (d32_25 hby) (XT.ii_gt_t f22) ?_
      refine oIloadN K23 31 (d32_30 hby) rfl ?_
      refine oIloadN K23 32 (d32_31 hby) rfl ?_
      refine oStatic K23 35 1 (wq hw 86) (wq hw 87) (wq hw 88) (wq hw 89) (rmCC2 l Z a0 z0 fm G r18 h12 K23.old K23.both f21) [(.int r18)] [(.int 1)] (lenOf pd45 rfl) (d32_32 hby) ?_
      intro T34 h36 v37 lo38 fs39 K35 Kp40 q41
      obtain ⟨rfl, rfl⟩ := q41
      have K42 := K35.to 0 0 []
      refine Owe.stk [(.int 2), (.int 1)] ?_
      refine oIadd K42 36 (d32_35 hby) ?_
      show Owe _ _ _ _ T34 (mkF m 36 #[.val (.ref x), .val (.int f), .val (.int 1), .val (.int r18)] [(.int 3)])
      refine oIstoreN K42 37 (d32_36 hby) (l' := #[.val (.ref x), .val (.int f), .val (.int 3), .val (.int r18)]) rfl ?_
      refine oGoto K42 2 (d32_37 hby) ?_
      exact Owe.mono (fun _ _ _ ⟨r, e1, e2, e3⟩ => ⟨r, e1, e2, e3.trans (scan_pair (i := 1) f19 f20).symm⟩) (sgLS3_3 l Z a0 z0 fm G x b f r18 c0 c1 c2 hby hret hlk h36 (K42.to 0 0 [] (q := by simp)) (((P0.keep Kp7 geN).keep Kp16 geN).keep Kp40 geN) P1 P2 P3 P4 P5 P6)
  · obtain ⟨rfl, rfl, f43⟩ := qq17_1
    have K44 := K11.to 0 0 []
    refine Owe.stk [(.int c1)] ?_
    refine oIstoreN K44 16 (d32_15 hby) (l' := #[.val (.ref x), .val (.int f), .val (.int 1), .val (.int c1)]) rfl ?_
    refine Owe.join (P := ((c1 < (55296 : Int32)) ∨ ((57343 : Int32) < c1))) (mkF m 30 #[.val (.ref x), .val (.int f), .val (.int 1), .val (.int c1)] []) ?_ ?_
    · intro hj45
      refine oIloadN K44 31 (d32_30 hby) rfl ?_
      refine oIloadN K44 32 (d32_31 hby) rfl ?_
      refine oStatic K44 35 1 (wq hw 86) (wq hw 87) (wq hw 88) (wq hw 89) (rmCC1 l Z a0 z0 fm G c1 h12 K44.old K44.both (by simp only [hiI, loI, Int32.lt_iff_toInt_lt, Int32.reduceToInt] at P3 P4 hj45 ⊢; omega)) [(.int c1)] [(.int 1)] (lenOf pd45 rfl) (d32_32 hby) ?_
      intro T47 h49 v50 lo51 fs52 K48 Kp53 q54
      obtain ⟨rfl, rfl⟩ := q54
      have K55 := K48.to 0 0 []
      refine Owe.stk [(.int 1), (.int 1)] ?_
      refine oIadd K55 36 (d32_35 hby) ?_
      show Owe _ _ _ _ T47 (mkF m 36 #[.val (.ref x), .val (.int f), .val (.int 1), .val (.int c1)] [(.int 2)])
      refine oIstoreN K55 37 (d32_36 hby) (l' := #[.val (.ref x), .val (.int f), .val (.int 2), .val (.int c1)]) rfl ?_
      refine oGoto K55 2 (d32_37 hby) ?_
      exact Owe.mono (fun _ _ _ ⟨r, e1, e2, e3⟩ => ⟨r, e1, e2, e3.trans (scan_next (i := 1) f43 (outS hj45)).symm⟩) (sgLS3_2 l Z a0 z0 fm G x b f c1 c0 c1 c2 hby hret hlk h49 (K55.to 0 0 [] (q := by simp)) (((P0.keep Kp7 geN).keep Kp16 geN).keep Kp53 geN) P1 P2 P3 P4 P5 P6)
    · intro tl46
      refine oIloadN K44 17 (d32_16 hby) rfl ?_
      refine oLdcI K44 19 (wq hw 85) (d32_17 hby) ?_
      by_cases hc56 : c1 < (55296 : Int32)
      · refine oIcmpYes K44 30 (d32_19 hby) (XT.ii_lt_t hc56) ?_
        exact tl46 (Or.inl hc56)
      · refine oIcmpNo K44 22 (d32_19 hby) (XT.ii_lt_f hc56) ?_
        refine oIloadN K44 23 (d32_22 hby) rfl ?_
        refine oLdcI K44 25 (wq hw 137) (d32_23 hby) ?_
        by_cases hc57 : (57343 : Int32) < c1
        · refine oIcmpYes K44 30 (d32_25 hby) (XT.ii_gt_t hc57) ?_
          exact tl46 (Or.inr hc57)
        · refine oIcmpNo K44 28 (d32_25 hby) (XT.ii_gt_f hc57) ?_
          refine oIloadN K44 29 (d32_28 hby) rfl ?_
          exact oRetI K44 [] (t := .int) hret (by simp) rfl (d32_29 hby) (by decide) (by decide) hlk (fun x hx => by cases hx) ⟨(1 : Int32), rfl, rfl, (scan_hit f43 (inS hc56 hc57)).symm⟩
theorem sgLS4_4 (G : Gl Z a0 z0 fm) (x : Addr) (b : Nat) (f q c0 c1 c2 c3 : Int32) (hby : c.code = prog_25_method_3_code) (hret : meth.sig.returnType = (some .int)) (hlk : meth.locks = false) (h0 : Heap)
    (K0 : Wk p l e (rmk 6 0 0 150) s m #[(.ref x), (.int f)] below meth c Z a0 ELs "com/example/mangrove/mangrove/Utf8Text" 4 [] [] T0 lo0 0 0 h0) (P0 : Str Z h0 b x [c0, c1, c2, c3]) (P1 : ¬ c0 < (0 : Int32)) (P2 : ¬ (65535 : Int32) < c0) (P3 : ¬ c1 < (0 : Int32)) (P4 : ¬ (65535 : Int32) < c1) (P5 : ¬ c2 < (0 : Int32)) (P6 : ¬ (65535 : Int32) < c2) (P7 : ¬ c3 < (0 : Int32)) (P8 : ¬ (65535 : Int32) < c3) :
    Owe p e below (PostW Z ELs [] (rmk 6 0 0 150) (fun v h fs => (∃ r : Int32, fs = [] ∧ v = some (.int r) ∧ r.toInt = scan [] 4)) s) T0 (mkF m 2 #[.val (.ref x), .val (.int f), .val (.int 4), .val (.int q)] []) := by
  obtain ⟨hw, hEL, wS, OS, hz0, OA, OH, OL, OF, rfm⟩ := id G
  refine oIloadN K0 3 (d32_2 hby) rfl ?_
  refine oAloadN K0 4 (d32_3 hby) rfl rfl ?_
  refine oVirtual K0 7 1 (wq hw 40) (wq hw 41) (nfSel (wq hw 43)) (wq hw 43) (wq hw 42) (wq hw 14) (wq hw 44) P0.exa (rmLen4 l Z a0 z0 fm G x b c0 c1 c2 c3 h0 K0.old K0.both P0) [] [(.int 4)] (lenOf pd680 rfl) (d32_4 hby) ?_
  intro T1 h3 v4 lo5 fs6 K2 Kp7 q8
  obtain ⟨rfl, rfl⟩ := q8
  have K9 := K2.to 0 0 []
  refine Owe.stk [(.int 4), (.int 4)] ?_
  refine oIcmpYes K9 40 (d32_7 hby) (XT.ii_ge_t (by decide)) ?_
  refine oIconstV K9 41 (-1 : Int32) (d32_40 hby) rfl ?_
  exact oRetI K9 [] (t := .int) hret (by simp) rfl (d32_41 hby) (by decide) (by decide) hlk (fun x hx => by cases hx) ⟨(-1 : Int32), rfl, rfl, rfl⟩
theorem sgLS4_3 (G : Gl Z a0 z0 fm) (x : Addr) (b : Nat) (f q c0 c1 c2 c3 : Int32) (hby : c.code = prog_25_method_3_code) (hret : meth.sig.returnType = (some .int)) (hlk : meth.locks = false) (h0 : Heap)
    (K0 : Wk p l e (rmk 6 0 0 150) s m #[(.ref x), (.int f)] below meth c Z a0 ELs "com/example/mangrove/mangrove/Utf8Text" 4 [] [] T0 lo0 0 0 h0) (P0 : Str Z h0 b x [c0, c1, c2, c3]) (P1 : ¬ c0 < (0 : Int32)) (P2 : ¬ (65535 : Int32) < c0) (P3 : ¬ c1 < (0 : Int32)) (P4 : ¬ (65535 : Int32) < c1) (P5 : ¬ c2 < (0 : Int32)) (P6 : ¬ (65535 : Int32) < c2) (P7 : ¬ c3 < (0 : Int32)) (P8 : ¬ (65535 : Int32) < c3) :
    Owe p e below (PostW Z ELs [] (rmk 6 0 0 150) (fun v h fs => (∃ r : Int32, fs = [] ∧ v = some (.int r) ∧ r.toInt = scan [c3] 3)) s) T0 (mkF m 2 #[.val (.ref x), .val (.int f), .val (.int 3), .val (.int q)] []) := by
  obtain ⟨hw, hEL, wS, OS, hz0, OA, OH, OL, OF, rfm⟩ := id G
  refine oIloadN K0 3 (d32_2 hby) rfl ?_
  refine oAloadN K0 4 (d32_3 hby) rfl rfl ?_
  refine oVirtual K0 7 1 (wq hw 40) (wq hw 41) (nfSel (wq hw 43)) (wq hw 43) (wq hw 42) (wq hw 14) (wq hw 44) P0.exa (rmLen4 l Z a0 z0 fm G x b c0 c1 c2 c3 h0 K0.old K0.both P0) [] [(.int 3)] (lenOf pd680 rfl) (d32_4 hby) ?_
  intro T1 h3 v4 lo5 fs6 K2 Kp7 q8
  obtain ⟨rfl, rfl⟩ := q8
  have K9 := K2.to 0 0 []
  refine Owe.stk [(.int 4), (.int 3)] ?_
  refine oIcmpNo K9 10 (d32_7 hby) (XT.ii_ge_f (by decide)) ?_
  refine oAloadN K9 11 (d32_10 hby) rfl rfl ?_
  refine oIloadN K9 12 (d32_11 hby) rfl ?_
  refine oVirtual K9 15 0 (wq hw 67) (wq hw 68) (nfSel (wq hw 70)) (wq hw 70) (wq hw 69) (wq hw 14) (wq hw 71) (P0.exa.keep Kp7) (rmCP4_3 l Z a0 z0 fm G x b c0 c1 c2 c3 h3 K9.old K9.both (P0.keep Kp7 geN) P7 P8) [(.int 3)] [] (lenOf pd45 rfl) (d32_12 hby) ?_
  intro T10 h12 v13 lo14 fs15 K11 Kp16 q17
  obtain ⟨rfl, rfl⟩ := q17
  have K18 := K11.to 0 0 []
  refine Owe.stk [(.int c3)] ?_
  refine oIstoreN K18 16 (d32_15 hby) (l' := #[.val (.ref x), .val (.int f), .val (.int 3), .val (.int c3)]) rfl ?_
  refine Owe.join (P := ((c3 < (55296 : Int32)) ∨ ((57343 : Int32) < c3))) (mkF m 30 #[.val (.ref x), .val (.int f), .val (.int 3), .val (.int c3)] []) ?_ ?_
  · intro hj19
    refine oIloadN K18 31 (d32_30 hby) rfl ?_
    refine oIloadN K18 32 (d32_31 hby) rfl ?_
    refine oStatic K18 35 1 (wq hw 86) (wq hw 87) (wq hw 88) (wq hw 89) (rmCC1 l Z a0 z0 fm G c3 h12 K18.old K18.both (by simp only [hiI, loI, Int32.lt_iff_toInt_lt, Int32.reduceToInt] at P7 P8 hj19 ⊢; omega)) [(.int c3)] [(.int 3)] (lenOf pd45 rfl) (d32_32 hby) ?_
    intro T21 h23 v24 lo25 fs26 K22 Kp27 q28
    obtain ⟨rfl, rfl⟩ := q28
    have K29 := K22.to 0 0 []
    refine Owe.stk [(.int 1), (.int 3)] ?_
    refine oIadd K29 36 (d32_35 hby) ?_
    show Owe _ _ _ _ T21 (mkF m 36 #[.val (.ref x), .val (.int f), .val (.int 3), .val (.int c3)] [(.int 4)])
    refine oIstoreN K29 37 (d32_36 hby) (l' := #[.val (.ref x), .val (.int f), .val (.int 4), .val (.int c3)]) rfl ?_
    refine oGoto K29 2 (d32_37 hby) ?_
    exact Owe.mono (fun _ _ _ ⟨r, e1, e2, e3⟩ => ⟨r, e1, e2, e3.trans (scan_end (i := 3) (outS hj19)).symm⟩) (sgLS4_4 l Z a0 z0 fm G x b f c3 c0 c1 c2 c3 hby hret hlk h23 (K29.to 0 0 [] (q := by simp)) (((P0.keep Kp7 geN).keep Kp16 geN).keep Kp27 geN) P1 P2 P3 P4 P5 P6 P7 P8)
  · intro tl20
    refine oIloadN K18 17 (d32_16 hby) rfl ?_
    refine oLdcI K18 19 (wq hw 85) (d32_17 hby) ?_
    by_cases hc30 : c3 < (55296 : Int32)
    · refine oIcmpYes K18 30 (d32_19 hby) (XT.ii_lt_t hc30) ?_
      exact tl20 (Or.inl hc30)
    · refine oIcmpNo K18 22 (d32_19 hby) (XT.ii_lt_f hc30) ?_
      refine oIloadN K18 23 (d32_22 hby) rfl ?_
      refine oLdcI K18 25 (wq hw 137) (d32_23 hby) ?_
      by_cases hc31 : (57343 : Int32) < c3
      · refine oIcmpYes K18 30 (d32_25 hby) (XT.ii_gt_t hc31) ?_
        exact tl20 (Or.inr hc31)
      · refine oIcmpNo K18 28 (d32_25 hby) (XT.ii_gt_f hc31) ?_
        refine oIloadN K18 29 (d32_28 hby) rfl ?_
        exact oRetI K18 [] (t := .int) hret (by simp) rfl (d32_29 hby) (by decide) (by decide) hlk (fun x hx => by cases hx) ⟨(3 : Int32), rfl, rfl, (scan_hit1 (inS hc30 hc31)).symm⟩
theorem sgLS4_2 (G : Gl Z a0 z0 fm) (x : Addr) (b : Nat) (f q c0 c1 c2 c3 : Int32) (hby : c.code = prog_25_method_3_code) (hret : meth.sig.returnType = (some .int)) (hlk : meth.locks = false) (h0 : Heap)
    (K0 : Wk p l e (rmk 6 0 0 150) s m #[(.ref x), (.int f)] below meth c Z a0 ELs "com/example/mangrove/mangrove/Utf8Text" 4 [] [] T0 lo0 0 0 h0) (P0 : Str Z h0 b x [c0, c1, c2, c3]) (P1 : ¬ c0 < (0 : Int32)) (P2 : ¬ (65535 : Int32) < c0) (P3 : ¬ c1 < (0 : Int32)) (P4 : ¬ (65535 : Int32) < c1) (P5 : ¬ c2 < (0 : Int32)) (P6 : ¬ (65535 : Int32) < c2) (P7 : ¬ c3 < (0 : Int32)) (P8 : ¬ (65535 : Int32) < c3) :
    Owe p e below (PostW Z ELs [] (rmk 6 0 0 150) (fun v h fs => (∃ r : Int32, fs = [] ∧ v = some (.int r) ∧ r.toInt = scan [c2, c3] 2)) s) T0 (mkF m 2 #[.val (.ref x), .val (.int f), .val (.int 2), .val (.int q)] []) := by
  obtain ⟨hw, hEL, wS, OS, hz0, OA, OH, OL, OF, rfm⟩ := id G
  refine oIloadN K0 3 (d32_2 hby) rfl ?_
  refine oAloadN K0 4 (d32_3 hby) rfl rfl ?_
  refine oVirtual K0 7 1 (wq hw 40) (wq hw 41) (nfSel (wq hw 43)) (wq hw 43) (wq hw 42) (wq hw 14) (wq hw 44) P0.exa (rmLen4 l Z a0 z0 fm G x b c0 c1 c2 c3 h0 K0.old K0.both P0) [] [(.int 2)] (lenOf pd680 rfl) (d32_4 hby) ?_
  intro T1 h3 v4 lo5 fs6 K2 Kp7 q8
  obtain ⟨rfl, rfl⟩ := q8
  have K9 := K2.to 0 0 []
  refine Owe.stk [(.int 4), (.int 2)] ?_
  refine oIcmpNo K9 10 (d32_7 hby) (XT.ii_ge_f (by decide)) ?_
  refine oAloadN K9 11 (d32_10 hby) rfl rfl ?_
  refine oIloadN K9 12 (d32_11 hby) rfl ?_
  refine oVirtual K9 15 0 (wq hw 67) (wq hw 68) (nfSel (wq hw 70)) (wq hw 70) (wq hw 69) (wq hw 14) (wq hw 71) (P0.exa.keep Kp7) (rmCP4_2 l Z a0 z0 fm G x b c0 c1 c2 c3 h3 K9.old K9.both (P0.keep Kp7 geN) P5 P6 P7 P8) [(.int 2)] [] (lenOf pd45 rfl) (d32_12 hby) ?_
  intro T10 h12 v13 lo14 fs15 K11 Kp16 q17
  rcases q17 with qq17_0 | qq17_1
  · obtain ⟨r18, rfl, rfl, f19, f20, f21, f22⟩ := qq17_0
    have K23 := K11.to 0 0 []
    refine Owe.stk [(.int r18)] ?_
    refine oIstoreN K23 16 (d32_15 hby) (l' := #[.val (.ref x), .val (.int f), .val (.int 2), .val (.int r18)]) rfl ?_
    refine oIloadN K23 17 (d32_16 hby) rfl ?_
    refine oLdcI K23 19 (wq hw 85) (d32_17 hby) ?_
    by_cases hc24 : r18 < (55296 : Int32)
    · refine oIcmpYes K23 30 (d32_19 hby) (XT.ii_lt_t hc24) ?_
      refine oIloadN K23 31 (d32_30 hby) rfl ?_
      refine oIloadN K23 32 (d32_31 hby) rfl ?_
      refine oStatic K23 35 1 (wq hw 86) (wq hw 87) (wq hw 88) (wq hw 89) (rmCC2 l Z a0 z0 fm G r18 h12 K23.old K23.both f21) [(.int r18)] [(.int 2)] (lenOf pd45 rfl) (d32_32 hby) ?_
      intro T25 h27 v28 lo29 fs30 K26 Kp31 q32
      obtain ⟨rfl, rfl⟩ := q32
      have K33 := K26.to 0 0 []
      refine Owe.stk [(.int 2), (.int 2)] ?_
      refine oIadd K33 36 (d32_35 hby) ?_
      show Owe _ _ _ _ T25 (mkF m 36 #[.val (.ref x), .val (.int f), .val (.int 2), .val (.int r18)] [(.int 4)])
      refine oIstoreN K33 37 (d32_36 hby) (l' := #[.val (.ref x), .val (.int f), .val (.int 4), .val (.int r18)]) rfl ?_
      refine oGoto K33 2 (d32_37 hby) ?_
      exact Owe.mono (fun _ _ _ ⟨r, e1, e2, e3⟩ => ⟨r, e1, e2, e3.trans (scan_pair (i := 2) f19 f20).symm⟩) (sgLS4_4 l Z a0 z0 fm G x b f r18 c0 c1 c2 c3 hby hret hlk h27 (K33.to 0 0 [] (q := by simp)) (((P0.keep Kp7 geN).keep Kp16 geN).keep Kp31 geN) P1 P2 P3 P4 P5 P6 P7 P8)
    · refine oIcmpNo K23 22 (d32_19 hby) (XT.ii_lt_f hc24) ?_
      refine oIloadN K23 23 (d32_22 hby) rfl ?_
      refine oLdcI K23 25 (wq hw 137) (d32_23 hby) ?_
      refine oIcmpYes K23 30 (d32_25 hby) (XT.ii_gt_t f22) ?_
      refine oIloadN K23 31 (d32_30 hby) rfl ?_
      refine oIloadN K23 32 (d32_31 hby) rfl ?_
      refine oStatic K23 35 1 (wq hw 86) (wq hw 87) (wq hw 88) (wq hw 89) (rmCC2 l Z a0 z0 fm G r18 h12 K23.old K23.both f21) [(.int r18)] [(.int 2)] (lenOf pd45 rfl) (d32_32 hby) ?_
      intro T34 h36 v37 lo38 fs39 K35 Kp40 q41
      obtain ⟨rfl, rfl⟩ := q41
      have K42 := K35.to 0 0 []
      refine Owe.stk [(.int 2), (.int 2)] ?_
      refine oIadd K42 36 (d32_35 hby) ?_
      show Owe _ _ _ _ T34 (mkF m 36 #[.val (.ref x), .val (.int f), .val (.int 2), .val (.int r18)] [(.int 4)])
      refine oIstoreN K42 37 (d32_36 hby) (l' := #[.val (.ref x), .val (.int f), .val (.int 4), .val (.int r18)]) rfl ?_
      refine oGoto K42 2 (d32_37 hby) ?_
      exact Owe.mono (fun _ _ _ ⟨r, e1, e2, e3⟩ => ⟨r, e1, e2, e3.trans (scan_pair (i := 2) f19 f20).symm⟩) (sgLS4_4 l Z a0 z0 fm G x b f r18 c0 c1 c2 c3 hby hret hlk h36 (K42.to 0 0 [] (q := by simp)) (((P0.keep Kp7 geN).keep Kp16 geN).keep Kp40 geN) P1 P2 P3 P4 P5 P6 P7 P8)
  · obtain ⟨rfl, rfl, f43⟩ := qq17_1
    have K44 := K11.to 0 0 []
    refine Owe.stk [(.int c2)] ?_
    refine oIstoreN K44 16 (d32_15 hby) (l' := #[.val (.ref x), .val (.int f), .val (.int 2), .val (.int c2)]) rfl ?_
    refine Owe.join (P := ((c2 < (55296 : Int32)) ∨ ((57343 : Int32) < c2))) (mkF m 30 #[.val (.ref x), .val (.int f), .val (.int 2), .val (.int c2)] []) ?_ ?_
    · intro hj45
      refine oIloadN K44 31 (d32_30 hby) rfl ?_
      refine oIloadN K44 32 (d32_31 hby) rfl ?_
      refine oStatic K44 35 1 (wq hw 86) (wq hw 87) (wq hw 88) (wq hw 89) (rmCC1 l Z a0 z0 fm G c2 h12 K44.old K44.both (by simp only [hiI, loI, Int32.lt_iff_toInt_lt, Int32.reduceToInt] at P5 P6 hj45 ⊢; omega)) [(.int c2)] [(.int 2)] (lenOf pd45 rfl) (d32_32 hby) ?_
      intro T47 h49 v50 lo51 fs52 K48 Kp53 q54
      obtain ⟨rfl, rfl⟩ := q54
      have K55 := K48.to 0 0 []
      refine Owe.stk [(.int 1), (.int 2)] ?_
      refine oIadd K55 36 (d32_35 hby) ?_
      show Owe _ _ _ _ T47 (mkF m 36 #[.val (.ref x), .val (.int f), .val (.int 2), .val (.int c2)] [(.int 3)])
      refine oIstoreN K55 37 (d32_36 hby) (l' := #[.val (.ref x), .val (.int f), .val (.int 3), .val (.int c2)]) rfl ?_
      refine oGoto K55 2 (d32_37 hby) ?_
      exact Owe.mono (fun _ _ _ ⟨r, e1, e2, e3⟩ => ⟨r, e1, e2, e3.trans (scan_next (i := 2) f43 (outS hj45)).symm⟩) (sgLS4_3 l Z a0 z0 fm G x b f c2 c0 c1 c2 c3 hby hret hlk h49 (K55.to 0 0 [] (q := by simp)) (((P0.keep Kp7 geN).keep Kp16 geN).keep Kp53 geN) P1 P2 P3 P4 P5 P6 P7 P8)
    · intro tl46
      refine oIloadN K44 17 (d32_16 hby) rfl ?_
      refine oLdcI K44 19 (wq hw 85) (d32_17 hby) ?_
      by_cases hc56 : c2 < (55296 : Int32)
      · refine oIcmpYes K44 30 (d32_19 hby) (XT.ii_lt_t hc56) ?_
        exact tl46 (Or.inl hc56)
      · refine oIcmpNo K44 22 (d32_19 hby) (XT.ii_lt_f hc56) ?_
        refine oIloadN K44 23 (d32_22 hby) rfl ?_
        refine oLdcI K44 25 (wq hw 137) (d32_23 hby) ?_
        by_cases hc57 : (57343 : Int32) < c2
        · refine oIcmpYes K44 30 (d32_25 hby) (XT.ii_gt_t hc57) ?_
          exact tl46 (Or.inr hc57)
        · refine oIcmpNo K44 28 (d32_25 hby) (XT.ii_gt_f hc57) ?_
          refine oIloadN K44 29 (d32_28 hby) rfl ?_
          exact oRetI K44 [] (t := .int) hret (by simp) rfl (d32_29 hby) (by decide) (by decide) hlk (fun x hx => by cases hx) ⟨(2 : Int32), rfl, rfl, (scan_hit f43 (inS hc56 hc57)).symm⟩
theorem sgLS4_1 (G : Gl Z a0 z0 fm) (x : Addr) (b : Nat) (f q c0 c1 c2 c3 : Int32) (hby : c.code = prog_25_method_3_code) (hret : meth.sig.returnType = (some .int)) (hlk : meth.locks = false) (h0 : Heap)
    (K0 : Wk p l e (rmk 6 0 0 150) s m #[(.ref x), (.int f)] below meth c Z a0 ELs "com/example/mangrove/mangrove/Utf8Text" 4 [] [] T0 lo0 0 0 h0) (P0 : Str Z h0 b x [c0, c1, c2, c3]) (P1 : ¬ c0 < (0 : Int32)) (P2 : ¬ (65535 : Int32) < c0) (P3 : ¬ c1 < (0 : Int32)) (P4 : ¬ (65535 : Int32) < c1) (P5 : ¬ c2 < (0 : Int32)) (P6 : ¬ (65535 : Int32) < c2) (P7 : ¬ c3 < (0 : Int32)) (P8 : ¬ (65535 : Int32) < c3) :
    Owe p e below (PostW Z ELs [] (rmk 6 0 0 150) (fun v h fs => (∃ r : Int32, fs = [] ∧ v = some (.int r) ∧ r.toInt = scan [c1, c2, c3] 1)) s) T0 (mkF m 2 #[.val (.ref x), .val (.int f), .val (.int 1), .val (.int q)] []) := by
  obtain ⟨hw, hEL, wS, OS, hz0, OA, OH, OL, OF, rfm⟩ := id G
  refine oIloadN K0 3 (d32_2 hby) rfl ?_
  refine oAloadN K0 4 (d32_3 hby) rfl rfl ?_
  refine oVirtual K0 7 1 (wq hw 40) (wq hw 41) (nfSel (wq hw 43)) (wq hw 43) (wq hw 42) (wq hw 14) (wq hw 44) P0.exa (rmLen4 l Z a0 z0 fm G x b c0 c1 c2 c3 h0 K0.old K0.both P0) [] [(.int 1)] (lenOf pd680 rfl) (d32_4 hby) ?_
  intro T1 h3 v4 lo5 fs6 K2 Kp7 q8
  obtain ⟨rfl, rfl⟩ := q8
  have K9 := K2.to 0 0 []
  refine Owe.stk [(.int 4), (.int 1)] ?_
  refine oIcmpNo K9 10 (d32_7 hby) (XT.ii_ge_f (by decide)) ?_
  refine oAloadN K9 11 (d32_10 hby) rfl rfl ?_
  refine oIloadN K9 12 (d32_11 hby) rfl ?_
  refine oVirtual K9 15 0 (wq hw 67) (wq hw 68) (nfSel (wq hw 70)) (wq hw 70) (wq hw 69) (wq hw 14) (wq hw 71) (P0.exa.keep Kp7) (rmCP4_1 l Z a0 z0 fm G x b c0 c1 c2 c3 h3 K9.old K9.both (P0.keep Kp7 geN) P3 P4 P5 P6) [(.int 1)] [] (lenOf pd45 rfl) (d32_12 hby) ?_
  intro T10 h12 v13 lo14 fs15 K11 Kp16 q17
  rcases q17 with qq17_0 | qq17_1
  · obtain ⟨r18, rfl, rfl, f19, f20, f21, f22⟩ := qq17_0
    have K23 := K11.to 0 0 []
    refine Owe.stk [(.int r18)] ?_
    refine oIstoreN K23 16 (d32_15 hby) (l' := #[.val (.ref x), .val (.int f), .val (.int 1), .val (.int r18)]) rfl ?_
    refine oIloadN K23 17 (d32_16 hby) rfl ?_
    refine oLdcI K23 19 (wq hw 85) (d32_17 hby) ?_
    by_cases hc24 : r18 < (55296 : Int32)
    · refine oIcmpYes K23 30 (d32_19 hby) (XT.ii_lt_t hc24) ?_
      refine oIloadN K23 31 (d32_30 hby) rfl ?_
      refine oIloadN K23 32 (d32_31 hby) rfl ?_
      refine oStatic K23 35 1 (wq hw 86) (wq hw 87) (wq hw 88) (wq hw 89) (rmCC2 l Z a0 z0 fm G r18 h12 K23.old K23.both f21) [(.int r18)] [(.int 1)] (lenOf pd45 rfl) (d32_32 hby) ?_
      intro T25 h27 v28 lo29 fs30 K26 Kp31 q32
      obtain ⟨rfl, rfl⟩ := q32
      have K33 := K26.to 0 0 []
      refine Owe.stk [(.int 2), (.int 1)] ?_
      refine oIadd K33 36 (d32_35 hby) ?_
      show Owe _ _ _ _ T25 (mkF m 36 #[.val (.ref x), .val (.int f), .val (.int 1), .val (.int r18)] [(.int 3)])
      refine oIstoreN K33 37 (d32_36 hby) (l' := #[.val (.ref x), .val (.int f), .val (.int 3), .val (.int r18)]) rfl ?_
      refine oGoto K33 2 (d32_37 hby) ?_
      exact Owe.mono (fun _ _ _ ⟨r, e1, e2, e3⟩ => ⟨r, e1, e2, e3.trans (scan_pair (i := 1) f19 f20).symm⟩) (sgLS4_3 l Z a0 z0 fm G x b f r18 c0 c1 c2 c3 hby hret hlk h27 (K33.to 0 0 [] (q := by simp)) (((P0.keep Kp7 geN).keep Kp16 geN).keep Kp31 geN) P1 P2 P3 P4 P5 P6 P7 P8)
    · refine oIcmpNo K23 22 (d32_19 hby) (XT.ii_lt_f hc24) ?_
      refine oIloadN K23 23 (d32_22 hby) rfl ?_
      refine oLdcI K23 25 (wq hw 137) (d32_23 hby) ?_
      refine oIcmpYes K23 30 (d32_25 hby) (XT.ii_gt_t f22) ?_
      refine oIloadN K23 31 (d32_30 hby) rfl ?_
      refine oIloadN K23 32 (d32_31 hby) rfl ?_
      refine oStatic K23 35 1 (wq hw 86) (wq hw 87) (wq hw 88) (wq hw 89) (rmCC2 l Z a0 z0 fm G r18 h12 K23.old K23.both f21) [(.int r18)] [(.int 1)] (lenOf pd45 rfl) (d32_32 hby) ?_
      intro T34 h36 v37 lo38 fs39 K35 Kp40 q41
      obtain ⟨rfl, rfl⟩ := q41
      have K42 := K35.to 0 0 []
      refine Owe.stk [(.int 2), (.int 1)] ?_
      refine oIadd K42 36 (d32_35 hby) ?_
      show Owe _ _ _ _ T34 (mkF m 36 #[.val (.ref x), .val (.int f), .val (.int 1), .val (.int r18)] [(.int 3)])
      refine oIstoreN K42 37 (d32_36 hby) (l' := #[.val (.ref x), .val (.int f), .val (.int 3), .val (.int r18)]) rfl ?_
      refine oGoto K42 2 (d32_37 hby) ?_
      exact Owe.mono (fun _ _ _ ⟨r, e1, e2, e3⟩ => ⟨r, e1, e2, e3.trans (scan_pair (i := 1) f19 f20).symm⟩) (sgLS4_3 l Z a0 z0 fm G x b f r18 c0 c1 c2 c3 hby hret hlk h36 (K42.to 0 0 [] (q := by simp)) (((P0.keep Kp7 geN).keep Kp16 geN).keep Kp40 geN) P1 P2 P3 P4 P5 P6 P7 P8)
  · obtain ⟨rfl, rfl, f43⟩ := qq17_1
    have K44 := K11.to 0 0 []
    refine Owe.stk [(.int c1)] ?_
    refine oIstoreN K44 16 (d32_15 hby) (l' := #[.val (.ref x), .val (.int f), .val (.int 1), .val (.int c1)]) rfl ?_
    refine Owe.join (P := ((c1 < (55296 : Int32)) ∨ ((57343 : Int32) < c1))) (mkF m 30 #[.val (.ref x), .val (.int f), .val (.int 1), .val (.int c1)] []) ?_ ?_
    · intro hj45
      refine oIloadN K44 31 (d32_30 hby) rfl ?_
      refine oIloadN K44 32 (d32_31 hby) rfl ?_
      refine oStatic K44 35 1 (wq hw 86) (wq hw 87) (wq hw 88) (wq hw 89) (rmCC1 l Z a0 z0 fm G c1 h12 K44.old K44.both (by simp only [hiI, loI, Int32.lt_iff_toInt_lt, Int32.reduceToInt] at P3 P4 hj45 ⊢; omega)) [(.int c1)] [(.int 1)] (lenOf pd45 rfl) (d32_32 hby) ?_
      intro T47 h49 v50 lo51 fs52 K48 Kp53 q54
      obtain ⟨rfl, rfl⟩ := q54
      have K55 := K48.to 0 0 []
      refine Owe.stk [(.int 1), (.int 1)] ?_
      refine oIadd K55 36 (d32_35 hby) ?_
      show Owe _ _ _ _ T47 (mkF m 36 #[.val (.ref x), .val (.int f), .val (.int 1), .val (.int c1)] [(.int 2)])
      refine oIstoreN K55 37 (d32_36 hby) (l' := #[.val (.ref x), .val (.int f), .val (.int 2), .val (.int c1)]) rfl ?_
      refine oGoto K55 2 (d32_37 hby) ?_
      exact Owe.mono (fun _ _ _ ⟨r, e1, e2, e3⟩ => ⟨r, e1, e2, e3.trans (scan_next (i := 1) f43 (outS hj45)).symm⟩) (sgLS4_2 l Z a0 z0 fm G x b f c1 c0 c1 c2 c3 hby hret hlk h49 (K55.to 0 0 [] (q := by simp)) (((P0.keep Kp7 geN).keep Kp16 geN).keep Kp53 geN) P1 P2 P3 P4 P5 P6 P7 P8)
    · intro tl46
      refine oIloadN K44 17 (d32_16 hby) rfl ?_
      refine oLdcI K44 19 (wq hw 85) (d32_17 hby) ?_
      by_cases hc56 : c1 < (55296 : Int32)
      · refine oIcmpYes K44 30 (d32_19 hby) (XT.ii_lt_t hc56) ?_
        exact tl46 (Or.inl hc56)
      · refine oIcmpNo K44 22 (d32_19 hby) (XT.ii_lt_f hc56) ?_
        refine oIloadN K44 23 (d32_22 hby) rfl ?_
        refine oLdcI K44 25 (wq hw 137) (d32_23 hby) ?_
        by_cases hc57 : (57343 : Int32) < c1
        · refine oIcmpYes K44 30 (d32_25 hby) (XT.ii_gt_t hc57) ?_
          exact tl46 (Or.inr hc57)
        · refine oIcmpNo K44 28 (d32_25 hby) (XT.ii_gt_f hc57) ?_
          refine oIloadN K44 29 (d32_28 hby) rfl ?_
          exact oRetI K44 [] (t := .int) hret (by simp) rfl (d32_29 hby) (by decide) (by decide) hlk (fun x hx => by cases hx) ⟨(1 : Int32), rfl, rfl, (scan_hit f43 (inS hc56 hc57)).symm⟩
theorem d32_0 : DC y32 0 (.iload_n 1) 1 := hb' (by decide +kernel)
theorem d32_1 : DC y32 1 (.istore_n 2) 1 := hb' (by decide +kernel)
theorem ef704 (m : MethodId) (x0 : Addr) (x1 : Int32) : entryFrame m #[(.ref x0), (.int x1)] 4 = mkF m 0 #[.val (.ref x0), .val (.int x1), .unset, .unset] [] := by first | (simp [entryFrame, mkF, argsToLocals, Value.category]; done) | rfl
abbrev yn705 : MethodName := ⟨"com/example/mangrove/mangrove/Utf8Text", "loneSurrogateAt", "(Ljava/lang/String;I)I"⟩
theorem pn706 : plainName "com/example/mangrove/mangrove/Utf8Text" = true := by first | (simp [plainName, overriddenIn]; done) | decide +kernel
theorem rmLS0_0 (G : Gl Z a0 z0 fm) (x : Addr) (b : Nat) (h0 : Heap) (hZh : Ext Z.heap h0) (hsf : Own Z h0 []) (P0 : Str Z h0 b x []) :
    Ctr l Z ELs yn705 prog_25_method_3_code 4 (some .int) [] (rmk 6 0 0 150) #[(.ref x), (.int 0)] [] h0 (fun v h fs => (∃ r : Int32, fs = [] ∧ v = some (.int r) ∧ r.toInt = scan [] 0)) := by
  obtain ⟨hw, hEL, wS, OS, hz0, OA, OH, OL, OF, rfm⟩ := id G
  refine Ctr.intro pn706 hEL hZh hsf ?_
  intro p e s m below meth c s₁ hby hml hret hnm hlk hh K0
  refine Owe.cast (ef704 m x ((0 : Int32))) ?_
  show Owe _ _ _ _ s₁ (mkF m 0 #[.val (.ref x), .val (.int 0), .unset, .unset] [])
  refine oIloadN K0 1 (d32_0 hby) rfl ?_
  refine oIstoreN K0 2 (d32_1 hby) (l' := #[.val (.ref x), .val (.int 0), .val (.int 0), .unset]) rfl ?_
  refine oIloadN K0 3 (d32_2 hby) rfl ?_
  refine oAloadN K0 4 (d32_3 hby) rfl rfl ?_
  refine oVirtual K0 7 1 (wq hw 40) (wq hw 41) (nfSel (wq hw 43)) (wq hw 43) (wq hw 42) (wq hw 14) (wq hw 44) P0.exa (rmLen0 l Z a0 z0 fm G x b h0 K0.old K0.both P0) [] [(.int 0)] (lenOf pd680 rfl) (d32_4 hby) ?_
  intro T1 h3 v4 lo5 fs6 K2 Kp7 q8
  obtain ⟨rfl, rfl⟩ := q8
  have K9 := K2.to 0 0 []
  refine Owe.stk [(.int 0), (.int 0)] ?_
  refine oIcmpYes K9 40 (d32_7 hby) (XT.ii_ge_t (by decide)) ?_
  refine oIconstV K9 41 (-1 : Int32) (d32_40 hby) rfl ?_
  exact oRetI K9 [] (t := .int) hret (by simp) rfl (d32_41 hby) (by decide) (by decide) hlk (fun x hx => by cases hx) ⟨(-1 : Int32), rfl, rfl, rfl⟩
theorem rmLS1_0 (G : Gl Z a0 z0 fm) (x : Addr) (b : Nat) (c0 : Int32) (h0 : Heap) (hZh : Ext Z.heap h0) (hsf : Own Z h0 []) (P0 : Str Z h0 b x [c0]) (P1 : ¬ c0 < (0 : Int32)) (P2 : ¬ (65535 : Int32) < c0) :
    Ctr l Z ELs yn705 prog_25_method_3_code 4 (some .int) [] (rmk 6 0 0 150) #[(.ref x), (.int 0)] [] h0 (fun v h fs => (∃ r : Int32, fs = [] ∧ v = some (.int r) ∧ r.toInt = scan [c0] 0)) := by
  obtain ⟨hw, hEL, wS, OS, hz0, OA, OH, OL, OF, rfm⟩ := id G
  refine Ctr.intro pn706 hEL hZh hsf ?_
  intro p e s m below meth c s₁ hby hml hret hnm hlk hh K0
  refine Owe.cast (ef704 m x ((0 : Int32))) ?_
  show Owe _ _ _ _ s₁ (mkF m 0 #[.val (.ref x), .val (.int 0), .unset, .unset] [])
  refine oIloadN K0 1 (d32_0 hby) rfl ?_
  refine oIstoreN K0 2 (d32_1 hby) (l' := #[.val (.ref x), .val (.int 0), .val (.int 0), .unset]) rfl ?_
  refine oIloadN K0 3 (d32_2 hby) rfl ?_
  refine oAloadN K0 4 (d32_3 hby) rfl rfl ?_
  refine oVirtual K0 7 1 (wq hw 40) (wq hw 41) (nfSel (wq hw 43)) (wq hw 43) (wq hw 42) (wq hw 14) (wq hw 44) P0.exa (rmLen1 l Z a0 z0 fm G x b c0 h0 K0.old K0.both P0) [] [(.int 0)] (lenOf pd680 rfl) (d32_4 hby) ?_
  intro T1 h3 v4 lo5 fs6 K2 Kp7 q8
  obtain ⟨rfl, rfl⟩ := q8
  have K9 := K2.to 0 0 []
  refine Owe.stk [(.int 1), (.int 0)] ?_
  refine oIcmpNo K9 10 (d32_7 hby) (XT.ii_ge_f (by decide)) ?_
  refine oAloadN K9 11 (d32_10 hby) rfl rfl ?_
  refine oIloadN K9 12 (d32_11 hby) rfl ?_
  refine oVirtual K9 15 0 (wq hw 67) (wq hw 68) (nfSel (wq hw 70)) (wq hw 70) (wq hw 69) (wq hw 14) (wq hw 71) (P0.exa.keep Kp7) (rmCP1_0 l Z a0 z0 fm G x b c0 h3 K9.old K9.both (P0.keep Kp7 geN) P1 P2) [(.int 0)] [] (lenOf pd45 rfl) (d32_12 hby) ?_
  intro T10 h12 v13 lo14 fs15 K11 Kp16 q17
  obtain ⟨rfl, rfl⟩ := q17
  have K18 := K11.to 0 0 []
  refine Owe.stk [(.int c0)] ?_
  refine oIstoreN K18 16 (d32_15 hby) (l' := #[.val (.ref x), .val (.int 0), .val (.int 0), .val (.int c0)]) rfl ?_
  refine Owe.join (P := ((c0 < (55296 : Int32)) ∨ ((57343 : Int32) < c0))) (mkF m 30 #[.val (.ref x), .val (.int 0), .val (.int 0), .val (.int c0)] []) ?_ ?_
  · intro hj19
    refine oIloadN K18 31 (d32_30 hby) rfl ?_
    refine oIloadN K18 32 (d32_31 hby) rfl ?_
    refine oStatic K18 35 1 (wq hw 86) (wq hw 87) (wq hw 88) (wq hw 89) (rmCC1 l Z a0 z0 fm G c0 h12 K18.old K18.both (by simp only [hiI, loI, Int32.lt_iff_toInt_lt, Int32.reduceToInt] at P1 P2 hj19 ⊢; omega)) [(.int c0)] [(.int 0)] (lenOf pd45 rfl) (d32_32 hby) ?_
    intro T21 h23 v24 lo25 fs26 K22 Kp27 q28
    obtain ⟨rfl, rfl⟩ := q28
    have K29 := K22.to 0 0 []
    refine Owe.stk [(.int 1), (.int 0)] ?_
    refine oIadd K29 36 (d32_35 hby) ?_
    show Owe _ _ _ _ T21 (mkF m 36 #[.val (.ref x), .val (.int 0), .val (.int 0), .val (.int c0)] [(.int 1)])
    refine oIstoreN K29 37 (d32_36 hby) (l' := #[.val (.ref x), .val (.int 0), .val (.int 1), .val (.int c0)]) rfl ?_
    refine oGoto K29 2 (d32_37 hby) ?_
    exact Owe.mono (fun _ _ _ ⟨r, e1, e2, e3⟩ => ⟨r, e1, e2, e3.trans (scan_end (i := 0) (outS hj19)).symm⟩) (sgLS1_1 l Z a0 z0 fm G x b ((0 : Int32)) c0 c0 hby hret hlk h23 (K29.to 0 0 [] (q := by simp)) (((P0.keep Kp7 geN).keep Kp16 geN).keep Kp27 geN) P1 P2)
  · intro tl20
    refine oIloadN K18 17 (d32_16 hby) rfl ?_
    refine oLdcI K18 19 (wq hw 85) (d32_17 hby) ?_
    by_cases hc30 : c0 < (55296 : Int32)
    · refine oIcmpYes K18 30 (d32_19 hby) (XT.ii_lt_t hc30) ?_
      exact tl20 (Or.inl hc30)
    · refine oIcmpNo K18 22 (d32_19 hby) (XT.ii_lt_f hc30) ?_
      refine oIloadN K18 23 (d32_22 hby) rfl ?_
      refine oLdcI K18 25 (wq hw 137) (d32_23 hby) ?_
      by_cases hc31 : (57343 : Int32) < c0
      · refine oIcmpYes K18 30 (d32_25 hby) (XT.ii_gt_t hc31) ?_
        exact tl20 (Or.inr hc31)
      · refine oIcmpNo K18 28 (d32_25 hby) (XT.ii_gt_f hc31) ?_
        refine oIloadN K18 29 (d32_28 hby) rfl ?_
        exact oRetI K18 [] (t := .int) hret (by simp) rfl (d32_29 hby) (by decide) (by decide) hlk (fun x hx => by cases hx) ⟨(0 : Int32), rfl, rfl, (scan_hit1 (inS hc30 hc31)).symm⟩
theorem rmLS1_1 (G : Gl Z a0 z0 fm) (x : Addr) (b : Nat) (c0 : Int32) (h0 : Heap) (hZh : Ext Z.heap h0) (hsf : Own Z h0 []) (P0 : Str Z h0 b x [c0]) (P1 : ¬ c0 < (0 : Int32)) (P2 : ¬ (65535 : Int32) < c0) :
    Ctr l Z ELs yn705 prog_25_method_3_code 4 (some .int) [] (rmk 6 0 0 150) #[(.ref x), (.int 1)] [] h0 (fun v h fs => (∃ r : Int32, fs = [] ∧ v = some (.int r) ∧ r.toInt = scan [] 1)) := by
  obtain ⟨hw, hEL, wS, OS, hz0, OA, OH, OL, OF, rfm⟩ := id G
  refine Ctr.intro pn706 hEL hZh hsf ?_
  intro p e s m below meth c s₁ hby hml hret hnm hlk hh K0
  refine Owe.cast (ef704 m x ((1 : Int32))) ?_
  show Owe _ _ _ _ s₁ (mkF m 0 #[.val (.ref x), .val (.int 1), .unset, .unset] [])
  refine oIloadN K0 1 (d32_0 hby) rfl ?_
  refine oIstoreN K0 2 (d32_1 hby) (l' := #[.val (.ref x), .val (.int 1), .val (.int 1), .unset]) rfl ?_
  refine oIloadN K0 3 (d32_2 hby) rfl ?_
  refine oAloadN K0 4 (d32_3 hby) rfl rfl ?_
  refine oVirtual K0 7 1 (wq hw 40) (wq hw 41) (nfSel (wq hw 43)) (wq hw 43) (wq hw 42) (wq hw 14) (wq hw 44) P0.exa (rmLen1 l Z a0 z0 fm G x b c0 h0 K0.old K0.both P0) [] [(.int 1)] (lenOf pd680 rfl) (d32_4 hby) ?_
  intro T1 h3 v4 lo5 fs6 K2 Kp7 q8
  obtain ⟨rfl, rfl⟩ := q8
  have K9 := K2.to 0 0 []
  refine Owe.stk [(.int 1), (.int 1)] ?_
  refine oIcmpYes K9 40 (d32_7 hby) (XT.ii_ge_t (by decide)) ?_
  refine oIconstV K9 41 (-1 : Int32) (d32_40 hby) rfl ?_
  exact oRetI K9 [] (t := .int) hret (by simp) rfl (d32_41 hby) (by decide) (by decide) hlk (fun x hx => by cases hx) ⟨(-1 : Int32), rfl, rfl, rfl⟩
theorem rmLS2_0 (G : Gl Z a0 z0 fm) (x : Addr) (b : Nat) (c0 c1 : Int32) (h0 : Heap) (hZh : Ext Z.heap h0) (hsf : Own Z h0 []) (P0 : Str Z h0 b x [c0, c1]) (P1 : ¬ c0 < (0 : Int32)) (P2 : ¬ (65535 : Int32) < c0) (P3 : ¬ c1 < (0 : Int32)) (P4 : ¬ (65535 : Int32) < c1) :
    Ctr l Z ELs yn705 prog_25_method_3_code 4 (some .int) [] (rmk 6 0 0 150) #[(.ref x), (.int 0)] [] h0 (fun v h fs => (∃ r : Int32, fs = [] ∧ v = some (.int r) ∧ r.toInt = scan [c0, c1] 0)) := by
  obtain ⟨hw, hEL, wS, OS, hz0, OA, OH, OL, OF, rfm⟩ := id G
  refine Ctr.intro pn706 hEL hZh hsf ?_
  intro p e s m below meth c s₁ hby hml hret hnm hlk hh K0
  refine Owe.cast (ef704 m x ((0 : Int32))) ?_
  show Owe _ _ _ _ s₁ (mkF m 0 #[.val (.ref x), .val (.int 0), .unset, .unset] [])
  refine oIloadN K0 1 (d32_0 hby) rfl ?_
  refine oIstoreN K0 2 (d32_1 hby) (l' := #[.val (.ref x), .val (.int 0), .val (.int 0), .unset]) rfl ?_
  refine oIloadN K0 3 (d32_2 hby) rfl ?_
  refine oAloadN K0 4 (d32_3 hby) rfl rfl ?_
  refine oVirtual K0 7 1 (wq hw 40) (wq hw 41) (nfSel (wq hw 43)) (wq hw 43) (wq hw 42) (wq hw 14) (wq hw 44) P0.exa (rmLen2 l Z a0 z0 fm G x b c0 c1 h0 K0.old K0.both P0) [] [(.int 0)] (lenOf pd680 rfl) (d32_4 hby) ?_
  intro T1 h3 v4 lo5 fs6 K2 Kp7 q8
  obtain ⟨rfl, rfl⟩ := q8
  have K9 := K2.to 0 0 []
  refine Owe.stk [(.int 2), (.int 0)] ?_
  refine oIcmpNo K9 10 (d32_7 hby) (XT.ii_ge_f (by decide)) ?_
  refine oAloadN K9 11 (d32_10 hby) rfl rfl ?_
  refine oIloadN K9 12 (d32_11 hby) rfl ?_
  refine oVirtual K9 15 0 (wq hw 67) (wq hw 68) (nfSel (wq hw 70)) (wq hw 70) (wq hw 69) (wq hw 14) (wq hw 71) (P0.exa.keep Kp7) (rmCP2_0 l Z a0 z0 fm G x b c0 c1 h3 K9.old K9.both (P0.keep Kp7 geN) P1 P2 P3 P4) [(.int 0)] [] (lenOf pd45 rfl) (d32_12 hby) ?_
  intro T10 h12 v13 lo14 fs15 K11 Kp16 q17
  rcases q17 with qq17_0 | qq17_1
  · obtain ⟨r18, rfl, rfl, f19, f20, f21, f22⟩ := qq17_0
    have K23 := K11.to 0 0 []
    refine Owe.stk [(.int r18)] ?_
    refine oIstoreN K23 16 (d32_15 hby) (l' := #[.val (.ref x), .val (.int 0), .val (.int 0), .val (.int r18)]) rfl ?_
    refine oIloadN K23 17 (d32_16 hby) rfl ?_
    refine oLdcI K23 19 (wq hw 85) (d32_17 hby) ?_
    by_cases hc24 : r18 < (55296 : Int32)
    · refine oIcmpYes K23 30 (d32_19 hby) (XT.ii_lt_t hc24) ?_
      refine oIloadN K23 31 (d32_30 hby) rfl ?_
      refine oIloadN K23 32 (d32_31 hby) rfl ?_
      refine oStatic K23 35 1 (wq hw 86) (wq hw 87) (wq hw 88) (wq hw 89) (rmCC2 l Z a0 z0 fm G r18 h12 K23.old K23.both f21) [(.int r18)] [(.int 0)] (lenOf pd45 rfl) (d32_32 hby) ?_
      intro T25 h27 v28 lo29 fs30 K26 Kp31 q32
      obtain ⟨rfl, rfl⟩ := q32
      have K33 := K26.to 0 0 []
      refine Owe.stk [(.int 2), (.int 0)] ?_
      refine oIadd K33 36 (d32_35 hby) ?_
      show Owe _ _ _ _ T25 (mkF m 36 #[.val (.ref x), .val (.int 0), .val (.int 0), .val (.int r18)] [(.int 2)])
      refine oIstoreN K33 37 (d32_36 hby) (l' := #[.val (.ref x), .val (.int 0), .val (.int 2), .val (.int r18)]) rfl ?_
      refine oGoto K33 2 (d32_37 hby) ?_
      exact Owe.mono (fun _ _ _ ⟨r, e1, e2, e3⟩ => ⟨r, e1, e2, e3.trans (scan_pair (i := 0) f19 f20).symm⟩) (sgLS2_2 l Z a0 z0 fm G x b ((0 : Int32)) r18 c0 c1 hby hret hlk h27 (K33.to 0 0 [] (q := by simp)) (((P0.keep Kp7 geN).keep Kp16 geN).keep Kp31 geN) P1 P2 P3 P4)
    · refine oIcmpNo K23 22 (d32_19 hby) (XT.ii_lt_f hc24) ?_
      refine oIloadN K23 23 (d32_22 hby) rfl ?_
      refine oLdcI K23 25 (wq hw 137) (d32_23 hby) ?_
      refine oIcmpYes K23 30 (d32_25 hby) (XT.ii_gt_t f22) ?_
      refine oIloadN K23 31 (d32_30 hby) rfl ?_
      refine oIloadN K23 32 (d32_31 hby) rfl ?_
      refine oStatic K23 35 1 (wq hw 86) (wq hw 87) (wq hw 88) (wq hw 89) (rmCC2 l Z a0 z0 fm G r18 h12 K23.old K23.both f21) [(.int r18)] [(.int 0)] (lenOf pd45 rfl) (d32_32 hby) ?_
      intro T34 h36 v37 lo38 fs39 K35 Kp40 q41
      obtain ⟨rfl, rfl⟩ := q41
      have K42 := K35.to 0 0 []
      refine Owe.stk [(.int 2), (.int 0)] ?_
      refine oIadd K42 36 (d32_35 hby) ?_
      show Owe _ _ _ _ T34 (mkF m 36 #[.val (.ref x), .val (.int 0), .val (.int 0), .val (.int r18)] [(.int 2)])
      refine oIstoreN K42 37 (d32_36 hby) (l' := #[.val (.ref x), .val (.int 0), .val (.int 2), .val (.int r18)]) rfl ?_
      refine oGoto K42 2 (d32_37 hby) ?_
      exact Owe.mono (fun _ _ _ ⟨r, e1, e2, e3⟩ => ⟨r, e1, e2, e3.trans (scan_pair (i := 0) f19 f20).symm⟩) (sgLS2_2 l Z a0 z0 fm G x b ((0 : Int32)) r18 c0 c1 hby hret hlk h36 (K42.to 0 0 [] (q := by simp)) (((P0.keep Kp7 geN).keep Kp16 geN).keep Kp40 geN) P1 P2 P3 P4)
  · obtain ⟨rfl, rfl, f43⟩ := qq17_1
    have K44 := K11.to 0 0 []
    refine Owe.stk [(.int c0)] ?_
    refine oIstoreN K44 16 (d32_15 hby) (l' := #[.val (.ref x), .val (.int 0), .val (.int 0), .val (.int c0)]) rfl ?_
    refine Owe.join (P := ((c0 < (55296 : Int32)) ∨ ((57343 : Int32) < c0))) (mkF m 30 #[.val (.ref x), .val (.int 0), .val (.int 0), .val (.int c0)] []) ?_ ?_
    · intro hj45
      refine oIloadN K44 31 (d32_30 hby) rfl ?_
      refine oIloadN K44 32 (d32_31 hby) rfl ?_
      refine oStatic K44 35 1 (wq hw 86) (wq hw 87) (wq hw 88) (wq hw 89) (rmCC1 l Z a0 z0 fm G c0 h12 K44.old K44.both (by simp only [hiI, loI, Int32.lt_iff_toInt_lt, Int32.reduceToInt] at P1 P2 hj45 ⊢; omega)) [(.int c0)] [(.int 0)] (lenOf pd45 rfl) (d32_32 hby) ?_
      intro T47 h49 v50 lo51 fs52 K48 Kp53 q54
      obtain ⟨rfl, rfl⟩ := q54
      have K55 := K48.to 0 0 []
      refine Owe.stk [(.int 1), (.int 0)] ?_
      refine oIadd K55 36 (d32_35 hby) ?_
      show Owe _ _ _ _ T47 (mkF m 36 #[.val (.ref x), .val (.int 0), .val (.int 0), .val (.int c0)] [(.int 1)])
      refine oIstoreN K55 37 (d32_36 hby) (l' := #[.val (.ref x), .val (.int 0), .val (.int 1), .val (.int c0)]) rfl ?_
      refine oGoto K55 2 (d32_37 hby) ?_
      exact Owe.mono (fun _ _ _ ⟨r, e1, e2, e3⟩ => ⟨r, e1, e2, e3.trans (scan_next (i := 0) f43 (outS hj45)).symm⟩) (sgLS2_1 l Z a0 z0 fm G x b ((0 : Int32)) c0 c0 c1 hby hret hlk h49 (K55.to 0 0 [] (q := by simp)) (((P0.keep Kp7 geN).keep Kp16 geN).keep Kp53 geN) P1 P2 P3 P4)
    · intro tl46
      refine oIloadN K44 17 (d32_16 hby) rfl ?_
      refine oLdcI K44 19 (wq hw 85) (d32_17 hby) ?_
      by_cases hc56 : c0 < (55296 : Int32)
      · refine oIcmpYes K44 30 (d32_19 hby) (XT.ii_lt_t hc56) ?_
        exact tl46 (Or.inl hc56)
      · refine oIcmpNo K44 22 (d32_19 hby) (XT.ii_lt_f hc56) ?_
        refine oIloadN K44 23 (d32_22 hby) rfl ?_
        refine oLdcI K44 25 (wq hw 137) (d32_23 hby) ?_
        by_cases hc57 : (57343 : Int32) < c0
        · refine oIcmpYes K44 30 (d32_25 hby) (XT.ii_gt_t hc57) ?_
          exact tl46 (Or.inr hc57)
        · refine oIcmpNo K44 28 (d32_25 hby) (XT.ii_gt_f hc57) ?_
          refine oIloadN K44 29 (d32_28 hby) rfl ?_
          exact oRetI K44 [] (t := .int) hret (by simp) rfl (d32_29 hby) (by decide) (by decide) hlk (fun x hx => by cases hx) ⟨(0 : Int32), rfl, rfl, (scan_hit f43 (inS hc56 hc57)).symm⟩
theorem rmLS2_1 (G : Gl Z a0 z0 fm) (x : Addr) (b : Nat) (c0 c1 : Int32) (h0 : Heap) (hZh : Ext Z.heap h0) (hsf : Own Z h0 []) (P0 : Str Z h0 b x [c0, c1]) (P1 : ¬ c0 < (0 : Int32)) (P2 : ¬ (65535 : Int32) < c0) (P3 : ¬ c1 < (0 : Int32)) (P4 : ¬ (65535 : Int32) < c1) :
    Ctr l Z ELs yn705 prog_25_method_3_code 4 (some .int) [] (rmk 6 0 0 150) #[(.ref x), (.int 1)] [] h0 (fun v h fs => (∃ r : Int32, fs = [] ∧ v = some (.int r) ∧ r.toInt = scan [c1] 1)) := by
  obtain ⟨hw, hEL, wS, OS, hz0, OA, OH, OL, OF, rfm⟩ := id G
  refine Ctr.intro pn706 hEL hZh hsf ?_
  intro p e s m below meth c s₁ hby hml hret hnm hlk hh K0
  refine Owe.cast (ef704 m x ((1 : Int32))) ?_
  show Owe _ _ _ _ s₁ (mkF m 0 #[.val (.ref x), .val (.int 1), .unset, .unset] [])
  refine oIloadN K0 1 (d32_0 hby) rfl ?_
  refine oIstoreN K0 2 (d32_1 hby) (l' := #[.val (.ref x), .val (.int 1), .val (.int 1), .unset]) rfl ?_
  refine oIloadN K0 3 (d32_2 hby) rfl ?_
  refine oAloadN K0 4 (d32_3 hby) rfl rfl ?_
  refine oVirtual K0 7 1 (wq hw 40) (wq hw 41) (nfSel (wq hw 43)) (wq hw 43) (wq hw 42) (wq hw 14) (wq hw 44) P0.exa (rmLen2 l Z a0 z0 fm G x b c0 c1 h0 K0.old K0.both P0) [] [(.int 1)] (lenOf pd680 rfl) (d32_4 hby) ?_
  intro T1 h3 v4 lo5 fs6 K2 Kp7 q8
  obtain ⟨rfl, rfl⟩ := q8
  have K9 := K2.to 0 0 []
  refine Owe.stk [(.int 2), (.int 1)] ?_
  refine oIcmpNo K9 10 (d32_7 hby) (XT.ii_ge_f (by decide)) ?_
  refine oAloadN K9 11 (d32_10 hby) rfl rfl ?_
  refine oIloadN K9 12 (d32_11 hby) rfl ?_
  refine oVirtual K9 15 0 (wq hw 67) (wq hw 68) (nfSel (wq hw 70)) (wq hw 70) (wq hw 69) (wq hw 14) (wq hw 71) (P0.exa.keep Kp7) (rmCP2_1 l Z a0 z0 fm G x b c0 c1 h3 K9.old K9.both (P0.keep Kp7 geN) P3 P4) [(.int 1)] [] (lenOf pd45 rfl) (d32_12 hby) ?_
  intro T10 h12 v13 lo14 fs15 K11 Kp16 q17
  obtain ⟨rfl, rfl⟩ := q17
  have K18 := K11.to 0 0 []
  refine Owe.stk [(.int c1)] ?_
  refine oIstoreN K18 16 (d32_15 hby) (l' := #[.val (.ref x), .val (.int 1), .val (.int 1), .val (.int c1)]) rfl ?_
  refine Owe.join (P := ((c1 < (55296 : Int32)) ∨ ((57343 : Int32) < c1))) (mkF m 30 #[.val (.ref x), .val (.int 1), .val (.int 1), .val (.int c1)] []) ?_ ?_
  · intro hj19
    refine oIloadN K18 31 (d32_30 hby) rfl ?_
    refine oIloadN K18 32 (d32_31 hby) rfl ?_
    refine oStatic K18 35 1 (wq hw 86) (wq hw 87) (wq hw 88) (wq hw 89) (rmCC1 l Z a0 z0 fm G c1 h12 K18.old K18.both (by simp only [hiI, loI, Int32.lt_iff_toInt_lt, Int32.reduceToInt] at P3 P4 hj19 ⊢; omega)) [(.int c1)] [(.int 1)] (lenOf pd45 rfl) (d32_32 hby) ?_
    intro T21 h23 v24 lo25 fs26 K22 Kp27 q28
    obtain ⟨rfl, rfl⟩ := q28
    have K29 := K22.to 0 0 []
    refine Owe.stk [(.int 1), (.int 1)] ?_
    refine oIadd K29 36 (d32_35 hby) ?_
    show Owe _ _ _ _ T21 (mkF m 36 #[.val (.ref x), .val (.int 1), .val (.int 1), .val (.int c1)] [(.int 2)])
    refine oIstoreN K29 37 (d32_36 hby) (l' := #[.val (.ref x), .val (.int 1), .val (.int 2), .val (.int c1)]) rfl ?_
    refine oGoto K29 2 (d32_37 hby) ?_
    exact Owe.mono (fun _ _ _ ⟨r, e1, e2, e3⟩ => ⟨r, e1, e2, e3.trans (scan_end (i := 1) (outS hj19)).symm⟩) (sgLS2_2 l Z a0 z0 fm G x b ((1 : Int32)) c1 c0 c1 hby hret hlk h23 (K29.to 0 0 [] (q := by simp)) (((P0.keep Kp7 geN).keep Kp16 geN).keep Kp27 geN) P1 P2 P3 P4)
  · intro tl20
    refine oIloadN K18 17 (d32_16 hby) rfl ?_
    refine oLdcI K18 19 (wq hw 85) (d32_17 hby) ?_
    by_cases hc30 : c1 < (55296 : Int32)
    · refine oIcmpYes K18 30 (d32_19 hby) (XT.ii_lt_t hc30) ?_
      exact tl20 (Or.inl hc30)
    · refine oIcmpNo K18 22 (d32_19 hby) (XT.ii_lt_f hc30) ?_
      refine oIloadN K18 23 (d32_22 hby) rfl ?_
      refine oLdcI K18 25 (wq hw 137) (d32_23 hby) ?_
      by_cases hc31 : (57343 : Int32) < c1
      · refine oIcmpYes K18 30 (d32_25 hby) (XT.ii_gt_t hc31) ?_
        exact tl20 (Or.inr hc31)
      · refine oIcmpNo K18 28 (d32_25 hby) (XT.ii_gt_f hc31) ?_
        refine oIloadN K18 29 (d32_28 hby) rfl ?_
        exact oRetI K18 [] (t := .int) hret (by simp) rfl (d32_29 hby) (by decide) (by decide) hlk (fun x hx => by cases hx) ⟨(1 : Int32), rfl, rfl, (scan_hit1 (inS hc30 hc31)).symm⟩
theorem rmLS2_2 (G : Gl Z a0 z0 fm) (x : Addr) (b : Nat) (c0 c1 : Int32) (h0 : Heap) (hZh : Ext Z.heap h0) (hsf : Own Z h0 []) (P0 : Str Z h0 b x [c0, c1]) (P1 : ¬ c0 < (0 : Int32)) (P2 : ¬ (65535 : Int32) < c0) (P3 : ¬ c1 < (0 : Int32)) (P4 : ¬ (65535 : Int32) < c1) :
    Ctr l Z ELs yn705 prog_25_method_3_code 4 (some .int) [] (rmk 6 0 0 150) #[(.ref x), (.int 2)] [] h0 (fun v h fs => (∃ r : Int32, fs = [] ∧ v = some (.int r) ∧ r.toInt = scan [] 2)) := by
  obtain ⟨hw, hEL, wS, OS, hz0, OA, OH, OL, OF, rfm⟩ := id G
  refine Ctr.intro pn706 hEL hZh hsf ?_
  intro p e s m below meth c s₁ hby hml hret hnm hlk hh K0
  refine Owe.cast (ef704 m x ((2 : Int32))) ?_
  show Owe _ _ _ _ s₁ (mkF m 0 #[.val (.ref x), .val (.int 2), .unset, .unset] [])
  refine oIloadN K0 1 (d32_0 hby) rfl ?_
  refine oIstoreN K0 2 (d32_1 hby) (l' := #[.val (.ref x), .val (.int 2), .val (.int 2), .unset]) rfl ?_
  refine oIloadN K0 3 (d32_2 hby) rfl ?_
  refine oAloadN K0 4 (d32_3 hby) rfl rfl ?_
  refine oVirtual K0 7 1 (wq hw 40) (wq hw 41) (nfSel (wq hw 43)) (wq hw 43) (wq hw 42) (wq hw 14) (wq hw 44) P0.exa (rmLen2 l Z a0 z0 fm G x b c0 c1 h0 K0.old K0.both P0) [] [(.int 2)] (lenOf pd680 rfl) (d32_4 hby) ?_
  intro T1 h3 v4 lo5 fs6 K2 Kp7 q8
  obtain ⟨rfl, rfl⟩ := q8
  have K9 := K2.to 0 0 []
  refine Owe.stk [(.int 2), (.int 2)] ?_
  refine oIcmpYes K9 40 (d32_7 hby) (XT.ii_ge_t (by decide)) ?_
  refine oIconstV K9 41 (-1 : Int32) (d32_40 hby) rfl ?_
  exact oRetI K9 [] (t := .int) hret (by simp) rfl (d32_41 hby) (by decide) (by decide) hlk (fun x hx => by cases hx) ⟨(-1 : Int32), rfl, rfl, rfl⟩
theorem rmLS3_0 (G : Gl Z a0 z0 fm) (x : Addr) (b : Nat) (c0 c1 c2 : Int32) (h0 : Heap) (hZh : Ext Z.heap h0) (hsf : Own Z h0 []) (P0 : Str Z h0 b x [c0, c1, c2]) (P1 : ¬ c0 < (0 : Int32)) (P2 : ¬ (65535 : Int32) < c0) (P3 : ¬ c1 < (0 : Int32)) (P4 : ¬ (65535 : Int32) < c1) (P5 : ¬ c2 < (0 : Int32)) (P6 : ¬ (65535 : Int32) < c2) :
    Ctr l Z ELs yn705 prog_25_method_3_code 4 (some .int) [] (rmk 6 0 0 150) #[(.ref x), (.int 0)] [] h0 (fun v h fs => (∃ r : Int32, fs = [] ∧ v = some (.int r) ∧ r.toInt = scan [c0, c1, c2] 0)) := by
  obtain ⟨hw, hEL, wS, OS, hz0, OA, OH, OL, OF, rfm⟩ := id G
  refine Ctr.intro pn706 hEL hZh hsf ?_
  intro p e s m below meth c s₁ hby hml hret hnm hlk hh K0
  refine Owe.cast (ef704 m x ((0 : Int32))) ?_
  show Owe _ _ _ _ s₁ (mkF m 0 #[.val (.ref x), .val (.int 0), .unset, .unset] [])
  refine oIloadN K0 1 (d32_0 hby) rfl ?_
  refine oIstoreN K0 2 (d32_1 hby) (l' := #[.val (.ref x), .val (.int 0), .val (.int 0), .unset]) rfl ?_
  refine oIloadN K0 3 (d32_2 hby) rfl ?_
  refine oAloadN K0 4 (d32_3 hby) rfl rfl ?_
  refine oVirtual K0 7 1 (wq hw 40) (wq hw 41) (nfSel (wq hw 43)) (wq hw 43) (wq hw 42) (wq hw 14) (wq hw 44) P0.exa (rmLen3 l Z a0 z0 fm G x b c0 c1 c2 h0 K0.old K0.both P0) [] [(.int 0)] (lenOf pd680 rfl) (d32_4 hby) ?_
  intro T1 h3 v4 lo5 fs6 K2 Kp7 q8
  obtain ⟨rfl, rfl⟩ := q8
  have K9 := K2.to 0 0 []
  refine Owe.stk [(.int 3), (.int 0)] ?_
  refine oIcmpNo K9 10 (d32_7 hby) (XT.ii_ge_f (by decide)) ?_
  refine oAloadN K9 11 (d32_10 hby) rfl rfl ?_
  refine oIloadN K9 12 (d32_11 hby) rfl ?_
  refine oVirtual K9 15 0 (wq hw 67) (wq hw 68) (nfSel (wq hw 70)) (wq hw 70) (wq hw 69) (wq hw 14) (wq hw 71) (P0.exa.keep Kp7) (rmCP3_0 l Z a0 z0 fm G x b c0 c1 c2 h3 K9.old K9.both (P0.keep Kp7 geN) P1 P2 P3 P4) [(.int 0)] [] (lenOf pd45 rfl) (d32_12 hby) ?_
  intro T10 h12 v13 lo14 fs15 K11 Kp16 q17
  rcases q17 with qq17_0 | qq17_1
  · obtain ⟨r18, rfl, rfl, f19, f20, f21, f22⟩ := qq17_0
    have K23 := K11.to 0 0 []
    refine Owe.stk [(.int r18)] ?_
    refine oIstoreN K23 16 (d32_15 hby) (l' := #[.val (.ref x), .val (.int 0), .val (.int 0), .val (.int r18)]) rfl ?_
    refine oIloadN K23 17 (d32_16 hby) rfl ?_
    refine oLdcI K23 19 (wq hw 85) (d32_17 hby) ?_
    by_cases hc24 : r18 < (55296 : Int32)
    · refine oIcmpYes K23 30 (d32_19 hby) (XT.ii_lt_t hc24) ?_
      refine oIloadN K23 31 (d32_30 hby) rfl ?_
      refine oIloadN K23 32 (d32_31 hby) rfl ?_
      refine oStatic K23 35 1 (wq hw 86) (wq hw 87) (wq hw 88) (wq hw 89) (rmCC2 l Z a0 z0 fm G r18 h12 K23.old K23.both f21) [(.int r18)] [(.int 0)] (lenOf pd45 rfl) (d32_32 hby) ?_
      intro T25 h27 v28 lo29 fs30 K26 Kp31 q32
      obtain ⟨rfl, rfl⟩ := q32
      have K33 := K26.to 0 0 []
      refine Owe.stk [(.int 2), (.int 0)] ?_
      refine oIadd K33 36 (d32_35 hby) ?_
      show Owe _ _ _ _ T25 (mkF m 36 #[.val (.ref x), .val (.int 0), .val (.int 0), .val (.int r18)] [(.int 2)])
      refine oIstoreN K33 37 (d32_36 hby) (l' := #[.val (.ref x), .val (.int 0), .val (.int 2), .val (.int r18)]) rfl ?_
      refine oGoto K33 2 (d32_37 hby) ?_
      exact Owe.mono (fun _ _ _ ⟨r, e1, e2, e3⟩ => ⟨r, e1, e2, e3.trans (scan_pair (i := 0) f19 f20).symm⟩) (sgLS3_2 l Z a0 z0 fm G x b ((0 : Int32)) r18 c0 c1 c2 hby hret hlk h27 (K33.to 0 0 [] (q := by simp)) (((P0.keep Kp7 geN).keep Kp16 geN).keep Kp31 geN) P1 P2 P3 P4 P5 P6)
    · refine oIcmpNo K23 22 (d32_19 hby) (XT.ii_lt_f hc24) ?_
      refine oIloadN K23 23 (d32_22 hby) rfl ?_
      refine oLdcI K23 25 (wq hw 137) (d32_23 hby) ?_
      refine oIcmpYes K23 30 (d32_25 hby) (XT.ii_gt_t f22) ?_
      refine oIloadN K23 31 (d32_30 hby) rfl ?_
      refine oIloadN K23 32 (d32_31 hby) rfl ?_
      refine oStatic K23 35 1 (wq hw 86) (wq hw 87) (wq hw 88) (wq hw 89) (rmCC2 l Z a0 z0 fm G r18 h12 K23.old K23.both f21) [(.int r18)] [(.int 0)] (lenOf pd45 rfl) (d32_32 hby) ?_
      intro T34 h36 v37 lo38 fs39 K35 Kp40 q41
      obtain ⟨rfl, rfl⟩ := q41
      have K42 := K35.to 0 0 []
      refine Owe.stk [(.int 2), (.int 0)] ?_
      refine oIadd K42 36 (d32_35 hby) ?_
      show Owe _ _ _ _ T34 (mkF m 36 #[.val (.ref x), .val (.int 0), .val (.int 0), .val (.int r18)] [(.int 2)])
      refine oIstoreN K42 37 (d32_36 hby) (l' := #[.val (.ref x), .val (.int 0), .val (.int 2), .val (.int r18)]) rfl ?_
      refine oGoto K42 2 (d32_37 hby) ?_
      exact Owe.mono (fun _ _ _ ⟨r, e1, e2, e3⟩ => ⟨r, e1, e2, e3.trans (scan_pair (i := 0) f19 f20).symm⟩) (sgLS3_2 l Z a0 z0 fm G x b ((0 : Int32)) r18 c0 c1 c2 hby hret hlk h36 (K42.to 0 0 [] (q := by simp)) (((P0.keep Kp7 geN).keep Kp16 geN).keep Kp40 geN) P1 P2 P3 P4 P5 P6)
  · obtain ⟨rfl, rfl, f43⟩ := qq17_1
    have K44 := K11.to 0 0 []
    refine Owe.stk [(.int c0)] ?_
    refine oIstoreN K44 16 (d32_15 hby) (l' := #[.val (.ref x), .val (.int 0), .val (.int 0), .val (.int c0)]) rfl ?_
    refine Owe.join (P := ((c0 < (55296 : Int32)) ∨ ((57343 : Int32) < c0))) (mkF m 30 #[.val (.ref x), .val (.int 0), .val (.int 0), .val (.int c0)] []) ?_ ?_
    · intro hj45
      refine oIloadN K44 31 (d32_30 hby) rfl ?_
      refine oIloadN K44 32 (d32_31 hby) rfl ?_
      refine oStatic K44 35 1 (wq hw 86) (wq hw 87) (wq hw 88) (wq hw 89) (rmCC1 l Z a0 z0 fm G c0 h12 K44.old K44.both (by simp only [hiI, loI, Int32.lt_iff_toInt_lt, Int32.reduceToInt] at P1 P2 hj45 ⊢; omega)) [(.int c0)] [(.int 0)] (lenOf pd45 rfl) (d32_32 hby) ?_
      intro T47 h49 v50 lo51 fs52 K48 Kp53 q54
      obtain ⟨rfl, rfl⟩ := q54
      have K55 := K48.to 0 0 []
      refine Owe.stk [(.int 1), (.int 0)] ?_
      refine oIadd K55 36 (d32_35 hby) ?_
      show Owe _ _ _ _ T47 (mkF m 36 #[.val (.ref x), .val (.int 0), .val (.int 0), .val (.int c0)] [(.int 1)])
      refine oIstoreN K55 37 (d32_36 hby) (l' := #[.val (.ref x), .val (.int 0), .val (.int 1), .val (.int c0)]) rfl ?_
      refine oGoto K55 2 (d32_37 hby) ?_
      exact Owe.mono (fun _ _ _ ⟨r, e1, e2, e3⟩ => ⟨r, e1, e2, e3.trans (scan_next (i := 0) f43 (outS hj45)).symm⟩) (sgLS3_1 l Z a0 z0 fm G x b ((0 : Int32)) c0 c0 c1 c2 hby hret hlk h49 (K55.to 0 0 [] (q := by simp)) (((P0.keep Kp7 geN).keep Kp16 geN).keep Kp53 geN) P1 P2 P3 P4 P5 P6)
    · intro tl46
      refine oIloadN K44 17 (d32_16 hby) rfl ?_
      refine oLdcI K44 19 (wq hw 85) (d32_17 hby) ?_
      by_cases hc56 : c0 < (55296 : Int32)
      · refine oIcmpYes K44 30 (d32_19 hby) (XT.ii_lt_t hc56) ?_
        exact tl46 (Or.inl hc56)
      · refine oIcmpNo K44 22 (d32_19 hby) (XT.ii_lt_f hc56) ?_
        refine oIloadN K44 23 (d32_22 hby) rfl ?_
        refine oLdcI K44 25 (wq hw 137) (d32_23 hby) ?_
        by_cases hc57 : (57343 : Int32) < c0
        · refine oIcmpYes K44 30 (d32_25 hby) (XT.ii_gt_t hc57) ?_
          exact tl46 (Or.inr hc57)
        · refine oIcmpNo K44 28 (d32_25 hby) (XT.ii_gt_f hc57) ?_
          refine oIloadN K44 29 (d32_28 hby) rfl ?_
          exact oRetI K44 [] (t := .int) hret (by simp) rfl (d32_29 hby) (by decide) (by decide) hlk (fun x hx => by cases hx) ⟨(0 : Int32), rfl, rfl, (scan_hit f43 (inS hc56 hc57)).symm⟩
theorem rmLS3_1 (G : Gl Z a0 z0 fm) (x : Addr) (b : Nat) (c0 c1 c2 : Int32) (h0 : Heap) (hZh : Ext Z.heap h0) (hsf : Own Z h0 []) (P0 : Str Z h0 b x [c0, c1, c2]) (P1 : ¬ c0 < (0 : Int32)) (P2 : ¬ (65535 : Int32) < c0) (P3 : ¬ c1 < (0 : Int32)) (P4 : ¬ (65535 : Int32) < c1) (P5 : ¬ c2 < (0 : Int32)) (P6 : ¬ (65535 : Int32) < c2) :
    Ctr l Z ELs yn705 prog_25_method_3_code 4 (some .int) [] (rmk 6 0 0 150) #[(.ref x), (.int 1)] [] h0 (fun v h fs => (∃ r : Int32, fs = [] ∧ v = some (.int r) ∧ r.toInt = scan [c1, c2] 1)) := by
  obtain ⟨hw, hEL, wS, OS, hz0, OA, OH, OL, OF, rfm⟩ := id G
  refine Ctr.intro pn706 hEL hZh hsf ?_
  intro p e s m below meth c s₁ hby hml hret hnm hlk hh K0
  refine Owe.cast (ef704 m x ((1 : Int32))) ?_
  show Owe _ _ _ _ s₁ (mkF m 0 #[.val (.ref x), .val (.int 1), .unset, .unset] [])
  refine oIloadN K0 1 (d32_0 hby) rfl ?_
  refine oIstoreN K0 2 (d32_1 hby) (l' := #[.val (.ref x), .val (.int 1), .val (.int 1), .unset]) rfl ?_
  refine oIloadN K0 3 (d32_2 hby) rfl ?_
  refine oAloadN K0 4 (d32_3 hby) rfl rfl ?_
  refine oVirtual K0 7 1 (wq hw 40) (wq hw 41) (nfSel (wq hw 43)) (wq hw 43) (wq hw 42) (wq hw 14) (wq hw 44) P0.exa (rmLen3 l Z a0 z0 fm G x b c0 c1 c2 h0 K0.old K0.both P0) [] [(.int 1)] (lenOf pd680 rfl) (d32_4 hby) ?_
  intro T1 h3 v4 lo5 fs6 K2 Kp7 q8
  obtain ⟨rfl, rfl⟩ := q8
  have K9 := K2.to 0 0 []
  refine Owe.stk [(.int 3), (.int 1)] ?_
  refine oIcmpNo K9 10 (d32_7 hby) (XT.ii_ge_f (by decide)) ?_
  refine oAloadN K9 11 (d32_10 hby) rfl rfl ?_
  refine oIloadN K9 12 (d32_11 hby) rfl ?_
  refine oVirtual K9 15 0 (wq hw 67) (wq hw 68) (nfSel (wq hw 70)) (wq hw 70) (wq hw 69) (wq hw 14) (wq hw 71) (P0.exa.keep Kp7) (rmCP3_1 l Z a0 z0 fm G x b c0 c1 c2 h3 K9.old K9.both (P0.keep Kp7 geN) P3 P4 P5 P6) [(.int 1)] [] (lenOf pd45 rfl) (d32_12 hby) ?_
  intro T10 h12 v13 lo14 fs15 K11 Kp16 q17
  rcases q17 with qq17_0 | qq17_1
  · obtain ⟨r18, rfl, rfl, f19, f20, f21, f22⟩ := qq17_0
    have K23 := K11.to 0 0 []
    refine Owe.stk [(.int r18)] ?_
    refine oIstoreN K23 16 (d32_15 hby) (l' := #[.val (.ref x), .val (.int 1), .val (.int 1), .val (.int r18)]) rfl ?_
    refine oIloadN K23 17 (d32_16 hby) rfl ?_
    refine oLdcI K23 19 (wq hw 85) (d32_17 hby) ?_
    by_cases hc24 : r18 < (55296 : Int32)
    · refine oIcmpYes K23 30 (d32_19 hby) (XT.ii_lt_t hc24) ?_
      refine oIloadN K23 31 (d32_30 hby) rfl ?_
      refine oIloadN K23 32 (d32_31 hby) rfl ?_
      refine oStatic K23 35 1 (wq hw 86) (wq hw 87) (wq hw 88) (wq hw 89) (rmCC2 l Z a0 z0 fm G r18 h12 K23.old K23.both f21) [(.int r18)] [(.int 1)] (lenOf pd45 rfl) (d32_32 hby) ?_
      intro T25 h27 v28 lo29 fs30 K26 Kp31 q32
      obtain ⟨rfl, rfl⟩ := q32
      have K33 := K26.to 0 0 []
      refine Owe.stk [(.int 2), (.int 1)] ?_
      refine oIadd K33 36 (d32_35 hby) ?_
      show Owe _ _ _ _ T25 (mkF m 36 #[.val (.ref x), .val (.int 1), .val (.int 1), .val (.int r18)] [(.int 3)])
      refine oIstoreN K33 37 (d32_36 hby) (l' := #[.val (.ref x), .val (.int 1), .val (.int 3), .val (.int r18)]) rfl ?_
      refine oGoto K33 2 (d32_37 hby) ?_
      exact Owe.mono (fun _ _ _ ⟨r, e1, e2, e3⟩ => ⟨r, e1, e2, e3.trans (scan_pair (i := 1) f19 f20).symm⟩) (sgLS3_3 l Z a0 z0 fm G x b ((1 : Int32)) r18 c0 c1 c2 hby hret hlk h27 (K33.to 0 0 [] (q := by simp)) (((P0.keep Kp7 geN).keep Kp16 geN).keep Kp31 geN) P1 P2 P3 P4 P5 P6)
    · refine oIcmpNo K23 22 (d32_19 hby) (XT.ii_lt_f hc24) ?_
      refine oIloadN K23 23 (d32_22 hby) rfl ?_
      refine oLdcI K23 25 (wq hw 137) (d32_23 hby) ?_
      refine oIcmpYes K23 30 (d32_25 hby) (XT.ii_gt_t f22) ?_
      refine oIloadN K23 31 (d32_30 hby) rfl ?_
      refine oIloadN K23 32 (d32_31 hby) rfl ?_
      refine oStatic K23 35 1 (wq hw 86) (wq hw 87) (wq hw 88) (wq hw 89) (rmCC2 l Z a0 z0 fm G r18 h12 K23.old K23.both f21) [(.int r18)] [(.int 1)] (lenOf pd45 rfl) (d32_32 hby) ?_
      intro T34 h36 v37 lo38 fs39 K35 Kp40 q41
      obtain ⟨rfl, rfl⟩ := q41
      have K42 := K35.to 0 0 []
      refine Owe.stk [(.int 2), (.int 1)] ?_
      refine oIadd K42 36 (d32_35 hby) ?_
      show Owe _ _ _ _ T34 (mkF m 36 #[.val (.ref x), .val (.int 1), .val (.int 1), .val (.int r18)] [(.int 3)])
      refine oIstoreN K42 37 (d32_36 hby) (l' := #[.val (.ref x), .val (.int 1), .val (.int 3), .val (.int r18)]) rfl ?_
      refine oGoto K42 2 (d32_37 hby) ?_
      exact Owe.mono (fun _ _ _ ⟨r, e1, e2, e3⟩ => ⟨r, e1, e2, e3.trans (scan_pair (i := 1) f19 f20).symm⟩) (sgLS3_3 l Z a0 z0 fm G x b ((1 : Int32)) r18 c0 c1 c2 hby hret hlk h36 (K42.to 0 0 [] (q := by simp)) (((P0.keep Kp7 geN).keep Kp16 geN).keep Kp40 geN) P1 P2 P3 P4 P5 P6)
  · obtain ⟨rfl, rfl, f43⟩ := qq17_1
    have K44 := K11.to 0 0 []
    refine Owe.stk [(.int c1)] ?_
    refine oIstoreN K44 16 (d32_15 hby) (l' := #[.val (.ref x), .val (.int 1), .val (.int 1), .val (.int c1)]) rfl ?_
    refine Owe.join (P := ((c1 < (55296 : Int32)) ∨ ((57343 : Int32) < c1))) (mkF m 30 #[.val (.ref x), .val (.int 1), .val (.int 1), .val (.int c1)] []) ?_ ?_
    · intro hj45
      refine oIloadN K44 31 (d32_30 hby) rfl ?_
      refine oIloadN K44 32 (d32_31 hby) rfl ?_
      refine oStatic K44 35 1 (wq hw 86) (wq hw 87) (wq hw 88) (wq hw 89) (rmCC1 l Z a0 z0 fm G c1 h12 K44.old K44.both (by simp only [hiI, loI, Int32.lt_iff_toInt_lt, Int32.reduceToInt] at P3 P4 hj45 ⊢; omega)) [(.int c1)] [(.int 1)] (lenOf pd45 rfl) (d32_32 hby) ?_
      intro T47 h49 v50 lo51 fs52 K48 Kp53 q54
      obtain ⟨rfl, rfl⟩ := q54
      have K55 := K48.to 0 0 []
      refine Owe.stk [(.int 1), (.int 1)] ?_
      refine oIadd K55 36 (d32_35 hby) ?_
      show Owe _ _ _ _ T47 (mkF m 36 #[.val (.ref x), .val (.int 1), .val (.int 1), .val (.int c1)] [(.int 2)])
      refine oIstoreN K55 37 (d32_36 hby) (l' := #[.val (.ref x), .val (.int 1), .val (.int 2), .val (.int c1)]) rfl ?_
      refine oGoto K55 2 (d32_37 hby) ?_
      exact Owe.mono (fun _ _ _ ⟨r, e1, e2, e3⟩ => ⟨r, e1, e2, e3.trans (scan_next (i := 1) f43 (outS hj45)).symm⟩) (sgLS3_2 l Z a0 z0 fm G x b ((1 : Int32)) c1 c0 c1 c2 hby hret hlk h49 (K55.to 0 0 [] (q := by simp)) (((P0.keep Kp7 geN).keep Kp16 geN).keep Kp53 geN) P1 P2 P3 P4 P5 P6)
    · intro tl46
      refine oIloadN K44 17 (d32_16 hby) rfl ?_
      refine oLdcI K44 19 (wq hw 85) (d32_17 hby) ?_
      by_cases hc56 : c1 < (55296 : Int32)
      · refine oIcmpYes K44 30 (d32_19 hby) (XT.ii_lt_t hc56) ?_
        exact tl46 (Or.inl hc56)
      · refine oIcmpNo K44 22 (d32_19 hby) (XT.ii_lt_f hc56) ?_
        refine oIloadN K44 23 (d32_22 hby) rfl ?_
        refine oLdcI K44 25 (wq hw 137) (d32_23 hby) ?_
        by_cases hc57 : (57343 : Int32) < c1
        · refine oIcmpYes K44 30 (d32_25 hby) (XT.ii_gt_t hc57) ?_
          exact tl46 (Or.inr hc57)
        · refine oIcmpNo K44 28 (d32_25 hby) (XT.ii_gt_f hc57) ?_
          refine oIloadN K44 29 (d32_28 hby) rfl ?_
          exact oRetI K44 [] (t := .int) hret (by simp) rfl (d32_29 hby) (by decide) (by decide) hlk (fun x hx => by cases hx) ⟨(1 : Int32), rfl, rfl, (scan_hit f43 (inS hc56 hc57)).symm⟩
theorem rmLS3_2 (G : Gl Z a0 z0 fm) (x : Addr) (b : Nat) (c0 c1 c2 : Int32) (h0 : Heap) (hZh : Ext Z.heap h0) (hsf : Own Z h0 []) (P0 : Str Z h0 b x [c0, c1, c2]) (P1 : ¬ c0 < (0 : Int32)) (P2 : ¬ (65535 : Int32) < c0) (P3 : ¬ c1 < (0 : Int32)) (P4 : ¬ (65535 : Int32) < c1) (P5 : ¬ c2 < (0 : Int32)) (P6 : ¬ (65535 : Int32) < c2) :
    Ctr l Z ELs yn705 prog_25_method_3_code 4 (some .int) [] (rmk 6 0 0 150) #[(.ref x), (.int 2)] [] h0 (fun v h fs => (∃ r : Int32, fs = [] ∧ v = some (.int r) ∧ r.toInt = scan [c2] 2)) := by
  obtain ⟨hw, hEL, wS, OS, hz0, OA, OH, OL, OF, rfm⟩ := id G
  refine Ctr.intro pn706 hEL hZh hsf ?_
  intro p e s m below meth c s₁ hby hml hret hnm hlk hh K0
  refine Owe.cast (ef704 m x ((2 : Int32))) ?_
  show Owe _ _ _ _ s₁ (mkF m 0 #[.val (.ref x), .val (.int 2), .unset, .unset] [])
  refine oIloadN K0 1 (d32_0 hby) rfl ?_
  refine oIstoreN K0 2 (d32_1 hby) (l' := #[.val (.ref x), .val (.int 2), .val (.int 2), .unset]) rfl ?_
  refine oIloadN K0 3 (d32_2 hby) rfl ?_
  refine oAloadN K0 4 (d32_3 hby) rfl rfl ?_
  refine oVirtual K0 7 1 (wq hw 40) (wq hw 41) (nfSel (wq hw 43)) (wq hw 43) (wq hw 42) (wq hw 14) (wq hw 44) P0.exa (rmLen3 l Z a0 z0 fm G x b c0 c1 c2 h0 K0.old K0.both P0) [] [(.int 2)] (lenOf pd680 rfl) (d32_4 hby) ?_
  intro T1 h3 v4 lo5 fs6 K2 Kp7 q8
  obtain ⟨rfl, rfl⟩ := q8
  have K9 := K2.to 0 0 []
  refine Owe.stk [(.int 3), (.int 2)] ?_
  refine oIcmpNo K9 10 (d32_7 hby) (XT.ii_ge_f (by decide)) ?_
  refine oAloadN K9 11 (d32_10 hby) rfl rfl ?_
  refine oIloadN K9 12 (d32_11 hby) rfl ?_
  refine oVirtual K9 15 0 (wq hw 67) (wq hw 68) (nfSel (wq hw 70)) (wq hw 70) (wq hw 69) (wq hw 14) (wq hw 71) (P0.exa.keep Kp7) (rmCP3_2 l Z a0 z0 fm G x b c0 c1 c2 h3 K9.old K9.both (P0.keep Kp7 geN) P5 P6) [(.int 2)] [] (lenOf pd45 rfl) (d32_12 hby) ?_
  intro T10 h12 v13 lo14 fs15 K11 Kp16 q17
  obtain ⟨rfl, rfl⟩ := q17
  have K18 := K11.to 0 0 []
  refine Owe.stk [(.int c2)] ?_
  refine oIstoreN K18 16 (d32_15 hby) (l' := #[.val (.ref x), .val (.int 2), .val (.int 2), .val (.int c2)]) rfl ?_
  refine Owe.join (P := ((c2 < (55296 : Int32)) ∨ ((57343 : Int32) < c2))) (mkF m 30 #[.val (.ref x), .val (.int 2), .val (.int 2), .val (.int c2)] []) ?_ ?_
  · intro hj19
    refine oIloadN K18 31 (d32_30 hby) rfl ?_
    refine oIloadN K18 32 (d32_31 hby) rfl ?_
    refine oStatic K18 35 1 (wq hw 86) (wq hw 87) (wq hw 88) (wq hw 89) (rmCC1 l Z a0 z0 fm G c2 h12 K18.old K18.both (by simp only [hiI, loI, Int32.lt_iff_toInt_lt, Int32.reduceToInt] at P5 P6 hj19 ⊢; omega)) [(.int c2)] [(.int 2)] (lenOf pd45 rfl) (d32_32 hby) ?_
    intro T21 h23 v24 lo25 fs26 K22 Kp27 q28
    obtain ⟨rfl, rfl⟩ := q28
    have K29 := K22.to 0 0 []
    refine Owe.stk [(.int 1), (.int 2)] ?_
    refine oIadd K29 36 (d32_35 hby) ?_
    show Owe _ _ _ _ T21 (mkF m 36 #[.val (.ref x), .val (.int 2), .val (.int 2), .val (.int c2)] [(.int 3)])
    refine oIstoreN K29 37 (d32_36 hby) (l' := #[.val (.ref x), .val (.int 2), .val (.int 3), .val (.int c2)]) rfl ?_
    refine oGoto K29 2 (d32_37 hby) ?_
    exact Owe.mono (fun _ _ _ ⟨r, e1, e2, e3⟩ => ⟨r, e1, e2, e3.trans (scan_end (i := 2) (outS hj19)).symm⟩) (sgLS3_3 l Z a0 z0 fm G x b ((2 : Int32)) c2 c0 c1 c2 hby hret hlk h23 (K29.to 0 0 [] (q := by simp)) (((P0.keep Kp7 geN).keep Kp16 geN).keep Kp27 geN) P1 P2 P3 P4 P5 P6)
  · intro tl20
    refine oIloadN K18 17 (d32_16 hby) rfl ?_
    refine oLdcI K18 19 (wq hw 85) (d32_17 hby) ?_
    by_cases hc30 : c2 < (55296 : Int32)
    · refine oIcmpYes K18 30 (d32_19 hby) (XT.ii_lt_t hc30) ?_
      exact tl20 (Or.inl hc30)
    · refine oIcmpNo K18 22 (d32_19 hby) (XT.ii_lt_f hc30) ?_
      refine oIloadN K18 23 (d32_22 hby) rfl ?_
      refine oLdcI K18 25 (wq hw 137) (d32_23 hby) ?_
      by_cases hc31 : (57343 : Int32) < c2
      · refine oIcmpYes K18 30 (d32_25 hby) (XT.ii_gt_t hc31) ?_
        exact tl20 (Or.inr hc31)
      · refine oIcmpNo K18 28 (d32_25 hby) (XT.ii_gt_f hc31) ?_
        refine oIloadN K18 29 (d32_28 hby) rfl ?_
        exact oRetI K18 [] (t := .int) hret (by simp) rfl (d32_29 hby) (by decide) (by decide) hlk (fun x hx => by cases hx) ⟨(2 : Int32), rfl, rfl, (scan_hit1 (inS hc30 hc31)).symm⟩
theorem rmLS3_3 (G : Gl Z a0 z0 fm) (x : Addr) (b : Nat) (c0 c1 c2 : Int32) (h0 : Heap) (hZh : Ext Z.heap h0) (hsf : Own Z h0 []) (P0 : Str Z h0 b x [c0, c1, c2]) (P1 : ¬ c0 < (0 : Int32)) (P2 : ¬ (65535 : Int32) < c0) (P3 : ¬ c1 < (0 : Int32)) (P4 : ¬ (65535 : Int32) < c1) (P5 : ¬ c2 < (0 : Int32)) (P6 : ¬ (65535 : Int32) < c2) :
    Ctr l Z ELs yn705 prog_25_method_3_code 4 (some .int) [] (rmk 6 0 0 150) #[(.ref x), (.int 3)] [] h0 (fun v h fs => (∃ r : Int32, fs = [] ∧ v = some (.int r) ∧ r.toInt = scan [] 3)) := by
  obtain ⟨hw, hEL, wS, OS, hz0, OA, OH, OL, OF, rfm⟩ := id G
  refine Ctr.intro pn706 hEL hZh hsf ?_
  intro p e s m below meth c s₁ hby hml hret hnm hlk hh K0
  refine Owe.cast (ef704 m x ((3 : Int32))) ?_
  show Owe _ _ _ _ s₁ (mkF m 0 #[.val (.ref x), .val (.int 3), .unset, .unset] [])
  refine oIloadN K0 1 (d32_0 hby) rfl ?_
  refine oIstoreN K0 2 (d32_1 hby) (l' := #[.val (.ref x), .val (.int 3), .val (.int 3), .unset]) rfl ?_
  refine oIloadN K0 3 (d32_2 hby) rfl ?_
  refine oAloadN K0 4 (d32_3 hby) rfl rfl ?_
  refine oVirtual K0 7 1 (wq hw 40) (wq hw 41) (nfSel (wq hw 43)) (wq hw 43) (wq hw 42) (wq hw 14) (wq hw 44) P0.exa (rmLen3 l Z a0 z0 fm G x b c0 c1 c2 h0 K0.old K0.both P0) [] [(.int 3)] (lenOf pd680 rfl) (d32_4 hby) ?_
  intro T1 h3 v4 lo5 fs6 K2 Kp7 q8
  obtain ⟨rfl, rfl⟩ := q8
  have K9 := K2.to 0 0 []
  refine Owe.stk [(.int 3), (.int 3)] ?_
  refine oIcmpYes K9 40 (d32_7 hby) (XT.ii_ge_t (by decide)) ?_
  refine oIconstV K9 41 (-1 : Int32) (d32_40 hby) rfl ?_
  exact oRetI K9 [] (t := .int) hret (by simp) rfl (d32_41 hby) (by decide) (by decide) hlk (fun x hx => by cases hx) ⟨(-1 : Int32), rfl, rfl, rfl⟩
theorem rmLS4_0 (G : Gl Z a0 z0 fm) (x : Addr) (b : Nat) (c0 c1 c2 c3 : Int32) (h0 : Heap) (hZh : Ext Z.heap h0) (hsf : Own Z h0 []) (P0 : Str Z h0 b x [c0, c1, c2, c3]) (P1 : ¬ c0 < (0 : Int32)) (P2 : ¬ (65535 : Int32) < c0) (P3 : ¬ c1 < (0 : Int32)) (P4 : ¬ (65535 : Int32) < c1) (P5 : ¬ c2 < (0 : Int32)) (P6 : ¬ (65535 : Int32) < c2) (P7 : ¬ c3 < (0 : Int32)) (P8 : ¬ (65535 : Int32) < c3) :
    Ctr l Z ELs yn705 prog_25_method_3_code 4 (some .int) [] (rmk 6 0 0 150) #[(.ref x), (.int 0)] [] h0 (fun v h fs => (∃ r : Int32, fs = [] ∧ v = some (.int r) ∧ r.toInt = scan [c0, c1, c2, c3] 0)) := by
  obtain ⟨hw, hEL, wS, OS, hz0, OA, OH, OL, OF, rfm⟩ := id G
  refine Ctr.intro pn706 hEL hZh hsf ?_
  intro p e s m below meth c s₁ hby hml hret hnm hlk hh K0
  refine Owe.cast (ef704 m x ((0 : Int32))) ?_
  show Owe _ _ _ _ s₁ (mkF m 0 #[.val (.ref x), .val (.int 0), .unset, .unset] [])
  refine oIloadN K0 1 (d32_0 hby) rfl ?_
  refine oIstoreN K0 2 (d32_1 hby) (l' := #[.val (.ref x), .val (.int 0), .val (.int 0), .unset]) rfl ?_
  refine oIloadN K0 3 (d32_2 hby) rfl ?_
  refine oAloadN K0 4 (d32_3 hby) rfl rfl ?_
  refine oVirtual K0 7 1 (wq hw 40) (wq hw 41) (nfSel (wq hw 43)) (wq hw 43) (wq hw 42) (wq hw 14) (wq hw 44) P0.exa (rmLen4 l Z a0 z0 fm G x b c0 c1 c2 c3 h0 K0.old K0.both P0) [] [(.int 0)] (lenOf pd680 rfl) (d32_4 hby) ?_
  intro T1 h3 v4 lo5 fs6 K2 Kp7 q8
  obtain ⟨rfl, rfl⟩ := q8
  have K9 := K2.to 0 0 []
  refine Owe.stk [(.int 4), (.int 0)] ?_
  refine oIcmpNo K9 10 (d32_7 hby) (XT.ii_ge_f (by decide)) ?_
  refine oAloadN K9 11 (d32_10 hby) rfl rfl ?_
  refine oIloadN K9 12 (d32_11 hby) rfl ?_
  refine oVirtual K9 15 0 (wq hw 67) (wq hw 68) (nfSel (wq hw 70)) (wq hw 70) (wq hw 69) (wq hw 14) (wq hw 71) (P0.exa.keep Kp7) (rmCP4_0 l Z a0 z0 fm G x b c0 c1 c2 c3 h3 K9.old K9.both (P0.keep Kp7 geN) P1 P2 P3 P4) [(.int 0)] [] (lenOf pd45 rfl) (d32_12 hby) ?_
  intro T10 h12 v13 lo14 fs15 K11 Kp16 q17
  rcases q17 with qq17_0 | qq17_1
  · obtain ⟨r18, rfl, rfl, f19, f20, f21, f22⟩ := qq17_0
    have K23 := K11.to 0 0 []
    refine Owe.stk [(.int r18)] ?_
    refine oIstoreN K23 16 (d32_15 hby) (l' := #[.val (.ref x), .val (.int 0), .val (.int 0), .val (.int r18)]) rfl ?_
    refine oIloadN K23 17 (d32_16 hby) rfl ?_
    refine oLdcI K23 19 (wq hw 85) (d32_17 hby) ?_
    by_cases hc24 : r18 < (55296 : Int32)
    · refine oIcmpYes K23 30 (d32_19 hby) (XT.ii_lt_t hc24) ?_
      refine oIloadN K23 31 (d32_30 hby) rfl ?_
      refine oIloadN K23 32 (d32_31 hby) rfl ?_
      refine oStatic K23 35 1 (wq hw 86) (wq hw 87) (wq hw 88) (wq hw 89) (rmCC2 l Z a0 z0 fm G r18 h12 K23.old K23.both f21) [(.int r18)] [(.int 0)] (lenOf pd45 rfl) (d32_32 hby) ?_
      intro T25 h27 v28 lo29 fs30 K26 Kp31 q32
      obtain ⟨rfl, rfl⟩ := q32
      have K33 := K26.to 0 0 []
      refine Owe.stk [(.int 2), (.int 0)] ?_
      refine oIadd K33 36 (d32_35 hby) ?_
      show Owe _ _ _ _ T25 (mkF m 36 #[.val (.ref x), .val (.int 0), .val (.int 0), .val (.int r18)] [(.int 2)])
      refine oIstoreN K33 37 (d32_36 hby) (l' := #[.val (.ref x), .val (.int 0), .val (.int 2), .val (.int r18)]) rfl ?_
      refine oGoto K33 2 (d32_37 hby) ?_
      exact Owe.mono (fun _ _ _ ⟨r, e1, e2, e3⟩ => ⟨r, e1, e2, e3.trans (scan_pair (i := 0) f19 f20).symm⟩) (sgLS4_2 l Z a0 z0 fm G x b ((0 : Int32)) r18 c0 c1 c2 c3 hby hret hlk h27 (K33.to 0 0 [] (q := by simp)) (((P0.keep Kp7 geN).keep Kp16 geN).keep Kp31 geN) P1 P2 P3 P4 P5 P6 P7 P8)
    · refine oIcmpNo K23 22 (d32_19 hby) (XT.ii_lt_f hc24) ?_
      refine oIloadN K23 23 (d32_22 hby) rfl ?_
      refine oLdcI K23 25 (wq hw 137) (d32_23 hby) ?_
      refine oIcmpYes K23 30 (d32_25 hby) (XT.ii_gt_t f22) ?_
      refine oIloadN K23 31 (d32_30 hby) rfl ?_
      refine oIloadN K23 32 (d32_31 hby) rfl ?_
      refine oStatic K23 35 1 (wq hw 86) (wq hw 87) (wq hw 88) (wq hw 89) (rmCC2 l Z a0 z0 fm G r18 h12 K23.old K23.both f21) [(.int r18)] [(.int 0)] (lenOf pd45 rfl) (d32_32 hby) ?_
      intro T34 h36 v37 lo38 fs39 K35 Kp40 q41
      obtain ⟨rfl, rfl⟩ := q41
      have K42 := K35.to 0 0 []
      refine Owe.stk [(.int 2), (.int 0)] ?_
      refine oIadd K42 36 (d32_35 hby) ?_
      show Owe _ _ _ _ T34 (mkF m 36 #[.val (.ref x), .val (.int 0), .val (.int 0), .val (.int r18)] [(.int 2)])
      refine oIstoreN K42 37 (d32_36 hby) (l' := #[.val (.ref x), .val (.int 0), .val (.int 2), .val (.int r18)]) rfl ?_
      refine oGoto K42 2 (d32_37 hby) ?_
      exact Owe.mono (fun _ _ _ ⟨r, e1, e2, e3⟩ => ⟨r, e1, e2, e3.trans (scan_pair (i := 0) f19 f20).symm⟩) (sgLS4_2 l Z a0 z0 fm G x b ((0 : Int32)) r18 c0 c1 c2 c3 hby hret hlk h36 (K42.to 0 0 [] (q := by simp)) (((P0.keep Kp7 geN).keep Kp16 geN).keep Kp40 geN) P1 P2 P3 P4 P5 P6 P7 P8)
  · obtain ⟨rfl, rfl, f43⟩ := qq17_1
    have K44 := K11.to 0 0 []
    refine Owe.stk [(.int c0)] ?_
    refine oIstoreN K44 16 (d32_15 hby) (l' := #[.val (.ref x), .val (.int 0), .val (.int 0), .val (.int c0)]) rfl ?_
    refine Owe.join (P := ((c0 < (55296 : Int32)) ∨ ((57343 : Int32) < c0))) (mkF m 30 #[.val (.ref x), .val (.int 0), .val (.int 0), .val (.int c0)] []) ?_ ?_
    · intro hj45
      refine oIloadN K44 31 (d32_30 hby) rfl ?_
      refine oIloadN K44 32 (d32_31 hby) rfl ?_
      refine oStatic K44 35 1 (wq hw 86) (wq hw 87) (wq hw 88) (wq hw 89) (rmCC1 l Z a0 z0 fm G c0 h12 K44.old K44.both (by simp only [hiI, loI, Int32.lt_iff_toInt_lt, Int32.reduceToInt] at P1 P2 hj45 ⊢; omega)) [(.int c0)] [(.int 0)] (lenOf pd45 rfl) (d32_32 hby) ?_
      intro T47 h49 v50 lo51 fs52 K48 Kp53 q54
      obtain ⟨rfl, rfl⟩ := q54
      have K55 := K48.to 0 0 []
      refine Owe.stk [(.int 1), (.int 0)] ?_
      refine oIadd K55 36 (d32_35 hby) ?_
      show Owe _ _ _ _ T47 (mkF m 36 #[.val (.ref x), .val (.int 0), .val (.int 0), .val (.int c0)] [(.int 1)])
      refine oIstoreN K55 37 (d32_36 hby) (l' := #[.val (.ref x), .val (.int 0), .val (.int 1), .val (.int c0)]) rfl ?_
      refine oGoto K55 2 (d32_37 hby) ?_
      exact Owe.mono (fun _ _ _ ⟨r, e1, e2, e3⟩ => ⟨r, e1, e2, e3.trans (scan_next (i := 0) f43 (outS hj45)).symm⟩) (sgLS4_1 l Z a0 z0 fm G x b ((0 : Int32)) c0 c0 c1 c2 c3 hby hret hlk h49 (K55.to 0 0 [] (q := by simp)) (((P0.keep Kp7 geN).keep Kp16 geN).keep Kp53 geN) P1 P2 P3 P4 P5 P6 P7 P8)
    · intro tl46
      refine oIloadN K44 17 (d32_16 hby) rfl ?_
      refine oLdcI K44 19 (wq hw 85) (d32_17 hby) ?_
      by_cases hc56 : c0 < (55296 : Int32)
      · refine oIcmpYes K44 30 (d32_19 hby) (XT.ii_lt_t hc56) ?_
        exact tl46 (Or.inl hc56)
      · refine oIcmpNo K44 22 (d32_19 hby) (XT.ii_lt_f hc56) ?_
        refine oIloadN K44 23 (d32_22 hby) rfl ?_
        refine oLdcI K44 25 (wq hw 137) (d32_23 hby) ?_
        by_cases hc57 : (57343 : Int32) < c0
        · refine oIcmpYes K44 30 (d32_25 hby) (XT.ii_gt_t hc57) ?_
          exact tl46 (Or.inr hc57)
        · refine oIcmpNo K44 28 (d32_25 hby) (XT.ii_gt_f hc57) ?_
          refine oIloadN K44 29 (d32_28 hby) rfl ?_
          exact oRetI K44 [] (t := .int) hret (by simp) rfl (d32_29 hby) (by decide) (by decide) hlk (fun x hx => by cases hx) ⟨(0 : Int32), rfl, rfl, (scan_hit f43 (inS hc56 hc57)).symm⟩
theorem rmLS4_1 (G : Gl Z a0 z0 fm) (x : Addr) (b : Nat) (c0 c1 c2 c3 : Int32) (h0 : Heap) (hZh : Ext Z.heap h0) (hsf : Own Z h0 []) (P0 : Str Z h0 b x [c0, c1, c2, c3]) (P1 : ¬ c0 < (0 : Int32)) (P2 : ¬ (65535 : Int32) < c0) (P3 : ¬ c1 < (0 : Int32)) (P4 : ¬ (65535 : Int32) < c1) (P5 : ¬ c2 < (0 : Int32)) (P6 : ¬ (65535 : Int32) < c2) (P7 : ¬ c3 < (0 : Int32)) (P8 : ¬ (65535 : Int32) < c3) :
    Ctr l Z ELs yn705 prog_25_method_3_code 4 (some .int) [] (rmk 6 0 0 150) #[(.ref x), (.int 1)] [] h0 (fun v h fs => (∃ r : Int32, fs = [] ∧ v = some (.int r) ∧ r.toInt = scan [c1, c2, c3] 1)) := by
  obtain ⟨hw, hEL, wS, OS, hz0, OA, OH, OL, OF, rfm⟩ := id G
  refine Ctr.intro pn706 hEL hZh hsf ?_
  intro p e s m below meth c s₁ hby hml hret hnm hlk hh K0
  refine Owe.cast (ef704 m x ((1 : Int32))) ?_
  show Owe _ _ _ _ s₁ (mkF m 0 #[.val (.ref x), .val (.int 1), .unset, .unset] [])
  refine oIloadN K0 1 (d32_0 hby) rfl ?_
  refine oIstoreN K0 2 (d32_1 hby) (l' := #[.val (.ref x), .val (.int 1), .val (.int 1), .unset]) rfl ?_
  refine oIloadN K0 3 (d32_2 hby) rfl ?_
  refine oAloadN K0 4 (d32_3 hby) rfl rfl ?_
  refine oVirtual K0 7 1 (wq hw 40) (wq hw 41) (nfSel (wq hw 43)) (wq hw 43) (wq hw 42) (wq hw 14) (wq hw 44) P0.exa (rmLen4 l Z a0 z0 fm G x b c0 c1 c2 c3 h0 K0.old K0.both P0) [] [(.int 1)] (lenOf pd680 rfl) (d32_4 hby) ?_
  intro T1 h3 v4 lo5 fs6 K2 Kp7 q8
  obtain ⟨rfl, rfl⟩ := q8
  have K9 := K2.to 0 0 []
  refine Owe.stk [(.int 4), (.int 1)] ?_
  refine oIcmpNo K9 10 (d32_7 hby) (XT.ii_ge_f (by decide)) ?_
  refine oAloadN K9 11 (d32_10 hby) rfl rfl ?_
  refine oIloadN K9 12 (d32_11 hby) rfl ?_
  refine oVirtual K9 15 0 (wq hw 67) (wq hw 68) (nfSel (wq hw 70)) (wq hw 70) (wq hw 69) (wq hw 14) (wq hw 71) (P0.exa.keep Kp7) (rmCP4_1 l Z a0 z0 fm G x b c0 c1 c2 c3 h3 K9.old K9.both (P0.keep Kp7 geN) P3 P4 P5 P6) [(.int 1)] [] (lenOf pd45 rfl) (d32_12 hby) ?_
  intro T10 h12 v13 lo14 fs15 K11 Kp16 q17
  rcases q17 with qq17_0 | qq17_1
  · obtain ⟨r18, rfl, rfl, f19, f20, f21, f22⟩ := qq17_0
    have K23 := K11.to 0 0 []
    refine Owe.stk [(.int r18)] ?_
    refine oIstoreN K23 16 (d32_15 hby) (l' := #[.val (.ref x), .val (.int 1), .val (.int 1), .val (.int r18)]) rfl ?_
    refine oIloadN K23 17 (d32_16 hby) rfl ?_
    refine oLdcI K23 19 (wq hw 85) (d32_17 hby) ?_
    by_cases hc24 : r18 < (55296 : Int32)
    · refine oIcmpYes K23 30 (d32_19 hby) (XT.ii_lt_t hc24) ?_
      refine oIloadN K23 31 (d32_30 hby) rfl ?_
      refine oIloadN K23 32 (d32_31 hby) rfl ?_
      refine oStatic K23 35 1 (wq hw 86) (wq hw 87) (wq hw 88) (wq hw 89) (rmCC2 l Z a0 z0 fm G r18 h12 K23.old K23.both f21) [(.int r18)] [(.int 1)] (lenOf pd45 rfl) (d32_32 hby) ?_
      intro T25 h27 v28 lo29 fs30 K26 Kp31 q32
      obtain ⟨rfl, rfl⟩ := q32
      have K33 := K26.to 0 0 []
      refine Owe.stk [(.int 2), (.int 1)] ?_
      refine oIadd K33 36 (d32_35 hby) ?_
      show Owe _ _ _ _ T25 (mkF m 36 #[.val (.ref x), .val (.int 1), .val (.int 1), .val (.int r18)] [(.int 3)])
      refine oIstoreN K33 37 (d32_36 hby) (l' := #[.val (.ref x), .val (.int 1), .val (.int 3), .val (.int r18)]) rfl ?_
      refine oGoto K33 2 (d32_37 hby) ?_
      exact Owe.mono (fun _ _ _ ⟨r, e1, e2, e3⟩ => ⟨r, e1, e2, e3.trans (scan_pair (i := 1) f19 f20).symm⟩) (sgLS4_3 l Z a0 z0 fm G x b ((1 : Int32)) r18 c0 c1 c2 c3 hby hret hlk h27 (K33.to 0 0 [] (q := by simp)) (((P0.keep Kp7 geN).keep Kp16 geN).keep Kp31 geN) P1 P2 P3 P4 P5 P6 P7 P8)
    · refine oIcmpNo K23 22 (d32_19 hby) (XT.ii_lt_f hc24) ?_
      refine oIloadN K23 23 (d32_22 hby) rfl ?_
      refine oLdcI K23 25 (wq hw 137) (d32_23 hby) ?_
      refine oIcmpYes K23 30 (d32_25 hby) (XT.ii_gt_t f22) ?_
      refine oIloadN K23 31 (d32_30 hby) rfl ?_
      refine oIloadN K23 32 (d32_31 hby) rfl ?_
      refine oStatic K23 35 1 (wq hw 86) (wq hw 87) (wq hw 88) (wq hw 89) (rmCC2 l Z a0 z0 fm G r18 h12 K23.old K23.both f21) [(.int r18)] [(.int 1)] (lenOf pd45 rfl) (d32_32 hby) ?_
      intro T34 h36 v37 lo38 fs39 K35 Kp40 q41
      obtain ⟨rfl, rfl⟩ := q41
      have K42 := K35.to 0 0 []
      refine Owe.stk [(.int 2), (.int 1)] ?_
      refine oIadd K42 36 (d32_35 hby) ?_
      show Owe _ _ _ _ T34 (mkF m 36 #[.val (.ref x), .val (.int 1), .val (.int 1), .val (.int r18)] [(.int 3)])
      refine oIstoreN K42 37 (d32_36 hby) (l' := #[.val (.ref x), .val (.int 1), .val (.int 3), .val (.int r18)]) rfl ?_
      refine oGoto K42 2 (d32_37 hby) ?_
      exact Owe.mono (fun _ _ _ ⟨r, e1, e2, e3⟩ => ⟨r, e1, e2, e3.trans (scan_pair (i := 1) f19 f20).symm⟩) (sgLS4_3 l Z a0 z0 fm G x b ((1 : Int32)) r18 c0 c1 c2 c3 hby hret hlk h36 (K42.to 0 0 [] (q := by simp)) (((P0.keep Kp7 geN).keep Kp16 geN).keep Kp40 geN) P1 P2 P3 P4 P5 P6 P7 P8)
  · obtain ⟨rfl, rfl, f43⟩ := qq17_1
    have K44 := K11.to 0 0 []
    refine Owe.stk [(.int c1)] ?_
    refine oIstoreN K44 16 (d32_15 hby) (l' := #[.val (.ref x), .val (.int 1), .val (.int 1), .val (.int c1)]) rfl ?_
    refine Owe.join (P := ((c1 < (55296 : Int32)) ∨ ((57343 : Int32) < c1))) (mkF m 30 #[.val (.ref x), .val (.int 1), .val (.int 1), .val (.int c1)] []) ?_ ?_
    · intro hj45
      refine oIloadN K44 31 (d32_30 hby) rfl ?_
      refine oIloadN K44 32 (d32_31 hby) rfl ?_
      refine oStatic K44 35 1 (wq hw 86) (wq hw 87) (wq hw 88) (wq hw 89) (rmCC1 l Z a0 z0 fm G c1 h12 K44.old K44.both (by simp only [hiI, loI, Int32.lt_iff_toInt_lt, Int32.reduceToInt] at P3 P4 hj45 ⊢; omega)) [(.int c1)] [(.int 1)] (lenOf pd45 rfl) (d32_32 hby) ?_
      intro T47 h49 v50 lo51 fs52 K48 Kp53 q54
      obtain ⟨rfl, rfl⟩ := q54
      have K55 := K48.to 0 0 []
      refine Owe.stk [(.int 1), (.int 1)] ?_
      refine oIadd K55 36 (d32_35 hby) ?_
      show Owe _ _ _ _ T47 (mkF m 36 #[.val (.ref x), .val (.int 1), .val (.int 1), .val (.int c1)] [(.int 2)])
      refine oIstoreN K55 37 (d32_36 hby) (l' := #[.val (.ref x), .val (.int 1), .val (.int 2), .val (.int c1)]) rfl ?_
      refine oGoto K55 2 (d32_37 hby) ?_
      exact Owe.mono (fun _ _ _ ⟨r, e1, e2, e3⟩ => ⟨r, e1, e2, e3.trans (scan_next (i := 1) f43 (outS hj45)).symm⟩) (sgLS4_2 l Z a0 z0 fm G x b ((1 : Int32)) c1 c0 c1 c2 c3 hby hret hlk h49 (K55.to 0 0 [] (q := by simp)) (((P0.keep Kp7 geN).keep Kp16 geN).keep Kp53 geN) P1 P2 P3 P4 P5 P6 P7 P8)
    · intro tl46
      refine oIloadN K44 17 (d32_16 hby) rfl ?_
      refine oLdcI K44 19 (wq hw 85) (d32_17 hby) ?_
      by_cases hc56 : c1 < (55296 : Int32)
      · refine oIcmpYes K44 30 (d32_19 hby) (XT.ii_lt_t hc56) ?_
        exact tl46 (Or.inl hc56)
      · refine oIcmpNo K44 22 (d32_19 hby) (XT.ii_lt_f hc56) ?_
        refine oIloadN K44 23 (d32_22 hby) rfl ?_
        refine oLdcI K44 25 (wq hw 137) (d32_23 hby) ?_
        by_cases hc57 : (57343 : Int32) < c1
        · refine oIcmpYes K44 30 (d32_25 hby) (XT.ii_gt_t hc57) ?_
          exact tl46 (Or.inr hc57)
        · refine oIcmpNo K44 28 (d32_25 hby) (XT.ii_gt_f hc57) ?_
          refine oIloadN K44 29 (d32_28 hby) rfl ?_
          exact oRetI K44 [] (t := .int) hret (by simp) rfl (d32_29 hby) (by decide) (by decide) hlk (fun x hx => by cases hx) ⟨(1 : Int32), rfl, rfl, (scan_hit f43 (inS hc56 hc57)).symm⟩
theorem rmLS4_2 (G : Gl Z a0 z0 fm) (x : Addr) (b : Nat) (c0 c1 c2 c3 : Int32) (h0 : Heap) (hZh : Ext Z.heap h0) (hsf : Own Z h0 []) (P0 : Str Z h0 b x [c0, c1, c2, c3]) (P1 : ¬ c0 < (0 : Int32)) (P2 : ¬ (65535 : Int32) < c0) (P3 : ¬ c1 < (0 : Int32)) (P4 : ¬ (65535 : Int32) < c1) (P5 : ¬ c2 < (0 : Int32)) (P6 : ¬ (65535 : Int32) < c2) (P7 : ¬ c3 < (0 : Int32)) (P8 : ¬ (65535 : Int32) < c3) :
    Ctr l Z ELs yn705 prog_25_method_3_code 4 (some .int) [] (rmk 6 0 0 150) #[(.ref x), (.int 2)] [] h0 (fun v h fs => (∃ r : Int32, fs = [] ∧ v = some (.int r) ∧ r.toInt = scan [c2, c3] 2)) := by
  obtain ⟨hw, hEL, wS, OS, hz0, OA, OH, OL, OF, rfm⟩ := id G
  refine Ctr.intro pn706 hEL hZh hsf ?_
  intro p e s m below meth c s₁ hby hml hret hnm hlk hh K0
  refine Owe.cast (ef704 m x ((2 : Int32))) ?_
  show Owe _ _ _ _ s₁ (mkF m 0 #[.val (.ref x), .val (.int 2), .unset, .unset] [])
  refine oIloadN K0 1 (d32_0 hby) rfl ?_
  refine oIstoreN K0 2 (d32_1 hby) (l' := #[.val (.ref x), .val (.int 2), .val (.int 2), .unset]) rfl ?_
  refine oIloadN K0 3 (d32_2 hby) rfl ?_
  refine oAloadN K0 4 (d32_3 hby) rfl rfl ?_
  refine oVirtual K0 7 1 (wq hw 40) (wq hw 41) (nfSel (wq hw 43)) (wq hw 43) (wq hw 42) (wq hw 14) (wq hw 44) P0.exa (rmLen4 l Z a0 z0 fm G x b c0 c1 c2 c3 h0 K0.old K0.both P0) [] [(.int 2)] (lenOf pd680 rfl) (d32_4 hby) ?_
  intro T1 h3 v4 lo5 fs6 K2 Kp7 q8
  obtain ⟨rfl, rfl⟩ := q8
  have K9 := K2.to 0 0 []
  refine Owe.stk [(.int 4), (.int 2)] ?_
  refine oIcmpNo K9 10 (d32_7 hby) (XT.ii_ge_f (by decide)) ?_
  refine oAloadN K9 11 (d32_10 hby) rfl rfl ?_
  refine oIloadN K9 12 (d32_11 hby) rfl ?_
  refine oVirtual K9 15 0 (wq hw 67) (wq hw 68) (nfSel (wq hw 70)) (wq hw 70) (wq hw 69) (wq hw 14) (wq hw 71) (P0.exa.keep Kp7) (rmCP4_2 l Z a0 z0 fm G x b c0 c1 c2 c3 h3 K9.old K9.both (P0.keep Kp7 geN) P5 P6 P7 P8) [(.int 2)] [] (lenOf pd45 rfl) (d32_12 hby) ?_
  intro T10 h12 v13 lo14 fs15 K11 Kp16 q17
  rcases q17 with qq17_0 | qq17_1
  · obtain ⟨r18, rfl, rfl, f19, f20, f21, f22⟩ := qq17_0
    have K23 := K11.to 0 0 []
    refine Owe.stk [(.int r18)] ?_
    refine oIstoreN K23 16 (d32_15 hby) (l' := #[.val (.ref x), .val (.int 2), .val (.int 2), .val (.int r18)]) rfl ?_
    refine oIloadN K23 17 (d32_16 hby) rfl ?_
    refine oLdcI K23 19 (wq hw 85) (d32_17 hby) ?_
    by_cases hc24 : r18 < (55296 : Int32)
    · refine oIcmpYes K23 30 (d32_19 hby) (XT.ii_lt_t hc24) ?_
      refine oIloadN K23 31 (d32_30 hby) rfl ?_
      refine oIloadN K23 32 (d32_31 hby) rfl ?_
      refine oStatic K23 35 1 (wq hw 86) (wq hw 87) (wq hw 88) (wq hw 89) (rmCC2 l Z a0 z0 fm G r18 h12 K23.old K23.both f21) [(.int r18)] [(.int 2)] (lenOf pd45 rfl) (d32_32 hby) ?_
      intro T25 h27 v28 lo29 fs30 K26 Kp31 q32
      obtain ⟨rfl, rfl⟩ := q32
      have K33 := K26.to 0 0 []
      refine Owe.stk [(.int 2), (.int 2)] ?_
      refine oIadd K33 36 (d32_35 hby) ?_
      show Owe _ _ _ _ T25 (mkF m 36 #[.val (.ref x), .val (.int 2), .val (.int 2), .val (.int r18)] [(.int 4)])
      refine oIstoreN K33 37 (d32_36 hby) (l' := #[.val (.ref x), .val (.int 2), .val (.int 4), .val (.int r18)]) rfl ?_
      refine oGoto K33 2 (d32_37 hby) ?_
      exact Owe.mono (fun _ _ _ ⟨r, e1, e2, e3⟩ => ⟨r, e1, e2, e3.trans (scan_pair (i := 2) f19 f20).symm⟩) (sgLS4_4 l Z a0 z0 fm G x b ((2 : Int32)) r18 c0 c1 c2 c3 hby hret hlk h27 (K33.to 0 0 [] (q := by simp)) (((P0.keep Kp7 geN).keep Kp16 geN).keep Kp31 geN) P1 P2 P3 P4 P5 P6 P7 P8)
    · refine oIcmpNo K23 22 (d32_19 hby) (XT.ii_lt_f hc24) ?_
      refine oIloadN K23 23 (d32_22 hby) rfl ?_
      refine oLdcI K23 25 (wq hw 137) (d32_23 hby) ?_
      refine oIcmpYes K23 30 (d32_25 hby) (XT.ii_gt_t f22) ?_
      refine oIloadN K23 31 (d32_30 hby) rfl ?_
      refine oIloadN K23 32 (d32_31 hby) rfl ?_
      refine oStatic K23 35 1 (wq hw 86) (wq hw 87) (wq hw 88) (wq hw 89) (rmCC2 l Z a0 z0 fm G r18 h12 K23.old K23.both f21) [(.int r18)] [(.int 2)] (lenOf pd45 rfl) (d32_32 hby) ?_
      intro T34 h36 v37 lo38 fs39 K35 Kp40 q41
      obtain ⟨rfl, rfl⟩ := q41
      have K42 := K35.to 0 0 []
      refine Owe.stk [(.int 2), (.int 2)] ?_
      refine oIadd K42 36 (d32_35 hby) ?_
      show Owe _ _ _ _ T34 (mkF m 36 #[.val (.ref x), .val (.int 2), .val (.int 2), .val (.int r18)] [(.int 4)])
      refine oIstoreN K42 37 (d32_36 hby) (l' := #[.val (.ref x), .val (.int 2), .val (.int 4), .val (.int r18)]) rfl ?_
      refine oGoto K42 2 (d32_37 hby) ?_
      exact Owe.mono (fun _ _ _ ⟨r, e1, e2, e3⟩ => ⟨r, e1, e2, e3.trans (scan_pair (i := 2) f19 f20).symm⟩) (sgLS4_4 l Z a0 z0 fm G x b ((2 : Int32)) r18 c0 c1 c2 c3 hby hret hlk h36 (K42.to 0 0 [] (q := by simp)) (((P0.keep Kp7 geN).keep Kp16 geN).keep Kp40 geN) P1 P2 P3 P4 P5 P6 P7 P8)
  · obtain ⟨rfl, rfl, f43⟩ := qq17_1
    have K44 := K11.to 0 0 []
    refine Owe.stk [(.int c2)] ?_
    refine oIstoreN K44 16 (d32_15 hby) (l' := #[.val (.ref x), .val (.int 2), .val (.int 2), .val (.int c2)]) rfl ?_
    refine Owe.join (P := ((c2 < (55296 : Int32)) ∨ ((57343 : Int32) < c2))) (mkF m 30 #[.val (.ref x), .val (.int 2), .val (.int 2), .val (.int c2)] []) ?_ ?_
    · intro hj45
      refine oIloadN K44 31 (d32_30 hby) rfl ?_
      refine oIloadN K44 32 (d32_31 hby) rfl ?_
      refine oStatic K44 35 1 (wq hw 86) (wq hw 87) (wq hw 88) (wq hw 89) (rmCC1 l Z a0 z0 fm G c2 h12 K44.old K44.both (by simp only [hiI, loI, Int32.lt_iff_toInt_lt, Int32.reduceToInt] at P5 P6 hj45 ⊢; omega)) [(.int c2)] [(.int 2)] (lenOf pd45 rfl) (d32_32 hby) ?_
      intro T47 h49 v50 lo51 fs52 K48 Kp53 q54
      obtain ⟨rfl, rfl⟩ := q54
      have K55 := K48.to 0 0 []
      refine Owe.stk [(.int 1), (.int 2)] ?_
      refine oIadd K55 36 (d32_35 hby) ?_
      show Owe _ _ _ _ T47 (mkF m 36 #[.val (.ref x), .val (.int 2), .val (.int 2), .val (.int c2)] [(.int 3)])
      refine oIstoreN K55 37 (d32_36 hby) (l' := #[.val (.ref x), .val (.int 2), .val (.int 3), .val (.int c2)]) rfl ?_
      refine oGoto K55 2 (d32_37 hby) ?_
      exact Owe.mono (fun _ _ _ ⟨r, e1, e2, e3⟩ => ⟨r, e1, e2, e3.trans (scan_next (i := 2) f43 (outS hj45)).symm⟩) (sgLS4_3 l Z a0 z0 fm G x b ((2 : Int32)) c2 c0 c1 c2 c3 hby hret hlk h49 (K55.to 0 0 [] (q := by simp)) (((P0.keep Kp7 geN).keep Kp16 geN).keep Kp53 geN) P1 P2 P3 P4 P5 P6 P7 P8)
    · intro tl46
      refine oIloadN K44 17 (d32_16 hby) rfl ?_
      refine oLdcI K44 19 (wq hw 85) (d32_17 hby) ?_
      by_cases hc56 : c2 < (55296 : Int32)
      · refine oIcmpYes K44 30 (d32_19 hby) (XT.ii_lt_t hc56) ?_
        exact tl46 (Or.inl hc56)
      · refine oIcmpNo K44 22 (d32_19 hby) (XT.ii_lt_f hc56) ?_
        refine oIloadN K44 23 (d32_22 hby) rfl ?_
        refine oLdcI K44 25 (wq hw 137) (d32_23 hby) ?_
        by_cases hc57 : (57343 : Int32) < c2
        · refine oIcmpYes K44 30 (d32_25 hby) (XT.ii_gt_t hc57) ?_
          exact tl46 (Or.inr hc57)
        · refine oIcmpNo K44 28 (d32_25 hby) (XT.ii_gt_f hc57) ?_
          refine oIloadN K44 29 (d32_28 hby) rfl ?_
          exact oRetI K44 [] (t := .int) hret (by simp) rfl (d32_29 hby) (by decide) (by decide) hlk (fun x hx => by cases hx) ⟨(2 : Int32), rfl, rfl, (scan_hit f43 (inS hc56 hc57)).symm⟩
theorem rmLS4_3 (G : Gl Z a0 z0 fm) (x : Addr) (b : Nat) (c0 c1 c2 c3 : Int32) (h0 : Heap) (hZh : Ext Z.heap h0) (hsf : Own Z h0 []) (P0 : Str Z h0 b x [c0, c1, c2, c3]) (P1 : ¬ c0 < (0 : Int32)) (P2 : ¬ (65535 : Int32) < c0) (P3 : ¬ c1 < (0 : Int32)) (P4 : ¬ (65535 : Int32) < c1) (P5 : ¬ c2 < (0 : Int32)) (P6 : ¬ (65535 : Int32) < c2) (P7 : ¬ c3 < (0 : Int32)) (P8 : ¬ (65535 : Int32) < c3) :
    Ctr l Z ELs yn705 prog_25_method_3_code 4 (some .int) [] (rmk 6 0 0 150) #[(.ref x), (.int 3)] [] h0 (fun v h fs => (∃ r : Int32, fs = [] ∧ v = some (.int r) ∧ r.toInt = scan [c3] 3)) := by
  obtain ⟨hw, hEL, wS, OS, hz0, OA, OH, OL, OF, rfm⟩ := id G
  refine Ctr.intro pn706 hEL hZh hsf ?_
  intro p e s m below meth c s₁ hby hml hret hnm hlk hh K0
  refine Owe.cast (ef704 m x ((3 : Int32))) ?_
  show Owe _ _ _ _ s₁ (mkF m 0 #[.val (.ref x), .val (.int 3), .unset, .unset] [])
  refine oIloadN K0 1 (d32_0 hby) rfl ?_
  refine oIstoreN K0 2 (d32_1 hby) (l' := #[.val (.ref x), .val (.int 3), .val (.int 3), .unset]) rfl ?_
  refine oIloadN K0 3 (d32_2 hby) rfl ?_
  refine oAloadN K0 4 (d32_3 hby) rfl rfl ?_
  refine oVirtual K0 7 1 (wq hw 40) (wq hw 41) (nfSel (wq hw 43)) (wq hw 43) (wq hw 42) (wq hw 14) (wq hw 44) P0.exa (rmLen4 l Z a0 z0 fm G x b c0 c1 c2 c3 h0 K0.old K0.both P0) [] [(.int 3)] (lenOf pd680 rfl) (d32_4 hby) ?_
  intro T1 h3 v4 lo5 fs6 K2 Kp7 q8
  obtain ⟨rfl, rfl⟩ := q8
  have K9 := K2.to 0 0 []
  refine Owe.stk [(.int 4), (.int 3)] ?_
  refine oIcmpNo K9 10 (d32_7 hby) (XT.ii_ge_f (by decide)) ?_
  refine oAloadN K9 11 (d32_10 hby) rfl rfl ?_
  refine oIloadN K9 12 (d32_11 hby) rfl ?_
  refine oVirtual K9 15 0 (wq hw 67) (wq hw 68) (nfSel (wq hw 70)) (wq hw 70) (wq hw 69) (wq hw 14) (wq hw 71) (P0.exa.keep Kp7) (rmCP4_3 l Z a0 z0 fm G x b c0 c1 c2 c3 h3 K9.old K9.both (P0.keep Kp7 geN) P7 P8) [(.int 3)] [] (lenOf pd45 rfl) (d32_12 hby) ?_
  intro T10 h12 v13 lo14 fs15 K11 Kp16 q17
  obtain ⟨rfl, rfl⟩ := q17
  have K18 := K11.to 0 0 []
  refine Owe.stk [(.int c3)] ?_
  refine oIstoreN K18 16 (d32_15 hby) (l' := #[.val (.ref x), .val (.int 3), .val (.int 3), .val (.int c3)]) rfl ?_
  refine Owe.join (P := ((c3 < (55296 : Int32)) ∨ ((57343 : Int32) < c3))) (mkF m 30 #[.val (.ref x), .val (.int 3), .val (.int 3), .val (.int c3)] []) ?_ ?_
  · intro hj19
    refine oIloadN K18 31 (d32_30 hby) rfl ?_
    refine oIloadN K18 32 (d32_31 hby) rfl ?_
    refine oStatic K18 35 1 (wq hw 86) (wq hw 87) (wq hw 88) (wq hw 89) (rmCC1 l Z a0 z0 fm G c3 h12 K18.old K18.both (by simp only [hiI, loI, Int32.lt_iff_toInt_lt, Int32.reduceToInt] at P7 P8 hj19 ⊢; omega)) [(.int c3)] [(.int 3)] (lenOf pd45 rfl) (d32_32 hby) ?_
    intro T21 h23 v24 lo25 fs26 K22 Kp27 q28
    obtain ⟨rfl, rfl⟩ := q28
    have K29 := K22.to 0 0 []
    refine Owe.stk [(.int 1), (.int 3)] ?_
    refine oIadd K29 36 (d32_35 hby) ?_
    show Owe _ _ _ _ T21 (mkF m 36 #[.val (.ref x), .val (.int 3), .val (.int 3), .val (.int c3)] [(.int 4)])
    refine oIstoreN K29 37 (d32_36 hby) (l' := #[.val (.ref x), .val (.int 3), .val (.int 4), .val (.int c3)]) rfl ?_
    refine oGoto K29 2 (d32_37 hby) ?_
    exact Owe.mono (fun _ _ _ ⟨r, e1, e2, e3⟩ => ⟨r, e1, e2, e3.trans (scan_end (i := 3) (outS hj19)).symm⟩) (sgLS4_4 l Z a0 z0 fm G x b ((3 : Int32)) c3 c0 c1 c2 c3 hby hret hlk h23 (K29.to 0 0 [] (q := by simp)) (((P0.keep Kp7 geN).keep Kp16 geN).keep Kp27 geN) P1 P2 P3 P4 P5 P6 P7 P8)
  · intro tl20
    refine oIloadN K18 17 (d32_16 hby) rfl ?_
    refine oLdcI K18 19 (wq hw 85) (d32_17 hby) ?_
    by_cases hc30 : c3 < (55296 : Int32)
    · refine oIcmpYes K18 30 (d32_19 hby) (XT.ii_lt_t hc30) ?_
      exact tl20 (Or.inl hc30)
    · refine oIcmpNo K18 22 (d32_19 hby) (XT.ii_lt_f hc30) ?_
      refine oIloadN K18 23 (d32_22 hby) rfl ?_
      refine oLdcI K18 25 (wq hw 137) (d32_23 hby) ?_
      by_cases hc31 : (57343 : Int32) < c3
      · refine oIcmpYes K18 30 (d32_25 hby) (XT.ii_gt_t hc31) ?_
        exact tl20 (Or.inr hc31)
      · refine oIcmpNo K18 28 (d32_25 hby) (XT.ii_gt_f hc31) ?_
        refine oIloadN K18 29 (d32_28 hby) rfl ?_
        exact oRetI K18 [] (t := .int) hret (by simp) rfl (d32_29 hby) (by decide) (by decide) hlk (fun x hx => by cases hx) ⟨(3 : Int32), rfl, rfl, (scan_hit1 (inS hc30 hc31)).symm⟩
theorem rmLS4_4 (G : Gl Z a0 z0 fm) (x : Addr) (b : Nat) (c0 c1 c2 c3 : Int32) (h0 : Heap) (hZh : Ext Z.heap h0) (hsf : Own Z h0 []) (P0 : Str Z h0 b x [c0, c1, c2, c3]) (P1 : ¬ c0 < (0 : Int32)) (P2 : ¬ (65535 : Int32) < c0) (P3 : ¬ c1 < (0 : Int32)) (P4 : ¬ (65535 : Int32) < c1) (P5 : ¬ c2 < (0 : Int32)) (P6 : ¬ (65535 : Int32) < c2) (P7 : ¬ c3 < (0 : Int32)) (P8 : ¬ (65535 : Int32) < c3) :
    Ctr l Z ELs yn705 prog_25_method_3_code 4 (some .int) [] (rmk 6 0 0 150) #[(.ref x), (.int 4)] [] h0 (fun v h fs => (∃ r : Int32, fs = [] ∧ v = some (.int r) ∧ r.toInt = scan [] 4)) := by
  obtain ⟨hw, hEL, wS, OS, hz0, OA, OH, OL, OF, rfm⟩ := id G
  refine Ctr.intro pn706 hEL hZh hsf ?_
  intro p e s m below meth c s₁ hby hml hret hnm hlk hh K0
  refine Owe.cast (ef704 m x ((4 : Int32))) ?_
  show Owe _ _ _ _ s₁ (mkF m 0 #[.val (.ref x), .val (.int 4), .unset, .unset] [])
  refine oIloadN K0 1 (d32_0 hby) rfl ?_
  refine oIstoreN K0 2 (d32_1 hby) (l' := #[.val (.ref x), .val (.int 4), .val (.int 4), .unset]) rfl ?_
  refine oIloadN K0 3 (d32_2 hby) rfl ?_
  refine oAloadN K0 4 (d32_3 hby) rfl rfl ?_
  refine oVirtual K0 7 1 (wq hw 40) (wq hw 41) (nfSel (wq hw 43)) (wq hw 43) (wq hw 42) (wq hw 14) (wq hw 44) P0.exa (rmLen4 l Z a0 z0 fm G x b c0 c1 c2 c3 h0 K0.old K0.both P0) [] [(.int 4)] (lenOf pd680 rfl) (d32_4 hby) ?_
  intro T1 h3 v4 lo5 fs6 K2 Kp7 q8
  obtain ⟨rfl, rfl⟩ := q8
  have K9 := K2.to 0 0 []
  refine Owe.stk [(.int 4), (.int 4)] ?_
  refine oIcmpYes K9 40 (d32_7 hby) (XT.ii_ge_t (by decide)) ?_
  refine oIconstV K9 41 (-1 : Int32) (d32_40 hby) rfl ?_
  exact oRetI K9 [] (t := .int) hret (by simp) rfl (d32_41 hby) (by decide) (by decide) hlk (fun x hx => by cases hx) ⟨(-1 : Int32), rfl, rfl, rfl⟩
theorem own_m1 {x : Int32} (h : 0 ≤ x.toInt) : x % (1 : Int32) = (0 : Int32) := by
  have q := (c_iremV x 1).1 h (by decide)
  have e : (1 : Int32).toInt = 1 := by decide
  have z : (x % (1 : Int32)).toInt = 0 := by omega
  exact Int32.toInt_inj.mp z
theorem own_m2 {x : Int32} (h : 0 ≤ x.toInt) : x % (2 : Int32) = (0 : Int32) ∨ x % (2 : Int32) = (1 : Int32) := by
  have q := (c_iremV x 2).1 h (by decide)
  have e : (2 : Int32).toInt = 2 := by decide
  have z : (x % (2 : Int32)).toInt = 0 ∨ (x % (2 : Int32)).toInt = 1 := by omega
  rcases z with z | z
  · exact Or.inl (Int32.toInt_inj.mp z)
  · exact Or.inr ((Int32.toInt_inj.mp z))
theorem own_m3 {x : Int32} (h : 0 ≤ x.toInt) : x % (3 : Int32) = (0 : Int32) ∨ x % (3 : Int32) = (1 : Int32) ∨ x % (3 : Int32) = (2 : Int32) := by
  have q := (c_iremV x 3).1 h (by decide)
  have e : (3 : Int32).toInt = 3 := by decide
  have z : (x % (3 : Int32)).toInt = 0 ∨ (x % (3 : Int32)).toInt = 1 ∨ (x % (3 : Int32)).toInt = 2 := by omega
  rcases z with z | z | z
  · exact Or.inl (Int32.toInt_inj.mp z)
  · exact Or.inr (Or.inl (Int32.toInt_inj.mp z))
  · exact Or.inr (Or.inr ((Int32.toInt_inj.mp z)))
theorem own_m4 {x : Int32} (h : 0 ≤ x.toInt) : x % (4 : Int32) = (0 : Int32) ∨ x % (4 : Int32) = (1 : Int32) ∨ x % (4 : Int32) = (2 : Int32) ∨ x % (4 : Int32) = (3 : Int32) := by
  have q := (c_iremV x 4).1 h (by decide)
  have e : (4 : Int32).toInt = 4 := by decide
  have z : (x % (4 : Int32)).toInt = 0 ∨ (x % (4 : Int32)).toInt = 1 ∨ (x % (4 : Int32)).toInt = 2 ∨ (x % (4 : Int32)).toInt = 3 := by omega
  rcases z with z | z | z | z
  · exact Or.inl (Int32.toInt_inj.mp z)
  · exact Or.inr (Or.inl (Int32.toInt_inj.mp z))
  · exact Or.inr (Or.inr (Or.inl (Int32.toInt_inj.mp z)))
  · exact Or.inr (Or.inr (Or.inr ((Int32.toInt_inj.mp z))))
theorem own_m5 {x : Int32} (h : 0 ≤ x.toInt) : x % (5 : Int32) = (0 : Int32) ∨ x % (5 : Int32) = (1 : Int32) ∨ x % (5 : Int32) = (2 : Int32) ∨ x % (5 : Int32) = (3 : Int32) ∨ x % (5 : Int32) = (4 : Int32) := by
  have q := (c_iremV x 5).1 h (by decide)
  have e : (5 : Int32).toInt = 5 := by decide
  have z : (x % (5 : Int32)).toInt = 0 ∨ (x % (5 : Int32)).toInt = 1 ∨ (x % (5 : Int32)).toInt = 2 ∨ (x % (5 : Int32)).toInt = 3 ∨ (x % (5 : Int32)).toInt = 4 := by omega
  rcases z with z | z | z | z | z
  · exact Or.inl (Int32.toInt_inj.mp z)
  · exact Or.inr (Or.inl (Int32.toInt_inj.mp z))
  · exact Or.inr (Or.inr (Or.inl (Int32.toInt_inj.mp z)))
  · exact Or.inr (Or.inr (Or.inr (Or.inl (Int32.toInt_inj.mp z))))
  · exact Or.inr (Or.inr (Or.inr (Or.inr ((Int32.toInt_inj.mp z)))))
theorem own_and7 (x : Int32) : 0 ≤ (x &&& (7 : Int32)).toInt := (c_and x 7 (by decide)).1
theorem own_andM (x : Int32) : 0 ≤ (x &&& (2147483647 : Int32)).toInt := (c_and x 2147483647 (by decide)).1
theorem pd707 : parseMethodDescriptor "([CI)Ljava/lang/String;" = some ⟨[(.array .char), .int], some (.object "java/lang/String")⟩ := by decide +kernel
theorem pd708 : parseMethodDescriptor "([CIII)Z" = some ⟨[(.array .char), .int, .int, .int], some .boolean⟩ := by decide +kernel
theorem pd709 : parseMethodDescriptor "(Ljava/lang/String;I)I" = some ⟨[(.object "java/lang/String"), .int], some .int⟩ := by decide +kernel
theorem own_fin0_0_m {r  : Int32} (hr : r.toInt = scan [] 0) : r = (-1 : Int32) := by
  refine Int32.toInt_inj.mp (hr.trans ?_)
  have e : (-1 : Int32).toInt = -1 := by decide
  rw [e]
  simp only [scan, hiI, loI] at *
  repeat' split
  all_goals omega
theorem sgT0_0 (G : Gl Z a0 z0 fm) (p0 p1 p2 p3 p4 : Int32) (b : Addr) (c0 c1 c2 c3 : Int32) (hby : c.code = code) (hret : meth.sig.returnType = ret) (hlk : meth.locks = false) (h0 : Heap)
    (K0 : Wk p l e room_1 s m #[(.int p0), (.int p1), (.int p2), (.int p3), (.int p4)] below meth c Z a0 ELs "com/example/mangrove/mangrove/Utf8TextLoneSurrogateAtPinLaw" maxLocals [] [b] T0 lo0 1 4 h0) (P0 : Ary Z h0 b .char [(.int c0), (.int c1), (.int c2), (.int c3)]) (P1 : ¬ c0 < (0 : Int32)) (P2 : ¬ (65535 : Int32) < c0) (P3 : ¬ c1 < (0 : Int32)) (P4 : ¬ (65535 : Int32) < c1) (P5 : ¬ c2 < (0 : Int32)) (P6 : ¬ (65535 : Int32) < c2) (P7 : ¬ c3 < (0 : Int32)) (P8 : ¬ (65535 : Int32) < c3) :
    Owe p e below (PostW Z ELs [] room_1 (fun v h fs => (fs = [] ∧ v = some (.int 1))) s) T0 (mkF m 94 #[.val (.int p0), .val (.int p1), .val (.int p2), .val (.int p3), .val (.int p4), .val (.int 0), .val (.int 0), .val (.ref b), .unset, .unset] []) := by
  obtain ⟨hw, hEL, wS, OS, hz0, OA, OH, OL, OF, rfm⟩ := id G
  refine oAload K0 96 (hb hby at_94) rfl rfl ?_
  refine oIload K0 98 (hb hby at_96) rfl ?_
  refine oStatic K0 101 0 (wq hw 9) (wq hw 10) (wq hw 4) (wq hw 11) (rmStr0 l Z a0 z0 fm G b c0 c1 c2 c3 h0 K0.old K0.both P0 P1 P2 P3 P4 P5 P6 P7 P8) [(.ref b), (.int 0)] [] (lenOf pd707 rfl) (hb hby at_98) ?_
  intro T1 h3 v4 lo5 fs6 K2 Kp7 q8
  obtain ⟨x9, rfl, rfl, f10⟩ := q8
  have K11 := K2.to 7 16 [b]
  refine Owe.stk [(.ref x9)] ?_
  refine oAstore K11 103 (hb hby at_101) rfl (l' := #[.val (.int p0), .val (.int p1), .val (.int p2), .val (.int p3), .val (.int p4), .val (.int 0), .val (.int 0), .val (.ref b), .val (.ref x9), .unset]) rfl ?_
  refine oAload K11 105 (hb hby at_103) rfl rfl ?_
  refine oIload K11 107 (hb hby at_105) rfl ?_
  refine oIload K11 109 (hb hby at_107) rfl ?_
  refine oIconstV K11 110 (0 : Int32) (hb hby at_109) rfl ?_
  refine oStatic K11 113 0 (wq hw 33) (wq hw 34) (wq hw 4) (wq hw 35) (rmLA0_b l Z a0 z0 fm G b ((0 : Int32)) ((0 : Int32)) h3 K11.old K11.both (by decide) (by decide)) [(.ref b), (.int 0), (.int 0), (.int 0)] [] (lenOf pd708 rfl) (hb hby at_110) ?_
  intro T12 h14 v15 lo16 fs17 K13 Kp18 q19
  obtain ⟨rfl, rfl⟩ := q19
  have K20 := K13.to 7 16 [b]
  refine Owe.stk [(.int 0)] ?_
  refine oIfYes K20 122 (hb hby at_113) (XT.i0_eq_t (by decide)) ?_
  refine oAload K20 124 (hb hby at_122) rfl rfl ?_
  refine oIload K20 126 (hb hby at_124) rfl ?_
  refine oIload K20 128 (hb hby at_126) rfl ?_
  refine oIconstV K20 129 (1 : Int32) (hb hby at_128) rfl ?_
  refine oStatic K20 132 0 (wq hw 33) (wq hw 34) (wq hw 4) (wq hw 35) (rmLA1_b l Z a0 z0 fm G b ((0 : Int32)) ((0 : Int32)) h14 K20.old K20.both (by decide) (by decide)) [(.ref b), (.int 0), (.int 0), (.int 1)] [] (lenOf pd708 rfl) (hb hby at_129) ?_
  intro T21 h23 v24 lo25 fs26 K22 Kp27 q28
  obtain ⟨rfl, rfl⟩ := q28
  have K29 := K22.to 7 16 [b]
  refine Owe.stk [(.int 0)] ?_
  refine oIfYes K29 141 (hb hby at_132) (XT.i0_eq_t (by decide)) ?_
  refine oAload K29 143 (hb hby at_141) rfl rfl ?_
  refine oIload K29 145 (hb hby at_143) rfl ?_
  refine oIload K29 147 (hb hby at_145) rfl ?_
  refine oIconstV K29 148 (2 : Int32) (hb hby at_147) rfl ?_
  refine oStatic K29 151 0 (wq hw 33) (wq hw 34) (wq hw 4) (wq hw 35) (rmLA2_b l Z a0 z0 fm G b ((0 : Int32)) ((0 : Int32)) h23 K29.old K29.both (by decide) (by decide)) [(.ref b), (.int 0), (.int 0), (.int 2)] [] (lenOf pd708 rfl) (hb hby at_148) ?_
  intro T30 h32 v33 lo34 fs35 K31 Kp36 q37
  obtain ⟨rfl, rfl⟩ := q37
  have K38 := K31.to 7 16 [b]
  refine Owe.stk [(.int 0)] ?_
  refine oIfYes K38 160 (hb hby at_151) (XT.i0_eq_t (by decide)) ?_
  refine oAload K38 162 (hb hby at_160) rfl rfl ?_
  refine oIload K38 164 (hb hby at_162) rfl ?_
  refine oIload K38 166 (hb hby at_164) rfl ?_
  refine oIconstV K38 167 (3 : Int32) (hb hby at_166) rfl ?_
  refine oStatic K38 170 0 (wq hw 33) (wq hw 34) (wq hw 4) (wq hw 35) (rmLA3_b l Z a0 z0 fm G b ((0 : Int32)) ((0 : Int32)) h32 K38.old K38.both (by decide) (by decide)) [(.ref b), (.int 0), (.int 0), (.int 3)] [] (lenOf pd708 rfl) (hb hby at_167) ?_
  intro T39 h41 v42 lo43 fs44 K40 Kp45 q46
  obtain ⟨rfl, rfl⟩ := q46
  have K47 := K40.to 7 16 [b]
  refine Owe.stk [(.int 0)] ?_
  refine oIfYes K47 179 (hb hby at_170) (XT.i0_eq_t (by decide)) ?_
  refine oIconstV K47 180 (-1 : Int32) (hb hby at_179) rfl ?_
  refine oIstore K47 182 (hb hby at_180) (l' := #[.val (.int p0), .val (.int p1), .val (.int p2), .val (.int p3), .val (.int p4), .val (.int 0), .val (.int 0), .val (.ref b), .val (.ref x9), .val (.int (-1))]) rfl ?_
  refine oAload K47 184 (hb hby at_182) rfl rfl ?_
  refine oIload K47 186 (hb hby at_184) rfl ?_
  refine oStatic K47 189 0 (wq hw 36) (wq hw 37) (wq hw 38) (wq hw 39) (rmLS0_0 l Z a0 z0 fm G x9 (h3.size) h41 K47.old K47.both ((((f10.keep Kp18 geN).keep Kp27 geN).keep Kp36 geN).keep Kp45 geN)) [(.ref x9), (.int 0)] [] (lenOf pd709 rfl) (hb hby at_186) ?_
  intro T48 h50 v51 lo52 fs53 K49 Kp54 q55
  obtain ⟨r56, rfl, rfl, f57⟩ := q55
  have K58 := K49.to 7 16 [b]
  refine Owe.stk [(.int r56)] ?_
  refine oIload K58 191 (hb hby at_189) rfl ?_
  refine oIcmpNo K58 194 (hb hby at_191) (XT.ii_ne_f (own_fin0_0_m f57 )) ?_
  refine oIconstV K58 195 (1 : Int32) (hb hby at_194) rfl ?_
  refine oGoto K58 199 (hb hby at_195) ?_
  exact oRetI K58 [] (t := .boolean) hret (by simp) (by decide) (hb hby at_199) (by decide) (by decide) hlk (fun x hx => by cases hx) ⟨rfl, rfl⟩
theorem own_fin1_0_0 {r c0 : Int32} (hr : r.toInt = scan [c0] 0) (q0 : (hiI c0 ∨ loI c0)) : r = (0 : Int32) := by
  refine Int32.toInt_inj.mp (hr.trans ?_)
  have e : (0 : Int32).toInt = 0 := by decide
  rw [e]
  simp only [scan, hiI, loI] at *
  repeat' split
  all_goals omega
theorem own_fin1_0_m {r c0 : Int32} (hr : r.toInt = scan [c0] 0) (q0 : ¬ (hiI c0 ∨ loI c0)) : r = (-1 : Int32) := by
  refine Int32.toInt_inj.mp (hr.trans ?_)
  have e : (-1 : Int32).toInt = -1 := by decide
  rw [e]
  simp only [scan, hiI, loI] at *
  repeat' split
  all_goals omega
theorem sgT1_0 (G : Gl Z a0 z0 fm) (p0 p1 p2 p3 p4 : Int32) (b : Addr) (c0 c1 c2 c3 : Int32) (hby : c.code = code) (hret : meth.sig.returnType = ret) (hlk : meth.locks = false) (h0 : Heap)
    (K0 : Wk p l e room_1 s m #[(.int p0), (.int p1), (.int p2), (.int p3), (.int p4)] below meth c Z a0 ELs "com/example/mangrove/mangrove/Utf8TextLoneSurrogateAtPinLaw" maxLocals [] [b] T0 lo0 1 4 h0) (P0 : Ary Z h0 b .char [(.int c0), (.int c1), (.int c2), (.int c3)]) (P1 : ¬ c0 < (0 : Int32)) (P2 : ¬ (65535 : Int32) < c0) (P3 : ¬ c1 < (0 : Int32)) (P4 : ¬ (65535 : Int32) < c1) (P5 : ¬ c2 < (0 : Int32)) (P6 : ¬ (65535 : Int32) < c2) (P7 : ¬ c3 < (0 : Int32)) (P8 : ¬ (65535 : Int32) < c3) :
    Owe p e below (PostW Z ELs [] room_1 (fun v h fs => (fs = [] ∧ v = some (.int 1))) s) T0 (mkF m 94 #[.val (.int p0), .val (.int p1), .val (.int p2), .val (.int p3), .val (.int p4), .val (.int 1), .val (.int 0), .val (.ref b), .unset, .unset] []) := by
  obtain ⟨hw, hEL, wS, OS, hz0, OA, OH, OL, OF, rfm⟩ := id G
  refine oAload K0 96 (hb hby at_94) rfl rfl ?_
  refine oIload K0 98 (hb hby at_96) rfl ?_
  refine oStatic K0 101 0 (wq hw 9) (wq hw 10) (wq hw 4) (wq hw 11) (rmStr1 l Z a0 z0 fm G b c0 c1 c2 c3 h0 K0.old K0.both P0 P1 P2 P3 P4 P5 P6 P7 P8) [(.ref b), (.int 1)] [] (lenOf pd707 rfl) (hb hby at_98) ?_
  intro T1 h3 v4 lo5 fs6 K2 Kp7 q8
  obtain ⟨x9, rfl, rfl, f10⟩ := q8
  have K11 := K2.to 3 10 [b]
  refine Owe.stk [(.ref x9)] ?_
  refine oAstore K11 103 (hb hby at_101) rfl (l' := #[.val (.int p0), .val (.int p1), .val (.int p2), .val (.int p3), .val (.int p4), .val (.int 1), .val (.int 0), .val (.ref b), .val (.ref x9), .unset]) rfl ?_
  refine oAload K11 105 (hb hby at_103) rfl rfl ?_
  refine oIload K11 107 (hb hby at_105) rfl ?_
  refine oIload K11 109 (hb hby at_107) rfl ?_
  refine oIconstV K11 110 (0 : Int32) (hb hby at_109) rfl ?_
  refine oStatic K11 113 0 (wq hw 33) (wq hw 34) (wq hw 4) (wq hw 35) (rmLA0_00 l Z a0 z0 fm G b ((1 : Int32)) ((0 : Int32)) c0 c1 c2 c3 h3 K11.old K11.both (P0.keep Kp7 nin0) (by decide) (by decide) (by decide) (by decide)) [(.ref b), (.int 1), (.int 0), (.int 0)] [] (lenOf pd708 rfl) (hb hby at_110) ?_
  intro T12 h14 v15 lo16 fs17 K13 Kp18 q19
  rcases q19 with qq19_0 | qq19_1
  · obtain ⟨rfl, rfl, f20⟩ := qq19_0
    have K21 := K13.to 3 10 [b]
    refine Owe.stk [(.int 1)] ?_
    refine oIfNo K21 116 (hb hby at_113) (XT.i0_eq_f (by decide)) ?_
    refine oIconstV K21 117 (0 : Int32) (hb hby at_116) rfl ?_
    refine oIstore K21 119 (hb hby at_117) (l' := #[.val (.int p0), .val (.int p1), .val (.int p2), .val (.int p3), .val (.int p4), .val (.int 1), .val (.int 0), .val (.ref b), .val (.ref x9), .val (.int 0)]) rfl ?_
    refine oGoto K21 182 (hb hby at_119) ?_
    refine oAload K21 184 (hb hby at_182) rfl rfl ?_
    refine oIload K21 186 (hb hby at_184) rfl ?_
    refine oStatic K21 189 0 (wq hw 36) (wq hw 37) (wq hw 38) (wq hw 39) (rmLS1_0 l Z a0 z0 fm G x9 (h3.size) c0 h14 K21.old K21.both (f10.keep Kp18 geN) P1 P2) [(.ref x9), (.int 0)] [] (lenOf pd709 rfl) (hb hby at_186) ?_
    intro T22 h24 v25 lo26 fs27 K23 Kp28 q29
    obtain ⟨r30, rfl, rfl, f31⟩ := q29
    have K32 := K23.to 3 10 [b]
    refine Owe.stk [(.int r30)] ?_
    refine oIload K32 191 (hb hby at_189) rfl ?_
    refine oIcmpNo K32 194 (hb hby at_191) (XT.ii_ne_f (own_fin1_0_0 f31 f20)) ?_
    refine oIconstV K32 195 (1 : Int32) (hb hby at_194) rfl ?_
    refine oGoto K32 199 (hb hby at_195) ?_
    exact oRetI K32 [] (t := .boolean) hret (by simp) (by decide) (hb hby at_199) (by decide) (by decide) hlk (fun x hx => by cases hx) ⟨rfl, rfl⟩
  · obtain ⟨rfl, rfl, f33⟩ := qq19_1
    have K34 := K13.to 3 10 [b]
    refine Owe.stk [(.int 0)] ?_
    refine oIfYes K34 122 (hb hby at_113) (XT.i0_eq_t (by decide)) ?_
    refine oAload K34 124 (hb hby at_122) rfl rfl ?_
    refine oIload K34 126 (hb hby at_124) rfl ?_
    refine oIload K34 128 (hb hby at_126) rfl ?_
    refine oIconstV K34 129 (1 : Int32) (hb hby at_128) rfl ?_
    refine oStatic K34 132 0 (wq hw 33) (wq hw 34) (wq hw 4) (wq hw 35) (rmLA1_b l Z a0 z0 fm G b ((1 : Int32)) ((0 : Int32)) h14 K34.old K34.both (by decide) (by decide)) [(.ref b), (.int 1), (.int 0), (.int 1)] [] (lenOf pd708 rfl) (hb hby at_129) ?_
    intro T35 h37 v38 lo39 fs40 K36 Kp41 q42
    obtain ⟨rfl, rfl⟩ := q42
    have K43 := K36.to 3 10 [b]
    refine Owe.stk [(.int 0)] ?_
    refine oIfYes K43 141 (hb hby at_132) (XT.i0_eq_t (by decide)) ?_
    refine oAload K43 143 (hb hby at_141) rfl rfl ?_
    refine oIload K43 145 (hb hby at_143) rfl ?_
    refine oIload K43 147 (hb hby at_145) rfl ?_
    refine oIconstV K43 148 (2 : Int32) (hb hby at_147) rfl ?_
    refine oStatic K43 151 0 (wq hw 33) (wq hw 34) (wq hw 4) (wq hw 35) (rmLA2_b l Z a0 z0 fm G b ((1 : Int32)) ((0 : Int32)) h37 K43.old K43.both (by decide) (by decide)) [(.ref b), (.int 1), (.int 0), (.int 2)] [] (lenOf pd708 rfl) (hb hby at_148) ?_
    intro T44 h46 v47 lo48 fs49 K45 Kp50 q51
    obtain ⟨rfl, rfl⟩ := q51
    have K52 := K45.to 3 10 [b]
    refine Owe.stk [(.int 0)] ?_
    refine oIfYes K52 160 (hb hby at_151) (XT.i0_eq_t (by decide)) ?_
    refine oAload K52 162 (hb hby at_160) rfl rfl ?_
    refine oIload K52 164 (hb hby at_162) rfl ?_
    refine oIload K52 166 (hb hby at_164) rfl ?_
    refine oIconstV K52 167 (3 : Int32) (hb hby at_166) rfl ?_
    refine oStatic K52 170 0 (wq hw 33) (wq hw 34) (wq hw 4) (wq hw 35) (rmLA3_b l Z a0 z0 fm G b ((1 : Int32)) ((0 : Int32)) h46 K52.old K52.both (by decide) (by decide)) [(.ref b), (.int 1), (.int 0), (.int 3)] [] (lenOf pd708 rfl) (hb hby at_167) ?_
    intro T53 h55 v56 lo57 fs58 K54 Kp59 q60
    obtain ⟨rfl, rfl⟩ := q60
    have K61 := K54.to 3 10 [b]
    refine Owe.stk [(.int 0)] ?_
    refine oIfYes K61 179 (hb hby at_170) (XT.i0_eq_t (by decide)) ?_
    refine oIconstV K61 180 (-1 : Int32) (hb hby at_179) rfl ?_
    refine oIstore K61 182 (hb hby at_180) (l' := #[.val (.int p0), .val (.int p1), .val (.int p2), .val (.int p3), .val (.int p4), .val (.int 1), .val (.int 0), .val (.ref b), .val (.ref x9), .val (.int (-1))]) rfl ?_
    refine oAload K61 184 (hb hby at_182) rfl rfl ?_
    refine oIload K61 186 (hb hby at_184) rfl ?_
    refine oStatic K61 189 0 (wq hw 36) (wq hw 37) (wq hw 38) (wq hw 39) (rmLS1_0 l Z a0 z0 fm G x9 (h3.size) c0 h55 K61.old K61.both ((((f10.keep Kp18 geN).keep Kp41 geN).keep Kp50 geN).keep Kp59 geN) P1 P2) [(.ref x9), (.int 0)] [] (lenOf pd709 rfl) (hb hby at_186) ?_
    intro T62 h64 v65 lo66 fs67 K63 Kp68 q69
    obtain ⟨r70, rfl, rfl, f71⟩ := q69
    have K72 := K63.to 3 10 [b]
    refine Owe.stk [(.int r70)] ?_
    refine oIload K72 191 (hb hby at_189) rfl ?_
    refine oIcmpNo K72 194 (hb hby at_191) (XT.ii_ne_f (own_fin1_0_m f71 f33)) ?_
    refine oIconstV K72 195 (1 : Int32) (hb hby at_194) rfl ?_
    refine oGoto K72 199 (hb hby at_195) ?_
    exact oRetI K72 [] (t := .boolean) hret (by simp) (by decide) (hb hby at_199) (by decide) (by decide) hlk (fun x hx => by cases hx) ⟨rfl, rfl⟩
theorem own_fin1_1_m {r  : Int32} (hr : r.toInt = scan [] 1) : r = (-1 : Int32) := by
  refine Int32.toInt_inj.mp (hr.trans ?_)
  have e : (-1 : Int32).toInt = -1 := by decide
  rw [e]
  simp only [scan, hiI, loI] at *
  repeat' split
  all_goals omega
theorem sgT1_1 (G : Gl Z a0 z0 fm) (p0 p1 p2 p3 p4 : Int32) (b : Addr) (c0 c1 c2 c3 : Int32) (hby : c.code = code) (hret : meth.sig.returnType = ret) (hlk : meth.locks = false) (h0 : Heap)
    (K0 : Wk p l e room_1 s m #[(.int p0), (.int p1), (.int p2), (.int p3), (.int p4)] below meth c Z a0 ELs "com/example/mangrove/mangrove/Utf8TextLoneSurrogateAtPinLaw" maxLocals [] [b] T0 lo0 1 4 h0) (P0 : Ary Z h0 b .char [(.int c0), (.int c1), (.int c2), (.int c3)]) (P1 : ¬ c0 < (0 : Int32)) (P2 : ¬ (65535 : Int32) < c0) (P3 : ¬ c1 < (0 : Int32)) (P4 : ¬ (65535 : Int32) < c1) (P5 : ¬ c2 < (0 : Int32)) (P6 : ¬ (65535 : Int32) < c2) (P7 : ¬ c3 < (0 : Int32)) (P8 : ¬ (65535 : Int32) < c3) :
    Owe p e below (PostW Z ELs [] room_1 (fun v h fs => (fs = [] ∧ v = some (.int 1))) s) T0 (mkF m 94 #[.val (.int p0), .val (.int p1), .val (.int p2), .val (.int p3), .val (.int p4), .val (.int 1), .val (.int 1), .val (.ref b), .unset, .unset] []) := by
  obtain ⟨hw, hEL, wS, OS, hz0, OA, OH, OL, OF, rfm⟩ := id G
  refine oAload K0 96 (hb hby at_94) rfl rfl ?_
  refine oIload K0 98 (hb hby at_96) rfl ?_
  refine oStatic K0 101 0 (wq hw 9) (wq hw 10) (wq hw 4) (wq hw 11) (rmStr1 l Z a0 z0 fm G b c0 c1 c2 c3 h0 K0.old K0.both P0 P1 P2 P3 P4 P5 P6 P7 P8) [(.ref b), (.int 1)] [] (lenOf pd707 rfl) (hb hby at_98) ?_
  intro T1 h3 v4 lo5 fs6 K2 Kp7 q8
  obtain ⟨x9, rfl, rfl, f10⟩ := q8
  have K11 := K2.to 3 10 [b]
  refine Owe.stk [(.ref x9)] ?_
  refine oAstore K11 103 (hb hby at_101) rfl (l' := #[.val (.int p0), .val (.int p1), .val (.int p2), .val (.int p3), .val (.int p4), .val (.int 1), .val (.int 1), .val (.ref b), .val (.ref x9), .unset]) rfl ?_
  refine oAload K11 105 (hb hby at_103) rfl rfl ?_
  refine oIload K11 107 (hb hby at_105) rfl ?_
  refine oIload K11 109 (hb hby at_107) rfl ?_
  refine oIconstV K11 110 (0 : Int32) (hb hby at_109) rfl ?_
  refine oStatic K11 113 0 (wq hw 33) (wq hw 34) (wq hw 4) (wq hw 35) (rmLA0_a l Z a0 z0 fm G b ((1 : Int32)) ((1 : Int32)) h3 K11.old K11.both (by decide)) [(.ref b), (.int 1), (.int 1), (.int 0)] [] (lenOf pd708 rfl) (hb hby at_110) ?_
  intro T12 h14 v15 lo16 fs17 K13 Kp18 q19
  obtain ⟨rfl, rfl⟩ := q19
  have K20 := K13.to 3 10 [b]
  refine Owe.stk [(.int 0)] ?_
  refine oIfYes K20 122 (hb hby at_113) (XT.i0_eq_t (by decide)) ?_
  refine oAload K20 124 (hb hby at_122) rfl rfl ?_
  refine oIload K20 126 (hb hby at_124) rfl ?_
  refine oIload K20 128 (hb hby at_126) rfl ?_
  refine oIconstV K20 129 (1 : Int32) (hb hby at_128) rfl ?_
  refine oStatic K20 132 0 (wq hw 33) (wq hw 34) (wq hw 4) (wq hw 35) (rmLA1_b l Z a0 z0 fm G b ((1 : Int32)) ((1 : Int32)) h14 K20.old K20.both (by decide) (by decide)) [(.ref b), (.int 1), (.int 1), (.int 1)] [] (lenOf pd708 rfl) (hb hby at_129) ?_
  intro T21 h23 v24 lo25 fs26 K22 Kp27 q28
  obtain ⟨rfl, rfl⟩ := q28
  have K29 := K22.to 3 10 [b]
  refine Owe.stk [(.int 0)] ?_
  refine oIfYes K29 141 (hb hby at_132) (XT.i0_eq_t (by decide)) ?_
  refine oAload K29 143 (hb hby at_141) rfl rfl ?_
  refine oIload K29 145 (hb hby at_143) rfl ?_
  refine oIload K29 147 (hb hby at_145) rfl ?_
  refine oIconstV K29 148 (2 : Int32) (hb hby at_147) rfl ?_
  refine oStatic K29 151 0 (wq hw 33) (wq hw 34) (wq hw 4) (wq hw 35) (rmLA2_b l Z a0 z0 fm G b ((1 : Int32)) ((1 : Int32)) h23 K29.old K29.both (by decide) (by decide)) [(.ref b), (.int 1), (.int 1), (.int 2)] [] (lenOf pd708 rfl) (hb hby at_148) ?_
  intro T30 h32 v33 lo34 fs35 K31 Kp36 q37
  obtain ⟨rfl, rfl⟩ := q37
  have K38 := K31.to 3 10 [b]
  refine Owe.stk [(.int 0)] ?_
  refine oIfYes K38 160 (hb hby at_151) (XT.i0_eq_t (by decide)) ?_
  refine oAload K38 162 (hb hby at_160) rfl rfl ?_
  refine oIload K38 164 (hb hby at_162) rfl ?_
  refine oIload K38 166 (hb hby at_164) rfl ?_
  refine oIconstV K38 167 (3 : Int32) (hb hby at_166) rfl ?_
  refine oStatic K38 170 0 (wq hw 33) (wq hw 34) (wq hw 4) (wq hw 35) (rmLA3_b l Z a0 z0 fm G b ((1 : Int32)) ((1 : Int32)) h32 K38.old K38.both (by decide) (by decide)) [(.ref b), (.int 1), (.int 1), (.int 3)] [] (lenOf pd708 rfl) (hb hby at_167) ?_
  intro T39 h41 v42 lo43 fs44 K40 Kp45 q46
  obtain ⟨rfl, rfl⟩ := q46
  have K47 := K40.to 3 10 [b]
  refine Owe.stk [(.int 0)] ?_
  refine oIfYes K47 179 (hb hby at_170) (XT.i0_eq_t (by decide)) ?_
  refine oIconstV K47 180 (-1 : Int32) (hb hby at_179) rfl ?_
  refine oIstore K47 182 (hb hby at_180) (l' := #[.val (.int p0), .val (.int p1), .val (.int p2), .val (.int p3), .val (.int p4), .val (.int 1), .val (.int 1), .val (.ref b), .val (.ref x9), .val (.int (-1))]) rfl ?_
  refine oAload K47 184 (hb hby at_182) rfl rfl ?_
  refine oIload K47 186 (hb hby at_184) rfl ?_
  refine oStatic K47 189 0 (wq hw 36) (wq hw 37) (wq hw 38) (wq hw 39) (rmLS1_1 l Z a0 z0 fm G x9 (h3.size) c0 h41 K47.old K47.both ((((f10.keep Kp18 geN).keep Kp27 geN).keep Kp36 geN).keep Kp45 geN) P1 P2) [(.ref x9), (.int 1)] [] (lenOf pd709 rfl) (hb hby at_186) ?_
  intro T48 h50 v51 lo52 fs53 K49 Kp54 q55
  obtain ⟨r56, rfl, rfl, f57⟩ := q55
  have K58 := K49.to 3 10 [b]
  refine Owe.stk [(.int r56)] ?_
  refine oIload K58 191 (hb hby at_189) rfl ?_
  refine oIcmpNo K58 194 (hb hby at_191) (XT.ii_ne_f (own_fin1_1_m f57 )) ?_
  refine oIconstV K58 195 (1 : Int32) (hb hby at_194) rfl ?_
  refine oGoto K58 199 (hb hby at_195) ?_
  exact oRetI K58 [] (t := .boolean) hret (by simp) (by decide) (hb hby at_199) (by decide) (by decide) hlk (fun x hx => by cases hx) ⟨rfl, rfl⟩
theorem own_fin2_0_0 {r c0 c1 : Int32} (hr : r.toInt = scan [c0, c1] 0) (q0 : ((hiI c0 ∧ ¬ loI c1) ∨ loI c0)) : r = (0 : Int32) := by
  refine Int32.toInt_inj.mp (hr.trans ?_)
  have e : (0 : Int32).toInt = 0 := by decide
  rw [e]
  simp only [scan, hiI, loI] at *
  repeat' split
  all_goals omega
theorem own_fin2_0_1 {r c0 c1 : Int32} (hr : r.toInt = scan [c0, c1] 0) (q0 : ¬ ((hiI c0 ∧ ¬ loI c1) ∨ loI c0)) (q1 : (hiI c1 ∨ (loI c1 ∧ ¬ hiI c0))) : r = (1 : Int32) := by
  refine Int32.toInt_inj.mp (hr.trans ?_)
  have e : (1 : Int32).toInt = 1 := by decide
  rw [e]
  simp only [scan, hiI, loI] at *
  repeat' split
  all_goals omega
theorem own_fin2_0_m {r c0 c1 : Int32} (hr : r.toInt = scan [c0, c1] 0) (q0 : ¬ ((hiI c0 ∧ ¬ loI c1) ∨ loI c0)) (q1 : ¬ (hiI c1 ∨ (loI c1 ∧ ¬ hiI c0))) : r = (-1 : Int32) := by
  refine Int32.toInt_inj.mp (hr.trans ?_)
  have e : (-1 : Int32).toInt = -1 := by decide
  rw [e]
  simp only [scan, hiI, loI] at *
  repeat' split
  all_goals omega
theorem sgT2_0 (G : Gl Z a0 z0 fm) (p0 p1 p2 p3 p4 : Int32) (b : Addr) (c0 c1 c2 c3 : Int32) (hby : c.code = code) (hret : meth.sig.returnType = ret) (hlk : meth.locks = false) (h0 : Heap)
    (K0 : Wk p l e room_1 s m #[(.int p0), (.int p1), (.int p2), (.int p3), (.int p4)] below meth c Z a0 ELs "com/example/mangrove/mangrove/Utf8TextLoneSurrogateAtPinLaw" maxLocals [] [b] T0 lo0 1 4 h0) (P0 : Ary Z h0 b .char [(.int c0), (.int c1), (.int c2), (.int c3)]) (P1 : ¬ c0 < (0 : Int32)) (P2 : ¬ (65535 : Int32) < c0) (P3 : ¬ c1 < (0 : Int32)) (P4 : ¬ (65535 : Int32) < c1) (P5 : ¬ c2 < (0 : Int32)) (P6 : ¬ (65535 : Int32) < c2) (P7 : ¬ c3 < (0 : Int32)) (P8 : ¬ (65535 : Int32) < c3) :
    Owe p e below (PostW Z ELs [] room_1 (fun v h fs => (fs = [] ∧ v = some (.int 1))) s) T0 (mkF m 94 #[.val (.int p0), .val (.int p1), .val (.int p2), .val (.int p3), .val (.int p4), .val (.int 2), .val (.int 0), .val (.ref b), .unset, .unset] []) := by
  obtain ⟨hw, hEL, wS, OS, hz0, OA, OH, OL, OF, rfm⟩ := id G
  refine oAload K0 96 (hb hby at_94) rfl rfl ?_
  refine oIload K0 98 (hb hby at_96) rfl ?_
  refine oStatic K0 101 0 (wq hw 9) (wq hw 10) (wq hw 4) (wq hw 11) (rmStr2 l Z a0 z0 fm G b c0 c1 c2 c3 h0 K0.old K0.both P0 P1 P2 P3 P4 P5 P6 P7 P8) [(.ref b), (.int 2)] [] (lenOf pd707 rfl) (hb hby at_98) ?_
  intro T1 h3 v4 lo5 fs6 K2 Kp7 q8
  obtain ⟨x9, rfl, rfl, f10⟩ := q8
  have K11 := K2.to 5 16 [b]
  refine Owe.stk [(.ref x9)] ?_
  refine oAstore K11 103 (hb hby at_101) rfl (l' := #[.val (.int p0), .val (.int p1), .val (.int p2), .val (.int p3), .val (.int p4), .val (.int 2), .val (.int 0), .val (.ref b), .val (.ref x9), .unset]) rfl ?_
  refine oAload K11 105 (hb hby at_103) rfl rfl ?_
  refine oIload K11 107 (hb hby at_105) rfl ?_
  refine oIload K11 109 (hb hby at_107) rfl ?_
  refine oIconstV K11 110 (0 : Int32) (hb hby at_109) rfl ?_
  refine oStatic K11 113 0 (wq hw 33) (wq hw 34) (wq hw 4) (wq hw 35) (rmLA0_10 l Z a0 z0 fm G b ((2 : Int32)) ((0 : Int32)) c0 c1 c2 c3 h3 K11.old K11.both (P0.keep Kp7 nin0) (by decide) (by decide) (by decide) (by decide)) [(.ref b), (.int 2), (.int 0), (.int 0)] [] (lenOf pd708 rfl) (hb hby at_110) ?_
  intro T12 h14 v15 lo16 fs17 K13 Kp18 q19
  rcases q19 with qq19_0 | qq19_1
  · obtain ⟨rfl, rfl, f20⟩ := qq19_0
    have K21 := K13.to 5 16 [b]
    refine Owe.stk [(.int 1)] ?_
    refine oIfNo K21 116 (hb hby at_113) (XT.i0_eq_f (by decide)) ?_
    refine oIconstV K21 117 (0 : Int32) (hb hby at_116) rfl ?_
    refine oIstore K21 119 (hb hby at_117) (l' := #[.val (.int p0), .val (.int p1), .val (.int p2), .val (.int p3), .val (.int p4), .val (.int 2), .val (.int 0), .val (.ref b), .val (.ref x9), .val (.int 0)]) rfl ?_
    refine oGoto K21 182 (hb hby at_119) ?_
    refine oAload K21 184 (hb hby at_182) rfl rfl ?_
    refine oIload K21 186 (hb hby at_184) rfl ?_
    refine oStatic K21 189 0 (wq hw 36) (wq hw 37) (wq hw 38) (wq hw 39) (rmLS2_0 l Z a0 z0 fm G x9 (h3.size) c0 c1 h14 K21.old K21.both (f10.keep Kp18 geN) P1 P2 P3 P4) [(.ref x9), (.int 0)] [] (lenOf pd709 rfl) (hb hby at_186) ?_
    intro T22 h24 v25 lo26 fs27 K23 Kp28 q29
    obtain ⟨r30, rfl, rfl, f31⟩ := q29
    have K32 := K23.to 5 16 [b]
    refine Owe.stk [(.int r30)] ?_
    refine oIload K32 191 (hb hby at_189) rfl ?_
    refine oIcmpNo K32 194 (hb hby at_191) (XT.ii_ne_f (own_fin2_0_0 f31 f20)) ?_
    refine oIconstV K32 195 (1 : Int32) (hb hby at_194) rfl ?_
    refine oGoto K32 199 (hb hby at_195) ?_
    exact oRetI K32 [] (t := .boolean) hret (by simp) (by decide) (hb hby at_199) (by decide) (by decide) hlk (fun x hx => by cases hx) ⟨rfl, rfl⟩
  · obtain ⟨rfl, rfl, f33⟩ := qq19_1
    have K34 := K13.to 5 16 [b]
    refine Owe.stk [(.int 0)] ?_
    refine oIfYes K34 122 (hb hby at_113) (XT.i0_eq_t (by decide)) ?_
    refine oAload K34 124 (hb hby at_122) rfl rfl ?_
    refine oIload K34 126 (hb hby at_124) rfl ?_
    refine oIload K34 128 (hb hby at_126) rfl ?_
    refine oIconstV K34 129 (1 : Int32) (hb hby at_128) rfl ?_
    refine oStatic K34 132 0 (wq hw 33) (wq hw 34) (wq hw 4) (wq hw 35) (rmLA1_01 l Z a0 z0 fm G b ((2 : Int32)) ((0 : Int32)) c0 c1 c2 c3 h14 K34.old K34.both ((P0.keep Kp7 nin0).keep Kp18 nin0) (by decide) (by decide) (by decide) (by decide)) [(.ref b), (.int 2), (.int 0), (.int 1)] [] (lenOf pd708 rfl) (hb hby at_129) ?_
    intro T35 h37 v38 lo39 fs40 K36 Kp41 q42
    rcases q42 with qq42_0 | qq42_1
    · obtain ⟨rfl, rfl, f43⟩ := qq42_0
      have K44 := K36.to 5 16 [b]
      refine Owe.stk [(.int 1)] ?_
      refine oIfNo K44 135 (hb hby at_132) (XT.i0_eq_f (by decide)) ?_
      refine oIconstV K44 136 (1 : Int32) (hb hby at_135) rfl ?_
      refine oIstore K44 138 (hb hby at_136) (l' := #[.val (.int p0), .val (.int p1), .val (.int p2), .val (.int p3), .val (.int p4), .val (.int 2), .val (.int 0), .val (.ref b), .val (.ref x9), .val (.int 1)]) rfl ?_
      refine oGoto K44 182 (hb hby at_138) ?_
      refine oAload K44 184 (hb hby at_182) rfl rfl ?_
      refine oIload K44 186 (hb hby at_184) rfl ?_
      refine oStatic K44 189 0 (wq hw 36) (wq hw 37) (wq hw 38) (wq hw 39) (rmLS2_0 l Z a0 z0 fm G x9 (h3.size) c0 c1 h37 K44.old K44.both ((f10.keep Kp18 geN).keep Kp41 geN) P1 P2 P3 P4) [(.ref x9), (.int 0)] [] (lenOf pd709 rfl) (hb hby at_186) ?_
      intro T45 h47 v48 lo49 fs50 K46 Kp51 q52
      obtain ⟨r53, rfl, rfl, f54⟩ := q52
      have K55 := K46.to 5 16 [b]
      refine Owe.stk [(.int r53)] ?_
      refine oIload K55 191 (hb hby at_189) rfl ?_
      refine oIcmpNo K55 194 (hb hby at_191) (XT.ii_ne_f (own_fin2_0_1 f54 f33 f43)) ?_
      refine oIconstV K55 195 (1 : Int32) (hb hby at_194) rfl ?_
      refine oGoto K55 199 (hb hby at_195) ?_
      exact oRetI K55 [] (t := .boolean) hret (by simp) (by decide) (hb hby at_199) (by decide) (by decide) hlk (fun x hx => by cases hx) ⟨rfl, rfl⟩
    · obtain ⟨rfl, rfl, f56⟩ := qq42_1
      have K57 := K36.to 5 16 [b]
      refine Owe.stk [(.int 0)] ?_
      refine oIfYes K57 141 (hb hby at_132) (XT.i0_eq_t (by decide)) ?_
      refine oAload K57 143 (hb hby at_141) rfl rfl ?_
      refine oIload K57 145 (hb hby at_143) rfl ?_
      refine oIload K57 147 (hb hby at_145) rfl ?_
      refine oIconstV K57 148 (2 : Int32) (hb hby at_147) rfl ?_
      refine oStatic K57 151 0 (wq hw 33) (wq hw 34) (wq hw 4) (wq hw 35) (rmLA2_b l Z a0 z0 fm G b ((2 : Int32)) ((0 : Int32)) h37 K57.old K57.both (by decide) (by decide)) [(.ref b), (.int 2), (.int 0), (.int 2)] [] (lenOf pd708 rfl) (hb hby at_148) ?_
      intro T58 h60 v61 lo62 fs63 K59 Kp64 q65
      obtain ⟨rfl, rfl⟩ := q65
      have K66 := K59.to 5 16 [b]
      refine Owe.stk [(.int 0)] ?_
      refine oIfYes K66 160 (hb hby at_151) (XT.i0_eq_t (by decide)) ?_
      refine oAload K66 162 (hb hby at_160) rfl rfl ?_
      refine oIload K66 164 (hb hby at_162) rfl ?_
      refine oIload K66 166 (hb hby at_164) rfl ?_
      refine oIconstV K66 167 (3 : Int32) (hb hby at_166) rfl ?_
      refine oStatic K66 170 0 (wq hw 33) (wq hw 34) (wq hw 4) (wq hw 35) (rmLA3_b l Z a0 z0 fm G b ((2 : Int32)) ((0 : Int32)) h60 K66.old K66.both (by decide) (by decide)) [(.ref b), (.int 2), (.int 0), (.int 3)] [] (lenOf pd708 rfl) (hb hby at_167) ?_
      intro T67 h69 v70 lo71 fs72 K68 Kp73 q74
      obtain ⟨rfl, rfl⟩ := q74
      have K75 := K68.to 5 16 [b]
      refine Owe.stk [(.int 0)] ?_
      refine oIfYes K75 179 (hb hby at_170) (XT.i0_eq_t (by decide)) ?_
      refine oIconstV K75 180 (-1 : Int32) (hb hby at_179) rfl ?_
      refine oIstore K75 182 (hb hby at_180) (l' := #[.val (.int p0), .val (.int p1), .val (.int p2), .val (.int p3), .val (.int p4), .val (.int 2), .val (.int 0), .val (.ref b), .val (.ref x9), .val (.int (-1))]) rfl ?_
      refine oAload K75 184 (hb hby at_182) rfl rfl ?_
      refine oIload K75 186 (hb hby at_184) rfl ?_
      refine oStatic K75 189 0 (wq hw 36) (wq hw 37) (wq hw 38) (wq hw 39) (rmLS2_0 l Z a0 z0 fm G x9 (h3.size) c0 c1 h69 K75.old K75.both ((((f10.keep Kp18 geN).keep Kp41 geN).keep Kp64 geN).keep Kp73 geN) P1 P2 P3 P4) [(.ref x9), (.int 0)] [] (lenOf pd709 rfl) (hb hby at_186) ?_
      intro T76 h78 v79 lo80 fs81 K77 Kp82 q83
      obtain ⟨r84, rfl, rfl, f85⟩ := q83
      have K86 := K77.to 5 16 [b]
      refine Owe.stk [(.int r84)] ?_
      refine oIload K86 191 (hb hby at_189) rfl ?_
      refine oIcmpNo K86 194 (hb hby at_191) (XT.ii_ne_f (own_fin2_0_m f85 f33 f56)) ?_
      refine oIconstV K86 195 (1 : Int32) (hb hby at_194) rfl ?_
      refine oGoto K86 199 (hb hby at_195) ?_
      exact oRetI K86 [] (t := .boolean) hret (by simp) (by decide) (hb hby at_199) (by decide) (by decide) hlk (fun x hx => by cases hx) ⟨rfl, rfl⟩
theorem own_fin2_1_1 {r c1 : Int32} (hr : r.toInt = scan [c1] 1) (q0 : (hiI c1 ∨ loI c1)) : r = (1 : Int32) := by
  refine Int32.toInt_inj.mp (hr.trans ?_)
  have e : (1 : Int32).toInt = 1 := by decide
  rw [e]
  simp only [scan, hiI, loI] at *
  repeat' split
  all_goals omega
theorem own_fin2_1_m {r c1 : Int32} (hr : r.toInt = scan [c1] 1) (q0 : ¬ (hiI c1 ∨ loI c1)) : r = (-1 : Int32) := by
  refine Int32.toInt_inj.mp (hr.trans ?_)
  have e : (-1 : Int32).toInt = -1 := by decide
  rw [e]
  simp only [scan, hiI, loI] at *
  repeat' split
  all_goals omega
theorem sgT2_1 (G : Gl Z a0 z0 fm) (p0 p1 p2 p3 p4 : Int32) (b : Addr) (c0 c1 c2 c3 : Int32) (hby : c.code = code) (hret : meth.sig.returnType = ret) (hlk : meth.locks = false) (h0 : Heap)
    (K0 : Wk p l e room_1 s m #[(.int p0), (.int p1), (.int p2), (.int p3), (.int p4)] below meth c Z a0 ELs "com/example/mangrove/mangrove/Utf8TextLoneSurrogateAtPinLaw" maxLocals [] [b] T0 lo0 1 4 h0) (P0 : Ary Z h0 b .char [(.int c0), (.int c1), (.int c2), (.int c3)]) (P1 : ¬ c0 < (0 : Int32)) (P2 : ¬ (65535 : Int32) < c0) (P3 : ¬ c1 < (0 : Int32)) (P4 : ¬ (65535 : Int32) < c1) (P5 : ¬ c2 < (0 : Int32)) (P6 : ¬ (65535 : Int32) < c2) (P7 : ¬ c3 < (0 : Int32)) (P8 : ¬ (65535 : Int32) < c3) :
    Owe p e below (PostW Z ELs [] room_1 (fun v h fs => (fs = [] ∧ v = some (.int 1))) s) T0 (mkF m 94 #[.val (.int p0), .val (.int p1), .val (.int p2), .val (.int p3), .val (.int p4), .val (.int 2), .val (.int 1), .val (.ref b), .unset, .unset] []) := by
  obtain ⟨hw, hEL, wS, OS, hz0, OA, OH, OL, OF, rfm⟩ := id G
  refine oAload K0 96 (hb hby at_94) rfl rfl ?_
  refine oIload K0 98 (hb hby at_96) rfl ?_
  refine oStatic K0 101 0 (wq hw 9) (wq hw 10) (wq hw 4) (wq hw 11) (rmStr2 l Z a0 z0 fm G b c0 c1 c2 c3 h0 K0.old K0.both P0 P1 P2 P3 P4 P5 P6 P7 P8) [(.ref b), (.int 2)] [] (lenOf pd707 rfl) (hb hby at_98) ?_
  intro T1 h3 v4 lo5 fs6 K2 Kp7 q8
  obtain ⟨x9, rfl, rfl, f10⟩ := q8
  have K11 := K2.to 5 16 [b]
  refine Owe.stk [(.ref x9)] ?_
  refine oAstore K11 103 (hb hby at_101) rfl (l' := #[.val (.int p0), .val (.int p1), .val (.int p2), .val (.int p3), .val (.int p4), .val (.int 2), .val (.int 1), .val (.ref b), .val (.ref x9), .unset]) rfl ?_
  refine oAload K11 105 (hb hby at_103) rfl rfl ?_
  refine oIload K11 107 (hb hby at_105) rfl ?_
  refine oIload K11 109 (hb hby at_107) rfl ?_
  refine oIconstV K11 110 (0 : Int32) (hb hby at_109) rfl ?_
  refine oStatic K11 113 0 (wq hw 33) (wq hw 34) (wq hw 4) (wq hw 35) (rmLA0_a l Z a0 z0 fm G b ((2 : Int32)) ((1 : Int32)) h3 K11.old K11.both (by decide)) [(.ref b), (.int 2), (.int 1), (.int 0)] [] (lenOf pd708 rfl) (hb hby at_110) ?_
  intro T12 h14 v15 lo16 fs17 K13 Kp18 q19
  obtain ⟨rfl, rfl⟩ := q19
  have K20 := K13.to 5 16 [b]
  refine Owe.stk [(.int 0)] ?_
  refine oIfYes K20 122 (hb hby at_113) (XT.i0_eq_t (by decide)) ?_
  refine oAload K20 124 (hb hby at_122) rfl rfl ?_
  refine oIload K20 126 (hb hby at_124) rfl ?_
  refine oIload K20 128 (hb hby at_126) rfl ?_
  refine oIconstV K20 129 (1 : Int32) (hb hby at_128) rfl ?_
  refine oStatic K20 132 0 (wq hw 33) (wq hw 34) (wq hw 4) (wq hw 35) (rmLA1_00 l Z a0 z0 fm G b ((2 : Int32)) ((1 : Int32)) c0 c1 c2 c3 h14 K20.old K20.both ((P0.keep Kp7 nin0).keep Kp18 nin0) (by decide) (by decide) (by decide) (by decide)) [(.ref b), (.int 2), (.int 1), (.int 1)] [] (lenOf pd708 rfl) (hb hby at_129) ?_
  intro T21 h23 v24 lo25 fs26 K22 Kp27 q28
  rcases q28 with qq28_0 | qq28_1
  · obtain ⟨rfl, rfl, f29⟩ := qq28_0
    have K30 := K22.to 5 16 [b]
    refine Owe.stk [(.int 1)] ?_
    refine oIfNo K30 135 (hb hby at_132) (XT.i0_eq_f (by decide)) ?_
    refine oIconstV K30 136 (1 : Int32) (hb hby at_135) rfl ?_
    refine oIstore K30 138 (hb hby at_136) (l' := #[.val (.int p0), .val (.int p1), .val (.int p2), .val (.int p3), .val (.int p4), .val (.int 2), .val (.int 1), .val (.ref b), .val (.ref x9), .val (.int 1)]) rfl ?_
    refine oGoto K30 182 (hb hby at_138) ?_
    refine oAload K30 184 (hb hby at_182) rfl rfl ?_
    refine oIload K30 186 (hb hby at_184) rfl ?_
    refine oStatic K30 189 0 (wq hw 36) (wq hw 37) (wq hw 38) (wq hw 39) (rmLS2_1 l Z a0 z0 fm G x9 (h3.size) c0 c1 h23 K30.old K30.both ((f10.keep Kp18 geN).keep Kp27 geN) P1 P2 P3 P4) [(.ref x9), (.int 1)] [] (lenOf pd709 rfl) (hb hby at_186) ?_
    intro T31 h33 v34 lo35 fs36 K32 Kp37 q38
    obtain ⟨r39, rfl, rfl, f40⟩ := q38
    have K41 := K32.to 5 16 [b]
    refine Owe.stk [(.int r39)] ?_
    refine oIload K41 191 (hb hby at_189) rfl ?_
    refine oIcmpNo K41 194 (hb hby at_191) (XT.ii_ne_f (own_fin2_1_1 f40 f29)) ?_
    refine oIconstV K41 195 (1 : Int32) (hb hby at_194) rfl ?_
    refine oGoto K41 199 (hb hby at_195) ?_
    exact oRetI K41 [] (t := .boolean) hret (by simp) (by decide) (hb hby at_199) (by decide) (by decide) hlk (fun x hx => by cases hx) ⟨rfl, rfl⟩
  · obtain ⟨rfl, rfl, f42⟩ := qq28_1
    have K43 := K22.to 5 16 [b]
    refine Owe.stk [(.int 0)] ?_
    refine oIfYes K43 141 (hb hby at_132) (XT.i0_eq_t (by decide)) ?_
    refine oAload K43 143 (hb hby at_141) rfl rfl ?_
    refine oIload K43 145 (hb hby at_143) rfl ?_
    refine oIload K43 147 (hb hby at_145) rfl ?_
    refine oIconstV K43 148 (2 : Int32) (hb hby at_147) rfl ?_
    refine oStatic K43 151 0 (wq hw 33) (wq hw 34) (wq hw 4) (wq hw 35) (rmLA2_b l Z a0 z0 fm G b ((2 : Int32)) ((1 : Int32)) h23 K43.old K43.both (by decide) (by decide)) [(.ref b), (.int 2), (.int 1), (.int 2)] [] (lenOf pd708 rfl) (hb hby at_148) ?_
    intro T44 h46 v47 lo48 fs49 K45 Kp50 q51
    obtain ⟨rfl, rfl⟩ := q51
    have K52 := K45.to 5 16 [b]
    refine Owe.stk [(.int 0)] ?_
    refine oIfYes K52 160 (hb hby at_151) (XT.i0_eq_t (by decide)) ?_
    refine oAload K52 162 (hb hby at_160) rfl rfl ?_
    refine oIload K52 164 (hb hby at_162) rfl ?_
    refine oIload K52 166 (hb hby at_164) rfl ?_
    refine oIconstV K52 167 (3 : Int32) (hb hby at_166) rfl ?_
    refine oStatic K52 170 0 (wq hw 33) (wq hw 34) (wq hw 4) (wq hw 35) (rmLA3_b l Z a0 z0 fm G b ((2 : Int32)) ((1 : Int32)) h46 K52.old K52.both (by decide) (by decide)) [(.ref b), (.int 2), (.int 1), (.int 3)] [] (lenOf pd708 rfl) (hb hby at_167) ?_
    intro T53 h55 v56 lo57 fs58 K54 Kp59 q60
    obtain ⟨rfl, rfl⟩ := q60
    have K61 := K54.to 5 16 [b]
    refine Owe.stk [(.int 0)] ?_
    refine oIfYes K61 179 (hb hby at_170) (XT.i0_eq_t (by decide)) ?_
    refine oIconstV K61 180 (-1 : Int32) (hb hby at_179) rfl ?_
    refine oIstore K61 182 (hb hby at_180) (l' := #[.val (.int p0), .val (.int p1), .val (.int p2), .val (.int p3), .val (.int p4), .val (.int 2), .val (.int 1), .val (.ref b), .val (.ref x9), .val (.int (-1))]) rfl ?_
    refine oAload K61 184 (hb hby at_182) rfl rfl ?_
    refine oIload K61 186 (hb hby at_184) rfl ?_
    refine oStatic K61 189 0 (wq hw 36) (wq hw 37) (wq hw 38) (wq hw 39) (rmLS2_1 l Z a0 z0 fm G x9 (h3.size) c0 c1 h55 K61.old K61.both ((((f10.keep Kp18 geN).keep Kp27 geN).keep Kp50 geN).keep Kp59 geN) P1 P2 P3 P4) [(.ref x9), (.int 1)] [] (lenOf pd709 rfl) (hb hby at_186) ?_
    intro T62 h64 v65 lo66 fs67 K63 Kp68 q69
    obtain ⟨r70, rfl, rfl, f71⟩ := q69
    have K72 := K63.to 5 16 [b]
    refine Owe.stk [(.int r70)] ?_
    refine oIload K72 191 (hb hby at_189) rfl ?_
    refine oIcmpNo K72 194 (hb hby at_191) (XT.ii_ne_f (own_fin2_1_m f71 f42)) ?_
    refine oIconstV K72 195 (1 : Int32) (hb hby at_194) rfl ?_
    refine oGoto K72 199 (hb hby at_195) ?_
    exact oRetI K72 [] (t := .boolean) hret (by simp) (by decide) (hb hby at_199) (by decide) (by decide) hlk (fun x hx => by cases hx) ⟨rfl, rfl⟩
theorem own_fin2_2_m {r  : Int32} (hr : r.toInt = scan [] 2) : r = (-1 : Int32) := by
  refine Int32.toInt_inj.mp (hr.trans ?_)
  have e : (-1 : Int32).toInt = -1 := by decide
  rw [e]
  simp only [scan, hiI, loI] at *
  repeat' split
  all_goals omega
theorem sgT2_2 (G : Gl Z a0 z0 fm) (p0 p1 p2 p3 p4 : Int32) (b : Addr) (c0 c1 c2 c3 : Int32) (hby : c.code = code) (hret : meth.sig.returnType = ret) (hlk : meth.locks = false) (h0 : Heap)
    (K0 : Wk p l e room_1 s m #[(.int p0), (.int p1), (.int p2), (.int p3), (.int p4)] below meth c Z a0 ELs "com/example/mangrove/mangrove/Utf8TextLoneSurrogateAtPinLaw" maxLocals [] [b] T0 lo0 1 4 h0) (P0 : Ary Z h0 b .char [(.int c0), (.int c1), (.int c2), (.int c3)]) (P1 : ¬ c0 < (0 : Int32)) (P2 : ¬ (65535 : Int32) < c0) (P3 : ¬ c1 < (0 : Int32)) (P4 : ¬ (65535 : Int32) < c1) (P5 : ¬ c2 < (0 : Int32)) (P6 : ¬ (65535 : Int32) < c2) (P7 : ¬ c3 < (0 : Int32)) (P8 : ¬ (65535 : Int32) < c3) :
    Owe p e below (PostW Z ELs [] room_1 (fun v h fs => (fs = [] ∧ v = some (.int 1))) s) T0 (mkF m 94 #[.val (.int p0), .val (.int p1), .val (.int p2), .val (.int p3), .val (.int p4), .val (.int 2), .val (.int 2), .val (.ref b), .unset, .unset] []) := by
  obtain ⟨hw, hEL, wS, OS, hz0, OA, OH, OL, OF, rfm⟩ := id G
  refine oAload K0 96 (hb hby at_94) rfl rfl ?_
  refine oIload K0 98 (hb hby at_96) rfl ?_
  refine oStatic K0 101 0 (wq hw 9) (wq hw 10) (wq hw 4) (wq hw 11) (rmStr2 l Z a0 z0 fm G b c0 c1 c2 c3 h0 K0.old K0.both P0 P1 P2 P3 P4 P5 P6 P7 P8) [(.ref b), (.int 2)] [] (lenOf pd707 rfl) (hb hby at_98) ?_
  intro T1 h3 v4 lo5 fs6 K2 Kp7 q8
  obtain ⟨x9, rfl, rfl, f10⟩ := q8
  have K11 := K2.to 5 16 [b]
  refine Owe.stk [(.ref x9)] ?_
  refine oAstore K11 103 (hb hby at_101) rfl (l' := #[.val (.int p0), .val (.int p1), .val (.int p2), .val (.int p3), .val (.int p4), .val (.int 2), .val (.int 2), .val (.ref b), .val (.ref x9), .unset]) rfl ?_
  refine oAload K11 105 (hb hby at_103) rfl rfl ?_
  refine oIload K11 107 (hb hby at_105) rfl ?_
  refine oIload K11 109 (hb hby at_107) rfl ?_
  refine oIconstV K11 110 (0 : Int32) (hb hby at_109) rfl ?_
  refine oStatic K11 113 0 (wq hw 33) (wq hw 34) (wq hw 4) (wq hw 35) (rmLA0_a l Z a0 z0 fm G b ((2 : Int32)) ((2 : Int32)) h3 K11.old K11.both (by decide)) [(.ref b), (.int 2), (.int 2), (.int 0)] [] (lenOf pd708 rfl) (hb hby at_110) ?_
  intro T12 h14 v15 lo16 fs17 K13 Kp18 q19
  obtain ⟨rfl, rfl⟩ := q19
  have K20 := K13.to 5 16 [b]
  refine Owe.stk [(.int 0)] ?_
  refine oIfYes K20 122 (hb hby at_113) (XT.i0_eq_t (by decide)) ?_
  refine oAload K20 124 (hb hby at_122) rfl rfl ?_
  refine oIload K20 126 (hb hby at_124) rfl ?_
  refine oIload K20 128 (hb hby at_126) rfl ?_
  refine oIconstV K20 129 (1 : Int32) (hb hby at_128) rfl ?_
  refine oStatic K20 132 0 (wq hw 33) (wq hw 34) (wq hw 4) (wq hw 35) (rmLA1_a l Z a0 z0 fm G b ((2 : Int32)) ((2 : Int32)) h14 K20.old K20.both (by decide)) [(.ref b), (.int 2), (.int 2), (.int 1)] [] (lenOf pd708 rfl) (hb hby at_129) ?_
  intro T21 h23 v24 lo25 fs26 K22 Kp27 q28
  obtain ⟨rfl, rfl⟩ := q28
  have K29 := K22.to 5 16 [b]
  refine Owe.stk [(.int 0)] ?_
  refine oIfYes K29 141 (hb hby at_132) (XT.i0_eq_t (by decide)) ?_
  refine oAload K29 143 (hb hby at_141) rfl rfl ?_
  refine oIload K29 145 (hb hby at_143) rfl ?_
  refine oIload K29 147 (hb hby at_145) rfl ?_
  refine oIconstV K29 148 (2 : Int32) (hb hby at_147) rfl ?_
  refine oStatic K29 151 0 (wq hw 33) (wq hw 34) (wq hw 4) (wq hw 35) (rmLA2_b l Z a0 z0 fm G b ((2 : Int32)) ((2 : Int32)) h23 K29.old K29.both (by decide) (by decide)) [(.ref b), (.int 2), (.int 2), (.int 2)] [] (lenOf pd708 rfl) (hb hby at_148) ?_
  intro T30 h32 v33 lo34 fs35 K31 Kp36 q37
  obtain ⟨rfl, rfl⟩ := q37
  have K38 := K31.to 5 16 [b]
  refine Owe.stk [(.int 0)] ?_
  refine oIfYes K38 160 (hb hby at_151) (XT.i0_eq_t (by decide)) ?_
  refine oAload K38 162 (hb hby at_160) rfl rfl ?_
  refine oIload K38 164 (hb hby at_162) rfl ?_
  refine oIload K38 166 (hb hby at_164) rfl ?_
  refine oIconstV K38 167 (3 : Int32) (hb hby at_166) rfl ?_
  refine oStatic K38 170 0 (wq hw 33) (wq hw 34) (wq hw 4) (wq hw 35) (rmLA3_b l Z a0 z0 fm G b ((2 : Int32)) ((2 : Int32)) h32 K38.old K38.both (by decide) (by decide)) [(.ref b), (.int 2), (.int 2), (.int 3)] [] (lenOf pd708 rfl) (hb hby at_167) ?_
  intro T39 h41 v42 lo43 fs44 K40 Kp45 q46
  obtain ⟨rfl, rfl⟩ := q46
  have K47 := K40.to 5 16 [b]
  refine Owe.stk [(.int 0)] ?_
  refine oIfYes K47 179 (hb hby at_170) (XT.i0_eq_t (by decide)) ?_
  refine oIconstV K47 180 (-1 : Int32) (hb hby at_179) rfl ?_
  refine oIstore K47 182 (hb hby at_180) (l' := #[.val (.int p0), .val (.int p1), .val (.int p2), .val (.int p3), .val (.int p4), .val (.int 2), .val (.int 2), .val (.ref b), .val (.ref x9), .val (.int (-1))]) rfl ?_
  refine oAload K47 184 (hb hby at_182) rfl rfl ?_
  refine oIload K47 186 (hb hby at_184) rfl ?_
  refine oStatic K47 189 0 (wq hw 36) (wq hw 37) (wq hw 38) (wq hw 39) (rmLS2_2 l Z a0 z0 fm G x9 (h3.size) c0 c1 h41 K47.old K47.both ((((f10.keep Kp18 geN).keep Kp27 geN).keep Kp36 geN).keep Kp45 geN) P1 P2 P3 P4) [(.ref x9), (.int 2)] [] (lenOf pd709 rfl) (hb hby at_186) ?_
  intro T48 h50 v51 lo52 fs53 K49 Kp54 q55
  obtain ⟨r56, rfl, rfl, f57⟩ := q55
  have K58 := K49.to 5 16 [b]
  refine Owe.stk [(.int r56)] ?_
  refine oIload K58 191 (hb hby at_189) rfl ?_
  refine oIcmpNo K58 194 (hb hby at_191) (XT.ii_ne_f (own_fin2_2_m f57 )) ?_
  refine oIconstV K58 195 (1 : Int32) (hb hby at_194) rfl ?_
  refine oGoto K58 199 (hb hby at_195) ?_
  exact oRetI K58 [] (t := .boolean) hret (by simp) (by decide) (hb hby at_199) (by decide) (by decide) hlk (fun x hx => by cases hx) ⟨rfl, rfl⟩
theorem own_fin3_0_0 {r c0 c1 c2 : Int32} (hr : r.toInt = scan [c0, c1, c2] 0) (q0 : ((hiI c0 ∧ ¬ loI c1) ∨ loI c0)) : r = (0 : Int32) := by
  refine Int32.toInt_inj.mp (hr.trans ?_)
  have e : (0 : Int32).toInt = 0 := by decide
  rw [e]
  simp only [scan, hiI, loI] at *
  repeat' split
  all_goals omega
theorem own_fin3_0_1 {r c0 c1 c2 : Int32} (hr : r.toInt = scan [c0, c1, c2] 0) (q0 : ¬ ((hiI c0 ∧ ¬ loI c1) ∨ loI c0)) (q1 : ((hiI c1 ∧ ¬ loI c2) ∨ (loI c1 ∧ ¬ hiI c0))) : r = (1 : Int32) := by
  refine Int32.toInt_inj.mp (hr.trans ?_)
  have e : (1 : Int32).toInt = 1 := by decide
  rw [e]
  simp only [scan, hiI, loI] at *
  repeat' split
  all_goals omega
theorem own_fin3_0_2 {r c0 c1 c2 : Int32} (hr : r.toInt = scan [c0, c1, c2] 0) (q0 : ¬ ((hiI c0 ∧ ¬ loI c1) ∨ loI c0)) (q1 : ¬ ((hiI c1 ∧ ¬ loI c2) ∨ (loI c1 ∧ ¬ hiI c0))) (q2 : (hiI c2 ∨ (loI c2 ∧ ¬ hiI c1))) : r = (2 : Int32) := by
  refine Int32.toInt_inj.mp (hr.trans ?_)
  have e : (2 : Int32).toInt = 2 := by decide
  rw [e]
  simp only [scan, hiI, loI] at *
  repeat' split
  all_goals omega
theorem own_fin3_0_m {r c0 c1 c2 : Int32} (hr : r.toInt = scan [c0, c1, c2] 0) (q0 : ¬ ((hiI c0 ∧ ¬ loI c1) ∨ loI c0)) (q1 : ¬ ((hiI c1 ∧ ¬ loI c2) ∨ (loI c1 ∧ ¬ hiI c0))) (q2 : ¬ (hiI c2 ∨ (loI c2 ∧ ¬ hiI c1))) : r = (-1 : Int32) := by
  refine Int32.toInt_inj.mp (hr.trans ?_)
  have e : (-1 : Int32).toInt = -1 := by decide
  rw [e]
  simp only [scan, hiI, loI] at *
  repeat' split
  all_goals omega
theorem sgT3_0 (G : Gl Z a0 z0 fm) (p0 p1 p2 p3 p4 : Int32) (b : Addr) (c0 c1 c2 c3 : Int32) (hby : c.code = code) (hret : meth.sig.returnType = ret) (hlk : meth.locks = false) (h0 : Heap)
    (K0 : Wk p l e room_1 s m #[(.int p0), (.int p1), (.int p2), (.int p3), (.int p4)] below meth c Z a0 ELs "com/example/mangrove/mangrove/Utf8TextLoneSurrogateAtPinLaw" maxLocals [] [b] T0 lo0 1 4 h0) (P0 : Ary Z h0 b .char [(.int c0), (.int c1), (.int c2), (.int c3)]) (P1 : ¬ c0 < (0 : Int32)) (P2 : ¬ (65535 : Int32) < c0) (P3 : ¬ c1 < (0 : Int32)) (P4 : ¬ (65535 : Int32) < c1) (P5 : ¬ c2 < (0 : Int32)) (P6 : ¬ (65535 : Int32) < c2) (P7 : ¬ c3 < (0 : Int32)) (P8 : ¬ (65535 : Int32) < c3) :
    Owe p e below (PostW Z ELs [] room_1 (fun v h fs => (fs = [] ∧ v = some (.int 1))) s) T0 (mkF m 94 #[.val (.int p0), .val (.int p1), .val (.int p2), .val (.int p3), .val (.int p4), .val (.int 3), .val (.int 0), .val (.ref b), .unset, .unset] []) := by
  obtain ⟨hw, hEL, wS, OS, hz0, OA, OH, OL, OF, rfm⟩ := id G
  refine oAload K0 96 (hb hby at_94) rfl rfl ?_
  refine oIload K0 98 (hb hby at_96) rfl ?_
  refine oStatic K0 101 0 (wq hw 9) (wq hw 10) (wq hw 4) (wq hw 11) (rmStr3 l Z a0 z0 fm G b c0 c1 c2 c3 h0 K0.old K0.both P0 P1 P2 P3 P4 P5 P6 P7 P8) [(.ref b), (.int 3)] [] (lenOf pd707 rfl) (hb hby at_98) ?_
  intro T1 h3 v4 lo5 fs6 K2 Kp7 q8
  obtain ⟨x9, rfl, rfl, f10⟩ := q8
  have K11 := K2.to 5 20 [b]
  refine Owe.stk [(.ref x9)] ?_
  refine oAstore K11 103 (hb hby at_101) rfl (l' := #[.val (.int p0), .val (.int p1), .val (.int p2), .val (.int p3), .val (.int p4), .val (.int 3), .val (.int 0), .val (.ref b), .val (.ref x9), .unset]) rfl ?_
  refine oAload K11 105 (hb hby at_103) rfl rfl ?_
  refine oIload K11 107 (hb hby at_105) rfl ?_
  refine oIload K11 109 (hb hby at_107) rfl ?_
  refine oIconstV K11 110 (0 : Int32) (hb hby at_109) rfl ?_
  refine oStatic K11 113 0 (wq hw 33) (wq hw 34) (wq hw 4) (wq hw 35) (rmLA0_10 l Z a0 z0 fm G b ((3 : Int32)) ((0 : Int32)) c0 c1 c2 c3 h3 K11.old K11.both (P0.keep Kp7 nin0) (by decide) (by decide) (by decide) (by decide)) [(.ref b), (.int 3), (.int 0), (.int 0)] [] (lenOf pd708 rfl) (hb hby at_110) ?_
  intro T12 h14 v15 lo16 fs17 K13 Kp18 q19
  rcases q19 with qq19_0 | qq19_1
  · obtain ⟨rfl, rfl, f20⟩ := qq19_0
    have K21 := K13.to 5 20 [b]
    refine Owe.stk [(.int 1)] ?_
    refine oIfNo K21 116 (hb hby at_113) (XT.i0_eq_f (by decide)) ?_
    refine oIconstV K21 117 (0 : Int32) (hb hby at_116) rfl ?_
    refine oIstore K21 119 (hb hby at_117) (l' := #[.val (.int p0), .val (.int p1), .val (.int p2), .val (.int p3), .val (.int p4), .val (.int 3), .val (.int 0), .val (.ref b), .val (.ref x9), .val (.int 0)]) rfl ?_
    refine oGoto K21 182 (hb hby at_119) ?_
    refine oAload K21 184 (hb hby at_182) rfl rfl ?_
    refine oIload K21 186 (hb hby at_184) rfl ?_
    refine oStatic K21 189 0 (wq hw 36) (wq hw 37) (wq hw 38) (wq hw 39) (rmLS3_0 l Z a0 z0 fm G x9 (h3.size) c0 c1 c2 h14 K21.old K21.both (f10.keep Kp18 geN) P1 P2 P3 P4 P5 P6) [(.ref x9), (.int 0)] [] (lenOf pd709 rfl) (hb hby at_186) ?_
    intro T22 h24 v25 lo26 fs27 K23 Kp28 q29
    obtain ⟨r30, rfl, rfl, f31⟩ := q29
    have K32 := K23.to 5 20 [b]
    refine Owe.stk [(.int r30)] ?_
    refine oIload K32 191 (hb hby at_189) rfl ?_
    refine oIcmpNo K32 194 (hb hby at_191) (XT.ii_ne_f (own_fin3_0_0 f31 f20)) ?_
    refine oIconstV K32 195 (1 : Int32) (hb hby at_194) rfl ?_
    refine oGoto K32 199 (hb hby at_195) ?_
    exact oRetI K32 [] (t := .boolean) hret (by simp) (by decide) (hb hby at_199) (by decide) (by decide) hlk (fun x hx => by cases hx) ⟨rfl, rfl⟩
  · obtain ⟨rfl, rfl, f33⟩ := qq19_1
    have K34 := K13.to 5 20 [b]
    refine Owe.stk [(.int 0)] ?_
    refine oIfYes K34 122 (hb hby at_113) (XT.i0_eq_t (by decide)) ?_
    refine oAload K34 124 (hb hby at_122) rfl rfl ?_
    refine oIload K34 126 (hb hby at_124) rfl ?_
    refine oIload K34 128 (hb hby at_126) rfl ?_
    refine oIconstV K34 129 (1 : Int32) (hb hby at_128) rfl ?_
    refine oStatic K34 132 0 (wq hw 33) (wq hw 34) (wq hw 4) (wq hw 35) (rmLA1_11 l Z a0 z0 fm G b ((3 : Int32)) ((0 : Int32)) c0 c1 c2 c3 h14 K34.old K34.both ((P0.keep Kp7 nin0).keep Kp18 nin0) (by decide) (by decide) (by decide) (by decide)) [(.ref b), (.int 3), (.int 0), (.int 1)] [] (lenOf pd708 rfl) (hb hby at_129) ?_
    intro T35 h37 v38 lo39 fs40 K36 Kp41 q42
    rcases q42 with qq42_0 | qq42_1
    · obtain ⟨rfl, rfl, f43⟩ := qq42_0
      have K44 := K36.to 5 20 [b]
      refine Owe.stk [(.int 1)] ?_
      refine oIfNo K44 135 (hb hby at_132) (XT.i0_eq_f (by decide)) ?_
      refine oIconstV K44 136 (1 : Int32) (hb hby at_135) rfl ?_
      refine oIstore K44 138 (hb hby at_136) (l' := #[.val (.int p0), .val (.int p1), .val (.int p2), .val (.int p3), .val (.int p4), .val (.int 3), .val (.int 0), .val (.ref b), .val (.ref x9), .val (.int 1)]) rfl ?_
      refine oGoto K44 182 (hb hby at_138) ?_
      refine oAload K44 184 (hb hby at_182) rfl rfl ?_
      refine oIload K44 186 (hb hby at_184) rfl ?_
      refine oStatic K44 189 0 (wq hw 36) (wq hw 37) (wq hw 38) (wq hw 39) (rmLS3_0 l Z a0 z0 fm G x9 (h3.size) c0 c1 c2 h37 K44.old K44.both ((f10.keep Kp18 geN).keep Kp41 geN) P1 P2 P3 P4 P5 P6) [(.ref x9), (.int 0)] [] (lenOf pd709 rfl) (hb hby at_186) ?_
      intro T45 h47 v48 lo49 fs50 K46 Kp51 q52
      obtain ⟨r53, rfl, rfl, f54⟩ := q52
      have K55 := K46.to 5 20 [b]
      refine Owe.stk [(.int r53)] ?_
      refine oIload K55 191 (hb hby at_189) rfl ?_
      refine oIcmpNo K55 194 (hb hby at_191) (XT.ii_ne_f (own_fin3_0_1 f54 f33 f43)) ?_
      refine oIconstV K55 195 (1 : Int32) (hb hby at_194) rfl ?_
      refine oGoto K55 199 (hb hby at_195) ?_
      exact oRetI K55 [] (t := .boolean) hret (by simp) (by decide) (hb hby at_199) (by decide) (by decide) hlk (fun x hx => by cases hx) ⟨rfl, rfl⟩
    · obtain ⟨rfl, rfl, f56⟩ := qq42_1
      have K57 := K36.to 5 20 [b]
      refine Owe.stk [(.int 0)] ?_
      refine oIfYes K57 141 (hb hby at_132) (XT.i0_eq_t (by decide)) ?_
      refine oAload K57 143 (hb hby at_141) rfl rfl ?_
      refine oIload K57 145 (hb hby at_143) rfl ?_
      refine oIload K57 147 (hb hby at_145) rfl ?_
      refine oIconstV K57 148 (2 : Int32) (hb hby at_147) rfl ?_
      refine oStatic K57 151 0 (wq hw 33) (wq hw 34) (wq hw 4) (wq hw 35) (rmLA2_01 l Z a0 z0 fm G b ((3 : Int32)) ((0 : Int32)) c0 c1 c2 c3 h37 K57.old K57.both (((P0.keep Kp7 nin0).keep Kp18 nin0).keep Kp41 nin0) (by decide) (by decide) (by decide) (by decide)) [(.ref b), (.int 3), (.int 0), (.int 2)] [] (lenOf pd708 rfl) (hb hby at_148) ?_
      intro T58 h60 v61 lo62 fs63 K59 Kp64 q65
      rcases q65 with qq65_0 | qq65_1
      · obtain ⟨rfl, rfl, f66⟩ := qq65_0
        have K67 := K59.to 5 20 [b]
        refine Owe.stk [(.int 1)] ?_
        refine oIfNo K67 154 (hb hby at_151) (XT.i0_eq_f (by decide)) ?_
        refine oIconstV K67 155 (2 : Int32) (hb hby at_154) rfl ?_
        refine oIstore K67 157 (hb hby at_155) (l' := #[.val (.int p0), .val (.int p1), .val (.int p2), .val (.int p3), .val (.int p4), .val (.int 3), .val (.int 0), .val (.ref b), .val (.ref x9), .val (.int 2)]) rfl ?_
        refine oGoto K67 182 (hb hby at_157) ?_
        refine oAload K67 184 (hb hby at_182) rfl rfl ?_
        refine oIload K67 186 (hb hby at_184) rfl ?_
        refine oStatic K67 189 0 (wq hw 36) (wq hw 37) (wq hw 38) (wq hw 39) (rmLS3_0 l Z a0 z0 fm G x9 (h3.size) c0 c1 c2 h60 K67.old K67.both (((f10.keep Kp18 geN).keep Kp41 geN).keep Kp64 geN) P1 P2 P3 P4 P5 P6) [(.ref x9), (.int 0)] [] (lenOf pd709 rfl) (hb hby at_186) ?_
        intro T68 h70 v71 lo72 fs73 K69 Kp74 q75
        obtain ⟨r76, rfl, rfl, f77⟩ := q75
        have K78 := K69.to 5 20 [b]
        refine Owe.stk [(.int r76)] ?_
        refine oIload K78 191 (hb hby at_189) rfl ?_
        refine oIcmpNo K78 194 (hb hby at_191) (XT.ii_ne_f (own_fin3_0_2 f77 f33 f56 f66)) ?_
        refine oIconstV K78 195 (1 : Int32) (hb hby at_194) rfl ?_
        refine oGoto K78 199 (hb hby at_195) ?_
        exact oRetI K78 [] (t := .boolean) hret (by simp) (by decide) (hb hby at_199) (by decide) (by decide) hlk (fun x hx => by cases hx) ⟨rfl, rfl⟩
      · obtain ⟨rfl, rfl, f79⟩ := qq65_1
        have K80 := K59.to 5 20 [b]
        refine Owe.stk [(.int 0)] ?_
        refine oIfYes K80 160 (hb hby at_151) (XT.i0_eq_t (by decide)) ?_
        refine oAload K80 162 (hb hby at_160) rfl rfl ?_
        refine oIload K80 164 (hb hby at_162) rfl ?_
        refine oIload K80 166 (hb hby at_164) rfl ?_
        refine oIconstV K80 167 (3 : Int32) (hb hby at_166) rfl ?_
        refine oStatic K80 170 0 (wq hw 33) (wq hw 34) (wq hw 4) (wq hw 35) (rmLA3_b l Z a0 z0 fm G b ((3 : Int32)) ((0 : Int32)) h60 K80.old K80.both (by decide) (by decide)) [(.ref b), (.int 3), (.int 0), (.int 3)] [] (lenOf pd708 rfl) (hb hby at_167) ?_
        intro T81 h83 v84 lo85 fs86 K82 Kp87 q88
        obtain ⟨rfl, rfl⟩ := q88
        have K89 := K82.to 5 20 [b]
        refine Owe.stk [(.int 0)] ?_
        refine oIfYes K89 179 (hb hby at_170) (XT.i0_eq_t (by decide)) ?_
        refine oIconstV K89 180 (-1 : Int32) (hb hby at_179) rfl ?_
        refine oIstore K89 182 (hb hby at_180) (l' := #[.val (.int p0), .val (.int p1), .val (.int p2), .val (.int p3), .val (.int p4), .val (.int 3), .val (.int 0), .val (.ref b), .val (.ref x9), .val (.int (-1))]) rfl ?_
        refine oAload K89 184 (hb hby at_182) rfl rfl ?_
        refine oIload K89 186 (hb hby at_184) rfl ?_
        refine oStatic K89 189 0 (wq hw 36) (wq hw 37) (wq hw 38) (wq hw 39) (rmLS3_0 l Z a0 z0 fm G x9 (h3.size) c0 c1 c2 h83 K89.old K89.both ((((f10.keep Kp18 geN).keep Kp41 geN).keep Kp64 geN).keep Kp87 geN) P1 P2 P3 P4 P5 P6) [(.ref x9), (.int 0)] [] (lenOf pd709 rfl) (hb hby at_186) ?_
        intro T90 h92 v93 lo94 fs95 K91 Kp96 q97
        obtain ⟨r98, rfl, rfl, f99⟩ := q97
        have K100 := K91.to 5 20 [b]
        refine Owe.stk [(.int r98)] ?_
        refine oIload K100 191 (hb hby at_189) rfl ?_
        refine oIcmpNo K100 194 (hb hby at_191) (XT.ii_ne_f (own_fin3_0_m f99 f33 f56 f79)) ?_
        refine oIconstV K100 195 (1 : Int32) (hb hby at_194) rfl ?_
        refine oGoto K100 199 (hb hby at_195) ?_
        exact oRetI K100 [] (t := .boolean) hret (by simp) (by decide) (hb hby at_199) (by decide) (by decide) hlk (fun x hx => by cases hx) ⟨rfl, rfl⟩
theorem own_fin3_1_1 {r c1 c2 : Int32} (hr : r.toInt = scan [c1, c2] 1) (q0 : ((hiI c1 ∧ ¬ loI c2) ∨ loI c1)) : r = (1 : Int32) := by
  refine Int32.toInt_inj.mp (hr.trans ?_)
  have e : (1 : Int32).toInt = 1 := by decide
  rw [e]
  simp only [scan, hiI, loI] at *
  repeat' split
  all_goals omega
theorem own_fin3_1_2 {r c1 c2 : Int32} (hr : r.toInt = scan [c1, c2] 1) (q0 : ¬ ((hiI c1 ∧ ¬ loI c2) ∨ loI c1)) (q1 : (hiI c2 ∨ (loI c2 ∧ ¬ hiI c1))) : r = (2 : Int32) := by
  refine Int32.toInt_inj.mp (hr.trans ?_)
  have e : (2 : Int32).toInt = 2 := by decide
  rw [e]
  simp only [scan, hiI, loI] at *
  repeat' split
  all_goals omega
theorem own_fin3_1_m {r c1 c2 : Int32} (hr : r.toInt = scan [c1, c2] 1) (q0 : ¬ ((hiI c1 ∧ ¬ loI c2) ∨ loI c1)) (q1 : ¬ (hiI c2 ∨ (loI c2 ∧ ¬ hiI c1))) : r = (-1 : Int32) := by
  refine Int32.toInt_inj.mp (hr.trans ?_)
  have e : (-1 : Int32).toInt = -1 := by decide
  rw [e]
  simp only [scan, hiI, loI] at *
  repeat' split
  all_goals omega
theorem sgT3_1 (G : Gl Z a0 z0 fm) (p0 p1 p2 p3 p4 : Int32) (b : Addr) (c0 c1 c2 c3 : Int32) (hby : c.code = code) (hret : meth.sig.returnType = ret) (hlk : meth.locks = false) (h0 : Heap)
    (K0 : Wk p l e room_1 s m #[(.int p0), (.int p1), (.int p2), (.int p3), (.int p4)] below meth c Z a0 ELs "com/example/mangrove/mangrove/Utf8TextLoneSurrogateAtPinLaw" maxLocals [] [b] T0 lo0 1 4 h0) (P0 : Ary Z h0 b .char [(.int c0), (.int c1), (.int c2), (.int c3)]) (P1 : ¬ c0 < (0 : Int32)) (P2 : ¬ (65535 : Int32) < c0) (P3 : ¬ c1 < (0 : Int32)) (P4 : ¬ (65535 : Int32) < c1) (P5 : ¬ c2 < (0 : Int32)) (P6 : ¬ (65535 : Int32) < c2) (P7 : ¬ c3 < (0 : Int32)) (P8 : ¬ (65535 : Int32) < c3) :
    Owe p e below (PostW Z ELs [] room_1 (fun v h fs => (fs = [] ∧ v = some (.int 1))) s) T0 (mkF m 94 #[.val (.int p0), .val (.int p1), .val (.int p2), .val (.int p3), .val (.int p4), .val (.int 3), .val (.int 1), .val (.ref b), .unset, .unset] []) := by
  obtain ⟨hw, hEL, wS, OS, hz0, OA, OH, OL, OF, rfm⟩ := id G
  refine oAload K0 96 (hb hby at_94) rfl rfl ?_
  refine oIload K0 98 (hb hby at_96) rfl ?_
  refine oStatic K0 101 0 (wq hw 9) (wq hw 10) (wq hw 4) (wq hw 11) (rmStr3 l Z a0 z0 fm G b c0 c1 c2 c3 h0 K0.old K0.both P0 P1 P2 P3 P4 P5 P6 P7 P8) [(.ref b), (.int 3)] [] (lenOf pd707 rfl) (hb hby at_98) ?_
  intro T1 h3 v4 lo5 fs6 K2 Kp7 q8
  obtain ⟨x9, rfl, rfl, f10⟩ := q8
  have K11 := K2.to 5 20 [b]
  refine Owe.stk [(.ref x9)] ?_
  refine oAstore K11 103 (hb hby at_101) rfl (l' := #[.val (.int p0), .val (.int p1), .val (.int p2), .val (.int p3), .val (.int p4), .val (.int 3), .val (.int 1), .val (.ref b), .val (.ref x9), .unset]) rfl ?_
  refine oAload K11 105 (hb hby at_103) rfl rfl ?_
  refine oIload K11 107 (hb hby at_105) rfl ?_
  refine oIload K11 109 (hb hby at_107) rfl ?_
  refine oIconstV K11 110 (0 : Int32) (hb hby at_109) rfl ?_
  refine oStatic K11 113 0 (wq hw 33) (wq hw 34) (wq hw 4) (wq hw 35) (rmLA0_a l Z a0 z0 fm G b ((3 : Int32)) ((1 : Int32)) h3 K11.old K11.both (by decide)) [(.ref b), (.int 3), (.int 1), (.int 0)] [] (lenOf pd708 rfl) (hb hby at_110) ?_
  intro T12 h14 v15 lo16 fs17 K13 Kp18 q19
  obtain ⟨rfl, rfl⟩ := q19
  have K20 := K13.to 5 20 [b]
  refine Owe.stk [(.int 0)] ?_
  refine oIfYes K20 122 (hb hby at_113) (XT.i0_eq_t (by decide)) ?_
  refine oAload K20 124 (hb hby at_122) rfl rfl ?_
  refine oIload K20 126 (hb hby at_124) rfl ?_
  refine oIload K20 128 (hb hby at_126) rfl ?_
  refine oIconstV K20 129 (1 : Int32) (hb hby at_128) rfl ?_
  refine oStatic K20 132 0 (wq hw 33) (wq hw 34) (wq hw 4) (wq hw 35) (rmLA1_10 l Z a0 z0 fm G b ((3 : Int32)) ((1 : Int32)) c0 c1 c2 c3 h14 K20.old K20.both ((P0.keep Kp7 nin0).keep Kp18 nin0) (by decide) (by decide) (by decide) (by decide)) [(.ref b), (.int 3), (.int 1), (.int 1)] [] (lenOf pd708 rfl) (hb hby at_129) ?_
  intro T21 h23 v24 lo25 fs26 K22 Kp27 q28
  rcases q28 with qq28_0 | qq28_1
  · obtain ⟨rfl, rfl, f29⟩ := qq28_0
    have K30 := K22.to 5 20 [b]
    refine Owe.stk [(.int 1)] ?_
    refine oIfNo K30 135 (hb hby at_132) (XT.i0_eq_f (by decide)) ?_
    refine oIconstV K30 136 (1 : Int32) (hb hby at_135) rfl ?_
    refine oIstore K30 138 (hb hby at_136) (l' := #[.val (.int p0), .val (.int p1), .val (.int p2), .val (.int p3), .val (.int p4), .val (.int 3), .val (.int 1), .val (.ref b), .val (.ref x9), .val (.int 1)]) rfl ?_
    refine oGoto K30 182 (hb hby at_138) ?_
    refine oAload K30 184 (hb hby at_182) rfl rfl ?_
    refine oIload K30 186 (hb hby at_184) rfl ?_
    refine oStatic K30 189 0 (wq hw 36) (wq hw 37) (wq hw 38) (wq hw 39) (rmLS3_1 l Z a0 z0 fm G x9 (h3.size) c0 c1 c2 h23 K30.old K30.both ((f10.keep Kp18 geN).keep Kp27 geN) P1 P2 P3 P4 P5 P6) [(.ref x9), (.int 1)] [] (lenOf pd709 rfl) (hb hby at_186) ?_
    intro T31 h33 v34 lo35 fs36 K32 Kp37 q38
    obtain ⟨r39, rfl, rfl, f40⟩ := q38
    have K41 := K32.to 5 20 [b]
    refine Owe.stk [(.int r39)] ?_
    refine oIload K41 191 (hb hby at_189) rfl ?_
    refine oIcmpNo K41 194 (hb hby at_191) (XT.ii_ne_f (own_fin3_1_1 f40 f29)) ?_
    refine oIconstV K41 195 (1 : Int32) (hb hby at_194) rfl ?_
    refine oGoto K41 199 (hb hby at_195) ?_
    exact oRetI K41 [] (t := .boolean) hret (by simp) (by decide) (hb hby at_199) (by decide) (by decide) hlk (fun x hx => by cases hx) ⟨rfl, rfl⟩
  · obtain ⟨rfl, rfl, f42⟩ := qq28_1
    have K43 := K22.to 5 20 [b]
    refine Owe.stk [(.int 0)] ?_
    refine oIfYes K43 141 (hb hby at_132) (XT.i0_eq_t (by decide)) ?_
    refine oAload K43 143 (hb hby at_141) rfl rfl ?_
    refine oIload K43 145 (hb hby at_143) rfl ?_
    refine oIload K43 147 (hb hby at_145) rfl ?_
    refine oIconstV K43 148 (2 : Int32) (hb hby at_147) rfl ?_
    refine oStatic K43 151 0 (wq hw 33) (wq hw 34) (wq hw 4) (wq hw 35) (rmLA2_01 l Z a0 z0 fm G b ((3 : Int32)) ((1 : Int32)) c0 c1 c2 c3 h23 K43.old K43.both (((P0.keep Kp7 nin0).keep Kp18 nin0).keep Kp27 nin0) (by decide) (by decide) (by decide) (by decide)) [(.ref b), (.int 3), (.int 1), (.int 2)] [] (lenOf pd708 rfl) (hb hby at_148) ?_
    intro T44 h46 v47 lo48 fs49 K45 Kp50 q51
    rcases q51 with qq51_0 | qq51_1
    · obtain ⟨rfl, rfl, f52⟩ := qq51_0
      have K53 := K45.to 5 20 [b]
      refine Owe.stk [(.int 1)] ?_
      refine oIfNo K53 154 (hb hby at_151) (XT.i0_eq_f (by decide)) ?_
      refine oIconstV K53 155 (2 : Int32) (hb hby at_154) rfl ?_
      refine oIstore K53 157 (hb hby at_155) (l' := #[.val (.int p0), .val (.int p1), .val (.int p2), .val (.int p3), .val (.int p4), .val (.int 3), .val (.int 1), .val (.ref b), .val (.ref x9), .val (.int 2)]) rfl ?_
      refine oGoto K53 182 (hb hby at_157) ?_
      refine oAload K53 184 (hb hby at_182) rfl rfl ?_
      refine oIload K53 186 (hb hby at_184) rfl ?_
      refine oStatic K53 189 0 (wq hw 36) (wq hw 37) (wq hw 38) (wq hw 39) (rmLS3_1 l Z a0 z0 fm G x9 (h3.size) c0 c1 c2 h46 K53.old K53.both (((f10.keep Kp18 geN).keep Kp27 geN).keep Kp50 geN) P1 P2 P3 P4 P5 P6) [(.ref x9), (.int 1)] [] (lenOf pd709 rfl) (hb hby at_186) ?_
      intro T54 h56 v57 lo58 fs59 K55 Kp60 q61
      obtain ⟨r62, rfl, rfl, f63⟩ := q61
      have K64 := K55.to 5 20 [b]
      refine Owe.stk [(.int r62)] ?_
      refine oIload K64 191 (hb hby at_189) rfl ?_
      refine oIcmpNo K64 194 (hb hby at_191) (XT.ii_ne_f (own_fin3_1_2 f63 f42 f52)) ?_
      refine oIconstV K64 195 (1 : Int32) (hb hby at_194) rfl ?_
      refine oGoto K64 199 (hb hby at_195) ?_
      exact oRetI K64 [] (t := .boolean) hret (by simp) (by decide) (hb hby at_199) (by decide) (by decide) hlk (fun x hx => by cases hx) ⟨rfl, rfl⟩
    · obtain ⟨rfl, rfl, f65⟩ := qq51_1
      have K66 := K45.to 5 20 [b]
      refine Owe.stk [(.int 0)] ?_
      refine oIfYes K66 160 (hb hby at_151) (XT.i0_eq_t (by decide)) ?_
      refine oAload K66 162 (hb hby at_160) rfl rfl ?_
      refine oIload K66 164 (hb hby at_162) rfl ?_
      refine oIload K66 166 (hb hby at_164) rfl ?_
      refine oIconstV K66 167 (3 : Int32) (hb hby at_166) rfl ?_
      refine oStatic K66 170 0 (wq hw 33) (wq hw 34) (wq hw 4) (wq hw 35) (rmLA3_b l Z a0 z0 fm G b ((3 : Int32)) ((1 : Int32)) h46 K66.old K66.both (by decide) (by decide)) [(.ref b), (.int 3), (.int 1), (.int 3)] [] (lenOf pd708 rfl) (hb hby at_167) ?_
      intro T67 h69 v70 lo71 fs72 K68 Kp73 q74
      obtain ⟨rfl, rfl⟩ := q74
      have K75 := K68.to 5 20 [b]
      refine Owe.stk [(.int 0)] ?_
      refine oIfYes K75 179 (hb hby at_170) (XT.i0_eq_t (by decide)) ?_
      refine oIconstV K75 180 (-1 : Int32) (hb hby at_179) rfl ?_
      refine oIstore K75 182 (hb hby at_180) (l' := #[.val (.int p0), .val (.int p1), .val (.int p2), .val (.int p3), .val (.int p4), .val (.int 3), .val (.int 1), .val (.ref b), .val (.ref x9), .val (.int (-1))]) rfl ?_
      refine oAload K75 184 (hb hby at_182) rfl rfl ?_
      refine oIload K75 186 (hb hby at_184) rfl ?_
      refine oStatic K75 189 0 (wq hw 36) (wq hw 37) (wq hw 38) (wq hw 39) (rmLS3_1 l Z a0 z0 fm G x9 (h3.size) c0 c1 c2 h69 K75.old K75.both ((((f10.keep Kp18 geN).keep Kp27 geN).keep Kp50 geN).keep Kp73 geN) P1 P2 P3 P4 P5 P6) [(.ref x9), (.int 1)] [] (lenOf pd709 rfl) (hb hby at_186) ?_
      intro T76 h78 v79 lo80 fs81 K77 Kp82 q83
      obtain ⟨r84, rfl, rfl, f85⟩ := q83
      have K86 := K77.to 5 20 [b]
      refine Owe.stk [(.int r84)] ?_
      refine oIload K86 191 (hb hby at_189) rfl ?_
      refine oIcmpNo K86 194 (hb hby at_191) (XT.ii_ne_f (own_fin3_1_m f85 f42 f65)) ?_
      refine oIconstV K86 195 (1 : Int32) (hb hby at_194) rfl ?_
      refine oGoto K86 199 (hb hby at_195) ?_
      exact oRetI K86 [] (t := .boolean) hret (by simp) (by decide) (hb hby at_199) (by decide) (by decide) hlk (fun x hx => by cases hx) ⟨rfl, rfl⟩
theorem own_fin3_2_2 {r c2 : Int32} (hr : r.toInt = scan [c2] 2) (q0 : (hiI c2 ∨ loI c2)) : r = (2 : Int32) := by
  refine Int32.toInt_inj.mp (hr.trans ?_)
  have e : (2 : Int32).toInt = 2 := by decide
  rw [e]
  simp only [scan, hiI, loI] at *
  repeat' split
  all_goals omega
theorem own_fin3_2_m {r c2 : Int32} (hr : r.toInt = scan [c2] 2) (q0 : ¬ (hiI c2 ∨ loI c2)) : r = (-1 : Int32) := by
  refine Int32.toInt_inj.mp (hr.trans ?_)
  have e : (-1 : Int32).toInt = -1 := by decide
  rw [e]
  simp only [scan, hiI, loI] at *
  repeat' split
  all_goals omega
theorem sgT3_2 (G : Gl Z a0 z0 fm) (p0 p1 p2 p3 p4 : Int32) (b : Addr) (c0 c1 c2 c3 : Int32) (hby : c.code = code) (hret : meth.sig.returnType = ret) (hlk : meth.locks = false) (h0 : Heap)
    (K0 : Wk p l e room_1 s m #[(.int p0), (.int p1), (.int p2), (.int p3), (.int p4)] below meth c Z a0 ELs "com/example/mangrove/mangrove/Utf8TextLoneSurrogateAtPinLaw" maxLocals [] [b] T0 lo0 1 4 h0) (P0 : Ary Z h0 b .char [(.int c0), (.int c1), (.int c2), (.int c3)]) (P1 : ¬ c0 < (0 : Int32)) (P2 : ¬ (65535 : Int32) < c0) (P3 : ¬ c1 < (0 : Int32)) (P4 : ¬ (65535 : Int32) < c1) (P5 : ¬ c2 < (0 : Int32)) (P6 : ¬ (65535 : Int32) < c2) (P7 : ¬ c3 < (0 : Int32)) (P8 : ¬ (65535 : Int32) < c3) :
    Owe p e below (PostW Z ELs [] room_1 (fun v h fs => (fs = [] ∧ v = some (.int 1))) s) T0 (mkF m 94 #[.val (.int p0), .val (.int p1), .val (.int p2), .val (.int p3), .val (.int p4), .val (.int 3), .val (.int 2), .val (.ref b), .unset, .unset] []) := by
  obtain ⟨hw, hEL, wS, OS, hz0, OA, OH, OL, OF, rfm⟩ := id G
  refine oAload K0 96 (hb hby at_94) rfl rfl ?_
  refine oIload K0 98 (hb hby at_96) rfl ?_
  refine oStatic K0 101 0 (wq hw 9) (wq hw 10) (wq hw 4) (wq hw 11) (rmStr3 l Z a0 z0 fm G b c0 c1 c2 c3 h0 K0.old K0.both P0 P1 P2 P3 P4 P5 P6 P7 P8) [(.ref b), (.int 3)] [] (lenOf pd707 rfl) (hb hby at_98) ?_
  intro T1 h3 v4 lo5 fs6 K2 Kp7 q8
  obtain ⟨x9, rfl, rfl, f10⟩ := q8
  have K11 := K2.to 5 20 [b]
  refine Owe.stk [(.ref x9)] ?_
  refine oAstore K11 103 (hb hby at_101) rfl (l' := #[.val (.int p0), .val (.int p1), .val (.int p2), .val (.int p3), .val (.int p4), .val (.int 3), .val (.int 2), .val (.ref b), .val (.ref x9), .unset]) rfl ?_
  refine oAload K11 105 (hb hby at_103) rfl rfl ?_
  refine oIload K11 107 (hb hby at_105) rfl ?_
  refine oIload K11 109 (hb hby at_107) rfl ?_
  refine oIconstV K11 110 (0 : Int32) (hb hby at_109) rfl ?_
  refine oStatic K11 113 0 (wq hw 33) (wq hw 34) (wq hw 4) (wq hw 35) (rmLA0_a l Z a0 z0 fm G b ((3 : Int32)) ((2 : Int32)) h3 K11.old K11.both (by decide)) [(.ref b), (.int 3), (.int 2), (.int 0)] [] (lenOf pd708 rfl) (hb hby at_110) ?_
  intro T12 h14 v15 lo16 fs17 K13 Kp18 q19
  obtain ⟨rfl, rfl⟩ := q19
  have K20 := K13.to 5 20 [b]
  refine Owe.stk [(.int 0)] ?_
  refine oIfYes K20 122 (hb hby at_113) (XT.i0_eq_t (by decide)) ?_
  refine oAload K20 124 (hb hby at_122) rfl rfl ?_
  refine oIload K20 126 (hb hby at_124) rfl ?_
  refine oIload K20 128 (hb hby at_126) rfl ?_
  refine oIconstV K20 129 (1 : Int32) (hb hby at_128) rfl ?_
  refine oStatic K20 132 0 (wq hw 33) (wq hw 34) (wq hw 4) (wq hw 35) (rmLA1_a l Z a0 z0 fm G b ((3 : Int32)) ((2 : Int32)) h14 K20.old K20.both (by decide)) [(.ref b), (.int 3), (.int 2), (.int 1)] [] (lenOf pd708 rfl) (hb hby at_129) ?_
  intro T21 h23 v24 lo25 fs26 K22 Kp27 q28
  obtain ⟨rfl, rfl⟩ := q28
  have K29 := K22.to 5 20 [b]
  refine Owe.stk [(.int 0)] ?_
  refine oIfYes K29 141 (hb hby at_132) (XT.i0_eq_t (by decide)) ?_
  refine oAload K29 143 (hb hby at_141) rfl rfl ?_
  refine oIload K29 145 (hb hby at_143) rfl ?_
  refine oIload K29 147 (hb hby at_145) rfl ?_
  refine oIconstV K29 148 (2 : Int32) (hb hby at_147) rfl ?_
  refine oStatic K29 151 0 (wq hw 33) (wq hw 34) (wq hw 4) (wq hw 35) (rmLA2_00 l Z a0 z0 fm G b ((3 : Int32)) ((2 : Int32)) c0 c1 c2 c3 h23 K29.old K29.both (((P0.keep Kp7 nin0).keep Kp18 nin0).keep Kp27 nin0) (by decide) (by decide) (by decide) (by decide)) [(.ref b), (.int 3), (.int 2), (.int 2)] [] (lenOf pd708 rfl) (hb hby at_148) ?_
  intro T30 h32 v33 lo34 fs35 K31 Kp36 q37
  rcases q37 with qq37_0 | qq37_1
  · obtain ⟨rfl, rfl, f38⟩ := qq37_0
    have K39 := K31.to 5 20 [b]
    refine Owe.stk [(.int 1)] ?_
    refine oIfNo K39 154 (hb hby at_151) (XT.i0_eq_f (by decide)) ?_
    refine oIconstV K39 155 (2 : Int32) (hb hby at_154) rfl ?_
    refine oIstore K39 157 (hb hby at_155) (l' := #[.val (.int p0), .val (.int p1), .val (.int p2), .val (.int p3), .val (.int p4), .val (.int 3), .val (.int 2), .val (.ref b), .val (.ref x9), .val (.int 2)]) rfl ?_
    refine oGoto K39 182 (hb hby at_157) ?_
    refine oAload K39 184 (hb hby at_182) rfl rfl ?_
    refine oIload K39 186 (hb hby at_184) rfl ?_
    refine oStatic K39 189 0 (wq hw 36) (wq hw 37) (wq hw 38) (wq hw 39) (rmLS3_2 l Z a0 z0 fm G x9 (h3.size) c0 c1 c2 h32 K39.old K39.both (((f10.keep Kp18 geN).keep Kp27 geN).keep Kp36 geN) P1 P2 P3 P4 P5 P6) [(.ref x9), (.int 2)] [] (lenOf pd709 rfl) (hb hby at_186) ?_
    intro T40 h42 v43 lo44 fs45 K41 Kp46 q47
    obtain ⟨r48, rfl, rfl, f49⟩ := q47
    have K50 := K41.to 5 20 [b]
    refine Owe.stk [(.int r48)] ?_
    refine oIload K50 191 (hb hby at_189) rfl ?_
    refine oIcmpNo K50 194 (hb hby at_191) (XT.ii_ne_f (own_fin3_2_2 f49 f38)) ?_
    refine oIconstV K50 195 (1 : Int32) (hb hby at_194) rfl ?_
    refine oGoto K50 199 (hb hby at_195) ?_
    exact oRetI K50 [] (t := .boolean) hret (by simp) (by decide) (hb hby at_199) (by decide) (by decide) hlk (fun x hx => by cases hx) ⟨rfl, rfl⟩
  · obtain ⟨rfl, rfl, f51⟩ := qq37_1
    have K52 := K31.to 5 20 [b]
    refine Owe.stk [(.int 0)] ?_
    refine oIfYes K52 160 (hb hby at_151) (XT.i0_eq_t (by decide)) ?_
    refine oAload K52 162 (hb hby at_160) rfl rfl ?_
    refine oIload K52 164 (hb hby at_162) rfl ?_
    refine oIload K52 166 (hb hby at_164) rfl ?_
    refine oIconstV K52 167 (3 : Int32) (hb hby at_166) rfl ?_
    refine oStatic K52 170 0 (wq hw 33) (wq hw 34) (wq hw 4) (wq hw 35) (rmLA3_b l Z a0 z0 fm G b ((3 : Int32)) ((2 : Int32)) h32 K52.old K52.both (by decide) (by decide)) [(.ref b), (.int 3), (.int 2), (.int 3)] [] (lenOf pd708 rfl) (hb hby at_167) ?_
    intro T53 h55 v56 lo57 fs58 K54 Kp59 q60
    obtain ⟨rfl, rfl⟩ := q60
    have K61 := K54.to 5 20 [b]
    refine Owe.stk [(.int 0)] ?_
    refine oIfYes K61 179 (hb hby at_170) (XT.i0_eq_t (by decide)) ?_
    refine oIconstV K61 180 (-1 : Int32) (hb hby at_179) rfl ?_
    refine oIstore K61 182 (hb hby at_180) (l' := #[.val (.int p0), .val (.int p1), .val (.int p2), .val (.int p3), .val (.int p4), .val (.int 3), .val (.int 2), .val (.ref b), .val (.ref x9), .val (.int (-1))]) rfl ?_
    refine oAload K61 184 (hb hby at_182) rfl rfl ?_
    refine oIload K61 186 (hb hby at_184) rfl ?_
    refine oStatic K61 189 0 (wq hw 36) (wq hw 37) (wq hw 38) (wq hw 39) (rmLS3_2 l Z a0 z0 fm G x9 (h3.size) c0 c1 c2 h55 K61.old K61.both ((((f10.keep Kp18 geN).keep Kp27 geN).keep Kp36 geN).keep Kp59 geN) P1 P2 P3 P4 P5 P6) [(.ref x9), (.int 2)] [] (lenOf pd709 rfl) (hb hby at_186) ?_
    intro T62 h64 v65 lo66 fs67 K63 Kp68 q69
    obtain ⟨r70, rfl, rfl, f71⟩ := q69
    have K72 := K63.to 5 20 [b]
    refine Owe.stk [(.int r70)] ?_
    refine oIload K72 191 (hb hby at_189) rfl ?_
    refine oIcmpNo K72 194 (hb hby at_191) (XT.ii_ne_f (own_fin3_2_m f71 f51)) ?_
    refine oIconstV K72 195 (1 : Int32) (hb hby at_194) rfl ?_
    refine oGoto K72 199 (hb hby at_195) ?_
    exact oRetI K72 [] (t := .boolean) hret (by simp) (by decide) (hb hby at_199) (by decide) (by decide) hlk (fun x hx => by cases hx) ⟨rfl, rfl⟩
theorem own_fin3_3_m {r  : Int32} (hr : r.toInt = scan [] 3) : r = (-1 : Int32) := by
  refine Int32.toInt_inj.mp (hr.trans ?_)
  have e : (-1 : Int32).toInt = -1 := by decide
  rw [e]
  simp only [scan, hiI, loI] at *
  repeat' split
  all_goals omega
theorem sgT3_3 (G : Gl Z a0 z0 fm) (p0 p1 p2 p3 p4 : Int32) (b : Addr) (c0 c1 c2 c3 : Int32) (hby : c.code = code) (hret : meth.sig.returnType = ret) (hlk : meth.locks = false) (h0 : Heap)
    (K0 : Wk p l e room_1 s m #[(.int p0), (.int p1), (.int p2), (.int p3), (.int p4)] below meth c Z a0 ELs "com/example/mangrove/mangrove/Utf8TextLoneSurrogateAtPinLaw" maxLocals [] [b] T0 lo0 1 4 h0) (P0 : Ary Z h0 b .char [(.int c0), (.int c1), (.int c2), (.int c3)]) (P1 : ¬ c0 < (0 : Int32)) (P2 : ¬ (65535 : Int32) < c0) (P3 : ¬ c1 < (0 : Int32)) (P4 : ¬ (65535 : Int32) < c1) (P5 : ¬ c2 < (0 : Int32)) (P6 : ¬ (65535 : Int32) < c2) (P7 : ¬ c3 < (0 : Int32)) (P8 : ¬ (65535 : Int32) < c3) :
    Owe p e below (PostW Z ELs [] room_1 (fun v h fs => (fs = [] ∧ v = some (.int 1))) s) T0 (mkF m 94 #[.val (.int p0), .val (.int p1), .val (.int p2), .val (.int p3), .val (.int p4), .val (.int 3), .val (.int 3), .val (.ref b), .unset, .unset] []) := by
  obtain ⟨hw, hEL, wS, OS, hz0, OA, OH, OL, OF, rfm⟩ := id G
  refine oAload K0 96 (hb hby at_94) rfl rfl ?_
  refine oIload K0 98 (hb hby at_96) rfl ?_
  refine oStatic K0 101 0 (wq hw 9) (wq hw 10) (wq hw 4) (wq hw 11) (rmStr3 l Z a0 z0 fm G b c0 c1 c2 c3 h0 K0.old K0.both P0 P1 P2 P3 P4 P5 P6 P7 P8) [(.ref b), (.int 3)] [] (lenOf pd707 rfl) (hb hby at_98) ?_
  intro T1 h3 v4 lo5 fs6 K2 Kp7 q8
  obtain ⟨x9, rfl, rfl, f10⟩ := q8
  have K11 := K2.to 5 20 [b]
  refine Owe.stk [(.ref x9)] ?_
  refine oAstore K11 103 (hb hby at_101) rfl (l' := #[.val (.int p0), .val (.int p1), .val (.int p2), .val (.int p3), .val (.int p4), .val (.int 3), .val (.int 3), .val (.ref b), .val (.ref x9), .unset]) rfl ?_
  refine oAload K11 105 (hb hby at_103) rfl rfl ?_
  refine oIload K11 107 (hb hby at_105) rfl ?_
  refine oIload K11 109 (hb hby at_107) rfl ?_
  refine oIconstV K11 110 (0 : Int32) (hb hby at_109) rfl ?_
  refine oStatic K11 113 0 (wq hw 33) (wq hw 34) (wq hw 4) (wq hw 35) (rmLA0_a l Z a0 z0 fm G b ((3 : Int32)) ((3 : Int32)) h3 K11.old K11.both (by decide)) [(.ref b), (.int 3), (.int 3), (.int 0)] [] (lenOf pd708 rfl) (hb hby at_110) ?_
  intro T12 h14 v15 lo16 fs17 K13 Kp18 q19
  obtain ⟨rfl, rfl⟩ := q19
  have K20 := K13.to 5 20 [b]
  refine Owe.stk [(.int 0)] ?_
  refine oIfYes K20 122 (hb hby at_113) (XT.i0_eq_t (by decide)) ?_
  refine oAload K20 124 (hb hby at_122) rfl rfl ?_
  refine oIload K20 126 (hb hby at_124) rfl ?_
  refine oIload K20 128 (hb hby at_126) rfl ?_
  refine oIconstV K20 129 (1 : Int32) (hb hby at_128) rfl ?_
  refine oStatic K20 132 0 (wq hw 33) (wq hw 34) (wq hw 4) (wq hw 35) (rmLA1_a l Z a0 z0 fm G b ((3 : Int32)) ((3 : Int32)) h14 K20.old K20.both (by decide)) [(.ref b), (.int 3), (.int 3), (.int 1)] [] (lenOf pd708 rfl) (hb hby at_129) ?_
  intro T21 h23 v24 lo25 fs26 K22 Kp27 q28
  obtain ⟨rfl, rfl⟩ := q28
  have K29 := K22.to 5 20 [b]
  refine Owe.stk [(.int 0)] ?_
  refine oIfYes K29 141 (hb hby at_132) (XT.i0_eq_t (by decide)) ?_
  refine oAload K29 143 (hb hby at_141) rfl rfl ?_
  refine oIload K29 145 (hb hby at_143) rfl ?_
  refine oIload K29 147 (hb hby at_145) rfl ?_
  refine oIconstV K29 148 (2 : Int32) (hb hby at_147) rfl ?_
  refine oStatic K29 151 0 (wq hw 33) (wq hw 34) (wq hw 4) (wq hw 35) (rmLA2_a l Z a0 z0 fm G b ((3 : Int32)) ((3 : Int32)) h23 K29.old K29.both (by decide)) [(.ref b), (.int 3), (.int 3), (.int 2)] [] (lenOf pd708 rfl) (hb hby at_148) ?_
  intro T30 h32 v33 lo34 fs35 K31 Kp36 q37
  obtain ⟨rfl, rfl⟩ := q37
  have K38 := K31.to 5 20 [b]
  refine Owe.stk [(.int 0)] ?_
  refine oIfYes K38 160 (hb hby at_151) (XT.i0_eq_t (by decide)) ?_
  refine oAload K38 162 (hb hby at_160) rfl rfl ?_
  refine oIload K38 164 (hb hby at_162) rfl ?_
  refine oIload K38 166 (hb hby at_164) rfl ?_
  refine oIconstV K38 167 (3 : Int32) (hb hby at_166) rfl ?_
  refine oStatic K38 170 0 (wq hw 33) (wq hw 34) (wq hw 4) (wq hw 35) (rmLA3_b l Z a0 z0 fm G b ((3 : Int32)) ((3 : Int32)) h32 K38.old K38.both (by decide) (by decide)) [(.ref b), (.int 3), (.int 3), (.int 3)] [] (lenOf pd708 rfl) (hb hby at_167) ?_
  intro T39 h41 v42 lo43 fs44 K40 Kp45 q46
  obtain ⟨rfl, rfl⟩ := q46
  have K47 := K40.to 5 20 [b]
  refine Owe.stk [(.int 0)] ?_
  refine oIfYes K47 179 (hb hby at_170) (XT.i0_eq_t (by decide)) ?_
  refine oIconstV K47 180 (-1 : Int32) (hb hby at_179) rfl ?_
  refine oIstore K47 182 (hb hby at_180) (l' := #[.val (.int p0), .val (.int p1), .val (.int p2), .val (.int p3), .val (.int p4), .val (.int 3), .val (.int 3), .val (.ref b), .val (.ref x9), .val (.int (-1))]) rfl ?_
  refine oAload K47 184 (hb hby at_182) rfl rfl ?_
  refine oIload K47 186 (hb hby at_184) rfl ?_
  refine oStatic K47 189 0 (wq hw 36) (wq hw 37) (wq hw 38) (wq hw 39) (rmLS3_3 l Z a0 z0 fm G x9 (h3.size) c0 c1 c2 h41 K47.old K47.both ((((f10.keep Kp18 geN).keep Kp27 geN).keep Kp36 geN).keep Kp45 geN) P1 P2 P3 P4 P5 P6) [(.ref x9), (.int 3)] [] (lenOf pd709 rfl) (hb hby at_186) ?_
  intro T48 h50 v51 lo52 fs53 K49 Kp54 q55
  obtain ⟨r56, rfl, rfl, f57⟩ := q55
  have K58 := K49.to 5 20 [b]
  refine Owe.stk [(.int r56)] ?_
  refine oIload K58 191 (hb hby at_189) rfl ?_
  refine oIcmpNo K58 194 (hb hby at_191) (XT.ii_ne_f (own_fin3_3_m f57 )) ?_
  refine oIconstV K58 195 (1 : Int32) (hb hby at_194) rfl ?_
  refine oGoto K58 199 (hb hby at_195) ?_
  exact oRetI K58 [] (t := .boolean) hret (by simp) (by decide) (hb hby at_199) (by decide) (by decide) hlk (fun x hx => by cases hx) ⟨rfl, rfl⟩
theorem own_fin4_0_0 {r c0 c1 c2 c3 : Int32} (hr : r.toInt = scan [c0, c1, c2, c3] 0) (q0 : ((hiI c0 ∧ ¬ loI c1) ∨ loI c0)) : r = (0 : Int32) := by
  refine Int32.toInt_inj.mp (hr.trans ?_)
  have e : (0 : Int32).toInt = 0 := by decide
  rw [e]
  simp only [scan, hiI, loI] at *
  repeat' split
  all_goals omega
theorem own_fin4_0_1 {r c0 c1 c2 c3 : Int32} (hr : r.toInt = scan [c0, c1, c2, c3] 0) (q0 : ¬ ((hiI c0 ∧ ¬ loI c1) ∨ loI c0)) (q1 : ((hiI c1 ∧ ¬ loI c2) ∨ (loI c1 ∧ ¬ hiI c0))) : r = (1 : Int32) := by
  refine Int32.toInt_inj.mp (hr.trans ?_)
  have e : (1 : Int32).toInt = 1 := by decide
  rw [e]
  simp only [scan, hiI, loI] at *
  repeat' split
  all_goals omega
theorem own_fin4_0_2 {r c0 c1 c2 c3 : Int32} (hr : r.toInt = scan [c0, c1, c2, c3] 0) (q0 : ¬ ((hiI c0 ∧ ¬ loI c1) ∨ loI c0)) (q1 : ¬ ((hiI c1 ∧ ¬ loI c2) ∨ (loI c1 ∧ ¬ hiI c0))) (q2 : ((hiI c2 ∧ ¬ loI c3) ∨ (loI c2 ∧ ¬ hiI c1))) : r = (2 : Int32) := by
  refine Int32.toInt_inj.mp (hr.trans ?_)
  have e : (2 : Int32).toInt = 2 := by decide
  rw [e]
  simp only [scan, hiI, loI] at *
  repeat' split
  all_goals omega
theorem own_fin4_0_3 {r c0 c1 c2 c3 : Int32} (hr : r.toInt = scan [c0, c1, c2, c3] 0) (q0 : ¬ ((hiI c0 ∧ ¬ loI c1) ∨ loI c0)) (q1 : ¬ ((hiI c1 ∧ ¬ loI c2) ∨ (loI c1 ∧ ¬ hiI c0))) (q2 : ¬ ((hiI c2 ∧ ¬ loI c3) ∨ (loI c2 ∧ ¬ hiI c1))) (q3 : (hiI c3 ∨ (loI c3 ∧ ¬ hiI c2))) : r = (3 : Int32) := by
  refine Int32.toInt_inj.mp (hr.trans ?_)
  have e : (3 : Int32).toInt = 3 := by decide
  rw [e]
  simp only [scan, hiI, loI] at *
  repeat' split
  all_goals omega
theorem own_fin4_0_m {r c0 c1 c2 c3 : Int32} (hr : r.toInt = scan [c0, c1, c2, c3] 0) (q0 : ¬ ((hiI c0 ∧ ¬ loI c1) ∨ loI c0)) (q1 : ¬ ((hiI c1 ∧ ¬ loI c2) ∨ (loI c1 ∧ ¬ hiI c0))) (q2 : ¬ ((hiI c2 ∧ ¬ loI c3) ∨ (loI c2 ∧ ¬ hiI c1))) (q3 : ¬ (hiI c3 ∨ (loI c3 ∧ ¬ hiI c2))) : r = (-1 : Int32) := by
  refine Int32.toInt_inj.mp (hr.trans ?_)
  have e : (-1 : Int32).toInt = -1 := by decide
  rw [e]
  simp only [scan, hiI, loI] at *
  repeat' split
  all_goals omega
theorem sgT4_0 (G : Gl Z a0 z0 fm) (p0 p1 p2 p3 p4 : Int32) (b : Addr) (c0 c1 c2 c3 : Int32) (hby : c.code = code) (hret : meth.sig.returnType = ret) (hlk : meth.locks = false) (h0 : Heap)
    (K0 : Wk p l e room_1 s m #[(.int p0), (.int p1), (.int p2), (.int p3), (.int p4)] below meth c Z a0 ELs "com/example/mangrove/mangrove/Utf8TextLoneSurrogateAtPinLaw" maxLocals [] [b] T0 lo0 1 4 h0) (P0 : Ary Z h0 b .char [(.int c0), (.int c1), (.int c2), (.int c3)]) (P1 : ¬ c0 < (0 : Int32)) (P2 : ¬ (65535 : Int32) < c0) (P3 : ¬ c1 < (0 : Int32)) (P4 : ¬ (65535 : Int32) < c1) (P5 : ¬ c2 < (0 : Int32)) (P6 : ¬ (65535 : Int32) < c2) (P7 : ¬ c3 < (0 : Int32)) (P8 : ¬ (65535 : Int32) < c3) :
    Owe p e below (PostW Z ELs [] room_1 (fun v h fs => (fs = [] ∧ v = some (.int 1))) s) T0 (mkF m 94 #[.val (.int p0), .val (.int p1), .val (.int p2), .val (.int p3), .val (.int p4), .val (.int 4), .val (.int 0), .val (.ref b), .unset, .unset] []) := by
  obtain ⟨hw, hEL, wS, OS, hz0, OA, OH, OL, OF, rfm⟩ := id G
  refine oAload K0 96 (hb hby at_94) rfl rfl ?_
  refine oIload K0 98 (hb hby at_96) rfl ?_
  refine oStatic K0 101 0 (wq hw 9) (wq hw 10) (wq hw 4) (wq hw 11) (rmStr4 l Z a0 z0 fm G b c0 c1 c2 c3 h0 K0.old K0.both P0 P1 P2 P3 P4 P5 P6 P7 P8) [(.ref b), (.int 4)] [] (lenOf pd707 rfl) (hb hby at_98) ?_
  intro T1 h3 v4 lo5 fs6 K2 Kp7 q8
  obtain ⟨x9, rfl, rfl, f10⟩ := q8
  have K11 := K2.to 5 24 [b]
  refine Owe.stk [(.ref x9)] ?_
  refine oAstore K11 103 (hb hby at_101) rfl (l' := #[.val (.int p0), .val (.int p1), .val (.int p2), .val (.int p3), .val (.int p4), .val (.int 4), .val (.int 0), .val (.ref b), .val (.ref x9), .unset]) rfl ?_
  refine oAload K11 105 (hb hby at_103) rfl rfl ?_
  refine oIload K11 107 (hb hby at_105) rfl ?_
  refine oIload K11 109 (hb hby at_107) rfl ?_
  refine oIconstV K11 110 (0 : Int32) (hb hby at_109) rfl ?_
  refine oStatic K11 113 0 (wq hw 33) (wq hw 34) (wq hw 4) (wq hw 35) (rmLA0_10 l Z a0 z0 fm G b ((4 : Int32)) ((0 : Int32)) c0 c1 c2 c3 h3 K11.old K11.both (P0.keep Kp7 nin0) (by decide) (by decide) (by decide) (by decide)) [(.ref b), (.int 4), (.int 0), (.int 0)] [] (lenOf pd708 rfl) (hb hby at_110) ?_
  intro T12 h14 v15 lo16 fs17 K13 Kp18 q19
  rcases q19 with qq19_0 | qq19_1
  · obtain ⟨rfl, rfl, f20⟩ := qq19_0
    have K21 := K13.to 5 24 [b]
    refine Owe.stk [(.int 1)] ?_
    refine oIfNo K21 116 (hb hby at_113) (XT.i0_eq_f (by decide)) ?_
    refine oIconstV K21 117 (0 : Int32) (hb hby at_116) rfl ?_
    refine oIstore K21 119 (hb hby at_117) (l' := #[.val (.int p0), .val (.int p1), .val (.int p2), .val (.int p3), .val (.int p4), .val (.int 4), .val (.int 0), .val (.ref b), .val (.ref x9), .val (.int 0)]) rfl ?_
    refine oGoto K21 182 (hb hby at_119) ?_
    refine oAload K21 184 (hb hby at_182) rfl rfl ?_
    refine oIload K21 186 (hb hby at_184) rfl ?_
    refine oStatic K21 189 0 (wq hw 36) (wq hw 37) (wq hw 38) (wq hw 39) (rmLS4_0 l Z a0 z0 fm G x9 (h3.size) c0 c1 c2 c3 h14 K21.old K21.both (f10.keep Kp18 geN) P1 P2 P3 P4 P5 P6 P7 P8) [(.ref x9), (.int 0)] [] (lenOf pd709 rfl) (hb hby at_186) ?_
    intro T22 h24 v25 lo26 fs27 K23 Kp28 q29
    obtain ⟨r30, rfl, rfl, f31⟩ := q29
    have K32 := K23.to 5 24 [b]
    refine Owe.stk [(.int r30)] ?_
    refine oIload K32 191 (hb hby at_189) rfl ?_
    refine oIcmpNo K32 194 (hb hby at_191) (XT.ii_ne_f (own_fin4_0_0 f31 f20)) ?_
    refine oIconstV K32 195 (1 : Int32) (hb hby at_194) rfl ?_
    refine oGoto K32 199 (hb hby at_195) ?_
    exact oRetI K32 [] (t := .boolean) hret (by simp) (by decide) (hb hby at_199) (by decide) (by decide) hlk (fun x hx => by cases hx) ⟨rfl, rfl⟩
  · obtain ⟨rfl, rfl, f33⟩ := qq19_1
    have K34 := K13.to 5 24 [b]
    refine Owe.stk [(.int 0)] ?_
    refine oIfYes K34 122 (hb hby at_113) (XT.i0_eq_t (by decide)) ?_
    refine oAload K34 124 (hb hby at_122) rfl rfl ?_
    refine oIload K34 126 (hb hby at_124) rfl ?_
    refine oIload K34 128 (hb hby at_126) rfl ?_
    refine oIconstV K34 129 (1 : Int32) (hb hby at_128) rfl ?_
    refine oStatic K34 132 0 (wq hw 33) (wq hw 34) (wq hw 4) (wq hw 35) (rmLA1_11 l Z a0 z0 fm G b ((4 : Int32)) ((0 : Int32)) c0 c1 c2 c3 h14 K34.old K34.both ((P0.keep Kp7 nin0).keep Kp18 nin0) (by decide) (by decide) (by decide) (by decide)) [(.ref b), (.int 4), (.int 0), (.int 1)] [] (lenOf pd708 rfl) (hb hby at_129) ?_
    intro T35 h37 v38 lo39 fs40 K36 Kp41 q42
    rcases q42 with qq42_0 | qq42_1
    · obtain ⟨rfl, rfl, f43⟩ := qq42_0
      have K44 := K36.to 5 24 [b]
      refine Owe.stk [(.int 1)] ?_
      refine oIfNo K44 135 (hb hby at_132) (XT.i0_eq_f (by decide)) ?_
      refine oIconstV K44 136 (1 : Int32) (hb hby at_135) rfl ?_
      refine oIstore K44 138 (hb hby at_136) (l' := #[.val (.int p0), .val (.int p1), .val (.int p2), .val (.int p3), .val (.int p4), .val (.int 4), .val (.int 0), .val (.ref b), .val (.ref x9), .val (.int 1)]) rfl ?_
      refine oGoto K44 182 (hb hby at_138) ?_
      refine oAload K44 184 (hb hby at_182) rfl rfl ?_
      refine oIload K44 186 (hb hby at_184) rfl ?_
      refine oStatic K44 189 0 (wq hw 36) (wq hw 37) (wq hw 38) (wq hw 39) (rmLS4_0 l Z a0 z0 fm G x9 (h3.size) c0 c1 c2 c3 h37 K44.old K44.both ((f10.keep Kp18 geN).keep Kp41 geN) P1 P2 P3 P4 P5 P6 P7 P8) [(.ref x9), (.int 0)] [] (lenOf pd709 rfl) (hb hby at_186) ?_
      intro T45 h47 v48 lo49 fs50 K46 Kp51 q52
      obtain ⟨r53, rfl, rfl, f54⟩ := q52
      have K55 := K46.to 5 24 [b]
      refine Owe.stk [(.int r53)] ?_
      refine oIload K55 191 (hb hby at_189) rfl ?_
      refine oIcmpNo K55 194 (hb hby at_191) (XT.ii_ne_f (own_fin4_0_1 f54 f33 f43)) ?_
      refine oIconstV K55 195 (1 : Int32) (hb hby at_194) rfl ?_
      refine oGoto K55 199 (hb hby at_195) ?_
      exact oRetI K55 [] (t := .boolean) hret (by simp) (by decide) (hb hby at_199) (by decide) (by decide) hlk (fun x hx => by cases hx) ⟨rfl, rfl⟩
    · obtain ⟨rfl, rfl, f56⟩ := qq42_1
      have K57 := K36.to 5 24 [b]
      refine Owe.stk [(.int 0)] ?_
      refine oIfYes K57 141 (hb hby at_132) (XT.i0_eq_t (by decide)) ?_
      refine oAload K57 143 (hb hby at_141) rfl rfl ?_
      refine oIload K57 145 (hb hby at_143) rfl ?_
      refine oIload K57 147 (hb hby at_145) rfl ?_
      refine oIconstV K57 148 (2 : Int32) (hb hby at_147) rfl ?_
      refine oStatic K57 151 0 (wq hw 33) (wq hw 34) (wq hw 4) (wq hw 35) (rmLA2_11 l Z a0 z0 fm G b ((4 : Int32)) ((0 : Int32)) c0 c1 c2 c3 h37 K57.old K57.both (((P0.keep Kp7 nin0).keep Kp18 nin0).keep Kp41 nin0) (by decide) (by decide) (by decide) (by decide)) [(.ref b), (.int 4), (.int 0), (.int 2)] [] (lenOf pd708 rfl) (hb hby at_148) ?_
      intro T58 h60 v61 lo62 fs63 K59 Kp64 q65
      rcases q65 with qq65_0 | qq65_1
      · obtain ⟨rfl, rfl, f66⟩ := qq65_0
        have K67 := K59.to 5 24 [b]
        refine Owe.stk [(.int 1)] ?_
        refine oIfNo K67 154 (hb hby at_151) (XT.i0_eq_f (by decide)) ?_
        refine oIconstV K67 155 (2 : Int32) (hb hby at_154) rfl ?_
        refine oIstore K67 157 (hb hby at_155) (l' := #[.val (.int p0), .val (.int p1), .val (.int p2), .val (.int p3), .val (.int p4), .val (.int 4), .val (.int 0), .val (.ref b), .val (.ref x9), .val (.int 2)]) rfl ?_
        refine oGoto K67 182 (hb hby at_157) ?_
        refine oAload K67 184 (hb hby at_182) rfl rfl ?_
        refine oIload K67 186 (hb hby at_184) rfl ?_
        refine oStatic K67 189 0 (wq hw 36) (wq hw 37) (wq hw 38) (wq hw 39) (rmLS4_0 l Z a0 z0 fm G x9 (h3.size) c0 c1 c2 c3 h60 K67.old K67.both (((f10.keep Kp18 geN).keep Kp41 geN).keep Kp64 geN) P1 P2 P3 P4 P5 P6 P7 P8) [(.ref x9), (.int 0)] [] (lenOf pd709 rfl) (hb hby at_186) ?_
        intro T68 h70 v71 lo72 fs73 K69 Kp74 q75
        obtain ⟨r76, rfl, rfl, f77⟩ := q75
        have K78 := K69.to 5 24 [b]
        refine Owe.stk [(.int r76)] ?_
        refine oIload K78 191 (hb hby at_189) rfl ?_
        refine oIcmpNo K78 194 (hb hby at_191) (XT.ii_ne_f (own_fin4_0_2 f77 f33 f56 f66)) ?_
        refine oIconstV K78 195 (1 : Int32) (hb hby at_194) rfl ?_
        refine oGoto K78 199 (hb hby at_195) ?_
        exact oRetI K78 [] (t := .boolean) hret (by simp) (by decide) (hb hby at_199) (by decide) (by decide) hlk (fun x hx => by cases hx) ⟨rfl, rfl⟩
      · obtain ⟨rfl, rfl, f79⟩ := qq65_1
        have K80 := K59.to 5 24 [b]
        refine Owe.stk [(.int 0)] ?_
        refine oIfYes K80 160 (hb hby at_151) (XT.i0_eq_t (by decide)) ?_
        refine oAload K80 162 (hb hby at_160) rfl rfl ?_
        refine oIload K80 164 (hb hby at_162) rfl ?_
        refine oIload K80 166 (hb hby at_164) rfl ?_
        refine oIconstV K80 167 (3 : Int32) (hb hby at_166) rfl ?_
        refine oStatic K80 170 0 (wq hw 33) (wq hw 34) (wq hw 4) (wq hw 35) (rmLA3_01 l Z a0 z0 fm G b ((4 : Int32)) ((0 : Int32)) c0 c1 c2 c3 h60 K80.old K80.both ((((P0.keep Kp7 nin0).keep Kp18 nin0).keep Kp41 nin0).keep Kp64 nin0) (by decide) (by decide) (by decide) (by decide)) [(.ref b), (.int 4), (.int 0), (.int 3)] [] (lenOf pd708 rfl) (hb hby at_167) ?_
        intro T81 h83 v84 lo85 fs86 K82 Kp87 q88
        rcases q88 with qq88_0 | qq88_1
        · obtain ⟨rfl, rfl, f89⟩ := qq88_0
          have K90 := K82.to 5 24 [b]
          refine Owe.stk [(.int 1)] ?_
          refine oIfNo K90 173 (hb hby at_170) (XT.i0_eq_f (by decide)) ?_
          refine oIconstV K90 174 (3 : Int32) (hb hby at_173) rfl ?_
          refine oIstore K90 176 (hb hby at_174) (l' := #[.val (.int p0), .val (.int p1), .val (.int p2), .val (.int p3), .val (.int p4), .val (.int 4), .val (.int 0), .val (.ref b), .val (.ref x9), .val (.int 3)]) rfl ?_
          refine oGoto K90 182 (hb hby at_176) ?_
          refine oAload K90 184 (hb hby at_182) rfl rfl ?_
          refine oIload K90 186 (hb hby at_184) rfl ?_
          refine oStatic K90 189 0 (wq hw 36) (wq hw 37) (wq hw 38) (wq hw 39) (rmLS4_0 l Z a0 z0 fm G x9 (h3.size) c0 c1 c2 c3 h83 K90.old K90.both ((((f10.keep Kp18 geN).keep Kp41 geN).keep Kp64 geN).keep Kp87 geN) P1 P2 P3 P4 P5 P6 P7 P8) [(.ref x9), (.int 0)] [] (lenOf pd709 rfl) (hb hby at_186) ?_
          intro T91 h93 v94 lo95 fs96 K92 Kp97 q98
          obtain ⟨r99, rfl, rfl, f100⟩ := q98
          have K101 := K92.to 5 24 [b]
          refine Owe.stk [(.int r99)] ?_
          refine oIload K101 191 (hb hby at_189) rfl ?_
          refine oIcmpNo K101 194 (hb hby at_191) (XT.ii_ne_f (own_fin4_0_3 f100 f33 f56 f79 f89)) ?_
          refine oIconstV K101 195 (1 : Int32) (hb hby at_194) rfl ?_
          refine oGoto K101 199 (hb hby at_195) ?_
          exact oRetI K101 [] (t := .boolean) hret (by simp) (by decide) (hb hby at_199) (by decide) (by decide) hlk (fun x hx => by cases hx) ⟨rfl, rfl⟩
        · obtain ⟨rfl, rfl, f102⟩ := qq88_1
          have K103 := K82.to 5 24 [b]
          refine Owe.stk [(.int 0)] ?_
          refine oIfYes K103 179 (hb hby at_170) (XT.i0_eq_t (by decide)) ?_
          refine oIconstV K103 180 (-1 : Int32) (hb hby at_179) rfl ?_
          refine oIstore K103 182 (hb hby at_180) (l' := #[.val (.int p0), .val (.int p1), .val (.int p2), .val (.int p3), .val (.int p4), .val (.int 4), .val (.int 0), .val (.ref b), .val (.ref x9), .val (.int (-1))]) rfl ?_
          refine oAload K103 184 (hb hby at_182) rfl rfl ?_
          refine oIload K103 186 (hb hby at_184) rfl ?_
          refine oStatic K103 189 0 (wq hw 36) (wq hw 37) (wq hw 38) (wq hw 39) (rmLS4_0 l Z a0 z0 fm G x9 (h3.size) c0 c1 c2 c3 h83 K103.old K103.both ((((f10.keep Kp18 geN).keep Kp41 geN).keep Kp64 geN).keep Kp87 geN) P1 P2 P3 P4 P5 P6 P7 P8) [(.ref x9), (.int 0)] [] (lenOf pd709 rfl) (hb hby at_186) ?_
          intro T104 h106 v107 lo108 fs109 K105 Kp110 q111
          obtain ⟨r112, rfl, rfl, f113⟩ := q111
          have K114 := K105.to 5 24 [b]
          refine Owe.stk [(.int r112)] ?_
          refine oIload K114 191 (hb hby at_189) rfl ?_
          refine oIcmpNo K114 194 (hb hby at_191) (XT.ii_ne_f (own_fin4_0_m f113 f33 f56 f79 f102)) ?_
          refine oIconstV K114 195 (1 : Int32) (hb hby at_194) rfl ?_
          refine oGoto K114 199 (hb hby at_195) ?_
          exact oRetI K114 [] (t := .boolean) hret (by simp) (by decide) (hb hby at_199) (by decide) (by decide) hlk (fun x hx => by cases hx) ⟨rfl, rfl⟩
theorem own_fin4_1_1 {r c1 c2 c3 : Int32} (hr : r.toInt = scan [c1, c2, c3] 1) (q0 : ((hiI c1 ∧ ¬ loI c2) ∨ loI c1)) : r = (1 : Int32) := by
  refine Int32.toInt_inj.mp (hr.trans ?_)
  have e : (1 : Int32).toInt = 1 := by decide
  rw [e]
  simp only [scan, hiI, loI] at *
  repeat' split
  all_goals omega
theorem own_fin4_1_2 {r c1 c2 c3 : Int32} (hr : r.toInt = scan [c1, c2, c3] 1) (q0 : ¬ ((hiI c1 ∧ ¬ loI c2) ∨ loI c1)) (q1 : ((hiI c2 ∧ ¬ loI c3) ∨ (loI c2 ∧ ¬ hiI c1))) : r = (2 : Int32) := by
  refine Int32.toInt_inj.mp (hr.trans ?_)
  have e : (2 : Int32).toInt = 2 := by decide
  rw [e]
  simp only [scan, hiI, loI] at *
  repeat' split
  all_goals omega
theorem own_fin4_1_3 {r c1 c2 c3 : Int32} (hr : r.toInt = scan [c1, c2, c3] 1) (q0 : ¬ ((hiI c1 ∧ ¬ loI c2) ∨ loI c1)) (q1 : ¬ ((hiI c2 ∧ ¬ loI c3) ∨ (loI c2 ∧ ¬ hiI c1))) (q2 : (hiI c3 ∨ (loI c3 ∧ ¬ hiI c2))) : r = (3 : Int32) := by
  refine Int32.toInt_inj.mp (hr.trans ?_)
  have e : (3 : Int32).toInt = 3 := by decide
  rw [e]
  simp only [scan, hiI, loI] at *
  repeat' split
  all_goals omega
theorem own_fin4_1_m {r c1 c2 c3 : Int32} (hr : r.toInt = scan [c1, c2, c3] 1) (q0 : ¬ ((hiI c1 ∧ ¬ loI c2) ∨ loI c1)) (q1 : ¬ ((hiI c2 ∧ ¬ loI c3) ∨ (loI c2 ∧ ¬ hiI c1))) (q2 : ¬ (hiI c3 ∨ (loI c3 ∧ ¬ hiI c2))) : r = (-1 : Int32) := by
  refine Int32.toInt_inj.mp (hr.trans ?_)
  have e : (-1 : Int32).toInt = -1 := by decide
  rw [e]
  simp only [scan, hiI, loI] at *
  repeat' split
  all_goals omega
theorem sgT4_1 (G : Gl Z a0 z0 fm) (p0 p1 p2 p3 p4 : Int32) (b : Addr) (c0 c1 c2 c3 : Int32) (hby : c.code = code) (hret : meth.sig.returnType = ret) (hlk : meth.locks = false) (h0 : Heap)
    (K0 : Wk p l e room_1 s m #[(.int p0), (.int p1), (.int p2), (.int p3), (.int p4)] below meth c Z a0 ELs "com/example/mangrove/mangrove/Utf8TextLoneSurrogateAtPinLaw" maxLocals [] [b] T0 lo0 1 4 h0) (P0 : Ary Z h0 b .char [(.int c0), (.int c1), (.int c2), (.int c3)]) (P1 : ¬ c0 < (0 : Int32)) (P2 : ¬ (65535 : Int32) < c0) (P3 : ¬ c1 < (0 : Int32)) (P4 : ¬ (65535 : Int32) < c1) (P5 : ¬ c2 < (0 : Int32)) (P6 : ¬ (65535 : Int32) < c2) (P7 : ¬ c3 < (0 : Int32)) (P8 : ¬ (65535 : Int32) < c3) :
    Owe p e below (PostW Z ELs [] room_1 (fun v h fs => (fs = [] ∧ v = some (.int 1))) s) T0 (mkF m 94 #[.val (.int p0), .val (.int p1), .val (.int p2), .val (.int p3), .val (.int p4), .val (.int 4), .val (.int 1), .val (.ref b), .unset, .unset] []) := by
  obtain ⟨hw, hEL, wS, OS, hz0, OA, OH, OL, OF, rfm⟩ := id G
  refine oAload K0 96 (hb hby at_94) rfl rfl ?_
  refine oIload K0 98 (hb hby at_96) rfl ?_
  refine oStatic K0 101 0 (wq hw 9) (wq hw 10) (wq hw 4) (wq hw 11) (rmStr4 l Z a0 z0 fm G b c0 c1 c2 c3 h0 K0.old K0.both P0 P1 P2 P3 P4 P5 P6 P7 P8) [(.ref b), (.int 4)] [] (lenOf pd707 rfl) (hb hby at_98) ?_
  intro T1 h3 v4 lo5 fs6 K2 Kp7 q8
  obtain ⟨x9, rfl, rfl, f10⟩ := q8
  have K11 := K2.to 5 24 [b]
  refine Owe.stk [(.ref x9)] ?_
  refine oAstore K11 103 (hb hby at_101) rfl (l' := #[.val (.int p0), .val (.int p1), .val (.int p2), .val (.int p3), .val (.int p4), .val (.int 4), .val (.int 1), .val (.ref b), .val (.ref x9), .unset]) rfl ?_
  refine oAload K11 105 (hb hby at_103) rfl rfl ?_
  refine oIload K11 107 (hb hby at_105) rfl ?_
  refine oIload K11 109 (hb hby at_107) rfl ?_
  refine oIconstV K11 110 (0 : Int32) (hb hby at_109) rfl ?_
  refine oStatic K11 113 0 (wq hw 33) (wq hw 34) (wq hw 4) (wq hw 35) (rmLA0_a l Z a0 z0 fm G b ((4 : Int32)) ((1 : Int32)) h3 K11.old K11.both (by decide)) [(.ref b), (.int 4), (.int 1), (.int 0)] [] (lenOf pd708 rfl) (hb hby at_110) ?_
  intro T12 h14 v15 lo16 fs17 K13 Kp18 q19
  obtain ⟨rfl, rfl⟩ := q19
  have K20 := K13.to 5 24 [b]
  refine Owe.stk [(.int 0)] ?_
  refine oIfYes K20 122 (hb hby at_113) (XT.i0_eq_t (by decide)) ?_
  refine oAload K20 124 (hb hby at_122) rfl rfl ?_
  refine oIload K20 126 (hb hby at_124) rfl ?_
  refine oIload K20 128 (hb hby at_126) rfl ?_
  refine oIconstV K20 129 (1 : Int32) (hb hby at_128) rfl ?_
  refine oStatic K20 132 0 (wq hw 33) (wq hw 34) (wq hw 4) (wq hw 35) (rmLA1_10 l Z a0 z0 fm G b ((4 : Int32)) ((1 : Int32)) c0 c1 c2 c3 h14 K20.old K20.both ((P0.keep Kp7 nin0).keep Kp18 nin0) (by decide) (by decide) (by decide) (by decide)) [(.ref b), (.int 4), (.int 1), (.int 1)] [] (lenOf pd708 rfl) (hb hby at_129) ?_
  intro T21 h23 v24 lo25 fs26 K22 Kp27 q28
  rcases q28 with qq28_0 | qq28_1
  · obtain ⟨rfl, rfl, f29⟩ := qq28_0
    have K30 := K22.to 5 24 [b]
    refine Owe.stk [(.int 1)] ?_
    refine oIfNo K30 135 (hb hby at_132) (XT.i0_eq_f (by decide)) ?_
    refine oIconstV K30 136 (1 : Int32) (hb hby at_135) rfl ?_
    refine oIstore K30 138 (hb hby at_136) (l' := #[.val (.int p0), .val (.int p1), .val (.int p2), .val (.int p3), .val (.int p4), .val (.int 4), .val (.int 1), .val (.ref b), .val (.ref x9), .val (.int 1)]) rfl ?_
    refine oGoto K30 182 (hb hby at_138) ?_
    refine oAload K30 184 (hb hby at_182) rfl rfl ?_
    refine oIload K30 186 (hb hby at_184) rfl ?_
    refine oStatic K30 189 0 (wq hw 36) (wq hw 37) (wq hw 38) (wq hw 39) (rmLS4_1 l Z a0 z0 fm G x9 (h3.size) c0 c1 c2 c3 h23 K30.old K30.both ((f10.keep Kp18 geN).keep Kp27 geN) P1 P2 P3 P4 P5 P6 P7 P8) [(.ref x9), (.int 1)] [] (lenOf pd709 rfl) (hb hby at_186) ?_
    intro T31 h33 v34 lo35 fs36 K32 Kp37 q38
    obtain ⟨r39, rfl, rfl, f40⟩ := q38
    have K41 := K32.to 5 24 [b]
    refine Owe.stk [(.int r39)] ?_
    refine oIload K41 191 (hb hby at_189) rfl ?_
    refine oIcmpNo K41 194 (hb hby at_191) (XT.ii_ne_f (own_fin4_1_1 f40 f29)) ?_
    refine oIconstV K41 195 (1 : Int32) (hb hby at_194) rfl ?_
    refine oGoto K41 199 (hb hby at_195) ?_
    exact oRetI K41 [] (t := .boolean) hret (by simp) (by decide) (hb hby at_199) (by decide) (by decide) hlk (fun x hx => by cases hx) ⟨rfl, rfl⟩
  · obtain ⟨rfl, rfl, f42⟩ := qq28_1
    have K43 := K22.to 5 24 [b]
    refine Owe.stk [(.int 0)] ?_
    refine oIfYes K43 141 (hb hby at_132) (XT.i0_eq_t (by decide)) ?_
    refine oAload K43 143 (hb hby at_141) rfl rfl ?_
    refine oIload K43 145 (hb hby at_143) rfl ?_
    refine oIload K43 147 (hb hby at_145) rfl ?_
    refine oIconstV K43 148 (2 : Int32) (hb hby at_147) rfl ?_
    refine oStatic K43 151 0 (wq hw 33) (wq hw 34) (wq hw 4) (wq hw 35) (rmLA2_11 l Z a0 z0 fm G b ((4 : Int32)) ((1 : Int32)) c0 c1 c2 c3 h23 K43.old K43.both (((P0.keep Kp7 nin0).keep Kp18 nin0).keep Kp27 nin0) (by decide) (by decide) (by decide) (by decide)) [(.ref b), (.int 4), (.int 1), (.int 2)] [] (lenOf pd708 rfl) (hb hby at_148) ?_
    intro T44 h46 v47 lo48 fs49 K45 Kp50 q51
    rcases q51 with qq51_0 | qq51_1
    · obtain ⟨rfl, rfl, f52⟩ := qq51_0
      have K53 := K45.to 5 24 [b]
      refine Owe.stk [(.int 1)] ?_
      refine oIfNo K53 154 (hb hby at_151) (XT.i0_eq_f (by decide)) ?_
      refine oIconstV K53 155 (2 : Int32) (hb hby at_154) rfl ?_
      refine oIstore K53 157 (hb hby at_155) (l' := #[.val (.int p0), .val (.int p1), .val (.int p2), .val (.int p3), .val (.int p4), .val (.int 4), .val (.int 1), .val (.ref b), .val (.ref x9), .val (.int 2)]) rfl ?_
      refine oGoto K53 182 (hb hby at_157) ?_
      refine oAload K53 184 (hb hby at_182) rfl rfl ?_
      refine oIload K53 186 (hb hby at_184) rfl ?_
      refine oStatic K53 189 0 (wq hw 36) (wq hw 37) (wq hw 38) (wq hw 39) (rmLS4_1 l Z a0 z0 fm G x9 (h3.size) c0 c1 c2 c3 h46 K53.old K53.both (((f10.keep Kp18 geN).keep Kp27 geN).keep Kp50 geN) P1 P2 P3 P4 P5 P6 P7 P8) [(.ref x9), (.int 1)] [] (lenOf pd709 rfl) (hb hby at_186) ?_
      intro T54 h56 v57 lo58 fs59 K55 Kp60 q61
      obtain ⟨r62, rfl, rfl, f63⟩ := q61
      have K64 := K55.to 5 24 [b]
      refine Owe.stk [(.int r62)] ?_
      refine oIload K64 191 (hb hby at_189) rfl ?_
      refine oIcmpNo K64 194 (hb hby at_191) (XT.ii_ne_f (own_fin4_1_2 f63 f42 f52)) ?_
      refine oIconstV K64 195 (1 : Int32) (hb hby at_194) rfl ?_
      refine oGoto K64 199 (hb hby at_195) ?_
      exact oRetI K64 [] (t := .boolean) hret (by simp) (by decide) (hb hby at_199) (by decide) (by decide) hlk (fun x hx => by cases hx) ⟨rfl, rfl⟩
    · obtain ⟨rfl, rfl, f65⟩ := qq51_1
      have K66 := K45.to 5 24 [b]
      refine Owe.stk [(.int 0)] ?_
      refine oIfYes K66 160 (hb hby at_151) (XT.i0_eq_t (by decide)) ?_
      refine oAload K66 162 (hb hby at_160) rfl rfl ?_
      refine oIload K66 164 (hb hby at_162) rfl ?_
      refine oIload K66 166 (hb hby at_164) rfl ?_
      refine oIconstV K66 167 (3 : Int32) (hb hby at_166) rfl ?_
      refine oStatic K66 170 0 (wq hw 33) (wq hw 34) (wq hw 4) (wq hw 35) (rmLA3_01 l Z a0 z0 fm G b ((4 : Int32)) ((1 : Int32)) c0 c1 c2 c3 h46 K66.old K66.both ((((P0.keep Kp7 nin0).keep Kp18 nin0).keep Kp27 nin0).keep Kp50 nin0) (by decide) (by decide) (by decide) (by decide)) [(.ref b), (.int 4), (.int 1), (.int 3)] [] (lenOf pd708 rfl) (hb hby at_167) ?_
      intro T67 h69 v70 lo71 fs72 K68 Kp73 q74
      rcases q74 with qq74_0 | qq74_1
      · obtain ⟨rfl, rfl, f75⟩ := qq74_0
        have K76 := K68.to 5 24 [b]
        refine Owe.stk [(.int 1)] ?_
        refine oIfNo K76 173 (hb hby at_170) (XT.i0_eq_f (by decide)) ?_
        refine oIconstV K76 174 (3 : Int32) (hb hby at_173) rfl ?_
        refine oIstore K76 176 (hb hby at_174) (l' := #[.val (.int p0), .val (.int p1), .val (.int p2), .val (.int p3), .val (.int p4), .val (.int 4), .val (.int 1), .val (.ref b), .val (.ref x9), .val (.int 3)]) rfl ?_
        refine oGoto K76 182 (hb hby at_176) ?_
        refine oAload K76 184 (hb hby at_182) rfl rfl ?_
        refine oIload K76 186 (hb hby at_184) rfl ?_
        refine oStatic K76 189 0 (wq hw 36) (wq hw 37) (wq hw 38) (wq hw 39) (rmLS4_1 l Z a0 z0 fm G x9 (h3.size) c0 c1 c2 c3 h69 K76.old K76.both ((((f10.keep Kp18 geN).keep Kp27 geN).keep Kp50 geN).keep Kp73 geN) P1 P2 P3 P4 P5 P6 P7 P8) [(.ref x9), (.int 1)] [] (lenOf pd709 rfl) (hb hby at_186) ?_
        intro T77 h79 v80 lo81 fs82 K78 Kp83 q84
        obtain ⟨r85, rfl, rfl, f86⟩ := q84
        have K87 := K78.to 5 24 [b]
        refine Owe.stk [(.int r85)] ?_
        refine oIload K87 191 (hb hby at_189) rfl ?_
        refine oIcmpNo K87 194 (hb hby at_191) (XT.ii_ne_f (own_fin4_1_3 f86 f42 f65 f75)) ?_
        refine oIconstV K87 195 (1 : Int32) (hb hby at_194) rfl ?_
        refine oGoto K87 199 (hb hby at_195) ?_
        exact oRetI K87 [] (t := .boolean) hret (by simp) (by decide) (hb hby at_199) (by decide) (by decide) hlk (fun x hx => by cases hx) ⟨rfl, rfl⟩
      · obtain ⟨rfl, rfl, f88⟩ := qq74_1
        have K89 := K68.to 5 24 [b]
        refine Owe.stk [(.int 0)] ?_
        refine oIfYes K89 179 (hb hby at_170) (XT.i0_eq_t (by decide)) ?_
        refine oIconstV K89 180 (-1 : Int32) (hb hby at_179) rfl ?_
        refine oIstore K89 182 (hb hby at_180) (l' := #[.val (.int p0), .val (.int p1), .val (.int p2), .val (.int p3), .val (.int p4), .val (.int 4), .val (.int 1), .val (.ref b), .val (.ref x9), .val (.int (-1))]) rfl ?_
        refine oAload K89 184 (hb hby at_182) rfl rfl ?_
        refine oIload K89 186 (hb hby at_184) rfl ?_
        refine oStatic K89 189 0 (wq hw 36) (wq hw 37) (wq hw 38) (wq hw 39) (rmLS4_1 l Z a0 z0 fm G x9 (h3.size) c0 c1 c2 c3 h69 K89.old K89.both ((((f10.keep Kp18 geN).keep Kp27 geN).keep Kp50 geN).keep Kp73 geN) P1 P2 P3 P4 P5 P6 P7 P8) [(.ref x9), (.int 1)] [] (lenOf pd709 rfl) (hb hby at_186) ?_
        intro T90 h92 v93 lo94 fs95 K91 Kp96 q97
        obtain ⟨r98, rfl, rfl, f99⟩ := q97
        have K100 := K91.to 5 24 [b]
        refine Owe.stk [(.int r98)] ?_
        refine oIload K100 191 (hb hby at_189) rfl ?_
        refine oIcmpNo K100 194 (hb hby at_191) (XT.ii_ne_f (own_fin4_1_m f99 f42 f65 f88)) ?_
        refine oIconstV K100 195 (1 : Int32) (hb hby at_194) rfl ?_
        refine oGoto K100 199 (hb hby at_195) ?_
        exact oRetI K100 [] (t := .boolean) hret (by simp) (by decide) (hb hby at_199) (by decide) (by decide) hlk (fun x hx => by cases hx) ⟨rfl, rfl⟩
theorem own_fin4_2_2 {r c2 c3 : Int32} (hr : r.toInt = scan [c2, c3] 2) (q0 : ((hiI c2 ∧ ¬ loI c3) ∨ loI c2)) : r = (2 : Int32) := by
  refine Int32.toInt_inj.mp (hr.trans ?_)
  have e : (2 : Int32).toInt = 2 := by decide
  rw [e]
  simp only [scan, hiI, loI] at *
  repeat' split
  all_goals omega
theorem own_fin4_2_3 {r c2 c3 : Int32} (hr : r.toInt = scan [c2, c3] 2) (q0 : ¬ ((hiI c2 ∧ ¬ loI c3) ∨ loI c2)) (q1 : (hiI c3 ∨ (loI c3 ∧ ¬ hiI c2))) : r = (3 : Int32) := by
  refine Int32.toInt_inj.mp (hr.trans ?_)
  have e : (3 : Int32).toInt = 3 := by decide
  rw [e]
  simp only [scan, hiI, loI] at *
  repeat' split
  all_goals omega
theorem own_fin4_2_m {r c2 c3 : Int32} (hr : r.toInt = scan [c2, c3] 2) (q0 : ¬ ((hiI c2 ∧ ¬ loI c3) ∨ loI c2)) (q1 : ¬ (hiI c3 ∨ (loI c3 ∧ ¬ hiI c2))) : r = (-1 : Int32) := by
  refine Int32.toInt_inj.mp (hr.trans ?_)
  have e : (-1 : Int32).toInt = -1 := by decide
  rw [e]
  simp only [scan, hiI, loI] at *
  repeat' split
  all_goals omega
theorem sgT4_2 (G : Gl Z a0 z0 fm) (p0 p1 p2 p3 p4 : Int32) (b : Addr) (c0 c1 c2 c3 : Int32) (hby : c.code = code) (hret : meth.sig.returnType = ret) (hlk : meth.locks = false) (h0 : Heap)
    (K0 : Wk p l e room_1 s m #[(.int p0), (.int p1), (.int p2), (.int p3), (.int p4)] below meth c Z a0 ELs "com/example/mangrove/mangrove/Utf8TextLoneSurrogateAtPinLaw" maxLocals [] [b] T0 lo0 1 4 h0) (P0 : Ary Z h0 b .char [(.int c0), (.int c1), (.int c2), (.int c3)]) (P1 : ¬ c0 < (0 : Int32)) (P2 : ¬ (65535 : Int32) < c0) (P3 : ¬ c1 < (0 : Int32)) (P4 : ¬ (65535 : Int32) < c1) (P5 : ¬ c2 < (0 : Int32)) (P6 : ¬ (65535 : Int32) < c2) (P7 : ¬ c3 < (0 : Int32)) (P8 : ¬ (65535 : Int32) < c3) :
    Owe p e below (PostW Z ELs [] room_1 (fun v h fs => (fs = [] ∧ v = some (.int 1))) s) T0 (mkF m 94 #[.val (.int p0), .val (.int p1), .val (.int p2), .val (.int p3), .val (.int p4), .val (.int 4), .val (.int 2), .val (.ref b), .unset, .unset] []) := by
  obtain ⟨hw, hEL, wS, OS, hz0, OA, OH, OL, OF, rfm⟩ := id G
  refine oAload K0 96 (hb hby at_94) rfl rfl ?_
  refine oIload K0 98 (hb hby at_96) rfl ?_
  refine oStatic K0 101 0 (wq hw 9) (wq hw 10) (wq hw 4) (wq hw 11) (rmStr4 l Z a0 z0 fm G b c0 c1 c2 c3 h0 K0.old K0.both P0 P1 P2 P3 P4 P5 P6 P7 P8) [(.ref b), (.int 4)] [] (lenOf pd707 rfl) (hb hby at_98) ?_
  intro T1 h3 v4 lo5 fs6 K2 Kp7 q8
  obtain ⟨x9, rfl, rfl, f10⟩ := q8
  have K11 := K2.to 5 24 [b]
  refine Owe.stk [(.ref x9)] ?_
  refine oAstore K11 103 (hb hby at_101) rfl (l' := #[.val (.int p0), .val (.int p1), .val (.int p2), .val (.int p3), .val (.int p4), .val (.int 4), .val (.int 2), .val (.ref b), .val (.ref x9), .unset]) rfl ?_
  refine oAload K11 105 (hb hby at_103) rfl rfl ?_
  refine oIload K11 107 (hb hby at_105) rfl ?_
  refine oIload K11 109 (hb hby at_107) rfl ?_
  refine oIconstV K11 110 (0 : Int32) (hb hby at_109) rfl ?_
  refine oStatic K11 113 0 (wq hw 33) (wq hw 34) (wq hw 4) (wq hw 35) (rmLA0_a l Z a0 z0 fm G b ((4 : Int32)) ((2 : Int32)) h3 K11.old K11.both (by decide)) [(.ref b), (.int 4), (.int 2), (.int 0)] [] (lenOf pd708 rfl) (hb hby at_110) ?_
  intro T12 h14 v15 lo16 fs17 K13 Kp18 q19
  obtain ⟨rfl, rfl⟩ := q19
  have K20 := K13.to 5 24 [b]
  refine Owe.stk [(.int 0)] ?_
  refine oIfYes K20 122 (hb hby at_113) (XT.i0_eq_t (by decide)) ?_
  refine oAload K20 124 (hb hby at_122) rfl rfl ?_
  refine oIload K20 126 (hb hby at_124) rfl ?_
  refine oIload K20 128 (hb hby at_126) rfl ?_
  refine oIconstV K20 129 (1 : Int32) (hb hby at_128) rfl ?_
  refine oStatic K20 132 0 (wq hw 33) (wq hw 34) (wq hw 4) (wq hw 35) (rmLA1_a l Z a0 z0 fm G b ((4 : Int32)) ((2 : Int32)) h14 K20.old K20.both (by decide)) [(.ref b), (.int 4), (.int 2), (.int 1)] [] (lenOf pd708 rfl) (hb hby at_129) ?_
  intro T21 h23 v24 lo25 fs26 K22 Kp27 q28
  obtain ⟨rfl, rfl⟩ := q28
  have K29 := K22.to 5 24 [b]
  refine Owe.stk [(.int 0)] ?_
  refine oIfYes K29 141 (hb hby at_132) (XT.i0_eq_t (by decide)) ?_
  refine oAload K29 143 (hb hby at_141) rfl rfl ?_
  refine oIload K29 145 (hb hby at_143) rfl ?_
  refine oIload K29 147 (hb hby at_145) rfl ?_
  refine oIconstV K29 148 (2 : Int32) (hb hby at_147) rfl ?_
  refine oStatic K29 151 0 (wq hw 33) (wq hw 34) (wq hw 4) (wq hw 35) (rmLA2_10 l Z a0 z0 fm G b ((4 : Int32)) ((2 : Int32)) c0 c1 c2 c3 h23 K29.old K29.both (((P0.keep Kp7 nin0).keep Kp18 nin0).keep Kp27 nin0) (by decide) (by decide) (by decide) (by decide)) [(.ref b), (.int 4), (.int 2), (.int 2)] [] (lenOf pd708 rfl) (hb hby at_148) ?_
  intro T30 h32 v33 lo34 fs35 K31 Kp36 q37
  rcases q37 with qq37_0 | qq37_1
  · obtain ⟨rfl, rfl, f38⟩ := qq37_0
    have K39 := K31.to 5 24 [b]
    refine Owe.stk [(.int 1)] ?_
    refine oIfNo K39 154 (hb hby at_151) (XT.i0_eq_f (by decide)) ?_
    refine oIconstV K39 155 (2 : Int32) (hb hby at_154) rfl ?_
    refine oIstore K39 157 (hb hby at_155) (l' := #[.val (.int p0), .val (.int p1), .val (.int p2), .val (.int p3), .val (.int p4), .val (.int 4), .val (.int 2), .val (.ref b), .val (.ref x9), .val (.int 2)]) rfl ?_
    refine oGoto K39 182 (hb hby at_157) ?_
    refine oAload K39 184 (hb hby at_182) rfl rfl ?_
    refine oIload K39 186 (hb hby at_184) rfl ?_
    refine oStatic K39 189 0 (wq hw 36) (wq hw 37) (wq hw 38) (wq hw 39) (rmLS4_2 l Z a0 z0 fm G x9 (h3.size) c0 c1 c2 c3 h32 K39.old K39.both (((f10.keep Kp18 geN).keep Kp27 geN).keep Kp36 geN) P1 P2 P3 P4 P5 P6 P7 P8) [(.ref x9), (.int 2)] [] (lenOf pd709 rfl) (hb hby at_186) ?_
    intro T40 h42 v43 lo44 fs45 K41 Kp46 q47
    obtain ⟨r48, rfl, rfl, f49⟩ := q47
    have K50 := K41.to 5 24 [b]
    refine Owe.stk [(.int r48)] ?_
    refine oIload K50 191 (hb hby at_189) rfl ?_
    refine oIcmpNo K50 194 (hb hby at_191) (XT.ii_ne_f (own_fin4_2_2 f49 f38)) ?_
    refine oIconstV K50 195 (1 : Int32) (hb hby at_194) rfl ?_
    refine oGoto K50 199 (hb hby at_195) ?_
    exact oRetI K50 [] (t := .boolean) hret (by simp) (by decide) (hb hby at_199) (by decide) (by decide) hlk (fun x hx => by cases hx) ⟨rfl, rfl⟩
  · obtain ⟨rfl, rfl, f51⟩ := qq37_1
    have K52 := K31.to 5 24 [b]
    refine Owe.stk [(.int 0)] ?_
    refine oIfYes K52 160 (hb hby at_151) (XT.i0_eq_t (by decide)) ?_
    refine oAload K52 162 (hb hby at_160) rfl rfl ?_
    refine oIload K52 164 (hb hby at_162) rfl ?_
    refine oIload K52 166 (hb hby at_164) rfl ?_
    refine oIconstV K52 167 (3 : Int32) (hb hby at_166) rfl ?_
    refine oStatic K52 170 0 (wq hw 33) (wq hw 34) (wq hw 4) (wq hw 35) (rmLA3_01 l Z a0 z0 fm G b ((4 : Int32)) ((2 : Int32)) c0 c1 c2 c3 h32 K52.old K52.both ((((P0.keep Kp7 nin0).keep Kp18 nin0).keep Kp27 nin0).keep Kp36 nin0) (by decide) (by decide) (by decide) (by decide)) [(.ref b), (.int 4), (.int 2), (.int 3)] [] (lenOf pd708 rfl) (hb hby at_167) ?_
    intro T53 h55 v56 lo57 fs58 K54 Kp59 q60
    rcases q60 with qq60_0 | qq60_1
    · obtain ⟨rfl, rfl, f61⟩ := qq60_0
      have K62 := K54.to 5 24 [b]
      refine Owe.stk [(.int 1)] ?_
      refine oIfNo K62 173 (hb hby at_170) (XT.i0_eq_f (by decide)) ?_
      refine oIconstV K62 174 (3 : Int32) (hb hby at_173) rfl ?_
      refine oIstore K62 176 (hb hby at_174) (l' := #[.val (.int p0), .val (.int p1), .val (.int p2), .val (.int p3), .val (.int p4), .val (.int 4), .val (.int 2), .val (.ref b), .val (.ref x9), .val (.int 3)]) rfl ?_
      refine oGoto K62 182 (hb hby at_176) ?_
      refine oAload K62 184 (hb hby at_182) rfl rfl ?_
      refine oIload K62 186 (hb hby at_184) rfl ?_
      refine oStatic K62 189 0 (wq hw 36) (wq hw 37) (wq hw 38) (wq hw 39) (rmLS4_2 l Z a0 z0 fm G x9 (h3.size) c0 c1 c2 c3 h55 K62.old K62.both ((((f10.keep Kp18 geN).keep Kp27 geN).keep Kp36 geN).keep Kp59 geN) P1 P2 P3 P4 P5 P6 P7 P8) [(.ref x9), (.int 2)] [] (lenOf pd709 rfl) (hb hby at_186) ?_
      intro T63 h65 v66 lo67 fs68 K64 Kp69 q70
      obtain ⟨r71, rfl, rfl, f72⟩ := q70
      have K73 := K64.to 5 24 [b]
      refine Owe.stk [(.int r71)] ?_
      refine oIload K73 191 (hb hby at_189) rfl ?_
      refine oIcmpNo K73 194 (hb hby at_191) (XT.ii_ne_f (own_fin4_2_3 f72 f51 f61)) ?_
      refine oIconstV K73 195 (1 : Int32) (hb hby at_194) rfl ?_
      refine oGoto K73 199 (hb hby at_195) ?_
      exact oRetI K73 [] (t := .boolean) hret (by simp) (by decide) (hb hby at_199) (by decide) (by decide) hlk (fun x hx => by cases hx) ⟨rfl, rfl⟩
    · obtain ⟨rfl, rfl, f74⟩ := qq60_1
      have K75 := K54.to 5 24 [b]
      refine Owe.stk [(.int 0)] ?_
      refine oIfYes K75 179 (hb hby at_170) (XT.i0_eq_t (by decide)) ?_
      refine oIconstV K75 180 (-1 : Int32) (hb hby at_179) rfl ?_
      refine oIstore K75 182 (hb hby at_180) (l' := #[.val (.int p0), .val (.int p1), .val (.int p2), .val (.int p3), .val (.int p4), .val (.int 4), .val (.int 2), .val (.ref b), .val (.ref x9), .val (.int (-1))]) rfl ?_
      refine oAload K75 184 (hb hby at_182) rfl rfl ?_
      refine oIload K75 186 (hb hby at_184) rfl ?_
      refine oStatic K75 189 0 (wq hw 36) (wq hw 37) (wq hw 38) (wq hw 39) (rmLS4_2 l Z a0 z0 fm G x9 (h3.size) c0 c1 c2 c3 h55 K75.old K75.both ((((f10.keep Kp18 geN).keep Kp27 geN).keep Kp36 geN).keep Kp59 geN) P1 P2 P3 P4 P5 P6 P7 P8) [(.ref x9), (.int 2)] [] (lenOf pd709 rfl) (hb hby at_186) ?_
      intro T76 h78 v79 lo80 fs81 K77 Kp82 q83
      obtain ⟨r84, rfl, rfl, f85⟩ := q83
      have K86 := K77.to 5 24 [b]
      refine Owe.stk [(.int r84)] ?_
      refine oIload K86 191 (hb hby at_189) rfl ?_
      refine oIcmpNo K86 194 (hb hby at_191) (XT.ii_ne_f (own_fin4_2_m f85 f51 f74)) ?_
      refine oIconstV K86 195 (1 : Int32) (hb hby at_194) rfl ?_
      refine oGoto K86 199 (hb hby at_195) ?_
      exact oRetI K86 [] (t := .boolean) hret (by simp) (by decide) (hb hby at_199) (by decide) (by decide) hlk (fun x hx => by cases hx) ⟨rfl, rfl⟩
theorem own_fin4_3_3 {r c3 : Int32} (hr : r.toInt = scan [c3] 3) (q0 : (hiI c3 ∨ loI c3)) : r = (3 : Int32) := by
  refine Int32.toInt_inj.mp (hr.trans ?_)
  have e : (3 : Int32).toInt = 3 := by decide
  rw [e]
  simp only [scan, hiI, loI] at *
  repeat' split
  all_goals omega
theorem own_fin4_3_m {r c3 : Int32} (hr : r.toInt = scan [c3] 3) (q0 : ¬ (hiI c3 ∨ loI c3)) : r = (-1 : Int32) := by
  refine Int32.toInt_inj.mp (hr.trans ?_)
  have e : (-1 : Int32).toInt = -1 := by decide
  rw [e]
  simp only [scan, hiI, loI] at *
  repeat' split
  all_goals omega
theorem sgT4_3 (G : Gl Z a0 z0 fm) (p0 p1 p2 p3 p4 : Int32) (b : Addr) (c0 c1 c2 c3 : Int32) (hby : c.code = code) (hret : meth.sig.returnType = ret) (hlk : meth.locks = false) (h0 : Heap)
    (K0 : Wk p l e room_1 s m #[(.int p0), (.int p1), (.int p2), (.int p3), (.int p4)] below meth c Z a0 ELs "com/example/mangrove/mangrove/Utf8TextLoneSurrogateAtPinLaw" maxLocals [] [b] T0 lo0 1 4 h0) (P0 : Ary Z h0 b .char [(.int c0), (.int c1), (.int c2), (.int c3)]) (P1 : ¬ c0 < (0 : Int32)) (P2 : ¬ (65535 : Int32) < c0) (P3 : ¬ c1 < (0 : Int32)) (P4 : ¬ (65535 : Int32) < c1) (P5 : ¬ c2 < (0 : Int32)) (P6 : ¬ (65535 : Int32) < c2) (P7 : ¬ c3 < (0 : Int32)) (P8 : ¬ (65535 : Int32) < c3) :
    Owe p e below (PostW Z ELs [] room_1 (fun v h fs => (fs = [] ∧ v = some (.int 1))) s) T0 (mkF m 94 #[.val (.int p0), .val (.int p1), .val (.int p2), .val (.int p3), .val (.int p4), .val (.int 4), .val (.int 3), .val (.ref b), .unset, .unset] []) := by
  obtain ⟨hw, hEL, wS, OS, hz0, OA, OH, OL, OF, rfm⟩ := id G
  refine oAload K0 96 (hb hby at_94) rfl rfl ?_
  refine oIload K0 98 (hb hby at_96) rfl ?_
  refine oStatic K0 101 0 (wq hw 9) (wq hw 10) (wq hw 4) (wq hw 11) (rmStr4 l Z a0 z0 fm G b c0 c1 c2 c3 h0 K0.old K0.both P0 P1 P2 P3 P4 P5 P6 P7 P8) [(.ref b), (.int 4)] [] (lenOf pd707 rfl) (hb hby at_98) ?_
  intro T1 h3 v4 lo5 fs6 K2 Kp7 q8
  obtain ⟨x9, rfl, rfl, f10⟩ := q8
  have K11 := K2.to 5 24 [b]
  refine Owe.stk [(.ref x9)] ?_
  refine oAstore K11 103 (hb hby at_101) rfl (l' := #[.val (.int p0), .val (.int p1), .val (.int p2), .val (.int p3), .val (.int p4), .val (.int 4), .val (.int 3), .val (.ref b), .val (.ref x9), .unset]) rfl ?_
  refine oAload K11 105 (hb hby at_103) rfl rfl ?_
  refine oIload K11 107 (hb hby at_105) rfl ?_
  refine oIload K11 109 (hb hby at_107) rfl ?_
  refine oIconstV K11 110 (0 : Int32) (hb hby at_109) rfl ?_
  refine oStatic K11 113 0 (wq hw 33) (wq hw 34) (wq hw 4) (wq hw 35) (rmLA0_a l Z a0 z0 fm G b ((4 : Int32)) ((3 : Int32)) h3 K11.old K11.both (by decide)) [(.ref b), (.int 4), (.int 3), (.int 0)] [] (lenOf pd708 rfl) (hb hby at_110) ?_
  intro T12 h14 v15 lo16 fs17 K13 Kp18 q19
  obtain ⟨rfl, rfl⟩ := q19
  have K20 := K13.to 5 24 [b]
  refine Owe.stk [(.int 0)] ?_
  refine oIfYes K20 122 (hb hby at_113) (XT.i0_eq_t (by decide)) ?_
  refine oAload K20 124 (hb hby at_122) rfl rfl ?_
  refine oIload K20 126 (hb hby at_124) rfl ?_
  refine oIload K20 128 (hb hby at_126) rfl ?_
  refine oIconstV K20 129 (1 : Int32) (hb hby at_128) rfl ?_
  refine oStatic K20 132 0 (wq hw 33) (wq hw 34) (wq hw 4) (wq hw 35) (rmLA1_a l Z a0 z0 fm G b ((4 : Int32)) ((3 : Int32)) h14 K20.old K20.both (by decide)) [(.ref b), (.int 4), (.int 3), (.int 1)] [] (lenOf pd708 rfl) (hb hby at_129) ?_
  intro T21 h23 v24 lo25 fs26 K22 Kp27 q28
  obtain ⟨rfl, rfl⟩ := q28
  have K29 := K22.to 5 24 [b]
  refine Owe.stk [(.int 0)] ?_
  refine oIfYes K29 141 (hb hby at_132) (XT.i0_eq_t (by decide)) ?_
  refine oAload K29 143 (hb hby at_141) rfl rfl ?_
  refine oIload K29 145 (hb hby at_143) rfl ?_
  refine oIload K29 147 (hb hby at_145) rfl ?_
  refine oIconstV K29 148 (2 : Int32) (hb hby at_147) rfl ?_
  refine oStatic K29 151 0 (wq hw 33) (wq hw 34) (wq hw 4) (wq hw 35) (rmLA2_a l Z a0 z0 fm G b ((4 : Int32)) ((3 : Int32)) h23 K29.old K29.both (by decide)) [(.ref b), (.int 4), (.int 3), (.int 2)] [] (lenOf pd708 rfl) (hb hby at_148) ?_
  intro T30 h32 v33 lo34 fs35 K31 Kp36 q37
  obtain ⟨rfl, rfl⟩ := q37
  have K38 := K31.to 5 24 [b]
  refine Owe.stk [(.int 0)] ?_
  refine oIfYes K38 160 (hb hby at_151) (XT.i0_eq_t (by decide)) ?_
  refine oAload K38 162 (hb hby at_160) rfl rfl ?_
  refine oIload K38 164 (hb hby at_162) rfl ?_
  refine oIload K38 166 (hb hby at_164) rfl ?_
  refine oIconstV K38 167 (3 : Int32) (hb hby at_166) rfl ?_
  refine oStatic K38 170 0 (wq hw 33) (wq hw 34) (wq hw 4) (wq hw 35) (rmLA3_00 l Z a0 z0 fm G b ((4 : Int32)) ((3 : Int32)) c0 c1 c2 c3 h32 K38.old K38.both ((((P0.keep Kp7 nin0).keep Kp18 nin0).keep Kp27 nin0).keep Kp36 nin0) (by decide) (by decide) (by decide) (by decide)) [(.ref b), (.int 4), (.int 3), (.int 3)] [] (lenOf pd708 rfl) (hb hby at_167) ?_
  intro T39 h41 v42 lo43 fs44 K40 Kp45 q46
  rcases q46 with qq46_0 | qq46_1
  · obtain ⟨rfl, rfl, f47⟩ := qq46_0
    have K48 := K40.to 5 24 [b]
    refine Owe.stk [(.int 1)] ?_
    refine oIfNo K48 173 (hb hby at_170) (XT.i0_eq_f (by decide)) ?_
    refine oIconstV K48 174 (3 : Int32) (hb hby at_173) rfl ?_
    refine oIstore K48 176 (hb hby at_174) (l' := #[.val (.int p0), .val (.int p1), .val (.int p2), .val (.int p3), .val (.int p4), .val (.int 4), .val (.int 3), .val (.ref b), .val (.ref x9), .val (.int 3)]) rfl ?_
    refine oGoto K48 182 (hb hby at_176) ?_
    refine oAload K48 184 (hb hby at_182) rfl rfl ?_
    refine oIload K48 186 (hb hby at_184) rfl ?_
    refine oStatic K48 189 0 (wq hw 36) (wq hw 37) (wq hw 38) (wq hw 39) (rmLS4_3 l Z a0 z0 fm G x9 (h3.size) c0 c1 c2 c3 h41 K48.old K48.both ((((f10.keep Kp18 geN).keep Kp27 geN).keep Kp36 geN).keep Kp45 geN) P1 P2 P3 P4 P5 P6 P7 P8) [(.ref x9), (.int 3)] [] (lenOf pd709 rfl) (hb hby at_186) ?_
    intro T49 h51 v52 lo53 fs54 K50 Kp55 q56
    obtain ⟨r57, rfl, rfl, f58⟩ := q56
    have K59 := K50.to 5 24 [b]
    refine Owe.stk [(.int r57)] ?_
    refine oIload K59 191 (hb hby at_189) rfl ?_
    refine oIcmpNo K59 194 (hb hby at_191) (XT.ii_ne_f (own_fin4_3_3 f58 f47)) ?_
    refine oIconstV K59 195 (1 : Int32) (hb hby at_194) rfl ?_
    refine oGoto K59 199 (hb hby at_195) ?_
    exact oRetI K59 [] (t := .boolean) hret (by simp) (by decide) (hb hby at_199) (by decide) (by decide) hlk (fun x hx => by cases hx) ⟨rfl, rfl⟩
  · obtain ⟨rfl, rfl, f60⟩ := qq46_1
    have K61 := K40.to 5 24 [b]
    refine Owe.stk [(.int 0)] ?_
    refine oIfYes K61 179 (hb hby at_170) (XT.i0_eq_t (by decide)) ?_
    refine oIconstV K61 180 (-1 : Int32) (hb hby at_179) rfl ?_
    refine oIstore K61 182 (hb hby at_180) (l' := #[.val (.int p0), .val (.int p1), .val (.int p2), .val (.int p3), .val (.int p4), .val (.int 4), .val (.int 3), .val (.ref b), .val (.ref x9), .val (.int (-1))]) rfl ?_
    refine oAload K61 184 (hb hby at_182) rfl rfl ?_
    refine oIload K61 186 (hb hby at_184) rfl ?_
    refine oStatic K61 189 0 (wq hw 36) (wq hw 37) (wq hw 38) (wq hw 39) (rmLS4_3 l Z a0 z0 fm G x9 (h3.size) c0 c1 c2 c3 h41 K61.old K61.both ((((f10.keep Kp18 geN).keep Kp27 geN).keep Kp36 geN).keep Kp45 geN) P1 P2 P3 P4 P5 P6 P7 P8) [(.ref x9), (.int 3)] [] (lenOf pd709 rfl) (hb hby at_186) ?_
    intro T62 h64 v65 lo66 fs67 K63 Kp68 q69
    obtain ⟨r70, rfl, rfl, f71⟩ := q69
    have K72 := K63.to 5 24 [b]
    refine Owe.stk [(.int r70)] ?_
    refine oIload K72 191 (hb hby at_189) rfl ?_
    refine oIcmpNo K72 194 (hb hby at_191) (XT.ii_ne_f (own_fin4_3_m f71 f60)) ?_
    refine oIconstV K72 195 (1 : Int32) (hb hby at_194) rfl ?_
    refine oGoto K72 199 (hb hby at_195) ?_
    exact oRetI K72 [] (t := .boolean) hret (by simp) (by decide) (hb hby at_199) (by decide) (by decide) hlk (fun x hx => by cases hx) ⟨rfl, rfl⟩
theorem own_fin4_4_m {r  : Int32} (hr : r.toInt = scan [] 4) : r = (-1 : Int32) := by
  refine Int32.toInt_inj.mp (hr.trans ?_)
  have e : (-1 : Int32).toInt = -1 := by decide
  rw [e]
  simp only [scan, hiI, loI] at *
  repeat' split
  all_goals omega
theorem sgT4_4 (G : Gl Z a0 z0 fm) (p0 p1 p2 p3 p4 : Int32) (b : Addr) (c0 c1 c2 c3 : Int32) (hby : c.code = code) (hret : meth.sig.returnType = ret) (hlk : meth.locks = false) (h0 : Heap)
    (K0 : Wk p l e room_1 s m #[(.int p0), (.int p1), (.int p2), (.int p3), (.int p4)] below meth c Z a0 ELs "com/example/mangrove/mangrove/Utf8TextLoneSurrogateAtPinLaw" maxLocals [] [b] T0 lo0 1 4 h0) (P0 : Ary Z h0 b .char [(.int c0), (.int c1), (.int c2), (.int c3)]) (P1 : ¬ c0 < (0 : Int32)) (P2 : ¬ (65535 : Int32) < c0) (P3 : ¬ c1 < (0 : Int32)) (P4 : ¬ (65535 : Int32) < c1) (P5 : ¬ c2 < (0 : Int32)) (P6 : ¬ (65535 : Int32) < c2) (P7 : ¬ c3 < (0 : Int32)) (P8 : ¬ (65535 : Int32) < c3) :
    Owe p e below (PostW Z ELs [] room_1 (fun v h fs => (fs = [] ∧ v = some (.int 1))) s) T0 (mkF m 94 #[.val (.int p0), .val (.int p1), .val (.int p2), .val (.int p3), .val (.int p4), .val (.int 4), .val (.int 4), .val (.ref b), .unset, .unset] []) := by
  obtain ⟨hw, hEL, wS, OS, hz0, OA, OH, OL, OF, rfm⟩ := id G
  refine oAload K0 96 (hb hby at_94) rfl rfl ?_
  refine oIload K0 98 (hb hby at_96) rfl ?_
  refine oStatic K0 101 0 (wq hw 9) (wq hw 10) (wq hw 4) (wq hw 11) (rmStr4 l Z a0 z0 fm G b c0 c1 c2 c3 h0 K0.old K0.both P0 P1 P2 P3 P4 P5 P6 P7 P8) [(.ref b), (.int 4)] [] (lenOf pd707 rfl) (hb hby at_98) ?_
  intro T1 h3 v4 lo5 fs6 K2 Kp7 q8
  obtain ⟨x9, rfl, rfl, f10⟩ := q8
  have K11 := K2.to 5 24 [b]
  refine Owe.stk [(.ref x9)] ?_
  refine oAstore K11 103 (hb hby at_101) rfl (l' := #[.val (.int p0), .val (.int p1), .val (.int p2), .val (.int p3), .val (.int p4), .val (.int 4), .val (.int 4), .val (.ref b), .val (.ref x9), .unset]) rfl ?_
  refine oAload K11 105 (hb hby at_103) rfl rfl ?_
  refine oIload K11 107 (hb hby at_105) rfl ?_
  refine oIload K11 109 (hb hby at_107) rfl ?_
  refine oIconstV K11 110 (0 : Int32) (hb hby at_109) rfl ?_
  refine oStatic K11 113 0 (wq hw 33) (wq hw 34) (wq hw 4) (wq hw 35) (rmLA0_a l Z a0 z0 fm G b ((4 : Int32)) ((4 : Int32)) h3 K11.old K11.both (by decide)) [(.ref b), (.int 4), (.int 4), (.int 0)] [] (lenOf pd708 rfl) (hb hby at_110) ?_
  intro T12 h14 v15 lo16 fs17 K13 Kp18 q19
  obtain ⟨rfl, rfl⟩ := q19
  have K20 := K13.to 5 24 [b]
  refine Owe.stk [(.int 0)] ?_
  refine oIfYes K20 122 (hb hby at_113) (XT.i0_eq_t (by decide)) ?_
  refine oAload K20 124 (hb hby at_122) rfl rfl ?_
  refine oIload K20 126 (hb hby at_124) rfl ?_
  refine oIload K20 128 (hb hby at_126) rfl ?_
  refine oIconstV K20 129 (1 : Int32) (hb hby at_128) rfl ?_
  refine oStatic K20 132 0 (wq hw 33) (wq hw 34) (wq hw 4) (wq hw 35) (rmLA1_a l Z a0 z0 fm G b ((4 : Int32)) ((4 : Int32)) h14 K20.old K20.both (by decide)) [(.ref b), (.int 4), (.int 4), (.int 1)] [] (lenOf pd708 rfl) (hb hby at_129) ?_
  intro T21 h23 v24 lo25 fs26 K22 Kp27 q28
  obtain ⟨rfl, rfl⟩ := q28
  have K29 := K22.to 5 24 [b]
  refine Owe.stk [(.int 0)] ?_
  refine oIfYes K29 141 (hb hby at_132) (XT.i0_eq_t (by decide)) ?_
  refine oAload K29 143 (hb hby at_141) rfl rfl ?_
  refine oIload K29 145 (hb hby at_143) rfl ?_
  refine oIload K29 147 (hb hby at_145) rfl ?_
  refine oIconstV K29 148 (2 : Int32) (hb hby at_147) rfl ?_
  refine oStatic K29 151 0 (wq hw 33) (wq hw 34) (wq hw 4) (wq hw 35) (rmLA2_a l Z a0 z0 fm G b ((4 : Int32)) ((4 : Int32)) h23 K29.old K29.both (by decide)) [(.ref b), (.int 4), (.int 4), (.int 2)] [] (lenOf pd708 rfl) (hb hby at_148) ?_
  intro T30 h32 v33 lo34 fs35 K31 Kp36 q37
  obtain ⟨rfl, rfl⟩ := q37
  have K38 := K31.to 5 24 [b]
  refine Owe.stk [(.int 0)] ?_
  refine oIfYes K38 160 (hb hby at_151) (XT.i0_eq_t (by decide)) ?_
  refine oAload K38 162 (hb hby at_160) rfl rfl ?_
  refine oIload K38 164 (hb hby at_162) rfl ?_
  refine oIload K38 166 (hb hby at_164) rfl ?_
  refine oIconstV K38 167 (3 : Int32) (hb hby at_166) rfl ?_
  refine oStatic K38 170 0 (wq hw 33) (wq hw 34) (wq hw 4) (wq hw 35) (rmLA3_a l Z a0 z0 fm G b ((4 : Int32)) ((4 : Int32)) h32 K38.old K38.both (by decide)) [(.ref b), (.int 4), (.int 4), (.int 3)] [] (lenOf pd708 rfl) (hb hby at_167) ?_
  intro T39 h41 v42 lo43 fs44 K40 Kp45 q46
  obtain ⟨rfl, rfl⟩ := q46
  have K47 := K40.to 5 24 [b]
  refine Owe.stk [(.int 0)] ?_
  refine oIfYes K47 179 (hb hby at_170) (XT.i0_eq_t (by decide)) ?_
  refine oIconstV K47 180 (-1 : Int32) (hb hby at_179) rfl ?_
  refine oIstore K47 182 (hb hby at_180) (l' := #[.val (.int p0), .val (.int p1), .val (.int p2), .val (.int p3), .val (.int p4), .val (.int 4), .val (.int 4), .val (.ref b), .val (.ref x9), .val (.int (-1))]) rfl ?_
  refine oAload K47 184 (hb hby at_182) rfl rfl ?_
  refine oIload K47 186 (hb hby at_184) rfl ?_
  refine oStatic K47 189 0 (wq hw 36) (wq hw 37) (wq hw 38) (wq hw 39) (rmLS4_4 l Z a0 z0 fm G x9 (h3.size) c0 c1 c2 c3 h41 K47.old K47.both ((((f10.keep Kp18 geN).keep Kp27 geN).keep Kp36 geN).keep Kp45 geN) P1 P2 P3 P4 P5 P6 P7 P8) [(.ref x9), (.int 4)] [] (lenOf pd709 rfl) (hb hby at_186) ?_
  intro T48 h50 v51 lo52 fs53 K49 Kp54 q55
  obtain ⟨r56, rfl, rfl, f57⟩ := q55
  have K58 := K49.to 5 24 [b]
  refine Owe.stk [(.int r56)] ?_
  refine oIload K58 191 (hb hby at_189) rfl ?_
  refine oIcmpNo K58 194 (hb hby at_191) (XT.ii_ne_f (own_fin4_4_m f57 )) ?_
  refine oIconstV K58 195 (1 : Int32) (hb hby at_194) rfl ?_
  refine oGoto K58 199 (hb hby at_195) ?_
  exact oRetI K58 [] (t := .boolean) hret (by simp) (by decide) (hb hby at_199) (by decide) (by decide) hlk (fun x hx => by cases hx) ⟨rfl, rfl⟩
theorem pd710 : parseMethodDescriptor "(I)C" = some ⟨[.int], some .char⟩ := by decide +kernel
theorem ef711 (m : MethodId) (x0 : Int32) (x1 : Int32) (x2 : Int32) (x3 : Int32) (x4 : Int32) : entryFrame m #[(.int x0), (.int x1), (.int x2), (.int x3), (.int x4)] maxLocals = mkF m 0 #[.val (.int x0), .val (.int x1), .val (.int x2), .val (.int x3), .val (.int x4), .unset, .unset, .unset, .unset, .unset] [] := by first | (simp [entryFrame, mkF, argsToLocals, Value.category, maxLocals]; done) | rfl
theorem rmLaw (G : Gl Z a0 z0 fm) (p0 p1 p2 p3 p4 : Int32) (h0 : Heap) (hZh : Ext Z.heap h0) (hsf : Own Z h0 []) :
    Ctr l Z ELs x code maxLocals ret tables_1 room_1 #[(.int p0), (.int p1), (.int p2), (.int p3), (.int p4)] [] h0 (fun v h fs => (fs = [] ∧ v = some (.int 1))) := by
  obtain ⟨hw, hEL, wS, OS, hz0, OA, OH, OL, OF, rfm⟩ := id G
  refine Ctr.intro pn324 hEL hZh hsf ?_
  intro p e s m below meth c s₁ hby hml hret hnm hlk hh K0
  refine Owe.cast (ef711 m p0 p1 p2 p3 p4) ?_
  show Owe _ _ _ _ s₁ (mkF m 0 #[.val (.int p0), .val (.int p1), .val (.int p2), .val (.int p3), .val (.int p4), .unset, .unset, .unset, .unset, .unset] [])
  refine oIload K0 2 (hb hby at_0) rfl ?_
  refine oBipushV K0 4 (7 : Int32) (hb hby at_2) (by decide) ?_
  refine oIand K0 5 (hb hby at_4) ?_
  refine oIconstV K0 6 (5 : Int32) (hb hby at_5) rfl ?_
  refine oIrem K0 7 (hb hby at_6) (by decide) ?_
  refine oIstore K0 9 (hb hby at_7) (l' := #[.val (.int p0), .val (.int p1), .val (.int p2), .val (.int p3), .val (.int p4), .val (.int ((p4 &&& (7 : Int32)) % (5 : Int32))), .unset, .unset, .unset, .unset]) rfl ?_
  rcases own_m5 (own_and7 p4) with hn1 | hn2 | hn3 | hn4 | hn5
  · rw [hn1]
    show Owe _ _ _ _ s₁ (mkF m 9 #[.val (.int p0), .val (.int p1), .val (.int p2), .val (.int p3), .val (.int p4), .val (.int 0), .unset, .unset, .unset, .unset] [])
    refine oIload K0 11 (hb hby at_9) rfl ?_
    refine oIconstV K0 12 (3 : Int32) (hb hby at_11) rfl ?_
    refine oIushr K0 13 (hb hby at_12) ?_
    refine oLdcI K0 15 (wq hw 0) (hb hby at_13) ?_
    refine oIand K0 16 (hb hby at_15) ?_
    refine oIload K0 18 (hb hby at_16) rfl ?_
    refine oIconstV K0 19 (1 : Int32) (hb hby at_18) rfl ?_
    refine oIadd K0 20 (hb hby at_19) ?_
    show Owe _ _ _ _ s₁ (mkF m 20 #[.val (.int p0), .val (.int p1), .val (.int p2), .val (.int p3), .val (.int p4), .val (.int 0), .unset, .unset, .unset, .unset] [(.int 1), (.int ((XT.ushr p4 (3 : Int32)) &&& (2147483647 : Int32)))])
    refine oIrem K0 21 (hb hby at_20) (by decide) ?_
    refine oIstore K0 23 (hb hby at_21) (l' := #[.val (.int p0), .val (.int p1), .val (.int p2), .val (.int p3), .val (.int p4), .val (.int 0), .val (.int (((XT.ushr p4 (3 : Int32)) &&& (2147483647 : Int32)) % (1 : Int32))), .unset, .unset, .unset]) rfl ?_
    refine oIconstV K0 24 (4 : Int32) (hb hby at_23) rfl ?_
    refine oNewP K0 26 (ty := .char) 4 (wq hw 1) rfl (by decide) (by decide) (by decide) (hb hby at_24) (by decide) (by decide) ?_
    intro T11 h6 a7 g8 K12 E9 A10
    have K13 := K12.to 1 4 [a7]
    refine oDup K13 27 (hb hby at_26) rfl ?_
    refine oIconstV K13 28 (0 : Int32) (hb hby at_27) rfl ?_
    refine oIloadN K13 29 (hb hby at_28) rfl ?_
    refine oStatic K13 32 3 (wq hw 2) (wq hw 3) (wq hw 4) (wq hw 5) (rmDraw l Z a0 z0 fm G p0 h6 K13.old K13.both ) [(.int p0)] [(.int 0), (.ref a7), (.ref a7)] (lenOf pd710 rfl) (hb hby at_29) ?_
    intro T14 h16 v17 lo18 fs19 K15 Kp20 q21
    obtain ⟨r22, rfl, rfl, f23, f24⟩ := q21
    have K25 := K15.to 1 4 [a7]
    refine Owe.stk [(.int r22), (.int 0), (.ref a7), (.ref a7)] ?_
    refine oCastore K25 33 (by simp) (A10.keep Kp20 nin0) 0 (by decide) (by decide) nlt (nar_rng f23 f24) (hb hby at_32) ?_
    intro T30 h26 lo29 K31 W27 A28
    have A32 : Ary Z h26 a7 .char [(.int r22), (.int 0), (.int 0), (.int 0)] := A28
    refine oDup K31 34 (hb hby at_33) rfl ?_
    refine oIconstV K31 35 (1 : Int32) (hb hby at_34) rfl ?_
    refine oIloadN K31 36 (hb hby at_35) rfl ?_
    refine oStatic K31 39 3 (wq hw 2) (wq hw 3) (wq hw 4) (wq hw 5) (rmDraw l Z a0 z0 fm G p1 h26 K31.old K31.both ) [(.int p1)] [(.int 1), (.ref a7), (.ref a7)] (lenOf pd710 rfl) (hb hby at_36) ?_
    intro T33 h35 v36 lo37 fs38 K34 Kp39 q40
    obtain ⟨r41, rfl, rfl, f42, f43⟩ := q40
    have K44 := K34.to 1 4 [a7]
    refine Owe.stk [(.int r41), (.int 1), (.ref a7), (.ref a7)] ?_
    refine oCastore K44 40 (by simp) (A32.keep Kp39 nin0) 1 (by decide) (by decide) nlt (nar_rng f42 f43) (hb hby at_39) ?_
    intro T49 h45 lo48 K50 W46 A47
    have A51 : Ary Z h45 a7 .char [(.int r22), (.int r41), (.int 0), (.int 0)] := A47
    refine oDup K50 41 (hb hby at_40) rfl ?_
    refine oIconstV K50 42 (2 : Int32) (hb hby at_41) rfl ?_
    refine oIloadN K50 43 (hb hby at_42) rfl ?_
    refine oStatic K50 46 3 (wq hw 2) (wq hw 3) (wq hw 4) (wq hw 5) (rmDraw l Z a0 z0 fm G p2 h45 K50.old K50.both ) [(.int p2)] [(.int 2), (.ref a7), (.ref a7)] (lenOf pd710 rfl) (hb hby at_43) ?_
    intro T52 h54 v55 lo56 fs57 K53 Kp58 q59
    obtain ⟨r60, rfl, rfl, f61, f62⟩ := q59
    have K63 := K53.to 1 4 [a7]
    refine Owe.stk [(.int r60), (.int 2), (.ref a7), (.ref a7)] ?_
    refine oCastore K63 47 (by simp) (A51.keep Kp58 nin0) 2 (by decide) (by decide) nlt (nar_rng f61 f62) (hb hby at_46) ?_
    intro T68 h64 lo67 K69 W65 A66
    have A70 : Ary Z h64 a7 .char [(.int r22), (.int r41), (.int r60), (.int 0)] := A66
    refine oDup K69 48 (hb hby at_47) rfl ?_
    refine oIconstV K69 49 (3 : Int32) (hb hby at_48) rfl ?_
    refine oIloadN K69 50 (hb hby at_49) rfl ?_
    refine oStatic K69 53 3 (wq hw 2) (wq hw 3) (wq hw 4) (wq hw 5) (rmDraw l Z a0 z0 fm G p3 h64 K69.old K69.both ) [(.int p3)] [(.int 3), (.ref a7), (.ref a7)] (lenOf pd710 rfl) (hb hby at_50) ?_
    intro T71 h73 v74 lo75 fs76 K72 Kp77 q78
    obtain ⟨r79, rfl, rfl, f80, f81⟩ := q78
    have K82 := K72.to 1 4 [a7]
    refine Owe.stk [(.int r79), (.int 3), (.ref a7), (.ref a7)] ?_
    refine oCastore K82 54 (by simp) (A70.keep Kp77 nin0) 3 (by decide) (by decide) nlt (nar_rng f80 f81) (hb hby at_53) ?_
    intro T87 h83 lo86 K88 W84 A85
    have A89 : Ary Z h83 a7 .char [(.int r22), (.int r41), (.int r60), (.int r79)] := A85
    refine oAstore K88 56 (hb hby at_54) rfl (l' := #[.val (.int p0), .val (.int p1), .val (.int p2), .val (.int p3), .val (.int p4), .val (.int 0), .val (.int (((XT.ushr p4 (3 : Int32)) &&& (2147483647 : Int32)) % (1 : Int32))), .val (.ref a7), .unset, .unset]) rfl ?_
    have hn90 := own_m1 (own_andM (XT.ushr p4 (3 : Int32)))
    rw [hn90]
    show Owe _ _ _ _ T87 (mkF m 56 #[.val (.int p0), .val (.int p1), .val (.int p2), .val (.int p3), .val (.int p4), .val (.int 0), .val (.int 0), .val (.ref a7), .unset, .unset] [])
    refine oIload K88 58 (hb hby at_56) rfl ?_
    refine oIfYes K88 94 (hb hby at_58) (XT.i0_le_t (by decide)) ?_
    exact (sgT0_0 l Z a0 z0 fm G p0 p1 p2 p3 p4 a7 r22 r41 r60 r79 hby hret hlk h83 (K88.to 1 4 [a7] (q := by simp)) A89 f23 f24 f42 f43 f61 f62 f80 f81)
  · rw [hn2]
    show Owe _ _ _ _ s₁ (mkF m 9 #[.val (.int p0), .val (.int p1), .val (.int p2), .val (.int p3), .val (.int p4), .val (.int 1), .unset, .unset, .unset, .unset] [])
    refine oIload K0 11 (hb hby at_9) rfl ?_
    refine oIconstV K0 12 (3 : Int32) (hb hby at_11) rfl ?_
    refine oIushr K0 13 (hb hby at_12) ?_
    refine oLdcI K0 15 (wq hw 0) (hb hby at_13) ?_
    refine oIand K0 16 (hb hby at_15) ?_
    refine oIload K0 18 (hb hby at_16) rfl ?_
    refine oIconstV K0 19 (1 : Int32) (hb hby at_18) rfl ?_
    refine oIadd K0 20 (hb hby at_19) ?_
    show Owe _ _ _ _ s₁ (mkF m 20 #[.val (.int p0), .val (.int p1), .val (.int p2), .val (.int p3), .val (.int p4), .val (.int 1), .unset, .unset, .unset, .unset] [(.int 2), (.int ((XT.ushr p4 (3 : Int32)) &&& (2147483647 : Int32)))])
    refine oIrem K0 21 (hb hby at_20) (by decide) ?_
    refine oIstore K0 23 (hb hby at_21) (l' := #[.val (.int p0), .val (.int p1), .val (.int p2), .val (.int p3), .val (.int p4), .val (.int 1), .val (.int (((XT.ushr p4 (3 : Int32)) &&& (2147483647 : Int32)) % (2 : Int32))), .unset, .unset, .unset]) rfl ?_
    refine oIconstV K0 24 (4 : Int32) (hb hby at_23) rfl ?_
    refine oNewP K0 26 (ty := .char) 4 (wq hw 1) rfl (by decide) (by decide) (by decide) (hb hby at_24) (by decide) (by decide) ?_
    intro T96 h91 a92 g93 K97 E94 A95
    have K98 := K97.to 1 4 [a92]
    refine oDup K98 27 (hb hby at_26) rfl ?_
    refine oIconstV K98 28 (0 : Int32) (hb hby at_27) rfl ?_
    refine oIloadN K98 29 (hb hby at_28) rfl ?_
    refine oStatic K98 32 3 (wq hw 2) (wq hw 3) (wq hw 4) (wq hw 5) (rmDraw l Z a0 z0 fm G p0 h91 K98.old K98.both ) [(.int p0)] [(.int 0), (.ref a92), (.ref a92)] (lenOf pd710 rfl) (hb hby at_29) ?_
    intro T99 h101 v102 lo103 fs104 K100 Kp105 q106
    obtain ⟨r107, rfl, rfl, f108, f109⟩ := q106
    have K110 := K100.to 1 4 [a92]
    refine Owe.stk [(.int r107), (.int 0), (.ref a92), (.ref a92)] ?_
    refine oCastore K110 33 (by simp) (A95.keep Kp105 nin0) 0 (by decide) (by decide) nlt (nar_rng f108 f109) (hb hby at_32) ?_
    intro T115 h111 lo114 K116 W112 A113
    have A117 : Ary Z h111 a92 .char [(.int r107), (.int 0), (.int 0), (.int 0)] := A113
    refine oDup K116 34 (hb hby at_33) rfl ?_
    refine oIconstV K116 35 (1 : Int32) (hb hby at_34) rfl ?_
    refine oIloadN K116 36 (hb hby at_35) rfl ?_
    refine oStatic K116 39 3 (wq hw 2) (wq hw 3) (wq hw 4) (wq hw 5) (rmDraw l Z a0 z0 fm G p1 h111 K116.old K116.both ) [(.int p1)] [(.int 1), (.ref a92), (.ref a92)] (lenOf pd710 rfl) (hb hby at_36) ?_
    intro T118 h120 v121 lo122 fs123 K119 Kp124 q125
    obtain ⟨r126, rfl, rfl, f127, f128⟩ := q125
    have K129 := K119.to 1 4 [a92]
    refine Owe.stk [(.int r126), (.int 1), (.ref a92), (.ref a92)] ?_
    refine oCastore K129 40 (by simp) (A117.keep Kp124 nin0) 1 (by decide) (by decide) nlt (nar_rng f127 f128) (hb hby at_39) ?_
    intro T134 h130 lo133 K135 W131 A132
    have A136 : Ary Z h130 a92 .char [(.int r107), (.int r126), (.int 0), (.int 0)] := A132
    refine oDup K135 41 (hb hby at_40) rfl ?_
    refine oIconstV K135 42 (2 : Int32) (hb hby at_41) rfl ?_
    refine oIloadN K135 43 (hb hby at_42) rfl ?_
    refine oStatic K135 46 3 (wq hw 2) (wq hw 3) (wq hw 4) (wq hw 5) (rmDraw l Z a0 z0 fm G p2 h130 K135.old K135.both ) [(.int p2)] [(.int 2), (.ref a92), (.ref a92)] (lenOf pd710 rfl) (hb hby at_43) ?_
    intro T137 h139 v140 lo141 fs142 K138 Kp143 q144
    obtain ⟨r145, rfl, rfl, f146, f147⟩ := q144
    have K148 := K138.to 1 4 [a92]
    refine Owe.stk [(.int r145), (.int 2), (.ref a92), (.ref a92)] ?_
    refine oCastore K148 47 (by simp) (A136.keep Kp143 nin0) 2 (by decide) (by decide) nlt (nar_rng f146 f147) (hb hby at_46) ?_
    intro T153 h149 lo152 K154 W150 A151
    have A155 : Ary Z h149 a92 .char [(.int r107), (.int r126), (.int r145), (.int 0)] := A151
    refine oDup K154 48 (hb hby at_47) rfl ?_
    refine oIconstV K154 49 (3 : Int32) (hb hby at_48) rfl ?_
    refine oIloadN K154 50 (hb hby at_49) rfl ?_
    refine oStatic K154 53 3 (wq hw 2) (wq hw 3) (wq hw 4) (wq hw 5) (rmDraw l Z a0 z0 fm G p3 h149 K154.old K154.both ) [(.int p3)] [(.int 3), (.ref a92), (.ref a92)] (lenOf pd710 rfl) (hb hby at_50) ?_
    intro T156 h158 v159 lo160 fs161 K157 Kp162 q163
    obtain ⟨r164, rfl, rfl, f165, f166⟩ := q163
    have K167 := K157.to 1 4 [a92]
    refine Owe.stk [(.int r164), (.int 3), (.ref a92), (.ref a92)] ?_
    refine oCastore K167 54 (by simp) (A155.keep Kp162 nin0) 3 (by decide) (by decide) nlt (nar_rng f165 f166) (hb hby at_53) ?_
    intro T172 h168 lo171 K173 W169 A170
    have A174 : Ary Z h168 a92 .char [(.int r107), (.int r126), (.int r145), (.int r164)] := A170
    refine oAstore K173 56 (hb hby at_54) rfl (l' := #[.val (.int p0), .val (.int p1), .val (.int p2), .val (.int p3), .val (.int p4), .val (.int 1), .val (.int (((XT.ushr p4 (3 : Int32)) &&& (2147483647 : Int32)) % (2 : Int32))), .val (.ref a92), .unset, .unset]) rfl ?_
    rcases own_m2 (own_andM (XT.ushr p4 (3 : Int32))) with hn175 | hn176
    · rw [hn175]
      show Owe _ _ _ _ T172 (mkF m 56 #[.val (.int p0), .val (.int p1), .val (.int p2), .val (.int p3), .val (.int p4), .val (.int 1), .val (.int 0), .val (.ref a92), .unset, .unset] [])
      refine oIload K173 58 (hb hby at_56) rfl ?_
      refine oIfYes K173 94 (hb hby at_58) (XT.i0_le_t (by decide)) ?_
      exact (sgT1_0 l Z a0 z0 fm G p0 p1 p2 p3 p4 a92 r107 r126 r145 r164 hby hret hlk h168 (K173.to 1 4 [a92] (q := by simp)) A174 f108 f109 f127 f128 f146 f147 f165 f166)
    · rw [hn176]
      show Owe _ _ _ _ T172 (mkF m 56 #[.val (.int p0), .val (.int p1), .val (.int p2), .val (.int p3), .val (.int p4), .val (.int 1), .val (.int 1), .val (.ref a92), .unset, .unset] [])
      refine oIload K173 58 (hb hby at_56) rfl ?_
      refine oIfNo K173 61 (hb hby at_58) (XT.i0_le_f (by decide)) ?_
      refine oIload K173 63 (hb hby at_61) rfl ?_
      refine oIload K173 65 (hb hby at_63) rfl ?_
      refine oIcmpYes K173 94 (hb hby at_65) (XT.ii_ge_t (by decide)) ?_
      exact (sgT1_1 l Z a0 z0 fm G p0 p1 p2 p3 p4 a92 r107 r126 r145 r164 hby hret hlk h168 (K173.to 1 4 [a92] (q := by simp)) A174 f108 f109 f127 f128 f146 f147 f165 f166)
  · rw [hn3]
    show Owe _ _ _ _ s₁ (mkF m 9 #[.val (.int p0), .val (.int p1), .val (.int p2), .val (.int p3), .val (.int p4), .val (.int 2), .unset, .unset, .unset, .unset] [])
    refine oIload K0 11 (hb hby at_9) rfl ?_
    refine oIconstV K0 12 (3 : Int32) (hb hby at_11) rfl ?_
    refine oIushr K0 13 (hb hby at_12) ?_
    refine oLdcI K0 15 (wq hw 0) (hb hby at_13) ?_
    refine oIand K0 16 (hb hby at_15) ?_
    refine oIload K0 18 (hb hby at_16) rfl ?_
    refine oIconstV K0 19 (1 : Int32) (hb hby at_18) rfl ?_
    refine oIadd K0 20 (hb hby at_19) ?_
    show Owe _ _ _ _ s₁ (mkF m 20 #[.val (.int p0), .val (.int p1), .val (.int p2), .val (.int p3), .val (.int p4), .val (.int 2), .unset, .unset, .unset, .unset] [(.int 3), (.int ((XT.ushr p4 (3 : Int32)) &&& (2147483647 : Int32)))])
    refine oIrem K0 21 (hb hby at_20) (by decide) ?_
    refine oIstore K0 23 (hb hby at_21) (l' := #[.val (.int p0), .val (.int p1), .val (.int p2), .val (.int p3), .val (.int p4), .val (.int 2), .val (.int (((XT.ushr p4 (3 : Int32)) &&& (2147483647 : Int32)) % (3 : Int32))), .unset, .unset, .unset]) rfl ?_
    refine oIconstV K0 24 (4 : Int32) (hb hby at_23) rfl ?_
    refine oNewP K0 26 (ty := .char) 4 (wq hw 1) rfl (by decide) (by decide) (by decide) (hb hby at_24) (by decide) (by decide) ?_
    intro T182 h177 a178 g179 K183 E180 A181
    have K184 := K183.to 1 4 [a178]
    refine oDup K184 27 (hb hby at_26) rfl ?_
    refine oIconstV K184 28 (0 : Int32) (hb hby at_27) rfl ?_
    refine oIloadN K184 29 (hb hby at_28) rfl ?_
    refine oStatic K184 32 3 (wq hw 2) (wq hw 3) (wq hw 4) (wq hw 5) (rmDraw l Z a0 z0 fm G p0 h177 K184.old K184.both ) [(.int p0)] [(.int 0), (.ref a178), (.ref a178)] (lenOf pd710 rfl) (hb hby at_29) ?_
    intro T185 h187 v188 lo189 fs190 K186 Kp191 q192
    obtain ⟨r193, rfl, rfl, f194, f195⟩ := q192
    have K196 := K186.to 1 4 [a178]
    refine Owe.stk [(.int r193), (.int 0), (.ref a178), (.ref a178)] ?_
    refine oCastore K196 33 (by simp) (A181.keep Kp191 nin0) 0 (by decide) (by decide) nlt (nar_rng f194 f195) (hb hby at_32) ?_
    intro T201 h197 lo200 K202 W198 A199
    have A203 : Ary Z h197 a178 .char [(.int r193), (.int 0), (.int 0), (.int 0)] := A199
    refine oDup K202 34 (hb hby at_33) rfl ?_
    refine oIconstV K202 35 (1 : Int32) (hb hby at_34) rfl ?_
    refine oIloadN K202 36 (hb hby at_35) rfl ?_
    refine oStatic K202 39 3 (wq hw 2) (wq hw 3) (wq hw 4) (wq hw 5) (rmDraw l Z a0 z0 fm G p1 h197 K202.old K202.both ) [(.int p1)] [(.int 1), (.ref a178), (.ref a178)] (lenOf pd710 rfl) (hb hby at_36) ?_
    intro T204 h206 v207 lo208 fs209 K205 Kp210 q211
    obtain ⟨r212, rfl, rfl, f213, f214⟩ := q211
    have K215 := K205.to 1 4 [a178]
    refine Owe.stk [(.int r212), (.int 1), (.ref a178), (.ref a178)] ?_
    refine oCastore K215 40 (by simp) (A203.keep Kp210 nin0) 1 (by decide) (by decide) nlt (nar_rng f213 f214) (hb hby at_39) ?_
    intro T220 h216 lo219 K221 W217 A218
    have A222 : Ary Z h216 a178 .char [(.int r193), (.int r212), (.int 0), (.int 0)] := A218
    refine oDup K221 41 (hb hby at_40) rfl ?_
    refine oIconstV K221 42 (2 : Int32) (hb hby at_41) rfl ?_
    refine oIloadN K221 43 (hb hby at_42) rfl ?_
    refine oStatic K221 46 3 (wq hw 2) (wq hw 3) (wq hw 4) (wq hw 5) (rmDraw l Z a0 z0 fm G p2 h216 K221.old K221.both ) [(.int p2)] [(.int 2), (.ref a178), (.ref a178)] (lenOf pd710 rfl) (hb hby at_43) ?_
    intro T223 h225 v226 lo227 fs228 K224 Kp229 q230
    obtain ⟨r231, rfl, rfl, f232, f233⟩ := q230
    have K234 := K224.to 1 4 [a178]
    refine Owe.stk [(.int r231), (.int 2), (.ref a178), (.ref a178)] ?_
    refine oCastore K234 47 (by simp) (A222.keep Kp229 nin0) 2 (by decide) (by decide) nlt (nar_rng f232 f233) (hb hby at_46) ?_
    intro T239 h235 lo238 K240 W236 A237
    have A241 : Ary Z h235 a178 .char [(.int r193), (.int r212), (.int r231), (.int 0)] := A237
    refine oDup K240 48 (hb hby at_47) rfl ?_
    refine oIconstV K240 49 (3 : Int32) (hb hby at_48) rfl ?_
    refine oIloadN K240 50 (hb hby at_49) rfl ?_
    refine oStatic K240 53 3 (wq hw 2) (wq hw 3) (wq hw 4) (wq hw 5) (rmDraw l Z a0 z0 fm G p3 h235 K240.old K240.both ) [(.int p3)] [(.int 3), (.ref a178), (.ref a178)] (lenOf pd710 rfl) (hb hby at_50) ?_
    intro T242 h244 v245 lo246 fs247 K243 Kp248 q249
    obtain ⟨r250, rfl, rfl, f251, f252⟩ := q249
    have K253 := K243.to 1 4 [a178]
    refine Owe.stk [(.int r250), (.int 3), (.ref a178), (.ref a178)] ?_
    refine oCastore K253 54 (by simp) (A241.keep Kp248 nin0) 3 (by decide) (by decide) nlt (nar_rng f251 f252) (hb hby at_53) ?_
    intro T258 h254 lo257 K259 W255 A256
    have A260 : Ary Z h254 a178 .char [(.int r193), (.int r212), (.int r231), (.int r250)] := A256
    refine oAstore K259 56 (hb hby at_54) rfl (l' := #[.val (.int p0), .val (.int p1), .val (.int p2), .val (.int p3), .val (.int p4), .val (.int 2), .val (.int (((XT.ushr p4 (3 : Int32)) &&& (2147483647 : Int32)) % (3 : Int32))), .val (.ref a178), .unset, .unset]) rfl ?_
    rcases own_m3 (own_andM (XT.ushr p4 (3 : Int32))) with hn261 | hn262 | hn263
    · rw [hn261]
      show Owe _ _ _ _ T258 (mkF m 56 #[.val (.int p0), .val (.int p1), .val (.int p2), .val (.int p3), .val (.int p4), .val (.int 2), .val (.int 0), .val (.ref a178), .unset, .unset] [])
      refine oIload K259 58 (hb hby at_56) rfl ?_
      refine oIfYes K259 94 (hb hby at_58) (XT.i0_le_t (by decide)) ?_
      exact (sgT2_0 l Z a0 z0 fm G p0 p1 p2 p3 p4 a178 r193 r212 r231 r250 hby hret hlk h254 (K259.to 1 4 [a178] (q := by simp)) A260 f194 f195 f213 f214 f232 f233 f251 f252)
    · rw [hn262]
      show Owe _ _ _ _ T258 (mkF m 56 #[.val (.int p0), .val (.int p1), .val (.int p2), .val (.int p3), .val (.int p4), .val (.int 2), .val (.int 1), .val (.ref a178), .unset, .unset] [])
      refine oIload K259 58 (hb hby at_56) rfl ?_
      refine oIfNo K259 61 (hb hby at_58) (XT.i0_le_f (by decide)) ?_
      refine oIload K259 63 (hb hby at_61) rfl ?_
      refine oIload K259 65 (hb hby at_63) rfl ?_
      refine oIcmpNo K259 68 (hb hby at_65) (XT.ii_ge_f (by decide)) ?_
      refine oAload K259 70 (hb hby at_68) rfl rfl ?_
      refine oIload K259 72 (hb hby at_70) rfl ?_
      refine oIconstV K259 73 (1 : Int32) (hb hby at_72) rfl ?_
      refine oIsub K259 74 (hb hby at_73) ?_
      show Owe _ _ _ _ T258 (mkF m 74 #[.val (.int p0), .val (.int p1), .val (.int p2), .val (.int p3), .val (.int p4), .val (.int 2), .val (.int 1), .val (.ref a178), .unset, .unset] [(.int 0), (.ref a178)])
      refine oCaload K259 75 A260 0 (by decide) (by decide) rfl (hb hby at_74) ?_
      refine oStatic K259 78 0 (wq hw 61) (wq hw 62) (wq hw 4) (wq hw 63) (rmIsH l Z a0 z0 fm G r193 h254 K259.old K259.both ) [(.int r193)] [] (lenOf pd262 rfl) (hb hby at_75) ?_
      intro T264 h266 v267 lo268 fs269 K265 Kp270 q271
      rcases q271 with qq271_0 | qq271_1
      · obtain ⟨rfl, rfl, f272⟩ := qq271_0
        have K273 := K265.to 1 4 [a178]
        refine Owe.stk [(.int 1)] ?_
        refine oIfNo K273 81 (hb hby at_78) (XT.i0_eq_f (by decide)) ?_
        refine oAload K273 83 (hb hby at_81) rfl rfl ?_
        refine oIload K273 85 (hb hby at_83) rfl ?_
        refine oCaload K273 86 (A260.keep Kp270 nin0) 1 (by decide) (by decide) rfl (hb hby at_85) ?_
        refine oStatic K273 89 0 (wq hw 64) (wq hw 65) (wq hw 4) (wq hw 66) (rmIsL l Z a0 z0 fm G r212 h266 K273.old K273.both ) [(.int r212)] [] (lenOf pd262 rfl) (hb hby at_86) ?_
        intro T274 h276 v277 lo278 fs279 K275 Kp280 q281
        rcases q281 with qq281_0 | qq281_1
        · obtain ⟨rfl, rfl, f282⟩ := qq281_0
          have K283 := K275.to 1 4 [a178]
          refine Owe.stk [(.int 1)] ?_
          refine oIfNo K283 92 (hb hby at_89) (XT.i0_eq_f (by decide)) ?_
          refine oIconstV K283 93 (1 : Int32) (hb hby at_92) rfl ?_
          exact oRetI K283 [] (t := .boolean) hret (by simp) (by decide) (hb hby at_93) (by decide) (by decide) hlk (fun x hx => by cases hx) ⟨rfl, rfl⟩
        · obtain ⟨rfl, rfl, f284⟩ := qq281_1
          have K285 := K275.to 1 4 [a178]
          refine Owe.stk [(.int 0)] ?_
          refine oIfYes K285 94 (hb hby at_89) (XT.i0_eq_t (by decide)) ?_
          exact (sgT2_1 l Z a0 z0 fm G p0 p1 p2 p3 p4 a178 r193 r212 r231 r250 hby hret hlk h276 (K285.to 1 4 [a178] (q := by simp)) ((A260.keep Kp270 nin0).keep Kp280 nin0) f194 f195 f213 f214 f232 f233 f251 f252)
      · obtain ⟨rfl, rfl, f286⟩ := qq271_1
        have K287 := K265.to 1 4 [a178]
        refine Owe.stk [(.int 0)] ?_
        refine oIfYes K287 94 (hb hby at_78) (XT.i0_eq_t (by decide)) ?_
        exact (sgT2_1 l Z a0 z0 fm G p0 p1 p2 p3 p4 a178 r193 r212 r231 r250 hby hret hlk h266 (K287.to 1 4 [a178] (q := by simp)) (A260.keep Kp270 nin0) f194 f195 f213 f214 f232 f233 f251 f252)
    · rw [hn263]
      show Owe _ _ _ _ T258 (mkF m 56 #[.val (.int p0), .val (.int p1), .val (.int p2), .val (.int p3), .val (.int p4), .val (.int 2), .val (.int 2), .val (.ref a178), .unset, .unset] [])
      refine oIload K259 58 (hb hby at_56) rfl ?_
      refine oIfNo K259 61 (hb hby at_58) (XT.i0_le_f (by decide)) ?_
      refine oIload K259 63 (hb hby at_61) rfl ?_
      refine oIload K259 65 (hb hby at_63) rfl ?_
      refine oIcmpYes K259 94 (hb hby at_65) (XT.ii_ge_t (by decide)) ?_
      exact (sgT2_2 l Z a0 z0 fm G p0 p1 p2 p3 p4 a178 r193 r212 r231 r250 hby hret hlk h254 (K259.to 1 4 [a178] (q := by simp)) A260 f194 f195 f213 f214 f232 f233 f251 f252)
  · rw [hn4]
    show Owe _ _ _ _ s₁ (mkF m 9 #[.val (.int p0), .val (.int p1), .val (.int p2), .val (.int p3), .val (.int p4), .val (.int 3), .unset, .unset, .unset, .unset] [])
    refine oIload K0 11 (hb hby at_9) rfl ?_
    refine oIconstV K0 12 (3 : Int32) (hb hby at_11) rfl ?_
    refine oIushr K0 13 (hb hby at_12) ?_
    refine oLdcI K0 15 (wq hw 0) (hb hby at_13) ?_
    refine oIand K0 16 (hb hby at_15) ?_
    refine oIload K0 18 (hb hby at_16) rfl ?_
    refine oIconstV K0 19 (1 : Int32) (hb hby at_18) rfl ?_
    refine oIadd K0 20 (hb hby at_19) ?_
    show Owe _ _ _ _ s₁ (mkF m 20 #[.val (.int p0), .val (.int p1), .val (.int p2), .val (.int p3), .val (.int p4), .val (.int 3), .unset, .unset, .unset, .unset] [(.int 4), (.int ((XT.ushr p4 (3 : Int32)) &&& (2147483647 : Int32)))])
    refine oIrem K0 21 (hb hby at_20) (by decide) ?_
    refine oIstore K0 23 (hb hby at_21) (l' := #[.val (.int p0), .val (.int p1), .val (.int p2), .val (.int p3), .val (.int p4), .val (.int 3), .val (.int (((XT.ushr p4 (3 : Int32)) &&& (2147483647 : Int32)) % (4 : Int32))), .unset, .unset, .unset]) rfl ?_
    refine oIconstV K0 24 (4 : Int32) (hb hby at_23) rfl ?_
    refine oNewP K0 26 (ty := .char) 4 (wq hw 1) rfl (by decide) (by decide) (by decide) (hb hby at_24) (by decide) (by decide) ?_
    intro T293 h288 a289 g290 K294 E291 A292
    have K295 := K294.to 1 4 [a289]
    refine oDup K295 27 (hb hby at_26) rfl ?_
    refine oIconstV K295 28 (0 : Int32) (hb hby at_27) rfl ?_
    refine oIloadN K295 29 (hb hby at_28) rfl ?_
    refine oStatic K295 32 3 (wq hw 2) (wq hw 3) (wq hw 4) (wq hw 5) (rmDraw l Z a0 z0 fm G p0 h288 K295.old K295.both ) [(.int p0)] [(.int 0), (.ref a289), (.ref a289)] (lenOf pd710 rfl) (hb hby at_29) ?_
    intro T296 h298 v299 lo300 fs301 K297 Kp302 q303
    obtain ⟨r304, rfl, rfl, f305, f306⟩ := q303
    have K307 := K297.to 1 4 [a289]
    refine Owe.stk [(.int r304), (.int 0), (.ref a289), (.ref a289)] ?_
    refine oCastore K307 33 (by simp) (A292.keep Kp302 nin0) 0 (by decide) (by decide) nlt (nar_rng f305 f306) (hb hby at_32) ?_
    intro T312 h308 lo311 K313 W309 A310
    have A314 : Ary Z h308 a289 .char [(.int r304), (.int 0), (.int 0), (.int 0)] := A310
    refine oDup K313 34 (hb hby at_33) rfl ?_
    refine oIconstV K313 35 (1 : Int32) (hb hby at_34) rfl ?_
    refine oIloadN K313 36 (hb hby at_35) rfl ?_
    refine oStatic K313 39 3 (wq hw 2) (wq hw 3) (wq hw 4) (wq hw 5) (rmDraw l Z a0 z0 fm G p1 h308 K313.old K313.both ) [(.int p1)] [(.int 1), (.ref a289), (.ref a289)] (lenOf pd710 rfl) (hb hby at_36) ?_
    intro T315 h317 v318 lo319 fs320 K316 Kp321 q322
    obtain ⟨r323, rfl, rfl, f324, f325⟩ := q322
    have K326 := K316.to 1 4 [a289]
    refine Owe.stk [(.int r323), (.int 1), (.ref a289), (.ref a289)] ?_
    refine oCastore K326 40 (by simp) (A314.keep Kp321 nin0) 1 (by decide) (by decide) nlt (nar_rng f324 f325) (hb hby at_39) ?_
    intro T331 h327 lo330 K332 W328 A329
    have A333 : Ary Z h327 a289 .char [(.int r304), (.int r323), (.int 0), (.int 0)] := A329
    refine oDup K332 41 (hb hby at_40) rfl ?_
    refine oIconstV K332 42 (2 : Int32) (hb hby at_41) rfl ?_
    refine oIloadN K332 43 (hb hby at_42) rfl ?_
    refine oStatic K332 46 3 (wq hw 2) (wq hw 3) (wq hw 4) (wq hw 5) (rmDraw l Z a0 z0 fm G p2 h327 K332.old K332.both ) [(.int p2)] [(.int 2), (.ref a289), (.ref a289)] (lenOf pd710 rfl) (hb hby at_43) ?_
    intro T334 h336 v337 lo338 fs339 K335 Kp340 q341
    obtain ⟨r342, rfl, rfl, f343, f344⟩ := q341
    have K345 := K335.to 1 4 [a289]
    refine Owe.stk [(.int r342), (.int 2), (.ref a289), (.ref a289)] ?_
    refine oCastore K345 47 (by simp) (A333.keep Kp340 nin0) 2 (by decide) (by decide) nlt (nar_rng f343 f344) (hb hby at_46) ?_
    intro T350 h346 lo349 K351 W347 A348
    have A352 : Ary Z h346 a289 .char [(.int r304), (.int r323), (.int r342), (.int 0)] := A348
    refine oDup K351 48 (hb hby at_47) rfl ?_
    refine oIconstV K351 49 (3 : Int32) (hb hby at_48) rfl ?_
    refine oIloadN K351 50 (hb hby at_49) rfl ?_
    refine oStatic K351 53 3 (wq hw 2) (wq hw 3) (wq hw 4) (wq hw 5) (rmDraw l Z a0 z0 fm G p3 h346 K351.old K351.both ) [(.int p3)] [(.int 3), (.ref a289), (.ref a289)] (lenOf pd710 rfl) (hb hby at_50) ?_
    intro T353 h355 v356 lo357 fs358 K354 Kp359 q360
    obtain ⟨r361, rfl, rfl, f362, f363⟩ := q360
    have K364 := K354.to 1 4 [a289]
    refine Owe.stk [(.int r361), (.int 3), (.ref a289), (.ref a289)] ?_
    refine oCastore K364 54 (by simp) (A352.keep Kp359 nin0) 3 (by decide) (by decide) nlt (nar_rng f362 f363) (hb hby at_53) ?_
    intro T369 h365 lo368 K370 W366 A367
    have A371 : Ary Z h365 a289 .char [(.int r304), (.int r323), (.int r342), (.int r361)] := A367
    refine oAstore K370 56 (hb hby at_54) rfl (l' := #[.val (.int p0), .val (.int p1), .val (.int p2), .val (.int p3), .val (.int p4), .val (.int 3), .val (.int (((XT.ushr p4 (3 : Int32)) &&& (2147483647 : Int32)) % (4 : Int32))), .val (.ref a289), .unset, .unset]) rfl ?_
    rcases own_m4 (own_andM (XT.ushr p4 (3 : Int32))) with hn372 | hn373 | hn374 | hn375
    · rw [hn372]
      show Owe _ _ _ _ T369 (mkF m 56 #[.val (.int p0), .val (.int p1), .val (.int p2), .val (.int p3), .val (.int p4), .val (.int 3), .val (.int 0), .val (.ref a289), .unset, .unset] [])
      refine oIload K370 58 (hb hby at_56) rfl ?_
      refine oIfYes K370 94 (hb hby at_58) (XT.i0_le_t (by decide)) ?_
      exact (sgT3_0 l Z a0 z0 fm G p0 p1 p2 p3 p4 a289 r304 r323 r342 r361 hby hret hlk h365 (K370.to 1 4 [a289] (q := by simp)) A371 f305 f306 f324 f325 f343 f344 f362 f363)
    · rw [hn373]
      show Owe _ _ _ _ T369 (mkF m 56 #[.val (.int p0), .val (.int p1), .val (.int p2), .val (.int p3), .val (.int p4), .val (.int 3), .val (.int 1), .val (.ref a289), .unset, .unset] [])
      refine oIload K370 58 (hb hby at_56) rfl ?_
      refine oIfNo K370 61 (hb hby at_58) (XT.i0_le_f (by decide)) ?_
      refine oIload K370 63 (hb hby at_61) rfl ?_
      refine oIload K370 65 (hb hby at_63) rfl ?_
      refine oIcmpNo K370 68 (hb hby at_65) (XT.ii_ge_f (by decide)) ?_
      refine oAload K370 70 (hb hby at_68) rfl rfl ?_
      refine oIload K370 72 (hb hby at_70) rfl ?_
      refine oIconstV K370 73 (1 : Int32) (hb hby at_72) rfl ?_
      refine oIsub K370 74 (hb hby at_73) ?_
      show Owe _ _ _ _ T369 (mkF m 74 #[.val (.int p0), .val (.int p1), .val (.int p2), .val (.int p3), .val (.int p4), .val (.int 3), .val (.int 1), .val (.ref a289), .unset, .unset] [(.int 0), (.ref a289)])
      refine oCaload K370 75 A371 0 (by decide) (by decide) rfl (hb hby at_74) ?_
      refine oStatic K370 78 0 (wq hw 61) (wq hw 62) (wq hw 4) (wq hw 63) (rmIsH l Z a0 z0 fm G r304 h365 K370.old K370.both ) [(.int r304)] [] (lenOf pd262 rfl) (hb hby at_75) ?_
      intro T376 h378 v379 lo380 fs381 K377 Kp382 q383
      rcases q383 with qq383_0 | qq383_1
      · obtain ⟨rfl, rfl, f384⟩ := qq383_0
        have K385 := K377.to 1 4 [a289]
        refine Owe.stk [(.int 1)] ?_
        refine oIfNo K385 81 (hb hby at_78) (XT.i0_eq_f (by decide)) ?_
        refine oAload K385 83 (hb hby at_81) rfl rfl ?_
        refine oIload K385 85 (hb hby at_83) rfl ?_
        refine oCaload K385 86 (A371.keep Kp382 nin0) 1 (by decide) (by decide) rfl (hb hby at_85) ?_
        refine oStatic K385 89 0 (wq hw 64) (wq hw 65) (wq hw 4) (wq hw 66) (rmIsL l Z a0 z0 fm G r323 h378 K385.old K385.both ) [(.int r323)] [] (lenOf pd262 rfl) (hb hby at_86) ?_
        intro T386 h388 v389 lo390 fs391 K387 Kp392 q393
        rcases q393 with qq393_0 | qq393_1
        · obtain ⟨rfl, rfl, f394⟩ := qq393_0
          have K395 := K387.to 1 4 [a289]
          refine Owe.stk [(.int 1)] ?_
          refine oIfNo K395 92 (hb hby at_89) (XT.i0_eq_f (by decide)) ?_
          refine oIconstV K395 93 (1 : Int32) (hb hby at_92) rfl ?_
          exact oRetI K395 [] (t := .boolean) hret (by simp) (by decide) (hb hby at_93) (by decide) (by decide) hlk (fun x hx => by cases hx) ⟨rfl, rfl⟩
        · obtain ⟨rfl, rfl, f396⟩ := qq393_1
          have K397 := K387.to 1 4 [a289]
          refine Owe.stk [(.int 0)] ?_
          refine oIfYes K397 94 (hb hby at_89) (XT.i0_eq_t (by decide)) ?_
          exact (sgT3_1 l Z a0 z0 fm G p0 p1 p2 p3 p4 a289 r304 r323 r342 r361 hby hret hlk h388 (K397.to 1 4 [a289] (q := by simp)) ((A371.keep Kp382 nin0).keep Kp392 nin0) f305 f306 f324 f325 f343 f344 f362 f363)
      · obtain ⟨rfl, rfl, f398⟩ := qq383_1
        have K399 := K377.to 1 4 [a289]
        refine Owe.stk [(.int 0)] ?_
        refine oIfYes K399 94 (hb hby at_78) (XT.i0_eq_t (by decide)) ?_
        exact (sgT3_1 l Z a0 z0 fm G p0 p1 p2 p3 p4 a289 r304 r323 r342 r361 hby hret hlk h378 (K399.to 1 4 [a289] (q := by simp)) (A371.keep Kp382 nin0) f305 f306 f324 f325 f343 f344 f362 f363)
    · rw [hn374]
      show Owe _ _ _ _ T369 (mkF m 56 #[.val (.int p0), .val (.int p1), .val (.int p2), .val (.int p3), .val (.int p4), .val (.int 3), .val (.int 2), .val (.ref a289), .unset, .unset] [])
      refine oIload K370 58 (hb hby at_56) rfl ?_
      refine oIfNo K370 61 (hb hby at_58) (XT.i0_le_f (by decide)) ?_
      refine oIload K370 63 (hb hby at_61) rfl ?_
      refine oIload K370 65 (hb hby at_63) rfl ?_
      refine oIcmpNo K370 68 (hb hby at_65) (XT.ii_ge_f (by decide)) ?_
      refine oAload K370 70 (hb hby at_68) rfl rfl ?_
      refine oIload K370 72 (hb hby at_70) rfl ?_
      refine oIconstV K370 73 (1 : Int32) (hb hby at_72) rfl ?_
      refine oIsub K370 74 (hb hby at_73) ?_
      show Owe _ _ _ _ T369 (mkF m 74 #[.val (.int p0), .val (.int p1), .val (.int p2), .val (.int p3), .val (.int p4), .val (.int 3), .val (.int 2), .val (.ref a289), .unset, .unset] [(.int 1), (.ref a289)])
      refine oCaload K370 75 A371 1 (by decide) (by decide) rfl (hb hby at_74) ?_
      refine oStatic K370 78 0 (wq hw 61) (wq hw 62) (wq hw 4) (wq hw 63) (rmIsH l Z a0 z0 fm G r323 h365 K370.old K370.both ) [(.int r323)] [] (lenOf pd262 rfl) (hb hby at_75) ?_
      intro T400 h402 v403 lo404 fs405 K401 Kp406 q407
      rcases q407 with qq407_0 | qq407_1
      · obtain ⟨rfl, rfl, f408⟩ := qq407_0
        have K409 := K401.to 1 4 [a289]
        refine Owe.stk [(.int 1)] ?_
        refine oIfNo K409 81 (hb hby at_78) (XT.i0_eq_f (by decide)) ?_
        refine oAload K409 83 (hb hby at_81) rfl rfl ?_
        refine oIload K409 85 (hb hby at_83) rfl ?_
        refine oCaload K409 86 (A371.keep Kp406 nin0) 2 (by decide) (by decide) rfl (hb hby at_85) ?_
        refine oStatic K409 89 0 (wq hw 64) (wq hw 65) (wq hw 4) (wq hw 66) (rmIsL l Z a0 z0 fm G r342 h402 K409.old K409.both ) [(.int r342)] [] (lenOf pd262 rfl) (hb hby at_86) ?_
        intro T410 h412 v413 lo414 fs415 K411 Kp416 q417
        rcases q417 with qq417_0 | qq417_1
        · obtain ⟨rfl, rfl, f418⟩ := qq417_0
          have K419 := K411.to 1 4 [a289]
          refine Owe.stk [(.int 1)] ?_
          refine oIfNo K419 92 (hb hby at_89) (XT.i0_eq_f (by decide)) ?_
          refine oIconstV K419 93 (1 : Int32) (hb hby at_92) rfl ?_
          exact oRetI K419 [] (t := .boolean) hret (by simp) (by decide) (hb hby at_93) (by decide) (by decide) hlk (fun x hx => by cases hx) ⟨rfl, rfl⟩
        · obtain ⟨rfl, rfl, f420⟩ := qq417_1
          have K421 := K411.to 1 4 [a289]
          refine Owe.stk [(.int 0)] ?_
          refine oIfYes K421 94 (hb hby at_89) (XT.i0_eq_t (by decide)) ?_
          exact (sgT3_2 l Z a0 z0 fm G p0 p1 p2 p3 p4 a289 r304 r323 r342 r361 hby hret hlk h412 (K421.to 1 4 [a289] (q := by simp)) ((A371.keep Kp406 nin0).keep Kp416 nin0) f305 f306 f324 f325 f343 f344 f362 f363)
      · obtain ⟨rfl, rfl, f422⟩ := qq407_1
        have K423 := K401.to 1 4 [a289]
        refine Owe.stk [(.int 0)] ?_
        refine oIfYes K423 94 (hb hby at_78) (XT.i0_eq_t (by decide)) ?_
        exact (sgT3_2 l Z a0 z0 fm G p0 p1 p2 p3 p4 a289 r304 r323 r342 r361 hby hret hlk h402 (K423.to 1 4 [a289] (q := by simp)) (A371.keep Kp406 nin0) f305 f306 f324 f325 f343 f344 f362 f363)
    · rw [hn375]
      show Owe _ _ _ _ T369 (mkF m 56 #[.val (.int p0), .val (.int p1), .val (.int p2), .val (.int p3), .val (.int p4), .val (.int 3), .val (.int 3), .val (.ref a289), .unset, .unset] [])
      refine oIload K370 58 (hb hby at_56) rfl ?_
      refine oIfNo K370 61 (hb hby at_58) (XT.i0_le_f (by decide)) ?_
      refine oIload K370 63 (hb hby at_61) rfl ?_
      refine oIload K370 65 (hb hby at_63) rfl ?_
      refine oIcmpYes K370 94 (hb hby at_65) (XT.ii_ge_t (by decide)) ?_
      exact (sgT3_3 l Z a0 z0 fm G p0 p1 p2 p3 p4 a289 r304 r323 r342 r361 hby hret hlk h365 (K370.to 1 4 [a289] (q := by simp)) A371 f305 f306 f324 f325 f343 f344 f362 f363)
  · rw [hn5]
    show Owe _ _ _ _ s₁ (mkF m 9 #[.val (.int p0), .val (.int p1), .val (.int p2), .val (.int p3), .val (.int p4), .val (.int 4), .unset, .unset, .unset, .unset] [])
    refine oIload K0 11 (hb hby at_9) rfl ?_
    refine oIconstV K0 12 (3 : Int32) (hb hby at_11) rfl ?_
    refine oIushr K0 13 (hb hby at_12) ?_
    refine oLdcI K0 15 (wq hw 0) (hb hby at_13) ?_
    refine oIand K0 16 (hb hby at_15) ?_
    refine oIload K0 18 (hb hby at_16) rfl ?_
    refine oIconstV K0 19 (1 : Int32) (hb hby at_18) rfl ?_
    refine oIadd K0 20 (hb hby at_19) ?_
    show Owe _ _ _ _ s₁ (mkF m 20 #[.val (.int p0), .val (.int p1), .val (.int p2), .val (.int p3), .val (.int p4), .val (.int 4), .unset, .unset, .unset, .unset] [(.int 5), (.int ((XT.ushr p4 (3 : Int32)) &&& (2147483647 : Int32)))])
    refine oIrem K0 21 (hb hby at_20) (by decide) ?_
    refine oIstore K0 23 (hb hby at_21) (l' := #[.val (.int p0), .val (.int p1), .val (.int p2), .val (.int p3), .val (.int p4), .val (.int 4), .val (.int (((XT.ushr p4 (3 : Int32)) &&& (2147483647 : Int32)) % (5 : Int32))), .unset, .unset, .unset]) rfl ?_
    refine oIconstV K0 24 (4 : Int32) (hb hby at_23) rfl ?_
    refine oNewP K0 26 (ty := .char) 4 (wq hw 1) rfl (by decide) (by decide) (by decide) (hb hby at_24) (by decide) (by decide) ?_
    intro T429 h424 a425 g426 K430 E427 A428
    have K431 := K430.to 1 4 [a425]
    refine oDup K431 27 (hb hby at_26) rfl ?_
    refine oIconstV K431 28 (0 : Int32) (hb hby at_27) rfl ?_
    refine oIloadN K431 29 (hb hby at_28) rfl ?_
    refine oStatic K431 32 3 (wq hw 2) (wq hw 3) (wq hw 4) (wq hw 5) (rmDraw l Z a0 z0 fm G p0 h424 K431.old K431.both ) [(.int p0)] [(.int 0), (.ref a425), (.ref a425)] (lenOf pd710 rfl) (hb hby at_29) ?_
    intro T432 h434 v435 lo436 fs437 K433 Kp438 q439
    obtain ⟨r440, rfl, rfl, f441, f442⟩ := q439
    have K443 := K433.to 1 4 [a425]
    refine Owe.stk [(.int r440), (.int 0), (.ref a425), (.ref a425)] ?_
    refine oCastore K443 33 (by simp) (A428.keep Kp438 nin0) 0 (by decide) (by decide) nlt (nar_rng f441 f442) (hb hby at_32) ?_
    intro T448 h444 lo447 K449 W445 A446
    have A450 : Ary Z h444 a425 .char [(.int r440), (.int 0), (.int 0), (.int 0)] := A446
    refine oDup K449 34 (hb hby at_33) rfl ?_
    refine oIconstV K449 35 (1 : Int32) (hb hby at_34) rfl ?_
    refine oIloadN K449 36 (hb hby at_35) rfl ?_
    refine oStatic K449 39 3 (wq hw 2) (wq hw 3) (wq hw 4) (wq hw 5) (rmDraw l Z a0 z0 fm G p1 h444 K449.old K449.both ) [(.int p1)] [(.int 1), (.ref a425), (.ref a425)] (lenOf pd710 rfl) (hb hby at_36) ?_
    intro T451 h453 v454 lo455 fs456 K452 Kp457 q458
    obtain ⟨r459, rfl, rfl, f460, f461⟩ := q458
    have K462 := K452.to 1 4 [a425]
    refine Owe.stk [(.int r459), (.int 1), (.ref a425), (.ref a425)] ?_
    refine oCastore K462 40 (by simp) (A450.keep Kp457 nin0) 1 (by decide) (by decide) nlt (nar_rng f460 f461) (hb hby at_39) ?_
    intro T467 h463 lo466 K468 W464 A465
    have A469 : Ary Z h463 a425 .char [(.int r440), (.int r459), (.int 0), (.int 0)] := A465
    refine oDup K468 41 (hb hby at_40) rfl ?_
    refine oIconstV K468 42 (2 : Int32) (hb hby at_41) rfl ?_
    refine oIloadN K468 43 (hb hby at_42) rfl ?_
    refine oStatic K468 46 3 (wq hw 2) (wq hw 3) (wq hw 4) (wq hw 5) (rmDraw l Z a0 z0 fm G p2 h463 K468.old K468.both ) [(.int p2)] [(.int 2), (.ref a425), (.ref a425)] (lenOf pd710 rfl) (hb hby at_43) ?_
    intro T470 h472 v473 lo474 fs475 K471 Kp476 q477
    obtain ⟨r478, rfl, rfl, f479, f480⟩ := q477
    have K481 := K471.to 1 4 [a425]
    refine Owe.stk [(.int r478), (.int 2), (.ref a425), (.ref a425)] ?_
    refine oCastore K481 47 (by simp) (A469.keep Kp476 nin0) 2 (by decide) (by decide) nlt (nar_rng f479 f480) (hb hby at_46) ?_
    intro T486 h482 lo485 K487 W483 A484
    have A488 : Ary Z h482 a425 .char [(.int r440), (.int r459), (.int r478), (.int 0)] := A484
    refine oDup K487 48 (hb hby at_47) rfl ?_
    refine oIconstV K487 49 (3 : Int32) (hb hby at_48) rfl ?_
    refine oIloadN K487 50 (hb hby at_49) rfl ?_
    refine oStatic K487 53 3 (wq hw 2) (wq hw 3) (wq hw 4) (wq hw 5) (rmDraw l Z a0 z0 fm G p3 h482 K487.old K487.both ) [(.int p3)] [(.int 3), (.ref a425), (.ref a425)] (lenOf pd710 rfl) (hb hby at_50) ?_
    intro T489 h491 v492 lo493 fs494 K490 Kp495 q496
    obtain ⟨r497, rfl, rfl, f498, f499⟩ := q496
    have K500 := K490.to 1 4 [a425]
    refine Owe.stk [(.int r497), (.int 3), (.ref a425), (.ref a425)] ?_
    refine oCastore K500 54 (by simp) (A488.keep Kp495 nin0) 3 (by decide) (by decide) nlt (nar_rng f498 f499) (hb hby at_53) ?_
    intro T505 h501 lo504 K506 W502 A503
    have A507 : Ary Z h501 a425 .char [(.int r440), (.int r459), (.int r478), (.int r497)] := A503
    refine oAstore K506 56 (hb hby at_54) rfl (l' := #[.val (.int p0), .val (.int p1), .val (.int p2), .val (.int p3), .val (.int p4), .val (.int 4), .val (.int (((XT.ushr p4 (3 : Int32)) &&& (2147483647 : Int32)) % (5 : Int32))), .val (.ref a425), .unset, .unset]) rfl ?_
    rcases own_m5 (own_andM (XT.ushr p4 (3 : Int32))) with hn508 | hn509 | hn510 | hn511 | hn512
    · rw [hn508]
      show Owe _ _ _ _ T505 (mkF m 56 #[.val (.int p0), .val (.int p1), .val (.int p2), .val (.int p3), .val (.int p4), .val (.int 4), .val (.int 0), .val (.ref a425), .unset, .unset] [])
      refine oIload K506 58 (hb hby at_56) rfl ?_
      refine oIfYes K506 94 (hb hby at_58) (XT.i0_le_t (by decide)) ?_
      exact (sgT4_0 l Z a0 z0 fm G p0 p1 p2 p3 p4 a425 r440 r459 r478 r497 hby hret hlk h501 (K506.to 1 4 [a425] (q := by simp)) A507 f441 f442 f460 f461 f479 f480 f498 f499)
    · rw [hn509]
      show Owe _ _ _ _ T505 (mkF m 56 #[.val (.int p0), .val (.int p1), .val (.int p2), .val (.int p3), .val (.int p4), .val (.int 4), .val (.int 1), .val (.ref a425), .unset, .unset] [])
      refine oIload K506 58 (hb hby at_56) rfl ?_
      refine oIfNo K506 61 (hb hby at_58) (XT.i0_le_f (by decide)) ?_
      refine oIload K506 63 (hb hby at_61) rfl ?_
      refine oIload K506 65 (hb hby at_63) rfl ?_
      refine oIcmpNo K506 68 (hb hby at_65) (XT.ii_ge_f (by decide)) ?_
      refine oAload K506 70 (hb hby at_68) rfl rfl ?_
      refine oIload K506 72 (hb hby at_70) rfl ?_
      refine oIconstV K506 73 (1 : Int32) (hb hby at_72) rfl ?_
      refine oIsub K506 74 (hb hby at_73) ?_
      show Owe _ _ _ _ T505 (mkF m 74 #[.val (.int p0), .val (.int p1), .val (.int p2), .val (.int p3), .val (.int p4), .val (.int 4), .val (.int 1), .val (.ref a425), .unset, .unset] [(.int 0), (.ref a425)])
      refine oCaload K506 75 A507 0 (by decide) (by decide) rfl (hb hby at_74) ?_
      refine oStatic K506 78 0 (wq hw 61) (wq hw 62) (wq hw 4) (wq hw 63) (rmIsH l Z a0 z0 fm G r440 h501 K506.old K506.both ) [(.int r440)] [] (lenOf pd262 rfl) (hb hby at_75) ?_
      intro T513 h515 v516 lo517 fs518 K514 Kp519 q520
      rcases q520 with qq520_0 | qq520_1
      · obtain ⟨rfl, rfl, f521⟩ := qq520_0
        have K522 := K514.to 1 4 [a425]
        refine Owe.stk [(.int 1)] ?_
        refine oIfNo K522 81 (hb hby at_78) (XT.i0_eq_f (by decide)) ?_
        refine oAload K522 83 (hb hby at_81) rfl rfl ?_
        refine oIload K522 85 (hb hby at_83) rfl ?_
        refine oCaload K522 86 (A507.keep Kp519 nin0) 1 (by decide) (by decide) rfl (hb hby at_85) ?_
        refine oStatic K522 89 0 (wq hw 64) (wq hw 65) (wq hw 4) (wq hw 66) (rmIsL l Z a0 z0 fm G r459 h515 K522.old K522.both ) [(.int r459)] [] (lenOf pd262 rfl) (hb hby at_86) ?_
        intro T523 h525 v526 lo527 fs528 K524 Kp529 q530
        rcases q530 with qq530_0 | qq530_1
        · obtain ⟨rfl, rfl, f531⟩ := qq530_0
          have K532 := K524.to 1 4 [a425]
          refine Owe.stk [(.int 1)] ?_
          refine oIfNo K532 92 (hb hby at_89) (XT.i0_eq_f (by decide)) ?_
          refine oIconstV K532 93 (1 : Int32) (hb hby at_92) rfl ?_
          exact oRetI K532 [] (t := .boolean) hret (by simp) (by decide) (hb hby at_93) (by decide) (by decide) hlk (fun x hx => by cases hx) ⟨rfl, rfl⟩
        · obtain ⟨rfl, rfl, f533⟩ := qq530_1
          have K534 := K524.to 1 4 [a425]
          refine Owe.stk [(.int 0)] ?_
          refine oIfYes K534 94 (hb hby at_89) (XT.i0_eq_t (by decide)) ?_
          exact (sgT4_1 l Z a0 z0 fm G p0 p1 p2 p3 p4 a425 r440 r459 r478 r497 hby hret hlk h525 (K534.to 1 4 [a425] (q := by simp)) ((A507.keep Kp519 nin0).keep Kp529 nin0) f441 f442 f460 f461 f479 f480 f498 f499)
      · obtain ⟨rfl, rfl, f535⟩ := qq520_1
        have K536 := K514.to 1 4 [a425]
        refine Owe.stk [(.int 0)] ?_
        refine oIfYes K536 94 (hb hby at_78) (XT.i0_eq_t (by decide)) ?_
        exact (sgT4_1 l Z a0 z0 fm G p0 p1 p2 p3 p4 a425 r440 r459 r478 r497 hby hret hlk h515 (K536.to 1 4 [a425] (q := by simp)) (A507.keep Kp519 nin0) f441 f442 f460 f461 f479 f480 f498 f499)
    · rw [hn510]
      show Owe _ _ _ _ T505 (mkF m 56 #[.val (.int p0), .val (.int p1), .val (.int p2), .val (.int p3), .val (.int p4), .val (.int 4), .val (.int 2), .val (.ref a425), .unset, .unset] [])
      refine oIload K506 58 (hb hby at_56) rfl ?_
      refine oIfNo K506 61 (hb hby at_58) (XT.i0_le_f (by decide)) ?_
      refine oIload K506 63 (hb hby at_61) rfl ?_
      refine oIload K506 65 (hb hby at_63) rfl ?_
      refine oIcmpNo K506 68 (hb hby at_65) (XT.ii_ge_f (by decide)) ?_
      refine oAload K506 70 (hb hby at_68) rfl rfl ?_
      refine oIload K506 72 (hb hby at_70) rfl ?_
      refine oIconstV K506 73 (1 : Int32) (hb hby at_72) rfl ?_
      refine oIsub K506 74 (hb hby at_73) ?_
      show Owe _ _ _ _ T505 (mkF m 74 #[.val (.int p0), .val (.int p1), .val (.int p2), .val (.int p3), .val (.int p4), .val (.int 4), .val (.int 2), .val (.ref a425), .unset, .unset] [(.int 1), (.ref a425)])
      refine oCaload K506 75 A507 1 (by decide) (by decide) rfl (hb hby at_74) ?_
      refine oStatic K506 78 0 (wq hw 61) (wq hw 62) (wq hw 4) (wq hw 63) (rmIsH l Z a0 z0 fm G r459 h501 K506.old K506.both ) [(.int r459)] [] (lenOf pd262 rfl) (hb hby at_75) ?_
      intro T537 h539 v540 lo541 fs542 K538 Kp543 q544
      rcases q544 with qq544_0 | qq544_1
      · obtain ⟨rfl, rfl, f545⟩ := qq544_0
        have K546 := K538.to 1 4 [a425]
        refine Owe.stk [(.int 1)] ?_
        refine oIfNo K546 81 (hb hby at_78) (XT.i0_eq_f (by decide)) ?_
        refine oAload K546 83 (hb hby at_81) rfl rfl ?_
        refine oIload K546 85 (hb hby at_83) rfl ?_
        refine oCaload K546 86 (A507.keep Kp543 nin0) 2 (by decide) (by decide) rfl (hb hby at_85) ?_
        refine oStatic K546 89 0 (wq hw 64) (wq hw 65) (wq hw 4) (wq hw 66) (rmIsL l Z a0 z0 fm G r478 h539 K546.old K546.both ) [(.int r478)] [] (lenOf pd262 rfl) (hb hby at_86) ?_
        intro T547 h549 v550 lo551 fs552 K548 Kp553 q554
        rcases q554 with qq554_0 | qq554_1
        · obtain ⟨rfl, rfl, f555⟩ := qq554_0
          have K556 := K548.to 1 4 [a425]
          refine Owe.stk [(.int 1)] ?_
          refine oIfNo K556 92 (hb hby at_89) (XT.i0_eq_f (by decide)) ?_
          refine oIconstV K556 93 (1 : Int32) (hb hby at_92) rfl ?_
          exact oRetI K556 [] (t := .boolean) hret (by simp) (by decide) (hb hby at_93) (by decide) (by decide) hlk (fun x hx => by cases hx) ⟨rfl, rfl⟩
        · obtain ⟨rfl, rfl, f557⟩ := qq554_1
          have K558 := K548.to 1 4 [a425]
          refine Owe.stk [(.int 0)] ?_
          refine oIfYes K558 94 (hb hby at_89) (XT.i0_eq_t (by decide)) ?_
          exact (sgT4_2 l Z a0 z0 fm G p0 p1 p2 p3 p4 a425 r440 r459 r478 r497 hby hret hlk h549 (K558.to 1 4 [a425] (q := by simp)) ((A507.keep Kp543 nin0).keep Kp553 nin0) f441 f442 f460 f461 f479 f480 f498 f499)
      · obtain ⟨rfl, rfl, f559⟩ := qq544_1
        have K560 := K538.to 1 4 [a425]
        refine Owe.stk [(.int 0)] ?_
        refine oIfYes K560 94 (hb hby at_78) (XT.i0_eq_t (by decide)) ?_
        exact (sgT4_2 l Z a0 z0 fm G p0 p1 p2 p3 p4 a425 r440 r459 r478 r497 hby hret hlk h539 (K560.to 1 4 [a425] (q := by simp)) (A507.keep Kp543 nin0) f441 f442 f460 f461 f479 f480 f498 f499)
    · rw [hn511]
      show Owe _ _ _ _ T505 (mkF m 56 #[.val (.int p0), .val (.int p1), .val (.int p2), .val (.int p3), .val (.int p4), .val (.int 4), .val (.int 3), .val (.ref a425), .unset, .unset] [])
      refine oIload K506 58 (hb hby at_56) rfl ?_
      refine oIfNo K506 61 (hb hby at_58) (XT.i0_le_f (by decide)) ?_
      refine oIload K506 63 (hb hby at_61) rfl ?_
      refine oIload K506 65 (hb hby at_63) rfl ?_
      refine oIcmpNo K506 68 (hb hby at_65) (XT.ii_ge_f (by decide)) ?_
      refine oAload K506 70 (hb hby at_68) rfl rfl ?_
      refine oIload K506 72 (hb hby at_70) rfl ?_
      refine oIconstV K506 73 (1 : Int32) (hb hby at_72) rfl ?_
      refine oIsub K506 74 (hb hby at_73) ?_
      show Owe _ _ _ _ T505 (mkF m 74 #[.val (.int p0), .val (.int p1), .val (.int p2), .val (.int p3), .val (.int p4), .val (.int 4), .val (.int 3), .val (.ref a425), .unset, .unset] [(.int 2), (.ref a425)])
      refine oCaload K506 75 A507 2 (by decide) (by decide) rfl (hb hby at_74) ?_
      refine oStatic K506 78 0 (wq hw 61) (wq hw 62) (wq hw 4) (wq hw 63) (rmIsH l Z a0 z0 fm G r478 h501 K506.old K506.both ) [(.int r478)] [] (lenOf pd262 rfl) (hb hby at_75) ?_
      intro T561 h563 v564 lo565 fs566 K562 Kp567 q568
      rcases q568 with qq568_0 | qq568_1
      · obtain ⟨rfl, rfl, f569⟩ := qq568_0
        have K570 := K562.to 1 4 [a425]
        refine Owe.stk [(.int 1)] ?_
        refine oIfNo K570 81 (hb hby at_78) (XT.i0_eq_f (by decide)) ?_
        refine oAload K570 83 (hb hby at_81) rfl rfl ?_
        refine oIload K570 85 (hb hby at_83) rfl ?_
        refine oCaload K570 86 (A507.keep Kp567 nin0) 3 (by decide) (by decide) rfl (hb hby at_85) ?_
        refine oStatic K570 89 0 (wq hw 64) (wq hw 65) (wq hw 4) (wq hw 66) (rmIsL l Z a0 z0 fm G r497 h563 K570.old K570.both ) [(.int r497)] [] (lenOf pd262 rfl) (hb hby at_86) ?_
        intro T571 h573 v574 lo575 fs576 K572 Kp577 q578
        rcases q578 with qq578_0 | qq578_1
        · obtain ⟨rfl, rfl, f579⟩ := qq578_0
          have K580 := K572.to 1 4 [a425]
          refine Owe.stk [(.int 1)] ?_
          refine oIfNo K580 92 (hb hby at_89) (XT.i0_eq_f (by decide)) ?_
          refine oIconstV K580 93 (1 : Int32) (hb hby at_92) rfl ?_
          exact oRetI K580 [] (t := .boolean) hret (by simp) (by decide) (hb hby at_93) (by decide) (by decide) hlk (fun x hx => by cases hx) ⟨rfl, rfl⟩
        · obtain ⟨rfl, rfl, f581⟩ := qq578_1
          have K582 := K572.to 1 4 [a425]
          refine Owe.stk [(.int 0)] ?_
          refine oIfYes K582 94 (hb hby at_89) (XT.i0_eq_t (by decide)) ?_
          exact (sgT4_3 l Z a0 z0 fm G p0 p1 p2 p3 p4 a425 r440 r459 r478 r497 hby hret hlk h573 (K582.to 1 4 [a425] (q := by simp)) ((A507.keep Kp567 nin0).keep Kp577 nin0) f441 f442 f460 f461 f479 f480 f498 f499)
      · obtain ⟨rfl, rfl, f583⟩ := qq568_1
        have K584 := K562.to 1 4 [a425]
        refine Owe.stk [(.int 0)] ?_
        refine oIfYes K584 94 (hb hby at_78) (XT.i0_eq_t (by decide)) ?_
        exact (sgT4_3 l Z a0 z0 fm G p0 p1 p2 p3 p4 a425 r440 r459 r478 r497 hby hret hlk h563 (K584.to 1 4 [a425] (q := by simp)) (A507.keep Kp567 nin0) f441 f442 f460 f461 f479 f480 f498 f499)
    · rw [hn512]
      show Owe _ _ _ _ T505 (mkF m 56 #[.val (.int p0), .val (.int p1), .val (.int p2), .val (.int p3), .val (.int p4), .val (.int 4), .val (.int 4), .val (.ref a425), .unset, .unset] [])
      refine oIload K506 58 (hb hby at_56) rfl ?_
      refine oIfNo K506 61 (hb hby at_58) (XT.i0_le_f (by decide)) ?_
      refine oIload K506 63 (hb hby at_61) rfl ?_
      refine oIload K506 65 (hb hby at_63) rfl ?_
      refine oIcmpYes K506 94 (hb hby at_65) (XT.ii_ge_t (by decide)) ?_
      exact (sgT4_4 l Z a0 z0 fm G p0 p1 p2 p3 p4 a425 r440 r459 r478 r497 hby hret hlk h501 (K506.to 1 4 [a425] (q := by simp)) A507 f441 f442 f460 f461 f479 f480 f498 f499)
theorem comes_1 {Post : Tables → Env → Array Value → State → Outcome → State → Prop} (hpost : ∀ tb e args s v u, (limb_1_1.after args s (.returned v) u = true ∧ limb_1_2.after args s (.returned v) u = true ∧ True) → FramedW s (.returned v) u (Jvm.fieldLocs frame_1_writes args s ++ Jvm.arrayLocs frame_1_arrays args s ++ Jvm.staticLocs frame_1_statics s) 24 1152 → Post tb e args s (.returned v) u) :
    ArmFor flags0 classFile x code maxLocals ret World_1 tables_1 room_1 Calls_1 rest_1 Pre_1 Post := by
  intro l hfl _ _ p e ha hc hk s m args below hf hA hF happ hP
  obtain ⟨hcalls, hrest, hpre⟩ := hP
  obtain ⟨-, -, -, hnamed, -, -, -, hat⟩ := (Spec.applies_iff hf).mp happ
  obtain ⟨hg, hn⟩ := and_e (Cond.before_iff.mp (show (Jvm.Cond.and given_1 narrow_1).before args s = true from hpre))
  obtain ⟨hx0, hr0⟩ := and_e hg
  obtain ⟨hx1, hr1⟩ := and_e hr0
  obtain ⟨hx2, hr2⟩ := and_e hr1
  obtain ⟨hx3, hr3⟩ := and_e hr2
  obtain ⟨hx4, hr4⟩ := and_e hr3
  obtain ⟨w0, w1, w2, w3, w4, rfl⟩ : ∃ w0 w1 w2 w3 w4 : Value, args = #[w0, w1, w2, w3, w4] := by
    have hs : args.size = 5 := by simpa [Cond.value, given_1] using hx0
    obtain ⟨L⟩ := args
    match L, hs with
    | [w0, w1, w2, w3, w4], _ => exact ⟨w0, w1, w2, w3, w4, rfl⟩
  have hw := fun d (hd : d ∈ tables_1) => atoms_spec (ws := Jvm.Cond.code x code maxLocals ret :: tables_1) hat d (List.mem_cons_of_mem _ hd)
  obtain ⟨hsets, hown0⟩ := atoms_of _ (rest_1_c_eq ▸ (show rest_1_c.before _ s = true from hrest))
  have hfit : Fit s := fun {y c} hc i hi => by
    obtain ⟨ha, rfl⟩ := Array.getElem?_eq_some_iff.mp hc
    have q := List.all_eq_true.mp ((Array.all_eq_true_iff_forall_mem.mp hF) _ (Array.getElem_mem ha)) i (List.mem_range.mpr hi)
    simpa [Array.getElem?_eq_getElem hi] using q
  obtain ⟨i0, e0⟩ := is_v hx1
  obtain rfl : w0 = (.int i0) := Option.some.inj e0
  obtain ⟨i1, e1⟩ := is_v hx2
  obtain rfl : w1 = (.int i1) := Option.some.inj e1
  obtain ⟨i2, e2⟩ := is_v hx3
  obtain rfl : w2 = (.int i2) := Option.some.inj e2
  obtain ⟨i3, e3⟩ := is_v hx4
  obtain rfl : w3 = (.int i3) := Option.some.inj e3
  obtain ⟨i4, e4⟩ := is_v hr4
  obtain rfl : w4 = (.int i4) := Option.some.inj e4
  have wS : ∀ a ∈ Bundle.stringAtoms, a.before #[(.int i0), (.int i1), (.int i2), (.int i3), (.int i4)] s = true := fun a ha => hw a ((by decide +kernel : ∀ d ∈ Bundle.stringAtoms, d ∈ tables_1) a ha)
  have n5 := not_v (Cond.before_iff.mp (hsets _ (List.mem_of_getElem? (i := 2) rfl)))
  obtain ⟨z0, ez0⟩ := is_v (Cond.before_iff.mp (hsets _ (List.mem_of_getElem? (i := 1) rfl)))
  have OS : Sta s s.heap "java/lang/String" "COMPACT_STRINGS" "Z" (.int z0) := Sta.start ez0 (Or.inl (hsets _ (List.mem_of_getElem? (i := 0) rfl)))
  have hz0 : ¬ (z0 = (0 : Int32)) := gotF (Cond.eq_ints ez0 (Term.int_eval (0))) n5
  have hEL : EW s #[(.int i0), (.int i1), (.int i2), (.int i3), (.int i4)] ELs := (EW.cons (wq hw 25) (by decide) EW.nil)
  have hCH : CHv s ELs s.vm s.heap := CHv.start hEL (fun q hq => hcalls.1 q ((by decide : ∀ q ∈ ELs, q ∈ consts_1) q hq)) (hsets _ (List.mem_of_getElem? (i := 2) rfl)) (wq hw 26) (wq hw 13)
  have OA := Sta.start (Cond.eq_int (hsets _ (List.mem_of_getElem? (i := 12) rfl)) rfl) (Or.inl (hsets _ (List.mem_of_getElem? (i := 11) rfl)))
  have OH := Sta.start (Cond.eq_int (hsets _ (List.mem_of_getElem? (i := 15) rfl)) rfl) (Or.inl (hsets _ (List.mem_of_getElem? (i := 14) rfl)))
  have OL := Sta.start (Cond.eq_int (hsets _ (List.mem_of_getElem? (i := 18) rfl)) rfl) (Or.inl (hsets _ (List.mem_of_getElem? (i := 17) rfl)))
  obtain ⟨fm, efm, rfm⟩ := isR_v (Cond.before_iff.mp (hsets _ (List.mem_of_getElem? (i := 8) rfl)))
  have OF : Sta s s.heap "jdk/internal/util/Preconditions" "SIOOBE_FORMATTER" "Ljava/util/function/BiFunction;" fm := Sta.start efm (Or.inl (hsets _ (List.mem_of_getElem? (i := 7) rfl)))
  obtain ⟨n, o, h1, h2, h3, v, L, fs, rfl, ⟨-, rfl⟩, N, -, -, -, -, w1', w2', w3', w4'⟩ := rmLaw l s _ z0 fm ⟨hw, hEL, wS, OS, hz0, OA, OH, OL, OF, rfm⟩ i0 i1 i2 i3 i4 s.heap ⟨Nat.le_refl _, fun _ _ q => q⟩ (fun x hx => by cases hx) p e ha hc hk s m _ below hf ((Spec.applies_iff_loose hf).mp happ).1 ⟨rfl, State.Warmed39.refl s, rfl, hCH, fun x hx => by cases hx⟩ trivial
  refine ⟨n, _, h1, h2, h3, hpost _ _ _ _ _ _ ⟨Cond.after_iff.mpr rfl, Cond.after_iff.mpr (eq_i res_at (Term.int_eval (1)) rfl), trivial⟩ ⟨w1', w2', w3', (w4'.sift fun y hy => Or.inr (N y hy)).mono (by decide) (by decide)⟩⟩
theorem main_1_1 : Claimed_1_1 := comes_1 fun _ _ _ _ _ _ h hF => ⟨h.1, hF⟩
theorem main_1_2 : Claimed_1_2 := comes_1 fun _ _ _ _ _ _ h hF => ⟨h.2.1, hF⟩
end Jvm.Pilot.@@N@@
namespace Jvm.Pilot.@@N@@
open Jvm Jvm.ClassFile Sem Op Lib Jvm.Free Jvm.Stand Jvm.Pilot.@@N@@.Jvm.D
/-! MADE BY PROGRAM (witnessworld.py) out of the Statement's table words and the real class files: 21 classes; the members and pool entries that the words name. The judged class is class 1, her method 6. -/
namespace start1
open Jvm.ClassFile
def u (s : String) : CpInfo := .utf8 (stringToUtf16 s)
/-- a pool by its gaps: so many unusable entries, then the entry; so many at the end -/
def gap : Nat → List CpInfo → List CpInfo
  | 0, r => r
  | n + 1, r => .unusable :: gap n r
def poolList (es : List (Nat × CpInfo)) (last : Nat) : List CpInfo := es.foldr (fun e r => gap e.1 (e.2 :: r)) (gap last [])
def pool (es : List (Nat × CpInfo)) (last : Nat) : Array CpInfo := ⟨poolList es last⟩
def fileOf (pool : Array CpInfo) (this : Nat) (attrs : Array Attribute := #[]) (ms : Array MethodInfo := #[]) (fl : Nat := 33) (sup : Nat := 0) (ifs : Array Nat := #[]) (fds : Array FieldInfo := #[]) : ClassFile where
  minorVersion := 0
  majorVersion := 65
  constantPool := pool
  accessFlags := fl
  thisClass := this
  superClass := sup
  interfaces := ifs
  fields := fds
  methods := ms
  attributes := attrs
def plain (name : String) (sup : Option ClassId) : Class where
  name := name
  kind := .ordinary
  loader := none
  accessFlags := 33
  super := sup
  interfaces := #[]
  cf := none
  fields := #[]
  methods := #[]
  instanceTypes := #[]
  staticTypes := #[]
  resolved := #[]
  callSites := []
  init := .initialized
  statics := none
  mirror := none

def pool0 : Array CpInfo := pool [(5, u "<init>"), (0, u "()V"), (1, .class_ 10), (1, u "java/lang/Object")] 113

def k0c0 : Code := { maxStack := 0, maxLocals := 1, code := object_method_1_code, exceptionTable := #[], attributes := #[] }
def k0m0 : Method := { name := "<init>", desc := "()V", sig := { parameters := [], returnType := none }, accessFlags := 1, code := some k0c0 }
/-- java/lang/Object -/
def k0 : Class := { plain "java/lang/Object" none with
  accessFlags := 33
  interfaces := #[]
  cf := some (fileOf pool0 8 #[] #[{ accessFlags := 1, nameIndex := 5, descriptorIndex := 6, attributes := #[] }] 33 0 #[] #[])
  fields := #[]
  methods := #[k0m0]
  instanceTypes := #[]
  staticTypes := #[]
  resolved := Array.replicate 124 none
  statics := none }

def pool1 : Array CpInfo := pool [(2, .class_ 4), (1, u "java/lang/Object"), (0, u "<init>"), (0, u "()V"), (0, .integer 55296), (0, .integer 56319), (0, .integer 56320), (0, .integer 57343), (0, .integer 65535), (0, .class_ 13), (0, u "java/lang/String"), (0, .methodref 12 15), (0, .nameAndType 5 16), (0, u "([C)V"), (0, .methodref 12 18), (0, .nameAndType 19 20), (0, u "valueOf"), (0, u "(C)Ljava/lang/String;"), (0, .methodref 22 23), (0, .class_ 24), (0, .nameAndType 25 26), (0, u "com/example/mangrove/mangrove/Utf8TextLoneSurrogateAtPinLaw"), (0, u "isHigh"), (0, u "(C)Z"), (0, .methodref 22 28), (0, .nameAndType 29 26), (0, u "isLow"), (0, .integer 2147483647), (0, .methodref 22 32), (0, .nameAndType 33 34), (0, u "draw"), (0, u "(I)C"), (0, .methodref 22 36), (0, .nameAndType 37 38), (0, u "str"), (0, u "([CI)Ljava/lang/String;"), (0, .methodref 22 40), (0, .nameAndType 41 42), (0, u "loneAt"), (0, u "([CIII)Z"), (0, .methodref 44 45), (0, .class_ 46), (0, .nameAndType 47 48), (0, u "com/example/mangrove/mangrove/Utf8Text"), (0, u "loneSurrogateAt"), (0, u "(Ljava/lang/String;I)I"), (3, u "law"), (0, u "(IIIII)Z")] 4

def k1m0 : Method := { name := "<init>", desc := "()V", sig := { parameters := [], returnType := none }, accessFlags := 1, code := none }
def k1c1 : Code := { maxStack := 2, maxLocals := 1, code := method_2_code, exceptionTable := #[], attributes := #[] }
def k1m1 : Method := { name := "isHigh", desc := "(C)Z", sig := { parameters := [.char], returnType := some .boolean }, accessFlags := 10, code := some k1c1 }
def k1c2 : Code := { maxStack := 2, maxLocals := 1, code := method_3_code, exceptionTable := #[], attributes := #[] }
def k1m2 : Method := { name := "isLow", desc := "(C)Z", sig := { parameters := [.char], returnType := some .boolean }, accessFlags := 10, code := some k1c2 }
def k1c3 : Code := { maxStack := 3, maxLocals := 3, code := method_4_code, exceptionTable := #[], attributes := #[] }
def k1m3 : Method := { name := "draw", desc := "(I)C", sig := { parameters := [.int], returnType := some .char }, accessFlags := 10, code := some k1c3 }
def k1c4 : Code := { maxStack := 7, maxLocals := 2, code := method_5_code, exceptionTable := #[], attributes := #[] }
def k1m4 : Method := { name := "str", desc := "([CI)Ljava/lang/String;", sig := { parameters := [(.array .char), .int], returnType := some (.object "java/lang/String") }, accessFlags := 10, code := some k1c4 }
def k1c5 : Code := { maxStack := 3, maxLocals := 5, code := method_6_code, exceptionTable := #[], attributes := #[] }
def k1m5 : Method := { name := "loneAt", desc := "([CIII)Z", sig := { parameters := [(.array .char), .int, .int, .int], returnType := some .boolean }, accessFlags := 10, code := some k1c5 }
def k1c6 : Code := { maxStack := 4, maxLocals := 10, code := code, exceptionTable := #[], attributes := #[] }
def k1m6 : Method := { name := "law", desc := "(IIIII)Z", sig := { parameters := [.int, .int, .int, .int, .int], returnType := some .boolean }, accessFlags := 9, code := some k1c6 }
/-- com/example/mangrove/mangrove/Utf8TextLoneSurrogateAtPinLaw -/
def k1 : Class := { plain "com/example/mangrove/mangrove/Utf8TextLoneSurrogateAtPinLaw" (some 0) with
  accessFlags := 49
  interfaces := #[]
  cf := some (fileOf pool1 22 #[] #[{ accessFlags := 1, nameIndex := 5, descriptorIndex := 6, attributes := #[] }, { accessFlags := 10, nameIndex := 25, descriptorIndex := 26, attributes := #[] }, { accessFlags := 10, nameIndex := 29, descriptorIndex := 26, attributes := #[] }, { accessFlags := 10, nameIndex := 33, descriptorIndex := 34, attributes := #[] }, { accessFlags := 10, nameIndex := 37, descriptorIndex := 38, attributes := #[] }, { accessFlags := 10, nameIndex := 41, descriptorIndex := 42, attributes := #[] }, { accessFlags := 9, nameIndex := 52, descriptorIndex := 53, attributes := #[] }] 49 2 #[] #[])
  fields := #[]
  methods := #[k1m0, k1m1, k1m2, k1m3, k1m4, k1m5, k1m6]
  instanceTypes := #[]
  staticTypes := #[]
  resolved := Array.replicate 58 none
  statics := none }

def pool2 : Array CpInfo := pool [(1, .class_ 2), (0, u "java/io/Serializable"), (0, .class_ 4), (0, u "java/lang/Object")] 2

/-- java/io/Serializable -/
def k2 : Class := { plain "java/io/Serializable" (some 0) with
  accessFlags := 1537
  interfaces := #[]
  cf := some (fileOf pool2 1 #[] #[] 1537 3 #[] #[])
  fields := #[]
  methods := #[]
  instanceTypes := #[]
  staticTypes := #[]
  resolved := Array.replicate 7 none
  statics := none }

def pool3 : Array CpInfo := pool [(1, .class_ 2), (0, u "java/lang/Comparable"), (0, .class_ 4), (0, u "java/lang/Object")] 7

/-- java/lang/Comparable -/
def k3 : Class := { plain "java/lang/Comparable" (some 0) with
  accessFlags := 1537
  interfaces := #[]
  cf := some (fileOf pool3 1 #[] #[] 1537 3 #[] #[])
  fields := #[]
  methods := #[]
  instanceTypes := #[]
  staticTypes := #[]
  resolved := Array.replicate 12 none
  statics := none }

def pool4 : Array CpInfo := pool [(2, .class_ 4), (1, u "java/lang/CharSequence"), (42, .class_ 48), (0, u "java/lang/CharSequence$1CodePointIterator"), (10, .class_ 60), (0, u "java/lang/CharSequence$1CharIterator"), (5, .class_ 67), (0, u "java/lang/Object")] 63

/-- java/lang/CharSequence -/
def k4 : Class := { plain "java/lang/CharSequence" (some 0) with
  accessFlags := 1537
  interfaces := #[]
  cf := some (fileOf pool4 2 #[.nestMembers #[47, 59]] #[] 1537 66 #[] #[])
  fields := #[]
  methods := #[]
  instanceTypes := #[]
  staticTypes := #[]
  resolved := Array.replicate 131 none
  statics := none }

def pool5 : Array CpInfo := pool [(1, .class_ 2), (0, u "java/lang/constant/Constable"), (0, .class_ 4), (0, u "java/lang/Object")] 6

/-- java/lang/constant/Constable -/
def k5 : Class := { plain "java/lang/constant/Constable" (some 0) with
  accessFlags := 1537
  interfaces := #[]
  cf := some (fileOf pool5 1 #[] #[] 1537 3 #[] #[])
  fields := #[]
  methods := #[]
  instanceTypes := #[]
  staticTypes := #[]
  resolved := Array.replicate 11 none
  statics := none }

def pool6 : Array CpInfo := pool [(1, .class_ 2), (0, u "java/lang/constant/ConstantDesc"), (0, .class_ 4), (0, u "java/lang/Object")] 32

/-- java/lang/constant/ConstantDesc -/
def k6 : Class := { plain "java/lang/constant/ConstantDesc" (some 0) with
  accessFlags := 1537
  interfaces := #[]
  cf := some (fileOf pool6 1 #[] #[] 1537 3 #[] #[])
  fields := #[]
  methods := #[]
  instanceTypes := #[]
  staticTypes := #[]
  resolved := Array.replicate 37 none
  statics := none }

def pool7 : Array CpInfo := pool [(1, .methodref 2 3), (0, .class_ 4), (0, .nameAndType 5 6), (0, u "java/lang/Object"), (0, u "<init>"), (0, u "()V"), (0, .string 8), (0, u ""), (0, .fieldref 10 11), (0, .class_ 12), (0, .nameAndType 13 14), (0, u "java/lang/String"), (0, u "value"), (0, u "[B"), (0, .fieldref 10 16), (0, .nameAndType 17 18), (0, u "coder"), (0, u "B"), (2, u "hash"), (0, u "I"), (2, u "hashIsZero"), (0, u "Z"), (0, .methodref 10 28), (0, .nameAndType 5 29), (0, u "([CIILjava/lang/Void;)V"), (8, .fieldref 10 39), (0, .nameAndType 40 26), (0, u "COMPACT_STRINGS"), (1, .class_ 44), (1, u "java/lang/StringUTF16"), (0, u "compress"), (1, .methodref 42 48), (0, .nameAndType 49 50), (0, u "coderFromArrayLen"), (0, u "([BI)B"), (2, u "toBytes"), (43, u "([BII)I"), (9, .class_ 109), (1, u "java/lang/StringLatin1"), (32, u "()Z"), (34, .methodref 42 178), (0, .nameAndType 45 179), (0, u "([CII)[B"), (29, .methodref 10 210), (0, .nameAndType 5 211), (0, u "([BB)V"), (122, u "()I"), (0, .methodref 10 336), (0, .nameAndType 17 337), (0, u "()B"), (31, u "(C)Z"), (21, u "(II)V"), (100, .methodref 10 493), (0, .nameAndType 494 142), (0, u "isLatin1"), (4, .methodref 10 500), (0, .nameAndType 501 391), (0, u "checkIndex"), (0, .methodref 42 503), (0, .nameAndType 504 97), (0, u "codePointAt"), (2, u "length"), (67, .class_ 576), (0, u "java/lang/CharSequence"), (22, u "CASE_INSENSITIVE_ORDER"), (0, u "Ljava/util/Comparator;"), (164, u "(I)I"), (16, u "valueOf"), (0, u "(C)Ljava/lang/String;"), (226, u "([C)V"), (4, .methodref 107 1016), (0, .nameAndType 1017 369), (0, u "canEncode"), (0, .methodref 107 1019), (0, .nameAndType 53 1020), (0, u "(C)[B"), (0, .methodref 42 1019), (31, .fieldref 1054 1055), (0, .class_ 1056), (0, .nameAndType 1057 1058), (0, u "jdk/internal/util/Preconditions"), (0, u "SIOOBE_FORMATTER"), (0, u "Ljava/util/function/BiFunction;"), (0, .methodref 1054 1060), (0, .nameAndType 501 1061), (0, u "(IILjava/util/function/BiFunction;)I"), (39, u "serialPersistentFields"), (0, u "[Ljava/io/ObjectStreamField;"), (0, .class_ 1104), (0, u "java/lang/String$CaseInsensitiveComparator"), (1, .class_ 1107), (0, u "java/io/Serializable"), (0, .class_ 1109), (0, u "java/lang/Comparable"), (0, .class_ 1111), (0, u "java/lang/constant/Constable"), (0, .class_ 1113), (0, u "java/lang/constant/ConstantDesc"), (2, u "serialVersionUID"), (0, u "J"), (3, u "REPL"), (0, u "C"), (2, u "LATIN1"), (1, u "UTF16")] 323

def k7m0 : Method := { name := "<init>", desc := "()V", sig := { parameters := [], returnType := none }, accessFlags := 1, code := none }
def k7c1 : Code := { maxStack := 5, maxLocals := 2, code := jdk_42_method_3_code, exceptionTable := #[], attributes := #[] }
def k7m1 : Method := { name := "<init>", desc := "([C)V", sig := { parameters := [(.array .char)], returnType := none }, accessFlags := 1, code := some k7c1 }
def k7c2 : Code := { maxStack := 2, maxLocals := 1, code := jdk_42_method_54_code, exceptionTable := #[], attributes := #[] }
def k7m2 : Method := { name := "length", desc := "()I", sig := { parameters := [], returnType := some .int }, accessFlags := 1, code := some k7c2 }
def k7c3 : Code := { maxStack := 3, maxLocals := 3, code := jdk_42_method_57_code, exceptionTable := #[], attributes := #[] }
def k7m3 : Method := { name := "codePointAt", desc := "(I)I", sig := { parameters := [.int], returnType := some .int }, accessFlags := 1, code := some k7c3 }
def k7c4 : Code := { maxStack := 4, maxLocals := 1, code := jdk_42_method_139_code, exceptionTable := #[], attributes := #[] }
def k7m4 : Method := { name := "valueOf", desc := "(C)Ljava/lang/String;", sig := { parameters := [.char], returnType := some (.object "java/lang/String") }, accessFlags := 9, code := some k7c4 }
def k7c5 : Code := { maxStack := 4, maxLocals := 6, code := jdk_42_method_149_code, exceptionTable := #[], attributes := #[] }
def k7m5 : Method := { name := "<init>", desc := "([CIILjava/lang/Void;)V", sig := { parameters := [(.array .char), .int, .int, (.object "java/lang/Void")], returnType := none }, accessFlags := 2, code := some k7c5 }
def k7c6 : Code := { maxStack := 2, maxLocals := 3, code := jdk_42_method_151_code, exceptionTable := #[], attributes := #[] }
def k7m6 : Method := { name := "<init>", desc := "([BB)V", sig := { parameters := [(.array .byte), .byte], returnType := none }, accessFlags := 0, code := some k7c6 }
def k7c7 : Code := { maxStack := 1, maxLocals := 1, code := jdk_42_method_152_code, exceptionTable := #[], attributes := #[] }
def k7m7 : Method := { name := "coder", desc := "()B", sig := { parameters := [], returnType := some .byte }, accessFlags := 0, code := some k7c7 }
def k7c8 : Code := { maxStack := 1, maxLocals := 1, code := jdk_42_method_154_code, exceptionTable := #[], attributes := #[] }
def k7m8 : Method := { name := "isLatin1", desc := "()Z", sig := { parameters := [], returnType := some .boolean }, accessFlags := 0, code := some k7c8 }
def k7c9 : Code := { maxStack := 3, maxLocals := 2, code := jdk_42_method_155_code, exceptionTable := #[], attributes := #[] }
def k7m9 : Method := { name := "checkIndex", desc := "(II)V", sig := { parameters := [.int, .int], returnType := none }, accessFlags := 8, code := some k7c9 }
/-- java/lang/String -/
def k7 : Class := { plain "java/lang/String" (some 0) with
  accessFlags := 49
  interfaces := #[2, 3, 4, 5, 6]
  cf := some (fileOf pool7 10 #[.nestMembers #[1103]] #[{ accessFlags := 1, nameIndex := 5, descriptorIndex := 6, attributes := #[] }, { accessFlags := 1, nameIndex := 5, descriptorIndex := 1010, attributes := #[] }, { accessFlags := 1, nameIndex := 507, descriptorIndex := 334, attributes := #[] }, { accessFlags := 1, nameIndex := 504, descriptorIndex := 765, attributes := #[] }, { accessFlags := 9, nameIndex := 782, descriptorIndex := 783, attributes := #[] }, { accessFlags := 2, nameIndex := 5, descriptorIndex := 29, attributes := #[] }, { accessFlags := 0, nameIndex := 5, descriptorIndex := 211, attributes := #[] }, { accessFlags := 0, nameIndex := 17, descriptorIndex := 337, attributes := #[] }, { accessFlags := 0, nameIndex := 494, descriptorIndex := 142, attributes := #[] }, { accessFlags := 8, nameIndex := 501, descriptorIndex := 391, attributes := #[] }] 49 2 #[1106, 1108, 575, 1110, 1112] #[{ accessFlags := 18, nameIndex := 13, descriptorIndex := 14, attributes := #[] }, { accessFlags := 18, nameIndex := 17, descriptorIndex := 18, attributes := #[] }, { accessFlags := 2, nameIndex := 21, descriptorIndex := 22, attributes := #[] }, { accessFlags := 2, nameIndex := 25, descriptorIndex := 26, attributes := #[] }, { accessFlags := 26, nameIndex := 1116, descriptorIndex := 1117, attributes := #[] }, { accessFlags := 24, nameIndex := 40, descriptorIndex := 26, attributes := #[] }, { accessFlags := 26, nameIndex := 1101, descriptorIndex := 1102, attributes := #[] }, { accessFlags := 26, nameIndex := 1121, descriptorIndex := 1122, attributes := #[] }, { accessFlags := 25, nameIndex := 599, descriptorIndex := 600, attributes := #[] }, { accessFlags := 24, nameIndex := 1125, descriptorIndex := 18, attributes := #[] }, { accessFlags := 24, nameIndex := 1127, descriptorIndex := 18, attributes := #[] }])
  fields := #[{ name := "value", type := (.array .byte), accessFlags := 18, slot := 0, constantValue := 0 }, { name := "coder", type := .byte, accessFlags := 18, slot := 1, constantValue := 0 }, { name := "hash", type := .int, accessFlags := 2, slot := 2, constantValue := 0 }, { name := "hashIsZero", type := .boolean, accessFlags := 2, slot := 3, constantValue := 0 }, { name := "serialVersionUID", type := .long, accessFlags := 26, slot := 0, constantValue := 0 }, { name := "COMPACT_STRINGS", type := .boolean, accessFlags := 24, slot := 1, constantValue := 0 }, { name := "serialPersistentFields", type := (.array (.object "java/io/ObjectStreamField")), accessFlags := 26, slot := 2, constantValue := 0 }, { name := "REPL", type := .char, accessFlags := 26, slot := 3, constantValue := 0 }, { name := "CASE_INSENSITIVE_ORDER", type := (.object "java/util/Comparator"), accessFlags := 25, slot := 4, constantValue := 0 }, { name := "LATIN1", type := .byte, accessFlags := 24, slot := 5, constantValue := 0 }, { name := "UTF16", type := .byte, accessFlags := 24, slot := 6, constantValue := 0 }]
  methods := #[k7m0, k7m1, k7m2, k7m3, k7m4, k7m5, k7m6, k7m7, k7m8, k7m9]
  instanceTypes := #[(.array .byte), .byte, .int, .boolean]
  staticTypes := #[.long, .boolean, (.array (.object "java/io/ObjectStreamField")), .char, (.object "java/util/Comparator"), .byte, .byte]
  resolved := Array.replicate 1451 none
  statics := some 0 }

def pool8 : Array CpInfo := pool [(2, .class_ 4), (1, u "java/lang/Object"), (0, u "<init>"), (0, u "()V"), (1, .class_ 10), (1, u "com/example/mangrove/mangrove/Utf8Text"), (0, u "loneSurrogateAt"), (0, u "(Ljava/lang/String;I)I"), (12, .methodref 26 27), (0, .class_ 28), (0, .nameAndType 29 30), (0, u "java/lang/String"), (0, u "length"), (0, u "()I"), (0, .methodref 26 32), (0, .nameAndType 33 34), (0, u "codePointAt"), (0, u "(I)I"), (0, .class_ 36), (0, u "java/lang/Character"), (0, .integer 55296), (0, .integer 57343), (0, .methodref 35 40), (0, .nameAndType 41 34), (0, u "charCount")] 24

def k8m0 : Method := { name := "<init>", desc := "()V", sig := { parameters := [], returnType := none }, accessFlags := 2, code := none }
def k8c1 : Code := { maxStack := 2, maxLocals := 4, code := prog_25_method_3_code, exceptionTable := #[], attributes := #[] }
def k8m1 : Method := { name := "loneSurrogateAt", desc := "(Ljava/lang/String;I)I", sig := { parameters := [(.object "java/lang/String"), .int], returnType := some .int }, accessFlags := 8, code := some k8c1 }
/-- com/example/mangrove/mangrove/Utf8Text -/
def k8 : Class := { plain "com/example/mangrove/mangrove/Utf8Text" (some 0) with
  accessFlags := 48
  interfaces := #[]
  cf := some (fileOf pool8 8 #[] #[{ accessFlags := 2, nameIndex := 5, descriptorIndex := 6, attributes := #[] }, { accessFlags := 8, nameIndex := 11, descriptorIndex := 12, attributes := #[] }] 48 2 #[] #[])
  fields := #[]
  methods := #[k8m0, k8m1]
  instanceTypes := #[]
  staticTypes := #[]
  resolved := Array.replicate 66 none
  statics := none }

def pool9 : Array CpInfo := pool [(6, .class_ 8), (1, u "java/lang/Object"), (0, u "<init>"), (0, u "()V"), (0, .methodref 12 13), (0, .class_ 14), (0, .nameAndType 15 16), (0, u "java/lang/StringUTF16"), (0, u "newBytesLength"), (0, u "(I)I"), (3, .integer 1073741823), (23, .fieldref 12 45), (0, .nameAndType 46 47), (0, u "$assertionsDisabled"), (0, u "Z"), (11, .fieldref 12 60), (0, .nameAndType 61 62), (0, u "HI_BYTE_SHIFT"), (0, u "I"), (0, .fieldref 12 64), (0, .nameAndType 65 62), (0, u "LO_BYTE_SHIFT"), (5, .methodref 12 72), (0, .nameAndType 73 74), (0, u "getChar"), (0, u "([BI)C"), (0, .methodref 76 77), (0, .class_ 78), (0, .nameAndType 79 80), (0, u "java/lang/Character"), (0, u "isHighSurrogate"), (0, u "(C)Z"), (0, .methodref 76 82), (0, .nameAndType 83 80), (0, u "isLowSurrogate"), (0, .methodref 76 85), (0, .nameAndType 86 87), (0, u "toCodePoint"), (0, u "(CC)I"), (0, .methodref 12 89), (0, .nameAndType 90 91), (0, u "codePointAt"), (0, u "([BIIZ)I"), (15, .methodref 12 108), (0, .nameAndType 109 110), (0, u "newBytesFor"), (0, u "(I)[B"), (0, .methodref 12 112), (0, .nameAndType 113 114), (0, u "putChar"), (0, u "([BII)V"), (0, .methodref 12 116), (0, .nameAndType 117 118), (0, u "compress"), (0, u "([CI[BII)I"), (0, .methodref 12 120), (0, .nameAndType 121 122), (0, u "toBytes"), (0, u "([CII)[B"), (127, u "([BII)I"), (10, u "coderFromArrayLen"), (0, u "([BI)B"), (106, .class_ 371), (1, u "java/lang/StringUTF16$LinesSpliterator"), (58, u "MAX_LENGTH"), (44, u "(C)[B"), (151, .class_ 628), (0, u "java/lang/StringUTF16$CodePointsSpliterator"), (0, .class_ 630), (0, u "java/lang/StringUTF16$CharsSpliterator")] 4

def k9m0 : Method := { name := "<init>", desc := "()V", sig := { parameters := [], returnType := none }, accessFlags := 0, code := none }
def k9c1 : Code := { maxStack := 1, maxLocals := 1, code := jdk_52_method_2_code, exceptionTable := #[], attributes := #[] }
def k9m1 : Method := { name := "newBytesFor", desc := "(I)[B", sig := { parameters := [.int], returnType := some (.array .byte) }, accessFlags := 9, code := some k9c1 }
def k9c2 : Code := { maxStack := 4, maxLocals := 1, code := jdk_52_method_3_code, exceptionTable := #[], attributes := #[] }
def k9m2 : Method := { name := "newBytesLength", desc := "(I)I", sig := { parameters := [.int], returnType := some .int }, accessFlags := 9, code := some k9c2 }
def k9c3 : Code := { maxStack := 4, maxLocals := 3, code := jdk_52_method_4_code, exceptionTable := #[], attributes := #[] }
def k9m3 : Method := { name := "putChar", desc := "([BII)V", sig := { parameters := [(.array .byte), .int, .int], returnType := none }, accessFlags := 8, code := some k9c3 }
def k9c4 : Code := { maxStack := 3, maxLocals := 2, code := jdk_52_method_5_code, exceptionTable := #[], attributes := #[] }
def k9m4 : Method := { name := "getChar", desc := "([BI)C", sig := { parameters := [(.array .byte), .int], returnType := some .char }, accessFlags := 8, code := some k9c4 }
def k9c5 : Code := { maxStack := 2, maxLocals := 6, code := jdk_52_method_7_code, exceptionTable := #[], attributes := #[] }
def k9m5 : Method := { name := "codePointAt", desc := "([BIIZ)I", sig := { parameters := [(.array .byte), .int, .int, .boolean], returnType := some .int }, accessFlags := 10, code := some k9c5 }
def k9c6 : Code := { maxStack := 4, maxLocals := 3, code := jdk_52_method_8_code, exceptionTable := #[], attributes := #[] }
def k9m6 : Method := { name := "codePointAt", desc := "([BII)I", sig := { parameters := [(.array .byte), .int, .int], returnType := some .int }, accessFlags := 9, code := some k9c6 }
def k9c7 : Code := { maxStack := 4, maxLocals := 5, code := jdk_52_method_14_code, exceptionTable := #[], attributes := #[] }
def k9m7 : Method := { name := "toBytes", desc := "([CII)[B", sig := { parameters := [(.array .char), .int, .int], returnType := some (.array .byte) }, accessFlags := 9, code := some k9c7 }
def k9c8 : Code := { maxStack := 2, maxLocals := 2, code := jdk_52_method_15_code, exceptionTable := #[], attributes := #[] }
def k9m8 : Method := { name := "coderFromArrayLen", desc := "([BI)B", sig := { parameters := [(.array .byte), .int], returnType := some .byte }, accessFlags := 8, code := some k9c8 }
def k9c9 : Code := { maxStack := 5, maxLocals := 6, code := jdk_52_method_16_code, exceptionTable := #[], attributes := #[] }
def k9m9 : Method := { name := "compress", desc := "([CII)[B", sig := { parameters := [(.array .char), .int, .int], returnType := some (.array .byte) }, accessFlags := 9, code := some k9c9 }
def k9c10 : Code := { maxStack := 3, maxLocals := 7, code := jdk_52_method_21_code, exceptionTable := #[], attributes := #[] }
def k9m10 : Method := { name := "compress", desc := "([CI[BII)I", sig := { parameters := [(.array .char), .int, (.array .byte), .int, .int], returnType := some .int }, accessFlags := 9, code := some k9c10 }
def k9c11 : Code := { maxStack := 3, maxLocals := 2, code := jdk_52_method_24_code, exceptionTable := #[], attributes := #[] }
def k9m11 : Method := { name := "toBytes", desc := "(C)[B", sig := { parameters := [.char], returnType := some (.array .byte) }, accessFlags := 9, code := some k9c11 }
/-- java/lang/StringUTF16 -/
def k9 : Class := { plain "java/lang/StringUTF16" (some 0) with
  accessFlags := 48
  interfaces := #[]
  cf := some (fileOf pool9 12 #[.nestMembers #[627, 629, 369]] #[{ accessFlags := 0, nameIndex := 9, descriptorIndex := 10, attributes := #[] }, { accessFlags := 9, nameIndex := 109, descriptorIndex := 110, attributes := #[] }, { accessFlags := 9, nameIndex := 15, descriptorIndex := 16, attributes := #[] }, { accessFlags := 8, nameIndex := 113, descriptorIndex := 114, attributes := #[] }, { accessFlags := 8, nameIndex := 73, descriptorIndex := 74, attributes := #[] }, { accessFlags := 10, nameIndex := 90, descriptorIndex := 91, attributes := #[] }, { accessFlags := 9, nameIndex := 90, descriptorIndex := 250, attributes := #[] }, { accessFlags := 9, nameIndex := 121, descriptorIndex := 122, attributes := #[] }, { accessFlags := 8, nameIndex := 261, descriptorIndex := 262, attributes := #[] }, { accessFlags := 9, nameIndex := 117, descriptorIndex := 122, attributes := #[] }, { accessFlags := 9, nameIndex := 117, descriptorIndex := 118, attributes := #[] }, { accessFlags := 9, nameIndex := 121, descriptorIndex := 475, attributes := #[] }] 48 6 #[] #[{ accessFlags := 26, nameIndex := 61, descriptorIndex := 62, attributes := #[] }, { accessFlags := 26, nameIndex := 65, descriptorIndex := 62, attributes := #[] }, { accessFlags := 24, nameIndex := 430, descriptorIndex := 62, attributes := #[] }, { accessFlags := 4120, nameIndex := 46, descriptorIndex := 47, attributes := #[] }])
  fields := #[{ name := "HI_BYTE_SHIFT", type := .int, accessFlags := 26, slot := 0, constantValue := 0 }, { name := "LO_BYTE_SHIFT", type := .int, accessFlags := 26, slot := 1, constantValue := 0 }, { name := "MAX_LENGTH", type := .int, accessFlags := 24, slot := 2, constantValue := 0 }, { name := "$assertionsDisabled", type := .boolean, accessFlags := 4120, slot := 3, constantValue := 0 }]
  methods := #[k9m0, k9m1, k9m2, k9m3, k9m4, k9m5, k9m6, k9m7, k9m8, k9m9, k9m10, k9m11]
  instanceTypes := #[]
  staticTypes := #[.int, .int, .int, .boolean]
  resolved := Array.replicate 635 none
  statics := some 1 }

def pool10 : Array CpInfo := pool [(2, .class_ 4), (1, u "java/lang/Object"), (0, u "<init>"), (0, u "()V"), (17, .class_ 26), (1, u "jdk/internal/util/Preconditions"), (6, u "checkIndex"), (21, .class_ 56), (0, u "jdk/internal/util/Preconditions$4"), (57, .class_ 115), (0, u "jdk/internal/util/Preconditions$1"), (7, u "SIOOBE_FORMATTER"), (0, u "Ljava/util/function/BiFunction;"), (0, .class_ 126), (0, u "jdk/internal/util/Preconditions$2"), (3, u "AIOOBE_FORMATTER"), (0, .class_ 132), (0, u "jdk/internal/util/Preconditions$3"), (3, u "IOOBE_FORMATTER"), (41, u "(IILjava/util/function/BiFunction;)I")] 15

def k10m0 : Method := { name := "<init>", desc := "()V", sig := { parameters := [], returnType := none }, accessFlags := 1, code := none }
def k10c1 : Code := { maxStack := 3, maxLocals := 3, code := jdk_41_method_11_code, exceptionTable := #[], attributes := #[] }
def k10m1 : Method := { name := "checkIndex", desc := "(IILjava/util/function/BiFunction;)I", sig := { parameters := [.int, .int, (.object "java/util/function/BiFunction")], returnType := some .int }, accessFlags := 9, code := some k10c1 }
/-- jdk/internal/util/Preconditions -/
def k10 : Class := { plain "jdk/internal/util/Preconditions" (some 0) with
  accessFlags := 33
  interfaces := #[]
  cf := some (fileOf pool10 24 #[.nestMembers #[55, 131, 125, 114]] #[{ accessFlags := 1, nameIndex := 5, descriptorIndex := 6, attributes := #[] }, { accessFlags := 9, nameIndex := 33, descriptorIndex := 178, attributes := #[] }] 33 2 #[] #[{ accessFlags := 25, nameIndex := 123, descriptorIndex := 124, attributes := #[] }, { accessFlags := 25, nameIndex := 130, descriptorIndex := 124, attributes := #[] }, { accessFlags := 25, nameIndex := 136, descriptorIndex := 124, attributes := #[] }])
  fields := #[{ name := "SIOOBE_FORMATTER", type := (.object "java/util/function/BiFunction"), accessFlags := 25, slot := 0, constantValue := 0 }, { name := "AIOOBE_FORMATTER", type := (.object "java/util/function/BiFunction"), accessFlags := 25, slot := 1, constantValue := 0 }, { name := "IOOBE_FORMATTER", type := (.object "java/util/function/BiFunction"), accessFlags := 25, slot := 2, constantValue := 0 }]
  methods := #[k10m0, k10m1]
  instanceTypes := #[]
  staticTypes := #[(.object "java/util/function/BiFunction"), (.object "java/util/function/BiFunction"), (.object "java/util/function/BiFunction")]
  resolved := Array.replicate 194 none
  statics := some 2 }

def pool11 : Array CpInfo := pool [(1, .class_ 2), (0, u "java/lang/Character"), (18, u "value"), (0, u "C"), (19, .class_ 44), (1, u "java/lang/Object"), (3, .class_ 50), (1, u "java/lang/Character$CharacterCache"), (22, .integer 65536), (1, .integer 55296), (0, .integer 56320), (0, .integer 57344), (2, u "isHighSurrogate"), (0, u "(C)Z"), (2, u "isLowSurrogate"), (0, .integer 4238353408), (12, u "toCodePoint"), (0, u "(CC)I"), (74, u "(I)I"), (109, u "$assertionsDisabled"), (0, u "Z"), (21, .class_ 309), (1, u "java/lang/Character$UnicodeBlock"), (73, u "TYPE"), (0, u "Ljava/lang/Class;"), (0, .class_ 386), (0, u "java/io/Serializable"), (0, .class_ 388), (0, u "java/lang/Comparable"), (0, .class_ 390), (0, u "java/lang/constant/Constable"), (0, u "MIN_RADIX"), (0, u "I"), (2, u "MAX_RADIX"), (1, u "MIN_VALUE"), (1, u "MAX_VALUE"), (3, u "UNASSIGNED"), (0, u "B"), (0, u "UPPERCASE_LETTER"), (1, u "LOWERCASE_LETTER"), (0, u "TITLECASE_LETTER"), (1, u "MODIFIER_LETTER"), (1, u "OTHER_LETTER"), (1, u "NON_SPACING_MARK"), (1, u "ENCLOSING_MARK"), (1, u "COMBINING_SPACING_MARK"), (1, u "DECIMAL_DIGIT_NUMBER"), (1, u "LETTER_NUMBER"), (1, u "OTHER_NUMBER"), (1, u "SPACE_SEPARATOR"), (1, u "LINE_SEPARATOR"), (1, u "PARAGRAPH_SEPARATOR"), (1, u "CONTROL"), (1, u "FORMAT"), (1, u "PRIVATE_USE"), (1, u "SURROGATE"), (1, u "DASH_PUNCTUATION"), (1, u "START_PUNCTUATION"), (1, u "END_PUNCTUATION"), (1, u "CONNECTOR_PUNCTUATION"), (1, u "OTHER_PUNCTUATION"), (1, u "MATH_SYMBOL"), (1, u "CURRENCY_SYMBOL"), (1, u "MODIFIER_SYMBOL"), (1, u "OTHER_SYMBOL"), (1, u "INITIAL_QUOTE_PUNCTUATION"), (1, u "FINAL_QUOTE_PUNCTUATION"), (1, u "ERROR"), (1, u "DIRECTIONALITY_UNDEFINED"), (0, u "DIRECTIONALITY_LEFT_TO_RIGHT"), (0, u "DIRECTIONALITY_RIGHT_TO_LEFT"), (0, u "DIRECTIONALITY_RIGHT_TO_LEFT_ARABIC"), (0, u "DIRECTIONALITY_EUROPEAN_NUMBER"), (0, u "DIRECTIONALITY_EUROPEAN_NUMBER_SEPARATOR"), (0, u "DIRECTIONALITY_EUROPEAN_NUMBER_TERMINATOR"), (0, u "DIRECTIONALITY_ARABIC_NUMBER"), (0, u "DIRECTIONALITY_COMMON_NUMBER_SEPARATOR"), (0, u "DIRECTIONALITY_NONSPACING_MARK"), (0, u "DIRECTIONALITY_BOUNDARY_NEUTRAL"), (0, u "DIRECTIONALITY_PARAGRAPH_SEPARATOR"), (0, u "DIRECTIONALITY_SEGMENT_SEPARATOR"), (0, u "DIRECTIONALITY_WHITESPACE"), (0, u "DIRECTIONALITY_OTHER_NEUTRALS"), (0, u "DIRECTIONALITY_LEFT_TO_RIGHT_EMBEDDING"), (0, u "DIRECTIONALITY_LEFT_TO_RIGHT_OVERRIDE"), (0, u "DIRECTIONALITY_RIGHT_TO_LEFT_EMBEDDING"), (0, u "DIRECTIONALITY_RIGHT_TO_LEFT_OVERRIDE"), (1, u "DIRECTIONALITY_POP_DIRECTIONAL_FORMAT"), (0, u "DIRECTIONALITY_LEFT_TO_RIGHT_ISOLATE"), (0, u "DIRECTIONALITY_RIGHT_TO_LEFT_ISOLATE"), (0, u "DIRECTIONALITY_FIRST_STRONG_ISOLATE"), (0, u "DIRECTIONALITY_POP_DIRECTIONAL_ISOLATE"), (0, u "MIN_HIGH_SURROGATE"), (0, u "MAX_HIGH_SURROGATE"), (1, u "MIN_LOW_SURROGATE"), (0, u "MAX_LOW_SURROGATE"), (1, u "MIN_SURROGATE"), (0, u "MAX_SURROGATE"), (0, u "MIN_SUPPLEMENTARY_CODE_POINT"), (0, u "MIN_CODE_POINT"), (0, u "MAX_CODE_POINT"), (1, u "serialVersionUID"), (0, u "J"), (2, u "SIZE"), (0, u "BYTES"), (29, u "charCount"), (58, .class_ 596), (0, u "java/lang/Character$UnicodeScript"), (0, .class_ 598), (0, u "java/lang/Character$Subset")] 5

def k11c0 : Code := { maxStack := 2, maxLocals := 1, code := jdk_89_method_14_code, exceptionTable := #[], attributes := #[] }
def k11m0 : Method := { name := "isHighSurrogate", desc := "(C)Z", sig := { parameters := [.char], returnType := some .boolean }, accessFlags := 9, code := some k11c0 }
def k11c1 : Code := { maxStack := 2, maxLocals := 1, code := jdk_89_method_15_code, exceptionTable := #[], attributes := #[] }
def k11m1 : Method := { name := "isLowSurrogate", desc := "(C)Z", sig := { parameters := [.char], returnType := some .boolean }, accessFlags := 9, code := some k11c1 }
def k11c2 : Code := { maxStack := 2, maxLocals := 1, code := jdk_89_method_18_code, exceptionTable := #[], attributes := #[] }
def k11m2 : Method := { name := "charCount", desc := "(I)I", sig := { parameters := [.int], returnType := some .int }, accessFlags := 9, code := some k11c2 }
def k11c3 : Code := { maxStack := 2, maxLocals := 2, code := jdk_89_method_19_code, exceptionTable := #[], attributes := #[] }
def k11m3 : Method := { name := "toCodePoint", desc := "(CC)I", sig := { parameters := [.char, .char], returnType := some .int }, accessFlags := 9, code := some k11c3 }
/-- java/lang/Character -/
def k11 : Class := { plain "java/lang/Character" (some 0) with
  accessFlags := 49
  interfaces := #[2, 3, 5]
  cf := some (fileOf pool11 1 #[.nestMembers #[48, 595, 307, 597]] #[{ accessFlags := 9, nameIndex := 80, descriptorIndex := 81, attributes := #[] }, { accessFlags := 9, nameIndex := 84, descriptorIndex := 81, attributes := #[] }, { accessFlags := 9, nameIndex := 536, descriptorIndex := 174, attributes := #[] }, { accessFlags := 9, nameIndex := 98, descriptorIndex := 99, attributes := #[] }] 49 42 #[385, 387, 389] #[{ accessFlags := 25, nameIndex := 391, descriptorIndex := 392, attributes := #[] }, { accessFlags := 25, nameIndex := 395, descriptorIndex := 392, attributes := #[] }, { accessFlags := 25, nameIndex := 397, descriptorIndex := 22, attributes := #[] }, { accessFlags := 25, nameIndex := 399, descriptorIndex := 22, attributes := #[] }, { accessFlags := 25, nameIndex := 383, descriptorIndex := 384, attributes := #[] }, { accessFlags := 25, nameIndex := 403, descriptorIndex := 404, attributes := #[] }, { accessFlags := 25, nameIndex := 405, descriptorIndex := 404, attributes := #[] }, { accessFlags := 25, nameIndex := 407, descriptorIndex := 404, attributes := #[] }, { accessFlags := 25, nameIndex := 408, descriptorIndex := 404, attributes := #[] }, { accessFlags := 25, nameIndex := 410, descriptorIndex := 404, attributes := #[] }, { accessFlags := 25, nameIndex := 412, descriptorIndex := 404, attributes := #[] }, { accessFlags := 25, nameIndex := 414, descriptorIndex := 404, attributes := #[] }, { accessFlags := 25, nameIndex := 416, descriptorIndex := 404, attributes := #[] }, { accessFlags := 25, nameIndex := 418, descriptorIndex := 404, attributes := #[] }, { accessFlags := 25, nameIndex := 420, descriptorIndex := 404, attributes := #[] }, { accessFlags := 25, nameIndex := 422, descriptorIndex := 404, attributes := #[] }, { accessFlags := 25, nameIndex := 424, descriptorIndex := 404, attributes := #[] }, { accessFlags := 25, nameIndex := 426, descriptorIndex := 404, attributes := #[] }, { accessFlags := 25, nameIndex := 428, descriptorIndex := 404, attributes := #[] }, { accessFlags := 25, nameIndex := 430, descriptorIndex := 404, attributes := #[] }, { accessFlags := 25, nameIndex := 432, descriptorIndex := 404, attributes := #[] }, { accessFlags := 25, nameIndex := 434, descriptorIndex := 404, attributes := #[] }, { accessFlags := 25, nameIndex := 436, descriptorIndex := 404, attributes := #[] }, { accessFlags := 25, nameIndex := 438, descriptorIndex := 404, attributes := #[] }, { accessFlags := 25, nameIndex := 440, descriptorIndex := 404, attributes := #[] }, { accessFlags := 25, nameIndex := 442, descriptorIndex := 404, attributes := #[] }, { accessFlags := 25, nameIndex := 444, descriptorIndex := 404, attributes := #[] }, { accessFlags := 25, nameIndex := 446, descriptorIndex := 404, attributes := #[] }, { accessFlags := 25, nameIndex := 448, descriptorIndex := 404, attributes := #[] }, { accessFlags := 25, nameIndex := 450, descriptorIndex := 404, attributes := #[] }, { accessFlags := 25, nameIndex := 452, descriptorIndex := 404, attributes := #[] }, { accessFlags := 25, nameIndex := 454, descriptorIndex := 404, attributes := #[] }, { accessFlags := 25, nameIndex := 456, descriptorIndex := 404, attributes := #[] }, { accessFlags := 25, nameIndex := 458, descriptorIndex := 404, attributes := #[] }, { accessFlags := 25, nameIndex := 460, descriptorIndex := 404, attributes := #[] }, { accessFlags := 24, nameIndex := 462, descriptorIndex := 392, attributes := #[] }, { accessFlags := 25, nameIndex := 464, descriptorIndex := 404, attributes := #[] }, { accessFlags := 25, nameIndex := 465, descriptorIndex := 404, attributes := #[] }, { accessFlags := 25, nameIndex := 466, descriptorIndex := 404, attributes := #[] }, { accessFlags := 25, nameIndex := 467, descriptorIndex := 404, attributes := #[] }, { accessFlags := 25, nameIndex := 468, descriptorIndex := 404, attributes := #[] }, { accessFlags := 25, nameIndex := 469, descriptorIndex := 404, attributes := #[] }, { accessFlags := 25, nameIndex := 470, descriptorIndex := 404, attributes := #[] }, { accessFlags := 25, nameIndex := 471, descriptorIndex := 404, attributes := #[] }, { accessFlags := 25, nameIndex := 472, descriptorIndex := 404, attributes := #[] }, { accessFlags := 25, nameIndex := 473, descriptorIndex := 404, attributes := #[] }, { accessFlags := 25, nameIndex := 474, descriptorIndex := 404, attributes := #[] }, { accessFlags := 25, nameIndex := 475, descriptorIndex := 404, attributes := #[] }, { accessFlags := 25, nameIndex := 476, descriptorIndex := 404, attributes := #[] }, { accessFlags := 25, nameIndex := 477, descriptorIndex := 404, attributes := #[] }, { accessFlags := 25, nameIndex := 478, descriptorIndex := 404, attributes := #[] }, { accessFlags := 25, nameIndex := 479, descriptorIndex := 404, attributes := #[] }, { accessFlags := 25, nameIndex := 480, descriptorIndex := 404, attributes := #[] }, { accessFlags := 25, nameIndex := 481, descriptorIndex := 404, attributes := #[] }, { accessFlags := 25, nameIndex := 482, descriptorIndex := 404, attributes := #[] }, { accessFlags := 25, nameIndex := 484, descriptorIndex := 404, attributes := #[] }, { accessFlags := 25, nameIndex := 485, descriptorIndex := 404, attributes := #[] }, { accessFlags := 25, nameIndex := 486, descriptorIndex := 404, attributes := #[] }, { accessFlags := 25, nameIndex := 487, descriptorIndex := 404, attributes := #[] }, { accessFlags := 25, nameIndex := 488, descriptorIndex := 404, attributes := #[] }, { accessFlags := 25, nameIndex := 489, descriptorIndex := 22, attributes := #[] }, { accessFlags := 25, nameIndex := 490, descriptorIndex := 22, attributes := #[] }, { accessFlags := 25, nameIndex := 492, descriptorIndex := 22, attributes := #[] }, { accessFlags := 25, nameIndex := 493, descriptorIndex := 22, attributes := #[] }, { accessFlags := 25, nameIndex := 495, descriptorIndex := 22, attributes := #[] }, { accessFlags := 25, nameIndex := 496, descriptorIndex := 22, attributes := #[] }, { accessFlags := 25, nameIndex := 497, descriptorIndex := 392, attributes := #[] }, { accessFlags := 25, nameIndex := 498, descriptorIndex := 392, attributes := #[] }, { accessFlags := 25, nameIndex := 499, descriptorIndex := 392, attributes := #[] }, { accessFlags := 18, nameIndex := 21, descriptorIndex := 22, attributes := #[] }, { accessFlags := 26, nameIndex := 501, descriptorIndex := 502, attributes := #[] }, { accessFlags := 25, nameIndex := 505, descriptorIndex := 392, attributes := #[] }, { accessFlags := 25, nameIndex := 506, descriptorIndex := 392, attributes := #[] }, { accessFlags := 4120, nameIndex := 284, descriptorIndex := 285, attributes := #[] }])
  fields := #[{ name := "MIN_RADIX", type := .int, accessFlags := 25, slot := 0, constantValue := 0 }, { name := "MAX_RADIX", type := .int, accessFlags := 25, slot := 1, constantValue := 0 }, { name := "MIN_VALUE", type := .char, accessFlags := 25, slot := 2, constantValue := 0 }, { name := "MAX_VALUE", type := .char, accessFlags := 25, slot := 3, constantValue := 0 }, { name := "TYPE", type := (.object "java/lang/Class"), accessFlags := 25, slot := 4, constantValue := 0 }, { name := "UNASSIGNED", type := .byte, accessFlags := 25, slot := 5, constantValue := 0 }, { name := "UPPERCASE_LETTER", type := .byte, accessFlags := 25, slot := 6, constantValue := 0 }, { name := "LOWERCASE_LETTER", type := .byte, accessFlags := 25, slot := 7, constantValue := 0 }, { name := "TITLECASE_LETTER", type := .byte, accessFlags := 25, slot := 8, constantValue := 0 }, { name := "MODIFIER_LETTER", type := .byte, accessFlags := 25, slot := 9, constantValue := 0 }, { name := "OTHER_LETTER", type := .byte, accessFlags := 25, slot := 10, constantValue := 0 }, { name := "NON_SPACING_MARK", type := .byte, accessFlags := 25, slot := 11, constantValue := 0 }, { name := "ENCLOSING_MARK", type := .byte, accessFlags := 25, slot := 12, constantValue := 0 }, { name := "COMBINING_SPACING_MARK", type := .byte, accessFlags := 25, slot := 13, constantValue := 0 }, { name := "DECIMAL_DIGIT_NUMBER", type := .byte, accessFlags := 25, slot := 14, constantValue := 0 }, { name := "LETTER_NUMBER", type := .byte, accessFlags := 25, slot := 15, constantValue := 0 }, { name := "OTHER_NUMBER", type := .byte, accessFlags := 25, slot := 16, constantValue := 0 }, { name := "SPACE_SEPARATOR", type := .byte, accessFlags := 25, slot := 17, constantValue := 0 }, { name := "LINE_SEPARATOR", type := .byte, accessFlags := 25, slot := 18, constantValue := 0 }, { name := "PARAGRAPH_SEPARATOR", type := .byte, accessFlags := 25, slot := 19, constantValue := 0 }, { name := "CONTROL", type := .byte, accessFlags := 25, slot := 20, constantValue := 0 }, { name := "FORMAT", type := .byte, accessFlags := 25, slot := 21, constantValue := 0 }, { name := "PRIVATE_USE", type := .byte, accessFlags := 25, slot := 22, constantValue := 0 }, { name := "SURROGATE", type := .byte, accessFlags := 25, slot := 23, constantValue := 0 }, { name := "DASH_PUNCTUATION", type := .byte, accessFlags := 25, slot := 24, constantValue := 0 }, { name := "START_PUNCTUATION", type := .byte, accessFlags := 25, slot := 25, constantValue := 0 }, { name := "END_PUNCTUATION", type := .byte, accessFlags := 25, slot := 26, constantValue := 0 }, { name := "CONNECTOR_PUNCTUATION", type := .byte, accessFlags := 25, slot := 27, constantValue := 0 }, { name := "OTHER_PUNCTUATION", type := .byte, accessFlags := 25, slot := 28, constantValue := 0 }, { name := "MATH_SYMBOL", type := .byte, accessFlags := 25, slot := 29, constantValue := 0 }, { name := "CURRENCY_SYMBOL", type := .byte, accessFlags := 25, slot := 30, constantValue := 0 }, { name := "MODIFIER_SYMBOL", type := .byte, accessFlags := 25, slot := 31, constantValue := 0 }, { name := "OTHER_SYMBOL", type := .byte, accessFlags := 25, slot := 32, constantValue := 0 }, { name := "INITIAL_QUOTE_PUNCTUATION", type := .byte, accessFlags := 25, slot := 33, constantValue := 0 }, { name := "FINAL_QUOTE_PUNCTUATION", type := .byte, accessFlags := 25, slot := 34, constantValue := 0 }, { name := "ERROR", type := .int, accessFlags := 24, slot := 35, constantValue := 0 }, { name := "DIRECTIONALITY_UNDEFINED", type := .byte, accessFlags := 25, slot := 36, constantValue := 0 }, { name := "DIRECTIONALITY_LEFT_TO_RIGHT", type := .byte, accessFlags := 25, slot := 37, constantValue := 0 }, { name := "DIRECTIONALITY_RIGHT_TO_LEFT", type := .byte, accessFlags := 25, slot := 38, constantValue := 0 }, { name := "DIRECTIONALITY_RIGHT_TO_LEFT_ARABIC", type := .byte, accessFlags := 25, slot := 39, constantValue := 0 }, { name := "DIRECTIONALITY_EUROPEAN_NUMBER", type := .byte, accessFlags := 25, slot := 40, constantValue := 0 }, { name := "DIRECTIONALITY_EUROPEAN_NUMBER_SEPARATOR", type := .byte, accessFlags := 25, slot := 41, constantValue := 0 }, { name := "DIRECTIONALITY_EUROPEAN_NUMBER_TERMINATOR", type := .byte, accessFlags := 25, slot := 42, constantValue := 0 }, { name := "DIRECTIONALITY_ARABIC_NUMBER", type := .byte, accessFlags := 25, slot := 43, constantValue := 0 }, { name := "DIRECTIONALITY_COMMON_NUMBER_SEPARATOR", type := .byte, accessFlags := 25, slot := 44, constantValue := 0 }, { name := "DIRECTIONALITY_NONSPACING_MARK", type := .byte, accessFlags := 25, slot := 45, constantValue := 0 }, { name := "DIRECTIONALITY_BOUNDARY_NEUTRAL", type := .byte, accessFlags := 25, slot := 46, constantValue := 0 }, { name := "DIRECTIONALITY_PARAGRAPH_SEPARATOR", type := .byte, accessFlags := 25, slot := 47, constantValue := 0 }, { name := "DIRECTIONALITY_SEGMENT_SEPARATOR", type := .byte, accessFlags := 25, slot := 48, constantValue := 0 }, { name := "DIRECTIONALITY_WHITESPACE", type := .byte, accessFlags := 25, slot := 49, constantValue := 0 }, { name := "DIRECTIONALITY_OTHER_NEUTRALS", type := .byte, accessFlags := 25, slot := 50, constantValue := 0 }, { name := "DIRECTIONALITY_LEFT_TO_RIGHT_EMBEDDING", type := .byte, accessFlags := 25, slot := 51, constantValue := 0 }, { name := "DIRECTIONALITY_LEFT_TO_RIGHT_OVERRIDE", type := .byte, accessFlags := 25, slot := 52, constantValue := 0 }, { name := "DIRECTIONALITY_RIGHT_TO_LEFT_EMBEDDING", type := .byte, accessFlags := 25, slot := 53, constantValue := 0 }, { name := "DIRECTIONALITY_RIGHT_TO_LEFT_OVERRIDE", type := .byte, accessFlags := 25, slot := 54, constantValue := 0 }, { name := "DIRECTIONALITY_POP_DIRECTIONAL_FORMAT", type := .byte, accessFlags := 25, slot := 55, constantValue := 0 }, { name := "DIRECTIONALITY_LEFT_TO_RIGHT_ISOLATE", type := .byte, accessFlags := 25, slot := 56, constantValue := 0 }, { name := "DIRECTIONALITY_RIGHT_TO_LEFT_ISOLATE", type := .byte, accessFlags := 25, slot := 57, constantValue := 0 }, { name := "DIRECTIONALITY_FIRST_STRONG_ISOLATE", type := .byte, accessFlags := 25, slot := 58, constantValue := 0 }, { name := "DIRECTIONALITY_POP_DIRECTIONAL_ISOLATE", type := .byte, accessFlags := 25, slot := 59, constantValue := 0 }, { name := "MIN_HIGH_SURROGATE", type := .char, accessFlags := 25, slot := 60, constantValue := 0 }, { name := "MAX_HIGH_SURROGATE", type := .char, accessFlags := 25, slot := 61, constantValue := 0 }, { name := "MIN_LOW_SURROGATE", type := .char, accessFlags := 25, slot := 62, constantValue := 0 }, { name := "MAX_LOW_SURROGATE", type := .char, accessFlags := 25, slot := 63, constantValue := 0 }, { name := "MIN_SURROGATE", type := .char, accessFlags := 25, slot := 64, constantValue := 0 }, { name := "MAX_SURROGATE", type := .char, accessFlags := 25, slot := 65, constantValue := 0 }, { name := "MIN_SUPPLEMENTARY_CODE_POINT", type := .int, accessFlags := 25, slot := 66, constantValue := 0 }, { name := "MIN_CODE_POINT", type := .int, accessFlags := 25, slot := 67, constantValue := 0 }, { name := "MAX_CODE_POINT", type := .int, accessFlags := 25, slot := 68, constantValue := 0 }, { name := "value", type := .char, accessFlags := 18, slot := 0, constantValue := 0 }, { name := "serialVersionUID", type := .long, accessFlags := 26, slot := 69, constantValue := 0 }, { name := "SIZE", type := .int, accessFlags := 25, slot := 70, constantValue := 0 }, { name := "BYTES", type := .int, accessFlags := 25, slot := 71, constantValue := 0 }, { name := "$assertionsDisabled", type := .boolean, accessFlags := 4120, slot := 72, constantValue := 0 }]
  methods := #[k11m0, k11m1, k11m2, k11m3]
  instanceTypes := #[.char]
  staticTypes := #[.int, .int, .char, .char, (.object "java/lang/Class"), .byte, .byte, .byte, .byte, .byte, .byte, .byte, .byte, .byte, .byte, .byte, .byte, .byte, .byte, .byte, .byte, .byte, .byte, .byte, .byte, .byte, .byte, .byte, .byte, .byte, .byte, .byte, .byte, .byte, .byte, .int, .byte, .byte, .byte, .byte, .byte, .byte, .byte, .byte, .byte, .byte, .byte, .byte, .byte, .byte, .byte, .byte, .byte, .byte, .byte, .byte, .byte, .byte, .byte, .byte, .char, .char, .char, .char, .char, .char, .int, .int, .int, .long, .int, .int, .boolean]
  resolved := Array.replicate 604 none
  statics := none }

def pool12 : Array CpInfo := pool [(4, .class_ 6), (1, u "java/lang/Object"), (0, u "<init>"), (0, u "()V"), (5, .class_ 16), (1, u "java/lang/StringLatin1"), (73, u "canEncode"), (14, u "(C)Z"), (15, u "$assertionsDisabled"), (0, u "Z"), (98, .class_ 223), (1, u "java/lang/StringLatin1$LinesSpliterator"), (156, u "toBytes"), (1, u "(C)[B"), (7, .class_ 391), (0, u "java/lang/StringLatin1$CharsSpliterator")] 3

def k12m0 : Method := { name := "<init>", desc := "()V", sig := { parameters := [], returnType := none }, accessFlags := 0, code := none }
def k12c1 : Code := { maxStack := 2, maxLocals := 1, code := jdk_43_method_3_code, exceptionTable := #[], attributes := #[] }
def k12m1 : Method := { name := "canEncode", desc := "(C)Z", sig := { parameters := [.char], returnType := some .boolean }, accessFlags := 9, code := some k12c1 }
def k12c2 : Code := { maxStack := 4, maxLocals := 1, code := jdk_43_method_46_code, exceptionTable := #[], attributes := #[] }
def k12m2 : Method := { name := "toBytes", desc := "(C)[B", sig := { parameters := [.char], returnType := some (.array .byte) }, accessFlags := 9, code := some k12c2 }
/-- java/lang/StringLatin1 -/
def k12 : Class := { plain "java/lang/StringLatin1" (some 0) with
  accessFlags := 48
  interfaces := #[]
  cf := some (fileOf pool12 14 #[.nestMembers #[390, 221]] #[{ accessFlags := 0, nameIndex := 7, descriptorIndex := 8, attributes := #[] }, { accessFlags := 9, nameIndex := 90, descriptorIndex := 105, attributes := #[] }, { accessFlags := 9, nameIndex := 380, descriptorIndex := 382, attributes := #[] }] 48 4 #[] #[{ accessFlags := 4120, nameIndex := 121, descriptorIndex := 122, attributes := #[] }])
  fields := #[{ name := "$assertionsDisabled", type := .boolean, accessFlags := 4120, slot := 0, constantValue := 0 }]
  methods := #[k12m0, k12m1, k12m2]
  instanceTypes := #[]
  staticTypes := #[.boolean]
  resolved := Array.replicate 395 none
  statics := none }

def pool13 : Array CpInfo := pool [(9, u "<init>"), (6, .class_ 18), (1, u "java/lang/Object"), (0, u "()V"), (1, .class_ 23), (1, u "jdk/internal/util/ArraysSupport"), (0, u "LOG2_ARRAY_LONG_INDEX_SCALE"), (0, u "I"), (2, u "U"), (0, u "Ljdk/internal/misc/Unsafe;"), (8, u "BIG_ENDIAN"), (0, u "Z"), (8, u "LOG2_BYTE_BIT_SIZE"), (4, u "LOG2_ARRAY_INT_INDEX_SCALE"), (54, u "JLA"), (0, u "Ljdk/internal/access/JavaLangAccess;"), (11, u "LOG2_ARRAY_BOOLEAN_INDEX_SCALE"), (9, u "LOG2_ARRAY_BYTE_INDEX_SCALE"), (5, u "LOG2_ARRAY_CHAR_INDEX_SCALE"), (5, u "LOG2_ARRAY_SHORT_INDEX_SCALE"), (18, u "LOG2_ARRAY_FLOAT_INDEX_SCALE"), (24, u "LOG2_ARRAY_DOUBLE_INDEX_SCALE"), (89, u "T_BOOLEAN"), (2, u "T_CHAR"), (1, u "T_FLOAT"), (1, u "T_DOUBLE"), (1, u "T_BYTE"), (1, u "T_SHORT"), (1, u "T_INT"), (1, u "T_LONG"), (1, u "SOFT_MAX_ARRAY_LENGTH")] 83

def k13m0 : Method := { name := "<init>", desc := "()V", sig := { parameters := [], returnType := none }, accessFlags := 2, code := none }
/-- jdk/internal/util/ArraysSupport -/
def k13 : Class := { plain "jdk/internal/util/ArraysSupport" (some 0) with
  accessFlags := 33
  interfaces := #[]
  cf := some (fileOf pool13 21 #[] #[{ accessFlags := 2, nameIndex := 9, descriptorIndex := 19, attributes := #[] }] 33 16 #[] #[{ accessFlags := 24, nameIndex := 28, descriptorIndex := 29, attributes := #[] }, { accessFlags := 26, nameIndex := 38, descriptorIndex := 39, attributes := #[] }, { accessFlags := 25, nameIndex := 121, descriptorIndex := 25, attributes := #[] }, { accessFlags := 25, nameIndex := 131, descriptorIndex := 25, attributes := #[] }, { accessFlags := 25, nameIndex := 137, descriptorIndex := 25, attributes := #[] }, { accessFlags := 25, nameIndex := 143, descriptorIndex := 25, attributes := #[] }, { accessFlags := 25, nameIndex := 53, descriptorIndex := 25, attributes := #[] }, { accessFlags := 25, nameIndex := 24, descriptorIndex := 25, attributes := #[] }, { accessFlags := 25, nameIndex := 162, descriptorIndex := 25, attributes := #[] }, { accessFlags := 25, nameIndex := 187, descriptorIndex := 25, attributes := #[] }, { accessFlags := 26, nameIndex := 48, descriptorIndex := 25, attributes := #[] }, { accessFlags := 25, nameIndex := 277, descriptorIndex := 25, attributes := #[] }, { accessFlags := 25, nameIndex := 280, descriptorIndex := 25, attributes := #[] }, { accessFlags := 25, nameIndex := 282, descriptorIndex := 25, attributes := #[] }, { accessFlags := 25, nameIndex := 284, descriptorIndex := 25, attributes := #[] }, { accessFlags := 25, nameIndex := 286, descriptorIndex := 25, attributes := #[] }, { accessFlags := 25, nameIndex := 288, descriptorIndex := 25, attributes := #[] }, { accessFlags := 25, nameIndex := 290, descriptorIndex := 25, attributes := #[] }, { accessFlags := 25, nameIndex := 292, descriptorIndex := 25, attributes := #[] }, { accessFlags := 26, nameIndex := 108, descriptorIndex := 109, attributes := #[] }, { accessFlags := 25, nameIndex := 294, descriptorIndex := 25, attributes := #[] }])
  fields := #[{ name := "U", type := (.object "jdk/internal/misc/Unsafe"), accessFlags := 24, slot := 0, constantValue := 0 }, { name := "BIG_ENDIAN", type := .boolean, accessFlags := 26, slot := 1, constantValue := 0 }, { name := "LOG2_ARRAY_BOOLEAN_INDEX_SCALE", type := .int, accessFlags := 25, slot := 2, constantValue := 0 }, { name := "LOG2_ARRAY_BYTE_INDEX_SCALE", type := .int, accessFlags := 25, slot := 3, constantValue := 0 }, { name := "LOG2_ARRAY_CHAR_INDEX_SCALE", type := .int, accessFlags := 25, slot := 4, constantValue := 0 }, { name := "LOG2_ARRAY_SHORT_INDEX_SCALE", type := .int, accessFlags := 25, slot := 5, constantValue := 0 }, { name := "LOG2_ARRAY_INT_INDEX_SCALE", type := .int, accessFlags := 25, slot := 6, constantValue := 0 }, { name := "LOG2_ARRAY_LONG_INDEX_SCALE", type := .int, accessFlags := 25, slot := 7, constantValue := 0 }, { name := "LOG2_ARRAY_FLOAT_INDEX_SCALE", type := .int, accessFlags := 25, slot := 8, constantValue := 0 }, { name := "LOG2_ARRAY_DOUBLE_INDEX_SCALE", type := .int, accessFlags := 25, slot := 9, constantValue := 0 }, { name := "LOG2_BYTE_BIT_SIZE", type := .int, accessFlags := 26, slot := 10, constantValue := 0 }, { name := "T_BOOLEAN", type := .int, accessFlags := 25, slot := 11, constantValue := 0 }, { name := "T_CHAR", type := .int, accessFlags := 25, slot := 12, constantValue := 0 }, { name := "T_FLOAT", type := .int, accessFlags := 25, slot := 13, constantValue := 0 }, { name := "T_DOUBLE", type := .int, accessFlags := 25, slot := 14, constantValue := 0 }, { name := "T_BYTE", type := .int, accessFlags := 25, slot := 15, constantValue := 0 }, { name := "T_SHORT", type := .int, accessFlags := 25, slot := 16, constantValue := 0 }, { name := "T_INT", type := .int, accessFlags := 25, slot := 17, constantValue := 0 }, { name := "T_LONG", type := .int, accessFlags := 25, slot := 18, constantValue := 0 }, { name := "JLA", type := (.object "jdk/internal/access/JavaLangAccess"), accessFlags := 26, slot := 19, constantValue := 0 }, { name := "SOFT_MAX_ARRAY_LENGTH", type := .int, accessFlags := 25, slot := 20, constantValue := 0 }]
  methods := #[k13m0]
  instanceTypes := #[]
  staticTypes := #[(.object "jdk/internal/misc/Unsafe"), .boolean, .int, .int, .int, .int, .int, .int, .int, .int, .int, .int, .int, .int, .int, .int, .int, .int, .int, (.object "jdk/internal/access/JavaLangAccess"), .int]
  resolved := Array.replicate 378 none
  statics := none }

def pool14 : Array CpInfo := pool [(1, u "java/lang/Cloneable"), (0, .class_ 1), (0, u "java/lang/Object"), (0, .class_ 3)] 3

/-- java/lang/Cloneable -/
def k14 : Class := { plain "java/lang/Cloneable" (some 0) with
  accessFlags := 1537
  interfaces := #[]
  cf := some (fileOf pool14 2 #[] #[] 1537 4 #[] #[])
  fields := #[]
  methods := #[]
  instanceTypes := #[]
  staticTypes := #[]
  resolved := Array.replicate 8 none
  statics := none }

/-- the primitive byte -/
def k15 : Class := { plain "byte" none with kind := .primitive 'B', accessFlags := 0x411 }
/-- [B -/
def k16 : Class := { plain "[B" (some 0) with kind := .array 15 .byte, interfaces := #[14, 2], accessFlags := 1041 }

/-- the primitive char -/
def k17 : Class := { plain "char" none with kind := .primitive 'C', accessFlags := 0x411 }
/-- [C -/
def k18 : Class := { plain "[C" (some 0) with kind := .array 17 .char, interfaces := #[14, 2], accessFlags := 1041 }

/-- the primitive int -/
def k19 : Class := { plain "int" none with kind := .primitive 'I', accessFlags := 0x411 }
/-- [I -/
def k20 : Class := { plain "[I" (some 0) with kind := .array 19 .int, interfaces := #[14, 2], accessFlags := 1041 }

def heap : Heap := #[{ cls := 7, slots := #[.long 0, .int 1, .null, .int 0, .null, .int 0, .int 0], vm := .statics 7 },
  { cls := 9, slots := #[.int 0, .int 8, .int 0, .int 1], vm := .statics 9 },
  { cls := 10, slots := #[.null, .null, .null], vm := .statics 10 }]
def classes : Array Class := #[k0, k1, k2, k3, k4, k5, k6, k7, k8, k9, k10, k11, k12, k13, k14, k15, k16, k17, k18, k19, k20]
def interned : List (Array UInt16 × Addr) := []
def slotsUsed : Nat := 14
def theMethod : MethodId := ⟨1, 6⟩
def args0 : Array Value := #[.int 5, .int 6, .int 7, .int 3, .int 4]
def aboutOver (below : List Frame) : State where
  vm := { classes := classes, interned := interned.toArray }
  heap := heap
  slotsUsed := slotsUsed
  threads := #[{ frames := .invoking theMethod args0 :: below }]
def below0 : List Frame := [.native { method := ⟨0, 0⟩, args := #[] }]
def about1 : State := aboutOver below0
def p0 : Program := .bare "" "" ""
def e0 : Env := launch0.env 0 0 0
theorem w_frames : about1.frames = Frame.invoking theMethod args0 :: below0 := rfl
set_option maxRecDepth 65536 in
theorem w_args : argsFit about1.vm theMethod args0 = true := by decide +kernel
set_option maxRecDepth 65536 in
theorem w_heap : heapFits about1 = true := by decide +kernel
set_option maxRecDepth 65536 in
theorem w_runnable : about1.curStatus? = some .runnable := by decide +kernel
set_option maxRecDepth 65536 in
theorem w_alone : about1.alone = true := by decide +kernel
set_option maxRecDepth 65536 in
theorem w_named : about1.methodNamed? x = some theMethod := by decide +kernel
set_option maxRecDepth 65536 in
theorem w_hears : about1.hears theMethod below0 = true := by decide +kernel
set_option maxRecDepth 65536 in
theorem w_ripe : about1.ripe theMethod args0 below0 = true := by decide +kernel
theorem w_running : about1.status = .running := rfl
set_option maxRecDepth 65536 in
theorem w_room : about1.hasRoom e0.platform room_1 = true :=
  launch0.hasRoom_least _ room_1 (by decide +kernel) (by decide +kernel) (by decide +kernel) (by decide +kernel) (by decide +kernel) (by decide +kernel)
theorem allAtoms_all (ts : List Jvm.Cond) (a : Array Jvm.Value) (st : Jvm.State) : (allAtoms ts).before a st = ts.all (fun c => c.before a st) := by
  induction ts with
  | nil => rfl
  | cons c t ih =>
    show (Jvm.Cond.and c (allAtoms t)).before a st = _
    rw [Jvm.Cond.before_and, ih, List.all_cons]
def words1 : List Jvm.Cond := Jvm.Cond.code x code maxLocals ret :: tables_1
/-- a 'code' word, met by the world's own term for the bytes: nothing is compared byte by byte -/
theorem code_word {y : MethodName} {bytes : ByteArray} {mx : Nat} {rt : Option FieldType} {a : Array Value} {s : State} {m : MethodId} {meth : Method} {c : Code} (h1 : s.methodNamed? y = some m) (h2 : s.vm.method? m = some meth) (h3 : meth.code = some c) (h4 : c.code = bytes)
    (h5 : (c.maxLocals == mx && c.exceptionTable.isEmpty && decide (c.maxStack ≤ mostOperands) && decide (meth.sig.returnType = rt) && !meth.locks && decide (parseMethodDescriptor y.desc = some meth.sig)) = true) : (Jvm.Cond.code y bytes mx rt).before a s = true := by
  simp only [Bool.and_eq_true, beq_iff_eq, Bool.not_eq_true', decide_eq_true_eq] at h5
  obtain ⟨⟨⟨⟨⟨g1, g2⟩, g3⟩, g4⟩, g5⟩, g6⟩ := h5
  simp [Cond.before, Cond.holds, Cond.value, h1, h2, h3, h4, g1, g2, g3, g4, g5, g6]
def isCode : Jvm.Cond → Bool
  | .code _ _ _ _ => true
  | _ => false
theorem all_split {L : List Jvm.Cond} {P : Jvm.Cond → Bool} (h1 : L.all (fun c => isCode c || P c) = true) (h2 : ∀ c ∈ L.filter isCode, P c = true) : L.all P = true := by
  refine List.all_eq_true.mpr fun c hc => ?_
  have h := List.all_eq_true.mp h1 c hc
  rcases Bool.eq_false_or_eq_true (isCode c) with hi | hi
  · exact h2 c (List.mem_filter.mpr ⟨hc, hi⟩)
  · simpa [hi] using h
set_option maxRecDepth 65536 in
theorem w_c0 : (Jvm.Cond.code x code maxLocals ret).before args0 about1 = true := code_word (m := ⟨1, 6⟩) (meth := k1m6) (c := k1c6) (by decide +kernel) rfl rfl rfl (by decide +kernel)
set_option maxRecDepth 65536 in
theorem w_c1 : (Jvm.Cond.code ({ cls := "com/example/mangrove/mangrove/Utf8TextLoneSurrogateAtPinLaw", name := "draw", desc := "(I)C" } : Jvm.MethodName) method_4_code (3 : Nat) (Option.some Jvm.ClassFile.FieldType.char)).before args0 about1 = true := code_word (m := ⟨1, 3⟩) (meth := k1m3) (c := k1c3) (by decide +kernel) rfl rfl rfl (by decide +kernel)
set_option maxRecDepth 65536 in
theorem w_c2 : (Jvm.Cond.code ({ cls := "com/example/mangrove/mangrove/Utf8TextLoneSurrogateAtPinLaw", name := "str", desc := "([CI)Ljava/lang/String;" } : Jvm.MethodName) method_5_code (2 : Nat) (Option.some (Jvm.ClassFile.FieldType.object "java/lang/String"))).before args0 about1 = true := code_word (m := ⟨1, 4⟩) (meth := k1m4) (c := k1c4) (by decide +kernel) rfl rfl rfl (by decide +kernel)
set_option maxRecDepth 65536 in
theorem w_c3 : (Jvm.Cond.code ({ cls := "java/lang/String", name := "<init>", desc := "([C)V" } : Jvm.MethodName) jdk_42_method_3_code (2 : Nat) (Option.none : Option Jvm.ClassFile.FieldType)).before args0 about1 = true := code_word (m := ⟨7, 1⟩) (meth := k7m1) (c := k7c1) (by decide +kernel) rfl rfl rfl (by decide +kernel)
set_option maxRecDepth 65536 in
theorem w_c4 : (Jvm.Cond.code ({ cls := "java/lang/String", name := "<init>", desc := "([CIILjava/lang/Void;)V" } : Jvm.MethodName) jdk_42_method_149_code (6 : Nat) (Option.none : Option Jvm.ClassFile.FieldType)).before args0 about1 = true := code_word (m := ⟨7, 5⟩) (meth := k7m5) (c := k7c5) (by decide +kernel) rfl rfl rfl (by decide +kernel)
set_option maxRecDepth 65536 in
theorem w_c5 : (Jvm.Cond.code ({ cls := "java/lang/Object", name := "<init>", desc := "()V" } : Jvm.MethodName) object_method_1_code (1 : Nat) (Option.none : Option Jvm.ClassFile.FieldType)).before args0 about1 = true := code_word (m := ⟨0, 0⟩) (meth := k0m0) (c := k0c0) (by decide +kernel) rfl rfl rfl (by decide +kernel)
set_option maxRecDepth 65536 in
theorem w_c6 : (Jvm.Cond.code ({ cls := "com/example/mangrove/mangrove/Utf8TextLoneSurrogateAtPinLaw", name := "loneAt", desc := "([CIII)Z" } : Jvm.MethodName) method_6_code (5 : Nat) (Option.some Jvm.ClassFile.FieldType.boolean)).before args0 about1 = true := code_word (m := ⟨1, 5⟩) (meth := k1m5) (c := k1c5) (by decide +kernel) rfl rfl rfl (by decide +kernel)
set_option maxRecDepth 65536 in
theorem w_c7 : (Jvm.Cond.code ({ cls := "com/example/mangrove/mangrove/Utf8Text", name := "loneSurrogateAt", desc := "(Ljava/lang/String;I)I" } : Jvm.MethodName) prog_25_method_3_code (4 : Nat) (Option.some Jvm.ClassFile.FieldType.int)).before args0 about1 = true := code_word (m := ⟨8, 1⟩) (meth := k8m1) (c := k8c1) (by decide +kernel) rfl rfl rfl (by decide +kernel)
set_option maxRecDepth 65536 in
theorem w_c8 : (Jvm.Cond.code ({ cls := "java/lang/String", name := "length", desc := "()I" } : Jvm.MethodName) jdk_42_method_54_code (1 : Nat) (Option.some Jvm.ClassFile.FieldType.int)).before args0 about1 = true := code_word (m := ⟨7, 2⟩) (meth := k7m2) (c := k7c2) (by decide +kernel) rfl rfl rfl (by decide +kernel)
set_option maxRecDepth 65536 in
theorem w_c9 : (Jvm.Cond.code ({ cls := "java/lang/String", name := "coder", desc := "()B" } : Jvm.MethodName) jdk_42_method_152_code (1 : Nat) (Option.some Jvm.ClassFile.FieldType.byte)).before args0 about1 = true := code_word (m := ⟨7, 7⟩) (meth := k7m7) (c := k7c7) (by decide +kernel) rfl rfl rfl (by decide +kernel)
set_option maxRecDepth 65536 in
theorem w_c10 : (Jvm.Cond.code ({ cls := "java/lang/StringUTF16", name := "compress", desc := "([CII)[B" } : Jvm.MethodName) jdk_52_method_16_code (6 : Nat) (Option.some (Jvm.ClassFile.FieldType.array Jvm.ClassFile.FieldType.byte))).before args0 about1 = true := code_word (m := ⟨9, 9⟩) (meth := k9m9) (c := k9c9) (by decide +kernel) rfl rfl rfl (by decide +kernel)
set_option maxRecDepth 65536 in
theorem w_c11 : (Jvm.Cond.code ({ cls := "java/lang/StringUTF16", name := "compress", desc := "([CI[BII)I" } : Jvm.MethodName) jdk_52_method_21_code (7 : Nat) (Option.some Jvm.ClassFile.FieldType.int)).before args0 about1 = true := code_word (m := ⟨9, 10⟩) (meth := k9m10) (c := k9c10) (by decide +kernel) rfl rfl rfl (by decide +kernel)
set_option maxRecDepth 65536 in
theorem w_c12 : (Jvm.Cond.code ({ cls := "java/lang/StringUTF16", name := "coderFromArrayLen", desc := "([BI)B" } : Jvm.MethodName) jdk_52_method_15_code (2 : Nat) (Option.some Jvm.ClassFile.FieldType.byte)).before args0 about1 = true := code_word (m := ⟨9, 8⟩) (meth := k9m8) (c := k9c8) (by decide +kernel) rfl rfl rfl (by decide +kernel)
set_option maxRecDepth 65536 in
theorem w_c13 : (Jvm.Cond.code ({ cls := "com/example/mangrove/mangrove/Utf8TextLoneSurrogateAtPinLaw", name := "isHigh", desc := "(C)Z" } : Jvm.MethodName) method_2_code (1 : Nat) (Option.some Jvm.ClassFile.FieldType.boolean)).before args0 about1 = true := code_word (m := ⟨1, 1⟩) (meth := k1m1) (c := k1c1) (by decide +kernel) rfl rfl rfl (by decide +kernel)
set_option maxRecDepth 65536 in
theorem w_c14 : (Jvm.Cond.code ({ cls := "com/example/mangrove/mangrove/Utf8TextLoneSurrogateAtPinLaw", name := "isLow", desc := "(C)Z" } : Jvm.MethodName) method_3_code (1 : Nat) (Option.some Jvm.ClassFile.FieldType.boolean)).before args0 about1 = true := code_word (m := ⟨1, 2⟩) (meth := k1m2) (c := k1c2) (by decide +kernel) rfl rfl rfl (by decide +kernel)
set_option maxRecDepth 65536 in
theorem w_c15 : (Jvm.Cond.code ({ cls := "java/lang/String", name := "codePointAt", desc := "(I)I" } : Jvm.MethodName) jdk_42_method_57_code (3 : Nat) (Option.some Jvm.ClassFile.FieldType.int)).before args0 about1 = true := code_word (m := ⟨7, 3⟩) (meth := k7m3) (c := k7c3) (by decide +kernel) rfl rfl rfl (by decide +kernel)
set_option maxRecDepth 65536 in
theorem w_c16 : (Jvm.Cond.code ({ cls := "java/lang/String", name := "isLatin1", desc := "()Z" } : Jvm.MethodName) jdk_42_method_154_code (1 : Nat) (Option.some Jvm.ClassFile.FieldType.boolean)).before args0 about1 = true := code_word (m := ⟨7, 8⟩) (meth := k7m8) (c := k7c8) (by decide +kernel) rfl rfl rfl (by decide +kernel)
set_option maxRecDepth 65536 in
theorem w_c17 : (Jvm.Cond.code ({ cls := "java/lang/String", name := "checkIndex", desc := "(II)V" } : Jvm.MethodName) jdk_42_method_155_code (2 : Nat) (Option.none : Option Jvm.ClassFile.FieldType)).before args0 about1 = true := code_word (m := ⟨7, 9⟩) (meth := k7m9) (c := k7c9) (by decide +kernel) rfl rfl rfl (by decide +kernel)
set_option maxRecDepth 65536 in
theorem w_c18 : (Jvm.Cond.code ({ cls := "jdk/internal/util/Preconditions", name := "checkIndex", desc := "(IILjava/util/function/BiFunction;)I" } : Jvm.MethodName) jdk_41_method_11_code (3 : Nat) (Option.some Jvm.ClassFile.FieldType.int)).before args0 about1 = true := code_word (m := ⟨10, 1⟩) (meth := k10m1) (c := k10c1) (by decide +kernel) rfl rfl rfl (by decide +kernel)
set_option maxRecDepth 65536 in
theorem w_c19 : (Jvm.Cond.code ({ cls := "java/lang/Character", name := "charCount", desc := "(I)I" } : Jvm.MethodName) jdk_89_method_18_code (1 : Nat) (Option.some Jvm.ClassFile.FieldType.int)).before args0 about1 = true := code_word (m := ⟨11, 2⟩) (meth := k11m2) (c := k11c2) (by decide +kernel) rfl rfl rfl (by decide +kernel)
set_option maxRecDepth 65536 in
theorem w_c20 : (Jvm.Cond.code ({ cls := "java/lang/String", name := "valueOf", desc := "(C)Ljava/lang/String;" } : Jvm.MethodName) jdk_42_method_139_code (1 : Nat) (Option.some (Jvm.ClassFile.FieldType.object "java/lang/String"))).before args0 about1 = true := code_word (m := ⟨7, 4⟩) (meth := k7m4) (c := k7c4) (by decide +kernel) rfl rfl rfl (by decide +kernel)
set_option maxRecDepth 65536 in
theorem w_c21 : (Jvm.Cond.code ({ cls := "java/lang/StringLatin1", name := "canEncode", desc := "(C)Z" } : Jvm.MethodName) jdk_43_method_3_code (1 : Nat) (Option.some Jvm.ClassFile.FieldType.boolean)).before args0 about1 = true := code_word (m := ⟨12, 1⟩) (meth := k12m1) (c := k12c1) (by decide +kernel) rfl rfl rfl (by decide +kernel)
set_option maxRecDepth 65536 in
theorem w_c22 : (Jvm.Cond.code ({ cls := "java/lang/StringLatin1", name := "toBytes", desc := "(C)[B" } : Jvm.MethodName) jdk_43_method_46_code (1 : Nat) (Option.some (Jvm.ClassFile.FieldType.array Jvm.ClassFile.FieldType.byte))).before args0 about1 = true := code_word (m := ⟨12, 2⟩) (meth := k12m2) (c := k12c2) (by decide +kernel) rfl rfl rfl (by decide +kernel)
set_option maxRecDepth 65536 in
theorem w_c23 : (Jvm.Cond.code ({ cls := "java/lang/String", name := "<init>", desc := "([BB)V" } : Jvm.MethodName) jdk_42_method_151_code (3 : Nat) (Option.none : Option Jvm.ClassFile.FieldType)).before args0 about1 = true := code_word (m := ⟨7, 6⟩) (meth := k7m6) (c := k7c6) (by decide +kernel) rfl rfl rfl (by decide +kernel)
set_option maxRecDepth 65536 in
theorem w_c24 : (Jvm.Cond.code ({ cls := "java/lang/StringUTF16", name := "toBytes", desc := "([CII)[B" } : Jvm.MethodName) jdk_52_method_14_code (5 : Nat) (Option.some (Jvm.ClassFile.FieldType.array Jvm.ClassFile.FieldType.byte))).before args0 about1 = true := code_word (m := ⟨9, 7⟩) (meth := k9m7) (c := k9c7) (by decide +kernel) rfl rfl rfl (by decide +kernel)
set_option maxRecDepth 65536 in
theorem w_c25 : (Jvm.Cond.code ({ cls := "java/lang/StringUTF16", name := "newBytesFor", desc := "(I)[B" } : Jvm.MethodName) jdk_52_method_2_code (1 : Nat) (Option.some (Jvm.ClassFile.FieldType.array Jvm.ClassFile.FieldType.byte))).before args0 about1 = true := code_word (m := ⟨9, 1⟩) (meth := k9m1) (c := k9c1) (by decide +kernel) rfl rfl rfl (by decide +kernel)
set_option maxRecDepth 65536 in
theorem w_c26 : (Jvm.Cond.code ({ cls := "java/lang/StringUTF16", name := "newBytesLength", desc := "(I)I" } : Jvm.MethodName) jdk_52_method_3_code (1 : Nat) (Option.some Jvm.ClassFile.FieldType.int)).before args0 about1 = true := code_word (m := ⟨9, 2⟩) (meth := k9m2) (c := k9c2) (by decide +kernel) rfl rfl rfl (by decide +kernel)
set_option maxRecDepth 65536 in
theorem w_c27 : (Jvm.Cond.code ({ cls := "java/lang/StringUTF16", name := "putChar", desc := "([BII)V" } : Jvm.MethodName) jdk_52_method_4_code (3 : Nat) (Option.none : Option Jvm.ClassFile.FieldType)).before args0 about1 = true := code_word (m := ⟨9, 3⟩) (meth := k9m3) (c := k9c3) (by decide +kernel) rfl rfl rfl (by decide +kernel)
set_option maxRecDepth 65536 in
theorem w_c28 : (Jvm.Cond.code ({ cls := "java/lang/StringUTF16", name := "getChar", desc := "([BI)C" } : Jvm.MethodName) jdk_52_method_5_code (2 : Nat) (Option.some Jvm.ClassFile.FieldType.char)).before args0 about1 = true := code_word (m := ⟨9, 4⟩) (meth := k9m4) (c := k9c4) (by decide +kernel) rfl rfl rfl (by decide +kernel)
set_option maxRecDepth 65536 in
theorem w_c29 : (Jvm.Cond.code ({ cls := "java/lang/StringUTF16", name := "codePointAt", desc := "([BII)I" } : Jvm.MethodName) jdk_52_method_8_code (3 : Nat) (Option.some Jvm.ClassFile.FieldType.int)).before args0 about1 = true := code_word (m := ⟨9, 6⟩) (meth := k9m6) (c := k9c6) (by decide +kernel) rfl rfl rfl (by decide +kernel)
set_option maxRecDepth 65536 in
theorem w_c30 : (Jvm.Cond.code ({ cls := "java/lang/StringUTF16", name := "codePointAt", desc := "([BIIZ)I" } : Jvm.MethodName) jdk_52_method_7_code (6 : Nat) (Option.some Jvm.ClassFile.FieldType.int)).before args0 about1 = true := code_word (m := ⟨9, 5⟩) (meth := k9m5) (c := k9c5) (by decide +kernel) rfl rfl rfl (by decide +kernel)
set_option maxRecDepth 65536 in
theorem w_c31 : (Jvm.Cond.code ({ cls := "java/lang/Character", name := "isHighSurrogate", desc := "(C)Z" } : Jvm.MethodName) jdk_89_method_14_code (1 : Nat) (Option.some Jvm.ClassFile.FieldType.boolean)).before args0 about1 = true := code_word (m := ⟨11, 0⟩) (meth := k11m0) (c := k11c0) (by decide +kernel) rfl rfl rfl (by decide +kernel)
set_option maxRecDepth 65536 in
theorem w_c32 : (Jvm.Cond.code ({ cls := "java/lang/Character", name := "isLowSurrogate", desc := "(C)Z" } : Jvm.MethodName) jdk_89_method_15_code (1 : Nat) (Option.some Jvm.ClassFile.FieldType.boolean)).before args0 about1 = true := code_word (m := ⟨11, 1⟩) (meth := k11m1) (c := k11c1) (by decide +kernel) rfl rfl rfl (by decide +kernel)
set_option maxRecDepth 65536 in
theorem w_c33 : (Jvm.Cond.code ({ cls := "java/lang/StringUTF16", name := "toBytes", desc := "(C)[B" } : Jvm.MethodName) jdk_52_method_24_code (2 : Nat) (Option.some (Jvm.ClassFile.FieldType.array Jvm.ClassFile.FieldType.byte))).before args0 about1 = true := code_word (m := ⟨9, 11⟩) (meth := k9m11) (c := k9c11) (by decide +kernel) rfl rfl rfl (by decide +kernel)
set_option maxRecDepth 65536 in
theorem w_c34 : (Jvm.Cond.code ({ cls := "java/lang/Character", name := "toCodePoint", desc := "(CC)I" } : Jvm.MethodName) jdk_89_method_19_code (2 : Nat) (Option.some Jvm.ClassFile.FieldType.int)).before args0 about1 = true := code_word (m := ⟨11, 3⟩) (meth := k11m3) (c := k11c3) (by decide +kernel) rfl rfl rfl (by decide +kernel)
def codes1 : List Jvm.Cond := [Jvm.Cond.code x code maxLocals ret, Jvm.Cond.code ({ cls := "com/example/mangrove/mangrove/Utf8TextLoneSurrogateAtPinLaw", name := "draw", desc := "(I)C" } : Jvm.MethodName) method_4_code (3 : Nat) (Option.some Jvm.ClassFile.FieldType.char), Jvm.Cond.code ({ cls := "com/example/mangrove/mangrove/Utf8TextLoneSurrogateAtPinLaw", name := "str", desc := "([CI)Ljava/lang/String;" } : Jvm.MethodName) method_5_code (2 : Nat) (Option.some (Jvm.ClassFile.FieldType.object "java/lang/String")), Jvm.Cond.code ({ cls := "java/lang/String", name := "<init>", desc := "([C)V" } : Jvm.MethodName) jdk_42_method_3_code (2 : Nat) (Option.none : Option Jvm.ClassFile.FieldType), Jvm.Cond.code ({ cls := "java/lang/String", name := "<init>", desc := "([CIILjava/lang/Void;)V" } : Jvm.MethodName) jdk_42_method_149_code (6 : Nat) (Option.none : Option Jvm.ClassFile.FieldType), Jvm.Cond.code ({ cls := "java/lang/Object", name := "<init>", desc := "()V" } : Jvm.MethodName) object_method_1_code (1 : Nat) (Option.none : Option Jvm.ClassFile.FieldType), Jvm.Cond.code ({ cls := "com/example/mangrove/mangrove/Utf8TextLoneSurrogateAtPinLaw", name := "loneAt", desc := "([CIII)Z" } : Jvm.MethodName) method_6_code (5 : Nat) (Option.some Jvm.ClassFile.FieldType.boolean), Jvm.Cond.code ({ cls := "com/example/mangrove/mangrove/Utf8Text", name := "loneSurrogateAt", desc := "(Ljava/lang/String;I)I" } : Jvm.MethodName) prog_25_method_3_code (4 : Nat) (Option.some Jvm.ClassFile.FieldType.int), Jvm.Cond.code ({ cls := "java/lang/String", name := "length", desc := "()I" } : Jvm.MethodName) jdk_42_method_54_code (1 : Nat) (Option.some Jvm.ClassFile.FieldType.int), Jvm.Cond.code ({ cls := "java/lang/String", name := "coder", desc := "()B" } : Jvm.MethodName) jdk_42_method_152_code (1 : Nat) (Option.some Jvm.ClassFile.FieldType.byte), Jvm.Cond.code ({ cls := "java/lang/StringUTF16", name := "compress", desc := "([CII)[B" } : Jvm.MethodName) jdk_52_method_16_code (6 : Nat) (Option.some (Jvm.ClassFile.FieldType.array Jvm.ClassFile.FieldType.byte)), Jvm.Cond.code ({ cls := "java/lang/StringUTF16", name := "compress", desc := "([CI[BII)I" } : Jvm.MethodName) jdk_52_method_21_code (7 : Nat) (Option.some Jvm.ClassFile.FieldType.int), Jvm.Cond.code ({ cls := "java/lang/StringUTF16", name := "coderFromArrayLen", desc := "([BI)B" } : Jvm.MethodName) jdk_52_method_15_code (2 : Nat) (Option.some Jvm.ClassFile.FieldType.byte), Jvm.Cond.code ({ cls := "com/example/mangrove/mangrove/Utf8TextLoneSurrogateAtPinLaw", name := "isHigh", desc := "(C)Z" } : Jvm.MethodName) method_2_code (1 : Nat) (Option.some Jvm.ClassFile.FieldType.boolean), Jvm.Cond.code ({ cls := "com/example/mangrove/mangrove/Utf8TextLoneSurrogateAtPinLaw", name := "isLow", desc := "(C)Z" } : Jvm.MethodName) method_3_code (1 : Nat) (Option.some Jvm.ClassFile.FieldType.boolean), Jvm.Cond.code ({ cls := "java/lang/String", name := "codePointAt", desc := "(I)I" } : Jvm.MethodName) jdk_42_method_57_code (3 : Nat) (Option.some Jvm.ClassFile.FieldType.int), Jvm.Cond.code ({ cls := "java/lang/String", name := "isLatin1", desc := "()Z" } : Jvm.MethodName) jdk_42_method_154_code (1 : Nat) (Option.some Jvm.ClassFile.FieldType.boolean), Jvm.Cond.code ({ cls := "java/lang/String", name := "checkIndex", desc := "(II)V" } : Jvm.MethodName) jdk_42_method_155_code (2 : Nat) (Option.none : Option Jvm.ClassFile.FieldType), Jvm.Cond.code ({ cls := "jdk/internal/util/Preconditions", name := "checkIndex", desc := "(IILjava/util/function/BiFunction;)I" } : Jvm.MethodName) jdk_41_method_11_code (3 : Nat) (Option.some Jvm.ClassFile.FieldType.int), Jvm.Cond.code ({ cls := "java/lang/Character", name := "charCount", desc := "(I)I" } : Jvm.MethodName) jdk_89_method_18_code (1 : Nat) (Option.some Jvm.ClassFile.FieldType.int), Jvm.Cond.code ({ cls := "java/lang/String", name := "valueOf", desc := "(C)Ljava/lang/String;" } : Jvm.MethodName) jdk_42_method_139_code (1 : Nat) (Option.some (Jvm.ClassFile.FieldType.object "java/lang/String")), Jvm.Cond.code ({ cls := "java/lang/StringLatin1", name := "canEncode", desc := "(C)Z" } : Jvm.MethodName) jdk_43_method_3_code (1 : Nat) (Option.some Jvm.ClassFile.FieldType.boolean), Jvm.Cond.code ({ cls := "java/lang/StringLatin1", name := "toBytes", desc := "(C)[B" } : Jvm.MethodName) jdk_43_method_46_code (1 : Nat) (Option.some (Jvm.ClassFile.FieldType.array Jvm.ClassFile.FieldType.byte)), Jvm.Cond.code ({ cls := "java/lang/String", name := "<init>", desc := "([BB)V" } : Jvm.MethodName) jdk_42_method_151_code (3 : Nat) (Option.none : Option Jvm.ClassFile.FieldType), Jvm.Cond.code ({ cls := "java/lang/StringUTF16", name := "toBytes", desc := "([CII)[B" } : Jvm.MethodName) jdk_52_method_14_code (5 : Nat) (Option.some (Jvm.ClassFile.FieldType.array Jvm.ClassFile.FieldType.byte)), Jvm.Cond.code ({ cls := "java/lang/StringUTF16", name := "newBytesFor", desc := "(I)[B" } : Jvm.MethodName) jdk_52_method_2_code (1 : Nat) (Option.some (Jvm.ClassFile.FieldType.array Jvm.ClassFile.FieldType.byte)), Jvm.Cond.code ({ cls := "java/lang/StringUTF16", name := "newBytesLength", desc := "(I)I" } : Jvm.MethodName) jdk_52_method_3_code (1 : Nat) (Option.some Jvm.ClassFile.FieldType.int), Jvm.Cond.code ({ cls := "java/lang/StringUTF16", name := "putChar", desc := "([BII)V" } : Jvm.MethodName) jdk_52_method_4_code (3 : Nat) (Option.none : Option Jvm.ClassFile.FieldType), Jvm.Cond.code ({ cls := "java/lang/StringUTF16", name := "getChar", desc := "([BI)C" } : Jvm.MethodName) jdk_52_method_5_code (2 : Nat) (Option.some Jvm.ClassFile.FieldType.char), Jvm.Cond.code ({ cls := "java/lang/StringUTF16", name := "codePointAt", desc := "([BII)I" } : Jvm.MethodName) jdk_52_method_8_code (3 : Nat) (Option.some Jvm.ClassFile.FieldType.int), Jvm.Cond.code ({ cls := "java/lang/StringUTF16", name := "codePointAt", desc := "([BIIZ)I" } : Jvm.MethodName) jdk_52_method_7_code (6 : Nat) (Option.some Jvm.ClassFile.FieldType.int), Jvm.Cond.code ({ cls := "java/lang/Character", name := "isHighSurrogate", desc := "(C)Z" } : Jvm.MethodName) jdk_89_method_14_code (1 : Nat) (Option.some Jvm.ClassFile.FieldType.boolean), Jvm.Cond.code ({ cls := "java/lang/Character", name := "isLowSurrogate", desc := "(C)Z" } : Jvm.MethodName) jdk_89_method_15_code (1 : Nat) (Option.some Jvm.ClassFile.FieldType.boolean), Jvm.Cond.code ({ cls := "java/lang/StringUTF16", name := "toBytes", desc := "(C)[B" } : Jvm.MethodName) jdk_52_method_24_code (2 : Nat) (Option.some (Jvm.ClassFile.FieldType.array Jvm.ClassFile.FieldType.byte)), Jvm.Cond.code ({ cls := "java/lang/Character", name := "toCodePoint", desc := "(CC)I" } : Jvm.MethodName) jdk_89_method_19_code (2 : Nat) (Option.some Jvm.ClassFile.FieldType.int)]
set_option maxRecDepth 65536 in
theorem codes_eq : words1.filter isCode = codes1 := rfl
theorem w_codes : ∀ c ∈ words1.filter isCode, c.before args0 about1 = true := by
  rw [codes_eq]
  intro c hc
  simp only [codes1, List.mem_cons, List.not_mem_nil, or_false] at hc
  rcases hc with rfl | rfl | rfl | rfl | rfl | rfl | rfl | rfl | rfl | rfl | rfl | rfl | rfl | rfl | rfl | rfl | rfl | rfl | rfl | rfl | rfl | rfl | rfl | rfl | rfl | rfl | rfl | rfl | rfl | rfl | rfl | rfl | rfl | rfl | rfl
  · exact w_c0
  · exact w_c1
  · exact w_c2
  · exact w_c3
  · exact w_c4
  · exact w_c5
  · exact w_c6
  · exact w_c7
  · exact w_c8
  · exact w_c9
  · exact w_c10
  · exact w_c11
  · exact w_c12
  · exact w_c13
  · exact w_c14
  · exact w_c15
  · exact w_c16
  · exact w_c17
  · exact w_c18
  · exact w_c19
  · exact w_c20
  · exact w_c21
  · exact w_c22
  · exact w_c23
  · exact w_c24
  · exact w_c25
  · exact w_c26
  · exact w_c27
  · exact w_c28
  · exact w_c29
  · exact w_c30
  · exact w_c31
  · exact w_c32
  · exact w_c33
  · exact w_c34
set_option maxRecDepth 65536 in
theorem w_t1 : (words1.take 24).all (fun c => isCode c || c.before args0 about1) = true := by decide +kernel
set_option maxRecDepth 65536 in
theorem w_t2 : ((words1.drop 24).take 24).all (fun c => isCode c || c.before args0 about1) = true := by decide +kernel
set_option maxRecDepth 65536 in
theorem w_t3 : (((words1.drop 24).drop 24).take 24).all (fun c => isCode c || c.before args0 about1) = true := by decide +kernel
set_option maxRecDepth 65536 in
theorem w_t4 : ((((words1.drop 24).drop 24).drop 24).take 24).all (fun c => isCode c || c.before args0 about1) = true := by decide +kernel
set_option maxRecDepth 65536 in
theorem w_t5 : (((((words1.drop 24).drop 24).drop 24).drop 24).take 24).all (fun c => isCode c || c.before args0 about1) = true := by decide +kernel
set_option maxRecDepth 65536 in
theorem w_t6 : ((((((words1.drop 24).drop 24).drop 24).drop 24).drop 24).take 24).all (fun c => isCode c || c.before args0 about1) = true := by decide +kernel
set_option maxRecDepth 65536 in
theorem w_t7 : ((((((words1.drop 24).drop 24).drop 24).drop 24).drop 24).drop 24).all (fun c => isCode c || c.before args0 about1) = true := by decide +kernel
theorem w_tables : (allAtoms (Jvm.Cond.code x code maxLocals ret :: tables_1)).before args0 about1 = true := by
  rw [allAtoms_all]
  show words1.all (fun c => c.before args0 about1) = true
  refine all_split ?_ w_codes
  rw [← List.take_append_drop 24 words1, List.all_append, w_t1, ← List.take_append_drop 24 (words1.drop 24), List.all_append, w_t2, ← List.take_append_drop 24 ((words1.drop 24).drop 24), List.all_append, w_t3, ← List.take_append_drop 24 (((words1.drop 24).drop 24).drop 24), List.all_append, w_t4, ← List.take_append_drop 24 ((((words1.drop 24).drop 24).drop 24).drop 24), List.all_append, w_t5, ← List.take_append_drop 24 (((((words1.drop 24).drop 24).drop 24).drop 24).drop 24), List.all_append, w_t6, w_t7]
  rfl
set_option maxRecDepth 65536 in
theorem w_rest : rest_1_c.before args0 about1 = true := by decide +kernel
set_option maxRecDepth 65536 in
theorem w_case : (Jvm.Cond.and given_1 narrow_1).before args0 about1 = true := by decide +kernel
set_option maxRecDepth 65536 in
theorem w_consts : constsHeld consts_1 about1 := Jvm.Lit.constsHeldB_iff.mp (by decide +kernel)
theorem w_applies : (headSpec (Jvm.Cond.code x code maxLocals ret :: tables_1) room_1).applies x e0.platform about1 = true :=
  (Spec.applies_iff w_frames).mpr ⟨w_running, w_runnable, w_alone, w_named, w_hears, w_ripe, w_room, w_tables⟩
theorem atStart : AtStart classFile x code maxLocals ret World_1 tables_1 room_1 Calls_1 rest_1 Pre_1 launch0 p0 e0 about1 theMethod args0 below0 :=
  ⟨lists_1, trivial, launch0.admits_env _ _ _, launch0.least_env, fairChoices_fair.cas, fairChoices_fair.clock, w_frames, w_args, w_heap, w_applies, ⟨w_consts, trivial⟩, w_rest, w_case⟩
end start1
theorem witness_1 : WitnessClaimed_1 := ⟨start1.p0, start1.e0, start1.about1, start1.theMethod, start1.args0, start1.below0, start1.atStart⟩
end Jvm.Pilot.@@N@@
