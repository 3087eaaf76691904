import JvmDerived
import JvmDerived.Pilot.@@N@@Statement
import JvmDerived.Pilot.@@N@@Code
set_option linter.unusedVariables false
set_option linter.unusedSimpArgs false
namespace Jvm.OwnKit
open Sem ClassFile Op Lib Jvm.Stand Jvm.Free Jvm.LawKit Jvm.RoadKit Bundle
/-! The walk's own layer: one predicate for where a walk stands (Wk), one for what it still owes (Owe), one for a callee's contract (Ctr); literals may be interned on the road. -/
theorem nle {a b : Nat} (h : Nat.ble a b = true := by rfl) : a ≤ b := Nat.le_of_ble_eq_true h
theorem nlt {a b : Nat} (h : Nat.ble (a + 1) b = true := by rfl) : a < b := Nat.le_of_ble_eq_true h
def Owe (p : Program) (e : Env) (below : List Frame) (Post : Outcome → State → Prop) (T : State) (g : JFrame) : Prop :=
  ∃ (s₂ : State) (o : Outcome), Steps p.tables e below (T.setTop g) s₂ ∧ s₂.status = .running ∧ Ended s₂ below o ∧ Post o s₂
section OweS
variable {p : Program} {e : Env} {below : List Frame} {Post : Outcome → State → Prop} {T T' : State} {g g' : JFrame}
theorem Owe.via (st : ∀ t, Steps p.tables e below (T'.setTop g') t → Steps p.tables e below (T.setTop g) t) (k : Owe p e below Post T' g') : Owe p e below Post T g := by
  obtain ⟨s₂, o, h1, h2⟩ := k
  exact ⟨s₂, o, st _ h1, h2⟩
theorem Owe.go (st : Steps p.tables e below (T.setTop g) (T'.setTop g')) (k : Owe p e below Post T' g') : Owe p e below Post T g := by
  obtain ⟨s₂, o, h1, h2⟩ := k
  exact ⟨s₂, o, st.trans h1, h2⟩
theorem Owe.stk {m : MethodId} {pc : Nat} {ls : Array Slot} {st : List Value} (st' : List Value) (kk : Owe p e below Post T (mkF m pc ls st')) (q : st = st' := by rfl) : Owe p e below Post T (mkF m pc ls st) := q ▸ kk
theorem Owe.cast (q : g = g') (k : Owe p e below Post T g') : Owe p e below Post T g := q ▸ k
end OweS
/-- what is ours to write -/
def Mine (Z : State) (EL : List (String × Nat)) (hs : Heap) (sf0 : List Addr) (vm : Vm) (h : Heap) (sf : List Addr) : Prop :=
  ∀ x ∈ sf, x < h.size ∧ Z.heap.size ≤ x ∧ (x ∈ sf0 ∨ hs.size ≤ x) ∧ Safe Z EL vm h x
/-- where a walk stands -/
def Wk (p : Program) (l : Launch) (e : Env) (R : Room) (s : State) (m : MethodId) (args : Array Value) (below : List Frame) (meth : Method) (c : Code) (Z : State) (a0 : Array Value) (EL : List (String × Nat)) (own : String) (mx : Nat) (sf0 sf : List Addr) (T : State) (locs : List Loc) (cells slots : Nat) (h : Heap) : Prop :=
  (p.tables.exec = Jvm.exec ∧ EW Z a0 EL ∧ c.maxLocals = mx) ∧ ∃ (vm0 : Vm) (k0 : Nat), Stand p l e R (s.setVm vm0) m args below meth c T locs cells slots ∧ T.heap = h ∧ s.Since vm0 k0 ∧ k0 ≤ h.size ∧ Z.Warmed39 vm0 ∧ vm0.findClass own = some m.cls ∧ CHr Z EL s.vm s.heap vm0 h ∧ Fr Z.heap.size locs ∧ Ext Z.heap h ∧ Keep s.heap h sf0 ∧ Mine Z EL s.heap sf0 vm0 h sf
/-- the end of a contract -/
def PostW (Z : State) (EL : List (String × Nat)) (sf : List Addr) (rm : Room) (Q : Option Value → Heap → List Addr → Prop) (U : State) (o : Outcome) (U' : State) : Prop :=
  ∃ (v : Option Value) (L : List Loc) (fs : List Addr), o = .returned v ∧ Q v U'.heap fs ∧ Fr Z.heap.size L ∧ Ext Z.heap U'.heap ∧ Keep U.heap U'.heap sf ∧ CHr Z EL U.vm U.heap U'.vm U'.heap ∧ (∀ x ∈ fs, x < U'.heap.size ∧ Z.heap.size ≤ x ∧ U.heap.size ≤ x ∧ Safe Z EL U'.vm U'.heap x) ∧ ReturnedEndW U o U' L rm.cells rm.slots
/-- a body's contract, at one heap -/
def Ctr (l : Launch) (Z : State) (EL : List (String × Nat)) (y : MethodName) (bytes : ByteArray) (maxL : Nat) (ret : Option FieldType) (ws : List Cond) (rm : Room) (as' : Array Value) (sf : List Addr) (h : Heap) (Q : Option Value → Heap → List Addr → Prop) : Prop :=
  MetFree l y (head1 (Cond.code y bytes maxL ret :: ws) rm) (fun a U => a = as' ∧ Z.Warmed39 U.vm ∧ U.heap = h ∧ CHv Z EL U.vm h ∧ ∀ x ∈ sf, Safe Z EL U.vm h x) (fun _ _ _ _ _ => True) (fun _ U o U' => PostW Z EL sf rm Q U o U')
abbrev chr (x : Int32) : Int32 := x.toUInt32.toUInt16.toUInt32.toInt32
abbrev byt (x : Int32) : Int32 := x.toInt8.toInt32
theorem chr255 (x : Int32) : ¬ chr (x &&& 255) < 0 ∧ ¬ (255 : Int32) < chr (x &&& 255) := by
  have e : chr (x &&& 255) = x &&& 255 := i2c_mask x
  have q := c_and x 255 (by decide)
  rw [e]; simp only [Int32.lt_iff_toInt_lt]
  have r : (255 : Int32).toInt = 255 := rfl
  have r0 : (0 : Int32).toInt = 0 := rfl
  omega
theorem extTrans {h h' h'' : Heap} (A : Ext h h') (B : Ext h' h'') : Ext h h'' := ⟨Nat.le_trans A.1 B.1, fun a c q => B.2 a c (A.2 a c q)⟩
theorem keepExt {Z : State} {h h' : Heap} {ws : List Addr} (A : Ext Z.heap h) (K : Keep h h' ws) (q : ∀ x ∈ ws, Z.heap.size ≤ x) : Ext Z.heap h' := (Old.keep (Z := Z) (n0 := Z.heap.size) ⟨rfl, A⟩ K q).2
theorem Ctr.intro {l : Launch} {Z : State} {a0 : Array Value} {EL : List (String × Nat)} {y : MethodName} {bytes : ByteArray} {maxL : Nat} {ret : Option FieldType} {ws : List Cond} {rm : Room} {as' : Array Value} {sf : List Addr} {h : Heap} {Q : Option Value → Heap → List Addr → Prop}
    (hn : plainName y.cls = true) (hEL : EW Z a0 EL) (hZh : Ext Z.heap h) (hsf : ∀ x ∈ sf, x < h.size ∧ Z.heap.size ≤ x)
    (body : ∀ (p : Program) (e : Env) (s : State) (m : MethodId) (below : List Frame) (meth : Method) (c : Code) (s₁ : State), c.code = bytes → c.maxLocals = maxL → meth.sig.returnType = ret → meth.name = y.name → meth.locks = false → s.heap = h →
      Wk p l e rm s m as' below meth c Z a0 EL y.cls maxL sf sf s₁ [] 0 0 h → Owe p e below (PostW Z EL sf rm Q s) s₁ (entryFrame m as' maxL)) : Ctr l Z EL y bytes maxL ret ws rm as' sf h Q := by
  refine MetFree.of_bodySF (plainFor_of_name hn) hisR ?_
  intro p e s m args below meth c s₁ Bd hml hP hK
  obtain ⟨rfl, hZ, rfl, hC, hS⟩ := hP
  have X0 : Stand p l e rm (s.setVm s.vm) m args below meth c s₁ [] 0 0 := Stand.of_body Bd
  exact body p e s m below meth c s₁ Bd.bytes hml Bd.returns (name_of_methodNamed Bd.named Bd.method).1 Bd.notSynchronized rfl
    ⟨⟨Bd.exec, hEL, hml⟩, s.vm, s.heap.size, X0, by rw [Bd.state]; rfl, (State.WarmedH.refl s).since _, Nat.le_refl _, hZ, findClass_of_methodNamed Bd.named, CHr.refl hC, Fr.nil _, hZh, Keep.refl _ _, fun x hx => ⟨(hsf x hx).1, (hsf x hx).2, Or.inl hx, hS x hx⟩⟩
theorem Ctr.mono {l : Launch} {Z : State} {EL : List (String × Nat)} {y : MethodName} {bytes : ByteArray} {maxL : Nat} {ret : Option FieldType} {ws : List Cond} {rm : Room} {as' : Array Value} {sf : List Addr} {h : Heap} {Q Q' : Option Value → Heap → List Addr → Prop}
    (C : Ctr l Z EL y bytes maxL ret ws rm as' sf h Q) (q : ∀ v h' fs, Q v h' fs → Q' v h' fs) : Ctr l Z EL y bytes maxL ret ws rm as' sf h Q' := by
  intro p e ha hc hk s m args below hf happ hP hK
  obtain ⟨n, o, h1, h2, h3, v, L, fs, r1, r2, r3⟩ := C p e ha hc hk s m args below hf happ hP hK
  exact ⟨n, o, h1, h2, h3, v, L, fs, r1, q _ _ _ r2, r3⟩
theorem Owe.mono {p : Program} {e : Env} {below : List Frame} {Z : State} {EL : List (String × Nat)} {sf : List Addr} {rm : Room} {Q Q' : Option Value → Heap → List Addr → Prop} {s T : State} {g : JFrame} (q : ∀ v h fs, Q v h fs → Q' v h fs) (k : Owe p e below (PostW Z EL sf rm Q s) T g) : Owe p e below (PostW Z EL sf rm Q' s) T g := by
  obtain ⟨s₂, o, h1, h2, h3, v, L, fs, r1, r2, r3⟩ := k
  exact ⟨s₂, o, h1, h2, h3, v, L, fs, r1, q _ _ _ r2, r3⟩
section Walk
variable {p : Program} {l : Launch} {e : Env} {R : Room} {s : State} {m : MethodId} {args : Array Value} {below : List Frame} {meth : Method} {c : Code} {Z : State} {a0 : Array Value} {EL : List (String × Nat)} {own : String} {mx : Nat} {sf0 sf : List Addr} {T : State} {locs : List Loc} {cells slots : Nat} {h : Heap} {Post : Outcome → State → Prop} {pc pc' : Nat} {ls : Array Slot} {st : List Value}
theorem Wk.here (K : Wk p l e R s m args below meth c Z a0 EL own mx sf0 sf T locs cells slots h) : At T m c below := by obtain ⟨-, vm0, k0, X, -⟩ := K; exact X.here
theorem Wk.hx (K : Wk p l e R s m args below meth c Z a0 EL own mx sf0 sf T locs cells slots h) : p.tables.exec = Jvm.exec := K.1.1
theorem Wk.old (K : Wk p l e R s m args below meth c Z a0 EL own mx sf0 sf T locs cells slots h) : Ext Z.heap h := by obtain ⟨-, vm0, k0, -, -, -, -, -, -, -, -, q, -⟩ := K; exact q
theorem Wk.keep (K : Wk p l e R s m args below meth c Z a0 EL own mx sf0 sf T locs cells slots h) : Keep s.heap h sf0 := by obtain ⟨-, vm0, k0, -, -, -, -, -, -, -, -, -, q, -⟩ := K; exact q
theorem Wk.lt {x : Addr} (K : Wk p l e R s m args below meth c Z a0 EL own mx sf0 sf T locs cells slots h) (hx : x ∈ sf) : x < h.size := by obtain ⟨-, vm0, k0, -, -, -, -, -, -, -, -, -, -, q⟩ := K; exact (q x hx).1
theorem Wk.ge {x : Addr} (K : Wk p l e R s m args below meth c Z a0 EL own mx sf0 sf T locs cells slots h) (hx : x ∈ sf) : Z.heap.size ≤ x := by obtain ⟨-, vm0, k0, -, -, -, -, -, -, -, -, -, -, q⟩ := K; exact (q x hx).2.1
theorem Wk.both (K : Wk p l e R s m args below meth c Z a0 EL own mx sf0 sf T locs cells slots h) {sf' : List Addr} (q : ∀ x ∈ sf', x ∈ sf := by simp) : ∀ x ∈ sf', x < h.size ∧ Z.heap.size ≤ x := fun x hx => ⟨K.lt (q x hx), K.ge (q x hx)⟩
theorem Wk.to (K : Wk p l e R s m args below meth c Z a0 EL own mx sf0 sf T locs cells slots h) (cells' slots' : Nat) (sf' : List Addr) (hc : cells ≤ cells' := by exact nle) (hs : slots ≤ slots' := by exact nle) (q : ∀ x ∈ sf', x ∈ sf := by exact fun _ h => h) : Wk p l e R s m args below meth c Z a0 EL own mx sf0 sf' T locs cells' slots' h := by
  obtain ⟨q0, vm0, k0, X, r1, r2, r3, r4, r5, r6, r7, r8, r9, M⟩ := K
  exact ⟨q0, vm0, k0, X.more hc hs, r1, r2, r3, r4, r5, r6, r7, r8, r9, fun x hx => M x (q x hx)⟩
theorem Wk.more {cells' slots' : Nat} {sf' : List Addr} (K : Wk p l e R s m args below meth c Z a0 EL own mx sf0 sf T locs cells slots h) (hc : cells ≤ cells') (hs : slots ≤ slots') (q : ∀ x ∈ sf', x ∈ sf) : Wk p l e R s m args below meth c Z a0 EL own mx sf0 sf' T locs cells' slots' h := by
  obtain ⟨q0, vm0, k0, X, r1, r2, r3, r4, r5, r6, r7, r8, r9, M⟩ := K
  exact ⟨q0, vm0, k0, X.more hc hs, r1, r2, r3, r4, r5, r6, r7, r8, r9, fun x hx => M x (q x hx)⟩
/-! ### steps that leave the heap -/
theorem oGetF (K : Wk p l e R s m args below meth c Z a0 EL own mx sf0 sf T locs cells slots h) (pc' : Nat) {O n d : String} {index : Nat} {a : Addr} {v : Value} {rest : List Value} (w : (Cond.fieldLink own index O n d).before a0 Z = true) (F : Fld Z h a O n d v) (hd : decode c.code pc = .ok (.getfield index, 3)) (kk : ∀ T' : State, Wk p l e R s m args below meth c Z a0 EL own mx sf0 sf T' locs cells slots h → Owe p e below Post T' (mkF m pc' ls (v :: rest))) (hp : pc + 3 = pc' := by rfl) : Owe p e below Post T (mkF m pc ls (.ref a :: rest)) := by
  subst hp
  have hg : (mkF m pc ls (.ref a :: rest)).method = m := rfl
  have hs : (mkF m pc ls (.ref a :: rest)).stack = (.ref a :: rest) := rfl
  obtain ⟨q0, vm0, k0, X, eT, hS, hk, hZ, hown, q⟩ := K
  obtain ⟨T', X', e', st⟩ := getF (own := own) (host := "") X q0.1 (show Z.Warmed39 (s.setVm vm0).vm from hZ) hown (Or.inl w) Via.refl eT F hg hs hd
  exact Owe.via st (kk T' ⟨q0, vm0, k0, X', e', hS, hk, hZ, hown, q⟩)
theorem oGetS (K : Wk p l e R s m args below meth c Z a0 EL own mx sf0 sf T locs cells slots h) (pc' : Nat) {O n d : String} {index : Nat} {v : Value} (w : (Cond.fieldLink own index O n d).before a0 Z = true) (F : Sta Z h O n d v) (hd : decode c.code pc = .ok (.getstatic index, 3)) (kk : ∀ T' : State, Wk p l e R s m args below meth c Z a0 EL own mx sf0 sf T' locs cells slots h → Owe p e below Post T' (mkF m pc' ls (v :: st))) (hp : pc + 3 = pc' := by rfl) : Owe p e below Post T (mkF m pc ls st) := by
  subst hp
  have hg : (mkF m pc ls st).method = m := rfl
  obtain ⟨q0, vm0, k0, X, eT, hS, hk, hZ, hown, q⟩ := K
  obtain ⟨T', X', e', st⟩ := getS (own := own) (host := "") X q0.1 (show Z.Warmed39 (s.setVm vm0).vm from hZ) hown w Via.refl eT F hg hd
  exact Owe.via st (kk T' ⟨q0, vm0, k0, X', e', hS, hk, hZ, hown, q⟩)
theorem oCast (K : Wk p l e R s m args below meth c Z a0 EL own mx sf0 sf T locs cells slots h) (pc' : Nat) {C : String} {index : Nat} {a : Addr} {rest : List Value} (w : (Cond.classLink own index C).before a0 Z = true) (F : Ins Z h a C true) (hd : decode c.code pc = .ok (.checkcast index, 3)) (kk : ∀ T' : State, Wk p l e R s m args below meth c Z a0 EL own mx sf0 sf T' locs cells slots h → Owe p e below Post T' (mkF m pc' ls ((.ref a :: rest)))) (hp : pc + 3 = pc' := by rfl) : Owe p e below Post T (mkF m pc ls (.ref a :: rest)) := by
  subst hp
  have hg : (mkF m pc ls (.ref a :: rest)).method = m := rfl
  have hs : (mkF m pc ls (.ref a :: rest)).stack = (.ref a :: rest) := rfl
  obtain ⟨q0, vm0, k0, X, eT, hS, hk, hZ, hown, q⟩ := K
  obtain ⟨T', X', e', st⟩ := castY (own := own) X q0.1 (show Z.Warmed39 (s.setVm vm0).vm from hZ) hown w eT F hg hs hd
  exact Owe.via st (kk T' ⟨q0, vm0, k0, X', e', hS, hk, hZ, hown, q⟩)
/-! ### arrays of known components -/
def Ary (Z : State) (h : Heap) (a : Addr) (ty : FieldType) (vs : List Value) : Prop := ∃ cl : Cell, Arr Z h a cl ty ∧ cl.slots = vs.toArray ∧ vs.length < 2 ^ 31 ∧ ∀ v ∈ vs, fits ty v = true
theorem Ary.lt {a : Addr} {ty : FieldType} {vs : List Value} (F : Ary Z h a ty vs) : a < h.size := by obtain ⟨_, A, -⟩ := F; exact A.lt
theorem Ary.ext {h' : Heap} {a : Addr} {ty : FieldType} {vs : List Value} (F : Ary Z h a ty vs) (E : Ext h h') : Ary Z h' a ty vs := by obtain ⟨cl, A, r⟩ := F; exact ⟨cl, A.ext E, r⟩
theorem Ary.other {h' : Heap} {a b : Addr} {ty : FieldType} {vs : List Value} {sl : Nat} {v : Value} (F : Ary Z h b ty vs) (W : Wr h h' a sl v) (q : b ≠ a) : Ary Z h' b ty vs := by obtain ⟨cl, A, r⟩ := F; exact ⟨cl, A.other W q, r⟩
theorem Ary.keep {h' : Heap} {a : Addr} {ty : FieldType} {vs : List Value} {ws : List Addr} (F : Ary Z h a ty vs) (K : Keep h h' ws) (q : a ∉ ws) : Ary Z h' a ty vs := by obtain ⟨cl, A, r⟩ := F; exact ⟨cl, ⟨K.2.1 a cl A.1 q, A.2⟩, r⟩
theorem Ary.same {h' : Heap} {a : Addr} {ty : FieldType} {vs : List Value} {i : Nat} {v : Value} (F : Ary Z h a ty vs) (W : Wr h h' a i v) (hv : fits ty v = true) : Ary Z h' a ty (vs.set i v) := by
  obtain ⟨cl, A, r1, r2, r3⟩ := F
  refine ⟨cl.setSlot i v, A.same W, ?_, by simpa using r2, fun w hw => ?_⟩
  · show cl.slots.setIfInBounds i v = _
    rw [r1]; simp
  · rcases List.mem_or_eq_of_mem_set hw with q | rfl
    · exact r3 _ q
    · exact hv
def lats : List Int32 → Prop
  | [] => True
  | c :: r => ¬ (255 : Int32) < c ∧ lats r
def wides : List Int32 → List Value
  | [] => []
  | c :: r => .int (byt (c >>> ((0 : Int32) &&& 31))) :: .int (byt (c >>> ((8 : Int32) &&& 31))) :: wides r
/-- a String of these chars, in either form -/
def Str (Z : State) (h : Heap) (b : Nat) (x : Addr) (cs : List Int32) : Prop :=
  ∃ t : Addr, x < b ∧ t < b ∧ Exa Z h x "java/lang/String" ∧ Fld Z h x "java/lang/String" "value" "[B" (.ref t) ∧ ((Fld Z h x "java/lang/String" "coder" "B" (.int (0 : Int32)) ∧ Ary Z h t .byte (cs.map fun c => .int (byt c)) ∧ lats cs) ∨ (Fld Z h x "java/lang/String" "coder" "B" (.int (1 : Int32)) ∧ Ary Z h t .byte (wides cs)))
theorem Str.wide {x t : Addr} {cs : List Int32} (E : Exa Z h x "java/lang/String") (V : Fld Z h x "java/lang/String" "value" "[B" (.ref t)) (C : Fld Z h x "java/lang/String" "coder" "B" (.int (1 : Int32))) (A : Ary Z h t .byte (wides cs)) : Str Z h h.size x cs := ⟨t, E.lt, A.lt, E, V, Or.inr ⟨C, A⟩⟩
theorem Str.exa {b : Nat} {x : Addr} {cs : List Int32} (S : Str Z h b x cs) : Exa Z h x "java/lang/String" := by obtain ⟨_, -, -, E, -⟩ := S; exact E
theorem Str.lt {b : Nat} {x : Addr} {cs : List Int32} (S : Str Z h b x cs) : x < h.size := S.exa.lt
theorem Str.ext {h' : Heap} {b : Nat} {x : Addr} {cs : List Int32} (S : Str Z h b x cs) (E : Ext h h') : Str Z h' b x cs := by
  obtain ⟨t, l1, l2, e, V, ⟨C, A, L⟩ | ⟨C, A⟩⟩ := S
  · exact ⟨t, l1, l2, e.ext E, V.ext E, Or.inl ⟨C.ext E, A.ext E, L⟩⟩
  · exact ⟨t, l1, l2, e.ext E, V.ext E, Or.inr ⟨C.ext E, A.ext E⟩⟩
theorem Str.keep {h' : Heap} {b : Nat} {x : Addr} {cs : List Int32} {ws : List Addr} (S : Str Z h b x cs) (K : Keep h h' ws) (q : ∀ w ∈ ws, b ≤ w) : Str Z h' b x cs := by
  obtain ⟨t, l1, l2, e, V, r⟩ := S
  have n1 : x ∉ ws := fun g => absurd (q x g) (Nat.not_le_of_lt l1)
  have n2 : t ∉ ws := fun g => absurd (q t g) (Nat.not_le_of_lt l2)
  rcases r with ⟨C, A, L⟩ | ⟨C, A⟩
  · exact ⟨t, l1, l2, e.keep K, V.keep K n1, Or.inl ⟨C.keep K n1, A.keep K n2, L⟩⟩
  · exact ⟨t, l1, l2, e.keep K, V.keep K n1, Or.inr ⟨C.keep K n1, A.keep K n2⟩⟩
theorem Str.wr {h' : Heap} {b : Nat} {x a : Addr} {cs : List Int32} {sl : Nat} {v : Value} (S : Str Z h b x cs) (W : Wr h h' a sl v) (q : b ≤ a) : Str Z h' b x cs := by
  obtain ⟨t, l1, l2, e, V, r⟩ := S
  have n1 : x ≠ a := Nat.ne_of_lt (Nat.lt_of_lt_of_le l1 q)
  have n2 : t ≠ a := Nat.ne_of_lt (Nat.lt_of_lt_of_le l2 q)
  rcases r with ⟨C, A, L⟩ | ⟨C, A⟩
  · exact ⟨t, l1, l2, e.wr W, Fld.other W V (Or.inl n1), Or.inl ⟨Fld.other W C (Or.inl n1), A.other W n2, L⟩⟩
  · exact ⟨t, l1, l2, e.wr W, Fld.other W V (Or.inl n1), Or.inr ⟨Fld.other W C (Or.inl n1), A.other W n2⟩⟩
theorem Ary.start {args : Array Value} {t : Term} {a : Addr} {ty : FieldType} {vs : List Value} (hF : Fit Z) (ev : t.eval args Z none [] Z = some (.ref a)) (hx : (Cond.arrayOf t ty).value args Z none Z [] = some true) {n : Int32} (hl : (Term.length t).eval args Z none [] Z = some (.int n)) (hn : n.toNatClampNeg = vs.length)
    (he : ∀ (i : Nat) (v : Value), vs[i]? = some v → (Int32.ofNat i).toNatClampNeg = i ∧ (Term.elem t (.int (Int32.ofNat i))).eval args Z none [] Z = some v) : Ary Z Z.heap a ty vs := by
  obtain ⟨cl, A⟩ := Arr.start ev hx
  have ha : Z.arrayAt? a = some cl := Arr.fin (Vm.Alike.refl _) A
  obtain ⟨a', cl', e1, e2, e3⟩ := Term.length_spec hl
  cases ev.symm.trans e1
  cases ha.symm.trans e2
  have hb : cl.slots.size < 2 ^ 31 := by
    refine Classical.byContradiction fun q => ?_
    have z : (Term.length t).eval args Z none [] Z = none := by simp [Term.eval, ev, ha]; omega
    rw [hl] at z; cases z
  have hsz : cl.slots.size = vs.length := by
    have e4 : n = cl.slots.size.toInt32 := Value.int.inj e3
    rw [← hn, e4]
    have := Int32.toNatClampNeg_ofNat_of_lt (n := cl.slots.size) (by omega)
    exact this.symm
  have hi : ∀ (i : Nat) (v : Value), vs[i]? = some v → cl.slots[i]? = some v ∧ fits ty v = true := by
    intro i v hv
    obtain ⟨q1, q2⟩ := he i v hv
    obtain ⟨r1, r2⟩ := elem_in q2 ev (Term.int_eval _) A.1
    obtain ⟨w, s1, s2⟩ := elem_fit hF A r1
    rw [q1] at r2 s1
    cases r2.symm.trans s1
    exact ⟨r2, s2⟩
  refine ⟨cl, A, ?_, by omega, fun v hv => ?_⟩
  · apply Array.ext_getElem?
    intro i
    cases hv : vs[i]? with
    | some v => rw [(hi i v hv).1]; simpa using hv.symm
    | none =>
      have := List.getElem?_eq_none_iff.mp hv
      rw [Array.getElem?_eq_none (by omega)]; simpa using hv.symm
  · obtain ⟨i, hi', rfl⟩ := List.mem_iff_getElem.mp hv
    exact (hi i _ (List.getElem?_eq_getElem hi')).2
theorem Ary.arv {a : Addr} {ty : FieldType} {vs : List Value} (F : Ary Z h a ty vs) (d : Value) {n : Int32} (hn : n = Int32.ofNat vs.length) : ∃ k, Arv Z h a k ty n vs d := by
  obtain ⟨cl, A, r1, r2, r3⟩ := F
  subst hn
  have hs : cl.slots.size = vs.length := by rw [r1]; simp
  have ht : (Int32.ofNat vs.length).toInt = vs.length := Int32.toInt_ofNat_small r2
  refine ⟨cl.cls, cl, A, rfl, ?_, ?_, fun i hi => ?_, fun i hi => ?_⟩
  · rw [hs]; simp only [Int32.toNatClampNeg, ht]; simp
  · simp only [Int32.lt_iff_toInt_lt, ht, Int32.reduceToInt]; omega
  · rw [hs] at hi; rw [r1]; simp [hi]
  · rw [hs] at hi
    have : vs.getD i d = vs[i] := by simp [hi]
    rw [this]; exact r3 _ (List.getElem_mem hi)
theorem Ary.ofArv {a : Addr} {ty : FieldType} {vs : List Value} {d : Value} {n : Int32} {kc : ClassId} (F : Arv Z h a kc ty n vs d) (hn : n = Int32.ofNat vs.length) (hl : vs.length < 2 ^ 31) : Ary Z h a ty vs := by
  obtain ⟨cl, A, -, r2, r3, H, G⟩ := F
  subst hn
  have ht : (Int32.ofNat vs.length).toInt = vs.length := Int32.toInt_ofNat_small hl
  have hs : cl.slots.size = vs.length := by rw [r2]; simp only [Int32.toNatClampNeg, ht]; simp
  refine ⟨cl, A, ?_, hl, fun v hv => ?_⟩
  · apply Array.ext
    · simpa using hs
    · intro i h1 h2
      have e1 := H i h1
      rw [Array.getElem?_eq_getElem h1] at e1
      have h3 : i < vs.length := by omega
      rw [Option.some.inj e1]; simp [h3]
  · obtain ⟨i, hi, rfl⟩ := List.mem_iff_getElem.mp hv
    have e1 := G i (by omega)
    have : vs.getD i d = vs[i] := by simp [hi]
    rw [this] at e1; exact e1
theorem inb {cl : Cell} {vs : List Value} {j : Int32} {i : Nat} (r1 : cl.slots = vs.toArray) (hj : ¬ j < 0) (hi : j.toNatClampNeg = i) (hl : i < vs.length) : ¬ (j < 0 ∨ cl.slots.size ≤ j.toNatClampNeg) := by
  rw [r1, hi]; simp only [List.size_toArray]; intro q; rcases q with q | q
  · exact hj q
  · omega
theorem oLen (K : Wk p l e R s m args below meth c Z a0 EL own mx sf0 sf T locs cells slots h) (pc' : Nat) {a : Addr} {ty : FieldType} {vs : List Value} {n : Int32} {rest : List Value} (A : Ary Z h a ty vs) (hn : Int32.ofNat vs.length = n) (hd : decode c.code pc = .ok (.arraylength, 1)) (kk : Owe p e below Post T (mkF m pc' ls (.int n :: rest))) (hp : pc + 1 = pc' := by rfl) : Owe p e below Post T (mkF m pc ls (.ref a :: rest)) := by
  subst hp
  have hg : (mkF m pc ls (.ref a :: rest)).method = m := rfl
  have hs : (mkF m pc ls (.ref a :: rest)).stack = (.ref a :: rest) := rfl
  obtain ⟨q0, vm0, k0, X, eT, hS, hk, hZ, hown, q⟩ := K
  obtain ⟨cl, A, r1, r2, r3⟩ := A
  have e : cl.slots.size.toInt32 = n := by rw [r1, ← hn]; simp
  exact Owe.via (fun t r => X.arraylength q0.1 (by rw [eT]; exact A.1) (State.isArrayOf_alike (show Z.vm.Alike (s.setVm vm0).vm from hZ.alike) A.2.1) hg hs hd t (by rw [e]; exact r)) kk
theorem oAaload (K : Wk p l e R s m args below meth c Z a0 EL own mx sf0 sf T locs cells slots h) (pc' : Nat) {a : Addr} {ty : FieldType} {vs : List Value} {v : Value} {j : Int32} {rest : List Value} (A : Ary Z h a ty vs) (hty : ty.isReference = true) (i : Nat) (hj : ¬ j < 0) (hi : j.toNatClampNeg = i) (hv : vs[i]? = some v) (hd : decode c.code pc = .ok (.aaload, 1)) (kk : Owe p e below Post T (mkF m pc' ls (v :: rest))) (hp : pc + 1 = pc' := by rfl) : Owe p e below Post T (mkF m pc ls (.int j :: .ref a :: rest)) := by
  subst hp
  have hg : (mkF m pc ls (.int j :: .ref a :: rest)).method = m := rfl
  have hs : (mkF m pc ls (.int j :: .ref a :: rest)).stack = (.int j :: .ref a :: rest) := rfl
  obtain ⟨q0, vm0, k0, X, eT, hS, hk, hZ, hown, q⟩ := K
  obtain ⟨cl, A, r1, r2, r3⟩ := A
  exact Owe.via (fun t r => X.aaload q0.1 (by rw [eT]; exact A.1) (State.isArrayOf_alike (show Z.vm.Alike (s.setVm vm0).vm from hZ.alike) A.2.1) hty A.2.2 (inb r1 hj hi (List.getElem?_eq_some_iff.mp hv).1) (by rw [r1, hi]; simpa using hv) hg hs hd t r) kk
/-! ### steps that write or make -/
theorem Wk.wr {a : Addr} {sl : Nat} {v : Value} {vm0 : Vm} {k0 : Nat} {T' : State} {h' : Heap} (q0 : p.tables.exec = Jvm.exec ∧ EW Z a0 EL ∧ c.maxLocals = mx) (ha : a ∈ sf) (X' : Stand p l e R (s.setVm vm0) m args below meth c T' (locs ++ [⟨a, sl⟩]) cells slots) (e' : T'.heap = h') (W : Wr h h' a sl v)
    (hS : s.Since vm0 k0) (hk : k0 ≤ h.size) (hZ : Z.Warmed39 vm0) (hown : vm0.findClass own = some m.cls) (hC : CHr Z EL s.vm s.heap vm0 h) (N : Fr Z.heap.size locs) (E : Ext Z.heap h) (Kp : Keep s.heap h sf0) (M : Mine Z EL s.heap sf0 vm0 h sf) : Wk p l e R s m args below meth c Z a0 EL own mx sf0 sf T' (locs ++ [⟨a, sl⟩]) cells slots h' := by
  obtain ⟨m1, m2, m3, m4⟩ := M a ha
  exact ⟨q0, vm0, k0, X', e', hS, by rw [W.size]; exact hk, hZ, hown, hC.trans (CHr.wr W m4 hC.1), Fr.snoc X' N m2, (Old.wr (Z := Z) (n0 := Z.heap.size) ⟨rfl, E⟩ W m2).2, Kp.wr W m3,
    fun x hx => ⟨by rw [W.size]; exact (M x hx).1, (M x hx).2.1, (M x hx).2.2.1, Safe.wr W m4 hC.1 (M x hx).2.2.2⟩⟩
theorem Wk.made {vm0 : Vm} {k0 cells' slots' : Nat} {T' : State} {h' : Heap} (q0 : p.tables.exec = Jvm.exec ∧ EW Z a0 EL ∧ c.maxLocals = mx) (X' : Stand p l e R (s.setVm vm0) m args below meth c T' locs cells' slots') (e' : T'.heap = h') (A : Ext h h') (lt : h.size < h'.size)
    (hS : s.Since vm0 k0) (hk : k0 ≤ h.size) (hZ : Z.Warmed39 vm0) (hown : vm0.findClass own = some m.cls) (hC : CHr Z EL s.vm s.heap vm0 h) (N : Fr Z.heap.size locs) (E : Ext Z.heap h) (Kp : Keep s.heap h sf0) (M : Mine Z EL s.heap sf0 vm0 h sf) : Wk p l e R s m args below meth c Z a0 EL own mx sf0 (h.size :: sf) T' locs cells' slots' h' := by
  refine ⟨q0, vm0, k0, X', e', hS, Nat.le_trans hk A.1, hZ, hown, hC.trans (CHr.ext A hC.1), N, extTrans E A, Kp.ext A, fun x hx => ?_⟩
  rcases List.mem_cons.mp hx with rfl | hx
  · exact ⟨lt, E.1, Or.inr Kp.1, Safe.ext A hC.1 (Safe.new (Nat.le_refl _))⟩
  · obtain ⟨m1, m2, m3, m4⟩ := M x hx
    exact ⟨Nat.lt_of_lt_of_le m1 A.1, m2, m3, Safe.ext A hC.1 m4⟩
theorem oNew (K : Wk p l e R s m args below meth c Z a0 EL own mx sf0 sf T locs cells slots h) (pc' : Nat) {C : String} {index n : Nat} (w : (Cond.classLink own index C).before a0 Z = true) (wi : (Cond.instantiable C n).before a0 Z = true) (wz : (Cond.initialized C).before a0 Z = true) (hd : decode c.code pc = .ok (.new index, 3)) (hc : cells + 1 ≤ R.cells) (hl : slots + n ≤ R.slots) (kk : ∀ (T' : State) (h' : Heap) (a : Addr), h.size = a → Wk p l e R s m args below meth c Z a0 EL own mx sf0 (a :: sf) T' locs (cells + 1) (slots + n) h' → Ext h h' → Exa Z h' a C → (∀ {O nm d : String} {ty : FieldType}, Laid Z a0 C O nm d → parseFieldDescriptor d = some ty → Fld Z h' a O nm d (defaultValue ty)) → Owe p e below Post T' (mkF m pc' ls (.ref a :: st))) (hp : pc + 3 = pc' := by rfl) : Owe p e below Post T (mkF m pc ls st) := by
  subst hp
  have hg : (mkF m pc ls st).method = m := rfl
  obtain ⟨q0, vm0, k0, X, eT, hS, hk, hZ, hown, hC, N, Ez, Kp, M⟩ := K
  obtain ⟨T', h', X', e', A, Ex, D, -, st⟩ := newO (own := own) X q0.1 (show Z.Warmed39 (s.setVm vm0).vm from hZ) hown w wi wz eT hg hd hc hl
  exact Owe.via st (kk T' h' _ rfl (Wk.made q0 X' e' A Ex.lt hS hk hZ hown hC N Ez Kp M) A Ex D)
theorem oNewP (K : Wk p l e R s m args below meth c Z a0 EL own mx sf0 sf T locs cells slots h) (pc' : Nat) {aty : ArrayType} {ty : FieldType} {n : Int32} {rest : List Value} (i : Nat) (w : (Cond.arrayClass ty).before a0 Z = true) (hty : newarray.typeOf aty = ty) (hn : ¬ n < 0) (hi : n.toNatClampNeg = i) (hb : i * 8 ≤ 536870912) (hd : decode c.code pc = .ok (.newarray aty, 2)) (hc : cells + 1 ≤ R.cells) (hl : slots + i ≤ R.slots) (kk : ∀ (T' : State) (h' : Heap) (a : Addr), h.size = a → Wk p l e R s m args below meth c Z a0 EL own mx sf0 (a :: sf) T' locs (cells + 1) (slots + i) h' → Ext h h' → Ary Z h' a ty (List.replicate i (defaultValue ty)) → Owe p e below Post T' (mkF m pc' ls (.ref a :: rest))) (hp : pc + 2 = pc' := by rfl) : Owe p e below Post T (mkF m pc ls (.int n :: rest)) := by
  subst hp
  have hg : (mkF m pc ls (.int n :: rest)).method = m := rfl
  have hs : (mkF m pc ls (.int n :: rest)).stack = (.int n :: rest) := rfl
  subst hty
  obtain ⟨q0, vm0, k0, X, eT, hS, hk, hZ, hown, hC, N, Ez, Kp, M⟩ := K
  obtain ⟨T', h', cA, X', e', A, Ar, st⟩ := newP X q0.1 (show Z.Warmed39 (s.setVm vm0).vm from hZ) w eT hg hd hs hn (cap := i) (Nat.le_of_eq hi) hb hc hl
  refine Owe.via st (kk T' h' _ rfl (Wk.made q0 X' e' A Ar.lt hS hk hZ hown hC N Ez Kp M) A ⟨_, Ar, ?_, ?_, fun v hv => ?_⟩)
  · simp [newA, hi]
  · simp; omega
  · rw [(List.mem_replicate.mp hv).2]; cases aty <;> rfl
theorem oCastore (K : Wk p l e R s m args below meth c Z a0 EL own mx sf0 sf T locs cells slots h) (pc' : Nat) {a : Addr} {vs : List Value} {x x' : Int32} {j : Int32} {rest : List Value} (ha : a ∈ sf) (A : Ary Z h a .char vs) (i : Nat) (hj : ¬ j < 0) (hi : j.toNatClampNeg = i) (hl : i < vs.length) (hv : nar .char x = x') (hd : decode c.code pc = .ok (.castore, 1)) (kk : ∀ (T' : State) (h' : Heap) (locs' : List Loc), Wk p l e R s m args below meth c Z a0 EL own mx sf0 sf T' locs' cells slots h' → Wr h h' a i (.int x') → Ary Z h' a .char (vs.set i (.int x')) → Owe p e below Post T' (mkF m pc' ls (rest))) (hp : pc + 1 = pc' := by rfl) : Owe p e below Post T (mkF m pc ls (.int x :: .int j :: .ref a :: rest)) := by
  subst hp
  have hg : (mkF m pc ls (.int x :: .int j :: .ref a :: rest)).method = m := rfl
  have hs : (mkF m pc ls (.int x :: .int j :: .ref a :: rest)).stack = (.int x :: .int j :: .ref a :: rest) := rfl
  obtain ⟨q0, vm0, k0, X, eT, hS, hk, hZ, hown, hC, N, Ez, Kp, M⟩ := K
  have A0 := A
  obtain ⟨cl, A, r1, r2, r3⟩ := A
  subst hi hv
  obtain ⟨T', h', X', e', W, st⟩ := stC X q0.1 (show Z.Warmed39 (s.setVm vm0).vm from hZ) eT A (inb r1 hj rfl hl) hg hs hd
  exact Owe.via st (kk T' h' _ (Wk.wr q0 ha X' e' W hS hk hZ hown hC N Ez Kp M) W (A0.same W (fits_nar_char x)))
/-! ### literals -/
theorem oLdcO (K : Wk p l e R s m args below meth c Z a0 EL own mx sf0 sf T locs cells slots h) (pc' : Nat) {text : String} {index : Nat} (n : Nat) (w : (Cond.stringLink own index text).before a0 Z = true) (wS : ∀ a ∈ Bundle.stringAtoms, a.before a0 Z = true) (hd : decode c.code pc = .ok (.ldc index, 2)) (hn : 4 * text.toList.length ≤ n) (hbig : n ≤ 536870912) (hc : cells + 2 ≤ R.cells) (hl : slots + (n + 4) ≤ R.slots) (kk : ∀ (T' : State) (h' : Heap) (a : Addr), Wk p l e R s m args below meth c Z a0 EL own mx sf0 sf T' locs (cells + 2) (slots + (n + 4)) h' → Ext h h' → Owe p e below Post T' (mkF m pc' ls (.ref a :: st))) (hp : pc + 2 = pc' := by rfl) : Owe p e below Post T (mkF m pc ls st) := by
  subst hp
  have hg : (mkF m pc ls st).method = m := rfl
  obtain ⟨q0, vm0, k0, X, eT, hS, hk, hZ, hown, hC, N, Ez, Kp, M⟩ := K
  obtain ⟨a, T', h', k1, X', e', A, hS', hk', hZ', hown', hC', hL, st⟩ := ldcOH X q0.1 hZ hown w wS eT hS hk q0.2.1 hC.1 hg hd hn hbig hc hl
  exact Owe.via st (kk T' h' a ⟨q0, T'.vm, k1, X', e', hS', hk', hZ', hown', hC.trans hC', N, extTrans Ez A, Kp.ext A, fun x hx => ⟨Nat.lt_of_lt_of_le (M x hx).1 A.1, (M x hx).2.1, (M x hx).2.2.1, hC'.safe (M x hx).1 (M x hx).2.2.2⟩⟩ A)
/-! ### calls -/
theorem backC {y : MethodName} {bytes : ByteArray} {maxL : Nat} {ret : Option FieldType} {rm : Room} {len W : Nat} {as' : Array Value} {sf' : List Addr} {Q : Option Value → Heap → List Addr → Prop} {vm0 : Vm} (C : Ctr l Z EL y bytes maxL ret [] rm as' sf' h Q)
    (hZ : Z.Warmed39 vm0) (wc : (Cond.code y bytes maxL ret).before a0 Z = true) (wz : (Cond.initialized y.cls).before a0 Z = true) (hf : rm.frames + 1 ≤ R.frames) (hl : W + (maxL + 11) + rm.locals ≤ R.locals) (hEL : EW Z a0 EL) (H : CHv Z EL vm0 h) (hsafe : ∀ x ∈ sf', x < h.size ∧ Safe Z EL vm0 h x) :
    BackS l R p e below (s.setVm vm0) args y len W (fun A a => a = as' ∧ A.U.heap = h ∧ A.cells + rm.cells ≤ R.cells ∧ A.slots + rm.slots ≤ R.slots)
      (fun A _ v B => ∃ (L : List Loc) (fs : List Addr), Q v B.U.heap fs ∧ Fr Z.heap.size L ∧ Ext Z.heap B.U.heap ∧ Keep h B.U.heap sf' ∧ CHr Z EL vm0 h B.U.vm B.U.heap ∧ (∀ x ∈ fs, x < B.U.heap.size ∧ Z.heap.size ≤ x ∧ h.size ≤ x ∧ Safe Z EL B.U.vm B.U.heap x) ∧ B.locs = A.locs ++ L ∧ B.cells = A.cells + rm.cells ∧ B.slots = A.slots + rm.slots) :=
  BackS.of_freeW (bytes := bytes) (maxL := maxL) (ret := ret) (E := fun _ first o t L k n => k = rm.cells ∧ n = rm.slots ∧ ∃ (v : Option Value) (fs : List Addr), o = .returned v ∧ Q v t.heap fs ∧ Fr Z.heap.size L ∧ Ext Z.heap t.heap ∧ Keep first.heap t.heap sf' ∧ CHr Z EL first.vm first.heap t.vm t.heap ∧ ∀ x ∈ fs, x < t.heap.size ∧ Z.heap.size ≤ x ∧ first.heap.size ≤ x ∧ Safe Z EL t.vm t.heap x) C hf hl
    (fun m meth c A a Y hp => have hU : Z.Warmed39 A.U.vm := wtrans (s := s.setVm vm0) hZ Y.warmed
      ⟨by show (Cond.and _ .tt).before a A.U = true; rw [Cond.before_and, mv hU wc]; rfl, mv hU wc, mv hU wz, hp.2.2.1, hp.2.2.2⟩)
    (fun m meth c A a g mk Y hp => ⟨hp.1, wtrans (s := s.setVm vm0) hZ Y.warmed, hp.2.1, (CHv.at Y hZ hEL H).1, fun x hx => (CHv.at Y hZ hEL H).safe (hsafe x hx).1 (hsafe x hx).2⟩) (fun _ _ _ _ _ _ _ _ _ => trivial)
    (fun _ _ _ _ ⟨v, L, fs, h1, h2, h3, h4, h5, h6, h7, h8⟩ => ⟨L, _, _, h8, rfl, rfl, v, fs, h1, h2, h3, h4, h5, h6, h7⟩)
    (fun m meth c A a g mk v t L k n Y hp _ _ ⟨e1, e2, v', fs, e3, e4, e5, e6, e7, e8, e9⟩ => by
      cases e3; subst e1 e2
      have hh : A.U.heap = h := hp.2.1
      subst hh
      exact ⟨L, fs, e4, e5, e6, e7, (CHv.at Y hZ hEL H).trans e8, e9, rfl, rfl, rfl⟩)
theorem Wk.back {vm0 vm1 : Vm} {k0 : Nat} {B : Pt} {L : List Loc} {fs sf' : List Addr} {ce sl n1 : Nat} (q0 : p.tables.exec = Jvm.exec ∧ EW Z a0 EL ∧ c.maxLocals = mx) (hS : s.Since vm0 k0) (hk : k0 ≤ h.size) (hZ : Z.Warmed39 vm0) (hown : vm0.findClass own = some m.cls) (hC : CHr Z EL s.vm s.heap vm0 h) (N : Fr Z.heap.size locs) (Kp : Keep s.heap h sf0) (M : Mine Z EL s.heap sf0 vm0 h sf)
    (X' : Stand p l e R ((s.setVm vm0).setVm B.U.vm) m args below meth c B.U B.locs B.cells B.slots) (hS' : (s.setVm vm0).Since B.U.vm B.U.heap.size) (hsf : ∀ x ∈ sf', x ∈ sf)
    (r3 : Fr Z.heap.size L) (r4 : Ext Z.heap B.U.heap) (r5 : Keep h B.U.heap sf') (r6 : CHr Z EL vm0 h B.U.vm B.U.heap) (r7 : ∀ x ∈ fs, x < B.U.heap.size ∧ Z.heap.size ≤ x ∧ h.size ≤ x ∧ Safe Z EL B.U.vm B.U.heap x) (r8 : B.locs = locs ++ L) (r9 : B.cells = cells + ce) (r10 : B.slots = slots + sl) : Wk p l e R s m args below meth c Z a0 EL own mx sf0 (fs ++ sf) B.U (locs ++ L) (cells + ce) (slots + sl) B.U.heap := by
  rw [r8, r9, r10] at X'
  refine ⟨q0, B.U.vm, B.U.heap.size, X', rfl, hS.trans hS' (Nat.le_trans hk r5.1), Nat.le_refl _, State.Warmed39.trans (t := s.setVm vm0) hZ hS'.1, (hS'.1.alike.findClass _ _).trans hown, hC.trans r6, N.app r3, r4, Kp.trans r5 (fun x hx => (M x (hsf x hx)).2.2.1), fun x hx => ?_⟩
  rcases List.mem_append.mp hx with hx | hx
  · obtain ⟨f1, f2, f3, f4⟩ := r7 x hx
    exact ⟨f1, f2, Or.inr (Nat.le_trans Kp.1 f3), f4⟩
  · obtain ⟨m1, m2, m3, m4⟩ := M x hx
    exact ⟨Nat.lt_of_lt_of_le m1 r5.1, m2, m3, r6.safe m1 m4⟩
theorem oStatic (K : Wk p l e R s m args below meth c Z a0 EL own mx sf0 sf T locs cells slots h) (pc' : Nat) {index : Nat} {y : MethodName} {bytes : ByteArray} {maxL : Nat} {ret : Option FieldType} {rm : Room} {as' : Array Value} {sf' : List Addr} {Q : Option Value → Heap → List Addr → Prop}  (W : Nat) (w1 : (Cond.methodLink own index y).before a0 Z = true) (w2 : (Cond.static y).before a0 Z = true) (w3 : (Cond.initialized y.cls).before a0 Z = true) (w4 : (Cond.code y bytes maxL ret).before a0 Z = true) (C : Ctr l Z EL y bytes maxL ret [] rm as' sf' h Q) (argsL rest : List Value) (hlen : ∀ sig, parseMethodDescriptor y.desc = some sig → argsL.length = sig.parameters.length) (hd : decode c.code pc = .ok (.invokestatic index, 3)) (kk : ∀ (T' : State) (h' : Heap) (v : Option Value) (locs' : List Loc) (fs : List Addr), Wk p l e R s m args below meth c Z a0 EL own mx sf0 (fs ++ sf) T' locs' (cells + rm.cells) (slots + rm.slots) h' → Keep h h' sf' → Q v h' fs → Owe p e below Post T' (mkF m pc' ls (v.toList ++ rest))) (hy : y.cls ≠ "java/lang/invoke/MethodHandle" ∧ y.cls ≠ "java/lang/invoke/VarHandle" := by decide) (hsf : ∀ x ∈ sf', x ∈ sf := by simp) (hf : rm.frames + 1 ≤ R.frames := by decide) (hl : W + (maxL + 11) + rm.locals ≤ R.locals := by decide) (hcl : cells + rm.cells ≤ R.cells := by decide) (hsl : slots + rm.slots ≤ R.slots := by decide) (has : argsL.toArray = as' := by rfl) (hstack : st = argsL.reverse ++ rest := by rfl) (hW : 2 * 0 + (rest.map fun v => v.category).sum ≤ W := by exact nle) (hsize : ls.size = mx := by rfl) (hp : pc + 3 = pc' := by rfl) : Owe p e below Post T (mkF m pc ls st) := by
  subst hp
  have hg : (mkF m pc ls st).method = m := rfl
  obtain ⟨q0, vm0, k0, X, eT, hS, hk, hZ, hown, hC, N, Ez, Kp, M⟩ := K
  have hZ' : Z.Warmed39 (s.setVm vm0).vm := hZ
  obtain ⟨v, vm₁, B, -, X', hS', -, ⟨L, fs, r1, r3, r4, r5, r6, r7, r8, r9, r10⟩, st⟩ := callSS X q0.1 (own := own) hown (mvT hZ' w1) (mvT hZ' w2) (mvT hZ' w3) (mvT hZ' w4) hy (backC C hZ w4 w3 hf hl q0.2.1 hC.1 (fun x hx => ⟨(M x (hsf x hx)).1, (M x (hsf x hx)).2.2.2⟩)) hg (hsize.trans q0.2.2.symm) hlen hstack hW hd (fun vm1 hv => ⟨has, eT, hcl, hsl⟩)
  exact Owe.go st (kk B.U B.U.heap v _ fs (Wk.back (n1 := 0) (vm1 := vm0) q0 hS hk hZ hown hC N Kp M X' hS' hsf r3 r4 r5 r6 r7 r8 r9 r10) r5 r1)
theorem oVirtual (K : Wk p l e R s m args below meth c Z a0 EL own mx sf0 sf T locs cells slots h) (pc' : Nat) {index : Nat} {D : String} {y z : MethodName} {bytes : ByteArray} {maxL : Nat} {ret : Option FieldType} {rm : Room} {as' : Array Value} {sf' : List Addr} {Q : Option Value → Heap → List Addr → Prop} {a : Addr}  (W : Nat) (w1 : (Cond.methodLink own index y).before a0 Z = true) (w2 : (Cond.declares y).before a0 Z = true) (nf : ∀ s' : State, Z.Warmed39 s'.vm → NotFace s' y) (w5 : (Cond.selects D y z).before a0 Z = true) (w6 : (Cond.instanceMethod z).before a0 Z = true) (w3 : (Cond.initialized z.cls).before a0 Z = true) (w4 : (Cond.code z bytes maxL ret).before a0 Z = true) (Ex : Exa Z h a D)
    (C : Ctr l Z EL z bytes maxL ret [] rm as' sf' h Q) (argsL rest : List Value) (hlen : ∀ sig, parseMethodDescriptor y.desc = some sig → argsL.length = sig.parameters.length) (hd : decode c.code pc = .ok (.invokevirtual index, 3)) (kk : ∀ (T' : State) (h' : Heap) (v : Option Value) (locs' : List Loc) (fs : List Addr), Wk p l e R s m args below meth c Z a0 EL own mx sf0 (fs ++ sf) T' locs' (cells + rm.cells) (slots + rm.slots) h' → Keep h h' sf' → Q v h' fs → Owe p e below Post T' (mkF m pc' ls (v.toList ++ rest))) (hy : y.cls ≠ "java/lang/invoke/MethodHandle" ∧ y.cls ≠ "java/lang/invoke/VarHandle" := by decide) (hsf : ∀ x ∈ sf', x ∈ sf := by simp) (hf : rm.frames + 1 ≤ R.frames := by decide) (hl : W + (maxL + 11) + rm.locals ≤ R.locals := by decide) (hcl : cells + rm.cells ≤ R.cells := by decide) (hsl : slots + rm.slots ≤ R.slots := by decide) (has : (.ref a :: argsL).toArray = as' := by rfl) (hstack : st = argsL.reverse ++ .ref a :: rest := by rfl) (hW : 2 * 0 + (rest.map fun v => v.category).sum ≤ W := by exact nle) (hsize : ls.size = mx := by rfl) (hp : pc + 3 = pc' := by rfl) : Owe p e below Post T (mkF m pc ls st) := by
  subst hp
  have hg : (mkF m pc ls st).method = m := rfl
  obtain ⟨q0, vm0, k0, X, eT, hS, hk, hZ, hown, hC, N, Ez, Kp, M⟩ := K
  have hZ' : Z.Warmed39 (s.setVm vm0).vm := hZ
  obtain ⟨cq, kq, qa, qb, qc⟩ := isOf hZ' eT Ex
  obtain ⟨v, vm₁, B, -, X', hS', -, ⟨L, fs, r1, r3, r4, r5, r6, r7, r8, r9, r10⟩, st⟩ := X.virtualBackS q0.1 (own := own) hown (mvT hZ' w1) (mvT hZ' w2) (nf _ hZ') (mvT hZ' w5) (mvT hZ' w6) hy (backC C hZ w4 w3 hf hl q0.2.1 hC.1 (fun x hx => ⟨(M x (hsf x hx)).1, (M x (hsf x hx)).2.2.2⟩)) qa qc hg (hsize.trans q0.2.2.symm) (Steps.refl _) hlen hstack hW hd (fun vm1 hv => ⟨has, eT, hcl, hsl⟩)
  exact Owe.go st (kk B.U B.U.heap v _ fs (Wk.back (n1 := 0) (vm1 := vm0) q0 hS hk hZ hown hC N Kp M X' hS' hsf r3 r4 r5 r6 r7 r8 r9 r10) r5 r1)
theorem nfSel {D : String} {y : MethodName} (w : (Cond.selects D y y).before a0 Z = true) : ∀ s' : State, Z.Warmed39 s'.vm → NotFace s' y := fun s' hZ => notFace_of_selects (args := #[]) (mvT hZ w)
theorem oIface (K : Wk p l e R s m args below meth c Z a0 EL own mx sf0 sf T locs cells slots h) (pc' : Nat) {index count : Nat} {D : String} {y z : MethodName} {bytes : ByteArray} {maxL : Nat} {ret : Option FieldType} {rm : Room} {as' : Array Value} {sf' : List Addr} {Q : Option Value → Heap → List Addr → Prop} {a : Addr}  (W : Nat) (w1 : (Cond.methodLink own index y).before a0 Z = true) (w2 : (Cond.declares y).before a0 Z = true) (w7 : (Cond.interfaceMethod y.cls y.cls y.name y.desc).before a0 Z = true) (w5 : (Cond.selects D y z).before a0 Z = true) (w6 : (Cond.instanceMethod z).before a0 Z = true) (w8 : (Cond.publicMethod z).before a0 Z = true) (w9 : (Cond.unhidden D y.name y.desc).before a0 Z = true) (w10 : (Cond.castable D y.cls).before a0 Z = true) (w3 : (Cond.initialized z.cls).before a0 Z = true) (w4 : (Cond.code z bytes maxL ret).before a0 Z = true) (Ex : Exa Z h a D)
    (C : Ctr l Z EL z bytes maxL ret [] rm as' sf' h Q) (argsL rest : List Value) (hlen : ∀ sig, parseMethodDescriptor y.desc = some sig → argsL.length = sig.parameters.length) (hd : decode c.code pc = .ok (.invokeinterface index count, 5)) (kk : ∀ (T' : State) (h' : Heap) (v : Option Value) (locs' : List Loc) (fs : List Addr), Wk p l e R s m args below meth c Z a0 EL own mx sf0 (fs ++ sf) T' locs' (cells + rm.cells) (slots + rm.slots) h' → Keep h h' sf' → Q v h' fs → Owe p e below Post T' (mkF m pc' ls (v.toList ++ rest))) (hy : y.cls ≠ "java/lang/invoke/MethodHandle" ∧ y.cls ≠ "java/lang/invoke/VarHandle" := by decide) (hsf : ∀ x ∈ sf', x ∈ sf := by simp) (hf : rm.frames + 1 ≤ R.frames := by decide) (hl : W + (maxL + 11) + rm.locals ≤ R.locals := by decide) (hcl : cells + rm.cells ≤ R.cells := by decide) (hsl : slots + rm.slots ≤ R.slots := by decide) (has : (.ref a :: argsL).toArray = as' := by rfl) (hstack : st = argsL.reverse ++ .ref a :: rest := by rfl) (hW : 2 * 0 + (rest.map fun v => v.category).sum ≤ W := by exact nle) (hsize : ls.size = mx := by rfl) (hp : pc + 5 = pc' := by rfl) : Owe p e below Post T (mkF m pc ls st) := by
  subst hp
  have hg : (mkF m pc ls st).method = m := rfl
  obtain ⟨q0, vm0, k0, X, eT, hS, hk, hZ, hown, hC, N, Ez, Kp, M⟩ := K
  have hZ' : Z.Warmed39 (s.setVm vm0).vm := hZ
  obtain ⟨cq, kq, qa, qb, qc⟩ := isOf hZ' eT Ex
  obtain ⟨v, vm₁, B, -, X', hS', -, ⟨L, fs, r1, r3, r4, r5, r6, r7, r8, r9, r10⟩, st⟩ := X.interfaceBackS q0.1 (own := own) hown (mvT hZ' w1) (mvT hZ' w2) (mvT hZ' w7 (hd := by simp [Cond.onTables, Cond.keepsFace, Cond.keeps, Cond.steady, Cond.faceAtom, hy.1, hy.2])) (mvT hZ' w5) (mvT hZ' w6) (mvT hZ' w8) (mvT hZ' w9) (mvT hZ' w10) hy (backC C hZ w4 w3 hf hl q0.2.1 hC.1 (fun x hx => ⟨(M x (hsf x hx)).1, (M x (hsf x hx)).2.2.2⟩)) qa qb qc hg (hsize.trans q0.2.2.symm) (Steps.refl _) hlen hstack hW hd (fun vm1 hv => ⟨has, eT, hcl, hsl⟩)
  exact Owe.go st (kk B.U B.U.heap v _ fs (Wk.back (n1 := 0) (vm1 := vm0) q0 hS hk hZ hown hC N Kp M X' hS' hsf r3 r4 r5 r6 r7 r8 r9 r10) r5 r1)
theorem Ary.fitC {a : Addr} {ty : FieldType} {vs : List Value} {cl : Cell} (A : Arr Z h a cl ty) (r1 : cl.slots = vs.toArray) (r3 : ∀ v ∈ vs, fits ty v = true) : FitC Z cl := fun i v hv => by
  obtain ⟨hs, k, hk, comp, hkind⟩ := A.2.1
  have hm : v ∈ vs := by rw [r1] at hv; exact List.mem_of_getElem? (by simpa using hv)
  simp [State.fitsSlot, State.slotType?, hk, hkind, r3 v hm]
theorem oClone (K : Wk p l e R s m args below meth c Z a0 EL own mx sf0 sf T locs cells slots h) (pc' : Nat) {ad : String} {index : Nat} {a : Addr} {ty : FieldType} {vs : List Value} {rest : List Value} (W : Nat) (w1 : (Cond.methodLink own index ⟨ad, "clone", "()Ljava/lang/Object;"⟩).before a0 Z = true) (w2 : (Cond.sameMethod ad "java/lang/Object" "clone" "()Ljava/lang/Object;").before a0 Z = true) (w3 : (Cond.native ⟨"java/lang/Object", "clone", "()Ljava/lang/Object;"⟩).before a0 Z = true) (w4 : (Cond.instanceMethod ⟨"java/lang/Object", "clone", "()Ljava/lang/Object;"⟩).before a0 Z = true) (w5 : (Cond.selects ad ⟨ad, "clone", "()Ljava/lang/Object;"⟩ ⟨"java/lang/Object", "clone", "()Ljava/lang/Object;"⟩).before a0 Z = true) (w6 : (Cond.castable ad "java/lang/Cloneable").before a0 Z = true)
    (A : Ary Z h a ty vs) (Ex : Exa Z h a ad) (hsize : ls.size = mx) (hd : decode c.code pc = .ok (.invokevirtual index, 3)) (hf : 1 ≤ R.frames) (hW : 2 * 0 + (rest.map fun v => v.category).sum ≤ W) (hl : W + 14 ≤ R.locals) (hc : cells + 1 ≤ R.cells) (hsl : slots + vs.length ≤ R.slots) (kk : ∀ (T' : State) (h' : Heap) (b : Addr), h.size = b → Wk p l e R s m args below meth c Z a0 EL own mx sf0 (b :: sf) T' locs (cells + 1) (slots + vs.length) h' → Ext h h' → Ary Z h' b ty vs → Exa Z h' b ad → Owe p e below Post T' (mkF m pc' ls (.ref b :: rest))) (hp : pc + 3 = pc' := by rfl) : Owe p e below Post T (mkF m pc ls (.ref a :: rest)) := by
  subst hp
  have hg : (mkF m pc ls (.ref a :: rest)).method = m := rfl
  have hs : (mkF m pc ls (.ref a :: rest)).stack = (.ref a :: rest) := rfl
  obtain ⟨q0, vm0, k0, X, eT, hS, hk, hZ, hown, hC, N, Ez, Kp, M⟩ := K
  obtain ⟨cl, A, r1, r2, r3⟩ := A
  obtain ⟨T', h', X', e', E, Ar, Ea, st⟩ := cloneA (own := own) X q0.1 (show Z.Warmed39 (s.setVm vm0).vm from hZ) hown w1 w2 w3 w4 w5 w6 eT A Ex (Ary.fitC A r1 r3) hg (hsize.trans q0.2.2.symm) hs hd hf hW hl (cap := vs.length) (by rw [r1]; simp) hc hsl
  exact Owe.via st (kk T' h' _ rfl (Wk.made q0 X' e' E Ar.lt hS hk hZ hown hC N Ez Kp M) E ⟨_, Ar, r1, r2, r3⟩ Ea)
/-! ### a JDK law in RoadKit's shape pays a call -/
theorem backN {y : MethodName} {len W ce sl : Nat} {as' : Array Value} {ws : List Addr} {vm0 : Vm} (Q : Option Value → Heap → List Loc → Prop) (Bk : Back l R p e below (s.setVm vm0) args y len W (fun A a => a = as' ∧ A.U.heap = h ∧ A.cells + ce ≤ R.cells ∧ A.slots + sl ≤ R.slots) (fun A _ v B => ∃ L, Q v B.U.heap L ∧ B.locs = A.locs ++ L ∧ B.cells = A.cells + ce ∧ B.slots = A.slots + sl))
    (hQ : ∀ v h' L, Q v h' L → Fr Z.heap.size L ∧ Keep h h' ws) (hZ : Z.Warmed39 vm0) (hEL : EW Z a0 EL) (H : CHv Z EL vm0 h) (hE : Ext Z.heap h) (hsafe : ∀ x ∈ ws, Z.heap.size ≤ x ∧ Safe Z EL vm0 h x) :
    BackS l R p e below (s.setVm vm0) args y len W (fun A a => a = as' ∧ A.U.heap = h ∧ A.cells + ce ≤ R.cells ∧ A.slots + sl ≤ R.slots)
      (fun A _ v B => ∃ (L : List Loc) (fs : List Addr), (Q v B.U.heap L ∧ fs = []) ∧ Fr Z.heap.size L ∧ Ext Z.heap B.U.heap ∧ Keep h B.U.heap ws ∧ CHr Z EL vm0 h B.U.vm B.U.heap ∧ (∀ x ∈ fs, x < B.U.heap.size ∧ Z.heap.size ≤ x ∧ h.size ≤ x ∧ Safe Z EL B.U.vm B.U.heap x) ∧ B.locs = A.locs ++ L ∧ B.cells = A.cells + ce ∧ B.slots = A.slots + sl) := by
  intro m meth c A g ig mk a X hg hsize hdg hW hn hp
  obtain ⟨v, B, X', ⟨L, q1, q2, q3, q4⟩, st⟩ := Bk m meth c A g ig mk a X hg hsize hdg hW hn hp
  obtain ⟨n1, n2⟩ := hQ _ _ _ q1
  have hh : A.U.heap = h := hp.2.1
  have C1 : CHr Z EL vm0 h vm0 B.U.heap := CHr.keep n2 (fun x hx => (hsafe x hx).2) H
  have C2 : CHr Z EL vm0 B.U.heap B.U.vm B.U.heap := CHv.at X' hZ hEL C1.1
  exact ⟨v, B, X'.retabled X'.warmed.wide, X'.warmed.since _, by rw [hh]; exact n2.1, ⟨L, [], ⟨q1, rfl⟩, n1, keepExt hE n2 (fun x hx => (hsafe x hx).1), n2, C1.trans C2, fun x hx => (by cases hx), q2, q3, q4⟩, st⟩
theorem oSpecialN (K : Wk p l e R s m args below meth c Z a0 EL own mx sf0 sf T locs cells slots h) (pc' : Nat) {index : Nat} {y : MethodName} {bytes : ByteArray} {maxL ce sl : Nat} {as' : Array Value} {ws : List Addr} {a : Addr}  (W : Nat) (Q : Option Value → Heap → List Loc → Prop) (w1 : (Cond.methodLink own index y).before a0 Z = true) (w2 : (Cond.instanceMethod y).before a0 Z = true) (w4 : (Cond.code y bytes maxL none).before a0 Z = true) (Bk : ∀ s' : State, Z.Warmed39 s'.vm → Back l R p e below s' args y 3 W (fun A a => a = as' ∧ A.U.heap = h ∧ A.cells + ce ≤ R.cells ∧ A.slots + sl ≤ R.slots) (fun A _ v B => ∃ L, Q v B.U.heap L ∧ B.locs = A.locs ++ L ∧ B.cells = A.cells + ce ∧ B.slots = A.slots + sl)) (hQ : ∀ v h' L, Q v h' L → Fr Z.heap.size L ∧ Keep h h' ws) (argsL rest : List Value) (hlen : ∀ sig, parseMethodDescriptor y.desc = some sig → argsL.length = sig.parameters.length) (hd : decode c.code pc = .ok (.invokespecial index, 3)) (kk : ∀ (T' : State) (h' : Heap) (v : Option Value) (locs' L : List Loc), Wk p l e R s m args below meth c Z a0 EL own mx sf0 sf T' locs' (cells + ce) (slots + sl) h' → Keep h h' ws → Q v h' L → Owe p e below Post T' (mkF m pc' ls (v.toList ++ rest))) (hy1 : y.name = "<init>" := by rfl) (hy : y.cls ≠ "java/lang/invoke/MethodHandle" ∧ y.cls ≠ "java/lang/invoke/VarHandle" := by decide) (hsf : ∀ x ∈ ws, x ∈ sf := by simp) (hcl : cells + ce ≤ R.cells := by decide) (hsl : slots + sl ≤ R.slots := by decide) (has : (.ref a :: argsL).toArray = as' := by rfl) (hstack : st = argsL.reverse ++ .ref a :: rest := by rfl) (hW : 2 * 0 + (rest.map fun v => v.category).sum ≤ W := by exact nle) (hsize : ls.size = mx := by rfl) (hp : pc + 3 = pc' := by rfl) : Owe p e below Post T (mkF m pc ls st) := by
  subst hp
  have hg : (mkF m pc ls st).method = m := rfl
  obtain ⟨q0, vm0, k0, X, eT, hS, hk, hZ, hown, hC, N, Ez, Kp, M⟩ := K
  have hZ' : Z.Warmed39 (s.setVm vm0).vm := hZ
  obtain ⟨v, vm₁, B, -, X', hS', -, ⟨L, fs, ⟨r1, rfl⟩, r3, r4, r5, r6, r7, r8, r9, r10⟩, st⟩ := X.specialBackS q0.1 (own := own) hy1 hown (mvT hZ' w1) (mvT hZ' w2) (mvT hZ' w4) hy (backN Q (Bk _ hZ') hQ hZ q0.2.1 hC.1 Ez (fun x hx => ⟨(M x (hsf x hx)).2.1, (M x (hsf x hx)).2.2.2⟩)) hg (hsize.trans q0.2.2.symm) (Steps.refl _) hlen hstack hW hd (fun vm1 hv => ⟨has, eT, hcl, hsl⟩)
  exact Owe.go st (kk B.U B.U.heap v _ L (Wk.back (n1 := 0) (vm1 := vm0) q0 hS hk hZ hown hC N Kp M X' hS' hsf r3 r4 r5 r6 r7 r8 r9 r10) r5 r1)
theorem oVirtualN (K : Wk p l e R s m args below meth c Z a0 EL own mx sf0 sf T locs cells slots h) (pc' : Nat) {index : Nat} {D : String} {y z : MethodName} {ce sl : Nat} {as' : Array Value} {ws : List Addr} {a : Addr}  (W : Nat) (Q : Option Value → Heap → List Loc → Prop) (w1 : (Cond.methodLink own index y).before a0 Z = true) (w2 : (Cond.declares y).before a0 Z = true) (nf : ∀ s' : State, Z.Warmed39 s'.vm → NotFace s' y) (w5 : (Cond.selects D y z).before a0 Z = true) (w6 : (Cond.instanceMethod z).before a0 Z = true) (Ex : Exa Z h a D)
    (Bk : ∀ s' : State, Z.Warmed39 s'.vm → Back l R p e below s' args z 3 W (fun A a => a = as' ∧ A.U.heap = h ∧ A.cells + ce ≤ R.cells ∧ A.slots + sl ≤ R.slots) (fun A _ v B => ∃ L, Q v B.U.heap L ∧ B.locs = A.locs ++ L ∧ B.cells = A.cells + ce ∧ B.slots = A.slots + sl)) (hQ : ∀ v h' L, Q v h' L → Fr Z.heap.size L ∧ Keep h h' ws) (argsL rest : List Value) (hlen : ∀ sig, parseMethodDescriptor y.desc = some sig → argsL.length = sig.parameters.length) (hd : decode c.code pc = .ok (.invokevirtual index, 3)) (kk : ∀ (T' : State) (h' : Heap) (v : Option Value) (locs' L : List Loc), Wk p l e R s m args below meth c Z a0 EL own mx sf0 sf T' locs' (cells + ce) (slots + sl) h' → Keep h h' ws → Q v h' L → Owe p e below Post T' (mkF m pc' ls (v.toList ++ rest))) (hy : y.cls ≠ "java/lang/invoke/MethodHandle" ∧ y.cls ≠ "java/lang/invoke/VarHandle" := by decide) (hsf : ∀ x ∈ ws, x ∈ sf := by simp) (hcl : cells + ce ≤ R.cells := by decide) (hsl : slots + sl ≤ R.slots := by decide) (has : (.ref a :: argsL).toArray = as' := by rfl) (hstack : st = argsL.reverse ++ .ref a :: rest := by rfl) (hW : 2 * 0 + (rest.map fun v => v.category).sum ≤ W := by exact nle) (hsize : ls.size = mx := by rfl) (hp : pc + 3 = pc' := by rfl) : Owe p e below Post T (mkF m pc ls st) := by
  subst hp
  have hg : (mkF m pc ls st).method = m := rfl
  obtain ⟨q0, vm0, k0, X, eT, hS, hk, hZ, hown, hC, N, Ez, Kp, M⟩ := K
  have hZ' : Z.Warmed39 (s.setVm vm0).vm := hZ
  obtain ⟨cq, kq, qa, qb, qc⟩ := isOf hZ' eT Ex
  obtain ⟨v, vm₁, B, -, X', hS', -, ⟨L, fs, ⟨r1, rfl⟩, r3, r4, r5, r6, r7, r8, r9, r10⟩, st⟩ := X.virtualBackS q0.1 (own := own) hown (mvT hZ' w1) (mvT hZ' w2) (nf _ hZ') (mvT hZ' w5) (mvT hZ' w6) hy (backN Q (Bk _ hZ') hQ hZ q0.2.1 hC.1 Ez (fun x hx => ⟨(M x (hsf x hx)).2.1, (M x (hsf x hx)).2.2.2⟩)) qa qc hg (hsize.trans q0.2.2.symm) (Steps.refl _) hlen hstack hW hd (fun vm1 hv => ⟨has, eT, hcl, hsl⟩)
  exact Owe.go st (kk B.U B.U.heap v _ L (Wk.back (n1 := 0) (vm1 := vm0) q0 hS hk hZ hown hC N Kp M X' hS' hsf r3 r4 r5 r6 r7 r8 r9 r10) r5 r1)
/-! ### the end -/
theorem xRet {g : JFrame} (K : Wk p l e R s m args below meth c Z a0 EL own mx sf0 sf T locs cells slots h) {Q : Option Value → Heap → List Addr → Prop} {v : Option Value} (fs : List Addr) (hcl : cells ≤ R.cells) (hsl : slots ≤ R.slots) (hv : meth.sig.returnType = none → v = none) (hlk : meth.locks = false) (hfs : ∀ x ∈ fs, x ∈ sf ∧ s.heap.size ≤ x) (hQ : Q v h fs)
    (st : ∀ (s' : State) (fr : List Frame), Stand p l e R s' m args below meth c T locs cells slots → (∀ (f : JFrame) (acts : List Action), f.method = m → f.locked = none → f.entered = [] → (doReturn e (T.setTop f) acts v).1 = T.setFrames fr) → Steps p.tables e below (T.setTop g) (T.setFrames fr)) : Owe p e below (PostW Z EL sf0 R Q s) T g := by
  obtain ⟨q0, vm0, k0, X, eT, hS, hk, hZ, hown, hC, N, Ez, Kp, M⟩ := K
  obtain ⟨fr, hr, hrun, hend, w1, w2, w3, w4⟩ := X.leaveW hS (by rw [eT]; exact hk) (v := v) hv hlk
  subst eT
  have hA := CHv.at X hZ q0.2.1 hC.1
  exact ⟨_, _, st _ fr X hr, hrun, hend, v, locs, fs, rfl, hQ, N, Ez, Kp, hC.trans hA, fun x hx => ⟨(M x (hfs x hx).1).1, (M x (hfs x hx).1).2.1, (hfs x hx).2, hA.safe (M x (hfs x hx).1).1 (M x (hfs x hx).1).2.2.2⟩, w1, w2, w3, w4.mono hcl hsl⟩
theorem oRetI (K : Wk p l e R s m args below meth c Z a0 EL own mx sf0 sf T locs cells slots h) {Q : Option Value → Heap → List Addr → Prop} (fs : List Addr) {pc : Nat} {Ls : Array Slot} {z : Int32} {t : FieldType} {rest : List Value} (hret : meth.sig.returnType = some t) (ht : t = .int ∨ t = .boolean ∨ t = .byte ∨ t = .char ∨ t = .short) (hn : narrow t (.int z) = .int z) (hd : decode c.code pc = .ok (.ireturn, 1)) (hcl : cells ≤ R.cells) (hsl : slots ≤ R.slots) (hlk : meth.locks = false) (hfs : ∀ x ∈ fs, x ∈ sf ∧ s.heap.size ≤ x) (hQ : Q (some (.int z)) h fs) : Owe p e below (PostW Z EL sf0 R Q s) T (mkF m pc Ls (.int z :: rest)) :=
  xRet K fs hcl hsl (fun q => by rw [hret] at q; cases q) hlk hfs hQ (fun s' fr X hr => retOut X K.hx hret hn (Or.inl ⟨rfl, ht, z, rfl⟩) hd hr)
theorem oRetA (K : Wk p l e R s m args below meth c Z a0 EL own mx sf0 sf T locs cells slots h) {Q : Option Value → Heap → List Addr → Prop} (fs : List Addr) {pc : Nat} {Ls : Array Slot} {w : Value} {t : FieldType} {rest : List Value} (hret : meth.sig.returnType = some t) (ht : t.isReference = true) (hw : w.isRef = true) (hd : decode c.code pc = .ok (.areturn, 1)) (hcl : cells ≤ R.cells) (hsl : slots ≤ R.slots) (hlk : meth.locks = false) (hfs : ∀ x ∈ fs, x ∈ sf ∧ s.heap.size ≤ x) (hQ : Q (some w) h fs) : Owe p e below (PostW Z EL sf0 R Q s) T (mkF m pc Ls (w :: rest)) :=
  xRet K fs hcl hsl (fun q => by rw [hret] at q; cases q) hlk hfs hQ (fun s' fr X hr => retOut X K.hx hret (by rcases ref_cases hw with rfl | ⟨_, rfl⟩ <;> cases t <;> first | rfl | (cases ht)) (Or.inr (Or.inr (Or.inr (Or.inr ⟨rfl, ht, hw⟩)))) hd hr)
/-! ### plain steps -/
theorem oAloadN (K : Wk p l e R s m args below meth c Z a0 EL own mx sf0 sf T locs cells slots h) (pc' : Nat) {k : Fin 4} {v : Value} (hd : decode c.code pc = .ok (.aload_n k, 1)) (hl : ls[k.val]? = some (.val v)) (hv : v.isRef = true) (kk : Owe p e below Post T (mkF m pc' ls (v :: st))) (hp : pc + 1 = pc' := by rfl) : Owe p e below Post T (mkF m pc ls st) := by
  subst hp
  have hg : (mkF m pc ls st).method = m := rfl
  exact Owe.via (fun _ q => XS.aloadN K.here K.hx hg hd hl hv q) kk
theorem oAload (K : Wk p l e R s m args below meth c Z a0 EL own mx sf0 sf T locs cells slots h) (pc' : Nat) {k : Nat} {v : Value} (hd : decode c.code pc = .ok (.aload k, 2)) (hl : ls[k]? = some (.val v)) (hv : v.isRef = true) (kk : Owe p e below Post T (mkF m pc' ls (v :: st))) (hp : pc + 2 = pc' := by rfl) : Owe p e below Post T (mkF m pc ls st) := by
  subst hp
  have hg : (mkF m pc ls st).method = m := rfl
  exact Owe.via (fun _ q => XS.aload K.here K.hx hg hd hl hv q) kk
theorem oIloadN (K : Wk p l e R s m args below meth c Z a0 EL own mx sf0 sf T locs cells slots h) (pc' : Nat) {k : Fin 4} {v : Int32} (hd : decode c.code pc = .ok (.iload_n k, 1)) (hl : ls[k.val]? = some (.val (.int v))) (kk : Owe p e below Post T (mkF m pc' ls (.int v :: st))) (hp : pc + 1 = pc' := by rfl) : Owe p e below Post T (mkF m pc ls st) := by
  subst hp
  have hg : (mkF m pc ls st).method = m := rfl
  exact Owe.via (fun _ q => XS.iloadN K.here K.hx hg hd hl q) kk
theorem oIload (K : Wk p l e R s m args below meth c Z a0 EL own mx sf0 sf T locs cells slots h) (pc' : Nat) {k : Nat} {v : Int32} (hd : decode c.code pc = .ok (.iload k, 2)) (hl : ls[k]? = some (.val (.int v))) (kk : Owe p e below Post T (mkF m pc' ls (.int v :: st))) (hp : pc + 2 = pc' := by rfl) : Owe p e below Post T (mkF m pc ls st) := by
  subst hp
  have hg : (mkF m pc ls st).method = m := rfl
  exact Owe.via (fun _ q => XS.iload K.here K.hx hg hd hl q) kk
theorem oIand (K : Wk p l e R s m args below meth c Z a0 EL own mx sf0 sf T locs cells slots h) (pc' : Nat) {x y : Int32} {rest : List Value} (hd : decode c.code pc = .ok (.iand, 1)) (kk : Owe p e below Post T (mkF m pc' ls (.int (x &&& y) :: rest))) (hp : pc + 1 = pc' := by rfl) : Owe p e below Post T (mkF m pc ls (.int y :: .int x :: rest)) := by
  subst hp
  have hg : (mkF m pc ls (.int y :: .int x :: rest)).method = m := rfl
  have hs : (mkF m pc ls (.int y :: .int x :: rest)).stack = (.int y :: .int x :: rest) := rfl
  exact Owe.via (fun _ q => XS.iand K.here K.hx hg hd hs q) kk
theorem oDup (K : Wk p l e R s m args below meth c Z a0 EL own mx sf0 sf T locs cells slots h) (pc' : Nat) {x : Value} {rest : List Value} (hd : decode c.code pc = .ok (.dup, 1)) (hc : x.category = 1) (kk : Owe p e below Post T (mkF m pc' ls (x :: x :: rest))) (hp : pc + 1 = pc' := by rfl) : Owe p e below Post T (mkF m pc ls (x :: rest)) := by
  subst hp
  have hg : (mkF m pc ls (x :: rest)).method = m := rfl
  have hs : (mkF m pc ls (x :: rest)).stack = (x :: rest) := rfl
  exact Owe.via (fun _ q => XS.dup K.here K.hx hg hd hs hc q) kk
theorem oIstoreN (K : Wk p l e R s m args below meth c Z a0 EL own mx sf0 sf T locs cells slots h) (pc' : Nat) {k : Fin 4} {x : Int32} {rest : List Value} {l' : Array Slot} (hd : decode c.code pc = .ok (.istore_n k, 1)) (hl : storeLocals ls k.val (.int x) = some l') (kk : Owe p e below Post T (mkF m pc' l' (rest))) (hp : pc + 1 = pc' := by rfl) : Owe p e below Post T (mkF m pc ls (.int x :: rest)) := by
  subst hp
  have hg : (mkF m pc ls (.int x :: rest)).method = m := rfl
  have hs : (mkF m pc ls (.int x :: rest)).stack = (.int x :: rest) := rfl
  exact Owe.via (fun _ q => XS.istoreN K.here K.hx hg hd hs hl q) kk
theorem oIstore (K : Wk p l e R s m args below meth c Z a0 EL own mx sf0 sf T locs cells slots h) (pc' : Nat) {k : Nat} {x : Int32} {rest : List Value} {l' : Array Slot} (hd : decode c.code pc = .ok (.istore k, 2)) (hl : storeLocals ls k (.int x) = some l') (kk : Owe p e below Post T (mkF m pc' l' (rest))) (hp : pc + 2 = pc' := by rfl) : Owe p e below Post T (mkF m pc ls (.int x :: rest)) := by
  subst hp
  have hg : (mkF m pc ls (.int x :: rest)).method = m := rfl
  have hs : (mkF m pc ls (.int x :: rest)).stack = (.int x :: rest) := rfl
  exact Owe.via (fun _ q => XS.istore K.here K.hx hg hd hs hl q) kk
theorem oAstoreN (K : Wk p l e R s m args below meth c Z a0 EL own mx sf0 sf T locs cells slots h) (pc' : Nat) {k : Fin 4} {x : Value} {rest : List Value} {l' : Array Slot} (hd : decode c.code pc = .ok (.astore_n k, 1)) (hv : x.isRef = true) (hl : storeLocals ls k.val x = some l') (kk : Owe p e below Post T (mkF m pc' l' (rest))) (hp : pc + 1 = pc' := by rfl) : Owe p e below Post T (mkF m pc ls (x :: rest)) := by
  subst hp
  have hg : (mkF m pc ls (x :: rest)).method = m := rfl
  have hs : (mkF m pc ls (x :: rest)).stack = (x :: rest) := rfl
  exact Owe.via (fun _ q => XS.astoreN K.here K.hx hg hd hs hv hl q) kk
theorem oAstore (K : Wk p l e R s m args below meth c Z a0 EL own mx sf0 sf T locs cells slots h) (pc' : Nat) {k : Nat} {x : Value} {rest : List Value} {l' : Array Slot} (hd : decode c.code pc = .ok (.astore k, 2)) (hv : x.isRef = true) (hl : storeLocals ls k x = some l') (kk : Owe p e below Post T (mkF m pc' l' (rest))) (hp : pc + 2 = pc' := by rfl) : Owe p e below Post T (mkF m pc ls (x :: rest)) := by
  subst hp
  have hg : (mkF m pc ls (x :: rest)).method = m := rfl
  have hs : (mkF m pc ls (x :: rest)).stack = (x :: rest) := rfl
  exact Owe.via (fun _ q => XS.astore K.here K.hx hg hd hs hv hl q) kk
theorem oGoto (K : Wk p l e R s m args below meth c Z a0 EL own mx sf0 sf T locs cells slots h) (pc' : Nat) {o : Int}  (hd : decode c.code pc = .ok (.goto o, 3)) (kk : Owe p e below Post T (mkF m pc' ls (st))) (ho : 0 ≤ (pc : Int) + o := by decide) (hp : ((pc : Int) + o).toNat = pc' := by decide) : Owe p e below Post T (mkF m pc ls st) := by
  have hg : (mkF m pc ls st).method = m := rfl
  have hpc : (mkF m pc ls st).pc = pc := rfl
  exact Owe.via (fun _ q => XS.goto K.here K.hx hg hpc hd ho hp q) kk
theorem oIfYes (K : Wk p l e R s m args below meth c Z a0 EL own mx sf0 sf T locs cells slots h) (pc' : Nat) {cd : ClassFile.Cond} {x : Int32} {rest : List Value} {o : Int}  (hd : decode c.code pc = .ok (.ifCond cd o, 3)) (hc : ifCond.holds cd x = true) (kk : Owe p e below Post T (mkF m pc' ls (rest))) (ho : 0 ≤ (pc : Int) + o := by decide) (hp : ((pc : Int) + o).toNat = pc' := by decide) : Owe p e below Post T (mkF m pc ls (.int x :: rest)) := by
  have hg : (mkF m pc ls (.int x :: rest)).method = m := rfl
  have hs : (mkF m pc ls (.int x :: rest)).stack = (.int x :: rest) := rfl
  have hpc : (mkF m pc ls (.int x :: rest)).pc = pc := rfl
  exact Owe.via (fun _ q => XS.ifYes K.here K.hx hg hpc hd hs hc ho hp q) kk
theorem oIfNo (K : Wk p l e R s m args below meth c Z a0 EL own mx sf0 sf T locs cells slots h) (pc' : Nat) {cd : ClassFile.Cond} {o : Int} {x : Int32} {rest : List Value} (hd : decode c.code pc = .ok (.ifCond cd o, 3)) (hc : ifCond.holds cd x = false) (kk : Owe p e below Post T (mkF m pc' ls (rest))) (hp : pc + 3 = pc' := by rfl) : Owe p e below Post T (mkF m pc ls (.int x :: rest)) := by
  subst hp
  have hg : (mkF m pc ls (.int x :: rest)).method = m := rfl
  have hs : (mkF m pc ls (.int x :: rest)).stack = (.int x :: rest) := rfl
  exact Owe.via (fun _ q => XS.ifNo K.here K.hx hg hd hs hc q) kk
theorem oIcmpNo (K : Wk p l e R s m args below meth c Z a0 EL own mx sf0 sf T locs cells slots h) (pc' : Nat) {cd : ClassFile.Cond} {o : Int} {x y : Int32} {rest : List Value} (hd : decode c.code pc = .ok (.if_icmp cd o, 3)) (hc : if_icmp.holds cd x y = false) (kk : Owe p e below Post T (mkF m pc' ls (rest))) (hp : pc + 3 = pc' := by rfl) : Owe p e below Post T (mkF m pc ls (.int y :: .int x :: rest)) := by
  subst hp
  have hg : (mkF m pc ls (.int y :: .int x :: rest)).method = m := rfl
  have hs : (mkF m pc ls (.int y :: .int x :: rest)).stack = (.int y :: .int x :: rest) := rfl
  exact Owe.via (fun _ q => XS.icmpNo K.here K.hx hg hd hs hc q) kk
theorem oIinc (K : Wk p l e R s m args below meth c Z a0 EL own mx sf0 sf T locs cells slots h) (pc' : Nat) {k : Nat} {cst : Int} {x : Int32} {l' : Array Slot} (hd : decode c.code pc = .ok (.iinc k cst, 3)) (hl : ls[k]? = some (.val (.int x))) (hl' : storeLocals ls k (.int (x + Int32.ofInt cst)) = some l') (kk : Owe p e below Post T (mkF m pc' l' (st))) (hp : pc + 3 = pc' := by rfl) : Owe p e below Post T (mkF m pc ls st) := by
  subst hp
  have hg : (mkF m pc ls st).method = m := rfl
  exact Owe.via (fun _ q => XS.iinc K.here K.hx hg hd hl hl' q) kk
theorem oAcmpYes (K : Wk p l e R s m args below meth c Z a0 EL own mx sf0 sf T locs cells slots h) (pc' : Nat) {cd : ClassFile.ACond} {x y : Value} {rest : List Value} {o : Int}  (hd : decode c.code pc = .ok (.if_acmp cd o, 3)) (hx' : x.isRef = true) (hy' : y.isRef = true) (hc : XT.acmp cd x y = true) (kk : Owe p e below Post T (mkF m pc' ls (rest))) (ho : 0 ≤ (pc : Int) + o := by decide) (hp : ((pc : Int) + o).toNat = pc' := by decide) : Owe p e below Post T (mkF m pc ls (y :: x :: rest)) := by
  have hg : (mkF m pc ls (y :: x :: rest)).method = m := rfl
  have hs : (mkF m pc ls (y :: x :: rest)).stack = (y :: x :: rest) := rfl
  have hpc : (mkF m pc ls (y :: x :: rest)).pc = pc := rfl
  exact Owe.via (fun _ q => XT.acmpYes K.here K.hx hg hpc hd hs hx' hy' hc ho hp q) kk
theorem oAcmpNo (K : Wk p l e R s m args below meth c Z a0 EL own mx sf0 sf T locs cells slots h) (pc' : Nat) {cd : ClassFile.ACond} {o : Int} {x y : Value} {rest : List Value} (hd : decode c.code pc = .ok (.if_acmp cd o, 3)) (hx' : x.isRef = true) (hy' : y.isRef = true) (hc : XT.acmp cd x y = false) (kk : Owe p e below Post T (mkF m pc' ls (rest))) (hp : pc + 3 = pc' := by rfl) : Owe p e below Post T (mkF m pc ls (y :: x :: rest)) := by
  subst hp
  have hg : (mkF m pc ls (y :: x :: rest)).method = m := rfl
  have hs : (mkF m pc ls (y :: x :: rest)).stack = (y :: x :: rest) := rfl
  exact Owe.via (fun _ q => XT.acmpNo K.here K.hx hg hd hs hx' hy' hc q) kk
theorem oIconstV (K : Wk p l e R s m args below meth c Z a0 EL own mx sf0 sf T locs cells slots h) (pc' : Nat) {i : Int} (v : Int32) (hd : decode c.code pc = .ok (.iconst i, 1)) (hv : Int32.ofInt i = v) (kk : Owe p e below Post T (mkF m pc' ls (.int v :: st))) (hp : pc + 1 = pc' := by rfl) : Owe p e below Post T (mkF m pc ls st) := by
  subst hp
  have hg : (mkF m pc ls st).method = m := rfl
  exact Owe.via (fun _ q => XT.iconstV K.here K.hx hg v hd hv q) kk
theorem oBipushV (K : Wk p l e R s m args below meth c Z a0 EL own mx sf0 sf T locs cells slots h) (pc' : Nat) {i : Int} (v : Int32) (hd : decode c.code pc = .ok (.bipush i, 2)) (hv : (Int8.ofInt i).toInt32 = v) (kk : Owe p e below Post T (mkF m pc' ls (.int v :: st))) (hp : pc + 2 = pc' := by rfl) : Owe p e below Post T (mkF m pc ls st) := by
  subst hp
  have hg : (mkF m pc ls st).method = m := rfl
  exact Owe.via (fun _ q => XT.bipushV K.here K.hx hg v hd hv q) kk
end Walk
end Jvm.OwnKit


/- laws to paste: Road.backV, Road.eqW, Road.codOf (cut by pick.py; bodies as the Statement names them) -/
namespace Jvm.Pilot.@@N@@
namespace StrChars
open Jvm Sem ClassFile Op Lib Jvm.Stand Jvm.Free.XT Jvm.Free.ALB Jvm.Free.JM Jvm.Free
open Jvm.Lib.Cold (StaticIs)
/-- a char array whose places are chars -/
def Ch (a : Addr) (A : Cell) (U : State) : Prop := Arr .char a A U ∧ Typed .char A
theorem Ch.mv {a : Addr} {A : Cell} {U U' : State} (h : Ch a A U) (hal : U.vm.Alike U'.vm) (hh : U'.heap = U.heap) : Ch a A U' := ⟨h.1.mv hal hh, h.2⟩
theorem Ch.keep {a : Addr} {A : Cell} {U U' : State} (h : Ch a A U) (hal : U.vm.Alike U'.vm) (hk : U'.heap[a]? = some A) : Ch a A U' := ⟨h.1.keep hal hk, h.2⟩
/-- what place i of a char[]'s cell holds -/
def cv (A : Cell) (i : Nat) : Int32 := match A.slots[i]? with | some (.int x) => x | _ => 0
theorem Ch.get {a : Addr} {A : Cell} {U : State} (h : Ch a A U) {i : Nat} (hi : i < A.slots.size) : A.slots[i]? = some (.int (cv A i)) := by
  have e := Array.getElem?_eq_getElem hi
  have f := h.2 i _ e
  unfold cv; rw [e]
  generalize A.slots[i] = v at f
  cases v <;> simp [fits] at f ⊢
/-- the byte that i2b leaves of a char -/
def lo8 (x : Int32) : Int32 := x.toInt8.toInt32
theorem fits_lo8 (y : Int32) : fits .byte (.int (lo8 y)) = true := by
  have h1 := y.toInt8.le_toInt
  have h2 := y.toInt8.toInt_lt
  simp only [lo8, fits, Bool.and_eq_true, decide_eq_true_eq, Int32.le_iff_toInt_le, Int8.toInt_toInt32, show (-128 : Int32).toInt = -128 from by decide, show (127 : Int32).toInt = 127 from by decide]
  omega
/-- A' is A but that each place j of lo .. hi - 1 holds f j -/
def Laid (A A' : Cell) (lo hi : Nat) (f : Nat → Value) : Prop := A'.cls = A.cls ∧ A'.vm = A.vm ∧ A'.slots.size = A.slots.size ∧ ∀ i, A'.slots[i]? = if lo ≤ i ∧ i < hi then some (f i) else A.slots[i]?
theorem Laid.zero (A : Cell) (lo : Nat) (f : Nat → Value) : Laid A A lo (lo + 0) f := ⟨rfl, rfl, rfl, fun i => by rw [if_neg (by omega)]⟩
theorem Laid.step {A Ak : Cell} {lo k : Nat} {f : Nat → Value} {v : Value} (h : Laid A Ak lo k f) (hlo : lo ≤ k) (hk : k < Ak.slots.size) (hv : v = f k) : Laid A (Ak.setSlot k v) lo (k + 1) f := by
  refine ⟨h.1, h.2.1, by simpa [Cell.setSlot] using h.2.2.1, fun i => ?_⟩
  by_cases e : k = i
  · subst e; rw [Cell.slots_setSlot_self v hk, if_pos (by omega), hv]
  · rw [Cell.slots_setSlot_ne v e, h.2.2.2 i]
    by_cases q : lo ≤ i ∧ i < k
    · rw [if_pos q, if_pos (by omega)]
    · rw [if_neg q, if_neg (by omega)]
def U16 : String := "java/lang/StringUTF16"
namespace Cmp5
def yN : MethodName := ⟨"java/lang/StringUTF16", "compress", "([CI[BII)I"⟩
abbrev yB : ByteArray := jdk_52_method_21_code
theorem d0 : decode yB 0 = .ok (.iconst 0, 1) := by decide +kernel
theorem d1 : decode yB 1 = .ok (.istore 5, 2) := by decide +kernel
theorem d3 : decode yB 3 = .ok (.iload 5, 2) := by decide +kernel
theorem d5 : decode yB 5 = .ok (.iload 4, 2) := by decide +kernel
theorem d7 : decode yB 7 = .ok (.if_icmp (.ge) 37, 3) := by decide +kernel
theorem d10 : decode yB 10 = .ok (.aload_n 0, 1) := by decide +kernel
theorem d11 : decode yB 11 = .ok (.iload_n 1, 1) := by decide +kernel
theorem d12 : decode yB 12 = .ok (.caload, 1) := by decide +kernel
theorem d13 : decode yB 13 = .ok (.istore 6, 2) := by decide +kernel
theorem d15 : decode yB 15 = .ok (.iload 6, 2) := by decide +kernel
theorem d17 : decode yB 17 = .ok (.sipush 255, 3) := by decide +kernel
theorem d20 : decode yB 20 = .ok (.if_icmp (.le) 6, 3) := by decide +kernel
theorem d26 : decode yB 26 = .ok (.aload_n 2, 1) := by decide +kernel
theorem d27 : decode yB 27 = .ok (.iload_n 3, 1) := by decide +kernel
theorem d28 : decode yB 28 = .ok (.iload 6, 2) := by decide +kernel
theorem d30 : decode yB 30 = .ok (.i2b, 1) := by decide +kernel
theorem d31 : decode yB 31 = .ok (.bastore, 1) := by decide +kernel
theorem d32 : decode yB 32 = .ok (.iinc 1 1, 3) := by decide +kernel
theorem d35 : decode yB 35 = .ok (.iinc 3 1, 3) := by decide +kernel
theorem d38 : decode yB 38 = .ok (.iinc 5 1, 3) := by decide +kernel
theorem d41 : decode yB 41 = .ok (.goto (-38), 3) := by decide +kernel
theorem d44 : decode yB 44 = .ok (.iload 4, 2) := by decide +kernel
theorem d46 : decode yB 46 = .ok (.ireturn, 1) := by decide +kernel
def site : List Cond := []
def tab : Cond := tabOf yN yB 7 (some .int) site
def P (b : Addr) (A : Cell) (d : Addr) (B : Cell) (o q len : Nat) (args : Array Value) (s : State) : Prop := args = #[.ref b, .int (Int32.ofNat o), .ref d, .int (Int32.ofNat q), .int (Int32.ofNat len)] ∧ Ch b A s ∧ Arr .byte d B s ∧ b ≠ d ∧ o + len ≤ A.slots.size ∧ q + len ≤ B.slots.size ∧ ∀ i, i < len → ¬ 255 < cv A (o + i)
def E (b : Addr) (A : Cell) (d : Addr) (B : Cell) (o q len : Nat) (r : Option Value) (s u : State) : Prop := r = some (.int (Int32.ofNat len)) ∧ ∃ B', Put d B' s u ∧ Laid B B' q (q + len) (fun j => Value.int (lo8 (cv A (o + (j - q)))))
/-- no char of the range above 255: len; the places written hold each char's low byte -/
theorem law (l : Launch) (b : Addr) (A : Cell) (d : Addr) (B : Cell) (o q len : Nat) : Law l yN 5 5 0 0 yB 7 (some .int) site (P b A d B o q len) (E b A d B o q len) (copyLocs d q len) 0 0 := by
  refine Law.of_walk (plainFor_of_name (by decide +kernel)) (by decide +kernel) (by decide +kernel) (by decide) (fun _ _ h => by rw [h.1]; rfl) (fun _ U U' hal hh h => ⟨h.1, h.2.1.mv hal hh, h.2.2.1.mv hal hh, h.2.2.2⟩) (fun r U U' V V' h1 hal h2 h => ⟨h.1, h.2.elim fun B' q => ⟨B', q.1.mv h1 h2, q.2⟩⟩) ?_
  intro p e s m args below meth c s₁ X0 hexec hbytes hml hret hlk hnm hown hh0 W hP
  obtain ⟨rfl, hA, hB, hne, l1, l2, hp⟩ := hP
  have c1 : Steps p.tables e below (s₁.setTop (entryFrame m #[.ref b, .int (Int32.ofNat o), .ref d, .int (Int32.ofNat q), .int (Int32.ofNat len)] 7)) (s₁.setTop (mkF m 0 #[.val (.ref b), .val (.int (Int32.ofNat o)), .val (.ref d), .val (.int (Int32.ofNat q)), .val (.int (Int32.ofNat len)), .unset, .unset] [])) := entry rfl
  have hA0 := hA.1.mv X0.warmed.alike hh0
  have hB0 := hB.mv X0.warmed.alike hh0
  have a31 := hA.1.2.2.2
  have c2 : Steps p.tables e below (s₁.setTop (entryFrame m #[.ref b, .int (Int32.ofNat o), .ref d, .int (Int32.ofNat q), .int (Int32.ofNat len)] 7)) (s₁.setTop (mkF m 3 #[.val (.ref b), .val (.int (Int32.ofNat o)), .val (.ref d), .val (.int (Int32.ofNat q)), .val (.int (Int32.ofNat len)), .val (.int 0), .unset] [])) := c1.trans (by
    refine iconstV X0.here hexec rfl 0 (hb hbytes d0) (by decide) ?_
    refine XS.istore X0.here hexec rfl (hb hbytes d1) rfl rfl ?_
    exact Steps.refl _)
  have loop : ∀ (r i : Nat), i + r = len → ∀ (z : Slot), (z = .unset ∨ ∃ w, z = .val w ∧ w.category = 1) → ∀ (Tl : State) (Bk : Cell), Stand p l e { frames := 0, locals := 0, cells := 0, slots := 0 } s m #[.ref b, .int (Int32.ofNat o), .ref d, .int (Int32.ofNat q), .int (Int32.ofNat len)] below meth c Tl ([] ++ copyLocs d q i) 0 0 → Put d Bk s₁ Tl → Laid B Bk q (q + i) (fun j => Value.int (lo8 (cv A (o + (j - q))))) →
      Steps p.tables e below (s₁.setTop (entryFrame m #[.ref b, .int (Int32.ofNat o), .ref d, .int (Int32.ofNat q), .int (Int32.ofNat len)] 7)) (Tl.setTop (mkF m 3 #[.val (.ref b), .val (.int (Int32.ofNat (o + i))), .val (.ref d), .val (.int (Int32.ofNat (q + i))), .val (.int (Int32.ofNat len)), .val (.int (Int32.ofNat i)), z] [])) → ∃ (T' : State) (B' : Cell) (z' : Slot), Stand p l e { frames := 0, locals := 0, cells := 0, slots := 0 } s m #[.ref b, .int (Int32.ofNat o), .ref d, .int (Int32.ofNat q), .int (Int32.ofNat len)] below meth c T' ([] ++ copyLocs d q len) 0 0 ∧ Put d B' s₁ T' ∧ Laid B B' q (q + len) (fun j => Value.int (lo8 (cv A (o + (j - q))))) ∧
      Steps p.tables e below (s₁.setTop (entryFrame m #[.ref b, .int (Int32.ofNat o), .ref d, .int (Int32.ofNat q), .int (Int32.ofNat len)] 7)) (T'.setTop (mkF m 3 #[.val (.ref b), .val (.int (Int32.ofNat (o + len))), .val (.ref d), .val (.int (Int32.ofNat (q + len))), .val (.int (Int32.ofNat len)), .val (.int (Int32.ofNat len)), z'] [])) := by
    intro r
    induction r with
    | zero =>
      intro i hi z hz Tl Bk Xl pl fl cl
      have hil : i = len := by omega
      rw [hil] at Xl fl cl
      exact ⟨Tl, Bk, z, Xl, pl, fl, cl⟩
    | succ r ih =>
      intro i hi z hz Tl Bk Xl pl fl cl
      have all := X0.warmed.alike.symm.trans Xl.warmed.alike
      have hAl := hA0.keep all (pl.other hne hA0.1)
      have hBk := hB0.like all pl.1 fl.1 fl.2.1 fl.2.2.1
      have hlt : q + i < Bk.slots.size := by rw [fl.2.2.1]; omega
      have c3 : Steps p.tables e below (s₁.setTop (entryFrame m #[.ref b, .int (Int32.ofNat o), .ref d, .int (Int32.ofNat q), .int (Int32.ofNat len)] 7)) (Tl.setTop (mkF m 12 #[.val (.ref b), .val (.int (Int32.ofNat (o + i))), .val (.ref d), .val (.int (Int32.ofNat (q + i))), .val (.int (Int32.ofNat len)), .val (.int (Int32.ofNat i)), z] [.int (Int32.ofNat (o + i)), .ref b])) := cl.trans (by
        refine XS.iload Xl.here hexec rfl (hb hbytes d3) rfl ?_
        refine XS.iload Xl.here hexec rfl (hb hbytes d5) rfl ?_
        refine XS.icmpNo Xl.here hexec rfl (hb hbytes d7) rfl (ii_ge_f (lt32 (by omega) (by omega))) ?_
        refine XS.aloadN Xl.here hexec rfl (hb hbytes d10) rfl rfl ?_
        refine XS.iloadN Xl.here hexec rfl (hb hbytes d11) rfl ?_
        exact Steps.refl _)
      have c4 : Steps p.tables e below (s₁.setTop (entryFrame m #[.ref b, .int (Int32.ofNat o), .ref d, .int (Int32.ofNat q), .int (Int32.ofNat len)] 7)) (Tl.setTop (mkF m 13 #[.val (.ref b), .val (.int (Int32.ofNat (o + i))), .val (.ref d), .val (.int (Int32.ofNat (q + i))), .val (.int (Int32.ofNat len)), .val (.int (Int32.ofNat i)), z] [.int (cv A (o + i))])) := c3.trans (by
        refine Xl.aget hexec hAl rfl (hA.get (i := o + i) (by omega)) rfl rfl (hb hbytes d12) ?_
        exact Steps.refl _)
      have c5 : Steps p.tables e below (s₁.setTop (entryFrame m #[.ref b, .int (Int32.ofNat o), .ref d, .int (Int32.ofNat q), .int (Int32.ofNat len)] 7)) (Tl.setTop (mkF m 15 #[.val (.ref b), .val (.int (Int32.ofNat (o + i))), .val (.ref d), .val (.int (Int32.ofNat (q + i))), .val (.int (Int32.ofNat len)), .val (.int (Int32.ofNat i)), .val (.int (cv A (o + i)))] [])) := c4.trans (by
        refine XS.istoreS Xl.here hexec rfl (hb hbytes d13) rfl rfl hz ?_
        exact Steps.refl _)
      have c6 : Steps p.tables e below (s₁.setTop (entryFrame m #[.ref b, .int (Int32.ofNat o), .ref d, .int (Int32.ofNat q), .int (Int32.ofNat len)] 7)) (Tl.setTop (mkF m 31 #[.val (.ref b), .val (.int (Int32.ofNat (o + i))), .val (.ref d), .val (.int (Int32.ofNat (q + i))), .val (.int (Int32.ofNat len)), .val (.int (Int32.ofNat i)), .val (.int (cv A (o + i)))] [.int (lo8 (cv A (o + i))), .int (Int32.ofNat (q + i)), .ref d])) := c5.trans (by
        refine XS.iload Xl.here hexec rfl (hb hbytes d15) rfl ?_
        refine sipushV Xl.here hexec rfl 255 (hb hbytes d17) (by decide) ?_
        refine XS.icmpYes Xl.here hexec rfl (pc0 := 20) rfl (hb hbytes d20) rfl (ii_le_t (hp i (by omega))) (by decide) rfl ?_
        refine XS.aloadN Xl.here hexec rfl (hb hbytes d26) rfl rfl ?_
        refine XS.iloadN Xl.here hexec rfl (hb hbytes d27) rfl ?_
        refine XS.iload Xl.here hexec rfl (hb hbytes d28) rfl ?_
        refine i2b Xl.here hexec rfl (hb hbytes d30) rfl ?_
        exact Steps.refl _)
      obtain ⟨T7, X7, p7, st7⟩ := Xl.aput hexec hBk rfl hlt rfl (fits_lo8 (cv A (o + i))) (g := (mkF m 31 #[.val (.ref b), .val (.int (Int32.ofNat (o + i))), .val (.ref d), .val (.int (Int32.ofNat (q + i))), .val (.int (Int32.ofNat len)), .val (.int (Int32.ofNat i)), .val (.int (cv A (o + i)))] [.int (lo8 (cv A (o + i))), .int (Int32.ofNat (q + i)), .ref d])) rfl (rest := []) rfl (hb hbytes d31)
      have c8 : Steps p.tables e below (s₁.setTop (entryFrame m #[.ref b, .int (Int32.ofNat o), .ref d, .int (Int32.ofNat q), .int (Int32.ofNat len)] 7)) (T7.setTop (mkF m 32 #[.val (.ref b), .val (.int (Int32.ofNat (o + i))), .val (.ref d), .val (.int (Int32.ofNat (q + i))), .val (.int (Int32.ofNat len)), .val (.int (Int32.ofNat i)), .val (.int (cv A (o + i)))] [])) := c6.trans (st7 _ (Steps.refl _))
      have c9 : Steps p.tables e below (s₁.setTop (entryFrame m #[.ref b, .int (Int32.ofNat o), .ref d, .int (Int32.ofNat q), .int (Int32.ofNat len)] 7)) (T7.setTop (mkF m 3 #[.val (.ref b), .val (.int (Int32.ofNat (o + i) + 1)), .val (.ref d), .val (.int (Int32.ofNat (q + i) + 1)), .val (.int (Int32.ofNat len)), .val (.int (Int32.ofNat i + 1)), .val (.int (cv A (o + i)))] [])) := c8.trans (by
        refine iincV X7.here hexec rfl 1 (hb hbytes d32) (by decide) rfl rfl ?_
        refine iincV X7.here hexec rfl 1 (hb hbytes d35) (by decide) rfl rfl ?_
        refine iincV X7.here hexec rfl 1 (hb hbytes d38) (by decide) rfl rfl ?_
        refine XS.goto X7.here hexec rfl (pc0 := 41) rfl (hb hbytes d41) (by decide) rfl ?_
        exact Steps.refl _)
      have c10 : Steps p.tables e below (s₁.setTop (entryFrame m #[.ref b, .int (Int32.ofNat o), .ref d, .int (Int32.ofNat q), .int (Int32.ofNat len)] 7)) (T7.setTop (mkF m 3 #[.val (.ref b), .val (.int (Int32.ofNat (o + (i + 1)))), .val (.ref d), .val (.int (Int32.ofNat (q + (i + 1)))), .val (.int (Int32.ofNat len)), .val (.int (Int32.ofNat (i + 1))), .val (.int (cv A (o + i)))] [])) := by
        have := c9
        rw [succ32, succ32, succ32] at this
        exact this
      exact ih (i + 1) (by omega) _ (Or.inr ⟨_, rfl, rfl⟩) T7 _ (by rw [copyLocs_step, ← List.append_assoc]; exact X7) (pl.trans p7) (fl.step (by omega) hlt (by simp)) c10
  obtain ⟨T9, B9, z9, X9, p9, f9, g9⟩ := loop len 0 (by omega) .unset (Or.inl rfl) s₁ B (by simpa [copyLocs] using X0) ⟨hB0.1, fun _ _ => rfl, rfl⟩ (Laid.zero _ _ _) c2
  have c11 : Steps p.tables e below (s₁.setTop (entryFrame m #[.ref b, .int (Int32.ofNat o), .ref d, .int (Int32.ofNat q), .int (Int32.ofNat len)] 7)) (T9.setTop (mkF m 46 #[.val (.ref b), .val (.int (Int32.ofNat (o + len))), .val (.ref d), .val (.int (Int32.ofNat (q + len))), .val (.int (Int32.ofNat len)), .val (.int (Int32.ofNat len)), z9] [.int (Int32.ofNat len)])) := g9.trans (by
    refine XS.iload X9.here hexec rfl (hb hbytes d3) rfl ?_
    refine XS.iload X9.here hexec rfl (hb hbytes d5) rfl ?_
    refine XS.icmpYes X9.here hexec rfl (pc0 := 7) rfl (hb hbytes d7) rfl (ii_ge_t (nlt32 (by omega) (Nat.le_refl _))) (by decide) rfl ?_
    refine XS.iload X9.here hexec rfl (hb hbytes d44) rfl ?_
    exact Steps.refl _)
  exact ⟨T9, some (.int (Int32.ofNat len)), _, _, _, X9, by simp, rfl, rfl, (fun h => by cases h), ⟨rfl, B9, p9.from hh0, f9⟩, fun fs hl => c11.trans (X9.ireturnOut hexec hret rfl (Or.inl rfl) (hb hbytes d46) hl)⟩
end Cmp5
namespace Cmp3
def yN : MethodName := ⟨"java/lang/StringUTF16", "compress", "([CII)[B"⟩
abbrev yB : ByteArray := jdk_52_method_16_code
theorem d0 : decode yB 0 = .ok (.iload_n 2, 1) := by decide +kernel
theorem d1 : decode yB 1 = .ok (.newarray .byte, 2) := by decide +kernel
theorem d3 : decode yB 3 = .ok (.astore_n 3, 1) := by decide +kernel
theorem d4 : decode yB 4 = .ok (.aload_n 0, 1) := by decide +kernel
theorem d5 : decode yB 5 = .ok (.iload_n 1, 1) := by decide +kernel
theorem d6 : decode yB 6 = .ok (.aload_n 3, 1) := by decide +kernel
theorem d7 : decode yB 7 = .ok (.iconst 0, 1) := by decide +kernel
theorem d8 : decode yB 8 = .ok (.iload_n 2, 1) := by decide +kernel
theorem d9 : decode yB 9 = .ok (.invokestatic 115, 3) := by decide +kernel
theorem d12 : decode yB 12 = .ok (.istore 4, 2) := by decide +kernel
theorem d14 : decode yB 14 = .ok (.iload 4, 2) := by decide +kernel
theorem d16 : decode yB 16 = .ok (.iload_n 2, 1) := by decide +kernel
theorem d17 : decode yB 17 = .ok (.if_icmp (.eq) 40, 3) := by decide +kernel
theorem d57 : decode yB 57 = .ok (.aload_n 3, 1) := by decide +kernel
theorem d58 : decode yB 58 = .ok (.areturn, 1) := by decide +kernel
def site : List Cond := [.arrayClass .byte, Cmp5.tab] ++ staticW U16 115 Cmp5.yN
def tab : Cond := tabOf yN yB 6 (some (.array .byte)) site
def P (b : Addr) (A : Cell) (o len : Nat) (args : Array Value) (s : State) : Prop := args = #[.ref b, .int (Int32.ofNat o), .int (Int32.ofNat len)] ∧ Ch b A s ∧ o + len ≤ A.slots.size ∧ len ≤ 536870912 ∧ ∀ i, i < len → ¬ 255 < cv A (o + i)
def E (b : Addr) (A : Cell) (o len : Nat) (r : Option Value) (s u : State) : Prop := NewArr .byte "[B" len (fun j => .int (lo8 (cv A (o + j)))) r s u ∧ u.heap.size = s.heap.size + 1
/-- no char of the range above 255: a new byte[] of their low bytes -/
theorem law (l : Launch) (b : Addr) (A : Cell) (o len : Nat) : Law l yN 3 3 1 18 yB 6 (some (.array .byte)) site (P b A o len) (E b A o len) [] 1 len := by
  refine Law.of_walk (plainFor_of_name (by decide +kernel)) (by decide +kernel) (by decide +kernel) (by decide) (fun _ _ h => by rw [h.1]; rfl) (fun _ U U' hal hh h => ⟨h.1, h.2.1.mv hal hh, h.2.2⟩) (fun r U U' V V' h1 hal h2 h => ⟨NewArr.mv r U U' V V' h1 hal h2 h.1, by rw [h1, h2]; exact h.2⟩) ?_
  intro p e s m args below meth c s₁ X0 hexec hbytes hml hret hlk hnm hown hh0 W hP
  obtain ⟨rfl, hA, l1, l2, hp⟩ := hP
  have a31 := hA.1.2.2.2
  have c1 : Steps p.tables e below (s₁.setTop (entryFrame m #[.ref b, .int (Int32.ofNat o), .int (Int32.ofNat len)] 6)) (s₁.setTop (mkF m 0 #[.val (.ref b), .val (.int (Int32.ofNat o)), .val (.int (Int32.ofNat len)), .unset, .unset, .unset] [])) := entry rfl
  have c2 : Steps p.tables e below (s₁.setTop (entryFrame m #[.ref b, .int (Int32.ofNat o), .int (Int32.ofNat len)] 6)) (s₁.setTop (mkF m 1 #[.val (.ref b), .val (.int (Int32.ofNat o)), .val (.int (Int32.ofNat len)), .unset, .unset, .unset] [.int (Int32.ofNat len)])) := c1.trans (by
    refine XS.iloadN X0.here hexec rfl (hb hbytes d0) rfl ?_
    exact Steps.refl _)
  obtain ⟨T3, B3, X3, ba3, bs3, bv3, bh3, bf3, st3⟩ := X0.anew hexec (atype := .byte) (wk W (.arrayClass .byte)) rfl (by show len * 1 ≤ _; omega) (by omega) (g := (mkF m 1 #[.val (.ref b), .val (.int (Int32.ofNat o)), .val (.int (Int32.ofNat len)), .unset, .unset, .unset] [.int (Int32.ofNat len)])) rfl (hb hbytes d1) (rest := []) rfl (Nat.le_refl _) (by show 0 + len ≤ len; omega)
  rw [hh0] at ba3 st3
  have kp3 : XT.Kept s T3 := (XT.Kept.of_eq hh0).push bh3
  have hA3 := hA.keep X3.warmed.alike (kp3 _ _ hA.1.1)
  have hne : b ≠ s.heap.size := hA.1.ne
  have c4 : Steps p.tables e below (s₁.setTop (entryFrame m #[.ref b, .int (Int32.ofNat o), .int (Int32.ofNat len)] 6)) (T3.setTop (mkF m 3 #[.val (.ref b), .val (.int (Int32.ofNat o)), .val (.int (Int32.ofNat len)), .unset, .unset, .unset] [.ref s.heap.size])) := c2.trans (st3 _ (Steps.refl _))
  have c5 : Steps p.tables e below (s₁.setTop (entryFrame m #[.ref b, .int (Int32.ofNat o), .int (Int32.ofNat len)] 6)) (T3.setTop (mkF m 9 #[.val (.ref b), .val (.int (Int32.ofNat o)), .val (.int (Int32.ofNat len)), .val (.ref s.heap.size), .unset, .unset] [.int (Int32.ofNat len), .int 0, .ref s.heap.size, .int (Int32.ofNat o), .ref b])) := c4.trans (by
    refine XS.astoreN X3.here hexec rfl (hb hbytes d3) rfl rfl rfl ?_
    refine XS.aloadN X3.here hexec rfl (hb hbytes d4) rfl rfl ?_
    refine XS.iloadN X3.here hexec rfl (hb hbytes d5) rfl ?_
    refine XS.aloadN X3.here hexec rfl (hb hbytes d6) rfl rfl ?_
    refine iconstV X3.here hexec rfl 0 (hb hbytes d7) (by decide) ?_
    refine XS.iloadN X3.here hexec rfl (hb hbytes d8) rfl ?_
    exact Steps.refl _)
  obtain ⟨v6, T6, X6, E6, g6⟩ := X3.callS hexec (Cmp5.law l b A s.heap.size B3 o 0 len) hown (wks W (staticW U16 115 Cmp5.yN)) (wk W Cmp5.tab) (W := 0) (Nat.le_of_ble_eq_true rfl) (Nat.le_of_ble_eq_true rfl) (Nat.le_refl _) (by show 0 + len + 0 ≤ len; omega) (g := (mkF m 9 #[.val (.ref b), .val (.int (Int32.ofNat o)), .val (.int (Int32.ofNat len)), .val (.ref s.heap.size), .unset, .unset] [.int (Int32.ofNat len), .int (Int32.ofNat 0), .ref s.heap.size, .int (Int32.ofNat o), .ref b])) rfl (by rw [hml]; rfl) c5 (argsL := [.ref b, .int (Int32.ofNat o), .ref s.heap.size, .int (Int32.ofNat 0), .int (Int32.ofNat len)]) (rest := []) rfl rfl (by show 2 * 0 + 0 ≤ _; decide) (hb hbytes d9) (⟨rfl, hA3, ba3, hne, l1, by rw [bs3]; simp, hp⟩)
  obtain ⟨rfl, B6, p6, f6⟩ := E6
  have c7 : Steps p.tables e below (s₁.setTop (entryFrame m #[.ref b, .int (Int32.ofNat o), .int (Int32.ofNat len)] 6)) (T6.setTop (mkF m 12 #[.val (.ref b), .val (.int (Int32.ofNat o)), .val (.int (Int32.ofNat len)), .val (.ref s.heap.size), .unset, .unset] [.int (Int32.ofNat len)])) := g6
  have c8 : Steps p.tables e below (s₁.setTop (entryFrame m #[.ref b, .int (Int32.ofNat o), .int (Int32.ofNat len)] 6)) (T6.setTop (mkF m 58 #[.val (.ref b), .val (.int (Int32.ofNat o)), .val (.int (Int32.ofNat len)), .val (.ref s.heap.size), .val (.int (Int32.ofNat len)), .unset] [.ref s.heap.size])) := c7.trans (by
    refine XS.istore X6.here hexec rfl (hb hbytes d12) rfl rfl ?_
    refine XS.iload X6.here hexec rfl (hb hbytes d14) rfl ?_
    refine XS.iloadN X6.here hexec rfl (hb hbytes d16) rfl ?_
    refine XS.icmpYes X6.here hexec rfl (pc0 := 17) rfl (hb hbytes d17) rfl (ii_eq_t rfl) (by decide) rfl ?_
    refine XS.aloadN X6.here hexec rfl (hb hbytes d57) rfl rfl ?_
    exact Steps.refl _)
  have X8 := X6.wide (L' := []) (cells' := 1) (slots' := len) (fun x hx hlt => by
    simp only [List.nil_append, copyLocs, List.mem_map, List.mem_range] at hx
    obtain ⟨i, -, rfl⟩ := hx
    exact absurd hlt (Nat.lt_irrefl _)) (Nat.le_refl _) (by omega)
  exact ⟨T6, some (.ref s.heap.size), _, _, _, X8, rfl, rfl, rfl, (fun h => by cases h), ⟨⟨rfl, B6, ba3.like (X3.warmed.alike.symm.trans X6.warmed.alike) p6.1 f6.1 f6.2.1 f6.2.2.1, f6.2.1.trans bv3, by rw [X6.warmed.alike.findClass, f6.1]; exact bf3, by rw [f6.2.2.1, bs3]; simp, fun j hj => by rw [f6.2.2.2 j, if_pos (by omega)]; rfl, kp3.put p6 (Nat.le_refl _)⟩, by rw [p6.2.2, bh3, hh0]; simp⟩, fun fs hl => c8.trans (X8.areturnOut hexec rfl hret rfl (hb hbytes d58) hl)⟩
end Cmp3
namespace CodL
def yN : MethodName := ⟨"java/lang/StringUTF16", "coderFromArrayLen", "([BI)B"⟩
abbrev yB : ByteArray := jdk_52_method_15_code
theorem d0 : decode yB 0 = .ok (.iload_n 1, 1) := by decide +kernel
theorem d1 : decode yB 1 = .ok (.aload_n 0, 1) := by decide +kernel
theorem d2 : decode yB 2 = .ok (.arraylength, 1) := by decide +kernel
theorem d3 : decode yB 3 = .ok (.isub, 1) := by decide +kernel
theorem d4 : decode yB 4 = .ok (.bipush 31, 2) := by decide +kernel
theorem d6 : decode yB 6 = .ok (.iushr, 1) := by decide +kernel
theorem d7 : decode yB 7 = .ok (.i2b, 1) := by decide +kernel
theorem d8 : decode yB 8 = .ok (.ireturn, 1) := by decide +kernel
def site : List Cond := []
def tab : Cond := tabOf yN yB 2 (some .byte) site
def P (d : Addr) (B : Cell) (args : Array Value) (s : State) : Prop := args = #[.ref d, .int (Int32.ofNat B.slots.size)] ∧ Arr .byte d B s
def E (r : Option Value) (s u : State) : Prop := XT.PureE (some (.int 0)) r s u
/-- an array as long as the number of chars: LATIN1 -/
theorem law (l : Launch) (d : Addr) (B : Cell) : Law l yN 2 2 0 0 yB 2 (some .byte) site (P d B) E [] 0 0 := by
  refine Law.of_walk (plainFor_of_name (by decide +kernel)) (by decide +kernel) (by decide +kernel) (by decide) (fun _ _ h => by rw [h.1]; rfl) (fun _ U U' hal hh h => ⟨h.1, h.2.mv hal hh⟩) (fun r U U' V V' h1 hal h2 h => XT.PureE.mv r U U' V V' h1 hal h2 h) ?_
  intro p e s m args below meth c s₁ X0 hexec hbytes hml hret hlk hnm hown hh0 W hP
  obtain ⟨rfl, hB⟩ := hP
  have hB0 := hB.mv X0.warmed.alike hh0
  have c1 : Steps p.tables e below (s₁.setTop (entryFrame m #[.ref d, .int (Int32.ofNat B.slots.size)] 2)) (s₁.setTop (mkF m 0 #[.val (.ref d), .val (.int (Int32.ofNat B.slots.size))] [])) := entry rfl
  have c2 : Steps p.tables e below (s₁.setTop (entryFrame m #[.ref d, .int (Int32.ofNat B.slots.size)] 2)) (s₁.setTop (mkF m 2 #[.val (.ref d), .val (.int (Int32.ofNat B.slots.size))] [.ref d, .int (Int32.ofNat B.slots.size)])) := c1.trans (by
    refine XS.iloadN X0.here hexec rfl (hb hbytes d0) rfl ?_
    refine XS.aloadN X0.here hexec rfl (hb hbytes d1) rfl rfl ?_
    exact Steps.refl _)
  have c3 : Steps p.tables e below (s₁.setTop (entryFrame m #[.ref d, .int (Int32.ofNat B.slots.size)] 2)) (s₁.setTop (mkF m 8 #[.val (.ref d), .val (.int (Int32.ofNat B.slots.size))] [.int (lo8 (ushr (Int32.ofNat B.slots.size - Int32.ofNat B.slots.size) 31))])) := c2.trans (by
    refine X0.alen hexec hB0 rfl rfl (hb hbytes d2) ?_
    refine XS.isub X0.here hexec rfl (hb hbytes d3) rfl ?_
    refine bipushV X0.here hexec rfl 31 (hb hbytes d4) (by decide) ?_
    refine iushr X0.here hexec rfl (hb hbytes d6) rfl ?_
    refine i2b X0.here hexec rfl (hb hbytes d7) rfl ?_
    exact Steps.refl _)
  have e0 : lo8 (ushr (Int32.ofNat B.slots.size - Int32.ofNat B.slots.size) 31) = 0 := by rw [Int32.sub_self]; decide
  rw [e0] at c3
  exact ⟨s₁, some (.int 0), _, _, _, X0, rfl, rfl, rfl, (fun h => by cases h), ⟨rfl, hh0⟩, fun fs hl => c3.trans (X0.ireturnOut hexec hret rfl (Or.inr (Or.inr (Or.inl rfl))) (hb hbytes d8) hl)⟩
end CodL
/-- the String at a is Latin-1 over a new byte[] (the heap's one new cell): the low bytes of the len chars of A from o on; every cell but a is kept -/
def Got (a : Addr) (D : Cell) (fV fC : Field) (A : Cell) (o len : Nat) (r : Option Value) (s u : State) : Prop := r = none ∧ ∃ D' V : Cell, Blank "java/lang/String" a D' u ∧ Same D D' [fV.slot, fC.slot] ∧ D'.slots[fV.slot]? = some (.ref s.heap.size) ∧ D'.slots[fC.slot]? = some (.int 0) ∧ Arr .byte s.heap.size V u ∧ V.vm = .none ∧ u.vm.findClass "[B" = some V.cls ∧ V.slots.size = len ∧ (∀ j, j < len → V.slots[j]? = some (.int (lo8 (cv A (o + j))))) ∧ (∀ (y : Addr) (c : Cell), y ≠ a → s.heap[y]? = some c → u.heap[y]? = some c) ∧ u.heap.size = s.heap.size + 1
theorem Got.mv {a : Addr} {D A : Cell} {fV fC : Field} {o len : Nat} : ∀ r (U U' V V' : State), U'.heap = U.heap → V.vm.Alike V'.vm → V'.heap = V.heap → Got a D fV fC A o len r U V → Got a D fV fC A o len r U' V' :=
  fun r U U' V V' h1 hal h2 ⟨e0, D', X, a1, a2, a3, a4, a5, a6, a7, a8, a9, a10, a11⟩ => ⟨e0, D', X, a1.mv hal h2, a2, by rw [h1]; exact a3, a4, by rw [h1]; exact a5.mv hal h2, a6, by rw [hal.findClass]; exact a7, a8, a9, by rw [h1, h2]; exact a10, by rw [h1, h2]; exact a11⟩
namespace New4
def yN : MethodName := ⟨"java/lang/String", "<init>", "([CIILjava/lang/Void;)V"⟩
abbrev yB : ByteArray := jdk_42_method_149_code
theorem d0 : decode yB 0 = .ok (.aload_n 0, 1) := by decide +kernel
theorem d1 : decode yB 1 = .ok (.invokespecial 1, 3) := by decide +kernel
theorem d4 : decode yB 4 = .ok (.iload_n 3, 1) := by decide +kernel
theorem d5 : decode yB 5 = .ok (.ifCond (.ne) 22, 3) := by decide +kernel
theorem d27 : decode yB 27 = .ok (.getstatic 38, 3) := by decide +kernel
theorem d30 : decode yB 30 = .ok (.ifCond (.eq) 28, 3) := by decide +kernel
theorem d33 : decode yB 33 = .ok (.aload_n 1, 1) := by decide +kernel
theorem d34 : decode yB 34 = .ok (.iload_n 2, 1) := by decide +kernel
theorem d35 : decode yB 35 = .ok (.iload_n 3, 1) := by decide +kernel
theorem d36 : decode yB 36 = .ok (.invokestatic 177, 3) := by decide +kernel
theorem d39 : decode yB 39 = .ok (.astore 5, 2) := by decide +kernel
theorem d41 : decode yB 41 = .ok (.aload_n 0, 1) := by decide +kernel
theorem d42 : decode yB 42 = .ok (.aload 5, 2) := by decide +kernel
theorem d44 : decode yB 44 = .ok (.iload_n 3, 1) := by decide +kernel
theorem d45 : decode yB 45 = .ok (.invokestatic 47, 3) := by decide +kernel
theorem d48 : decode yB 48 = .ok (.putfield 15, 3) := by decide +kernel
theorem d51 : decode yB 51 = .ok (.aload_n 0, 1) := by decide +kernel
theorem d52 : decode yB 52 = .ok (.aload 5, 2) := by decide +kernel
theorem d54 : decode yB 54 = .ok (.putfield 9, 3) := by decide +kernel
theorem d57 : decode yB 57 = .ok (.return_, 1) := by decide +kernel
def site : List Cond := [.fieldLink "java/lang/String" 38 "java/lang/String" "COMPACT_STRINGS" "Z", Cmp3.tab, CodL.tab, .laysFinal "java/lang/String" "java/lang/String" "value" "[B", .fieldLink "java/lang/String" 9 "java/lang/String" "value" "[B", .laysFinal "java/lang/String" "java/lang/String" "coder" "B", .fieldLink "java/lang/String" 15 "java/lang/String" "coder" "B"] ++ objW "java/lang/String" 1 ++ staticW "java/lang/String" 177 Cmp3.yN ++ staticW "java/lang/String" 47 CodL.yN
def tab : Cond := tabOf yN yB 6 none site
def P (a : Addr) (D : Cell) (fV fC : Field) (b : Addr) (A : Cell) (z : Int32) (o len : Nat) (args : Array Value) (s : State) : Prop := args = #[.ref a, .ref b, .int (Int32.ofNat o), .int (Int32.ofNat len), .null] ∧ Blank "java/lang/String" a D s ∧ Found "java/lang/String" "value" "[B" fV s ∧ Found "java/lang/String" "coder" "B" fC s ∧ Ch b A s ∧ StaticIs s "java/lang/String" "COMPACT_STRINGS" "Z" (.int z) ∧ ¬ z = 0 ∧ 0 < len ∧ o + len ≤ A.slots.size ∧ len ≤ 536870912 ∧ ∀ i, i < len → ¬ 255 < cv A (o + i)
def E (a : Addr) (D : Cell) (fV fC : Field) (A : Cell) (o len : Nat) (r : Option Value) (s u : State) : Prop := Got a D fV fC A o len r s u
/-- len > 0, no char of the range above 255: a Latin-1 String of their low bytes -/
theorem law (l : Launch) (a : Addr) (D : Cell) (fV fC : Field) (b : Addr) (A : Cell) (z : Int32) (o len : Nat) : Law l yN 5 4 2 35 yB 6 none site (P a D fV fC b A z o len) (E a D fV fC A o len) [⟨a, fC.slot⟩, ⟨a, fV.slot⟩] 1 len := by
  refine Law.of_walk (plainFor_of_name (by decide +kernel)) (by decide +kernel) (by decide +kernel) (by decide) (fun _ _ h => by rw [h.1]; rfl) (fun _ U U' hal hh h => ⟨h.1, h.2.1.mv hal hh, h.2.2.1.al hal, h.2.2.2.1.al hal, h.2.2.2.2.1.mv hal hh, h.2.2.2.2.2.1.there hal hh, h.2.2.2.2.2.2⟩) (fun r U U' V V' h1 hal h2 h => Got.mv r U U' V V' h1 hal h2 h) ?_
  intro p e s m args below meth c s₁ X0 hexec hbytes hml hret hlk hnm hown hh0 W hP
  obtain ⟨rfl, hB, f1, f2, hA, s1, hz, l0, l1, l2, hp⟩ := hP
  have a31 := hA.1.2.2.2
  have c1 : Steps p.tables e below (s₁.setTop (entryFrame m #[.ref a, .ref b, .int (Int32.ofNat o), .int (Int32.ofNat len), .null] 6)) (s₁.setTop (mkF m 0 #[.val (.ref a), .val (.ref b), .val (.int (Int32.ofNat o)), .val (.int (Int32.ofNat len)), .val .null, .unset] [])) := entry rfl
  have c2 : Steps p.tables e below (s₁.setTop (entryFrame m #[.ref a, .ref b, .int (Int32.ofNat o), .int (Int32.ofNat len), .null] 6)) (s₁.setTop (mkF m 1 #[.val (.ref a), .val (.ref b), .val (.int (Int32.ofNat o)), .val (.int (Int32.ofNat len)), .val .null, .unset] [.ref a])) := c1.trans (by
    refine XS.aloadN X0.here hexec rfl (hb hbytes d0) rfl rfl ?_
    exact Steps.refl _)
  obtain ⟨T3, X3, q3, st3⟩ := X0.oinit hexec hown (wks W (objW "java/lang/String" 1)) (g := (mkF m 1 #[.val (.ref a), .val (.ref b), .val (.int (Int32.ofNat o)), .val (.int (Int32.ofNat len)), .val .null, .unset] [.ref a])) rfl (by rw [hml]; rfl) (rest := []) rfl (hb hbytes d1) (W := 0) (by show 2 * 0 + 0 ≤ _; decide) (Nat.le_of_ble_eq_true rfl) (Nat.le_of_ble_eq_true rfl)
  have hh3 := q3.trans hh0
  have c4 : Steps p.tables e below (s₁.setTop (entryFrame m #[.ref a, .ref b, .int (Int32.ofNat o), .int (Int32.ofNat len), .null] 6)) (T3.setTop (mkF m 27 #[.val (.ref a), .val (.ref b), .val (.int (Int32.ofNat o)), .val (.int (Int32.ofNat len)), .val .null, .unset] [])) := (c2.trans (st3 _ (Steps.refl _))).trans (by
    refine XS.iloadN X3.here hexec rfl (hb hbytes d4) rfl ?_
    refine XS.ifYes X3.here hexec rfl (pc0 := 5) rfl (hb hbytes d5) rfl (i0_ne_t (nz32 (by omega) l0)) (by decide) rfl ?_
    exact Steps.refl _)
  obtain ⟨T5, X5, q5, st5⟩ := X3.sget hexec hown (wk W (.fieldLink "java/lang/String" 38 "java/lang/String" "COMPACT_STRINGS" "Z")) s1 (fun _ _ h => by rw [hh3]; exact h) (g := (mkF m 27 #[.val (.ref a), .val (.ref b), .val (.int (Int32.ofNat o)), .val (.int (Int32.ofNat len)), .val .null, .unset] [])) rfl (hb hbytes d27)
  have hh5 := q5.trans hh3
  have c6 : Steps p.tables e below (s₁.setTop (entryFrame m #[.ref a, .ref b, .int (Int32.ofNat o), .int (Int32.ofNat len), .null] 6)) (T5.setTop (mkF m 30 #[.val (.ref a), .val (.ref b), .val (.int (Int32.ofNat o)), .val (.int (Int32.ofNat len)), .val .null, .unset] [.int z])) := c4.trans (st5 _ (Steps.refl _))
  have c7 : Steps p.tables e below (s₁.setTop (entryFrame m #[.ref a, .ref b, .int (Int32.ofNat o), .int (Int32.ofNat len), .null] 6)) (T5.setTop (mkF m 36 #[.val (.ref a), .val (.ref b), .val (.int (Int32.ofNat o)), .val (.int (Int32.ofNat len)), .val .null, .unset] [.int (Int32.ofNat len), .int (Int32.ofNat o), .ref b])) := c6.trans (by
    refine XS.ifNo X5.here hexec rfl (hb hbytes d30) rfl (i0_eq_f hz) ?_
    refine XS.aloadN X5.here hexec rfl (hb hbytes d33) rfl rfl ?_
    refine XS.iloadN X5.here hexec rfl (hb hbytes d34) rfl ?_
    refine XS.iloadN X5.here hexec rfl (hb hbytes d35) rfl ?_
    exact Steps.refl _)
  obtain ⟨v8, T8, X8, E8, g8⟩ := X5.callS hexec (Cmp3.law l b A o len) hown (wks W (staticW "java/lang/String" 177 Cmp3.yN)) (wk W Cmp3.tab) (W := 0) (Nat.le_of_ble_eq_true rfl) (Nat.le_of_ble_eq_true rfl) (Nat.le_refl _) (by show 0 + len ≤ len; omega) (g := (mkF m 36 #[.val (.ref a), .val (.ref b), .val (.int (Int32.ofNat o)), .val (.int (Int32.ofNat len)), .val .null, .unset] [.int (Int32.ofNat len), .int (Int32.ofNat o), .ref b])) rfl (by rw [hml]; rfl) c7 (argsL := [.ref b, .int (Int32.ofNat o), .int (Int32.ofNat len)]) (rest := []) rfl rfl (by show 2 * 0 + 0 ≤ _; decide) (hb hbytes d36) (⟨rfl, hA.mv X5.warmed.alike hh5, l1, l2, hp⟩)
  obtain ⟨e8, z8⟩ := E8
  obtain ⟨rfl, N, n1, n2, n3, n4, n5, n6⟩ := NewArr.mv _ T5 s _ _ hh5.symm (Vm.Alike.refl _) rfl e8
  rw [hh5] at z8
  have hB1 := hB.keep X8.warmed.alike (n6 _ _ hB.1)
  have hne : s.heap.size ≠ a := (Nat.ne_of_lt (Array.getElem?_eq_some_iff.mp hB.1).1).symm
  have c9 : Steps p.tables e below (s₁.setTop (entryFrame m #[.ref a, .ref b, .int (Int32.ofNat o), .int (Int32.ofNat len), .null] 6)) (T8.setTop (mkF m 39 #[.val (.ref a), .val (.ref b), .val (.int (Int32.ofNat o)), .val (.int (Int32.ofNat len)), .val .null, .unset] [.ref s.heap.size])) := g8
  have c10 : Steps p.tables e below (s₁.setTop (entryFrame m #[.ref a, .ref b, .int (Int32.ofNat o), .int (Int32.ofNat len), .null] 6)) (T8.setTop (mkF m 45 #[.val (.ref a), .val (.ref b), .val (.int (Int32.ofNat o)), .val (.int (Int32.ofNat len)), .val .null, .val (.ref s.heap.size)] [.int (Int32.ofNat N.slots.size), .ref s.heap.size, .ref a])) := by
    have hc : Steps p.tables e below (s₁.setTop (entryFrame m #[.ref a, .ref b, .int (Int32.ofNat o), .int (Int32.ofNat len), .null] 6)) (T8.setTop (mkF m 45 #[.val (.ref a), .val (.ref b), .val (.int (Int32.ofNat o)), .val (.int (Int32.ofNat len)), .val .null, .val (.ref s.heap.size)] [.int (Int32.ofNat len), .ref s.heap.size, .ref a])) := c9.trans (by
      refine XS.astore X8.here hexec rfl (hb hbytes d39) rfl rfl rfl ?_
      refine XS.aloadN X8.here hexec rfl (hb hbytes d41) rfl rfl ?_
      refine XS.aload X8.here hexec rfl (hb hbytes d42) rfl rfl ?_
      refine XS.iloadN X8.here hexec rfl (hb hbytes d44) rfl ?_
      exact Steps.refl _)
    rw [n4]; exact hc
  obtain ⟨v11, T11, X11, E11, g11⟩ := X8.callS hexec (CodL.law l s.heap.size N) hown (wks W (staticW "java/lang/String" 47 CodL.yN)) (wk W CodL.tab) (W := 1) (Nat.le_of_ble_eq_true rfl) (Nat.le_of_ble_eq_true rfl) (Nat.le_refl _) (by show 0 + len + 0 ≤ len; omega) (g := (mkF m 45 #[.val (.ref a), .val (.ref b), .val (.int (Int32.ofNat o)), .val (.int (Int32.ofNat len)), .val .null, .val (.ref s.heap.size)] [.int (Int32.ofNat N.slots.size), .ref s.heap.size, .ref a])) rfl (by rw [hml]; rfl) c10 (argsL := [.ref s.heap.size, .int (Int32.ofNat N.slots.size)]) (rest := [.ref a]) rfl rfl (by show 2 * 0 + (1 + 0) ≤ _; decide) (hb hbytes d45) (⟨rfl, n1⟩)
  obtain ⟨rfl, q11⟩ := E11
  have hB11 := hB1.mv (X8.warmed.alike.symm.trans X11.warmed.alike) q11
  have c12 : Steps p.tables e below (s₁.setTop (entryFrame m #[.ref a, .ref b, .int (Int32.ofNat o), .int (Int32.ofNat len), .null] 6)) (T11.setTop (mkF m 48 #[.val (.ref a), .val (.ref b), .val (.int (Int32.ofNat o)), .val (.int (Int32.ofNat len)), .val .null, .val (.ref s.heap.size)] [.int 0, .ref a])) := g11
  obtain ⟨T13, X13, p13, bl13, sl13, st13⟩ := X11.finit hexec hown (wk W (.fieldLink "java/lang/String" 15 "java/lang/String" "coder" "B")) (Or.inr ⟨_, (wk W (.laysFinal "java/lang/String" "java/lang/String" "coder" "B"))⟩) (Or.inl ⟨rfl, hnm⟩) f2 (Or.inl rfl) hB11 (t := .byte) (by decide +kernel) rfl (g := (mkF m 48 #[.val (.ref a), .val (.ref b), .val (.int (Int32.ofNat o)), .val (.int (Int32.ofNat len)), .val .null, .val (.ref s.heap.size)] [.int 0, .ref a])) rfl (rest := []) rfl (hb hbytes d48)
  have c14 : Steps p.tables e below (s₁.setTop (entryFrame m #[.ref a, .ref b, .int (Int32.ofNat o), .int (Int32.ofNat len), .null] 6)) (T13.setTop (mkF m 54 #[.val (.ref a), .val (.ref b), .val (.int (Int32.ofNat o)), .val (.int (Int32.ofNat len)), .val .null, .val (.ref s.heap.size)] [.ref s.heap.size, .ref a])) := (c12.trans (st13 _ (Steps.refl _))).trans (by
    refine XS.aloadN X13.here hexec rfl (hb hbytes d51) rfl rfl ?_
    refine XS.aload X13.here hexec rfl (hb hbytes d52) rfl rfl ?_
    exact Steps.refl _)
  obtain ⟨T15, X15, p15, bl15, sl15, st15⟩ := X13.finit hexec hown (wk W (.fieldLink "java/lang/String" 9 "java/lang/String" "value" "[B")) (Or.inr ⟨_, (wk W (.laysFinal "java/lang/String" "java/lang/String" "value" "[B"))⟩) (Or.inl ⟨rfl, hnm⟩) f1 (Or.inl rfl) bl13 (t := (.array .byte)) (by decide +kernel) rfl (g := (mkF m 54 #[.val (.ref a), .val (.ref b), .val (.int (Int32.ofNat o)), .val (.int (Int32.ofNat len)), .val .null, .val (.ref s.heap.size)] [.ref s.heap.size, .ref a])) rfl (rest := []) rfl (hb hbytes d54)
  have c16 : Steps p.tables e below (s₁.setTop (entryFrame m #[.ref a, .ref b, .int (Int32.ofNat o), .int (Int32.ofNat len), .null] 6)) (T15.setTop (mkF m 57 #[.val (.ref a), .val (.ref b), .val (.int (Int32.ofNat o)), .val (.int (Int32.ofNat len)), .val .null, .val (.ref s.heap.size)] [])) := c14.trans (st15 _ (Steps.refl _))
  have ap := apart (Or.inr ⟨_, (wk W (.laysFinal "java/lang/String" "java/lang/String" "value" "[B"))⟩) (Or.inr ⟨_, (wk W (.laysFinal "java/lang/String" "java/lang/String" "coder" "B"))⟩) f1 f2 (t₁ := .array .byte) (t₂ := .byte) (by decide +kernel) (by decide +kernel) (by decide)
  have al := X8.warmed.alike.symm.trans X15.warmed.alike
  have n7 : T11.heap[s.heap.size]? = some N := by rw [q11]; exact n1.1
  exact ⟨T15, none, _, _, _, X15, by simp, rfl, by omega, (fun _ => rfl), ⟨rfl, _, N, bl15, ((Same.refl D _).set _ (by simp)).set _ (by simp), sl15, (Cell.slots_setSlot_ne _ ap).trans sl13, n1.keep al (p15.other hne (p13.other hne n7)), n2, by rw [al.findClass]; exact n3, n4, n5, fun y c h1 h2 => p15.other h1 (p13.other h1 (by rw [q11]; exact n6 y c h2)), by rw [p15.2.2, p13.2.2, q11]; exact z8⟩, fun fs hl => c16.trans (X15.returnOut hexec hret (hb hbytes d57) hl)⟩
end New4
namespace New1
def yN : MethodName := ⟨"java/lang/String", "<init>", "([C)V"⟩
abbrev yB : ByteArray := jdk_42_method_3_code
theorem d0 : decode yB 0 = .ok (.aload_n 0, 1) := by decide +kernel
theorem d1 : decode yB 1 = .ok (.aload_n 1, 1) := by decide +kernel
theorem d2 : decode yB 2 = .ok (.iconst 0, 1) := by decide +kernel
theorem d3 : decode yB 3 = .ok (.aload_n 1, 1) := by decide +kernel
theorem d4 : decode yB 4 = .ok (.arraylength, 1) := by decide +kernel
theorem d5 : decode yB 5 = .ok (.aconst_null, 1) := by decide +kernel
theorem d6 : decode yB 6 = .ok (.invokespecial 27, 3) := by decide +kernel
theorem d9 : decode yB 9 = .ok (.return_, 1) := by decide +kernel
def site : List Cond := [New4.tab] ++ initW "java/lang/String" 27 New4.yN
def tab : Cond := tabOf yN yB 2 none site
def P (a : Addr) (D : Cell) (fV fC : Field) (b : Addr) (A : Cell) (z : Int32) (args : Array Value) (s : State) : Prop := args = #[.ref a, .ref b] ∧ Blank "java/lang/String" a D s ∧ Found "java/lang/String" "value" "[B" fV s ∧ Found "java/lang/String" "coder" "B" fC s ∧ Ch b A s ∧ StaticIs s "java/lang/String" "COMPACT_STRINGS" "Z" (.int z) ∧ ¬ z = 0 ∧ 0 < A.slots.size ∧ A.slots.size ≤ 536870912 ∧ ∀ i, i < A.slots.size → ¬ 255 < cv A i
def E (a : Addr) (D : Cell) (fV fC : Field) (A : Cell) (r : Option Value) (s u : State) : Prop := Got a D fV fC A 0 A.slots.size r s u
/-- new String(chars), not empty, no char above 255: a Latin-1 String of their low bytes -/
theorem law (l : Launch) (a : Addr) (D : Cell) (fV fC : Field) (b : Addr) (A : Cell) (z : Int32) : Law l yN 2 1 3 52 yB 2 none site (P a D fV fC b A z) (E a D fV fC A) [⟨a, fC.slot⟩, ⟨a, fV.slot⟩] 1 A.slots.size := by
  refine Law.of_walk (plainFor_of_name (by decide +kernel)) (by decide +kernel) (by decide +kernel) (by decide) (fun _ _ h => by rw [h.1]; rfl) (fun _ U U' hal hh h => ⟨h.1, h.2.1.mv hal hh, h.2.2.1.al hal, h.2.2.2.1.al hal, h.2.2.2.2.1.mv hal hh, h.2.2.2.2.2.1.there hal hh, h.2.2.2.2.2.2⟩) (fun r U U' V V' h1 hal h2 h => Got.mv r U U' V V' h1 hal h2 h) ?_
  intro p e s m args below meth c s₁ X0 hexec hbytes hml hret hlk hnm hown hh0 W hP
  obtain ⟨rfl, hB, f1, f2, hA, s1, hz, l0, l2, hp⟩ := hP
  have c1 : Steps p.tables e below (s₁.setTop (entryFrame m #[.ref a, .ref b] 2)) (s₁.setTop (mkF m 0 #[.val (.ref a), .val (.ref b)] [])) := entry rfl
  have c2 : Steps p.tables e below (s₁.setTop (entryFrame m #[.ref a, .ref b] 2)) (s₁.setTop (mkF m 6 #[.val (.ref a), .val (.ref b)] [.null, .int (Int32.ofNat A.slots.size), .int 0, .ref b, .ref a])) := c1.trans (by
    refine XS.aloadN X0.here hexec rfl (hb hbytes d0) rfl rfl ?_
    refine XS.aloadN X0.here hexec rfl (hb hbytes d1) rfl rfl ?_
    refine iconstV X0.here hexec rfl 0 (hb hbytes d2) (by decide) ?_
    refine XS.aloadN X0.here hexec rfl (hb hbytes d3) rfl rfl ?_
    refine X0.alen hexec (hA.1.mv X0.warmed.alike hh0) rfl rfl (hb hbytes d4) ?_
    refine XS.aconstNull X0.here hexec rfl (hb hbytes d5) ?_
    exact Steps.refl _)
  obtain ⟨v3, T3, X3, E3, g3⟩ := X0.callN hexec (New4.law l a D fV fC b A z 0 A.slots.size) rfl hown (wks W (initW "java/lang/String" 27 New4.yN)) (W New4.tab (by simp only [site, List.mem_cons, List.mem_append, true_or, or_true])) (W := 0) (Nat.le_of_ble_eq_true rfl) (Nat.le_of_ble_eq_true rfl) (Nat.le_refl _) (by show 0 + A.slots.size ≤ A.slots.size; omega) (g := (mkF m 6 #[.val (.ref a), .val (.ref b)] [.null, .int (Int32.ofNat A.slots.size), .int (Int32.ofNat 0), .ref b, .ref a])) rfl (by rw [hml]; rfl) c2 (argsL := [.ref b, .int (Int32.ofNat 0), .int (Int32.ofNat A.slots.size), .null]) (rest := []) rfl rfl (by show 2 * 0 + 0 ≤ _; decide) (hb hbytes d6) (⟨rfl, hB.mv X0.warmed.alike hh0, f1.al X0.warmed.alike, f2.al X0.warmed.alike, hA.mv X0.warmed.alike hh0, s1.there X0.warmed.alike hh0, hz, l0, by omega, l2, fun i hi => by rw [Nat.zero_add]; exact hp i hi⟩)
  have e0 := Got.mv _ s₁ s _ _ hh0.symm (Vm.Alike.refl _) rfl E3
  obtain rfl := e0.1
  have c4 : Steps p.tables e below (s₁.setTop (entryFrame m #[.ref a, .ref b] 2)) (T3.setTop (mkF m 9 #[.val (.ref a), .val (.ref b)] [])) := g3
  exact ⟨T3, none, _, _, _, X3, by simp, rfl, by omega, (fun _ => rfl), e0, fun fs hl => c4.trans (X3.returnOut hexec hret (hb hbytes d9) hl)⟩
theorem pays {l : Launch} {R : Room} {p : Program} {e : Env} {below : List Frame} {s : State} {sargs : Array Value} {len W : Nat} (a : Addr) (D : Cell) (fV fC : Field) (b : Addr) (A : Cell) (z : Int32) (htab : tab.before sargs s = true) (hfr : 4 ≤ R.frames) (hlo : W + 65 ≤ R.locals) :
    Back l R p e below s sargs yN len W (fun A₁ a₁ => A₁.cells + 1 ≤ R.cells ∧ A₁.slots + A.slots.size ≤ R.slots ∧ P a D fV fC b A z a₁ A₁.U) (fun A₁ _ v₁ B₁ => E a D fV fC A v₁ A₁.U B₁.U ∧ B₁.locs = A₁.locs ++ [⟨a, fC.slot⟩, ⟨a, fV.slot⟩] ∧ B₁.cells = A₁.cells + 1 ∧ B₁.slots = A₁.slots + A.slots.size) :=
  (law l a D fV fC b A z).pays htab hfr (by omega)
end New1
/-- the byte, read back as charAt reads it, is the char -/
theorem lo8_mask {x : Int32} (h0 : ¬ x < 0) (h1 : ¬ 255 < x) : lo8 x &&& 255 = x := by
  have t : ∀ k : Fin 256, lo8 (Int32.ofNat k.val) &&& 255 = Int32.ofNat k.val := by decide +kernel
  rw [Int32.lt_iff_toInt_lt] at h0 h1
  have e0 : (0 : Int32).toInt = 0 := rfl
  have e1 : (255 : Int32).toInt = 255 := rfl
  obtain ⟨k, hk⟩ : ∃ k : Nat, x.toInt = k := ⟨x.toInt.toNat, by omega⟩
  have hx : x = Int32.ofNat k := Int32.toInt_inj.mp (by rw [hk, Int32.toInt_ofNat_small (by omega)])
  rw [hx]
  exact t ⟨k, by omega⟩
end StrChars
namespace StrChars.Road
open Jvm Sem ClassFile Op Lib Jvm.Stand Jvm.Free Jvm.Free.XT
open Jvm.Lib.Cold (StaticIs)
abbrev ST : String := "java/lang/String"
/-- every table word that New1's law asks, flat -/
abbrev words : List Jvm.Cond := [.code New1.yN New1.yB 2 none, .initialized ST, .methodLink ST 27 New4.yN, .instanceMethod New4.yN,
  .code New4.yN New4.yB 6 none, .fieldLink ST 38 ST "COMPACT_STRINGS" "Z", .laysFinal ST ST "value" "[B", .fieldLink ST 9 ST "value" "[B", .laysFinal ST ST "coder" "B", .fieldLink ST 15 ST "coder" "B",
  .methodLink ST 1 Lib.objectInit, .instanceMethod Lib.objectInit, .code Lib.objectInit ⟨#[0xb1]⟩ 1 none, .methodLink ST 177 Cmp3.yN, .static Cmp3.yN, .methodLink ST 47 CodL.yN, .static CodL.yN,
  .code Cmp3.yN Cmp3.yB 6 (some (.array .byte)), .initialized U16, .arrayClass .byte, .methodLink U16 115 Cmp5.yN, .static Cmp5.yN, .code Cmp5.yN Cmp5.yB 7 (some .int), .code CodL.yN CodL.yB 2 (some .byte)]
theorem tab_of {a : Array Value} {s : State} (h : ∀ w ∈ words, w.before a s = true) : New1.tab.before a s = true := by
  have h5 : Cmp5.tab.before a s = true := unparts (wk h (.code Cmp5.yN Cmp5.yB 7 (some .int))) (wks h (.initialized Cmp5.yN.cls :: Cmp5.site))
  have hc : CodL.tab.before a s = true := unparts (wk h (.code CodL.yN CodL.yB 2 (some .byte))) (wks h (.initialized CodL.yN.cls :: CodL.site))
  have q5 : ∀ w ∈ Cmp5.tab :: words, w.before a s = true := fun w hw => (List.mem_cons.mp hw).elim (fun e => e ▸ h5) (h w)
  have h3 : Cmp3.tab.before a s = true := unparts (wk q5 (.code Cmp3.yN Cmp3.yB 6 (some (.array .byte)))) (wks q5 (.initialized Cmp3.yN.cls :: Cmp3.site))
  have q3 : ∀ w ∈ Cmp3.tab :: CodL.tab :: words, w.before a s = true := fun w hw => (List.mem_cons.mp hw).elim (fun e => e ▸ h3) fun hw => (List.mem_cons.mp hw).elim (fun e => e ▸ hc) (h w)
  have h4 : New4.tab.before a s = true := unparts (wk q3 (.code New4.yN New4.yB 6 none)) (wks q3 (.initialized New4.yN.cls :: New4.site))
  have q4 : ∀ w ∈ New4.tab :: words, w.before a s = true := fun w hw => (List.mem_cons.mp hw).elim (fun e => e ▸ h4) (h w)
  exact unparts (wk q4 (.code New1.yN New1.yB 2 none)) (wks q4 (.initialized New1.yN.cls :: New1.site))
/-- the words ride from the start Z to the walk's own state -/
theorem moved {Z s : State} {a0 args : Array Value} (hZ : Z.Warmed39 s.vm) (hw : ∀ d ∈ words, d.before a0 Z = true) : ∀ d ∈ words, d.before args s = true := fun d hd => by
  have q := hw d hd
  have t : ∀ d ∈ words, d = .arrayClass .byte ∨ (d.onTables && d.keepsFace) = true := by decide +kernel
  rcases t d hd with rfl | t
  · exact RoadKit.mvA hZ q
  · exact RoadKit.mv hZ q t
/-- WHAT COMES BACK, over the tables of the start Z: h the heap at the call, h' behind it -/
def Q (Z : State) (x : Addr) (A : Cell) (h : Heap) (v : Option Value) (h' : Heap) (L : List Loc) : Prop := v = none ∧ (∀ y ∈ L, y.base = x) ∧ RoadKit.Keep h h' [x] ∧ h'.size = h.size + 1 ∧ RoadKit.Exa Z h' x ST ∧ RoadKit.Fld Z h' x ST "value" "[B" (.ref h.size) ∧ RoadKit.Fld Z h' x ST "coder" "B" (.int 0) ∧
  (∃ V : Cell, RoadKit.Arr Z h' h.size V .byte ∧ V.vm = .none ∧ Z.vm.findClass "[B" = some V.cls ∧ V.slots.size = A.slots.size ∧ ∀ j, j < A.slots.size → V.slots[j]? = some (.int (lo8 (cv A j)))) ∧
  ∀ (O n d : String) (w : Value), RoadKit.Fld Z h x O n d w → RoadKit.slotOf Z O n d ≠ RoadKit.slotOf Z ST "value" "[B" → RoadKit.slotOf Z O n d ≠ RoadKit.slotOf Z ST "coder" "B" → RoadKit.Fld Z h' x O n d w
/-- **new String(chars) AT A CALL, IN THE ROAD'S FORM**: for specialBack behind newO: x the fresh String, b the char[] with the cell A -/
theorem back {p : Program} {l : Launch} {e : Env} {R : Room} {s : State} {args : Array Value} {below : List Frame} {len W : Nat} {Z : State} {a0 : Array Value} {h : Heap} (hZ : Z.Warmed39 s.vm) (hw : ∀ d ∈ words, d.before a0 Z = true) {kI : Nat} (wi : (Jvm.Cond.instantiable ST kI).before a0 Z = true)
    {x b : Addr} {A : Cell} {z : Int32} {v0 c0 : Value} (E : RoadKit.Exa Z h x ST) (V : RoadKit.Fld Z h x ST "value" "[B" v0) (C : RoadKit.Fld Z h x ST "coder" "B" c0) (K : RoadKit.Arr Z h b A .char) (hty : Typed .char A) (S : RoadKit.Sta Z h ST "COMPACT_STRINGS" "Z" (.int z)) (hz : ¬ z = 0)
    (l0 : 0 < A.slots.size) (l2 : A.slots.size ≤ 536870912) (hp : ∀ i, i < A.slots.size → ¬ 255 < cv A i) (hfr : 4 ≤ R.frames) (hlo : W + 65 ≤ R.locals) :
    Back l R p e below s args New1.yN len W (fun P a => a = #[.ref x, .ref b] ∧ P.U.heap = h ∧ P.cells + 1 ≤ R.cells ∧ P.slots + A.slots.size ≤ R.slots)
      (fun P _ v B => ∃ L, Q Z x A h v B.U.heap L ∧ B.locs = P.locs ++ L ∧ B.cells = P.cells + 1 ∧ B.slots = P.slots + A.slots.size) := by
  intro m meth c P g ig mk a X hg hsize hdg hW hn hp'
  obtain ⟨rfl, rfl, r1, r2⟩ := hp'
  have al : Z.vm.Alike P.U.vm := hZ.alike.trans X.warmed.alike
  obtain ⟨D, cfV, kV, iV, fV, hD, gV, stV, knV, obV, asV, slV⟩ := id V
  obtain ⟨D', cfC, kC, iC, fC, hD', gC, stC, -, -, asC, slC⟩ := id C
  cases hD.symm.trans hD'
  obtain ⟨D2, kD, e1, e2, e3, e4, e5⟩ := id E
  cases hD.symm.trans e1
  obtain ⟨c2, k2, i1, i2, i3, -⟩ := Cond.instantiable_spec wi
  cases e2.symm.trans i1
  cases e3.symm.trans i2
  obtain ⟨kU, u1, u2⟩ := al.2.2 _ _ e3
  have hB : Blank ST x D P.U := ⟨hD, ⟨knV, fun q hq => by rw [hq] at obV; cases obV⟩, by rw [al.findClass]; exact e2, kU, u1, by rw [u2]; exact i3, by rw [u2]; exact e5 i3⟩
  have F1 : Found ST "value" "[B" fV P.U := ⟨SBG.found_only al ⟨cfV, kV, iV, gV⟩, stV⟩
  have F2 : Found ST "coder" "B" fC P.U := ⟨SBG.found_only al ⟨cfC, kC, iC, gC⟩, stC⟩
  have hA : Ch b A P.U := ⟨⟨K.1, State.isArrayOf_alike al K.2.1, K.2.2, by omega⟩, hty⟩
  have hS : StaticIs P.U ST "COMPACT_STRINGS" "Z" (.int z) := by
    obtain ⟨cfS, iS, kS, fS, st, cS, t1, t2, t3, t4, t5, t6, t7⟩ := S
    exact StaticIs.there (s := { Z with heap := P.U.heap }) ⟨cfS, iS, kS, fS, st, cS, t1, t2, t3, t4, t5, (fun q => by rw [q] at t6; cases t6), t7⟩ al rfl
  obtain ⟨v, B, X', ⟨⟨hv, E', V', q1, q2, q3, q4, q5, q6, q7, q8, q9, q10, q11⟩, hl, hc, hs⟩, st⟩ := New1.pays x D fV fC b A z (tab_of (moved hZ hw)) hfr hlo m meth c P g ig mk _ X hg hsize hdg hW hn ⟨r1, r2, rfl, hB, F1, F2, hA, hS, hz, l0, l2, hp⟩
  have al' : Z.vm.Alike B.U.vm := hZ.alike.trans X'.warmed.alike
  have hsz : E'.slots.size = D.slots.size := by
    obtain ⟨-, -, -, kB, w1, w2, w3⟩ := q1
    obtain ⟨kB', y1, y2⟩ := al'.2.2 _ _ e3
    rw [q2.2.1] at w1
    cases w1.symm.trans y1
    rw [w3, e5 i3, y2]
  refine ⟨v, B, X', ⟨_, ⟨hv, ?_, ⟨by omega, fun y cy hy hn' => q10 y cy (by simpa using hn') hy, fun y cy hy => ?_⟩, q11, ⟨E', _, q1.1, by rw [q2.2.1]; exact e2, by rw [q2.2.1]; exact e3, by rw [q2.1]; exact obV, fun _ => by rw [hsz]; exact e5 i3⟩,
    ⟨E', cfV, kV, iV, fV, q1.1, gV, stV, by rw [q2.1]; exact knV, by rw [q2.1]; exact obV, by rw [q2.2.1]; exact asV, q3⟩, ⟨E', cfC, kC, iC, fC, q1.1, gC, stC, by rw [q2.1]; exact knV, by rw [q2.1]; exact obV, by rw [q2.2.1]; exact asC, q4⟩,
    ⟨V', ⟨q5.1, State.isArrayOf_alike al'.symm q5.2.1, q5.2.2.1⟩, q6, by rw [← al'.findClass]; exact q7, q8, fun j hj => by have := q9 j hj; rwa [Nat.zero_add] at this⟩, fun O n d w F n1 n2 => ?_⟩, hl, hc, hs⟩, st⟩
  · intro y hy
    simp only [List.mem_cons, List.not_mem_nil, or_false] at hy
    rcases hy with rfl | rfl <;> rfl
  · by_cases q : y = x
    · subst q
      cases hD.symm.trans hy
      exact ⟨E', q1.1, q2.2.1, q2.1, hsz⟩
    · exact ⟨cy, q10 y cy q hy, rfl, rfl, rfl⟩
  · obtain ⟨D3, cf, k, i, f, g1, g2, g3, g4, g5, g6, g7⟩ := F
    cases hD.symm.trans g1
    simp only [RoadKit.slotOf, g2, gV, gC, Option.map_some, Option.getD_some] at n1 n2
    exact ⟨E', cf, k, i, f, q1.1, g2, g3, by rw [q2.1]; exact g4, by rw [q2.1]; exact g5, by rw [q2.2.1]; exact g6, by rw [q2.2.2 f.slot (by simp [n1, n2])]; exact g7⟩
end StrChars.Road
namespace StrChars.Road
open Jvm Sem ClassFile Op Lib Jvm.Stand Jvm.Free Jvm.Free.XT
/-- WHAT COMES BACK, the byte[] as a list of values -/
def QA (Z : State) (x : Addr) (zn : Int32) (cs : List Int32) (h : Heap) (v : Option Value) (h' : Heap) (L : List Loc) : Prop := v = none ∧ (∀ y ∈ L, y.base = x) ∧ RoadKit.Keep h h' [x] ∧ h'.size = h.size + 1 ∧ RoadKit.Exa Z h' x ST ∧ RoadKit.Fld Z h' x ST "value" "[B" (.ref h.size) ∧ RoadKit.Fld Z h' x ST "coder" "B" (.int 0) ∧
  (∃ kb, Z.vm.findClass "[B" = some kb ∧ RoadKit.Arv Z h' h.size kb .byte zn (cs.map fun c => .int (lo8 c)) (.int 0)) ∧
  ∀ (O n d : String) (w : Value), RoadKit.Fld Z h x O n d w → RoadKit.slotOf Z O n d ≠ RoadKit.slotOf Z ST "value" "[B" → RoadKit.slotOf Z O n d ≠ RoadKit.slotOf Z ST "coder" "B" → RoadKit.Fld Z h' x O n d w
/-- **new String(chars) AT A CALL, THE ARRAYS AS LISTS**: the char[] at b holds cs, not empty, no char above 255 -/
theorem backArv {p : Program} {l : Launch} {e : Env} {R : Room} {s : State} {args : Array Value} {below : List Frame} {len W : Nat} {Z : State} {a0 : Array Value} {h : Heap} (hZ : Z.Warmed39 s.vm) (hw : ∀ d ∈ words, d.before a0 Z = true) {kI : Nat} (wi : (Jvm.Cond.instantiable ST kI).before a0 Z = true)
    {x b : Addr} {k : ClassId} {zn z : Int32} {cs : List Int32} {dv v0 c0 : Value} (E : RoadKit.Exa Z h x ST) (V : RoadKit.Fld Z h x ST "value" "[B" v0) (C : RoadKit.Fld Z h x ST "coder" "B" c0) (K : RoadKit.Arv Z h b k .char zn (cs.map Value.int) dv) (S : RoadKit.Sta Z h ST "COMPACT_STRINGS" "Z" (.int z)) (hz : ¬ z = 0)
    (hlen : zn.toNatClampNeg = cs.length) (h0 : 0 < cs.length) (hbig : cs.length ≤ 536870912) (hall : ∀ c ∈ cs, ¬ 255 < c) (hfr : 4 ≤ R.frames) (hlo : W + 65 ≤ R.locals) :
    Back l R p e below s args New1.yN len W (fun P a => a = #[.ref x, .ref b] ∧ P.U.heap = h ∧ P.cells + 1 ≤ R.cells ∧ P.slots + cs.length ≤ R.slots)
      (fun P _ v B => ∃ L, QA Z x zn cs h v B.U.heap L ∧ B.locs = P.locs ++ L ∧ B.cells = P.cells + 1 ∧ B.slots = P.slots + cs.length) := by
  obtain ⟨A, K1, K2, K3, K4, K5, K6⟩ := K
  have e : A.slots.size = cs.length := K3.trans hlen
  have hat : ∀ (i : Nat) (hi : i < cs.length), A.slots[i]? = some (.int cs[i]) := fun i hi => by rw [K5 i (by omega)]; simp [List.getD_eq_getElem?_getD, hi]
  have hcv : ∀ (i : Nat) (hi : i < cs.length), cv A i = cs[i] := fun i hi => by unfold cv; rw [hat i hi]
  have hty : Typed .char A := fun i v hv => by
    have hi : i < A.slots.size := (Array.getElem?_eq_some_iff.mp hv).1
    have q := K5 i hi
    rw [hv] at q
    rw [Option.some.inj q]
    exact K6 i hi
  refine Back.mono (back hZ hw wi E V C K1 hty S hz (by omega) (by omega) (fun i hi => by rw [hcv i (by omega)]; exact hall _ (List.getElem_mem _)) hfr hlo) (fun P a hp => ⟨hp.1, hp.2.1, hp.2.2.1, by rw [e]; exact hp.2.2.2⟩) (fun P a v B hp hq => ?_)
  obtain ⟨L, ⟨q1, q2, q3, q4, q5, q6, q7, ⟨V', v1, v2, v3, v4, v5⟩, q9⟩, hl, hc, hs⟩ := hq
  refine ⟨L, ⟨q1, q2, q3, q4, q5, q6, q7, ⟨V'.cls, v3, V', v1, rfl, by rw [v4, e, hlen], K4, fun i hi => ?_, fun i hi => ?_⟩, q9⟩, hl, hc, by rw [hs, e]⟩
  · have hi' : i < cs.length := by omega
    rw [v5 i (by omega), hcv i hi']; simp [List.getD_eq_getElem?_getD, hi']
  · have hi' : i < cs.length := by omega
    simp only [List.getD_eq_getElem?_getD, List.getElem?_map, List.getElem?_eq_getElem hi', Option.map_some, Option.getD_some]
    exact fits_lo8 _
end StrChars.Road
namespace StrChars.Road
open Jvm Sem ClassFile Op Lib Jvm.Stand Jvm.Free Jvm.Free.XT
/-- WHAT COMES BACK, in the writer's own shape -/
def QV (Z : State) (x : Addr) (N : Int32) (bs : List Int32) (h : Heap) (n0 : Nat) (v : Option Value) (h' : Heap) (L : List Loc) : Prop := v = none ∧ RoadKit.Fr n0 L ∧ RoadKit.Keep h h' [x] ∧ RoadKit.Exa Z h' x ST ∧ RoadKit.Fld Z h' x ST "coder" "B" (.int 0) ∧
  ∃ (t : Addr) (kb : ClassId), n0 ≤ t ∧ h.size ≤ t ∧ ¬ t = x ∧ RoadKit.Fld Z h' x ST "value" "[B" (.ref t) ∧ RoadKit.Arv Z h' t kb .byte N (bs.map Value.int) (.int 0)
/-- **new String(chars) AT A CALL, FOR THE WRITER**: a char[] of n known ints, each 0 to 255 -/
theorem backV {p : Program} {l : Launch} {e : Env} {R : Room} {s : State} {args : Array Value} {below : List Frame} {len W : Nat} {Z : State} {a0 : Array Value} {h : Heap} (hZ : Z.Warmed39 s.vm) (hw : ∀ d ∈ words, d.before a0 Z = true) {kI : Nat} (wi : (Jvm.Cond.instantiable ST kI).before a0 Z = true)
    {x b : Addr} {kC : ClassId} {cs bs : List Int32} {d v0 c0 : Value} {z N : Int32} {n n0 : Nat} (hx0 : n0 ≤ x) (hh0 : n0 ≤ h.size) (E : RoadKit.Exa Z h x ST) (V : RoadKit.Fld Z h x ST "value" "[B" v0) (C : RoadKit.Fld Z h x ST "coder" "B" c0) (K : RoadKit.Arv Z h b kC .char N (cs.map Value.int) d) (S : RoadKit.Sta Z h ST "COMPACT_STRINGS" "Z" (.int z)) (hz : ¬ z = 0)
    (hn : cs.length = n) (hN : N = Int32.ofNat n) (l0 : 0 < n) (l2 : n ≤ 4000) (hp : ∀ c ∈ cs, ¬ c < 0 ∧ ¬ (255 : Int32) < c) (hb : bs = cs.map (fun c => c.toInt8.toInt32)) (hfr : 4 ≤ R.frames) (hlo : W + 65 ≤ R.locals) :
    Back l R p e below s args (⟨"java/lang/String", "<init>", "([C)V"⟩ : MethodName) len W (fun P a => a = #[.ref x, .ref b] ∧ P.U.heap = h ∧ P.cells + 1 ≤ R.cells ∧ P.slots + n ≤ R.slots)
      (fun P _ v B => ∃ L, QV Z x N bs h n0 v B.U.heap L ∧ B.locs = P.locs ++ L ∧ B.cells = P.cells + 1 ∧ B.slots = P.slots + n) := by
  subst hn hN hb
  refine Back.mono (backArv hZ hw wi E V C K S hz (n32 (by omega)) l0 (by omega) (fun c hc => (hp c hc).2) hfr hlo) (fun P a hp => hp) (fun P a v B hp hq => ?_)
  obtain ⟨L, ⟨q1, q2, q3, q4, q5, q6, q7, ⟨kb, v1, v2⟩, q9⟩, hl, hc, hs⟩ := hq
  exact ⟨L, ⟨q1, fun y hy => by rw [q2 y hy]; exact hx0, q3, q5, q7, h.size, kb, hh0, Nat.le_refl _, Nat.ne_of_gt E.lt, q6, by rw [List.map_map]; exact v2⟩, hl, hc, hs⟩
end StrChars.Road
namespace StrChars
open Jvm Sem ClassFile Op Lib Jvm.Stand Jvm.Free.XT Jvm.Free.ALB Jvm.Free.JM Jvm.Free
open Jvm.Lib.Cold (StaticIs)
def hi8 (x : Int32) : Int32 := lo8 (x >>> ((8 : Int32) &&& 31))
/-- what StringUTF16.getChar makes of two bytes -/
def pairCh (u v : Int32) : Int32 := (((u &&& 255) <<< ((0 : Int32) &&& 31)) ||| ((v &&& 255) <<< ((8 : Int32) &&& 31))).toUInt32.toUInt16.toUInt32.toInt32
theorem lo8_and (x : Int32) : (lo8 x &&& 255).toBitVec.toNat = x.toBitVec.toNat % 256 := by
  have h : (lo8 x).toBitVec = (x.toBitVec.signExtend 8).signExtend 32 := by rw [lo8, Int8.toBitVec_toInt32, Int32.toBitVec_toInt8]
  rw [Int32.toBitVec_and, BitVec.toNat_and, h]
  have e : ((x.toBitVec.signExtend 8).signExtend 32).toNat % 256 = x.toBitVec.toNat % 256 := by
    rw [BitVec.toNat_signExtend]
    have hlt := x.toBitVec.isLt
    simp only [BitVec.toNat_setWidth, BitVec.toNat_signExtend]
    split <;> split <;> omega
  rw [← e]
  exact Nat.and_two_pow_sub_one_eq_mod _ 8
theorem pair_says {c : Int32} (h0 : ¬ c < 0) (h1 : ¬ 65535 < c) : pairCh (lo8 c) (hi8 c) = c := by
  rw [Int32.lt_iff_toInt_lt] at h0 h1
  have e0 : (0 : Int32).toInt = 0 := rfl
  have e1 : (65535 : Int32).toInt = 65535 := rfl
  have hc : c.toInt = c.toBitVec.toNat := by
    have := c.toBitVec.isLt
    have e : c.toInt = c.toBitVec.toInt := rfl
    rw [e] at h0 h1
    rw [e]
    rw [BitVec.toInt_eq_toNat_cond] at h0 h1 ⊢
    split at h0 <;> split <;> omega
  have hn : c.toBitVec.toNat < 65536 := by omega
  have a1 := lo8_and c
  have a2 : (hi8 c &&& 255).toBitVec.toNat = c.toBitVec.toNat / 256 := by
    rw [hi8, lo8_and]
    have e : ((8 : Int32) &&& 31) = 8 := by decide
    rw [e, Int32.toBitVec_shiftRight]
    have e2 : ((8 : Int32).toBitVec.smod 32) = 8#32 := by decide
    rw [e2, BitVec.sshiftRight_eq', BitVec.toNat_sshiftRight_of_msb_false (by rw [BitVec.msb_eq_false_iff_two_mul_lt]; omega)]
    show c.toBitVec.toNat >>> 8 % 256 = _
    rw [Nat.shiftRight_eq_div_pow]
    omega
  unfold pairCh
  apply Int32.toBitVec_inj.mp
  apply BitVec.eq_of_toNat_eq
  have f0 : ((0 : Int32) &&& 31) = 0 := by decide
  have f8 : ((8 : Int32) &&& 31) = 8 := by decide
  rw [f0, f8]
  have g : (((lo8 c &&& 255) <<< (0 : Int32)) ||| ((hi8 c &&& 255) <<< (8 : Int32))).toBitVec.toNat = c.toBitVec.toNat := by
    rw [Int32.toBitVec_or, Int32.toBitVec_shiftLeft, Int32.toBitVec_shiftLeft]
    have s0 : ((0 : Int32).toBitVec.smod 32) = 0#32 := by decide
    have s8 : ((8 : Int32).toBitVec.smod 32) = 8#32 := by decide
    rw [s0, s8, BitVec.toNat_or]
    simp only [BitVec.shiftLeft_eq', BitVec.toNat_shiftLeft, a1, a2]
    show (c.toBitVec.toNat % 256) <<< 0 % 2 ^ 32 ||| (c.toBitVec.toNat / 256) <<< 8 % 2 ^ 32 = _
    rw [Nat.shiftLeft_zero, Nat.mod_eq_of_lt (show c.toBitVec.toNat % 256 < 2 ^ 32 by omega), Nat.mod_eq_of_lt (show (c.toBitVec.toNat / 256) <<< 8 < 2 ^ 32 by rw [Nat.shiftLeft_eq]; omega), Nat.or_comm, ← Nat.shiftLeft_add_eq_or_of_lt (by omega), Nat.shiftLeft_eq]
    omega
  show BitVec.toNat (((((lo8 c &&& 255) <<< (0 : Int32)) ||| ((hi8 c &&& 255) <<< (8 : Int32))).toBitVec.setWidth 16).setWidth 32) = _
  rw [BitVec.toNat_setWidth, BitVec.toNat_setWidth, g]
  omega
end StrChars
namespace StrChars
open Jvm Sem ClassFile Op Lib Jvm.Stand Jvm.Free.XT Jvm.Free.ALB Jvm.Free.JM Jvm.Free
open Jvm.Lib.Cold (StaticIs)
/-- the array's cell V codes the n chars f 0 .. f (n - 1) by the coder cd, as the JDK does: coder 1 just where some char is above 255 -/
def Cod (cd : Int32) (n : Nat) (f : Nat → Int32) (V : Cell) : Prop := (cd = 0 ∧ V.slots.size = n ∧ ∀ j, j < n → V.slots[j]? = some (.int (lo8 (f j))) ∧ ¬ 255 < f j) ∨ (cd = 1 ∧ V.slots.size = 2 * n ∧ (∀ j, j < n → V.slots[2 * j]? = some (.int (lo8 (f j))) ∧ V.slots[2 * j + 1]? = some (.int (hi8 (f j)))) ∧ ∃ j, j < n ∧ 255 < f j)
/-- **x is a String of the n chars f 0 .. f (n - 1)**, Latin-1 or UTF-16; its array at t has the cell V -/
def Txt (x t : Addr) (V : Cell) (cd : Int32) (n : Nat) (f : Nat → Int32) (U : State) : Prop := Exact "java/lang/String" x U ∧ Has x "java/lang/String" "value" "[B" (.ref t) U ∧ Has x "java/lang/String" "coder" "B" (.int cd) U ∧ XT.Arr .byte t V U ∧ Cod cd n f V ∧ ∀ j, j < n → ¬ f j < 0 ∧ ¬ 65535 < f j
theorem Txt.mv {x t : Addr} {V : Cell} {cd : Int32} {n : Nat} {f : Nat → Int32} {U U' : State} (h : Txt x t V cd n f U) (hal : U.vm.Alike U'.vm) (hh : U'.heap = U.heap) : Txt x t V cd n f U' := ⟨h.1.mv hal hh, h.2.1.mv hal hh, h.2.2.1.mv hal hh, h.2.2.2.1.mv hal hh, h.2.2.2.2⟩
end StrChars
namespace StrChars.Road
open Jvm Sem ClassFile Op Lib Jvm.Stand Jvm.Free Jvm.Free.XT
open Jvm.Lib.Cold (StaticIs)
theorem consq {a : Array Value} {s : State} {c : Jvm.Cond} {L : List Jvm.Cond} (h0 : c.before a s = true) (h : ∀ w ∈ L, w.before a s = true) : ∀ w ∈ c :: L, w.before a s = true := fun w hw => (List.mem_cons.mp hw).elim (fun e => e ▸ h0) (h w)
/-- the bytes of the chars cs, low before high -/
def wideBytes : List Int32 → List Value
  | [] => []
  | c :: cs => .int (lo8 c) :: .int (hi8 c) :: wideBytes cs
theorem wide_lo (d : Value) : ∀ (cs : List Int32) (j : Nat), j < cs.length → (wideBytes cs).getD (2 * j) d = .int (lo8 (cs.getD j 0))
  | [], j, h => absurd h (Nat.not_lt_zero j)
  | c :: cs, 0, _ => rfl
  | c :: cs, j + 1, h => by
    have q := wide_lo d cs j (by simpa using h)
    rw [show 2 * (j + 1) = 2 * j + 1 + 1 from by omega]
    simpa [wideBytes] using q
theorem wide_hi (d : Value) : ∀ (cs : List Int32) (j : Nat), j < cs.length → (wideBytes cs).getD (2 * j + 1) d = .int (hi8 (cs.getD j 0))
  | [], j, h => absurd h (Nat.not_lt_zero j)
  | c :: cs, 0, _ => rfl
  | c :: cs, j + 1, h => by
    have q := wide_hi d cs j (by simpa using h)
    rw [show 2 * (j + 1) + 1 = 2 * j + 1 + 1 + 1 from by omega]
    simpa [wideBytes] using q
theorem low_at (d : Value) (cs : List Int32) (j : Nat) (h : j < cs.length) : (cs.map fun c => Value.int (lo8 c)).getD j d = .int (lo8 (cs.getD j 0)) := by
  simp [List.getD_eq_getElem?_getD, h]
/-- an array of N2 bytes vs codes the chars cs by the coder cd -/
def CodA (cs : List Int32) (cd N2 : Int32) (vs : List Value) : Prop := (cd = 0 ∧ N2 = Int32.ofNat cs.length ∧ vs = (cs.map fun c => Value.int (lo8 c)) ∧ ∀ c ∈ cs, ¬ 255 < c) ∨ (cd = 1 ∧ N2 = Int32.ofNat (2 * cs.length) ∧ vs = wideBytes cs ∧ ∃ c ∈ cs, 255 < c)
theorem CodA.cod {cs : List Int32} {cd N2 : Int32} {vs : List Value} {V : Cell} (h : CodA cs cd N2 vs) (hn : 2 * cs.length < 2 ^ 31) (hs : V.slots.size = N2.toNatClampNeg) (hv : RoadKit.Has V vs (.int 0)) : Cod cd cs.length (fun j => cs.getD j 0) V := by
  rcases h with ⟨rfl, rfl, rfl, h⟩ | ⟨rfl, rfl, rfl, c, hc, hw⟩
  · rw [n32 (by omega)] at hs
    exact Or.inl ⟨rfl, hs, fun j hj => ⟨by rw [hv j (by omega), low_at _ _ _ hj], by
      have e : cs.getD j 0 = cs[j] := by simp [List.getD_eq_getElem?_getD, hj]
      show ¬ 255 < cs.getD j 0
      rw [e]; exact h _ (List.getElem_mem _)⟩⟩
  · rw [n32 (by omega)] at hs
    obtain ⟨j, hj, rfl⟩ := List.getElem_of_mem hc
    exact Or.inr ⟨rfl, hs, fun j hj => ⟨by rw [hv _ (by omega), wide_lo _ _ _ hj], by rw [hv _ (by omega), wide_hi _ _ _ hj]⟩, j, hj, by
      have e : cs.getD j 0 = cs[j] := by simp [List.getD_eq_getElem?_getD, hj]
      show 255 < cs.getD j 0
      rw [e]; exact hw⟩
/-- an object of exactly java/lang/String, its two fields found: as the laws ask it -/
theorem strObj {Z U : State} {a0 : Array Value} {kI : Nat} (wi : (Jvm.Cond.instantiable ST kI).before a0 Z = true) (al : Z.vm.Alike U.vm) {x : Addr} {v0 c0 : Value} (E : RoadKit.Exa Z U.heap x ST) (V : RoadKit.Fld Z U.heap x ST "value" "[B" v0) (C : RoadKit.Fld Z U.heap x ST "coder" "B" c0) :
    ∃ (D : Cell) (fV fC : Field), Blank ST x D U ∧ Found ST "value" "[B" fV U ∧ Found ST "coder" "B" fC U ∧ D.slots[fV.slot]? = some v0 ∧ D.slots[fC.slot]? = some c0 ∧ RoadKit.slotOf Z ST "value" "[B" = fV.slot ∧ RoadKit.slotOf Z ST "coder" "B" = fC.slot := by
  obtain ⟨D, cfV, kV, iV, fV, hD, gV, stV, knV, obV, asV, slV⟩ := V
  obtain ⟨D', cfC, kC, iC, fC, hD', gC, stC, -, -, asC, slC⟩ := C
  cases hD.symm.trans hD'
  obtain ⟨D2, kD, e1, e2, e3, e4, e5⟩ := E
  cases hD.symm.trans e1
  obtain ⟨c2, k2, i1, i2, i3, -⟩ := Cond.instantiable_spec wi
  cases e2.symm.trans i1
  cases e3.symm.trans i2
  obtain ⟨kU, u1, u2⟩ := al.2.2 _ _ e3
  exact ⟨D, fV, fC, ⟨hD, ⟨knV, fun q hq => by rw [hq] at obV; cases obV⟩, by rw [al.findClass]; exact e2, kU, u1, by rw [u2]; exact i3, by rw [u2]; exact e5 i3⟩, ⟨SBG.found_only al ⟨cfV, kV, iV, gV⟩, stV⟩, ⟨SBG.found_only al ⟨cfC, kC, iC, gC⟩, stC⟩, slV, slC, by simp [RoadKit.slotOf, gV], by simp [RoadKit.slotOf, gC]⟩
theorem sta_is {Z U : State} (al : Z.vm.Alike U.vm) {C n d : String} {v : Value} (S : RoadKit.Sta Z U.heap C n d v) : StaticIs U C n d v := by
  obtain ⟨cfS, iS, kS, fS, st, cS, t1, t2, t3, t4, t5, t6, t7⟩ := S
  exact StaticIs.there (s := { Z with heap := U.heap }) ⟨cfS, iS, kS, fS, st, cS, t1, t2, t3, t4, t5, (fun q => by rw [q] at t6; cases t6), t7⟩ al rfl
end StrChars.Road
namespace StrChars
open Jvm Sem ClassFile Op Lib Jvm.Stand Jvm.Free.XT Jvm.Free.ALB Jvm.Free.JM Jvm.Free
open Jvm.Lib.Cold (StaticIs)
/-- what place i of a byte[]'s cell holds -/
def yv (A : Cell) (i : Nat) : Int32 := match A.slots[i]? with | some (.int x) => x | _ => 0
theorem yv_get {a : Addr} {A : Cell} {U : State} (h : XT.Arr .byte a A U) (ht : Typed .byte A) {i : Nat} (hi : i < A.slots.size) : A.slots[i]? = some (.int (yv A i)) := by
  have e := Array.getElem?_eq_getElem hi
  have f := ht i _ e
  unfold yv; rw [e]
  generalize A.slots[i] = v at f
  cases v <;> simp [fits] at f ⊢
/-- the two arrays are equal, place for place -/
def EqC (A B : Cell) : Prop := A.slots.size = B.slots.size ∧ ∀ i, i < A.slots.size → yv A i = yv B i
/-- a boolean that says whether p -/
def Says01 (q : Prop) (r : Option Value) (s u : State) : Prop := ∃ v : Int32, r = some (.int v) ∧ u.heap = s.heap ∧ ((v = 1 ∧ q) ∨ (v = 0 ∧ ¬ q))
theorem Says01.mv {q : Prop} : ∀ r (U U' V V' : State), U'.heap = U.heap → V.vm.Alike V'.vm → V'.heap = V.heap → Says01 q r U V → Says01 q r U' V' :=
  fun r U U' V V' h1 _ h2 ⟨v, a, b, c⟩ => ⟨v, a, by rw [h1, h2]; exact b, c⟩
namespace LEq
def yN : MethodName := ⟨"java/lang/StringLatin1", "equals", "([B[B)Z"⟩
abbrev yB : ByteArray := jdk_43_method_13_code
theorem d0 : decode yB 0 = .ok (.aload_n 0, 1) := by decide +kernel
theorem d1 : decode yB 1 = .ok (.arraylength, 1) := by decide +kernel
theorem d2 : decode yB 2 = .ok (.aload_n 1, 1) := by decide +kernel
theorem d3 : decode yB 3 = .ok (.arraylength, 1) := by decide +kernel
theorem d4 : decode yB 4 = .ok (.if_icmp (.ne) 30, 3) := by decide +kernel
theorem d7 : decode yB 7 = .ok (.iconst 0, 1) := by decide +kernel
theorem d8 : decode yB 8 = .ok (.istore_n 2, 1) := by decide +kernel
theorem d9 : decode yB 9 = .ok (.iload_n 2, 1) := by decide +kernel
theorem d10 : decode yB 10 = .ok (.aload_n 0, 1) := by decide +kernel
theorem d11 : decode yB 11 = .ok (.arraylength, 1) := by decide +kernel
theorem d12 : decode yB 12 = .ok (.if_icmp (.ge) 20, 3) := by decide +kernel
theorem d15 : decode yB 15 = .ok (.aload_n 0, 1) := by decide +kernel
theorem d16 : decode yB 16 = .ok (.iload_n 2, 1) := by decide +kernel
theorem d17 : decode yB 17 = .ok (.baload, 1) := by decide +kernel
theorem d18 : decode yB 18 = .ok (.aload_n 1, 1) := by decide +kernel
theorem d19 : decode yB 19 = .ok (.iload_n 2, 1) := by decide +kernel
theorem d20 : decode yB 20 = .ok (.baload, 1) := by decide +kernel
theorem d21 : decode yB 21 = .ok (.if_icmp (.eq) 5, 3) := by decide +kernel
theorem d24 : decode yB 24 = .ok (.iconst 0, 1) := by decide +kernel
theorem d25 : decode yB 25 = .ok (.ireturn, 1) := by decide +kernel
theorem d26 : decode yB 26 = .ok (.iinc 2 1, 3) := by decide +kernel
theorem d29 : decode yB 29 = .ok (.goto (-20), 3) := by decide +kernel
theorem d32 : decode yB 32 = .ok (.iconst 1, 1) := by decide +kernel
theorem d33 : decode yB 33 = .ok (.ireturn, 1) := by decide +kernel
theorem d34 : decode yB 34 = .ok (.iconst 0, 1) := by decide +kernel
theorem d35 : decode yB 35 = .ok (.ireturn, 1) := by decide +kernel
def site : List Cond := []
def tab : Cond := tabOf yN yB 3 (some .boolean) site
def P (a : Addr) (A : Cell) (b : Addr) (B : Cell) (args : Array Value) (s : State) : Prop := args = #[.ref a, .ref b] ∧ XT.Arr .byte a A s ∧ Typed .byte A ∧ XT.Arr .byte b B s ∧ Typed .byte B
/-- whether two byte[] are equal, place for place -/
theorem law (l : Launch) (a : Addr) (A : Cell) (b : Addr) (B : Cell) : Law l yN 2 2 0 0 yB 3 (some .boolean) site (P a A b B) (Says01 (EqC A B)) [] 0 0 := by
  refine Law.of_walk (plainFor_of_name (by decide +kernel)) (by decide +kernel) (by decide +kernel) (by decide) (fun _ _ h => by rw [h.1]; rfl) (fun _ U U' hal hh h => ⟨h.1, h.2.1.mv hal hh, h.2.2.1, h.2.2.2.1.mv hal hh, h.2.2.2.2⟩) (fun r U U' V V' h1 hal h2 h => Says01.mv r U U' V V' h1 hal h2 h) ?_
  intro p e s m args below meth c s₁ X0 hexec hbytes hml hret hlk hnm hown hh0 W hP
  obtain ⟨rfl, hA, tA, hB, tB⟩ := hP
  have a31 := hA.2.2.2
  have b31 := hB.2.2.2
  have hA0 := hA.mv X0.warmed.alike hh0
  have hB0 := hB.mv X0.warmed.alike hh0
  have c1 : Steps p.tables e below (s₁.setTop (entryFrame m #[.ref a, .ref b] 3)) (s₁.setTop (mkF m 0 #[.val (.ref a), .val (.ref b), .unset] [])) := entry rfl
  have c2 : Steps p.tables e below (s₁.setTop (entryFrame m #[.ref a, .ref b] 3)) (s₁.setTop (mkF m 4 #[.val (.ref a), .val (.ref b), .unset] [.int (Int32.ofNat B.slots.size), .int (Int32.ofNat A.slots.size)])) := c1.trans (by
    refine XS.aloadN X0.here hexec rfl (hb hbytes d0) rfl rfl ?_
    refine X0.alen hexec hA0 rfl rfl (hb hbytes d1) ?_
    refine XS.aloadN X0.here hexec rfl (hb hbytes d2) rfl rfl ?_
    refine X0.alen hexec hB0 rfl rfl (hb hbytes d3) ?_
    exact Steps.refl _)
  by_cases hs : A.slots.size = B.slots.size
  · have c3 : Steps p.tables e below (s₁.setTop (entryFrame m #[.ref a, .ref b] 3)) (s₁.setTop (mkF m 9 #[.val (.ref a), .val (.ref b), .val (.int 0)] [])) := c2.trans (by
      refine XS.icmpNo X0.here hexec rfl (hb hbytes d4) rfl (ii_ne_f (by rw [hs])) ?_
      refine iconstV X0.here hexec rfl 0 (hb hbytes d7) (by decide) ?_
      refine XS.istoreN X0.here hexec rfl (hb hbytes d8) rfl rfl ?_
      exact Steps.refl _)
    have loop : ∀ (r i : Nat), i + r = A.slots.size → (∀ j, j < i → yv A j = yv B j) → Steps p.tables e below (s₁.setTop (entryFrame m #[.ref a, .ref b] 3)) (s₁.setTop (mkF m 9 #[.val (.ref a), .val (.ref b), .val (.int (Int32.ofNat i))] [])) → ∃ (pc : Nat) (Ls : Array Slot) (v : Int32), (pc = 25 ∨ pc = 33) ∧ ((v = 1 ∧ EqC A B) ∨ (v = 0 ∧ ¬ EqC A B)) ∧ Steps p.tables e below (s₁.setTop (entryFrame m #[.ref a, .ref b] 3)) (s₁.setTop (mkF m pc Ls [.int v])) := by
      intro r
      induction r with
      | zero =>
        intro i hi he cl
        exact ⟨33, _, 1, Or.inr rfl, Or.inl ⟨rfl, hs, fun j hj => he j (by omega)⟩, cl.trans (by
          refine XS.iloadN X0.here hexec rfl (hb hbytes d9) rfl ?_
          refine XS.aloadN X0.here hexec rfl (hb hbytes d10) rfl rfl ?_
          refine X0.alen hexec hA0 rfl rfl (hb hbytes d11) ?_
          refine XS.icmpYes X0.here hexec rfl (pc0 := 12) rfl (hb hbytes d12) rfl (ii_ge_t (nlt32 (by omega) (by omega))) (by decide) rfl ?_
          refine iconstV X0.here hexec rfl 1 (hb hbytes d32) (by decide) ?_
          exact Steps.refl _)⟩
      | succ r ih =>
        intro i hi he cl
        have c4 : Steps p.tables e below (s₁.setTop (entryFrame m #[.ref a, .ref b] 3)) (s₁.setTop (mkF m 21 #[.val (.ref a), .val (.ref b), .val (.int (Int32.ofNat i))] [.int (yv B i), .int (yv A i)])) := cl.trans (by
          refine XS.iloadN X0.here hexec rfl (hb hbytes d9) rfl ?_
          refine XS.aloadN X0.here hexec rfl (hb hbytes d10) rfl rfl ?_
          refine X0.alen hexec hA0 rfl rfl (hb hbytes d11) ?_
          refine XS.icmpNo X0.here hexec rfl (hb hbytes d12) rfl (ii_ge_f (lt32 (by omega) (by omega))) ?_
          refine XS.aloadN X0.here hexec rfl (hb hbytes d15) rfl rfl ?_
          refine XS.iloadN X0.here hexec rfl (hb hbytes d16) rfl ?_
          refine X0.aget hexec hA0 rfl (yv_get hA tA (i := i) (by omega)) rfl rfl (hb hbytes d17) ?_
          refine XS.aloadN X0.here hexec rfl (hb hbytes d18) rfl rfl ?_
          refine XS.iloadN X0.here hexec rfl (hb hbytes d19) rfl ?_
          refine X0.aget hexec hB0 rfl (yv_get hB tB (i := i) (by omega)) rfl rfl (hb hbytes d20) ?_
          exact Steps.refl _)
        by_cases hv : yv A i = yv B i
        · have c5 : Steps p.tables e below (s₁.setTop (entryFrame m #[.ref a, .ref b] 3)) (s₁.setTop (mkF m 9 #[.val (.ref a), .val (.ref b), .val (.int (Int32.ofNat i + 1))] [])) := c4.trans (by
            refine XS.icmpYes X0.here hexec rfl (pc0 := 21) rfl (hb hbytes d21) rfl (ii_eq_t hv) (by decide) rfl ?_
            refine iincV X0.here hexec rfl 1 (hb hbytes d26) (by decide) rfl rfl ?_
            refine XS.goto X0.here hexec rfl (pc0 := 29) rfl (hb hbytes d29) (by decide) rfl ?_
            exact Steps.refl _)
          rw [succ32] at c5
          exact ih (i + 1) (by omega) (fun j hj => by
            by_cases e : j = i
            · rw [e]; exact hv
            · exact he j (by omega)) c5
        · exact ⟨25, _, 0, Or.inl rfl, Or.inr ⟨rfl, fun q => hv (q.2 i (by omega))⟩, c4.trans (by
            refine XS.icmpNo X0.here hexec rfl (hb hbytes d21) rfl (ii_eq_f hv) ?_
            refine iconstV X0.here hexec rfl 0 (hb hbytes d24) (by decide) ?_
            exact Steps.refl _)⟩
    obtain ⟨pc, Ls, v, hpc, hv, cz⟩ := loop A.slots.size 0 (by omega) (fun j hj => absurd hj (Nat.not_lt_zero j)) c3
    have nv : narrow .boolean (.int v) = .int v := by rcases hv with ⟨rfl, -⟩ | ⟨rfl, -⟩ <;> rfl
    rcases hpc with rfl | rfl
    · exact ⟨s₁, some (.int v), _, _, _, X0, rfl, rfl, rfl, (fun h => by cases h), ⟨v, rfl, hh0, hv⟩, fun fs hl => cz.trans (X0.ireturnOut hexec hret nv (Or.inr (Or.inl rfl)) (hb hbytes d25) hl)⟩
    · exact ⟨s₁, some (.int v), _, _, _, X0, rfl, rfl, rfl, (fun h => by cases h), ⟨v, rfl, hh0, hv⟩, fun fs hl => cz.trans (X0.ireturnOut hexec hret nv (Or.inr (Or.inl rfl)) (hb hbytes d33) hl)⟩
  · have c3 : Steps p.tables e below (s₁.setTop (entryFrame m #[.ref a, .ref b] 3)) (s₁.setTop (mkF m 35 #[.val (.ref a), .val (.ref b), .unset] [.int 0])) := c2.trans (by
      refine XS.icmpYes X0.here hexec rfl (pc0 := 4) rfl (hb hbytes d4) rfl (ii_ne_t (ne32 a31 b31 hs)) (by decide) rfl ?_
      refine iconstV X0.here hexec rfl 0 (hb hbytes d34) (by decide) ?_
      exact Steps.refl _)
    exact ⟨s₁, some (.int 0), _, _, _, X0, rfl, rfl, rfl, (fun h => by cases h), ⟨0, rfl, hh0, Or.inr ⟨rfl, fun q => hs q.1⟩⟩, fun fs hl => c3.trans (X0.ireturnOut hexec hret rfl (Or.inr (Or.inl rfl)) (hb hbytes d35) hl)⟩
end LEq
theorem Cod.ty {cd : Int32} {n : Nat} {f : Nat → Int32} {V : Cell} (h : Cod cd n f V) : Typed .byte V := fun i v hv => by
  have hi : i < V.slots.size := (Array.getElem?_eq_some_iff.mp hv).1
  rcases h with ⟨-, k1, k2⟩ | ⟨-, k1, k2, -⟩
  · rw [(k2 i (by omega)).1] at hv; cases hv; exact fits_lo8 _
  · rcases Nat.mod_two_eq_zero_or_one i with e | e
    · obtain ⟨j, rfl⟩ : ∃ j, i = 2 * j := ⟨i / 2, by omega⟩
      rw [(k2 j (by omega)).1] at hv; cases hv; exact fits_lo8 _
    · obtain ⟨j, rfl⟩ : ∃ j, i = 2 * j + 1 := ⟨i / 2, by omega⟩
      rw [(k2 j (by omega)).2] at hv; cases hv; exact fits_lo8 _
/-- the same text -/
def SameT (n : Nat) (f : Nat → Int32) (k : Nat) (g : Nat → Int32) : Prop := n = k ∧ ∀ j, j < n → f j = g j
theorem lo8_inj {x y : Int32} (h0 : ¬ x < 0) (h1 : ¬ 255 < x) (k0 : ¬ y < 0) (k1 : ¬ 255 < y) (h : lo8 x = lo8 y) : x = y := by
  rw [← lo8_mask h0 h1, ← lo8_mask k0 k1, h]
/-- arrays coded by one coder are equal just where the texts are -/
theorem Cod.eqv {cd : Int32} {n k : Nat} {f g : Nat → Int32} {V V' : Cell} (h : Cod cd n f V) (h' : Cod cd k g V') (hf : ∀ j, j < n → ¬ f j < 0 ∧ ¬ 65535 < f j) (hg : ∀ j, j < k → ¬ g j < 0 ∧ ¬ 65535 < g j) : EqC V V' ↔ SameT n f k g := by
  have yvv : ∀ {W : Cell} {i : Nat} {x : Int32}, W.slots[i]? = some (.int x) → yv W i = x := fun q => by unfold yv; rw [q]
  rcases h with ⟨rfl, k1, k2⟩ | ⟨rfl, k1, k2, -⟩
  · rcases h' with ⟨-, m1, m2⟩ | ⟨e, -⟩
    · constructor
      · rintro ⟨e1, e2⟩
        refine ⟨by omega, fun j hj => ?_⟩
        have q := e2 j (by omega)
        rw [yvv (k2 j hj).1, yvv (m2 j (by omega)).1] at q
        exact lo8_inj (hf j hj).1 (k2 j hj).2 (hg j (by omega)).1 (m2 j (by omega)).2 q
      · rintro ⟨rfl, e2⟩
        refine ⟨by omega, fun j hj => ?_⟩
        rw [yvv (k2 j (by omega)).1, yvv (m2 j (by omega)).1, e2 j (by omega)]
    · exact absurd e (by decide)
  · rcases h' with ⟨e, -⟩ | ⟨-, m1, m2, -⟩
    · exact absurd e (by decide)
    · constructor
      · rintro ⟨e1, e2⟩
        refine ⟨by omega, fun j hj => ?_⟩
        have q1 := e2 (2 * j) (by omega)
        have q2 := e2 (2 * j + 1) (by omega)
        rw [yvv (k2 j hj).1, yvv (m2 j (by omega)).1] at q1
        rw [yvv (k2 j hj).2, yvv (m2 j (by omega)).2] at q2
        rw [← pair_says (hf j hj).1 (hf j hj).2, ← pair_says (hg j (by omega)).1 (hg j (by omega)).2, q1, q2]
      · rintro ⟨rfl, e2⟩
        refine ⟨by omega, fun i hi => ?_⟩
        rcases Nat.mod_two_eq_zero_or_one i with e | e
        · obtain ⟨j, rfl⟩ : ∃ j, i = 2 * j := ⟨i / 2, by omega⟩
          rw [yvv (k2 j (by omega)).1, yvv (m2 j (by omega)).1, e2 j (by omega)]
        · obtain ⟨j, rfl⟩ : ∃ j, i = 2 * j + 1 := ⟨i / 2, by omega⟩
          rw [yvv (k2 j (by omega)).2, yvv (m2 j (by omega)).2, e2 j (by omega)]
/-- two codings differ: so do the texts -/
theorem Cod.dif {cd cd' : Int32} {n k : Nat} {f g : Nat → Int32} {V V' : Cell} (h : Cod cd n f V) (h' : Cod cd' k g V') (hne : ¬ cd = cd') : ¬ SameT n f k g := by
  rintro ⟨rfl, e⟩
  rcases h with ⟨rfl, -, k2⟩ | ⟨rfl, -, -, j, hj, hw⟩
  · rcases h' with ⟨rfl, -⟩ | ⟨-, -, -, j, hj, hw⟩
    · exact hne rfl
    · exact (k2 j hj).2 (by rw [e j hj]; exact hw)
  · rcases h' with ⟨-, -, m2⟩ | ⟨rfl, -⟩
    · exact (m2 j hj).2 (by rw [← e j hj]; exact hw)
    · exact hne rfl
/-- an object of exactly C is an instance of C -/
theorem cinst {p : Program} {l : Launch} {e : Env} {R : Room} {s : State} {m : MethodId} {args : Array Value} {below : List Frame} {meth : Method} {c : Code} {T : State} {locs : List Loc} {cells slots : Nat} (X : Stand p l e R s m args below meth c T locs cells slots) (hexec : p.tables.exec = Jvm.exec) {own C : String} {index : Nat} (hown : s.vm.findClass own = some m.cls) (hlink : (Cond.classLink own index C).before args s = true) {a : Addr} (hE : Exact C a T)
    {g : JFrame} (hg : g.method = m) {rest : List Value} (hstack : g.stack = .ref a :: rest) (hdg : decode c.code g.pc = .ok (.instanceof index, 3)) :
    ∃ T', Stand p l e R s m args below meth c T' locs cells slots ∧ T'.heap = T.heap ∧ ∀ target, Steps p.tables e below (T'.setTop { g with pc := g.pc + 3, stack := .int 1 :: rest }) target → Steps p.tables e below (T.setTop g) target := by
  obtain ⟨cB, h1, D, h2, h3, h4⟩ := hE
  have h1' : s.vm.findClass C = some cB := by rw [← X.warmed.alike.findClass]; exact h1
  obtain ⟨vm', X', st⟩ := X.instanceofYes hexec hown hlink h2 h4 h1' (by rw [h3]; exact Jvm.Free.SB.assignable_self _ _) hg hstack hdg
  exact ⟨_, X', rfl, st⟩
theorem cself {p : Program} {l : Launch} {e : Env} {R : Room} {s : State} {m : MethodId} {args : Array Value} {below : List Frame} {meth : Method} {c : Code} {T : State} {locs : List Loc} {cells slots : Nat} (X : Stand p l e R s m args below meth c T locs cells slots) (hexec : p.tables.exec = Jvm.exec) {own C : String} {index : Nat} (hown : s.vm.findClass own = some m.cls) (hlink : (Cond.classLink own index C).before args s = true) {a : Addr} (hE : Exact C a T)
    {g : JFrame} (hg : g.method = m) {rest : List Value} (hstack : g.stack = .ref a :: rest) (hdg : decode c.code g.pc = .ok (.checkcast index, 3)) :
    ∃ T', Stand p l e R s m args below meth c T' locs cells slots ∧ T'.heap = T.heap ∧ ∀ target, Steps p.tables e below (T'.setTop { g with pc := g.pc + 3, stack := .ref a :: rest }) target → Steps p.tables e below (T.setTop g) target := by
  obtain ⟨cB, h1, D, h2, h3, h4⟩ := hE
  have h1' : s.vm.findClass C = some cB := by rw [← X.warmed.alike.findClass]; exact h1
  obtain ⟨vm', X', st⟩ := X.checkcastYes hexec hown hlink h2 h4 h1' (by rw [h3]; exact Jvm.Free.SB.assignable_self _ _) hg hstack hdg
  exact ⟨_, X', rfl, fun t h => st t (by rw [← hstack] at h; exact h)⟩
namespace SEq
def yN : MethodName := ⟨"java/lang/String", "equals", "(Ljava/lang/Object;)Z"⟩
abbrev yB : ByteArray := jdk_42_method_66_code
theorem d0 : decode yB 0 = .ok (.aload_n 0, 1) := by decide +kernel
theorem d1 : decode yB 1 = .ok (.aload_n 1, 1) := by decide +kernel
theorem d2 : decode yB 2 = .ok (.if_acmp (.ne) 5, 3) := by decide +kernel
theorem d5 : decode yB 5 = .ok (.iconst 1, 1) := by decide +kernel
theorem d6 : decode yB 6 = .ok (.ireturn, 1) := by decide +kernel
theorem d7 : decode yB 7 = .ok (.aload_n 1, 1) := by decide +kernel
theorem d8 : decode yB 8 = .ok (.instanceof 10, 3) := by decide +kernel
theorem d11 : decode yB 11 = .ok (.ifCond (.eq) 43, 3) := by decide +kernel
theorem d14 : decode yB 14 = .ok (.aload_n 1, 1) := by decide +kernel
theorem d15 : decode yB 15 = .ok (.checkcast 10, 3) := by decide +kernel
theorem d18 : decode yB 18 = .ok (.astore_n 2, 1) := by decide +kernel
theorem d19 : decode yB 19 = .ok (.getstatic 38, 3) := by decide +kernel
theorem d22 : decode yB 22 = .ok (.ifCond (.eq) 14, 3) := by decide +kernel
theorem d25 : decode yB 25 = .ok (.aload_n 0, 1) := by decide +kernel
theorem d26 : decode yB 26 = .ok (.getfield 15, 3) := by decide +kernel
theorem d29 : decode yB 29 = .ok (.aload_n 2, 1) := by decide +kernel
theorem d30 : decode yB 30 = .ok (.getfield 15, 3) := by decide +kernel
theorem d33 : decode yB 33 = .ok (.if_icmp (.ne) 21, 3) := by decide +kernel
theorem d36 : decode yB 36 = .ok (.aload_n 0, 1) := by decide +kernel
theorem d37 : decode yB 37 = .ok (.getfield 9, 3) := by decide +kernel
theorem d40 : decode yB 40 = .ok (.aload_n 2, 1) := by decide +kernel
theorem d41 : decode yB 41 = .ok (.getfield 9, 3) := by decide +kernel
theorem d44 : decode yB 44 = .ok (.invokestatic 541, 3) := by decide +kernel
theorem d47 : decode yB 47 = .ok (.ifCond (.eq) 7, 3) := by decide +kernel
theorem d50 : decode yB 50 = .ok (.iconst 1, 1) := by decide +kernel
theorem d51 : decode yB 51 = .ok (.goto 4, 3) := by decide +kernel
theorem d54 : decode yB 54 = .ok (.iconst 0, 1) := by decide +kernel
theorem d55 : decode yB 55 = .ok (.ireturn, 1) := by decide +kernel
def site : List Cond := [.classLink "java/lang/String" 10 "java/lang/String", .fieldLink "java/lang/String" 38 "java/lang/String" "COMPACT_STRINGS" "Z", .fieldLink "java/lang/String" 15 "java/lang/String" "coder" "B", .fieldLink "java/lang/String" 9 "java/lang/String" "value" "[B", LEq.tab] ++ staticW "java/lang/String" 541 LEq.yN
def tab : Cond := tabOf yN yB 3 (some .boolean) site
def P (x t : Addr) (V : Cell) (cd : Int32) (n : Nat) (f : Nat → Int32) (y t' : Addr) (V' : Cell) (cd' : Int32) (k : Nat) (g : Nat → Int32) (z : Int32) (args : Array Value) (s : State) : Prop := args = #[.ref x, .ref y] ∧ Txt x t V cd n f s ∧ Txt y t' V' cd' k g s ∧ StaticIs s "java/lang/String" "COMPACT_STRINGS" "Z" (.int z) ∧ ¬ z = 0
/-- equals(Object) of two Strings: whether the texts are the same -/
theorem law (l : Launch) (x t : Addr) (V : Cell) (cd : Int32) (n : Nat) (f : Nat → Int32) (y t' : Addr) (V' : Cell) (cd' : Int32) (k : Nat) (g : Nat → Int32) (z : Int32) : Law l yN 2 1 1 14 yB 3 (some .boolean) site (P x t V cd n f y t' V' cd' k g z) (Says01 (SameT n f k g)) [] 0 0 := by
  refine Law.of_walk (plainFor_of_name (by decide +kernel)) (by decide +kernel) (by decide +kernel) (by decide) (fun _ _ h => by rw [h.1]; rfl) (fun _ U U' hal hh h => ⟨h.1, h.2.1.mv hal hh, h.2.2.1.mv hal hh, h.2.2.2.1.there hal hh, h.2.2.2.2⟩) (fun r U U' V V' h1 hal h2 h => Says01.mv r U U' V V' h1 hal h2 h) ?_
  intro p e s m args below meth c s₁ X0 hexec hbytes hml hret hlk hnm hown hh0 W hP
  obtain ⟨rfl, hx, hy, s1, hz⟩ := hP
  have c1 : Steps p.tables e below (s₁.setTop (entryFrame m #[.ref x, .ref y] 3)) (s₁.setTop (mkF m 2 #[.val (.ref x), .val (.ref y), .unset] [.ref y, .ref x])) := Steps.trans (entry rfl) (by
    show Steps p.tables e below (s₁.setTop (mkF m 0 #[.val (.ref x), .val (.ref y), .unset] [])) _
    refine XS.aloadN X0.here hexec rfl (hb hbytes d0) rfl rfl ?_
    refine XS.aloadN X0.here hexec rfl (hb hbytes d1) rfl rfl ?_
    exact Steps.refl _)
  by_cases hxy : x = y
  · have c2 : Steps p.tables e below (s₁.setTop (entryFrame m #[.ref x, .ref y] 3)) (s₁.setTop (mkF m 6 #[.val (.ref x), .val (.ref y), .unset] [.int 1])) := c1.trans (by
      refine acmpNo X0.here hexec rfl (hb hbytes d2) rfl rfl rfl (by simp [acmp, hxy]) ?_
      refine iconstV X0.here hexec rfl 1 (hb hbytes d5) (by decide) ?_
      exact Steps.refl _)
    subst hxy
    have ec : cd = cd' := by
      obtain ⟨D, fd, a1, a2, a3⟩ := hx.2.2.1
      obtain ⟨D', fd', b1, b2, b3⟩ := hy.2.2.1
      cases a1.symm.trans b1
      obtain ⟨q1, q2, q3, q4⟩ := a2.1
      obtain ⟨r1, r2, r3, r4⟩ := b2.1
      cases q4.symm.trans r4
      cases a3.symm.trans b3; rfl
    have et : t = t' := by
      obtain ⟨D, fd, a1, a2, a3⟩ := hx.2.1
      obtain ⟨D', fd', b1, b2, b3⟩ := hy.2.1
      cases a1.symm.trans b1
      obtain ⟨q1, q2, q3, q4⟩ := a2.1
      obtain ⟨r1, r2, r3, r4⟩ := b2.1
      cases q4.symm.trans r4
      cases a3.symm.trans b3; rfl
    subst ec et
    have ev : V = V' := by cases hx.2.2.2.1.1.symm.trans hy.2.2.2.1.1; rfl
    subst ev
    have hs : SameT n f k g := (Cod.eqv hx.2.2.2.2.1 hy.2.2.2.2.1 hx.2.2.2.2.2 hy.2.2.2.2.2).mp ⟨rfl, fun _ _ => rfl⟩
    exact ⟨s₁, some (.int 1), _, _, _, X0, rfl, rfl, rfl, (fun h => by cases h), ⟨1, rfl, hh0, Or.inl ⟨rfl, hs⟩⟩, fun fs hl => c2.trans (X0.ireturnOut hexec hret rfl (Or.inr (Or.inl rfl)) (hb hbytes d6) hl)⟩
  · have c2 : Steps p.tables e below (s₁.setTop (entryFrame m #[.ref x, .ref y] 3)) (s₁.setTop (mkF m 8 #[.val (.ref x), .val (.ref y), .unset] [.ref y])) := c1.trans (by
      refine acmpYes X0.here hexec rfl (pc0 := 2) rfl (hb hbytes d2) rfl rfl rfl (by simp [acmp, hxy]) (by decide) rfl ?_
      refine XS.aloadN X0.here hexec rfl (hb hbytes d7) rfl rfl ?_
      exact Steps.refl _)
    obtain ⟨T3, X3, q3, st3⟩ := cinst X0 hexec hown (wk W (.classLink "java/lang/String" 10 "java/lang/String")) (hy.mv X0.warmed.alike hh0).1 (g := (mkF m 8 #[.val (.ref x), .val (.ref y), .unset] [.ref y])) rfl (rest := []) rfl (hb hbytes d8)
    have hh3 := q3.trans hh0
    have c4 : Steps p.tables e below (s₁.setTop (entryFrame m #[.ref x, .ref y] 3)) (T3.setTop (mkF m 15 #[.val (.ref x), .val (.ref y), .unset] [.ref y])) := (c2.trans (st3 _ (Steps.refl _))).trans (by
      refine XS.ifNo X3.here hexec rfl (hb hbytes d11) rfl (i0_eq_f (by decide)) ?_
      refine XS.aloadN X3.here hexec rfl (hb hbytes d14) rfl rfl ?_
      exact Steps.refl _)
    obtain ⟨T5, X5, q5, st5⟩ := cself X3 hexec hown (wk W (.classLink "java/lang/String" 10 "java/lang/String")) (hy.mv X3.warmed.alike hh3).1 (g := (mkF m 15 #[.val (.ref x), .val (.ref y), .unset] [.ref y])) rfl (rest := []) rfl (hb hbytes d15)
    have hh5 := q5.trans hh3
    have c6 : Steps p.tables e below (s₁.setTop (entryFrame m #[.ref x, .ref y] 3)) (T5.setTop (mkF m 19 #[.val (.ref x), .val (.ref y), .val (.ref y)] [])) := (c4.trans (st5 _ (Steps.refl _))).trans (by
      refine XS.astoreN X5.here hexec rfl (hb hbytes d18) rfl rfl rfl ?_
      exact Steps.refl _)
    obtain ⟨T7, X7, q7, st7⟩ := X5.sget hexec hown (wk W (.fieldLink "java/lang/String" 38 "java/lang/String" "COMPACT_STRINGS" "Z")) s1 (fun _ _ h => by rw [hh5]; exact h) (g := (mkF m 19 #[.val (.ref x), .val (.ref y), .val (.ref y)] [])) rfl (hb hbytes d19)
    have hh7 := q7.trans hh5
    have c8 : Steps p.tables e below (s₁.setTop (entryFrame m #[.ref x, .ref y] 3)) (T7.setTop (mkF m 26 #[.val (.ref x), .val (.ref y), .val (.ref y)] [.ref x])) := (c6.trans (st7 _ (Steps.refl _))).trans (by
      refine XS.ifNo X7.here hexec rfl (hb hbytes d22) rfl (i0_eq_f hz) ?_
      refine XS.aloadN X7.here hexec rfl (hb hbytes d25) rfl rfl ?_
      exact Steps.refl _)
    obtain ⟨T9, X9, q9, st9⟩ := X7.hget hexec hown (wk W (.fieldLink "java/lang/String" 15 "java/lang/String" "coder" "B")) (hx.mv X7.warmed.alike hh7).2.2.1 (g := (mkF m 26 #[.val (.ref x), .val (.ref y), .val (.ref y)] [.ref x])) rfl (rest := []) rfl (hb hbytes d26)
    have hh9 := q9.trans hh7
    have c10 : Steps p.tables e below (s₁.setTop (entryFrame m #[.ref x, .ref y] 3)) (T9.setTop (mkF m 30 #[.val (.ref x), .val (.ref y), .val (.ref y)] [.ref y, .int cd])) := (c8.trans (st9 _ (Steps.refl _))).trans (by
      refine XS.aloadN X9.here hexec rfl (hb hbytes d29) rfl rfl ?_
      exact Steps.refl _)
    obtain ⟨T11, X11, q11, st11⟩ := X9.hget hexec hown (wk W (.fieldLink "java/lang/String" 15 "java/lang/String" "coder" "B")) (hy.mv X9.warmed.alike hh9).2.2.1 (g := (mkF m 30 #[.val (.ref x), .val (.ref y), .val (.ref y)] [.ref y, .int cd])) rfl (rest := [.int cd]) rfl (hb hbytes d30)
    have hh11 := q11.trans hh9
    have c12 : Steps p.tables e below (s₁.setTop (entryFrame m #[.ref x, .ref y] 3)) (T11.setTop (mkF m 33 #[.val (.ref x), .val (.ref y), .val (.ref y)] [.int cd', .int cd])) := c10.trans (st11 _ (Steps.refl _))
    by_cases hcd : cd = cd'
    · subst hcd
      have c13 : Steps p.tables e below (s₁.setTop (entryFrame m #[.ref x, .ref y] 3)) (T11.setTop (mkF m 37 #[.val (.ref x), .val (.ref y), .val (.ref y)] [.ref x])) := c12.trans (by
        refine XS.icmpNo X11.here hexec rfl (hb hbytes d33) rfl (ii_ne_f rfl) ?_
        refine XS.aloadN X11.here hexec rfl (hb hbytes d36) rfl rfl ?_
        exact Steps.refl _)
      obtain ⟨T14, X14, q14, st14⟩ := X11.hget hexec hown (wk W (.fieldLink "java/lang/String" 9 "java/lang/String" "value" "[B")) (hx.mv X11.warmed.alike hh11).2.1 (g := (mkF m 37 #[.val (.ref x), .val (.ref y), .val (.ref y)] [.ref x])) rfl (rest := []) rfl (hb hbytes d37)
      have hh14 := q14.trans hh11
      have c15 : Steps p.tables e below (s₁.setTop (entryFrame m #[.ref x, .ref y] 3)) (T14.setTop (mkF m 41 #[.val (.ref x), .val (.ref y), .val (.ref y)] [.ref y, .ref t])) := (c13.trans (st14 _ (Steps.refl _))).trans (by
        refine XS.aloadN X14.here hexec rfl (hb hbytes d40) rfl rfl ?_
        exact Steps.refl _)
      obtain ⟨T16, X16, q16, st16⟩ := X14.hget hexec hown (wk W (.fieldLink "java/lang/String" 9 "java/lang/String" "value" "[B")) (hy.mv X14.warmed.alike hh14).2.1 (g := (mkF m 41 #[.val (.ref x), .val (.ref y), .val (.ref y)] [.ref y, .ref t])) rfl (rest := [.ref t]) rfl (hb hbytes d41)
      have hh16 := q16.trans hh14
      have c17 : Steps p.tables e below (s₁.setTop (entryFrame m #[.ref x, .ref y] 3)) (T16.setTop (mkF m 44 #[.val (.ref x), .val (.ref y), .val (.ref y)] [.ref t', .ref t])) := c15.trans (st16 _ (Steps.refl _))
      obtain ⟨v18, T18, X18, E18, g18⟩ := X16.callS hexec (LEq.law l t V t' V') hown (wks W (staticW "java/lang/String" 541 LEq.yN)) (wk W LEq.tab) (W := 0) (Nat.le_of_ble_eq_true rfl) (Nat.le_of_ble_eq_true rfl) (Nat.le_refl _) (Nat.le_refl _) (g := (mkF m 44 #[.val (.ref x), .val (.ref y), .val (.ref y)] [.ref t', .ref t])) rfl (by rw [hml]; rfl) c17 (argsL := [.ref t, .ref t']) (rest := []) rfl rfl (by show 2 * 0 + 0 ≤ _; decide) (hb hbytes d44) (⟨rfl, hx.2.2.2.1.mv X16.warmed.alike hh16, hx.2.2.2.2.1.ty, hy.2.2.2.1.mv X16.warmed.alike hh16, hy.2.2.2.2.1.ty⟩)
      obtain ⟨v, rfl, q18, hv⟩ := E18
      have iff := Cod.eqv hx.2.2.2.2.1 hy.2.2.2.2.1 hx.2.2.2.2.2 hy.2.2.2.2.2
      rcases hv with ⟨rfl, he⟩ | ⟨rfl, he⟩
      · have c19 : Steps p.tables e below (s₁.setTop (entryFrame m #[.ref x, .ref y] 3)) (T18.setTop (mkF m 55 #[.val (.ref x), .val (.ref y), .val (.ref y)] [.int 1])) := Steps.trans g18 (by
          refine XS.ifNo X18.here hexec rfl (hb hbytes d47) rfl (i0_eq_f (by decide)) ?_
          refine iconstV X18.here hexec rfl 1 (hb hbytes d50) (by decide) ?_
          refine XS.goto X18.here hexec rfl (pc0 := 51) rfl (hb hbytes d51) (by decide) rfl ?_
          exact Steps.refl _)
        exact ⟨T18, some (.int 1), _, _, _, X18, rfl, rfl, rfl, (fun h => by cases h), ⟨1, rfl, q18.trans hh16, Or.inl ⟨rfl, iff.mp he⟩⟩, fun fs hl => c19.trans (X18.ireturnOut hexec hret rfl (Or.inr (Or.inl rfl)) (hb hbytes d55) hl)⟩
      · have c19 : Steps p.tables e below (s₁.setTop (entryFrame m #[.ref x, .ref y] 3)) (T18.setTop (mkF m 55 #[.val (.ref x), .val (.ref y), .val (.ref y)] [.int 0])) := Steps.trans g18 (by
          refine XS.ifYes X18.here hexec rfl (pc0 := 47) rfl (hb hbytes d47) rfl (i0_eq_t rfl) (by decide) rfl ?_
          refine iconstV X18.here hexec rfl 0 (hb hbytes d54) (by decide) ?_
          exact Steps.refl _)
        exact ⟨T18, some (.int 0), _, _, _, X18, rfl, rfl, rfl, (fun h => by cases h), ⟨0, rfl, q18.trans hh16, Or.inr ⟨rfl, fun q => he (iff.mpr q)⟩⟩, fun fs hl => c19.trans (X18.ireturnOut hexec hret rfl (Or.inr (Or.inl rfl)) (hb hbytes d55) hl)⟩
    · have c13 : Steps p.tables e below (s₁.setTop (entryFrame m #[.ref x, .ref y] 3)) (T11.setTop (mkF m 55 #[.val (.ref x), .val (.ref y), .val (.ref y)] [.int 0])) := c12.trans (by
        refine XS.icmpYes X11.here hexec rfl (pc0 := 33) rfl (hb hbytes d33) rfl (ii_ne_t hcd) (by decide) rfl ?_
        refine iconstV X11.here hexec rfl 0 (hb hbytes d54) (by decide) ?_
        exact Steps.refl _)
      exact ⟨T11, some (.int 0), _, _, _, X11, rfl, rfl, rfl, (fun h => by cases h), ⟨0, rfl, hh11, Or.inr ⟨rfl, Cod.dif hx.2.2.2.2.1 hy.2.2.2.2.1 hcd⟩⟩, fun fs hl => c13.trans (X11.ireturnOut hexec hret rfl (Or.inr (Or.inl rfl)) (hb hbytes d55) hl)⟩
theorem pays {l : Launch} {R : Room} {p : Program} {e : Env} {below : List Frame} {s : State} {sargs : Array Value} {len W : Nat} (x t : Addr) (V : Cell) (cd : Int32) (n : Nat) (f : Nat → Int32) (y t' : Addr) (V' : Cell) (cd' : Int32) (k : Nat) (g : Nat → Int32) (z : Int32) (htab : tab.before sargs s = true) (hfr : 2 ≤ R.frames) (hlo : W + 28 ≤ R.locals) :
    Back l R p e below s sargs yN len W (fun A₁ a₁ => A₁.cells + 0 ≤ R.cells ∧ A₁.slots + 0 ≤ R.slots ∧ P x t V cd n f y t' V' cd' k g z a₁ A₁.U) (fun A₁ _ v₁ B₁ => Says01 (SameT n f k g) v₁ A₁.U B₁.U ∧ B₁.locs = A₁.locs ++ [] ∧ B₁.cells = A₁.cells + 0 ∧ B₁.slots = A₁.slots + 0) :=
  (law l x t V cd n f y t' V' cd' k g z).pays htab hfr (by omega)
end SEq
end StrChars
namespace StrChars.Road
open Jvm Sem ClassFile Op Lib Jvm.Stand Jvm.Free Jvm.Free.XT
open Jvm.Lib.Cold (StaticIs)
/-- the words of String.equals(Object) -/
abbrev wordsEq : List Jvm.Cond := [.code SEq.yN SEq.yB 3 (some .boolean), .initialized ST, .classLink ST 10 ST, .fieldLink ST 38 ST "COMPACT_STRINGS" "Z", .fieldLink ST 15 ST "coder" "B", .fieldLink ST 9 ST "value" "[B", .methodLink ST 541 LEq.yN, .static LEq.yN, .code LEq.yN LEq.yB 3 (some .boolean), .initialized "java/lang/StringLatin1"]
theorem tabEq_of {a : Array Value} {s : State} (h : ∀ w ∈ wordsEq, w.before a s = true) : SEq.tab.before a s = true := by
  have hl : LEq.tab.before a s = true := unparts (wk h (.code LEq.yN LEq.yB 3 (some .boolean))) (wks h (.initialized LEq.yN.cls :: LEq.site))
  have q := consq hl h
  exact unparts (wk q (.code SEq.yN SEq.yB 3 (some .boolean))) (wks q (.initialized SEq.yN.cls :: SEq.site))
theorem movedEq {Z s : State} {a0 args : Array Value} (hZ : Z.Warmed39 s.vm) (hw : ∀ d ∈ wordsEq, d.before a0 Z = true) : ∀ d ∈ wordsEq, d.before args s = true := fun d hd => by
  have t : ∀ d ∈ wordsEq, (d.onTables && d.keepsFace) = true := by decide +kernel
  exact RoadKit.mv hZ (hw d hd) (t d hd)
/-- the road's facts of a String, as the laws ask it -/
theorem txt_of {Z U : State} {a0 : Array Value} {kI : Nat} (wi : (Jvm.Cond.instantiable ST kI).before a0 Z = true) (al : Z.vm.Alike U.vm) {x t : Addr} {kb : ClassId} {cs : List Int32} {cd N2 : Int32} {vs : List Value} (E : RoadKit.Exa Z U.heap x ST) (V : RoadKit.Fld Z U.heap x ST "value" "[B" (.ref t)) (C : RoadKit.Fld Z U.heap x ST "coder" "B" (.int cd)) (K : RoadKit.Arv Z U.heap t kb .byte N2 vs (.int 0)) (hc : CodA cs cd N2 vs) (hb : ∀ c ∈ cs, ¬ c < 0 ∧ ¬ (65535 : Int32) < c) (l2 : cs.length ≤ 4000) :
    ∃ A, Txt x t A cd cs.length (fun j => cs.getD j 0) U := by
  obtain ⟨A, K1, K2, K3, K4, K5, K6⟩ := K
  have hcod := hc.cod (by omega) K3 K5
  obtain ⟨D, fV, fC, hB, F1, F2, g1, g2, -, -⟩ := strObj wi al E V C
  exact ⟨A, ⟨_, hB.2.2.1, D, hB.1, rfl, by cases q : D.vm <;> first | rfl | exact absurd q (hB.2.1.2 _)⟩, Has.of hB F1 g1, Has.of hB F2 g2, ⟨K1.1, State.isArrayOf_alike al K1.2.1, K1.2.2, by rcases hcod with ⟨-, q, -⟩ | ⟨-, q, -⟩ <;> omega⟩, hcod, fun j hj => by
    have e : cs.getD j 0 = cs[j] := by simp [List.getD_eq_getElem?_getD, hj]
    show ¬ cs.getD j 0 < 0 ∧ ¬ 65535 < cs.getD j 0
    rw [e]; exact hb _ (List.getElem_mem _)⟩
theorem same_list (cs ds : List Int32) : SameT cs.length (fun j => cs.getD j 0) ds.length (fun j => ds.getD j 0) ↔ cs = ds := by
  constructor
  · rintro ⟨e, q⟩
    refine List.ext_getElem e fun j h1 h2 => ?_
    have := q j h1
    simpa [List.getD_eq_getElem?_getD, h1, h2] using this
  · rintro rfl
    exact ⟨rfl, fun _ _ => rfl⟩
/-- **equals(Object) OF TWO SUCH STRINGS**: 1 just where the chars are the same -/
theorem eqW {p : Program} {l : Launch} {e : Env} {R : Room} {s : State} {args : Array Value} {below : List Frame} {len W : Nat} {Z : State} {a0 : Array Value} {h : Heap} (hZ : Z.Warmed39 s.vm) (hw : ∀ d ∈ wordsEq, d.before a0 Z = true) {kI : Nat} (wi : (Jvm.Cond.instantiable ST kI).before a0 Z = true)
    {x t : Addr} {kb : ClassId} {cs : List Int32} {cd N2 : Int32} {vs : List Value} (E : RoadKit.Exa Z h x ST) (V : RoadKit.Fld Z h x ST "value" "[B" (.ref t)) (C : RoadKit.Fld Z h x ST "coder" "B" (.int cd)) (K : RoadKit.Arv Z h t kb .byte N2 vs (.int 0)) (hc : CodA cs cd N2 vs) (hb : ∀ c ∈ cs, ¬ c < 0 ∧ ¬ (65535 : Int32) < c) (l2 : cs.length ≤ 4000)
    {y t' : Addr} {kb' : ClassId} {ds : List Int32} {cd' N2' : Int32} {vs' : List Value} (E' : RoadKit.Exa Z h y ST) (V' : RoadKit.Fld Z h y ST "value" "[B" (.ref t')) (C' : RoadKit.Fld Z h y ST "coder" "B" (.int cd')) (K' : RoadKit.Arv Z h t' kb' .byte N2' vs' (.int 0)) (hc' : CodA ds cd' N2' vs') (hb' : ∀ c ∈ ds, ¬ c < 0 ∧ ¬ (65535 : Int32) < c) (l2' : ds.length ≤ 4000)
    {z : Int32} (S : RoadKit.Sta Z h ST "COMPACT_STRINGS" "Z" (.int z)) (hz : ¬ z = 0) (hfr : 2 ≤ R.frames) (hlo : W + 28 ≤ R.locals) :
    Back l R p e below s args (⟨"java/lang/String", "equals", "(Ljava/lang/Object;)Z"⟩ : MethodName) len W (fun P a => a = #[.ref x, .ref y] ∧ P.U.heap = h ∧ P.cells + 0 ≤ R.cells ∧ P.slots + 0 ≤ R.slots)
      (fun P _ v B => ∃ L, (((v = some (.int 1) ∧ cs = ds) ∨ (v = some (.int 0) ∧ ¬ cs = ds)) ∧ L = [] ∧ B.U.heap = h) ∧ B.locs = P.locs ++ L ∧ B.cells = P.cells + 0 ∧ B.slots = P.slots + 0) := by
  intro m meth c P g ig mk a X hg hsize hdg hW hn hp'
  obtain ⟨rfl, rfl, r1, r2⟩ := hp'
  have al : Z.vm.Alike P.U.vm := hZ.alike.trans X.warmed.alike
  obtain ⟨A, hx⟩ := txt_of wi al E V C K hc hb l2
  obtain ⟨A', hy⟩ := txt_of wi al E' V' C' K' hc' hb' l2'
  obtain ⟨v, B, X', ⟨⟨w, hv, hh, hq⟩, hl, hk, hs⟩, st⟩ := SEq.pays x t A cd cs.length (fun j => cs.getD j 0) y t' A' cd' ds.length (fun j => ds.getD j 0) z (tabEq_of (movedEq hZ hw)) hfr hlo m meth c P g ig mk _ X hg hsize hdg hW hn ⟨r1, r2, rfl, hx, hy, sta_is al S, hz⟩
  refine ⟨v, B, X', ⟨[], ⟨?_, rfl, hh⟩, hl, hk, hs⟩, st⟩
  rcases hq with ⟨rfl, q⟩ | ⟨rfl, q⟩
  · exact Or.inl ⟨hv, (same_list cs ds).mp q⟩
  · exact Or.inr ⟨hv, fun e => q ((same_list cs ds).mpr e)⟩
end StrChars.Road
namespace StrChars.Road
open Jvm Sem ClassFile Op Lib Jvm.Stand Jvm.Free Jvm.Free.XT
open Jvm.Lib.Cold (StaticIs)
/-- what backV says of its String, as the contracts of this text ask it: cs's low bytes, coder 0 -/
theorem codOf {cs : List Int32} {n : Nat} (hn : cs.length = n) (hb : ∀ c ∈ cs, ¬ 255 < c) : CodA cs 0 (Int32.ofNat n) ((cs.map lo8).map Value.int) := Or.inl ⟨rfl, by rw [hn], by simp [List.map_map, Function.comp_def], hb⟩
end StrChars.Road
end Jvm.Pilot.@@N@@

namespace Jvm.Pilot.@@N@@
open Jvm Jvm.ClassFile Sem Op Lib Jvm.Free Jvm.Stand Jvm.LawKit Jvm.RoadKit Jvm.OwnKit Bundle Jvm.Pilot.@@N@@.Jvm.D
set_option maxRecDepth 65536
set_option maxHeartbeats 4000000
abbrev rmk (f ce sl lo : Nat) : Room := { frames := f, cells := ce, slots := sl, locals := lo }
abbrev ELs : List (String × Nat) := []
def Gl (Z : State) (a0 : Array Value) (z0 : Int32) (dA : Addr) (mA : Addr) (vA : Addr) (ds : Addr) (ms : Addr) (dv : Addr) (mv : Addr) : Prop := (∀ d ∈ tables_1, d.before a0 Z = true) ∧ EW Z a0 ELs ∧ (∀ a ∈ Bundle.stringAtoms, a.before a0 Z = true) ∧ (Sta Z Z.heap "java/lang/String" "COMPACT_STRINGS" "Z" (.int z0)) ∧ (¬ z0 = (0 : Int32)) ∧ (Sta Z Z.heap "com/example/gannet/gannet/window/Granularity" "DAY" "Lcom/example/gannet/gannet/window/Granularity;" (.ref dA)) ∧ (Sta Z Z.heap "com/example/gannet/gannet/window/Granularity" "MICROSECOND" "Lcom/example/gannet/gannet/window/Granularity;" (.ref mA)) ∧ (Sta Z Z.heap "com/example/gannet/gannet/window/Granularity" "$VALUES" "[Lcom/example/gannet/gannet/window/Granularity;" (.ref vA)) ∧ (Exa Z Z.heap dA "com/example/gannet/gannet/window/Granularity") ∧ (Exa Z Z.heap mA "com/example/gannet/gannet/window/Granularity") ∧ (Ary Z Z.heap vA (.object "com/example/gannet/gannet/window/Granularity") [(.ref dA), (.ref mA)]) ∧ (Exa Z Z.heap vA "[Lcom/example/gannet/gannet/window/Granularity;") ∧ (Fld Z Z.heap dA "com/example/gannet/gannet/window/Granularity" "spelling" "Ljava/lang/String;" (.ref ds)) ∧ (Fld Z Z.heap mA "com/example/gannet/gannet/window/Granularity" "spelling" "Ljava/lang/String;" (.ref ms)) ∧ (Exa Z Z.heap ds "java/lang/String") ∧ (Exa Z Z.heap ms "java/lang/String") ∧ (Fld Z Z.heap ds "java/lang/String" "coder" "B" (.int 0)) ∧ (Fld Z Z.heap ms "java/lang/String" "coder" "B" (.int 0)) ∧ (Fld Z Z.heap ds "java/lang/String" "value" "[B" (.ref dv)) ∧ (Fld Z Z.heap ms "java/lang/String" "value" "[B" (.ref mv)) ∧ (Ary Z Z.heap dv .byte [(.int 100), (.int 97), (.int 121)]) ∧ (Ary Z Z.heap mv .byte [(.int 109), (.int 105), (.int 99), (.int 114), (.int 111), (.int 115), (.int 101), (.int 99), (.int 111), (.int 110), (.int 100)])
theorem wq {Z : State} {a0 : Array Value} (hw : ∀ d ∈ tables_1, d.before a0 Z = true) {d : Jvm.Cond} (i : Nat) (h : tables_1[i]? = some d := by rfl) : d.before a0 Z = true := hw d (List.mem_of_getElem? h)
abbrev DC (b : ByteArray) (pc : Nat) (i : Instr) (n : Nat) : Prop := ∀ {c : Code}, c.code = b → decode c.code pc = .ok (i, n)
theorem hb' {b : ByteArray} {pc n : Nat} {i : Instr} (h : decode b pc = .ok (i, n)) : DC b pc i n := fun q => hb q h
abbrev Own (Z : State) (h0 : Heap) (sf : List Addr) : Prop := ∀ x ∈ sf, x < h0.size ∧ Z.heap.size ≤ x
variable (l : Launch) (Z : State) (a0 : Array Value) (z0 : Int32) (dA : Addr) (mA : Addr) (vA : Addr) (ds : Addr) (ms : Addr) (dv : Addr) (mv : Addr)
variable {p : Program} {e : Env} {s : State} {m : MethodId} {below : List Frame} {meth : Method} {c : Code} {T0 : State} {lo0 : List Loc}
theorem own_hws {Z : State} {a0 : Array Value} (hw : ∀ d ∈ tables_1, d.before a0 Z = true) : ∀ d ∈ StrChars.Road.words, d.before a0 Z = true := fun d hd => hw d ((by decide +kernel : ∀ d ∈ StrChars.Road.words, d ∈ tables_1) d hd)
theorem own_heq {Z : State} {a0 : Array Value} (hw : ∀ d ∈ tables_1, d.before a0 Z = true) : ∀ d ∈ StrChars.Road.wordsEq, d.before a0 Z = true := fun d hd => hw d ((by decide +kernel : ∀ d ∈ StrChars.Road.wordsEq, d ∈ tables_1) d hd)
theorem up255 {c : Int32} (h : ¬ c < 0 ∧ ¬ (255 : Int32) < c) : ¬ c < 0 ∧ ¬ (65535 : Int32) < c := by
  refine ⟨h.1, fun q => h.2 ?_⟩
  rw [Int32.lt_iff_toInt_lt] at q ⊢
  have e1 : (255 : Int32).toInt = 255 := rfl
  have e2 : (65535 : Int32).toInt = 65535 := rfl
  omega
abbrev y0 := prog_24_method_1_code
theorem d0_0 : DC y0 0 (.getstatic 10) 3 := hb' (by decide +kernel)
theorem d0_3 : DC y0 3 (.invokevirtual 14) 3 := hb' (by decide +kernel)
theorem d0_6 : DC y0 6 (.checkcast 15) 3 := hb' (by decide +kernel)
theorem d0_9 : DC y0 9 (.areturn) 1 := hb' (by decide +kernel)
theorem ef5 (m : MethodId) : entryFrame m #[] 0 = mkF m 0 #[] [] := by first | (simp [entryFrame, mkF, argsToLocals, Value.category]; done) | rfl
abbrev yn6 : MethodName := ⟨"com/example/gannet/gannet/window/Granularity", "values", "()[Lcom/example/gannet/gannet/window/Granularity;"⟩
theorem pn7 : plainName "com/example/gannet/gannet/window/Granularity" = true := by first | (simp [plainName, overriddenIn]; done) | decide +kernel
theorem rmValues (G : Gl Z a0 z0 dA mA vA ds ms dv mv) (h0 : Heap) (hZh : Ext Z.heap h0) (hsf : Own Z h0 []) :
    Ctr l Z ELs yn6 prog_24_method_1_code 0 (some (.array (.object "com/example/gannet/gannet/window/Granularity"))) [] (rmk 1 1 2 14) #[] [] h0 (fun v h fs => (∃ a : Addr, fs = [] ∧ v = some (.ref a) ∧ Ary Z h a (.object "com/example/gannet/gannet/window/Granularity") [(.ref dA), (.ref mA)] ∧ Exa Z h a "[Lcom/example/gannet/gannet/window/Granularity;")) := by
  obtain ⟨hw, hEL, wS, OS, hz0, O1, O2, O3, O4, O5, O6, O7, O8, O9, O10, O11, O12, O13, O14, O15, O16, O17⟩ := id G
  refine Ctr.intro pn7 hEL hZh hsf ?_
  intro p e s m below meth c s₁ hby hml hret hnm hlk hh K0
  refine Owe.cast (ef5 m ) ?_
  show Owe _ _ _ _ s₁ (mkF m 0 #[] [])
  refine oGetS K0 3 (wq hw 39) (O3.ext K0.old) (d0_0 hby) ?_
  intro T1 K2
  refine oClone K2 6 0 (wq hw 41) (wq hw 42) (wq hw 46) (wq hw 44) (wq hw 45) (wq hw 47) (O6.ext K2.old) (O7.ext K2.old) rfl (d0_3 hby) (by decide) nle (by decide) (by decide) nle ?_
  intro T3 h5 a6 g7 K4 E8 f9 f10
  have K11 := K4.to 1 2 [a6]
  refine oCast K11 9 (wq hw 50) (Ins.self f10) (d0_6 hby) ?_
  intro T12 K13
  exact oRetA K13 [] hret rfl rfl (d0_9 hby) (by decide) (by decide) hlk (fun x hx => by cases hx) ⟨a6, rfl, rfl, f9, f10⟩
abbrev y1 := prog_24_method_5_code
theorem d1_0 : DC y1 0 (.aload_n 0) 1 := hb' (by decide +kernel)
theorem d1_1 : DC y1 1 (.getfield 29) 3 := hb' (by decide +kernel)
theorem d1_4 : DC y1 4 (.areturn) 1 := hb' (by decide +kernel)
theorem ef12 (m : MethodId) (x0 : Addr) : entryFrame m #[(.ref x0)] 1 = mkF m 0 #[.val (.ref x0)] [] := by first | (simp [entryFrame, mkF, argsToLocals, Value.category]; done) | rfl
abbrev yn13 : MethodName := ⟨"com/example/gannet/gannet/window/Granularity", "spelling", "()Ljava/lang/String;"⟩
theorem rmSpell (G : Gl Z a0 z0 dA mA vA ds ms dv mv) (x vv : Addr) (h0 : Heap) (hZh : Ext Z.heap h0) (hsf : Own Z h0 []) (P0 : Fld Z h0 x "com/example/gannet/gannet/window/Granularity" "spelling" "Ljava/lang/String;" (.ref vv)) :
    Ctr l Z ELs yn13 prog_24_method_5_code 1 (some (.object "java/lang/String")) [] (rmk 0 0 0 0) #[(.ref x)] [] h0 (fun v h fs => (fs = [] ∧ v = some (.ref vv))) := by
  obtain ⟨hw, hEL, wS, OS, hz0, O1, O2, O3, O4, O5, O6, O7, O8, O9, O10, O11, O12, O13, O14, O15, O16, O17⟩ := id G
  refine Ctr.intro pn7 hEL hZh hsf ?_
  intro p e s m below meth c s₁ hby hml hret hnm hlk hh K0
  refine Owe.cast (ef12 m x) ?_
  show Owe _ _ _ _ s₁ (mkF m 0 #[.val (.ref x)] [])
  refine oAloadN K0 1 (d1_0 hby) rfl rfl ?_
  refine oGetF K0 4 (wq hw 68) P0 (d1_1 hby) ?_
  intro T1 K2
  exact oRetA K2 [] hret rfl rfl (d1_4 hby) (by decide) (by decide) hlk (fun x hx => by cases hx) ⟨rfl, rfl⟩
abbrev y2 := prog_27_method_2_code
theorem d2_0 : DC y2 0 (.aload_n 0) 1 := hb' (by decide +kernel)
theorem d2_1 : DC y2 1 (.astore_n 3) 1 := hb' (by decide +kernel)
theorem d2_2 : DC y2 2 (.aload_n 3) 1 := hb' (by decide +kernel)
theorem d2_3 : DC y2 3 (.arraylength) 1 := hb' (by decide +kernel)
theorem d2_4 : DC y2 4 (.istore 4) 2 := hb' (by decide +kernel)
theorem d2_6 : DC y2 6 (.iconst 0) 1 := hb' (by decide +kernel)
theorem d2_7 : DC y2 7 (.istore 5) 2 := hb' (by decide +kernel)
theorem d2_9 : DC y2 9 (.iload 5) 2 := hb' (by decide +kernel)
theorem d2_11 : DC y2 11 (.iload 4) 2 := hb' (by decide +kernel)
theorem d2_13 : DC y2 13 (.if_icmp .ge 32) 3 := hb' (by decide +kernel)
theorem d2_16 : DC y2 16 (.aload_n 3) 1 := hb' (by decide +kernel)
theorem d2_17 : DC y2 17 (.iload 5) 2 := hb' (by decide +kernel)
theorem d2_19 : DC y2 19 (.aaload) 1 := hb' (by decide +kernel)
theorem d2_20 : DC y2 20 (.astore 6) 2 := hb' (by decide +kernel)
theorem d2_22 : DC y2 22 (.aload 6) 2 := hb' (by decide +kernel)
theorem d2_24 : DC y2 24 (.invokeinterface 1 1) 5 := hb' (by decide +kernel)
theorem pd31 : parseMethodDescriptor "()Ljava/lang/String;" = some ⟨[], some (.object "java/lang/String")⟩ := by decide +kernel
theorem d2_29 : DC y2 29 (.aload_n 1) 1 := hb' (by decide +kernel)
theorem d2_30 : DC y2 30 (.invokevirtual 7) 3 := hb' (by decide +kernel)
abbrev cs34 : List Int32 := [(100 : Int32), (97 : Int32), (121 : Int32)]
theorem kb34 : (cs34.map StrChars.lo8).map Value.int = [(.int 100), (.int 97), (.int 121)] := by decide +kernel
theorem kp34 : ∀ c ∈ cs34, ¬ c < 0 ∧ ¬ (255 : Int32) < c := by decide +kernel
theorem pd35 : parseMethodDescriptor "(Ljava/lang/Object;)Z" = some ⟨[(.object "java/lang/Object")], some .boolean⟩ := by decide +kernel
theorem d2_33 : DC y2 33 (.ifCond .eq 6) 3 := hb' (by decide +kernel)
theorem d2_36 : DC y2 36 (.aload 6) 2 := hb' (by decide +kernel)
theorem d2_38 : DC y2 38 (.areturn) 1 := hb' (by decide +kernel)
theorem ef39 (m : MethodId) (x0 : Addr) (x1 : Addr) (x2 : Addr) : entryFrame m #[(.ref x0), (.ref x1), (.ref x2)] 7 = mkF m 0 #[.val (.ref x0), .val (.ref x1), .val (.ref x2), .unset, .unset, .unset, .unset] [] := by first | (simp [entryFrame, mkF, argsToLocals, Value.category]; done) | rfl
abbrev yn40 : MethodName := ⟨"com/example/gannet/gannet/window/Spelled", "named", "([Lcom/example/gannet/gannet/window/Spelled;Ljava/lang/String;Ljava/lang/String;)Lcom/example/gannet/gannet/window/Spelled;"⟩
theorem pn41 : plainName "com/example/gannet/gannet/window/Spelled" = true := by first | (simp [plainName, overriddenIn]; done) | decide +kernel
theorem rmSNd (G : Gl Z a0 z0 dA mA vA ds ms dv mv) (a x t u : Addr) (h0 : Heap) (hZh : Ext Z.heap h0) (hsf : Own Z h0 []) (P0 : Ary Z h0 a (.object "com/example/gannet/gannet/window/Granularity") [(.ref dA), (.ref mA)]) (P1 : Exa Z h0 x "java/lang/String") (P2 : Fld Z h0 x "java/lang/String" "coder" "B" (.int 0)) (P3 : Fld Z h0 x "java/lang/String" "value" "[B" (.ref t)) (P4 : Ary Z h0 t .byte [(.int 100), (.int 97), (.int 121)]) :
    Ctr l Z ELs yn40 prog_27_method_2_code 7 (some (.object "com/example/gannet/gannet/window/Spelled")) [] (rmk 2 0 0 28) #[(.ref a), (.ref x), (.ref u)] [] h0 (fun v h fs => (fs = [] ∧ v = some (.ref dA))) := by
  obtain ⟨hw, hEL, wS, OS, hz0, O1, O2, O3, O4, O5, O6, O7, O8, O9, O10, O11, O12, O13, O14, O15, O16, O17⟩ := id G
  refine Ctr.intro pn41 hEL hZh hsf ?_
  intro p e s m below meth c s₁ hby hml hret hnm hlk hh K0
  refine Owe.cast (ef39 m a x u) ?_
  show Owe _ _ _ _ s₁ (mkF m 0 #[.val (.ref a), .val (.ref x), .val (.ref u), .unset, .unset, .unset, .unset] [])
  refine oAloadN K0 1 (d2_0 hby) rfl rfl ?_
  refine oAstoreN K0 2 (d2_1 hby) rfl (l' := #[.val (.ref a), .val (.ref x), .val (.ref u), .val (.ref a), .unset, .unset, .unset]) rfl ?_
  refine oAloadN K0 3 (d2_2 hby) rfl rfl ?_
  refine oLen K0 4 P0 (n := (2 : Int32)) (by first | rfl | decide) (d2_3 hby) ?_
  refine oIstore K0 6 (d2_4 hby) (l' := #[.val (.ref a), .val (.ref x), .val (.ref u), .val (.ref a), .val (.int 2), .unset, .unset]) rfl ?_
  refine oIconstV K0 7 (0 : Int32) (d2_6 hby) rfl ?_
  refine oIstore K0 9 (d2_7 hby) (l' := #[.val (.ref a), .val (.ref x), .val (.ref u), .val (.ref a), .val (.int 2), .val (.int 0), .unset]) rfl ?_
  refine oIload K0 11 (d2_9 hby) rfl ?_
  refine oIload K0 13 (d2_11 hby) rfl ?_
  refine oIcmpNo K0 16 (d2_13 hby) (XT.ii_ge_f (by decide)) ?_
  refine oAloadN K0 17 (d2_16 hby) rfl rfl ?_
  refine oIload K0 19 (d2_17 hby) rfl ?_
  refine oAaload K0 20 P0 rfl 0 (by decide) (by decide) rfl (d2_19 hby) ?_
  refine oAstore K0 22 (d2_20 hby) rfl (l' := #[.val (.ref a), .val (.ref x), .val (.ref u), .val (.ref a), .val (.int 2), .val (.int 0), .val (.ref dA)]) rfl ?_
  refine oAload K0 24 (d2_22 hby) rfl rfl ?_
  refine oIface K0 29 0 (wq hw 59) (wq hw 60) (wq hw 61) (wq hw 62) (wq hw 63) (wq hw 64) (wq hw 65) (wq hw 66) (wq hw 31) (wq hw 67) (O4.ext K0.old) (rmSpell l Z a0 z0 dA mA vA ds ms dv mv G dA ds h0 K0.old K0.both (O8.ext K0.old)) [] [] (lenOf pd31 rfl) (d2_24 hby) ?_
  intro T1 h3 v4 lo5 fs6 K2 Kp7 q8
  obtain ⟨rfl, rfl⟩ := q8
  have K9 := K2.to 0 0 []
  refine Owe.stk [(.ref ds)] ?_
  refine oAloadN K9 30 (d2_29 hby) rfl rfl ?_
  obtain ⟨kc10, Kc11⟩ := Ary.arv (O16.ext K9.old) (.int 0) (n := Int32.ofNat 3) rfl
  have Kc11 : Arv Z h3 dv kc10 .byte (Int32.ofNat 3) ((cs34.map StrChars.lo8).map Value.int) (.int 0) := by rw [kb34]; exact Kc11
  obtain ⟨kc12, Kc13⟩ := Ary.arv (P4.keep Kp7 nin0) (.int 0) (n := Int32.ofNat 3) rfl
  have Kc13 : Arv Z h3 t kc12 .byte (Int32.ofNat 3) ((cs34.map StrChars.lo8).map Value.int) (.int 0) := by rw [kb34]; exact Kc13
  refine oVirtualN K9 33 0 (fun v h' L => ((v = some (.int 1) ∧ cs34 = cs34) ∨ (v = some (.int 0) ∧ ¬ cs34 = cs34)) ∧ L = [] ∧ h' = h3) (wq hw 70) (wq hw 71) (nfSel (wq hw 73)) (wq hw 73) (wq hw 72) (O10.ext K9.old)
    (fun s' hZ' => StrChars.Road.eqW (W := 0) hZ' (own_heq hw) (kI := 4) (wq hw 2) (O10.ext K9.old) (O14.ext K9.old) (O12.ext K9.old) Kc11 (StrChars.Road.codOf (cs := cs34) (n := 3) rfl (fun c hc => (kp34 c hc).2)) (fun c hc => up255 (kp34 c hc)) (by decide) (P1.keep Kp7) (P3.keep Kp7 nin0) (P2.keep Kp7 nin0) Kc13 (StrChars.Road.codOf (cs := cs34) (n := 3) rfl (fun c hc => (kp34 c hc).2)) (fun c hc => up255 (kp34 c hc)) (by decide) (OS.ext K9.old) hz0 (by decide) (by decide))
    (ws := []) (fun v h' L q => by obtain ⟨-, rfl, rfl⟩ := q; exact ⟨Fr.nil _, Keep.refl _ _⟩) [(.ref x)] [] (lenOf pd35 rfl) (d2_30 hby) ?_
  intro T14 h16 v17 lo18 L19 K15 Kp20 q21
  obtain ⟨q21, rfl, hh2⟩ := q21
  subst h16
  obtain rfl : v17 = some (.int (1 : Int32)) := by rcases q21 with ⟨rfl, q⟩ | ⟨rfl, q⟩; exact rfl; exact absurd rfl q
  have K22 := K15.to 0 0 []
  refine Owe.stk [(.int 1)] ?_
  refine oIfNo K22 36 (d2_33 hby) (XT.i0_eq_f (by decide)) ?_
  refine oAload K22 38 (d2_36 hby) rfl rfl ?_
  exact oRetA K22 [] hret rfl rfl (d2_38 hby) (by decide) (by decide) hlk (fun x hx => by cases hx) ⟨rfl, rfl⟩
abbrev cs42 : List Int32 := [(109 : Int32), (105 : Int32), (99 : Int32), (114 : Int32), (111 : Int32), (115 : Int32), (101 : Int32), (99 : Int32), (111 : Int32), (110 : Int32), (100 : Int32)]
theorem kb42 : (cs42.map StrChars.lo8).map Value.int = [(.int 109), (.int 105), (.int 99), (.int 114), (.int 111), (.int 115), (.int 101), (.int 99), (.int 111), (.int 110), (.int 100)] := by decide +kernel
theorem kp42 : ∀ c ∈ cs42, ¬ c < 0 ∧ ¬ (255 : Int32) < c := by decide +kernel
theorem d2_39 : DC y2 39 (.iinc 5 1) 3 := hb' (by decide +kernel)
theorem d2_42 : DC y2 42 (.goto (-33)) 3 := hb' (by decide +kernel)
theorem rmSNm (G : Gl Z a0 z0 dA mA vA ds ms dv mv) (a x t u : Addr) (h0 : Heap) (hZh : Ext Z.heap h0) (hsf : Own Z h0 []) (P0 : Ary Z h0 a (.object "com/example/gannet/gannet/window/Granularity") [(.ref dA), (.ref mA)]) (P1 : Exa Z h0 x "java/lang/String") (P2 : Fld Z h0 x "java/lang/String" "coder" "B" (.int 0)) (P3 : Fld Z h0 x "java/lang/String" "value" "[B" (.ref t)) (P4 : Ary Z h0 t .byte [(.int 109), (.int 105), (.int 99), (.int 114), (.int 111), (.int 115), (.int 101), (.int 99), (.int 111), (.int 110), (.int 100)]) :
    Ctr l Z ELs yn40 prog_27_method_2_code 7 (some (.object "com/example/gannet/gannet/window/Spelled")) [] (rmk 2 0 0 28) #[(.ref a), (.ref x), (.ref u)] [] h0 (fun v h fs => (fs = [] ∧ v = some (.ref mA))) := by
  obtain ⟨hw, hEL, wS, OS, hz0, O1, O2, O3, O4, O5, O6, O7, O8, O9, O10, O11, O12, O13, O14, O15, O16, O17⟩ := id G
  refine Ctr.intro pn41 hEL hZh hsf ?_
  intro p e s m below meth c s₁ hby hml hret hnm hlk hh K0
  refine Owe.cast (ef39 m a x u) ?_
  show Owe _ _ _ _ s₁ (mkF m 0 #[.val (.ref a), .val (.ref x), .val (.ref u), .unset, .unset, .unset, .unset] [])
  refine oAloadN K0 1 (d2_0 hby) rfl rfl ?_
  refine oAstoreN K0 2 (d2_1 hby) rfl (l' := #[.val (.ref a), .val (.ref x), .val (.ref u), .val (.ref a), .unset, .unset, .unset]) rfl ?_
  refine oAloadN K0 3 (d2_2 hby) rfl rfl ?_
  refine oLen K0 4 P0 (n := (2 : Int32)) (by first | rfl | decide) (d2_3 hby) ?_
  refine oIstore K0 6 (d2_4 hby) (l' := #[.val (.ref a), .val (.ref x), .val (.ref u), .val (.ref a), .val (.int 2), .unset, .unset]) rfl ?_
  refine oIconstV K0 7 (0 : Int32) (d2_6 hby) rfl ?_
  refine oIstore K0 9 (d2_7 hby) (l' := #[.val (.ref a), .val (.ref x), .val (.ref u), .val (.ref a), .val (.int 2), .val (.int 0), .unset]) rfl ?_
  refine oIload K0 11 (d2_9 hby) rfl ?_
  refine oIload K0 13 (d2_11 hby) rfl ?_
  refine oIcmpNo K0 16 (d2_13 hby) (XT.ii_ge_f (by decide)) ?_
  refine oAloadN K0 17 (d2_16 hby) rfl rfl ?_
  refine oIload K0 19 (d2_17 hby) rfl ?_
  refine oAaload K0 20 P0 rfl 0 (by decide) (by decide) rfl (d2_19 hby) ?_
  refine oAstore K0 22 (d2_20 hby) rfl (l' := #[.val (.ref a), .val (.ref x), .val (.ref u), .val (.ref a), .val (.int 2), .val (.int 0), .val (.ref dA)]) rfl ?_
  refine oAload K0 24 (d2_22 hby) rfl rfl ?_
  refine oIface K0 29 0 (wq hw 59) (wq hw 60) (wq hw 61) (wq hw 62) (wq hw 63) (wq hw 64) (wq hw 65) (wq hw 66) (wq hw 31) (wq hw 67) (O4.ext K0.old) (rmSpell l Z a0 z0 dA mA vA ds ms dv mv G dA ds h0 K0.old K0.both (O8.ext K0.old)) [] [] (lenOf pd31 rfl) (d2_24 hby) ?_
  intro T1 h3 v4 lo5 fs6 K2 Kp7 q8
  obtain ⟨rfl, rfl⟩ := q8
  have K9 := K2.to 0 0 []
  refine Owe.stk [(.ref ds)] ?_
  refine oAloadN K9 30 (d2_29 hby) rfl rfl ?_
  obtain ⟨kc10, Kc11⟩ := Ary.arv (O16.ext K9.old) (.int 0) (n := Int32.ofNat 3) rfl
  have Kc11 : Arv Z h3 dv kc10 .byte (Int32.ofNat 3) ((cs34.map StrChars.lo8).map Value.int) (.int 0) := by rw [kb34]; exact Kc11
  obtain ⟨kc12, Kc13⟩ := Ary.arv (P4.keep Kp7 nin0) (.int 0) (n := Int32.ofNat 11) rfl
  have Kc13 : Arv Z h3 t kc12 .byte (Int32.ofNat 11) ((cs42.map StrChars.lo8).map Value.int) (.int 0) := by rw [kb42]; exact Kc13
  refine oVirtualN K9 33 0 (fun v h' L => ((v = some (.int 1) ∧ cs34 = cs42) ∨ (v = some (.int 0) ∧ ¬ cs34 = cs42)) ∧ L = [] ∧ h' = h3) (wq hw 70) (wq hw 71) (nfSel (wq hw 73)) (wq hw 73) (wq hw 72) (O10.ext K9.old)
    (fun s' hZ' => StrChars.Road.eqW (W := 0) hZ' (own_heq hw) (kI := 4) (wq hw 2) (O10.ext K9.old) (O14.ext K9.old) (O12.ext K9.old) Kc11 (StrChars.Road.codOf (cs := cs34) (n := 3) rfl (fun c hc => (kp34 c hc).2)) (fun c hc => up255 (kp34 c hc)) (by decide) (P1.keep Kp7) (P3.keep Kp7 nin0) (P2.keep Kp7 nin0) Kc13 (StrChars.Road.codOf (cs := cs42) (n := 11) rfl (fun c hc => (kp42 c hc).2)) (fun c hc => up255 (kp42 c hc)) (by decide) (OS.ext K9.old) hz0 (by decide) (by decide))
    (ws := []) (fun v h' L q => by obtain ⟨-, rfl, rfl⟩ := q; exact ⟨Fr.nil _, Keep.refl _ _⟩) [(.ref x)] [] (lenOf pd35 rfl) (d2_30 hby) ?_
  intro T14 h16 v17 lo18 L19 K15 Kp20 q21
  obtain ⟨q21, rfl, hh2⟩ := q21
  subst h16
  obtain rfl : v17 = some (.int (0 : Int32)) := by rcases q21 with ⟨rfl, q⟩ | ⟨rfl, q⟩; exact absurd q (by decide +kernel); exact rfl
  have K22 := K15.to 0 0 []
  refine Owe.stk [(.int 0)] ?_
  refine oIfYes K22 39 (d2_33 hby) (XT.i0_eq_t (by decide)) ?_
  refine oIinc K22 42 (d2_39 hby) rfl (l' := #[.val (.ref a), .val (.ref x), .val (.ref u), .val (.ref a), .val (.int 2), .val (.int 1), .val (.ref dA)]) rfl ?_
  refine oGoto K22 9 (d2_42 hby) ?_
  refine oIload K22 11 (d2_9 hby) rfl ?_
  refine oIload K22 13 (d2_11 hby) rfl ?_
  refine oIcmpNo K22 16 (d2_13 hby) (XT.ii_ge_f (by decide)) ?_
  refine oAloadN K22 17 (d2_16 hby) rfl rfl ?_
  refine oIload K22 19 (d2_17 hby) rfl ?_
  refine oAaload K22 20 (P0.keep Kp7 nin0) rfl 1 (by decide) (by decide) rfl (d2_19 hby) ?_
  refine oAstore K22 22 (d2_20 hby) rfl (l' := #[.val (.ref a), .val (.ref x), .val (.ref u), .val (.ref a), .val (.int 2), .val (.int 1), .val (.ref mA)]) rfl ?_
  refine oAload K22 24 (d2_22 hby) rfl rfl ?_
  refine oIface K22 29 0 (wq hw 59) (wq hw 60) (wq hw 61) (wq hw 62) (wq hw 63) (wq hw 64) (wq hw 65) (wq hw 66) (wq hw 31) (wq hw 67) (O5.ext K22.old) (rmSpell l Z a0 z0 dA mA vA ds ms dv mv G mA ms h3 K22.old K22.both (O9.ext K22.old)) [] [] (lenOf pd31 rfl) (d2_24 hby) ?_
  intro T23 h25 v26 lo27 fs28 K24 Kp29 q30
  obtain ⟨rfl, rfl⟩ := q30
  have K31 := K24.to 0 0 []
  refine Owe.stk [(.ref ms)] ?_
  refine oAloadN K31 30 (d2_29 hby) rfl rfl ?_
  obtain ⟨kc32, Kc33⟩ := Ary.arv (O17.ext K31.old) (.int 0) (n := Int32.ofNat 11) rfl
  have Kc33 : Arv Z h25 mv kc32 .byte (Int32.ofNat 11) ((cs42.map StrChars.lo8).map Value.int) (.int 0) := by rw [kb42]; exact Kc33
  obtain ⟨kc34, Kc35⟩ := Ary.arv ((P4.keep Kp7 nin0).keep Kp29 nin0) (.int 0) (n := Int32.ofNat 11) rfl
  have Kc35 : Arv Z h25 t kc34 .byte (Int32.ofNat 11) ((cs42.map StrChars.lo8).map Value.int) (.int 0) := by rw [kb42]; exact Kc35
  refine oVirtualN K31 33 0 (fun v h' L => ((v = some (.int 1) ∧ cs42 = cs42) ∨ (v = some (.int 0) ∧ ¬ cs42 = cs42)) ∧ L = [] ∧ h' = h25) (wq hw 70) (wq hw 71) (nfSel (wq hw 73)) (wq hw 73) (wq hw 72) (O11.ext K31.old)
    (fun s' hZ' => StrChars.Road.eqW (W := 0) hZ' (own_heq hw) (kI := 4) (wq hw 2) (O11.ext K31.old) (O15.ext K31.old) (O13.ext K31.old) Kc33 (StrChars.Road.codOf (cs := cs42) (n := 11) rfl (fun c hc => (kp42 c hc).2)) (fun c hc => up255 (kp42 c hc)) (by decide) ((P1.keep Kp7).keep Kp29) ((P3.keep Kp7 nin0).keep Kp29 nin0) ((P2.keep Kp7 nin0).keep Kp29 nin0) Kc35 (StrChars.Road.codOf (cs := cs42) (n := 11) rfl (fun c hc => (kp42 c hc).2)) (fun c hc => up255 (kp42 c hc)) (by decide) (OS.ext K31.old) hz0 (by decide) (by decide))
    (ws := []) (fun v h' L q => by obtain ⟨-, rfl, rfl⟩ := q; exact ⟨Fr.nil _, Keep.refl _ _⟩) [(.ref x)] [] (lenOf pd35 rfl) (d2_30 hby) ?_
  intro T36 h38 v39 lo40 L41 K37 Kp42 q43
  obtain ⟨q43, rfl, hh2⟩ := q43
  subst h38
  obtain rfl : v39 = some (.int (1 : Int32)) := by rcases q43 with ⟨rfl, q⟩ | ⟨rfl, q⟩; exact rfl; exact absurd rfl q
  have K44 := K37.to 0 0 []
  refine Owe.stk [(.int 1)] ?_
  refine oIfNo K44 36 (d2_33 hby) (XT.i0_eq_f (by decide)) ?_
  refine oAload K44 38 (d2_36 hby) rfl rfl ?_
  exact oRetA K44 [] hret rfl rfl (d2_38 hby) (by decide) (by decide) hlk (fun x hx => by cases hx) ⟨rfl, rfl⟩
abbrev y3 := prog_24_method_4_code
theorem d3_0 : DC y3 0 (.invokestatic 41) 3 := hb' (by decide +kernel)
theorem pd47 : parseMethodDescriptor "()[Lcom/example/gannet/gannet/window/Granularity;" = some ⟨[], some (.array (.object "com/example/gannet/gannet/window/Granularity"))⟩ := by decide +kernel
theorem d3_3 : DC y3 3 (.aload_n 0) 1 := hb' (by decide +kernel)
theorem d3_4 : DC y3 4 (.ldc 45) 2 := hb' (by decide +kernel)
theorem d3_6 : DC y3 6 (.invokestatic 46) 3 := hb' (by decide +kernel)
theorem pd51 : parseMethodDescriptor "([Lcom/example/gannet/gannet/window/Spelled;Ljava/lang/String;Ljava/lang/String;)Lcom/example/gannet/gannet/window/Spelled;" = some ⟨[(.array (.object "com/example/gannet/gannet/window/Spelled")), (.object "java/lang/String"), (.object "java/lang/String")], some (.object "com/example/gannet/gannet/window/Spelled")⟩ := by decide +kernel
theorem d3_9 : DC y3 9 (.checkcast 1) 3 := hb' (by decide +kernel)
theorem d3_12 : DC y3 12 (.areturn) 1 := hb' (by decide +kernel)
abbrev yn54 : MethodName := ⟨"com/example/gannet/gannet/window/Granularity", "named", "(Ljava/lang/String;)Lcom/example/gannet/gannet/window/Granularity;"⟩
theorem rmGNd (G : Gl Z a0 z0 dA mA vA ds ms dv mv) (x t : Addr) (h0 : Heap) (hZh : Ext Z.heap h0) (hsf : Own Z h0 []) (P0 : Exa Z h0 x "java/lang/String") (P1 : Fld Z h0 x "java/lang/String" "coder" "B" (.int 0)) (P2 : Fld Z h0 x "java/lang/String" "value" "[B" (.ref t)) (P3 : Ary Z h0 t .byte [(.int 100), (.int 97), (.int 121)]) :
    Ctr l Z ELs yn54 prog_24_method_4_code 1 (some (.object "com/example/gannet/gannet/window/Granularity")) [] (rmk 3 3 22 46) #[(.ref x)] [] h0 (fun v h fs => (fs = [] ∧ v = some (.ref dA))) := by
  obtain ⟨hw, hEL, wS, OS, hz0, O1, O2, O3, O4, O5, O6, O7, O8, O9, O10, O11, O12, O13, O14, O15, O16, O17⟩ := id G
  refine Ctr.intro pn7 hEL hZh hsf ?_
  intro p e s m below meth c s₁ hby hml hret hnm hlk hh K0
  refine Owe.cast (ef12 m x) ?_
  show Owe _ _ _ _ s₁ (mkF m 0 #[.val (.ref x)] [])
  refine oStatic K0 3 0 (wq hw 36) (wq hw 37) (wq hw 31) (wq hw 38) (rmValues l Z a0 z0 dA mA vA ds ms dv mv G  h0 K0.old K0.both ) [] [] (lenOf pd47 rfl) (d3_0 hby) ?_
  intro T1 h3 v4 lo5 fs6 K2 Kp7 q8
  obtain ⟨a9, rfl, rfl, f10, f11⟩ := q8
  have K12 := K2.to 1 2 []
  refine Owe.stk [(.ref a9)] ?_
  refine oAloadN K12 4 (d3_3 hby) rfl rfl ?_
  refine oLdcO K12 6 16 (wq hw 52) wS (d3_4 hby) (by decide) (by decide) (by decide) (by decide) ?_
  intro T16 h13 a14 K17 E15
  have K18 := K17.to 3 22 []
  refine oStatic K18 9 0 (wq hw 55) (wq hw 56) (wq hw 57) (wq hw 58) (rmSNd l Z a0 z0 dA mA vA ds ms dv mv G a9 x t a14 h13 K18.old K18.both (f10.ext E15) ((P0.keep Kp7).ext E15) ((P1.keep Kp7 nin0).ext E15) ((P2.keep Kp7 nin0).ext E15) ((P3.keep Kp7 nin0).ext E15)) [(.ref a9), (.ref x), (.ref a14)] [] (lenOf pd51 rfl) (d3_6 hby) ?_
  intro T19 h21 v22 lo23 fs24 K20 Kp25 q26
  obtain ⟨rfl, rfl⟩ := q26
  have K27 := K20.to 3 22 []
  refine Owe.stk [(.ref dA)] ?_
  refine oCast K27 12 (wq hw 80) (Ins.self (O4.ext K27.old)) (d3_9 hby) ?_
  intro T28 K29
  exact oRetA K29 [] hret rfl rfl (d3_12 hby) (by decide) (by decide) hlk (fun x hx => by cases hx) ⟨rfl, rfl⟩
theorem rmGNm (G : Gl Z a0 z0 dA mA vA ds ms dv mv) (x t : Addr) (h0 : Heap) (hZh : Ext Z.heap h0) (hsf : Own Z h0 []) (P0 : Exa Z h0 x "java/lang/String") (P1 : Fld Z h0 x "java/lang/String" "coder" "B" (.int 0)) (P2 : Fld Z h0 x "java/lang/String" "value" "[B" (.ref t)) (P3 : Ary Z h0 t .byte [(.int 109), (.int 105), (.int 99), (.int 114), (.int 111), (.int 115), (.int 101), (.int 99), (.int 111), (.int 110), (.int 100)]) :
    Ctr l Z ELs yn54 prog_24_method_4_code 1 (some (.object "com/example/gannet/gannet/window/Granularity")) [] (rmk 3 3 22 46) #[(.ref x)] [] h0 (fun v h fs => (fs = [] ∧ v = some (.ref mA))) := by
  obtain ⟨hw, hEL, wS, OS, hz0, O1, O2, O3, O4, O5, O6, O7, O8, O9, O10, O11, O12, O13, O14, O15, O16, O17⟩ := id G
  refine Ctr.intro pn7 hEL hZh hsf ?_
  intro p e s m below meth c s₁ hby hml hret hnm hlk hh K0
  refine Owe.cast (ef12 m x) ?_
  show Owe _ _ _ _ s₁ (mkF m 0 #[.val (.ref x)] [])
  refine oStatic K0 3 0 (wq hw 36) (wq hw 37) (wq hw 31) (wq hw 38) (rmValues l Z a0 z0 dA mA vA ds ms dv mv G  h0 K0.old K0.both ) [] [] (lenOf pd47 rfl) (d3_0 hby) ?_
  intro T1 h3 v4 lo5 fs6 K2 Kp7 q8
  obtain ⟨a9, rfl, rfl, f10, f11⟩ := q8
  have K12 := K2.to 1 2 []
  refine Owe.stk [(.ref a9)] ?_
  refine oAloadN K12 4 (d3_3 hby) rfl rfl ?_
  refine oLdcO K12 6 16 (wq hw 52) wS (d3_4 hby) (by decide) (by decide) (by decide) (by decide) ?_
  intro T16 h13 a14 K17 E15
  have K18 := K17.to 3 22 []
  refine oStatic K18 9 0 (wq hw 55) (wq hw 56) (wq hw 57) (wq hw 58) (rmSNm l Z a0 z0 dA mA vA ds ms dv mv G a9 x t a14 h13 K18.old K18.both (f10.ext E15) ((P0.keep Kp7).ext E15) ((P1.keep Kp7 nin0).ext E15) ((P2.keep Kp7 nin0).ext E15) ((P3.keep Kp7 nin0).ext E15)) [(.ref a9), (.ref x), (.ref a14)] [] (lenOf pd51 rfl) (d3_6 hby) ?_
  intro T19 h21 v22 lo23 fs24 K20 Kp25 q26
  obtain ⟨rfl, rfl⟩ := q26
  have K27 := K20.to 3 22 []
  refine Owe.stk [(.ref mA)] ?_
  refine oCast K27 12 (wq hw 80) (Ins.self (O5.ext K27.old)) (d3_9 hby) ?_
  intro T28 K29
  exact oRetA K29 [] hret rfl rfl (d3_12 hby) (by decide) (by decide) hlk (fun x hx => by cases hx) ⟨rfl, rfl⟩
theorem pd55 : parseMethodDescriptor "([C)V" = some ⟨[(.array .char)], none⟩ := by decide +kernel
theorem pd56 : parseMethodDescriptor "(Ljava/lang/String;)Lcom/example/gannet/gannet/window/Granularity;" = some ⟨[(.object "java/lang/String")], some (.object "com/example/gannet/gannet/window/Granularity")⟩ := by decide +kernel
theorem ef57 (m : MethodId) (x0 : Int32) : entryFrame m #[(.int x0)] maxLocals = mkF m 0 #[.val (.int x0), .unset, .unset, .unset, .unset, .unset, .unset] [] := by first | (simp [entryFrame, mkF, argsToLocals, Value.category, maxLocals]; done) | rfl
theorem pn58 : plainName "com/example/gannet/gannet/window/GranularityNamedPinLaw" = true := by first | (simp [plainName, overriddenIn]; done) | decide +kernel
theorem rmLaw (G : Gl Z a0 z0 dA mA vA ds ms dv mv) (p0 : Int32) (h0 : Heap) (hZh : Ext Z.heap h0) (hsf : Own Z h0 []) :
    Ctr l Z ELs x code maxLocals ret tables_1 room_1 #[(.int p0)] [] h0 (fun v h fs => (fs = [] ∧ v = some (.int 1))) := by
  obtain ⟨hw, hEL, wS, OS, hz0, O1, O2, O3, O4, O5, O6, O7, O8, O9, O10, O11, O12, O13, O14, O15, O16, O17⟩ := id G
  refine Ctr.intro pn58 hEL hZh hsf ?_
  intro p e s m below meth c s₁ hby hml hret hnm hlk hh K0
  refine Owe.cast (ef57 m p0) ?_
  show Owe _ _ _ _ s₁ (mkF m 0 #[.val (.int p0), .unset, .unset, .unset, .unset, .unset, .unset] [])
  refine oIloadN K0 1 (hb hby at_0) rfl ?_
  refine oIconstV K0 2 (1 : Int32) (hb hby at_1) rfl ?_
  refine oIand K0 3 (hb hby at_2) ?_
  by_cases hc1 : (p0 &&& (1 : Int32)) = (0 : Int32)
  · refine oIfYes K0 10 (hb hby at_3) (XT.i0_eq_t hc1) ?_
    refine oIconstV K0 11 (0 : Int32) (hb hby at_10) rfl ?_
    refine oIstoreN K0 12 (hb hby at_11) (l' := #[.val (.int p0), .val (.int 0), .unset, .unset, .unset, .unset, .unset]) rfl ?_
    refine oIconstV K0 13 (3 : Int32) (hb hby at_12) rfl ?_
    refine oNewP K0 15 (ty := .char) 3 (wq hw 0) rfl (by decide) (by decide) (by decide) (hb hby at_13) (by decide) (by decide) ?_
    intro T7 h2 a3 g4 K8 E5 A6
    have K9 := K8.to 1 3 [a3]
    refine oDup K9 16 (hb hby at_15) rfl ?_
    refine oIconstV K9 17 (0 : Int32) (hb hby at_16) rfl ?_
    refine oBipushV K9 19 (100 : Int32) (hb hby at_17) (by decide) ?_
    refine oCastore K9 20 (by simp) A6 0 (by decide) (by decide) nlt (by decide : nar .char (100 : Int32) = (100 : Int32)) (hb hby at_19) ?_
    intro T14 h10 lo13 K15 W11 A12
    have A16 : Ary Z h10 a3 .char [(.int 100), (.int 0), (.int 0)] := A12
    refine oDup K15 21 (hb hby at_20) rfl ?_
    refine oIconstV K15 22 (1 : Int32) (hb hby at_21) rfl ?_
    refine oBipushV K15 24 (97 : Int32) (hb hby at_22) (by decide) ?_
    refine oCastore K15 25 (by simp) A16 1 (by decide) (by decide) nlt (by decide : nar .char (97 : Int32) = (97 : Int32)) (hb hby at_24) ?_
    intro T21 h17 lo20 K22 W18 A19
    have A23 : Ary Z h17 a3 .char [(.int 100), (.int 97), (.int 0)] := A19
    refine oDup K22 26 (hb hby at_25) rfl ?_
    refine oIconstV K22 27 (2 : Int32) (hb hby at_26) rfl ?_
    refine oBipushV K22 29 (121 : Int32) (hb hby at_27) (by decide) ?_
    refine oCastore K22 30 (by simp) A23 2 (by decide) (by decide) nlt (by decide : nar .char (121 : Int32) = (121 : Int32)) (hb hby at_29) ?_
    intro T28 h24 lo27 K29 W25 A26
    have A30 : Ary Z h24 a3 .char [(.int 100), (.int 97), (.int 121)] := A26
    refine oAstoreN K29 31 (hb hby at_30) rfl (l' := #[.val (.int p0), .val (.int 0), .val (.ref a3), .unset, .unset, .unset, .unset]) rfl ?_
    refine oBipushV K29 33 (11 : Int32) (hb hby at_31) (by decide) ?_
    refine oNewP K29 35 (ty := .char) 11 (wq hw 0) rfl (by decide) (by decide) (by decide) (hb hby at_33) (by decide) (by decide) ?_
    intro T36 h31 a32 g33 K37 E34 A35
    have K38 := K37.to 2 14 [a32, a3]
    refine oDup K38 36 (hb hby at_35) rfl ?_
    refine oIconstV K38 37 (0 : Int32) (hb hby at_36) rfl ?_
    refine oBipushV K38 39 (109 : Int32) (hb hby at_37) (by decide) ?_
    refine oCastore K38 40 (by simp) A35 0 (by decide) (by decide) nlt (by decide : nar .char (109 : Int32) = (109 : Int32)) (hb hby at_39) ?_
    intro T43 h39 lo42 K44 W40 A41
    have A45 : Ary Z h39 a32 .char [(.int 109), (.int 0), (.int 0), (.int 0), (.int 0), (.int 0), (.int 0), (.int 0), (.int 0), (.int 0), (.int 0)] := A41
    refine oDup K44 41 (hb hby at_40) rfl ?_
    refine oIconstV K44 42 (1 : Int32) (hb hby at_41) rfl ?_
    refine oBipushV K44 44 (105 : Int32) (hb hby at_42) (by decide) ?_
    refine oCastore K44 45 (by simp) A45 1 (by decide) (by decide) nlt (by decide : nar .char (105 : Int32) = (105 : Int32)) (hb hby at_44) ?_
    intro T50 h46 lo49 K51 W47 A48
    have A52 : Ary Z h46 a32 .char [(.int 109), (.int 105), (.int 0), (.int 0), (.int 0), (.int 0), (.int 0), (.int 0), (.int 0), (.int 0), (.int 0)] := A48
    refine oDup K51 46 (hb hby at_45) rfl ?_
    refine oIconstV K51 47 (2 : Int32) (hb hby at_46) rfl ?_
    refine oBipushV K51 49 (99 : Int32) (hb hby at_47) (by decide) ?_
    refine oCastore K51 50 (by simp) A52 2 (by decide) (by decide) nlt (by decide : nar .char (99 : Int32) = (99 : Int32)) (hb hby at_49) ?_
    intro T57 h53 lo56 K58 W54 A55
    have A59 : Ary Z h53 a32 .char [(.int 109), (.int 105), (.int 99), (.int 0), (.int 0), (.int 0), (.int 0), (.int 0), (.int 0), (.int 0), (.int 0)] := A55
    refine oDup K58 51 (hb hby at_50) rfl ?_
    refine oIconstV K58 52 (3 : Int32) (hb hby at_51) rfl ?_
    refine oBipushV K58 54 (114 : Int32) (hb hby at_52) (by decide) ?_
    refine oCastore K58 55 (by simp) A59 3 (by decide) (by decide) nlt (by decide : nar .char (114 : Int32) = (114 : Int32)) (hb hby at_54) ?_
    intro T64 h60 lo63 K65 W61 A62
    have A66 : Ary Z h60 a32 .char [(.int 109), (.int 105), (.int 99), (.int 114), (.int 0), (.int 0), (.int 0), (.int 0), (.int 0), (.int 0), (.int 0)] := A62
    refine oDup K65 56 (hb hby at_55) rfl ?_
    refine oIconstV K65 57 (4 : Int32) (hb hby at_56) rfl ?_
    refine oBipushV K65 59 (111 : Int32) (hb hby at_57) (by decide) ?_
    refine oCastore K65 60 (by simp) A66 4 (by decide) (by decide) nlt (by decide : nar .char (111 : Int32) = (111 : Int32)) (hb hby at_59) ?_
    intro T71 h67 lo70 K72 W68 A69
    have A73 : Ary Z h67 a32 .char [(.int 109), (.int 105), (.int 99), (.int 114), (.int 111), (.int 0), (.int 0), (.int 0), (.int 0), (.int 0), (.int 0)] := A69
    refine oDup K72 61 (hb hby at_60) rfl ?_
    refine oIconstV K72 62 (5 : Int32) (hb hby at_61) rfl ?_
    refine oBipushV K72 64 (115 : Int32) (hb hby at_62) (by decide) ?_
    refine oCastore K72 65 (by simp) A73 5 (by decide) (by decide) nlt (by decide : nar .char (115 : Int32) = (115 : Int32)) (hb hby at_64) ?_
    intro T78 h74 lo77 K79 W75 A76
    have A80 : Ary Z h74 a32 .char [(.int 109), (.int 105), (.int 99), (.int 114), (.int 111), (.int 115), (.int 0), (.int 0), (.int 0), (.int 0), (.int 0)] := A76
    refine oDup K79 66 (hb hby at_65) rfl ?_
    refine oBipushV K79 68 (6 : Int32) (hb hby at_66) (by decide) ?_
    refine oBipushV K79 70 (101 : Int32) (hb hby at_68) (by decide) ?_
    refine oCastore K79 71 (by simp) A80 6 (by decide) (by decide) nlt (by decide : nar .char (101 : Int32) = (101 : Int32)) (hb hby at_70) ?_
    intro T85 h81 lo84 K86 W82 A83
    have A87 : Ary Z h81 a32 .char [(.int 109), (.int 105), (.int 99), (.int 114), (.int 111), (.int 115), (.int 101), (.int 0), (.int 0), (.int 0), (.int 0)] := A83
    refine oDup K86 72 (hb hby at_71) rfl ?_
    refine oBipushV K86 74 (7 : Int32) (hb hby at_72) (by decide) ?_
    refine oBipushV K86 76 (99 : Int32) (hb hby at_74) (by decide) ?_
    refine oCastore K86 77 (by simp) A87 7 (by decide) (by decide) nlt (by decide : nar .char (99 : Int32) = (99 : Int32)) (hb hby at_76) ?_
    intro T92 h88 lo91 K93 W89 A90
    have A94 : Ary Z h88 a32 .char [(.int 109), (.int 105), (.int 99), (.int 114), (.int 111), (.int 115), (.int 101), (.int 99), (.int 0), (.int 0), (.int 0)] := A90
    refine oDup K93 78 (hb hby at_77) rfl ?_
    refine oBipushV K93 80 (8 : Int32) (hb hby at_78) (by decide) ?_
    refine oBipushV K93 82 (111 : Int32) (hb hby at_80) (by decide) ?_
    refine oCastore K93 83 (by simp) A94 8 (by decide) (by decide) nlt (by decide : nar .char (111 : Int32) = (111 : Int32)) (hb hby at_82) ?_
    intro T99 h95 lo98 K100 W96 A97
    have A101 : Ary Z h95 a32 .char [(.int 109), (.int 105), (.int 99), (.int 114), (.int 111), (.int 115), (.int 101), (.int 99), (.int 111), (.int 0), (.int 0)] := A97
    refine oDup K100 84 (hb hby at_83) rfl ?_
    refine oBipushV K100 86 (9 : Int32) (hb hby at_84) (by decide) ?_
    refine oBipushV K100 88 (110 : Int32) (hb hby at_86) (by decide) ?_
    refine oCastore K100 89 (by simp) A101 9 (by decide) (by decide) nlt (by decide : nar .char (110 : Int32) = (110 : Int32)) (hb hby at_88) ?_
    intro T106 h102 lo105 K107 W103 A104
    have A108 : Ary Z h102 a32 .char [(.int 109), (.int 105), (.int 99), (.int 114), (.int 111), (.int 115), (.int 101), (.int 99), (.int 111), (.int 110), (.int 0)] := A104
    refine oDup K107 90 (hb hby at_89) rfl ?_
    refine oBipushV K107 92 (10 : Int32) (hb hby at_90) (by decide) ?_
    refine oBipushV K107 94 (100 : Int32) (hb hby at_92) (by decide) ?_
    refine oCastore K107 95 (by simp) A108 10 (by decide) (by decide) nlt (by decide : nar .char (100 : Int32) = (100 : Int32)) (hb hby at_94) ?_
    intro T113 h109 lo112 K114 W110 A111
    have A115 : Ary Z h109 a32 .char [(.int 109), (.int 105), (.int 99), (.int 114), (.int 111), (.int 115), (.int 101), (.int 99), (.int 111), (.int 110), (.int 100)] := A111
    refine oAstoreN K114 96 (hb hby at_95) rfl (l' := #[.val (.int p0), .val (.int 0), .val (.ref a3), .val (.ref a32), .unset, .unset, .unset]) rfl ?_
    refine oIloadN K114 97 (hb hby at_96) rfl ?_
    refine oIfYes K114 111 (hb hby at_97) (XT.i0_eq_t (by decide)) ?_
    refine oNew K114 114 (wq hw 1) (wq hw 2) (wq hw 3) (hb hby at_111) (by decide) (by decide) ?_
    intro T122 h116 a117 g118 K123 E119 X120 D121
    have F124 : Fld Z h116 a117 "java/lang/String" "coder" "B" (.int 0) := D121 (Or.inr (wq hw 27)) (ty := .byte) (by decide)
    have F125 : Fld Z h116 a117 "java/lang/String" "value" "[B" .null := D121 (Or.inr (wq hw 29)) (ty := (.array .byte)) (by decide)
    have K126 := K123.to 3 18 [a117, a32, a3]
    refine oDup K126 115 (hb hby at_114) rfl ?_
    refine oAloadN K126 116 (hb hby at_115) rfl rfl ?_
    obtain ⟨kc127, Kc128⟩ := Ary.arv ((Ary.other (Ary.other (Ary.other (Ary.other (Ary.other (Ary.other (Ary.other (Ary.other (Ary.other (Ary.other (Ary.other (A30.ext E34) W40 (Nat.ne_of_lt (Nat.lt_of_lt_of_le (Nat.lt_of_lt_of_le A6.lt (Nat.le_trans (Nat.le_of_eq W11.size.symm) (Nat.le_trans (Nat.le_of_eq W18.size.symm) (Nat.le_of_eq W25.size.symm)))) (Nat.le_of_eq g33)))) W47 (Nat.ne_of_lt (Nat.lt_of_lt_of_le (Nat.lt_of_lt_of_le A6.lt (Nat.le_trans (Nat.le_of_eq W11.size.symm) (Nat.le_trans (Nat.le_of_eq W18.size.symm) (Nat.le_of_eq W25.size.symm)))) (Nat.le_of_eq g33)))) W54 (Nat.ne_of_lt (Nat.lt_of_lt_of_le (Nat.lt_of_lt_of_le A6.lt (Nat.le_trans (Nat.le_of_eq W11.size.symm) (Nat.le_trans (Nat.le_of_eq W18.size.symm) (Nat.le_of_eq W25.size.symm)))) (Nat.le_of_eq g33)))) W61 (Nat.ne_of_lt (Nat.lt_of_lt_of_le (Nat.lt_of_lt_of_le A6.lt (Nat.le_trans (Nat.le_of_eq W11.size.symm) (Nat.le_trans (Nat.le_of_eq W18.size.symm) (Nat.le_of_eq W25.size.symm)))) (Nat.le_of_eq g33)))) W68 (Nat.ne_of_lt (Nat.lt_of_lt_of_le (Nat.lt_of_lt_of_le A6.lt (Nat.le_trans (Nat.le_of_eq W11.size.symm) (Nat.le_trans (Nat.le_of_eq W18.size.symm) (Nat.le_of_eq W25.size.symm)))) (Nat.le_of_eq g33)))) W75 (Nat.ne_of_lt (Nat.lt_of_lt_of_le (Nat.lt_of_lt_of_le A6.lt (Nat.le_trans (Nat.le_of_eq W11.size.symm) (Nat.le_trans (Nat.le_of_eq W18.size.symm) (Nat.le_of_eq W25.size.symm)))) (Nat.le_of_eq g33)))) W82 (Nat.ne_of_lt (Nat.lt_of_lt_of_le (Nat.lt_of_lt_of_le A6.lt (Nat.le_trans (Nat.le_of_eq W11.size.symm) (Nat.le_trans (Nat.le_of_eq W18.size.symm) (Nat.le_of_eq W25.size.symm)))) (Nat.le_of_eq g33)))) W89 (Nat.ne_of_lt (Nat.lt_of_lt_of_le (Nat.lt_of_lt_of_le A6.lt (Nat.le_trans (Nat.le_of_eq W11.size.symm) (Nat.le_trans (Nat.le_of_eq W18.size.symm) (Nat.le_of_eq W25.size.symm)))) (Nat.le_of_eq g33)))) W96 (Nat.ne_of_lt (Nat.lt_of_lt_of_le (Nat.lt_of_lt_of_le A6.lt (Nat.le_trans (Nat.le_of_eq W11.size.symm) (Nat.le_trans (Nat.le_of_eq W18.size.symm) (Nat.le_of_eq W25.size.symm)))) (Nat.le_of_eq g33)))) W103 (Nat.ne_of_lt (Nat.lt_of_lt_of_le (Nat.lt_of_lt_of_le A6.lt (Nat.le_trans (Nat.le_of_eq W11.size.symm) (Nat.le_trans (Nat.le_of_eq W18.size.symm) (Nat.le_of_eq W25.size.symm)))) (Nat.le_of_eq g33)))) W110 (Nat.ne_of_lt (Nat.lt_of_lt_of_le (Nat.lt_of_lt_of_le A6.lt (Nat.le_trans (Nat.le_of_eq W11.size.symm) (Nat.le_trans (Nat.le_of_eq W18.size.symm) (Nat.le_of_eq W25.size.symm)))) (Nat.le_of_eq g33)))).ext E119) (.int 0) (n := (3 : Int32)) rfl
    have Kc128 : Arv Z h116 a3 kc127 .char (3 : Int32) (([(100 : Int32), (97 : Int32), (121 : Int32)] : List Int32).map Value.int) (.int 0) := Kc128
    refine oSpecialN K126 119 1 (StrChars.Road.QV Z a117 (3 : Int32) ([(100 : Int32), (97 : Int32), (121 : Int32)] : List Int32) h116 Z.heap.size) (wq hw 4) (wq hw 5) (wq hw 6)
      (fun s' hZ' => StrChars.Road.backV (W := 1) hZ' (own_hws hw) (kI := 4) (wq hw 2) (cs := ([(100 : Int32), (97 : Int32), (121 : Int32)] : List Int32)) (bs := ([(100 : Int32), (97 : Int32), (121 : Int32)] : List Int32)) (n := 3) (n0 := Z.heap.size) (K126.ge (by simp)) K126.old.1 X120 F125 F124 Kc128 (OS.ext K126.old) hz0 rfl rfl (by decide) (by decide) (by intro c hc; simp only [List.mem_cons, List.not_mem_nil, or_false] at hc; rcases hc with rfl | rfl | rfl <;> first | decide | exact chr255 _) rfl (by decide) (by decide))
      (ws := [a117]) (fun v h' L q => ⟨q.2.1, q.2.2.1⟩) [(.ref a3)] [(.ref a117)] (lenOf pd55 rfl) (hb hby at_116) ?_
    intro T129 h131 v132 lo133 L134 K130 Kp135 q136
    obtain ⟨rfl, -, -, f138, f139, t137, f140, -, f141, f142, f143, f144⟩ := q136
    have A145 : Ary Z h131 t137 .byte [(.int 100), (.int 97), (.int 121)] := Ary.ofArv f144 rfl nlt
    have K146 := K130.to 4 21 [a117, a32, a3]
    refine Owe.stk [(.ref a117)] ?_
    refine oAstore K146 121 (hb hby at_119) rfl (l' := #[.val (.int p0), .val (.int 0), .val (.ref a3), .val (.ref a32), .val (.ref a117), .unset, .unset]) rfl ?_
    refine oIloadN K146 122 (hb hby at_121) rfl ?_
    refine oIfYes K146 131 (hb hby at_122) (XT.i0_eq_t (by decide)) ?_
    refine oGetS K146 134 (wq hw 30) (O1.ext K146.old) (hb hby at_131) ?_
    intro T147 K148
    refine oAstore K148 136 (hb hby at_134) rfl (l' := #[.val (.int p0), .val (.int 0), .val (.ref a3), .val (.ref a32), .val (.ref a117), .val (.ref dA), .unset]) rfl ?_
    refine oAload K148 138 (hb hby at_136) rfl rfl ?_
    refine oStatic K148 141 0 (wq hw 33) (wq hw 34) (wq hw 31) (wq hw 35) (rmGNd l Z a0 z0 dA mA vA ds ms dv mv G a117 t137 h131 K148.old K148.both f138 f139 f143 A145) [(.ref a117)] [] (lenOf pd56 rfl) (hb hby at_138) ?_
    intro T149 h151 v152 lo153 fs154 K150 Kp155 q156
    obtain ⟨rfl, rfl⟩ := q156
    have K157 := K150.to 7 43 [a117, a32, a3]
    refine Owe.stk [(.ref dA)] ?_
    refine oAstore K157 143 (hb hby at_141) rfl (l' := #[.val (.int p0), .val (.int 0), .val (.ref a3), .val (.ref a32), .val (.ref a117), .val (.ref dA), .val (.ref dA)]) rfl ?_
    refine oAload K157 145 (hb hby at_143) rfl rfl ?_
    refine oAload K157 147 (hb hby at_145) rfl rfl ?_
    refine oAcmpYes K157 152 (hb hby at_147) rfl rfl (XT.aa_eq_t rfl) ?_
    refine oAload K157 154 (hb hby at_152) rfl rfl ?_
    refine oVirtual K157 157 0 (wq hw 82) (wq hw 83) (nfSel (wq hw 84)) (wq hw 84) (wq hw 63) (wq hw 31) (wq hw 67) (O4.ext K157.old) (rmSpell l Z a0 z0 dA mA vA ds ms dv mv G dA ds h151 K157.old K157.both (O8.ext K157.old)) [] [] (lenOf pd31 rfl) (hb hby at_154) ?_
    intro T158 h160 v161 lo162 fs163 K159 Kp164 q165
    obtain ⟨rfl, rfl⟩ := q165
    have K166 := K159.to 7 43 [a117, a32, a3]
    refine Owe.stk [(.ref ds)] ?_
    refine oAload K166 159 (hb hby at_157) rfl rfl ?_
    obtain ⟨kc167, Kc168⟩ := Ary.arv (O16.ext K166.old) (.int 0) (n := Int32.ofNat 3) rfl
    have Kc168 : Arv Z h160 dv kc167 .byte (Int32.ofNat 3) ((cs34.map StrChars.lo8).map Value.int) (.int 0) := by rw [kb34]; exact Kc168
    obtain ⟨kc169, Kc170⟩ := Ary.arv ((A145.keep Kp155 nin0).keep Kp164 nin0) (.int 0) (n := Int32.ofNat 3) rfl
    have Kc170 : Arv Z h160 t137 kc169 .byte (Int32.ofNat 3) ((cs34.map StrChars.lo8).map Value.int) (.int 0) := by rw [kb34]; exact Kc170
    refine oVirtualN K166 162 0 (fun v h' L => ((v = some (.int 1) ∧ cs34 = cs34) ∨ (v = some (.int 0) ∧ ¬ cs34 = cs34)) ∧ L = [] ∧ h' = h160) (wq hw 85) (wq hw 71) (nfSel (wq hw 73)) (wq hw 73) (wq hw 72) (O10.ext K166.old)
      (fun s' hZ' => StrChars.Road.eqW (W := 0) hZ' (own_heq hw) (kI := 4) (wq hw 2) (O10.ext K166.old) (O14.ext K166.old) (O12.ext K166.old) Kc168 (StrChars.Road.codOf (cs := cs34) (n := 3) rfl (fun c hc => (kp34 c hc).2)) (fun c hc => up255 (kp34 c hc)) (by decide) ((f138.keep Kp155).keep Kp164) ((f143.keep Kp155 nin0).keep Kp164 nin0) ((f139.keep Kp155 nin0).keep Kp164 nin0) Kc170 (StrChars.Road.codOf (cs := cs34) (n := 3) rfl (fun c hc => (kp34 c hc).2)) (fun c hc => up255 (kp34 c hc)) (by decide) (OS.ext K166.old) hz0 (by decide) (by decide))
      (ws := []) (fun v h' L q => by obtain ⟨-, rfl, rfl⟩ := q; exact ⟨Fr.nil _, Keep.refl _ _⟩) [(.ref a117)] [] (lenOf pd35 rfl) (hb hby at_159) ?_
    intro T171 h173 v174 lo175 L176 K172 Kp177 q178
    obtain ⟨q178, rfl, hh2⟩ := q178
    subst h173
    obtain rfl : v174 = some (.int (1 : Int32)) := by rcases q178 with ⟨rfl, q⟩ | ⟨rfl, q⟩; exact rfl; exact absurd rfl q
    have K179 := K172.to 7 43 [a117, a32, a3]
    refine Owe.stk [(.int 1)] ?_
    refine oIfYes K179 167 (hb hby at_162) (XT.i0_ne_t (by decide)) ?_
    refine oAload K179 169 (hb hby at_167) rfl rfl ?_
    refine oVirtual K179 172 0 (wq hw 82) (wq hw 83) (nfSel (wq hw 84)) (wq hw 84) (wq hw 63) (wq hw 31) (wq hw 67) (O4.ext K179.old) (rmSpell l Z a0 z0 dA mA vA ds ms dv mv G dA ds h160 K179.old K179.both (O8.ext K179.old)) [] [] (lenOf pd31 rfl) (hb hby at_169) ?_
    intro T180 h182 v183 lo184 fs185 K181 Kp186 q187
    obtain ⟨rfl, rfl⟩ := q187
    have K188 := K181.to 7 43 [a117, a32, a3]
    refine Owe.stk [(.ref ds)] ?_
    refine oStatic K188 175 0 (wq hw 33) (wq hw 34) (wq hw 31) (wq hw 35) (rmGNd l Z a0 z0 dA mA vA ds ms dv mv G ds dv h182 K188.old K188.both (O10.ext K188.old) (O12.ext K188.old) (O14.ext K188.old) (O16.ext K188.old)) [(.ref ds)] [] (lenOf pd56 rfl) (hb hby at_172) ?_
    intro T189 h191 v192 lo193 fs194 K190 Kp195 q196
    obtain ⟨rfl, rfl⟩ := q196
    have K197 := K190.to 10 65 [a117, a32, a3]
    refine Owe.stk [(.ref dA)] ?_
    refine oAload K197 177 (hb hby at_175) rfl rfl ?_
    refine oAcmpNo K197 180 (hb hby at_177) rfl rfl (XT.aa_ne_f rfl) ?_
    refine oIconstV K197 181 (1 : Int32) (hb hby at_180) rfl ?_
    refine oGoto K197 185 (hb hby at_181) ?_
    exact oRetI K197 [] (t := .boolean) hret (by simp) (by decide) (hb hby at_185) (by decide) (by decide) hlk (fun x hx => by cases hx) ⟨rfl, rfl⟩
  · refine oIfNo K0 6 (hb hby at_3) (XT.i0_eq_f hc1) ?_
    refine oIconstV K0 7 (1 : Int32) (hb hby at_6) rfl ?_
    refine oGoto K0 11 (hb hby at_7) ?_
    refine oIstoreN K0 12 (hb hby at_11) (l' := #[.val (.int p0), .val (.int 1), .unset, .unset, .unset, .unset, .unset]) rfl ?_
    refine oIconstV K0 13 (3 : Int32) (hb hby at_12) rfl ?_
    refine oNewP K0 15 (ty := .char) 3 (wq hw 0) rfl (by decide) (by decide) (by decide) (hb hby at_13) (by decide) (by decide) ?_
    intro T203 h198 a199 g200 K204 E201 A202
    have K205 := K204.to 1 3 [a199]
    refine oDup K205 16 (hb hby at_15) rfl ?_
    refine oIconstV K205 17 (0 : Int32) (hb hby at_16) rfl ?_
    refine oBipushV K205 19 (100 : Int32) (hb hby at_17) (by decide) ?_
    refine oCastore K205 20 (by simp) A202 0 (by decide) (by decide) nlt (by decide : nar .char (100 : Int32) = (100 : Int32)) (hb hby at_19) ?_
    intro T210 h206 lo209 K211 W207 A208
    have A212 : Ary Z h206 a199 .char [(.int 100), (.int 0), (.int 0)] := A208
    refine oDup K211 21 (hb hby at_20) rfl ?_
    refine oIconstV K211 22 (1 : Int32) (hb hby at_21) rfl ?_
    refine oBipushV K211 24 (97 : Int32) (hb hby at_22) (by decide) ?_
    refine oCastore K211 25 (by simp) A212 1 (by decide) (by decide) nlt (by decide : nar .char (97 : Int32) = (97 : Int32)) (hb hby at_24) ?_
    intro T217 h213 lo216 K218 W214 A215
    have A219 : Ary Z h213 a199 .char [(.int 100), (.int 97), (.int 0)] := A215
    refine oDup K218 26 (hb hby at_25) rfl ?_
    refine oIconstV K218 27 (2 : Int32) (hb hby at_26) rfl ?_
    refine oBipushV K218 29 (121 : Int32) (hb hby at_27) (by decide) ?_
    refine oCastore K218 30 (by simp) A219 2 (by decide) (by decide) nlt (by decide : nar .char (121 : Int32) = (121 : Int32)) (hb hby at_29) ?_
    intro T224 h220 lo223 K225 W221 A222
    have A226 : Ary Z h220 a199 .char [(.int 100), (.int 97), (.int 121)] := A222
    refine oAstoreN K225 31 (hb hby at_30) rfl (l' := #[.val (.int p0), .val (.int 1), .val (.ref a199), .unset, .unset, .unset, .unset]) rfl ?_
    refine oBipushV K225 33 (11 : Int32) (hb hby at_31) (by decide) ?_
    refine oNewP K225 35 (ty := .char) 11 (wq hw 0) rfl (by decide) (by decide) (by decide) (hb hby at_33) (by decide) (by decide) ?_
    intro T232 h227 a228 g229 K233 E230 A231
    have K234 := K233.to 2 14 [a228, a199]
    refine oDup K234 36 (hb hby at_35) rfl ?_
    refine oIconstV K234 37 (0 : Int32) (hb hby at_36) rfl ?_
    refine oBipushV K234 39 (109 : Int32) (hb hby at_37) (by decide) ?_
    refine oCastore K234 40 (by simp) A231 0 (by decide) (by decide) nlt (by decide : nar .char (109 : Int32) = (109 : Int32)) (hb hby at_39) ?_
    intro T239 h235 lo238 K240 W236 A237
    have A241 : Ary Z h235 a228 .char [(.int 109), (.int 0), (.int 0), (.int 0), (.int 0), (.int 0), (.int 0), (.int 0), (.int 0), (.int 0), (.int 0)] := A237
    refine oDup K240 41 (hb hby at_40) rfl ?_
    refine oIconstV K240 42 (1 : Int32) (hb hby at_41) rfl ?_
    refine oBipushV K240 44 (105 : Int32) (hb hby at_42) (by decide) ?_
    refine oCastore K240 45 (by simp) A241 1 (by decide) (by decide) nlt (by decide : nar .char (105 : Int32) = (105 : Int32)) (hb hby at_44) ?_
    intro T246 h242 lo245 K247 W243 A244
    have A248 : Ary Z h242 a228 .char [(.int 109), (.int 105), (.int 0), (.int 0), (.int 0), (.int 0), (.int 0), (.int 0), (.int 0), (.int 0), (.int 0)] := A244
    refine oDup K247 46 (hb hby at_45) rfl ?_
    refine oIconstV K247 47 (2 : Int32) (hb hby at_46) rfl ?_
    refine oBipushV K247 49 (99 : Int32) (hb hby at_47) (by decide) ?_
    refine oCastore K247 50 (by simp) A248 2 (by decide) (by decide) nlt (by decide : nar .char (99 : Int32) = (99 : Int32)) (hb hby at_49) ?_
    intro T253 h249 lo252 K254 W250 A251
    have A255 : Ary Z h249 a228 .char [(.int 109), (.int 105), (.int 99), (.int 0), (.int 0), (.int 0), (.int 0), (.int 0), (.int 0), (.int 0), (.int 0)] := A251
    refine oDup K254 51 (hb hby at_50) rfl ?_
    refine oIconstV K254 52 (3 : Int32) (hb hby at_51) rfl ?_
    refine oBipushV K254 54 (114 : Int32) (hb hby at_52) (by decide) ?_
    refine oCastore K254 55 (by simp) A255 3 (by decide) (by decide) nlt (by decide : nar .char (114 : Int32) = (114 : Int32)) (hb hby at_54) ?_
    intro T260 h256 lo259 K261 W257 A258
    have A262 : Ary Z h256 a228 .char [(.int 109), (.int 105), (.int 99), (.int 114), (.int 0), (.int 0), (.int 0), (.int 0), (.int 0), (.int 0), (.int 0)] := A258
    refine oDup K261 56 (hb hby at_55) rfl ?_
    refine oIconstV K261 57 (4 : Int32) (hb hby at_56) rfl ?_
    refine oBipushV K261 59 (111 : Int32) (hb hby at_57) (by decide) ?_
    refine oCastore K261 60 (by simp) A262 4 (by decide) (by decide) nlt (by decide : nar .char (111 : Int32) = (111 : Int32)) (hb hby at_59) ?_
    intro T267 h263 lo266 K268 W264 A265
    have A269 : Ary Z h263 a228 .char [(.int 109), (.int 105), (.int 99), (.int 114), (.int 111), (.int 0), (.int 0), (.int 0), (.int 0), (.int 0), (.int 0)] := A265
    refine oDup K268 61 (hb hby at_60) rfl ?_
    refine oIconstV K268 62 (5 : Int32) (hb hby at_61) rfl ?_
    refine oBipushV K268 64 (115 : Int32) (hb hby at_62) (by decide) ?_
    refine oCastore K268 65 (by simp) A269 5 (by decide) (by decide) nlt (by decide : nar .char (115 : Int32) = (115 : Int32)) (hb hby at_64) ?_
    intro T274 h270 lo273 K275 W271 A272
    have A276 : Ary Z h270 a228 .char [(.int 109), (.int 105), (.int 99), (.int 114), (.int 111), (.int 115), (.int 0), (.int 0), (.int 0), (.int 0), (.int 0)] := A272
    refine oDup K275 66 (hb hby at_65) rfl ?_
    refine oBipushV K275 68 (6 : Int32) (hb hby at_66) (by decide) ?_
    refine oBipushV K275 70 (101 : Int32) (hb hby at_68) (by decide) ?_
    refine oCastore K275 71 (by simp) A276 6 (by decide) (by decide) nlt (by decide : nar .char (101 : Int32) = (101 : Int32)) (hb hby at_70) ?_
    intro T281 h277 lo280 K282 W278 A279
    have A283 : Ary Z h277 a228 .char [(.int 109), (.int 105), (.int 99), (.int 114), (.int 111), (.int 115), (.int 101), (.int 0), (.int 0), (.int 0), (.int 0)] := A279
    refine oDup K282 72 (hb hby at_71) rfl ?_
    refine oBipushV K282 74 (7 : Int32) (hb hby at_72) (by decide) ?_
    refine oBipushV K282 76 (99 : Int32) (hb hby at_74) (by decide) ?_
    refine oCastore K282 77 (by simp) A283 7 (by decide) (by decide) nlt (by decide : nar .char (99 : Int32) = (99 : Int32)) (hb hby at_76) ?_
    intro T288 h284 lo287 K289 W285 A286
    have A290 : Ary Z h284 a228 .char [(.int 109), (.int 105), (.int 99), (.int 114), (.int 111), (.int 115), (.int 101), (.int 99), (.int 0), (.int 0), (.int 0)] := A286
    refine oDup K289 78 (hb hby at_77) rfl ?_
    refine oBipushV K289 80 (8 : Int32) (hb hby at_78) (by decide) ?_
    refine oBipushV K289 82 (111 : Int32) (hb hby at_80) (by decide) ?_
    refine oCastore K289 83 (by simp) A290 8 (by decide) (by decide) nlt (by decide : nar .char (111 : Int32) = (111 : Int32)) (hb hby at_82) ?_
    intro T295 h291 lo294 K296 W292 A293
    have A297 : Ary Z h291 a228 .char [(.int 109), (.int 105), (.int 99), (.int 114), (.int 111), (.int 115), (.int 101), (.int 99), (.int 111), (.int 0), (.int 0)] := A293
    refine oDup K296 84 (hb hby at_83) rfl ?_
    refine oBipushV K296 86 (9 : Int32) (hb hby at_84) (by decide) ?_
    refine oBipushV K296 88 (110 : Int32) (hb hby at_86) (by decide) ?_
    refine oCastore K296 89 (by simp) A297 9 (by decide) (by decide) nlt (by decide : nar .char (110 : Int32) = (110 : Int32)) (hb hby at_88) ?_
    intro T302 h298 lo301 K303 W299 A300
    have A304 : Ary Z h298 a228 .char [(.int 109), (.int 105), (.int 99), (.int 114), (.int 111), (.int 115), (.int 101), (.int 99), (.int 111), (.int 110), (.int 0)] := A300
    refine oDup K303 90 (hb hby at_89) rfl ?_
    refine oBipushV K303 92 (10 : Int32) (hb hby at_90) (by decide) ?_
    refine oBipushV K303 94 (100 : Int32) (hb hby at_92) (by decide) ?_
    refine oCastore K303 95 (by simp) A304 10 (by decide) (by decide) nlt (by decide : nar .char (100 : Int32) = (100 : Int32)) (hb hby at_94) ?_
    intro T309 h305 lo308 K310 W306 A307
    have A311 : Ary Z h305 a228 .char [(.int 109), (.int 105), (.int 99), (.int 114), (.int 111), (.int 115), (.int 101), (.int 99), (.int 111), (.int 110), (.int 100)] := A307
    refine oAstoreN K310 96 (hb hby at_95) rfl (l' := #[.val (.int p0), .val (.int 1), .val (.ref a199), .val (.ref a228), .unset, .unset, .unset]) rfl ?_
    refine oIloadN K310 97 (hb hby at_96) rfl ?_
    refine oIfNo K310 100 (hb hby at_97) (XT.i0_eq_f (by decide)) ?_
    refine oNew K310 103 (wq hw 1) (wq hw 2) (wq hw 3) (hb hby at_100) (by decide) (by decide) ?_
    intro T318 h312 a313 g314 K319 E315 X316 D317
    have F320 : Fld Z h312 a313 "java/lang/String" "coder" "B" (.int 0) := D317 (Or.inr (wq hw 27)) (ty := .byte) (by decide)
    have F321 : Fld Z h312 a313 "java/lang/String" "value" "[B" .null := D317 (Or.inr (wq hw 29)) (ty := (.array .byte)) (by decide)
    have K322 := K319.to 3 18 [a313, a228, a199]
    refine oDup K322 104 (hb hby at_103) rfl ?_
    refine oAloadN K322 105 (hb hby at_104) rfl rfl ?_
    obtain ⟨kc323, Kc324⟩ := Ary.arv (A311.ext E315) (.int 0) (n := (11 : Int32)) rfl
    have Kc324 : Arv Z h312 a228 kc323 .char (11 : Int32) (([(109 : Int32), (105 : Int32), (99 : Int32), (114 : Int32), (111 : Int32), (115 : Int32), (101 : Int32), (99 : Int32), (111 : Int32), (110 : Int32), (100 : Int32)] : List Int32).map Value.int) (.int 0) := Kc324
    refine oSpecialN K322 108 1 (StrChars.Road.QV Z a313 (11 : Int32) ([(109 : Int32), (105 : Int32), (99 : Int32), (114 : Int32), (111 : Int32), (115 : Int32), (101 : Int32), (99 : Int32), (111 : Int32), (110 : Int32), (100 : Int32)] : List Int32) h312 Z.heap.size) (wq hw 4) (wq hw 5) (wq hw 6)
      (fun s' hZ' => StrChars.Road.backV (W := 1) hZ' (own_hws hw) (kI := 4) (wq hw 2) (cs := ([(109 : Int32), (105 : Int32), (99 : Int32), (114 : Int32), (111 : Int32), (115 : Int32), (101 : Int32), (99 : Int32), (111 : Int32), (110 : Int32), (100 : Int32)] : List Int32)) (bs := ([(109 : Int32), (105 : Int32), (99 : Int32), (114 : Int32), (111 : Int32), (115 : Int32), (101 : Int32), (99 : Int32), (111 : Int32), (110 : Int32), (100 : Int32)] : List Int32)) (n := 11) (n0 := Z.heap.size) (K322.ge (by simp)) K322.old.1 X316 F321 F320 Kc324 (OS.ext K322.old) hz0 rfl rfl (by decide) (by decide) (by intro c hc; simp only [List.mem_cons, List.not_mem_nil, or_false] at hc; rcases hc with rfl | rfl | rfl | rfl | rfl | rfl | rfl | rfl | rfl | rfl | rfl <;> first | decide | exact chr255 _) rfl (by decide) (by decide))
      (ws := [a313]) (fun v h' L q => ⟨q.2.1, q.2.2.1⟩) [(.ref a228)] [(.ref a313)] (lenOf pd55 rfl) (hb hby at_105) ?_
    intro T325 h327 v328 lo329 L330 K326 Kp331 q332
    obtain ⟨rfl, -, -, f334, f335, t333, f336, -, f337, f338, f339, f340⟩ := q332
    have A341 : Ary Z h327 t333 .byte [(.int 109), (.int 105), (.int 99), (.int 114), (.int 111), (.int 115), (.int 101), (.int 99), (.int 111), (.int 110), (.int 100)] := Ary.ofArv f340 rfl nlt
    have K342 := K326.to 4 29 [a313, a228, a199]
    refine Owe.stk [(.ref a313)] ?_
    refine oGoto K342 119 (hb hby at_108) ?_
    refine oAstore K342 121 (hb hby at_119) rfl (l' := #[.val (.int p0), .val (.int 1), .val (.ref a199), .val (.ref a228), .val (.ref a313), .unset, .unset]) rfl ?_
    refine oIloadN K342 122 (hb hby at_121) rfl ?_
    refine oIfNo K342 125 (hb hby at_122) (XT.i0_eq_f (by decide)) ?_
    refine oGetS K342 128 (wq hw 86) (O2.ext K342.old) (hb hby at_125) ?_
    intro T343 K344
    refine oGoto K344 134 (hb hby at_128) ?_
    refine oAstore K344 136 (hb hby at_134) rfl (l' := #[.val (.int p0), .val (.int 1), .val (.ref a199), .val (.ref a228), .val (.ref a313), .val (.ref mA), .unset]) rfl ?_
    refine oAload K344 138 (hb hby at_136) rfl rfl ?_
    refine oStatic K344 141 0 (wq hw 33) (wq hw 34) (wq hw 31) (wq hw 35) (rmGNm l Z a0 z0 dA mA vA ds ms dv mv G a313 t333 h327 K344.old K344.both f334 f335 f339 A341) [(.ref a313)] [] (lenOf pd56 rfl) (hb hby at_138) ?_
    intro T345 h347 v348 lo349 fs350 K346 Kp351 q352
    obtain ⟨rfl, rfl⟩ := q352
    have K353 := K346.to 7 51 [a313, a228, a199]
    refine Owe.stk [(.ref mA)] ?_
    refine oAstore K353 143 (hb hby at_141) rfl (l' := #[.val (.int p0), .val (.int 1), .val (.ref a199), .val (.ref a228), .val (.ref a313), .val (.ref mA), .val (.ref mA)]) rfl ?_
    refine oAload K353 145 (hb hby at_143) rfl rfl ?_
    refine oAload K353 147 (hb hby at_145) rfl rfl ?_
    refine oAcmpYes K353 152 (hb hby at_147) rfl rfl (XT.aa_eq_t rfl) ?_
    refine oAload K353 154 (hb hby at_152) rfl rfl ?_
    refine oVirtual K353 157 0 (wq hw 82) (wq hw 83) (nfSel (wq hw 84)) (wq hw 84) (wq hw 63) (wq hw 31) (wq hw 67) (O5.ext K353.old) (rmSpell l Z a0 z0 dA mA vA ds ms dv mv G mA ms h347 K353.old K353.both (O9.ext K353.old)) [] [] (lenOf pd31 rfl) (hb hby at_154) ?_
    intro T354 h356 v357 lo358 fs359 K355 Kp360 q361
    obtain ⟨rfl, rfl⟩ := q361
    have K362 := K355.to 7 51 [a313, a228, a199]
    refine Owe.stk [(.ref ms)] ?_
    refine oAload K362 159 (hb hby at_157) rfl rfl ?_
    obtain ⟨kc363, Kc364⟩ := Ary.arv (O17.ext K362.old) (.int 0) (n := Int32.ofNat 11) rfl
    have Kc364 : Arv Z h356 mv kc363 .byte (Int32.ofNat 11) ((cs42.map StrChars.lo8).map Value.int) (.int 0) := by rw [kb42]; exact Kc364
    obtain ⟨kc365, Kc366⟩ := Ary.arv ((A341.keep Kp351 nin0).keep Kp360 nin0) (.int 0) (n := Int32.ofNat 11) rfl
    have Kc366 : Arv Z h356 t333 kc365 .byte (Int32.ofNat 11) ((cs42.map StrChars.lo8).map Value.int) (.int 0) := by rw [kb42]; exact Kc366
    refine oVirtualN K362 162 0 (fun v h' L => ((v = some (.int 1) ∧ cs42 = cs42) ∨ (v = some (.int 0) ∧ ¬ cs42 = cs42)) ∧ L = [] ∧ h' = h356) (wq hw 85) (wq hw 71) (nfSel (wq hw 73)) (wq hw 73) (wq hw 72) (O11.ext K362.old)
      (fun s' hZ' => StrChars.Road.eqW (W := 0) hZ' (own_heq hw) (kI := 4) (wq hw 2) (O11.ext K362.old) (O15.ext K362.old) (O13.ext K362.old) Kc364 (StrChars.Road.codOf (cs := cs42) (n := 11) rfl (fun c hc => (kp42 c hc).2)) (fun c hc => up255 (kp42 c hc)) (by decide) ((f334.keep Kp351).keep Kp360) ((f339.keep Kp351 nin0).keep Kp360 nin0) ((f335.keep Kp351 nin0).keep Kp360 nin0) Kc366 (StrChars.Road.codOf (cs := cs42) (n := 11) rfl (fun c hc => (kp42 c hc).2)) (fun c hc => up255 (kp42 c hc)) (by decide) (OS.ext K362.old) hz0 (by decide) (by decide))
      (ws := []) (fun v h' L q => by obtain ⟨-, rfl, rfl⟩ := q; exact ⟨Fr.nil _, Keep.refl _ _⟩) [(.ref a313)] [] (lenOf pd35 rfl) (hb hby at_159) ?_
    intro T367 h369 v370 lo371 L372 K368 Kp373 q374
    obtain ⟨q374, rfl, hh2⟩ := q374
    subst h369
    obtain rfl : v370 = some (.int (1 : Int32)) := by rcases q374 with ⟨rfl, q⟩ | ⟨rfl, q⟩; exact rfl; exact absurd rfl q
    have K375 := K368.to 7 51 [a313, a228, a199]
    refine Owe.stk [(.int 1)] ?_
    refine oIfYes K375 167 (hb hby at_162) (XT.i0_ne_t (by decide)) ?_
    refine oAload K375 169 (hb hby at_167) rfl rfl ?_
    refine oVirtual K375 172 0 (wq hw 82) (wq hw 83) (nfSel (wq hw 84)) (wq hw 84) (wq hw 63) (wq hw 31) (wq hw 67) (O5.ext K375.old) (rmSpell l Z a0 z0 dA mA vA ds ms dv mv G mA ms h356 K375.old K375.both (O9.ext K375.old)) [] [] (lenOf pd31 rfl) (hb hby at_169) ?_
    intro T376 h378 v379 lo380 fs381 K377 Kp382 q383
    obtain ⟨rfl, rfl⟩ := q383
    have K384 := K377.to 7 51 [a313, a228, a199]
    refine Owe.stk [(.ref ms)] ?_
    refine oStatic K384 175 0 (wq hw 33) (wq hw 34) (wq hw 31) (wq hw 35) (rmGNm l Z a0 z0 dA mA vA ds ms dv mv G ms mv h378 K384.old K384.both (O11.ext K384.old) (O13.ext K384.old) (O15.ext K384.old) (O17.ext K384.old)) [(.ref ms)] [] (lenOf pd56 rfl) (hb hby at_172) ?_
    intro T385 h387 v388 lo389 fs390 K386 Kp391 q392
    obtain ⟨rfl, rfl⟩ := q392
    have K393 := K386.to 10 73 [a313, a228, a199]
    refine Owe.stk [(.ref mA)] ?_
    refine oAload K393 177 (hb hby at_175) rfl rfl ?_
    refine oAcmpNo K393 180 (hb hby at_177) rfl rfl (XT.aa_ne_f rfl) ?_
    refine oIconstV K393 181 (1 : Int32) (hb hby at_180) rfl ?_
    refine oGoto K393 185 (hb hby at_181) ?_
    exact oRetI K393 [] (t := .boolean) hret (by simp) (by decide) (hb hby at_185) (by decide) (by decide) hlk (fun x hx => by cases hx) ⟨rfl, rfl⟩
def narrowL : List Jvm.Cond := [(Jvm.Cond.exactly (Jvm.Term.static "com/example/gannet/gannet/window/Granularity" "DAY" "Lcom/example/gannet/gannet/window/Granularity;") "com/example/gannet/gannet/window/Granularity"), (Jvm.Cond.arrayOf (Jvm.Term.static "com/example/gannet/gannet/window/Granularity" "$VALUES" "[Lcom/example/gannet/gannet/window/Granularity;") (Jvm.ClassFile.FieldType.object "com/example/gannet/gannet/window/Granularity")), (Jvm.Cond.exactly (Jvm.Term.static "com/example/gannet/gannet/window/Granularity" "$VALUES" "[Lcom/example/gannet/gannet/window/Granularity;") "[Lcom/example/gannet/gannet/window/Granularity;"), (Jvm.Cond.eq (Jvm.Term.length (Jvm.Term.static "com/example/gannet/gannet/window/Granularity" "$VALUES" "[Lcom/example/gannet/gannet/window/Granularity;")) (Jvm.Term.int (2 : Int32))), (Jvm.Cond.eq (Jvm.Term.elem (Jvm.Term.static "com/example/gannet/gannet/window/Granularity" "$VALUES" "[Lcom/example/gannet/gannet/window/Granularity;") (Jvm.Term.int (0 : Int32))) (Jvm.Term.static "com/example/gannet/gannet/window/Granularity" "DAY" "Lcom/example/gannet/gannet/window/Granularity;")), (Jvm.Cond.exactly (Jvm.Term.static "com/example/gannet/gannet/window/Granularity" "MICROSECOND" "Lcom/example/gannet/gannet/window/Granularity;") "com/example/gannet/gannet/window/Granularity"), (Jvm.Cond.eq (Jvm.Term.elem (Jvm.Term.static "com/example/gannet/gannet/window/Granularity" "$VALUES" "[Lcom/example/gannet/gannet/window/Granularity;") (Jvm.Term.int (1 : Int32))) (Jvm.Term.static "com/example/gannet/gannet/window/Granularity" "MICROSECOND" "Lcom/example/gannet/gannet/window/Granularity;")), (Jvm.Cond.exactly (Jvm.Term.field (Jvm.Term.static "com/example/gannet/gannet/window/Granularity" "DAY" "Lcom/example/gannet/gannet/window/Granularity;") "com/example/gannet/gannet/window/Granularity" "spelling" "Ljava/lang/String;") "java/lang/String"), (Jvm.Cond.eq (Jvm.Term.field (Jvm.Term.field (Jvm.Term.static "com/example/gannet/gannet/window/Granularity" "DAY" "Lcom/example/gannet/gannet/window/Granularity;") "com/example/gannet/gannet/window/Granularity" "spelling" "Ljava/lang/String;") "java/lang/String" "coder" "B") (Jvm.Term.int (0 : Int32))), (Jvm.Cond.arrayOf (Jvm.Term.field (Jvm.Term.field (Jvm.Term.static "com/example/gannet/gannet/window/Granularity" "DAY" "Lcom/example/gannet/gannet/window/Granularity;") "com/example/gannet/gannet/window/Granularity" "spelling" "Ljava/lang/String;") "java/lang/String" "value" "[B") Jvm.ClassFile.FieldType.byte), (Jvm.Cond.eq (Jvm.Term.length (Jvm.Term.field (Jvm.Term.field (Jvm.Term.static "com/example/gannet/gannet/window/Granularity" "DAY" "Lcom/example/gannet/gannet/window/Granularity;") "com/example/gannet/gannet/window/Granularity" "spelling" "Ljava/lang/String;") "java/lang/String" "value" "[B")) (Jvm.Term.int (3 : Int32))), (Jvm.Cond.eq (Jvm.Term.elem (Jvm.Term.field (Jvm.Term.field (Jvm.Term.static "com/example/gannet/gannet/window/Granularity" "DAY" "Lcom/example/gannet/gannet/window/Granularity;") "com/example/gannet/gannet/window/Granularity" "spelling" "Ljava/lang/String;") "java/lang/String" "value" "[B") (Jvm.Term.int (0 : Int32))) (Jvm.Term.int (100 : Int32))), (Jvm.Cond.eq (Jvm.Term.elem (Jvm.Term.field (Jvm.Term.field (Jvm.Term.static "com/example/gannet/gannet/window/Granularity" "DAY" "Lcom/example/gannet/gannet/window/Granularity;") "com/example/gannet/gannet/window/Granularity" "spelling" "Ljava/lang/String;") "java/lang/String" "value" "[B") (Jvm.Term.int (1 : Int32))) (Jvm.Term.int (97 : Int32))), (Jvm.Cond.eq (Jvm.Term.elem (Jvm.Term.field (Jvm.Term.field (Jvm.Term.static "com/example/gannet/gannet/window/Granularity" "DAY" "Lcom/example/gannet/gannet/window/Granularity;") "com/example/gannet/gannet/window/Granularity" "spelling" "Ljava/lang/String;") "java/lang/String" "value" "[B") (Jvm.Term.int (2 : Int32))) (Jvm.Term.int (121 : Int32))), (Jvm.Cond.exactly (Jvm.Term.field (Jvm.Term.static "com/example/gannet/gannet/window/Granularity" "MICROSECOND" "Lcom/example/gannet/gannet/window/Granularity;") "com/example/gannet/gannet/window/Granularity" "spelling" "Ljava/lang/String;") "java/lang/String"), (Jvm.Cond.eq (Jvm.Term.field (Jvm.Term.field (Jvm.Term.static "com/example/gannet/gannet/window/Granularity" "MICROSECOND" "Lcom/example/gannet/gannet/window/Granularity;") "com/example/gannet/gannet/window/Granularity" "spelling" "Ljava/lang/String;") "java/lang/String" "coder" "B") (Jvm.Term.int (0 : Int32))), (Jvm.Cond.arrayOf (Jvm.Term.field (Jvm.Term.field (Jvm.Term.static "com/example/gannet/gannet/window/Granularity" "MICROSECOND" "Lcom/example/gannet/gannet/window/Granularity;") "com/example/gannet/gannet/window/Granularity" "spelling" "Ljava/lang/String;") "java/lang/String" "value" "[B") Jvm.ClassFile.FieldType.byte), (Jvm.Cond.eq (Jvm.Term.length (Jvm.Term.field (Jvm.Term.field (Jvm.Term.static "com/example/gannet/gannet/window/Granularity" "MICROSECOND" "Lcom/example/gannet/gannet/window/Granularity;") "com/example/gannet/gannet/window/Granularity" "spelling" "Ljava/lang/String;") "java/lang/String" "value" "[B")) (Jvm.Term.int (11 : Int32))), (Jvm.Cond.not (Jvm.Cond.eq (Jvm.Term.field (Jvm.Term.static "com/example/gannet/gannet/window/Granularity" "DAY" "Lcom/example/gannet/gannet/window/Granularity;") "com/example/gannet/gannet/window/Granularity" "spelling" "Ljava/lang/String;") (Jvm.Term.field (Jvm.Term.static "com/example/gannet/gannet/window/Granularity" "MICROSECOND" "Lcom/example/gannet/gannet/window/Granularity;") "com/example/gannet/gannet/window/Granularity" "spelling" "Ljava/lang/String;"))), (Jvm.Cond.eq (Jvm.Term.elem (Jvm.Term.field (Jvm.Term.field (Jvm.Term.static "com/example/gannet/gannet/window/Granularity" "MICROSECOND" "Lcom/example/gannet/gannet/window/Granularity;") "com/example/gannet/gannet/window/Granularity" "spelling" "Ljava/lang/String;") "java/lang/String" "value" "[B") (Jvm.Term.int (0 : Int32))) (Jvm.Term.int (109 : Int32))), (Jvm.Cond.eq (Jvm.Term.elem (Jvm.Term.field (Jvm.Term.field (Jvm.Term.static "com/example/gannet/gannet/window/Granularity" "MICROSECOND" "Lcom/example/gannet/gannet/window/Granularity;") "com/example/gannet/gannet/window/Granularity" "spelling" "Ljava/lang/String;") "java/lang/String" "value" "[B") (Jvm.Term.int (1 : Int32))) (Jvm.Term.int (105 : Int32))), (Jvm.Cond.eq (Jvm.Term.elem (Jvm.Term.field (Jvm.Term.field (Jvm.Term.static "com/example/gannet/gannet/window/Granularity" "MICROSECOND" "Lcom/example/gannet/gannet/window/Granularity;") "com/example/gannet/gannet/window/Granularity" "spelling" "Ljava/lang/String;") "java/lang/String" "value" "[B") (Jvm.Term.int (2 : Int32))) (Jvm.Term.int (99 : Int32))), (Jvm.Cond.eq (Jvm.Term.elem (Jvm.Term.field (Jvm.Term.field (Jvm.Term.static "com/example/gannet/gannet/window/Granularity" "MICROSECOND" "Lcom/example/gannet/gannet/window/Granularity;") "com/example/gannet/gannet/window/Granularity" "spelling" "Ljava/lang/String;") "java/lang/String" "value" "[B") (Jvm.Term.int (3 : Int32))) (Jvm.Term.int (114 : Int32))), (Jvm.Cond.eq (Jvm.Term.elem (Jvm.Term.field (Jvm.Term.field (Jvm.Term.static "com/example/gannet/gannet/window/Granularity" "MICROSECOND" "Lcom/example/gannet/gannet/window/Granularity;") "com/example/gannet/gannet/window/Granularity" "spelling" "Ljava/lang/String;") "java/lang/String" "value" "[B") (Jvm.Term.int (4 : Int32))) (Jvm.Term.int (111 : Int32))), (Jvm.Cond.eq (Jvm.Term.elem (Jvm.Term.field (Jvm.Term.field (Jvm.Term.static "com/example/gannet/gannet/window/Granularity" "MICROSECOND" "Lcom/example/gannet/gannet/window/Granularity;") "com/example/gannet/gannet/window/Granularity" "spelling" "Ljava/lang/String;") "java/lang/String" "value" "[B") (Jvm.Term.int (5 : Int32))) (Jvm.Term.int (115 : Int32))), (Jvm.Cond.eq (Jvm.Term.elem (Jvm.Term.field (Jvm.Term.field (Jvm.Term.static "com/example/gannet/gannet/window/Granularity" "MICROSECOND" "Lcom/example/gannet/gannet/window/Granularity;") "com/example/gannet/gannet/window/Granularity" "spelling" "Ljava/lang/String;") "java/lang/String" "value" "[B") (Jvm.Term.int (6 : Int32))) (Jvm.Term.int (101 : Int32))), (Jvm.Cond.eq (Jvm.Term.elem (Jvm.Term.field (Jvm.Term.field (Jvm.Term.static "com/example/gannet/gannet/window/Granularity" "MICROSECOND" "Lcom/example/gannet/gannet/window/Granularity;") "com/example/gannet/gannet/window/Granularity" "spelling" "Ljava/lang/String;") "java/lang/String" "value" "[B") (Jvm.Term.int (7 : Int32))) (Jvm.Term.int (99 : Int32))), (Jvm.Cond.eq (Jvm.Term.elem (Jvm.Term.field (Jvm.Term.field (Jvm.Term.static "com/example/gannet/gannet/window/Granularity" "MICROSECOND" "Lcom/example/gannet/gannet/window/Granularity;") "com/example/gannet/gannet/window/Granularity" "spelling" "Ljava/lang/String;") "java/lang/String" "value" "[B") (Jvm.Term.int (8 : Int32))) (Jvm.Term.int (111 : Int32))), (Jvm.Cond.eq (Jvm.Term.elem (Jvm.Term.field (Jvm.Term.field (Jvm.Term.static "com/example/gannet/gannet/window/Granularity" "MICROSECOND" "Lcom/example/gannet/gannet/window/Granularity;") "com/example/gannet/gannet/window/Granularity" "spelling" "Ljava/lang/String;") "java/lang/String" "value" "[B") (Jvm.Term.int (9 : Int32))) (Jvm.Term.int (110 : Int32)))]
theorem comes_1 {Post : Tables → Env → Array Value → State → Outcome → State → Prop} (hpost : ∀ tb e args s v u, (limb_1_1.after args s (.returned v) u = true ∧ limb_1_2.after args s (.returned v) u = true ∧ True) → FramedW s (.returned v) u (Jvm.fieldLocs frame_1_writes args s ++ Jvm.arrayLocs frame_1_arrays args s ++ Jvm.staticLocs frame_1_statics s) 24 1216 → Post tb e args s (.returned v) u) :
    ArmFor flags0 classFile x code maxLocals ret World_1 tables_1 room_1 Calls_1 rest_1 Pre_1 Post := by
  intro l hfl _ _ p e ha hc hk s m args below hf hA hF happ hP
  obtain ⟨hcalls, hrest, hpre⟩ := hP
  obtain ⟨-, -, -, hnamed, -, -, -, hat⟩ := (Spec.applies_iff hf).mp happ
  obtain ⟨hg, hn⟩ := and_e (Cond.before_iff.mp (show (Jvm.Cond.and given_1 narrow_1).before args s = true from hpre))
  obtain ⟨hx0, hr0⟩ := and_e hg
  obtain ⟨w0, rfl⟩ : ∃ w0 : Value, args = #[w0] := by
    have hs : args.size = 1 := by simpa [Cond.value, given_1] using hx0
    obtain ⟨L⟩ := args
    match L, hs with
    | [w0], _ => exact ⟨w0, rfl⟩
  have hw := fun d (hd : d ∈ tables_1) => atoms_spec (ws := Jvm.Cond.code x code maxLocals ret :: tables_1) hat d (List.mem_cons_of_mem _ hd)
  obtain ⟨hsets, hown0⟩ := atoms_of _ (rest_1_c_eq ▸ (show rest_1_c.before _ s = true from hrest))
  have hfit : Fit s := fun {y c} hc i hi => by
    obtain ⟨ha, rfl⟩ := Array.getElem?_eq_some_iff.mp hc
    have q := List.all_eq_true.mp ((Array.all_eq_true_iff_forall_mem.mp hF) _ (Array.getElem_mem ha)) i (List.mem_range.mpr hi)
    simpa [Array.getElem?_eq_getElem hi] using q
  obtain ⟨i0, e0⟩ := is_v hr0
  obtain rfl : w0 = (.int i0) := Option.some.inj e0
  have wS : ∀ a ∈ Bundle.stringAtoms, a.before #[(.int i0)] s = true := fun a ha => hw a ((by decide +kernel : ∀ d ∈ Bundle.stringAtoms, d ∈ tables_1) a ha)
  have n5 := not_v (Cond.before_iff.mp (hsets _ (List.mem_of_getElem? (i := 2) rfl)))
  obtain ⟨z0, ez0⟩ := is_v (Cond.before_iff.mp (hsets _ (List.mem_of_getElem? (i := 1) rfl)))
  have OS : Sta s s.heap "java/lang/String" "COMPACT_STRINGS" "Z" (.int z0) := Sta.start ez0 (Or.inl (hsets _ (List.mem_of_getElem? (i := 0) rfl)))
  have hz0 : ¬ (z0 = (0 : Int32)) := gotF (Cond.eq_ints ez0 (Term.int_eval (0))) n5
  have hEL : EW s #[(.int i0)] ELs := EW.nil
  have hCH : CHv s ELs s.vm s.heap := fun q hq => by cases hq
  obtain ⟨hnw, hlast⟩ := atoms_of (own := Jvm.Cond.eq (Jvm.Term.elem (Jvm.Term.field (Jvm.Term.field (Jvm.Term.static "com/example/gannet/gannet/window/Granularity" "MICROSECOND" "Lcom/example/gannet/gannet/window/Granularity;") "com/example/gannet/gannet/window/Granularity" "spelling" "Ljava/lang/String;") "java/lang/String" "value" "[B") (Jvm.Term.int (10 : Int32))) (Jvm.Term.int (100 : Int32))) narrowL (Cond.before_iff.mpr hn)
  have nq : ∀ {d : Jvm.Cond} (i : Nat), narrowL[i]? = some d → d.before #[(.int i0)] s = true := fun i h => hnw _ (List.mem_of_getElem? h)
  have iG : (Jvm.Cond.initialized "com/example/gannet/gannet/window/Granularity").before #[(.int i0)] s = true := (wq hw 31)
  obtain ⟨dA, edA⟩ := exa_v (Cond.before_iff.mp (nq 0 rfl))
  obtain ⟨mA, emA⟩ := exa_v (Cond.before_iff.mp (nq 5 rfl))
  obtain ⟨vA, evA⟩ := arr_v (Cond.before_iff.mp (nq 1 rfl))
  have O1 : Sta s s.heap "com/example/gannet/gannet/window/Granularity" "DAY" "Lcom/example/gannet/gannet/window/Granularity;" (.ref dA) := Sta.start edA (Or.inr ⟨iG, (wq hw 32)⟩)
  have O2 : Sta s s.heap "com/example/gannet/gannet/window/Granularity" "MICROSECOND" "Lcom/example/gannet/gannet/window/Granularity;" (.ref mA) := Sta.start emA (Or.inr ⟨iG, (wq hw 48)⟩)
  have O3 : Sta s s.heap "com/example/gannet/gannet/window/Granularity" "$VALUES" "[Lcom/example/gannet/gannet/window/Granularity;" (.ref vA) := Sta.start evA (Or.inr ⟨iG, (wq hw 40)⟩)
  have O4 : Exa s s.heap dA "com/example/gannet/gannet/window/Granularity" := Exa.start edA (Cond.before_iff.mp (nq 0 rfl))
  have O5 : Exa s s.heap mA "com/example/gannet/gannet/window/Granularity" := Exa.start emA (Cond.before_iff.mp (nq 5 rfl))
  have O7 : Exa s s.heap vA "[Lcom/example/gannet/gannet/window/Granularity;" := Exa.start evA (Cond.before_iff.mp (nq 2 rfl))
  have v0 := Cond.eq_refs (nq 4 rfl) edA rfl
  have v1 := Cond.eq_refs (nq 6 rfl) emA rfl
  have O6 : Ary s s.heap vA (.object "com/example/gannet/gannet/window/Granularity") [(.ref dA), (.ref mA)] := Ary.start hfit evA (Cond.before_iff.mp (nq 1 rfl)) (Cond.eq_int (nq 3 rfl) (Term.int_eval _)) rfl (fun i v h => match i, h with
    | 0, h => ⟨rfl, v0.trans h⟩
    | 1, h => ⟨rfl, v1.trans h⟩
    | k + 2, h => nomatch h)
  obtain ⟨ds, eds⟩ := exa_v (Cond.before_iff.mp (nq 7 rfl))
  obtain ⟨ms, ems⟩ := exa_v (Cond.before_iff.mp (nq 14 rfl))
  have O8 : Fld s s.heap dA "com/example/gannet/gannet/window/Granularity" "spelling" "Ljava/lang/String;" (.ref ds) := Fld.start ((fld_at edA).symm.trans eds)
  have O9 : Fld s s.heap mA "com/example/gannet/gannet/window/Granularity" "spelling" "Ljava/lang/String;" (.ref ms) := Fld.start ((fld_at emA).symm.trans ems)
  have O10 : Exa s s.heap ds "java/lang/String" := Exa.start eds (Cond.before_iff.mp (nq 7 rfl))
  have O11 : Exa s s.heap ms "java/lang/String" := Exa.start ems (Cond.before_iff.mp (nq 14 rfl))
  have O12 : Fld s s.heap ds "java/lang/String" "coder" "B" (.int (0 : Int32)) := Fld.start ((fld_at eds).symm.trans (Cond.eq_int (nq 8 rfl) (Term.int_eval _)))
  have O13 : Fld s s.heap ms "java/lang/String" "coder" "B" (.int (0 : Int32)) := Fld.start ((fld_at ems).symm.trans (Cond.eq_int (nq 15 rfl) (Term.int_eval _)))
  obtain ⟨dv, edv⟩ := arr_v (Cond.before_iff.mp (nq 9 rfl))
  obtain ⟨mv, emv⟩ := arr_v (Cond.before_iff.mp (nq 16 rfl))
  have O14 : Fld s s.heap ds "java/lang/String" "value" "[B" (.ref dv) := Fld.start ((fld_at eds).symm.trans edv)
  have O15 : Fld s s.heap ms "java/lang/String" "value" "[B" (.ref mv) := Fld.start ((fld_at ems).symm.trans emv)
  have O16 : Ary s s.heap dv .byte [(.int 100), (.int 97), (.int 121)] := Ary.start hfit edv (Cond.before_iff.mp (nq 9 rfl)) (Cond.eq_int (nq 10 rfl) (Term.int_eval _)) rfl (fun i v h => match i, h with
    | 0, h => ⟨rfl, (Cond.eq_int (nq 11 rfl) (Term.int_eval _)).trans h⟩
    | 1, h => ⟨rfl, (Cond.eq_int (nq 12 rfl) (Term.int_eval _)).trans h⟩
    | 2, h => ⟨rfl, (Cond.eq_int (nq 13 rfl) (Term.int_eval _)).trans h⟩
    | k + 3, h => nomatch h)
  have O17 : Ary s s.heap mv .byte [(.int 109), (.int 105), (.int 99), (.int 114), (.int 111), (.int 115), (.int 101), (.int 99), (.int 111), (.int 110), (.int 100)] := Ary.start hfit emv (Cond.before_iff.mp (nq 16 rfl)) (Cond.eq_int (nq 17 rfl) (Term.int_eval _)) rfl (fun i v h => match i, h with
    | 0, h => ⟨rfl, (Cond.eq_int (nq 19 rfl) (Term.int_eval _)).trans h⟩
    | 1, h => ⟨rfl, (Cond.eq_int (nq 20 rfl) (Term.int_eval _)).trans h⟩
    | 2, h => ⟨rfl, (Cond.eq_int (nq 21 rfl) (Term.int_eval _)).trans h⟩
    | 3, h => ⟨rfl, (Cond.eq_int (nq 22 rfl) (Term.int_eval _)).trans h⟩
    | 4, h => ⟨rfl, (Cond.eq_int (nq 23 rfl) (Term.int_eval _)).trans h⟩
    | 5, h => ⟨rfl, (Cond.eq_int (nq 24 rfl) (Term.int_eval _)).trans h⟩
    | 6, h => ⟨rfl, (Cond.eq_int (nq 25 rfl) (Term.int_eval _)).trans h⟩
    | 7, h => ⟨rfl, (Cond.eq_int (nq 26 rfl) (Term.int_eval _)).trans h⟩
    | 8, h => ⟨rfl, (Cond.eq_int (nq 27 rfl) (Term.int_eval _)).trans h⟩
    | 9, h => ⟨rfl, (Cond.eq_int (nq 28 rfl) (Term.int_eval _)).trans h⟩
    | 10, h => ⟨rfl, (Cond.eq_int (hlast) (Term.int_eval _)).trans h⟩
    | k + 11, h => nomatch h)
  obtain ⟨n, o, h1, h2, h3, v, L, fs, rfl, ⟨-, rfl⟩, N, -, -, -, -, w1', w2', w3', w4'⟩ := rmLaw l s _ z0 dA mA vA ds ms dv mv ⟨hw, hEL, wS, OS, hz0, O1, O2, O3, O4, O5, O6, O7, O8, O9, O10, O11, O12, O13, O14, O15, O16, O17⟩ i0 s.heap ⟨Nat.le_refl _, fun _ _ q => q⟩ (fun x hx => by cases hx) p e ha hc hk s m _ below hf ((Spec.applies_iff_loose hf).mp happ).1 ⟨rfl, State.Warmed39.refl s, rfl, hCH, fun x hx => by cases hx⟩ trivial
  refine ⟨n, _, h1, h2, h3, hpost _ _ _ _ _ _ ⟨Cond.after_iff.mpr rfl, Cond.after_iff.mpr (eq_i res_at (Term.int_eval (1)) rfl), trivial⟩ ⟨w1', w2', w3', (w4'.sift fun y hy => Or.inr (N y hy)).mono (by decide) (by decide)⟩⟩
theorem main_1_1 : Claimed_1_1 := comes_1 fun _ _ _ _ _ _ h hF => ⟨h.1, hF⟩
theorem main_1_2 : Claimed_1_2 := comes_1 fun _ _ _ _ _ _ h hF => ⟨h.2.1, hF⟩
end Jvm.Pilot.@@N@@
namespace Jvm.Pilot.@@N@@
open Jvm Jvm.ClassFile Sem Op Lib Jvm.Free Jvm.Stand Jvm.Pilot.@@N@@.Jvm.D
/-! MADE BY PROGRAM (witnessworld.py) out of the Statement's table words and the real class files: 23 classes; the members and pool entries that the words name. The judged class is class 1, her method 1. -/
namespace start1
open Jvm.ClassFile
def u (s : String) : CpInfo := .utf8 (stringToUtf16 s)
/-- a pool by its gaps: so many unusable entries, then the entry; so many at the end -/
def gap : Nat → List CpInfo → List CpInfo
  | 0, r => r
  | n + 1, r => .unusable :: gap n r
def poolList (es : List (Nat × CpInfo)) (last : Nat) : List CpInfo := es.foldr (fun e r => gap e.1 (e.2 :: r)) (gap last [])
def pool (es : List (Nat × CpInfo)) (last : Nat) : Array CpInfo := ⟨poolList es last⟩
def fileOf (pool : Array CpInfo) (this : Nat) (attrs : Array Attribute := #[]) (ms : Array MethodInfo := #[]) (fl : Nat := 33) (sup : Nat := 0) (ifs : Array Nat := #[]) (fds : Array FieldInfo := #[]) : ClassFile where
  minorVersion := 0
  majorVersion := 65
  constantPool := pool
  accessFlags := fl
  thisClass := this
  superClass := sup
  interfaces := ifs
  fields := fds
  methods := ms
  attributes := attrs
def plain (name : String) (sup : Option ClassId) : Class where
  name := name
  kind := .ordinary
  loader := none
  accessFlags := 33
  super := sup
  interfaces := #[]
  cf := none
  fields := #[]
  methods := #[]
  instanceTypes := #[]
  staticTypes := #[]
  resolved := #[]
  callSites := []
  init := .initialized
  statics := none
  mirror := none

def pool0 : Array CpInfo := pool [(5, u "<init>"), (0, u "()V"), (1, .class_ 10), (1, u "java/lang/Object"), (85, u "clone"), (0, u "()Ljava/lang/Object;")] 26

def k0c0 : Code := { maxStack := 0, maxLocals := 1, code := object_method_1_code, exceptionTable := #[], attributes := #[] }
def k0m0 : Method := { name := "<init>", desc := "()V", sig := { parameters := [], returnType := none }, accessFlags := 1, code := some k0c0 }
def k0m1 : Method := { name := "clone", desc := "()Ljava/lang/Object;", sig := { parameters := [], returnType := some (.object "java/lang/Object") }, accessFlags := 260, code := none }
/-- java/lang/Object -/
def k0 : Class := { plain "java/lang/Object" none with
  accessFlags := 33
  interfaces := #[]
  cf := some (fileOf pool0 8 #[] #[{ accessFlags := 1, nameIndex := 5, descriptorIndex := 6, attributes := #[] }, { accessFlags := 260, nameIndex := 96, descriptorIndex := 97, attributes := #[] }] 33 0 #[] #[])
  fields := #[]
  methods := #[k0m0, k0m1]
  instanceTypes := #[]
  staticTypes := #[]
  resolved := Array.replicate 124 none
  statics := none }

def pool1 : Array CpInfo := pool [(2, .class_ 4), (1, u "java/lang/Object"), (0, u "<init>"), (0, u "()V"), (0, .class_ 8), (0, u "java/lang/String"), (0, .methodref 7 10), (0, .nameAndType 5 11), (0, u "([C)V"), (0, .fieldref 13 14), (0, .class_ 15), (0, .nameAndType 16 17), (0, u "com/example/gannet/gannet/window/Granularity"), (0, u "MICROSECOND"), (0, u "Lcom/example/gannet/gannet/window/Granularity;"), (0, .fieldref 13 19), (0, .nameAndType 20 17), (0, u "DAY"), (0, .methodref 13 22), (0, .nameAndType 23 24), (0, u "named"), (0, u "(Ljava/lang/String;)Lcom/example/gannet/gannet/window/Granularity;"), (0, .methodref 13 26), (0, .nameAndType 27 28), (0, u "spelling"), (0, u "()Ljava/lang/String;"), (0, .methodref 7 30), (0, .nameAndType 31 32), (0, u "equals"), (0, u "(Ljava/lang/Object;)Z"), (0, .class_ 34), (0, u "com/example/gannet/gannet/window/GranularityNamedPinLaw"), (2, u "law"), (0, u "(I)Z")] 5

def k1m0 : Method := { name := "<init>", desc := "()V", sig := { parameters := [], returnType := none }, accessFlags := 2, code := none }
def k1c1 : Code := { maxStack := 4, maxLocals := 7, code := code, exceptionTable := #[], attributes := #[] }
def k1m1 : Method := { name := "law", desc := "(I)Z", sig := { parameters := [.int], returnType := some .boolean }, accessFlags := 9, code := some k1c1 }
/-- com/example/gannet/gannet/window/GranularityNamedPinLaw -/
def k1 : Class := { plain "com/example/gannet/gannet/window/GranularityNamedPinLaw" (some 0) with
  accessFlags := 49
  interfaces := #[]
  cf := some (fileOf pool1 33 #[] #[{ accessFlags := 2, nameIndex := 5, descriptorIndex := 6, attributes := #[] }, { accessFlags := 9, nameIndex := 37, descriptorIndex := 38, attributes := #[] }] 49 2 #[] #[])
  fields := #[]
  methods := #[k1m0, k1m1]
  instanceTypes := #[]
  staticTypes := #[]
  resolved := Array.replicate 44 none
  statics := none }

def pool2 : Array CpInfo := pool [(1, .class_ 2), (0, u "java/io/Serializable"), (0, .class_ 4), (0, u "java/lang/Object")] 2

/-- java/io/Serializable -/
def k2 : Class := { plain "java/io/Serializable" (some 0) with
  accessFlags := 1537
  interfaces := #[]
  cf := some (fileOf pool2 1 #[] #[] 1537 3 #[] #[])
  fields := #[]
  methods := #[]
  instanceTypes := #[]
  staticTypes := #[]
  resolved := Array.replicate 7 none
  statics := none }

def pool3 : Array CpInfo := pool [(1, .class_ 2), (0, u "java/lang/Comparable"), (0, .class_ 4), (0, u "java/lang/Object")] 7

/-- java/lang/Comparable -/
def k3 : Class := { plain "java/lang/Comparable" (some 0) with
  accessFlags := 1537
  interfaces := #[]
  cf := some (fileOf pool3 1 #[] #[] 1537 3 #[] #[])
  fields := #[]
  methods := #[]
  instanceTypes := #[]
  staticTypes := #[]
  resolved := Array.replicate 12 none
  statics := none }

def pool4 : Array CpInfo := pool [(2, .class_ 4), (1, u "java/lang/CharSequence"), (42, .class_ 48), (0, u "java/lang/CharSequence$1CodePointIterator"), (10, .class_ 60), (0, u "java/lang/CharSequence$1CharIterator"), (5, .class_ 67), (0, u "java/lang/Object")] 63

/-- java/lang/CharSequence -/
def k4 : Class := { plain "java/lang/CharSequence" (some 0) with
  accessFlags := 1537
  interfaces := #[]
  cf := some (fileOf pool4 2 #[.nestMembers #[47, 59]] #[] 1537 66 #[] #[])
  fields := #[]
  methods := #[]
  instanceTypes := #[]
  staticTypes := #[]
  resolved := Array.replicate 131 none
  statics := none }

def pool5 : Array CpInfo := pool [(1, .class_ 2), (0, u "java/lang/constant/Constable"), (0, .class_ 4), (0, u "java/lang/Object")] 6

/-- java/lang/constant/Constable -/
def k5 : Class := { plain "java/lang/constant/Constable" (some 0) with
  accessFlags := 1537
  interfaces := #[]
  cf := some (fileOf pool5 1 #[] #[] 1537 3 #[] #[])
  fields := #[]
  methods := #[]
  instanceTypes := #[]
  staticTypes := #[]
  resolved := Array.replicate 11 none
  statics := none }

def pool6 : Array CpInfo := pool [(1, .class_ 2), (0, u "java/lang/constant/ConstantDesc"), (0, .class_ 4), (0, u "java/lang/Object")] 32

/-- java/lang/constant/ConstantDesc -/
def k6 : Class := { plain "java/lang/constant/ConstantDesc" (some 0) with
  accessFlags := 1537
  interfaces := #[]
  cf := some (fileOf pool6 1 #[] #[] 1537 3 #[] #[])
  fields := #[]
  methods := #[]
  instanceTypes := #[]
  staticTypes := #[]
  resolved := Array.replicate 37 none
  statics := none }

def pool7 : Array CpInfo := pool [(1, .methodref 2 3), (0, .class_ 4), (0, .nameAndType 5 6), (0, u "java/lang/Object"), (0, u "<init>"), (0, u "()V"), (2, .fieldref 10 11), (0, .class_ 12), (0, .nameAndType 13 14), (0, u "java/lang/String"), (0, u "value"), (0, u "[B"), (0, .fieldref 10 16), (0, .nameAndType 17 18), (0, u "coder"), (0, u "B"), (2, u "hash"), (0, u "I"), (2, u "hashIsZero"), (0, u "Z"), (0, .methodref 10 28), (0, .nameAndType 5 29), (0, u "([CIILjava/lang/Void;)V"), (8, .fieldref 10 39), (0, .nameAndType 40 26), (0, u "COMPACT_STRINGS"), (1, .class_ 44), (1, u "java/lang/StringUTF16"), (0, u "compress"), (1, .methodref 42 48), (0, .nameAndType 49 50), (0, u "coderFromArrayLen"), (0, u "([BI)B"), (56, .class_ 109), (1, u "java/lang/StringLatin1"), (67, .methodref 42 178), (0, .nameAndType 45 179), (0, u "([CII)[B"), (361, .methodref 107 542), (0, .nameAndType 543 544), (0, u "equals"), (0, u "([B[B)Z"), (28, u "(Ljava/lang/Object;)Z"), (1, .class_ 576), (0, u "java/lang/CharSequence"), (22, u "CASE_INSENSITIVE_ORDER"), (0, u "Ljava/util/Comparator;"), (409, u "([C)V"), (90, u "serialPersistentFields"), (0, u "[Ljava/io/ObjectStreamField;"), (0, .class_ 1104), (0, u "java/lang/String$CaseInsensitiveComparator"), (1, .class_ 1107), (0, u "java/io/Serializable"), (0, .class_ 1109), (0, u "java/lang/Comparable"), (0, .class_ 1111), (0, u "java/lang/constant/Constable"), (0, .class_ 1113), (0, u "java/lang/constant/ConstantDesc"), (2, u "serialVersionUID"), (0, u "J"), (3, u "REPL"), (0, u "C"), (2, u "LATIN1"), (1, u "UTF16")] 323

def k7m0 : Method := { name := "<init>", desc := "()V", sig := { parameters := [], returnType := none }, accessFlags := 1, code := none }
def k7c1 : Code := { maxStack := 5, maxLocals := 2, code := jdk_42_method_3_code, exceptionTable := #[], attributes := #[] }
def k7m1 : Method := { name := "<init>", desc := "([C)V", sig := { parameters := [(.array .char)], returnType := none }, accessFlags := 1, code := some k7c1 }
def k7c2 : Code := { maxStack := 2, maxLocals := 3, code := jdk_42_method_66_code, exceptionTable := #[], attributes := #[] }
def k7m2 : Method := { name := "equals", desc := "(Ljava/lang/Object;)Z", sig := { parameters := [(.object "java/lang/Object")], returnType := some .boolean }, accessFlags := 1, code := some k7c2 }
def k7c3 : Code := { maxStack := 4, maxLocals := 6, code := jdk_42_method_149_code, exceptionTable := #[], attributes := #[] }
def k7m3 : Method := { name := "<init>", desc := "([CIILjava/lang/Void;)V", sig := { parameters := [(.array .char), .int, .int, (.object "java/lang/Void")], returnType := none }, accessFlags := 2, code := some k7c3 }
/-- java/lang/String -/
def k7 : Class := { plain "java/lang/String" (some 0) with
  accessFlags := 49
  interfaces := #[2, 3, 4, 5, 6]
  cf := some (fileOf pool7 10 #[.nestMembers #[1103]] #[{ accessFlags := 1, nameIndex := 5, descriptorIndex := 6, attributes := #[] }, { accessFlags := 1, nameIndex := 5, descriptorIndex := 1010, attributes := #[] }, { accessFlags := 1, nameIndex := 543, descriptorIndex := 573, attributes := #[] }, { accessFlags := 2, nameIndex := 5, descriptorIndex := 29, attributes := #[] }] 49 2 #[1106, 1108, 575, 1110, 1112] #[{ accessFlags := 18, nameIndex := 13, descriptorIndex := 14, attributes := #[] }, { accessFlags := 18, nameIndex := 17, descriptorIndex := 18, attributes := #[] }, { accessFlags := 2, nameIndex := 21, descriptorIndex := 22, attributes := #[] }, { accessFlags := 2, nameIndex := 25, descriptorIndex := 26, attributes := #[] }, { accessFlags := 26, nameIndex := 1116, descriptorIndex := 1117, attributes := #[] }, { accessFlags := 24, nameIndex := 40, descriptorIndex := 26, attributes := #[] }, { accessFlags := 26, nameIndex := 1101, descriptorIndex := 1102, attributes := #[] }, { accessFlags := 26, nameIndex := 1121, descriptorIndex := 1122, attributes := #[] }, { accessFlags := 25, nameIndex := 599, descriptorIndex := 600, attributes := #[] }, { accessFlags := 24, nameIndex := 1125, descriptorIndex := 18, attributes := #[] }, { accessFlags := 24, nameIndex := 1127, descriptorIndex := 18, attributes := #[] }])
  fields := #[{ name := "value", type := (.array .byte), accessFlags := 18, slot := 0, constantValue := 0 }, { name := "coder", type := .byte, accessFlags := 18, slot := 1, constantValue := 0 }, { name := "hash", type := .int, accessFlags := 2, slot := 2, constantValue := 0 }, { name := "hashIsZero", type := .boolean, accessFlags := 2, slot := 3, constantValue := 0 }, { name := "serialVersionUID", type := .long, accessFlags := 26, slot := 0, constantValue := 0 }, { name := "COMPACT_STRINGS", type := .boolean, accessFlags := 24, slot := 1, constantValue := 0 }, { name := "serialPersistentFields", type := (.array (.object "java/io/ObjectStreamField")), accessFlags := 26, slot := 2, constantValue := 0 }, { name := "REPL", type := .char, accessFlags := 26, slot := 3, constantValue := 0 }, { name := "CASE_INSENSITIVE_ORDER", type := (.object "java/util/Comparator"), accessFlags := 25, slot := 4, constantValue := 0 }, { name := "LATIN1", type := .byte, accessFlags := 24, slot := 5, constantValue := 0 }, { name := "UTF16", type := .byte, accessFlags := 24, slot := 6, constantValue := 0 }]
  methods := #[k7m0, k7m1, k7m2, k7m3]
  instanceTypes := #[(.array .byte), .byte, .int, .boolean]
  staticTypes := #[.long, .boolean, (.array (.object "java/io/ObjectStreamField")), .char, (.object "java/util/Comparator"), .byte, .byte]
  resolved := Array.replicate 1451 none
  statics := some 0 }

def pool8 : Array CpInfo := pool [(6, .class_ 8), (1, u "java/lang/Object"), (0, u "<init>"), (0, u "()V"), (1, .class_ 14), (1, u "java/lang/StringUTF16"), (31, u "$assertionsDisabled"), (0, u "Z"), (13, u "HI_BYTE_SHIFT"), (0, u "I"), (2, u "LO_BYTE_SHIFT"), (49, .methodref 12 116), (0, .nameAndType 117 118), (0, u "compress"), (0, u "([CI[BII)I"), (3, u "([CII)[B"), (138, u "coderFromArrayLen"), (0, u "([BI)B"), (106, .class_ 371), (1, u "java/lang/StringUTF16$LinesSpliterator"), (58, u "MAX_LENGTH"), (196, .class_ 628), (0, u "java/lang/StringUTF16$CodePointsSpliterator"), (0, .class_ 630), (0, u "java/lang/StringUTF16$CharsSpliterator")] 4

def k8m0 : Method := { name := "<init>", desc := "()V", sig := { parameters := [], returnType := none }, accessFlags := 0, code := none }
def k8c1 : Code := { maxStack := 2, maxLocals := 2, code := jdk_52_method_15_code, exceptionTable := #[], attributes := #[] }
def k8m1 : Method := { name := "coderFromArrayLen", desc := "([BI)B", sig := { parameters := [(.array .byte), .int], returnType := some .byte }, accessFlags := 8, code := some k8c1 }
def k8c2 : Code := { maxStack := 5, maxLocals := 6, code := jdk_52_method_16_code, exceptionTable := #[], attributes := #[] }
def k8m2 : Method := { name := "compress", desc := "([CII)[B", sig := { parameters := [(.array .char), .int, .int], returnType := some (.array .byte) }, accessFlags := 9, code := some k8c2 }
def k8c3 : Code := { maxStack := 3, maxLocals := 7, code := jdk_52_method_21_code, exceptionTable := #[], attributes := #[] }
def k8m3 : Method := { name := "compress", desc := "([CI[BII)I", sig := { parameters := [(.array .char), .int, (.array .byte), .int, .int], returnType := some .int }, accessFlags := 9, code := some k8c3 }
/-- java/lang/StringUTF16 -/
def k8 : Class := { plain "java/lang/StringUTF16" (some 0) with
  accessFlags := 48
  interfaces := #[]
  cf := some (fileOf pool8 12 #[.nestMembers #[627, 629, 369]] #[{ accessFlags := 0, nameIndex := 9, descriptorIndex := 10, attributes := #[] }, { accessFlags := 8, nameIndex := 261, descriptorIndex := 262, attributes := #[] }, { accessFlags := 9, nameIndex := 117, descriptorIndex := 122, attributes := #[] }, { accessFlags := 9, nameIndex := 117, descriptorIndex := 118, attributes := #[] }] 48 6 #[] #[{ accessFlags := 26, nameIndex := 61, descriptorIndex := 62, attributes := #[] }, { accessFlags := 26, nameIndex := 65, descriptorIndex := 62, attributes := #[] }, { accessFlags := 24, nameIndex := 430, descriptorIndex := 62, attributes := #[] }, { accessFlags := 4120, nameIndex := 46, descriptorIndex := 47, attributes := #[] }])
  fields := #[{ name := "HI_BYTE_SHIFT", type := .int, accessFlags := 26, slot := 0, constantValue := 0 }, { name := "LO_BYTE_SHIFT", type := .int, accessFlags := 26, slot := 1, constantValue := 0 }, { name := "MAX_LENGTH", type := .int, accessFlags := 24, slot := 2, constantValue := 0 }, { name := "$assertionsDisabled", type := .boolean, accessFlags := 4120, slot := 3, constantValue := 0 }]
  methods := #[k8m0, k8m1, k8m2, k8m3]
  instanceTypes := #[]
  staticTypes := #[.int, .int, .int, .boolean]
  resolved := Array.replicate 635 none
  statics := none }

def pool9 : Array CpInfo := pool [(2, .class_ 4), (1, u "java/lang/Enum"), (0, u "name"), (0, u "Ljava/lang/String;"), (2, u "ordinal"), (0, u "I"), (1, .class_ 14), (1, u "java/lang/Object"), (4, u "hash"), (86, .class_ 108), (1, u "java/lang/Enum$EnumDesc"), (2, .class_ 112), (0, u "java/lang/constant/Constable"), (0, .class_ 114), (0, u "java/lang/Comparable"), (0, .class_ 116), (0, u "java/io/Serializable")] 87

/-- java/lang/Enum -/
def k9 : Class := { plain "java/lang/Enum" (some 0) with
  accessFlags := 1057
  interfaces := #[5, 3, 2]
  cf := some (fileOf pool9 2 #[.nestMembers #[106]] #[] 1057 12 #[111, 113, 115] #[{ accessFlags := 18, nameIndex := 5, descriptorIndex := 6, attributes := #[] }, { accessFlags := 18, nameIndex := 9, descriptorIndex := 10, attributes := #[] }, { accessFlags := 2, nameIndex := 19, descriptorIndex := 10, attributes := #[] }])
  fields := #[{ name := "name", type := (.object "java/lang/String"), accessFlags := 18, slot := 0, constantValue := 0 }, { name := "ordinal", type := .int, accessFlags := 18, slot := 1, constantValue := 0 }, { name := "hash", type := .int, accessFlags := 2, slot := 2, constantValue := 0 }]
  methods := #[]
  instanceTypes := #[(.object "java/lang/String"), .int, .int]
  staticTypes := #[]
  resolved := Array.replicate 204 none
  statics := none }

def pool10 : Array CpInfo := pool [(1, .interfaceMethodref 2 3), (0, .class_ 4), (0, .nameAndType 5 6), (0, u "com/example/gannet/gannet/window/Spelled"), (0, u "spelling"), (0, u "()Ljava/lang/String;"), (0, .methodref 8 9), (0, .class_ 10), (0, .nameAndType 11 12), (0, u "java/lang/String"), (0, u "equals"), (0, u "(Ljava/lang/Object;)Z"), (38, .class_ 52), (0, u "java/lang/Object"), (0, u "named"), (0, u "([Lcom/example/gannet/gannet/window/Spelled;Ljava/lang/String;Ljava/lang/String;)Lcom/example/gannet/gannet/window/Spelled;")] 36

def k10m0 : Method := { name := "spelling", desc := "()Ljava/lang/String;", sig := { parameters := [], returnType := some (.object "java/lang/String") }, accessFlags := 1025, code := none }
def k10c1 : Code := { maxStack := 6, maxLocals := 7, code := prog_27_method_2_code, exceptionTable := #[], attributes := #[] }
def k10m1 : Method := { name := "named", desc := "([Lcom/example/gannet/gannet/window/Spelled;Ljava/lang/String;Ljava/lang/String;)Lcom/example/gannet/gannet/window/Spelled;", sig := { parameters := [(.array (.object "com/example/gannet/gannet/window/Spelled")), (.object "java/lang/String"), (.object "java/lang/String")], returnType := some (.object "com/example/gannet/gannet/window/Spelled") }, accessFlags := 9, code := some k10c1 }
/-- com/example/gannet/gannet/window/Spelled -/
def k10 : Class := { plain "com/example/gannet/gannet/window/Spelled" (some 0) with
  accessFlags := 1536
  interfaces := #[]
  cf := some (fileOf pool10 2 #[] #[{ accessFlags := 1025, nameIndex := 5, descriptorIndex := 6, attributes := #[] }, { accessFlags := 9, nameIndex := 53, descriptorIndex := 54, attributes := #[] }] 1536 51 #[] #[])
  fields := #[]
  methods := #[k10m0, k10m1]
  instanceTypes := #[]
  staticTypes := #[]
  resolved := Array.replicate 91 none
  statics := none }

def pool11 : Array CpInfo := pool [(1, .class_ 2), (0, u "com/example/gannet/gannet/window/Granularity"), (2, u "DAY"), (0, u "Lcom/example/gannet/gannet/window/Granularity;"), (2, u "MICROSECOND"), (0, .fieldref 1 11), (0, .nameAndType 12 13), (0, u "$VALUES"), (0, u "[Lcom/example/gannet/gannet/window/Granularity;"), (0, .methodref 15 16), (0, .class_ 13), (0, .nameAndType 17 18), (0, u "clone"), (0, u "()Ljava/lang/Object;"), (1, .class_ 22), (1, u "java/lang/Enum"), (6, .fieldref 1 30), (0, .nameAndType 31 32), (0, u "spelling"), (0, u "Ljava/lang/String;"), (2, u "unit"), (0, u "Ljava/time/temporal/ChronoUnit;"), (2, u "format"), (0, u "Ljava/util/function/Function;"), (0, .methodref 1 42), (0, .nameAndType 43 44), (0, u "values"), (0, u "()[Lcom/example/gannet/gannet/window/Granularity;"), (0, .string 35), (0, .interfaceMethodref 47 48), (0, .class_ 49), (0, .nameAndType 50 51), (0, u "com/example/gannet/gannet/window/Spelled"), (0, u "named"), (0, u "([Lcom/example/gannet/gannet/window/Spelled;Ljava/lang/String;Ljava/lang/String;)Lcom/example/gannet/gannet/window/Spelled;"), (81, u "(Ljava/lang/String;)Lcom/example/gannet/gannet/window/Granularity;"), (2, u "()Ljava/lang/String;")] 34

def k11c0 : Code := { maxStack := 1, maxLocals := 0, code := prog_24_method_1_code, exceptionTable := #[], attributes := #[] }
def k11m0 : Method := { name := "values", desc := "()[Lcom/example/gannet/gannet/window/Granularity;", sig := { parameters := [], returnType := some (.array (.object "com/example/gannet/gannet/window/Granularity")) }, accessFlags := 9, code := some k11c0 }
def k11c1 : Code := { maxStack := 3, maxLocals := 1, code := prog_24_method_4_code, exceptionTable := #[], attributes := #[] }
def k11m1 : Method := { name := "named", desc := "(Ljava/lang/String;)Lcom/example/gannet/gannet/window/Granularity;", sig := { parameters := [(.object "java/lang/String")], returnType := some (.object "com/example/gannet/gannet/window/Granularity") }, accessFlags := 9, code := some k11c1 }
def k11c2 : Code := { maxStack := 1, maxLocals := 1, code := prog_24_method_5_code, exceptionTable := #[], attributes := #[] }
def k11m2 : Method := { name := "spelling", desc := "()Ljava/lang/String;", sig := { parameters := [], returnType := some (.object "java/lang/String") }, accessFlags := 1, code := some k11c2 }
/-- com/example/gannet/gannet/window/Granularity -/
def k11 : Class := { plain "com/example/gannet/gannet/window/Granularity" (some 9) with
  accessFlags := 16433
  interfaces := #[10]
  cf := some (fileOf pool11 1 #[] #[{ accessFlags := 9, nameIndex := 43, descriptorIndex := 44, attributes := #[] }, { accessFlags := 9, nameIndex := 50, descriptorIndex := 133, attributes := #[] }, { accessFlags := 1, nameIndex := 31, descriptorIndex := 136, attributes := #[] }] 16433 20 #[47] #[{ accessFlags := 16409, nameIndex := 5, descriptorIndex := 6, attributes := #[] }, { accessFlags := 16409, nameIndex := 9, descriptorIndex := 6, attributes := #[] }, { accessFlags := 18, nameIndex := 31, descriptorIndex := 32, attributes := #[] }, { accessFlags := 18, nameIndex := 35, descriptorIndex := 36, attributes := #[] }, { accessFlags := 18, nameIndex := 39, descriptorIndex := 40, attributes := #[] }, { accessFlags := 4122, nameIndex := 12, descriptorIndex := 13, attributes := #[] }])
  fields := #[{ name := "DAY", type := (.object "com/example/gannet/gannet/window/Granularity"), accessFlags := 16409, slot := 0, constantValue := 0 }, { name := "MICROSECOND", type := (.object "com/example/gannet/gannet/window/Granularity"), accessFlags := 16409, slot := 1, constantValue := 0 }, { name := "spelling", type := (.object "java/lang/String"), accessFlags := 18, slot := 3, constantValue := 0 }, { name := "unit", type := (.object "java/time/temporal/ChronoUnit"), accessFlags := 18, slot := 4, constantValue := 0 }, { name := "format", type := (.object "java/util/function/Function"), accessFlags := 18, slot := 5, constantValue := 0 }, { name := "$VALUES", type := (.array (.object "com/example/gannet/gannet/window/Granularity")), accessFlags := 4122, slot := 2, constantValue := 0 }]
  methods := #[k11m0, k11m1, k11m2]
  instanceTypes := #[(.object "java/lang/String"), .int, .int, (.object "java/lang/String"), (.object "java/time/temporal/ChronoUnit"), (.object "java/util/function/Function")]
  staticTypes := #[(.object "com/example/gannet/gannet/window/Granularity"), (.object "com/example/gannet/gannet/window/Granularity"), (.array (.object "com/example/gannet/gannet/window/Granularity"))]
  resolved := Array.replicate 171 none
  statics := some 1 }

def pool12 : Array CpInfo := pool [(1, .class_ 2), (0, u "java/lang/Cloneable"), (0, .class_ 4), (0, u "java/lang/Object")] 2

/-- java/lang/Cloneable -/
def k12 : Class := { plain "java/lang/Cloneable" (some 0) with
  accessFlags := 1537
  interfaces := #[]
  cf := some (fileOf pool12 1 #[] #[] 1537 3 #[] #[])
  fields := #[]
  methods := #[]
  instanceTypes := #[]
  staticTypes := #[]
  resolved := Array.replicate 7 none
  statics := none }

def pool13 : Array CpInfo := pool [(4, .class_ 6), (1, u "java/lang/Object"), (0, u "<init>"), (0, u "()V"), (5, .class_ 16), (1, u "java/lang/StringLatin1"), (104, u "$assertionsDisabled"), (0, u "Z"), (98, .class_ 223), (1, u "java/lang/StringLatin1$LinesSpliterator"), (57, u "equals"), (0, u "([B[B)Z"), (107, .class_ 391), (0, u "java/lang/StringLatin1$CharsSpliterator")] 3

def k13m0 : Method := { name := "<init>", desc := "()V", sig := { parameters := [], returnType := none }, accessFlags := 0, code := none }
def k13c1 : Code := { maxStack := 3, maxLocals := 3, code := jdk_43_method_13_code, exceptionTable := #[], attributes := #[] }
def k13m1 : Method := { name := "equals", desc := "([B[B)Z", sig := { parameters := [(.array .byte), (.array .byte)], returnType := some .boolean }, accessFlags := 9, code := some k13c1 }
/-- java/lang/StringLatin1 -/
def k13 : Class := { plain "java/lang/StringLatin1" (some 0) with
  accessFlags := 48
  interfaces := #[]
  cf := some (fileOf pool13 14 #[.nestMembers #[390, 221]] #[{ accessFlags := 0, nameIndex := 7, descriptorIndex := 8, attributes := #[] }, { accessFlags := 9, nameIndex := 281, descriptorIndex := 282, attributes := #[] }] 48 4 #[] #[{ accessFlags := 4120, nameIndex := 121, descriptorIndex := 122, attributes := #[] }])
  fields := #[{ name := "$assertionsDisabled", type := .boolean, accessFlags := 4120, slot := 0, constantValue := 0 }]
  methods := #[k13m0, k13m1]
  instanceTypes := #[]
  staticTypes := #[.boolean]
  resolved := Array.replicate 395 none
  statics := none }

def pool14 : Array CpInfo := pool [(2, .class_ 4), (1, u "java/lang/Object"), (0, u "<init>"), (0, u "()V"), (17, .class_ 26), (1, u "jdk/internal/util/Preconditions"), (28, .class_ 56), (0, u "jdk/internal/util/Preconditions$4"), (57, .class_ 115), (0, u "jdk/internal/util/Preconditions$1"), (7, u "SIOOBE_FORMATTER"), (0, u "Ljava/util/function/BiFunction;"), (0, .class_ 126), (0, u "jdk/internal/util/Preconditions$2"), (3, u "AIOOBE_FORMATTER"), (0, .class_ 132), (0, u "jdk/internal/util/Preconditions$3"), (3, u "IOOBE_FORMATTER")] 57

def k14m0 : Method := { name := "<init>", desc := "()V", sig := { parameters := [], returnType := none }, accessFlags := 1, code := none }
/-- jdk/internal/util/Preconditions -/
def k14 : Class := { plain "jdk/internal/util/Preconditions" (some 0) with
  accessFlags := 33
  interfaces := #[]
  cf := some (fileOf pool14 24 #[.nestMembers #[55, 131, 125, 114]] #[{ accessFlags := 1, nameIndex := 5, descriptorIndex := 6, attributes := #[] }] 33 2 #[] #[{ accessFlags := 25, nameIndex := 123, descriptorIndex := 124, attributes := #[] }, { accessFlags := 25, nameIndex := 130, descriptorIndex := 124, attributes := #[] }, { accessFlags := 25, nameIndex := 136, descriptorIndex := 124, attributes := #[] }])
  fields := #[{ name := "SIOOBE_FORMATTER", type := (.object "java/util/function/BiFunction"), accessFlags := 25, slot := 0, constantValue := 0 }, { name := "AIOOBE_FORMATTER", type := (.object "java/util/function/BiFunction"), accessFlags := 25, slot := 1, constantValue := 0 }, { name := "IOOBE_FORMATTER", type := (.object "java/util/function/BiFunction"), accessFlags := 25, slot := 2, constantValue := 0 }]
  methods := #[k14m0]
  instanceTypes := #[]
  staticTypes := #[(.object "java/util/function/BiFunction"), (.object "java/util/function/BiFunction"), (.object "java/util/function/BiFunction")]
  resolved := Array.replicate 194 none
  statics := some 2 }

def pool15 : Array CpInfo := pool [(9, u "<init>"), (6, .class_ 18), (1, u "java/lang/Object"), (0, u "()V"), (1, .class_ 23), (1, u "jdk/internal/util/ArraysSupport"), (0, u "LOG2_ARRAY_LONG_INDEX_SCALE"), (0, u "I"), (2, u "U"), (0, u "Ljdk/internal/misc/Unsafe;"), (8, u "BIG_ENDIAN"), (0, u "Z"), (8, u "LOG2_BYTE_BIT_SIZE"), (4, u "LOG2_ARRAY_INT_INDEX_SCALE"), (54, u "JLA"), (0, u "Ljdk/internal/access/JavaLangAccess;"), (11, u "LOG2_ARRAY_BOOLEAN_INDEX_SCALE"), (9, u "LOG2_ARRAY_BYTE_INDEX_SCALE"), (5, u "LOG2_ARRAY_CHAR_INDEX_SCALE"), (5, u "LOG2_ARRAY_SHORT_INDEX_SCALE"), (18, u "LOG2_ARRAY_FLOAT_INDEX_SCALE"), (24, u "LOG2_ARRAY_DOUBLE_INDEX_SCALE"), (89, u "T_BOOLEAN"), (2, u "T_CHAR"), (1, u "T_FLOAT"), (1, u "T_DOUBLE"), (1, u "T_BYTE"), (1, u "T_SHORT"), (1, u "T_INT"), (1, u "T_LONG"), (1, u "SOFT_MAX_ARRAY_LENGTH")] 83

def k15m0 : Method := { name := "<init>", desc := "()V", sig := { parameters := [], returnType := none }, accessFlags := 2, code := none }
/-- jdk/internal/util/ArraysSupport -/
def k15 : Class := { plain "jdk/internal/util/ArraysSupport" (some 0) with
  accessFlags := 33
  interfaces := #[]
  cf := some (fileOf pool15 21 #[] #[{ accessFlags := 2, nameIndex := 9, descriptorIndex := 19, attributes := #[] }] 33 16 #[] #[{ accessFlags := 24, nameIndex := 28, descriptorIndex := 29, attributes := #[] }, { accessFlags := 26, nameIndex := 38, descriptorIndex := 39, attributes := #[] }, { accessFlags := 25, nameIndex := 121, descriptorIndex := 25, attributes := #[] }, { accessFlags := 25, nameIndex := 131, descriptorIndex := 25, attributes := #[] }, { accessFlags := 25, nameIndex := 137, descriptorIndex := 25, attributes := #[] }, { accessFlags := 25, nameIndex := 143, descriptorIndex := 25, attributes := #[] }, { accessFlags := 25, nameIndex := 53, descriptorIndex := 25, attributes := #[] }, { accessFlags := 25, nameIndex := 24, descriptorIndex := 25, attributes := #[] }, { accessFlags := 25, nameIndex := 162, descriptorIndex := 25, attributes := #[] }, { accessFlags := 25, nameIndex := 187, descriptorIndex := 25, attributes := #[] }, { accessFlags := 26, nameIndex := 48, descriptorIndex := 25, attributes := #[] }, { accessFlags := 25, nameIndex := 277, descriptorIndex := 25, attributes := #[] }, { accessFlags := 25, nameIndex := 280, descriptorIndex := 25, attributes := #[] }, { accessFlags := 25, nameIndex := 282, descriptorIndex := 25, attributes := #[] }, { accessFlags := 25, nameIndex := 284, descriptorIndex := 25, attributes := #[] }, { accessFlags := 25, nameIndex := 286, descriptorIndex := 25, attributes := #[] }, { accessFlags := 25, nameIndex := 288, descriptorIndex := 25, attributes := #[] }, { accessFlags := 25, nameIndex := 290, descriptorIndex := 25, attributes := #[] }, { accessFlags := 25, nameIndex := 292, descriptorIndex := 25, attributes := #[] }, { accessFlags := 26, nameIndex := 108, descriptorIndex := 109, attributes := #[] }, { accessFlags := 25, nameIndex := 294, descriptorIndex := 25, attributes := #[] }])
  fields := #[{ name := "U", type := (.object "jdk/internal/misc/Unsafe"), accessFlags := 24, slot := 0, constantValue := 0 }, { name := "BIG_ENDIAN", type := .boolean, accessFlags := 26, slot := 1, constantValue := 0 }, { name := "LOG2_ARRAY_BOOLEAN_INDEX_SCALE", type := .int, accessFlags := 25, slot := 2, constantValue := 0 }, { name := "LOG2_ARRAY_BYTE_INDEX_SCALE", type := .int, accessFlags := 25, slot := 3, constantValue := 0 }, { name := "LOG2_ARRAY_CHAR_INDEX_SCALE", type := .int, accessFlags := 25, slot := 4, constantValue := 0 }, { name := "LOG2_ARRAY_SHORT_INDEX_SCALE", type := .int, accessFlags := 25, slot := 5, constantValue := 0 }, { name := "LOG2_ARRAY_INT_INDEX_SCALE", type := .int, accessFlags := 25, slot := 6, constantValue := 0 }, { name := "LOG2_ARRAY_LONG_INDEX_SCALE", type := .int, accessFlags := 25, slot := 7, constantValue := 0 }, { name := "LOG2_ARRAY_FLOAT_INDEX_SCALE", type := .int, accessFlags := 25, slot := 8, constantValue := 0 }, { name := "LOG2_ARRAY_DOUBLE_INDEX_SCALE", type := .int, accessFlags := 25, slot := 9, constantValue := 0 }, { name := "LOG2_BYTE_BIT_SIZE", type := .int, accessFlags := 26, slot := 10, constantValue := 0 }, { name := "T_BOOLEAN", type := .int, accessFlags := 25, slot := 11, constantValue := 0 }, { name := "T_CHAR", type := .int, accessFlags := 25, slot := 12, constantValue := 0 }, { name := "T_FLOAT", type := .int, accessFlags := 25, slot := 13, constantValue := 0 }, { name := "T_DOUBLE", type := .int, accessFlags := 25, slot := 14, constantValue := 0 }, { name := "T_BYTE", type := .int, accessFlags := 25, slot := 15, constantValue := 0 }, { name := "T_SHORT", type := .int, accessFlags := 25, slot := 16, constantValue := 0 }, { name := "T_INT", type := .int, accessFlags := 25, slot := 17, constantValue := 0 }, { name := "T_LONG", type := .int, accessFlags := 25, slot := 18, constantValue := 0 }, { name := "JLA", type := (.object "jdk/internal/access/JavaLangAccess"), accessFlags := 26, slot := 19, constantValue := 0 }, { name := "SOFT_MAX_ARRAY_LENGTH", type := .int, accessFlags := 25, slot := 20, constantValue := 0 }]
  methods := #[k15m0]
  instanceTypes := #[]
  staticTypes := #[(.object "jdk/internal/misc/Unsafe"), .boolean, .int, .int, .int, .int, .int, .int, .int, .int, .int, .int, .int, .int, .int, .int, .int, .int, .int, (.object "jdk/internal/access/JavaLangAccess"), .int]
  resolved := Array.replicate 378 none
  statics := none }

/-- the primitive byte -/
def k16 : Class := { plain "byte" none with kind := .primitive 'B', accessFlags := 0x411 }
/-- [B -/
def k17 : Class := { plain "[B" (some 0) with kind := .array 16 .byte, interfaces := #[12, 2], accessFlags := 1041 }

/-- the primitive char -/
def k18 : Class := { plain "char" none with kind := .primitive 'C', accessFlags := 0x411 }
/-- [C -/
def k19 : Class := { plain "[C" (some 0) with kind := .array 18 .char, interfaces := #[12, 2], accessFlags := 1041 }

/-- the primitive int -/
def k20 : Class := { plain "int" none with kind := .primitive 'I', accessFlags := 0x411 }
/-- [I -/
def k21 : Class := { plain "[I" (some 0) with kind := .array 20 .int, interfaces := #[12, 2], accessFlags := 1041 }

/-- [Lcom/example/gannet/gannet/window/Granularity; -/
def k22 : Class := { plain "[Lcom/example/gannet/gannet/window/Granularity;" (some 0) with kind := .array 11 (.object "com/example/gannet/gannet/window/Granularity"), interfaces := #[12, 2], accessFlags := 1041 }

def heap : Heap := #[{ cls := 7, slots := #[.long 0, .int 1, .null, .int 0, .null, .int 0, .int 0], vm := .statics 7 },
  { cls := 11, slots := #[.ref 4, .ref 5, .ref 3], vm := .statics 11 },
  { cls := 14, slots := #[.null, .null, .null], vm := .statics 14 },
  { cls := 22, slots := #[.ref 4, .ref 5], vm := .none },
  { cls := 11, slots := #[.null, .int 0, .int 0, .ref 6, .null, .null], vm := .none },
  { cls := 11, slots := #[.null, .int 1, .int 0, .ref 7, .null, .null], vm := .none },
  { cls := 7, slots := #[.ref 8, .int 0, .int 0, .int 0], vm := .none },
  { cls := 7, slots := #[.ref 9, .int 0, .int 0, .int 0], vm := .none },
  { cls := 17, slots := #[.int 100, .int 97, .int 121], vm := .none },
  { cls := 17, slots := #[.int 109, .int 105, .int 99, .int 114, .int 111, .int 115, .int 101, .int 99, .int 111, .int 110, .int 100], vm := .none }]
def classes : Array Class := #[k0, k1, k2, k3, k4, k5, k6, k7, k8, k9, k10, k11, k12, k13, k14, k15, k16, k17, k18, k19, k20, k21, k22]
def interned : List (Array UInt16 × Addr) := []
def slotsUsed : Nat := 49
def theMethod : MethodId := ⟨1, 1⟩
def args0 : Array Value := #[.int 5]
def aboutOver (below : List Frame) : State where
  vm := { classes := classes, interned := interned.toArray }
  heap := heap
  slotsUsed := slotsUsed
  threads := #[{ frames := .invoking theMethod args0 :: below }]
def below0 : List Frame := [.native { method := ⟨0, 0⟩, args := #[] }]
def about1 : State := aboutOver below0
def p0 : Program := .bare "" "" ""
def e0 : Env := launch0.env 0 0 0
theorem w_frames : about1.frames = Frame.invoking theMethod args0 :: below0 := rfl
set_option maxRecDepth 65536 in
theorem w_args : argsFit about1.vm theMethod args0 = true := by decide +kernel
set_option maxRecDepth 65536 in
theorem w_heap : heapFits about1 = true := by decide +kernel
set_option maxRecDepth 65536 in
theorem w_runnable : about1.curStatus? = some .runnable := by decide +kernel
set_option maxRecDepth 65536 in
theorem w_alone : about1.alone = true := by decide +kernel
set_option maxRecDepth 65536 in
theorem w_named : about1.methodNamed? x = some theMethod := by decide +kernel
set_option maxRecDepth 65536 in
theorem w_hears : about1.hears theMethod below0 = true := by decide +kernel
set_option maxRecDepth 65536 in
theorem w_ripe : about1.ripe theMethod args0 below0 = true := by decide +kernel
theorem w_running : about1.status = .running := rfl
set_option maxRecDepth 65536 in
theorem w_room : about1.hasRoom e0.platform room_1 = true :=
  launch0.hasRoom_least _ room_1 (by decide +kernel) (by decide +kernel) (by decide +kernel) (by decide +kernel) (by decide +kernel) (by decide +kernel)
theorem allAtoms_all (ts : List Jvm.Cond) (a : Array Jvm.Value) (st : Jvm.State) : (allAtoms ts).before a st = ts.all (fun c => c.before a st) := by
  induction ts with
  | nil => rfl
  | cons c t ih =>
    show (Jvm.Cond.and c (allAtoms t)).before a st = _
    rw [Jvm.Cond.before_and, ih, List.all_cons]
def words1 : List Jvm.Cond := Jvm.Cond.code x code maxLocals ret :: tables_1
/-- a 'code' word, met by the world's own term for the bytes: nothing is compared byte by byte -/
theorem code_word {y : MethodName} {bytes : ByteArray} {mx : Nat} {rt : Option FieldType} {a : Array Value} {s : State} {m : MethodId} {meth : Method} {c : Code} (h1 : s.methodNamed? y = some m) (h2 : s.vm.method? m = some meth) (h3 : meth.code = some c) (h4 : c.code = bytes)
    (h5 : (c.maxLocals == mx && c.exceptionTable.isEmpty && decide (c.maxStack ≤ mostOperands) && decide (meth.sig.returnType = rt) && !meth.locks && decide (parseMethodDescriptor y.desc = some meth.sig)) = true) : (Jvm.Cond.code y bytes mx rt).before a s = true := by
  simp only [Bool.and_eq_true, beq_iff_eq, Bool.not_eq_true', decide_eq_true_eq] at h5
  obtain ⟨⟨⟨⟨⟨g1, g2⟩, g3⟩, g4⟩, g5⟩, g6⟩ := h5
  simp [Cond.before, Cond.holds, Cond.value, h1, h2, h3, h4, g1, g2, g3, g4, g5, g6]
def isCode : Jvm.Cond → Bool
  | .code _ _ _ _ => true
  | _ => false
theorem all_split {L : List Jvm.Cond} {P : Jvm.Cond → Bool} (h1 : L.all (fun c => isCode c || P c) = true) (h2 : ∀ c ∈ L.filter isCode, P c = true) : L.all P = true := by
  refine List.all_eq_true.mpr fun c hc => ?_
  have h := List.all_eq_true.mp h1 c hc
  rcases Bool.eq_false_or_eq_true (isCode c) with hi | hi
  · exact h2 c (List.mem_filter.mpr ⟨hc, hi⟩)
  · simpa [hi] using h
set_option maxRecDepth 65536 in
theorem w_c0 : (Jvm.Cond.code x code maxLocals ret).before args0 about1 = true := code_word (m := ⟨1, 1⟩) (meth := k1m1) (c := k1c1) (by decide +kernel) rfl rfl rfl (by decide +kernel)
set_option maxRecDepth 65536 in
theorem w_c1 : (Jvm.Cond.code ({ cls := "java/lang/String", name := "<init>", desc := "([C)V" } : Jvm.MethodName) jdk_42_method_3_code (2 : Nat) (Option.none : Option Jvm.ClassFile.FieldType)).before args0 about1 = true := code_word (m := ⟨7, 1⟩) (meth := k7m1) (c := k7c1) (by decide +kernel) rfl rfl rfl (by decide +kernel)
set_option maxRecDepth 65536 in
theorem w_c2 : (Jvm.Cond.code ({ cls := "java/lang/String", name := "<init>", desc := "([CIILjava/lang/Void;)V" } : Jvm.MethodName) jdk_42_method_149_code (6 : Nat) (Option.none : Option Jvm.ClassFile.FieldType)).before args0 about1 = true := code_word (m := ⟨7, 3⟩) (meth := k7m3) (c := k7c3) (by decide +kernel) rfl rfl rfl (by decide +kernel)
set_option maxRecDepth 65536 in
theorem w_c3 : (Jvm.Cond.code ({ cls := "java/lang/Object", name := "<init>", desc := "()V" } : Jvm.MethodName) object_method_1_code (1 : Nat) (Option.none : Option Jvm.ClassFile.FieldType)).before args0 about1 = true := code_word (m := ⟨0, 0⟩) (meth := k0m0) (c := k0c0) (by decide +kernel) rfl rfl rfl (by decide +kernel)
set_option maxRecDepth 65536 in
theorem w_c4 : (Jvm.Cond.code ({ cls := "java/lang/StringUTF16", name := "compress", desc := "([CII)[B" } : Jvm.MethodName) jdk_52_method_16_code (6 : Nat) (Option.some (Jvm.ClassFile.FieldType.array Jvm.ClassFile.FieldType.byte))).before args0 about1 = true := code_word (m := ⟨8, 2⟩) (meth := k8m2) (c := k8c2) (by decide +kernel) rfl rfl rfl (by decide +kernel)
set_option maxRecDepth 65536 in
theorem w_c5 : (Jvm.Cond.code ({ cls := "java/lang/StringUTF16", name := "compress", desc := "([CI[BII)I" } : Jvm.MethodName) jdk_52_method_21_code (7 : Nat) (Option.some Jvm.ClassFile.FieldType.int)).before args0 about1 = true := code_word (m := ⟨8, 3⟩) (meth := k8m3) (c := k8c3) (by decide +kernel) rfl rfl rfl (by decide +kernel)
set_option maxRecDepth 65536 in
theorem w_c6 : (Jvm.Cond.code ({ cls := "java/lang/StringUTF16", name := "coderFromArrayLen", desc := "([BI)B" } : Jvm.MethodName) jdk_52_method_15_code (2 : Nat) (Option.some Jvm.ClassFile.FieldType.byte)).before args0 about1 = true := code_word (m := ⟨8, 1⟩) (meth := k8m1) (c := k8c1) (by decide +kernel) rfl rfl rfl (by decide +kernel)
set_option maxRecDepth 65536 in
theorem w_c7 : (Jvm.Cond.code ({ cls := "com/example/gannet/gannet/window/Granularity", name := "named", desc := "(Ljava/lang/String;)Lcom/example/gannet/gannet/window/Granularity;" } : Jvm.MethodName) prog_24_method_4_code (1 : Nat) (Option.some (Jvm.ClassFile.FieldType.object "com/example/gannet/gannet/window/Granularity"))).before args0 about1 = true := code_word (m := ⟨11, 1⟩) (meth := k11m1) (c := k11c1) (by decide +kernel) rfl rfl rfl (by decide +kernel)
set_option maxRecDepth 65536 in
theorem w_c8 : (Jvm.Cond.code ({ cls := "com/example/gannet/gannet/window/Granularity", name := "values", desc := "()[Lcom/example/gannet/gannet/window/Granularity;" } : Jvm.MethodName) prog_24_method_1_code (0 : Nat) (Option.some (Jvm.ClassFile.FieldType.array (Jvm.ClassFile.FieldType.object "com/example/gannet/gannet/window/Granularity")))).before args0 about1 = true := code_word (m := ⟨11, 0⟩) (meth := k11m0) (c := k11c0) (by decide +kernel) rfl rfl rfl (by decide +kernel)
set_option maxRecDepth 65536 in
theorem w_c9 : (Jvm.Cond.code ({ cls := "com/example/gannet/gannet/window/Spelled", name := "named", desc := "([Lcom/example/gannet/gannet/window/Spelled;Ljava/lang/String;Ljava/lang/String;)Lcom/example/gannet/gannet/window/Spelled;" } : Jvm.MethodName) prog_27_method_2_code (7 : Nat) (Option.some (Jvm.ClassFile.FieldType.object "com/example/gannet/gannet/window/Spelled"))).before args0 about1 = true := code_word (m := ⟨10, 1⟩) (meth := k10m1) (c := k10c1) (by decide +kernel) rfl rfl rfl (by decide +kernel)
set_option maxRecDepth 65536 in
theorem w_c10 : (Jvm.Cond.code ({ cls := "com/example/gannet/gannet/window/Granularity", name := "spelling", desc := "()Ljava/lang/String;" } : Jvm.MethodName) prog_24_method_5_code (1 : Nat) (Option.some (Jvm.ClassFile.FieldType.object "java/lang/String"))).before args0 about1 = true := code_word (m := ⟨11, 2⟩) (meth := k11m2) (c := k11c2) (by decide +kernel) rfl rfl rfl (by decide +kernel)
set_option maxRecDepth 65536 in
theorem w_c11 : (Jvm.Cond.code ({ cls := "java/lang/String", name := "equals", desc := "(Ljava/lang/Object;)Z" } : Jvm.MethodName) jdk_42_method_66_code (3 : Nat) (Option.some Jvm.ClassFile.FieldType.boolean)).before args0 about1 = true := code_word (m := ⟨7, 2⟩) (meth := k7m2) (c := k7c2) (by decide +kernel) rfl rfl rfl (by decide +kernel)
set_option maxRecDepth 65536 in
theorem w_c12 : (Jvm.Cond.code ({ cls := "java/lang/StringLatin1", name := "equals", desc := "([B[B)Z" } : Jvm.MethodName) jdk_43_method_13_code (3 : Nat) (Option.some Jvm.ClassFile.FieldType.boolean)).before args0 about1 = true := code_word (m := ⟨13, 1⟩) (meth := k13m1) (c := k13c1) (by decide +kernel) rfl rfl rfl (by decide +kernel)
def codes1 : List Jvm.Cond := [Jvm.Cond.code x code maxLocals ret, Jvm.Cond.code ({ cls := "java/lang/String", name := "<init>", desc := "([C)V" } : Jvm.MethodName) jdk_42_method_3_code (2 : Nat) (Option.none : Option Jvm.ClassFile.FieldType), Jvm.Cond.code ({ cls := "java/lang/String", name := "<init>", desc := "([CIILjava/lang/Void;)V" } : Jvm.MethodName) jdk_42_method_149_code (6 : Nat) (Option.none : Option Jvm.ClassFile.FieldType), Jvm.Cond.code ({ cls := "java/lang/Object", name := "<init>", desc := "()V" } : Jvm.MethodName) object_method_1_code (1 : Nat) (Option.none : Option Jvm.ClassFile.FieldType), Jvm.Cond.code ({ cls := "java/lang/StringUTF16", name := "compress", desc := "([CII)[B" } : Jvm.MethodName) jdk_52_method_16_code (6 : Nat) (Option.some (Jvm.ClassFile.FieldType.array Jvm.ClassFile.FieldType.byte)), Jvm.Cond.code ({ cls := "java/lang/StringUTF16", name := "compress", desc := "([CI[BII)I" } : Jvm.MethodName) jdk_52_method_21_code (7 : Nat) (Option.some Jvm.ClassFile.FieldType.int), Jvm.Cond.code ({ cls := "java/lang/StringUTF16", name := "coderFromArrayLen", desc := "([BI)B" } : Jvm.MethodName) jdk_52_method_15_code (2 : Nat) (Option.some Jvm.ClassFile.FieldType.byte), Jvm.Cond.code ({ cls := "com/example/gannet/gannet/window/Granularity", name := "named", desc := "(Ljava/lang/String;)Lcom/example/gannet/gannet/window/Granularity;" } : Jvm.MethodName) prog_24_method_4_code (1 : Nat) (Option.some (Jvm.ClassFile.FieldType.object "com/example/gannet/gannet/window/Granularity")), Jvm.Cond.code ({ cls := "com/example/gannet/gannet/window/Granularity", name := "values", desc := "()[Lcom/example/gannet/gannet/window/Granularity;" } : Jvm.MethodName) prog_24_method_1_code (0 : Nat) (Option.some (Jvm.ClassFile.FieldType.array (Jvm.ClassFile.FieldType.object "com/example/gannet/gannet/window/Granularity"))), Jvm.Cond.code ({ cls := "com/example/gannet/gannet/window/Spelled", name := "named", desc := "([Lcom/example/gannet/gannet/window/Spelled;Ljava/lang/String;Ljava/lang/String;)Lcom/example/gannet/gannet/window/Spelled;" } : Jvm.MethodName) prog_27_method_2_code (7 : Nat) (Option.some (Jvm.ClassFile.FieldType.object "com/example/gannet/gannet/window/Spelled")), Jvm.Cond.code ({ cls := "com/example/gannet/gannet/window/Granularity", name := "spelling", desc := "()Ljava/lang/String;" } : Jvm.MethodName) prog_24_method_5_code (1 : Nat) (Option.some (Jvm.ClassFile.FieldType.object "java/lang/String")), Jvm.Cond.code ({ cls := "java/lang/String", name := "equals", desc := "(Ljava/lang/Object;)Z" } : Jvm.MethodName) jdk_42_method_66_code (3 : Nat) (Option.some Jvm.ClassFile.FieldType.boolean), Jvm.Cond.code ({ cls := "java/lang/StringLatin1", name := "equals", desc := "([B[B)Z" } : Jvm.MethodName) jdk_43_method_13_code (3 : Nat) (Option.some Jvm.ClassFile.FieldType.boolean)]
set_option maxRecDepth 65536 in
theorem codes_eq : words1.filter isCode = codes1 := rfl
theorem w_codes : ∀ c ∈ words1.filter isCode, c.before args0 about1 = true := by
  rw [codes_eq]
  intro c hc
  simp only [codes1, List.mem_cons, List.not_mem_nil, or_false] at hc
  rcases hc with rfl | rfl | rfl | rfl | rfl | rfl | rfl | rfl | rfl | rfl | rfl | rfl | rfl
  · exact w_c0
  · exact w_c1
  · exact w_c2
  · exact w_c3
  · exact w_c4
  · exact w_c5
  · exact w_c6
  · exact w_c7
  · exact w_c8
  · exact w_c9
  · exact w_c10
  · exact w_c11
  · exact w_c12
set_option maxRecDepth 65536 in
theorem w_t1 : (words1.take 24).all (fun c => isCode c || c.before args0 about1) = true := by decide +kernel
set_option maxRecDepth 65536 in
theorem w_t2 : ((words1.drop 24).take 24).all (fun c => isCode c || c.before args0 about1) = true := by decide +kernel
set_option maxRecDepth 65536 in
theorem w_t3 : (((words1.drop 24).drop 24).take 24).all (fun c => isCode c || c.before args0 about1) = true := by decide +kernel
set_option maxRecDepth 65536 in
theorem w_t4 : (((words1.drop 24).drop 24).drop 24).all (fun c => isCode c || c.before args0 about1) = true := by decide +kernel
theorem w_tables : (allAtoms (Jvm.Cond.code x code maxLocals ret :: tables_1)).before args0 about1 = true := by
  rw [allAtoms_all]
  show words1.all (fun c => c.before args0 about1) = true
  refine all_split ?_ w_codes
  rw [← List.take_append_drop 24 words1, List.all_append, w_t1, ← List.take_append_drop 24 (words1.drop 24), List.all_append, w_t2, ← List.take_append_drop 24 ((words1.drop 24).drop 24), List.all_append, w_t3, w_t4]
  rfl
set_option maxRecDepth 65536 in
theorem w_rest : rest_1_c.before args0 about1 = true := by decide +kernel
set_option maxRecDepth 65536 in
theorem w_case : (Jvm.Cond.and given_1 narrow_1).before args0 about1 = true := by decide +kernel
theorem w_applies : (headSpec (Jvm.Cond.code x code maxLocals ret :: tables_1) room_1).applies x e0.platform about1 = true :=
  (Spec.applies_iff w_frames).mpr ⟨w_running, w_runnable, w_alone, w_named, w_hears, w_ripe, w_room, w_tables⟩
theorem atStart : AtStart classFile x code maxLocals ret World_1 tables_1 room_1 Calls_1 rest_1 Pre_1 launch0 p0 e0 about1 theMethod args0 below0 :=
  ⟨lists_1, trivial, launch0.admits_env _ _ _, launch0.least_env, fairChoices_fair.cas, fairChoices_fair.clock, w_frames, w_args, w_heap, w_applies, trivial, w_rest, w_case⟩
end start1
theorem witness_1 : WitnessClaimed_1 := ⟨start1.p0, start1.e0, start1.about1, start1.theMethod, start1.args0, start1.below0, start1.atStart⟩
end Jvm.Pilot.@@N@@
