import JvmDerived
import JvmDerived.Pilot.@@N@@Statement
import JvmDerived.Pilot.@@N@@Code
set_option linter.unusedVariables false
set_option linter.unusedSimpArgs false
@@BLOCK:NumsL.lean.txt@@
@@BLOCK:Masks.lean.txt@@
namespace Jvm.Pilot.@@N@@
open Jvm Jvm.ClassFile Sem Op Lib Jvm.Free Jvm.Stand Jvm.LawKit Jvm.RoadKit Bundle Jvm.Pilot.@@N@@.Jvm.D

/-! A. the goal of a walk, said of the state where it stands: from here the body ends as Q says -/
def own_End (p : Program) (e : Env) (below : List Frame) (s : State) (Q : Option Value → Heap → List Loc → Prop) (k n : Nat) (S : State) : Prop :=
  ∃ s₂ o, Steps p.tables e below S s₂ ∧ s₂.status = .running ∧ Ended s₂ below o ∧ ∃ v L, o = .returned v ∧ Q v s₂.heap L ∧ FrameEnd s o s₂ L k n
section OwnWalk
variable {p : Program} {l : Launch} {e : Env} {R : Room} {s : State} {m : MethodId} {args : Array Value} {below : List Frame} {meth : Method} {c : Code} {T : State} {locs : List Loc} {cells slots : Nat} {Z : State} {a0 : Array Value} {h h' : Heap} {Q : Option Value → Heap → List Loc → Prop} {k n : Nat}
theorem own_go {S S' : State} (f : ∀ t, Steps p.tables e below S' t → Steps p.tables e below S t) (g : own_End p e below s Q k n S') : own_End p e below s Q k n S := by
  obtain ⟨t, o, h1, r⟩ := g
  exact ⟨t, o, f t h1, r⟩
theorem own_cast {g g' : JFrame} (q : g = g') (k' : own_End p e below s Q k n (T.setTop g')) : own_End p e below s Q k n (T.setTop g) := q ▸ k'
theorem own_retN (X : Stand p l e R s m args below meth c T locs cells slots) (hx : p.tables.exec = Jvm.exec) {pc : Nat} {Ls : Array Slot} {z z' : Int32} {t : FieldType} {rest : List Value} (hret : meth.sig.returnType = some t) (hlk : meth.locks = false) (ht : t = .boolean ∨ t = .byte ∨ t = .char ∨ t = .short)
    (hd : decode c.code pc = .ok (.ireturn, 1)) (hz : nar t z = z') (hc : cells ≤ k) (hn : slots ≤ n) (hQ : Q (some (.int z')) T.heap locs) : own_End p e below s Q k n (T.setTop (mkF m pc Ls (.int z :: rest))) := by
  obtain ⟨fs, hr, hrun, hended, hW, hsame⟩ := X.leave (v := some (.int z')) (fun q => by rw [hret] at q; cases q) hlk
  subst hz
  exact ⟨_, _, retN X hx hret ht hd hr, hrun, hended, _, _, rfl, hQ, ⟨_, rfl⟩, hW, hsame.mono hc hn⟩
theorem own_retI (X : Stand p l e R s m args below meth c T locs cells slots) (hx : p.tables.exec = Jvm.exec) {pc : Nat} {Ls : Array Slot} {z : Int32} {rest : List Value} (hret : meth.sig.returnType = some .int) (hlk : meth.locks = false)
    (hd : decode c.code pc = .ok (.ireturn, 1)) (hc : cells ≤ k) (hn : slots ≤ n) (hQ : Q (some (.int z)) T.heap locs) : own_End p e below s Q k n (T.setTop (mkF m pc Ls (.int z :: rest))) := by
  obtain ⟨fs, hr, hrun, hended, hW, hsame⟩ := X.leave (v := some (.int z)) (fun q => by rw [hret] at q; cases q) hlk
  exact ⟨_, _, retOut X hx hret rfl (Or.inl ⟨rfl, Or.inl rfl, _, rfl⟩) hd hr, hrun, hended, _, _, rfl, hQ, ⟨_, rfl⟩, hW, hsame.mono hc hn⟩
theorem own_retJ (X : Stand p l e R s m args below meth c T locs cells slots) (hx : p.tables.exec = Jvm.exec) {pc : Nat} {Ls : Array Slot} {z : Int64} {rest : List Value} (hret : meth.sig.returnType = some .long) (hlk : meth.locks = false)
    (hd : decode c.code pc = .ok (.lreturn, 1)) (hc : cells ≤ k) (hn : slots ≤ n) (hQ : Q (some (.long z)) T.heap locs) : own_End p e below s Q k n (T.setTop (mkF m pc Ls (.long z :: rest))) := by
  obtain ⟨fs, hr, hrun, hended, hW, hsame⟩ := X.leave (v := some (.long z)) (fun q => by rw [hret] at q; cases q) hlk
  exact ⟨_, _, retOut X hx hret rfl (Or.inr (Or.inl ⟨rfl, rfl, _, rfl⟩)) hd hr, hrun, hended, _, _, rfl, hQ, ⟨_, rfl⟩, hW, hsame.mono hc hn⟩
theorem own_retV (X : Stand p l e R s m args below meth c T locs cells slots) (hx : p.tables.exec = Jvm.exec) {pc : Nat} {Ls : Array Slot} (hret : meth.sig.returnType = none) (hlk : meth.locks = false)
    (hd : decode c.code pc = .ok (.return_, 1)) (hc : cells ≤ k) (hn : slots ≤ n) (hQ : Q none T.heap locs) : own_End p e below s Q k n (T.setTop (mkF m pc Ls [])) := by
  obtain ⟨fs, hr, hrun, hended, hW, hsame⟩ := X.leave (v := none) (fun _ => rfl) hlk
  exact ⟨_, _, X.returnOut hx hret hd hr, hrun, hended, _, _, rfl, hQ, ⟨_, rfl⟩, hW, hsame.mono hc hn⟩

/-! B. arrays by the list of their components -/
def own_L (Z : State) (h : Heap) (a : Addr) (ty : FieldType) (vs : List Value) : Prop := ∃ cl : Cell, Arr Z h a cl ty ∧ cl.slots.toList = vs
variable {a b : Addr} {ty : FieldType} {vs : List Value} {sl : Nat} {v w : Value} {ws : List Addr}
theorem own_L.lt (F : own_L Z h a ty vs) : a < h.size := by obtain ⟨_, A, _⟩ := F; exact A.lt
theorem own_L.ext (F : own_L Z h a ty vs) (E : Ext h h') : own_L Z h' a ty vs := by obtain ⟨c, A, r⟩ := F; exact ⟨c, A.ext E, r⟩
theorem own_L.other (F : own_L Z h b ty vs) (W : Wr h h' a sl v) (q : b ≠ a) : own_L Z h' b ty vs := by obtain ⟨c, A, r⟩ := F; exact ⟨c, A.other W q, r⟩
theorem own_L.keep (F : own_L Z h a ty vs) (K : Keep h h' ws) (q : a ∉ ws) : own_L Z h' a ty vs := by obtain ⟨c, A, r⟩ := F; exact ⟨c, ⟨K.2.1 a c A.1 q, A.2⟩, r⟩
theorem own_L.same (F : own_L Z h a ty vs) (W : Wr h h' a sl v) : own_L Z h' a ty (vs.set sl v) := by
  obtain ⟨c, A, r⟩ := F
  refine ⟨_, A.same W, ?_⟩
  subst r
  simp [Cell.setSlot]
theorem own_L.eq {vs' : List Value} (F : own_L Z h a ty vs) (q : vs = vs') : own_L Z h a ty vs' := q ▸ F
theorem own_newL (X : Stand p l e R s m args below meth c T locs cells slots) (hx : p.tables.exec = Jvm.exec) (hZ : Z.Warmed39 s.vm) {aty : ArrayType} (w : (Cond.arrayClass (newarray.typeOf aty)).before a0 Z = true) (eT : T.heap = h) {pc : Nat} {Ls : Array Slot} {nn : Int32} {rest : List Value} (hd : decode c.code pc = .ok (.newarray aty, 2))
    (hn : ¬ nn < 0) {len cap : Nat} (hlen : nn.toNatClampNeg = len) (hcap : len ≤ cap) (hb : cap * 8 ≤ 536870912) (hc : cells + 1 ≤ R.cells) (hl : slots + cap ≤ R.slots) :
    ∃ T' h' b, Stand p l e R s m args below meth c T' locs (cells + 1) (slots + cap) ∧ T'.heap = h' ∧ Ext h h' ∧ b = h.size ∧ own_L Z h' b (newarray.typeOf aty) (List.replicate len (defaultValue (newarray.typeOf aty))) ∧
      ∀ t, Steps p.tables e below (T'.setTop (mkF m (pc + 2) Ls (.ref b :: rest))) t → Steps p.tables e below (T.setTop (mkF m pc Ls (.int nn :: rest))) t := by
  obtain ⟨T', h', cA, X', e', E, A, st⟩ := newP X hx hZ w eT (g := mkF m pc Ls (.int nn :: rest)) rfl hd rfl hn (cap := cap) (by rw [hlen]; exact hcap) hb hc hl
  exact ⟨T', h', h.size, X', e', E, rfl, ⟨_, A, by simp [newA, hlen]⟩, st⟩
theorem own_in {cl : Cell} {i : Nat} {j : Int32} (hs : cl.slots.toList = vs) (hj : ¬ j < 0) (hi : j.toNatClampNeg = i) (hl : i < vs.length) : ¬ (j < 0 ∨ cl.slots.size ≤ j.toNatClampNeg) := by
  subst hs hi
  simp only [Array.length_toList] at hl
  rintro (q | q)
  · exact hj q
  · omega
theorem own_at {cl : Cell} {i : Nat} {j : Int32} (hs : cl.slots.toList = vs) (hi : j.toNatClampNeg = i) (hv : vs[i]? = some v) : cl.slots[j.toNatClampNeg]? = some v := by
  subst hs hi
  simpa using hv
theorem own_len (F : own_L Z h a ty vs) {z : Int32} (hz : vs.length.toInt32 = z) (X : Stand p l e R s m args below meth c T locs cells slots) (hx : p.tables.exec = Jvm.exec) (hZ : Z.Warmed39 s.vm) (eT : T.heap = h) {pc : Nat} {Ls : Array Slot} {rest : List Value} (hd : decode c.code pc = .ok (.arraylength, 1)) :
    ∀ t, Steps p.tables e below (T.setTop (mkF m (pc + 1) Ls (.int z :: rest))) t → Steps p.tables e below (T.setTop (mkF m pc Ls (.ref a :: rest))) t := by
  obtain ⟨cl, A, r⟩ := F
  intro t k
  refine X.arraylength hx (by rw [eT]; exact A.1) (State.isArrayOf_alike hZ.alike A.2.1) (g := mkF m pc Ls (.ref a :: rest)) rfl rfl hd t ?_
  have q : cl.slots.size.toInt32 = z := by rw [← hz, ← r, Array.length_toList]
  rw [q]; exact k
theorem own_iaload (F : own_L Z h a .int vs) (X : Stand p l e R s m args below meth c T locs cells slots) (hx : p.tables.exec = Jvm.exec) (hZ : Z.Warmed39 s.vm) (eT : T.heap = h) {pc i : Nat} {Ls : Array Slot} {j : Int32} {rest : List Value} (hj : ¬ j < 0) (hi : j.toNatClampNeg = i) (hl : i < vs.length) (hv : vs[i]? = some v) (hd : decode c.code pc = .ok (.iaload, 1)) :
    ∀ t, Steps p.tables e below (T.setTop (mkF m (pc + 1) Ls (v :: rest))) t → Steps p.tables e below (T.setTop (mkF m pc Ls (.int j :: .ref a :: rest))) t := by
  obtain ⟨cl, A, r⟩ := F
  exact fun t k => X.iaload hx (j := j) (v := v) (by rw [eT]; exact A.1) (State.isArrayOf_alike hZ.alike A.2.1) A.2.2 (own_in r hj hi hl) (own_at r hi hv) (g := mkF m pc Ls (.int j :: .ref a :: rest)) rfl rfl hd t k
theorem own_baload (F : own_L Z h a .byte vs) (X : Stand p l e R s m args below meth c T locs cells slots) (hx : p.tables.exec = Jvm.exec) (hZ : Z.Warmed39 s.vm) (eT : T.heap = h) {pc i : Nat} {Ls : Array Slot} {j : Int32} {rest : List Value} (hj : ¬ j < 0) (hi : j.toNatClampNeg = i) (hl : i < vs.length) (hv : vs[i]? = some v) (hd : decode c.code pc = .ok (.baload, 1)) :
    ∀ t, Steps p.tables e below (T.setTop (mkF m (pc + 1) Ls (v :: rest))) t → Steps p.tables e below (T.setTop (mkF m pc Ls (.int j :: .ref a :: rest))) t := by
  obtain ⟨cl, A, r⟩ := F
  exact fun t k => X.baloadBytes hx (j := j) (v := v) (by rw [eT]; exact A.1) (State.isArrayOf_alike hZ.alike A.2.1) A.2.2 (own_in r hj hi hl) (own_at r hi hv) (g := mkF m pc Ls (.int j :: .ref a :: rest)) rfl rfl hd t k
theorem own_caload (F : own_L Z h a .char vs) (X : Stand p l e R s m args below meth c T locs cells slots) (hx : p.tables.exec = Jvm.exec) (hZ : Z.Warmed39 s.vm) (eT : T.heap = h) {pc i : Nat} {Ls : Array Slot} {j : Int32} {rest : List Value} (hj : ¬ j < 0) (hi : j.toNatClampNeg = i) (hl : i < vs.length) (hv : vs[i]? = some v) (hd : decode c.code pc = .ok (.caload, 1)) :
    ∀ t, Steps p.tables e below (T.setTop (mkF m (pc + 1) Ls (v :: rest))) t → Steps p.tables e below (T.setTop (mkF m pc Ls (.int j :: .ref a :: rest))) t := by
  obtain ⟨cl, A, r⟩ := F
  exact fun t k => X.caload hx (j := j) (v := v) (by rw [eT]; exact A.1) (State.isArrayOf_alike hZ.alike A.2.1) A.2.2 (own_in r hj hi hl) (own_at r hi hv) (g := mkF m pc Ls (.int j :: .ref a :: rest)) rfl rfl hd t k
theorem own_laload (F : own_L Z h a .long vs) (X : Stand p l e R s m args below meth c T locs cells slots) (hx : p.tables.exec = Jvm.exec) (hZ : Z.Warmed39 s.vm) (eT : T.heap = h) {pc i : Nat} {Ls : Array Slot} {j : Int32} {rest : List Value} (hj : ¬ j < 0) (hi : j.toNatClampNeg = i) (hl : i < vs.length) (hv : vs[i]? = some v) (hd : decode c.code pc = .ok (.laload, 1)) :
    ∀ t, Steps p.tables e below (T.setTop (mkF m (pc + 1) Ls (v :: rest))) t → Steps p.tables e below (T.setTop (mkF m pc Ls (.int j :: .ref a :: rest))) t := by
  obtain ⟨cl, A, r⟩ := F
  exact fun t k => X.laload hx (j := j) (v := v) (by rw [eT]; exact A.1) (State.isArrayOf_alike hZ.alike A.2.1) A.2.2 (own_in r hj hi hl) (own_at r hi hv) (g := mkF m pc Ls (.int j :: .ref a :: rest)) rfl rfl hd t k
theorem own_iastore (F : own_L Z h a .int vs) (X : Stand p l e R s m args below meth c T locs cells slots) (hx : p.tables.exec = Jvm.exec) (hZ : Z.Warmed39 s.vm) (eT : T.heap = h) {pc i : Nat} {Ls : Array Slot} {j x : Int32} {rest : List Value} (hj : ¬ j < 0) (hi : j.toNatClampNeg = i) (hl : i < vs.length) (hd : decode c.code pc = .ok (.iastore, 1)) :
    ∃ T' h', Stand p l e R s m args below meth c T' (locs ++ [⟨a, i⟩]) cells slots ∧ T'.heap = h' ∧ Wr h h' a i (.int x) ∧ own_L Z h' a .int (vs.set i (.int x)) ∧
      ∀ t, Steps p.tables e below (T'.setTop (mkF m (pc + 1) Ls rest)) t → Steps p.tables e below (T.setTop (mkF m pc Ls (.int x :: .int j :: .ref a :: rest))) t := by
  have F0 := F
  obtain ⟨cl, A, r⟩ := F
  obtain ⟨T', h', X', e', W, st⟩ := stI X hx hZ eT A (j := j) (own_in r hj hi hl) (g := mkF m pc Ls (.int x :: .int j :: .ref a :: rest)) rfl rfl hd
  subst hi
  exact ⟨T', h', X', e', W, F0.same W, st⟩
theorem own_bastore (F : own_L Z h a .byte vs) (X : Stand p l e R s m args below meth c T locs cells slots) (hx : p.tables.exec = Jvm.exec) (hZ : Z.Warmed39 s.vm) (eT : T.heap = h) {pc i : Nat} {Ls : Array Slot} {j x : Int32} {rest : List Value} (hj : ¬ j < 0) (hi : j.toNatClampNeg = i) (hl : i < vs.length) (hd : decode c.code pc = .ok (.bastore, 1)) :
    ∃ T' h', Stand p l e R s m args below meth c T' (locs ++ [⟨a, i⟩]) cells slots ∧ T'.heap = h' ∧ Wr h h' a i (.int (nar .byte x)) ∧ own_L Z h' a .byte (vs.set i (.int (nar .byte x))) ∧
      ∀ t, Steps p.tables e below (T'.setTop (mkF m (pc + 1) Ls rest)) t → Steps p.tables e below (T.setTop (mkF m pc Ls (.int x :: .int j :: .ref a :: rest))) t := by
  have F0 := F
  obtain ⟨cl, A, r⟩ := F
  obtain ⟨T', h', X', e', W, st⟩ := stB X hx hZ eT A (j := j) (own_in r hj hi hl) (g := mkF m pc Ls (.int x :: .int j :: .ref a :: rest)) rfl rfl hd
  subst hi
  exact ⟨T', h', X', e', W, F0.same W, st⟩
theorem own_castore (F : own_L Z h a .char vs) (X : Stand p l e R s m args below meth c T locs cells slots) (hx : p.tables.exec = Jvm.exec) (hZ : Z.Warmed39 s.vm) (eT : T.heap = h) {pc i : Nat} {Ls : Array Slot} {j x : Int32} {rest : List Value} (hj : ¬ j < 0) (hi : j.toNatClampNeg = i) (hl : i < vs.length) (hd : decode c.code pc = .ok (.castore, 1)) :
    ∃ T' h', Stand p l e R s m args below meth c T' (locs ++ [⟨a, i⟩]) cells slots ∧ T'.heap = h' ∧ Wr h h' a i (.int (nar .char x)) ∧ own_L Z h' a .char (vs.set i (.int (nar .char x))) ∧
      ∀ t, Steps p.tables e below (T'.setTop (mkF m (pc + 1) Ls rest)) t → Steps p.tables e below (T.setTop (mkF m pc Ls (.int x :: .int j :: .ref a :: rest))) t := by
  have F0 := F
  obtain ⟨cl, A, r⟩ := F
  obtain ⟨T', h', X', e', W, st⟩ := stC X hx hZ eT A (j := j) (own_in r hj hi hl) (g := mkF m pc Ls (.int x :: .int j :: .ref a :: rest)) rfl rfl hd
  subst hi
  exact ⟨T', h', X', e', W, F0.same W, st⟩
theorem own_lastore (F : own_L Z h a .long vs) (X : Stand p l e R s m args below meth c T locs cells slots) (hx : p.tables.exec = Jvm.exec) (hZ : Z.Warmed39 s.vm) (eT : T.heap = h) {pc i : Nat} {Ls : Array Slot} {j : Int32} {x : Int64} {rest : List Value} (hj : ¬ j < 0) (hi : j.toNatClampNeg = i) (hl : i < vs.length) (hd : decode c.code pc = .ok (.lastore, 1)) :
    ∃ T' h', Stand p l e R s m args below meth c T' (locs ++ [⟨a, i⟩]) cells slots ∧ T'.heap = h' ∧ Wr h h' a i (.long x) ∧ own_L Z h' a .long (vs.set i (.long x)) ∧
      ∀ t, Steps p.tables e below (T'.setTop (mkF m (pc + 1) Ls rest)) t → Steps p.tables e below (T.setTop (mkF m pc Ls (.long x :: .int j :: .ref a :: rest))) t := by
  have F0 := F
  obtain ⟨cl, A, r⟩ := F
  obtain ⟨T', h', X', e', W, st⟩ := stJ X hx hZ eT A (j := j) (own_in r hj hi hl) (g := mkF m pc Ls (.long x :: .int j :: .ref a :: rest)) rfl rfl hd
  subst hi
  exact ⟨T', h', X', e', W, F0.same W, st⟩

theorem own_nneg {j : Int32} (q : 0 ≤ j.toInt) : ¬ j < 0 := by
  rw [Int32.lt_iff_toInt_lt]; have e0 : (0 : Int32).toInt = 0 := rfl
  omega
theorem own_ltn {j : Int32} {i : Nat} (q : 0 ≤ j.toInt) (r : j.toInt < i) : j.toNatClampNeg < i := by
  simp only [Int32.toNatClampNeg]; omega
theorem own_mapAt {xs : List Int32} {i : Nat} (q : i < (List.map Value.int xs).length) : ∃ v : Int32, (List.map Value.int xs)[i]? = some (.int v) := by
  rw [List.length_map] at q
  exact ⟨xs[i], by simp [q]⟩
theorem own_rem {x y : Int32} {i : Int} (hx : 0 ≤ x.toInt) (hy : y.toInt = i) (hi : 0 < i) : 0 ≤ (x % y).toInt ∧ (x % y).toInt < i := by
  rw [Jvm.Kit.i32_rem_nonneg hx, hy]
  exact ⟨Int.emod_nonneg _ (by omega), Int.emod_lt_of_pos _ hi⟩
theorem own_eqI (x y : Int32) : x = y ↔ x.toInt = y.toInt := Int32.toInt_inj.symm
theorem own_or {α : Type} {P P' : Prop} [Decidable P] [Decidable P'] {a b : α} : (if P then a else if P' then a else b) = if P ∨ P' then a else b := by
  by_cases h1 : P <;> by_cases h2 : P' <;> simp [h1, h2]
theorem own_rng {α : Type} {P P' : Prop} [Decidable P] [Decidable P'] {a b : α} : (if P then a else if P' then a else b) = if ¬ P ∧ ¬ P' then b else a := by
  by_cases h1 : P <;> by_cases h2 : P' <;> simp [h1, h2]

theorem own_flip {P P' : Prop} [Decidable P] [Decidable P'] {a b : Int32} (h : P ↔ ¬ P') : (if P then a else b) = if P' then b else a := by
  by_cases h2 : P'
  · rw [if_pos h2, if_neg (fun q => h.mp q h2)]
  · rw [if_neg h2, if_pos (h.mpr h2)]

/-! C. a call by the callee's contract -/
/-- the contract of a body: started with these arguments on this heap it ends as Q says -/
abbrev own_C (l : Launch) (Z : State) (y : MethodName) (bytes : ByteArray) (maxL : Nat) (ret : Option FieldType) (rm : Room) (as : Array Value) (h0 : Heap) (Q : Option Value → Heap → List Loc → Prop) : Prop :=
  MetFree l y (head1 [Cond.code y bytes maxL ret] rm) (fun a U => a = as ∧ Z.Warmed39 U.vm ∧ U.heap = h0) (fun _ _ _ _ _ => True) (fun _ U o U' => ∃ v L, o = .returned v ∧ Q v U'.heap L ∧ FrameEnd U o U' L rm.cells rm.slots)
/-- a pure body: it returns w, and nothing has moved -/
abbrev own_P (h0 : Heap) (w : Option Value) : Option Value → Heap → List Loc → Prop := fun v h L => v = w ∧ L = [] ∧ h = h0
theorem own_callS (X : Stand p l e R s m args below meth c T locs cells slots) (hx : p.tables.exec = Jvm.exec) (hZ : Z.Warmed39 s.vm) {own : String} {index : Nat} {y : MethodName} {bytes : ByteArray} {maxL : Nat} {ret : Option FieldType}
    (hown : s.vm.findClass own = some m.cls) (w1 : (Cond.methodLink own index y).before a0 Z = true) (w2 : (Cond.static y).before a0 Z = true) (w3 : (Cond.initialized y.cls).before a0 Z = true) (w4 : (Cond.code y bytes maxL ret).before a0 Z = true)
    {rm : Room} {as : Array Value} (hM : own_C l Z y bytes maxL ret rm as h Q) (eT : T.heap = h) {pc : Nat} {Ls : Array Slot} {argsL rest : List Value} (hd : decode c.code pc = .ok (.invokestatic index, 3))
    {ps : List FieldType} {rt : Option FieldType} (hpd : parseMethodDescriptor y.desc = some ⟨ps, rt⟩) (W : Nat) (hsize : Ls.size = c.maxLocals) (hy : y.cls ≠ "java/lang/invoke/MethodHandle" ∧ y.cls ≠ "java/lang/invoke/VarHandle") (hl : argsL.length = ps.length) (has : argsL.toArray = as)
    {st : List Value} (hst : st = argsL.reverse ++ rest) (hW : (rest.map fun v => v.category).sum ≤ W) (hf : rm.frames + 1 ≤ R.frames) (hlo : W + (maxL + 11) + rm.locals ≤ R.locals) (hc : cells + rm.cells ≤ R.cells) (hs : slots + rm.slots ≤ R.slots) :
    ∃ v T' L, Stand p l e R s m args below meth c T' (locs ++ L) (cells + rm.cells) (slots + rm.slots) ∧ Q v T'.heap L ∧
      ∀ t, Steps p.tables e below (T'.setTop (mkF m (pc + 3) Ls (v.toList ++ rest))) t → Steps p.tables e below (T.setTop (mkF m pc Ls st)) t := by
  obtain ⟨v, _, ⟨T1, L1, k1, n1⟩, -, X1, ⟨L, hQ, l1, y1, z1⟩, st1⟩ := Jvm.LawKit.callS X hx (y := y) hown (mvT hZ w1) (mvT hZ w2) (mvT hZ w3) (mvT hZ w4) hy (backOf (W := W) hM hZ w4 w3 hf hlo) (g := mkF m pc Ls st) rfl hsize (argsL := argsL) (rest := rest) (lenOf hpd hl) hst (by show 2 * 0 + _ ≤ _; rw [Nat.mul_zero, Nat.zero_add]; exact hW) hd (fun _ _ => ⟨has, eT, hc, hs⟩)
  dsimp only [Pt.U, Pt.locs, Pt.cells, Pt.slots] at X1 l1 y1 z1 st1 hQ
  subst l1 y1 z1
  exact ⟨v, T1, L, X1, hQ, st1⟩
/-- a static call of a pure body -/
theorem own_callP (X : Stand p l e R s m args below meth c T locs cells slots) (hx : p.tables.exec = Jvm.exec) (hZ : Z.Warmed39 s.vm) {own : String} {index : Nat} {y : MethodName} {bytes : ByteArray} {maxL : Nat} {ret : Option FieldType}
    (hown : s.vm.findClass own = some m.cls) (w1 : (Cond.methodLink own index y).before a0 Z = true) (w2 : (Cond.static y).before a0 Z = true) (w3 : (Cond.initialized y.cls).before a0 Z = true) (w4 : (Cond.code y bytes maxL ret).before a0 Z = true)
    {fr lc : Nat} {as : Array Value} {w : Option Value} (hM : own_C l Z y bytes maxL ret { frames := fr, cells := 0, slots := 0, locals := lc } as h (own_P h w)) (eT : T.heap = h) {pc : Nat} {Ls : Array Slot} {argsL rest : List Value} (hd : decode c.code pc = .ok (.invokestatic index, 3))
    {ps : List FieldType} {rt : Option FieldType} (hpd : parseMethodDescriptor y.desc = some ⟨ps, rt⟩) (W : Nat) (hsize : Ls.size = c.maxLocals) (hy : y.cls ≠ "java/lang/invoke/MethodHandle" ∧ y.cls ≠ "java/lang/invoke/VarHandle") (hl : argsL.length = ps.length) (has : argsL.toArray = as)
    {st : List Value} (hst : st = argsL.reverse ++ rest) (hW : (rest.map fun v => v.category).sum ≤ W) (hf : fr + 1 ≤ R.frames) (hlo : W + (maxL + 11) + lc ≤ R.locals) (hc : cells ≤ R.cells) (hs : slots ≤ R.slots) :
    ∃ T', Stand p l e R s m args below meth c T' locs cells slots ∧ T'.heap = h ∧
      ∀ t, Steps p.tables e below (T'.setTop (mkF m (pc + 3) Ls (w.toList ++ rest))) t → Steps p.tables e below (T.setTop (mkF m pc Ls st)) t := by
  obtain ⟨v, T', L, X', ⟨rfl, rfl, e'⟩, st'⟩ := own_callS X hx hZ hown w1 w2 w3 w4 hM eT hd hpd W hsize hy hl has hst hW hf hlo hc hs
  exact ⟨T', by simpa using X', e', st'⟩
/-- a constructor by its contract -/
theorem own_callI (X : Stand p l e R s m args below meth c T locs cells slots) (hx : p.tables.exec = Jvm.exec) (hZ : Z.Warmed39 s.vm) {own : String} {index : Nat} {y : MethodName} {bytes : ByteArray} {maxL : Nat} (hy1 : y.name = "<init>")
    (hown : s.vm.findClass own = some m.cls) (w1 : (Cond.methodLink own index y).before a0 Z = true) (w2 : (Cond.instanceMethod y).before a0 Z = true) (w3 : (Cond.initialized y.cls).before a0 Z = true) (w4 : (Cond.code y bytes maxL none).before a0 Z = true)
    {rm : Room} {as : Array Value} (hM : own_C l Z y bytes maxL none rm as h Q) (eT : T.heap = h) {pc : Nat} {Ls : Array Slot} {argsL rest : List Value} (hd : decode c.code pc = .ok (.invokespecial index, 3))
    {ps : List FieldType} {rt : Option FieldType} (hpd : parseMethodDescriptor y.desc = some ⟨ps, rt⟩) (W : Nat) (hsize : Ls.size = c.maxLocals) (hy : y.cls ≠ "java/lang/invoke/MethodHandle" ∧ y.cls ≠ "java/lang/invoke/VarHandle") (hl : argsL.length = ps.length) (has : (.ref a :: argsL).toArray = as)
    {st : List Value} (hst : st = argsL.reverse ++ .ref a :: rest) (hW : (rest.map fun v => v.category).sum ≤ W) (hf : rm.frames + 1 ≤ R.frames) (hlo : W + (maxL + 11) + rm.locals ≤ R.locals) (hc : cells + rm.cells ≤ R.cells) (hs : slots + rm.slots ≤ R.slots) :
    ∃ v T' L, Stand p l e R s m args below meth c T' (locs ++ L) (cells + rm.cells) (slots + rm.slots) ∧ Q v T'.heap L ∧
      ∀ t, Steps p.tables e below (T'.setTop (mkF m (pc + 3) Ls (v.toList ++ rest))) t → Steps p.tables e below (T.setTop (mkF m pc Ls st)) t := by
  obtain ⟨v, _, ⟨T1, L1, k1, n1⟩, -, X1, ⟨L, hQ, l1, y1, z1⟩, st1⟩ := X.specialBack hx (y := y) hy1 hown (mvT hZ w1) (mvT hZ w2) (mvT hZ w4) hy (backOf (W := W) hM hZ w4 w3 hf hlo) (g := mkF m pc Ls st) rfl hsize (Steps.refl _) (a := a) (argsL := argsL) (rest := rest) (lenOf hpd hl) hst (by show 2 * 0 + _ ≤ _; rw [Nat.mul_zero, Nat.zero_add]; exact hW) hd (fun _ _ => ⟨has, eT, hc, hs⟩)
  dsimp only [Pt.U, Pt.locs, Pt.cells, Pt.slots] at X1 l1 y1 z1 st1 hQ
  subst l1 y1 z1
  exact ⟨v, T1, L, X1, hQ, fun t k => st1.trans k⟩
/-- an instance method that the receiver's class selects, by its contract -/
theorem own_callV (X : Stand p l e R s m args below meth c T locs cells slots) (hx : p.tables.exec = Jvm.exec) (hZ : Z.Warmed39 s.vm) {own : String} {index : Nat} {y : MethodName} {bytes : ByteArray} {maxL : Nat} {ret : Option FieldType}
    (hown : s.vm.findClass own = some m.cls) (w1 : (Cond.methodLink own index y).before a0 Z = true) (wd : (Cond.declares y).before a0 Z = true) (ws' : (Cond.selects y.cls y y).before a0 Z = true) (w2 : (Cond.instanceMethod y).before a0 Z = true) (w3 : (Cond.initialized y.cls).before a0 Z = true) (w4 : (Cond.code y bytes maxL ret).before a0 Z = true)
    {rm : Room} {as : Array Value} (hM : own_C l Z y bytes maxL ret rm as h Q) (eT : T.heap = h) (hE : Exa Z h a y.cls) {pc : Nat} {Ls : Array Slot} {argsL rest : List Value} (hd : decode c.code pc = .ok (.invokevirtual index, 3))
    {ps : List FieldType} {rt : Option FieldType} (hpd : parseMethodDescriptor y.desc = some ⟨ps, rt⟩) (W : Nat) (hsize : Ls.size = c.maxLocals) (hy : y.cls ≠ "java/lang/invoke/MethodHandle" ∧ y.cls ≠ "java/lang/invoke/VarHandle") (hl : argsL.length = ps.length) (has : (.ref a :: argsL).toArray = as)
    {st : List Value} (hst : st = argsL.reverse ++ .ref a :: rest) (hW : (rest.map fun v => v.category).sum ≤ W) (hf : rm.frames + 1 ≤ R.frames) (hlo : W + (maxL + 11) + rm.locals ≤ R.locals) (hc : cells + rm.cells ≤ R.cells) (hs : slots + rm.slots ≤ R.slots) :
    ∃ v T' L, Stand p l e R s m args below meth c T' (locs ++ L) (cells + rm.cells) (slots + rm.slots) ∧ Q v T'.heap L ∧
      ∀ t, Steps p.tables e below (T'.setTop (mkF m (pc + 3) Ls (v.toList ++ rest))) t → Steps p.tables e below (T.setTop (mkF m pc Ls st)) t := by
  obtain ⟨cq, kq, qa, qb, qc⟩ := isOf hZ eT hE
  obtain ⟨v, _, ⟨T1, L1, k1, n1⟩, -, X1, ⟨L, hQ, l1, y1, z1⟩, st1⟩ := X.virtualBack hx (y := y) (z := y) hown (mvT hZ w1) (mvT hZ wd) (notFace_of_selects (args := #[]) (mvT hZ ws')) (mvT hZ ws') (mvT hZ w2) hy (backOf (W := W) hM hZ w4 w3 hf hlo) qa qc (g := mkF m pc Ls st) rfl hsize (Steps.refl _) (argsL := argsL) (rest := rest) (lenOf hpd hl) hst (by show 2 * 0 + _ ≤ _; rw [Nat.mul_zero, Nat.zero_add]; exact hW) hd (fun _ _ => ⟨has, eT, hc, hs⟩)
  dsimp only [Pt.U, Pt.locs, Pt.cells, Pt.slots] at X1 l1 y1 z1 st1 hQ
  subst l1 y1 z1
  exact ⟨v, T1, L, X1, hQ, fun t k => st1.trans k⟩
/-- a private method by its contract -/
theorem own_callPr (X : Stand p l e R s m args below meth c T locs cells slots) (hx : p.tables.exec = Jvm.exec) (hZ : Z.Warmed39 s.vm) {own : String} {index kk : Nat} {y : MethodName} {bytes : ByteArray} {maxL : Nat} {ret : Option FieldType}
    (hown : s.vm.findClass own = some m.cls) (w1 : (Cond.methodLink own index y).before a0 Z = true) (wp : (Cond.privateMethod y).before a0 Z = true) (wi : (Cond.instantiable y.cls kk).before a0 Z = true) (w2 : (Cond.instanceMethod y).before a0 Z = true) (w3 : (Cond.initialized y.cls).before a0 Z = true) (w4 : (Cond.code y bytes maxL ret).before a0 Z = true)
    {rm : Room} {as : Array Value} (hM : own_C l Z y bytes maxL ret rm as h Q) (eT : T.heap = h) (hE : Exa Z h a y.cls) {pc : Nat} {Ls : Array Slot} {argsL rest : List Value} (hd : decode c.code pc = .ok (.invokevirtual index, 3))
    {ps : List FieldType} {rt : Option FieldType} (hpd : parseMethodDescriptor y.desc = some ⟨ps, rt⟩) (W : Nat) (hsize : Ls.size = c.maxLocals) (hy : y.cls ≠ "java/lang/invoke/MethodHandle" ∧ y.cls ≠ "java/lang/invoke/VarHandle") (hl : argsL.length = ps.length) (has : (.ref a :: argsL).toArray = as)
    {st : List Value} (hst : st = argsL.reverse ++ .ref a :: rest) (hW : (rest.map fun v => v.category).sum ≤ W) (hf : rm.frames + 1 ≤ R.frames) (hlo : W + (maxL + 11) + rm.locals ≤ R.locals) (hc : cells + rm.cells ≤ R.cells) (hs : slots + rm.slots ≤ R.slots) :
    ∃ v T' L, Stand p l e R s m args below meth c T' (locs ++ L) (cells + rm.cells) (slots + rm.slots) ∧ Q v T'.heap L ∧
      ∀ t, Steps p.tables e below (T'.setTop (mkF m (pc + 3) Ls (v.toList ++ rest))) t → Steps p.tables e below (T.setTop (mkF m pc Ls st)) t := by
  obtain ⟨cq, q1, q2⟩ := hE.cell
  have hpr : s.PrivateAt y := Cond.privateMethod_at (mvP hZ wp (args := #[]))
  have hsel : (Cond.selects y.cls y y).before args s = true := by
    obtain ⟨ci, ki, hci, hki, -, hniab, -, -⟩ := Cond.instantiable_spec (mvT (args := args) hZ wi)
    exact selects_self_of_private hci hki (Bool.or_eq_false_iff.mp hniab).1 hpr (mvT hZ w2) hy
  obtain ⟨v, _, ⟨T1, L1, k1, n1⟩, -, X1, ⟨L, hQ, l1, y1, z1⟩, st1⟩ := X.privateBack hx (y := y) hown (mvT hZ w1) (mvT hZ w2) hsel hpr (mvT hZ w4) hy (backOf (W := W) hM hZ w4 w3 hf hlo) (g := mkF m pc Ls st) rfl hsize (Steps.refl _) (a := a) (by rw [eT]; exact q1) q2 (argsL := argsL) (rest := rest) (lenOf hpd hl) hst (by show 2 * 0 + _ ≤ _; rw [Nat.mul_zero, Nat.zero_add]; exact hW) hd (fun _ _ => ⟨has, eT, hc, hs⟩)
  dsimp only [Pt.U, Pt.locs, Pt.cells, Pt.slots] at X1 l1 y1 z1 st1 hQ
  subst l1 y1 z1
  exact ⟨v, T1, L, X1, hQ, fun t k => st1.trans k⟩
end OwnWalk
theorem pd_0 : parseMethodDescriptor "(C)Z" = some ⟨[.char], some .boolean⟩ := by decide +kernel
theorem d1_0 : decode prog_97_method_2_code 0 = .ok (.iload_n 0, 1) := by decide +kernel
theorem d1_1 : decode prog_97_method_2_code 1 = .ok (.bipush 32, 2) := by decide +kernel
theorem d1_3 : decode prog_97_method_2_code 3 = .ok (.if_icmp .eq 21, 3) := by decide +kernel
theorem d1_6 : decode prog_97_method_2_code 6 = .ok (.iload_n 0, 1) := by decide +kernel
theorem d1_7 : decode prog_97_method_2_code 7 = .ok (.bipush 9, 2) := by decide +kernel
theorem d1_9 : decode prog_97_method_2_code 9 = .ok (.if_icmp .eq 15, 3) := by decide +kernel
theorem d1_12 : decode prog_97_method_2_code 12 = .ok (.iload_n 0, 1) := by decide +kernel
theorem d1_13 : decode prog_97_method_2_code 13 = .ok (.bipush 13, 2) := by decide +kernel
theorem d1_15 : decode prog_97_method_2_code 15 = .ok (.if_icmp .eq 9, 3) := by decide +kernel
theorem d1_18 : decode prog_97_method_2_code 18 = .ok (.iload_n 0, 1) := by decide +kernel
theorem d1_19 : decode prog_97_method_2_code 19 = .ok (.bipush 10, 2) := by decide +kernel
theorem d1_21 : decode prog_97_method_2_code 21 = .ok (.if_icmp .ne 7, 3) := by decide +kernel
theorem d1_24 : decode prog_97_method_2_code 24 = .ok (.iconst 1, 1) := by decide +kernel
theorem d1_25 : decode prog_97_method_2_code 25 = .ok (.goto 4, 3) := by decide +kernel
theorem d1_28 : decode prog_97_method_2_code 28 = .ok (.iconst 0, 1) := by decide +kernel
theorem d1_29 : decode prog_97_method_2_code 29 = .ok (.ireturn, 1) := by decide +kernel
def f1_0 (l0 : Int32) : Int32 := (if l0 = (32 : Int32) then (1 : Int32) else (if l0 = (9 : Int32) then (1 : Int32) else (if l0 = (13 : Int32) then (1 : Int32) else (if l0 = (10 : Int32) then (1 : Int32) else (0 : Int32)))))
set_option maxRecDepth 65536 in
set_option maxHeartbeats 40000000 in
theorem w1_0 {p : Program} {l : Launch} {e : Env} {s : State} {m : MethodId} {args : Array Value} {below : List Frame} {meth : Method} {c : Code} {T0 : State} {locs : List Loc} {Z : State} {a0 : Array Value} {h0 : Heap} {Q : Option Value → Heap → List Loc → Prop}
    (X0 : Stand p l e ({ frames := 0, cells := 0, slots := 0, locals := 0 } : Room) s m args below meth c T0 locs 0 0) (hx : p.tables.exec = Jvm.exec) (hby : c.code = prog_97_method_2_code) (hml : c.maxLocals = 1) (hret : meth.sig.returnType = (some .boolean)) (hlk : meth.locks = false) (hown : s.vm.findClass "com/example/parley/parley/XmlChars" = some m.cls) (hZ : Z.Warmed39 s.vm) (hw : ∀ d ∈ tables_1, d.before a0 Z = true) (e0 : T0.heap = h0)
    (l0 : Int32) (hQ : Q (some (.int (f1_0 l0))) h0 locs) : own_End p e below s Q 0 0 (T0.setTop (mkF m 0 #[.val (.int l0)] [])) := by
  unfold f1_0 at hQ
  refine own_go (S' := (T0.setTop (mkF m 1 #[.val (.int l0)] [(.int l0)]))) (fun t k => XS.iloadN X0.here hx rfl (hb hby d1_0) rfl k) ?_
  refine own_go (S' := (T0.setTop (mkF m 3 #[.val (.int l0)] [(.int (32 : Int32)), (.int l0)]))) (fun t k => XT.bipushV X0.here hx rfl (32 : Int32) (hb hby d1_1) (by decide) k) ?_
  by_cases hc3_1 : l0 = (32 : Int32)
  ·
    rw [if_pos hc3_1] at hQ
    refine own_go (S' := (T0.setTop (mkF m 24 #[.val (.int l0)] []))) (fun t k => XS.icmpYes X0.here hx rfl (pc0 := 3) (pc' := 24) rfl (hb hby d1_3) rfl (teq hc3_1).1 (by decide) (by decide) k) ?_
    refine own_go (S' := (T0.setTop (mkF m 25 #[.val (.int l0)] [(.int (1 : Int32))]))) (fun t k => XT.iconstV X0.here hx rfl (1 : Int32) (hb hby d1_24) (by decide) k) ?_
    refine own_go (S' := (T0.setTop (mkF m 29 #[.val (.int l0)] [(.int (1 : Int32))]))) (fun t k => XS.goto X0.here hx rfl (pc0 := 25) (pc' := 29) rfl (hb hby d1_25) (by decide) (by decide) k) ?_
    exact own_retN X0 hx hret hlk (by simp) (hb hby d1_29) (by first | rfl | decide) (Nat.le_refl _) (Nat.le_refl _) (by rw [e0]; exact hQ)
  ·
    rw [if_neg hc3_1] at hQ
    refine own_go (S' := (T0.setTop (mkF m 6 #[.val (.int l0)] []))) (fun t k => XS.icmpNo X0.here hx rfl (hb hby d1_3) rfl (feq hc3_1).1 k) ?_
    refine own_go (S' := (T0.setTop (mkF m 7 #[.val (.int l0)] [(.int l0)]))) (fun t k => XS.iloadN X0.here hx rfl (hb hby d1_6) rfl k) ?_
    refine own_go (S' := (T0.setTop (mkF m 9 #[.val (.int l0)] [(.int (9 : Int32)), (.int l0)]))) (fun t k => XT.bipushV X0.here hx rfl (9 : Int32) (hb hby d1_7) (by decide) k) ?_
    by_cases hc9_2 : l0 = (9 : Int32)
    ·
      rw [if_pos hc9_2] at hQ
      refine own_go (S' := (T0.setTop (mkF m 24 #[.val (.int l0)] []))) (fun t k => XS.icmpYes X0.here hx rfl (pc0 := 9) (pc' := 24) rfl (hb hby d1_9) rfl (teq hc9_2).1 (by decide) (by decide) k) ?_
      refine own_go (S' := (T0.setTop (mkF m 25 #[.val (.int l0)] [(.int (1 : Int32))]))) (fun t k => XT.iconstV X0.here hx rfl (1 : Int32) (hb hby d1_24) (by decide) k) ?_
      refine own_go (S' := (T0.setTop (mkF m 29 #[.val (.int l0)] [(.int (1 : Int32))]))) (fun t k => XS.goto X0.here hx rfl (pc0 := 25) (pc' := 29) rfl (hb hby d1_25) (by decide) (by decide) k) ?_
      exact own_retN X0 hx hret hlk (by simp) (hb hby d1_29) (by first | rfl | decide) (Nat.le_refl _) (Nat.le_refl _) (by rw [e0]; exact hQ)
    ·
      rw [if_neg hc9_2] at hQ
      refine own_go (S' := (T0.setTop (mkF m 12 #[.val (.int l0)] []))) (fun t k => XS.icmpNo X0.here hx rfl (hb hby d1_9) rfl (feq hc9_2).1 k) ?_
      refine own_go (S' := (T0.setTop (mkF m 13 #[.val (.int l0)] [(.int l0)]))) (fun t k => XS.iloadN X0.here hx rfl (hb hby d1_12) rfl k) ?_
      refine own_go (S' := (T0.setTop (mkF m 15 #[.val (.int l0)] [(.int (13 : Int32)), (.int l0)]))) (fun t k => XT.bipushV X0.here hx rfl (13 : Int32) (hb hby d1_13) (by decide) k) ?_
      by_cases hc15_3 : l0 = (13 : Int32)
      ·
        rw [if_pos hc15_3] at hQ
        refine own_go (S' := (T0.setTop (mkF m 24 #[.val (.int l0)] []))) (fun t k => XS.icmpYes X0.here hx rfl (pc0 := 15) (pc' := 24) rfl (hb hby d1_15) rfl (teq hc15_3).1 (by decide) (by decide) k) ?_
        refine own_go (S' := (T0.setTop (mkF m 25 #[.val (.int l0)] [(.int (1 : Int32))]))) (fun t k => XT.iconstV X0.here hx rfl (1 : Int32) (hb hby d1_24) (by decide) k) ?_
        refine own_go (S' := (T0.setTop (mkF m 29 #[.val (.int l0)] [(.int (1 : Int32))]))) (fun t k => XS.goto X0.here hx rfl (pc0 := 25) (pc' := 29) rfl (hb hby d1_25) (by decide) (by decide) k) ?_
        exact own_retN X0 hx hret hlk (by simp) (hb hby d1_29) (by first | rfl | decide) (Nat.le_refl _) (Nat.le_refl _) (by rw [e0]; exact hQ)
      ·
        rw [if_neg hc15_3] at hQ
        refine own_go (S' := (T0.setTop (mkF m 18 #[.val (.int l0)] []))) (fun t k => XS.icmpNo X0.here hx rfl (hb hby d1_15) rfl (feq hc15_3).1 k) ?_
        refine own_go (S' := (T0.setTop (mkF m 19 #[.val (.int l0)] [(.int l0)]))) (fun t k => XS.iloadN X0.here hx rfl (hb hby d1_18) rfl k) ?_
        refine own_go (S' := (T0.setTop (mkF m 21 #[.val (.int l0)] [(.int (10 : Int32)), (.int l0)]))) (fun t k => XT.bipushV X0.here hx rfl (10 : Int32) (hb hby d1_19) (by decide) k) ?_
        by_cases hc21_4 : l0 = (10 : Int32)
        ·
          rw [if_pos hc21_4] at hQ
          refine own_go (S' := (T0.setTop (mkF m 24 #[.val (.int l0)] []))) (fun t k => XS.icmpNo X0.here hx rfl (hb hby d1_21) rfl (teq hc21_4).2 k) ?_
          refine own_go (S' := (T0.setTop (mkF m 25 #[.val (.int l0)] [(.int (1 : Int32))]))) (fun t k => XT.iconstV X0.here hx rfl (1 : Int32) (hb hby d1_24) (by decide) k) ?_
          refine own_go (S' := (T0.setTop (mkF m 29 #[.val (.int l0)] [(.int (1 : Int32))]))) (fun t k => XS.goto X0.here hx rfl (pc0 := 25) (pc' := 29) rfl (hb hby d1_25) (by decide) (by decide) k) ?_
          exact own_retN X0 hx hret hlk (by simp) (hb hby d1_29) (by first | rfl | decide) (Nat.le_refl _) (Nat.le_refl _) (by rw [e0]; exact hQ)
        ·
          rw [if_neg hc21_4] at hQ
          refine own_go (S' := (T0.setTop (mkF m 28 #[.val (.int l0)] []))) (fun t k => XS.icmpYes X0.here hx rfl (pc0 := 21) (pc' := 28) rfl (hb hby d1_21) rfl (feq hc21_4).2 (by decide) (by decide) k) ?_
          refine own_go (S' := (T0.setTop (mkF m 29 #[.val (.int l0)] [(.int (0 : Int32))]))) (fun t k => XT.iconstV X0.here hx rfl (0 : Int32) (hb hby d1_28) (by decide) k) ?_
          exact own_retN X0 hx hret hlk (by simp) (hb hby d1_29) (by first | rfl | decide) (Nat.le_refl _) (Nat.le_refl _) (by rw [e0]; exact hQ)
theorem pn_1 : plainName "com/example/parley/parley/XmlChars" = true := by first | (simp [plainName, overriddenIn]; done) | decide +kernel
theorem ef_1 (m : MethodId) (l0 : Int32) : entryFrame m #[(.int l0)] 1 = mkF m 0 #[.val (.int l0)] [] := by first | (simp [entryFrame, mkF, argsToLocals, Value.category]; done) | rfl
set_option maxRecDepth 65536 in
theorem rm1 (l : Launch) (Z : State) (a0 : Array Value) (hw : ∀ d ∈ tables_1, d.before a0 Z = true) (l0 : Int32) (h0 : Heap) : own_C l Z (⟨"com/example/parley/parley/XmlChars", "isWhitespace", "(C)Z"⟩ : MethodName) prog_97_method_2_code 1 (some .boolean) ({ frames := 0, cells := 0, slots := 0, locals := 0 } : Room) #[(.int l0)] h0 (own_P h0 (some (.int (f1_0 l0)))) := by
  refine MetFree.of_bodySF (plainFor_of_name pn_1) hisR ?_
  intro p e s m args below meth c s₁ Bd hml hP hK
  obtain ⟨rfl, hZ, hh⟩ := hP
  show own_End p e below s (own_P h0 (some (.int (f1_0 l0)))) 0 0 (s₁.setTop (entryFrame m #[(.int l0)] 1))
  exact own_cast (ef_1 m l0) (w1_0 (Stand.of_body Bd) Bd.exec Bd.bytes hml Bd.returns (BodyLoose.notSynchronized Bd) (findClass_of_methodNamed Bd.named) hZ hw (by rw [← hh, Bd.state]; rfl) l0 ⟨rfl, rfl, rfl⟩)
theorem d2_0 : decode method_2_code 0 = .ok (.iload_n 0, 1) := by decide +kernel
theorem d2_1 : decode method_2_code 1 = .ok (.bipush 64, 2) := by decide +kernel
theorem d2_3 : decode method_2_code 3 = .ok (.if_icmp .lt 5, 3) := by decide +kernel
theorem d2_6 : decode method_2_code 6 = .ok (.iconst 0, 1) := by decide +kernel
theorem d2_7 : decode method_2_code 7 = .ok (.ireturn, 1) := by decide +kernel
theorem d2_8 : decode method_2_code 8 = .ok (.ldc2_w 9, 3) := by decide +kernel
theorem d2_11 : decode method_2_code 11 = .ok (.iload_n 0, 1) := by decide +kernel
theorem d2_12 : decode method_2_code 12 = .ok (.lushr, 1) := by decide +kernel
theorem d2_13 : decode method_2_code 13 = .ok (.lconst 1, 1) := by decide +kernel
theorem d2_14 : decode method_2_code 14 = .ok (.land, 1) := by decide +kernel
theorem d2_15 : decode method_2_code 15 = .ok (.lconst 0, 1) := by decide +kernel
theorem d2_16 : decode method_2_code 16 = .ok (.lcmp, 1) := by decide +kernel
theorem d2_17 : decode method_2_code 17 = .ok (.ifCond .eq 7, 3) := by decide +kernel
theorem d2_20 : decode method_2_code 20 = .ok (.iconst 1, 1) := by decide +kernel
theorem d2_21 : decode method_2_code 21 = .ok (.goto 4, 3) := by decide +kernel
theorem d2_24 : decode method_2_code 24 = .ok (.iconst 0, 1) := by decide +kernel
theorem d2_25 : decode method_2_code 25 = .ok (.ireturn, 1) := by decide +kernel
def f2_0 (l0 : Int32) : Int32 := (if l0 < (64 : Int32) then (if ((((4294977024 : Int64).toUInt64 >>> (l0 &&& 0x3f).toInt64.toUInt64).toInt64) &&& (1 : Int64)) = (0 : Int64) then (0 : Int32) else (1 : Int32)) else (0 : Int32))
set_option maxRecDepth 65536 in
set_option maxHeartbeats 40000000 in
theorem w2_0 {p : Program} {l : Launch} {e : Env} {s : State} {m : MethodId} {args : Array Value} {below : List Frame} {meth : Method} {c : Code} {T0 : State} {locs : List Loc} {Z : State} {a0 : Array Value} {h0 : Heap} {Q : Option Value → Heap → List Loc → Prop}
    (X0 : Stand p l e ({ frames := 0, cells := 0, slots := 0, locals := 0 } : Room) s m args below meth c T0 locs 0 0) (hx : p.tables.exec = Jvm.exec) (hby : c.code = method_2_code) (hml : c.maxLocals = 1) (hret : meth.sig.returnType = (some .boolean)) (hlk : meth.locks = false) (hown : s.vm.findClass "com/example/parley/parley/XmlCharsIsWhitespacePinLaw" = some m.cls) (hZ : Z.Warmed39 s.vm) (hw : ∀ d ∈ tables_1, d.before a0 Z = true) (e0 : T0.heap = h0)
    (l0 : Int32) (hQ : Q (some (.int (f2_0 l0))) h0 locs) : own_End p e below s Q 0 0 (T0.setTop (mkF m 0 #[.val (.int l0)] [])) := by
  unfold f2_0 at hQ
  refine own_go (S' := (T0.setTop (mkF m 1 #[.val (.int l0)] [(.int l0)]))) (fun t k => XS.iloadN X0.here hx rfl (hb hby d2_0) rfl k) ?_
  refine own_go (S' := (T0.setTop (mkF m 3 #[.val (.int l0)] [(.int (64 : Int32)), (.int l0)]))) (fun t k => XT.bipushV X0.here hx rfl (64 : Int32) (hb hby d2_1) (by decide) k) ?_
  by_cases hc3_1 : l0 < (64 : Int32)
  ·
    rw [if_pos hc3_1] at hQ
    refine own_go (S' := (T0.setTop (mkF m 8 #[.val (.int l0)] []))) (fun t k => XS.icmpYes X0.here hx rfl (pc0 := 3) (pc' := 8) rfl (hb hby d2_3) rfl (tlt hc3_1).1 (by decide) (by decide) k) ?_
    refine own_go (S' := (T0.setTop (mkF m 11 #[.val (.int l0)] [(.long (4294977024 : Int64))]))) (fun t k => Stand.ldc2J X0 hx hown (mvT hZ (hw _ (List.mem_of_getElem? (i := 9) rfl))) rfl (hb hby d2_8) k) ?_
    refine own_go (S' := (T0.setTop (mkF m 12 #[.val (.int l0)] [(.int l0), (.long (4294977024 : Int64))]))) (fun t k => XS.iloadN X0.here hx rfl (hb hby d2_11) rfl k) ?_
    refine own_go (S' := (T0.setTop (mkF m 13 #[.val (.int l0)] [(.long (((4294977024 : Int64).toUInt64 >>> (l0 &&& 0x3f).toInt64.toUInt64).toInt64))]))) (fun t k => XS.lushr X0.here hx rfl (hb hby d2_12) rfl k) ?_
    refine own_go (S' := (T0.setTop (mkF m 14 #[.val (.int l0)] [(.long (1 : Int64)), (.long (((4294977024 : Int64).toUInt64 >>> (l0 &&& 0x3f).toInt64.toUInt64).toInt64))]))) (fun t k => XT.lconstV X0.here hx rfl (1 : Int64) (hb hby d2_13) (by decide) k) ?_
    refine own_go (S' := (T0.setTop (mkF m 15 #[.val (.int l0)] [(.long ((((4294977024 : Int64).toUInt64 >>> (l0 &&& 0x3f).toInt64.toUInt64).toInt64) &&& (1 : Int64)))]))) (fun t k => XS.land X0.here hx rfl (hb hby d2_14) rfl k) ?_
    refine own_go (S' := (T0.setTop (mkF m 16 #[.val (.int l0)] [(.long (0 : Int64)), (.long ((((4294977024 : Int64).toUInt64 >>> (l0 &&& 0x3f).toInt64.toUInt64).toInt64) &&& (1 : Int64)))]))) (fun t k => XT.lconstV X0.here hx rfl (0 : Int64) (hb hby d2_15) (by decide) k) ?_
    refine own_go (S' := (T0.setTop (mkF m 17 #[.val (.int l0)] [(.int (lcmpW ((((4294977024 : Int64).toUInt64 >>> (l0 &&& 0x3f).toInt64.toUInt64).toInt64) &&& (1 : Int64)) (0 : Int64)))]))) (fun t k => XS.lcmp X0.here hx rfl (hb hby d2_16) rfl k) ?_
    by_cases hc17_2 : ((((4294977024 : Int64).toUInt64 >>> (l0 &&& 0x3f).toInt64.toUInt64).toInt64) &&& (1 : Int64)) = (0 : Int64)
    ·
      rw [if_pos hc17_2] at hQ
      refine own_go (S' := (T0.setTop (mkF m 24 #[.val (.int l0)] []))) (fun t k => XS.ifYes X0.here hx rfl (pc0 := 17) (pc' := 24) rfl (hb hby d2_17) rfl ((if0 _ _).trans (teq ((lw_eq _ _).mpr hc17_2)).1) (by decide) (by decide) k) ?_
      refine own_go (S' := (T0.setTop (mkF m 25 #[.val (.int l0)] [(.int (0 : Int32))]))) (fun t k => XT.iconstV X0.here hx rfl (0 : Int32) (hb hby d2_24) (by decide) k) ?_
      exact own_retN X0 hx hret hlk (by simp) (hb hby d2_25) (by first | rfl | decide) (Nat.le_refl _) (Nat.le_refl _) (by rw [e0]; exact hQ)
    ·
      rw [if_neg hc17_2] at hQ
      refine own_go (S' := (T0.setTop (mkF m 20 #[.val (.int l0)] []))) (fun t k => XS.ifNo X0.here hx rfl (hb hby d2_17) rfl ((if0 _ _).trans (feq (fun q => hc17_2 ((lw_eq _ _).mp q))).1) k) ?_
      refine own_go (S' := (T0.setTop (mkF m 21 #[.val (.int l0)] [(.int (1 : Int32))]))) (fun t k => XT.iconstV X0.here hx rfl (1 : Int32) (hb hby d2_20) (by decide) k) ?_
      refine own_go (S' := (T0.setTop (mkF m 25 #[.val (.int l0)] [(.int (1 : Int32))]))) (fun t k => XS.goto X0.here hx rfl (pc0 := 21) (pc' := 25) rfl (hb hby d2_21) (by decide) (by decide) k) ?_
      exact own_retN X0 hx hret hlk (by simp) (hb hby d2_25) (by first | rfl | decide) (Nat.le_refl _) (Nat.le_refl _) (by rw [e0]; exact hQ)
  ·
    rw [if_neg hc3_1] at hQ
    refine own_go (S' := (T0.setTop (mkF m 6 #[.val (.int l0)] []))) (fun t k => XS.icmpNo X0.here hx rfl (hb hby d2_3) rfl (flt hc3_1).1 k) ?_
    refine own_go (S' := (T0.setTop (mkF m 7 #[.val (.int l0)] [(.int (0 : Int32))]))) (fun t k => XT.iconstV X0.here hx rfl (0 : Int32) (hb hby d2_6) (by decide) k) ?_
    exact own_retN X0 hx hret hlk (by simp) (hb hby d2_7) (by first | rfl | decide) (Nat.le_refl _) (Nat.le_refl _) (by rw [e0]; exact hQ)
theorem pn_2 : plainName "com/example/parley/parley/XmlCharsIsWhitespacePinLaw" = true := by first | (simp [plainName, overriddenIn]; done) | decide +kernel
theorem ef_2 (m : MethodId) (l0 : Int32) : entryFrame m #[(.int l0)] 1 = mkF m 0 #[.val (.int l0)] [] := by first | (simp [entryFrame, mkF, argsToLocals, Value.category]; done) | rfl
set_option maxRecDepth 65536 in
theorem rm2 (l : Launch) (Z : State) (a0 : Array Value) (hw : ∀ d ∈ tables_1, d.before a0 Z = true) (l0 : Int32) (h0 : Heap) : own_C l Z (⟨"com/example/parley/parley/XmlCharsIsWhitespacePinLaw", "expected", "(C)Z"⟩ : MethodName) method_2_code 1 (some .boolean) ({ frames := 0, cells := 0, slots := 0, locals := 0 } : Room) #[(.int l0)] h0 (own_P h0 (some (.int (f2_0 l0)))) := by
  refine MetFree.of_bodySF (plainFor_of_name pn_2) hisR ?_
  intro p e s m args below meth c s₁ Bd hml hP hK
  obtain ⟨rfl, hZ, hh⟩ := hP
  show own_End p e below s (own_P h0 (some (.int (f2_0 l0)))) 0 0 (s₁.setTop (entryFrame m #[(.int l0)] 1))
  exact own_cast (ef_2 m l0) (w2_0 (Stand.of_body Bd) Bd.exec Bd.bytes hml Bd.returns (BodyLoose.notSynchronized Bd) (findClass_of_methodNamed Bd.named) hZ hw (by rw [← hh, Bd.state]; rfl) l0 ⟨rfl, rfl, rfl⟩)
theorem own_nat (x : Int32) (h0 : 0 ≤ x.toInt) (h1 : x.toInt < 64) : ∃ i, i < 64 ∧ x = Int32.ofNat i := by
  refine ⟨x.toInt.toNat, by omega, ?_⟩
  apply Int32.toInt_inj.mp
  rw [Int32.toInt_ofNat_small (by omega)]
  omega
theorem own_small : ∀ i, i < 64 → f1_0 (Int32.ofNat i) = f2_0 (Int32.ofNat i) := by decide +kernel
theorem own_same (x : Int32) (h0 : 0 ≤ x.toInt) : f1_0 x = f2_0 x := by
  by_cases h : 0 ≤ x.toInt ∧ x.toInt < 64
  · obtain ⟨i, hi, rfl⟩ := own_nat x h.1 h.2
    exact own_small i hi
  · unfold f1_0 f2_0
    have e : ∀ c : Int32, 0 ≤ c.toInt ∧ c.toInt < 64 → ¬ x = c := fun c hc q => h (q ▸ hc)
    rw [if_neg (e 32 (by decide)), if_neg (e 9 (by decide)), if_neg (e 13 (by decide)), if_neg (e 10 (by decide))]
    have h3 : ¬ x < (64 : Int32) := by
      rw [Int32.lt_iff_toInt_lt]
      have e64 : (64 : Int32).toInt = 64 := by decide
      omega
    rw [if_neg h3]
theorem own_char (y : Int32) : 0 ≤ (y.toUInt32.toUInt16.toUInt32.toInt32).toInt := by
  have h := fits_nar_char y
  simp only [nar, fits, Bool.and_eq_true, decide_eq_true_eq, Int32.le_iff_toInt_le] at h
  exact h.1
theorem pn_0 : plainName "com/example/parley/parley/XmlCharsIsWhitespacePinLaw" = true := by first | (simp [plainName, overriddenIn]; done) | decide +kernel
theorem ef_0 (m : MethodId) (x0 : Int32) : entryFrame m #[(.int x0)] maxLocals = mkF m 0 #[.val (.int x0), .unset] [] := by first | (simp [entryFrame, mkF, argsToLocals, Value.category, maxLocals]; done) | rfl
def Q0 (n0 : Nat) (v : Option Value) (h : Heap) (L : List Loc) : Prop := v = some (.int (1 : Int32)) ∧ Fr n0 L
set_option maxRecDepth 65536 in
set_option maxHeartbeats 400000000 in
theorem rm0 (l : Launch) (Z : State) (a0 : Array Value) (hw : ∀ d ∈ tables_1, d.before a0 Z = true) (ws : List Jvm.Cond) (x0 : Int32) (h0 : Heap) (n0 : Nat) (Z0 : n0 ≤ h0.size) :
    MetFree l x (head1 (Jvm.Cond.code x code maxLocals ret :: ws) room_1) (fun a U => a = #[(.int x0)] ∧ Z.Warmed39 U.vm ∧ U.heap = h0) (fun _ _ _ _ _ => True) (fun _ U o U' => ∃ v L, o = .returned v ∧ Q0 n0 v U'.heap L ∧ FrameEnd U o U' L 0 0) := by
  refine MetFree.of_bodySF (plainFor_of_name pn_0) hisR ?_
  intro p e s m args below meth c s₁ Bd hml0 hP hK
  obtain ⟨rfl, hZ, hh⟩ := hP
  have hx := Bd.exec
  have hby := Bd.bytes
  have hml : c.maxLocals = 2 := hml0
  have hown : s.vm.findClass "com/example/parley/parley/XmlCharsIsWhitespacePinLaw" = some m.cls := findClass_of_methodNamed Bd.named
  have hret : meth.sig.returnType = some .boolean := Bd.returns
  have hlk := BodyLoose.notSynchronized Bd
  have X0 : Stand p l e room_1 s m #[(.int x0)] below meth c s₁ [] 0 0 := Stand.of_body Bd
  have e0 : s₁.heap = h0 := by rw [← hh, Bd.state]; rfl
  have N0 := Fr.nil n0
  show own_End p e below s (Q0 n0) 0 0 (s₁.setTop (entryFrame m #[(.int x0)] maxLocals))
  refine own_cast (ef_0 m x0) ?_
  refine own_go (S' := (s₁.setTop (mkF m 1 #[.val (.int x0), .unset] [(.int x0)]))) (fun t k => XS.iloadN X0.here hx rfl (hb hby at_0) rfl k) ?_
  refine own_go (S' := (s₁.setTop (mkF m 3 #[.val (.int x0), .unset] [(.int (65536 : Int32)), (.int x0)]))) (fun t k => Stand.ldcI X0 hx hown (mvT hZ (hw _ (List.mem_of_getElem? (i := 0) rfl))) rfl (hb hby at_1) k) ?_
  refine own_go (S' := (s₁.setTop (mkF m 4 #[.val (.int x0), .unset] [(.int (x0 &&& (65536 : Int32)))]))) (fun t k => XS.iand X0.here hx rfl (hb hby at_3) rfl k) ?_
  by_cases hc4_1 : (x0 &&& (65536 : Int32)) = (0 : Int32)
  ·
    refine own_go (S' := (s₁.setTop (mkF m 16 #[.val (.int x0), .unset] []))) (fun t k => XS.ifYes X0.here hx rfl (pc0 := 4) (pc' := 16) rfl (hb hby at_4) rfl ((if0 _ _).trans (teq hc4_1).1) (by decide) (by decide) k) ?_
    refine own_go (S' := (s₁.setTop (mkF m 17 #[.val (.int x0), .unset] [(.int x0)]))) (fun t k => XS.iloadN X0.here hx rfl (hb hby at_16) rfl k) ?_
    refine own_go (S' := (s₁.setTop (mkF m 18 #[.val (.int x0), .unset] [(.int (x0.toUInt32.toUInt16.toUInt32.toInt32))]))) (fun t k => XS.i2c X0.here hx rfl (hb hby at_17) rfl k) ?_
    refine own_go (S' := (s₁.setTop (mkF m 19 #[.val (.int x0), .val (.int (x0.toUInt32.toUInt16.toUInt32.toInt32))] []))) (fun t k => XS.istoreN X0.here hx rfl (hb hby at_18) rfl (l' := #[.val (.int x0), .val (.int (x0.toUInt32.toUInt16.toUInt32.toInt32))]) rfl k) ?_
    refine own_go (S' := (s₁.setTop (mkF m 20 #[.val (.int x0), .val (.int (x0.toUInt32.toUInt16.toUInt32.toInt32))] [(.int (x0.toUInt32.toUInt16.toUInt32.toInt32))]))) (fun t k => XS.iloadN X0.here hx rfl (hb hby at_19) rfl k) ?_
    obtain ⟨T2, X2, e2, st2⟩ := own_callP X0 hx hZ (y := (⟨"com/example/parley/parley/XmlChars", "isWhitespace", "(C)Z"⟩ : MethodName)) hown (hw _ (List.mem_of_getElem? (i := 1) rfl)) (hw _ (List.mem_of_getElem? (i := 2) rfl)) (hw _ (List.mem_of_getElem? (i := 3) rfl)) (hw _ (List.mem_of_getElem? (i := 4) rfl)) (rm1 l Z a0 hw (x0.toUInt32.toUInt16.toUInt32.toInt32) h0) e0 (argsL := [(.int (x0.toUInt32.toUInt16.toUInt32.toInt32))]) (rest := []) (Ls := #[.val (.int x0), .val (.int (x0.toUInt32.toUInt16.toUInt32.toInt32))]) (hb hby at_20) pd_0 0 (by rw [hml]; rfl) (by decide) rfl rfl rfl (Nat.le_of_eq rfl) (by decide) (by decide) (by decide) (by decide)
    refine own_go (S' := (T2.setTop (mkF m 23 #[.val (.int x0), .val (.int (x0.toUInt32.toUInt16.toUInt32.toInt32))] [(.int (f1_0 (x0.toUInt32.toUInt16.toUInt32.toInt32)))]))) st2 ?_
    refine own_go (S' := (T2.setTop (mkF m 24 #[.val (.int x0), .val (.int (x0.toUInt32.toUInt16.toUInt32.toInt32))] [(.int (x0.toUInt32.toUInt16.toUInt32.toInt32)), (.int (f1_0 (x0.toUInt32.toUInt16.toUInt32.toInt32)))]))) (fun t k => XS.iloadN X2.here hx rfl (hb hby at_23) rfl k) ?_
    obtain ⟨T3, X3, e3, st3⟩ := own_callP X2 hx hZ (y := (⟨"com/example/parley/parley/XmlCharsIsWhitespacePinLaw", "expected", "(C)Z"⟩ : MethodName)) hown (hw _ (List.mem_of_getElem? (i := 5) rfl)) (hw _ (List.mem_of_getElem? (i := 6) rfl)) (hw _ (List.mem_of_getElem? (i := 7) rfl)) (hw _ (List.mem_of_getElem? (i := 8) rfl)) (rm2 l Z a0 hw (x0.toUInt32.toUInt16.toUInt32.toInt32) h0) e2 (argsL := [(.int (x0.toUInt32.toUInt16.toUInt32.toInt32))]) (rest := [(.int (f1_0 (x0.toUInt32.toUInt16.toUInt32.toInt32)))]) (Ls := #[.val (.int x0), .val (.int (x0.toUInt32.toUInt16.toUInt32.toInt32))]) (hb hby at_24) pd_0 1 (by rw [hml]; rfl) (by decide) rfl rfl rfl (Nat.le_of_eq rfl) (by decide) (by decide) (by decide) (by decide)
    refine own_go (S' := (T3.setTop (mkF m 27 #[.val (.int x0), .val (.int (x0.toUInt32.toUInt16.toUInt32.toInt32))] [(.int (f2_0 (x0.toUInt32.toUInt16.toUInt32.toInt32))), (.int (f1_0 (x0.toUInt32.toUInt16.toUInt32.toInt32)))]))) st3 ?_
    refine own_go (S' := (T3.setTop (mkF m 30 #[.val (.int x0), .val (.int (x0.toUInt32.toUInt16.toUInt32.toInt32))] []))) (fun t k => XS.icmpNo X3.here hx rfl (hb hby at_27) rfl (teq (own_same _ (own_char _))).2 k) ?_
    refine own_go (S' := (T3.setTop (mkF m 31 #[.val (.int x0), .val (.int (x0.toUInt32.toUInt16.toUInt32.toInt32))] [(.int (1 : Int32))]))) (fun t k => XT.iconstV X3.here hx rfl (1 : Int32) (hb hby at_30) (by decide) k) ?_
    refine own_go (S' := (T3.setTop (mkF m 35 #[.val (.int x0), .val (.int (x0.toUInt32.toUInt16.toUInt32.toInt32))] [(.int (1 : Int32))]))) (fun t k => XS.goto X3.here hx rfl (pc0 := 31) (pc' := 35) rfl (hb hby at_31) (by decide) (by decide) k) ?_
    exact own_retN X3 hx hret hlk (by simp) (hb hby at_35) (by first | rfl | decide) (by decide) (by decide) ⟨rfl, N0⟩
  ·
    refine own_go (S' := (s₁.setTop (mkF m 7 #[.val (.int x0), .unset] []))) (fun t k => XS.ifNo X0.here hx rfl (hb hby at_4) rfl ((if0 _ _).trans (feq hc4_1).1) k) ?_
    refine own_go (S' := (s₁.setTop (mkF m 8 #[.val (.int x0), .unset] [(.int x0)]))) (fun t k => XS.iloadN X0.here hx rfl (hb hby at_7) rfl k) ?_
    refine own_go (S' := (s₁.setTop (mkF m 10 #[.val (.int x0), .unset] [(.int (63 : Int32)), (.int x0)]))) (fun t k => XT.bipushV X0.here hx rfl (63 : Int32) (hb hby at_8) (by decide) k) ?_
    refine own_go (S' := (s₁.setTop (mkF m 11 #[.val (.int x0), .unset] [(.int (x0 &&& (63 : Int32)))]))) (fun t k => XS.iand X0.here hx rfl (hb hby at_10) rfl k) ?_
    refine own_go (S' := (s₁.setTop (mkF m 12 #[.val (.int x0), .unset] [(.int ((x0 &&& (63 : Int32)).toUInt32.toUInt16.toUInt32.toInt32))]))) (fun t k => XS.i2c X0.here hx rfl (hb hby at_11) rfl k) ?_
    refine own_go (S' := (s₁.setTop (mkF m 13 #[.val (.int x0), .val (.int ((x0 &&& (63 : Int32)).toUInt32.toUInt16.toUInt32.toInt32))] []))) (fun t k => XS.istoreN X0.here hx rfl (hb hby at_12) rfl (l' := #[.val (.int x0), .val (.int ((x0 &&& (63 : Int32)).toUInt32.toUInt16.toUInt32.toInt32))]) rfl k) ?_
    refine own_go (S' := (s₁.setTop (mkF m 19 #[.val (.int x0), .val (.int ((x0 &&& (63 : Int32)).toUInt32.toUInt16.toUInt32.toInt32))] []))) (fun t k => XS.goto X0.here hx rfl (pc0 := 13) (pc' := 19) rfl (hb hby at_13) (by decide) (by decide) k) ?_
    refine own_go (S' := (s₁.setTop (mkF m 20 #[.val (.int x0), .val (.int ((x0 &&& (63 : Int32)).toUInt32.toUInt16.toUInt32.toInt32))] [(.int ((x0 &&& (63 : Int32)).toUInt32.toUInt16.toUInt32.toInt32))]))) (fun t k => XS.iloadN X0.here hx rfl (hb hby at_19) rfl k) ?_
    obtain ⟨T4, X4, e4, st4⟩ := own_callP X0 hx hZ (y := (⟨"com/example/parley/parley/XmlChars", "isWhitespace", "(C)Z"⟩ : MethodName)) hown (hw _ (List.mem_of_getElem? (i := 1) rfl)) (hw _ (List.mem_of_getElem? (i := 2) rfl)) (hw _ (List.mem_of_getElem? (i := 3) rfl)) (hw _ (List.mem_of_getElem? (i := 4) rfl)) (rm1 l Z a0 hw ((x0 &&& (63 : Int32)).toUInt32.toUInt16.toUInt32.toInt32) h0) e0 (argsL := [(.int ((x0 &&& (63 : Int32)).toUInt32.toUInt16.toUInt32.toInt32))]) (rest := []) (Ls := #[.val (.int x0), .val (.int ((x0 &&& (63 : Int32)).toUInt32.toUInt16.toUInt32.toInt32))]) (hb hby at_20) pd_0 0 (by rw [hml]; rfl) (by decide) rfl rfl rfl (Nat.le_of_eq rfl) (by decide) (by decide) (by decide) (by decide)
    refine own_go (S' := (T4.setTop (mkF m 23 #[.val (.int x0), .val (.int ((x0 &&& (63 : Int32)).toUInt32.toUInt16.toUInt32.toInt32))] [(.int (f1_0 ((x0 &&& (63 : Int32)).toUInt32.toUInt16.toUInt32.toInt32)))]))) st4 ?_
    refine own_go (S' := (T4.setTop (mkF m 24 #[.val (.int x0), .val (.int ((x0 &&& (63 : Int32)).toUInt32.toUInt16.toUInt32.toInt32))] [(.int ((x0 &&& (63 : Int32)).toUInt32.toUInt16.toUInt32.toInt32)), (.int (f1_0 ((x0 &&& (63 : Int32)).toUInt32.toUInt16.toUInt32.toInt32)))]))) (fun t k => XS.iloadN X4.here hx rfl (hb hby at_23) rfl k) ?_
    obtain ⟨T5, X5, e5, st5⟩ := own_callP X4 hx hZ (y := (⟨"com/example/parley/parley/XmlCharsIsWhitespacePinLaw", "expected", "(C)Z"⟩ : MethodName)) hown (hw _ (List.mem_of_getElem? (i := 5) rfl)) (hw _ (List.mem_of_getElem? (i := 6) rfl)) (hw _ (List.mem_of_getElem? (i := 7) rfl)) (hw _ (List.mem_of_getElem? (i := 8) rfl)) (rm2 l Z a0 hw ((x0 &&& (63 : Int32)).toUInt32.toUInt16.toUInt32.toInt32) h0) e4 (argsL := [(.int ((x0 &&& (63 : Int32)).toUInt32.toUInt16.toUInt32.toInt32))]) (rest := [(.int (f1_0 ((x0 &&& (63 : Int32)).toUInt32.toUInt16.toUInt32.toInt32)))]) (Ls := #[.val (.int x0), .val (.int ((x0 &&& (63 : Int32)).toUInt32.toUInt16.toUInt32.toInt32))]) (hb hby at_24) pd_0 1 (by rw [hml]; rfl) (by decide) rfl rfl rfl (Nat.le_of_eq rfl) (by decide) (by decide) (by decide) (by decide)
    refine own_go (S' := (T5.setTop (mkF m 27 #[.val (.int x0), .val (.int ((x0 &&& (63 : Int32)).toUInt32.toUInt16.toUInt32.toInt32))] [(.int (f2_0 ((x0 &&& (63 : Int32)).toUInt32.toUInt16.toUInt32.toInt32))), (.int (f1_0 ((x0 &&& (63 : Int32)).toUInt32.toUInt16.toUInt32.toInt32)))]))) st5 ?_
    refine own_go (S' := (T5.setTop (mkF m 30 #[.val (.int x0), .val (.int ((x0 &&& (63 : Int32)).toUInt32.toUInt16.toUInt32.toInt32))] []))) (fun t k => XS.icmpNo X5.here hx rfl (hb hby at_27) rfl (teq (own_same _ (own_char _))).2 k) ?_
    refine own_go (S' := (T5.setTop (mkF m 31 #[.val (.int x0), .val (.int ((x0 &&& (63 : Int32)).toUInt32.toUInt16.toUInt32.toInt32))] [(.int (1 : Int32))]))) (fun t k => XT.iconstV X5.here hx rfl (1 : Int32) (hb hby at_30) (by decide) k) ?_
    refine own_go (S' := (T5.setTop (mkF m 35 #[.val (.int x0), .val (.int ((x0 &&& (63 : Int32)).toUInt32.toUInt16.toUInt32.toInt32))] [(.int (1 : Int32))]))) (fun t k => XS.goto X5.here hx rfl (pc0 := 31) (pc' := 35) rfl (hb hby at_31) (by decide) (by decide) k) ?_
    exact own_retN X5 hx hret hlk (by simp) (hb hby at_35) (by first | rfl | decide) (by decide) (by decide) ⟨rfl, N0⟩
set_option maxRecDepth 65536 in
set_option maxHeartbeats 40000000 in
theorem comes_1 {Post : Tables → Env → Array Value → State → Outcome → State → Prop} (hpost : ∀ tb e args s v u, (limb_1_1.after args s (.returned v) u = true ∧ limb_1_2.after args s (.returned v) u = true) → FrameEnd s (.returned v) u (Jvm.fieldLocs frame_1_writes args s ++ Jvm.arrayLocs frame_1_arrays args s ++ Jvm.staticLocs frame_1_statics s) 0 0 → Post tb e args s (.returned v) u) :
    ArmFor flags0 classFile x code maxLocals ret World_1 tables_1 room_1 Calls_1 rest_1 Pre_1 Post := by
  intro l hfl _ _ p e ha hc hk s m args below hf hA hF happ hP
  obtain ⟨hcalls, hrest, hpre⟩ := hP
  obtain ⟨-, -, -, hnamed, -, -, -, hat⟩ := (Spec.applies_iff hf).mp happ
  obtain ⟨hg, hn⟩ := and_e (Cond.before_iff.mp (show (Jvm.Cond.and given_1 narrow_1).before args s = true from hpre))
  obtain ⟨hga, hgb⟩ := and_e hg
  obtain ⟨w0, rfl⟩ : ∃ w0 : Value, args = #[w0] := by
    have hs : args.size = 1 := by simpa [Cond.value, given_1] using hga
    obtain ⟨L⟩ := args
    match L, hs with
    | [w0], _ => exact ⟨w0, rfl⟩
  have hw := fun d (hd : d ∈ tables_1) => atoms_spec (ws := Jvm.Cond.code x code maxLocals ret :: tables_1) hat d (List.mem_cons_of_mem _ hd)
  obtain ⟨i0, ei0⟩ := is_v hgb
  obtain rfl : w0 = (.int i0) := Option.some.inj ei0
  obtain ⟨n, o, h1, h2, h3, _, L, rfl, ⟨rfl, N⟩, hq⟩ := rm0 l s _ hw tables_1 i0 s.heap s.heap.size (Nat.le_refl _) p e ha hc hk s m _ below hf ((Spec.applies_iff_loose hf).mp happ).1 ⟨rfl, State.Warmed39.refl s, rfl⟩ trivial
  refine ⟨n, _, h1, h2, h3, hpost _ _ _ _ _ _ ⟨Cond.after_iff.mpr rfl, Cond.after_iff.mpr (eq_i res_at (Term.int_eval (1)) rfl)⟩ ⟨hq.1, hq.2.1, (hq.2.2.sift fun y hy => Or.inr (N y hy)).mono (by decide) (by decide)⟩⟩
theorem main_1_1 : Claimed_1_1 := comes_1 fun _ _ _ _ _ _ h hF => ⟨h.1, hF⟩
theorem main_1_2 : Claimed_1_2 := comes_1 fun _ _ _ _ _ _ h hF => ⟨h.2, hF⟩
end Jvm.Pilot.@@N@@
namespace Jvm.Pilot.@@N@@
open Jvm Jvm.ClassFile Sem Op Lib Jvm.Free Jvm.Stand Jvm.Pilot.@@N@@.Jvm.D
/-! MADE BY PROGRAM (witnessworld.py) out of the Statement's table words and the real class files: 9 classes; the members and pool entries that the words name. The judged class is class 1, her method 2. -/
namespace start1
open Jvm.ClassFile
def u (s : String) : CpInfo := .utf8 (stringToUtf16 s)
/-- a pool by its gaps: so many unusable entries, then the entry; so many at the end -/
def gap : Nat → List CpInfo → List CpInfo
  | 0, r => r
  | n + 1, r => .unusable :: gap n r
def poolList (es : List (Nat × CpInfo)) (last : Nat) : List CpInfo := es.foldr (fun e r => gap e.1 (e.2 :: r)) (gap last [])
def pool (es : List (Nat × CpInfo)) (last : Nat) : Array CpInfo := ⟨poolList es last⟩
def fileOf (pool : Array CpInfo) (this : Nat) (attrs : Array Attribute := #[]) (ms : Array MethodInfo := #[]) (fl : Nat := 33) (sup : Nat := 0) (ifs : Array Nat := #[]) (fds : Array FieldInfo := #[]) : ClassFile where
  minorVersion := 0
  majorVersion := 65
  constantPool := pool
  accessFlags := fl
  thisClass := this
  superClass := sup
  interfaces := ifs
  fields := fds
  methods := ms
  attributes := attrs
def plain (name : String) (sup : Option ClassId) : Class where
  name := name
  kind := .ordinary
  loader := none
  accessFlags := 33
  super := sup
  interfaces := #[]
  cf := none
  fields := #[]
  methods := #[]
  instanceTypes := #[]
  staticTypes := #[]
  resolved := #[]
  callSites := []
  init := .initialized
  statics := none
  mirror := none

def pool0 : Array CpInfo := pool [(5, u "<init>"), (0, u "()V"), (1, .class_ 10), (1, u "java/lang/Object")] 113

def k0m0 : Method := { name := "<init>", desc := "()V", sig := { parameters := [], returnType := none }, accessFlags := 1, code := none }
/-- java/lang/Object -/
def k0 : Class := { plain "java/lang/Object" none with
  accessFlags := 33
  interfaces := #[]
  cf := some (fileOf pool0 8 #[] #[{ accessFlags := 1, nameIndex := 5, descriptorIndex := 6, attributes := #[] }] 33 0 #[] #[])
  fields := #[]
  methods := #[k0m0]
  instanceTypes := #[]
  staticTypes := #[]
  resolved := Array.replicate 124 none
  statics := none }

def pool1 : Array CpInfo := pool [(2, .class_ 4), (1, u "java/lang/Object"), (0, u "<init>"), (0, u "()V"), (0, .class_ 8), (0, u "com/example/parley/parley/XmlCharsIsWhitespacePinLaw"), (0, .long 4294977024), (1, .integer 65536), (0, .methodref 13 14), (0, .class_ 15), (0, .nameAndType 16 17), (0, u "com/example/parley/parley/XmlChars"), (0, u "isWhitespace"), (0, u "(C)Z"), (0, .methodref 7 19), (0, .nameAndType 20 17), (0, u "expected"), (0, u "WS_MASK"), (0, u "J"), (4, u "law"), (0, u "(I)Z")] 2

def k1m0 : Method := { name := "<init>", desc := "()V", sig := { parameters := [], returnType := none }, accessFlags := 2, code := none }
def k1c1 : Code := { maxStack := 4, maxLocals := 1, code := method_2_code, exceptionTable := #[], attributes := #[] }
def k1m1 : Method := { name := "expected", desc := "(C)Z", sig := { parameters := [.char], returnType := some .boolean }, accessFlags := 10, code := some k1c1 }
def k1c2 : Code := { maxStack := 2, maxLocals := 2, code := code, exceptionTable := #[], attributes := #[] }
def k1m2 : Method := { name := "law", desc := "(I)Z", sig := { parameters := [.int], returnType := some .boolean }, accessFlags := 9, code := some k1c2 }
/-- com/example/parley/parley/XmlCharsIsWhitespacePinLaw -/
def k1 : Class := { plain "com/example/parley/parley/XmlCharsIsWhitespacePinLaw" (some 0) with
  accessFlags := 49
  interfaces := #[]
  cf := some (fileOf pool1 7 #[] #[{ accessFlags := 2, nameIndex := 5, descriptorIndex := 6, attributes := #[] }, { accessFlags := 10, nameIndex := 20, descriptorIndex := 17, attributes := #[] }, { accessFlags := 9, nameIndex := 27, descriptorIndex := 28, attributes := #[] }] 49 2 #[] #[{ accessFlags := 26, nameIndex := 21, descriptorIndex := 22, attributes := #[] }])
  fields := #[{ name := "WS_MASK", type := .long, accessFlags := 26, slot := 0, constantValue := 0 }]
  methods := #[k1m0, k1m1, k1m2]
  instanceTypes := #[]
  staticTypes := #[.long]
  resolved := Array.replicate 31 none
  statics := none }

def pool2 : Array CpInfo := pool [(2, .class_ 4), (1, u "java/lang/Object"), (0, u "<init>"), (0, u "()V"), (11, .class_ 20), (1, u "com/example/parley/parley/XmlChars"), (0, u "isWhitespace"), (0, u "(C)Z")] 124

def k2m0 : Method := { name := "<init>", desc := "()V", sig := { parameters := [], returnType := none }, accessFlags := 2, code := none }
def k2c1 : Code := { maxStack := 2, maxLocals := 1, code := prog_97_method_2_code, exceptionTable := #[], attributes := #[] }
def k2m1 : Method := { name := "isWhitespace", desc := "(C)Z", sig := { parameters := [.char], returnType := some .boolean }, accessFlags := 8, code := some k2c1 }
/-- com/example/parley/parley/XmlChars -/
def k2 : Class := { plain "com/example/parley/parley/XmlChars" (some 0) with
  accessFlags := 48
  interfaces := #[]
  cf := some (fileOf pool2 18 #[] #[{ accessFlags := 2, nameIndex := 5, descriptorIndex := 6, attributes := #[] }, { accessFlags := 8, nameIndex := 21, descriptorIndex := 22, attributes := #[] }] 48 2 #[] #[])
  fields := #[]
  methods := #[k2m0, k2m1]
  instanceTypes := #[]
  staticTypes := #[]
  resolved := Array.replicate 147 none
  statics := none }

def pool3 : Array CpInfo := pool [(1, u "java/lang/Cloneable"), (0, .class_ 1), (0, u "java/lang/Object"), (0, .class_ 3)] 3

/-- java/lang/Cloneable -/
def k3 : Class := { plain "java/lang/Cloneable" (some 0) with
  accessFlags := 1537
  interfaces := #[]
  cf := some (fileOf pool3 2 #[] #[] 1537 4 #[] #[])
  fields := #[]
  methods := #[]
  instanceTypes := #[]
  staticTypes := #[]
  resolved := Array.replicate 8 none
  statics := none }

def pool4 : Array CpInfo := pool [(1, u "java/io/Serializable"), (0, .class_ 1), (0, u "java/lang/Object"), (0, .class_ 3)] 3

/-- java/io/Serializable -/
def k4 : Class := { plain "java/io/Serializable" (some 0) with
  accessFlags := 1537
  interfaces := #[]
  cf := some (fileOf pool4 2 #[] #[] 1537 4 #[] #[])
  fields := #[]
  methods := #[]
  instanceTypes := #[]
  staticTypes := #[]
  resolved := Array.replicate 8 none
  statics := none }

/-- the primitive byte -/
def k5 : Class := { plain "byte" none with kind := .primitive 'B', accessFlags := 0x411 }
/-- [B -/
def k6 : Class := { plain "[B" (some 0) with kind := .array 5 .byte, interfaces := #[3, 4], accessFlags := 1041 }

/-- the primitive int -/
def k7 : Class := { plain "int" none with kind := .primitive 'I', accessFlags := 0x411 }
/-- [I -/
def k8 : Class := { plain "[I" (some 0) with kind := .array 7 .int, interfaces := #[3, 4], accessFlags := 1041 }

def heap : Heap := #[]
def classes : Array Class := #[k0, k1, k2, k3, k4, k5, k6, k7, k8]
def interned : List (Array UInt16 × Addr) := []
def slotsUsed : Nat := 0
def theMethod : MethodId := ⟨1, 2⟩
def args0 : Array Value := #[.int 65]
def aboutOver (below : List Frame) : State where
  vm := { classes := classes, interned := interned.toArray }
  heap := heap
  slotsUsed := slotsUsed
  threads := #[{ frames := .invoking theMethod args0 :: below }]
def below0 : List Frame := [.native { method := ⟨0, 0⟩, args := #[] }]
def about1 : State := aboutOver below0
def p0 : Program := .bare "" "" ""
def e0 : Env := launch0.env 0 0 0
theorem w_frames : about1.frames = Frame.invoking theMethod args0 :: below0 := rfl
set_option maxRecDepth 65536 in
theorem w_args : argsFit about1.vm theMethod args0 = true := by decide +kernel
set_option maxRecDepth 65536 in
theorem w_heap : heapFits about1 = true := by decide +kernel
set_option maxRecDepth 65536 in
theorem w_runnable : about1.curStatus? = some .runnable := by decide +kernel
set_option maxRecDepth 65536 in
theorem w_alone : about1.alone = true := by decide +kernel
set_option maxRecDepth 65536 in
theorem w_named : about1.methodNamed? x = some theMethod := by decide +kernel
set_option maxRecDepth 65536 in
theorem w_hears : about1.hears theMethod below0 = true := by decide +kernel
set_option maxRecDepth 65536 in
theorem w_ripe : about1.ripe theMethod args0 below0 = true := by decide +kernel
theorem w_running : about1.status = .running := rfl
set_option maxRecDepth 65536 in
theorem w_room : about1.hasRoom e0.platform room_1 = true :=
  launch0.hasRoom_least _ room_1 (by decide +kernel) (by decide +kernel) (by decide +kernel) (by decide +kernel) (by decide +kernel) (by decide +kernel)
theorem allAtoms_all (ts : List Jvm.Cond) (a : Array Jvm.Value) (st : Jvm.State) : (allAtoms ts).before a st = ts.all (fun c => c.before a st) := by
  induction ts with
  | nil => rfl
  | cons c t ih =>
    show (Jvm.Cond.and c (allAtoms t)).before a st = _
    rw [Jvm.Cond.before_and, ih, List.all_cons]
def words1 : List Jvm.Cond := Jvm.Cond.code x code maxLocals ret :: tables_1
/-- a 'code' word, met by the world's own term for the bytes: nothing is compared byte by byte -/
theorem code_word {y : MethodName} {bytes : ByteArray} {mx : Nat} {rt : Option FieldType} {a : Array Value} {s : State} {m : MethodId} {meth : Method} {c : Code} (h1 : s.methodNamed? y = some m) (h2 : s.vm.method? m = some meth) (h3 : meth.code = some c) (h4 : c.code = bytes)
    (h5 : (c.maxLocals == mx && c.exceptionTable.isEmpty && decide (c.maxStack ≤ mostOperands) && decide (meth.sig.returnType = rt) && !meth.locks && decide (parseMethodDescriptor y.desc = some meth.sig)) = true) : (Jvm.Cond.code y bytes mx rt).before a s = true := by
  simp only [Bool.and_eq_true, beq_iff_eq, Bool.not_eq_true', decide_eq_true_eq] at h5
  obtain ⟨⟨⟨⟨⟨g1, g2⟩, g3⟩, g4⟩, g5⟩, g6⟩ := h5
  simp [Cond.before, Cond.holds, Cond.value, h1, h2, h3, h4, g1, g2, g3, g4, g5, g6]
def isCode : Jvm.Cond → Bool
  | .code _ _ _ _ => true
  | _ => false
theorem all_split {L : List Jvm.Cond} {P : Jvm.Cond → Bool} (h1 : L.all (fun c => isCode c || P c) = true) (h2 : ∀ c ∈ L.filter isCode, P c = true) : L.all P = true := by
  refine List.all_eq_true.mpr fun c hc => ?_
  have h := List.all_eq_true.mp h1 c hc
  rcases Bool.eq_false_or_eq_true (isCode c) with hi | hi
  · exact h2 c (List.mem_filter.mpr ⟨hc, hi⟩)
  · simpa [hi] using h
set_option maxRecDepth 65536 in
theorem w_c0 : (Jvm.Cond.code x code maxLocals ret).before args0 about1 = true := code_word (m := ⟨1, 2⟩) (meth := k1m2) (c := k1c2) (by decide +kernel) rfl rfl rfl (by decide +kernel)
set_option maxRecDepth 65536 in
theorem w_c1 : (Jvm.Cond.code ({ cls := "com/example/parley/parley/XmlChars", name := "isWhitespace", desc := "(C)Z" } : Jvm.MethodName) prog_97_method_2_code (1 : Nat) (Option.some Jvm.ClassFile.FieldType.boolean)).before args0 about1 = true := code_word (m := ⟨2, 1⟩) (meth := k2m1) (c := k2c1) (by decide +kernel) rfl rfl rfl (by decide +kernel)
set_option maxRecDepth 65536 in
theorem w_c2 : (Jvm.Cond.code ({ cls := "com/example/parley/parley/XmlCharsIsWhitespacePinLaw", name := "expected", desc := "(C)Z" } : Jvm.MethodName) method_2_code (1 : Nat) (Option.some Jvm.ClassFile.FieldType.boolean)).before args0 about1 = true := code_word (m := ⟨1, 1⟩) (meth := k1m1) (c := k1c1) (by decide +kernel) rfl rfl rfl (by decide +kernel)
def codes1 : List Jvm.Cond := [Jvm.Cond.code x code maxLocals ret, Jvm.Cond.code ({ cls := "com/example/parley/parley/XmlChars", name := "isWhitespace", desc := "(C)Z" } : Jvm.MethodName) prog_97_method_2_code (1 : Nat) (Option.some Jvm.ClassFile.FieldType.boolean), Jvm.Cond.code ({ cls := "com/example/parley/parley/XmlCharsIsWhitespacePinLaw", name := "expected", desc := "(C)Z" } : Jvm.MethodName) method_2_code (1 : Nat) (Option.some Jvm.ClassFile.FieldType.boolean)]
set_option maxRecDepth 65536 in
theorem codes_eq : words1.filter isCode = codes1 := rfl
theorem w_codes : ∀ c ∈ words1.filter isCode, c.before args0 about1 = true := by
  rw [codes_eq]
  intro c hc
  simp only [codes1, List.mem_cons, List.not_mem_nil, or_false] at hc
  rcases hc with rfl | rfl | rfl
  · exact w_c0
  · exact w_c1
  · exact w_c2
set_option maxRecDepth 65536 in
theorem w_t1 : words1.all (fun c => isCode c || c.before args0 about1) = true := by decide +kernel
theorem w_tables : (allAtoms (Jvm.Cond.code x code maxLocals ret :: tables_1)).before args0 about1 = true := by
  rw [allAtoms_all]
  show words1.all (fun c => c.before args0 about1) = true
  refine all_split ?_ w_codes
  rw [w_t1]
set_option maxRecDepth 65536 in
theorem w_case : (Jvm.Cond.and given_1 narrow_1).before args0 about1 = true := by decide +kernel
theorem w_applies : (headSpec (Jvm.Cond.code x code maxLocals ret :: tables_1) room_1).applies x e0.platform about1 = true :=
  (Spec.applies_iff w_frames).mpr ⟨w_running, w_runnable, w_alone, w_named, w_hears, w_ripe, w_room, w_tables⟩
theorem atStart : AtStart classFile x code maxLocals ret World_1 tables_1 room_1 Calls_1 rest_1 Pre_1 launch0 p0 e0 about1 theMethod args0 below0 :=
  ⟨lists_1, trivial, launch0.admits_env _ _ _, launch0.least_env, fairChoices_fair.cas, fairChoices_fair.clock, w_frames, w_args, w_heap, w_applies, trivial, trivial, w_case⟩
end start1
theorem witness_1 : WitnessClaimed_1 := ⟨start1.p0, start1.e0, start1.about1, start1.theMethod, start1.args0, start1.below0, start1.atStart⟩
end Jvm.Pilot.@@N@@
