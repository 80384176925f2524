import JvmDerived
import JvmDerived.Pilot.@@N@@Statement
import JvmDerived.Pilot.@@N@@Code
set_option linter.unusedVariables false
set_option linter.unusedSimpArgs false
@@BLOCK:NumsL.lean.txt@@
@@BLOCK:Masks.lean.txt@@
namespace Jvm.Pilot.@@N@@
open Jvm Jvm.ClassFile Sem Op Lib Jvm.Free Jvm.Stand Jvm.LawKit Jvm.RoadKit Bundle Jvm.Pilot.@@N@@.Jvm.D

/-! A. the goal of a walk, said of the state where it stands: from here the body ends as Q says -/
def own_End (p : Program) (e : Env) (below : List Frame) (s : State) (Q : Option Value → Heap → List Loc → Prop) (k n : Nat) (S : State) : Prop :=
  ∃ s₂ o, Steps p.tables e below S s₂ ∧ s₂.status = .running ∧ Ended s₂ below o ∧ ∃ v L, o = .returned v ∧ Q v s₂.heap L ∧ FrameEnd s o s₂ L k n
section OwnWalk
variable {p : Program} {l : Launch} {e : Env} {R : Room} {s : State} {m : MethodId} {args : Array Value} {below : List Frame} {meth : Method} {c : Code} {T : State} {locs : List Loc} {cells slots : Nat} {Z : State} {a0 : Array Value} {h h' : Heap} {Q : Option Value → Heap → List Loc → Prop} {k n : Nat}
theorem own_go {S S' : State} (f : ∀ t, Steps p.tables e below S' t → Steps p.tables e below S t) (g : own_End p e below s Q k n S') : own_End p e below s Q k n S := by
  obtain ⟨t, o, h1, r⟩ := g
  exact ⟨t, o, f t h1, r⟩
theorem own_cast {g g' : JFrame} (q : g = g') (k' : own_End p e below s Q k n (T.setTop g')) : own_End p e below s Q k n (T.setTop g) := q ▸ k'
theorem own_retN (X : Stand p l e R s m args below meth c T locs cells slots) (hx : p.tables.exec = Jvm.exec) {pc : Nat} {Ls : Array Slot} {z z' : Int32} {t : FieldType} {rest : List Value} (hret : meth.sig.returnType = some t) (hlk : meth.locks = false) (ht : t = .boolean ∨ t = .byte ∨ t = .char ∨ t = .short)
    (hd : decode c.code pc = .ok (.ireturn, 1)) (hz : nar t z = z') (hc : cells ≤ k) (hn : slots ≤ n) (hQ : Q (some (.int z')) T.heap locs) : own_End p e below s Q k n (T.setTop (mkF m pc Ls (.int z :: rest))) := by
  obtain ⟨fs, hr, hrun, hended, hW, hsame⟩ := X.leave (v := some (.int z')) (fun q => by rw [hret] at q; cases q) hlk
  subst hz
  exact ⟨_, _, retN X hx hret ht hd hr, hrun, hended, _, _, rfl, hQ, ⟨_, rfl⟩, hW, hsame.mono hc hn⟩
theorem own_retI (X : Stand p l e R s m args below meth c T locs cells slots) (hx : p.tables.exec = Jvm.exec) {pc : Nat} {Ls : Array Slot} {z : Int32} {rest : List Value} (hret : meth.sig.returnType = some .int) (hlk : meth.locks = false)
    (hd : decode c.code pc = .ok (.ireturn, 1)) (hc : cells ≤ k) (hn : slots ≤ n) (hQ : Q (some (.int z)) T.heap locs) : own_End p e below s Q k n (T.setTop (mkF m pc Ls (.int z :: rest))) := by
  obtain ⟨fs, hr, hrun, hended, hW, hsame⟩ := X.leave (v := some (.int z)) (fun q => by rw [hret] at q; cases q) hlk
  exact ⟨_, _, retOut X hx hret rfl (Or.inl ⟨rfl, Or.inl rfl, _, rfl⟩) hd hr, hrun, hended, _, _, rfl, hQ, ⟨_, rfl⟩, hW, hsame.mono hc hn⟩
theorem own_retJ (X : Stand p l e R s m args below meth c T locs cells slots) (hx : p.tables.exec = Jvm.exec) {pc : Nat} {Ls : Array Slot} {z : Int64} {rest : List Value} (hret : meth.sig.returnType = some .long) (hlk : meth.locks = false)
    (hd : decode c.code pc = .ok (.lreturn, 1)) (hc : cells ≤ k) (hn : slots ≤ n) (hQ : Q (some (.long z)) T.heap locs) : own_End p e below s Q k n (T.setTop (mkF m pc Ls (.long z :: rest))) := by
  obtain ⟨fs, hr, hrun, hended, hW, hsame⟩ := X.leave (v := some (.long z)) (fun q => by rw [hret] at q; cases q) hlk
  exact ⟨_, _, retOut X hx hret rfl (Or.inr (Or.inl ⟨rfl, rfl, _, rfl⟩)) hd hr, hrun, hended, _, _, rfl, hQ, ⟨_, rfl⟩, hW, hsame.mono hc hn⟩
theorem own_retV (X : Stand p l e R s m args below meth c T locs cells slots) (hx : p.tables.exec = Jvm.exec) {pc : Nat} {Ls : Array Slot} (hret : meth.sig.returnType = none) (hlk : meth.locks = false)
    (hd : decode c.code pc = .ok (.return_, 1)) (hc : cells ≤ k) (hn : slots ≤ n) (hQ : Q none T.heap locs) : own_End p e below s Q k n (T.setTop (mkF m pc Ls [])) := by
  obtain ⟨fs, hr, hrun, hended, hW, hsame⟩ := X.leave (v := none) (fun _ => rfl) hlk
  exact ⟨_, _, X.returnOut hx hret hd hr, hrun, hended, _, _, rfl, hQ, ⟨_, rfl⟩, hW, hsame.mono hc hn⟩

/-! B. arrays by the list of their components -/
def own_L (Z : State) (h : Heap) (a : Addr) (ty : FieldType) (vs : List Value) : Prop := ∃ cl : Cell, Arr Z h a cl ty ∧ cl.slots.toList = vs
variable {a b : Addr} {ty : FieldType} {vs : List Value} {sl : Nat} {v w : Value} {ws : List Addr}
theorem own_L.lt (F : own_L Z h a ty vs) : a < h.size := by obtain ⟨_, A, _⟩ := F; exact A.lt
theorem own_L.ext (F : own_L Z h a ty vs) (E : Ext h h') : own_L Z h' a ty vs := by obtain ⟨c, A, r⟩ := F; exact ⟨c, A.ext E, r⟩
theorem own_L.other (F : own_L Z h b ty vs) (W : Wr h h' a sl v) (q : b ≠ a) : own_L Z h' b ty vs := by obtain ⟨c, A, r⟩ := F; exact ⟨c, A.other W q, r⟩
theorem own_L.keep (F : own_L Z h a ty vs) (K : Keep h h' ws) (q : a ∉ ws) : own_L Z h' a ty vs := by obtain ⟨c, A, r⟩ := F; exact ⟨c, ⟨K.2.1 a c A.1 q, A.2⟩, r⟩
theorem own_L.same (F : own_L Z h a ty vs) (W : Wr h h' a sl v) : own_L Z h' a ty (vs.set sl v) := by
  obtain ⟨c, A, r⟩ := F
  refine ⟨_, A.same W, ?_⟩
  subst r
  simp [Cell.setSlot]
theorem own_L.eq {vs' : List Value} (F : own_L Z h a ty vs) (q : vs = vs') : own_L Z h a ty vs' := q ▸ F
theorem own_newL (X : Stand p l e R s m args below meth c T locs cells slots) (hx : p.tables.exec = Jvm.exec) (hZ : Z.Warmed39 s.vm) {aty : ArrayType} (w : (Cond.arrayClass (newarray.typeOf aty)).before a0 Z = true) (eT : T.heap = h) {pc : Nat} {Ls : Array Slot} {nn : Int32} {rest : List Value} (hd : decode c.code pc = .ok (.newarray aty, 2))
    (hn : ¬ nn < 0) {len cap : Nat} (hlen : nn.toNatClampNeg = len) (hcap : len ≤ cap) (hb : cap * 8 ≤ 536870912) (hc : cells + 1 ≤ R.cells) (hl : slots + cap ≤ R.slots) :
    ∃ T' h' b, Stand p l e R s m args below meth c T' locs (cells + 1) (slots + cap) ∧ T'.heap = h' ∧ Ext h h' ∧ b = h.size ∧ own_L Z h' b (newarray.typeOf aty) (List.replicate len (defaultValue (newarray.typeOf aty))) ∧
      ∀ t, Steps p.tables e below (T'.setTop (mkF m (pc + 2) Ls (.ref b :: rest))) t → Steps p.tables e below (T.setTop (mkF m pc Ls (.int nn :: rest))) t := by
  obtain ⟨T', h', cA, X', e', E, A, st⟩ := newP X hx hZ w eT (g := mkF m pc Ls (.int nn :: rest)) rfl hd rfl hn (cap := cap) (by rw [hlen]; exact hcap) hb hc hl
  exact ⟨T', h', h.size, X', e', E, rfl, ⟨_, A, by simp [newA, hlen]⟩, st⟩
theorem own_in {cl : Cell} {i : Nat} {j : Int32} (hs : cl.slots.toList = vs) (hj : ¬ j < 0) (hi : j.toNatClampNeg = i) (hl : i < vs.length) : ¬ (j < 0 ∨ cl.slots.size ≤ j.toNatClampNeg) := by
  subst hs hi
  simp only [Array.length_toList] at hl
  rintro (q | q)
  · exact hj q
  · omega
theorem own_at {cl : Cell} {i : Nat} {j : Int32} (hs : cl.slots.toList = vs) (hi : j.toNatClampNeg = i) (hv : vs[i]? = some v) : cl.slots[j.toNatClampNeg]? = some v := by
  subst hs hi
  simpa using hv
theorem own_len (F : own_L Z h a ty vs) {z : Int32} (hz : vs.length.toInt32 = z) (X : Stand p l e R s m args below meth c T locs cells slots) (hx : p.tables.exec = Jvm.exec) (hZ : Z.Warmed39 s.vm) (eT : T.heap = h) {pc : Nat} {Ls : Array Slot} {rest : List Value} (hd : decode c.code pc = .ok (.arraylength, 1)) :
    ∀ t, Steps p.tables e below (T.setTop (mkF m (pc + 1) Ls (.int z :: rest))) t → Steps p.tables e below (T.setTop (mkF m pc Ls (.ref a :: rest))) t := by
  obtain ⟨cl, A, r⟩ := F
  intro t k
  refine X.arraylength hx (by rw [eT]; exact A.1) (State.isArrayOf_alike hZ.alike A.2.1) (g := mkF m pc Ls (.ref a :: rest)) rfl rfl hd t ?_
  have q : cl.slots.size.toInt32 = z := by rw [← hz, ← r, Array.length_toList]
  rw [q]; exact k
theorem own_iaload (F : own_L Z h a .int vs) (X : Stand p l e R s m args below meth c T locs cells slots) (hx : p.tables.exec = Jvm.exec) (hZ : Z.Warmed39 s.vm) (eT : T.heap = h) {pc i : Nat} {Ls : Array Slot} {j : Int32} {rest : List Value} (hj : ¬ j < 0) (hi : j.toNatClampNeg = i) (hl : i < vs.length) (hv : vs[i]? = some v) (hd : decode c.code pc = .ok (.iaload, 1)) :
    ∀ t, Steps p.tables e below (T.setTop (mkF m (pc + 1) Ls (v :: rest))) t → Steps p.tables e below (T.setTop (mkF m pc Ls (.int j :: .ref a :: rest))) t := by
  obtain ⟨cl, A, r⟩ := F
  exact fun t k => X.iaload hx (j := j) (v := v) (by rw [eT]; exact A.1) (State.isArrayOf_alike hZ.alike A.2.1) A.2.2 (own_in r hj hi hl) (own_at r hi hv) (g := mkF m pc Ls (.int j :: .ref a :: rest)) rfl rfl hd t k
theorem own_baload (F : own_L Z h a .byte vs) (X : Stand p l e R s m args below meth c T locs cells slots) (hx : p.tables.exec = Jvm.exec) (hZ : Z.Warmed39 s.vm) (eT : T.heap = h) {pc i : Nat} {Ls : Array Slot} {j : Int32} {rest : List Value} (hj : ¬ j < 0) (hi : j.toNatClampNeg = i) (hl : i < vs.length) (hv : vs[i]? = some v) (hd : decode c.code pc = .ok (.baload, 1)) :
    ∀ t, Steps p.tables e below (T.setTop (mkF m (pc + 1) Ls (v :: rest))) t → Steps p.tables e below (T.setTop (mkF m pc Ls (.int j :: .ref a :: rest))) t := by
  obtain ⟨cl, A, r⟩ := F
  exact fun t k => X.baloadBytes hx (j := j) (v := v) (by rw [eT]; exact A.1) (State.isArrayOf_alike hZ.alike A.2.1) A.2.2 (own_in r hj hi hl) (own_at r hi hv) (g := mkF m pc Ls (.int j :: .ref a :: rest)) rfl rfl hd t k
theorem own_caload (F : own_L Z h a .char vs) (X : Stand p l e R s m args below meth c T locs cells slots) (hx : p.tables.exec = Jvm.exec) (hZ : Z.Warmed39 s.vm) (eT : T.heap = h) {pc i : Nat} {Ls : Array Slot} {j : Int32} {rest : List Value} (hj : ¬ j < 0) (hi : j.toNatClampNeg = i) (hl : i < vs.length) (hv : vs[i]? = some v) (hd : decode c.code pc = .ok (.caload, 1)) :
    ∀ t, Steps p.tables e below (T.setTop (mkF m (pc + 1) Ls (v :: rest))) t → Steps p.tables e below (T.setTop (mkF m pc Ls (.int j :: .ref a :: rest))) t := by
  obtain ⟨cl, A, r⟩ := F
  exact fun t k => X.caload hx (j := j) (v := v) (by rw [eT]; exact A.1) (State.isArrayOf_alike hZ.alike A.2.1) A.2.2 (own_in r hj hi hl) (own_at r hi hv) (g := mkF m pc Ls (.int j :: .ref a :: rest)) rfl rfl hd t k
theorem own_laload (F : own_L Z h a .long vs) (X : Stand p l e R s m args below meth c T locs cells slots) (hx : p.tables.exec = Jvm.exec) (hZ : Z.Warmed39 s.vm) (eT : T.heap = h) {pc i : Nat} {Ls : Array Slot} {j : Int32} {rest : List Value} (hj : ¬ j < 0) (hi : j.toNatClampNeg = i) (hl : i < vs.length) (hv : vs[i]? = some v) (hd : decode c.code pc = .ok (.laload, 1)) :
    ∀ t, Steps p.tables e below (T.setTop (mkF m (pc + 1) Ls (v :: rest))) t → Steps p.tables e below (T.setTop (mkF m pc Ls (.int j :: .ref a :: rest))) t := by
  obtain ⟨cl, A, r⟩ := F
  exact fun t k => X.laload hx (j := j) (v := v) (by rw [eT]; exact A.1) (State.isArrayOf_alike hZ.alike A.2.1) A.2.2 (own_in r hj hi hl) (own_at r hi hv) (g := mkF m pc Ls (.int j :: .ref a :: rest)) rfl rfl hd t k
theorem own_iastore (F : own_L Z h a .int vs) (X : Stand p l e R s m args below meth c T locs cells slots) (hx : p.tables.exec = Jvm.exec) (hZ : Z.Warmed39 s.vm) (eT : T.heap = h) {pc i : Nat} {Ls : Array Slot} {j x : Int32} {rest : List Value} (hj : ¬ j < 0) (hi : j.toNatClampNeg = i) (hl : i < vs.length) (hd : decode c.code pc = .ok (.iastore, 1)) :
    ∃ T' h', Stand p l e R s m args below meth c T' (locs ++ [⟨a, i⟩]) cells slots ∧ T'.heap = h' ∧ Wr h h' a i (.int x) ∧ own_L Z h' a .int (vs.set i (.int x)) ∧
      ∀ t, Steps p.tables e below (T'.setTop (mkF m (pc + 1) Ls rest)) t → Steps p.tables e below (T.setTop (mkF m pc Ls (.int x :: .int j :: .ref a :: rest))) t := by
  have F0 := F
  obtain ⟨cl, A, r⟩ := F
  obtain ⟨T', h', X', e', W, st⟩ := stI X hx hZ eT A (j := j) (own_in r hj hi hl) (g := mkF m pc Ls (.int x :: .int j :: .ref a :: rest)) rfl rfl hd
  subst hi
  exact ⟨T', h', X', e', W, F0.same W, st⟩
theorem own_bastore (F : own_L Z h a .byte vs) (X : Stand p l e R s m args below meth c T locs cells slots) (hx : p.tables.exec = Jvm.exec) (hZ : Z.Warmed39 s.vm) (eT : T.heap = h) {pc i : Nat} {Ls : Array Slot} {j x : Int32} {rest : List Value} (hj : ¬ j < 0) (hi : j.toNatClampNeg = i) (hl : i < vs.length) (hd : decode c.code pc = .ok (.bastore, 1)) :
    ∃ T' h', Stand p l e R s m args below meth c T' (locs ++ [⟨a, i⟩]) cells slots ∧ T'.heap = h' ∧ Wr h h' a i (.int (nar .byte x)) ∧ own_L Z h' a .byte (vs.set i (.int (nar .byte x))) ∧
      ∀ t, Steps p.tables e below (T'.setTop (mkF m (pc + 1) Ls rest)) t → Steps p.tables e below (T.setTop (mkF m pc Ls (.int x :: .int j :: .ref a :: rest))) t := by
  have F0 := F
  obtain ⟨cl, A, r⟩ := F
  obtain ⟨T', h', X', e', W, st⟩ := stB X hx hZ eT A (j := j) (own_in r hj hi hl) (g := mkF m pc Ls (.int x :: .int j :: .ref a :: rest)) rfl rfl hd
  subst hi
  exact ⟨T', h', X', e', W, F0.same W, st⟩
theorem own_castore (F : own_L Z h a .char vs) (X : Stand p l e R s m args below meth c T locs cells slots) (hx : p.tables.exec = Jvm.exec) (hZ : Z.Warmed39 s.vm) (eT : T.heap = h) {pc i : Nat} {Ls : Array Slot} {j x : Int32} {rest : List Value} (hj : ¬ j < 0) (hi : j.toNatClampNeg = i) (hl : i < vs.length) (hd : decode c.code pc = .ok (.castore, 1)) :
    ∃ T' h', Stand p l e R s m args below meth c T' (locs ++ [⟨a, i⟩]) cells slots ∧ T'.heap = h' ∧ Wr h h' a i (.int (nar .char x)) ∧ own_L Z h' a .char (vs.set i (.int (nar .char x))) ∧
      ∀ t, Steps p.tables e below (T'.setTop (mkF m (pc + 1) Ls rest)) t → Steps p.tables e below (T.setTop (mkF m pc Ls (.int x :: .int j :: .ref a :: rest))) t := by
  have F0 := F
  obtain ⟨cl, A, r⟩ := F
  obtain ⟨T', h', X', e', W, st⟩ := stC X hx hZ eT A (j := j) (own_in r hj hi hl) (g := mkF m pc Ls (.int x :: .int j :: .ref a :: rest)) rfl rfl hd
  subst hi
  exact ⟨T', h', X', e', W, F0.same W, st⟩
theorem own_lastore (F : own_L Z h a .long vs) (X : Stand p l e R s m args below meth c T locs cells slots) (hx : p.tables.exec = Jvm.exec) (hZ : Z.Warmed39 s.vm) (eT : T.heap = h) {pc i : Nat} {Ls : Array Slot} {j : Int32} {x : Int64} {rest : List Value} (hj : ¬ j < 0) (hi : j.toNatClampNeg = i) (hl : i < vs.length) (hd : decode c.code pc = .ok (.lastore, 1)) :
    ∃ T' h', Stand p l e R s m args below meth c T' (locs ++ [⟨a, i⟩]) cells slots ∧ T'.heap = h' ∧ Wr h h' a i (.long x) ∧ own_L Z h' a .long (vs.set i (.long x)) ∧
      ∀ t, Steps p.tables e below (T'.setTop (mkF m (pc + 1) Ls rest)) t → Steps p.tables e below (T.setTop (mkF m pc Ls (.long x :: .int j :: .ref a :: rest))) t := by
  have F0 := F
  obtain ⟨cl, A, r⟩ := F
  obtain ⟨T', h', X', e', W, st⟩ := stJ X hx hZ eT A (j := j) (own_in r hj hi hl) (g := mkF m pc Ls (.long x :: .int j :: .ref a :: rest)) rfl rfl hd
  subst hi
  exact ⟨T', h', X', e', W, F0.same W, st⟩

theorem own_nneg {j : Int32} (q : 0 ≤ j.toInt) : ¬ j < 0 := by
  rw [Int32.lt_iff_toInt_lt]; have e0 : (0 : Int32).toInt = 0 := rfl
  omega
theorem own_ltn {j : Int32} {i : Nat} (q : 0 ≤ j.toInt) (r : j.toInt < i) : j.toNatClampNeg < i := by
  simp only [Int32.toNatClampNeg]; omega
theorem own_mapAt {xs : List Int32} {i : Nat} (q : i < (List.map Value.int xs).length) : ∃ v : Int32, (List.map Value.int xs)[i]? = some (.int v) := by
  rw [List.length_map] at q
  exact ⟨xs[i], by simp [q]⟩
theorem own_rem {x y : Int32} {i : Int} (hx : 0 ≤ x.toInt) (hy : y.toInt = i) (hi : 0 < i) : 0 ≤ (x % y).toInt ∧ (x % y).toInt < i := by
  rw [Jvm.Kit.i32_rem_nonneg hx, hy]
  exact ⟨Int.emod_nonneg _ (by omega), Int.emod_lt_of_pos _ hi⟩
theorem own_lenI {xs : List Int32} : (List.map Value.int xs).length.toInt32 = Int32.ofNat xs.length := by
  have h : (List.map Value.int xs).length = xs.length := List.length_map ..
  exact congrArg Nat.toInt32 h
theorem own_lenC {α : Type} {xs : List α} {f : α → Value} {q : Nat} (h : xs.length = q) : (List.map f xs).length.toInt32 = q.toInt32 := by
  rw [List.length_map, h]
theorem own_eqI (x y : Int32) : x = y ↔ x.toInt = y.toInt := Int32.toInt_inj.symm
theorem own_or {α : Type} {P P' : Prop} [Decidable P] [Decidable P'] {a b : α} : (if P then a else if P' then a else b) = if P ∨ P' then a else b := by
  by_cases h1 : P <;> by_cases h2 : P' <;> simp [h1, h2]
theorem own_rng {α : Type} {P P' : Prop} [Decidable P] [Decidable P'] {a b : α} : (if P then a else if P' then a else b) = if ¬ P ∧ ¬ P' then b else a := by
  by_cases h1 : P <;> by_cases h2 : P' <;> simp [h1, h2]

theorem own_flip {P P' : Prop} [Decidable P] [Decidable P'] {a b : Int32} (h : P ↔ ¬ P') : (if P then a else b) = if P' then b else a := by
  by_cases h2 : P'
  · rw [if_pos h2, if_neg (fun q => h.mp q h2)]
  · rw [if_neg h2, if_pos (h.mpr h2)]

/-! C. a call by the callee's contract -/
/-- the contract of a body: started with these arguments on this heap it ends as Q says -/
abbrev own_C (l : Launch) (Z : State) (y : MethodName) (bytes : ByteArray) (maxL : Nat) (ret : Option FieldType) (rm : Room) (as : Array Value) (h0 : Heap) (Q : Option Value → Heap → List Loc → Prop) : Prop :=
  MetFree l y (head1 [Cond.code y bytes maxL ret] rm) (fun a U => a = as ∧ Z.Warmed39 U.vm ∧ U.heap = h0) (fun _ _ _ _ _ => True) (fun _ U o U' => ∃ v L, o = .returned v ∧ Q v U'.heap L ∧ FrameEnd U o U' L rm.cells rm.slots)
/-- a pure body: it returns w, and nothing has moved -/
abbrev own_P (h0 : Heap) (w : Option Value) : Option Value → Heap → List Loc → Prop := fun v h L => v = w ∧ L = [] ∧ h = h0
theorem own_callS (X : Stand p l e R s m args below meth c T locs cells slots) (hx : p.tables.exec = Jvm.exec) (hZ : Z.Warmed39 s.vm) {own : String} {index : Nat} {y : MethodName} {bytes : ByteArray} {maxL : Nat} {ret : Option FieldType}
    (hown : s.vm.findClass own = some m.cls) (w1 : (Cond.methodLink own index y).before a0 Z = true) (w2 : (Cond.static y).before a0 Z = true) (w3 : (Cond.initialized y.cls).before a0 Z = true) (w4 : (Cond.code y bytes maxL ret).before a0 Z = true)
    {rm : Room} {as : Array Value} (hM : own_C l Z y bytes maxL ret rm as h Q) (eT : T.heap = h) {pc : Nat} {Ls : Array Slot} {argsL rest : List Value} (hd : decode c.code pc = .ok (.invokestatic index, 3))
    {ps : List FieldType} {rt : Option FieldType} (hpd : parseMethodDescriptor y.desc = some ⟨ps, rt⟩) (W : Nat) (hsize : Ls.size = c.maxLocals) (hy : y.cls ≠ "java/lang/invoke/MethodHandle" ∧ y.cls ≠ "java/lang/invoke/VarHandle") (hl : argsL.length = ps.length) (has : argsL.toArray = as)
    {st : List Value} (hst : st = argsL.reverse ++ rest) (hW : (rest.map fun v => v.category).sum ≤ W) (hf : rm.frames + 1 ≤ R.frames) (hlo : W + (maxL + 11) + rm.locals ≤ R.locals) (hc : cells + rm.cells ≤ R.cells) (hs : slots + rm.slots ≤ R.slots) :
    ∃ v T' L, Stand p l e R s m args below meth c T' (locs ++ L) (cells + rm.cells) (slots + rm.slots) ∧ Q v T'.heap L ∧
      ∀ t, Steps p.tables e below (T'.setTop (mkF m (pc + 3) Ls (v.toList ++ rest))) t → Steps p.tables e below (T.setTop (mkF m pc Ls st)) t := by
  obtain ⟨v, _, ⟨T1, L1, k1, n1⟩, -, X1, ⟨L, hQ, l1, y1, z1⟩, st1⟩ := Jvm.LawKit.callS X hx (y := y) hown (mvT hZ w1) (mvT hZ w2) (mvT hZ w3) (mvT hZ w4) hy (backOf (W := W) hM hZ w4 w3 hf hlo) (g := mkF m pc Ls st) rfl hsize (argsL := argsL) (rest := rest) (lenOf hpd hl) hst (by show 2 * 0 + _ ≤ _; rw [Nat.mul_zero, Nat.zero_add]; exact hW) hd (fun _ _ => ⟨has, eT, hc, hs⟩)
  dsimp only [Pt.U, Pt.locs, Pt.cells, Pt.slots] at X1 l1 y1 z1 st1 hQ
  subst l1 y1 z1
  exact ⟨v, T1, L, X1, hQ, st1⟩
/-- a static call of a pure body -/
theorem own_callP (X : Stand p l e R s m args below meth c T locs cells slots) (hx : p.tables.exec = Jvm.exec) (hZ : Z.Warmed39 s.vm) {own : String} {index : Nat} {y : MethodName} {bytes : ByteArray} {maxL : Nat} {ret : Option FieldType}
    (hown : s.vm.findClass own = some m.cls) (w1 : (Cond.methodLink own index y).before a0 Z = true) (w2 : (Cond.static y).before a0 Z = true) (w3 : (Cond.initialized y.cls).before a0 Z = true) (w4 : (Cond.code y bytes maxL ret).before a0 Z = true)
    {fr lc : Nat} {as : Array Value} {w : Option Value} (hM : own_C l Z y bytes maxL ret { frames := fr, cells := 0, slots := 0, locals := lc } as h (own_P h w)) (eT : T.heap = h) {pc : Nat} {Ls : Array Slot} {argsL rest : List Value} (hd : decode c.code pc = .ok (.invokestatic index, 3))
    {ps : List FieldType} {rt : Option FieldType} (hpd : parseMethodDescriptor y.desc = some ⟨ps, rt⟩) (W : Nat) (hsize : Ls.size = c.maxLocals) (hy : y.cls ≠ "java/lang/invoke/MethodHandle" ∧ y.cls ≠ "java/lang/invoke/VarHandle") (hl : argsL.length = ps.length) (has : argsL.toArray = as)
    {st : List Value} (hst : st = argsL.reverse ++ rest) (hW : (rest.map fun v => v.category).sum ≤ W) (hf : fr + 1 ≤ R.frames) (hlo : W + (maxL + 11) + lc ≤ R.locals) (hc : cells ≤ R.cells) (hs : slots ≤ R.slots) :
    ∃ T', Stand p l e R s m args below meth c T' locs cells slots ∧ T'.heap = h ∧
      ∀ t, Steps p.tables e below (T'.setTop (mkF m (pc + 3) Ls (w.toList ++ rest))) t → Steps p.tables e below (T.setTop (mkF m pc Ls st)) t := by
  obtain ⟨v, T', L, X', ⟨rfl, rfl, e'⟩, st'⟩ := own_callS X hx hZ hown w1 w2 w3 w4 hM eT hd hpd W hsize hy hl has hst hW hf hlo hc hs
  exact ⟨T', by simpa using X', e', st'⟩
/-- a constructor by its contract -/
theorem own_callI (X : Stand p l e R s m args below meth c T locs cells slots) (hx : p.tables.exec = Jvm.exec) (hZ : Z.Warmed39 s.vm) {own : String} {index : Nat} {y : MethodName} {bytes : ByteArray} {maxL : Nat} (hy1 : y.name = "<init>")
    (hown : s.vm.findClass own = some m.cls) (w1 : (Cond.methodLink own index y).before a0 Z = true) (w2 : (Cond.instanceMethod y).before a0 Z = true) (w3 : (Cond.initialized y.cls).before a0 Z = true) (w4 : (Cond.code y bytes maxL none).before a0 Z = true)
    {rm : Room} {as : Array Value} (hM : own_C l Z y bytes maxL none rm as h Q) (eT : T.heap = h) {pc : Nat} {Ls : Array Slot} {argsL rest : List Value} (hd : decode c.code pc = .ok (.invokespecial index, 3))
    {ps : List FieldType} {rt : Option FieldType} (hpd : parseMethodDescriptor y.desc = some ⟨ps, rt⟩) (W : Nat) (hsize : Ls.size = c.maxLocals) (hy : y.cls ≠ "java/lang/invoke/MethodHandle" ∧ y.cls ≠ "java/lang/invoke/VarHandle") (hl : argsL.length = ps.length) (has : (.ref a :: argsL).toArray = as)
    {st : List Value} (hst : st = argsL.reverse ++ .ref a :: rest) (hW : (rest.map fun v => v.category).sum ≤ W) (hf : rm.frames + 1 ≤ R.frames) (hlo : W + (maxL + 11) + rm.locals ≤ R.locals) (hc : cells + rm.cells ≤ R.cells) (hs : slots + rm.slots ≤ R.slots) :
    ∃ v T' L, Stand p l e R s m args below meth c T' (locs ++ L) (cells + rm.cells) (slots + rm.slots) ∧ Q v T'.heap L ∧
      ∀ t, Steps p.tables e below (T'.setTop (mkF m (pc + 3) Ls (v.toList ++ rest))) t → Steps p.tables e below (T.setTop (mkF m pc Ls st)) t := by
  obtain ⟨v, _, ⟨T1, L1, k1, n1⟩, -, X1, ⟨L, hQ, l1, y1, z1⟩, st1⟩ := X.specialBack hx (y := y) hy1 hown (mvT hZ w1) (mvT hZ w2) (mvT hZ w4) hy (backOf (W := W) hM hZ w4 w3 hf hlo) (g := mkF m pc Ls st) rfl hsize (Steps.refl _) (a := a) (argsL := argsL) (rest := rest) (lenOf hpd hl) hst (by show 2 * 0 + _ ≤ _; rw [Nat.mul_zero, Nat.zero_add]; exact hW) hd (fun _ _ => ⟨has, eT, hc, hs⟩)
  dsimp only [Pt.U, Pt.locs, Pt.cells, Pt.slots] at X1 l1 y1 z1 st1 hQ
  subst l1 y1 z1
  exact ⟨v, T1, L, X1, hQ, fun t k => st1.trans k⟩
/-- an instance method that the receiver's class selects, by its contract -/
theorem own_callV (X : Stand p l e R s m args below meth c T locs cells slots) (hx : p.tables.exec = Jvm.exec) (hZ : Z.Warmed39 s.vm) {own : String} {index : Nat} {y : MethodName} {bytes : ByteArray} {maxL : Nat} {ret : Option FieldType}
    (hown : s.vm.findClass own = some m.cls) (w1 : (Cond.methodLink own index y).before a0 Z = true) (wd : (Cond.declares y).before a0 Z = true) (ws' : (Cond.selects y.cls y y).before a0 Z = true) (w2 : (Cond.instanceMethod y).before a0 Z = true) (w3 : (Cond.initialized y.cls).before a0 Z = true) (w4 : (Cond.code y bytes maxL ret).before a0 Z = true)
    {rm : Room} {as : Array Value} (hM : own_C l Z y bytes maxL ret rm as h Q) (eT : T.heap = h) (hE : Exa Z h a y.cls) {pc : Nat} {Ls : Array Slot} {argsL rest : List Value} (hd : decode c.code pc = .ok (.invokevirtual index, 3))
    {ps : List FieldType} {rt : Option FieldType} (hpd : parseMethodDescriptor y.desc = some ⟨ps, rt⟩) (W : Nat) (hsize : Ls.size = c.maxLocals) (hy : y.cls ≠ "java/lang/invoke/MethodHandle" ∧ y.cls ≠ "java/lang/invoke/VarHandle") (hl : argsL.length = ps.length) (has : (.ref a :: argsL).toArray = as)
    {st : List Value} (hst : st = argsL.reverse ++ .ref a :: rest) (hW : (rest.map fun v => v.category).sum ≤ W) (hf : rm.frames + 1 ≤ R.frames) (hlo : W + (maxL + 11) + rm.locals ≤ R.locals) (hc : cells + rm.cells ≤ R.cells) (hs : slots + rm.slots ≤ R.slots) :
    ∃ v T' L, Stand p l e R s m args below meth c T' (locs ++ L) (cells + rm.cells) (slots + rm.slots) ∧ Q v T'.heap L ∧
      ∀ t, Steps p.tables e below (T'.setTop (mkF m (pc + 3) Ls (v.toList ++ rest))) t → Steps p.tables e below (T.setTop (mkF m pc Ls st)) t := by
  obtain ⟨cq, kq, qa, qb, qc⟩ := isOf hZ eT hE
  obtain ⟨v, _, ⟨T1, L1, k1, n1⟩, -, X1, ⟨L, hQ, l1, y1, z1⟩, st1⟩ := X.virtualBack hx (y := y) (z := y) hown (mvT hZ w1) (mvT hZ wd) (notFace_of_selects (args := #[]) (mvT hZ ws')) (mvT hZ ws') (mvT hZ w2) hy (backOf (W := W) hM hZ w4 w3 hf hlo) qa qc (g := mkF m pc Ls st) rfl hsize (Steps.refl _) (argsL := argsL) (rest := rest) (lenOf hpd hl) hst (by show 2 * 0 + _ ≤ _; rw [Nat.mul_zero, Nat.zero_add]; exact hW) hd (fun _ _ => ⟨has, eT, hc, hs⟩)
  dsimp only [Pt.U, Pt.locs, Pt.cells, Pt.slots] at X1 l1 y1 z1 st1 hQ
  subst l1 y1 z1
  exact ⟨v, T1, L, X1, hQ, fun t k => st1.trans k⟩
/-- a private method by its contract -/
theorem own_callPr (X : Stand p l e R s m args below meth c T locs cells slots) (hx : p.tables.exec = Jvm.exec) (hZ : Z.Warmed39 s.vm) {own : String} {index kk : Nat} {y : MethodName} {bytes : ByteArray} {maxL : Nat} {ret : Option FieldType}
    (hown : s.vm.findClass own = some m.cls) (w1 : (Cond.methodLink own index y).before a0 Z = true) (wp : (Cond.privateMethod y).before a0 Z = true) (wi : (Cond.instantiable y.cls kk).before a0 Z = true) (w2 : (Cond.instanceMethod y).before a0 Z = true) (w3 : (Cond.initialized y.cls).before a0 Z = true) (w4 : (Cond.code y bytes maxL ret).before a0 Z = true)
    {rm : Room} {as : Array Value} (hM : own_C l Z y bytes maxL ret rm as h Q) (eT : T.heap = h) (hE : Exa Z h a y.cls) {pc : Nat} {Ls : Array Slot} {argsL rest : List Value} (hd : decode c.code pc = .ok (.invokevirtual index, 3))
    {ps : List FieldType} {rt : Option FieldType} (hpd : parseMethodDescriptor y.desc = some ⟨ps, rt⟩) (W : Nat) (hsize : Ls.size = c.maxLocals) (hy : y.cls ≠ "java/lang/invoke/MethodHandle" ∧ y.cls ≠ "java/lang/invoke/VarHandle") (hl : argsL.length = ps.length) (has : (.ref a :: argsL).toArray = as)
    {st : List Value} (hst : st = argsL.reverse ++ .ref a :: rest) (hW : (rest.map fun v => v.category).sum ≤ W) (hf : rm.frames + 1 ≤ R.frames) (hlo : W + (maxL + 11) + rm.locals ≤ R.locals) (hc : cells + rm.cells ≤ R.cells) (hs : slots + rm.slots ≤ R.slots) :
    ∃ v T' L, Stand p l e R s m args below meth c T' (locs ++ L) (cells + rm.cells) (slots + rm.slots) ∧ Q v T'.heap L ∧
      ∀ t, Steps p.tables e below (T'.setTop (mkF m (pc + 3) Ls (v.toList ++ rest))) t → Steps p.tables e below (T.setTop (mkF m pc Ls st)) t := by
  obtain ⟨cq, q1, q2⟩ := hE.cell
  have hpr : s.PrivateAt y := Cond.privateMethod_at (mvP hZ wp (args := #[]))
  have hsel : (Cond.selects y.cls y y).before args s = true := by
    obtain ⟨ci, ki, hci, hki, -, hniab, -, -⟩ := Cond.instantiable_spec (mvT (args := args) hZ wi)
    exact selects_self_of_private hci hki (Bool.or_eq_false_iff.mp hniab).1 hpr (mvT hZ w2) hy
  obtain ⟨v, _, ⟨T1, L1, k1, n1⟩, -, X1, ⟨L, hQ, l1, y1, z1⟩, st1⟩ := X.privateBack hx (y := y) hown (mvT hZ w1) (mvT hZ w2) hsel hpr (mvT hZ w4) hy (backOf (W := W) hM hZ w4 w3 hf hlo) (g := mkF m pc Ls st) rfl hsize (Steps.refl _) (a := a) (by rw [eT]; exact q1) q2 (argsL := argsL) (rest := rest) (lenOf hpd hl) hst (by show 2 * 0 + _ ≤ _; rw [Nat.mul_zero, Nat.zero_add]; exact hW) hd (fun _ _ => ⟨has, eT, hc, hs⟩)
  dsimp only [Pt.U, Pt.locs, Pt.cells, Pt.slots] at X1 l1 y1 z1 st1 hQ
  subst l1 y1 z1
  exact ⟨v, T1, L, X1, hQ, fun t k => st1.trans k⟩
end OwnWalk
theorem pd_0 : parseMethodDescriptor "(I)Z" = some ⟨[.int], some .boolean⟩ := by decide +kernel
theorem d1_0 : decode prog_267_method_3_code 0 = .ok (.iload_n 0, 1) := by decide +kernel
theorem d1_1 : decode prog_267_method_3_code 1 = .ok (.bipush 97, 2) := by decide +kernel
theorem d1_3 : decode prog_267_method_3_code 3 = .ok (.if_icmp .lt 9, 3) := by decide +kernel
theorem d1_6 : decode prog_267_method_3_code 6 = .ok (.iload_n 0, 1) := by decide +kernel
theorem d1_7 : decode prog_267_method_3_code 7 = .ok (.bipush 122, 2) := by decide +kernel
theorem d1_9 : decode prog_267_method_3_code 9 = .ok (.if_icmp .le 182, 3) := by decide +kernel
theorem d1_12 : decode prog_267_method_3_code 12 = .ok (.iload_n 0, 1) := by decide +kernel
theorem d1_13 : decode prog_267_method_3_code 13 = .ok (.bipush 65, 2) := by decide +kernel
theorem d1_15 : decode prog_267_method_3_code 15 = .ok (.if_icmp .lt 9, 3) := by decide +kernel
theorem d1_18 : decode prog_267_method_3_code 18 = .ok (.iload_n 0, 1) := by decide +kernel
theorem d1_19 : decode prog_267_method_3_code 19 = .ok (.bipush 90, 2) := by decide +kernel
theorem d1_21 : decode prog_267_method_3_code 21 = .ok (.if_icmp .le 170, 3) := by decide +kernel
theorem d1_24 : decode prog_267_method_3_code 24 = .ok (.iload_n 0, 1) := by decide +kernel
theorem d1_25 : decode prog_267_method_3_code 25 = .ok (.bipush 95, 2) := by decide +kernel
theorem d1_27 : decode prog_267_method_3_code 27 = .ok (.if_icmp .eq 164, 3) := by decide +kernel
theorem d1_30 : decode prog_267_method_3_code 30 = .ok (.iload_n 0, 1) := by decide +kernel
theorem d1_31 : decode prog_267_method_3_code 31 = .ok (.sipush 192, 3) := by decide +kernel
theorem d1_34 : decode prog_267_method_3_code 34 = .ok (.if_icmp .lt 10, 3) := by decide +kernel
theorem d1_37 : decode prog_267_method_3_code 37 = .ok (.iload_n 0, 1) := by decide +kernel
theorem d1_38 : decode prog_267_method_3_code 38 = .ok (.sipush 214, 3) := by decide +kernel
theorem d1_41 : decode prog_267_method_3_code 41 = .ok (.if_icmp .le 150, 3) := by decide +kernel
theorem d1_44 : decode prog_267_method_3_code 44 = .ok (.iload_n 0, 1) := by decide +kernel
theorem d1_45 : decode prog_267_method_3_code 45 = .ok (.sipush 216, 3) := by decide +kernel
theorem d1_48 : decode prog_267_method_3_code 48 = .ok (.if_icmp .lt 10, 3) := by decide +kernel
theorem d1_51 : decode prog_267_method_3_code 51 = .ok (.iload_n 0, 1) := by decide +kernel
theorem d1_52 : decode prog_267_method_3_code 52 = .ok (.sipush 246, 3) := by decide +kernel
theorem d1_55 : decode prog_267_method_3_code 55 = .ok (.if_icmp .le 136, 3) := by decide +kernel
theorem d1_58 : decode prog_267_method_3_code 58 = .ok (.iload_n 0, 1) := by decide +kernel
theorem d1_59 : decode prog_267_method_3_code 59 = .ok (.sipush 248, 3) := by decide +kernel
theorem d1_62 : decode prog_267_method_3_code 62 = .ok (.if_icmp .lt 10, 3) := by decide +kernel
theorem d1_65 : decode prog_267_method_3_code 65 = .ok (.iload_n 0, 1) := by decide +kernel
theorem d1_66 : decode prog_267_method_3_code 66 = .ok (.sipush 767, 3) := by decide +kernel
theorem d1_69 : decode prog_267_method_3_code 69 = .ok (.if_icmp .le 122, 3) := by decide +kernel
theorem d1_72 : decode prog_267_method_3_code 72 = .ok (.iload_n 0, 1) := by decide +kernel
theorem d1_73 : decode prog_267_method_3_code 73 = .ok (.sipush 880, 3) := by decide +kernel
theorem d1_76 : decode prog_267_method_3_code 76 = .ok (.if_icmp .lt 10, 3) := by decide +kernel
theorem d1_79 : decode prog_267_method_3_code 79 = .ok (.iload_n 0, 1) := by decide +kernel
theorem d1_80 : decode prog_267_method_3_code 80 = .ok (.sipush 893, 3) := by decide +kernel
theorem d1_83 : decode prog_267_method_3_code 83 = .ok (.if_icmp .le 108, 3) := by decide +kernel
theorem d1_86 : decode prog_267_method_3_code 86 = .ok (.iload_n 0, 1) := by decide +kernel
theorem d1_87 : decode prog_267_method_3_code 87 = .ok (.sipush 895, 3) := by decide +kernel
theorem d1_90 : decode prog_267_method_3_code 90 = .ok (.if_icmp .lt 10, 3) := by decide +kernel
theorem d1_93 : decode prog_267_method_3_code 93 = .ok (.iload_n 0, 1) := by decide +kernel
theorem d1_94 : decode prog_267_method_3_code 94 = .ok (.sipush 8191, 3) := by decide +kernel
theorem d1_97 : decode prog_267_method_3_code 97 = .ok (.if_icmp .le 94, 3) := by decide +kernel
theorem d1_100 : decode prog_267_method_3_code 100 = .ok (.iload_n 0, 1) := by decide +kernel
theorem d1_101 : decode prog_267_method_3_code 101 = .ok (.sipush 8204, 3) := by decide +kernel
theorem d1_104 : decode prog_267_method_3_code 104 = .ok (.if_icmp .lt 10, 3) := by decide +kernel
theorem d1_107 : decode prog_267_method_3_code 107 = .ok (.iload_n 0, 1) := by decide +kernel
theorem d1_108 : decode prog_267_method_3_code 108 = .ok (.sipush 8205, 3) := by decide +kernel
theorem d1_111 : decode prog_267_method_3_code 111 = .ok (.if_icmp .le 80, 3) := by decide +kernel
theorem d1_114 : decode prog_267_method_3_code 114 = .ok (.iload_n 0, 1) := by decide +kernel
theorem d1_115 : decode prog_267_method_3_code 115 = .ok (.sipush 8304, 3) := by decide +kernel
theorem d1_118 : decode prog_267_method_3_code 118 = .ok (.if_icmp .lt 10, 3) := by decide +kernel
theorem d1_121 : decode prog_267_method_3_code 121 = .ok (.iload_n 0, 1) := by decide +kernel
theorem d1_122 : decode prog_267_method_3_code 122 = .ok (.sipush 8591, 3) := by decide +kernel
theorem d1_125 : decode prog_267_method_3_code 125 = .ok (.if_icmp .le 66, 3) := by decide +kernel
theorem d1_128 : decode prog_267_method_3_code 128 = .ok (.iload_n 0, 1) := by decide +kernel
theorem d1_129 : decode prog_267_method_3_code 129 = .ok (.sipush 11264, 3) := by decide +kernel
theorem d1_132 : decode prog_267_method_3_code 132 = .ok (.if_icmp .lt 10, 3) := by decide +kernel
theorem d1_135 : decode prog_267_method_3_code 135 = .ok (.iload_n 0, 1) := by decide +kernel
theorem d1_136 : decode prog_267_method_3_code 136 = .ok (.sipush 12271, 3) := by decide +kernel
theorem d1_139 : decode prog_267_method_3_code 139 = .ok (.if_icmp .le 52, 3) := by decide +kernel
theorem d1_142 : decode prog_267_method_3_code 142 = .ok (.iload_n 0, 1) := by decide +kernel
theorem d1_143 : decode prog_267_method_3_code 143 = .ok (.sipush 12289, 3) := by decide +kernel
theorem d1_146 : decode prog_267_method_3_code 146 = .ok (.if_icmp .lt 9, 3) := by decide +kernel
theorem d1_149 : decode prog_267_method_3_code 149 = .ok (.iload_n 0, 1) := by decide +kernel
theorem d1_150 : decode prog_267_method_3_code 150 = .ok (.ldc 7, 2) := by decide +kernel
theorem d1_152 : decode prog_267_method_3_code 152 = .ok (.if_icmp .le 39, 3) := by decide +kernel
theorem d1_155 : decode prog_267_method_3_code 155 = .ok (.iload_n 0, 1) := by decide +kernel
theorem d1_156 : decode prog_267_method_3_code 156 = .ok (.ldc 12, 2) := by decide +kernel
theorem d1_158 : decode prog_267_method_3_code 158 = .ok (.if_icmp .lt 9, 3) := by decide +kernel
theorem d1_161 : decode prog_267_method_3_code 161 = .ok (.iload_n 0, 1) := by decide +kernel
theorem d1_162 : decode prog_267_method_3_code 162 = .ok (.ldc 13, 2) := by decide +kernel
theorem d1_164 : decode prog_267_method_3_code 164 = .ok (.if_icmp .le 27, 3) := by decide +kernel
theorem d1_167 : decode prog_267_method_3_code 167 = .ok (.iload_n 0, 1) := by decide +kernel
theorem d1_168 : decode prog_267_method_3_code 168 = .ok (.ldc 14, 2) := by decide +kernel
theorem d1_170 : decode prog_267_method_3_code 170 = .ok (.if_icmp .lt 9, 3) := by decide +kernel
theorem d1_173 : decode prog_267_method_3_code 173 = .ok (.iload_n 0, 1) := by decide +kernel
theorem d1_174 : decode prog_267_method_3_code 174 = .ok (.ldc 9, 2) := by decide +kernel
theorem d1_176 : decode prog_267_method_3_code 176 = .ok (.if_icmp .le 15, 3) := by decide +kernel
theorem d1_179 : decode prog_267_method_3_code 179 = .ok (.iload_n 0, 1) := by decide +kernel
theorem d1_180 : decode prog_267_method_3_code 180 = .ok (.ldc 10, 2) := by decide +kernel
theorem d1_182 : decode prog_267_method_3_code 182 = .ok (.if_icmp .lt 13, 3) := by decide +kernel
theorem d1_185 : decode prog_267_method_3_code 185 = .ok (.iload_n 0, 1) := by decide +kernel
theorem d1_186 : decode prog_267_method_3_code 186 = .ok (.ldc 15, 2) := by decide +kernel
theorem d1_188 : decode prog_267_method_3_code 188 = .ok (.if_icmp .gt 7, 3) := by decide +kernel
theorem d1_191 : decode prog_267_method_3_code 191 = .ok (.iconst 1, 1) := by decide +kernel
theorem d1_192 : decode prog_267_method_3_code 192 = .ok (.goto 4, 3) := by decide +kernel
theorem d1_195 : decode prog_267_method_3_code 195 = .ok (.iconst 0, 1) := by decide +kernel
theorem d1_196 : decode prog_267_method_3_code 196 = .ok (.ireturn, 1) := by decide +kernel
def f1_179 (l0 : Int32) : Int32 := (if l0 < (65536 : Int32) then (0 : Int32) else (if (983039 : Int32) < l0 then (0 : Int32) else (1 : Int32)))
def f1_167 (l0 : Int32) : Int32 := (if l0 < (65008 : Int32) then (f1_179 l0) else (if (65533 : Int32) < l0 then (f1_179 l0) else (1 : Int32)))
def f1_155 (l0 : Int32) : Int32 := (if l0 < (63744 : Int32) then (f1_167 l0) else (if (64975 : Int32) < l0 then (f1_167 l0) else (1 : Int32)))
def f1_142 (l0 : Int32) : Int32 := (if l0 < (12289 : Int32) then (f1_155 l0) else (if (55295 : Int32) < l0 then (f1_155 l0) else (1 : Int32)))
def f1_128 (l0 : Int32) : Int32 := (if l0 < (11264 : Int32) then (f1_142 l0) else (if (12271 : Int32) < l0 then (f1_142 l0) else (1 : Int32)))
def f1_114 (l0 : Int32) : Int32 := (if l0 < (8304 : Int32) then (f1_128 l0) else (if (8591 : Int32) < l0 then (f1_128 l0) else (1 : Int32)))
def f1_100 (l0 : Int32) : Int32 := (if l0 < (8204 : Int32) then (f1_114 l0) else (if (8205 : Int32) < l0 then (f1_114 l0) else (1 : Int32)))
def f1_86 (l0 : Int32) : Int32 := (if l0 < (895 : Int32) then (f1_100 l0) else (if (8191 : Int32) < l0 then (f1_100 l0) else (1 : Int32)))
def f1_72 (l0 : Int32) : Int32 := (if l0 < (880 : Int32) then (f1_86 l0) else (if (893 : Int32) < l0 then (f1_86 l0) else (1 : Int32)))
def f1_58 (l0 : Int32) : Int32 := (if l0 < (248 : Int32) then (f1_72 l0) else (if (767 : Int32) < l0 then (f1_72 l0) else (1 : Int32)))
def f1_44 (l0 : Int32) : Int32 := (if l0 < (216 : Int32) then (f1_58 l0) else (if (246 : Int32) < l0 then (f1_58 l0) else (1 : Int32)))
def f1_24 (l0 : Int32) : Int32 := (if l0 = (95 : Int32) then (1 : Int32) else (if l0 < (192 : Int32) then (f1_44 l0) else (if (214 : Int32) < l0 then (f1_44 l0) else (1 : Int32))))
def f1_12 (l0 : Int32) : Int32 := (if l0 < (65 : Int32) then (f1_24 l0) else (if (90 : Int32) < l0 then (f1_24 l0) else (1 : Int32)))
def f1_0 (l0 : Int32) : Int32 := (if l0 < (97 : Int32) then (f1_12 l0) else (if (122 : Int32) < l0 then (f1_12 l0) else (1 : Int32)))
set_option maxRecDepth 65536 in
set_option maxHeartbeats 40000000 in
theorem w1_179 {p : Program} {l : Launch} {e : Env} {s : State} {m : MethodId} {args : Array Value} {below : List Frame} {meth : Method} {c : Code} {T0 : State} {locs : List Loc} {Z : State} {a0 : Array Value} {h0 : Heap} {Q : Option Value → Heap → List Loc → Prop}
    (X0 : Stand p l e ({ frames := 0, cells := 0, slots := 0, locals := 0 } : Room) s m args below meth c T0 locs 0 0) (hx : p.tables.exec = Jvm.exec) (hby : c.code = prog_267_method_3_code) (hml : c.maxLocals = 1) (hret : meth.sig.returnType = (some .boolean)) (hlk : meth.locks = false) (hown : s.vm.findClass "com/example/hornbeam/hornbeam/model/XmlCharacters" = some m.cls) (hZ : Z.Warmed39 s.vm) (hw : ∀ d ∈ tables_1, d.before a0 Z = true) (e0 : T0.heap = h0)
    (l0 : Int32) (hQ : Q (some (.int (f1_179 l0))) h0 locs) : own_End p e below s Q 0 0 (T0.setTop (mkF m 179 #[.val (.int l0)] [])) := by
  unfold f1_179 at hQ
  refine own_go (S' := (T0.setTop (mkF m 180 #[.val (.int l0)] [(.int l0)]))) (fun t k => XS.iloadN X0.here hx rfl (hb hby d1_179) rfl k) ?_
  refine own_go (S' := (T0.setTop (mkF m 182 #[.val (.int l0)] [(.int (65536 : Int32)), (.int l0)]))) (fun t k => Stand.ldcI X0 hx hown (mvT hZ (hw _ (List.mem_of_getElem? (i := 15) rfl))) rfl (hb hby d1_180) k) ?_
  by_cases hc182_1 : l0 < (65536 : Int32)
  ·
    rw [if_pos hc182_1] at hQ
    refine own_go (S' := (T0.setTop (mkF m 195 #[.val (.int l0)] []))) (fun t k => XS.icmpYes X0.here hx rfl (pc0 := 182) (pc' := 195) rfl (hb hby d1_182) rfl (tlt hc182_1).1 (by decide) (by decide) k) ?_
    refine own_go (S' := (T0.setTop (mkF m 196 #[.val (.int l0)] [(.int (0 : Int32))]))) (fun t k => XT.iconstV X0.here hx rfl (0 : Int32) (hb hby d1_195) (by decide) k) ?_
    exact own_retN X0 hx hret hlk (by simp) (hb hby d1_196) (by first | rfl | decide) (Nat.le_refl _) (Nat.le_refl _) (by rw [e0]; exact hQ)
  ·
    rw [if_neg hc182_1] at hQ
    refine own_go (S' := (T0.setTop (mkF m 185 #[.val (.int l0)] []))) (fun t k => XS.icmpNo X0.here hx rfl (hb hby d1_182) rfl (flt hc182_1).1 k) ?_
    refine own_go (S' := (T0.setTop (mkF m 186 #[.val (.int l0)] [(.int l0)]))) (fun t k => XS.iloadN X0.here hx rfl (hb hby d1_185) rfl k) ?_
    refine own_go (S' := (T0.setTop (mkF m 188 #[.val (.int l0)] [(.int (983039 : Int32)), (.int l0)]))) (fun t k => Stand.ldcI X0 hx hown (mvT hZ (hw _ (List.mem_of_getElem? (i := 19) rfl))) rfl (hb hby d1_186) k) ?_
    by_cases hc188_2 : (983039 : Int32) < l0
    ·
      rw [if_pos hc188_2] at hQ
      refine own_go (S' := (T0.setTop (mkF m 195 #[.val (.int l0)] []))) (fun t k => XS.icmpYes X0.here hx rfl (pc0 := 188) (pc' := 195) rfl (hb hby d1_188) rfl (tlt hc188_2).2.2.1 (by decide) (by decide) k) ?_
      refine own_go (S' := (T0.setTop (mkF m 196 #[.val (.int l0)] [(.int (0 : Int32))]))) (fun t k => XT.iconstV X0.here hx rfl (0 : Int32) (hb hby d1_195) (by decide) k) ?_
      exact own_retN X0 hx hret hlk (by simp) (hb hby d1_196) (by first | rfl | decide) (Nat.le_refl _) (Nat.le_refl _) (by rw [e0]; exact hQ)
    ·
      rw [if_neg hc188_2] at hQ
      refine own_go (S' := (T0.setTop (mkF m 191 #[.val (.int l0)] []))) (fun t k => XS.icmpNo X0.here hx rfl (hb hby d1_188) rfl (flt hc188_2).2.2.1 k) ?_
      refine own_go (S' := (T0.setTop (mkF m 192 #[.val (.int l0)] [(.int (1 : Int32))]))) (fun t k => XT.iconstV X0.here hx rfl (1 : Int32) (hb hby d1_191) (by decide) k) ?_
      refine own_go (S' := (T0.setTop (mkF m 196 #[.val (.int l0)] [(.int (1 : Int32))]))) (fun t k => XS.goto X0.here hx rfl (pc0 := 192) (pc' := 196) rfl (hb hby d1_192) (by decide) (by decide) k) ?_
      exact own_retN X0 hx hret hlk (by simp) (hb hby d1_196) (by first | rfl | decide) (Nat.le_refl _) (Nat.le_refl _) (by rw [e0]; exact hQ)
set_option maxRecDepth 65536 in
set_option maxHeartbeats 40000000 in
theorem w1_167 {p : Program} {l : Launch} {e : Env} {s : State} {m : MethodId} {args : Array Value} {below : List Frame} {meth : Method} {c : Code} {T0 : State} {locs : List Loc} {Z : State} {a0 : Array Value} {h0 : Heap} {Q : Option Value → Heap → List Loc → Prop}
    (X0 : Stand p l e ({ frames := 0, cells := 0, slots := 0, locals := 0 } : Room) s m args below meth c T0 locs 0 0) (hx : p.tables.exec = Jvm.exec) (hby : c.code = prog_267_method_3_code) (hml : c.maxLocals = 1) (hret : meth.sig.returnType = (some .boolean)) (hlk : meth.locks = false) (hown : s.vm.findClass "com/example/hornbeam/hornbeam/model/XmlCharacters" = some m.cls) (hZ : Z.Warmed39 s.vm) (hw : ∀ d ∈ tables_1, d.before a0 Z = true) (e0 : T0.heap = h0)
    (l0 : Int32) (hQ : Q (some (.int (f1_167 l0))) h0 locs) : own_End p e below s Q 0 0 (T0.setTop (mkF m 167 #[.val (.int l0)] [])) := by
  unfold f1_167 at hQ
  refine own_go (S' := (T0.setTop (mkF m 168 #[.val (.int l0)] [(.int l0)]))) (fun t k => XS.iloadN X0.here hx rfl (hb hby d1_167) rfl k) ?_
  refine own_go (S' := (T0.setTop (mkF m 170 #[.val (.int l0)] [(.int (65008 : Int32)), (.int l0)]))) (fun t k => Stand.ldcI X0 hx hown (mvT hZ (hw _ (List.mem_of_getElem? (i := 14) rfl))) rfl (hb hby d1_168) k) ?_
  by_cases hc170_1 : l0 < (65008 : Int32)
  ·
    rw [if_pos hc170_1] at hQ
    refine own_go (S' := (T0.setTop (mkF m 179 #[.val (.int l0)] []))) (fun t k => XS.icmpYes X0.here hx rfl (pc0 := 170) (pc' := 179) rfl (hb hby d1_170) rfl (tlt hc170_1).1 (by decide) (by decide) k) ?_
    exact w1_179 X0 hx hby hml hret hlk hown hZ hw e0 l0 hQ
  ·
    rw [if_neg hc170_1] at hQ
    refine own_go (S' := (T0.setTop (mkF m 173 #[.val (.int l0)] []))) (fun t k => XS.icmpNo X0.here hx rfl (hb hby d1_170) rfl (flt hc170_1).1 k) ?_
    refine own_go (S' := (T0.setTop (mkF m 174 #[.val (.int l0)] [(.int l0)]))) (fun t k => XS.iloadN X0.here hx rfl (hb hby d1_173) rfl k) ?_
    refine own_go (S' := (T0.setTop (mkF m 176 #[.val (.int l0)] [(.int (65533 : Int32)), (.int l0)]))) (fun t k => Stand.ldcI X0 hx hown (mvT hZ (hw _ (List.mem_of_getElem? (i := 18) rfl))) rfl (hb hby d1_174) k) ?_
    by_cases hc176_2 : (65533 : Int32) < l0
    ·
      rw [if_pos hc176_2] at hQ
      refine own_go (S' := (T0.setTop (mkF m 179 #[.val (.int l0)] []))) (fun t k => XS.icmpNo X0.here hx rfl (hb hby d1_176) rfl (tlt hc176_2).2.2.2 k) ?_
      exact w1_179 X0 hx hby hml hret hlk hown hZ hw e0 l0 hQ
    ·
      rw [if_neg hc176_2] at hQ
      refine own_go (S' := (T0.setTop (mkF m 191 #[.val (.int l0)] []))) (fun t k => XS.icmpYes X0.here hx rfl (pc0 := 176) (pc' := 191) rfl (hb hby d1_176) rfl (flt hc176_2).2.2.2 (by decide) (by decide) k) ?_
      refine own_go (S' := (T0.setTop (mkF m 192 #[.val (.int l0)] [(.int (1 : Int32))]))) (fun t k => XT.iconstV X0.here hx rfl (1 : Int32) (hb hby d1_191) (by decide) k) ?_
      refine own_go (S' := (T0.setTop (mkF m 196 #[.val (.int l0)] [(.int (1 : Int32))]))) (fun t k => XS.goto X0.here hx rfl (pc0 := 192) (pc' := 196) rfl (hb hby d1_192) (by decide) (by decide) k) ?_
      exact own_retN X0 hx hret hlk (by simp) (hb hby d1_196) (by first | rfl | decide) (Nat.le_refl _) (Nat.le_refl _) (by rw [e0]; exact hQ)
set_option maxRecDepth 65536 in
set_option maxHeartbeats 40000000 in
theorem w1_155 {p : Program} {l : Launch} {e : Env} {s : State} {m : MethodId} {args : Array Value} {below : List Frame} {meth : Method} {c : Code} {T0 : State} {locs : List Loc} {Z : State} {a0 : Array Value} {h0 : Heap} {Q : Option Value → Heap → List Loc → Prop}
    (X0 : Stand p l e ({ frames := 0, cells := 0, slots := 0, locals := 0 } : Room) s m args below meth c T0 locs 0 0) (hx : p.tables.exec = Jvm.exec) (hby : c.code = prog_267_method_3_code) (hml : c.maxLocals = 1) (hret : meth.sig.returnType = (some .boolean)) (hlk : meth.locks = false) (hown : s.vm.findClass "com/example/hornbeam/hornbeam/model/XmlCharacters" = some m.cls) (hZ : Z.Warmed39 s.vm) (hw : ∀ d ∈ tables_1, d.before a0 Z = true) (e0 : T0.heap = h0)
    (l0 : Int32) (hQ : Q (some (.int (f1_155 l0))) h0 locs) : own_End p e below s Q 0 0 (T0.setTop (mkF m 155 #[.val (.int l0)] [])) := by
  unfold f1_155 at hQ
  refine own_go (S' := (T0.setTop (mkF m 156 #[.val (.int l0)] [(.int l0)]))) (fun t k => XS.iloadN X0.here hx rfl (hb hby d1_155) rfl k) ?_
  refine own_go (S' := (T0.setTop (mkF m 158 #[.val (.int l0)] [(.int (63744 : Int32)), (.int l0)]))) (fun t k => Stand.ldcI X0 hx hown (mvT hZ (hw _ (List.mem_of_getElem? (i := 13) rfl))) rfl (hb hby d1_156) k) ?_
  by_cases hc158_1 : l0 < (63744 : Int32)
  ·
    rw [if_pos hc158_1] at hQ
    refine own_go (S' := (T0.setTop (mkF m 167 #[.val (.int l0)] []))) (fun t k => XS.icmpYes X0.here hx rfl (pc0 := 158) (pc' := 167) rfl (hb hby d1_158) rfl (tlt hc158_1).1 (by decide) (by decide) k) ?_
    exact w1_167 X0 hx hby hml hret hlk hown hZ hw e0 l0 hQ
  ·
    rw [if_neg hc158_1] at hQ
    refine own_go (S' := (T0.setTop (mkF m 161 #[.val (.int l0)] []))) (fun t k => XS.icmpNo X0.here hx rfl (hb hby d1_158) rfl (flt hc158_1).1 k) ?_
    refine own_go (S' := (T0.setTop (mkF m 162 #[.val (.int l0)] [(.int l0)]))) (fun t k => XS.iloadN X0.here hx rfl (hb hby d1_161) rfl k) ?_
    refine own_go (S' := (T0.setTop (mkF m 164 #[.val (.int l0)] [(.int (64975 : Int32)), (.int l0)]))) (fun t k => Stand.ldcI X0 hx hown (mvT hZ (hw _ (List.mem_of_getElem? (i := 17) rfl))) rfl (hb hby d1_162) k) ?_
    by_cases hc164_2 : (64975 : Int32) < l0
    ·
      rw [if_pos hc164_2] at hQ
      refine own_go (S' := (T0.setTop (mkF m 167 #[.val (.int l0)] []))) (fun t k => XS.icmpNo X0.here hx rfl (hb hby d1_164) rfl (tlt hc164_2).2.2.2 k) ?_
      exact w1_167 X0 hx hby hml hret hlk hown hZ hw e0 l0 hQ
    ·
      rw [if_neg hc164_2] at hQ
      refine own_go (S' := (T0.setTop (mkF m 191 #[.val (.int l0)] []))) (fun t k => XS.icmpYes X0.here hx rfl (pc0 := 164) (pc' := 191) rfl (hb hby d1_164) rfl (flt hc164_2).2.2.2 (by decide) (by decide) k) ?_
      refine own_go (S' := (T0.setTop (mkF m 192 #[.val (.int l0)] [(.int (1 : Int32))]))) (fun t k => XT.iconstV X0.here hx rfl (1 : Int32) (hb hby d1_191) (by decide) k) ?_
      refine own_go (S' := (T0.setTop (mkF m 196 #[.val (.int l0)] [(.int (1 : Int32))]))) (fun t k => XS.goto X0.here hx rfl (pc0 := 192) (pc' := 196) rfl (hb hby d1_192) (by decide) (by decide) k) ?_
      exact own_retN X0 hx hret hlk (by simp) (hb hby d1_196) (by first | rfl | decide) (Nat.le_refl _) (Nat.le_refl _) (by rw [e0]; exact hQ)
set_option maxRecDepth 65536 in
set_option maxHeartbeats 40000000 in
theorem w1_142 {p : Program} {l : Launch} {e : Env} {s : State} {m : MethodId} {args : Array Value} {below : List Frame} {meth : Method} {c : Code} {T0 : State} {locs : List Loc} {Z : State} {a0 : Array Value} {h0 : Heap} {Q : Option Value → Heap → List Loc → Prop}
    (X0 : Stand p l e ({ frames := 0, cells := 0, slots := 0, locals := 0 } : Room) s m args below meth c T0 locs 0 0) (hx : p.tables.exec = Jvm.exec) (hby : c.code = prog_267_method_3_code) (hml : c.maxLocals = 1) (hret : meth.sig.returnType = (some .boolean)) (hlk : meth.locks = false) (hown : s.vm.findClass "com/example/hornbeam/hornbeam/model/XmlCharacters" = some m.cls) (hZ : Z.Warmed39 s.vm) (hw : ∀ d ∈ tables_1, d.before a0 Z = true) (e0 : T0.heap = h0)
    (l0 : Int32) (hQ : Q (some (.int (f1_142 l0))) h0 locs) : own_End p e below s Q 0 0 (T0.setTop (mkF m 142 #[.val (.int l0)] [])) := by
  unfold f1_142 at hQ
  refine own_go (S' := (T0.setTop (mkF m 143 #[.val (.int l0)] [(.int l0)]))) (fun t k => XS.iloadN X0.here hx rfl (hb hby d1_142) rfl k) ?_
  refine own_go (S' := (T0.setTop (mkF m 146 #[.val (.int l0)] [(.int (12289 : Int32)), (.int l0)]))) (fun t k => XT.sipushV X0.here hx rfl (12289 : Int32) (hb hby d1_143) (by decide) k) ?_
  by_cases hc146_1 : l0 < (12289 : Int32)
  ·
    rw [if_pos hc146_1] at hQ
    refine own_go (S' := (T0.setTop (mkF m 155 #[.val (.int l0)] []))) (fun t k => XS.icmpYes X0.here hx rfl (pc0 := 146) (pc' := 155) rfl (hb hby d1_146) rfl (tlt hc146_1).1 (by decide) (by decide) k) ?_
    exact w1_155 X0 hx hby hml hret hlk hown hZ hw e0 l0 hQ
  ·
    rw [if_neg hc146_1] at hQ
    refine own_go (S' := (T0.setTop (mkF m 149 #[.val (.int l0)] []))) (fun t k => XS.icmpNo X0.here hx rfl (hb hby d1_146) rfl (flt hc146_1).1 k) ?_
    refine own_go (S' := (T0.setTop (mkF m 150 #[.val (.int l0)] [(.int l0)]))) (fun t k => XS.iloadN X0.here hx rfl (hb hby d1_149) rfl k) ?_
    refine own_go (S' := (T0.setTop (mkF m 152 #[.val (.int l0)] [(.int (55295 : Int32)), (.int l0)]))) (fun t k => Stand.ldcI X0 hx hown (mvT hZ (hw _ (List.mem_of_getElem? (i := 16) rfl))) rfl (hb hby d1_150) k) ?_
    by_cases hc152_2 : (55295 : Int32) < l0
    ·
      rw [if_pos hc152_2] at hQ
      refine own_go (S' := (T0.setTop (mkF m 155 #[.val (.int l0)] []))) (fun t k => XS.icmpNo X0.here hx rfl (hb hby d1_152) rfl (tlt hc152_2).2.2.2 k) ?_
      exact w1_155 X0 hx hby hml hret hlk hown hZ hw e0 l0 hQ
    ·
      rw [if_neg hc152_2] at hQ
      refine own_go (S' := (T0.setTop (mkF m 191 #[.val (.int l0)] []))) (fun t k => XS.icmpYes X0.here hx rfl (pc0 := 152) (pc' := 191) rfl (hb hby d1_152) rfl (flt hc152_2).2.2.2 (by decide) (by decide) k) ?_
      refine own_go (S' := (T0.setTop (mkF m 192 #[.val (.int l0)] [(.int (1 : Int32))]))) (fun t k => XT.iconstV X0.here hx rfl (1 : Int32) (hb hby d1_191) (by decide) k) ?_
      refine own_go (S' := (T0.setTop (mkF m 196 #[.val (.int l0)] [(.int (1 : Int32))]))) (fun t k => XS.goto X0.here hx rfl (pc0 := 192) (pc' := 196) rfl (hb hby d1_192) (by decide) (by decide) k) ?_
      exact own_retN X0 hx hret hlk (by simp) (hb hby d1_196) (by first | rfl | decide) (Nat.le_refl _) (Nat.le_refl _) (by rw [e0]; exact hQ)
set_option maxRecDepth 65536 in
set_option maxHeartbeats 40000000 in
theorem w1_128 {p : Program} {l : Launch} {e : Env} {s : State} {m : MethodId} {args : Array Value} {below : List Frame} {meth : Method} {c : Code} {T0 : State} {locs : List Loc} {Z : State} {a0 : Array Value} {h0 : Heap} {Q : Option Value → Heap → List Loc → Prop}
    (X0 : Stand p l e ({ frames := 0, cells := 0, slots := 0, locals := 0 } : Room) s m args below meth c T0 locs 0 0) (hx : p.tables.exec = Jvm.exec) (hby : c.code = prog_267_method_3_code) (hml : c.maxLocals = 1) (hret : meth.sig.returnType = (some .boolean)) (hlk : meth.locks = false) (hown : s.vm.findClass "com/example/hornbeam/hornbeam/model/XmlCharacters" = some m.cls) (hZ : Z.Warmed39 s.vm) (hw : ∀ d ∈ tables_1, d.before a0 Z = true) (e0 : T0.heap = h0)
    (l0 : Int32) (hQ : Q (some (.int (f1_128 l0))) h0 locs) : own_End p e below s Q 0 0 (T0.setTop (mkF m 128 #[.val (.int l0)] [])) := by
  unfold f1_128 at hQ
  refine own_go (S' := (T0.setTop (mkF m 129 #[.val (.int l0)] [(.int l0)]))) (fun t k => XS.iloadN X0.here hx rfl (hb hby d1_128) rfl k) ?_
  refine own_go (S' := (T0.setTop (mkF m 132 #[.val (.int l0)] [(.int (11264 : Int32)), (.int l0)]))) (fun t k => XT.sipushV X0.here hx rfl (11264 : Int32) (hb hby d1_129) (by decide) k) ?_
  by_cases hc132_1 : l0 < (11264 : Int32)
  ·
    rw [if_pos hc132_1] at hQ
    refine own_go (S' := (T0.setTop (mkF m 142 #[.val (.int l0)] []))) (fun t k => XS.icmpYes X0.here hx rfl (pc0 := 132) (pc' := 142) rfl (hb hby d1_132) rfl (tlt hc132_1).1 (by decide) (by decide) k) ?_
    exact w1_142 X0 hx hby hml hret hlk hown hZ hw e0 l0 hQ
  ·
    rw [if_neg hc132_1] at hQ
    refine own_go (S' := (T0.setTop (mkF m 135 #[.val (.int l0)] []))) (fun t k => XS.icmpNo X0.here hx rfl (hb hby d1_132) rfl (flt hc132_1).1 k) ?_
    refine own_go (S' := (T0.setTop (mkF m 136 #[.val (.int l0)] [(.int l0)]))) (fun t k => XS.iloadN X0.here hx rfl (hb hby d1_135) rfl k) ?_
    refine own_go (S' := (T0.setTop (mkF m 139 #[.val (.int l0)] [(.int (12271 : Int32)), (.int l0)]))) (fun t k => XT.sipushV X0.here hx rfl (12271 : Int32) (hb hby d1_136) (by decide) k) ?_
    by_cases hc139_2 : (12271 : Int32) < l0
    ·
      rw [if_pos hc139_2] at hQ
      refine own_go (S' := (T0.setTop (mkF m 142 #[.val (.int l0)] []))) (fun t k => XS.icmpNo X0.here hx rfl (hb hby d1_139) rfl (tlt hc139_2).2.2.2 k) ?_
      exact w1_142 X0 hx hby hml hret hlk hown hZ hw e0 l0 hQ
    ·
      rw [if_neg hc139_2] at hQ
      refine own_go (S' := (T0.setTop (mkF m 191 #[.val (.int l0)] []))) (fun t k => XS.icmpYes X0.here hx rfl (pc0 := 139) (pc' := 191) rfl (hb hby d1_139) rfl (flt hc139_2).2.2.2 (by decide) (by decide) k) ?_
      refine own_go (S' := (T0.setTop (mkF m 192 #[.val (.int l0)] [(.int (1 : Int32))]))) (fun t k => XT.iconstV X0.here hx rfl (1 : Int32) (hb hby d1_191) (by decide) k) ?_
      refine own_go (S' := (T0.setTop (mkF m 196 #[.val (.int l0)] [(.int (1 : Int32))]))) (fun t k => XS.goto X0.here hx rfl (pc0 := 192) (pc' := 196) rfl (hb hby d1_192) (by decide) (by decide) k) ?_
      exact own_retN X0 hx hret hlk (by simp) (hb hby d1_196) (by first | rfl | decide) (Nat.le_refl _) (Nat.le_refl _) (by rw [e0]; exact hQ)
set_option maxRecDepth 65536 in
set_option maxHeartbeats 40000000 in
theorem w1_114 {p : Program} {l : Launch} {e : Env} {s : State} {m : MethodId} {args : Array Value} {below : List Frame} {meth : Method} {c : Code} {T0 : State} {locs : List Loc} {Z : State} {a0 : Array Value} {h0 : Heap} {Q : Option Value → Heap → List Loc → Prop}
    (X0 : Stand p l e ({ frames := 0, cells := 0, slots := 0, locals := 0 } : Room) s m args below meth c T0 locs 0 0) (hx : p.tables.exec = Jvm.exec) (hby : c.code = prog_267_method_3_code) (hml : c.maxLocals = 1) (hret : meth.sig.returnType = (some .boolean)) (hlk : meth.locks = false) (hown : s.vm.findClass "com/example/hornbeam/hornbeam/model/XmlCharacters" = some m.cls) (hZ : Z.Warmed39 s.vm) (hw : ∀ d ∈ tables_1, d.before a0 Z = true) (e0 : T0.heap = h0)
    (l0 : Int32) (hQ : Q (some (.int (f1_114 l0))) h0 locs) : own_End p e below s Q 0 0 (T0.setTop (mkF m 114 #[.val (.int l0)] [])) := by
  unfold f1_114 at hQ
  refine own_go (S' := (T0.setTop (mkF m 115 #[.val (.int l0)] [(.int l0)]))) (fun t k => XS.iloadN X0.here hx rfl (hb hby d1_114) rfl k) ?_
  refine own_go (S' := (T0.setTop (mkF m 118 #[.val (.int l0)] [(.int (8304 : Int32)), (.int l0)]))) (fun t k => XT.sipushV X0.here hx rfl (8304 : Int32) (hb hby d1_115) (by decide) k) ?_
  by_cases hc118_1 : l0 < (8304 : Int32)
  ·
    rw [if_pos hc118_1] at hQ
    refine own_go (S' := (T0.setTop (mkF m 128 #[.val (.int l0)] []))) (fun t k => XS.icmpYes X0.here hx rfl (pc0 := 118) (pc' := 128) rfl (hb hby d1_118) rfl (tlt hc118_1).1 (by decide) (by decide) k) ?_
    exact w1_128 X0 hx hby hml hret hlk hown hZ hw e0 l0 hQ
  ·
    rw [if_neg hc118_1] at hQ
    refine own_go (S' := (T0.setTop (mkF m 121 #[.val (.int l0)] []))) (fun t k => XS.icmpNo X0.here hx rfl (hb hby d1_118) rfl (flt hc118_1).1 k) ?_
    refine own_go (S' := (T0.setTop (mkF m 122 #[.val (.int l0)] [(.int l0)]))) (fun t k => XS.iloadN X0.here hx rfl (hb hby d1_121) rfl k) ?_
    refine own_go (S' := (T0.setTop (mkF m 125 #[.val (.int l0)] [(.int (8591 : Int32)), (.int l0)]))) (fun t k => XT.sipushV X0.here hx rfl (8591 : Int32) (hb hby d1_122) (by decide) k) ?_
    by_cases hc125_2 : (8591 : Int32) < l0
    ·
      rw [if_pos hc125_2] at hQ
      refine own_go (S' := (T0.setTop (mkF m 128 #[.val (.int l0)] []))) (fun t k => XS.icmpNo X0.here hx rfl (hb hby d1_125) rfl (tlt hc125_2).2.2.2 k) ?_
      exact w1_128 X0 hx hby hml hret hlk hown hZ hw e0 l0 hQ
    ·
      rw [if_neg hc125_2] at hQ
      refine own_go (S' := (T0.setTop (mkF m 191 #[.val (.int l0)] []))) (fun t k => XS.icmpYes X0.here hx rfl (pc0 := 125) (pc' := 191) rfl (hb hby d1_125) rfl (flt hc125_2).2.2.2 (by decide) (by decide) k) ?_
      refine own_go (S' := (T0.setTop (mkF m 192 #[.val (.int l0)] [(.int (1 : Int32))]))) (fun t k => XT.iconstV X0.here hx rfl (1 : Int32) (hb hby d1_191) (by decide) k) ?_
      refine own_go (S' := (T0.setTop (mkF m 196 #[.val (.int l0)] [(.int (1 : Int32))]))) (fun t k => XS.goto X0.here hx rfl (pc0 := 192) (pc' := 196) rfl (hb hby d1_192) (by decide) (by decide) k) ?_
      exact own_retN X0 hx hret hlk (by simp) (hb hby d1_196) (by first | rfl | decide) (Nat.le_refl _) (Nat.le_refl _) (by rw [e0]; exact hQ)
set_option maxRecDepth 65536 in
set_option maxHeartbeats 40000000 in
theorem w1_100 {p : Program} {l : Launch} {e : Env} {s : State} {m : MethodId} {args : Array Value} {below : List Frame} {meth : Method} {c : Code} {T0 : State} {locs : List Loc} {Z : State} {a0 : Array Value} {h0 : Heap} {Q : Option Value → Heap → List Loc → Prop}
    (X0 : Stand p l e ({ frames := 0, cells := 0, slots := 0, locals := 0 } : Room) s m args below meth c T0 locs 0 0) (hx : p.tables.exec = Jvm.exec) (hby : c.code = prog_267_method_3_code) (hml : c.maxLocals = 1) (hret : meth.sig.returnType = (some .boolean)) (hlk : meth.locks = false) (hown : s.vm.findClass "com/example/hornbeam/hornbeam/model/XmlCharacters" = some m.cls) (hZ : Z.Warmed39 s.vm) (hw : ∀ d ∈ tables_1, d.before a0 Z = true) (e0 : T0.heap = h0)
    (l0 : Int32) (hQ : Q (some (.int (f1_100 l0))) h0 locs) : own_End p e below s Q 0 0 (T0.setTop (mkF m 100 #[.val (.int l0)] [])) := by
  unfold f1_100 at hQ
  refine own_go (S' := (T0.setTop (mkF m 101 #[.val (.int l0)] [(.int l0)]))) (fun t k => XS.iloadN X0.here hx rfl (hb hby d1_100) rfl k) ?_
  refine own_go (S' := (T0.setTop (mkF m 104 #[.val (.int l0)] [(.int (8204 : Int32)), (.int l0)]))) (fun t k => XT.sipushV X0.here hx rfl (8204 : Int32) (hb hby d1_101) (by decide) k) ?_
  by_cases hc104_1 : l0 < (8204 : Int32)
  ·
    rw [if_pos hc104_1] at hQ
    refine own_go (S' := (T0.setTop (mkF m 114 #[.val (.int l0)] []))) (fun t k => XS.icmpYes X0.here hx rfl (pc0 := 104) (pc' := 114) rfl (hb hby d1_104) rfl (tlt hc104_1).1 (by decide) (by decide) k) ?_
    exact w1_114 X0 hx hby hml hret hlk hown hZ hw e0 l0 hQ
  ·
    rw [if_neg hc104_1] at hQ
    refine own_go (S' := (T0.setTop (mkF m 107 #[.val (.int l0)] []))) (fun t k => XS.icmpNo X0.here hx rfl (hb hby d1_104) rfl (flt hc104_1).1 k) ?_
    refine own_go (S' := (T0.setTop (mkF m 108 #[.val (.int l0)] [(.int l0)]))) (fun t k => XS.iloadN X0.here hx rfl (hb hby d1_107) rfl k) ?_
    refine own_go (S' := (T0.setTop (mkF m 111 #[.val (.int l0)] [(.int (8205 : Int32)), (.int l0)]))) (fun t k => XT.sipushV X0.here hx rfl (8205 : Int32) (hb hby d1_108) (by decide) k) ?_
    by_cases hc111_2 : (8205 : Int32) < l0
    ·
      rw [if_pos hc111_2] at hQ
      refine own_go (S' := (T0.setTop (mkF m 114 #[.val (.int l0)] []))) (fun t k => XS.icmpNo X0.here hx rfl (hb hby d1_111) rfl (tlt hc111_2).2.2.2 k) ?_
      exact w1_114 X0 hx hby hml hret hlk hown hZ hw e0 l0 hQ
    ·
      rw [if_neg hc111_2] at hQ
      refine own_go (S' := (T0.setTop (mkF m 191 #[.val (.int l0)] []))) (fun t k => XS.icmpYes X0.here hx rfl (pc0 := 111) (pc' := 191) rfl (hb hby d1_111) rfl (flt hc111_2).2.2.2 (by decide) (by decide) k) ?_
      refine own_go (S' := (T0.setTop (mkF m 192 #[.val (.int l0)] [(.int (1 : Int32))]))) (fun t k => XT.iconstV X0.here hx rfl (1 : Int32) (hb hby d1_191) (by decide) k) ?_
      refine own_go (S' := (T0.setTop (mkF m 196 #[.val (.int l0)] [(.int (1 : Int32))]))) (fun t k => XS.goto X0.here hx rfl (pc0 := 192) (pc' := 196) rfl (hb hby d1_192) (by decide) (by decide) k) ?_
      exact own_retN X0 hx hret hlk (by simp) (hb hby d1_196) (by first | rfl | decide) (Nat.le_refl _) (Nat.le_refl _) (by rw [e0]; exact hQ)
set_option maxRecDepth 65536 in
set_option maxHeartbeats 40000000 in
theorem w1_86 {p : Program} {l : Launch} {e : Env} {s : State} {m : MethodId} {args : Array Value} {below : List Frame} {meth : Method} {c : Code} {T0 : State} {locs : List Loc} {Z : State} {a0 : Array Value} {h0 : Heap} {Q : Option Value → Heap → List Loc → Prop}
    (X0 : Stand p l e ({ frames := 0, cells := 0, slots := 0, locals := 0 } : Room) s m args below meth c T0 locs 0 0) (hx : p.tables.exec = Jvm.exec) (hby : c.code = prog_267_method_3_code) (hml : c.maxLocals = 1) (hret : meth.sig.returnType = (some .boolean)) (hlk : meth.locks = false) (hown : s.vm.findClass "com/example/hornbeam/hornbeam/model/XmlCharacters" = some m.cls) (hZ : Z.Warmed39 s.vm) (hw : ∀ d ∈ tables_1, d.before a0 Z = true) (e0 : T0.heap = h0)
    (l0 : Int32) (hQ : Q (some (.int (f1_86 l0))) h0 locs) : own_End p e below s Q 0 0 (T0.setTop (mkF m 86 #[.val (.int l0)] [])) := by
  unfold f1_86 at hQ
  refine own_go (S' := (T0.setTop (mkF m 87 #[.val (.int l0)] [(.int l0)]))) (fun t k => XS.iloadN X0.here hx rfl (hb hby d1_86) rfl k) ?_
  refine own_go (S' := (T0.setTop (mkF m 90 #[.val (.int l0)] [(.int (895 : Int32)), (.int l0)]))) (fun t k => XT.sipushV X0.here hx rfl (895 : Int32) (hb hby d1_87) (by decide) k) ?_
  by_cases hc90_1 : l0 < (895 : Int32)
  ·
    rw [if_pos hc90_1] at hQ
    refine own_go (S' := (T0.setTop (mkF m 100 #[.val (.int l0)] []))) (fun t k => XS.icmpYes X0.here hx rfl (pc0 := 90) (pc' := 100) rfl (hb hby d1_90) rfl (tlt hc90_1).1 (by decide) (by decide) k) ?_
    exact w1_100 X0 hx hby hml hret hlk hown hZ hw e0 l0 hQ
  ·
    rw [if_neg hc90_1] at hQ
    refine own_go (S' := (T0.setTop (mkF m 93 #[.val (.int l0)] []))) (fun t k => XS.icmpNo X0.here hx rfl (hb hby d1_90) rfl (flt hc90_1).1 k) ?_
    refine own_go (S' := (T0.setTop (mkF m 94 #[.val (.int l0)] [(.int l0)]))) (fun t k => XS.iloadN X0.here hx rfl (hb hby d1_93) rfl k) ?_
    refine own_go (S' := (T0.setTop (mkF m 97 #[.val (.int l0)] [(.int (8191 : Int32)), (.int l0)]))) (fun t k => XT.sipushV X0.here hx rfl (8191 : Int32) (hb hby d1_94) (by decide) k) ?_
    by_cases hc97_2 : (8191 : Int32) < l0
    ·
      rw [if_pos hc97_2] at hQ
      refine own_go (S' := (T0.setTop (mkF m 100 #[.val (.int l0)] []))) (fun t k => XS.icmpNo X0.here hx rfl (hb hby d1_97) rfl (tlt hc97_2).2.2.2 k) ?_
      exact w1_100 X0 hx hby hml hret hlk hown hZ hw e0 l0 hQ
    ·
      rw [if_neg hc97_2] at hQ
      refine own_go (S' := (T0.setTop (mkF m 191 #[.val (.int l0)] []))) (fun t k => XS.icmpYes X0.here hx rfl (pc0 := 97) (pc' := 191) rfl (hb hby d1_97) rfl (flt hc97_2).2.2.2 (by decide) (by decide) k) ?_
      refine own_go (S' := (T0.setTop (mkF m 192 #[.val (.int l0)] [(.int (1 : Int32))]))) (fun t k => XT.iconstV X0.here hx rfl (1 : Int32) (hb hby d1_191) (by decide) k) ?_
      refine own_go (S' := (T0.setTop (mkF m 196 #[.val (.int l0)] [(.int (1 : Int32))]))) (fun t k => XS.goto X0.here hx rfl (pc0 := 192) (pc' := 196) rfl (hb hby d1_192) (by decide) (by decide) k) ?_
      exact own_retN X0 hx hret hlk (by simp) (hb hby d1_196) (by first | rfl | decide) (Nat.le_refl _) (Nat.le_refl _) (by rw [e0]; exact hQ)
set_option maxRecDepth 65536 in
set_option maxHeartbeats 40000000 in
theorem w1_72 {p : Program} {l : Launch} {e : Env} {s : State} {m : MethodId} {args : Array Value} {below : List Frame} {meth : Method} {c : Code} {T0 : State} {locs : List Loc} {Z : State} {a0 : Array Value} {h0 : Heap} {Q : Option Value → Heap → List Loc → Prop}
    (X0 : Stand p l e ({ frames := 0, cells := 0, slots := 0, locals := 0 } : Room) s m args below meth c T0 locs 0 0) (hx : p.tables.exec = Jvm.exec) (hby : c.code = prog_267_method_3_code) (hml : c.maxLocals = 1) (hret : meth.sig.returnType = (some .boolean)) (hlk : meth.locks = false) (hown : s.vm.findClass "com/example/hornbeam/hornbeam/model/XmlCharacters" = some m.cls) (hZ : Z.Warmed39 s.vm) (hw : ∀ d ∈ tables_1, d.before a0 Z = true) (e0 : T0.heap = h0)
    (l0 : Int32) (hQ : Q (some (.int (f1_72 l0))) h0 locs) : own_End p e below s Q 0 0 (T0.setTop (mkF m 72 #[.val (.int l0)] [])) := by
  unfold f1_72 at hQ
  refine own_go (S' := (T0.setTop (mkF m 73 #[.val (.int l0)] [(.int l0)]))) (fun t k => XS.iloadN X0.here hx rfl (hb hby d1_72) rfl k) ?_
  refine own_go (S' := (T0.setTop (mkF m 76 #[.val (.int l0)] [(.int (880 : Int32)), (.int l0)]))) (fun t k => XT.sipushV X0.here hx rfl (880 : Int32) (hb hby d1_73) (by decide) k) ?_
  by_cases hc76_1 : l0 < (880 : Int32)
  ·
    rw [if_pos hc76_1] at hQ
    refine own_go (S' := (T0.setTop (mkF m 86 #[.val (.int l0)] []))) (fun t k => XS.icmpYes X0.here hx rfl (pc0 := 76) (pc' := 86) rfl (hb hby d1_76) rfl (tlt hc76_1).1 (by decide) (by decide) k) ?_
    exact w1_86 X0 hx hby hml hret hlk hown hZ hw e0 l0 hQ
  ·
    rw [if_neg hc76_1] at hQ
    refine own_go (S' := (T0.setTop (mkF m 79 #[.val (.int l0)] []))) (fun t k => XS.icmpNo X0.here hx rfl (hb hby d1_76) rfl (flt hc76_1).1 k) ?_
    refine own_go (S' := (T0.setTop (mkF m 80 #[.val (.int l0)] [(.int l0)]))) (fun t k => XS.iloadN X0.here hx rfl (hb hby d1_79) rfl k) ?_
    refine own_go (S' := (T0.setTop (mkF m 83 #[.val (.int l0)] [(.int (893 : Int32)), (.int l0)]))) (fun t k => XT.sipushV X0.here hx rfl (893 : Int32) (hb hby d1_80) (by decide) k) ?_
    by_cases hc83_2 : (893 : Int32) < l0
    ·
      rw [if_pos hc83_2] at hQ
      refine own_go (S' := (T0.setTop (mkF m 86 #[.val (.int l0)] []))) (fun t k => XS.icmpNo X0.here hx rfl (hb hby d1_83) rfl (tlt hc83_2).2.2.2 k) ?_
      exact w1_86 X0 hx hby hml hret hlk hown hZ hw e0 l0 hQ
    ·
      rw [if_neg hc83_2] at hQ
      refine own_go (S' := (T0.setTop (mkF m 191 #[.val (.int l0)] []))) (fun t k => XS.icmpYes X0.here hx rfl (pc0 := 83) (pc' := 191) rfl (hb hby d1_83) rfl (flt hc83_2).2.2.2 (by decide) (by decide) k) ?_
      refine own_go (S' := (T0.setTop (mkF m 192 #[.val (.int l0)] [(.int (1 : Int32))]))) (fun t k => XT.iconstV X0.here hx rfl (1 : Int32) (hb hby d1_191) (by decide) k) ?_
      refine own_go (S' := (T0.setTop (mkF m 196 #[.val (.int l0)] [(.int (1 : Int32))]))) (fun t k => XS.goto X0.here hx rfl (pc0 := 192) (pc' := 196) rfl (hb hby d1_192) (by decide) (by decide) k) ?_
      exact own_retN X0 hx hret hlk (by simp) (hb hby d1_196) (by first | rfl | decide) (Nat.le_refl _) (Nat.le_refl _) (by rw [e0]; exact hQ)
set_option maxRecDepth 65536 in
set_option maxHeartbeats 40000000 in
theorem w1_58 {p : Program} {l : Launch} {e : Env} {s : State} {m : MethodId} {args : Array Value} {below : List Frame} {meth : Method} {c : Code} {T0 : State} {locs : List Loc} {Z : State} {a0 : Array Value} {h0 : Heap} {Q : Option Value → Heap → List Loc → Prop}
    (X0 : Stand p l e ({ frames := 0, cells := 0, slots := 0, locals := 0 } : Room) s m args below meth c T0 locs 0 0) (hx : p.tables.exec = Jvm.exec) (hby : c.code = prog_267_method_3_code) (hml : c.maxLocals = 1) (hret : meth.sig.returnType = (some .boolean)) (hlk : meth.locks = false) (hown : s.vm.findClass "com/example/hornbeam/hornbeam/model/XmlCharacters" = some m.cls) (hZ : Z.Warmed39 s.vm) (hw : ∀ d ∈ tables_1, d.before a0 Z = true) (e0 : T0.heap = h0)
    (l0 : Int32) (hQ : Q (some (.int (f1_58 l0))) h0 locs) : own_End p e below s Q 0 0 (T0.setTop (mkF m 58 #[.val (.int l0)] [])) := by
  unfold f1_58 at hQ
  refine own_go (S' := (T0.setTop (mkF m 59 #[.val (.int l0)] [(.int l0)]))) (fun t k => XS.iloadN X0.here hx rfl (hb hby d1_58) rfl k) ?_
  refine own_go (S' := (T0.setTop (mkF m 62 #[.val (.int l0)] [(.int (248 : Int32)), (.int l0)]))) (fun t k => XT.sipushV X0.here hx rfl (248 : Int32) (hb hby d1_59) (by decide) k) ?_
  by_cases hc62_1 : l0 < (248 : Int32)
  ·
    rw [if_pos hc62_1] at hQ
    refine own_go (S' := (T0.setTop (mkF m 72 #[.val (.int l0)] []))) (fun t k => XS.icmpYes X0.here hx rfl (pc0 := 62) (pc' := 72) rfl (hb hby d1_62) rfl (tlt hc62_1).1 (by decide) (by decide) k) ?_
    exact w1_72 X0 hx hby hml hret hlk hown hZ hw e0 l0 hQ
  ·
    rw [if_neg hc62_1] at hQ
    refine own_go (S' := (T0.setTop (mkF m 65 #[.val (.int l0)] []))) (fun t k => XS.icmpNo X0.here hx rfl (hb hby d1_62) rfl (flt hc62_1).1 k) ?_
    refine own_go (S' := (T0.setTop (mkF m 66 #[.val (.int l0)] [(.int l0)]))) (fun t k => XS.iloadN X0.here hx rfl (hb hby d1_65) rfl k) ?_
    refine own_go (S' := (T0.setTop (mkF m 69 #[.val (.int l0)] [(.int (767 : Int32)), (.int l0)]))) (fun t k => XT.sipushV X0.here hx rfl (767 : Int32) (hb hby d1_66) (by decide) k) ?_
    by_cases hc69_2 : (767 : Int32) < l0
    ·
      rw [if_pos hc69_2] at hQ
      refine own_go (S' := (T0.setTop (mkF m 72 #[.val (.int l0)] []))) (fun t k => XS.icmpNo X0.here hx rfl (hb hby d1_69) rfl (tlt hc69_2).2.2.2 k) ?_
      exact w1_72 X0 hx hby hml hret hlk hown hZ hw e0 l0 hQ
    ·
      rw [if_neg hc69_2] at hQ
      refine own_go (S' := (T0.setTop (mkF m 191 #[.val (.int l0)] []))) (fun t k => XS.icmpYes X0.here hx rfl (pc0 := 69) (pc' := 191) rfl (hb hby d1_69) rfl (flt hc69_2).2.2.2 (by decide) (by decide) k) ?_
      refine own_go (S' := (T0.setTop (mkF m 192 #[.val (.int l0)] [(.int (1 : Int32))]))) (fun t k => XT.iconstV X0.here hx rfl (1 : Int32) (hb hby d1_191) (by decide) k) ?_
      refine own_go (S' := (T0.setTop (mkF m 196 #[.val (.int l0)] [(.int (1 : Int32))]))) (fun t k => XS.goto X0.here hx rfl (pc0 := 192) (pc' := 196) rfl (hb hby d1_192) (by decide) (by decide) k) ?_
      exact own_retN X0 hx hret hlk (by simp) (hb hby d1_196) (by first | rfl | decide) (Nat.le_refl _) (Nat.le_refl _) (by rw [e0]; exact hQ)
set_option maxRecDepth 65536 in
set_option maxHeartbeats 40000000 in
theorem w1_44 {p : Program} {l : Launch} {e : Env} {s : State} {m : MethodId} {args : Array Value} {below : List Frame} {meth : Method} {c : Code} {T0 : State} {locs : List Loc} {Z : State} {a0 : Array Value} {h0 : Heap} {Q : Option Value → Heap → List Loc → Prop}
    (X0 : Stand p l e ({ frames := 0, cells := 0, slots := 0, locals := 0 } : Room) s m args below meth c T0 locs 0 0) (hx : p.tables.exec = Jvm.exec) (hby : c.code = prog_267_method_3_code) (hml : c.maxLocals = 1) (hret : meth.sig.returnType = (some .boolean)) (hlk : meth.locks = false) (hown : s.vm.findClass "com/example/hornbeam/hornbeam/model/XmlCharacters" = some m.cls) (hZ : Z.Warmed39 s.vm) (hw : ∀ d ∈ tables_1, d.before a0 Z = true) (e0 : T0.heap = h0)
    (l0 : Int32) (hQ : Q (some (.int (f1_44 l0))) h0 locs) : own_End p e below s Q 0 0 (T0.setTop (mkF m 44 #[.val (.int l0)] [])) := by
  unfold f1_44 at hQ
  refine own_go (S' := (T0.setTop (mkF m 45 #[.val (.int l0)] [(.int l0)]))) (fun t k => XS.iloadN X0.here hx rfl (hb hby d1_44) rfl k) ?_
  refine own_go (S' := (T0.setTop (mkF m 48 #[.val (.int l0)] [(.int (216 : Int32)), (.int l0)]))) (fun t k => XT.sipushV X0.here hx rfl (216 : Int32) (hb hby d1_45) (by decide) k) ?_
  by_cases hc48_1 : l0 < (216 : Int32)
  ·
    rw [if_pos hc48_1] at hQ
    refine own_go (S' := (T0.setTop (mkF m 58 #[.val (.int l0)] []))) (fun t k => XS.icmpYes X0.here hx rfl (pc0 := 48) (pc' := 58) rfl (hb hby d1_48) rfl (tlt hc48_1).1 (by decide) (by decide) k) ?_
    exact w1_58 X0 hx hby hml hret hlk hown hZ hw e0 l0 hQ
  ·
    rw [if_neg hc48_1] at hQ
    refine own_go (S' := (T0.setTop (mkF m 51 #[.val (.int l0)] []))) (fun t k => XS.icmpNo X0.here hx rfl (hb hby d1_48) rfl (flt hc48_1).1 k) ?_
    refine own_go (S' := (T0.setTop (mkF m 52 #[.val (.int l0)] [(.int l0)]))) (fun t k => XS.iloadN X0.here hx rfl (hb hby d1_51) rfl k) ?_
    refine own_go (S' := (T0.setTop (mkF m 55 #[.val (.int l0)] [(.int (246 : Int32)), (.int l0)]))) (fun t k => XT.sipushV X0.here hx rfl (246 : Int32) (hb hby d1_52) (by decide) k) ?_
    by_cases hc55_2 : (246 : Int32) < l0
    ·
      rw [if_pos hc55_2] at hQ
      refine own_go (S' := (T0.setTop (mkF m 58 #[.val (.int l0)] []))) (fun t k => XS.icmpNo X0.here hx rfl (hb hby d1_55) rfl (tlt hc55_2).2.2.2 k) ?_
      exact w1_58 X0 hx hby hml hret hlk hown hZ hw e0 l0 hQ
    ·
      rw [if_neg hc55_2] at hQ
      refine own_go (S' := (T0.setTop (mkF m 191 #[.val (.int l0)] []))) (fun t k => XS.icmpYes X0.here hx rfl (pc0 := 55) (pc' := 191) rfl (hb hby d1_55) rfl (flt hc55_2).2.2.2 (by decide) (by decide) k) ?_
      refine own_go (S' := (T0.setTop (mkF m 192 #[.val (.int l0)] [(.int (1 : Int32))]))) (fun t k => XT.iconstV X0.here hx rfl (1 : Int32) (hb hby d1_191) (by decide) k) ?_
      refine own_go (S' := (T0.setTop (mkF m 196 #[.val (.int l0)] [(.int (1 : Int32))]))) (fun t k => XS.goto X0.here hx rfl (pc0 := 192) (pc' := 196) rfl (hb hby d1_192) (by decide) (by decide) k) ?_
      exact own_retN X0 hx hret hlk (by simp) (hb hby d1_196) (by first | rfl | decide) (Nat.le_refl _) (Nat.le_refl _) (by rw [e0]; exact hQ)
set_option maxRecDepth 65536 in
set_option maxHeartbeats 40000000 in
theorem w1_24 {p : Program} {l : Launch} {e : Env} {s : State} {m : MethodId} {args : Array Value} {below : List Frame} {meth : Method} {c : Code} {T0 : State} {locs : List Loc} {Z : State} {a0 : Array Value} {h0 : Heap} {Q : Option Value → Heap → List Loc → Prop}
    (X0 : Stand p l e ({ frames := 0, cells := 0, slots := 0, locals := 0 } : Room) s m args below meth c T0 locs 0 0) (hx : p.tables.exec = Jvm.exec) (hby : c.code = prog_267_method_3_code) (hml : c.maxLocals = 1) (hret : meth.sig.returnType = (some .boolean)) (hlk : meth.locks = false) (hown : s.vm.findClass "com/example/hornbeam/hornbeam/model/XmlCharacters" = some m.cls) (hZ : Z.Warmed39 s.vm) (hw : ∀ d ∈ tables_1, d.before a0 Z = true) (e0 : T0.heap = h0)
    (l0 : Int32) (hQ : Q (some (.int (f1_24 l0))) h0 locs) : own_End p e below s Q 0 0 (T0.setTop (mkF m 24 #[.val (.int l0)] [])) := by
  unfold f1_24 at hQ
  refine own_go (S' := (T0.setTop (mkF m 25 #[.val (.int l0)] [(.int l0)]))) (fun t k => XS.iloadN X0.here hx rfl (hb hby d1_24) rfl k) ?_
  refine own_go (S' := (T0.setTop (mkF m 27 #[.val (.int l0)] [(.int (95 : Int32)), (.int l0)]))) (fun t k => XT.bipushV X0.here hx rfl (95 : Int32) (hb hby d1_25) (by decide) k) ?_
  by_cases hc27_1 : l0 = (95 : Int32)
  ·
    rw [if_pos hc27_1] at hQ
    refine own_go (S' := (T0.setTop (mkF m 191 #[.val (.int l0)] []))) (fun t k => XS.icmpYes X0.here hx rfl (pc0 := 27) (pc' := 191) rfl (hb hby d1_27) rfl (teq hc27_1).1 (by decide) (by decide) k) ?_
    refine own_go (S' := (T0.setTop (mkF m 192 #[.val (.int l0)] [(.int (1 : Int32))]))) (fun t k => XT.iconstV X0.here hx rfl (1 : Int32) (hb hby d1_191) (by decide) k) ?_
    refine own_go (S' := (T0.setTop (mkF m 196 #[.val (.int l0)] [(.int (1 : Int32))]))) (fun t k => XS.goto X0.here hx rfl (pc0 := 192) (pc' := 196) rfl (hb hby d1_192) (by decide) (by decide) k) ?_
    exact own_retN X0 hx hret hlk (by simp) (hb hby d1_196) (by first | rfl | decide) (Nat.le_refl _) (Nat.le_refl _) (by rw [e0]; exact hQ)
  ·
    rw [if_neg hc27_1] at hQ
    refine own_go (S' := (T0.setTop (mkF m 30 #[.val (.int l0)] []))) (fun t k => XS.icmpNo X0.here hx rfl (hb hby d1_27) rfl (feq hc27_1).1 k) ?_
    refine own_go (S' := (T0.setTop (mkF m 31 #[.val (.int l0)] [(.int l0)]))) (fun t k => XS.iloadN X0.here hx rfl (hb hby d1_30) rfl k) ?_
    refine own_go (S' := (T0.setTop (mkF m 34 #[.val (.int l0)] [(.int (192 : Int32)), (.int l0)]))) (fun t k => XT.sipushV X0.here hx rfl (192 : Int32) (hb hby d1_31) (by decide) k) ?_
    by_cases hc34_2 : l0 < (192 : Int32)
    ·
      rw [if_pos hc34_2] at hQ
      refine own_go (S' := (T0.setTop (mkF m 44 #[.val (.int l0)] []))) (fun t k => XS.icmpYes X0.here hx rfl (pc0 := 34) (pc' := 44) rfl (hb hby d1_34) rfl (tlt hc34_2).1 (by decide) (by decide) k) ?_
      exact w1_44 X0 hx hby hml hret hlk hown hZ hw e0 l0 hQ
    ·
      rw [if_neg hc34_2] at hQ
      refine own_go (S' := (T0.setTop (mkF m 37 #[.val (.int l0)] []))) (fun t k => XS.icmpNo X0.here hx rfl (hb hby d1_34) rfl (flt hc34_2).1 k) ?_
      refine own_go (S' := (T0.setTop (mkF m 38 #[.val (.int l0)] [(.int l0)]))) (fun t k => XS.iloadN X0.here hx rfl (hb hby d1_37) rfl k) ?_
      refine own_go (S' := (T0.setTop (mkF m 41 #[.val (.int l0)] [(.int (214 : Int32)), (.int l0)]))) (fun t k => XT.sipushV X0.here hx rfl (214 : Int32) (hb hby d1_38) (by decide) k) ?_
      by_cases hc41_3 : (214 : Int32) < l0
      ·
        rw [if_pos hc41_3] at hQ
        refine own_go (S' := (T0.setTop (mkF m 44 #[.val (.int l0)] []))) (fun t k => XS.icmpNo X0.here hx rfl (hb hby d1_41) rfl (tlt hc41_3).2.2.2 k) ?_
        exact w1_44 X0 hx hby hml hret hlk hown hZ hw e0 l0 hQ
      ·
        rw [if_neg hc41_3] at hQ
        refine own_go (S' := (T0.setTop (mkF m 191 #[.val (.int l0)] []))) (fun t k => XS.icmpYes X0.here hx rfl (pc0 := 41) (pc' := 191) rfl (hb hby d1_41) rfl (flt hc41_3).2.2.2 (by decide) (by decide) k) ?_
        refine own_go (S' := (T0.setTop (mkF m 192 #[.val (.int l0)] [(.int (1 : Int32))]))) (fun t k => XT.iconstV X0.here hx rfl (1 : Int32) (hb hby d1_191) (by decide) k) ?_
        refine own_go (S' := (T0.setTop (mkF m 196 #[.val (.int l0)] [(.int (1 : Int32))]))) (fun t k => XS.goto X0.here hx rfl (pc0 := 192) (pc' := 196) rfl (hb hby d1_192) (by decide) (by decide) k) ?_
        exact own_retN X0 hx hret hlk (by simp) (hb hby d1_196) (by first | rfl | decide) (Nat.le_refl _) (Nat.le_refl _) (by rw [e0]; exact hQ)
set_option maxRecDepth 65536 in
set_option maxHeartbeats 40000000 in
theorem w1_12 {p : Program} {l : Launch} {e : Env} {s : State} {m : MethodId} {args : Array Value} {below : List Frame} {meth : Method} {c : Code} {T0 : State} {locs : List Loc} {Z : State} {a0 : Array Value} {h0 : Heap} {Q : Option Value → Heap → List Loc → Prop}
    (X0 : Stand p l e ({ frames := 0, cells := 0, slots := 0, locals := 0 } : Room) s m args below meth c T0 locs 0 0) (hx : p.tables.exec = Jvm.exec) (hby : c.code = prog_267_method_3_code) (hml : c.maxLocals = 1) (hret : meth.sig.returnType = (some .boolean)) (hlk : meth.locks = false) (hown : s.vm.findClass "com/example/hornbeam/hornbeam/model/XmlCharacters" = some m.cls) (hZ : Z.Warmed39 s.vm) (hw : ∀ d ∈ tables_1, d.before a0 Z = true) (e0 : T0.heap = h0)
    (l0 : Int32) (hQ : Q (some (.int (f1_12 l0))) h0 locs) : own_End p e below s Q 0 0 (T0.setTop (mkF m 12 #[.val (.int l0)] [])) := by
  unfold f1_12 at hQ
  refine own_go (S' := (T0.setTop (mkF m 13 #[.val (.int l0)] [(.int l0)]))) (fun t k => XS.iloadN X0.here hx rfl (hb hby d1_12) rfl k) ?_
  refine own_go (S' := (T0.setTop (mkF m 15 #[.val (.int l0)] [(.int (65 : Int32)), (.int l0)]))) (fun t k => XT.bipushV X0.here hx rfl (65 : Int32) (hb hby d1_13) (by decide) k) ?_
  by_cases hc15_1 : l0 < (65 : Int32)
  ·
    rw [if_pos hc15_1] at hQ
    refine own_go (S' := (T0.setTop (mkF m 24 #[.val (.int l0)] []))) (fun t k => XS.icmpYes X0.here hx rfl (pc0 := 15) (pc' := 24) rfl (hb hby d1_15) rfl (tlt hc15_1).1 (by decide) (by decide) k) ?_
    exact w1_24 X0 hx hby hml hret hlk hown hZ hw e0 l0 hQ
  ·
    rw [if_neg hc15_1] at hQ
    refine own_go (S' := (T0.setTop (mkF m 18 #[.val (.int l0)] []))) (fun t k => XS.icmpNo X0.here hx rfl (hb hby d1_15) rfl (flt hc15_1).1 k) ?_
    refine own_go (S' := (T0.setTop (mkF m 19 #[.val (.int l0)] [(.int l0)]))) (fun t k => XS.iloadN X0.here hx rfl (hb hby d1_18) rfl k) ?_
    refine own_go (S' := (T0.setTop (mkF m 21 #[.val (.int l0)] [(.int (90 : Int32)), (.int l0)]))) (fun t k => XT.bipushV X0.here hx rfl (90 : Int32) (hb hby d1_19) (by decide) k) ?_
    by_cases hc21_2 : (90 : Int32) < l0
    ·
      rw [if_pos hc21_2] at hQ
      refine own_go (S' := (T0.setTop (mkF m 24 #[.val (.int l0)] []))) (fun t k => XS.icmpNo X0.here hx rfl (hb hby d1_21) rfl (tlt hc21_2).2.2.2 k) ?_
      exact w1_24 X0 hx hby hml hret hlk hown hZ hw e0 l0 hQ
    ·
      rw [if_neg hc21_2] at hQ
      refine own_go (S' := (T0.setTop (mkF m 191 #[.val (.int l0)] []))) (fun t k => XS.icmpYes X0.here hx rfl (pc0 := 21) (pc' := 191) rfl (hb hby d1_21) rfl (flt hc21_2).2.2.2 (by decide) (by decide) k) ?_
      refine own_go (S' := (T0.setTop (mkF m 192 #[.val (.int l0)] [(.int (1 : Int32))]))) (fun t k => XT.iconstV X0.here hx rfl (1 : Int32) (hb hby d1_191) (by decide) k) ?_
      refine own_go (S' := (T0.setTop (mkF m 196 #[.val (.int l0)] [(.int (1 : Int32))]))) (fun t k => XS.goto X0.here hx rfl (pc0 := 192) (pc' := 196) rfl (hb hby d1_192) (by decide) (by decide) k) ?_
      exact own_retN X0 hx hret hlk (by simp) (hb hby d1_196) (by first | rfl | decide) (Nat.le_refl _) (Nat.le_refl _) (by rw [e0]; exact hQ)
set_option maxRecDepth 65536 in
set_option maxHeartbeats 40000000 in
theorem w1_0 {p : Program} {l : Launch} {e : Env} {s : State} {m : MethodId} {args : Array Value} {below : List Frame} {meth : Method} {c : Code} {T0 : State} {locs : List Loc} {Z : State} {a0 : Array Value} {h0 : Heap} {Q : Option Value → Heap → List Loc → Prop}
    (X0 : Stand p l e ({ frames := 0, cells := 0, slots := 0, locals := 0 } : Room) s m args below meth c T0 locs 0 0) (hx : p.tables.exec = Jvm.exec) (hby : c.code = prog_267_method_3_code) (hml : c.maxLocals = 1) (hret : meth.sig.returnType = (some .boolean)) (hlk : meth.locks = false) (hown : s.vm.findClass "com/example/hornbeam/hornbeam/model/XmlCharacters" = some m.cls) (hZ : Z.Warmed39 s.vm) (hw : ∀ d ∈ tables_1, d.before a0 Z = true) (e0 : T0.heap = h0)
    (l0 : Int32) (hQ : Q (some (.int (f1_0 l0))) h0 locs) : own_End p e below s Q 0 0 (T0.setTop (mkF m 0 #[.val (.int l0)] [])) := by
  unfold f1_0 at hQ
  refine own_go (S' := (T0.setTop (mkF m 1 #[.val (.int l0)] [(.int l0)]))) (fun t k => XS.iloadN X0.here hx rfl (hb hby d1_0) rfl k) ?_
  refine own_go (S' := (T0.setTop (mkF m 3 #[.val (.int l0)] [(.int (97 : Int32)), (.int l0)]))) (fun t k => XT.bipushV X0.here hx rfl (97 : Int32) (hb hby d1_1) (by decide) k) ?_
  by_cases hc3_1 : l0 < (97 : Int32)
  ·
    rw [if_pos hc3_1] at hQ
    refine own_go (S' := (T0.setTop (mkF m 12 #[.val (.int l0)] []))) (fun t k => XS.icmpYes X0.here hx rfl (pc0 := 3) (pc' := 12) rfl (hb hby d1_3) rfl (tlt hc3_1).1 (by decide) (by decide) k) ?_
    exact w1_12 X0 hx hby hml hret hlk hown hZ hw e0 l0 hQ
  ·
    rw [if_neg hc3_1] at hQ
    refine own_go (S' := (T0.setTop (mkF m 6 #[.val (.int l0)] []))) (fun t k => XS.icmpNo X0.here hx rfl (hb hby d1_3) rfl (flt hc3_1).1 k) ?_
    refine own_go (S' := (T0.setTop (mkF m 7 #[.val (.int l0)] [(.int l0)]))) (fun t k => XS.iloadN X0.here hx rfl (hb hby d1_6) rfl k) ?_
    refine own_go (S' := (T0.setTop (mkF m 9 #[.val (.int l0)] [(.int (122 : Int32)), (.int l0)]))) (fun t k => XT.bipushV X0.here hx rfl (122 : Int32) (hb hby d1_7) (by decide) k) ?_
    by_cases hc9_2 : (122 : Int32) < l0
    ·
      rw [if_pos hc9_2] at hQ
      refine own_go (S' := (T0.setTop (mkF m 12 #[.val (.int l0)] []))) (fun t k => XS.icmpNo X0.here hx rfl (hb hby d1_9) rfl (tlt hc9_2).2.2.2 k) ?_
      exact w1_12 X0 hx hby hml hret hlk hown hZ hw e0 l0 hQ
    ·
      rw [if_neg hc9_2] at hQ
      refine own_go (S' := (T0.setTop (mkF m 191 #[.val (.int l0)] []))) (fun t k => XS.icmpYes X0.here hx rfl (pc0 := 9) (pc' := 191) rfl (hb hby d1_9) rfl (flt hc9_2).2.2.2 (by decide) (by decide) k) ?_
      refine own_go (S' := (T0.setTop (mkF m 192 #[.val (.int l0)] [(.int (1 : Int32))]))) (fun t k => XT.iconstV X0.here hx rfl (1 : Int32) (hb hby d1_191) (by decide) k) ?_
      refine own_go (S' := (T0.setTop (mkF m 196 #[.val (.int l0)] [(.int (1 : Int32))]))) (fun t k => XS.goto X0.here hx rfl (pc0 := 192) (pc' := 196) rfl (hb hby d1_192) (by decide) (by decide) k) ?_
      exact own_retN X0 hx hret hlk (by simp) (hb hby d1_196) (by first | rfl | decide) (Nat.le_refl _) (Nat.le_refl _) (by rw [e0]; exact hQ)
theorem pn_1 : plainName "com/example/hornbeam/hornbeam/model/XmlCharacters" = true := by first | (simp [plainName, overriddenIn]; done) | decide +kernel
theorem ef_1 (m : MethodId) (l0 : Int32) : entryFrame m #[(.int l0)] 1 = mkF m 0 #[.val (.int l0)] [] := by first | (simp [entryFrame, mkF, argsToLocals, Value.category]; done) | rfl
set_option maxRecDepth 65536 in
theorem rm1 (l : Launch) (Z : State) (a0 : Array Value) (hw : ∀ d ∈ tables_1, d.before a0 Z = true) (l0 : Int32) (h0 : Heap) : own_C l Z (⟨"com/example/hornbeam/hornbeam/model/XmlCharacters", "isNCNameStart", "(I)Z"⟩ : MethodName) prog_267_method_3_code 1 (some .boolean) ({ frames := 0, cells := 0, slots := 0, locals := 0 } : Room) #[(.int l0)] h0 (own_P h0 (some (.int (f1_0 l0)))) := by
  refine MetFree.of_bodySF (plainFor_of_name pn_1) hisR ?_
  intro p e s m args below meth c s₁ Bd hml hP hK
  obtain ⟨rfl, hZ, hh⟩ := hP
  show own_End p e below s (own_P h0 (some (.int (f1_0 l0)))) 0 0 (s₁.setTop (entryFrame m #[(.int l0)] 1))
  exact own_cast (ef_1 m l0) (w1_0 (Stand.of_body Bd) Bd.exec Bd.bytes hml Bd.returns (BodyLoose.notSynchronized Bd) (findClass_of_methodNamed Bd.named) hZ hw (by rw [← hh, Bd.state]; rfl) l0 ⟨rfl, rfl, rfl⟩)
theorem own_mask31 (x : Int32) : 0 ≤ (x &&& (2147483647 : Int32)).toInt := by rw [Jvm.Kit.i32_mask x 2147483647 (k := 31) (by decide) (by decide)]; omega
theorem own_p1_f1_0 (l0 : Int32) : f1_0 l0 = (if (¬ l0 < (97 : Int32) ∧ ¬ (122 : Int32) < l0) then (1 : Int32) else (f1_12 l0)) := by
  unfold f1_0
  by_cases h0 : l0 < (97 : Int32) <;> by_cases h1 : (122 : Int32) < l0 <;> simp [h0, h1]
theorem own_p1_f1_12 (l0 : Int32) : f1_12 l0 = (if (¬ l0 < (65 : Int32) ∧ ¬ (90 : Int32) < l0) then (1 : Int32) else (f1_24 l0)) := by
  unfold f1_12
  by_cases h0 : l0 < (65 : Int32) <;> by_cases h1 : (90 : Int32) < l0 <;> simp [h0, h1]
theorem own_p1_f1_24 (l0 : Int32) : f1_24 l0 = (if l0 = (95 : Int32) then (1 : Int32) else (if (¬ l0 < (192 : Int32) ∧ ¬ (214 : Int32) < l0) then (1 : Int32) else (f1_44 l0))) := by
  unfold f1_24
  by_cases h0 : l0 = (95 : Int32) <;> by_cases h1 : l0 < (192 : Int32) <;> by_cases h2 : (214 : Int32) < l0 <;> simp [h0, h1, h2]
theorem own_p1_f1_44 (l0 : Int32) : f1_44 l0 = (if (¬ l0 < (216 : Int32) ∧ ¬ (246 : Int32) < l0) then (1 : Int32) else (f1_58 l0)) := by
  unfold f1_44
  by_cases h0 : l0 < (216 : Int32) <;> by_cases h1 : (246 : Int32) < l0 <;> simp [h0, h1]
theorem own_p1_f1_58 (l0 : Int32) : f1_58 l0 = (if (¬ l0 < (248 : Int32) ∧ ¬ (767 : Int32) < l0) then (1 : Int32) else (f1_72 l0)) := by
  unfold f1_58
  by_cases h0 : l0 < (248 : Int32) <;> by_cases h1 : (767 : Int32) < l0 <;> simp [h0, h1]
theorem own_p1_f1_72 (l0 : Int32) : f1_72 l0 = (if (¬ l0 < (880 : Int32) ∧ ¬ (893 : Int32) < l0) then (1 : Int32) else (f1_86 l0)) := by
  unfold f1_72
  by_cases h0 : l0 < (880 : Int32) <;> by_cases h1 : (893 : Int32) < l0 <;> simp [h0, h1]
theorem own_p1_f1_86 (l0 : Int32) : f1_86 l0 = (if (¬ l0 < (895 : Int32) ∧ ¬ (8191 : Int32) < l0) then (1 : Int32) else (f1_100 l0)) := by
  unfold f1_86
  by_cases h0 : l0 < (895 : Int32) <;> by_cases h1 : (8191 : Int32) < l0 <;> simp [h0, h1]
theorem own_p1_f1_100 (l0 : Int32) : f1_100 l0 = (if (¬ l0 < (8204 : Int32) ∧ ¬ (8205 : Int32) < l0) then (1 : Int32) else (f1_114 l0)) := by
  unfold f1_100
  by_cases h0 : l0 < (8204 : Int32) <;> by_cases h1 : (8205 : Int32) < l0 <;> simp [h0, h1]
theorem own_p1_f1_114 (l0 : Int32) : f1_114 l0 = (if (¬ l0 < (8304 : Int32) ∧ ¬ (8591 : Int32) < l0) then (1 : Int32) else (f1_128 l0)) := by
  unfold f1_114
  by_cases h0 : l0 < (8304 : Int32) <;> by_cases h1 : (8591 : Int32) < l0 <;> simp [h0, h1]
theorem own_p1_f1_128 (l0 : Int32) : f1_128 l0 = (if (¬ l0 < (11264 : Int32) ∧ ¬ (12271 : Int32) < l0) then (1 : Int32) else (f1_142 l0)) := by
  unfold f1_128
  by_cases h0 : l0 < (11264 : Int32) <;> by_cases h1 : (12271 : Int32) < l0 <;> simp [h0, h1]
theorem own_p1_f1_142 (l0 : Int32) : f1_142 l0 = (if (¬ l0 < (12289 : Int32) ∧ ¬ (55295 : Int32) < l0) then (1 : Int32) else (f1_155 l0)) := by
  unfold f1_142
  by_cases h0 : l0 < (12289 : Int32) <;> by_cases h1 : (55295 : Int32) < l0 <;> simp [h0, h1]
theorem own_p1_f1_155 (l0 : Int32) : f1_155 l0 = (if (¬ l0 < (63744 : Int32) ∧ ¬ (64975 : Int32) < l0) then (1 : Int32) else (f1_167 l0)) := by
  unfold f1_155
  by_cases h0 : l0 < (63744 : Int32) <;> by_cases h1 : (64975 : Int32) < l0 <;> simp [h0, h1]
theorem own_p1_f1_167 (l0 : Int32) : f1_167 l0 = (if (¬ l0 < (65008 : Int32) ∧ ¬ (65533 : Int32) < l0) then (1 : Int32) else (f1_179 l0)) := by
  unfold f1_167
  by_cases h0 : l0 < (65008 : Int32) <;> by_cases h1 : (65533 : Int32) < l0 <;> simp [h0, h1]
theorem own_p1_f1_179 (l0 : Int32) : f1_179 l0 = (if (¬ l0 < (65536 : Int32) ∧ ¬ (983039 : Int32) < l0) then (1 : Int32) else (0 : Int32)) := by
  unfold f1_179
  by_cases h0 : l0 < (65536 : Int32) <;> by_cases h1 : (983039 : Int32) < l0 <;> simp [h0, h1]
theorem own_p1 (l0 : Int32) : f1_0 l0 = if (¬ l0 < (97 : Int32) ∧ ¬ (122 : Int32) < l0) ∨ ((¬ l0 < (65 : Int32) ∧ ¬ (90 : Int32) < l0) ∨ (l0 = (95 : Int32) ∨ ((¬ l0 < (192 : Int32) ∧ ¬ (214 : Int32) < l0) ∨ ((¬ l0 < (216 : Int32) ∧ ¬ (246 : Int32) < l0) ∨ ((¬ l0 < (248 : Int32) ∧ ¬ (767 : Int32) < l0) ∨ ((¬ l0 < (880 : Int32) ∧ ¬ (893 : Int32) < l0) ∨ ((¬ l0 < (895 : Int32) ∧ ¬ (8191 : Int32) < l0) ∨ ((¬ l0 < (8204 : Int32) ∧ ¬ (8205 : Int32) < l0) ∨ ((¬ l0 < (8304 : Int32) ∧ ¬ (8591 : Int32) < l0) ∨ ((¬ l0 < (11264 : Int32) ∧ ¬ (12271 : Int32) < l0) ∨ ((¬ l0 < (12289 : Int32) ∧ ¬ (55295 : Int32) < l0) ∨ ((¬ l0 < (63744 : Int32) ∧ ¬ (64975 : Int32) < l0) ∨ ((¬ l0 < (65008 : Int32) ∧ ¬ (65533 : Int32) < l0) ∨ ((¬ l0 < (65536 : Int32) ∧ ¬ (983039 : Int32) < l0))))))))))))))) then (1 : Int32) else (0 : Int32) := by
  rw [own_p1_f1_0, own_p1_f1_12, own_p1_f1_24, own_p1_f1_44, own_p1_f1_58, own_p1_f1_72, own_p1_f1_86, own_p1_f1_100, own_p1_f1_114, own_p1_f1_128, own_p1_f1_142, own_p1_f1_155, own_p1_f1_167, own_p1_f1_179]
  simp only [own_or]
def own_R (a b : Int) : Prop := ∀ x : Int32, a ≤ x.toInt → x.toInt ≤ b → f1_0 x = 1
def own_G (a b : Int) : Prop := ∀ x : Int32, a < x.toInt → x.toInt < b → f1_0 x = 0
theorem own_R_65 : own_R 65 90 := by
  intro x h1 h2
  rw [own_p1, if_pos]
  simp only [Int32.lt_iff_toInt_lt, own_eqI x, Int32.reduceToInt]
  generalize x.toInt = i at h1 h2 ⊢
  omega
theorem own_R_95 : own_R 95 95 := by
  intro x h1 h2
  rw [own_p1, if_pos]
  simp only [Int32.lt_iff_toInt_lt, own_eqI x, Int32.reduceToInt]
  generalize x.toInt = i at h1 h2 ⊢
  omega
theorem own_R_97 : own_R 97 122 := by
  intro x h1 h2
  rw [own_p1, if_pos]
  simp only [Int32.lt_iff_toInt_lt, own_eqI x, Int32.reduceToInt]
  generalize x.toInt = i at h1 h2 ⊢
  omega
theorem own_R_192 : own_R 192 214 := by
  intro x h1 h2
  rw [own_p1, if_pos]
  simp only [Int32.lt_iff_toInt_lt, own_eqI x, Int32.reduceToInt]
  generalize x.toInt = i at h1 h2 ⊢
  omega
theorem own_R_216 : own_R 216 246 := by
  intro x h1 h2
  rw [own_p1, if_pos]
  simp only [Int32.lt_iff_toInt_lt, own_eqI x, Int32.reduceToInt]
  generalize x.toInt = i at h1 h2 ⊢
  omega
theorem own_R_248 : own_R 248 767 := by
  intro x h1 h2
  rw [own_p1, if_pos]
  simp only [Int32.lt_iff_toInt_lt, own_eqI x, Int32.reduceToInt]
  generalize x.toInt = i at h1 h2 ⊢
  omega
theorem own_R_880 : own_R 880 893 := by
  intro x h1 h2
  rw [own_p1, if_pos]
  simp only [Int32.lt_iff_toInt_lt, own_eqI x, Int32.reduceToInt]
  generalize x.toInt = i at h1 h2 ⊢
  omega
theorem own_R_895 : own_R 895 8191 := by
  intro x h1 h2
  rw [own_p1, if_pos]
  simp only [Int32.lt_iff_toInt_lt, own_eqI x, Int32.reduceToInt]
  generalize x.toInt = i at h1 h2 ⊢
  omega
theorem own_R_8204 : own_R 8204 8205 := by
  intro x h1 h2
  rw [own_p1, if_pos]
  simp only [Int32.lt_iff_toInt_lt, own_eqI x, Int32.reduceToInt]
  generalize x.toInt = i at h1 h2 ⊢
  omega
theorem own_R_8304 : own_R 8304 8591 := by
  intro x h1 h2
  rw [own_p1, if_pos]
  simp only [Int32.lt_iff_toInt_lt, own_eqI x, Int32.reduceToInt]
  generalize x.toInt = i at h1 h2 ⊢
  omega
theorem own_R_11264 : own_R 11264 12271 := by
  intro x h1 h2
  rw [own_p1, if_pos]
  simp only [Int32.lt_iff_toInt_lt, own_eqI x, Int32.reduceToInt]
  generalize x.toInt = i at h1 h2 ⊢
  omega
theorem own_R_12289 : own_R 12289 55295 := by
  intro x h1 h2
  rw [own_p1, if_pos]
  simp only [Int32.lt_iff_toInt_lt, own_eqI x, Int32.reduceToInt]
  generalize x.toInt = i at h1 h2 ⊢
  omega
theorem own_R_63744 : own_R 63744 64975 := by
  intro x h1 h2
  rw [own_p1, if_pos]
  simp only [Int32.lt_iff_toInt_lt, own_eqI x, Int32.reduceToInt]
  generalize x.toInt = i at h1 h2 ⊢
  omega
theorem own_R_65008 : own_R 65008 65533 := by
  intro x h1 h2
  rw [own_p1, if_pos]
  simp only [Int32.lt_iff_toInt_lt, own_eqI x, Int32.reduceToInt]
  generalize x.toInt = i at h1 h2 ⊢
  omega
theorem own_R_65536 : own_R 65536 983039 := by
  intro x h1 h2
  rw [own_p1, if_pos]
  simp only [Int32.lt_iff_toInt_lt, own_eqI x, Int32.reduceToInt]
  generalize x.toInt = i at h1 h2 ⊢
  omega
theorem own_G_91 : own_G 90 95 := by
  intro x h1 h2
  rw [own_p1, if_neg]
  simp only [Int32.lt_iff_toInt_lt, own_eqI x, Int32.reduceToInt]
  generalize x.toInt = i at h1 h2 ⊢
  omega
theorem own_G_96 : own_G 95 97 := by
  intro x h1 h2
  rw [own_p1, if_neg]
  simp only [Int32.lt_iff_toInt_lt, own_eqI x, Int32.reduceToInt]
  generalize x.toInt = i at h1 h2 ⊢
  omega
theorem own_G_123 : own_G 122 192 := by
  intro x h1 h2
  rw [own_p1, if_neg]
  simp only [Int32.lt_iff_toInt_lt, own_eqI x, Int32.reduceToInt]
  generalize x.toInt = i at h1 h2 ⊢
  omega
theorem own_G_215 : own_G 214 216 := by
  intro x h1 h2
  rw [own_p1, if_neg]
  simp only [Int32.lt_iff_toInt_lt, own_eqI x, Int32.reduceToInt]
  generalize x.toInt = i at h1 h2 ⊢
  omega
theorem own_G_247 : own_G 246 248 := by
  intro x h1 h2
  rw [own_p1, if_neg]
  simp only [Int32.lt_iff_toInt_lt, own_eqI x, Int32.reduceToInt]
  generalize x.toInt = i at h1 h2 ⊢
  omega
theorem own_G_768 : own_G 767 880 := by
  intro x h1 h2
  rw [own_p1, if_neg]
  simp only [Int32.lt_iff_toInt_lt, own_eqI x, Int32.reduceToInt]
  generalize x.toInt = i at h1 h2 ⊢
  omega
theorem own_G_894 : own_G 893 895 := by
  intro x h1 h2
  rw [own_p1, if_neg]
  simp only [Int32.lt_iff_toInt_lt, own_eqI x, Int32.reduceToInt]
  generalize x.toInt = i at h1 h2 ⊢
  omega
theorem own_G_8192 : own_G 8191 8204 := by
  intro x h1 h2
  rw [own_p1, if_neg]
  simp only [Int32.lt_iff_toInt_lt, own_eqI x, Int32.reduceToInt]
  generalize x.toInt = i at h1 h2 ⊢
  omega
theorem own_G_8206 : own_G 8205 8304 := by
  intro x h1 h2
  rw [own_p1, if_neg]
  simp only [Int32.lt_iff_toInt_lt, own_eqI x, Int32.reduceToInt]
  generalize x.toInt = i at h1 h2 ⊢
  omega
theorem own_G_8592 : own_G 8591 11264 := by
  intro x h1 h2
  rw [own_p1, if_neg]
  simp only [Int32.lt_iff_toInt_lt, own_eqI x, Int32.reduceToInt]
  generalize x.toInt = i at h1 h2 ⊢
  omega
theorem own_G_12272 : own_G 12271 12289 := by
  intro x h1 h2
  rw [own_p1, if_neg]
  simp only [Int32.lt_iff_toInt_lt, own_eqI x, Int32.reduceToInt]
  generalize x.toInt = i at h1 h2 ⊢
  omega
theorem own_G_55296 : own_G 55295 63744 := by
  intro x h1 h2
  rw [own_p1, if_neg]
  simp only [Int32.lt_iff_toInt_lt, own_eqI x, Int32.reduceToInt]
  generalize x.toInt = i at h1 h2 ⊢
  omega
theorem own_G_64976 : own_G 64975 65008 := by
  intro x h1 h2
  rw [own_p1, if_neg]
  simp only [Int32.lt_iff_toInt_lt, own_eqI x, Int32.reduceToInt]
  generalize x.toInt = i at h1 h2 ⊢
  omega
theorem own_G_65534 : own_G 65533 65536 := by
  intro x h1 h2
  rw [own_p1, if_neg]
  simp only [Int32.lt_iff_toInt_lt, own_eqI x, Int32.reduceToInt]
  generalize x.toInt = i at h1 h2 ⊢
  omega
theorem own_lo (l0 : Int32) (h1 : l0 < (65 : Int32) ∨ (983039 : Int32) < l0) : f1_0 l0 = 0 := by
  rw [own_p1, if_neg]
  simp only [Int32.lt_iff_toInt_lt, own_eqI l0, Int32.reduceToInt] at h1 ⊢
  generalize l0.toInt = i at h1 ⊢
  omega
theorem own_tab (i : Nat) (hi : i < 15) : ∃ lo up : Int32, (List.map Value.int [(65 : Int32), (95 : Int32), (97 : Int32), (192 : Int32), (216 : Int32), (248 : Int32), (880 : Int32), (895 : Int32), (8204 : Int32), (8304 : Int32), (11264 : Int32), (12289 : Int32), (63744 : Int32), (65008 : Int32), (65536 : Int32)])[i]? = some (.int lo) ∧ (List.map Value.int [(90 : Int32), (95 : Int32), (122 : Int32), (214 : Int32), (246 : Int32), (767 : Int32), (893 : Int32), (8191 : Int32), (8205 : Int32), (8591 : Int32), (12271 : Int32), (55295 : Int32), (64975 : Int32), (65533 : Int32), (983039 : Int32)])[i]? = some (.int up) ∧ 65 ≤ lo.toInt ∧ lo.toInt ≤ up.toInt ∧ up.toInt ≤ 983039 ∧ (∀ x : Int32, lo.toInt ≤ x.toInt → x.toInt ≤ up.toInt → f1_0 x = 1) ∧ f1_0 (lo - (1 : Int32)) = 0 ∧ f1_0 (up + (1 : Int32)) = 0 ∧
    (i < 14 → ∃ lo2 : Int32, (List.map Value.int [(65 : Int32), (95 : Int32), (97 : Int32), (192 : Int32), (216 : Int32), (248 : Int32), (880 : Int32), (895 : Int32), (8204 : Int32), (8304 : Int32), (11264 : Int32), (12289 : Int32), (63744 : Int32), (65008 : Int32), (65536 : Int32)])[i + 1]? = some (.int lo2) ∧ up.toInt + 1 < lo2.toInt ∧ lo2.toInt ≤ 983039 ∧ ∀ x : Int32, up.toInt < x.toInt → x.toInt < lo2.toInt → f1_0 x = 0) := by
  match i, hi with
  | 0, _ => exact ⟨(65 : Int32), (90 : Int32), rfl, rfl, by decide, by decide, by decide, fun x h1 h2 => own_R_65 x h1 h2, by decide +kernel, by decide +kernel, fun q => ⟨(95 : Int32), rfl, by decide, by decide, fun x h1 h2 => own_G_91 x h1 h2⟩⟩
  | 1, _ => exact ⟨(95 : Int32), (95 : Int32), rfl, rfl, by decide, by decide, by decide, fun x h1 h2 => own_R_95 x h1 h2, by decide +kernel, by decide +kernel, fun q => ⟨(97 : Int32), rfl, by decide, by decide, fun x h1 h2 => own_G_96 x h1 h2⟩⟩
  | 2, _ => exact ⟨(97 : Int32), (122 : Int32), rfl, rfl, by decide, by decide, by decide, fun x h1 h2 => own_R_97 x h1 h2, by decide +kernel, by decide +kernel, fun q => ⟨(192 : Int32), rfl, by decide, by decide, fun x h1 h2 => own_G_123 x h1 h2⟩⟩
  | 3, _ => exact ⟨(192 : Int32), (214 : Int32), rfl, rfl, by decide, by decide, by decide, fun x h1 h2 => own_R_192 x h1 h2, by decide +kernel, by decide +kernel, fun q => ⟨(216 : Int32), rfl, by decide, by decide, fun x h1 h2 => own_G_215 x h1 h2⟩⟩
  | 4, _ => exact ⟨(216 : Int32), (246 : Int32), rfl, rfl, by decide, by decide, by decide, fun x h1 h2 => own_R_216 x h1 h2, by decide +kernel, by decide +kernel, fun q => ⟨(248 : Int32), rfl, by decide, by decide, fun x h1 h2 => own_G_247 x h1 h2⟩⟩
  | 5, _ => exact ⟨(248 : Int32), (767 : Int32), rfl, rfl, by decide, by decide, by decide, fun x h1 h2 => own_R_248 x h1 h2, by decide +kernel, by decide +kernel, fun q => ⟨(880 : Int32), rfl, by decide, by decide, fun x h1 h2 => own_G_768 x h1 h2⟩⟩
  | 6, _ => exact ⟨(880 : Int32), (893 : Int32), rfl, rfl, by decide, by decide, by decide, fun x h1 h2 => own_R_880 x h1 h2, by decide +kernel, by decide +kernel, fun q => ⟨(895 : Int32), rfl, by decide, by decide, fun x h1 h2 => own_G_894 x h1 h2⟩⟩
  | 7, _ => exact ⟨(895 : Int32), (8191 : Int32), rfl, rfl, by decide, by decide, by decide, fun x h1 h2 => own_R_895 x h1 h2, by decide +kernel, by decide +kernel, fun q => ⟨(8204 : Int32), rfl, by decide, by decide, fun x h1 h2 => own_G_8192 x h1 h2⟩⟩
  | 8, _ => exact ⟨(8204 : Int32), (8205 : Int32), rfl, rfl, by decide, by decide, by decide, fun x h1 h2 => own_R_8204 x h1 h2, by decide +kernel, by decide +kernel, fun q => ⟨(8304 : Int32), rfl, by decide, by decide, fun x h1 h2 => own_G_8206 x h1 h2⟩⟩
  | 9, _ => exact ⟨(8304 : Int32), (8591 : Int32), rfl, rfl, by decide, by decide, by decide, fun x h1 h2 => own_R_8304 x h1 h2, by decide +kernel, by decide +kernel, fun q => ⟨(11264 : Int32), rfl, by decide, by decide, fun x h1 h2 => own_G_8592 x h1 h2⟩⟩
  | 10, _ => exact ⟨(11264 : Int32), (12271 : Int32), rfl, rfl, by decide, by decide, by decide, fun x h1 h2 => own_R_11264 x h1 h2, by decide +kernel, by decide +kernel, fun q => ⟨(12289 : Int32), rfl, by decide, by decide, fun x h1 h2 => own_G_12272 x h1 h2⟩⟩
  | 11, _ => exact ⟨(12289 : Int32), (55295 : Int32), rfl, rfl, by decide, by decide, by decide, fun x h1 h2 => own_R_12289 x h1 h2, by decide +kernel, by decide +kernel, fun q => ⟨(63744 : Int32), rfl, by decide, by decide, fun x h1 h2 => own_G_55296 x h1 h2⟩⟩
  | 12, _ => exact ⟨(63744 : Int32), (64975 : Int32), rfl, rfl, by decide, by decide, by decide, fun x h1 h2 => own_R_63744 x h1 h2, by decide +kernel, by decide +kernel, fun q => ⟨(65008 : Int32), rfl, by decide, by decide, fun x h1 h2 => own_G_64976 x h1 h2⟩⟩
  | 13, _ => exact ⟨(65008 : Int32), (65533 : Int32), rfl, rfl, by decide, by decide, by decide, fun x h1 h2 => own_R_65008 x h1 h2, by decide +kernel, by decide +kernel, fun q => ⟨(65536 : Int32), rfl, by decide, by decide, fun x h1 h2 => own_G_65534 x h1 h2⟩⟩
  | 14, _ => exact ⟨(65536 : Int32), (983039 : Int32), rfl, rfl, by decide, by decide, by decide, fun x h1 h2 => own_R_65536 x h1 h2, by decide +kernel, by decide +kernel, fun q => absurd q (by decide)⟩
theorem own_inside (lo up z : Int32) (h0 : 0 ≤ lo.toInt) (h1 : lo.toInt ≤ up.toInt) (h2 : up.toInt ≤ 2000000) : ((up - lo) + (1 : Int32)) ≠ 0 ∧ lo.toInt ≤ (lo + ((z &&& (2147483647 : Int32)) % ((up - lo) + (1 : Int32)))).toInt ∧ (lo + ((z &&& (2147483647 : Int32)) % ((up - lo) + (1 : Int32)))).toInt ≤ up.toInt := by
  have e1 : (1 : Int32).toInt = 1 := by decide
  have d1 : (up - lo).toInt = up.toInt - lo.toInt := Jvm.Kit.i32_sub (by omega) (by omega)
  have d2 : ((up - lo) + (1 : Int32)).toInt = up.toInt - lo.toInt + 1 := by rw [Jvm.Kit.i32_add (by omega) (by omega), d1, e1]
  have d3 := own_rem (own_mask31 z) d2 (by omega)
  refine ⟨fun q => ?_, ?_⟩
  · rw [q] at d2
    have e0 : (0 : Int32).toInt = 0 := rfl
    omega
  · rw [Jvm.Kit.i32_add (by omega) (by omega)]
    omega
theorem pn_0 : plainName "com/example/hornbeam/hornbeam/model/XmlCharactersIsNCNameStartPinLaw" = true := by first | (simp [plainName, overriddenIn]; done) | decide +kernel
theorem ef_0 (m : MethodId) (x0 : Int32) (x1 : Int32) (x2 : Int32) (x3 : Int32) : entryFrame m #[(.int x0), (.int x1), (.int x2), (.int x3)] maxLocals = mkF m 0 #[.val (.int x0), .val (.int x1), .val (.int x2), .val (.int x3), .unset, .unset, .unset, .unset, .unset, .unset, .unset, .unset, .unset, .unset] [] := by first | (simp [entryFrame, mkF, argsToLocals, Value.category, maxLocals]; done) | rfl
def Q0 (n0 : Nat) (v : Option Value) (h : Heap) (L : List Loc) : Prop := v = some (.int (1 : Int32)) ∧ Fr n0 L
set_option maxRecDepth 65536 in
set_option maxHeartbeats 400000000 in
theorem rm0 (l : Launch) (Z : State) (a0 : Array Value) (hw : ∀ d ∈ tables_1, d.before a0 Z = true) (ws : List Jvm.Cond) (x0 : Int32) (x1 : Int32) (x2 : Int32) (x3 : Int32) (h0 : Heap) (n0 : Nat) (Z0 : n0 ≤ h0.size) :
    MetFree l x (head1 (Jvm.Cond.code x code maxLocals ret :: ws) room_1) (fun a U => a = #[(.int x0), (.int x1), (.int x2), (.int x3)] ∧ Z.Warmed39 U.vm ∧ U.heap = h0) (fun _ _ _ _ _ => True) (fun _ U o U' => ∃ v L, o = .returned v ∧ Q0 n0 v U'.heap L ∧ FrameEnd U o U' L 16 128) := by
  refine MetFree.of_bodySF (plainFor_of_name pn_0) hisR ?_
  intro p e s m args below meth c s₁ Bd hml0 hP hK
  obtain ⟨rfl, hZ, hh⟩ := hP
  have hx := Bd.exec
  have hby := Bd.bytes
  have hml : c.maxLocals = 14 := hml0
  have hown : s.vm.findClass "com/example/hornbeam/hornbeam/model/XmlCharactersIsNCNameStartPinLaw" = some m.cls := findClass_of_methodNamed Bd.named
  have hret : meth.sig.returnType = some .boolean := Bd.returns
  have hlk := BodyLoose.notSynchronized Bd
  have X0 : Stand p l e room_1 s m #[(.int x0), (.int x1), (.int x2), (.int x3)] below meth c s₁ [] 0 0 := Stand.of_body Bd
  have e0 : s₁.heap = h0 := by rw [← hh, Bd.state]; rfl
  have N0 := Fr.nil n0
  show own_End p e below s (Q0 n0) 16 128 (s₁.setTop (entryFrame m #[(.int x0), (.int x1), (.int x2), (.int x3)] maxLocals))
  refine own_cast (ef_0 m x0 x1 x2 x3) ?_
  refine own_go (S' := (s₁.setTop (mkF m 2 #[.val (.int x0), .val (.int x1), .val (.int x2), .val (.int x3), .unset, .unset, .unset, .unset, .unset, .unset, .unset, .unset, .unset, .unset] [(.int (15 : Int32))]))) (fun t k => XT.bipushV X0.here hx rfl (15 : Int32) (hb hby at_0) (by decide) k) ?_
  obtain ⟨T1, h1, b1, X1, e1, E1, g1, A1, st1⟩ := own_newL (nn := (15 : Int32)) (len := 15) (Ls := #[.val (.int x0), .val (.int x1), .val (.int x2), .val (.int x3), .unset, .unset, .unset, .unset, .unset, .unset, .unset, .unset, .unset, .unset]) (rest := []) X0 hx hZ (hw _ (List.mem_of_getElem? (i := 0) rfl)) e0 (hb hby at_2) (by decide) (by decide) (cap := 15) (by decide) (by decide) (by decide) (by decide)
  have gn1 : n0 ≤ b1 := g1 ▸ Z0
  have sz1 : n0 ≤ h1.size := Nat.le_trans Z0 E1.1
  replace A1 := A1.eq (vs' := [(.int (0 : Int32)), (.int (0 : Int32)), (.int (0 : Int32)), (.int (0 : Int32)), (.int (0 : Int32)), (.int (0 : Int32)), (.int (0 : Int32)), (.int (0 : Int32)), (.int (0 : Int32)), (.int (0 : Int32)), (.int (0 : Int32)), (.int (0 : Int32)), (.int (0 : Int32)), (.int (0 : Int32)), (.int (0 : Int32))]) rfl
  refine own_go (S' := (T1.setTop (mkF m 4 #[.val (.int x0), .val (.int x1), .val (.int x2), .val (.int x3), .unset, .unset, .unset, .unset, .unset, .unset, .unset, .unset, .unset, .unset] [(.ref b1)]))) st1 ?_
  refine own_go (S' := (T1.setTop (mkF m 5 #[.val (.int x0), .val (.int x1), .val (.int x2), .val (.int x3), .unset, .unset, .unset, .unset, .unset, .unset, .unset, .unset, .unset, .unset] [(.ref b1), (.ref b1)]))) (fun t k => XS.dup X1.here hx rfl (hb hby at_4) rfl rfl k) ?_
  refine own_go (S' := (T1.setTop (mkF m 6 #[.val (.int x0), .val (.int x1), .val (.int x2), .val (.int x3), .unset, .unset, .unset, .unset, .unset, .unset, .unset, .unset, .unset, .unset] [(.int (0 : Int32)), (.ref b1), (.ref b1)]))) (fun t k => XT.iconstV X1.here hx rfl (0 : Int32) (hb hby at_5) (by decide) k) ?_
  refine own_go (S' := (T1.setTop (mkF m 8 #[.val (.int x0), .val (.int x1), .val (.int x2), .val (.int x3), .unset, .unset, .unset, .unset, .unset, .unset, .unset, .unset, .unset, .unset] [(.int (65 : Int32)), (.int (0 : Int32)), (.ref b1), (.ref b1)]))) (fun t k => XT.bipushV X1.here hx rfl (65 : Int32) (hb hby at_6) (by decide) k) ?_
  obtain ⟨T2, h2, X2, e2, W2, B2, st2⟩ := own_iastore (j := (0 : Int32)) (x := (65 : Int32)) (Ls := #[.val (.int x0), .val (.int x1), .val (.int x2), .val (.int x3), .unset, .unset, .unset, .unset, .unset, .unset, .unset, .unset, .unset, .unset]) (rest := [(.ref b1)]) A1 X1 hx hZ e1 (by decide) (i := 0) (by decide) (Nat.le_of_ble_eq_true rfl) (hb hby at_8)
  replace A1 := B2.eq (vs' := [(.int (65 : Int32)), (.int (0 : Int32)), (.int (0 : Int32)), (.int (0 : Int32)), (.int (0 : Int32)), (.int (0 : Int32)), (.int (0 : Int32)), (.int (0 : Int32)), (.int (0 : Int32)), (.int (0 : Int32)), (.int (0 : Int32)), (.int (0 : Int32)), (.int (0 : Int32)), (.int (0 : Int32)), (.int (0 : Int32))]) rfl
  have N2 := Fr.snoc X2 N0 gn1
  have sz2 : n0 ≤ h2.size := W2.size ▸ sz1
  refine own_go (S' := (T2.setTop (mkF m 9 #[.val (.int x0), .val (.int x1), .val (.int x2), .val (.int x3), .unset, .unset, .unset, .unset, .unset, .unset, .unset, .unset, .unset, .unset] [(.ref b1)]))) st2 ?_
  refine own_go (S' := (T2.setTop (mkF m 10 #[.val (.int x0), .val (.int x1), .val (.int x2), .val (.int x3), .unset, .unset, .unset, .unset, .unset, .unset, .unset, .unset, .unset, .unset] [(.ref b1), (.ref b1)]))) (fun t k => XS.dup X2.here hx rfl (hb hby at_9) rfl rfl k) ?_
  refine own_go (S' := (T2.setTop (mkF m 11 #[.val (.int x0), .val (.int x1), .val (.int x2), .val (.int x3), .unset, .unset, .unset, .unset, .unset, .unset, .unset, .unset, .unset, .unset] [(.int (1 : Int32)), (.ref b1), (.ref b1)]))) (fun t k => XT.iconstV X2.here hx rfl (1 : Int32) (hb hby at_10) (by decide) k) ?_
  refine own_go (S' := (T2.setTop (mkF m 13 #[.val (.int x0), .val (.int x1), .val (.int x2), .val (.int x3), .unset, .unset, .unset, .unset, .unset, .unset, .unset, .unset, .unset, .unset] [(.int (95 : Int32)), (.int (1 : Int32)), (.ref b1), (.ref b1)]))) (fun t k => XT.bipushV X2.here hx rfl (95 : Int32) (hb hby at_11) (by decide) k) ?_
  obtain ⟨T3, h3, X3, e3, W3, B3, st3⟩ := own_iastore (j := (1 : Int32)) (x := (95 : Int32)) (Ls := #[.val (.int x0), .val (.int x1), .val (.int x2), .val (.int x3), .unset, .unset, .unset, .unset, .unset, .unset, .unset, .unset, .unset, .unset]) (rest := [(.ref b1)]) A1 X2 hx hZ e2 (by decide) (i := 1) (by decide) (Nat.le_of_ble_eq_true rfl) (hb hby at_13)
  replace A1 := B3.eq (vs' := [(.int (65 : Int32)), (.int (95 : Int32)), (.int (0 : Int32)), (.int (0 : Int32)), (.int (0 : Int32)), (.int (0 : Int32)), (.int (0 : Int32)), (.int (0 : Int32)), (.int (0 : Int32)), (.int (0 : Int32)), (.int (0 : Int32)), (.int (0 : Int32)), (.int (0 : Int32)), (.int (0 : Int32)), (.int (0 : Int32))]) rfl
  have N3 := Fr.snoc X3 N2 gn1
  have sz3 : n0 ≤ h3.size := W3.size ▸ sz2
  refine own_go (S' := (T3.setTop (mkF m 14 #[.val (.int x0), .val (.int x1), .val (.int x2), .val (.int x3), .unset, .unset, .unset, .unset, .unset, .unset, .unset, .unset, .unset, .unset] [(.ref b1)]))) st3 ?_
  refine own_go (S' := (T3.setTop (mkF m 15 #[.val (.int x0), .val (.int x1), .val (.int x2), .val (.int x3), .unset, .unset, .unset, .unset, .unset, .unset, .unset, .unset, .unset, .unset] [(.ref b1), (.ref b1)]))) (fun t k => XS.dup X3.here hx rfl (hb hby at_14) rfl rfl k) ?_
  refine own_go (S' := (T3.setTop (mkF m 16 #[.val (.int x0), .val (.int x1), .val (.int x2), .val (.int x3), .unset, .unset, .unset, .unset, .unset, .unset, .unset, .unset, .unset, .unset] [(.int (2 : Int32)), (.ref b1), (.ref b1)]))) (fun t k => XT.iconstV X3.here hx rfl (2 : Int32) (hb hby at_15) (by decide) k) ?_
  refine own_go (S' := (T3.setTop (mkF m 18 #[.val (.int x0), .val (.int x1), .val (.int x2), .val (.int x3), .unset, .unset, .unset, .unset, .unset, .unset, .unset, .unset, .unset, .unset] [(.int (97 : Int32)), (.int (2 : Int32)), (.ref b1), (.ref b1)]))) (fun t k => XT.bipushV X3.here hx rfl (97 : Int32) (hb hby at_16) (by decide) k) ?_
  obtain ⟨T4, h4, X4, e4, W4, B4, st4⟩ := own_iastore (j := (2 : Int32)) (x := (97 : Int32)) (Ls := #[.val (.int x0), .val (.int x1), .val (.int x2), .val (.int x3), .unset, .unset, .unset, .unset, .unset, .unset, .unset, .unset, .unset, .unset]) (rest := [(.ref b1)]) A1 X3 hx hZ e3 (by decide) (i := 2) (by decide) (Nat.le_of_ble_eq_true rfl) (hb hby at_18)
  replace A1 := B4.eq (vs' := [(.int (65 : Int32)), (.int (95 : Int32)), (.int (97 : Int32)), (.int (0 : Int32)), (.int (0 : Int32)), (.int (0 : Int32)), (.int (0 : Int32)), (.int (0 : Int32)), (.int (0 : Int32)), (.int (0 : Int32)), (.int (0 : Int32)), (.int (0 : Int32)), (.int (0 : Int32)), (.int (0 : Int32)), (.int (0 : Int32))]) rfl
  have N4 := Fr.snoc X4 N3 gn1
  have sz4 : n0 ≤ h4.size := W4.size ▸ sz3
  refine own_go (S' := (T4.setTop (mkF m 19 #[.val (.int x0), .val (.int x1), .val (.int x2), .val (.int x3), .unset, .unset, .unset, .unset, .unset, .unset, .unset, .unset, .unset, .unset] [(.ref b1)]))) st4 ?_
  refine own_go (S' := (T4.setTop (mkF m 20 #[.val (.int x0), .val (.int x1), .val (.int x2), .val (.int x3), .unset, .unset, .unset, .unset, .unset, .unset, .unset, .unset, .unset, .unset] [(.ref b1), (.ref b1)]))) (fun t k => XS.dup X4.here hx rfl (hb hby at_19) rfl rfl k) ?_
  refine own_go (S' := (T4.setTop (mkF m 21 #[.val (.int x0), .val (.int x1), .val (.int x2), .val (.int x3), .unset, .unset, .unset, .unset, .unset, .unset, .unset, .unset, .unset, .unset] [(.int (3 : Int32)), (.ref b1), (.ref b1)]))) (fun t k => XT.iconstV X4.here hx rfl (3 : Int32) (hb hby at_20) (by decide) k) ?_
  refine own_go (S' := (T4.setTop (mkF m 24 #[.val (.int x0), .val (.int x1), .val (.int x2), .val (.int x3), .unset, .unset, .unset, .unset, .unset, .unset, .unset, .unset, .unset, .unset] [(.int (192 : Int32)), (.int (3 : Int32)), (.ref b1), (.ref b1)]))) (fun t k => XT.sipushV X4.here hx rfl (192 : Int32) (hb hby at_21) (by decide) k) ?_
  obtain ⟨T5, h5, X5, e5, W5, B5, st5⟩ := own_iastore (j := (3 : Int32)) (x := (192 : Int32)) (Ls := #[.val (.int x0), .val (.int x1), .val (.int x2), .val (.int x3), .unset, .unset, .unset, .unset, .unset, .unset, .unset, .unset, .unset, .unset]) (rest := [(.ref b1)]) A1 X4 hx hZ e4 (by decide) (i := 3) (by decide) (Nat.le_of_ble_eq_true rfl) (hb hby at_24)
  replace A1 := B5.eq (vs' := [(.int (65 : Int32)), (.int (95 : Int32)), (.int (97 : Int32)), (.int (192 : Int32)), (.int (0 : Int32)), (.int (0 : Int32)), (.int (0 : Int32)), (.int (0 : Int32)), (.int (0 : Int32)), (.int (0 : Int32)), (.int (0 : Int32)), (.int (0 : Int32)), (.int (0 : Int32)), (.int (0 : Int32)), (.int (0 : Int32))]) rfl
  have N5 := Fr.snoc X5 N4 gn1
  have sz5 : n0 ≤ h5.size := W5.size ▸ sz4
  refine own_go (S' := (T5.setTop (mkF m 25 #[.val (.int x0), .val (.int x1), .val (.int x2), .val (.int x3), .unset, .unset, .unset, .unset, .unset, .unset, .unset, .unset, .unset, .unset] [(.ref b1)]))) st5 ?_
  refine own_go (S' := (T5.setTop (mkF m 26 #[.val (.int x0), .val (.int x1), .val (.int x2), .val (.int x3), .unset, .unset, .unset, .unset, .unset, .unset, .unset, .unset, .unset, .unset] [(.ref b1), (.ref b1)]))) (fun t k => XS.dup X5.here hx rfl (hb hby at_25) rfl rfl k) ?_
  refine own_go (S' := (T5.setTop (mkF m 27 #[.val (.int x0), .val (.int x1), .val (.int x2), .val (.int x3), .unset, .unset, .unset, .unset, .unset, .unset, .unset, .unset, .unset, .unset] [(.int (4 : Int32)), (.ref b1), (.ref b1)]))) (fun t k => XT.iconstV X5.here hx rfl (4 : Int32) (hb hby at_26) (by decide) k) ?_
  refine own_go (S' := (T5.setTop (mkF m 30 #[.val (.int x0), .val (.int x1), .val (.int x2), .val (.int x3), .unset, .unset, .unset, .unset, .unset, .unset, .unset, .unset, .unset, .unset] [(.int (216 : Int32)), (.int (4 : Int32)), (.ref b1), (.ref b1)]))) (fun t k => XT.sipushV X5.here hx rfl (216 : Int32) (hb hby at_27) (by decide) k) ?_
  obtain ⟨T6, h6, X6, e6, W6, B6, st6⟩ := own_iastore (j := (4 : Int32)) (x := (216 : Int32)) (Ls := #[.val (.int x0), .val (.int x1), .val (.int x2), .val (.int x3), .unset, .unset, .unset, .unset, .unset, .unset, .unset, .unset, .unset, .unset]) (rest := [(.ref b1)]) A1 X5 hx hZ e5 (by decide) (i := 4) (by decide) (Nat.le_of_ble_eq_true rfl) (hb hby at_30)
  replace A1 := B6.eq (vs' := [(.int (65 : Int32)), (.int (95 : Int32)), (.int (97 : Int32)), (.int (192 : Int32)), (.int (216 : Int32)), (.int (0 : Int32)), (.int (0 : Int32)), (.int (0 : Int32)), (.int (0 : Int32)), (.int (0 : Int32)), (.int (0 : Int32)), (.int (0 : Int32)), (.int (0 : Int32)), (.int (0 : Int32)), (.int (0 : Int32))]) rfl
  have N6 := Fr.snoc X6 N5 gn1
  have sz6 : n0 ≤ h6.size := W6.size ▸ sz5
  refine own_go (S' := (T6.setTop (mkF m 31 #[.val (.int x0), .val (.int x1), .val (.int x2), .val (.int x3), .unset, .unset, .unset, .unset, .unset, .unset, .unset, .unset, .unset, .unset] [(.ref b1)]))) st6 ?_
  refine own_go (S' := (T6.setTop (mkF m 32 #[.val (.int x0), .val (.int x1), .val (.int x2), .val (.int x3), .unset, .unset, .unset, .unset, .unset, .unset, .unset, .unset, .unset, .unset] [(.ref b1), (.ref b1)]))) (fun t k => XS.dup X6.here hx rfl (hb hby at_31) rfl rfl k) ?_
  refine own_go (S' := (T6.setTop (mkF m 33 #[.val (.int x0), .val (.int x1), .val (.int x2), .val (.int x3), .unset, .unset, .unset, .unset, .unset, .unset, .unset, .unset, .unset, .unset] [(.int (5 : Int32)), (.ref b1), (.ref b1)]))) (fun t k => XT.iconstV X6.here hx rfl (5 : Int32) (hb hby at_32) (by decide) k) ?_
  refine own_go (S' := (T6.setTop (mkF m 36 #[.val (.int x0), .val (.int x1), .val (.int x2), .val (.int x3), .unset, .unset, .unset, .unset, .unset, .unset, .unset, .unset, .unset, .unset] [(.int (248 : Int32)), (.int (5 : Int32)), (.ref b1), (.ref b1)]))) (fun t k => XT.sipushV X6.here hx rfl (248 : Int32) (hb hby at_33) (by decide) k) ?_
  obtain ⟨T7, h7, X7, e7, W7, B7, st7⟩ := own_iastore (j := (5 : Int32)) (x := (248 : Int32)) (Ls := #[.val (.int x0), .val (.int x1), .val (.int x2), .val (.int x3), .unset, .unset, .unset, .unset, .unset, .unset, .unset, .unset, .unset, .unset]) (rest := [(.ref b1)]) A1 X6 hx hZ e6 (by decide) (i := 5) (by decide) (Nat.le_of_ble_eq_true rfl) (hb hby at_36)
  replace A1 := B7.eq (vs' := [(.int (65 : Int32)), (.int (95 : Int32)), (.int (97 : Int32)), (.int (192 : Int32)), (.int (216 : Int32)), (.int (248 : Int32)), (.int (0 : Int32)), (.int (0 : Int32)), (.int (0 : Int32)), (.int (0 : Int32)), (.int (0 : Int32)), (.int (0 : Int32)), (.int (0 : Int32)), (.int (0 : Int32)), (.int (0 : Int32))]) rfl
  have N7 := Fr.snoc X7 N6 gn1
  have sz7 : n0 ≤ h7.size := W7.size ▸ sz6
  refine own_go (S' := (T7.setTop (mkF m 37 #[.val (.int x0), .val (.int x1), .val (.int x2), .val (.int x3), .unset, .unset, .unset, .unset, .unset, .unset, .unset, .unset, .unset, .unset] [(.ref b1)]))) st7 ?_
  refine own_go (S' := (T7.setTop (mkF m 38 #[.val (.int x0), .val (.int x1), .val (.int x2), .val (.int x3), .unset, .unset, .unset, .unset, .unset, .unset, .unset, .unset, .unset, .unset] [(.ref b1), (.ref b1)]))) (fun t k => XS.dup X7.here hx rfl (hb hby at_37) rfl rfl k) ?_
  refine own_go (S' := (T7.setTop (mkF m 40 #[.val (.int x0), .val (.int x1), .val (.int x2), .val (.int x3), .unset, .unset, .unset, .unset, .unset, .unset, .unset, .unset, .unset, .unset] [(.int (6 : Int32)), (.ref b1), (.ref b1)]))) (fun t k => XT.bipushV X7.here hx rfl (6 : Int32) (hb hby at_38) (by decide) k) ?_
  refine own_go (S' := (T7.setTop (mkF m 43 #[.val (.int x0), .val (.int x1), .val (.int x2), .val (.int x3), .unset, .unset, .unset, .unset, .unset, .unset, .unset, .unset, .unset, .unset] [(.int (880 : Int32)), (.int (6 : Int32)), (.ref b1), (.ref b1)]))) (fun t k => XT.sipushV X7.here hx rfl (880 : Int32) (hb hby at_40) (by decide) k) ?_
  obtain ⟨T8, h8, X8, e8, W8, B8, st8⟩ := own_iastore (j := (6 : Int32)) (x := (880 : Int32)) (Ls := #[.val (.int x0), .val (.int x1), .val (.int x2), .val (.int x3), .unset, .unset, .unset, .unset, .unset, .unset, .unset, .unset, .unset, .unset]) (rest := [(.ref b1)]) A1 X7 hx hZ e7 (by decide) (i := 6) (by decide) (Nat.le_of_ble_eq_true rfl) (hb hby at_43)
  replace A1 := B8.eq (vs' := [(.int (65 : Int32)), (.int (95 : Int32)), (.int (97 : Int32)), (.int (192 : Int32)), (.int (216 : Int32)), (.int (248 : Int32)), (.int (880 : Int32)), (.int (0 : Int32)), (.int (0 : Int32)), (.int (0 : Int32)), (.int (0 : Int32)), (.int (0 : Int32)), (.int (0 : Int32)), (.int (0 : Int32)), (.int (0 : Int32))]) rfl
  have N8 := Fr.snoc X8 N7 gn1
  have sz8 : n0 ≤ h8.size := W8.size ▸ sz7
  refine own_go (S' := (T8.setTop (mkF m 44 #[.val (.int x0), .val (.int x1), .val (.int x2), .val (.int x3), .unset, .unset, .unset, .unset, .unset, .unset, .unset, .unset, .unset, .unset] [(.ref b1)]))) st8 ?_
  refine own_go (S' := (T8.setTop (mkF m 45 #[.val (.int x0), .val (.int x1), .val (.int x2), .val (.int x3), .unset, .unset, .unset, .unset, .unset, .unset, .unset, .unset, .unset, .unset] [(.ref b1), (.ref b1)]))) (fun t k => XS.dup X8.here hx rfl (hb hby at_44) rfl rfl k) ?_
  refine own_go (S' := (T8.setTop (mkF m 47 #[.val (.int x0), .val (.int x1), .val (.int x2), .val (.int x3), .unset, .unset, .unset, .unset, .unset, .unset, .unset, .unset, .unset, .unset] [(.int (7 : Int32)), (.ref b1), (.ref b1)]))) (fun t k => XT.bipushV X8.here hx rfl (7 : Int32) (hb hby at_45) (by decide) k) ?_
  refine own_go (S' := (T8.setTop (mkF m 50 #[.val (.int x0), .val (.int x1), .val (.int x2), .val (.int x3), .unset, .unset, .unset, .unset, .unset, .unset, .unset, .unset, .unset, .unset] [(.int (895 : Int32)), (.int (7 : Int32)), (.ref b1), (.ref b1)]))) (fun t k => XT.sipushV X8.here hx rfl (895 : Int32) (hb hby at_47) (by decide) k) ?_
  obtain ⟨T9, h9, X9, e9, W9, B9, st9⟩ := own_iastore (j := (7 : Int32)) (x := (895 : Int32)) (Ls := #[.val (.int x0), .val (.int x1), .val (.int x2), .val (.int x3), .unset, .unset, .unset, .unset, .unset, .unset, .unset, .unset, .unset, .unset]) (rest := [(.ref b1)]) A1 X8 hx hZ e8 (by decide) (i := 7) (by decide) (Nat.le_of_ble_eq_true rfl) (hb hby at_50)
  replace A1 := B9.eq (vs' := [(.int (65 : Int32)), (.int (95 : Int32)), (.int (97 : Int32)), (.int (192 : Int32)), (.int (216 : Int32)), (.int (248 : Int32)), (.int (880 : Int32)), (.int (895 : Int32)), (.int (0 : Int32)), (.int (0 : Int32)), (.int (0 : Int32)), (.int (0 : Int32)), (.int (0 : Int32)), (.int (0 : Int32)), (.int (0 : Int32))]) rfl
  have N9 := Fr.snoc X9 N8 gn1
  have sz9 : n0 ≤ h9.size := W9.size ▸ sz8
  refine own_go (S' := (T9.setTop (mkF m 51 #[.val (.int x0), .val (.int x1), .val (.int x2), .val (.int x3), .unset, .unset, .unset, .unset, .unset, .unset, .unset, .unset, .unset, .unset] [(.ref b1)]))) st9 ?_
  refine own_go (S' := (T9.setTop (mkF m 52 #[.val (.int x0), .val (.int x1), .val (.int x2), .val (.int x3), .unset, .unset, .unset, .unset, .unset, .unset, .unset, .unset, .unset, .unset] [(.ref b1), (.ref b1)]))) (fun t k => XS.dup X9.here hx rfl (hb hby at_51) rfl rfl k) ?_
  refine own_go (S' := (T9.setTop (mkF m 54 #[.val (.int x0), .val (.int x1), .val (.int x2), .val (.int x3), .unset, .unset, .unset, .unset, .unset, .unset, .unset, .unset, .unset, .unset] [(.int (8 : Int32)), (.ref b1), (.ref b1)]))) (fun t k => XT.bipushV X9.here hx rfl (8 : Int32) (hb hby at_52) (by decide) k) ?_
  refine own_go (S' := (T9.setTop (mkF m 57 #[.val (.int x0), .val (.int x1), .val (.int x2), .val (.int x3), .unset, .unset, .unset, .unset, .unset, .unset, .unset, .unset, .unset, .unset] [(.int (8204 : Int32)), (.int (8 : Int32)), (.ref b1), (.ref b1)]))) (fun t k => XT.sipushV X9.here hx rfl (8204 : Int32) (hb hby at_54) (by decide) k) ?_
  obtain ⟨T10, h10, X10, e10, W10, B10, st10⟩ := own_iastore (j := (8 : Int32)) (x := (8204 : Int32)) (Ls := #[.val (.int x0), .val (.int x1), .val (.int x2), .val (.int x3), .unset, .unset, .unset, .unset, .unset, .unset, .unset, .unset, .unset, .unset]) (rest := [(.ref b1)]) A1 X9 hx hZ e9 (by decide) (i := 8) (by decide) (Nat.le_of_ble_eq_true rfl) (hb hby at_57)
  replace A1 := B10.eq (vs' := [(.int (65 : Int32)), (.int (95 : Int32)), (.int (97 : Int32)), (.int (192 : Int32)), (.int (216 : Int32)), (.int (248 : Int32)), (.int (880 : Int32)), (.int (895 : Int32)), (.int (8204 : Int32)), (.int (0 : Int32)), (.int (0 : Int32)), (.int (0 : Int32)), (.int (0 : Int32)), (.int (0 : Int32)), (.int (0 : Int32))]) rfl
  have N10 := Fr.snoc X10 N9 gn1
  have sz10 : n0 ≤ h10.size := W10.size ▸ sz9
  refine own_go (S' := (T10.setTop (mkF m 58 #[.val (.int x0), .val (.int x1), .val (.int x2), .val (.int x3), .unset, .unset, .unset, .unset, .unset, .unset, .unset, .unset, .unset, .unset] [(.ref b1)]))) st10 ?_
  refine own_go (S' := (T10.setTop (mkF m 59 #[.val (.int x0), .val (.int x1), .val (.int x2), .val (.int x3), .unset, .unset, .unset, .unset, .unset, .unset, .unset, .unset, .unset, .unset] [(.ref b1), (.ref b1)]))) (fun t k => XS.dup X10.here hx rfl (hb hby at_58) rfl rfl k) ?_
  refine own_go (S' := (T10.setTop (mkF m 61 #[.val (.int x0), .val (.int x1), .val (.int x2), .val (.int x3), .unset, .unset, .unset, .unset, .unset, .unset, .unset, .unset, .unset, .unset] [(.int (9 : Int32)), (.ref b1), (.ref b1)]))) (fun t k => XT.bipushV X10.here hx rfl (9 : Int32) (hb hby at_59) (by decide) k) ?_
  refine own_go (S' := (T10.setTop (mkF m 64 #[.val (.int x0), .val (.int x1), .val (.int x2), .val (.int x3), .unset, .unset, .unset, .unset, .unset, .unset, .unset, .unset, .unset, .unset] [(.int (8304 : Int32)), (.int (9 : Int32)), (.ref b1), (.ref b1)]))) (fun t k => XT.sipushV X10.here hx rfl (8304 : Int32) (hb hby at_61) (by decide) k) ?_
  obtain ⟨T11, h11, X11, e11, W11, B11, st11⟩ := own_iastore (j := (9 : Int32)) (x := (8304 : Int32)) (Ls := #[.val (.int x0), .val (.int x1), .val (.int x2), .val (.int x3), .unset, .unset, .unset, .unset, .unset, .unset, .unset, .unset, .unset, .unset]) (rest := [(.ref b1)]) A1 X10 hx hZ e10 (by decide) (i := 9) (by decide) (Nat.le_of_ble_eq_true rfl) (hb hby at_64)
  replace A1 := B11.eq (vs' := [(.int (65 : Int32)), (.int (95 : Int32)), (.int (97 : Int32)), (.int (192 : Int32)), (.int (216 : Int32)), (.int (248 : Int32)), (.int (880 : Int32)), (.int (895 : Int32)), (.int (8204 : Int32)), (.int (8304 : Int32)), (.int (0 : Int32)), (.int (0 : Int32)), (.int (0 : Int32)), (.int (0 : Int32)), (.int (0 : Int32))]) rfl
  have N11 := Fr.snoc X11 N10 gn1
  have sz11 : n0 ≤ h11.size := W11.size ▸ sz10
  refine own_go (S' := (T11.setTop (mkF m 65 #[.val (.int x0), .val (.int x1), .val (.int x2), .val (.int x3), .unset, .unset, .unset, .unset, .unset, .unset, .unset, .unset, .unset, .unset] [(.ref b1)]))) st11 ?_
  refine own_go (S' := (T11.setTop (mkF m 66 #[.val (.int x0), .val (.int x1), .val (.int x2), .val (.int x3), .unset, .unset, .unset, .unset, .unset, .unset, .unset, .unset, .unset, .unset] [(.ref b1), (.ref b1)]))) (fun t k => XS.dup X11.here hx rfl (hb hby at_65) rfl rfl k) ?_
  refine own_go (S' := (T11.setTop (mkF m 68 #[.val (.int x0), .val (.int x1), .val (.int x2), .val (.int x3), .unset, .unset, .unset, .unset, .unset, .unset, .unset, .unset, .unset, .unset] [(.int (10 : Int32)), (.ref b1), (.ref b1)]))) (fun t k => XT.bipushV X11.here hx rfl (10 : Int32) (hb hby at_66) (by decide) k) ?_
  refine own_go (S' := (T11.setTop (mkF m 71 #[.val (.int x0), .val (.int x1), .val (.int x2), .val (.int x3), .unset, .unset, .unset, .unset, .unset, .unset, .unset, .unset, .unset, .unset] [(.int (11264 : Int32)), (.int (10 : Int32)), (.ref b1), (.ref b1)]))) (fun t k => XT.sipushV X11.here hx rfl (11264 : Int32) (hb hby at_68) (by decide) k) ?_
  obtain ⟨T12, h12, X12, e12, W12, B12, st12⟩ := own_iastore (j := (10 : Int32)) (x := (11264 : Int32)) (Ls := #[.val (.int x0), .val (.int x1), .val (.int x2), .val (.int x3), .unset, .unset, .unset, .unset, .unset, .unset, .unset, .unset, .unset, .unset]) (rest := [(.ref b1)]) A1 X11 hx hZ e11 (by decide) (i := 10) (by decide) (Nat.le_of_ble_eq_true rfl) (hb hby at_71)
  replace A1 := B12.eq (vs' := [(.int (65 : Int32)), (.int (95 : Int32)), (.int (97 : Int32)), (.int (192 : Int32)), (.int (216 : Int32)), (.int (248 : Int32)), (.int (880 : Int32)), (.int (895 : Int32)), (.int (8204 : Int32)), (.int (8304 : Int32)), (.int (11264 : Int32)), (.int (0 : Int32)), (.int (0 : Int32)), (.int (0 : Int32)), (.int (0 : Int32))]) rfl
  have N12 := Fr.snoc X12 N11 gn1
  have sz12 : n0 ≤ h12.size := W12.size ▸ sz11
  refine own_go (S' := (T12.setTop (mkF m 72 #[.val (.int x0), .val (.int x1), .val (.int x2), .val (.int x3), .unset, .unset, .unset, .unset, .unset, .unset, .unset, .unset, .unset, .unset] [(.ref b1)]))) st12 ?_
  refine own_go (S' := (T12.setTop (mkF m 73 #[.val (.int x0), .val (.int x1), .val (.int x2), .val (.int x3), .unset, .unset, .unset, .unset, .unset, .unset, .unset, .unset, .unset, .unset] [(.ref b1), (.ref b1)]))) (fun t k => XS.dup X12.here hx rfl (hb hby at_72) rfl rfl k) ?_
  refine own_go (S' := (T12.setTop (mkF m 75 #[.val (.int x0), .val (.int x1), .val (.int x2), .val (.int x3), .unset, .unset, .unset, .unset, .unset, .unset, .unset, .unset, .unset, .unset] [(.int (11 : Int32)), (.ref b1), (.ref b1)]))) (fun t k => XT.bipushV X12.here hx rfl (11 : Int32) (hb hby at_73) (by decide) k) ?_
  refine own_go (S' := (T12.setTop (mkF m 78 #[.val (.int x0), .val (.int x1), .val (.int x2), .val (.int x3), .unset, .unset, .unset, .unset, .unset, .unset, .unset, .unset, .unset, .unset] [(.int (12289 : Int32)), (.int (11 : Int32)), (.ref b1), (.ref b1)]))) (fun t k => XT.sipushV X12.here hx rfl (12289 : Int32) (hb hby at_75) (by decide) k) ?_
  obtain ⟨T13, h13, X13, e13, W13, B13, st13⟩ := own_iastore (j := (11 : Int32)) (x := (12289 : Int32)) (Ls := #[.val (.int x0), .val (.int x1), .val (.int x2), .val (.int x3), .unset, .unset, .unset, .unset, .unset, .unset, .unset, .unset, .unset, .unset]) (rest := [(.ref b1)]) A1 X12 hx hZ e12 (by decide) (i := 11) (by decide) (Nat.le_of_ble_eq_true rfl) (hb hby at_78)
  replace A1 := B13.eq (vs' := [(.int (65 : Int32)), (.int (95 : Int32)), (.int (97 : Int32)), (.int (192 : Int32)), (.int (216 : Int32)), (.int (248 : Int32)), (.int (880 : Int32)), (.int (895 : Int32)), (.int (8204 : Int32)), (.int (8304 : Int32)), (.int (11264 : Int32)), (.int (12289 : Int32)), (.int (0 : Int32)), (.int (0 : Int32)), (.int (0 : Int32))]) rfl
  have N13 := Fr.snoc X13 N12 gn1
  have sz13 : n0 ≤ h13.size := W13.size ▸ sz12
  refine own_go (S' := (T13.setTop (mkF m 79 #[.val (.int x0), .val (.int x1), .val (.int x2), .val (.int x3), .unset, .unset, .unset, .unset, .unset, .unset, .unset, .unset, .unset, .unset] [(.ref b1)]))) st13 ?_
  refine own_go (S' := (T13.setTop (mkF m 80 #[.val (.int x0), .val (.int x1), .val (.int x2), .val (.int x3), .unset, .unset, .unset, .unset, .unset, .unset, .unset, .unset, .unset, .unset] [(.ref b1), (.ref b1)]))) (fun t k => XS.dup X13.here hx rfl (hb hby at_79) rfl rfl k) ?_
  refine own_go (S' := (T13.setTop (mkF m 82 #[.val (.int x0), .val (.int x1), .val (.int x2), .val (.int x3), .unset, .unset, .unset, .unset, .unset, .unset, .unset, .unset, .unset, .unset] [(.int (12 : Int32)), (.ref b1), (.ref b1)]))) (fun t k => XT.bipushV X13.here hx rfl (12 : Int32) (hb hby at_80) (by decide) k) ?_
  refine own_go (S' := (T13.setTop (mkF m 84 #[.val (.int x0), .val (.int x1), .val (.int x2), .val (.int x3), .unset, .unset, .unset, .unset, .unset, .unset, .unset, .unset, .unset, .unset] [(.int (63744 : Int32)), (.int (12 : Int32)), (.ref b1), (.ref b1)]))) (fun t k => Stand.ldcI X13 hx hown (mvT hZ (hw _ (List.mem_of_getElem? (i := 1) rfl))) rfl (hb hby at_82) k) ?_
  obtain ⟨T14, h14, X14, e14, W14, B14, st14⟩ := own_iastore (j := (12 : Int32)) (x := (63744 : Int32)) (Ls := #[.val (.int x0), .val (.int x1), .val (.int x2), .val (.int x3), .unset, .unset, .unset, .unset, .unset, .unset, .unset, .unset, .unset, .unset]) (rest := [(.ref b1)]) A1 X13 hx hZ e13 (by decide) (i := 12) (by decide) (Nat.le_of_ble_eq_true rfl) (hb hby at_84)
  replace A1 := B14.eq (vs' := [(.int (65 : Int32)), (.int (95 : Int32)), (.int (97 : Int32)), (.int (192 : Int32)), (.int (216 : Int32)), (.int (248 : Int32)), (.int (880 : Int32)), (.int (895 : Int32)), (.int (8204 : Int32)), (.int (8304 : Int32)), (.int (11264 : Int32)), (.int (12289 : Int32)), (.int (63744 : Int32)), (.int (0 : Int32)), (.int (0 : Int32))]) rfl
  have N14 := Fr.snoc X14 N13 gn1
  have sz14 : n0 ≤ h14.size := W14.size ▸ sz13
  refine own_go (S' := (T14.setTop (mkF m 85 #[.val (.int x0), .val (.int x1), .val (.int x2), .val (.int x3), .unset, .unset, .unset, .unset, .unset, .unset, .unset, .unset, .unset, .unset] [(.ref b1)]))) st14 ?_
  refine own_go (S' := (T14.setTop (mkF m 86 #[.val (.int x0), .val (.int x1), .val (.int x2), .val (.int x3), .unset, .unset, .unset, .unset, .unset, .unset, .unset, .unset, .unset, .unset] [(.ref b1), (.ref b1)]))) (fun t k => XS.dup X14.here hx rfl (hb hby at_85) rfl rfl k) ?_
  refine own_go (S' := (T14.setTop (mkF m 88 #[.val (.int x0), .val (.int x1), .val (.int x2), .val (.int x3), .unset, .unset, .unset, .unset, .unset, .unset, .unset, .unset, .unset, .unset] [(.int (13 : Int32)), (.ref b1), (.ref b1)]))) (fun t k => XT.bipushV X14.here hx rfl (13 : Int32) (hb hby at_86) (by decide) k) ?_
  refine own_go (S' := (T14.setTop (mkF m 90 #[.val (.int x0), .val (.int x1), .val (.int x2), .val (.int x3), .unset, .unset, .unset, .unset, .unset, .unset, .unset, .unset, .unset, .unset] [(.int (65008 : Int32)), (.int (13 : Int32)), (.ref b1), (.ref b1)]))) (fun t k => Stand.ldcI X14 hx hown (mvT hZ (hw _ (List.mem_of_getElem? (i := 2) rfl))) rfl (hb hby at_88) k) ?_
  obtain ⟨T15, h15, X15, e15, W15, B15, st15⟩ := own_iastore (j := (13 : Int32)) (x := (65008 : Int32)) (Ls := #[.val (.int x0), .val (.int x1), .val (.int x2), .val (.int x3), .unset, .unset, .unset, .unset, .unset, .unset, .unset, .unset, .unset, .unset]) (rest := [(.ref b1)]) A1 X14 hx hZ e14 (by decide) (i := 13) (by decide) (Nat.le_of_ble_eq_true rfl) (hb hby at_90)
  replace A1 := B15.eq (vs' := [(.int (65 : Int32)), (.int (95 : Int32)), (.int (97 : Int32)), (.int (192 : Int32)), (.int (216 : Int32)), (.int (248 : Int32)), (.int (880 : Int32)), (.int (895 : Int32)), (.int (8204 : Int32)), (.int (8304 : Int32)), (.int (11264 : Int32)), (.int (12289 : Int32)), (.int (63744 : Int32)), (.int (65008 : Int32)), (.int (0 : Int32))]) rfl
  have N15 := Fr.snoc X15 N14 gn1
  have sz15 : n0 ≤ h15.size := W15.size ▸ sz14
  refine own_go (S' := (T15.setTop (mkF m 91 #[.val (.int x0), .val (.int x1), .val (.int x2), .val (.int x3), .unset, .unset, .unset, .unset, .unset, .unset, .unset, .unset, .unset, .unset] [(.ref b1)]))) st15 ?_
  refine own_go (S' := (T15.setTop (mkF m 92 #[.val (.int x0), .val (.int x1), .val (.int x2), .val (.int x3), .unset, .unset, .unset, .unset, .unset, .unset, .unset, .unset, .unset, .unset] [(.ref b1), (.ref b1)]))) (fun t k => XS.dup X15.here hx rfl (hb hby at_91) rfl rfl k) ?_
  refine own_go (S' := (T15.setTop (mkF m 94 #[.val (.int x0), .val (.int x1), .val (.int x2), .val (.int x3), .unset, .unset, .unset, .unset, .unset, .unset, .unset, .unset, .unset, .unset] [(.int (14 : Int32)), (.ref b1), (.ref b1)]))) (fun t k => XT.bipushV X15.here hx rfl (14 : Int32) (hb hby at_92) (by decide) k) ?_
  refine own_go (S' := (T15.setTop (mkF m 96 #[.val (.int x0), .val (.int x1), .val (.int x2), .val (.int x3), .unset, .unset, .unset, .unset, .unset, .unset, .unset, .unset, .unset, .unset] [(.int (65536 : Int32)), (.int (14 : Int32)), (.ref b1), (.ref b1)]))) (fun t k => Stand.ldcI X15 hx hown (mvT hZ (hw _ (List.mem_of_getElem? (i := 3) rfl))) rfl (hb hby at_94) k) ?_
  obtain ⟨T16, h16, X16, e16, W16, B16, st16⟩ := own_iastore (j := (14 : Int32)) (x := (65536 : Int32)) (Ls := #[.val (.int x0), .val (.int x1), .val (.int x2), .val (.int x3), .unset, .unset, .unset, .unset, .unset, .unset, .unset, .unset, .unset, .unset]) (rest := [(.ref b1)]) A1 X15 hx hZ e15 (by decide) (i := 14) (by decide) (Nat.le_of_ble_eq_true rfl) (hb hby at_96)
  replace A1 := B16.eq (vs' := [(.int (65 : Int32)), (.int (95 : Int32)), (.int (97 : Int32)), (.int (192 : Int32)), (.int (216 : Int32)), (.int (248 : Int32)), (.int (880 : Int32)), (.int (895 : Int32)), (.int (8204 : Int32)), (.int (8304 : Int32)), (.int (11264 : Int32)), (.int (12289 : Int32)), (.int (63744 : Int32)), (.int (65008 : Int32)), (.int (65536 : Int32))]) rfl
  have N16 := Fr.snoc X16 N15 gn1
  have sz16 : n0 ≤ h16.size := W16.size ▸ sz15
  refine own_go (S' := (T16.setTop (mkF m 97 #[.val (.int x0), .val (.int x1), .val (.int x2), .val (.int x3), .unset, .unset, .unset, .unset, .unset, .unset, .unset, .unset, .unset, .unset] [(.ref b1)]))) st16 ?_
  refine own_go (S' := (T16.setTop (mkF m 99 #[.val (.int x0), .val (.int x1), .val (.int x2), .val (.int x3), .val (.ref b1), .unset, .unset, .unset, .unset, .unset, .unset, .unset, .unset, .unset] []))) (fun t k => XS.astore X16.here hx rfl (hb hby at_97) rfl rfl (l' := #[.val (.int x0), .val (.int x1), .val (.int x2), .val (.int x3), .val (.ref b1), .unset, .unset, .unset, .unset, .unset, .unset, .unset, .unset, .unset]) rfl k) ?_
  refine own_go (S' := (T16.setTop (mkF m 101 #[.val (.int x0), .val (.int x1), .val (.int x2), .val (.int x3), .val (.ref b1), .unset, .unset, .unset, .unset, .unset, .unset, .unset, .unset, .unset] [(.int (15 : Int32))]))) (fun t k => XT.bipushV X16.here hx rfl (15 : Int32) (hb hby at_99) (by decide) k) ?_
  have lt17_A1 := A1.lt
  obtain ⟨T17, h17, b17, X17, e17, E17, g17, A17, st17⟩ := own_newL (nn := (15 : Int32)) (len := 15) (Ls := #[.val (.int x0), .val (.int x1), .val (.int x2), .val (.int x3), .val (.ref b1), .unset, .unset, .unset, .unset, .unset, .unset, .unset, .unset, .unset]) (rest := []) X16 hx hZ (hw _ (List.mem_of_getElem? (i := 0) rfl)) e16 (hb hby at_101) (by decide) (by decide) (cap := 15) (by decide) (by decide) (by decide) (by decide)
  replace A1 := A1.ext E17
  have ne17_A1 : b1 ≠ b17 := Nat.ne_of_lt (g17 ▸ lt17_A1)
  have gn17 : n0 ≤ b17 := g17 ▸ sz16
  have sz17 : n0 ≤ h17.size := Nat.le_trans sz16 E17.1
  replace A17 := A17.eq (vs' := [(.int (0 : Int32)), (.int (0 : Int32)), (.int (0 : Int32)), (.int (0 : Int32)), (.int (0 : Int32)), (.int (0 : Int32)), (.int (0 : Int32)), (.int (0 : Int32)), (.int (0 : Int32)), (.int (0 : Int32)), (.int (0 : Int32)), (.int (0 : Int32)), (.int (0 : Int32)), (.int (0 : Int32)), (.int (0 : Int32))]) rfl
  refine own_go (S' := (T17.setTop (mkF m 103 #[.val (.int x0), .val (.int x1), .val (.int x2), .val (.int x3), .val (.ref b1), .unset, .unset, .unset, .unset, .unset, .unset, .unset, .unset, .unset] [(.ref b17)]))) st17 ?_
  refine own_go (S' := (T17.setTop (mkF m 104 #[.val (.int x0), .val (.int x1), .val (.int x2), .val (.int x3), .val (.ref b1), .unset, .unset, .unset, .unset, .unset, .unset, .unset, .unset, .unset] [(.ref b17), (.ref b17)]))) (fun t k => XS.dup X17.here hx rfl (hb hby at_103) rfl rfl k) ?_
  refine own_go (S' := (T17.setTop (mkF m 105 #[.val (.int x0), .val (.int x1), .val (.int x2), .val (.int x3), .val (.ref b1), .unset, .unset, .unset, .unset, .unset, .unset, .unset, .unset, .unset] [(.int (0 : Int32)), (.ref b17), (.ref b17)]))) (fun t k => XT.iconstV X17.here hx rfl (0 : Int32) (hb hby at_104) (by decide) k) ?_
  refine own_go (S' := (T17.setTop (mkF m 107 #[.val (.int x0), .val (.int x1), .val (.int x2), .val (.int x3), .val (.ref b1), .unset, .unset, .unset, .unset, .unset, .unset, .unset, .unset, .unset] [(.int (90 : Int32)), (.int (0 : Int32)), (.ref b17), (.ref b17)]))) (fun t k => XT.bipushV X17.here hx rfl (90 : Int32) (hb hby at_105) (by decide) k) ?_
  obtain ⟨T18, h18, X18, e18, W18, B18, st18⟩ := own_iastore (j := (0 : Int32)) (x := (90 : Int32)) (Ls := #[.val (.int x0), .val (.int x1), .val (.int x2), .val (.int x3), .val (.ref b1), .unset, .unset, .unset, .unset, .unset, .unset, .unset, .unset, .unset]) (rest := [(.ref b17)]) A17 X17 hx hZ e17 (by decide) (i := 0) (by decide) (Nat.le_of_ble_eq_true rfl) (hb hby at_107)
  replace A1 := A1.other W18 ne17_A1
  replace A17 := B18.eq (vs' := [(.int (90 : Int32)), (.int (0 : Int32)), (.int (0 : Int32)), (.int (0 : Int32)), (.int (0 : Int32)), (.int (0 : Int32)), (.int (0 : Int32)), (.int (0 : Int32)), (.int (0 : Int32)), (.int (0 : Int32)), (.int (0 : Int32)), (.int (0 : Int32)), (.int (0 : Int32)), (.int (0 : Int32)), (.int (0 : Int32))]) rfl
  have N18 := Fr.snoc X18 N16 gn17
  have sz18 : n0 ≤ h18.size := W18.size ▸ sz17
  refine own_go (S' := (T18.setTop (mkF m 108 #[.val (.int x0), .val (.int x1), .val (.int x2), .val (.int x3), .val (.ref b1), .unset, .unset, .unset, .unset, .unset, .unset, .unset, .unset, .unset] [(.ref b17)]))) st18 ?_
  refine own_go (S' := (T18.setTop (mkF m 109 #[.val (.int x0), .val (.int x1), .val (.int x2), .val (.int x3), .val (.ref b1), .unset, .unset, .unset, .unset, .unset, .unset, .unset, .unset, .unset] [(.ref b17), (.ref b17)]))) (fun t k => XS.dup X18.here hx rfl (hb hby at_108) rfl rfl k) ?_
  refine own_go (S' := (T18.setTop (mkF m 110 #[.val (.int x0), .val (.int x1), .val (.int x2), .val (.int x3), .val (.ref b1), .unset, .unset, .unset, .unset, .unset, .unset, .unset, .unset, .unset] [(.int (1 : Int32)), (.ref b17), (.ref b17)]))) (fun t k => XT.iconstV X18.here hx rfl (1 : Int32) (hb hby at_109) (by decide) k) ?_
  refine own_go (S' := (T18.setTop (mkF m 112 #[.val (.int x0), .val (.int x1), .val (.int x2), .val (.int x3), .val (.ref b1), .unset, .unset, .unset, .unset, .unset, .unset, .unset, .unset, .unset] [(.int (95 : Int32)), (.int (1 : Int32)), (.ref b17), (.ref b17)]))) (fun t k => XT.bipushV X18.here hx rfl (95 : Int32) (hb hby at_110) (by decide) k) ?_
  obtain ⟨T19, h19, X19, e19, W19, B19, st19⟩ := own_iastore (j := (1 : Int32)) (x := (95 : Int32)) (Ls := #[.val (.int x0), .val (.int x1), .val (.int x2), .val (.int x3), .val (.ref b1), .unset, .unset, .unset, .unset, .unset, .unset, .unset, .unset, .unset]) (rest := [(.ref b17)]) A17 X18 hx hZ e18 (by decide) (i := 1) (by decide) (Nat.le_of_ble_eq_true rfl) (hb hby at_112)
  replace A1 := A1.other W19 ne17_A1
  replace A17 := B19.eq (vs' := [(.int (90 : Int32)), (.int (95 : Int32)), (.int (0 : Int32)), (.int (0 : Int32)), (.int (0 : Int32)), (.int (0 : Int32)), (.int (0 : Int32)), (.int (0 : Int32)), (.int (0 : Int32)), (.int (0 : Int32)), (.int (0 : Int32)), (.int (0 : Int32)), (.int (0 : Int32)), (.int (0 : Int32)), (.int (0 : Int32))]) rfl
  have N19 := Fr.snoc X19 N18 gn17
  have sz19 : n0 ≤ h19.size := W19.size ▸ sz18
  refine own_go (S' := (T19.setTop (mkF m 113 #[.val (.int x0), .val (.int x1), .val (.int x2), .val (.int x3), .val (.ref b1), .unset, .unset, .unset, .unset, .unset, .unset, .unset, .unset, .unset] [(.ref b17)]))) st19 ?_
  refine own_go (S' := (T19.setTop (mkF m 114 #[.val (.int x0), .val (.int x1), .val (.int x2), .val (.int x3), .val (.ref b1), .unset, .unset, .unset, .unset, .unset, .unset, .unset, .unset, .unset] [(.ref b17), (.ref b17)]))) (fun t k => XS.dup X19.here hx rfl (hb hby at_113) rfl rfl k) ?_
  refine own_go (S' := (T19.setTop (mkF m 115 #[.val (.int x0), .val (.int x1), .val (.int x2), .val (.int x3), .val (.ref b1), .unset, .unset, .unset, .unset, .unset, .unset, .unset, .unset, .unset] [(.int (2 : Int32)), (.ref b17), (.ref b17)]))) (fun t k => XT.iconstV X19.here hx rfl (2 : Int32) (hb hby at_114) (by decide) k) ?_
  refine own_go (S' := (T19.setTop (mkF m 117 #[.val (.int x0), .val (.int x1), .val (.int x2), .val (.int x3), .val (.ref b1), .unset, .unset, .unset, .unset, .unset, .unset, .unset, .unset, .unset] [(.int (122 : Int32)), (.int (2 : Int32)), (.ref b17), (.ref b17)]))) (fun t k => XT.bipushV X19.here hx rfl (122 : Int32) (hb hby at_115) (by decide) k) ?_
  obtain ⟨T20, h20, X20, e20, W20, B20, st20⟩ := own_iastore (j := (2 : Int32)) (x := (122 : Int32)) (Ls := #[.val (.int x0), .val (.int x1), .val (.int x2), .val (.int x3), .val (.ref b1), .unset, .unset, .unset, .unset, .unset, .unset, .unset, .unset, .unset]) (rest := [(.ref b17)]) A17 X19 hx hZ e19 (by decide) (i := 2) (by decide) (Nat.le_of_ble_eq_true rfl) (hb hby at_117)
  replace A1 := A1.other W20 ne17_A1
  replace A17 := B20.eq (vs' := [(.int (90 : Int32)), (.int (95 : Int32)), (.int (122 : Int32)), (.int (0 : Int32)), (.int (0 : Int32)), (.int (0 : Int32)), (.int (0 : Int32)), (.int (0 : Int32)), (.int (0 : Int32)), (.int (0 : Int32)), (.int (0 : Int32)), (.int (0 : Int32)), (.int (0 : Int32)), (.int (0 : Int32)), (.int (0 : Int32))]) rfl
  have N20 := Fr.snoc X20 N19 gn17
  have sz20 : n0 ≤ h20.size := W20.size ▸ sz19
  refine own_go (S' := (T20.setTop (mkF m 118 #[.val (.int x0), .val (.int x1), .val (.int x2), .val (.int x3), .val (.ref b1), .unset, .unset, .unset, .unset, .unset, .unset, .unset, .unset, .unset] [(.ref b17)]))) st20 ?_
  refine own_go (S' := (T20.setTop (mkF m 119 #[.val (.int x0), .val (.int x1), .val (.int x2), .val (.int x3), .val (.ref b1), .unset, .unset, .unset, .unset, .unset, .unset, .unset, .unset, .unset] [(.ref b17), (.ref b17)]))) (fun t k => XS.dup X20.here hx rfl (hb hby at_118) rfl rfl k) ?_
  refine own_go (S' := (T20.setTop (mkF m 120 #[.val (.int x0), .val (.int x1), .val (.int x2), .val (.int x3), .val (.ref b1), .unset, .unset, .unset, .unset, .unset, .unset, .unset, .unset, .unset] [(.int (3 : Int32)), (.ref b17), (.ref b17)]))) (fun t k => XT.iconstV X20.here hx rfl (3 : Int32) (hb hby at_119) (by decide) k) ?_
  refine own_go (S' := (T20.setTop (mkF m 123 #[.val (.int x0), .val (.int x1), .val (.int x2), .val (.int x3), .val (.ref b1), .unset, .unset, .unset, .unset, .unset, .unset, .unset, .unset, .unset] [(.int (214 : Int32)), (.int (3 : Int32)), (.ref b17), (.ref b17)]))) (fun t k => XT.sipushV X20.here hx rfl (214 : Int32) (hb hby at_120) (by decide) k) ?_
  obtain ⟨T21, h21, X21, e21, W21, B21, st21⟩ := own_iastore (j := (3 : Int32)) (x := (214 : Int32)) (Ls := #[.val (.int x0), .val (.int x1), .val (.int x2), .val (.int x3), .val (.ref b1), .unset, .unset, .unset, .unset, .unset, .unset, .unset, .unset, .unset]) (rest := [(.ref b17)]) A17 X20 hx hZ e20 (by decide) (i := 3) (by decide) (Nat.le_of_ble_eq_true rfl) (hb hby at_123)
  replace A1 := A1.other W21 ne17_A1
  replace A17 := B21.eq (vs' := [(.int (90 : Int32)), (.int (95 : Int32)), (.int (122 : Int32)), (.int (214 : Int32)), (.int (0 : Int32)), (.int (0 : Int32)), (.int (0 : Int32)), (.int (0 : Int32)), (.int (0 : Int32)), (.int (0 : Int32)), (.int (0 : Int32)), (.int (0 : Int32)), (.int (0 : Int32)), (.int (0 : Int32)), (.int (0 : Int32))]) rfl
  have N21 := Fr.snoc X21 N20 gn17
  have sz21 : n0 ≤ h21.size := W21.size ▸ sz20
  refine own_go (S' := (T21.setTop (mkF m 124 #[.val (.int x0), .val (.int x1), .val (.int x2), .val (.int x3), .val (.ref b1), .unset, .unset, .unset, .unset, .unset, .unset, .unset, .unset, .unset] [(.ref b17)]))) st21 ?_
  refine own_go (S' := (T21.setTop (mkF m 125 #[.val (.int x0), .val (.int x1), .val (.int x2), .val (.int x3), .val (.ref b1), .unset, .unset, .unset, .unset, .unset, .unset, .unset, .unset, .unset] [(.ref b17), (.ref b17)]))) (fun t k => XS.dup X21.here hx rfl (hb hby at_124) rfl rfl k) ?_
  refine own_go (S' := (T21.setTop (mkF m 126 #[.val (.int x0), .val (.int x1), .val (.int x2), .val (.int x3), .val (.ref b1), .unset, .unset, .unset, .unset, .unset, .unset, .unset, .unset, .unset] [(.int (4 : Int32)), (.ref b17), (.ref b17)]))) (fun t k => XT.iconstV X21.here hx rfl (4 : Int32) (hb hby at_125) (by decide) k) ?_
  refine own_go (S' := (T21.setTop (mkF m 129 #[.val (.int x0), .val (.int x1), .val (.int x2), .val (.int x3), .val (.ref b1), .unset, .unset, .unset, .unset, .unset, .unset, .unset, .unset, .unset] [(.int (246 : Int32)), (.int (4 : Int32)), (.ref b17), (.ref b17)]))) (fun t k => XT.sipushV X21.here hx rfl (246 : Int32) (hb hby at_126) (by decide) k) ?_
  obtain ⟨T22, h22, X22, e22, W22, B22, st22⟩ := own_iastore (j := (4 : Int32)) (x := (246 : Int32)) (Ls := #[.val (.int x0), .val (.int x1), .val (.int x2), .val (.int x3), .val (.ref b1), .unset, .unset, .unset, .unset, .unset, .unset, .unset, .unset, .unset]) (rest := [(.ref b17)]) A17 X21 hx hZ e21 (by decide) (i := 4) (by decide) (Nat.le_of_ble_eq_true rfl) (hb hby at_129)
  replace A1 := A1.other W22 ne17_A1
  replace A17 := B22.eq (vs' := [(.int (90 : Int32)), (.int (95 : Int32)), (.int (122 : Int32)), (.int (214 : Int32)), (.int (246 : Int32)), (.int (0 : Int32)), (.int (0 : Int32)), (.int (0 : Int32)), (.int (0 : Int32)), (.int (0 : Int32)), (.int (0 : Int32)), (.int (0 : Int32)), (.int (0 : Int32)), (.int (0 : Int32)), (.int (0 : Int32))]) rfl
  have N22 := Fr.snoc X22 N21 gn17
  have sz22 : n0 ≤ h22.size := W22.size ▸ sz21
  refine own_go (S' := (T22.setTop (mkF m 130 #[.val (.int x0), .val (.int x1), .val (.int x2), .val (.int x3), .val (.ref b1), .unset, .unset, .unset, .unset, .unset, .unset, .unset, .unset, .unset] [(.ref b17)]))) st22 ?_
  refine own_go (S' := (T22.setTop (mkF m 131 #[.val (.int x0), .val (.int x1), .val (.int x2), .val (.int x3), .val (.ref b1), .unset, .unset, .unset, .unset, .unset, .unset, .unset, .unset, .unset] [(.ref b17), (.ref b17)]))) (fun t k => XS.dup X22.here hx rfl (hb hby at_130) rfl rfl k) ?_
  refine own_go (S' := (T22.setTop (mkF m 132 #[.val (.int x0), .val (.int x1), .val (.int x2), .val (.int x3), .val (.ref b1), .unset, .unset, .unset, .unset, .unset, .unset, .unset, .unset, .unset] [(.int (5 : Int32)), (.ref b17), (.ref b17)]))) (fun t k => XT.iconstV X22.here hx rfl (5 : Int32) (hb hby at_131) (by decide) k) ?_
  refine own_go (S' := (T22.setTop (mkF m 135 #[.val (.int x0), .val (.int x1), .val (.int x2), .val (.int x3), .val (.ref b1), .unset, .unset, .unset, .unset, .unset, .unset, .unset, .unset, .unset] [(.int (767 : Int32)), (.int (5 : Int32)), (.ref b17), (.ref b17)]))) (fun t k => XT.sipushV X22.here hx rfl (767 : Int32) (hb hby at_132) (by decide) k) ?_
  obtain ⟨T23, h23, X23, e23, W23, B23, st23⟩ := own_iastore (j := (5 : Int32)) (x := (767 : Int32)) (Ls := #[.val (.int x0), .val (.int x1), .val (.int x2), .val (.int x3), .val (.ref b1), .unset, .unset, .unset, .unset, .unset, .unset, .unset, .unset, .unset]) (rest := [(.ref b17)]) A17 X22 hx hZ e22 (by decide) (i := 5) (by decide) (Nat.le_of_ble_eq_true rfl) (hb hby at_135)
  replace A1 := A1.other W23 ne17_A1
  replace A17 := B23.eq (vs' := [(.int (90 : Int32)), (.int (95 : Int32)), (.int (122 : Int32)), (.int (214 : Int32)), (.int (246 : Int32)), (.int (767 : Int32)), (.int (0 : Int32)), (.int (0 : Int32)), (.int (0 : Int32)), (.int (0 : Int32)), (.int (0 : Int32)), (.int (0 : Int32)), (.int (0 : Int32)), (.int (0 : Int32)), (.int (0 : Int32))]) rfl
  have N23 := Fr.snoc X23 N22 gn17
  have sz23 : n0 ≤ h23.size := W23.size ▸ sz22
  refine own_go (S' := (T23.setTop (mkF m 136 #[.val (.int x0), .val (.int x1), .val (.int x2), .val (.int x3), .val (.ref b1), .unset, .unset, .unset, .unset, .unset, .unset, .unset, .unset, .unset] [(.ref b17)]))) st23 ?_
  refine own_go (S' := (T23.setTop (mkF m 137 #[.val (.int x0), .val (.int x1), .val (.int x2), .val (.int x3), .val (.ref b1), .unset, .unset, .unset, .unset, .unset, .unset, .unset, .unset, .unset] [(.ref b17), (.ref b17)]))) (fun t k => XS.dup X23.here hx rfl (hb hby at_136) rfl rfl k) ?_
  refine own_go (S' := (T23.setTop (mkF m 139 #[.val (.int x0), .val (.int x1), .val (.int x2), .val (.int x3), .val (.ref b1), .unset, .unset, .unset, .unset, .unset, .unset, .unset, .unset, .unset] [(.int (6 : Int32)), (.ref b17), (.ref b17)]))) (fun t k => XT.bipushV X23.here hx rfl (6 : Int32) (hb hby at_137) (by decide) k) ?_
  refine own_go (S' := (T23.setTop (mkF m 142 #[.val (.int x0), .val (.int x1), .val (.int x2), .val (.int x3), .val (.ref b1), .unset, .unset, .unset, .unset, .unset, .unset, .unset, .unset, .unset] [(.int (893 : Int32)), (.int (6 : Int32)), (.ref b17), (.ref b17)]))) (fun t k => XT.sipushV X23.here hx rfl (893 : Int32) (hb hby at_139) (by decide) k) ?_
  obtain ⟨T24, h24, X24, e24, W24, B24, st24⟩ := own_iastore (j := (6 : Int32)) (x := (893 : Int32)) (Ls := #[.val (.int x0), .val (.int x1), .val (.int x2), .val (.int x3), .val (.ref b1), .unset, .unset, .unset, .unset, .unset, .unset, .unset, .unset, .unset]) (rest := [(.ref b17)]) A17 X23 hx hZ e23 (by decide) (i := 6) (by decide) (Nat.le_of_ble_eq_true rfl) (hb hby at_142)
  replace A1 := A1.other W24 ne17_A1
  replace A17 := B24.eq (vs' := [(.int (90 : Int32)), (.int (95 : Int32)), (.int (122 : Int32)), (.int (214 : Int32)), (.int (246 : Int32)), (.int (767 : Int32)), (.int (893 : Int32)), (.int (0 : Int32)), (.int (0 : Int32)), (.int (0 : Int32)), (.int (0 : Int32)), (.int (0 : Int32)), (.int (0 : Int32)), (.int (0 : Int32)), (.int (0 : Int32))]) rfl
  have N24 := Fr.snoc X24 N23 gn17
  have sz24 : n0 ≤ h24.size := W24.size ▸ sz23
  refine own_go (S' := (T24.setTop (mkF m 143 #[.val (.int x0), .val (.int x1), .val (.int x2), .val (.int x3), .val (.ref b1), .unset, .unset, .unset, .unset, .unset, .unset, .unset, .unset, .unset] [(.ref b17)]))) st24 ?_
  refine own_go (S' := (T24.setTop (mkF m 144 #[.val (.int x0), .val (.int x1), .val (.int x2), .val (.int x3), .val (.ref b1), .unset, .unset, .unset, .unset, .unset, .unset, .unset, .unset, .unset] [(.ref b17), (.ref b17)]))) (fun t k => XS.dup X24.here hx rfl (hb hby at_143) rfl rfl k) ?_
  refine own_go (S' := (T24.setTop (mkF m 146 #[.val (.int x0), .val (.int x1), .val (.int x2), .val (.int x3), .val (.ref b1), .unset, .unset, .unset, .unset, .unset, .unset, .unset, .unset, .unset] [(.int (7 : Int32)), (.ref b17), (.ref b17)]))) (fun t k => XT.bipushV X24.here hx rfl (7 : Int32) (hb hby at_144) (by decide) k) ?_
  refine own_go (S' := (T24.setTop (mkF m 149 #[.val (.int x0), .val (.int x1), .val (.int x2), .val (.int x3), .val (.ref b1), .unset, .unset, .unset, .unset, .unset, .unset, .unset, .unset, .unset] [(.int (8191 : Int32)), (.int (7 : Int32)), (.ref b17), (.ref b17)]))) (fun t k => XT.sipushV X24.here hx rfl (8191 : Int32) (hb hby at_146) (by decide) k) ?_
  obtain ⟨T25, h25, X25, e25, W25, B25, st25⟩ := own_iastore (j := (7 : Int32)) (x := (8191 : Int32)) (Ls := #[.val (.int x0), .val (.int x1), .val (.int x2), .val (.int x3), .val (.ref b1), .unset, .unset, .unset, .unset, .unset, .unset, .unset, .unset, .unset]) (rest := [(.ref b17)]) A17 X24 hx hZ e24 (by decide) (i := 7) (by decide) (Nat.le_of_ble_eq_true rfl) (hb hby at_149)
  replace A1 := A1.other W25 ne17_A1
  replace A17 := B25.eq (vs' := [(.int (90 : Int32)), (.int (95 : Int32)), (.int (122 : Int32)), (.int (214 : Int32)), (.int (246 : Int32)), (.int (767 : Int32)), (.int (893 : Int32)), (.int (8191 : Int32)), (.int (0 : Int32)), (.int (0 : Int32)), (.int (0 : Int32)), (.int (0 : Int32)), (.int (0 : Int32)), (.int (0 : Int32)), (.int (0 : Int32))]) rfl
  have N25 := Fr.snoc X25 N24 gn17
  have sz25 : n0 ≤ h25.size := W25.size ▸ sz24
  refine own_go (S' := (T25.setTop (mkF m 150 #[.val (.int x0), .val (.int x1), .val (.int x2), .val (.int x3), .val (.ref b1), .unset, .unset, .unset, .unset, .unset, .unset, .unset, .unset, .unset] [(.ref b17)]))) st25 ?_
  refine own_go (S' := (T25.setTop (mkF m 151 #[.val (.int x0), .val (.int x1), .val (.int x2), .val (.int x3), .val (.ref b1), .unset, .unset, .unset, .unset, .unset, .unset, .unset, .unset, .unset] [(.ref b17), (.ref b17)]))) (fun t k => XS.dup X25.here hx rfl (hb hby at_150) rfl rfl k) ?_
  refine own_go (S' := (T25.setTop (mkF m 153 #[.val (.int x0), .val (.int x1), .val (.int x2), .val (.int x3), .val (.ref b1), .unset, .unset, .unset, .unset, .unset, .unset, .unset, .unset, .unset] [(.int (8 : Int32)), (.ref b17), (.ref b17)]))) (fun t k => XT.bipushV X25.here hx rfl (8 : Int32) (hb hby at_151) (by decide) k) ?_
  refine own_go (S' := (T25.setTop (mkF m 156 #[.val (.int x0), .val (.int x1), .val (.int x2), .val (.int x3), .val (.ref b1), .unset, .unset, .unset, .unset, .unset, .unset, .unset, .unset, .unset] [(.int (8205 : Int32)), (.int (8 : Int32)), (.ref b17), (.ref b17)]))) (fun t k => XT.sipushV X25.here hx rfl (8205 : Int32) (hb hby at_153) (by decide) k) ?_
  obtain ⟨T26, h26, X26, e26, W26, B26, st26⟩ := own_iastore (j := (8 : Int32)) (x := (8205 : Int32)) (Ls := #[.val (.int x0), .val (.int x1), .val (.int x2), .val (.int x3), .val (.ref b1), .unset, .unset, .unset, .unset, .unset, .unset, .unset, .unset, .unset]) (rest := [(.ref b17)]) A17 X25 hx hZ e25 (by decide) (i := 8) (by decide) (Nat.le_of_ble_eq_true rfl) (hb hby at_156)
  replace A1 := A1.other W26 ne17_A1
  replace A17 := B26.eq (vs' := [(.int (90 : Int32)), (.int (95 : Int32)), (.int (122 : Int32)), (.int (214 : Int32)), (.int (246 : Int32)), (.int (767 : Int32)), (.int (893 : Int32)), (.int (8191 : Int32)), (.int (8205 : Int32)), (.int (0 : Int32)), (.int (0 : Int32)), (.int (0 : Int32)), (.int (0 : Int32)), (.int (0 : Int32)), (.int (0 : Int32))]) rfl
  have N26 := Fr.snoc X26 N25 gn17
  have sz26 : n0 ≤ h26.size := W26.size ▸ sz25
  refine own_go (S' := (T26.setTop (mkF m 157 #[.val (.int x0), .val (.int x1), .val (.int x2), .val (.int x3), .val (.ref b1), .unset, .unset, .unset, .unset, .unset, .unset, .unset, .unset, .unset] [(.ref b17)]))) st26 ?_
  refine own_go (S' := (T26.setTop (mkF m 158 #[.val (.int x0), .val (.int x1), .val (.int x2), .val (.int x3), .val (.ref b1), .unset, .unset, .unset, .unset, .unset, .unset, .unset, .unset, .unset] [(.ref b17), (.ref b17)]))) (fun t k => XS.dup X26.here hx rfl (hb hby at_157) rfl rfl k) ?_
  refine own_go (S' := (T26.setTop (mkF m 160 #[.val (.int x0), .val (.int x1), .val (.int x2), .val (.int x3), .val (.ref b1), .unset, .unset, .unset, .unset, .unset, .unset, .unset, .unset, .unset] [(.int (9 : Int32)), (.ref b17), (.ref b17)]))) (fun t k => XT.bipushV X26.here hx rfl (9 : Int32) (hb hby at_158) (by decide) k) ?_
  refine own_go (S' := (T26.setTop (mkF m 163 #[.val (.int x0), .val (.int x1), .val (.int x2), .val (.int x3), .val (.ref b1), .unset, .unset, .unset, .unset, .unset, .unset, .unset, .unset, .unset] [(.int (8591 : Int32)), (.int (9 : Int32)), (.ref b17), (.ref b17)]))) (fun t k => XT.sipushV X26.here hx rfl (8591 : Int32) (hb hby at_160) (by decide) k) ?_
  obtain ⟨T27, h27, X27, e27, W27, B27, st27⟩ := own_iastore (j := (9 : Int32)) (x := (8591 : Int32)) (Ls := #[.val (.int x0), .val (.int x1), .val (.int x2), .val (.int x3), .val (.ref b1), .unset, .unset, .unset, .unset, .unset, .unset, .unset, .unset, .unset]) (rest := [(.ref b17)]) A17 X26 hx hZ e26 (by decide) (i := 9) (by decide) (Nat.le_of_ble_eq_true rfl) (hb hby at_163)
  replace A1 := A1.other W27 ne17_A1
  replace A17 := B27.eq (vs' := [(.int (90 : Int32)), (.int (95 : Int32)), (.int (122 : Int32)), (.int (214 : Int32)), (.int (246 : Int32)), (.int (767 : Int32)), (.int (893 : Int32)), (.int (8191 : Int32)), (.int (8205 : Int32)), (.int (8591 : Int32)), (.int (0 : Int32)), (.int (0 : Int32)), (.int (0 : Int32)), (.int (0 : Int32)), (.int (0 : Int32))]) rfl
  have N27 := Fr.snoc X27 N26 gn17
  have sz27 : n0 ≤ h27.size := W27.size ▸ sz26
  refine own_go (S' := (T27.setTop (mkF m 164 #[.val (.int x0), .val (.int x1), .val (.int x2), .val (.int x3), .val (.ref b1), .unset, .unset, .unset, .unset, .unset, .unset, .unset, .unset, .unset] [(.ref b17)]))) st27 ?_
  refine own_go (S' := (T27.setTop (mkF m 165 #[.val (.int x0), .val (.int x1), .val (.int x2), .val (.int x3), .val (.ref b1), .unset, .unset, .unset, .unset, .unset, .unset, .unset, .unset, .unset] [(.ref b17), (.ref b17)]))) (fun t k => XS.dup X27.here hx rfl (hb hby at_164) rfl rfl k) ?_
  refine own_go (S' := (T27.setTop (mkF m 167 #[.val (.int x0), .val (.int x1), .val (.int x2), .val (.int x3), .val (.ref b1), .unset, .unset, .unset, .unset, .unset, .unset, .unset, .unset, .unset] [(.int (10 : Int32)), (.ref b17), (.ref b17)]))) (fun t k => XT.bipushV X27.here hx rfl (10 : Int32) (hb hby at_165) (by decide) k) ?_
  refine own_go (S' := (T27.setTop (mkF m 170 #[.val (.int x0), .val (.int x1), .val (.int x2), .val (.int x3), .val (.ref b1), .unset, .unset, .unset, .unset, .unset, .unset, .unset, .unset, .unset] [(.int (12271 : Int32)), (.int (10 : Int32)), (.ref b17), (.ref b17)]))) (fun t k => XT.sipushV X27.here hx rfl (12271 : Int32) (hb hby at_167) (by decide) k) ?_
  obtain ⟨T28, h28, X28, e28, W28, B28, st28⟩ := own_iastore (j := (10 : Int32)) (x := (12271 : Int32)) (Ls := #[.val (.int x0), .val (.int x1), .val (.int x2), .val (.int x3), .val (.ref b1), .unset, .unset, .unset, .unset, .unset, .unset, .unset, .unset, .unset]) (rest := [(.ref b17)]) A17 X27 hx hZ e27 (by decide) (i := 10) (by decide) (Nat.le_of_ble_eq_true rfl) (hb hby at_170)
  replace A1 := A1.other W28 ne17_A1
  replace A17 := B28.eq (vs' := [(.int (90 : Int32)), (.int (95 : Int32)), (.int (122 : Int32)), (.int (214 : Int32)), (.int (246 : Int32)), (.int (767 : Int32)), (.int (893 : Int32)), (.int (8191 : Int32)), (.int (8205 : Int32)), (.int (8591 : Int32)), (.int (12271 : Int32)), (.int (0 : Int32)), (.int (0 : Int32)), (.int (0 : Int32)), (.int (0 : Int32))]) rfl
  have N28 := Fr.snoc X28 N27 gn17
  have sz28 : n0 ≤ h28.size := W28.size ▸ sz27
  refine own_go (S' := (T28.setTop (mkF m 171 #[.val (.int x0), .val (.int x1), .val (.int x2), .val (.int x3), .val (.ref b1), .unset, .unset, .unset, .unset, .unset, .unset, .unset, .unset, .unset] [(.ref b17)]))) st28 ?_
  refine own_go (S' := (T28.setTop (mkF m 172 #[.val (.int x0), .val (.int x1), .val (.int x2), .val (.int x3), .val (.ref b1), .unset, .unset, .unset, .unset, .unset, .unset, .unset, .unset, .unset] [(.ref b17), (.ref b17)]))) (fun t k => XS.dup X28.here hx rfl (hb hby at_171) rfl rfl k) ?_
  refine own_go (S' := (T28.setTop (mkF m 174 #[.val (.int x0), .val (.int x1), .val (.int x2), .val (.int x3), .val (.ref b1), .unset, .unset, .unset, .unset, .unset, .unset, .unset, .unset, .unset] [(.int (11 : Int32)), (.ref b17), (.ref b17)]))) (fun t k => XT.bipushV X28.here hx rfl (11 : Int32) (hb hby at_172) (by decide) k) ?_
  refine own_go (S' := (T28.setTop (mkF m 176 #[.val (.int x0), .val (.int x1), .val (.int x2), .val (.int x3), .val (.ref b1), .unset, .unset, .unset, .unset, .unset, .unset, .unset, .unset, .unset] [(.int (55295 : Int32)), (.int (11 : Int32)), (.ref b17), (.ref b17)]))) (fun t k => Stand.ldcI X28 hx hown (mvT hZ (hw _ (List.mem_of_getElem? (i := 4) rfl))) rfl (hb hby at_174) k) ?_
  obtain ⟨T29, h29, X29, e29, W29, B29, st29⟩ := own_iastore (j := (11 : Int32)) (x := (55295 : Int32)) (Ls := #[.val (.int x0), .val (.int x1), .val (.int x2), .val (.int x3), .val (.ref b1), .unset, .unset, .unset, .unset, .unset, .unset, .unset, .unset, .unset]) (rest := [(.ref b17)]) A17 X28 hx hZ e28 (by decide) (i := 11) (by decide) (Nat.le_of_ble_eq_true rfl) (hb hby at_176)
  replace A1 := A1.other W29 ne17_A1
  replace A17 := B29.eq (vs' := [(.int (90 : Int32)), (.int (95 : Int32)), (.int (122 : Int32)), (.int (214 : Int32)), (.int (246 : Int32)), (.int (767 : Int32)), (.int (893 : Int32)), (.int (8191 : Int32)), (.int (8205 : Int32)), (.int (8591 : Int32)), (.int (12271 : Int32)), (.int (55295 : Int32)), (.int (0 : Int32)), (.int (0 : Int32)), (.int (0 : Int32))]) rfl
  have N29 := Fr.snoc X29 N28 gn17
  have sz29 : n0 ≤ h29.size := W29.size ▸ sz28
  refine own_go (S' := (T29.setTop (mkF m 177 #[.val (.int x0), .val (.int x1), .val (.int x2), .val (.int x3), .val (.ref b1), .unset, .unset, .unset, .unset, .unset, .unset, .unset, .unset, .unset] [(.ref b17)]))) st29 ?_
  refine own_go (S' := (T29.setTop (mkF m 178 #[.val (.int x0), .val (.int x1), .val (.int x2), .val (.int x3), .val (.ref b1), .unset, .unset, .unset, .unset, .unset, .unset, .unset, .unset, .unset] [(.ref b17), (.ref b17)]))) (fun t k => XS.dup X29.here hx rfl (hb hby at_177) rfl rfl k) ?_
  refine own_go (S' := (T29.setTop (mkF m 180 #[.val (.int x0), .val (.int x1), .val (.int x2), .val (.int x3), .val (.ref b1), .unset, .unset, .unset, .unset, .unset, .unset, .unset, .unset, .unset] [(.int (12 : Int32)), (.ref b17), (.ref b17)]))) (fun t k => XT.bipushV X29.here hx rfl (12 : Int32) (hb hby at_178) (by decide) k) ?_
  refine own_go (S' := (T29.setTop (mkF m 182 #[.val (.int x0), .val (.int x1), .val (.int x2), .val (.int x3), .val (.ref b1), .unset, .unset, .unset, .unset, .unset, .unset, .unset, .unset, .unset] [(.int (64975 : Int32)), (.int (12 : Int32)), (.ref b17), (.ref b17)]))) (fun t k => Stand.ldcI X29 hx hown (mvT hZ (hw _ (List.mem_of_getElem? (i := 5) rfl))) rfl (hb hby at_180) k) ?_
  obtain ⟨T30, h30, X30, e30, W30, B30, st30⟩ := own_iastore (j := (12 : Int32)) (x := (64975 : Int32)) (Ls := #[.val (.int x0), .val (.int x1), .val (.int x2), .val (.int x3), .val (.ref b1), .unset, .unset, .unset, .unset, .unset, .unset, .unset, .unset, .unset]) (rest := [(.ref b17)]) A17 X29 hx hZ e29 (by decide) (i := 12) (by decide) (Nat.le_of_ble_eq_true rfl) (hb hby at_182)
  replace A1 := A1.other W30 ne17_A1
  replace A17 := B30.eq (vs' := [(.int (90 : Int32)), (.int (95 : Int32)), (.int (122 : Int32)), (.int (214 : Int32)), (.int (246 : Int32)), (.int (767 : Int32)), (.int (893 : Int32)), (.int (8191 : Int32)), (.int (8205 : Int32)), (.int (8591 : Int32)), (.int (12271 : Int32)), (.int (55295 : Int32)), (.int (64975 : Int32)), (.int (0 : Int32)), (.int (0 : Int32))]) rfl
  have N30 := Fr.snoc X30 N29 gn17
  have sz30 : n0 ≤ h30.size := W30.size ▸ sz29
  refine own_go (S' := (T30.setTop (mkF m 183 #[.val (.int x0), .val (.int x1), .val (.int x2), .val (.int x3), .val (.ref b1), .unset, .unset, .unset, .unset, .unset, .unset, .unset, .unset, .unset] [(.ref b17)]))) st30 ?_
  refine own_go (S' := (T30.setTop (mkF m 184 #[.val (.int x0), .val (.int x1), .val (.int x2), .val (.int x3), .val (.ref b1), .unset, .unset, .unset, .unset, .unset, .unset, .unset, .unset, .unset] [(.ref b17), (.ref b17)]))) (fun t k => XS.dup X30.here hx rfl (hb hby at_183) rfl rfl k) ?_
  refine own_go (S' := (T30.setTop (mkF m 186 #[.val (.int x0), .val (.int x1), .val (.int x2), .val (.int x3), .val (.ref b1), .unset, .unset, .unset, .unset, .unset, .unset, .unset, .unset, .unset] [(.int (13 : Int32)), (.ref b17), (.ref b17)]))) (fun t k => XT.bipushV X30.here hx rfl (13 : Int32) (hb hby at_184) (by decide) k) ?_
  refine own_go (S' := (T30.setTop (mkF m 188 #[.val (.int x0), .val (.int x1), .val (.int x2), .val (.int x3), .val (.ref b1), .unset, .unset, .unset, .unset, .unset, .unset, .unset, .unset, .unset] [(.int (65533 : Int32)), (.int (13 : Int32)), (.ref b17), (.ref b17)]))) (fun t k => Stand.ldcI X30 hx hown (mvT hZ (hw _ (List.mem_of_getElem? (i := 6) rfl))) rfl (hb hby at_186) k) ?_
  obtain ⟨T31, h31, X31, e31, W31, B31, st31⟩ := own_iastore (j := (13 : Int32)) (x := (65533 : Int32)) (Ls := #[.val (.int x0), .val (.int x1), .val (.int x2), .val (.int x3), .val (.ref b1), .unset, .unset, .unset, .unset, .unset, .unset, .unset, .unset, .unset]) (rest := [(.ref b17)]) A17 X30 hx hZ e30 (by decide) (i := 13) (by decide) (Nat.le_of_ble_eq_true rfl) (hb hby at_188)
  replace A1 := A1.other W31 ne17_A1
  replace A17 := B31.eq (vs' := [(.int (90 : Int32)), (.int (95 : Int32)), (.int (122 : Int32)), (.int (214 : Int32)), (.int (246 : Int32)), (.int (767 : Int32)), (.int (893 : Int32)), (.int (8191 : Int32)), (.int (8205 : Int32)), (.int (8591 : Int32)), (.int (12271 : Int32)), (.int (55295 : Int32)), (.int (64975 : Int32)), (.int (65533 : Int32)), (.int (0 : Int32))]) rfl
  have N31 := Fr.snoc X31 N30 gn17
  have sz31 : n0 ≤ h31.size := W31.size ▸ sz30
  refine own_go (S' := (T31.setTop (mkF m 189 #[.val (.int x0), .val (.int x1), .val (.int x2), .val (.int x3), .val (.ref b1), .unset, .unset, .unset, .unset, .unset, .unset, .unset, .unset, .unset] [(.ref b17)]))) st31 ?_
  refine own_go (S' := (T31.setTop (mkF m 190 #[.val (.int x0), .val (.int x1), .val (.int x2), .val (.int x3), .val (.ref b1), .unset, .unset, .unset, .unset, .unset, .unset, .unset, .unset, .unset] [(.ref b17), (.ref b17)]))) (fun t k => XS.dup X31.here hx rfl (hb hby at_189) rfl rfl k) ?_
  refine own_go (S' := (T31.setTop (mkF m 192 #[.val (.int x0), .val (.int x1), .val (.int x2), .val (.int x3), .val (.ref b1), .unset, .unset, .unset, .unset, .unset, .unset, .unset, .unset, .unset] [(.int (14 : Int32)), (.ref b17), (.ref b17)]))) (fun t k => XT.bipushV X31.here hx rfl (14 : Int32) (hb hby at_190) (by decide) k) ?_
  refine own_go (S' := (T31.setTop (mkF m 194 #[.val (.int x0), .val (.int x1), .val (.int x2), .val (.int x3), .val (.ref b1), .unset, .unset, .unset, .unset, .unset, .unset, .unset, .unset, .unset] [(.int (983039 : Int32)), (.int (14 : Int32)), (.ref b17), (.ref b17)]))) (fun t k => Stand.ldcI X31 hx hown (mvT hZ (hw _ (List.mem_of_getElem? (i := 7) rfl))) rfl (hb hby at_192) k) ?_
  obtain ⟨T32, h32, X32, e32, W32, B32, st32⟩ := own_iastore (j := (14 : Int32)) (x := (983039 : Int32)) (Ls := #[.val (.int x0), .val (.int x1), .val (.int x2), .val (.int x3), .val (.ref b1), .unset, .unset, .unset, .unset, .unset, .unset, .unset, .unset, .unset]) (rest := [(.ref b17)]) A17 X31 hx hZ e31 (by decide) (i := 14) (by decide) (Nat.le_of_ble_eq_true rfl) (hb hby at_194)
  replace A1 := A1.other W32 ne17_A1
  replace A17 := B32.eq (vs' := [(.int (90 : Int32)), (.int (95 : Int32)), (.int (122 : Int32)), (.int (214 : Int32)), (.int (246 : Int32)), (.int (767 : Int32)), (.int (893 : Int32)), (.int (8191 : Int32)), (.int (8205 : Int32)), (.int (8591 : Int32)), (.int (12271 : Int32)), (.int (55295 : Int32)), (.int (64975 : Int32)), (.int (65533 : Int32)), (.int (983039 : Int32))]) rfl
  have N32 := Fr.snoc X32 N31 gn17
  have sz32 : n0 ≤ h32.size := W32.size ▸ sz31
  refine own_go (S' := (T32.setTop (mkF m 195 #[.val (.int x0), .val (.int x1), .val (.int x2), .val (.int x3), .val (.ref b1), .unset, .unset, .unset, .unset, .unset, .unset, .unset, .unset, .unset] [(.ref b17)]))) st32 ?_
  refine own_go (S' := (T32.setTop (mkF m 197 #[.val (.int x0), .val (.int x1), .val (.int x2), .val (.int x3), .val (.ref b1), .val (.ref b17), .unset, .unset, .unset, .unset, .unset, .unset, .unset, .unset] []))) (fun t k => XS.astore X32.here hx rfl (hb hby at_195) rfl rfl (l' := #[.val (.int x0), .val (.int x1), .val (.int x2), .val (.int x3), .val (.ref b1), .val (.ref b17), .unset, .unset, .unset, .unset, .unset, .unset, .unset, .unset]) rfl k) ?_
  refine own_go (S' := (T32.setTop (mkF m 198 #[.val (.int x0), .val (.int x1), .val (.int x2), .val (.int x3), .val (.ref b1), .val (.ref b17), .unset, .unset, .unset, .unset, .unset, .unset, .unset, .unset] [(.int x0)]))) (fun t k => XS.iloadN X32.here hx rfl (hb hby at_197) rfl k) ?_
  refine own_go (S' := (T32.setTop (mkF m 200 #[.val (.int x0), .val (.int x1), .val (.int x2), .val (.int x3), .val (.ref b1), .val (.ref b17), .unset, .unset, .unset, .unset, .unset, .unset, .unset, .unset] [(.int (2147483647 : Int32)), (.int x0)]))) (fun t k => Stand.ldcI X32 hx hown (mvT hZ (hw _ (List.mem_of_getElem? (i := 8) rfl))) rfl (hb hby at_198) k) ?_
  refine own_go (S' := (T32.setTop (mkF m 201 #[.val (.int x0), .val (.int x1), .val (.int x2), .val (.int x3), .val (.ref b1), .val (.ref b17), .unset, .unset, .unset, .unset, .unset, .unset, .unset, .unset] [(.int (x0 &&& (2147483647 : Int32)))]))) (fun t k => XS.iand X32.here hx rfl (hb hby at_200) rfl k) ?_
  refine own_go (S' := (T32.setTop (mkF m 203 #[.val (.int x0), .val (.int x1), .val (.int x2), .val (.int x3), .val (.ref b1), .val (.ref b17), .unset, .unset, .unset, .unset, .unset, .unset, .unset, .unset] [(.int (15 : Int32)), (.int (x0 &&& (2147483647 : Int32)))]))) (fun t k => XT.bipushV X32.here hx rfl (15 : Int32) (hb hby at_201) (by decide) k) ?_
  refine own_go (S' := (T32.setTop (mkF m 204 #[.val (.int x0), .val (.int x1), .val (.int x2), .val (.int x3), .val (.ref b1), .val (.ref b17), .unset, .unset, .unset, .unset, .unset, .unset, .unset, .unset] [(.int ((x0 &&& (2147483647 : Int32)) % (15 : Int32)))]))) (fun t k => iremM X32 hx rfl (hb hby at_203) rfl (by decide) k) ?_
  refine own_go (S' := (T32.setTop (mkF m 206 #[.val (.int x0), .val (.int x1), .val (.int x2), .val (.int x3), .val (.ref b1), .val (.ref b17), .val (.int ((x0 &&& (2147483647 : Int32)) % (15 : Int32))), .unset, .unset, .unset, .unset, .unset, .unset, .unset] []))) (fun t k => XS.istore X32.here hx rfl (hb hby at_204) rfl (l' := #[.val (.int x0), .val (.int x1), .val (.int x2), .val (.int x3), .val (.ref b1), .val (.ref b17), .val (.int ((x0 &&& (2147483647 : Int32)) % (15 : Int32))), .unset, .unset, .unset, .unset, .unset, .unset, .unset]) rfl k) ?_
  generalize hg204 : ((x0 &&& (2147483647 : Int32)) % (15 : Int32)) = y204
  have ix : 0 ≤ y204.toInt ∧ y204.toInt < 15 := hg204 ▸ own_rem (own_mask31 _) rfl (by decide)
  have hi0 : y204.toNatClampNeg < 15 := own_ltn ix.1 ix.2
  obtain ⟨lo, up, tl, th, q1, q2, q3, yes, nlo, nup, nxt⟩ := own_tab y204.toNatClampNeg hi0
  replace A1 := A1.eq (vs' := (List.map Value.int [(65 : Int32), (95 : Int32), (97 : Int32), (192 : Int32), (216 : Int32), (248 : Int32), (880 : Int32), (895 : Int32), (8204 : Int32), (8304 : Int32), (11264 : Int32), (12289 : Int32), (63744 : Int32), (65008 : Int32), (65536 : Int32)])) rfl
  replace A17 := A17.eq (vs' := (List.map Value.int [(90 : Int32), (95 : Int32), (122 : Int32), (214 : Int32), (246 : Int32), (767 : Int32), (893 : Int32), (8191 : Int32), (8205 : Int32), (8591 : Int32), (12271 : Int32), (55295 : Int32), (64975 : Int32), (65533 : Int32), (983039 : Int32)])) rfl
  obtain ⟨z1, i1, i2⟩ := own_inside lo up x1 (by omega) q2 (by omega)
  refine own_go (S' := (T32.setTop (mkF m 208 #[.val (.int x0), .val (.int x1), .val (.int x2), .val (.int x3), .val (.ref b1), .val (.ref b17), .val (.int y204), .unset, .unset, .unset, .unset, .unset, .unset, .unset] [(.ref b1)]))) (fun t k => XS.aload X32.here hx rfl (hb hby at_206) rfl rfl k) ?_
  refine own_go (S' := (T32.setTop (mkF m 210 #[.val (.int x0), .val (.int x1), .val (.int x2), .val (.int x3), .val (.ref b1), .val (.ref b17), .val (.int y204), .unset, .unset, .unset, .unset, .unset, .unset, .unset] [(.int y204), (.ref b1)]))) (fun t k => XS.iload X32.here hx rfl (hb hby at_208) rfl k) ?_
  refine own_go (S' := (T32.setTop (mkF m 211 #[.val (.int x0), .val (.int x1), .val (.int x2), .val (.int x3), .val (.ref b1), .val (.ref b17), .val (.int y204), .unset, .unset, .unset, .unset, .unset, .unset, .unset] [(.int lo)]))) (own_iaload (j := y204) (v := (.int lo)) A1 X32 hx hZ e32 (own_nneg ix.1) (i := y204.toNatClampNeg) rfl hi0 tl (hb hby at_210)) ?_
  refine own_go (S' := (T32.setTop (mkF m 213 #[.val (.int x0), .val (.int x1), .val (.int x2), .val (.int x3), .val (.ref b1), .val (.ref b17), .val (.int y204), .val (.int lo), .unset, .unset, .unset, .unset, .unset, .unset] []))) (fun t k => XS.istore X32.here hx rfl (hb hby at_211) rfl (l' := #[.val (.int x0), .val (.int x1), .val (.int x2), .val (.int x3), .val (.ref b1), .val (.ref b17), .val (.int y204), .val (.int lo), .unset, .unset, .unset, .unset, .unset, .unset]) rfl k) ?_
  refine own_go (S' := (T32.setTop (mkF m 215 #[.val (.int x0), .val (.int x1), .val (.int x2), .val (.int x3), .val (.ref b1), .val (.ref b17), .val (.int y204), .val (.int lo), .unset, .unset, .unset, .unset, .unset, .unset] [(.ref b17)]))) (fun t k => XS.aload X32.here hx rfl (hb hby at_213) rfl rfl k) ?_
  refine own_go (S' := (T32.setTop (mkF m 217 #[.val (.int x0), .val (.int x1), .val (.int x2), .val (.int x3), .val (.ref b1), .val (.ref b17), .val (.int y204), .val (.int lo), .unset, .unset, .unset, .unset, .unset, .unset] [(.int y204), (.ref b17)]))) (fun t k => XS.iload X32.here hx rfl (hb hby at_215) rfl k) ?_
  refine own_go (S' := (T32.setTop (mkF m 218 #[.val (.int x0), .val (.int x1), .val (.int x2), .val (.int x3), .val (.ref b1), .val (.ref b17), .val (.int y204), .val (.int lo), .unset, .unset, .unset, .unset, .unset, .unset] [(.int up)]))) (own_iaload (j := y204) (v := (.int up)) A17 X32 hx hZ e32 (own_nneg ix.1) (i := y204.toNatClampNeg) rfl hi0 th (hb hby at_217)) ?_
  refine own_go (S' := (T32.setTop (mkF m 220 #[.val (.int x0), .val (.int x1), .val (.int x2), .val (.int x3), .val (.ref b1), .val (.ref b17), .val (.int y204), .val (.int lo), .val (.int up), .unset, .unset, .unset, .unset, .unset] []))) (fun t k => XS.istore X32.here hx rfl (hb hby at_218) rfl (l' := #[.val (.int x0), .val (.int x1), .val (.int x2), .val (.int x3), .val (.ref b1), .val (.ref b17), .val (.int y204), .val (.int lo), .val (.int up), .unset, .unset, .unset, .unset, .unset]) rfl k) ?_
  refine own_go (S' := (T32.setTop (mkF m 222 #[.val (.int x0), .val (.int x1), .val (.int x2), .val (.int x3), .val (.ref b1), .val (.ref b17), .val (.int y204), .val (.int lo), .val (.int up), .unset, .unset, .unset, .unset, .unset] [(.int lo)]))) (fun t k => XS.iload X32.here hx rfl (hb hby at_220) rfl k) ?_
  refine own_go (S' := (T32.setTop (mkF m 223 #[.val (.int x0), .val (.int x1), .val (.int x2), .val (.int x3), .val (.ref b1), .val (.ref b17), .val (.int y204), .val (.int lo), .val (.int up), .unset, .unset, .unset, .unset, .unset] [(.int x1), (.int lo)]))) (fun t k => XS.iloadN X32.here hx rfl (hb hby at_222) rfl k) ?_
  refine own_go (S' := (T32.setTop (mkF m 225 #[.val (.int x0), .val (.int x1), .val (.int x2), .val (.int x3), .val (.ref b1), .val (.ref b17), .val (.int y204), .val (.int lo), .val (.int up), .unset, .unset, .unset, .unset, .unset] [(.int (2147483647 : Int32)), (.int x1), (.int lo)]))) (fun t k => Stand.ldcI X32 hx hown (mvT hZ (hw _ (List.mem_of_getElem? (i := 8) rfl))) rfl (hb hby at_223) k) ?_
  refine own_go (S' := (T32.setTop (mkF m 226 #[.val (.int x0), .val (.int x1), .val (.int x2), .val (.int x3), .val (.ref b1), .val (.ref b17), .val (.int y204), .val (.int lo), .val (.int up), .unset, .unset, .unset, .unset, .unset] [(.int (x1 &&& (2147483647 : Int32))), (.int lo)]))) (fun t k => XS.iand X32.here hx rfl (hb hby at_225) rfl k) ?_
  refine own_go (S' := (T32.setTop (mkF m 228 #[.val (.int x0), .val (.int x1), .val (.int x2), .val (.int x3), .val (.ref b1), .val (.ref b17), .val (.int y204), .val (.int lo), .val (.int up), .unset, .unset, .unset, .unset, .unset] [(.int up), (.int (x1 &&& (2147483647 : Int32))), (.int lo)]))) (fun t k => XS.iload X32.here hx rfl (hb hby at_226) rfl k) ?_
  refine own_go (S' := (T32.setTop (mkF m 230 #[.val (.int x0), .val (.int x1), .val (.int x2), .val (.int x3), .val (.ref b1), .val (.ref b17), .val (.int y204), .val (.int lo), .val (.int up), .unset, .unset, .unset, .unset, .unset] [(.int lo), (.int up), (.int (x1 &&& (2147483647 : Int32))), (.int lo)]))) (fun t k => XS.iload X32.here hx rfl (hb hby at_228) rfl k) ?_
  refine own_go (S' := (T32.setTop (mkF m 231 #[.val (.int x0), .val (.int x1), .val (.int x2), .val (.int x3), .val (.ref b1), .val (.ref b17), .val (.int y204), .val (.int lo), .val (.int up), .unset, .unset, .unset, .unset, .unset] [(.int (up - lo)), (.int (x1 &&& (2147483647 : Int32))), (.int lo)]))) (fun t k => XS.isub X32.here hx rfl (hb hby at_230) rfl k) ?_
  refine own_go (S' := (T32.setTop (mkF m 232 #[.val (.int x0), .val (.int x1), .val (.int x2), .val (.int x3), .val (.ref b1), .val (.ref b17), .val (.int y204), .val (.int lo), .val (.int up), .unset, .unset, .unset, .unset, .unset] [(.int (1 : Int32)), (.int (up - lo)), (.int (x1 &&& (2147483647 : Int32))), (.int lo)]))) (fun t k => XT.iconstV X32.here hx rfl (1 : Int32) (hb hby at_231) (by decide) k) ?_
  refine own_go (S' := (T32.setTop (mkF m 233 #[.val (.int x0), .val (.int x1), .val (.int x2), .val (.int x3), .val (.ref b1), .val (.ref b17), .val (.int y204), .val (.int lo), .val (.int up), .unset, .unset, .unset, .unset, .unset] [(.int ((up - lo) + (1 : Int32))), (.int (x1 &&& (2147483647 : Int32))), (.int lo)]))) (fun t k => XS.iadd X32.here hx rfl (hb hby at_232) rfl k) ?_
  refine own_go (S' := (T32.setTop (mkF m 234 #[.val (.int x0), .val (.int x1), .val (.int x2), .val (.int x3), .val (.ref b1), .val (.ref b17), .val (.int y204), .val (.int lo), .val (.int up), .unset, .unset, .unset, .unset, .unset] [(.int ((x1 &&& (2147483647 : Int32)) % ((up - lo) + (1 : Int32)))), (.int lo)]))) (fun t k => iremM X32 hx rfl (hb hby at_233) rfl z1 k) ?_
  refine own_go (S' := (T32.setTop (mkF m 235 #[.val (.int x0), .val (.int x1), .val (.int x2), .val (.int x3), .val (.ref b1), .val (.ref b17), .val (.int y204), .val (.int lo), .val (.int up), .unset, .unset, .unset, .unset, .unset] [(.int (lo + ((x1 &&& (2147483647 : Int32)) % ((up - lo) + (1 : Int32)))))]))) (fun t k => XS.iadd X32.here hx rfl (hb hby at_234) rfl k) ?_
  refine own_go (S' := (T32.setTop (mkF m 237 #[.val (.int x0), .val (.int x1), .val (.int x2), .val (.int x3), .val (.ref b1), .val (.ref b17), .val (.int y204), .val (.int lo), .val (.int up), .val (.int (lo + ((x1 &&& (2147483647 : Int32)) % ((up - lo) + (1 : Int32))))), .unset, .unset, .unset, .unset] []))) (fun t k => XS.istore X32.here hx rfl (hb hby at_235) rfl (l' := #[.val (.int x0), .val (.int x1), .val (.int x2), .val (.int x3), .val (.ref b1), .val (.ref b17), .val (.int y204), .val (.int lo), .val (.int up), .val (.int (lo + ((x1 &&& (2147483647 : Int32)) % ((up - lo) + (1 : Int32))))), .unset, .unset, .unset, .unset]) rfl k) ?_
  refine own_go (S' := (T32.setTop (mkF m 239 #[.val (.int x0), .val (.int x1), .val (.int x2), .val (.int x3), .val (.ref b1), .val (.ref b17), .val (.int y204), .val (.int lo), .val (.int up), .val (.int (lo + ((x1 &&& (2147483647 : Int32)) % ((up - lo) + (1 : Int32))))), .unset, .unset, .unset, .unset] [(.int (lo + ((x1 &&& (2147483647 : Int32)) % ((up - lo) + (1 : Int32)))))]))) (fun t k => XS.iload X32.here hx rfl (hb hby at_237) rfl k) ?_
  obtain ⟨T33, X33, e33, st33⟩ := own_callP X32 hx hZ (y := (⟨"com/example/hornbeam/hornbeam/model/XmlCharacters", "isNCNameStart", "(I)Z"⟩ : MethodName)) hown (hw _ (List.mem_of_getElem? (i := 9) rfl)) (hw _ (List.mem_of_getElem? (i := 10) rfl)) (hw _ (List.mem_of_getElem? (i := 11) rfl)) (hw _ (List.mem_of_getElem? (i := 12) rfl)) (rm1 l Z a0 hw (lo + ((x1 &&& (2147483647 : Int32)) % ((up - lo) + (1 : Int32)))) h32) e32 (argsL := [(.int (lo + ((x1 &&& (2147483647 : Int32)) % ((up - lo) + (1 : Int32)))))]) (rest := []) (Ls := #[.val (.int x0), .val (.int x1), .val (.int x2), .val (.int x3), .val (.ref b1), .val (.ref b17), .val (.int y204), .val (.int lo), .val (.int up), .val (.int (lo + ((x1 &&& (2147483647 : Int32)) % ((up - lo) + (1 : Int32))))), .unset, .unset, .unset, .unset]) (hb hby at_239) pd_0 0 (by rw [hml]; rfl) (by decide) rfl rfl rfl (Nat.le_of_eq rfl) (by decide) (by decide) (by decide) (by decide)
  refine own_go (S' := (T33.setTop (mkF m 242 #[.val (.int x0), .val (.int x1), .val (.int x2), .val (.int x3), .val (.ref b1), .val (.ref b17), .val (.int y204), .val (.int lo), .val (.int up), .val (.int (lo + ((x1 &&& (2147483647 : Int32)) % ((up - lo) + (1 : Int32))))), .unset, .unset, .unset, .unset] [(.int (f1_0 (lo + ((x1 &&& (2147483647 : Int32)) % ((up - lo) + (1 : Int32))))))]))) st33 ?_
  refine own_go (S' := (T33.setTop (mkF m 245 #[.val (.int x0), .val (.int x1), .val (.int x2), .val (.int x3), .val (.ref b1), .val (.ref b17), .val (.int y204), .val (.int lo), .val (.int up), .val (.int (lo + ((x1 &&& (2147483647 : Int32)) % ((up - lo) + (1 : Int32))))), .unset, .unset, .unset, .unset] []))) (fun t k => XS.ifNo X33.here hx rfl (hb hby at_242) rfl ((if0 _ _).trans (feq (by rw [yes _ i1 i2]; decide)).1) k) ?_
  refine own_go (S' := (T33.setTop (mkF m 247 #[.val (.int x0), .val (.int x1), .val (.int x2), .val (.int x3), .val (.ref b1), .val (.ref b17), .val (.int y204), .val (.int lo), .val (.int up), .val (.int (lo + ((x1 &&& (2147483647 : Int32)) % ((up - lo) + (1 : Int32))))), .unset, .unset, .unset, .unset] [(.int lo)]))) (fun t k => XS.iload X33.here hx rfl (hb hby at_245) rfl k) ?_
  obtain ⟨T34, X34, e34, st34⟩ := own_callP X33 hx hZ (y := (⟨"com/example/hornbeam/hornbeam/model/XmlCharacters", "isNCNameStart", "(I)Z"⟩ : MethodName)) hown (hw _ (List.mem_of_getElem? (i := 9) rfl)) (hw _ (List.mem_of_getElem? (i := 10) rfl)) (hw _ (List.mem_of_getElem? (i := 11) rfl)) (hw _ (List.mem_of_getElem? (i := 12) rfl)) (rm1 l Z a0 hw lo h32) e33 (argsL := [(.int lo)]) (rest := []) (Ls := #[.val (.int x0), .val (.int x1), .val (.int x2), .val (.int x3), .val (.ref b1), .val (.ref b17), .val (.int y204), .val (.int lo), .val (.int up), .val (.int (lo + ((x1 &&& (2147483647 : Int32)) % ((up - lo) + (1 : Int32))))), .unset, .unset, .unset, .unset]) (hb hby at_247) pd_0 0 (by rw [hml]; rfl) (by decide) rfl rfl rfl (Nat.le_of_eq rfl) (by decide) (by decide) (by decide) (by decide)
  refine own_go (S' := (T34.setTop (mkF m 250 #[.val (.int x0), .val (.int x1), .val (.int x2), .val (.int x3), .val (.ref b1), .val (.ref b17), .val (.int y204), .val (.int lo), .val (.int up), .val (.int (lo + ((x1 &&& (2147483647 : Int32)) % ((up - lo) + (1 : Int32))))), .unset, .unset, .unset, .unset] [(.int (f1_0 lo))]))) st34 ?_
  refine own_go (S' := (T34.setTop (mkF m 253 #[.val (.int x0), .val (.int x1), .val (.int x2), .val (.int x3), .val (.ref b1), .val (.ref b17), .val (.int y204), .val (.int lo), .val (.int up), .val (.int (lo + ((x1 &&& (2147483647 : Int32)) % ((up - lo) + (1 : Int32))))), .unset, .unset, .unset, .unset] []))) (fun t k => XS.ifNo X34.here hx rfl (hb hby at_250) rfl ((if0 _ _).trans (feq (by rw [yes _ (Int.le_refl _) q2]; decide)).1) k) ?_
  refine own_go (S' := (T34.setTop (mkF m 255 #[.val (.int x0), .val (.int x1), .val (.int x2), .val (.int x3), .val (.ref b1), .val (.ref b17), .val (.int y204), .val (.int lo), .val (.int up), .val (.int (lo + ((x1 &&& (2147483647 : Int32)) % ((up - lo) + (1 : Int32))))), .unset, .unset, .unset, .unset] [(.int up)]))) (fun t k => XS.iload X34.here hx rfl (hb hby at_253) rfl k) ?_
  obtain ⟨T35, X35, e35, st35⟩ := own_callP X34 hx hZ (y := (⟨"com/example/hornbeam/hornbeam/model/XmlCharacters", "isNCNameStart", "(I)Z"⟩ : MethodName)) hown (hw _ (List.mem_of_getElem? (i := 9) rfl)) (hw _ (List.mem_of_getElem? (i := 10) rfl)) (hw _ (List.mem_of_getElem? (i := 11) rfl)) (hw _ (List.mem_of_getElem? (i := 12) rfl)) (rm1 l Z a0 hw up h32) e34 (argsL := [(.int up)]) (rest := []) (Ls := #[.val (.int x0), .val (.int x1), .val (.int x2), .val (.int x3), .val (.ref b1), .val (.ref b17), .val (.int y204), .val (.int lo), .val (.int up), .val (.int (lo + ((x1 &&& (2147483647 : Int32)) % ((up - lo) + (1 : Int32))))), .unset, .unset, .unset, .unset]) (hb hby at_255) pd_0 0 (by rw [hml]; rfl) (by decide) rfl rfl rfl (Nat.le_of_eq rfl) (by decide) (by decide) (by decide) (by decide)
  refine own_go (S' := (T35.setTop (mkF m 258 #[.val (.int x0), .val (.int x1), .val (.int x2), .val (.int x3), .val (.ref b1), .val (.ref b17), .val (.int y204), .val (.int lo), .val (.int up), .val (.int (lo + ((x1 &&& (2147483647 : Int32)) % ((up - lo) + (1 : Int32))))), .unset, .unset, .unset, .unset] [(.int (f1_0 up))]))) st35 ?_
  refine own_go (S' := (T35.setTop (mkF m 261 #[.val (.int x0), .val (.int x1), .val (.int x2), .val (.int x3), .val (.ref b1), .val (.ref b17), .val (.int y204), .val (.int lo), .val (.int up), .val (.int (lo + ((x1 &&& (2147483647 : Int32)) % ((up - lo) + (1 : Int32))))), .unset, .unset, .unset, .unset] []))) (fun t k => XS.ifNo X35.here hx rfl (hb hby at_258) rfl ((if0 _ _).trans (feq (by rw [yes _ q2 (Int.le_refl _)]; decide)).1) k) ?_
  refine own_go (S' := (T35.setTop (mkF m 263 #[.val (.int x0), .val (.int x1), .val (.int x2), .val (.int x3), .val (.ref b1), .val (.ref b17), .val (.int y204), .val (.int lo), .val (.int up), .val (.int (lo + ((x1 &&& (2147483647 : Int32)) % ((up - lo) + (1 : Int32))))), .unset, .unset, .unset, .unset] [(.int lo)]))) (fun t k => XS.iload X35.here hx rfl (hb hby at_261) rfl k) ?_
  refine own_go (S' := (T35.setTop (mkF m 264 #[.val (.int x0), .val (.int x1), .val (.int x2), .val (.int x3), .val (.ref b1), .val (.ref b17), .val (.int y204), .val (.int lo), .val (.int up), .val (.int (lo + ((x1 &&& (2147483647 : Int32)) % ((up - lo) + (1 : Int32))))), .unset, .unset, .unset, .unset] [(.int (1 : Int32)), (.int lo)]))) (fun t k => XT.iconstV X35.here hx rfl (1 : Int32) (hb hby at_263) (by decide) k) ?_
  refine own_go (S' := (T35.setTop (mkF m 265 #[.val (.int x0), .val (.int x1), .val (.int x2), .val (.int x3), .val (.ref b1), .val (.ref b17), .val (.int y204), .val (.int lo), .val (.int up), .val (.int (lo + ((x1 &&& (2147483647 : Int32)) % ((up - lo) + (1 : Int32))))), .unset, .unset, .unset, .unset] [(.int (lo - (1 : Int32)))]))) (fun t k => XS.isub X35.here hx rfl (hb hby at_264) rfl k) ?_
  obtain ⟨T36, X36, e36, st36⟩ := own_callP X35 hx hZ (y := (⟨"com/example/hornbeam/hornbeam/model/XmlCharacters", "isNCNameStart", "(I)Z"⟩ : MethodName)) hown (hw _ (List.mem_of_getElem? (i := 9) rfl)) (hw _ (List.mem_of_getElem? (i := 10) rfl)) (hw _ (List.mem_of_getElem? (i := 11) rfl)) (hw _ (List.mem_of_getElem? (i := 12) rfl)) (rm1 l Z a0 hw (lo - (1 : Int32)) h32) e35 (argsL := [(.int (lo - (1 : Int32)))]) (rest := []) (Ls := #[.val (.int x0), .val (.int x1), .val (.int x2), .val (.int x3), .val (.ref b1), .val (.ref b17), .val (.int y204), .val (.int lo), .val (.int up), .val (.int (lo + ((x1 &&& (2147483647 : Int32)) % ((up - lo) + (1 : Int32))))), .unset, .unset, .unset, .unset]) (hb hby at_265) pd_0 0 (by rw [hml]; rfl) (by decide) rfl rfl rfl (Nat.le_of_eq rfl) (by decide) (by decide) (by decide) (by decide)
  refine own_go (S' := (T36.setTop (mkF m 268 #[.val (.int x0), .val (.int x1), .val (.int x2), .val (.int x3), .val (.ref b1), .val (.ref b17), .val (.int y204), .val (.int lo), .val (.int up), .val (.int (lo + ((x1 &&& (2147483647 : Int32)) % ((up - lo) + (1 : Int32))))), .unset, .unset, .unset, .unset] [(.int (f1_0 (lo - (1 : Int32))))]))) st36 ?_
  refine own_go (S' := (T36.setTop (mkF m 271 #[.val (.int x0), .val (.int x1), .val (.int x2), .val (.int x3), .val (.ref b1), .val (.ref b17), .val (.int y204), .val (.int lo), .val (.int up), .val (.int (lo + ((x1 &&& (2147483647 : Int32)) % ((up - lo) + (1 : Int32))))), .unset, .unset, .unset, .unset] []))) (fun t k => XS.ifNo X36.here hx rfl (hb hby at_268) rfl ((if0 _ _).trans (teq nlo).2) k) ?_
  refine own_go (S' := (T36.setTop (mkF m 273 #[.val (.int x0), .val (.int x1), .val (.int x2), .val (.int x3), .val (.ref b1), .val (.ref b17), .val (.int y204), .val (.int lo), .val (.int up), .val (.int (lo + ((x1 &&& (2147483647 : Int32)) % ((up - lo) + (1 : Int32))))), .unset, .unset, .unset, .unset] [(.int up)]))) (fun t k => XS.iload X36.here hx rfl (hb hby at_271) rfl k) ?_
  refine own_go (S' := (T36.setTop (mkF m 274 #[.val (.int x0), .val (.int x1), .val (.int x2), .val (.int x3), .val (.ref b1), .val (.ref b17), .val (.int y204), .val (.int lo), .val (.int up), .val (.int (lo + ((x1 &&& (2147483647 : Int32)) % ((up - lo) + (1 : Int32))))), .unset, .unset, .unset, .unset] [(.int (1 : Int32)), (.int up)]))) (fun t k => XT.iconstV X36.here hx rfl (1 : Int32) (hb hby at_273) (by decide) k) ?_
  refine own_go (S' := (T36.setTop (mkF m 275 #[.val (.int x0), .val (.int x1), .val (.int x2), .val (.int x3), .val (.ref b1), .val (.ref b17), .val (.int y204), .val (.int lo), .val (.int up), .val (.int (lo + ((x1 &&& (2147483647 : Int32)) % ((up - lo) + (1 : Int32))))), .unset, .unset, .unset, .unset] [(.int (up + (1 : Int32)))]))) (fun t k => XS.iadd X36.here hx rfl (hb hby at_274) rfl k) ?_
  obtain ⟨T37, X37, e37, st37⟩ := own_callP X36 hx hZ (y := (⟨"com/example/hornbeam/hornbeam/model/XmlCharacters", "isNCNameStart", "(I)Z"⟩ : MethodName)) hown (hw _ (List.mem_of_getElem? (i := 9) rfl)) (hw _ (List.mem_of_getElem? (i := 10) rfl)) (hw _ (List.mem_of_getElem? (i := 11) rfl)) (hw _ (List.mem_of_getElem? (i := 12) rfl)) (rm1 l Z a0 hw (up + (1 : Int32)) h32) e36 (argsL := [(.int (up + (1 : Int32)))]) (rest := []) (Ls := #[.val (.int x0), .val (.int x1), .val (.int x2), .val (.int x3), .val (.ref b1), .val (.ref b17), .val (.int y204), .val (.int lo), .val (.int up), .val (.int (lo + ((x1 &&& (2147483647 : Int32)) % ((up - lo) + (1 : Int32))))), .unset, .unset, .unset, .unset]) (hb hby at_275) pd_0 0 (by rw [hml]; rfl) (by decide) rfl rfl rfl (Nat.le_of_eq rfl) (by decide) (by decide) (by decide) (by decide)
  refine own_go (S' := (T37.setTop (mkF m 278 #[.val (.int x0), .val (.int x1), .val (.int x2), .val (.int x3), .val (.ref b1), .val (.ref b17), .val (.int y204), .val (.int lo), .val (.int up), .val (.int (lo + ((x1 &&& (2147483647 : Int32)) % ((up - lo) + (1 : Int32))))), .unset, .unset, .unset, .unset] [(.int (f1_0 (up + (1 : Int32))))]))) st37 ?_
  refine own_go (S' := (T37.setTop (mkF m 281 #[.val (.int x0), .val (.int x1), .val (.int x2), .val (.int x3), .val (.ref b1), .val (.ref b17), .val (.int y204), .val (.int lo), .val (.int up), .val (.int (lo + ((x1 &&& (2147483647 : Int32)) % ((up - lo) + (1 : Int32))))), .unset, .unset, .unset, .unset] []))) (fun t k => XS.ifNo X37.here hx rfl (hb hby at_278) rfl ((if0 _ _).trans (teq nup).2) k) ?_
  refine own_go (S' := (T37.setTop (mkF m 282 #[.val (.int x0), .val (.int x1), .val (.int x2), .val (.int x3), .val (.ref b1), .val (.ref b17), .val (.int y204), .val (.int lo), .val (.int up), .val (.int (lo + ((x1 &&& (2147483647 : Int32)) % ((up - lo) + (1 : Int32))))), .unset, .unset, .unset, .unset] [(.int (1 : Int32))]))) (fun t k => XT.iconstV X37.here hx rfl (1 : Int32) (hb hby at_281) (by decide) k) ?_
  refine own_go (S' := (T37.setTop (mkF m 286 #[.val (.int x0), .val (.int x1), .val (.int x2), .val (.int x3), .val (.ref b1), .val (.ref b17), .val (.int y204), .val (.int lo), .val (.int up), .val (.int (lo + ((x1 &&& (2147483647 : Int32)) % ((up - lo) + (1 : Int32))))), .unset, .unset, .unset, .unset] [(.int (1 : Int32))]))) (fun t k => XS.goto X37.here hx rfl (pc0 := 282) (pc' := 286) rfl (hb hby at_282) (by decide) (by decide) k) ?_
  refine own_go (S' := (T37.setTop (mkF m 288 #[.val (.int x0), .val (.int x1), .val (.int x2), .val (.int x3), .val (.ref b1), .val (.ref b17), .val (.int y204), .val (.int lo), .val (.int up), .val (.int (lo + ((x1 &&& (2147483647 : Int32)) % ((up - lo) + (1 : Int32))))), .val (.int (1 : Int32)), .unset, .unset, .unset] []))) (fun t k => XS.istore X37.here hx rfl (hb hby at_286) rfl (l' := #[.val (.int x0), .val (.int x1), .val (.int x2), .val (.int x3), .val (.ref b1), .val (.ref b17), .val (.int y204), .val (.int lo), .val (.int up), .val (.int (lo + ((x1 &&& (2147483647 : Int32)) % ((up - lo) + (1 : Int32))))), .val (.int (1 : Int32)), .unset, .unset, .unset]) rfl k) ?_
  refine own_go (S' := (T37.setTop (mkF m 290 #[.val (.int x0), .val (.int x1), .val (.int x2), .val (.int x3), .val (.ref b1), .val (.ref b17), .val (.int y204), .val (.int lo), .val (.int up), .val (.int (lo + ((x1 &&& (2147483647 : Int32)) % ((up - lo) + (1 : Int32))))), .val (.int (1 : Int32)), .unset, .unset, .unset] [(.int y204)]))) (fun t k => XS.iload X37.here hx rfl (hb hby at_288) rfl k) ?_
  refine own_go (S' := (T37.setTop (mkF m 292 #[.val (.int x0), .val (.int x1), .val (.int x2), .val (.int x3), .val (.ref b1), .val (.ref b17), .val (.int y204), .val (.int lo), .val (.int up), .val (.int (lo + ((x1 &&& (2147483647 : Int32)) % ((up - lo) + (1 : Int32))))), .val (.int (1 : Int32)), .unset, .unset, .unset] [(.int (14 : Int32)), (.int y204)]))) (fun t k => XT.bipushV X37.here hx rfl (14 : Int32) (hb hby at_290) (by decide) k) ?_
  by_cases hc292_38 : y204 < (14 : Int32)
  ·
    refine own_go (S' := (T37.setTop (mkF m 295 #[.val (.int x0), .val (.int x1), .val (.int x2), .val (.int x3), .val (.ref b1), .val (.ref b17), .val (.int y204), .val (.int lo), .val (.int up), .val (.int (lo + ((x1 &&& (2147483647 : Int32)) % ((up - lo) + (1 : Int32))))), .val (.int (1 : Int32)), .unset, .unset, .unset] []))) (fun t k => XS.icmpNo X37.here hx rfl (hb hby at_292) rfl (tlt hc292_38).2.1 k) ?_
    have k0 : (14 : Int32).toInt = 14 := by decide
    have k1 : y204.toInt < 14 := by rw [Int32.lt_iff_toInt_lt, k0] at hc292_38; exact hc292_38
    obtain ⟨lo2, tn, g1, g2, gap⟩ := nxt (own_ltn ix.1 k1)
    have o1 : (1 : Int32).toInt = 1 := by decide
    have j1 : (y204 + (1 : Int32)).toInt = y204.toInt + 1 := by rw [Jvm.Kit.i32_add (by omega) (by omega), o1]
    have j2 : (y204 + (1 : Int32)).toNatClampNeg = y204.toNatClampNeg + 1 := by simp only [Int32.toNatClampNeg, j1]; omega
    have m1 : (up + (1 : Int32)).toInt = up.toInt + 1 := by rw [Jvm.Kit.i32_add (by omega) (by omega), o1]
    have m2 : (lo2 - (1 : Int32)).toInt = lo2.toInt - 1 := by rw [Jvm.Kit.i32_sub (by omega) (by omega), o1]
    obtain ⟨z2, i3, i4⟩ := own_inside (up + (1 : Int32)) (lo2 - (1 : Int32)) x2 (by omega) (by omega) (by omega)
    have hi1 : y204.toNatClampNeg + 1 < 15 := own_ltn (j := y204 + (1 : Int32)) (by omega) (by omega) |> fun q => j2 ▸ q
    refine own_go (S' := (T37.setTop (mkF m 297 #[.val (.int x0), .val (.int x1), .val (.int x2), .val (.int x3), .val (.ref b1), .val (.ref b17), .val (.int y204), .val (.int lo), .val (.int up), .val (.int (lo + ((x1 &&& (2147483647 : Int32)) % ((up - lo) + (1 : Int32))))), .val (.int (1 : Int32)), .unset, .unset, .unset] [(.int up)]))) (fun t k => XS.iload X37.here hx rfl (hb hby at_295) rfl k) ?_
    refine own_go (S' := (T37.setTop (mkF m 298 #[.val (.int x0), .val (.int x1), .val (.int x2), .val (.int x3), .val (.ref b1), .val (.ref b17), .val (.int y204), .val (.int lo), .val (.int up), .val (.int (lo + ((x1 &&& (2147483647 : Int32)) % ((up - lo) + (1 : Int32))))), .val (.int (1 : Int32)), .unset, .unset, .unset] [(.int (1 : Int32)), (.int up)]))) (fun t k => XT.iconstV X37.here hx rfl (1 : Int32) (hb hby at_297) (by decide) k) ?_
    refine own_go (S' := (T37.setTop (mkF m 299 #[.val (.int x0), .val (.int x1), .val (.int x2), .val (.int x3), .val (.ref b1), .val (.ref b17), .val (.int y204), .val (.int lo), .val (.int up), .val (.int (lo + ((x1 &&& (2147483647 : Int32)) % ((up - lo) + (1 : Int32))))), .val (.int (1 : Int32)), .unset, .unset, .unset] [(.int (up + (1 : Int32)))]))) (fun t k => XS.iadd X37.here hx rfl (hb hby at_298) rfl k) ?_
    refine own_go (S' := (T37.setTop (mkF m 301 #[.val (.int x0), .val (.int x1), .val (.int x2), .val (.int x3), .val (.ref b1), .val (.ref b17), .val (.int y204), .val (.int lo), .val (.int up), .val (.int (lo + ((x1 &&& (2147483647 : Int32)) % ((up - lo) + (1 : Int32))))), .val (.int (1 : Int32)), .val (.int (up + (1 : Int32))), .unset, .unset] []))) (fun t k => XS.istore X37.here hx rfl (hb hby at_299) rfl (l' := #[.val (.int x0), .val (.int x1), .val (.int x2), .val (.int x3), .val (.ref b1), .val (.ref b17), .val (.int y204), .val (.int lo), .val (.int up), .val (.int (lo + ((x1 &&& (2147483647 : Int32)) % ((up - lo) + (1 : Int32))))), .val (.int (1 : Int32)), .val (.int (up + (1 : Int32))), .unset, .unset]) rfl k) ?_
    refine own_go (S' := (T37.setTop (mkF m 303 #[.val (.int x0), .val (.int x1), .val (.int x2), .val (.int x3), .val (.ref b1), .val (.ref b17), .val (.int y204), .val (.int lo), .val (.int up), .val (.int (lo + ((x1 &&& (2147483647 : Int32)) % ((up - lo) + (1 : Int32))))), .val (.int (1 : Int32)), .val (.int (up + (1 : Int32))), .unset, .unset] [(.ref b1)]))) (fun t k => XS.aload X37.here hx rfl (hb hby at_301) rfl rfl k) ?_
    refine own_go (S' := (T37.setTop (mkF m 305 #[.val (.int x0), .val (.int x1), .val (.int x2), .val (.int x3), .val (.ref b1), .val (.ref b17), .val (.int y204), .val (.int lo), .val (.int up), .val (.int (lo + ((x1 &&& (2147483647 : Int32)) % ((up - lo) + (1 : Int32))))), .val (.int (1 : Int32)), .val (.int (up + (1 : Int32))), .unset, .unset] [(.int y204), (.ref b1)]))) (fun t k => XS.iload X37.here hx rfl (hb hby at_303) rfl k) ?_
    refine own_go (S' := (T37.setTop (mkF m 306 #[.val (.int x0), .val (.int x1), .val (.int x2), .val (.int x3), .val (.ref b1), .val (.ref b17), .val (.int y204), .val (.int lo), .val (.int up), .val (.int (lo + ((x1 &&& (2147483647 : Int32)) % ((up - lo) + (1 : Int32))))), .val (.int (1 : Int32)), .val (.int (up + (1 : Int32))), .unset, .unset] [(.int (1 : Int32)), (.int y204), (.ref b1)]))) (fun t k => XT.iconstV X37.here hx rfl (1 : Int32) (hb hby at_305) (by decide) k) ?_
    refine own_go (S' := (T37.setTop (mkF m 307 #[.val (.int x0), .val (.int x1), .val (.int x2), .val (.int x3), .val (.ref b1), .val (.ref b17), .val (.int y204), .val (.int lo), .val (.int up), .val (.int (lo + ((x1 &&& (2147483647 : Int32)) % ((up - lo) + (1 : Int32))))), .val (.int (1 : Int32)), .val (.int (up + (1 : Int32))), .unset, .unset] [(.int (y204 + (1 : Int32))), (.ref b1)]))) (fun t k => XS.iadd X37.here hx rfl (hb hby at_306) rfl k) ?_
    refine own_go (S' := (T37.setTop (mkF m 308 #[.val (.int x0), .val (.int x1), .val (.int x2), .val (.int x3), .val (.ref b1), .val (.ref b17), .val (.int y204), .val (.int lo), .val (.int up), .val (.int (lo + ((x1 &&& (2147483647 : Int32)) % ((up - lo) + (1 : Int32))))), .val (.int (1 : Int32)), .val (.int (up + (1 : Int32))), .unset, .unset] [(.int lo2)]))) (own_iaload (j := (y204 + (1 : Int32))) (v := (.int lo2)) A1 X37 hx hZ e37 (own_nneg (by omega)) (i := (y204.toNatClampNeg + 1)) j2 hi1 tn (hb hby at_307)) ?_
    refine own_go (S' := (T37.setTop (mkF m 309 #[.val (.int x0), .val (.int x1), .val (.int x2), .val (.int x3), .val (.ref b1), .val (.ref b17), .val (.int y204), .val (.int lo), .val (.int up), .val (.int (lo + ((x1 &&& (2147483647 : Int32)) % ((up - lo) + (1 : Int32))))), .val (.int (1 : Int32)), .val (.int (up + (1 : Int32))), .unset, .unset] [(.int (1 : Int32)), (.int lo2)]))) (fun t k => XT.iconstV X37.here hx rfl (1 : Int32) (hb hby at_308) (by decide) k) ?_
    refine own_go (S' := (T37.setTop (mkF m 310 #[.val (.int x0), .val (.int x1), .val (.int x2), .val (.int x3), .val (.ref b1), .val (.ref b17), .val (.int y204), .val (.int lo), .val (.int up), .val (.int (lo + ((x1 &&& (2147483647 : Int32)) % ((up - lo) + (1 : Int32))))), .val (.int (1 : Int32)), .val (.int (up + (1 : Int32))), .unset, .unset] [(.int (lo2 - (1 : Int32)))]))) (fun t k => XS.isub X37.here hx rfl (hb hby at_309) rfl k) ?_
    refine own_go (S' := (T37.setTop (mkF m 312 #[.val (.int x0), .val (.int x1), .val (.int x2), .val (.int x3), .val (.ref b1), .val (.ref b17), .val (.int y204), .val (.int lo), .val (.int up), .val (.int (lo + ((x1 &&& (2147483647 : Int32)) % ((up - lo) + (1 : Int32))))), .val (.int (1 : Int32)), .val (.int (up + (1 : Int32))), .val (.int (lo2 - (1 : Int32))), .unset] []))) (fun t k => XS.istore X37.here hx rfl (hb hby at_310) rfl (l' := #[.val (.int x0), .val (.int x1), .val (.int x2), .val (.int x3), .val (.ref b1), .val (.ref b17), .val (.int y204), .val (.int lo), .val (.int up), .val (.int (lo + ((x1 &&& (2147483647 : Int32)) % ((up - lo) + (1 : Int32))))), .val (.int (1 : Int32)), .val (.int (up + (1 : Int32))), .val (.int (lo2 - (1 : Int32))), .unset]) rfl k) ?_
    refine own_go (S' := (T37.setTop (mkF m 314 #[.val (.int x0), .val (.int x1), .val (.int x2), .val (.int x3), .val (.ref b1), .val (.ref b17), .val (.int y204), .val (.int lo), .val (.int up), .val (.int (lo + ((x1 &&& (2147483647 : Int32)) % ((up - lo) + (1 : Int32))))), .val (.int (1 : Int32)), .val (.int (up + (1 : Int32))), .val (.int (lo2 - (1 : Int32))), .unset] [(.int (up + (1 : Int32)))]))) (fun t k => XS.iload X37.here hx rfl (hb hby at_312) rfl k) ?_
    refine own_go (S' := (T37.setTop (mkF m 315 #[.val (.int x0), .val (.int x1), .val (.int x2), .val (.int x3), .val (.ref b1), .val (.ref b17), .val (.int y204), .val (.int lo), .val (.int up), .val (.int (lo + ((x1 &&& (2147483647 : Int32)) % ((up - lo) + (1 : Int32))))), .val (.int (1 : Int32)), .val (.int (up + (1 : Int32))), .val (.int (lo2 - (1 : Int32))), .unset] [(.int x2), (.int (up + (1 : Int32)))]))) (fun t k => XS.iloadN X37.here hx rfl (hb hby at_314) rfl k) ?_
    refine own_go (S' := (T37.setTop (mkF m 317 #[.val (.int x0), .val (.int x1), .val (.int x2), .val (.int x3), .val (.ref b1), .val (.ref b17), .val (.int y204), .val (.int lo), .val (.int up), .val (.int (lo + ((x1 &&& (2147483647 : Int32)) % ((up - lo) + (1 : Int32))))), .val (.int (1 : Int32)), .val (.int (up + (1 : Int32))), .val (.int (lo2 - (1 : Int32))), .unset] [(.int (2147483647 : Int32)), (.int x2), (.int (up + (1 : Int32)))]))) (fun t k => Stand.ldcI X37 hx hown (mvT hZ (hw _ (List.mem_of_getElem? (i := 8) rfl))) rfl (hb hby at_315) k) ?_
    refine own_go (S' := (T37.setTop (mkF m 318 #[.val (.int x0), .val (.int x1), .val (.int x2), .val (.int x3), .val (.ref b1), .val (.ref b17), .val (.int y204), .val (.int lo), .val (.int up), .val (.int (lo + ((x1 &&& (2147483647 : Int32)) % ((up - lo) + (1 : Int32))))), .val (.int (1 : Int32)), .val (.int (up + (1 : Int32))), .val (.int (lo2 - (1 : Int32))), .unset] [(.int (x2 &&& (2147483647 : Int32))), (.int (up + (1 : Int32)))]))) (fun t k => XS.iand X37.here hx rfl (hb hby at_317) rfl k) ?_
    refine own_go (S' := (T37.setTop (mkF m 320 #[.val (.int x0), .val (.int x1), .val (.int x2), .val (.int x3), .val (.ref b1), .val (.ref b17), .val (.int y204), .val (.int lo), .val (.int up), .val (.int (lo + ((x1 &&& (2147483647 : Int32)) % ((up - lo) + (1 : Int32))))), .val (.int (1 : Int32)), .val (.int (up + (1 : Int32))), .val (.int (lo2 - (1 : Int32))), .unset] [(.int (lo2 - (1 : Int32))), (.int (x2 &&& (2147483647 : Int32))), (.int (up + (1 : Int32)))]))) (fun t k => XS.iload X37.here hx rfl (hb hby at_318) rfl k) ?_
    refine own_go (S' := (T37.setTop (mkF m 322 #[.val (.int x0), .val (.int x1), .val (.int x2), .val (.int x3), .val (.ref b1), .val (.ref b17), .val (.int y204), .val (.int lo), .val (.int up), .val (.int (lo + ((x1 &&& (2147483647 : Int32)) % ((up - lo) + (1 : Int32))))), .val (.int (1 : Int32)), .val (.int (up + (1 : Int32))), .val (.int (lo2 - (1 : Int32))), .unset] [(.int (up + (1 : Int32))), (.int (lo2 - (1 : Int32))), (.int (x2 &&& (2147483647 : Int32))), (.int (up + (1 : Int32)))]))) (fun t k => XS.iload X37.here hx rfl (hb hby at_320) rfl k) ?_
    refine own_go (S' := (T37.setTop (mkF m 323 #[.val (.int x0), .val (.int x1), .val (.int x2), .val (.int x3), .val (.ref b1), .val (.ref b17), .val (.int y204), .val (.int lo), .val (.int up), .val (.int (lo + ((x1 &&& (2147483647 : Int32)) % ((up - lo) + (1 : Int32))))), .val (.int (1 : Int32)), .val (.int (up + (1 : Int32))), .val (.int (lo2 - (1 : Int32))), .unset] [(.int ((lo2 - (1 : Int32)) - (up + (1 : Int32)))), (.int (x2 &&& (2147483647 : Int32))), (.int (up + (1 : Int32)))]))) (fun t k => XS.isub X37.here hx rfl (hb hby at_322) rfl k) ?_
    refine own_go (S' := (T37.setTop (mkF m 324 #[.val (.int x0), .val (.int x1), .val (.int x2), .val (.int x3), .val (.ref b1), .val (.ref b17), .val (.int y204), .val (.int lo), .val (.int up), .val (.int (lo + ((x1 &&& (2147483647 : Int32)) % ((up - lo) + (1 : Int32))))), .val (.int (1 : Int32)), .val (.int (up + (1 : Int32))), .val (.int (lo2 - (1 : Int32))), .unset] [(.int (1 : Int32)), (.int ((lo2 - (1 : Int32)) - (up + (1 : Int32)))), (.int (x2 &&& (2147483647 : Int32))), (.int (up + (1 : Int32)))]))) (fun t k => XT.iconstV X37.here hx rfl (1 : Int32) (hb hby at_323) (by decide) k) ?_
    refine own_go (S' := (T37.setTop (mkF m 325 #[.val (.int x0), .val (.int x1), .val (.int x2), .val (.int x3), .val (.ref b1), .val (.ref b17), .val (.int y204), .val (.int lo), .val (.int up), .val (.int (lo + ((x1 &&& (2147483647 : Int32)) % ((up - lo) + (1 : Int32))))), .val (.int (1 : Int32)), .val (.int (up + (1 : Int32))), .val (.int (lo2 - (1 : Int32))), .unset] [(.int (((lo2 - (1 : Int32)) - (up + (1 : Int32))) + (1 : Int32))), (.int (x2 &&& (2147483647 : Int32))), (.int (up + (1 : Int32)))]))) (fun t k => XS.iadd X37.here hx rfl (hb hby at_324) rfl k) ?_
    refine own_go (S' := (T37.setTop (mkF m 326 #[.val (.int x0), .val (.int x1), .val (.int x2), .val (.int x3), .val (.ref b1), .val (.ref b17), .val (.int y204), .val (.int lo), .val (.int up), .val (.int (lo + ((x1 &&& (2147483647 : Int32)) % ((up - lo) + (1 : Int32))))), .val (.int (1 : Int32)), .val (.int (up + (1 : Int32))), .val (.int (lo2 - (1 : Int32))), .unset] [(.int ((x2 &&& (2147483647 : Int32)) % (((lo2 - (1 : Int32)) - (up + (1 : Int32))) + (1 : Int32)))), (.int (up + (1 : Int32)))]))) (fun t k => iremM X37 hx rfl (hb hby at_325) rfl z2 k) ?_
    refine own_go (S' := (T37.setTop (mkF m 327 #[.val (.int x0), .val (.int x1), .val (.int x2), .val (.int x3), .val (.ref b1), .val (.ref b17), .val (.int y204), .val (.int lo), .val (.int up), .val (.int (lo + ((x1 &&& (2147483647 : Int32)) % ((up - lo) + (1 : Int32))))), .val (.int (1 : Int32)), .val (.int (up + (1 : Int32))), .val (.int (lo2 - (1 : Int32))), .unset] [(.int ((up + (1 : Int32)) + ((x2 &&& (2147483647 : Int32)) % (((lo2 - (1 : Int32)) - (up + (1 : Int32))) + (1 : Int32)))))]))) (fun t k => XS.iadd X37.here hx rfl (hb hby at_326) rfl k) ?_
    refine own_go (S' := (T37.setTop (mkF m 329 #[.val (.int x0), .val (.int x1), .val (.int x2), .val (.int x3), .val (.ref b1), .val (.ref b17), .val (.int y204), .val (.int lo), .val (.int up), .val (.int (lo + ((x1 &&& (2147483647 : Int32)) % ((up - lo) + (1 : Int32))))), .val (.int (1 : Int32)), .val (.int (up + (1 : Int32))), .val (.int (lo2 - (1 : Int32))), .val (.int ((up + (1 : Int32)) + ((x2 &&& (2147483647 : Int32)) % (((lo2 - (1 : Int32)) - (up + (1 : Int32))) + (1 : Int32)))))] []))) (fun t k => XS.istore X37.here hx rfl (hb hby at_327) rfl (l' := #[.val (.int x0), .val (.int x1), .val (.int x2), .val (.int x3), .val (.ref b1), .val (.ref b17), .val (.int y204), .val (.int lo), .val (.int up), .val (.int (lo + ((x1 &&& (2147483647 : Int32)) % ((up - lo) + (1 : Int32))))), .val (.int (1 : Int32)), .val (.int (up + (1 : Int32))), .val (.int (lo2 - (1 : Int32))), .val (.int ((up + (1 : Int32)) + ((x2 &&& (2147483647 : Int32)) % (((lo2 - (1 : Int32)) - (up + (1 : Int32))) + (1 : Int32)))))]) rfl k) ?_
    refine own_go (S' := (T37.setTop (mkF m 331 #[.val (.int x0), .val (.int x1), .val (.int x2), .val (.int x3), .val (.ref b1), .val (.ref b17), .val (.int y204), .val (.int lo), .val (.int up), .val (.int (lo + ((x1 &&& (2147483647 : Int32)) % ((up - lo) + (1 : Int32))))), .val (.int (1 : Int32)), .val (.int (up + (1 : Int32))), .val (.int (lo2 - (1 : Int32))), .val (.int ((up + (1 : Int32)) + ((x2 &&& (2147483647 : Int32)) % (((lo2 - (1 : Int32)) - (up + (1 : Int32))) + (1 : Int32)))))] [(.int (1 : Int32))]))) (fun t k => XS.iload X37.here hx rfl (hb hby at_329) rfl k) ?_
    refine own_go (S' := (T37.setTop (mkF m 334 #[.val (.int x0), .val (.int x1), .val (.int x2), .val (.int x3), .val (.ref b1), .val (.ref b17), .val (.int y204), .val (.int lo), .val (.int up), .val (.int (lo + ((x1 &&& (2147483647 : Int32)) % ((up - lo) + (1 : Int32))))), .val (.int (1 : Int32)), .val (.int (up + (1 : Int32))), .val (.int (lo2 - (1 : Int32))), .val (.int ((up + (1 : Int32)) + ((x2 &&& (2147483647 : Int32)) % (((lo2 - (1 : Int32)) - (up + (1 : Int32))) + (1 : Int32)))))] []))) (fun t k => XS.ifNo X37.here hx rfl (hb hby at_331) rfl ((if0 _ _).trans (feq (by decide)).1) k) ?_
    refine own_go (S' := (T37.setTop (mkF m 336 #[.val (.int x0), .val (.int x1), .val (.int x2), .val (.int x3), .val (.ref b1), .val (.ref b17), .val (.int y204), .val (.int lo), .val (.int up), .val (.int (lo + ((x1 &&& (2147483647 : Int32)) % ((up - lo) + (1 : Int32))))), .val (.int (1 : Int32)), .val (.int (up + (1 : Int32))), .val (.int (lo2 - (1 : Int32))), .val (.int ((up + (1 : Int32)) + ((x2 &&& (2147483647 : Int32)) % (((lo2 - (1 : Int32)) - (up + (1 : Int32))) + (1 : Int32)))))] [(.int ((up + (1 : Int32)) + ((x2 &&& (2147483647 : Int32)) % (((lo2 - (1 : Int32)) - (up + (1 : Int32))) + (1 : Int32)))))]))) (fun t k => XS.iload X37.here hx rfl (hb hby at_334) rfl k) ?_
    obtain ⟨T39, X39, e39, st39⟩ := own_callP X37 hx hZ (y := (⟨"com/example/hornbeam/hornbeam/model/XmlCharacters", "isNCNameStart", "(I)Z"⟩ : MethodName)) hown (hw _ (List.mem_of_getElem? (i := 9) rfl)) (hw _ (List.mem_of_getElem? (i := 10) rfl)) (hw _ (List.mem_of_getElem? (i := 11) rfl)) (hw _ (List.mem_of_getElem? (i := 12) rfl)) (rm1 l Z a0 hw ((up + (1 : Int32)) + ((x2 &&& (2147483647 : Int32)) % (((lo2 - (1 : Int32)) - (up + (1 : Int32))) + (1 : Int32)))) h32) e37 (argsL := [(.int ((up + (1 : Int32)) + ((x2 &&& (2147483647 : Int32)) % (((lo2 - (1 : Int32)) - (up + (1 : Int32))) + (1 : Int32)))))]) (rest := []) (Ls := #[.val (.int x0), .val (.int x1), .val (.int x2), .val (.int x3), .val (.ref b1), .val (.ref b17), .val (.int y204), .val (.int lo), .val (.int up), .val (.int (lo + ((x1 &&& (2147483647 : Int32)) % ((up - lo) + (1 : Int32))))), .val (.int (1 : Int32)), .val (.int (up + (1 : Int32))), .val (.int (lo2 - (1 : Int32))), .val (.int ((up + (1 : Int32)) + ((x2 &&& (2147483647 : Int32)) % (((lo2 - (1 : Int32)) - (up + (1 : Int32))) + (1 : Int32)))))]) (hb hby at_336) pd_0 0 (by rw [hml]; rfl) (by decide) rfl rfl rfl (Nat.le_of_eq rfl) (by decide) (by decide) (by decide) (by decide)
    refine own_go (S' := (T39.setTop (mkF m 339 #[.val (.int x0), .val (.int x1), .val (.int x2), .val (.int x3), .val (.ref b1), .val (.ref b17), .val (.int y204), .val (.int lo), .val (.int up), .val (.int (lo + ((x1 &&& (2147483647 : Int32)) % ((up - lo) + (1 : Int32))))), .val (.int (1 : Int32)), .val (.int (up + (1 : Int32))), .val (.int (lo2 - (1 : Int32))), .val (.int ((up + (1 : Int32)) + ((x2 &&& (2147483647 : Int32)) % (((lo2 - (1 : Int32)) - (up + (1 : Int32))) + (1 : Int32)))))] [(.int (f1_0 ((up + (1 : Int32)) + ((x2 &&& (2147483647 : Int32)) % (((lo2 - (1 : Int32)) - (up + (1 : Int32))) + (1 : Int32))))))]))) st39 ?_
    refine own_go (S' := (T39.setTop (mkF m 342 #[.val (.int x0), .val (.int x1), .val (.int x2), .val (.int x3), .val (.ref b1), .val (.ref b17), .val (.int y204), .val (.int lo), .val (.int up), .val (.int (lo + ((x1 &&& (2147483647 : Int32)) % ((up - lo) + (1 : Int32))))), .val (.int (1 : Int32)), .val (.int (up + (1 : Int32))), .val (.int (lo2 - (1 : Int32))), .val (.int ((up + (1 : Int32)) + ((x2 &&& (2147483647 : Int32)) % (((lo2 - (1 : Int32)) - (up + (1 : Int32))) + (1 : Int32)))))] []))) (fun t k => XS.ifNo X39.here hx rfl (hb hby at_339) rfl ((if0 _ _).trans (teq (gap _ (by omega) (by omega))).2) k) ?_
    refine own_go (S' := (T39.setTop (mkF m 343 #[.val (.int x0), .val (.int x1), .val (.int x2), .val (.int x3), .val (.ref b1), .val (.ref b17), .val (.int y204), .val (.int lo), .val (.int up), .val (.int (lo + ((x1 &&& (2147483647 : Int32)) % ((up - lo) + (1 : Int32))))), .val (.int (1 : Int32)), .val (.int (up + (1 : Int32))), .val (.int (lo2 - (1 : Int32))), .val (.int ((up + (1 : Int32)) + ((x2 &&& (2147483647 : Int32)) % (((lo2 - (1 : Int32)) - (up + (1 : Int32))) + (1 : Int32)))))] [(.int (1 : Int32))]))) (fun t k => XT.iconstV X39.here hx rfl (1 : Int32) (hb hby at_342) (by decide) k) ?_
    refine own_go (S' := (T39.setTop (mkF m 347 #[.val (.int x0), .val (.int x1), .val (.int x2), .val (.int x3), .val (.ref b1), .val (.ref b17), .val (.int y204), .val (.int lo), .val (.int up), .val (.int (lo + ((x1 &&& (2147483647 : Int32)) % ((up - lo) + (1 : Int32))))), .val (.int (1 : Int32)), .val (.int (up + (1 : Int32))), .val (.int (lo2 - (1 : Int32))), .val (.int ((up + (1 : Int32)) + ((x2 &&& (2147483647 : Int32)) % (((lo2 - (1 : Int32)) - (up + (1 : Int32))) + (1 : Int32)))))] [(.int (1 : Int32))]))) (fun t k => XS.goto X39.here hx rfl (pc0 := 343) (pc' := 347) rfl (hb hby at_343) (by decide) (by decide) k) ?_
    refine own_go (S' := (T39.setTop (mkF m 349 #[.val (.int x0), .val (.int x1), .val (.int x2), .val (.int x3), .val (.ref b1), .val (.ref b17), .val (.int y204), .val (.int lo), .val (.int up), .val (.int (lo + ((x1 &&& (2147483647 : Int32)) % ((up - lo) + (1 : Int32))))), .val (.int (1 : Int32)), .val (.int (up + (1 : Int32))), .val (.int (lo2 - (1 : Int32))), .val (.int ((up + (1 : Int32)) + ((x2 &&& (2147483647 : Int32)) % (((lo2 - (1 : Int32)) - (up + (1 : Int32))) + (1 : Int32)))))] []))) (fun t k => XS.istore X39.here hx rfl (hb hby at_347) rfl (l' := #[.val (.int x0), .val (.int x1), .val (.int x2), .val (.int x3), .val (.ref b1), .val (.ref b17), .val (.int y204), .val (.int lo), .val (.int up), .val (.int (lo + ((x1 &&& (2147483647 : Int32)) % ((up - lo) + (1 : Int32))))), .val (.int (1 : Int32)), .val (.int (up + (1 : Int32))), .val (.int (lo2 - (1 : Int32))), .val (.int ((up + (1 : Int32)) + ((x2 &&& (2147483647 : Int32)) % (((lo2 - (1 : Int32)) - (up + (1 : Int32))) + (1 : Int32)))))]) rfl k) ?_
    refine own_go (S' := (T39.setTop (mkF m 350 #[.val (.int x0), .val (.int x1), .val (.int x2), .val (.int x3), .val (.ref b1), .val (.ref b17), .val (.int y204), .val (.int lo), .val (.int up), .val (.int (lo + ((x1 &&& (2147483647 : Int32)) % ((up - lo) + (1 : Int32))))), .val (.int (1 : Int32)), .val (.int (up + (1 : Int32))), .val (.int (lo2 - (1 : Int32))), .val (.int ((up + (1 : Int32)) + ((x2 &&& (2147483647 : Int32)) % (((lo2 - (1 : Int32)) - (up + (1 : Int32))) + (1 : Int32)))))] [(.int x3)]))) (fun t k => XS.iloadN X39.here hx rfl (hb hby at_349) rfl k) ?_
    refine own_go (S' := (T39.setTop (mkF m 352 #[.val (.int x0), .val (.int x1), .val (.int x2), .val (.int x3), .val (.ref b1), .val (.ref b17), .val (.int y204), .val (.int lo), .val (.int up), .val (.int (lo + ((x1 &&& (2147483647 : Int32)) % ((up - lo) + (1 : Int32))))), .val (.int (1 : Int32)), .val (.int (up + (1 : Int32))), .val (.int (lo2 - (1 : Int32))), .val (.int ((up + (1 : Int32)) + ((x2 &&& (2147483647 : Int32)) % (((lo2 - (1 : Int32)) - (up + (1 : Int32))) + (1 : Int32)))))] [(.int (65 : Int32)), (.int x3)]))) (fun t k => XT.bipushV X39.here hx rfl (65 : Int32) (hb hby at_350) (by decide) k) ?_
    by_cases hc352_40 : x3 < (65 : Int32)
    ·
      refine own_go (S' := (T39.setTop (mkF m 361 #[.val (.int x0), .val (.int x1), .val (.int x2), .val (.int x3), .val (.ref b1), .val (.ref b17), .val (.int y204), .val (.int lo), .val (.int up), .val (.int (lo + ((x1 &&& (2147483647 : Int32)) % ((up - lo) + (1 : Int32))))), .val (.int (1 : Int32)), .val (.int (up + (1 : Int32))), .val (.int (lo2 - (1 : Int32))), .val (.int ((up + (1 : Int32)) + ((x2 &&& (2147483647 : Int32)) % (((lo2 - (1 : Int32)) - (up + (1 : Int32))) + (1 : Int32)))))] []))) (fun t k => XS.icmpYes X39.here hx rfl (pc0 := 352) (pc' := 361) rfl (hb hby at_352) rfl (tlt hc352_40).1 (by decide) (by decide) k) ?_
      refine own_go (S' := (T39.setTop (mkF m 363 #[.val (.int x0), .val (.int x1), .val (.int x2), .val (.int x3), .val (.ref b1), .val (.ref b17), .val (.int y204), .val (.int lo), .val (.int up), .val (.int (lo + ((x1 &&& (2147483647 : Int32)) % ((up - lo) + (1 : Int32))))), .val (.int (1 : Int32)), .val (.int (up + (1 : Int32))), .val (.int (lo2 - (1 : Int32))), .val (.int ((up + (1 : Int32)) + ((x2 &&& (2147483647 : Int32)) % (((lo2 - (1 : Int32)) - (up + (1 : Int32))) + (1 : Int32)))))] [(.int (1 : Int32))]))) (fun t k => XS.iload X39.here hx rfl (hb hby at_361) rfl k) ?_
      refine own_go (S' := (T39.setTop (mkF m 366 #[.val (.int x0), .val (.int x1), .val (.int x2), .val (.int x3), .val (.ref b1), .val (.ref b17), .val (.int y204), .val (.int lo), .val (.int up), .val (.int (lo + ((x1 &&& (2147483647 : Int32)) % ((up - lo) + (1 : Int32))))), .val (.int (1 : Int32)), .val (.int (up + (1 : Int32))), .val (.int (lo2 - (1 : Int32))), .val (.int ((up + (1 : Int32)) + ((x2 &&& (2147483647 : Int32)) % (((lo2 - (1 : Int32)) - (up + (1 : Int32))) + (1 : Int32)))))] []))) (fun t k => XS.ifNo X39.here hx rfl (hb hby at_363) rfl ((if0 _ _).trans (feq (by decide)).1) k) ?_
      refine own_go (S' := (T39.setTop (mkF m 367 #[.val (.int x0), .val (.int x1), .val (.int x2), .val (.int x3), .val (.ref b1), .val (.ref b17), .val (.int y204), .val (.int lo), .val (.int up), .val (.int (lo + ((x1 &&& (2147483647 : Int32)) % ((up - lo) + (1 : Int32))))), .val (.int (1 : Int32)), .val (.int (up + (1 : Int32))), .val (.int (lo2 - (1 : Int32))), .val (.int ((up + (1 : Int32)) + ((x2 &&& (2147483647 : Int32)) % (((lo2 - (1 : Int32)) - (up + (1 : Int32))) + (1 : Int32)))))] [(.int x3)]))) (fun t k => XS.iloadN X39.here hx rfl (hb hby at_366) rfl k) ?_
      obtain ⟨T41, X41, e41, st41⟩ := own_callP X39 hx hZ (y := (⟨"com/example/hornbeam/hornbeam/model/XmlCharacters", "isNCNameStart", "(I)Z"⟩ : MethodName)) hown (hw _ (List.mem_of_getElem? (i := 9) rfl)) (hw _ (List.mem_of_getElem? (i := 10) rfl)) (hw _ (List.mem_of_getElem? (i := 11) rfl)) (hw _ (List.mem_of_getElem? (i := 12) rfl)) (rm1 l Z a0 hw x3 h32) e39 (argsL := [(.int x3)]) (rest := []) (Ls := #[.val (.int x0), .val (.int x1), .val (.int x2), .val (.int x3), .val (.ref b1), .val (.ref b17), .val (.int y204), .val (.int lo), .val (.int up), .val (.int (lo + ((x1 &&& (2147483647 : Int32)) % ((up - lo) + (1 : Int32))))), .val (.int (1 : Int32)), .val (.int (up + (1 : Int32))), .val (.int (lo2 - (1 : Int32))), .val (.int ((up + (1 : Int32)) + ((x2 &&& (2147483647 : Int32)) % (((lo2 - (1 : Int32)) - (up + (1 : Int32))) + (1 : Int32)))))]) (hb hby at_367) pd_0 0 (by rw [hml]; rfl) (by decide) rfl rfl rfl (Nat.le_of_eq rfl) (by decide) (by decide) (by decide) (by decide)
      refine own_go (S' := (T41.setTop (mkF m 370 #[.val (.int x0), .val (.int x1), .val (.int x2), .val (.int x3), .val (.ref b1), .val (.ref b17), .val (.int y204), .val (.int lo), .val (.int up), .val (.int (lo + ((x1 &&& (2147483647 : Int32)) % ((up - lo) + (1 : Int32))))), .val (.int (1 : Int32)), .val (.int (up + (1 : Int32))), .val (.int (lo2 - (1 : Int32))), .val (.int ((up + (1 : Int32)) + ((x2 &&& (2147483647 : Int32)) % (((lo2 - (1 : Int32)) - (up + (1 : Int32))) + (1 : Int32)))))] [(.int (f1_0 x3))]))) st41 ?_
      refine own_go (S' := (T41.setTop (mkF m 373 #[.val (.int x0), .val (.int x1), .val (.int x2), .val (.int x3), .val (.ref b1), .val (.ref b17), .val (.int y204), .val (.int lo), .val (.int up), .val (.int (lo + ((x1 &&& (2147483647 : Int32)) % ((up - lo) + (1 : Int32))))), .val (.int (1 : Int32)), .val (.int (up + (1 : Int32))), .val (.int (lo2 - (1 : Int32))), .val (.int ((up + (1 : Int32)) + ((x2 &&& (2147483647 : Int32)) % (((lo2 - (1 : Int32)) - (up + (1 : Int32))) + (1 : Int32)))))] []))) (fun t k => XS.ifNo X41.here hx rfl (hb hby at_370) rfl ((if0 _ _).trans (teq (own_lo x3 (Or.inl hc352_40))).2) k) ?_
      refine own_go (S' := (T41.setTop (mkF m 374 #[.val (.int x0), .val (.int x1), .val (.int x2), .val (.int x3), .val (.ref b1), .val (.ref b17), .val (.int y204), .val (.int lo), .val (.int up), .val (.int (lo + ((x1 &&& (2147483647 : Int32)) % ((up - lo) + (1 : Int32))))), .val (.int (1 : Int32)), .val (.int (up + (1 : Int32))), .val (.int (lo2 - (1 : Int32))), .val (.int ((up + (1 : Int32)) + ((x2 &&& (2147483647 : Int32)) % (((lo2 - (1 : Int32)) - (up + (1 : Int32))) + (1 : Int32)))))] [(.int (1 : Int32))]))) (fun t k => XT.iconstV X41.here hx rfl (1 : Int32) (hb hby at_373) (by decide) k) ?_
      refine own_go (S' := (T41.setTop (mkF m 378 #[.val (.int x0), .val (.int x1), .val (.int x2), .val (.int x3), .val (.ref b1), .val (.ref b17), .val (.int y204), .val (.int lo), .val (.int up), .val (.int (lo + ((x1 &&& (2147483647 : Int32)) % ((up - lo) + (1 : Int32))))), .val (.int (1 : Int32)), .val (.int (up + (1 : Int32))), .val (.int (lo2 - (1 : Int32))), .val (.int ((up + (1 : Int32)) + ((x2 &&& (2147483647 : Int32)) % (((lo2 - (1 : Int32)) - (up + (1 : Int32))) + (1 : Int32)))))] [(.int (1 : Int32))]))) (fun t k => XS.goto X41.here hx rfl (pc0 := 374) (pc' := 378) rfl (hb hby at_374) (by decide) (by decide) k) ?_
      refine own_go (S' := (T41.setTop (mkF m 380 #[.val (.int x0), .val (.int x1), .val (.int x2), .val (.int x3), .val (.ref b1), .val (.ref b17), .val (.int y204), .val (.int lo), .val (.int up), .val (.int (lo + ((x1 &&& (2147483647 : Int32)) % ((up - lo) + (1 : Int32))))), .val (.int (1 : Int32)), .val (.int (up + (1 : Int32))), .val (.int (lo2 - (1 : Int32))), .val (.int ((up + (1 : Int32)) + ((x2 &&& (2147483647 : Int32)) % (((lo2 - (1 : Int32)) - (up + (1 : Int32))) + (1 : Int32)))))] []))) (fun t k => XS.istore X41.here hx rfl (hb hby at_378) rfl (l' := #[.val (.int x0), .val (.int x1), .val (.int x2), .val (.int x3), .val (.ref b1), .val (.ref b17), .val (.int y204), .val (.int lo), .val (.int up), .val (.int (lo + ((x1 &&& (2147483647 : Int32)) % ((up - lo) + (1 : Int32))))), .val (.int (1 : Int32)), .val (.int (up + (1 : Int32))), .val (.int (lo2 - (1 : Int32))), .val (.int ((up + (1 : Int32)) + ((x2 &&& (2147483647 : Int32)) % (((lo2 - (1 : Int32)) - (up + (1 : Int32))) + (1 : Int32)))))]) rfl k) ?_
      refine own_go (S' := (T41.setTop (mkF m 382 #[.val (.int x0), .val (.int x1), .val (.int x2), .val (.int x3), .val (.ref b1), .val (.ref b17), .val (.int y204), .val (.int lo), .val (.int up), .val (.int (lo + ((x1 &&& (2147483647 : Int32)) % ((up - lo) + (1 : Int32))))), .val (.int (1 : Int32)), .val (.int (up + (1 : Int32))), .val (.int (lo2 - (1 : Int32))), .val (.int ((up + (1 : Int32)) + ((x2 &&& (2147483647 : Int32)) % (((lo2 - (1 : Int32)) - (up + (1 : Int32))) + (1 : Int32)))))] [(.int (1 : Int32))]))) (fun t k => XS.iload X41.here hx rfl (hb hby at_380) rfl k) ?_
      exact own_retN X41 hx hret hlk (by simp) (hb hby at_382) (by first | rfl | decide) (by decide) (by decide) ⟨rfl, N32⟩
    ·
      refine own_go (S' := (T39.setTop (mkF m 355 #[.val (.int x0), .val (.int x1), .val (.int x2), .val (.int x3), .val (.ref b1), .val (.ref b17), .val (.int y204), .val (.int lo), .val (.int up), .val (.int (lo + ((x1 &&& (2147483647 : Int32)) % ((up - lo) + (1 : Int32))))), .val (.int (1 : Int32)), .val (.int (up + (1 : Int32))), .val (.int (lo2 - (1 : Int32))), .val (.int ((up + (1 : Int32)) + ((x2 &&& (2147483647 : Int32)) % (((lo2 - (1 : Int32)) - (up + (1 : Int32))) + (1 : Int32)))))] []))) (fun t k => XS.icmpNo X39.here hx rfl (hb hby at_352) rfl (flt hc352_40).1 k) ?_
      refine own_go (S' := (T39.setTop (mkF m 356 #[.val (.int x0), .val (.int x1), .val (.int x2), .val (.int x3), .val (.ref b1), .val (.ref b17), .val (.int y204), .val (.int lo), .val (.int up), .val (.int (lo + ((x1 &&& (2147483647 : Int32)) % ((up - lo) + (1 : Int32))))), .val (.int (1 : Int32)), .val (.int (up + (1 : Int32))), .val (.int (lo2 - (1 : Int32))), .val (.int ((up + (1 : Int32)) + ((x2 &&& (2147483647 : Int32)) % (((lo2 - (1 : Int32)) - (up + (1 : Int32))) + (1 : Int32)))))] [(.int x3)]))) (fun t k => XS.iloadN X39.here hx rfl (hb hby at_355) rfl k) ?_
      refine own_go (S' := (T39.setTop (mkF m 358 #[.val (.int x0), .val (.int x1), .val (.int x2), .val (.int x3), .val (.ref b1), .val (.ref b17), .val (.int y204), .val (.int lo), .val (.int up), .val (.int (lo + ((x1 &&& (2147483647 : Int32)) % ((up - lo) + (1 : Int32))))), .val (.int (1 : Int32)), .val (.int (up + (1 : Int32))), .val (.int (lo2 - (1 : Int32))), .val (.int ((up + (1 : Int32)) + ((x2 &&& (2147483647 : Int32)) % (((lo2 - (1 : Int32)) - (up + (1 : Int32))) + (1 : Int32)))))] [(.int (983039 : Int32)), (.int x3)]))) (fun t k => Stand.ldcI X39 hx hown (mvT hZ (hw _ (List.mem_of_getElem? (i := 7) rfl))) rfl (hb hby at_356) k) ?_
      by_cases hc358_42 : (983039 : Int32) < x3
      ·
        refine own_go (S' := (T39.setTop (mkF m 361 #[.val (.int x0), .val (.int x1), .val (.int x2), .val (.int x3), .val (.ref b1), .val (.ref b17), .val (.int y204), .val (.int lo), .val (.int up), .val (.int (lo + ((x1 &&& (2147483647 : Int32)) % ((up - lo) + (1 : Int32))))), .val (.int (1 : Int32)), .val (.int (up + (1 : Int32))), .val (.int (lo2 - (1 : Int32))), .val (.int ((up + (1 : Int32)) + ((x2 &&& (2147483647 : Int32)) % (((lo2 - (1 : Int32)) - (up + (1 : Int32))) + (1 : Int32)))))] []))) (fun t k => XS.icmpNo X39.here hx rfl (hb hby at_358) rfl (tlt hc358_42).2.2.2 k) ?_
        refine own_go (S' := (T39.setTop (mkF m 363 #[.val (.int x0), .val (.int x1), .val (.int x2), .val (.int x3), .val (.ref b1), .val (.ref b17), .val (.int y204), .val (.int lo), .val (.int up), .val (.int (lo + ((x1 &&& (2147483647 : Int32)) % ((up - lo) + (1 : Int32))))), .val (.int (1 : Int32)), .val (.int (up + (1 : Int32))), .val (.int (lo2 - (1 : Int32))), .val (.int ((up + (1 : Int32)) + ((x2 &&& (2147483647 : Int32)) % (((lo2 - (1 : Int32)) - (up + (1 : Int32))) + (1 : Int32)))))] [(.int (1 : Int32))]))) (fun t k => XS.iload X39.here hx rfl (hb hby at_361) rfl k) ?_
        refine own_go (S' := (T39.setTop (mkF m 366 #[.val (.int x0), .val (.int x1), .val (.int x2), .val (.int x3), .val (.ref b1), .val (.ref b17), .val (.int y204), .val (.int lo), .val (.int up), .val (.int (lo + ((x1 &&& (2147483647 : Int32)) % ((up - lo) + (1 : Int32))))), .val (.int (1 : Int32)), .val (.int (up + (1 : Int32))), .val (.int (lo2 - (1 : Int32))), .val (.int ((up + (1 : Int32)) + ((x2 &&& (2147483647 : Int32)) % (((lo2 - (1 : Int32)) - (up + (1 : Int32))) + (1 : Int32)))))] []))) (fun t k => XS.ifNo X39.here hx rfl (hb hby at_363) rfl ((if0 _ _).trans (feq (by decide)).1) k) ?_
        refine own_go (S' := (T39.setTop (mkF m 367 #[.val (.int x0), .val (.int x1), .val (.int x2), .val (.int x3), .val (.ref b1), .val (.ref b17), .val (.int y204), .val (.int lo), .val (.int up), .val (.int (lo + ((x1 &&& (2147483647 : Int32)) % ((up - lo) + (1 : Int32))))), .val (.int (1 : Int32)), .val (.int (up + (1 : Int32))), .val (.int (lo2 - (1 : Int32))), .val (.int ((up + (1 : Int32)) + ((x2 &&& (2147483647 : Int32)) % (((lo2 - (1 : Int32)) - (up + (1 : Int32))) + (1 : Int32)))))] [(.int x3)]))) (fun t k => XS.iloadN X39.here hx rfl (hb hby at_366) rfl k) ?_
        obtain ⟨T43, X43, e43, st43⟩ := own_callP X39 hx hZ (y := (⟨"com/example/hornbeam/hornbeam/model/XmlCharacters", "isNCNameStart", "(I)Z"⟩ : MethodName)) hown (hw _ (List.mem_of_getElem? (i := 9) rfl)) (hw _ (List.mem_of_getElem? (i := 10) rfl)) (hw _ (List.mem_of_getElem? (i := 11) rfl)) (hw _ (List.mem_of_getElem? (i := 12) rfl)) (rm1 l Z a0 hw x3 h32) e39 (argsL := [(.int x3)]) (rest := []) (Ls := #[.val (.int x0), .val (.int x1), .val (.int x2), .val (.int x3), .val (.ref b1), .val (.ref b17), .val (.int y204), .val (.int lo), .val (.int up), .val (.int (lo + ((x1 &&& (2147483647 : Int32)) % ((up - lo) + (1 : Int32))))), .val (.int (1 : Int32)), .val (.int (up + (1 : Int32))), .val (.int (lo2 - (1 : Int32))), .val (.int ((up + (1 : Int32)) + ((x2 &&& (2147483647 : Int32)) % (((lo2 - (1 : Int32)) - (up + (1 : Int32))) + (1 : Int32)))))]) (hb hby at_367) pd_0 0 (by rw [hml]; rfl) (by decide) rfl rfl rfl (Nat.le_of_eq rfl) (by decide) (by decide) (by decide) (by decide)
        refine own_go (S' := (T43.setTop (mkF m 370 #[.val (.int x0), .val (.int x1), .val (.int x2), .val (.int x3), .val (.ref b1), .val (.ref b17), .val (.int y204), .val (.int lo), .val (.int up), .val (.int (lo + ((x1 &&& (2147483647 : Int32)) % ((up - lo) + (1 : Int32))))), .val (.int (1 : Int32)), .val (.int (up + (1 : Int32))), .val (.int (lo2 - (1 : Int32))), .val (.int ((up + (1 : Int32)) + ((x2 &&& (2147483647 : Int32)) % (((lo2 - (1 : Int32)) - (up + (1 : Int32))) + (1 : Int32)))))] [(.int (f1_0 x3))]))) st43 ?_
        refine own_go (S' := (T43.setTop (mkF m 373 #[.val (.int x0), .val (.int x1), .val (.int x2), .val (.int x3), .val (.ref b1), .val (.ref b17), .val (.int y204), .val (.int lo), .val (.int up), .val (.int (lo + ((x1 &&& (2147483647 : Int32)) % ((up - lo) + (1 : Int32))))), .val (.int (1 : Int32)), .val (.int (up + (1 : Int32))), .val (.int (lo2 - (1 : Int32))), .val (.int ((up + (1 : Int32)) + ((x2 &&& (2147483647 : Int32)) % (((lo2 - (1 : Int32)) - (up + (1 : Int32))) + (1 : Int32)))))] []))) (fun t k => XS.ifNo X43.here hx rfl (hb hby at_370) rfl ((if0 _ _).trans (teq (own_lo x3 (Or.inr hc358_42))).2) k) ?_
        refine own_go (S' := (T43.setTop (mkF m 374 #[.val (.int x0), .val (.int x1), .val (.int x2), .val (.int x3), .val (.ref b1), .val (.ref b17), .val (.int y204), .val (.int lo), .val (.int up), .val (.int (lo + ((x1 &&& (2147483647 : Int32)) % ((up - lo) + (1 : Int32))))), .val (.int (1 : Int32)), .val (.int (up + (1 : Int32))), .val (.int (lo2 - (1 : Int32))), .val (.int ((up + (1 : Int32)) + ((x2 &&& (2147483647 : Int32)) % (((lo2 - (1 : Int32)) - (up + (1 : Int32))) + (1 : Int32)))))] [(.int (1 : Int32))]))) (fun t k => XT.iconstV X43.here hx rfl (1 : Int32) (hb hby at_373) (by decide) k) ?_
        refine own_go (S' := (T43.setTop (mkF m 378 #[.val (.int x0), .val (.int x1), .val (.int x2), .val (.int x3), .val (.ref b1), .val (.ref b17), .val (.int y204), .val (.int lo), .val (.int up), .val (.int (lo + ((x1 &&& (2147483647 : Int32)) % ((up - lo) + (1 : Int32))))), .val (.int (1 : Int32)), .val (.int (up + (1 : Int32))), .val (.int (lo2 - (1 : Int32))), .val (.int ((up + (1 : Int32)) + ((x2 &&& (2147483647 : Int32)) % (((lo2 - (1 : Int32)) - (up + (1 : Int32))) + (1 : Int32)))))] [(.int (1 : Int32))]))) (fun t k => XS.goto X43.here hx rfl (pc0 := 374) (pc' := 378) rfl (hb hby at_374) (by decide) (by decide) k) ?_
        refine own_go (S' := (T43.setTop (mkF m 380 #[.val (.int x0), .val (.int x1), .val (.int x2), .val (.int x3), .val (.ref b1), .val (.ref b17), .val (.int y204), .val (.int lo), .val (.int up), .val (.int (lo + ((x1 &&& (2147483647 : Int32)) % ((up - lo) + (1 : Int32))))), .val (.int (1 : Int32)), .val (.int (up + (1 : Int32))), .val (.int (lo2 - (1 : Int32))), .val (.int ((up + (1 : Int32)) + ((x2 &&& (2147483647 : Int32)) % (((lo2 - (1 : Int32)) - (up + (1 : Int32))) + (1 : Int32)))))] []))) (fun t k => XS.istore X43.here hx rfl (hb hby at_378) rfl (l' := #[.val (.int x0), .val (.int x1), .val (.int x2), .val (.int x3), .val (.ref b1), .val (.ref b17), .val (.int y204), .val (.int lo), .val (.int up), .val (.int (lo + ((x1 &&& (2147483647 : Int32)) % ((up - lo) + (1 : Int32))))), .val (.int (1 : Int32)), .val (.int (up + (1 : Int32))), .val (.int (lo2 - (1 : Int32))), .val (.int ((up + (1 : Int32)) + ((x2 &&& (2147483647 : Int32)) % (((lo2 - (1 : Int32)) - (up + (1 : Int32))) + (1 : Int32)))))]) rfl k) ?_
        refine own_go (S' := (T43.setTop (mkF m 382 #[.val (.int x0), .val (.int x1), .val (.int x2), .val (.int x3), .val (.ref b1), .val (.ref b17), .val (.int y204), .val (.int lo), .val (.int up), .val (.int (lo + ((x1 &&& (2147483647 : Int32)) % ((up - lo) + (1 : Int32))))), .val (.int (1 : Int32)), .val (.int (up + (1 : Int32))), .val (.int (lo2 - (1 : Int32))), .val (.int ((up + (1 : Int32)) + ((x2 &&& (2147483647 : Int32)) % (((lo2 - (1 : Int32)) - (up + (1 : Int32))) + (1 : Int32)))))] [(.int (1 : Int32))]))) (fun t k => XS.iload X43.here hx rfl (hb hby at_380) rfl k) ?_
        exact own_retN X43 hx hret hlk (by simp) (hb hby at_382) (by first | rfl | decide) (by decide) (by decide) ⟨rfl, N32⟩
      ·
        refine own_go (S' := (T39.setTop (mkF m 380 #[.val (.int x0), .val (.int x1), .val (.int x2), .val (.int x3), .val (.ref b1), .val (.ref b17), .val (.int y204), .val (.int lo), .val (.int up), .val (.int (lo + ((x1 &&& (2147483647 : Int32)) % ((up - lo) + (1 : Int32))))), .val (.int (1 : Int32)), .val (.int (up + (1 : Int32))), .val (.int (lo2 - (1 : Int32))), .val (.int ((up + (1 : Int32)) + ((x2 &&& (2147483647 : Int32)) % (((lo2 - (1 : Int32)) - (up + (1 : Int32))) + (1 : Int32)))))] []))) (fun t k => XS.icmpYes X39.here hx rfl (pc0 := 358) (pc' := 380) rfl (hb hby at_358) rfl (flt hc358_42).2.2.2 (by decide) (by decide) k) ?_
        refine own_go (S' := (T39.setTop (mkF m 382 #[.val (.int x0), .val (.int x1), .val (.int x2), .val (.int x3), .val (.ref b1), .val (.ref b17), .val (.int y204), .val (.int lo), .val (.int up), .val (.int (lo + ((x1 &&& (2147483647 : Int32)) % ((up - lo) + (1 : Int32))))), .val (.int (1 : Int32)), .val (.int (up + (1 : Int32))), .val (.int (lo2 - (1 : Int32))), .val (.int ((up + (1 : Int32)) + ((x2 &&& (2147483647 : Int32)) % (((lo2 - (1 : Int32)) - (up + (1 : Int32))) + (1 : Int32)))))] [(.int (1 : Int32))]))) (fun t k => XS.iload X39.here hx rfl (hb hby at_380) rfl k) ?_
        exact own_retN X39 hx hret hlk (by simp) (hb hby at_382) (by first | rfl | decide) (by decide) (by decide) ⟨rfl, N32⟩
  ·
    refine own_go (S' := (T37.setTop (mkF m 349 #[.val (.int x0), .val (.int x1), .val (.int x2), .val (.int x3), .val (.ref b1), .val (.ref b17), .val (.int y204), .val (.int lo), .val (.int up), .val (.int (lo + ((x1 &&& (2147483647 : Int32)) % ((up - lo) + (1 : Int32))))), .val (.int (1 : Int32)), .unset, .unset, .unset] []))) (fun t k => XS.icmpYes X37.here hx rfl (pc0 := 292) (pc' := 349) rfl (hb hby at_292) rfl (flt hc292_38).2.1 (by decide) (by decide) k) ?_
    refine own_go (S' := (T37.setTop (mkF m 350 #[.val (.int x0), .val (.int x1), .val (.int x2), .val (.int x3), .val (.ref b1), .val (.ref b17), .val (.int y204), .val (.int lo), .val (.int up), .val (.int (lo + ((x1 &&& (2147483647 : Int32)) % ((up - lo) + (1 : Int32))))), .val (.int (1 : Int32)), .unset, .unset, .unset] [(.int x3)]))) (fun t k => XS.iloadN X37.here hx rfl (hb hby at_349) rfl k) ?_
    refine own_go (S' := (T37.setTop (mkF m 352 #[.val (.int x0), .val (.int x1), .val (.int x2), .val (.int x3), .val (.ref b1), .val (.ref b17), .val (.int y204), .val (.int lo), .val (.int up), .val (.int (lo + ((x1 &&& (2147483647 : Int32)) % ((up - lo) + (1 : Int32))))), .val (.int (1 : Int32)), .unset, .unset, .unset] [(.int (65 : Int32)), (.int x3)]))) (fun t k => XT.bipushV X37.here hx rfl (65 : Int32) (hb hby at_350) (by decide) k) ?_
    by_cases hc352_44 : x3 < (65 : Int32)
    ·
      refine own_go (S' := (T37.setTop (mkF m 361 #[.val (.int x0), .val (.int x1), .val (.int x2), .val (.int x3), .val (.ref b1), .val (.ref b17), .val (.int y204), .val (.int lo), .val (.int up), .val (.int (lo + ((x1 &&& (2147483647 : Int32)) % ((up - lo) + (1 : Int32))))), .val (.int (1 : Int32)), .unset, .unset, .unset] []))) (fun t k => XS.icmpYes X37.here hx rfl (pc0 := 352) (pc' := 361) rfl (hb hby at_352) rfl (tlt hc352_44).1 (by decide) (by decide) k) ?_
      refine own_go (S' := (T37.setTop (mkF m 363 #[.val (.int x0), .val (.int x1), .val (.int x2), .val (.int x3), .val (.ref b1), .val (.ref b17), .val (.int y204), .val (.int lo), .val (.int up), .val (.int (lo + ((x1 &&& (2147483647 : Int32)) % ((up - lo) + (1 : Int32))))), .val (.int (1 : Int32)), .unset, .unset, .unset] [(.int (1 : Int32))]))) (fun t k => XS.iload X37.here hx rfl (hb hby at_361) rfl k) ?_
      refine own_go (S' := (T37.setTop (mkF m 366 #[.val (.int x0), .val (.int x1), .val (.int x2), .val (.int x3), .val (.ref b1), .val (.ref b17), .val (.int y204), .val (.int lo), .val (.int up), .val (.int (lo + ((x1 &&& (2147483647 : Int32)) % ((up - lo) + (1 : Int32))))), .val (.int (1 : Int32)), .unset, .unset, .unset] []))) (fun t k => XS.ifNo X37.here hx rfl (hb hby at_363) rfl ((if0 _ _).trans (feq (by decide)).1) k) ?_
      refine own_go (S' := (T37.setTop (mkF m 367 #[.val (.int x0), .val (.int x1), .val (.int x2), .val (.int x3), .val (.ref b1), .val (.ref b17), .val (.int y204), .val (.int lo), .val (.int up), .val (.int (lo + ((x1 &&& (2147483647 : Int32)) % ((up - lo) + (1 : Int32))))), .val (.int (1 : Int32)), .unset, .unset, .unset] [(.int x3)]))) (fun t k => XS.iloadN X37.here hx rfl (hb hby at_366) rfl k) ?_
      obtain ⟨T45, X45, e45, st45⟩ := own_callP X37 hx hZ (y := (⟨"com/example/hornbeam/hornbeam/model/XmlCharacters", "isNCNameStart", "(I)Z"⟩ : MethodName)) hown (hw _ (List.mem_of_getElem? (i := 9) rfl)) (hw _ (List.mem_of_getElem? (i := 10) rfl)) (hw _ (List.mem_of_getElem? (i := 11) rfl)) (hw _ (List.mem_of_getElem? (i := 12) rfl)) (rm1 l Z a0 hw x3 h32) e37 (argsL := [(.int x3)]) (rest := []) (Ls := #[.val (.int x0), .val (.int x1), .val (.int x2), .val (.int x3), .val (.ref b1), .val (.ref b17), .val (.int y204), .val (.int lo), .val (.int up), .val (.int (lo + ((x1 &&& (2147483647 : Int32)) % ((up - lo) + (1 : Int32))))), .val (.int (1 : Int32)), .unset, .unset, .unset]) (hb hby at_367) pd_0 0 (by rw [hml]; rfl) (by decide) rfl rfl rfl (Nat.le_of_eq rfl) (by decide) (by decide) (by decide) (by decide)
      refine own_go (S' := (T45.setTop (mkF m 370 #[.val (.int x0), .val (.int x1), .val (.int x2), .val (.int x3), .val (.ref b1), .val (.ref b17), .val (.int y204), .val (.int lo), .val (.int up), .val (.int (lo + ((x1 &&& (2147483647 : Int32)) % ((up - lo) + (1 : Int32))))), .val (.int (1 : Int32)), .unset, .unset, .unset] [(.int (f1_0 x3))]))) st45 ?_
      refine own_go (S' := (T45.setTop (mkF m 373 #[.val (.int x0), .val (.int x1), .val (.int x2), .val (.int x3), .val (.ref b1), .val (.ref b17), .val (.int y204), .val (.int lo), .val (.int up), .val (.int (lo + ((x1 &&& (2147483647 : Int32)) % ((up - lo) + (1 : Int32))))), .val (.int (1 : Int32)), .unset, .unset, .unset] []))) (fun t k => XS.ifNo X45.here hx rfl (hb hby at_370) rfl ((if0 _ _).trans (teq (own_lo x3 (Or.inl hc352_44))).2) k) ?_
      refine own_go (S' := (T45.setTop (mkF m 374 #[.val (.int x0), .val (.int x1), .val (.int x2), .val (.int x3), .val (.ref b1), .val (.ref b17), .val (.int y204), .val (.int lo), .val (.int up), .val (.int (lo + ((x1 &&& (2147483647 : Int32)) % ((up - lo) + (1 : Int32))))), .val (.int (1 : Int32)), .unset, .unset, .unset] [(.int (1 : Int32))]))) (fun t k => XT.iconstV X45.here hx rfl (1 : Int32) (hb hby at_373) (by decide) k) ?_
      refine own_go (S' := (T45.setTop (mkF m 378 #[.val (.int x0), .val (.int x1), .val (.int x2), .val (.int x3), .val (.ref b1), .val (.ref b17), .val (.int y204), .val (.int lo), .val (.int up), .val (.int (lo + ((x1 &&& (2147483647 : Int32)) % ((up - lo) + (1 : Int32))))), .val (.int (1 : Int32)), .unset, .unset, .unset] [(.int (1 : Int32))]))) (fun t k => XS.goto X45.here hx rfl (pc0 := 374) (pc' := 378) rfl (hb hby at_374) (by decide) (by decide) k) ?_
      refine own_go (S' := (T45.setTop (mkF m 380 #[.val (.int x0), .val (.int x1), .val (.int x2), .val (.int x3), .val (.ref b1), .val (.ref b17), .val (.int y204), .val (.int lo), .val (.int up), .val (.int (lo + ((x1 &&& (2147483647 : Int32)) % ((up - lo) + (1 : Int32))))), .val (.int (1 : Int32)), .unset, .unset, .unset] []))) (fun t k => XS.istore X45.here hx rfl (hb hby at_378) rfl (l' := #[.val (.int x0), .val (.int x1), .val (.int x2), .val (.int x3), .val (.ref b1), .val (.ref b17), .val (.int y204), .val (.int lo), .val (.int up), .val (.int (lo + ((x1 &&& (2147483647 : Int32)) % ((up - lo) + (1 : Int32))))), .val (.int (1 : Int32)), .unset, .unset, .unset]) rfl k) ?_
      refine own_go (S' := (T45.setTop (mkF m 382 #[.val (.int x0), .val (.int x1), .val (.int x2), .val (.int x3), .val (.ref b1), .val (.ref b17), .val (.int y204), .val (.int lo), .val (.int up), .val (.int (lo + ((x1 &&& (2147483647 : Int32)) % ((up - lo) + (1 : Int32))))), .val (.int (1 : Int32)), .unset, .unset, .unset] [(.int (1 : Int32))]))) (fun t k => XS.iload X45.here hx rfl (hb hby at_380) rfl k) ?_
      exact own_retN X45 hx hret hlk (by simp) (hb hby at_382) (by first | rfl | decide) (by decide) (by decide) ⟨rfl, N32⟩
    ·
      refine own_go (S' := (T37.setTop (mkF m 355 #[.val (.int x0), .val (.int x1), .val (.int x2), .val (.int x3), .val (.ref b1), .val (.ref b17), .val (.int y204), .val (.int lo), .val (.int up), .val (.int (lo + ((x1 &&& (2147483647 : Int32)) % ((up - lo) + (1 : Int32))))), .val (.int (1 : Int32)), .unset, .unset, .unset] []))) (fun t k => XS.icmpNo X37.here hx rfl (hb hby at_352) rfl (flt hc352_44).1 k) ?_
      refine own_go (S' := (T37.setTop (mkF m 356 #[.val (.int x0), .val (.int x1), .val (.int x2), .val (.int x3), .val (.ref b1), .val (.ref b17), .val (.int y204), .val (.int lo), .val (.int up), .val (.int (lo + ((x1 &&& (2147483647 : Int32)) % ((up - lo) + (1 : Int32))))), .val (.int (1 : Int32)), .unset, .unset, .unset] [(.int x3)]))) (fun t k => XS.iloadN X37.here hx rfl (hb hby at_355) rfl k) ?_
      refine own_go (S' := (T37.setTop (mkF m 358 #[.val (.int x0), .val (.int x1), .val (.int x2), .val (.int x3), .val (.ref b1), .val (.ref b17), .val (.int y204), .val (.int lo), .val (.int up), .val (.int (lo + ((x1 &&& (2147483647 : Int32)) % ((up - lo) + (1 : Int32))))), .val (.int (1 : Int32)), .unset, .unset, .unset] [(.int (983039 : Int32)), (.int x3)]))) (fun t k => Stand.ldcI X37 hx hown (mvT hZ (hw _ (List.mem_of_getElem? (i := 7) rfl))) rfl (hb hby at_356) k) ?_
      by_cases hc358_46 : (983039 : Int32) < x3
      ·
        refine own_go (S' := (T37.setTop (mkF m 361 #[.val (.int x0), .val (.int x1), .val (.int x2), .val (.int x3), .val (.ref b1), .val (.ref b17), .val (.int y204), .val (.int lo), .val (.int up), .val (.int (lo + ((x1 &&& (2147483647 : Int32)) % ((up - lo) + (1 : Int32))))), .val (.int (1 : Int32)), .unset, .unset, .unset] []))) (fun t k => XS.icmpNo X37.here hx rfl (hb hby at_358) rfl (tlt hc358_46).2.2.2 k) ?_
        refine own_go (S' := (T37.setTop (mkF m 363 #[.val (.int x0), .val (.int x1), .val (.int x2), .val (.int x3), .val (.ref b1), .val (.ref b17), .val (.int y204), .val (.int lo), .val (.int up), .val (.int (lo + ((x1 &&& (2147483647 : Int32)) % ((up - lo) + (1 : Int32))))), .val (.int (1 : Int32)), .unset, .unset, .unset] [(.int (1 : Int32))]))) (fun t k => XS.iload X37.here hx rfl (hb hby at_361) rfl k) ?_
        refine own_go (S' := (T37.setTop (mkF m 366 #[.val (.int x0), .val (.int x1), .val (.int x2), .val (.int x3), .val (.ref b1), .val (.ref b17), .val (.int y204), .val (.int lo), .val (.int up), .val (.int (lo + ((x1 &&& (2147483647 : Int32)) % ((up - lo) + (1 : Int32))))), .val (.int (1 : Int32)), .unset, .unset, .unset] []))) (fun t k => XS.ifNo X37.here hx rfl (hb hby at_363) rfl ((if0 _ _).trans (feq (by decide)).1) k) ?_
        refine own_go (S' := (T37.setTop (mkF m 367 #[.val (.int x0), .val (.int x1), .val (.int x2), .val (.int x3), .val (.ref b1), .val (.ref b17), .val (.int y204), .val (.int lo), .val (.int up), .val (.int (lo + ((x1 &&& (2147483647 : Int32)) % ((up - lo) + (1 : Int32))))), .val (.int (1 : Int32)), .unset, .unset, .unset] [(.int x3)]))) (fun t k => XS.iloadN X37.here hx rfl (hb hby at_366) rfl k) ?_
        obtain ⟨T47, X47, e47, st47⟩ := own_callP X37 hx hZ (y := (⟨"com/example/hornbeam/hornbeam/model/XmlCharacters", "isNCNameStart", "(I)Z"⟩ : MethodName)) hown (hw _ (List.mem_of_getElem? (i := 9) rfl)) (hw _ (List.mem_of_getElem? (i := 10) rfl)) (hw _ (List.mem_of_getElem? (i := 11) rfl)) (hw _ (List.mem_of_getElem? (i := 12) rfl)) (rm1 l Z a0 hw x3 h32) e37 (argsL := [(.int x3)]) (rest := []) (Ls := #[.val (.int x0), .val (.int x1), .val (.int x2), .val (.int x3), .val (.ref b1), .val (.ref b17), .val (.int y204), .val (.int lo), .val (.int up), .val (.int (lo + ((x1 &&& (2147483647 : Int32)) % ((up - lo) + (1 : Int32))))), .val (.int (1 : Int32)), .unset, .unset, .unset]) (hb hby at_367) pd_0 0 (by rw [hml]; rfl) (by decide) rfl rfl rfl (Nat.le_of_eq rfl) (by decide) (by decide) (by decide) (by decide)
        refine own_go (S' := (T47.setTop (mkF m 370 #[.val (.int x0), .val (.int x1), .val (.int x2), .val (.int x3), .val (.ref b1), .val (.ref b17), .val (.int y204), .val (.int lo), .val (.int up), .val (.int (lo + ((x1 &&& (2147483647 : Int32)) % ((up - lo) + (1 : Int32))))), .val (.int (1 : Int32)), .unset, .unset, .unset] [(.int (f1_0 x3))]))) st47 ?_
        refine own_go (S' := (T47.setTop (mkF m 373 #[.val (.int x0), .val (.int x1), .val (.int x2), .val (.int x3), .val (.ref b1), .val (.ref b17), .val (.int y204), .val (.int lo), .val (.int up), .val (.int (lo + ((x1 &&& (2147483647 : Int32)) % ((up - lo) + (1 : Int32))))), .val (.int (1 : Int32)), .unset, .unset, .unset] []))) (fun t k => XS.ifNo X47.here hx rfl (hb hby at_370) rfl ((if0 _ _).trans (teq (own_lo x3 (Or.inr hc358_46))).2) k) ?_
        refine own_go (S' := (T47.setTop (mkF m 374 #[.val (.int x0), .val (.int x1), .val (.int x2), .val (.int x3), .val (.ref b1), .val (.ref b17), .val (.int y204), .val (.int lo), .val (.int up), .val (.int (lo + ((x1 &&& (2147483647 : Int32)) % ((up - lo) + (1 : Int32))))), .val (.int (1 : Int32)), .unset, .unset, .unset] [(.int (1 : Int32))]))) (fun t k => XT.iconstV X47.here hx rfl (1 : Int32) (hb hby at_373) (by decide) k) ?_
        refine own_go (S' := (T47.setTop (mkF m 378 #[.val (.int x0), .val (.int x1), .val (.int x2), .val (.int x3), .val (.ref b1), .val (.ref b17), .val (.int y204), .val (.int lo), .val (.int up), .val (.int (lo + ((x1 &&& (2147483647 : Int32)) % ((up - lo) + (1 : Int32))))), .val (.int (1 : Int32)), .unset, .unset, .unset] [(.int (1 : Int32))]))) (fun t k => XS.goto X47.here hx rfl (pc0 := 374) (pc' := 378) rfl (hb hby at_374) (by decide) (by decide) k) ?_
        refine own_go (S' := (T47.setTop (mkF m 380 #[.val (.int x0), .val (.int x1), .val (.int x2), .val (.int x3), .val (.ref b1), .val (.ref b17), .val (.int y204), .val (.int lo), .val (.int up), .val (.int (lo + ((x1 &&& (2147483647 : Int32)) % ((up - lo) + (1 : Int32))))), .val (.int (1 : Int32)), .unset, .unset, .unset] []))) (fun t k => XS.istore X47.here hx rfl (hb hby at_378) rfl (l' := #[.val (.int x0), .val (.int x1), .val (.int x2), .val (.int x3), .val (.ref b1), .val (.ref b17), .val (.int y204), .val (.int lo), .val (.int up), .val (.int (lo + ((x1 &&& (2147483647 : Int32)) % ((up - lo) + (1 : Int32))))), .val (.int (1 : Int32)), .unset, .unset, .unset]) rfl k) ?_
        refine own_go (S' := (T47.setTop (mkF m 382 #[.val (.int x0), .val (.int x1), .val (.int x2), .val (.int x3), .val (.ref b1), .val (.ref b17), .val (.int y204), .val (.int lo), .val (.int up), .val (.int (lo + ((x1 &&& (2147483647 : Int32)) % ((up - lo) + (1 : Int32))))), .val (.int (1 : Int32)), .unset, .unset, .unset] [(.int (1 : Int32))]))) (fun t k => XS.iload X47.here hx rfl (hb hby at_380) rfl k) ?_
        exact own_retN X47 hx hret hlk (by simp) (hb hby at_382) (by first | rfl | decide) (by decide) (by decide) ⟨rfl, N32⟩
      ·
        refine own_go (S' := (T37.setTop (mkF m 380 #[.val (.int x0), .val (.int x1), .val (.int x2), .val (.int x3), .val (.ref b1), .val (.ref b17), .val (.int y204), .val (.int lo), .val (.int up), .val (.int (lo + ((x1 &&& (2147483647 : Int32)) % ((up - lo) + (1 : Int32))))), .val (.int (1 : Int32)), .unset, .unset, .unset] []))) (fun t k => XS.icmpYes X37.here hx rfl (pc0 := 358) (pc' := 380) rfl (hb hby at_358) rfl (flt hc358_46).2.2.2 (by decide) (by decide) k) ?_
        refine own_go (S' := (T37.setTop (mkF m 382 #[.val (.int x0), .val (.int x1), .val (.int x2), .val (.int x3), .val (.ref b1), .val (.ref b17), .val (.int y204), .val (.int lo), .val (.int up), .val (.int (lo + ((x1 &&& (2147483647 : Int32)) % ((up - lo) + (1 : Int32))))), .val (.int (1 : Int32)), .unset, .unset, .unset] [(.int (1 : Int32))]))) (fun t k => XS.iload X37.here hx rfl (hb hby at_380) rfl k) ?_
        exact own_retN X37 hx hret hlk (by simp) (hb hby at_382) (by first | rfl | decide) (by decide) (by decide) ⟨rfl, N32⟩
set_option maxRecDepth 65536 in
set_option maxHeartbeats 40000000 in
theorem comes_1 {Post : Tables → Env → Array Value → State → Outcome → State → Prop} (hpost : ∀ tb e args s v u, (limb_1_1.after args s (.returned v) u = true ∧ limb_1_2.after args s (.returned v) u = true) → FrameEnd s (.returned v) u (Jvm.fieldLocs frame_1_writes args s ++ Jvm.arrayLocs frame_1_arrays args s ++ Jvm.staticLocs frame_1_statics s) 16 128 → Post tb e args s (.returned v) u) :
    ArmFor flags0 classFile x code maxLocals ret World_1 tables_1 room_1 Calls_1 rest_1 Pre_1 Post := by
  intro l hfl _ _ p e ha hc hk s m args below hf hA hF happ hP
  obtain ⟨hcalls, hrest, hpre⟩ := hP
  obtain ⟨-, -, -, hnamed, -, -, -, hat⟩ := (Spec.applies_iff hf).mp happ
  obtain ⟨hg, hn⟩ := and_e (Cond.before_iff.mp (show (Jvm.Cond.and given_1 narrow_1).before args s = true from hpre))
  obtain ⟨hga, hgb⟩ := and_e hg
  obtain ⟨hgba, hgbb⟩ := and_e hgb
  obtain ⟨hgbba, hgbbb⟩ := and_e hgbb
  obtain ⟨hgbbba, hgbbbb⟩ := and_e hgbbb
  obtain ⟨w0, w1, w2, w3, rfl⟩ : ∃ w0 w1 w2 w3 : Value, args = #[w0, w1, w2, w3] := by
    have hs : args.size = 4 := by simpa [Cond.value, given_1] using hga
    obtain ⟨L⟩ := args
    match L, hs with
    | [w0, w1, w2, w3], _ => exact ⟨w0, w1, w2, w3, rfl⟩
  have hw := fun d (hd : d ∈ tables_1) => atoms_spec (ws := Jvm.Cond.code x code maxLocals ret :: tables_1) hat d (List.mem_cons_of_mem _ hd)
  obtain ⟨i0, ei0⟩ := is_v hgba
  obtain rfl : w0 = (.int i0) := Option.some.inj ei0
  obtain ⟨i1, ei1⟩ := is_v hgbba
  obtain rfl : w1 = (.int i1) := Option.some.inj ei1
  obtain ⟨i2, ei2⟩ := is_v hgbbba
  obtain rfl : w2 = (.int i2) := Option.some.inj ei2
  obtain ⟨i3, ei3⟩ := is_v hgbbbb
  obtain rfl : w3 = (.int i3) := Option.some.inj ei3
  obtain ⟨n, o, h1, h2, h3, _, L, rfl, ⟨rfl, N⟩, hq⟩ := rm0 l s _ hw tables_1 i0 i1 i2 i3 s.heap s.heap.size (Nat.le_refl _) p e ha hc hk s m _ below hf ((Spec.applies_iff_loose hf).mp happ).1 ⟨rfl, State.Warmed39.refl s, rfl⟩ trivial
  refine ⟨n, _, h1, h2, h3, hpost _ _ _ _ _ _ ⟨Cond.after_iff.mpr rfl, Cond.after_iff.mpr (eq_i res_at (Term.int_eval (1)) rfl)⟩ ⟨hq.1, hq.2.1, (hq.2.2.sift fun y hy => Or.inr (N y hy)).mono (by decide) (by decide)⟩⟩
theorem main_1_1 : Claimed_1_1 := comes_1 fun _ _ _ _ _ _ h hF => ⟨h.1, hF⟩
theorem main_1_2 : Claimed_1_2 := comes_1 fun _ _ _ _ _ _ h hF => ⟨h.2, hF⟩
end Jvm.Pilot.@@N@@
namespace Jvm.Pilot.@@N@@
open Jvm Jvm.ClassFile Sem Op Lib Jvm.Free Jvm.Stand Jvm.Pilot.@@N@@.Jvm.D
/-! MADE BY PROGRAM (witnessworld.py) out of the Statement's table words and the real class files: 9 classes; the members and pool entries that the words name. The judged class is class 1, her method 1. -/
namespace start1
open Jvm.ClassFile
def u (s : String) : CpInfo := .utf8 (stringToUtf16 s)
/-- a pool by its gaps: so many unusable entries, then the entry; so many at the end -/
def gap : Nat → List CpInfo → List CpInfo
  | 0, r => r
  | n + 1, r => .unusable :: gap n r
def poolList (es : List (Nat × CpInfo)) (last : Nat) : List CpInfo := es.foldr (fun e r => gap e.1 (e.2 :: r)) (gap last [])
def pool (es : List (Nat × CpInfo)) (last : Nat) : Array CpInfo := ⟨poolList es last⟩
def fileOf (pool : Array CpInfo) (this : Nat) (attrs : Array Attribute := #[]) (ms : Array MethodInfo := #[]) (fl : Nat := 33) (sup : Nat := 0) (ifs : Array Nat := #[]) (fds : Array FieldInfo := #[]) : ClassFile where
  minorVersion := 0
  majorVersion := 65
  constantPool := pool
  accessFlags := fl
  thisClass := this
  superClass := sup
  interfaces := ifs
  fields := fds
  methods := ms
  attributes := attrs
def plain (name : String) (sup : Option ClassId) : Class where
  name := name
  kind := .ordinary
  loader := none
  accessFlags := 33
  super := sup
  interfaces := #[]
  cf := none
  fields := #[]
  methods := #[]
  instanceTypes := #[]
  staticTypes := #[]
  resolved := #[]
  callSites := []
  init := .initialized
  statics := none
  mirror := none

def pool0 : Array CpInfo := pool [(5, u "<init>"), (0, u "()V"), (1, .class_ 10), (1, u "java/lang/Object")] 113

def k0m0 : Method := { name := "<init>", desc := "()V", sig := { parameters := [], returnType := none }, accessFlags := 1, code := none }
/-- java/lang/Object -/
def k0 : Class := { plain "java/lang/Object" none with
  accessFlags := 33
  interfaces := #[]
  cf := some (fileOf pool0 8 #[] #[{ accessFlags := 1, nameIndex := 5, descriptorIndex := 6, attributes := #[] }] 33 0 #[] #[])
  fields := #[]
  methods := #[k0m0]
  instanceTypes := #[]
  staticTypes := #[]
  resolved := Array.replicate 124 none
  statics := none }

def pool1 : Array CpInfo := pool [(2, .class_ 4), (1, u "java/lang/Object"), (0, u "<init>"), (0, u "()V"), (0, .integer 63744), (0, .integer 65008), (0, .integer 65536), (0, .integer 55295), (0, .integer 64975), (0, .integer 65533), (0, .integer 983039), (0, .integer 2147483647), (0, .methodref 16 17), (0, .class_ 18), (0, .nameAndType 19 20), (0, u "com/example/hornbeam/hornbeam/model/XmlCharacters"), (0, u "isNCNameStart"), (0, u "(I)Z"), (0, .class_ 22), (0, u "com/example/hornbeam/hornbeam/model/XmlCharactersIsNCNameStartPinLaw"), (2, u "law"), (0, u "(IIII)Z")] 5

def k1m0 : Method := { name := "<init>", desc := "()V", sig := { parameters := [], returnType := none }, accessFlags := 2, code := none }
def k1c1 : Code := { maxStack := 4, maxLocals := 14, code := code, exceptionTable := #[], attributes := #[] }
def k1m1 : Method := { name := "law", desc := "(IIII)Z", sig := { parameters := [.int, .int, .int, .int], returnType := some .boolean }, accessFlags := 9, code := some k1c1 }
/-- com/example/hornbeam/hornbeam/model/XmlCharactersIsNCNameStartPinLaw -/
def k1 : Class := { plain "com/example/hornbeam/hornbeam/model/XmlCharactersIsNCNameStartPinLaw" (some 0) with
  accessFlags := 49
  interfaces := #[]
  cf := some (fileOf pool1 21 #[] #[{ accessFlags := 2, nameIndex := 5, descriptorIndex := 6, attributes := #[] }, { accessFlags := 9, nameIndex := 25, descriptorIndex := 26, attributes := #[] }] 49 2 #[] #[])
  fields := #[]
  methods := #[k1m0, k1m1]
  instanceTypes := #[]
  staticTypes := #[]
  resolved := Array.replicate 32 none
  statics := none }

def pool2 : Array CpInfo := pool [(2, .class_ 4), (1, u "java/lang/Object"), (0, u "<init>"), (0, u "()V"), (0, .integer 55295), (1, .integer 65533), (0, .integer 65536), (1, .integer 63744), (0, .integer 64975), (0, .integer 65008), (0, .integer 983039), (1, .class_ 19), (1, u "com/example/hornbeam/hornbeam/model/XmlCharacters"), (0, u "isNCNameStart"), (0, u "(I)Z")] 40

def k2m0 : Method := { name := "<init>", desc := "()V", sig := { parameters := [], returnType := none }, accessFlags := 2, code := none }
def k2c1 : Code := { maxStack := 2, maxLocals := 1, code := prog_267_method_3_code, exceptionTable := #[], attributes := #[] }
def k2m1 : Method := { name := "isNCNameStart", desc := "(I)Z", sig := { parameters := [.int], returnType := some .boolean }, accessFlags := 9, code := some k2c1 }
/-- com/example/hornbeam/hornbeam/model/XmlCharacters -/
def k2 : Class := { plain "com/example/hornbeam/hornbeam/model/XmlCharacters" (some 0) with
  accessFlags := 49
  interfaces := #[]
  cf := some (fileOf pool2 17 #[] #[{ accessFlags := 2, nameIndex := 5, descriptorIndex := 6, attributes := #[] }, { accessFlags := 9, nameIndex := 20, descriptorIndex := 21, attributes := #[] }] 49 2 #[] #[])
  fields := #[]
  methods := #[k2m0, k2m1]
  instanceTypes := #[]
  staticTypes := #[]
  resolved := Array.replicate 62 none
  statics := none }

def pool3 : Array CpInfo := pool [(1, u "java/lang/Cloneable"), (0, .class_ 1), (0, u "java/lang/Object"), (0, .class_ 3)] 3

/-- java/lang/Cloneable -/
def k3 : Class := { plain "java/lang/Cloneable" (some 0) with
  accessFlags := 1537
  interfaces := #[]
  cf := some (fileOf pool3 2 #[] #[] 1537 4 #[] #[])
  fields := #[]
  methods := #[]
  instanceTypes := #[]
  staticTypes := #[]
  resolved := Array.replicate 8 none
  statics := none }

def pool4 : Array CpInfo := pool [(1, u "java/io/Serializable"), (0, .class_ 1), (0, u "java/lang/Object"), (0, .class_ 3)] 3

/-- java/io/Serializable -/
def k4 : Class := { plain "java/io/Serializable" (some 0) with
  accessFlags := 1537
  interfaces := #[]
  cf := some (fileOf pool4 2 #[] #[] 1537 4 #[] #[])
  fields := #[]
  methods := #[]
  instanceTypes := #[]
  staticTypes := #[]
  resolved := Array.replicate 8 none
  statics := none }

/-- the primitive byte -/
def k5 : Class := { plain "byte" none with kind := .primitive 'B', accessFlags := 0x411 }
/-- [B -/
def k6 : Class := { plain "[B" (some 0) with kind := .array 5 .byte, interfaces := #[3, 4], accessFlags := 1041 }

/-- the primitive int -/
def k7 : Class := { plain "int" none with kind := .primitive 'I', accessFlags := 0x411 }
/-- [I -/
def k8 : Class := { plain "[I" (some 0) with kind := .array 7 .int, interfaces := #[3, 4], accessFlags := 1041 }

def heap : Heap := #[]
def classes : Array Class := #[k0, k1, k2, k3, k4, k5, k6, k7, k8]
def interned : List (Array UInt16 × Addr) := []
def slotsUsed : Nat := 0
def theMethod : MethodId := ⟨1, 1⟩
def args0 : Array Value := #[.int 65, .int 5, .int 7, .int 9]
def aboutOver (below : List Frame) : State where
  vm := { classes := classes, interned := interned.toArray }
  heap := heap
  slotsUsed := slotsUsed
  threads := #[{ frames := .invoking theMethod args0 :: below }]
def below0 : List Frame := [.native { method := ⟨0, 0⟩, args := #[] }]
def about1 : State := aboutOver below0
def p0 : Program := .bare "" "" ""
def e0 : Env := launch0.env 0 0 0
theorem w_frames : about1.frames = Frame.invoking theMethod args0 :: below0 := rfl
set_option maxRecDepth 65536 in
theorem w_args : argsFit about1.vm theMethod args0 = true := by decide +kernel
set_option maxRecDepth 65536 in
theorem w_heap : heapFits about1 = true := by decide +kernel
set_option maxRecDepth 65536 in
theorem w_runnable : about1.curStatus? = some .runnable := by decide +kernel
set_option maxRecDepth 65536 in
theorem w_alone : about1.alone = true := by decide +kernel
set_option maxRecDepth 65536 in
theorem w_named : about1.methodNamed? x = some theMethod := by decide +kernel
set_option maxRecDepth 65536 in
theorem w_hears : about1.hears theMethod below0 = true := by decide +kernel
set_option maxRecDepth 65536 in
theorem w_ripe : about1.ripe theMethod args0 below0 = true := by decide +kernel
theorem w_running : about1.status = .running := rfl
set_option maxRecDepth 65536 in
theorem w_room : about1.hasRoom e0.platform room_1 = true :=
  launch0.hasRoom_least _ room_1 (by decide +kernel) (by decide +kernel) (by decide +kernel) (by decide +kernel) (by decide +kernel) (by decide +kernel)
theorem allAtoms_all (ts : List Jvm.Cond) (a : Array Jvm.Value) (st : Jvm.State) : (allAtoms ts).before a st = ts.all (fun c => c.before a st) := by
  induction ts with
  | nil => rfl
  | cons c t ih =>
    show (Jvm.Cond.and c (allAtoms t)).before a st = _
    rw [Jvm.Cond.before_and, ih, List.all_cons]
def words1 : List Jvm.Cond := Jvm.Cond.code x code maxLocals ret :: tables_1
/-- a 'code' word, met by the world's own term for the bytes: nothing is compared byte by byte -/
theorem code_word {y : MethodName} {bytes : ByteArray} {mx : Nat} {rt : Option FieldType} {a : Array Value} {s : State} {m : MethodId} {meth : Method} {c : Code} (h1 : s.methodNamed? y = some m) (h2 : s.vm.method? m = some meth) (h3 : meth.code = some c) (h4 : c.code = bytes)
    (h5 : (c.maxLocals == mx && c.exceptionTable.isEmpty && decide (c.maxStack ≤ mostOperands) && decide (meth.sig.returnType = rt) && !meth.locks && decide (parseMethodDescriptor y.desc = some meth.sig)) = true) : (Jvm.Cond.code y bytes mx rt).before a s = true := by
  simp only [Bool.and_eq_true, beq_iff_eq, Bool.not_eq_true', decide_eq_true_eq] at h5
  obtain ⟨⟨⟨⟨⟨g1, g2⟩, g3⟩, g4⟩, g5⟩, g6⟩ := h5
  simp [Cond.before, Cond.holds, Cond.value, h1, h2, h3, h4, g1, g2, g3, g4, g5, g6]
def isCode : Jvm.Cond → Bool
  | .code _ _ _ _ => true
  | _ => false
theorem all_split {L : List Jvm.Cond} {P : Jvm.Cond → Bool} (h1 : L.all (fun c => isCode c || P c) = true) (h2 : ∀ c ∈ L.filter isCode, P c = true) : L.all P = true := by
  refine List.all_eq_true.mpr fun c hc => ?_
  have h := List.all_eq_true.mp h1 c hc
  rcases Bool.eq_false_or_eq_true (isCode c) with hi | hi
  · exact h2 c (List.mem_filter.mpr ⟨hc, hi⟩)
  · simpa [hi] using h
set_option maxRecDepth 65536 in
theorem w_c0 : (Jvm.Cond.code x code maxLocals ret).before args0 about1 = true := code_word (m := ⟨1, 1⟩) (meth := k1m1) (c := k1c1) (by decide +kernel) rfl rfl rfl (by decide +kernel)
set_option maxRecDepth 65536 in
theorem w_c1 : (Jvm.Cond.code ({ cls := "com/example/hornbeam/hornbeam/model/XmlCharacters", name := "isNCNameStart", desc := "(I)Z" } : Jvm.MethodName) prog_267_method_3_code (1 : Nat) (Option.some Jvm.ClassFile.FieldType.boolean)).before args0 about1 = true := code_word (m := ⟨2, 1⟩) (meth := k2m1) (c := k2c1) (by decide +kernel) rfl rfl rfl (by decide +kernel)
def codes1 : List Jvm.Cond := [Jvm.Cond.code x code maxLocals ret, Jvm.Cond.code ({ cls := "com/example/hornbeam/hornbeam/model/XmlCharacters", name := "isNCNameStart", desc := "(I)Z" } : Jvm.MethodName) prog_267_method_3_code (1 : Nat) (Option.some Jvm.ClassFile.FieldType.boolean)]
set_option maxRecDepth 65536 in
theorem codes_eq : words1.filter isCode = codes1 := rfl
theorem w_codes : ∀ c ∈ words1.filter isCode, c.before args0 about1 = true := by
  rw [codes_eq]
  intro c hc
  simp only [codes1, List.mem_cons, List.not_mem_nil, or_false] at hc
  rcases hc with rfl | rfl
  · exact w_c0
  · exact w_c1
set_option maxRecDepth 65536 in
theorem w_t1 : words1.all (fun c => isCode c || c.before args0 about1) = true := by decide +kernel
theorem w_tables : (allAtoms (Jvm.Cond.code x code maxLocals ret :: tables_1)).before args0 about1 = true := by
  rw [allAtoms_all]
  show words1.all (fun c => c.before args0 about1) = true
  refine all_split ?_ w_codes
  rw [w_t1]
set_option maxRecDepth 65536 in
theorem w_case : (Jvm.Cond.and given_1 narrow_1).before args0 about1 = true := by decide +kernel
theorem w_applies : (headSpec (Jvm.Cond.code x code maxLocals ret :: tables_1) room_1).applies x e0.platform about1 = true :=
  (Spec.applies_iff w_frames).mpr ⟨w_running, w_runnable, w_alone, w_named, w_hears, w_ripe, w_room, w_tables⟩
theorem atStart : AtStart classFile x code maxLocals ret World_1 tables_1 room_1 Calls_1 rest_1 Pre_1 launch0 p0 e0 about1 theMethod args0 below0 :=
  ⟨lists_1, trivial, launch0.admits_env _ _ _, launch0.least_env, fairChoices_fair.cas, fairChoices_fair.clock, w_frames, w_args, w_heap, w_applies, trivial, trivial, w_case⟩
end start1
theorem witness_1 : WitnessClaimed_1 := ⟨start1.p0, start1.e0, start1.about1, start1.theMethod, start1.args0, start1.below0, start1.atStart⟩
end Jvm.Pilot.@@N@@
