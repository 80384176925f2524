import JvmDerived
import JvmDerived.Pilot.@@N@@Statement
import JvmDerived.Pilot.@@N@@Code
set_option linter.unusedVariables false
set_option linter.unusedSimpArgs false
@@BLOCK:NumsL.lean.txt@@
@@BLOCK:Masks.lean.txt@@
namespace Jvm.Pilot.@@N@@
open Jvm Jvm.ClassFile Sem Op Lib Jvm.Free Jvm.Stand Jvm.LawKit Jvm.RoadKit Bundle Jvm.Pilot.@@N@@.Jvm.D

/-! A. the goal of a walk, said of the state where it stands: from here the body ends as Q says -/
def own_End (p : Program) (e : Env) (below : List Frame) (s : State) (Q : Option Value → Heap → List Loc → Prop) (k n : Nat) (S : State) : Prop :=
  ∃ s₂ o, Steps p.tables e below S s₂ ∧ s₂.status = .running ∧ Ended s₂ below o ∧ ∃ v L, o = .returned v ∧ Q v s₂.heap L ∧ FrameEnd s o s₂ L k n
section OwnWalk
variable {p : Program} {l : Launch} {e : Env} {R : Room} {s : State} {m : MethodId} {args : Array Value} {below : List Frame} {meth : Method} {c : Code} {T : State} {locs : List Loc} {cells slots : Nat} {Z : State} {a0 : Array Value} {h h' : Heap} {Q : Option Value → Heap → List Loc → Prop} {k n : Nat}
theorem own_go {S S' : State} (f : ∀ t, Steps p.tables e below S' t → Steps p.tables e below S t) (g : own_End p e below s Q k n S') : own_End p e below s Q k n S := by
  obtain ⟨t, o, h1, r⟩ := g
  exact ⟨t, o, f t h1, r⟩
theorem own_cast {g g' : JFrame} (q : g = g') (k' : own_End p e below s Q k n (T.setTop g')) : own_End p e below s Q k n (T.setTop g) := q ▸ k'
theorem own_retN (X : Stand p l e R s m args below meth c T locs cells slots) (hx : p.tables.exec = Jvm.exec) {pc : Nat} {Ls : Array Slot} {z z' : Int32} {t : FieldType} {rest : List Value} (hret : meth.sig.returnType = some t) (hlk : meth.locks = false) (ht : t = .boolean ∨ t = .byte ∨ t = .char ∨ t = .short)
    (hd : decode c.code pc = .ok (.ireturn, 1)) (hz : nar t z = z') (hc : cells ≤ k) (hn : slots ≤ n) (hQ : Q (some (.int z')) T.heap locs) : own_End p e below s Q k n (T.setTop (mkF m pc Ls (.int z :: rest))) := by
  obtain ⟨fs, hr, hrun, hended, hW, hsame⟩ := X.leave (v := some (.int z')) (fun q => by rw [hret] at q; cases q) hlk
  subst hz
  exact ⟨_, _, retN X hx hret ht hd hr, hrun, hended, _, _, rfl, hQ, ⟨_, rfl⟩, hW, hsame.mono hc hn⟩
theorem own_retI (X : Stand p l e R s m args below meth c T locs cells slots) (hx : p.tables.exec = Jvm.exec) {pc : Nat} {Ls : Array Slot} {z : Int32} {rest : List Value} (hret : meth.sig.returnType = some .int) (hlk : meth.locks = false)
    (hd : decode c.code pc = .ok (.ireturn, 1)) (hc : cells ≤ k) (hn : slots ≤ n) (hQ : Q (some (.int z)) T.heap locs) : own_End p e below s Q k n (T.setTop (mkF m pc Ls (.int z :: rest))) := by
  obtain ⟨fs, hr, hrun, hended, hW, hsame⟩ := X.leave (v := some (.int z)) (fun q => by rw [hret] at q; cases q) hlk
  exact ⟨_, _, retOut X hx hret rfl (Or.inl ⟨rfl, Or.inl rfl, _, rfl⟩) hd hr, hrun, hended, _, _, rfl, hQ, ⟨_, rfl⟩, hW, hsame.mono hc hn⟩
theorem own_retJ (X : Stand p l e R s m args below meth c T locs cells slots) (hx : p.tables.exec = Jvm.exec) {pc : Nat} {Ls : Array Slot} {z : Int64} {rest : List Value} (hret : meth.sig.returnType = some .long) (hlk : meth.locks = false)
    (hd : decode c.code pc = .ok (.lreturn, 1)) (hc : cells ≤ k) (hn : slots ≤ n) (hQ : Q (some (.long z)) T.heap locs) : own_End p e below s Q k n (T.setTop (mkF m pc Ls (.long z :: rest))) := by
  obtain ⟨fs, hr, hrun, hended, hW, hsame⟩ := X.leave (v := some (.long z)) (fun q => by rw [hret] at q; cases q) hlk
  exact ⟨_, _, retOut X hx hret rfl (Or.inr (Or.inl ⟨rfl, rfl, _, rfl⟩)) hd hr, hrun, hended, _, _, rfl, hQ, ⟨_, rfl⟩, hW, hsame.mono hc hn⟩
theorem own_retV (X : Stand p l e R s m args below meth c T locs cells slots) (hx : p.tables.exec = Jvm.exec) {pc : Nat} {Ls : Array Slot} (hret : meth.sig.returnType = none) (hlk : meth.locks = false)
    (hd : decode c.code pc = .ok (.return_, 1)) (hc : cells ≤ k) (hn : slots ≤ n) (hQ : Q none T.heap locs) : own_End p e below s Q k n (T.setTop (mkF m pc Ls [])) := by
  obtain ⟨fs, hr, hrun, hended, hW, hsame⟩ := X.leave (v := none) (fun _ => rfl) hlk
  exact ⟨_, _, X.returnOut hx hret hd hr, hrun, hended, _, _, rfl, hQ, ⟨_, rfl⟩, hW, hsame.mono hc hn⟩

/-! B. arrays by the list of their components -/
def own_L (Z : State) (h : Heap) (a : Addr) (ty : FieldType) (vs : List Value) : Prop := ∃ cl : Cell, Arr Z h a cl ty ∧ cl.slots.toList = vs
variable {a b : Addr} {ty : FieldType} {vs : List Value} {sl : Nat} {v w : Value} {ws : List Addr}
theorem own_L.lt (F : own_L Z h a ty vs) : a < h.size := by obtain ⟨_, A, _⟩ := F; exact A.lt
theorem own_L.ext (F : own_L Z h a ty vs) (E : Ext h h') : own_L Z h' a ty vs := by obtain ⟨c, A, r⟩ := F; exact ⟨c, A.ext E, r⟩
theorem own_L.other (F : own_L Z h b ty vs) (W : Wr h h' a sl v) (q : b ≠ a) : own_L Z h' b ty vs := by obtain ⟨c, A, r⟩ := F; exact ⟨c, A.other W q, r⟩
theorem own_L.keep (F : own_L Z h a ty vs) (K : Keep h h' ws) (q : a ∉ ws) : own_L Z h' a ty vs := by obtain ⟨c, A, r⟩ := F; exact ⟨c, ⟨K.2.1 a c A.1 q, A.2⟩, r⟩
theorem own_L.same (F : own_L Z h a ty vs) (W : Wr h h' a sl v) : own_L Z h' a ty (vs.set sl v) := by
  obtain ⟨c, A, r⟩ := F
  refine ⟨_, A.same W, ?_⟩
  subst r
  simp [Cell.setSlot]
theorem own_L.eq {vs' : List Value} (F : own_L Z h a ty vs) (q : vs = vs') : own_L Z h a ty vs' := q ▸ F
theorem own_newL (X : Stand p l e R s m args below meth c T locs cells slots) (hx : p.tables.exec = Jvm.exec) (hZ : Z.Warmed39 s.vm) {aty : ArrayType} (w : (Cond.arrayClass (newarray.typeOf aty)).before a0 Z = true) (eT : T.heap = h) {pc : Nat} {Ls : Array Slot} {nn : Int32} {rest : List Value} (hd : decode c.code pc = .ok (.newarray aty, 2))
    (hn : ¬ nn < 0) {len cap : Nat} (hlen : nn.toNatClampNeg = len) (hcap : len ≤ cap) (hb : cap * 8 ≤ 536870912) (hc : cells + 1 ≤ R.cells) (hl : slots + cap ≤ R.slots) :
    ∃ T' h' b, Stand p l e R s m args below meth c T' locs (cells + 1) (slots + cap) ∧ T'.heap = h' ∧ Ext h h' ∧ b = h.size ∧ own_L Z h' b (newarray.typeOf aty) (List.replicate len (defaultValue (newarray.typeOf aty))) ∧
      ∀ t, Steps p.tables e below (T'.setTop (mkF m (pc + 2) Ls (.ref b :: rest))) t → Steps p.tables e below (T.setTop (mkF m pc Ls (.int nn :: rest))) t := by
  obtain ⟨T', h', cA, X', e', E, A, st⟩ := newP X hx hZ w eT (g := mkF m pc Ls (.int nn :: rest)) rfl hd rfl hn (cap := cap) (by rw [hlen]; exact hcap) hb hc hl
  exact ⟨T', h', h.size, X', e', E, rfl, ⟨_, A, by simp [newA, hlen]⟩, st⟩
theorem own_in {cl : Cell} {i : Nat} {j : Int32} (hs : cl.slots.toList = vs) (hj : ¬ j < 0) (hi : j.toNatClampNeg = i) (hl : i < vs.length) : ¬ (j < 0 ∨ cl.slots.size ≤ j.toNatClampNeg) := by
  subst hs hi
  simp only [Array.length_toList] at hl
  rintro (q | q)
  · exact hj q
  · omega
theorem own_at {cl : Cell} {i : Nat} {j : Int32} (hs : cl.slots.toList = vs) (hi : j.toNatClampNeg = i) (hv : vs[i]? = some v) : cl.slots[j.toNatClampNeg]? = some v := by
  subst hs hi
  simpa using hv
theorem own_len (F : own_L Z h a ty vs) {z : Int32} (hz : vs.length.toInt32 = z) (X : Stand p l e R s m args below meth c T locs cells slots) (hx : p.tables.exec = Jvm.exec) (hZ : Z.Warmed39 s.vm) (eT : T.heap = h) {pc : Nat} {Ls : Array Slot} {rest : List Value} (hd : decode c.code pc = .ok (.arraylength, 1)) :
    ∀ t, Steps p.tables e below (T.setTop (mkF m (pc + 1) Ls (.int z :: rest))) t → Steps p.tables e below (T.setTop (mkF m pc Ls (.ref a :: rest))) t := by
  obtain ⟨cl, A, r⟩ := F
  intro t k
  refine X.arraylength hx (by rw [eT]; exact A.1) (State.isArrayOf_alike hZ.alike A.2.1) (g := mkF m pc Ls (.ref a :: rest)) rfl rfl hd t ?_
  have q : cl.slots.size.toInt32 = z := by rw [← hz, ← r, Array.length_toList]
  rw [q]; exact k
theorem own_iaload (F : own_L Z h a .int vs) (X : Stand p l e R s m args below meth c T locs cells slots) (hx : p.tables.exec = Jvm.exec) (hZ : Z.Warmed39 s.vm) (eT : T.heap = h) {pc i : Nat} {Ls : Array Slot} {j : Int32} {rest : List Value} (hj : ¬ j < 0) (hi : j.toNatClampNeg = i) (hl : i < vs.length) (hv : vs[i]? = some v) (hd : decode c.code pc = .ok (.iaload, 1)) :
    ∀ t, Steps p.tables e below (T.setTop (mkF m (pc + 1) Ls (v :: rest))) t → Steps p.tables e below (T.setTop (mkF m pc Ls (.int j :: .ref a :: rest))) t := by
  obtain ⟨cl, A, r⟩ := F
  exact fun t k => X.iaload hx (j := j) (v := v) (by rw [eT]; exact A.1) (State.isArrayOf_alike hZ.alike A.2.1) A.2.2 (own_in r hj hi hl) (own_at r hi hv) (g := mkF m pc Ls (.int j :: .ref a :: rest)) rfl rfl hd t k
theorem own_baload (F : own_L Z h a .byte vs) (X : Stand p l e R s m args below meth c T locs cells slots) (hx : p.tables.exec = Jvm.exec) (hZ : Z.Warmed39 s.vm) (eT : T.heap = h) {pc i : Nat} {Ls : Array Slot} {j : Int32} {rest : List Value} (hj : ¬ j < 0) (hi : j.toNatClampNeg = i) (hl : i < vs.length) (hv : vs[i]? = some v) (hd : decode c.code pc = .ok (.baload, 1)) :
    ∀ t, Steps p.tables e below (T.setTop (mkF m (pc + 1) Ls (v :: rest))) t → Steps p.tables e below (T.setTop (mkF m pc Ls (.int j :: .ref a :: rest))) t := by
  obtain ⟨cl, A, r⟩ := F
  exact fun t k => X.baloadBytes hx (j := j) (v := v) (by rw [eT]; exact A.1) (State.isArrayOf_alike hZ.alike A.2.1) A.2.2 (own_in r hj hi hl) (own_at r hi hv) (g := mkF m pc Ls (.int j :: .ref a :: rest)) rfl rfl hd t k
theorem own_caload (F : own_L Z h a .char vs) (X : Stand p l e R s m args below meth c T locs cells slots) (hx : p.tables.exec = Jvm.exec) (hZ : Z.Warmed39 s.vm) (eT : T.heap = h) {pc i : Nat} {Ls : Array Slot} {j : Int32} {rest : List Value} (hj : ¬ j < 0) (hi : j.toNatClampNeg = i) (hl : i < vs.length) (hv : vs[i]? = some v) (hd : decode c.code pc = .ok (.caload, 1)) :
    ∀ t, Steps p.tables e below (T.setTop (mkF m (pc + 1) Ls (v :: rest))) t → Steps p.tables e below (T.setTop (mkF m pc Ls (.int j :: .ref a :: rest))) t := by
  obtain ⟨cl, A, r⟩ := F
  exact fun t k => X.caload hx (j := j) (v := v) (by rw [eT]; exact A.1) (State.isArrayOf_alike hZ.alike A.2.1) A.2.2 (own_in r hj hi hl) (own_at r hi hv) (g := mkF m pc Ls (.int j :: .ref a :: rest)) rfl rfl hd t k
theorem own_laload (F : own_L Z h a .long vs) (X : Stand p l e R s m args below meth c T locs cells slots) (hx : p.tables.exec = Jvm.exec) (hZ : Z.Warmed39 s.vm) (eT : T.heap = h) {pc i : Nat} {Ls : Array Slot} {j : Int32} {rest : List Value} (hj : ¬ j < 0) (hi : j.toNatClampNeg = i) (hl : i < vs.length) (hv : vs[i]? = some v) (hd : decode c.code pc = .ok (.laload, 1)) :
    ∀ t, Steps p.tables e below (T.setTop (mkF m (pc + 1) Ls (v :: rest))) t → Steps p.tables e below (T.setTop (mkF m pc Ls (.int j :: .ref a :: rest))) t := by
  obtain ⟨cl, A, r⟩ := F
  exact fun t k => X.laload hx (j := j) (v := v) (by rw [eT]; exact A.1) (State.isArrayOf_alike hZ.alike A.2.1) A.2.2 (own_in r hj hi hl) (own_at r hi hv) (g := mkF m pc Ls (.int j :: .ref a :: rest)) rfl rfl hd t k
theorem own_iastore (F : own_L Z h a .int vs) (X : Stand p l e R s m args below meth c T locs cells slots) (hx : p.tables.exec = Jvm.exec) (hZ : Z.Warmed39 s.vm) (eT : T.heap = h) {pc i : Nat} {Ls : Array Slot} {j x : Int32} {rest : List Value} (hj : ¬ j < 0) (hi : j.toNatClampNeg = i) (hl : i < vs.length) (hd : decode c.code pc = .ok (.iastore, 1)) :
    ∃ T' h', Stand p l e R s m args below meth c T' (locs ++ [⟨a, i⟩]) cells slots ∧ T'.heap = h' ∧ Wr h h' a i (.int x) ∧ own_L Z h' a .int (vs.set i (.int x)) ∧
      ∀ t, Steps p.tables e below (T'.setTop (mkF m (pc + 1) Ls rest)) t → Steps p.tables e below (T.setTop (mkF m pc Ls (.int x :: .int j :: .ref a :: rest))) t := by
  have F0 := F
  obtain ⟨cl, A, r⟩ := F
  obtain ⟨T', h', X', e', W, st⟩ := stI X hx hZ eT A (j := j) (own_in r hj hi hl) (g := mkF m pc Ls (.int x :: .int j :: .ref a :: rest)) rfl rfl hd
  subst hi
  exact ⟨T', h', X', e', W, F0.same W, st⟩
theorem own_bastore (F : own_L Z h a .byte vs) (X : Stand p l e R s m args below meth c T locs cells slots) (hx : p.tables.exec = Jvm.exec) (hZ : Z.Warmed39 s.vm) (eT : T.heap = h) {pc i : Nat} {Ls : Array Slot} {j x : Int32} {rest : List Value} (hj : ¬ j < 0) (hi : j.toNatClampNeg = i) (hl : i < vs.length) (hd : decode c.code pc = .ok (.bastore, 1)) :
    ∃ T' h', Stand p l e R s m args below meth c T' (locs ++ [⟨a, i⟩]) cells slots ∧ T'.heap = h' ∧ Wr h h' a i (.int (nar .byte x)) ∧ own_L Z h' a .byte (vs.set i (.int (nar .byte x))) ∧
      ∀ t, Steps p.tables e below (T'.setTop (mkF m (pc + 1) Ls rest)) t → Steps p.tables e below (T.setTop (mkF m pc Ls (.int x :: .int j :: .ref a :: rest))) t := by
  have F0 := F
  obtain ⟨cl, A, r⟩ := F
  obtain ⟨T', h', X', e', W, st⟩ := stB X hx hZ eT A (j := j) (own_in r hj hi hl) (g := mkF m pc Ls (.int x :: .int j :: .ref a :: rest)) rfl rfl hd
  subst hi
  exact ⟨T', h', X', e', W, F0.same W, st⟩
theorem own_castore (F : own_L Z h a .char vs) (X : Stand p l e R s m args below meth c T locs cells slots) (hx : p.tables.exec = Jvm.exec) (hZ : Z.Warmed39 s.vm) (eT : T.heap = h) {pc i : Nat} {Ls : Array Slot} {j x : Int32} {rest : List Value} (hj : ¬ j < 0) (hi : j.toNatClampNeg = i) (hl : i < vs.length) (hd : decode c.code pc = .ok (.castore, 1)) :
    ∃ T' h', Stand p l e R s m args below meth c T' (locs ++ [⟨a, i⟩]) cells slots ∧ T'.heap = h' ∧ Wr h h' a i (.int (nar .char x)) ∧ own_L Z h' a .char (vs.set i (.int (nar .char x))) ∧
      ∀ t, Steps p.tables e below (T'.setTop (mkF m (pc + 1) Ls rest)) t → Steps p.tables e below (T.setTop (mkF m pc Ls (.int x :: .int j :: .ref a :: rest))) t := by
  have F0 := F
  obtain ⟨cl, A, r⟩ := F
  obtain ⟨T', h', X', e', W, st⟩ := stC X hx hZ eT A (j := j) (own_in r hj hi hl) (g := mkF m pc Ls (.int x :: .int j :: .ref a :: rest)) rfl rfl hd
  subst hi
  exact ⟨T', h', X', e', W, F0.same W, st⟩
theorem own_lastore (F : own_L Z h a .long vs) (X : Stand p l e R s m args below meth c T locs cells slots) (hx : p.tables.exec = Jvm.exec) (hZ : Z.Warmed39 s.vm) (eT : T.heap = h) {pc i : Nat} {Ls : Array Slot} {j : Int32} {x : Int64} {rest : List Value} (hj : ¬ j < 0) (hi : j.toNatClampNeg = i) (hl : i < vs.length) (hd : decode c.code pc = .ok (.lastore, 1)) :
    ∃ T' h', Stand p l e R s m args below meth c T' (locs ++ [⟨a, i⟩]) cells slots ∧ T'.heap = h' ∧ Wr h h' a i (.long x) ∧ own_L Z h' a .long (vs.set i (.long x)) ∧
      ∀ t, Steps p.tables e below (T'.setTop (mkF m (pc + 1) Ls rest)) t → Steps p.tables e below (T.setTop (mkF m pc Ls (.long x :: .int j :: .ref a :: rest))) t := by
  have F0 := F
  obtain ⟨cl, A, r⟩ := F
  obtain ⟨T', h', X', e', W, st⟩ := stJ X hx hZ eT A (j := j) (own_in r hj hi hl) (g := mkF m pc Ls (.long x :: .int j :: .ref a :: rest)) rfl rfl hd
  subst hi
  exact ⟨T', h', X', e', W, F0.same W, st⟩

theorem own_nneg {j : Int32} (q : 0 ≤ j.toInt) : ¬ j < 0 := by
  rw [Int32.lt_iff_toInt_lt]; have e0 : (0 : Int32).toInt = 0 := rfl
  omega
theorem own_ltn {j : Int32} {i : Nat} (q : 0 ≤ j.toInt) (r : j.toInt < i) : j.toNatClampNeg < i := by
  simp only [Int32.toNatClampNeg]; omega
theorem own_mapAt {xs : List Int32} {i : Nat} (q : i < (List.map Value.int xs).length) : ∃ v : Int32, (List.map Value.int xs)[i]? = some (.int v) := by
  rw [List.length_map] at q
  exact ⟨xs[i], by simp [q]⟩
theorem own_rem {x y : Int32} {i : Int} (hx : 0 ≤ x.toInt) (hy : y.toInt = i) (hi : 0 < i) : 0 ≤ (x % y).toInt ∧ (x % y).toInt < i := by
  rw [Jvm.Kit.i32_rem_nonneg hx, hy]
  exact ⟨Int.emod_nonneg _ (by omega), Int.emod_lt_of_pos _ hi⟩
theorem own_lenI {xs : List Int32} : (List.map Value.int xs).length.toInt32 = Int32.ofNat xs.length := by
  have h : (List.map Value.int xs).length = xs.length := List.length_map ..
  exact congrArg Nat.toInt32 h
theorem own_lenC {α : Type} {xs : List α} {f : α → Value} {q : Nat} (h : xs.length = q) : (List.map f xs).length.toInt32 = q.toInt32 := by
  rw [List.length_map, h]
theorem own_eqI (x y : Int32) : x = y ↔ x.toInt = y.toInt := Int32.toInt_inj.symm
theorem own_or {α : Type} {P P' : Prop} [Decidable P] [Decidable P'] {a b : α} : (if P then a else if P' then a else b) = if P ∨ P' then a else b := by
  by_cases h1 : P <;> by_cases h2 : P' <;> simp [h1, h2]
theorem own_rng {α : Type} {P P' : Prop} [Decidable P] [Decidable P'] {a b : α} : (if P then a else if P' then a else b) = if ¬ P ∧ ¬ P' then b else a := by
  by_cases h1 : P <;> by_cases h2 : P' <;> simp [h1, h2]

theorem own_flip {P P' : Prop} [Decidable P] [Decidable P'] {a b : Int32} (h : P ↔ ¬ P') : (if P then a else b) = if P' then b else a := by
  by_cases h2 : P'
  · rw [if_pos h2, if_neg (fun q => h.mp q h2)]
  · rw [if_neg h2, if_pos (h.mpr h2)]

/-! C. a call by the callee's contract -/
/-- the contract of a body: started with these arguments on this heap it ends as Q says -/
abbrev own_C (l : Launch) (Z : State) (y : MethodName) (bytes : ByteArray) (maxL : Nat) (ret : Option FieldType) (rm : Room) (as : Array Value) (h0 : Heap) (Q : Option Value → Heap → List Loc → Prop) : Prop :=
  MetFree l y (head1 [Cond.code y bytes maxL ret] rm) (fun a U => a = as ∧ Z.Warmed39 U.vm ∧ U.heap = h0) (fun _ _ _ _ _ => True) (fun _ U o U' => ∃ v L, o = .returned v ∧ Q v U'.heap L ∧ FrameEnd U o U' L rm.cells rm.slots)
/-- a pure body: it returns w, and nothing has moved -/
abbrev own_P (h0 : Heap) (w : Option Value) : Option Value → Heap → List Loc → Prop := fun v h L => v = w ∧ L = [] ∧ h = h0
theorem own_callS (X : Stand p l e R s m args below meth c T locs cells slots) (hx : p.tables.exec = Jvm.exec) (hZ : Z.Warmed39 s.vm) {own : String} {index : Nat} {y : MethodName} {bytes : ByteArray} {maxL : Nat} {ret : Option FieldType}
    (hown : s.vm.findClass own = some m.cls) (w1 : (Cond.methodLink own index y).before a0 Z = true) (w2 : (Cond.static y).before a0 Z = true) (w3 : (Cond.initialized y.cls).before a0 Z = true) (w4 : (Cond.code y bytes maxL ret).before a0 Z = true)
    {rm : Room} {as : Array Value} (hM : own_C l Z y bytes maxL ret rm as h Q) (eT : T.heap = h) {pc : Nat} {Ls : Array Slot} {argsL rest : List Value} (hd : decode c.code pc = .ok (.invokestatic index, 3))
    {ps : List FieldType} {rt : Option FieldType} (hpd : parseMethodDescriptor y.desc = some ⟨ps, rt⟩) (W : Nat) (hsize : Ls.size = c.maxLocals) (hy : y.cls ≠ "java/lang/invoke/MethodHandle" ∧ y.cls ≠ "java/lang/invoke/VarHandle") (hl : argsL.length = ps.length) (has : argsL.toArray = as)
    {st : List Value} (hst : st = argsL.reverse ++ rest) (hW : (rest.map fun v => v.category).sum ≤ W) (hf : rm.frames + 1 ≤ R.frames) (hlo : W + (maxL + 11) + rm.locals ≤ R.locals) (hc : cells + rm.cells ≤ R.cells) (hs : slots + rm.slots ≤ R.slots) :
    ∃ v T' L, Stand p l e R s m args below meth c T' (locs ++ L) (cells + rm.cells) (slots + rm.slots) ∧ Q v T'.heap L ∧
      ∀ t, Steps p.tables e below (T'.setTop (mkF m (pc + 3) Ls (v.toList ++ rest))) t → Steps p.tables e below (T.setTop (mkF m pc Ls st)) t := by
  obtain ⟨v, _, ⟨T1, L1, k1, n1⟩, -, X1, ⟨L, hQ, l1, y1, z1⟩, st1⟩ := Jvm.LawKit.callS X hx (y := y) hown (mvT hZ w1) (mvT hZ w2) (mvT hZ w3) (mvT hZ w4) hy (backOf (W := W) hM hZ w4 w3 hf hlo) (g := mkF m pc Ls st) rfl hsize (argsL := argsL) (rest := rest) (lenOf hpd hl) hst (by show 2 * 0 + _ ≤ _; rw [Nat.mul_zero, Nat.zero_add]; exact hW) hd (fun _ _ => ⟨has, eT, hc, hs⟩)
  dsimp only [Pt.U, Pt.locs, Pt.cells, Pt.slots] at X1 l1 y1 z1 st1 hQ
  subst l1 y1 z1
  exact ⟨v, T1, L, X1, hQ, st1⟩
/-- a static call of a pure body -/
theorem own_callP (X : Stand p l e R s m args below meth c T locs cells slots) (hx : p.tables.exec = Jvm.exec) (hZ : Z.Warmed39 s.vm) {own : String} {index : Nat} {y : MethodName} {bytes : ByteArray} {maxL : Nat} {ret : Option FieldType}
    (hown : s.vm.findClass own = some m.cls) (w1 : (Cond.methodLink own index y).before a0 Z = true) (w2 : (Cond.static y).before a0 Z = true) (w3 : (Cond.initialized y.cls).before a0 Z = true) (w4 : (Cond.code y bytes maxL ret).before a0 Z = true)
    {fr lc : Nat} {as : Array Value} {w : Option Value} (hM : own_C l Z y bytes maxL ret { frames := fr, cells := 0, slots := 0, locals := lc } as h (own_P h w)) (eT : T.heap = h) {pc : Nat} {Ls : Array Slot} {argsL rest : List Value} (hd : decode c.code pc = .ok (.invokestatic index, 3))
    {ps : List FieldType} {rt : Option FieldType} (hpd : parseMethodDescriptor y.desc = some ⟨ps, rt⟩) (W : Nat) (hsize : Ls.size = c.maxLocals) (hy : y.cls ≠ "java/lang/invoke/MethodHandle" ∧ y.cls ≠ "java/lang/invoke/VarHandle") (hl : argsL.length = ps.length) (has : argsL.toArray = as)
    {st : List Value} (hst : st = argsL.reverse ++ rest) (hW : (rest.map fun v => v.category).sum ≤ W) (hf : fr + 1 ≤ R.frames) (hlo : W + (maxL + 11) + lc ≤ R.locals) (hc : cells ≤ R.cells) (hs : slots ≤ R.slots) :
    ∃ T', Stand p l e R s m args below meth c T' locs cells slots ∧ T'.heap = h ∧
      ∀ t, Steps p.tables e below (T'.setTop (mkF m (pc + 3) Ls (w.toList ++ rest))) t → Steps p.tables e below (T.setTop (mkF m pc Ls st)) t := by
  obtain ⟨v, T', L, X', ⟨rfl, rfl, e'⟩, st'⟩ := own_callS X hx hZ hown w1 w2 w3 w4 hM eT hd hpd W hsize hy hl has hst hW hf hlo hc hs
  exact ⟨T', by simpa using X', e', st'⟩
/-- a constructor by its contract -/
theorem own_callI (X : Stand p l e R s m args below meth c T locs cells slots) (hx : p.tables.exec = Jvm.exec) (hZ : Z.Warmed39 s.vm) {own : String} {index : Nat} {y : MethodName} {bytes : ByteArray} {maxL : Nat} (hy1 : y.name = "<init>")
    (hown : s.vm.findClass own = some m.cls) (w1 : (Cond.methodLink own index y).before a0 Z = true) (w2 : (Cond.instanceMethod y).before a0 Z = true) (w3 : (Cond.initialized y.cls).before a0 Z = true) (w4 : (Cond.code y bytes maxL none).before a0 Z = true)
    {rm : Room} {as : Array Value} (hM : own_C l Z y bytes maxL none rm as h Q) (eT : T.heap = h) {pc : Nat} {Ls : Array Slot} {argsL rest : List Value} (hd : decode c.code pc = .ok (.invokespecial index, 3))
    {ps : List FieldType} {rt : Option FieldType} (hpd : parseMethodDescriptor y.desc = some ⟨ps, rt⟩) (W : Nat) (hsize : Ls.size = c.maxLocals) (hy : y.cls ≠ "java/lang/invoke/MethodHandle" ∧ y.cls ≠ "java/lang/invoke/VarHandle") (hl : argsL.length = ps.length) (has : (.ref a :: argsL).toArray = as)
    {st : List Value} (hst : st = argsL.reverse ++ .ref a :: rest) (hW : (rest.map fun v => v.category).sum ≤ W) (hf : rm.frames + 1 ≤ R.frames) (hlo : W + (maxL + 11) + rm.locals ≤ R.locals) (hc : cells + rm.cells ≤ R.cells) (hs : slots + rm.slots ≤ R.slots) :
    ∃ v T' L, Stand p l e R s m args below meth c T' (locs ++ L) (cells + rm.cells) (slots + rm.slots) ∧ Q v T'.heap L ∧
      ∀ t, Steps p.tables e below (T'.setTop (mkF m (pc + 3) Ls (v.toList ++ rest))) t → Steps p.tables e below (T.setTop (mkF m pc Ls st)) t := by
  obtain ⟨v, _, ⟨T1, L1, k1, n1⟩, -, X1, ⟨L, hQ, l1, y1, z1⟩, st1⟩ := X.specialBack hx (y := y) hy1 hown (mvT hZ w1) (mvT hZ w2) (mvT hZ w4) hy (backOf (W := W) hM hZ w4 w3 hf hlo) (g := mkF m pc Ls st) rfl hsize (Steps.refl _) (a := a) (argsL := argsL) (rest := rest) (lenOf hpd hl) hst (by show 2 * 0 + _ ≤ _; rw [Nat.mul_zero, Nat.zero_add]; exact hW) hd (fun _ _ => ⟨has, eT, hc, hs⟩)
  dsimp only [Pt.U, Pt.locs, Pt.cells, Pt.slots] at X1 l1 y1 z1 st1 hQ
  subst l1 y1 z1
  exact ⟨v, T1, L, X1, hQ, fun t k => st1.trans k⟩
/-- an instance method that the receiver's class selects, by its contract -/
theorem own_callV (X : Stand p l e R s m args below meth c T locs cells slots) (hx : p.tables.exec = Jvm.exec) (hZ : Z.Warmed39 s.vm) {own : String} {index : Nat} {y : MethodName} {bytes : ByteArray} {maxL : Nat} {ret : Option FieldType}
    (hown : s.vm.findClass own = some m.cls) (w1 : (Cond.methodLink own index y).before a0 Z = true) (wd : (Cond.declares y).before a0 Z = true) (ws' : (Cond.selects y.cls y y).before a0 Z = true) (w2 : (Cond.instanceMethod y).before a0 Z = true) (w3 : (Cond.initialized y.cls).before a0 Z = true) (w4 : (Cond.code y bytes maxL ret).before a0 Z = true)
    {rm : Room} {as : Array Value} (hM : own_C l Z y bytes maxL ret rm as h Q) (eT : T.heap = h) (hE : Exa Z h a y.cls) {pc : Nat} {Ls : Array Slot} {argsL rest : List Value} (hd : decode c.code pc = .ok (.invokevirtual index, 3))
    {ps : List FieldType} {rt : Option FieldType} (hpd : parseMethodDescriptor y.desc = some ⟨ps, rt⟩) (W : Nat) (hsize : Ls.size = c.maxLocals) (hy : y.cls ≠ "java/lang/invoke/MethodHandle" ∧ y.cls ≠ "java/lang/invoke/VarHandle") (hl : argsL.length = ps.length) (has : (.ref a :: argsL).toArray = as)
    {st : List Value} (hst : st = argsL.reverse ++ .ref a :: rest) (hW : (rest.map fun v => v.category).sum ≤ W) (hf : rm.frames + 1 ≤ R.frames) (hlo : W + (maxL + 11) + rm.locals ≤ R.locals) (hc : cells + rm.cells ≤ R.cells) (hs : slots + rm.slots ≤ R.slots) :
    ∃ v T' L, Stand p l e R s m args below meth c T' (locs ++ L) (cells + rm.cells) (slots + rm.slots) ∧ Q v T'.heap L ∧
      ∀ t, Steps p.tables e below (T'.setTop (mkF m (pc + 3) Ls (v.toList ++ rest))) t → Steps p.tables e below (T.setTop (mkF m pc Ls st)) t := by
  obtain ⟨cq, kq, qa, qb, qc⟩ := isOf hZ eT hE
  obtain ⟨v, _, ⟨T1, L1, k1, n1⟩, -, X1, ⟨L, hQ, l1, y1, z1⟩, st1⟩ := X.virtualBack hx (y := y) (z := y) hown (mvT hZ w1) (mvT hZ wd) (notFace_of_selects (args := #[]) (mvT hZ ws')) (mvT hZ ws') (mvT hZ w2) hy (backOf (W := W) hM hZ w4 w3 hf hlo) qa qc (g := mkF m pc Ls st) rfl hsize (Steps.refl _) (argsL := argsL) (rest := rest) (lenOf hpd hl) hst (by show 2 * 0 + _ ≤ _; rw [Nat.mul_zero, Nat.zero_add]; exact hW) hd (fun _ _ => ⟨has, eT, hc, hs⟩)
  dsimp only [Pt.U, Pt.locs, Pt.cells, Pt.slots] at X1 l1 y1 z1 st1 hQ
  subst l1 y1 z1
  exact ⟨v, T1, L, X1, hQ, fun t k => st1.trans k⟩
/-- a private method by its contract -/
theorem own_callPr (X : Stand p l e R s m args below meth c T locs cells slots) (hx : p.tables.exec = Jvm.exec) (hZ : Z.Warmed39 s.vm) {own : String} {index kk : Nat} {y : MethodName} {bytes : ByteArray} {maxL : Nat} {ret : Option FieldType}
    (hown : s.vm.findClass own = some m.cls) (w1 : (Cond.methodLink own index y).before a0 Z = true) (wp : (Cond.privateMethod y).before a0 Z = true) (wi : (Cond.instantiable y.cls kk).before a0 Z = true) (w2 : (Cond.instanceMethod y).before a0 Z = true) (w3 : (Cond.initialized y.cls).before a0 Z = true) (w4 : (Cond.code y bytes maxL ret).before a0 Z = true)
    {rm : Room} {as : Array Value} (hM : own_C l Z y bytes maxL ret rm as h Q) (eT : T.heap = h) (hE : Exa Z h a y.cls) {pc : Nat} {Ls : Array Slot} {argsL rest : List Value} (hd : decode c.code pc = .ok (.invokevirtual index, 3))
    {ps : List FieldType} {rt : Option FieldType} (hpd : parseMethodDescriptor y.desc = some ⟨ps, rt⟩) (W : Nat) (hsize : Ls.size = c.maxLocals) (hy : y.cls ≠ "java/lang/invoke/MethodHandle" ∧ y.cls ≠ "java/lang/invoke/VarHandle") (hl : argsL.length = ps.length) (has : (.ref a :: argsL).toArray = as)
    {st : List Value} (hst : st = argsL.reverse ++ .ref a :: rest) (hW : (rest.map fun v => v.category).sum ≤ W) (hf : rm.frames + 1 ≤ R.frames) (hlo : W + (maxL + 11) + rm.locals ≤ R.locals) (hc : cells + rm.cells ≤ R.cells) (hs : slots + rm.slots ≤ R.slots) :
    ∃ v T' L, Stand p l e R s m args below meth c T' (locs ++ L) (cells + rm.cells) (slots + rm.slots) ∧ Q v T'.heap L ∧
      ∀ t, Steps p.tables e below (T'.setTop (mkF m (pc + 3) Ls (v.toList ++ rest))) t → Steps p.tables e below (T.setTop (mkF m pc Ls st)) t := by
  obtain ⟨cq, q1, q2⟩ := hE.cell
  have hpr : s.PrivateAt y := Cond.privateMethod_at (mvP hZ wp (args := #[]))
  have hsel : (Cond.selects y.cls y y).before args s = true := by
    obtain ⟨ci, ki, hci, hki, -, hniab, -, -⟩ := Cond.instantiable_spec (mvT (args := args) hZ wi)
    exact selects_self_of_private hci hki (Bool.or_eq_false_iff.mp hniab).1 hpr (mvT hZ w2) hy
  obtain ⟨v, _, ⟨T1, L1, k1, n1⟩, -, X1, ⟨L, hQ, l1, y1, z1⟩, st1⟩ := X.privateBack hx (y := y) hown (mvT hZ w1) (mvT hZ w2) hsel hpr (mvT hZ w4) hy (backOf (W := W) hM hZ w4 w3 hf hlo) (g := mkF m pc Ls st) rfl hsize (Steps.refl _) (a := a) (by rw [eT]; exact q1) q2 (argsL := argsL) (rest := rest) (lenOf hpd hl) hst (by show 2 * 0 + _ ≤ _; rw [Nat.mul_zero, Nat.zero_add]; exact hW) hd (fun _ _ => ⟨has, eT, hc, hs⟩)
  dsimp only [Pt.U, Pt.locs, Pt.cells, Pt.slots] at X1 l1 y1 z1 st1 hQ
  subst l1 y1 z1
  exact ⟨v, T1, L, X1, hQ, fun t k => st1.trans k⟩
end OwnWalk
theorem pd_0 : parseMethodDescriptor "(I)Z" = some ⟨[.int], some .boolean⟩ := by decide +kernel
theorem d1_0 : decode prog_267_method_2_code 0 = .ok (.iload_n 0, 1) := by decide +kernel
theorem d1_1 : decode prog_267_method_2_code 1 = .ok (.bipush 9, 2) := by decide +kernel
theorem d1_3 : decode prog_267_method_2_code 3 = .ok (.if_icmp .eq 51, 3) := by decide +kernel
theorem d1_6 : decode prog_267_method_2_code 6 = .ok (.iload_n 0, 1) := by decide +kernel
theorem d1_7 : decode prog_267_method_2_code 7 = .ok (.bipush 10, 2) := by decide +kernel
theorem d1_9 : decode prog_267_method_2_code 9 = .ok (.if_icmp .eq 45, 3) := by decide +kernel
theorem d1_12 : decode prog_267_method_2_code 12 = .ok (.iload_n 0, 1) := by decide +kernel
theorem d1_13 : decode prog_267_method_2_code 13 = .ok (.bipush 13, 2) := by decide +kernel
theorem d1_15 : decode prog_267_method_2_code 15 = .ok (.if_icmp .eq 39, 3) := by decide +kernel
theorem d1_18 : decode prog_267_method_2_code 18 = .ok (.iload_n 0, 1) := by decide +kernel
theorem d1_19 : decode prog_267_method_2_code 19 = .ok (.bipush 32, 2) := by decide +kernel
theorem d1_21 : decode prog_267_method_2_code 21 = .ok (.if_icmp .lt 9, 3) := by decide +kernel
theorem d1_24 : decode prog_267_method_2_code 24 = .ok (.iload_n 0, 1) := by decide +kernel
theorem d1_25 : decode prog_267_method_2_code 25 = .ok (.ldc 7, 2) := by decide +kernel
theorem d1_27 : decode prog_267_method_2_code 27 = .ok (.if_icmp .le 27, 3) := by decide +kernel
theorem d1_30 : decode prog_267_method_2_code 30 = .ok (.iload_n 0, 1) := by decide +kernel
theorem d1_31 : decode prog_267_method_2_code 31 = .ok (.ldc 8, 2) := by decide +kernel
theorem d1_33 : decode prog_267_method_2_code 33 = .ok (.if_icmp .lt 9, 3) := by decide +kernel
theorem d1_36 : decode prog_267_method_2_code 36 = .ok (.iload_n 0, 1) := by decide +kernel
theorem d1_37 : decode prog_267_method_2_code 37 = .ok (.ldc 9, 2) := by decide +kernel
theorem d1_39 : decode prog_267_method_2_code 39 = .ok (.if_icmp .le 15, 3) := by decide +kernel
theorem d1_42 : decode prog_267_method_2_code 42 = .ok (.iload_n 0, 1) := by decide +kernel
theorem d1_43 : decode prog_267_method_2_code 43 = .ok (.ldc 10, 2) := by decide +kernel
theorem d1_45 : decode prog_267_method_2_code 45 = .ok (.if_icmp .lt 13, 3) := by decide +kernel
theorem d1_48 : decode prog_267_method_2_code 48 = .ok (.iload_n 0, 1) := by decide +kernel
theorem d1_49 : decode prog_267_method_2_code 49 = .ok (.ldc 11, 2) := by decide +kernel
theorem d1_51 : decode prog_267_method_2_code 51 = .ok (.if_icmp .gt 7, 3) := by decide +kernel
theorem d1_54 : decode prog_267_method_2_code 54 = .ok (.iconst 1, 1) := by decide +kernel
theorem d1_55 : decode prog_267_method_2_code 55 = .ok (.goto 4, 3) := by decide +kernel
theorem d1_58 : decode prog_267_method_2_code 58 = .ok (.iconst 0, 1) := by decide +kernel
theorem d1_59 : decode prog_267_method_2_code 59 = .ok (.ireturn, 1) := by decide +kernel
def f1_42 (l0 : Int32) : Int32 := (if l0 < (65536 : Int32) then (0 : Int32) else (if (1114111 : Int32) < l0 then (0 : Int32) else (1 : Int32)))
def f1_30 (l0 : Int32) : Int32 := (if l0 < (57344 : Int32) then (f1_42 l0) else (if (65533 : Int32) < l0 then (f1_42 l0) else (1 : Int32)))
def f1_0 (l0 : Int32) : Int32 := (if l0 = (9 : Int32) then (1 : Int32) else (if l0 = (10 : Int32) then (1 : Int32) else (if l0 = (13 : Int32) then (1 : Int32) else (if l0 < (32 : Int32) then (f1_30 l0) else (if (55295 : Int32) < l0 then (f1_30 l0) else (1 : Int32))))))
set_option maxRecDepth 65536 in
set_option maxHeartbeats 40000000 in
theorem w1_42 {p : Program} {l : Launch} {e : Env} {s : State} {m : MethodId} {args : Array Value} {below : List Frame} {meth : Method} {c : Code} {T0 : State} {locs : List Loc} {Z : State} {a0 : Array Value} {h0 : Heap} {Q : Option Value → Heap → List Loc → Prop}
    (X0 : Stand p l e ({ frames := 0, cells := 0, slots := 0, locals := 0 } : Room) s m args below meth c T0 locs 0 0) (hx : p.tables.exec = Jvm.exec) (hby : c.code = prog_267_method_2_code) (hml : c.maxLocals = 1) (hret : meth.sig.returnType = (some .boolean)) (hlk : meth.locks = false) (hown : s.vm.findClass "com/example/hornbeam/hornbeam/model/XmlCharacters" = some m.cls) (hZ : Z.Warmed39 s.vm) (hw : ∀ d ∈ tables_1, d.before a0 Z = true) (e0 : T0.heap = h0)
    (l0 : Int32) (hQ : Q (some (.int (f1_42 l0))) h0 locs) : own_End p e below s Q 0 0 (T0.setTop (mkF m 42 #[.val (.int l0)] [])) := by
  unfold f1_42 at hQ
  refine own_go (S' := (T0.setTop (mkF m 43 #[.val (.int l0)] [(.int l0)]))) (fun t k => XS.iloadN X0.here hx rfl (hb hby d1_42) rfl k) ?_
  refine own_go (S' := (T0.setTop (mkF m 45 #[.val (.int l0)] [(.int (65536 : Int32)), (.int l0)]))) (fun t k => Stand.ldcI X0 hx hown (mvT hZ (hw _ (List.mem_of_getElem? (i := 13) rfl))) rfl (hb hby d1_43) k) ?_
  by_cases hc45_1 : l0 < (65536 : Int32)
  ·
    rw [if_pos hc45_1] at hQ
    refine own_go (S' := (T0.setTop (mkF m 58 #[.val (.int l0)] []))) (fun t k => XS.icmpYes X0.here hx rfl (pc0 := 45) (pc' := 58) rfl (hb hby d1_45) rfl (tlt hc45_1).1 (by decide) (by decide) k) ?_
    refine own_go (S' := (T0.setTop (mkF m 59 #[.val (.int l0)] [(.int (0 : Int32))]))) (fun t k => XT.iconstV X0.here hx rfl (0 : Int32) (hb hby d1_58) (by decide) k) ?_
    exact own_retN X0 hx hret hlk (by simp) (hb hby d1_59) (by first | rfl | decide) (Nat.le_refl _) (Nat.le_refl _) (by rw [e0]; exact hQ)
  ·
    rw [if_neg hc45_1] at hQ
    refine own_go (S' := (T0.setTop (mkF m 48 #[.val (.int l0)] []))) (fun t k => XS.icmpNo X0.here hx rfl (hb hby d1_45) rfl (flt hc45_1).1 k) ?_
    refine own_go (S' := (T0.setTop (mkF m 49 #[.val (.int l0)] [(.int l0)]))) (fun t k => XS.iloadN X0.here hx rfl (hb hby d1_48) rfl k) ?_
    refine own_go (S' := (T0.setTop (mkF m 51 #[.val (.int l0)] [(.int (1114111 : Int32)), (.int l0)]))) (fun t k => Stand.ldcI X0 hx hown (mvT hZ (hw _ (List.mem_of_getElem? (i := 23) rfl))) rfl (hb hby d1_49) k) ?_
    by_cases hc51_2 : (1114111 : Int32) < l0
    ·
      rw [if_pos hc51_2] at hQ
      refine own_go (S' := (T0.setTop (mkF m 58 #[.val (.int l0)] []))) (fun t k => XS.icmpYes X0.here hx rfl (pc0 := 51) (pc' := 58) rfl (hb hby d1_51) rfl (tlt hc51_2).2.2.1 (by decide) (by decide) k) ?_
      refine own_go (S' := (T0.setTop (mkF m 59 #[.val (.int l0)] [(.int (0 : Int32))]))) (fun t k => XT.iconstV X0.here hx rfl (0 : Int32) (hb hby d1_58) (by decide) k) ?_
      exact own_retN X0 hx hret hlk (by simp) (hb hby d1_59) (by first | rfl | decide) (Nat.le_refl _) (Nat.le_refl _) (by rw [e0]; exact hQ)
    ·
      rw [if_neg hc51_2] at hQ
      refine own_go (S' := (T0.setTop (mkF m 54 #[.val (.int l0)] []))) (fun t k => XS.icmpNo X0.here hx rfl (hb hby d1_51) rfl (flt hc51_2).2.2.1 k) ?_
      refine own_go (S' := (T0.setTop (mkF m 55 #[.val (.int l0)] [(.int (1 : Int32))]))) (fun t k => XT.iconstV X0.here hx rfl (1 : Int32) (hb hby d1_54) (by decide) k) ?_
      refine own_go (S' := (T0.setTop (mkF m 59 #[.val (.int l0)] [(.int (1 : Int32))]))) (fun t k => XS.goto X0.here hx rfl (pc0 := 55) (pc' := 59) rfl (hb hby d1_55) (by decide) (by decide) k) ?_
      exact own_retN X0 hx hret hlk (by simp) (hb hby d1_59) (by first | rfl | decide) (Nat.le_refl _) (Nat.le_refl _) (by rw [e0]; exact hQ)
set_option maxRecDepth 65536 in
set_option maxHeartbeats 40000000 in
theorem w1_30 {p : Program} {l : Launch} {e : Env} {s : State} {m : MethodId} {args : Array Value} {below : List Frame} {meth : Method} {c : Code} {T0 : State} {locs : List Loc} {Z : State} {a0 : Array Value} {h0 : Heap} {Q : Option Value → Heap → List Loc → Prop}
    (X0 : Stand p l e ({ frames := 0, cells := 0, slots := 0, locals := 0 } : Room) s m args below meth c T0 locs 0 0) (hx : p.tables.exec = Jvm.exec) (hby : c.code = prog_267_method_2_code) (hml : c.maxLocals = 1) (hret : meth.sig.returnType = (some .boolean)) (hlk : meth.locks = false) (hown : s.vm.findClass "com/example/hornbeam/hornbeam/model/XmlCharacters" = some m.cls) (hZ : Z.Warmed39 s.vm) (hw : ∀ d ∈ tables_1, d.before a0 Z = true) (e0 : T0.heap = h0)
    (l0 : Int32) (hQ : Q (some (.int (f1_30 l0))) h0 locs) : own_End p e below s Q 0 0 (T0.setTop (mkF m 30 #[.val (.int l0)] [])) := by
  unfold f1_30 at hQ
  refine own_go (S' := (T0.setTop (mkF m 31 #[.val (.int l0)] [(.int l0)]))) (fun t k => XS.iloadN X0.here hx rfl (hb hby d1_30) rfl k) ?_
  refine own_go (S' := (T0.setTop (mkF m 33 #[.val (.int l0)] [(.int (57344 : Int32)), (.int l0)]))) (fun t k => Stand.ldcI X0 hx hown (mvT hZ (hw _ (List.mem_of_getElem? (i := 12) rfl))) rfl (hb hby d1_31) k) ?_
  by_cases hc33_1 : l0 < (57344 : Int32)
  ·
    rw [if_pos hc33_1] at hQ
    refine own_go (S' := (T0.setTop (mkF m 42 #[.val (.int l0)] []))) (fun t k => XS.icmpYes X0.here hx rfl (pc0 := 33) (pc' := 42) rfl (hb hby d1_33) rfl (tlt hc33_1).1 (by decide) (by decide) k) ?_
    exact w1_42 X0 hx hby hml hret hlk hown hZ hw e0 l0 hQ
  ·
    rw [if_neg hc33_1] at hQ
    refine own_go (S' := (T0.setTop (mkF m 36 #[.val (.int l0)] []))) (fun t k => XS.icmpNo X0.here hx rfl (hb hby d1_33) rfl (flt hc33_1).1 k) ?_
    refine own_go (S' := (T0.setTop (mkF m 37 #[.val (.int l0)] [(.int l0)]))) (fun t k => XS.iloadN X0.here hx rfl (hb hby d1_36) rfl k) ?_
    refine own_go (S' := (T0.setTop (mkF m 39 #[.val (.int l0)] [(.int (65533 : Int32)), (.int l0)]))) (fun t k => Stand.ldcI X0 hx hown (mvT hZ (hw _ (List.mem_of_getElem? (i := 22) rfl))) rfl (hb hby d1_37) k) ?_
    by_cases hc39_2 : (65533 : Int32) < l0
    ·
      rw [if_pos hc39_2] at hQ
      refine own_go (S' := (T0.setTop (mkF m 42 #[.val (.int l0)] []))) (fun t k => XS.icmpNo X0.here hx rfl (hb hby d1_39) rfl (tlt hc39_2).2.2.2 k) ?_
      exact w1_42 X0 hx hby hml hret hlk hown hZ hw e0 l0 hQ
    ·
      rw [if_neg hc39_2] at hQ
      refine own_go (S' := (T0.setTop (mkF m 54 #[.val (.int l0)] []))) (fun t k => XS.icmpYes X0.here hx rfl (pc0 := 39) (pc' := 54) rfl (hb hby d1_39) rfl (flt hc39_2).2.2.2 (by decide) (by decide) k) ?_
      refine own_go (S' := (T0.setTop (mkF m 55 #[.val (.int l0)] [(.int (1 : Int32))]))) (fun t k => XT.iconstV X0.here hx rfl (1 : Int32) (hb hby d1_54) (by decide) k) ?_
      refine own_go (S' := (T0.setTop (mkF m 59 #[.val (.int l0)] [(.int (1 : Int32))]))) (fun t k => XS.goto X0.here hx rfl (pc0 := 55) (pc' := 59) rfl (hb hby d1_55) (by decide) (by decide) k) ?_
      exact own_retN X0 hx hret hlk (by simp) (hb hby d1_59) (by first | rfl | decide) (Nat.le_refl _) (Nat.le_refl _) (by rw [e0]; exact hQ)
set_option maxRecDepth 65536 in
set_option maxHeartbeats 40000000 in
theorem w1_0 {p : Program} {l : Launch} {e : Env} {s : State} {m : MethodId} {args : Array Value} {below : List Frame} {meth : Method} {c : Code} {T0 : State} {locs : List Loc} {Z : State} {a0 : Array Value} {h0 : Heap} {Q : Option Value → Heap → List Loc → Prop}
    (X0 : Stand p l e ({ frames := 0, cells := 0, slots := 0, locals := 0 } : Room) s m args below meth c T0 locs 0 0) (hx : p.tables.exec = Jvm.exec) (hby : c.code = prog_267_method_2_code) (hml : c.maxLocals = 1) (hret : meth.sig.returnType = (some .boolean)) (hlk : meth.locks = false) (hown : s.vm.findClass "com/example/hornbeam/hornbeam/model/XmlCharacters" = some m.cls) (hZ : Z.Warmed39 s.vm) (hw : ∀ d ∈ tables_1, d.before a0 Z = true) (e0 : T0.heap = h0)
    (l0 : Int32) (hQ : Q (some (.int (f1_0 l0))) h0 locs) : own_End p e below s Q 0 0 (T0.setTop (mkF m 0 #[.val (.int l0)] [])) := by
  unfold f1_0 at hQ
  refine own_go (S' := (T0.setTop (mkF m 1 #[.val (.int l0)] [(.int l0)]))) (fun t k => XS.iloadN X0.here hx rfl (hb hby d1_0) rfl k) ?_
  refine own_go (S' := (T0.setTop (mkF m 3 #[.val (.int l0)] [(.int (9 : Int32)), (.int l0)]))) (fun t k => XT.bipushV X0.here hx rfl (9 : Int32) (hb hby d1_1) (by decide) k) ?_
  by_cases hc3_1 : l0 = (9 : Int32)
  ·
    rw [if_pos hc3_1] at hQ
    refine own_go (S' := (T0.setTop (mkF m 54 #[.val (.int l0)] []))) (fun t k => XS.icmpYes X0.here hx rfl (pc0 := 3) (pc' := 54) rfl (hb hby d1_3) rfl (teq hc3_1).1 (by decide) (by decide) k) ?_
    refine own_go (S' := (T0.setTop (mkF m 55 #[.val (.int l0)] [(.int (1 : Int32))]))) (fun t k => XT.iconstV X0.here hx rfl (1 : Int32) (hb hby d1_54) (by decide) k) ?_
    refine own_go (S' := (T0.setTop (mkF m 59 #[.val (.int l0)] [(.int (1 : Int32))]))) (fun t k => XS.goto X0.here hx rfl (pc0 := 55) (pc' := 59) rfl (hb hby d1_55) (by decide) (by decide) k) ?_
    exact own_retN X0 hx hret hlk (by simp) (hb hby d1_59) (by first | rfl | decide) (Nat.le_refl _) (Nat.le_refl _) (by rw [e0]; exact hQ)
  ·
    rw [if_neg hc3_1] at hQ
    refine own_go (S' := (T0.setTop (mkF m 6 #[.val (.int l0)] []))) (fun t k => XS.icmpNo X0.here hx rfl (hb hby d1_3) rfl (feq hc3_1).1 k) ?_
    refine own_go (S' := (T0.setTop (mkF m 7 #[.val (.int l0)] [(.int l0)]))) (fun t k => XS.iloadN X0.here hx rfl (hb hby d1_6) rfl k) ?_
    refine own_go (S' := (T0.setTop (mkF m 9 #[.val (.int l0)] [(.int (10 : Int32)), (.int l0)]))) (fun t k => XT.bipushV X0.here hx rfl (10 : Int32) (hb hby d1_7) (by decide) k) ?_
    by_cases hc9_2 : l0 = (10 : Int32)
    ·
      rw [if_pos hc9_2] at hQ
      refine own_go (S' := (T0.setTop (mkF m 54 #[.val (.int l0)] []))) (fun t k => XS.icmpYes X0.here hx rfl (pc0 := 9) (pc' := 54) rfl (hb hby d1_9) rfl (teq hc9_2).1 (by decide) (by decide) k) ?_
      refine own_go (S' := (T0.setTop (mkF m 55 #[.val (.int l0)] [(.int (1 : Int32))]))) (fun t k => XT.iconstV X0.here hx rfl (1 : Int32) (hb hby d1_54) (by decide) k) ?_
      refine own_go (S' := (T0.setTop (mkF m 59 #[.val (.int l0)] [(.int (1 : Int32))]))) (fun t k => XS.goto X0.here hx rfl (pc0 := 55) (pc' := 59) rfl (hb hby d1_55) (by decide) (by decide) k) ?_
      exact own_retN X0 hx hret hlk (by simp) (hb hby d1_59) (by first | rfl | decide) (Nat.le_refl _) (Nat.le_refl _) (by rw [e0]; exact hQ)
    ·
      rw [if_neg hc9_2] at hQ
      refine own_go (S' := (T0.setTop (mkF m 12 #[.val (.int l0)] []))) (fun t k => XS.icmpNo X0.here hx rfl (hb hby d1_9) rfl (feq hc9_2).1 k) ?_
      refine own_go (S' := (T0.setTop (mkF m 13 #[.val (.int l0)] [(.int l0)]))) (fun t k => XS.iloadN X0.here hx rfl (hb hby d1_12) rfl k) ?_
      refine own_go (S' := (T0.setTop (mkF m 15 #[.val (.int l0)] [(.int (13 : Int32)), (.int l0)]))) (fun t k => XT.bipushV X0.here hx rfl (13 : Int32) (hb hby d1_13) (by decide) k) ?_
      by_cases hc15_3 : l0 = (13 : Int32)
      ·
        rw [if_pos hc15_3] at hQ
        refine own_go (S' := (T0.setTop (mkF m 54 #[.val (.int l0)] []))) (fun t k => XS.icmpYes X0.here hx rfl (pc0 := 15) (pc' := 54) rfl (hb hby d1_15) rfl (teq hc15_3).1 (by decide) (by decide) k) ?_
        refine own_go (S' := (T0.setTop (mkF m 55 #[.val (.int l0)] [(.int (1 : Int32))]))) (fun t k => XT.iconstV X0.here hx rfl (1 : Int32) (hb hby d1_54) (by decide) k) ?_
        refine own_go (S' := (T0.setTop (mkF m 59 #[.val (.int l0)] [(.int (1 : Int32))]))) (fun t k => XS.goto X0.here hx rfl (pc0 := 55) (pc' := 59) rfl (hb hby d1_55) (by decide) (by decide) k) ?_
        exact own_retN X0 hx hret hlk (by simp) (hb hby d1_59) (by first | rfl | decide) (Nat.le_refl _) (Nat.le_refl _) (by rw [e0]; exact hQ)
      ·
        rw [if_neg hc15_3] at hQ
        refine own_go (S' := (T0.setTop (mkF m 18 #[.val (.int l0)] []))) (fun t k => XS.icmpNo X0.here hx rfl (hb hby d1_15) rfl (feq hc15_3).1 k) ?_
        refine own_go (S' := (T0.setTop (mkF m 19 #[.val (.int l0)] [(.int l0)]))) (fun t k => XS.iloadN X0.here hx rfl (hb hby d1_18) rfl k) ?_
        refine own_go (S' := (T0.setTop (mkF m 21 #[.val (.int l0)] [(.int (32 : Int32)), (.int l0)]))) (fun t k => XT.bipushV X0.here hx rfl (32 : Int32) (hb hby d1_19) (by decide) k) ?_
        by_cases hc21_4 : l0 < (32 : Int32)
        ·
          rw [if_pos hc21_4] at hQ
          refine own_go (S' := (T0.setTop (mkF m 30 #[.val (.int l0)] []))) (fun t k => XS.icmpYes X0.here hx rfl (pc0 := 21) (pc' := 30) rfl (hb hby d1_21) rfl (tlt hc21_4).1 (by decide) (by decide) k) ?_
          exact w1_30 X0 hx hby hml hret hlk hown hZ hw e0 l0 hQ
        ·
          rw [if_neg hc21_4] at hQ
          refine own_go (S' := (T0.setTop (mkF m 24 #[.val (.int l0)] []))) (fun t k => XS.icmpNo X0.here hx rfl (hb hby d1_21) rfl (flt hc21_4).1 k) ?_
          refine own_go (S' := (T0.setTop (mkF m 25 #[.val (.int l0)] [(.int l0)]))) (fun t k => XS.iloadN X0.here hx rfl (hb hby d1_24) rfl k) ?_
          refine own_go (S' := (T0.setTop (mkF m 27 #[.val (.int l0)] [(.int (55295 : Int32)), (.int l0)]))) (fun t k => Stand.ldcI X0 hx hown (mvT hZ (hw _ (List.mem_of_getElem? (i := 18) rfl))) rfl (hb hby d1_25) k) ?_
          by_cases hc27_5 : (55295 : Int32) < l0
          ·
            rw [if_pos hc27_5] at hQ
            refine own_go (S' := (T0.setTop (mkF m 30 #[.val (.int l0)] []))) (fun t k => XS.icmpNo X0.here hx rfl (hb hby d1_27) rfl (tlt hc27_5).2.2.2 k) ?_
            exact w1_30 X0 hx hby hml hret hlk hown hZ hw e0 l0 hQ
          ·
            rw [if_neg hc27_5] at hQ
            refine own_go (S' := (T0.setTop (mkF m 54 #[.val (.int l0)] []))) (fun t k => XS.icmpYes X0.here hx rfl (pc0 := 27) (pc' := 54) rfl (hb hby d1_27) rfl (flt hc27_5).2.2.2 (by decide) (by decide) k) ?_
            refine own_go (S' := (T0.setTop (mkF m 55 #[.val (.int l0)] [(.int (1 : Int32))]))) (fun t k => XT.iconstV X0.here hx rfl (1 : Int32) (hb hby d1_54) (by decide) k) ?_
            refine own_go (S' := (T0.setTop (mkF m 59 #[.val (.int l0)] [(.int (1 : Int32))]))) (fun t k => XS.goto X0.here hx rfl (pc0 := 55) (pc' := 59) rfl (hb hby d1_55) (by decide) (by decide) k) ?_
            exact own_retN X0 hx hret hlk (by simp) (hb hby d1_59) (by first | rfl | decide) (Nat.le_refl _) (Nat.le_refl _) (by rw [e0]; exact hQ)
theorem pn_1 : plainName "com/example/hornbeam/hornbeam/model/XmlCharacters" = true := by first | (simp [plainName, overriddenIn]; done) | decide +kernel
theorem ef_1 (m : MethodId) (l0 : Int32) : entryFrame m #[(.int l0)] 1 = mkF m 0 #[.val (.int l0)] [] := by first | (simp [entryFrame, mkF, argsToLocals, Value.category]; done) | rfl
set_option maxRecDepth 65536 in
theorem rm1 (l : Launch) (Z : State) (a0 : Array Value) (hw : ∀ d ∈ tables_1, d.before a0 Z = true) (l0 : Int32) (h0 : Heap) : own_C l Z (⟨"com/example/hornbeam/hornbeam/model/XmlCharacters", "isCharacter", "(I)Z"⟩ : MethodName) prog_267_method_2_code 1 (some .boolean) ({ frames := 0, cells := 0, slots := 0, locals := 0 } : Room) #[(.int l0)] h0 (own_P h0 (some (.int (f1_0 l0)))) := by
  refine MetFree.of_bodySF (plainFor_of_name pn_1) hisR ?_
  intro p e s m args below meth c s₁ Bd hml hP hK
  obtain ⟨rfl, hZ, hh⟩ := hP
  show own_End p e below s (own_P h0 (some (.int (f1_0 l0)))) 0 0 (s₁.setTop (entryFrame m #[(.int l0)] 1))
  exact own_cast (ef_1 m l0) (w1_0 (Stand.of_body Bd) Bd.exec Bd.bytes hml Bd.returns (BodyLoose.notSynchronized Bd) (findClass_of_methodNamed Bd.named) hZ hw (by rw [← hh, Bd.state]; rfl) l0 ⟨rfl, rfl, rfl⟩)
theorem d2_0 : decode method_2_code 0 = .ok (.iload_n 0, 1) := by decide +kernel
theorem d2_1 : decode method_2_code 1 = .ok (.ifCond .lt 9, 3) := by decide +kernel
theorem d2_4 : decode method_2_code 4 = .ok (.iload_n 0, 1) := by decide +kernel
theorem d2_5 : decode method_2_code 5 = .ok (.ldc 7, 2) := by decide +kernel
theorem d2_7 : decode method_2_code 7 = .ok (.if_icmp .le 5, 3) := by decide +kernel
theorem d2_10 : decode method_2_code 10 = .ok (.iconst 0, 1) := by decide +kernel
theorem d2_11 : decode method_2_code 11 = .ok (.ireturn, 1) := by decide +kernel
theorem d2_12 : decode method_2_code 12 = .ok (.iload_n 0, 1) := by decide +kernel
theorem d2_13 : decode method_2_code 13 = .ok (.bipush 32, 2) := by decide +kernel
theorem d2_15 : decode method_2_code 15 = .ok (.if_icmp .ge 27, 3) := by decide +kernel
theorem d2_18 : decode method_2_code 18 = .ok (.iload_n 0, 1) := by decide +kernel
theorem d2_19 : decode method_2_code 19 = .ok (.bipush 9, 2) := by decide +kernel
theorem d2_21 : decode method_2_code 21 = .ok (.if_icmp .eq 15, 3) := by decide +kernel
theorem d2_24 : decode method_2_code 24 = .ok (.iload_n 0, 1) := by decide +kernel
theorem d2_25 : decode method_2_code 25 = .ok (.bipush 10, 2) := by decide +kernel
theorem d2_27 : decode method_2_code 27 = .ok (.if_icmp .eq 9, 3) := by decide +kernel
theorem d2_30 : decode method_2_code 30 = .ok (.iload_n 0, 1) := by decide +kernel
theorem d2_31 : decode method_2_code 31 = .ok (.bipush 13, 2) := by decide +kernel
theorem d2_33 : decode method_2_code 33 = .ok (.if_icmp .ne 7, 3) := by decide +kernel
theorem d2_36 : decode method_2_code 36 = .ok (.iconst 1, 1) := by decide +kernel
theorem d2_37 : decode method_2_code 37 = .ok (.goto 4, 3) := by decide +kernel
theorem d2_40 : decode method_2_code 40 = .ok (.iconst 0, 1) := by decide +kernel
theorem d2_41 : decode method_2_code 41 = .ok (.ireturn, 1) := by decide +kernel
theorem d2_42 : decode method_2_code 42 = .ok (.iload_n 0, 1) := by decide +kernel
theorem d2_43 : decode method_2_code 43 = .ok (.ldc 8, 2) := by decide +kernel
theorem d2_45 : decode method_2_code 45 = .ok (.if_icmp .lt 11, 3) := by decide +kernel
theorem d2_48 : decode method_2_code 48 = .ok (.iload_n 0, 1) := by decide +kernel
theorem d2_49 : decode method_2_code 49 = .ok (.ldc 9, 2) := by decide +kernel
theorem d2_51 : decode method_2_code 51 = .ok (.if_icmp .gt 5, 3) := by decide +kernel
theorem d2_54 : decode method_2_code 54 = .ok (.iconst 0, 1) := by decide +kernel
theorem d2_55 : decode method_2_code 55 = .ok (.ireturn, 1) := by decide +kernel
theorem d2_56 : decode method_2_code 56 = .ok (.iload_n 0, 1) := by decide +kernel
theorem d2_57 : decode method_2_code 57 = .ok (.ldc 10, 2) := by decide +kernel
theorem d2_59 : decode method_2_code 59 = .ok (.if_icmp .eq 9, 3) := by decide +kernel
theorem d2_62 : decode method_2_code 62 = .ok (.iload_n 0, 1) := by decide +kernel
theorem d2_63 : decode method_2_code 63 = .ok (.ldc 11, 2) := by decide +kernel
theorem d2_65 : decode method_2_code 65 = .ok (.if_icmp .ne 5, 3) := by decide +kernel
theorem d2_68 : decode method_2_code 68 = .ok (.iconst 0, 1) := by decide +kernel
theorem d2_69 : decode method_2_code 69 = .ok (.ireturn, 1) := by decide +kernel
theorem d2_70 : decode method_2_code 70 = .ok (.iconst 1, 1) := by decide +kernel
theorem d2_71 : decode method_2_code 71 = .ok (.ireturn, 1) := by decide +kernel
def f2_56 (l0 : Int32) : Int32 := (if l0 = (65534 : Int32) then (0 : Int32) else (if l0 = (65535 : Int32) then (0 : Int32) else (1 : Int32)))
def f2_0 (l0 : Int32) : Int32 := (if l0 < (0 : Int32) then (0 : Int32) else (if (1114111 : Int32) < l0 then (0 : Int32) else (if l0 < (32 : Int32) then (if l0 = (9 : Int32) then (1 : Int32) else (if l0 = (10 : Int32) then (1 : Int32) else (if l0 = (13 : Int32) then (1 : Int32) else (0 : Int32)))) else (if l0 < (55296 : Int32) then (f2_56 l0) else (if (57343 : Int32) < l0 then (f2_56 l0) else (0 : Int32))))))
set_option maxRecDepth 65536 in
set_option maxHeartbeats 40000000 in
theorem w2_56 {p : Program} {l : Launch} {e : Env} {s : State} {m : MethodId} {args : Array Value} {below : List Frame} {meth : Method} {c : Code} {T0 : State} {locs : List Loc} {Z : State} {a0 : Array Value} {h0 : Heap} {Q : Option Value → Heap → List Loc → Prop}
    (X0 : Stand p l e ({ frames := 0, cells := 0, slots := 0, locals := 0 } : Room) s m args below meth c T0 locs 0 0) (hx : p.tables.exec = Jvm.exec) (hby : c.code = method_2_code) (hml : c.maxLocals = 1) (hret : meth.sig.returnType = (some .boolean)) (hlk : meth.locks = false) (hown : s.vm.findClass "com/example/hornbeam/hornbeam/model/XmlCharactersIsCharacterPinLaw" = some m.cls) (hZ : Z.Warmed39 s.vm) (hw : ∀ d ∈ tables_1, d.before a0 Z = true) (e0 : T0.heap = h0)
    (l0 : Int32) (hQ : Q (some (.int (f2_56 l0))) h0 locs) : own_End p e below s Q 0 0 (T0.setTop (mkF m 56 #[.val (.int l0)] [])) := by
  unfold f2_56 at hQ
  refine own_go (S' := (T0.setTop (mkF m 57 #[.val (.int l0)] [(.int l0)]))) (fun t k => XS.iloadN X0.here hx rfl (hb hby d2_56) rfl k) ?_
  refine own_go (S' := (T0.setTop (mkF m 59 #[.val (.int l0)] [(.int (65534 : Int32)), (.int l0)]))) (fun t k => Stand.ldcI X0 hx hown (mvT hZ (hw _ (List.mem_of_getElem? (i := 20) rfl))) rfl (hb hby d2_57) k) ?_
  by_cases hc59_1 : l0 = (65534 : Int32)
  ·
    rw [if_pos hc59_1] at hQ
    refine own_go (S' := (T0.setTop (mkF m 68 #[.val (.int l0)] []))) (fun t k => XS.icmpYes X0.here hx rfl (pc0 := 59) (pc' := 68) rfl (hb hby d2_59) rfl (teq hc59_1).1 (by decide) (by decide) k) ?_
    refine own_go (S' := (T0.setTop (mkF m 69 #[.val (.int l0)] [(.int (0 : Int32))]))) (fun t k => XT.iconstV X0.here hx rfl (0 : Int32) (hb hby d2_68) (by decide) k) ?_
    exact own_retN X0 hx hret hlk (by simp) (hb hby d2_69) (by first | rfl | decide) (Nat.le_refl _) (Nat.le_refl _) (by rw [e0]; exact hQ)
  ·
    rw [if_neg hc59_1] at hQ
    refine own_go (S' := (T0.setTop (mkF m 62 #[.val (.int l0)] []))) (fun t k => XS.icmpNo X0.here hx rfl (hb hby d2_59) rfl (feq hc59_1).1 k) ?_
    refine own_go (S' := (T0.setTop (mkF m 63 #[.val (.int l0)] [(.int l0)]))) (fun t k => XS.iloadN X0.here hx rfl (hb hby d2_62) rfl k) ?_
    refine own_go (S' := (T0.setTop (mkF m 65 #[.val (.int l0)] [(.int (65535 : Int32)), (.int l0)]))) (fun t k => Stand.ldcI X0 hx hown (mvT hZ (hw _ (List.mem_of_getElem? (i := 21) rfl))) rfl (hb hby d2_63) k) ?_
    by_cases hc65_2 : l0 = (65535 : Int32)
    ·
      rw [if_pos hc65_2] at hQ
      refine own_go (S' := (T0.setTop (mkF m 68 #[.val (.int l0)] []))) (fun t k => XS.icmpNo X0.here hx rfl (hb hby d2_65) rfl (teq hc65_2).2 k) ?_
      refine own_go (S' := (T0.setTop (mkF m 69 #[.val (.int l0)] [(.int (0 : Int32))]))) (fun t k => XT.iconstV X0.here hx rfl (0 : Int32) (hb hby d2_68) (by decide) k) ?_
      exact own_retN X0 hx hret hlk (by simp) (hb hby d2_69) (by first | rfl | decide) (Nat.le_refl _) (Nat.le_refl _) (by rw [e0]; exact hQ)
    ·
      rw [if_neg hc65_2] at hQ
      refine own_go (S' := (T0.setTop (mkF m 70 #[.val (.int l0)] []))) (fun t k => XS.icmpYes X0.here hx rfl (pc0 := 65) (pc' := 70) rfl (hb hby d2_65) rfl (feq hc65_2).2 (by decide) (by decide) k) ?_
      refine own_go (S' := (T0.setTop (mkF m 71 #[.val (.int l0)] [(.int (1 : Int32))]))) (fun t k => XT.iconstV X0.here hx rfl (1 : Int32) (hb hby d2_70) (by decide) k) ?_
      exact own_retN X0 hx hret hlk (by simp) (hb hby d2_71) (by first | rfl | decide) (Nat.le_refl _) (Nat.le_refl _) (by rw [e0]; exact hQ)
set_option maxRecDepth 65536 in
set_option maxHeartbeats 40000000 in
theorem w2_0 {p : Program} {l : Launch} {e : Env} {s : State} {m : MethodId} {args : Array Value} {below : List Frame} {meth : Method} {c : Code} {T0 : State} {locs : List Loc} {Z : State} {a0 : Array Value} {h0 : Heap} {Q : Option Value → Heap → List Loc → Prop}
    (X0 : Stand p l e ({ frames := 0, cells := 0, slots := 0, locals := 0 } : Room) s m args below meth c T0 locs 0 0) (hx : p.tables.exec = Jvm.exec) (hby : c.code = method_2_code) (hml : c.maxLocals = 1) (hret : meth.sig.returnType = (some .boolean)) (hlk : meth.locks = false) (hown : s.vm.findClass "com/example/hornbeam/hornbeam/model/XmlCharactersIsCharacterPinLaw" = some m.cls) (hZ : Z.Warmed39 s.vm) (hw : ∀ d ∈ tables_1, d.before a0 Z = true) (e0 : T0.heap = h0)
    (l0 : Int32) (hQ : Q (some (.int (f2_0 l0))) h0 locs) : own_End p e below s Q 0 0 (T0.setTop (mkF m 0 #[.val (.int l0)] [])) := by
  unfold f2_0 at hQ
  refine own_go (S' := (T0.setTop (mkF m 1 #[.val (.int l0)] [(.int l0)]))) (fun t k => XS.iloadN X0.here hx rfl (hb hby d2_0) rfl k) ?_
  by_cases hc1_1 : l0 < (0 : Int32)
  ·
    rw [if_pos hc1_1] at hQ
    refine own_go (S' := (T0.setTop (mkF m 10 #[.val (.int l0)] []))) (fun t k => XS.ifYes X0.here hx rfl (pc0 := 1) (pc' := 10) rfl (hb hby d2_1) rfl ((if0 _ _).trans (tlt hc1_1).1) (by decide) (by decide) k) ?_
    refine own_go (S' := (T0.setTop (mkF m 11 #[.val (.int l0)] [(.int (0 : Int32))]))) (fun t k => XT.iconstV X0.here hx rfl (0 : Int32) (hb hby d2_10) (by decide) k) ?_
    exact own_retN X0 hx hret hlk (by simp) (hb hby d2_11) (by first | rfl | decide) (Nat.le_refl _) (Nat.le_refl _) (by rw [e0]; exact hQ)
  ·
    rw [if_neg hc1_1] at hQ
    refine own_go (S' := (T0.setTop (mkF m 4 #[.val (.int l0)] []))) (fun t k => XS.ifNo X0.here hx rfl (hb hby d2_1) rfl ((if0 _ _).trans (flt hc1_1).1) k) ?_
    refine own_go (S' := (T0.setTop (mkF m 5 #[.val (.int l0)] [(.int l0)]))) (fun t k => XS.iloadN X0.here hx rfl (hb hby d2_4) rfl k) ?_
    refine own_go (S' := (T0.setTop (mkF m 7 #[.val (.int l0)] [(.int (1114111 : Int32)), (.int l0)]))) (fun t k => Stand.ldcI X0 hx hown (mvT hZ (hw _ (List.mem_of_getElem? (i := 5) rfl))) rfl (hb hby d2_5) k) ?_
    by_cases hc7_2 : (1114111 : Int32) < l0
    ·
      rw [if_pos hc7_2] at hQ
      refine own_go (S' := (T0.setTop (mkF m 10 #[.val (.int l0)] []))) (fun t k => XS.icmpNo X0.here hx rfl (hb hby d2_7) rfl (tlt hc7_2).2.2.2 k) ?_
      refine own_go (S' := (T0.setTop (mkF m 11 #[.val (.int l0)] [(.int (0 : Int32))]))) (fun t k => XT.iconstV X0.here hx rfl (0 : Int32) (hb hby d2_10) (by decide) k) ?_
      exact own_retN X0 hx hret hlk (by simp) (hb hby d2_11) (by first | rfl | decide) (Nat.le_refl _) (Nat.le_refl _) (by rw [e0]; exact hQ)
    ·
      rw [if_neg hc7_2] at hQ
      refine own_go (S' := (T0.setTop (mkF m 12 #[.val (.int l0)] []))) (fun t k => XS.icmpYes X0.here hx rfl (pc0 := 7) (pc' := 12) rfl (hb hby d2_7) rfl (flt hc7_2).2.2.2 (by decide) (by decide) k) ?_
      refine own_go (S' := (T0.setTop (mkF m 13 #[.val (.int l0)] [(.int l0)]))) (fun t k => XS.iloadN X0.here hx rfl (hb hby d2_12) rfl k) ?_
      refine own_go (S' := (T0.setTop (mkF m 15 #[.val (.int l0)] [(.int (32 : Int32)), (.int l0)]))) (fun t k => XT.bipushV X0.here hx rfl (32 : Int32) (hb hby d2_13) (by decide) k) ?_
      by_cases hc15_3 : l0 < (32 : Int32)
      ·
        rw [if_pos hc15_3] at hQ
        refine own_go (S' := (T0.setTop (mkF m 18 #[.val (.int l0)] []))) (fun t k => XS.icmpNo X0.here hx rfl (hb hby d2_15) rfl (tlt hc15_3).2.1 k) ?_
        refine own_go (S' := (T0.setTop (mkF m 19 #[.val (.int l0)] [(.int l0)]))) (fun t k => XS.iloadN X0.here hx rfl (hb hby d2_18) rfl k) ?_
        refine own_go (S' := (T0.setTop (mkF m 21 #[.val (.int l0)] [(.int (9 : Int32)), (.int l0)]))) (fun t k => XT.bipushV X0.here hx rfl (9 : Int32) (hb hby d2_19) (by decide) k) ?_
        by_cases hc21_4 : l0 = (9 : Int32)
        ·
          rw [if_pos hc21_4] at hQ
          refine own_go (S' := (T0.setTop (mkF m 36 #[.val (.int l0)] []))) (fun t k => XS.icmpYes X0.here hx rfl (pc0 := 21) (pc' := 36) rfl (hb hby d2_21) rfl (teq hc21_4).1 (by decide) (by decide) k) ?_
          refine own_go (S' := (T0.setTop (mkF m 37 #[.val (.int l0)] [(.int (1 : Int32))]))) (fun t k => XT.iconstV X0.here hx rfl (1 : Int32) (hb hby d2_36) (by decide) k) ?_
          refine own_go (S' := (T0.setTop (mkF m 41 #[.val (.int l0)] [(.int (1 : Int32))]))) (fun t k => XS.goto X0.here hx rfl (pc0 := 37) (pc' := 41) rfl (hb hby d2_37) (by decide) (by decide) k) ?_
          exact own_retN X0 hx hret hlk (by simp) (hb hby d2_41) (by first | rfl | decide) (Nat.le_refl _) (Nat.le_refl _) (by rw [e0]; exact hQ)
        ·
          rw [if_neg hc21_4] at hQ
          refine own_go (S' := (T0.setTop (mkF m 24 #[.val (.int l0)] []))) (fun t k => XS.icmpNo X0.here hx rfl (hb hby d2_21) rfl (feq hc21_4).1 k) ?_
          refine own_go (S' := (T0.setTop (mkF m 25 #[.val (.int l0)] [(.int l0)]))) (fun t k => XS.iloadN X0.here hx rfl (hb hby d2_24) rfl k) ?_
          refine own_go (S' := (T0.setTop (mkF m 27 #[.val (.int l0)] [(.int (10 : Int32)), (.int l0)]))) (fun t k => XT.bipushV X0.here hx rfl (10 : Int32) (hb hby d2_25) (by decide) k) ?_
          by_cases hc27_5 : l0 = (10 : Int32)
          ·
            rw [if_pos hc27_5] at hQ
            refine own_go (S' := (T0.setTop (mkF m 36 #[.val (.int l0)] []))) (fun t k => XS.icmpYes X0.here hx rfl (pc0 := 27) (pc' := 36) rfl (hb hby d2_27) rfl (teq hc27_5).1 (by decide) (by decide) k) ?_
            refine own_go (S' := (T0.setTop (mkF m 37 #[.val (.int l0)] [(.int (1 : Int32))]))) (fun t k => XT.iconstV X0.here hx rfl (1 : Int32) (hb hby d2_36) (by decide) k) ?_
            refine own_go (S' := (T0.setTop (mkF m 41 #[.val (.int l0)] [(.int (1 : Int32))]))) (fun t k => XS.goto X0.here hx rfl (pc0 := 37) (pc' := 41) rfl (hb hby d2_37) (by decide) (by decide) k) ?_
            exact own_retN X0 hx hret hlk (by simp) (hb hby d2_41) (by first | rfl | decide) (Nat.le_refl _) (Nat.le_refl _) (by rw [e0]; exact hQ)
          ·
            rw [if_neg hc27_5] at hQ
            refine own_go (S' := (T0.setTop (mkF m 30 #[.val (.int l0)] []))) (fun t k => XS.icmpNo X0.here hx rfl (hb hby d2_27) rfl (feq hc27_5).1 k) ?_
            refine own_go (S' := (T0.setTop (mkF m 31 #[.val (.int l0)] [(.int l0)]))) (fun t k => XS.iloadN X0.here hx rfl (hb hby d2_30) rfl k) ?_
            refine own_go (S' := (T0.setTop (mkF m 33 #[.val (.int l0)] [(.int (13 : Int32)), (.int l0)]))) (fun t k => XT.bipushV X0.here hx rfl (13 : Int32) (hb hby d2_31) (by decide) k) ?_
            by_cases hc33_6 : l0 = (13 : Int32)
            ·
              rw [if_pos hc33_6] at hQ
              refine own_go (S' := (T0.setTop (mkF m 36 #[.val (.int l0)] []))) (fun t k => XS.icmpNo X0.here hx rfl (hb hby d2_33) rfl (teq hc33_6).2 k) ?_
              refine own_go (S' := (T0.setTop (mkF m 37 #[.val (.int l0)] [(.int (1 : Int32))]))) (fun t k => XT.iconstV X0.here hx rfl (1 : Int32) (hb hby d2_36) (by decide) k) ?_
              refine own_go (S' := (T0.setTop (mkF m 41 #[.val (.int l0)] [(.int (1 : Int32))]))) (fun t k => XS.goto X0.here hx rfl (pc0 := 37) (pc' := 41) rfl (hb hby d2_37) (by decide) (by decide) k) ?_
              exact own_retN X0 hx hret hlk (by simp) (hb hby d2_41) (by first | rfl | decide) (Nat.le_refl _) (Nat.le_refl _) (by rw [e0]; exact hQ)
            ·
              rw [if_neg hc33_6] at hQ
              refine own_go (S' := (T0.setTop (mkF m 40 #[.val (.int l0)] []))) (fun t k => XS.icmpYes X0.here hx rfl (pc0 := 33) (pc' := 40) rfl (hb hby d2_33) rfl (feq hc33_6).2 (by decide) (by decide) k) ?_
              refine own_go (S' := (T0.setTop (mkF m 41 #[.val (.int l0)] [(.int (0 : Int32))]))) (fun t k => XT.iconstV X0.here hx rfl (0 : Int32) (hb hby d2_40) (by decide) k) ?_
              exact own_retN X0 hx hret hlk (by simp) (hb hby d2_41) (by first | rfl | decide) (Nat.le_refl _) (Nat.le_refl _) (by rw [e0]; exact hQ)
      ·
        rw [if_neg hc15_3] at hQ
        refine own_go (S' := (T0.setTop (mkF m 42 #[.val (.int l0)] []))) (fun t k => XS.icmpYes X0.here hx rfl (pc0 := 15) (pc' := 42) rfl (hb hby d2_15) rfl (flt hc15_3).2.1 (by decide) (by decide) k) ?_
        refine own_go (S' := (T0.setTop (mkF m 43 #[.val (.int l0)] [(.int l0)]))) (fun t k => XS.iloadN X0.here hx rfl (hb hby d2_42) rfl k) ?_
        refine own_go (S' := (T0.setTop (mkF m 45 #[.val (.int l0)] [(.int (55296 : Int32)), (.int l0)]))) (fun t k => Stand.ldcI X0 hx hown (mvT hZ (hw _ (List.mem_of_getElem? (i := 19) rfl))) rfl (hb hby d2_43) k) ?_
        by_cases hc45_7 : l0 < (55296 : Int32)
        ·
          rw [if_pos hc45_7] at hQ
          refine own_go (S' := (T0.setTop (mkF m 56 #[.val (.int l0)] []))) (fun t k => XS.icmpYes X0.here hx rfl (pc0 := 45) (pc' := 56) rfl (hb hby d2_45) rfl (tlt hc45_7).1 (by decide) (by decide) k) ?_
          exact w2_56 X0 hx hby hml hret hlk hown hZ hw e0 l0 hQ
        ·
          rw [if_neg hc45_7] at hQ
          refine own_go (S' := (T0.setTop (mkF m 48 #[.val (.int l0)] []))) (fun t k => XS.icmpNo X0.here hx rfl (hb hby d2_45) rfl (flt hc45_7).1 k) ?_
          refine own_go (S' := (T0.setTop (mkF m 49 #[.val (.int l0)] [(.int l0)]))) (fun t k => XS.iloadN X0.here hx rfl (hb hby d2_48) rfl k) ?_
          refine own_go (S' := (T0.setTop (mkF m 51 #[.val (.int l0)] [(.int (57343 : Int32)), (.int l0)]))) (fun t k => Stand.ldcI X0 hx hown (mvT hZ (hw _ (List.mem_of_getElem? (i := 24) rfl))) rfl (hb hby d2_49) k) ?_
          by_cases hc51_8 : (57343 : Int32) < l0
          ·
            rw [if_pos hc51_8] at hQ
            refine own_go (S' := (T0.setTop (mkF m 56 #[.val (.int l0)] []))) (fun t k => XS.icmpYes X0.here hx rfl (pc0 := 51) (pc' := 56) rfl (hb hby d2_51) rfl (tlt hc51_8).2.2.1 (by decide) (by decide) k) ?_
            exact w2_56 X0 hx hby hml hret hlk hown hZ hw e0 l0 hQ
          ·
            rw [if_neg hc51_8] at hQ
            refine own_go (S' := (T0.setTop (mkF m 54 #[.val (.int l0)] []))) (fun t k => XS.icmpNo X0.here hx rfl (hb hby d2_51) rfl (flt hc51_8).2.2.1 k) ?_
            refine own_go (S' := (T0.setTop (mkF m 55 #[.val (.int l0)] [(.int (0 : Int32))]))) (fun t k => XT.iconstV X0.here hx rfl (0 : Int32) (hb hby d2_54) (by decide) k) ?_
            exact own_retN X0 hx hret hlk (by simp) (hb hby d2_55) (by first | rfl | decide) (Nat.le_refl _) (Nat.le_refl _) (by rw [e0]; exact hQ)
theorem pn_2 : plainName "com/example/hornbeam/hornbeam/model/XmlCharactersIsCharacterPinLaw" = true := by first | (simp [plainName, overriddenIn]; done) | decide +kernel
theorem ef_2 (m : MethodId) (l0 : Int32) : entryFrame m #[(.int l0)] 1 = mkF m 0 #[.val (.int l0)] [] := by first | (simp [entryFrame, mkF, argsToLocals, Value.category]; done) | rfl
set_option maxRecDepth 65536 in
theorem rm2 (l : Launch) (Z : State) (a0 : Array Value) (hw : ∀ d ∈ tables_1, d.before a0 Z = true) (l0 : Int32) (h0 : Heap) : own_C l Z (⟨"com/example/hornbeam/hornbeam/model/XmlCharactersIsCharacterPinLaw", "reference", "(I)Z"⟩ : MethodName) method_2_code 1 (some .boolean) ({ frames := 0, cells := 0, slots := 0, locals := 0 } : Room) #[(.int l0)] h0 (own_P h0 (some (.int (f2_0 l0)))) := by
  refine MetFree.of_bodySF (plainFor_of_name pn_2) hisR ?_
  intro p e s m args below meth c s₁ Bd hml hP hK
  obtain ⟨rfl, hZ, hh⟩ := hP
  show own_End p e below s (own_P h0 (some (.int (f2_0 l0)))) 0 0 (s₁.setTop (entryFrame m #[(.int l0)] 1))
  exact own_cast (ef_2 m l0) (w2_0 (Stand.of_body Bd) Bd.exec Bd.bytes hml Bd.returns (BodyLoose.notSynchronized Bd) (findClass_of_methodNamed Bd.named) hZ hw (by rw [← hh, Bd.state]; rfl) l0 ⟨rfl, rfl, rfl⟩)
theorem own_mask31 (x : Int32) : 0 ≤ (x &&& (2147483647 : Int32)).toInt := by rw [Jvm.Kit.i32_mask x 2147483647 (k := 31) (by decide) (by decide)]; omega
theorem own_same (x : Int32) : f1_0 x = f2_0 x := by
  simp only [f1_0, f1_30, f1_42, f2_0, f2_56, Int32.lt_iff_toInt_lt, own_eqI x, Int32.reduceToInt]
  generalize x.toInt = i
  repeat' split
  all_goals first | rfl | (exfalso; omega)
theorem pn_0 : plainName "com/example/hornbeam/hornbeam/model/XmlCharactersIsCharacterPinLaw" = true := by first | (simp [plainName, overriddenIn]; done) | decide +kernel
theorem ef_0 (m : MethodId) (x0 : Int32) (x1 : Int32) : entryFrame m #[(.int x0), (.int x1)] maxLocals = mkF m 0 #[.val (.int x0), .val (.int x1), .unset, .unset, .unset, .unset, .unset, .unset] [] := by first | (simp [entryFrame, mkF, argsToLocals, Value.category, maxLocals]; done) | rfl
def Q0 (n0 : Nat) (v : Option Value) (h : Heap) (L : List Loc) : Prop := v = some (.int (1 : Int32)) ∧ Fr n0 L
set_option maxRecDepth 65536 in
set_option maxHeartbeats 400000000 in
theorem rm0 (l : Launch) (Z : State) (a0 : Array Value) (hw : ∀ d ∈ tables_1, d.before a0 Z = true) (ws : List Jvm.Cond) (x0 : Int32) (x1 : Int32) (h0 : Heap) (n0 : Nat) (Z0 : n0 ≤ h0.size) :
    MetFree l x (head1 (Jvm.Cond.code x code maxLocals ret :: ws) room_1) (fun a U => a = #[(.int x0), (.int x1)] ∧ Z.Warmed39 U.vm ∧ U.heap = h0) (fun _ _ _ _ _ => True) (fun _ U o U' => ∃ v L, o = .returned v ∧ Q0 n0 v U'.heap L ∧ FrameEnd U o U' L 16 128) := by
  refine MetFree.of_bodySF (plainFor_of_name pn_0) hisR ?_
  intro p e s m args below meth c s₁ Bd hml0 hP hK
  obtain ⟨rfl, hZ, hh⟩ := hP
  have hx := Bd.exec
  have hby := Bd.bytes
  have hml : c.maxLocals = 8 := hml0
  have hown : s.vm.findClass "com/example/hornbeam/hornbeam/model/XmlCharactersIsCharacterPinLaw" = some m.cls := findClass_of_methodNamed Bd.named
  have hret : meth.sig.returnType = some .boolean := Bd.returns
  have hlk := BodyLoose.notSynchronized Bd
  have X0 : Stand p l e room_1 s m #[(.int x0), (.int x1)] below meth c s₁ [] 0 0 := Stand.of_body Bd
  have e0 : s₁.heap = h0 := by rw [← hh, Bd.state]; rfl
  have N0 := Fr.nil n0
  show own_End p e below s (Q0 n0) 16 128 (s₁.setTop (entryFrame m #[(.int x0), (.int x1)] maxLocals))
  refine own_cast (ef_0 m x0 x1) ?_
  refine own_go (S' := (s₁.setTop (mkF m 2 #[.val (.int x0), .val (.int x1), .unset, .unset, .unset, .unset, .unset, .unset] [(.int (12 : Int32))]))) (fun t k => XT.bipushV X0.here hx rfl (12 : Int32) (hb hby at_0) (by decide) k) ?_
  obtain ⟨T1, h1, b1, X1, e1, E1, g1, A1, st1⟩ := own_newL (nn := (12 : Int32)) (len := 12) (Ls := #[.val (.int x0), .val (.int x1), .unset, .unset, .unset, .unset, .unset, .unset]) (rest := []) X0 hx hZ (hw _ (List.mem_of_getElem? (i := 0) rfl)) e0 (hb hby at_2) (by decide) (by decide) (cap := 12) (by decide) (by decide) (by decide) (by decide)
  have gn1 : n0 ≤ b1 := g1 ▸ Z0
  have sz1 : n0 ≤ h1.size := Nat.le_trans Z0 E1.1
  replace A1 := A1.eq (vs' := [(.int (0 : Int32)), (.int (0 : Int32)), (.int (0 : Int32)), (.int (0 : Int32)), (.int (0 : Int32)), (.int (0 : Int32)), (.int (0 : Int32)), (.int (0 : Int32)), (.int (0 : Int32)), (.int (0 : Int32)), (.int (0 : Int32)), (.int (0 : Int32))]) rfl
  refine own_go (S' := (T1.setTop (mkF m 4 #[.val (.int x0), .val (.int x1), .unset, .unset, .unset, .unset, .unset, .unset] [(.ref b1)]))) st1 ?_
  refine own_go (S' := (T1.setTop (mkF m 5 #[.val (.int x0), .val (.int x1), .unset, .unset, .unset, .unset, .unset, .unset] [(.ref b1), (.ref b1)]))) (fun t k => XS.dup X1.here hx rfl (hb hby at_4) rfl rfl k) ?_
  refine own_go (S' := (T1.setTop (mkF m 6 #[.val (.int x0), .val (.int x1), .unset, .unset, .unset, .unset, .unset, .unset] [(.int (0 : Int32)), (.ref b1), (.ref b1)]))) (fun t k => XT.iconstV X1.here hx rfl (0 : Int32) (hb hby at_5) (by decide) k) ?_
  refine own_go (S' := (T1.setTop (mkF m 8 #[.val (.int x0), .val (.int x1), .unset, .unset, .unset, .unset, .unset, .unset] [(.int (9 : Int32)), (.int (0 : Int32)), (.ref b1), (.ref b1)]))) (fun t k => XT.bipushV X1.here hx rfl (9 : Int32) (hb hby at_6) (by decide) k) ?_
  obtain ⟨T2, h2, X2, e2, W2, B2, st2⟩ := own_iastore (j := (0 : Int32)) (x := (9 : Int32)) (Ls := #[.val (.int x0), .val (.int x1), .unset, .unset, .unset, .unset, .unset, .unset]) (rest := [(.ref b1)]) A1 X1 hx hZ e1 (by decide) (i := 0) (by decide) (Nat.le_of_ble_eq_true rfl) (hb hby at_8)
  replace A1 := B2.eq (vs' := [(.int (9 : Int32)), (.int (0 : Int32)), (.int (0 : Int32)), (.int (0 : Int32)), (.int (0 : Int32)), (.int (0 : Int32)), (.int (0 : Int32)), (.int (0 : Int32)), (.int (0 : Int32)), (.int (0 : Int32)), (.int (0 : Int32)), (.int (0 : Int32))]) rfl
  have N2 := Fr.snoc X2 N0 gn1
  have sz2 : n0 ≤ h2.size := W2.size ▸ sz1
  refine own_go (S' := (T2.setTop (mkF m 9 #[.val (.int x0), .val (.int x1), .unset, .unset, .unset, .unset, .unset, .unset] [(.ref b1)]))) st2 ?_
  refine own_go (S' := (T2.setTop (mkF m 10 #[.val (.int x0), .val (.int x1), .unset, .unset, .unset, .unset, .unset, .unset] [(.ref b1), (.ref b1)]))) (fun t k => XS.dup X2.here hx rfl (hb hby at_9) rfl rfl k) ?_
  refine own_go (S' := (T2.setTop (mkF m 11 #[.val (.int x0), .val (.int x1), .unset, .unset, .unset, .unset, .unset, .unset] [(.int (1 : Int32)), (.ref b1), (.ref b1)]))) (fun t k => XT.iconstV X2.here hx rfl (1 : Int32) (hb hby at_10) (by decide) k) ?_
  refine own_go (S' := (T2.setTop (mkF m 13 #[.val (.int x0), .val (.int x1), .unset, .unset, .unset, .unset, .unset, .unset] [(.int (10 : Int32)), (.int (1 : Int32)), (.ref b1), (.ref b1)]))) (fun t k => XT.bipushV X2.here hx rfl (10 : Int32) (hb hby at_11) (by decide) k) ?_
  obtain ⟨T3, h3, X3, e3, W3, B3, st3⟩ := own_iastore (j := (1 : Int32)) (x := (10 : Int32)) (Ls := #[.val (.int x0), .val (.int x1), .unset, .unset, .unset, .unset, .unset, .unset]) (rest := [(.ref b1)]) A1 X2 hx hZ e2 (by decide) (i := 1) (by decide) (Nat.le_of_ble_eq_true rfl) (hb hby at_13)
  replace A1 := B3.eq (vs' := [(.int (9 : Int32)), (.int (10 : Int32)), (.int (0 : Int32)), (.int (0 : Int32)), (.int (0 : Int32)), (.int (0 : Int32)), (.int (0 : Int32)), (.int (0 : Int32)), (.int (0 : Int32)), (.int (0 : Int32)), (.int (0 : Int32)), (.int (0 : Int32))]) rfl
  have N3 := Fr.snoc X3 N2 gn1
  have sz3 : n0 ≤ h3.size := W3.size ▸ sz2
  refine own_go (S' := (T3.setTop (mkF m 14 #[.val (.int x0), .val (.int x1), .unset, .unset, .unset, .unset, .unset, .unset] [(.ref b1)]))) st3 ?_
  refine own_go (S' := (T3.setTop (mkF m 15 #[.val (.int x0), .val (.int x1), .unset, .unset, .unset, .unset, .unset, .unset] [(.ref b1), (.ref b1)]))) (fun t k => XS.dup X3.here hx rfl (hb hby at_14) rfl rfl k) ?_
  refine own_go (S' := (T3.setTop (mkF m 16 #[.val (.int x0), .val (.int x1), .unset, .unset, .unset, .unset, .unset, .unset] [(.int (2 : Int32)), (.ref b1), (.ref b1)]))) (fun t k => XT.iconstV X3.here hx rfl (2 : Int32) (hb hby at_15) (by decide) k) ?_
  refine own_go (S' := (T3.setTop (mkF m 18 #[.val (.int x0), .val (.int x1), .unset, .unset, .unset, .unset, .unset, .unset] [(.int (13 : Int32)), (.int (2 : Int32)), (.ref b1), (.ref b1)]))) (fun t k => XT.bipushV X3.here hx rfl (13 : Int32) (hb hby at_16) (by decide) k) ?_
  obtain ⟨T4, h4, X4, e4, W4, B4, st4⟩ := own_iastore (j := (2 : Int32)) (x := (13 : Int32)) (Ls := #[.val (.int x0), .val (.int x1), .unset, .unset, .unset, .unset, .unset, .unset]) (rest := [(.ref b1)]) A1 X3 hx hZ e3 (by decide) (i := 2) (by decide) (Nat.le_of_ble_eq_true rfl) (hb hby at_18)
  replace A1 := B4.eq (vs' := [(.int (9 : Int32)), (.int (10 : Int32)), (.int (13 : Int32)), (.int (0 : Int32)), (.int (0 : Int32)), (.int (0 : Int32)), (.int (0 : Int32)), (.int (0 : Int32)), (.int (0 : Int32)), (.int (0 : Int32)), (.int (0 : Int32)), (.int (0 : Int32))]) rfl
  have N4 := Fr.snoc X4 N3 gn1
  have sz4 : n0 ≤ h4.size := W4.size ▸ sz3
  refine own_go (S' := (T4.setTop (mkF m 19 #[.val (.int x0), .val (.int x1), .unset, .unset, .unset, .unset, .unset, .unset] [(.ref b1)]))) st4 ?_
  refine own_go (S' := (T4.setTop (mkF m 20 #[.val (.int x0), .val (.int x1), .unset, .unset, .unset, .unset, .unset, .unset] [(.ref b1), (.ref b1)]))) (fun t k => XS.dup X4.here hx rfl (hb hby at_19) rfl rfl k) ?_
  refine own_go (S' := (T4.setTop (mkF m 21 #[.val (.int x0), .val (.int x1), .unset, .unset, .unset, .unset, .unset, .unset] [(.int (3 : Int32)), (.ref b1), (.ref b1)]))) (fun t k => XT.iconstV X4.here hx rfl (3 : Int32) (hb hby at_20) (by decide) k) ?_
  refine own_go (S' := (T4.setTop (mkF m 23 #[.val (.int x0), .val (.int x1), .unset, .unset, .unset, .unset, .unset, .unset] [(.int (32 : Int32)), (.int (3 : Int32)), (.ref b1), (.ref b1)]))) (fun t k => XT.bipushV X4.here hx rfl (32 : Int32) (hb hby at_21) (by decide) k) ?_
  obtain ⟨T5, h5, X5, e5, W5, B5, st5⟩ := own_iastore (j := (3 : Int32)) (x := (32 : Int32)) (Ls := #[.val (.int x0), .val (.int x1), .unset, .unset, .unset, .unset, .unset, .unset]) (rest := [(.ref b1)]) A1 X4 hx hZ e4 (by decide) (i := 3) (by decide) (Nat.le_of_ble_eq_true rfl) (hb hby at_23)
  replace A1 := B5.eq (vs' := [(.int (9 : Int32)), (.int (10 : Int32)), (.int (13 : Int32)), (.int (32 : Int32)), (.int (0 : Int32)), (.int (0 : Int32)), (.int (0 : Int32)), (.int (0 : Int32)), (.int (0 : Int32)), (.int (0 : Int32)), (.int (0 : Int32)), (.int (0 : Int32))]) rfl
  have N5 := Fr.snoc X5 N4 gn1
  have sz5 : n0 ≤ h5.size := W5.size ▸ sz4
  refine own_go (S' := (T5.setTop (mkF m 24 #[.val (.int x0), .val (.int x1), .unset, .unset, .unset, .unset, .unset, .unset] [(.ref b1)]))) st5 ?_
  refine own_go (S' := (T5.setTop (mkF m 25 #[.val (.int x0), .val (.int x1), .unset, .unset, .unset, .unset, .unset, .unset] [(.ref b1), (.ref b1)]))) (fun t k => XS.dup X5.here hx rfl (hb hby at_24) rfl rfl k) ?_
  refine own_go (S' := (T5.setTop (mkF m 26 #[.val (.int x0), .val (.int x1), .unset, .unset, .unset, .unset, .unset, .unset] [(.int (4 : Int32)), (.ref b1), (.ref b1)]))) (fun t k => XT.iconstV X5.here hx rfl (4 : Int32) (hb hby at_25) (by decide) k) ?_
  refine own_go (S' := (T5.setTop (mkF m 28 #[.val (.int x0), .val (.int x1), .unset, .unset, .unset, .unset, .unset, .unset] [(.int (55295 : Int32)), (.int (4 : Int32)), (.ref b1), (.ref b1)]))) (fun t k => Stand.ldcI X5 hx hown (mvT hZ (hw _ (List.mem_of_getElem? (i := 1) rfl))) rfl (hb hby at_26) k) ?_
  obtain ⟨T6, h6, X6, e6, W6, B6, st6⟩ := own_iastore (j := (4 : Int32)) (x := (55295 : Int32)) (Ls := #[.val (.int x0), .val (.int x1), .unset, .unset, .unset, .unset, .unset, .unset]) (rest := [(.ref b1)]) A1 X5 hx hZ e5 (by decide) (i := 4) (by decide) (Nat.le_of_ble_eq_true rfl) (hb hby at_28)
  replace A1 := B6.eq (vs' := [(.int (9 : Int32)), (.int (10 : Int32)), (.int (13 : Int32)), (.int (32 : Int32)), (.int (55295 : Int32)), (.int (0 : Int32)), (.int (0 : Int32)), (.int (0 : Int32)), (.int (0 : Int32)), (.int (0 : Int32)), (.int (0 : Int32)), (.int (0 : Int32))]) rfl
  have N6 := Fr.snoc X6 N5 gn1
  have sz6 : n0 ≤ h6.size := W6.size ▸ sz5
  refine own_go (S' := (T6.setTop (mkF m 29 #[.val (.int x0), .val (.int x1), .unset, .unset, .unset, .unset, .unset, .unset] [(.ref b1)]))) st6 ?_
  refine own_go (S' := (T6.setTop (mkF m 30 #[.val (.int x0), .val (.int x1), .unset, .unset, .unset, .unset, .unset, .unset] [(.ref b1), (.ref b1)]))) (fun t k => XS.dup X6.here hx rfl (hb hby at_29) rfl rfl k) ?_
  refine own_go (S' := (T6.setTop (mkF m 31 #[.val (.int x0), .val (.int x1), .unset, .unset, .unset, .unset, .unset, .unset] [(.int (5 : Int32)), (.ref b1), (.ref b1)]))) (fun t k => XT.iconstV X6.here hx rfl (5 : Int32) (hb hby at_30) (by decide) k) ?_
  refine own_go (S' := (T6.setTop (mkF m 33 #[.val (.int x0), .val (.int x1), .unset, .unset, .unset, .unset, .unset, .unset] [(.int (57344 : Int32)), (.int (5 : Int32)), (.ref b1), (.ref b1)]))) (fun t k => Stand.ldcI X6 hx hown (mvT hZ (hw _ (List.mem_of_getElem? (i := 2) rfl))) rfl (hb hby at_31) k) ?_
  obtain ⟨T7, h7, X7, e7, W7, B7, st7⟩ := own_iastore (j := (5 : Int32)) (x := (57344 : Int32)) (Ls := #[.val (.int x0), .val (.int x1), .unset, .unset, .unset, .unset, .unset, .unset]) (rest := [(.ref b1)]) A1 X6 hx hZ e6 (by decide) (i := 5) (by decide) (Nat.le_of_ble_eq_true rfl) (hb hby at_33)
  replace A1 := B7.eq (vs' := [(.int (9 : Int32)), (.int (10 : Int32)), (.int (13 : Int32)), (.int (32 : Int32)), (.int (55295 : Int32)), (.int (57344 : Int32)), (.int (0 : Int32)), (.int (0 : Int32)), (.int (0 : Int32)), (.int (0 : Int32)), (.int (0 : Int32)), (.int (0 : Int32))]) rfl
  have N7 := Fr.snoc X7 N6 gn1
  have sz7 : n0 ≤ h7.size := W7.size ▸ sz6
  refine own_go (S' := (T7.setTop (mkF m 34 #[.val (.int x0), .val (.int x1), .unset, .unset, .unset, .unset, .unset, .unset] [(.ref b1)]))) st7 ?_
  refine own_go (S' := (T7.setTop (mkF m 35 #[.val (.int x0), .val (.int x1), .unset, .unset, .unset, .unset, .unset, .unset] [(.ref b1), (.ref b1)]))) (fun t k => XS.dup X7.here hx rfl (hb hby at_34) rfl rfl k) ?_
  refine own_go (S' := (T7.setTop (mkF m 37 #[.val (.int x0), .val (.int x1), .unset, .unset, .unset, .unset, .unset, .unset] [(.int (6 : Int32)), (.ref b1), (.ref b1)]))) (fun t k => XT.bipushV X7.here hx rfl (6 : Int32) (hb hby at_35) (by decide) k) ?_
  refine own_go (S' := (T7.setTop (mkF m 39 #[.val (.int x0), .val (.int x1), .unset, .unset, .unset, .unset, .unset, .unset] [(.int (65533 : Int32)), (.int (6 : Int32)), (.ref b1), (.ref b1)]))) (fun t k => Stand.ldcI X7 hx hown (mvT hZ (hw _ (List.mem_of_getElem? (i := 3) rfl))) rfl (hb hby at_37) k) ?_
  obtain ⟨T8, h8, X8, e8, W8, B8, st8⟩ := own_iastore (j := (6 : Int32)) (x := (65533 : Int32)) (Ls := #[.val (.int x0), .val (.int x1), .unset, .unset, .unset, .unset, .unset, .unset]) (rest := [(.ref b1)]) A1 X7 hx hZ e7 (by decide) (i := 6) (by decide) (Nat.le_of_ble_eq_true rfl) (hb hby at_39)
  replace A1 := B8.eq (vs' := [(.int (9 : Int32)), (.int (10 : Int32)), (.int (13 : Int32)), (.int (32 : Int32)), (.int (55295 : Int32)), (.int (57344 : Int32)), (.int (65533 : Int32)), (.int (0 : Int32)), (.int (0 : Int32)), (.int (0 : Int32)), (.int (0 : Int32)), (.int (0 : Int32))]) rfl
  have N8 := Fr.snoc X8 N7 gn1
  have sz8 : n0 ≤ h8.size := W8.size ▸ sz7
  refine own_go (S' := (T8.setTop (mkF m 40 #[.val (.int x0), .val (.int x1), .unset, .unset, .unset, .unset, .unset, .unset] [(.ref b1)]))) st8 ?_
  refine own_go (S' := (T8.setTop (mkF m 41 #[.val (.int x0), .val (.int x1), .unset, .unset, .unset, .unset, .unset, .unset] [(.ref b1), (.ref b1)]))) (fun t k => XS.dup X8.here hx rfl (hb hby at_40) rfl rfl k) ?_
  refine own_go (S' := (T8.setTop (mkF m 43 #[.val (.int x0), .val (.int x1), .unset, .unset, .unset, .unset, .unset, .unset] [(.int (7 : Int32)), (.ref b1), (.ref b1)]))) (fun t k => XT.bipushV X8.here hx rfl (7 : Int32) (hb hby at_41) (by decide) k) ?_
  refine own_go (S' := (T8.setTop (mkF m 45 #[.val (.int x0), .val (.int x1), .unset, .unset, .unset, .unset, .unset, .unset] [(.int (65536 : Int32)), (.int (7 : Int32)), (.ref b1), (.ref b1)]))) (fun t k => Stand.ldcI X8 hx hown (mvT hZ (hw _ (List.mem_of_getElem? (i := 4) rfl))) rfl (hb hby at_43) k) ?_
  obtain ⟨T9, h9, X9, e9, W9, B9, st9⟩ := own_iastore (j := (7 : Int32)) (x := (65536 : Int32)) (Ls := #[.val (.int x0), .val (.int x1), .unset, .unset, .unset, .unset, .unset, .unset]) (rest := [(.ref b1)]) A1 X8 hx hZ e8 (by decide) (i := 7) (by decide) (Nat.le_of_ble_eq_true rfl) (hb hby at_45)
  replace A1 := B9.eq (vs' := [(.int (9 : Int32)), (.int (10 : Int32)), (.int (13 : Int32)), (.int (32 : Int32)), (.int (55295 : Int32)), (.int (57344 : Int32)), (.int (65533 : Int32)), (.int (65536 : Int32)), (.int (0 : Int32)), (.int (0 : Int32)), (.int (0 : Int32)), (.int (0 : Int32))]) rfl
  have N9 := Fr.snoc X9 N8 gn1
  have sz9 : n0 ≤ h9.size := W9.size ▸ sz8
  refine own_go (S' := (T9.setTop (mkF m 46 #[.val (.int x0), .val (.int x1), .unset, .unset, .unset, .unset, .unset, .unset] [(.ref b1)]))) st9 ?_
  refine own_go (S' := (T9.setTop (mkF m 47 #[.val (.int x0), .val (.int x1), .unset, .unset, .unset, .unset, .unset, .unset] [(.ref b1), (.ref b1)]))) (fun t k => XS.dup X9.here hx rfl (hb hby at_46) rfl rfl k) ?_
  refine own_go (S' := (T9.setTop (mkF m 49 #[.val (.int x0), .val (.int x1), .unset, .unset, .unset, .unset, .unset, .unset] [(.int (8 : Int32)), (.ref b1), (.ref b1)]))) (fun t k => XT.bipushV X9.here hx rfl (8 : Int32) (hb hby at_47) (by decide) k) ?_
  refine own_go (S' := (T9.setTop (mkF m 51 #[.val (.int x0), .val (.int x1), .unset, .unset, .unset, .unset, .unset, .unset] [(.int (1114111 : Int32)), (.int (8 : Int32)), (.ref b1), (.ref b1)]))) (fun t k => Stand.ldcI X9 hx hown (mvT hZ (hw _ (List.mem_of_getElem? (i := 5) rfl))) rfl (hb hby at_49) k) ?_
  obtain ⟨T10, h10, X10, e10, W10, B10, st10⟩ := own_iastore (j := (8 : Int32)) (x := (1114111 : Int32)) (Ls := #[.val (.int x0), .val (.int x1), .unset, .unset, .unset, .unset, .unset, .unset]) (rest := [(.ref b1)]) A1 X9 hx hZ e9 (by decide) (i := 8) (by decide) (Nat.le_of_ble_eq_true rfl) (hb hby at_51)
  replace A1 := B10.eq (vs' := [(.int (9 : Int32)), (.int (10 : Int32)), (.int (13 : Int32)), (.int (32 : Int32)), (.int (55295 : Int32)), (.int (57344 : Int32)), (.int (65533 : Int32)), (.int (65536 : Int32)), (.int (1114111 : Int32)), (.int (0 : Int32)), (.int (0 : Int32)), (.int (0 : Int32))]) rfl
  have N10 := Fr.snoc X10 N9 gn1
  have sz10 : n0 ≤ h10.size := W10.size ▸ sz9
  refine own_go (S' := (T10.setTop (mkF m 52 #[.val (.int x0), .val (.int x1), .unset, .unset, .unset, .unset, .unset, .unset] [(.ref b1)]))) st10 ?_
  refine own_go (S' := (T10.setTop (mkF m 53 #[.val (.int x0), .val (.int x1), .unset, .unset, .unset, .unset, .unset, .unset] [(.ref b1), (.ref b1)]))) (fun t k => XS.dup X10.here hx rfl (hb hby at_52) rfl rfl k) ?_
  refine own_go (S' := (T10.setTop (mkF m 55 #[.val (.int x0), .val (.int x1), .unset, .unset, .unset, .unset, .unset, .unset] [(.int (9 : Int32)), (.ref b1), (.ref b1)]))) (fun t k => XT.bipushV X10.here hx rfl (9 : Int32) (hb hby at_53) (by decide) k) ?_
  refine own_go (S' := (T10.setTop (mkF m 57 #[.val (.int x0), .val (.int x1), .unset, .unset, .unset, .unset, .unset, .unset] [(.int (-2147483648 : Int32)), (.int (9 : Int32)), (.ref b1), (.ref b1)]))) (fun t k => Stand.ldcI X10 hx hown (mvT hZ (hw _ (List.mem_of_getElem? (i := 6) rfl))) rfl (hb hby at_55) k) ?_
  obtain ⟨T11, h11, X11, e11, W11, B11, st11⟩ := own_iastore (j := (9 : Int32)) (x := (-2147483648 : Int32)) (Ls := #[.val (.int x0), .val (.int x1), .unset, .unset, .unset, .unset, .unset, .unset]) (rest := [(.ref b1)]) A1 X10 hx hZ e10 (by decide) (i := 9) (by decide) (Nat.le_of_ble_eq_true rfl) (hb hby at_57)
  replace A1 := B11.eq (vs' := [(.int (9 : Int32)), (.int (10 : Int32)), (.int (13 : Int32)), (.int (32 : Int32)), (.int (55295 : Int32)), (.int (57344 : Int32)), (.int (65533 : Int32)), (.int (65536 : Int32)), (.int (1114111 : Int32)), (.int (-2147483648 : Int32)), (.int (0 : Int32)), (.int (0 : Int32))]) rfl
  have N11 := Fr.snoc X11 N10 gn1
  have sz11 : n0 ≤ h11.size := W11.size ▸ sz10
  refine own_go (S' := (T11.setTop (mkF m 58 #[.val (.int x0), .val (.int x1), .unset, .unset, .unset, .unset, .unset, .unset] [(.ref b1)]))) st11 ?_
  refine own_go (S' := (T11.setTop (mkF m 59 #[.val (.int x0), .val (.int x1), .unset, .unset, .unset, .unset, .unset, .unset] [(.ref b1), (.ref b1)]))) (fun t k => XS.dup X11.here hx rfl (hb hby at_58) rfl rfl k) ?_
  refine own_go (S' := (T11.setTop (mkF m 61 #[.val (.int x0), .val (.int x1), .unset, .unset, .unset, .unset, .unset, .unset] [(.int (10 : Int32)), (.ref b1), (.ref b1)]))) (fun t k => XT.bipushV X11.here hx rfl (10 : Int32) (hb hby at_59) (by decide) k) ?_
  refine own_go (S' := (T11.setTop (mkF m 63 #[.val (.int x0), .val (.int x1), .unset, .unset, .unset, .unset, .unset, .unset] [(.int (2147483647 : Int32)), (.int (10 : Int32)), (.ref b1), (.ref b1)]))) (fun t k => Stand.ldcI X11 hx hown (mvT hZ (hw _ (List.mem_of_getElem? (i := 7) rfl))) rfl (hb hby at_61) k) ?_
  obtain ⟨T12, h12, X12, e12, W12, B12, st12⟩ := own_iastore (j := (10 : Int32)) (x := (2147483647 : Int32)) (Ls := #[.val (.int x0), .val (.int x1), .unset, .unset, .unset, .unset, .unset, .unset]) (rest := [(.ref b1)]) A1 X11 hx hZ e11 (by decide) (i := 10) (by decide) (Nat.le_of_ble_eq_true rfl) (hb hby at_63)
  replace A1 := B12.eq (vs' := [(.int (9 : Int32)), (.int (10 : Int32)), (.int (13 : Int32)), (.int (32 : Int32)), (.int (55295 : Int32)), (.int (57344 : Int32)), (.int (65533 : Int32)), (.int (65536 : Int32)), (.int (1114111 : Int32)), (.int (-2147483648 : Int32)), (.int (2147483647 : Int32)), (.int (0 : Int32))]) rfl
  have N12 := Fr.snoc X12 N11 gn1
  have sz12 : n0 ≤ h12.size := W12.size ▸ sz11
  refine own_go (S' := (T12.setTop (mkF m 64 #[.val (.int x0), .val (.int x1), .unset, .unset, .unset, .unset, .unset, .unset] [(.ref b1)]))) st12 ?_
  refine own_go (S' := (T12.setTop (mkF m 65 #[.val (.int x0), .val (.int x1), .unset, .unset, .unset, .unset, .unset, .unset] [(.ref b1), (.ref b1)]))) (fun t k => XS.dup X12.here hx rfl (hb hby at_64) rfl rfl k) ?_
  refine own_go (S' := (T12.setTop (mkF m 67 #[.val (.int x0), .val (.int x1), .unset, .unset, .unset, .unset, .unset, .unset] [(.int (11 : Int32)), (.ref b1), (.ref b1)]))) (fun t k => XT.bipushV X12.here hx rfl (11 : Int32) (hb hby at_65) (by decide) k) ?_
  refine own_go (S' := (T12.setTop (mkF m 68 #[.val (.int x0), .val (.int x1), .unset, .unset, .unset, .unset, .unset, .unset] [(.int (0 : Int32)), (.int (11 : Int32)), (.ref b1), (.ref b1)]))) (fun t k => XT.iconstV X12.here hx rfl (0 : Int32) (hb hby at_67) (by decide) k) ?_
  obtain ⟨T13, h13, X13, e13, W13, B13, st13⟩ := own_iastore (j := (11 : Int32)) (x := (0 : Int32)) (Ls := #[.val (.int x0), .val (.int x1), .unset, .unset, .unset, .unset, .unset, .unset]) (rest := [(.ref b1)]) A1 X12 hx hZ e12 (by decide) (i := 11) (by decide) (Nat.le_of_ble_eq_true rfl) (hb hby at_68)
  replace A1 := B13.eq (vs' := [(.int (9 : Int32)), (.int (10 : Int32)), (.int (13 : Int32)), (.int (32 : Int32)), (.int (55295 : Int32)), (.int (57344 : Int32)), (.int (65533 : Int32)), (.int (65536 : Int32)), (.int (1114111 : Int32)), (.int (-2147483648 : Int32)), (.int (2147483647 : Int32)), (.int (0 : Int32))]) rfl
  have N13 := Fr.snoc X13 N12 gn1
  have sz13 : n0 ≤ h13.size := W13.size ▸ sz12
  refine own_go (S' := (T13.setTop (mkF m 69 #[.val (.int x0), .val (.int x1), .unset, .unset, .unset, .unset, .unset, .unset] [(.ref b1)]))) st13 ?_
  refine own_go (S' := (T13.setTop (mkF m 70 #[.val (.int x0), .val (.int x1), .val (.ref b1), .unset, .unset, .unset, .unset, .unset] []))) (fun t k => XS.astoreN X13.here hx rfl (hb hby at_69) rfl rfl (l' := #[.val (.int x0), .val (.int x1), .val (.ref b1), .unset, .unset, .unset, .unset, .unset]) rfl k) ?_
  refine own_go (S' := (T13.setTop (mkF m 71 #[.val (.int x0), .val (.int x1), .val (.ref b1), .unset, .unset, .unset, .unset, .unset] [(.int x1)]))) (fun t k => XS.iloadN X13.here hx rfl (hb hby at_70) rfl k) ?_
  refine own_go (S' := (T13.setTop (mkF m 73 #[.val (.int x0), .val (.int x1), .val (.ref b1), .unset, .unset, .unset, .unset, .unset] [(.int (2147483647 : Int32)), (.int x1)]))) (fun t k => Stand.ldcI X13 hx hown (mvT hZ (hw _ (List.mem_of_getElem? (i := 7) rfl))) rfl (hb hby at_71) k) ?_
  refine own_go (S' := (T13.setTop (mkF m 74 #[.val (.int x0), .val (.int x1), .val (.ref b1), .unset, .unset, .unset, .unset, .unset] [(.int (x1 &&& (2147483647 : Int32)))]))) (fun t k => XS.iand X13.here hx rfl (hb hby at_73) rfl k) ?_
  refine own_go (S' := (T13.setTop (mkF m 76 #[.val (.int x0), .val (.int x1), .val (.ref b1), .unset, .unset, .unset, .unset, .unset] [(.int (12 : Int32)), (.int (x1 &&& (2147483647 : Int32)))]))) (fun t k => XT.bipushV X13.here hx rfl (12 : Int32) (hb hby at_74) (by decide) k) ?_
  refine own_go (S' := (T13.setTop (mkF m 77 #[.val (.int x0), .val (.int x1), .val (.ref b1), .unset, .unset, .unset, .unset, .unset] [(.int ((x1 &&& (2147483647 : Int32)) % (12 : Int32)))]))) (fun t k => iremM X13 hx rfl (hb hby at_76) rfl (by decide) k) ?_
  refine own_go (S' := (T13.setTop (mkF m 78 #[.val (.int x0), .val (.int x1), .val (.ref b1), .val (.int ((x1 &&& (2147483647 : Int32)) % (12 : Int32))), .unset, .unset, .unset, .unset] []))) (fun t k => XS.istoreN X13.here hx rfl (hb hby at_77) rfl (l' := #[.val (.int x0), .val (.int x1), .val (.ref b1), .val (.int ((x1 &&& (2147483647 : Int32)) % (12 : Int32))), .unset, .unset, .unset, .unset]) rfl k) ?_
  generalize hg77 : ((x1 &&& (2147483647 : Int32)) % (12 : Int32)) = y77
  refine own_go (S' := (T13.setTop (mkF m 79 #[.val (.int x0), .val (.int x1), .val (.ref b1), .val (.int y77), .unset, .unset, .unset, .unset] [(.int x1)]))) (fun t k => XS.iloadN X13.here hx rfl (hb hby at_78) rfl k) ?_
  refine own_go (S' := (T13.setTop (mkF m 81 #[.val (.int x0), .val (.int x1), .val (.ref b1), .val (.int y77), .unset, .unset, .unset, .unset] [(.int (8 : Int32)), (.int x1)]))) (fun t k => XT.bipushV X13.here hx rfl (8 : Int32) (hb hby at_79) (by decide) k) ?_
  refine own_go (S' := (T13.setTop (mkF m 82 #[.val (.int x0), .val (.int x1), .val (.ref b1), .val (.int y77), .unset, .unset, .unset, .unset] [(.int ((x1.toUInt32 >>> ((8 : Int32) &&& 31).toUInt32).toInt32))]))) (fun t k => XS.iushr X13.here hx rfl (hb hby at_81) rfl k) ?_
  refine own_go (S' := (T13.setTop (mkF m 83 #[.val (.int x0), .val (.int x1), .val (.ref b1), .val (.int y77), .unset, .unset, .unset, .unset] [(.int (3 : Int32)), (.int ((x1.toUInt32 >>> ((8 : Int32) &&& 31).toUInt32).toInt32))]))) (fun t k => XT.iconstV X13.here hx rfl (3 : Int32) (hb hby at_82) (by decide) k) ?_
  refine own_go (S' := (T13.setTop (mkF m 84 #[.val (.int x0), .val (.int x1), .val (.ref b1), .val (.int y77), .unset, .unset, .unset, .unset] [(.int (((x1.toUInt32 >>> ((8 : Int32) &&& 31).toUInt32).toInt32) % (3 : Int32)))]))) (fun t k => iremM X13 hx rfl (hb hby at_83) rfl (by decide) k) ?_
  refine own_go (S' := (T13.setTop (mkF m 85 #[.val (.int x0), .val (.int x1), .val (.ref b1), .val (.int y77), .unset, .unset, .unset, .unset] [(.int (1 : Int32)), (.int (((x1.toUInt32 >>> ((8 : Int32) &&& 31).toUInt32).toInt32) % (3 : Int32)))]))) (fun t k => XT.iconstV X13.here hx rfl (1 : Int32) (hb hby at_84) (by decide) k) ?_
  refine own_go (S' := (T13.setTop (mkF m 86 #[.val (.int x0), .val (.int x1), .val (.ref b1), .val (.int y77), .unset, .unset, .unset, .unset] [(.int ((((x1.toUInt32 >>> ((8 : Int32) &&& 31).toUInt32).toInt32) % (3 : Int32)) - (1 : Int32)))]))) (fun t k => XS.isub X13.here hx rfl (hb hby at_85) rfl k) ?_
  refine own_go (S' := (T13.setTop (mkF m 88 #[.val (.int x0), .val (.int x1), .val (.ref b1), .val (.int y77), .val (.int ((((x1.toUInt32 >>> ((8 : Int32) &&& 31).toUInt32).toInt32) % (3 : Int32)) - (1 : Int32))), .unset, .unset, .unset] []))) (fun t k => XS.istore X13.here hx rfl (hb hby at_86) rfl (l' := #[.val (.int x0), .val (.int x1), .val (.ref b1), .val (.int y77), .val (.int ((((x1.toUInt32 >>> ((8 : Int32) &&& 31).toUInt32).toInt32) % (3 : Int32)) - (1 : Int32))), .unset, .unset, .unset]) rfl k) ?_
  generalize hg86 : ((((x1.toUInt32 >>> ((8 : Int32) &&& 31).toUInt32).toInt32) % (3 : Int32)) - (1 : Int32)) = y86
  refine own_go (S' := (T13.setTop (mkF m 89 #[.val (.int x0), .val (.int x1), .val (.ref b1), .val (.int y77), .val (.int y86), .unset, .unset, .unset] [(.ref b1)]))) (fun t k => XS.aloadN X13.here hx rfl (hb hby at_88) rfl rfl k) ?_
  refine own_go (S' := (T13.setTop (mkF m 90 #[.val (.int x0), .val (.int x1), .val (.ref b1), .val (.int y77), .val (.int y86), .unset, .unset, .unset] [(.int y77), (.ref b1)]))) (fun t k => XS.iloadN X13.here hx rfl (hb hby at_89) rfl k) ?_
  have ix90 : 0 ≤ (y77).toInt ∧ (y77).toInt < 12 := hg77 ▸ own_rem (own_mask31 _) rfl (by decide)
  replace A1 := A1.eq (vs' := (List.map Value.int [(9 : Int32), (10 : Int32), (13 : Int32), (32 : Int32), (55295 : Int32), (57344 : Int32), (65533 : Int32), (65536 : Int32), (1114111 : Int32), (-2147483648 : Int32), (2147483647 : Int32), (0 : Int32)])) rfl
  have il90 : (y77).toNatClampNeg < List.length (List.map Value.int [(9 : Int32), (10 : Int32), (13 : Int32), (32 : Int32), (55295 : Int32), (57344 : Int32), (65533 : Int32), (65536 : Int32), (1114111 : Int32), (-2147483648 : Int32), (2147483647 : Int32), (0 : Int32)]) := own_ltn ix90.1 ix90.2
  obtain ⟨v90, hv90⟩ : ∃ v : Int32, (List.map Value.int [(9 : Int32), (10 : Int32), (13 : Int32), (32 : Int32), (55295 : Int32), (57344 : Int32), (65533 : Int32), (65536 : Int32), (1114111 : Int32), (-2147483648 : Int32), (2147483647 : Int32), (0 : Int32)])[(y77).toNatClampNeg]? = some (.int v) := own_mapAt il90
  refine own_go (S' := (T13.setTop (mkF m 91 #[.val (.int x0), .val (.int x1), .val (.ref b1), .val (.int y77), .val (.int y86), .unset, .unset, .unset] [(.int v90)]))) (own_iaload (j := y77) (v := (.int v90)) A1 X13 hx hZ e13 (own_nneg ix90.1) (i := (y77).toNatClampNeg) rfl il90 hv90 (hb hby at_90)) ?_
  refine own_go (S' := (T13.setTop (mkF m 93 #[.val (.int x0), .val (.int x1), .val (.ref b1), .val (.int y77), .val (.int y86), .unset, .unset, .unset] [(.int y86), (.int v90)]))) (fun t k => XS.iload X13.here hx rfl (hb hby at_91) rfl k) ?_
  refine own_go (S' := (T13.setTop (mkF m 94 #[.val (.int x0), .val (.int x1), .val (.ref b1), .val (.int y77), .val (.int y86), .unset, .unset, .unset] [(.int (v90 + y86))]))) (fun t k => XS.iadd X13.here hx rfl (hb hby at_93) rfl k) ?_
  refine own_go (S' := (T13.setTop (mkF m 96 #[.val (.int x0), .val (.int x1), .val (.ref b1), .val (.int y77), .val (.int y86), .val (.int (v90 + y86)), .unset, .unset] []))) (fun t k => XS.istore X13.here hx rfl (hb hby at_94) rfl (l' := #[.val (.int x0), .val (.int x1), .val (.ref b1), .val (.int y77), .val (.int y86), .val (.int (v90 + y86)), .unset, .unset]) rfl k) ?_
  generalize hg94 : (v90 + y86) = y94
  refine own_go (S' := (T13.setTop (mkF m 97 #[.val (.int x0), .val (.int x1), .val (.ref b1), .val (.int y77), .val (.int y86), .val (.int y94), .unset, .unset] [(.int x0)]))) (fun t k => XS.iloadN X13.here hx rfl (hb hby at_96) rfl k) ?_
  obtain ⟨T14, X14, e14, st14⟩ := own_callP X13 hx hZ (y := (⟨"com/example/hornbeam/hornbeam/model/XmlCharacters", "isCharacter", "(I)Z"⟩ : MethodName)) hown (hw _ (List.mem_of_getElem? (i := 8) rfl)) (hw _ (List.mem_of_getElem? (i := 9) rfl)) (hw _ (List.mem_of_getElem? (i := 10) rfl)) (hw _ (List.mem_of_getElem? (i := 11) rfl)) (rm1 l Z a0 hw x0 h13) e13 (argsL := [(.int x0)]) (rest := []) (Ls := #[.val (.int x0), .val (.int x1), .val (.ref b1), .val (.int y77), .val (.int y86), .val (.int y94), .unset, .unset]) (hb hby at_97) pd_0 0 (by rw [hml]; rfl) (by decide) rfl rfl rfl (Nat.le_of_eq rfl) (by decide) (by decide) (by decide) (by decide)
  refine own_go (S' := (T14.setTop (mkF m 100 #[.val (.int x0), .val (.int x1), .val (.ref b1), .val (.int y77), .val (.int y86), .val (.int y94), .unset, .unset] [(.int (f1_0 x0))]))) st14 ?_
  refine own_go (S' := (T14.setTop (mkF m 101 #[.val (.int x0), .val (.int x1), .val (.ref b1), .val (.int y77), .val (.int y86), .val (.int y94), .unset, .unset] [(.int x0), (.int (f1_0 x0))]))) (fun t k => XS.iloadN X14.here hx rfl (hb hby at_100) rfl k) ?_
  obtain ⟨T15, X15, e15, st15⟩ := own_callP X14 hx hZ (y := (⟨"com/example/hornbeam/hornbeam/model/XmlCharactersIsCharacterPinLaw", "reference", "(I)Z"⟩ : MethodName)) hown (hw _ (List.mem_of_getElem? (i := 14) rfl)) (hw _ (List.mem_of_getElem? (i := 15) rfl)) (hw _ (List.mem_of_getElem? (i := 16) rfl)) (hw _ (List.mem_of_getElem? (i := 17) rfl)) (rm2 l Z a0 hw x0 h13) e14 (argsL := [(.int x0)]) (rest := [(.int (f1_0 x0))]) (Ls := #[.val (.int x0), .val (.int x1), .val (.ref b1), .val (.int y77), .val (.int y86), .val (.int y94), .unset, .unset]) (hb hby at_101) pd_0 1 (by rw [hml]; rfl) (by decide) rfl rfl rfl (Nat.le_of_eq rfl) (by decide) (by decide) (by decide) (by decide)
  refine own_go (S' := (T15.setTop (mkF m 104 #[.val (.int x0), .val (.int x1), .val (.ref b1), .val (.int y77), .val (.int y86), .val (.int y94), .unset, .unset] [(.int (f2_0 x0)), (.int (f1_0 x0))]))) st15 ?_
  refine own_go (S' := (T15.setTop (mkF m 107 #[.val (.int x0), .val (.int x1), .val (.ref b1), .val (.int y77), .val (.int y86), .val (.int y94), .unset, .unset] []))) (fun t k => XS.icmpNo X15.here hx rfl (hb hby at_104) rfl (teq (own_same _)).2 k) ?_
  refine own_go (S' := (T15.setTop (mkF m 108 #[.val (.int x0), .val (.int x1), .val (.ref b1), .val (.int y77), .val (.int y86), .val (.int y94), .unset, .unset] [(.int (1 : Int32))]))) (fun t k => XT.iconstV X15.here hx rfl (1 : Int32) (hb hby at_107) (by decide) k) ?_
  refine own_go (S' := (T15.setTop (mkF m 112 #[.val (.int x0), .val (.int x1), .val (.ref b1), .val (.int y77), .val (.int y86), .val (.int y94), .unset, .unset] [(.int (1 : Int32))]))) (fun t k => XS.goto X15.here hx rfl (pc0 := 108) (pc' := 112) rfl (hb hby at_108) (by decide) (by decide) k) ?_
  refine own_go (S' := (T15.setTop (mkF m 114 #[.val (.int x0), .val (.int x1), .val (.ref b1), .val (.int y77), .val (.int y86), .val (.int y94), .val (.int (1 : Int32)), .unset] []))) (fun t k => XS.istore X15.here hx rfl (hb hby at_112) rfl (l' := #[.val (.int x0), .val (.int x1), .val (.ref b1), .val (.int y77), .val (.int y86), .val (.int y94), .val (.int (1 : Int32)), .unset]) rfl k) ?_
  refine own_go (S' := (T15.setTop (mkF m 116 #[.val (.int x0), .val (.int x1), .val (.ref b1), .val (.int y77), .val (.int y86), .val (.int y94), .val (.int (1 : Int32)), .unset] [(.int y94)]))) (fun t k => XS.iload X15.here hx rfl (hb hby at_114) rfl k) ?_
  obtain ⟨T16, X16, e16, st16⟩ := own_callP X15 hx hZ (y := (⟨"com/example/hornbeam/hornbeam/model/XmlCharacters", "isCharacter", "(I)Z"⟩ : MethodName)) hown (hw _ (List.mem_of_getElem? (i := 8) rfl)) (hw _ (List.mem_of_getElem? (i := 9) rfl)) (hw _ (List.mem_of_getElem? (i := 10) rfl)) (hw _ (List.mem_of_getElem? (i := 11) rfl)) (rm1 l Z a0 hw y94 h13) e15 (argsL := [(.int y94)]) (rest := []) (Ls := #[.val (.int x0), .val (.int x1), .val (.ref b1), .val (.int y77), .val (.int y86), .val (.int y94), .val (.int (1 : Int32)), .unset]) (hb hby at_116) pd_0 0 (by rw [hml]; rfl) (by decide) rfl rfl rfl (Nat.le_of_eq rfl) (by decide) (by decide) (by decide) (by decide)
  refine own_go (S' := (T16.setTop (mkF m 119 #[.val (.int x0), .val (.int x1), .val (.ref b1), .val (.int y77), .val (.int y86), .val (.int y94), .val (.int (1 : Int32)), .unset] [(.int (f1_0 y94))]))) st16 ?_
  refine own_go (S' := (T16.setTop (mkF m 121 #[.val (.int x0), .val (.int x1), .val (.ref b1), .val (.int y77), .val (.int y86), .val (.int y94), .val (.int (1 : Int32)), .unset] [(.int y94), (.int (f1_0 y94))]))) (fun t k => XS.iload X16.here hx rfl (hb hby at_119) rfl k) ?_
  obtain ⟨T17, X17, e17, st17⟩ := own_callP X16 hx hZ (y := (⟨"com/example/hornbeam/hornbeam/model/XmlCharactersIsCharacterPinLaw", "reference", "(I)Z"⟩ : MethodName)) hown (hw _ (List.mem_of_getElem? (i := 14) rfl)) (hw _ (List.mem_of_getElem? (i := 15) rfl)) (hw _ (List.mem_of_getElem? (i := 16) rfl)) (hw _ (List.mem_of_getElem? (i := 17) rfl)) (rm2 l Z a0 hw y94 h13) e16 (argsL := [(.int y94)]) (rest := [(.int (f1_0 y94))]) (Ls := #[.val (.int x0), .val (.int x1), .val (.ref b1), .val (.int y77), .val (.int y86), .val (.int y94), .val (.int (1 : Int32)), .unset]) (hb hby at_121) pd_0 1 (by rw [hml]; rfl) (by decide) rfl rfl rfl (Nat.le_of_eq rfl) (by decide) (by decide) (by decide) (by decide)
  refine own_go (S' := (T17.setTop (mkF m 124 #[.val (.int x0), .val (.int x1), .val (.ref b1), .val (.int y77), .val (.int y86), .val (.int y94), .val (.int (1 : Int32)), .unset] [(.int (f2_0 y94)), (.int (f1_0 y94))]))) st17 ?_
  refine own_go (S' := (T17.setTop (mkF m 127 #[.val (.int x0), .val (.int x1), .val (.ref b1), .val (.int y77), .val (.int y86), .val (.int y94), .val (.int (1 : Int32)), .unset] []))) (fun t k => XS.icmpNo X17.here hx rfl (hb hby at_124) rfl (teq (own_same _)).2 k) ?_
  refine own_go (S' := (T17.setTop (mkF m 128 #[.val (.int x0), .val (.int x1), .val (.ref b1), .val (.int y77), .val (.int y86), .val (.int y94), .val (.int (1 : Int32)), .unset] [(.int (1 : Int32))]))) (fun t k => XT.iconstV X17.here hx rfl (1 : Int32) (hb hby at_127) (by decide) k) ?_
  refine own_go (S' := (T17.setTop (mkF m 132 #[.val (.int x0), .val (.int x1), .val (.ref b1), .val (.int y77), .val (.int y86), .val (.int y94), .val (.int (1 : Int32)), .unset] [(.int (1 : Int32))]))) (fun t k => XS.goto X17.here hx rfl (pc0 := 128) (pc' := 132) rfl (hb hby at_128) (by decide) (by decide) k) ?_
  refine own_go (S' := (T17.setTop (mkF m 134 #[.val (.int x0), .val (.int x1), .val (.ref b1), .val (.int y77), .val (.int y86), .val (.int y94), .val (.int (1 : Int32)), .val (.int (1 : Int32))] []))) (fun t k => XS.istore X17.here hx rfl (hb hby at_132) rfl (l' := #[.val (.int x0), .val (.int x1), .val (.ref b1), .val (.int y77), .val (.int y86), .val (.int y94), .val (.int (1 : Int32)), .val (.int (1 : Int32))]) rfl k) ?_
  refine own_go (S' := (T17.setTop (mkF m 136 #[.val (.int x0), .val (.int x1), .val (.ref b1), .val (.int y77), .val (.int y86), .val (.int y94), .val (.int (1 : Int32)), .val (.int (1 : Int32))] [(.int (1 : Int32))]))) (fun t k => XS.iload X17.here hx rfl (hb hby at_134) rfl k) ?_
  refine own_go (S' := (T17.setTop (mkF m 139 #[.val (.int x0), .val (.int x1), .val (.ref b1), .val (.int y77), .val (.int y86), .val (.int y94), .val (.int (1 : Int32)), .val (.int (1 : Int32))] []))) (fun t k => XS.ifNo X17.here hx rfl (hb hby at_136) rfl ((if0 _ _).trans (feq (by decide)).1) k) ?_
  refine own_go (S' := (T17.setTop (mkF m 141 #[.val (.int x0), .val (.int x1), .val (.ref b1), .val (.int y77), .val (.int y86), .val (.int y94), .val (.int (1 : Int32)), .val (.int (1 : Int32))] [(.int (1 : Int32))]))) (fun t k => XS.iload X17.here hx rfl (hb hby at_139) rfl k) ?_
  refine own_go (S' := (T17.setTop (mkF m 144 #[.val (.int x0), .val (.int x1), .val (.ref b1), .val (.int y77), .val (.int y86), .val (.int y94), .val (.int (1 : Int32)), .val (.int (1 : Int32))] []))) (fun t k => XS.ifNo X17.here hx rfl (hb hby at_141) rfl ((if0 _ _).trans (feq (by decide)).1) k) ?_
  refine own_go (S' := (T17.setTop (mkF m 145 #[.val (.int x0), .val (.int x1), .val (.ref b1), .val (.int y77), .val (.int y86), .val (.int y94), .val (.int (1 : Int32)), .val (.int (1 : Int32))] [(.int (1 : Int32))]))) (fun t k => XT.iconstV X17.here hx rfl (1 : Int32) (hb hby at_144) (by decide) k) ?_
  refine own_go (S' := (T17.setTop (mkF m 149 #[.val (.int x0), .val (.int x1), .val (.ref b1), .val (.int y77), .val (.int y86), .val (.int y94), .val (.int (1 : Int32)), .val (.int (1 : Int32))] [(.int (1 : Int32))]))) (fun t k => XS.goto X17.here hx rfl (pc0 := 145) (pc' := 149) rfl (hb hby at_145) (by decide) (by decide) k) ?_
  exact own_retN X17 hx hret hlk (by simp) (hb hby at_149) (by first | rfl | decide) (by decide) (by decide) ⟨rfl, N13⟩
set_option maxRecDepth 65536 in
set_option maxHeartbeats 40000000 in
theorem comes_1 {Post : Tables → Env → Array Value → State → Outcome → State → Prop} (hpost : ∀ tb e args s v u, (limb_1_1.after args s (.returned v) u = true ∧ limb_1_2.after args s (.returned v) u = true) → FrameEnd s (.returned v) u (Jvm.fieldLocs frame_1_writes args s ++ Jvm.arrayLocs frame_1_arrays args s ++ Jvm.staticLocs frame_1_statics s) 16 128 → Post tb e args s (.returned v) u) :
    ArmFor flags0 classFile x code maxLocals ret World_1 tables_1 room_1 Calls_1 rest_1 Pre_1 Post := by
  intro l hfl _ _ p e ha hc hk s m args below hf hA hF happ hP
  obtain ⟨hcalls, hrest, hpre⟩ := hP
  obtain ⟨-, -, -, hnamed, -, -, -, hat⟩ := (Spec.applies_iff hf).mp happ
  obtain ⟨hg, hn⟩ := and_e (Cond.before_iff.mp (show (Jvm.Cond.and given_1 narrow_1).before args s = true from hpre))
  obtain ⟨hga, hgb⟩ := and_e hg
  obtain ⟨hgba, hgbb⟩ := and_e hgb
  obtain ⟨w0, w1, rfl⟩ : ∃ w0 w1 : Value, args = #[w0, w1] := by
    have hs : args.size = 2 := by simpa [Cond.value, given_1] using hga
    obtain ⟨L⟩ := args
    match L, hs with
    | [w0, w1], _ => exact ⟨w0, w1, rfl⟩
  have hw := fun d (hd : d ∈ tables_1) => atoms_spec (ws := Jvm.Cond.code x code maxLocals ret :: tables_1) hat d (List.mem_cons_of_mem _ hd)
  obtain ⟨i0, ei0⟩ := is_v hgba
  obtain rfl : w0 = (.int i0) := Option.some.inj ei0
  obtain ⟨i1, ei1⟩ := is_v hgbb
  obtain rfl : w1 = (.int i1) := Option.some.inj ei1
  obtain ⟨n, o, h1, h2, h3, _, L, rfl, ⟨rfl, N⟩, hq⟩ := rm0 l s _ hw tables_1 i0 i1 s.heap s.heap.size (Nat.le_refl _) p e ha hc hk s m _ below hf ((Spec.applies_iff_loose hf).mp happ).1 ⟨rfl, State.Warmed39.refl s, rfl⟩ trivial
  refine ⟨n, _, h1, h2, h3, hpost _ _ _ _ _ _ ⟨Cond.after_iff.mpr rfl, Cond.after_iff.mpr (eq_i res_at (Term.int_eval (1)) rfl)⟩ ⟨hq.1, hq.2.1, (hq.2.2.sift fun y hy => Or.inr (N y hy)).mono (by decide) (by decide)⟩⟩
theorem main_1_1 : Claimed_1_1 := comes_1 fun _ _ _ _ _ _ h hF => ⟨h.1, hF⟩
theorem main_1_2 : Claimed_1_2 := comes_1 fun _ _ _ _ _ _ h hF => ⟨h.2, hF⟩
end Jvm.Pilot.@@N@@
namespace Jvm.Pilot.@@N@@
open Jvm Jvm.ClassFile Sem Op Lib Jvm.Free Jvm.Stand Jvm.Pilot.@@N@@.Jvm.D
/-! MADE BY PROGRAM (witnessworld.py) out of the Statement's table words and the real class files: 9 classes; the members and pool entries that the words name. The judged class is class 1, her method 2. -/
namespace start1
open Jvm.ClassFile
def u (s : String) : CpInfo := .utf8 (stringToUtf16 s)
/-- a pool by its gaps: so many unusable entries, then the entry; so many at the end -/
def gap : Nat → List CpInfo → List CpInfo
  | 0, r => r
  | n + 1, r => .unusable :: gap n r
def poolList (es : List (Nat × CpInfo)) (last : Nat) : List CpInfo := es.foldr (fun e r => gap e.1 (e.2 :: r)) (gap last [])
def pool (es : List (Nat × CpInfo)) (last : Nat) : Array CpInfo := ⟨poolList es last⟩
def fileOf (pool : Array CpInfo) (this : Nat) (attrs : Array Attribute := #[]) (ms : Array MethodInfo := #[]) (fl : Nat := 33) (sup : Nat := 0) (ifs : Array Nat := #[]) (fds : Array FieldInfo := #[]) : ClassFile where
  minorVersion := 0
  majorVersion := 65
  constantPool := pool
  accessFlags := fl
  thisClass := this
  superClass := sup
  interfaces := ifs
  fields := fds
  methods := ms
  attributes := attrs
def plain (name : String) (sup : Option ClassId) : Class where
  name := name
  kind := .ordinary
  loader := none
  accessFlags := 33
  super := sup
  interfaces := #[]
  cf := none
  fields := #[]
  methods := #[]
  instanceTypes := #[]
  staticTypes := #[]
  resolved := #[]
  callSites := []
  init := .initialized
  statics := none
  mirror := none

def pool0 : Array CpInfo := pool [(5, u "<init>"), (0, u "()V"), (1, .class_ 10), (1, u "java/lang/Object")] 113

def k0m0 : Method := { name := "<init>", desc := "()V", sig := { parameters := [], returnType := none }, accessFlags := 1, code := none }
/-- java/lang/Object -/
def k0 : Class := { plain "java/lang/Object" none with
  accessFlags := 33
  interfaces := #[]
  cf := some (fileOf pool0 8 #[] #[{ accessFlags := 1, nameIndex := 5, descriptorIndex := 6, attributes := #[] }] 33 0 #[] #[])
  fields := #[]
  methods := #[k0m0]
  instanceTypes := #[]
  staticTypes := #[]
  resolved := Array.replicate 124 none
  statics := none }

def pool1 : Array CpInfo := pool [(2, .class_ 4), (1, u "java/lang/Object"), (0, u "<init>"), (0, u "()V"), (0, .integer 1114111), (0, .integer 55296), (0, .integer 57343), (0, .integer 65534), (0, .integer 65535), (0, .integer 55295), (0, .integer 57344), (0, .integer 65533), (0, .integer 65536), (2, .integer 2147483648), (0, .integer 2147483647), (0, .methodref 21 22), (0, .class_ 23), (0, .nameAndType 24 25), (0, u "com/example/hornbeam/hornbeam/model/XmlCharacters"), (0, u "isCharacter"), (0, u "(I)Z"), (0, .methodref 27 28), (0, .class_ 29), (0, .nameAndType 30 25), (0, u "com/example/hornbeam/hornbeam/model/XmlCharactersIsCharacterPinLaw"), (0, u "reference"), (3, u "law"), (0, u "(II)Z")] 4

def k1m0 : Method := { name := "<init>", desc := "()V", sig := { parameters := [], returnType := none }, accessFlags := 2, code := none }
def k1c1 : Code := { maxStack := 2, maxLocals := 1, code := method_2_code, exceptionTable := #[], attributes := #[] }
def k1m1 : Method := { name := "reference", desc := "(I)Z", sig := { parameters := [.int], returnType := some .boolean }, accessFlags := 10, code := some k1c1 }
def k1c2 : Code := { maxStack := 4, maxLocals := 8, code := code, exceptionTable := #[], attributes := #[] }
def k1m2 : Method := { name := "law", desc := "(II)Z", sig := { parameters := [.int, .int], returnType := some .boolean }, accessFlags := 9, code := some k1c2 }
/-- com/example/hornbeam/hornbeam/model/XmlCharactersIsCharacterPinLaw -/
def k1 : Class := { plain "com/example/hornbeam/hornbeam/model/XmlCharactersIsCharacterPinLaw" (some 0) with
  accessFlags := 49
  interfaces := #[]
  cf := some (fileOf pool1 27 #[] #[{ accessFlags := 2, nameIndex := 5, descriptorIndex := 6, attributes := #[] }, { accessFlags := 10, nameIndex := 30, descriptorIndex := 25, attributes := #[] }, { accessFlags := 9, nameIndex := 34, descriptorIndex := 35, attributes := #[] }] 49 2 #[] #[])
  fields := #[]
  methods := #[k1m0, k1m1, k1m2]
  instanceTypes := #[]
  staticTypes := #[]
  resolved := Array.replicate 40 none
  statics := none }

def pool2 : Array CpInfo := pool [(2, .class_ 4), (1, u "java/lang/Object"), (0, u "<init>"), (0, u "()V"), (0, .integer 55295), (0, .integer 57344), (0, .integer 65533), (0, .integer 65536), (0, .integer 1114111), (5, .class_ 19), (1, u "com/example/hornbeam/hornbeam/model/XmlCharacters"), (1, u "(I)Z"), (33, u "isCharacter")] 6

def k2m0 : Method := { name := "<init>", desc := "()V", sig := { parameters := [], returnType := none }, accessFlags := 2, code := none }
def k2c1 : Code := { maxStack := 2, maxLocals := 1, code := prog_267_method_2_code, exceptionTable := #[], attributes := #[] }
def k2m1 : Method := { name := "isCharacter", desc := "(I)Z", sig := { parameters := [.int], returnType := some .boolean }, accessFlags := 9, code := some k2c1 }
/-- com/example/hornbeam/hornbeam/model/XmlCharacters -/
def k2 : Class := { plain "com/example/hornbeam/hornbeam/model/XmlCharacters" (some 0) with
  accessFlags := 49
  interfaces := #[]
  cf := some (fileOf pool2 17 #[] #[{ accessFlags := 2, nameIndex := 5, descriptorIndex := 6, attributes := #[] }, { accessFlags := 9, nameIndex := 55, descriptorIndex := 21, attributes := #[] }] 49 2 #[] #[])
  fields := #[]
  methods := #[k2m0, k2m1]
  instanceTypes := #[]
  staticTypes := #[]
  resolved := Array.replicate 62 none
  statics := none }

def pool3 : Array CpInfo := pool [(1, u "java/lang/Cloneable"), (0, .class_ 1), (0, u "java/lang/Object"), (0, .class_ 3)] 3

/-- java/lang/Cloneable -/
def k3 : Class := { plain "java/lang/Cloneable" (some 0) with
  accessFlags := 1537
  interfaces := #[]
  cf := some (fileOf pool3 2 #[] #[] 1537 4 #[] #[])
  fields := #[]
  methods := #[]
  instanceTypes := #[]
  staticTypes := #[]
  resolved := Array.replicate 8 none
  statics := none }

def pool4 : Array CpInfo := pool [(1, u "java/io/Serializable"), (0, .class_ 1), (0, u "java/lang/Object"), (0, .class_ 3)] 3

/-- java/io/Serializable -/
def k4 : Class := { plain "java/io/Serializable" (some 0) with
  accessFlags := 1537
  interfaces := #[]
  cf := some (fileOf pool4 2 #[] #[] 1537 4 #[] #[])
  fields := #[]
  methods := #[]
  instanceTypes := #[]
  staticTypes := #[]
  resolved := Array.replicate 8 none
  statics := none }

/-- the primitive byte -/
def k5 : Class := { plain "byte" none with kind := .primitive 'B', accessFlags := 0x411 }
/-- [B -/
def k6 : Class := { plain "[B" (some 0) with kind := .array 5 .byte, interfaces := #[3, 4], accessFlags := 1041 }

/-- the primitive int -/
def k7 : Class := { plain "int" none with kind := .primitive 'I', accessFlags := 0x411 }
/-- [I -/
def k8 : Class := { plain "[I" (some 0) with kind := .array 7 .int, interfaces := #[3, 4], accessFlags := 1041 }

def heap : Heap := #[]
def classes : Array Class := #[k0, k1, k2, k3, k4, k5, k6, k7, k8]
def interned : List (Array UInt16 × Addr) := []
def slotsUsed : Nat := 0
def theMethod : MethodId := ⟨1, 2⟩
def args0 : Array Value := #[.int 65, .int 5]
def aboutOver (below : List Frame) : State where
  vm := { classes := classes, interned := interned.toArray }
  heap := heap
  slotsUsed := slotsUsed
  threads := #[{ frames := .invoking theMethod args0 :: below }]
def below0 : List Frame := [.native { method := ⟨0, 0⟩, args := #[] }]
def about1 : State := aboutOver below0
def p0 : Program := .bare "" "" ""
def e0 : Env := launch0.env 0 0 0
theorem w_frames : about1.frames = Frame.invoking theMethod args0 :: below0 := rfl
set_option maxRecDepth 65536 in
theorem w_args : argsFit about1.vm theMethod args0 = true := by decide +kernel
set_option maxRecDepth 65536 in
theorem w_heap : heapFits about1 = true := by decide +kernel
set_option maxRecDepth 65536 in
theorem w_runnable : about1.curStatus? = some .runnable := by decide +kernel
set_option maxRecDepth 65536 in
theorem w_alone : about1.alone = true := by decide +kernel
set_option maxRecDepth 65536 in
theorem w_named : about1.methodNamed? x = some theMethod := by decide +kernel
set_option maxRecDepth 65536 in
theorem w_hears : about1.hears theMethod below0 = true := by decide +kernel
set_option maxRecDepth 65536 in
theorem w_ripe : about1.ripe theMethod args0 below0 = true := by decide +kernel
theorem w_running : about1.status = .running := rfl
set_option maxRecDepth 65536 in
theorem w_room : about1.hasRoom e0.platform room_1 = true :=
  launch0.hasRoom_least _ room_1 (by decide +kernel) (by decide +kernel) (by decide +kernel) (by decide +kernel) (by decide +kernel) (by decide +kernel)
theorem allAtoms_all (ts : List Jvm.Cond) (a : Array Jvm.Value) (st : Jvm.State) : (allAtoms ts).before a st = ts.all (fun c => c.before a st) := by
  induction ts with
  | nil => rfl
  | cons c t ih =>
    show (Jvm.Cond.and c (allAtoms t)).before a st = _
    rw [Jvm.Cond.before_and, ih, List.all_cons]
def words1 : List Jvm.Cond := Jvm.Cond.code x code maxLocals ret :: tables_1
/-- a 'code' word, met by the world's own term for the bytes: nothing is compared byte by byte -/
theorem code_word {y : MethodName} {bytes : ByteArray} {mx : Nat} {rt : Option FieldType} {a : Array Value} {s : State} {m : MethodId} {meth : Method} {c : Code} (h1 : s.methodNamed? y = some m) (h2 : s.vm.method? m = some meth) (h3 : meth.code = some c) (h4 : c.code = bytes)
    (h5 : (c.maxLocals == mx && c.exceptionTable.isEmpty && decide (c.maxStack ≤ mostOperands) && decide (meth.sig.returnType = rt) && !meth.locks && decide (parseMethodDescriptor y.desc = some meth.sig)) = true) : (Jvm.Cond.code y bytes mx rt).before a s = true := by
  simp only [Bool.and_eq_true, beq_iff_eq, Bool.not_eq_true', decide_eq_true_eq] at h5
  obtain ⟨⟨⟨⟨⟨g1, g2⟩, g3⟩, g4⟩, g5⟩, g6⟩ := h5
  simp [Cond.before, Cond.holds, Cond.value, h1, h2, h3, h4, g1, g2, g3, g4, g5, g6]
def isCode : Jvm.Cond → Bool
  | .code _ _ _ _ => true
  | _ => false
theorem all_split {L : List Jvm.Cond} {P : Jvm.Cond → Bool} (h1 : L.all (fun c => isCode c || P c) = true) (h2 : ∀ c ∈ L.filter isCode, P c = true) : L.all P = true := by
  refine List.all_eq_true.mpr fun c hc => ?_
  have h := List.all_eq_true.mp h1 c hc
  rcases Bool.eq_false_or_eq_true (isCode c) with hi | hi
  · exact h2 c (List.mem_filter.mpr ⟨hc, hi⟩)
  · simpa [hi] using h
set_option maxRecDepth 65536 in
theorem w_c0 : (Jvm.Cond.code x code maxLocals ret).before args0 about1 = true := code_word (m := ⟨1, 2⟩) (meth := k1m2) (c := k1c2) (by decide +kernel) rfl rfl rfl (by decide +kernel)
set_option maxRecDepth 65536 in
theorem w_c1 : (Jvm.Cond.code ({ cls := "com/example/hornbeam/hornbeam/model/XmlCharacters", name := "isCharacter", desc := "(I)Z" } : Jvm.MethodName) prog_267_method_2_code (1 : Nat) (Option.some Jvm.ClassFile.FieldType.boolean)).before args0 about1 = true := code_word (m := ⟨2, 1⟩) (meth := k2m1) (c := k2c1) (by decide +kernel) rfl rfl rfl (by decide +kernel)
set_option maxRecDepth 65536 in
theorem w_c2 : (Jvm.Cond.code ({ cls := "com/example/hornbeam/hornbeam/model/XmlCharactersIsCharacterPinLaw", name := "reference", desc := "(I)Z" } : Jvm.MethodName) method_2_code (1 : Nat) (Option.some Jvm.ClassFile.FieldType.boolean)).before args0 about1 = true := code_word (m := ⟨1, 1⟩) (meth := k1m1) (c := k1c1) (by decide +kernel) rfl rfl rfl (by decide +kernel)
def codes1 : List Jvm.Cond := [Jvm.Cond.code x code maxLocals ret, Jvm.Cond.code ({ cls := "com/example/hornbeam/hornbeam/model/XmlCharacters", name := "isCharacter", desc := "(I)Z" } : Jvm.MethodName) prog_267_method_2_code (1 : Nat) (Option.some Jvm.ClassFile.FieldType.boolean), Jvm.Cond.code ({ cls := "com/example/hornbeam/hornbeam/model/XmlCharactersIsCharacterPinLaw", name := "reference", desc := "(I)Z" } : Jvm.MethodName) method_2_code (1 : Nat) (Option.some Jvm.ClassFile.FieldType.boolean)]
set_option maxRecDepth 65536 in
theorem codes_eq : words1.filter isCode = codes1 := rfl
theorem w_codes : ∀ c ∈ words1.filter isCode, c.before args0 about1 = true := by
  rw [codes_eq]
  intro c hc
  simp only [codes1, List.mem_cons, List.not_mem_nil, or_false] at hc
  rcases hc with rfl | rfl | rfl
  · exact w_c0
  · exact w_c1
  · exact w_c2
set_option maxRecDepth 65536 in
theorem w_t1 : (words1.take 24).all (fun c => isCode c || c.before args0 about1) = true := by decide +kernel
set_option maxRecDepth 65536 in
theorem w_t2 : (words1.drop 24).all (fun c => isCode c || c.before args0 about1) = true := by decide +kernel
theorem w_tables : (allAtoms (Jvm.Cond.code x code maxLocals ret :: tables_1)).before args0 about1 = true := by
  rw [allAtoms_all]
  show words1.all (fun c => c.before args0 about1) = true
  refine all_split ?_ w_codes
  rw [← List.take_append_drop 24 words1, List.all_append, w_t1, w_t2]
  rfl
set_option maxRecDepth 65536 in
theorem w_case : (Jvm.Cond.and given_1 narrow_1).before args0 about1 = true := by decide +kernel
theorem w_applies : (headSpec (Jvm.Cond.code x code maxLocals ret :: tables_1) room_1).applies x e0.platform about1 = true :=
  (Spec.applies_iff w_frames).mpr ⟨w_running, w_runnable, w_alone, w_named, w_hears, w_ripe, w_room, w_tables⟩
theorem atStart : AtStart classFile x code maxLocals ret World_1 tables_1 room_1 Calls_1 rest_1 Pre_1 launch0 p0 e0 about1 theMethod args0 below0 :=
  ⟨lists_1, trivial, launch0.admits_env _ _ _, launch0.least_env, fairChoices_fair.cas, fairChoices_fair.clock, w_frames, w_args, w_heap, w_applies, trivial, trivial, w_case⟩
end start1
theorem witness_1 : WitnessClaimed_1 := ⟨start1.p0, start1.e0, start1.about1, start1.theMethod, start1.args0, start1.below0, start1.atStart⟩
end Jvm.Pilot.@@N@@
