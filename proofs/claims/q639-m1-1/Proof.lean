import JvmDerived
import JvmDerived.Pilot.@@N@@Statement
import JvmDerived.Pilot.@@N@@Code
set_option linter.unusedVariables false
set_option linter.unusedSimpArgs false
@@BLOCK:NumsL.lean.txt@@
@@BLOCK:Masks.lean.txt@@
namespace Jvm.Pilot.@@N@@
open Jvm Jvm.ClassFile Sem Op Lib Jvm.Free Jvm.Stand Jvm.LawKit Jvm.RoadKit Bundle Jvm.Pilot.@@N@@.Jvm.D

/-! A. the goal of a walk, said of the state where it stands: from here the body ends as Q says -/
def own_End (p : Program) (e : Env) (below : List Frame) (s : State) (Q : Option Value → Heap → List Loc → Prop) (k n : Nat) (S : State) : Prop :=
  ∃ s₂ o, Steps p.tables e below S s₂ ∧ s₂.status = .running ∧ Ended s₂ below o ∧ ∃ v L, o = .returned v ∧ Q v s₂.heap L ∧ FrameEnd s o s₂ L k n
section OwnWalk
variable {p : Program} {l : Launch} {e : Env} {R : Room} {s : State} {m : MethodId} {args : Array Value} {below : List Frame} {meth : Method} {c : Code} {T : State} {locs : List Loc} {cells slots : Nat} {Z : State} {a0 : Array Value} {h h' : Heap} {Q : Option Value → Heap → List Loc → Prop} {k n : Nat}
theorem own_go {S S' : State} (f : ∀ t, Steps p.tables e below S' t → Steps p.tables e below S t) (g : own_End p e below s Q k n S') : own_End p e below s Q k n S := by
  obtain ⟨t, o, h1, r⟩ := g
  exact ⟨t, o, f t h1, r⟩
theorem own_cast {g g' : JFrame} (q : g = g') (k' : own_End p e below s Q k n (T.setTop g')) : own_End p e below s Q k n (T.setTop g) := q ▸ k'
theorem own_retN (X : Stand p l e R s m args below meth c T locs cells slots) (hx : p.tables.exec = Jvm.exec) {pc : Nat} {Ls : Array Slot} {z z' : Int32} {t : FieldType} {rest : List Value} (hret : meth.sig.returnType = some t) (hlk : meth.locks = false) (ht : t = .boolean ∨ t = .byte ∨ t = .char ∨ t = .short)
    (hd : decode c.code pc = .ok (.ireturn, 1)) (hz : nar t z = z') (hc : cells ≤ k) (hn : slots ≤ n) (hQ : Q (some (.int z')) T.heap locs) : own_End p e below s Q k n (T.setTop (mkF m pc Ls (.int z :: rest))) := by
  obtain ⟨fs, hr, hrun, hended, hW, hsame⟩ := X.leave (v := some (.int z')) (fun q => by rw [hret] at q; cases q) hlk
  subst hz
  exact ⟨_, _, retN X hx hret ht hd hr, hrun, hended, _, _, rfl, hQ, ⟨_, rfl⟩, hW, hsame.mono hc hn⟩
theorem own_retI (X : Stand p l e R s m args below meth c T locs cells slots) (hx : p.tables.exec = Jvm.exec) {pc : Nat} {Ls : Array Slot} {z : Int32} {rest : List Value} (hret : meth.sig.returnType = some .int) (hlk : meth.locks = false)
    (hd : decode c.code pc = .ok (.ireturn, 1)) (hc : cells ≤ k) (hn : slots ≤ n) (hQ : Q (some (.int z)) T.heap locs) : own_End p e below s Q k n (T.setTop (mkF m pc Ls (.int z :: rest))) := by
  obtain ⟨fs, hr, hrun, hended, hW, hsame⟩ := X.leave (v := some (.int z)) (fun q => by rw [hret] at q; cases q) hlk
  exact ⟨_, _, retOut X hx hret rfl (Or.inl ⟨rfl, Or.inl rfl, _, rfl⟩) hd hr, hrun, hended, _, _, rfl, hQ, ⟨_, rfl⟩, hW, hsame.mono hc hn⟩
theorem own_retJ (X : Stand p l e R s m args below meth c T locs cells slots) (hx : p.tables.exec = Jvm.exec) {pc : Nat} {Ls : Array Slot} {z : Int64} {rest : List Value} (hret : meth.sig.returnType = some .long) (hlk : meth.locks = false)
    (hd : decode c.code pc = .ok (.lreturn, 1)) (hc : cells ≤ k) (hn : slots ≤ n) (hQ : Q (some (.long z)) T.heap locs) : own_End p e below s Q k n (T.setTop (mkF m pc Ls (.long z :: rest))) := by
  obtain ⟨fs, hr, hrun, hended, hW, hsame⟩ := X.leave (v := some (.long z)) (fun q => by rw [hret] at q; cases q) hlk
  exact ⟨_, _, retOut X hx hret rfl (Or.inr (Or.inl ⟨rfl, rfl, _, rfl⟩)) hd hr, hrun, hended, _, _, rfl, hQ, ⟨_, rfl⟩, hW, hsame.mono hc hn⟩
theorem own_retV (X : Stand p l e R s m args below meth c T locs cells slots) (hx : p.tables.exec = Jvm.exec) {pc : Nat} {Ls : Array Slot} (hret : meth.sig.returnType = none) (hlk : meth.locks = false)
    (hd : decode c.code pc = .ok (.return_, 1)) (hc : cells ≤ k) (hn : slots ≤ n) (hQ : Q none T.heap locs) : own_End p e below s Q k n (T.setTop (mkF m pc Ls [])) := by
  obtain ⟨fs, hr, hrun, hended, hW, hsame⟩ := X.leave (v := none) (fun _ => rfl) hlk
  exact ⟨_, _, X.returnOut hx hret hd hr, hrun, hended, _, _, rfl, hQ, ⟨_, rfl⟩, hW, hsame.mono hc hn⟩

/-! B. arrays by the list of their components -/
def own_L (Z : State) (h : Heap) (a : Addr) (ty : FieldType) (vs : List Value) : Prop := ∃ cl : Cell, Arr Z h a cl ty ∧ cl.slots.toList = vs
variable {a b : Addr} {ty : FieldType} {vs : List Value} {sl : Nat} {v w : Value} {ws : List Addr}
theorem own_L.lt (F : own_L Z h a ty vs) : a < h.size := by obtain ⟨_, A, _⟩ := F; exact A.lt
theorem own_L.ext (F : own_L Z h a ty vs) (E : Ext h h') : own_L Z h' a ty vs := by obtain ⟨c, A, r⟩ := F; exact ⟨c, A.ext E, r⟩
theorem own_L.other (F : own_L Z h b ty vs) (W : Wr h h' a sl v) (q : b ≠ a) : own_L Z h' b ty vs := by obtain ⟨c, A, r⟩ := F; exact ⟨c, A.other W q, r⟩
theorem own_L.keep (F : own_L Z h a ty vs) (K : Keep h h' ws) (q : a ∉ ws) : own_L Z h' a ty vs := by obtain ⟨c, A, r⟩ := F; exact ⟨c, ⟨K.2.1 a c A.1 q, A.2⟩, r⟩
theorem own_L.same (F : own_L Z h a ty vs) (W : Wr h h' a sl v) : own_L Z h' a ty (vs.set sl v) := by
  obtain ⟨c, A, r⟩ := F
  refine ⟨_, A.same W, ?_⟩
  subst r
  simp [Cell.setSlot]
theorem own_L.eq {vs' : List Value} (F : own_L Z h a ty vs) (q : vs = vs') : own_L Z h a ty vs' := q ▸ F
theorem own_newL (X : Stand p l e R s m args below meth c T locs cells slots) (hx : p.tables.exec = Jvm.exec) (hZ : Z.Warmed39 s.vm) {aty : ArrayType} (w : (Cond.arrayClass (newarray.typeOf aty)).before a0 Z = true) (eT : T.heap = h) {pc : Nat} {Ls : Array Slot} {nn : Int32} {rest : List Value} (hd : decode c.code pc = .ok (.newarray aty, 2))
    (hn : ¬ nn < 0) {len cap : Nat} (hlen : nn.toNatClampNeg = len) (hcap : len ≤ cap) (hb : cap * 8 ≤ 536870912) (hc : cells + 1 ≤ R.cells) (hl : slots + cap ≤ R.slots) :
    ∃ T' h' b, Stand p l e R s m args below meth c T' locs (cells + 1) (slots + cap) ∧ T'.heap = h' ∧ Ext h h' ∧ b = h.size ∧ own_L Z h' b (newarray.typeOf aty) (List.replicate len (defaultValue (newarray.typeOf aty))) ∧
      ∀ t, Steps p.tables e below (T'.setTop (mkF m (pc + 2) Ls (.ref b :: rest))) t → Steps p.tables e below (T.setTop (mkF m pc Ls (.int nn :: rest))) t := by
  obtain ⟨T', h', cA, X', e', E, A, st⟩ := newP X hx hZ w eT (g := mkF m pc Ls (.int nn :: rest)) rfl hd rfl hn (cap := cap) (by rw [hlen]; exact hcap) hb hc hl
  exact ⟨T', h', h.size, X', e', E, rfl, ⟨_, A, by simp [newA, hlen]⟩, st⟩
theorem own_in {cl : Cell} {i : Nat} {j : Int32} (hs : cl.slots.toList = vs) (hj : ¬ j < 0) (hi : j.toNatClampNeg = i) (hl : i < vs.length) : ¬ (j < 0 ∨ cl.slots.size ≤ j.toNatClampNeg) := by
  subst hs hi
  simp only [Array.length_toList] at hl
  rintro (q | q)
  · exact hj q
  · omega
theorem own_at {cl : Cell} {i : Nat} {j : Int32} (hs : cl.slots.toList = vs) (hi : j.toNatClampNeg = i) (hv : vs[i]? = some v) : cl.slots[j.toNatClampNeg]? = some v := by
  subst hs hi
  simpa using hv
theorem own_len (F : own_L Z h a ty vs) {z : Int32} (hz : vs.length.toInt32 = z) (X : Stand p l e R s m args below meth c T locs cells slots) (hx : p.tables.exec = Jvm.exec) (hZ : Z.Warmed39 s.vm) (eT : T.heap = h) {pc : Nat} {Ls : Array Slot} {rest : List Value} (hd : decode c.code pc = .ok (.arraylength, 1)) :
    ∀ t, Steps p.tables e below (T.setTop (mkF m (pc + 1) Ls (.int z :: rest))) t → Steps p.tables e below (T.setTop (mkF m pc Ls (.ref a :: rest))) t := by
  obtain ⟨cl, A, r⟩ := F
  intro t k
  refine X.arraylength hx (by rw [eT]; exact A.1) (State.isArrayOf_alike hZ.alike A.2.1) (g := mkF m pc Ls (.ref a :: rest)) rfl rfl hd t ?_
  have q : cl.slots.size.toInt32 = z := by rw [← hz, ← r, Array.length_toList]
  rw [q]; exact k
theorem own_iaload (F : own_L Z h a .int vs) (X : Stand p l e R s m args below meth c T locs cells slots) (hx : p.tables.exec = Jvm.exec) (hZ : Z.Warmed39 s.vm) (eT : T.heap = h) {pc i : Nat} {Ls : Array Slot} {j : Int32} {rest : List Value} (hj : ¬ j < 0) (hi : j.toNatClampNeg = i) (hl : i < vs.length) (hv : vs[i]? = some v) (hd : decode c.code pc = .ok (.iaload, 1)) :
    ∀ t, Steps p.tables e below (T.setTop (mkF m (pc + 1) Ls (v :: rest))) t → Steps p.tables e below (T.setTop (mkF m pc Ls (.int j :: .ref a :: rest))) t := by
  obtain ⟨cl, A, r⟩ := F
  exact fun t k => X.iaload hx (j := j) (v := v) (by rw [eT]; exact A.1) (State.isArrayOf_alike hZ.alike A.2.1) A.2.2 (own_in r hj hi hl) (own_at r hi hv) (g := mkF m pc Ls (.int j :: .ref a :: rest)) rfl rfl hd t k
theorem own_baload (F : own_L Z h a .byte vs) (X : Stand p l e R s m args below meth c T locs cells slots) (hx : p.tables.exec = Jvm.exec) (hZ : Z.Warmed39 s.vm) (eT : T.heap = h) {pc i : Nat} {Ls : Array Slot} {j : Int32} {rest : List Value} (hj : ¬ j < 0) (hi : j.toNatClampNeg = i) (hl : i < vs.length) (hv : vs[i]? = some v) (hd : decode c.code pc = .ok (.baload, 1)) :
    ∀ t, Steps p.tables e below (T.setTop (mkF m (pc + 1) Ls (v :: rest))) t → Steps p.tables e below (T.setTop (mkF m pc Ls (.int j :: .ref a :: rest))) t := by
  obtain ⟨cl, A, r⟩ := F
  exact fun t k => X.baloadBytes hx (j := j) (v := v) (by rw [eT]; exact A.1) (State.isArrayOf_alike hZ.alike A.2.1) A.2.2 (own_in r hj hi hl) (own_at r hi hv) (g := mkF m pc Ls (.int j :: .ref a :: rest)) rfl rfl hd t k
theorem own_caload (F : own_L Z h a .char vs) (X : Stand p l e R s m args below meth c T locs cells slots) (hx : p.tables.exec = Jvm.exec) (hZ : Z.Warmed39 s.vm) (eT : T.heap = h) {pc i : Nat} {Ls : Array Slot} {j : Int32} {rest : List Value} (hj : ¬ j < 0) (hi : j.toNatClampNeg = i) (hl : i < vs.length) (hv : vs[i]? = some v) (hd : decode c.code pc = .ok (.caload, 1)) :
    ∀ t, Steps p.tables e below (T.setTop (mkF m (pc + 1) Ls (v :: rest))) t → Steps p.tables e below (T.setTop (mkF m pc Ls (.int j :: .ref a :: rest))) t := by
  obtain ⟨cl, A, r⟩ := F
  exact fun t k => X.caload hx (j := j) (v := v) (by rw [eT]; exact A.1) (State.isArrayOf_alike hZ.alike A.2.1) A.2.2 (own_in r hj hi hl) (own_at r hi hv) (g := mkF m pc Ls (.int j :: .ref a :: rest)) rfl rfl hd t k
theorem own_laload (F : own_L Z h a .long vs) (X : Stand p l e R s m args below meth c T locs cells slots) (hx : p.tables.exec = Jvm.exec) (hZ : Z.Warmed39 s.vm) (eT : T.heap = h) {pc i : Nat} {Ls : Array Slot} {j : Int32} {rest : List Value} (hj : ¬ j < 0) (hi : j.toNatClampNeg = i) (hl : i < vs.length) (hv : vs[i]? = some v) (hd : decode c.code pc = .ok (.laload, 1)) :
    ∀ t, Steps p.tables e below (T.setTop (mkF m (pc + 1) Ls (v :: rest))) t → Steps p.tables e below (T.setTop (mkF m pc Ls (.int j :: .ref a :: rest))) t := by
  obtain ⟨cl, A, r⟩ := F
  exact fun t k => X.laload hx (j := j) (v := v) (by rw [eT]; exact A.1) (State.isArrayOf_alike hZ.alike A.2.1) A.2.2 (own_in r hj hi hl) (own_at r hi hv) (g := mkF m pc Ls (.int j :: .ref a :: rest)) rfl rfl hd t k
theorem own_iastore (F : own_L Z h a .int vs) (X : Stand p l e R s m args below meth c T locs cells slots) (hx : p.tables.exec = Jvm.exec) (hZ : Z.Warmed39 s.vm) (eT : T.heap = h) {pc i : Nat} {Ls : Array Slot} {j x : Int32} {rest : List Value} (hj : ¬ j < 0) (hi : j.toNatClampNeg = i) (hl : i < vs.length) (hd : decode c.code pc = .ok (.iastore, 1)) :
    ∃ T' h', Stand p l e R s m args below meth c T' (locs ++ [⟨a, i⟩]) cells slots ∧ T'.heap = h' ∧ Wr h h' a i (.int x) ∧ own_L Z h' a .int (vs.set i (.int x)) ∧
      ∀ t, Steps p.tables e below (T'.setTop (mkF m (pc + 1) Ls rest)) t → Steps p.tables e below (T.setTop (mkF m pc Ls (.int x :: .int j :: .ref a :: rest))) t := by
  have F0 := F
  obtain ⟨cl, A, r⟩ := F
  obtain ⟨T', h', X', e', W, st⟩ := stI X hx hZ eT A (j := j) (own_in r hj hi hl) (g := mkF m pc Ls (.int x :: .int j :: .ref a :: rest)) rfl rfl hd
  subst hi
  exact ⟨T', h', X', e', W, F0.same W, st⟩
theorem own_bastore (F : own_L Z h a .byte vs) (X : Stand p l e R s m args below meth c T locs cells slots) (hx : p.tables.exec = Jvm.exec) (hZ : Z.Warmed39 s.vm) (eT : T.heap = h) {pc i : Nat} {Ls : Array Slot} {j x : Int32} {rest : List Value} (hj : ¬ j < 0) (hi : j.toNatClampNeg = i) (hl : i < vs.length) (hd : decode c.code pc = .ok (.bastore, 1)) :
    ∃ T' h', Stand p l e R s m args below meth c T' (locs ++ [⟨a, i⟩]) cells slots ∧ T'.heap = h' ∧ Wr h h' a i (.int (nar .byte x)) ∧ own_L Z h' a .byte (vs.set i (.int (nar .byte x))) ∧
      ∀ t, Steps p.tables e below (T'.setTop (mkF m (pc + 1) Ls rest)) t → Steps p.tables e below (T.setTop (mkF m pc Ls (.int x :: .int j :: .ref a :: rest))) t := by
  have F0 := F
  obtain ⟨cl, A, r⟩ := F
  obtain ⟨T', h', X', e', W, st⟩ := stB X hx hZ eT A (j := j) (own_in r hj hi hl) (g := mkF m pc Ls (.int x :: .int j :: .ref a :: rest)) rfl rfl hd
  subst hi
  exact ⟨T', h', X', e', W, F0.same W, st⟩
theorem own_castore (F : own_L Z h a .char vs) (X : Stand p l e R s m args below meth c T locs cells slots) (hx : p.tables.exec = Jvm.exec) (hZ : Z.Warmed39 s.vm) (eT : T.heap = h) {pc i : Nat} {Ls : Array Slot} {j x : Int32} {rest : List Value} (hj : ¬ j < 0) (hi : j.toNatClampNeg = i) (hl : i < vs.length) (hd : decode c.code pc = .ok (.castore, 1)) :
    ∃ T' h', Stand p l e R s m args below meth c T' (locs ++ [⟨a, i⟩]) cells slots ∧ T'.heap = h' ∧ Wr h h' a i (.int (nar .char x)) ∧ own_L Z h' a .char (vs.set i (.int (nar .char x))) ∧
      ∀ t, Steps p.tables e below (T'.setTop (mkF m (pc + 1) Ls rest)) t → Steps p.tables e below (T.setTop (mkF m pc Ls (.int x :: .int j :: .ref a :: rest))) t := by
  have F0 := F
  obtain ⟨cl, A, r⟩ := F
  obtain ⟨T', h', X', e', W, st⟩ := stC X hx hZ eT A (j := j) (own_in r hj hi hl) (g := mkF m pc Ls (.int x :: .int j :: .ref a :: rest)) rfl rfl hd
  subst hi
  exact ⟨T', h', X', e', W, F0.same W, st⟩
theorem own_lastore (F : own_L Z h a .long vs) (X : Stand p l e R s m args below meth c T locs cells slots) (hx : p.tables.exec = Jvm.exec) (hZ : Z.Warmed39 s.vm) (eT : T.heap = h) {pc i : Nat} {Ls : Array Slot} {j : Int32} {x : Int64} {rest : List Value} (hj : ¬ j < 0) (hi : j.toNatClampNeg = i) (hl : i < vs.length) (hd : decode c.code pc = .ok (.lastore, 1)) :
    ∃ T' h', Stand p l e R s m args below meth c T' (locs ++ [⟨a, i⟩]) cells slots ∧ T'.heap = h' ∧ Wr h h' a i (.long x) ∧ own_L Z h' a .long (vs.set i (.long x)) ∧
      ∀ t, Steps p.tables e below (T'.setTop (mkF m (pc + 1) Ls rest)) t → Steps p.tables e below (T.setTop (mkF m pc Ls (.long x :: .int j :: .ref a :: rest))) t := by
  have F0 := F
  obtain ⟨cl, A, r⟩ := F
  obtain ⟨T', h', X', e', W, st⟩ := stJ X hx hZ eT A (j := j) (own_in r hj hi hl) (g := mkF m pc Ls (.long x :: .int j :: .ref a :: rest)) rfl rfl hd
  subst hi
  exact ⟨T', h', X', e', W, F0.same W, st⟩

theorem own_nneg {j : Int32} (q : 0 ≤ j.toInt) : ¬ j < 0 := by
  rw [Int32.lt_iff_toInt_lt]; have e0 : (0 : Int32).toInt = 0 := rfl
  omega
theorem own_ltn {j : Int32} {i : Nat} (q : 0 ≤ j.toInt) (r : j.toInt < i) : j.toNatClampNeg < i := by
  simp only [Int32.toNatClampNeg]; omega
theorem own_mapAt {xs : List Int32} {i : Nat} (q : i < (List.map Value.int xs).length) : ∃ v : Int32, (List.map Value.int xs)[i]? = some (.int v) := by
  rw [List.length_map] at q
  exact ⟨xs[i], by simp [q]⟩
theorem own_rem {x y : Int32} {i : Int} (hx : 0 ≤ x.toInt) (hy : y.toInt = i) (hi : 0 < i) : 0 ≤ (x % y).toInt ∧ (x % y).toInt < i := by
  rw [Jvm.Kit.i32_rem_nonneg hx, hy]
  exact ⟨Int.emod_nonneg _ (by omega), Int.emod_lt_of_pos _ hi⟩
theorem own_lenI {xs : List Int32} : (List.map Value.int xs).length.toInt32 = Int32.ofNat xs.length := by
  have h : (List.map Value.int xs).length = xs.length := List.length_map ..
  exact congrArg Nat.toInt32 h
theorem own_lenC {α : Type} {xs : List α} {f : α → Value} {q : Nat} (h : xs.length = q) : (List.map f xs).length.toInt32 = q.toInt32 := by
  rw [List.length_map, h]
theorem own_eqI (x y : Int32) : x = y ↔ x.toInt = y.toInt := Int32.toInt_inj.symm
theorem own_or {α : Type} {P P' : Prop} [Decidable P] [Decidable P'] {a b : α} : (if P then a else if P' then a else b) = if P ∨ P' then a else b := by
  by_cases h1 : P <;> by_cases h2 : P' <;> simp [h1, h2]
theorem own_rng {α : Type} {P P' : Prop} [Decidable P] [Decidable P'] {a b : α} : (if P then a else if P' then a else b) = if ¬ P ∧ ¬ P' then b else a := by
  by_cases h1 : P <;> by_cases h2 : P' <;> simp [h1, h2]

theorem own_flip {P P' : Prop} [Decidable P] [Decidable P'] {a b : Int32} (h : P ↔ ¬ P') : (if P then a else b) = if P' then b else a := by
  by_cases h2 : P'
  · rw [if_pos h2, if_neg (fun q => h.mp q h2)]
  · rw [if_neg h2, if_pos (h.mpr h2)]

/-! C. a call by the callee's contract -/
/-- the contract of a body: started with these arguments on this heap it ends as Q says -/
abbrev own_C (l : Launch) (Z : State) (y : MethodName) (bytes : ByteArray) (maxL : Nat) (ret : Option FieldType) (rm : Room) (as : Array Value) (h0 : Heap) (Q : Option Value → Heap → List Loc → Prop) : Prop :=
  MetFree l y (head1 [Cond.code y bytes maxL ret] rm) (fun a U => a = as ∧ Z.Warmed39 U.vm ∧ U.heap = h0) (fun _ _ _ _ _ => True) (fun _ U o U' => ∃ v L, o = .returned v ∧ Q v U'.heap L ∧ FrameEnd U o U' L rm.cells rm.slots)
/-- a pure body: it returns w, and nothing has moved -/
abbrev own_P (h0 : Heap) (w : Option Value) : Option Value → Heap → List Loc → Prop := fun v h L => v = w ∧ L = [] ∧ h = h0
theorem own_callS (X : Stand p l e R s m args below meth c T locs cells slots) (hx : p.tables.exec = Jvm.exec) (hZ : Z.Warmed39 s.vm) {own : String} {index : Nat} {y : MethodName} {bytes : ByteArray} {maxL : Nat} {ret : Option FieldType}
    (hown : s.vm.findClass own = some m.cls) (w1 : (Cond.methodLink own index y).before a0 Z = true) (w2 : (Cond.static y).before a0 Z = true) (w3 : (Cond.initialized y.cls).before a0 Z = true) (w4 : (Cond.code y bytes maxL ret).before a0 Z = true)
    {rm : Room} {as : Array Value} (hM : own_C l Z y bytes maxL ret rm as h Q) (eT : T.heap = h) {pc : Nat} {Ls : Array Slot} {argsL rest : List Value} (hd : decode c.code pc = .ok (.invokestatic index, 3))
    {ps : List FieldType} {rt : Option FieldType} (hpd : parseMethodDescriptor y.desc = some ⟨ps, rt⟩) (W : Nat) (hsize : Ls.size = c.maxLocals) (hy : y.cls ≠ "java/lang/invoke/MethodHandle" ∧ y.cls ≠ "java/lang/invoke/VarHandle") (hl : argsL.length = ps.length) (has : argsL.toArray = as)
    {st : List Value} (hst : st = argsL.reverse ++ rest) (hW : (rest.map fun v => v.category).sum ≤ W) (hf : rm.frames + 1 ≤ R.frames) (hlo : W + (maxL + 11) + rm.locals ≤ R.locals) (hc : cells + rm.cells ≤ R.cells) (hs : slots + rm.slots ≤ R.slots) :
    ∃ v T' L, Stand p l e R s m args below meth c T' (locs ++ L) (cells + rm.cells) (slots + rm.slots) ∧ Q v T'.heap L ∧
      ∀ t, Steps p.tables e below (T'.setTop (mkF m (pc + 3) Ls (v.toList ++ rest))) t → Steps p.tables e below (T.setTop (mkF m pc Ls st)) t := by
  obtain ⟨v, _, ⟨T1, L1, k1, n1⟩, -, X1, ⟨L, hQ, l1, y1, z1⟩, st1⟩ := Jvm.LawKit.callS X hx (y := y) hown (mvT hZ w1) (mvT hZ w2) (mvT hZ w3) (mvT hZ w4) hy (backOf (W := W) hM hZ w4 w3 hf hlo) (g := mkF m pc Ls st) rfl hsize (argsL := argsL) (rest := rest) (lenOf hpd hl) hst (by show 2 * 0 + _ ≤ _; rw [Nat.mul_zero, Nat.zero_add]; exact hW) hd (fun _ _ => ⟨has, eT, hc, hs⟩)
  dsimp only [Pt.U, Pt.locs, Pt.cells, Pt.slots] at X1 l1 y1 z1 st1 hQ
  subst l1 y1 z1
  exact ⟨v, T1, L, X1, hQ, st1⟩
/-- a static call of a pure body -/
theorem own_callP (X : Stand p l e R s m args below meth c T locs cells slots) (hx : p.tables.exec = Jvm.exec) (hZ : Z.Warmed39 s.vm) {own : String} {index : Nat} {y : MethodName} {bytes : ByteArray} {maxL : Nat} {ret : Option FieldType}
    (hown : s.vm.findClass own = some m.cls) (w1 : (Cond.methodLink own index y).before a0 Z = true) (w2 : (Cond.static y).before a0 Z = true) (w3 : (Cond.initialized y.cls).before a0 Z = true) (w4 : (Cond.code y bytes maxL ret).before a0 Z = true)
    {fr lc : Nat} {as : Array Value} {w : Option Value} (hM : own_C l Z y bytes maxL ret { frames := fr, cells := 0, slots := 0, locals := lc } as h (own_P h w)) (eT : T.heap = h) {pc : Nat} {Ls : Array Slot} {argsL rest : List Value} (hd : decode c.code pc = .ok (.invokestatic index, 3))
    {ps : List FieldType} {rt : Option FieldType} (hpd : parseMethodDescriptor y.desc = some ⟨ps, rt⟩) (W : Nat) (hsize : Ls.size = c.maxLocals) (hy : y.cls ≠ "java/lang/invoke/MethodHandle" ∧ y.cls ≠ "java/lang/invoke/VarHandle") (hl : argsL.length = ps.length) (has : argsL.toArray = as)
    {st : List Value} (hst : st = argsL.reverse ++ rest) (hW : (rest.map fun v => v.category).sum ≤ W) (hf : fr + 1 ≤ R.frames) (hlo : W + (maxL + 11) + lc ≤ R.locals) (hc : cells ≤ R.cells) (hs : slots ≤ R.slots) :
    ∃ T', Stand p l e R s m args below meth c T' locs cells slots ∧ T'.heap = h ∧
      ∀ t, Steps p.tables e below (T'.setTop (mkF m (pc + 3) Ls (w.toList ++ rest))) t → Steps p.tables e below (T.setTop (mkF m pc Ls st)) t := by
  obtain ⟨v, T', L, X', ⟨rfl, rfl, e'⟩, st'⟩ := own_callS X hx hZ hown w1 w2 w3 w4 hM eT hd hpd W hsize hy hl has hst hW hf hlo hc hs
  exact ⟨T', by simpa using X', e', st'⟩
/-- a constructor by its contract -/
theorem own_callI (X : Stand p l e R s m args below meth c T locs cells slots) (hx : p.tables.exec = Jvm.exec) (hZ : Z.Warmed39 s.vm) {own : String} {index : Nat} {y : MethodName} {bytes : ByteArray} {maxL : Nat} (hy1 : y.name = "<init>")
    (hown : s.vm.findClass own = some m.cls) (w1 : (Cond.methodLink own index y).before a0 Z = true) (w2 : (Cond.instanceMethod y).before a0 Z = true) (w3 : (Cond.initialized y.cls).before a0 Z = true) (w4 : (Cond.code y bytes maxL none).before a0 Z = true)
    {rm : Room} {as : Array Value} (hM : own_C l Z y bytes maxL none rm as h Q) (eT : T.heap = h) {pc : Nat} {Ls : Array Slot} {argsL rest : List Value} (hd : decode c.code pc = .ok (.invokespecial index, 3))
    {ps : List FieldType} {rt : Option FieldType} (hpd : parseMethodDescriptor y.desc = some ⟨ps, rt⟩) (W : Nat) (hsize : Ls.size = c.maxLocals) (hy : y.cls ≠ "java/lang/invoke/MethodHandle" ∧ y.cls ≠ "java/lang/invoke/VarHandle") (hl : argsL.length = ps.length) (has : (.ref a :: argsL).toArray = as)
    {st : List Value} (hst : st = argsL.reverse ++ .ref a :: rest) (hW : (rest.map fun v => v.category).sum ≤ W) (hf : rm.frames + 1 ≤ R.frames) (hlo : W + (maxL + 11) + rm.locals ≤ R.locals) (hc : cells + rm.cells ≤ R.cells) (hs : slots + rm.slots ≤ R.slots) :
    ∃ v T' L, Stand p l e R s m args below meth c T' (locs ++ L) (cells + rm.cells) (slots + rm.slots) ∧ Q v T'.heap L ∧
      ∀ t, Steps p.tables e below (T'.setTop (mkF m (pc + 3) Ls (v.toList ++ rest))) t → Steps p.tables e below (T.setTop (mkF m pc Ls st)) t := by
  obtain ⟨v, _, ⟨T1, L1, k1, n1⟩, -, X1, ⟨L, hQ, l1, y1, z1⟩, st1⟩ := X.specialBack hx (y := y) hy1 hown (mvT hZ w1) (mvT hZ w2) (mvT hZ w4) hy (backOf (W := W) hM hZ w4 w3 hf hlo) (g := mkF m pc Ls st) rfl hsize (Steps.refl _) (a := a) (argsL := argsL) (rest := rest) (lenOf hpd hl) hst (by show 2 * 0 + _ ≤ _; rw [Nat.mul_zero, Nat.zero_add]; exact hW) hd (fun _ _ => ⟨has, eT, hc, hs⟩)
  dsimp only [Pt.U, Pt.locs, Pt.cells, Pt.slots] at X1 l1 y1 z1 st1 hQ
  subst l1 y1 z1
  exact ⟨v, T1, L, X1, hQ, fun t k => st1.trans k⟩
/-- an instance method that the receiver's class selects, by its contract -/
theorem own_callV (X : Stand p l e R s m args below meth c T locs cells slots) (hx : p.tables.exec = Jvm.exec) (hZ : Z.Warmed39 s.vm) {own : String} {index : Nat} {y : MethodName} {bytes : ByteArray} {maxL : Nat} {ret : Option FieldType}
    (hown : s.vm.findClass own = some m.cls) (w1 : (Cond.methodLink own index y).before a0 Z = true) (wd : (Cond.declares y).before a0 Z = true) (ws' : (Cond.selects y.cls y y).before a0 Z = true) (w2 : (Cond.instanceMethod y).before a0 Z = true) (w3 : (Cond.initialized y.cls).before a0 Z = true) (w4 : (Cond.code y bytes maxL ret).before a0 Z = true)
    {rm : Room} {as : Array Value} (hM : own_C l Z y bytes maxL ret rm as h Q) (eT : T.heap = h) (hE : Exa Z h a y.cls) {pc : Nat} {Ls : Array Slot} {argsL rest : List Value} (hd : decode c.code pc = .ok (.invokevirtual index, 3))
    {ps : List FieldType} {rt : Option FieldType} (hpd : parseMethodDescriptor y.desc = some ⟨ps, rt⟩) (W : Nat) (hsize : Ls.size = c.maxLocals) (hy : y.cls ≠ "java/lang/invoke/MethodHandle" ∧ y.cls ≠ "java/lang/invoke/VarHandle") (hl : argsL.length = ps.length) (has : (.ref a :: argsL).toArray = as)
    {st : List Value} (hst : st = argsL.reverse ++ .ref a :: rest) (hW : (rest.map fun v => v.category).sum ≤ W) (hf : rm.frames + 1 ≤ R.frames) (hlo : W + (maxL + 11) + rm.locals ≤ R.locals) (hc : cells + rm.cells ≤ R.cells) (hs : slots + rm.slots ≤ R.slots) :
    ∃ v T' L, Stand p l e R s m args below meth c T' (locs ++ L) (cells + rm.cells) (slots + rm.slots) ∧ Q v T'.heap L ∧
      ∀ t, Steps p.tables e below (T'.setTop (mkF m (pc + 3) Ls (v.toList ++ rest))) t → Steps p.tables e below (T.setTop (mkF m pc Ls st)) t := by
  obtain ⟨cq, kq, qa, qb, qc⟩ := isOf hZ eT hE
  obtain ⟨v, _, ⟨T1, L1, k1, n1⟩, -, X1, ⟨L, hQ, l1, y1, z1⟩, st1⟩ := X.virtualBack hx (y := y) (z := y) hown (mvT hZ w1) (mvT hZ wd) (notFace_of_selects (args := #[]) (mvT hZ ws')) (mvT hZ ws') (mvT hZ w2) hy (backOf (W := W) hM hZ w4 w3 hf hlo) qa qc (g := mkF m pc Ls st) rfl hsize (Steps.refl _) (argsL := argsL) (rest := rest) (lenOf hpd hl) hst (by show 2 * 0 + _ ≤ _; rw [Nat.mul_zero, Nat.zero_add]; exact hW) hd (fun _ _ => ⟨has, eT, hc, hs⟩)
  dsimp only [Pt.U, Pt.locs, Pt.cells, Pt.slots] at X1 l1 y1 z1 st1 hQ
  subst l1 y1 z1
  exact ⟨v, T1, L, X1, hQ, fun t k => st1.trans k⟩
/-- a private method by its contract -/
theorem own_callPr (X : Stand p l e R s m args below meth c T locs cells slots) (hx : p.tables.exec = Jvm.exec) (hZ : Z.Warmed39 s.vm) {own : String} {index kk : Nat} {y : MethodName} {bytes : ByteArray} {maxL : Nat} {ret : Option FieldType}
    (hown : s.vm.findClass own = some m.cls) (w1 : (Cond.methodLink own index y).before a0 Z = true) (wp : (Cond.privateMethod y).before a0 Z = true) (wi : (Cond.instantiable y.cls kk).before a0 Z = true) (w2 : (Cond.instanceMethod y).before a0 Z = true) (w3 : (Cond.initialized y.cls).before a0 Z = true) (w4 : (Cond.code y bytes maxL ret).before a0 Z = true)
    {rm : Room} {as : Array Value} (hM : own_C l Z y bytes maxL ret rm as h Q) (eT : T.heap = h) (hE : Exa Z h a y.cls) {pc : Nat} {Ls : Array Slot} {argsL rest : List Value} (hd : decode c.code pc = .ok (.invokevirtual index, 3))
    {ps : List FieldType} {rt : Option FieldType} (hpd : parseMethodDescriptor y.desc = some ⟨ps, rt⟩) (W : Nat) (hsize : Ls.size = c.maxLocals) (hy : y.cls ≠ "java/lang/invoke/MethodHandle" ∧ y.cls ≠ "java/lang/invoke/VarHandle") (hl : argsL.length = ps.length) (has : (.ref a :: argsL).toArray = as)
    {st : List Value} (hst : st = argsL.reverse ++ .ref a :: rest) (hW : (rest.map fun v => v.category).sum ≤ W) (hf : rm.frames + 1 ≤ R.frames) (hlo : W + (maxL + 11) + rm.locals ≤ R.locals) (hc : cells + rm.cells ≤ R.cells) (hs : slots + rm.slots ≤ R.slots) :
    ∃ v T' L, Stand p l e R s m args below meth c T' (locs ++ L) (cells + rm.cells) (slots + rm.slots) ∧ Q v T'.heap L ∧
      ∀ t, Steps p.tables e below (T'.setTop (mkF m (pc + 3) Ls (v.toList ++ rest))) t → Steps p.tables e below (T.setTop (mkF m pc Ls st)) t := by
  obtain ⟨cq, q1, q2⟩ := hE.cell
  have hpr : s.PrivateAt y := Cond.privateMethod_at (mvP hZ wp (args := #[]))
  have hsel : (Cond.selects y.cls y y).before args s = true := by
    obtain ⟨ci, ki, hci, hki, -, hniab, -, -⟩ := Cond.instantiable_spec (mvT (args := args) hZ wi)
    exact selects_self_of_private hci hki (Bool.or_eq_false_iff.mp hniab).1 hpr (mvT hZ w2) hy
  obtain ⟨v, _, ⟨T1, L1, k1, n1⟩, -, X1, ⟨L, hQ, l1, y1, z1⟩, st1⟩ := X.privateBack hx (y := y) hown (mvT hZ w1) (mvT hZ w2) hsel hpr (mvT hZ w4) hy (backOf (W := W) hM hZ w4 w3 hf hlo) (g := mkF m pc Ls st) rfl hsize (Steps.refl _) (a := a) (by rw [eT]; exact q1) q2 (argsL := argsL) (rest := rest) (lenOf hpd hl) hst (by show 2 * 0 + _ ≤ _; rw [Nat.mul_zero, Nat.zero_add]; exact hW) hd (fun _ _ => ⟨has, eT, hc, hs⟩)
  dsimp only [Pt.U, Pt.locs, Pt.cells, Pt.slots] at X1 l1 y1 z1 st1 hQ
  subst l1 y1 z1
  exact ⟨v, T1, L, X1, hQ, fun t k => st1.trans k⟩
end OwnWalk
theorem pd_0 : parseMethodDescriptor "(III)Z" = some ⟨[.int, .int, .int], some .boolean⟩ := by decide +kernel
theorem pd_1 : parseMethodDescriptor "(I)Z" = some ⟨[.int], some .boolean⟩ := by decide +kernel
theorem d3_0 : decode method_2_code 0 = .ok (.iload_n 0, 1) := by decide +kernel
theorem d3_1 : decode method_2_code 1 = .ok (.iload_n 1, 1) := by decide +kernel
theorem d3_2 : decode method_2_code 2 = .ok (.if_icmp .lt 12, 3) := by decide +kernel
theorem d3_5 : decode method_2_code 5 = .ok (.iload_n 0, 1) := by decide +kernel
theorem d3_6 : decode method_2_code 6 = .ok (.iload_n 2, 1) := by decide +kernel
theorem d3_7 : decode method_2_code 7 = .ok (.if_icmp .gt 7, 3) := by decide +kernel
theorem d3_10 : decode method_2_code 10 = .ok (.iconst 1, 1) := by decide +kernel
theorem d3_11 : decode method_2_code 11 = .ok (.goto 4, 3) := by decide +kernel
theorem d3_14 : decode method_2_code 14 = .ok (.iconst 0, 1) := by decide +kernel
theorem d3_15 : decode method_2_code 15 = .ok (.ireturn, 1) := by decide +kernel
def f3_0 (l0 : Int32) (l1 : Int32) (l2 : Int32) : Int32 := (if l0 < l1 then (0 : Int32) else (if l2 < l0 then (0 : Int32) else (1 : Int32)))
set_option maxRecDepth 65536 in
set_option maxHeartbeats 40000000 in
theorem w3_0 {p : Program} {l : Launch} {e : Env} {s : State} {m : MethodId} {args : Array Value} {below : List Frame} {meth : Method} {c : Code} {T0 : State} {locs : List Loc} {Z : State} {a0 : Array Value} {h0 : Heap} {Q : Option Value → Heap → List Loc → Prop}
    (X0 : Stand p l e ({ frames := 0, cells := 0, slots := 0, locals := 0 } : Room) s m args below meth c T0 locs 0 0) (hx : p.tables.exec = Jvm.exec) (hby : c.code = method_2_code) (hml : c.maxLocals = 3) (hret : meth.sig.returnType = (some .boolean)) (hlk : meth.locks = false) (hown : s.vm.findClass "com/example/parley/parley/XmlCharsIsNameStartPinLaw" = some m.cls) (hZ : Z.Warmed39 s.vm) (hw : ∀ d ∈ tables_1, d.before a0 Z = true) (e0 : T0.heap = h0)
    (l0 : Int32) (l1 : Int32) (l2 : Int32) (hQ : Q (some (.int (f3_0 l0 l1 l2))) h0 locs) : own_End p e below s Q 0 0 (T0.setTop (mkF m 0 #[.val (.int l0), .val (.int l1), .val (.int l2)] [])) := by
  unfold f3_0 at hQ
  refine own_go (S' := (T0.setTop (mkF m 1 #[.val (.int l0), .val (.int l1), .val (.int l2)] [(.int l0)]))) (fun t k => XS.iloadN X0.here hx rfl (hb hby d3_0) rfl k) ?_
  refine own_go (S' := (T0.setTop (mkF m 2 #[.val (.int l0), .val (.int l1), .val (.int l2)] [(.int l1), (.int l0)]))) (fun t k => XS.iloadN X0.here hx rfl (hb hby d3_1) rfl k) ?_
  by_cases hc2_1 : l0 < l1
  ·
    rw [if_pos hc2_1] at hQ
    refine own_go (S' := (T0.setTop (mkF m 14 #[.val (.int l0), .val (.int l1), .val (.int l2)] []))) (fun t k => XS.icmpYes X0.here hx rfl (pc0 := 2) (pc' := 14) rfl (hb hby d3_2) rfl (tlt hc2_1).1 (by decide) (by decide) k) ?_
    refine own_go (S' := (T0.setTop (mkF m 15 #[.val (.int l0), .val (.int l1), .val (.int l2)] [(.int (0 : Int32))]))) (fun t k => XT.iconstV X0.here hx rfl (0 : Int32) (hb hby d3_14) (by decide) k) ?_
    exact own_retN X0 hx hret hlk (by simp) (hb hby d3_15) (by first | rfl | decide) (Nat.le_refl _) (Nat.le_refl _) (by rw [e0]; exact hQ)
  ·
    rw [if_neg hc2_1] at hQ
    refine own_go (S' := (T0.setTop (mkF m 5 #[.val (.int l0), .val (.int l1), .val (.int l2)] []))) (fun t k => XS.icmpNo X0.here hx rfl (hb hby d3_2) rfl (flt hc2_1).1 k) ?_
    refine own_go (S' := (T0.setTop (mkF m 6 #[.val (.int l0), .val (.int l1), .val (.int l2)] [(.int l0)]))) (fun t k => XS.iloadN X0.here hx rfl (hb hby d3_5) rfl k) ?_
    refine own_go (S' := (T0.setTop (mkF m 7 #[.val (.int l0), .val (.int l1), .val (.int l2)] [(.int l2), (.int l0)]))) (fun t k => XS.iloadN X0.here hx rfl (hb hby d3_6) rfl k) ?_
    by_cases hc7_2 : l2 < l0
    ·
      rw [if_pos hc7_2] at hQ
      refine own_go (S' := (T0.setTop (mkF m 14 #[.val (.int l0), .val (.int l1), .val (.int l2)] []))) (fun t k => XS.icmpYes X0.here hx rfl (pc0 := 7) (pc' := 14) rfl (hb hby d3_7) rfl (tlt hc7_2).2.2.1 (by decide) (by decide) k) ?_
      refine own_go (S' := (T0.setTop (mkF m 15 #[.val (.int l0), .val (.int l1), .val (.int l2)] [(.int (0 : Int32))]))) (fun t k => XT.iconstV X0.here hx rfl (0 : Int32) (hb hby d3_14) (by decide) k) ?_
      exact own_retN X0 hx hret hlk (by simp) (hb hby d3_15) (by first | rfl | decide) (Nat.le_refl _) (Nat.le_refl _) (by rw [e0]; exact hQ)
    ·
      rw [if_neg hc7_2] at hQ
      refine own_go (S' := (T0.setTop (mkF m 10 #[.val (.int l0), .val (.int l1), .val (.int l2)] []))) (fun t k => XS.icmpNo X0.here hx rfl (hb hby d3_7) rfl (flt hc7_2).2.2.1 k) ?_
      refine own_go (S' := (T0.setTop (mkF m 11 #[.val (.int l0), .val (.int l1), .val (.int l2)] [(.int (1 : Int32))]))) (fun t k => XT.iconstV X0.here hx rfl (1 : Int32) (hb hby d3_10) (by decide) k) ?_
      refine own_go (S' := (T0.setTop (mkF m 15 #[.val (.int l0), .val (.int l1), .val (.int l2)] [(.int (1 : Int32))]))) (fun t k => XS.goto X0.here hx rfl (pc0 := 11) (pc' := 15) rfl (hb hby d3_11) (by decide) (by decide) k) ?_
      exact own_retN X0 hx hret hlk (by simp) (hb hby d3_15) (by first | rfl | decide) (Nat.le_refl _) (Nat.le_refl _) (by rw [e0]; exact hQ)
theorem pn_3 : plainName "com/example/parley/parley/XmlCharsIsNameStartPinLaw" = true := by first | (simp [plainName, overriddenIn]; done) | decide +kernel
theorem ef_3 (m : MethodId) (l0 : Int32) (l1 : Int32) (l2 : Int32) : entryFrame m #[(.int l0), (.int l1), (.int l2)] 3 = mkF m 0 #[.val (.int l0), .val (.int l1), .val (.int l2)] [] := by first | (simp [entryFrame, mkF, argsToLocals, Value.category]; done) | rfl
set_option maxRecDepth 65536 in
theorem rm3 (l : Launch) (Z : State) (a0 : Array Value) (hw : ∀ d ∈ tables_1, d.before a0 Z = true) (l0 : Int32) (l1 : Int32) (l2 : Int32) (h0 : Heap) : own_C l Z (⟨"com/example/parley/parley/XmlCharsIsNameStartPinLaw", "in", "(III)Z"⟩ : MethodName) method_2_code 3 (some .boolean) ({ frames := 0, cells := 0, slots := 0, locals := 0 } : Room) #[(.int l0), (.int l1), (.int l2)] h0 (own_P h0 (some (.int (f3_0 l0 l1 l2)))) := by
  refine MetFree.of_bodySF (plainFor_of_name pn_3) hisR ?_
  intro p e s m args below meth c s₁ Bd hml hP hK
  obtain ⟨rfl, hZ, hh⟩ := hP
  show own_End p e below s (own_P h0 (some (.int (f3_0 l0 l1 l2)))) 0 0 (s₁.setTop (entryFrame m #[(.int l0), (.int l1), (.int l2)] 3))
  exact own_cast (ef_3 m l0 l1 l2) (w3_0 (Stand.of_body Bd) Bd.exec Bd.bytes hml Bd.returns (BodyLoose.notSynchronized Bd) (findClass_of_methodNamed Bd.named) hZ hw (by rw [← hh, Bd.state]; rfl) l0 l1 l2 ⟨rfl, rfl, rfl⟩)
theorem d2_0 : decode method_3_code 0 = .ok (.iload_n 0, 1) := by decide +kernel
theorem d2_1 : decode method_3_code 1 = .ok (.bipush 91, 2) := by decide +kernel
theorem d2_3 : decode method_3_code 3 = .ok (.bipush 94, 2) := by decide +kernel
theorem d2_5 : decode method_3_code 5 = .ok (.invokestatic 7, 3) := by decide +kernel
theorem d2_8 : decode method_3_code 8 = .ok (.ifCond .ne 140, 3) := by decide +kernel
theorem d2_11 : decode method_3_code 11 = .ok (.iload_n 0, 1) := by decide +kernel
theorem d2_12 : decode method_3_code 12 = .ok (.bipush 96, 2) := by decide +kernel
theorem d2_14 : decode method_3_code 14 = .ok (.if_icmp .eq 134, 3) := by decide +kernel
theorem d2_17 : decode method_3_code 17 = .ok (.iload_n 0, 1) := by decide +kernel
theorem d2_18 : decode method_3_code 18 = .ok (.bipush 123, 2) := by decide +kernel
theorem d2_20 : decode method_3_code 20 = .ok (.sipush 191, 3) := by decide +kernel
theorem d2_23 : decode method_3_code 23 = .ok (.invokestatic 7, 3) := by decide +kernel
theorem d2_26 : decode method_3_code 26 = .ok (.ifCond .ne 122, 3) := by decide +kernel
theorem d2_29 : decode method_3_code 29 = .ok (.iload_n 0, 1) := by decide +kernel
theorem d2_30 : decode method_3_code 30 = .ok (.sipush 215, 3) := by decide +kernel
theorem d2_33 : decode method_3_code 33 = .ok (.if_icmp .eq 115, 3) := by decide +kernel
theorem d2_36 : decode method_3_code 36 = .ok (.iload_n 0, 1) := by decide +kernel
theorem d2_37 : decode method_3_code 37 = .ok (.sipush 247, 3) := by decide +kernel
theorem d2_40 : decode method_3_code 40 = .ok (.if_icmp .eq 108, 3) := by decide +kernel
theorem d2_43 : decode method_3_code 43 = .ok (.iload_n 0, 1) := by decide +kernel
theorem d2_44 : decode method_3_code 44 = .ok (.sipush 768, 3) := by decide +kernel
theorem d2_47 : decode method_3_code 47 = .ok (.sipush 879, 3) := by decide +kernel
theorem d2_50 : decode method_3_code 50 = .ok (.invokestatic 7, 3) := by decide +kernel
theorem d2_53 : decode method_3_code 53 = .ok (.ifCond .ne 95, 3) := by decide +kernel
theorem d2_56 : decode method_3_code 56 = .ok (.iload_n 0, 1) := by decide +kernel
theorem d2_57 : decode method_3_code 57 = .ok (.sipush 894, 3) := by decide +kernel
theorem d2_60 : decode method_3_code 60 = .ok (.if_icmp .eq 88, 3) := by decide +kernel
theorem d2_63 : decode method_3_code 63 = .ok (.iload_n 0, 1) := by decide +kernel
theorem d2_64 : decode method_3_code 64 = .ok (.sipush 8192, 3) := by decide +kernel
theorem d2_67 : decode method_3_code 67 = .ok (.sipush 8203, 3) := by decide +kernel
theorem d2_70 : decode method_3_code 70 = .ok (.invokestatic 7, 3) := by decide +kernel
theorem d2_73 : decode method_3_code 73 = .ok (.ifCond .ne 75, 3) := by decide +kernel
theorem d2_76 : decode method_3_code 76 = .ok (.iload_n 0, 1) := by decide +kernel
theorem d2_77 : decode method_3_code 77 = .ok (.sipush 8206, 3) := by decide +kernel
theorem d2_80 : decode method_3_code 80 = .ok (.sipush 8303, 3) := by decide +kernel
theorem d2_83 : decode method_3_code 83 = .ok (.invokestatic 7, 3) := by decide +kernel
theorem d2_86 : decode method_3_code 86 = .ok (.ifCond .ne 62, 3) := by decide +kernel
theorem d2_89 : decode method_3_code 89 = .ok (.iload_n 0, 1) := by decide +kernel
theorem d2_90 : decode method_3_code 90 = .ok (.sipush 8592, 3) := by decide +kernel
theorem d2_93 : decode method_3_code 93 = .ok (.sipush 11263, 3) := by decide +kernel
theorem d2_96 : decode method_3_code 96 = .ok (.invokestatic 7, 3) := by decide +kernel
theorem d2_99 : decode method_3_code 99 = .ok (.ifCond .ne 49, 3) := by decide +kernel
theorem d2_102 : decode method_3_code 102 = .ok (.iload_n 0, 1) := by decide +kernel
theorem d2_103 : decode method_3_code 103 = .ok (.sipush 12272, 3) := by decide +kernel
theorem d2_106 : decode method_3_code 106 = .ok (.sipush 12288, 3) := by decide +kernel
theorem d2_109 : decode method_3_code 109 = .ok (.invokestatic 7, 3) := by decide +kernel
theorem d2_112 : decode method_3_code 112 = .ok (.ifCond .ne 36, 3) := by decide +kernel
theorem d2_115 : decode method_3_code 115 = .ok (.iload_n 0, 1) := by decide +kernel
theorem d2_116 : decode method_3_code 116 = .ok (.ldc 13, 2) := by decide +kernel
theorem d2_118 : decode method_3_code 118 = .ok (.ldc 14, 2) := by decide +kernel
theorem d2_120 : decode method_3_code 120 = .ok (.invokestatic 7, 3) := by decide +kernel
theorem d2_123 : decode method_3_code 123 = .ok (.ifCond .ne 25, 3) := by decide +kernel
theorem d2_126 : decode method_3_code 126 = .ok (.iload_n 0, 1) := by decide +kernel
theorem d2_127 : decode method_3_code 127 = .ok (.ldc 15, 2) := by decide +kernel
theorem d2_129 : decode method_3_code 129 = .ok (.ldc 16, 2) := by decide +kernel
theorem d2_131 : decode method_3_code 131 = .ok (.invokestatic 7, 3) := by decide +kernel
theorem d2_134 : decode method_3_code 134 = .ok (.ifCond .ne 14, 3) := by decide +kernel
theorem d2_137 : decode method_3_code 137 = .ok (.iload_n 0, 1) := by decide +kernel
theorem d2_138 : decode method_3_code 138 = .ok (.ldc 17, 2) := by decide +kernel
theorem d2_140 : decode method_3_code 140 = .ok (.ldc 18, 2) := by decide +kernel
theorem d2_142 : decode method_3_code 142 = .ok (.invokestatic 7, 3) := by decide +kernel
theorem d2_145 : decode method_3_code 145 = .ok (.ifCond .eq 7, 3) := by decide +kernel
theorem d2_148 : decode method_3_code 148 = .ok (.iconst 1, 1) := by decide +kernel
theorem d2_149 : decode method_3_code 149 = .ok (.goto 4, 3) := by decide +kernel
theorem d2_152 : decode method_3_code 152 = .ok (.iconst 0, 1) := by decide +kernel
theorem d2_153 : decode method_3_code 153 = .ok (.ireturn, 1) := by decide +kernel
def f2_0 (l0 : Int32) : Int32 := (if (f3_0 l0 (91 : Int32) (94 : Int32)) = (0 : Int32) then (if l0 = (96 : Int32) then (1 : Int32) else (if (f3_0 l0 (123 : Int32) (191 : Int32)) = (0 : Int32) then (if l0 = (215 : Int32) then (1 : Int32) else (if l0 = (247 : Int32) then (1 : Int32) else (if (f3_0 l0 (768 : Int32) (879 : Int32)) = (0 : Int32) then (if l0 = (894 : Int32) then (1 : Int32) else (if (f3_0 l0 (8192 : Int32) (8203 : Int32)) = (0 : Int32) then (if (f3_0 l0 (8206 : Int32) (8303 : Int32)) = (0 : Int32) then (if (f3_0 l0 (8592 : Int32) (11263 : Int32)) = (0 : Int32) then (if (f3_0 l0 (12272 : Int32) (12288 : Int32)) = (0 : Int32) then (if (f3_0 l0 (55296 : Int32) (63743 : Int32)) = (0 : Int32) then (if (f3_0 l0 (64976 : Int32) (65007 : Int32)) = (0 : Int32) then (if (f3_0 l0 (65534 : Int32) (65535 : Int32)) = (0 : Int32) then (0 : Int32) else (1 : Int32)) else (1 : Int32)) else (1 : Int32)) else (1 : Int32)) else (1 : Int32)) else (1 : Int32)) else (1 : Int32))) else (1 : Int32)))) else (1 : Int32))) else (1 : Int32))
set_option maxRecDepth 65536 in
set_option maxHeartbeats 40000000 in
theorem w2_0 {p : Program} {l : Launch} {e : Env} {s : State} {m : MethodId} {args : Array Value} {below : List Frame} {meth : Method} {c : Code} {T0 : State} {locs : List Loc} {Z : State} {a0 : Array Value} {h0 : Heap} {Q : Option Value → Heap → List Loc → Prop}
    (X0 : Stand p l e ({ frames := 1, cells := 0, slots := 0, locals := 14 } : Room) s m args below meth c T0 locs 0 0) (hx : p.tables.exec = Jvm.exec) (hby : c.code = method_3_code) (hml : c.maxLocals = 1) (hret : meth.sig.returnType = (some .boolean)) (hlk : meth.locks = false) (hown : s.vm.findClass "com/example/parley/parley/XmlCharsIsNameStartPinLaw" = some m.cls) (hZ : Z.Warmed39 s.vm) (hw : ∀ d ∈ tables_1, d.before a0 Z = true) (e0 : T0.heap = h0)
    (l0 : Int32) (hQ : Q (some (.int (f2_0 l0))) h0 locs) : own_End p e below s Q 0 0 (T0.setTop (mkF m 0 #[.val (.int l0)] [])) := by
  unfold f2_0 at hQ
  refine own_go (S' := (T0.setTop (mkF m 1 #[.val (.int l0)] [(.int l0)]))) (fun t k => XS.iloadN X0.here hx rfl (hb hby d2_0) rfl k) ?_
  refine own_go (S' := (T0.setTop (mkF m 3 #[.val (.int l0)] [(.int (91 : Int32)), (.int l0)]))) (fun t k => XT.bipushV X0.here hx rfl (91 : Int32) (hb hby d2_1) (by decide) k) ?_
  refine own_go (S' := (T0.setTop (mkF m 5 #[.val (.int l0)] [(.int (94 : Int32)), (.int (91 : Int32)), (.int l0)]))) (fun t k => XT.bipushV X0.here hx rfl (94 : Int32) (hb hby d2_3) (by decide) k) ?_
  obtain ⟨T1, X1, e1, st1⟩ := own_callP X0 hx hZ (y := (⟨"com/example/parley/parley/XmlCharsIsNameStartPinLaw", "in", "(III)Z"⟩ : MethodName)) hown (hw _ (List.mem_of_getElem? (i := 14) rfl)) (hw _ (List.mem_of_getElem? (i := 15) rfl)) (hw _ (List.mem_of_getElem? (i := 12) rfl)) (hw _ (List.mem_of_getElem? (i := 16) rfl)) (rm3 l Z a0 hw l0 (91 : Int32) (94 : Int32) h0) e0 (argsL := [(.int l0), (.int (91 : Int32)), (.int (94 : Int32))]) (rest := []) (Ls := #[.val (.int l0)]) (hb hby d2_5) pd_0 0 (by rw [hml]; rfl) (by decide) rfl rfl rfl (Nat.le_of_eq rfl) (by decide) (by decide) (Nat.le_refl _) (Nat.le_refl _)
  refine own_go (S' := (T1.setTop (mkF m 8 #[.val (.int l0)] [(.int (f3_0 l0 (91 : Int32) (94 : Int32)))]))) st1 ?_
  by_cases hc8_2 : (f3_0 l0 (91 : Int32) (94 : Int32)) = (0 : Int32)
  ·
    rw [if_pos hc8_2] at hQ
    refine own_go (S' := (T1.setTop (mkF m 11 #[.val (.int l0)] []))) (fun t k => XS.ifNo X1.here hx rfl (hb hby d2_8) rfl ((if0 _ _).trans (teq hc8_2).2) k) ?_
    refine own_go (S' := (T1.setTop (mkF m 12 #[.val (.int l0)] [(.int l0)]))) (fun t k => XS.iloadN X1.here hx rfl (hb hby d2_11) rfl k) ?_
    refine own_go (S' := (T1.setTop (mkF m 14 #[.val (.int l0)] [(.int (96 : Int32)), (.int l0)]))) (fun t k => XT.bipushV X1.here hx rfl (96 : Int32) (hb hby d2_12) (by decide) k) ?_
    by_cases hc14_3 : l0 = (96 : Int32)
    ·
      rw [if_pos hc14_3] at hQ
      refine own_go (S' := (T1.setTop (mkF m 148 #[.val (.int l0)] []))) (fun t k => XS.icmpYes X1.here hx rfl (pc0 := 14) (pc' := 148) rfl (hb hby d2_14) rfl (teq hc14_3).1 (by decide) (by decide) k) ?_
      refine own_go (S' := (T1.setTop (mkF m 149 #[.val (.int l0)] [(.int (1 : Int32))]))) (fun t k => XT.iconstV X1.here hx rfl (1 : Int32) (hb hby d2_148) (by decide) k) ?_
      refine own_go (S' := (T1.setTop (mkF m 153 #[.val (.int l0)] [(.int (1 : Int32))]))) (fun t k => XS.goto X1.here hx rfl (pc0 := 149) (pc' := 153) rfl (hb hby d2_149) (by decide) (by decide) k) ?_
      exact own_retN X1 hx hret hlk (by simp) (hb hby d2_153) (by first | rfl | decide) (Nat.le_refl _) (Nat.le_refl _) (by rw [e1]; exact hQ)
    ·
      rw [if_neg hc14_3] at hQ
      refine own_go (S' := (T1.setTop (mkF m 17 #[.val (.int l0)] []))) (fun t k => XS.icmpNo X1.here hx rfl (hb hby d2_14) rfl (feq hc14_3).1 k) ?_
      refine own_go (S' := (T1.setTop (mkF m 18 #[.val (.int l0)] [(.int l0)]))) (fun t k => XS.iloadN X1.here hx rfl (hb hby d2_17) rfl k) ?_
      refine own_go (S' := (T1.setTop (mkF m 20 #[.val (.int l0)] [(.int (123 : Int32)), (.int l0)]))) (fun t k => XT.bipushV X1.here hx rfl (123 : Int32) (hb hby d2_18) (by decide) k) ?_
      refine own_go (S' := (T1.setTop (mkF m 23 #[.val (.int l0)] [(.int (191 : Int32)), (.int (123 : Int32)), (.int l0)]))) (fun t k => XT.sipushV X1.here hx rfl (191 : Int32) (hb hby d2_20) (by decide) k) ?_
      obtain ⟨T4, X4, e4, st4⟩ := own_callP X1 hx hZ (y := (⟨"com/example/parley/parley/XmlCharsIsNameStartPinLaw", "in", "(III)Z"⟩ : MethodName)) hown (hw _ (List.mem_of_getElem? (i := 14) rfl)) (hw _ (List.mem_of_getElem? (i := 15) rfl)) (hw _ (List.mem_of_getElem? (i := 12) rfl)) (hw _ (List.mem_of_getElem? (i := 16) rfl)) (rm3 l Z a0 hw l0 (123 : Int32) (191 : Int32) h0) e1 (argsL := [(.int l0), (.int (123 : Int32)), (.int (191 : Int32))]) (rest := []) (Ls := #[.val (.int l0)]) (hb hby d2_23) pd_0 0 (by rw [hml]; rfl) (by decide) rfl rfl rfl (Nat.le_of_eq rfl) (by decide) (by decide) (Nat.le_refl _) (Nat.le_refl _)
      refine own_go (S' := (T4.setTop (mkF m 26 #[.val (.int l0)] [(.int (f3_0 l0 (123 : Int32) (191 : Int32)))]))) st4 ?_
      by_cases hc26_5 : (f3_0 l0 (123 : Int32) (191 : Int32)) = (0 : Int32)
      ·
        rw [if_pos hc26_5] at hQ
        refine own_go (S' := (T4.setTop (mkF m 29 #[.val (.int l0)] []))) (fun t k => XS.ifNo X4.here hx rfl (hb hby d2_26) rfl ((if0 _ _).trans (teq hc26_5).2) k) ?_
        refine own_go (S' := (T4.setTop (mkF m 30 #[.val (.int l0)] [(.int l0)]))) (fun t k => XS.iloadN X4.here hx rfl (hb hby d2_29) rfl k) ?_
        refine own_go (S' := (T4.setTop (mkF m 33 #[.val (.int l0)] [(.int (215 : Int32)), (.int l0)]))) (fun t k => XT.sipushV X4.here hx rfl (215 : Int32) (hb hby d2_30) (by decide) k) ?_
        by_cases hc33_6 : l0 = (215 : Int32)
        ·
          rw [if_pos hc33_6] at hQ
          refine own_go (S' := (T4.setTop (mkF m 148 #[.val (.int l0)] []))) (fun t k => XS.icmpYes X4.here hx rfl (pc0 := 33) (pc' := 148) rfl (hb hby d2_33) rfl (teq hc33_6).1 (by decide) (by decide) k) ?_
          refine own_go (S' := (T4.setTop (mkF m 149 #[.val (.int l0)] [(.int (1 : Int32))]))) (fun t k => XT.iconstV X4.here hx rfl (1 : Int32) (hb hby d2_148) (by decide) k) ?_
          refine own_go (S' := (T4.setTop (mkF m 153 #[.val (.int l0)] [(.int (1 : Int32))]))) (fun t k => XS.goto X4.here hx rfl (pc0 := 149) (pc' := 153) rfl (hb hby d2_149) (by decide) (by decide) k) ?_
          exact own_retN X4 hx hret hlk (by simp) (hb hby d2_153) (by first | rfl | decide) (Nat.le_refl _) (Nat.le_refl _) (by rw [e4]; exact hQ)
        ·
          rw [if_neg hc33_6] at hQ
          refine own_go (S' := (T4.setTop (mkF m 36 #[.val (.int l0)] []))) (fun t k => XS.icmpNo X4.here hx rfl (hb hby d2_33) rfl (feq hc33_6).1 k) ?_
          refine own_go (S' := (T4.setTop (mkF m 37 #[.val (.int l0)] [(.int l0)]))) (fun t k => XS.iloadN X4.here hx rfl (hb hby d2_36) rfl k) ?_
          refine own_go (S' := (T4.setTop (mkF m 40 #[.val (.int l0)] [(.int (247 : Int32)), (.int l0)]))) (fun t k => XT.sipushV X4.here hx rfl (247 : Int32) (hb hby d2_37) (by decide) k) ?_
          by_cases hc40_7 : l0 = (247 : Int32)
          ·
            rw [if_pos hc40_7] at hQ
            refine own_go (S' := (T4.setTop (mkF m 148 #[.val (.int l0)] []))) (fun t k => XS.icmpYes X4.here hx rfl (pc0 := 40) (pc' := 148) rfl (hb hby d2_40) rfl (teq hc40_7).1 (by decide) (by decide) k) ?_
            refine own_go (S' := (T4.setTop (mkF m 149 #[.val (.int l0)] [(.int (1 : Int32))]))) (fun t k => XT.iconstV X4.here hx rfl (1 : Int32) (hb hby d2_148) (by decide) k) ?_
            refine own_go (S' := (T4.setTop (mkF m 153 #[.val (.int l0)] [(.int (1 : Int32))]))) (fun t k => XS.goto X4.here hx rfl (pc0 := 149) (pc' := 153) rfl (hb hby d2_149) (by decide) (by decide) k) ?_
            exact own_retN X4 hx hret hlk (by simp) (hb hby d2_153) (by first | rfl | decide) (Nat.le_refl _) (Nat.le_refl _) (by rw [e4]; exact hQ)
          ·
            rw [if_neg hc40_7] at hQ
            refine own_go (S' := (T4.setTop (mkF m 43 #[.val (.int l0)] []))) (fun t k => XS.icmpNo X4.here hx rfl (hb hby d2_40) rfl (feq hc40_7).1 k) ?_
            refine own_go (S' := (T4.setTop (mkF m 44 #[.val (.int l0)] [(.int l0)]))) (fun t k => XS.iloadN X4.here hx rfl (hb hby d2_43) rfl k) ?_
            refine own_go (S' := (T4.setTop (mkF m 47 #[.val (.int l0)] [(.int (768 : Int32)), (.int l0)]))) (fun t k => XT.sipushV X4.here hx rfl (768 : Int32) (hb hby d2_44) (by decide) k) ?_
            refine own_go (S' := (T4.setTop (mkF m 50 #[.val (.int l0)] [(.int (879 : Int32)), (.int (768 : Int32)), (.int l0)]))) (fun t k => XT.sipushV X4.here hx rfl (879 : Int32) (hb hby d2_47) (by decide) k) ?_
            obtain ⟨T8, X8, e8, st8⟩ := own_callP X4 hx hZ (y := (⟨"com/example/parley/parley/XmlCharsIsNameStartPinLaw", "in", "(III)Z"⟩ : MethodName)) hown (hw _ (List.mem_of_getElem? (i := 14) rfl)) (hw _ (List.mem_of_getElem? (i := 15) rfl)) (hw _ (List.mem_of_getElem? (i := 12) rfl)) (hw _ (List.mem_of_getElem? (i := 16) rfl)) (rm3 l Z a0 hw l0 (768 : Int32) (879 : Int32) h0) e4 (argsL := [(.int l0), (.int (768 : Int32)), (.int (879 : Int32))]) (rest := []) (Ls := #[.val (.int l0)]) (hb hby d2_50) pd_0 0 (by rw [hml]; rfl) (by decide) rfl rfl rfl (Nat.le_of_eq rfl) (by decide) (by decide) (Nat.le_refl _) (Nat.le_refl _)
            refine own_go (S' := (T8.setTop (mkF m 53 #[.val (.int l0)] [(.int (f3_0 l0 (768 : Int32) (879 : Int32)))]))) st8 ?_
            by_cases hc53_9 : (f3_0 l0 (768 : Int32) (879 : Int32)) = (0 : Int32)
            ·
              rw [if_pos hc53_9] at hQ
              refine own_go (S' := (T8.setTop (mkF m 56 #[.val (.int l0)] []))) (fun t k => XS.ifNo X8.here hx rfl (hb hby d2_53) rfl ((if0 _ _).trans (teq hc53_9).2) k) ?_
              refine own_go (S' := (T8.setTop (mkF m 57 #[.val (.int l0)] [(.int l0)]))) (fun t k => XS.iloadN X8.here hx rfl (hb hby d2_56) rfl k) ?_
              refine own_go (S' := (T8.setTop (mkF m 60 #[.val (.int l0)] [(.int (894 : Int32)), (.int l0)]))) (fun t k => XT.sipushV X8.here hx rfl (894 : Int32) (hb hby d2_57) (by decide) k) ?_
              by_cases hc60_10 : l0 = (894 : Int32)
              ·
                rw [if_pos hc60_10] at hQ
                refine own_go (S' := (T8.setTop (mkF m 148 #[.val (.int l0)] []))) (fun t k => XS.icmpYes X8.here hx rfl (pc0 := 60) (pc' := 148) rfl (hb hby d2_60) rfl (teq hc60_10).1 (by decide) (by decide) k) ?_
                refine own_go (S' := (T8.setTop (mkF m 149 #[.val (.int l0)] [(.int (1 : Int32))]))) (fun t k => XT.iconstV X8.here hx rfl (1 : Int32) (hb hby d2_148) (by decide) k) ?_
                refine own_go (S' := (T8.setTop (mkF m 153 #[.val (.int l0)] [(.int (1 : Int32))]))) (fun t k => XS.goto X8.here hx rfl (pc0 := 149) (pc' := 153) rfl (hb hby d2_149) (by decide) (by decide) k) ?_
                exact own_retN X8 hx hret hlk (by simp) (hb hby d2_153) (by first | rfl | decide) (Nat.le_refl _) (Nat.le_refl _) (by rw [e8]; exact hQ)
              ·
                rw [if_neg hc60_10] at hQ
                refine own_go (S' := (T8.setTop (mkF m 63 #[.val (.int l0)] []))) (fun t k => XS.icmpNo X8.here hx rfl (hb hby d2_60) rfl (feq hc60_10).1 k) ?_
                refine own_go (S' := (T8.setTop (mkF m 64 #[.val (.int l0)] [(.int l0)]))) (fun t k => XS.iloadN X8.here hx rfl (hb hby d2_63) rfl k) ?_
                refine own_go (S' := (T8.setTop (mkF m 67 #[.val (.int l0)] [(.int (8192 : Int32)), (.int l0)]))) (fun t k => XT.sipushV X8.here hx rfl (8192 : Int32) (hb hby d2_64) (by decide) k) ?_
                refine own_go (S' := (T8.setTop (mkF m 70 #[.val (.int l0)] [(.int (8203 : Int32)), (.int (8192 : Int32)), (.int l0)]))) (fun t k => XT.sipushV X8.here hx rfl (8203 : Int32) (hb hby d2_67) (by decide) k) ?_
                obtain ⟨T11, X11, e11, st11⟩ := own_callP X8 hx hZ (y := (⟨"com/example/parley/parley/XmlCharsIsNameStartPinLaw", "in", "(III)Z"⟩ : MethodName)) hown (hw _ (List.mem_of_getElem? (i := 14) rfl)) (hw _ (List.mem_of_getElem? (i := 15) rfl)) (hw _ (List.mem_of_getElem? (i := 12) rfl)) (hw _ (List.mem_of_getElem? (i := 16) rfl)) (rm3 l Z a0 hw l0 (8192 : Int32) (8203 : Int32) h0) e8 (argsL := [(.int l0), (.int (8192 : Int32)), (.int (8203 : Int32))]) (rest := []) (Ls := #[.val (.int l0)]) (hb hby d2_70) pd_0 0 (by rw [hml]; rfl) (by decide) rfl rfl rfl (Nat.le_of_eq rfl) (by decide) (by decide) (Nat.le_refl _) (Nat.le_refl _)
                refine own_go (S' := (T11.setTop (mkF m 73 #[.val (.int l0)] [(.int (f3_0 l0 (8192 : Int32) (8203 : Int32)))]))) st11 ?_
                by_cases hc73_12 : (f3_0 l0 (8192 : Int32) (8203 : Int32)) = (0 : Int32)
                ·
                  rw [if_pos hc73_12] at hQ
                  refine own_go (S' := (T11.setTop (mkF m 76 #[.val (.int l0)] []))) (fun t k => XS.ifNo X11.here hx rfl (hb hby d2_73) rfl ((if0 _ _).trans (teq hc73_12).2) k) ?_
                  refine own_go (S' := (T11.setTop (mkF m 77 #[.val (.int l0)] [(.int l0)]))) (fun t k => XS.iloadN X11.here hx rfl (hb hby d2_76) rfl k) ?_
                  refine own_go (S' := (T11.setTop (mkF m 80 #[.val (.int l0)] [(.int (8206 : Int32)), (.int l0)]))) (fun t k => XT.sipushV X11.here hx rfl (8206 : Int32) (hb hby d2_77) (by decide) k) ?_
                  refine own_go (S' := (T11.setTop (mkF m 83 #[.val (.int l0)] [(.int (8303 : Int32)), (.int (8206 : Int32)), (.int l0)]))) (fun t k => XT.sipushV X11.here hx rfl (8303 : Int32) (hb hby d2_80) (by decide) k) ?_
                  obtain ⟨T13, X13, e13, st13⟩ := own_callP X11 hx hZ (y := (⟨"com/example/parley/parley/XmlCharsIsNameStartPinLaw", "in", "(III)Z"⟩ : MethodName)) hown (hw _ (List.mem_of_getElem? (i := 14) rfl)) (hw _ (List.mem_of_getElem? (i := 15) rfl)) (hw _ (List.mem_of_getElem? (i := 12) rfl)) (hw _ (List.mem_of_getElem? (i := 16) rfl)) (rm3 l Z a0 hw l0 (8206 : Int32) (8303 : Int32) h0) e11 (argsL := [(.int l0), (.int (8206 : Int32)), (.int (8303 : Int32))]) (rest := []) (Ls := #[.val (.int l0)]) (hb hby d2_83) pd_0 0 (by rw [hml]; rfl) (by decide) rfl rfl rfl (Nat.le_of_eq rfl) (by decide) (by decide) (Nat.le_refl _) (Nat.le_refl _)
                  refine own_go (S' := (T13.setTop (mkF m 86 #[.val (.int l0)] [(.int (f3_0 l0 (8206 : Int32) (8303 : Int32)))]))) st13 ?_
                  by_cases hc86_14 : (f3_0 l0 (8206 : Int32) (8303 : Int32)) = (0 : Int32)
                  ·
                    rw [if_pos hc86_14] at hQ
                    refine own_go (S' := (T13.setTop (mkF m 89 #[.val (.int l0)] []))) (fun t k => XS.ifNo X13.here hx rfl (hb hby d2_86) rfl ((if0 _ _).trans (teq hc86_14).2) k) ?_
                    refine own_go (S' := (T13.setTop (mkF m 90 #[.val (.int l0)] [(.int l0)]))) (fun t k => XS.iloadN X13.here hx rfl (hb hby d2_89) rfl k) ?_
                    refine own_go (S' := (T13.setTop (mkF m 93 #[.val (.int l0)] [(.int (8592 : Int32)), (.int l0)]))) (fun t k => XT.sipushV X13.here hx rfl (8592 : Int32) (hb hby d2_90) (by decide) k) ?_
                    refine own_go (S' := (T13.setTop (mkF m 96 #[.val (.int l0)] [(.int (11263 : Int32)), (.int (8592 : Int32)), (.int l0)]))) (fun t k => XT.sipushV X13.here hx rfl (11263 : Int32) (hb hby d2_93) (by decide) k) ?_
                    obtain ⟨T15, X15, e15, st15⟩ := own_callP X13 hx hZ (y := (⟨"com/example/parley/parley/XmlCharsIsNameStartPinLaw", "in", "(III)Z"⟩ : MethodName)) hown (hw _ (List.mem_of_getElem? (i := 14) rfl)) (hw _ (List.mem_of_getElem? (i := 15) rfl)) (hw _ (List.mem_of_getElem? (i := 12) rfl)) (hw _ (List.mem_of_getElem? (i := 16) rfl)) (rm3 l Z a0 hw l0 (8592 : Int32) (11263 : Int32) h0) e13 (argsL := [(.int l0), (.int (8592 : Int32)), (.int (11263 : Int32))]) (rest := []) (Ls := #[.val (.int l0)]) (hb hby d2_96) pd_0 0 (by rw [hml]; rfl) (by decide) rfl rfl rfl (Nat.le_of_eq rfl) (by decide) (by decide) (Nat.le_refl _) (Nat.le_refl _)
                    refine own_go (S' := (T15.setTop (mkF m 99 #[.val (.int l0)] [(.int (f3_0 l0 (8592 : Int32) (11263 : Int32)))]))) st15 ?_
                    by_cases hc99_16 : (f3_0 l0 (8592 : Int32) (11263 : Int32)) = (0 : Int32)
                    ·
                      rw [if_pos hc99_16] at hQ
                      refine own_go (S' := (T15.setTop (mkF m 102 #[.val (.int l0)] []))) (fun t k => XS.ifNo X15.here hx rfl (hb hby d2_99) rfl ((if0 _ _).trans (teq hc99_16).2) k) ?_
                      refine own_go (S' := (T15.setTop (mkF m 103 #[.val (.int l0)] [(.int l0)]))) (fun t k => XS.iloadN X15.here hx rfl (hb hby d2_102) rfl k) ?_
                      refine own_go (S' := (T15.setTop (mkF m 106 #[.val (.int l0)] [(.int (12272 : Int32)), (.int l0)]))) (fun t k => XT.sipushV X15.here hx rfl (12272 : Int32) (hb hby d2_103) (by decide) k) ?_
                      refine own_go (S' := (T15.setTop (mkF m 109 #[.val (.int l0)] [(.int (12288 : Int32)), (.int (12272 : Int32)), (.int l0)]))) (fun t k => XT.sipushV X15.here hx rfl (12288 : Int32) (hb hby d2_106) (by decide) k) ?_
                      obtain ⟨T17, X17, e17, st17⟩ := own_callP X15 hx hZ (y := (⟨"com/example/parley/parley/XmlCharsIsNameStartPinLaw", "in", "(III)Z"⟩ : MethodName)) hown (hw _ (List.mem_of_getElem? (i := 14) rfl)) (hw _ (List.mem_of_getElem? (i := 15) rfl)) (hw _ (List.mem_of_getElem? (i := 12) rfl)) (hw _ (List.mem_of_getElem? (i := 16) rfl)) (rm3 l Z a0 hw l0 (12272 : Int32) (12288 : Int32) h0) e15 (argsL := [(.int l0), (.int (12272 : Int32)), (.int (12288 : Int32))]) (rest := []) (Ls := #[.val (.int l0)]) (hb hby d2_109) pd_0 0 (by rw [hml]; rfl) (by decide) rfl rfl rfl (Nat.le_of_eq rfl) (by decide) (by decide) (Nat.le_refl _) (Nat.le_refl _)
                      refine own_go (S' := (T17.setTop (mkF m 112 #[.val (.int l0)] [(.int (f3_0 l0 (12272 : Int32) (12288 : Int32)))]))) st17 ?_
                      by_cases hc112_18 : (f3_0 l0 (12272 : Int32) (12288 : Int32)) = (0 : Int32)
                      ·
                        rw [if_pos hc112_18] at hQ
                        refine own_go (S' := (T17.setTop (mkF m 115 #[.val (.int l0)] []))) (fun t k => XS.ifNo X17.here hx rfl (hb hby d2_112) rfl ((if0 _ _).trans (teq hc112_18).2) k) ?_
                        refine own_go (S' := (T17.setTop (mkF m 116 #[.val (.int l0)] [(.int l0)]))) (fun t k => XS.iloadN X17.here hx rfl (hb hby d2_115) rfl k) ?_
                        refine own_go (S' := (T17.setTop (mkF m 118 #[.val (.int l0)] [(.int (55296 : Int32)), (.int l0)]))) (fun t k => Stand.ldcI X17 hx hown (mvT hZ (hw _ (List.mem_of_getElem? (i := 17) rfl))) rfl (hb hby d2_116) k) ?_
                        refine own_go (S' := (T17.setTop (mkF m 120 #[.val (.int l0)] [(.int (63743 : Int32)), (.int (55296 : Int32)), (.int l0)]))) (fun t k => Stand.ldcI X17 hx hown (mvT hZ (hw _ (List.mem_of_getElem? (i := 18) rfl))) rfl (hb hby d2_118) k) ?_
                        obtain ⟨T19, X19, e19, st19⟩ := own_callP X17 hx hZ (y := (⟨"com/example/parley/parley/XmlCharsIsNameStartPinLaw", "in", "(III)Z"⟩ : MethodName)) hown (hw _ (List.mem_of_getElem? (i := 14) rfl)) (hw _ (List.mem_of_getElem? (i := 15) rfl)) (hw _ (List.mem_of_getElem? (i := 12) rfl)) (hw _ (List.mem_of_getElem? (i := 16) rfl)) (rm3 l Z a0 hw l0 (55296 : Int32) (63743 : Int32) h0) e17 (argsL := [(.int l0), (.int (55296 : Int32)), (.int (63743 : Int32))]) (rest := []) (Ls := #[.val (.int l0)]) (hb hby d2_120) pd_0 0 (by rw [hml]; rfl) (by decide) rfl rfl rfl (Nat.le_of_eq rfl) (by decide) (by decide) (Nat.le_refl _) (Nat.le_refl _)
                        refine own_go (S' := (T19.setTop (mkF m 123 #[.val (.int l0)] [(.int (f3_0 l0 (55296 : Int32) (63743 : Int32)))]))) st19 ?_
                        by_cases hc123_20 : (f3_0 l0 (55296 : Int32) (63743 : Int32)) = (0 : Int32)
                        ·
                          rw [if_pos hc123_20] at hQ
                          refine own_go (S' := (T19.setTop (mkF m 126 #[.val (.int l0)] []))) (fun t k => XS.ifNo X19.here hx rfl (hb hby d2_123) rfl ((if0 _ _).trans (teq hc123_20).2) k) ?_
                          refine own_go (S' := (T19.setTop (mkF m 127 #[.val (.int l0)] [(.int l0)]))) (fun t k => XS.iloadN X19.here hx rfl (hb hby d2_126) rfl k) ?_
                          refine own_go (S' := (T19.setTop (mkF m 129 #[.val (.int l0)] [(.int (64976 : Int32)), (.int l0)]))) (fun t k => Stand.ldcI X19 hx hown (mvT hZ (hw _ (List.mem_of_getElem? (i := 19) rfl))) rfl (hb hby d2_127) k) ?_
                          refine own_go (S' := (T19.setTop (mkF m 131 #[.val (.int l0)] [(.int (65007 : Int32)), (.int (64976 : Int32)), (.int l0)]))) (fun t k => Stand.ldcI X19 hx hown (mvT hZ (hw _ (List.mem_of_getElem? (i := 20) rfl))) rfl (hb hby d2_129) k) ?_
                          obtain ⟨T21, X21, e21, st21⟩ := own_callP X19 hx hZ (y := (⟨"com/example/parley/parley/XmlCharsIsNameStartPinLaw", "in", "(III)Z"⟩ : MethodName)) hown (hw _ (List.mem_of_getElem? (i := 14) rfl)) (hw _ (List.mem_of_getElem? (i := 15) rfl)) (hw _ (List.mem_of_getElem? (i := 12) rfl)) (hw _ (List.mem_of_getElem? (i := 16) rfl)) (rm3 l Z a0 hw l0 (64976 : Int32) (65007 : Int32) h0) e19 (argsL := [(.int l0), (.int (64976 : Int32)), (.int (65007 : Int32))]) (rest := []) (Ls := #[.val (.int l0)]) (hb hby d2_131) pd_0 0 (by rw [hml]; rfl) (by decide) rfl rfl rfl (Nat.le_of_eq rfl) (by decide) (by decide) (Nat.le_refl _) (Nat.le_refl _)
                          refine own_go (S' := (T21.setTop (mkF m 134 #[.val (.int l0)] [(.int (f3_0 l0 (64976 : Int32) (65007 : Int32)))]))) st21 ?_
                          by_cases hc134_22 : (f3_0 l0 (64976 : Int32) (65007 : Int32)) = (0 : Int32)
                          ·
                            rw [if_pos hc134_22] at hQ
                            refine own_go (S' := (T21.setTop (mkF m 137 #[.val (.int l0)] []))) (fun t k => XS.ifNo X21.here hx rfl (hb hby d2_134) rfl ((if0 _ _).trans (teq hc134_22).2) k) ?_
                            refine own_go (S' := (T21.setTop (mkF m 138 #[.val (.int l0)] [(.int l0)]))) (fun t k => XS.iloadN X21.here hx rfl (hb hby d2_137) rfl k) ?_
                            refine own_go (S' := (T21.setTop (mkF m 140 #[.val (.int l0)] [(.int (65534 : Int32)), (.int l0)]))) (fun t k => Stand.ldcI X21 hx hown (mvT hZ (hw _ (List.mem_of_getElem? (i := 21) rfl))) rfl (hb hby d2_138) k) ?_
                            refine own_go (S' := (T21.setTop (mkF m 142 #[.val (.int l0)] [(.int (65535 : Int32)), (.int (65534 : Int32)), (.int l0)]))) (fun t k => Stand.ldcI X21 hx hown (mvT hZ (hw _ (List.mem_of_getElem? (i := 22) rfl))) rfl (hb hby d2_140) k) ?_
                            obtain ⟨T23, X23, e23, st23⟩ := own_callP X21 hx hZ (y := (⟨"com/example/parley/parley/XmlCharsIsNameStartPinLaw", "in", "(III)Z"⟩ : MethodName)) hown (hw _ (List.mem_of_getElem? (i := 14) rfl)) (hw _ (List.mem_of_getElem? (i := 15) rfl)) (hw _ (List.mem_of_getElem? (i := 12) rfl)) (hw _ (List.mem_of_getElem? (i := 16) rfl)) (rm3 l Z a0 hw l0 (65534 : Int32) (65535 : Int32) h0) e21 (argsL := [(.int l0), (.int (65534 : Int32)), (.int (65535 : Int32))]) (rest := []) (Ls := #[.val (.int l0)]) (hb hby d2_142) pd_0 0 (by rw [hml]; rfl) (by decide) rfl rfl rfl (Nat.le_of_eq rfl) (by decide) (by decide) (Nat.le_refl _) (Nat.le_refl _)
                            refine own_go (S' := (T23.setTop (mkF m 145 #[.val (.int l0)] [(.int (f3_0 l0 (65534 : Int32) (65535 : Int32)))]))) st23 ?_
                            by_cases hc145_24 : (f3_0 l0 (65534 : Int32) (65535 : Int32)) = (0 : Int32)
                            ·
                              rw [if_pos hc145_24] at hQ
                              refine own_go (S' := (T23.setTop (mkF m 152 #[.val (.int l0)] []))) (fun t k => XS.ifYes X23.here hx rfl (pc0 := 145) (pc' := 152) rfl (hb hby d2_145) rfl ((if0 _ _).trans (teq hc145_24).1) (by decide) (by decide) k) ?_
                              refine own_go (S' := (T23.setTop (mkF m 153 #[.val (.int l0)] [(.int (0 : Int32))]))) (fun t k => XT.iconstV X23.here hx rfl (0 : Int32) (hb hby d2_152) (by decide) k) ?_
                              exact own_retN X23 hx hret hlk (by simp) (hb hby d2_153) (by first | rfl | decide) (Nat.le_refl _) (Nat.le_refl _) (by rw [e23]; exact hQ)
                            ·
                              rw [if_neg hc145_24] at hQ
                              refine own_go (S' := (T23.setTop (mkF m 148 #[.val (.int l0)] []))) (fun t k => XS.ifNo X23.here hx rfl (hb hby d2_145) rfl ((if0 _ _).trans (feq hc145_24).1) k) ?_
                              refine own_go (S' := (T23.setTop (mkF m 149 #[.val (.int l0)] [(.int (1 : Int32))]))) (fun t k => XT.iconstV X23.here hx rfl (1 : Int32) (hb hby d2_148) (by decide) k) ?_
                              refine own_go (S' := (T23.setTop (mkF m 153 #[.val (.int l0)] [(.int (1 : Int32))]))) (fun t k => XS.goto X23.here hx rfl (pc0 := 149) (pc' := 153) rfl (hb hby d2_149) (by decide) (by decide) k) ?_
                              exact own_retN X23 hx hret hlk (by simp) (hb hby d2_153) (by first | rfl | decide) (Nat.le_refl _) (Nat.le_refl _) (by rw [e23]; exact hQ)
                          ·
                            rw [if_neg hc134_22] at hQ
                            refine own_go (S' := (T21.setTop (mkF m 148 #[.val (.int l0)] []))) (fun t k => XS.ifYes X21.here hx rfl (pc0 := 134) (pc' := 148) rfl (hb hby d2_134) rfl ((if0 _ _).trans (feq hc134_22).2) (by decide) (by decide) k) ?_
                            refine own_go (S' := (T21.setTop (mkF m 149 #[.val (.int l0)] [(.int (1 : Int32))]))) (fun t k => XT.iconstV X21.here hx rfl (1 : Int32) (hb hby d2_148) (by decide) k) ?_
                            refine own_go (S' := (T21.setTop (mkF m 153 #[.val (.int l0)] [(.int (1 : Int32))]))) (fun t k => XS.goto X21.here hx rfl (pc0 := 149) (pc' := 153) rfl (hb hby d2_149) (by decide) (by decide) k) ?_
                            exact own_retN X21 hx hret hlk (by simp) (hb hby d2_153) (by first | rfl | decide) (Nat.le_refl _) (Nat.le_refl _) (by rw [e21]; exact hQ)
                        ·
                          rw [if_neg hc123_20] at hQ
                          refine own_go (S' := (T19.setTop (mkF m 148 #[.val (.int l0)] []))) (fun t k => XS.ifYes X19.here hx rfl (pc0 := 123) (pc' := 148) rfl (hb hby d2_123) rfl ((if0 _ _).trans (feq hc123_20).2) (by decide) (by decide) k) ?_
                          refine own_go (S' := (T19.setTop (mkF m 149 #[.val (.int l0)] [(.int (1 : Int32))]))) (fun t k => XT.iconstV X19.here hx rfl (1 : Int32) (hb hby d2_148) (by decide) k) ?_
                          refine own_go (S' := (T19.setTop (mkF m 153 #[.val (.int l0)] [(.int (1 : Int32))]))) (fun t k => XS.goto X19.here hx rfl (pc0 := 149) (pc' := 153) rfl (hb hby d2_149) (by decide) (by decide) k) ?_
                          exact own_retN X19 hx hret hlk (by simp) (hb hby d2_153) (by first | rfl | decide) (Nat.le_refl _) (Nat.le_refl _) (by rw [e19]; exact hQ)
                      ·
                        rw [if_neg hc112_18] at hQ
                        refine own_go (S' := (T17.setTop (mkF m 148 #[.val (.int l0)] []))) (fun t k => XS.ifYes X17.here hx rfl (pc0 := 112) (pc' := 148) rfl (hb hby d2_112) rfl ((if0 _ _).trans (feq hc112_18).2) (by decide) (by decide) k) ?_
                        refine own_go (S' := (T17.setTop (mkF m 149 #[.val (.int l0)] [(.int (1 : Int32))]))) (fun t k => XT.iconstV X17.here hx rfl (1 : Int32) (hb hby d2_148) (by decide) k) ?_
                        refine own_go (S' := (T17.setTop (mkF m 153 #[.val (.int l0)] [(.int (1 : Int32))]))) (fun t k => XS.goto X17.here hx rfl (pc0 := 149) (pc' := 153) rfl (hb hby d2_149) (by decide) (by decide) k) ?_
                        exact own_retN X17 hx hret hlk (by simp) (hb hby d2_153) (by first | rfl | decide) (Nat.le_refl _) (Nat.le_refl _) (by rw [e17]; exact hQ)
                    ·
                      rw [if_neg hc99_16] at hQ
                      refine own_go (S' := (T15.setTop (mkF m 148 #[.val (.int l0)] []))) (fun t k => XS.ifYes X15.here hx rfl (pc0 := 99) (pc' := 148) rfl (hb hby d2_99) rfl ((if0 _ _).trans (feq hc99_16).2) (by decide) (by decide) k) ?_
                      refine own_go (S' := (T15.setTop (mkF m 149 #[.val (.int l0)] [(.int (1 : Int32))]))) (fun t k => XT.iconstV X15.here hx rfl (1 : Int32) (hb hby d2_148) (by decide) k) ?_
                      refine own_go (S' := (T15.setTop (mkF m 153 #[.val (.int l0)] [(.int (1 : Int32))]))) (fun t k => XS.goto X15.here hx rfl (pc0 := 149) (pc' := 153) rfl (hb hby d2_149) (by decide) (by decide) k) ?_
                      exact own_retN X15 hx hret hlk (by simp) (hb hby d2_153) (by first | rfl | decide) (Nat.le_refl _) (Nat.le_refl _) (by rw [e15]; exact hQ)
                  ·
                    rw [if_neg hc86_14] at hQ
                    refine own_go (S' := (T13.setTop (mkF m 148 #[.val (.int l0)] []))) (fun t k => XS.ifYes X13.here hx rfl (pc0 := 86) (pc' := 148) rfl (hb hby d2_86) rfl ((if0 _ _).trans (feq hc86_14).2) (by decide) (by decide) k) ?_
                    refine own_go (S' := (T13.setTop (mkF m 149 #[.val (.int l0)] [(.int (1 : Int32))]))) (fun t k => XT.iconstV X13.here hx rfl (1 : Int32) (hb hby d2_148) (by decide) k) ?_
                    refine own_go (S' := (T13.setTop (mkF m 153 #[.val (.int l0)] [(.int (1 : Int32))]))) (fun t k => XS.goto X13.here hx rfl (pc0 := 149) (pc' := 153) rfl (hb hby d2_149) (by decide) (by decide) k) ?_
                    exact own_retN X13 hx hret hlk (by simp) (hb hby d2_153) (by first | rfl | decide) (Nat.le_refl _) (Nat.le_refl _) (by rw [e13]; exact hQ)
                ·
                  rw [if_neg hc73_12] at hQ
                  refine own_go (S' := (T11.setTop (mkF m 148 #[.val (.int l0)] []))) (fun t k => XS.ifYes X11.here hx rfl (pc0 := 73) (pc' := 148) rfl (hb hby d2_73) rfl ((if0 _ _).trans (feq hc73_12).2) (by decide) (by decide) k) ?_
                  refine own_go (S' := (T11.setTop (mkF m 149 #[.val (.int l0)] [(.int (1 : Int32))]))) (fun t k => XT.iconstV X11.here hx rfl (1 : Int32) (hb hby d2_148) (by decide) k) ?_
                  refine own_go (S' := (T11.setTop (mkF m 153 #[.val (.int l0)] [(.int (1 : Int32))]))) (fun t k => XS.goto X11.here hx rfl (pc0 := 149) (pc' := 153) rfl (hb hby d2_149) (by decide) (by decide) k) ?_
                  exact own_retN X11 hx hret hlk (by simp) (hb hby d2_153) (by first | rfl | decide) (Nat.le_refl _) (Nat.le_refl _) (by rw [e11]; exact hQ)
            ·
              rw [if_neg hc53_9] at hQ
              refine own_go (S' := (T8.setTop (mkF m 148 #[.val (.int l0)] []))) (fun t k => XS.ifYes X8.here hx rfl (pc0 := 53) (pc' := 148) rfl (hb hby d2_53) rfl ((if0 _ _).trans (feq hc53_9).2) (by decide) (by decide) k) ?_
              refine own_go (S' := (T8.setTop (mkF m 149 #[.val (.int l0)] [(.int (1 : Int32))]))) (fun t k => XT.iconstV X8.here hx rfl (1 : Int32) (hb hby d2_148) (by decide) k) ?_
              refine own_go (S' := (T8.setTop (mkF m 153 #[.val (.int l0)] [(.int (1 : Int32))]))) (fun t k => XS.goto X8.here hx rfl (pc0 := 149) (pc' := 153) rfl (hb hby d2_149) (by decide) (by decide) k) ?_
              exact own_retN X8 hx hret hlk (by simp) (hb hby d2_153) (by first | rfl | decide) (Nat.le_refl _) (Nat.le_refl _) (by rw [e8]; exact hQ)
      ·
        rw [if_neg hc26_5] at hQ
        refine own_go (S' := (T4.setTop (mkF m 148 #[.val (.int l0)] []))) (fun t k => XS.ifYes X4.here hx rfl (pc0 := 26) (pc' := 148) rfl (hb hby d2_26) rfl ((if0 _ _).trans (feq hc26_5).2) (by decide) (by decide) k) ?_
        refine own_go (S' := (T4.setTop (mkF m 149 #[.val (.int l0)] [(.int (1 : Int32))]))) (fun t k => XT.iconstV X4.here hx rfl (1 : Int32) (hb hby d2_148) (by decide) k) ?_
        refine own_go (S' := (T4.setTop (mkF m 153 #[.val (.int l0)] [(.int (1 : Int32))]))) (fun t k => XS.goto X4.here hx rfl (pc0 := 149) (pc' := 153) rfl (hb hby d2_149) (by decide) (by decide) k) ?_
        exact own_retN X4 hx hret hlk (by simp) (hb hby d2_153) (by first | rfl | decide) (Nat.le_refl _) (Nat.le_refl _) (by rw [e4]; exact hQ)
  ·
    rw [if_neg hc8_2] at hQ
    refine own_go (S' := (T1.setTop (mkF m 148 #[.val (.int l0)] []))) (fun t k => XS.ifYes X1.here hx rfl (pc0 := 8) (pc' := 148) rfl (hb hby d2_8) rfl ((if0 _ _).trans (feq hc8_2).2) (by decide) (by decide) k) ?_
    refine own_go (S' := (T1.setTop (mkF m 149 #[.val (.int l0)] [(.int (1 : Int32))]))) (fun t k => XT.iconstV X1.here hx rfl (1 : Int32) (hb hby d2_148) (by decide) k) ?_
    refine own_go (S' := (T1.setTop (mkF m 153 #[.val (.int l0)] [(.int (1 : Int32))]))) (fun t k => XS.goto X1.here hx rfl (pc0 := 149) (pc' := 153) rfl (hb hby d2_149) (by decide) (by decide) k) ?_
    exact own_retN X1 hx hret hlk (by simp) (hb hby d2_153) (by first | rfl | decide) (Nat.le_refl _) (Nat.le_refl _) (by rw [e1]; exact hQ)
theorem pn_2 : plainName "com/example/parley/parley/XmlCharsIsNameStartPinLaw" = true := by first | (simp [plainName, overriddenIn]; done) | decide +kernel
theorem ef_2 (m : MethodId) (l0 : Int32) : entryFrame m #[(.int l0)] 1 = mkF m 0 #[.val (.int l0)] [] := by first | (simp [entryFrame, mkF, argsToLocals, Value.category]; done) | rfl
set_option maxRecDepth 65536 in
theorem rm2 (l : Launch) (Z : State) (a0 : Array Value) (hw : ∀ d ∈ tables_1, d.before a0 Z = true) (l0 : Int32) (h0 : Heap) : own_C l Z (⟨"com/example/parley/parley/XmlCharsIsNameStartPinLaw", "inGap", "(I)Z"⟩ : MethodName) method_3_code 1 (some .boolean) ({ frames := 1, cells := 0, slots := 0, locals := 14 } : Room) #[(.int l0)] h0 (own_P h0 (some (.int (f2_0 l0)))) := by
  refine MetFree.of_bodySF (plainFor_of_name pn_2) hisR ?_
  intro p e s m args below meth c s₁ Bd hml hP hK
  obtain ⟨rfl, hZ, hh⟩ := hP
  show own_End p e below s (own_P h0 (some (.int (f2_0 l0)))) 0 0 (s₁.setTop (entryFrame m #[(.int l0)] 1))
  exact own_cast (ef_2 m l0) (w2_0 (Stand.of_body Bd) Bd.exec Bd.bytes hml Bd.returns (BodyLoose.notSynchronized Bd) (findClass_of_methodNamed Bd.named) hZ hw (by rw [← hh, Bd.state]; rfl) l0 ⟨rfl, rfl, rfl⟩)
theorem d1_0 : decode prog_97_method_10_code 0 = .ok (.iload_n 0, 1) := by decide +kernel
theorem d1_1 : decode prog_97_method_10_code 1 = .ok (.bipush 65, 2) := by decide +kernel
theorem d1_3 : decode prog_97_method_10_code 3 = .ok (.if_icmp .lt 9, 3) := by decide +kernel
theorem d1_6 : decode prog_97_method_10_code 6 = .ok (.iload_n 0, 1) := by decide +kernel
theorem d1_7 : decode prog_97_method_10_code 7 = .ok (.bipush 90, 2) := by decide +kernel
theorem d1_9 : decode prog_97_method_10_code 9 = .ok (.if_icmp .le 182, 3) := by decide +kernel
theorem d1_12 : decode prog_97_method_10_code 12 = .ok (.iload_n 0, 1) := by decide +kernel
theorem d1_13 : decode prog_97_method_10_code 13 = .ok (.bipush 95, 2) := by decide +kernel
theorem d1_15 : decode prog_97_method_10_code 15 = .ok (.if_icmp .eq 176, 3) := by decide +kernel
theorem d1_18 : decode prog_97_method_10_code 18 = .ok (.iload_n 0, 1) := by decide +kernel
theorem d1_19 : decode prog_97_method_10_code 19 = .ok (.bipush 97, 2) := by decide +kernel
theorem d1_21 : decode prog_97_method_10_code 21 = .ok (.if_icmp .lt 9, 3) := by decide +kernel
theorem d1_24 : decode prog_97_method_10_code 24 = .ok (.iload_n 0, 1) := by decide +kernel
theorem d1_25 : decode prog_97_method_10_code 25 = .ok (.bipush 122, 2) := by decide +kernel
theorem d1_27 : decode prog_97_method_10_code 27 = .ok (.if_icmp .le 164, 3) := by decide +kernel
theorem d1_30 : decode prog_97_method_10_code 30 = .ok (.iload_n 0, 1) := by decide +kernel
theorem d1_31 : decode prog_97_method_10_code 31 = .ok (.sipush 192, 3) := by decide +kernel
theorem d1_34 : decode prog_97_method_10_code 34 = .ok (.if_icmp .lt 10, 3) := by decide +kernel
theorem d1_37 : decode prog_97_method_10_code 37 = .ok (.iload_n 0, 1) := by decide +kernel
theorem d1_38 : decode prog_97_method_10_code 38 = .ok (.sipush 214, 3) := by decide +kernel
theorem d1_41 : decode prog_97_method_10_code 41 = .ok (.if_icmp .le 150, 3) := by decide +kernel
theorem d1_44 : decode prog_97_method_10_code 44 = .ok (.iload_n 0, 1) := by decide +kernel
theorem d1_45 : decode prog_97_method_10_code 45 = .ok (.sipush 216, 3) := by decide +kernel
theorem d1_48 : decode prog_97_method_10_code 48 = .ok (.if_icmp .lt 10, 3) := by decide +kernel
theorem d1_51 : decode prog_97_method_10_code 51 = .ok (.iload_n 0, 1) := by decide +kernel
theorem d1_52 : decode prog_97_method_10_code 52 = .ok (.sipush 246, 3) := by decide +kernel
theorem d1_55 : decode prog_97_method_10_code 55 = .ok (.if_icmp .le 136, 3) := by decide +kernel
theorem d1_58 : decode prog_97_method_10_code 58 = .ok (.iload_n 0, 1) := by decide +kernel
theorem d1_59 : decode prog_97_method_10_code 59 = .ok (.sipush 248, 3) := by decide +kernel
theorem d1_62 : decode prog_97_method_10_code 62 = .ok (.if_icmp .lt 10, 3) := by decide +kernel
theorem d1_65 : decode prog_97_method_10_code 65 = .ok (.iload_n 0, 1) := by decide +kernel
theorem d1_66 : decode prog_97_method_10_code 66 = .ok (.sipush 767, 3) := by decide +kernel
theorem d1_69 : decode prog_97_method_10_code 69 = .ok (.if_icmp .le 122, 3) := by decide +kernel
theorem d1_72 : decode prog_97_method_10_code 72 = .ok (.iload_n 0, 1) := by decide +kernel
theorem d1_73 : decode prog_97_method_10_code 73 = .ok (.sipush 880, 3) := by decide +kernel
theorem d1_76 : decode prog_97_method_10_code 76 = .ok (.if_icmp .lt 10, 3) := by decide +kernel
theorem d1_79 : decode prog_97_method_10_code 79 = .ok (.iload_n 0, 1) := by decide +kernel
theorem d1_80 : decode prog_97_method_10_code 80 = .ok (.sipush 893, 3) := by decide +kernel
theorem d1_83 : decode prog_97_method_10_code 83 = .ok (.if_icmp .le 108, 3) := by decide +kernel
theorem d1_86 : decode prog_97_method_10_code 86 = .ok (.iload_n 0, 1) := by decide +kernel
theorem d1_87 : decode prog_97_method_10_code 87 = .ok (.sipush 895, 3) := by decide +kernel
theorem d1_90 : decode prog_97_method_10_code 90 = .ok (.if_icmp .lt 10, 3) := by decide +kernel
theorem d1_93 : decode prog_97_method_10_code 93 = .ok (.iload_n 0, 1) := by decide +kernel
theorem d1_94 : decode prog_97_method_10_code 94 = .ok (.sipush 8191, 3) := by decide +kernel
theorem d1_97 : decode prog_97_method_10_code 97 = .ok (.if_icmp .le 94, 3) := by decide +kernel
theorem d1_100 : decode prog_97_method_10_code 100 = .ok (.iload_n 0, 1) := by decide +kernel
theorem d1_101 : decode prog_97_method_10_code 101 = .ok (.sipush 8204, 3) := by decide +kernel
theorem d1_104 : decode prog_97_method_10_code 104 = .ok (.if_icmp .lt 10, 3) := by decide +kernel
theorem d1_107 : decode prog_97_method_10_code 107 = .ok (.iload_n 0, 1) := by decide +kernel
theorem d1_108 : decode prog_97_method_10_code 108 = .ok (.sipush 8205, 3) := by decide +kernel
theorem d1_111 : decode prog_97_method_10_code 111 = .ok (.if_icmp .le 80, 3) := by decide +kernel
theorem d1_114 : decode prog_97_method_10_code 114 = .ok (.iload_n 0, 1) := by decide +kernel
theorem d1_115 : decode prog_97_method_10_code 115 = .ok (.sipush 8304, 3) := by decide +kernel
theorem d1_118 : decode prog_97_method_10_code 118 = .ok (.if_icmp .lt 10, 3) := by decide +kernel
theorem d1_121 : decode prog_97_method_10_code 121 = .ok (.iload_n 0, 1) := by decide +kernel
theorem d1_122 : decode prog_97_method_10_code 122 = .ok (.sipush 8591, 3) := by decide +kernel
theorem d1_125 : decode prog_97_method_10_code 125 = .ok (.if_icmp .le 66, 3) := by decide +kernel
theorem d1_128 : decode prog_97_method_10_code 128 = .ok (.iload_n 0, 1) := by decide +kernel
theorem d1_129 : decode prog_97_method_10_code 129 = .ok (.sipush 11264, 3) := by decide +kernel
theorem d1_132 : decode prog_97_method_10_code 132 = .ok (.if_icmp .lt 10, 3) := by decide +kernel
theorem d1_135 : decode prog_97_method_10_code 135 = .ok (.iload_n 0, 1) := by decide +kernel
theorem d1_136 : decode prog_97_method_10_code 136 = .ok (.sipush 12271, 3) := by decide +kernel
theorem d1_139 : decode prog_97_method_10_code 139 = .ok (.if_icmp .le 52, 3) := by decide +kernel
theorem d1_142 : decode prog_97_method_10_code 142 = .ok (.iload_n 0, 1) := by decide +kernel
theorem d1_143 : decode prog_97_method_10_code 143 = .ok (.sipush 12289, 3) := by decide +kernel
theorem d1_146 : decode prog_97_method_10_code 146 = .ok (.if_icmp .lt 9, 3) := by decide +kernel
theorem d1_149 : decode prog_97_method_10_code 149 = .ok (.iload_n 0, 1) := by decide +kernel
theorem d1_150 : decode prog_97_method_10_code 150 = .ok (.ldc 60, 2) := by decide +kernel
theorem d1_152 : decode prog_97_method_10_code 152 = .ok (.if_icmp .le 39, 3) := by decide +kernel
theorem d1_155 : decode prog_97_method_10_code 155 = .ok (.iload_n 0, 1) := by decide +kernel
theorem d1_156 : decode prog_97_method_10_code 156 = .ok (.ldc 95, 2) := by decide +kernel
theorem d1_158 : decode prog_97_method_10_code 158 = .ok (.if_icmp .lt 9, 3) := by decide +kernel
theorem d1_161 : decode prog_97_method_10_code 161 = .ok (.iload_n 0, 1) := by decide +kernel
theorem d1_162 : decode prog_97_method_10_code 162 = .ok (.ldc 96, 2) := by decide +kernel
theorem d1_164 : decode prog_97_method_10_code 164 = .ok (.if_icmp .le 27, 3) := by decide +kernel
theorem d1_167 : decode prog_97_method_10_code 167 = .ok (.iload_n 0, 1) := by decide +kernel
theorem d1_168 : decode prog_97_method_10_code 168 = .ok (.ldc 97, 2) := by decide +kernel
theorem d1_170 : decode prog_97_method_10_code 170 = .ok (.if_icmp .lt 9, 3) := by decide +kernel
theorem d1_173 : decode prog_97_method_10_code 173 = .ok (.iload_n 0, 1) := by decide +kernel
theorem d1_174 : decode prog_97_method_10_code 174 = .ok (.ldc 62, 2) := by decide +kernel
theorem d1_176 : decode prog_97_method_10_code 176 = .ok (.if_icmp .le 15, 3) := by decide +kernel
theorem d1_179 : decode prog_97_method_10_code 179 = .ok (.iload_n 0, 1) := by decide +kernel
theorem d1_180 : decode prog_97_method_10_code 180 = .ok (.ldc 63, 2) := by decide +kernel
theorem d1_182 : decode prog_97_method_10_code 182 = .ok (.if_icmp .lt 13, 3) := by decide +kernel
theorem d1_185 : decode prog_97_method_10_code 185 = .ok (.iload_n 0, 1) := by decide +kernel
theorem d1_186 : decode prog_97_method_10_code 186 = .ok (.ldc 98, 2) := by decide +kernel
theorem d1_188 : decode prog_97_method_10_code 188 = .ok (.if_icmp .gt 7, 3) := by decide +kernel
theorem d1_191 : decode prog_97_method_10_code 191 = .ok (.iconst 1, 1) := by decide +kernel
theorem d1_192 : decode prog_97_method_10_code 192 = .ok (.goto 4, 3) := by decide +kernel
theorem d1_195 : decode prog_97_method_10_code 195 = .ok (.iconst 0, 1) := by decide +kernel
theorem d1_196 : decode prog_97_method_10_code 196 = .ok (.ireturn, 1) := by decide +kernel
def f1_179 (l0 : Int32) : Int32 := (if l0 < (65536 : Int32) then (0 : Int32) else (if (983039 : Int32) < l0 then (0 : Int32) else (1 : Int32)))
def f1_167 (l0 : Int32) : Int32 := (if l0 < (65008 : Int32) then (f1_179 l0) else (if (65533 : Int32) < l0 then (f1_179 l0) else (1 : Int32)))
def f1_155 (l0 : Int32) : Int32 := (if l0 < (63744 : Int32) then (f1_167 l0) else (if (64975 : Int32) < l0 then (f1_167 l0) else (1 : Int32)))
def f1_142 (l0 : Int32) : Int32 := (if l0 < (12289 : Int32) then (f1_155 l0) else (if (55295 : Int32) < l0 then (f1_155 l0) else (1 : Int32)))
def f1_128 (l0 : Int32) : Int32 := (if l0 < (11264 : Int32) then (f1_142 l0) else (if (12271 : Int32) < l0 then (f1_142 l0) else (1 : Int32)))
def f1_114 (l0 : Int32) : Int32 := (if l0 < (8304 : Int32) then (f1_128 l0) else (if (8591 : Int32) < l0 then (f1_128 l0) else (1 : Int32)))
def f1_100 (l0 : Int32) : Int32 := (if l0 < (8204 : Int32) then (f1_114 l0) else (if (8205 : Int32) < l0 then (f1_114 l0) else (1 : Int32)))
def f1_86 (l0 : Int32) : Int32 := (if l0 < (895 : Int32) then (f1_100 l0) else (if (8191 : Int32) < l0 then (f1_100 l0) else (1 : Int32)))
def f1_72 (l0 : Int32) : Int32 := (if l0 < (880 : Int32) then (f1_86 l0) else (if (893 : Int32) < l0 then (f1_86 l0) else (1 : Int32)))
def f1_58 (l0 : Int32) : Int32 := (if l0 < (248 : Int32) then (f1_72 l0) else (if (767 : Int32) < l0 then (f1_72 l0) else (1 : Int32)))
def f1_44 (l0 : Int32) : Int32 := (if l0 < (216 : Int32) then (f1_58 l0) else (if (246 : Int32) < l0 then (f1_58 l0) else (1 : Int32)))
def f1_30 (l0 : Int32) : Int32 := (if l0 < (192 : Int32) then (f1_44 l0) else (if (214 : Int32) < l0 then (f1_44 l0) else (1 : Int32)))
def f1_12 (l0 : Int32) : Int32 := (if l0 = (95 : Int32) then (1 : Int32) else (if l0 < (97 : Int32) then (f1_30 l0) else (if (122 : Int32) < l0 then (f1_30 l0) else (1 : Int32))))
def f1_0 (l0 : Int32) : Int32 := (if l0 < (65 : Int32) then (f1_12 l0) else (if (90 : Int32) < l0 then (f1_12 l0) else (1 : Int32)))
set_option maxRecDepth 65536 in
set_option maxHeartbeats 40000000 in
theorem w1_179 {p : Program} {l : Launch} {e : Env} {s : State} {m : MethodId} {args : Array Value} {below : List Frame} {meth : Method} {c : Code} {T0 : State} {locs : List Loc} {Z : State} {a0 : Array Value} {h0 : Heap} {Q : Option Value → Heap → List Loc → Prop}
    (X0 : Stand p l e ({ frames := 0, cells := 0, slots := 0, locals := 0 } : Room) s m args below meth c T0 locs 0 0) (hx : p.tables.exec = Jvm.exec) (hby : c.code = prog_97_method_10_code) (hml : c.maxLocals = 1) (hret : meth.sig.returnType = (some .boolean)) (hlk : meth.locks = false) (hown : s.vm.findClass "com/example/parley/parley/XmlChars" = some m.cls) (hZ : Z.Warmed39 s.vm) (hw : ∀ d ∈ tables_1, d.before a0 Z = true) (e0 : T0.heap = h0)
    (l0 : Int32) (hQ : Q (some (.int (f1_179 l0))) h0 locs) : own_End p e below s Q 0 0 (T0.setTop (mkF m 179 #[.val (.int l0)] [])) := by
  unfold f1_179 at hQ
  refine own_go (S' := (T0.setTop (mkF m 180 #[.val (.int l0)] [(.int l0)]))) (fun t k => XS.iloadN X0.here hx rfl (hb hby d1_179) rfl k) ?_
  refine own_go (S' := (T0.setTop (mkF m 182 #[.val (.int l0)] [(.int (65536 : Int32)), (.int l0)]))) (fun t k => Stand.ldcI X0 hx hown (mvT hZ (hw _ (List.mem_of_getElem? (i := 8) rfl))) rfl (hb hby d1_180) k) ?_
  by_cases hc182_1 : l0 < (65536 : Int32)
  ·
    rw [if_pos hc182_1] at hQ
    refine own_go (S' := (T0.setTop (mkF m 195 #[.val (.int l0)] []))) (fun t k => XS.icmpYes X0.here hx rfl (pc0 := 182) (pc' := 195) rfl (hb hby d1_182) rfl (tlt hc182_1).1 (by decide) (by decide) k) ?_
    refine own_go (S' := (T0.setTop (mkF m 196 #[.val (.int l0)] [(.int (0 : Int32))]))) (fun t k => XT.iconstV X0.here hx rfl (0 : Int32) (hb hby d1_195) (by decide) k) ?_
    exact own_retN X0 hx hret hlk (by simp) (hb hby d1_196) (by first | rfl | decide) (Nat.le_refl _) (Nat.le_refl _) (by rw [e0]; exact hQ)
  ·
    rw [if_neg hc182_1] at hQ
    refine own_go (S' := (T0.setTop (mkF m 185 #[.val (.int l0)] []))) (fun t k => XS.icmpNo X0.here hx rfl (hb hby d1_182) rfl (flt hc182_1).1 k) ?_
    refine own_go (S' := (T0.setTop (mkF m 186 #[.val (.int l0)] [(.int l0)]))) (fun t k => XS.iloadN X0.here hx rfl (hb hby d1_185) rfl k) ?_
    refine own_go (S' := (T0.setTop (mkF m 188 #[.val (.int l0)] [(.int (983039 : Int32)), (.int l0)]))) (fun t k => Stand.ldcI X0 hx hown (mvT hZ (hw _ (List.mem_of_getElem? (i := 26) rfl))) rfl (hb hby d1_186) k) ?_
    by_cases hc188_2 : (983039 : Int32) < l0
    ·
      rw [if_pos hc188_2] at hQ
      refine own_go (S' := (T0.setTop (mkF m 195 #[.val (.int l0)] []))) (fun t k => XS.icmpYes X0.here hx rfl (pc0 := 188) (pc' := 195) rfl (hb hby d1_188) rfl (tlt hc188_2).2.2.1 (by decide) (by decide) k) ?_
      refine own_go (S' := (T0.setTop (mkF m 196 #[.val (.int l0)] [(.int (0 : Int32))]))) (fun t k => XT.iconstV X0.here hx rfl (0 : Int32) (hb hby d1_195) (by decide) k) ?_
      exact own_retN X0 hx hret hlk (by simp) (hb hby d1_196) (by first | rfl | decide) (Nat.le_refl _) (Nat.le_refl _) (by rw [e0]; exact hQ)
    ·
      rw [if_neg hc188_2] at hQ
      refine own_go (S' := (T0.setTop (mkF m 191 #[.val (.int l0)] []))) (fun t k => XS.icmpNo X0.here hx rfl (hb hby d1_188) rfl (flt hc188_2).2.2.1 k) ?_
      refine own_go (S' := (T0.setTop (mkF m 192 #[.val (.int l0)] [(.int (1 : Int32))]))) (fun t k => XT.iconstV X0.here hx rfl (1 : Int32) (hb hby d1_191) (by decide) k) ?_
      refine own_go (S' := (T0.setTop (mkF m 196 #[.val (.int l0)] [(.int (1 : Int32))]))) (fun t k => XS.goto X0.here hx rfl (pc0 := 192) (pc' := 196) rfl (hb hby d1_192) (by decide) (by decide) k) ?_
      exact own_retN X0 hx hret hlk (by simp) (hb hby d1_196) (by first | rfl | decide) (Nat.le_refl _) (Nat.le_refl _) (by rw [e0]; exact hQ)
set_option maxRecDepth 65536 in
set_option maxHeartbeats 40000000 in
theorem w1_167 {p : Program} {l : Launch} {e : Env} {s : State} {m : MethodId} {args : Array Value} {below : List Frame} {meth : Method} {c : Code} {T0 : State} {locs : List Loc} {Z : State} {a0 : Array Value} {h0 : Heap} {Q : Option Value → Heap → List Loc → Prop}
    (X0 : Stand p l e ({ frames := 0, cells := 0, slots := 0, locals := 0 } : Room) s m args below meth c T0 locs 0 0) (hx : p.tables.exec = Jvm.exec) (hby : c.code = prog_97_method_10_code) (hml : c.maxLocals = 1) (hret : meth.sig.returnType = (some .boolean)) (hlk : meth.locks = false) (hown : s.vm.findClass "com/example/parley/parley/XmlChars" = some m.cls) (hZ : Z.Warmed39 s.vm) (hw : ∀ d ∈ tables_1, d.before a0 Z = true) (e0 : T0.heap = h0)
    (l0 : Int32) (hQ : Q (some (.int (f1_167 l0))) h0 locs) : own_End p e below s Q 0 0 (T0.setTop (mkF m 167 #[.val (.int l0)] [])) := by
  unfold f1_167 at hQ
  refine own_go (S' := (T0.setTop (mkF m 168 #[.val (.int l0)] [(.int l0)]))) (fun t k => XS.iloadN X0.here hx rfl (hb hby d1_167) rfl k) ?_
  refine own_go (S' := (T0.setTop (mkF m 170 #[.val (.int l0)] [(.int (65008 : Int32)), (.int l0)]))) (fun t k => Stand.ldcI X0 hx hown (mvT hZ (hw _ (List.mem_of_getElem? (i := 7) rfl))) rfl (hb hby d1_168) k) ?_
  by_cases hc170_1 : l0 < (65008 : Int32)
  ·
    rw [if_pos hc170_1] at hQ
    refine own_go (S' := (T0.setTop (mkF m 179 #[.val (.int l0)] []))) (fun t k => XS.icmpYes X0.here hx rfl (pc0 := 170) (pc' := 179) rfl (hb hby d1_170) rfl (tlt hc170_1).1 (by decide) (by decide) k) ?_
    exact w1_179 X0 hx hby hml hret hlk hown hZ hw e0 l0 hQ
  ·
    rw [if_neg hc170_1] at hQ
    refine own_go (S' := (T0.setTop (mkF m 173 #[.val (.int l0)] []))) (fun t k => XS.icmpNo X0.here hx rfl (hb hby d1_170) rfl (flt hc170_1).1 k) ?_
    refine own_go (S' := (T0.setTop (mkF m 174 #[.val (.int l0)] [(.int l0)]))) (fun t k => XS.iloadN X0.here hx rfl (hb hby d1_173) rfl k) ?_
    refine own_go (S' := (T0.setTop (mkF m 176 #[.val (.int l0)] [(.int (65533 : Int32)), (.int l0)]))) (fun t k => Stand.ldcI X0 hx hown (mvT hZ (hw _ (List.mem_of_getElem? (i := 25) rfl))) rfl (hb hby d1_174) k) ?_
    by_cases hc176_2 : (65533 : Int32) < l0
    ·
      rw [if_pos hc176_2] at hQ
      refine own_go (S' := (T0.setTop (mkF m 179 #[.val (.int l0)] []))) (fun t k => XS.icmpNo X0.here hx rfl (hb hby d1_176) rfl (tlt hc176_2).2.2.2 k) ?_
      exact w1_179 X0 hx hby hml hret hlk hown hZ hw e0 l0 hQ
    ·
      rw [if_neg hc176_2] at hQ
      refine own_go (S' := (T0.setTop (mkF m 191 #[.val (.int l0)] []))) (fun t k => XS.icmpYes X0.here hx rfl (pc0 := 176) (pc' := 191) rfl (hb hby d1_176) rfl (flt hc176_2).2.2.2 (by decide) (by decide) k) ?_
      refine own_go (S' := (T0.setTop (mkF m 192 #[.val (.int l0)] [(.int (1 : Int32))]))) (fun t k => XT.iconstV X0.here hx rfl (1 : Int32) (hb hby d1_191) (by decide) k) ?_
      refine own_go (S' := (T0.setTop (mkF m 196 #[.val (.int l0)] [(.int (1 : Int32))]))) (fun t k => XS.goto X0.here hx rfl (pc0 := 192) (pc' := 196) rfl (hb hby d1_192) (by decide) (by decide) k) ?_
      exact own_retN X0 hx hret hlk (by simp) (hb hby d1_196) (by first | rfl | decide) (Nat.le_refl _) (Nat.le_refl _) (by rw [e0]; exact hQ)
set_option maxRecDepth 65536 in
set_option maxHeartbeats 40000000 in
theorem w1_155 {p : Program} {l : Launch} {e : Env} {s : State} {m : MethodId} {args : Array Value} {below : List Frame} {meth : Method} {c : Code} {T0 : State} {locs : List Loc} {Z : State} {a0 : Array Value} {h0 : Heap} {Q : Option Value → Heap → List Loc → Prop}
    (X0 : Stand p l e ({ frames := 0, cells := 0, slots := 0, locals := 0 } : Room) s m args below meth c T0 locs 0 0) (hx : p.tables.exec = Jvm.exec) (hby : c.code = prog_97_method_10_code) (hml : c.maxLocals = 1) (hret : meth.sig.returnType = (some .boolean)) (hlk : meth.locks = false) (hown : s.vm.findClass "com/example/parley/parley/XmlChars" = some m.cls) (hZ : Z.Warmed39 s.vm) (hw : ∀ d ∈ tables_1, d.before a0 Z = true) (e0 : T0.heap = h0)
    (l0 : Int32) (hQ : Q (some (.int (f1_155 l0))) h0 locs) : own_End p e below s Q 0 0 (T0.setTop (mkF m 155 #[.val (.int l0)] [])) := by
  unfold f1_155 at hQ
  refine own_go (S' := (T0.setTop (mkF m 156 #[.val (.int l0)] [(.int l0)]))) (fun t k => XS.iloadN X0.here hx rfl (hb hby d1_155) rfl k) ?_
  refine own_go (S' := (T0.setTop (mkF m 158 #[.val (.int l0)] [(.int (63744 : Int32)), (.int l0)]))) (fun t k => Stand.ldcI X0 hx hown (mvT hZ (hw _ (List.mem_of_getElem? (i := 6) rfl))) rfl (hb hby d1_156) k) ?_
  by_cases hc158_1 : l0 < (63744 : Int32)
  ·
    rw [if_pos hc158_1] at hQ
    refine own_go (S' := (T0.setTop (mkF m 167 #[.val (.int l0)] []))) (fun t k => XS.icmpYes X0.here hx rfl (pc0 := 158) (pc' := 167) rfl (hb hby d1_158) rfl (tlt hc158_1).1 (by decide) (by decide) k) ?_
    exact w1_167 X0 hx hby hml hret hlk hown hZ hw e0 l0 hQ
  ·
    rw [if_neg hc158_1] at hQ
    refine own_go (S' := (T0.setTop (mkF m 161 #[.val (.int l0)] []))) (fun t k => XS.icmpNo X0.here hx rfl (hb hby d1_158) rfl (flt hc158_1).1 k) ?_
    refine own_go (S' := (T0.setTop (mkF m 162 #[.val (.int l0)] [(.int l0)]))) (fun t k => XS.iloadN X0.here hx rfl (hb hby d1_161) rfl k) ?_
    refine own_go (S' := (T0.setTop (mkF m 164 #[.val (.int l0)] [(.int (64975 : Int32)), (.int l0)]))) (fun t k => Stand.ldcI X0 hx hown (mvT hZ (hw _ (List.mem_of_getElem? (i := 24) rfl))) rfl (hb hby d1_162) k) ?_
    by_cases hc164_2 : (64975 : Int32) < l0
    ·
      rw [if_pos hc164_2] at hQ
      refine own_go (S' := (T0.setTop (mkF m 167 #[.val (.int l0)] []))) (fun t k => XS.icmpNo X0.here hx rfl (hb hby d1_164) rfl (tlt hc164_2).2.2.2 k) ?_
      exact w1_167 X0 hx hby hml hret hlk hown hZ hw e0 l0 hQ
    ·
      rw [if_neg hc164_2] at hQ
      refine own_go (S' := (T0.setTop (mkF m 191 #[.val (.int l0)] []))) (fun t k => XS.icmpYes X0.here hx rfl (pc0 := 164) (pc' := 191) rfl (hb hby d1_164) rfl (flt hc164_2).2.2.2 (by decide) (by decide) k) ?_
      refine own_go (S' := (T0.setTop (mkF m 192 #[.val (.int l0)] [(.int (1 : Int32))]))) (fun t k => XT.iconstV X0.here hx rfl (1 : Int32) (hb hby d1_191) (by decide) k) ?_
      refine own_go (S' := (T0.setTop (mkF m 196 #[.val (.int l0)] [(.int (1 : Int32))]))) (fun t k => XS.goto X0.here hx rfl (pc0 := 192) (pc' := 196) rfl (hb hby d1_192) (by decide) (by decide) k) ?_
      exact own_retN X0 hx hret hlk (by simp) (hb hby d1_196) (by first | rfl | decide) (Nat.le_refl _) (Nat.le_refl _) (by rw [e0]; exact hQ)
set_option maxRecDepth 65536 in
set_option maxHeartbeats 40000000 in
theorem w1_142 {p : Program} {l : Launch} {e : Env} {s : State} {m : MethodId} {args : Array Value} {below : List Frame} {meth : Method} {c : Code} {T0 : State} {locs : List Loc} {Z : State} {a0 : Array Value} {h0 : Heap} {Q : Option Value → Heap → List Loc → Prop}
    (X0 : Stand p l e ({ frames := 0, cells := 0, slots := 0, locals := 0 } : Room) s m args below meth c T0 locs 0 0) (hx : p.tables.exec = Jvm.exec) (hby : c.code = prog_97_method_10_code) (hml : c.maxLocals = 1) (hret : meth.sig.returnType = (some .boolean)) (hlk : meth.locks = false) (hown : s.vm.findClass "com/example/parley/parley/XmlChars" = some m.cls) (hZ : Z.Warmed39 s.vm) (hw : ∀ d ∈ tables_1, d.before a0 Z = true) (e0 : T0.heap = h0)
    (l0 : Int32) (hQ : Q (some (.int (f1_142 l0))) h0 locs) : own_End p e below s Q 0 0 (T0.setTop (mkF m 142 #[.val (.int l0)] [])) := by
  unfold f1_142 at hQ
  refine own_go (S' := (T0.setTop (mkF m 143 #[.val (.int l0)] [(.int l0)]))) (fun t k => XS.iloadN X0.here hx rfl (hb hby d1_142) rfl k) ?_
  refine own_go (S' := (T0.setTop (mkF m 146 #[.val (.int l0)] [(.int (12289 : Int32)), (.int l0)]))) (fun t k => XT.sipushV X0.here hx rfl (12289 : Int32) (hb hby d1_143) (by decide) k) ?_
  by_cases hc146_1 : l0 < (12289 : Int32)
  ·
    rw [if_pos hc146_1] at hQ
    refine own_go (S' := (T0.setTop (mkF m 155 #[.val (.int l0)] []))) (fun t k => XS.icmpYes X0.here hx rfl (pc0 := 146) (pc' := 155) rfl (hb hby d1_146) rfl (tlt hc146_1).1 (by decide) (by decide) k) ?_
    exact w1_155 X0 hx hby hml hret hlk hown hZ hw e0 l0 hQ
  ·
    rw [if_neg hc146_1] at hQ
    refine own_go (S' := (T0.setTop (mkF m 149 #[.val (.int l0)] []))) (fun t k => XS.icmpNo X0.here hx rfl (hb hby d1_146) rfl (flt hc146_1).1 k) ?_
    refine own_go (S' := (T0.setTop (mkF m 150 #[.val (.int l0)] [(.int l0)]))) (fun t k => XS.iloadN X0.here hx rfl (hb hby d1_149) rfl k) ?_
    refine own_go (S' := (T0.setTop (mkF m 152 #[.val (.int l0)] [(.int (55295 : Int32)), (.int l0)]))) (fun t k => Stand.ldcI X0 hx hown (mvT hZ (hw _ (List.mem_of_getElem? (i := 23) rfl))) rfl (hb hby d1_150) k) ?_
    by_cases hc152_2 : (55295 : Int32) < l0
    ·
      rw [if_pos hc152_2] at hQ
      refine own_go (S' := (T0.setTop (mkF m 155 #[.val (.int l0)] []))) (fun t k => XS.icmpNo X0.here hx rfl (hb hby d1_152) rfl (tlt hc152_2).2.2.2 k) ?_
      exact w1_155 X0 hx hby hml hret hlk hown hZ hw e0 l0 hQ
    ·
      rw [if_neg hc152_2] at hQ
      refine own_go (S' := (T0.setTop (mkF m 191 #[.val (.int l0)] []))) (fun t k => XS.icmpYes X0.here hx rfl (pc0 := 152) (pc' := 191) rfl (hb hby d1_152) rfl (flt hc152_2).2.2.2 (by decide) (by decide) k) ?_
      refine own_go (S' := (T0.setTop (mkF m 192 #[.val (.int l0)] [(.int (1 : Int32))]))) (fun t k => XT.iconstV X0.here hx rfl (1 : Int32) (hb hby d1_191) (by decide) k) ?_
      refine own_go (S' := (T0.setTop (mkF m 196 #[.val (.int l0)] [(.int (1 : Int32))]))) (fun t k => XS.goto X0.here hx rfl (pc0 := 192) (pc' := 196) rfl (hb hby d1_192) (by decide) (by decide) k) ?_
      exact own_retN X0 hx hret hlk (by simp) (hb hby d1_196) (by first | rfl | decide) (Nat.le_refl _) (Nat.le_refl _) (by rw [e0]; exact hQ)
set_option maxRecDepth 65536 in
set_option maxHeartbeats 40000000 in
theorem w1_128 {p : Program} {l : Launch} {e : Env} {s : State} {m : MethodId} {args : Array Value} {below : List Frame} {meth : Method} {c : Code} {T0 : State} {locs : List Loc} {Z : State} {a0 : Array Value} {h0 : Heap} {Q : Option Value → Heap → List Loc → Prop}
    (X0 : Stand p l e ({ frames := 0, cells := 0, slots := 0, locals := 0 } : Room) s m args below meth c T0 locs 0 0) (hx : p.tables.exec = Jvm.exec) (hby : c.code = prog_97_method_10_code) (hml : c.maxLocals = 1) (hret : meth.sig.returnType = (some .boolean)) (hlk : meth.locks = false) (hown : s.vm.findClass "com/example/parley/parley/XmlChars" = some m.cls) (hZ : Z.Warmed39 s.vm) (hw : ∀ d ∈ tables_1, d.before a0 Z = true) (e0 : T0.heap = h0)
    (l0 : Int32) (hQ : Q (some (.int (f1_128 l0))) h0 locs) : own_End p e below s Q 0 0 (T0.setTop (mkF m 128 #[.val (.int l0)] [])) := by
  unfold f1_128 at hQ
  refine own_go (S' := (T0.setTop (mkF m 129 #[.val (.int l0)] [(.int l0)]))) (fun t k => XS.iloadN X0.here hx rfl (hb hby d1_128) rfl k) ?_
  refine own_go (S' := (T0.setTop (mkF m 132 #[.val (.int l0)] [(.int (11264 : Int32)), (.int l0)]))) (fun t k => XT.sipushV X0.here hx rfl (11264 : Int32) (hb hby d1_129) (by decide) k) ?_
  by_cases hc132_1 : l0 < (11264 : Int32)
  ·
    rw [if_pos hc132_1] at hQ
    refine own_go (S' := (T0.setTop (mkF m 142 #[.val (.int l0)] []))) (fun t k => XS.icmpYes X0.here hx rfl (pc0 := 132) (pc' := 142) rfl (hb hby d1_132) rfl (tlt hc132_1).1 (by decide) (by decide) k) ?_
    exact w1_142 X0 hx hby hml hret hlk hown hZ hw e0 l0 hQ
  ·
    rw [if_neg hc132_1] at hQ
    refine own_go (S' := (T0.setTop (mkF m 135 #[.val (.int l0)] []))) (fun t k => XS.icmpNo X0.here hx rfl (hb hby d1_132) rfl (flt hc132_1).1 k) ?_
    refine own_go (S' := (T0.setTop (mkF m 136 #[.val (.int l0)] [(.int l0)]))) (fun t k => XS.iloadN X0.here hx rfl (hb hby d1_135) rfl k) ?_
    refine own_go (S' := (T0.setTop (mkF m 139 #[.val (.int l0)] [(.int (12271 : Int32)), (.int l0)]))) (fun t k => XT.sipushV X0.here hx rfl (12271 : Int32) (hb hby d1_136) (by decide) k) ?_
    by_cases hc139_2 : (12271 : Int32) < l0
    ·
      rw [if_pos hc139_2] at hQ
      refine own_go (S' := (T0.setTop (mkF m 142 #[.val (.int l0)] []))) (fun t k => XS.icmpNo X0.here hx rfl (hb hby d1_139) rfl (tlt hc139_2).2.2.2 k) ?_
      exact w1_142 X0 hx hby hml hret hlk hown hZ hw e0 l0 hQ
    ·
      rw [if_neg hc139_2] at hQ
      refine own_go (S' := (T0.setTop (mkF m 191 #[.val (.int l0)] []))) (fun t k => XS.icmpYes X0.here hx rfl (pc0 := 139) (pc' := 191) rfl (hb hby d1_139) rfl (flt hc139_2).2.2.2 (by decide) (by decide) k) ?_
      refine own_go (S' := (T0.setTop (mkF m 192 #[.val (.int l0)] [(.int (1 : Int32))]))) (fun t k => XT.iconstV X0.here hx rfl (1 : Int32) (hb hby d1_191) (by decide) k) ?_
      refine own_go (S' := (T0.setTop (mkF m 196 #[.val (.int l0)] [(.int (1 : Int32))]))) (fun t k => XS.goto X0.here hx rfl (pc0 := 192) (pc' := 196) rfl (hb hby d1_192) (by decide) (by decide) k) ?_
      exact own_retN X0 hx hret hlk (by simp) (hb hby d1_196) (by first | rfl | decide) (Nat.le_refl _) (Nat.le_refl _) (by rw [e0]; exact hQ)
set_option maxRecDepth 65536 in
set_option maxHeartbeats 40000000 in
theorem w1_114 {p : Program} {l : Launch} {e : Env} {s : State} {m : MethodId} {args : Array Value} {below : List Frame} {meth : Method} {c : Code} {T0 : State} {locs : List Loc} {Z : State} {a0 : Array Value} {h0 : Heap} {Q : Option Value → Heap → List Loc → Prop}
    (X0 : Stand p l e ({ frames := 0, cells := 0, slots := 0, locals := 0 } : Room) s m args below meth c T0 locs 0 0) (hx : p.tables.exec = Jvm.exec) (hby : c.code = prog_97_method_10_code) (hml : c.maxLocals = 1) (hret : meth.sig.returnType = (some .boolean)) (hlk : meth.locks = false) (hown : s.vm.findClass "com/example/parley/parley/XmlChars" = some m.cls) (hZ : Z.Warmed39 s.vm) (hw : ∀ d ∈ tables_1, d.before a0 Z = true) (e0 : T0.heap = h0)
    (l0 : Int32) (hQ : Q (some (.int (f1_114 l0))) h0 locs) : own_End p e below s Q 0 0 (T0.setTop (mkF m 114 #[.val (.int l0)] [])) := by
  unfold f1_114 at hQ
  refine own_go (S' := (T0.setTop (mkF m 115 #[.val (.int l0)] [(.int l0)]))) (fun t k => XS.iloadN X0.here hx rfl (hb hby d1_114) rfl k) ?_
  refine own_go (S' := (T0.setTop (mkF m 118 #[.val (.int l0)] [(.int (8304 : Int32)), (.int l0)]))) (fun t k => XT.sipushV X0.here hx rfl (8304 : Int32) (hb hby d1_115) (by decide) k) ?_
  by_cases hc118_1 : l0 < (8304 : Int32)
  ·
    rw [if_pos hc118_1] at hQ
    refine own_go (S' := (T0.setTop (mkF m 128 #[.val (.int l0)] []))) (fun t k => XS.icmpYes X0.here hx rfl (pc0 := 118) (pc' := 128) rfl (hb hby d1_118) rfl (tlt hc118_1).1 (by decide) (by decide) k) ?_
    exact w1_128 X0 hx hby hml hret hlk hown hZ hw e0 l0 hQ
  ·
    rw [if_neg hc118_1] at hQ
    refine own_go (S' := (T0.setTop (mkF m 121 #[.val (.int l0)] []))) (fun t k => XS.icmpNo X0.here hx rfl (hb hby d1_118) rfl (flt hc118_1).1 k) ?_
    refine own_go (S' := (T0.setTop (mkF m 122 #[.val (.int l0)] [(.int l0)]))) (fun t k => XS.iloadN X0.here hx rfl (hb hby d1_121) rfl k) ?_
    refine own_go (S' := (T0.setTop (mkF m 125 #[.val (.int l0)] [(.int (8591 : Int32)), (.int l0)]))) (fun t k => XT.sipushV X0.here hx rfl (8591 : Int32) (hb hby d1_122) (by decide) k) ?_
    by_cases hc125_2 : (8591 : Int32) < l0
    ·
      rw [if_pos hc125_2] at hQ
      refine own_go (S' := (T0.setTop (mkF m 128 #[.val (.int l0)] []))) (fun t k => XS.icmpNo X0.here hx rfl (hb hby d1_125) rfl (tlt hc125_2).2.2.2 k) ?_
      exact w1_128 X0 hx hby hml hret hlk hown hZ hw e0 l0 hQ
    ·
      rw [if_neg hc125_2] at hQ
      refine own_go (S' := (T0.setTop (mkF m 191 #[.val (.int l0)] []))) (fun t k => XS.icmpYes X0.here hx rfl (pc0 := 125) (pc' := 191) rfl (hb hby d1_125) rfl (flt hc125_2).2.2.2 (by decide) (by decide) k) ?_
      refine own_go (S' := (T0.setTop (mkF m 192 #[.val (.int l0)] [(.int (1 : Int32))]))) (fun t k => XT.iconstV X0.here hx rfl (1 : Int32) (hb hby d1_191) (by decide) k) ?_
      refine own_go (S' := (T0.setTop (mkF m 196 #[.val (.int l0)] [(.int (1 : Int32))]))) (fun t k => XS.goto X0.here hx rfl (pc0 := 192) (pc' := 196) rfl (hb hby d1_192) (by decide) (by decide) k) ?_
      exact own_retN X0 hx hret hlk (by simp) (hb hby d1_196) (by first | rfl | decide) (Nat.le_refl _) (Nat.le_refl _) (by rw [e0]; exact hQ)
set_option maxRecDepth 65536 in
set_option maxHeartbeats 40000000 in
theorem w1_100 {p : Program} {l : Launch} {e : Env} {s : State} {m : MethodId} {args : Array Value} {below : List Frame} {meth : Method} {c : Code} {T0 : State} {locs : List Loc} {Z : State} {a0 : Array Value} {h0 : Heap} {Q : Option Value → Heap → List Loc → Prop}
    (X0 : Stand p l e ({ frames := 0, cells := 0, slots := 0, locals := 0 } : Room) s m args below meth c T0 locs 0 0) (hx : p.tables.exec = Jvm.exec) (hby : c.code = prog_97_method_10_code) (hml : c.maxLocals = 1) (hret : meth.sig.returnType = (some .boolean)) (hlk : meth.locks = false) (hown : s.vm.findClass "com/example/parley/parley/XmlChars" = some m.cls) (hZ : Z.Warmed39 s.vm) (hw : ∀ d ∈ tables_1, d.before a0 Z = true) (e0 : T0.heap = h0)
    (l0 : Int32) (hQ : Q (some (.int (f1_100 l0))) h0 locs) : own_End p e below s Q 0 0 (T0.setTop (mkF m 100 #[.val (.int l0)] [])) := by
  unfold f1_100 at hQ
  refine own_go (S' := (T0.setTop (mkF m 101 #[.val (.int l0)] [(.int l0)]))) (fun t k => XS.iloadN X0.here hx rfl (hb hby d1_100) rfl k) ?_
  refine own_go (S' := (T0.setTop (mkF m 104 #[.val (.int l0)] [(.int (8204 : Int32)), (.int l0)]))) (fun t k => XT.sipushV X0.here hx rfl (8204 : Int32) (hb hby d1_101) (by decide) k) ?_
  by_cases hc104_1 : l0 < (8204 : Int32)
  ·
    rw [if_pos hc104_1] at hQ
    refine own_go (S' := (T0.setTop (mkF m 114 #[.val (.int l0)] []))) (fun t k => XS.icmpYes X0.here hx rfl (pc0 := 104) (pc' := 114) rfl (hb hby d1_104) rfl (tlt hc104_1).1 (by decide) (by decide) k) ?_
    exact w1_114 X0 hx hby hml hret hlk hown hZ hw e0 l0 hQ
  ·
    rw [if_neg hc104_1] at hQ
    refine own_go (S' := (T0.setTop (mkF m 107 #[.val (.int l0)] []))) (fun t k => XS.icmpNo X0.here hx rfl (hb hby d1_104) rfl (flt hc104_1).1 k) ?_
    refine own_go (S' := (T0.setTop (mkF m 108 #[.val (.int l0)] [(.int l0)]))) (fun t k => XS.iloadN X0.here hx rfl (hb hby d1_107) rfl k) ?_
    refine own_go (S' := (T0.setTop (mkF m 111 #[.val (.int l0)] [(.int (8205 : Int32)), (.int l0)]))) (fun t k => XT.sipushV X0.here hx rfl (8205 : Int32) (hb hby d1_108) (by decide) k) ?_
    by_cases hc111_2 : (8205 : Int32) < l0
    ·
      rw [if_pos hc111_2] at hQ
      refine own_go (S' := (T0.setTop (mkF m 114 #[.val (.int l0)] []))) (fun t k => XS.icmpNo X0.here hx rfl (hb hby d1_111) rfl (tlt hc111_2).2.2.2 k) ?_
      exact w1_114 X0 hx hby hml hret hlk hown hZ hw e0 l0 hQ
    ·
      rw [if_neg hc111_2] at hQ
      refine own_go (S' := (T0.setTop (mkF m 191 #[.val (.int l0)] []))) (fun t k => XS.icmpYes X0.here hx rfl (pc0 := 111) (pc' := 191) rfl (hb hby d1_111) rfl (flt hc111_2).2.2.2 (by decide) (by decide) k) ?_
      refine own_go (S' := (T0.setTop (mkF m 192 #[.val (.int l0)] [(.int (1 : Int32))]))) (fun t k => XT.iconstV X0.here hx rfl (1 : Int32) (hb hby d1_191) (by decide) k) ?_
      refine own_go (S' := (T0.setTop (mkF m 196 #[.val (.int l0)] [(.int (1 : Int32))]))) (fun t k => XS.goto X0.here hx rfl (pc0 := 192) (pc' := 196) rfl (hb hby d1_192) (by decide) (by decide) k) ?_
      exact own_retN X0 hx hret hlk (by simp) (hb hby d1_196) (by first | rfl | decide) (Nat.le_refl _) (Nat.le_refl _) (by rw [e0]; exact hQ)
set_option maxRecDepth 65536 in
set_option maxHeartbeats 40000000 in
theorem w1_86 {p : Program} {l : Launch} {e : Env} {s : State} {m : MethodId} {args : Array Value} {below : List Frame} {meth : Method} {c : Code} {T0 : State} {locs : List Loc} {Z : State} {a0 : Array Value} {h0 : Heap} {Q : Option Value → Heap → List Loc → Prop}
    (X0 : Stand p l e ({ frames := 0, cells := 0, slots := 0, locals := 0 } : Room) s m args below meth c T0 locs 0 0) (hx : p.tables.exec = Jvm.exec) (hby : c.code = prog_97_method_10_code) (hml : c.maxLocals = 1) (hret : meth.sig.returnType = (some .boolean)) (hlk : meth.locks = false) (hown : s.vm.findClass "com/example/parley/parley/XmlChars" = some m.cls) (hZ : Z.Warmed39 s.vm) (hw : ∀ d ∈ tables_1, d.before a0 Z = true) (e0 : T0.heap = h0)
    (l0 : Int32) (hQ : Q (some (.int (f1_86 l0))) h0 locs) : own_End p e below s Q 0 0 (T0.setTop (mkF m 86 #[.val (.int l0)] [])) := by
  unfold f1_86 at hQ
  refine own_go (S' := (T0.setTop (mkF m 87 #[.val (.int l0)] [(.int l0)]))) (fun t k => XS.iloadN X0.here hx rfl (hb hby d1_86) rfl k) ?_
  refine own_go (S' := (T0.setTop (mkF m 90 #[.val (.int l0)] [(.int (895 : Int32)), (.int l0)]))) (fun t k => XT.sipushV X0.here hx rfl (895 : Int32) (hb hby d1_87) (by decide) k) ?_
  by_cases hc90_1 : l0 < (895 : Int32)
  ·
    rw [if_pos hc90_1] at hQ
    refine own_go (S' := (T0.setTop (mkF m 100 #[.val (.int l0)] []))) (fun t k => XS.icmpYes X0.here hx rfl (pc0 := 90) (pc' := 100) rfl (hb hby d1_90) rfl (tlt hc90_1).1 (by decide) (by decide) k) ?_
    exact w1_100 X0 hx hby hml hret hlk hown hZ hw e0 l0 hQ
  ·
    rw [if_neg hc90_1] at hQ
    refine own_go (S' := (T0.setTop (mkF m 93 #[.val (.int l0)] []))) (fun t k => XS.icmpNo X0.here hx rfl (hb hby d1_90) rfl (flt hc90_1).1 k) ?_
    refine own_go (S' := (T0.setTop (mkF m 94 #[.val (.int l0)] [(.int l0)]))) (fun t k => XS.iloadN X0.here hx rfl (hb hby d1_93) rfl k) ?_
    refine own_go (S' := (T0.setTop (mkF m 97 #[.val (.int l0)] [(.int (8191 : Int32)), (.int l0)]))) (fun t k => XT.sipushV X0.here hx rfl (8191 : Int32) (hb hby d1_94) (by decide) k) ?_
    by_cases hc97_2 : (8191 : Int32) < l0
    ·
      rw [if_pos hc97_2] at hQ
      refine own_go (S' := (T0.setTop (mkF m 100 #[.val (.int l0)] []))) (fun t k => XS.icmpNo X0.here hx rfl (hb hby d1_97) rfl (tlt hc97_2).2.2.2 k) ?_
      exact w1_100 X0 hx hby hml hret hlk hown hZ hw e0 l0 hQ
    ·
      rw [if_neg hc97_2] at hQ
      refine own_go (S' := (T0.setTop (mkF m 191 #[.val (.int l0)] []))) (fun t k => XS.icmpYes X0.here hx rfl (pc0 := 97) (pc' := 191) rfl (hb hby d1_97) rfl (flt hc97_2).2.2.2 (by decide) (by decide) k) ?_
      refine own_go (S' := (T0.setTop (mkF m 192 #[.val (.int l0)] [(.int (1 : Int32))]))) (fun t k => XT.iconstV X0.here hx rfl (1 : Int32) (hb hby d1_191) (by decide) k) ?_
      refine own_go (S' := (T0.setTop (mkF m 196 #[.val (.int l0)] [(.int (1 : Int32))]))) (fun t k => XS.goto X0.here hx rfl (pc0 := 192) (pc' := 196) rfl (hb hby d1_192) (by decide) (by decide) k) ?_
      exact own_retN X0 hx hret hlk (by simp) (hb hby d1_196) (by first | rfl | decide) (Nat.le_refl _) (Nat.le_refl _) (by rw [e0]; exact hQ)
set_option maxRecDepth 65536 in
set_option maxHeartbeats 40000000 in
theorem w1_72 {p : Program} {l : Launch} {e : Env} {s : State} {m : MethodId} {args : Array Value} {below : List Frame} {meth : Method} {c : Code} {T0 : State} {locs : List Loc} {Z : State} {a0 : Array Value} {h0 : Heap} {Q : Option Value → Heap → List Loc → Prop}
    (X0 : Stand p l e ({ frames := 0, cells := 0, slots := 0, locals := 0 } : Room) s m args below meth c T0 locs 0 0) (hx : p.tables.exec = Jvm.exec) (hby : c.code = prog_97_method_10_code) (hml : c.maxLocals = 1) (hret : meth.sig.returnType = (some .boolean)) (hlk : meth.locks = false) (hown : s.vm.findClass "com/example/parley/parley/XmlChars" = some m.cls) (hZ : Z.Warmed39 s.vm) (hw : ∀ d ∈ tables_1, d.before a0 Z = true) (e0 : T0.heap = h0)
    (l0 : Int32) (hQ : Q (some (.int (f1_72 l0))) h0 locs) : own_End p e below s Q 0 0 (T0.setTop (mkF m 72 #[.val (.int l0)] [])) := by
  unfold f1_72 at hQ
  refine own_go (S' := (T0.setTop (mkF m 73 #[.val (.int l0)] [(.int l0)]))) (fun t k => XS.iloadN X0.here hx rfl (hb hby d1_72) rfl k) ?_
  refine own_go (S' := (T0.setTop (mkF m 76 #[.val (.int l0)] [(.int (880 : Int32)), (.int l0)]))) (fun t k => XT.sipushV X0.here hx rfl (880 : Int32) (hb hby d1_73) (by decide) k) ?_
  by_cases hc76_1 : l0 < (880 : Int32)
  ·
    rw [if_pos hc76_1] at hQ
    refine own_go (S' := (T0.setTop (mkF m 86 #[.val (.int l0)] []))) (fun t k => XS.icmpYes X0.here hx rfl (pc0 := 76) (pc' := 86) rfl (hb hby d1_76) rfl (tlt hc76_1).1 (by decide) (by decide) k) ?_
    exact w1_86 X0 hx hby hml hret hlk hown hZ hw e0 l0 hQ
  ·
    rw [if_neg hc76_1] at hQ
    refine own_go (S' := (T0.setTop (mkF m 79 #[.val (.int l0)] []))) (fun t k => XS.icmpNo X0.here hx rfl (hb hby d1_76) rfl (flt hc76_1).1 k) ?_
    refine own_go (S' := (T0.setTop (mkF m 80 #[.val (.int l0)] [(.int l0)]))) (fun t k => XS.iloadN X0.here hx rfl (hb hby d1_79) rfl k) ?_
    refine own_go (S' := (T0.setTop (mkF m 83 #[.val (.int l0)] [(.int (893 : Int32)), (.int l0)]))) (fun t k => XT.sipushV X0.here hx rfl (893 : Int32) (hb hby d1_80) (by decide) k) ?_
    by_cases hc83_2 : (893 : Int32) < l0
    ·
      rw [if_pos hc83_2] at hQ
      refine own_go (S' := (T0.setTop (mkF m 86 #[.val (.int l0)] []))) (fun t k => XS.icmpNo X0.here hx rfl (hb hby d1_83) rfl (tlt hc83_2).2.2.2 k) ?_
      exact w1_86 X0 hx hby hml hret hlk hown hZ hw e0 l0 hQ
    ·
      rw [if_neg hc83_2] at hQ
      refine own_go (S' := (T0.setTop (mkF m 191 #[.val (.int l0)] []))) (fun t k => XS.icmpYes X0.here hx rfl (pc0 := 83) (pc' := 191) rfl (hb hby d1_83) rfl (flt hc83_2).2.2.2 (by decide) (by decide) k) ?_
      refine own_go (S' := (T0.setTop (mkF m 192 #[.val (.int l0)] [(.int (1 : Int32))]))) (fun t k => XT.iconstV X0.here hx rfl (1 : Int32) (hb hby d1_191) (by decide) k) ?_
      refine own_go (S' := (T0.setTop (mkF m 196 #[.val (.int l0)] [(.int (1 : Int32))]))) (fun t k => XS.goto X0.here hx rfl (pc0 := 192) (pc' := 196) rfl (hb hby d1_192) (by decide) (by decide) k) ?_
      exact own_retN X0 hx hret hlk (by simp) (hb hby d1_196) (by first | rfl | decide) (Nat.le_refl _) (Nat.le_refl _) (by rw [e0]; exact hQ)
set_option maxRecDepth 65536 in
set_option maxHeartbeats 40000000 in
theorem w1_58 {p : Program} {l : Launch} {e : Env} {s : State} {m : MethodId} {args : Array Value} {below : List Frame} {meth : Method} {c : Code} {T0 : State} {locs : List Loc} {Z : State} {a0 : Array Value} {h0 : Heap} {Q : Option Value → Heap → List Loc → Prop}
    (X0 : Stand p l e ({ frames := 0, cells := 0, slots := 0, locals := 0 } : Room) s m args below meth c T0 locs 0 0) (hx : p.tables.exec = Jvm.exec) (hby : c.code = prog_97_method_10_code) (hml : c.maxLocals = 1) (hret : meth.sig.returnType = (some .boolean)) (hlk : meth.locks = false) (hown : s.vm.findClass "com/example/parley/parley/XmlChars" = some m.cls) (hZ : Z.Warmed39 s.vm) (hw : ∀ d ∈ tables_1, d.before a0 Z = true) (e0 : T0.heap = h0)
    (l0 : Int32) (hQ : Q (some (.int (f1_58 l0))) h0 locs) : own_End p e below s Q 0 0 (T0.setTop (mkF m 58 #[.val (.int l0)] [])) := by
  unfold f1_58 at hQ
  refine own_go (S' := (T0.setTop (mkF m 59 #[.val (.int l0)] [(.int l0)]))) (fun t k => XS.iloadN X0.here hx rfl (hb hby d1_58) rfl k) ?_
  refine own_go (S' := (T0.setTop (mkF m 62 #[.val (.int l0)] [(.int (248 : Int32)), (.int l0)]))) (fun t k => XT.sipushV X0.here hx rfl (248 : Int32) (hb hby d1_59) (by decide) k) ?_
  by_cases hc62_1 : l0 < (248 : Int32)
  ·
    rw [if_pos hc62_1] at hQ
    refine own_go (S' := (T0.setTop (mkF m 72 #[.val (.int l0)] []))) (fun t k => XS.icmpYes X0.here hx rfl (pc0 := 62) (pc' := 72) rfl (hb hby d1_62) rfl (tlt hc62_1).1 (by decide) (by decide) k) ?_
    exact w1_72 X0 hx hby hml hret hlk hown hZ hw e0 l0 hQ
  ·
    rw [if_neg hc62_1] at hQ
    refine own_go (S' := (T0.setTop (mkF m 65 #[.val (.int l0)] []))) (fun t k => XS.icmpNo X0.here hx rfl (hb hby d1_62) rfl (flt hc62_1).1 k) ?_
    refine own_go (S' := (T0.setTop (mkF m 66 #[.val (.int l0)] [(.int l0)]))) (fun t k => XS.iloadN X0.here hx rfl (hb hby d1_65) rfl k) ?_
    refine own_go (S' := (T0.setTop (mkF m 69 #[.val (.int l0)] [(.int (767 : Int32)), (.int l0)]))) (fun t k => XT.sipushV X0.here hx rfl (767 : Int32) (hb hby d1_66) (by decide) k) ?_
    by_cases hc69_2 : (767 : Int32) < l0
    ·
      rw [if_pos hc69_2] at hQ
      refine own_go (S' := (T0.setTop (mkF m 72 #[.val (.int l0)] []))) (fun t k => XS.icmpNo X0.here hx rfl (hb hby d1_69) rfl (tlt hc69_2).2.2.2 k) ?_
      exact w1_72 X0 hx hby hml hret hlk hown hZ hw e0 l0 hQ
    ·
      rw [if_neg hc69_2] at hQ
      refine own_go (S' := (T0.setTop (mkF m 191 #[.val (.int l0)] []))) (fun t k => XS.icmpYes X0.here hx rfl (pc0 := 69) (pc' := 191) rfl (hb hby d1_69) rfl (flt hc69_2).2.2.2 (by decide) (by decide) k) ?_
      refine own_go (S' := (T0.setTop (mkF m 192 #[.val (.int l0)] [(.int (1 : Int32))]))) (fun t k => XT.iconstV X0.here hx rfl (1 : Int32) (hb hby d1_191) (by decide) k) ?_
      refine own_go (S' := (T0.setTop (mkF m 196 #[.val (.int l0)] [(.int (1 : Int32))]))) (fun t k => XS.goto X0.here hx rfl (pc0 := 192) (pc' := 196) rfl (hb hby d1_192) (by decide) (by decide) k) ?_
      exact own_retN X0 hx hret hlk (by simp) (hb hby d1_196) (by first | rfl | decide) (Nat.le_refl _) (Nat.le_refl _) (by rw [e0]; exact hQ)
set_option maxRecDepth 65536 in
set_option maxHeartbeats 40000000 in
theorem w1_44 {p : Program} {l : Launch} {e : Env} {s : State} {m : MethodId} {args : Array Value} {below : List Frame} {meth : Method} {c : Code} {T0 : State} {locs : List Loc} {Z : State} {a0 : Array Value} {h0 : Heap} {Q : Option Value → Heap → List Loc → Prop}
    (X0 : Stand p l e ({ frames := 0, cells := 0, slots := 0, locals := 0 } : Room) s m args below meth c T0 locs 0 0) (hx : p.tables.exec = Jvm.exec) (hby : c.code = prog_97_method_10_code) (hml : c.maxLocals = 1) (hret : meth.sig.returnType = (some .boolean)) (hlk : meth.locks = false) (hown : s.vm.findClass "com/example/parley/parley/XmlChars" = some m.cls) (hZ : Z.Warmed39 s.vm) (hw : ∀ d ∈ tables_1, d.before a0 Z = true) (e0 : T0.heap = h0)
    (l0 : Int32) (hQ : Q (some (.int (f1_44 l0))) h0 locs) : own_End p e below s Q 0 0 (T0.setTop (mkF m 44 #[.val (.int l0)] [])) := by
  unfold f1_44 at hQ
  refine own_go (S' := (T0.setTop (mkF m 45 #[.val (.int l0)] [(.int l0)]))) (fun t k => XS.iloadN X0.here hx rfl (hb hby d1_44) rfl k) ?_
  refine own_go (S' := (T0.setTop (mkF m 48 #[.val (.int l0)] [(.int (216 : Int32)), (.int l0)]))) (fun t k => XT.sipushV X0.here hx rfl (216 : Int32) (hb hby d1_45) (by decide) k) ?_
  by_cases hc48_1 : l0 < (216 : Int32)
  ·
    rw [if_pos hc48_1] at hQ
    refine own_go (S' := (T0.setTop (mkF m 58 #[.val (.int l0)] []))) (fun t k => XS.icmpYes X0.here hx rfl (pc0 := 48) (pc' := 58) rfl (hb hby d1_48) rfl (tlt hc48_1).1 (by decide) (by decide) k) ?_
    exact w1_58 X0 hx hby hml hret hlk hown hZ hw e0 l0 hQ
  ·
    rw [if_neg hc48_1] at hQ
    refine own_go (S' := (T0.setTop (mkF m 51 #[.val (.int l0)] []))) (fun t k => XS.icmpNo X0.here hx rfl (hb hby d1_48) rfl (flt hc48_1).1 k) ?_
    refine own_go (S' := (T0.setTop (mkF m 52 #[.val (.int l0)] [(.int l0)]))) (fun t k => XS.iloadN X0.here hx rfl (hb hby d1_51) rfl k) ?_
    refine own_go (S' := (T0.setTop (mkF m 55 #[.val (.int l0)] [(.int (246 : Int32)), (.int l0)]))) (fun t k => XT.sipushV X0.here hx rfl (246 : Int32) (hb hby d1_52) (by decide) k) ?_
    by_cases hc55_2 : (246 : Int32) < l0
    ·
      rw [if_pos hc55_2] at hQ
      refine own_go (S' := (T0.setTop (mkF m 58 #[.val (.int l0)] []))) (fun t k => XS.icmpNo X0.here hx rfl (hb hby d1_55) rfl (tlt hc55_2).2.2.2 k) ?_
      exact w1_58 X0 hx hby hml hret hlk hown hZ hw e0 l0 hQ
    ·
      rw [if_neg hc55_2] at hQ
      refine own_go (S' := (T0.setTop (mkF m 191 #[.val (.int l0)] []))) (fun t k => XS.icmpYes X0.here hx rfl (pc0 := 55) (pc' := 191) rfl (hb hby d1_55) rfl (flt hc55_2).2.2.2 (by decide) (by decide) k) ?_
      refine own_go (S' := (T0.setTop (mkF m 192 #[.val (.int l0)] [(.int (1 : Int32))]))) (fun t k => XT.iconstV X0.here hx rfl (1 : Int32) (hb hby d1_191) (by decide) k) ?_
      refine own_go (S' := (T0.setTop (mkF m 196 #[.val (.int l0)] [(.int (1 : Int32))]))) (fun t k => XS.goto X0.here hx rfl (pc0 := 192) (pc' := 196) rfl (hb hby d1_192) (by decide) (by decide) k) ?_
      exact own_retN X0 hx hret hlk (by simp) (hb hby d1_196) (by first | rfl | decide) (Nat.le_refl _) (Nat.le_refl _) (by rw [e0]; exact hQ)
set_option maxRecDepth 65536 in
set_option maxHeartbeats 40000000 in
theorem w1_30 {p : Program} {l : Launch} {e : Env} {s : State} {m : MethodId} {args : Array Value} {below : List Frame} {meth : Method} {c : Code} {T0 : State} {locs : List Loc} {Z : State} {a0 : Array Value} {h0 : Heap} {Q : Option Value → Heap → List Loc → Prop}
    (X0 : Stand p l e ({ frames := 0, cells := 0, slots := 0, locals := 0 } : Room) s m args below meth c T0 locs 0 0) (hx : p.tables.exec = Jvm.exec) (hby : c.code = prog_97_method_10_code) (hml : c.maxLocals = 1) (hret : meth.sig.returnType = (some .boolean)) (hlk : meth.locks = false) (hown : s.vm.findClass "com/example/parley/parley/XmlChars" = some m.cls) (hZ : Z.Warmed39 s.vm) (hw : ∀ d ∈ tables_1, d.before a0 Z = true) (e0 : T0.heap = h0)
    (l0 : Int32) (hQ : Q (some (.int (f1_30 l0))) h0 locs) : own_End p e below s Q 0 0 (T0.setTop (mkF m 30 #[.val (.int l0)] [])) := by
  unfold f1_30 at hQ
  refine own_go (S' := (T0.setTop (mkF m 31 #[.val (.int l0)] [(.int l0)]))) (fun t k => XS.iloadN X0.here hx rfl (hb hby d1_30) rfl k) ?_
  refine own_go (S' := (T0.setTop (mkF m 34 #[.val (.int l0)] [(.int (192 : Int32)), (.int l0)]))) (fun t k => XT.sipushV X0.here hx rfl (192 : Int32) (hb hby d1_31) (by decide) k) ?_
  by_cases hc34_1 : l0 < (192 : Int32)
  ·
    rw [if_pos hc34_1] at hQ
    refine own_go (S' := (T0.setTop (mkF m 44 #[.val (.int l0)] []))) (fun t k => XS.icmpYes X0.here hx rfl (pc0 := 34) (pc' := 44) rfl (hb hby d1_34) rfl (tlt hc34_1).1 (by decide) (by decide) k) ?_
    exact w1_44 X0 hx hby hml hret hlk hown hZ hw e0 l0 hQ
  ·
    rw [if_neg hc34_1] at hQ
    refine own_go (S' := (T0.setTop (mkF m 37 #[.val (.int l0)] []))) (fun t k => XS.icmpNo X0.here hx rfl (hb hby d1_34) rfl (flt hc34_1).1 k) ?_
    refine own_go (S' := (T0.setTop (mkF m 38 #[.val (.int l0)] [(.int l0)]))) (fun t k => XS.iloadN X0.here hx rfl (hb hby d1_37) rfl k) ?_
    refine own_go (S' := (T0.setTop (mkF m 41 #[.val (.int l0)] [(.int (214 : Int32)), (.int l0)]))) (fun t k => XT.sipushV X0.here hx rfl (214 : Int32) (hb hby d1_38) (by decide) k) ?_
    by_cases hc41_2 : (214 : Int32) < l0
    ·
      rw [if_pos hc41_2] at hQ
      refine own_go (S' := (T0.setTop (mkF m 44 #[.val (.int l0)] []))) (fun t k => XS.icmpNo X0.here hx rfl (hb hby d1_41) rfl (tlt hc41_2).2.2.2 k) ?_
      exact w1_44 X0 hx hby hml hret hlk hown hZ hw e0 l0 hQ
    ·
      rw [if_neg hc41_2] at hQ
      refine own_go (S' := (T0.setTop (mkF m 191 #[.val (.int l0)] []))) (fun t k => XS.icmpYes X0.here hx rfl (pc0 := 41) (pc' := 191) rfl (hb hby d1_41) rfl (flt hc41_2).2.2.2 (by decide) (by decide) k) ?_
      refine own_go (S' := (T0.setTop (mkF m 192 #[.val (.int l0)] [(.int (1 : Int32))]))) (fun t k => XT.iconstV X0.here hx rfl (1 : Int32) (hb hby d1_191) (by decide) k) ?_
      refine own_go (S' := (T0.setTop (mkF m 196 #[.val (.int l0)] [(.int (1 : Int32))]))) (fun t k => XS.goto X0.here hx rfl (pc0 := 192) (pc' := 196) rfl (hb hby d1_192) (by decide) (by decide) k) ?_
      exact own_retN X0 hx hret hlk (by simp) (hb hby d1_196) (by first | rfl | decide) (Nat.le_refl _) (Nat.le_refl _) (by rw [e0]; exact hQ)
set_option maxRecDepth 65536 in
set_option maxHeartbeats 40000000 in
theorem w1_12 {p : Program} {l : Launch} {e : Env} {s : State} {m : MethodId} {args : Array Value} {below : List Frame} {meth : Method} {c : Code} {T0 : State} {locs : List Loc} {Z : State} {a0 : Array Value} {h0 : Heap} {Q : Option Value → Heap → List Loc → Prop}
    (X0 : Stand p l e ({ frames := 0, cells := 0, slots := 0, locals := 0 } : Room) s m args below meth c T0 locs 0 0) (hx : p.tables.exec = Jvm.exec) (hby : c.code = prog_97_method_10_code) (hml : c.maxLocals = 1) (hret : meth.sig.returnType = (some .boolean)) (hlk : meth.locks = false) (hown : s.vm.findClass "com/example/parley/parley/XmlChars" = some m.cls) (hZ : Z.Warmed39 s.vm) (hw : ∀ d ∈ tables_1, d.before a0 Z = true) (e0 : T0.heap = h0)
    (l0 : Int32) (hQ : Q (some (.int (f1_12 l0))) h0 locs) : own_End p e below s Q 0 0 (T0.setTop (mkF m 12 #[.val (.int l0)] [])) := by
  unfold f1_12 at hQ
  refine own_go (S' := (T0.setTop (mkF m 13 #[.val (.int l0)] [(.int l0)]))) (fun t k => XS.iloadN X0.here hx rfl (hb hby d1_12) rfl k) ?_
  refine own_go (S' := (T0.setTop (mkF m 15 #[.val (.int l0)] [(.int (95 : Int32)), (.int l0)]))) (fun t k => XT.bipushV X0.here hx rfl (95 : Int32) (hb hby d1_13) (by decide) k) ?_
  by_cases hc15_1 : l0 = (95 : Int32)
  ·
    rw [if_pos hc15_1] at hQ
    refine own_go (S' := (T0.setTop (mkF m 191 #[.val (.int l0)] []))) (fun t k => XS.icmpYes X0.here hx rfl (pc0 := 15) (pc' := 191) rfl (hb hby d1_15) rfl (teq hc15_1).1 (by decide) (by decide) k) ?_
    refine own_go (S' := (T0.setTop (mkF m 192 #[.val (.int l0)] [(.int (1 : Int32))]))) (fun t k => XT.iconstV X0.here hx rfl (1 : Int32) (hb hby d1_191) (by decide) k) ?_
    refine own_go (S' := (T0.setTop (mkF m 196 #[.val (.int l0)] [(.int (1 : Int32))]))) (fun t k => XS.goto X0.here hx rfl (pc0 := 192) (pc' := 196) rfl (hb hby d1_192) (by decide) (by decide) k) ?_
    exact own_retN X0 hx hret hlk (by simp) (hb hby d1_196) (by first | rfl | decide) (Nat.le_refl _) (Nat.le_refl _) (by rw [e0]; exact hQ)
  ·
    rw [if_neg hc15_1] at hQ
    refine own_go (S' := (T0.setTop (mkF m 18 #[.val (.int l0)] []))) (fun t k => XS.icmpNo X0.here hx rfl (hb hby d1_15) rfl (feq hc15_1).1 k) ?_
    refine own_go (S' := (T0.setTop (mkF m 19 #[.val (.int l0)] [(.int l0)]))) (fun t k => XS.iloadN X0.here hx rfl (hb hby d1_18) rfl k) ?_
    refine own_go (S' := (T0.setTop (mkF m 21 #[.val (.int l0)] [(.int (97 : Int32)), (.int l0)]))) (fun t k => XT.bipushV X0.here hx rfl (97 : Int32) (hb hby d1_19) (by decide) k) ?_
    by_cases hc21_2 : l0 < (97 : Int32)
    ·
      rw [if_pos hc21_2] at hQ
      refine own_go (S' := (T0.setTop (mkF m 30 #[.val (.int l0)] []))) (fun t k => XS.icmpYes X0.here hx rfl (pc0 := 21) (pc' := 30) rfl (hb hby d1_21) rfl (tlt hc21_2).1 (by decide) (by decide) k) ?_
      exact w1_30 X0 hx hby hml hret hlk hown hZ hw e0 l0 hQ
    ·
      rw [if_neg hc21_2] at hQ
      refine own_go (S' := (T0.setTop (mkF m 24 #[.val (.int l0)] []))) (fun t k => XS.icmpNo X0.here hx rfl (hb hby d1_21) rfl (flt hc21_2).1 k) ?_
      refine own_go (S' := (T0.setTop (mkF m 25 #[.val (.int l0)] [(.int l0)]))) (fun t k => XS.iloadN X0.here hx rfl (hb hby d1_24) rfl k) ?_
      refine own_go (S' := (T0.setTop (mkF m 27 #[.val (.int l0)] [(.int (122 : Int32)), (.int l0)]))) (fun t k => XT.bipushV X0.here hx rfl (122 : Int32) (hb hby d1_25) (by decide) k) ?_
      by_cases hc27_3 : (122 : Int32) < l0
      ·
        rw [if_pos hc27_3] at hQ
        refine own_go (S' := (T0.setTop (mkF m 30 #[.val (.int l0)] []))) (fun t k => XS.icmpNo X0.here hx rfl (hb hby d1_27) rfl (tlt hc27_3).2.2.2 k) ?_
        exact w1_30 X0 hx hby hml hret hlk hown hZ hw e0 l0 hQ
      ·
        rw [if_neg hc27_3] at hQ
        refine own_go (S' := (T0.setTop (mkF m 191 #[.val (.int l0)] []))) (fun t k => XS.icmpYes X0.here hx rfl (pc0 := 27) (pc' := 191) rfl (hb hby d1_27) rfl (flt hc27_3).2.2.2 (by decide) (by decide) k) ?_
        refine own_go (S' := (T0.setTop (mkF m 192 #[.val (.int l0)] [(.int (1 : Int32))]))) (fun t k => XT.iconstV X0.here hx rfl (1 : Int32) (hb hby d1_191) (by decide) k) ?_
        refine own_go (S' := (T0.setTop (mkF m 196 #[.val (.int l0)] [(.int (1 : Int32))]))) (fun t k => XS.goto X0.here hx rfl (pc0 := 192) (pc' := 196) rfl (hb hby d1_192) (by decide) (by decide) k) ?_
        exact own_retN X0 hx hret hlk (by simp) (hb hby d1_196) (by first | rfl | decide) (Nat.le_refl _) (Nat.le_refl _) (by rw [e0]; exact hQ)
set_option maxRecDepth 65536 in
set_option maxHeartbeats 40000000 in
theorem w1_0 {p : Program} {l : Launch} {e : Env} {s : State} {m : MethodId} {args : Array Value} {below : List Frame} {meth : Method} {c : Code} {T0 : State} {locs : List Loc} {Z : State} {a0 : Array Value} {h0 : Heap} {Q : Option Value → Heap → List Loc → Prop}
    (X0 : Stand p l e ({ frames := 0, cells := 0, slots := 0, locals := 0 } : Room) s m args below meth c T0 locs 0 0) (hx : p.tables.exec = Jvm.exec) (hby : c.code = prog_97_method_10_code) (hml : c.maxLocals = 1) (hret : meth.sig.returnType = (some .boolean)) (hlk : meth.locks = false) (hown : s.vm.findClass "com/example/parley/parley/XmlChars" = some m.cls) (hZ : Z.Warmed39 s.vm) (hw : ∀ d ∈ tables_1, d.before a0 Z = true) (e0 : T0.heap = h0)
    (l0 : Int32) (hQ : Q (some (.int (f1_0 l0))) h0 locs) : own_End p e below s Q 0 0 (T0.setTop (mkF m 0 #[.val (.int l0)] [])) := by
  unfold f1_0 at hQ
  refine own_go (S' := (T0.setTop (mkF m 1 #[.val (.int l0)] [(.int l0)]))) (fun t k => XS.iloadN X0.here hx rfl (hb hby d1_0) rfl k) ?_
  refine own_go (S' := (T0.setTop (mkF m 3 #[.val (.int l0)] [(.int (65 : Int32)), (.int l0)]))) (fun t k => XT.bipushV X0.here hx rfl (65 : Int32) (hb hby d1_1) (by decide) k) ?_
  by_cases hc3_1 : l0 < (65 : Int32)
  ·
    rw [if_pos hc3_1] at hQ
    refine own_go (S' := (T0.setTop (mkF m 12 #[.val (.int l0)] []))) (fun t k => XS.icmpYes X0.here hx rfl (pc0 := 3) (pc' := 12) rfl (hb hby d1_3) rfl (tlt hc3_1).1 (by decide) (by decide) k) ?_
    exact w1_12 X0 hx hby hml hret hlk hown hZ hw e0 l0 hQ
  ·
    rw [if_neg hc3_1] at hQ
    refine own_go (S' := (T0.setTop (mkF m 6 #[.val (.int l0)] []))) (fun t k => XS.icmpNo X0.here hx rfl (hb hby d1_3) rfl (flt hc3_1).1 k) ?_
    refine own_go (S' := (T0.setTop (mkF m 7 #[.val (.int l0)] [(.int l0)]))) (fun t k => XS.iloadN X0.here hx rfl (hb hby d1_6) rfl k) ?_
    refine own_go (S' := (T0.setTop (mkF m 9 #[.val (.int l0)] [(.int (90 : Int32)), (.int l0)]))) (fun t k => XT.bipushV X0.here hx rfl (90 : Int32) (hb hby d1_7) (by decide) k) ?_
    by_cases hc9_2 : (90 : Int32) < l0
    ·
      rw [if_pos hc9_2] at hQ
      refine own_go (S' := (T0.setTop (mkF m 12 #[.val (.int l0)] []))) (fun t k => XS.icmpNo X0.here hx rfl (hb hby d1_9) rfl (tlt hc9_2).2.2.2 k) ?_
      exact w1_12 X0 hx hby hml hret hlk hown hZ hw e0 l0 hQ
    ·
      rw [if_neg hc9_2] at hQ
      refine own_go (S' := (T0.setTop (mkF m 191 #[.val (.int l0)] []))) (fun t k => XS.icmpYes X0.here hx rfl (pc0 := 9) (pc' := 191) rfl (hb hby d1_9) rfl (flt hc9_2).2.2.2 (by decide) (by decide) k) ?_
      refine own_go (S' := (T0.setTop (mkF m 192 #[.val (.int l0)] [(.int (1 : Int32))]))) (fun t k => XT.iconstV X0.here hx rfl (1 : Int32) (hb hby d1_191) (by decide) k) ?_
      refine own_go (S' := (T0.setTop (mkF m 196 #[.val (.int l0)] [(.int (1 : Int32))]))) (fun t k => XS.goto X0.here hx rfl (pc0 := 192) (pc' := 196) rfl (hb hby d1_192) (by decide) (by decide) k) ?_
      exact own_retN X0 hx hret hlk (by simp) (hb hby d1_196) (by first | rfl | decide) (Nat.le_refl _) (Nat.le_refl _) (by rw [e0]; exact hQ)
theorem pn_1 : plainName "com/example/parley/parley/XmlChars" = true := by first | (simp [plainName, overriddenIn]; done) | decide +kernel
theorem ef_1 (m : MethodId) (l0 : Int32) : entryFrame m #[(.int l0)] 1 = mkF m 0 #[.val (.int l0)] [] := by first | (simp [entryFrame, mkF, argsToLocals, Value.category]; done) | rfl
set_option maxRecDepth 65536 in
theorem rm1 (l : Launch) (Z : State) (a0 : Array Value) (hw : ∀ d ∈ tables_1, d.before a0 Z = true) (l0 : Int32) (h0 : Heap) : own_C l Z (⟨"com/example/parley/parley/XmlChars", "isNameStart", "(I)Z"⟩ : MethodName) prog_97_method_10_code 1 (some .boolean) ({ frames := 0, cells := 0, slots := 0, locals := 0 } : Room) #[(.int l0)] h0 (own_P h0 (some (.int (f1_0 l0)))) := by
  refine MetFree.of_bodySF (plainFor_of_name pn_1) hisR ?_
  intro p e s m args below meth c s₁ Bd hml hP hK
  obtain ⟨rfl, hZ, hh⟩ := hP
  show own_End p e below s (own_P h0 (some (.int (f1_0 l0)))) 0 0 (s₁.setTop (entryFrame m #[(.int l0)] 1))
  exact own_cast (ef_1 m l0) (w1_0 (Stand.of_body Bd) Bd.exec Bd.bytes hml Bd.returns (BodyLoose.notSynchronized Bd) (findClass_of_methodNamed Bd.named) hZ hw (by rw [← hh, Bd.state]; rfl) l0 ⟨rfl, rfl, rfl⟩)
theorem own_p1_f1_0 (l0 : Int32) : f1_0 l0 = (if (¬ l0 < (65 : Int32) ∧ ¬ (90 : Int32) < l0) then (1 : Int32) else (f1_12 l0)) := by
  unfold f1_0
  by_cases h0 : l0 < (65 : Int32) <;> by_cases h1 : (90 : Int32) < l0 <;> simp [h0, h1]
theorem own_p1_f1_12 (l0 : Int32) : f1_12 l0 = (if l0 = (95 : Int32) then (1 : Int32) else (if (¬ l0 < (97 : Int32) ∧ ¬ (122 : Int32) < l0) then (1 : Int32) else (f1_30 l0))) := by
  unfold f1_12
  by_cases h0 : l0 = (95 : Int32) <;> by_cases h1 : l0 < (97 : Int32) <;> by_cases h2 : (122 : Int32) < l0 <;> simp [h0, h1, h2]
theorem own_p1_f1_30 (l0 : Int32) : f1_30 l0 = (if (¬ l0 < (192 : Int32) ∧ ¬ (214 : Int32) < l0) then (1 : Int32) else (f1_44 l0)) := by
  unfold f1_30
  by_cases h0 : l0 < (192 : Int32) <;> by_cases h1 : (214 : Int32) < l0 <;> simp [h0, h1]
theorem own_p1_f1_44 (l0 : Int32) : f1_44 l0 = (if (¬ l0 < (216 : Int32) ∧ ¬ (246 : Int32) < l0) then (1 : Int32) else (f1_58 l0)) := by
  unfold f1_44
  by_cases h0 : l0 < (216 : Int32) <;> by_cases h1 : (246 : Int32) < l0 <;> simp [h0, h1]
theorem own_p1_f1_58 (l0 : Int32) : f1_58 l0 = (if (¬ l0 < (248 : Int32) ∧ ¬ (767 : Int32) < l0) then (1 : Int32) else (f1_72 l0)) := by
  unfold f1_58
  by_cases h0 : l0 < (248 : Int32) <;> by_cases h1 : (767 : Int32) < l0 <;> simp [h0, h1]
theorem own_p1_f1_72 (l0 : Int32) : f1_72 l0 = (if (¬ l0 < (880 : Int32) ∧ ¬ (893 : Int32) < l0) then (1 : Int32) else (f1_86 l0)) := by
  unfold f1_72
  by_cases h0 : l0 < (880 : Int32) <;> by_cases h1 : (893 : Int32) < l0 <;> simp [h0, h1]
theorem own_p1_f1_86 (l0 : Int32) : f1_86 l0 = (if (¬ l0 < (895 : Int32) ∧ ¬ (8191 : Int32) < l0) then (1 : Int32) else (f1_100 l0)) := by
  unfold f1_86
  by_cases h0 : l0 < (895 : Int32) <;> by_cases h1 : (8191 : Int32) < l0 <;> simp [h0, h1]
theorem own_p1_f1_100 (l0 : Int32) : f1_100 l0 = (if (¬ l0 < (8204 : Int32) ∧ ¬ (8205 : Int32) < l0) then (1 : Int32) else (f1_114 l0)) := by
  unfold f1_100
  by_cases h0 : l0 < (8204 : Int32) <;> by_cases h1 : (8205 : Int32) < l0 <;> simp [h0, h1]
theorem own_p1_f1_114 (l0 : Int32) : f1_114 l0 = (if (¬ l0 < (8304 : Int32) ∧ ¬ (8591 : Int32) < l0) then (1 : Int32) else (f1_128 l0)) := by
  unfold f1_114
  by_cases h0 : l0 < (8304 : Int32) <;> by_cases h1 : (8591 : Int32) < l0 <;> simp [h0, h1]
theorem own_p1_f1_128 (l0 : Int32) : f1_128 l0 = (if (¬ l0 < (11264 : Int32) ∧ ¬ (12271 : Int32) < l0) then (1 : Int32) else (f1_142 l0)) := by
  unfold f1_128
  by_cases h0 : l0 < (11264 : Int32) <;> by_cases h1 : (12271 : Int32) < l0 <;> simp [h0, h1]
theorem own_p1_f1_142 (l0 : Int32) : f1_142 l0 = (if (¬ l0 < (12289 : Int32) ∧ ¬ (55295 : Int32) < l0) then (1 : Int32) else (f1_155 l0)) := by
  unfold f1_142
  by_cases h0 : l0 < (12289 : Int32) <;> by_cases h1 : (55295 : Int32) < l0 <;> simp [h0, h1]
theorem own_p1_f1_155 (l0 : Int32) : f1_155 l0 = (if (¬ l0 < (63744 : Int32) ∧ ¬ (64975 : Int32) < l0) then (1 : Int32) else (f1_167 l0)) := by
  unfold f1_155
  by_cases h0 : l0 < (63744 : Int32) <;> by_cases h1 : (64975 : Int32) < l0 <;> simp [h0, h1]
theorem own_p1_f1_167 (l0 : Int32) : f1_167 l0 = (if (¬ l0 < (65008 : Int32) ∧ ¬ (65533 : Int32) < l0) then (1 : Int32) else (f1_179 l0)) := by
  unfold f1_167
  by_cases h0 : l0 < (65008 : Int32) <;> by_cases h1 : (65533 : Int32) < l0 <;> simp [h0, h1]
theorem own_p1_f1_179 (l0 : Int32) : f1_179 l0 = (if (¬ l0 < (65536 : Int32) ∧ ¬ (983039 : Int32) < l0) then (1 : Int32) else (0 : Int32)) := by
  unfold f1_179
  by_cases h0 : l0 < (65536 : Int32) <;> by_cases h1 : (983039 : Int32) < l0 <;> simp [h0, h1]
theorem own_p1 (l0 : Int32) : f1_0 l0 = if (¬ l0 < (65 : Int32) ∧ ¬ (90 : Int32) < l0) ∨ (l0 = (95 : Int32) ∨ ((¬ l0 < (97 : Int32) ∧ ¬ (122 : Int32) < l0) ∨ ((¬ l0 < (192 : Int32) ∧ ¬ (214 : Int32) < l0) ∨ ((¬ l0 < (216 : Int32) ∧ ¬ (246 : Int32) < l0) ∨ ((¬ l0 < (248 : Int32) ∧ ¬ (767 : Int32) < l0) ∨ ((¬ l0 < (880 : Int32) ∧ ¬ (893 : Int32) < l0) ∨ ((¬ l0 < (895 : Int32) ∧ ¬ (8191 : Int32) < l0) ∨ ((¬ l0 < (8204 : Int32) ∧ ¬ (8205 : Int32) < l0) ∨ ((¬ l0 < (8304 : Int32) ∧ ¬ (8591 : Int32) < l0) ∨ ((¬ l0 < (11264 : Int32) ∧ ¬ (12271 : Int32) < l0) ∨ ((¬ l0 < (12289 : Int32) ∧ ¬ (55295 : Int32) < l0) ∨ ((¬ l0 < (63744 : Int32) ∧ ¬ (64975 : Int32) < l0) ∨ ((¬ l0 < (65008 : Int32) ∧ ¬ (65533 : Int32) < l0) ∨ ((¬ l0 < (65536 : Int32) ∧ ¬ (983039 : Int32) < l0))))))))))))))) then (1 : Int32) else (0 : Int32) := by
  rw [own_p1_f1_0, own_p1_f1_12, own_p1_f1_30, own_p1_f1_44, own_p1_f1_58, own_p1_f1_72, own_p1_f1_86, own_p1_f1_100, own_p1_f1_114, own_p1_f1_128, own_p1_f1_142, own_p1_f1_155, own_p1_f1_167, own_p1_f1_179]
  simp only [own_or]
theorem own_in0 (x a b : Int32) : f3_0 x a b = 0 ↔ ¬ (¬ x < a ∧ ¬ b < x) := by
  unfold f3_0
  by_cases h1 : x < a <;> by_cases h2 : b < x <;> simp [h1, h2]
theorem own_p2 (l0 : Int32) : f2_0 l0 = if (¬ l0 < (91 : Int32) ∧ ¬ (94 : Int32) < l0) ∨ (l0 = (96 : Int32) ∨ ((¬ l0 < (123 : Int32) ∧ ¬ (191 : Int32) < l0) ∨ (l0 = (215 : Int32) ∨ (l0 = (247 : Int32) ∨ ((¬ l0 < (768 : Int32) ∧ ¬ (879 : Int32) < l0) ∨ (l0 = (894 : Int32) ∨ ((¬ l0 < (8192 : Int32) ∧ ¬ (8203 : Int32) < l0) ∨ ((¬ l0 < (8206 : Int32) ∧ ¬ (8303 : Int32) < l0) ∨ ((¬ l0 < (8592 : Int32) ∧ ¬ (11263 : Int32) < l0) ∨ ((¬ l0 < (12272 : Int32) ∧ ¬ (12288 : Int32) < l0) ∨ ((¬ l0 < (55296 : Int32) ∧ ¬ (63743 : Int32) < l0) ∨ ((¬ l0 < (64976 : Int32) ∧ ¬ (65007 : Int32) < l0) ∨ ((¬ l0 < (65534 : Int32) ∧ ¬ (65535 : Int32) < l0)))))))))))))) then 1 else 0 := by
  unfold f2_0
  simp only [own_in0, ite_not, own_or]
theorem own_iff (l0 : Int32) (h1 : ¬ l0 < (65 : Int32)) (h2 : ¬ (983039 : Int32) < l0) : ((¬ l0 < (65 : Int32) ∧ ¬ (90 : Int32) < l0) ∨ (l0 = (95 : Int32) ∨ ((¬ l0 < (97 : Int32) ∧ ¬ (122 : Int32) < l0) ∨ ((¬ l0 < (192 : Int32) ∧ ¬ (214 : Int32) < l0) ∨ ((¬ l0 < (216 : Int32) ∧ ¬ (246 : Int32) < l0) ∨ ((¬ l0 < (248 : Int32) ∧ ¬ (767 : Int32) < l0) ∨ ((¬ l0 < (880 : Int32) ∧ ¬ (893 : Int32) < l0) ∨ ((¬ l0 < (895 : Int32) ∧ ¬ (8191 : Int32) < l0) ∨ ((¬ l0 < (8204 : Int32) ∧ ¬ (8205 : Int32) < l0) ∨ ((¬ l0 < (8304 : Int32) ∧ ¬ (8591 : Int32) < l0) ∨ ((¬ l0 < (11264 : Int32) ∧ ¬ (12271 : Int32) < l0) ∨ ((¬ l0 < (12289 : Int32) ∧ ¬ (55295 : Int32) < l0) ∨ ((¬ l0 < (63744 : Int32) ∧ ¬ (64975 : Int32) < l0) ∨ ((¬ l0 < (65008 : Int32) ∧ ¬ (65533 : Int32) < l0) ∨ ((¬ l0 < (65536 : Int32) ∧ ¬ (983039 : Int32) < l0)))))))))))))))) ↔ ¬ ((¬ l0 < (91 : Int32) ∧ ¬ (94 : Int32) < l0) ∨ (l0 = (96 : Int32) ∨ ((¬ l0 < (123 : Int32) ∧ ¬ (191 : Int32) < l0) ∨ (l0 = (215 : Int32) ∨ (l0 = (247 : Int32) ∨ ((¬ l0 < (768 : Int32) ∧ ¬ (879 : Int32) < l0) ∨ (l0 = (894 : Int32) ∨ ((¬ l0 < (8192 : Int32) ∧ ¬ (8203 : Int32) < l0) ∨ ((¬ l0 < (8206 : Int32) ∧ ¬ (8303 : Int32) < l0) ∨ ((¬ l0 < (8592 : Int32) ∧ ¬ (11263 : Int32) < l0) ∨ ((¬ l0 < (12272 : Int32) ∧ ¬ (12288 : Int32) < l0) ∨ ((¬ l0 < (55296 : Int32) ∧ ¬ (63743 : Int32) < l0) ∨ ((¬ l0 < (64976 : Int32) ∧ ¬ (65007 : Int32) < l0) ∨ ((¬ l0 < (65534 : Int32) ∧ ¬ (65535 : Int32) < l0))))))))))))))) := by
  simp only [Int32.lt_iff_toInt_lt, ← Int32.toInt_inj, Int32.reduceToInt] at h1 h2 ⊢
  generalize l0.toInt = i at h1 h2 ⊢
  omega
theorem own_lo (l0 : Int32) (h1 : l0 < (65 : Int32) ∨ (983039 : Int32) < l0) : ¬ ((¬ l0 < (65 : Int32) ∧ ¬ (90 : Int32) < l0) ∨ (l0 = (95 : Int32) ∨ ((¬ l0 < (97 : Int32) ∧ ¬ (122 : Int32) < l0) ∨ ((¬ l0 < (192 : Int32) ∧ ¬ (214 : Int32) < l0) ∨ ((¬ l0 < (216 : Int32) ∧ ¬ (246 : Int32) < l0) ∨ ((¬ l0 < (248 : Int32) ∧ ¬ (767 : Int32) < l0) ∨ ((¬ l0 < (880 : Int32) ∧ ¬ (893 : Int32) < l0) ∨ ((¬ l0 < (895 : Int32) ∧ ¬ (8191 : Int32) < l0) ∨ ((¬ l0 < (8204 : Int32) ∧ ¬ (8205 : Int32) < l0) ∨ ((¬ l0 < (8304 : Int32) ∧ ¬ (8591 : Int32) < l0) ∨ ((¬ l0 < (11264 : Int32) ∧ ¬ (12271 : Int32) < l0) ∨ ((¬ l0 < (12289 : Int32) ∧ ¬ (55295 : Int32) < l0) ∨ ((¬ l0 < (63744 : Int32) ∧ ¬ (64975 : Int32) < l0) ∨ ((¬ l0 < (65008 : Int32) ∧ ¬ (65533 : Int32) < l0) ∨ ((¬ l0 < (65536 : Int32) ∧ ¬ (983039 : Int32) < l0)))))))))))))))) := by
  simp only [Int32.lt_iff_toInt_lt, ← Int32.toInt_inj, Int32.reduceToInt] at h1 ⊢
  generalize l0.toInt = i at h1 ⊢
  omega
theorem own_same (x : Int32) : f1_0 x = if x < (65 : Int32) then 0 else if (983039 : Int32) < x then 0 else if f2_0 x = 0 then 1 else 0 := by
  rw [own_p1]
  by_cases h1 : x < (65 : Int32)
  · rw [if_pos h1, if_neg (own_lo x (Or.inl h1))]
  · by_cases h2 : (983039 : Int32) < x
    · rw [if_neg h1, if_pos h2, if_neg (own_lo x (Or.inr h2))]
    · rw [if_neg h1, if_neg h2, own_p2]
      have h := own_iff x h1 h2
      split
      · rename_i q; rw [if_neg (h.mp q), if_pos rfl]
      · rename_i q; rw [if_pos (Classical.not_not.mp fun r => q (h.mpr r)), if_neg (by decide)]
theorem pn_0 : plainName "com/example/parley/parley/XmlCharsIsNameStartPinLaw" = true := by first | (simp [plainName, overriddenIn]; done) | decide +kernel
theorem ef_0 (m : MethodId) (x0 : Int32) (x1 : Int32) : entryFrame m #[(.int x0), (.int x1)] maxLocals = mkF m 0 #[.val (.int x0), .val (.int x1), .unset, .unset, .unset] [] := by first | (simp [entryFrame, mkF, argsToLocals, Value.category, maxLocals]; done) | rfl
def Q0 (n0 : Nat) (v : Option Value) (h : Heap) (L : List Loc) : Prop := v = some (.int (1 : Int32)) ∧ Fr n0 L
set_option maxRecDepth 65536 in
set_option maxHeartbeats 400000000 in
theorem rm0 (l : Launch) (Z : State) (a0 : Array Value) (hw : ∀ d ∈ tables_1, d.before a0 Z = true) (ws : List Jvm.Cond) (x0 : Int32) (x1 : Int32) (h0 : Heap) (n0 : Nat) (Z0 : n0 ≤ h0.size) :
    MetFree l x (head1 (Jvm.Cond.code x code maxLocals ret :: ws) room_1) (fun a U => a = #[(.int x0), (.int x1)] ∧ Z.Warmed39 U.vm ∧ U.heap = h0) (fun _ _ _ _ _ => True) (fun _ U o U' => ∃ v L, o = .returned v ∧ Q0 n0 v U'.heap L ∧ FrameEnd U o U' L 0 0) := by
  refine MetFree.of_bodySF (plainFor_of_name pn_0) hisR ?_
  intro p e s m args below meth c s₁ Bd hml0 hP hK
  obtain ⟨rfl, hZ, hh⟩ := hP
  have hx := Bd.exec
  have hby := Bd.bytes
  have hml : c.maxLocals = 5 := hml0
  have hown : s.vm.findClass "com/example/parley/parley/XmlCharsIsNameStartPinLaw" = some m.cls := findClass_of_methodNamed Bd.named
  have hret : meth.sig.returnType = some .boolean := Bd.returns
  have hlk := BodyLoose.notSynchronized Bd
  have X0 : Stand p l e room_1 s m #[(.int x0), (.int x1)] below meth c s₁ [] 0 0 := Stand.of_body Bd
  have e0 : s₁.heap = h0 := by rw [← hh, Bd.state]; rfl
  have N0 := Fr.nil n0
  show own_End p e below s (Q0 n0) 0 0 (s₁.setTop (entryFrame m #[(.int x0), (.int x1)] maxLocals))
  refine own_cast (ef_0 m x0 x1) ?_
  refine own_go (S' := (s₁.setTop (mkF m 1 #[.val (.int x0), .val (.int x1), .unset, .unset, .unset] [(.int x1)]))) (fun t k => XS.iloadN X0.here hx rfl (hb hby at_0) rfl k) ?_
  refine own_go (S' := (s₁.setTop (mkF m 2 #[.val (.int x0), .val (.int x1), .unset, .unset, .unset] [(.int (3 : Int32)), (.int x1)]))) (fun t k => XT.iconstV X0.here hx rfl (3 : Int32) (hb hby at_1) (by decide) k) ?_
  refine own_go (S' := (s₁.setTop (mkF m 3 #[.val (.int x0), .val (.int x1), .unset, .unset, .unset] [(.int (x1 &&& (3 : Int32)))]))) (fun t k => XS.iand X0.here hx rfl (hb hby at_2) rfl k) ?_
  refine own_go (S' := (s₁.setTop (mkF m 4 #[.val (.int x0), .val (.int x1), .val (.int (x1 &&& (3 : Int32))), .unset, .unset] []))) (fun t k => XS.istoreN X0.here hx rfl (hb hby at_3) rfl (l' := #[.val (.int x0), .val (.int x1), .val (.int (x1 &&& (3 : Int32))), .unset, .unset]) rfl k) ?_
  refine own_go (S' := (s₁.setTop (mkF m 5 #[.val (.int x0), .val (.int x1), .val (.int (x1 &&& (3 : Int32))), .unset, .unset] [(.int (x1 &&& (3 : Int32)))]))) (fun t k => XS.iloadN X0.here hx rfl (hb hby at_4) rfl k) ?_
  by_cases hc5_1 : (x1 &&& (3 : Int32)) = (0 : Int32)
  ·
    refine own_go (S' := (s₁.setTop (mkF m 8 #[.val (.int x0), .val (.int x1), .val (.int (x1 &&& (3 : Int32))), .unset, .unset] []))) (fun t k => XS.ifNo X0.here hx rfl (hb hby at_5) rfl ((if0 _ _).trans (teq hc5_1).2) k) ?_
    refine own_go (S' := (s₁.setTop (mkF m 9 #[.val (.int x0), .val (.int x1), .val (.int (x1 &&& (3 : Int32))), .unset, .unset] [(.int x0)]))) (fun t k => XS.iloadN X0.here hx rfl (hb hby at_8) rfl k) ?_
    refine own_go (S' := (s₁.setTop (mkF m 10 #[.val (.int x0), .val (.int x1), .val (.int (x1 &&& (3 : Int32))), .val (.int x0), .unset] []))) (fun t k => XS.istoreN X0.here hx rfl (hb hby at_9) rfl (l' := #[.val (.int x0), .val (.int x1), .val (.int (x1 &&& (3 : Int32))), .val (.int x0), .unset]) rfl k) ?_
    refine own_go (S' := (s₁.setTop (mkF m 48 #[.val (.int x0), .val (.int x1), .val (.int (x1 &&& (3 : Int32))), .val (.int x0), .unset] []))) (fun t k => XS.goto X0.here hx rfl (pc0 := 10) (pc' := 48) rfl (hb hby at_10) (by decide) (by decide) k) ?_
    refine own_go (S' := (s₁.setTop (mkF m 49 #[.val (.int x0), .val (.int x1), .val (.int (x1 &&& (3 : Int32))), .val (.int x0), .unset] [(.int x0)]))) (fun t k => XS.iloadN X0.here hx rfl (hb hby at_48) rfl k) ?_
    refine own_go (S' := (s₁.setTop (mkF m 51 #[.val (.int x0), .val (.int x1), .val (.int (x1 &&& (3 : Int32))), .val (.int x0), .unset] [(.int (65 : Int32)), (.int x0)]))) (fun t k => XT.bipushV X0.here hx rfl (65 : Int32) (hb hby at_49) (by decide) k) ?_
    by_cases hc51_2 : x0 < (65 : Int32)
    ·
      refine own_go (S' := (s₁.setTop (mkF m 71 #[.val (.int x0), .val (.int x1), .val (.int (x1 &&& (3 : Int32))), .val (.int x0), .unset] []))) (fun t k => XS.icmpYes X0.here hx rfl (pc0 := 51) (pc' := 71) rfl (hb hby at_51) rfl (tlt hc51_2).1 (by decide) (by decide) k) ?_
      refine own_go (S' := (s₁.setTop (mkF m 72 #[.val (.int x0), .val (.int x1), .val (.int (x1 &&& (3 : Int32))), .val (.int x0), .unset] [(.int (0 : Int32))]))) (fun t k => XT.iconstV X0.here hx rfl (0 : Int32) (hb hby at_71) (by decide) k) ?_
      refine own_go (S' := (s₁.setTop (mkF m 74 #[.val (.int x0), .val (.int x1), .val (.int (x1 &&& (3 : Int32))), .val (.int x0), .val (.int (0 : Int32))] []))) (fun t k => XS.istore X0.here hx rfl (hb hby at_72) rfl (l' := #[.val (.int x0), .val (.int x1), .val (.int (x1 &&& (3 : Int32))), .val (.int x0), .val (.int (0 : Int32))]) rfl k) ?_
      refine own_go (S' := (s₁.setTop (mkF m 75 #[.val (.int x0), .val (.int x1), .val (.int (x1 &&& (3 : Int32))), .val (.int x0), .val (.int (0 : Int32))] [(.int x0)]))) (fun t k => XS.iloadN X0.here hx rfl (hb hby at_74) rfl k) ?_
      obtain ⟨T3, X3, e3, st3⟩ := own_callP X0 hx hZ (y := (⟨"com/example/parley/parley/XmlChars", "isNameStart", "(I)Z"⟩ : MethodName)) hown (hw _ (List.mem_of_getElem? (i := 2) rfl)) (hw _ (List.mem_of_getElem? (i := 3) rfl)) (hw _ (List.mem_of_getElem? (i := 4) rfl)) (hw _ (List.mem_of_getElem? (i := 5) rfl)) (rm1 l Z a0 hw x0 h0) e0 (argsL := [(.int x0)]) (rest := []) (Ls := #[.val (.int x0), .val (.int x1), .val (.int (x1 &&& (3 : Int32))), .val (.int x0), .val (.int (0 : Int32))]) (hb hby at_75) pd_1 0 (by rw [hml]; rfl) (by decide) rfl rfl rfl (Nat.le_of_eq rfl) (by decide) (by decide) (by decide) (by decide)
      refine own_go (S' := (T3.setTop (mkF m 78 #[.val (.int x0), .val (.int x1), .val (.int (x1 &&& (3 : Int32))), .val (.int x0), .val (.int (0 : Int32))] [(.int (f1_0 x0))]))) st3 ?_
      refine own_go (S' := (T3.setTop (mkF m 80 #[.val (.int x0), .val (.int x1), .val (.int (x1 &&& (3 : Int32))), .val (.int x0), .val (.int (0 : Int32))] [(.int (0 : Int32)), (.int (f1_0 x0))]))) (fun t k => XS.iload X3.here hx rfl (hb hby at_78) rfl k) ?_
      refine own_go (S' := (T3.setTop (mkF m 83 #[.val (.int x0), .val (.int x1), .val (.int (x1 &&& (3 : Int32))), .val (.int x0), .val (.int (0 : Int32))] []))) (fun t k => XS.icmpNo X3.here hx rfl (hb hby at_80) rfl (teq (by rw [own_same, if_pos hc51_2])).2 k) ?_
      refine own_go (S' := (T3.setTop (mkF m 84 #[.val (.int x0), .val (.int x1), .val (.int (x1 &&& (3 : Int32))), .val (.int x0), .val (.int (0 : Int32))] [(.int (1 : Int32))]))) (fun t k => XT.iconstV X3.here hx rfl (1 : Int32) (hb hby at_83) (by decide) k) ?_
      refine own_go (S' := (T3.setTop (mkF m 88 #[.val (.int x0), .val (.int x1), .val (.int (x1 &&& (3 : Int32))), .val (.int x0), .val (.int (0 : Int32))] [(.int (1 : Int32))]))) (fun t k => XS.goto X3.here hx rfl (pc0 := 84) (pc' := 88) rfl (hb hby at_84) (by decide) (by decide) k) ?_
      exact own_retN X3 hx hret hlk (by simp) (hb hby at_88) (by first | rfl | decide) (by decide) (by decide) ⟨rfl, N0⟩
    ·
      refine own_go (S' := (s₁.setTop (mkF m 54 #[.val (.int x0), .val (.int x1), .val (.int (x1 &&& (3 : Int32))), .val (.int x0), .unset] []))) (fun t k => XS.icmpNo X0.here hx rfl (hb hby at_51) rfl (flt hc51_2).1 k) ?_
      refine own_go (S' := (s₁.setTop (mkF m 55 #[.val (.int x0), .val (.int x1), .val (.int (x1 &&& (3 : Int32))), .val (.int x0), .unset] [(.int x0)]))) (fun t k => XS.iloadN X0.here hx rfl (hb hby at_54) rfl k) ?_
      refine own_go (S' := (s₁.setTop (mkF m 57 #[.val (.int x0), .val (.int x1), .val (.int (x1 &&& (3 : Int32))), .val (.int x0), .unset] [(.int (983039 : Int32)), (.int x0)]))) (fun t k => Stand.ldcI X0 hx hown (mvT hZ (hw _ (List.mem_of_getElem? (i := 9) rfl))) rfl (hb hby at_55) k) ?_
      by_cases hc57_4 : (983039 : Int32) < x0
      ·
        refine own_go (S' := (s₁.setTop (mkF m 71 #[.val (.int x0), .val (.int x1), .val (.int (x1 &&& (3 : Int32))), .val (.int x0), .unset] []))) (fun t k => XS.icmpYes X0.here hx rfl (pc0 := 57) (pc' := 71) rfl (hb hby at_57) rfl (tlt hc57_4).2.2.1 (by decide) (by decide) k) ?_
        refine own_go (S' := (s₁.setTop (mkF m 72 #[.val (.int x0), .val (.int x1), .val (.int (x1 &&& (3 : Int32))), .val (.int x0), .unset] [(.int (0 : Int32))]))) (fun t k => XT.iconstV X0.here hx rfl (0 : Int32) (hb hby at_71) (by decide) k) ?_
        refine own_go (S' := (s₁.setTop (mkF m 74 #[.val (.int x0), .val (.int x1), .val (.int (x1 &&& (3 : Int32))), .val (.int x0), .val (.int (0 : Int32))] []))) (fun t k => XS.istore X0.here hx rfl (hb hby at_72) rfl (l' := #[.val (.int x0), .val (.int x1), .val (.int (x1 &&& (3 : Int32))), .val (.int x0), .val (.int (0 : Int32))]) rfl k) ?_
        refine own_go (S' := (s₁.setTop (mkF m 75 #[.val (.int x0), .val (.int x1), .val (.int (x1 &&& (3 : Int32))), .val (.int x0), .val (.int (0 : Int32))] [(.int x0)]))) (fun t k => XS.iloadN X0.here hx rfl (hb hby at_74) rfl k) ?_
        obtain ⟨T5, X5, e5, st5⟩ := own_callP X0 hx hZ (y := (⟨"com/example/parley/parley/XmlChars", "isNameStart", "(I)Z"⟩ : MethodName)) hown (hw _ (List.mem_of_getElem? (i := 2) rfl)) (hw _ (List.mem_of_getElem? (i := 3) rfl)) (hw _ (List.mem_of_getElem? (i := 4) rfl)) (hw _ (List.mem_of_getElem? (i := 5) rfl)) (rm1 l Z a0 hw x0 h0) e0 (argsL := [(.int x0)]) (rest := []) (Ls := #[.val (.int x0), .val (.int x1), .val (.int (x1 &&& (3 : Int32))), .val (.int x0), .val (.int (0 : Int32))]) (hb hby at_75) pd_1 0 (by rw [hml]; rfl) (by decide) rfl rfl rfl (Nat.le_of_eq rfl) (by decide) (by decide) (by decide) (by decide)
        refine own_go (S' := (T5.setTop (mkF m 78 #[.val (.int x0), .val (.int x1), .val (.int (x1 &&& (3 : Int32))), .val (.int x0), .val (.int (0 : Int32))] [(.int (f1_0 x0))]))) st5 ?_
        refine own_go (S' := (T5.setTop (mkF m 80 #[.val (.int x0), .val (.int x1), .val (.int (x1 &&& (3 : Int32))), .val (.int x0), .val (.int (0 : Int32))] [(.int (0 : Int32)), (.int (f1_0 x0))]))) (fun t k => XS.iload X5.here hx rfl (hb hby at_78) rfl k) ?_
        refine own_go (S' := (T5.setTop (mkF m 83 #[.val (.int x0), .val (.int x1), .val (.int (x1 &&& (3 : Int32))), .val (.int x0), .val (.int (0 : Int32))] []))) (fun t k => XS.icmpNo X5.here hx rfl (hb hby at_80) rfl (teq (by rw [own_same, if_neg hc51_2, if_pos hc57_4])).2 k) ?_
        refine own_go (S' := (T5.setTop (mkF m 84 #[.val (.int x0), .val (.int x1), .val (.int (x1 &&& (3 : Int32))), .val (.int x0), .val (.int (0 : Int32))] [(.int (1 : Int32))]))) (fun t k => XT.iconstV X5.here hx rfl (1 : Int32) (hb hby at_83) (by decide) k) ?_
        refine own_go (S' := (T5.setTop (mkF m 88 #[.val (.int x0), .val (.int x1), .val (.int (x1 &&& (3 : Int32))), .val (.int x0), .val (.int (0 : Int32))] [(.int (1 : Int32))]))) (fun t k => XS.goto X5.here hx rfl (pc0 := 84) (pc' := 88) rfl (hb hby at_84) (by decide) (by decide) k) ?_
        exact own_retN X5 hx hret hlk (by simp) (hb hby at_88) (by first | rfl | decide) (by decide) (by decide) ⟨rfl, N0⟩
      ·
        refine own_go (S' := (s₁.setTop (mkF m 60 #[.val (.int x0), .val (.int x1), .val (.int (x1 &&& (3 : Int32))), .val (.int x0), .unset] []))) (fun t k => XS.icmpNo X0.here hx rfl (hb hby at_57) rfl (flt hc57_4).2.2.1 k) ?_
        refine own_go (S' := (s₁.setTop (mkF m 61 #[.val (.int x0), .val (.int x1), .val (.int (x1 &&& (3 : Int32))), .val (.int x0), .unset] [(.int x0)]))) (fun t k => XS.iloadN X0.here hx rfl (hb hby at_60) rfl k) ?_
        obtain ⟨T6, X6, e6, st6⟩ := own_callP X0 hx hZ (y := (⟨"com/example/parley/parley/XmlCharsIsNameStartPinLaw", "inGap", "(I)Z"⟩ : MethodName)) hown (hw _ (List.mem_of_getElem? (i := 10) rfl)) (hw _ (List.mem_of_getElem? (i := 11) rfl)) (hw _ (List.mem_of_getElem? (i := 12) rfl)) (hw _ (List.mem_of_getElem? (i := 13) rfl)) (rm2 l Z a0 hw x0 h0) e0 (argsL := [(.int x0)]) (rest := []) (Ls := #[.val (.int x0), .val (.int x1), .val (.int (x1 &&& (3 : Int32))), .val (.int x0), .unset]) (hb hby at_61) pd_1 0 (by rw [hml]; rfl) (by decide) rfl rfl rfl (Nat.le_of_eq rfl) (by decide) (by decide) (by decide) (by decide)
        refine own_go (S' := (T6.setTop (mkF m 64 #[.val (.int x0), .val (.int x1), .val (.int (x1 &&& (3 : Int32))), .val (.int x0), .unset] [(.int (f2_0 x0))]))) st6 ?_
        by_cases hc64_7 : (f2_0 x0) = (0 : Int32)
        ·
          refine own_go (S' := (T6.setTop (mkF m 67 #[.val (.int x0), .val (.int x1), .val (.int (x1 &&& (3 : Int32))), .val (.int x0), .unset] []))) (fun t k => XS.ifNo X6.here hx rfl (hb hby at_64) rfl ((if0 _ _).trans (teq hc64_7).2) k) ?_
          refine own_go (S' := (T6.setTop (mkF m 68 #[.val (.int x0), .val (.int x1), .val (.int (x1 &&& (3 : Int32))), .val (.int x0), .unset] [(.int (1 : Int32))]))) (fun t k => XT.iconstV X6.here hx rfl (1 : Int32) (hb hby at_67) (by decide) k) ?_
          refine own_go (S' := (T6.setTop (mkF m 72 #[.val (.int x0), .val (.int x1), .val (.int (x1 &&& (3 : Int32))), .val (.int x0), .unset] [(.int (1 : Int32))]))) (fun t k => XS.goto X6.here hx rfl (pc0 := 68) (pc' := 72) rfl (hb hby at_68) (by decide) (by decide) k) ?_
          refine own_go (S' := (T6.setTop (mkF m 74 #[.val (.int x0), .val (.int x1), .val (.int (x1 &&& (3 : Int32))), .val (.int x0), .val (.int (1 : Int32))] []))) (fun t k => XS.istore X6.here hx rfl (hb hby at_72) rfl (l' := #[.val (.int x0), .val (.int x1), .val (.int (x1 &&& (3 : Int32))), .val (.int x0), .val (.int (1 : Int32))]) rfl k) ?_
          refine own_go (S' := (T6.setTop (mkF m 75 #[.val (.int x0), .val (.int x1), .val (.int (x1 &&& (3 : Int32))), .val (.int x0), .val (.int (1 : Int32))] [(.int x0)]))) (fun t k => XS.iloadN X6.here hx rfl (hb hby at_74) rfl k) ?_
          obtain ⟨T8, X8, e8, st8⟩ := own_callP X6 hx hZ (y := (⟨"com/example/parley/parley/XmlChars", "isNameStart", "(I)Z"⟩ : MethodName)) hown (hw _ (List.mem_of_getElem? (i := 2) rfl)) (hw _ (List.mem_of_getElem? (i := 3) rfl)) (hw _ (List.mem_of_getElem? (i := 4) rfl)) (hw _ (List.mem_of_getElem? (i := 5) rfl)) (rm1 l Z a0 hw x0 h0) e6 (argsL := [(.int x0)]) (rest := []) (Ls := #[.val (.int x0), .val (.int x1), .val (.int (x1 &&& (3 : Int32))), .val (.int x0), .val (.int (1 : Int32))]) (hb hby at_75) pd_1 0 (by rw [hml]; rfl) (by decide) rfl rfl rfl (Nat.le_of_eq rfl) (by decide) (by decide) (by decide) (by decide)
          refine own_go (S' := (T8.setTop (mkF m 78 #[.val (.int x0), .val (.int x1), .val (.int (x1 &&& (3 : Int32))), .val (.int x0), .val (.int (1 : Int32))] [(.int (f1_0 x0))]))) st8 ?_
          refine own_go (S' := (T8.setTop (mkF m 80 #[.val (.int x0), .val (.int x1), .val (.int (x1 &&& (3 : Int32))), .val (.int x0), .val (.int (1 : Int32))] [(.int (1 : Int32)), (.int (f1_0 x0))]))) (fun t k => XS.iload X8.here hx rfl (hb hby at_78) rfl k) ?_
          refine own_go (S' := (T8.setTop (mkF m 83 #[.val (.int x0), .val (.int x1), .val (.int (x1 &&& (3 : Int32))), .val (.int x0), .val (.int (1 : Int32))] []))) (fun t k => XS.icmpNo X8.here hx rfl (hb hby at_80) rfl (teq (by rw [own_same, if_neg hc51_2, if_neg hc57_4, if_pos hc64_7])).2 k) ?_
          refine own_go (S' := (T8.setTop (mkF m 84 #[.val (.int x0), .val (.int x1), .val (.int (x1 &&& (3 : Int32))), .val (.int x0), .val (.int (1 : Int32))] [(.int (1 : Int32))]))) (fun t k => XT.iconstV X8.here hx rfl (1 : Int32) (hb hby at_83) (by decide) k) ?_
          refine own_go (S' := (T8.setTop (mkF m 88 #[.val (.int x0), .val (.int x1), .val (.int (x1 &&& (3 : Int32))), .val (.int x0), .val (.int (1 : Int32))] [(.int (1 : Int32))]))) (fun t k => XS.goto X8.here hx rfl (pc0 := 84) (pc' := 88) rfl (hb hby at_84) (by decide) (by decide) k) ?_
          exact own_retN X8 hx hret hlk (by simp) (hb hby at_88) (by first | rfl | decide) (by decide) (by decide) ⟨rfl, N0⟩
        ·
          refine own_go (S' := (T6.setTop (mkF m 71 #[.val (.int x0), .val (.int x1), .val (.int (x1 &&& (3 : Int32))), .val (.int x0), .unset] []))) (fun t k => XS.ifYes X6.here hx rfl (pc0 := 64) (pc' := 71) rfl (hb hby at_64) rfl ((if0 _ _).trans (feq hc64_7).2) (by decide) (by decide) k) ?_
          refine own_go (S' := (T6.setTop (mkF m 72 #[.val (.int x0), .val (.int x1), .val (.int (x1 &&& (3 : Int32))), .val (.int x0), .unset] [(.int (0 : Int32))]))) (fun t k => XT.iconstV X6.here hx rfl (0 : Int32) (hb hby at_71) (by decide) k) ?_
          refine own_go (S' := (T6.setTop (mkF m 74 #[.val (.int x0), .val (.int x1), .val (.int (x1 &&& (3 : Int32))), .val (.int x0), .val (.int (0 : Int32))] []))) (fun t k => XS.istore X6.here hx rfl (hb hby at_72) rfl (l' := #[.val (.int x0), .val (.int x1), .val (.int (x1 &&& (3 : Int32))), .val (.int x0), .val (.int (0 : Int32))]) rfl k) ?_
          refine own_go (S' := (T6.setTop (mkF m 75 #[.val (.int x0), .val (.int x1), .val (.int (x1 &&& (3 : Int32))), .val (.int x0), .val (.int (0 : Int32))] [(.int x0)]))) (fun t k => XS.iloadN X6.here hx rfl (hb hby at_74) rfl k) ?_
          obtain ⟨T9, X9, e9, st9⟩ := own_callP X6 hx hZ (y := (⟨"com/example/parley/parley/XmlChars", "isNameStart", "(I)Z"⟩ : MethodName)) hown (hw _ (List.mem_of_getElem? (i := 2) rfl)) (hw _ (List.mem_of_getElem? (i := 3) rfl)) (hw _ (List.mem_of_getElem? (i := 4) rfl)) (hw _ (List.mem_of_getElem? (i := 5) rfl)) (rm1 l Z a0 hw x0 h0) e6 (argsL := [(.int x0)]) (rest := []) (Ls := #[.val (.int x0), .val (.int x1), .val (.int (x1 &&& (3 : Int32))), .val (.int x0), .val (.int (0 : Int32))]) (hb hby at_75) pd_1 0 (by rw [hml]; rfl) (by decide) rfl rfl rfl (Nat.le_of_eq rfl) (by decide) (by decide) (by decide) (by decide)
          refine own_go (S' := (T9.setTop (mkF m 78 #[.val (.int x0), .val (.int x1), .val (.int (x1 &&& (3 : Int32))), .val (.int x0), .val (.int (0 : Int32))] [(.int (f1_0 x0))]))) st9 ?_
          refine own_go (S' := (T9.setTop (mkF m 80 #[.val (.int x0), .val (.int x1), .val (.int (x1 &&& (3 : Int32))), .val (.int x0), .val (.int (0 : Int32))] [(.int (0 : Int32)), (.int (f1_0 x0))]))) (fun t k => XS.iload X9.here hx rfl (hb hby at_78) rfl k) ?_
          refine own_go (S' := (T9.setTop (mkF m 83 #[.val (.int x0), .val (.int x1), .val (.int (x1 &&& (3 : Int32))), .val (.int x0), .val (.int (0 : Int32))] []))) (fun t k => XS.icmpNo X9.here hx rfl (hb hby at_80) rfl (teq (by rw [own_same, if_neg hc51_2, if_neg hc57_4, if_neg hc64_7])).2 k) ?_
          refine own_go (S' := (T9.setTop (mkF m 84 #[.val (.int x0), .val (.int x1), .val (.int (x1 &&& (3 : Int32))), .val (.int x0), .val (.int (0 : Int32))] [(.int (1 : Int32))]))) (fun t k => XT.iconstV X9.here hx rfl (1 : Int32) (hb hby at_83) (by decide) k) ?_
          refine own_go (S' := (T9.setTop (mkF m 88 #[.val (.int x0), .val (.int x1), .val (.int (x1 &&& (3 : Int32))), .val (.int x0), .val (.int (0 : Int32))] [(.int (1 : Int32))]))) (fun t k => XS.goto X9.here hx rfl (pc0 := 84) (pc' := 88) rfl (hb hby at_84) (by decide) (by decide) k) ?_
          exact own_retN X9 hx hret hlk (by simp) (hb hby at_88) (by first | rfl | decide) (by decide) (by decide) ⟨rfl, N0⟩
  ·
    refine own_go (S' := (s₁.setTop (mkF m 13 #[.val (.int x0), .val (.int x1), .val (.int (x1 &&& (3 : Int32))), .unset, .unset] []))) (fun t k => XS.ifYes X0.here hx rfl (pc0 := 5) (pc' := 13) rfl (hb hby at_5) rfl ((if0 _ _).trans (feq hc5_1).2) (by decide) (by decide) k) ?_
    refine own_go (S' := (s₁.setTop (mkF m 14 #[.val (.int x0), .val (.int x1), .val (.int (x1 &&& (3 : Int32))), .unset, .unset] [(.int (x1 &&& (3 : Int32)))]))) (fun t k => XS.iloadN X0.here hx rfl (hb hby at_13) rfl k) ?_
    refine own_go (S' := (s₁.setTop (mkF m 15 #[.val (.int x0), .val (.int x1), .val (.int (x1 &&& (3 : Int32))), .unset, .unset] [(.int (1 : Int32)), (.int (x1 &&& (3 : Int32)))]))) (fun t k => XT.iconstV X0.here hx rfl (1 : Int32) (hb hby at_14) (by decide) k) ?_
    by_cases hc15_10 : (x1 &&& (3 : Int32)) = (1 : Int32)
    ·
      refine own_go (S' := (s₁.setTop (mkF m 18 #[.val (.int x0), .val (.int x1), .val (.int (x1 &&& (3 : Int32))), .unset, .unset] []))) (fun t k => XS.icmpNo X0.here hx rfl (hb hby at_15) rfl (teq hc15_10).2 k) ?_
      refine own_go (S' := (s₁.setTop (mkF m 19 #[.val (.int x0), .val (.int x1), .val (.int (x1 &&& (3 : Int32))), .unset, .unset] [(.int x0)]))) (fun t k => XS.iloadN X0.here hx rfl (hb hby at_18) rfl k) ?_
      refine own_go (S' := (s₁.setTop (mkF m 22 #[.val (.int x0), .val (.int x1), .val (.int (x1 &&& (3 : Int32))), .unset, .unset] [(.int (255 : Int32)), (.int x0)]))) (fun t k => XT.sipushV X0.here hx rfl (255 : Int32) (hb hby at_19) (by decide) k) ?_
      refine own_go (S' := (s₁.setTop (mkF m 23 #[.val (.int x0), .val (.int x1), .val (.int (x1 &&& (3 : Int32))), .unset, .unset] [(.int (x0 &&& (255 : Int32)))]))) (fun t k => XS.iand X0.here hx rfl (hb hby at_22) rfl k) ?_
      refine own_go (S' := (s₁.setTop (mkF m 24 #[.val (.int x0), .val (.int x1), .val (.int (x1 &&& (3 : Int32))), .val (.int (x0 &&& (255 : Int32))), .unset] []))) (fun t k => XS.istoreN X0.here hx rfl (hb hby at_23) rfl (l' := #[.val (.int x0), .val (.int x1), .val (.int (x1 &&& (3 : Int32))), .val (.int (x0 &&& (255 : Int32))), .unset]) rfl k) ?_
      generalize hg23 : (x0 &&& (255 : Int32)) = y23
      refine own_go (S' := (s₁.setTop (mkF m 48 #[.val (.int x0), .val (.int x1), .val (.int (x1 &&& (3 : Int32))), .val (.int y23), .unset] []))) (fun t k => XS.goto X0.here hx rfl (pc0 := 24) (pc' := 48) rfl (hb hby at_24) (by decide) (by decide) k) ?_
      refine own_go (S' := (s₁.setTop (mkF m 49 #[.val (.int x0), .val (.int x1), .val (.int (x1 &&& (3 : Int32))), .val (.int y23), .unset] [(.int y23)]))) (fun t k => XS.iloadN X0.here hx rfl (hb hby at_48) rfl k) ?_
      refine own_go (S' := (s₁.setTop (mkF m 51 #[.val (.int x0), .val (.int x1), .val (.int (x1 &&& (3 : Int32))), .val (.int y23), .unset] [(.int (65 : Int32)), (.int y23)]))) (fun t k => XT.bipushV X0.here hx rfl (65 : Int32) (hb hby at_49) (by decide) k) ?_
      by_cases hc51_11 : y23 < (65 : Int32)
      ·
        refine own_go (S' := (s₁.setTop (mkF m 71 #[.val (.int x0), .val (.int x1), .val (.int (x1 &&& (3 : Int32))), .val (.int y23), .unset] []))) (fun t k => XS.icmpYes X0.here hx rfl (pc0 := 51) (pc' := 71) rfl (hb hby at_51) rfl (tlt hc51_11).1 (by decide) (by decide) k) ?_
        refine own_go (S' := (s₁.setTop (mkF m 72 #[.val (.int x0), .val (.int x1), .val (.int (x1 &&& (3 : Int32))), .val (.int y23), .unset] [(.int (0 : Int32))]))) (fun t k => XT.iconstV X0.here hx rfl (0 : Int32) (hb hby at_71) (by decide) k) ?_
        refine own_go (S' := (s₁.setTop (mkF m 74 #[.val (.int x0), .val (.int x1), .val (.int (x1 &&& (3 : Int32))), .val (.int y23), .val (.int (0 : Int32))] []))) (fun t k => XS.istore X0.here hx rfl (hb hby at_72) rfl (l' := #[.val (.int x0), .val (.int x1), .val (.int (x1 &&& (3 : Int32))), .val (.int y23), .val (.int (0 : Int32))]) rfl k) ?_
        refine own_go (S' := (s₁.setTop (mkF m 75 #[.val (.int x0), .val (.int x1), .val (.int (x1 &&& (3 : Int32))), .val (.int y23), .val (.int (0 : Int32))] [(.int y23)]))) (fun t k => XS.iloadN X0.here hx rfl (hb hby at_74) rfl k) ?_
        obtain ⟨T12, X12, e12, st12⟩ := own_callP X0 hx hZ (y := (⟨"com/example/parley/parley/XmlChars", "isNameStart", "(I)Z"⟩ : MethodName)) hown (hw _ (List.mem_of_getElem? (i := 2) rfl)) (hw _ (List.mem_of_getElem? (i := 3) rfl)) (hw _ (List.mem_of_getElem? (i := 4) rfl)) (hw _ (List.mem_of_getElem? (i := 5) rfl)) (rm1 l Z a0 hw y23 h0) e0 (argsL := [(.int y23)]) (rest := []) (Ls := #[.val (.int x0), .val (.int x1), .val (.int (x1 &&& (3 : Int32))), .val (.int y23), .val (.int (0 : Int32))]) (hb hby at_75) pd_1 0 (by rw [hml]; rfl) (by decide) rfl rfl rfl (Nat.le_of_eq rfl) (by decide) (by decide) (by decide) (by decide)
        refine own_go (S' := (T12.setTop (mkF m 78 #[.val (.int x0), .val (.int x1), .val (.int (x1 &&& (3 : Int32))), .val (.int y23), .val (.int (0 : Int32))] [(.int (f1_0 y23))]))) st12 ?_
        refine own_go (S' := (T12.setTop (mkF m 80 #[.val (.int x0), .val (.int x1), .val (.int (x1 &&& (3 : Int32))), .val (.int y23), .val (.int (0 : Int32))] [(.int (0 : Int32)), (.int (f1_0 y23))]))) (fun t k => XS.iload X12.here hx rfl (hb hby at_78) rfl k) ?_
        refine own_go (S' := (T12.setTop (mkF m 83 #[.val (.int x0), .val (.int x1), .val (.int (x1 &&& (3 : Int32))), .val (.int y23), .val (.int (0 : Int32))] []))) (fun t k => XS.icmpNo X12.here hx rfl (hb hby at_80) rfl (teq (by rw [own_same, if_pos hc51_11])).2 k) ?_
        refine own_go (S' := (T12.setTop (mkF m 84 #[.val (.int x0), .val (.int x1), .val (.int (x1 &&& (3 : Int32))), .val (.int y23), .val (.int (0 : Int32))] [(.int (1 : Int32))]))) (fun t k => XT.iconstV X12.here hx rfl (1 : Int32) (hb hby at_83) (by decide) k) ?_
        refine own_go (S' := (T12.setTop (mkF m 88 #[.val (.int x0), .val (.int x1), .val (.int (x1 &&& (3 : Int32))), .val (.int y23), .val (.int (0 : Int32))] [(.int (1 : Int32))]))) (fun t k => XS.goto X12.here hx rfl (pc0 := 84) (pc' := 88) rfl (hb hby at_84) (by decide) (by decide) k) ?_
        exact own_retN X12 hx hret hlk (by simp) (hb hby at_88) (by first | rfl | decide) (by decide) (by decide) ⟨rfl, N0⟩
      ·
        refine own_go (S' := (s₁.setTop (mkF m 54 #[.val (.int x0), .val (.int x1), .val (.int (x1 &&& (3 : Int32))), .val (.int y23), .unset] []))) (fun t k => XS.icmpNo X0.here hx rfl (hb hby at_51) rfl (flt hc51_11).1 k) ?_
        refine own_go (S' := (s₁.setTop (mkF m 55 #[.val (.int x0), .val (.int x1), .val (.int (x1 &&& (3 : Int32))), .val (.int y23), .unset] [(.int y23)]))) (fun t k => XS.iloadN X0.here hx rfl (hb hby at_54) rfl k) ?_
        refine own_go (S' := (s₁.setTop (mkF m 57 #[.val (.int x0), .val (.int x1), .val (.int (x1 &&& (3 : Int32))), .val (.int y23), .unset] [(.int (983039 : Int32)), (.int y23)]))) (fun t k => Stand.ldcI X0 hx hown (mvT hZ (hw _ (List.mem_of_getElem? (i := 9) rfl))) rfl (hb hby at_55) k) ?_
        by_cases hc57_13 : (983039 : Int32) < y23
        ·
          refine own_go (S' := (s₁.setTop (mkF m 71 #[.val (.int x0), .val (.int x1), .val (.int (x1 &&& (3 : Int32))), .val (.int y23), .unset] []))) (fun t k => XS.icmpYes X0.here hx rfl (pc0 := 57) (pc' := 71) rfl (hb hby at_57) rfl (tlt hc57_13).2.2.1 (by decide) (by decide) k) ?_
          refine own_go (S' := (s₁.setTop (mkF m 72 #[.val (.int x0), .val (.int x1), .val (.int (x1 &&& (3 : Int32))), .val (.int y23), .unset] [(.int (0 : Int32))]))) (fun t k => XT.iconstV X0.here hx rfl (0 : Int32) (hb hby at_71) (by decide) k) ?_
          refine own_go (S' := (s₁.setTop (mkF m 74 #[.val (.int x0), .val (.int x1), .val (.int (x1 &&& (3 : Int32))), .val (.int y23), .val (.int (0 : Int32))] []))) (fun t k => XS.istore X0.here hx rfl (hb hby at_72) rfl (l' := #[.val (.int x0), .val (.int x1), .val (.int (x1 &&& (3 : Int32))), .val (.int y23), .val (.int (0 : Int32))]) rfl k) ?_
          refine own_go (S' := (s₁.setTop (mkF m 75 #[.val (.int x0), .val (.int x1), .val (.int (x1 &&& (3 : Int32))), .val (.int y23), .val (.int (0 : Int32))] [(.int y23)]))) (fun t k => XS.iloadN X0.here hx rfl (hb hby at_74) rfl k) ?_
          obtain ⟨T14, X14, e14, st14⟩ := own_callP X0 hx hZ (y := (⟨"com/example/parley/parley/XmlChars", "isNameStart", "(I)Z"⟩ : MethodName)) hown (hw _ (List.mem_of_getElem? (i := 2) rfl)) (hw _ (List.mem_of_getElem? (i := 3) rfl)) (hw _ (List.mem_of_getElem? (i := 4) rfl)) (hw _ (List.mem_of_getElem? (i := 5) rfl)) (rm1 l Z a0 hw y23 h0) e0 (argsL := [(.int y23)]) (rest := []) (Ls := #[.val (.int x0), .val (.int x1), .val (.int (x1 &&& (3 : Int32))), .val (.int y23), .val (.int (0 : Int32))]) (hb hby at_75) pd_1 0 (by rw [hml]; rfl) (by decide) rfl rfl rfl (Nat.le_of_eq rfl) (by decide) (by decide) (by decide) (by decide)
          refine own_go (S' := (T14.setTop (mkF m 78 #[.val (.int x0), .val (.int x1), .val (.int (x1 &&& (3 : Int32))), .val (.int y23), .val (.int (0 : Int32))] [(.int (f1_0 y23))]))) st14 ?_
          refine own_go (S' := (T14.setTop (mkF m 80 #[.val (.int x0), .val (.int x1), .val (.int (x1 &&& (3 : Int32))), .val (.int y23), .val (.int (0 : Int32))] [(.int (0 : Int32)), (.int (f1_0 y23))]))) (fun t k => XS.iload X14.here hx rfl (hb hby at_78) rfl k) ?_
          refine own_go (S' := (T14.setTop (mkF m 83 #[.val (.int x0), .val (.int x1), .val (.int (x1 &&& (3 : Int32))), .val (.int y23), .val (.int (0 : Int32))] []))) (fun t k => XS.icmpNo X14.here hx rfl (hb hby at_80) rfl (teq (by rw [own_same, if_neg hc51_11, if_pos hc57_13])).2 k) ?_
          refine own_go (S' := (T14.setTop (mkF m 84 #[.val (.int x0), .val (.int x1), .val (.int (x1 &&& (3 : Int32))), .val (.int y23), .val (.int (0 : Int32))] [(.int (1 : Int32))]))) (fun t k => XT.iconstV X14.here hx rfl (1 : Int32) (hb hby at_83) (by decide) k) ?_
          refine own_go (S' := (T14.setTop (mkF m 88 #[.val (.int x0), .val (.int x1), .val (.int (x1 &&& (3 : Int32))), .val (.int y23), .val (.int (0 : Int32))] [(.int (1 : Int32))]))) (fun t k => XS.goto X14.here hx rfl (pc0 := 84) (pc' := 88) rfl (hb hby at_84) (by decide) (by decide) k) ?_
          exact own_retN X14 hx hret hlk (by simp) (hb hby at_88) (by first | rfl | decide) (by decide) (by decide) ⟨rfl, N0⟩
        ·
          refine own_go (S' := (s₁.setTop (mkF m 60 #[.val (.int x0), .val (.int x1), .val (.int (x1 &&& (3 : Int32))), .val (.int y23), .unset] []))) (fun t k => XS.icmpNo X0.here hx rfl (hb hby at_57) rfl (flt hc57_13).2.2.1 k) ?_
          refine own_go (S' := (s₁.setTop (mkF m 61 #[.val (.int x0), .val (.int x1), .val (.int (x1 &&& (3 : Int32))), .val (.int y23), .unset] [(.int y23)]))) (fun t k => XS.iloadN X0.here hx rfl (hb hby at_60) rfl k) ?_
          obtain ⟨T15, X15, e15, st15⟩ := own_callP X0 hx hZ (y := (⟨"com/example/parley/parley/XmlCharsIsNameStartPinLaw", "inGap", "(I)Z"⟩ : MethodName)) hown (hw _ (List.mem_of_getElem? (i := 10) rfl)) (hw _ (List.mem_of_getElem? (i := 11) rfl)) (hw _ (List.mem_of_getElem? (i := 12) rfl)) (hw _ (List.mem_of_getElem? (i := 13) rfl)) (rm2 l Z a0 hw y23 h0) e0 (argsL := [(.int y23)]) (rest := []) (Ls := #[.val (.int x0), .val (.int x1), .val (.int (x1 &&& (3 : Int32))), .val (.int y23), .unset]) (hb hby at_61) pd_1 0 (by rw [hml]; rfl) (by decide) rfl rfl rfl (Nat.le_of_eq rfl) (by decide) (by decide) (by decide) (by decide)
          refine own_go (S' := (T15.setTop (mkF m 64 #[.val (.int x0), .val (.int x1), .val (.int (x1 &&& (3 : Int32))), .val (.int y23), .unset] [(.int (f2_0 y23))]))) st15 ?_
          by_cases hc64_16 : (f2_0 y23) = (0 : Int32)
          ·
            refine own_go (S' := (T15.setTop (mkF m 67 #[.val (.int x0), .val (.int x1), .val (.int (x1 &&& (3 : Int32))), .val (.int y23), .unset] []))) (fun t k => XS.ifNo X15.here hx rfl (hb hby at_64) rfl ((if0 _ _).trans (teq hc64_16).2) k) ?_
            refine own_go (S' := (T15.setTop (mkF m 68 #[.val (.int x0), .val (.int x1), .val (.int (x1 &&& (3 : Int32))), .val (.int y23), .unset] [(.int (1 : Int32))]))) (fun t k => XT.iconstV X15.here hx rfl (1 : Int32) (hb hby at_67) (by decide) k) ?_
            refine own_go (S' := (T15.setTop (mkF m 72 #[.val (.int x0), .val (.int x1), .val (.int (x1 &&& (3 : Int32))), .val (.int y23), .unset] [(.int (1 : Int32))]))) (fun t k => XS.goto X15.here hx rfl (pc0 := 68) (pc' := 72) rfl (hb hby at_68) (by decide) (by decide) k) ?_
            refine own_go (S' := (T15.setTop (mkF m 74 #[.val (.int x0), .val (.int x1), .val (.int (x1 &&& (3 : Int32))), .val (.int y23), .val (.int (1 : Int32))] []))) (fun t k => XS.istore X15.here hx rfl (hb hby at_72) rfl (l' := #[.val (.int x0), .val (.int x1), .val (.int (x1 &&& (3 : Int32))), .val (.int y23), .val (.int (1 : Int32))]) rfl k) ?_
            refine own_go (S' := (T15.setTop (mkF m 75 #[.val (.int x0), .val (.int x1), .val (.int (x1 &&& (3 : Int32))), .val (.int y23), .val (.int (1 : Int32))] [(.int y23)]))) (fun t k => XS.iloadN X15.here hx rfl (hb hby at_74) rfl k) ?_
            obtain ⟨T17, X17, e17, st17⟩ := own_callP X15 hx hZ (y := (⟨"com/example/parley/parley/XmlChars", "isNameStart", "(I)Z"⟩ : MethodName)) hown (hw _ (List.mem_of_getElem? (i := 2) rfl)) (hw _ (List.mem_of_getElem? (i := 3) rfl)) (hw _ (List.mem_of_getElem? (i := 4) rfl)) (hw _ (List.mem_of_getElem? (i := 5) rfl)) (rm1 l Z a0 hw y23 h0) e15 (argsL := [(.int y23)]) (rest := []) (Ls := #[.val (.int x0), .val (.int x1), .val (.int (x1 &&& (3 : Int32))), .val (.int y23), .val (.int (1 : Int32))]) (hb hby at_75) pd_1 0 (by rw [hml]; rfl) (by decide) rfl rfl rfl (Nat.le_of_eq rfl) (by decide) (by decide) (by decide) (by decide)
            refine own_go (S' := (T17.setTop (mkF m 78 #[.val (.int x0), .val (.int x1), .val (.int (x1 &&& (3 : Int32))), .val (.int y23), .val (.int (1 : Int32))] [(.int (f1_0 y23))]))) st17 ?_
            refine own_go (S' := (T17.setTop (mkF m 80 #[.val (.int x0), .val (.int x1), .val (.int (x1 &&& (3 : Int32))), .val (.int y23), .val (.int (1 : Int32))] [(.int (1 : Int32)), (.int (f1_0 y23))]))) (fun t k => XS.iload X17.here hx rfl (hb hby at_78) rfl k) ?_
            refine own_go (S' := (T17.setTop (mkF m 83 #[.val (.int x0), .val (.int x1), .val (.int (x1 &&& (3 : Int32))), .val (.int y23), .val (.int (1 : Int32))] []))) (fun t k => XS.icmpNo X17.here hx rfl (hb hby at_80) rfl (teq (by rw [own_same, if_neg hc51_11, if_neg hc57_13, if_pos hc64_16])).2 k) ?_
            refine own_go (S' := (T17.setTop (mkF m 84 #[.val (.int x0), .val (.int x1), .val (.int (x1 &&& (3 : Int32))), .val (.int y23), .val (.int (1 : Int32))] [(.int (1 : Int32))]))) (fun t k => XT.iconstV X17.here hx rfl (1 : Int32) (hb hby at_83) (by decide) k) ?_
            refine own_go (S' := (T17.setTop (mkF m 88 #[.val (.int x0), .val (.int x1), .val (.int (x1 &&& (3 : Int32))), .val (.int y23), .val (.int (1 : Int32))] [(.int (1 : Int32))]))) (fun t k => XS.goto X17.here hx rfl (pc0 := 84) (pc' := 88) rfl (hb hby at_84) (by decide) (by decide) k) ?_
            exact own_retN X17 hx hret hlk (by simp) (hb hby at_88) (by first | rfl | decide) (by decide) (by decide) ⟨rfl, N0⟩
          ·
            refine own_go (S' := (T15.setTop (mkF m 71 #[.val (.int x0), .val (.int x1), .val (.int (x1 &&& (3 : Int32))), .val (.int y23), .unset] []))) (fun t k => XS.ifYes X15.here hx rfl (pc0 := 64) (pc' := 71) rfl (hb hby at_64) rfl ((if0 _ _).trans (feq hc64_16).2) (by decide) (by decide) k) ?_
            refine own_go (S' := (T15.setTop (mkF m 72 #[.val (.int x0), .val (.int x1), .val (.int (x1 &&& (3 : Int32))), .val (.int y23), .unset] [(.int (0 : Int32))]))) (fun t k => XT.iconstV X15.here hx rfl (0 : Int32) (hb hby at_71) (by decide) k) ?_
            refine own_go (S' := (T15.setTop (mkF m 74 #[.val (.int x0), .val (.int x1), .val (.int (x1 &&& (3 : Int32))), .val (.int y23), .val (.int (0 : Int32))] []))) (fun t k => XS.istore X15.here hx rfl (hb hby at_72) rfl (l' := #[.val (.int x0), .val (.int x1), .val (.int (x1 &&& (3 : Int32))), .val (.int y23), .val (.int (0 : Int32))]) rfl k) ?_
            refine own_go (S' := (T15.setTop (mkF m 75 #[.val (.int x0), .val (.int x1), .val (.int (x1 &&& (3 : Int32))), .val (.int y23), .val (.int (0 : Int32))] [(.int y23)]))) (fun t k => XS.iloadN X15.here hx rfl (hb hby at_74) rfl k) ?_
            obtain ⟨T18, X18, e18, st18⟩ := own_callP X15 hx hZ (y := (⟨"com/example/parley/parley/XmlChars", "isNameStart", "(I)Z"⟩ : MethodName)) hown (hw _ (List.mem_of_getElem? (i := 2) rfl)) (hw _ (List.mem_of_getElem? (i := 3) rfl)) (hw _ (List.mem_of_getElem? (i := 4) rfl)) (hw _ (List.mem_of_getElem? (i := 5) rfl)) (rm1 l Z a0 hw y23 h0) e15 (argsL := [(.int y23)]) (rest := []) (Ls := #[.val (.int x0), .val (.int x1), .val (.int (x1 &&& (3 : Int32))), .val (.int y23), .val (.int (0 : Int32))]) (hb hby at_75) pd_1 0 (by rw [hml]; rfl) (by decide) rfl rfl rfl (Nat.le_of_eq rfl) (by decide) (by decide) (by decide) (by decide)
            refine own_go (S' := (T18.setTop (mkF m 78 #[.val (.int x0), .val (.int x1), .val (.int (x1 &&& (3 : Int32))), .val (.int y23), .val (.int (0 : Int32))] [(.int (f1_0 y23))]))) st18 ?_
            refine own_go (S' := (T18.setTop (mkF m 80 #[.val (.int x0), .val (.int x1), .val (.int (x1 &&& (3 : Int32))), .val (.int y23), .val (.int (0 : Int32))] [(.int (0 : Int32)), (.int (f1_0 y23))]))) (fun t k => XS.iload X18.here hx rfl (hb hby at_78) rfl k) ?_
            refine own_go (S' := (T18.setTop (mkF m 83 #[.val (.int x0), .val (.int x1), .val (.int (x1 &&& (3 : Int32))), .val (.int y23), .val (.int (0 : Int32))] []))) (fun t k => XS.icmpNo X18.here hx rfl (hb hby at_80) rfl (teq (by rw [own_same, if_neg hc51_11, if_neg hc57_13, if_neg hc64_16])).2 k) ?_
            refine own_go (S' := (T18.setTop (mkF m 84 #[.val (.int x0), .val (.int x1), .val (.int (x1 &&& (3 : Int32))), .val (.int y23), .val (.int (0 : Int32))] [(.int (1 : Int32))]))) (fun t k => XT.iconstV X18.here hx rfl (1 : Int32) (hb hby at_83) (by decide) k) ?_
            refine own_go (S' := (T18.setTop (mkF m 88 #[.val (.int x0), .val (.int x1), .val (.int (x1 &&& (3 : Int32))), .val (.int y23), .val (.int (0 : Int32))] [(.int (1 : Int32))]))) (fun t k => XS.goto X18.here hx rfl (pc0 := 84) (pc' := 88) rfl (hb hby at_84) (by decide) (by decide) k) ?_
            exact own_retN X18 hx hret hlk (by simp) (hb hby at_88) (by first | rfl | decide) (by decide) (by decide) ⟨rfl, N0⟩
    ·
      refine own_go (S' := (s₁.setTop (mkF m 27 #[.val (.int x0), .val (.int x1), .val (.int (x1 &&& (3 : Int32))), .unset, .unset] []))) (fun t k => XS.icmpYes X0.here hx rfl (pc0 := 15) (pc' := 27) rfl (hb hby at_15) rfl (feq hc15_10).2 (by decide) (by decide) k) ?_
      refine own_go (S' := (s₁.setTop (mkF m 28 #[.val (.int x0), .val (.int x1), .val (.int (x1 &&& (3 : Int32))), .unset, .unset] [(.int (x1 &&& (3 : Int32)))]))) (fun t k => XS.iloadN X0.here hx rfl (hb hby at_27) rfl k) ?_
      refine own_go (S' := (s₁.setTop (mkF m 29 #[.val (.int x0), .val (.int x1), .val (.int (x1 &&& (3 : Int32))), .unset, .unset] [(.int (2 : Int32)), (.int (x1 &&& (3 : Int32)))]))) (fun t k => XT.iconstV X0.here hx rfl (2 : Int32) (hb hby at_28) (by decide) k) ?_
      by_cases hc29_19 : (x1 &&& (3 : Int32)) = (2 : Int32)
      ·
        refine own_go (S' := (s₁.setTop (mkF m 32 #[.val (.int x0), .val (.int x1), .val (.int (x1 &&& (3 : Int32))), .unset, .unset] []))) (fun t k => XS.icmpNo X0.here hx rfl (hb hby at_29) rfl (teq hc29_19).2 k) ?_
        refine own_go (S' := (s₁.setTop (mkF m 33 #[.val (.int x0), .val (.int x1), .val (.int (x1 &&& (3 : Int32))), .unset, .unset] [(.int x0)]))) (fun t k => XS.iloadN X0.here hx rfl (hb hby at_32) rfl k) ?_
        refine own_go (S' := (s₁.setTop (mkF m 35 #[.val (.int x0), .val (.int x1), .val (.int (x1 &&& (3 : Int32))), .unset, .unset] [(.int (65535 : Int32)), (.int x0)]))) (fun t k => Stand.ldcI X0 hx hown (mvT hZ (hw _ (List.mem_of_getElem? (i := 22) rfl))) rfl (hb hby at_33) k) ?_
        refine own_go (S' := (s₁.setTop (mkF m 36 #[.val (.int x0), .val (.int x1), .val (.int (x1 &&& (3 : Int32))), .unset, .unset] [(.int (x0 &&& (65535 : Int32)))]))) (fun t k => XS.iand X0.here hx rfl (hb hby at_35) rfl k) ?_
        refine own_go (S' := (s₁.setTop (mkF m 37 #[.val (.int x0), .val (.int x1), .val (.int (x1 &&& (3 : Int32))), .val (.int (x0 &&& (65535 : Int32))), .unset] []))) (fun t k => XS.istoreN X0.here hx rfl (hb hby at_36) rfl (l' := #[.val (.int x0), .val (.int x1), .val (.int (x1 &&& (3 : Int32))), .val (.int (x0 &&& (65535 : Int32))), .unset]) rfl k) ?_
        generalize hg36 : (x0 &&& (65535 : Int32)) = y36
        refine own_go (S' := (s₁.setTop (mkF m 48 #[.val (.int x0), .val (.int x1), .val (.int (x1 &&& (3 : Int32))), .val (.int y36), .unset] []))) (fun t k => XS.goto X0.here hx rfl (pc0 := 37) (pc' := 48) rfl (hb hby at_37) (by decide) (by decide) k) ?_
        refine own_go (S' := (s₁.setTop (mkF m 49 #[.val (.int x0), .val (.int x1), .val (.int (x1 &&& (3 : Int32))), .val (.int y36), .unset] [(.int y36)]))) (fun t k => XS.iloadN X0.here hx rfl (hb hby at_48) rfl k) ?_
        refine own_go (S' := (s₁.setTop (mkF m 51 #[.val (.int x0), .val (.int x1), .val (.int (x1 &&& (3 : Int32))), .val (.int y36), .unset] [(.int (65 : Int32)), (.int y36)]))) (fun t k => XT.bipushV X0.here hx rfl (65 : Int32) (hb hby at_49) (by decide) k) ?_
        by_cases hc51_20 : y36 < (65 : Int32)
        ·
          refine own_go (S' := (s₁.setTop (mkF m 71 #[.val (.int x0), .val (.int x1), .val (.int (x1 &&& (3 : Int32))), .val (.int y36), .unset] []))) (fun t k => XS.icmpYes X0.here hx rfl (pc0 := 51) (pc' := 71) rfl (hb hby at_51) rfl (tlt hc51_20).1 (by decide) (by decide) k) ?_
          refine own_go (S' := (s₁.setTop (mkF m 72 #[.val (.int x0), .val (.int x1), .val (.int (x1 &&& (3 : Int32))), .val (.int y36), .unset] [(.int (0 : Int32))]))) (fun t k => XT.iconstV X0.here hx rfl (0 : Int32) (hb hby at_71) (by decide) k) ?_
          refine own_go (S' := (s₁.setTop (mkF m 74 #[.val (.int x0), .val (.int x1), .val (.int (x1 &&& (3 : Int32))), .val (.int y36), .val (.int (0 : Int32))] []))) (fun t k => XS.istore X0.here hx rfl (hb hby at_72) rfl (l' := #[.val (.int x0), .val (.int x1), .val (.int (x1 &&& (3 : Int32))), .val (.int y36), .val (.int (0 : Int32))]) rfl k) ?_
          refine own_go (S' := (s₁.setTop (mkF m 75 #[.val (.int x0), .val (.int x1), .val (.int (x1 &&& (3 : Int32))), .val (.int y36), .val (.int (0 : Int32))] [(.int y36)]))) (fun t k => XS.iloadN X0.here hx rfl (hb hby at_74) rfl k) ?_
          obtain ⟨T21, X21, e21, st21⟩ := own_callP X0 hx hZ (y := (⟨"com/example/parley/parley/XmlChars", "isNameStart", "(I)Z"⟩ : MethodName)) hown (hw _ (List.mem_of_getElem? (i := 2) rfl)) (hw _ (List.mem_of_getElem? (i := 3) rfl)) (hw _ (List.mem_of_getElem? (i := 4) rfl)) (hw _ (List.mem_of_getElem? (i := 5) rfl)) (rm1 l Z a0 hw y36 h0) e0 (argsL := [(.int y36)]) (rest := []) (Ls := #[.val (.int x0), .val (.int x1), .val (.int (x1 &&& (3 : Int32))), .val (.int y36), .val (.int (0 : Int32))]) (hb hby at_75) pd_1 0 (by rw [hml]; rfl) (by decide) rfl rfl rfl (Nat.le_of_eq rfl) (by decide) (by decide) (by decide) (by decide)
          refine own_go (S' := (T21.setTop (mkF m 78 #[.val (.int x0), .val (.int x1), .val (.int (x1 &&& (3 : Int32))), .val (.int y36), .val (.int (0 : Int32))] [(.int (f1_0 y36))]))) st21 ?_
          refine own_go (S' := (T21.setTop (mkF m 80 #[.val (.int x0), .val (.int x1), .val (.int (x1 &&& (3 : Int32))), .val (.int y36), .val (.int (0 : Int32))] [(.int (0 : Int32)), (.int (f1_0 y36))]))) (fun t k => XS.iload X21.here hx rfl (hb hby at_78) rfl k) ?_
          refine own_go (S' := (T21.setTop (mkF m 83 #[.val (.int x0), .val (.int x1), .val (.int (x1 &&& (3 : Int32))), .val (.int y36), .val (.int (0 : Int32))] []))) (fun t k => XS.icmpNo X21.here hx rfl (hb hby at_80) rfl (teq (by rw [own_same, if_pos hc51_20])).2 k) ?_
          refine own_go (S' := (T21.setTop (mkF m 84 #[.val (.int x0), .val (.int x1), .val (.int (x1 &&& (3 : Int32))), .val (.int y36), .val (.int (0 : Int32))] [(.int (1 : Int32))]))) (fun t k => XT.iconstV X21.here hx rfl (1 : Int32) (hb hby at_83) (by decide) k) ?_
          refine own_go (S' := (T21.setTop (mkF m 88 #[.val (.int x0), .val (.int x1), .val (.int (x1 &&& (3 : Int32))), .val (.int y36), .val (.int (0 : Int32))] [(.int (1 : Int32))]))) (fun t k => XS.goto X21.here hx rfl (pc0 := 84) (pc' := 88) rfl (hb hby at_84) (by decide) (by decide) k) ?_
          exact own_retN X21 hx hret hlk (by simp) (hb hby at_88) (by first | rfl | decide) (by decide) (by decide) ⟨rfl, N0⟩
        ·
          refine own_go (S' := (s₁.setTop (mkF m 54 #[.val (.int x0), .val (.int x1), .val (.int (x1 &&& (3 : Int32))), .val (.int y36), .unset] []))) (fun t k => XS.icmpNo X0.here hx rfl (hb hby at_51) rfl (flt hc51_20).1 k) ?_
          refine own_go (S' := (s₁.setTop (mkF m 55 #[.val (.int x0), .val (.int x1), .val (.int (x1 &&& (3 : Int32))), .val (.int y36), .unset] [(.int y36)]))) (fun t k => XS.iloadN X0.here hx rfl (hb hby at_54) rfl k) ?_
          refine own_go (S' := (s₁.setTop (mkF m 57 #[.val (.int x0), .val (.int x1), .val (.int (x1 &&& (3 : Int32))), .val (.int y36), .unset] [(.int (983039 : Int32)), (.int y36)]))) (fun t k => Stand.ldcI X0 hx hown (mvT hZ (hw _ (List.mem_of_getElem? (i := 9) rfl))) rfl (hb hby at_55) k) ?_
          by_cases hc57_22 : (983039 : Int32) < y36
          ·
            refine own_go (S' := (s₁.setTop (mkF m 71 #[.val (.int x0), .val (.int x1), .val (.int (x1 &&& (3 : Int32))), .val (.int y36), .unset] []))) (fun t k => XS.icmpYes X0.here hx rfl (pc0 := 57) (pc' := 71) rfl (hb hby at_57) rfl (tlt hc57_22).2.2.1 (by decide) (by decide) k) ?_
            refine own_go (S' := (s₁.setTop (mkF m 72 #[.val (.int x0), .val (.int x1), .val (.int (x1 &&& (3 : Int32))), .val (.int y36), .unset] [(.int (0 : Int32))]))) (fun t k => XT.iconstV X0.here hx rfl (0 : Int32) (hb hby at_71) (by decide) k) ?_
            refine own_go (S' := (s₁.setTop (mkF m 74 #[.val (.int x0), .val (.int x1), .val (.int (x1 &&& (3 : Int32))), .val (.int y36), .val (.int (0 : Int32))] []))) (fun t k => XS.istore X0.here hx rfl (hb hby at_72) rfl (l' := #[.val (.int x0), .val (.int x1), .val (.int (x1 &&& (3 : Int32))), .val (.int y36), .val (.int (0 : Int32))]) rfl k) ?_
            refine own_go (S' := (s₁.setTop (mkF m 75 #[.val (.int x0), .val (.int x1), .val (.int (x1 &&& (3 : Int32))), .val (.int y36), .val (.int (0 : Int32))] [(.int y36)]))) (fun t k => XS.iloadN X0.here hx rfl (hb hby at_74) rfl k) ?_
            obtain ⟨T23, X23, e23, st23⟩ := own_callP X0 hx hZ (y := (⟨"com/example/parley/parley/XmlChars", "isNameStart", "(I)Z"⟩ : MethodName)) hown (hw _ (List.mem_of_getElem? (i := 2) rfl)) (hw _ (List.mem_of_getElem? (i := 3) rfl)) (hw _ (List.mem_of_getElem? (i := 4) rfl)) (hw _ (List.mem_of_getElem? (i := 5) rfl)) (rm1 l Z a0 hw y36 h0) e0 (argsL := [(.int y36)]) (rest := []) (Ls := #[.val (.int x0), .val (.int x1), .val (.int (x1 &&& (3 : Int32))), .val (.int y36), .val (.int (0 : Int32))]) (hb hby at_75) pd_1 0 (by rw [hml]; rfl) (by decide) rfl rfl rfl (Nat.le_of_eq rfl) (by decide) (by decide) (by decide) (by decide)
            refine own_go (S' := (T23.setTop (mkF m 78 #[.val (.int x0), .val (.int x1), .val (.int (x1 &&& (3 : Int32))), .val (.int y36), .val (.int (0 : Int32))] [(.int (f1_0 y36))]))) st23 ?_
            refine own_go (S' := (T23.setTop (mkF m 80 #[.val (.int x0), .val (.int x1), .val (.int (x1 &&& (3 : Int32))), .val (.int y36), .val (.int (0 : Int32))] [(.int (0 : Int32)), (.int (f1_0 y36))]))) (fun t k => XS.iload X23.here hx rfl (hb hby at_78) rfl k) ?_
            refine own_go (S' := (T23.setTop (mkF m 83 #[.val (.int x0), .val (.int x1), .val (.int (x1 &&& (3 : Int32))), .val (.int y36), .val (.int (0 : Int32))] []))) (fun t k => XS.icmpNo X23.here hx rfl (hb hby at_80) rfl (teq (by rw [own_same, if_neg hc51_20, if_pos hc57_22])).2 k) ?_
            refine own_go (S' := (T23.setTop (mkF m 84 #[.val (.int x0), .val (.int x1), .val (.int (x1 &&& (3 : Int32))), .val (.int y36), .val (.int (0 : Int32))] [(.int (1 : Int32))]))) (fun t k => XT.iconstV X23.here hx rfl (1 : Int32) (hb hby at_83) (by decide) k) ?_
            refine own_go (S' := (T23.setTop (mkF m 88 #[.val (.int x0), .val (.int x1), .val (.int (x1 &&& (3 : Int32))), .val (.int y36), .val (.int (0 : Int32))] [(.int (1 : Int32))]))) (fun t k => XS.goto X23.here hx rfl (pc0 := 84) (pc' := 88) rfl (hb hby at_84) (by decide) (by decide) k) ?_
            exact own_retN X23 hx hret hlk (by simp) (hb hby at_88) (by first | rfl | decide) (by decide) (by decide) ⟨rfl, N0⟩
          ·
            refine own_go (S' := (s₁.setTop (mkF m 60 #[.val (.int x0), .val (.int x1), .val (.int (x1 &&& (3 : Int32))), .val (.int y36), .unset] []))) (fun t k => XS.icmpNo X0.here hx rfl (hb hby at_57) rfl (flt hc57_22).2.2.1 k) ?_
            refine own_go (S' := (s₁.setTop (mkF m 61 #[.val (.int x0), .val (.int x1), .val (.int (x1 &&& (3 : Int32))), .val (.int y36), .unset] [(.int y36)]))) (fun t k => XS.iloadN X0.here hx rfl (hb hby at_60) rfl k) ?_
            obtain ⟨T24, X24, e24, st24⟩ := own_callP X0 hx hZ (y := (⟨"com/example/parley/parley/XmlCharsIsNameStartPinLaw", "inGap", "(I)Z"⟩ : MethodName)) hown (hw _ (List.mem_of_getElem? (i := 10) rfl)) (hw _ (List.mem_of_getElem? (i := 11) rfl)) (hw _ (List.mem_of_getElem? (i := 12) rfl)) (hw _ (List.mem_of_getElem? (i := 13) rfl)) (rm2 l Z a0 hw y36 h0) e0 (argsL := [(.int y36)]) (rest := []) (Ls := #[.val (.int x0), .val (.int x1), .val (.int (x1 &&& (3 : Int32))), .val (.int y36), .unset]) (hb hby at_61) pd_1 0 (by rw [hml]; rfl) (by decide) rfl rfl rfl (Nat.le_of_eq rfl) (by decide) (by decide) (by decide) (by decide)
            refine own_go (S' := (T24.setTop (mkF m 64 #[.val (.int x0), .val (.int x1), .val (.int (x1 &&& (3 : Int32))), .val (.int y36), .unset] [(.int (f2_0 y36))]))) st24 ?_
            by_cases hc64_25 : (f2_0 y36) = (0 : Int32)
            ·
              refine own_go (S' := (T24.setTop (mkF m 67 #[.val (.int x0), .val (.int x1), .val (.int (x1 &&& (3 : Int32))), .val (.int y36), .unset] []))) (fun t k => XS.ifNo X24.here hx rfl (hb hby at_64) rfl ((if0 _ _).trans (teq hc64_25).2) k) ?_
              refine own_go (S' := (T24.setTop (mkF m 68 #[.val (.int x0), .val (.int x1), .val (.int (x1 &&& (3 : Int32))), .val (.int y36), .unset] [(.int (1 : Int32))]))) (fun t k => XT.iconstV X24.here hx rfl (1 : Int32) (hb hby at_67) (by decide) k) ?_
              refine own_go (S' := (T24.setTop (mkF m 72 #[.val (.int x0), .val (.int x1), .val (.int (x1 &&& (3 : Int32))), .val (.int y36), .unset] [(.int (1 : Int32))]))) (fun t k => XS.goto X24.here hx rfl (pc0 := 68) (pc' := 72) rfl (hb hby at_68) (by decide) (by decide) k) ?_
              refine own_go (S' := (T24.setTop (mkF m 74 #[.val (.int x0), .val (.int x1), .val (.int (x1 &&& (3 : Int32))), .val (.int y36), .val (.int (1 : Int32))] []))) (fun t k => XS.istore X24.here hx rfl (hb hby at_72) rfl (l' := #[.val (.int x0), .val (.int x1), .val (.int (x1 &&& (3 : Int32))), .val (.int y36), .val (.int (1 : Int32))]) rfl k) ?_
              refine own_go (S' := (T24.setTop (mkF m 75 #[.val (.int x0), .val (.int x1), .val (.int (x1 &&& (3 : Int32))), .val (.int y36), .val (.int (1 : Int32))] [(.int y36)]))) (fun t k => XS.iloadN X24.here hx rfl (hb hby at_74) rfl k) ?_
              obtain ⟨T26, X26, e26, st26⟩ := own_callP X24 hx hZ (y := (⟨"com/example/parley/parley/XmlChars", "isNameStart", "(I)Z"⟩ : MethodName)) hown (hw _ (List.mem_of_getElem? (i := 2) rfl)) (hw _ (List.mem_of_getElem? (i := 3) rfl)) (hw _ (List.mem_of_getElem? (i := 4) rfl)) (hw _ (List.mem_of_getElem? (i := 5) rfl)) (rm1 l Z a0 hw y36 h0) e24 (argsL := [(.int y36)]) (rest := []) (Ls := #[.val (.int x0), .val (.int x1), .val (.int (x1 &&& (3 : Int32))), .val (.int y36), .val (.int (1 : Int32))]) (hb hby at_75) pd_1 0 (by rw [hml]; rfl) (by decide) rfl rfl rfl (Nat.le_of_eq rfl) (by decide) (by decide) (by decide) (by decide)
              refine own_go (S' := (T26.setTop (mkF m 78 #[.val (.int x0), .val (.int x1), .val (.int (x1 &&& (3 : Int32))), .val (.int y36), .val (.int (1 : Int32))] [(.int (f1_0 y36))]))) st26 ?_
              refine own_go (S' := (T26.setTop (mkF m 80 #[.val (.int x0), .val (.int x1), .val (.int (x1 &&& (3 : Int32))), .val (.int y36), .val (.int (1 : Int32))] [(.int (1 : Int32)), (.int (f1_0 y36))]))) (fun t k => XS.iload X26.here hx rfl (hb hby at_78) rfl k) ?_
              refine own_go (S' := (T26.setTop (mkF m 83 #[.val (.int x0), .val (.int x1), .val (.int (x1 &&& (3 : Int32))), .val (.int y36), .val (.int (1 : Int32))] []))) (fun t k => XS.icmpNo X26.here hx rfl (hb hby at_80) rfl (teq (by rw [own_same, if_neg hc51_20, if_neg hc57_22, if_pos hc64_25])).2 k) ?_
              refine own_go (S' := (T26.setTop (mkF m 84 #[.val (.int x0), .val (.int x1), .val (.int (x1 &&& (3 : Int32))), .val (.int y36), .val (.int (1 : Int32))] [(.int (1 : Int32))]))) (fun t k => XT.iconstV X26.here hx rfl (1 : Int32) (hb hby at_83) (by decide) k) ?_
              refine own_go (S' := (T26.setTop (mkF m 88 #[.val (.int x0), .val (.int x1), .val (.int (x1 &&& (3 : Int32))), .val (.int y36), .val (.int (1 : Int32))] [(.int (1 : Int32))]))) (fun t k => XS.goto X26.here hx rfl (pc0 := 84) (pc' := 88) rfl (hb hby at_84) (by decide) (by decide) k) ?_
              exact own_retN X26 hx hret hlk (by simp) (hb hby at_88) (by first | rfl | decide) (by decide) (by decide) ⟨rfl, N0⟩
            ·
              refine own_go (S' := (T24.setTop (mkF m 71 #[.val (.int x0), .val (.int x1), .val (.int (x1 &&& (3 : Int32))), .val (.int y36), .unset] []))) (fun t k => XS.ifYes X24.here hx rfl (pc0 := 64) (pc' := 71) rfl (hb hby at_64) rfl ((if0 _ _).trans (feq hc64_25).2) (by decide) (by decide) k) ?_
              refine own_go (S' := (T24.setTop (mkF m 72 #[.val (.int x0), .val (.int x1), .val (.int (x1 &&& (3 : Int32))), .val (.int y36), .unset] [(.int (0 : Int32))]))) (fun t k => XT.iconstV X24.here hx rfl (0 : Int32) (hb hby at_71) (by decide) k) ?_
              refine own_go (S' := (T24.setTop (mkF m 74 #[.val (.int x0), .val (.int x1), .val (.int (x1 &&& (3 : Int32))), .val (.int y36), .val (.int (0 : Int32))] []))) (fun t k => XS.istore X24.here hx rfl (hb hby at_72) rfl (l' := #[.val (.int x0), .val (.int x1), .val (.int (x1 &&& (3 : Int32))), .val (.int y36), .val (.int (0 : Int32))]) rfl k) ?_
              refine own_go (S' := (T24.setTop (mkF m 75 #[.val (.int x0), .val (.int x1), .val (.int (x1 &&& (3 : Int32))), .val (.int y36), .val (.int (0 : Int32))] [(.int y36)]))) (fun t k => XS.iloadN X24.here hx rfl (hb hby at_74) rfl k) ?_
              obtain ⟨T27, X27, e27, st27⟩ := own_callP X24 hx hZ (y := (⟨"com/example/parley/parley/XmlChars", "isNameStart", "(I)Z"⟩ : MethodName)) hown (hw _ (List.mem_of_getElem? (i := 2) rfl)) (hw _ (List.mem_of_getElem? (i := 3) rfl)) (hw _ (List.mem_of_getElem? (i := 4) rfl)) (hw _ (List.mem_of_getElem? (i := 5) rfl)) (rm1 l Z a0 hw y36 h0) e24 (argsL := [(.int y36)]) (rest := []) (Ls := #[.val (.int x0), .val (.int x1), .val (.int (x1 &&& (3 : Int32))), .val (.int y36), .val (.int (0 : Int32))]) (hb hby at_75) pd_1 0 (by rw [hml]; rfl) (by decide) rfl rfl rfl (Nat.le_of_eq rfl) (by decide) (by decide) (by decide) (by decide)
              refine own_go (S' := (T27.setTop (mkF m 78 #[.val (.int x0), .val (.int x1), .val (.int (x1 &&& (3 : Int32))), .val (.int y36), .val (.int (0 : Int32))] [(.int (f1_0 y36))]))) st27 ?_
              refine own_go (S' := (T27.setTop (mkF m 80 #[.val (.int x0), .val (.int x1), .val (.int (x1 &&& (3 : Int32))), .val (.int y36), .val (.int (0 : Int32))] [(.int (0 : Int32)), (.int (f1_0 y36))]))) (fun t k => XS.iload X27.here hx rfl (hb hby at_78) rfl k) ?_
              refine own_go (S' := (T27.setTop (mkF m 83 #[.val (.int x0), .val (.int x1), .val (.int (x1 &&& (3 : Int32))), .val (.int y36), .val (.int (0 : Int32))] []))) (fun t k => XS.icmpNo X27.here hx rfl (hb hby at_80) rfl (teq (by rw [own_same, if_neg hc51_20, if_neg hc57_22, if_neg hc64_25])).2 k) ?_
              refine own_go (S' := (T27.setTop (mkF m 84 #[.val (.int x0), .val (.int x1), .val (.int (x1 &&& (3 : Int32))), .val (.int y36), .val (.int (0 : Int32))] [(.int (1 : Int32))]))) (fun t k => XT.iconstV X27.here hx rfl (1 : Int32) (hb hby at_83) (by decide) k) ?_
              refine own_go (S' := (T27.setTop (mkF m 88 #[.val (.int x0), .val (.int x1), .val (.int (x1 &&& (3 : Int32))), .val (.int y36), .val (.int (0 : Int32))] [(.int (1 : Int32))]))) (fun t k => XS.goto X27.here hx rfl (pc0 := 84) (pc' := 88) rfl (hb hby at_84) (by decide) (by decide) k) ?_
              exact own_retN X27 hx hret hlk (by simp) (hb hby at_88) (by first | rfl | decide) (by decide) (by decide) ⟨rfl, N0⟩
      ·
        refine own_go (S' := (s₁.setTop (mkF m 40 #[.val (.int x0), .val (.int x1), .val (.int (x1 &&& (3 : Int32))), .unset, .unset] []))) (fun t k => XS.icmpYes X0.here hx rfl (pc0 := 29) (pc' := 40) rfl (hb hby at_29) rfl (feq hc29_19).2 (by decide) (by decide) k) ?_
        refine own_go (S' := (s₁.setTop (mkF m 41 #[.val (.int x0), .val (.int x1), .val (.int (x1 &&& (3 : Int32))), .unset, .unset] [(.int x0)]))) (fun t k => XS.iloadN X0.here hx rfl (hb hby at_40) rfl k) ?_
        refine own_go (S' := (s₁.setTop (mkF m 43 #[.val (.int x0), .val (.int x1), .val (.int (x1 &&& (3 : Int32))), .unset, .unset] [(.int (2147483647 : Int32)), (.int x0)]))) (fun t k => Stand.ldcI X0 hx hown (mvT hZ (hw _ (List.mem_of_getElem? (i := 0) rfl))) rfl (hb hby at_41) k) ?_
        refine own_go (S' := (s₁.setTop (mkF m 44 #[.val (.int x0), .val (.int x1), .val (.int (x1 &&& (3 : Int32))), .unset, .unset] [(.int (x0 &&& (2147483647 : Int32)))]))) (fun t k => XS.iand X0.here hx rfl (hb hby at_43) rfl k) ?_
        refine own_go (S' := (s₁.setTop (mkF m 46 #[.val (.int x0), .val (.int x1), .val (.int (x1 &&& (3 : Int32))), .unset, .unset] [(.int (1048576 : Int32)), (.int (x0 &&& (2147483647 : Int32)))]))) (fun t k => Stand.ldcI X0 hx hown (mvT hZ (hw _ (List.mem_of_getElem? (i := 1) rfl))) rfl (hb hby at_44) k) ?_
        refine own_go (S' := (s₁.setTop (mkF m 47 #[.val (.int x0), .val (.int x1), .val (.int (x1 &&& (3 : Int32))), .unset, .unset] [(.int ((x0 &&& (2147483647 : Int32)) % (1048576 : Int32)))]))) (fun t k => iremM X0 hx rfl (hb hby at_46) rfl (by decide) k) ?_
        refine own_go (S' := (s₁.setTop (mkF m 48 #[.val (.int x0), .val (.int x1), .val (.int (x1 &&& (3 : Int32))), .val (.int ((x0 &&& (2147483647 : Int32)) % (1048576 : Int32))), .unset] []))) (fun t k => XS.istoreN X0.here hx rfl (hb hby at_47) rfl (l' := #[.val (.int x0), .val (.int x1), .val (.int (x1 &&& (3 : Int32))), .val (.int ((x0 &&& (2147483647 : Int32)) % (1048576 : Int32))), .unset]) rfl k) ?_
        generalize hg47 : ((x0 &&& (2147483647 : Int32)) % (1048576 : Int32)) = y47
        refine own_go (S' := (s₁.setTop (mkF m 49 #[.val (.int x0), .val (.int x1), .val (.int (x1 &&& (3 : Int32))), .val (.int y47), .unset] [(.int y47)]))) (fun t k => XS.iloadN X0.here hx rfl (hb hby at_48) rfl k) ?_
        refine own_go (S' := (s₁.setTop (mkF m 51 #[.val (.int x0), .val (.int x1), .val (.int (x1 &&& (3 : Int32))), .val (.int y47), .unset] [(.int (65 : Int32)), (.int y47)]))) (fun t k => XT.bipushV X0.here hx rfl (65 : Int32) (hb hby at_49) (by decide) k) ?_
        by_cases hc51_28 : y47 < (65 : Int32)
        ·
          refine own_go (S' := (s₁.setTop (mkF m 71 #[.val (.int x0), .val (.int x1), .val (.int (x1 &&& (3 : Int32))), .val (.int y47), .unset] []))) (fun t k => XS.icmpYes X0.here hx rfl (pc0 := 51) (pc' := 71) rfl (hb hby at_51) rfl (tlt hc51_28).1 (by decide) (by decide) k) ?_
          refine own_go (S' := (s₁.setTop (mkF m 72 #[.val (.int x0), .val (.int x1), .val (.int (x1 &&& (3 : Int32))), .val (.int y47), .unset] [(.int (0 : Int32))]))) (fun t k => XT.iconstV X0.here hx rfl (0 : Int32) (hb hby at_71) (by decide) k) ?_
          refine own_go (S' := (s₁.setTop (mkF m 74 #[.val (.int x0), .val (.int x1), .val (.int (x1 &&& (3 : Int32))), .val (.int y47), .val (.int (0 : Int32))] []))) (fun t k => XS.istore X0.here hx rfl (hb hby at_72) rfl (l' := #[.val (.int x0), .val (.int x1), .val (.int (x1 &&& (3 : Int32))), .val (.int y47), .val (.int (0 : Int32))]) rfl k) ?_
          refine own_go (S' := (s₁.setTop (mkF m 75 #[.val (.int x0), .val (.int x1), .val (.int (x1 &&& (3 : Int32))), .val (.int y47), .val (.int (0 : Int32))] [(.int y47)]))) (fun t k => XS.iloadN X0.here hx rfl (hb hby at_74) rfl k) ?_
          obtain ⟨T29, X29, e29, st29⟩ := own_callP X0 hx hZ (y := (⟨"com/example/parley/parley/XmlChars", "isNameStart", "(I)Z"⟩ : MethodName)) hown (hw _ (List.mem_of_getElem? (i := 2) rfl)) (hw _ (List.mem_of_getElem? (i := 3) rfl)) (hw _ (List.mem_of_getElem? (i := 4) rfl)) (hw _ (List.mem_of_getElem? (i := 5) rfl)) (rm1 l Z a0 hw y47 h0) e0 (argsL := [(.int y47)]) (rest := []) (Ls := #[.val (.int x0), .val (.int x1), .val (.int (x1 &&& (3 : Int32))), .val (.int y47), .val (.int (0 : Int32))]) (hb hby at_75) pd_1 0 (by rw [hml]; rfl) (by decide) rfl rfl rfl (Nat.le_of_eq rfl) (by decide) (by decide) (by decide) (by decide)
          refine own_go (S' := (T29.setTop (mkF m 78 #[.val (.int x0), .val (.int x1), .val (.int (x1 &&& (3 : Int32))), .val (.int y47), .val (.int (0 : Int32))] [(.int (f1_0 y47))]))) st29 ?_
          refine own_go (S' := (T29.setTop (mkF m 80 #[.val (.int x0), .val (.int x1), .val (.int (x1 &&& (3 : Int32))), .val (.int y47), .val (.int (0 : Int32))] [(.int (0 : Int32)), (.int (f1_0 y47))]))) (fun t k => XS.iload X29.here hx rfl (hb hby at_78) rfl k) ?_
          refine own_go (S' := (T29.setTop (mkF m 83 #[.val (.int x0), .val (.int x1), .val (.int (x1 &&& (3 : Int32))), .val (.int y47), .val (.int (0 : Int32))] []))) (fun t k => XS.icmpNo X29.here hx rfl (hb hby at_80) rfl (teq (by rw [own_same, if_pos hc51_28])).2 k) ?_
          refine own_go (S' := (T29.setTop (mkF m 84 #[.val (.int x0), .val (.int x1), .val (.int (x1 &&& (3 : Int32))), .val (.int y47), .val (.int (0 : Int32))] [(.int (1 : Int32))]))) (fun t k => XT.iconstV X29.here hx rfl (1 : Int32) (hb hby at_83) (by decide) k) ?_
          refine own_go (S' := (T29.setTop (mkF m 88 #[.val (.int x0), .val (.int x1), .val (.int (x1 &&& (3 : Int32))), .val (.int y47), .val (.int (0 : Int32))] [(.int (1 : Int32))]))) (fun t k => XS.goto X29.here hx rfl (pc0 := 84) (pc' := 88) rfl (hb hby at_84) (by decide) (by decide) k) ?_
          exact own_retN X29 hx hret hlk (by simp) (hb hby at_88) (by first | rfl | decide) (by decide) (by decide) ⟨rfl, N0⟩
        ·
          refine own_go (S' := (s₁.setTop (mkF m 54 #[.val (.int x0), .val (.int x1), .val (.int (x1 &&& (3 : Int32))), .val (.int y47), .unset] []))) (fun t k => XS.icmpNo X0.here hx rfl (hb hby at_51) rfl (flt hc51_28).1 k) ?_
          refine own_go (S' := (s₁.setTop (mkF m 55 #[.val (.int x0), .val (.int x1), .val (.int (x1 &&& (3 : Int32))), .val (.int y47), .unset] [(.int y47)]))) (fun t k => XS.iloadN X0.here hx rfl (hb hby at_54) rfl k) ?_
          refine own_go (S' := (s₁.setTop (mkF m 57 #[.val (.int x0), .val (.int x1), .val (.int (x1 &&& (3 : Int32))), .val (.int y47), .unset] [(.int (983039 : Int32)), (.int y47)]))) (fun t k => Stand.ldcI X0 hx hown (mvT hZ (hw _ (List.mem_of_getElem? (i := 9) rfl))) rfl (hb hby at_55) k) ?_
          by_cases hc57_30 : (983039 : Int32) < y47
          ·
            refine own_go (S' := (s₁.setTop (mkF m 71 #[.val (.int x0), .val (.int x1), .val (.int (x1 &&& (3 : Int32))), .val (.int y47), .unset] []))) (fun t k => XS.icmpYes X0.here hx rfl (pc0 := 57) (pc' := 71) rfl (hb hby at_57) rfl (tlt hc57_30).2.2.1 (by decide) (by decide) k) ?_
            refine own_go (S' := (s₁.setTop (mkF m 72 #[.val (.int x0), .val (.int x1), .val (.int (x1 &&& (3 : Int32))), .val (.int y47), .unset] [(.int (0 : Int32))]))) (fun t k => XT.iconstV X0.here hx rfl (0 : Int32) (hb hby at_71) (by decide) k) ?_
            refine own_go (S' := (s₁.setTop (mkF m 74 #[.val (.int x0), .val (.int x1), .val (.int (x1 &&& (3 : Int32))), .val (.int y47), .val (.int (0 : Int32))] []))) (fun t k => XS.istore X0.here hx rfl (hb hby at_72) rfl (l' := #[.val (.int x0), .val (.int x1), .val (.int (x1 &&& (3 : Int32))), .val (.int y47), .val (.int (0 : Int32))]) rfl k) ?_
            refine own_go (S' := (s₁.setTop (mkF m 75 #[.val (.int x0), .val (.int x1), .val (.int (x1 &&& (3 : Int32))), .val (.int y47), .val (.int (0 : Int32))] [(.int y47)]))) (fun t k => XS.iloadN X0.here hx rfl (hb hby at_74) rfl k) ?_
            obtain ⟨T31, X31, e31, st31⟩ := own_callP X0 hx hZ (y := (⟨"com/example/parley/parley/XmlChars", "isNameStart", "(I)Z"⟩ : MethodName)) hown (hw _ (List.mem_of_getElem? (i := 2) rfl)) (hw _ (List.mem_of_getElem? (i := 3) rfl)) (hw _ (List.mem_of_getElem? (i := 4) rfl)) (hw _ (List.mem_of_getElem? (i := 5) rfl)) (rm1 l Z a0 hw y47 h0) e0 (argsL := [(.int y47)]) (rest := []) (Ls := #[.val (.int x0), .val (.int x1), .val (.int (x1 &&& (3 : Int32))), .val (.int y47), .val (.int (0 : Int32))]) (hb hby at_75) pd_1 0 (by rw [hml]; rfl) (by decide) rfl rfl rfl (Nat.le_of_eq rfl) (by decide) (by decide) (by decide) (by decide)
            refine own_go (S' := (T31.setTop (mkF m 78 #[.val (.int x0), .val (.int x1), .val (.int (x1 &&& (3 : Int32))), .val (.int y47), .val (.int (0 : Int32))] [(.int (f1_0 y47))]))) st31 ?_
            refine own_go (S' := (T31.setTop (mkF m 80 #[.val (.int x0), .val (.int x1), .val (.int (x1 &&& (3 : Int32))), .val (.int y47), .val (.int (0 : Int32))] [(.int (0 : Int32)), (.int (f1_0 y47))]))) (fun t k => XS.iload X31.here hx rfl (hb hby at_78) rfl k) ?_
            refine own_go (S' := (T31.setTop (mkF m 83 #[.val (.int x0), .val (.int x1), .val (.int (x1 &&& (3 : Int32))), .val (.int y47), .val (.int (0 : Int32))] []))) (fun t k => XS.icmpNo X31.here hx rfl (hb hby at_80) rfl (teq (by rw [own_same, if_neg hc51_28, if_pos hc57_30])).2 k) ?_
            refine own_go (S' := (T31.setTop (mkF m 84 #[.val (.int x0), .val (.int x1), .val (.int (x1 &&& (3 : Int32))), .val (.int y47), .val (.int (0 : Int32))] [(.int (1 : Int32))]))) (fun t k => XT.iconstV X31.here hx rfl (1 : Int32) (hb hby at_83) (by decide) k) ?_
            refine own_go (S' := (T31.setTop (mkF m 88 #[.val (.int x0), .val (.int x1), .val (.int (x1 &&& (3 : Int32))), .val (.int y47), .val (.int (0 : Int32))] [(.int (1 : Int32))]))) (fun t k => XS.goto X31.here hx rfl (pc0 := 84) (pc' := 88) rfl (hb hby at_84) (by decide) (by decide) k) ?_
            exact own_retN X31 hx hret hlk (by simp) (hb hby at_88) (by first | rfl | decide) (by decide) (by decide) ⟨rfl, N0⟩
          ·
            refine own_go (S' := (s₁.setTop (mkF m 60 #[.val (.int x0), .val (.int x1), .val (.int (x1 &&& (3 : Int32))), .val (.int y47), .unset] []))) (fun t k => XS.icmpNo X0.here hx rfl (hb hby at_57) rfl (flt hc57_30).2.2.1 k) ?_
            refine own_go (S' := (s₁.setTop (mkF m 61 #[.val (.int x0), .val (.int x1), .val (.int (x1 &&& (3 : Int32))), .val (.int y47), .unset] [(.int y47)]))) (fun t k => XS.iloadN X0.here hx rfl (hb hby at_60) rfl k) ?_
            obtain ⟨T32, X32, e32, st32⟩ := own_callP X0 hx hZ (y := (⟨"com/example/parley/parley/XmlCharsIsNameStartPinLaw", "inGap", "(I)Z"⟩ : MethodName)) hown (hw _ (List.mem_of_getElem? (i := 10) rfl)) (hw _ (List.mem_of_getElem? (i := 11) rfl)) (hw _ (List.mem_of_getElem? (i := 12) rfl)) (hw _ (List.mem_of_getElem? (i := 13) rfl)) (rm2 l Z a0 hw y47 h0) e0 (argsL := [(.int y47)]) (rest := []) (Ls := #[.val (.int x0), .val (.int x1), .val (.int (x1 &&& (3 : Int32))), .val (.int y47), .unset]) (hb hby at_61) pd_1 0 (by rw [hml]; rfl) (by decide) rfl rfl rfl (Nat.le_of_eq rfl) (by decide) (by decide) (by decide) (by decide)
            refine own_go (S' := (T32.setTop (mkF m 64 #[.val (.int x0), .val (.int x1), .val (.int (x1 &&& (3 : Int32))), .val (.int y47), .unset] [(.int (f2_0 y47))]))) st32 ?_
            by_cases hc64_33 : (f2_0 y47) = (0 : Int32)
            ·
              refine own_go (S' := (T32.setTop (mkF m 67 #[.val (.int x0), .val (.int x1), .val (.int (x1 &&& (3 : Int32))), .val (.int y47), .unset] []))) (fun t k => XS.ifNo X32.here hx rfl (hb hby at_64) rfl ((if0 _ _).trans (teq hc64_33).2) k) ?_
              refine own_go (S' := (T32.setTop (mkF m 68 #[.val (.int x0), .val (.int x1), .val (.int (x1 &&& (3 : Int32))), .val (.int y47), .unset] [(.int (1 : Int32))]))) (fun t k => XT.iconstV X32.here hx rfl (1 : Int32) (hb hby at_67) (by decide) k) ?_
              refine own_go (S' := (T32.setTop (mkF m 72 #[.val (.int x0), .val (.int x1), .val (.int (x1 &&& (3 : Int32))), .val (.int y47), .unset] [(.int (1 : Int32))]))) (fun t k => XS.goto X32.here hx rfl (pc0 := 68) (pc' := 72) rfl (hb hby at_68) (by decide) (by decide) k) ?_
              refine own_go (S' := (T32.setTop (mkF m 74 #[.val (.int x0), .val (.int x1), .val (.int (x1 &&& (3 : Int32))), .val (.int y47), .val (.int (1 : Int32))] []))) (fun t k => XS.istore X32.here hx rfl (hb hby at_72) rfl (l' := #[.val (.int x0), .val (.int x1), .val (.int (x1 &&& (3 : Int32))), .val (.int y47), .val (.int (1 : Int32))]) rfl k) ?_
              refine own_go (S' := (T32.setTop (mkF m 75 #[.val (.int x0), .val (.int x1), .val (.int (x1 &&& (3 : Int32))), .val (.int y47), .val (.int (1 : Int32))] [(.int y47)]))) (fun t k => XS.iloadN X32.here hx rfl (hb hby at_74) rfl k) ?_
              obtain ⟨T34, X34, e34, st34⟩ := own_callP X32 hx hZ (y := (⟨"com/example/parley/parley/XmlChars", "isNameStart", "(I)Z"⟩ : MethodName)) hown (hw _ (List.mem_of_getElem? (i := 2) rfl)) (hw _ (List.mem_of_getElem? (i := 3) rfl)) (hw _ (List.mem_of_getElem? (i := 4) rfl)) (hw _ (List.mem_of_getElem? (i := 5) rfl)) (rm1 l Z a0 hw y47 h0) e32 (argsL := [(.int y47)]) (rest := []) (Ls := #[.val (.int x0), .val (.int x1), .val (.int (x1 &&& (3 : Int32))), .val (.int y47), .val (.int (1 : Int32))]) (hb hby at_75) pd_1 0 (by rw [hml]; rfl) (by decide) rfl rfl rfl (Nat.le_of_eq rfl) (by decide) (by decide) (by decide) (by decide)
              refine own_go (S' := (T34.setTop (mkF m 78 #[.val (.int x0), .val (.int x1), .val (.int (x1 &&& (3 : Int32))), .val (.int y47), .val (.int (1 : Int32))] [(.int (f1_0 y47))]))) st34 ?_
              refine own_go (S' := (T34.setTop (mkF m 80 #[.val (.int x0), .val (.int x1), .val (.int (x1 &&& (3 : Int32))), .val (.int y47), .val (.int (1 : Int32))] [(.int (1 : Int32)), (.int (f1_0 y47))]))) (fun t k => XS.iload X34.here hx rfl (hb hby at_78) rfl k) ?_
              refine own_go (S' := (T34.setTop (mkF m 83 #[.val (.int x0), .val (.int x1), .val (.int (x1 &&& (3 : Int32))), .val (.int y47), .val (.int (1 : Int32))] []))) (fun t k => XS.icmpNo X34.here hx rfl (hb hby at_80) rfl (teq (by rw [own_same, if_neg hc51_28, if_neg hc57_30, if_pos hc64_33])).2 k) ?_
              refine own_go (S' := (T34.setTop (mkF m 84 #[.val (.int x0), .val (.int x1), .val (.int (x1 &&& (3 : Int32))), .val (.int y47), .val (.int (1 : Int32))] [(.int (1 : Int32))]))) (fun t k => XT.iconstV X34.here hx rfl (1 : Int32) (hb hby at_83) (by decide) k) ?_
              refine own_go (S' := (T34.setTop (mkF m 88 #[.val (.int x0), .val (.int x1), .val (.int (x1 &&& (3 : Int32))), .val (.int y47), .val (.int (1 : Int32))] [(.int (1 : Int32))]))) (fun t k => XS.goto X34.here hx rfl (pc0 := 84) (pc' := 88) rfl (hb hby at_84) (by decide) (by decide) k) ?_
              exact own_retN X34 hx hret hlk (by simp) (hb hby at_88) (by first | rfl | decide) (by decide) (by decide) ⟨rfl, N0⟩
            ·
              refine own_go (S' := (T32.setTop (mkF m 71 #[.val (.int x0), .val (.int x1), .val (.int (x1 &&& (3 : Int32))), .val (.int y47), .unset] []))) (fun t k => XS.ifYes X32.here hx rfl (pc0 := 64) (pc' := 71) rfl (hb hby at_64) rfl ((if0 _ _).trans (feq hc64_33).2) (by decide) (by decide) k) ?_
              refine own_go (S' := (T32.setTop (mkF m 72 #[.val (.int x0), .val (.int x1), .val (.int (x1 &&& (3 : Int32))), .val (.int y47), .unset] [(.int (0 : Int32))]))) (fun t k => XT.iconstV X32.here hx rfl (0 : Int32) (hb hby at_71) (by decide) k) ?_
              refine own_go (S' := (T32.setTop (mkF m 74 #[.val (.int x0), .val (.int x1), .val (.int (x1 &&& (3 : Int32))), .val (.int y47), .val (.int (0 : Int32))] []))) (fun t k => XS.istore X32.here hx rfl (hb hby at_72) rfl (l' := #[.val (.int x0), .val (.int x1), .val (.int (x1 &&& (3 : Int32))), .val (.int y47), .val (.int (0 : Int32))]) rfl k) ?_
              refine own_go (S' := (T32.setTop (mkF m 75 #[.val (.int x0), .val (.int x1), .val (.int (x1 &&& (3 : Int32))), .val (.int y47), .val (.int (0 : Int32))] [(.int y47)]))) (fun t k => XS.iloadN X32.here hx rfl (hb hby at_74) rfl k) ?_
              obtain ⟨T35, X35, e35, st35⟩ := own_callP X32 hx hZ (y := (⟨"com/example/parley/parley/XmlChars", "isNameStart", "(I)Z"⟩ : MethodName)) hown (hw _ (List.mem_of_getElem? (i := 2) rfl)) (hw _ (List.mem_of_getElem? (i := 3) rfl)) (hw _ (List.mem_of_getElem? (i := 4) rfl)) (hw _ (List.mem_of_getElem? (i := 5) rfl)) (rm1 l Z a0 hw y47 h0) e32 (argsL := [(.int y47)]) (rest := []) (Ls := #[.val (.int x0), .val (.int x1), .val (.int (x1 &&& (3 : Int32))), .val (.int y47), .val (.int (0 : Int32))]) (hb hby at_75) pd_1 0 (by rw [hml]; rfl) (by decide) rfl rfl rfl (Nat.le_of_eq rfl) (by decide) (by decide) (by decide) (by decide)
              refine own_go (S' := (T35.setTop (mkF m 78 #[.val (.int x0), .val (.int x1), .val (.int (x1 &&& (3 : Int32))), .val (.int y47), .val (.int (0 : Int32))] [(.int (f1_0 y47))]))) st35 ?_
              refine own_go (S' := (T35.setTop (mkF m 80 #[.val (.int x0), .val (.int x1), .val (.int (x1 &&& (3 : Int32))), .val (.int y47), .val (.int (0 : Int32))] [(.int (0 : Int32)), (.int (f1_0 y47))]))) (fun t k => XS.iload X35.here hx rfl (hb hby at_78) rfl k) ?_
              refine own_go (S' := (T35.setTop (mkF m 83 #[.val (.int x0), .val (.int x1), .val (.int (x1 &&& (3 : Int32))), .val (.int y47), .val (.int (0 : Int32))] []))) (fun t k => XS.icmpNo X35.here hx rfl (hb hby at_80) rfl (teq (by rw [own_same, if_neg hc51_28, if_neg hc57_30, if_neg hc64_33])).2 k) ?_
              refine own_go (S' := (T35.setTop (mkF m 84 #[.val (.int x0), .val (.int x1), .val (.int (x1 &&& (3 : Int32))), .val (.int y47), .val (.int (0 : Int32))] [(.int (1 : Int32))]))) (fun t k => XT.iconstV X35.here hx rfl (1 : Int32) (hb hby at_83) (by decide) k) ?_
              refine own_go (S' := (T35.setTop (mkF m 88 #[.val (.int x0), .val (.int x1), .val (.int (x1 &&& (3 : Int32))), .val (.int y47), .val (.int (0 : Int32))] [(.int (1 : Int32))]))) (fun t k => XS.goto X35.here hx rfl (pc0 := 84) (pc' := 88) rfl (hb hby at_84) (by decide) (by decide) k) ?_
              exact own_retN X35 hx hret hlk (by simp) (hb hby at_88) (by first | rfl | decide) (by decide) (by decide) ⟨rfl, N0⟩
set_option maxRecDepth 65536 in
set_option maxHeartbeats 40000000 in
theorem comes_1 {Post : Tables → Env → Array Value → State → Outcome → State → Prop} (hpost : ∀ tb e args s v u, (limb_1_1.after args s (.returned v) u = true ∧ limb_1_2.after args s (.returned v) u = true) → FrameEnd s (.returned v) u (Jvm.fieldLocs frame_1_writes args s ++ Jvm.arrayLocs frame_1_arrays args s ++ Jvm.staticLocs frame_1_statics s) 0 0 → Post tb e args s (.returned v) u) :
    ArmFor flags0 classFile x code maxLocals ret World_1 tables_1 room_1 Calls_1 rest_1 Pre_1 Post := by
  intro l hfl _ _ p e ha hc hk s m args below hf hA hF happ hP
  obtain ⟨hcalls, hrest, hpre⟩ := hP
  obtain ⟨-, -, -, hnamed, -, -, -, hat⟩ := (Spec.applies_iff hf).mp happ
  obtain ⟨hg, hn⟩ := and_e (Cond.before_iff.mp (show (Jvm.Cond.and given_1 narrow_1).before args s = true from hpre))
  obtain ⟨hga, hgb⟩ := and_e hg
  obtain ⟨hgba, hgbb⟩ := and_e hgb
  obtain ⟨w0, w1, rfl⟩ : ∃ w0 w1 : Value, args = #[w0, w1] := by
    have hs : args.size = 2 := by simpa [Cond.value, given_1] using hga
    obtain ⟨L⟩ := args
    match L, hs with
    | [w0, w1], _ => exact ⟨w0, w1, rfl⟩
  have hw := fun d (hd : d ∈ tables_1) => atoms_spec (ws := Jvm.Cond.code x code maxLocals ret :: tables_1) hat d (List.mem_cons_of_mem _ hd)
  obtain ⟨i0, ei0⟩ := is_v hgba
  obtain rfl : w0 = (.int i0) := Option.some.inj ei0
  obtain ⟨i1, ei1⟩ := is_v hgbb
  obtain rfl : w1 = (.int i1) := Option.some.inj ei1
  obtain ⟨n, o, h1, h2, h3, _, L, rfl, ⟨rfl, N⟩, hq⟩ := rm0 l s _ hw tables_1 i0 i1 s.heap s.heap.size (Nat.le_refl _) p e ha hc hk s m _ below hf ((Spec.applies_iff_loose hf).mp happ).1 ⟨rfl, State.Warmed39.refl s, rfl⟩ trivial
  refine ⟨n, _, h1, h2, h3, hpost _ _ _ _ _ _ ⟨Cond.after_iff.mpr rfl, Cond.after_iff.mpr (eq_i res_at (Term.int_eval (1)) rfl)⟩ ⟨hq.1, hq.2.1, (hq.2.2.sift fun y hy => Or.inr (N y hy)).mono (by decide) (by decide)⟩⟩
theorem main_1_1 : Claimed_1_1 := comes_1 fun _ _ _ _ _ _ h hF => ⟨h.1, hF⟩
theorem main_1_2 : Claimed_1_2 := comes_1 fun _ _ _ _ _ _ h hF => ⟨h.2, hF⟩
end Jvm.Pilot.@@N@@
namespace Jvm.Pilot.@@N@@
open Jvm Jvm.ClassFile Sem Op Lib Jvm.Free Jvm.Stand Jvm.Pilot.@@N@@.Jvm.D
/-! MADE BY PROGRAM (witnessworld.py) out of the Statement's table words and the real class files: 9 classes; the members and pool entries that the words name. The judged class is class 1, her method 3. -/
namespace start1
open Jvm.ClassFile
def u (s : String) : CpInfo := .utf8 (stringToUtf16 s)
/-- a pool by its gaps: so many unusable entries, then the entry; so many at the end -/
def gap : Nat → List CpInfo → List CpInfo
  | 0, r => r
  | n + 1, r => .unusable :: gap n r
def poolList (es : List (Nat × CpInfo)) (last : Nat) : List CpInfo := es.foldr (fun e r => gap e.1 (e.2 :: r)) (gap last [])
def pool (es : List (Nat × CpInfo)) (last : Nat) : Array CpInfo := ⟨poolList es last⟩
def fileOf (pool : Array CpInfo) (this : Nat) (attrs : Array Attribute := #[]) (ms : Array MethodInfo := #[]) (fl : Nat := 33) (sup : Nat := 0) (ifs : Array Nat := #[]) (fds : Array FieldInfo := #[]) : ClassFile where
  minorVersion := 0
  majorVersion := 65
  constantPool := pool
  accessFlags := fl
  thisClass := this
  superClass := sup
  interfaces := ifs
  fields := fds
  methods := ms
  attributes := attrs
def plain (name : String) (sup : Option ClassId) : Class where
  name := name
  kind := .ordinary
  loader := none
  accessFlags := 33
  super := sup
  interfaces := #[]
  cf := none
  fields := #[]
  methods := #[]
  instanceTypes := #[]
  staticTypes := #[]
  resolved := #[]
  callSites := []
  init := .initialized
  statics := none
  mirror := none

def pool0 : Array CpInfo := pool [(5, u "<init>"), (0, u "()V"), (1, .class_ 10), (1, u "java/lang/Object")] 113

def k0m0 : Method := { name := "<init>", desc := "()V", sig := { parameters := [], returnType := none }, accessFlags := 1, code := none }
/-- java/lang/Object -/
def k0 : Class := { plain "java/lang/Object" none with
  accessFlags := 33
  interfaces := #[]
  cf := some (fileOf pool0 8 #[] #[{ accessFlags := 1, nameIndex := 5, descriptorIndex := 6, attributes := #[] }] 33 0 #[] #[])
  fields := #[]
  methods := #[k0m0]
  instanceTypes := #[]
  staticTypes := #[]
  resolved := Array.replicate 124 none
  statics := none }

def pool1 : Array CpInfo := pool [(2, .class_ 4), (1, u "java/lang/Object"), (0, u "<init>"), (0, u "()V"), (0, .methodref 8 9), (0, .class_ 10), (0, .nameAndType 11 12), (0, u "com/example/parley/parley/XmlCharsIsNameStartPinLaw"), (0, u "in"), (0, u "(III)Z"), (0, .integer 55296), (0, .integer 63743), (0, .integer 64976), (0, .integer 65007), (0, .integer 65534), (0, .integer 65535), (0, .integer 2147483647), (0, .integer 1048576), (0, .integer 983039), (0, .methodref 8 23), (0, .nameAndType 24 25), (0, u "inGap"), (0, u "(I)Z"), (0, .methodref 27 28), (0, .class_ 29), (0, .nameAndType 30 25), (0, u "com/example/parley/parley/XmlChars"), (0, u "isNameStart"), (3, u "law"), (0, u "(II)Z")] 2

def k1m0 : Method := { name := "<init>", desc := "()V", sig := { parameters := [], returnType := none }, accessFlags := 2, code := none }
def k1c1 : Code := { maxStack := 2, maxLocals := 3, code := method_2_code, exceptionTable := #[], attributes := #[] }
def k1m1 : Method := { name := "in", desc := "(III)Z", sig := { parameters := [.int, .int, .int], returnType := some .boolean }, accessFlags := 10, code := some k1c1 }
def k1c2 : Code := { maxStack := 3, maxLocals := 1, code := method_3_code, exceptionTable := #[], attributes := #[] }
def k1m2 : Method := { name := "inGap", desc := "(I)Z", sig := { parameters := [.int], returnType := some .boolean }, accessFlags := 10, code := some k1c2 }
def k1c3 : Code := { maxStack := 2, maxLocals := 5, code := code, exceptionTable := #[], attributes := #[] }
def k1m3 : Method := { name := "law", desc := "(II)Z", sig := { parameters := [.int, .int], returnType := some .boolean }, accessFlags := 9, code := some k1c3 }
/-- com/example/parley/parley/XmlCharsIsNameStartPinLaw -/
def k1 : Class := { plain "com/example/parley/parley/XmlCharsIsNameStartPinLaw" (some 0) with
  accessFlags := 49
  interfaces := #[]
  cf := some (fileOf pool1 8 #[] #[{ accessFlags := 2, nameIndex := 5, descriptorIndex := 6, attributes := #[] }, { accessFlags := 10, nameIndex := 11, descriptorIndex := 12, attributes := #[] }, { accessFlags := 10, nameIndex := 24, descriptorIndex := 25, attributes := #[] }, { accessFlags := 9, nameIndex := 34, descriptorIndex := 35, attributes := #[] }] 49 2 #[] #[])
  fields := #[]
  methods := #[k1m0, k1m1, k1m2, k1m3]
  instanceTypes := #[]
  staticTypes := #[]
  resolved := Array.replicate 38 none
  statics := none }

def pool2 : Array CpInfo := pool [(2, .class_ 4), (1, u "java/lang/Object"), (0, u "<init>"), (0, u "()V"), (11, .class_ 20), (1, u "com/example/parley/parley/XmlChars"), (32, u "(I)Z"), (6, .integer 55295), (1, .integer 65533), (0, .integer 65536), (31, .integer 63744), (0, .integer 64975), (0, .integer 65008), (0, .integer 983039), (2, u "isNameStart")] 45

def k2m0 : Method := { name := "<init>", desc := "()V", sig := { parameters := [], returnType := none }, accessFlags := 2, code := none }
def k2c1 : Code := { maxStack := 2, maxLocals := 1, code := prog_97_method_10_code, exceptionTable := #[], attributes := #[] }
def k2m1 : Method := { name := "isNameStart", desc := "(I)Z", sig := { parameters := [.int], returnType := some .boolean }, accessFlags := 8, code := some k2c1 }
/-- com/example/parley/parley/XmlChars -/
def k2 : Class := { plain "com/example/parley/parley/XmlChars" (some 0) with
  accessFlags := 48
  interfaces := #[]
  cf := some (fileOf pool2 18 #[] #[{ accessFlags := 2, nameIndex := 5, descriptorIndex := 6, attributes := #[] }, { accessFlags := 8, nameIndex := 101, descriptorIndex := 53, attributes := #[] }] 48 2 #[] #[])
  fields := #[]
  methods := #[k2m0, k2m1]
  instanceTypes := #[]
  staticTypes := #[]
  resolved := Array.replicate 147 none
  statics := none }

def pool3 : Array CpInfo := pool [(1, u "java/lang/Cloneable"), (0, .class_ 1), (0, u "java/lang/Object"), (0, .class_ 3)] 3

/-- java/lang/Cloneable -/
def k3 : Class := { plain "java/lang/Cloneable" (some 0) with
  accessFlags := 1537
  interfaces := #[]
  cf := some (fileOf pool3 2 #[] #[] 1537 4 #[] #[])
  fields := #[]
  methods := #[]
  instanceTypes := #[]
  staticTypes := #[]
  resolved := Array.replicate 8 none
  statics := none }

def pool4 : Array CpInfo := pool [(1, u "java/io/Serializable"), (0, .class_ 1), (0, u "java/lang/Object"), (0, .class_ 3)] 3

/-- java/io/Serializable -/
def k4 : Class := { plain "java/io/Serializable" (some 0) with
  accessFlags := 1537
  interfaces := #[]
  cf := some (fileOf pool4 2 #[] #[] 1537 4 #[] #[])
  fields := #[]
  methods := #[]
  instanceTypes := #[]
  staticTypes := #[]
  resolved := Array.replicate 8 none
  statics := none }

/-- the primitive byte -/
def k5 : Class := { plain "byte" none with kind := .primitive 'B', accessFlags := 0x411 }
/-- [B -/
def k6 : Class := { plain "[B" (some 0) with kind := .array 5 .byte, interfaces := #[3, 4], accessFlags := 1041 }

/-- the primitive int -/
def k7 : Class := { plain "int" none with kind := .primitive 'I', accessFlags := 0x411 }
/-- [I -/
def k8 : Class := { plain "[I" (some 0) with kind := .array 7 .int, interfaces := #[3, 4], accessFlags := 1041 }

def heap : Heap := #[]
def classes : Array Class := #[k0, k1, k2, k3, k4, k5, k6, k7, k8]
def interned : List (Array UInt16 × Addr) := []
def slotsUsed : Nat := 0
def theMethod : MethodId := ⟨1, 3⟩
def args0 : Array Value := #[.int 65, .int 5]
def aboutOver (below : List Frame) : State where
  vm := { classes := classes, interned := interned.toArray }
  heap := heap
  slotsUsed := slotsUsed
  threads := #[{ frames := .invoking theMethod args0 :: below }]
def below0 : List Frame := [.native { method := ⟨0, 0⟩, args := #[] }]
def about1 : State := aboutOver below0
def p0 : Program := .bare "" "" ""
def e0 : Env := launch0.env 0 0 0
theorem w_frames : about1.frames = Frame.invoking theMethod args0 :: below0 := rfl
set_option maxRecDepth 65536 in
theorem w_args : argsFit about1.vm theMethod args0 = true := by decide +kernel
set_option maxRecDepth 65536 in
theorem w_heap : heapFits about1 = true := by decide +kernel
set_option maxRecDepth 65536 in
theorem w_runnable : about1.curStatus? = some .runnable := by decide +kernel
set_option maxRecDepth 65536 in
theorem w_alone : about1.alone = true := by decide +kernel
set_option maxRecDepth 65536 in
theorem w_named : about1.methodNamed? x = some theMethod := by decide +kernel
set_option maxRecDepth 65536 in
theorem w_hears : about1.hears theMethod below0 = true := by decide +kernel
set_option maxRecDepth 65536 in
theorem w_ripe : about1.ripe theMethod args0 below0 = true := by decide +kernel
theorem w_running : about1.status = .running := rfl
set_option maxRecDepth 65536 in
theorem w_room : about1.hasRoom e0.platform room_1 = true :=
  launch0.hasRoom_least _ room_1 (by decide +kernel) (by decide +kernel) (by decide +kernel) (by decide +kernel) (by decide +kernel) (by decide +kernel)
theorem allAtoms_all (ts : List Jvm.Cond) (a : Array Jvm.Value) (st : Jvm.State) : (allAtoms ts).before a st = ts.all (fun c => c.before a st) := by
  induction ts with
  | nil => rfl
  | cons c t ih =>
    show (Jvm.Cond.and c (allAtoms t)).before a st = _
    rw [Jvm.Cond.before_and, ih, List.all_cons]
def words1 : List Jvm.Cond := Jvm.Cond.code x code maxLocals ret :: tables_1
/-- a 'code' word, met by the world's own term for the bytes: nothing is compared byte by byte -/
theorem code_word {y : MethodName} {bytes : ByteArray} {mx : Nat} {rt : Option FieldType} {a : Array Value} {s : State} {m : MethodId} {meth : Method} {c : Code} (h1 : s.methodNamed? y = some m) (h2 : s.vm.method? m = some meth) (h3 : meth.code = some c) (h4 : c.code = bytes)
    (h5 : (c.maxLocals == mx && c.exceptionTable.isEmpty && decide (c.maxStack ≤ mostOperands) && decide (meth.sig.returnType = rt) && !meth.locks && decide (parseMethodDescriptor y.desc = some meth.sig)) = true) : (Jvm.Cond.code y bytes mx rt).before a s = true := by
  simp only [Bool.and_eq_true, beq_iff_eq, Bool.not_eq_true', decide_eq_true_eq] at h5
  obtain ⟨⟨⟨⟨⟨g1, g2⟩, g3⟩, g4⟩, g5⟩, g6⟩ := h5
  simp [Cond.before, Cond.holds, Cond.value, h1, h2, h3, h4, g1, g2, g3, g4, g5, g6]
def isCode : Jvm.Cond → Bool
  | .code _ _ _ _ => true
  | _ => false
theorem all_split {L : List Jvm.Cond} {P : Jvm.Cond → Bool} (h1 : L.all (fun c => isCode c || P c) = true) (h2 : ∀ c ∈ L.filter isCode, P c = true) : L.all P = true := by
  refine List.all_eq_true.mpr fun c hc => ?_
  have h := List.all_eq_true.mp h1 c hc
  rcases Bool.eq_false_or_eq_true (isCode c) with hi | hi
  · exact h2 c (List.mem_filter.mpr ⟨hc, hi⟩)
  · simpa [hi] using h
set_option maxRecDepth 65536 in
theorem w_c0 : (Jvm.Cond.code x code maxLocals ret).before args0 about1 = true := code_word (m := ⟨1, 3⟩) (meth := k1m3) (c := k1c3) (by decide +kernel) rfl rfl rfl (by decide +kernel)
set_option maxRecDepth 65536 in
theorem w_c1 : (Jvm.Cond.code ({ cls := "com/example/parley/parley/XmlChars", name := "isNameStart", desc := "(I)Z" } : Jvm.MethodName) prog_97_method_10_code (1 : Nat) (Option.some Jvm.ClassFile.FieldType.boolean)).before args0 about1 = true := code_word (m := ⟨2, 1⟩) (meth := k2m1) (c := k2c1) (by decide +kernel) rfl rfl rfl (by decide +kernel)
set_option maxRecDepth 65536 in
theorem w_c2 : (Jvm.Cond.code ({ cls := "com/example/parley/parley/XmlCharsIsNameStartPinLaw", name := "inGap", desc := "(I)Z" } : Jvm.MethodName) method_3_code (1 : Nat) (Option.some Jvm.ClassFile.FieldType.boolean)).before args0 about1 = true := code_word (m := ⟨1, 2⟩) (meth := k1m2) (c := k1c2) (by decide +kernel) rfl rfl rfl (by decide +kernel)
set_option maxRecDepth 65536 in
theorem w_c3 : (Jvm.Cond.code ({ cls := "com/example/parley/parley/XmlCharsIsNameStartPinLaw", name := "in", desc := "(III)Z" } : Jvm.MethodName) method_2_code (3 : Nat) (Option.some Jvm.ClassFile.FieldType.boolean)).before args0 about1 = true := code_word (m := ⟨1, 1⟩) (meth := k1m1) (c := k1c1) (by decide +kernel) rfl rfl rfl (by decide +kernel)
def codes1 : List Jvm.Cond := [Jvm.Cond.code x code maxLocals ret, Jvm.Cond.code ({ cls := "com/example/parley/parley/XmlChars", name := "isNameStart", desc := "(I)Z" } : Jvm.MethodName) prog_97_method_10_code (1 : Nat) (Option.some Jvm.ClassFile.FieldType.boolean), Jvm.Cond.code ({ cls := "com/example/parley/parley/XmlCharsIsNameStartPinLaw", name := "inGap", desc := "(I)Z" } : Jvm.MethodName) method_3_code (1 : Nat) (Option.some Jvm.ClassFile.FieldType.boolean), Jvm.Cond.code ({ cls := "com/example/parley/parley/XmlCharsIsNameStartPinLaw", name := "in", desc := "(III)Z" } : Jvm.MethodName) method_2_code (3 : Nat) (Option.some Jvm.ClassFile.FieldType.boolean)]
set_option maxRecDepth 65536 in
theorem codes_eq : words1.filter isCode = codes1 := rfl
theorem w_codes : ∀ c ∈ words1.filter isCode, c.before args0 about1 = true := by
  rw [codes_eq]
  intro c hc
  simp only [codes1, List.mem_cons, List.not_mem_nil, or_false] at hc
  rcases hc with rfl | rfl | rfl | rfl
  · exact w_c0
  · exact w_c1
  · exact w_c2
  · exact w_c3
set_option maxRecDepth 65536 in
theorem w_t1 : (words1.take 24).all (fun c => isCode c || c.before args0 about1) = true := by decide +kernel
set_option maxRecDepth 65536 in
theorem w_t2 : (words1.drop 24).all (fun c => isCode c || c.before args0 about1) = true := by decide +kernel
theorem w_tables : (allAtoms (Jvm.Cond.code x code maxLocals ret :: tables_1)).before args0 about1 = true := by
  rw [allAtoms_all]
  show words1.all (fun c => c.before args0 about1) = true
  refine all_split ?_ w_codes
  rw [← List.take_append_drop 24 words1, List.all_append, w_t1, w_t2]
  rfl
set_option maxRecDepth 65536 in
theorem w_case : (Jvm.Cond.and given_1 narrow_1).before args0 about1 = true := by decide +kernel
theorem w_applies : (headSpec (Jvm.Cond.code x code maxLocals ret :: tables_1) room_1).applies x e0.platform about1 = true :=
  (Spec.applies_iff w_frames).mpr ⟨w_running, w_runnable, w_alone, w_named, w_hears, w_ripe, w_room, w_tables⟩
theorem atStart : AtStart classFile x code maxLocals ret World_1 tables_1 room_1 Calls_1 rest_1 Pre_1 launch0 p0 e0 about1 theMethod args0 below0 :=
  ⟨lists_1, trivial, launch0.admits_env _ _ _, launch0.least_env, fairChoices_fair.cas, fairChoices_fair.clock, w_frames, w_args, w_heap, w_applies, trivial, trivial, w_case⟩
end start1
theorem witness_1 : WitnessClaimed_1 := ⟨start1.p0, start1.e0, start1.about1, start1.theMethod, start1.args0, start1.below0, start1.atStart⟩
end Jvm.Pilot.@@N@@
