import JvmDerived
import JvmDerived.Pilot.@@N@@Statement
import JvmDerived.Pilot.@@N@@Code
set_option linter.unusedVariables false
set_option linter.unusedSimpArgs false
@@BLOCK:NumsL.lean.txt@@
@@BLOCK:Masks.lean.txt@@
namespace Jvm.Pilot.@@N@@
open Jvm Jvm.ClassFile Sem Op Lib Jvm.Free Jvm.Stand Jvm.LawKit Jvm.RoadKit Bundle Jvm.Pilot.@@N@@.Jvm.D

/-! A. the goal of a walk, said of the state where it stands: from here the body ends as Q says -/
def own_End (p : Program) (e : Env) (below : List Frame) (s : State) (Q : Option Value → Heap → List Loc → Prop) (k n : Nat) (S : State) : Prop :=
  ∃ s₂ o, Steps p.tables e below S s₂ ∧ s₂.status = .running ∧ Ended s₂ below o ∧ ∃ v L, o = .returned v ∧ Q v s₂.heap L ∧ FrameEnd s o s₂ L k n
section OwnWalk
variable {p : Program} {l : Launch} {e : Env} {R : Room} {s : State} {m : MethodId} {args : Array Value} {below : List Frame} {meth : Method} {c : Code} {T : State} {locs : List Loc} {cells slots : Nat} {Z : State} {a0 : Array Value} {h h' : Heap} {Q : Option Value → Heap → List Loc → Prop} {k n : Nat}
theorem own_go {S S' : State} (f : ∀ t, Steps p.tables e below S' t → Steps p.tables e below S t) (g : own_End p e below s Q k n S') : own_End p e below s Q k n S := by
  obtain ⟨t, o, h1, r⟩ := g
  exact ⟨t, o, f t h1, r⟩
theorem own_cast {g g' : JFrame} (q : g = g') (k' : own_End p e below s Q k n (T.setTop g')) : own_End p e below s Q k n (T.setTop g) := q ▸ k'
theorem own_retN (X : Stand p l e R s m args below meth c T locs cells slots) (hx : p.tables.exec = Jvm.exec) {pc : Nat} {Ls : Array Slot} {z z' : Int32} {t : FieldType} {rest : List Value} (hret : meth.sig.returnType = some t) (hlk : meth.locks = false) (ht : t = .boolean ∨ t = .byte ∨ t = .char ∨ t = .short)
    (hd : decode c.code pc = .ok (.ireturn, 1)) (hz : nar t z = z') (hc : cells ≤ k) (hn : slots ≤ n) (hQ : Q (some (.int z')) T.heap locs) : own_End p e below s Q k n (T.setTop (mkF m pc Ls (.int z :: rest))) := by
  obtain ⟨fs, hr, hrun, hended, hW, hsame⟩ := X.leave (v := some (.int z')) (fun q => by rw [hret] at q; cases q) hlk
  subst hz
  exact ⟨_, _, retN X hx hret ht hd hr, hrun, hended, _, _, rfl, hQ, ⟨_, rfl⟩, hW, hsame.mono hc hn⟩
theorem own_retI (X : Stand p l e R s m args below meth c T locs cells slots) (hx : p.tables.exec = Jvm.exec) {pc : Nat} {Ls : Array Slot} {z : Int32} {rest : List Value} (hret : meth.sig.returnType = some .int) (hlk : meth.locks = false)
    (hd : decode c.code pc = .ok (.ireturn, 1)) (hc : cells ≤ k) (hn : slots ≤ n) (hQ : Q (some (.int z)) T.heap locs) : own_End p e below s Q k n (T.setTop (mkF m pc Ls (.int z :: rest))) := by
  obtain ⟨fs, hr, hrun, hended, hW, hsame⟩ := X.leave (v := some (.int z)) (fun q => by rw [hret] at q; cases q) hlk
  exact ⟨_, _, retOut X hx hret rfl (Or.inl ⟨rfl, Or.inl rfl, _, rfl⟩) hd hr, hrun, hended, _, _, rfl, hQ, ⟨_, rfl⟩, hW, hsame.mono hc hn⟩
theorem own_retJ (X : Stand p l e R s m args below meth c T locs cells slots) (hx : p.tables.exec = Jvm.exec) {pc : Nat} {Ls : Array Slot} {z : Int64} {rest : List Value} (hret : meth.sig.returnType = some .long) (hlk : meth.locks = false)
    (hd : decode c.code pc = .ok (.lreturn, 1)) (hc : cells ≤ k) (hn : slots ≤ n) (hQ : Q (some (.long z)) T.heap locs) : own_End p e below s Q k n (T.setTop (mkF m pc Ls (.long z :: rest))) := by
  obtain ⟨fs, hr, hrun, hended, hW, hsame⟩ := X.leave (v := some (.long z)) (fun q => by rw [hret] at q; cases q) hlk
  exact ⟨_, _, retOut X hx hret rfl (Or.inr (Or.inl ⟨rfl, rfl, _, rfl⟩)) hd hr, hrun, hended, _, _, rfl, hQ, ⟨_, rfl⟩, hW, hsame.mono hc hn⟩
theorem own_retV (X : Stand p l e R s m args below meth c T locs cells slots) (hx : p.tables.exec = Jvm.exec) {pc : Nat} {Ls : Array Slot} (hret : meth.sig.returnType = none) (hlk : meth.locks = false)
    (hd : decode c.code pc = .ok (.return_, 1)) (hc : cells ≤ k) (hn : slots ≤ n) (hQ : Q none T.heap locs) : own_End p e below s Q k n (T.setTop (mkF m pc Ls [])) := by
  obtain ⟨fs, hr, hrun, hended, hW, hsame⟩ := X.leave (v := none) (fun _ => rfl) hlk
  exact ⟨_, _, X.returnOut hx hret hd hr, hrun, hended, _, _, rfl, hQ, ⟨_, rfl⟩, hW, hsame.mono hc hn⟩

/-! B. arrays by the list of their components -/
def own_L (Z : State) (h : Heap) (a : Addr) (ty : FieldType) (vs : List Value) : Prop := ∃ cl : Cell, Arr Z h a cl ty ∧ cl.slots.toList = vs
variable {a b : Addr} {ty : FieldType} {vs : List Value} {sl : Nat} {v w : Value} {ws : List Addr}
theorem own_L.lt (F : own_L Z h a ty vs) : a < h.size := by obtain ⟨_, A, _⟩ := F; exact A.lt
theorem own_L.ext (F : own_L Z h a ty vs) (E : Ext h h') : own_L Z h' a ty vs := by obtain ⟨c, A, r⟩ := F; exact ⟨c, A.ext E, r⟩
theorem own_L.other (F : own_L Z h b ty vs) (W : Wr h h' a sl v) (q : b ≠ a) : own_L Z h' b ty vs := by obtain ⟨c, A, r⟩ := F; exact ⟨c, A.other W q, r⟩
theorem own_L.keep (F : own_L Z h a ty vs) (K : Keep h h' ws) (q : a ∉ ws) : own_L Z h' a ty vs := by obtain ⟨c, A, r⟩ := F; exact ⟨c, ⟨K.2.1 a c A.1 q, A.2⟩, r⟩
theorem own_L.same (F : own_L Z h a ty vs) (W : Wr h h' a sl v) : own_L Z h' a ty (vs.set sl v) := by
  obtain ⟨c, A, r⟩ := F
  refine ⟨_, A.same W, ?_⟩
  subst r
  simp [Cell.setSlot]
theorem own_L.eq {vs' : List Value} (F : own_L Z h a ty vs) (q : vs = vs') : own_L Z h a ty vs' := q ▸ F
theorem own_newL (X : Stand p l e R s m args below meth c T locs cells slots) (hx : p.tables.exec = Jvm.exec) (hZ : Z.Warmed39 s.vm) {aty : ArrayType} (w : (Cond.arrayClass (newarray.typeOf aty)).before a0 Z = true) (eT : T.heap = h) {pc : Nat} {Ls : Array Slot} {nn : Int32} {rest : List Value} (hd : decode c.code pc = .ok (.newarray aty, 2))
    (hn : ¬ nn < 0) {len cap : Nat} (hlen : nn.toNatClampNeg = len) (hcap : len ≤ cap) (hb : cap * 8 ≤ 536870912) (hc : cells + 1 ≤ R.cells) (hl : slots + cap ≤ R.slots) :
    ∃ T' h' b, Stand p l e R s m args below meth c T' locs (cells + 1) (slots + cap) ∧ T'.heap = h' ∧ Ext h h' ∧ b = h.size ∧ own_L Z h' b (newarray.typeOf aty) (List.replicate len (defaultValue (newarray.typeOf aty))) ∧
      ∀ t, Steps p.tables e below (T'.setTop (mkF m (pc + 2) Ls (.ref b :: rest))) t → Steps p.tables e below (T.setTop (mkF m pc Ls (.int nn :: rest))) t := by
  obtain ⟨T', h', cA, X', e', E, A, st⟩ := newP X hx hZ w eT (g := mkF m pc Ls (.int nn :: rest)) rfl hd rfl hn (cap := cap) (by rw [hlen]; exact hcap) hb hc hl
  exact ⟨T', h', h.size, X', e', E, rfl, ⟨_, A, by simp [newA, hlen]⟩, st⟩
theorem own_in {cl : Cell} {i : Nat} {j : Int32} (hs : cl.slots.toList = vs) (hj : ¬ j < 0) (hi : j.toNatClampNeg = i) (hl : i < vs.length) : ¬ (j < 0 ∨ cl.slots.size ≤ j.toNatClampNeg) := by
  subst hs hi
  simp only [Array.length_toList] at hl
  rintro (q | q)
  · exact hj q
  · omega
theorem own_get {cl : Cell} {i : Nat} {j : Int32} (hs : cl.slots.toList = vs) (hi : j.toNatClampNeg = i) (hv : vs[i]? = some v) : cl.slots[j.toNatClampNeg]? = some v := by
  subst hs hi
  simpa using hv
theorem own_len (F : own_L Z h a ty vs) {z : Int32} (hz : vs.length.toInt32 = z) (X : Stand p l e R s m args below meth c T locs cells slots) (hx : p.tables.exec = Jvm.exec) (hZ : Z.Warmed39 s.vm) (eT : T.heap = h) {pc : Nat} {Ls : Array Slot} {rest : List Value} (hd : decode c.code pc = .ok (.arraylength, 1)) :
    ∀ t, Steps p.tables e below (T.setTop (mkF m (pc + 1) Ls (.int z :: rest))) t → Steps p.tables e below (T.setTop (mkF m pc Ls (.ref a :: rest))) t := by
  obtain ⟨cl, A, r⟩ := F
  intro t k
  refine X.arraylength hx (by rw [eT]; exact A.1) (State.isArrayOf_alike hZ.alike A.2.1) (g := mkF m pc Ls (.ref a :: rest)) rfl rfl hd t ?_
  have q : cl.slots.size.toInt32 = z := by rw [← hz, ← r, Array.length_toList]
  rw [q]; exact k
theorem own_iaload (F : own_L Z h a .int vs) (X : Stand p l e R s m args below meth c T locs cells slots) (hx : p.tables.exec = Jvm.exec) (hZ : Z.Warmed39 s.vm) (eT : T.heap = h) {pc i : Nat} {Ls : Array Slot} {j : Int32} {rest : List Value} (hj : ¬ j < 0) (hi : j.toNatClampNeg = i) (hl : i < vs.length) (hv : vs[i]? = some v) (hd : decode c.code pc = .ok (.iaload, 1)) :
    ∀ t, Steps p.tables e below (T.setTop (mkF m (pc + 1) Ls (v :: rest))) t → Steps p.tables e below (T.setTop (mkF m pc Ls (.int j :: .ref a :: rest))) t := by
  obtain ⟨cl, A, r⟩ := F
  exact fun t k => X.iaload hx (j := j) (v := v) (by rw [eT]; exact A.1) (State.isArrayOf_alike hZ.alike A.2.1) A.2.2 (own_in r hj hi hl) (own_get r hi hv) (g := mkF m pc Ls (.int j :: .ref a :: rest)) rfl rfl hd t k
theorem own_baload (F : own_L Z h a .byte vs) (X : Stand p l e R s m args below meth c T locs cells slots) (hx : p.tables.exec = Jvm.exec) (hZ : Z.Warmed39 s.vm) (eT : T.heap = h) {pc i : Nat} {Ls : Array Slot} {j : Int32} {rest : List Value} (hj : ¬ j < 0) (hi : j.toNatClampNeg = i) (hl : i < vs.length) (hv : vs[i]? = some v) (hd : decode c.code pc = .ok (.baload, 1)) :
    ∀ t, Steps p.tables e below (T.setTop (mkF m (pc + 1) Ls (v :: rest))) t → Steps p.tables e below (T.setTop (mkF m pc Ls (.int j :: .ref a :: rest))) t := by
  obtain ⟨cl, A, r⟩ := F
  exact fun t k => X.baloadBytes hx (j := j) (v := v) (by rw [eT]; exact A.1) (State.isArrayOf_alike hZ.alike A.2.1) A.2.2 (own_in r hj hi hl) (own_get r hi hv) (g := mkF m pc Ls (.int j :: .ref a :: rest)) rfl rfl hd t k
theorem own_caload (F : own_L Z h a .char vs) (X : Stand p l e R s m args below meth c T locs cells slots) (hx : p.tables.exec = Jvm.exec) (hZ : Z.Warmed39 s.vm) (eT : T.heap = h) {pc i : Nat} {Ls : Array Slot} {j : Int32} {rest : List Value} (hj : ¬ j < 0) (hi : j.toNatClampNeg = i) (hl : i < vs.length) (hv : vs[i]? = some v) (hd : decode c.code pc = .ok (.caload, 1)) :
    ∀ t, Steps p.tables e below (T.setTop (mkF m (pc + 1) Ls (v :: rest))) t → Steps p.tables e below (T.setTop (mkF m pc Ls (.int j :: .ref a :: rest))) t := by
  obtain ⟨cl, A, r⟩ := F
  exact fun t k => X.caload hx (j := j) (v := v) (by rw [eT]; exact A.1) (State.isArrayOf_alike hZ.alike A.2.1) A.2.2 (own_in r hj hi hl) (own_get r hi hv) (g := mkF m pc Ls (.int j :: .ref a :: rest)) rfl rfl hd t k
theorem own_laload (F : own_L Z h a .long vs) (X : Stand p l e R s m args below meth c T locs cells slots) (hx : p.tables.exec = Jvm.exec) (hZ : Z.Warmed39 s.vm) (eT : T.heap = h) {pc i : Nat} {Ls : Array Slot} {j : Int32} {rest : List Value} (hj : ¬ j < 0) (hi : j.toNatClampNeg = i) (hl : i < vs.length) (hv : vs[i]? = some v) (hd : decode c.code pc = .ok (.laload, 1)) :
    ∀ t, Steps p.tables e below (T.setTop (mkF m (pc + 1) Ls (v :: rest))) t → Steps p.tables e below (T.setTop (mkF m pc Ls (.int j :: .ref a :: rest))) t := by
  obtain ⟨cl, A, r⟩ := F
  exact fun t k => X.laload hx (j := j) (v := v) (by rw [eT]; exact A.1) (State.isArrayOf_alike hZ.alike A.2.1) A.2.2 (own_in r hj hi hl) (own_get r hi hv) (g := mkF m pc Ls (.int j :: .ref a :: rest)) rfl rfl hd t k
theorem own_iastore (F : own_L Z h a .int vs) (X : Stand p l e R s m args below meth c T locs cells slots) (hx : p.tables.exec = Jvm.exec) (hZ : Z.Warmed39 s.vm) (eT : T.heap = h) {pc i : Nat} {Ls : Array Slot} {j x : Int32} {rest : List Value} (hj : ¬ j < 0) (hi : j.toNatClampNeg = i) (hl : i < vs.length) (hd : decode c.code pc = .ok (.iastore, 1)) :
    ∃ T' h', Stand p l e R s m args below meth c T' (locs ++ [⟨a, i⟩]) cells slots ∧ T'.heap = h' ∧ Wr h h' a i (.int x) ∧ own_L Z h' a .int (vs.set i (.int x)) ∧
      ∀ t, Steps p.tables e below (T'.setTop (mkF m (pc + 1) Ls rest)) t → Steps p.tables e below (T.setTop (mkF m pc Ls (.int x :: .int j :: .ref a :: rest))) t := by
  have F0 := F
  obtain ⟨cl, A, r⟩ := F
  obtain ⟨T', h', X', e', W, st⟩ := stI X hx hZ eT A (j := j) (own_in r hj hi hl) (g := mkF m pc Ls (.int x :: .int j :: .ref a :: rest)) rfl rfl hd
  subst hi
  exact ⟨T', h', X', e', W, F0.same W, st⟩
theorem own_bastore (F : own_L Z h a .byte vs) (X : Stand p l e R s m args below meth c T locs cells slots) (hx : p.tables.exec = Jvm.exec) (hZ : Z.Warmed39 s.vm) (eT : T.heap = h) {pc i : Nat} {Ls : Array Slot} {j x : Int32} {rest : List Value} (hj : ¬ j < 0) (hi : j.toNatClampNeg = i) (hl : i < vs.length) (hd : decode c.code pc = .ok (.bastore, 1)) :
    ∃ T' h', Stand p l e R s m args below meth c T' (locs ++ [⟨a, i⟩]) cells slots ∧ T'.heap = h' ∧ Wr h h' a i (.int (nar .byte x)) ∧ own_L Z h' a .byte (vs.set i (.int (nar .byte x))) ∧
      ∀ t, Steps p.tables e below (T'.setTop (mkF m (pc + 1) Ls rest)) t → Steps p.tables e below (T.setTop (mkF m pc Ls (.int x :: .int j :: .ref a :: rest))) t := by
  have F0 := F
  obtain ⟨cl, A, r⟩ := F
  obtain ⟨T', h', X', e', W, st⟩ := stB X hx hZ eT A (j := j) (own_in r hj hi hl) (g := mkF m pc Ls (.int x :: .int j :: .ref a :: rest)) rfl rfl hd
  subst hi
  exact ⟨T', h', X', e', W, F0.same W, st⟩
theorem own_castore (F : own_L Z h a .char vs) (X : Stand p l e R s m args below meth c T locs cells slots) (hx : p.tables.exec = Jvm.exec) (hZ : Z.Warmed39 s.vm) (eT : T.heap = h) {pc i : Nat} {Ls : Array Slot} {j x : Int32} {rest : List Value} (hj : ¬ j < 0) (hi : j.toNatClampNeg = i) (hl : i < vs.length) (hd : decode c.code pc = .ok (.castore, 1)) :
    ∃ T' h', Stand p l e R s m args below meth c T' (locs ++ [⟨a, i⟩]) cells slots ∧ T'.heap = h' ∧ Wr h h' a i (.int (nar .char x)) ∧ own_L Z h' a .char (vs.set i (.int (nar .char x))) ∧
      ∀ t, Steps p.tables e below (T'.setTop (mkF m (pc + 1) Ls rest)) t → Steps p.tables e below (T.setTop (mkF m pc Ls (.int x :: .int j :: .ref a :: rest))) t := by
  have F0 := F
  obtain ⟨cl, A, r⟩ := F
  obtain ⟨T', h', X', e', W, st⟩ := stC X hx hZ eT A (j := j) (own_in r hj hi hl) (g := mkF m pc Ls (.int x :: .int j :: .ref a :: rest)) rfl rfl hd
  subst hi
  exact ⟨T', h', X', e', W, F0.same W, st⟩
theorem own_lastore (F : own_L Z h a .long vs) (X : Stand p l e R s m args below meth c T locs cells slots) (hx : p.tables.exec = Jvm.exec) (hZ : Z.Warmed39 s.vm) (eT : T.heap = h) {pc i : Nat} {Ls : Array Slot} {j : Int32} {x : Int64} {rest : List Value} (hj : ¬ j < 0) (hi : j.toNatClampNeg = i) (hl : i < vs.length) (hd : decode c.code pc = .ok (.lastore, 1)) :
    ∃ T' h', Stand p l e R s m args below meth c T' (locs ++ [⟨a, i⟩]) cells slots ∧ T'.heap = h' ∧ Wr h h' a i (.long x) ∧ own_L Z h' a .long (vs.set i (.long x)) ∧
      ∀ t, Steps p.tables e below (T'.setTop (mkF m (pc + 1) Ls rest)) t → Steps p.tables e below (T.setTop (mkF m pc Ls (.long x :: .int j :: .ref a :: rest))) t := by
  have F0 := F
  obtain ⟨cl, A, r⟩ := F
  obtain ⟨T', h', X', e', W, st⟩ := stJ X hx hZ eT A (j := j) (own_in r hj hi hl) (g := mkF m pc Ls (.long x :: .int j :: .ref a :: rest)) rfl rfl hd
  subst hi
  exact ⟨T', h', X', e', W, F0.same W, st⟩

theorem own_nneg {j : Int32} (q : 0 ≤ j.toInt) : ¬ j < 0 := by
  rw [Int32.lt_iff_toInt_lt]; have e0 : (0 : Int32).toInt = 0 := rfl
  omega
theorem own_ltn {j : Int32} {i : Nat} (q : 0 ≤ j.toInt) (r : j.toInt < i) : j.toNatClampNeg < i := by
  simp only [Int32.toNatClampNeg]; omega
theorem own_mapAt {xs : List Int32} {i : Nat} (q : i < (List.map Value.int xs).length) : ∃ v : Int32, (List.map Value.int xs)[i]? = some (.int v) := by
  rw [List.length_map] at q
  exact ⟨xs[i], by simp [q]⟩
theorem own_rem {x y : Int32} {i : Int} (hx : 0 ≤ x.toInt) (hy : y.toInt = i) (hi : 0 < i) : 0 ≤ (x % y).toInt ∧ (x % y).toInt < i := by
  rw [Jvm.Kit.i32_rem_nonneg hx, hy]
  exact ⟨Int.emod_nonneg _ (by omega), Int.emod_lt_of_pos _ hi⟩
theorem own_lenI {xs : List Int32} : (List.map Value.int xs).length.toInt32 = Int32.ofNat xs.length := by
  have h : (List.map Value.int xs).length = xs.length := List.length_map ..
  exact congrArg Nat.toInt32 h
theorem own_lenC {α : Type} {xs : List α} {f : α → Value} {q : Nat} (h : xs.length = q) : (List.map f xs).length.toInt32 = q.toInt32 := by
  rw [List.length_map, h]
theorem own_lenS {α : Type} {xs : List α} {f : α → Value} {q i : Nat} {v : Value} (h : xs.length = q) : ((List.map f xs).set i v).length.toInt32 = q.toInt32 := by
  rw [List.length_set, List.length_map, h]
theorem own_eqI (x y : Int32) : x = y ↔ x.toInt = y.toInt := Int32.toInt_inj.symm
theorem own_or {α : Type} {P P' : Prop} [Decidable P] [Decidable P'] {a b : α} : (if P then a else if P' then a else b) = if P ∨ P' then a else b := by
  by_cases h1 : P <;> by_cases h2 : P' <;> simp [h1, h2]
theorem own_rng {α : Type} {P P' : Prop} [Decidable P] [Decidable P'] {a b : α} : (if P then a else if P' then a else b) = if ¬ P ∧ ¬ P' then b else a := by
  by_cases h1 : P <;> by_cases h2 : P' <;> simp [h1, h2]

theorem own_flip {P P' : Prop} [Decidable P] [Decidable P'] {a b : Int32} (h : P ↔ ¬ P') : (if P then a else b) = if P' then b else a := by
  by_cases h2 : P'
  · rw [if_pos h2, if_neg (fun q => h.mp q h2)]
  · rw [if_neg h2, if_pos (h.mpr h2)]

/-! C. a call by the callee's contract -/
/-- the contract of a body: started with these arguments on this heap it ends as Q says -/
abbrev own_C (l : Launch) (Z : State) (y : MethodName) (bytes : ByteArray) (maxL : Nat) (ret : Option FieldType) (rm : Room) (as : Array Value) (h0 : Heap) (Q : Option Value → Heap → List Loc → Prop) : Prop :=
  MetFree l y (head1 [Cond.code y bytes maxL ret] rm) (fun a U => a = as ∧ Z.Warmed39 U.vm ∧ U.heap = h0) (fun _ _ _ _ _ => True) (fun _ U o U' => ∃ v L, o = .returned v ∧ Q v U'.heap L ∧ FrameEnd U o U' L rm.cells rm.slots)
/-- a pure body: it returns w, and nothing has moved -/
abbrev own_P (h0 : Heap) (w : Option Value) : Option Value → Heap → List Loc → Prop := fun v h L => v = w ∧ L = [] ∧ h = h0
theorem own_callS (X : Stand p l e R s m args below meth c T locs cells slots) (hx : p.tables.exec = Jvm.exec) (hZ : Z.Warmed39 s.vm) {own : String} {index : Nat} {y : MethodName} {bytes : ByteArray} {maxL : Nat} {ret : Option FieldType}
    (hown : s.vm.findClass own = some m.cls) (w1 : (Cond.methodLink own index y).before a0 Z = true) (w2 : (Cond.static y).before a0 Z = true) (w3 : (Cond.initialized y.cls).before a0 Z = true) (w4 : (Cond.code y bytes maxL ret).before a0 Z = true)
    {rm : Room} {as : Array Value} (hM : own_C l Z y bytes maxL ret rm as h Q) (eT : T.heap = h) {pc : Nat} {Ls : Array Slot} {argsL rest : List Value} (hd : decode c.code pc = .ok (.invokestatic index, 3))
    {ps : List FieldType} {rt : Option FieldType} (hpd : parseMethodDescriptor y.desc = some ⟨ps, rt⟩) (W : Nat) (hsize : Ls.size = c.maxLocals) (hy : y.cls ≠ "java/lang/invoke/MethodHandle" ∧ y.cls ≠ "java/lang/invoke/VarHandle") (hl : argsL.length = ps.length) (has : argsL.toArray = as)
    {st : List Value} (hst : st = argsL.reverse ++ rest) (hW : (rest.map fun v => v.category).sum ≤ W) (hf : rm.frames + 1 ≤ R.frames) (hlo : W + (maxL + 11) + rm.locals ≤ R.locals) (hc : cells + rm.cells ≤ R.cells) (hs : slots + rm.slots ≤ R.slots) :
    ∃ v T' L, Stand p l e R s m args below meth c T' (locs ++ L) (cells + rm.cells) (slots + rm.slots) ∧ Q v T'.heap L ∧
      ∀ t, Steps p.tables e below (T'.setTop (mkF m (pc + 3) Ls (v.toList ++ rest))) t → Steps p.tables e below (T.setTop (mkF m pc Ls st)) t := by
  obtain ⟨v, _, ⟨T1, L1, k1, n1⟩, -, X1, ⟨L, hQ, l1, y1, z1⟩, st1⟩ := Jvm.LawKit.callS X hx (y := y) hown (mvT hZ w1) (mvT hZ w2) (mvT hZ w3) (mvT hZ w4) hy (backOf (W := W) hM hZ w4 w3 hf hlo) (g := mkF m pc Ls st) rfl hsize (argsL := argsL) (rest := rest) (lenOf hpd hl) hst (by show 2 * 0 + _ ≤ _; rw [Nat.mul_zero, Nat.zero_add]; exact hW) hd (fun _ _ => ⟨has, eT, hc, hs⟩)
  dsimp only [Pt.U, Pt.locs, Pt.cells, Pt.slots] at X1 l1 y1 z1 st1 hQ
  subst l1 y1 z1
  exact ⟨v, T1, L, X1, hQ, st1⟩
/-- a static call of a pure body -/
theorem own_callP (X : Stand p l e R s m args below meth c T locs cells slots) (hx : p.tables.exec = Jvm.exec) (hZ : Z.Warmed39 s.vm) {own : String} {index : Nat} {y : MethodName} {bytes : ByteArray} {maxL : Nat} {ret : Option FieldType}
    (hown : s.vm.findClass own = some m.cls) (w1 : (Cond.methodLink own index y).before a0 Z = true) (w2 : (Cond.static y).before a0 Z = true) (w3 : (Cond.initialized y.cls).before a0 Z = true) (w4 : (Cond.code y bytes maxL ret).before a0 Z = true)
    {fr lc : Nat} {as : Array Value} {w : Option Value} (hM : own_C l Z y bytes maxL ret { frames := fr, cells := 0, slots := 0, locals := lc } as h (own_P h w)) (eT : T.heap = h) {pc : Nat} {Ls : Array Slot} {argsL rest : List Value} (hd : decode c.code pc = .ok (.invokestatic index, 3))
    {ps : List FieldType} {rt : Option FieldType} (hpd : parseMethodDescriptor y.desc = some ⟨ps, rt⟩) (W : Nat) (hsize : Ls.size = c.maxLocals) (hy : y.cls ≠ "java/lang/invoke/MethodHandle" ∧ y.cls ≠ "java/lang/invoke/VarHandle") (hl : argsL.length = ps.length) (has : argsL.toArray = as)
    {st : List Value} (hst : st = argsL.reverse ++ rest) (hW : (rest.map fun v => v.category).sum ≤ W) (hf : fr + 1 ≤ R.frames) (hlo : W + (maxL + 11) + lc ≤ R.locals) (hc : cells ≤ R.cells) (hs : slots ≤ R.slots) :
    ∃ T', Stand p l e R s m args below meth c T' locs cells slots ∧ T'.heap = h ∧
      ∀ t, Steps p.tables e below (T'.setTop (mkF m (pc + 3) Ls (w.toList ++ rest))) t → Steps p.tables e below (T.setTop (mkF m pc Ls st)) t := by
  obtain ⟨v, T', L, X', ⟨rfl, rfl, e'⟩, st'⟩ := own_callS X hx hZ hown w1 w2 w3 w4 hM eT hd hpd W hsize hy hl has hst hW hf hlo hc hs
  exact ⟨T', by simpa using X', e', st'⟩
/-- a constructor by its contract -/
theorem own_callI (X : Stand p l e R s m args below meth c T locs cells slots) (hx : p.tables.exec = Jvm.exec) (hZ : Z.Warmed39 s.vm) {own : String} {index : Nat} {y : MethodName} {bytes : ByteArray} {maxL : Nat} (hy1 : y.name = "<init>")
    (hown : s.vm.findClass own = some m.cls) (w1 : (Cond.methodLink own index y).before a0 Z = true) (w2 : (Cond.instanceMethod y).before a0 Z = true) (w3 : (Cond.initialized y.cls).before a0 Z = true) (w4 : (Cond.code y bytes maxL none).before a0 Z = true)
    {rm : Room} {as : Array Value} (hM : own_C l Z y bytes maxL none rm as h Q) (eT : T.heap = h) {pc : Nat} {Ls : Array Slot} {argsL rest : List Value} (hd : decode c.code pc = .ok (.invokespecial index, 3))
    {ps : List FieldType} {rt : Option FieldType} (hpd : parseMethodDescriptor y.desc = some ⟨ps, rt⟩) (W : Nat) (hsize : Ls.size = c.maxLocals) (hy : y.cls ≠ "java/lang/invoke/MethodHandle" ∧ y.cls ≠ "java/lang/invoke/VarHandle") (hl : argsL.length = ps.length) (has : (.ref a :: argsL).toArray = as)
    {st : List Value} (hst : st = argsL.reverse ++ .ref a :: rest) (hW : (rest.map fun v => v.category).sum ≤ W) (hf : rm.frames + 1 ≤ R.frames) (hlo : W + (maxL + 11) + rm.locals ≤ R.locals) (hc : cells + rm.cells ≤ R.cells) (hs : slots + rm.slots ≤ R.slots) :
    ∃ v T' L, Stand p l e R s m args below meth c T' (locs ++ L) (cells + rm.cells) (slots + rm.slots) ∧ Q v T'.heap L ∧
      ∀ t, Steps p.tables e below (T'.setTop (mkF m (pc + 3) Ls (v.toList ++ rest))) t → Steps p.tables e below (T.setTop (mkF m pc Ls st)) t := by
  obtain ⟨v, _, ⟨T1, L1, k1, n1⟩, -, X1, ⟨L, hQ, l1, y1, z1⟩, st1⟩ := X.specialBack hx (y := y) hy1 hown (mvT hZ w1) (mvT hZ w2) (mvT hZ w4) hy (backOf (W := W) hM hZ w4 w3 hf hlo) (g := mkF m pc Ls st) rfl hsize (Steps.refl _) (a := a) (argsL := argsL) (rest := rest) (lenOf hpd hl) hst (by show 2 * 0 + _ ≤ _; rw [Nat.mul_zero, Nat.zero_add]; exact hW) hd (fun _ _ => ⟨has, eT, hc, hs⟩)
  dsimp only [Pt.U, Pt.locs, Pt.cells, Pt.slots] at X1 l1 y1 z1 st1 hQ
  subst l1 y1 z1
  exact ⟨v, T1, L, X1, hQ, fun t k => st1.trans k⟩
/-- an instance method that the receiver's class selects, by its contract -/
theorem own_callV (X : Stand p l e R s m args below meth c T locs cells slots) (hx : p.tables.exec = Jvm.exec) (hZ : Z.Warmed39 s.vm) {own : String} {index : Nat} {y : MethodName} {bytes : ByteArray} {maxL : Nat} {ret : Option FieldType}
    (hown : s.vm.findClass own = some m.cls) (w1 : (Cond.methodLink own index y).before a0 Z = true) (wd : (Cond.declares y).before a0 Z = true) (ws' : (Cond.selects y.cls y y).before a0 Z = true) (w2 : (Cond.instanceMethod y).before a0 Z = true) (w3 : (Cond.initialized y.cls).before a0 Z = true) (w4 : (Cond.code y bytes maxL ret).before a0 Z = true)
    {rm : Room} {as : Array Value} (hM : own_C l Z y bytes maxL ret rm as h Q) (eT : T.heap = h) (hE : Exa Z h a y.cls) {pc : Nat} {Ls : Array Slot} {argsL rest : List Value} (hd : decode c.code pc = .ok (.invokevirtual index, 3))
    {ps : List FieldType} {rt : Option FieldType} (hpd : parseMethodDescriptor y.desc = some ⟨ps, rt⟩) (W : Nat) (hsize : Ls.size = c.maxLocals) (hy : y.cls ≠ "java/lang/invoke/MethodHandle" ∧ y.cls ≠ "java/lang/invoke/VarHandle") (hl : argsL.length = ps.length) (has : (.ref a :: argsL).toArray = as)
    {st : List Value} (hst : st = argsL.reverse ++ .ref a :: rest) (hW : (rest.map fun v => v.category).sum ≤ W) (hf : rm.frames + 1 ≤ R.frames) (hlo : W + (maxL + 11) + rm.locals ≤ R.locals) (hc : cells + rm.cells ≤ R.cells) (hs : slots + rm.slots ≤ R.slots) :
    ∃ v T' L, Stand p l e R s m args below meth c T' (locs ++ L) (cells + rm.cells) (slots + rm.slots) ∧ Q v T'.heap L ∧
      ∀ t, Steps p.tables e below (T'.setTop (mkF m (pc + 3) Ls (v.toList ++ rest))) t → Steps p.tables e below (T.setTop (mkF m pc Ls st)) t := by
  obtain ⟨cq, kq, qa, qb, qc⟩ := isOf hZ eT hE
  obtain ⟨v, _, ⟨T1, L1, k1, n1⟩, -, X1, ⟨L, hQ, l1, y1, z1⟩, st1⟩ := X.virtualBack hx (y := y) (z := y) hown (mvT hZ w1) (mvT hZ wd) (notFace_of_selects (args := #[]) (mvT hZ ws')) (mvT hZ ws') (mvT hZ w2) hy (backOf (W := W) hM hZ w4 w3 hf hlo) qa qc (g := mkF m pc Ls st) rfl hsize (Steps.refl _) (argsL := argsL) (rest := rest) (lenOf hpd hl) hst (by show 2 * 0 + _ ≤ _; rw [Nat.mul_zero, Nat.zero_add]; exact hW) hd (fun _ _ => ⟨has, eT, hc, hs⟩)
  dsimp only [Pt.U, Pt.locs, Pt.cells, Pt.slots] at X1 l1 y1 z1 st1 hQ
  subst l1 y1 z1
  exact ⟨v, T1, L, X1, hQ, fun t k => st1.trans k⟩
/-- a private method by its contract -/
theorem own_callPr (X : Stand p l e R s m args below meth c T locs cells slots) (hx : p.tables.exec = Jvm.exec) (hZ : Z.Warmed39 s.vm) {own : String} {index kk : Nat} {y : MethodName} {bytes : ByteArray} {maxL : Nat} {ret : Option FieldType}
    (hown : s.vm.findClass own = some m.cls) (w1 : (Cond.methodLink own index y).before a0 Z = true) (wp : (Cond.privateMethod y).before a0 Z = true) (wi : (Cond.instantiable y.cls kk).before a0 Z = true) (w2 : (Cond.instanceMethod y).before a0 Z = true) (w3 : (Cond.initialized y.cls).before a0 Z = true) (w4 : (Cond.code y bytes maxL ret).before a0 Z = true)
    {rm : Room} {as : Array Value} (hM : own_C l Z y bytes maxL ret rm as h Q) (eT : T.heap = h) (hE : Exa Z h a y.cls) {pc : Nat} {Ls : Array Slot} {argsL rest : List Value} (hd : decode c.code pc = .ok (.invokevirtual index, 3))
    {ps : List FieldType} {rt : Option FieldType} (hpd : parseMethodDescriptor y.desc = some ⟨ps, rt⟩) (W : Nat) (hsize : Ls.size = c.maxLocals) (hy : y.cls ≠ "java/lang/invoke/MethodHandle" ∧ y.cls ≠ "java/lang/invoke/VarHandle") (hl : argsL.length = ps.length) (has : (.ref a :: argsL).toArray = as)
    {st : List Value} (hst : st = argsL.reverse ++ .ref a :: rest) (hW : (rest.map fun v => v.category).sum ≤ W) (hf : rm.frames + 1 ≤ R.frames) (hlo : W + (maxL + 11) + rm.locals ≤ R.locals) (hc : cells + rm.cells ≤ R.cells) (hs : slots + rm.slots ≤ R.slots) :
    ∃ v T' L, Stand p l e R s m args below meth c T' (locs ++ L) (cells + rm.cells) (slots + rm.slots) ∧ Q v T'.heap L ∧
      ∀ t, Steps p.tables e below (T'.setTop (mkF m (pc + 3) Ls (v.toList ++ rest))) t → Steps p.tables e below (T.setTop (mkF m pc Ls st)) t := by
  obtain ⟨cq, q1, q2⟩ := hE.cell
  have hpr : s.PrivateAt y := Cond.privateMethod_at (mvP hZ wp (args := #[]))
  have hsel : (Cond.selects y.cls y y).before args s = true := by
    obtain ⟨ci, ki, hci, hki, -, hniab, -, -⟩ := Cond.instantiable_spec (mvT (args := args) hZ wi)
    exact selects_self_of_private hci hki (Bool.or_eq_false_iff.mp hniab).1 hpr (mvT hZ w2) hy
  obtain ⟨v, _, ⟨T1, L1, k1, n1⟩, -, X1, ⟨L, hQ, l1, y1, z1⟩, st1⟩ := X.privateBack hx (y := y) hown (mvT hZ w1) (mvT hZ w2) hsel hpr (mvT hZ w4) hy (backOf (W := W) hM hZ w4 w3 hf hlo) (g := mkF m pc Ls st) rfl hsize (Steps.refl _) (a := a) (by rw [eT]; exact q1) q2 (argsL := argsL) (rest := rest) (lenOf hpd hl) hst (by show 2 * 0 + _ ≤ _; rw [Nat.mul_zero, Nat.zero_add]; exact hW) hd (fun _ _ => ⟨has, eT, hc, hs⟩)
  dsimp only [Pt.U, Pt.locs, Pt.cells, Pt.slots] at X1 l1 y1 z1 st1 hQ
  subst l1 y1 z1
  exact ⟨v, T1, L, X1, hQ, fun t k => st1.trans k⟩
end OwnWalk
theorem pd_0 : parseMethodDescriptor "([III)V" = some ⟨[(.array .int), .int, .int], none⟩ := by decide +kernel
theorem pd_1 : parseMethodDescriptor "(Ljava/util/DualPivotQuicksort$Sorter;[IIII)V" = some ⟨[(.object "java/util/DualPivotQuicksort$Sorter"), (.array .int), .int, .int, .int], none⟩ := by decide +kernel
theorem pd_2 : parseMethodDescriptor "([IIII)V" = some ⟨[(.array .int), .int, .int, .int], none⟩ := by decide +kernel
theorem pd_3 : parseMethodDescriptor "([I)V" = some ⟨[(.array .int)], none⟩ := by decide +kernel
theorem pd_4 : parseMethodDescriptor "(I)I" = some ⟨[.int], some .int⟩ := by decide +kernel
theorem pd_5 : parseMethodDescriptor "([BB)V" = some ⟨[(.array .byte), .byte], none⟩ := by decide +kernel
theorem pd_6 : parseMethodDescriptor "([BIIIIIBI)Z" = some ⟨[(.array .byte), .int, .int, .int, .int, .int, .byte, .int], some .boolean⟩ := by decide +kernel
/-! insertion into a sorted list, in plain words -/
theorem own_succ (i : Nat) : Int32.ofNat i + (1 : Int32) = Int32.ofNat (i + 1) := Int32.ofNat_succ i
theorem own_ofNat_toInt {i : Nat} (h : i < 2 ^ 31) : (Int32.ofNat i).toInt = i := Int32.toInt_ofNat_small h
theorem own_clamp {i : Nat} (h1 : i < 2 ^ 31) : (Int32.ofNat i).toNatClampNeg = i := by
  simp only [Int32.toNatClampNeg, own_ofNat_toInt h1]; rfl
theorem own_ofNat_nneg {i : Nat} (h1 : i < 2 ^ 31) : ¬ Int32.ofNat i < 0 := own_nneg (by rw [own_ofNat_toInt h1]; omega)
theorem own_ofNat_lt {i n : Nat} (h1 : i < 2 ^ 31) (h2 : n < 2 ^ 31) : Int32.ofNat i < Int32.ofNat n ↔ i < n := by
  rw [Int32.lt_iff_toInt_lt, own_ofNat_toInt h1, own_ofNat_toInt h2]; omega
theorem own_pred (i : Nat) : Int32.ofNat (i + 1) + (-1 : Int32) = Int32.ofNat i := by
  rw [← own_succ, Int32.add_assoc]
  have e : (1 : Int32) + (-1 : Int32) = 0 := by decide
  rw [e, Int32.add_zero]
theorem own_pred' (i : Nat) : Int32.ofNat (i + 1) - (1 : Int32) = Int32.ofNat i := by
  rw [← own_succ]; exact Int32.add_sub_cancel _ _
theorem own_g0 (S : List Int32) (y : Int32) (T : List Int32) : (List.map Value.int (S ++ y :: T))[S.length]? = some (.int y) := by simp
theorem own_g1 (S : List Int32) (y x : Int32) (T : List Int32) : (List.map Value.int (S ++ y :: x :: T))[S.length + 1]? = some (.int x) := by simp
theorem own_l0 (S : List Int32) (y : Int32) (T : List Int32) : S.length < (List.map Value.int (S ++ y :: T)).length := by simp
theorem own_l1 (S : List Int32) (y x : Int32) (T : List Int32) : S.length + 1 < (List.map Value.int (S ++ y :: x :: T)).length := by simp
theorem own_s1 (S : List Int32) (y x z : Int32) (T : List Int32) : (List.map Value.int (S ++ y :: x :: T)).set (S.length + 1) (.int z) = List.map Value.int (S ++ y :: z :: T) := by
  induction S with
  | nil => rfl
  | cons k S ih => simp only [List.cons_append, List.map_cons, List.length_cons, List.set_cons_succ, ih]
theorem own_s0 (x z : Int32) (T : List Int32) : (List.map Value.int (x :: T)).set 0 (.int z) = List.map Value.int (z :: T) := rfl
abbrev own_sorted (ys : List Int32) : Prop := ys.Pairwise (fun x y => x.toInt ≤ y.toInt)
theorem own_ins0 {ai : Int32} {M : List Int32} (h1 : own_sorted M) (h2 : ∀ y ∈ M, ai.toInt < y.toInt) : own_sorted (ai :: M) :=
  List.pairwise_cons.mpr ⟨fun y hy => Int.le_of_lt (h2 y hy), h1⟩
theorem own_ins1 {L M : List Int32} {y ai : Int32} (h1 : own_sorted ((L ++ [y]) ++ M)) (h2 : ∀ z ∈ M, ai.toInt < z.toInt) (h3 : y.toInt ≤ ai.toInt) : own_sorted (L ++ y :: ai :: M) := by
  simp only [own_sorted, List.pairwise_append, List.pairwise_cons, List.mem_append, List.mem_cons, List.mem_singleton, List.not_mem_nil, or_false, forall_eq] at h1 ⊢
  obtain ⟨⟨a1, a2, a3⟩, a4, a5⟩ := h1
  refine ⟨a1, ⟨?_, fun z hz => Int.le_of_lt (h2 z hz), a4⟩, fun x hx z hz => ?_⟩
  · rintro z (rfl | hz)
    · exact h3
    · exact a5 y (Or.inr rfl) z hz
  · rcases hz with rfl | rfl | hz
    · exact a3 x hx
    · exact Int.le_trans (a3 x hx) h3
    · exact a5 x (Or.inl hx) z hz
theorem own_perm1 (L M : List Int32) (y ai : Int32) : (L ++ y :: ai :: M).Perm (ai :: ((L ++ [y]) ++ M)) := by
  have : L ++ y :: ai :: M = (L ++ [y]) ++ ai :: M := by simp
  rw [this]; exact List.perm_middle
theorem own_snoc {S : List Int32} {y x : Int32} (h1 : own_sorted (S ++ [y])) (h : y.toInt ≤ x.toInt) : own_sorted ((S ++ [y]) ++ [x]) := by
  have := own_ins1 (L := S) (M := []) (ai := x) (by simpa using h1) (fun z hz => nomatch hz) h
  simpa using this
theorem d7_0 : decode jdk_2529_method_6_code 0 = .ok (.iload_n 1, 1) := by decide +kernel
theorem d7_1 : decode jdk_2529_method_6_code 1 = .ok (.istore 4, 2) := by decide +kernel
theorem d7_3 : decode jdk_2529_method_6_code 3 = .ok (.iinc 4 1, 3) := by decide +kernel
theorem d7_6 : decode jdk_2529_method_6_code 6 = .ok (.iload 4, 2) := by decide +kernel
theorem d7_8 : decode jdk_2529_method_6_code 8 = .ok (.iload_n 2, 1) := by decide +kernel
theorem d7_9 : decode jdk_2529_method_6_code 9 = .ok (.if_icmp .ge 58, 3) := by decide +kernel
theorem d7_12 : decode jdk_2529_method_6_code 12 = .ok (.aload_n 0, 1) := by decide +kernel
theorem d7_13 : decode jdk_2529_method_6_code 13 = .ok (.iload 4, 2) := by decide +kernel
theorem d7_15 : decode jdk_2529_method_6_code 15 = .ok (.dup, 1) := by decide +kernel
theorem d7_16 : decode jdk_2529_method_6_code 16 = .ok (.istore_n 3, 1) := by decide +kernel
theorem d7_17 : decode jdk_2529_method_6_code 17 = .ok (.iaload, 1) := by decide +kernel
theorem d7_18 : decode jdk_2529_method_6_code 18 = .ok (.istore 5, 2) := by decide +kernel
theorem d7_20 : decode jdk_2529_method_6_code 20 = .ok (.iload 5, 2) := by decide +kernel
theorem d7_22 : decode jdk_2529_method_6_code 22 = .ok (.aload_n 0, 1) := by decide +kernel
theorem d7_23 : decode jdk_2529_method_6_code 23 = .ok (.iload_n 3, 1) := by decide +kernel
theorem d7_24 : decode jdk_2529_method_6_code 24 = .ok (.iconst 1, 1) := by decide +kernel
theorem d7_25 : decode jdk_2529_method_6_code 25 = .ok (.isub, 1) := by decide +kernel
theorem d7_26 : decode jdk_2529_method_6_code 26 = .ok (.iaload, 1) := by decide +kernel
theorem d7_27 : decode jdk_2529_method_6_code 27 = .ok (.if_icmp .ge 37, 3) := by decide +kernel
theorem d7_30 : decode jdk_2529_method_6_code 30 = .ok (.iinc 3 (-1), 3) := by decide +kernel
theorem d7_33 : decode jdk_2529_method_6_code 33 = .ok (.iload_n 3, 1) := by decide +kernel
theorem d7_34 : decode jdk_2529_method_6_code 34 = .ok (.iload_n 1, 1) := by decide +kernel
theorem d7_35 : decode jdk_2529_method_6_code 35 = .ok (.if_icmp .lt 22, 3) := by decide +kernel
theorem d7_38 : decode jdk_2529_method_6_code 38 = .ok (.iload 5, 2) := by decide +kernel
theorem d7_40 : decode jdk_2529_method_6_code 40 = .ok (.aload_n 0, 1) := by decide +kernel
theorem d7_41 : decode jdk_2529_method_6_code 41 = .ok (.iload_n 3, 1) := by decide +kernel
theorem d7_42 : decode jdk_2529_method_6_code 42 = .ok (.iaload, 1) := by decide +kernel
theorem d7_43 : decode jdk_2529_method_6_code 43 = .ok (.if_icmp .ge 14, 3) := by decide +kernel
theorem d7_46 : decode jdk_2529_method_6_code 46 = .ok (.aload_n 0, 1) := by decide +kernel
theorem d7_47 : decode jdk_2529_method_6_code 47 = .ok (.iload_n 3, 1) := by decide +kernel
theorem d7_48 : decode jdk_2529_method_6_code 48 = .ok (.iconst 1, 1) := by decide +kernel
theorem d7_49 : decode jdk_2529_method_6_code 49 = .ok (.iadd, 1) := by decide +kernel
theorem d7_50 : decode jdk_2529_method_6_code 50 = .ok (.aload_n 0, 1) := by decide +kernel
theorem d7_51 : decode jdk_2529_method_6_code 51 = .ok (.iload_n 3, 1) := by decide +kernel
theorem d7_52 : decode jdk_2529_method_6_code 52 = .ok (.iaload, 1) := by decide +kernel
theorem d7_53 : decode jdk_2529_method_6_code 53 = .ok (.iastore, 1) := by decide +kernel
theorem d7_54 : decode jdk_2529_method_6_code 54 = .ok (.goto (-24), 3) := by decide +kernel
theorem d7_57 : decode jdk_2529_method_6_code 57 = .ok (.aload_n 0, 1) := by decide +kernel
theorem d7_58 : decode jdk_2529_method_6_code 58 = .ok (.iload_n 3, 1) := by decide +kernel
theorem d7_59 : decode jdk_2529_method_6_code 59 = .ok (.iconst 1, 1) := by decide +kernel
theorem d7_60 : decode jdk_2529_method_6_code 60 = .ok (.iadd, 1) := by decide +kernel
theorem d7_61 : decode jdk_2529_method_6_code 61 = .ok (.iload 5, 2) := by decide +kernel
theorem d7_63 : decode jdk_2529_method_6_code 63 = .ok (.iastore, 1) := by decide +kernel
theorem d7_64 : decode jdk_2529_method_6_code 64 = .ok (.goto (-61), 3) := by decide +kernel
theorem d7_67 : decode jdk_2529_method_6_code 67 = .ok (.return_, 1) := by decide +kernel
set_option maxRecDepth 65536 in
set_option maxHeartbeats 40000000 in
theorem w7_30 {p : Program} {l : Launch} {e : Env} {s : State} {m : MethodId} {args : Array Value} {below : List Frame} {meth : Method} {c : Code} {Z : State} {a0 : Array Value} {h0 : Heap} {Q : Option Value → Heap → List Loc → Prop} {a : Addr} {n0 : Nat} {nn kk ai : Int32} {S R : List Int32} (hx : p.tables.exec = Jvm.exec) (hby : c.code = jdk_2529_method_6_code) (hml : c.maxLocals = 6) (hret : meth.sig.returnType = none) (hlk : meth.locks = false) (hown : s.vm.findClass "java/util/DualPivotQuicksort" = some m.cls) (hZ : Z.Warmed39 s.vm) (hw : ∀ d ∈ tables_1, d.before a0 Z = true) (ga : n0 ≤ a) (hS : own_sorted S) (hS31 : S.length < 2 ^ 31) (Hout : ∀ (T : State) (h : Heap) (locs : List Loc) (z : Int32) (zs : List Int32), Stand p l e ({ frames := 0, cells := 0, slots := 0, locals := 0 } : Room) s m args below meth c T locs 0 0 → T.heap = h → own_L Z h a .int (List.map Value.int (zs ++ R)) → Keep h0 h [a] → Fr n0 locs → own_sorted zs → zs.Perm (ai :: S) → own_End p e below s Q 0 0 (T.setTop (mkF m 64 #[.val (.ref a), .val (.int (0 : Int32)), .val (.int nn), .val (.int z), .val (.int kk), .val (.int ai)] []))) :
    ∀ (q : Nat) (L M : List Int32) (w : Int32) (T0 : State) (h : Heap) (locs : List Loc), L.length = q → L ++ M = S → (∀ y ∈ M, ai.toInt < y.toInt) → Stand p l e ({ frames := 0, cells := 0, slots := 0, locals := 0 } : Room) s m args below meth c T0 locs 0 0 → T0.heap = h → own_L Z h a .int (List.map Value.int (L ++ w :: (M ++ R))) → Keep h0 h [a] → Fr n0 locs → own_End p e below s Q 0 0 (T0.setTop (mkF m 30 #[.val (.ref a), .val (.int (0 : Int32)), .val (.int nn), .val (.int (Int32.ofNat q)), .val (.int kk), .val (.int ai)] [])) := by
  intro q
  induction q with
  | zero =>
    intro L M w T0 h locs hq hLM hM X0 e0 A K N0
    obtain rfl : L = [] := List.length_eq_zero_iff.mp hq
    simp only [List.nil_append] at hLM
    subst hLM
    refine own_go (S' := (T0.setTop (mkF m 33 #[.val (.ref a), .val (.int (0 : Int32)), .val (.int nn), .val (.int ((Int32.ofNat 0) + (-1 : Int32))), .val (.int kk), .val (.int ai)] []))) (fun τ κ => XT.iincV X0.here hx rfl (-1 : Int32) (hb hby d7_30) (by decide) rfl (l' := #[.val (.ref a), .val (.int (0 : Int32)), .val (.int nn), .val (.int ((Int32.ofNat 0) + (-1 : Int32))), .val (.int kk), .val (.int ai)]) rfl κ) ?_
    rw [show Int32.ofNat 0 + (-1 : Int32) = (-1 : Int32) from by decide]
    refine own_go (S' := (T0.setTop (mkF m 34 #[.val (.ref a), .val (.int (0 : Int32)), .val (.int nn), .val (.int (-1 : Int32)), .val (.int kk), .val (.int ai)] [(.int (-1 : Int32))]))) (fun τ κ => XS.iloadN X0.here hx rfl (hb hby d7_33) rfl κ) ?_
    refine own_go (S' := (T0.setTop (mkF m 35 #[.val (.ref a), .val (.int (0 : Int32)), .val (.int nn), .val (.int (-1 : Int32)), .val (.int kk), .val (.int ai)] [(.int (0 : Int32)), (.int (-1 : Int32))]))) (fun τ κ => XS.iloadN X0.here hx rfl (hb hby d7_34) rfl κ) ?_
    refine own_go (S' := (T0.setTop (mkF m 57 #[.val (.ref a), .val (.int (0 : Int32)), .val (.int nn), .val (.int (-1 : Int32)), .val (.int kk), .val (.int ai)] []))) (fun τ κ => XS.icmpYes X0.here hx rfl (pc0 := 35) (pc' := 57) rfl (hb hby d7_35) rfl (tlt (by decide)).1 (by decide) (by decide) κ) ?_
    refine own_go (S' := (T0.setTop (mkF m 58 #[.val (.ref a), .val (.int (0 : Int32)), .val (.int nn), .val (.int (-1 : Int32)), .val (.int kk), .val (.int ai)] [(.ref a)]))) (fun τ κ => XS.aloadN X0.here hx rfl (hb hby d7_57) rfl rfl κ) ?_
    refine own_go (S' := (T0.setTop (mkF m 59 #[.val (.ref a), .val (.int (0 : Int32)), .val (.int nn), .val (.int (-1 : Int32)), .val (.int kk), .val (.int ai)] [(.int (-1 : Int32)), (.ref a)]))) (fun τ κ => XS.iloadN X0.here hx rfl (hb hby d7_58) rfl κ) ?_
    refine own_go (S' := (T0.setTop (mkF m 60 #[.val (.ref a), .val (.int (0 : Int32)), .val (.int nn), .val (.int (-1 : Int32)), .val (.int kk), .val (.int ai)] [(.int (1 : Int32)), (.int (-1 : Int32)), (.ref a)]))) (fun τ κ => XT.iconstV X0.here hx rfl (1 : Int32) (hb hby d7_59) (by decide) κ) ?_
    refine own_go (S' := (T0.setTop (mkF m 61 #[.val (.ref a), .val (.int (0 : Int32)), .val (.int nn), .val (.int (-1 : Int32)), .val (.int kk), .val (.int ai)] [(.int (0 : Int32)), (.ref a)]))) (fun τ κ => XS.iadd X0.here hx rfl (hb hby d7_60) rfl κ) ?_
    refine own_go (S' := (T0.setTop (mkF m 63 #[.val (.ref a), .val (.int (0 : Int32)), .val (.int nn), .val (.int (-1 : Int32)), .val (.int kk), .val (.int ai)] [(.int ai), (.int (0 : Int32)), (.ref a)]))) (fun τ κ => XS.iload X0.here hx rfl (hb hby d7_61) rfl κ) ?_
    obtain ⟨T1, h1, X1, e1, W1, B1, st1⟩ := own_iastore (j := (0 : Int32)) (x := ai) (Ls := #[.val (.ref a), .val (.int (0 : Int32)), .val (.int nn), .val (.int (-1 : Int32)), .val (.int kk), .val (.int ai)]) (rest := []) A X0 hx hZ e0 (by decide) (i := 0) (by decide) (by simp) (hb hby d7_63)
    replace A := B1
    have N1 := Fr.snoc X1 N0 ga
    replace K := K.wr W1 (Or.inl (by simp))
    refine own_go (S' := (T1.setTop (mkF m 64 #[.val (.ref a), .val (.int (0 : Int32)), .val (.int nn), .val (.int (-1 : Int32)), .val (.int kk), .val (.int ai)] []))) st1 ?_
    exact Hout T1 _ _ _ (ai :: M) X1 e1 (A.eq (by rw [List.nil_append]; exact own_s0 w ai (M ++ R))) K N1 (own_ins0 hS hM) (List.Perm.refl _)
  | succ q ih =>
    intro L M w T0 h locs hq hLM hM X0 e0 A K N0
    obtain ⟨L', y, rfl⟩ : ∃ L' y, L = L' ++ [y] := by
      rcases List.eq_nil_or_concat L with rfl | ⟨L', y, rfl⟩
      · cases hq
      · exact ⟨L', y, by simp⟩
    have hq' : L'.length = q := by simpa using hq
    subst hq'
    have e1 : (L' ++ [y]) ++ w :: (M ++ R) = L' ++ y :: w :: (M ++ R) := by simp
    rw [e1] at A
    have h31 : L'.length + 1 < 2 ^ 31 := by have := congrArg List.length hLM; simp at this; omega
    have hnl : ¬ Int32.ofNat L'.length < (0 : Int32) := own_ofNat_nneg (by omega)
    by_cases hc : ai < y
    · have hay : ai.toInt < y.toInt := Int32.lt_iff_toInt_lt.mp hc
      refine own_go (S' := (T0.setTop (mkF m 33 #[.val (.ref a), .val (.int (0 : Int32)), .val (.int nn), .val (.int ((Int32.ofNat (L'.length + 1)) + (-1 : Int32))), .val (.int kk), .val (.int ai)] []))) (fun τ κ => XT.iincV X0.here hx rfl (-1 : Int32) (hb hby d7_30) (by decide) rfl (l' := #[.val (.ref a), .val (.int (0 : Int32)), .val (.int nn), .val (.int ((Int32.ofNat (L'.length + 1)) + (-1 : Int32))), .val (.int kk), .val (.int ai)]) rfl κ) ?_
      rw [own_pred]
      refine own_go (S' := (T0.setTop (mkF m 34 #[.val (.ref a), .val (.int (0 : Int32)), .val (.int nn), .val (.int (Int32.ofNat L'.length)), .val (.int kk), .val (.int ai)] [(.int (Int32.ofNat L'.length))]))) (fun τ κ => XS.iloadN X0.here hx rfl (hb hby d7_33) rfl κ) ?_
      refine own_go (S' := (T0.setTop (mkF m 35 #[.val (.ref a), .val (.int (0 : Int32)), .val (.int nn), .val (.int (Int32.ofNat L'.length)), .val (.int kk), .val (.int ai)] [(.int (0 : Int32)), (.int (Int32.ofNat L'.length))]))) (fun τ κ => XS.iloadN X0.here hx rfl (hb hby d7_34) rfl κ) ?_
      refine own_go (S' := (T0.setTop (mkF m 38 #[.val (.ref a), .val (.int (0 : Int32)), .val (.int nn), .val (.int (Int32.ofNat L'.length)), .val (.int kk), .val (.int ai)] []))) (fun τ κ => XS.icmpNo X0.here hx rfl (hb hby d7_35) rfl (flt hnl).1 κ) ?_
      refine own_go (S' := (T0.setTop (mkF m 40 #[.val (.ref a), .val (.int (0 : Int32)), .val (.int nn), .val (.int (Int32.ofNat L'.length)), .val (.int kk), .val (.int ai)] [(.int ai)]))) (fun τ κ => XS.iload X0.here hx rfl (hb hby d7_38) rfl κ) ?_
      refine own_go (S' := (T0.setTop (mkF m 41 #[.val (.ref a), .val (.int (0 : Int32)), .val (.int nn), .val (.int (Int32.ofNat L'.length)), .val (.int kk), .val (.int ai)] [(.ref a), (.int ai)]))) (fun τ κ => XS.aloadN X0.here hx rfl (hb hby d7_40) rfl rfl κ) ?_
      refine own_go (S' := (T0.setTop (mkF m 42 #[.val (.ref a), .val (.int (0 : Int32)), .val (.int nn), .val (.int (Int32.ofNat L'.length)), .val (.int kk), .val (.int ai)] [(.int (Int32.ofNat L'.length)), (.ref a), (.int ai)]))) (fun τ κ => XS.iloadN X0.here hx rfl (hb hby d7_41) rfl κ) ?_
      refine own_go (S' := (T0.setTop (mkF m 43 #[.val (.ref a), .val (.int (0 : Int32)), .val (.int nn), .val (.int (Int32.ofNat L'.length)), .val (.int kk), .val (.int ai)] [(.int y), (.int ai)]))) (own_iaload (j := (Int32.ofNat L'.length)) (v := (.int y)) A X0 hx hZ e0 hnl (i := L'.length) (own_clamp (by omega)) (own_l0 L' y _) (own_g0 L' y _) (hb hby d7_42)) ?_
      refine own_go (S' := (T0.setTop (mkF m 46 #[.val (.ref a), .val (.int (0 : Int32)), .val (.int nn), .val (.int (Int32.ofNat L'.length)), .val (.int kk), .val (.int ai)] []))) (fun τ κ => XS.icmpNo X0.here hx rfl (hb hby d7_43) rfl (tlt hc).2.1 κ) ?_
      refine own_go (S' := (T0.setTop (mkF m 47 #[.val (.ref a), .val (.int (0 : Int32)), .val (.int nn), .val (.int (Int32.ofNat L'.length)), .val (.int kk), .val (.int ai)] [(.ref a)]))) (fun τ κ => XS.aloadN X0.here hx rfl (hb hby d7_46) rfl rfl κ) ?_
      refine own_go (S' := (T0.setTop (mkF m 48 #[.val (.ref a), .val (.int (0 : Int32)), .val (.int nn), .val (.int (Int32.ofNat L'.length)), .val (.int kk), .val (.int ai)] [(.int (Int32.ofNat L'.length)), (.ref a)]))) (fun τ κ => XS.iloadN X0.here hx rfl (hb hby d7_47) rfl κ) ?_
      refine own_go (S' := (T0.setTop (mkF m 49 #[.val (.ref a), .val (.int (0 : Int32)), .val (.int nn), .val (.int (Int32.ofNat L'.length)), .val (.int kk), .val (.int ai)] [(.int (1 : Int32)), (.int (Int32.ofNat L'.length)), (.ref a)]))) (fun τ κ => XT.iconstV X0.here hx rfl (1 : Int32) (hb hby d7_48) (by decide) κ) ?_
      refine own_go (S' := (T0.setTop (mkF m 50 #[.val (.ref a), .val (.int (0 : Int32)), .val (.int nn), .val (.int (Int32.ofNat L'.length)), .val (.int kk), .val (.int ai)] [(.int ((Int32.ofNat L'.length) + (1 : Int32))), (.ref a)]))) (fun τ κ => XS.iadd X0.here hx rfl (hb hby d7_49) rfl κ) ?_
      refine own_go (S' := (T0.setTop (mkF m 51 #[.val (.ref a), .val (.int (0 : Int32)), .val (.int nn), .val (.int (Int32.ofNat L'.length)), .val (.int kk), .val (.int ai)] [(.ref a), (.int ((Int32.ofNat L'.length) + (1 : Int32))), (.ref a)]))) (fun τ κ => XS.aloadN X0.here hx rfl (hb hby d7_50) rfl rfl κ) ?_
      refine own_go (S' := (T0.setTop (mkF m 52 #[.val (.ref a), .val (.int (0 : Int32)), .val (.int nn), .val (.int (Int32.ofNat L'.length)), .val (.int kk), .val (.int ai)] [(.int (Int32.ofNat L'.length)), (.ref a), (.int ((Int32.ofNat L'.length) + (1 : Int32))), (.ref a)]))) (fun τ κ => XS.iloadN X0.here hx rfl (hb hby d7_51) rfl κ) ?_
      refine own_go (S' := (T0.setTop (mkF m 53 #[.val (.ref a), .val (.int (0 : Int32)), .val (.int nn), .val (.int (Int32.ofNat L'.length)), .val (.int kk), .val (.int ai)] [(.int y), (.int ((Int32.ofNat L'.length) + (1 : Int32))), (.ref a)]))) (own_iaload (j := (Int32.ofNat L'.length)) (v := (.int y)) A X0 hx hZ e0 hnl (i := L'.length) (own_clamp (by omega)) (own_l0 L' y _) (own_g0 L' y _) (hb hby d7_52)) ?_
      obtain ⟨T2, h2, X2, e2, W2, B2, st2⟩ := own_iastore (j := ((Int32.ofNat L'.length) + (1 : Int32))) (x := y) (Ls := #[.val (.ref a), .val (.int (0 : Int32)), .val (.int nn), .val (.int (Int32.ofNat L'.length)), .val (.int kk), .val (.int ai)]) (rest := []) A X0 hx hZ e0 (by rw [own_succ]; exact own_ofNat_nneg h31) (i := (L'.length + 1)) (by rw [own_succ]; exact own_clamp h31) (own_l1 L' y _ _) (hb hby d7_53)
      replace A := B2
      have N2 := Fr.snoc X2 N0 ga
      replace K := K.wr W2 (Or.inl (by simp))
      refine own_go (S' := (T2.setTop (mkF m 54 #[.val (.ref a), .val (.int (0 : Int32)), .val (.int nn), .val (.int (Int32.ofNat L'.length)), .val (.int kk), .val (.int ai)] []))) st2 ?_
      refine own_go (S' := (T2.setTop (mkF m 30 #[.val (.ref a), .val (.int (0 : Int32)), .val (.int nn), .val (.int (Int32.ofNat L'.length)), .val (.int kk), .val (.int ai)] []))) (fun τ κ => XS.goto X2.here hx rfl (pc0 := 54) (pc' := 30) rfl (hb hby d7_54) (by decide) (by decide) κ) ?_
      exact ih L' (y :: M) y T2 _ _ rfl (by rw [← hLM]; simp) (fun z hz => (List.mem_cons.mp hz).elim (fun u => u ▸ hay) (hM z)) X2 e2 (A.eq (by rw [own_s1]; rfl)) K N2
    · have hya : y.toInt ≤ ai.toInt := by rw [Int32.lt_iff_toInt_lt] at hc; omega
      refine own_go (S' := (T0.setTop (mkF m 33 #[.val (.ref a), .val (.int (0 : Int32)), .val (.int nn), .val (.int ((Int32.ofNat (L'.length + 1)) + (-1 : Int32))), .val (.int kk), .val (.int ai)] []))) (fun τ κ => XT.iincV X0.here hx rfl (-1 : Int32) (hb hby d7_30) (by decide) rfl (l' := #[.val (.ref a), .val (.int (0 : Int32)), .val (.int nn), .val (.int ((Int32.ofNat (L'.length + 1)) + (-1 : Int32))), .val (.int kk), .val (.int ai)]) rfl κ) ?_
      rw [own_pred]
      refine own_go (S' := (T0.setTop (mkF m 34 #[.val (.ref a), .val (.int (0 : Int32)), .val (.int nn), .val (.int (Int32.ofNat L'.length)), .val (.int kk), .val (.int ai)] [(.int (Int32.ofNat L'.length))]))) (fun τ κ => XS.iloadN X0.here hx rfl (hb hby d7_33) rfl κ) ?_
      refine own_go (S' := (T0.setTop (mkF m 35 #[.val (.ref a), .val (.int (0 : Int32)), .val (.int nn), .val (.int (Int32.ofNat L'.length)), .val (.int kk), .val (.int ai)] [(.int (0 : Int32)), (.int (Int32.ofNat L'.length))]))) (fun τ κ => XS.iloadN X0.here hx rfl (hb hby d7_34) rfl κ) ?_
      refine own_go (S' := (T0.setTop (mkF m 38 #[.val (.ref a), .val (.int (0 : Int32)), .val (.int nn), .val (.int (Int32.ofNat L'.length)), .val (.int kk), .val (.int ai)] []))) (fun τ κ => XS.icmpNo X0.here hx rfl (hb hby d7_35) rfl (flt hnl).1 κ) ?_
      refine own_go (S' := (T0.setTop (mkF m 40 #[.val (.ref a), .val (.int (0 : Int32)), .val (.int nn), .val (.int (Int32.ofNat L'.length)), .val (.int kk), .val (.int ai)] [(.int ai)]))) (fun τ κ => XS.iload X0.here hx rfl (hb hby d7_38) rfl κ) ?_
      refine own_go (S' := (T0.setTop (mkF m 41 #[.val (.ref a), .val (.int (0 : Int32)), .val (.int nn), .val (.int (Int32.ofNat L'.length)), .val (.int kk), .val (.int ai)] [(.ref a), (.int ai)]))) (fun τ κ => XS.aloadN X0.here hx rfl (hb hby d7_40) rfl rfl κ) ?_
      refine own_go (S' := (T0.setTop (mkF m 42 #[.val (.ref a), .val (.int (0 : Int32)), .val (.int nn), .val (.int (Int32.ofNat L'.length)), .val (.int kk), .val (.int ai)] [(.int (Int32.ofNat L'.length)), (.ref a), (.int ai)]))) (fun τ κ => XS.iloadN X0.here hx rfl (hb hby d7_41) rfl κ) ?_
      refine own_go (S' := (T0.setTop (mkF m 43 #[.val (.ref a), .val (.int (0 : Int32)), .val (.int nn), .val (.int (Int32.ofNat L'.length)), .val (.int kk), .val (.int ai)] [(.int y), (.int ai)]))) (own_iaload (j := (Int32.ofNat L'.length)) (v := (.int y)) A X0 hx hZ e0 hnl (i := L'.length) (own_clamp (by omega)) (own_l0 L' y _) (own_g0 L' y _) (hb hby d7_42)) ?_
      refine own_go (S' := (T0.setTop (mkF m 57 #[.val (.ref a), .val (.int (0 : Int32)), .val (.int nn), .val (.int (Int32.ofNat L'.length)), .val (.int kk), .val (.int ai)] []))) (fun τ κ => XS.icmpYes X0.here hx rfl (pc0 := 43) (pc' := 57) rfl (hb hby d7_43) rfl (flt hc).2.1 (by decide) (by decide) κ) ?_
      refine own_go (S' := (T0.setTop (mkF m 58 #[.val (.ref a), .val (.int (0 : Int32)), .val (.int nn), .val (.int (Int32.ofNat L'.length)), .val (.int kk), .val (.int ai)] [(.ref a)]))) (fun τ κ => XS.aloadN X0.here hx rfl (hb hby d7_57) rfl rfl κ) ?_
      refine own_go (S' := (T0.setTop (mkF m 59 #[.val (.ref a), .val (.int (0 : Int32)), .val (.int nn), .val (.int (Int32.ofNat L'.length)), .val (.int kk), .val (.int ai)] [(.int (Int32.ofNat L'.length)), (.ref a)]))) (fun τ κ => XS.iloadN X0.here hx rfl (hb hby d7_58) rfl κ) ?_
      refine own_go (S' := (T0.setTop (mkF m 60 #[.val (.ref a), .val (.int (0 : Int32)), .val (.int nn), .val (.int (Int32.ofNat L'.length)), .val (.int kk), .val (.int ai)] [(.int (1 : Int32)), (.int (Int32.ofNat L'.length)), (.ref a)]))) (fun τ κ => XT.iconstV X0.here hx rfl (1 : Int32) (hb hby d7_59) (by decide) κ) ?_
      refine own_go (S' := (T0.setTop (mkF m 61 #[.val (.ref a), .val (.int (0 : Int32)), .val (.int nn), .val (.int (Int32.ofNat L'.length)), .val (.int kk), .val (.int ai)] [(.int ((Int32.ofNat L'.length) + (1 : Int32))), (.ref a)]))) (fun τ κ => XS.iadd X0.here hx rfl (hb hby d7_60) rfl κ) ?_
      refine own_go (S' := (T0.setTop (mkF m 63 #[.val (.ref a), .val (.int (0 : Int32)), .val (.int nn), .val (.int (Int32.ofNat L'.length)), .val (.int kk), .val (.int ai)] [(.int ai), (.int ((Int32.ofNat L'.length) + (1 : Int32))), (.ref a)]))) (fun τ κ => XS.iload X0.here hx rfl (hb hby d7_61) rfl κ) ?_
      obtain ⟨T3, h3, X3, e3, W3, B3, st3⟩ := own_iastore (j := ((Int32.ofNat L'.length) + (1 : Int32))) (x := ai) (Ls := #[.val (.ref a), .val (.int (0 : Int32)), .val (.int nn), .val (.int (Int32.ofNat L'.length)), .val (.int kk), .val (.int ai)]) (rest := []) A X0 hx hZ e0 (by rw [own_succ]; exact own_ofNat_nneg h31) (i := (L'.length + 1)) (by rw [own_succ]; exact own_clamp h31) (own_l1 L' y _ _) (hb hby d7_63)
      replace A := B3
      have N3 := Fr.snoc X3 N0 ga
      replace K := K.wr W3 (Or.inl (by simp))
      refine own_go (S' := (T3.setTop (mkF m 64 #[.val (.ref a), .val (.int (0 : Int32)), .val (.int nn), .val (.int (Int32.ofNat L'.length)), .val (.int kk), .val (.int ai)] []))) st3 ?_
      exact Hout T3 _ _ _ (L' ++ y :: ai :: M) X3 e3 (A.eq (by rw [own_s1]; simp)) K N3 (own_ins1 (hLM ▸ hS) hM hya) (hLM ▸ own_perm1 L' M y ai)
set_option maxRecDepth 65536 in
set_option maxHeartbeats 40000000 in
theorem w7_3 {p : Program} {l : Launch} {e : Env} {s : State} {m : MethodId} {args : Array Value} {below : List Frame} {meth : Method} {c : Code} {Z : State} {a0 : Array Value} {h0 : Heap} {a : Addr} {n0 N : Nat} {xs : List Int32} (hx : p.tables.exec = Jvm.exec) (hby : c.code = jdk_2529_method_6_code) (hml : c.maxLocals = 6) (hret : meth.sig.returnType = none) (hlk : meth.locks = false) (hown : s.vm.findClass "java/util/DualPivotQuicksort" = some m.cls) (hZ : Z.Warmed39 s.vm) (hw : ∀ d ∈ tables_1, d.before a0 Z = true) (ga : n0 ≤ a) (hN : N < 2 ^ 31) :
    ∀ (R S : List Int32) (y : Int32) (o3 o5 : Slot) (T0 : State) (h : Heap) (locs : List Loc), ((o3 = .unset ∧ o5 = .unset) ∨ ∃ z z' : Int32, o3 = .val (.int z) ∧ o5 = .val (.int z')) → (S ++ y :: R).length = N → own_sorted (S ++ [y]) → (S ++ y :: R).Perm xs → Stand p l e ({ frames := 0, cells := 0, slots := 0, locals := 0 } : Room) s m args below meth c T0 locs 0 0 → T0.heap = h → own_L Z h a .int (List.map Value.int (S ++ y :: R)) → Keep h0 h [a] → Fr n0 locs → own_End p e below s (fun v h L => v = none ∧ Fr n0 L ∧ ∃ ys : List Int32, ys.Perm xs ∧ own_sorted ys ∧ own_L Z h a .int (List.map Value.int ys) ∧ Keep h0 h [a]) 0 0 (T0.setTop (mkF m 3 #[.val (.ref a), .val (.int (0 : Int32)), .val (.int (Int32.ofNat N)), o3, .val (.int (Int32.ofNat S.length)), o5] [])) := by
  intro R
  induction R with
  | nil =>
    intro S y o3 o5 T0 h locs ho hlen hS hp X0 e0 A K N0
    have hnl : ¬ Int32.ofNat S.length + (1 : Int32) < Int32.ofNat N := by rw [own_succ, own_ofNat_lt (by simp at hlen; omega) hN]; simp at hlen; omega
    rcases ho with ⟨rfl, rfl⟩ | ⟨z, z', rfl, rfl⟩
    ·
      refine own_go (S' := (T0.setTop (mkF m 6 #[.val (.ref a), .val (.int (0 : Int32)), .val (.int (Int32.ofNat N)), .unset, .val (.int ((Int32.ofNat S.length) + (1 : Int32))), .unset] []))) (fun τ κ => XT.iincV X0.here hx rfl (1 : Int32) (hb hby d7_3) (by decide) rfl (l' := #[.val (.ref a), .val (.int (0 : Int32)), .val (.int (Int32.ofNat N)), .unset, .val (.int ((Int32.ofNat S.length) + (1 : Int32))), .unset]) rfl κ) ?_
      refine own_go (S' := (T0.setTop (mkF m 8 #[.val (.ref a), .val (.int (0 : Int32)), .val (.int (Int32.ofNat N)), .unset, .val (.int ((Int32.ofNat S.length) + (1 : Int32))), .unset] [(.int ((Int32.ofNat S.length) + (1 : Int32)))]))) (fun τ κ => XS.iload X0.here hx rfl (hb hby d7_6) rfl κ) ?_
      refine own_go (S' := (T0.setTop (mkF m 9 #[.val (.ref a), .val (.int (0 : Int32)), .val (.int (Int32.ofNat N)), .unset, .val (.int ((Int32.ofNat S.length) + (1 : Int32))), .unset] [(.int (Int32.ofNat N)), (.int ((Int32.ofNat S.length) + (1 : Int32)))]))) (fun τ κ => XS.iloadN X0.here hx rfl (hb hby d7_8) rfl κ) ?_
      refine own_go (S' := (T0.setTop (mkF m 67 #[.val (.ref a), .val (.int (0 : Int32)), .val (.int (Int32.ofNat N)), .unset, .val (.int ((Int32.ofNat S.length) + (1 : Int32))), .unset] []))) (fun τ κ => XS.icmpYes X0.here hx rfl (pc0 := 9) (pc' := 67) rfl (hb hby d7_9) rfl (flt hnl).2.1 (by decide) (by decide) κ) ?_
      exact own_retV X0 hx hret hlk (hb hby d7_67) (Nat.le_refl _) (Nat.le_refl _) ⟨rfl, N0, S ++ [y], hp, hS, by rw [e0]; exact A, by rw [e0]; exact K⟩
    ·
      refine own_go (S' := (T0.setTop (mkF m 6 #[.val (.ref a), .val (.int (0 : Int32)), .val (.int (Int32.ofNat N)), .val (.int z), .val (.int ((Int32.ofNat S.length) + (1 : Int32))), .val (.int z')] []))) (fun τ κ => XT.iincV X0.here hx rfl (1 : Int32) (hb hby d7_3) (by decide) rfl (l' := #[.val (.ref a), .val (.int (0 : Int32)), .val (.int (Int32.ofNat N)), .val (.int z), .val (.int ((Int32.ofNat S.length) + (1 : Int32))), .val (.int z')]) rfl κ) ?_
      refine own_go (S' := (T0.setTop (mkF m 8 #[.val (.ref a), .val (.int (0 : Int32)), .val (.int (Int32.ofNat N)), .val (.int z), .val (.int ((Int32.ofNat S.length) + (1 : Int32))), .val (.int z')] [(.int ((Int32.ofNat S.length) + (1 : Int32)))]))) (fun τ κ => XS.iload X0.here hx rfl (hb hby d7_6) rfl κ) ?_
      refine own_go (S' := (T0.setTop (mkF m 9 #[.val (.ref a), .val (.int (0 : Int32)), .val (.int (Int32.ofNat N)), .val (.int z), .val (.int ((Int32.ofNat S.length) + (1 : Int32))), .val (.int z')] [(.int (Int32.ofNat N)), (.int ((Int32.ofNat S.length) + (1 : Int32)))]))) (fun τ κ => XS.iloadN X0.here hx rfl (hb hby d7_8) rfl κ) ?_
      refine own_go (S' := (T0.setTop (mkF m 67 #[.val (.ref a), .val (.int (0 : Int32)), .val (.int (Int32.ofNat N)), .val (.int z), .val (.int ((Int32.ofNat S.length) + (1 : Int32))), .val (.int z')] []))) (fun τ κ => XS.icmpYes X0.here hx rfl (pc0 := 9) (pc' := 67) rfl (hb hby d7_9) rfl (flt hnl).2.1 (by decide) (by decide) κ) ?_
      exact own_retV X0 hx hret hlk (hb hby d7_67) (Nat.le_refl _) (Nat.le_refl _) ⟨rfl, N0, S ++ [y], hp, hS, by rw [e0]; exact A, by rw [e0]; exact K⟩
  | cons x R ih =>
    intro S y o3 o5 T0 h locs ho hlen hS hp X0 e0 A K N0
    have hlen' : S.length + 1 + 1 + R.length = N := by simp at hlen; omega
    have h31 : S.length + 1 < 2 ^ 31 := by omega
    have hlt : Int32.ofNat S.length + (1 : Int32) < Int32.ofNat N := by rw [own_succ, own_ofNat_lt h31 hN]; omega
    by_cases hc : x < y
    · have hxy : x.toInt < y.toInt := Int32.lt_iff_toInt_lt.mp hc
      rcases ho with ⟨rfl, rfl⟩ | ⟨z, z', rfl, rfl⟩
      ·
        refine own_go (S' := (T0.setTop (mkF m 6 #[.val (.ref a), .val (.int (0 : Int32)), .val (.int (Int32.ofNat N)), .unset, .val (.int ((Int32.ofNat S.length) + (1 : Int32))), .unset] []))) (fun τ κ => XT.iincV X0.here hx rfl (1 : Int32) (hb hby d7_3) (by decide) rfl (l' := #[.val (.ref a), .val (.int (0 : Int32)), .val (.int (Int32.ofNat N)), .unset, .val (.int ((Int32.ofNat S.length) + (1 : Int32))), .unset]) rfl κ) ?_
        refine own_go (S' := (T0.setTop (mkF m 8 #[.val (.ref a), .val (.int (0 : Int32)), .val (.int (Int32.ofNat N)), .unset, .val (.int ((Int32.ofNat S.length) + (1 : Int32))), .unset] [(.int ((Int32.ofNat S.length) + (1 : Int32)))]))) (fun τ κ => XS.iload X0.here hx rfl (hb hby d7_6) rfl κ) ?_
        refine own_go (S' := (T0.setTop (mkF m 9 #[.val (.ref a), .val (.int (0 : Int32)), .val (.int (Int32.ofNat N)), .unset, .val (.int ((Int32.ofNat S.length) + (1 : Int32))), .unset] [(.int (Int32.ofNat N)), (.int ((Int32.ofNat S.length) + (1 : Int32)))]))) (fun τ κ => XS.iloadN X0.here hx rfl (hb hby d7_8) rfl κ) ?_
        refine own_go (S' := (T0.setTop (mkF m 12 #[.val (.ref a), .val (.int (0 : Int32)), .val (.int (Int32.ofNat N)), .unset, .val (.int ((Int32.ofNat S.length) + (1 : Int32))), .unset] []))) (fun τ κ => XS.icmpNo X0.here hx rfl (hb hby d7_9) rfl (tlt hlt).2.1 κ) ?_
        rw [own_succ]
        refine own_go (S' := (T0.setTop (mkF m 13 #[.val (.ref a), .val (.int (0 : Int32)), .val (.int (Int32.ofNat N)), .unset, .val (.int (Int32.ofNat (S.length + 1))), .unset] [(.ref a)]))) (fun τ κ => XS.aloadN X0.here hx rfl (hb hby d7_12) rfl rfl κ) ?_
        refine own_go (S' := (T0.setTop (mkF m 15 #[.val (.ref a), .val (.int (0 : Int32)), .val (.int (Int32.ofNat N)), .unset, .val (.int (Int32.ofNat (S.length + 1))), .unset] [(.int (Int32.ofNat (S.length + 1))), (.ref a)]))) (fun τ κ => XS.iload X0.here hx rfl (hb hby d7_13) rfl κ) ?_
        refine own_go (S' := (T0.setTop (mkF m 16 #[.val (.ref a), .val (.int (0 : Int32)), .val (.int (Int32.ofNat N)), .unset, .val (.int (Int32.ofNat (S.length + 1))), .unset] [(.int (Int32.ofNat (S.length + 1))), (.int (Int32.ofNat (S.length + 1))), (.ref a)]))) (fun τ κ => XS.dup X0.here hx rfl (hb hby d7_15) rfl rfl κ) ?_
        refine own_go (S' := (T0.setTop (mkF m 17 #[.val (.ref a), .val (.int (0 : Int32)), .val (.int (Int32.ofNat N)), .val (.int (Int32.ofNat (S.length + 1))), .val (.int (Int32.ofNat (S.length + 1))), .unset] [(.int (Int32.ofNat (S.length + 1))), (.ref a)]))) (fun τ κ => XS.istoreN X0.here hx rfl (hb hby d7_16) rfl (l' := #[.val (.ref a), .val (.int (0 : Int32)), .val (.int (Int32.ofNat N)), .val (.int (Int32.ofNat (S.length + 1))), .val (.int (Int32.ofNat (S.length + 1))), .unset]) rfl κ) ?_
        refine own_go (S' := (T0.setTop (mkF m 18 #[.val (.ref a), .val (.int (0 : Int32)), .val (.int (Int32.ofNat N)), .val (.int (Int32.ofNat (S.length + 1))), .val (.int (Int32.ofNat (S.length + 1))), .unset] [(.int x)]))) (own_iaload (j := (Int32.ofNat (S.length + 1))) (v := (.int x)) A X0 hx hZ e0 (own_ofNat_nneg h31) (i := (S.length + 1)) (own_clamp h31) (own_l1 S y x R) (own_g1 S y x R) (hb hby d7_17)) ?_
        refine own_go (S' := (T0.setTop (mkF m 20 #[.val (.ref a), .val (.int (0 : Int32)), .val (.int (Int32.ofNat N)), .val (.int (Int32.ofNat (S.length + 1))), .val (.int (Int32.ofNat (S.length + 1))), .val (.int x)] []))) (fun τ κ => XS.istore X0.here hx rfl (hb hby d7_18) rfl (l' := #[.val (.ref a), .val (.int (0 : Int32)), .val (.int (Int32.ofNat N)), .val (.int (Int32.ofNat (S.length + 1))), .val (.int (Int32.ofNat (S.length + 1))), .val (.int x)]) rfl κ) ?_
        refine own_go (S' := (T0.setTop (mkF m 22 #[.val (.ref a), .val (.int (0 : Int32)), .val (.int (Int32.ofNat N)), .val (.int (Int32.ofNat (S.length + 1))), .val (.int (Int32.ofNat (S.length + 1))), .val (.int x)] [(.int x)]))) (fun τ κ => XS.iload X0.here hx rfl (hb hby d7_20) rfl κ) ?_
        refine own_go (S' := (T0.setTop (mkF m 23 #[.val (.ref a), .val (.int (0 : Int32)), .val (.int (Int32.ofNat N)), .val (.int (Int32.ofNat (S.length + 1))), .val (.int (Int32.ofNat (S.length + 1))), .val (.int x)] [(.ref a), (.int x)]))) (fun τ κ => XS.aloadN X0.here hx rfl (hb hby d7_22) rfl rfl κ) ?_
        refine own_go (S' := (T0.setTop (mkF m 24 #[.val (.ref a), .val (.int (0 : Int32)), .val (.int (Int32.ofNat N)), .val (.int (Int32.ofNat (S.length + 1))), .val (.int (Int32.ofNat (S.length + 1))), .val (.int x)] [(.int (Int32.ofNat (S.length + 1))), (.ref a), (.int x)]))) (fun τ κ => XS.iloadN X0.here hx rfl (hb hby d7_23) rfl κ) ?_
        refine own_go (S' := (T0.setTop (mkF m 25 #[.val (.ref a), .val (.int (0 : Int32)), .val (.int (Int32.ofNat N)), .val (.int (Int32.ofNat (S.length + 1))), .val (.int (Int32.ofNat (S.length + 1))), .val (.int x)] [(.int (1 : Int32)), (.int (Int32.ofNat (S.length + 1))), (.ref a), (.int x)]))) (fun τ κ => XT.iconstV X0.here hx rfl (1 : Int32) (hb hby d7_24) (by decide) κ) ?_
        refine own_go (S' := (T0.setTop (mkF m 26 #[.val (.ref a), .val (.int (0 : Int32)), .val (.int (Int32.ofNat N)), .val (.int (Int32.ofNat (S.length + 1))), .val (.int (Int32.ofNat (S.length + 1))), .val (.int x)] [(.int ((Int32.ofNat (S.length + 1)) - (1 : Int32))), (.ref a), (.int x)]))) (fun τ κ => XS.isub X0.here hx rfl (hb hby d7_25) rfl κ) ?_
        refine own_go (S' := (T0.setTop (mkF m 27 #[.val (.ref a), .val (.int (0 : Int32)), .val (.int (Int32.ofNat N)), .val (.int (Int32.ofNat (S.length + 1))), .val (.int (Int32.ofNat (S.length + 1))), .val (.int x)] [(.int y), (.int x)]))) (own_iaload (j := ((Int32.ofNat (S.length + 1)) - (1 : Int32))) (v := (.int y)) A X0 hx hZ e0 (by rw [own_pred']; exact own_ofNat_nneg (by omega)) (i := S.length) (by rw [own_pred']; exact own_clamp (by omega)) (own_l0 S y _) (own_g0 S y _) (hb hby d7_26)) ?_
        refine own_go (S' := (T0.setTop (mkF m 30 #[.val (.ref a), .val (.int (0 : Int32)), .val (.int (Int32.ofNat N)), .val (.int (Int32.ofNat (S.length + 1))), .val (.int (Int32.ofNat (S.length + 1))), .val (.int x)] []))) (fun τ κ => XS.icmpNo X0.here hx rfl (hb hby d7_27) rfl (tlt hc).2.1 κ) ?_
        refine w7_30 (S := S ++ [y]) (R := R) hx hby hml hret hlk hown hZ hw ga hS (by simp; omega) ?_ (S.length + 1) (S ++ [y]) [] x T0 _ _ (by simp) (by simp) (fun z hz => nomatch hz) X0 e0 (A.eq (by simp)) K N0
        intro T h locs z zs X1 e1 A K N1 hs1 hp1
        obtain ⟨zs', w, rfl⟩ : ∃ zs' w, zs = zs' ++ [w] := by
          rcases List.eq_nil_or_concat zs with rfl | ⟨L', y', rfl⟩
          · exact absurd hp1.length_eq (by simp)
          · exact ⟨L', y', by simp⟩
        have hpp : ((zs' ++ [w]) ++ R).Perm ((S ++ [y]) ++ x :: R) := (List.Perm.append_right R hp1).trans (List.perm_middle (l₁ := S ++ [y]) (l₂ := R) (a := x)).symm
        have hl1 : zs'.length = S.length + 1 := by have := hp1.length_eq; simp at this; omega
        refine own_go (S' := (T.setTop (mkF m 3 #[.val (.ref a), .val (.int (0 : Int32)), .val (.int (Int32.ofNat N)), .val (.int z), .val (.int (Int32.ofNat (S.length + 1))), .val (.int x)] []))) (fun τ κ => XS.goto X1.here hx rfl (pc0 := 64) (pc' := 3) rfl (hb hby d7_64) (by decide) (by decide) κ) ?_
        rw [← hl1]
        exact ih zs' w _ _ T _ _ (Or.inr ⟨_, _, rfl, rfl⟩) (by simp; omega) hs1 (List.Perm.trans (by simpa using hpp) hp) X1 e1 (A.eq (by simp)) K N1
      ·
        refine own_go (S' := (T0.setTop (mkF m 6 #[.val (.ref a), .val (.int (0 : Int32)), .val (.int (Int32.ofNat N)), .val (.int z), .val (.int ((Int32.ofNat S.length) + (1 : Int32))), .val (.int z')] []))) (fun τ κ => XT.iincV X0.here hx rfl (1 : Int32) (hb hby d7_3) (by decide) rfl (l' := #[.val (.ref a), .val (.int (0 : Int32)), .val (.int (Int32.ofNat N)), .val (.int z), .val (.int ((Int32.ofNat S.length) + (1 : Int32))), .val (.int z')]) rfl κ) ?_
        refine own_go (S' := (T0.setTop (mkF m 8 #[.val (.ref a), .val (.int (0 : Int32)), .val (.int (Int32.ofNat N)), .val (.int z), .val (.int ((Int32.ofNat S.length) + (1 : Int32))), .val (.int z')] [(.int ((Int32.ofNat S.length) + (1 : Int32)))]))) (fun τ κ => XS.iload X0.here hx rfl (hb hby d7_6) rfl κ) ?_
        refine own_go (S' := (T0.setTop (mkF m 9 #[.val (.ref a), .val (.int (0 : Int32)), .val (.int (Int32.ofNat N)), .val (.int z), .val (.int ((Int32.ofNat S.length) + (1 : Int32))), .val (.int z')] [(.int (Int32.ofNat N)), (.int ((Int32.ofNat S.length) + (1 : Int32)))]))) (fun τ κ => XS.iloadN X0.here hx rfl (hb hby d7_8) rfl κ) ?_
        refine own_go (S' := (T0.setTop (mkF m 12 #[.val (.ref a), .val (.int (0 : Int32)), .val (.int (Int32.ofNat N)), .val (.int z), .val (.int ((Int32.ofNat S.length) + (1 : Int32))), .val (.int z')] []))) (fun τ κ => XS.icmpNo X0.here hx rfl (hb hby d7_9) rfl (tlt hlt).2.1 κ) ?_
        rw [own_succ]
        refine own_go (S' := (T0.setTop (mkF m 13 #[.val (.ref a), .val (.int (0 : Int32)), .val (.int (Int32.ofNat N)), .val (.int z), .val (.int (Int32.ofNat (S.length + 1))), .val (.int z')] [(.ref a)]))) (fun τ κ => XS.aloadN X0.here hx rfl (hb hby d7_12) rfl rfl κ) ?_
        refine own_go (S' := (T0.setTop (mkF m 15 #[.val (.ref a), .val (.int (0 : Int32)), .val (.int (Int32.ofNat N)), .val (.int z), .val (.int (Int32.ofNat (S.length + 1))), .val (.int z')] [(.int (Int32.ofNat (S.length + 1))), (.ref a)]))) (fun τ κ => XS.iload X0.here hx rfl (hb hby d7_13) rfl κ) ?_
        refine own_go (S' := (T0.setTop (mkF m 16 #[.val (.ref a), .val (.int (0 : Int32)), .val (.int (Int32.ofNat N)), .val (.int z), .val (.int (Int32.ofNat (S.length + 1))), .val (.int z')] [(.int (Int32.ofNat (S.length + 1))), (.int (Int32.ofNat (S.length + 1))), (.ref a)]))) (fun τ κ => XS.dup X0.here hx rfl (hb hby d7_15) rfl rfl κ) ?_
        refine own_go (S' := (T0.setTop (mkF m 17 #[.val (.ref a), .val (.int (0 : Int32)), .val (.int (Int32.ofNat N)), .val (.int (Int32.ofNat (S.length + 1))), .val (.int (Int32.ofNat (S.length + 1))), .val (.int z')] [(.int (Int32.ofNat (S.length + 1))), (.ref a)]))) (fun τ κ => XS.istoreN X0.here hx rfl (hb hby d7_16) rfl (l' := #[.val (.ref a), .val (.int (0 : Int32)), .val (.int (Int32.ofNat N)), .val (.int (Int32.ofNat (S.length + 1))), .val (.int (Int32.ofNat (S.length + 1))), .val (.int z')]) rfl κ) ?_
        refine own_go (S' := (T0.setTop (mkF m 18 #[.val (.ref a), .val (.int (0 : Int32)), .val (.int (Int32.ofNat N)), .val (.int (Int32.ofNat (S.length + 1))), .val (.int (Int32.ofNat (S.length + 1))), .val (.int z')] [(.int x)]))) (own_iaload (j := (Int32.ofNat (S.length + 1))) (v := (.int x)) A X0 hx hZ e0 (own_ofNat_nneg h31) (i := (S.length + 1)) (own_clamp h31) (own_l1 S y x R) (own_g1 S y x R) (hb hby d7_17)) ?_
        refine own_go (S' := (T0.setTop (mkF m 20 #[.val (.ref a), .val (.int (0 : Int32)), .val (.int (Int32.ofNat N)), .val (.int (Int32.ofNat (S.length + 1))), .val (.int (Int32.ofNat (S.length + 1))), .val (.int x)] []))) (fun τ κ => XS.istore X0.here hx rfl (hb hby d7_18) rfl (l' := #[.val (.ref a), .val (.int (0 : Int32)), .val (.int (Int32.ofNat N)), .val (.int (Int32.ofNat (S.length + 1))), .val (.int (Int32.ofNat (S.length + 1))), .val (.int x)]) rfl κ) ?_
        refine own_go (S' := (T0.setTop (mkF m 22 #[.val (.ref a), .val (.int (0 : Int32)), .val (.int (Int32.ofNat N)), .val (.int (Int32.ofNat (S.length + 1))), .val (.int (Int32.ofNat (S.length + 1))), .val (.int x)] [(.int x)]))) (fun τ κ => XS.iload X0.here hx rfl (hb hby d7_20) rfl κ) ?_
        refine own_go (S' := (T0.setTop (mkF m 23 #[.val (.ref a), .val (.int (0 : Int32)), .val (.int (Int32.ofNat N)), .val (.int (Int32.ofNat (S.length + 1))), .val (.int (Int32.ofNat (S.length + 1))), .val (.int x)] [(.ref a), (.int x)]))) (fun τ κ => XS.aloadN X0.here hx rfl (hb hby d7_22) rfl rfl κ) ?_
        refine own_go (S' := (T0.setTop (mkF m 24 #[.val (.ref a), .val (.int (0 : Int32)), .val (.int (Int32.ofNat N)), .val (.int (Int32.ofNat (S.length + 1))), .val (.int (Int32.ofNat (S.length + 1))), .val (.int x)] [(.int (Int32.ofNat (S.length + 1))), (.ref a), (.int x)]))) (fun τ κ => XS.iloadN X0.here hx rfl (hb hby d7_23) rfl κ) ?_
        refine own_go (S' := (T0.setTop (mkF m 25 #[.val (.ref a), .val (.int (0 : Int32)), .val (.int (Int32.ofNat N)), .val (.int (Int32.ofNat (S.length + 1))), .val (.int (Int32.ofNat (S.length + 1))), .val (.int x)] [(.int (1 : Int32)), (.int (Int32.ofNat (S.length + 1))), (.ref a), (.int x)]))) (fun τ κ => XT.iconstV X0.here hx rfl (1 : Int32) (hb hby d7_24) (by decide) κ) ?_
        refine own_go (S' := (T0.setTop (mkF m 26 #[.val (.ref a), .val (.int (0 : Int32)), .val (.int (Int32.ofNat N)), .val (.int (Int32.ofNat (S.length + 1))), .val (.int (Int32.ofNat (S.length + 1))), .val (.int x)] [(.int ((Int32.ofNat (S.length + 1)) - (1 : Int32))), (.ref a), (.int x)]))) (fun τ κ => XS.isub X0.here hx rfl (hb hby d7_25) rfl κ) ?_
        refine own_go (S' := (T0.setTop (mkF m 27 #[.val (.ref a), .val (.int (0 : Int32)), .val (.int (Int32.ofNat N)), .val (.int (Int32.ofNat (S.length + 1))), .val (.int (Int32.ofNat (S.length + 1))), .val (.int x)] [(.int y), (.int x)]))) (own_iaload (j := ((Int32.ofNat (S.length + 1)) - (1 : Int32))) (v := (.int y)) A X0 hx hZ e0 (by rw [own_pred']; exact own_ofNat_nneg (by omega)) (i := S.length) (by rw [own_pred']; exact own_clamp (by omega)) (own_l0 S y _) (own_g0 S y _) (hb hby d7_26)) ?_
        refine own_go (S' := (T0.setTop (mkF m 30 #[.val (.ref a), .val (.int (0 : Int32)), .val (.int (Int32.ofNat N)), .val (.int (Int32.ofNat (S.length + 1))), .val (.int (Int32.ofNat (S.length + 1))), .val (.int x)] []))) (fun τ κ => XS.icmpNo X0.here hx rfl (hb hby d7_27) rfl (tlt hc).2.1 κ) ?_
        refine w7_30 (S := S ++ [y]) (R := R) hx hby hml hret hlk hown hZ hw ga hS (by simp; omega) ?_ (S.length + 1) (S ++ [y]) [] x T0 _ _ (by simp) (by simp) (fun z hz => nomatch hz) X0 e0 (A.eq (by simp)) K N0
        intro T h locs z zs X1 e1 A K N1 hs1 hp1
        obtain ⟨zs', w, rfl⟩ : ∃ zs' w, zs = zs' ++ [w] := by
          rcases List.eq_nil_or_concat zs with rfl | ⟨L', y', rfl⟩
          · exact absurd hp1.length_eq (by simp)
          · exact ⟨L', y', by simp⟩
        have hpp : ((zs' ++ [w]) ++ R).Perm ((S ++ [y]) ++ x :: R) := (List.Perm.append_right R hp1).trans (List.perm_middle (l₁ := S ++ [y]) (l₂ := R) (a := x)).symm
        have hl1 : zs'.length = S.length + 1 := by have := hp1.length_eq; simp at this; omega
        refine own_go (S' := (T.setTop (mkF m 3 #[.val (.ref a), .val (.int (0 : Int32)), .val (.int (Int32.ofNat N)), .val (.int z), .val (.int (Int32.ofNat (S.length + 1))), .val (.int x)] []))) (fun τ κ => XS.goto X1.here hx rfl (pc0 := 64) (pc' := 3) rfl (hb hby d7_64) (by decide) (by decide) κ) ?_
        rw [← hl1]
        exact ih zs' w _ _ T _ _ (Or.inr ⟨_, _, rfl, rfl⟩) (by simp; omega) hs1 (List.Perm.trans (by simpa using hpp) hp) X1 e1 (A.eq (by simp)) K N1
    · have hyx : y.toInt ≤ x.toInt := by rw [Int32.lt_iff_toInt_lt] at hc; omega
      rcases ho with ⟨rfl, rfl⟩ | ⟨z, z', rfl, rfl⟩
      ·
        refine own_go (S' := (T0.setTop (mkF m 6 #[.val (.ref a), .val (.int (0 : Int32)), .val (.int (Int32.ofNat N)), .unset, .val (.int ((Int32.ofNat S.length) + (1 : Int32))), .unset] []))) (fun τ κ => XT.iincV X0.here hx rfl (1 : Int32) (hb hby d7_3) (by decide) rfl (l' := #[.val (.ref a), .val (.int (0 : Int32)), .val (.int (Int32.ofNat N)), .unset, .val (.int ((Int32.ofNat S.length) + (1 : Int32))), .unset]) rfl κ) ?_
        refine own_go (S' := (T0.setTop (mkF m 8 #[.val (.ref a), .val (.int (0 : Int32)), .val (.int (Int32.ofNat N)), .unset, .val (.int ((Int32.ofNat S.length) + (1 : Int32))), .unset] [(.int ((Int32.ofNat S.length) + (1 : Int32)))]))) (fun τ κ => XS.iload X0.here hx rfl (hb hby d7_6) rfl κ) ?_
        refine own_go (S' := (T0.setTop (mkF m 9 #[.val (.ref a), .val (.int (0 : Int32)), .val (.int (Int32.ofNat N)), .unset, .val (.int ((Int32.ofNat S.length) + (1 : Int32))), .unset] [(.int (Int32.ofNat N)), (.int ((Int32.ofNat S.length) + (1 : Int32)))]))) (fun τ κ => XS.iloadN X0.here hx rfl (hb hby d7_8) rfl κ) ?_
        refine own_go (S' := (T0.setTop (mkF m 12 #[.val (.ref a), .val (.int (0 : Int32)), .val (.int (Int32.ofNat N)), .unset, .val (.int ((Int32.ofNat S.length) + (1 : Int32))), .unset] []))) (fun τ κ => XS.icmpNo X0.here hx rfl (hb hby d7_9) rfl (tlt hlt).2.1 κ) ?_
        rw [own_succ]
        refine own_go (S' := (T0.setTop (mkF m 13 #[.val (.ref a), .val (.int (0 : Int32)), .val (.int (Int32.ofNat N)), .unset, .val (.int (Int32.ofNat (S.length + 1))), .unset] [(.ref a)]))) (fun τ κ => XS.aloadN X0.here hx rfl (hb hby d7_12) rfl rfl κ) ?_
        refine own_go (S' := (T0.setTop (mkF m 15 #[.val (.ref a), .val (.int (0 : Int32)), .val (.int (Int32.ofNat N)), .unset, .val (.int (Int32.ofNat (S.length + 1))), .unset] [(.int (Int32.ofNat (S.length + 1))), (.ref a)]))) (fun τ κ => XS.iload X0.here hx rfl (hb hby d7_13) rfl κ) ?_
        refine own_go (S' := (T0.setTop (mkF m 16 #[.val (.ref a), .val (.int (0 : Int32)), .val (.int (Int32.ofNat N)), .unset, .val (.int (Int32.ofNat (S.length + 1))), .unset] [(.int (Int32.ofNat (S.length + 1))), (.int (Int32.ofNat (S.length + 1))), (.ref a)]))) (fun τ κ => XS.dup X0.here hx rfl (hb hby d7_15) rfl rfl κ) ?_
        refine own_go (S' := (T0.setTop (mkF m 17 #[.val (.ref a), .val (.int (0 : Int32)), .val (.int (Int32.ofNat N)), .val (.int (Int32.ofNat (S.length + 1))), .val (.int (Int32.ofNat (S.length + 1))), .unset] [(.int (Int32.ofNat (S.length + 1))), (.ref a)]))) (fun τ κ => XS.istoreN X0.here hx rfl (hb hby d7_16) rfl (l' := #[.val (.ref a), .val (.int (0 : Int32)), .val (.int (Int32.ofNat N)), .val (.int (Int32.ofNat (S.length + 1))), .val (.int (Int32.ofNat (S.length + 1))), .unset]) rfl κ) ?_
        refine own_go (S' := (T0.setTop (mkF m 18 #[.val (.ref a), .val (.int (0 : Int32)), .val (.int (Int32.ofNat N)), .val (.int (Int32.ofNat (S.length + 1))), .val (.int (Int32.ofNat (S.length + 1))), .unset] [(.int x)]))) (own_iaload (j := (Int32.ofNat (S.length + 1))) (v := (.int x)) A X0 hx hZ e0 (own_ofNat_nneg h31) (i := (S.length + 1)) (own_clamp h31) (own_l1 S y x R) (own_g1 S y x R) (hb hby d7_17)) ?_
        refine own_go (S' := (T0.setTop (mkF m 20 #[.val (.ref a), .val (.int (0 : Int32)), .val (.int (Int32.ofNat N)), .val (.int (Int32.ofNat (S.length + 1))), .val (.int (Int32.ofNat (S.length + 1))), .val (.int x)] []))) (fun τ κ => XS.istore X0.here hx rfl (hb hby d7_18) rfl (l' := #[.val (.ref a), .val (.int (0 : Int32)), .val (.int (Int32.ofNat N)), .val (.int (Int32.ofNat (S.length + 1))), .val (.int (Int32.ofNat (S.length + 1))), .val (.int x)]) rfl κ) ?_
        refine own_go (S' := (T0.setTop (mkF m 22 #[.val (.ref a), .val (.int (0 : Int32)), .val (.int (Int32.ofNat N)), .val (.int (Int32.ofNat (S.length + 1))), .val (.int (Int32.ofNat (S.length + 1))), .val (.int x)] [(.int x)]))) (fun τ κ => XS.iload X0.here hx rfl (hb hby d7_20) rfl κ) ?_
        refine own_go (S' := (T0.setTop (mkF m 23 #[.val (.ref a), .val (.int (0 : Int32)), .val (.int (Int32.ofNat N)), .val (.int (Int32.ofNat (S.length + 1))), .val (.int (Int32.ofNat (S.length + 1))), .val (.int x)] [(.ref a), (.int x)]))) (fun τ κ => XS.aloadN X0.here hx rfl (hb hby d7_22) rfl rfl κ) ?_
        refine own_go (S' := (T0.setTop (mkF m 24 #[.val (.ref a), .val (.int (0 : Int32)), .val (.int (Int32.ofNat N)), .val (.int (Int32.ofNat (S.length + 1))), .val (.int (Int32.ofNat (S.length + 1))), .val (.int x)] [(.int (Int32.ofNat (S.length + 1))), (.ref a), (.int x)]))) (fun τ κ => XS.iloadN X0.here hx rfl (hb hby d7_23) rfl κ) ?_
        refine own_go (S' := (T0.setTop (mkF m 25 #[.val (.ref a), .val (.int (0 : Int32)), .val (.int (Int32.ofNat N)), .val (.int (Int32.ofNat (S.length + 1))), .val (.int (Int32.ofNat (S.length + 1))), .val (.int x)] [(.int (1 : Int32)), (.int (Int32.ofNat (S.length + 1))), (.ref a), (.int x)]))) (fun τ κ => XT.iconstV X0.here hx rfl (1 : Int32) (hb hby d7_24) (by decide) κ) ?_
        refine own_go (S' := (T0.setTop (mkF m 26 #[.val (.ref a), .val (.int (0 : Int32)), .val (.int (Int32.ofNat N)), .val (.int (Int32.ofNat (S.length + 1))), .val (.int (Int32.ofNat (S.length + 1))), .val (.int x)] [(.int ((Int32.ofNat (S.length + 1)) - (1 : Int32))), (.ref a), (.int x)]))) (fun τ κ => XS.isub X0.here hx rfl (hb hby d7_25) rfl κ) ?_
        refine own_go (S' := (T0.setTop (mkF m 27 #[.val (.ref a), .val (.int (0 : Int32)), .val (.int (Int32.ofNat N)), .val (.int (Int32.ofNat (S.length + 1))), .val (.int (Int32.ofNat (S.length + 1))), .val (.int x)] [(.int y), (.int x)]))) (own_iaload (j := ((Int32.ofNat (S.length + 1)) - (1 : Int32))) (v := (.int y)) A X0 hx hZ e0 (by rw [own_pred']; exact own_ofNat_nneg (by omega)) (i := S.length) (by rw [own_pred']; exact own_clamp (by omega)) (own_l0 S y _) (own_g0 S y _) (hb hby d7_26)) ?_
        refine own_go (S' := (T0.setTop (mkF m 64 #[.val (.ref a), .val (.int (0 : Int32)), .val (.int (Int32.ofNat N)), .val (.int (Int32.ofNat (S.length + 1))), .val (.int (Int32.ofNat (S.length + 1))), .val (.int x)] []))) (fun τ κ => XS.icmpYes X0.here hx rfl (pc0 := 27) (pc' := 64) rfl (hb hby d7_27) rfl (flt hc).2.1 (by decide) (by decide) κ) ?_
        refine own_go (S' := (T0.setTop (mkF m 3 #[.val (.ref a), .val (.int (0 : Int32)), .val (.int (Int32.ofNat N)), .val (.int (Int32.ofNat (S.length + 1))), .val (.int (Int32.ofNat (S.length + 1))), .val (.int x)] []))) (fun τ κ => XS.goto X0.here hx rfl (pc0 := 64) (pc' := 3) rfl (hb hby d7_64) (by decide) (by decide) κ) ?_
        rw [show S.length + 1 = (S ++ [y]).length from by simp]
        exact ih (S ++ [y]) x _ _ T0 _ _ (Or.inr ⟨_, _, rfl, rfl⟩) (by simp; omega) (own_snoc hS hyx) (by simpa using hp) X0 e0 (A.eq (by simp)) K N0
      ·
        refine own_go (S' := (T0.setTop (mkF m 6 #[.val (.ref a), .val (.int (0 : Int32)), .val (.int (Int32.ofNat N)), .val (.int z), .val (.int ((Int32.ofNat S.length) + (1 : Int32))), .val (.int z')] []))) (fun τ κ => XT.iincV X0.here hx rfl (1 : Int32) (hb hby d7_3) (by decide) rfl (l' := #[.val (.ref a), .val (.int (0 : Int32)), .val (.int (Int32.ofNat N)), .val (.int z), .val (.int ((Int32.ofNat S.length) + (1 : Int32))), .val (.int z')]) rfl κ) ?_
        refine own_go (S' := (T0.setTop (mkF m 8 #[.val (.ref a), .val (.int (0 : Int32)), .val (.int (Int32.ofNat N)), .val (.int z), .val (.int ((Int32.ofNat S.length) + (1 : Int32))), .val (.int z')] [(.int ((Int32.ofNat S.length) + (1 : Int32)))]))) (fun τ κ => XS.iload X0.here hx rfl (hb hby d7_6) rfl κ) ?_
        refine own_go (S' := (T0.setTop (mkF m 9 #[.val (.ref a), .val (.int (0 : Int32)), .val (.int (Int32.ofNat N)), .val (.int z), .val (.int ((Int32.ofNat S.length) + (1 : Int32))), .val (.int z')] [(.int (Int32.ofNat N)), (.int ((Int32.ofNat S.length) + (1 : Int32)))]))) (fun τ κ => XS.iloadN X0.here hx rfl (hb hby d7_8) rfl κ) ?_
        refine own_go (S' := (T0.setTop (mkF m 12 #[.val (.ref a), .val (.int (0 : Int32)), .val (.int (Int32.ofNat N)), .val (.int z), .val (.int ((Int32.ofNat S.length) + (1 : Int32))), .val (.int z')] []))) (fun τ κ => XS.icmpNo X0.here hx rfl (hb hby d7_9) rfl (tlt hlt).2.1 κ) ?_
        rw [own_succ]
        refine own_go (S' := (T0.setTop (mkF m 13 #[.val (.ref a), .val (.int (0 : Int32)), .val (.int (Int32.ofNat N)), .val (.int z), .val (.int (Int32.ofNat (S.length + 1))), .val (.int z')] [(.ref a)]))) (fun τ κ => XS.aloadN X0.here hx rfl (hb hby d7_12) rfl rfl κ) ?_
        refine own_go (S' := (T0.setTop (mkF m 15 #[.val (.ref a), .val (.int (0 : Int32)), .val (.int (Int32.ofNat N)), .val (.int z), .val (.int (Int32.ofNat (S.length + 1))), .val (.int z')] [(.int (Int32.ofNat (S.length + 1))), (.ref a)]))) (fun τ κ => XS.iload X0.here hx rfl (hb hby d7_13) rfl κ) ?_
        refine own_go (S' := (T0.setTop (mkF m 16 #[.val (.ref a), .val (.int (0 : Int32)), .val (.int (Int32.ofNat N)), .val (.int z), .val (.int (Int32.ofNat (S.length + 1))), .val (.int z')] [(.int (Int32.ofNat (S.length + 1))), (.int (Int32.ofNat (S.length + 1))), (.ref a)]))) (fun τ κ => XS.dup X0.here hx rfl (hb hby d7_15) rfl rfl κ) ?_
        refine own_go (S' := (T0.setTop (mkF m 17 #[.val (.ref a), .val (.int (0 : Int32)), .val (.int (Int32.ofNat N)), .val (.int (Int32.ofNat (S.length + 1))), .val (.int (Int32.ofNat (S.length + 1))), .val (.int z')] [(.int (Int32.ofNat (S.length + 1))), (.ref a)]))) (fun τ κ => XS.istoreN X0.here hx rfl (hb hby d7_16) rfl (l' := #[.val (.ref a), .val (.int (0 : Int32)), .val (.int (Int32.ofNat N)), .val (.int (Int32.ofNat (S.length + 1))), .val (.int (Int32.ofNat (S.length + 1))), .val (.int z')]) rfl κ) ?_
        refine own_go (S' := (T0.setTop (mkF m 18 #[.val (.ref a), .val (.int (0 : Int32)), .val (.int (Int32.ofNat N)), .val (.int (Int32.ofNat (S.length + 1))), .val (.int (Int32.ofNat (S.length + 1))), .val (.int z')] [(.int x)]))) (own_iaload (j := (Int32.ofNat (S.length + 1))) (v := (.int x)) A X0 hx hZ e0 (own_ofNat_nneg h31) (i := (S.length + 1)) (own_clamp h31) (own_l1 S y x R) (own_g1 S y x R) (hb hby d7_17)) ?_
        refine own_go (S' := (T0.setTop (mkF m 20 #[.val (.ref a), .val (.int (0 : Int32)), .val (.int (Int32.ofNat N)), .val (.int (Int32.ofNat (S.length + 1))), .val (.int (Int32.ofNat (S.length + 1))), .val (.int x)] []))) (fun τ κ => XS.istore X0.here hx rfl (hb hby d7_18) rfl (l' := #[.val (.ref a), .val (.int (0 : Int32)), .val (.int (Int32.ofNat N)), .val (.int (Int32.ofNat (S.length + 1))), .val (.int (Int32.ofNat (S.length + 1))), .val (.int x)]) rfl κ) ?_
        refine own_go (S' := (T0.setTop (mkF m 22 #[.val (.ref a), .val (.int (0 : Int32)), .val (.int (Int32.ofNat N)), .val (.int (Int32.ofNat (S.length + 1))), .val (.int (Int32.ofNat (S.length + 1))), .val (.int x)] [(.int x)]))) (fun τ κ => XS.iload X0.here hx rfl (hb hby d7_20) rfl κ) ?_
        refine own_go (S' := (T0.setTop (mkF m 23 #[.val (.ref a), .val (.int (0 : Int32)), .val (.int (Int32.ofNat N)), .val (.int (Int32.ofNat (S.length + 1))), .val (.int (Int32.ofNat (S.length + 1))), .val (.int x)] [(.ref a), (.int x)]))) (fun τ κ => XS.aloadN X0.here hx rfl (hb hby d7_22) rfl rfl κ) ?_
        refine own_go (S' := (T0.setTop (mkF m 24 #[.val (.ref a), .val (.int (0 : Int32)), .val (.int (Int32.ofNat N)), .val (.int (Int32.ofNat (S.length + 1))), .val (.int (Int32.ofNat (S.length + 1))), .val (.int x)] [(.int (Int32.ofNat (S.length + 1))), (.ref a), (.int x)]))) (fun τ κ => XS.iloadN X0.here hx rfl (hb hby d7_23) rfl κ) ?_
        refine own_go (S' := (T0.setTop (mkF m 25 #[.val (.ref a), .val (.int (0 : Int32)), .val (.int (Int32.ofNat N)), .val (.int (Int32.ofNat (S.length + 1))), .val (.int (Int32.ofNat (S.length + 1))), .val (.int x)] [(.int (1 : Int32)), (.int (Int32.ofNat (S.length + 1))), (.ref a), (.int x)]))) (fun τ κ => XT.iconstV X0.here hx rfl (1 : Int32) (hb hby d7_24) (by decide) κ) ?_
        refine own_go (S' := (T0.setTop (mkF m 26 #[.val (.ref a), .val (.int (0 : Int32)), .val (.int (Int32.ofNat N)), .val (.int (Int32.ofNat (S.length + 1))), .val (.int (Int32.ofNat (S.length + 1))), .val (.int x)] [(.int ((Int32.ofNat (S.length + 1)) - (1 : Int32))), (.ref a), (.int x)]))) (fun τ κ => XS.isub X0.here hx rfl (hb hby d7_25) rfl κ) ?_
        refine own_go (S' := (T0.setTop (mkF m 27 #[.val (.ref a), .val (.int (0 : Int32)), .val (.int (Int32.ofNat N)), .val (.int (Int32.ofNat (S.length + 1))), .val (.int (Int32.ofNat (S.length + 1))), .val (.int x)] [(.int y), (.int x)]))) (own_iaload (j := ((Int32.ofNat (S.length + 1)) - (1 : Int32))) (v := (.int y)) A X0 hx hZ e0 (by rw [own_pred']; exact own_ofNat_nneg (by omega)) (i := S.length) (by rw [own_pred']; exact own_clamp (by omega)) (own_l0 S y _) (own_g0 S y _) (hb hby d7_26)) ?_
        refine own_go (S' := (T0.setTop (mkF m 64 #[.val (.ref a), .val (.int (0 : Int32)), .val (.int (Int32.ofNat N)), .val (.int (Int32.ofNat (S.length + 1))), .val (.int (Int32.ofNat (S.length + 1))), .val (.int x)] []))) (fun τ κ => XS.icmpYes X0.here hx rfl (pc0 := 27) (pc' := 64) rfl (hb hby d7_27) rfl (flt hc).2.1 (by decide) (by decide) κ) ?_
        refine own_go (S' := (T0.setTop (mkF m 3 #[.val (.ref a), .val (.int (0 : Int32)), .val (.int (Int32.ofNat N)), .val (.int (Int32.ofNat (S.length + 1))), .val (.int (Int32.ofNat (S.length + 1))), .val (.int x)] []))) (fun τ κ => XS.goto X0.here hx rfl (pc0 := 64) (pc' := 3) rfl (hb hby d7_64) (by decide) (by decide) κ) ?_
        rw [show S.length + 1 = (S ++ [y]).length from by simp]
        exact ih (S ++ [y]) x _ _ T0 _ _ (Or.inr ⟨_, _, rfl, rfl⟩) (by simp; omega) (own_snoc hS hyx) (by simpa using hp) X0 e0 (A.eq (by simp)) K N0
theorem pn_7 : plainName "java/util/DualPivotQuicksort" = true := by first | (simp [plainName, overriddenIn]; done) | decide +kernel
theorem ef_7 (m : MethodId) (a : Addr) (lo : Int32) (hi : Int32) : entryFrame m #[(.ref a), (.int lo), (.int hi)] 6 = mkF m 0 #[.val (.ref a), .val (.int lo), .val (.int hi), .unset, .unset, .unset] [] := by first | (simp [entryFrame, mkF, argsToLocals, Value.category]; done) | rfl
set_option maxRecDepth 65536 in
set_option maxHeartbeats 40000000 in
theorem rm7 (l : Launch) (Z : State) (a0 : Array Value) (hw : ∀ d ∈ tables_1, d.before a0 Z = true) (a : Addr) (xs : List Int32) (h0 : Heap) (n0 : Nat) (ga : n0 ≤ a) (hlen : xs.length < 2 ^ 31) (A : own_L Z h0 a .int (List.map Value.int xs)) : own_C l Z (⟨"java/util/DualPivotQuicksort", "insertionSort", "([III)V"⟩ : MethodName) jdk_2529_method_6_code 6 none ({ frames := 0, cells := 0, slots := 0, locals := 0 } : Room) #[(.ref a), (.int (0 : Int32)), (.int (Int32.ofNat xs.length))] h0 (fun v h L => v = none ∧ Fr n0 L ∧ ∃ ys : List Int32, ys.Perm xs ∧ own_sorted ys ∧ own_L Z h a .int (List.map Value.int ys) ∧ Keep h0 h [a]) := by
  refine MetFree.of_bodySF (plainFor_of_name pn_7) hisR ?_
  intro p e s m args below meth c s₁ Bd hml hP hK
  obtain ⟨rfl, hZ, hh⟩ := hP
  have hx := Bd.exec
  have hby := Bd.bytes
  have hown : s.vm.findClass "java/util/DualPivotQuicksort" = some m.cls := findClass_of_methodNamed Bd.named
  have hnm := (name_of_methodNamed Bd.named Bd.method).1
  have hret : meth.sig.returnType = none := Bd.returns
  have hlk := BodyLoose.notSynchronized Bd
  have X0 : Stand p l e ({ frames := 0, cells := 0, slots := 0, locals := 0 } : Room) s m #[(.ref a), (.int (0 : Int32)), (.int (Int32.ofNat xs.length))] below meth c s₁ [] 0 0 := Stand.of_body Bd
  have e0 : s₁.heap = h0 := by rw [← hh, Bd.state]; rfl
  show own_End p e below s (fun v h L => v = none ∧ Fr n0 L ∧ ∃ ys : List Int32, ys.Perm xs ∧ own_sorted ys ∧ own_L Z h a .int (List.map Value.int ys) ∧ Keep h0 h [a]) 0 0 (s₁.setTop (entryFrame m #[(.ref a), (.int (0 : Int32)), (.int (Int32.ofNat xs.length))] 6))
  refine own_cast (ef_7 m a 0 (Int32.ofNat xs.length)) ?_
  have N0 := Fr.nil n0
  have K := Keep.refl h0 [a]
  cases xs with
  | nil =>
    refine own_go (S' := (s₁.setTop (mkF m 1 #[.val (.ref a), .val (.int (0 : Int32)), .val (.int (Int32.ofNat ([] : List Int32).length)), .unset, .unset, .unset] [(.int (0 : Int32))]))) (fun τ κ => XS.iloadN X0.here hx rfl (hb hby d7_0) rfl κ) ?_
    refine own_go (S' := (s₁.setTop (mkF m 3 #[.val (.ref a), .val (.int (0 : Int32)), .val (.int (Int32.ofNat ([] : List Int32).length)), .unset, .val (.int (0 : Int32)), .unset] []))) (fun τ κ => XS.istore X0.here hx rfl (hb hby d7_1) rfl (l' := #[.val (.ref a), .val (.int (0 : Int32)), .val (.int (Int32.ofNat ([] : List Int32).length)), .unset, .val (.int (0 : Int32)), .unset]) rfl κ) ?_
    refine own_go (S' := (s₁.setTop (mkF m 6 #[.val (.ref a), .val (.int (0 : Int32)), .val (.int (Int32.ofNat ([] : List Int32).length)), .unset, .val (.int ((0 : Int32) + (1 : Int32))), .unset] []))) (fun τ κ => XT.iincV X0.here hx rfl (1 : Int32) (hb hby d7_3) (by decide) rfl (l' := #[.val (.ref a), .val (.int (0 : Int32)), .val (.int (Int32.ofNat ([] : List Int32).length)), .unset, .val (.int ((0 : Int32) + (1 : Int32))), .unset]) rfl κ) ?_
    refine own_go (S' := (s₁.setTop (mkF m 8 #[.val (.ref a), .val (.int (0 : Int32)), .val (.int (Int32.ofNat ([] : List Int32).length)), .unset, .val (.int ((0 : Int32) + (1 : Int32))), .unset] [(.int ((0 : Int32) + (1 : Int32)))]))) (fun τ κ => XS.iload X0.here hx rfl (hb hby d7_6) rfl κ) ?_
    refine own_go (S' := (s₁.setTop (mkF m 9 #[.val (.ref a), .val (.int (0 : Int32)), .val (.int (Int32.ofNat ([] : List Int32).length)), .unset, .val (.int ((0 : Int32) + (1 : Int32))), .unset] [(.int (Int32.ofNat ([] : List Int32).length)), (.int ((0 : Int32) + (1 : Int32)))]))) (fun τ κ => XS.iloadN X0.here hx rfl (hb hby d7_8) rfl κ) ?_
    refine own_go (S' := (s₁.setTop (mkF m 67 #[.val (.ref a), .val (.int (0 : Int32)), .val (.int (Int32.ofNat ([] : List Int32).length)), .unset, .val (.int ((0 : Int32) + (1 : Int32))), .unset] []))) (fun τ κ => XS.icmpYes X0.here hx rfl (pc0 := 9) (pc' := 67) rfl (hb hby d7_9) rfl (flt (by decide)).2.1 (by decide) (by decide) κ) ?_
    exact own_retV X0 hx hret hlk (hb hby d7_67) (by decide) (by decide) ⟨rfl, N0, [], List.Perm.refl _, List.Pairwise.nil, by rw [e0]; exact A, by rw [e0]; exact K⟩
  | cons y R =>
    refine own_go (S' := (s₁.setTop (mkF m 1 #[.val (.ref a), .val (.int (0 : Int32)), .val (.int (Int32.ofNat (y :: R).length)), .unset, .unset, .unset] [(.int (0 : Int32))]))) (fun τ κ => XS.iloadN X0.here hx rfl (hb hby d7_0) rfl κ) ?_
    refine own_go (S' := (s₁.setTop (mkF m 3 #[.val (.ref a), .val (.int (0 : Int32)), .val (.int (Int32.ofNat (y :: R).length)), .unset, .val (.int (0 : Int32)), .unset] []))) (fun τ κ => XS.istore X0.here hx rfl (hb hby d7_1) rfl (l' := #[.val (.ref a), .val (.int (0 : Int32)), .val (.int (Int32.ofNat (y :: R).length)), .unset, .val (.int (0 : Int32)), .unset]) rfl κ) ?_
    exact w7_3 hx hby hml hret hlk hown hZ hw ga hlen R [] y _ _ _ _ _ (Or.inl ⟨rfl, rfl⟩) rfl (List.pairwise_singleton _ _) (List.Perm.refl _) X0 e0 A K N0
theorem d6_0 : decode jdk_2529_method_4_code 0 = .ok (.iload 4, 2) := by decide +kernel
theorem d6_2 : decode jdk_2529_method_4_code 2 = .ok (.iconst 1, 1) := by decide +kernel
theorem d6_3 : decode jdk_2529_method_4_code 3 = .ok (.isub, 1) := by decide +kernel
theorem d6_4 : decode jdk_2529_method_4_code 4 = .ok (.istore 5, 2) := by decide +kernel
theorem d6_6 : decode jdk_2529_method_4_code 6 = .ok (.iload 4, 2) := by decide +kernel
theorem d6_8 : decode jdk_2529_method_4_code 8 = .ok (.iload_n 3, 1) := by decide +kernel
theorem d6_9 : decode jdk_2529_method_4_code 9 = .ok (.isub, 1) := by decide +kernel
theorem d6_10 : decode jdk_2529_method_4_code 10 = .ok (.istore 6, 2) := by decide +kernel
theorem d6_12 : decode jdk_2529_method_4_code 12 = .ok (.iload 6, 2) := by decide +kernel
theorem d6_14 : decode jdk_2529_method_4_code 14 = .ok (.bipush 65, 2) := by decide +kernel
theorem d6_16 : decode jdk_2529_method_4_code 16 = .ok (.iload_n 2, 1) := by decide +kernel
theorem d6_17 : decode jdk_2529_method_4_code 17 = .ok (.iadd, 1) := by decide +kernel
theorem d6_18 : decode jdk_2529_method_4_code 18 = .ok (.if_icmp .ge 28, 3) := by decide +kernel
theorem d6_21 : decode jdk_2529_method_4_code 21 = .ok (.iload_n 2, 1) := by decide +kernel
theorem d6_22 : decode jdk_2529_method_4_code 22 = .ok (.iconst 1, 1) := by decide +kernel
theorem d6_23 : decode jdk_2529_method_4_code 23 = .ok (.iand, 1) := by decide +kernel
theorem d6_24 : decode jdk_2529_method_4_code 24 = .ok (.ifCond .le 22, 3) := by decide +kernel
theorem d6_46 : decode jdk_2529_method_4_code 46 = .ok (.iload 6, 2) := by decide +kernel
theorem d6_48 : decode jdk_2529_method_4_code 48 = .ok (.bipush 44, 2) := by decide +kernel
theorem d6_50 : decode jdk_2529_method_4_code 50 = .ok (.if_icmp .ge 11, 3) := by decide +kernel
theorem d6_53 : decode jdk_2529_method_4_code 53 = .ok (.aload_n 1, 1) := by decide +kernel
theorem d6_54 : decode jdk_2529_method_4_code 54 = .ok (.iload_n 3, 1) := by decide +kernel
theorem d6_55 : decode jdk_2529_method_4_code 55 = .ok (.iload 4, 2) := by decide +kernel
theorem d6_57 : decode jdk_2529_method_4_code 57 = .ok (.invokestatic 34, 3) := by decide +kernel
theorem d6_60 : decode jdk_2529_method_4_code 60 = .ok (.return_, 1) := by decide +kernel
theorem pn_6 : plainName "java/util/DualPivotQuicksort" = true := by first | (simp [plainName, overriddenIn]; done) | decide +kernel
theorem ef_6 (m : MethodId) (a : Addr) (bits : Int32) (lo : Int32) (hi : Int32) : entryFrame m #[.null, (.ref a), (.int bits), (.int lo), (.int hi)] 21 = mkF m 0 #[.val .null, .val (.ref a), .val (.int bits), .val (.int lo), .val (.int hi), .unset, .unset, .unset, .unset, .unset, .unset, .unset, .unset, .unset, .unset, .unset, .unset, .unset, .unset, .unset, .unset] [] := by first | (simp [entryFrame, mkF, argsToLocals, Value.category]; done) | rfl
set_option maxRecDepth 65536 in
set_option maxHeartbeats 40000000 in
theorem rm6 (l : Launch) (Z : State) (a0 : Array Value) (hw : ∀ d ∈ tables_1, d.before a0 Z = true) (a : Addr) (xs : List Int32) (h0 : Heap) (n0 : Nat) (ga : n0 ≤ a) (hlen : xs.length < 40) (A : own_L Z h0 a .int (List.map Value.int xs)) : own_C l Z (⟨"java/util/DualPivotQuicksort", "sort", "(Ljava/util/DualPivotQuicksort$Sorter;[IIII)V"⟩ : MethodName) jdk_2529_method_4_code 21 none ({ frames := 1, cells := 0, slots := 0, locals := 17 } : Room) #[.null, (.ref a), (.int (0 : Int32)), (.int (0 : Int32)), (.int (Int32.ofNat xs.length))] h0 (fun v h L => v = none ∧ Fr n0 L ∧ ∃ ys : List Int32, ys.Perm xs ∧ own_sorted ys ∧ own_L Z h a .int (List.map Value.int ys) ∧ Keep h0 h [a]) := by
  refine MetFree.of_bodySF (plainFor_of_name pn_6) hisR ?_
  intro p e s m args below meth c s₁ Bd hml hP hK
  obtain ⟨rfl, hZ, hh⟩ := hP
  have hx := Bd.exec
  have hby := Bd.bytes
  have hown : s.vm.findClass "java/util/DualPivotQuicksort" = some m.cls := findClass_of_methodNamed Bd.named
  have hnm := (name_of_methodNamed Bd.named Bd.method).1
  have hret : meth.sig.returnType = none := Bd.returns
  have hlk := BodyLoose.notSynchronized Bd
  have X0 : Stand p l e ({ frames := 1, cells := 0, slots := 0, locals := 17 } : Room) s m #[.null, (.ref a), (.int (0 : Int32)), (.int (0 : Int32)), (.int (Int32.ofNat xs.length))] below meth c s₁ [] 0 0 := Stand.of_body Bd
  have e0 : s₁.heap = h0 := by rw [← hh, Bd.state]; rfl
  show own_End p e below s (fun v h L => v = none ∧ Fr n0 L ∧ ∃ ys : List Int32, ys.Perm xs ∧ own_sorted ys ∧ own_L Z h a .int (List.map Value.int ys) ∧ Keep h0 h [a]) 0 0 (s₁.setTop (entryFrame m #[.null, (.ref a), (.int (0 : Int32)), (.int (0 : Int32)), (.int (Int32.ofNat xs.length))] 21))
  refine own_cast (ef_6 m a (0 : Int32) (0 : Int32) (Int32.ofNat xs.length)) ?_
  have N0 := Fr.nil n0
  have hl31 : xs.length < 2 ^ 31 := by omega
  have hsz : Int32.ofNat xs.length - (0 : Int32) = Int32.ofNat xs.length := Int32.sub_zero _
  have h44 : Int32.ofNat xs.length - (0 : Int32) < (44 : Int32) := by
    rw [hsz, Int32.lt_iff_toInt_lt, own_ofNat_toInt hl31]
    have : (44 : Int32).toInt = 44 := by decide
    omega
  have h65 : Int32.ofNat xs.length - (0 : Int32) < (65 : Int32) := by
    rw [hsz, Int32.lt_iff_toInt_lt, own_ofNat_toInt hl31]
    have : (65 : Int32).toInt = 65 := by decide
    omega
  refine own_go (S' := (s₁.setTop (mkF m 2 #[.val .null, .val (.ref a), .val (.int (0 : Int32)), .val (.int (0 : Int32)), .val (.int (Int32.ofNat xs.length)), .unset, .unset, .unset, .unset, .unset, .unset, .unset, .unset, .unset, .unset, .unset, .unset, .unset, .unset, .unset, .unset] [(.int (Int32.ofNat xs.length))]))) (fun τ κ => XS.iload X0.here hx rfl (hb hby d6_0) rfl κ) ?_
  refine own_go (S' := (s₁.setTop (mkF m 3 #[.val .null, .val (.ref a), .val (.int (0 : Int32)), .val (.int (0 : Int32)), .val (.int (Int32.ofNat xs.length)), .unset, .unset, .unset, .unset, .unset, .unset, .unset, .unset, .unset, .unset, .unset, .unset, .unset, .unset, .unset, .unset] [(.int (1 : Int32)), (.int (Int32.ofNat xs.length))]))) (fun τ κ => XT.iconstV X0.here hx rfl (1 : Int32) (hb hby d6_2) (by decide) κ) ?_
  refine own_go (S' := (s₁.setTop (mkF m 4 #[.val .null, .val (.ref a), .val (.int (0 : Int32)), .val (.int (0 : Int32)), .val (.int (Int32.ofNat xs.length)), .unset, .unset, .unset, .unset, .unset, .unset, .unset, .unset, .unset, .unset, .unset, .unset, .unset, .unset, .unset, .unset] [(.int ((Int32.ofNat xs.length) - (1 : Int32)))]))) (fun τ κ => XS.isub X0.here hx rfl (hb hby d6_3) rfl κ) ?_
  refine own_go (S' := (s₁.setTop (mkF m 6 #[.val .null, .val (.ref a), .val (.int (0 : Int32)), .val (.int (0 : Int32)), .val (.int (Int32.ofNat xs.length)), .val (.int ((Int32.ofNat xs.length) - (1 : Int32))), .unset, .unset, .unset, .unset, .unset, .unset, .unset, .unset, .unset, .unset, .unset, .unset, .unset, .unset, .unset] []))) (fun τ κ => XS.istore X0.here hx rfl (hb hby d6_4) rfl (l' := #[.val .null, .val (.ref a), .val (.int (0 : Int32)), .val (.int (0 : Int32)), .val (.int (Int32.ofNat xs.length)), .val (.int ((Int32.ofNat xs.length) - (1 : Int32))), .unset, .unset, .unset, .unset, .unset, .unset, .unset, .unset, .unset, .unset, .unset, .unset, .unset, .unset, .unset]) rfl κ) ?_
  refine own_go (S' := (s₁.setTop (mkF m 8 #[.val .null, .val (.ref a), .val (.int (0 : Int32)), .val (.int (0 : Int32)), .val (.int (Int32.ofNat xs.length)), .val (.int ((Int32.ofNat xs.length) - (1 : Int32))), .unset, .unset, .unset, .unset, .unset, .unset, .unset, .unset, .unset, .unset, .unset, .unset, .unset, .unset, .unset] [(.int (Int32.ofNat xs.length))]))) (fun τ κ => XS.iload X0.here hx rfl (hb hby d6_6) rfl κ) ?_
  refine own_go (S' := (s₁.setTop (mkF m 9 #[.val .null, .val (.ref a), .val (.int (0 : Int32)), .val (.int (0 : Int32)), .val (.int (Int32.ofNat xs.length)), .val (.int ((Int32.ofNat xs.length) - (1 : Int32))), .unset, .unset, .unset, .unset, .unset, .unset, .unset, .unset, .unset, .unset, .unset, .unset, .unset, .unset, .unset] [(.int (0 : Int32)), (.int (Int32.ofNat xs.length))]))) (fun τ κ => XS.iloadN X0.here hx rfl (hb hby d6_8) rfl κ) ?_
  refine own_go (S' := (s₁.setTop (mkF m 10 #[.val .null, .val (.ref a), .val (.int (0 : Int32)), .val (.int (0 : Int32)), .val (.int (Int32.ofNat xs.length)), .val (.int ((Int32.ofNat xs.length) - (1 : Int32))), .unset, .unset, .unset, .unset, .unset, .unset, .unset, .unset, .unset, .unset, .unset, .unset, .unset, .unset, .unset] [(.int ((Int32.ofNat xs.length) - (0 : Int32)))]))) (fun τ κ => XS.isub X0.here hx rfl (hb hby d6_9) rfl κ) ?_
  refine own_go (S' := (s₁.setTop (mkF m 12 #[.val .null, .val (.ref a), .val (.int (0 : Int32)), .val (.int (0 : Int32)), .val (.int (Int32.ofNat xs.length)), .val (.int ((Int32.ofNat xs.length) - (1 : Int32))), .val (.int ((Int32.ofNat xs.length) - (0 : Int32))), .unset, .unset, .unset, .unset, .unset, .unset, .unset, .unset, .unset, .unset, .unset, .unset, .unset, .unset] []))) (fun τ κ => XS.istore X0.here hx rfl (hb hby d6_10) rfl (l' := #[.val .null, .val (.ref a), .val (.int (0 : Int32)), .val (.int (0 : Int32)), .val (.int (Int32.ofNat xs.length)), .val (.int ((Int32.ofNat xs.length) - (1 : Int32))), .val (.int ((Int32.ofNat xs.length) - (0 : Int32))), .unset, .unset, .unset, .unset, .unset, .unset, .unset, .unset, .unset, .unset, .unset, .unset, .unset, .unset]) rfl κ) ?_
  refine own_go (S' := (s₁.setTop (mkF m 14 #[.val .null, .val (.ref a), .val (.int (0 : Int32)), .val (.int (0 : Int32)), .val (.int (Int32.ofNat xs.length)), .val (.int ((Int32.ofNat xs.length) - (1 : Int32))), .val (.int ((Int32.ofNat xs.length) - (0 : Int32))), .unset, .unset, .unset, .unset, .unset, .unset, .unset, .unset, .unset, .unset, .unset, .unset, .unset, .unset] [(.int ((Int32.ofNat xs.length) - (0 : Int32)))]))) (fun τ κ => XS.iload X0.here hx rfl (hb hby d6_12) rfl κ) ?_
  refine own_go (S' := (s₁.setTop (mkF m 16 #[.val .null, .val (.ref a), .val (.int (0 : Int32)), .val (.int (0 : Int32)), .val (.int (Int32.ofNat xs.length)), .val (.int ((Int32.ofNat xs.length) - (1 : Int32))), .val (.int ((Int32.ofNat xs.length) - (0 : Int32))), .unset, .unset, .unset, .unset, .unset, .unset, .unset, .unset, .unset, .unset, .unset, .unset, .unset, .unset] [(.int (65 : Int32)), (.int ((Int32.ofNat xs.length) - (0 : Int32)))]))) (fun τ κ => XT.bipushV X0.here hx rfl (65 : Int32) (hb hby d6_14) (by decide) κ) ?_
  refine own_go (S' := (s₁.setTop (mkF m 17 #[.val .null, .val (.ref a), .val (.int (0 : Int32)), .val (.int (0 : Int32)), .val (.int (Int32.ofNat xs.length)), .val (.int ((Int32.ofNat xs.length) - (1 : Int32))), .val (.int ((Int32.ofNat xs.length) - (0 : Int32))), .unset, .unset, .unset, .unset, .unset, .unset, .unset, .unset, .unset, .unset, .unset, .unset, .unset, .unset] [(.int (0 : Int32)), (.int (65 : Int32)), (.int ((Int32.ofNat xs.length) - (0 : Int32)))]))) (fun τ κ => XS.iloadN X0.here hx rfl (hb hby d6_16) rfl κ) ?_
  refine own_go (S' := (s₁.setTop (mkF m 18 #[.val .null, .val (.ref a), .val (.int (0 : Int32)), .val (.int (0 : Int32)), .val (.int (Int32.ofNat xs.length)), .val (.int ((Int32.ofNat xs.length) - (1 : Int32))), .val (.int ((Int32.ofNat xs.length) - (0 : Int32))), .unset, .unset, .unset, .unset, .unset, .unset, .unset, .unset, .unset, .unset, .unset, .unset, .unset, .unset] [(.int (65 : Int32)), (.int ((Int32.ofNat xs.length) - (0 : Int32)))]))) (fun τ κ => XS.iadd X0.here hx rfl (hb hby d6_17) rfl κ) ?_
  refine own_go (S' := (s₁.setTop (mkF m 21 #[.val .null, .val (.ref a), .val (.int (0 : Int32)), .val (.int (0 : Int32)), .val (.int (Int32.ofNat xs.length)), .val (.int ((Int32.ofNat xs.length) - (1 : Int32))), .val (.int ((Int32.ofNat xs.length) - (0 : Int32))), .unset, .unset, .unset, .unset, .unset, .unset, .unset, .unset, .unset, .unset, .unset, .unset, .unset, .unset] []))) (fun τ κ => XS.icmpNo X0.here hx rfl (hb hby d6_18) rfl (tlt h65).2.1 κ) ?_
  refine own_go (S' := (s₁.setTop (mkF m 22 #[.val .null, .val (.ref a), .val (.int (0 : Int32)), .val (.int (0 : Int32)), .val (.int (Int32.ofNat xs.length)), .val (.int ((Int32.ofNat xs.length) - (1 : Int32))), .val (.int ((Int32.ofNat xs.length) - (0 : Int32))), .unset, .unset, .unset, .unset, .unset, .unset, .unset, .unset, .unset, .unset, .unset, .unset, .unset, .unset] [(.int (0 : Int32))]))) (fun τ κ => XS.iloadN X0.here hx rfl (hb hby d6_21) rfl κ) ?_
  refine own_go (S' := (s₁.setTop (mkF m 23 #[.val .null, .val (.ref a), .val (.int (0 : Int32)), .val (.int (0 : Int32)), .val (.int (Int32.ofNat xs.length)), .val (.int ((Int32.ofNat xs.length) - (1 : Int32))), .val (.int ((Int32.ofNat xs.length) - (0 : Int32))), .unset, .unset, .unset, .unset, .unset, .unset, .unset, .unset, .unset, .unset, .unset, .unset, .unset, .unset] [(.int (1 : Int32)), (.int (0 : Int32))]))) (fun τ κ => XT.iconstV X0.here hx rfl (1 : Int32) (hb hby d6_22) (by decide) κ) ?_
  refine own_go (S' := (s₁.setTop (mkF m 24 #[.val .null, .val (.ref a), .val (.int (0 : Int32)), .val (.int (0 : Int32)), .val (.int (Int32.ofNat xs.length)), .val (.int ((Int32.ofNat xs.length) - (1 : Int32))), .val (.int ((Int32.ofNat xs.length) - (0 : Int32))), .unset, .unset, .unset, .unset, .unset, .unset, .unset, .unset, .unset, .unset, .unset, .unset, .unset, .unset] [(.int (0 : Int32))]))) (fun τ κ => XS.iand X0.here hx rfl (hb hby d6_23) rfl κ) ?_
  refine own_go (S' := (s₁.setTop (mkF m 46 #[.val .null, .val (.ref a), .val (.int (0 : Int32)), .val (.int (0 : Int32)), .val (.int (Int32.ofNat xs.length)), .val (.int ((Int32.ofNat xs.length) - (1 : Int32))), .val (.int ((Int32.ofNat xs.length) - (0 : Int32))), .unset, .unset, .unset, .unset, .unset, .unset, .unset, .unset, .unset, .unset, .unset, .unset, .unset, .unset] []))) (fun τ κ => XS.ifYes X0.here hx rfl (pc0 := 24) (pc' := 46) rfl (hb hby d6_24) rfl ((if0 _ _).trans (flt (by decide)).2.2.2) (by decide) (by decide) κ) ?_
  refine own_go (S' := (s₁.setTop (mkF m 48 #[.val .null, .val (.ref a), .val (.int (0 : Int32)), .val (.int (0 : Int32)), .val (.int (Int32.ofNat xs.length)), .val (.int ((Int32.ofNat xs.length) - (1 : Int32))), .val (.int ((Int32.ofNat xs.length) - (0 : Int32))), .unset, .unset, .unset, .unset, .unset, .unset, .unset, .unset, .unset, .unset, .unset, .unset, .unset, .unset] [(.int ((Int32.ofNat xs.length) - (0 : Int32)))]))) (fun τ κ => XS.iload X0.here hx rfl (hb hby d6_46) rfl κ) ?_
  refine own_go (S' := (s₁.setTop (mkF m 50 #[.val .null, .val (.ref a), .val (.int (0 : Int32)), .val (.int (0 : Int32)), .val (.int (Int32.ofNat xs.length)), .val (.int ((Int32.ofNat xs.length) - (1 : Int32))), .val (.int ((Int32.ofNat xs.length) - (0 : Int32))), .unset, .unset, .unset, .unset, .unset, .unset, .unset, .unset, .unset, .unset, .unset, .unset, .unset, .unset] [(.int (44 : Int32)), (.int ((Int32.ofNat xs.length) - (0 : Int32)))]))) (fun τ κ => XT.bipushV X0.here hx rfl (44 : Int32) (hb hby d6_48) (by decide) κ) ?_
  refine own_go (S' := (s₁.setTop (mkF m 53 #[.val .null, .val (.ref a), .val (.int (0 : Int32)), .val (.int (0 : Int32)), .val (.int (Int32.ofNat xs.length)), .val (.int ((Int32.ofNat xs.length) - (1 : Int32))), .val (.int ((Int32.ofNat xs.length) - (0 : Int32))), .unset, .unset, .unset, .unset, .unset, .unset, .unset, .unset, .unset, .unset, .unset, .unset, .unset, .unset] []))) (fun τ κ => XS.icmpNo X0.here hx rfl (hb hby d6_50) rfl (tlt h44).2.1 κ) ?_
  refine own_go (S' := (s₁.setTop (mkF m 54 #[.val .null, .val (.ref a), .val (.int (0 : Int32)), .val (.int (0 : Int32)), .val (.int (Int32.ofNat xs.length)), .val (.int ((Int32.ofNat xs.length) - (1 : Int32))), .val (.int ((Int32.ofNat xs.length) - (0 : Int32))), .unset, .unset, .unset, .unset, .unset, .unset, .unset, .unset, .unset, .unset, .unset, .unset, .unset, .unset] [(.ref a)]))) (fun τ κ => XS.aloadN X0.here hx rfl (hb hby d6_53) rfl rfl κ) ?_
  refine own_go (S' := (s₁.setTop (mkF m 55 #[.val .null, .val (.ref a), .val (.int (0 : Int32)), .val (.int (0 : Int32)), .val (.int (Int32.ofNat xs.length)), .val (.int ((Int32.ofNat xs.length) - (1 : Int32))), .val (.int ((Int32.ofNat xs.length) - (0 : Int32))), .unset, .unset, .unset, .unset, .unset, .unset, .unset, .unset, .unset, .unset, .unset, .unset, .unset, .unset] [(.int (0 : Int32)), (.ref a)]))) (fun τ κ => XS.iloadN X0.here hx rfl (hb hby d6_54) rfl κ) ?_
  refine own_go (S' := (s₁.setTop (mkF m 57 #[.val .null, .val (.ref a), .val (.int (0 : Int32)), .val (.int (0 : Int32)), .val (.int (Int32.ofNat xs.length)), .val (.int ((Int32.ofNat xs.length) - (1 : Int32))), .val (.int ((Int32.ofNat xs.length) - (0 : Int32))), .unset, .unset, .unset, .unset, .unset, .unset, .unset, .unset, .unset, .unset, .unset, .unset, .unset, .unset] [(.int (Int32.ofNat xs.length)), (.int (0 : Int32)), (.ref a)]))) (fun τ κ => XS.iload X0.here hx rfl (hb hby d6_55) rfl κ) ?_
  obtain ⟨v1, T1, L1, X1, hQ1, st1⟩ := own_callS X0 hx hZ (y := (⟨"java/util/DualPivotQuicksort", "insertionSort", "([III)V"⟩ : MethodName)) hown (hw _ (List.mem_of_getElem? (i := 25) rfl)) (hw _ (List.mem_of_getElem? (i := 26) rfl)) (hw _ (List.mem_of_getElem? (i := 20) rfl)) (hw _ (List.mem_of_getElem? (i := 27) rfl)) (rm7 l Z a0 hw a xs h0 n0 ga hl31 A) e0 (st := [(.int (Int32.ofNat xs.length)), (.int (0 : Int32)), (.ref a)]) (argsL := [(.ref a), (.int (0 : Int32)), (.int (Int32.ofNat xs.length))]) (rest := []) (Ls := #[.val .null, .val (.ref a), .val (.int (0 : Int32)), .val (.int (0 : Int32)), .val (.int (Int32.ofNat xs.length)), .val (.int ((Int32.ofNat xs.length) - (1 : Int32))), .val (.int ((Int32.ofNat xs.length) - (0 : Int32))), .unset, .unset, .unset, .unset, .unset, .unset, .unset, .unset, .unset, .unset, .unset, .unset, .unset, .unset]) (hb hby d6_57) pd_0 0 (by rw [hml]; rfl) (by decide) rfl rfl rfl (Nat.le_of_eq rfl) (by decide) (by decide) (by decide) (by decide)
  obtain ⟨rfl, Nq1, ys, hp, hs, A', K'⟩ := hQ1
  refine own_go (S' := (T1.setTop (mkF m 60 #[.val .null, .val (.ref a), .val (.int (0 : Int32)), .val (.int (0 : Int32)), .val (.int (Int32.ofNat xs.length)), .val (.int ((Int32.ofNat xs.length) - (1 : Int32))), .val (.int ((Int32.ofNat xs.length) - (0 : Int32))), .unset, .unset, .unset, .unset, .unset, .unset, .unset, .unset, .unset, .unset, .unset, .unset, .unset, .unset] []))) st1 ?_
  exact own_retV X1 hx hret hlk (hb hby d6_60) (by decide) (by decide) ⟨rfl, (Fr.app N0 Nq1), ys, hp, hs, A', K'⟩
theorem d5_0 : decode jdk_2529_method_3_code 0 = .ok (.iload_n 3, 1) := by decide +kernel
theorem d5_1 : decode jdk_2529_method_3_code 1 = .ok (.iload_n 2, 1) := by decide +kernel
theorem d5_2 : decode jdk_2529_method_3_code 2 = .ok (.isub, 1) := by decide +kernel
theorem d5_3 : decode jdk_2529_method_3_code 3 = .ok (.istore 4, 2) := by decide +kernel
theorem d5_5 : decode jdk_2529_method_3_code 5 = .ok (.iload_n 1, 1) := by decide +kernel
theorem d5_6 : decode jdk_2529_method_3_code 6 = .ok (.iconst 1, 1) := by decide +kernel
theorem d5_7 : decode jdk_2529_method_3_code 7 = .ok (.if_icmp .le 61, 3) := by decide +kernel
theorem d5_68 : decode jdk_2529_method_3_code 68 = .ok (.aconst_null, 1) := by decide +kernel
theorem d5_69 : decode jdk_2529_method_3_code 69 = .ok (.aload_n 0, 1) := by decide +kernel
theorem d5_70 : decode jdk_2529_method_3_code 70 = .ok (.iconst 0, 1) := by decide +kernel
theorem d5_71 : decode jdk_2529_method_3_code 71 = .ok (.iload_n 2, 1) := by decide +kernel
theorem d5_72 : decode jdk_2529_method_3_code 72 = .ok (.iload_n 3, 1) := by decide +kernel
theorem d5_73 : decode jdk_2529_method_3_code 73 = .ok (.invokestatic 26, 3) := by decide +kernel
theorem d5_76 : decode jdk_2529_method_3_code 76 = .ok (.return_, 1) := by decide +kernel
theorem pn_5 : plainName "java/util/DualPivotQuicksort" = true := by first | (simp [plainName, overriddenIn]; done) | decide +kernel
theorem ef_5 (m : MethodId) (a : Addr) (par : Int32) (lo : Int32) (hi : Int32) : entryFrame m #[(.ref a), (.int par), (.int lo), (.int hi)] 7 = mkF m 0 #[.val (.ref a), .val (.int par), .val (.int lo), .val (.int hi), .unset, .unset, .unset] [] := by first | (simp [entryFrame, mkF, argsToLocals, Value.category]; done) | rfl
set_option maxRecDepth 65536 in
set_option maxHeartbeats 40000000 in
theorem rm5 (l : Launch) (Z : State) (a0 : Array Value) (hw : ∀ d ∈ tables_1, d.before a0 Z = true) (a : Addr) (xs : List Int32) (h0 : Heap) (n0 : Nat) (ga : n0 ≤ a) (hlen : xs.length < 40) (A : own_L Z h0 a .int (List.map Value.int xs)) : own_C l Z (⟨"java/util/DualPivotQuicksort", "sort", "([IIII)V"⟩ : MethodName) jdk_2529_method_3_code 7 none ({ frames := 2, cells := 0, slots := 0, locals := 49 } : Room) #[(.ref a), (.int (0 : Int32)), (.int (0 : Int32)), (.int (Int32.ofNat xs.length))] h0 (fun v h L => v = none ∧ Fr n0 L ∧ ∃ ys : List Int32, ys.Perm xs ∧ own_sorted ys ∧ own_L Z h a .int (List.map Value.int ys) ∧ Keep h0 h [a]) := by
  refine MetFree.of_bodySF (plainFor_of_name pn_5) hisR ?_
  intro p e s m args below meth c s₁ Bd hml hP hK
  obtain ⟨rfl, hZ, hh⟩ := hP
  have hx := Bd.exec
  have hby := Bd.bytes
  have hown : s.vm.findClass "java/util/DualPivotQuicksort" = some m.cls := findClass_of_methodNamed Bd.named
  have hnm := (name_of_methodNamed Bd.named Bd.method).1
  have hret : meth.sig.returnType = none := Bd.returns
  have hlk := BodyLoose.notSynchronized Bd
  have X0 : Stand p l e ({ frames := 2, cells := 0, slots := 0, locals := 49 } : Room) s m #[(.ref a), (.int (0 : Int32)), (.int (0 : Int32)), (.int (Int32.ofNat xs.length))] below meth c s₁ [] 0 0 := Stand.of_body Bd
  have e0 : s₁.heap = h0 := by rw [← hh, Bd.state]; rfl
  show own_End p e below s (fun v h L => v = none ∧ Fr n0 L ∧ ∃ ys : List Int32, ys.Perm xs ∧ own_sorted ys ∧ own_L Z h a .int (List.map Value.int ys) ∧ Keep h0 h [a]) 0 0 (s₁.setTop (entryFrame m #[(.ref a), (.int (0 : Int32)), (.int (0 : Int32)), (.int (Int32.ofNat xs.length))] 7))
  refine own_cast (ef_5 m a (0 : Int32) (0 : Int32) (Int32.ofNat xs.length)) ?_
  have N0 := Fr.nil n0
  have hl31 : xs.length < 2 ^ 31 := by omega
  refine own_go (S' := (s₁.setTop (mkF m 1 #[.val (.ref a), .val (.int (0 : Int32)), .val (.int (0 : Int32)), .val (.int (Int32.ofNat xs.length)), .unset, .unset, .unset] [(.int (Int32.ofNat xs.length))]))) (fun τ κ => XS.iloadN X0.here hx rfl (hb hby d5_0) rfl κ) ?_
  refine own_go (S' := (s₁.setTop (mkF m 2 #[.val (.ref a), .val (.int (0 : Int32)), .val (.int (0 : Int32)), .val (.int (Int32.ofNat xs.length)), .unset, .unset, .unset] [(.int (0 : Int32)), (.int (Int32.ofNat xs.length))]))) (fun τ κ => XS.iloadN X0.here hx rfl (hb hby d5_1) rfl κ) ?_
  refine own_go (S' := (s₁.setTop (mkF m 3 #[.val (.ref a), .val (.int (0 : Int32)), .val (.int (0 : Int32)), .val (.int (Int32.ofNat xs.length)), .unset, .unset, .unset] [(.int ((Int32.ofNat xs.length) - (0 : Int32)))]))) (fun τ κ => XS.isub X0.here hx rfl (hb hby d5_2) rfl κ) ?_
  refine own_go (S' := (s₁.setTop (mkF m 5 #[.val (.ref a), .val (.int (0 : Int32)), .val (.int (0 : Int32)), .val (.int (Int32.ofNat xs.length)), .val (.int ((Int32.ofNat xs.length) - (0 : Int32))), .unset, .unset] []))) (fun τ κ => XS.istore X0.here hx rfl (hb hby d5_3) rfl (l' := #[.val (.ref a), .val (.int (0 : Int32)), .val (.int (0 : Int32)), .val (.int (Int32.ofNat xs.length)), .val (.int ((Int32.ofNat xs.length) - (0 : Int32))), .unset, .unset]) rfl κ) ?_
  refine own_go (S' := (s₁.setTop (mkF m 6 #[.val (.ref a), .val (.int (0 : Int32)), .val (.int (0 : Int32)), .val (.int (Int32.ofNat xs.length)), .val (.int ((Int32.ofNat xs.length) - (0 : Int32))), .unset, .unset] [(.int (0 : Int32))]))) (fun τ κ => XS.iloadN X0.here hx rfl (hb hby d5_5) rfl κ) ?_
  refine own_go (S' := (s₁.setTop (mkF m 7 #[.val (.ref a), .val (.int (0 : Int32)), .val (.int (0 : Int32)), .val (.int (Int32.ofNat xs.length)), .val (.int ((Int32.ofNat xs.length) - (0 : Int32))), .unset, .unset] [(.int (1 : Int32)), (.int (0 : Int32))]))) (fun τ κ => XT.iconstV X0.here hx rfl (1 : Int32) (hb hby d5_6) (by decide) κ) ?_
  refine own_go (S' := (s₁.setTop (mkF m 68 #[.val (.ref a), .val (.int (0 : Int32)), .val (.int (0 : Int32)), .val (.int (Int32.ofNat xs.length)), .val (.int ((Int32.ofNat xs.length) - (0 : Int32))), .unset, .unset] []))) (fun τ κ => XS.icmpYes X0.here hx rfl (pc0 := 7) (pc' := 68) rfl (hb hby d5_7) rfl (flt (by decide)).2.2.2 (by decide) (by decide) κ) ?_
  refine own_go (S' := (s₁.setTop (mkF m 69 #[.val (.ref a), .val (.int (0 : Int32)), .val (.int (0 : Int32)), .val (.int (Int32.ofNat xs.length)), .val (.int ((Int32.ofNat xs.length) - (0 : Int32))), .unset, .unset] [.null]))) (fun τ κ => XS.aconstNull X0.here hx rfl (hb hby d5_68) κ) ?_
  refine own_go (S' := (s₁.setTop (mkF m 70 #[.val (.ref a), .val (.int (0 : Int32)), .val (.int (0 : Int32)), .val (.int (Int32.ofNat xs.length)), .val (.int ((Int32.ofNat xs.length) - (0 : Int32))), .unset, .unset] [(.ref a), .null]))) (fun τ κ => XS.aloadN X0.here hx rfl (hb hby d5_69) rfl rfl κ) ?_
  refine own_go (S' := (s₁.setTop (mkF m 71 #[.val (.ref a), .val (.int (0 : Int32)), .val (.int (0 : Int32)), .val (.int (Int32.ofNat xs.length)), .val (.int ((Int32.ofNat xs.length) - (0 : Int32))), .unset, .unset] [(.int (0 : Int32)), (.ref a), .null]))) (fun τ κ => XT.iconstV X0.here hx rfl (0 : Int32) (hb hby d5_70) (by decide) κ) ?_
  refine own_go (S' := (s₁.setTop (mkF m 72 #[.val (.ref a), .val (.int (0 : Int32)), .val (.int (0 : Int32)), .val (.int (Int32.ofNat xs.length)), .val (.int ((Int32.ofNat xs.length) - (0 : Int32))), .unset, .unset] [(.int (0 : Int32)), (.int (0 : Int32)), (.ref a), .null]))) (fun τ κ => XS.iloadN X0.here hx rfl (hb hby d5_71) rfl κ) ?_
  refine own_go (S' := (s₁.setTop (mkF m 73 #[.val (.ref a), .val (.int (0 : Int32)), .val (.int (0 : Int32)), .val (.int (Int32.ofNat xs.length)), .val (.int ((Int32.ofNat xs.length) - (0 : Int32))), .unset, .unset] [(.int (Int32.ofNat xs.length)), (.int (0 : Int32)), (.int (0 : Int32)), (.ref a), .null]))) (fun τ κ => XS.iloadN X0.here hx rfl (hb hby d5_72) rfl κ) ?_
  obtain ⟨v1, T1, L1, X1, hQ1, st1⟩ := own_callS X0 hx hZ (y := (⟨"java/util/DualPivotQuicksort", "sort", "(Ljava/util/DualPivotQuicksort$Sorter;[IIII)V"⟩ : MethodName)) hown (hw _ (List.mem_of_getElem? (i := 22) rfl)) (hw _ (List.mem_of_getElem? (i := 23) rfl)) (hw _ (List.mem_of_getElem? (i := 20) rfl)) (hw _ (List.mem_of_getElem? (i := 24) rfl)) (rm6 l Z a0 hw a xs h0 n0 ga hlen A) e0 (st := [(.int (Int32.ofNat xs.length)), (.int (0 : Int32)), (.int (0 : Int32)), (.ref a), .null]) (argsL := [.null, (.ref a), (.int (0 : Int32)), (.int (0 : Int32)), (.int (Int32.ofNat xs.length))]) (rest := []) (Ls := #[.val (.ref a), .val (.int (0 : Int32)), .val (.int (0 : Int32)), .val (.int (Int32.ofNat xs.length)), .val (.int ((Int32.ofNat xs.length) - (0 : Int32))), .unset, .unset]) (hb hby d5_73) pd_1 0 (by rw [hml]; rfl) (by decide) rfl rfl rfl (Nat.le_of_eq rfl) (by decide) (by decide) (by decide) (by decide)
  obtain ⟨rfl, Nq1, ys, hp, hs, A', K'⟩ := hQ1
  refine own_go (S' := (T1.setTop (mkF m 76 #[.val (.ref a), .val (.int (0 : Int32)), .val (.int (0 : Int32)), .val (.int (Int32.ofNat xs.length)), .val (.int ((Int32.ofNat xs.length) - (0 : Int32))), .unset, .unset] []))) st1 ?_
  exact own_retV X1 hx hret hlk (hb hby d5_76) (by decide) (by decide) ⟨rfl, (Fr.app N0 Nq1), ys, hp, hs, A', K'⟩
theorem d4_0 : decode jdk_65_method_2_code 0 = .ok (.aload_n 0, 1) := by decide +kernel
theorem d4_1 : decode jdk_65_method_2_code 1 = .ok (.iconst 0, 1) := by decide +kernel
theorem d4_2 : decode jdk_65_method_2_code 2 = .ok (.iconst 0, 1) := by decide +kernel
theorem d4_3 : decode jdk_65_method_2_code 3 = .ok (.aload_n 0, 1) := by decide +kernel
theorem d4_4 : decode jdk_65_method_2_code 4 = .ok (.arraylength, 1) := by decide +kernel
theorem d4_5 : decode jdk_65_method_2_code 5 = .ok (.invokestatic 7, 3) := by decide +kernel
theorem d4_8 : decode jdk_65_method_2_code 8 = .ok (.return_, 1) := by decide +kernel
theorem pn_4 : plainName "java/util/Arrays" = true := by first | (simp [plainName, overriddenIn]; done) | decide +kernel
theorem ef_4 (m : MethodId) (a : Addr) : entryFrame m #[(.ref a)] 1 = mkF m 0 #[.val (.ref a)] [] := by first | (simp [entryFrame, mkF, argsToLocals, Value.category]; done) | rfl
set_option maxRecDepth 65536 in
set_option maxHeartbeats 40000000 in
theorem rm4 (l : Launch) (Z : State) (a0 : Array Value) (hw : ∀ d ∈ tables_1, d.before a0 Z = true) (a : Addr) (xs : List Int32) (h0 : Heap) (n0 : Nat) (ga : n0 ≤ a) (hlen : xs.length < 40) (A : own_L Z h0 a .int (List.map Value.int xs)) : own_C l Z (⟨"java/util/Arrays", "sort", "([I)V"⟩ : MethodName) jdk_65_method_2_code 1 none ({ frames := 3, cells := 0, slots := 0, locals := 67 } : Room) #[(.ref a)] h0 (fun v h L => v = none ∧ Fr n0 L ∧ ∃ ys : List Int32, ys.Perm xs ∧ own_sorted ys ∧ own_L Z h a .int (List.map Value.int ys) ∧ Keep h0 h [a]) := by
  refine MetFree.of_bodySF (plainFor_of_name pn_4) hisR ?_
  intro p e s m args below meth c s₁ Bd hml hP hK
  obtain ⟨rfl, hZ, hh⟩ := hP
  have hx := Bd.exec
  have hby := Bd.bytes
  have hown : s.vm.findClass "java/util/Arrays" = some m.cls := findClass_of_methodNamed Bd.named
  have hnm := (name_of_methodNamed Bd.named Bd.method).1
  have hret : meth.sig.returnType = none := Bd.returns
  have hlk := BodyLoose.notSynchronized Bd
  have X0 : Stand p l e ({ frames := 3, cells := 0, slots := 0, locals := 67 } : Room) s m #[(.ref a)] below meth c s₁ [] 0 0 := Stand.of_body Bd
  have e0 : s₁.heap = h0 := by rw [← hh, Bd.state]; rfl
  show own_End p e below s (fun v h L => v = none ∧ Fr n0 L ∧ ∃ ys : List Int32, ys.Perm xs ∧ own_sorted ys ∧ own_L Z h a .int (List.map Value.int ys) ∧ Keep h0 h [a]) 0 0 (s₁.setTop (entryFrame m #[(.ref a)] 1))
  refine own_cast (ef_4 m a) ?_
  have N0 := Fr.nil n0
  have hl31 : xs.length < 2 ^ 31 := by omega
  refine own_go (S' := (s₁.setTop (mkF m 1 #[.val (.ref a)] [(.ref a)]))) (fun τ κ => XS.aloadN X0.here hx rfl (hb hby d4_0) rfl rfl κ) ?_
  refine own_go (S' := (s₁.setTop (mkF m 2 #[.val (.ref a)] [(.int (0 : Int32)), (.ref a)]))) (fun τ κ => XT.iconstV X0.here hx rfl (0 : Int32) (hb hby d4_1) (by decide) κ) ?_
  refine own_go (S' := (s₁.setTop (mkF m 3 #[.val (.ref a)] [(.int (0 : Int32)), (.int (0 : Int32)), (.ref a)]))) (fun τ κ => XT.iconstV X0.here hx rfl (0 : Int32) (hb hby d4_2) (by decide) κ) ?_
  refine own_go (S' := (s₁.setTop (mkF m 4 #[.val (.ref a)] [(.ref a), (.int (0 : Int32)), (.int (0 : Int32)), (.ref a)]))) (fun τ κ => XS.aloadN X0.here hx rfl (hb hby d4_3) rfl rfl κ) ?_
  refine own_go (S' := (s₁.setTop (mkF m 5 #[.val (.ref a)] [(.int (Int32.ofNat xs.length)), (.int (0 : Int32)), (.int (0 : Int32)), (.ref a)]))) (own_len A own_lenI X0 hx hZ e0 (hb hby d4_4)) ?_
  obtain ⟨v1, T1, L1, X1, hQ1, st1⟩ := own_callS X0 hx hZ (y := (⟨"java/util/DualPivotQuicksort", "sort", "([IIII)V"⟩ : MethodName)) hown (hw _ (List.mem_of_getElem? (i := 18) rfl)) (hw _ (List.mem_of_getElem? (i := 19) rfl)) (hw _ (List.mem_of_getElem? (i := 20) rfl)) (hw _ (List.mem_of_getElem? (i := 21) rfl)) (rm5 l Z a0 hw a xs h0 n0 ga hlen A) e0 (st := [(.int (Int32.ofNat xs.length)), (.int (0 : Int32)), (.int (0 : Int32)), (.ref a)]) (argsL := [(.ref a), (.int (0 : Int32)), (.int (0 : Int32)), (.int (Int32.ofNat xs.length))]) (rest := []) (Ls := #[.val (.ref a)]) (hb hby d4_5) pd_2 0 (by rw [hml]; rfl) (by decide) rfl rfl rfl (Nat.le_of_eq rfl) (by decide) (by decide) (by decide) (by decide)
  obtain ⟨rfl, Nq1, ys, hp, hs, A', K'⟩ := hQ1
  refine own_go (S' := (T1.setTop (mkF m 8 #[.val (.ref a)] []))) st1 ?_
  exact own_retV X1 hx hret hlk (hb hby d4_8) (by decide) (by decide) ⟨rfl, (Fr.app N0 Nq1), ys, hp, hs, A', K'⟩
theorem own_mapD {xs : List Int32} {i : Nat} (h : i < xs.length) : (List.map Value.int xs)[i]? = some (.int (xs.getD i 0)) := by
  simp [List.getD_eq_getElem?_getD, h]
theorem d2_0 : decode prog_29_method_1_code 0 = .ok (.aload_n 0, 1) := by decide +kernel
theorem d2_1 : decode prog_29_method_1_code 1 = .ok (.invokespecial 1, 3) := by decide +kernel
theorem d2_4 : decode prog_29_method_1_code 4 = .ok (.aload_n 1, 1) := by decide +kernel
theorem d2_5 : decode prog_29_method_1_code 5 = .ok (.invokestatic 7, 3) := by decide +kernel
theorem d2_8 : decode prog_29_method_1_code 8 = .ok (.aload_n 0, 1) := by decide +kernel
theorem d2_9 : decode prog_29_method_1_code 9 = .ok (.aload_n 1, 1) := by decide +kernel
theorem d2_10 : decode prog_29_method_1_code 10 = .ok (.putfield 13, 3) := by decide +kernel
theorem d2_13 : decode prog_29_method_1_code 13 = .ok (.iconst 0, 1) := by decide +kernel
theorem d2_14 : decode prog_29_method_1_code 14 = .ok (.istore_n 2, 1) := by decide +kernel
theorem d2_15 : decode prog_29_method_1_code 15 = .ok (.iload_n 2, 1) := by decide +kernel
theorem d2_16 : decode prog_29_method_1_code 16 = .ok (.aload_n 1, 1) := by decide +kernel
theorem d2_17 : decode prog_29_method_1_code 17 = .ok (.arraylength, 1) := by decide +kernel
theorem d2_18 : decode prog_29_method_1_code 18 = .ok (.if_icmp .ge 15, 3) := by decide +kernel
theorem d2_21 : decode prog_29_method_1_code 21 = .ok (.aload_n 1, 1) := by decide +kernel
theorem d2_22 : decode prog_29_method_1_code 22 = .ok (.iload_n 2, 1) := by decide +kernel
theorem d2_23 : decode prog_29_method_1_code 23 = .ok (.iaload, 1) := by decide +kernel
theorem d2_24 : decode prog_29_method_1_code 24 = .ok (.ifCond .ge 9, 3) := by decide +kernel
theorem d2_27 : decode prog_29_method_1_code 27 = .ok (.iinc 2 1, 3) := by decide +kernel
theorem d2_30 : decode prog_29_method_1_code 30 = .ok (.goto (-15), 3) := by decide +kernel
theorem d2_33 : decode prog_29_method_1_code 33 = .ok (.aload_n 0, 1) := by decide +kernel
theorem d2_34 : decode prog_29_method_1_code 34 = .ok (.iload_n 2, 1) := by decide +kernel
theorem d2_35 : decode prog_29_method_1_code 35 = .ok (.putfield 19, 3) := by decide +kernel
theorem d2_38 : decode prog_29_method_1_code 38 = .ok (.return_, 1) := by decide +kernel
theorem pn_2 : plainName "com/example/twinhash/twinhash/shingle/ShingleSet" = true := by first | (simp [plainName, overriddenIn]; done) | decide +kernel
theorem ef_2 (m : MethodId) (a : Addr) (ca : Addr) : entryFrame m #[(.ref a), (.ref ca)] 3 = mkF m 0 #[.val (.ref a), .val (.ref ca), .unset] [] := by first | (simp [entryFrame, mkF, argsToLocals, Value.category]; done) | rfl
set_option maxRecDepth 65536 in
set_option maxHeartbeats 40000000 in
theorem rm2 (l : Launch) (Z : State) (a0 : Array Value) (hw : ∀ d ∈ tables_1, d.before a0 Z = true) (a : Addr) (ca : Addr) (xs : List Int32) (h0 : Heap) (n0 : Nat) (ga : n0 ≤ a) (gc : n0 ≤ ca) (nac : a ≠ ca) (hlen : xs.length < 40) (E0 : Exa Z h0 a "com/example/twinhash/twinhash/shingle/ShingleSet") (F1 : Fld Z h0 a "com/example/twinhash/twinhash/shingle/ShingleSet" "codes" "[I" .null) (F2 : Fld Z h0 a "com/example/twinhash/twinhash/shingle/ShingleSet" "firstSeen" "I" (.int (0 : Int32))) (A : own_L Z h0 ca .int (List.map Value.int xs)) : own_C l Z (⟨"com/example/twinhash/twinhash/shingle/ShingleSet", "<init>", "([I)V"⟩ : MethodName) prog_29_method_1_code 3 none ({ frames := 4, cells := 0, slots := 0, locals := 79 } : Room) #[(.ref a), (.ref ca)] h0 (fun v h L => v = none ∧ Fr n0 L ∧ ∃ (ys : List Int32) (f : Nat), ys.Perm xs ∧ own_sorted ys ∧ f ≤ ys.length ∧ (∀ j, j < f → (ys.getD j 0).toInt < 0) ∧ (f < ys.length → 0 ≤ (ys.getD f 0).toInt) ∧ Exa Z h a "com/example/twinhash/twinhash/shingle/ShingleSet" ∧ Fld Z h a "com/example/twinhash/twinhash/shingle/ShingleSet" "codes" "[I" (.ref ca) ∧ Fld Z h a "com/example/twinhash/twinhash/shingle/ShingleSet" "firstSeen" "I" (.int (Int32.ofNat f)) ∧ own_L Z h ca .int (List.map Value.int ys) ∧ Keep h0 h [a, ca]) := by
  refine MetFree.of_bodySF (plainFor_of_name pn_2) hisR ?_
  intro p e s m args below meth c s₁ Bd hml hP hK
  obtain ⟨rfl, hZ, hh⟩ := hP
  have hx := Bd.exec
  have hby := Bd.bytes
  have hown : s.vm.findClass "com/example/twinhash/twinhash/shingle/ShingleSet" = some m.cls := findClass_of_methodNamed Bd.named
  have hnm := (name_of_methodNamed Bd.named Bd.method).1
  have hret : meth.sig.returnType = none := Bd.returns
  have hlk := BodyLoose.notSynchronized Bd
  have X0 : Stand p l e ({ frames := 4, cells := 0, slots := 0, locals := 79 } : Room) s m #[(.ref a), (.ref ca)] below meth c s₁ [] 0 0 := Stand.of_body Bd
  have e0 : s₁.heap = h0 := by rw [← hh, Bd.state]; rfl
  show own_End p e below s (fun v h L => v = none ∧ Fr n0 L ∧ ∃ (ys : List Int32) (f : Nat), ys.Perm xs ∧ own_sorted ys ∧ f ≤ ys.length ∧ (∀ j, j < f → (ys.getD j 0).toInt < 0) ∧ (f < ys.length → 0 ≤ (ys.getD f 0).toInt) ∧ Exa Z h a "com/example/twinhash/twinhash/shingle/ShingleSet" ∧ Fld Z h a "com/example/twinhash/twinhash/shingle/ShingleSet" "codes" "[I" (.ref ca) ∧ Fld Z h a "com/example/twinhash/twinhash/shingle/ShingleSet" "firstSeen" "I" (.int (Int32.ofNat f)) ∧ own_L Z h ca .int (List.map Value.int ys) ∧ Keep h0 h [a, ca]) 0 0 (s₁.setTop (entryFrame m #[(.ref a), (.ref ca)] 3))
  refine own_cast (ef_2 m a ca) ?_
  have N0 := Fr.nil n0
  have hl31 : xs.length < 2 ^ 31 := by omega
  refine own_go (S' := (s₁.setTop (mkF m 1 #[.val (.ref a), .val (.ref ca), .unset] [(.ref a)]))) (fun τ κ => XS.aloadN X0.here hx rfl (hb hby d2_0) rfl rfl κ) ?_
  obtain ⟨T1, X1, e1, st1⟩ := initO X0 hx hZ hown (hw _ (List.mem_of_getElem? (i := 11) rfl)) (hw _ (List.mem_of_getElem? (i := 12) rfl)) (hw _ (List.mem_of_getElem? (i := 13) rfl)) e0 (g := (mkF m 1 #[.val (.ref a), .val (.ref ca), .unset] [(.ref a)])) rfl (by rw [hml]; rfl) rfl (hb hby d2_1) (by decide) (W := 0) (by show 2 * 0 + _ ≤ _; exact Nat.le_of_eq rfl) (by decide)
  refine own_go (S' := (T1.setTop (mkF m 4 #[.val (.ref a), .val (.ref ca), .unset] []))) st1 ?_
  refine own_go (S' := (T1.setTop (mkF m 5 #[.val (.ref a), .val (.ref ca), .unset] [(.ref ca)]))) (fun τ κ => XS.aloadN X1.here hx rfl (hb hby d2_4) rfl rfl κ) ?_
  obtain ⟨v2, T2, L2, X2, hQ2, st2⟩ := own_callS X1 hx hZ (y := (⟨"java/util/Arrays", "sort", "([I)V"⟩ : MethodName)) hown (hw _ (List.mem_of_getElem? (i := 14) rfl)) (hw _ (List.mem_of_getElem? (i := 15) rfl)) (hw _ (List.mem_of_getElem? (i := 16) rfl)) (hw _ (List.mem_of_getElem? (i := 17) rfl)) (rm4 l Z a0 hw ca xs h0 n0 gc hlen A) e1 (st := [(.ref ca)]) (argsL := [(.ref ca)]) (rest := []) (Ls := #[.val (.ref a), .val (.ref ca), .unset]) (hb hby d2_5) pd_3 0 (by rw [hml]; rfl) (by decide) rfl rfl rfl (Nat.le_of_eq rfl) (by decide) (by decide) (by decide) (by decide)
  obtain ⟨rfl, Nq2, ys, hp, hs, A', K'⟩ := hQ2
  have N2 := Fr.app N0 Nq2
  replace A := A'
  replace E0 := Exa.keep E0 K'
  replace F1 := Fld.keep F1 K' (ninS nac nin0)
  replace F2 := Fld.keep F2 K' (ninS nac nin0)
  have K : Keep h0 T2.heap [a, ca] := (Keep.refl h0 [a, ca]).trans K' (allS (Or.inl (by simp)) all0)
  have hyl : ys.length = xs.length := hp.length_eq
  refine own_go (S' := (T2.setTop (mkF m 8 #[.val (.ref a), .val (.ref ca), .unset] []))) st2 ?_
  refine own_go (S' := (T2.setTop (mkF m 9 #[.val (.ref a), .val (.ref ca), .unset] [(.ref a)]))) (fun τ κ => XS.aloadN X2.here hx rfl (hb hby d2_8) rfl rfl κ) ?_
  refine own_go (S' := (T2.setTop (mkF m 10 #[.val (.ref a), .val (.ref ca), .unset] [(.ref ca), (.ref a)]))) (fun τ κ => XS.aloadN X2.here hx rfl (hb hby d2_9) rfl rfl κ) ?_
  obtain ⟨T3, h3, X3, e3, W3, st3⟩ := putF X2 hx hZ hown (host := "") (Or.inl (hw _ (List.mem_of_getElem? (i := 28) rfl))) Via.refl rfl F1 E0 (Or.inr ⟨(hw _ (List.mem_of_getElem? (i := 29) rfl)), rfl, hnm⟩) (hw _ (List.mem_of_getElem? (i := 6) rfl)) (ty := (.array .int)) (by decide) rfl rfl (g := (mkF m 10 #[.val (.ref a), .val (.ref ca), .unset] [(.ref ca), (.ref a)])) rfl rfl (hb hby d2_10)
  replace E0 := Exa.wr W3 E0
  replace F2 := Fld.other W3 F2 (Or.inr (slot_ne (Z := Z) (a0 := a0) (Or.inr (hw _ (List.mem_of_getElem? (i := 31) rfl))) (Or.inr (hw _ (List.mem_of_getElem? (i := 29) rfl))) (by decide) (t := .int) (t' := (.array .int)) (by decide) (by decide)))
  replace A := A.other W3 (Ne.symm nac)
  replace F1 := Fld.same W3 F1
  have N3 := Fr.snoc X3 N2 ga
  replace K := K.wr W3 (Or.inl (by simp))
  refine own_go (S' := (T3.setTop (mkF m 13 #[.val (.ref a), .val (.ref ca), .unset] []))) st3 ?_
  refine own_go (S' := (T3.setTop (mkF m 14 #[.val (.ref a), .val (.ref ca), .unset] [(.int (0 : Int32))]))) (fun τ κ => XT.iconstV X3.here hx rfl (0 : Int32) (hb hby d2_13) (by decide) κ) ?_
  refine own_go (S' := (T3.setTop (mkF m 15 #[.val (.ref a), .val (.ref ca), .val (.int (0 : Int32))] []))) (fun τ κ => XS.istoreN X3.here hx rfl (hb hby d2_14) rfl (l' := #[.val (.ref a), .val (.ref ca), .val (.int (0 : Int32))]) rfl κ) ?_
  have J33 : ∀ f, f ≤ ys.length → (∀ j, j < f → (ys.getD j 0).toInt < 0) → (f < ys.length → 0 ≤ (ys.getD f 0).toInt) → own_End p e below s (fun v h L => v = none ∧ Fr n0 L ∧ ∃ (ys : List Int32) (f : Nat), ys.Perm xs ∧ own_sorted ys ∧ f ≤ ys.length ∧ (∀ j, j < f → (ys.getD j 0).toInt < 0) ∧ (f < ys.length → 0 ≤ (ys.getD f 0).toInt) ∧ Exa Z h a "com/example/twinhash/twinhash/shingle/ShingleSet" ∧ Fld Z h a "com/example/twinhash/twinhash/shingle/ShingleSet" "codes" "[I" (.ref ca) ∧ Fld Z h a "com/example/twinhash/twinhash/shingle/ShingleSet" "firstSeen" "I" (.int (Int32.ofNat f)) ∧ own_L Z h ca .int (List.map Value.int ys) ∧ Keep h0 h [a, ca]) 0 0 (T3.setTop (mkF m 33 #[.val (.ref a), .val (.ref ca), .val (.int (Int32.ofNat f))] [])) := by
    intro f hf1 hf2 hf3
    refine own_go (S' := (T3.setTop (mkF m 34 #[.val (.ref a), .val (.ref ca), .val (.int (Int32.ofNat f))] [(.ref a)]))) (fun τ κ => XS.aloadN X3.here hx rfl (hb hby d2_33) rfl rfl κ) ?_
    refine own_go (S' := (T3.setTop (mkF m 35 #[.val (.ref a), .val (.ref ca), .val (.int (Int32.ofNat f))] [(.int (Int32.ofNat f)), (.ref a)]))) (fun τ κ => XS.iloadN X3.here hx rfl (hb hby d2_34) rfl κ) ?_
    obtain ⟨T4, h4, X4, e4, W4, st4⟩ := putF X3 hx hZ hown (host := "") (Or.inl (hw _ (List.mem_of_getElem? (i := 30) rfl))) Via.refl e3 F2 E0 (Or.inr ⟨(hw _ (List.mem_of_getElem? (i := 31) rfl)), rfl, hnm⟩) (hw _ (List.mem_of_getElem? (i := 6) rfl)) (ty := .int) (by decide) rfl rfl (g := (mkF m 35 #[.val (.ref a), .val (.ref ca), .val (.int (Int32.ofNat f))] [(.int (Int32.ofNat f)), (.ref a)])) rfl rfl (hb hby d2_35)
    replace E0 := Exa.wr W4 E0
    replace F1 := Fld.other W4 F1 (Or.inr (slot_ne (Z := Z) (a0 := a0) (Or.inr (hw _ (List.mem_of_getElem? (i := 29) rfl))) (Or.inr (hw _ (List.mem_of_getElem? (i := 31) rfl))) (by decide) (t := (.array .int)) (t' := .int) (by decide) (by decide)))
    replace A := A.other W4 (Ne.symm nac)
    replace F2 := Fld.same W4 F2
    have N4 := Fr.snoc X4 N3 ga
    replace K := K.wr W4 (Or.inl (by simp))
    refine own_go (S' := (T4.setTop (mkF m 38 #[.val (.ref a), .val (.ref ca), .val (.int (Int32.ofNat f))] []))) st4 ?_
    exact own_retV X4 hx hret hlk (hb hby d2_38) (by decide) (by decide) ⟨rfl, N4, ys, f, hp, hs, hf1, hf2, hf3, by rw [e4]; exact E0, by rw [e4]; exact F1, by rw [e4]; exact F2, by rw [e4]; exact A, by rw [e4]; exact K⟩
  have J15 : ∀ r i, i + r = ys.length → (∀ j, j < i → (ys.getD j 0).toInt < 0) → own_End p e below s (fun v h L => v = none ∧ Fr n0 L ∧ ∃ (ys : List Int32) (f : Nat), ys.Perm xs ∧ own_sorted ys ∧ f ≤ ys.length ∧ (∀ j, j < f → (ys.getD j 0).toInt < 0) ∧ (f < ys.length → 0 ≤ (ys.getD f 0).toInt) ∧ Exa Z h a "com/example/twinhash/twinhash/shingle/ShingleSet" ∧ Fld Z h a "com/example/twinhash/twinhash/shingle/ShingleSet" "codes" "[I" (.ref ca) ∧ Fld Z h a "com/example/twinhash/twinhash/shingle/ShingleSet" "firstSeen" "I" (.int (Int32.ofNat f)) ∧ own_L Z h ca .int (List.map Value.int ys) ∧ Keep h0 h [a, ca]) 0 0 (T3.setTop (mkF m 15 #[.val (.ref a), .val (.ref ca), .val (.int (Int32.ofNat i))] [])) := by
    intro r
    induction r with
    | zero =>
      intro i hi hbef
      have hge : ¬ Int32.ofNat i < Int32.ofNat ys.length := by rw [own_ofNat_lt (by omega) (by omega)]; omega
      refine own_go (S' := (T3.setTop (mkF m 16 #[.val (.ref a), .val (.ref ca), .val (.int (Int32.ofNat i))] [(.int (Int32.ofNat i))]))) (fun τ κ => XS.iloadN X3.here hx rfl (hb hby d2_15) rfl κ) ?_
      refine own_go (S' := (T3.setTop (mkF m 17 #[.val (.ref a), .val (.ref ca), .val (.int (Int32.ofNat i))] [(.ref ca), (.int (Int32.ofNat i))]))) (fun τ κ => XS.aloadN X3.here hx rfl (hb hby d2_16) rfl rfl κ) ?_
      refine own_go (S' := (T3.setTop (mkF m 18 #[.val (.ref a), .val (.ref ca), .val (.int (Int32.ofNat i))] [(.int (Int32.ofNat ys.length)), (.int (Int32.ofNat i))]))) (own_len A own_lenI X3 hx hZ e3 (hb hby d2_17)) ?_
      refine own_go (S' := (T3.setTop (mkF m 33 #[.val (.ref a), .val (.ref ca), .val (.int (Int32.ofNat i))] []))) (fun τ κ => XS.icmpYes X3.here hx rfl (pc0 := 18) (pc' := 33) rfl (hb hby d2_18) rfl (flt hge).2.1 (by decide) (by decide) κ) ?_
      exact J33 i (by omega) hbef (fun q => absurd q (by omega))
    | succ r ih =>
      intro i hi hbef
      have hlt : Int32.ofNat i < Int32.ofNat ys.length := by rw [own_ofNat_lt (by omega) (by omega)]; omega
      have hi31 : i < 2 ^ 31 := by omega
      by_cases hz : ys.getD i 0 < (0 : Int32)
      · have hz' : (ys.getD i 0).toInt < 0 := Int32.lt_iff_toInt_lt.mp hz
        refine own_go (S' := (T3.setTop (mkF m 16 #[.val (.ref a), .val (.ref ca), .val (.int (Int32.ofNat i))] [(.int (Int32.ofNat i))]))) (fun τ κ => XS.iloadN X3.here hx rfl (hb hby d2_15) rfl κ) ?_
        refine own_go (S' := (T3.setTop (mkF m 17 #[.val (.ref a), .val (.ref ca), .val (.int (Int32.ofNat i))] [(.ref ca), (.int (Int32.ofNat i))]))) (fun τ κ => XS.aloadN X3.here hx rfl (hb hby d2_16) rfl rfl κ) ?_
        refine own_go (S' := (T3.setTop (mkF m 18 #[.val (.ref a), .val (.ref ca), .val (.int (Int32.ofNat i))] [(.int (Int32.ofNat ys.length)), (.int (Int32.ofNat i))]))) (own_len A own_lenI X3 hx hZ e3 (hb hby d2_17)) ?_
        refine own_go (S' := (T3.setTop (mkF m 21 #[.val (.ref a), .val (.ref ca), .val (.int (Int32.ofNat i))] []))) (fun τ κ => XS.icmpNo X3.here hx rfl (hb hby d2_18) rfl (tlt hlt).2.1 κ) ?_
        refine own_go (S' := (T3.setTop (mkF m 22 #[.val (.ref a), .val (.ref ca), .val (.int (Int32.ofNat i))] [(.ref ca)]))) (fun τ κ => XS.aloadN X3.here hx rfl (hb hby d2_21) rfl rfl κ) ?_
        refine own_go (S' := (T3.setTop (mkF m 23 #[.val (.ref a), .val (.ref ca), .val (.int (Int32.ofNat i))] [(.int (Int32.ofNat i)), (.ref ca)]))) (fun τ κ => XS.iloadN X3.here hx rfl (hb hby d2_22) rfl κ) ?_
        refine own_go (S' := (T3.setTop (mkF m 24 #[.val (.ref a), .val (.ref ca), .val (.int (Int32.ofNat i))] [(.int (ys.getD i 0))]))) (own_iaload (j := (Int32.ofNat i)) (v := (.int (ys.getD i 0))) A X3 hx hZ e3 (own_ofNat_nneg hi31) (i := i) (own_clamp hi31) (by rw [List.length_map]; omega) (own_mapD (by omega)) (hb hby d2_23)) ?_
        refine own_go (S' := (T3.setTop (mkF m 27 #[.val (.ref a), .val (.ref ca), .val (.int (Int32.ofNat i))] []))) (fun τ κ => XS.ifNo X3.here hx rfl (hb hby d2_24) rfl ((if0 _ _).trans (tlt hz).2.1) κ) ?_
        refine own_go (S' := (T3.setTop (mkF m 30 #[.val (.ref a), .val (.ref ca), .val (.int ((Int32.ofNat i) + (1 : Int32)))] []))) (fun τ κ => XT.iincV X3.here hx rfl (1 : Int32) (hb hby d2_27) (by decide) rfl (l' := #[.val (.ref a), .val (.ref ca), .val (.int ((Int32.ofNat i) + (1 : Int32)))]) rfl κ) ?_
        refine own_go (S' := (T3.setTop (mkF m 15 #[.val (.ref a), .val (.ref ca), .val (.int ((Int32.ofNat i) + (1 : Int32)))] []))) (fun τ κ => XS.goto X3.here hx rfl (pc0 := 30) (pc' := 15) rfl (hb hby d2_30) (by decide) (by decide) κ) ?_
        rw [own_succ]
        exact ih (i + 1) (by omega) (fun j hj => by rcases Nat.lt_or_ge j i with q | q; exact hbef j q; (have : j = i := by omega); exact this ▸ hz')
      · have hz' : 0 ≤ (ys.getD i 0).toInt := by rw [Int32.lt_iff_toInt_lt] at hz; exact Int.not_lt.mp hz
        refine own_go (S' := (T3.setTop (mkF m 16 #[.val (.ref a), .val (.ref ca), .val (.int (Int32.ofNat i))] [(.int (Int32.ofNat i))]))) (fun τ κ => XS.iloadN X3.here hx rfl (hb hby d2_15) rfl κ) ?_
        refine own_go (S' := (T3.setTop (mkF m 17 #[.val (.ref a), .val (.ref ca), .val (.int (Int32.ofNat i))] [(.ref ca), (.int (Int32.ofNat i))]))) (fun τ κ => XS.aloadN X3.here hx rfl (hb hby d2_16) rfl rfl κ) ?_
        refine own_go (S' := (T3.setTop (mkF m 18 #[.val (.ref a), .val (.ref ca), .val (.int (Int32.ofNat i))] [(.int (Int32.ofNat ys.length)), (.int (Int32.ofNat i))]))) (own_len A own_lenI X3 hx hZ e3 (hb hby d2_17)) ?_
        refine own_go (S' := (T3.setTop (mkF m 21 #[.val (.ref a), .val (.ref ca), .val (.int (Int32.ofNat i))] []))) (fun τ κ => XS.icmpNo X3.here hx rfl (hb hby d2_18) rfl (tlt hlt).2.1 κ) ?_
        refine own_go (S' := (T3.setTop (mkF m 22 #[.val (.ref a), .val (.ref ca), .val (.int (Int32.ofNat i))] [(.ref ca)]))) (fun τ κ => XS.aloadN X3.here hx rfl (hb hby d2_21) rfl rfl κ) ?_
        refine own_go (S' := (T3.setTop (mkF m 23 #[.val (.ref a), .val (.ref ca), .val (.int (Int32.ofNat i))] [(.int (Int32.ofNat i)), (.ref ca)]))) (fun τ κ => XS.iloadN X3.here hx rfl (hb hby d2_22) rfl κ) ?_
        refine own_go (S' := (T3.setTop (mkF m 24 #[.val (.ref a), .val (.ref ca), .val (.int (Int32.ofNat i))] [(.int (ys.getD i 0))]))) (own_iaload (j := (Int32.ofNat i)) (v := (.int (ys.getD i 0))) A X3 hx hZ e3 (own_ofNat_nneg hi31) (i := i) (own_clamp hi31) (by rw [List.length_map]; omega) (own_mapD (by omega)) (hb hby d2_23)) ?_
        refine own_go (S' := (T3.setTop (mkF m 33 #[.val (.ref a), .val (.ref ca), .val (.int (Int32.ofNat i))] []))) (fun τ κ => XS.ifYes X3.here hx rfl (pc0 := 24) (pc' := 33) rfl (hb hby d2_24) rfl ((if0 _ _).trans (flt hz).2.1) (by decide) (by decide) κ) ?_
        exact J33 i (by omega) hbef (fun _ => hz')
  exact J15 ys.length 0 (by omega) (fun j hj => absurd hj (by omega))
theorem d8_0 : decode prog_29_method_5_code 0 = .ok (.aload_n 0, 1) := by decide +kernel
theorem d8_1 : decode prog_29_method_5_code 1 = .ok (.getfield 19, 3) := by decide +kernel
theorem d8_4 : decode prog_29_method_5_code 4 = .ok (.istore_n 3, 1) := by decide +kernel
theorem d8_5 : decode prog_29_method_5_code 5 = .ok (.iload_n 3, 1) := by decide +kernel
theorem d8_6 : decode prog_29_method_5_code 6 = .ok (.aload_n 0, 1) := by decide +kernel
theorem d8_7 : decode prog_29_method_5_code 7 = .ok (.getfield 13, 3) := by decide +kernel
theorem d8_10 : decode prog_29_method_5_code 10 = .ok (.arraylength, 1) := by decide +kernel
theorem d8_11 : decode prog_29_method_5_code 11 = .ok (.if_icmp .ge 18, 3) := by decide +kernel
theorem d8_14 : decode prog_29_method_5_code 14 = .ok (.aload_n 1, 1) := by decide +kernel
theorem d8_15 : decode prog_29_method_5_code 15 = .ok (.aload_n 0, 1) := by decide +kernel
theorem d8_16 : decode prog_29_method_5_code 16 = .ok (.getfield 13, 3) := by decide +kernel
theorem d8_19 : decode prog_29_method_5_code 19 = .ok (.iload_n 3, 1) := by decide +kernel
theorem d8_20 : decode prog_29_method_5_code 20 = .ok (.iaload, 1) := by decide +kernel
theorem d8_21 : decode prog_29_method_5_code 21 = .ok (.iload_n 2, 1) := by decide +kernel
theorem d8_22 : decode prog_29_method_5_code 22 = .ok (.bastore, 1) := by decide +kernel
theorem d8_23 : decode prog_29_method_5_code 23 = .ok (.iinc 3 1, 3) := by decide +kernel
theorem d8_26 : decode prog_29_method_5_code 26 = .ok (.goto (-21), 3) := by decide +kernel
theorem d8_29 : decode prog_29_method_5_code 29 = .ok (.return_, 1) := by decide +kernel
def own_marked (ms : List Int32) (mk : Int32) (zs : List Int32) : List Int32 := zs.foldl (fun q y => q.set y.toNatClampNeg (nar .byte mk)) ms
set_option maxRecDepth 65536 in
set_option maxHeartbeats 40000000 in
theorem w8_5 {p : Program} {l : Launch} {e : Env} {s : State} {m : MethodId} {args : Array Value} {below : List Frame} {meth : Method} {c : Code} {Z : State} {a0 : Array Value} {a ca ma : Addr} {ys : List Int32} {mk : Int32} {f n0 : Nat} (hx : p.tables.exec = Jvm.exec) (hby : c.code = prog_29_method_5_code) (hml : c.maxLocals = 4) (hret : meth.sig.returnType = none) (hlk : meth.locks = false) (hown : s.vm.findClass "com/example/twinhash/twinhash/shingle/ShingleSet" = some m.cls) (hZ : Z.Warmed39 s.vm) (hw : ∀ d ∈ tables_1, d.before a0 Z = true) (hyl : ys.length < 40) (nam : a ≠ ma) (ncm : ca ≠ ma) (gm : n0 ≤ ma) :
    ∀ (zs : List Int32) (i : Nat) (ms : List Int32) (T0 : State) (h : Heap) (locs : List Loc), Stand p l e ({ frames := 0, cells := 0, slots := 0, locals := 0 } : Room) s m args below meth c T0 locs 0 0 → T0.heap = h → ys.drop i = zs → i ≤ ys.length → (∀ y ∈ zs, 0 ≤ y.toInt ∧ y.toInt < ms.length) → Fld Z h a "com/example/twinhash/twinhash/shingle/ShingleSet" "codes" "[I" (.ref ca) → Fld Z h a "com/example/twinhash/twinhash/shingle/ShingleSet" "firstSeen" "I" (.int (Int32.ofNat f)) → own_L Z h ca .int (List.map Value.int ys) → own_L Z h ma .byte (List.map Value.int ms) → Fr n0 locs → own_End p e below s (fun v h L => v = none ∧ Fr n0 L ∧ own_L Z h ma .byte (List.map Value.int (own_marked ms mk zs))) 0 0 (T0.setTop (mkF m 5 #[.val (.ref a), .val (.ref ma), .val (.int mk), .val (.int (Int32.ofNat i))] [])) := by
  intro zs
  induction zs with
  | nil =>
    intro i ms T0 h locs X0 e0 hd hi hbd F1 F2 A M N0
    have hge : ys.length ≤ i := by simpa using hd
    have hni : ¬ Int32.ofNat i < Int32.ofNat ys.length := by rw [own_ofNat_lt (by omega) (by omega)]; omega
    refine own_go (S' := (T0.setTop (mkF m 6 #[.val (.ref a), .val (.ref ma), .val (.int mk), .val (.int (Int32.ofNat i))] [(.int (Int32.ofNat i))]))) (fun τ κ => XS.iloadN X0.here hx rfl (hb hby d8_5) rfl κ) ?_
    refine own_go (S' := (T0.setTop (mkF m 7 #[.val (.ref a), .val (.ref ma), .val (.int mk), .val (.int (Int32.ofNat i))] [(.ref a), (.int (Int32.ofNat i))]))) (fun τ κ => XS.aloadN X0.here hx rfl (hb hby d8_6) rfl rfl κ) ?_
    obtain ⟨T1, X1, e1, st1⟩ := getF X0 hx hZ hown (host := "") (Or.inl (hw _ (List.mem_of_getElem? (i := 28) rfl))) Via.refl e0 F1 (g := (mkF m 7 #[.val (.ref a), .val (.ref ma), .val (.int mk), .val (.int (Int32.ofNat i))] [(.ref a), (.int (Int32.ofNat i))])) rfl rfl (hb hby d8_7)
    refine own_go (S' := (T1.setTop (mkF m 10 #[.val (.ref a), .val (.ref ma), .val (.int mk), .val (.int (Int32.ofNat i))] [(.ref ca), (.int (Int32.ofNat i))]))) st1 ?_
    refine own_go (S' := (T1.setTop (mkF m 11 #[.val (.ref a), .val (.ref ma), .val (.int mk), .val (.int (Int32.ofNat i))] [(.int (Int32.ofNat ys.length)), (.int (Int32.ofNat i))]))) (own_len A own_lenI X1 hx hZ e1 (hb hby d8_10)) ?_
    refine own_go (S' := (T1.setTop (mkF m 29 #[.val (.ref a), .val (.ref ma), .val (.int mk), .val (.int (Int32.ofNat i))] []))) (fun τ κ => XS.icmpYes X1.here hx rfl (pc0 := 11) (pc' := 29) rfl (hb hby d8_11) rfl (flt hni).2.1 (by decide) (by decide) κ) ?_
    exact own_retV X1 hx hret hlk (hb hby d8_29) (Nat.le_refl _) (Nat.le_refl _) ⟨rfl, N0, by rw [e1]; exact M⟩
  | cons y zs ih =>
    intro i ms T0 h locs X0 e0 hd hi hbd F1 F2 A M N0
    have hlt : i < ys.length := by
      rcases Nat.lt_or_ge i ys.length with q | q
      · exact q
      · rw [List.drop_eq_nil_of_le q] at hd; cases hd
    have hi31 : i < 2 ^ 31 := by omega
    have hii : Int32.ofNat i < Int32.ofNat ys.length := (own_ofNat_lt hi31 (by omega)).mpr hlt
    have hc := List.drop_eq_getElem_cons hlt
    rw [hd] at hc
    obtain ⟨hy0, hd'⟩ := List.cons.inj hc
    replace hd' := hd'.symm
    have hy : (List.map Value.int ys)[i]? = some (.int y) := by rw [List.getElem?_map, List.getElem?_eq_getElem hlt, hy0]; rfl
    have hbq := hbd y (by simp)
    refine own_go (S' := (T0.setTop (mkF m 6 #[.val (.ref a), .val (.ref ma), .val (.int mk), .val (.int (Int32.ofNat i))] [(.int (Int32.ofNat i))]))) (fun τ κ => XS.iloadN X0.here hx rfl (hb hby d8_5) rfl κ) ?_
    refine own_go (S' := (T0.setTop (mkF m 7 #[.val (.ref a), .val (.ref ma), .val (.int mk), .val (.int (Int32.ofNat i))] [(.ref a), (.int (Int32.ofNat i))]))) (fun τ κ => XS.aloadN X0.here hx rfl (hb hby d8_6) rfl rfl κ) ?_
    obtain ⟨T2, X2, e2, st2⟩ := getF X0 hx hZ hown (host := "") (Or.inl (hw _ (List.mem_of_getElem? (i := 28) rfl))) Via.refl e0 F1 (g := (mkF m 7 #[.val (.ref a), .val (.ref ma), .val (.int mk), .val (.int (Int32.ofNat i))] [(.ref a), (.int (Int32.ofNat i))])) rfl rfl (hb hby d8_7)
    refine own_go (S' := (T2.setTop (mkF m 10 #[.val (.ref a), .val (.ref ma), .val (.int mk), .val (.int (Int32.ofNat i))] [(.ref ca), (.int (Int32.ofNat i))]))) st2 ?_
    refine own_go (S' := (T2.setTop (mkF m 11 #[.val (.ref a), .val (.ref ma), .val (.int mk), .val (.int (Int32.ofNat i))] [(.int (Int32.ofNat ys.length)), (.int (Int32.ofNat i))]))) (own_len A own_lenI X2 hx hZ e2 (hb hby d8_10)) ?_
    refine own_go (S' := (T2.setTop (mkF m 14 #[.val (.ref a), .val (.ref ma), .val (.int mk), .val (.int (Int32.ofNat i))] []))) (fun τ κ => XS.icmpNo X2.here hx rfl (hb hby d8_11) rfl (tlt hii).2.1 κ) ?_
    refine own_go (S' := (T2.setTop (mkF m 15 #[.val (.ref a), .val (.ref ma), .val (.int mk), .val (.int (Int32.ofNat i))] [(.ref ma)]))) (fun τ κ => XS.aloadN X2.here hx rfl (hb hby d8_14) rfl rfl κ) ?_
    refine own_go (S' := (T2.setTop (mkF m 16 #[.val (.ref a), .val (.ref ma), .val (.int mk), .val (.int (Int32.ofNat i))] [(.ref a), (.ref ma)]))) (fun τ κ => XS.aloadN X2.here hx rfl (hb hby d8_15) rfl rfl κ) ?_
    obtain ⟨T3, X3, e3, st3⟩ := getF X2 hx hZ hown (host := "") (Or.inl (hw _ (List.mem_of_getElem? (i := 28) rfl))) Via.refl e2 F1 (g := (mkF m 16 #[.val (.ref a), .val (.ref ma), .val (.int mk), .val (.int (Int32.ofNat i))] [(.ref a), (.ref ma)])) rfl rfl (hb hby d8_16)
    refine own_go (S' := (T3.setTop (mkF m 19 #[.val (.ref a), .val (.ref ma), .val (.int mk), .val (.int (Int32.ofNat i))] [(.ref ca), (.ref ma)]))) st3 ?_
    refine own_go (S' := (T3.setTop (mkF m 20 #[.val (.ref a), .val (.ref ma), .val (.int mk), .val (.int (Int32.ofNat i))] [(.int (Int32.ofNat i)), (.ref ca), (.ref ma)]))) (fun τ κ => XS.iloadN X3.here hx rfl (hb hby d8_19) rfl κ) ?_
    refine own_go (S' := (T3.setTop (mkF m 21 #[.val (.ref a), .val (.ref ma), .val (.int mk), .val (.int (Int32.ofNat i))] [(.int y), (.ref ma)]))) (own_iaload (j := (Int32.ofNat i)) (v := (.int y)) A X3 hx hZ e3 (own_ofNat_nneg hi31) (i := i) (own_clamp hi31) (by rw [List.length_map]; exact hlt) hy (hb hby d8_20)) ?_
    refine own_go (S' := (T3.setTop (mkF m 22 #[.val (.ref a), .val (.ref ma), .val (.int mk), .val (.int (Int32.ofNat i))] [(.int mk), (.int y), (.ref ma)]))) (fun τ κ => XS.iloadN X3.here hx rfl (hb hby d8_21) rfl κ) ?_
    obtain ⟨T4, h4, X4, e4, W4, B4, st4⟩ := own_bastore (j := y) (x := mk) (Ls := #[.val (.ref a), .val (.ref ma), .val (.int mk), .val (.int (Int32.ofNat i))]) (rest := []) M X3 hx hZ e3 (own_nneg hbq.1) (i := y.toNatClampNeg) rfl (by rw [List.length_map]; exact own_ltn hbq.1 hbq.2) (hb hby d8_22)
    replace F1 := Fld.other W4 F1 (Or.inl nam)
    replace F2 := Fld.other W4 F2 (Or.inl nam)
    replace A := A.other W4 ncm
    replace M := B4
    have N4 := Fr.snoc X4 N0 gm
    refine own_go (S' := (T4.setTop (mkF m 23 #[.val (.ref a), .val (.ref ma), .val (.int mk), .val (.int (Int32.ofNat i))] []))) st4 ?_
    refine own_go (S' := (T4.setTop (mkF m 26 #[.val (.ref a), .val (.ref ma), .val (.int mk), .val (.int ((Int32.ofNat i) + (1 : Int32)))] []))) (fun τ κ => XT.iincV X4.here hx rfl (1 : Int32) (hb hby d8_23) (by decide) rfl (l' := #[.val (.ref a), .val (.ref ma), .val (.int mk), .val (.int ((Int32.ofNat i) + (1 : Int32)))]) rfl κ) ?_
    refine own_go (S' := (T4.setTop (mkF m 5 #[.val (.ref a), .val (.ref ma), .val (.int mk), .val (.int ((Int32.ofNat i) + (1 : Int32)))] []))) (fun τ κ => XS.goto X4.here hx rfl (pc0 := 26) (pc' := 5) rfl (hb hby d8_26) (by decide) (by decide) κ) ?_
    rw [own_succ i]
    exact ih (i + 1) (ms.set y.toNatClampNeg (nar .byte mk)) _ _ _ X4 e4 hd' hlt (fun z hz => by rw [List.length_set]; exact hbd z (List.mem_cons_of_mem _ hz)) F1 F2 A (M.eq (by rw [List.map_set])) N4
theorem pn_8 : plainName "com/example/twinhash/twinhash/shingle/ShingleSet" = true := by first | (simp [plainName, overriddenIn]; done) | decide +kernel
theorem ef_8 (m : MethodId) (a : Addr) (ma : Addr) (mk : Int32) : entryFrame m #[(.ref a), (.ref ma), (.int mk)] 4 = mkF m 0 #[.val (.ref a), .val (.ref ma), .val (.int mk), .unset] [] := by first | (simp [entryFrame, mkF, argsToLocals, Value.category]; done) | rfl
set_option maxRecDepth 65536 in
set_option maxHeartbeats 40000000 in
theorem rm8 (l : Launch) (Z : State) (a0 : Array Value) (hw : ∀ d ∈ tables_1, d.before a0 Z = true) (a : Addr) (ma : Addr) (mk : Int32) (ca : Addr) (ys ms : List Int32) (f : Nat) (h0 : Heap) (n0 : Nat) (F1 : Fld Z h0 a "com/example/twinhash/twinhash/shingle/ShingleSet" "codes" "[I" (.ref ca)) (F2 : Fld Z h0 a "com/example/twinhash/twinhash/shingle/ShingleSet" "firstSeen" "I" (.int (Int32.ofNat f))) (A : own_L Z h0 ca .int (List.map Value.int ys)) (M : own_L Z h0 ma .byte (List.map Value.int ms)) (nam : a ≠ ma) (ncm : ca ≠ ma) (gm : n0 ≤ ma) (hyl : ys.length < 40) (hf : f ≤ ys.length) (hbd : ∀ y ∈ ys.drop f, 0 ≤ y.toInt ∧ y.toInt < ms.length) : own_C l Z (⟨"com/example/twinhash/twinhash/shingle/ShingleSet", "mark", "([BB)V"⟩ : MethodName) prog_29_method_5_code 4 none ({ frames := 0, cells := 0, slots := 0, locals := 0 } : Room) #[(.ref a), (.ref ma), (.int mk)] h0 (fun v h L => v = none ∧ Fr n0 L ∧ own_L Z h ma .byte (List.map Value.int (own_marked ms mk (ys.drop f)))) := by
  refine MetFree.of_bodySF (plainFor_of_name pn_8) hisR ?_
  intro p e s m args below meth c s₁ Bd hml hP hK
  obtain ⟨rfl, hZ, hh⟩ := hP
  have hx := Bd.exec
  have hby := Bd.bytes
  have hown : s.vm.findClass "com/example/twinhash/twinhash/shingle/ShingleSet" = some m.cls := findClass_of_methodNamed Bd.named
  have hnm := (name_of_methodNamed Bd.named Bd.method).1
  have hret : meth.sig.returnType = none := Bd.returns
  have hlk := BodyLoose.notSynchronized Bd
  have X0 : Stand p l e ({ frames := 0, cells := 0, slots := 0, locals := 0 } : Room) s m #[(.ref a), (.ref ma), (.int mk)] below meth c s₁ [] 0 0 := Stand.of_body Bd
  have e0 : s₁.heap = h0 := by rw [← hh, Bd.state]; rfl
  show own_End p e below s (fun v h L => v = none ∧ Fr n0 L ∧ own_L Z h ma .byte (List.map Value.int (own_marked ms mk (ys.drop f)))) 0 0 (s₁.setTop (entryFrame m #[(.ref a), (.ref ma), (.int mk)] 4))
  refine own_cast (ef_8 m a ma mk) ?_
  refine own_go (S' := (s₁.setTop (mkF m 1 #[.val (.ref a), .val (.ref ma), .val (.int mk), .unset] [(.ref a)]))) (fun τ κ => XS.aloadN X0.here hx rfl (hb hby d8_0) rfl rfl κ) ?_
  obtain ⟨T5, X5, e5, st5⟩ := getF X0 hx hZ hown (host := "") (Or.inl (hw _ (List.mem_of_getElem? (i := 30) rfl))) Via.refl e0 F2 (g := (mkF m 1 #[.val (.ref a), .val (.ref ma), .val (.int mk), .unset] [(.ref a)])) rfl rfl (hb hby d8_1)
  refine own_go (S' := (T5.setTop (mkF m 4 #[.val (.ref a), .val (.ref ma), .val (.int mk), .unset] [(.int (Int32.ofNat f))]))) st5 ?_
  refine own_go (S' := (T5.setTop (mkF m 5 #[.val (.ref a), .val (.ref ma), .val (.int mk), .val (.int (Int32.ofNat f))] []))) (fun τ κ => XS.istoreN X5.here hx rfl (hb hby d8_4) rfl (l' := #[.val (.ref a), .val (.ref ma), .val (.int mk), .val (.int (Int32.ofNat f))]) rfl κ) ?_
  exact w8_5 hx hby hml hret hlk hown hZ hw hyl nam ncm gm (ys.drop f) f ms _ _ _ X5 e5 rfl hf hbd F1 F2 A M (Fr.nil n0)
theorem d1_0 : decode method_2_code 0 = .ok (.iload_n 0, 1) := by decide +kernel
theorem d1_1 : decode method_2_code 1 = .ok (.ifCond .ge 7, 3) := by decide +kernel
theorem d1_4 : decode method_2_code 4 = .ok (.iload_n 0, 1) := by decide +kernel
theorem d1_5 : decode method_2_code 5 = .ok (.goto 7, 3) := by decide +kernel
theorem d1_8 : decode method_2_code 8 = .ok (.iload_n 0, 1) := by decide +kernel
theorem d1_9 : decode method_2_code 9 = .ok (.bipush 7, 2) := by decide +kernel
theorem d1_11 : decode method_2_code 11 = .ok (.iand, 1) := by decide +kernel
theorem d1_12 : decode method_2_code 12 = .ok (.ireturn, 1) := by decide +kernel
def f1_0 (l0 : Int32) : Int32 := (if l0 < (0 : Int32) then l0 else (l0 &&& (7 : Int32)))
set_option maxRecDepth 65536 in
set_option maxHeartbeats 40000000 in
theorem w1_0 {p : Program} {l : Launch} {e : Env} {s : State} {m : MethodId} {args : Array Value} {below : List Frame} {meth : Method} {c : Code} {T0 : State} {locs : List Loc} {Z : State} {a0 : Array Value} {h0 : Heap} {Q : Option Value → Heap → List Loc → Prop}
    (X0 : Stand p l e ({ frames := 0, cells := 0, slots := 0, locals := 0 } : Room) s m args below meth c T0 locs 0 0) (hx : p.tables.exec = Jvm.exec) (hby : c.code = method_2_code) (hml : c.maxLocals = 1) (hret : meth.sig.returnType = (some .int)) (hlk : meth.locks = false) (hown : s.vm.findClass "com/example/twinhash/twinhash/shingle/ShingleSetMarkPinLaw" = some m.cls) (hZ : Z.Warmed39 s.vm) (hw : ∀ d ∈ tables_1, d.before a0 Z = true) (e0 : T0.heap = h0)
    (l0 : Int32) (hQ : Q (some (.int (f1_0 l0))) h0 locs) : own_End p e below s Q 0 0 (T0.setTop (mkF m 0 #[.val (.int l0)] [])) := by
  unfold f1_0 at hQ
  refine own_go (S' := (T0.setTop (mkF m 1 #[.val (.int l0)] [(.int l0)]))) (fun τ κ => XS.iloadN X0.here hx rfl (hb hby d1_0) rfl κ) ?_
  by_cases hc1_1 : l0 < (0 : Int32)
  ·
    rw [if_pos hc1_1] at hQ
    refine own_go (S' := (T0.setTop (mkF m 4 #[.val (.int l0)] []))) (fun τ κ => XS.ifNo X0.here hx rfl (hb hby d1_1) rfl ((if0 _ _).trans (tlt hc1_1).2.1) κ) ?_
    refine own_go (S' := (T0.setTop (mkF m 5 #[.val (.int l0)] [(.int l0)]))) (fun τ κ => XS.iloadN X0.here hx rfl (hb hby d1_4) rfl κ) ?_
    refine own_go (S' := (T0.setTop (mkF m 12 #[.val (.int l0)] [(.int l0)]))) (fun τ κ => XS.goto X0.here hx rfl (pc0 := 5) (pc' := 12) rfl (hb hby d1_5) (by decide) (by decide) κ) ?_
    exact own_retI X0 hx hret hlk (hb hby d1_12) (Nat.le_refl _) (Nat.le_refl _) (by rw [e0]; exact hQ)
  ·
    rw [if_neg hc1_1] at hQ
    refine own_go (S' := (T0.setTop (mkF m 8 #[.val (.int l0)] []))) (fun τ κ => XS.ifYes X0.here hx rfl (pc0 := 1) (pc' := 8) rfl (hb hby d1_1) rfl ((if0 _ _).trans (flt hc1_1).2.1) (by decide) (by decide) κ) ?_
    refine own_go (S' := (T0.setTop (mkF m 9 #[.val (.int l0)] [(.int l0)]))) (fun τ κ => XS.iloadN X0.here hx rfl (hb hby d1_8) rfl κ) ?_
    refine own_go (S' := (T0.setTop (mkF m 11 #[.val (.int l0)] [(.int (7 : Int32)), (.int l0)]))) (fun τ κ => XT.bipushV X0.here hx rfl (7 : Int32) (hb hby d1_9) (by decide) κ) ?_
    refine own_go (S' := (T0.setTop (mkF m 12 #[.val (.int l0)] [(.int (l0 &&& (7 : Int32)))]))) (fun τ κ => XS.iand X0.here hx rfl (hb hby d1_11) rfl κ) ?_
    exact own_retI X0 hx hret hlk (hb hby d1_12) (Nat.le_refl _) (Nat.le_refl _) (by rw [e0]; exact hQ)
theorem pn_1 : plainName "com/example/twinhash/twinhash/shingle/ShingleSetMarkPinLaw" = true := by first | (simp [plainName, overriddenIn]; done) | decide +kernel
theorem ef_1 (m : MethodId) (l0 : Int32) : entryFrame m #[(.int l0)] 1 = mkF m 0 #[.val (.int l0)] [] := by first | (simp [entryFrame, mkF, argsToLocals, Value.category]; done) | rfl
set_option maxRecDepth 65536 in
theorem rm1 (l : Launch) (Z : State) (a0 : Array Value) (hw : ∀ d ∈ tables_1, d.before a0 Z = true) (l0 : Int32) (h0 : Heap) : own_C l Z (⟨"com/example/twinhash/twinhash/shingle/ShingleSetMarkPinLaw", "code", "(I)I"⟩ : MethodName) method_2_code 1 (some .int) ({ frames := 0, cells := 0, slots := 0, locals := 0 } : Room) #[(.int l0)] h0 (own_P h0 (some (.int (f1_0 l0)))) := by
  refine MetFree.of_bodySF (plainFor_of_name pn_1) hisR ?_
  intro p e s m args below meth c s₁ Bd hml hP hK
  obtain ⟨rfl, hZ, hh⟩ := hP
  show own_End p e below s (own_P h0 (some (.int (f1_0 l0)))) 0 0 (s₁.setTop (entryFrame m #[(.int l0)] 1))
  exact own_cast (ef_1 m l0) (w1_0 (Stand.of_body Bd) Bd.exec Bd.bytes hml Bd.returns (BodyLoose.notSynchronized Bd) (findClass_of_methodNamed Bd.named) hZ hw (by rw [← hh, Bd.state]; rfl) l0 ⟨rfl, rfl, rfl⟩)
def own_want (kk a b cc d mk it : Int32) : Int32 := if kk = a then mk else if kk = b then mk else if kk = cc then mk else if kk = d then mk else ((it ^^^ kk).toInt8.toInt32)
theorem d9_0 : decode method_3_code 0 = .ok (.iload_n 1, 1) := by decide +kernel
theorem d9_1 : decode method_3_code 1 = .ok (.iload_n 2, 1) := by decide +kernel
theorem d9_2 : decode method_3_code 2 = .ok (.if_icmp .eq 20, 3) := by decide +kernel
theorem d9_5 : decode method_3_code 5 = .ok (.iload_n 1, 1) := by decide +kernel
theorem d9_6 : decode method_3_code 6 = .ok (.iload_n 3, 1) := by decide +kernel
theorem d9_7 : decode method_3_code 7 = .ok (.if_icmp .eq 15, 3) := by decide +kernel
theorem d9_10 : decode method_3_code 10 = .ok (.iload_n 1, 1) := by decide +kernel
theorem d9_11 : decode method_3_code 11 = .ok (.iload 4, 2) := by decide +kernel
theorem d9_13 : decode method_3_code 13 = .ok (.if_icmp .eq 9, 3) := by decide +kernel
theorem d9_16 : decode method_3_code 16 = .ok (.iload_n 1, 1) := by decide +kernel
theorem d9_17 : decode method_3_code 17 = .ok (.iload 5, 2) := by decide +kernel
theorem d9_19 : decode method_3_code 19 = .ok (.if_icmp .ne 8, 3) := by decide +kernel
theorem d9_22 : decode method_3_code 22 = .ok (.iload 6, 2) := by decide +kernel
theorem d9_24 : decode method_3_code 24 = .ok (.goto 8, 3) := by decide +kernel
theorem d9_27 : decode method_3_code 27 = .ok (.iload 7, 2) := by decide +kernel
theorem d9_29 : decode method_3_code 29 = .ok (.iload_n 1, 1) := by decide +kernel
theorem d9_30 : decode method_3_code 30 = .ok (.ixor, 1) := by decide +kernel
theorem d9_31 : decode method_3_code 31 = .ok (.i2b, 1) := by decide +kernel
theorem d9_32 : decode method_3_code 32 = .ok (.istore 8, 2) := by decide +kernel
theorem d9_34 : decode method_3_code 34 = .ok (.aload_n 0, 1) := by decide +kernel
theorem d9_35 : decode method_3_code 35 = .ok (.iload_n 1, 1) := by decide +kernel
theorem d9_36 : decode method_3_code 36 = .ok (.baload, 1) := by decide +kernel
theorem d9_37 : decode method_3_code 37 = .ok (.iload 8, 2) := by decide +kernel
theorem d9_39 : decode method_3_code 39 = .ok (.if_icmp .ne 7, 3) := by decide +kernel
theorem d9_42 : decode method_3_code 42 = .ok (.iconst 1, 1) := by decide +kernel
theorem d9_43 : decode method_3_code 43 = .ok (.goto 4, 3) := by decide +kernel
theorem d9_47 : decode method_3_code 47 = .ok (.ireturn, 1) := by decide +kernel
theorem pn_9 : plainName "com/example/twinhash/twinhash/shingle/ShingleSetMarkPinLaw" = true := by first | (simp [plainName, overriddenIn]; done) | decide +kernel
theorem ef_9 (m : MethodId) (ma : Addr) (kk : Int32) (a : Int32) (b : Int32) (cc : Int32) (d : Int32) (mk : Int32) (it : Int32) : entryFrame m #[(.ref ma), (.int kk), (.int a), (.int b), (.int cc), (.int d), (.int mk), (.int it)] 9 = mkF m 0 #[.val (.ref ma), .val (.int kk), .val (.int a), .val (.int b), .val (.int cc), .val (.int d), .val (.int mk), .val (.int it), .unset] [] := by first | (simp [entryFrame, mkF, argsToLocals, Value.category]; done) | rfl
set_option maxRecDepth 65536 in
set_option maxHeartbeats 40000000 in
theorem rm9 (l : Launch) (Z : State) (a0 : Array Value) (hw : ∀ d ∈ tables_1, d.before a0 Z = true) (ma : Addr) (kk : Int32) (a : Int32) (b : Int32) (cc : Int32) (d : Int32) (mk : Int32) (it : Int32) (ms : List Int32) (h0 : Heap) (M : own_L Z h0 ma .byte (List.map Value.int ms)) (hk0 : 0 ≤ kk.toInt) (hk1 : kk.toInt < ms.length) (hwant : ms.getD kk.toNatClampNeg 0 = own_want kk a b cc d mk it) : own_C l Z (⟨"com/example/twinhash/twinhash/shingle/ShingleSetMarkPinLaw", "at", "([BIIIIIBI)Z"⟩ : MethodName) method_3_code 9 (some .boolean) ({ frames := 0, cells := 0, slots := 0, locals := 0 } : Room) #[(.ref ma), (.int kk), (.int a), (.int b), (.int cc), (.int d), (.int mk), (.int it)] h0 (own_P h0 (some (.int (1 : Int32)))) := by
  refine MetFree.of_bodySF (plainFor_of_name pn_9) hisR ?_
  intro p e s m args below meth c s₁ Bd hml hP hK
  obtain ⟨rfl, hZ, hh⟩ := hP
  have hx := Bd.exec
  have hby := Bd.bytes
  have hown : s.vm.findClass "com/example/twinhash/twinhash/shingle/ShingleSetMarkPinLaw" = some m.cls := findClass_of_methodNamed Bd.named
  have hnm := (name_of_methodNamed Bd.named Bd.method).1
  have hret : meth.sig.returnType = some .boolean := Bd.returns
  have hlk := BodyLoose.notSynchronized Bd
  have X0 : Stand p l e ({ frames := 0, cells := 0, slots := 0, locals := 0 } : Room) s m #[(.ref ma), (.int kk), (.int a), (.int b), (.int cc), (.int d), (.int mk), (.int it)] below meth c s₁ [] 0 0 := Stand.of_body Bd
  have e0 : s₁.heap = h0 := by rw [← hh, Bd.state]; rfl
  show own_End p e below s (own_P h0 (some (.int (1 : Int32)))) 0 0 (s₁.setTop (entryFrame m #[(.ref ma), (.int kk), (.int a), (.int b), (.int cc), (.int d), (.int mk), (.int it)] 9))
  refine own_cast (ef_9 m ma kk a b cc d mk it) ?_
  refine own_go (S' := (s₁.setTop (mkF m 1 #[.val (.ref ma), .val (.int kk), .val (.int a), .val (.int b), .val (.int cc), .val (.int d), .val (.int mk), .val (.int it), .unset] [(.int kk)]))) (fun τ κ => XS.iloadN X0.here hx rfl (hb hby d9_0) rfl κ) ?_
  refine own_go (S' := (s₁.setTop (mkF m 2 #[.val (.ref ma), .val (.int kk), .val (.int a), .val (.int b), .val (.int cc), .val (.int d), .val (.int mk), .val (.int it), .unset] [(.int a), (.int kk)]))) (fun τ κ => XS.iloadN X0.here hx rfl (hb hby d9_1) rfl κ) ?_
  by_cases hc2_1 : kk = a
  ·
    refine own_go (S' := (s₁.setTop (mkF m 22 #[.val (.ref ma), .val (.int kk), .val (.int a), .val (.int b), .val (.int cc), .val (.int d), .val (.int mk), .val (.int it), .unset] []))) (fun τ κ => XS.icmpYes X0.here hx rfl (pc0 := 2) (pc' := 22) rfl (hb hby d9_2) rfl (teq hc2_1).1 (by decide) (by decide) κ) ?_
    refine own_go (S' := (s₁.setTop (mkF m 24 #[.val (.ref ma), .val (.int kk), .val (.int a), .val (.int b), .val (.int cc), .val (.int d), .val (.int mk), .val (.int it), .unset] [(.int mk)]))) (fun τ κ => XS.iload X0.here hx rfl (hb hby d9_22) rfl κ) ?_
    refine own_go (S' := (s₁.setTop (mkF m 32 #[.val (.ref ma), .val (.int kk), .val (.int a), .val (.int b), .val (.int cc), .val (.int d), .val (.int mk), .val (.int it), .unset] [(.int mk)]))) (fun τ κ => XS.goto X0.here hx rfl (pc0 := 24) (pc' := 32) rfl (hb hby d9_24) (by decide) (by decide) κ) ?_
    refine own_go (S' := (s₁.setTop (mkF m 34 #[.val (.ref ma), .val (.int kk), .val (.int a), .val (.int b), .val (.int cc), .val (.int d), .val (.int mk), .val (.int it), .val (.int mk)] []))) (fun τ κ => XS.istore X0.here hx rfl (hb hby d9_32) rfl (l' := #[.val (.ref ma), .val (.int kk), .val (.int a), .val (.int b), .val (.int cc), .val (.int d), .val (.int mk), .val (.int it), .val (.int mk)]) rfl κ) ?_
    refine own_go (S' := (s₁.setTop (mkF m 35 #[.val (.ref ma), .val (.int kk), .val (.int a), .val (.int b), .val (.int cc), .val (.int d), .val (.int mk), .val (.int it), .val (.int mk)] [(.ref ma)]))) (fun τ κ => XS.aloadN X0.here hx rfl (hb hby d9_34) rfl rfl κ) ?_
    refine own_go (S' := (s₁.setTop (mkF m 36 #[.val (.ref ma), .val (.int kk), .val (.int a), .val (.int b), .val (.int cc), .val (.int d), .val (.int mk), .val (.int it), .val (.int mk)] [(.int kk), (.ref ma)]))) (fun τ κ => XS.iloadN X0.here hx rfl (hb hby d9_35) rfl κ) ?_
    refine own_go (S' := (s₁.setTop (mkF m 37 #[.val (.ref ma), .val (.int kk), .val (.int a), .val (.int b), .val (.int cc), .val (.int d), .val (.int mk), .val (.int it), .val (.int mk)] [(.int (ms.getD kk.toNatClampNeg 0))]))) (own_baload (j := kk) (v := (.int (ms.getD kk.toNatClampNeg 0))) M X0 hx hZ e0 (own_nneg hk0) (i := kk.toNatClampNeg) rfl (by rw [List.length_map]; exact own_ltn hk0 hk1) (own_mapD (own_ltn hk0 hk1)) (hb hby d9_36)) ?_
    refine own_go (S' := (s₁.setTop (mkF m 39 #[.val (.ref ma), .val (.int kk), .val (.int a), .val (.int b), .val (.int cc), .val (.int d), .val (.int mk), .val (.int it), .val (.int mk)] [(.int mk), (.int (ms.getD kk.toNatClampNeg 0))]))) (fun τ κ => XS.iload X0.here hx rfl (hb hby d9_37) rfl κ) ?_
    refine own_go (S' := (s₁.setTop (mkF m 42 #[.val (.ref ma), .val (.int kk), .val (.int a), .val (.int b), .val (.int cc), .val (.int d), .val (.int mk), .val (.int it), .val (.int mk)] []))) (fun τ κ => XS.icmpNo X0.here hx rfl (hb hby d9_39) rfl (teq (by rw [hwant, own_want, if_pos hc2_1])).2 κ) ?_
    refine own_go (S' := (s₁.setTop (mkF m 43 #[.val (.ref ma), .val (.int kk), .val (.int a), .val (.int b), .val (.int cc), .val (.int d), .val (.int mk), .val (.int it), .val (.int mk)] [(.int (1 : Int32))]))) (fun τ κ => XT.iconstV X0.here hx rfl (1 : Int32) (hb hby d9_42) (by decide) κ) ?_
    refine own_go (S' := (s₁.setTop (mkF m 47 #[.val (.ref ma), .val (.int kk), .val (.int a), .val (.int b), .val (.int cc), .val (.int d), .val (.int mk), .val (.int it), .val (.int mk)] [(.int (1 : Int32))]))) (fun τ κ => XS.goto X0.here hx rfl (pc0 := 43) (pc' := 47) rfl (hb hby d9_43) (by decide) (by decide) κ) ?_
    exact own_retN X0 hx hret hlk (by simp) (hb hby d9_47) (by first | rfl | decide) (by decide) (by decide) ⟨rfl, rfl, e0⟩
  ·
    refine own_go (S' := (s₁.setTop (mkF m 5 #[.val (.ref ma), .val (.int kk), .val (.int a), .val (.int b), .val (.int cc), .val (.int d), .val (.int mk), .val (.int it), .unset] []))) (fun τ κ => XS.icmpNo X0.here hx rfl (hb hby d9_2) rfl (feq hc2_1).1 κ) ?_
    refine own_go (S' := (s₁.setTop (mkF m 6 #[.val (.ref ma), .val (.int kk), .val (.int a), .val (.int b), .val (.int cc), .val (.int d), .val (.int mk), .val (.int it), .unset] [(.int kk)]))) (fun τ κ => XS.iloadN X0.here hx rfl (hb hby d9_5) rfl κ) ?_
    refine own_go (S' := (s₁.setTop (mkF m 7 #[.val (.ref ma), .val (.int kk), .val (.int a), .val (.int b), .val (.int cc), .val (.int d), .val (.int mk), .val (.int it), .unset] [(.int b), (.int kk)]))) (fun τ κ => XS.iloadN X0.here hx rfl (hb hby d9_6) rfl κ) ?_
    by_cases hc7_2 : kk = b
    ·
      refine own_go (S' := (s₁.setTop (mkF m 22 #[.val (.ref ma), .val (.int kk), .val (.int a), .val (.int b), .val (.int cc), .val (.int d), .val (.int mk), .val (.int it), .unset] []))) (fun τ κ => XS.icmpYes X0.here hx rfl (pc0 := 7) (pc' := 22) rfl (hb hby d9_7) rfl (teq hc7_2).1 (by decide) (by decide) κ) ?_
      refine own_go (S' := (s₁.setTop (mkF m 24 #[.val (.ref ma), .val (.int kk), .val (.int a), .val (.int b), .val (.int cc), .val (.int d), .val (.int mk), .val (.int it), .unset] [(.int mk)]))) (fun τ κ => XS.iload X0.here hx rfl (hb hby d9_22) rfl κ) ?_
      refine own_go (S' := (s₁.setTop (mkF m 32 #[.val (.ref ma), .val (.int kk), .val (.int a), .val (.int b), .val (.int cc), .val (.int d), .val (.int mk), .val (.int it), .unset] [(.int mk)]))) (fun τ κ => XS.goto X0.here hx rfl (pc0 := 24) (pc' := 32) rfl (hb hby d9_24) (by decide) (by decide) κ) ?_
      refine own_go (S' := (s₁.setTop (mkF m 34 #[.val (.ref ma), .val (.int kk), .val (.int a), .val (.int b), .val (.int cc), .val (.int d), .val (.int mk), .val (.int it), .val (.int mk)] []))) (fun τ κ => XS.istore X0.here hx rfl (hb hby d9_32) rfl (l' := #[.val (.ref ma), .val (.int kk), .val (.int a), .val (.int b), .val (.int cc), .val (.int d), .val (.int mk), .val (.int it), .val (.int mk)]) rfl κ) ?_
      refine own_go (S' := (s₁.setTop (mkF m 35 #[.val (.ref ma), .val (.int kk), .val (.int a), .val (.int b), .val (.int cc), .val (.int d), .val (.int mk), .val (.int it), .val (.int mk)] [(.ref ma)]))) (fun τ κ => XS.aloadN X0.here hx rfl (hb hby d9_34) rfl rfl κ) ?_
      refine own_go (S' := (s₁.setTop (mkF m 36 #[.val (.ref ma), .val (.int kk), .val (.int a), .val (.int b), .val (.int cc), .val (.int d), .val (.int mk), .val (.int it), .val (.int mk)] [(.int kk), (.ref ma)]))) (fun τ κ => XS.iloadN X0.here hx rfl (hb hby d9_35) rfl κ) ?_
      refine own_go (S' := (s₁.setTop (mkF m 37 #[.val (.ref ma), .val (.int kk), .val (.int a), .val (.int b), .val (.int cc), .val (.int d), .val (.int mk), .val (.int it), .val (.int mk)] [(.int (ms.getD kk.toNatClampNeg 0))]))) (own_baload (j := kk) (v := (.int (ms.getD kk.toNatClampNeg 0))) M X0 hx hZ e0 (own_nneg hk0) (i := kk.toNatClampNeg) rfl (by rw [List.length_map]; exact own_ltn hk0 hk1) (own_mapD (own_ltn hk0 hk1)) (hb hby d9_36)) ?_
      refine own_go (S' := (s₁.setTop (mkF m 39 #[.val (.ref ma), .val (.int kk), .val (.int a), .val (.int b), .val (.int cc), .val (.int d), .val (.int mk), .val (.int it), .val (.int mk)] [(.int mk), (.int (ms.getD kk.toNatClampNeg 0))]))) (fun τ κ => XS.iload X0.here hx rfl (hb hby d9_37) rfl κ) ?_
      refine own_go (S' := (s₁.setTop (mkF m 42 #[.val (.ref ma), .val (.int kk), .val (.int a), .val (.int b), .val (.int cc), .val (.int d), .val (.int mk), .val (.int it), .val (.int mk)] []))) (fun τ κ => XS.icmpNo X0.here hx rfl (hb hby d9_39) rfl (teq (by rw [hwant, own_want, if_neg hc2_1, if_pos hc7_2])).2 κ) ?_
      refine own_go (S' := (s₁.setTop (mkF m 43 #[.val (.ref ma), .val (.int kk), .val (.int a), .val (.int b), .val (.int cc), .val (.int d), .val (.int mk), .val (.int it), .val (.int mk)] [(.int (1 : Int32))]))) (fun τ κ => XT.iconstV X0.here hx rfl (1 : Int32) (hb hby d9_42) (by decide) κ) ?_
      refine own_go (S' := (s₁.setTop (mkF m 47 #[.val (.ref ma), .val (.int kk), .val (.int a), .val (.int b), .val (.int cc), .val (.int d), .val (.int mk), .val (.int it), .val (.int mk)] [(.int (1 : Int32))]))) (fun τ κ => XS.goto X0.here hx rfl (pc0 := 43) (pc' := 47) rfl (hb hby d9_43) (by decide) (by decide) κ) ?_
      exact own_retN X0 hx hret hlk (by simp) (hb hby d9_47) (by first | rfl | decide) (by decide) (by decide) ⟨rfl, rfl, e0⟩
    ·
      refine own_go (S' := (s₁.setTop (mkF m 10 #[.val (.ref ma), .val (.int kk), .val (.int a), .val (.int b), .val (.int cc), .val (.int d), .val (.int mk), .val (.int it), .unset] []))) (fun τ κ => XS.icmpNo X0.here hx rfl (hb hby d9_7) rfl (feq hc7_2).1 κ) ?_
      refine own_go (S' := (s₁.setTop (mkF m 11 #[.val (.ref ma), .val (.int kk), .val (.int a), .val (.int b), .val (.int cc), .val (.int d), .val (.int mk), .val (.int it), .unset] [(.int kk)]))) (fun τ κ => XS.iloadN X0.here hx rfl (hb hby d9_10) rfl κ) ?_
      refine own_go (S' := (s₁.setTop (mkF m 13 #[.val (.ref ma), .val (.int kk), .val (.int a), .val (.int b), .val (.int cc), .val (.int d), .val (.int mk), .val (.int it), .unset] [(.int cc), (.int kk)]))) (fun τ κ => XS.iload X0.here hx rfl (hb hby d9_11) rfl κ) ?_
      by_cases hc13_3 : kk = cc
      ·
        refine own_go (S' := (s₁.setTop (mkF m 22 #[.val (.ref ma), .val (.int kk), .val (.int a), .val (.int b), .val (.int cc), .val (.int d), .val (.int mk), .val (.int it), .unset] []))) (fun τ κ => XS.icmpYes X0.here hx rfl (pc0 := 13) (pc' := 22) rfl (hb hby d9_13) rfl (teq hc13_3).1 (by decide) (by decide) κ) ?_
        refine own_go (S' := (s₁.setTop (mkF m 24 #[.val (.ref ma), .val (.int kk), .val (.int a), .val (.int b), .val (.int cc), .val (.int d), .val (.int mk), .val (.int it), .unset] [(.int mk)]))) (fun τ κ => XS.iload X0.here hx rfl (hb hby d9_22) rfl κ) ?_
        refine own_go (S' := (s₁.setTop (mkF m 32 #[.val (.ref ma), .val (.int kk), .val (.int a), .val (.int b), .val (.int cc), .val (.int d), .val (.int mk), .val (.int it), .unset] [(.int mk)]))) (fun τ κ => XS.goto X0.here hx rfl (pc0 := 24) (pc' := 32) rfl (hb hby d9_24) (by decide) (by decide) κ) ?_
        refine own_go (S' := (s₁.setTop (mkF m 34 #[.val (.ref ma), .val (.int kk), .val (.int a), .val (.int b), .val (.int cc), .val (.int d), .val (.int mk), .val (.int it), .val (.int mk)] []))) (fun τ κ => XS.istore X0.here hx rfl (hb hby d9_32) rfl (l' := #[.val (.ref ma), .val (.int kk), .val (.int a), .val (.int b), .val (.int cc), .val (.int d), .val (.int mk), .val (.int it), .val (.int mk)]) rfl κ) ?_
        refine own_go (S' := (s₁.setTop (mkF m 35 #[.val (.ref ma), .val (.int kk), .val (.int a), .val (.int b), .val (.int cc), .val (.int d), .val (.int mk), .val (.int it), .val (.int mk)] [(.ref ma)]))) (fun τ κ => XS.aloadN X0.here hx rfl (hb hby d9_34) rfl rfl κ) ?_
        refine own_go (S' := (s₁.setTop (mkF m 36 #[.val (.ref ma), .val (.int kk), .val (.int a), .val (.int b), .val (.int cc), .val (.int d), .val (.int mk), .val (.int it), .val (.int mk)] [(.int kk), (.ref ma)]))) (fun τ κ => XS.iloadN X0.here hx rfl (hb hby d9_35) rfl κ) ?_
        refine own_go (S' := (s₁.setTop (mkF m 37 #[.val (.ref ma), .val (.int kk), .val (.int a), .val (.int b), .val (.int cc), .val (.int d), .val (.int mk), .val (.int it), .val (.int mk)] [(.int (ms.getD kk.toNatClampNeg 0))]))) (own_baload (j := kk) (v := (.int (ms.getD kk.toNatClampNeg 0))) M X0 hx hZ e0 (own_nneg hk0) (i := kk.toNatClampNeg) rfl (by rw [List.length_map]; exact own_ltn hk0 hk1) (own_mapD (own_ltn hk0 hk1)) (hb hby d9_36)) ?_
        refine own_go (S' := (s₁.setTop (mkF m 39 #[.val (.ref ma), .val (.int kk), .val (.int a), .val (.int b), .val (.int cc), .val (.int d), .val (.int mk), .val (.int it), .val (.int mk)] [(.int mk), (.int (ms.getD kk.toNatClampNeg 0))]))) (fun τ κ => XS.iload X0.here hx rfl (hb hby d9_37) rfl κ) ?_
        refine own_go (S' := (s₁.setTop (mkF m 42 #[.val (.ref ma), .val (.int kk), .val (.int a), .val (.int b), .val (.int cc), .val (.int d), .val (.int mk), .val (.int it), .val (.int mk)] []))) (fun τ κ => XS.icmpNo X0.here hx rfl (hb hby d9_39) rfl (teq (by rw [hwant, own_want, if_neg hc2_1, if_neg hc7_2, if_pos hc13_3])).2 κ) ?_
        refine own_go (S' := (s₁.setTop (mkF m 43 #[.val (.ref ma), .val (.int kk), .val (.int a), .val (.int b), .val (.int cc), .val (.int d), .val (.int mk), .val (.int it), .val (.int mk)] [(.int (1 : Int32))]))) (fun τ κ => XT.iconstV X0.here hx rfl (1 : Int32) (hb hby d9_42) (by decide) κ) ?_
        refine own_go (S' := (s₁.setTop (mkF m 47 #[.val (.ref ma), .val (.int kk), .val (.int a), .val (.int b), .val (.int cc), .val (.int d), .val (.int mk), .val (.int it), .val (.int mk)] [(.int (1 : Int32))]))) (fun τ κ => XS.goto X0.here hx rfl (pc0 := 43) (pc' := 47) rfl (hb hby d9_43) (by decide) (by decide) κ) ?_
        exact own_retN X0 hx hret hlk (by simp) (hb hby d9_47) (by first | rfl | decide) (by decide) (by decide) ⟨rfl, rfl, e0⟩
      ·
        refine own_go (S' := (s₁.setTop (mkF m 16 #[.val (.ref ma), .val (.int kk), .val (.int a), .val (.int b), .val (.int cc), .val (.int d), .val (.int mk), .val (.int it), .unset] []))) (fun τ κ => XS.icmpNo X0.here hx rfl (hb hby d9_13) rfl (feq hc13_3).1 κ) ?_
        refine own_go (S' := (s₁.setTop (mkF m 17 #[.val (.ref ma), .val (.int kk), .val (.int a), .val (.int b), .val (.int cc), .val (.int d), .val (.int mk), .val (.int it), .unset] [(.int kk)]))) (fun τ κ => XS.iloadN X0.here hx rfl (hb hby d9_16) rfl κ) ?_
        refine own_go (S' := (s₁.setTop (mkF m 19 #[.val (.ref ma), .val (.int kk), .val (.int a), .val (.int b), .val (.int cc), .val (.int d), .val (.int mk), .val (.int it), .unset] [(.int d), (.int kk)]))) (fun τ κ => XS.iload X0.here hx rfl (hb hby d9_17) rfl κ) ?_
        by_cases hc19_4 : kk = d
        ·
          refine own_go (S' := (s₁.setTop (mkF m 22 #[.val (.ref ma), .val (.int kk), .val (.int a), .val (.int b), .val (.int cc), .val (.int d), .val (.int mk), .val (.int it), .unset] []))) (fun τ κ => XS.icmpNo X0.here hx rfl (hb hby d9_19) rfl (teq hc19_4).2 κ) ?_
          refine own_go (S' := (s₁.setTop (mkF m 24 #[.val (.ref ma), .val (.int kk), .val (.int a), .val (.int b), .val (.int cc), .val (.int d), .val (.int mk), .val (.int it), .unset] [(.int mk)]))) (fun τ κ => XS.iload X0.here hx rfl (hb hby d9_22) rfl κ) ?_
          refine own_go (S' := (s₁.setTop (mkF m 32 #[.val (.ref ma), .val (.int kk), .val (.int a), .val (.int b), .val (.int cc), .val (.int d), .val (.int mk), .val (.int it), .unset] [(.int mk)]))) (fun τ κ => XS.goto X0.here hx rfl (pc0 := 24) (pc' := 32) rfl (hb hby d9_24) (by decide) (by decide) κ) ?_
          refine own_go (S' := (s₁.setTop (mkF m 34 #[.val (.ref ma), .val (.int kk), .val (.int a), .val (.int b), .val (.int cc), .val (.int d), .val (.int mk), .val (.int it), .val (.int mk)] []))) (fun τ κ => XS.istore X0.here hx rfl (hb hby d9_32) rfl (l' := #[.val (.ref ma), .val (.int kk), .val (.int a), .val (.int b), .val (.int cc), .val (.int d), .val (.int mk), .val (.int it), .val (.int mk)]) rfl κ) ?_
          refine own_go (S' := (s₁.setTop (mkF m 35 #[.val (.ref ma), .val (.int kk), .val (.int a), .val (.int b), .val (.int cc), .val (.int d), .val (.int mk), .val (.int it), .val (.int mk)] [(.ref ma)]))) (fun τ κ => XS.aloadN X0.here hx rfl (hb hby d9_34) rfl rfl κ) ?_
          refine own_go (S' := (s₁.setTop (mkF m 36 #[.val (.ref ma), .val (.int kk), .val (.int a), .val (.int b), .val (.int cc), .val (.int d), .val (.int mk), .val (.int it), .val (.int mk)] [(.int kk), (.ref ma)]))) (fun τ κ => XS.iloadN X0.here hx rfl (hb hby d9_35) rfl κ) ?_
          refine own_go (S' := (s₁.setTop (mkF m 37 #[.val (.ref ma), .val (.int kk), .val (.int a), .val (.int b), .val (.int cc), .val (.int d), .val (.int mk), .val (.int it), .val (.int mk)] [(.int (ms.getD kk.toNatClampNeg 0))]))) (own_baload (j := kk) (v := (.int (ms.getD kk.toNatClampNeg 0))) M X0 hx hZ e0 (own_nneg hk0) (i := kk.toNatClampNeg) rfl (by rw [List.length_map]; exact own_ltn hk0 hk1) (own_mapD (own_ltn hk0 hk1)) (hb hby d9_36)) ?_
          refine own_go (S' := (s₁.setTop (mkF m 39 #[.val (.ref ma), .val (.int kk), .val (.int a), .val (.int b), .val (.int cc), .val (.int d), .val (.int mk), .val (.int it), .val (.int mk)] [(.int mk), (.int (ms.getD kk.toNatClampNeg 0))]))) (fun τ κ => XS.iload X0.here hx rfl (hb hby d9_37) rfl κ) ?_
          refine own_go (S' := (s₁.setTop (mkF m 42 #[.val (.ref ma), .val (.int kk), .val (.int a), .val (.int b), .val (.int cc), .val (.int d), .val (.int mk), .val (.int it), .val (.int mk)] []))) (fun τ κ => XS.icmpNo X0.here hx rfl (hb hby d9_39) rfl (teq (by rw [hwant, own_want, if_neg hc2_1, if_neg hc7_2, if_neg hc13_3, if_pos hc19_4])).2 κ) ?_
          refine own_go (S' := (s₁.setTop (mkF m 43 #[.val (.ref ma), .val (.int kk), .val (.int a), .val (.int b), .val (.int cc), .val (.int d), .val (.int mk), .val (.int it), .val (.int mk)] [(.int (1 : Int32))]))) (fun τ κ => XT.iconstV X0.here hx rfl (1 : Int32) (hb hby d9_42) (by decide) κ) ?_
          refine own_go (S' := (s₁.setTop (mkF m 47 #[.val (.ref ma), .val (.int kk), .val (.int a), .val (.int b), .val (.int cc), .val (.int d), .val (.int mk), .val (.int it), .val (.int mk)] [(.int (1 : Int32))]))) (fun τ κ => XS.goto X0.here hx rfl (pc0 := 43) (pc' := 47) rfl (hb hby d9_43) (by decide) (by decide) κ) ?_
          exact own_retN X0 hx hret hlk (by simp) (hb hby d9_47) (by first | rfl | decide) (by decide) (by decide) ⟨rfl, rfl, e0⟩
        ·
          refine own_go (S' := (s₁.setTop (mkF m 27 #[.val (.ref ma), .val (.int kk), .val (.int a), .val (.int b), .val (.int cc), .val (.int d), .val (.int mk), .val (.int it), .unset] []))) (fun τ κ => XS.icmpYes X0.here hx rfl (pc0 := 19) (pc' := 27) rfl (hb hby d9_19) rfl (feq hc19_4).2 (by decide) (by decide) κ) ?_
          refine own_go (S' := (s₁.setTop (mkF m 29 #[.val (.ref ma), .val (.int kk), .val (.int a), .val (.int b), .val (.int cc), .val (.int d), .val (.int mk), .val (.int it), .unset] [(.int it)]))) (fun τ κ => XS.iload X0.here hx rfl (hb hby d9_27) rfl κ) ?_
          refine own_go (S' := (s₁.setTop (mkF m 30 #[.val (.ref ma), .val (.int kk), .val (.int a), .val (.int b), .val (.int cc), .val (.int d), .val (.int mk), .val (.int it), .unset] [(.int kk), (.int it)]))) (fun τ κ => XS.iloadN X0.here hx rfl (hb hby d9_29) rfl κ) ?_
          refine own_go (S' := (s₁.setTop (mkF m 31 #[.val (.ref ma), .val (.int kk), .val (.int a), .val (.int b), .val (.int cc), .val (.int d), .val (.int mk), .val (.int it), .unset] [(.int (it ^^^ kk))]))) (fun τ κ => XS.ixor X0.here hx rfl (hb hby d9_30) rfl κ) ?_
          refine own_go (S' := (s₁.setTop (mkF m 32 #[.val (.ref ma), .val (.int kk), .val (.int a), .val (.int b), .val (.int cc), .val (.int d), .val (.int mk), .val (.int it), .unset] [(.int ((it ^^^ kk).toInt8.toInt32))]))) (fun τ κ => XS.i2b X0.here hx rfl (hb hby d9_31) rfl κ) ?_
          refine own_go (S' := (s₁.setTop (mkF m 34 #[.val (.ref ma), .val (.int kk), .val (.int a), .val (.int b), .val (.int cc), .val (.int d), .val (.int mk), .val (.int it), .val (.int ((it ^^^ kk).toInt8.toInt32))] []))) (fun τ κ => XS.istore X0.here hx rfl (hb hby d9_32) rfl (l' := #[.val (.ref ma), .val (.int kk), .val (.int a), .val (.int b), .val (.int cc), .val (.int d), .val (.int mk), .val (.int it), .val (.int ((it ^^^ kk).toInt8.toInt32))]) rfl κ) ?_
          refine own_go (S' := (s₁.setTop (mkF m 35 #[.val (.ref ma), .val (.int kk), .val (.int a), .val (.int b), .val (.int cc), .val (.int d), .val (.int mk), .val (.int it), .val (.int ((it ^^^ kk).toInt8.toInt32))] [(.ref ma)]))) (fun τ κ => XS.aloadN X0.here hx rfl (hb hby d9_34) rfl rfl κ) ?_
          refine own_go (S' := (s₁.setTop (mkF m 36 #[.val (.ref ma), .val (.int kk), .val (.int a), .val (.int b), .val (.int cc), .val (.int d), .val (.int mk), .val (.int it), .val (.int ((it ^^^ kk).toInt8.toInt32))] [(.int kk), (.ref ma)]))) (fun τ κ => XS.iloadN X0.here hx rfl (hb hby d9_35) rfl κ) ?_
          refine own_go (S' := (s₁.setTop (mkF m 37 #[.val (.ref ma), .val (.int kk), .val (.int a), .val (.int b), .val (.int cc), .val (.int d), .val (.int mk), .val (.int it), .val (.int ((it ^^^ kk).toInt8.toInt32))] [(.int (ms.getD kk.toNatClampNeg 0))]))) (own_baload (j := kk) (v := (.int (ms.getD kk.toNatClampNeg 0))) M X0 hx hZ e0 (own_nneg hk0) (i := kk.toNatClampNeg) rfl (by rw [List.length_map]; exact own_ltn hk0 hk1) (own_mapD (own_ltn hk0 hk1)) (hb hby d9_36)) ?_
          refine own_go (S' := (s₁.setTop (mkF m 39 #[.val (.ref ma), .val (.int kk), .val (.int a), .val (.int b), .val (.int cc), .val (.int d), .val (.int mk), .val (.int it), .val (.int ((it ^^^ kk).toInt8.toInt32))] [(.int ((it ^^^ kk).toInt8.toInt32)), (.int (ms.getD kk.toNatClampNeg 0))]))) (fun τ κ => XS.iload X0.here hx rfl (hb hby d9_37) rfl κ) ?_
          refine own_go (S' := (s₁.setTop (mkF m 42 #[.val (.ref ma), .val (.int kk), .val (.int a), .val (.int b), .val (.int cc), .val (.int d), .val (.int mk), .val (.int it), .val (.int ((it ^^^ kk).toInt8.toInt32))] []))) (fun τ κ => XS.icmpNo X0.here hx rfl (hb hby d9_39) rfl (teq (by rw [hwant, own_want, if_neg hc2_1, if_neg hc7_2, if_neg hc13_3, if_neg hc19_4])).2 κ) ?_
          refine own_go (S' := (s₁.setTop (mkF m 43 #[.val (.ref ma), .val (.int kk), .val (.int a), .val (.int b), .val (.int cc), .val (.int d), .val (.int mk), .val (.int it), .val (.int ((it ^^^ kk).toInt8.toInt32))] [(.int (1 : Int32))]))) (fun τ κ => XT.iconstV X0.here hx rfl (1 : Int32) (hb hby d9_42) (by decide) κ) ?_
          refine own_go (S' := (s₁.setTop (mkF m 47 #[.val (.ref ma), .val (.int kk), .val (.int a), .val (.int b), .val (.int cc), .val (.int d), .val (.int mk), .val (.int it), .val (.int ((it ^^^ kk).toInt8.toInt32))] [(.int (1 : Int32))]))) (fun τ κ => XS.goto X0.here hx rfl (pc0 := 43) (pc' := 47) rfl (hb hby d9_43) (by decide) (by decide) κ) ?_
          exact own_retN X0 hx hret hlk (by simp) (hb hby d9_47) (by first | rfl | decide) (by decide) (by decide) ⟨rfl, rfl, e0⟩
theorem own_tail_nonneg {ys : List Int32} {f : Nat} (hs : own_sorted ys) (h3 : f < ys.length → 0 ≤ (ys.getD f 0).toInt) : ∀ y ∈ ys.drop f, 0 ≤ y.toInt := by
  intro y hy
  obtain ⟨j, hj, e⟩ := List.getElem_of_mem hy
  rw [List.getElem_drop] at e
  simp only [List.length_drop] at hj
  have h0 := h3 (by omega)
  rw [List.getD_eq_getElem?_getD, List.getElem?_eq_getElem (by omega)] at h0
  rw [← e]
  rcases Nat.eq_zero_or_pos j with q | q
  · subst q; simpa using h0
  · exact Int.le_trans h0 (List.pairwise_iff_getElem.mp hs f (f + j) (by omega) (by omega) (by omega))
theorem own_code_lt (x : Int32) : (f1_0 x).toInt < 8 := by
  unfold f1_0
  have h := Jvm.Kit.i32_mask x 7 (k := 3) (by decide) (by decide)
  split
  · rename_i q; rw [Int32.lt_iff_toInt_lt] at q
    have e0 : (0 : Int32).toInt = 0 := rfl
    omega
  · rw [h]; omega
theorem own_marked_len (mk : Int32) : ∀ (zs ms : List Int32), (own_marked ms mk zs).length = ms.length
  | [], _ => rfl
  | y :: zs, ms => by
    show (own_marked (ms.set y.toNatClampNeg (nar .byte mk)) mk zs).length = _
    rw [own_marked_len mk zs, List.length_set]
theorem own_marked_no (mk : Int32) (k : Nat) : ∀ (zs ms : List Int32), (∀ y ∈ zs, y.toNatClampNeg ≠ k) → (own_marked ms mk zs).getD k 0 = ms.getD k 0
  | [], _, _ => rfl
  | y :: zs, ms, h => by
    show (own_marked (ms.set y.toNatClampNeg (nar .byte mk)) mk zs).getD k 0 = _
    rw [own_marked_no mk k zs _ (fun z hz => h z (List.mem_cons_of_mem _ hz))]
    simp only [List.getD_eq_getElem?_getD]
    rw [List.getElem?_set_ne (h y (by simp))]
theorem own_marked_yes (mk : Int32) (k : Nat) : ∀ (zs ms : List Int32), k < ms.length → (∃ y ∈ zs, y.toNatClampNeg = k) → (own_marked ms mk zs).getD k 0 = nar .byte mk
  | [], _, _, h => by obtain ⟨y, hy, _⟩ := h; cases hy
  | y :: zs, ms, hk, h => by
    show (own_marked (ms.set y.toNatClampNeg (nar .byte mk)) mk zs).getD k 0 = _
    by_cases q : ∃ z ∈ zs, z.toNatClampNeg = k
    · exact own_marked_yes mk k zs _ (by rw [List.length_set]; exact hk) q
    · rw [own_marked_no mk k zs _ (fun z hz e => q ⟨z, hz, e⟩)]
      obtain ⟨z, hz, e⟩ := h
      rcases List.mem_cons.mp hz with u | u
      · subst u; rw [e]; simp [List.getD_eq_getElem?_getD, hk]
      · exact absurd ⟨z, u, e⟩ q
theorem own_mem_drop {xs ys : List Int32} {f : Nat} (hp : ys.Perm xs) (h2 : ∀ j, j < f → (ys.getD j 0).toInt < 0) {y : Int32} (hy : y ∈ xs) (h0 : 0 ≤ y.toInt) : y ∈ ys.drop f := by
  obtain ⟨j, hj, e⟩ := List.getElem_of_mem (hp.mem_iff.mpr hy)
  rcases Nat.lt_or_ge j f with q | q
  · have := h2 j q
    rw [List.getD_eq_getElem?_getD, List.getElem?_eq_getElem hj] at this
    rw [← e] at h0
    have : ys[j].toInt < 0 := this
    omega
  · rw [List.mem_iff_getElem]
    refine ⟨j - f, by rw [List.length_drop]; omega, ?_⟩
    rw [List.getElem_drop]
    have : f + (j - f) = j := by omega
    simp only [this]; exact e
theorem own_final {a b cc d mk it : Int32} {ys ms : List Int32} {f : Nat} (hp : ys.Perm [a, b, cc, d]) (hs : own_sorted ys) (h2 : ∀ j, j < f → (ys.getD j 0).toInt < 0) (h3 : f < ys.length → 0 ≤ (ys.getD f 0).toInt) (hmk : nar .byte mk = mk) {kk : Int32} (hk0 : 0 ≤ kk.toInt) (hk1 : kk.toInt < ms.length) (hm : ms.getD kk.toNatClampNeg 0 = ((it ^^^ kk).toInt8.toInt32)) :
    (own_marked ms mk (ys.drop f)).getD kk.toNatClampNeg 0 = own_want kk a b cc d mk it := by
  have key : ∀ y : Int32, y ∈ [a, b, cc, d] → kk = y → (own_marked ms mk (ys.drop f)).getD kk.toNatClampNeg 0 = mk := fun y hy e => by
    rw [own_marked_yes mk _ _ ms (own_ltn hk0 hk1) ⟨kk, own_mem_drop hp h2 (e ▸ hy) hk0, rfl⟩, hmk]
  unfold own_want
  by_cases q1 : kk = a
  · rw [if_pos q1]; exact key a (by simp) q1
  by_cases q2 : kk = b
  · rw [if_neg q1, if_pos q2]; exact key b (by simp) q2
  by_cases q3 : kk = cc
  · rw [if_neg q1, if_neg q2, if_pos q3]; exact key cc (by simp) q3
  by_cases q4 : kk = d
  · rw [if_neg q1, if_neg q2, if_neg q3, if_pos q4]; exact key d (by simp) q4
  rw [if_neg q1, if_neg q2, if_neg q3, if_neg q4, own_marked_no mk _ _ ms, hm]
  intro y hy e
  have hy0 := own_tail_nonneg hs h3 y hy
  have : kk = y := Int32.toInt_inj.mp (by simp only [Int32.toNatClampNeg] at e; omega)
  have hm4 := hp.mem_iff.mp (List.mem_of_mem_drop hy)
  simp only [List.mem_cons, List.not_mem_nil, or_false] at hm4
  rcases hm4 with r | r | r | r
  · exact q1 (this.trans r)
  · exact q2 (this.trans r)
  · exact q3 (this.trans r)
  · exact q4 (this.trans r)
theorem own_narB (x : Int32) : nar .byte (x.toInt8.toInt32) = x.toInt8.toInt32 := by simp [nar]
theorem pn_0 : plainName "com/example/twinhash/twinhash/shingle/ShingleSetMarkPinLaw" = true := by first | (simp [plainName, overriddenIn]; done) | decide +kernel
theorem ef_0 (m : MethodId) (x0 : Int32) (x1 : Int32) (x2 : Int32) (x3 : Int32) (x4 : Int32) (x5 : Int32) : entryFrame m #[(.int x0), (.int x1), (.int x2), (.int x3), (.int x4), (.int x5)] maxLocals = mkF m 0 #[.val (.int x0), .val (.int x1), .val (.int x2), .val (.int x3), .val (.int x4), .val (.int x5), .unset, .unset, .unset, .unset, .unset, .unset, .unset, .unset] [] := by first | (simp [entryFrame, mkF, argsToLocals, Value.category, maxLocals]; done) | rfl
def Q0 (n0 : Nat) (v : Option Value) (h : Heap) (L : List Loc) : Prop := v = some (.int (1 : Int32)) ∧ Fr n0 L
set_option maxRecDepth 65536 in
set_option maxHeartbeats 400000000 in
theorem rm0 (l : Launch) (Z : State) (a0 : Array Value) (hw : ∀ d ∈ tables_1, d.before a0 Z = true) (ws : List Jvm.Cond) (x0 : Int32) (x1 : Int32) (x2 : Int32) (x3 : Int32) (x4 : Int32) (x5 : Int32) (h0 : Heap) (n0 : Nat) (Z0 : n0 ≤ h0.size) :
    MetFree l x (head1 (Jvm.Cond.code x code maxLocals ret :: ws) room_1) (fun a U => a = #[(.int x0), (.int x1), (.int x2), (.int x3), (.int x4), (.int x5)] ∧ Z.Warmed39 U.vm ∧ U.heap = h0) (fun _ _ _ _ _ => True) (fun _ U o U' => ∃ v L, o = .returned v ∧ Q0 n0 v U'.heap L ∧ FrameEnd U o U' L 16 128) := by
  refine MetFree.of_bodySF (plainFor_of_name pn_0) hisR ?_
  intro p e s m args below meth c s₁ Bd hml0 hP hK
  obtain ⟨rfl, hZ, hh⟩ := hP
  have hx := Bd.exec
  have hby := Bd.bytes
  have hml : c.maxLocals = 14 := hml0
  have hown : s.vm.findClass "com/example/twinhash/twinhash/shingle/ShingleSetMarkPinLaw" = some m.cls := findClass_of_methodNamed Bd.named
  have hret : meth.sig.returnType = some .boolean := Bd.returns
  have hlk := BodyLoose.notSynchronized Bd
  have X0 : Stand p l e room_1 s m #[(.int x0), (.int x1), (.int x2), (.int x3), (.int x4), (.int x5)] below meth c s₁ [] 0 0 := Stand.of_body Bd
  have e0 : s₁.heap = h0 := by rw [← hh, Bd.state]; rfl
  have N0 := Fr.nil n0
  show own_End p e below s (Q0 n0) 16 128 (s₁.setTop (entryFrame m #[(.int x0), (.int x1), (.int x2), (.int x3), (.int x4), (.int x5)] maxLocals))
  refine own_cast (ef_0 m x0 x1 x2 x3 x4 x5) ?_
  refine own_go (S' := (s₁.setTop (mkF m 1 #[.val (.int x0), .val (.int x1), .val (.int x2), .val (.int x3), .val (.int x4), .val (.int x5), .unset, .unset, .unset, .unset, .unset, .unset, .unset, .unset] [(.int x0)]))) (fun τ κ => XS.iloadN X0.here hx rfl (hb hby at_0) rfl κ) ?_
  obtain ⟨T1, X1, e1, st1⟩ := own_callP X0 hx hZ (y := (⟨"com/example/twinhash/twinhash/shingle/ShingleSetMarkPinLaw", "code", "(I)I"⟩ : MethodName)) hown (hw _ (List.mem_of_getElem? (i := 0) rfl)) (hw _ (List.mem_of_getElem? (i := 1) rfl)) (hw _ (List.mem_of_getElem? (i := 2) rfl)) (hw _ (List.mem_of_getElem? (i := 3) rfl)) (rm1 l Z a0 hw x0 h0) e0 (argsL := [(.int x0)]) (rest := []) (Ls := #[.val (.int x0), .val (.int x1), .val (.int x2), .val (.int x3), .val (.int x4), .val (.int x5), .unset, .unset, .unset, .unset, .unset, .unset, .unset, .unset]) (hb hby at_1) pd_4 0 (by rw [hml]; rfl) (by decide) rfl rfl rfl (Nat.le_of_eq rfl) (by decide) (by decide) (by decide) (by decide)
  refine own_go (S' := (T1.setTop (mkF m 4 #[.val (.int x0), .val (.int x1), .val (.int x2), .val (.int x3), .val (.int x4), .val (.int x5), .unset, .unset, .unset, .unset, .unset, .unset, .unset, .unset] [(.int (f1_0 x0))]))) st1 ?_
  refine own_go (S' := (T1.setTop (mkF m 6 #[.val (.int x0), .val (.int x1), .val (.int x2), .val (.int x3), .val (.int x4), .val (.int x5), .val (.int (f1_0 x0)), .unset, .unset, .unset, .unset, .unset, .unset, .unset] []))) (fun τ κ => XS.istore X1.here hx rfl (hb hby at_4) rfl (l' := #[.val (.int x0), .val (.int x1), .val (.int x2), .val (.int x3), .val (.int x4), .val (.int x5), .val (.int (f1_0 x0)), .unset, .unset, .unset, .unset, .unset, .unset, .unset]) rfl κ) ?_
  generalize hg4 : (f1_0 x0) = y4
  refine own_go (S' := (T1.setTop (mkF m 7 #[.val (.int x0), .val (.int x1), .val (.int x2), .val (.int x3), .val (.int x4), .val (.int x5), .val (.int y4), .unset, .unset, .unset, .unset, .unset, .unset, .unset] [(.int x1)]))) (fun τ κ => XS.iloadN X1.here hx rfl (hb hby at_6) rfl κ) ?_
  obtain ⟨T2, X2, e2, st2⟩ := own_callP X1 hx hZ (y := (⟨"com/example/twinhash/twinhash/shingle/ShingleSetMarkPinLaw", "code", "(I)I"⟩ : MethodName)) hown (hw _ (List.mem_of_getElem? (i := 0) rfl)) (hw _ (List.mem_of_getElem? (i := 1) rfl)) (hw _ (List.mem_of_getElem? (i := 2) rfl)) (hw _ (List.mem_of_getElem? (i := 3) rfl)) (rm1 l Z a0 hw x1 h0) e1 (argsL := [(.int x1)]) (rest := []) (Ls := #[.val (.int x0), .val (.int x1), .val (.int x2), .val (.int x3), .val (.int x4), .val (.int x5), .val (.int y4), .unset, .unset, .unset, .unset, .unset, .unset, .unset]) (hb hby at_7) pd_4 0 (by rw [hml]; rfl) (by decide) rfl rfl rfl (Nat.le_of_eq rfl) (by decide) (by decide) (by decide) (by decide)
  refine own_go (S' := (T2.setTop (mkF m 10 #[.val (.int x0), .val (.int x1), .val (.int x2), .val (.int x3), .val (.int x4), .val (.int x5), .val (.int y4), .unset, .unset, .unset, .unset, .unset, .unset, .unset] [(.int (f1_0 x1))]))) st2 ?_
  refine own_go (S' := (T2.setTop (mkF m 12 #[.val (.int x0), .val (.int x1), .val (.int x2), .val (.int x3), .val (.int x4), .val (.int x5), .val (.int y4), .val (.int (f1_0 x1)), .unset, .unset, .unset, .unset, .unset, .unset] []))) (fun τ κ => XS.istore X2.here hx rfl (hb hby at_10) rfl (l' := #[.val (.int x0), .val (.int x1), .val (.int x2), .val (.int x3), .val (.int x4), .val (.int x5), .val (.int y4), .val (.int (f1_0 x1)), .unset, .unset, .unset, .unset, .unset, .unset]) rfl κ) ?_
  generalize hg10 : (f1_0 x1) = y10
  refine own_go (S' := (T2.setTop (mkF m 13 #[.val (.int x0), .val (.int x1), .val (.int x2), .val (.int x3), .val (.int x4), .val (.int x5), .val (.int y4), .val (.int y10), .unset, .unset, .unset, .unset, .unset, .unset] [(.int x2)]))) (fun τ κ => XS.iloadN X2.here hx rfl (hb hby at_12) rfl κ) ?_
  obtain ⟨T3, X3, e3, st3⟩ := own_callP X2 hx hZ (y := (⟨"com/example/twinhash/twinhash/shingle/ShingleSetMarkPinLaw", "code", "(I)I"⟩ : MethodName)) hown (hw _ (List.mem_of_getElem? (i := 0) rfl)) (hw _ (List.mem_of_getElem? (i := 1) rfl)) (hw _ (List.mem_of_getElem? (i := 2) rfl)) (hw _ (List.mem_of_getElem? (i := 3) rfl)) (rm1 l Z a0 hw x2 h0) e2 (argsL := [(.int x2)]) (rest := []) (Ls := #[.val (.int x0), .val (.int x1), .val (.int x2), .val (.int x3), .val (.int x4), .val (.int x5), .val (.int y4), .val (.int y10), .unset, .unset, .unset, .unset, .unset, .unset]) (hb hby at_13) pd_4 0 (by rw [hml]; rfl) (by decide) rfl rfl rfl (Nat.le_of_eq rfl) (by decide) (by decide) (by decide) (by decide)
  refine own_go (S' := (T3.setTop (mkF m 16 #[.val (.int x0), .val (.int x1), .val (.int x2), .val (.int x3), .val (.int x4), .val (.int x5), .val (.int y4), .val (.int y10), .unset, .unset, .unset, .unset, .unset, .unset] [(.int (f1_0 x2))]))) st3 ?_
  refine own_go (S' := (T3.setTop (mkF m 18 #[.val (.int x0), .val (.int x1), .val (.int x2), .val (.int x3), .val (.int x4), .val (.int x5), .val (.int y4), .val (.int y10), .val (.int (f1_0 x2)), .unset, .unset, .unset, .unset, .unset] []))) (fun τ κ => XS.istore X3.here hx rfl (hb hby at_16) rfl (l' := #[.val (.int x0), .val (.int x1), .val (.int x2), .val (.int x3), .val (.int x4), .val (.int x5), .val (.int y4), .val (.int y10), .val (.int (f1_0 x2)), .unset, .unset, .unset, .unset, .unset]) rfl κ) ?_
  generalize hg16 : (f1_0 x2) = y16
  refine own_go (S' := (T3.setTop (mkF m 19 #[.val (.int x0), .val (.int x1), .val (.int x2), .val (.int x3), .val (.int x4), .val (.int x5), .val (.int y4), .val (.int y10), .val (.int y16), .unset, .unset, .unset, .unset, .unset] [(.int x3)]))) (fun τ κ => XS.iloadN X3.here hx rfl (hb hby at_18) rfl κ) ?_
  obtain ⟨T4, X4, e4, st4⟩ := own_callP X3 hx hZ (y := (⟨"com/example/twinhash/twinhash/shingle/ShingleSetMarkPinLaw", "code", "(I)I"⟩ : MethodName)) hown (hw _ (List.mem_of_getElem? (i := 0) rfl)) (hw _ (List.mem_of_getElem? (i := 1) rfl)) (hw _ (List.mem_of_getElem? (i := 2) rfl)) (hw _ (List.mem_of_getElem? (i := 3) rfl)) (rm1 l Z a0 hw x3 h0) e3 (argsL := [(.int x3)]) (rest := []) (Ls := #[.val (.int x0), .val (.int x1), .val (.int x2), .val (.int x3), .val (.int x4), .val (.int x5), .val (.int y4), .val (.int y10), .val (.int y16), .unset, .unset, .unset, .unset, .unset]) (hb hby at_19) pd_4 0 (by rw [hml]; rfl) (by decide) rfl rfl rfl (Nat.le_of_eq rfl) (by decide) (by decide) (by decide) (by decide)
  refine own_go (S' := (T4.setTop (mkF m 22 #[.val (.int x0), .val (.int x1), .val (.int x2), .val (.int x3), .val (.int x4), .val (.int x5), .val (.int y4), .val (.int y10), .val (.int y16), .unset, .unset, .unset, .unset, .unset] [(.int (f1_0 x3))]))) st4 ?_
  refine own_go (S' := (T4.setTop (mkF m 24 #[.val (.int x0), .val (.int x1), .val (.int x2), .val (.int x3), .val (.int x4), .val (.int x5), .val (.int y4), .val (.int y10), .val (.int y16), .val (.int (f1_0 x3)), .unset, .unset, .unset, .unset] []))) (fun τ κ => XS.istore X4.here hx rfl (hb hby at_22) rfl (l' := #[.val (.int x0), .val (.int x1), .val (.int x2), .val (.int x3), .val (.int x4), .val (.int x5), .val (.int y4), .val (.int y10), .val (.int y16), .val (.int (f1_0 x3)), .unset, .unset, .unset, .unset]) rfl κ) ?_
  generalize hg22 : (f1_0 x3) = y22
  refine own_go (S' := (T4.setTop (mkF m 26 #[.val (.int x0), .val (.int x1), .val (.int x2), .val (.int x3), .val (.int x4), .val (.int x5), .val (.int y4), .val (.int y10), .val (.int y16), .val (.int y22), .unset, .unset, .unset, .unset] [(.int y4)]))) (fun τ κ => XS.iload X4.here hx rfl (hb hby at_24) rfl κ) ?_
  refine own_go (S' := (T4.setTop (mkF m 28 #[.val (.int x0), .val (.int x1), .val (.int x2), .val (.int x3), .val (.int x4), .val (.int x5), .val (.int y4), .val (.int y10), .val (.int y16), .val (.int y22), .unset, .unset, .unset, .unset] [(.int y10), (.int y4)]))) (fun τ κ => XS.iload X4.here hx rfl (hb hby at_26) rfl κ) ?_
  by_cases hc28_5 : y4 = y10
  ·
    refine own_go (S' := (T4.setTop (mkF m 66 #[.val (.int x0), .val (.int x1), .val (.int x2), .val (.int x3), .val (.int x4), .val (.int x5), .val (.int y4), .val (.int y10), .val (.int y16), .val (.int y22), .unset, .unset, .unset, .unset] []))) (fun τ κ => XS.icmpYes X4.here hx rfl (pc0 := 28) (pc' := 66) rfl (hb hby at_28) rfl (teq hc28_5).1 (by decide) (by decide) κ) ?_
    refine own_go (S' := (T4.setTop (mkF m 67 #[.val (.int x0), .val (.int x1), .val (.int x2), .val (.int x3), .val (.int x4), .val (.int x5), .val (.int y4), .val (.int y10), .val (.int y16), .val (.int y22), .unset, .unset, .unset, .unset] [(.int (1 : Int32))]))) (fun τ κ => XT.iconstV X4.here hx rfl (1 : Int32) (hb hby at_66) (by decide) κ) ?_
    exact own_retN X4 hx hret hlk (by simp) (hb hby at_67) (by first | rfl | decide) (by decide) (by decide) ⟨rfl, N0⟩
  ·
    refine own_go (S' := (T4.setTop (mkF m 31 #[.val (.int x0), .val (.int x1), .val (.int x2), .val (.int x3), .val (.int x4), .val (.int x5), .val (.int y4), .val (.int y10), .val (.int y16), .val (.int y22), .unset, .unset, .unset, .unset] []))) (fun τ κ => XS.icmpNo X4.here hx rfl (hb hby at_28) rfl (feq hc28_5).1 κ) ?_
    refine own_go (S' := (T4.setTop (mkF m 33 #[.val (.int x0), .val (.int x1), .val (.int x2), .val (.int x3), .val (.int x4), .val (.int x5), .val (.int y4), .val (.int y10), .val (.int y16), .val (.int y22), .unset, .unset, .unset, .unset] [(.int y4)]))) (fun τ κ => XS.iload X4.here hx rfl (hb hby at_31) rfl κ) ?_
    refine own_go (S' := (T4.setTop (mkF m 35 #[.val (.int x0), .val (.int x1), .val (.int x2), .val (.int x3), .val (.int x4), .val (.int x5), .val (.int y4), .val (.int y10), .val (.int y16), .val (.int y22), .unset, .unset, .unset, .unset] [(.int y16), (.int y4)]))) (fun τ κ => XS.iload X4.here hx rfl (hb hby at_33) rfl κ) ?_
    by_cases hc35_6 : y4 = y16
    ·
      refine own_go (S' := (T4.setTop (mkF m 66 #[.val (.int x0), .val (.int x1), .val (.int x2), .val (.int x3), .val (.int x4), .val (.int x5), .val (.int y4), .val (.int y10), .val (.int y16), .val (.int y22), .unset, .unset, .unset, .unset] []))) (fun τ κ => XS.icmpYes X4.here hx rfl (pc0 := 35) (pc' := 66) rfl (hb hby at_35) rfl (teq hc35_6).1 (by decide) (by decide) κ) ?_
      refine own_go (S' := (T4.setTop (mkF m 67 #[.val (.int x0), .val (.int x1), .val (.int x2), .val (.int x3), .val (.int x4), .val (.int x5), .val (.int y4), .val (.int y10), .val (.int y16), .val (.int y22), .unset, .unset, .unset, .unset] [(.int (1 : Int32))]))) (fun τ κ => XT.iconstV X4.here hx rfl (1 : Int32) (hb hby at_66) (by decide) κ) ?_
      exact own_retN X4 hx hret hlk (by simp) (hb hby at_67) (by first | rfl | decide) (by decide) (by decide) ⟨rfl, N0⟩
    ·
      refine own_go (S' := (T4.setTop (mkF m 38 #[.val (.int x0), .val (.int x1), .val (.int x2), .val (.int x3), .val (.int x4), .val (.int x5), .val (.int y4), .val (.int y10), .val (.int y16), .val (.int y22), .unset, .unset, .unset, .unset] []))) (fun τ κ => XS.icmpNo X4.here hx rfl (hb hby at_35) rfl (feq hc35_6).1 κ) ?_
      refine own_go (S' := (T4.setTop (mkF m 40 #[.val (.int x0), .val (.int x1), .val (.int x2), .val (.int x3), .val (.int x4), .val (.int x5), .val (.int y4), .val (.int y10), .val (.int y16), .val (.int y22), .unset, .unset, .unset, .unset] [(.int y4)]))) (fun τ κ => XS.iload X4.here hx rfl (hb hby at_38) rfl κ) ?_
      refine own_go (S' := (T4.setTop (mkF m 42 #[.val (.int x0), .val (.int x1), .val (.int x2), .val (.int x3), .val (.int x4), .val (.int x5), .val (.int y4), .val (.int y10), .val (.int y16), .val (.int y22), .unset, .unset, .unset, .unset] [(.int y22), (.int y4)]))) (fun τ κ => XS.iload X4.here hx rfl (hb hby at_40) rfl κ) ?_
      by_cases hc42_7 : y4 = y22
      ·
        refine own_go (S' := (T4.setTop (mkF m 66 #[.val (.int x0), .val (.int x1), .val (.int x2), .val (.int x3), .val (.int x4), .val (.int x5), .val (.int y4), .val (.int y10), .val (.int y16), .val (.int y22), .unset, .unset, .unset, .unset] []))) (fun τ κ => XS.icmpYes X4.here hx rfl (pc0 := 42) (pc' := 66) rfl (hb hby at_42) rfl (teq hc42_7).1 (by decide) (by decide) κ) ?_
        refine own_go (S' := (T4.setTop (mkF m 67 #[.val (.int x0), .val (.int x1), .val (.int x2), .val (.int x3), .val (.int x4), .val (.int x5), .val (.int y4), .val (.int y10), .val (.int y16), .val (.int y22), .unset, .unset, .unset, .unset] [(.int (1 : Int32))]))) (fun τ κ => XT.iconstV X4.here hx rfl (1 : Int32) (hb hby at_66) (by decide) κ) ?_
        exact own_retN X4 hx hret hlk (by simp) (hb hby at_67) (by first | rfl | decide) (by decide) (by decide) ⟨rfl, N0⟩
      ·
        refine own_go (S' := (T4.setTop (mkF m 45 #[.val (.int x0), .val (.int x1), .val (.int x2), .val (.int x3), .val (.int x4), .val (.int x5), .val (.int y4), .val (.int y10), .val (.int y16), .val (.int y22), .unset, .unset, .unset, .unset] []))) (fun τ κ => XS.icmpNo X4.here hx rfl (hb hby at_42) rfl (feq hc42_7).1 κ) ?_
        refine own_go (S' := (T4.setTop (mkF m 47 #[.val (.int x0), .val (.int x1), .val (.int x2), .val (.int x3), .val (.int x4), .val (.int x5), .val (.int y4), .val (.int y10), .val (.int y16), .val (.int y22), .unset, .unset, .unset, .unset] [(.int y10)]))) (fun τ κ => XS.iload X4.here hx rfl (hb hby at_45) rfl κ) ?_
        refine own_go (S' := (T4.setTop (mkF m 49 #[.val (.int x0), .val (.int x1), .val (.int x2), .val (.int x3), .val (.int x4), .val (.int x5), .val (.int y4), .val (.int y10), .val (.int y16), .val (.int y22), .unset, .unset, .unset, .unset] [(.int y16), (.int y10)]))) (fun τ κ => XS.iload X4.here hx rfl (hb hby at_47) rfl κ) ?_
        by_cases hc49_8 : y10 = y16
        ·
          refine own_go (S' := (T4.setTop (mkF m 66 #[.val (.int x0), .val (.int x1), .val (.int x2), .val (.int x3), .val (.int x4), .val (.int x5), .val (.int y4), .val (.int y10), .val (.int y16), .val (.int y22), .unset, .unset, .unset, .unset] []))) (fun τ κ => XS.icmpYes X4.here hx rfl (pc0 := 49) (pc' := 66) rfl (hb hby at_49) rfl (teq hc49_8).1 (by decide) (by decide) κ) ?_
          refine own_go (S' := (T4.setTop (mkF m 67 #[.val (.int x0), .val (.int x1), .val (.int x2), .val (.int x3), .val (.int x4), .val (.int x5), .val (.int y4), .val (.int y10), .val (.int y16), .val (.int y22), .unset, .unset, .unset, .unset] [(.int (1 : Int32))]))) (fun τ κ => XT.iconstV X4.here hx rfl (1 : Int32) (hb hby at_66) (by decide) κ) ?_
          exact own_retN X4 hx hret hlk (by simp) (hb hby at_67) (by first | rfl | decide) (by decide) (by decide) ⟨rfl, N0⟩
        ·
          refine own_go (S' := (T4.setTop (mkF m 52 #[.val (.int x0), .val (.int x1), .val (.int x2), .val (.int x3), .val (.int x4), .val (.int x5), .val (.int y4), .val (.int y10), .val (.int y16), .val (.int y22), .unset, .unset, .unset, .unset] []))) (fun τ κ => XS.icmpNo X4.here hx rfl (hb hby at_49) rfl (feq hc49_8).1 κ) ?_
          refine own_go (S' := (T4.setTop (mkF m 54 #[.val (.int x0), .val (.int x1), .val (.int x2), .val (.int x3), .val (.int x4), .val (.int x5), .val (.int y4), .val (.int y10), .val (.int y16), .val (.int y22), .unset, .unset, .unset, .unset] [(.int y10)]))) (fun τ κ => XS.iload X4.here hx rfl (hb hby at_52) rfl κ) ?_
          refine own_go (S' := (T4.setTop (mkF m 56 #[.val (.int x0), .val (.int x1), .val (.int x2), .val (.int x3), .val (.int x4), .val (.int x5), .val (.int y4), .val (.int y10), .val (.int y16), .val (.int y22), .unset, .unset, .unset, .unset] [(.int y22), (.int y10)]))) (fun τ κ => XS.iload X4.here hx rfl (hb hby at_54) rfl κ) ?_
          by_cases hc56_9 : y10 = y22
          ·
            refine own_go (S' := (T4.setTop (mkF m 66 #[.val (.int x0), .val (.int x1), .val (.int x2), .val (.int x3), .val (.int x4), .val (.int x5), .val (.int y4), .val (.int y10), .val (.int y16), .val (.int y22), .unset, .unset, .unset, .unset] []))) (fun τ κ => XS.icmpYes X4.here hx rfl (pc0 := 56) (pc' := 66) rfl (hb hby at_56) rfl (teq hc56_9).1 (by decide) (by decide) κ) ?_
            refine own_go (S' := (T4.setTop (mkF m 67 #[.val (.int x0), .val (.int x1), .val (.int x2), .val (.int x3), .val (.int x4), .val (.int x5), .val (.int y4), .val (.int y10), .val (.int y16), .val (.int y22), .unset, .unset, .unset, .unset] [(.int (1 : Int32))]))) (fun τ κ => XT.iconstV X4.here hx rfl (1 : Int32) (hb hby at_66) (by decide) κ) ?_
            exact own_retN X4 hx hret hlk (by simp) (hb hby at_67) (by first | rfl | decide) (by decide) (by decide) ⟨rfl, N0⟩
          ·
            refine own_go (S' := (T4.setTop (mkF m 59 #[.val (.int x0), .val (.int x1), .val (.int x2), .val (.int x3), .val (.int x4), .val (.int x5), .val (.int y4), .val (.int y10), .val (.int y16), .val (.int y22), .unset, .unset, .unset, .unset] []))) (fun τ κ => XS.icmpNo X4.here hx rfl (hb hby at_56) rfl (feq hc56_9).1 κ) ?_
            refine own_go (S' := (T4.setTop (mkF m 61 #[.val (.int x0), .val (.int x1), .val (.int x2), .val (.int x3), .val (.int x4), .val (.int x5), .val (.int y4), .val (.int y10), .val (.int y16), .val (.int y22), .unset, .unset, .unset, .unset] [(.int y16)]))) (fun τ κ => XS.iload X4.here hx rfl (hb hby at_59) rfl κ) ?_
            refine own_go (S' := (T4.setTop (mkF m 63 #[.val (.int x0), .val (.int x1), .val (.int x2), .val (.int x3), .val (.int x4), .val (.int x5), .val (.int y4), .val (.int y10), .val (.int y16), .val (.int y22), .unset, .unset, .unset, .unset] [(.int y22), (.int y16)]))) (fun τ κ => XS.iload X4.here hx rfl (hb hby at_61) rfl κ) ?_
            by_cases hc63_10 : y16 = y22
            ·
              refine own_go (S' := (T4.setTop (mkF m 66 #[.val (.int x0), .val (.int x1), .val (.int x2), .val (.int x3), .val (.int x4), .val (.int x5), .val (.int y4), .val (.int y10), .val (.int y16), .val (.int y22), .unset, .unset, .unset, .unset] []))) (fun τ κ => XS.icmpNo X4.here hx rfl (hb hby at_63) rfl (teq hc63_10).2 κ) ?_
              refine own_go (S' := (T4.setTop (mkF m 67 #[.val (.int x0), .val (.int x1), .val (.int x2), .val (.int x3), .val (.int x4), .val (.int x5), .val (.int y4), .val (.int y10), .val (.int y16), .val (.int y22), .unset, .unset, .unset, .unset] [(.int (1 : Int32))]))) (fun τ κ => XT.iconstV X4.here hx rfl (1 : Int32) (hb hby at_66) (by decide) κ) ?_
              exact own_retN X4 hx hret hlk (by simp) (hb hby at_67) (by first | rfl | decide) (by decide) (by decide) ⟨rfl, N0⟩
            ·
              refine own_go (S' := (T4.setTop (mkF m 68 #[.val (.int x0), .val (.int x1), .val (.int x2), .val (.int x3), .val (.int x4), .val (.int x5), .val (.int y4), .val (.int y10), .val (.int y16), .val (.int y22), .unset, .unset, .unset, .unset] []))) (fun τ κ => XS.icmpYes X4.here hx rfl (pc0 := 63) (pc' := 68) rfl (hb hby at_63) rfl (feq hc63_10).2 (by decide) (by decide) κ) ?_
              refine own_go (S' := (T4.setTop (mkF m 69 #[.val (.int x0), .val (.int x1), .val (.int x2), .val (.int x3), .val (.int x4), .val (.int x5), .val (.int y4), .val (.int y10), .val (.int y16), .val (.int y22), .unset, .unset, .unset, .unset] [(.int (4 : Int32))]))) (fun τ κ => XT.iconstV X4.here hx rfl (4 : Int32) (hb hby at_68) (by decide) κ) ?_
              obtain ⟨T11, h11, b11, X11, e11, E11, g11, A11, st11⟩ := own_newL (nn := (4 : Int32)) (len := 4) (Ls := #[.val (.int x0), .val (.int x1), .val (.int x2), .val (.int x3), .val (.int x4), .val (.int x5), .val (.int y4), .val (.int y10), .val (.int y16), .val (.int y22), .unset, .unset, .unset, .unset]) (rest := []) X4 hx hZ (hw _ (List.mem_of_getElem? (i := 4) rfl)) e4 (hb hby at_69) (by decide) (by decide) (cap := 4) (by decide) (by decide) (by decide) (by decide)
              have gn11 : n0 ≤ b11 := g11 ▸ Z0
              have sz11 : n0 ≤ h11.size := Nat.le_trans Z0 E11.1
              replace A11 := A11.eq (vs' := [(.int (0 : Int32)), (.int (0 : Int32)), (.int (0 : Int32)), (.int (0 : Int32))]) rfl
              refine own_go (S' := (T11.setTop (mkF m 71 #[.val (.int x0), .val (.int x1), .val (.int x2), .val (.int x3), .val (.int x4), .val (.int x5), .val (.int y4), .val (.int y10), .val (.int y16), .val (.int y22), .unset, .unset, .unset, .unset] [(.ref b11)]))) st11 ?_
              refine own_go (S' := (T11.setTop (mkF m 72 #[.val (.int x0), .val (.int x1), .val (.int x2), .val (.int x3), .val (.int x4), .val (.int x5), .val (.int y4), .val (.int y10), .val (.int y16), .val (.int y22), .unset, .unset, .unset, .unset] [(.ref b11), (.ref b11)]))) (fun τ κ => XS.dup X11.here hx rfl (hb hby at_71) rfl rfl κ) ?_
              refine own_go (S' := (T11.setTop (mkF m 73 #[.val (.int x0), .val (.int x1), .val (.int x2), .val (.int x3), .val (.int x4), .val (.int x5), .val (.int y4), .val (.int y10), .val (.int y16), .val (.int y22), .unset, .unset, .unset, .unset] [(.int (0 : Int32)), (.ref b11), (.ref b11)]))) (fun τ κ => XT.iconstV X11.here hx rfl (0 : Int32) (hb hby at_72) (by decide) κ) ?_
              refine own_go (S' := (T11.setTop (mkF m 75 #[.val (.int x0), .val (.int x1), .val (.int x2), .val (.int x3), .val (.int x4), .val (.int x5), .val (.int y4), .val (.int y10), .val (.int y16), .val (.int y22), .unset, .unset, .unset, .unset] [(.int y4), (.int (0 : Int32)), (.ref b11), (.ref b11)]))) (fun τ κ => XS.iload X11.here hx rfl (hb hby at_73) rfl κ) ?_
              obtain ⟨T12, h12, X12, e12, W12, B12, st12⟩ := own_iastore (j := (0 : Int32)) (x := y4) (Ls := #[.val (.int x0), .val (.int x1), .val (.int x2), .val (.int x3), .val (.int x4), .val (.int x5), .val (.int y4), .val (.int y10), .val (.int y16), .val (.int y22), .unset, .unset, .unset, .unset]) (rest := [(.ref b11)]) A11 X11 hx hZ e11 (by decide) (i := 0) (by decide) (Nat.le_of_ble_eq_true rfl) (hb hby at_75)
              replace A11 := B12.eq (vs' := [(.int y4), (.int (0 : Int32)), (.int (0 : Int32)), (.int (0 : Int32))]) rfl
              have N12 := Fr.snoc X12 N0 gn11
              have sz12 : n0 ≤ h12.size := W12.size ▸ sz11
              refine own_go (S' := (T12.setTop (mkF m 76 #[.val (.int x0), .val (.int x1), .val (.int x2), .val (.int x3), .val (.int x4), .val (.int x5), .val (.int y4), .val (.int y10), .val (.int y16), .val (.int y22), .unset, .unset, .unset, .unset] [(.ref b11)]))) st12 ?_
              refine own_go (S' := (T12.setTop (mkF m 77 #[.val (.int x0), .val (.int x1), .val (.int x2), .val (.int x3), .val (.int x4), .val (.int x5), .val (.int y4), .val (.int y10), .val (.int y16), .val (.int y22), .unset, .unset, .unset, .unset] [(.ref b11), (.ref b11)]))) (fun τ κ => XS.dup X12.here hx rfl (hb hby at_76) rfl rfl κ) ?_
              refine own_go (S' := (T12.setTop (mkF m 78 #[.val (.int x0), .val (.int x1), .val (.int x2), .val (.int x3), .val (.int x4), .val (.int x5), .val (.int y4), .val (.int y10), .val (.int y16), .val (.int y22), .unset, .unset, .unset, .unset] [(.int (1 : Int32)), (.ref b11), (.ref b11)]))) (fun τ κ => XT.iconstV X12.here hx rfl (1 : Int32) (hb hby at_77) (by decide) κ) ?_
              refine own_go (S' := (T12.setTop (mkF m 80 #[.val (.int x0), .val (.int x1), .val (.int x2), .val (.int x3), .val (.int x4), .val (.int x5), .val (.int y4), .val (.int y10), .val (.int y16), .val (.int y22), .unset, .unset, .unset, .unset] [(.int y10), (.int (1 : Int32)), (.ref b11), (.ref b11)]))) (fun τ κ => XS.iload X12.here hx rfl (hb hby at_78) rfl κ) ?_
              obtain ⟨T13, h13, X13, e13, W13, B13, st13⟩ := own_iastore (j := (1 : Int32)) (x := y10) (Ls := #[.val (.int x0), .val (.int x1), .val (.int x2), .val (.int x3), .val (.int x4), .val (.int x5), .val (.int y4), .val (.int y10), .val (.int y16), .val (.int y22), .unset, .unset, .unset, .unset]) (rest := [(.ref b11)]) A11 X12 hx hZ e12 (by decide) (i := 1) (by decide) (Nat.le_of_ble_eq_true rfl) (hb hby at_80)
              replace A11 := B13.eq (vs' := [(.int y4), (.int y10), (.int (0 : Int32)), (.int (0 : Int32))]) rfl
              have N13 := Fr.snoc X13 N12 gn11
              have sz13 : n0 ≤ h13.size := W13.size ▸ sz12
              refine own_go (S' := (T13.setTop (mkF m 81 #[.val (.int x0), .val (.int x1), .val (.int x2), .val (.int x3), .val (.int x4), .val (.int x5), .val (.int y4), .val (.int y10), .val (.int y16), .val (.int y22), .unset, .unset, .unset, .unset] [(.ref b11)]))) st13 ?_
              refine own_go (S' := (T13.setTop (mkF m 82 #[.val (.int x0), .val (.int x1), .val (.int x2), .val (.int x3), .val (.int x4), .val (.int x5), .val (.int y4), .val (.int y10), .val (.int y16), .val (.int y22), .unset, .unset, .unset, .unset] [(.ref b11), (.ref b11)]))) (fun τ κ => XS.dup X13.here hx rfl (hb hby at_81) rfl rfl κ) ?_
              refine own_go (S' := (T13.setTop (mkF m 83 #[.val (.int x0), .val (.int x1), .val (.int x2), .val (.int x3), .val (.int x4), .val (.int x5), .val (.int y4), .val (.int y10), .val (.int y16), .val (.int y22), .unset, .unset, .unset, .unset] [(.int (2 : Int32)), (.ref b11), (.ref b11)]))) (fun τ κ => XT.iconstV X13.here hx rfl (2 : Int32) (hb hby at_82) (by decide) κ) ?_
              refine own_go (S' := (T13.setTop (mkF m 85 #[.val (.int x0), .val (.int x1), .val (.int x2), .val (.int x3), .val (.int x4), .val (.int x5), .val (.int y4), .val (.int y10), .val (.int y16), .val (.int y22), .unset, .unset, .unset, .unset] [(.int y16), (.int (2 : Int32)), (.ref b11), (.ref b11)]))) (fun τ κ => XS.iload X13.here hx rfl (hb hby at_83) rfl κ) ?_
              obtain ⟨T14, h14, X14, e14, W14, B14, st14⟩ := own_iastore (j := (2 : Int32)) (x := y16) (Ls := #[.val (.int x0), .val (.int x1), .val (.int x2), .val (.int x3), .val (.int x4), .val (.int x5), .val (.int y4), .val (.int y10), .val (.int y16), .val (.int y22), .unset, .unset, .unset, .unset]) (rest := [(.ref b11)]) A11 X13 hx hZ e13 (by decide) (i := 2) (by decide) (Nat.le_of_ble_eq_true rfl) (hb hby at_85)
              replace A11 := B14.eq (vs' := [(.int y4), (.int y10), (.int y16), (.int (0 : Int32))]) rfl
              have N14 := Fr.snoc X14 N13 gn11
              have sz14 : n0 ≤ h14.size := W14.size ▸ sz13
              refine own_go (S' := (T14.setTop (mkF m 86 #[.val (.int x0), .val (.int x1), .val (.int x2), .val (.int x3), .val (.int x4), .val (.int x5), .val (.int y4), .val (.int y10), .val (.int y16), .val (.int y22), .unset, .unset, .unset, .unset] [(.ref b11)]))) st14 ?_
              refine own_go (S' := (T14.setTop (mkF m 87 #[.val (.int x0), .val (.int x1), .val (.int x2), .val (.int x3), .val (.int x4), .val (.int x5), .val (.int y4), .val (.int y10), .val (.int y16), .val (.int y22), .unset, .unset, .unset, .unset] [(.ref b11), (.ref b11)]))) (fun τ κ => XS.dup X14.here hx rfl (hb hby at_86) rfl rfl κ) ?_
              refine own_go (S' := (T14.setTop (mkF m 88 #[.val (.int x0), .val (.int x1), .val (.int x2), .val (.int x3), .val (.int x4), .val (.int x5), .val (.int y4), .val (.int y10), .val (.int y16), .val (.int y22), .unset, .unset, .unset, .unset] [(.int (3 : Int32)), (.ref b11), (.ref b11)]))) (fun τ κ => XT.iconstV X14.here hx rfl (3 : Int32) (hb hby at_87) (by decide) κ) ?_
              refine own_go (S' := (T14.setTop (mkF m 90 #[.val (.int x0), .val (.int x1), .val (.int x2), .val (.int x3), .val (.int x4), .val (.int x5), .val (.int y4), .val (.int y10), .val (.int y16), .val (.int y22), .unset, .unset, .unset, .unset] [(.int y22), (.int (3 : Int32)), (.ref b11), (.ref b11)]))) (fun τ κ => XS.iload X14.here hx rfl (hb hby at_88) rfl κ) ?_
              obtain ⟨T15, h15, X15, e15, W15, B15, st15⟩ := own_iastore (j := (3 : Int32)) (x := y22) (Ls := #[.val (.int x0), .val (.int x1), .val (.int x2), .val (.int x3), .val (.int x4), .val (.int x5), .val (.int y4), .val (.int y10), .val (.int y16), .val (.int y22), .unset, .unset, .unset, .unset]) (rest := [(.ref b11)]) A11 X14 hx hZ e14 (by decide) (i := 3) (by decide) (Nat.le_of_ble_eq_true rfl) (hb hby at_90)
              replace A11 := B15.eq (vs' := [(.int y4), (.int y10), (.int y16), (.int y22)]) rfl
              have N15 := Fr.snoc X15 N14 gn11
              have sz15 : n0 ≤ h15.size := W15.size ▸ sz14
              refine own_go (S' := (T15.setTop (mkF m 91 #[.val (.int x0), .val (.int x1), .val (.int x2), .val (.int x3), .val (.int x4), .val (.int x5), .val (.int y4), .val (.int y10), .val (.int y16), .val (.int y22), .unset, .unset, .unset, .unset] [(.ref b11)]))) st15 ?_
              refine own_go (S' := (T15.setTop (mkF m 93 #[.val (.int x0), .val (.int x1), .val (.int x2), .val (.int x3), .val (.int x4), .val (.int x5), .val (.int y4), .val (.int y10), .val (.int y16), .val (.int y22), .val (.ref b11), .unset, .unset, .unset] []))) (fun τ κ => XS.astore X15.here hx rfl (hb hby at_91) rfl rfl (l' := #[.val (.int x0), .val (.int x1), .val (.int x2), .val (.int x3), .val (.int x4), .val (.int x5), .val (.int y4), .val (.int y10), .val (.int y16), .val (.int y22), .val (.ref b11), .unset, .unset, .unset]) rfl κ) ?_
              have lt16_A11 := A11.lt
              obtain ⟨T16, h16, X16, e16, E16, A16, D16, -, st16⟩ := newO X15 hx hZ hown (hw _ (List.mem_of_getElem? (i := 5) rfl)) (hw _ (List.mem_of_getElem? (i := 6) rfl)) (hw _ (List.mem_of_getElem? (i := 7) rfl)) e15 (g := (mkF m 93 #[.val (.int x0), .val (.int x1), .val (.int x2), .val (.int x3), .val (.int x4), .val (.int x5), .val (.int y4), .val (.int y10), .val (.int y16), .val (.int y22), .val (.ref b11), .unset, .unset, .unset] [])) rfl (hb hby at_93) (by decide) (by decide)
              obtain ⟨b16, g16⟩ : ∃ z, z = h15.size := ⟨_, rfl⟩
              rw [← g16] at A16 D16 st16
              replace A11 := A11.ext E16
              have ne16_A11 : b11 ≠ b16 := Nat.ne_of_lt (g16 ▸ lt16_A11)
              have gn16 : n0 ≤ b16 := g16 ▸ sz15
              have sz16 : n0 ≤ h16.size := Nat.le_trans sz15 E16.1
              have F16_codes : Fld Z h16 b16 "com/example/twinhash/twinhash/shingle/ShingleSet" "codes" "[I" .null := D16 (Or.inr (hw _ (List.mem_of_getElem? (i := 29) rfl))) (ty := (.array .int)) (by decide)
              have F16_firstSeen : Fld Z h16 b16 "com/example/twinhash/twinhash/shingle/ShingleSet" "firstSeen" "I" (.int (0 : Int32)) := D16 (Or.inr (hw _ (List.mem_of_getElem? (i := 31) rfl))) (ty := .int) (by decide)
              refine own_go (S' := (T16.setTop (mkF m 96 #[.val (.int x0), .val (.int x1), .val (.int x2), .val (.int x3), .val (.int x4), .val (.int x5), .val (.int y4), .val (.int y10), .val (.int y16), .val (.int y22), .val (.ref b11), .unset, .unset, .unset] [(.ref b16)]))) st16 ?_
              refine own_go (S' := (T16.setTop (mkF m 97 #[.val (.int x0), .val (.int x1), .val (.int x2), .val (.int x3), .val (.int x4), .val (.int x5), .val (.int y4), .val (.int y10), .val (.int y16), .val (.int y22), .val (.ref b11), .unset, .unset, .unset] [(.ref b16), (.ref b16)]))) (fun τ κ => XS.dup X16.here hx rfl (hb hby at_96) rfl rfl κ) ?_
              refine own_go (S' := (T16.setTop (mkF m 99 #[.val (.int x0), .val (.int x1), .val (.int x2), .val (.int x3), .val (.int x4), .val (.int x5), .val (.int y4), .val (.int y10), .val (.int y16), .val (.int y22), .val (.ref b11), .unset, .unset, .unset] [(.ref b11), (.ref b16), (.ref b16)]))) (fun τ κ => XS.aload X16.here hx rfl (hb hby at_97) rfl rfl κ) ?_
              replace A11 := A11.eq (vs' := List.map Value.int [y4, y10, y16, y22]) rfl
              obtain ⟨v17, T17, L17, X17, hQ17, st17⟩ := own_callI (a := b16) X16 hx hZ (y := (⟨"com/example/twinhash/twinhash/shingle/ShingleSet", "<init>", "([I)V"⟩ : MethodName)) rfl hown (hw _ (List.mem_of_getElem? (i := 8) rfl)) (hw _ (List.mem_of_getElem? (i := 9) rfl)) (hw _ (List.mem_of_getElem? (i := 7) rfl)) (hw _ (List.mem_of_getElem? (i := 10) rfl)) (rm2 l Z a0 hw b16 b11 [y4, y10, y16, y22] h16 n0 gn16 gn11 (Ne.symm ne16_A11) (Nat.le_of_ble_eq_true rfl) A16 F16_codes F16_firstSeen A11) e16 (st := [(.ref b11), (.ref b16), (.ref b16)]) (argsL := [(.ref b11)]) (rest := [(.ref b16)]) (Ls := #[.val (.int x0), .val (.int x1), .val (.int x2), .val (.int x3), .val (.int x4), .val (.int x5), .val (.int y4), .val (.int y10), .val (.int y16), .val (.int y22), .val (.ref b11), .unset, .unset, .unset]) (hb hby at_99) pd_3 1 (by rw [hml]; rfl) (by decide) rfl rfl rfl (Nat.le_of_eq rfl) (by decide) (by decide) (by decide) (by decide)
              obtain ⟨rfl, Nq17, ys, f, hp, hs, hf1, hf2, hf3, E0, F1, F2, A, K⟩ := hQ17
              have N17 := Fr.app N15 Nq17
              have sz17 := Nat.le_trans sz16 K.1
              refine own_go (S' := (T17.setTop (mkF m 102 #[.val (.int x0), .val (.int x1), .val (.int x2), .val (.int x3), .val (.int x4), .val (.int x5), .val (.int y4), .val (.int y10), .val (.int y16), .val (.int y22), .val (.ref b11), .unset, .unset, .unset] [(.ref b16)]))) st17 ?_
              refine own_go (S' := (T17.setTop (mkF m 104 #[.val (.int x0), .val (.int x1), .val (.int x2), .val (.int x3), .val (.int x4), .val (.int x5), .val (.int y4), .val (.int y10), .val (.int y16), .val (.int y22), .val (.ref b11), .val (.ref b16), .unset, .unset] []))) (fun τ κ => XS.astore X17.here hx rfl (hb hby at_102) rfl rfl (l' := #[.val (.int x0), .val (.int x1), .val (.int x2), .val (.int x3), .val (.int x4), .val (.int x5), .val (.int y4), .val (.int y10), .val (.int y16), .val (.int y22), .val (.ref b11), .val (.ref b16), .unset, .unset]) rfl κ) ?_
              refine own_go (S' := (T17.setTop (mkF m 106 #[.val (.int x0), .val (.int x1), .val (.int x2), .val (.int x3), .val (.int x4), .val (.int x5), .val (.int y4), .val (.int y10), .val (.int y16), .val (.int y22), .val (.ref b11), .val (.ref b16), .unset, .unset] [(.int (8 : Int32))]))) (fun τ κ => XT.bipushV X17.here hx rfl (8 : Int32) (hb hby at_104) (by decide) κ) ?_
              have lt18_E0 := E0.lt
              have lt18_F1 := F1.lt
              have lt18_F2 := F2.lt
              have lt18_A := A.lt
              obtain ⟨T18, h18, b18, X18, e18, E18, g18, A18, st18⟩ := own_newL (nn := (8 : Int32)) (len := 8) (Ls := #[.val (.int x0), .val (.int x1), .val (.int x2), .val (.int x3), .val (.int x4), .val (.int x5), .val (.int y4), .val (.int y10), .val (.int y16), .val (.int y22), .val (.ref b11), .val (.ref b16), .unset, .unset]) (rest := []) X17 hx hZ (hw _ (List.mem_of_getElem? (i := 32) rfl)) rfl (hb hby at_106) (by decide) (by decide) (cap := 8) (by decide) (by decide) (by decide) (by decide)
              replace E0 := Exa.ext E18 E0
              replace F1 := Fld.ext E18 F1
              replace F2 := Fld.ext E18 F2
              replace A := A.ext E18
              have ne18_E0 : b16 ≠ b18 := Nat.ne_of_lt (g18 ▸ lt18_E0)
              have ne18_A : b11 ≠ b18 := Nat.ne_of_lt (g18 ▸ lt18_A)
              have gn18 : n0 ≤ b18 := g18 ▸ sz17
              have sz18 : n0 ≤ h18.size := Nat.le_trans sz17 E18.1
              replace A18 := A18.eq (vs' := [(.int (0 : Int32)), (.int (0 : Int32)), (.int (0 : Int32)), (.int (0 : Int32)), (.int (0 : Int32)), (.int (0 : Int32)), (.int (0 : Int32)), (.int (0 : Int32))]) rfl
              refine own_go (S' := (T18.setTop (mkF m 108 #[.val (.int x0), .val (.int x1), .val (.int x2), .val (.int x3), .val (.int x4), .val (.int x5), .val (.int y4), .val (.int y10), .val (.int y16), .val (.int y22), .val (.ref b11), .val (.ref b16), .unset, .unset] [(.ref b18)]))) st18 ?_
              refine own_go (S' := (T18.setTop (mkF m 110 #[.val (.int x0), .val (.int x1), .val (.int x2), .val (.int x3), .val (.int x4), .val (.int x5), .val (.int y4), .val (.int y10), .val (.int y16), .val (.int y22), .val (.ref b11), .val (.ref b16), .val (.ref b18), .unset] []))) (fun τ κ => XS.astore X18.here hx rfl (hb hby at_108) rfl rfl (l' := #[.val (.int x0), .val (.int x1), .val (.int x2), .val (.int x3), .val (.int x4), .val (.int x5), .val (.int y4), .val (.int y10), .val (.int y16), .val (.int y22), .val (.ref b11), .val (.ref b16), .val (.ref b18), .unset]) rfl κ) ?_
              refine own_go (S' := (T18.setTop (mkF m 112 #[.val (.int x0), .val (.int x1), .val (.int x2), .val (.int x3), .val (.int x4), .val (.int x5), .val (.int y4), .val (.int y10), .val (.int y16), .val (.int y22), .val (.ref b11), .val (.ref b16), .val (.ref b18), .unset] [(.ref b18)]))) (fun τ κ => XS.aload X18.here hx rfl (hb hby at_110) rfl rfl κ) ?_
              refine own_go (S' := (T18.setTop (mkF m 113 #[.val (.int x0), .val (.int x1), .val (.int x2), .val (.int x3), .val (.int x4), .val (.int x5), .val (.int y4), .val (.int y10), .val (.int y16), .val (.int y22), .val (.ref b11), .val (.ref b16), .val (.ref b18), .unset] [(.int (0 : Int32)), (.ref b18)]))) (fun τ κ => XT.iconstV X18.here hx rfl (0 : Int32) (hb hby at_112) (by decide) κ) ?_
              refine own_go (S' := (T18.setTop (mkF m 115 #[.val (.int x0), .val (.int x1), .val (.int x2), .val (.int x3), .val (.int x4), .val (.int x5), .val (.int y4), .val (.int y10), .val (.int y16), .val (.int y22), .val (.ref b11), .val (.ref b16), .val (.ref b18), .unset] [(.int x5), (.int (0 : Int32)), (.ref b18)]))) (fun τ κ => XS.iload X18.here hx rfl (hb hby at_113) rfl κ) ?_
              refine own_go (S' := (T18.setTop (mkF m 116 #[.val (.int x0), .val (.int x1), .val (.int x2), .val (.int x3), .val (.int x4), .val (.int x5), .val (.int y4), .val (.int y10), .val (.int y16), .val (.int y22), .val (.ref b11), .val (.ref b16), .val (.ref b18), .unset] [(.int (0 : Int32)), (.int x5), (.int (0 : Int32)), (.ref b18)]))) (fun τ κ => XT.iconstV X18.here hx rfl (0 : Int32) (hb hby at_115) (by decide) κ) ?_
              refine own_go (S' := (T18.setTop (mkF m 117 #[.val (.int x0), .val (.int x1), .val (.int x2), .val (.int x3), .val (.int x4), .val (.int x5), .val (.int y4), .val (.int y10), .val (.int y16), .val (.int y22), .val (.ref b11), .val (.ref b16), .val (.ref b18), .unset] [(.int (x5 ^^^ (0 : Int32))), (.int (0 : Int32)), (.ref b18)]))) (fun τ κ => XS.ixor X18.here hx rfl (hb hby at_116) rfl κ) ?_
              refine own_go (S' := (T18.setTop (mkF m 118 #[.val (.int x0), .val (.int x1), .val (.int x2), .val (.int x3), .val (.int x4), .val (.int x5), .val (.int y4), .val (.int y10), .val (.int y16), .val (.int y22), .val (.ref b11), .val (.ref b16), .val (.ref b18), .unset] [(.int ((x5 ^^^ (0 : Int32)).toInt8.toInt32)), (.int (0 : Int32)), (.ref b18)]))) (fun τ κ => XS.i2b X18.here hx rfl (hb hby at_117) rfl κ) ?_
              obtain ⟨T19, h19, X19, e19, W19, B19, st19⟩ := own_bastore (j := (0 : Int32)) (x := ((x5 ^^^ (0 : Int32)).toInt8.toInt32)) (Ls := #[.val (.int x0), .val (.int x1), .val (.int x2), .val (.int x3), .val (.int x4), .val (.int x5), .val (.int y4), .val (.int y10), .val (.int y16), .val (.int y22), .val (.ref b11), .val (.ref b16), .val (.ref b18), .unset]) (rest := []) A18 X18 hx hZ e18 (by decide) (i := 0) (by decide) (Nat.le_of_ble_eq_true rfl) (hb hby at_118)
              replace E0 := Exa.wr W19 E0
              replace F1 := Fld.other W19 F1 (Or.inl ne18_E0)
              replace F2 := Fld.other W19 F2 (Or.inl ne18_E0)
              replace A := A.other W19 ne18_A
              replace A18 := B19.eq (vs' := [(.int (nar .byte ((x5 ^^^ (0 : Int32)).toInt8.toInt32))), (.int (0 : Int32)), (.int (0 : Int32)), (.int (0 : Int32)), (.int (0 : Int32)), (.int (0 : Int32)), (.int (0 : Int32)), (.int (0 : Int32))]) rfl
              have N19 := Fr.snoc X19 N17 gn18
              have sz19 : n0 ≤ h19.size := W19.size ▸ sz18
              refine own_go (S' := (T19.setTop (mkF m 119 #[.val (.int x0), .val (.int x1), .val (.int x2), .val (.int x3), .val (.int x4), .val (.int x5), .val (.int y4), .val (.int y10), .val (.int y16), .val (.int y22), .val (.ref b11), .val (.ref b16), .val (.ref b18), .unset] []))) st19 ?_
              refine own_go (S' := (T19.setTop (mkF m 121 #[.val (.int x0), .val (.int x1), .val (.int x2), .val (.int x3), .val (.int x4), .val (.int x5), .val (.int y4), .val (.int y10), .val (.int y16), .val (.int y22), .val (.ref b11), .val (.ref b16), .val (.ref b18), .unset] [(.ref b18)]))) (fun τ κ => XS.aload X19.here hx rfl (hb hby at_119) rfl rfl κ) ?_
              refine own_go (S' := (T19.setTop (mkF m 122 #[.val (.int x0), .val (.int x1), .val (.int x2), .val (.int x3), .val (.int x4), .val (.int x5), .val (.int y4), .val (.int y10), .val (.int y16), .val (.int y22), .val (.ref b11), .val (.ref b16), .val (.ref b18), .unset] [(.int (1 : Int32)), (.ref b18)]))) (fun τ κ => XT.iconstV X19.here hx rfl (1 : Int32) (hb hby at_121) (by decide) κ) ?_
              refine own_go (S' := (T19.setTop (mkF m 124 #[.val (.int x0), .val (.int x1), .val (.int x2), .val (.int x3), .val (.int x4), .val (.int x5), .val (.int y4), .val (.int y10), .val (.int y16), .val (.int y22), .val (.ref b11), .val (.ref b16), .val (.ref b18), .unset] [(.int x5), (.int (1 : Int32)), (.ref b18)]))) (fun τ κ => XS.iload X19.here hx rfl (hb hby at_122) rfl κ) ?_
              refine own_go (S' := (T19.setTop (mkF m 125 #[.val (.int x0), .val (.int x1), .val (.int x2), .val (.int x3), .val (.int x4), .val (.int x5), .val (.int y4), .val (.int y10), .val (.int y16), .val (.int y22), .val (.ref b11), .val (.ref b16), .val (.ref b18), .unset] [(.int (1 : Int32)), (.int x5), (.int (1 : Int32)), (.ref b18)]))) (fun τ κ => XT.iconstV X19.here hx rfl (1 : Int32) (hb hby at_124) (by decide) κ) ?_
              refine own_go (S' := (T19.setTop (mkF m 126 #[.val (.int x0), .val (.int x1), .val (.int x2), .val (.int x3), .val (.int x4), .val (.int x5), .val (.int y4), .val (.int y10), .val (.int y16), .val (.int y22), .val (.ref b11), .val (.ref b16), .val (.ref b18), .unset] [(.int (x5 ^^^ (1 : Int32))), (.int (1 : Int32)), (.ref b18)]))) (fun τ κ => XS.ixor X19.here hx rfl (hb hby at_125) rfl κ) ?_
              refine own_go (S' := (T19.setTop (mkF m 127 #[.val (.int x0), .val (.int x1), .val (.int x2), .val (.int x3), .val (.int x4), .val (.int x5), .val (.int y4), .val (.int y10), .val (.int y16), .val (.int y22), .val (.ref b11), .val (.ref b16), .val (.ref b18), .unset] [(.int ((x5 ^^^ (1 : Int32)).toInt8.toInt32)), (.int (1 : Int32)), (.ref b18)]))) (fun τ κ => XS.i2b X19.here hx rfl (hb hby at_126) rfl κ) ?_
              obtain ⟨T20, h20, X20, e20, W20, B20, st20⟩ := own_bastore (j := (1 : Int32)) (x := ((x5 ^^^ (1 : Int32)).toInt8.toInt32)) (Ls := #[.val (.int x0), .val (.int x1), .val (.int x2), .val (.int x3), .val (.int x4), .val (.int x5), .val (.int y4), .val (.int y10), .val (.int y16), .val (.int y22), .val (.ref b11), .val (.ref b16), .val (.ref b18), .unset]) (rest := []) A18 X19 hx hZ e19 (by decide) (i := 1) (by decide) (Nat.le_of_ble_eq_true rfl) (hb hby at_127)
              replace E0 := Exa.wr W20 E0
              replace F1 := Fld.other W20 F1 (Or.inl ne18_E0)
              replace F2 := Fld.other W20 F2 (Or.inl ne18_E0)
              replace A := A.other W20 ne18_A
              replace A18 := B20.eq (vs' := [(.int (nar .byte ((x5 ^^^ (0 : Int32)).toInt8.toInt32))), (.int (nar .byte ((x5 ^^^ (1 : Int32)).toInt8.toInt32))), (.int (0 : Int32)), (.int (0 : Int32)), (.int (0 : Int32)), (.int (0 : Int32)), (.int (0 : Int32)), (.int (0 : Int32))]) rfl
              have N20 := Fr.snoc X20 N19 gn18
              have sz20 : n0 ≤ h20.size := W20.size ▸ sz19
              refine own_go (S' := (T20.setTop (mkF m 128 #[.val (.int x0), .val (.int x1), .val (.int x2), .val (.int x3), .val (.int x4), .val (.int x5), .val (.int y4), .val (.int y10), .val (.int y16), .val (.int y22), .val (.ref b11), .val (.ref b16), .val (.ref b18), .unset] []))) st20 ?_
              refine own_go (S' := (T20.setTop (mkF m 130 #[.val (.int x0), .val (.int x1), .val (.int x2), .val (.int x3), .val (.int x4), .val (.int x5), .val (.int y4), .val (.int y10), .val (.int y16), .val (.int y22), .val (.ref b11), .val (.ref b16), .val (.ref b18), .unset] [(.ref b18)]))) (fun τ κ => XS.aload X20.here hx rfl (hb hby at_128) rfl rfl κ) ?_
              refine own_go (S' := (T20.setTop (mkF m 131 #[.val (.int x0), .val (.int x1), .val (.int x2), .val (.int x3), .val (.int x4), .val (.int x5), .val (.int y4), .val (.int y10), .val (.int y16), .val (.int y22), .val (.ref b11), .val (.ref b16), .val (.ref b18), .unset] [(.int (2 : Int32)), (.ref b18)]))) (fun τ κ => XT.iconstV X20.here hx rfl (2 : Int32) (hb hby at_130) (by decide) κ) ?_
              refine own_go (S' := (T20.setTop (mkF m 133 #[.val (.int x0), .val (.int x1), .val (.int x2), .val (.int x3), .val (.int x4), .val (.int x5), .val (.int y4), .val (.int y10), .val (.int y16), .val (.int y22), .val (.ref b11), .val (.ref b16), .val (.ref b18), .unset] [(.int x5), (.int (2 : Int32)), (.ref b18)]))) (fun τ κ => XS.iload X20.here hx rfl (hb hby at_131) rfl κ) ?_
              refine own_go (S' := (T20.setTop (mkF m 134 #[.val (.int x0), .val (.int x1), .val (.int x2), .val (.int x3), .val (.int x4), .val (.int x5), .val (.int y4), .val (.int y10), .val (.int y16), .val (.int y22), .val (.ref b11), .val (.ref b16), .val (.ref b18), .unset] [(.int (2 : Int32)), (.int x5), (.int (2 : Int32)), (.ref b18)]))) (fun τ κ => XT.iconstV X20.here hx rfl (2 : Int32) (hb hby at_133) (by decide) κ) ?_
              refine own_go (S' := (T20.setTop (mkF m 135 #[.val (.int x0), .val (.int x1), .val (.int x2), .val (.int x3), .val (.int x4), .val (.int x5), .val (.int y4), .val (.int y10), .val (.int y16), .val (.int y22), .val (.ref b11), .val (.ref b16), .val (.ref b18), .unset] [(.int (x5 ^^^ (2 : Int32))), (.int (2 : Int32)), (.ref b18)]))) (fun τ κ => XS.ixor X20.here hx rfl (hb hby at_134) rfl κ) ?_
              refine own_go (S' := (T20.setTop (mkF m 136 #[.val (.int x0), .val (.int x1), .val (.int x2), .val (.int x3), .val (.int x4), .val (.int x5), .val (.int y4), .val (.int y10), .val (.int y16), .val (.int y22), .val (.ref b11), .val (.ref b16), .val (.ref b18), .unset] [(.int ((x5 ^^^ (2 : Int32)).toInt8.toInt32)), (.int (2 : Int32)), (.ref b18)]))) (fun τ κ => XS.i2b X20.here hx rfl (hb hby at_135) rfl κ) ?_
              obtain ⟨T21, h21, X21, e21, W21, B21, st21⟩ := own_bastore (j := (2 : Int32)) (x := ((x5 ^^^ (2 : Int32)).toInt8.toInt32)) (Ls := #[.val (.int x0), .val (.int x1), .val (.int x2), .val (.int x3), .val (.int x4), .val (.int x5), .val (.int y4), .val (.int y10), .val (.int y16), .val (.int y22), .val (.ref b11), .val (.ref b16), .val (.ref b18), .unset]) (rest := []) A18 X20 hx hZ e20 (by decide) (i := 2) (by decide) (Nat.le_of_ble_eq_true rfl) (hb hby at_136)
              replace E0 := Exa.wr W21 E0
              replace F1 := Fld.other W21 F1 (Or.inl ne18_E0)
              replace F2 := Fld.other W21 F2 (Or.inl ne18_E0)
              replace A := A.other W21 ne18_A
              replace A18 := B21.eq (vs' := [(.int (nar .byte ((x5 ^^^ (0 : Int32)).toInt8.toInt32))), (.int (nar .byte ((x5 ^^^ (1 : Int32)).toInt8.toInt32))), (.int (nar .byte ((x5 ^^^ (2 : Int32)).toInt8.toInt32))), (.int (0 : Int32)), (.int (0 : Int32)), (.int (0 : Int32)), (.int (0 : Int32)), (.int (0 : Int32))]) rfl
              have N21 := Fr.snoc X21 N20 gn18
              have sz21 : n0 ≤ h21.size := W21.size ▸ sz20
              refine own_go (S' := (T21.setTop (mkF m 137 #[.val (.int x0), .val (.int x1), .val (.int x2), .val (.int x3), .val (.int x4), .val (.int x5), .val (.int y4), .val (.int y10), .val (.int y16), .val (.int y22), .val (.ref b11), .val (.ref b16), .val (.ref b18), .unset] []))) st21 ?_
              refine own_go (S' := (T21.setTop (mkF m 139 #[.val (.int x0), .val (.int x1), .val (.int x2), .val (.int x3), .val (.int x4), .val (.int x5), .val (.int y4), .val (.int y10), .val (.int y16), .val (.int y22), .val (.ref b11), .val (.ref b16), .val (.ref b18), .unset] [(.ref b18)]))) (fun τ κ => XS.aload X21.here hx rfl (hb hby at_137) rfl rfl κ) ?_
              refine own_go (S' := (T21.setTop (mkF m 140 #[.val (.int x0), .val (.int x1), .val (.int x2), .val (.int x3), .val (.int x4), .val (.int x5), .val (.int y4), .val (.int y10), .val (.int y16), .val (.int y22), .val (.ref b11), .val (.ref b16), .val (.ref b18), .unset] [(.int (3 : Int32)), (.ref b18)]))) (fun τ κ => XT.iconstV X21.here hx rfl (3 : Int32) (hb hby at_139) (by decide) κ) ?_
              refine own_go (S' := (T21.setTop (mkF m 142 #[.val (.int x0), .val (.int x1), .val (.int x2), .val (.int x3), .val (.int x4), .val (.int x5), .val (.int y4), .val (.int y10), .val (.int y16), .val (.int y22), .val (.ref b11), .val (.ref b16), .val (.ref b18), .unset] [(.int x5), (.int (3 : Int32)), (.ref b18)]))) (fun τ κ => XS.iload X21.here hx rfl (hb hby at_140) rfl κ) ?_
              refine own_go (S' := (T21.setTop (mkF m 143 #[.val (.int x0), .val (.int x1), .val (.int x2), .val (.int x3), .val (.int x4), .val (.int x5), .val (.int y4), .val (.int y10), .val (.int y16), .val (.int y22), .val (.ref b11), .val (.ref b16), .val (.ref b18), .unset] [(.int (3 : Int32)), (.int x5), (.int (3 : Int32)), (.ref b18)]))) (fun τ κ => XT.iconstV X21.here hx rfl (3 : Int32) (hb hby at_142) (by decide) κ) ?_
              refine own_go (S' := (T21.setTop (mkF m 144 #[.val (.int x0), .val (.int x1), .val (.int x2), .val (.int x3), .val (.int x4), .val (.int x5), .val (.int y4), .val (.int y10), .val (.int y16), .val (.int y22), .val (.ref b11), .val (.ref b16), .val (.ref b18), .unset] [(.int (x5 ^^^ (3 : Int32))), (.int (3 : Int32)), (.ref b18)]))) (fun τ κ => XS.ixor X21.here hx rfl (hb hby at_143) rfl κ) ?_
              refine own_go (S' := (T21.setTop (mkF m 145 #[.val (.int x0), .val (.int x1), .val (.int x2), .val (.int x3), .val (.int x4), .val (.int x5), .val (.int y4), .val (.int y10), .val (.int y16), .val (.int y22), .val (.ref b11), .val (.ref b16), .val (.ref b18), .unset] [(.int ((x5 ^^^ (3 : Int32)).toInt8.toInt32)), (.int (3 : Int32)), (.ref b18)]))) (fun τ κ => XS.i2b X21.here hx rfl (hb hby at_144) rfl κ) ?_
              obtain ⟨T22, h22, X22, e22, W22, B22, st22⟩ := own_bastore (j := (3 : Int32)) (x := ((x5 ^^^ (3 : Int32)).toInt8.toInt32)) (Ls := #[.val (.int x0), .val (.int x1), .val (.int x2), .val (.int x3), .val (.int x4), .val (.int x5), .val (.int y4), .val (.int y10), .val (.int y16), .val (.int y22), .val (.ref b11), .val (.ref b16), .val (.ref b18), .unset]) (rest := []) A18 X21 hx hZ e21 (by decide) (i := 3) (by decide) (Nat.le_of_ble_eq_true rfl) (hb hby at_145)
              replace E0 := Exa.wr W22 E0
              replace F1 := Fld.other W22 F1 (Or.inl ne18_E0)
              replace F2 := Fld.other W22 F2 (Or.inl ne18_E0)
              replace A := A.other W22 ne18_A
              replace A18 := B22.eq (vs' := [(.int (nar .byte ((x5 ^^^ (0 : Int32)).toInt8.toInt32))), (.int (nar .byte ((x5 ^^^ (1 : Int32)).toInt8.toInt32))), (.int (nar .byte ((x5 ^^^ (2 : Int32)).toInt8.toInt32))), (.int (nar .byte ((x5 ^^^ (3 : Int32)).toInt8.toInt32))), (.int (0 : Int32)), (.int (0 : Int32)), (.int (0 : Int32)), (.int (0 : Int32))]) rfl
              have N22 := Fr.snoc X22 N21 gn18
              have sz22 : n0 ≤ h22.size := W22.size ▸ sz21
              refine own_go (S' := (T22.setTop (mkF m 146 #[.val (.int x0), .val (.int x1), .val (.int x2), .val (.int x3), .val (.int x4), .val (.int x5), .val (.int y4), .val (.int y10), .val (.int y16), .val (.int y22), .val (.ref b11), .val (.ref b16), .val (.ref b18), .unset] []))) st22 ?_
              refine own_go (S' := (T22.setTop (mkF m 148 #[.val (.int x0), .val (.int x1), .val (.int x2), .val (.int x3), .val (.int x4), .val (.int x5), .val (.int y4), .val (.int y10), .val (.int y16), .val (.int y22), .val (.ref b11), .val (.ref b16), .val (.ref b18), .unset] [(.ref b18)]))) (fun τ κ => XS.aload X22.here hx rfl (hb hby at_146) rfl rfl κ) ?_
              refine own_go (S' := (T22.setTop (mkF m 149 #[.val (.int x0), .val (.int x1), .val (.int x2), .val (.int x3), .val (.int x4), .val (.int x5), .val (.int y4), .val (.int y10), .val (.int y16), .val (.int y22), .val (.ref b11), .val (.ref b16), .val (.ref b18), .unset] [(.int (4 : Int32)), (.ref b18)]))) (fun τ κ => XT.iconstV X22.here hx rfl (4 : Int32) (hb hby at_148) (by decide) κ) ?_
              refine own_go (S' := (T22.setTop (mkF m 151 #[.val (.int x0), .val (.int x1), .val (.int x2), .val (.int x3), .val (.int x4), .val (.int x5), .val (.int y4), .val (.int y10), .val (.int y16), .val (.int y22), .val (.ref b11), .val (.ref b16), .val (.ref b18), .unset] [(.int x5), (.int (4 : Int32)), (.ref b18)]))) (fun τ κ => XS.iload X22.here hx rfl (hb hby at_149) rfl κ) ?_
              refine own_go (S' := (T22.setTop (mkF m 152 #[.val (.int x0), .val (.int x1), .val (.int x2), .val (.int x3), .val (.int x4), .val (.int x5), .val (.int y4), .val (.int y10), .val (.int y16), .val (.int y22), .val (.ref b11), .val (.ref b16), .val (.ref b18), .unset] [(.int (4 : Int32)), (.int x5), (.int (4 : Int32)), (.ref b18)]))) (fun τ κ => XT.iconstV X22.here hx rfl (4 : Int32) (hb hby at_151) (by decide) κ) ?_
              refine own_go (S' := (T22.setTop (mkF m 153 #[.val (.int x0), .val (.int x1), .val (.int x2), .val (.int x3), .val (.int x4), .val (.int x5), .val (.int y4), .val (.int y10), .val (.int y16), .val (.int y22), .val (.ref b11), .val (.ref b16), .val (.ref b18), .unset] [(.int (x5 ^^^ (4 : Int32))), (.int (4 : Int32)), (.ref b18)]))) (fun τ κ => XS.ixor X22.here hx rfl (hb hby at_152) rfl κ) ?_
              refine own_go (S' := (T22.setTop (mkF m 154 #[.val (.int x0), .val (.int x1), .val (.int x2), .val (.int x3), .val (.int x4), .val (.int x5), .val (.int y4), .val (.int y10), .val (.int y16), .val (.int y22), .val (.ref b11), .val (.ref b16), .val (.ref b18), .unset] [(.int ((x5 ^^^ (4 : Int32)).toInt8.toInt32)), (.int (4 : Int32)), (.ref b18)]))) (fun τ κ => XS.i2b X22.here hx rfl (hb hby at_153) rfl κ) ?_
              obtain ⟨T23, h23, X23, e23, W23, B23, st23⟩ := own_bastore (j := (4 : Int32)) (x := ((x5 ^^^ (4 : Int32)).toInt8.toInt32)) (Ls := #[.val (.int x0), .val (.int x1), .val (.int x2), .val (.int x3), .val (.int x4), .val (.int x5), .val (.int y4), .val (.int y10), .val (.int y16), .val (.int y22), .val (.ref b11), .val (.ref b16), .val (.ref b18), .unset]) (rest := []) A18 X22 hx hZ e22 (by decide) (i := 4) (by decide) (Nat.le_of_ble_eq_true rfl) (hb hby at_154)
              replace E0 := Exa.wr W23 E0
              replace F1 := Fld.other W23 F1 (Or.inl ne18_E0)
              replace F2 := Fld.other W23 F2 (Or.inl ne18_E0)
              replace A := A.other W23 ne18_A
              replace A18 := B23.eq (vs' := [(.int (nar .byte ((x5 ^^^ (0 : Int32)).toInt8.toInt32))), (.int (nar .byte ((x5 ^^^ (1 : Int32)).toInt8.toInt32))), (.int (nar .byte ((x5 ^^^ (2 : Int32)).toInt8.toInt32))), (.int (nar .byte ((x5 ^^^ (3 : Int32)).toInt8.toInt32))), (.int (nar .byte ((x5 ^^^ (4 : Int32)).toInt8.toInt32))), (.int (0 : Int32)), (.int (0 : Int32)), (.int (0 : Int32))]) rfl
              have N23 := Fr.snoc X23 N22 gn18
              have sz23 : n0 ≤ h23.size := W23.size ▸ sz22
              refine own_go (S' := (T23.setTop (mkF m 155 #[.val (.int x0), .val (.int x1), .val (.int x2), .val (.int x3), .val (.int x4), .val (.int x5), .val (.int y4), .val (.int y10), .val (.int y16), .val (.int y22), .val (.ref b11), .val (.ref b16), .val (.ref b18), .unset] []))) st23 ?_
              refine own_go (S' := (T23.setTop (mkF m 157 #[.val (.int x0), .val (.int x1), .val (.int x2), .val (.int x3), .val (.int x4), .val (.int x5), .val (.int y4), .val (.int y10), .val (.int y16), .val (.int y22), .val (.ref b11), .val (.ref b16), .val (.ref b18), .unset] [(.ref b18)]))) (fun τ κ => XS.aload X23.here hx rfl (hb hby at_155) rfl rfl κ) ?_
              refine own_go (S' := (T23.setTop (mkF m 158 #[.val (.int x0), .val (.int x1), .val (.int x2), .val (.int x3), .val (.int x4), .val (.int x5), .val (.int y4), .val (.int y10), .val (.int y16), .val (.int y22), .val (.ref b11), .val (.ref b16), .val (.ref b18), .unset] [(.int (5 : Int32)), (.ref b18)]))) (fun τ κ => XT.iconstV X23.here hx rfl (5 : Int32) (hb hby at_157) (by decide) κ) ?_
              refine own_go (S' := (T23.setTop (mkF m 160 #[.val (.int x0), .val (.int x1), .val (.int x2), .val (.int x3), .val (.int x4), .val (.int x5), .val (.int y4), .val (.int y10), .val (.int y16), .val (.int y22), .val (.ref b11), .val (.ref b16), .val (.ref b18), .unset] [(.int x5), (.int (5 : Int32)), (.ref b18)]))) (fun τ κ => XS.iload X23.here hx rfl (hb hby at_158) rfl κ) ?_
              refine own_go (S' := (T23.setTop (mkF m 161 #[.val (.int x0), .val (.int x1), .val (.int x2), .val (.int x3), .val (.int x4), .val (.int x5), .val (.int y4), .val (.int y10), .val (.int y16), .val (.int y22), .val (.ref b11), .val (.ref b16), .val (.ref b18), .unset] [(.int (5 : Int32)), (.int x5), (.int (5 : Int32)), (.ref b18)]))) (fun τ κ => XT.iconstV X23.here hx rfl (5 : Int32) (hb hby at_160) (by decide) κ) ?_
              refine own_go (S' := (T23.setTop (mkF m 162 #[.val (.int x0), .val (.int x1), .val (.int x2), .val (.int x3), .val (.int x4), .val (.int x5), .val (.int y4), .val (.int y10), .val (.int y16), .val (.int y22), .val (.ref b11), .val (.ref b16), .val (.ref b18), .unset] [(.int (x5 ^^^ (5 : Int32))), (.int (5 : Int32)), (.ref b18)]))) (fun τ κ => XS.ixor X23.here hx rfl (hb hby at_161) rfl κ) ?_
              refine own_go (S' := (T23.setTop (mkF m 163 #[.val (.int x0), .val (.int x1), .val (.int x2), .val (.int x3), .val (.int x4), .val (.int x5), .val (.int y4), .val (.int y10), .val (.int y16), .val (.int y22), .val (.ref b11), .val (.ref b16), .val (.ref b18), .unset] [(.int ((x5 ^^^ (5 : Int32)).toInt8.toInt32)), (.int (5 : Int32)), (.ref b18)]))) (fun τ κ => XS.i2b X23.here hx rfl (hb hby at_162) rfl κ) ?_
              obtain ⟨T24, h24, X24, e24, W24, B24, st24⟩ := own_bastore (j := (5 : Int32)) (x := ((x5 ^^^ (5 : Int32)).toInt8.toInt32)) (Ls := #[.val (.int x0), .val (.int x1), .val (.int x2), .val (.int x3), .val (.int x4), .val (.int x5), .val (.int y4), .val (.int y10), .val (.int y16), .val (.int y22), .val (.ref b11), .val (.ref b16), .val (.ref b18), .unset]) (rest := []) A18 X23 hx hZ e23 (by decide) (i := 5) (by decide) (Nat.le_of_ble_eq_true rfl) (hb hby at_163)
              replace E0 := Exa.wr W24 E0
              replace F1 := Fld.other W24 F1 (Or.inl ne18_E0)
              replace F2 := Fld.other W24 F2 (Or.inl ne18_E0)
              replace A := A.other W24 ne18_A
              replace A18 := B24.eq (vs' := [(.int (nar .byte ((x5 ^^^ (0 : Int32)).toInt8.toInt32))), (.int (nar .byte ((x5 ^^^ (1 : Int32)).toInt8.toInt32))), (.int (nar .byte ((x5 ^^^ (2 : Int32)).toInt8.toInt32))), (.int (nar .byte ((x5 ^^^ (3 : Int32)).toInt8.toInt32))), (.int (nar .byte ((x5 ^^^ (4 : Int32)).toInt8.toInt32))), (.int (nar .byte ((x5 ^^^ (5 : Int32)).toInt8.toInt32))), (.int (0 : Int32)), (.int (0 : Int32))]) rfl
              have N24 := Fr.snoc X24 N23 gn18
              have sz24 : n0 ≤ h24.size := W24.size ▸ sz23
              refine own_go (S' := (T24.setTop (mkF m 164 #[.val (.int x0), .val (.int x1), .val (.int x2), .val (.int x3), .val (.int x4), .val (.int x5), .val (.int y4), .val (.int y10), .val (.int y16), .val (.int y22), .val (.ref b11), .val (.ref b16), .val (.ref b18), .unset] []))) st24 ?_
              refine own_go (S' := (T24.setTop (mkF m 166 #[.val (.int x0), .val (.int x1), .val (.int x2), .val (.int x3), .val (.int x4), .val (.int x5), .val (.int y4), .val (.int y10), .val (.int y16), .val (.int y22), .val (.ref b11), .val (.ref b16), .val (.ref b18), .unset] [(.ref b18)]))) (fun τ κ => XS.aload X24.here hx rfl (hb hby at_164) rfl rfl κ) ?_
              refine own_go (S' := (T24.setTop (mkF m 168 #[.val (.int x0), .val (.int x1), .val (.int x2), .val (.int x3), .val (.int x4), .val (.int x5), .val (.int y4), .val (.int y10), .val (.int y16), .val (.int y22), .val (.ref b11), .val (.ref b16), .val (.ref b18), .unset] [(.int (6 : Int32)), (.ref b18)]))) (fun τ κ => XT.bipushV X24.here hx rfl (6 : Int32) (hb hby at_166) (by decide) κ) ?_
              refine own_go (S' := (T24.setTop (mkF m 170 #[.val (.int x0), .val (.int x1), .val (.int x2), .val (.int x3), .val (.int x4), .val (.int x5), .val (.int y4), .val (.int y10), .val (.int y16), .val (.int y22), .val (.ref b11), .val (.ref b16), .val (.ref b18), .unset] [(.int x5), (.int (6 : Int32)), (.ref b18)]))) (fun τ κ => XS.iload X24.here hx rfl (hb hby at_168) rfl κ) ?_
              refine own_go (S' := (T24.setTop (mkF m 172 #[.val (.int x0), .val (.int x1), .val (.int x2), .val (.int x3), .val (.int x4), .val (.int x5), .val (.int y4), .val (.int y10), .val (.int y16), .val (.int y22), .val (.ref b11), .val (.ref b16), .val (.ref b18), .unset] [(.int (6 : Int32)), (.int x5), (.int (6 : Int32)), (.ref b18)]))) (fun τ κ => XT.bipushV X24.here hx rfl (6 : Int32) (hb hby at_170) (by decide) κ) ?_
              refine own_go (S' := (T24.setTop (mkF m 173 #[.val (.int x0), .val (.int x1), .val (.int x2), .val (.int x3), .val (.int x4), .val (.int x5), .val (.int y4), .val (.int y10), .val (.int y16), .val (.int y22), .val (.ref b11), .val (.ref b16), .val (.ref b18), .unset] [(.int (x5 ^^^ (6 : Int32))), (.int (6 : Int32)), (.ref b18)]))) (fun τ κ => XS.ixor X24.here hx rfl (hb hby at_172) rfl κ) ?_
              refine own_go (S' := (T24.setTop (mkF m 174 #[.val (.int x0), .val (.int x1), .val (.int x2), .val (.int x3), .val (.int x4), .val (.int x5), .val (.int y4), .val (.int y10), .val (.int y16), .val (.int y22), .val (.ref b11), .val (.ref b16), .val (.ref b18), .unset] [(.int ((x5 ^^^ (6 : Int32)).toInt8.toInt32)), (.int (6 : Int32)), (.ref b18)]))) (fun τ κ => XS.i2b X24.here hx rfl (hb hby at_173) rfl κ) ?_
              obtain ⟨T25, h25, X25, e25, W25, B25, st25⟩ := own_bastore (j := (6 : Int32)) (x := ((x5 ^^^ (6 : Int32)).toInt8.toInt32)) (Ls := #[.val (.int x0), .val (.int x1), .val (.int x2), .val (.int x3), .val (.int x4), .val (.int x5), .val (.int y4), .val (.int y10), .val (.int y16), .val (.int y22), .val (.ref b11), .val (.ref b16), .val (.ref b18), .unset]) (rest := []) A18 X24 hx hZ e24 (by decide) (i := 6) (by decide) (Nat.le_of_ble_eq_true rfl) (hb hby at_174)
              replace E0 := Exa.wr W25 E0
              replace F1 := Fld.other W25 F1 (Or.inl ne18_E0)
              replace F2 := Fld.other W25 F2 (Or.inl ne18_E0)
              replace A := A.other W25 ne18_A
              replace A18 := B25.eq (vs' := [(.int (nar .byte ((x5 ^^^ (0 : Int32)).toInt8.toInt32))), (.int (nar .byte ((x5 ^^^ (1 : Int32)).toInt8.toInt32))), (.int (nar .byte ((x5 ^^^ (2 : Int32)).toInt8.toInt32))), (.int (nar .byte ((x5 ^^^ (3 : Int32)).toInt8.toInt32))), (.int (nar .byte ((x5 ^^^ (4 : Int32)).toInt8.toInt32))), (.int (nar .byte ((x5 ^^^ (5 : Int32)).toInt8.toInt32))), (.int (nar .byte ((x5 ^^^ (6 : Int32)).toInt8.toInt32))), (.int (0 : Int32))]) rfl
              have N25 := Fr.snoc X25 N24 gn18
              have sz25 : n0 ≤ h25.size := W25.size ▸ sz24
              refine own_go (S' := (T25.setTop (mkF m 175 #[.val (.int x0), .val (.int x1), .val (.int x2), .val (.int x3), .val (.int x4), .val (.int x5), .val (.int y4), .val (.int y10), .val (.int y16), .val (.int y22), .val (.ref b11), .val (.ref b16), .val (.ref b18), .unset] []))) st25 ?_
              refine own_go (S' := (T25.setTop (mkF m 177 #[.val (.int x0), .val (.int x1), .val (.int x2), .val (.int x3), .val (.int x4), .val (.int x5), .val (.int y4), .val (.int y10), .val (.int y16), .val (.int y22), .val (.ref b11), .val (.ref b16), .val (.ref b18), .unset] [(.ref b18)]))) (fun τ κ => XS.aload X25.here hx rfl (hb hby at_175) rfl rfl κ) ?_
              refine own_go (S' := (T25.setTop (mkF m 179 #[.val (.int x0), .val (.int x1), .val (.int x2), .val (.int x3), .val (.int x4), .val (.int x5), .val (.int y4), .val (.int y10), .val (.int y16), .val (.int y22), .val (.ref b11), .val (.ref b16), .val (.ref b18), .unset] [(.int (7 : Int32)), (.ref b18)]))) (fun τ κ => XT.bipushV X25.here hx rfl (7 : Int32) (hb hby at_177) (by decide) κ) ?_
              refine own_go (S' := (T25.setTop (mkF m 181 #[.val (.int x0), .val (.int x1), .val (.int x2), .val (.int x3), .val (.int x4), .val (.int x5), .val (.int y4), .val (.int y10), .val (.int y16), .val (.int y22), .val (.ref b11), .val (.ref b16), .val (.ref b18), .unset] [(.int x5), (.int (7 : Int32)), (.ref b18)]))) (fun τ κ => XS.iload X25.here hx rfl (hb hby at_179) rfl κ) ?_
              refine own_go (S' := (T25.setTop (mkF m 183 #[.val (.int x0), .val (.int x1), .val (.int x2), .val (.int x3), .val (.int x4), .val (.int x5), .val (.int y4), .val (.int y10), .val (.int y16), .val (.int y22), .val (.ref b11), .val (.ref b16), .val (.ref b18), .unset] [(.int (7 : Int32)), (.int x5), (.int (7 : Int32)), (.ref b18)]))) (fun τ κ => XT.bipushV X25.here hx rfl (7 : Int32) (hb hby at_181) (by decide) κ) ?_
              refine own_go (S' := (T25.setTop (mkF m 184 #[.val (.int x0), .val (.int x1), .val (.int x2), .val (.int x3), .val (.int x4), .val (.int x5), .val (.int y4), .val (.int y10), .val (.int y16), .val (.int y22), .val (.ref b11), .val (.ref b16), .val (.ref b18), .unset] [(.int (x5 ^^^ (7 : Int32))), (.int (7 : Int32)), (.ref b18)]))) (fun τ κ => XS.ixor X25.here hx rfl (hb hby at_183) rfl κ) ?_
              refine own_go (S' := (T25.setTop (mkF m 185 #[.val (.int x0), .val (.int x1), .val (.int x2), .val (.int x3), .val (.int x4), .val (.int x5), .val (.int y4), .val (.int y10), .val (.int y16), .val (.int y22), .val (.ref b11), .val (.ref b16), .val (.ref b18), .unset] [(.int ((x5 ^^^ (7 : Int32)).toInt8.toInt32)), (.int (7 : Int32)), (.ref b18)]))) (fun τ κ => XS.i2b X25.here hx rfl (hb hby at_184) rfl κ) ?_
              obtain ⟨T26, h26, X26, e26, W26, B26, st26⟩ := own_bastore (j := (7 : Int32)) (x := ((x5 ^^^ (7 : Int32)).toInt8.toInt32)) (Ls := #[.val (.int x0), .val (.int x1), .val (.int x2), .val (.int x3), .val (.int x4), .val (.int x5), .val (.int y4), .val (.int y10), .val (.int y16), .val (.int y22), .val (.ref b11), .val (.ref b16), .val (.ref b18), .unset]) (rest := []) A18 X25 hx hZ e25 (by decide) (i := 7) (by decide) (Nat.le_of_ble_eq_true rfl) (hb hby at_185)
              replace E0 := Exa.wr W26 E0
              replace F1 := Fld.other W26 F1 (Or.inl ne18_E0)
              replace F2 := Fld.other W26 F2 (Or.inl ne18_E0)
              replace A := A.other W26 ne18_A
              replace A18 := B26.eq (vs' := [(.int (nar .byte ((x5 ^^^ (0 : Int32)).toInt8.toInt32))), (.int (nar .byte ((x5 ^^^ (1 : Int32)).toInt8.toInt32))), (.int (nar .byte ((x5 ^^^ (2 : Int32)).toInt8.toInt32))), (.int (nar .byte ((x5 ^^^ (3 : Int32)).toInt8.toInt32))), (.int (nar .byte ((x5 ^^^ (4 : Int32)).toInt8.toInt32))), (.int (nar .byte ((x5 ^^^ (5 : Int32)).toInt8.toInt32))), (.int (nar .byte ((x5 ^^^ (6 : Int32)).toInt8.toInt32))), (.int (nar .byte ((x5 ^^^ (7 : Int32)).toInt8.toInt32)))]) rfl
              have N26 := Fr.snoc X26 N25 gn18
              have sz26 : n0 ≤ h26.size := W26.size ▸ sz25
              refine own_go (S' := (T26.setTop (mkF m 186 #[.val (.int x0), .val (.int x1), .val (.int x2), .val (.int x3), .val (.int x4), .val (.int x5), .val (.int y4), .val (.int y10), .val (.int y16), .val (.int y22), .val (.ref b11), .val (.ref b16), .val (.ref b18), .unset] []))) st26 ?_
              refine own_go (S' := (T26.setTop (mkF m 188 #[.val (.int x0), .val (.int x1), .val (.int x2), .val (.int x3), .val (.int x4), .val (.int x5), .val (.int y4), .val (.int y10), .val (.int y16), .val (.int y22), .val (.ref b11), .val (.ref b16), .val (.ref b18), .unset] [(.int x4)]))) (fun τ κ => XS.iload X26.here hx rfl (hb hby at_186) rfl κ) ?_
              refine own_go (S' := (T26.setTop (mkF m 189 #[.val (.int x0), .val (.int x1), .val (.int x2), .val (.int x3), .val (.int x4), .val (.int x5), .val (.int y4), .val (.int y10), .val (.int y16), .val (.int y22), .val (.ref b11), .val (.ref b16), .val (.ref b18), .unset] [(.int (x4.toInt8.toInt32))]))) (fun τ κ => XS.i2b X26.here hx rfl (hb hby at_188) rfl κ) ?_
              refine own_go (S' := (T26.setTop (mkF m 191 #[.val (.int x0), .val (.int x1), .val (.int x2), .val (.int x3), .val (.int x4), .val (.int x5), .val (.int y4), .val (.int y10), .val (.int y16), .val (.int y22), .val (.ref b11), .val (.ref b16), .val (.ref b18), .val (.int (x4.toInt8.toInt32))] []))) (fun τ κ => XS.istore X26.here hx rfl (hb hby at_189) rfl (l' := #[.val (.int x0), .val (.int x1), .val (.int x2), .val (.int x3), .val (.int x4), .val (.int x5), .val (.int y4), .val (.int y10), .val (.int y16), .val (.int y22), .val (.ref b11), .val (.ref b16), .val (.ref b18), .val (.int (x4.toInt8.toInt32))]) rfl κ) ?_
              generalize hg189 : (x4.toInt8.toInt32) = y189
              refine own_go (S' := (T26.setTop (mkF m 193 #[.val (.int x0), .val (.int x1), .val (.int x2), .val (.int x3), .val (.int x4), .val (.int x5), .val (.int y4), .val (.int y10), .val (.int y16), .val (.int y22), .val (.ref b11), .val (.ref b16), .val (.ref b18), .val (.int y189)] [(.ref b16)]))) (fun τ κ => XS.aload X26.here hx rfl (hb hby at_191) rfl rfl κ) ?_
              refine own_go (S' := (T26.setTop (mkF m 195 #[.val (.int x0), .val (.int x1), .val (.int x2), .val (.int x3), .val (.int x4), .val (.int x5), .val (.int y4), .val (.int y10), .val (.int y16), .val (.int y22), .val (.ref b11), .val (.ref b16), .val (.ref b18), .val (.int y189)] [(.ref b18), (.ref b16)]))) (fun τ κ => XS.aload X26.here hx rfl (hb hby at_193) rfl rfl κ) ?_
              refine own_go (S' := (T26.setTop (mkF m 197 #[.val (.int x0), .val (.int x1), .val (.int x2), .val (.int x3), .val (.int x4), .val (.int x5), .val (.int y4), .val (.int y10), .val (.int y16), .val (.int y22), .val (.ref b11), .val (.ref b16), .val (.ref b18), .val (.int y189)] [(.int y189), (.ref b18), (.ref b16)]))) (fun τ κ => XS.iload X26.here hx rfl (hb hby at_195) rfl κ) ?_
              replace A18 := A18.eq (vs' := List.map Value.int [(nar .byte ((x5 ^^^ (0 : Int32)).toInt8.toInt32)), (nar .byte ((x5 ^^^ (1 : Int32)).toInt8.toInt32)), (nar .byte ((x5 ^^^ (2 : Int32)).toInt8.toInt32)), (nar .byte ((x5 ^^^ (3 : Int32)).toInt8.toInt32)), (nar .byte ((x5 ^^^ (4 : Int32)).toInt8.toInt32)), (nar .byte ((x5 ^^^ (5 : Int32)).toInt8.toInt32)), (nar .byte ((x5 ^^^ (6 : Int32)).toInt8.toInt32)), (nar .byte ((x5 ^^^ (7 : Int32)).toInt8.toInt32))]) rfl
              have hbd : ∀ y ∈ ys.drop f, 0 ≤ y.toInt ∧ y.toInt < (([(nar .byte ((x5 ^^^ (0 : Int32)).toInt8.toInt32)), (nar .byte ((x5 ^^^ (1 : Int32)).toInt8.toInt32)), (nar .byte ((x5 ^^^ (2 : Int32)).toInt8.toInt32)), (nar .byte ((x5 ^^^ (3 : Int32)).toInt8.toInt32)), (nar .byte ((x5 ^^^ (4 : Int32)).toInt8.toInt32)), (nar .byte ((x5 ^^^ (5 : Int32)).toInt8.toInt32)), (nar .byte ((x5 ^^^ (6 : Int32)).toInt8.toInt32)), (nar .byte ((x5 ^^^ (7 : Int32)).toInt8.toInt32))] : List Int32).length : Int) := by
                intro y hy
                refine ⟨own_tail_nonneg hs hf3 y hy, ?_⟩
                have hm4 := hp.mem_iff.mp (List.mem_of_mem_drop hy)
                simp only [List.mem_cons, List.not_mem_nil, or_false] at hm4
                show y.toInt < 8
                rcases hm4 with r | r | r | r
                · rw [r, ← hg4]; exact own_code_lt _
                · rw [r, ← hg10]; exact own_code_lt _
                · rw [r, ← hg16]; exact own_code_lt _
                · rw [r, ← hg22]; exact own_code_lt _
              obtain ⟨v27, T27, L27, X27, hQ27, st27⟩ := own_callV (a := b16) X26 hx hZ (y := (⟨"com/example/twinhash/twinhash/shingle/ShingleSet", "mark", "([BB)V"⟩ : MethodName)) hown (hw _ (List.mem_of_getElem? (i := 33) rfl)) (hw _ (List.mem_of_getElem? (i := 34) rfl)) (hw _ (List.mem_of_getElem? (i := 36) rfl)) (hw _ (List.mem_of_getElem? (i := 35) rfl)) (hw _ (List.mem_of_getElem? (i := 7) rfl)) (hw _ (List.mem_of_getElem? (i := 37) rfl)) (rm8 l Z a0 hw b16 b18 y189 b11 ys [(nar .byte ((x5 ^^^ (0 : Int32)).toInt8.toInt32)), (nar .byte ((x5 ^^^ (1 : Int32)).toInt8.toInt32)), (nar .byte ((x5 ^^^ (2 : Int32)).toInt8.toInt32)), (nar .byte ((x5 ^^^ (3 : Int32)).toInt8.toInt32)), (nar .byte ((x5 ^^^ (4 : Int32)).toInt8.toInt32)), (nar .byte ((x5 ^^^ (5 : Int32)).toInt8.toInt32)), (nar .byte ((x5 ^^^ (6 : Int32)).toInt8.toInt32)), (nar .byte ((x5 ^^^ (7 : Int32)).toInt8.toInt32))] f h26 n0 F1 F2 A A18 ne18_E0 ne18_A gn18 (by rw [hp.length_eq]; exact Nat.le_of_ble_eq_true rfl) hf1 hbd) e26 E0 (st := [(.int y189), (.ref b18), (.ref b16)]) (argsL := [(.ref b18), (.int y189)]) (rest := []) (Ls := #[.val (.int x0), .val (.int x1), .val (.int x2), .val (.int x3), .val (.int x4), .val (.int x5), .val (.int y4), .val (.int y10), .val (.int y16), .val (.int y22), .val (.ref b11), .val (.ref b16), .val (.ref b18), .val (.int y189)]) (hb hby at_197) pd_5 0 (by rw [hml]; rfl) (by decide) rfl rfl rfl (Nat.le_of_eq rfl) (by decide) (by decide) (by decide) (by decide)
              obtain ⟨rfl, Nq27, M⟩ := hQ27
              have N27 := Fr.app N26 Nq27
              have hmk : nar .byte y189 = y189 := by rw [← hg189]; exact own_narB _
              refine own_go (S' := (T27.setTop (mkF m 200 #[.val (.int x0), .val (.int x1), .val (.int x2), .val (.int x3), .val (.int x4), .val (.int x5), .val (.int y4), .val (.int y10), .val (.int y16), .val (.int y22), .val (.ref b11), .val (.ref b16), .val (.ref b18), .val (.int y189)] []))) st27 ?_
              refine own_go (S' := (T27.setTop (mkF m 202 #[.val (.int x0), .val (.int x1), .val (.int x2), .val (.int x3), .val (.int x4), .val (.int x5), .val (.int y4), .val (.int y10), .val (.int y16), .val (.int y22), .val (.ref b11), .val (.ref b16), .val (.ref b18), .val (.int y189)] [(.ref b18)]))) (fun τ κ => XS.aload X27.here hx rfl (hb hby at_200) rfl rfl κ) ?_
              refine own_go (S' := (T27.setTop (mkF m 203 #[.val (.int x0), .val (.int x1), .val (.int x2), .val (.int x3), .val (.int x4), .val (.int x5), .val (.int y4), .val (.int y10), .val (.int y16), .val (.int y22), .val (.ref b11), .val (.ref b16), .val (.ref b18), .val (.int y189)] [(.int (0 : Int32)), (.ref b18)]))) (fun τ κ => XT.iconstV X27.here hx rfl (0 : Int32) (hb hby at_202) (by decide) κ) ?_
              refine own_go (S' := (T27.setTop (mkF m 205 #[.val (.int x0), .val (.int x1), .val (.int x2), .val (.int x3), .val (.int x4), .val (.int x5), .val (.int y4), .val (.int y10), .val (.int y16), .val (.int y22), .val (.ref b11), .val (.ref b16), .val (.ref b18), .val (.int y189)] [(.int y4), (.int (0 : Int32)), (.ref b18)]))) (fun τ κ => XS.iload X27.here hx rfl (hb hby at_203) rfl κ) ?_
              refine own_go (S' := (T27.setTop (mkF m 207 #[.val (.int x0), .val (.int x1), .val (.int x2), .val (.int x3), .val (.int x4), .val (.int x5), .val (.int y4), .val (.int y10), .val (.int y16), .val (.int y22), .val (.ref b11), .val (.ref b16), .val (.ref b18), .val (.int y189)] [(.int y10), (.int y4), (.int (0 : Int32)), (.ref b18)]))) (fun τ κ => XS.iload X27.here hx rfl (hb hby at_205) rfl κ) ?_
              refine own_go (S' := (T27.setTop (mkF m 209 #[.val (.int x0), .val (.int x1), .val (.int x2), .val (.int x3), .val (.int x4), .val (.int x5), .val (.int y4), .val (.int y10), .val (.int y16), .val (.int y22), .val (.ref b11), .val (.ref b16), .val (.ref b18), .val (.int y189)] [(.int y16), (.int y10), (.int y4), (.int (0 : Int32)), (.ref b18)]))) (fun τ κ => XS.iload X27.here hx rfl (hb hby at_207) rfl κ) ?_
              refine own_go (S' := (T27.setTop (mkF m 211 #[.val (.int x0), .val (.int x1), .val (.int x2), .val (.int x3), .val (.int x4), .val (.int x5), .val (.int y4), .val (.int y10), .val (.int y16), .val (.int y22), .val (.ref b11), .val (.ref b16), .val (.ref b18), .val (.int y189)] [(.int y22), (.int y16), (.int y10), (.int y4), (.int (0 : Int32)), (.ref b18)]))) (fun τ κ => XS.iload X27.here hx rfl (hb hby at_209) rfl κ) ?_
              refine own_go (S' := (T27.setTop (mkF m 213 #[.val (.int x0), .val (.int x1), .val (.int x2), .val (.int x3), .val (.int x4), .val (.int x5), .val (.int y4), .val (.int y10), .val (.int y16), .val (.int y22), .val (.ref b11), .val (.ref b16), .val (.ref b18), .val (.int y189)] [(.int y189), (.int y22), (.int y16), (.int y10), (.int y4), (.int (0 : Int32)), (.ref b18)]))) (fun τ κ => XS.iload X27.here hx rfl (hb hby at_211) rfl κ) ?_
              refine own_go (S' := (T27.setTop (mkF m 215 #[.val (.int x0), .val (.int x1), .val (.int x2), .val (.int x3), .val (.int x4), .val (.int x5), .val (.int y4), .val (.int y10), .val (.int y16), .val (.int y22), .val (.ref b11), .val (.ref b16), .val (.ref b18), .val (.int y189)] [(.int x5), (.int y189), (.int y22), (.int y16), (.int y10), (.int y4), (.int (0 : Int32)), (.ref b18)]))) (fun τ κ => XS.iload X27.here hx rfl (hb hby at_213) rfl κ) ?_
              obtain ⟨T28, X28, e28, st28⟩ := own_callP X27 hx hZ (y := (⟨"com/example/twinhash/twinhash/shingle/ShingleSetMarkPinLaw", "at", "([BIIIIIBI)Z"⟩ : MethodName)) hown (hw _ (List.mem_of_getElem? (i := 38) rfl)) (hw _ (List.mem_of_getElem? (i := 39) rfl)) (hw _ (List.mem_of_getElem? (i := 2) rfl)) (hw _ (List.mem_of_getElem? (i := 40) rfl)) (rm9 l Z a0 hw b18 (0 : Int32) y4 y10 y16 y22 y189 x5 (own_marked [(nar .byte ((x5 ^^^ (0 : Int32)).toInt8.toInt32)), (nar .byte ((x5 ^^^ (1 : Int32)).toInt8.toInt32)), (nar .byte ((x5 ^^^ (2 : Int32)).toInt8.toInt32)), (nar .byte ((x5 ^^^ (3 : Int32)).toInt8.toInt32)), (nar .byte ((x5 ^^^ (4 : Int32)).toInt8.toInt32)), (nar .byte ((x5 ^^^ (5 : Int32)).toInt8.toInt32)), (nar .byte ((x5 ^^^ (6 : Int32)).toInt8.toInt32)), (nar .byte ((x5 ^^^ (7 : Int32)).toInt8.toInt32))] y189 (ys.drop f)) T27.heap M (by decide) (by rw [own_marked_len]; exact (show (0 : Int32).toInt < (8 : Int) from by decide)) (own_final hp hs hf2 hf3 hmk (by decide) (show (0 : Int32).toInt < (8 : Int) from by decide) (own_narB _))) rfl (argsL := [(.ref b18), (.int (0 : Int32)), (.int y4), (.int y10), (.int y16), (.int y22), (.int y189), (.int x5)]) (rest := []) (Ls := #[.val (.int x0), .val (.int x1), .val (.int x2), .val (.int x3), .val (.int x4), .val (.int x5), .val (.int y4), .val (.int y10), .val (.int y16), .val (.int y22), .val (.ref b11), .val (.ref b16), .val (.ref b18), .val (.int y189)]) (hb hby at_215) pd_6 0 (by rw [hml]; rfl) (by decide) rfl rfl rfl (Nat.le_of_eq rfl) (by decide) (by decide) (by decide) (by decide)
              refine own_go (S' := (T28.setTop (mkF m 218 #[.val (.int x0), .val (.int x1), .val (.int x2), .val (.int x3), .val (.int x4), .val (.int x5), .val (.int y4), .val (.int y10), .val (.int y16), .val (.int y22), .val (.ref b11), .val (.ref b16), .val (.ref b18), .val (.int y189)] [(.int (1 : Int32))]))) st28 ?_
              refine own_go (S' := (T28.setTop (mkF m 221 #[.val (.int x0), .val (.int x1), .val (.int x2), .val (.int x3), .val (.int x4), .val (.int x5), .val (.int y4), .val (.int y10), .val (.int y16), .val (.int y22), .val (.ref b11), .val (.ref b16), .val (.ref b18), .val (.int y189)] []))) (fun τ κ => XS.ifNo X28.here hx rfl (hb hby at_218) rfl ((if0 _ _).trans (feq (by decide)).1) κ) ?_
              refine own_go (S' := (T28.setTop (mkF m 223 #[.val (.int x0), .val (.int x1), .val (.int x2), .val (.int x3), .val (.int x4), .val (.int x5), .val (.int y4), .val (.int y10), .val (.int y16), .val (.int y22), .val (.ref b11), .val (.ref b16), .val (.ref b18), .val (.int y189)] [(.ref b18)]))) (fun τ κ => XS.aload X28.here hx rfl (hb hby at_221) rfl rfl κ) ?_
              refine own_go (S' := (T28.setTop (mkF m 224 #[.val (.int x0), .val (.int x1), .val (.int x2), .val (.int x3), .val (.int x4), .val (.int x5), .val (.int y4), .val (.int y10), .val (.int y16), .val (.int y22), .val (.ref b11), .val (.ref b16), .val (.ref b18), .val (.int y189)] [(.int (1 : Int32)), (.ref b18)]))) (fun τ κ => XT.iconstV X28.here hx rfl (1 : Int32) (hb hby at_223) (by decide) κ) ?_
              refine own_go (S' := (T28.setTop (mkF m 226 #[.val (.int x0), .val (.int x1), .val (.int x2), .val (.int x3), .val (.int x4), .val (.int x5), .val (.int y4), .val (.int y10), .val (.int y16), .val (.int y22), .val (.ref b11), .val (.ref b16), .val (.ref b18), .val (.int y189)] [(.int y4), (.int (1 : Int32)), (.ref b18)]))) (fun τ κ => XS.iload X28.here hx rfl (hb hby at_224) rfl κ) ?_
              refine own_go (S' := (T28.setTop (mkF m 228 #[.val (.int x0), .val (.int x1), .val (.int x2), .val (.int x3), .val (.int x4), .val (.int x5), .val (.int y4), .val (.int y10), .val (.int y16), .val (.int y22), .val (.ref b11), .val (.ref b16), .val (.ref b18), .val (.int y189)] [(.int y10), (.int y4), (.int (1 : Int32)), (.ref b18)]))) (fun τ κ => XS.iload X28.here hx rfl (hb hby at_226) rfl κ) ?_
              refine own_go (S' := (T28.setTop (mkF m 230 #[.val (.int x0), .val (.int x1), .val (.int x2), .val (.int x3), .val (.int x4), .val (.int x5), .val (.int y4), .val (.int y10), .val (.int y16), .val (.int y22), .val (.ref b11), .val (.ref b16), .val (.ref b18), .val (.int y189)] [(.int y16), (.int y10), (.int y4), (.int (1 : Int32)), (.ref b18)]))) (fun τ κ => XS.iload X28.here hx rfl (hb hby at_228) rfl κ) ?_
              refine own_go (S' := (T28.setTop (mkF m 232 #[.val (.int x0), .val (.int x1), .val (.int x2), .val (.int x3), .val (.int x4), .val (.int x5), .val (.int y4), .val (.int y10), .val (.int y16), .val (.int y22), .val (.ref b11), .val (.ref b16), .val (.ref b18), .val (.int y189)] [(.int y22), (.int y16), (.int y10), (.int y4), (.int (1 : Int32)), (.ref b18)]))) (fun τ κ => XS.iload X28.here hx rfl (hb hby at_230) rfl κ) ?_
              refine own_go (S' := (T28.setTop (mkF m 234 #[.val (.int x0), .val (.int x1), .val (.int x2), .val (.int x3), .val (.int x4), .val (.int x5), .val (.int y4), .val (.int y10), .val (.int y16), .val (.int y22), .val (.ref b11), .val (.ref b16), .val (.ref b18), .val (.int y189)] [(.int y189), (.int y22), (.int y16), (.int y10), (.int y4), (.int (1 : Int32)), (.ref b18)]))) (fun τ κ => XS.iload X28.here hx rfl (hb hby at_232) rfl κ) ?_
              refine own_go (S' := (T28.setTop (mkF m 236 #[.val (.int x0), .val (.int x1), .val (.int x2), .val (.int x3), .val (.int x4), .val (.int x5), .val (.int y4), .val (.int y10), .val (.int y16), .val (.int y22), .val (.ref b11), .val (.ref b16), .val (.ref b18), .val (.int y189)] [(.int x5), (.int y189), (.int y22), (.int y16), (.int y10), (.int y4), (.int (1 : Int32)), (.ref b18)]))) (fun τ κ => XS.iload X28.here hx rfl (hb hby at_234) rfl κ) ?_
              obtain ⟨T29, X29, e29, st29⟩ := own_callP X28 hx hZ (y := (⟨"com/example/twinhash/twinhash/shingle/ShingleSetMarkPinLaw", "at", "([BIIIIIBI)Z"⟩ : MethodName)) hown (hw _ (List.mem_of_getElem? (i := 38) rfl)) (hw _ (List.mem_of_getElem? (i := 39) rfl)) (hw _ (List.mem_of_getElem? (i := 2) rfl)) (hw _ (List.mem_of_getElem? (i := 40) rfl)) (rm9 l Z a0 hw b18 (1 : Int32) y4 y10 y16 y22 y189 x5 (own_marked [(nar .byte ((x5 ^^^ (0 : Int32)).toInt8.toInt32)), (nar .byte ((x5 ^^^ (1 : Int32)).toInt8.toInt32)), (nar .byte ((x5 ^^^ (2 : Int32)).toInt8.toInt32)), (nar .byte ((x5 ^^^ (3 : Int32)).toInt8.toInt32)), (nar .byte ((x5 ^^^ (4 : Int32)).toInt8.toInt32)), (nar .byte ((x5 ^^^ (5 : Int32)).toInt8.toInt32)), (nar .byte ((x5 ^^^ (6 : Int32)).toInt8.toInt32)), (nar .byte ((x5 ^^^ (7 : Int32)).toInt8.toInt32))] y189 (ys.drop f)) T27.heap M (by decide) (by rw [own_marked_len]; exact (show (1 : Int32).toInt < (8 : Int) from by decide)) (own_final hp hs hf2 hf3 hmk (by decide) (show (1 : Int32).toInt < (8 : Int) from by decide) (own_narB _))) e28 (argsL := [(.ref b18), (.int (1 : Int32)), (.int y4), (.int y10), (.int y16), (.int y22), (.int y189), (.int x5)]) (rest := []) (Ls := #[.val (.int x0), .val (.int x1), .val (.int x2), .val (.int x3), .val (.int x4), .val (.int x5), .val (.int y4), .val (.int y10), .val (.int y16), .val (.int y22), .val (.ref b11), .val (.ref b16), .val (.ref b18), .val (.int y189)]) (hb hby at_236) pd_6 0 (by rw [hml]; rfl) (by decide) rfl rfl rfl (Nat.le_of_eq rfl) (by decide) (by decide) (by decide) (by decide)
              refine own_go (S' := (T29.setTop (mkF m 239 #[.val (.int x0), .val (.int x1), .val (.int x2), .val (.int x3), .val (.int x4), .val (.int x5), .val (.int y4), .val (.int y10), .val (.int y16), .val (.int y22), .val (.ref b11), .val (.ref b16), .val (.ref b18), .val (.int y189)] [(.int (1 : Int32))]))) st29 ?_
              refine own_go (S' := (T29.setTop (mkF m 242 #[.val (.int x0), .val (.int x1), .val (.int x2), .val (.int x3), .val (.int x4), .val (.int x5), .val (.int y4), .val (.int y10), .val (.int y16), .val (.int y22), .val (.ref b11), .val (.ref b16), .val (.ref b18), .val (.int y189)] []))) (fun τ κ => XS.ifNo X29.here hx rfl (hb hby at_239) rfl ((if0 _ _).trans (feq (by decide)).1) κ) ?_
              refine own_go (S' := (T29.setTop (mkF m 244 #[.val (.int x0), .val (.int x1), .val (.int x2), .val (.int x3), .val (.int x4), .val (.int x5), .val (.int y4), .val (.int y10), .val (.int y16), .val (.int y22), .val (.ref b11), .val (.ref b16), .val (.ref b18), .val (.int y189)] [(.ref b18)]))) (fun τ κ => XS.aload X29.here hx rfl (hb hby at_242) rfl rfl κ) ?_
              refine own_go (S' := (T29.setTop (mkF m 245 #[.val (.int x0), .val (.int x1), .val (.int x2), .val (.int x3), .val (.int x4), .val (.int x5), .val (.int y4), .val (.int y10), .val (.int y16), .val (.int y22), .val (.ref b11), .val (.ref b16), .val (.ref b18), .val (.int y189)] [(.int (2 : Int32)), (.ref b18)]))) (fun τ κ => XT.iconstV X29.here hx rfl (2 : Int32) (hb hby at_244) (by decide) κ) ?_
              refine own_go (S' := (T29.setTop (mkF m 247 #[.val (.int x0), .val (.int x1), .val (.int x2), .val (.int x3), .val (.int x4), .val (.int x5), .val (.int y4), .val (.int y10), .val (.int y16), .val (.int y22), .val (.ref b11), .val (.ref b16), .val (.ref b18), .val (.int y189)] [(.int y4), (.int (2 : Int32)), (.ref b18)]))) (fun τ κ => XS.iload X29.here hx rfl (hb hby at_245) rfl κ) ?_
              refine own_go (S' := (T29.setTop (mkF m 249 #[.val (.int x0), .val (.int x1), .val (.int x2), .val (.int x3), .val (.int x4), .val (.int x5), .val (.int y4), .val (.int y10), .val (.int y16), .val (.int y22), .val (.ref b11), .val (.ref b16), .val (.ref b18), .val (.int y189)] [(.int y10), (.int y4), (.int (2 : Int32)), (.ref b18)]))) (fun τ κ => XS.iload X29.here hx rfl (hb hby at_247) rfl κ) ?_
              refine own_go (S' := (T29.setTop (mkF m 251 #[.val (.int x0), .val (.int x1), .val (.int x2), .val (.int x3), .val (.int x4), .val (.int x5), .val (.int y4), .val (.int y10), .val (.int y16), .val (.int y22), .val (.ref b11), .val (.ref b16), .val (.ref b18), .val (.int y189)] [(.int y16), (.int y10), (.int y4), (.int (2 : Int32)), (.ref b18)]))) (fun τ κ => XS.iload X29.here hx rfl (hb hby at_249) rfl κ) ?_
              refine own_go (S' := (T29.setTop (mkF m 253 #[.val (.int x0), .val (.int x1), .val (.int x2), .val (.int x3), .val (.int x4), .val (.int x5), .val (.int y4), .val (.int y10), .val (.int y16), .val (.int y22), .val (.ref b11), .val (.ref b16), .val (.ref b18), .val (.int y189)] [(.int y22), (.int y16), (.int y10), (.int y4), (.int (2 : Int32)), (.ref b18)]))) (fun τ κ => XS.iload X29.here hx rfl (hb hby at_251) rfl κ) ?_
              refine own_go (S' := (T29.setTop (mkF m 255 #[.val (.int x0), .val (.int x1), .val (.int x2), .val (.int x3), .val (.int x4), .val (.int x5), .val (.int y4), .val (.int y10), .val (.int y16), .val (.int y22), .val (.ref b11), .val (.ref b16), .val (.ref b18), .val (.int y189)] [(.int y189), (.int y22), (.int y16), (.int y10), (.int y4), (.int (2 : Int32)), (.ref b18)]))) (fun τ κ => XS.iload X29.here hx rfl (hb hby at_253) rfl κ) ?_
              refine own_go (S' := (T29.setTop (mkF m 257 #[.val (.int x0), .val (.int x1), .val (.int x2), .val (.int x3), .val (.int x4), .val (.int x5), .val (.int y4), .val (.int y10), .val (.int y16), .val (.int y22), .val (.ref b11), .val (.ref b16), .val (.ref b18), .val (.int y189)] [(.int x5), (.int y189), (.int y22), (.int y16), (.int y10), (.int y4), (.int (2 : Int32)), (.ref b18)]))) (fun τ κ => XS.iload X29.here hx rfl (hb hby at_255) rfl κ) ?_
              obtain ⟨T30, X30, e30, st30⟩ := own_callP X29 hx hZ (y := (⟨"com/example/twinhash/twinhash/shingle/ShingleSetMarkPinLaw", "at", "([BIIIIIBI)Z"⟩ : MethodName)) hown (hw _ (List.mem_of_getElem? (i := 38) rfl)) (hw _ (List.mem_of_getElem? (i := 39) rfl)) (hw _ (List.mem_of_getElem? (i := 2) rfl)) (hw _ (List.mem_of_getElem? (i := 40) rfl)) (rm9 l Z a0 hw b18 (2 : Int32) y4 y10 y16 y22 y189 x5 (own_marked [(nar .byte ((x5 ^^^ (0 : Int32)).toInt8.toInt32)), (nar .byte ((x5 ^^^ (1 : Int32)).toInt8.toInt32)), (nar .byte ((x5 ^^^ (2 : Int32)).toInt8.toInt32)), (nar .byte ((x5 ^^^ (3 : Int32)).toInt8.toInt32)), (nar .byte ((x5 ^^^ (4 : Int32)).toInt8.toInt32)), (nar .byte ((x5 ^^^ (5 : Int32)).toInt8.toInt32)), (nar .byte ((x5 ^^^ (6 : Int32)).toInt8.toInt32)), (nar .byte ((x5 ^^^ (7 : Int32)).toInt8.toInt32))] y189 (ys.drop f)) T27.heap M (by decide) (by rw [own_marked_len]; exact (show (2 : Int32).toInt < (8 : Int) from by decide)) (own_final hp hs hf2 hf3 hmk (by decide) (show (2 : Int32).toInt < (8 : Int) from by decide) (own_narB _))) e29 (argsL := [(.ref b18), (.int (2 : Int32)), (.int y4), (.int y10), (.int y16), (.int y22), (.int y189), (.int x5)]) (rest := []) (Ls := #[.val (.int x0), .val (.int x1), .val (.int x2), .val (.int x3), .val (.int x4), .val (.int x5), .val (.int y4), .val (.int y10), .val (.int y16), .val (.int y22), .val (.ref b11), .val (.ref b16), .val (.ref b18), .val (.int y189)]) (hb hby at_257) pd_6 0 (by rw [hml]; rfl) (by decide) rfl rfl rfl (Nat.le_of_eq rfl) (by decide) (by decide) (by decide) (by decide)
              refine own_go (S' := (T30.setTop (mkF m 260 #[.val (.int x0), .val (.int x1), .val (.int x2), .val (.int x3), .val (.int x4), .val (.int x5), .val (.int y4), .val (.int y10), .val (.int y16), .val (.int y22), .val (.ref b11), .val (.ref b16), .val (.ref b18), .val (.int y189)] [(.int (1 : Int32))]))) st30 ?_
              refine own_go (S' := (T30.setTop (mkF m 263 #[.val (.int x0), .val (.int x1), .val (.int x2), .val (.int x3), .val (.int x4), .val (.int x5), .val (.int y4), .val (.int y10), .val (.int y16), .val (.int y22), .val (.ref b11), .val (.ref b16), .val (.ref b18), .val (.int y189)] []))) (fun τ κ => XS.ifNo X30.here hx rfl (hb hby at_260) rfl ((if0 _ _).trans (feq (by decide)).1) κ) ?_
              refine own_go (S' := (T30.setTop (mkF m 265 #[.val (.int x0), .val (.int x1), .val (.int x2), .val (.int x3), .val (.int x4), .val (.int x5), .val (.int y4), .val (.int y10), .val (.int y16), .val (.int y22), .val (.ref b11), .val (.ref b16), .val (.ref b18), .val (.int y189)] [(.ref b18)]))) (fun τ κ => XS.aload X30.here hx rfl (hb hby at_263) rfl rfl κ) ?_
              refine own_go (S' := (T30.setTop (mkF m 266 #[.val (.int x0), .val (.int x1), .val (.int x2), .val (.int x3), .val (.int x4), .val (.int x5), .val (.int y4), .val (.int y10), .val (.int y16), .val (.int y22), .val (.ref b11), .val (.ref b16), .val (.ref b18), .val (.int y189)] [(.int (3 : Int32)), (.ref b18)]))) (fun τ κ => XT.iconstV X30.here hx rfl (3 : Int32) (hb hby at_265) (by decide) κ) ?_
              refine own_go (S' := (T30.setTop (mkF m 268 #[.val (.int x0), .val (.int x1), .val (.int x2), .val (.int x3), .val (.int x4), .val (.int x5), .val (.int y4), .val (.int y10), .val (.int y16), .val (.int y22), .val (.ref b11), .val (.ref b16), .val (.ref b18), .val (.int y189)] [(.int y4), (.int (3 : Int32)), (.ref b18)]))) (fun τ κ => XS.iload X30.here hx rfl (hb hby at_266) rfl κ) ?_
              refine own_go (S' := (T30.setTop (mkF m 270 #[.val (.int x0), .val (.int x1), .val (.int x2), .val (.int x3), .val (.int x4), .val (.int x5), .val (.int y4), .val (.int y10), .val (.int y16), .val (.int y22), .val (.ref b11), .val (.ref b16), .val (.ref b18), .val (.int y189)] [(.int y10), (.int y4), (.int (3 : Int32)), (.ref b18)]))) (fun τ κ => XS.iload X30.here hx rfl (hb hby at_268) rfl κ) ?_
              refine own_go (S' := (T30.setTop (mkF m 272 #[.val (.int x0), .val (.int x1), .val (.int x2), .val (.int x3), .val (.int x4), .val (.int x5), .val (.int y4), .val (.int y10), .val (.int y16), .val (.int y22), .val (.ref b11), .val (.ref b16), .val (.ref b18), .val (.int y189)] [(.int y16), (.int y10), (.int y4), (.int (3 : Int32)), (.ref b18)]))) (fun τ κ => XS.iload X30.here hx rfl (hb hby at_270) rfl κ) ?_
              refine own_go (S' := (T30.setTop (mkF m 274 #[.val (.int x0), .val (.int x1), .val (.int x2), .val (.int x3), .val (.int x4), .val (.int x5), .val (.int y4), .val (.int y10), .val (.int y16), .val (.int y22), .val (.ref b11), .val (.ref b16), .val (.ref b18), .val (.int y189)] [(.int y22), (.int y16), (.int y10), (.int y4), (.int (3 : Int32)), (.ref b18)]))) (fun τ κ => XS.iload X30.here hx rfl (hb hby at_272) rfl κ) ?_
              refine own_go (S' := (T30.setTop (mkF m 276 #[.val (.int x0), .val (.int x1), .val (.int x2), .val (.int x3), .val (.int x4), .val (.int x5), .val (.int y4), .val (.int y10), .val (.int y16), .val (.int y22), .val (.ref b11), .val (.ref b16), .val (.ref b18), .val (.int y189)] [(.int y189), (.int y22), (.int y16), (.int y10), (.int y4), (.int (3 : Int32)), (.ref b18)]))) (fun τ κ => XS.iload X30.here hx rfl (hb hby at_274) rfl κ) ?_
              refine own_go (S' := (T30.setTop (mkF m 278 #[.val (.int x0), .val (.int x1), .val (.int x2), .val (.int x3), .val (.int x4), .val (.int x5), .val (.int y4), .val (.int y10), .val (.int y16), .val (.int y22), .val (.ref b11), .val (.ref b16), .val (.ref b18), .val (.int y189)] [(.int x5), (.int y189), (.int y22), (.int y16), (.int y10), (.int y4), (.int (3 : Int32)), (.ref b18)]))) (fun τ κ => XS.iload X30.here hx rfl (hb hby at_276) rfl κ) ?_
              obtain ⟨T31, X31, e31, st31⟩ := own_callP X30 hx hZ (y := (⟨"com/example/twinhash/twinhash/shingle/ShingleSetMarkPinLaw", "at", "([BIIIIIBI)Z"⟩ : MethodName)) hown (hw _ (List.mem_of_getElem? (i := 38) rfl)) (hw _ (List.mem_of_getElem? (i := 39) rfl)) (hw _ (List.mem_of_getElem? (i := 2) rfl)) (hw _ (List.mem_of_getElem? (i := 40) rfl)) (rm9 l Z a0 hw b18 (3 : Int32) y4 y10 y16 y22 y189 x5 (own_marked [(nar .byte ((x5 ^^^ (0 : Int32)).toInt8.toInt32)), (nar .byte ((x5 ^^^ (1 : Int32)).toInt8.toInt32)), (nar .byte ((x5 ^^^ (2 : Int32)).toInt8.toInt32)), (nar .byte ((x5 ^^^ (3 : Int32)).toInt8.toInt32)), (nar .byte ((x5 ^^^ (4 : Int32)).toInt8.toInt32)), (nar .byte ((x5 ^^^ (5 : Int32)).toInt8.toInt32)), (nar .byte ((x5 ^^^ (6 : Int32)).toInt8.toInt32)), (nar .byte ((x5 ^^^ (7 : Int32)).toInt8.toInt32))] y189 (ys.drop f)) T27.heap M (by decide) (by rw [own_marked_len]; exact (show (3 : Int32).toInt < (8 : Int) from by decide)) (own_final hp hs hf2 hf3 hmk (by decide) (show (3 : Int32).toInt < (8 : Int) from by decide) (own_narB _))) e30 (argsL := [(.ref b18), (.int (3 : Int32)), (.int y4), (.int y10), (.int y16), (.int y22), (.int y189), (.int x5)]) (rest := []) (Ls := #[.val (.int x0), .val (.int x1), .val (.int x2), .val (.int x3), .val (.int x4), .val (.int x5), .val (.int y4), .val (.int y10), .val (.int y16), .val (.int y22), .val (.ref b11), .val (.ref b16), .val (.ref b18), .val (.int y189)]) (hb hby at_278) pd_6 0 (by rw [hml]; rfl) (by decide) rfl rfl rfl (Nat.le_of_eq rfl) (by decide) (by decide) (by decide) (by decide)
              refine own_go (S' := (T31.setTop (mkF m 281 #[.val (.int x0), .val (.int x1), .val (.int x2), .val (.int x3), .val (.int x4), .val (.int x5), .val (.int y4), .val (.int y10), .val (.int y16), .val (.int y22), .val (.ref b11), .val (.ref b16), .val (.ref b18), .val (.int y189)] [(.int (1 : Int32))]))) st31 ?_
              refine own_go (S' := (T31.setTop (mkF m 284 #[.val (.int x0), .val (.int x1), .val (.int x2), .val (.int x3), .val (.int x4), .val (.int x5), .val (.int y4), .val (.int y10), .val (.int y16), .val (.int y22), .val (.ref b11), .val (.ref b16), .val (.ref b18), .val (.int y189)] []))) (fun τ κ => XS.ifNo X31.here hx rfl (hb hby at_281) rfl ((if0 _ _).trans (feq (by decide)).1) κ) ?_
              refine own_go (S' := (T31.setTop (mkF m 286 #[.val (.int x0), .val (.int x1), .val (.int x2), .val (.int x3), .val (.int x4), .val (.int x5), .val (.int y4), .val (.int y10), .val (.int y16), .val (.int y22), .val (.ref b11), .val (.ref b16), .val (.ref b18), .val (.int y189)] [(.ref b18)]))) (fun τ κ => XS.aload X31.here hx rfl (hb hby at_284) rfl rfl κ) ?_
              refine own_go (S' := (T31.setTop (mkF m 287 #[.val (.int x0), .val (.int x1), .val (.int x2), .val (.int x3), .val (.int x4), .val (.int x5), .val (.int y4), .val (.int y10), .val (.int y16), .val (.int y22), .val (.ref b11), .val (.ref b16), .val (.ref b18), .val (.int y189)] [(.int (4 : Int32)), (.ref b18)]))) (fun τ κ => XT.iconstV X31.here hx rfl (4 : Int32) (hb hby at_286) (by decide) κ) ?_
              refine own_go (S' := (T31.setTop (mkF m 289 #[.val (.int x0), .val (.int x1), .val (.int x2), .val (.int x3), .val (.int x4), .val (.int x5), .val (.int y4), .val (.int y10), .val (.int y16), .val (.int y22), .val (.ref b11), .val (.ref b16), .val (.ref b18), .val (.int y189)] [(.int y4), (.int (4 : Int32)), (.ref b18)]))) (fun τ κ => XS.iload X31.here hx rfl (hb hby at_287) rfl κ) ?_
              refine own_go (S' := (T31.setTop (mkF m 291 #[.val (.int x0), .val (.int x1), .val (.int x2), .val (.int x3), .val (.int x4), .val (.int x5), .val (.int y4), .val (.int y10), .val (.int y16), .val (.int y22), .val (.ref b11), .val (.ref b16), .val (.ref b18), .val (.int y189)] [(.int y10), (.int y4), (.int (4 : Int32)), (.ref b18)]))) (fun τ κ => XS.iload X31.here hx rfl (hb hby at_289) rfl κ) ?_
              refine own_go (S' := (T31.setTop (mkF m 293 #[.val (.int x0), .val (.int x1), .val (.int x2), .val (.int x3), .val (.int x4), .val (.int x5), .val (.int y4), .val (.int y10), .val (.int y16), .val (.int y22), .val (.ref b11), .val (.ref b16), .val (.ref b18), .val (.int y189)] [(.int y16), (.int y10), (.int y4), (.int (4 : Int32)), (.ref b18)]))) (fun τ κ => XS.iload X31.here hx rfl (hb hby at_291) rfl κ) ?_
              refine own_go (S' := (T31.setTop (mkF m 295 #[.val (.int x0), .val (.int x1), .val (.int x2), .val (.int x3), .val (.int x4), .val (.int x5), .val (.int y4), .val (.int y10), .val (.int y16), .val (.int y22), .val (.ref b11), .val (.ref b16), .val (.ref b18), .val (.int y189)] [(.int y22), (.int y16), (.int y10), (.int y4), (.int (4 : Int32)), (.ref b18)]))) (fun τ κ => XS.iload X31.here hx rfl (hb hby at_293) rfl κ) ?_
              refine own_go (S' := (T31.setTop (mkF m 297 #[.val (.int x0), .val (.int x1), .val (.int x2), .val (.int x3), .val (.int x4), .val (.int x5), .val (.int y4), .val (.int y10), .val (.int y16), .val (.int y22), .val (.ref b11), .val (.ref b16), .val (.ref b18), .val (.int y189)] [(.int y189), (.int y22), (.int y16), (.int y10), (.int y4), (.int (4 : Int32)), (.ref b18)]))) (fun τ κ => XS.iload X31.here hx rfl (hb hby at_295) rfl κ) ?_
              refine own_go (S' := (T31.setTop (mkF m 299 #[.val (.int x0), .val (.int x1), .val (.int x2), .val (.int x3), .val (.int x4), .val (.int x5), .val (.int y4), .val (.int y10), .val (.int y16), .val (.int y22), .val (.ref b11), .val (.ref b16), .val (.ref b18), .val (.int y189)] [(.int x5), (.int y189), (.int y22), (.int y16), (.int y10), (.int y4), (.int (4 : Int32)), (.ref b18)]))) (fun τ κ => XS.iload X31.here hx rfl (hb hby at_297) rfl κ) ?_
              obtain ⟨T32, X32, e32, st32⟩ := own_callP X31 hx hZ (y := (⟨"com/example/twinhash/twinhash/shingle/ShingleSetMarkPinLaw", "at", "([BIIIIIBI)Z"⟩ : MethodName)) hown (hw _ (List.mem_of_getElem? (i := 38) rfl)) (hw _ (List.mem_of_getElem? (i := 39) rfl)) (hw _ (List.mem_of_getElem? (i := 2) rfl)) (hw _ (List.mem_of_getElem? (i := 40) rfl)) (rm9 l Z a0 hw b18 (4 : Int32) y4 y10 y16 y22 y189 x5 (own_marked [(nar .byte ((x5 ^^^ (0 : Int32)).toInt8.toInt32)), (nar .byte ((x5 ^^^ (1 : Int32)).toInt8.toInt32)), (nar .byte ((x5 ^^^ (2 : Int32)).toInt8.toInt32)), (nar .byte ((x5 ^^^ (3 : Int32)).toInt8.toInt32)), (nar .byte ((x5 ^^^ (4 : Int32)).toInt8.toInt32)), (nar .byte ((x5 ^^^ (5 : Int32)).toInt8.toInt32)), (nar .byte ((x5 ^^^ (6 : Int32)).toInt8.toInt32)), (nar .byte ((x5 ^^^ (7 : Int32)).toInt8.toInt32))] y189 (ys.drop f)) T27.heap M (by decide) (by rw [own_marked_len]; exact (show (4 : Int32).toInt < (8 : Int) from by decide)) (own_final hp hs hf2 hf3 hmk (by decide) (show (4 : Int32).toInt < (8 : Int) from by decide) (own_narB _))) e31 (argsL := [(.ref b18), (.int (4 : Int32)), (.int y4), (.int y10), (.int y16), (.int y22), (.int y189), (.int x5)]) (rest := []) (Ls := #[.val (.int x0), .val (.int x1), .val (.int x2), .val (.int x3), .val (.int x4), .val (.int x5), .val (.int y4), .val (.int y10), .val (.int y16), .val (.int y22), .val (.ref b11), .val (.ref b16), .val (.ref b18), .val (.int y189)]) (hb hby at_299) pd_6 0 (by rw [hml]; rfl) (by decide) rfl rfl rfl (Nat.le_of_eq rfl) (by decide) (by decide) (by decide) (by decide)
              refine own_go (S' := (T32.setTop (mkF m 302 #[.val (.int x0), .val (.int x1), .val (.int x2), .val (.int x3), .val (.int x4), .val (.int x5), .val (.int y4), .val (.int y10), .val (.int y16), .val (.int y22), .val (.ref b11), .val (.ref b16), .val (.ref b18), .val (.int y189)] [(.int (1 : Int32))]))) st32 ?_
              refine own_go (S' := (T32.setTop (mkF m 305 #[.val (.int x0), .val (.int x1), .val (.int x2), .val (.int x3), .val (.int x4), .val (.int x5), .val (.int y4), .val (.int y10), .val (.int y16), .val (.int y22), .val (.ref b11), .val (.ref b16), .val (.ref b18), .val (.int y189)] []))) (fun τ κ => XS.ifNo X32.here hx rfl (hb hby at_302) rfl ((if0 _ _).trans (feq (by decide)).1) κ) ?_
              refine own_go (S' := (T32.setTop (mkF m 307 #[.val (.int x0), .val (.int x1), .val (.int x2), .val (.int x3), .val (.int x4), .val (.int x5), .val (.int y4), .val (.int y10), .val (.int y16), .val (.int y22), .val (.ref b11), .val (.ref b16), .val (.ref b18), .val (.int y189)] [(.ref b18)]))) (fun τ κ => XS.aload X32.here hx rfl (hb hby at_305) rfl rfl κ) ?_
              refine own_go (S' := (T32.setTop (mkF m 308 #[.val (.int x0), .val (.int x1), .val (.int x2), .val (.int x3), .val (.int x4), .val (.int x5), .val (.int y4), .val (.int y10), .val (.int y16), .val (.int y22), .val (.ref b11), .val (.ref b16), .val (.ref b18), .val (.int y189)] [(.int (5 : Int32)), (.ref b18)]))) (fun τ κ => XT.iconstV X32.here hx rfl (5 : Int32) (hb hby at_307) (by decide) κ) ?_
              refine own_go (S' := (T32.setTop (mkF m 310 #[.val (.int x0), .val (.int x1), .val (.int x2), .val (.int x3), .val (.int x4), .val (.int x5), .val (.int y4), .val (.int y10), .val (.int y16), .val (.int y22), .val (.ref b11), .val (.ref b16), .val (.ref b18), .val (.int y189)] [(.int y4), (.int (5 : Int32)), (.ref b18)]))) (fun τ κ => XS.iload X32.here hx rfl (hb hby at_308) rfl κ) ?_
              refine own_go (S' := (T32.setTop (mkF m 312 #[.val (.int x0), .val (.int x1), .val (.int x2), .val (.int x3), .val (.int x4), .val (.int x5), .val (.int y4), .val (.int y10), .val (.int y16), .val (.int y22), .val (.ref b11), .val (.ref b16), .val (.ref b18), .val (.int y189)] [(.int y10), (.int y4), (.int (5 : Int32)), (.ref b18)]))) (fun τ κ => XS.iload X32.here hx rfl (hb hby at_310) rfl κ) ?_
              refine own_go (S' := (T32.setTop (mkF m 314 #[.val (.int x0), .val (.int x1), .val (.int x2), .val (.int x3), .val (.int x4), .val (.int x5), .val (.int y4), .val (.int y10), .val (.int y16), .val (.int y22), .val (.ref b11), .val (.ref b16), .val (.ref b18), .val (.int y189)] [(.int y16), (.int y10), (.int y4), (.int (5 : Int32)), (.ref b18)]))) (fun τ κ => XS.iload X32.here hx rfl (hb hby at_312) rfl κ) ?_
              refine own_go (S' := (T32.setTop (mkF m 316 #[.val (.int x0), .val (.int x1), .val (.int x2), .val (.int x3), .val (.int x4), .val (.int x5), .val (.int y4), .val (.int y10), .val (.int y16), .val (.int y22), .val (.ref b11), .val (.ref b16), .val (.ref b18), .val (.int y189)] [(.int y22), (.int y16), (.int y10), (.int y4), (.int (5 : Int32)), (.ref b18)]))) (fun τ κ => XS.iload X32.here hx rfl (hb hby at_314) rfl κ) ?_
              refine own_go (S' := (T32.setTop (mkF m 318 #[.val (.int x0), .val (.int x1), .val (.int x2), .val (.int x3), .val (.int x4), .val (.int x5), .val (.int y4), .val (.int y10), .val (.int y16), .val (.int y22), .val (.ref b11), .val (.ref b16), .val (.ref b18), .val (.int y189)] [(.int y189), (.int y22), (.int y16), (.int y10), (.int y4), (.int (5 : Int32)), (.ref b18)]))) (fun τ κ => XS.iload X32.here hx rfl (hb hby at_316) rfl κ) ?_
              refine own_go (S' := (T32.setTop (mkF m 320 #[.val (.int x0), .val (.int x1), .val (.int x2), .val (.int x3), .val (.int x4), .val (.int x5), .val (.int y4), .val (.int y10), .val (.int y16), .val (.int y22), .val (.ref b11), .val (.ref b16), .val (.ref b18), .val (.int y189)] [(.int x5), (.int y189), (.int y22), (.int y16), (.int y10), (.int y4), (.int (5 : Int32)), (.ref b18)]))) (fun τ κ => XS.iload X32.here hx rfl (hb hby at_318) rfl κ) ?_
              obtain ⟨T33, X33, e33, st33⟩ := own_callP X32 hx hZ (y := (⟨"com/example/twinhash/twinhash/shingle/ShingleSetMarkPinLaw", "at", "([BIIIIIBI)Z"⟩ : MethodName)) hown (hw _ (List.mem_of_getElem? (i := 38) rfl)) (hw _ (List.mem_of_getElem? (i := 39) rfl)) (hw _ (List.mem_of_getElem? (i := 2) rfl)) (hw _ (List.mem_of_getElem? (i := 40) rfl)) (rm9 l Z a0 hw b18 (5 : Int32) y4 y10 y16 y22 y189 x5 (own_marked [(nar .byte ((x5 ^^^ (0 : Int32)).toInt8.toInt32)), (nar .byte ((x5 ^^^ (1 : Int32)).toInt8.toInt32)), (nar .byte ((x5 ^^^ (2 : Int32)).toInt8.toInt32)), (nar .byte ((x5 ^^^ (3 : Int32)).toInt8.toInt32)), (nar .byte ((x5 ^^^ (4 : Int32)).toInt8.toInt32)), (nar .byte ((x5 ^^^ (5 : Int32)).toInt8.toInt32)), (nar .byte ((x5 ^^^ (6 : Int32)).toInt8.toInt32)), (nar .byte ((x5 ^^^ (7 : Int32)).toInt8.toInt32))] y189 (ys.drop f)) T27.heap M (by decide) (by rw [own_marked_len]; exact (show (5 : Int32).toInt < (8 : Int) from by decide)) (own_final hp hs hf2 hf3 hmk (by decide) (show (5 : Int32).toInt < (8 : Int) from by decide) (own_narB _))) e32 (argsL := [(.ref b18), (.int (5 : Int32)), (.int y4), (.int y10), (.int y16), (.int y22), (.int y189), (.int x5)]) (rest := []) (Ls := #[.val (.int x0), .val (.int x1), .val (.int x2), .val (.int x3), .val (.int x4), .val (.int x5), .val (.int y4), .val (.int y10), .val (.int y16), .val (.int y22), .val (.ref b11), .val (.ref b16), .val (.ref b18), .val (.int y189)]) (hb hby at_320) pd_6 0 (by rw [hml]; rfl) (by decide) rfl rfl rfl (Nat.le_of_eq rfl) (by decide) (by decide) (by decide) (by decide)
              refine own_go (S' := (T33.setTop (mkF m 323 #[.val (.int x0), .val (.int x1), .val (.int x2), .val (.int x3), .val (.int x4), .val (.int x5), .val (.int y4), .val (.int y10), .val (.int y16), .val (.int y22), .val (.ref b11), .val (.ref b16), .val (.ref b18), .val (.int y189)] [(.int (1 : Int32))]))) st33 ?_
              refine own_go (S' := (T33.setTop (mkF m 326 #[.val (.int x0), .val (.int x1), .val (.int x2), .val (.int x3), .val (.int x4), .val (.int x5), .val (.int y4), .val (.int y10), .val (.int y16), .val (.int y22), .val (.ref b11), .val (.ref b16), .val (.ref b18), .val (.int y189)] []))) (fun τ κ => XS.ifNo X33.here hx rfl (hb hby at_323) rfl ((if0 _ _).trans (feq (by decide)).1) κ) ?_
              refine own_go (S' := (T33.setTop (mkF m 328 #[.val (.int x0), .val (.int x1), .val (.int x2), .val (.int x3), .val (.int x4), .val (.int x5), .val (.int y4), .val (.int y10), .val (.int y16), .val (.int y22), .val (.ref b11), .val (.ref b16), .val (.ref b18), .val (.int y189)] [(.ref b18)]))) (fun τ κ => XS.aload X33.here hx rfl (hb hby at_326) rfl rfl κ) ?_
              refine own_go (S' := (T33.setTop (mkF m 330 #[.val (.int x0), .val (.int x1), .val (.int x2), .val (.int x3), .val (.int x4), .val (.int x5), .val (.int y4), .val (.int y10), .val (.int y16), .val (.int y22), .val (.ref b11), .val (.ref b16), .val (.ref b18), .val (.int y189)] [(.int (6 : Int32)), (.ref b18)]))) (fun τ κ => XT.bipushV X33.here hx rfl (6 : Int32) (hb hby at_328) (by decide) κ) ?_
              refine own_go (S' := (T33.setTop (mkF m 332 #[.val (.int x0), .val (.int x1), .val (.int x2), .val (.int x3), .val (.int x4), .val (.int x5), .val (.int y4), .val (.int y10), .val (.int y16), .val (.int y22), .val (.ref b11), .val (.ref b16), .val (.ref b18), .val (.int y189)] [(.int y4), (.int (6 : Int32)), (.ref b18)]))) (fun τ κ => XS.iload X33.here hx rfl (hb hby at_330) rfl κ) ?_
              refine own_go (S' := (T33.setTop (mkF m 334 #[.val (.int x0), .val (.int x1), .val (.int x2), .val (.int x3), .val (.int x4), .val (.int x5), .val (.int y4), .val (.int y10), .val (.int y16), .val (.int y22), .val (.ref b11), .val (.ref b16), .val (.ref b18), .val (.int y189)] [(.int y10), (.int y4), (.int (6 : Int32)), (.ref b18)]))) (fun τ κ => XS.iload X33.here hx rfl (hb hby at_332) rfl κ) ?_
              refine own_go (S' := (T33.setTop (mkF m 336 #[.val (.int x0), .val (.int x1), .val (.int x2), .val (.int x3), .val (.int x4), .val (.int x5), .val (.int y4), .val (.int y10), .val (.int y16), .val (.int y22), .val (.ref b11), .val (.ref b16), .val (.ref b18), .val (.int y189)] [(.int y16), (.int y10), (.int y4), (.int (6 : Int32)), (.ref b18)]))) (fun τ κ => XS.iload X33.here hx rfl (hb hby at_334) rfl κ) ?_
              refine own_go (S' := (T33.setTop (mkF m 338 #[.val (.int x0), .val (.int x1), .val (.int x2), .val (.int x3), .val (.int x4), .val (.int x5), .val (.int y4), .val (.int y10), .val (.int y16), .val (.int y22), .val (.ref b11), .val (.ref b16), .val (.ref b18), .val (.int y189)] [(.int y22), (.int y16), (.int y10), (.int y4), (.int (6 : Int32)), (.ref b18)]))) (fun τ κ => XS.iload X33.here hx rfl (hb hby at_336) rfl κ) ?_
              refine own_go (S' := (T33.setTop (mkF m 340 #[.val (.int x0), .val (.int x1), .val (.int x2), .val (.int x3), .val (.int x4), .val (.int x5), .val (.int y4), .val (.int y10), .val (.int y16), .val (.int y22), .val (.ref b11), .val (.ref b16), .val (.ref b18), .val (.int y189)] [(.int y189), (.int y22), (.int y16), (.int y10), (.int y4), (.int (6 : Int32)), (.ref b18)]))) (fun τ κ => XS.iload X33.here hx rfl (hb hby at_338) rfl κ) ?_
              refine own_go (S' := (T33.setTop (mkF m 342 #[.val (.int x0), .val (.int x1), .val (.int x2), .val (.int x3), .val (.int x4), .val (.int x5), .val (.int y4), .val (.int y10), .val (.int y16), .val (.int y22), .val (.ref b11), .val (.ref b16), .val (.ref b18), .val (.int y189)] [(.int x5), (.int y189), (.int y22), (.int y16), (.int y10), (.int y4), (.int (6 : Int32)), (.ref b18)]))) (fun τ κ => XS.iload X33.here hx rfl (hb hby at_340) rfl κ) ?_
              obtain ⟨T34, X34, e34, st34⟩ := own_callP X33 hx hZ (y := (⟨"com/example/twinhash/twinhash/shingle/ShingleSetMarkPinLaw", "at", "([BIIIIIBI)Z"⟩ : MethodName)) hown (hw _ (List.mem_of_getElem? (i := 38) rfl)) (hw _ (List.mem_of_getElem? (i := 39) rfl)) (hw _ (List.mem_of_getElem? (i := 2) rfl)) (hw _ (List.mem_of_getElem? (i := 40) rfl)) (rm9 l Z a0 hw b18 (6 : Int32) y4 y10 y16 y22 y189 x5 (own_marked [(nar .byte ((x5 ^^^ (0 : Int32)).toInt8.toInt32)), (nar .byte ((x5 ^^^ (1 : Int32)).toInt8.toInt32)), (nar .byte ((x5 ^^^ (2 : Int32)).toInt8.toInt32)), (nar .byte ((x5 ^^^ (3 : Int32)).toInt8.toInt32)), (nar .byte ((x5 ^^^ (4 : Int32)).toInt8.toInt32)), (nar .byte ((x5 ^^^ (5 : Int32)).toInt8.toInt32)), (nar .byte ((x5 ^^^ (6 : Int32)).toInt8.toInt32)), (nar .byte ((x5 ^^^ (7 : Int32)).toInt8.toInt32))] y189 (ys.drop f)) T27.heap M (by decide) (by rw [own_marked_len]; exact (show (6 : Int32).toInt < (8 : Int) from by decide)) (own_final hp hs hf2 hf3 hmk (by decide) (show (6 : Int32).toInt < (8 : Int) from by decide) (own_narB _))) e33 (argsL := [(.ref b18), (.int (6 : Int32)), (.int y4), (.int y10), (.int y16), (.int y22), (.int y189), (.int x5)]) (rest := []) (Ls := #[.val (.int x0), .val (.int x1), .val (.int x2), .val (.int x3), .val (.int x4), .val (.int x5), .val (.int y4), .val (.int y10), .val (.int y16), .val (.int y22), .val (.ref b11), .val (.ref b16), .val (.ref b18), .val (.int y189)]) (hb hby at_342) pd_6 0 (by rw [hml]; rfl) (by decide) rfl rfl rfl (Nat.le_of_eq rfl) (by decide) (by decide) (by decide) (by decide)
              refine own_go (S' := (T34.setTop (mkF m 345 #[.val (.int x0), .val (.int x1), .val (.int x2), .val (.int x3), .val (.int x4), .val (.int x5), .val (.int y4), .val (.int y10), .val (.int y16), .val (.int y22), .val (.ref b11), .val (.ref b16), .val (.ref b18), .val (.int y189)] [(.int (1 : Int32))]))) st34 ?_
              refine own_go (S' := (T34.setTop (mkF m 348 #[.val (.int x0), .val (.int x1), .val (.int x2), .val (.int x3), .val (.int x4), .val (.int x5), .val (.int y4), .val (.int y10), .val (.int y16), .val (.int y22), .val (.ref b11), .val (.ref b16), .val (.ref b18), .val (.int y189)] []))) (fun τ κ => XS.ifNo X34.here hx rfl (hb hby at_345) rfl ((if0 _ _).trans (feq (by decide)).1) κ) ?_
              refine own_go (S' := (T34.setTop (mkF m 350 #[.val (.int x0), .val (.int x1), .val (.int x2), .val (.int x3), .val (.int x4), .val (.int x5), .val (.int y4), .val (.int y10), .val (.int y16), .val (.int y22), .val (.ref b11), .val (.ref b16), .val (.ref b18), .val (.int y189)] [(.ref b18)]))) (fun τ κ => XS.aload X34.here hx rfl (hb hby at_348) rfl rfl κ) ?_
              refine own_go (S' := (T34.setTop (mkF m 352 #[.val (.int x0), .val (.int x1), .val (.int x2), .val (.int x3), .val (.int x4), .val (.int x5), .val (.int y4), .val (.int y10), .val (.int y16), .val (.int y22), .val (.ref b11), .val (.ref b16), .val (.ref b18), .val (.int y189)] [(.int (7 : Int32)), (.ref b18)]))) (fun τ κ => XT.bipushV X34.here hx rfl (7 : Int32) (hb hby at_350) (by decide) κ) ?_
              refine own_go (S' := (T34.setTop (mkF m 354 #[.val (.int x0), .val (.int x1), .val (.int x2), .val (.int x3), .val (.int x4), .val (.int x5), .val (.int y4), .val (.int y10), .val (.int y16), .val (.int y22), .val (.ref b11), .val (.ref b16), .val (.ref b18), .val (.int y189)] [(.int y4), (.int (7 : Int32)), (.ref b18)]))) (fun τ κ => XS.iload X34.here hx rfl (hb hby at_352) rfl κ) ?_
              refine own_go (S' := (T34.setTop (mkF m 356 #[.val (.int x0), .val (.int x1), .val (.int x2), .val (.int x3), .val (.int x4), .val (.int x5), .val (.int y4), .val (.int y10), .val (.int y16), .val (.int y22), .val (.ref b11), .val (.ref b16), .val (.ref b18), .val (.int y189)] [(.int y10), (.int y4), (.int (7 : Int32)), (.ref b18)]))) (fun τ κ => XS.iload X34.here hx rfl (hb hby at_354) rfl κ) ?_
              refine own_go (S' := (T34.setTop (mkF m 358 #[.val (.int x0), .val (.int x1), .val (.int x2), .val (.int x3), .val (.int x4), .val (.int x5), .val (.int y4), .val (.int y10), .val (.int y16), .val (.int y22), .val (.ref b11), .val (.ref b16), .val (.ref b18), .val (.int y189)] [(.int y16), (.int y10), (.int y4), (.int (7 : Int32)), (.ref b18)]))) (fun τ κ => XS.iload X34.here hx rfl (hb hby at_356) rfl κ) ?_
              refine own_go (S' := (T34.setTop (mkF m 360 #[.val (.int x0), .val (.int x1), .val (.int x2), .val (.int x3), .val (.int x4), .val (.int x5), .val (.int y4), .val (.int y10), .val (.int y16), .val (.int y22), .val (.ref b11), .val (.ref b16), .val (.ref b18), .val (.int y189)] [(.int y22), (.int y16), (.int y10), (.int y4), (.int (7 : Int32)), (.ref b18)]))) (fun τ κ => XS.iload X34.here hx rfl (hb hby at_358) rfl κ) ?_
              refine own_go (S' := (T34.setTop (mkF m 362 #[.val (.int x0), .val (.int x1), .val (.int x2), .val (.int x3), .val (.int x4), .val (.int x5), .val (.int y4), .val (.int y10), .val (.int y16), .val (.int y22), .val (.ref b11), .val (.ref b16), .val (.ref b18), .val (.int y189)] [(.int y189), (.int y22), (.int y16), (.int y10), (.int y4), (.int (7 : Int32)), (.ref b18)]))) (fun τ κ => XS.iload X34.here hx rfl (hb hby at_360) rfl κ) ?_
              refine own_go (S' := (T34.setTop (mkF m 364 #[.val (.int x0), .val (.int x1), .val (.int x2), .val (.int x3), .val (.int x4), .val (.int x5), .val (.int y4), .val (.int y10), .val (.int y16), .val (.int y22), .val (.ref b11), .val (.ref b16), .val (.ref b18), .val (.int y189)] [(.int x5), (.int y189), (.int y22), (.int y16), (.int y10), (.int y4), (.int (7 : Int32)), (.ref b18)]))) (fun τ κ => XS.iload X34.here hx rfl (hb hby at_362) rfl κ) ?_
              obtain ⟨T35, X35, e35, st35⟩ := own_callP X34 hx hZ (y := (⟨"com/example/twinhash/twinhash/shingle/ShingleSetMarkPinLaw", "at", "([BIIIIIBI)Z"⟩ : MethodName)) hown (hw _ (List.mem_of_getElem? (i := 38) rfl)) (hw _ (List.mem_of_getElem? (i := 39) rfl)) (hw _ (List.mem_of_getElem? (i := 2) rfl)) (hw _ (List.mem_of_getElem? (i := 40) rfl)) (rm9 l Z a0 hw b18 (7 : Int32) y4 y10 y16 y22 y189 x5 (own_marked [(nar .byte ((x5 ^^^ (0 : Int32)).toInt8.toInt32)), (nar .byte ((x5 ^^^ (1 : Int32)).toInt8.toInt32)), (nar .byte ((x5 ^^^ (2 : Int32)).toInt8.toInt32)), (nar .byte ((x5 ^^^ (3 : Int32)).toInt8.toInt32)), (nar .byte ((x5 ^^^ (4 : Int32)).toInt8.toInt32)), (nar .byte ((x5 ^^^ (5 : Int32)).toInt8.toInt32)), (nar .byte ((x5 ^^^ (6 : Int32)).toInt8.toInt32)), (nar .byte ((x5 ^^^ (7 : Int32)).toInt8.toInt32))] y189 (ys.drop f)) T27.heap M (by decide) (by rw [own_marked_len]; exact (show (7 : Int32).toInt < (8 : Int) from by decide)) (own_final hp hs hf2 hf3 hmk (by decide) (show (7 : Int32).toInt < (8 : Int) from by decide) (own_narB _))) e34 (argsL := [(.ref b18), (.int (7 : Int32)), (.int y4), (.int y10), (.int y16), (.int y22), (.int y189), (.int x5)]) (rest := []) (Ls := #[.val (.int x0), .val (.int x1), .val (.int x2), .val (.int x3), .val (.int x4), .val (.int x5), .val (.int y4), .val (.int y10), .val (.int y16), .val (.int y22), .val (.ref b11), .val (.ref b16), .val (.ref b18), .val (.int y189)]) (hb hby at_364) pd_6 0 (by rw [hml]; rfl) (by decide) rfl rfl rfl (Nat.le_of_eq rfl) (by decide) (by decide) (by decide) (by decide)
              refine own_go (S' := (T35.setTop (mkF m 367 #[.val (.int x0), .val (.int x1), .val (.int x2), .val (.int x3), .val (.int x4), .val (.int x5), .val (.int y4), .val (.int y10), .val (.int y16), .val (.int y22), .val (.ref b11), .val (.ref b16), .val (.ref b18), .val (.int y189)] [(.int (1 : Int32))]))) st35 ?_
              refine own_go (S' := (T35.setTop (mkF m 370 #[.val (.int x0), .val (.int x1), .val (.int x2), .val (.int x3), .val (.int x4), .val (.int x5), .val (.int y4), .val (.int y10), .val (.int y16), .val (.int y22), .val (.ref b11), .val (.ref b16), .val (.ref b18), .val (.int y189)] []))) (fun τ κ => XS.ifNo X35.here hx rfl (hb hby at_367) rfl ((if0 _ _).trans (feq (by decide)).1) κ) ?_
              refine own_go (S' := (T35.setTop (mkF m 371 #[.val (.int x0), .val (.int x1), .val (.int x2), .val (.int x3), .val (.int x4), .val (.int x5), .val (.int y4), .val (.int y10), .val (.int y16), .val (.int y22), .val (.ref b11), .val (.ref b16), .val (.ref b18), .val (.int y189)] [(.int (1 : Int32))]))) (fun τ κ => XT.iconstV X35.here hx rfl (1 : Int32) (hb hby at_370) (by decide) κ) ?_
              refine own_go (S' := (T35.setTop (mkF m 375 #[.val (.int x0), .val (.int x1), .val (.int x2), .val (.int x3), .val (.int x4), .val (.int x5), .val (.int y4), .val (.int y10), .val (.int y16), .val (.int y22), .val (.ref b11), .val (.ref b16), .val (.ref b18), .val (.int y189)] [(.int (1 : Int32))]))) (fun τ κ => XS.goto X35.here hx rfl (pc0 := 371) (pc' := 375) rfl (hb hby at_371) (by decide) (by decide) κ) ?_
              exact own_retN X35 hx hret hlk (by simp) (hb hby at_375) (by first | rfl | decide) (by decide) (by decide) ⟨rfl, N27⟩
set_option maxRecDepth 65536 in
set_option maxHeartbeats 40000000 in
theorem comes_1 {Post : Tables → Env → Array Value → State → Outcome → State → Prop} (hpost : ∀ tb e args s v u, (limb_1_1.after args s (.returned v) u = true ∧ limb_1_2.after args s (.returned v) u = true) → FrameEnd s (.returned v) u (Jvm.fieldLocs frame_1_writes args s ++ Jvm.arrayLocs frame_1_arrays args s ++ Jvm.staticLocs frame_1_statics s) 16 128 → Post tb e args s (.returned v) u) :
    ArmFor flags0 classFile x code maxLocals ret World_1 tables_1 room_1 Calls_1 rest_1 Pre_1 Post := by
  intro l hfl _ _ p e ha hc hk s m args below hf hA hF happ hP
  obtain ⟨hcalls, hrest, hpre⟩ := hP
  obtain ⟨-, -, -, hnamed, -, -, -, hat⟩ := (Spec.applies_iff hf).mp happ
  obtain ⟨hg, hn⟩ := and_e (Cond.before_iff.mp (show (Jvm.Cond.and given_1 narrow_1).before args s = true from hpre))
  obtain ⟨hga, hgb⟩ := and_e hg
  obtain ⟨hgba, hgbb⟩ := and_e hgb
  obtain ⟨hgbba, hgbbb⟩ := and_e hgbb
  obtain ⟨hgbbba, hgbbbb⟩ := and_e hgbbb
  obtain ⟨hgbbbba, hgbbbbb⟩ := and_e hgbbbb
  obtain ⟨hgbbbbba, hgbbbbbb⟩ := and_e hgbbbbb
  obtain ⟨w0, w1, w2, w3, w4, w5, rfl⟩ : ∃ w0 w1 w2 w3 w4 w5 : Value, args = #[w0, w1, w2, w3, w4, w5] := by
    have hs : args.size = 6 := by simpa [Cond.value, given_1] using hga
    obtain ⟨L⟩ := args
    match L, hs with
    | [w0, w1, w2, w3, w4, w5], _ => exact ⟨w0, w1, w2, w3, w4, w5, rfl⟩
  have hw := fun d (hd : d ∈ tables_1) => atoms_spec (ws := Jvm.Cond.code x code maxLocals ret :: tables_1) hat d (List.mem_cons_of_mem _ hd)
  obtain ⟨i0, ei0⟩ := is_v hgba
  obtain rfl : w0 = (.int i0) := Option.some.inj ei0
  obtain ⟨i1, ei1⟩ := is_v hgbba
  obtain rfl : w1 = (.int i1) := Option.some.inj ei1
  obtain ⟨i2, ei2⟩ := is_v hgbbba
  obtain rfl : w2 = (.int i2) := Option.some.inj ei2
  obtain ⟨i3, ei3⟩ := is_v hgbbbba
  obtain rfl : w3 = (.int i3) := Option.some.inj ei3
  obtain ⟨i4, ei4⟩ := is_v hgbbbbba
  obtain rfl : w4 = (.int i4) := Option.some.inj ei4
  obtain ⟨i5, ei5⟩ := is_v hgbbbbbb
  obtain rfl : w5 = (.int i5) := Option.some.inj ei5
  obtain ⟨n, o, h1, h2, h3, _, L, rfl, ⟨rfl, N⟩, hq⟩ := rm0 l s _ hw tables_1 i0 i1 i2 i3 i4 i5 s.heap s.heap.size (Nat.le_refl _) p e ha hc hk s m _ below hf ((Spec.applies_iff_loose hf).mp happ).1 ⟨rfl, State.Warmed39.refl s, rfl⟩ trivial
  refine ⟨n, _, h1, h2, h3, hpost _ _ _ _ _ _ ⟨Cond.after_iff.mpr rfl, Cond.after_iff.mpr (eq_i res_at (Term.int_eval (1)) rfl)⟩ ⟨hq.1, hq.2.1, (hq.2.2.sift fun y hy => Or.inr (N y hy)).mono (by decide) (by decide)⟩⟩
theorem main_1_1 : Claimed_1_1 := comes_1 fun _ _ _ _ _ _ h hF => ⟨h.1, hF⟩
theorem main_1_2 : Claimed_1_2 := comes_1 fun _ _ _ _ _ _ h hF => ⟨h.2, hF⟩
end Jvm.Pilot.@@N@@
namespace Jvm.Pilot.@@N@@
open Jvm Jvm.ClassFile Sem Op Lib Jvm.Free Jvm.Stand Jvm.Pilot.@@N@@.Jvm.D
/-! MADE BY PROGRAM (witnessworld.py) out of the Statement's table words and the real class files: 11 classes; the members and pool entries that the words name. The judged class is class 1, her method 3. -/
namespace start1
open Jvm.ClassFile
def u (s : String) : CpInfo := .utf8 (stringToUtf16 s)
/-- a pool by its gaps: so many unusable entries, then the entry; so many at the end -/
def gap : Nat → List CpInfo → List CpInfo
  | 0, r => r
  | n + 1, r => .unusable :: gap n r
def poolList (es : List (Nat × CpInfo)) (last : Nat) : List CpInfo := es.foldr (fun e r => gap e.1 (e.2 :: r)) (gap last [])
def pool (es : List (Nat × CpInfo)) (last : Nat) : Array CpInfo := ⟨poolList es last⟩
def fileOf (pool : Array CpInfo) (this : Nat) (attrs : Array Attribute := #[]) (ms : Array MethodInfo := #[]) (fl : Nat := 33) (sup : Nat := 0) (ifs : Array Nat := #[]) (fds : Array FieldInfo := #[]) : ClassFile where
  minorVersion := 0
  majorVersion := 65
  constantPool := pool
  accessFlags := fl
  thisClass := this
  superClass := sup
  interfaces := ifs
  fields := fds
  methods := ms
  attributes := attrs
def plain (name : String) (sup : Option ClassId) : Class where
  name := name
  kind := .ordinary
  loader := none
  accessFlags := 33
  super := sup
  interfaces := #[]
  cf := none
  fields := #[]
  methods := #[]
  instanceTypes := #[]
  staticTypes := #[]
  resolved := #[]
  callSites := []
  init := .initialized
  statics := none
  mirror := none

def pool0 : Array CpInfo := pool [(5, u "<init>"), (0, u "()V"), (1, .class_ 10), (1, u "java/lang/Object")] 113

def k0c0 : Code := { maxStack := 0, maxLocals := 1, code := object_method_1_code, exceptionTable := #[], attributes := #[] }
def k0m0 : Method := { name := "<init>", desc := "()V", sig := { parameters := [], returnType := none }, accessFlags := 1, code := some k0c0 }
/-- java/lang/Object -/
def k0 : Class := { plain "java/lang/Object" none with
  accessFlags := 33
  interfaces := #[]
  cf := some (fileOf pool0 8 #[] #[{ accessFlags := 1, nameIndex := 5, descriptorIndex := 6, attributes := #[] }] 33 0 #[] #[])
  fields := #[]
  methods := #[k0m0]
  instanceTypes := #[]
  staticTypes := #[]
  resolved := Array.replicate 124 none
  statics := none }

def pool1 : Array CpInfo := pool [(2, .class_ 4), (1, u "java/lang/Object"), (0, u "<init>"), (0, u "()V"), (0, .methodref 8 9), (0, .class_ 10), (0, .nameAndType 11 12), (0, u "com/example/twinhash/twinhash/shingle/ShingleSetMarkPinLaw"), (0, u "code"), (0, u "(I)I"), (0, .class_ 14), (0, u "com/example/twinhash/twinhash/shingle/ShingleSet"), (0, .methodref 13 16), (0, .nameAndType 5 17), (0, u "([I)V"), (0, .methodref 13 19), (0, .nameAndType 20 21), (0, u "mark"), (0, u "([BB)V"), (0, .methodref 8 23), (0, .nameAndType 24 25), (0, u "at"), (0, u "([BIIIIIBI)Z"), (3, u "law"), (0, u "(IIIIII)Z")] 6

def k1m0 : Method := { name := "<init>", desc := "()V", sig := { parameters := [], returnType := none }, accessFlags := 1, code := none }
def k1c1 : Code := { maxStack := 2, maxLocals := 1, code := method_2_code, exceptionTable := #[], attributes := #[] }
def k1m1 : Method := { name := "code", desc := "(I)I", sig := { parameters := [.int], returnType := some .int }, accessFlags := 10, code := some k1c1 }
def k1c2 : Code := { maxStack := 2, maxLocals := 9, code := method_3_code, exceptionTable := #[], attributes := #[] }
def k1m2 : Method := { name := "at", desc := "([BIIIIIBI)Z", sig := { parameters := [(.array .byte), .int, .int, .int, .int, .int, .byte, .int], returnType := some .boolean }, accessFlags := 10, code := some k1c2 }
def k1c3 : Code := { maxStack := 8, maxLocals := 14, code := code, exceptionTable := #[], attributes := #[] }
def k1m3 : Method := { name := "law", desc := "(IIIIII)Z", sig := { parameters := [.int, .int, .int, .int, .int, .int], returnType := some .boolean }, accessFlags := 9, code := some k1c3 }
/-- com/example/twinhash/twinhash/shingle/ShingleSetMarkPinLaw -/
def k1 : Class := { plain "com/example/twinhash/twinhash/shingle/ShingleSetMarkPinLaw" (some 0) with
  accessFlags := 49
  interfaces := #[]
  cf := some (fileOf pool1 8 #[] #[{ accessFlags := 1, nameIndex := 5, descriptorIndex := 6, attributes := #[] }, { accessFlags := 10, nameIndex := 11, descriptorIndex := 12, attributes := #[] }, { accessFlags := 10, nameIndex := 24, descriptorIndex := 25, attributes := #[] }, { accessFlags := 9, nameIndex := 29, descriptorIndex := 30, attributes := #[] }] 49 2 #[] #[])
  fields := #[]
  methods := #[k1m0, k1m1, k1m2, k1m3]
  instanceTypes := #[]
  staticTypes := #[]
  resolved := Array.replicate 37 none
  statics := none }

def pool2 : Array CpInfo := pool [(1, .methodref 2 3), (0, .class_ 4), (0, .nameAndType 5 6), (0, u "java/lang/Object"), (0, u "<init>"), (0, u "()V"), (0, .methodref 8 9), (0, .class_ 10), (0, .nameAndType 11 12), (0, u "java/util/Arrays"), (0, u "sort"), (0, u "([I)V"), (0, .fieldref 14 15), (0, .class_ 16), (0, .nameAndType 17 18), (0, u "com/example/twinhash/twinhash/shingle/ShingleSet"), (0, u "codes"), (0, u "[I"), (0, .fieldref 14 20), (0, .nameAndType 21 22), (0, u "firstSeen"), (0, u "I"), (11, u "mark"), (0, u "([BB)V")] 6

def k2c0 : Code := { maxStack := 2, maxLocals := 3, code := prog_29_method_1_code, exceptionTable := #[], attributes := #[] }
def k2m0 : Method := { name := "<init>", desc := "([I)V", sig := { parameters := [(.array .int)], returnType := none }, accessFlags := 0, code := some k2c0 }
def k2c1 : Code := { maxStack := 3, maxLocals := 4, code := prog_29_method_5_code, exceptionTable := #[], attributes := #[] }
def k2m1 : Method := { name := "mark", desc := "([BB)V", sig := { parameters := [(.array .byte), .byte], returnType := none }, accessFlags := 0, code := some k2c1 }
/-- com/example/twinhash/twinhash/shingle/ShingleSet -/
def k2 : Class := { plain "com/example/twinhash/twinhash/shingle/ShingleSet" (some 0) with
  accessFlags := 33
  interfaces := #[]
  cf := some (fileOf pool2 14 #[] #[{ accessFlags := 0, nameIndex := 5, descriptorIndex := 12, attributes := #[] }, { accessFlags := 0, nameIndex := 34, descriptorIndex := 35, attributes := #[] }] 33 2 #[] #[{ accessFlags := 18, nameIndex := 17, descriptorIndex := 18, attributes := #[] }, { accessFlags := 18, nameIndex := 21, descriptorIndex := 22, attributes := #[] }])
  fields := #[{ name := "codes", type := (.array .int), accessFlags := 18, slot := 0, constantValue := 0 }, { name := "firstSeen", type := .int, accessFlags := 18, slot := 1, constantValue := 0 }]
  methods := #[k2m0, k2m1]
  instanceTypes := #[(.array .int), .int]
  staticTypes := #[]
  resolved := Array.replicate 42 none
  statics := none }

def pool3 : Array CpInfo := pool [(2, .class_ 4), (1, u "java/lang/Object"), (0, u "<init>"), (0, u "()V"), (0, .methodref 8 9), (0, .class_ 10), (0, .nameAndType 11 12), (0, u "java/util/DualPivotQuicksort"), (0, u "sort"), (0, u "([IIII)V"), (1, .class_ 16), (1, u "java/util/Arrays"), (57, .class_ 76), (1, u "java/util/Arrays$NaturalOrder"), (36, .class_ 115), (1, u "java/util/Arrays$LegacyMergeSort"), (1, u "Z"), (257, .class_ 376), (0, u "java/util/Arrays$ArrayList"), (68, u "$assertionsDisabled"), (269, u "MIN_ARRAY_SORT_GRAN"), (0, u "I"), (2, u "INSERTIONSORT_THRESHOLD"), (6, u "([I)V"), (248, .class_ 976), (0, u "java/util/Arrays$ArrayItr")] 52

def k3m0 : Method := { name := "<init>", desc := "()V", sig := { parameters := [], returnType := none }, accessFlags := 2, code := none }
def k3c1 : Code := { maxStack := 4, maxLocals := 1, code := jdk_65_method_2_code, exceptionTable := #[], attributes := #[] }
def k3m1 : Method := { name := "sort", desc := "([I)V", sig := { parameters := [(.array .int)], returnType := none }, accessFlags := 9, code := some k3c1 }
/-- java/util/Arrays -/
def k3 : Class := { plain "java/util/Arrays" (some 0) with
  accessFlags := 49
  interfaces := #[]
  cf := some (fileOf pool3 14 #[.nestMembers #[975, 375, 113, 74]] #[{ accessFlags := 2, nameIndex := 5, descriptorIndex := 6, attributes := #[] }, { accessFlags := 9, nameIndex := 11, descriptorIndex := 726, attributes := #[] }] 49 2 #[] #[{ accessFlags := 26, nameIndex := 715, descriptorIndex := 716, attributes := #[] }, { accessFlags := 26, nameIndex := 719, descriptorIndex := 716, attributes := #[] }, { accessFlags := 4120, nameIndex := 445, descriptorIndex := 117, attributes := #[] }])
  fields := #[{ name := "MIN_ARRAY_SORT_GRAN", type := .int, accessFlags := 26, slot := 0, constantValue := 0 }, { name := "INSERTIONSORT_THRESHOLD", type := .int, accessFlags := 26, slot := 1, constantValue := 0 }, { name := "$assertionsDisabled", type := .boolean, accessFlags := 4120, slot := 2, constantValue := 0 }]
  methods := #[k3m0, k3m1]
  instanceTypes := #[]
  staticTypes := #[.int, .int, .boolean]
  resolved := Array.replicate 1029 none
  statics := none }

def pool4 : Array CpInfo := pool [(1, .class_ 2), (0, u "java/util/DualPivotQuicksort"), (5, .class_ 10), (1, u "java/lang/Object"), (0, u "<init>"), (0, u "()V"), (4, .class_ 18), (0, u "java/util/DualPivotQuicksort$Sorter"), (7, .methodref 1 27), (0, .nameAndType 28 29), (0, u "sort"), (0, u "(Ljava/util/DualPivotQuicksort$Sorter;[IIII)V"), (3, u "([IIII)V"), (0, .methodref 1 35), (0, .nameAndType 36 37), (0, u "insertionSort"), (0, u "([III)V"), (30, u "I"), (4, .class_ 74), (0, u "java/util/DualPivotQuicksort$RunMerger"), (10, .class_ 86), (0, u "java/util/DualPivotQuicksort$Merger"), (127, u "MAX_MIXED_INSERTION_SORT_SIZE"), (2, u "MAX_INSERTION_SORT_SIZE"), (1, u "MIN_PARALLEL_SORT_SIZE"), (1, u "MIN_TRY_MERGE_SIZE"), (0, u "MIN_FIRST_RUN_SIZE"), (1, u "MIN_FIRST_RUNS_FACTOR"), (1, u "MAX_RUN_CAPACITY"), (1, u "MIN_RUN_COUNT"), (1, u "MIN_PARALLEL_MERGE_PARTS_SIZE"), (0, u "MIN_BYTE_COUNTING_SORT_SIZE"), (1, u "MIN_SHORT_OR_CHAR_COUNTING_SORT_SIZE"), (1, u "DELTA"), (1, u "MAX_RECURSION_DEPTH"), (1, u "NUM_BYTE_VALUES"), (1, u "MAX_BYTE_INDEX"), (0, u "NUM_CHAR_VALUES"), (0, u "NUM_SHORT_VALUES"), (0, u "MAX_SHORT_INDEX")] 86

def k4m0 : Method := { name := "<init>", desc := "()V", sig := { parameters := [], returnType := none }, accessFlags := 2, code := none }
def k4c1 : Code := { maxStack := 9, maxLocals := 7, code := jdk_2529_method_3_code, exceptionTable := #[], attributes := #[] }
def k4m1 : Method := { name := "sort", desc := "([IIII)V", sig := { parameters := [(.array .int), .int, .int, .int], returnType := none }, accessFlags := 8, code := some k4c1 }
def k4c2 : Code := { maxStack := 6, maxLocals := 21, code := jdk_2529_method_4_code, exceptionTable := #[], attributes := #[] }
def k4m2 : Method := { name := "sort", desc := "(Ljava/util/DualPivotQuicksort$Sorter;[IIII)V", sig := { parameters := [(.object "java/util/DualPivotQuicksort$Sorter"), (.array .int), .int, .int, .int], returnType := none }, accessFlags := 8, code := some k4c2 }
def k4c3 : Code := { maxStack := 4, maxLocals := 6, code := jdk_2529_method_6_code, exceptionTable := #[], attributes := #[] }
def k4m3 : Method := { name := "insertionSort", desc := "([III)V", sig := { parameters := [(.array .int), .int, .int], returnType := none }, accessFlags := 10, code := some k4c3 }
/-- java/util/DualPivotQuicksort -/
def k4 : Class := { plain "java/util/DualPivotQuicksort" (some 0) with
  accessFlags := 48
  interfaces := #[]
  cf := some (fileOf pool4 1 #[.nestMembers #[73, 85, 17]] #[{ accessFlags := 2, nameIndex := 11, descriptorIndex := 12, attributes := #[] }, { accessFlags := 8, nameIndex := 28, descriptorIndex := 33, attributes := #[] }, { accessFlags := 8, nameIndex := 28, descriptorIndex := 29, attributes := #[] }, { accessFlags := 10, nameIndex := 36, descriptorIndex := 37, attributes := #[] }] 48 8 #[] #[{ accessFlags := 26, nameIndex := 214, descriptorIndex := 68, attributes := #[] }, { accessFlags := 26, nameIndex := 217, descriptorIndex := 68, attributes := #[] }, { accessFlags := 26, nameIndex := 219, descriptorIndex := 68, attributes := #[] }, { accessFlags := 26, nameIndex := 221, descriptorIndex := 68, attributes := #[] }, { accessFlags := 26, nameIndex := 222, descriptorIndex := 68, attributes := #[] }, { accessFlags := 26, nameIndex := 224, descriptorIndex := 68, attributes := #[] }, { accessFlags := 26, nameIndex := 226, descriptorIndex := 68, attributes := #[] }, { accessFlags := 26, nameIndex := 228, descriptorIndex := 68, attributes := #[] }, { accessFlags := 26, nameIndex := 230, descriptorIndex := 68, attributes := #[] }, { accessFlags := 26, nameIndex := 231, descriptorIndex := 68, attributes := #[] }, { accessFlags := 26, nameIndex := 233, descriptorIndex := 68, attributes := #[] }, { accessFlags := 26, nameIndex := 235, descriptorIndex := 68, attributes := #[] }, { accessFlags := 26, nameIndex := 237, descriptorIndex := 68, attributes := #[] }, { accessFlags := 26, nameIndex := 239, descriptorIndex := 68, attributes := #[] }, { accessFlags := 26, nameIndex := 241, descriptorIndex := 68, attributes := #[] }, { accessFlags := 26, nameIndex := 242, descriptorIndex := 68, attributes := #[] }, { accessFlags := 26, nameIndex := 243, descriptorIndex := 68, attributes := #[] }, { accessFlags := 26, nameIndex := 244, descriptorIndex := 68, attributes := #[] }])
  fields := #[{ name := "MAX_MIXED_INSERTION_SORT_SIZE", type := .int, accessFlags := 26, slot := 0, constantValue := 0 }, { name := "MAX_INSERTION_SORT_SIZE", type := .int, accessFlags := 26, slot := 1, constantValue := 0 }, { name := "MIN_PARALLEL_SORT_SIZE", type := .int, accessFlags := 26, slot := 2, constantValue := 0 }, { name := "MIN_TRY_MERGE_SIZE", type := .int, accessFlags := 26, slot := 3, constantValue := 0 }, { name := "MIN_FIRST_RUN_SIZE", type := .int, accessFlags := 26, slot := 4, constantValue := 0 }, { name := "MIN_FIRST_RUNS_FACTOR", type := .int, accessFlags := 26, slot := 5, constantValue := 0 }, { name := "MAX_RUN_CAPACITY", type := .int, accessFlags := 26, slot := 6, constantValue := 0 }, { name := "MIN_RUN_COUNT", type := .int, accessFlags := 26, slot := 7, constantValue := 0 }, { name := "MIN_PARALLEL_MERGE_PARTS_SIZE", type := .int, accessFlags := 26, slot := 8, constantValue := 0 }, { name := "MIN_BYTE_COUNTING_SORT_SIZE", type := .int, accessFlags := 26, slot := 9, constantValue := 0 }, { name := "MIN_SHORT_OR_CHAR_COUNTING_SORT_SIZE", type := .int, accessFlags := 26, slot := 10, constantValue := 0 }, { name := "DELTA", type := .int, accessFlags := 26, slot := 11, constantValue := 0 }, { name := "MAX_RECURSION_DEPTH", type := .int, accessFlags := 26, slot := 12, constantValue := 0 }, { name := "NUM_BYTE_VALUES", type := .int, accessFlags := 26, slot := 13, constantValue := 0 }, { name := "MAX_BYTE_INDEX", type := .int, accessFlags := 26, slot := 14, constantValue := 0 }, { name := "NUM_CHAR_VALUES", type := .int, accessFlags := 26, slot := 15, constantValue := 0 }, { name := "NUM_SHORT_VALUES", type := .int, accessFlags := 26, slot := 16, constantValue := 0 }, { name := "MAX_SHORT_INDEX", type := .int, accessFlags := 26, slot := 17, constantValue := 0 }]
  methods := #[k4m0, k4m1, k4m2, k4m3]
  instanceTypes := #[]
  staticTypes := #[.int, .int, .int, .int, .int, .int, .int, .int, .int, .int, .int, .int, .int, .int, .int, .int, .int, .int]
  resolved := Array.replicate 331 none
  statics := none }

def pool5 : Array CpInfo := pool [(1, u "java/lang/Cloneable"), (0, .class_ 1), (0, u "java/lang/Object"), (0, .class_ 3)] 3

/-- java/lang/Cloneable -/
def k5 : Class := { plain "java/lang/Cloneable" (some 0) with
  accessFlags := 1537
  interfaces := #[]
  cf := some (fileOf pool5 2 #[] #[] 1537 4 #[] #[])
  fields := #[]
  methods := #[]
  instanceTypes := #[]
  staticTypes := #[]
  resolved := Array.replicate 8 none
  statics := none }

def pool6 : Array CpInfo := pool [(1, u "java/io/Serializable"), (0, .class_ 1), (0, u "java/lang/Object"), (0, .class_ 3)] 3

/-- java/io/Serializable -/
def k6 : Class := { plain "java/io/Serializable" (some 0) with
  accessFlags := 1537
  interfaces := #[]
  cf := some (fileOf pool6 2 #[] #[] 1537 4 #[] #[])
  fields := #[]
  methods := #[]
  instanceTypes := #[]
  staticTypes := #[]
  resolved := Array.replicate 8 none
  statics := none }

/-- the primitive byte -/
def k7 : Class := { plain "byte" none with kind := .primitive 'B', accessFlags := 0x411 }
/-- [B -/
def k8 : Class := { plain "[B" (some 0) with kind := .array 7 .byte, interfaces := #[5, 6], accessFlags := 1041 }

/-- the primitive int -/
def k9 : Class := { plain "int" none with kind := .primitive 'I', accessFlags := 0x411 }
/-- [I -/
def k10 : Class := { plain "[I" (some 0) with kind := .array 9 .int, interfaces := #[5, 6], accessFlags := 1041 }

def heap : Heap := #[]
def classes : Array Class := #[k0, k1, k2, k3, k4, k5, k6, k7, k8, k9, k10]
def interned : List (Array UInt16 × Addr) := []
def slotsUsed : Nat := 0
def theMethod : MethodId := ⟨1, 3⟩
def args0 : Array Value := #[.int 2, .int 5, .int (-7), .int 9, .int 3, .int 4]
def aboutOver (below : List Frame) : State where
  vm := { classes := classes, interned := interned.toArray }
  heap := heap
  slotsUsed := slotsUsed
  threads := #[{ frames := .invoking theMethod args0 :: below }]
def below0 : List Frame := [.native { method := ⟨0, 0⟩, args := #[] }]
def about1 : State := aboutOver below0
def p0 : Program := .bare "" "" ""
def e0 : Env := launch0.env 0 0 0
theorem w_frames : about1.frames = Frame.invoking theMethod args0 :: below0 := rfl
set_option maxRecDepth 65536 in
theorem w_args : argsFit about1.vm theMethod args0 = true := by decide +kernel
set_option maxRecDepth 65536 in
theorem w_heap : heapFits about1 = true := by decide +kernel
set_option maxRecDepth 65536 in
theorem w_runnable : about1.curStatus? = some .runnable := by decide +kernel
set_option maxRecDepth 65536 in
theorem w_alone : about1.alone = true := by decide +kernel
set_option maxRecDepth 65536 in
theorem w_named : about1.methodNamed? x = some theMethod := by decide +kernel
set_option maxRecDepth 65536 in
theorem w_hears : about1.hears theMethod below0 = true := by decide +kernel
set_option maxRecDepth 65536 in
theorem w_ripe : about1.ripe theMethod args0 below0 = true := by decide +kernel
theorem w_running : about1.status = .running := rfl
set_option maxRecDepth 65536 in
theorem w_room : about1.hasRoom e0.platform room_1 = true :=
  launch0.hasRoom_least _ room_1 (by decide +kernel) (by decide +kernel) (by decide +kernel) (by decide +kernel) (by decide +kernel) (by decide +kernel)
theorem allAtoms_all (ts : List Jvm.Cond) (a : Array Jvm.Value) (st : Jvm.State) : (allAtoms ts).before a st = ts.all (fun c => c.before a st) := by
  induction ts with
  | nil => rfl
  | cons c t ih =>
    show (Jvm.Cond.and c (allAtoms t)).before a st = _
    rw [Jvm.Cond.before_and, ih, List.all_cons]
def words1 : List Jvm.Cond := Jvm.Cond.code x code maxLocals ret :: tables_1
/-- a 'code' word, met by the world's own term for the bytes: nothing is compared byte by byte -/
theorem code_word {y : MethodName} {bytes : ByteArray} {mx : Nat} {rt : Option FieldType} {a : Array Value} {s : State} {m : MethodId} {meth : Method} {c : Code} (h1 : s.methodNamed? y = some m) (h2 : s.vm.method? m = some meth) (h3 : meth.code = some c) (h4 : c.code = bytes)
    (h5 : (c.maxLocals == mx && c.exceptionTable.isEmpty && decide (c.maxStack ≤ mostOperands) && decide (meth.sig.returnType = rt) && !meth.locks && decide (parseMethodDescriptor y.desc = some meth.sig)) = true) : (Jvm.Cond.code y bytes mx rt).before a s = true := by
  simp only [Bool.and_eq_true, beq_iff_eq, Bool.not_eq_true', decide_eq_true_eq] at h5
  obtain ⟨⟨⟨⟨⟨g1, g2⟩, g3⟩, g4⟩, g5⟩, g6⟩ := h5
  simp [Cond.before, Cond.holds, Cond.value, h1, h2, h3, h4, g1, g2, g3, g4, g5, g6]
def isCode : Jvm.Cond → Bool
  | .code _ _ _ _ => true
  | _ => false
theorem all_split {L : List Jvm.Cond} {P : Jvm.Cond → Bool} (h1 : L.all (fun c => isCode c || P c) = true) (h2 : ∀ c ∈ L.filter isCode, P c = true) : L.all P = true := by
  refine List.all_eq_true.mpr fun c hc => ?_
  have h := List.all_eq_true.mp h1 c hc
  rcases Bool.eq_false_or_eq_true (isCode c) with hi | hi
  · exact h2 c (List.mem_filter.mpr ⟨hc, hi⟩)
  · simpa [hi] using h
set_option maxRecDepth 65536 in
theorem w_c0 : (Jvm.Cond.code x code maxLocals ret).before args0 about1 = true := code_word (m := ⟨1, 3⟩) (meth := k1m3) (c := k1c3) (by decide +kernel) rfl rfl rfl (by decide +kernel)
set_option maxRecDepth 65536 in
theorem w_c1 : (Jvm.Cond.code ({ cls := "com/example/twinhash/twinhash/shingle/ShingleSetMarkPinLaw", name := "code", desc := "(I)I" } : Jvm.MethodName) method_2_code (1 : Nat) (Option.some Jvm.ClassFile.FieldType.int)).before args0 about1 = true := code_word (m := ⟨1, 1⟩) (meth := k1m1) (c := k1c1) (by decide +kernel) rfl rfl rfl (by decide +kernel)
set_option maxRecDepth 65536 in
theorem w_c2 : (Jvm.Cond.code ({ cls := "com/example/twinhash/twinhash/shingle/ShingleSet", name := "<init>", desc := "([I)V" } : Jvm.MethodName) prog_29_method_1_code (3 : Nat) (Option.none : Option Jvm.ClassFile.FieldType)).before args0 about1 = true := code_word (m := ⟨2, 0⟩) (meth := k2m0) (c := k2c0) (by decide +kernel) rfl rfl rfl (by decide +kernel)
set_option maxRecDepth 65536 in
theorem w_c3 : (Jvm.Cond.code ({ cls := "java/lang/Object", name := "<init>", desc := "()V" } : Jvm.MethodName) object_method_1_code (1 : Nat) (Option.none : Option Jvm.ClassFile.FieldType)).before args0 about1 = true := code_word (m := ⟨0, 0⟩) (meth := k0m0) (c := k0c0) (by decide +kernel) rfl rfl rfl (by decide +kernel)
set_option maxRecDepth 65536 in
theorem w_c4 : (Jvm.Cond.code ({ cls := "java/util/Arrays", name := "sort", desc := "([I)V" } : Jvm.MethodName) jdk_65_method_2_code (1 : Nat) (Option.none : Option Jvm.ClassFile.FieldType)).before args0 about1 = true := code_word (m := ⟨3, 1⟩) (meth := k3m1) (c := k3c1) (by decide +kernel) rfl rfl rfl (by decide +kernel)
set_option maxRecDepth 65536 in
theorem w_c5 : (Jvm.Cond.code ({ cls := "java/util/DualPivotQuicksort", name := "sort", desc := "([IIII)V" } : Jvm.MethodName) jdk_2529_method_3_code (7 : Nat) (Option.none : Option Jvm.ClassFile.FieldType)).before args0 about1 = true := code_word (m := ⟨4, 1⟩) (meth := k4m1) (c := k4c1) (by decide +kernel) rfl rfl rfl (by decide +kernel)
set_option maxRecDepth 65536 in
theorem w_c6 : (Jvm.Cond.code ({ cls := "java/util/DualPivotQuicksort", name := "sort", desc := "(Ljava/util/DualPivotQuicksort$Sorter;[IIII)V" } : Jvm.MethodName) jdk_2529_method_4_code (21 : Nat) (Option.none : Option Jvm.ClassFile.FieldType)).before args0 about1 = true := code_word (m := ⟨4, 2⟩) (meth := k4m2) (c := k4c2) (by decide +kernel) rfl rfl rfl (by decide +kernel)
set_option maxRecDepth 65536 in
theorem w_c7 : (Jvm.Cond.code ({ cls := "java/util/DualPivotQuicksort", name := "insertionSort", desc := "([III)V" } : Jvm.MethodName) jdk_2529_method_6_code (6 : Nat) (Option.none : Option Jvm.ClassFile.FieldType)).before args0 about1 = true := code_word (m := ⟨4, 3⟩) (meth := k4m3) (c := k4c3) (by decide +kernel) rfl rfl rfl (by decide +kernel)
set_option maxRecDepth 65536 in
theorem w_c8 : (Jvm.Cond.code ({ cls := "com/example/twinhash/twinhash/shingle/ShingleSet", name := "mark", desc := "([BB)V" } : Jvm.MethodName) prog_29_method_5_code (4 : Nat) (Option.none : Option Jvm.ClassFile.FieldType)).before args0 about1 = true := code_word (m := ⟨2, 1⟩) (meth := k2m1) (c := k2c1) (by decide +kernel) rfl rfl rfl (by decide +kernel)
set_option maxRecDepth 65536 in
theorem w_c9 : (Jvm.Cond.code ({ cls := "com/example/twinhash/twinhash/shingle/ShingleSetMarkPinLaw", name := "at", desc := "([BIIIIIBI)Z" } : Jvm.MethodName) method_3_code (9 : Nat) (Option.some Jvm.ClassFile.FieldType.boolean)).before args0 about1 = true := code_word (m := ⟨1, 2⟩) (meth := k1m2) (c := k1c2) (by decide +kernel) rfl rfl rfl (by decide +kernel)
def codes1 : List Jvm.Cond := [Jvm.Cond.code x code maxLocals ret, Jvm.Cond.code ({ cls := "com/example/twinhash/twinhash/shingle/ShingleSetMarkPinLaw", name := "code", desc := "(I)I" } : Jvm.MethodName) method_2_code (1 : Nat) (Option.some Jvm.ClassFile.FieldType.int), Jvm.Cond.code ({ cls := "com/example/twinhash/twinhash/shingle/ShingleSet", name := "<init>", desc := "([I)V" } : Jvm.MethodName) prog_29_method_1_code (3 : Nat) (Option.none : Option Jvm.ClassFile.FieldType), Jvm.Cond.code ({ cls := "java/lang/Object", name := "<init>", desc := "()V" } : Jvm.MethodName) object_method_1_code (1 : Nat) (Option.none : Option Jvm.ClassFile.FieldType), Jvm.Cond.code ({ cls := "java/util/Arrays", name := "sort", desc := "([I)V" } : Jvm.MethodName) jdk_65_method_2_code (1 : Nat) (Option.none : Option Jvm.ClassFile.FieldType), Jvm.Cond.code ({ cls := "java/util/DualPivotQuicksort", name := "sort", desc := "([IIII)V" } : Jvm.MethodName) jdk_2529_method_3_code (7 : Nat) (Option.none : Option Jvm.ClassFile.FieldType), Jvm.Cond.code ({ cls := "java/util/DualPivotQuicksort", name := "sort", desc := "(Ljava/util/DualPivotQuicksort$Sorter;[IIII)V" } : Jvm.MethodName) jdk_2529_method_4_code (21 : Nat) (Option.none : Option Jvm.ClassFile.FieldType), Jvm.Cond.code ({ cls := "java/util/DualPivotQuicksort", name := "insertionSort", desc := "([III)V" } : Jvm.MethodName) jdk_2529_method_6_code (6 : Nat) (Option.none : Option Jvm.ClassFile.FieldType), Jvm.Cond.code ({ cls := "com/example/twinhash/twinhash/shingle/ShingleSet", name := "mark", desc := "([BB)V" } : Jvm.MethodName) prog_29_method_5_code (4 : Nat) (Option.none : Option Jvm.ClassFile.FieldType), Jvm.Cond.code ({ cls := "com/example/twinhash/twinhash/shingle/ShingleSetMarkPinLaw", name := "at", desc := "([BIIIIIBI)Z" } : Jvm.MethodName) method_3_code (9 : Nat) (Option.some Jvm.ClassFile.FieldType.boolean)]
set_option maxRecDepth 65536 in
theorem codes_eq : words1.filter isCode = codes1 := rfl
theorem w_codes : ∀ c ∈ words1.filter isCode, c.before args0 about1 = true := by
  rw [codes_eq]
  intro c hc
  simp only [codes1, List.mem_cons, List.not_mem_nil, or_false] at hc
  rcases hc with rfl | rfl | rfl | rfl | rfl | rfl | rfl | rfl | rfl | rfl
  · exact w_c0
  · exact w_c1
  · exact w_c2
  · exact w_c3
  · exact w_c4
  · exact w_c5
  · exact w_c6
  · exact w_c7
  · exact w_c8
  · exact w_c9
set_option maxRecDepth 65536 in
theorem w_t1 : (words1.take 24).all (fun c => isCode c || c.before args0 about1) = true := by decide +kernel
set_option maxRecDepth 65536 in
theorem w_t2 : (words1.drop 24).all (fun c => isCode c || c.before args0 about1) = true := by decide +kernel
theorem w_tables : (allAtoms (Jvm.Cond.code x code maxLocals ret :: tables_1)).before args0 about1 = true := by
  rw [allAtoms_all]
  show words1.all (fun c => c.before args0 about1) = true
  refine all_split ?_ w_codes
  rw [← List.take_append_drop 24 words1, List.all_append, w_t1, w_t2]
  rfl
set_option maxRecDepth 65536 in
theorem w_case : (Jvm.Cond.and given_1 narrow_1).before args0 about1 = true := by decide +kernel
theorem w_applies : (headSpec (Jvm.Cond.code x code maxLocals ret :: tables_1) room_1).applies x e0.platform about1 = true :=
  (Spec.applies_iff w_frames).mpr ⟨w_running, w_runnable, w_alone, w_named, w_hears, w_ripe, w_room, w_tables⟩
theorem atStart : AtStart classFile x code maxLocals ret World_1 tables_1 room_1 Calls_1 rest_1 Pre_1 launch0 p0 e0 about1 theMethod args0 below0 :=
  ⟨lists_1, trivial, launch0.admits_env _ _ _, launch0.least_env, fairChoices_fair.cas, fairChoices_fair.clock, w_frames, w_args, w_heap, w_applies, trivial, trivial, w_case⟩
end start1
theorem witness_1 : WitnessClaimed_1 := ⟨start1.p0, start1.e0, start1.about1, start1.theMethod, start1.args0, start1.below0, start1.atStart⟩
end Jvm.Pilot.@@N@@
