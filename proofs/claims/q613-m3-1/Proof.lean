import JvmDerived
import JvmDerived.Pilot.@@N@@Statement
import JvmDerived.Pilot.@@N@@Code
set_option linter.unusedVariables false
set_option linter.unusedSimpArgs false
@@BLOCK:NumsL.lean.txt@@
@@BLOCK:Masks.lean.txt@@
namespace Jvm.Pilot.@@N@@
open Jvm Jvm.ClassFile Sem Op Lib Jvm.Free Jvm.Stand Jvm.LawKit Jvm.RoadKit Bundle Jvm.Pilot.@@N@@.Jvm.D

/-! A. the goal of a walk, said of the state where it stands: from here the body ends as Q says -/
def own_End (p : Program) (e : Env) (below : List Frame) (s : State) (Q : Option Value → Heap → List Loc → Prop) (k n : Nat) (S : State) : Prop :=
  ∃ s₂ o, Steps p.tables e below S s₂ ∧ s₂.status = .running ∧ Ended s₂ below o ∧ ∃ v L, o = .returned v ∧ Q v s₂.heap L ∧ FrameEnd s o s₂ L k n
section OwnWalk
variable {p : Program} {l : Launch} {e : Env} {R : Room} {s : State} {m : MethodId} {args : Array Value} {below : List Frame} {meth : Method} {c : Code} {T : State} {locs : List Loc} {cells slots : Nat} {Z : State} {a0 : Array Value} {h h' : Heap} {Q : Option Value → Heap → List Loc → Prop} {k n : Nat}
theorem own_go {S S' : State} (f : ∀ t, Steps p.tables e below S' t → Steps p.tables e below S t) (g : own_End p e below s Q k n S') : own_End p e below s Q k n S := by
  obtain ⟨t, o, h1, r⟩ := g
  exact ⟨t, o, f t h1, r⟩
theorem own_cast {g g' : JFrame} (q : g = g') (k' : own_End p e below s Q k n (T.setTop g')) : own_End p e below s Q k n (T.setTop g) := q ▸ k'
theorem own_retN (X : Stand p l e R s m args below meth c T locs cells slots) (hx : p.tables.exec = Jvm.exec) {pc : Nat} {Ls : Array Slot} {z z' : Int32} {t : FieldType} {rest : List Value} (hret : meth.sig.returnType = some t) (hlk : meth.locks = false) (ht : t = .boolean ∨ t = .byte ∨ t = .char ∨ t = .short)
    (hd : decode c.code pc = .ok (.ireturn, 1)) (hz : nar t z = z') (hc : cells ≤ k) (hn : slots ≤ n) (hQ : Q (some (.int z')) T.heap locs) : own_End p e below s Q k n (T.setTop (mkF m pc Ls (.int z :: rest))) := by
  obtain ⟨fs, hr, hrun, hended, hW, hsame⟩ := X.leave (v := some (.int z')) (fun q => by rw [hret] at q; cases q) hlk
  subst hz
  exact ⟨_, _, retN X hx hret ht hd hr, hrun, hended, _, _, rfl, hQ, ⟨_, rfl⟩, hW, hsame.mono hc hn⟩
theorem own_retI (X : Stand p l e R s m args below meth c T locs cells slots) (hx : p.tables.exec = Jvm.exec) {pc : Nat} {Ls : Array Slot} {z : Int32} {rest : List Value} (hret : meth.sig.returnType = some .int) (hlk : meth.locks = false)
    (hd : decode c.code pc = .ok (.ireturn, 1)) (hc : cells ≤ k) (hn : slots ≤ n) (hQ : Q (some (.int z)) T.heap locs) : own_End p e below s Q k n (T.setTop (mkF m pc Ls (.int z :: rest))) := by
  obtain ⟨fs, hr, hrun, hended, hW, hsame⟩ := X.leave (v := some (.int z)) (fun q => by rw [hret] at q; cases q) hlk
  exact ⟨_, _, retOut X hx hret rfl (Or.inl ⟨rfl, Or.inl rfl, _, rfl⟩) hd hr, hrun, hended, _, _, rfl, hQ, ⟨_, rfl⟩, hW, hsame.mono hc hn⟩
theorem own_retJ (X : Stand p l e R s m args below meth c T locs cells slots) (hx : p.tables.exec = Jvm.exec) {pc : Nat} {Ls : Array Slot} {z : Int64} {rest : List Value} (hret : meth.sig.returnType = some .long) (hlk : meth.locks = false)
    (hd : decode c.code pc = .ok (.lreturn, 1)) (hc : cells ≤ k) (hn : slots ≤ n) (hQ : Q (some (.long z)) T.heap locs) : own_End p e below s Q k n (T.setTop (mkF m pc Ls (.long z :: rest))) := by
  obtain ⟨fs, hr, hrun, hended, hW, hsame⟩ := X.leave (v := some (.long z)) (fun q => by rw [hret] at q; cases q) hlk
  exact ⟨_, _, retOut X hx hret rfl (Or.inr (Or.inl ⟨rfl, rfl, _, rfl⟩)) hd hr, hrun, hended, _, _, rfl, hQ, ⟨_, rfl⟩, hW, hsame.mono hc hn⟩
theorem own_retV (X : Stand p l e R s m args below meth c T locs cells slots) (hx : p.tables.exec = Jvm.exec) {pc : Nat} {Ls : Array Slot} (hret : meth.sig.returnType = none) (hlk : meth.locks = false)
    (hd : decode c.code pc = .ok (.return_, 1)) (hc : cells ≤ k) (hn : slots ≤ n) (hQ : Q none T.heap locs) : own_End p e below s Q k n (T.setTop (mkF m pc Ls [])) := by
  obtain ⟨fs, hr, hrun, hended, hW, hsame⟩ := X.leave (v := none) (fun _ => rfl) hlk
  exact ⟨_, _, X.returnOut hx hret hd hr, hrun, hended, _, _, rfl, hQ, ⟨_, rfl⟩, hW, hsame.mono hc hn⟩

/-! B. arrays by the list of their components -/
def own_L (Z : State) (h : Heap) (a : Addr) (ty : FieldType) (vs : List Value) : Prop := ∃ cl : Cell, Arr Z h a cl ty ∧ cl.slots.toList = vs
variable {a b : Addr} {ty : FieldType} {vs : List Value} {sl : Nat} {v w : Value} {ws : List Addr}
theorem own_L.lt (F : own_L Z h a ty vs) : a < h.size := by obtain ⟨_, A, _⟩ := F; exact A.lt
theorem own_L.ext (F : own_L Z h a ty vs) (E : Ext h h') : own_L Z h' a ty vs := by obtain ⟨c, A, r⟩ := F; exact ⟨c, A.ext E, r⟩
theorem own_L.other (F : own_L Z h b ty vs) (W : Wr h h' a sl v) (q : b ≠ a) : own_L Z h' b ty vs := by obtain ⟨c, A, r⟩ := F; exact ⟨c, A.other W q, r⟩
theorem own_L.keep (F : own_L Z h a ty vs) (K : Keep h h' ws) (q : a ∉ ws) : own_L Z h' a ty vs := by obtain ⟨c, A, r⟩ := F; exact ⟨c, ⟨K.2.1 a c A.1 q, A.2⟩, r⟩
theorem own_L.same (F : own_L Z h a ty vs) (W : Wr h h' a sl v) : own_L Z h' a ty (vs.set sl v) := by
  obtain ⟨c, A, r⟩ := F
  refine ⟨_, A.same W, ?_⟩
  subst r
  simp [Cell.setSlot]
theorem own_L.eq {vs' : List Value} (F : own_L Z h a ty vs) (q : vs = vs') : own_L Z h a ty vs' := q ▸ F
theorem own_newL (X : Stand p l e R s m args below meth c T locs cells slots) (hx : p.tables.exec = Jvm.exec) (hZ : Z.Warmed39 s.vm) {aty : ArrayType} (w : (Cond.arrayClass (newarray.typeOf aty)).before a0 Z = true) (eT : T.heap = h) {pc : Nat} {Ls : Array Slot} {nn : Int32} {rest : List Value} (hd : decode c.code pc = .ok (.newarray aty, 2))
    (hn : ¬ nn < 0) {len cap : Nat} (hlen : nn.toNatClampNeg = len) (hcap : len ≤ cap) (hb : cap * 8 ≤ 536870912) (hc : cells + 1 ≤ R.cells) (hl : slots + cap ≤ R.slots) :
    ∃ T' h' b, Stand p l e R s m args below meth c T' locs (cells + 1) (slots + cap) ∧ T'.heap = h' ∧ Ext h h' ∧ b = h.size ∧ own_L Z h' b (newarray.typeOf aty) (List.replicate len (defaultValue (newarray.typeOf aty))) ∧
      ∀ t, Steps p.tables e below (T'.setTop (mkF m (pc + 2) Ls (.ref b :: rest))) t → Steps p.tables e below (T.setTop (mkF m pc Ls (.int nn :: rest))) t := by
  obtain ⟨T', h', cA, X', e', E, A, st⟩ := newP X hx hZ w eT (g := mkF m pc Ls (.int nn :: rest)) rfl hd rfl hn (cap := cap) (by rw [hlen]; exact hcap) hb hc hl
  exact ⟨T', h', h.size, X', e', E, rfl, ⟨_, A, by simp [newA, hlen]⟩, st⟩
theorem own_in {cl : Cell} {i : Nat} {j : Int32} (hs : cl.slots.toList = vs) (hj : ¬ j < 0) (hi : j.toNatClampNeg = i) (hl : i < vs.length) : ¬ (j < 0 ∨ cl.slots.size ≤ j.toNatClampNeg) := by
  subst hs hi
  simp only [Array.length_toList] at hl
  rintro (q | q)
  · exact hj q
  · omega
theorem own_get {cl : Cell} {i : Nat} {j : Int32} (hs : cl.slots.toList = vs) (hi : j.toNatClampNeg = i) (hv : vs[i]? = some v) : cl.slots[j.toNatClampNeg]? = some v := by
  subst hs hi
  simpa using hv
theorem own_len (F : own_L Z h a ty vs) {z : Int32} (hz : vs.length.toInt32 = z) (X : Stand p l e R s m args below meth c T locs cells slots) (hx : p.tables.exec = Jvm.exec) (hZ : Z.Warmed39 s.vm) (eT : T.heap = h) {pc : Nat} {Ls : Array Slot} {rest : List Value} (hd : decode c.code pc = .ok (.arraylength, 1)) :
    ∀ t, Steps p.tables e below (T.setTop (mkF m (pc + 1) Ls (.int z :: rest))) t → Steps p.tables e below (T.setTop (mkF m pc Ls (.ref a :: rest))) t := by
  obtain ⟨cl, A, r⟩ := F
  intro t k
  refine X.arraylength hx (by rw [eT]; exact A.1) (State.isArrayOf_alike hZ.alike A.2.1) (g := mkF m pc Ls (.ref a :: rest)) rfl rfl hd t ?_
  have q : cl.slots.size.toInt32 = z := by rw [← hz, ← r, Array.length_toList]
  rw [q]; exact k
theorem own_iaload (F : own_L Z h a .int vs) (X : Stand p l e R s m args below meth c T locs cells slots) (hx : p.tables.exec = Jvm.exec) (hZ : Z.Warmed39 s.vm) (eT : T.heap = h) {pc i : Nat} {Ls : Array Slot} {j : Int32} {rest : List Value} (hj : ¬ j < 0) (hi : j.toNatClampNeg = i) (hl : i < vs.length) (hv : vs[i]? = some v) (hd : decode c.code pc = .ok (.iaload, 1)) :
    ∀ t, Steps p.tables e below (T.setTop (mkF m (pc + 1) Ls (v :: rest))) t → Steps p.tables e below (T.setTop (mkF m pc Ls (.int j :: .ref a :: rest))) t := by
  obtain ⟨cl, A, r⟩ := F
  exact fun t k => X.iaload hx (j := j) (v := v) (by rw [eT]; exact A.1) (State.isArrayOf_alike hZ.alike A.2.1) A.2.2 (own_in r hj hi hl) (own_get r hi hv) (g := mkF m pc Ls (.int j :: .ref a :: rest)) rfl rfl hd t k
theorem own_baload (F : own_L Z h a .byte vs) (X : Stand p l e R s m args below meth c T locs cells slots) (hx : p.tables.exec = Jvm.exec) (hZ : Z.Warmed39 s.vm) (eT : T.heap = h) {pc i : Nat} {Ls : Array Slot} {j : Int32} {rest : List Value} (hj : ¬ j < 0) (hi : j.toNatClampNeg = i) (hl : i < vs.length) (hv : vs[i]? = some v) (hd : decode c.code pc = .ok (.baload, 1)) :
    ∀ t, Steps p.tables e below (T.setTop (mkF m (pc + 1) Ls (v :: rest))) t → Steps p.tables e below (T.setTop (mkF m pc Ls (.int j :: .ref a :: rest))) t := by
  obtain ⟨cl, A, r⟩ := F
  exact fun t k => X.baloadBytes hx (j := j) (v := v) (by rw [eT]; exact A.1) (State.isArrayOf_alike hZ.alike A.2.1) A.2.2 (own_in r hj hi hl) (own_get r hi hv) (g := mkF m pc Ls (.int j :: .ref a :: rest)) rfl rfl hd t k
theorem own_caload (F : own_L Z h a .char vs) (X : Stand p l e R s m args below meth c T locs cells slots) (hx : p.tables.exec = Jvm.exec) (hZ : Z.Warmed39 s.vm) (eT : T.heap = h) {pc i : Nat} {Ls : Array Slot} {j : Int32} {rest : List Value} (hj : ¬ j < 0) (hi : j.toNatClampNeg = i) (hl : i < vs.length) (hv : vs[i]? = some v) (hd : decode c.code pc = .ok (.caload, 1)) :
    ∀ t, Steps p.tables e below (T.setTop (mkF m (pc + 1) Ls (v :: rest))) t → Steps p.tables e below (T.setTop (mkF m pc Ls (.int j :: .ref a :: rest))) t := by
  obtain ⟨cl, A, r⟩ := F
  exact fun t k => X.caload hx (j := j) (v := v) (by rw [eT]; exact A.1) (State.isArrayOf_alike hZ.alike A.2.1) A.2.2 (own_in r hj hi hl) (own_get r hi hv) (g := mkF m pc Ls (.int j :: .ref a :: rest)) rfl rfl hd t k
theorem own_laload (F : own_L Z h a .long vs) (X : Stand p l e R s m args below meth c T locs cells slots) (hx : p.tables.exec = Jvm.exec) (hZ : Z.Warmed39 s.vm) (eT : T.heap = h) {pc i : Nat} {Ls : Array Slot} {j : Int32} {rest : List Value} (hj : ¬ j < 0) (hi : j.toNatClampNeg = i) (hl : i < vs.length) (hv : vs[i]? = some v) (hd : decode c.code pc = .ok (.laload, 1)) :
    ∀ t, Steps p.tables e below (T.setTop (mkF m (pc + 1) Ls (v :: rest))) t → Steps p.tables e below (T.setTop (mkF m pc Ls (.int j :: .ref a :: rest))) t := by
  obtain ⟨cl, A, r⟩ := F
  exact fun t k => X.laload hx (j := j) (v := v) (by rw [eT]; exact A.1) (State.isArrayOf_alike hZ.alike A.2.1) A.2.2 (own_in r hj hi hl) (own_get r hi hv) (g := mkF m pc Ls (.int j :: .ref a :: rest)) rfl rfl hd t k
theorem own_iastore (F : own_L Z h a .int vs) (X : Stand p l e R s m args below meth c T locs cells slots) (hx : p.tables.exec = Jvm.exec) (hZ : Z.Warmed39 s.vm) (eT : T.heap = h) {pc i : Nat} {Ls : Array Slot} {j x : Int32} {rest : List Value} (hj : ¬ j < 0) (hi : j.toNatClampNeg = i) (hl : i < vs.length) (hd : decode c.code pc = .ok (.iastore, 1)) :
    ∃ T' h', Stand p l e R s m args below meth c T' (locs ++ [⟨a, i⟩]) cells slots ∧ T'.heap = h' ∧ Wr h h' a i (.int x) ∧ own_L Z h' a .int (vs.set i (.int x)) ∧
      ∀ t, Steps p.tables e below (T'.setTop (mkF m (pc + 1) Ls rest)) t → Steps p.tables e below (T.setTop (mkF m pc Ls (.int x :: .int j :: .ref a :: rest))) t := by
  have F0 := F
  obtain ⟨cl, A, r⟩ := F
  obtain ⟨T', h', X', e', W, st⟩ := stI X hx hZ eT A (j := j) (own_in r hj hi hl) (g := mkF m pc Ls (.int x :: .int j :: .ref a :: rest)) rfl rfl hd
  subst hi
  exact ⟨T', h', X', e', W, F0.same W, st⟩
theorem own_bastore (F : own_L Z h a .byte vs) (X : Stand p l e R s m args below meth c T locs cells slots) (hx : p.tables.exec = Jvm.exec) (hZ : Z.Warmed39 s.vm) (eT : T.heap = h) {pc i : Nat} {Ls : Array Slot} {j x : Int32} {rest : List Value} (hj : ¬ j < 0) (hi : j.toNatClampNeg = i) (hl : i < vs.length) (hd : decode c.code pc = .ok (.bastore, 1)) :
    ∃ T' h', Stand p l e R s m args below meth c T' (locs ++ [⟨a, i⟩]) cells slots ∧ T'.heap = h' ∧ Wr h h' a i (.int (nar .byte x)) ∧ own_L Z h' a .byte (vs.set i (.int (nar .byte x))) ∧
      ∀ t, Steps p.tables e below (T'.setTop (mkF m (pc + 1) Ls rest)) t → Steps p.tables e below (T.setTop (mkF m pc Ls (.int x :: .int j :: .ref a :: rest))) t := by
  have F0 := F
  obtain ⟨cl, A, r⟩ := F
  obtain ⟨T', h', X', e', W, st⟩ := stB X hx hZ eT A (j := j) (own_in r hj hi hl) (g := mkF m pc Ls (.int x :: .int j :: .ref a :: rest)) rfl rfl hd
  subst hi
  exact ⟨T', h', X', e', W, F0.same W, st⟩
theorem own_castore (F : own_L Z h a .char vs) (X : Stand p l e R s m args below meth c T locs cells slots) (hx : p.tables.exec = Jvm.exec) (hZ : Z.Warmed39 s.vm) (eT : T.heap = h) {pc i : Nat} {Ls : Array Slot} {j x : Int32} {rest : List Value} (hj : ¬ j < 0) (hi : j.toNatClampNeg = i) (hl : i < vs.length) (hd : decode c.code pc = .ok (.castore, 1)) :
    ∃ T' h', Stand p l e R s m args below meth c T' (locs ++ [⟨a, i⟩]) cells slots ∧ T'.heap = h' ∧ Wr h h' a i (.int (nar .char x)) ∧ own_L Z h' a .char (vs.set i (.int (nar .char x))) ∧
      ∀ t, Steps p.tables e below (T'.setTop (mkF m (pc + 1) Ls rest)) t → Steps p.tables e below (T.setTop (mkF m pc Ls (.int x :: .int j :: .ref a :: rest))) t := by
  have F0 := F
  obtain ⟨cl, A, r⟩ := F
  obtain ⟨T', h', X', e', W, st⟩ := stC X hx hZ eT A (j := j) (own_in r hj hi hl) (g := mkF m pc Ls (.int x :: .int j :: .ref a :: rest)) rfl rfl hd
  subst hi
  exact ⟨T', h', X', e', W, F0.same W, st⟩
theorem own_lastore (F : own_L Z h a .long vs) (X : Stand p l e R s m args below meth c T locs cells slots) (hx : p.tables.exec = Jvm.exec) (hZ : Z.Warmed39 s.vm) (eT : T.heap = h) {pc i : Nat} {Ls : Array Slot} {j : Int32} {x : Int64} {rest : List Value} (hj : ¬ j < 0) (hi : j.toNatClampNeg = i) (hl : i < vs.length) (hd : decode c.code pc = .ok (.lastore, 1)) :
    ∃ T' h', Stand p l e R s m args below meth c T' (locs ++ [⟨a, i⟩]) cells slots ∧ T'.heap = h' ∧ Wr h h' a i (.long x) ∧ own_L Z h' a .long (vs.set i (.long x)) ∧
      ∀ t, Steps p.tables e below (T'.setTop (mkF m (pc + 1) Ls rest)) t → Steps p.tables e below (T.setTop (mkF m pc Ls (.long x :: .int j :: .ref a :: rest))) t := by
  have F0 := F
  obtain ⟨cl, A, r⟩ := F
  obtain ⟨T', h', X', e', W, st⟩ := stJ X hx hZ eT A (j := j) (own_in r hj hi hl) (g := mkF m pc Ls (.long x :: .int j :: .ref a :: rest)) rfl rfl hd
  subst hi
  exact ⟨T', h', X', e', W, F0.same W, st⟩

theorem own_nneg {j : Int32} (q : 0 ≤ j.toInt) : ¬ j < 0 := by
  rw [Int32.lt_iff_toInt_lt]; have e0 : (0 : Int32).toInt = 0 := rfl
  omega
theorem own_ltn {j : Int32} {i : Nat} (q : 0 ≤ j.toInt) (r : j.toInt < i) : j.toNatClampNeg < i := by
  simp only [Int32.toNatClampNeg]; omega
theorem own_mapAt {xs : List Int32} {i : Nat} (q : i < (List.map Value.int xs).length) : ∃ v : Int32, (List.map Value.int xs)[i]? = some (.int v) := by
  rw [List.length_map] at q
  exact ⟨xs[i], by simp [q]⟩
theorem own_rem {x y : Int32} {i : Int} (hx : 0 ≤ x.toInt) (hy : y.toInt = i) (hi : 0 < i) : 0 ≤ (x % y).toInt ∧ (x % y).toInt < i := by
  rw [Jvm.Kit.i32_rem_nonneg hx, hy]
  exact ⟨Int.emod_nonneg _ (by omega), Int.emod_lt_of_pos _ hi⟩
theorem own_lenI {xs : List Int32} : (List.map Value.int xs).length.toInt32 = Int32.ofNat xs.length := by
  have h : (List.map Value.int xs).length = xs.length := List.length_map ..
  exact congrArg Nat.toInt32 h
theorem own_lenC {α : Type} {xs : List α} {f : α → Value} {q : Nat} (h : xs.length = q) : (List.map f xs).length.toInt32 = q.toInt32 := by
  rw [List.length_map, h]
theorem own_lenS {α : Type} {xs : List α} {f : α → Value} {q i : Nat} {v : Value} (h : xs.length = q) : ((List.map f xs).set i v).length.toInt32 = q.toInt32 := by
  rw [List.length_set, List.length_map, h]
theorem own_eqI (x y : Int32) : x = y ↔ x.toInt = y.toInt := Int32.toInt_inj.symm
theorem own_or {α : Type} {P P' : Prop} [Decidable P] [Decidable P'] {a b : α} : (if P then a else if P' then a else b) = if P ∨ P' then a else b := by
  by_cases h1 : P <;> by_cases h2 : P' <;> simp [h1, h2]
theorem own_rng {α : Type} {P P' : Prop} [Decidable P] [Decidable P'] {a b : α} : (if P then a else if P' then a else b) = if ¬ P ∧ ¬ P' then b else a := by
  by_cases h1 : P <;> by_cases h2 : P' <;> simp [h1, h2]

theorem own_flip {P P' : Prop} [Decidable P] [Decidable P'] {a b : Int32} (h : P ↔ ¬ P') : (if P then a else b) = if P' then b else a := by
  by_cases h2 : P'
  · rw [if_pos h2, if_neg (fun q => h.mp q h2)]
  · rw [if_neg h2, if_pos (h.mpr h2)]

/-! C. a call by the callee's contract -/
/-- the contract of a body: started with these arguments on this heap it ends as Q says -/
abbrev own_C (l : Launch) (Z : State) (y : MethodName) (bytes : ByteArray) (maxL : Nat) (ret : Option FieldType) (rm : Room) (as : Array Value) (h0 : Heap) (Q : Option Value → Heap → List Loc → Prop) : Prop :=
  MetFree l y (head1 [Cond.code y bytes maxL ret] rm) (fun a U => a = as ∧ Z.Warmed39 U.vm ∧ U.heap = h0) (fun _ _ _ _ _ => True) (fun _ U o U' => ∃ v L, o = .returned v ∧ Q v U'.heap L ∧ FrameEnd U o U' L rm.cells rm.slots)
/-- a pure body: it returns w, and nothing has moved -/
abbrev own_P (h0 : Heap) (w : Option Value) : Option Value → Heap → List Loc → Prop := fun v h L => v = w ∧ L = [] ∧ h = h0
theorem own_callS (X : Stand p l e R s m args below meth c T locs cells slots) (hx : p.tables.exec = Jvm.exec) (hZ : Z.Warmed39 s.vm) {own : String} {index : Nat} {y : MethodName} {bytes : ByteArray} {maxL : Nat} {ret : Option FieldType}
    (hown : s.vm.findClass own = some m.cls) (w1 : (Cond.methodLink own index y).before a0 Z = true) (w2 : (Cond.static y).before a0 Z = true) (w3 : (Cond.initialized y.cls).before a0 Z = true) (w4 : (Cond.code y bytes maxL ret).before a0 Z = true)
    {rm : Room} {as : Array Value} (hM : own_C l Z y bytes maxL ret rm as h Q) (eT : T.heap = h) {pc : Nat} {Ls : Array Slot} {argsL rest : List Value} (hd : decode c.code pc = .ok (.invokestatic index, 3))
    {ps : List FieldType} {rt : Option FieldType} (hpd : parseMethodDescriptor y.desc = some ⟨ps, rt⟩) (W : Nat) (hsize : Ls.size = c.maxLocals) (hy : y.cls ≠ "java/lang/invoke/MethodHandle" ∧ y.cls ≠ "java/lang/invoke/VarHandle") (hl : argsL.length = ps.length) (has : argsL.toArray = as)
    {st : List Value} (hst : st = argsL.reverse ++ rest) (hW : (rest.map fun v => v.category).sum ≤ W) (hf : rm.frames + 1 ≤ R.frames) (hlo : W + (maxL + 11) + rm.locals ≤ R.locals) (hc : cells + rm.cells ≤ R.cells) (hs : slots + rm.slots ≤ R.slots) :
    ∃ v T' L, Stand p l e R s m args below meth c T' (locs ++ L) (cells + rm.cells) (slots + rm.slots) ∧ Q v T'.heap L ∧
      ∀ t, Steps p.tables e below (T'.setTop (mkF m (pc + 3) Ls (v.toList ++ rest))) t → Steps p.tables e below (T.setTop (mkF m pc Ls st)) t := by
  obtain ⟨v, _, ⟨T1, L1, k1, n1⟩, -, X1, ⟨L, hQ, l1, y1, z1⟩, st1⟩ := Jvm.LawKit.callS X hx (y := y) hown (mvT hZ w1) (mvT hZ w2) (mvT hZ w3) (mvT hZ w4) hy (backOf (W := W) hM hZ w4 w3 hf hlo) (g := mkF m pc Ls st) rfl hsize (argsL := argsL) (rest := rest) (lenOf hpd hl) hst (by show 2 * 0 + _ ≤ _; rw [Nat.mul_zero, Nat.zero_add]; exact hW) hd (fun _ _ => ⟨has, eT, hc, hs⟩)
  dsimp only [Pt.U, Pt.locs, Pt.cells, Pt.slots] at X1 l1 y1 z1 st1 hQ
  subst l1 y1 z1
  exact ⟨v, T1, L, X1, hQ, st1⟩
/-- a static call of a pure body -/
theorem own_callP (X : Stand p l e R s m args below meth c T locs cells slots) (hx : p.tables.exec = Jvm.exec) (hZ : Z.Warmed39 s.vm) {own : String} {index : Nat} {y : MethodName} {bytes : ByteArray} {maxL : Nat} {ret : Option FieldType}
    (hown : s.vm.findClass own = some m.cls) (w1 : (Cond.methodLink own index y).before a0 Z = true) (w2 : (Cond.static y).before a0 Z = true) (w3 : (Cond.initialized y.cls).before a0 Z = true) (w4 : (Cond.code y bytes maxL ret).before a0 Z = true)
    {fr lc : Nat} {as : Array Value} {w : Option Value} (hM : own_C l Z y bytes maxL ret { frames := fr, cells := 0, slots := 0, locals := lc } as h (own_P h w)) (eT : T.heap = h) {pc : Nat} {Ls : Array Slot} {argsL rest : List Value} (hd : decode c.code pc = .ok (.invokestatic index, 3))
    {ps : List FieldType} {rt : Option FieldType} (hpd : parseMethodDescriptor y.desc = some ⟨ps, rt⟩) (W : Nat) (hsize : Ls.size = c.maxLocals) (hy : y.cls ≠ "java/lang/invoke/MethodHandle" ∧ y.cls ≠ "java/lang/invoke/VarHandle") (hl : argsL.length = ps.length) (has : argsL.toArray = as)
    {st : List Value} (hst : st = argsL.reverse ++ rest) (hW : (rest.map fun v => v.category).sum ≤ W) (hf : fr + 1 ≤ R.frames) (hlo : W + (maxL + 11) + lc ≤ R.locals) (hc : cells ≤ R.cells) (hs : slots ≤ R.slots) :
    ∃ T', Stand p l e R s m args below meth c T' locs cells slots ∧ T'.heap = h ∧
      ∀ t, Steps p.tables e below (T'.setTop (mkF m (pc + 3) Ls (w.toList ++ rest))) t → Steps p.tables e below (T.setTop (mkF m pc Ls st)) t := by
  obtain ⟨v, T', L, X', ⟨rfl, rfl, e'⟩, st'⟩ := own_callS X hx hZ hown w1 w2 w3 w4 hM eT hd hpd W hsize hy hl has hst hW hf hlo hc hs
  exact ⟨T', by simpa using X', e', st'⟩
/-- a constructor by its contract -/
theorem own_callI (X : Stand p l e R s m args below meth c T locs cells slots) (hx : p.tables.exec = Jvm.exec) (hZ : Z.Warmed39 s.vm) {own : String} {index : Nat} {y : MethodName} {bytes : ByteArray} {maxL : Nat} (hy1 : y.name = "<init>")
    (hown : s.vm.findClass own = some m.cls) (w1 : (Cond.methodLink own index y).before a0 Z = true) (w2 : (Cond.instanceMethod y).before a0 Z = true) (w3 : (Cond.initialized y.cls).before a0 Z = true) (w4 : (Cond.code y bytes maxL none).before a0 Z = true)
    {rm : Room} {as : Array Value} (hM : own_C l Z y bytes maxL none rm as h Q) (eT : T.heap = h) {pc : Nat} {Ls : Array Slot} {argsL rest : List Value} (hd : decode c.code pc = .ok (.invokespecial index, 3))
    {ps : List FieldType} {rt : Option FieldType} (hpd : parseMethodDescriptor y.desc = some ⟨ps, rt⟩) (W : Nat) (hsize : Ls.size = c.maxLocals) (hy : y.cls ≠ "java/lang/invoke/MethodHandle" ∧ y.cls ≠ "java/lang/invoke/VarHandle") (hl : argsL.length = ps.length) (has : (.ref a :: argsL).toArray = as)
    {st : List Value} (hst : st = argsL.reverse ++ .ref a :: rest) (hW : (rest.map fun v => v.category).sum ≤ W) (hf : rm.frames + 1 ≤ R.frames) (hlo : W + (maxL + 11) + rm.locals ≤ R.locals) (hc : cells + rm.cells ≤ R.cells) (hs : slots + rm.slots ≤ R.slots) :
    ∃ v T' L, Stand p l e R s m args below meth c T' (locs ++ L) (cells + rm.cells) (slots + rm.slots) ∧ Q v T'.heap L ∧
      ∀ t, Steps p.tables e below (T'.setTop (mkF m (pc + 3) Ls (v.toList ++ rest))) t → Steps p.tables e below (T.setTop (mkF m pc Ls st)) t := by
  obtain ⟨v, _, ⟨T1, L1, k1, n1⟩, -, X1, ⟨L, hQ, l1, y1, z1⟩, st1⟩ := X.specialBack hx (y := y) hy1 hown (mvT hZ w1) (mvT hZ w2) (mvT hZ w4) hy (backOf (W := W) hM hZ w4 w3 hf hlo) (g := mkF m pc Ls st) rfl hsize (Steps.refl _) (a := a) (argsL := argsL) (rest := rest) (lenOf hpd hl) hst (by show 2 * 0 + _ ≤ _; rw [Nat.mul_zero, Nat.zero_add]; exact hW) hd (fun _ _ => ⟨has, eT, hc, hs⟩)
  dsimp only [Pt.U, Pt.locs, Pt.cells, Pt.slots] at X1 l1 y1 z1 st1 hQ
  subst l1 y1 z1
  exact ⟨v, T1, L, X1, hQ, fun t k => st1.trans k⟩
/-- an instance method that the receiver's class selects, by its contract -/
theorem own_callV (X : Stand p l e R s m args below meth c T locs cells slots) (hx : p.tables.exec = Jvm.exec) (hZ : Z.Warmed39 s.vm) {own : String} {index : Nat} {y : MethodName} {bytes : ByteArray} {maxL : Nat} {ret : Option FieldType}
    (hown : s.vm.findClass own = some m.cls) (w1 : (Cond.methodLink own index y).before a0 Z = true) (wd : (Cond.declares y).before a0 Z = true) (ws' : (Cond.selects y.cls y y).before a0 Z = true) (w2 : (Cond.instanceMethod y).before a0 Z = true) (w3 : (Cond.initialized y.cls).before a0 Z = true) (w4 : (Cond.code y bytes maxL ret).before a0 Z = true)
    {rm : Room} {as : Array Value} (hM : own_C l Z y bytes maxL ret rm as h Q) (eT : T.heap = h) (hE : Exa Z h a y.cls) {pc : Nat} {Ls : Array Slot} {argsL rest : List Value} (hd : decode c.code pc = .ok (.invokevirtual index, 3))
    {ps : List FieldType} {rt : Option FieldType} (hpd : parseMethodDescriptor y.desc = some ⟨ps, rt⟩) (W : Nat) (hsize : Ls.size = c.maxLocals) (hy : y.cls ≠ "java/lang/invoke/MethodHandle" ∧ y.cls ≠ "java/lang/invoke/VarHandle") (hl : argsL.length = ps.length) (has : (.ref a :: argsL).toArray = as)
    {st : List Value} (hst : st = argsL.reverse ++ .ref a :: rest) (hW : (rest.map fun v => v.category).sum ≤ W) (hf : rm.frames + 1 ≤ R.frames) (hlo : W + (maxL + 11) + rm.locals ≤ R.locals) (hc : cells + rm.cells ≤ R.cells) (hs : slots + rm.slots ≤ R.slots) :
    ∃ v T' L, Stand p l e R s m args below meth c T' (locs ++ L) (cells + rm.cells) (slots + rm.slots) ∧ Q v T'.heap L ∧
      ∀ t, Steps p.tables e below (T'.setTop (mkF m (pc + 3) Ls (v.toList ++ rest))) t → Steps p.tables e below (T.setTop (mkF m pc Ls st)) t := by
  obtain ⟨cq, kq, qa, qb, qc⟩ := isOf hZ eT hE
  obtain ⟨v, _, ⟨T1, L1, k1, n1⟩, -, X1, ⟨L, hQ, l1, y1, z1⟩, st1⟩ := X.virtualBack hx (y := y) (z := y) hown (mvT hZ w1) (mvT hZ wd) (notFace_of_selects (args := #[]) (mvT hZ ws')) (mvT hZ ws') (mvT hZ w2) hy (backOf (W := W) hM hZ w4 w3 hf hlo) qa qc (g := mkF m pc Ls st) rfl hsize (Steps.refl _) (argsL := argsL) (rest := rest) (lenOf hpd hl) hst (by show 2 * 0 + _ ≤ _; rw [Nat.mul_zero, Nat.zero_add]; exact hW) hd (fun _ _ => ⟨has, eT, hc, hs⟩)
  dsimp only [Pt.U, Pt.locs, Pt.cells, Pt.slots] at X1 l1 y1 z1 st1 hQ
  subst l1 y1 z1
  exact ⟨v, T1, L, X1, hQ, fun t k => st1.trans k⟩
/-- a private method by its contract -/
theorem own_callPr (X : Stand p l e R s m args below meth c T locs cells slots) (hx : p.tables.exec = Jvm.exec) (hZ : Z.Warmed39 s.vm) {own : String} {index kk : Nat} {y : MethodName} {bytes : ByteArray} {maxL : Nat} {ret : Option FieldType}
    (hown : s.vm.findClass own = some m.cls) (w1 : (Cond.methodLink own index y).before a0 Z = true) (wp : (Cond.privateMethod y).before a0 Z = true) (wi : (Cond.instantiable y.cls kk).before a0 Z = true) (w2 : (Cond.instanceMethod y).before a0 Z = true) (w3 : (Cond.initialized y.cls).before a0 Z = true) (w4 : (Cond.code y bytes maxL ret).before a0 Z = true)
    {rm : Room} {as : Array Value} (hM : own_C l Z y bytes maxL ret rm as h Q) (eT : T.heap = h) (hE : Exa Z h a y.cls) {pc : Nat} {Ls : Array Slot} {argsL rest : List Value} (hd : decode c.code pc = .ok (.invokevirtual index, 3))
    {ps : List FieldType} {rt : Option FieldType} (hpd : parseMethodDescriptor y.desc = some ⟨ps, rt⟩) (W : Nat) (hsize : Ls.size = c.maxLocals) (hy : y.cls ≠ "java/lang/invoke/MethodHandle" ∧ y.cls ≠ "java/lang/invoke/VarHandle") (hl : argsL.length = ps.length) (has : (.ref a :: argsL).toArray = as)
    {st : List Value} (hst : st = argsL.reverse ++ .ref a :: rest) (hW : (rest.map fun v => v.category).sum ≤ W) (hf : rm.frames + 1 ≤ R.frames) (hlo : W + (maxL + 11) + rm.locals ≤ R.locals) (hc : cells + rm.cells ≤ R.cells) (hs : slots + rm.slots ≤ R.slots) :
    ∃ v T' L, Stand p l e R s m args below meth c T' (locs ++ L) (cells + rm.cells) (slots + rm.slots) ∧ Q v T'.heap L ∧
      ∀ t, Steps p.tables e below (T'.setTop (mkF m (pc + 3) Ls (v.toList ++ rest))) t → Steps p.tables e below (T.setTop (mkF m pc Ls st)) t := by
  obtain ⟨cq, q1, q2⟩ := hE.cell
  have hpr : s.PrivateAt y := Cond.privateMethod_at (mvP hZ wp (args := #[]))
  have hsel : (Cond.selects y.cls y y).before args s = true := by
    obtain ⟨ci, ki, hci, hki, -, hniab, -, -⟩ := Cond.instantiable_spec (mvT (args := args) hZ wi)
    exact selects_self_of_private hci hki (Bool.or_eq_false_iff.mp hniab).1 hpr (mvT hZ w2) hy
  obtain ⟨v, _, ⟨T1, L1, k1, n1⟩, -, X1, ⟨L, hQ, l1, y1, z1⟩, st1⟩ := X.privateBack hx (y := y) hown (mvT hZ w1) (mvT hZ w2) hsel hpr (mvT hZ w4) hy (backOf (W := W) hM hZ w4 w3 hf hlo) (g := mkF m pc Ls st) rfl hsize (Steps.refl _) (a := a) (by rw [eT]; exact q1) q2 (argsL := argsL) (rest := rest) (lenOf hpd hl) hst (by show 2 * 0 + _ ≤ _; rw [Nat.mul_zero, Nat.zero_add]; exact hW) hd (fun _ _ => ⟨has, eT, hc, hs⟩)
  dsimp only [Pt.U, Pt.locs, Pt.cells, Pt.slots] at X1 l1 y1 z1 st1 hQ
  subst l1 y1 z1
  exact ⟨v, T1, L, X1, hQ, fun t k => st1.trans k⟩
end OwnWalk
theorem pd_0 : parseMethodDescriptor "([III)V" = some ⟨[(.array .int), .int, .int], none⟩ := by decide +kernel
theorem pd_1 : parseMethodDescriptor "(Ljava/util/DualPivotQuicksort$Sorter;[IIII)V" = some ⟨[(.object "java/util/DualPivotQuicksort$Sorter"), (.array .int), .int, .int, .int], none⟩ := by decide +kernel
theorem pd_2 : parseMethodDescriptor "([IIII)V" = some ⟨[(.array .int), .int, .int, .int], none⟩ := by decide +kernel
theorem pd_3 : parseMethodDescriptor "([I)V" = some ⟨[(.array .int)], none⟩ := by decide +kernel
theorem pd_4 : parseMethodDescriptor "()I" = some ⟨[], some .int⟩ := by decide +kernel
theorem pd_5 : parseMethodDescriptor "(II)I" = some ⟨[.int, .int], some .int⟩ := by decide +kernel
/-! insertion into a sorted list, in plain words -/
theorem own_succ (i : Nat) : Int32.ofNat i + (1 : Int32) = Int32.ofNat (i + 1) := Int32.ofNat_succ i
theorem own_ofNat_toInt {i : Nat} (h : i < 2 ^ 31) : (Int32.ofNat i).toInt = i := Int32.toInt_ofNat_small h
theorem own_clamp {i : Nat} (h1 : i < 2 ^ 31) : (Int32.ofNat i).toNatClampNeg = i := by
  simp only [Int32.toNatClampNeg, own_ofNat_toInt h1]; rfl
theorem own_ofNat_nneg {i : Nat} (h1 : i < 2 ^ 31) : ¬ Int32.ofNat i < 0 := own_nneg (by rw [own_ofNat_toInt h1]; omega)
theorem own_ofNat_lt {i n : Nat} (h1 : i < 2 ^ 31) (h2 : n < 2 ^ 31) : Int32.ofNat i < Int32.ofNat n ↔ i < n := by
  rw [Int32.lt_iff_toInt_lt, own_ofNat_toInt h1, own_ofNat_toInt h2]; omega
theorem own_pred (i : Nat) : Int32.ofNat (i + 1) + (-1 : Int32) = Int32.ofNat i := by
  rw [← own_succ, Int32.add_assoc]
  have e : (1 : Int32) + (-1 : Int32) = 0 := by decide
  rw [e, Int32.add_zero]
theorem own_pred' (i : Nat) : Int32.ofNat (i + 1) - (1 : Int32) = Int32.ofNat i := by
  rw [← own_succ]; exact Int32.add_sub_cancel _ _
theorem own_g0 (S : List Int32) (y : Int32) (T : List Int32) : (List.map Value.int (S ++ y :: T))[S.length]? = some (.int y) := by simp
theorem own_g1 (S : List Int32) (y x : Int32) (T : List Int32) : (List.map Value.int (S ++ y :: x :: T))[S.length + 1]? = some (.int x) := by simp
theorem own_l0 (S : List Int32) (y : Int32) (T : List Int32) : S.length < (List.map Value.int (S ++ y :: T)).length := by simp
theorem own_l1 (S : List Int32) (y x : Int32) (T : List Int32) : S.length + 1 < (List.map Value.int (S ++ y :: x :: T)).length := by simp
theorem own_s1 (S : List Int32) (y x z : Int32) (T : List Int32) : (List.map Value.int (S ++ y :: x :: T)).set (S.length + 1) (.int z) = List.map Value.int (S ++ y :: z :: T) := by
  induction S with
  | nil => rfl
  | cons k S ih => simp only [List.cons_append, List.map_cons, List.length_cons, List.set_cons_succ, ih]
theorem own_s0 (x z : Int32) (T : List Int32) : (List.map Value.int (x :: T)).set 0 (.int z) = List.map Value.int (z :: T) := rfl
abbrev own_sorted (ys : List Int32) : Prop := ys.Pairwise (fun x y => x.toInt ≤ y.toInt)
theorem own_ins0 {ai : Int32} {M : List Int32} (h1 : own_sorted M) (h2 : ∀ y ∈ M, ai.toInt < y.toInt) : own_sorted (ai :: M) :=
  List.pairwise_cons.mpr ⟨fun y hy => Int.le_of_lt (h2 y hy), h1⟩
theorem own_ins1 {L M : List Int32} {y ai : Int32} (h1 : own_sorted ((L ++ [y]) ++ M)) (h2 : ∀ z ∈ M, ai.toInt < z.toInt) (h3 : y.toInt ≤ ai.toInt) : own_sorted (L ++ y :: ai :: M) := by
  simp only [own_sorted, List.pairwise_append, List.pairwise_cons, List.mem_append, List.mem_cons, List.mem_singleton, List.not_mem_nil, or_false, forall_eq] at h1 ⊢
  obtain ⟨⟨a1, a2, a3⟩, a4, a5⟩ := h1
  refine ⟨a1, ⟨?_, fun z hz => Int.le_of_lt (h2 z hz), a4⟩, fun x hx z hz => ?_⟩
  · rintro z (rfl | hz)
    · exact h3
    · exact a5 y (Or.inr rfl) z hz
  · rcases hz with rfl | rfl | hz
    · exact a3 x hx
    · exact Int.le_trans (a3 x hx) h3
    · exact a5 x (Or.inl hx) z hz
theorem own_perm1 (L M : List Int32) (y ai : Int32) : (L ++ y :: ai :: M).Perm (ai :: ((L ++ [y]) ++ M)) := by
  have : L ++ y :: ai :: M = (L ++ [y]) ++ ai :: M := by simp
  rw [this]; exact List.perm_middle
theorem own_snoc {S : List Int32} {y x : Int32} (h1 : own_sorted (S ++ [y])) (h : y.toInt ≤ x.toInt) : own_sorted ((S ++ [y]) ++ [x]) := by
  have := own_ins1 (L := S) (M := []) (ai := x) (by simpa using h1) (fun z hz => nomatch hz) h
  simpa using this
theorem d6_0 : decode jdk_2529_method_6_code 0 = .ok (.iload_n 1, 1) := by decide +kernel
theorem d6_1 : decode jdk_2529_method_6_code 1 = .ok (.istore 4, 2) := by decide +kernel
theorem d6_3 : decode jdk_2529_method_6_code 3 = .ok (.iinc 4 1, 3) := by decide +kernel
theorem d6_6 : decode jdk_2529_method_6_code 6 = .ok (.iload 4, 2) := by decide +kernel
theorem d6_8 : decode jdk_2529_method_6_code 8 = .ok (.iload_n 2, 1) := by decide +kernel
theorem d6_9 : decode jdk_2529_method_6_code 9 = .ok (.if_icmp .ge 58, 3) := by decide +kernel
theorem d6_12 : decode jdk_2529_method_6_code 12 = .ok (.aload_n 0, 1) := by decide +kernel
theorem d6_13 : decode jdk_2529_method_6_code 13 = .ok (.iload 4, 2) := by decide +kernel
theorem d6_15 : decode jdk_2529_method_6_code 15 = .ok (.dup, 1) := by decide +kernel
theorem d6_16 : decode jdk_2529_method_6_code 16 = .ok (.istore_n 3, 1) := by decide +kernel
theorem d6_17 : decode jdk_2529_method_6_code 17 = .ok (.iaload, 1) := by decide +kernel
theorem d6_18 : decode jdk_2529_method_6_code 18 = .ok (.istore 5, 2) := by decide +kernel
theorem d6_20 : decode jdk_2529_method_6_code 20 = .ok (.iload 5, 2) := by decide +kernel
theorem d6_22 : decode jdk_2529_method_6_code 22 = .ok (.aload_n 0, 1) := by decide +kernel
theorem d6_23 : decode jdk_2529_method_6_code 23 = .ok (.iload_n 3, 1) := by decide +kernel
theorem d6_24 : decode jdk_2529_method_6_code 24 = .ok (.iconst 1, 1) := by decide +kernel
theorem d6_25 : decode jdk_2529_method_6_code 25 = .ok (.isub, 1) := by decide +kernel
theorem d6_26 : decode jdk_2529_method_6_code 26 = .ok (.iaload, 1) := by decide +kernel
theorem d6_27 : decode jdk_2529_method_6_code 27 = .ok (.if_icmp .ge 37, 3) := by decide +kernel
theorem d6_30 : decode jdk_2529_method_6_code 30 = .ok (.iinc 3 (-1), 3) := by decide +kernel
theorem d6_33 : decode jdk_2529_method_6_code 33 = .ok (.iload_n 3, 1) := by decide +kernel
theorem d6_34 : decode jdk_2529_method_6_code 34 = .ok (.iload_n 1, 1) := by decide +kernel
theorem d6_35 : decode jdk_2529_method_6_code 35 = .ok (.if_icmp .lt 22, 3) := by decide +kernel
theorem d6_38 : decode jdk_2529_method_6_code 38 = .ok (.iload 5, 2) := by decide +kernel
theorem d6_40 : decode jdk_2529_method_6_code 40 = .ok (.aload_n 0, 1) := by decide +kernel
theorem d6_41 : decode jdk_2529_method_6_code 41 = .ok (.iload_n 3, 1) := by decide +kernel
theorem d6_42 : decode jdk_2529_method_6_code 42 = .ok (.iaload, 1) := by decide +kernel
theorem d6_43 : decode jdk_2529_method_6_code 43 = .ok (.if_icmp .ge 14, 3) := by decide +kernel
theorem d6_46 : decode jdk_2529_method_6_code 46 = .ok (.aload_n 0, 1) := by decide +kernel
theorem d6_47 : decode jdk_2529_method_6_code 47 = .ok (.iload_n 3, 1) := by decide +kernel
theorem d6_48 : decode jdk_2529_method_6_code 48 = .ok (.iconst 1, 1) := by decide +kernel
theorem d6_49 : decode jdk_2529_method_6_code 49 = .ok (.iadd, 1) := by decide +kernel
theorem d6_50 : decode jdk_2529_method_6_code 50 = .ok (.aload_n 0, 1) := by decide +kernel
theorem d6_51 : decode jdk_2529_method_6_code 51 = .ok (.iload_n 3, 1) := by decide +kernel
theorem d6_52 : decode jdk_2529_method_6_code 52 = .ok (.iaload, 1) := by decide +kernel
theorem d6_53 : decode jdk_2529_method_6_code 53 = .ok (.iastore, 1) := by decide +kernel
theorem d6_54 : decode jdk_2529_method_6_code 54 = .ok (.goto (-24), 3) := by decide +kernel
theorem d6_57 : decode jdk_2529_method_6_code 57 = .ok (.aload_n 0, 1) := by decide +kernel
theorem d6_58 : decode jdk_2529_method_6_code 58 = .ok (.iload_n 3, 1) := by decide +kernel
theorem d6_59 : decode jdk_2529_method_6_code 59 = .ok (.iconst 1, 1) := by decide +kernel
theorem d6_60 : decode jdk_2529_method_6_code 60 = .ok (.iadd, 1) := by decide +kernel
theorem d6_61 : decode jdk_2529_method_6_code 61 = .ok (.iload 5, 2) := by decide +kernel
theorem d6_63 : decode jdk_2529_method_6_code 63 = .ok (.iastore, 1) := by decide +kernel
theorem d6_64 : decode jdk_2529_method_6_code 64 = .ok (.goto (-61), 3) := by decide +kernel
theorem d6_67 : decode jdk_2529_method_6_code 67 = .ok (.return_, 1) := by decide +kernel
set_option maxRecDepth 65536 in
set_option maxHeartbeats 40000000 in
theorem w6_30 {p : Program} {l : Launch} {e : Env} {s : State} {m : MethodId} {args : Array Value} {below : List Frame} {meth : Method} {c : Code} {Z : State} {a0 : Array Value} {h0 : Heap} {Q : Option Value → Heap → List Loc → Prop} {a : Addr} {n0 : Nat} {nn kk ai : Int32} {S R : List Int32} (hx : p.tables.exec = Jvm.exec) (hby : c.code = jdk_2529_method_6_code) (hml : c.maxLocals = 6) (hret : meth.sig.returnType = none) (hlk : meth.locks = false) (hown : s.vm.findClass "java/util/DualPivotQuicksort" = some m.cls) (hZ : Z.Warmed39 s.vm) (hw : ∀ d ∈ tables_1, d.before a0 Z = true) (ga : n0 ≤ a) (hS : own_sorted S) (hS31 : S.length < 2 ^ 31) (Hout : ∀ (T : State) (h : Heap) (locs : List Loc) (z : Int32) (zs : List Int32), Stand p l e ({ frames := 0, cells := 0, slots := 0, locals := 0 } : Room) s m args below meth c T locs 0 0 → T.heap = h → own_L Z h a .int (List.map Value.int (zs ++ R)) → Keep h0 h [a] → Fr n0 locs → own_sorted zs → zs.Perm (ai :: S) → own_End p e below s Q 0 0 (T.setTop (mkF m 64 #[.val (.ref a), .val (.int (0 : Int32)), .val (.int nn), .val (.int z), .val (.int kk), .val (.int ai)] []))) :
    ∀ (q : Nat) (L M : List Int32) (w : Int32) (T0 : State) (h : Heap) (locs : List Loc), L.length = q → L ++ M = S → (∀ y ∈ M, ai.toInt < y.toInt) → Stand p l e ({ frames := 0, cells := 0, slots := 0, locals := 0 } : Room) s m args below meth c T0 locs 0 0 → T0.heap = h → own_L Z h a .int (List.map Value.int (L ++ w :: (M ++ R))) → Keep h0 h [a] → Fr n0 locs → own_End p e below s Q 0 0 (T0.setTop (mkF m 30 #[.val (.ref a), .val (.int (0 : Int32)), .val (.int nn), .val (.int (Int32.ofNat q)), .val (.int kk), .val (.int ai)] [])) := by
  intro q
  induction q with
  | zero =>
    intro L M w T0 h locs hq hLM hM X0 e0 A K N0
    obtain rfl : L = [] := List.length_eq_zero_iff.mp hq
    simp only [List.nil_append] at hLM
    subst hLM
    refine own_go (S' := (T0.setTop (mkF m 33 #[.val (.ref a), .val (.int (0 : Int32)), .val (.int nn), .val (.int ((Int32.ofNat 0) + (-1 : Int32))), .val (.int kk), .val (.int ai)] []))) (fun τ κ => XT.iincV X0.here hx rfl (-1 : Int32) (hb hby d6_30) (by decide) rfl (l' := #[.val (.ref a), .val (.int (0 : Int32)), .val (.int nn), .val (.int ((Int32.ofNat 0) + (-1 : Int32))), .val (.int kk), .val (.int ai)]) rfl κ) ?_
    rw [show Int32.ofNat 0 + (-1 : Int32) = (-1 : Int32) from by decide]
    refine own_go (S' := (T0.setTop (mkF m 34 #[.val (.ref a), .val (.int (0 : Int32)), .val (.int nn), .val (.int (-1 : Int32)), .val (.int kk), .val (.int ai)] [(.int (-1 : Int32))]))) (fun τ κ => XS.iloadN X0.here hx rfl (hb hby d6_33) rfl κ) ?_
    refine own_go (S' := (T0.setTop (mkF m 35 #[.val (.ref a), .val (.int (0 : Int32)), .val (.int nn), .val (.int (-1 : Int32)), .val (.int kk), .val (.int ai)] [(.int (0 : Int32)), (.int (-1 : Int32))]))) (fun τ κ => XS.iloadN X0.here hx rfl (hb hby d6_34) rfl κ) ?_
    refine own_go (S' := (T0.setTop (mkF m 57 #[.val (.ref a), .val (.int (0 : Int32)), .val (.int nn), .val (.int (-1 : Int32)), .val (.int kk), .val (.int ai)] []))) (fun τ κ => XS.icmpYes X0.here hx rfl (pc0 := 35) (pc' := 57) rfl (hb hby d6_35) rfl (tlt (by decide)).1 (by decide) (by decide) κ) ?_
    refine own_go (S' := (T0.setTop (mkF m 58 #[.val (.ref a), .val (.int (0 : Int32)), .val (.int nn), .val (.int (-1 : Int32)), .val (.int kk), .val (.int ai)] [(.ref a)]))) (fun τ κ => XS.aloadN X0.here hx rfl (hb hby d6_57) rfl rfl κ) ?_
    refine own_go (S' := (T0.setTop (mkF m 59 #[.val (.ref a), .val (.int (0 : Int32)), .val (.int nn), .val (.int (-1 : Int32)), .val (.int kk), .val (.int ai)] [(.int (-1 : Int32)), (.ref a)]))) (fun τ κ => XS.iloadN X0.here hx rfl (hb hby d6_58) rfl κ) ?_
    refine own_go (S' := (T0.setTop (mkF m 60 #[.val (.ref a), .val (.int (0 : Int32)), .val (.int nn), .val (.int (-1 : Int32)), .val (.int kk), .val (.int ai)] [(.int (1 : Int32)), (.int (-1 : Int32)), (.ref a)]))) (fun τ κ => XT.iconstV X0.here hx rfl (1 : Int32) (hb hby d6_59) (by decide) κ) ?_
    refine own_go (S' := (T0.setTop (mkF m 61 #[.val (.ref a), .val (.int (0 : Int32)), .val (.int nn), .val (.int (-1 : Int32)), .val (.int kk), .val (.int ai)] [(.int (0 : Int32)), (.ref a)]))) (fun τ κ => XS.iadd X0.here hx rfl (hb hby d6_60) rfl κ) ?_
    refine own_go (S' := (T0.setTop (mkF m 63 #[.val (.ref a), .val (.int (0 : Int32)), .val (.int nn), .val (.int (-1 : Int32)), .val (.int kk), .val (.int ai)] [(.int ai), (.int (0 : Int32)), (.ref a)]))) (fun τ κ => XS.iload X0.here hx rfl (hb hby d6_61) rfl κ) ?_
    obtain ⟨T1, h1, X1, e1, W1, B1, st1⟩ := own_iastore (j := (0 : Int32)) (x := ai) (Ls := #[.val (.ref a), .val (.int (0 : Int32)), .val (.int nn), .val (.int (-1 : Int32)), .val (.int kk), .val (.int ai)]) (rest := []) A X0 hx hZ e0 (by decide) (i := 0) (by decide) (by simp) (hb hby d6_63)
    replace A := B1
    have N1 := Fr.snoc X1 N0 ga
    replace K := K.wr W1 (Or.inl (by simp))
    refine own_go (S' := (T1.setTop (mkF m 64 #[.val (.ref a), .val (.int (0 : Int32)), .val (.int nn), .val (.int (-1 : Int32)), .val (.int kk), .val (.int ai)] []))) st1 ?_
    exact Hout T1 _ _ _ (ai :: M) X1 e1 (A.eq (by rw [List.nil_append]; exact own_s0 w ai (M ++ R))) K N1 (own_ins0 hS hM) (List.Perm.refl _)
  | succ q ih =>
    intro L M w T0 h locs hq hLM hM X0 e0 A K N0
    obtain ⟨L', y, rfl⟩ : ∃ L' y, L = L' ++ [y] := by
      rcases List.eq_nil_or_concat L with rfl | ⟨L', y, rfl⟩
      · cases hq
      · exact ⟨L', y, by simp⟩
    have hq' : L'.length = q := by simpa using hq
    subst hq'
    have e1 : (L' ++ [y]) ++ w :: (M ++ R) = L' ++ y :: w :: (M ++ R) := by simp
    rw [e1] at A
    have h31 : L'.length + 1 < 2 ^ 31 := by have := congrArg List.length hLM; simp at this; omega
    have hnl : ¬ Int32.ofNat L'.length < (0 : Int32) := own_ofNat_nneg (by omega)
    by_cases hc : ai < y
    · have hay : ai.toInt < y.toInt := Int32.lt_iff_toInt_lt.mp hc
      refine own_go (S' := (T0.setTop (mkF m 33 #[.val (.ref a), .val (.int (0 : Int32)), .val (.int nn), .val (.int ((Int32.ofNat (L'.length + 1)) + (-1 : Int32))), .val (.int kk), .val (.int ai)] []))) (fun τ κ => XT.iincV X0.here hx rfl (-1 : Int32) (hb hby d6_30) (by decide) rfl (l' := #[.val (.ref a), .val (.int (0 : Int32)), .val (.int nn), .val (.int ((Int32.ofNat (L'.length + 1)) + (-1 : Int32))), .val (.int kk), .val (.int ai)]) rfl κ) ?_
      rw [own_pred]
      refine own_go (S' := (T0.setTop (mkF m 34 #[.val (.ref a), .val (.int (0 : Int32)), .val (.int nn), .val (.int (Int32.ofNat L'.length)), .val (.int kk), .val (.int ai)] [(.int (Int32.ofNat L'.length))]))) (fun τ κ => XS.iloadN X0.here hx rfl (hb hby d6_33) rfl κ) ?_
      refine own_go (S' := (T0.setTop (mkF m 35 #[.val (.ref a), .val (.int (0 : Int32)), .val (.int nn), .val (.int (Int32.ofNat L'.length)), .val (.int kk), .val (.int ai)] [(.int (0 : Int32)), (.int (Int32.ofNat L'.length))]))) (fun τ κ => XS.iloadN X0.here hx rfl (hb hby d6_34) rfl κ) ?_
      refine own_go (S' := (T0.setTop (mkF m 38 #[.val (.ref a), .val (.int (0 : Int32)), .val (.int nn), .val (.int (Int32.ofNat L'.length)), .val (.int kk), .val (.int ai)] []))) (fun τ κ => XS.icmpNo X0.here hx rfl (hb hby d6_35) rfl (flt hnl).1 κ) ?_
      refine own_go (S' := (T0.setTop (mkF m 40 #[.val (.ref a), .val (.int (0 : Int32)), .val (.int nn), .val (.int (Int32.ofNat L'.length)), .val (.int kk), .val (.int ai)] [(.int ai)]))) (fun τ κ => XS.iload X0.here hx rfl (hb hby d6_38) rfl κ) ?_
      refine own_go (S' := (T0.setTop (mkF m 41 #[.val (.ref a), .val (.int (0 : Int32)), .val (.int nn), .val (.int (Int32.ofNat L'.length)), .val (.int kk), .val (.int ai)] [(.ref a), (.int ai)]))) (fun τ κ => XS.aloadN X0.here hx rfl (hb hby d6_40) rfl rfl κ) ?_
      refine own_go (S' := (T0.setTop (mkF m 42 #[.val (.ref a), .val (.int (0 : Int32)), .val (.int nn), .val (.int (Int32.ofNat L'.length)), .val (.int kk), .val (.int ai)] [(.int (Int32.ofNat L'.length)), (.ref a), (.int ai)]))) (fun τ κ => XS.iloadN X0.here hx rfl (hb hby d6_41) rfl κ) ?_
      refine own_go (S' := (T0.setTop (mkF m 43 #[.val (.ref a), .val (.int (0 : Int32)), .val (.int nn), .val (.int (Int32.ofNat L'.length)), .val (.int kk), .val (.int ai)] [(.int y), (.int ai)]))) (own_iaload (j := (Int32.ofNat L'.length)) (v := (.int y)) A X0 hx hZ e0 hnl (i := L'.length) (own_clamp (by omega)) (own_l0 L' y _) (own_g0 L' y _) (hb hby d6_42)) ?_
      refine own_go (S' := (T0.setTop (mkF m 46 #[.val (.ref a), .val (.int (0 : Int32)), .val (.int nn), .val (.int (Int32.ofNat L'.length)), .val (.int kk), .val (.int ai)] []))) (fun τ κ => XS.icmpNo X0.here hx rfl (hb hby d6_43) rfl (tlt hc).2.1 κ) ?_
      refine own_go (S' := (T0.setTop (mkF m 47 #[.val (.ref a), .val (.int (0 : Int32)), .val (.int nn), .val (.int (Int32.ofNat L'.length)), .val (.int kk), .val (.int ai)] [(.ref a)]))) (fun τ κ => XS.aloadN X0.here hx rfl (hb hby d6_46) rfl rfl κ) ?_
      refine own_go (S' := (T0.setTop (mkF m 48 #[.val (.ref a), .val (.int (0 : Int32)), .val (.int nn), .val (.int (Int32.ofNat L'.length)), .val (.int kk), .val (.int ai)] [(.int (Int32.ofNat L'.length)), (.ref a)]))) (fun τ κ => XS.iloadN X0.here hx rfl (hb hby d6_47) rfl κ) ?_
      refine own_go (S' := (T0.setTop (mkF m 49 #[.val (.ref a), .val (.int (0 : Int32)), .val (.int nn), .val (.int (Int32.ofNat L'.length)), .val (.int kk), .val (.int ai)] [(.int (1 : Int32)), (.int (Int32.ofNat L'.length)), (.ref a)]))) (fun τ κ => XT.iconstV X0.here hx rfl (1 : Int32) (hb hby d6_48) (by decide) κ) ?_
      refine own_go (S' := (T0.setTop (mkF m 50 #[.val (.ref a), .val (.int (0 : Int32)), .val (.int nn), .val (.int (Int32.ofNat L'.length)), .val (.int kk), .val (.int ai)] [(.int ((Int32.ofNat L'.length) + (1 : Int32))), (.ref a)]))) (fun τ κ => XS.iadd X0.here hx rfl (hb hby d6_49) rfl κ) ?_
      refine own_go (S' := (T0.setTop (mkF m 51 #[.val (.ref a), .val (.int (0 : Int32)), .val (.int nn), .val (.int (Int32.ofNat L'.length)), .val (.int kk), .val (.int ai)] [(.ref a), (.int ((Int32.ofNat L'.length) + (1 : Int32))), (.ref a)]))) (fun τ κ => XS.aloadN X0.here hx rfl (hb hby d6_50) rfl rfl κ) ?_
      refine own_go (S' := (T0.setTop (mkF m 52 #[.val (.ref a), .val (.int (0 : Int32)), .val (.int nn), .val (.int (Int32.ofNat L'.length)), .val (.int kk), .val (.int ai)] [(.int (Int32.ofNat L'.length)), (.ref a), (.int ((Int32.ofNat L'.length) + (1 : Int32))), (.ref a)]))) (fun τ κ => XS.iloadN X0.here hx rfl (hb hby d6_51) rfl κ) ?_
      refine own_go (S' := (T0.setTop (mkF m 53 #[.val (.ref a), .val (.int (0 : Int32)), .val (.int nn), .val (.int (Int32.ofNat L'.length)), .val (.int kk), .val (.int ai)] [(.int y), (.int ((Int32.ofNat L'.length) + (1 : Int32))), (.ref a)]))) (own_iaload (j := (Int32.ofNat L'.length)) (v := (.int y)) A X0 hx hZ e0 hnl (i := L'.length) (own_clamp (by omega)) (own_l0 L' y _) (own_g0 L' y _) (hb hby d6_52)) ?_
      obtain ⟨T2, h2, X2, e2, W2, B2, st2⟩ := own_iastore (j := ((Int32.ofNat L'.length) + (1 : Int32))) (x := y) (Ls := #[.val (.ref a), .val (.int (0 : Int32)), .val (.int nn), .val (.int (Int32.ofNat L'.length)), .val (.int kk), .val (.int ai)]) (rest := []) A X0 hx hZ e0 (by rw [own_succ]; exact own_ofNat_nneg h31) (i := (L'.length + 1)) (by rw [own_succ]; exact own_clamp h31) (own_l1 L' y _ _) (hb hby d6_53)
      replace A := B2
      have N2 := Fr.snoc X2 N0 ga
      replace K := K.wr W2 (Or.inl (by simp))
      refine own_go (S' := (T2.setTop (mkF m 54 #[.val (.ref a), .val (.int (0 : Int32)), .val (.int nn), .val (.int (Int32.ofNat L'.length)), .val (.int kk), .val (.int ai)] []))) st2 ?_
      refine own_go (S' := (T2.setTop (mkF m 30 #[.val (.ref a), .val (.int (0 : Int32)), .val (.int nn), .val (.int (Int32.ofNat L'.length)), .val (.int kk), .val (.int ai)] []))) (fun τ κ => XS.goto X2.here hx rfl (pc0 := 54) (pc' := 30) rfl (hb hby d6_54) (by decide) (by decide) κ) ?_
      exact ih L' (y :: M) y T2 _ _ rfl (by rw [← hLM]; simp) (fun z hz => (List.mem_cons.mp hz).elim (fun u => u ▸ hay) (hM z)) X2 e2 (A.eq (by rw [own_s1]; rfl)) K N2
    · have hya : y.toInt ≤ ai.toInt := by rw [Int32.lt_iff_toInt_lt] at hc; omega
      refine own_go (S' := (T0.setTop (mkF m 33 #[.val (.ref a), .val (.int (0 : Int32)), .val (.int nn), .val (.int ((Int32.ofNat (L'.length + 1)) + (-1 : Int32))), .val (.int kk), .val (.int ai)] []))) (fun τ κ => XT.iincV X0.here hx rfl (-1 : Int32) (hb hby d6_30) (by decide) rfl (l' := #[.val (.ref a), .val (.int (0 : Int32)), .val (.int nn), .val (.int ((Int32.ofNat (L'.length + 1)) + (-1 : Int32))), .val (.int kk), .val (.int ai)]) rfl κ) ?_
      rw [own_pred]
      refine own_go (S' := (T0.setTop (mkF m 34 #[.val (.ref a), .val (.int (0 : Int32)), .val (.int nn), .val (.int (Int32.ofNat L'.length)), .val (.int kk), .val (.int ai)] [(.int (Int32.ofNat L'.length))]))) (fun τ κ => XS.iloadN X0.here hx rfl (hb hby d6_33) rfl κ) ?_
      refine own_go (S' := (T0.setTop (mkF m 35 #[.val (.ref a), .val (.int (0 : Int32)), .val (.int nn), .val (.int (Int32.ofNat L'.length)), .val (.int kk), .val (.int ai)] [(.int (0 : Int32)), (.int (Int32.ofNat L'.length))]))) (fun τ κ => XS.iloadN X0.here hx rfl (hb hby d6_34) rfl κ) ?_
      refine own_go (S' := (T0.setTop (mkF m 38 #[.val (.ref a), .val (.int (0 : Int32)), .val (.int nn), .val (.int (Int32.ofNat L'.length)), .val (.int kk), .val (.int ai)] []))) (fun τ κ => XS.icmpNo X0.here hx rfl (hb hby d6_35) rfl (flt hnl).1 κ) ?_
      refine own_go (S' := (T0.setTop (mkF m 40 #[.val (.ref a), .val (.int (0 : Int32)), .val (.int nn), .val (.int (Int32.ofNat L'.length)), .val (.int kk), .val (.int ai)] [(.int ai)]))) (fun τ κ => XS.iload X0.here hx rfl (hb hby d6_38) rfl κ) ?_
      refine own_go (S' := (T0.setTop (mkF m 41 #[.val (.ref a), .val (.int (0 : Int32)), .val (.int nn), .val (.int (Int32.ofNat L'.length)), .val (.int kk), .val (.int ai)] [(.ref a), (.int ai)]))) (fun τ κ => XS.aloadN X0.here hx rfl (hb hby d6_40) rfl rfl κ) ?_
      refine own_go (S' := (T0.setTop (mkF m 42 #[.val (.ref a), .val (.int (0 : Int32)), .val (.int nn), .val (.int (Int32.ofNat L'.length)), .val (.int kk), .val (.int ai)] [(.int (Int32.ofNat L'.length)), (.ref a), (.int ai)]))) (fun τ κ => XS.iloadN X0.here hx rfl (hb hby d6_41) rfl κ) ?_
      refine own_go (S' := (T0.setTop (mkF m 43 #[.val (.ref a), .val (.int (0 : Int32)), .val (.int nn), .val (.int (Int32.ofNat L'.length)), .val (.int kk), .val (.int ai)] [(.int y), (.int ai)]))) (own_iaload (j := (Int32.ofNat L'.length)) (v := (.int y)) A X0 hx hZ e0 hnl (i := L'.length) (own_clamp (by omega)) (own_l0 L' y _) (own_g0 L' y _) (hb hby d6_42)) ?_
      refine own_go (S' := (T0.setTop (mkF m 57 #[.val (.ref a), .val (.int (0 : Int32)), .val (.int nn), .val (.int (Int32.ofNat L'.length)), .val (.int kk), .val (.int ai)] []))) (fun τ κ => XS.icmpYes X0.here hx rfl (pc0 := 43) (pc' := 57) rfl (hb hby d6_43) rfl (flt hc).2.1 (by decide) (by decide) κ) ?_
      refine own_go (S' := (T0.setTop (mkF m 58 #[.val (.ref a), .val (.int (0 : Int32)), .val (.int nn), .val (.int (Int32.ofNat L'.length)), .val (.int kk), .val (.int ai)] [(.ref a)]))) (fun τ κ => XS.aloadN X0.here hx rfl (hb hby d6_57) rfl rfl κ) ?_
      refine own_go (S' := (T0.setTop (mkF m 59 #[.val (.ref a), .val (.int (0 : Int32)), .val (.int nn), .val (.int (Int32.ofNat L'.length)), .val (.int kk), .val (.int ai)] [(.int (Int32.ofNat L'.length)), (.ref a)]))) (fun τ κ => XS.iloadN X0.here hx rfl (hb hby d6_58) rfl κ) ?_
      refine own_go (S' := (T0.setTop (mkF m 60 #[.val (.ref a), .val (.int (0 : Int32)), .val (.int nn), .val (.int (Int32.ofNat L'.length)), .val (.int kk), .val (.int ai)] [(.int (1 : Int32)), (.int (Int32.ofNat L'.length)), (.ref a)]))) (fun τ κ => XT.iconstV X0.here hx rfl (1 : Int32) (hb hby d6_59) (by decide) κ) ?_
      refine own_go (S' := (T0.setTop (mkF m 61 #[.val (.ref a), .val (.int (0 : Int32)), .val (.int nn), .val (.int (Int32.ofNat L'.length)), .val (.int kk), .val (.int ai)] [(.int ((Int32.ofNat L'.length) + (1 : Int32))), (.ref a)]))) (fun τ κ => XS.iadd X0.here hx rfl (hb hby d6_60) rfl κ) ?_
      refine own_go (S' := (T0.setTop (mkF m 63 #[.val (.ref a), .val (.int (0 : Int32)), .val (.int nn), .val (.int (Int32.ofNat L'.length)), .val (.int kk), .val (.int ai)] [(.int ai), (.int ((Int32.ofNat L'.length) + (1 : Int32))), (.ref a)]))) (fun τ κ => XS.iload X0.here hx rfl (hb hby d6_61) rfl κ) ?_
      obtain ⟨T3, h3, X3, e3, W3, B3, st3⟩ := own_iastore (j := ((Int32.ofNat L'.length) + (1 : Int32))) (x := ai) (Ls := #[.val (.ref a), .val (.int (0 : Int32)), .val (.int nn), .val (.int (Int32.ofNat L'.length)), .val (.int kk), .val (.int ai)]) (rest := []) A X0 hx hZ e0 (by rw [own_succ]; exact own_ofNat_nneg h31) (i := (L'.length + 1)) (by rw [own_succ]; exact own_clamp h31) (own_l1 L' y _ _) (hb hby d6_63)
      replace A := B3
      have N3 := Fr.snoc X3 N0 ga
      replace K := K.wr W3 (Or.inl (by simp))
      refine own_go (S' := (T3.setTop (mkF m 64 #[.val (.ref a), .val (.int (0 : Int32)), .val (.int nn), .val (.int (Int32.ofNat L'.length)), .val (.int kk), .val (.int ai)] []))) st3 ?_
      exact Hout T3 _ _ _ (L' ++ y :: ai :: M) X3 e3 (A.eq (by rw [own_s1]; simp)) K N3 (own_ins1 (hLM ▸ hS) hM hya) (hLM ▸ own_perm1 L' M y ai)
set_option maxRecDepth 65536 in
set_option maxHeartbeats 40000000 in
theorem w6_3 {p : Program} {l : Launch} {e : Env} {s : State} {m : MethodId} {args : Array Value} {below : List Frame} {meth : Method} {c : Code} {Z : State} {a0 : Array Value} {h0 : Heap} {a : Addr} {n0 N : Nat} {xs : List Int32} (hx : p.tables.exec = Jvm.exec) (hby : c.code = jdk_2529_method_6_code) (hml : c.maxLocals = 6) (hret : meth.sig.returnType = none) (hlk : meth.locks = false) (hown : s.vm.findClass "java/util/DualPivotQuicksort" = some m.cls) (hZ : Z.Warmed39 s.vm) (hw : ∀ d ∈ tables_1, d.before a0 Z = true) (ga : n0 ≤ a) (hN : N < 2 ^ 31) :
    ∀ (R S : List Int32) (y : Int32) (o3 o5 : Slot) (T0 : State) (h : Heap) (locs : List Loc), ((o3 = .unset ∧ o5 = .unset) ∨ ∃ z z' : Int32, o3 = .val (.int z) ∧ o5 = .val (.int z')) → (S ++ y :: R).length = N → own_sorted (S ++ [y]) → (S ++ y :: R).Perm xs → Stand p l e ({ frames := 0, cells := 0, slots := 0, locals := 0 } : Room) s m args below meth c T0 locs 0 0 → T0.heap = h → own_L Z h a .int (List.map Value.int (S ++ y :: R)) → Keep h0 h [a] → Fr n0 locs → own_End p e below s (fun v h L => v = none ∧ Fr n0 L ∧ ∃ ys : List Int32, ys.Perm xs ∧ own_sorted ys ∧ own_L Z h a .int (List.map Value.int ys) ∧ Keep h0 h [a]) 0 0 (T0.setTop (mkF m 3 #[.val (.ref a), .val (.int (0 : Int32)), .val (.int (Int32.ofNat N)), o3, .val (.int (Int32.ofNat S.length)), o5] [])) := by
  intro R
  induction R with
  | nil =>
    intro S y o3 o5 T0 h locs ho hlen hS hp X0 e0 A K N0
    have hnl : ¬ Int32.ofNat S.length + (1 : Int32) < Int32.ofNat N := by rw [own_succ, own_ofNat_lt (by simp at hlen; omega) hN]; simp at hlen; omega
    rcases ho with ⟨rfl, rfl⟩ | ⟨z, z', rfl, rfl⟩
    ·
      refine own_go (S' := (T0.setTop (mkF m 6 #[.val (.ref a), .val (.int (0 : Int32)), .val (.int (Int32.ofNat N)), .unset, .val (.int ((Int32.ofNat S.length) + (1 : Int32))), .unset] []))) (fun τ κ => XT.iincV X0.here hx rfl (1 : Int32) (hb hby d6_3) (by decide) rfl (l' := #[.val (.ref a), .val (.int (0 : Int32)), .val (.int (Int32.ofNat N)), .unset, .val (.int ((Int32.ofNat S.length) + (1 : Int32))), .unset]) rfl κ) ?_
      refine own_go (S' := (T0.setTop (mkF m 8 #[.val (.ref a), .val (.int (0 : Int32)), .val (.int (Int32.ofNat N)), .unset, .val (.int ((Int32.ofNat S.length) + (1 : Int32))), .unset] [(.int ((Int32.ofNat S.length) + (1 : Int32)))]))) (fun τ κ => XS.iload X0.here hx rfl (hb hby d6_6) rfl κ) ?_
      refine own_go (S' := (T0.setTop (mkF m 9 #[.val (.ref a), .val (.int (0 : Int32)), .val (.int (Int32.ofNat N)), .unset, .val (.int ((Int32.ofNat S.length) + (1 : Int32))), .unset] [(.int (Int32.ofNat N)), (.int ((Int32.ofNat S.length) + (1 : Int32)))]))) (fun τ κ => XS.iloadN X0.here hx rfl (hb hby d6_8) rfl κ) ?_
      refine own_go (S' := (T0.setTop (mkF m 67 #[.val (.ref a), .val (.int (0 : Int32)), .val (.int (Int32.ofNat N)), .unset, .val (.int ((Int32.ofNat S.length) + (1 : Int32))), .unset] []))) (fun τ κ => XS.icmpYes X0.here hx rfl (pc0 := 9) (pc' := 67) rfl (hb hby d6_9) rfl (flt hnl).2.1 (by decide) (by decide) κ) ?_
      exact own_retV X0 hx hret hlk (hb hby d6_67) (Nat.le_refl _) (Nat.le_refl _) ⟨rfl, N0, S ++ [y], hp, hS, by rw [e0]; exact A, by rw [e0]; exact K⟩
    ·
      refine own_go (S' := (T0.setTop (mkF m 6 #[.val (.ref a), .val (.int (0 : Int32)), .val (.int (Int32.ofNat N)), .val (.int z), .val (.int ((Int32.ofNat S.length) + (1 : Int32))), .val (.int z')] []))) (fun τ κ => XT.iincV X0.here hx rfl (1 : Int32) (hb hby d6_3) (by decide) rfl (l' := #[.val (.ref a), .val (.int (0 : Int32)), .val (.int (Int32.ofNat N)), .val (.int z), .val (.int ((Int32.ofNat S.length) + (1 : Int32))), .val (.int z')]) rfl κ) ?_
      refine own_go (S' := (T0.setTop (mkF m 8 #[.val (.ref a), .val (.int (0 : Int32)), .val (.int (Int32.ofNat N)), .val (.int z), .val (.int ((Int32.ofNat S.length) + (1 : Int32))), .val (.int z')] [(.int ((Int32.ofNat S.length) + (1 : Int32)))]))) (fun τ κ => XS.iload X0.here hx rfl (hb hby d6_6) rfl κ) ?_
      refine own_go (S' := (T0.setTop (mkF m 9 #[.val (.ref a), .val (.int (0 : Int32)), .val (.int (Int32.ofNat N)), .val (.int z), .val (.int ((Int32.ofNat S.length) + (1 : Int32))), .val (.int z')] [(.int (Int32.ofNat N)), (.int ((Int32.ofNat S.length) + (1 : Int32)))]))) (fun τ κ => XS.iloadN X0.here hx rfl (hb hby d6_8) rfl κ) ?_
      refine own_go (S' := (T0.setTop (mkF m 67 #[.val (.ref a), .val (.int (0 : Int32)), .val (.int (Int32.ofNat N)), .val (.int z), .val (.int ((Int32.ofNat S.length) + (1 : Int32))), .val (.int z')] []))) (fun τ κ => XS.icmpYes X0.here hx rfl (pc0 := 9) (pc' := 67) rfl (hb hby d6_9) rfl (flt hnl).2.1 (by decide) (by decide) κ) ?_
      exact own_retV X0 hx hret hlk (hb hby d6_67) (Nat.le_refl _) (Nat.le_refl _) ⟨rfl, N0, S ++ [y], hp, hS, by rw [e0]; exact A, by rw [e0]; exact K⟩
  | cons x R ih =>
    intro S y o3 o5 T0 h locs ho hlen hS hp X0 e0 A K N0
    have hlen' : S.length + 1 + 1 + R.length = N := by simp at hlen; omega
    have h31 : S.length + 1 < 2 ^ 31 := by omega
    have hlt : Int32.ofNat S.length + (1 : Int32) < Int32.ofNat N := by rw [own_succ, own_ofNat_lt h31 hN]; omega
    by_cases hc : x < y
    · have hxy : x.toInt < y.toInt := Int32.lt_iff_toInt_lt.mp hc
      rcases ho with ⟨rfl, rfl⟩ | ⟨z, z', rfl, rfl⟩
      ·
        refine own_go (S' := (T0.setTop (mkF m 6 #[.val (.ref a), .val (.int (0 : Int32)), .val (.int (Int32.ofNat N)), .unset, .val (.int ((Int32.ofNat S.length) + (1 : Int32))), .unset] []))) (fun τ κ => XT.iincV X0.here hx rfl (1 : Int32) (hb hby d6_3) (by decide) rfl (l' := #[.val (.ref a), .val (.int (0 : Int32)), .val (.int (Int32.ofNat N)), .unset, .val (.int ((Int32.ofNat S.length) + (1 : Int32))), .unset]) rfl κ) ?_
        refine own_go (S' := (T0.setTop (mkF m 8 #[.val (.ref a), .val (.int (0 : Int32)), .val (.int (Int32.ofNat N)), .unset, .val (.int ((Int32.ofNat S.length) + (1 : Int32))), .unset] [(.int ((Int32.ofNat S.length) + (1 : Int32)))]))) (fun τ κ => XS.iload X0.here hx rfl (hb hby d6_6) rfl κ) ?_
        refine own_go (S' := (T0.setTop (mkF m 9 #[.val (.ref a), .val (.int (0 : Int32)), .val (.int (Int32.ofNat N)), .unset, .val (.int ((Int32.ofNat S.length) + (1 : Int32))), .unset] [(.int (Int32.ofNat N)), (.int ((Int32.ofNat S.length) + (1 : Int32)))]))) (fun τ κ => XS.iloadN X0.here hx rfl (hb hby d6_8) rfl κ) ?_
        refine own_go (S' := (T0.setTop (mkF m 12 #[.val (.ref a), .val (.int (0 : Int32)), .val (.int (Int32.ofNat N)), .unset, .val (.int ((Int32.ofNat S.length) + (1 : Int32))), .unset] []))) (fun τ κ => XS.icmpNo X0.here hx rfl (hb hby d6_9) rfl (tlt hlt).2.1 κ) ?_
        rw [own_succ]
        refine own_go (S' := (T0.setTop (mkF m 13 #[.val (.ref a), .val (.int (0 : Int32)), .val (.int (Int32.ofNat N)), .unset, .val (.int (Int32.ofNat (S.length + 1))), .unset] [(.ref a)]))) (fun τ κ => XS.aloadN X0.here hx rfl (hb hby d6_12) rfl rfl κ) ?_
        refine own_go (S' := (T0.setTop (mkF m 15 #[.val (.ref a), .val (.int (0 : Int32)), .val (.int (Int32.ofNat N)), .unset, .val (.int (Int32.ofNat (S.length + 1))), .unset] [(.int (Int32.ofNat (S.length + 1))), (.ref a)]))) (fun τ κ => XS.iload X0.here hx rfl (hb hby d6_13) rfl κ) ?_
        refine own_go (S' := (T0.setTop (mkF m 16 #[.val (.ref a), .val (.int (0 : Int32)), .val (.int (Int32.ofNat N)), .unset, .val (.int (Int32.ofNat (S.length + 1))), .unset] [(.int (Int32.ofNat (S.length + 1))), (.int (Int32.ofNat (S.length + 1))), (.ref a)]))) (fun τ κ => XS.dup X0.here hx rfl (hb hby d6_15) rfl rfl κ) ?_
        refine own_go (S' := (T0.setTop (mkF m 17 #[.val (.ref a), .val (.int (0 : Int32)), .val (.int (Int32.ofNat N)), .val (.int (Int32.ofNat (S.length + 1))), .val (.int (Int32.ofNat (S.length + 1))), .unset] [(.int (Int32.ofNat (S.length + 1))), (.ref a)]))) (fun τ κ => XS.istoreN X0.here hx rfl (hb hby d6_16) rfl (l' := #[.val (.ref a), .val (.int (0 : Int32)), .val (.int (Int32.ofNat N)), .val (.int (Int32.ofNat (S.length + 1))), .val (.int (Int32.ofNat (S.length + 1))), .unset]) rfl κ) ?_
        refine own_go (S' := (T0.setTop (mkF m 18 #[.val (.ref a), .val (.int (0 : Int32)), .val (.int (Int32.ofNat N)), .val (.int (Int32.ofNat (S.length + 1))), .val (.int (Int32.ofNat (S.length + 1))), .unset] [(.int x)]))) (own_iaload (j := (Int32.ofNat (S.length + 1))) (v := (.int x)) A X0 hx hZ e0 (own_ofNat_nneg h31) (i := (S.length + 1)) (own_clamp h31) (own_l1 S y x R) (own_g1 S y x R) (hb hby d6_17)) ?_
        refine own_go (S' := (T0.setTop (mkF m 20 #[.val (.ref a), .val (.int (0 : Int32)), .val (.int (Int32.ofNat N)), .val (.int (Int32.ofNat (S.length + 1))), .val (.int (Int32.ofNat (S.length + 1))), .val (.int x)] []))) (fun τ κ => XS.istore X0.here hx rfl (hb hby d6_18) rfl (l' := #[.val (.ref a), .val (.int (0 : Int32)), .val (.int (Int32.ofNat N)), .val (.int (Int32.ofNat (S.length + 1))), .val (.int (Int32.ofNat (S.length + 1))), .val (.int x)]) rfl κ) ?_
        refine own_go (S' := (T0.setTop (mkF m 22 #[.val (.ref a), .val (.int (0 : Int32)), .val (.int (Int32.ofNat N)), .val (.int (Int32.ofNat (S.length + 1))), .val (.int (Int32.ofNat (S.length + 1))), .val (.int x)] [(.int x)]))) (fun τ κ => XS.iload X0.here hx rfl (hb hby d6_20) rfl κ) ?_
        refine own_go (S' := (T0.setTop (mkF m 23 #[.val (.ref a), .val (.int (0 : Int32)), .val (.int (Int32.ofNat N)), .val (.int (Int32.ofNat (S.length + 1))), .val (.int (Int32.ofNat (S.length + 1))), .val (.int x)] [(.ref a), (.int x)]))) (fun τ κ => XS.aloadN X0.here hx rfl (hb hby d6_22) rfl rfl κ) ?_
        refine own_go (S' := (T0.setTop (mkF m 24 #[.val (.ref a), .val (.int (0 : Int32)), .val (.int (Int32.ofNat N)), .val (.int (Int32.ofNat (S.length + 1))), .val (.int (Int32.ofNat (S.length + 1))), .val (.int x)] [(.int (Int32.ofNat (S.length + 1))), (.ref a), (.int x)]))) (fun τ κ => XS.iloadN X0.here hx rfl (hb hby d6_23) rfl κ) ?_
        refine own_go (S' := (T0.setTop (mkF m 25 #[.val (.ref a), .val (.int (0 : Int32)), .val (.int (Int32.ofNat N)), .val (.int (Int32.ofNat (S.length + 1))), .val (.int (Int32.ofNat (S.length + 1))), .val (.int x)] [(.int (1 : Int32)), (.int (Int32.ofNat (S.length + 1))), (.ref a), (.int x)]))) (fun τ κ => XT.iconstV X0.here hx rfl (1 : Int32) (hb hby d6_24) (by decide) κ) ?_
        refine own_go (S' := (T0.setTop (mkF m 26 #[.val (.ref a), .val (.int (0 : Int32)), .val (.int (Int32.ofNat N)), .val (.int (Int32.ofNat (S.length + 1))), .val (.int (Int32.ofNat (S.length + 1))), .val (.int x)] [(.int ((Int32.ofNat (S.length + 1)) - (1 : Int32))), (.ref a), (.int x)]))) (fun τ κ => XS.isub X0.here hx rfl (hb hby d6_25) rfl κ) ?_
        refine own_go (S' := (T0.setTop (mkF m 27 #[.val (.ref a), .val (.int (0 : Int32)), .val (.int (Int32.ofNat N)), .val (.int (Int32.ofNat (S.length + 1))), .val (.int (Int32.ofNat (S.length + 1))), .val (.int x)] [(.int y), (.int x)]))) (own_iaload (j := ((Int32.ofNat (S.length + 1)) - (1 : Int32))) (v := (.int y)) A X0 hx hZ e0 (by rw [own_pred']; exact own_ofNat_nneg (by omega)) (i := S.length) (by rw [own_pred']; exact own_clamp (by omega)) (own_l0 S y _) (own_g0 S y _) (hb hby d6_26)) ?_
        refine own_go (S' := (T0.setTop (mkF m 30 #[.val (.ref a), .val (.int (0 : Int32)), .val (.int (Int32.ofNat N)), .val (.int (Int32.ofNat (S.length + 1))), .val (.int (Int32.ofNat (S.length + 1))), .val (.int x)] []))) (fun τ κ => XS.icmpNo X0.here hx rfl (hb hby d6_27) rfl (tlt hc).2.1 κ) ?_
        refine w6_30 (S := S ++ [y]) (R := R) hx hby hml hret hlk hown hZ hw ga hS (by simp; omega) ?_ (S.length + 1) (S ++ [y]) [] x T0 _ _ (by simp) (by simp) (fun z hz => nomatch hz) X0 e0 (A.eq (by simp)) K N0
        intro T h locs z zs X1 e1 A K N1 hs1 hp1
        obtain ⟨zs', w, rfl⟩ : ∃ zs' w, zs = zs' ++ [w] := by
          rcases List.eq_nil_or_concat zs with rfl | ⟨L', y', rfl⟩
          · exact absurd hp1.length_eq (by simp)
          · exact ⟨L', y', by simp⟩
        have hpp : ((zs' ++ [w]) ++ R).Perm ((S ++ [y]) ++ x :: R) := (List.Perm.append_right R hp1).trans (List.perm_middle (l₁ := S ++ [y]) (l₂ := R) (a := x)).symm
        have hl1 : zs'.length = S.length + 1 := by have := hp1.length_eq; simp at this; omega
        refine own_go (S' := (T.setTop (mkF m 3 #[.val (.ref a), .val (.int (0 : Int32)), .val (.int (Int32.ofNat N)), .val (.int z), .val (.int (Int32.ofNat (S.length + 1))), .val (.int x)] []))) (fun τ κ => XS.goto X1.here hx rfl (pc0 := 64) (pc' := 3) rfl (hb hby d6_64) (by decide) (by decide) κ) ?_
        rw [← hl1]
        exact ih zs' w _ _ T _ _ (Or.inr ⟨_, _, rfl, rfl⟩) (by simp; omega) hs1 (List.Perm.trans (by simpa using hpp) hp) X1 e1 (A.eq (by simp)) K N1
      ·
        refine own_go (S' := (T0.setTop (mkF m 6 #[.val (.ref a), .val (.int (0 : Int32)), .val (.int (Int32.ofNat N)), .val (.int z), .val (.int ((Int32.ofNat S.length) + (1 : Int32))), .val (.int z')] []))) (fun τ κ => XT.iincV X0.here hx rfl (1 : Int32) (hb hby d6_3) (by decide) rfl (l' := #[.val (.ref a), .val (.int (0 : Int32)), .val (.int (Int32.ofNat N)), .val (.int z), .val (.int ((Int32.ofNat S.length) + (1 : Int32))), .val (.int z')]) rfl κ) ?_
        refine own_go (S' := (T0.setTop (mkF m 8 #[.val (.ref a), .val (.int (0 : Int32)), .val (.int (Int32.ofNat N)), .val (.int z), .val (.int ((Int32.ofNat S.length) + (1 : Int32))), .val (.int z')] [(.int ((Int32.ofNat S.length) + (1 : Int32)))]))) (fun τ κ => XS.iload X0.here hx rfl (hb hby d6_6) rfl κ) ?_
        refine own_go (S' := (T0.setTop (mkF m 9 #[.val (.ref a), .val (.int (0 : Int32)), .val (.int (Int32.ofNat N)), .val (.int z), .val (.int ((Int32.ofNat S.length) + (1 : Int32))), .val (.int z')] [(.int (Int32.ofNat N)), (.int ((Int32.ofNat S.length) + (1 : Int32)))]))) (fun τ κ => XS.iloadN X0.here hx rfl (hb hby d6_8) rfl κ) ?_
        refine own_go (S' := (T0.setTop (mkF m 12 #[.val (.ref a), .val (.int (0 : Int32)), .val (.int (Int32.ofNat N)), .val (.int z), .val (.int ((Int32.ofNat S.length) + (1 : Int32))), .val (.int z')] []))) (fun τ κ => XS.icmpNo X0.here hx rfl (hb hby d6_9) rfl (tlt hlt).2.1 κ) ?_
        rw [own_succ]
        refine own_go (S' := (T0.setTop (mkF m 13 #[.val (.ref a), .val (.int (0 : Int32)), .val (.int (Int32.ofNat N)), .val (.int z), .val (.int (Int32.ofNat (S.length + 1))), .val (.int z')] [(.ref a)]))) (fun τ κ => XS.aloadN X0.here hx rfl (hb hby d6_12) rfl rfl κ) ?_
        refine own_go (S' := (T0.setTop (mkF m 15 #[.val (.ref a), .val (.int (0 : Int32)), .val (.int (Int32.ofNat N)), .val (.int z), .val (.int (Int32.ofNat (S.length + 1))), .val (.int z')] [(.int (Int32.ofNat (S.length + 1))), (.ref a)]))) (fun τ κ => XS.iload X0.here hx rfl (hb hby d6_13) rfl κ) ?_
        refine own_go (S' := (T0.setTop (mkF m 16 #[.val (.ref a), .val (.int (0 : Int32)), .val (.int (Int32.ofNat N)), .val (.int z), .val (.int (Int32.ofNat (S.length + 1))), .val (.int z')] [(.int (Int32.ofNat (S.length + 1))), (.int (Int32.ofNat (S.length + 1))), (.ref a)]))) (fun τ κ => XS.dup X0.here hx rfl (hb hby d6_15) rfl rfl κ) ?_
        refine own_go (S' := (T0.setTop (mkF m 17 #[.val (.ref a), .val (.int (0 : Int32)), .val (.int (Int32.ofNat N)), .val (.int (Int32.ofNat (S.length + 1))), .val (.int (Int32.ofNat (S.length + 1))), .val (.int z')] [(.int (Int32.ofNat (S.length + 1))), (.ref a)]))) (fun τ κ => XS.istoreN X0.here hx rfl (hb hby d6_16) rfl (l' := #[.val (.ref a), .val (.int (0 : Int32)), .val (.int (Int32.ofNat N)), .val (.int (Int32.ofNat (S.length + 1))), .val (.int (Int32.ofNat (S.length + 1))), .val (.int z')]) rfl κ) ?_
        refine own_go (S' := (T0.setTop (mkF m 18 #[.val (.ref a), .val (.int (0 : Int32)), .val (.int (Int32.ofNat N)), .val (.int (Int32.ofNat (S.length + 1))), .val (.int (Int32.ofNat (S.length + 1))), .val (.int z')] [(.int x)]))) (own_iaload (j := (Int32.ofNat (S.length + 1))) (v := (.int x)) A X0 hx hZ e0 (own_ofNat_nneg h31) (i := (S.length + 1)) (own_clamp h31) (own_l1 S y x R) (own_g1 S y x R) (hb hby d6_17)) ?_
        refine own_go (S' := (T0.setTop (mkF m 20 #[.val (.ref a), .val (.int (0 : Int32)), .val (.int (Int32.ofNat N)), .val (.int (Int32.ofNat (S.length + 1))), .val (.int (Int32.ofNat (S.length + 1))), .val (.int x)] []))) (fun τ κ => XS.istore X0.here hx rfl (hb hby d6_18) rfl (l' := #[.val (.ref a), .val (.int (0 : Int32)), .val (.int (Int32.ofNat N)), .val (.int (Int32.ofNat (S.length + 1))), .val (.int (Int32.ofNat (S.length + 1))), .val (.int x)]) rfl κ) ?_
        refine own_go (S' := (T0.setTop (mkF m 22 #[.val (.ref a), .val (.int (0 : Int32)), .val (.int (Int32.ofNat N)), .val (.int (Int32.ofNat (S.length + 1))), .val (.int (Int32.ofNat (S.length + 1))), .val (.int x)] [(.int x)]))) (fun τ κ => XS.iload X0.here hx rfl (hb hby d6_20) rfl κ) ?_
        refine own_go (S' := (T0.setTop (mkF m 23 #[.val (.ref a), .val (.int (0 : Int32)), .val (.int (Int32.ofNat N)), .val (.int (Int32.ofNat (S.length + 1))), .val (.int (Int32.ofNat (S.length + 1))), .val (.int x)] [(.ref a), (.int x)]))) (fun τ κ => XS.aloadN X0.here hx rfl (hb hby d6_22) rfl rfl κ) ?_
        refine own_go (S' := (T0.setTop (mkF m 24 #[.val (.ref a), .val (.int (0 : Int32)), .val (.int (Int32.ofNat N)), .val (.int (Int32.ofNat (S.length + 1))), .val (.int (Int32.ofNat (S.length + 1))), .val (.int x)] [(.int (Int32.ofNat (S.length + 1))), (.ref a), (.int x)]))) (fun τ κ => XS.iloadN X0.here hx rfl (hb hby d6_23) rfl κ) ?_
        refine own_go (S' := (T0.setTop (mkF m 25 #[.val (.ref a), .val (.int (0 : Int32)), .val (.int (Int32.ofNat N)), .val (.int (Int32.ofNat (S.length + 1))), .val (.int (Int32.ofNat (S.length + 1))), .val (.int x)] [(.int (1 : Int32)), (.int (Int32.ofNat (S.length + 1))), (.ref a), (.int x)]))) (fun τ κ => XT.iconstV X0.here hx rfl (1 : Int32) (hb hby d6_24) (by decide) κ) ?_
        refine own_go (S' := (T0.setTop (mkF m 26 #[.val (.ref a), .val (.int (0 : Int32)), .val (.int (Int32.ofNat N)), .val (.int (Int32.ofNat (S.length + 1))), .val (.int (Int32.ofNat (S.length + 1))), .val (.int x)] [(.int ((Int32.ofNat (S.length + 1)) - (1 : Int32))), (.ref a), (.int x)]))) (fun τ κ => XS.isub X0.here hx rfl (hb hby d6_25) rfl κ) ?_
        refine own_go (S' := (T0.setTop (mkF m 27 #[.val (.ref a), .val (.int (0 : Int32)), .val (.int (Int32.ofNat N)), .val (.int (Int32.ofNat (S.length + 1))), .val (.int (Int32.ofNat (S.length + 1))), .val (.int x)] [(.int y), (.int x)]))) (own_iaload (j := ((Int32.ofNat (S.length + 1)) - (1 : Int32))) (v := (.int y)) A X0 hx hZ e0 (by rw [own_pred']; exact own_ofNat_nneg (by omega)) (i := S.length) (by rw [own_pred']; exact own_clamp (by omega)) (own_l0 S y _) (own_g0 S y _) (hb hby d6_26)) ?_
        refine own_go (S' := (T0.setTop (mkF m 30 #[.val (.ref a), .val (.int (0 : Int32)), .val (.int (Int32.ofNat N)), .val (.int (Int32.ofNat (S.length + 1))), .val (.int (Int32.ofNat (S.length + 1))), .val (.int x)] []))) (fun τ κ => XS.icmpNo X0.here hx rfl (hb hby d6_27) rfl (tlt hc).2.1 κ) ?_
        refine w6_30 (S := S ++ [y]) (R := R) hx hby hml hret hlk hown hZ hw ga hS (by simp; omega) ?_ (S.length + 1) (S ++ [y]) [] x T0 _ _ (by simp) (by simp) (fun z hz => nomatch hz) X0 e0 (A.eq (by simp)) K N0
        intro T h locs z zs X1 e1 A K N1 hs1 hp1
        obtain ⟨zs', w, rfl⟩ : ∃ zs' w, zs = zs' ++ [w] := by
          rcases List.eq_nil_or_concat zs with rfl | ⟨L', y', rfl⟩
          · exact absurd hp1.length_eq (by simp)
          · exact ⟨L', y', by simp⟩
        have hpp : ((zs' ++ [w]) ++ R).Perm ((S ++ [y]) ++ x :: R) := (List.Perm.append_right R hp1).trans (List.perm_middle (l₁ := S ++ [y]) (l₂ := R) (a := x)).symm
        have hl1 : zs'.length = S.length + 1 := by have := hp1.length_eq; simp at this; omega
        refine own_go (S' := (T.setTop (mkF m 3 #[.val (.ref a), .val (.int (0 : Int32)), .val (.int (Int32.ofNat N)), .val (.int z), .val (.int (Int32.ofNat (S.length + 1))), .val (.int x)] []))) (fun τ κ => XS.goto X1.here hx rfl (pc0 := 64) (pc' := 3) rfl (hb hby d6_64) (by decide) (by decide) κ) ?_
        rw [← hl1]
        exact ih zs' w _ _ T _ _ (Or.inr ⟨_, _, rfl, rfl⟩) (by simp; omega) hs1 (List.Perm.trans (by simpa using hpp) hp) X1 e1 (A.eq (by simp)) K N1
    · have hyx : y.toInt ≤ x.toInt := by rw [Int32.lt_iff_toInt_lt] at hc; omega
      rcases ho with ⟨rfl, rfl⟩ | ⟨z, z', rfl, rfl⟩
      ·
        refine own_go (S' := (T0.setTop (mkF m 6 #[.val (.ref a), .val (.int (0 : Int32)), .val (.int (Int32.ofNat N)), .unset, .val (.int ((Int32.ofNat S.length) + (1 : Int32))), .unset] []))) (fun τ κ => XT.iincV X0.here hx rfl (1 : Int32) (hb hby d6_3) (by decide) rfl (l' := #[.val (.ref a), .val (.int (0 : Int32)), .val (.int (Int32.ofNat N)), .unset, .val (.int ((Int32.ofNat S.length) + (1 : Int32))), .unset]) rfl κ) ?_
        refine own_go (S' := (T0.setTop (mkF m 8 #[.val (.ref a), .val (.int (0 : Int32)), .val (.int (Int32.ofNat N)), .unset, .val (.int ((Int32.ofNat S.length) + (1 : Int32))), .unset] [(.int ((Int32.ofNat S.length) + (1 : Int32)))]))) (fun τ κ => XS.iload X0.here hx rfl (hb hby d6_6) rfl κ) ?_
        refine own_go (S' := (T0.setTop (mkF m 9 #[.val (.ref a), .val (.int (0 : Int32)), .val (.int (Int32.ofNat N)), .unset, .val (.int ((Int32.ofNat S.length) + (1 : Int32))), .unset] [(.int (Int32.ofNat N)), (.int ((Int32.ofNat S.length) + (1 : Int32)))]))) (fun τ κ => XS.iloadN X0.here hx rfl (hb hby d6_8) rfl κ) ?_
        refine own_go (S' := (T0.setTop (mkF m 12 #[.val (.ref a), .val (.int (0 : Int32)), .val (.int (Int32.ofNat N)), .unset, .val (.int ((Int32.ofNat S.length) + (1 : Int32))), .unset] []))) (fun τ κ => XS.icmpNo X0.here hx rfl (hb hby d6_9) rfl (tlt hlt).2.1 κ) ?_
        rw [own_succ]
        refine own_go (S' := (T0.setTop (mkF m 13 #[.val (.ref a), .val (.int (0 : Int32)), .val (.int (Int32.ofNat N)), .unset, .val (.int (Int32.ofNat (S.length + 1))), .unset] [(.ref a)]))) (fun τ κ => XS.aloadN X0.here hx rfl (hb hby d6_12) rfl rfl κ) ?_
        refine own_go (S' := (T0.setTop (mkF m 15 #[.val (.ref a), .val (.int (0 : Int32)), .val (.int (Int32.ofNat N)), .unset, .val (.int (Int32.ofNat (S.length + 1))), .unset] [(.int (Int32.ofNat (S.length + 1))), (.ref a)]))) (fun τ κ => XS.iload X0.here hx rfl (hb hby d6_13) rfl κ) ?_
        refine own_go (S' := (T0.setTop (mkF m 16 #[.val (.ref a), .val (.int (0 : Int32)), .val (.int (Int32.ofNat N)), .unset, .val (.int (Int32.ofNat (S.length + 1))), .unset] [(.int (Int32.ofNat (S.length + 1))), (.int (Int32.ofNat (S.length + 1))), (.ref a)]))) (fun τ κ => XS.dup X0.here hx rfl (hb hby d6_15) rfl rfl κ) ?_
        refine own_go (S' := (T0.setTop (mkF m 17 #[.val (.ref a), .val (.int (0 : Int32)), .val (.int (Int32.ofNat N)), .val (.int (Int32.ofNat (S.length + 1))), .val (.int (Int32.ofNat (S.length + 1))), .unset] [(.int (Int32.ofNat (S.length + 1))), (.ref a)]))) (fun τ κ => XS.istoreN X0.here hx rfl (hb hby d6_16) rfl (l' := #[.val (.ref a), .val (.int (0 : Int32)), .val (.int (Int32.ofNat N)), .val (.int (Int32.ofNat (S.length + 1))), .val (.int (Int32.ofNat (S.length + 1))), .unset]) rfl κ) ?_
        refine own_go (S' := (T0.setTop (mkF m 18 #[.val (.ref a), .val (.int (0 : Int32)), .val (.int (Int32.ofNat N)), .val (.int (Int32.ofNat (S.length + 1))), .val (.int (Int32.ofNat (S.length + 1))), .unset] [(.int x)]))) (own_iaload (j := (Int32.ofNat (S.length + 1))) (v := (.int x)) A X0 hx hZ e0 (own_ofNat_nneg h31) (i := (S.length + 1)) (own_clamp h31) (own_l1 S y x R) (own_g1 S y x R) (hb hby d6_17)) ?_
        refine own_go (S' := (T0.setTop (mkF m 20 #[.val (.ref a), .val (.int (0 : Int32)), .val (.int (Int32.ofNat N)), .val (.int (Int32.ofNat (S.length + 1))), .val (.int (Int32.ofNat (S.length + 1))), .val (.int x)] []))) (fun τ κ => XS.istore X0.here hx rfl (hb hby d6_18) rfl (l' := #[.val (.ref a), .val (.int (0 : Int32)), .val (.int (Int32.ofNat N)), .val (.int (Int32.ofNat (S.length + 1))), .val (.int (Int32.ofNat (S.length + 1))), .val (.int x)]) rfl κ) ?_
        refine own_go (S' := (T0.setTop (mkF m 22 #[.val (.ref a), .val (.int (0 : Int32)), .val (.int (Int32.ofNat N)), .val (.int (Int32.ofNat (S.length + 1))), .val (.int (Int32.ofNat (S.length + 1))), .val (.int x)] [(.int x)]))) (fun τ κ => XS.iload X0.here hx rfl (hb hby d6_20) rfl κ) ?_
        refine own_go (S' := (T0.setTop (mkF m 23 #[.val (.ref a), .val (.int (0 : Int32)), .val (.int (Int32.ofNat N)), .val (.int (Int32.ofNat (S.length + 1))), .val (.int (Int32.ofNat (S.length + 1))), .val (.int x)] [(.ref a), (.int x)]))) (fun τ κ => XS.aloadN X0.here hx rfl (hb hby d6_22) rfl rfl κ) ?_
        refine own_go (S' := (T0.setTop (mkF m 24 #[.val (.ref a), .val (.int (0 : Int32)), .val (.int (Int32.ofNat N)), .val (.int (Int32.ofNat (S.length + 1))), .val (.int (Int32.ofNat (S.length + 1))), .val (.int x)] [(.int (Int32.ofNat (S.length + 1))), (.ref a), (.int x)]))) (fun τ κ => XS.iloadN X0.here hx rfl (hb hby d6_23) rfl κ) ?_
        refine own_go (S' := (T0.setTop (mkF m 25 #[.val (.ref a), .val (.int (0 : Int32)), .val (.int (Int32.ofNat N)), .val (.int (Int32.ofNat (S.length + 1))), .val (.int (Int32.ofNat (S.length + 1))), .val (.int x)] [(.int (1 : Int32)), (.int (Int32.ofNat (S.length + 1))), (.ref a), (.int x)]))) (fun τ κ => XT.iconstV X0.here hx rfl (1 : Int32) (hb hby d6_24) (by decide) κ) ?_
        refine own_go (S' := (T0.setTop (mkF m 26 #[.val (.ref a), .val (.int (0 : Int32)), .val (.int (Int32.ofNat N)), .val (.int (Int32.ofNat (S.length + 1))), .val (.int (Int32.ofNat (S.length + 1))), .val (.int x)] [(.int ((Int32.ofNat (S.length + 1)) - (1 : Int32))), (.ref a), (.int x)]))) (fun τ κ => XS.isub X0.here hx rfl (hb hby d6_25) rfl κ) ?_
        refine own_go (S' := (T0.setTop (mkF m 27 #[.val (.ref a), .val (.int (0 : Int32)), .val (.int (Int32.ofNat N)), .val (.int (Int32.ofNat (S.length + 1))), .val (.int (Int32.ofNat (S.length + 1))), .val (.int x)] [(.int y), (.int x)]))) (own_iaload (j := ((Int32.ofNat (S.length + 1)) - (1 : Int32))) (v := (.int y)) A X0 hx hZ e0 (by rw [own_pred']; exact own_ofNat_nneg (by omega)) (i := S.length) (by rw [own_pred']; exact own_clamp (by omega)) (own_l0 S y _) (own_g0 S y _) (hb hby d6_26)) ?_
        refine own_go (S' := (T0.setTop (mkF m 64 #[.val (.ref a), .val (.int (0 : Int32)), .val (.int (Int32.ofNat N)), .val (.int (Int32.ofNat (S.length + 1))), .val (.int (Int32.ofNat (S.length + 1))), .val (.int x)] []))) (fun τ κ => XS.icmpYes X0.here hx rfl (pc0 := 27) (pc' := 64) rfl (hb hby d6_27) rfl (flt hc).2.1 (by decide) (by decide) κ) ?_
        refine own_go (S' := (T0.setTop (mkF m 3 #[.val (.ref a), .val (.int (0 : Int32)), .val (.int (Int32.ofNat N)), .val (.int (Int32.ofNat (S.length + 1))), .val (.int (Int32.ofNat (S.length + 1))), .val (.int x)] []))) (fun τ κ => XS.goto X0.here hx rfl (pc0 := 64) (pc' := 3) rfl (hb hby d6_64) (by decide) (by decide) κ) ?_
        rw [show S.length + 1 = (S ++ [y]).length from by simp]
        exact ih (S ++ [y]) x _ _ T0 _ _ (Or.inr ⟨_, _, rfl, rfl⟩) (by simp; omega) (own_snoc hS hyx) (by simpa using hp) X0 e0 (A.eq (by simp)) K N0
      ·
        refine own_go (S' := (T0.setTop (mkF m 6 #[.val (.ref a), .val (.int (0 : Int32)), .val (.int (Int32.ofNat N)), .val (.int z), .val (.int ((Int32.ofNat S.length) + (1 : Int32))), .val (.int z')] []))) (fun τ κ => XT.iincV X0.here hx rfl (1 : Int32) (hb hby d6_3) (by decide) rfl (l' := #[.val (.ref a), .val (.int (0 : Int32)), .val (.int (Int32.ofNat N)), .val (.int z), .val (.int ((Int32.ofNat S.length) + (1 : Int32))), .val (.int z')]) rfl κ) ?_
        refine own_go (S' := (T0.setTop (mkF m 8 #[.val (.ref a), .val (.int (0 : Int32)), .val (.int (Int32.ofNat N)), .val (.int z), .val (.int ((Int32.ofNat S.length) + (1 : Int32))), .val (.int z')] [(.int ((Int32.ofNat S.length) + (1 : Int32)))]))) (fun τ κ => XS.iload X0.here hx rfl (hb hby d6_6) rfl κ) ?_
        refine own_go (S' := (T0.setTop (mkF m 9 #[.val (.ref a), .val (.int (0 : Int32)), .val (.int (Int32.ofNat N)), .val (.int z), .val (.int ((Int32.ofNat S.length) + (1 : Int32))), .val (.int z')] [(.int (Int32.ofNat N)), (.int ((Int32.ofNat S.length) + (1 : Int32)))]))) (fun τ κ => XS.iloadN X0.here hx rfl (hb hby d6_8) rfl κ) ?_
        refine own_go (S' := (T0.setTop (mkF m 12 #[.val (.ref a), .val (.int (0 : Int32)), .val (.int (Int32.ofNat N)), .val (.int z), .val (.int ((Int32.ofNat S.length) + (1 : Int32))), .val (.int z')] []))) (fun τ κ => XS.icmpNo X0.here hx rfl (hb hby d6_9) rfl (tlt hlt).2.1 κ) ?_
        rw [own_succ]
        refine own_go (S' := (T0.setTop (mkF m 13 #[.val (.ref a), .val (.int (0 : Int32)), .val (.int (Int32.ofNat N)), .val (.int z), .val (.int (Int32.ofNat (S.length + 1))), .val (.int z')] [(.ref a)]))) (fun τ κ => XS.aloadN X0.here hx rfl (hb hby d6_12) rfl rfl κ) ?_
        refine own_go (S' := (T0.setTop (mkF m 15 #[.val (.ref a), .val (.int (0 : Int32)), .val (.int (Int32.ofNat N)), .val (.int z), .val (.int (Int32.ofNat (S.length + 1))), .val (.int z')] [(.int (Int32.ofNat (S.length + 1))), (.ref a)]))) (fun τ κ => XS.iload X0.here hx rfl (hb hby d6_13) rfl κ) ?_
        refine own_go (S' := (T0.setTop (mkF m 16 #[.val (.ref a), .val (.int (0 : Int32)), .val (.int (Int32.ofNat N)), .val (.int z), .val (.int (Int32.ofNat (S.length + 1))), .val (.int z')] [(.int (Int32.ofNat (S.length + 1))), (.int (Int32.ofNat (S.length + 1))), (.ref a)]))) (fun τ κ => XS.dup X0.here hx rfl (hb hby d6_15) rfl rfl κ) ?_
        refine own_go (S' := (T0.setTop (mkF m 17 #[.val (.ref a), .val (.int (0 : Int32)), .val (.int (Int32.ofNat N)), .val (.int (Int32.ofNat (S.length + 1))), .val (.int (Int32.ofNat (S.length + 1))), .val (.int z')] [(.int (Int32.ofNat (S.length + 1))), (.ref a)]))) (fun τ κ => XS.istoreN X0.here hx rfl (hb hby d6_16) rfl (l' := #[.val (.ref a), .val (.int (0 : Int32)), .val (.int (Int32.ofNat N)), .val (.int (Int32.ofNat (S.length + 1))), .val (.int (Int32.ofNat (S.length + 1))), .val (.int z')]) rfl κ) ?_
        refine own_go (S' := (T0.setTop (mkF m 18 #[.val (.ref a), .val (.int (0 : Int32)), .val (.int (Int32.ofNat N)), .val (.int (Int32.ofNat (S.length + 1))), .val (.int (Int32.ofNat (S.length + 1))), .val (.int z')] [(.int x)]))) (own_iaload (j := (Int32.ofNat (S.length + 1))) (v := (.int x)) A X0 hx hZ e0 (own_ofNat_nneg h31) (i := (S.length + 1)) (own_clamp h31) (own_l1 S y x R) (own_g1 S y x R) (hb hby d6_17)) ?_
        refine own_go (S' := (T0.setTop (mkF m 20 #[.val (.ref a), .val (.int (0 : Int32)), .val (.int (Int32.ofNat N)), .val (.int (Int32.ofNat (S.length + 1))), .val (.int (Int32.ofNat (S.length + 1))), .val (.int x)] []))) (fun τ κ => XS.istore X0.here hx rfl (hb hby d6_18) rfl (l' := #[.val (.ref a), .val (.int (0 : Int32)), .val (.int (Int32.ofNat N)), .val (.int (Int32.ofNat (S.length + 1))), .val (.int (Int32.ofNat (S.length + 1))), .val (.int x)]) rfl κ) ?_
        refine own_go (S' := (T0.setTop (mkF m 22 #[.val (.ref a), .val (.int (0 : Int32)), .val (.int (Int32.ofNat N)), .val (.int (Int32.ofNat (S.length + 1))), .val (.int (Int32.ofNat (S.length + 1))), .val (.int x)] [(.int x)]))) (fun τ κ => XS.iload X0.here hx rfl (hb hby d6_20) rfl κ) ?_
        refine own_go (S' := (T0.setTop (mkF m 23 #[.val (.ref a), .val (.int (0 : Int32)), .val (.int (Int32.ofNat N)), .val (.int (Int32.ofNat (S.length + 1))), .val (.int (Int32.ofNat (S.length + 1))), .val (.int x)] [(.ref a), (.int x)]))) (fun τ κ => XS.aloadN X0.here hx rfl (hb hby d6_22) rfl rfl κ) ?_
        refine own_go (S' := (T0.setTop (mkF m 24 #[.val (.ref a), .val (.int (0 : Int32)), .val (.int (Int32.ofNat N)), .val (.int (Int32.ofNat (S.length + 1))), .val (.int (Int32.ofNat (S.length + 1))), .val (.int x)] [(.int (Int32.ofNat (S.length + 1))), (.ref a), (.int x)]))) (fun τ κ => XS.iloadN X0.here hx rfl (hb hby d6_23) rfl κ) ?_
        refine own_go (S' := (T0.setTop (mkF m 25 #[.val (.ref a), .val (.int (0 : Int32)), .val (.int (Int32.ofNat N)), .val (.int (Int32.ofNat (S.length + 1))), .val (.int (Int32.ofNat (S.length + 1))), .val (.int x)] [(.int (1 : Int32)), (.int (Int32.ofNat (S.length + 1))), (.ref a), (.int x)]))) (fun τ κ => XT.iconstV X0.here hx rfl (1 : Int32) (hb hby d6_24) (by decide) κ) ?_
        refine own_go (S' := (T0.setTop (mkF m 26 #[.val (.ref a), .val (.int (0 : Int32)), .val (.int (Int32.ofNat N)), .val (.int (Int32.ofNat (S.length + 1))), .val (.int (Int32.ofNat (S.length + 1))), .val (.int x)] [(.int ((Int32.ofNat (S.length + 1)) - (1 : Int32))), (.ref a), (.int x)]))) (fun τ κ => XS.isub X0.here hx rfl (hb hby d6_25) rfl κ) ?_
        refine own_go (S' := (T0.setTop (mkF m 27 #[.val (.ref a), .val (.int (0 : Int32)), .val (.int (Int32.ofNat N)), .val (.int (Int32.ofNat (S.length + 1))), .val (.int (Int32.ofNat (S.length + 1))), .val (.int x)] [(.int y), (.int x)]))) (own_iaload (j := ((Int32.ofNat (S.length + 1)) - (1 : Int32))) (v := (.int y)) A X0 hx hZ e0 (by rw [own_pred']; exact own_ofNat_nneg (by omega)) (i := S.length) (by rw [own_pred']; exact own_clamp (by omega)) (own_l0 S y _) (own_g0 S y _) (hb hby d6_26)) ?_
        refine own_go (S' := (T0.setTop (mkF m 64 #[.val (.ref a), .val (.int (0 : Int32)), .val (.int (Int32.ofNat N)), .val (.int (Int32.ofNat (S.length + 1))), .val (.int (Int32.ofNat (S.length + 1))), .val (.int x)] []))) (fun τ κ => XS.icmpYes X0.here hx rfl (pc0 := 27) (pc' := 64) rfl (hb hby d6_27) rfl (flt hc).2.1 (by decide) (by decide) κ) ?_
        refine own_go (S' := (T0.setTop (mkF m 3 #[.val (.ref a), .val (.int (0 : Int32)), .val (.int (Int32.ofNat N)), .val (.int (Int32.ofNat (S.length + 1))), .val (.int (Int32.ofNat (S.length + 1))), .val (.int x)] []))) (fun τ κ => XS.goto X0.here hx rfl (pc0 := 64) (pc' := 3) rfl (hb hby d6_64) (by decide) (by decide) κ) ?_
        rw [show S.length + 1 = (S ++ [y]).length from by simp]
        exact ih (S ++ [y]) x _ _ T0 _ _ (Or.inr ⟨_, _, rfl, rfl⟩) (by simp; omega) (own_snoc hS hyx) (by simpa using hp) X0 e0 (A.eq (by simp)) K N0
theorem pn_6 : plainName "java/util/DualPivotQuicksort" = true := by first | (simp [plainName, overriddenIn]; done) | decide +kernel
theorem ef_6 (m : MethodId) (a : Addr) (lo : Int32) (hi : Int32) : entryFrame m #[(.ref a), (.int lo), (.int hi)] 6 = mkF m 0 #[.val (.ref a), .val (.int lo), .val (.int hi), .unset, .unset, .unset] [] := by first | (simp [entryFrame, mkF, argsToLocals, Value.category]; done) | rfl
set_option maxRecDepth 65536 in
set_option maxHeartbeats 40000000 in
theorem rm6 (l : Launch) (Z : State) (a0 : Array Value) (hw : ∀ d ∈ tables_1, d.before a0 Z = true) (a : Addr) (xs : List Int32) (h0 : Heap) (n0 : Nat) (ga : n0 ≤ a) (hlen : xs.length < 2 ^ 31) (A : own_L Z h0 a .int (List.map Value.int xs)) : own_C l Z (⟨"java/util/DualPivotQuicksort", "insertionSort", "([III)V"⟩ : MethodName) jdk_2529_method_6_code 6 none ({ frames := 0, cells := 0, slots := 0, locals := 0 } : Room) #[(.ref a), (.int (0 : Int32)), (.int (Int32.ofNat xs.length))] h0 (fun v h L => v = none ∧ Fr n0 L ∧ ∃ ys : List Int32, ys.Perm xs ∧ own_sorted ys ∧ own_L Z h a .int (List.map Value.int ys) ∧ Keep h0 h [a]) := by
  refine MetFree.of_bodySF (plainFor_of_name pn_6) hisR ?_
  intro p e s m args below meth c s₁ Bd hml hP hK
  obtain ⟨rfl, hZ, hh⟩ := hP
  have hx := Bd.exec
  have hby := Bd.bytes
  have hown : s.vm.findClass "java/util/DualPivotQuicksort" = some m.cls := findClass_of_methodNamed Bd.named
  have hnm := (name_of_methodNamed Bd.named Bd.method).1
  have hret : meth.sig.returnType = none := Bd.returns
  have hlk := BodyLoose.notSynchronized Bd
  have X0 : Stand p l e ({ frames := 0, cells := 0, slots := 0, locals := 0 } : Room) s m #[(.ref a), (.int (0 : Int32)), (.int (Int32.ofNat xs.length))] below meth c s₁ [] 0 0 := Stand.of_body Bd
  have e0 : s₁.heap = h0 := by rw [← hh, Bd.state]; rfl
  show own_End p e below s (fun v h L => v = none ∧ Fr n0 L ∧ ∃ ys : List Int32, ys.Perm xs ∧ own_sorted ys ∧ own_L Z h a .int (List.map Value.int ys) ∧ Keep h0 h [a]) 0 0 (s₁.setTop (entryFrame m #[(.ref a), (.int (0 : Int32)), (.int (Int32.ofNat xs.length))] 6))
  refine own_cast (ef_6 m a 0 (Int32.ofNat xs.length)) ?_
  have N0 := Fr.nil n0
  have K := Keep.refl h0 [a]
  cases xs with
  | nil =>
    refine own_go (S' := (s₁.setTop (mkF m 1 #[.val (.ref a), .val (.int (0 : Int32)), .val (.int (Int32.ofNat ([] : List Int32).length)), .unset, .unset, .unset] [(.int (0 : Int32))]))) (fun τ κ => XS.iloadN X0.here hx rfl (hb hby d6_0) rfl κ) ?_
    refine own_go (S' := (s₁.setTop (mkF m 3 #[.val (.ref a), .val (.int (0 : Int32)), .val (.int (Int32.ofNat ([] : List Int32).length)), .unset, .val (.int (0 : Int32)), .unset] []))) (fun τ κ => XS.istore X0.here hx rfl (hb hby d6_1) rfl (l' := #[.val (.ref a), .val (.int (0 : Int32)), .val (.int (Int32.ofNat ([] : List Int32).length)), .unset, .val (.int (0 : Int32)), .unset]) rfl κ) ?_
    refine own_go (S' := (s₁.setTop (mkF m 6 #[.val (.ref a), .val (.int (0 : Int32)), .val (.int (Int32.ofNat ([] : List Int32).length)), .unset, .val (.int ((0 : Int32) + (1 : Int32))), .unset] []))) (fun τ κ => XT.iincV X0.here hx rfl (1 : Int32) (hb hby d6_3) (by decide) rfl (l' := #[.val (.ref a), .val (.int (0 : Int32)), .val (.int (Int32.ofNat ([] : List Int32).length)), .unset, .val (.int ((0 : Int32) + (1 : Int32))), .unset]) rfl κ) ?_
    refine own_go (S' := (s₁.setTop (mkF m 8 #[.val (.ref a), .val (.int (0 : Int32)), .val (.int (Int32.ofNat ([] : List Int32).length)), .unset, .val (.int ((0 : Int32) + (1 : Int32))), .unset] [(.int ((0 : Int32) + (1 : Int32)))]))) (fun τ κ => XS.iload X0.here hx rfl (hb hby d6_6) rfl κ) ?_
    refine own_go (S' := (s₁.setTop (mkF m 9 #[.val (.ref a), .val (.int (0 : Int32)), .val (.int (Int32.ofNat ([] : List Int32).length)), .unset, .val (.int ((0 : Int32) + (1 : Int32))), .unset] [(.int (Int32.ofNat ([] : List Int32).length)), (.int ((0 : Int32) + (1 : Int32)))]))) (fun τ κ => XS.iloadN X0.here hx rfl (hb hby d6_8) rfl κ) ?_
    refine own_go (S' := (s₁.setTop (mkF m 67 #[.val (.ref a), .val (.int (0 : Int32)), .val (.int (Int32.ofNat ([] : List Int32).length)), .unset, .val (.int ((0 : Int32) + (1 : Int32))), .unset] []))) (fun τ κ => XS.icmpYes X0.here hx rfl (pc0 := 9) (pc' := 67) rfl (hb hby d6_9) rfl (flt (by decide)).2.1 (by decide) (by decide) κ) ?_
    exact own_retV X0 hx hret hlk (hb hby d6_67) (by decide) (by decide) ⟨rfl, N0, [], List.Perm.refl _, List.Pairwise.nil, by rw [e0]; exact A, by rw [e0]; exact K⟩
  | cons y R =>
    refine own_go (S' := (s₁.setTop (mkF m 1 #[.val (.ref a), .val (.int (0 : Int32)), .val (.int (Int32.ofNat (y :: R).length)), .unset, .unset, .unset] [(.int (0 : Int32))]))) (fun τ κ => XS.iloadN X0.here hx rfl (hb hby d6_0) rfl κ) ?_
    refine own_go (S' := (s₁.setTop (mkF m 3 #[.val (.ref a), .val (.int (0 : Int32)), .val (.int (Int32.ofNat (y :: R).length)), .unset, .val (.int (0 : Int32)), .unset] []))) (fun τ κ => XS.istore X0.here hx rfl (hb hby d6_1) rfl (l' := #[.val (.ref a), .val (.int (0 : Int32)), .val (.int (Int32.ofNat (y :: R).length)), .unset, .val (.int (0 : Int32)), .unset]) rfl κ) ?_
    exact w6_3 hx hby hml hret hlk hown hZ hw ga hlen R [] y _ _ _ _ _ (Or.inl ⟨rfl, rfl⟩) rfl (List.pairwise_singleton _ _) (List.Perm.refl _) X0 e0 A K N0
theorem d5_0 : decode jdk_2529_method_4_code 0 = .ok (.iload 4, 2) := by decide +kernel
theorem d5_2 : decode jdk_2529_method_4_code 2 = .ok (.iconst 1, 1) := by decide +kernel
theorem d5_3 : decode jdk_2529_method_4_code 3 = .ok (.isub, 1) := by decide +kernel
theorem d5_4 : decode jdk_2529_method_4_code 4 = .ok (.istore 5, 2) := by decide +kernel
theorem d5_6 : decode jdk_2529_method_4_code 6 = .ok (.iload 4, 2) := by decide +kernel
theorem d5_8 : decode jdk_2529_method_4_code 8 = .ok (.iload_n 3, 1) := by decide +kernel
theorem d5_9 : decode jdk_2529_method_4_code 9 = .ok (.isub, 1) := by decide +kernel
theorem d5_10 : decode jdk_2529_method_4_code 10 = .ok (.istore 6, 2) := by decide +kernel
theorem d5_12 : decode jdk_2529_method_4_code 12 = .ok (.iload 6, 2) := by decide +kernel
theorem d5_14 : decode jdk_2529_method_4_code 14 = .ok (.bipush 65, 2) := by decide +kernel
theorem d5_16 : decode jdk_2529_method_4_code 16 = .ok (.iload_n 2, 1) := by decide +kernel
theorem d5_17 : decode jdk_2529_method_4_code 17 = .ok (.iadd, 1) := by decide +kernel
theorem d5_18 : decode jdk_2529_method_4_code 18 = .ok (.if_icmp .ge 28, 3) := by decide +kernel
theorem d5_21 : decode jdk_2529_method_4_code 21 = .ok (.iload_n 2, 1) := by decide +kernel
theorem d5_22 : decode jdk_2529_method_4_code 22 = .ok (.iconst 1, 1) := by decide +kernel
theorem d5_23 : decode jdk_2529_method_4_code 23 = .ok (.iand, 1) := by decide +kernel
theorem d5_24 : decode jdk_2529_method_4_code 24 = .ok (.ifCond .le 22, 3) := by decide +kernel
theorem d5_46 : decode jdk_2529_method_4_code 46 = .ok (.iload 6, 2) := by decide +kernel
theorem d5_48 : decode jdk_2529_method_4_code 48 = .ok (.bipush 44, 2) := by decide +kernel
theorem d5_50 : decode jdk_2529_method_4_code 50 = .ok (.if_icmp .ge 11, 3) := by decide +kernel
theorem d5_53 : decode jdk_2529_method_4_code 53 = .ok (.aload_n 1, 1) := by decide +kernel
theorem d5_54 : decode jdk_2529_method_4_code 54 = .ok (.iload_n 3, 1) := by decide +kernel
theorem d5_55 : decode jdk_2529_method_4_code 55 = .ok (.iload 4, 2) := by decide +kernel
theorem d5_57 : decode jdk_2529_method_4_code 57 = .ok (.invokestatic 34, 3) := by decide +kernel
theorem d5_60 : decode jdk_2529_method_4_code 60 = .ok (.return_, 1) := by decide +kernel
theorem pn_5 : plainName "java/util/DualPivotQuicksort" = true := by first | (simp [plainName, overriddenIn]; done) | decide +kernel
theorem ef_5 (m : MethodId) (a : Addr) (bits : Int32) (lo : Int32) (hi : Int32) : entryFrame m #[.null, (.ref a), (.int bits), (.int lo), (.int hi)] 21 = mkF m 0 #[.val .null, .val (.ref a), .val (.int bits), .val (.int lo), .val (.int hi), .unset, .unset, .unset, .unset, .unset, .unset, .unset, .unset, .unset, .unset, .unset, .unset, .unset, .unset, .unset, .unset] [] := by first | (simp [entryFrame, mkF, argsToLocals, Value.category]; done) | rfl
set_option maxRecDepth 65536 in
set_option maxHeartbeats 40000000 in
theorem rm5 (l : Launch) (Z : State) (a0 : Array Value) (hw : ∀ d ∈ tables_1, d.before a0 Z = true) (a : Addr) (xs : List Int32) (h0 : Heap) (n0 : Nat) (ga : n0 ≤ a) (hlen : xs.length < 40) (A : own_L Z h0 a .int (List.map Value.int xs)) : own_C l Z (⟨"java/util/DualPivotQuicksort", "sort", "(Ljava/util/DualPivotQuicksort$Sorter;[IIII)V"⟩ : MethodName) jdk_2529_method_4_code 21 none ({ frames := 1, cells := 0, slots := 0, locals := 17 } : Room) #[.null, (.ref a), (.int (0 : Int32)), (.int (0 : Int32)), (.int (Int32.ofNat xs.length))] h0 (fun v h L => v = none ∧ Fr n0 L ∧ ∃ ys : List Int32, ys.Perm xs ∧ own_sorted ys ∧ own_L Z h a .int (List.map Value.int ys) ∧ Keep h0 h [a]) := by
  refine MetFree.of_bodySF (plainFor_of_name pn_5) hisR ?_
  intro p e s m args below meth c s₁ Bd hml hP hK
  obtain ⟨rfl, hZ, hh⟩ := hP
  have hx := Bd.exec
  have hby := Bd.bytes
  have hown : s.vm.findClass "java/util/DualPivotQuicksort" = some m.cls := findClass_of_methodNamed Bd.named
  have hnm := (name_of_methodNamed Bd.named Bd.method).1
  have hret : meth.sig.returnType = none := Bd.returns
  have hlk := BodyLoose.notSynchronized Bd
  have X0 : Stand p l e ({ frames := 1, cells := 0, slots := 0, locals := 17 } : Room) s m #[.null, (.ref a), (.int (0 : Int32)), (.int (0 : Int32)), (.int (Int32.ofNat xs.length))] below meth c s₁ [] 0 0 := Stand.of_body Bd
  have e0 : s₁.heap = h0 := by rw [← hh, Bd.state]; rfl
  show own_End p e below s (fun v h L => v = none ∧ Fr n0 L ∧ ∃ ys : List Int32, ys.Perm xs ∧ own_sorted ys ∧ own_L Z h a .int (List.map Value.int ys) ∧ Keep h0 h [a]) 0 0 (s₁.setTop (entryFrame m #[.null, (.ref a), (.int (0 : Int32)), (.int (0 : Int32)), (.int (Int32.ofNat xs.length))] 21))
  refine own_cast (ef_5 m a (0 : Int32) (0 : Int32) (Int32.ofNat xs.length)) ?_
  have N0 := Fr.nil n0
  have hl31 : xs.length < 2 ^ 31 := by omega
  have hsz : Int32.ofNat xs.length - (0 : Int32) = Int32.ofNat xs.length := Int32.sub_zero _
  have h44 : Int32.ofNat xs.length - (0 : Int32) < (44 : Int32) := by
    rw [hsz, Int32.lt_iff_toInt_lt, own_ofNat_toInt hl31]
    have : (44 : Int32).toInt = 44 := by decide
    omega
  have h65 : Int32.ofNat xs.length - (0 : Int32) < (65 : Int32) := by
    rw [hsz, Int32.lt_iff_toInt_lt, own_ofNat_toInt hl31]
    have : (65 : Int32).toInt = 65 := by decide
    omega
  refine own_go (S' := (s₁.setTop (mkF m 2 #[.val .null, .val (.ref a), .val (.int (0 : Int32)), .val (.int (0 : Int32)), .val (.int (Int32.ofNat xs.length)), .unset, .unset, .unset, .unset, .unset, .unset, .unset, .unset, .unset, .unset, .unset, .unset, .unset, .unset, .unset, .unset] [(.int (Int32.ofNat xs.length))]))) (fun τ κ => XS.iload X0.here hx rfl (hb hby d5_0) rfl κ) ?_
  refine own_go (S' := (s₁.setTop (mkF m 3 #[.val .null, .val (.ref a), .val (.int (0 : Int32)), .val (.int (0 : Int32)), .val (.int (Int32.ofNat xs.length)), .unset, .unset, .unset, .unset, .unset, .unset, .unset, .unset, .unset, .unset, .unset, .unset, .unset, .unset, .unset, .unset] [(.int (1 : Int32)), (.int (Int32.ofNat xs.length))]))) (fun τ κ => XT.iconstV X0.here hx rfl (1 : Int32) (hb hby d5_2) (by decide) κ) ?_
  refine own_go (S' := (s₁.setTop (mkF m 4 #[.val .null, .val (.ref a), .val (.int (0 : Int32)), .val (.int (0 : Int32)), .val (.int (Int32.ofNat xs.length)), .unset, .unset, .unset, .unset, .unset, .unset, .unset, .unset, .unset, .unset, .unset, .unset, .unset, .unset, .unset, .unset] [(.int ((Int32.ofNat xs.length) - (1 : Int32)))]))) (fun τ κ => XS.isub X0.here hx rfl (hb hby d5_3) rfl κ) ?_
  refine own_go (S' := (s₁.setTop (mkF m 6 #[.val .null, .val (.ref a), .val (.int (0 : Int32)), .val (.int (0 : Int32)), .val (.int (Int32.ofNat xs.length)), .val (.int ((Int32.ofNat xs.length) - (1 : Int32))), .unset, .unset, .unset, .unset, .unset, .unset, .unset, .unset, .unset, .unset, .unset, .unset, .unset, .unset, .unset] []))) (fun τ κ => XS.istore X0.here hx rfl (hb hby d5_4) rfl (l' := #[.val .null, .val (.ref a), .val (.int (0 : Int32)), .val (.int (0 : Int32)), .val (.int (Int32.ofNat xs.length)), .val (.int ((Int32.ofNat xs.length) - (1 : Int32))), .unset, .unset, .unset, .unset, .unset, .unset, .unset, .unset, .unset, .unset, .unset, .unset, .unset, .unset, .unset]) rfl κ) ?_
  refine own_go (S' := (s₁.setTop (mkF m 8 #[.val .null, .val (.ref a), .val (.int (0 : Int32)), .val (.int (0 : Int32)), .val (.int (Int32.ofNat xs.length)), .val (.int ((Int32.ofNat xs.length) - (1 : Int32))), .unset, .unset, .unset, .unset, .unset, .unset, .unset, .unset, .unset, .unset, .unset, .unset, .unset, .unset, .unset] [(.int (Int32.ofNat xs.length))]))) (fun τ κ => XS.iload X0.here hx rfl (hb hby d5_6) rfl κ) ?_
  refine own_go (S' := (s₁.setTop (mkF m 9 #[.val .null, .val (.ref a), .val (.int (0 : Int32)), .val (.int (0 : Int32)), .val (.int (Int32.ofNat xs.length)), .val (.int ((Int32.ofNat xs.length) - (1 : Int32))), .unset, .unset, .unset, .unset, .unset, .unset, .unset, .unset, .unset, .unset, .unset, .unset, .unset, .unset, .unset] [(.int (0 : Int32)), (.int (Int32.ofNat xs.length))]))) (fun τ κ => XS.iloadN X0.here hx rfl (hb hby d5_8) rfl κ) ?_
  refine own_go (S' := (s₁.setTop (mkF m 10 #[.val .null, .val (.ref a), .val (.int (0 : Int32)), .val (.int (0 : Int32)), .val (.int (Int32.ofNat xs.length)), .val (.int ((Int32.ofNat xs.length) - (1 : Int32))), .unset, .unset, .unset, .unset, .unset, .unset, .unset, .unset, .unset, .unset, .unset, .unset, .unset, .unset, .unset] [(.int ((Int32.ofNat xs.length) - (0 : Int32)))]))) (fun τ κ => XS.isub X0.here hx rfl (hb hby d5_9) rfl κ) ?_
  refine own_go (S' := (s₁.setTop (mkF m 12 #[.val .null, .val (.ref a), .val (.int (0 : Int32)), .val (.int (0 : Int32)), .val (.int (Int32.ofNat xs.length)), .val (.int ((Int32.ofNat xs.length) - (1 : Int32))), .val (.int ((Int32.ofNat xs.length) - (0 : Int32))), .unset, .unset, .unset, .unset, .unset, .unset, .unset, .unset, .unset, .unset, .unset, .unset, .unset, .unset] []))) (fun τ κ => XS.istore X0.here hx rfl (hb hby d5_10) rfl (l' := #[.val .null, .val (.ref a), .val (.int (0 : Int32)), .val (.int (0 : Int32)), .val (.int (Int32.ofNat xs.length)), .val (.int ((Int32.ofNat xs.length) - (1 : Int32))), .val (.int ((Int32.ofNat xs.length) - (0 : Int32))), .unset, .unset, .unset, .unset, .unset, .unset, .unset, .unset, .unset, .unset, .unset, .unset, .unset, .unset]) rfl κ) ?_
  refine own_go (S' := (s₁.setTop (mkF m 14 #[.val .null, .val (.ref a), .val (.int (0 : Int32)), .val (.int (0 : Int32)), .val (.int (Int32.ofNat xs.length)), .val (.int ((Int32.ofNat xs.length) - (1 : Int32))), .val (.int ((Int32.ofNat xs.length) - (0 : Int32))), .unset, .unset, .unset, .unset, .unset, .unset, .unset, .unset, .unset, .unset, .unset, .unset, .unset, .unset] [(.int ((Int32.ofNat xs.length) - (0 : Int32)))]))) (fun τ κ => XS.iload X0.here hx rfl (hb hby d5_12) rfl κ) ?_
  refine own_go (S' := (s₁.setTop (mkF m 16 #[.val .null, .val (.ref a), .val (.int (0 : Int32)), .val (.int (0 : Int32)), .val (.int (Int32.ofNat xs.length)), .val (.int ((Int32.ofNat xs.length) - (1 : Int32))), .val (.int ((Int32.ofNat xs.length) - (0 : Int32))), .unset, .unset, .unset, .unset, .unset, .unset, .unset, .unset, .unset, .unset, .unset, .unset, .unset, .unset] [(.int (65 : Int32)), (.int ((Int32.ofNat xs.length) - (0 : Int32)))]))) (fun τ κ => XT.bipushV X0.here hx rfl (65 : Int32) (hb hby d5_14) (by decide) κ) ?_
  refine own_go (S' := (s₁.setTop (mkF m 17 #[.val .null, .val (.ref a), .val (.int (0 : Int32)), .val (.int (0 : Int32)), .val (.int (Int32.ofNat xs.length)), .val (.int ((Int32.ofNat xs.length) - (1 : Int32))), .val (.int ((Int32.ofNat xs.length) - (0 : Int32))), .unset, .unset, .unset, .unset, .unset, .unset, .unset, .unset, .unset, .unset, .unset, .unset, .unset, .unset] [(.int (0 : Int32)), (.int (65 : Int32)), (.int ((Int32.ofNat xs.length) - (0 : Int32)))]))) (fun τ κ => XS.iloadN X0.here hx rfl (hb hby d5_16) rfl κ) ?_
  refine own_go (S' := (s₁.setTop (mkF m 18 #[.val .null, .val (.ref a), .val (.int (0 : Int32)), .val (.int (0 : Int32)), .val (.int (Int32.ofNat xs.length)), .val (.int ((Int32.ofNat xs.length) - (1 : Int32))), .val (.int ((Int32.ofNat xs.length) - (0 : Int32))), .unset, .unset, .unset, .unset, .unset, .unset, .unset, .unset, .unset, .unset, .unset, .unset, .unset, .unset] [(.int (65 : Int32)), (.int ((Int32.ofNat xs.length) - (0 : Int32)))]))) (fun τ κ => XS.iadd X0.here hx rfl (hb hby d5_17) rfl κ) ?_
  refine own_go (S' := (s₁.setTop (mkF m 21 #[.val .null, .val (.ref a), .val (.int (0 : Int32)), .val (.int (0 : Int32)), .val (.int (Int32.ofNat xs.length)), .val (.int ((Int32.ofNat xs.length) - (1 : Int32))), .val (.int ((Int32.ofNat xs.length) - (0 : Int32))), .unset, .unset, .unset, .unset, .unset, .unset, .unset, .unset, .unset, .unset, .unset, .unset, .unset, .unset] []))) (fun τ κ => XS.icmpNo X0.here hx rfl (hb hby d5_18) rfl (tlt h65).2.1 κ) ?_
  refine own_go (S' := (s₁.setTop (mkF m 22 #[.val .null, .val (.ref a), .val (.int (0 : Int32)), .val (.int (0 : Int32)), .val (.int (Int32.ofNat xs.length)), .val (.int ((Int32.ofNat xs.length) - (1 : Int32))), .val (.int ((Int32.ofNat xs.length) - (0 : Int32))), .unset, .unset, .unset, .unset, .unset, .unset, .unset, .unset, .unset, .unset, .unset, .unset, .unset, .unset] [(.int (0 : Int32))]))) (fun τ κ => XS.iloadN X0.here hx rfl (hb hby d5_21) rfl κ) ?_
  refine own_go (S' := (s₁.setTop (mkF m 23 #[.val .null, .val (.ref a), .val (.int (0 : Int32)), .val (.int (0 : Int32)), .val (.int (Int32.ofNat xs.length)), .val (.int ((Int32.ofNat xs.length) - (1 : Int32))), .val (.int ((Int32.ofNat xs.length) - (0 : Int32))), .unset, .unset, .unset, .unset, .unset, .unset, .unset, .unset, .unset, .unset, .unset, .unset, .unset, .unset] [(.int (1 : Int32)), (.int (0 : Int32))]))) (fun τ κ => XT.iconstV X0.here hx rfl (1 : Int32) (hb hby d5_22) (by decide) κ) ?_
  refine own_go (S' := (s₁.setTop (mkF m 24 #[.val .null, .val (.ref a), .val (.int (0 : Int32)), .val (.int (0 : Int32)), .val (.int (Int32.ofNat xs.length)), .val (.int ((Int32.ofNat xs.length) - (1 : Int32))), .val (.int ((Int32.ofNat xs.length) - (0 : Int32))), .unset, .unset, .unset, .unset, .unset, .unset, .unset, .unset, .unset, .unset, .unset, .unset, .unset, .unset] [(.int (0 : Int32))]))) (fun τ κ => XS.iand X0.here hx rfl (hb hby d5_23) rfl κ) ?_
  refine own_go (S' := (s₁.setTop (mkF m 46 #[.val .null, .val (.ref a), .val (.int (0 : Int32)), .val (.int (0 : Int32)), .val (.int (Int32.ofNat xs.length)), .val (.int ((Int32.ofNat xs.length) - (1 : Int32))), .val (.int ((Int32.ofNat xs.length) - (0 : Int32))), .unset, .unset, .unset, .unset, .unset, .unset, .unset, .unset, .unset, .unset, .unset, .unset, .unset, .unset] []))) (fun τ κ => XS.ifYes X0.here hx rfl (pc0 := 24) (pc' := 46) rfl (hb hby d5_24) rfl ((if0 _ _).trans (flt (by decide)).2.2.2) (by decide) (by decide) κ) ?_
  refine own_go (S' := (s₁.setTop (mkF m 48 #[.val .null, .val (.ref a), .val (.int (0 : Int32)), .val (.int (0 : Int32)), .val (.int (Int32.ofNat xs.length)), .val (.int ((Int32.ofNat xs.length) - (1 : Int32))), .val (.int ((Int32.ofNat xs.length) - (0 : Int32))), .unset, .unset, .unset, .unset, .unset, .unset, .unset, .unset, .unset, .unset, .unset, .unset, .unset, .unset] [(.int ((Int32.ofNat xs.length) - (0 : Int32)))]))) (fun τ κ => XS.iload X0.here hx rfl (hb hby d5_46) rfl κ) ?_
  refine own_go (S' := (s₁.setTop (mkF m 50 #[.val .null, .val (.ref a), .val (.int (0 : Int32)), .val (.int (0 : Int32)), .val (.int (Int32.ofNat xs.length)), .val (.int ((Int32.ofNat xs.length) - (1 : Int32))), .val (.int ((Int32.ofNat xs.length) - (0 : Int32))), .unset, .unset, .unset, .unset, .unset, .unset, .unset, .unset, .unset, .unset, .unset, .unset, .unset, .unset] [(.int (44 : Int32)), (.int ((Int32.ofNat xs.length) - (0 : Int32)))]))) (fun τ κ => XT.bipushV X0.here hx rfl (44 : Int32) (hb hby d5_48) (by decide) κ) ?_
  refine own_go (S' := (s₁.setTop (mkF m 53 #[.val .null, .val (.ref a), .val (.int (0 : Int32)), .val (.int (0 : Int32)), .val (.int (Int32.ofNat xs.length)), .val (.int ((Int32.ofNat xs.length) - (1 : Int32))), .val (.int ((Int32.ofNat xs.length) - (0 : Int32))), .unset, .unset, .unset, .unset, .unset, .unset, .unset, .unset, .unset, .unset, .unset, .unset, .unset, .unset] []))) (fun τ κ => XS.icmpNo X0.here hx rfl (hb hby d5_50) rfl (tlt h44).2.1 κ) ?_
  refine own_go (S' := (s₁.setTop (mkF m 54 #[.val .null, .val (.ref a), .val (.int (0 : Int32)), .val (.int (0 : Int32)), .val (.int (Int32.ofNat xs.length)), .val (.int ((Int32.ofNat xs.length) - (1 : Int32))), .val (.int ((Int32.ofNat xs.length) - (0 : Int32))), .unset, .unset, .unset, .unset, .unset, .unset, .unset, .unset, .unset, .unset, .unset, .unset, .unset, .unset] [(.ref a)]))) (fun τ κ => XS.aloadN X0.here hx rfl (hb hby d5_53) rfl rfl κ) ?_
  refine own_go (S' := (s₁.setTop (mkF m 55 #[.val .null, .val (.ref a), .val (.int (0 : Int32)), .val (.int (0 : Int32)), .val (.int (Int32.ofNat xs.length)), .val (.int ((Int32.ofNat xs.length) - (1 : Int32))), .val (.int ((Int32.ofNat xs.length) - (0 : Int32))), .unset, .unset, .unset, .unset, .unset, .unset, .unset, .unset, .unset, .unset, .unset, .unset, .unset, .unset] [(.int (0 : Int32)), (.ref a)]))) (fun τ κ => XS.iloadN X0.here hx rfl (hb hby d5_54) rfl κ) ?_
  refine own_go (S' := (s₁.setTop (mkF m 57 #[.val .null, .val (.ref a), .val (.int (0 : Int32)), .val (.int (0 : Int32)), .val (.int (Int32.ofNat xs.length)), .val (.int ((Int32.ofNat xs.length) - (1 : Int32))), .val (.int ((Int32.ofNat xs.length) - (0 : Int32))), .unset, .unset, .unset, .unset, .unset, .unset, .unset, .unset, .unset, .unset, .unset, .unset, .unset, .unset] [(.int (Int32.ofNat xs.length)), (.int (0 : Int32)), (.ref a)]))) (fun τ κ => XS.iload X0.here hx rfl (hb hby d5_55) rfl κ) ?_
  obtain ⟨v1, T1, L1, X1, hQ1, st1⟩ := own_callS X0 hx hZ (y := (⟨"java/util/DualPivotQuicksort", "insertionSort", "([III)V"⟩ : MethodName)) hown (hw _ (List.mem_of_getElem? (i := 21) rfl)) (hw _ (List.mem_of_getElem? (i := 22) rfl)) (hw _ (List.mem_of_getElem? (i := 16) rfl)) (hw _ (List.mem_of_getElem? (i := 23) rfl)) (rm6 l Z a0 hw a xs h0 n0 ga hl31 A) e0 (st := [(.int (Int32.ofNat xs.length)), (.int (0 : Int32)), (.ref a)]) (argsL := [(.ref a), (.int (0 : Int32)), (.int (Int32.ofNat xs.length))]) (rest := []) (Ls := #[.val .null, .val (.ref a), .val (.int (0 : Int32)), .val (.int (0 : Int32)), .val (.int (Int32.ofNat xs.length)), .val (.int ((Int32.ofNat xs.length) - (1 : Int32))), .val (.int ((Int32.ofNat xs.length) - (0 : Int32))), .unset, .unset, .unset, .unset, .unset, .unset, .unset, .unset, .unset, .unset, .unset, .unset, .unset, .unset]) (hb hby d5_57) pd_0 0 (by rw [hml]; rfl) (by decide) rfl rfl rfl (Nat.le_of_eq rfl) (by decide) (by decide) (by decide) (by decide)
  obtain ⟨rfl, Nq1, ys, hp, hs, A', K'⟩ := hQ1
  refine own_go (S' := (T1.setTop (mkF m 60 #[.val .null, .val (.ref a), .val (.int (0 : Int32)), .val (.int (0 : Int32)), .val (.int (Int32.ofNat xs.length)), .val (.int ((Int32.ofNat xs.length) - (1 : Int32))), .val (.int ((Int32.ofNat xs.length) - (0 : Int32))), .unset, .unset, .unset, .unset, .unset, .unset, .unset, .unset, .unset, .unset, .unset, .unset, .unset, .unset] []))) st1 ?_
  exact own_retV X1 hx hret hlk (hb hby d5_60) (by decide) (by decide) ⟨rfl, (Fr.app N0 Nq1), ys, hp, hs, A', K'⟩
theorem d4_0 : decode jdk_2529_method_3_code 0 = .ok (.iload_n 3, 1) := by decide +kernel
theorem d4_1 : decode jdk_2529_method_3_code 1 = .ok (.iload_n 2, 1) := by decide +kernel
theorem d4_2 : decode jdk_2529_method_3_code 2 = .ok (.isub, 1) := by decide +kernel
theorem d4_3 : decode jdk_2529_method_3_code 3 = .ok (.istore 4, 2) := by decide +kernel
theorem d4_5 : decode jdk_2529_method_3_code 5 = .ok (.iload_n 1, 1) := by decide +kernel
theorem d4_6 : decode jdk_2529_method_3_code 6 = .ok (.iconst 1, 1) := by decide +kernel
theorem d4_7 : decode jdk_2529_method_3_code 7 = .ok (.if_icmp .le 61, 3) := by decide +kernel
theorem d4_68 : decode jdk_2529_method_3_code 68 = .ok (.aconst_null, 1) := by decide +kernel
theorem d4_69 : decode jdk_2529_method_3_code 69 = .ok (.aload_n 0, 1) := by decide +kernel
theorem d4_70 : decode jdk_2529_method_3_code 70 = .ok (.iconst 0, 1) := by decide +kernel
theorem d4_71 : decode jdk_2529_method_3_code 71 = .ok (.iload_n 2, 1) := by decide +kernel
theorem d4_72 : decode jdk_2529_method_3_code 72 = .ok (.iload_n 3, 1) := by decide +kernel
theorem d4_73 : decode jdk_2529_method_3_code 73 = .ok (.invokestatic 26, 3) := by decide +kernel
theorem d4_76 : decode jdk_2529_method_3_code 76 = .ok (.return_, 1) := by decide +kernel
theorem pn_4 : plainName "java/util/DualPivotQuicksort" = true := by first | (simp [plainName, overriddenIn]; done) | decide +kernel
theorem ef_4 (m : MethodId) (a : Addr) (par : Int32) (lo : Int32) (hi : Int32) : entryFrame m #[(.ref a), (.int par), (.int lo), (.int hi)] 7 = mkF m 0 #[.val (.ref a), .val (.int par), .val (.int lo), .val (.int hi), .unset, .unset, .unset] [] := by first | (simp [entryFrame, mkF, argsToLocals, Value.category]; done) | rfl
set_option maxRecDepth 65536 in
set_option maxHeartbeats 40000000 in
theorem rm4 (l : Launch) (Z : State) (a0 : Array Value) (hw : ∀ d ∈ tables_1, d.before a0 Z = true) (a : Addr) (xs : List Int32) (h0 : Heap) (n0 : Nat) (ga : n0 ≤ a) (hlen : xs.length < 40) (A : own_L Z h0 a .int (List.map Value.int xs)) : own_C l Z (⟨"java/util/DualPivotQuicksort", "sort", "([IIII)V"⟩ : MethodName) jdk_2529_method_3_code 7 none ({ frames := 2, cells := 0, slots := 0, locals := 49 } : Room) #[(.ref a), (.int (0 : Int32)), (.int (0 : Int32)), (.int (Int32.ofNat xs.length))] h0 (fun v h L => v = none ∧ Fr n0 L ∧ ∃ ys : List Int32, ys.Perm xs ∧ own_sorted ys ∧ own_L Z h a .int (List.map Value.int ys) ∧ Keep h0 h [a]) := by
  refine MetFree.of_bodySF (plainFor_of_name pn_4) hisR ?_
  intro p e s m args below meth c s₁ Bd hml hP hK
  obtain ⟨rfl, hZ, hh⟩ := hP
  have hx := Bd.exec
  have hby := Bd.bytes
  have hown : s.vm.findClass "java/util/DualPivotQuicksort" = some m.cls := findClass_of_methodNamed Bd.named
  have hnm := (name_of_methodNamed Bd.named Bd.method).1
  have hret : meth.sig.returnType = none := Bd.returns
  have hlk := BodyLoose.notSynchronized Bd
  have X0 : Stand p l e ({ frames := 2, cells := 0, slots := 0, locals := 49 } : Room) s m #[(.ref a), (.int (0 : Int32)), (.int (0 : Int32)), (.int (Int32.ofNat xs.length))] below meth c s₁ [] 0 0 := Stand.of_body Bd
  have e0 : s₁.heap = h0 := by rw [← hh, Bd.state]; rfl
  show own_End p e below s (fun v h L => v = none ∧ Fr n0 L ∧ ∃ ys : List Int32, ys.Perm xs ∧ own_sorted ys ∧ own_L Z h a .int (List.map Value.int ys) ∧ Keep h0 h [a]) 0 0 (s₁.setTop (entryFrame m #[(.ref a), (.int (0 : Int32)), (.int (0 : Int32)), (.int (Int32.ofNat xs.length))] 7))
  refine own_cast (ef_4 m a (0 : Int32) (0 : Int32) (Int32.ofNat xs.length)) ?_
  have N0 := Fr.nil n0
  have hl31 : xs.length < 2 ^ 31 := by omega
  refine own_go (S' := (s₁.setTop (mkF m 1 #[.val (.ref a), .val (.int (0 : Int32)), .val (.int (0 : Int32)), .val (.int (Int32.ofNat xs.length)), .unset, .unset, .unset] [(.int (Int32.ofNat xs.length))]))) (fun τ κ => XS.iloadN X0.here hx rfl (hb hby d4_0) rfl κ) ?_
  refine own_go (S' := (s₁.setTop (mkF m 2 #[.val (.ref a), .val (.int (0 : Int32)), .val (.int (0 : Int32)), .val (.int (Int32.ofNat xs.length)), .unset, .unset, .unset] [(.int (0 : Int32)), (.int (Int32.ofNat xs.length))]))) (fun τ κ => XS.iloadN X0.here hx rfl (hb hby d4_1) rfl κ) ?_
  refine own_go (S' := (s₁.setTop (mkF m 3 #[.val (.ref a), .val (.int (0 : Int32)), .val (.int (0 : Int32)), .val (.int (Int32.ofNat xs.length)), .unset, .unset, .unset] [(.int ((Int32.ofNat xs.length) - (0 : Int32)))]))) (fun τ κ => XS.isub X0.here hx rfl (hb hby d4_2) rfl κ) ?_
  refine own_go (S' := (s₁.setTop (mkF m 5 #[.val (.ref a), .val (.int (0 : Int32)), .val (.int (0 : Int32)), .val (.int (Int32.ofNat xs.length)), .val (.int ((Int32.ofNat xs.length) - (0 : Int32))), .unset, .unset] []))) (fun τ κ => XS.istore X0.here hx rfl (hb hby d4_3) rfl (l' := #[.val (.ref a), .val (.int (0 : Int32)), .val (.int (0 : Int32)), .val (.int (Int32.ofNat xs.length)), .val (.int ((Int32.ofNat xs.length) - (0 : Int32))), .unset, .unset]) rfl κ) ?_
  refine own_go (S' := (s₁.setTop (mkF m 6 #[.val (.ref a), .val (.int (0 : Int32)), .val (.int (0 : Int32)), .val (.int (Int32.ofNat xs.length)), .val (.int ((Int32.ofNat xs.length) - (0 : Int32))), .unset, .unset] [(.int (0 : Int32))]))) (fun τ κ => XS.iloadN X0.here hx rfl (hb hby d4_5) rfl κ) ?_
  refine own_go (S' := (s₁.setTop (mkF m 7 #[.val (.ref a), .val (.int (0 : Int32)), .val (.int (0 : Int32)), .val (.int (Int32.ofNat xs.length)), .val (.int ((Int32.ofNat xs.length) - (0 : Int32))), .unset, .unset] [(.int (1 : Int32)), (.int (0 : Int32))]))) (fun τ κ => XT.iconstV X0.here hx rfl (1 : Int32) (hb hby d4_6) (by decide) κ) ?_
  refine own_go (S' := (s₁.setTop (mkF m 68 #[.val (.ref a), .val (.int (0 : Int32)), .val (.int (0 : Int32)), .val (.int (Int32.ofNat xs.length)), .val (.int ((Int32.ofNat xs.length) - (0 : Int32))), .unset, .unset] []))) (fun τ κ => XS.icmpYes X0.here hx rfl (pc0 := 7) (pc' := 68) rfl (hb hby d4_7) rfl (flt (by decide)).2.2.2 (by decide) (by decide) κ) ?_
  refine own_go (S' := (s₁.setTop (mkF m 69 #[.val (.ref a), .val (.int (0 : Int32)), .val (.int (0 : Int32)), .val (.int (Int32.ofNat xs.length)), .val (.int ((Int32.ofNat xs.length) - (0 : Int32))), .unset, .unset] [.null]))) (fun τ κ => XS.aconstNull X0.here hx rfl (hb hby d4_68) κ) ?_
  refine own_go (S' := (s₁.setTop (mkF m 70 #[.val (.ref a), .val (.int (0 : Int32)), .val (.int (0 : Int32)), .val (.int (Int32.ofNat xs.length)), .val (.int ((Int32.ofNat xs.length) - (0 : Int32))), .unset, .unset] [(.ref a), .null]))) (fun τ κ => XS.aloadN X0.here hx rfl (hb hby d4_69) rfl rfl κ) ?_
  refine own_go (S' := (s₁.setTop (mkF m 71 #[.val (.ref a), .val (.int (0 : Int32)), .val (.int (0 : Int32)), .val (.int (Int32.ofNat xs.length)), .val (.int ((Int32.ofNat xs.length) - (0 : Int32))), .unset, .unset] [(.int (0 : Int32)), (.ref a), .null]))) (fun τ κ => XT.iconstV X0.here hx rfl (0 : Int32) (hb hby d4_70) (by decide) κ) ?_
  refine own_go (S' := (s₁.setTop (mkF m 72 #[.val (.ref a), .val (.int (0 : Int32)), .val (.int (0 : Int32)), .val (.int (Int32.ofNat xs.length)), .val (.int ((Int32.ofNat xs.length) - (0 : Int32))), .unset, .unset] [(.int (0 : Int32)), (.int (0 : Int32)), (.ref a), .null]))) (fun τ κ => XS.iloadN X0.here hx rfl (hb hby d4_71) rfl κ) ?_
  refine own_go (S' := (s₁.setTop (mkF m 73 #[.val (.ref a), .val (.int (0 : Int32)), .val (.int (0 : Int32)), .val (.int (Int32.ofNat xs.length)), .val (.int ((Int32.ofNat xs.length) - (0 : Int32))), .unset, .unset] [(.int (Int32.ofNat xs.length)), (.int (0 : Int32)), (.int (0 : Int32)), (.ref a), .null]))) (fun τ κ => XS.iloadN X0.here hx rfl (hb hby d4_72) rfl κ) ?_
  obtain ⟨v1, T1, L1, X1, hQ1, st1⟩ := own_callS X0 hx hZ (y := (⟨"java/util/DualPivotQuicksort", "sort", "(Ljava/util/DualPivotQuicksort$Sorter;[IIII)V"⟩ : MethodName)) hown (hw _ (List.mem_of_getElem? (i := 18) rfl)) (hw _ (List.mem_of_getElem? (i := 19) rfl)) (hw _ (List.mem_of_getElem? (i := 16) rfl)) (hw _ (List.mem_of_getElem? (i := 20) rfl)) (rm5 l Z a0 hw a xs h0 n0 ga hlen A) e0 (st := [(.int (Int32.ofNat xs.length)), (.int (0 : Int32)), (.int (0 : Int32)), (.ref a), .null]) (argsL := [.null, (.ref a), (.int (0 : Int32)), (.int (0 : Int32)), (.int (Int32.ofNat xs.length))]) (rest := []) (Ls := #[.val (.ref a), .val (.int (0 : Int32)), .val (.int (0 : Int32)), .val (.int (Int32.ofNat xs.length)), .val (.int ((Int32.ofNat xs.length) - (0 : Int32))), .unset, .unset]) (hb hby d4_73) pd_1 0 (by rw [hml]; rfl) (by decide) rfl rfl rfl (Nat.le_of_eq rfl) (by decide) (by decide) (by decide) (by decide)
  obtain ⟨rfl, Nq1, ys, hp, hs, A', K'⟩ := hQ1
  refine own_go (S' := (T1.setTop (mkF m 76 #[.val (.ref a), .val (.int (0 : Int32)), .val (.int (0 : Int32)), .val (.int (Int32.ofNat xs.length)), .val (.int ((Int32.ofNat xs.length) - (0 : Int32))), .unset, .unset] []))) st1 ?_
  exact own_retV X1 hx hret hlk (hb hby d4_76) (by decide) (by decide) ⟨rfl, (Fr.app N0 Nq1), ys, hp, hs, A', K'⟩
theorem d3_0 : decode jdk_65_method_2_code 0 = .ok (.aload_n 0, 1) := by decide +kernel
theorem d3_1 : decode jdk_65_method_2_code 1 = .ok (.iconst 0, 1) := by decide +kernel
theorem d3_2 : decode jdk_65_method_2_code 2 = .ok (.iconst 0, 1) := by decide +kernel
theorem d3_3 : decode jdk_65_method_2_code 3 = .ok (.aload_n 0, 1) := by decide +kernel
theorem d3_4 : decode jdk_65_method_2_code 4 = .ok (.arraylength, 1) := by decide +kernel
theorem d3_5 : decode jdk_65_method_2_code 5 = .ok (.invokestatic 7, 3) := by decide +kernel
theorem d3_8 : decode jdk_65_method_2_code 8 = .ok (.return_, 1) := by decide +kernel
theorem pn_3 : plainName "java/util/Arrays" = true := by first | (simp [plainName, overriddenIn]; done) | decide +kernel
theorem ef_3 (m : MethodId) (a : Addr) : entryFrame m #[(.ref a)] 1 = mkF m 0 #[.val (.ref a)] [] := by first | (simp [entryFrame, mkF, argsToLocals, Value.category]; done) | rfl
set_option maxRecDepth 65536 in
set_option maxHeartbeats 40000000 in
theorem rm3 (l : Launch) (Z : State) (a0 : Array Value) (hw : ∀ d ∈ tables_1, d.before a0 Z = true) (a : Addr) (xs : List Int32) (h0 : Heap) (n0 : Nat) (ga : n0 ≤ a) (hlen : xs.length < 40) (A : own_L Z h0 a .int (List.map Value.int xs)) : own_C l Z (⟨"java/util/Arrays", "sort", "([I)V"⟩ : MethodName) jdk_65_method_2_code 1 none ({ frames := 3, cells := 0, slots := 0, locals := 67 } : Room) #[(.ref a)] h0 (fun v h L => v = none ∧ Fr n0 L ∧ ∃ ys : List Int32, ys.Perm xs ∧ own_sorted ys ∧ own_L Z h a .int (List.map Value.int ys) ∧ Keep h0 h [a]) := by
  refine MetFree.of_bodySF (plainFor_of_name pn_3) hisR ?_
  intro p e s m args below meth c s₁ Bd hml hP hK
  obtain ⟨rfl, hZ, hh⟩ := hP
  have hx := Bd.exec
  have hby := Bd.bytes
  have hown : s.vm.findClass "java/util/Arrays" = some m.cls := findClass_of_methodNamed Bd.named
  have hnm := (name_of_methodNamed Bd.named Bd.method).1
  have hret : meth.sig.returnType = none := Bd.returns
  have hlk := BodyLoose.notSynchronized Bd
  have X0 : Stand p l e ({ frames := 3, cells := 0, slots := 0, locals := 67 } : Room) s m #[(.ref a)] below meth c s₁ [] 0 0 := Stand.of_body Bd
  have e0 : s₁.heap = h0 := by rw [← hh, Bd.state]; rfl
  show own_End p e below s (fun v h L => v = none ∧ Fr n0 L ∧ ∃ ys : List Int32, ys.Perm xs ∧ own_sorted ys ∧ own_L Z h a .int (List.map Value.int ys) ∧ Keep h0 h [a]) 0 0 (s₁.setTop (entryFrame m #[(.ref a)] 1))
  refine own_cast (ef_3 m a) ?_
  have N0 := Fr.nil n0
  have hl31 : xs.length < 2 ^ 31 := by omega
  refine own_go (S' := (s₁.setTop (mkF m 1 #[.val (.ref a)] [(.ref a)]))) (fun τ κ => XS.aloadN X0.here hx rfl (hb hby d3_0) rfl rfl κ) ?_
  refine own_go (S' := (s₁.setTop (mkF m 2 #[.val (.ref a)] [(.int (0 : Int32)), (.ref a)]))) (fun τ κ => XT.iconstV X0.here hx rfl (0 : Int32) (hb hby d3_1) (by decide) κ) ?_
  refine own_go (S' := (s₁.setTop (mkF m 3 #[.val (.ref a)] [(.int (0 : Int32)), (.int (0 : Int32)), (.ref a)]))) (fun τ κ => XT.iconstV X0.here hx rfl (0 : Int32) (hb hby d3_2) (by decide) κ) ?_
  refine own_go (S' := (s₁.setTop (mkF m 4 #[.val (.ref a)] [(.ref a), (.int (0 : Int32)), (.int (0 : Int32)), (.ref a)]))) (fun τ κ => XS.aloadN X0.here hx rfl (hb hby d3_3) rfl rfl κ) ?_
  refine own_go (S' := (s₁.setTop (mkF m 5 #[.val (.ref a)] [(.int (Int32.ofNat xs.length)), (.int (0 : Int32)), (.int (0 : Int32)), (.ref a)]))) (own_len A own_lenI X0 hx hZ e0 (hb hby d3_4)) ?_
  obtain ⟨v1, T1, L1, X1, hQ1, st1⟩ := own_callS X0 hx hZ (y := (⟨"java/util/DualPivotQuicksort", "sort", "([IIII)V"⟩ : MethodName)) hown (hw _ (List.mem_of_getElem? (i := 14) rfl)) (hw _ (List.mem_of_getElem? (i := 15) rfl)) (hw _ (List.mem_of_getElem? (i := 16) rfl)) (hw _ (List.mem_of_getElem? (i := 17) rfl)) (rm4 l Z a0 hw a xs h0 n0 ga hlen A) e0 (st := [(.int (Int32.ofNat xs.length)), (.int (0 : Int32)), (.int (0 : Int32)), (.ref a)]) (argsL := [(.ref a), (.int (0 : Int32)), (.int (0 : Int32)), (.int (Int32.ofNat xs.length))]) (rest := []) (Ls := #[.val (.ref a)]) (hb hby d3_5) pd_2 0 (by rw [hml]; rfl) (by decide) rfl rfl rfl (Nat.le_of_eq rfl) (by decide) (by decide) (by decide) (by decide)
  obtain ⟨rfl, Nq1, ys, hp, hs, A', K'⟩ := hQ1
  refine own_go (S' := (T1.setTop (mkF m 8 #[.val (.ref a)] []))) st1 ?_
  exact own_retV X1 hx hret hlk (hb hby d3_8) (by decide) (by decide) ⟨rfl, (Fr.app N0 Nq1), ys, hp, hs, A', K'⟩
theorem own_mapD {xs : List Int32} {i : Nat} (h : i < xs.length) : (List.map Value.int xs)[i]? = some (.int (xs.getD i 0)) := by
  simp [List.getD_eq_getElem?_getD, h]
theorem d1_0 : decode prog_29_method_1_code 0 = .ok (.aload_n 0, 1) := by decide +kernel
theorem d1_1 : decode prog_29_method_1_code 1 = .ok (.invokespecial 1, 3) := by decide +kernel
theorem d1_4 : decode prog_29_method_1_code 4 = .ok (.aload_n 1, 1) := by decide +kernel
theorem d1_5 : decode prog_29_method_1_code 5 = .ok (.invokestatic 7, 3) := by decide +kernel
theorem d1_8 : decode prog_29_method_1_code 8 = .ok (.aload_n 0, 1) := by decide +kernel
theorem d1_9 : decode prog_29_method_1_code 9 = .ok (.aload_n 1, 1) := by decide +kernel
theorem d1_10 : decode prog_29_method_1_code 10 = .ok (.putfield 13, 3) := by decide +kernel
theorem d1_13 : decode prog_29_method_1_code 13 = .ok (.iconst 0, 1) := by decide +kernel
theorem d1_14 : decode prog_29_method_1_code 14 = .ok (.istore_n 2, 1) := by decide +kernel
theorem d1_15 : decode prog_29_method_1_code 15 = .ok (.iload_n 2, 1) := by decide +kernel
theorem d1_16 : decode prog_29_method_1_code 16 = .ok (.aload_n 1, 1) := by decide +kernel
theorem d1_17 : decode prog_29_method_1_code 17 = .ok (.arraylength, 1) := by decide +kernel
theorem d1_18 : decode prog_29_method_1_code 18 = .ok (.if_icmp .ge 15, 3) := by decide +kernel
theorem d1_21 : decode prog_29_method_1_code 21 = .ok (.aload_n 1, 1) := by decide +kernel
theorem d1_22 : decode prog_29_method_1_code 22 = .ok (.iload_n 2, 1) := by decide +kernel
theorem d1_23 : decode prog_29_method_1_code 23 = .ok (.iaload, 1) := by decide +kernel
theorem d1_24 : decode prog_29_method_1_code 24 = .ok (.ifCond .ge 9, 3) := by decide +kernel
theorem d1_27 : decode prog_29_method_1_code 27 = .ok (.iinc 2 1, 3) := by decide +kernel
theorem d1_30 : decode prog_29_method_1_code 30 = .ok (.goto (-15), 3) := by decide +kernel
theorem d1_33 : decode prog_29_method_1_code 33 = .ok (.aload_n 0, 1) := by decide +kernel
theorem d1_34 : decode prog_29_method_1_code 34 = .ok (.iload_n 2, 1) := by decide +kernel
theorem d1_35 : decode prog_29_method_1_code 35 = .ok (.putfield 19, 3) := by decide +kernel
theorem d1_38 : decode prog_29_method_1_code 38 = .ok (.return_, 1) := by decide +kernel
theorem pn_1 : plainName "com/example/twinhash/twinhash/shingle/ShingleSet" = true := by first | (simp [plainName, overriddenIn]; done) | decide +kernel
theorem ef_1 (m : MethodId) (a : Addr) (ca : Addr) : entryFrame m #[(.ref a), (.ref ca)] 3 = mkF m 0 #[.val (.ref a), .val (.ref ca), .unset] [] := by first | (simp [entryFrame, mkF, argsToLocals, Value.category]; done) | rfl
set_option maxRecDepth 65536 in
set_option maxHeartbeats 40000000 in
theorem rm1 (l : Launch) (Z : State) (a0 : Array Value) (hw : ∀ d ∈ tables_1, d.before a0 Z = true) (a : Addr) (ca : Addr) (xs : List Int32) (h0 : Heap) (n0 : Nat) (ga : n0 ≤ a) (gc : n0 ≤ ca) (nac : a ≠ ca) (hlen : xs.length < 40) (E0 : Exa Z h0 a "com/example/twinhash/twinhash/shingle/ShingleSet") (F1 : Fld Z h0 a "com/example/twinhash/twinhash/shingle/ShingleSet" "codes" "[I" .null) (F2 : Fld Z h0 a "com/example/twinhash/twinhash/shingle/ShingleSet" "firstSeen" "I" (.int (0 : Int32))) (A : own_L Z h0 ca .int (List.map Value.int xs)) : own_C l Z (⟨"com/example/twinhash/twinhash/shingle/ShingleSet", "<init>", "([I)V"⟩ : MethodName) prog_29_method_1_code 3 none ({ frames := 4, cells := 0, slots := 0, locals := 79 } : Room) #[(.ref a), (.ref ca)] h0 (fun v h L => v = none ∧ Fr n0 L ∧ ∃ (ys : List Int32) (f : Nat), ys.Perm xs ∧ own_sorted ys ∧ f ≤ ys.length ∧ (∀ j, j < f → (ys.getD j 0).toInt < 0) ∧ (f < ys.length → 0 ≤ (ys.getD f 0).toInt) ∧ Exa Z h a "com/example/twinhash/twinhash/shingle/ShingleSet" ∧ Fld Z h a "com/example/twinhash/twinhash/shingle/ShingleSet" "codes" "[I" (.ref ca) ∧ Fld Z h a "com/example/twinhash/twinhash/shingle/ShingleSet" "firstSeen" "I" (.int (Int32.ofNat f)) ∧ own_L Z h ca .int (List.map Value.int ys) ∧ Keep h0 h [a, ca]) := by
  refine MetFree.of_bodySF (plainFor_of_name pn_1) hisR ?_
  intro p e s m args below meth c s₁ Bd hml hP hK
  obtain ⟨rfl, hZ, hh⟩ := hP
  have hx := Bd.exec
  have hby := Bd.bytes
  have hown : s.vm.findClass "com/example/twinhash/twinhash/shingle/ShingleSet" = some m.cls := findClass_of_methodNamed Bd.named
  have hnm := (name_of_methodNamed Bd.named Bd.method).1
  have hret : meth.sig.returnType = none := Bd.returns
  have hlk := BodyLoose.notSynchronized Bd
  have X0 : Stand p l e ({ frames := 4, cells := 0, slots := 0, locals := 79 } : Room) s m #[(.ref a), (.ref ca)] below meth c s₁ [] 0 0 := Stand.of_body Bd
  have e0 : s₁.heap = h0 := by rw [← hh, Bd.state]; rfl
  show own_End p e below s (fun v h L => v = none ∧ Fr n0 L ∧ ∃ (ys : List Int32) (f : Nat), ys.Perm xs ∧ own_sorted ys ∧ f ≤ ys.length ∧ (∀ j, j < f → (ys.getD j 0).toInt < 0) ∧ (f < ys.length → 0 ≤ (ys.getD f 0).toInt) ∧ Exa Z h a "com/example/twinhash/twinhash/shingle/ShingleSet" ∧ Fld Z h a "com/example/twinhash/twinhash/shingle/ShingleSet" "codes" "[I" (.ref ca) ∧ Fld Z h a "com/example/twinhash/twinhash/shingle/ShingleSet" "firstSeen" "I" (.int (Int32.ofNat f)) ∧ own_L Z h ca .int (List.map Value.int ys) ∧ Keep h0 h [a, ca]) 0 0 (s₁.setTop (entryFrame m #[(.ref a), (.ref ca)] 3))
  refine own_cast (ef_1 m a ca) ?_
  have N0 := Fr.nil n0
  have hl31 : xs.length < 2 ^ 31 := by omega
  refine own_go (S' := (s₁.setTop (mkF m 1 #[.val (.ref a), .val (.ref ca), .unset] [(.ref a)]))) (fun τ κ => XS.aloadN X0.here hx rfl (hb hby d1_0) rfl rfl κ) ?_
  obtain ⟨T1, X1, e1, st1⟩ := initO X0 hx hZ hown (hw _ (List.mem_of_getElem? (i := 7) rfl)) (hw _ (List.mem_of_getElem? (i := 8) rfl)) (hw _ (List.mem_of_getElem? (i := 9) rfl)) e0 (g := (mkF m 1 #[.val (.ref a), .val (.ref ca), .unset] [(.ref a)])) rfl (by rw [hml]; rfl) rfl (hb hby d1_1) (by decide) (W := 0) (by show 2 * 0 + _ ≤ _; exact Nat.le_of_eq rfl) (by decide)
  refine own_go (S' := (T1.setTop (mkF m 4 #[.val (.ref a), .val (.ref ca), .unset] []))) st1 ?_
  refine own_go (S' := (T1.setTop (mkF m 5 #[.val (.ref a), .val (.ref ca), .unset] [(.ref ca)]))) (fun τ κ => XS.aloadN X1.here hx rfl (hb hby d1_4) rfl rfl κ) ?_
  obtain ⟨v2, T2, L2, X2, hQ2, st2⟩ := own_callS X1 hx hZ (y := (⟨"java/util/Arrays", "sort", "([I)V"⟩ : MethodName)) hown (hw _ (List.mem_of_getElem? (i := 10) rfl)) (hw _ (List.mem_of_getElem? (i := 11) rfl)) (hw _ (List.mem_of_getElem? (i := 12) rfl)) (hw _ (List.mem_of_getElem? (i := 13) rfl)) (rm3 l Z a0 hw ca xs h0 n0 gc hlen A) e1 (st := [(.ref ca)]) (argsL := [(.ref ca)]) (rest := []) (Ls := #[.val (.ref a), .val (.ref ca), .unset]) (hb hby d1_5) pd_3 0 (by rw [hml]; rfl) (by decide) rfl rfl rfl (Nat.le_of_eq rfl) (by decide) (by decide) (by decide) (by decide)
  obtain ⟨rfl, Nq2, ys, hp, hs, A', K'⟩ := hQ2
  have N2 := Fr.app N0 Nq2
  replace A := A'
  replace E0 := Exa.keep E0 K'
  replace F1 := Fld.keep F1 K' (ninS nac nin0)
  replace F2 := Fld.keep F2 K' (ninS nac nin0)
  have K : Keep h0 T2.heap [a, ca] := (Keep.refl h0 [a, ca]).trans K' (allS (Or.inl (by simp)) all0)
  have hyl : ys.length = xs.length := hp.length_eq
  refine own_go (S' := (T2.setTop (mkF m 8 #[.val (.ref a), .val (.ref ca), .unset] []))) st2 ?_
  refine own_go (S' := (T2.setTop (mkF m 9 #[.val (.ref a), .val (.ref ca), .unset] [(.ref a)]))) (fun τ κ => XS.aloadN X2.here hx rfl (hb hby d1_8) rfl rfl κ) ?_
  refine own_go (S' := (T2.setTop (mkF m 10 #[.val (.ref a), .val (.ref ca), .unset] [(.ref ca), (.ref a)]))) (fun τ κ => XS.aloadN X2.here hx rfl (hb hby d1_9) rfl rfl κ) ?_
  obtain ⟨T3, h3, X3, e3, W3, st3⟩ := putF X2 hx hZ hown (host := "") (Or.inl (hw _ (List.mem_of_getElem? (i := 24) rfl))) Via.refl rfl F1 E0 (Or.inr ⟨(hw _ (List.mem_of_getElem? (i := 25) rfl)), rfl, hnm⟩) (hw _ (List.mem_of_getElem? (i := 2) rfl)) (ty := (.array .int)) (by decide) rfl rfl (g := (mkF m 10 #[.val (.ref a), .val (.ref ca), .unset] [(.ref ca), (.ref a)])) rfl rfl (hb hby d1_10)
  replace E0 := Exa.wr W3 E0
  replace F2 := Fld.other W3 F2 (Or.inr (slot_ne (Z := Z) (a0 := a0) (Or.inr (hw _ (List.mem_of_getElem? (i := 27) rfl))) (Or.inr (hw _ (List.mem_of_getElem? (i := 25) rfl))) (by decide) (t := .int) (t' := (.array .int)) (by decide) (by decide)))
  replace A := A.other W3 (Ne.symm nac)
  replace F1 := Fld.same W3 F1
  have N3 := Fr.snoc X3 N2 ga
  replace K := K.wr W3 (Or.inl (by simp))
  refine own_go (S' := (T3.setTop (mkF m 13 #[.val (.ref a), .val (.ref ca), .unset] []))) st3 ?_
  refine own_go (S' := (T3.setTop (mkF m 14 #[.val (.ref a), .val (.ref ca), .unset] [(.int (0 : Int32))]))) (fun τ κ => XT.iconstV X3.here hx rfl (0 : Int32) (hb hby d1_13) (by decide) κ) ?_
  refine own_go (S' := (T3.setTop (mkF m 15 #[.val (.ref a), .val (.ref ca), .val (.int (0 : Int32))] []))) (fun τ κ => XS.istoreN X3.here hx rfl (hb hby d1_14) rfl (l' := #[.val (.ref a), .val (.ref ca), .val (.int (0 : Int32))]) rfl κ) ?_
  have J33 : ∀ f, f ≤ ys.length → (∀ j, j < f → (ys.getD j 0).toInt < 0) → (f < ys.length → 0 ≤ (ys.getD f 0).toInt) → own_End p e below s (fun v h L => v = none ∧ Fr n0 L ∧ ∃ (ys : List Int32) (f : Nat), ys.Perm xs ∧ own_sorted ys ∧ f ≤ ys.length ∧ (∀ j, j < f → (ys.getD j 0).toInt < 0) ∧ (f < ys.length → 0 ≤ (ys.getD f 0).toInt) ∧ Exa Z h a "com/example/twinhash/twinhash/shingle/ShingleSet" ∧ Fld Z h a "com/example/twinhash/twinhash/shingle/ShingleSet" "codes" "[I" (.ref ca) ∧ Fld Z h a "com/example/twinhash/twinhash/shingle/ShingleSet" "firstSeen" "I" (.int (Int32.ofNat f)) ∧ own_L Z h ca .int (List.map Value.int ys) ∧ Keep h0 h [a, ca]) 0 0 (T3.setTop (mkF m 33 #[.val (.ref a), .val (.ref ca), .val (.int (Int32.ofNat f))] [])) := by
    intro f hf1 hf2 hf3
    refine own_go (S' := (T3.setTop (mkF m 34 #[.val (.ref a), .val (.ref ca), .val (.int (Int32.ofNat f))] [(.ref a)]))) (fun τ κ => XS.aloadN X3.here hx rfl (hb hby d1_33) rfl rfl κ) ?_
    refine own_go (S' := (T3.setTop (mkF m 35 #[.val (.ref a), .val (.ref ca), .val (.int (Int32.ofNat f))] [(.int (Int32.ofNat f)), (.ref a)]))) (fun τ κ => XS.iloadN X3.here hx rfl (hb hby d1_34) rfl κ) ?_
    obtain ⟨T4, h4, X4, e4, W4, st4⟩ := putF X3 hx hZ hown (host := "") (Or.inl (hw _ (List.mem_of_getElem? (i := 26) rfl))) Via.refl e3 F2 E0 (Or.inr ⟨(hw _ (List.mem_of_getElem? (i := 27) rfl)), rfl, hnm⟩) (hw _ (List.mem_of_getElem? (i := 2) rfl)) (ty := .int) (by decide) rfl rfl (g := (mkF m 35 #[.val (.ref a), .val (.ref ca), .val (.int (Int32.ofNat f))] [(.int (Int32.ofNat f)), (.ref a)])) rfl rfl (hb hby d1_35)
    replace E0 := Exa.wr W4 E0
    replace F1 := Fld.other W4 F1 (Or.inr (slot_ne (Z := Z) (a0 := a0) (Or.inr (hw _ (List.mem_of_getElem? (i := 25) rfl))) (Or.inr (hw _ (List.mem_of_getElem? (i := 27) rfl))) (by decide) (t := (.array .int)) (t' := .int) (by decide) (by decide)))
    replace A := A.other W4 (Ne.symm nac)
    replace F2 := Fld.same W4 F2
    have N4 := Fr.snoc X4 N3 ga
    replace K := K.wr W4 (Or.inl (by simp))
    refine own_go (S' := (T4.setTop (mkF m 38 #[.val (.ref a), .val (.ref ca), .val (.int (Int32.ofNat f))] []))) st4 ?_
    exact own_retV X4 hx hret hlk (hb hby d1_38) (by decide) (by decide) ⟨rfl, N4, ys, f, hp, hs, hf1, hf2, hf3, by rw [e4]; exact E0, by rw [e4]; exact F1, by rw [e4]; exact F2, by rw [e4]; exact A, by rw [e4]; exact K⟩
  have J15 : ∀ r i, i + r = ys.length → (∀ j, j < i → (ys.getD j 0).toInt < 0) → own_End p e below s (fun v h L => v = none ∧ Fr n0 L ∧ ∃ (ys : List Int32) (f : Nat), ys.Perm xs ∧ own_sorted ys ∧ f ≤ ys.length ∧ (∀ j, j < f → (ys.getD j 0).toInt < 0) ∧ (f < ys.length → 0 ≤ (ys.getD f 0).toInt) ∧ Exa Z h a "com/example/twinhash/twinhash/shingle/ShingleSet" ∧ Fld Z h a "com/example/twinhash/twinhash/shingle/ShingleSet" "codes" "[I" (.ref ca) ∧ Fld Z h a "com/example/twinhash/twinhash/shingle/ShingleSet" "firstSeen" "I" (.int (Int32.ofNat f)) ∧ own_L Z h ca .int (List.map Value.int ys) ∧ Keep h0 h [a, ca]) 0 0 (T3.setTop (mkF m 15 #[.val (.ref a), .val (.ref ca), .val (.int (Int32.ofNat i))] [])) := by
    intro r
    induction r with
    | zero =>
      intro i hi hbef
      have hge : ¬ Int32.ofNat i < Int32.ofNat ys.length := by rw [own_ofNat_lt (by omega) (by omega)]; omega
      refine own_go (S' := (T3.setTop (mkF m 16 #[.val (.ref a), .val (.ref ca), .val (.int (Int32.ofNat i))] [(.int (Int32.ofNat i))]))) (fun τ κ => XS.iloadN X3.here hx rfl (hb hby d1_15) rfl κ) ?_
      refine own_go (S' := (T3.setTop (mkF m 17 #[.val (.ref a), .val (.ref ca), .val (.int (Int32.ofNat i))] [(.ref ca), (.int (Int32.ofNat i))]))) (fun τ κ => XS.aloadN X3.here hx rfl (hb hby d1_16) rfl rfl κ) ?_
      refine own_go (S' := (T3.setTop (mkF m 18 #[.val (.ref a), .val (.ref ca), .val (.int (Int32.ofNat i))] [(.int (Int32.ofNat ys.length)), (.int (Int32.ofNat i))]))) (own_len A own_lenI X3 hx hZ e3 (hb hby d1_17)) ?_
      refine own_go (S' := (T3.setTop (mkF m 33 #[.val (.ref a), .val (.ref ca), .val (.int (Int32.ofNat i))] []))) (fun τ κ => XS.icmpYes X3.here hx rfl (pc0 := 18) (pc' := 33) rfl (hb hby d1_18) rfl (flt hge).2.1 (by decide) (by decide) κ) ?_
      exact J33 i (by omega) hbef (fun q => absurd q (by omega))
    | succ r ih =>
      intro i hi hbef
      have hlt : Int32.ofNat i < Int32.ofNat ys.length := by rw [own_ofNat_lt (by omega) (by omega)]; omega
      have hi31 : i < 2 ^ 31 := by omega
      by_cases hz : ys.getD i 0 < (0 : Int32)
      · have hz' : (ys.getD i 0).toInt < 0 := Int32.lt_iff_toInt_lt.mp hz
        refine own_go (S' := (T3.setTop (mkF m 16 #[.val (.ref a), .val (.ref ca), .val (.int (Int32.ofNat i))] [(.int (Int32.ofNat i))]))) (fun τ κ => XS.iloadN X3.here hx rfl (hb hby d1_15) rfl κ) ?_
        refine own_go (S' := (T3.setTop (mkF m 17 #[.val (.ref a), .val (.ref ca), .val (.int (Int32.ofNat i))] [(.ref ca), (.int (Int32.ofNat i))]))) (fun τ κ => XS.aloadN X3.here hx rfl (hb hby d1_16) rfl rfl κ) ?_
        refine own_go (S' := (T3.setTop (mkF m 18 #[.val (.ref a), .val (.ref ca), .val (.int (Int32.ofNat i))] [(.int (Int32.ofNat ys.length)), (.int (Int32.ofNat i))]))) (own_len A own_lenI X3 hx hZ e3 (hb hby d1_17)) ?_
        refine own_go (S' := (T3.setTop (mkF m 21 #[.val (.ref a), .val (.ref ca), .val (.int (Int32.ofNat i))] []))) (fun τ κ => XS.icmpNo X3.here hx rfl (hb hby d1_18) rfl (tlt hlt).2.1 κ) ?_
        refine own_go (S' := (T3.setTop (mkF m 22 #[.val (.ref a), .val (.ref ca), .val (.int (Int32.ofNat i))] [(.ref ca)]))) (fun τ κ => XS.aloadN X3.here hx rfl (hb hby d1_21) rfl rfl κ) ?_
        refine own_go (S' := (T3.setTop (mkF m 23 #[.val (.ref a), .val (.ref ca), .val (.int (Int32.ofNat i))] [(.int (Int32.ofNat i)), (.ref ca)]))) (fun τ κ => XS.iloadN X3.here hx rfl (hb hby d1_22) rfl κ) ?_
        refine own_go (S' := (T3.setTop (mkF m 24 #[.val (.ref a), .val (.ref ca), .val (.int (Int32.ofNat i))] [(.int (ys.getD i 0))]))) (own_iaload (j := (Int32.ofNat i)) (v := (.int (ys.getD i 0))) A X3 hx hZ e3 (own_ofNat_nneg hi31) (i := i) (own_clamp hi31) (by rw [List.length_map]; omega) (own_mapD (by omega)) (hb hby d1_23)) ?_
        refine own_go (S' := (T3.setTop (mkF m 27 #[.val (.ref a), .val (.ref ca), .val (.int (Int32.ofNat i))] []))) (fun τ κ => XS.ifNo X3.here hx rfl (hb hby d1_24) rfl ((if0 _ _).trans (tlt hz).2.1) κ) ?_
        refine own_go (S' := (T3.setTop (mkF m 30 #[.val (.ref a), .val (.ref ca), .val (.int ((Int32.ofNat i) + (1 : Int32)))] []))) (fun τ κ => XT.iincV X3.here hx rfl (1 : Int32) (hb hby d1_27) (by decide) rfl (l' := #[.val (.ref a), .val (.ref ca), .val (.int ((Int32.ofNat i) + (1 : Int32)))]) rfl κ) ?_
        refine own_go (S' := (T3.setTop (mkF m 15 #[.val (.ref a), .val (.ref ca), .val (.int ((Int32.ofNat i) + (1 : Int32)))] []))) (fun τ κ => XS.goto X3.here hx rfl (pc0 := 30) (pc' := 15) rfl (hb hby d1_30) (by decide) (by decide) κ) ?_
        rw [own_succ]
        exact ih (i + 1) (by omega) (fun j hj => by rcases Nat.lt_or_ge j i with q | q; exact hbef j q; (have : j = i := by omega); exact this ▸ hz')
      · have hz' : 0 ≤ (ys.getD i 0).toInt := by rw [Int32.lt_iff_toInt_lt] at hz; exact Int.not_lt.mp hz
        refine own_go (S' := (T3.setTop (mkF m 16 #[.val (.ref a), .val (.ref ca), .val (.int (Int32.ofNat i))] [(.int (Int32.ofNat i))]))) (fun τ κ => XS.iloadN X3.here hx rfl (hb hby d1_15) rfl κ) ?_
        refine own_go (S' := (T3.setTop (mkF m 17 #[.val (.ref a), .val (.ref ca), .val (.int (Int32.ofNat i))] [(.ref ca), (.int (Int32.ofNat i))]))) (fun τ κ => XS.aloadN X3.here hx rfl (hb hby d1_16) rfl rfl κ) ?_
        refine own_go (S' := (T3.setTop (mkF m 18 #[.val (.ref a), .val (.ref ca), .val (.int (Int32.ofNat i))] [(.int (Int32.ofNat ys.length)), (.int (Int32.ofNat i))]))) (own_len A own_lenI X3 hx hZ e3 (hb hby d1_17)) ?_
        refine own_go (S' := (T3.setTop (mkF m 21 #[.val (.ref a), .val (.ref ca), .val (.int (Int32.ofNat i))] []))) (fun τ κ => XS.icmpNo X3.here hx rfl (hb hby d1_18) rfl (tlt hlt).2.1 κ) ?_
        refine own_go (S' := (T3.setTop (mkF m 22 #[.val (.ref a), .val (.ref ca), .val (.int (Int32.ofNat i))] [(.ref ca)]))) (fun τ κ => XS.aloadN X3.here hx rfl (hb hby d1_21) rfl rfl κ) ?_
        refine own_go (S' := (T3.setTop (mkF m 23 #[.val (.ref a), .val (.ref ca), .val (.int (Int32.ofNat i))] [(.int (Int32.ofNat i)), (.ref ca)]))) (fun τ κ => XS.iloadN X3.here hx rfl (hb hby d1_22) rfl κ) ?_
        refine own_go (S' := (T3.setTop (mkF m 24 #[.val (.ref a), .val (.ref ca), .val (.int (Int32.ofNat i))] [(.int (ys.getD i 0))]))) (own_iaload (j := (Int32.ofNat i)) (v := (.int (ys.getD i 0))) A X3 hx hZ e3 (own_ofNat_nneg hi31) (i := i) (own_clamp hi31) (by rw [List.length_map]; omega) (own_mapD (by omega)) (hb hby d1_23)) ?_
        refine own_go (S' := (T3.setTop (mkF m 33 #[.val (.ref a), .val (.ref ca), .val (.int (Int32.ofNat i))] []))) (fun τ κ => XS.ifYes X3.here hx rfl (pc0 := 24) (pc' := 33) rfl (hb hby d1_24) rfl ((if0 _ _).trans (flt hz).2.1) (by decide) (by decide) κ) ?_
        exact J33 i (by omega) hbef (fun _ => hz')
  exact J15 ys.length 0 (by omega) (fun j hj => absurd hj (by omega))
def own_large (ys : List Int32) (f : Nat) : Int32 := if ys.length = f then -1 else ys.getD (ys.length - 1) 0
theorem d7_0 : decode prog_29_method_4_code 0 = .ok (.aload_n 0, 1) := by decide +kernel
theorem d7_1 : decode prog_29_method_4_code 1 = .ok (.getfield 13, 3) := by decide +kernel
theorem d7_4 : decode prog_29_method_4_code 4 = .ok (.arraylength, 1) := by decide +kernel
theorem d7_5 : decode prog_29_method_4_code 5 = .ok (.aload_n 0, 1) := by decide +kernel
theorem d7_6 : decode prog_29_method_4_code 6 = .ok (.getfield 19, 3) := by decide +kernel
theorem d7_9 : decode prog_29_method_4_code 9 = .ok (.if_icmp .ne 7, 3) := by decide +kernel
theorem d7_12 : decode prog_29_method_4_code 12 = .ok (.iconst (-1), 1) := by decide +kernel
theorem d7_13 : decode prog_29_method_4_code 13 = .ok (.goto 15, 3) := by decide +kernel
theorem d7_16 : decode prog_29_method_4_code 16 = .ok (.aload_n 0, 1) := by decide +kernel
theorem d7_17 : decode prog_29_method_4_code 17 = .ok (.getfield 13, 3) := by decide +kernel
theorem d7_20 : decode prog_29_method_4_code 20 = .ok (.aload_n 0, 1) := by decide +kernel
theorem d7_21 : decode prog_29_method_4_code 21 = .ok (.getfield 13, 3) := by decide +kernel
theorem d7_24 : decode prog_29_method_4_code 24 = .ok (.arraylength, 1) := by decide +kernel
theorem d7_25 : decode prog_29_method_4_code 25 = .ok (.iconst 1, 1) := by decide +kernel
theorem d7_26 : decode prog_29_method_4_code 26 = .ok (.isub, 1) := by decide +kernel
theorem d7_27 : decode prog_29_method_4_code 27 = .ok (.iaload, 1) := by decide +kernel
theorem d7_28 : decode prog_29_method_4_code 28 = .ok (.ireturn, 1) := by decide +kernel
theorem pn_7 : plainName "com/example/twinhash/twinhash/shingle/ShingleSet" = true := by first | (simp [plainName, overriddenIn]; done) | decide +kernel
theorem ef_7 (m : MethodId) (a : Addr) : entryFrame m #[(.ref a)] 1 = mkF m 0 #[.val (.ref a)] [] := by first | (simp [entryFrame, mkF, argsToLocals, Value.category]; done) | rfl
set_option maxRecDepth 65536 in
set_option maxHeartbeats 40000000 in
theorem rm7 (l : Launch) (Z : State) (a0 : Array Value) (hw : ∀ d ∈ tables_1, d.before a0 Z = true) (a : Addr) (ca : Addr) (ys : List Int32) (f : Nat) (h0 : Heap) (hfl : f ≤ ys.length) (hyl : ys.length < 40) (F1 : Fld Z h0 a "com/example/twinhash/twinhash/shingle/ShingleSet" "codes" "[I" (.ref ca)) (F2 : Fld Z h0 a "com/example/twinhash/twinhash/shingle/ShingleSet" "firstSeen" "I" (.int (Int32.ofNat f))) (A : own_L Z h0 ca .int (List.map Value.int ys)) : own_C l Z (⟨"com/example/twinhash/twinhash/shingle/ShingleSet", "largestCode", "()I"⟩ : MethodName) prog_29_method_4_code 1 (some .int) ({ frames := 0, cells := 0, slots := 0, locals := 0 } : Room) #[(.ref a)] h0 (own_P h0 (some (.int (own_large ys f)))) := by
  refine MetFree.of_bodySF (plainFor_of_name pn_7) hisR ?_
  intro p e s m args below meth c s₁ Bd hml hP hK
  obtain ⟨rfl, hZ, hh⟩ := hP
  have hx := Bd.exec
  have hby := Bd.bytes
  have hown : s.vm.findClass "com/example/twinhash/twinhash/shingle/ShingleSet" = some m.cls := findClass_of_methodNamed Bd.named
  have hnm := (name_of_methodNamed Bd.named Bd.method).1
  have hret : meth.sig.returnType = some .int := Bd.returns
  have hlk := BodyLoose.notSynchronized Bd
  have X0 : Stand p l e ({ frames := 0, cells := 0, slots := 0, locals := 0 } : Room) s m #[(.ref a)] below meth c s₁ [] 0 0 := Stand.of_body Bd
  have e0 : s₁.heap = h0 := by rw [← hh, Bd.state]; rfl
  show own_End p e below s (own_P h0 (some (.int (own_large ys f)))) 0 0 (s₁.setTop (entryFrame m #[(.ref a)] 1))
  refine own_cast (ef_7 m a) ?_
  by_cases hf : ys.length = f
  · have hq : Int32.ofNat ys.length = Int32.ofNat f := by rw [hf]
    refine own_go (S' := (s₁.setTop (mkF m 1 #[.val (.ref a)] [(.ref a)]))) (fun τ κ => XS.aloadN X0.here hx rfl (hb hby d7_0) rfl rfl κ) ?_
    obtain ⟨T1, X1, e1, st1⟩ := getF X0 hx hZ hown (host := "") (Or.inl (hw _ (List.mem_of_getElem? (i := 24) rfl))) Via.refl e0 F1 (g := (mkF m 1 #[.val (.ref a)] [(.ref a)])) rfl rfl (hb hby d7_1)
    refine own_go (S' := (T1.setTop (mkF m 4 #[.val (.ref a)] [(.ref ca)]))) st1 ?_
    refine own_go (S' := (T1.setTop (mkF m 5 #[.val (.ref a)] [(.int (Int32.ofNat ys.length))]))) (own_len A own_lenI X1 hx hZ e1 (hb hby d7_4)) ?_
    refine own_go (S' := (T1.setTop (mkF m 6 #[.val (.ref a)] [(.ref a), (.int (Int32.ofNat ys.length))]))) (fun τ κ => XS.aloadN X1.here hx rfl (hb hby d7_5) rfl rfl κ) ?_
    obtain ⟨T2, X2, e2, st2⟩ := getF X1 hx hZ hown (host := "") (Or.inl (hw _ (List.mem_of_getElem? (i := 26) rfl))) Via.refl e1 F2 (g := (mkF m 6 #[.val (.ref a)] [(.ref a), (.int (Int32.ofNat ys.length))])) rfl rfl (hb hby d7_6)
    refine own_go (S' := (T2.setTop (mkF m 9 #[.val (.ref a)] [(.int (Int32.ofNat f)), (.int (Int32.ofNat ys.length))]))) st2 ?_
    refine own_go (S' := (T2.setTop (mkF m 12 #[.val (.ref a)] []))) (fun τ κ => XS.icmpNo X2.here hx rfl (hb hby d7_9) rfl (teq hq).2 κ) ?_
    refine own_go (S' := (T2.setTop (mkF m 13 #[.val (.ref a)] [(.int (-1 : Int32))]))) (fun τ κ => XT.iconstV X2.here hx rfl (-1 : Int32) (hb hby d7_12) (by decide) κ) ?_
    refine own_go (S' := (T2.setTop (mkF m 28 #[.val (.ref a)] [(.int (-1 : Int32))]))) (fun τ κ => XS.goto X2.here hx rfl (pc0 := 13) (pc' := 28) rfl (hb hby d7_13) (by decide) (by decide) κ) ?_
    exact own_retI X2 hx hret hlk (hb hby d7_28) (by decide) (by decide) ⟨by unfold own_large; rw [if_pos hf], rfl, e2⟩
  · have hq : ¬ Int32.ofNat ys.length = Int32.ofNat f := by
      intro z; have := congrArg Int32.toInt z; rw [own_ofNat_toInt (by omega), own_ofNat_toInt (by omega)] at this; omega
    have hpl : Int32.ofNat ys.length - (1 : Int32) = Int32.ofNat (ys.length - 1) := by
      obtain ⟨q, hq⟩ : ∃ q, ys.length = q + 1 := ⟨ys.length - 1, by omega⟩
      rw [hq]; exact own_pred' q
    refine own_go (S' := (s₁.setTop (mkF m 1 #[.val (.ref a)] [(.ref a)]))) (fun τ κ => XS.aloadN X0.here hx rfl (hb hby d7_0) rfl rfl κ) ?_
    obtain ⟨T3, X3, e3, st3⟩ := getF X0 hx hZ hown (host := "") (Or.inl (hw _ (List.mem_of_getElem? (i := 24) rfl))) Via.refl e0 F1 (g := (mkF m 1 #[.val (.ref a)] [(.ref a)])) rfl rfl (hb hby d7_1)
    refine own_go (S' := (T3.setTop (mkF m 4 #[.val (.ref a)] [(.ref ca)]))) st3 ?_
    refine own_go (S' := (T3.setTop (mkF m 5 #[.val (.ref a)] [(.int (Int32.ofNat ys.length))]))) (own_len A own_lenI X3 hx hZ e3 (hb hby d7_4)) ?_
    refine own_go (S' := (T3.setTop (mkF m 6 #[.val (.ref a)] [(.ref a), (.int (Int32.ofNat ys.length))]))) (fun τ κ => XS.aloadN X3.here hx rfl (hb hby d7_5) rfl rfl κ) ?_
    obtain ⟨T4, X4, e4, st4⟩ := getF X3 hx hZ hown (host := "") (Or.inl (hw _ (List.mem_of_getElem? (i := 26) rfl))) Via.refl e3 F2 (g := (mkF m 6 #[.val (.ref a)] [(.ref a), (.int (Int32.ofNat ys.length))])) rfl rfl (hb hby d7_6)
    refine own_go (S' := (T4.setTop (mkF m 9 #[.val (.ref a)] [(.int (Int32.ofNat f)), (.int (Int32.ofNat ys.length))]))) st4 ?_
    refine own_go (S' := (T4.setTop (mkF m 16 #[.val (.ref a)] []))) (fun τ κ => XS.icmpYes X4.here hx rfl (pc0 := 9) (pc' := 16) rfl (hb hby d7_9) rfl (feq hq).2 (by decide) (by decide) κ) ?_
    refine own_go (S' := (T4.setTop (mkF m 17 #[.val (.ref a)] [(.ref a)]))) (fun τ κ => XS.aloadN X4.here hx rfl (hb hby d7_16) rfl rfl κ) ?_
    obtain ⟨T5, X5, e5, st5⟩ := getF X4 hx hZ hown (host := "") (Or.inl (hw _ (List.mem_of_getElem? (i := 24) rfl))) Via.refl e4 F1 (g := (mkF m 17 #[.val (.ref a)] [(.ref a)])) rfl rfl (hb hby d7_17)
    refine own_go (S' := (T5.setTop (mkF m 20 #[.val (.ref a)] [(.ref ca)]))) st5 ?_
    refine own_go (S' := (T5.setTop (mkF m 21 #[.val (.ref a)] [(.ref a), (.ref ca)]))) (fun τ κ => XS.aloadN X5.here hx rfl (hb hby d7_20) rfl rfl κ) ?_
    obtain ⟨T6, X6, e6, st6⟩ := getF X5 hx hZ hown (host := "") (Or.inl (hw _ (List.mem_of_getElem? (i := 24) rfl))) Via.refl e5 F1 (g := (mkF m 21 #[.val (.ref a)] [(.ref a), (.ref ca)])) rfl rfl (hb hby d7_21)
    refine own_go (S' := (T6.setTop (mkF m 24 #[.val (.ref a)] [(.ref ca), (.ref ca)]))) st6 ?_
    refine own_go (S' := (T6.setTop (mkF m 25 #[.val (.ref a)] [(.int (Int32.ofNat ys.length)), (.ref ca)]))) (own_len A own_lenI X6 hx hZ e6 (hb hby d7_24)) ?_
    refine own_go (S' := (T6.setTop (mkF m 26 #[.val (.ref a)] [(.int (1 : Int32)), (.int (Int32.ofNat ys.length)), (.ref ca)]))) (fun τ κ => XT.iconstV X6.here hx rfl (1 : Int32) (hb hby d7_25) (by decide) κ) ?_
    refine own_go (S' := (T6.setTop (mkF m 27 #[.val (.ref a)] [(.int ((Int32.ofNat ys.length) - (1 : Int32))), (.ref ca)]))) (fun τ κ => XS.isub X6.here hx rfl (hb hby d7_26) rfl κ) ?_
    refine own_go (S' := (T6.setTop (mkF m 28 #[.val (.ref a)] [(.int (ys.getD (ys.length - 1) 0))]))) (own_iaload (j := ((Int32.ofNat ys.length) - (1 : Int32))) (v := (.int (ys.getD (ys.length - 1) 0))) A X6 hx hZ e6 (by rw [hpl]; exact own_ofNat_nneg (by omega)) (i := (ys.length - 1)) (by rw [hpl]; exact own_clamp (by omega)) (by rw [List.length_map]; omega) (own_mapD (by omega)) (hb hby d7_27)) ?_
    exact own_retI X6 hx hret hlk (hb hby d7_28) (by decide) (by decide) ⟨by unfold own_large; rw [if_neg hf], rfl, e6⟩
theorem d8_0 : decode jdk_29_method_65_code 0 = .ok (.iload_n 0, 1) := by decide +kernel
theorem d8_1 : decode jdk_29_method_65_code 1 = .ok (.iload_n 1, 1) := by decide +kernel
theorem d8_2 : decode jdk_29_method_65_code 2 = .ok (.if_icmp .lt 7, 3) := by decide +kernel
theorem d8_5 : decode jdk_29_method_65_code 5 = .ok (.iload_n 0, 1) := by decide +kernel
theorem d8_6 : decode jdk_29_method_65_code 6 = .ok (.goto 4, 3) := by decide +kernel
theorem d8_9 : decode jdk_29_method_65_code 9 = .ok (.iload_n 1, 1) := by decide +kernel
theorem d8_10 : decode jdk_29_method_65_code 10 = .ok (.ireturn, 1) := by decide +kernel
def f8_0 (l0 : Int32) (l1 : Int32) : Int32 := (if l0 < l1 then l1 else l0)
set_option maxRecDepth 65536 in
set_option maxHeartbeats 40000000 in
theorem w8_0 {p : Program} {l : Launch} {e : Env} {s : State} {m : MethodId} {args : Array Value} {below : List Frame} {meth : Method} {c : Code} {T0 : State} {locs : List Loc} {Z : State} {a0 : Array Value} {h0 : Heap} {Q : Option Value → Heap → List Loc → Prop}
    (X0 : Stand p l e ({ frames := 0, cells := 0, slots := 0, locals := 0 } : Room) s m args below meth c T0 locs 0 0) (hx : p.tables.exec = Jvm.exec) (hby : c.code = jdk_29_method_65_code) (hml : c.maxLocals = 2) (hret : meth.sig.returnType = (some .int)) (hlk : meth.locks = false) (hown : s.vm.findClass "java/lang/Math" = some m.cls) (hZ : Z.Warmed39 s.vm) (hw : ∀ d ∈ tables_1, d.before a0 Z = true) (e0 : T0.heap = h0)
    (l0 : Int32) (l1 : Int32) (hQ : Q (some (.int (f8_0 l0 l1))) h0 locs) : own_End p e below s Q 0 0 (T0.setTop (mkF m 0 #[.val (.int l0), .val (.int l1)] [])) := by
  unfold f8_0 at hQ
  refine own_go (S' := (T0.setTop (mkF m 1 #[.val (.int l0), .val (.int l1)] [(.int l0)]))) (fun τ κ => XS.iloadN X0.here hx rfl (hb hby d8_0) rfl κ) ?_
  refine own_go (S' := (T0.setTop (mkF m 2 #[.val (.int l0), .val (.int l1)] [(.int l1), (.int l0)]))) (fun τ κ => XS.iloadN X0.here hx rfl (hb hby d8_1) rfl κ) ?_
  by_cases hc2_1 : l0 < l1
  ·
    rw [if_pos hc2_1] at hQ
    refine own_go (S' := (T0.setTop (mkF m 9 #[.val (.int l0), .val (.int l1)] []))) (fun τ κ => XS.icmpYes X0.here hx rfl (pc0 := 2) (pc' := 9) rfl (hb hby d8_2) rfl (tlt hc2_1).1 (by decide) (by decide) κ) ?_
    refine own_go (S' := (T0.setTop (mkF m 10 #[.val (.int l0), .val (.int l1)] [(.int l1)]))) (fun τ κ => XS.iloadN X0.here hx rfl (hb hby d8_9) rfl κ) ?_
    exact own_retI X0 hx hret hlk (hb hby d8_10) (Nat.le_refl _) (Nat.le_refl _) (by rw [e0]; exact hQ)
  ·
    rw [if_neg hc2_1] at hQ
    refine own_go (S' := (T0.setTop (mkF m 5 #[.val (.int l0), .val (.int l1)] []))) (fun τ κ => XS.icmpNo X0.here hx rfl (hb hby d8_2) rfl (flt hc2_1).1 κ) ?_
    refine own_go (S' := (T0.setTop (mkF m 6 #[.val (.int l0), .val (.int l1)] [(.int l0)]))) (fun τ κ => XS.iloadN X0.here hx rfl (hb hby d8_5) rfl κ) ?_
    refine own_go (S' := (T0.setTop (mkF m 10 #[.val (.int l0), .val (.int l1)] [(.int l0)]))) (fun τ κ => XS.goto X0.here hx rfl (pc0 := 6) (pc' := 10) rfl (hb hby d8_6) (by decide) (by decide) κ) ?_
    exact own_retI X0 hx hret hlk (hb hby d8_10) (Nat.le_refl _) (Nat.le_refl _) (by rw [e0]; exact hQ)
theorem ef_8 (m : MethodId) (l0 : Int32) (l1 : Int32) : entryFrame m #[(.int l0), (.int l1)] 2 = mkF m 0 #[.val (.int l0), .val (.int l1)] [] := by first | (simp [entryFrame, mkF, argsToLocals, Value.category]; done) | rfl
set_option maxRecDepth 65536 in
theorem rm8 (l : Launch) (Z : State) (a0 : Array Value) (hw : ∀ d ∈ tables_1, d.before a0 Z = true) (l0 : Int32) (l1 : Int32) (h0 : Heap) : own_C l Z (⟨"java/lang/Math", "max", "(II)I"⟩ : MethodName) jdk_29_method_65_code 2 (some .int) ({ frames := 0, cells := 0, slots := 0, locals := 0 } : Room) #[(.int l0), (.int l1)] h0 (own_P h0 (some (.int (f8_0 l0 l1)))) := by
  refine MetFree.of_bodySF (Jvm.Free.JP.mathPlain rfl (by decide +kernel)) hisR ?_
  intro p e s m args below meth c s₁ Bd hml hP hK
  obtain ⟨rfl, hZ, hh⟩ := hP
  show own_End p e below s (own_P h0 (some (.int (f8_0 l0 l1)))) 0 0 (s₁.setTop (entryFrame m #[(.int l0), (.int l1)] 2))
  exact own_cast (ef_8 m l0 l1) (w8_0 (Stand.of_body Bd) Bd.exec Bd.bytes hml Bd.returns (BodyLoose.notSynchronized Bd) (findClass_of_methodNamed Bd.named) hZ hw (by rw [← hh, Bd.state]; rfl) l0 l1 ⟨rfl, rfl, rfl⟩)
def own_ch (xs : List Int32) (E : Int32) : Prop := (E = -1 ∧ ∀ x ∈ xs, x.toInt < 0) ∨ (E ∈ xs ∧ 0 ≤ E.toInt ∧ ∀ x ∈ xs, x.toInt ≤ E.toInt)
theorem own_ch_uniq {xs : List Int32} {E E' : Int32} (h : own_ch xs E) (h' : own_ch xs E') : E = E' := by
  rcases h with ⟨rfl, h⟩ | ⟨h1, h2, h3⟩ <;> rcases h' with ⟨rfl, h'⟩ | ⟨g1, g2, g3⟩
  · rfl
  · have := h _ g1; omega
  · have := h' _ h1; omega
  · exact Int32.toInt_inj.mp (Int.le_antisymm (g3 _ h1) (h3 _ g1))
theorem own_large_ch {xs ys : List Int32} {f : Nat} (hp : ys.Perm xs) (hs : own_sorted ys) (h1 : f ≤ ys.length) (h2 : ∀ j, j < f → (ys.getD j 0).toInt < 0) (h3 : f < ys.length → 0 ≤ (ys.getD f 0).toInt) : own_ch xs (own_large ys f) := by
  unfold own_large
  by_cases hf : ys.length = f
  · rw [if_pos hf]
    refine Or.inl ⟨rfl, fun x hx => ?_⟩
    obtain ⟨j, hj, e⟩ := List.getElem_of_mem (hp.mem_iff.mpr hx)
    have := h2 j (by omega)
    rw [List.getD_eq_getElem?_getD, List.getElem?_eq_getElem hj] at this
    rw [← e]; exact this
  · rw [if_neg hf]
    have hl : f < ys.length := by omega
    have e0 : ∀ j (hj : j < ys.length), ys.getD j 0 = ys[j] := fun j hj => by rw [List.getD_eq_getElem?_getD, List.getElem?_eq_getElem hj]; rfl
    have le : ∀ j (hj : j < ys.length), ys[j].toInt ≤ (ys.getD (ys.length - 1) 0).toInt := fun j hj => by
      rw [e0 _ (by omega)]
      rcases Nat.lt_or_ge j (ys.length - 1) with q | q
      · exact List.pairwise_iff_getElem.mp hs j (ys.length - 1) hj (by omega) q
      · have : j = ys.length - 1 := by omega
        subst this; exact Int.le_refl _
    refine Or.inr ⟨?_, ?_, fun x hx => ?_⟩
    · rw [e0 _ (by omega)]; exact hp.mem_iff.mp (List.getElem_mem _)
    · have := h3 hl
      rw [e0 f hl] at this
      exact Int.le_trans this (le f hl)
    · obtain ⟨j, hj, e⟩ := List.getElem_of_mem (hp.mem_iff.mpr hx)
      rw [← e]; exact le j hj
theorem own_ch_nil : own_ch [] (-1 : Int32) := Or.inl ⟨rfl, fun x hx => nomatch hx⟩
theorem own_ch_neg {xs : List Int32} {E x : Int32} (h : own_ch xs E) (hx : x < (0 : Int32)) : own_ch (xs ++ [x]) E := by
  have hx' : x.toInt < 0 := Int32.lt_iff_toInt_lt.mp hx
  rcases h with ⟨rfl, h⟩ | ⟨h1, h2, h3⟩
  · refine Or.inl ⟨rfl, fun z hz => ?_⟩
    rcases List.mem_append.mp hz with q | q
    · exact h z q
    · rw [List.mem_singleton.mp q]; exact hx'
  · refine Or.inr ⟨List.mem_append_left _ h1, h2, fun z hz => ?_⟩
    rcases List.mem_append.mp hz with q | q
    · exact h3 z q
    · rw [List.mem_singleton.mp q]; omega
theorem own_ch_pos {xs : List Int32} {E x : Int32} (h : own_ch xs E) (hx : ¬ x < (0 : Int32)) : own_ch (xs ++ [x]) (f8_0 E x) := by
  have hx' : 0 ≤ x.toInt := by rw [Int32.lt_iff_toInt_lt] at hx; exact Int.not_lt.mp hx
  have hmx : x ∈ xs ++ [x] := List.mem_append_right _ (List.mem_singleton.mpr rfl)
  have e1 : (-1 : Int32).toInt = -1 := by decide
  unfold f8_0
  rcases h with ⟨rfl, h⟩ | ⟨h1, h2, h3⟩
  · rw [if_pos (Int32.lt_iff_toInt_lt.mpr (by omega))]
    refine Or.inr ⟨hmx, hx', fun z hz => ?_⟩
    rcases List.mem_append.mp hz with q | q
    · have := h z q; omega
    · rw [List.mem_singleton.mp q]; exact Int.le_refl _
  · by_cases hlt : E < x
    · have hlt' : E.toInt < x.toInt := Int32.lt_iff_toInt_lt.mp hlt
      rw [if_pos hlt]
      refine Or.inr ⟨hmx, hx', fun z hz => ?_⟩
      rcases List.mem_append.mp hz with q | q
      · have := h3 z q; omega
      · rw [List.mem_singleton.mp q]; exact Int.le_refl _
    · have hlt' : x.toInt ≤ E.toInt := by rw [Int32.lt_iff_toInt_lt] at hlt; omega
      rw [if_neg hlt]
      refine Or.inr ⟨List.mem_append_left _ h1, h2, fun z hz => ?_⟩
      rcases List.mem_append.mp hz with q | q
      · exact h3 z q
      · rw [List.mem_singleton.mp q]; exact hlt'
theorem own_and3 (x : Int32) : x &&& (3 : Int32) = 0 ∨ x &&& (3 : Int32) = 1 ∨ x &&& (3 : Int32) = 2 ∨ x &&& (3 : Int32) = 3 := by
  have h := Jvm.Kit.i32_mask x 3 (k := 2) (by decide) (by decide)
  have e : ∀ i : Int32, (x &&& (3 : Int32)) = i ↔ (x &&& (3 : Int32)).toInt = i.toInt := fun i => Int32.toInt_inj.symm
  rw [e, e, e, e, h]
  have : (0 : Int32).toInt = 0 ∧ (1 : Int32).toInt = 1 ∧ (2 : Int32).toInt = 2 ∧ (3 : Int32).toInt = 3 := by decide
  omega
theorem pn_0 : plainName "com/example/twinhash/twinhash/shingle/ShingleSetLargestCodePinLaw" = true := by first | (simp [plainName, overriddenIn]; done) | decide +kernel
theorem ef_0 (m : MethodId) (x0 : Int32) (x1 : Int32) (x2 : Int32) (x3 : Int32) : entryFrame m #[(.int x0), (.int x1), (.int x2), (.int x3)] maxLocals = mkF m 0 #[.val (.int x0), .val (.int x1), .val (.int x2), .val (.int x3), .unset, .unset, .unset, .unset] [] := by first | (simp [entryFrame, mkF, argsToLocals, Value.category, maxLocals]; done) | rfl
def Q0 (n0 : Nat) (v : Option Value) (h : Heap) (L : List Loc) : Prop := v = some (.int (1 : Int32)) ∧ Fr n0 L
set_option maxRecDepth 65536 in
set_option maxHeartbeats 400000000 in
theorem rm0 (l : Launch) (Z : State) (a0 : Array Value) (hw : ∀ d ∈ tables_1, d.before a0 Z = true) (ws : List Jvm.Cond) (x0 : Int32) (x1 : Int32) (x2 : Int32) (x3 : Int32) (h0 : Heap) (n0 : Nat) (Z0 : n0 ≤ h0.size) :
    MetFree l x (head1 (Jvm.Cond.code x code maxLocals ret :: ws) room_1) (fun a U => a = #[(.int x0), (.int x1), (.int x2), (.int x3)] ∧ Z.Warmed39 U.vm ∧ U.heap = h0) (fun _ _ _ _ _ => True) (fun _ U o U' => ∃ v L, o = .returned v ∧ Q0 n0 v U'.heap L ∧ FrameEnd U o U' L 16 128) := by
  refine MetFree.of_bodySF (plainFor_of_name pn_0) hisR ?_
  intro p e s m args below meth c s₁ Bd hml0 hP hK
  obtain ⟨rfl, hZ, hh⟩ := hP
  have hx := Bd.exec
  have hby := Bd.bytes
  have hml : c.maxLocals = 8 := hml0
  have hown : s.vm.findClass "com/example/twinhash/twinhash/shingle/ShingleSetLargestCodePinLaw" = some m.cls := findClass_of_methodNamed Bd.named
  have hret : meth.sig.returnType = some .boolean := Bd.returns
  have hlk := BodyLoose.notSynchronized Bd
  have X0 : Stand p l e room_1 s m #[(.int x0), (.int x1), (.int x2), (.int x3)] below meth c s₁ [] 0 0 := Stand.of_body Bd
  have e0 : s₁.heap = h0 := by rw [← hh, Bd.state]; rfl
  have N0 := Fr.nil n0
  show own_End p e below s (Q0 n0) 16 128 (s₁.setTop (entryFrame m #[(.int x0), (.int x1), (.int x2), (.int x3)] maxLocals))
  refine own_cast (ef_0 m x0 x1 x2 x3) ?_
  refine own_go (S' := (s₁.setTop (mkF m 1 #[.val (.int x0), .val (.int x1), .val (.int x2), .val (.int x3), .unset, .unset, .unset, .unset] [(.int x0)]))) (fun τ κ => XS.iloadN X0.here hx rfl (hb hby at_0) rfl κ) ?_
  refine own_go (S' := (s₁.setTop (mkF m 2 #[.val (.int x0), .val (.int x1), .val (.int x2), .val (.int x3), .unset, .unset, .unset, .unset] [(.int (3 : Int32)), (.int x0)]))) (fun τ κ => XT.iconstV X0.here hx rfl (3 : Int32) (hb hby at_1) (by decide) κ) ?_
  refine own_go (S' := (s₁.setTop (mkF m 3 #[.val (.int x0), .val (.int x1), .val (.int x2), .val (.int x3), .unset, .unset, .unset, .unset] [(.int (x0 &&& (3 : Int32)))]))) (fun τ κ => XS.iand X0.here hx rfl (hb hby at_2) rfl κ) ?_
  refine own_go (S' := (s₁.setTop (mkF m 5 #[.val (.int x0), .val (.int x1), .val (.int x2), .val (.int x3), .val (.int (x0 &&& (3 : Int32))), .unset, .unset, .unset] []))) (fun τ κ => XS.istore X0.here hx rfl (hb hby at_3) rfl (l' := #[.val (.int x0), .val (.int x1), .val (.int x2), .val (.int x3), .val (.int (x0 &&& (3 : Int32))), .unset, .unset, .unset]) rfl κ) ?_
  rcases own_and3 x0 with hk | hk | hk | hk
  · rw [hk]
    refine own_go (S' := (s₁.setTop (mkF m 7 #[.val (.int x0), .val (.int x1), .val (.int x2), .val (.int x3), .val (.int (0 : Int32)), .unset, .unset, .unset] [(.int (0 : Int32))]))) (fun τ κ => XS.iload X0.here hx rfl (hb hby at_5) rfl κ) ?_
    refine own_go (S' := (s₁.setTop (mkF m 8 #[.val (.int x0), .val (.int x1), .val (.int x2), .val (.int x3), .val (.int (0 : Int32)), .unset, .unset, .unset] [(.int (2 : Int32)), (.int (0 : Int32))]))) (fun τ κ => XT.iconstV X0.here hx rfl (2 : Int32) (hb hby at_7) (by decide) κ) ?_
    refine own_go (S' := (s₁.setTop (mkF m 18 #[.val (.int x0), .val (.int x1), .val (.int x2), .val (.int x3), .val (.int (0 : Int32)), .unset, .unset, .unset] []))) (fun τ κ => XS.icmpYes X0.here hx rfl (pc0 := 8) (pc' := 18) rfl (hb hby at_8) rfl (tlt (by decide)).1 (by decide) (by decide) κ) ?_
    refine own_go (S' := (s₁.setTop (mkF m 20 #[.val (.int x0), .val (.int x1), .val (.int x2), .val (.int x3), .val (.int (0 : Int32)), .unset, .unset, .unset] [(.int (0 : Int32))]))) (fun τ κ => XS.iload X0.here hx rfl (hb hby at_18) rfl κ) ?_
    refine own_go (S' := (s₁.setTop (mkF m 21 #[.val (.int x0), .val (.int x1), .val (.int x2), .val (.int x3), .val (.int (0 : Int32)), .unset, .unset, .unset] [(.int (3 : Int32)), (.int (0 : Int32))]))) (fun τ κ => XT.iconstV X0.here hx rfl (3 : Int32) (hb hby at_20) (by decide) κ) ?_
    refine own_go (S' := (s₁.setTop (mkF m 36 #[.val (.int x0), .val (.int x1), .val (.int x2), .val (.int x3), .val (.int (0 : Int32)), .unset, .unset, .unset] []))) (fun τ κ => XS.icmpYes X0.here hx rfl (pc0 := 21) (pc' := 36) rfl (hb hby at_21) rfl (tlt (by decide)).1 (by decide) (by decide) κ) ?_
    refine own_go (S' := (s₁.setTop (mkF m 38 #[.val (.int x0), .val (.int x1), .val (.int x2), .val (.int x3), .val (.int (0 : Int32)), .unset, .unset, .unset] [(.int (0 : Int32))]))) (fun τ κ => XS.iload X0.here hx rfl (hb hby at_36) rfl κ) ?_
    obtain ⟨T1, h1, b1, X1, e1, E1, g1, A1, st1⟩ := own_newL (nn := (0 : Int32)) (len := 0) (Ls := #[.val (.int x0), .val (.int x1), .val (.int x2), .val (.int x3), .val (.int (0 : Int32)), .unset, .unset, .unset]) (rest := []) X0 hx hZ (hw _ (List.mem_of_getElem? (i := 0) rfl)) e0 (hb hby at_38) (by decide) (by decide) (cap := 0) (by decide) (by decide) (by decide) (by decide)
    have gn1 : n0 ≤ b1 := g1 ▸ Z0
    have sz1 : n0 ≤ h1.size := Nat.le_trans Z0 E1.1
    replace A1 := A1.eq (vs' := []) rfl
    refine own_go (S' := (T1.setTop (mkF m 40 #[.val (.int x0), .val (.int x1), .val (.int x2), .val (.int x3), .val (.int (0 : Int32)), .unset, .unset, .unset] [(.ref b1)]))) st1 ?_
    refine own_go (S' := (T1.setTop (mkF m 42 #[.val (.int x0), .val (.int x1), .val (.int x2), .val (.int x3), .val (.int (0 : Int32)), .val (.ref b1), .unset, .unset] []))) (fun τ κ => XS.astore X1.here hx rfl (hb hby at_40) rfl rfl (l' := #[.val (.int x0), .val (.int x1), .val (.int x2), .val (.int x3), .val (.int (0 : Int32)), .val (.ref b1), .unset, .unset]) rfl κ) ?_
    refine own_go (S' := (T1.setTop (mkF m 44 #[.val (.int x0), .val (.int x1), .val (.int x2), .val (.int x3), .val (.int (0 : Int32)), .val (.ref b1), .unset, .unset] [(.int (0 : Int32))]))) (fun τ κ => XS.iload X1.here hx rfl (hb hby at_42) rfl κ) ?_
    refine own_go (S' := (T1.setTop (mkF m 45 #[.val (.int x0), .val (.int x1), .val (.int x2), .val (.int x3), .val (.int (0 : Int32)), .val (.ref b1), .unset, .unset] [(.int (1 : Int32)), (.int (0 : Int32))]))) (fun τ κ => XT.iconstV X1.here hx rfl (1 : Int32) (hb hby at_44) (by decide) κ) ?_
    refine own_go (S' := (T1.setTop (mkF m 53 #[.val (.int x0), .val (.int x1), .val (.int x2), .val (.int x3), .val (.int (0 : Int32)), .val (.ref b1), .unset, .unset] []))) (fun τ κ => XS.icmpYes X1.here hx rfl (pc0 := 45) (pc' := 53) rfl (hb hby at_45) rfl (tlt (by decide)).1 (by decide) (by decide) κ) ?_
    refine own_go (S' := (T1.setTop (mkF m 55 #[.val (.int x0), .val (.int x1), .val (.int x2), .val (.int x3), .val (.int (0 : Int32)), .val (.ref b1), .unset, .unset] [(.int (0 : Int32))]))) (fun τ κ => XS.iload X1.here hx rfl (hb hby at_53) rfl κ) ?_
    refine own_go (S' := (T1.setTop (mkF m 56 #[.val (.int x0), .val (.int x1), .val (.int x2), .val (.int x3), .val (.int (0 : Int32)), .val (.ref b1), .unset, .unset] [(.int (2 : Int32)), (.int (0 : Int32))]))) (fun τ κ => XT.iconstV X1.here hx rfl (2 : Int32) (hb hby at_55) (by decide) κ) ?_
    refine own_go (S' := (T1.setTop (mkF m 64 #[.val (.int x0), .val (.int x1), .val (.int x2), .val (.int x3), .val (.int (0 : Int32)), .val (.ref b1), .unset, .unset] []))) (fun τ κ => XS.icmpYes X1.here hx rfl (pc0 := 56) (pc' := 64) rfl (hb hby at_56) rfl (tlt (by decide)).1 (by decide) (by decide) κ) ?_
    refine own_go (S' := (T1.setTop (mkF m 66 #[.val (.int x0), .val (.int x1), .val (.int x2), .val (.int x3), .val (.int (0 : Int32)), .val (.ref b1), .unset, .unset] [(.int (0 : Int32))]))) (fun τ κ => XS.iload X1.here hx rfl (hb hby at_64) rfl κ) ?_
    refine own_go (S' := (T1.setTop (mkF m 67 #[.val (.int x0), .val (.int x1), .val (.int x2), .val (.int x3), .val (.int (0 : Int32)), .val (.ref b1), .unset, .unset] [(.int (3 : Int32)), (.int (0 : Int32))]))) (fun τ κ => XT.iconstV X1.here hx rfl (3 : Int32) (hb hby at_66) (by decide) κ) ?_
    refine own_go (S' := (T1.setTop (mkF m 75 #[.val (.int x0), .val (.int x1), .val (.int x2), .val (.int x3), .val (.int (0 : Int32)), .val (.ref b1), .unset, .unset] []))) (fun τ κ => XS.icmpYes X1.here hx rfl (pc0 := 67) (pc' := 75) rfl (hb hby at_67) rfl (tlt (by decide)).1 (by decide) (by decide) κ) ?_
    have lt2_A1 := A1.lt
    obtain ⟨T2, h2, X2, e2, E2, A2, D2, -, st2⟩ := newO X1 hx hZ hown (hw _ (List.mem_of_getElem? (i := 1) rfl)) (hw _ (List.mem_of_getElem? (i := 2) rfl)) (hw _ (List.mem_of_getElem? (i := 3) rfl)) e1 (g := (mkF m 75 #[.val (.int x0), .val (.int x1), .val (.int x2), .val (.int x3), .val (.int (0 : Int32)), .val (.ref b1), .unset, .unset] [])) rfl (hb hby at_75) (by decide) (by decide)
    obtain ⟨b2, g2⟩ : ∃ z, z = h1.size := ⟨_, rfl⟩
    rw [← g2] at A2 D2 st2
    replace A1 := A1.ext E2
    have ne2_A1 : b1 ≠ b2 := Nat.ne_of_lt (g2 ▸ lt2_A1)
    have gn2 : n0 ≤ b2 := g2 ▸ sz1
    have sz2 : n0 ≤ h2.size := Nat.le_trans sz1 E2.1
    have F2_codes : Fld Z h2 b2 "com/example/twinhash/twinhash/shingle/ShingleSet" "codes" "[I" .null := D2 (Or.inr (hw _ (List.mem_of_getElem? (i := 25) rfl))) (ty := (.array .int)) (by decide)
    have F2_firstSeen : Fld Z h2 b2 "com/example/twinhash/twinhash/shingle/ShingleSet" "firstSeen" "I" (.int (0 : Int32)) := D2 (Or.inr (hw _ (List.mem_of_getElem? (i := 27) rfl))) (ty := .int) (by decide)
    refine own_go (S' := (T2.setTop (mkF m 78 #[.val (.int x0), .val (.int x1), .val (.int x2), .val (.int x3), .val (.int (0 : Int32)), .val (.ref b1), .unset, .unset] [(.ref b2)]))) st2 ?_
    refine own_go (S' := (T2.setTop (mkF m 79 #[.val (.int x0), .val (.int x1), .val (.int x2), .val (.int x3), .val (.int (0 : Int32)), .val (.ref b1), .unset, .unset] [(.ref b2), (.ref b2)]))) (fun τ κ => XS.dup X2.here hx rfl (hb hby at_78) rfl rfl κ) ?_
    refine own_go (S' := (T2.setTop (mkF m 81 #[.val (.int x0), .val (.int x1), .val (.int x2), .val (.int x3), .val (.int (0 : Int32)), .val (.ref b1), .unset, .unset] [(.ref b1), (.ref b2), (.ref b2)]))) (fun τ κ => XS.aload X2.here hx rfl (hb hby at_79) rfl rfl κ) ?_
    replace A1 := A1.eq (vs' := List.map Value.int []) rfl
    obtain ⟨v3, T3, L3, X3, hQ3, st3⟩ := own_callI (a := b2) X2 hx hZ (y := (⟨"com/example/twinhash/twinhash/shingle/ShingleSet", "<init>", "([I)V"⟩ : MethodName)) rfl hown (hw _ (List.mem_of_getElem? (i := 4) rfl)) (hw _ (List.mem_of_getElem? (i := 5) rfl)) (hw _ (List.mem_of_getElem? (i := 3) rfl)) (hw _ (List.mem_of_getElem? (i := 6) rfl)) (rm1 l Z a0 hw b2 b1 [] h2 n0 gn2 gn1 (Ne.symm ne2_A1) (Nat.le_of_ble_eq_true rfl) A2 F2_codes F2_firstSeen A1) e2 (st := [(.ref b1), (.ref b2), (.ref b2)]) (argsL := [(.ref b1)]) (rest := [(.ref b2)]) (Ls := #[.val (.int x0), .val (.int x1), .val (.int x2), .val (.int x3), .val (.int (0 : Int32)), .val (.ref b1), .unset, .unset]) (hb hby at_81) pd_3 1 (by rw [hml]; rfl) (by decide) rfl rfl rfl (Nat.le_of_eq rfl) (by decide) (by decide) (by decide) (by decide)
    obtain ⟨rfl, Nq3, ys, f, hp, hs, hf1, hf2, hf3, E0, F1, F2, A, K⟩ := hQ3
    have N3 := Fr.app N0 Nq3
    refine own_go (S' := (T3.setTop (mkF m 84 #[.val (.int x0), .val (.int x1), .val (.int x2), .val (.int x3), .val (.int (0 : Int32)), .val (.ref b1), .unset, .unset] [(.ref b2)]))) st3 ?_
    refine own_go (S' := (T3.setTop (mkF m 86 #[.val (.int x0), .val (.int x1), .val (.int x2), .val (.int x3), .val (.int (0 : Int32)), .val (.ref b1), .val (.ref b2), .unset] []))) (fun τ κ => XS.astore X3.here hx rfl (hb hby at_84) rfl rfl (l' := #[.val (.int x0), .val (.int x1), .val (.int x2), .val (.int x3), .val (.int (0 : Int32)), .val (.ref b1), .val (.ref b2), .unset]) rfl κ) ?_
    refine own_go (S' := (T3.setTop (mkF m 87 #[.val (.int x0), .val (.int x1), .val (.int x2), .val (.int x3), .val (.int (0 : Int32)), .val (.ref b1), .val (.ref b2), .unset] [(.int (-1 : Int32))]))) (fun τ κ => XT.iconstV X3.here hx rfl (-1 : Int32) (hb hby at_86) (by decide) κ) ?_
    refine own_go (S' := (T3.setTop (mkF m 89 #[.val (.int x0), .val (.int x1), .val (.int x2), .val (.int x3), .val (.int (0 : Int32)), .val (.ref b1), .val (.ref b2), .val (.int (-1 : Int32))] []))) (fun τ κ => XS.istore X3.here hx rfl (hb hby at_87) rfl (l' := #[.val (.int x0), .val (.int x1), .val (.int x2), .val (.int x3), .val (.int (0 : Int32)), .val (.ref b1), .val (.ref b2), .val (.int (-1 : Int32))]) rfl κ) ?_
    refine own_go (S' := (T3.setTop (mkF m 91 #[.val (.int x0), .val (.int x1), .val (.int x2), .val (.int x3), .val (.int (0 : Int32)), .val (.ref b1), .val (.ref b2), .val (.int (-1 : Int32))] [(.int (0 : Int32))]))) (fun τ κ => XS.iload X3.here hx rfl (hb hby at_89) rfl κ) ?_
    refine own_go (S' := (T3.setTop (mkF m 92 #[.val (.int x0), .val (.int x1), .val (.int x2), .val (.int x3), .val (.int (0 : Int32)), .val (.ref b1), .val (.ref b2), .val (.int (-1 : Int32))] [(.int (1 : Int32)), (.int (0 : Int32))]))) (fun τ κ => XT.iconstV X3.here hx rfl (1 : Int32) (hb hby at_91) (by decide) κ) ?_
    refine own_go (S' := (T3.setTop (mkF m 107 #[.val (.int x0), .val (.int x1), .val (.int x2), .val (.int x3), .val (.int (0 : Int32)), .val (.ref b1), .val (.ref b2), .val (.int (-1 : Int32))] []))) (fun τ κ => XS.icmpYes X3.here hx rfl (pc0 := 92) (pc' := 107) rfl (hb hby at_92) rfl (tlt (by decide)).1 (by decide) (by decide) κ) ?_
    refine own_go (S' := (T3.setTop (mkF m 109 #[.val (.int x0), .val (.int x1), .val (.int x2), .val (.int x3), .val (.int (0 : Int32)), .val (.ref b1), .val (.ref b2), .val (.int (-1 : Int32))] [(.int (0 : Int32))]))) (fun τ κ => XS.iload X3.here hx rfl (hb hby at_107) rfl κ) ?_
    refine own_go (S' := (T3.setTop (mkF m 110 #[.val (.int x0), .val (.int x1), .val (.int x2), .val (.int x3), .val (.int (0 : Int32)), .val (.ref b1), .val (.ref b2), .val (.int (-1 : Int32))] [(.int (2 : Int32)), (.int (0 : Int32))]))) (fun τ κ => XT.iconstV X3.here hx rfl (2 : Int32) (hb hby at_109) (by decide) κ) ?_
    refine own_go (S' := (T3.setTop (mkF m 125 #[.val (.int x0), .val (.int x1), .val (.int x2), .val (.int x3), .val (.int (0 : Int32)), .val (.ref b1), .val (.ref b2), .val (.int (-1 : Int32))] []))) (fun τ κ => XS.icmpYes X3.here hx rfl (pc0 := 110) (pc' := 125) rfl (hb hby at_110) rfl (tlt (by decide)).1 (by decide) (by decide) κ) ?_
    refine own_go (S' := (T3.setTop (mkF m 127 #[.val (.int x0), .val (.int x1), .val (.int x2), .val (.int x3), .val (.int (0 : Int32)), .val (.ref b1), .val (.ref b2), .val (.int (-1 : Int32))] [(.int (0 : Int32))]))) (fun τ κ => XS.iload X3.here hx rfl (hb hby at_125) rfl κ) ?_
    refine own_go (S' := (T3.setTop (mkF m 128 #[.val (.int x0), .val (.int x1), .val (.int x2), .val (.int x3), .val (.int (0 : Int32)), .val (.ref b1), .val (.ref b2), .val (.int (-1 : Int32))] [(.int (3 : Int32)), (.int (0 : Int32))]))) (fun τ κ => XT.iconstV X3.here hx rfl (3 : Int32) (hb hby at_127) (by decide) κ) ?_
    refine own_go (S' := (T3.setTop (mkF m 143 #[.val (.int x0), .val (.int x1), .val (.int x2), .val (.int x3), .val (.int (0 : Int32)), .val (.ref b1), .val (.ref b2), .val (.int (-1 : Int32))] []))) (fun τ κ => XS.icmpYes X3.here hx rfl (pc0 := 128) (pc' := 143) rfl (hb hby at_128) rfl (tlt (by decide)).1 (by decide) (by decide) κ) ?_
    refine own_go (S' := (T3.setTop (mkF m 145 #[.val (.int x0), .val (.int x1), .val (.int x2), .val (.int x3), .val (.int (0 : Int32)), .val (.ref b1), .val (.ref b2), .val (.int (-1 : Int32))] [(.ref b2)]))) (fun τ κ => XS.aload X3.here hx rfl (hb hby at_143) rfl rfl κ) ?_
    obtain ⟨v4, T4, L4, X4, hQ4, st4⟩ := own_callV (a := b2) X3 hx hZ (y := (⟨"com/example/twinhash/twinhash/shingle/ShingleSet", "largestCode", "()I"⟩ : MethodName)) hown (hw _ (List.mem_of_getElem? (i := 28) rfl)) (hw _ (List.mem_of_getElem? (i := 29) rfl)) (hw _ (List.mem_of_getElem? (i := 31) rfl)) (hw _ (List.mem_of_getElem? (i := 30) rfl)) (hw _ (List.mem_of_getElem? (i := 3) rfl)) (hw _ (List.mem_of_getElem? (i := 32) rfl)) (rm7 l Z a0 hw b2 b1 ys f T3.heap hf1 (by rw [hp.length_eq]; exact Nat.le_of_ble_eq_true rfl) F1 F2 A) rfl E0 (st := [(.ref b2)]) (argsL := []) (rest := []) (Ls := #[.val (.int x0), .val (.int x1), .val (.int x2), .val (.int x3), .val (.int (0 : Int32)), .val (.ref b1), .val (.ref b2), .val (.int (-1 : Int32))]) (hb hby at_145) pd_4 0 (by rw [hml]; rfl) (by decide) rfl rfl rfl (Nat.le_of_eq rfl) (by decide) (by decide) (by decide) (by decide)
    obtain ⟨rfl, rfl, e4⟩ := hQ4
    rw [List.append_nil] at X4
    refine own_go (S' := (T4.setTop (mkF m 148 #[.val (.int x0), .val (.int x1), .val (.int x2), .val (.int x3), .val (.int (0 : Int32)), .val (.ref b1), .val (.ref b2), .val (.int (-1 : Int32))] [(.int (own_large ys f))]))) st4 ?_
    refine own_go (S' := (T4.setTop (mkF m 150 #[.val (.int x0), .val (.int x1), .val (.int x2), .val (.int x3), .val (.int (0 : Int32)), .val (.ref b1), .val (.ref b2), .val (.int (-1 : Int32))] [(.int (-1 : Int32)), (.int (own_large ys f))]))) (fun τ κ => XS.iload X4.here hx rfl (hb hby at_148) rfl κ) ?_
    refine own_go (S' := (T4.setTop (mkF m 153 #[.val (.int x0), .val (.int x1), .val (.int x2), .val (.int x3), .val (.int (0 : Int32)), .val (.ref b1), .val (.ref b2), .val (.int (-1 : Int32))] []))) (fun τ κ => XS.icmpNo X4.here hx rfl (hb hby at_150) rfl (teq (own_ch_uniq (own_large_ch hp hs hf1 hf2 hf3) own_ch_nil)).2 κ) ?_
    refine own_go (S' := (T4.setTop (mkF m 154 #[.val (.int x0), .val (.int x1), .val (.int x2), .val (.int x3), .val (.int (0 : Int32)), .val (.ref b1), .val (.ref b2), .val (.int (-1 : Int32))] [(.int (1 : Int32))]))) (fun τ κ => XT.iconstV X4.here hx rfl (1 : Int32) (hb hby at_153) (by decide) κ) ?_
    refine own_go (S' := (T4.setTop (mkF m 158 #[.val (.int x0), .val (.int x1), .val (.int x2), .val (.int x3), .val (.int (0 : Int32)), .val (.ref b1), .val (.ref b2), .val (.int (-1 : Int32))] [(.int (1 : Int32))]))) (fun τ κ => XS.goto X4.here hx rfl (pc0 := 154) (pc' := 158) rfl (hb hby at_154) (by decide) (by decide) κ) ?_
    exact own_retN X4 hx hret hlk (by simp) (hb hby at_158) (by first | rfl | decide) (by decide) (by decide) ⟨rfl, N3⟩
  · rw [hk]
    refine own_go (S' := (s₁.setTop (mkF m 7 #[.val (.int x0), .val (.int x1), .val (.int x2), .val (.int x3), .val (.int (1 : Int32)), .unset, .unset, .unset] [(.int (1 : Int32))]))) (fun τ κ => XS.iload X0.here hx rfl (hb hby at_5) rfl κ) ?_
    refine own_go (S' := (s₁.setTop (mkF m 8 #[.val (.int x0), .val (.int x1), .val (.int x2), .val (.int x3), .val (.int (1 : Int32)), .unset, .unset, .unset] [(.int (2 : Int32)), (.int (1 : Int32))]))) (fun τ κ => XT.iconstV X0.here hx rfl (2 : Int32) (hb hby at_7) (by decide) κ) ?_
    refine own_go (S' := (s₁.setTop (mkF m 18 #[.val (.int x0), .val (.int x1), .val (.int x2), .val (.int x3), .val (.int (1 : Int32)), .unset, .unset, .unset] []))) (fun τ κ => XS.icmpYes X0.here hx rfl (pc0 := 8) (pc' := 18) rfl (hb hby at_8) rfl (tlt (by decide)).1 (by decide) (by decide) κ) ?_
    refine own_go (S' := (s₁.setTop (mkF m 20 #[.val (.int x0), .val (.int x1), .val (.int x2), .val (.int x3), .val (.int (1 : Int32)), .unset, .unset, .unset] [(.int (1 : Int32))]))) (fun τ κ => XS.iload X0.here hx rfl (hb hby at_18) rfl κ) ?_
    refine own_go (S' := (s₁.setTop (mkF m 21 #[.val (.int x0), .val (.int x1), .val (.int x2), .val (.int x3), .val (.int (1 : Int32)), .unset, .unset, .unset] [(.int (3 : Int32)), (.int (1 : Int32))]))) (fun τ κ => XT.iconstV X0.here hx rfl (3 : Int32) (hb hby at_20) (by decide) κ) ?_
    refine own_go (S' := (s₁.setTop (mkF m 36 #[.val (.int x0), .val (.int x1), .val (.int x2), .val (.int x3), .val (.int (1 : Int32)), .unset, .unset, .unset] []))) (fun τ κ => XS.icmpYes X0.here hx rfl (pc0 := 21) (pc' := 36) rfl (hb hby at_21) rfl (tlt (by decide)).1 (by decide) (by decide) κ) ?_
    refine own_go (S' := (s₁.setTop (mkF m 38 #[.val (.int x0), .val (.int x1), .val (.int x2), .val (.int x3), .val (.int (1 : Int32)), .unset, .unset, .unset] [(.int (1 : Int32))]))) (fun τ κ => XS.iload X0.here hx rfl (hb hby at_36) rfl κ) ?_
    obtain ⟨T5, h5, b5, X5, e5, E5, g5, A5, st5⟩ := own_newL (nn := (1 : Int32)) (len := 1) (Ls := #[.val (.int x0), .val (.int x1), .val (.int x2), .val (.int x3), .val (.int (1 : Int32)), .unset, .unset, .unset]) (rest := []) X0 hx hZ (hw _ (List.mem_of_getElem? (i := 0) rfl)) e0 (hb hby at_38) (by decide) (by decide) (cap := 1) (by decide) (by decide) (by decide) (by decide)
    have gn5 : n0 ≤ b5 := g5 ▸ Z0
    have sz5 : n0 ≤ h5.size := Nat.le_trans Z0 E5.1
    replace A5 := A5.eq (vs' := [(.int (0 : Int32))]) rfl
    refine own_go (S' := (T5.setTop (mkF m 40 #[.val (.int x0), .val (.int x1), .val (.int x2), .val (.int x3), .val (.int (1 : Int32)), .unset, .unset, .unset] [(.ref b5)]))) st5 ?_
    refine own_go (S' := (T5.setTop (mkF m 42 #[.val (.int x0), .val (.int x1), .val (.int x2), .val (.int x3), .val (.int (1 : Int32)), .val (.ref b5), .unset, .unset] []))) (fun τ κ => XS.astore X5.here hx rfl (hb hby at_40) rfl rfl (l' := #[.val (.int x0), .val (.int x1), .val (.int x2), .val (.int x3), .val (.int (1 : Int32)), .val (.ref b5), .unset, .unset]) rfl κ) ?_
    refine own_go (S' := (T5.setTop (mkF m 44 #[.val (.int x0), .val (.int x1), .val (.int x2), .val (.int x3), .val (.int (1 : Int32)), .val (.ref b5), .unset, .unset] [(.int (1 : Int32))]))) (fun τ κ => XS.iload X5.here hx rfl (hb hby at_42) rfl κ) ?_
    refine own_go (S' := (T5.setTop (mkF m 45 #[.val (.int x0), .val (.int x1), .val (.int x2), .val (.int x3), .val (.int (1 : Int32)), .val (.ref b5), .unset, .unset] [(.int (1 : Int32)), (.int (1 : Int32))]))) (fun τ κ => XT.iconstV X5.here hx rfl (1 : Int32) (hb hby at_44) (by decide) κ) ?_
    refine own_go (S' := (T5.setTop (mkF m 48 #[.val (.int x0), .val (.int x1), .val (.int x2), .val (.int x3), .val (.int (1 : Int32)), .val (.ref b5), .unset, .unset] []))) (fun τ κ => XS.icmpNo X5.here hx rfl (hb hby at_45) rfl (flt (by decide)).1 κ) ?_
    refine own_go (S' := (T5.setTop (mkF m 50 #[.val (.int x0), .val (.int x1), .val (.int x2), .val (.int x3), .val (.int (1 : Int32)), .val (.ref b5), .unset, .unset] [(.ref b5)]))) (fun τ κ => XS.aload X5.here hx rfl (hb hby at_48) rfl rfl κ) ?_
    refine own_go (S' := (T5.setTop (mkF m 51 #[.val (.int x0), .val (.int x1), .val (.int x2), .val (.int x3), .val (.int (1 : Int32)), .val (.ref b5), .unset, .unset] [(.int (0 : Int32)), (.ref b5)]))) (fun τ κ => XT.iconstV X5.here hx rfl (0 : Int32) (hb hby at_50) (by decide) κ) ?_
    refine own_go (S' := (T5.setTop (mkF m 52 #[.val (.int x0), .val (.int x1), .val (.int x2), .val (.int x3), .val (.int (1 : Int32)), .val (.ref b5), .unset, .unset] [(.int x1), (.int (0 : Int32)), (.ref b5)]))) (fun τ κ => XS.iloadN X5.here hx rfl (hb hby at_51) rfl κ) ?_
    obtain ⟨T6, h6, X6, e6, W6, B6, st6⟩ := own_iastore (j := (0 : Int32)) (x := x1) (Ls := #[.val (.int x0), .val (.int x1), .val (.int x2), .val (.int x3), .val (.int (1 : Int32)), .val (.ref b5), .unset, .unset]) (rest := []) A5 X5 hx hZ e5 (by decide) (i := 0) (by decide) (Nat.le_of_ble_eq_true rfl) (hb hby at_52)
    replace A5 := B6.eq (vs' := [(.int x1)]) rfl
    have N6 := Fr.snoc X6 N0 gn5
    have sz6 : n0 ≤ h6.size := W6.size ▸ sz5
    refine own_go (S' := (T6.setTop (mkF m 53 #[.val (.int x0), .val (.int x1), .val (.int x2), .val (.int x3), .val (.int (1 : Int32)), .val (.ref b5), .unset, .unset] []))) st6 ?_
    refine own_go (S' := (T6.setTop (mkF m 55 #[.val (.int x0), .val (.int x1), .val (.int x2), .val (.int x3), .val (.int (1 : Int32)), .val (.ref b5), .unset, .unset] [(.int (1 : Int32))]))) (fun τ κ => XS.iload X6.here hx rfl (hb hby at_53) rfl κ) ?_
    refine own_go (S' := (T6.setTop (mkF m 56 #[.val (.int x0), .val (.int x1), .val (.int x2), .val (.int x3), .val (.int (1 : Int32)), .val (.ref b5), .unset, .unset] [(.int (2 : Int32)), (.int (1 : Int32))]))) (fun τ κ => XT.iconstV X6.here hx rfl (2 : Int32) (hb hby at_55) (by decide) κ) ?_
    refine own_go (S' := (T6.setTop (mkF m 64 #[.val (.int x0), .val (.int x1), .val (.int x2), .val (.int x3), .val (.int (1 : Int32)), .val (.ref b5), .unset, .unset] []))) (fun τ κ => XS.icmpYes X6.here hx rfl (pc0 := 56) (pc' := 64) rfl (hb hby at_56) rfl (tlt (by decide)).1 (by decide) (by decide) κ) ?_
    refine own_go (S' := (T6.setTop (mkF m 66 #[.val (.int x0), .val (.int x1), .val (.int x2), .val (.int x3), .val (.int (1 : Int32)), .val (.ref b5), .unset, .unset] [(.int (1 : Int32))]))) (fun τ κ => XS.iload X6.here hx rfl (hb hby at_64) rfl κ) ?_
    refine own_go (S' := (T6.setTop (mkF m 67 #[.val (.int x0), .val (.int x1), .val (.int x2), .val (.int x3), .val (.int (1 : Int32)), .val (.ref b5), .unset, .unset] [(.int (3 : Int32)), (.int (1 : Int32))]))) (fun τ κ => XT.iconstV X6.here hx rfl (3 : Int32) (hb hby at_66) (by decide) κ) ?_
    refine own_go (S' := (T6.setTop (mkF m 75 #[.val (.int x0), .val (.int x1), .val (.int x2), .val (.int x3), .val (.int (1 : Int32)), .val (.ref b5), .unset, .unset] []))) (fun τ κ => XS.icmpYes X6.here hx rfl (pc0 := 67) (pc' := 75) rfl (hb hby at_67) rfl (tlt (by decide)).1 (by decide) (by decide) κ) ?_
    have lt7_A5 := A5.lt
    obtain ⟨T7, h7, X7, e7, E7, A7, D7, -, st7⟩ := newO X6 hx hZ hown (hw _ (List.mem_of_getElem? (i := 1) rfl)) (hw _ (List.mem_of_getElem? (i := 2) rfl)) (hw _ (List.mem_of_getElem? (i := 3) rfl)) e6 (g := (mkF m 75 #[.val (.int x0), .val (.int x1), .val (.int x2), .val (.int x3), .val (.int (1 : Int32)), .val (.ref b5), .unset, .unset] [])) rfl (hb hby at_75) (by decide) (by decide)
    obtain ⟨b7, g7⟩ : ∃ z, z = h6.size := ⟨_, rfl⟩
    rw [← g7] at A7 D7 st7
    replace A5 := A5.ext E7
    have ne7_A5 : b5 ≠ b7 := Nat.ne_of_lt (g7 ▸ lt7_A5)
    have gn7 : n0 ≤ b7 := g7 ▸ sz6
    have sz7 : n0 ≤ h7.size := Nat.le_trans sz6 E7.1
    have F7_codes : Fld Z h7 b7 "com/example/twinhash/twinhash/shingle/ShingleSet" "codes" "[I" .null := D7 (Or.inr (hw _ (List.mem_of_getElem? (i := 25) rfl))) (ty := (.array .int)) (by decide)
    have F7_firstSeen : Fld Z h7 b7 "com/example/twinhash/twinhash/shingle/ShingleSet" "firstSeen" "I" (.int (0 : Int32)) := D7 (Or.inr (hw _ (List.mem_of_getElem? (i := 27) rfl))) (ty := .int) (by decide)
    refine own_go (S' := (T7.setTop (mkF m 78 #[.val (.int x0), .val (.int x1), .val (.int x2), .val (.int x3), .val (.int (1 : Int32)), .val (.ref b5), .unset, .unset] [(.ref b7)]))) st7 ?_
    refine own_go (S' := (T7.setTop (mkF m 79 #[.val (.int x0), .val (.int x1), .val (.int x2), .val (.int x3), .val (.int (1 : Int32)), .val (.ref b5), .unset, .unset] [(.ref b7), (.ref b7)]))) (fun τ κ => XS.dup X7.here hx rfl (hb hby at_78) rfl rfl κ) ?_
    refine own_go (S' := (T7.setTop (mkF m 81 #[.val (.int x0), .val (.int x1), .val (.int x2), .val (.int x3), .val (.int (1 : Int32)), .val (.ref b5), .unset, .unset] [(.ref b5), (.ref b7), (.ref b7)]))) (fun τ κ => XS.aload X7.here hx rfl (hb hby at_79) rfl rfl κ) ?_
    replace A5 := A5.eq (vs' := List.map Value.int [x1]) rfl
    obtain ⟨v8, T8, L8, X8, hQ8, st8⟩ := own_callI (a := b7) X7 hx hZ (y := (⟨"com/example/twinhash/twinhash/shingle/ShingleSet", "<init>", "([I)V"⟩ : MethodName)) rfl hown (hw _ (List.mem_of_getElem? (i := 4) rfl)) (hw _ (List.mem_of_getElem? (i := 5) rfl)) (hw _ (List.mem_of_getElem? (i := 3) rfl)) (hw _ (List.mem_of_getElem? (i := 6) rfl)) (rm1 l Z a0 hw b7 b5 [x1] h7 n0 gn7 gn5 (Ne.symm ne7_A5) (Nat.le_of_ble_eq_true rfl) A7 F7_codes F7_firstSeen A5) e7 (st := [(.ref b5), (.ref b7), (.ref b7)]) (argsL := [(.ref b5)]) (rest := [(.ref b7)]) (Ls := #[.val (.int x0), .val (.int x1), .val (.int x2), .val (.int x3), .val (.int (1 : Int32)), .val (.ref b5), .unset, .unset]) (hb hby at_81) pd_3 1 (by rw [hml]; rfl) (by decide) rfl rfl rfl (Nat.le_of_eq rfl) (by decide) (by decide) (by decide) (by decide)
    obtain ⟨rfl, Nq8, ys, f, hp, hs, hf1, hf2, hf3, E0, F1, F2, A, K⟩ := hQ8
    have N8 := Fr.app N6 Nq8
    refine own_go (S' := (T8.setTop (mkF m 84 #[.val (.int x0), .val (.int x1), .val (.int x2), .val (.int x3), .val (.int (1 : Int32)), .val (.ref b5), .unset, .unset] [(.ref b7)]))) st8 ?_
    refine own_go (S' := (T8.setTop (mkF m 86 #[.val (.int x0), .val (.int x1), .val (.int x2), .val (.int x3), .val (.int (1 : Int32)), .val (.ref b5), .val (.ref b7), .unset] []))) (fun τ κ => XS.astore X8.here hx rfl (hb hby at_84) rfl rfl (l' := #[.val (.int x0), .val (.int x1), .val (.int x2), .val (.int x3), .val (.int (1 : Int32)), .val (.ref b5), .val (.ref b7), .unset]) rfl κ) ?_
    refine own_go (S' := (T8.setTop (mkF m 87 #[.val (.int x0), .val (.int x1), .val (.int x2), .val (.int x3), .val (.int (1 : Int32)), .val (.ref b5), .val (.ref b7), .unset] [(.int (-1 : Int32))]))) (fun τ κ => XT.iconstV X8.here hx rfl (-1 : Int32) (hb hby at_86) (by decide) κ) ?_
    refine own_go (S' := (T8.setTop (mkF m 89 #[.val (.int x0), .val (.int x1), .val (.int x2), .val (.int x3), .val (.int (1 : Int32)), .val (.ref b5), .val (.ref b7), .val (.int (-1 : Int32))] []))) (fun τ κ => XS.istore X8.here hx rfl (hb hby at_87) rfl (l' := #[.val (.int x0), .val (.int x1), .val (.int x2), .val (.int x3), .val (.int (1 : Int32)), .val (.ref b5), .val (.ref b7), .val (.int (-1 : Int32))]) rfl κ) ?_
    refine own_go (S' := (T8.setTop (mkF m 91 #[.val (.int x0), .val (.int x1), .val (.int x2), .val (.int x3), .val (.int (1 : Int32)), .val (.ref b5), .val (.ref b7), .val (.int (-1 : Int32))] [(.int (1 : Int32))]))) (fun τ κ => XS.iload X8.here hx rfl (hb hby at_89) rfl κ) ?_
    refine own_go (S' := (T8.setTop (mkF m 92 #[.val (.int x0), .val (.int x1), .val (.int x2), .val (.int x3), .val (.int (1 : Int32)), .val (.ref b5), .val (.ref b7), .val (.int (-1 : Int32))] [(.int (1 : Int32)), (.int (1 : Int32))]))) (fun τ κ => XT.iconstV X8.here hx rfl (1 : Int32) (hb hby at_91) (by decide) κ) ?_
    refine own_go (S' := (T8.setTop (mkF m 95 #[.val (.int x0), .val (.int x1), .val (.int x2), .val (.int x3), .val (.int (1 : Int32)), .val (.ref b5), .val (.ref b7), .val (.int (-1 : Int32))] []))) (fun τ κ => XS.icmpNo X8.here hx rfl (hb hby at_92) rfl (flt (by decide)).1 κ) ?_
    refine own_go (S' := (T8.setTop (mkF m 96 #[.val (.int x0), .val (.int x1), .val (.int x2), .val (.int x3), .val (.int (1 : Int32)), .val (.ref b5), .val (.ref b7), .val (.int (-1 : Int32))] [(.int x1)]))) (fun τ κ => XS.iloadN X8.here hx rfl (hb hby at_95) rfl κ) ?_
    by_cases hc96_9 : x1 < (0 : Int32)
    ·
      refine own_go (S' := (T8.setTop (mkF m 107 #[.val (.int x0), .val (.int x1), .val (.int x2), .val (.int x3), .val (.int (1 : Int32)), .val (.ref b5), .val (.ref b7), .val (.int (-1 : Int32))] []))) (fun τ κ => XS.ifYes X8.here hx rfl (pc0 := 96) (pc' := 107) rfl (hb hby at_96) rfl ((if0 _ _).trans (tlt hc96_9).1) (by decide) (by decide) κ) ?_
      refine own_go (S' := (T8.setTop (mkF m 109 #[.val (.int x0), .val (.int x1), .val (.int x2), .val (.int x3), .val (.int (1 : Int32)), .val (.ref b5), .val (.ref b7), .val (.int (-1 : Int32))] [(.int (1 : Int32))]))) (fun τ κ => XS.iload X8.here hx rfl (hb hby at_107) rfl κ) ?_
      refine own_go (S' := (T8.setTop (mkF m 110 #[.val (.int x0), .val (.int x1), .val (.int x2), .val (.int x3), .val (.int (1 : Int32)), .val (.ref b5), .val (.ref b7), .val (.int (-1 : Int32))] [(.int (2 : Int32)), (.int (1 : Int32))]))) (fun τ κ => XT.iconstV X8.here hx rfl (2 : Int32) (hb hby at_109) (by decide) κ) ?_
      refine own_go (S' := (T8.setTop (mkF m 125 #[.val (.int x0), .val (.int x1), .val (.int x2), .val (.int x3), .val (.int (1 : Int32)), .val (.ref b5), .val (.ref b7), .val (.int (-1 : Int32))] []))) (fun τ κ => XS.icmpYes X8.here hx rfl (pc0 := 110) (pc' := 125) rfl (hb hby at_110) rfl (tlt (by decide)).1 (by decide) (by decide) κ) ?_
      refine own_go (S' := (T8.setTop (mkF m 127 #[.val (.int x0), .val (.int x1), .val (.int x2), .val (.int x3), .val (.int (1 : Int32)), .val (.ref b5), .val (.ref b7), .val (.int (-1 : Int32))] [(.int (1 : Int32))]))) (fun τ κ => XS.iload X8.here hx rfl (hb hby at_125) rfl κ) ?_
      refine own_go (S' := (T8.setTop (mkF m 128 #[.val (.int x0), .val (.int x1), .val (.int x2), .val (.int x3), .val (.int (1 : Int32)), .val (.ref b5), .val (.ref b7), .val (.int (-1 : Int32))] [(.int (3 : Int32)), (.int (1 : Int32))]))) (fun τ κ => XT.iconstV X8.here hx rfl (3 : Int32) (hb hby at_127) (by decide) κ) ?_
      refine own_go (S' := (T8.setTop (mkF m 143 #[.val (.int x0), .val (.int x1), .val (.int x2), .val (.int x3), .val (.int (1 : Int32)), .val (.ref b5), .val (.ref b7), .val (.int (-1 : Int32))] []))) (fun τ κ => XS.icmpYes X8.here hx rfl (pc0 := 128) (pc' := 143) rfl (hb hby at_128) rfl (tlt (by decide)).1 (by decide) (by decide) κ) ?_
      refine own_go (S' := (T8.setTop (mkF m 145 #[.val (.int x0), .val (.int x1), .val (.int x2), .val (.int x3), .val (.int (1 : Int32)), .val (.ref b5), .val (.ref b7), .val (.int (-1 : Int32))] [(.ref b7)]))) (fun τ κ => XS.aload X8.here hx rfl (hb hby at_143) rfl rfl κ) ?_
      obtain ⟨v10, T10, L10, X10, hQ10, st10⟩ := own_callV (a := b7) X8 hx hZ (y := (⟨"com/example/twinhash/twinhash/shingle/ShingleSet", "largestCode", "()I"⟩ : MethodName)) hown (hw _ (List.mem_of_getElem? (i := 28) rfl)) (hw _ (List.mem_of_getElem? (i := 29) rfl)) (hw _ (List.mem_of_getElem? (i := 31) rfl)) (hw _ (List.mem_of_getElem? (i := 30) rfl)) (hw _ (List.mem_of_getElem? (i := 3) rfl)) (hw _ (List.mem_of_getElem? (i := 32) rfl)) (rm7 l Z a0 hw b7 b5 ys f T8.heap hf1 (by rw [hp.length_eq]; exact Nat.le_of_ble_eq_true rfl) F1 F2 A) rfl E0 (st := [(.ref b7)]) (argsL := []) (rest := []) (Ls := #[.val (.int x0), .val (.int x1), .val (.int x2), .val (.int x3), .val (.int (1 : Int32)), .val (.ref b5), .val (.ref b7), .val (.int (-1 : Int32))]) (hb hby at_145) pd_4 0 (by rw [hml]; rfl) (by decide) rfl rfl rfl (Nat.le_of_eq rfl) (by decide) (by decide) (by decide) (by decide)
      obtain ⟨rfl, rfl, e10⟩ := hQ10
      rw [List.append_nil] at X10
      refine own_go (S' := (T10.setTop (mkF m 148 #[.val (.int x0), .val (.int x1), .val (.int x2), .val (.int x3), .val (.int (1 : Int32)), .val (.ref b5), .val (.ref b7), .val (.int (-1 : Int32))] [(.int (own_large ys f))]))) st10 ?_
      refine own_go (S' := (T10.setTop (mkF m 150 #[.val (.int x0), .val (.int x1), .val (.int x2), .val (.int x3), .val (.int (1 : Int32)), .val (.ref b5), .val (.ref b7), .val (.int (-1 : Int32))] [(.int (-1 : Int32)), (.int (own_large ys f))]))) (fun τ κ => XS.iload X10.here hx rfl (hb hby at_148) rfl κ) ?_
      refine own_go (S' := (T10.setTop (mkF m 153 #[.val (.int x0), .val (.int x1), .val (.int x2), .val (.int x3), .val (.int (1 : Int32)), .val (.ref b5), .val (.ref b7), .val (.int (-1 : Int32))] []))) (fun τ κ => XS.icmpNo X10.here hx rfl (hb hby at_150) rfl (teq (own_ch_uniq (own_large_ch hp hs hf1 hf2 hf3) (own_ch_neg own_ch_nil hc96_9))).2 κ) ?_
      refine own_go (S' := (T10.setTop (mkF m 154 #[.val (.int x0), .val (.int x1), .val (.int x2), .val (.int x3), .val (.int (1 : Int32)), .val (.ref b5), .val (.ref b7), .val (.int (-1 : Int32))] [(.int (1 : Int32))]))) (fun τ κ => XT.iconstV X10.here hx rfl (1 : Int32) (hb hby at_153) (by decide) κ) ?_
      refine own_go (S' := (T10.setTop (mkF m 158 #[.val (.int x0), .val (.int x1), .val (.int x2), .val (.int x3), .val (.int (1 : Int32)), .val (.ref b5), .val (.ref b7), .val (.int (-1 : Int32))] [(.int (1 : Int32))]))) (fun τ κ => XS.goto X10.here hx rfl (pc0 := 154) (pc' := 158) rfl (hb hby at_154) (by decide) (by decide) κ) ?_
      exact own_retN X10 hx hret hlk (by simp) (hb hby at_158) (by first | rfl | decide) (by decide) (by decide) ⟨rfl, N8⟩
    ·
      refine own_go (S' := (T8.setTop (mkF m 99 #[.val (.int x0), .val (.int x1), .val (.int x2), .val (.int x3), .val (.int (1 : Int32)), .val (.ref b5), .val (.ref b7), .val (.int (-1 : Int32))] []))) (fun τ κ => XS.ifNo X8.here hx rfl (hb hby at_96) rfl ((if0 _ _).trans (flt hc96_9).1) κ) ?_
      refine own_go (S' := (T8.setTop (mkF m 101 #[.val (.int x0), .val (.int x1), .val (.int x2), .val (.int x3), .val (.int (1 : Int32)), .val (.ref b5), .val (.ref b7), .val (.int (-1 : Int32))] [(.int (-1 : Int32))]))) (fun τ κ => XS.iload X8.here hx rfl (hb hby at_99) rfl κ) ?_
      refine own_go (S' := (T8.setTop (mkF m 102 #[.val (.int x0), .val (.int x1), .val (.int x2), .val (.int x3), .val (.int (1 : Int32)), .val (.ref b5), .val (.ref b7), .val (.int (-1 : Int32))] [(.int x1), (.int (-1 : Int32))]))) (fun τ κ => XS.iloadN X8.here hx rfl (hb hby at_101) rfl κ) ?_
      obtain ⟨T11, X11, e11, st11⟩ := own_callP X8 hx hZ (y := (⟨"java/lang/Math", "max", "(II)I"⟩ : MethodName)) hown (hw _ (List.mem_of_getElem? (i := 33) rfl)) (hw _ (List.mem_of_getElem? (i := 34) rfl)) (hw _ (List.mem_of_getElem? (i := 35) rfl)) (hw _ (List.mem_of_getElem? (i := 36) rfl)) (rm8 l Z a0 hw (-1 : Int32) x1 T8.heap) rfl (argsL := [(.int (-1 : Int32)), (.int x1)]) (rest := []) (Ls := #[.val (.int x0), .val (.int x1), .val (.int x2), .val (.int x3), .val (.int (1 : Int32)), .val (.ref b5), .val (.ref b7), .val (.int (-1 : Int32))]) (hb hby at_102) pd_5 0 (by rw [hml]; rfl) (by decide) rfl rfl rfl (Nat.le_of_eq rfl) (by decide) (by decide) (by decide) (by decide)
      refine own_go (S' := (T11.setTop (mkF m 105 #[.val (.int x0), .val (.int x1), .val (.int x2), .val (.int x3), .val (.int (1 : Int32)), .val (.ref b5), .val (.ref b7), .val (.int (-1 : Int32))] [(.int (f8_0 (-1 : Int32) x1))]))) st11 ?_
      refine own_go (S' := (T11.setTop (mkF m 107 #[.val (.int x0), .val (.int x1), .val (.int x2), .val (.int x3), .val (.int (1 : Int32)), .val (.ref b5), .val (.ref b7), .val (.int (f8_0 (-1 : Int32) x1))] []))) (fun τ κ => XS.istore X11.here hx rfl (hb hby at_105) rfl (l' := #[.val (.int x0), .val (.int x1), .val (.int x2), .val (.int x3), .val (.int (1 : Int32)), .val (.ref b5), .val (.ref b7), .val (.int (f8_0 (-1 : Int32) x1))]) rfl κ) ?_
      refine own_go (S' := (T11.setTop (mkF m 109 #[.val (.int x0), .val (.int x1), .val (.int x2), .val (.int x3), .val (.int (1 : Int32)), .val (.ref b5), .val (.ref b7), .val (.int (f8_0 (-1 : Int32) x1))] [(.int (1 : Int32))]))) (fun τ κ => XS.iload X11.here hx rfl (hb hby at_107) rfl κ) ?_
      refine own_go (S' := (T11.setTop (mkF m 110 #[.val (.int x0), .val (.int x1), .val (.int x2), .val (.int x3), .val (.int (1 : Int32)), .val (.ref b5), .val (.ref b7), .val (.int (f8_0 (-1 : Int32) x1))] [(.int (2 : Int32)), (.int (1 : Int32))]))) (fun τ κ => XT.iconstV X11.here hx rfl (2 : Int32) (hb hby at_109) (by decide) κ) ?_
      refine own_go (S' := (T11.setTop (mkF m 125 #[.val (.int x0), .val (.int x1), .val (.int x2), .val (.int x3), .val (.int (1 : Int32)), .val (.ref b5), .val (.ref b7), .val (.int (f8_0 (-1 : Int32) x1))] []))) (fun τ κ => XS.icmpYes X11.here hx rfl (pc0 := 110) (pc' := 125) rfl (hb hby at_110) rfl (tlt (by decide)).1 (by decide) (by decide) κ) ?_
      refine own_go (S' := (T11.setTop (mkF m 127 #[.val (.int x0), .val (.int x1), .val (.int x2), .val (.int x3), .val (.int (1 : Int32)), .val (.ref b5), .val (.ref b7), .val (.int (f8_0 (-1 : Int32) x1))] [(.int (1 : Int32))]))) (fun τ κ => XS.iload X11.here hx rfl (hb hby at_125) rfl κ) ?_
      refine own_go (S' := (T11.setTop (mkF m 128 #[.val (.int x0), .val (.int x1), .val (.int x2), .val (.int x3), .val (.int (1 : Int32)), .val (.ref b5), .val (.ref b7), .val (.int (f8_0 (-1 : Int32) x1))] [(.int (3 : Int32)), (.int (1 : Int32))]))) (fun τ κ => XT.iconstV X11.here hx rfl (3 : Int32) (hb hby at_127) (by decide) κ) ?_
      refine own_go (S' := (T11.setTop (mkF m 143 #[.val (.int x0), .val (.int x1), .val (.int x2), .val (.int x3), .val (.int (1 : Int32)), .val (.ref b5), .val (.ref b7), .val (.int (f8_0 (-1 : Int32) x1))] []))) (fun τ κ => XS.icmpYes X11.here hx rfl (pc0 := 128) (pc' := 143) rfl (hb hby at_128) rfl (tlt (by decide)).1 (by decide) (by decide) κ) ?_
      refine own_go (S' := (T11.setTop (mkF m 145 #[.val (.int x0), .val (.int x1), .val (.int x2), .val (.int x3), .val (.int (1 : Int32)), .val (.ref b5), .val (.ref b7), .val (.int (f8_0 (-1 : Int32) x1))] [(.ref b7)]))) (fun τ κ => XS.aload X11.here hx rfl (hb hby at_143) rfl rfl κ) ?_
      obtain ⟨v12, T12, L12, X12, hQ12, st12⟩ := own_callV (a := b7) X11 hx hZ (y := (⟨"com/example/twinhash/twinhash/shingle/ShingleSet", "largestCode", "()I"⟩ : MethodName)) hown (hw _ (List.mem_of_getElem? (i := 28) rfl)) (hw _ (List.mem_of_getElem? (i := 29) rfl)) (hw _ (List.mem_of_getElem? (i := 31) rfl)) (hw _ (List.mem_of_getElem? (i := 30) rfl)) (hw _ (List.mem_of_getElem? (i := 3) rfl)) (hw _ (List.mem_of_getElem? (i := 32) rfl)) (rm7 l Z a0 hw b7 b5 ys f T8.heap hf1 (by rw [hp.length_eq]; exact Nat.le_of_ble_eq_true rfl) F1 F2 A) e11 E0 (st := [(.ref b7)]) (argsL := []) (rest := []) (Ls := #[.val (.int x0), .val (.int x1), .val (.int x2), .val (.int x3), .val (.int (1 : Int32)), .val (.ref b5), .val (.ref b7), .val (.int (f8_0 (-1 : Int32) x1))]) (hb hby at_145) pd_4 0 (by rw [hml]; rfl) (by decide) rfl rfl rfl (Nat.le_of_eq rfl) (by decide) (by decide) (by decide) (by decide)
      obtain ⟨rfl, rfl, e12⟩ := hQ12
      rw [List.append_nil] at X12
      refine own_go (S' := (T12.setTop (mkF m 148 #[.val (.int x0), .val (.int x1), .val (.int x2), .val (.int x3), .val (.int (1 : Int32)), .val (.ref b5), .val (.ref b7), .val (.int (f8_0 (-1 : Int32) x1))] [(.int (own_large ys f))]))) st12 ?_
      refine own_go (S' := (T12.setTop (mkF m 150 #[.val (.int x0), .val (.int x1), .val (.int x2), .val (.int x3), .val (.int (1 : Int32)), .val (.ref b5), .val (.ref b7), .val (.int (f8_0 (-1 : Int32) x1))] [(.int (f8_0 (-1 : Int32) x1)), (.int (own_large ys f))]))) (fun τ κ => XS.iload X12.here hx rfl (hb hby at_148) rfl κ) ?_
      refine own_go (S' := (T12.setTop (mkF m 153 #[.val (.int x0), .val (.int x1), .val (.int x2), .val (.int x3), .val (.int (1 : Int32)), .val (.ref b5), .val (.ref b7), .val (.int (f8_0 (-1 : Int32) x1))] []))) (fun τ κ => XS.icmpNo X12.here hx rfl (hb hby at_150) rfl (teq (own_ch_uniq (own_large_ch hp hs hf1 hf2 hf3) (own_ch_pos own_ch_nil hc96_9))).2 κ) ?_
      refine own_go (S' := (T12.setTop (mkF m 154 #[.val (.int x0), .val (.int x1), .val (.int x2), .val (.int x3), .val (.int (1 : Int32)), .val (.ref b5), .val (.ref b7), .val (.int (f8_0 (-1 : Int32) x1))] [(.int (1 : Int32))]))) (fun τ κ => XT.iconstV X12.here hx rfl (1 : Int32) (hb hby at_153) (by decide) κ) ?_
      refine own_go (S' := (T12.setTop (mkF m 158 #[.val (.int x0), .val (.int x1), .val (.int x2), .val (.int x3), .val (.int (1 : Int32)), .val (.ref b5), .val (.ref b7), .val (.int (f8_0 (-1 : Int32) x1))] [(.int (1 : Int32))]))) (fun τ κ => XS.goto X12.here hx rfl (pc0 := 154) (pc' := 158) rfl (hb hby at_154) (by decide) (by decide) κ) ?_
      exact own_retN X12 hx hret hlk (by simp) (hb hby at_158) (by first | rfl | decide) (by decide) (by decide) ⟨rfl, N8⟩
  · rw [hk]
    refine own_go (S' := (s₁.setTop (mkF m 7 #[.val (.int x0), .val (.int x1), .val (.int x2), .val (.int x3), .val (.int (2 : Int32)), .unset, .unset, .unset] [(.int (2 : Int32))]))) (fun τ κ => XS.iload X0.here hx rfl (hb hby at_5) rfl κ) ?_
    refine own_go (S' := (s₁.setTop (mkF m 8 #[.val (.int x0), .val (.int x1), .val (.int x2), .val (.int x3), .val (.int (2 : Int32)), .unset, .unset, .unset] [(.int (2 : Int32)), (.int (2 : Int32))]))) (fun τ κ => XT.iconstV X0.here hx rfl (2 : Int32) (hb hby at_7) (by decide) κ) ?_
    refine own_go (S' := (s₁.setTop (mkF m 11 #[.val (.int x0), .val (.int x1), .val (.int x2), .val (.int x3), .val (.int (2 : Int32)), .unset, .unset, .unset] []))) (fun τ κ => XS.icmpNo X0.here hx rfl (hb hby at_8) rfl (flt (by decide)).1 κ) ?_
    refine own_go (S' := (s₁.setTop (mkF m 12 #[.val (.int x0), .val (.int x1), .val (.int x2), .val (.int x3), .val (.int (2 : Int32)), .unset, .unset, .unset] [(.int x1)]))) (fun τ κ => XS.iloadN X0.here hx rfl (hb hby at_11) rfl κ) ?_
    refine own_go (S' := (s₁.setTop (mkF m 13 #[.val (.int x0), .val (.int x1), .val (.int x2), .val (.int x3), .val (.int (2 : Int32)), .unset, .unset, .unset] [(.int x2), (.int x1)]))) (fun τ κ => XS.iloadN X0.here hx rfl (hb hby at_12) rfl κ) ?_
    by_cases hc13_13 : x1 = x2
    ·
      refine own_go (S' := (s₁.setTop (mkF m 16 #[.val (.int x0), .val (.int x1), .val (.int x2), .val (.int x3), .val (.int (2 : Int32)), .unset, .unset, .unset] []))) (fun τ κ => XS.icmpNo X0.here hx rfl (hb hby at_13) rfl (teq hc13_13).2 κ) ?_
      refine own_go (S' := (s₁.setTop (mkF m 17 #[.val (.int x0), .val (.int x1), .val (.int x2), .val (.int x3), .val (.int (2 : Int32)), .unset, .unset, .unset] [(.int (1 : Int32))]))) (fun τ κ => XT.iconstV X0.here hx rfl (1 : Int32) (hb hby at_16) (by decide) κ) ?_
      exact own_retN X0 hx hret hlk (by simp) (hb hby at_17) (by first | rfl | decide) (by decide) (by decide) ⟨rfl, N0⟩
    ·
      refine own_go (S' := (s₁.setTop (mkF m 18 #[.val (.int x0), .val (.int x1), .val (.int x2), .val (.int x3), .val (.int (2 : Int32)), .unset, .unset, .unset] []))) (fun τ κ => XS.icmpYes X0.here hx rfl (pc0 := 13) (pc' := 18) rfl (hb hby at_13) rfl (feq hc13_13).2 (by decide) (by decide) κ) ?_
      refine own_go (S' := (s₁.setTop (mkF m 20 #[.val (.int x0), .val (.int x1), .val (.int x2), .val (.int x3), .val (.int (2 : Int32)), .unset, .unset, .unset] [(.int (2 : Int32))]))) (fun τ κ => XS.iload X0.here hx rfl (hb hby at_18) rfl κ) ?_
      refine own_go (S' := (s₁.setTop (mkF m 21 #[.val (.int x0), .val (.int x1), .val (.int x2), .val (.int x3), .val (.int (2 : Int32)), .unset, .unset, .unset] [(.int (3 : Int32)), (.int (2 : Int32))]))) (fun τ κ => XT.iconstV X0.here hx rfl (3 : Int32) (hb hby at_20) (by decide) κ) ?_
      refine own_go (S' := (s₁.setTop (mkF m 36 #[.val (.int x0), .val (.int x1), .val (.int x2), .val (.int x3), .val (.int (2 : Int32)), .unset, .unset, .unset] []))) (fun τ κ => XS.icmpYes X0.here hx rfl (pc0 := 21) (pc' := 36) rfl (hb hby at_21) rfl (tlt (by decide)).1 (by decide) (by decide) κ) ?_
      refine own_go (S' := (s₁.setTop (mkF m 38 #[.val (.int x0), .val (.int x1), .val (.int x2), .val (.int x3), .val (.int (2 : Int32)), .unset, .unset, .unset] [(.int (2 : Int32))]))) (fun τ κ => XS.iload X0.here hx rfl (hb hby at_36) rfl κ) ?_
      obtain ⟨T14, h14, b14, X14, e14, E14, g14, A14, st14⟩ := own_newL (nn := (2 : Int32)) (len := 2) (Ls := #[.val (.int x0), .val (.int x1), .val (.int x2), .val (.int x3), .val (.int (2 : Int32)), .unset, .unset, .unset]) (rest := []) X0 hx hZ (hw _ (List.mem_of_getElem? (i := 0) rfl)) e0 (hb hby at_38) (by decide) (by decide) (cap := 2) (by decide) (by decide) (by decide) (by decide)
      have gn14 : n0 ≤ b14 := g14 ▸ Z0
      have sz14 : n0 ≤ h14.size := Nat.le_trans Z0 E14.1
      replace A14 := A14.eq (vs' := [(.int (0 : Int32)), (.int (0 : Int32))]) rfl
      refine own_go (S' := (T14.setTop (mkF m 40 #[.val (.int x0), .val (.int x1), .val (.int x2), .val (.int x3), .val (.int (2 : Int32)), .unset, .unset, .unset] [(.ref b14)]))) st14 ?_
      refine own_go (S' := (T14.setTop (mkF m 42 #[.val (.int x0), .val (.int x1), .val (.int x2), .val (.int x3), .val (.int (2 : Int32)), .val (.ref b14), .unset, .unset] []))) (fun τ κ => XS.astore X14.here hx rfl (hb hby at_40) rfl rfl (l' := #[.val (.int x0), .val (.int x1), .val (.int x2), .val (.int x3), .val (.int (2 : Int32)), .val (.ref b14), .unset, .unset]) rfl κ) ?_
      refine own_go (S' := (T14.setTop (mkF m 44 #[.val (.int x0), .val (.int x1), .val (.int x2), .val (.int x3), .val (.int (2 : Int32)), .val (.ref b14), .unset, .unset] [(.int (2 : Int32))]))) (fun τ κ => XS.iload X14.here hx rfl (hb hby at_42) rfl κ) ?_
      refine own_go (S' := (T14.setTop (mkF m 45 #[.val (.int x0), .val (.int x1), .val (.int x2), .val (.int x3), .val (.int (2 : Int32)), .val (.ref b14), .unset, .unset] [(.int (1 : Int32)), (.int (2 : Int32))]))) (fun τ κ => XT.iconstV X14.here hx rfl (1 : Int32) (hb hby at_44) (by decide) κ) ?_
      refine own_go (S' := (T14.setTop (mkF m 48 #[.val (.int x0), .val (.int x1), .val (.int x2), .val (.int x3), .val (.int (2 : Int32)), .val (.ref b14), .unset, .unset] []))) (fun τ κ => XS.icmpNo X14.here hx rfl (hb hby at_45) rfl (flt (by decide)).1 κ) ?_
      refine own_go (S' := (T14.setTop (mkF m 50 #[.val (.int x0), .val (.int x1), .val (.int x2), .val (.int x3), .val (.int (2 : Int32)), .val (.ref b14), .unset, .unset] [(.ref b14)]))) (fun τ κ => XS.aload X14.here hx rfl (hb hby at_48) rfl rfl κ) ?_
      refine own_go (S' := (T14.setTop (mkF m 51 #[.val (.int x0), .val (.int x1), .val (.int x2), .val (.int x3), .val (.int (2 : Int32)), .val (.ref b14), .unset, .unset] [(.int (0 : Int32)), (.ref b14)]))) (fun τ κ => XT.iconstV X14.here hx rfl (0 : Int32) (hb hby at_50) (by decide) κ) ?_
      refine own_go (S' := (T14.setTop (mkF m 52 #[.val (.int x0), .val (.int x1), .val (.int x2), .val (.int x3), .val (.int (2 : Int32)), .val (.ref b14), .unset, .unset] [(.int x1), (.int (0 : Int32)), (.ref b14)]))) (fun τ κ => XS.iloadN X14.here hx rfl (hb hby at_51) rfl κ) ?_
      obtain ⟨T15, h15, X15, e15, W15, B15, st15⟩ := own_iastore (j := (0 : Int32)) (x := x1) (Ls := #[.val (.int x0), .val (.int x1), .val (.int x2), .val (.int x3), .val (.int (2 : Int32)), .val (.ref b14), .unset, .unset]) (rest := []) A14 X14 hx hZ e14 (by decide) (i := 0) (by decide) (Nat.le_of_ble_eq_true rfl) (hb hby at_52)
      replace A14 := B15.eq (vs' := [(.int x1), (.int (0 : Int32))]) rfl
      have N15 := Fr.snoc X15 N0 gn14
      have sz15 : n0 ≤ h15.size := W15.size ▸ sz14
      refine own_go (S' := (T15.setTop (mkF m 53 #[.val (.int x0), .val (.int x1), .val (.int x2), .val (.int x3), .val (.int (2 : Int32)), .val (.ref b14), .unset, .unset] []))) st15 ?_
      refine own_go (S' := (T15.setTop (mkF m 55 #[.val (.int x0), .val (.int x1), .val (.int x2), .val (.int x3), .val (.int (2 : Int32)), .val (.ref b14), .unset, .unset] [(.int (2 : Int32))]))) (fun τ κ => XS.iload X15.here hx rfl (hb hby at_53) rfl κ) ?_
      refine own_go (S' := (T15.setTop (mkF m 56 #[.val (.int x0), .val (.int x1), .val (.int x2), .val (.int x3), .val (.int (2 : Int32)), .val (.ref b14), .unset, .unset] [(.int (2 : Int32)), (.int (2 : Int32))]))) (fun τ κ => XT.iconstV X15.here hx rfl (2 : Int32) (hb hby at_55) (by decide) κ) ?_
      refine own_go (S' := (T15.setTop (mkF m 59 #[.val (.int x0), .val (.int x1), .val (.int x2), .val (.int x3), .val (.int (2 : Int32)), .val (.ref b14), .unset, .unset] []))) (fun τ κ => XS.icmpNo X15.here hx rfl (hb hby at_56) rfl (flt (by decide)).1 κ) ?_
      refine own_go (S' := (T15.setTop (mkF m 61 #[.val (.int x0), .val (.int x1), .val (.int x2), .val (.int x3), .val (.int (2 : Int32)), .val (.ref b14), .unset, .unset] [(.ref b14)]))) (fun τ κ => XS.aload X15.here hx rfl (hb hby at_59) rfl rfl κ) ?_
      refine own_go (S' := (T15.setTop (mkF m 62 #[.val (.int x0), .val (.int x1), .val (.int x2), .val (.int x3), .val (.int (2 : Int32)), .val (.ref b14), .unset, .unset] [(.int (1 : Int32)), (.ref b14)]))) (fun τ κ => XT.iconstV X15.here hx rfl (1 : Int32) (hb hby at_61) (by decide) κ) ?_
      refine own_go (S' := (T15.setTop (mkF m 63 #[.val (.int x0), .val (.int x1), .val (.int x2), .val (.int x3), .val (.int (2 : Int32)), .val (.ref b14), .unset, .unset] [(.int x2), (.int (1 : Int32)), (.ref b14)]))) (fun τ κ => XS.iloadN X15.here hx rfl (hb hby at_62) rfl κ) ?_
      obtain ⟨T16, h16, X16, e16, W16, B16, st16⟩ := own_iastore (j := (1 : Int32)) (x := x2) (Ls := #[.val (.int x0), .val (.int x1), .val (.int x2), .val (.int x3), .val (.int (2 : Int32)), .val (.ref b14), .unset, .unset]) (rest := []) A14 X15 hx hZ e15 (by decide) (i := 1) (by decide) (Nat.le_of_ble_eq_true rfl) (hb hby at_63)
      replace A14 := B16.eq (vs' := [(.int x1), (.int x2)]) rfl
      have N16 := Fr.snoc X16 N15 gn14
      have sz16 : n0 ≤ h16.size := W16.size ▸ sz15
      refine own_go (S' := (T16.setTop (mkF m 64 #[.val (.int x0), .val (.int x1), .val (.int x2), .val (.int x3), .val (.int (2 : Int32)), .val (.ref b14), .unset, .unset] []))) st16 ?_
      refine own_go (S' := (T16.setTop (mkF m 66 #[.val (.int x0), .val (.int x1), .val (.int x2), .val (.int x3), .val (.int (2 : Int32)), .val (.ref b14), .unset, .unset] [(.int (2 : Int32))]))) (fun τ κ => XS.iload X16.here hx rfl (hb hby at_64) rfl κ) ?_
      refine own_go (S' := (T16.setTop (mkF m 67 #[.val (.int x0), .val (.int x1), .val (.int x2), .val (.int x3), .val (.int (2 : Int32)), .val (.ref b14), .unset, .unset] [(.int (3 : Int32)), (.int (2 : Int32))]))) (fun τ κ => XT.iconstV X16.here hx rfl (3 : Int32) (hb hby at_66) (by decide) κ) ?_
      refine own_go (S' := (T16.setTop (mkF m 75 #[.val (.int x0), .val (.int x1), .val (.int x2), .val (.int x3), .val (.int (2 : Int32)), .val (.ref b14), .unset, .unset] []))) (fun τ κ => XS.icmpYes X16.here hx rfl (pc0 := 67) (pc' := 75) rfl (hb hby at_67) rfl (tlt (by decide)).1 (by decide) (by decide) κ) ?_
      have lt17_A14 := A14.lt
      obtain ⟨T17, h17, X17, e17, E17, A17, D17, -, st17⟩ := newO X16 hx hZ hown (hw _ (List.mem_of_getElem? (i := 1) rfl)) (hw _ (List.mem_of_getElem? (i := 2) rfl)) (hw _ (List.mem_of_getElem? (i := 3) rfl)) e16 (g := (mkF m 75 #[.val (.int x0), .val (.int x1), .val (.int x2), .val (.int x3), .val (.int (2 : Int32)), .val (.ref b14), .unset, .unset] [])) rfl (hb hby at_75) (by decide) (by decide)
      obtain ⟨b17, g17⟩ : ∃ z, z = h16.size := ⟨_, rfl⟩
      rw [← g17] at A17 D17 st17
      replace A14 := A14.ext E17
      have ne17_A14 : b14 ≠ b17 := Nat.ne_of_lt (g17 ▸ lt17_A14)
      have gn17 : n0 ≤ b17 := g17 ▸ sz16
      have sz17 : n0 ≤ h17.size := Nat.le_trans sz16 E17.1
      have F17_codes : Fld Z h17 b17 "com/example/twinhash/twinhash/shingle/ShingleSet" "codes" "[I" .null := D17 (Or.inr (hw _ (List.mem_of_getElem? (i := 25) rfl))) (ty := (.array .int)) (by decide)
      have F17_firstSeen : Fld Z h17 b17 "com/example/twinhash/twinhash/shingle/ShingleSet" "firstSeen" "I" (.int (0 : Int32)) := D17 (Or.inr (hw _ (List.mem_of_getElem? (i := 27) rfl))) (ty := .int) (by decide)
      refine own_go (S' := (T17.setTop (mkF m 78 #[.val (.int x0), .val (.int x1), .val (.int x2), .val (.int x3), .val (.int (2 : Int32)), .val (.ref b14), .unset, .unset] [(.ref b17)]))) st17 ?_
      refine own_go (S' := (T17.setTop (mkF m 79 #[.val (.int x0), .val (.int x1), .val (.int x2), .val (.int x3), .val (.int (2 : Int32)), .val (.ref b14), .unset, .unset] [(.ref b17), (.ref b17)]))) (fun τ κ => XS.dup X17.here hx rfl (hb hby at_78) rfl rfl κ) ?_
      refine own_go (S' := (T17.setTop (mkF m 81 #[.val (.int x0), .val (.int x1), .val (.int x2), .val (.int x3), .val (.int (2 : Int32)), .val (.ref b14), .unset, .unset] [(.ref b14), (.ref b17), (.ref b17)]))) (fun τ κ => XS.aload X17.here hx rfl (hb hby at_79) rfl rfl κ) ?_
      replace A14 := A14.eq (vs' := List.map Value.int [x1, x2]) rfl
      obtain ⟨v18, T18, L18, X18, hQ18, st18⟩ := own_callI (a := b17) X17 hx hZ (y := (⟨"com/example/twinhash/twinhash/shingle/ShingleSet", "<init>", "([I)V"⟩ : MethodName)) rfl hown (hw _ (List.mem_of_getElem? (i := 4) rfl)) (hw _ (List.mem_of_getElem? (i := 5) rfl)) (hw _ (List.mem_of_getElem? (i := 3) rfl)) (hw _ (List.mem_of_getElem? (i := 6) rfl)) (rm1 l Z a0 hw b17 b14 [x1, x2] h17 n0 gn17 gn14 (Ne.symm ne17_A14) (Nat.le_of_ble_eq_true rfl) A17 F17_codes F17_firstSeen A14) e17 (st := [(.ref b14), (.ref b17), (.ref b17)]) (argsL := [(.ref b14)]) (rest := [(.ref b17)]) (Ls := #[.val (.int x0), .val (.int x1), .val (.int x2), .val (.int x3), .val (.int (2 : Int32)), .val (.ref b14), .unset, .unset]) (hb hby at_81) pd_3 1 (by rw [hml]; rfl) (by decide) rfl rfl rfl (Nat.le_of_eq rfl) (by decide) (by decide) (by decide) (by decide)
      obtain ⟨rfl, Nq18, ys, f, hp, hs, hf1, hf2, hf3, E0, F1, F2, A, K⟩ := hQ18
      have N18 := Fr.app N16 Nq18
      refine own_go (S' := (T18.setTop (mkF m 84 #[.val (.int x0), .val (.int x1), .val (.int x2), .val (.int x3), .val (.int (2 : Int32)), .val (.ref b14), .unset, .unset] [(.ref b17)]))) st18 ?_
      refine own_go (S' := (T18.setTop (mkF m 86 #[.val (.int x0), .val (.int x1), .val (.int x2), .val (.int x3), .val (.int (2 : Int32)), .val (.ref b14), .val (.ref b17), .unset] []))) (fun τ κ => XS.astore X18.here hx rfl (hb hby at_84) rfl rfl (l' := #[.val (.int x0), .val (.int x1), .val (.int x2), .val (.int x3), .val (.int (2 : Int32)), .val (.ref b14), .val (.ref b17), .unset]) rfl κ) ?_
      refine own_go (S' := (T18.setTop (mkF m 87 #[.val (.int x0), .val (.int x1), .val (.int x2), .val (.int x3), .val (.int (2 : Int32)), .val (.ref b14), .val (.ref b17), .unset] [(.int (-1 : Int32))]))) (fun τ κ => XT.iconstV X18.here hx rfl (-1 : Int32) (hb hby at_86) (by decide) κ) ?_
      refine own_go (S' := (T18.setTop (mkF m 89 #[.val (.int x0), .val (.int x1), .val (.int x2), .val (.int x3), .val (.int (2 : Int32)), .val (.ref b14), .val (.ref b17), .val (.int (-1 : Int32))] []))) (fun τ κ => XS.istore X18.here hx rfl (hb hby at_87) rfl (l' := #[.val (.int x0), .val (.int x1), .val (.int x2), .val (.int x3), .val (.int (2 : Int32)), .val (.ref b14), .val (.ref b17), .val (.int (-1 : Int32))]) rfl κ) ?_
      refine own_go (S' := (T18.setTop (mkF m 91 #[.val (.int x0), .val (.int x1), .val (.int x2), .val (.int x3), .val (.int (2 : Int32)), .val (.ref b14), .val (.ref b17), .val (.int (-1 : Int32))] [(.int (2 : Int32))]))) (fun τ κ => XS.iload X18.here hx rfl (hb hby at_89) rfl κ) ?_
      refine own_go (S' := (T18.setTop (mkF m 92 #[.val (.int x0), .val (.int x1), .val (.int x2), .val (.int x3), .val (.int (2 : Int32)), .val (.ref b14), .val (.ref b17), .val (.int (-1 : Int32))] [(.int (1 : Int32)), (.int (2 : Int32))]))) (fun τ κ => XT.iconstV X18.here hx rfl (1 : Int32) (hb hby at_91) (by decide) κ) ?_
      refine own_go (S' := (T18.setTop (mkF m 95 #[.val (.int x0), .val (.int x1), .val (.int x2), .val (.int x3), .val (.int (2 : Int32)), .val (.ref b14), .val (.ref b17), .val (.int (-1 : Int32))] []))) (fun τ κ => XS.icmpNo X18.here hx rfl (hb hby at_92) rfl (flt (by decide)).1 κ) ?_
      refine own_go (S' := (T18.setTop (mkF m 96 #[.val (.int x0), .val (.int x1), .val (.int x2), .val (.int x3), .val (.int (2 : Int32)), .val (.ref b14), .val (.ref b17), .val (.int (-1 : Int32))] [(.int x1)]))) (fun τ κ => XS.iloadN X18.here hx rfl (hb hby at_95) rfl κ) ?_
      by_cases hc96_19 : x1 < (0 : Int32)
      ·
        refine own_go (S' := (T18.setTop (mkF m 107 #[.val (.int x0), .val (.int x1), .val (.int x2), .val (.int x3), .val (.int (2 : Int32)), .val (.ref b14), .val (.ref b17), .val (.int (-1 : Int32))] []))) (fun τ κ => XS.ifYes X18.here hx rfl (pc0 := 96) (pc' := 107) rfl (hb hby at_96) rfl ((if0 _ _).trans (tlt hc96_19).1) (by decide) (by decide) κ) ?_
        refine own_go (S' := (T18.setTop (mkF m 109 #[.val (.int x0), .val (.int x1), .val (.int x2), .val (.int x3), .val (.int (2 : Int32)), .val (.ref b14), .val (.ref b17), .val (.int (-1 : Int32))] [(.int (2 : Int32))]))) (fun τ κ => XS.iload X18.here hx rfl (hb hby at_107) rfl κ) ?_
        refine own_go (S' := (T18.setTop (mkF m 110 #[.val (.int x0), .val (.int x1), .val (.int x2), .val (.int x3), .val (.int (2 : Int32)), .val (.ref b14), .val (.ref b17), .val (.int (-1 : Int32))] [(.int (2 : Int32)), (.int (2 : Int32))]))) (fun τ κ => XT.iconstV X18.here hx rfl (2 : Int32) (hb hby at_109) (by decide) κ) ?_
        refine own_go (S' := (T18.setTop (mkF m 113 #[.val (.int x0), .val (.int x1), .val (.int x2), .val (.int x3), .val (.int (2 : Int32)), .val (.ref b14), .val (.ref b17), .val (.int (-1 : Int32))] []))) (fun τ κ => XS.icmpNo X18.here hx rfl (hb hby at_110) rfl (flt (by decide)).1 κ) ?_
        refine own_go (S' := (T18.setTop (mkF m 114 #[.val (.int x0), .val (.int x1), .val (.int x2), .val (.int x3), .val (.int (2 : Int32)), .val (.ref b14), .val (.ref b17), .val (.int (-1 : Int32))] [(.int x2)]))) (fun τ κ => XS.iloadN X18.here hx rfl (hb hby at_113) rfl κ) ?_
        by_cases hc114_20 : x2 < (0 : Int32)
        ·
          refine own_go (S' := (T18.setTop (mkF m 125 #[.val (.int x0), .val (.int x1), .val (.int x2), .val (.int x3), .val (.int (2 : Int32)), .val (.ref b14), .val (.ref b17), .val (.int (-1 : Int32))] []))) (fun τ κ => XS.ifYes X18.here hx rfl (pc0 := 114) (pc' := 125) rfl (hb hby at_114) rfl ((if0 _ _).trans (tlt hc114_20).1) (by decide) (by decide) κ) ?_
          refine own_go (S' := (T18.setTop (mkF m 127 #[.val (.int x0), .val (.int x1), .val (.int x2), .val (.int x3), .val (.int (2 : Int32)), .val (.ref b14), .val (.ref b17), .val (.int (-1 : Int32))] [(.int (2 : Int32))]))) (fun τ κ => XS.iload X18.here hx rfl (hb hby at_125) rfl κ) ?_
          refine own_go (S' := (T18.setTop (mkF m 128 #[.val (.int x0), .val (.int x1), .val (.int x2), .val (.int x3), .val (.int (2 : Int32)), .val (.ref b14), .val (.ref b17), .val (.int (-1 : Int32))] [(.int (3 : Int32)), (.int (2 : Int32))]))) (fun τ κ => XT.iconstV X18.here hx rfl (3 : Int32) (hb hby at_127) (by decide) κ) ?_
          refine own_go (S' := (T18.setTop (mkF m 143 #[.val (.int x0), .val (.int x1), .val (.int x2), .val (.int x3), .val (.int (2 : Int32)), .val (.ref b14), .val (.ref b17), .val (.int (-1 : Int32))] []))) (fun τ κ => XS.icmpYes X18.here hx rfl (pc0 := 128) (pc' := 143) rfl (hb hby at_128) rfl (tlt (by decide)).1 (by decide) (by decide) κ) ?_
          refine own_go (S' := (T18.setTop (mkF m 145 #[.val (.int x0), .val (.int x1), .val (.int x2), .val (.int x3), .val (.int (2 : Int32)), .val (.ref b14), .val (.ref b17), .val (.int (-1 : Int32))] [(.ref b17)]))) (fun τ κ => XS.aload X18.here hx rfl (hb hby at_143) rfl rfl κ) ?_
          obtain ⟨v21, T21, L21, X21, hQ21, st21⟩ := own_callV (a := b17) X18 hx hZ (y := (⟨"com/example/twinhash/twinhash/shingle/ShingleSet", "largestCode", "()I"⟩ : MethodName)) hown (hw _ (List.mem_of_getElem? (i := 28) rfl)) (hw _ (List.mem_of_getElem? (i := 29) rfl)) (hw _ (List.mem_of_getElem? (i := 31) rfl)) (hw _ (List.mem_of_getElem? (i := 30) rfl)) (hw _ (List.mem_of_getElem? (i := 3) rfl)) (hw _ (List.mem_of_getElem? (i := 32) rfl)) (rm7 l Z a0 hw b17 b14 ys f T18.heap hf1 (by rw [hp.length_eq]; exact Nat.le_of_ble_eq_true rfl) F1 F2 A) rfl E0 (st := [(.ref b17)]) (argsL := []) (rest := []) (Ls := #[.val (.int x0), .val (.int x1), .val (.int x2), .val (.int x3), .val (.int (2 : Int32)), .val (.ref b14), .val (.ref b17), .val (.int (-1 : Int32))]) (hb hby at_145) pd_4 0 (by rw [hml]; rfl) (by decide) rfl rfl rfl (Nat.le_of_eq rfl) (by decide) (by decide) (by decide) (by decide)
          obtain ⟨rfl, rfl, e21⟩ := hQ21
          rw [List.append_nil] at X21
          refine own_go (S' := (T21.setTop (mkF m 148 #[.val (.int x0), .val (.int x1), .val (.int x2), .val (.int x3), .val (.int (2 : Int32)), .val (.ref b14), .val (.ref b17), .val (.int (-1 : Int32))] [(.int (own_large ys f))]))) st21 ?_
          refine own_go (S' := (T21.setTop (mkF m 150 #[.val (.int x0), .val (.int x1), .val (.int x2), .val (.int x3), .val (.int (2 : Int32)), .val (.ref b14), .val (.ref b17), .val (.int (-1 : Int32))] [(.int (-1 : Int32)), (.int (own_large ys f))]))) (fun τ κ => XS.iload X21.here hx rfl (hb hby at_148) rfl κ) ?_
          refine own_go (S' := (T21.setTop (mkF m 153 #[.val (.int x0), .val (.int x1), .val (.int x2), .val (.int x3), .val (.int (2 : Int32)), .val (.ref b14), .val (.ref b17), .val (.int (-1 : Int32))] []))) (fun τ κ => XS.icmpNo X21.here hx rfl (hb hby at_150) rfl (teq (own_ch_uniq (own_large_ch hp hs hf1 hf2 hf3) (own_ch_neg (own_ch_neg own_ch_nil hc96_19) hc114_20))).2 κ) ?_
          refine own_go (S' := (T21.setTop (mkF m 154 #[.val (.int x0), .val (.int x1), .val (.int x2), .val (.int x3), .val (.int (2 : Int32)), .val (.ref b14), .val (.ref b17), .val (.int (-1 : Int32))] [(.int (1 : Int32))]))) (fun τ κ => XT.iconstV X21.here hx rfl (1 : Int32) (hb hby at_153) (by decide) κ) ?_
          refine own_go (S' := (T21.setTop (mkF m 158 #[.val (.int x0), .val (.int x1), .val (.int x2), .val (.int x3), .val (.int (2 : Int32)), .val (.ref b14), .val (.ref b17), .val (.int (-1 : Int32))] [(.int (1 : Int32))]))) (fun τ κ => XS.goto X21.here hx rfl (pc0 := 154) (pc' := 158) rfl (hb hby at_154) (by decide) (by decide) κ) ?_
          exact own_retN X21 hx hret hlk (by simp) (hb hby at_158) (by first | rfl | decide) (by decide) (by decide) ⟨rfl, N18⟩
        ·
          refine own_go (S' := (T18.setTop (mkF m 117 #[.val (.int x0), .val (.int x1), .val (.int x2), .val (.int x3), .val (.int (2 : Int32)), .val (.ref b14), .val (.ref b17), .val (.int (-1 : Int32))] []))) (fun τ κ => XS.ifNo X18.here hx rfl (hb hby at_114) rfl ((if0 _ _).trans (flt hc114_20).1) κ) ?_
          refine own_go (S' := (T18.setTop (mkF m 119 #[.val (.int x0), .val (.int x1), .val (.int x2), .val (.int x3), .val (.int (2 : Int32)), .val (.ref b14), .val (.ref b17), .val (.int (-1 : Int32))] [(.int (-1 : Int32))]))) (fun τ κ => XS.iload X18.here hx rfl (hb hby at_117) rfl κ) ?_
          refine own_go (S' := (T18.setTop (mkF m 120 #[.val (.int x0), .val (.int x1), .val (.int x2), .val (.int x3), .val (.int (2 : Int32)), .val (.ref b14), .val (.ref b17), .val (.int (-1 : Int32))] [(.int x2), (.int (-1 : Int32))]))) (fun τ κ => XS.iloadN X18.here hx rfl (hb hby at_119) rfl κ) ?_
          obtain ⟨T22, X22, e22, st22⟩ := own_callP X18 hx hZ (y := (⟨"java/lang/Math", "max", "(II)I"⟩ : MethodName)) hown (hw _ (List.mem_of_getElem? (i := 33) rfl)) (hw _ (List.mem_of_getElem? (i := 34) rfl)) (hw _ (List.mem_of_getElem? (i := 35) rfl)) (hw _ (List.mem_of_getElem? (i := 36) rfl)) (rm8 l Z a0 hw (-1 : Int32) x2 T18.heap) rfl (argsL := [(.int (-1 : Int32)), (.int x2)]) (rest := []) (Ls := #[.val (.int x0), .val (.int x1), .val (.int x2), .val (.int x3), .val (.int (2 : Int32)), .val (.ref b14), .val (.ref b17), .val (.int (-1 : Int32))]) (hb hby at_120) pd_5 0 (by rw [hml]; rfl) (by decide) rfl rfl rfl (Nat.le_of_eq rfl) (by decide) (by decide) (by decide) (by decide)
          refine own_go (S' := (T22.setTop (mkF m 123 #[.val (.int x0), .val (.int x1), .val (.int x2), .val (.int x3), .val (.int (2 : Int32)), .val (.ref b14), .val (.ref b17), .val (.int (-1 : Int32))] [(.int (f8_0 (-1 : Int32) x2))]))) st22 ?_
          refine own_go (S' := (T22.setTop (mkF m 125 #[.val (.int x0), .val (.int x1), .val (.int x2), .val (.int x3), .val (.int (2 : Int32)), .val (.ref b14), .val (.ref b17), .val (.int (f8_0 (-1 : Int32) x2))] []))) (fun τ κ => XS.istore X22.here hx rfl (hb hby at_123) rfl (l' := #[.val (.int x0), .val (.int x1), .val (.int x2), .val (.int x3), .val (.int (2 : Int32)), .val (.ref b14), .val (.ref b17), .val (.int (f8_0 (-1 : Int32) x2))]) rfl κ) ?_
          refine own_go (S' := (T22.setTop (mkF m 127 #[.val (.int x0), .val (.int x1), .val (.int x2), .val (.int x3), .val (.int (2 : Int32)), .val (.ref b14), .val (.ref b17), .val (.int (f8_0 (-1 : Int32) x2))] [(.int (2 : Int32))]))) (fun τ κ => XS.iload X22.here hx rfl (hb hby at_125) rfl κ) ?_
          refine own_go (S' := (T22.setTop (mkF m 128 #[.val (.int x0), .val (.int x1), .val (.int x2), .val (.int x3), .val (.int (2 : Int32)), .val (.ref b14), .val (.ref b17), .val (.int (f8_0 (-1 : Int32) x2))] [(.int (3 : Int32)), (.int (2 : Int32))]))) (fun τ κ => XT.iconstV X22.here hx rfl (3 : Int32) (hb hby at_127) (by decide) κ) ?_
          refine own_go (S' := (T22.setTop (mkF m 143 #[.val (.int x0), .val (.int x1), .val (.int x2), .val (.int x3), .val (.int (2 : Int32)), .val (.ref b14), .val (.ref b17), .val (.int (f8_0 (-1 : Int32) x2))] []))) (fun τ κ => XS.icmpYes X22.here hx rfl (pc0 := 128) (pc' := 143) rfl (hb hby at_128) rfl (tlt (by decide)).1 (by decide) (by decide) κ) ?_
          refine own_go (S' := (T22.setTop (mkF m 145 #[.val (.int x0), .val (.int x1), .val (.int x2), .val (.int x3), .val (.int (2 : Int32)), .val (.ref b14), .val (.ref b17), .val (.int (f8_0 (-1 : Int32) x2))] [(.ref b17)]))) (fun τ κ => XS.aload X22.here hx rfl (hb hby at_143) rfl rfl κ) ?_
          obtain ⟨v23, T23, L23, X23, hQ23, st23⟩ := own_callV (a := b17) X22 hx hZ (y := (⟨"com/example/twinhash/twinhash/shingle/ShingleSet", "largestCode", "()I"⟩ : MethodName)) hown (hw _ (List.mem_of_getElem? (i := 28) rfl)) (hw _ (List.mem_of_getElem? (i := 29) rfl)) (hw _ (List.mem_of_getElem? (i := 31) rfl)) (hw _ (List.mem_of_getElem? (i := 30) rfl)) (hw _ (List.mem_of_getElem? (i := 3) rfl)) (hw _ (List.mem_of_getElem? (i := 32) rfl)) (rm7 l Z a0 hw b17 b14 ys f T18.heap hf1 (by rw [hp.length_eq]; exact Nat.le_of_ble_eq_true rfl) F1 F2 A) e22 E0 (st := [(.ref b17)]) (argsL := []) (rest := []) (Ls := #[.val (.int x0), .val (.int x1), .val (.int x2), .val (.int x3), .val (.int (2 : Int32)), .val (.ref b14), .val (.ref b17), .val (.int (f8_0 (-1 : Int32) x2))]) (hb hby at_145) pd_4 0 (by rw [hml]; rfl) (by decide) rfl rfl rfl (Nat.le_of_eq rfl) (by decide) (by decide) (by decide) (by decide)
          obtain ⟨rfl, rfl, e23⟩ := hQ23
          rw [List.append_nil] at X23
          refine own_go (S' := (T23.setTop (mkF m 148 #[.val (.int x0), .val (.int x1), .val (.int x2), .val (.int x3), .val (.int (2 : Int32)), .val (.ref b14), .val (.ref b17), .val (.int (f8_0 (-1 : Int32) x2))] [(.int (own_large ys f))]))) st23 ?_
          refine own_go (S' := (T23.setTop (mkF m 150 #[.val (.int x0), .val (.int x1), .val (.int x2), .val (.int x3), .val (.int (2 : Int32)), .val (.ref b14), .val (.ref b17), .val (.int (f8_0 (-1 : Int32) x2))] [(.int (f8_0 (-1 : Int32) x2)), (.int (own_large ys f))]))) (fun τ κ => XS.iload X23.here hx rfl (hb hby at_148) rfl κ) ?_
          refine own_go (S' := (T23.setTop (mkF m 153 #[.val (.int x0), .val (.int x1), .val (.int x2), .val (.int x3), .val (.int (2 : Int32)), .val (.ref b14), .val (.ref b17), .val (.int (f8_0 (-1 : Int32) x2))] []))) (fun τ κ => XS.icmpNo X23.here hx rfl (hb hby at_150) rfl (teq (own_ch_uniq (own_large_ch hp hs hf1 hf2 hf3) (own_ch_pos (own_ch_neg own_ch_nil hc96_19) hc114_20))).2 κ) ?_
          refine own_go (S' := (T23.setTop (mkF m 154 #[.val (.int x0), .val (.int x1), .val (.int x2), .val (.int x3), .val (.int (2 : Int32)), .val (.ref b14), .val (.ref b17), .val (.int (f8_0 (-1 : Int32) x2))] [(.int (1 : Int32))]))) (fun τ κ => XT.iconstV X23.here hx rfl (1 : Int32) (hb hby at_153) (by decide) κ) ?_
          refine own_go (S' := (T23.setTop (mkF m 158 #[.val (.int x0), .val (.int x1), .val (.int x2), .val (.int x3), .val (.int (2 : Int32)), .val (.ref b14), .val (.ref b17), .val (.int (f8_0 (-1 : Int32) x2))] [(.int (1 : Int32))]))) (fun τ κ => XS.goto X23.here hx rfl (pc0 := 154) (pc' := 158) rfl (hb hby at_154) (by decide) (by decide) κ) ?_
          exact own_retN X23 hx hret hlk (by simp) (hb hby at_158) (by first | rfl | decide) (by decide) (by decide) ⟨rfl, N18⟩
      ·
        refine own_go (S' := (T18.setTop (mkF m 99 #[.val (.int x0), .val (.int x1), .val (.int x2), .val (.int x3), .val (.int (2 : Int32)), .val (.ref b14), .val (.ref b17), .val (.int (-1 : Int32))] []))) (fun τ κ => XS.ifNo X18.here hx rfl (hb hby at_96) rfl ((if0 _ _).trans (flt hc96_19).1) κ) ?_
        refine own_go (S' := (T18.setTop (mkF m 101 #[.val (.int x0), .val (.int x1), .val (.int x2), .val (.int x3), .val (.int (2 : Int32)), .val (.ref b14), .val (.ref b17), .val (.int (-1 : Int32))] [(.int (-1 : Int32))]))) (fun τ κ => XS.iload X18.here hx rfl (hb hby at_99) rfl κ) ?_
        refine own_go (S' := (T18.setTop (mkF m 102 #[.val (.int x0), .val (.int x1), .val (.int x2), .val (.int x3), .val (.int (2 : Int32)), .val (.ref b14), .val (.ref b17), .val (.int (-1 : Int32))] [(.int x1), (.int (-1 : Int32))]))) (fun τ κ => XS.iloadN X18.here hx rfl (hb hby at_101) rfl κ) ?_
        obtain ⟨T24, X24, e24, st24⟩ := own_callP X18 hx hZ (y := (⟨"java/lang/Math", "max", "(II)I"⟩ : MethodName)) hown (hw _ (List.mem_of_getElem? (i := 33) rfl)) (hw _ (List.mem_of_getElem? (i := 34) rfl)) (hw _ (List.mem_of_getElem? (i := 35) rfl)) (hw _ (List.mem_of_getElem? (i := 36) rfl)) (rm8 l Z a0 hw (-1 : Int32) x1 T18.heap) rfl (argsL := [(.int (-1 : Int32)), (.int x1)]) (rest := []) (Ls := #[.val (.int x0), .val (.int x1), .val (.int x2), .val (.int x3), .val (.int (2 : Int32)), .val (.ref b14), .val (.ref b17), .val (.int (-1 : Int32))]) (hb hby at_102) pd_5 0 (by rw [hml]; rfl) (by decide) rfl rfl rfl (Nat.le_of_eq rfl) (by decide) (by decide) (by decide) (by decide)
        refine own_go (S' := (T24.setTop (mkF m 105 #[.val (.int x0), .val (.int x1), .val (.int x2), .val (.int x3), .val (.int (2 : Int32)), .val (.ref b14), .val (.ref b17), .val (.int (-1 : Int32))] [(.int (f8_0 (-1 : Int32) x1))]))) st24 ?_
        refine own_go (S' := (T24.setTop (mkF m 107 #[.val (.int x0), .val (.int x1), .val (.int x2), .val (.int x3), .val (.int (2 : Int32)), .val (.ref b14), .val (.ref b17), .val (.int (f8_0 (-1 : Int32) x1))] []))) (fun τ κ => XS.istore X24.here hx rfl (hb hby at_105) rfl (l' := #[.val (.int x0), .val (.int x1), .val (.int x2), .val (.int x3), .val (.int (2 : Int32)), .val (.ref b14), .val (.ref b17), .val (.int (f8_0 (-1 : Int32) x1))]) rfl κ) ?_
        refine own_go (S' := (T24.setTop (mkF m 109 #[.val (.int x0), .val (.int x1), .val (.int x2), .val (.int x3), .val (.int (2 : Int32)), .val (.ref b14), .val (.ref b17), .val (.int (f8_0 (-1 : Int32) x1))] [(.int (2 : Int32))]))) (fun τ κ => XS.iload X24.here hx rfl (hb hby at_107) rfl κ) ?_
        refine own_go (S' := (T24.setTop (mkF m 110 #[.val (.int x0), .val (.int x1), .val (.int x2), .val (.int x3), .val (.int (2 : Int32)), .val (.ref b14), .val (.ref b17), .val (.int (f8_0 (-1 : Int32) x1))] [(.int (2 : Int32)), (.int (2 : Int32))]))) (fun τ κ => XT.iconstV X24.here hx rfl (2 : Int32) (hb hby at_109) (by decide) κ) ?_
        refine own_go (S' := (T24.setTop (mkF m 113 #[.val (.int x0), .val (.int x1), .val (.int x2), .val (.int x3), .val (.int (2 : Int32)), .val (.ref b14), .val (.ref b17), .val (.int (f8_0 (-1 : Int32) x1))] []))) (fun τ κ => XS.icmpNo X24.here hx rfl (hb hby at_110) rfl (flt (by decide)).1 κ) ?_
        refine own_go (S' := (T24.setTop (mkF m 114 #[.val (.int x0), .val (.int x1), .val (.int x2), .val (.int x3), .val (.int (2 : Int32)), .val (.ref b14), .val (.ref b17), .val (.int (f8_0 (-1 : Int32) x1))] [(.int x2)]))) (fun τ κ => XS.iloadN X24.here hx rfl (hb hby at_113) rfl κ) ?_
        by_cases hc114_25 : x2 < (0 : Int32)
        ·
          refine own_go (S' := (T24.setTop (mkF m 125 #[.val (.int x0), .val (.int x1), .val (.int x2), .val (.int x3), .val (.int (2 : Int32)), .val (.ref b14), .val (.ref b17), .val (.int (f8_0 (-1 : Int32) x1))] []))) (fun τ κ => XS.ifYes X24.here hx rfl (pc0 := 114) (pc' := 125) rfl (hb hby at_114) rfl ((if0 _ _).trans (tlt hc114_25).1) (by decide) (by decide) κ) ?_
          refine own_go (S' := (T24.setTop (mkF m 127 #[.val (.int x0), .val (.int x1), .val (.int x2), .val (.int x3), .val (.int (2 : Int32)), .val (.ref b14), .val (.ref b17), .val (.int (f8_0 (-1 : Int32) x1))] [(.int (2 : Int32))]))) (fun τ κ => XS.iload X24.here hx rfl (hb hby at_125) rfl κ) ?_
          refine own_go (S' := (T24.setTop (mkF m 128 #[.val (.int x0), .val (.int x1), .val (.int x2), .val (.int x3), .val (.int (2 : Int32)), .val (.ref b14), .val (.ref b17), .val (.int (f8_0 (-1 : Int32) x1))] [(.int (3 : Int32)), (.int (2 : Int32))]))) (fun τ κ => XT.iconstV X24.here hx rfl (3 : Int32) (hb hby at_127) (by decide) κ) ?_
          refine own_go (S' := (T24.setTop (mkF m 143 #[.val (.int x0), .val (.int x1), .val (.int x2), .val (.int x3), .val (.int (2 : Int32)), .val (.ref b14), .val (.ref b17), .val (.int (f8_0 (-1 : Int32) x1))] []))) (fun τ κ => XS.icmpYes X24.here hx rfl (pc0 := 128) (pc' := 143) rfl (hb hby at_128) rfl (tlt (by decide)).1 (by decide) (by decide) κ) ?_
          refine own_go (S' := (T24.setTop (mkF m 145 #[.val (.int x0), .val (.int x1), .val (.int x2), .val (.int x3), .val (.int (2 : Int32)), .val (.ref b14), .val (.ref b17), .val (.int (f8_0 (-1 : Int32) x1))] [(.ref b17)]))) (fun τ κ => XS.aload X24.here hx rfl (hb hby at_143) rfl rfl κ) ?_
          obtain ⟨v26, T26, L26, X26, hQ26, st26⟩ := own_callV (a := b17) X24 hx hZ (y := (⟨"com/example/twinhash/twinhash/shingle/ShingleSet", "largestCode", "()I"⟩ : MethodName)) hown (hw _ (List.mem_of_getElem? (i := 28) rfl)) (hw _ (List.mem_of_getElem? (i := 29) rfl)) (hw _ (List.mem_of_getElem? (i := 31) rfl)) (hw _ (List.mem_of_getElem? (i := 30) rfl)) (hw _ (List.mem_of_getElem? (i := 3) rfl)) (hw _ (List.mem_of_getElem? (i := 32) rfl)) (rm7 l Z a0 hw b17 b14 ys f T18.heap hf1 (by rw [hp.length_eq]; exact Nat.le_of_ble_eq_true rfl) F1 F2 A) e24 E0 (st := [(.ref b17)]) (argsL := []) (rest := []) (Ls := #[.val (.int x0), .val (.int x1), .val (.int x2), .val (.int x3), .val (.int (2 : Int32)), .val (.ref b14), .val (.ref b17), .val (.int (f8_0 (-1 : Int32) x1))]) (hb hby at_145) pd_4 0 (by rw [hml]; rfl) (by decide) rfl rfl rfl (Nat.le_of_eq rfl) (by decide) (by decide) (by decide) (by decide)
          obtain ⟨rfl, rfl, e26⟩ := hQ26
          rw [List.append_nil] at X26
          refine own_go (S' := (T26.setTop (mkF m 148 #[.val (.int x0), .val (.int x1), .val (.int x2), .val (.int x3), .val (.int (2 : Int32)), .val (.ref b14), .val (.ref b17), .val (.int (f8_0 (-1 : Int32) x1))] [(.int (own_large ys f))]))) st26 ?_
          refine own_go (S' := (T26.setTop (mkF m 150 #[.val (.int x0), .val (.int x1), .val (.int x2), .val (.int x3), .val (.int (2 : Int32)), .val (.ref b14), .val (.ref b17), .val (.int (f8_0 (-1 : Int32) x1))] [(.int (f8_0 (-1 : Int32) x1)), (.int (own_large ys f))]))) (fun τ κ => XS.iload X26.here hx rfl (hb hby at_148) rfl κ) ?_
          refine own_go (S' := (T26.setTop (mkF m 153 #[.val (.int x0), .val (.int x1), .val (.int x2), .val (.int x3), .val (.int (2 : Int32)), .val (.ref b14), .val (.ref b17), .val (.int (f8_0 (-1 : Int32) x1))] []))) (fun τ κ => XS.icmpNo X26.here hx rfl (hb hby at_150) rfl (teq (own_ch_uniq (own_large_ch hp hs hf1 hf2 hf3) (own_ch_neg (own_ch_pos own_ch_nil hc96_19) hc114_25))).2 κ) ?_
          refine own_go (S' := (T26.setTop (mkF m 154 #[.val (.int x0), .val (.int x1), .val (.int x2), .val (.int x3), .val (.int (2 : Int32)), .val (.ref b14), .val (.ref b17), .val (.int (f8_0 (-1 : Int32) x1))] [(.int (1 : Int32))]))) (fun τ κ => XT.iconstV X26.here hx rfl (1 : Int32) (hb hby at_153) (by decide) κ) ?_
          refine own_go (S' := (T26.setTop (mkF m 158 #[.val (.int x0), .val (.int x1), .val (.int x2), .val (.int x3), .val (.int (2 : Int32)), .val (.ref b14), .val (.ref b17), .val (.int (f8_0 (-1 : Int32) x1))] [(.int (1 : Int32))]))) (fun τ κ => XS.goto X26.here hx rfl (pc0 := 154) (pc' := 158) rfl (hb hby at_154) (by decide) (by decide) κ) ?_
          exact own_retN X26 hx hret hlk (by simp) (hb hby at_158) (by first | rfl | decide) (by decide) (by decide) ⟨rfl, N18⟩
        ·
          refine own_go (S' := (T24.setTop (mkF m 117 #[.val (.int x0), .val (.int x1), .val (.int x2), .val (.int x3), .val (.int (2 : Int32)), .val (.ref b14), .val (.ref b17), .val (.int (f8_0 (-1 : Int32) x1))] []))) (fun τ κ => XS.ifNo X24.here hx rfl (hb hby at_114) rfl ((if0 _ _).trans (flt hc114_25).1) κ) ?_
          refine own_go (S' := (T24.setTop (mkF m 119 #[.val (.int x0), .val (.int x1), .val (.int x2), .val (.int x3), .val (.int (2 : Int32)), .val (.ref b14), .val (.ref b17), .val (.int (f8_0 (-1 : Int32) x1))] [(.int (f8_0 (-1 : Int32) x1))]))) (fun τ κ => XS.iload X24.here hx rfl (hb hby at_117) rfl κ) ?_
          refine own_go (S' := (T24.setTop (mkF m 120 #[.val (.int x0), .val (.int x1), .val (.int x2), .val (.int x3), .val (.int (2 : Int32)), .val (.ref b14), .val (.ref b17), .val (.int (f8_0 (-1 : Int32) x1))] [(.int x2), (.int (f8_0 (-1 : Int32) x1))]))) (fun τ κ => XS.iloadN X24.here hx rfl (hb hby at_119) rfl κ) ?_
          obtain ⟨T27, X27, e27, st27⟩ := own_callP X24 hx hZ (y := (⟨"java/lang/Math", "max", "(II)I"⟩ : MethodName)) hown (hw _ (List.mem_of_getElem? (i := 33) rfl)) (hw _ (List.mem_of_getElem? (i := 34) rfl)) (hw _ (List.mem_of_getElem? (i := 35) rfl)) (hw _ (List.mem_of_getElem? (i := 36) rfl)) (rm8 l Z a0 hw (f8_0 (-1 : Int32) x1) x2 T18.heap) e24 (argsL := [(.int (f8_0 (-1 : Int32) x1)), (.int x2)]) (rest := []) (Ls := #[.val (.int x0), .val (.int x1), .val (.int x2), .val (.int x3), .val (.int (2 : Int32)), .val (.ref b14), .val (.ref b17), .val (.int (f8_0 (-1 : Int32) x1))]) (hb hby at_120) pd_5 0 (by rw [hml]; rfl) (by decide) rfl rfl rfl (Nat.le_of_eq rfl) (by decide) (by decide) (by decide) (by decide)
          refine own_go (S' := (T27.setTop (mkF m 123 #[.val (.int x0), .val (.int x1), .val (.int x2), .val (.int x3), .val (.int (2 : Int32)), .val (.ref b14), .val (.ref b17), .val (.int (f8_0 (-1 : Int32) x1))] [(.int (f8_0 (f8_0 (-1 : Int32) x1) x2))]))) st27 ?_
          refine own_go (S' := (T27.setTop (mkF m 125 #[.val (.int x0), .val (.int x1), .val (.int x2), .val (.int x3), .val (.int (2 : Int32)), .val (.ref b14), .val (.ref b17), .val (.int (f8_0 (f8_0 (-1 : Int32) x1) x2))] []))) (fun τ κ => XS.istore X27.here hx rfl (hb hby at_123) rfl (l' := #[.val (.int x0), .val (.int x1), .val (.int x2), .val (.int x3), .val (.int (2 : Int32)), .val (.ref b14), .val (.ref b17), .val (.int (f8_0 (f8_0 (-1 : Int32) x1) x2))]) rfl κ) ?_
          refine own_go (S' := (T27.setTop (mkF m 127 #[.val (.int x0), .val (.int x1), .val (.int x2), .val (.int x3), .val (.int (2 : Int32)), .val (.ref b14), .val (.ref b17), .val (.int (f8_0 (f8_0 (-1 : Int32) x1) x2))] [(.int (2 : Int32))]))) (fun τ κ => XS.iload X27.here hx rfl (hb hby at_125) rfl κ) ?_
          refine own_go (S' := (T27.setTop (mkF m 128 #[.val (.int x0), .val (.int x1), .val (.int x2), .val (.int x3), .val (.int (2 : Int32)), .val (.ref b14), .val (.ref b17), .val (.int (f8_0 (f8_0 (-1 : Int32) x1) x2))] [(.int (3 : Int32)), (.int (2 : Int32))]))) (fun τ κ => XT.iconstV X27.here hx rfl (3 : Int32) (hb hby at_127) (by decide) κ) ?_
          refine own_go (S' := (T27.setTop (mkF m 143 #[.val (.int x0), .val (.int x1), .val (.int x2), .val (.int x3), .val (.int (2 : Int32)), .val (.ref b14), .val (.ref b17), .val (.int (f8_0 (f8_0 (-1 : Int32) x1) x2))] []))) (fun τ κ => XS.icmpYes X27.here hx rfl (pc0 := 128) (pc' := 143) rfl (hb hby at_128) rfl (tlt (by decide)).1 (by decide) (by decide) κ) ?_
          refine own_go (S' := (T27.setTop (mkF m 145 #[.val (.int x0), .val (.int x1), .val (.int x2), .val (.int x3), .val (.int (2 : Int32)), .val (.ref b14), .val (.ref b17), .val (.int (f8_0 (f8_0 (-1 : Int32) x1) x2))] [(.ref b17)]))) (fun τ κ => XS.aload X27.here hx rfl (hb hby at_143) rfl rfl κ) ?_
          obtain ⟨v28, T28, L28, X28, hQ28, st28⟩ := own_callV (a := b17) X27 hx hZ (y := (⟨"com/example/twinhash/twinhash/shingle/ShingleSet", "largestCode", "()I"⟩ : MethodName)) hown (hw _ (List.mem_of_getElem? (i := 28) rfl)) (hw _ (List.mem_of_getElem? (i := 29) rfl)) (hw _ (List.mem_of_getElem? (i := 31) rfl)) (hw _ (List.mem_of_getElem? (i := 30) rfl)) (hw _ (List.mem_of_getElem? (i := 3) rfl)) (hw _ (List.mem_of_getElem? (i := 32) rfl)) (rm7 l Z a0 hw b17 b14 ys f T18.heap hf1 (by rw [hp.length_eq]; exact Nat.le_of_ble_eq_true rfl) F1 F2 A) e27 E0 (st := [(.ref b17)]) (argsL := []) (rest := []) (Ls := #[.val (.int x0), .val (.int x1), .val (.int x2), .val (.int x3), .val (.int (2 : Int32)), .val (.ref b14), .val (.ref b17), .val (.int (f8_0 (f8_0 (-1 : Int32) x1) x2))]) (hb hby at_145) pd_4 0 (by rw [hml]; rfl) (by decide) rfl rfl rfl (Nat.le_of_eq rfl) (by decide) (by decide) (by decide) (by decide)
          obtain ⟨rfl, rfl, e28⟩ := hQ28
          rw [List.append_nil] at X28
          refine own_go (S' := (T28.setTop (mkF m 148 #[.val (.int x0), .val (.int x1), .val (.int x2), .val (.int x3), .val (.int (2 : Int32)), .val (.ref b14), .val (.ref b17), .val (.int (f8_0 (f8_0 (-1 : Int32) x1) x2))] [(.int (own_large ys f))]))) st28 ?_
          refine own_go (S' := (T28.setTop (mkF m 150 #[.val (.int x0), .val (.int x1), .val (.int x2), .val (.int x3), .val (.int (2 : Int32)), .val (.ref b14), .val (.ref b17), .val (.int (f8_0 (f8_0 (-1 : Int32) x1) x2))] [(.int (f8_0 (f8_0 (-1 : Int32) x1) x2)), (.int (own_large ys f))]))) (fun τ κ => XS.iload X28.here hx rfl (hb hby at_148) rfl κ) ?_
          refine own_go (S' := (T28.setTop (mkF m 153 #[.val (.int x0), .val (.int x1), .val (.int x2), .val (.int x3), .val (.int (2 : Int32)), .val (.ref b14), .val (.ref b17), .val (.int (f8_0 (f8_0 (-1 : Int32) x1) x2))] []))) (fun τ κ => XS.icmpNo X28.here hx rfl (hb hby at_150) rfl (teq (own_ch_uniq (own_large_ch hp hs hf1 hf2 hf3) (own_ch_pos (own_ch_pos own_ch_nil hc96_19) hc114_25))).2 κ) ?_
          refine own_go (S' := (T28.setTop (mkF m 154 #[.val (.int x0), .val (.int x1), .val (.int x2), .val (.int x3), .val (.int (2 : Int32)), .val (.ref b14), .val (.ref b17), .val (.int (f8_0 (f8_0 (-1 : Int32) x1) x2))] [(.int (1 : Int32))]))) (fun τ κ => XT.iconstV X28.here hx rfl (1 : Int32) (hb hby at_153) (by decide) κ) ?_
          refine own_go (S' := (T28.setTop (mkF m 158 #[.val (.int x0), .val (.int x1), .val (.int x2), .val (.int x3), .val (.int (2 : Int32)), .val (.ref b14), .val (.ref b17), .val (.int (f8_0 (f8_0 (-1 : Int32) x1) x2))] [(.int (1 : Int32))]))) (fun τ κ => XS.goto X28.here hx rfl (pc0 := 154) (pc' := 158) rfl (hb hby at_154) (by decide) (by decide) κ) ?_
          exact own_retN X28 hx hret hlk (by simp) (hb hby at_158) (by first | rfl | decide) (by decide) (by decide) ⟨rfl, N18⟩
  · rw [hk]
    refine own_go (S' := (s₁.setTop (mkF m 7 #[.val (.int x0), .val (.int x1), .val (.int x2), .val (.int x3), .val (.int (3 : Int32)), .unset, .unset, .unset] [(.int (3 : Int32))]))) (fun τ κ => XS.iload X0.here hx rfl (hb hby at_5) rfl κ) ?_
    refine own_go (S' := (s₁.setTop (mkF m 8 #[.val (.int x0), .val (.int x1), .val (.int x2), .val (.int x3), .val (.int (3 : Int32)), .unset, .unset, .unset] [(.int (2 : Int32)), (.int (3 : Int32))]))) (fun τ κ => XT.iconstV X0.here hx rfl (2 : Int32) (hb hby at_7) (by decide) κ) ?_
    refine own_go (S' := (s₁.setTop (mkF m 11 #[.val (.int x0), .val (.int x1), .val (.int x2), .val (.int x3), .val (.int (3 : Int32)), .unset, .unset, .unset] []))) (fun τ κ => XS.icmpNo X0.here hx rfl (hb hby at_8) rfl (flt (by decide)).1 κ) ?_
    refine own_go (S' := (s₁.setTop (mkF m 12 #[.val (.int x0), .val (.int x1), .val (.int x2), .val (.int x3), .val (.int (3 : Int32)), .unset, .unset, .unset] [(.int x1)]))) (fun τ κ => XS.iloadN X0.here hx rfl (hb hby at_11) rfl κ) ?_
    refine own_go (S' := (s₁.setTop (mkF m 13 #[.val (.int x0), .val (.int x1), .val (.int x2), .val (.int x3), .val (.int (3 : Int32)), .unset, .unset, .unset] [(.int x2), (.int x1)]))) (fun τ κ => XS.iloadN X0.here hx rfl (hb hby at_12) rfl κ) ?_
    by_cases hc13_29 : x1 = x2
    ·
      refine own_go (S' := (s₁.setTop (mkF m 16 #[.val (.int x0), .val (.int x1), .val (.int x2), .val (.int x3), .val (.int (3 : Int32)), .unset, .unset, .unset] []))) (fun τ κ => XS.icmpNo X0.here hx rfl (hb hby at_13) rfl (teq hc13_29).2 κ) ?_
      refine own_go (S' := (s₁.setTop (mkF m 17 #[.val (.int x0), .val (.int x1), .val (.int x2), .val (.int x3), .val (.int (3 : Int32)), .unset, .unset, .unset] [(.int (1 : Int32))]))) (fun τ κ => XT.iconstV X0.here hx rfl (1 : Int32) (hb hby at_16) (by decide) κ) ?_
      exact own_retN X0 hx hret hlk (by simp) (hb hby at_17) (by first | rfl | decide) (by decide) (by decide) ⟨rfl, N0⟩
    ·
      refine own_go (S' := (s₁.setTop (mkF m 18 #[.val (.int x0), .val (.int x1), .val (.int x2), .val (.int x3), .val (.int (3 : Int32)), .unset, .unset, .unset] []))) (fun τ κ => XS.icmpYes X0.here hx rfl (pc0 := 13) (pc' := 18) rfl (hb hby at_13) rfl (feq hc13_29).2 (by decide) (by decide) κ) ?_
      refine own_go (S' := (s₁.setTop (mkF m 20 #[.val (.int x0), .val (.int x1), .val (.int x2), .val (.int x3), .val (.int (3 : Int32)), .unset, .unset, .unset] [(.int (3 : Int32))]))) (fun τ κ => XS.iload X0.here hx rfl (hb hby at_18) rfl κ) ?_
      refine own_go (S' := (s₁.setTop (mkF m 21 #[.val (.int x0), .val (.int x1), .val (.int x2), .val (.int x3), .val (.int (3 : Int32)), .unset, .unset, .unset] [(.int (3 : Int32)), (.int (3 : Int32))]))) (fun τ κ => XT.iconstV X0.here hx rfl (3 : Int32) (hb hby at_20) (by decide) κ) ?_
      refine own_go (S' := (s₁.setTop (mkF m 24 #[.val (.int x0), .val (.int x1), .val (.int x2), .val (.int x3), .val (.int (3 : Int32)), .unset, .unset, .unset] []))) (fun τ κ => XS.icmpNo X0.here hx rfl (hb hby at_21) rfl (flt (by decide)).1 κ) ?_
      refine own_go (S' := (s₁.setTop (mkF m 25 #[.val (.int x0), .val (.int x1), .val (.int x2), .val (.int x3), .val (.int (3 : Int32)), .unset, .unset, .unset] [(.int x1)]))) (fun τ κ => XS.iloadN X0.here hx rfl (hb hby at_24) rfl κ) ?_
      refine own_go (S' := (s₁.setTop (mkF m 26 #[.val (.int x0), .val (.int x1), .val (.int x2), .val (.int x3), .val (.int (3 : Int32)), .unset, .unset, .unset] [(.int x3), (.int x1)]))) (fun τ κ => XS.iloadN X0.here hx rfl (hb hby at_25) rfl κ) ?_
      by_cases hc26_30 : x1 = x3
      ·
        refine own_go (S' := (s₁.setTop (mkF m 34 #[.val (.int x0), .val (.int x1), .val (.int x2), .val (.int x3), .val (.int (3 : Int32)), .unset, .unset, .unset] []))) (fun τ κ => XS.icmpYes X0.here hx rfl (pc0 := 26) (pc' := 34) rfl (hb hby at_26) rfl (teq hc26_30).1 (by decide) (by decide) κ) ?_
        refine own_go (S' := (s₁.setTop (mkF m 35 #[.val (.int x0), .val (.int x1), .val (.int x2), .val (.int x3), .val (.int (3 : Int32)), .unset, .unset, .unset] [(.int (1 : Int32))]))) (fun τ κ => XT.iconstV X0.here hx rfl (1 : Int32) (hb hby at_34) (by decide) κ) ?_
        exact own_retN X0 hx hret hlk (by simp) (hb hby at_35) (by first | rfl | decide) (by decide) (by decide) ⟨rfl, N0⟩
      ·
        refine own_go (S' := (s₁.setTop (mkF m 29 #[.val (.int x0), .val (.int x1), .val (.int x2), .val (.int x3), .val (.int (3 : Int32)), .unset, .unset, .unset] []))) (fun τ κ => XS.icmpNo X0.here hx rfl (hb hby at_26) rfl (feq hc26_30).1 κ) ?_
        refine own_go (S' := (s₁.setTop (mkF m 30 #[.val (.int x0), .val (.int x1), .val (.int x2), .val (.int x3), .val (.int (3 : Int32)), .unset, .unset, .unset] [(.int x2)]))) (fun τ κ => XS.iloadN X0.here hx rfl (hb hby at_29) rfl κ) ?_
        refine own_go (S' := (s₁.setTop (mkF m 31 #[.val (.int x0), .val (.int x1), .val (.int x2), .val (.int x3), .val (.int (3 : Int32)), .unset, .unset, .unset] [(.int x3), (.int x2)]))) (fun τ κ => XS.iloadN X0.here hx rfl (hb hby at_30) rfl κ) ?_
        by_cases hc31_31 : x2 = x3
        ·
          refine own_go (S' := (s₁.setTop (mkF m 34 #[.val (.int x0), .val (.int x1), .val (.int x2), .val (.int x3), .val (.int (3 : Int32)), .unset, .unset, .unset] []))) (fun τ κ => XS.icmpNo X0.here hx rfl (hb hby at_31) rfl (teq hc31_31).2 κ) ?_
          refine own_go (S' := (s₁.setTop (mkF m 35 #[.val (.int x0), .val (.int x1), .val (.int x2), .val (.int x3), .val (.int (3 : Int32)), .unset, .unset, .unset] [(.int (1 : Int32))]))) (fun τ κ => XT.iconstV X0.here hx rfl (1 : Int32) (hb hby at_34) (by decide) κ) ?_
          exact own_retN X0 hx hret hlk (by simp) (hb hby at_35) (by first | rfl | decide) (by decide) (by decide) ⟨rfl, N0⟩
        ·
          refine own_go (S' := (s₁.setTop (mkF m 36 #[.val (.int x0), .val (.int x1), .val (.int x2), .val (.int x3), .val (.int (3 : Int32)), .unset, .unset, .unset] []))) (fun τ κ => XS.icmpYes X0.here hx rfl (pc0 := 31) (pc' := 36) rfl (hb hby at_31) rfl (feq hc31_31).2 (by decide) (by decide) κ) ?_
          refine own_go (S' := (s₁.setTop (mkF m 38 #[.val (.int x0), .val (.int x1), .val (.int x2), .val (.int x3), .val (.int (3 : Int32)), .unset, .unset, .unset] [(.int (3 : Int32))]))) (fun τ κ => XS.iload X0.here hx rfl (hb hby at_36) rfl κ) ?_
          obtain ⟨T32, h32, b32, X32, e32, E32, g32, A32, st32⟩ := own_newL (nn := (3 : Int32)) (len := 3) (Ls := #[.val (.int x0), .val (.int x1), .val (.int x2), .val (.int x3), .val (.int (3 : Int32)), .unset, .unset, .unset]) (rest := []) X0 hx hZ (hw _ (List.mem_of_getElem? (i := 0) rfl)) e0 (hb hby at_38) (by decide) (by decide) (cap := 3) (by decide) (by decide) (by decide) (by decide)
          have gn32 : n0 ≤ b32 := g32 ▸ Z0
          have sz32 : n0 ≤ h32.size := Nat.le_trans Z0 E32.1
          replace A32 := A32.eq (vs' := [(.int (0 : Int32)), (.int (0 : Int32)), (.int (0 : Int32))]) rfl
          refine own_go (S' := (T32.setTop (mkF m 40 #[.val (.int x0), .val (.int x1), .val (.int x2), .val (.int x3), .val (.int (3 : Int32)), .unset, .unset, .unset] [(.ref b32)]))) st32 ?_
          refine own_go (S' := (T32.setTop (mkF m 42 #[.val (.int x0), .val (.int x1), .val (.int x2), .val (.int x3), .val (.int (3 : Int32)), .val (.ref b32), .unset, .unset] []))) (fun τ κ => XS.astore X32.here hx rfl (hb hby at_40) rfl rfl (l' := #[.val (.int x0), .val (.int x1), .val (.int x2), .val (.int x3), .val (.int (3 : Int32)), .val (.ref b32), .unset, .unset]) rfl κ) ?_
          refine own_go (S' := (T32.setTop (mkF m 44 #[.val (.int x0), .val (.int x1), .val (.int x2), .val (.int x3), .val (.int (3 : Int32)), .val (.ref b32), .unset, .unset] [(.int (3 : Int32))]))) (fun τ κ => XS.iload X32.here hx rfl (hb hby at_42) rfl κ) ?_
          refine own_go (S' := (T32.setTop (mkF m 45 #[.val (.int x0), .val (.int x1), .val (.int x2), .val (.int x3), .val (.int (3 : Int32)), .val (.ref b32), .unset, .unset] [(.int (1 : Int32)), (.int (3 : Int32))]))) (fun τ κ => XT.iconstV X32.here hx rfl (1 : Int32) (hb hby at_44) (by decide) κ) ?_
          refine own_go (S' := (T32.setTop (mkF m 48 #[.val (.int x0), .val (.int x1), .val (.int x2), .val (.int x3), .val (.int (3 : Int32)), .val (.ref b32), .unset, .unset] []))) (fun τ κ => XS.icmpNo X32.here hx rfl (hb hby at_45) rfl (flt (by decide)).1 κ) ?_
          refine own_go (S' := (T32.setTop (mkF m 50 #[.val (.int x0), .val (.int x1), .val (.int x2), .val (.int x3), .val (.int (3 : Int32)), .val (.ref b32), .unset, .unset] [(.ref b32)]))) (fun τ κ => XS.aload X32.here hx rfl (hb hby at_48) rfl rfl κ) ?_
          refine own_go (S' := (T32.setTop (mkF m 51 #[.val (.int x0), .val (.int x1), .val (.int x2), .val (.int x3), .val (.int (3 : Int32)), .val (.ref b32), .unset, .unset] [(.int (0 : Int32)), (.ref b32)]))) (fun τ κ => XT.iconstV X32.here hx rfl (0 : Int32) (hb hby at_50) (by decide) κ) ?_
          refine own_go (S' := (T32.setTop (mkF m 52 #[.val (.int x0), .val (.int x1), .val (.int x2), .val (.int x3), .val (.int (3 : Int32)), .val (.ref b32), .unset, .unset] [(.int x1), (.int (0 : Int32)), (.ref b32)]))) (fun τ κ => XS.iloadN X32.here hx rfl (hb hby at_51) rfl κ) ?_
          obtain ⟨T33, h33, X33, e33, W33, B33, st33⟩ := own_iastore (j := (0 : Int32)) (x := x1) (Ls := #[.val (.int x0), .val (.int x1), .val (.int x2), .val (.int x3), .val (.int (3 : Int32)), .val (.ref b32), .unset, .unset]) (rest := []) A32 X32 hx hZ e32 (by decide) (i := 0) (by decide) (Nat.le_of_ble_eq_true rfl) (hb hby at_52)
          replace A32 := B33.eq (vs' := [(.int x1), (.int (0 : Int32)), (.int (0 : Int32))]) rfl
          have N33 := Fr.snoc X33 N0 gn32
          have sz33 : n0 ≤ h33.size := W33.size ▸ sz32
          refine own_go (S' := (T33.setTop (mkF m 53 #[.val (.int x0), .val (.int x1), .val (.int x2), .val (.int x3), .val (.int (3 : Int32)), .val (.ref b32), .unset, .unset] []))) st33 ?_
          refine own_go (S' := (T33.setTop (mkF m 55 #[.val (.int x0), .val (.int x1), .val (.int x2), .val (.int x3), .val (.int (3 : Int32)), .val (.ref b32), .unset, .unset] [(.int (3 : Int32))]))) (fun τ κ => XS.iload X33.here hx rfl (hb hby at_53) rfl κ) ?_
          refine own_go (S' := (T33.setTop (mkF m 56 #[.val (.int x0), .val (.int x1), .val (.int x2), .val (.int x3), .val (.int (3 : Int32)), .val (.ref b32), .unset, .unset] [(.int (2 : Int32)), (.int (3 : Int32))]))) (fun τ κ => XT.iconstV X33.here hx rfl (2 : Int32) (hb hby at_55) (by decide) κ) ?_
          refine own_go (S' := (T33.setTop (mkF m 59 #[.val (.int x0), .val (.int x1), .val (.int x2), .val (.int x3), .val (.int (3 : Int32)), .val (.ref b32), .unset, .unset] []))) (fun τ κ => XS.icmpNo X33.here hx rfl (hb hby at_56) rfl (flt (by decide)).1 κ) ?_
          refine own_go (S' := (T33.setTop (mkF m 61 #[.val (.int x0), .val (.int x1), .val (.int x2), .val (.int x3), .val (.int (3 : Int32)), .val (.ref b32), .unset, .unset] [(.ref b32)]))) (fun τ κ => XS.aload X33.here hx rfl (hb hby at_59) rfl rfl κ) ?_
          refine own_go (S' := (T33.setTop (mkF m 62 #[.val (.int x0), .val (.int x1), .val (.int x2), .val (.int x3), .val (.int (3 : Int32)), .val (.ref b32), .unset, .unset] [(.int (1 : Int32)), (.ref b32)]))) (fun τ κ => XT.iconstV X33.here hx rfl (1 : Int32) (hb hby at_61) (by decide) κ) ?_
          refine own_go (S' := (T33.setTop (mkF m 63 #[.val (.int x0), .val (.int x1), .val (.int x2), .val (.int x3), .val (.int (3 : Int32)), .val (.ref b32), .unset, .unset] [(.int x2), (.int (1 : Int32)), (.ref b32)]))) (fun τ κ => XS.iloadN X33.here hx rfl (hb hby at_62) rfl κ) ?_
          obtain ⟨T34, h34, X34, e34, W34, B34, st34⟩ := own_iastore (j := (1 : Int32)) (x := x2) (Ls := #[.val (.int x0), .val (.int x1), .val (.int x2), .val (.int x3), .val (.int (3 : Int32)), .val (.ref b32), .unset, .unset]) (rest := []) A32 X33 hx hZ e33 (by decide) (i := 1) (by decide) (Nat.le_of_ble_eq_true rfl) (hb hby at_63)
          replace A32 := B34.eq (vs' := [(.int x1), (.int x2), (.int (0 : Int32))]) rfl
          have N34 := Fr.snoc X34 N33 gn32
          have sz34 : n0 ≤ h34.size := W34.size ▸ sz33
          refine own_go (S' := (T34.setTop (mkF m 64 #[.val (.int x0), .val (.int x1), .val (.int x2), .val (.int x3), .val (.int (3 : Int32)), .val (.ref b32), .unset, .unset] []))) st34 ?_
          refine own_go (S' := (T34.setTop (mkF m 66 #[.val (.int x0), .val (.int x1), .val (.int x2), .val (.int x3), .val (.int (3 : Int32)), .val (.ref b32), .unset, .unset] [(.int (3 : Int32))]))) (fun τ κ => XS.iload X34.here hx rfl (hb hby at_64) rfl κ) ?_
          refine own_go (S' := (T34.setTop (mkF m 67 #[.val (.int x0), .val (.int x1), .val (.int x2), .val (.int x3), .val (.int (3 : Int32)), .val (.ref b32), .unset, .unset] [(.int (3 : Int32)), (.int (3 : Int32))]))) (fun τ κ => XT.iconstV X34.here hx rfl (3 : Int32) (hb hby at_66) (by decide) κ) ?_
          refine own_go (S' := (T34.setTop (mkF m 70 #[.val (.int x0), .val (.int x1), .val (.int x2), .val (.int x3), .val (.int (3 : Int32)), .val (.ref b32), .unset, .unset] []))) (fun τ κ => XS.icmpNo X34.here hx rfl (hb hby at_67) rfl (flt (by decide)).1 κ) ?_
          refine own_go (S' := (T34.setTop (mkF m 72 #[.val (.int x0), .val (.int x1), .val (.int x2), .val (.int x3), .val (.int (3 : Int32)), .val (.ref b32), .unset, .unset] [(.ref b32)]))) (fun τ κ => XS.aload X34.here hx rfl (hb hby at_70) rfl rfl κ) ?_
          refine own_go (S' := (T34.setTop (mkF m 73 #[.val (.int x0), .val (.int x1), .val (.int x2), .val (.int x3), .val (.int (3 : Int32)), .val (.ref b32), .unset, .unset] [(.int (2 : Int32)), (.ref b32)]))) (fun τ κ => XT.iconstV X34.here hx rfl (2 : Int32) (hb hby at_72) (by decide) κ) ?_
          refine own_go (S' := (T34.setTop (mkF m 74 #[.val (.int x0), .val (.int x1), .val (.int x2), .val (.int x3), .val (.int (3 : Int32)), .val (.ref b32), .unset, .unset] [(.int x3), (.int (2 : Int32)), (.ref b32)]))) (fun τ κ => XS.iloadN X34.here hx rfl (hb hby at_73) rfl κ) ?_
          obtain ⟨T35, h35, X35, e35, W35, B35, st35⟩ := own_iastore (j := (2 : Int32)) (x := x3) (Ls := #[.val (.int x0), .val (.int x1), .val (.int x2), .val (.int x3), .val (.int (3 : Int32)), .val (.ref b32), .unset, .unset]) (rest := []) A32 X34 hx hZ e34 (by decide) (i := 2) (by decide) (Nat.le_of_ble_eq_true rfl) (hb hby at_74)
          replace A32 := B35.eq (vs' := [(.int x1), (.int x2), (.int x3)]) rfl
          have N35 := Fr.snoc X35 N34 gn32
          have sz35 : n0 ≤ h35.size := W35.size ▸ sz34
          refine own_go (S' := (T35.setTop (mkF m 75 #[.val (.int x0), .val (.int x1), .val (.int x2), .val (.int x3), .val (.int (3 : Int32)), .val (.ref b32), .unset, .unset] []))) st35 ?_
          have lt36_A32 := A32.lt
          obtain ⟨T36, h36, X36, e36, E36, A36, D36, -, st36⟩ := newO X35 hx hZ hown (hw _ (List.mem_of_getElem? (i := 1) rfl)) (hw _ (List.mem_of_getElem? (i := 2) rfl)) (hw _ (List.mem_of_getElem? (i := 3) rfl)) e35 (g := (mkF m 75 #[.val (.int x0), .val (.int x1), .val (.int x2), .val (.int x3), .val (.int (3 : Int32)), .val (.ref b32), .unset, .unset] [])) rfl (hb hby at_75) (by decide) (by decide)
          obtain ⟨b36, g36⟩ : ∃ z, z = h35.size := ⟨_, rfl⟩
          rw [← g36] at A36 D36 st36
          replace A32 := A32.ext E36
          have ne36_A32 : b32 ≠ b36 := Nat.ne_of_lt (g36 ▸ lt36_A32)
          have gn36 : n0 ≤ b36 := g36 ▸ sz35
          have sz36 : n0 ≤ h36.size := Nat.le_trans sz35 E36.1
          have F36_codes : Fld Z h36 b36 "com/example/twinhash/twinhash/shingle/ShingleSet" "codes" "[I" .null := D36 (Or.inr (hw _ (List.mem_of_getElem? (i := 25) rfl))) (ty := (.array .int)) (by decide)
          have F36_firstSeen : Fld Z h36 b36 "com/example/twinhash/twinhash/shingle/ShingleSet" "firstSeen" "I" (.int (0 : Int32)) := D36 (Or.inr (hw _ (List.mem_of_getElem? (i := 27) rfl))) (ty := .int) (by decide)
          refine own_go (S' := (T36.setTop (mkF m 78 #[.val (.int x0), .val (.int x1), .val (.int x2), .val (.int x3), .val (.int (3 : Int32)), .val (.ref b32), .unset, .unset] [(.ref b36)]))) st36 ?_
          refine own_go (S' := (T36.setTop (mkF m 79 #[.val (.int x0), .val (.int x1), .val (.int x2), .val (.int x3), .val (.int (3 : Int32)), .val (.ref b32), .unset, .unset] [(.ref b36), (.ref b36)]))) (fun τ κ => XS.dup X36.here hx rfl (hb hby at_78) rfl rfl κ) ?_
          refine own_go (S' := (T36.setTop (mkF m 81 #[.val (.int x0), .val (.int x1), .val (.int x2), .val (.int x3), .val (.int (3 : Int32)), .val (.ref b32), .unset, .unset] [(.ref b32), (.ref b36), (.ref b36)]))) (fun τ κ => XS.aload X36.here hx rfl (hb hby at_79) rfl rfl κ) ?_
          replace A32 := A32.eq (vs' := List.map Value.int [x1, x2, x3]) rfl
          obtain ⟨v37, T37, L37, X37, hQ37, st37⟩ := own_callI (a := b36) X36 hx hZ (y := (⟨"com/example/twinhash/twinhash/shingle/ShingleSet", "<init>", "([I)V"⟩ : MethodName)) rfl hown (hw _ (List.mem_of_getElem? (i := 4) rfl)) (hw _ (List.mem_of_getElem? (i := 5) rfl)) (hw _ (List.mem_of_getElem? (i := 3) rfl)) (hw _ (List.mem_of_getElem? (i := 6) rfl)) (rm1 l Z a0 hw b36 b32 [x1, x2, x3] h36 n0 gn36 gn32 (Ne.symm ne36_A32) (Nat.le_of_ble_eq_true rfl) A36 F36_codes F36_firstSeen A32) e36 (st := [(.ref b32), (.ref b36), (.ref b36)]) (argsL := [(.ref b32)]) (rest := [(.ref b36)]) (Ls := #[.val (.int x0), .val (.int x1), .val (.int x2), .val (.int x3), .val (.int (3 : Int32)), .val (.ref b32), .unset, .unset]) (hb hby at_81) pd_3 1 (by rw [hml]; rfl) (by decide) rfl rfl rfl (Nat.le_of_eq rfl) (by decide) (by decide) (by decide) (by decide)
          obtain ⟨rfl, Nq37, ys, f, hp, hs, hf1, hf2, hf3, E0, F1, F2, A, K⟩ := hQ37
          have N37 := Fr.app N35 Nq37
          refine own_go (S' := (T37.setTop (mkF m 84 #[.val (.int x0), .val (.int x1), .val (.int x2), .val (.int x3), .val (.int (3 : Int32)), .val (.ref b32), .unset, .unset] [(.ref b36)]))) st37 ?_
          refine own_go (S' := (T37.setTop (mkF m 86 #[.val (.int x0), .val (.int x1), .val (.int x2), .val (.int x3), .val (.int (3 : Int32)), .val (.ref b32), .val (.ref b36), .unset] []))) (fun τ κ => XS.astore X37.here hx rfl (hb hby at_84) rfl rfl (l' := #[.val (.int x0), .val (.int x1), .val (.int x2), .val (.int x3), .val (.int (3 : Int32)), .val (.ref b32), .val (.ref b36), .unset]) rfl κ) ?_
          refine own_go (S' := (T37.setTop (mkF m 87 #[.val (.int x0), .val (.int x1), .val (.int x2), .val (.int x3), .val (.int (3 : Int32)), .val (.ref b32), .val (.ref b36), .unset] [(.int (-1 : Int32))]))) (fun τ κ => XT.iconstV X37.here hx rfl (-1 : Int32) (hb hby at_86) (by decide) κ) ?_
          refine own_go (S' := (T37.setTop (mkF m 89 #[.val (.int x0), .val (.int x1), .val (.int x2), .val (.int x3), .val (.int (3 : Int32)), .val (.ref b32), .val (.ref b36), .val (.int (-1 : Int32))] []))) (fun τ κ => XS.istore X37.here hx rfl (hb hby at_87) rfl (l' := #[.val (.int x0), .val (.int x1), .val (.int x2), .val (.int x3), .val (.int (3 : Int32)), .val (.ref b32), .val (.ref b36), .val (.int (-1 : Int32))]) rfl κ) ?_
          refine own_go (S' := (T37.setTop (mkF m 91 #[.val (.int x0), .val (.int x1), .val (.int x2), .val (.int x3), .val (.int (3 : Int32)), .val (.ref b32), .val (.ref b36), .val (.int (-1 : Int32))] [(.int (3 : Int32))]))) (fun τ κ => XS.iload X37.here hx rfl (hb hby at_89) rfl κ) ?_
          refine own_go (S' := (T37.setTop (mkF m 92 #[.val (.int x0), .val (.int x1), .val (.int x2), .val (.int x3), .val (.int (3 : Int32)), .val (.ref b32), .val (.ref b36), .val (.int (-1 : Int32))] [(.int (1 : Int32)), (.int (3 : Int32))]))) (fun τ κ => XT.iconstV X37.here hx rfl (1 : Int32) (hb hby at_91) (by decide) κ) ?_
          refine own_go (S' := (T37.setTop (mkF m 95 #[.val (.int x0), .val (.int x1), .val (.int x2), .val (.int x3), .val (.int (3 : Int32)), .val (.ref b32), .val (.ref b36), .val (.int (-1 : Int32))] []))) (fun τ κ => XS.icmpNo X37.here hx rfl (hb hby at_92) rfl (flt (by decide)).1 κ) ?_
          refine own_go (S' := (T37.setTop (mkF m 96 #[.val (.int x0), .val (.int x1), .val (.int x2), .val (.int x3), .val (.int (3 : Int32)), .val (.ref b32), .val (.ref b36), .val (.int (-1 : Int32))] [(.int x1)]))) (fun τ κ => XS.iloadN X37.here hx rfl (hb hby at_95) rfl κ) ?_
          by_cases hc96_38 : x1 < (0 : Int32)
          ·
            refine own_go (S' := (T37.setTop (mkF m 107 #[.val (.int x0), .val (.int x1), .val (.int x2), .val (.int x3), .val (.int (3 : Int32)), .val (.ref b32), .val (.ref b36), .val (.int (-1 : Int32))] []))) (fun τ κ => XS.ifYes X37.here hx rfl (pc0 := 96) (pc' := 107) rfl (hb hby at_96) rfl ((if0 _ _).trans (tlt hc96_38).1) (by decide) (by decide) κ) ?_
            refine own_go (S' := (T37.setTop (mkF m 109 #[.val (.int x0), .val (.int x1), .val (.int x2), .val (.int x3), .val (.int (3 : Int32)), .val (.ref b32), .val (.ref b36), .val (.int (-1 : Int32))] [(.int (3 : Int32))]))) (fun τ κ => XS.iload X37.here hx rfl (hb hby at_107) rfl κ) ?_
            refine own_go (S' := (T37.setTop (mkF m 110 #[.val (.int x0), .val (.int x1), .val (.int x2), .val (.int x3), .val (.int (3 : Int32)), .val (.ref b32), .val (.ref b36), .val (.int (-1 : Int32))] [(.int (2 : Int32)), (.int (3 : Int32))]))) (fun τ κ => XT.iconstV X37.here hx rfl (2 : Int32) (hb hby at_109) (by decide) κ) ?_
            refine own_go (S' := (T37.setTop (mkF m 113 #[.val (.int x0), .val (.int x1), .val (.int x2), .val (.int x3), .val (.int (3 : Int32)), .val (.ref b32), .val (.ref b36), .val (.int (-1 : Int32))] []))) (fun τ κ => XS.icmpNo X37.here hx rfl (hb hby at_110) rfl (flt (by decide)).1 κ) ?_
            refine own_go (S' := (T37.setTop (mkF m 114 #[.val (.int x0), .val (.int x1), .val (.int x2), .val (.int x3), .val (.int (3 : Int32)), .val (.ref b32), .val (.ref b36), .val (.int (-1 : Int32))] [(.int x2)]))) (fun τ κ => XS.iloadN X37.here hx rfl (hb hby at_113) rfl κ) ?_
            by_cases hc114_39 : x2 < (0 : Int32)
            ·
              refine own_go (S' := (T37.setTop (mkF m 125 #[.val (.int x0), .val (.int x1), .val (.int x2), .val (.int x3), .val (.int (3 : Int32)), .val (.ref b32), .val (.ref b36), .val (.int (-1 : Int32))] []))) (fun τ κ => XS.ifYes X37.here hx rfl (pc0 := 114) (pc' := 125) rfl (hb hby at_114) rfl ((if0 _ _).trans (tlt hc114_39).1) (by decide) (by decide) κ) ?_
              refine own_go (S' := (T37.setTop (mkF m 127 #[.val (.int x0), .val (.int x1), .val (.int x2), .val (.int x3), .val (.int (3 : Int32)), .val (.ref b32), .val (.ref b36), .val (.int (-1 : Int32))] [(.int (3 : Int32))]))) (fun τ κ => XS.iload X37.here hx rfl (hb hby at_125) rfl κ) ?_
              refine own_go (S' := (T37.setTop (mkF m 128 #[.val (.int x0), .val (.int x1), .val (.int x2), .val (.int x3), .val (.int (3 : Int32)), .val (.ref b32), .val (.ref b36), .val (.int (-1 : Int32))] [(.int (3 : Int32)), (.int (3 : Int32))]))) (fun τ κ => XT.iconstV X37.here hx rfl (3 : Int32) (hb hby at_127) (by decide) κ) ?_
              refine own_go (S' := (T37.setTop (mkF m 131 #[.val (.int x0), .val (.int x1), .val (.int x2), .val (.int x3), .val (.int (3 : Int32)), .val (.ref b32), .val (.ref b36), .val (.int (-1 : Int32))] []))) (fun τ κ => XS.icmpNo X37.here hx rfl (hb hby at_128) rfl (flt (by decide)).1 κ) ?_
              refine own_go (S' := (T37.setTop (mkF m 132 #[.val (.int x0), .val (.int x1), .val (.int x2), .val (.int x3), .val (.int (3 : Int32)), .val (.ref b32), .val (.ref b36), .val (.int (-1 : Int32))] [(.int x3)]))) (fun τ κ => XS.iloadN X37.here hx rfl (hb hby at_131) rfl κ) ?_
              by_cases hc132_40 : x3 < (0 : Int32)
              ·
                refine own_go (S' := (T37.setTop (mkF m 143 #[.val (.int x0), .val (.int x1), .val (.int x2), .val (.int x3), .val (.int (3 : Int32)), .val (.ref b32), .val (.ref b36), .val (.int (-1 : Int32))] []))) (fun τ κ => XS.ifYes X37.here hx rfl (pc0 := 132) (pc' := 143) rfl (hb hby at_132) rfl ((if0 _ _).trans (tlt hc132_40).1) (by decide) (by decide) κ) ?_
                refine own_go (S' := (T37.setTop (mkF m 145 #[.val (.int x0), .val (.int x1), .val (.int x2), .val (.int x3), .val (.int (3 : Int32)), .val (.ref b32), .val (.ref b36), .val (.int (-1 : Int32))] [(.ref b36)]))) (fun τ κ => XS.aload X37.here hx rfl (hb hby at_143) rfl rfl κ) ?_
                obtain ⟨v41, T41, L41, X41, hQ41, st41⟩ := own_callV (a := b36) X37 hx hZ (y := (⟨"com/example/twinhash/twinhash/shingle/ShingleSet", "largestCode", "()I"⟩ : MethodName)) hown (hw _ (List.mem_of_getElem? (i := 28) rfl)) (hw _ (List.mem_of_getElem? (i := 29) rfl)) (hw _ (List.mem_of_getElem? (i := 31) rfl)) (hw _ (List.mem_of_getElem? (i := 30) rfl)) (hw _ (List.mem_of_getElem? (i := 3) rfl)) (hw _ (List.mem_of_getElem? (i := 32) rfl)) (rm7 l Z a0 hw b36 b32 ys f T37.heap hf1 (by rw [hp.length_eq]; exact Nat.le_of_ble_eq_true rfl) F1 F2 A) rfl E0 (st := [(.ref b36)]) (argsL := []) (rest := []) (Ls := #[.val (.int x0), .val (.int x1), .val (.int x2), .val (.int x3), .val (.int (3 : Int32)), .val (.ref b32), .val (.ref b36), .val (.int (-1 : Int32))]) (hb hby at_145) pd_4 0 (by rw [hml]; rfl) (by decide) rfl rfl rfl (Nat.le_of_eq rfl) (by decide) (by decide) (by decide) (by decide)
                obtain ⟨rfl, rfl, e41⟩ := hQ41
                rw [List.append_nil] at X41
                refine own_go (S' := (T41.setTop (mkF m 148 #[.val (.int x0), .val (.int x1), .val (.int x2), .val (.int x3), .val (.int (3 : Int32)), .val (.ref b32), .val (.ref b36), .val (.int (-1 : Int32))] [(.int (own_large ys f))]))) st41 ?_
                refine own_go (S' := (T41.setTop (mkF m 150 #[.val (.int x0), .val (.int x1), .val (.int x2), .val (.int x3), .val (.int (3 : Int32)), .val (.ref b32), .val (.ref b36), .val (.int (-1 : Int32))] [(.int (-1 : Int32)), (.int (own_large ys f))]))) (fun τ κ => XS.iload X41.here hx rfl (hb hby at_148) rfl κ) ?_
                refine own_go (S' := (T41.setTop (mkF m 153 #[.val (.int x0), .val (.int x1), .val (.int x2), .val (.int x3), .val (.int (3 : Int32)), .val (.ref b32), .val (.ref b36), .val (.int (-1 : Int32))] []))) (fun τ κ => XS.icmpNo X41.here hx rfl (hb hby at_150) rfl (teq (own_ch_uniq (own_large_ch hp hs hf1 hf2 hf3) (own_ch_neg (own_ch_neg (own_ch_neg own_ch_nil hc96_38) hc114_39) hc132_40))).2 κ) ?_
                refine own_go (S' := (T41.setTop (mkF m 154 #[.val (.int x0), .val (.int x1), .val (.int x2), .val (.int x3), .val (.int (3 : Int32)), .val (.ref b32), .val (.ref b36), .val (.int (-1 : Int32))] [(.int (1 : Int32))]))) (fun τ κ => XT.iconstV X41.here hx rfl (1 : Int32) (hb hby at_153) (by decide) κ) ?_
                refine own_go (S' := (T41.setTop (mkF m 158 #[.val (.int x0), .val (.int x1), .val (.int x2), .val (.int x3), .val (.int (3 : Int32)), .val (.ref b32), .val (.ref b36), .val (.int (-1 : Int32))] [(.int (1 : Int32))]))) (fun τ κ => XS.goto X41.here hx rfl (pc0 := 154) (pc' := 158) rfl (hb hby at_154) (by decide) (by decide) κ) ?_
                exact own_retN X41 hx hret hlk (by simp) (hb hby at_158) (by first | rfl | decide) (by decide) (by decide) ⟨rfl, N37⟩
              ·
                refine own_go (S' := (T37.setTop (mkF m 135 #[.val (.int x0), .val (.int x1), .val (.int x2), .val (.int x3), .val (.int (3 : Int32)), .val (.ref b32), .val (.ref b36), .val (.int (-1 : Int32))] []))) (fun τ κ => XS.ifNo X37.here hx rfl (hb hby at_132) rfl ((if0 _ _).trans (flt hc132_40).1) κ) ?_
                refine own_go (S' := (T37.setTop (mkF m 137 #[.val (.int x0), .val (.int x1), .val (.int x2), .val (.int x3), .val (.int (3 : Int32)), .val (.ref b32), .val (.ref b36), .val (.int (-1 : Int32))] [(.int (-1 : Int32))]))) (fun τ κ => XS.iload X37.here hx rfl (hb hby at_135) rfl κ) ?_
                refine own_go (S' := (T37.setTop (mkF m 138 #[.val (.int x0), .val (.int x1), .val (.int x2), .val (.int x3), .val (.int (3 : Int32)), .val (.ref b32), .val (.ref b36), .val (.int (-1 : Int32))] [(.int x3), (.int (-1 : Int32))]))) (fun τ κ => XS.iloadN X37.here hx rfl (hb hby at_137) rfl κ) ?_
                obtain ⟨T42, X42, e42, st42⟩ := own_callP X37 hx hZ (y := (⟨"java/lang/Math", "max", "(II)I"⟩ : MethodName)) hown (hw _ (List.mem_of_getElem? (i := 33) rfl)) (hw _ (List.mem_of_getElem? (i := 34) rfl)) (hw _ (List.mem_of_getElem? (i := 35) rfl)) (hw _ (List.mem_of_getElem? (i := 36) rfl)) (rm8 l Z a0 hw (-1 : Int32) x3 T37.heap) rfl (argsL := [(.int (-1 : Int32)), (.int x3)]) (rest := []) (Ls := #[.val (.int x0), .val (.int x1), .val (.int x2), .val (.int x3), .val (.int (3 : Int32)), .val (.ref b32), .val (.ref b36), .val (.int (-1 : Int32))]) (hb hby at_138) pd_5 0 (by rw [hml]; rfl) (by decide) rfl rfl rfl (Nat.le_of_eq rfl) (by decide) (by decide) (by decide) (by decide)
                refine own_go (S' := (T42.setTop (mkF m 141 #[.val (.int x0), .val (.int x1), .val (.int x2), .val (.int x3), .val (.int (3 : Int32)), .val (.ref b32), .val (.ref b36), .val (.int (-1 : Int32))] [(.int (f8_0 (-1 : Int32) x3))]))) st42 ?_
                refine own_go (S' := (T42.setTop (mkF m 143 #[.val (.int x0), .val (.int x1), .val (.int x2), .val (.int x3), .val (.int (3 : Int32)), .val (.ref b32), .val (.ref b36), .val (.int (f8_0 (-1 : Int32) x3))] []))) (fun τ κ => XS.istore X42.here hx rfl (hb hby at_141) rfl (l' := #[.val (.int x0), .val (.int x1), .val (.int x2), .val (.int x3), .val (.int (3 : Int32)), .val (.ref b32), .val (.ref b36), .val (.int (f8_0 (-1 : Int32) x3))]) rfl κ) ?_
                refine own_go (S' := (T42.setTop (mkF m 145 #[.val (.int x0), .val (.int x1), .val (.int x2), .val (.int x3), .val (.int (3 : Int32)), .val (.ref b32), .val (.ref b36), .val (.int (f8_0 (-1 : Int32) x3))] [(.ref b36)]))) (fun τ κ => XS.aload X42.here hx rfl (hb hby at_143) rfl rfl κ) ?_
                obtain ⟨v43, T43, L43, X43, hQ43, st43⟩ := own_callV (a := b36) X42 hx hZ (y := (⟨"com/example/twinhash/twinhash/shingle/ShingleSet", "largestCode", "()I"⟩ : MethodName)) hown (hw _ (List.mem_of_getElem? (i := 28) rfl)) (hw _ (List.mem_of_getElem? (i := 29) rfl)) (hw _ (List.mem_of_getElem? (i := 31) rfl)) (hw _ (List.mem_of_getElem? (i := 30) rfl)) (hw _ (List.mem_of_getElem? (i := 3) rfl)) (hw _ (List.mem_of_getElem? (i := 32) rfl)) (rm7 l Z a0 hw b36 b32 ys f T37.heap hf1 (by rw [hp.length_eq]; exact Nat.le_of_ble_eq_true rfl) F1 F2 A) e42 E0 (st := [(.ref b36)]) (argsL := []) (rest := []) (Ls := #[.val (.int x0), .val (.int x1), .val (.int x2), .val (.int x3), .val (.int (3 : Int32)), .val (.ref b32), .val (.ref b36), .val (.int (f8_0 (-1 : Int32) x3))]) (hb hby at_145) pd_4 0 (by rw [hml]; rfl) (by decide) rfl rfl rfl (Nat.le_of_eq rfl) (by decide) (by decide) (by decide) (by decide)
                obtain ⟨rfl, rfl, e43⟩ := hQ43
                rw [List.append_nil] at X43
                refine own_go (S' := (T43.setTop (mkF m 148 #[.val (.int x0), .val (.int x1), .val (.int x2), .val (.int x3), .val (.int (3 : Int32)), .val (.ref b32), .val (.ref b36), .val (.int (f8_0 (-1 : Int32) x3))] [(.int (own_large ys f))]))) st43 ?_
                refine own_go (S' := (T43.setTop (mkF m 150 #[.val (.int x0), .val (.int x1), .val (.int x2), .val (.int x3), .val (.int (3 : Int32)), .val (.ref b32), .val (.ref b36), .val (.int (f8_0 (-1 : Int32) x3))] [(.int (f8_0 (-1 : Int32) x3)), (.int (own_large ys f))]))) (fun τ κ => XS.iload X43.here hx rfl (hb hby at_148) rfl κ) ?_
                refine own_go (S' := (T43.setTop (mkF m 153 #[.val (.int x0), .val (.int x1), .val (.int x2), .val (.int x3), .val (.int (3 : Int32)), .val (.ref b32), .val (.ref b36), .val (.int (f8_0 (-1 : Int32) x3))] []))) (fun τ κ => XS.icmpNo X43.here hx rfl (hb hby at_150) rfl (teq (own_ch_uniq (own_large_ch hp hs hf1 hf2 hf3) (own_ch_pos (own_ch_neg (own_ch_neg own_ch_nil hc96_38) hc114_39) hc132_40))).2 κ) ?_
                refine own_go (S' := (T43.setTop (mkF m 154 #[.val (.int x0), .val (.int x1), .val (.int x2), .val (.int x3), .val (.int (3 : Int32)), .val (.ref b32), .val (.ref b36), .val (.int (f8_0 (-1 : Int32) x3))] [(.int (1 : Int32))]))) (fun τ κ => XT.iconstV X43.here hx rfl (1 : Int32) (hb hby at_153) (by decide) κ) ?_
                refine own_go (S' := (T43.setTop (mkF m 158 #[.val (.int x0), .val (.int x1), .val (.int x2), .val (.int x3), .val (.int (3 : Int32)), .val (.ref b32), .val (.ref b36), .val (.int (f8_0 (-1 : Int32) x3))] [(.int (1 : Int32))]))) (fun τ κ => XS.goto X43.here hx rfl (pc0 := 154) (pc' := 158) rfl (hb hby at_154) (by decide) (by decide) κ) ?_
                exact own_retN X43 hx hret hlk (by simp) (hb hby at_158) (by first | rfl | decide) (by decide) (by decide) ⟨rfl, N37⟩
            ·
              refine own_go (S' := (T37.setTop (mkF m 117 #[.val (.int x0), .val (.int x1), .val (.int x2), .val (.int x3), .val (.int (3 : Int32)), .val (.ref b32), .val (.ref b36), .val (.int (-1 : Int32))] []))) (fun τ κ => XS.ifNo X37.here hx rfl (hb hby at_114) rfl ((if0 _ _).trans (flt hc114_39).1) κ) ?_
              refine own_go (S' := (T37.setTop (mkF m 119 #[.val (.int x0), .val (.int x1), .val (.int x2), .val (.int x3), .val (.int (3 : Int32)), .val (.ref b32), .val (.ref b36), .val (.int (-1 : Int32))] [(.int (-1 : Int32))]))) (fun τ κ => XS.iload X37.here hx rfl (hb hby at_117) rfl κ) ?_
              refine own_go (S' := (T37.setTop (mkF m 120 #[.val (.int x0), .val (.int x1), .val (.int x2), .val (.int x3), .val (.int (3 : Int32)), .val (.ref b32), .val (.ref b36), .val (.int (-1 : Int32))] [(.int x2), (.int (-1 : Int32))]))) (fun τ κ => XS.iloadN X37.here hx rfl (hb hby at_119) rfl κ) ?_
              obtain ⟨T44, X44, e44, st44⟩ := own_callP X37 hx hZ (y := (⟨"java/lang/Math", "max", "(II)I"⟩ : MethodName)) hown (hw _ (List.mem_of_getElem? (i := 33) rfl)) (hw _ (List.mem_of_getElem? (i := 34) rfl)) (hw _ (List.mem_of_getElem? (i := 35) rfl)) (hw _ (List.mem_of_getElem? (i := 36) rfl)) (rm8 l Z a0 hw (-1 : Int32) x2 T37.heap) rfl (argsL := [(.int (-1 : Int32)), (.int x2)]) (rest := []) (Ls := #[.val (.int x0), .val (.int x1), .val (.int x2), .val (.int x3), .val (.int (3 : Int32)), .val (.ref b32), .val (.ref b36), .val (.int (-1 : Int32))]) (hb hby at_120) pd_5 0 (by rw [hml]; rfl) (by decide) rfl rfl rfl (Nat.le_of_eq rfl) (by decide) (by decide) (by decide) (by decide)
              refine own_go (S' := (T44.setTop (mkF m 123 #[.val (.int x0), .val (.int x1), .val (.int x2), .val (.int x3), .val (.int (3 : Int32)), .val (.ref b32), .val (.ref b36), .val (.int (-1 : Int32))] [(.int (f8_0 (-1 : Int32) x2))]))) st44 ?_
              refine own_go (S' := (T44.setTop (mkF m 125 #[.val (.int x0), .val (.int x1), .val (.int x2), .val (.int x3), .val (.int (3 : Int32)), .val (.ref b32), .val (.ref b36), .val (.int (f8_0 (-1 : Int32) x2))] []))) (fun τ κ => XS.istore X44.here hx rfl (hb hby at_123) rfl (l' := #[.val (.int x0), .val (.int x1), .val (.int x2), .val (.int x3), .val (.int (3 : Int32)), .val (.ref b32), .val (.ref b36), .val (.int (f8_0 (-1 : Int32) x2))]) rfl κ) ?_
              refine own_go (S' := (T44.setTop (mkF m 127 #[.val (.int x0), .val (.int x1), .val (.int x2), .val (.int x3), .val (.int (3 : Int32)), .val (.ref b32), .val (.ref b36), .val (.int (f8_0 (-1 : Int32) x2))] [(.int (3 : Int32))]))) (fun τ κ => XS.iload X44.here hx rfl (hb hby at_125) rfl κ) ?_
              refine own_go (S' := (T44.setTop (mkF m 128 #[.val (.int x0), .val (.int x1), .val (.int x2), .val (.int x3), .val (.int (3 : Int32)), .val (.ref b32), .val (.ref b36), .val (.int (f8_0 (-1 : Int32) x2))] [(.int (3 : Int32)), (.int (3 : Int32))]))) (fun τ κ => XT.iconstV X44.here hx rfl (3 : Int32) (hb hby at_127) (by decide) κ) ?_
              refine own_go (S' := (T44.setTop (mkF m 131 #[.val (.int x0), .val (.int x1), .val (.int x2), .val (.int x3), .val (.int (3 : Int32)), .val (.ref b32), .val (.ref b36), .val (.int (f8_0 (-1 : Int32) x2))] []))) (fun τ κ => XS.icmpNo X44.here hx rfl (hb hby at_128) rfl (flt (by decide)).1 κ) ?_
              refine own_go (S' := (T44.setTop (mkF m 132 #[.val (.int x0), .val (.int x1), .val (.int x2), .val (.int x3), .val (.int (3 : Int32)), .val (.ref b32), .val (.ref b36), .val (.int (f8_0 (-1 : Int32) x2))] [(.int x3)]))) (fun τ κ => XS.iloadN X44.here hx rfl (hb hby at_131) rfl κ) ?_
              by_cases hc132_45 : x3 < (0 : Int32)
              ·
                refine own_go (S' := (T44.setTop (mkF m 143 #[.val (.int x0), .val (.int x1), .val (.int x2), .val (.int x3), .val (.int (3 : Int32)), .val (.ref b32), .val (.ref b36), .val (.int (f8_0 (-1 : Int32) x2))] []))) (fun τ κ => XS.ifYes X44.here hx rfl (pc0 := 132) (pc' := 143) rfl (hb hby at_132) rfl ((if0 _ _).trans (tlt hc132_45).1) (by decide) (by decide) κ) ?_
                refine own_go (S' := (T44.setTop (mkF m 145 #[.val (.int x0), .val (.int x1), .val (.int x2), .val (.int x3), .val (.int (3 : Int32)), .val (.ref b32), .val (.ref b36), .val (.int (f8_0 (-1 : Int32) x2))] [(.ref b36)]))) (fun τ κ => XS.aload X44.here hx rfl (hb hby at_143) rfl rfl κ) ?_
                obtain ⟨v46, T46, L46, X46, hQ46, st46⟩ := own_callV (a := b36) X44 hx hZ (y := (⟨"com/example/twinhash/twinhash/shingle/ShingleSet", "largestCode", "()I"⟩ : MethodName)) hown (hw _ (List.mem_of_getElem? (i := 28) rfl)) (hw _ (List.mem_of_getElem? (i := 29) rfl)) (hw _ (List.mem_of_getElem? (i := 31) rfl)) (hw _ (List.mem_of_getElem? (i := 30) rfl)) (hw _ (List.mem_of_getElem? (i := 3) rfl)) (hw _ (List.mem_of_getElem? (i := 32) rfl)) (rm7 l Z a0 hw b36 b32 ys f T37.heap hf1 (by rw [hp.length_eq]; exact Nat.le_of_ble_eq_true rfl) F1 F2 A) e44 E0 (st := [(.ref b36)]) (argsL := []) (rest := []) (Ls := #[.val (.int x0), .val (.int x1), .val (.int x2), .val (.int x3), .val (.int (3 : Int32)), .val (.ref b32), .val (.ref b36), .val (.int (f8_0 (-1 : Int32) x2))]) (hb hby at_145) pd_4 0 (by rw [hml]; rfl) (by decide) rfl rfl rfl (Nat.le_of_eq rfl) (by decide) (by decide) (by decide) (by decide)
                obtain ⟨rfl, rfl, e46⟩ := hQ46
                rw [List.append_nil] at X46
                refine own_go (S' := (T46.setTop (mkF m 148 #[.val (.int x0), .val (.int x1), .val (.int x2), .val (.int x3), .val (.int (3 : Int32)), .val (.ref b32), .val (.ref b36), .val (.int (f8_0 (-1 : Int32) x2))] [(.int (own_large ys f))]))) st46 ?_
                refine own_go (S' := (T46.setTop (mkF m 150 #[.val (.int x0), .val (.int x1), .val (.int x2), .val (.int x3), .val (.int (3 : Int32)), .val (.ref b32), .val (.ref b36), .val (.int (f8_0 (-1 : Int32) x2))] [(.int (f8_0 (-1 : Int32) x2)), (.int (own_large ys f))]))) (fun τ κ => XS.iload X46.here hx rfl (hb hby at_148) rfl κ) ?_
                refine own_go (S' := (T46.setTop (mkF m 153 #[.val (.int x0), .val (.int x1), .val (.int x2), .val (.int x3), .val (.int (3 : Int32)), .val (.ref b32), .val (.ref b36), .val (.int (f8_0 (-1 : Int32) x2))] []))) (fun τ κ => XS.icmpNo X46.here hx rfl (hb hby at_150) rfl (teq (own_ch_uniq (own_large_ch hp hs hf1 hf2 hf3) (own_ch_neg (own_ch_pos (own_ch_neg own_ch_nil hc96_38) hc114_39) hc132_45))).2 κ) ?_
                refine own_go (S' := (T46.setTop (mkF m 154 #[.val (.int x0), .val (.int x1), .val (.int x2), .val (.int x3), .val (.int (3 : Int32)), .val (.ref b32), .val (.ref b36), .val (.int (f8_0 (-1 : Int32) x2))] [(.int (1 : Int32))]))) (fun τ κ => XT.iconstV X46.here hx rfl (1 : Int32) (hb hby at_153) (by decide) κ) ?_
                refine own_go (S' := (T46.setTop (mkF m 158 #[.val (.int x0), .val (.int x1), .val (.int x2), .val (.int x3), .val (.int (3 : Int32)), .val (.ref b32), .val (.ref b36), .val (.int (f8_0 (-1 : Int32) x2))] [(.int (1 : Int32))]))) (fun τ κ => XS.goto X46.here hx rfl (pc0 := 154) (pc' := 158) rfl (hb hby at_154) (by decide) (by decide) κ) ?_
                exact own_retN X46 hx hret hlk (by simp) (hb hby at_158) (by first | rfl | decide) (by decide) (by decide) ⟨rfl, N37⟩
              ·
                refine own_go (S' := (T44.setTop (mkF m 135 #[.val (.int x0), .val (.int x1), .val (.int x2), .val (.int x3), .val (.int (3 : Int32)), .val (.ref b32), .val (.ref b36), .val (.int (f8_0 (-1 : Int32) x2))] []))) (fun τ κ => XS.ifNo X44.here hx rfl (hb hby at_132) rfl ((if0 _ _).trans (flt hc132_45).1) κ) ?_
                refine own_go (S' := (T44.setTop (mkF m 137 #[.val (.int x0), .val (.int x1), .val (.int x2), .val (.int x3), .val (.int (3 : Int32)), .val (.ref b32), .val (.ref b36), .val (.int (f8_0 (-1 : Int32) x2))] [(.int (f8_0 (-1 : Int32) x2))]))) (fun τ κ => XS.iload X44.here hx rfl (hb hby at_135) rfl κ) ?_
                refine own_go (S' := (T44.setTop (mkF m 138 #[.val (.int x0), .val (.int x1), .val (.int x2), .val (.int x3), .val (.int (3 : Int32)), .val (.ref b32), .val (.ref b36), .val (.int (f8_0 (-1 : Int32) x2))] [(.int x3), (.int (f8_0 (-1 : Int32) x2))]))) (fun τ κ => XS.iloadN X44.here hx rfl (hb hby at_137) rfl κ) ?_
                obtain ⟨T47, X47, e47, st47⟩ := own_callP X44 hx hZ (y := (⟨"java/lang/Math", "max", "(II)I"⟩ : MethodName)) hown (hw _ (List.mem_of_getElem? (i := 33) rfl)) (hw _ (List.mem_of_getElem? (i := 34) rfl)) (hw _ (List.mem_of_getElem? (i := 35) rfl)) (hw _ (List.mem_of_getElem? (i := 36) rfl)) (rm8 l Z a0 hw (f8_0 (-1 : Int32) x2) x3 T37.heap) e44 (argsL := [(.int (f8_0 (-1 : Int32) x2)), (.int x3)]) (rest := []) (Ls := #[.val (.int x0), .val (.int x1), .val (.int x2), .val (.int x3), .val (.int (3 : Int32)), .val (.ref b32), .val (.ref b36), .val (.int (f8_0 (-1 : Int32) x2))]) (hb hby at_138) pd_5 0 (by rw [hml]; rfl) (by decide) rfl rfl rfl (Nat.le_of_eq rfl) (by decide) (by decide) (by decide) (by decide)
                refine own_go (S' := (T47.setTop (mkF m 141 #[.val (.int x0), .val (.int x1), .val (.int x2), .val (.int x3), .val (.int (3 : Int32)), .val (.ref b32), .val (.ref b36), .val (.int (f8_0 (-1 : Int32) x2))] [(.int (f8_0 (f8_0 (-1 : Int32) x2) x3))]))) st47 ?_
                refine own_go (S' := (T47.setTop (mkF m 143 #[.val (.int x0), .val (.int x1), .val (.int x2), .val (.int x3), .val (.int (3 : Int32)), .val (.ref b32), .val (.ref b36), .val (.int (f8_0 (f8_0 (-1 : Int32) x2) x3))] []))) (fun τ κ => XS.istore X47.here hx rfl (hb hby at_141) rfl (l' := #[.val (.int x0), .val (.int x1), .val (.int x2), .val (.int x3), .val (.int (3 : Int32)), .val (.ref b32), .val (.ref b36), .val (.int (f8_0 (f8_0 (-1 : Int32) x2) x3))]) rfl κ) ?_
                refine own_go (S' := (T47.setTop (mkF m 145 #[.val (.int x0), .val (.int x1), .val (.int x2), .val (.int x3), .val (.int (3 : Int32)), .val (.ref b32), .val (.ref b36), .val (.int (f8_0 (f8_0 (-1 : Int32) x2) x3))] [(.ref b36)]))) (fun τ κ => XS.aload X47.here hx rfl (hb hby at_143) rfl rfl κ) ?_
                obtain ⟨v48, T48, L48, X48, hQ48, st48⟩ := own_callV (a := b36) X47 hx hZ (y := (⟨"com/example/twinhash/twinhash/shingle/ShingleSet", "largestCode", "()I"⟩ : MethodName)) hown (hw _ (List.mem_of_getElem? (i := 28) rfl)) (hw _ (List.mem_of_getElem? (i := 29) rfl)) (hw _ (List.mem_of_getElem? (i := 31) rfl)) (hw _ (List.mem_of_getElem? (i := 30) rfl)) (hw _ (List.mem_of_getElem? (i := 3) rfl)) (hw _ (List.mem_of_getElem? (i := 32) rfl)) (rm7 l Z a0 hw b36 b32 ys f T37.heap hf1 (by rw [hp.length_eq]; exact Nat.le_of_ble_eq_true rfl) F1 F2 A) e47 E0 (st := [(.ref b36)]) (argsL := []) (rest := []) (Ls := #[.val (.int x0), .val (.int x1), .val (.int x2), .val (.int x3), .val (.int (3 : Int32)), .val (.ref b32), .val (.ref b36), .val (.int (f8_0 (f8_0 (-1 : Int32) x2) x3))]) (hb hby at_145) pd_4 0 (by rw [hml]; rfl) (by decide) rfl rfl rfl (Nat.le_of_eq rfl) (by decide) (by decide) (by decide) (by decide)
                obtain ⟨rfl, rfl, e48⟩ := hQ48
                rw [List.append_nil] at X48
                refine own_go (S' := (T48.setTop (mkF m 148 #[.val (.int x0), .val (.int x1), .val (.int x2), .val (.int x3), .val (.int (3 : Int32)), .val (.ref b32), .val (.ref b36), .val (.int (f8_0 (f8_0 (-1 : Int32) x2) x3))] [(.int (own_large ys f))]))) st48 ?_
                refine own_go (S' := (T48.setTop (mkF m 150 #[.val (.int x0), .val (.int x1), .val (.int x2), .val (.int x3), .val (.int (3 : Int32)), .val (.ref b32), .val (.ref b36), .val (.int (f8_0 (f8_0 (-1 : Int32) x2) x3))] [(.int (f8_0 (f8_0 (-1 : Int32) x2) x3)), (.int (own_large ys f))]))) (fun τ κ => XS.iload X48.here hx rfl (hb hby at_148) rfl κ) ?_
                refine own_go (S' := (T48.setTop (mkF m 153 #[.val (.int x0), .val (.int x1), .val (.int x2), .val (.int x3), .val (.int (3 : Int32)), .val (.ref b32), .val (.ref b36), .val (.int (f8_0 (f8_0 (-1 : Int32) x2) x3))] []))) (fun τ κ => XS.icmpNo X48.here hx rfl (hb hby at_150) rfl (teq (own_ch_uniq (own_large_ch hp hs hf1 hf2 hf3) (own_ch_pos (own_ch_pos (own_ch_neg own_ch_nil hc96_38) hc114_39) hc132_45))).2 κ) ?_
                refine own_go (S' := (T48.setTop (mkF m 154 #[.val (.int x0), .val (.int x1), .val (.int x2), .val (.int x3), .val (.int (3 : Int32)), .val (.ref b32), .val (.ref b36), .val (.int (f8_0 (f8_0 (-1 : Int32) x2) x3))] [(.int (1 : Int32))]))) (fun τ κ => XT.iconstV X48.here hx rfl (1 : Int32) (hb hby at_153) (by decide) κ) ?_
                refine own_go (S' := (T48.setTop (mkF m 158 #[.val (.int x0), .val (.int x1), .val (.int x2), .val (.int x3), .val (.int (3 : Int32)), .val (.ref b32), .val (.ref b36), .val (.int (f8_0 (f8_0 (-1 : Int32) x2) x3))] [(.int (1 : Int32))]))) (fun τ κ => XS.goto X48.here hx rfl (pc0 := 154) (pc' := 158) rfl (hb hby at_154) (by decide) (by decide) κ) ?_
                exact own_retN X48 hx hret hlk (by simp) (hb hby at_158) (by first | rfl | decide) (by decide) (by decide) ⟨rfl, N37⟩
          ·
            refine own_go (S' := (T37.setTop (mkF m 99 #[.val (.int x0), .val (.int x1), .val (.int x2), .val (.int x3), .val (.int (3 : Int32)), .val (.ref b32), .val (.ref b36), .val (.int (-1 : Int32))] []))) (fun τ κ => XS.ifNo X37.here hx rfl (hb hby at_96) rfl ((if0 _ _).trans (flt hc96_38).1) κ) ?_
            refine own_go (S' := (T37.setTop (mkF m 101 #[.val (.int x0), .val (.int x1), .val (.int x2), .val (.int x3), .val (.int (3 : Int32)), .val (.ref b32), .val (.ref b36), .val (.int (-1 : Int32))] [(.int (-1 : Int32))]))) (fun τ κ => XS.iload X37.here hx rfl (hb hby at_99) rfl κ) ?_
            refine own_go (S' := (T37.setTop (mkF m 102 #[.val (.int x0), .val (.int x1), .val (.int x2), .val (.int x3), .val (.int (3 : Int32)), .val (.ref b32), .val (.ref b36), .val (.int (-1 : Int32))] [(.int x1), (.int (-1 : Int32))]))) (fun τ κ => XS.iloadN X37.here hx rfl (hb hby at_101) rfl κ) ?_
            obtain ⟨T49, X49, e49, st49⟩ := own_callP X37 hx hZ (y := (⟨"java/lang/Math", "max", "(II)I"⟩ : MethodName)) hown (hw _ (List.mem_of_getElem? (i := 33) rfl)) (hw _ (List.mem_of_getElem? (i := 34) rfl)) (hw _ (List.mem_of_getElem? (i := 35) rfl)) (hw _ (List.mem_of_getElem? (i := 36) rfl)) (rm8 l Z a0 hw (-1 : Int32) x1 T37.heap) rfl (argsL := [(.int (-1 : Int32)), (.int x1)]) (rest := []) (Ls := #[.val (.int x0), .val (.int x1), .val (.int x2), .val (.int x3), .val (.int (3 : Int32)), .val (.ref b32), .val (.ref b36), .val (.int (-1 : Int32))]) (hb hby at_102) pd_5 0 (by rw [hml]; rfl) (by decide) rfl rfl rfl (Nat.le_of_eq rfl) (by decide) (by decide) (by decide) (by decide)
            refine own_go (S' := (T49.setTop (mkF m 105 #[.val (.int x0), .val (.int x1), .val (.int x2), .val (.int x3), .val (.int (3 : Int32)), .val (.ref b32), .val (.ref b36), .val (.int (-1 : Int32))] [(.int (f8_0 (-1 : Int32) x1))]))) st49 ?_
            refine own_go (S' := (T49.setTop (mkF m 107 #[.val (.int x0), .val (.int x1), .val (.int x2), .val (.int x3), .val (.int (3 : Int32)), .val (.ref b32), .val (.ref b36), .val (.int (f8_0 (-1 : Int32) x1))] []))) (fun τ κ => XS.istore X49.here hx rfl (hb hby at_105) rfl (l' := #[.val (.int x0), .val (.int x1), .val (.int x2), .val (.int x3), .val (.int (3 : Int32)), .val (.ref b32), .val (.ref b36), .val (.int (f8_0 (-1 : Int32) x1))]) rfl κ) ?_
            refine own_go (S' := (T49.setTop (mkF m 109 #[.val (.int x0), .val (.int x1), .val (.int x2), .val (.int x3), .val (.int (3 : Int32)), .val (.ref b32), .val (.ref b36), .val (.int (f8_0 (-1 : Int32) x1))] [(.int (3 : Int32))]))) (fun τ κ => XS.iload X49.here hx rfl (hb hby at_107) rfl κ) ?_
            refine own_go (S' := (T49.setTop (mkF m 110 #[.val (.int x0), .val (.int x1), .val (.int x2), .val (.int x3), .val (.int (3 : Int32)), .val (.ref b32), .val (.ref b36), .val (.int (f8_0 (-1 : Int32) x1))] [(.int (2 : Int32)), (.int (3 : Int32))]))) (fun τ κ => XT.iconstV X49.here hx rfl (2 : Int32) (hb hby at_109) (by decide) κ) ?_
            refine own_go (S' := (T49.setTop (mkF m 113 #[.val (.int x0), .val (.int x1), .val (.int x2), .val (.int x3), .val (.int (3 : Int32)), .val (.ref b32), .val (.ref b36), .val (.int (f8_0 (-1 : Int32) x1))] []))) (fun τ κ => XS.icmpNo X49.here hx rfl (hb hby at_110) rfl (flt (by decide)).1 κ) ?_
            refine own_go (S' := (T49.setTop (mkF m 114 #[.val (.int x0), .val (.int x1), .val (.int x2), .val (.int x3), .val (.int (3 : Int32)), .val (.ref b32), .val (.ref b36), .val (.int (f8_0 (-1 : Int32) x1))] [(.int x2)]))) (fun τ κ => XS.iloadN X49.here hx rfl (hb hby at_113) rfl κ) ?_
            by_cases hc114_50 : x2 < (0 : Int32)
            ·
              refine own_go (S' := (T49.setTop (mkF m 125 #[.val (.int x0), .val (.int x1), .val (.int x2), .val (.int x3), .val (.int (3 : Int32)), .val (.ref b32), .val (.ref b36), .val (.int (f8_0 (-1 : Int32) x1))] []))) (fun τ κ => XS.ifYes X49.here hx rfl (pc0 := 114) (pc' := 125) rfl (hb hby at_114) rfl ((if0 _ _).trans (tlt hc114_50).1) (by decide) (by decide) κ) ?_
              refine own_go (S' := (T49.setTop (mkF m 127 #[.val (.int x0), .val (.int x1), .val (.int x2), .val (.int x3), .val (.int (3 : Int32)), .val (.ref b32), .val (.ref b36), .val (.int (f8_0 (-1 : Int32) x1))] [(.int (3 : Int32))]))) (fun τ κ => XS.iload X49.here hx rfl (hb hby at_125) rfl κ) ?_
              refine own_go (S' := (T49.setTop (mkF m 128 #[.val (.int x0), .val (.int x1), .val (.int x2), .val (.int x3), .val (.int (3 : Int32)), .val (.ref b32), .val (.ref b36), .val (.int (f8_0 (-1 : Int32) x1))] [(.int (3 : Int32)), (.int (3 : Int32))]))) (fun τ κ => XT.iconstV X49.here hx rfl (3 : Int32) (hb hby at_127) (by decide) κ) ?_
              refine own_go (S' := (T49.setTop (mkF m 131 #[.val (.int x0), .val (.int x1), .val (.int x2), .val (.int x3), .val (.int (3 : Int32)), .val (.ref b32), .val (.ref b36), .val (.int (f8_0 (-1 : Int32) x1))] []))) (fun τ κ => XS.icmpNo X49.here hx rfl (hb hby at_128) rfl (flt (by decide)).1 κ) ?_
              refine own_go (S' := (T49.setTop (mkF m 132 #[.val (.int x0), .val (.int x1), .val (.int x2), .val (.int x3), .val (.int (3 : Int32)), .val (.ref b32), .val (.ref b36), .val (.int (f8_0 (-1 : Int32) x1))] [(.int x3)]))) (fun τ κ => XS.iloadN X49.here hx rfl (hb hby at_131) rfl κ) ?_
              by_cases hc132_51 : x3 < (0 : Int32)
              ·
                refine own_go (S' := (T49.setTop (mkF m 143 #[.val (.int x0), .val (.int x1), .val (.int x2), .val (.int x3), .val (.int (3 : Int32)), .val (.ref b32), .val (.ref b36), .val (.int (f8_0 (-1 : Int32) x1))] []))) (fun τ κ => XS.ifYes X49.here hx rfl (pc0 := 132) (pc' := 143) rfl (hb hby at_132) rfl ((if0 _ _).trans (tlt hc132_51).1) (by decide) (by decide) κ) ?_
                refine own_go (S' := (T49.setTop (mkF m 145 #[.val (.int x0), .val (.int x1), .val (.int x2), .val (.int x3), .val (.int (3 : Int32)), .val (.ref b32), .val (.ref b36), .val (.int (f8_0 (-1 : Int32) x1))] [(.ref b36)]))) (fun τ κ => XS.aload X49.here hx rfl (hb hby at_143) rfl rfl κ) ?_
                obtain ⟨v52, T52, L52, X52, hQ52, st52⟩ := own_callV (a := b36) X49 hx hZ (y := (⟨"com/example/twinhash/twinhash/shingle/ShingleSet", "largestCode", "()I"⟩ : MethodName)) hown (hw _ (List.mem_of_getElem? (i := 28) rfl)) (hw _ (List.mem_of_getElem? (i := 29) rfl)) (hw _ (List.mem_of_getElem? (i := 31) rfl)) (hw _ (List.mem_of_getElem? (i := 30) rfl)) (hw _ (List.mem_of_getElem? (i := 3) rfl)) (hw _ (List.mem_of_getElem? (i := 32) rfl)) (rm7 l Z a0 hw b36 b32 ys f T37.heap hf1 (by rw [hp.length_eq]; exact Nat.le_of_ble_eq_true rfl) F1 F2 A) e49 E0 (st := [(.ref b36)]) (argsL := []) (rest := []) (Ls := #[.val (.int x0), .val (.int x1), .val (.int x2), .val (.int x3), .val (.int (3 : Int32)), .val (.ref b32), .val (.ref b36), .val (.int (f8_0 (-1 : Int32) x1))]) (hb hby at_145) pd_4 0 (by rw [hml]; rfl) (by decide) rfl rfl rfl (Nat.le_of_eq rfl) (by decide) (by decide) (by decide) (by decide)
                obtain ⟨rfl, rfl, e52⟩ := hQ52
                rw [List.append_nil] at X52
                refine own_go (S' := (T52.setTop (mkF m 148 #[.val (.int x0), .val (.int x1), .val (.int x2), .val (.int x3), .val (.int (3 : Int32)), .val (.ref b32), .val (.ref b36), .val (.int (f8_0 (-1 : Int32) x1))] [(.int (own_large ys f))]))) st52 ?_
                refine own_go (S' := (T52.setTop (mkF m 150 #[.val (.int x0), .val (.int x1), .val (.int x2), .val (.int x3), .val (.int (3 : Int32)), .val (.ref b32), .val (.ref b36), .val (.int (f8_0 (-1 : Int32) x1))] [(.int (f8_0 (-1 : Int32) x1)), (.int (own_large ys f))]))) (fun τ κ => XS.iload X52.here hx rfl (hb hby at_148) rfl κ) ?_
                refine own_go (S' := (T52.setTop (mkF m 153 #[.val (.int x0), .val (.int x1), .val (.int x2), .val (.int x3), .val (.int (3 : Int32)), .val (.ref b32), .val (.ref b36), .val (.int (f8_0 (-1 : Int32) x1))] []))) (fun τ κ => XS.icmpNo X52.here hx rfl (hb hby at_150) rfl (teq (own_ch_uniq (own_large_ch hp hs hf1 hf2 hf3) (own_ch_neg (own_ch_neg (own_ch_pos own_ch_nil hc96_38) hc114_50) hc132_51))).2 κ) ?_
                refine own_go (S' := (T52.setTop (mkF m 154 #[.val (.int x0), .val (.int x1), .val (.int x2), .val (.int x3), .val (.int (3 : Int32)), .val (.ref b32), .val (.ref b36), .val (.int (f8_0 (-1 : Int32) x1))] [(.int (1 : Int32))]))) (fun τ κ => XT.iconstV X52.here hx rfl (1 : Int32) (hb hby at_153) (by decide) κ) ?_
                refine own_go (S' := (T52.setTop (mkF m 158 #[.val (.int x0), .val (.int x1), .val (.int x2), .val (.int x3), .val (.int (3 : Int32)), .val (.ref b32), .val (.ref b36), .val (.int (f8_0 (-1 : Int32) x1))] [(.int (1 : Int32))]))) (fun τ κ => XS.goto X52.here hx rfl (pc0 := 154) (pc' := 158) rfl (hb hby at_154) (by decide) (by decide) κ) ?_
                exact own_retN X52 hx hret hlk (by simp) (hb hby at_158) (by first | rfl | decide) (by decide) (by decide) ⟨rfl, N37⟩
              ·
                refine own_go (S' := (T49.setTop (mkF m 135 #[.val (.int x0), .val (.int x1), .val (.int x2), .val (.int x3), .val (.int (3 : Int32)), .val (.ref b32), .val (.ref b36), .val (.int (f8_0 (-1 : Int32) x1))] []))) (fun τ κ => XS.ifNo X49.here hx rfl (hb hby at_132) rfl ((if0 _ _).trans (flt hc132_51).1) κ) ?_
                refine own_go (S' := (T49.setTop (mkF m 137 #[.val (.int x0), .val (.int x1), .val (.int x2), .val (.int x3), .val (.int (3 : Int32)), .val (.ref b32), .val (.ref b36), .val (.int (f8_0 (-1 : Int32) x1))] [(.int (f8_0 (-1 : Int32) x1))]))) (fun τ κ => XS.iload X49.here hx rfl (hb hby at_135) rfl κ) ?_
                refine own_go (S' := (T49.setTop (mkF m 138 #[.val (.int x0), .val (.int x1), .val (.int x2), .val (.int x3), .val (.int (3 : Int32)), .val (.ref b32), .val (.ref b36), .val (.int (f8_0 (-1 : Int32) x1))] [(.int x3), (.int (f8_0 (-1 : Int32) x1))]))) (fun τ κ => XS.iloadN X49.here hx rfl (hb hby at_137) rfl κ) ?_
                obtain ⟨T53, X53, e53, st53⟩ := own_callP X49 hx hZ (y := (⟨"java/lang/Math", "max", "(II)I"⟩ : MethodName)) hown (hw _ (List.mem_of_getElem? (i := 33) rfl)) (hw _ (List.mem_of_getElem? (i := 34) rfl)) (hw _ (List.mem_of_getElem? (i := 35) rfl)) (hw _ (List.mem_of_getElem? (i := 36) rfl)) (rm8 l Z a0 hw (f8_0 (-1 : Int32) x1) x3 T37.heap) e49 (argsL := [(.int (f8_0 (-1 : Int32) x1)), (.int x3)]) (rest := []) (Ls := #[.val (.int x0), .val (.int x1), .val (.int x2), .val (.int x3), .val (.int (3 : Int32)), .val (.ref b32), .val (.ref b36), .val (.int (f8_0 (-1 : Int32) x1))]) (hb hby at_138) pd_5 0 (by rw [hml]; rfl) (by decide) rfl rfl rfl (Nat.le_of_eq rfl) (by decide) (by decide) (by decide) (by decide)
                refine own_go (S' := (T53.setTop (mkF m 141 #[.val (.int x0), .val (.int x1), .val (.int x2), .val (.int x3), .val (.int (3 : Int32)), .val (.ref b32), .val (.ref b36), .val (.int (f8_0 (-1 : Int32) x1))] [(.int (f8_0 (f8_0 (-1 : Int32) x1) x3))]))) st53 ?_
                refine own_go (S' := (T53.setTop (mkF m 143 #[.val (.int x0), .val (.int x1), .val (.int x2), .val (.int x3), .val (.int (3 : Int32)), .val (.ref b32), .val (.ref b36), .val (.int (f8_0 (f8_0 (-1 : Int32) x1) x3))] []))) (fun τ κ => XS.istore X53.here hx rfl (hb hby at_141) rfl (l' := #[.val (.int x0), .val (.int x1), .val (.int x2), .val (.int x3), .val (.int (3 : Int32)), .val (.ref b32), .val (.ref b36), .val (.int (f8_0 (f8_0 (-1 : Int32) x1) x3))]) rfl κ) ?_
                refine own_go (S' := (T53.setTop (mkF m 145 #[.val (.int x0), .val (.int x1), .val (.int x2), .val (.int x3), .val (.int (3 : Int32)), .val (.ref b32), .val (.ref b36), .val (.int (f8_0 (f8_0 (-1 : Int32) x1) x3))] [(.ref b36)]))) (fun τ κ => XS.aload X53.here hx rfl (hb hby at_143) rfl rfl κ) ?_
                obtain ⟨v54, T54, L54, X54, hQ54, st54⟩ := own_callV (a := b36) X53 hx hZ (y := (⟨"com/example/twinhash/twinhash/shingle/ShingleSet", "largestCode", "()I"⟩ : MethodName)) hown (hw _ (List.mem_of_getElem? (i := 28) rfl)) (hw _ (List.mem_of_getElem? (i := 29) rfl)) (hw _ (List.mem_of_getElem? (i := 31) rfl)) (hw _ (List.mem_of_getElem? (i := 30) rfl)) (hw _ (List.mem_of_getElem? (i := 3) rfl)) (hw _ (List.mem_of_getElem? (i := 32) rfl)) (rm7 l Z a0 hw b36 b32 ys f T37.heap hf1 (by rw [hp.length_eq]; exact Nat.le_of_ble_eq_true rfl) F1 F2 A) e53 E0 (st := [(.ref b36)]) (argsL := []) (rest := []) (Ls := #[.val (.int x0), .val (.int x1), .val (.int x2), .val (.int x3), .val (.int (3 : Int32)), .val (.ref b32), .val (.ref b36), .val (.int (f8_0 (f8_0 (-1 : Int32) x1) x3))]) (hb hby at_145) pd_4 0 (by rw [hml]; rfl) (by decide) rfl rfl rfl (Nat.le_of_eq rfl) (by decide) (by decide) (by decide) (by decide)
                obtain ⟨rfl, rfl, e54⟩ := hQ54
                rw [List.append_nil] at X54
                refine own_go (S' := (T54.setTop (mkF m 148 #[.val (.int x0), .val (.int x1), .val (.int x2), .val (.int x3), .val (.int (3 : Int32)), .val (.ref b32), .val (.ref b36), .val (.int (f8_0 (f8_0 (-1 : Int32) x1) x3))] [(.int (own_large ys f))]))) st54 ?_
                refine own_go (S' := (T54.setTop (mkF m 150 #[.val (.int x0), .val (.int x1), .val (.int x2), .val (.int x3), .val (.int (3 : Int32)), .val (.ref b32), .val (.ref b36), .val (.int (f8_0 (f8_0 (-1 : Int32) x1) x3))] [(.int (f8_0 (f8_0 (-1 : Int32) x1) x3)), (.int (own_large ys f))]))) (fun τ κ => XS.iload X54.here hx rfl (hb hby at_148) rfl κ) ?_
                refine own_go (S' := (T54.setTop (mkF m 153 #[.val (.int x0), .val (.int x1), .val (.int x2), .val (.int x3), .val (.int (3 : Int32)), .val (.ref b32), .val (.ref b36), .val (.int (f8_0 (f8_0 (-1 : Int32) x1) x3))] []))) (fun τ κ => XS.icmpNo X54.here hx rfl (hb hby at_150) rfl (teq (own_ch_uniq (own_large_ch hp hs hf1 hf2 hf3) (own_ch_pos (own_ch_neg (own_ch_pos own_ch_nil hc96_38) hc114_50) hc132_51))).2 κ) ?_
                refine own_go (S' := (T54.setTop (mkF m 154 #[.val (.int x0), .val (.int x1), .val (.int x2), .val (.int x3), .val (.int (3 : Int32)), .val (.ref b32), .val (.ref b36), .val (.int (f8_0 (f8_0 (-1 : Int32) x1) x3))] [(.int (1 : Int32))]))) (fun τ κ => XT.iconstV X54.here hx rfl (1 : Int32) (hb hby at_153) (by decide) κ) ?_
                refine own_go (S' := (T54.setTop (mkF m 158 #[.val (.int x0), .val (.int x1), .val (.int x2), .val (.int x3), .val (.int (3 : Int32)), .val (.ref b32), .val (.ref b36), .val (.int (f8_0 (f8_0 (-1 : Int32) x1) x3))] [(.int (1 : Int32))]))) (fun τ κ => XS.goto X54.here hx rfl (pc0 := 154) (pc' := 158) rfl (hb hby at_154) (by decide) (by decide) κ) ?_
                exact own_retN X54 hx hret hlk (by simp) (hb hby at_158) (by first | rfl | decide) (by decide) (by decide) ⟨rfl, N37⟩
            ·
              refine own_go (S' := (T49.setTop (mkF m 117 #[.val (.int x0), .val (.int x1), .val (.int x2), .val (.int x3), .val (.int (3 : Int32)), .val (.ref b32), .val (.ref b36), .val (.int (f8_0 (-1 : Int32) x1))] []))) (fun τ κ => XS.ifNo X49.here hx rfl (hb hby at_114) rfl ((if0 _ _).trans (flt hc114_50).1) κ) ?_
              refine own_go (S' := (T49.setTop (mkF m 119 #[.val (.int x0), .val (.int x1), .val (.int x2), .val (.int x3), .val (.int (3 : Int32)), .val (.ref b32), .val (.ref b36), .val (.int (f8_0 (-1 : Int32) x1))] [(.int (f8_0 (-1 : Int32) x1))]))) (fun τ κ => XS.iload X49.here hx rfl (hb hby at_117) rfl κ) ?_
              refine own_go (S' := (T49.setTop (mkF m 120 #[.val (.int x0), .val (.int x1), .val (.int x2), .val (.int x3), .val (.int (3 : Int32)), .val (.ref b32), .val (.ref b36), .val (.int (f8_0 (-1 : Int32) x1))] [(.int x2), (.int (f8_0 (-1 : Int32) x1))]))) (fun τ κ => XS.iloadN X49.here hx rfl (hb hby at_119) rfl κ) ?_
              obtain ⟨T55, X55, e55, st55⟩ := own_callP X49 hx hZ (y := (⟨"java/lang/Math", "max", "(II)I"⟩ : MethodName)) hown (hw _ (List.mem_of_getElem? (i := 33) rfl)) (hw _ (List.mem_of_getElem? (i := 34) rfl)) (hw _ (List.mem_of_getElem? (i := 35) rfl)) (hw _ (List.mem_of_getElem? (i := 36) rfl)) (rm8 l Z a0 hw (f8_0 (-1 : Int32) x1) x2 T37.heap) e49 (argsL := [(.int (f8_0 (-1 : Int32) x1)), (.int x2)]) (rest := []) (Ls := #[.val (.int x0), .val (.int x1), .val (.int x2), .val (.int x3), .val (.int (3 : Int32)), .val (.ref b32), .val (.ref b36), .val (.int (f8_0 (-1 : Int32) x1))]) (hb hby at_120) pd_5 0 (by rw [hml]; rfl) (by decide) rfl rfl rfl (Nat.le_of_eq rfl) (by decide) (by decide) (by decide) (by decide)
              refine own_go (S' := (T55.setTop (mkF m 123 #[.val (.int x0), .val (.int x1), .val (.int x2), .val (.int x3), .val (.int (3 : Int32)), .val (.ref b32), .val (.ref b36), .val (.int (f8_0 (-1 : Int32) x1))] [(.int (f8_0 (f8_0 (-1 : Int32) x1) x2))]))) st55 ?_
              refine own_go (S' := (T55.setTop (mkF m 125 #[.val (.int x0), .val (.int x1), .val (.int x2), .val (.int x3), .val (.int (3 : Int32)), .val (.ref b32), .val (.ref b36), .val (.int (f8_0 (f8_0 (-1 : Int32) x1) x2))] []))) (fun τ κ => XS.istore X55.here hx rfl (hb hby at_123) rfl (l' := #[.val (.int x0), .val (.int x1), .val (.int x2), .val (.int x3), .val (.int (3 : Int32)), .val (.ref b32), .val (.ref b36), .val (.int (f8_0 (f8_0 (-1 : Int32) x1) x2))]) rfl κ) ?_
              refine own_go (S' := (T55.setTop (mkF m 127 #[.val (.int x0), .val (.int x1), .val (.int x2), .val (.int x3), .val (.int (3 : Int32)), .val (.ref b32), .val (.ref b36), .val (.int (f8_0 (f8_0 (-1 : Int32) x1) x2))] [(.int (3 : Int32))]))) (fun τ κ => XS.iload X55.here hx rfl (hb hby at_125) rfl κ) ?_
              refine own_go (S' := (T55.setTop (mkF m 128 #[.val (.int x0), .val (.int x1), .val (.int x2), .val (.int x3), .val (.int (3 : Int32)), .val (.ref b32), .val (.ref b36), .val (.int (f8_0 (f8_0 (-1 : Int32) x1) x2))] [(.int (3 : Int32)), (.int (3 : Int32))]))) (fun τ κ => XT.iconstV X55.here hx rfl (3 : Int32) (hb hby at_127) (by decide) κ) ?_
              refine own_go (S' := (T55.setTop (mkF m 131 #[.val (.int x0), .val (.int x1), .val (.int x2), .val (.int x3), .val (.int (3 : Int32)), .val (.ref b32), .val (.ref b36), .val (.int (f8_0 (f8_0 (-1 : Int32) x1) x2))] []))) (fun τ κ => XS.icmpNo X55.here hx rfl (hb hby at_128) rfl (flt (by decide)).1 κ) ?_
              refine own_go (S' := (T55.setTop (mkF m 132 #[.val (.int x0), .val (.int x1), .val (.int x2), .val (.int x3), .val (.int (3 : Int32)), .val (.ref b32), .val (.ref b36), .val (.int (f8_0 (f8_0 (-1 : Int32) x1) x2))] [(.int x3)]))) (fun τ κ => XS.iloadN X55.here hx rfl (hb hby at_131) rfl κ) ?_
              by_cases hc132_56 : x3 < (0 : Int32)
              ·
                refine own_go (S' := (T55.setTop (mkF m 143 #[.val (.int x0), .val (.int x1), .val (.int x2), .val (.int x3), .val (.int (3 : Int32)), .val (.ref b32), .val (.ref b36), .val (.int (f8_0 (f8_0 (-1 : Int32) x1) x2))] []))) (fun τ κ => XS.ifYes X55.here hx rfl (pc0 := 132) (pc' := 143) rfl (hb hby at_132) rfl ((if0 _ _).trans (tlt hc132_56).1) (by decide) (by decide) κ) ?_
                refine own_go (S' := (T55.setTop (mkF m 145 #[.val (.int x0), .val (.int x1), .val (.int x2), .val (.int x3), .val (.int (3 : Int32)), .val (.ref b32), .val (.ref b36), .val (.int (f8_0 (f8_0 (-1 : Int32) x1) x2))] [(.ref b36)]))) (fun τ κ => XS.aload X55.here hx rfl (hb hby at_143) rfl rfl κ) ?_
                obtain ⟨v57, T57, L57, X57, hQ57, st57⟩ := own_callV (a := b36) X55 hx hZ (y := (⟨"com/example/twinhash/twinhash/shingle/ShingleSet", "largestCode", "()I"⟩ : MethodName)) hown (hw _ (List.mem_of_getElem? (i := 28) rfl)) (hw _ (List.mem_of_getElem? (i := 29) rfl)) (hw _ (List.mem_of_getElem? (i := 31) rfl)) (hw _ (List.mem_of_getElem? (i := 30) rfl)) (hw _ (List.mem_of_getElem? (i := 3) rfl)) (hw _ (List.mem_of_getElem? (i := 32) rfl)) (rm7 l Z a0 hw b36 b32 ys f T37.heap hf1 (by rw [hp.length_eq]; exact Nat.le_of_ble_eq_true rfl) F1 F2 A) e55 E0 (st := [(.ref b36)]) (argsL := []) (rest := []) (Ls := #[.val (.int x0), .val (.int x1), .val (.int x2), .val (.int x3), .val (.int (3 : Int32)), .val (.ref b32), .val (.ref b36), .val (.int (f8_0 (f8_0 (-1 : Int32) x1) x2))]) (hb hby at_145) pd_4 0 (by rw [hml]; rfl) (by decide) rfl rfl rfl (Nat.le_of_eq rfl) (by decide) (by decide) (by decide) (by decide)
                obtain ⟨rfl, rfl, e57⟩ := hQ57
                rw [List.append_nil] at X57
                refine own_go (S' := (T57.setTop (mkF m 148 #[.val (.int x0), .val (.int x1), .val (.int x2), .val (.int x3), .val (.int (3 : Int32)), .val (.ref b32), .val (.ref b36), .val (.int (f8_0 (f8_0 (-1 : Int32) x1) x2))] [(.int (own_large ys f))]))) st57 ?_
                refine own_go (S' := (T57.setTop (mkF m 150 #[.val (.int x0), .val (.int x1), .val (.int x2), .val (.int x3), .val (.int (3 : Int32)), .val (.ref b32), .val (.ref b36), .val (.int (f8_0 (f8_0 (-1 : Int32) x1) x2))] [(.int (f8_0 (f8_0 (-1 : Int32) x1) x2)), (.int (own_large ys f))]))) (fun τ κ => XS.iload X57.here hx rfl (hb hby at_148) rfl κ) ?_
                refine own_go (S' := (T57.setTop (mkF m 153 #[.val (.int x0), .val (.int x1), .val (.int x2), .val (.int x3), .val (.int (3 : Int32)), .val (.ref b32), .val (.ref b36), .val (.int (f8_0 (f8_0 (-1 : Int32) x1) x2))] []))) (fun τ κ => XS.icmpNo X57.here hx rfl (hb hby at_150) rfl (teq (own_ch_uniq (own_large_ch hp hs hf1 hf2 hf3) (own_ch_neg (own_ch_pos (own_ch_pos own_ch_nil hc96_38) hc114_50) hc132_56))).2 κ) ?_
                refine own_go (S' := (T57.setTop (mkF m 154 #[.val (.int x0), .val (.int x1), .val (.int x2), .val (.int x3), .val (.int (3 : Int32)), .val (.ref b32), .val (.ref b36), .val (.int (f8_0 (f8_0 (-1 : Int32) x1) x2))] [(.int (1 : Int32))]))) (fun τ κ => XT.iconstV X57.here hx rfl (1 : Int32) (hb hby at_153) (by decide) κ) ?_
                refine own_go (S' := (T57.setTop (mkF m 158 #[.val (.int x0), .val (.int x1), .val (.int x2), .val (.int x3), .val (.int (3 : Int32)), .val (.ref b32), .val (.ref b36), .val (.int (f8_0 (f8_0 (-1 : Int32) x1) x2))] [(.int (1 : Int32))]))) (fun τ κ => XS.goto X57.here hx rfl (pc0 := 154) (pc' := 158) rfl (hb hby at_154) (by decide) (by decide) κ) ?_
                exact own_retN X57 hx hret hlk (by simp) (hb hby at_158) (by first | rfl | decide) (by decide) (by decide) ⟨rfl, N37⟩
              ·
                refine own_go (S' := (T55.setTop (mkF m 135 #[.val (.int x0), .val (.int x1), .val (.int x2), .val (.int x3), .val (.int (3 : Int32)), .val (.ref b32), .val (.ref b36), .val (.int (f8_0 (f8_0 (-1 : Int32) x1) x2))] []))) (fun τ κ => XS.ifNo X55.here hx rfl (hb hby at_132) rfl ((if0 _ _).trans (flt hc132_56).1) κ) ?_
                refine own_go (S' := (T55.setTop (mkF m 137 #[.val (.int x0), .val (.int x1), .val (.int x2), .val (.int x3), .val (.int (3 : Int32)), .val (.ref b32), .val (.ref b36), .val (.int (f8_0 (f8_0 (-1 : Int32) x1) x2))] [(.int (f8_0 (f8_0 (-1 : Int32) x1) x2))]))) (fun τ κ => XS.iload X55.here hx rfl (hb hby at_135) rfl κ) ?_
                refine own_go (S' := (T55.setTop (mkF m 138 #[.val (.int x0), .val (.int x1), .val (.int x2), .val (.int x3), .val (.int (3 : Int32)), .val (.ref b32), .val (.ref b36), .val (.int (f8_0 (f8_0 (-1 : Int32) x1) x2))] [(.int x3), (.int (f8_0 (f8_0 (-1 : Int32) x1) x2))]))) (fun τ κ => XS.iloadN X55.here hx rfl (hb hby at_137) rfl κ) ?_
                obtain ⟨T58, X58, e58, st58⟩ := own_callP X55 hx hZ (y := (⟨"java/lang/Math", "max", "(II)I"⟩ : MethodName)) hown (hw _ (List.mem_of_getElem? (i := 33) rfl)) (hw _ (List.mem_of_getElem? (i := 34) rfl)) (hw _ (List.mem_of_getElem? (i := 35) rfl)) (hw _ (List.mem_of_getElem? (i := 36) rfl)) (rm8 l Z a0 hw (f8_0 (f8_0 (-1 : Int32) x1) x2) x3 T37.heap) e55 (argsL := [(.int (f8_0 (f8_0 (-1 : Int32) x1) x2)), (.int x3)]) (rest := []) (Ls := #[.val (.int x0), .val (.int x1), .val (.int x2), .val (.int x3), .val (.int (3 : Int32)), .val (.ref b32), .val (.ref b36), .val (.int (f8_0 (f8_0 (-1 : Int32) x1) x2))]) (hb hby at_138) pd_5 0 (by rw [hml]; rfl) (by decide) rfl rfl rfl (Nat.le_of_eq rfl) (by decide) (by decide) (by decide) (by decide)
                refine own_go (S' := (T58.setTop (mkF m 141 #[.val (.int x0), .val (.int x1), .val (.int x2), .val (.int x3), .val (.int (3 : Int32)), .val (.ref b32), .val (.ref b36), .val (.int (f8_0 (f8_0 (-1 : Int32) x1) x2))] [(.int (f8_0 (f8_0 (f8_0 (-1 : Int32) x1) x2) x3))]))) st58 ?_
                refine own_go (S' := (T58.setTop (mkF m 143 #[.val (.int x0), .val (.int x1), .val (.int x2), .val (.int x3), .val (.int (3 : Int32)), .val (.ref b32), .val (.ref b36), .val (.int (f8_0 (f8_0 (f8_0 (-1 : Int32) x1) x2) x3))] []))) (fun τ κ => XS.istore X58.here hx rfl (hb hby at_141) rfl (l' := #[.val (.int x0), .val (.int x1), .val (.int x2), .val (.int x3), .val (.int (3 : Int32)), .val (.ref b32), .val (.ref b36), .val (.int (f8_0 (f8_0 (f8_0 (-1 : Int32) x1) x2) x3))]) rfl κ) ?_
                refine own_go (S' := (T58.setTop (mkF m 145 #[.val (.int x0), .val (.int x1), .val (.int x2), .val (.int x3), .val (.int (3 : Int32)), .val (.ref b32), .val (.ref b36), .val (.int (f8_0 (f8_0 (f8_0 (-1 : Int32) x1) x2) x3))] [(.ref b36)]))) (fun τ κ => XS.aload X58.here hx rfl (hb hby at_143) rfl rfl κ) ?_
                obtain ⟨v59, T59, L59, X59, hQ59, st59⟩ := own_callV (a := b36) X58 hx hZ (y := (⟨"com/example/twinhash/twinhash/shingle/ShingleSet", "largestCode", "()I"⟩ : MethodName)) hown (hw _ (List.mem_of_getElem? (i := 28) rfl)) (hw _ (List.mem_of_getElem? (i := 29) rfl)) (hw _ (List.mem_of_getElem? (i := 31) rfl)) (hw _ (List.mem_of_getElem? (i := 30) rfl)) (hw _ (List.mem_of_getElem? (i := 3) rfl)) (hw _ (List.mem_of_getElem? (i := 32) rfl)) (rm7 l Z a0 hw b36 b32 ys f T37.heap hf1 (by rw [hp.length_eq]; exact Nat.le_of_ble_eq_true rfl) F1 F2 A) e58 E0 (st := [(.ref b36)]) (argsL := []) (rest := []) (Ls := #[.val (.int x0), .val (.int x1), .val (.int x2), .val (.int x3), .val (.int (3 : Int32)), .val (.ref b32), .val (.ref b36), .val (.int (f8_0 (f8_0 (f8_0 (-1 : Int32) x1) x2) x3))]) (hb hby at_145) pd_4 0 (by rw [hml]; rfl) (by decide) rfl rfl rfl (Nat.le_of_eq rfl) (by decide) (by decide) (by decide) (by decide)
                obtain ⟨rfl, rfl, e59⟩ := hQ59
                rw [List.append_nil] at X59
                refine own_go (S' := (T59.setTop (mkF m 148 #[.val (.int x0), .val (.int x1), .val (.int x2), .val (.int x3), .val (.int (3 : Int32)), .val (.ref b32), .val (.ref b36), .val (.int (f8_0 (f8_0 (f8_0 (-1 : Int32) x1) x2) x3))] [(.int (own_large ys f))]))) st59 ?_
                refine own_go (S' := (T59.setTop (mkF m 150 #[.val (.int x0), .val (.int x1), .val (.int x2), .val (.int x3), .val (.int (3 : Int32)), .val (.ref b32), .val (.ref b36), .val (.int (f8_0 (f8_0 (f8_0 (-1 : Int32) x1) x2) x3))] [(.int (f8_0 (f8_0 (f8_0 (-1 : Int32) x1) x2) x3)), (.int (own_large ys f))]))) (fun τ κ => XS.iload X59.here hx rfl (hb hby at_148) rfl κ) ?_
                refine own_go (S' := (T59.setTop (mkF m 153 #[.val (.int x0), .val (.int x1), .val (.int x2), .val (.int x3), .val (.int (3 : Int32)), .val (.ref b32), .val (.ref b36), .val (.int (f8_0 (f8_0 (f8_0 (-1 : Int32) x1) x2) x3))] []))) (fun τ κ => XS.icmpNo X59.here hx rfl (hb hby at_150) rfl (teq (own_ch_uniq (own_large_ch hp hs hf1 hf2 hf3) (own_ch_pos (own_ch_pos (own_ch_pos own_ch_nil hc96_38) hc114_50) hc132_56))).2 κ) ?_
                refine own_go (S' := (T59.setTop (mkF m 154 #[.val (.int x0), .val (.int x1), .val (.int x2), .val (.int x3), .val (.int (3 : Int32)), .val (.ref b32), .val (.ref b36), .val (.int (f8_0 (f8_0 (f8_0 (-1 : Int32) x1) x2) x3))] [(.int (1 : Int32))]))) (fun τ κ => XT.iconstV X59.here hx rfl (1 : Int32) (hb hby at_153) (by decide) κ) ?_
                refine own_go (S' := (T59.setTop (mkF m 158 #[.val (.int x0), .val (.int x1), .val (.int x2), .val (.int x3), .val (.int (3 : Int32)), .val (.ref b32), .val (.ref b36), .val (.int (f8_0 (f8_0 (f8_0 (-1 : Int32) x1) x2) x3))] [(.int (1 : Int32))]))) (fun τ κ => XS.goto X59.here hx rfl (pc0 := 154) (pc' := 158) rfl (hb hby at_154) (by decide) (by decide) κ) ?_
                exact own_retN X59 hx hret hlk (by simp) (hb hby at_158) (by first | rfl | decide) (by decide) (by decide) ⟨rfl, N37⟩
set_option maxRecDepth 65536 in
set_option maxHeartbeats 40000000 in
theorem comes_1 {Post : Tables → Env → Array Value → State → Outcome → State → Prop} (hpost : ∀ tb e args s v u, (limb_1_1.after args s (.returned v) u = true ∧ limb_1_2.after args s (.returned v) u = true) → FrameEnd s (.returned v) u (Jvm.fieldLocs frame_1_writes args s ++ Jvm.arrayLocs frame_1_arrays args s ++ Jvm.staticLocs frame_1_statics s) 16 128 → Post tb e args s (.returned v) u) :
    ArmFor flags0 classFile x code maxLocals ret World_1 tables_1 room_1 Calls_1 rest_1 Pre_1 Post := by
  intro l hfl _ _ p e ha hc hk s m args below hf hA hF happ hP
  obtain ⟨hcalls, hrest, hpre⟩ := hP
  obtain ⟨-, -, -, hnamed, -, -, -, hat⟩ := (Spec.applies_iff hf).mp happ
  obtain ⟨hg, hn⟩ := and_e (Cond.before_iff.mp (show (Jvm.Cond.and given_1 narrow_1).before args s = true from hpre))
  obtain ⟨hga, hgb⟩ := and_e hg
  obtain ⟨hgba, hgbb⟩ := and_e hgb
  obtain ⟨hgbba, hgbbb⟩ := and_e hgbb
  obtain ⟨hgbbba, hgbbbb⟩ := and_e hgbbb
  obtain ⟨w0, w1, w2, w3, rfl⟩ : ∃ w0 w1 w2 w3 : Value, args = #[w0, w1, w2, w3] := by
    have hs : args.size = 4 := by simpa [Cond.value, given_1] using hga
    obtain ⟨L⟩ := args
    match L, hs with
    | [w0, w1, w2, w3], _ => exact ⟨w0, w1, w2, w3, rfl⟩
  have hw := fun d (hd : d ∈ tables_1) => atoms_spec (ws := Jvm.Cond.code x code maxLocals ret :: tables_1) hat d (List.mem_cons_of_mem _ hd)
  obtain ⟨i0, ei0⟩ := is_v hgba
  obtain rfl : w0 = (.int i0) := Option.some.inj ei0
  obtain ⟨i1, ei1⟩ := is_v hgbba
  obtain rfl : w1 = (.int i1) := Option.some.inj ei1
  obtain ⟨i2, ei2⟩ := is_v hgbbba
  obtain rfl : w2 = (.int i2) := Option.some.inj ei2
  obtain ⟨i3, ei3⟩ := is_v hgbbbb
  obtain rfl : w3 = (.int i3) := Option.some.inj ei3
  obtain ⟨n, o, h1, h2, h3, _, L, rfl, ⟨rfl, N⟩, hq⟩ := rm0 l s _ hw tables_1 i0 i1 i2 i3 s.heap s.heap.size (Nat.le_refl _) p e ha hc hk s m _ below hf ((Spec.applies_iff_loose hf).mp happ).1 ⟨rfl, State.Warmed39.refl s, rfl⟩ trivial
  refine ⟨n, _, h1, h2, h3, hpost _ _ _ _ _ _ ⟨Cond.after_iff.mpr rfl, Cond.after_iff.mpr (eq_i res_at (Term.int_eval (1)) rfl)⟩ ⟨hq.1, hq.2.1, (hq.2.2.sift fun y hy => Or.inr (N y hy)).mono (by decide) (by decide)⟩⟩
theorem main_1_1 : Claimed_1_1 := comes_1 fun _ _ _ _ _ _ h hF => ⟨h.1, hF⟩
theorem main_1_2 : Claimed_1_2 := comes_1 fun _ _ _ _ _ _ h hF => ⟨h.2, hF⟩
end Jvm.Pilot.@@N@@
namespace Jvm.Pilot.@@N@@
open Jvm Jvm.ClassFile Sem Op Lib Jvm.Free Jvm.Stand Jvm.Pilot.@@N@@.Jvm.D
/-! MADE BY PROGRAM (witnessworld.py) out of the Statement's table words and the real class files: 12 classes; the members and pool entries that the words name. The judged class is class 1, her method 1. -/
namespace start1
open Jvm.ClassFile
def u (s : String) : CpInfo := .utf8 (stringToUtf16 s)
/-- a pool by its gaps: so many unusable entries, then the entry; so many at the end -/
def gap : Nat → List CpInfo → List CpInfo
  | 0, r => r
  | n + 1, r => .unusable :: gap n r
def poolList (es : List (Nat × CpInfo)) (last : Nat) : List CpInfo := es.foldr (fun e r => gap e.1 (e.2 :: r)) (gap last [])
def pool (es : List (Nat × CpInfo)) (last : Nat) : Array CpInfo := ⟨poolList es last⟩
def fileOf (pool : Array CpInfo) (this : Nat) (attrs : Array Attribute := #[]) (ms : Array MethodInfo := #[]) (fl : Nat := 33) (sup : Nat := 0) (ifs : Array Nat := #[]) (fds : Array FieldInfo := #[]) : ClassFile where
  minorVersion := 0
  majorVersion := 65
  constantPool := pool
  accessFlags := fl
  thisClass := this
  superClass := sup
  interfaces := ifs
  fields := fds
  methods := ms
  attributes := attrs
def plain (name : String) (sup : Option ClassId) : Class where
  name := name
  kind := .ordinary
  loader := none
  accessFlags := 33
  super := sup
  interfaces := #[]
  cf := none
  fields := #[]
  methods := #[]
  instanceTypes := #[]
  staticTypes := #[]
  resolved := #[]
  callSites := []
  init := .initialized
  statics := none
  mirror := none

def pool0 : Array CpInfo := pool [(5, u "<init>"), (0, u "()V"), (1, .class_ 10), (1, u "java/lang/Object")] 113

def k0c0 : Code := { maxStack := 0, maxLocals := 1, code := object_method_1_code, exceptionTable := #[], attributes := #[] }
def k0m0 : Method := { name := "<init>", desc := "()V", sig := { parameters := [], returnType := none }, accessFlags := 1, code := some k0c0 }
/-- java/lang/Object -/
def k0 : Class := { plain "java/lang/Object" none with
  accessFlags := 33
  interfaces := #[]
  cf := some (fileOf pool0 8 #[] #[{ accessFlags := 1, nameIndex := 5, descriptorIndex := 6, attributes := #[] }] 33 0 #[] #[])
  fields := #[]
  methods := #[k0m0]
  instanceTypes := #[]
  staticTypes := #[]
  resolved := Array.replicate 124 none
  statics := none }

def pool1 : Array CpInfo := pool [(2, .class_ 4), (1, u "java/lang/Object"), (0, u "<init>"), (0, u "()V"), (0, .class_ 8), (0, u "com/example/twinhash/twinhash/shingle/ShingleSet"), (0, .methodref 7 10), (0, .nameAndType 5 11), (0, u "([I)V"), (0, .methodref 13 14), (0, .class_ 15), (0, .nameAndType 16 17), (0, u "java/lang/Math"), (0, u "max"), (0, u "(II)I"), (0, .methodref 7 19), (0, .nameAndType 20 21), (0, u "largestCode"), (0, u "()I"), (0, .class_ 23), (0, u "com/example/twinhash/twinhash/shingle/ShingleSetLargestCodePinLaw"), (2, u "law"), (0, u "(IIII)Z")] 5

def k1m0 : Method := { name := "<init>", desc := "()V", sig := { parameters := [], returnType := none }, accessFlags := 1, code := none }
def k1c1 : Code := { maxStack := 3, maxLocals := 8, code := code, exceptionTable := #[], attributes := #[] }
def k1m1 : Method := { name := "law", desc := "(IIII)Z", sig := { parameters := [.int, .int, .int, .int], returnType := some .boolean }, accessFlags := 9, code := some k1c1 }
/-- com/example/twinhash/twinhash/shingle/ShingleSetLargestCodePinLaw -/
def k1 : Class := { plain "com/example/twinhash/twinhash/shingle/ShingleSetLargestCodePinLaw" (some 0) with
  accessFlags := 49
  interfaces := #[]
  cf := some (fileOf pool1 22 #[] #[{ accessFlags := 1, nameIndex := 5, descriptorIndex := 6, attributes := #[] }, { accessFlags := 9, nameIndex := 26, descriptorIndex := 27, attributes := #[] }] 49 2 #[] #[])
  fields := #[]
  methods := #[k1m0, k1m1]
  instanceTypes := #[]
  staticTypes := #[]
  resolved := Array.replicate 33 none
  statics := none }

def pool2 : Array CpInfo := pool [(1, .methodref 2 3), (0, .class_ 4), (0, .nameAndType 5 6), (0, u "java/lang/Object"), (0, u "<init>"), (0, u "()V"), (0, .methodref 8 9), (0, .class_ 10), (0, .nameAndType 11 12), (0, u "java/util/Arrays"), (0, u "sort"), (0, u "([I)V"), (0, .fieldref 14 15), (0, .class_ 16), (0, .nameAndType 17 18), (0, u "com/example/twinhash/twinhash/shingle/ShingleSet"), (0, u "codes"), (0, u "[I"), (0, .fieldref 14 20), (0, .nameAndType 21 22), (0, u "firstSeen"), (0, u "I"), (7, u "()I"), (2, u "largestCode")] 8

def k2c0 : Code := { maxStack := 2, maxLocals := 3, code := prog_29_method_1_code, exceptionTable := #[], attributes := #[] }
def k2m0 : Method := { name := "<init>", desc := "([I)V", sig := { parameters := [(.array .int)], returnType := none }, accessFlags := 0, code := some k2c0 }
def k2c1 : Code := { maxStack := 3, maxLocals := 1, code := prog_29_method_4_code, exceptionTable := #[], attributes := #[] }
def k2m1 : Method := { name := "largestCode", desc := "()I", sig := { parameters := [], returnType := some .int }, accessFlags := 0, code := some k2c1 }
/-- com/example/twinhash/twinhash/shingle/ShingleSet -/
def k2 : Class := { plain "com/example/twinhash/twinhash/shingle/ShingleSet" (some 0) with
  accessFlags := 33
  interfaces := #[]
  cf := some (fileOf pool2 14 #[] #[{ accessFlags := 0, nameIndex := 5, descriptorIndex := 12, attributes := #[] }, { accessFlags := 0, nameIndex := 33, descriptorIndex := 30, attributes := #[] }] 33 2 #[] #[{ accessFlags := 18, nameIndex := 17, descriptorIndex := 18, attributes := #[] }, { accessFlags := 18, nameIndex := 21, descriptorIndex := 22, attributes := #[] }])
  fields := #[{ name := "codes", type := (.array .int), accessFlags := 18, slot := 0, constantValue := 0 }, { name := "firstSeen", type := .int, accessFlags := 18, slot := 1, constantValue := 0 }]
  methods := #[k2m0, k2m1]
  instanceTypes := #[(.array .int), .int]
  staticTypes := #[]
  resolved := Array.replicate 42 none
  statics := none }

def pool3 : Array CpInfo := pool [(2, .class_ 4), (1, u "java/lang/Object"), (0, u "<init>"), (0, u "()V"), (0, .methodref 8 9), (0, .class_ 10), (0, .nameAndType 11 12), (0, u "java/util/DualPivotQuicksort"), (0, u "sort"), (0, u "([IIII)V"), (1, .class_ 16), (1, u "java/util/Arrays"), (57, .class_ 76), (1, u "java/util/Arrays$NaturalOrder"), (36, .class_ 115), (1, u "java/util/Arrays$LegacyMergeSort"), (1, u "Z"), (257, .class_ 376), (0, u "java/util/Arrays$ArrayList"), (68, u "$assertionsDisabled"), (269, u "MIN_ARRAY_SORT_GRAN"), (0, u "I"), (2, u "INSERTIONSORT_THRESHOLD"), (6, u "([I)V"), (248, .class_ 976), (0, u "java/util/Arrays$ArrayItr")] 52

def k3m0 : Method := { name := "<init>", desc := "()V", sig := { parameters := [], returnType := none }, accessFlags := 2, code := none }
def k3c1 : Code := { maxStack := 4, maxLocals := 1, code := jdk_65_method_2_code, exceptionTable := #[], attributes := #[] }
def k3m1 : Method := { name := "sort", desc := "([I)V", sig := { parameters := [(.array .int)], returnType := none }, accessFlags := 9, code := some k3c1 }
/-- java/util/Arrays -/
def k3 : Class := { plain "java/util/Arrays" (some 0) with
  accessFlags := 49
  interfaces := #[]
  cf := some (fileOf pool3 14 #[.nestMembers #[975, 375, 113, 74]] #[{ accessFlags := 2, nameIndex := 5, descriptorIndex := 6, attributes := #[] }, { accessFlags := 9, nameIndex := 11, descriptorIndex := 726, attributes := #[] }] 49 2 #[] #[{ accessFlags := 26, nameIndex := 715, descriptorIndex := 716, attributes := #[] }, { accessFlags := 26, nameIndex := 719, descriptorIndex := 716, attributes := #[] }, { accessFlags := 4120, nameIndex := 445, descriptorIndex := 117, attributes := #[] }])
  fields := #[{ name := "MIN_ARRAY_SORT_GRAN", type := .int, accessFlags := 26, slot := 0, constantValue := 0 }, { name := "INSERTIONSORT_THRESHOLD", type := .int, accessFlags := 26, slot := 1, constantValue := 0 }, { name := "$assertionsDisabled", type := .boolean, accessFlags := 4120, slot := 2, constantValue := 0 }]
  methods := #[k3m0, k3m1]
  instanceTypes := #[]
  staticTypes := #[.int, .int, .boolean]
  resolved := Array.replicate 1029 none
  statics := none }

def pool4 : Array CpInfo := pool [(1, .class_ 2), (0, u "java/util/DualPivotQuicksort"), (5, .class_ 10), (1, u "java/lang/Object"), (0, u "<init>"), (0, u "()V"), (4, .class_ 18), (0, u "java/util/DualPivotQuicksort$Sorter"), (7, .methodref 1 27), (0, .nameAndType 28 29), (0, u "sort"), (0, u "(Ljava/util/DualPivotQuicksort$Sorter;[IIII)V"), (3, u "([IIII)V"), (0, .methodref 1 35), (0, .nameAndType 36 37), (0, u "insertionSort"), (0, u "([III)V"), (30, u "I"), (4, .class_ 74), (0, u "java/util/DualPivotQuicksort$RunMerger"), (10, .class_ 86), (0, u "java/util/DualPivotQuicksort$Merger"), (127, u "MAX_MIXED_INSERTION_SORT_SIZE"), (2, u "MAX_INSERTION_SORT_SIZE"), (1, u "MIN_PARALLEL_SORT_SIZE"), (1, u "MIN_TRY_MERGE_SIZE"), (0, u "MIN_FIRST_RUN_SIZE"), (1, u "MIN_FIRST_RUNS_FACTOR"), (1, u "MAX_RUN_CAPACITY"), (1, u "MIN_RUN_COUNT"), (1, u "MIN_PARALLEL_MERGE_PARTS_SIZE"), (0, u "MIN_BYTE_COUNTING_SORT_SIZE"), (1, u "MIN_SHORT_OR_CHAR_COUNTING_SORT_SIZE"), (1, u "DELTA"), (1, u "MAX_RECURSION_DEPTH"), (1, u "NUM_BYTE_VALUES"), (1, u "MAX_BYTE_INDEX"), (0, u "NUM_CHAR_VALUES"), (0, u "NUM_SHORT_VALUES"), (0, u "MAX_SHORT_INDEX")] 86

def k4m0 : Method := { name := "<init>", desc := "()V", sig := { parameters := [], returnType := none }, accessFlags := 2, code := none }
def k4c1 : Code := { maxStack := 9, maxLocals := 7, code := jdk_2529_method_3_code, exceptionTable := #[], attributes := #[] }
def k4m1 : Method := { name := "sort", desc := "([IIII)V", sig := { parameters := [(.array .int), .int, .int, .int], returnType := none }, accessFlags := 8, code := some k4c1 }
def k4c2 : Code := { maxStack := 6, maxLocals := 21, code := jdk_2529_method_4_code, exceptionTable := #[], attributes := #[] }
def k4m2 : Method := { name := "sort", desc := "(Ljava/util/DualPivotQuicksort$Sorter;[IIII)V", sig := { parameters := [(.object "java/util/DualPivotQuicksort$Sorter"), (.array .int), .int, .int, .int], returnType := none }, accessFlags := 8, code := some k4c2 }
def k4c3 : Code := { maxStack := 4, maxLocals := 6, code := jdk_2529_method_6_code, exceptionTable := #[], attributes := #[] }
def k4m3 : Method := { name := "insertionSort", desc := "([III)V", sig := { parameters := [(.array .int), .int, .int], returnType := none }, accessFlags := 10, code := some k4c3 }
/-- java/util/DualPivotQuicksort -/
def k4 : Class := { plain "java/util/DualPivotQuicksort" (some 0) with
  accessFlags := 48
  interfaces := #[]
  cf := some (fileOf pool4 1 #[.nestMembers #[73, 85, 17]] #[{ accessFlags := 2, nameIndex := 11, descriptorIndex := 12, attributes := #[] }, { accessFlags := 8, nameIndex := 28, descriptorIndex := 33, attributes := #[] }, { accessFlags := 8, nameIndex := 28, descriptorIndex := 29, attributes := #[] }, { accessFlags := 10, nameIndex := 36, descriptorIndex := 37, attributes := #[] }] 48 8 #[] #[{ accessFlags := 26, nameIndex := 214, descriptorIndex := 68, attributes := #[] }, { accessFlags := 26, nameIndex := 217, descriptorIndex := 68, attributes := #[] }, { accessFlags := 26, nameIndex := 219, descriptorIndex := 68, attributes := #[] }, { accessFlags := 26, nameIndex := 221, descriptorIndex := 68, attributes := #[] }, { accessFlags := 26, nameIndex := 222, descriptorIndex := 68, attributes := #[] }, { accessFlags := 26, nameIndex := 224, descriptorIndex := 68, attributes := #[] }, { accessFlags := 26, nameIndex := 226, descriptorIndex := 68, attributes := #[] }, { accessFlags := 26, nameIndex := 228, descriptorIndex := 68, attributes := #[] }, { accessFlags := 26, nameIndex := 230, descriptorIndex := 68, attributes := #[] }, { accessFlags := 26, nameIndex := 231, descriptorIndex := 68, attributes := #[] }, { accessFlags := 26, nameIndex := 233, descriptorIndex := 68, attributes := #[] }, { accessFlags := 26, nameIndex := 235, descriptorIndex := 68, attributes := #[] }, { accessFlags := 26, nameIndex := 237, descriptorIndex := 68, attributes := #[] }, { accessFlags := 26, nameIndex := 239, descriptorIndex := 68, attributes := #[] }, { accessFlags := 26, nameIndex := 241, descriptorIndex := 68, attributes := #[] }, { accessFlags := 26, nameIndex := 242, descriptorIndex := 68, attributes := #[] }, { accessFlags := 26, nameIndex := 243, descriptorIndex := 68, attributes := #[] }, { accessFlags := 26, nameIndex := 244, descriptorIndex := 68, attributes := #[] }])
  fields := #[{ name := "MAX_MIXED_INSERTION_SORT_SIZE", type := .int, accessFlags := 26, slot := 0, constantValue := 0 }, { name := "MAX_INSERTION_SORT_SIZE", type := .int, accessFlags := 26, slot := 1, constantValue := 0 }, { name := "MIN_PARALLEL_SORT_SIZE", type := .int, accessFlags := 26, slot := 2, constantValue := 0 }, { name := "MIN_TRY_MERGE_SIZE", type := .int, accessFlags := 26, slot := 3, constantValue := 0 }, { name := "MIN_FIRST_RUN_SIZE", type := .int, accessFlags := 26, slot := 4, constantValue := 0 }, { name := "MIN_FIRST_RUNS_FACTOR", type := .int, accessFlags := 26, slot := 5, constantValue := 0 }, { name := "MAX_RUN_CAPACITY", type := .int, accessFlags := 26, slot := 6, constantValue := 0 }, { name := "MIN_RUN_COUNT", type := .int, accessFlags := 26, slot := 7, constantValue := 0 }, { name := "MIN_PARALLEL_MERGE_PARTS_SIZE", type := .int, accessFlags := 26, slot := 8, constantValue := 0 }, { name := "MIN_BYTE_COUNTING_SORT_SIZE", type := .int, accessFlags := 26, slot := 9, constantValue := 0 }, { name := "MIN_SHORT_OR_CHAR_COUNTING_SORT_SIZE", type := .int, accessFlags := 26, slot := 10, constantValue := 0 }, { name := "DELTA", type := .int, accessFlags := 26, slot := 11, constantValue := 0 }, { name := "MAX_RECURSION_DEPTH", type := .int, accessFlags := 26, slot := 12, constantValue := 0 }, { name := "NUM_BYTE_VALUES", type := .int, accessFlags := 26, slot := 13, constantValue := 0 }, { name := "MAX_BYTE_INDEX", type := .int, accessFlags := 26, slot := 14, constantValue := 0 }, { name := "NUM_CHAR_VALUES", type := .int, accessFlags := 26, slot := 15, constantValue := 0 }, { name := "NUM_SHORT_VALUES", type := .int, accessFlags := 26, slot := 16, constantValue := 0 }, { name := "MAX_SHORT_INDEX", type := .int, accessFlags := 26, slot := 17, constantValue := 0 }]
  methods := #[k4m0, k4m1, k4m2, k4m3]
  instanceTypes := #[]
  staticTypes := #[.int, .int, .int, .int, .int, .int, .int, .int, .int, .int, .int, .int, .int, .int, .int, .int, .int, .int]
  resolved := Array.replicate 331 none
  statics := none }

def pool5 : Array CpInfo := pool [(1, .class_ 2), (0, u "java/lang/Math"), (1, .class_ 6), (1, u "java/lang/Object"), (0, u "<init>"), (0, u "()V"), (89, .class_ 100), (1, u "java/lang/Math$RandomNumberGeneratorHolder"), (71, u "negativeZeroFloatBits"), (0, u "J"), (2, u "negativeZeroDoubleBits"), (21, u "max"), (46, u "$assertionsDisabled"), (0, u "Z"), (88, u "(II)I"), (2, u "twoToTheDoubleScaleDown"), (0, u "D"), (4, u "twoToTheDoubleScaleUp"), (9, u "E"), (3, u "PI"), (2, u "TAU"), (2, u "DEGREES_TO_RADIANS"), (0, u "RADIANS_TO_DEGREES")] 94

def k5m0 : Method := { name := "<init>", desc := "()V", sig := { parameters := [], returnType := none }, accessFlags := 2, code := none }
def k5c1 : Code := { maxStack := 2, maxLocals := 2, code := jdk_29_method_65_code, exceptionTable := #[], attributes := #[] }
def k5m1 : Method := { name := "max", desc := "(II)I", sig := { parameters := [.int, .int], returnType := some .int }, accessFlags := 9, code := some k5c1 }
/-- java/lang/Math -/
def k5 : Class := { plain "java/lang/Math" (some 0) with
  accessFlags := 49
  interfaces := #[]
  cf := some (fileOf pool5 1 #[.nestMembers #[98]] #[{ accessFlags := 2, nameIndex := 7, descriptorIndex := 8, attributes := #[] }, { accessFlags := 9, nameIndex := 198, descriptorIndex := 335, attributes := #[] }] 49 4 #[] #[{ accessFlags := 25, nameIndex := 354, descriptorIndex := 339, attributes := #[] }, { accessFlags := 25, nameIndex := 358, descriptorIndex := 339, attributes := #[] }, { accessFlags := 25, nameIndex := 361, descriptorIndex := 339, attributes := #[] }, { accessFlags := 26, nameIndex := 364, descriptorIndex := 339, attributes := #[] }, { accessFlags := 26, nameIndex := 365, descriptorIndex := 339, attributes := #[] }, { accessFlags := 26, nameIndex := 172, descriptorIndex := 173, attributes := #[] }, { accessFlags := 26, nameIndex := 176, descriptorIndex := 173, attributes := #[] }, { accessFlags := 8, nameIndex := 344, descriptorIndex := 339, attributes := #[] }, { accessFlags := 8, nameIndex := 338, descriptorIndex := 339, attributes := #[] }, { accessFlags := 4120, nameIndex := 245, descriptorIndex := 246, attributes := #[] }])
  fields := #[{ name := "E", type := .double, accessFlags := 25, slot := 0, constantValue := 0 }, { name := "PI", type := .double, accessFlags := 25, slot := 1, constantValue := 0 }, { name := "TAU", type := .double, accessFlags := 25, slot := 2, constantValue := 0 }, { name := "DEGREES_TO_RADIANS", type := .double, accessFlags := 26, slot := 3, constantValue := 0 }, { name := "RADIANS_TO_DEGREES", type := .double, accessFlags := 26, slot := 4, constantValue := 0 }, { name := "negativeZeroFloatBits", type := .long, accessFlags := 26, slot := 5, constantValue := 0 }, { name := "negativeZeroDoubleBits", type := .long, accessFlags := 26, slot := 6, constantValue := 0 }, { name := "twoToTheDoubleScaleUp", type := .double, accessFlags := 8, slot := 7, constantValue := 0 }, { name := "twoToTheDoubleScaleDown", type := .double, accessFlags := 8, slot := 8, constantValue := 0 }, { name := "$assertionsDisabled", type := .boolean, accessFlags := 4120, slot := 9, constantValue := 0 }]
  methods := #[k5m0, k5m1]
  instanceTypes := #[]
  staticTypes := #[.double, .double, .double, .double, .double, .long, .long, .double, .double, .boolean]
  resolved := Array.replicate 460 none
  statics := none }

def pool6 : Array CpInfo := pool [(1, u "java/lang/Cloneable"), (0, .class_ 1), (0, u "java/lang/Object"), (0, .class_ 3)] 3

/-- java/lang/Cloneable -/
def k6 : Class := { plain "java/lang/Cloneable" (some 0) with
  accessFlags := 1537
  interfaces := #[]
  cf := some (fileOf pool6 2 #[] #[] 1537 4 #[] #[])
  fields := #[]
  methods := #[]
  instanceTypes := #[]
  staticTypes := #[]
  resolved := Array.replicate 8 none
  statics := none }

def pool7 : Array CpInfo := pool [(1, u "java/io/Serializable"), (0, .class_ 1), (0, u "java/lang/Object"), (0, .class_ 3)] 3

/-- java/io/Serializable -/
def k7 : Class := { plain "java/io/Serializable" (some 0) with
  accessFlags := 1537
  interfaces := #[]
  cf := some (fileOf pool7 2 #[] #[] 1537 4 #[] #[])
  fields := #[]
  methods := #[]
  instanceTypes := #[]
  staticTypes := #[]
  resolved := Array.replicate 8 none
  statics := none }

/-- the primitive byte -/
def k8 : Class := { plain "byte" none with kind := .primitive 'B', accessFlags := 0x411 }
/-- [B -/
def k9 : Class := { plain "[B" (some 0) with kind := .array 8 .byte, interfaces := #[6, 7], accessFlags := 1041 }

/-- the primitive int -/
def k10 : Class := { plain "int" none with kind := .primitive 'I', accessFlags := 0x411 }
/-- [I -/
def k11 : Class := { plain "[I" (some 0) with kind := .array 10 .int, interfaces := #[6, 7], accessFlags := 1041 }

def heap : Heap := #[]
def classes : Array Class := #[k0, k1, k2, k3, k4, k5, k6, k7, k8, k9, k10, k11]
def interned : List (Array UInt16 × Addr) := []
def slotsUsed : Nat := 0
def theMethod : MethodId := ⟨1, 1⟩
def args0 : Array Value := #[.int 2, .int 5, .int 7, .int 9]
def aboutOver (below : List Frame) : State where
  vm := { classes := classes, interned := interned.toArray }
  heap := heap
  slotsUsed := slotsUsed
  threads := #[{ frames := .invoking theMethod args0 :: below }]
def below0 : List Frame := [.native { method := ⟨0, 0⟩, args := #[] }]
def about1 : State := aboutOver below0
def p0 : Program := .bare "" "" ""
def e0 : Env := launch0.env 0 0 0
theorem w_frames : about1.frames = Frame.invoking theMethod args0 :: below0 := rfl
set_option maxRecDepth 65536 in
theorem w_args : argsFit about1.vm theMethod args0 = true := by decide +kernel
set_option maxRecDepth 65536 in
theorem w_heap : heapFits about1 = true := by decide +kernel
set_option maxRecDepth 65536 in
theorem w_runnable : about1.curStatus? = some .runnable := by decide +kernel
set_option maxRecDepth 65536 in
theorem w_alone : about1.alone = true := by decide +kernel
set_option maxRecDepth 65536 in
theorem w_named : about1.methodNamed? x = some theMethod := by decide +kernel
set_option maxRecDepth 65536 in
theorem w_hears : about1.hears theMethod below0 = true := by decide +kernel
set_option maxRecDepth 65536 in
theorem w_ripe : about1.ripe theMethod args0 below0 = true := by decide +kernel
theorem w_running : about1.status = .running := rfl
set_option maxRecDepth 65536 in
theorem w_room : about1.hasRoom e0.platform room_1 = true :=
  launch0.hasRoom_least _ room_1 (by decide +kernel) (by decide +kernel) (by decide +kernel) (by decide +kernel) (by decide +kernel) (by decide +kernel)
theorem allAtoms_all (ts : List Jvm.Cond) (a : Array Jvm.Value) (st : Jvm.State) : (allAtoms ts).before a st = ts.all (fun c => c.before a st) := by
  induction ts with
  | nil => rfl
  | cons c t ih =>
    show (Jvm.Cond.and c (allAtoms t)).before a st = _
    rw [Jvm.Cond.before_and, ih, List.all_cons]
def words1 : List Jvm.Cond := Jvm.Cond.code x code maxLocals ret :: tables_1
/-- a 'code' word, met by the world's own term for the bytes: nothing is compared byte by byte -/
theorem code_word {y : MethodName} {bytes : ByteArray} {mx : Nat} {rt : Option FieldType} {a : Array Value} {s : State} {m : MethodId} {meth : Method} {c : Code} (h1 : s.methodNamed? y = some m) (h2 : s.vm.method? m = some meth) (h3 : meth.code = some c) (h4 : c.code = bytes)
    (h5 : (c.maxLocals == mx && c.exceptionTable.isEmpty && decide (c.maxStack ≤ mostOperands) && decide (meth.sig.returnType = rt) && !meth.locks && decide (parseMethodDescriptor y.desc = some meth.sig)) = true) : (Jvm.Cond.code y bytes mx rt).before a s = true := by
  simp only [Bool.and_eq_true, beq_iff_eq, Bool.not_eq_true', decide_eq_true_eq] at h5
  obtain ⟨⟨⟨⟨⟨g1, g2⟩, g3⟩, g4⟩, g5⟩, g6⟩ := h5
  simp [Cond.before, Cond.holds, Cond.value, h1, h2, h3, h4, g1, g2, g3, g4, g5, g6]
def isCode : Jvm.Cond → Bool
  | .code _ _ _ _ => true
  | _ => false
theorem all_split {L : List Jvm.Cond} {P : Jvm.Cond → Bool} (h1 : L.all (fun c => isCode c || P c) = true) (h2 : ∀ c ∈ L.filter isCode, P c = true) : L.all P = true := by
  refine List.all_eq_true.mpr fun c hc => ?_
  have h := List.all_eq_true.mp h1 c hc
  rcases Bool.eq_false_or_eq_true (isCode c) with hi | hi
  · exact h2 c (List.mem_filter.mpr ⟨hc, hi⟩)
  · simpa [hi] using h
set_option maxRecDepth 65536 in
theorem w_c0 : (Jvm.Cond.code x code maxLocals ret).before args0 about1 = true := code_word (m := ⟨1, 1⟩) (meth := k1m1) (c := k1c1) (by decide +kernel) rfl rfl rfl (by decide +kernel)
set_option maxRecDepth 65536 in
theorem w_c1 : (Jvm.Cond.code ({ cls := "com/example/twinhash/twinhash/shingle/ShingleSet", name := "<init>", desc := "([I)V" } : Jvm.MethodName) prog_29_method_1_code (3 : Nat) (Option.none : Option Jvm.ClassFile.FieldType)).before args0 about1 = true := code_word (m := ⟨2, 0⟩) (meth := k2m0) (c := k2c0) (by decide +kernel) rfl rfl rfl (by decide +kernel)
set_option maxRecDepth 65536 in
theorem w_c2 : (Jvm.Cond.code ({ cls := "java/lang/Object", name := "<init>", desc := "()V" } : Jvm.MethodName) object_method_1_code (1 : Nat) (Option.none : Option Jvm.ClassFile.FieldType)).before args0 about1 = true := code_word (m := ⟨0, 0⟩) (meth := k0m0) (c := k0c0) (by decide +kernel) rfl rfl rfl (by decide +kernel)
set_option maxRecDepth 65536 in
theorem w_c3 : (Jvm.Cond.code ({ cls := "java/util/Arrays", name := "sort", desc := "([I)V" } : Jvm.MethodName) jdk_65_method_2_code (1 : Nat) (Option.none : Option Jvm.ClassFile.FieldType)).before args0 about1 = true := code_word (m := ⟨3, 1⟩) (meth := k3m1) (c := k3c1) (by decide +kernel) rfl rfl rfl (by decide +kernel)
set_option maxRecDepth 65536 in
theorem w_c4 : (Jvm.Cond.code ({ cls := "java/util/DualPivotQuicksort", name := "sort", desc := "([IIII)V" } : Jvm.MethodName) jdk_2529_method_3_code (7 : Nat) (Option.none : Option Jvm.ClassFile.FieldType)).before args0 about1 = true := code_word (m := ⟨4, 1⟩) (meth := k4m1) (c := k4c1) (by decide +kernel) rfl rfl rfl (by decide +kernel)
set_option maxRecDepth 65536 in
theorem w_c5 : (Jvm.Cond.code ({ cls := "java/util/DualPivotQuicksort", name := "sort", desc := "(Ljava/util/DualPivotQuicksort$Sorter;[IIII)V" } : Jvm.MethodName) jdk_2529_method_4_code (21 : Nat) (Option.none : Option Jvm.ClassFile.FieldType)).before args0 about1 = true := code_word (m := ⟨4, 2⟩) (meth := k4m2) (c := k4c2) (by decide +kernel) rfl rfl rfl (by decide +kernel)
set_option maxRecDepth 65536 in
theorem w_c6 : (Jvm.Cond.code ({ cls := "java/util/DualPivotQuicksort", name := "insertionSort", desc := "([III)V" } : Jvm.MethodName) jdk_2529_method_6_code (6 : Nat) (Option.none : Option Jvm.ClassFile.FieldType)).before args0 about1 = true := code_word (m := ⟨4, 3⟩) (meth := k4m3) (c := k4c3) (by decide +kernel) rfl rfl rfl (by decide +kernel)
set_option maxRecDepth 65536 in
theorem w_c7 : (Jvm.Cond.code ({ cls := "com/example/twinhash/twinhash/shingle/ShingleSet", name := "largestCode", desc := "()I" } : Jvm.MethodName) prog_29_method_4_code (1 : Nat) (Option.some Jvm.ClassFile.FieldType.int)).before args0 about1 = true := code_word (m := ⟨2, 1⟩) (meth := k2m1) (c := k2c1) (by decide +kernel) rfl rfl rfl (by decide +kernel)
set_option maxRecDepth 65536 in
theorem w_c8 : (Jvm.Cond.code ({ cls := "java/lang/Math", name := "max", desc := "(II)I" } : Jvm.MethodName) jdk_29_method_65_code (2 : Nat) (Option.some Jvm.ClassFile.FieldType.int)).before args0 about1 = true := code_word (m := ⟨5, 1⟩) (meth := k5m1) (c := k5c1) (by decide +kernel) rfl rfl rfl (by decide +kernel)
def codes1 : List Jvm.Cond := [Jvm.Cond.code x code maxLocals ret, Jvm.Cond.code ({ cls := "com/example/twinhash/twinhash/shingle/ShingleSet", name := "<init>", desc := "([I)V" } : Jvm.MethodName) prog_29_method_1_code (3 : Nat) (Option.none : Option Jvm.ClassFile.FieldType), Jvm.Cond.code ({ cls := "java/lang/Object", name := "<init>", desc := "()V" } : Jvm.MethodName) object_method_1_code (1 : Nat) (Option.none : Option Jvm.ClassFile.FieldType), Jvm.Cond.code ({ cls := "java/util/Arrays", name := "sort", desc := "([I)V" } : Jvm.MethodName) jdk_65_method_2_code (1 : Nat) (Option.none : Option Jvm.ClassFile.FieldType), Jvm.Cond.code ({ cls := "java/util/DualPivotQuicksort", name := "sort", desc := "([IIII)V" } : Jvm.MethodName) jdk_2529_method_3_code (7 : Nat) (Option.none : Option Jvm.ClassFile.FieldType), Jvm.Cond.code ({ cls := "java/util/DualPivotQuicksort", name := "sort", desc := "(Ljava/util/DualPivotQuicksort$Sorter;[IIII)V" } : Jvm.MethodName) jdk_2529_method_4_code (21 : Nat) (Option.none : Option Jvm.ClassFile.FieldType), Jvm.Cond.code ({ cls := "java/util/DualPivotQuicksort", name := "insertionSort", desc := "([III)V" } : Jvm.MethodName) jdk_2529_method_6_code (6 : Nat) (Option.none : Option Jvm.ClassFile.FieldType), Jvm.Cond.code ({ cls := "com/example/twinhash/twinhash/shingle/ShingleSet", name := "largestCode", desc := "()I" } : Jvm.MethodName) prog_29_method_4_code (1 : Nat) (Option.some Jvm.ClassFile.FieldType.int), Jvm.Cond.code ({ cls := "java/lang/Math", name := "max", desc := "(II)I" } : Jvm.MethodName) jdk_29_method_65_code (2 : Nat) (Option.some Jvm.ClassFile.FieldType.int)]
set_option maxRecDepth 65536 in
theorem codes_eq : words1.filter isCode = codes1 := rfl
theorem w_codes : ∀ c ∈ words1.filter isCode, c.before args0 about1 = true := by
  rw [codes_eq]
  intro c hc
  simp only [codes1, List.mem_cons, List.not_mem_nil, or_false] at hc
  rcases hc with rfl | rfl | rfl | rfl | rfl | rfl | rfl | rfl | rfl
  · exact w_c0
  · exact w_c1
  · exact w_c2
  · exact w_c3
  · exact w_c4
  · exact w_c5
  · exact w_c6
  · exact w_c7
  · exact w_c8
set_option maxRecDepth 65536 in
theorem w_t1 : (words1.take 24).all (fun c => isCode c || c.before args0 about1) = true := by decide +kernel
set_option maxRecDepth 65536 in
theorem w_t2 : (words1.drop 24).all (fun c => isCode c || c.before args0 about1) = true := by decide +kernel
theorem w_tables : (allAtoms (Jvm.Cond.code x code maxLocals ret :: tables_1)).before args0 about1 = true := by
  rw [allAtoms_all]
  show words1.all (fun c => c.before args0 about1) = true
  refine all_split ?_ w_codes
  rw [← List.take_append_drop 24 words1, List.all_append, w_t1, w_t2]
  rfl
set_option maxRecDepth 65536 in
theorem w_case : (Jvm.Cond.and given_1 narrow_1).before args0 about1 = true := by decide +kernel
theorem w_applies : (headSpec (Jvm.Cond.code x code maxLocals ret :: tables_1) room_1).applies x e0.platform about1 = true :=
  (Spec.applies_iff w_frames).mpr ⟨w_running, w_runnable, w_alone, w_named, w_hears, w_ripe, w_room, w_tables⟩
theorem atStart : AtStart classFile x code maxLocals ret World_1 tables_1 room_1 Calls_1 rest_1 Pre_1 launch0 p0 e0 about1 theMethod args0 below0 :=
  ⟨lists_1, trivial, launch0.admits_env _ _ _, launch0.least_env, fairChoices_fair.cas, fairChoices_fair.clock, w_frames, w_args, w_heap, w_applies, trivial, trivial, w_case⟩
end start1
theorem witness_1 : WitnessClaimed_1 := ⟨start1.p0, start1.e0, start1.about1, start1.theMethod, start1.args0, start1.below0, start1.atStart⟩
end Jvm.Pilot.@@N@@
