import JvmDerived
import JvmDerived.Pilot.@@N@@Statement
import JvmDerived.Pilot.@@N@@Code
set_option linter.unusedVariables false
set_option linter.unusedSimpArgs false
namespace Jvm.Pilot.@@N@@
open Jvm Jvm.ClassFile Sem Op Lib Jvm.Free Jvm.Stand Jvm.LawKit Jvm.RoadKit Bundle Jvm.Pilot.@@N@@.Jvm.D
/-! the run from a frame on: it ends, and what it leaves -/
def own_F (p : Program) (e : Env) (below : List Frame) (Q : Outcome → State → Prop) (T : State) (g : JFrame) : Prop :=
  ∃ s₂ o, Steps p.tables e below (T.setTop g) s₂ ∧ s₂.status = .running ∧ Ended s₂ below o ∧ Q o s₂
theorem own_go {p : Program} {e : Env} {below : List Frame} {Q : Outcome → State → Prop} {T T' : State} {g g' : JFrame} (st : ∀ target, Steps p.tables e below (T'.setTop g') target → Steps p.tables e below (T.setTop g) target) (k : own_F p e below Q T' g') : own_F p e below Q T g := by
  obtain ⟨s₂, o, h1, h2, h3, h4⟩ := k
  exact ⟨s₂, o, st _ h1, h2, h3, h4⟩
theorem own_goT {p : Program} {e : Env} {below : List Frame} {Q : Outcome → State → Prop} {T T' : State} {g g' : JFrame} (st : Steps p.tables e below (T.setTop g) (T'.setTop g')) (k : own_F p e below Q T' g') : own_F p e below Q T g := by
  obtain ⟨s₂, o, h1, h2, h3, h4⟩ := k
  exact ⟨s₂, o, st.trans h1, h2, h3, h4⟩
theorem own_end {p : Program} {e : Env} {below : List Frame} {Q : Outcome → State → Prop} {T s₂ : State} {g : JFrame} {o : Outcome} (st : Steps p.tables e below (T.setTop g) s₂) (h1 : s₂.status = .running) (h2 : Ended s₂ below o) (h3 : Q o s₂) : own_F p e below Q T g := ⟨s₂, o, st, h1, h2, h3⟩
theorem own_ext_tr {h0 h h' : Heap} (E : Ext h0 h) (E' : Ext h h') : Ext h0 h' := ⟨Nat.le_trans E.1 E'.1, fun a c q => E'.2 a c (E.2 a c q)⟩
theorem own_ext_rf (h : Heap) : Ext h h := ⟨Nat.le_refl _, fun _ _ q => q⟩
theorem own_ext_keep {h0 h h' : Heap} {ws : List Addr} (E : Ext h0 h) (K : Keep h h' ws) (q : ∀ x ∈ ws, h0.size ≤ x) : Ext h0 h' :=
  ⟨Nat.le_trans E.1 K.1, fun a c ha => K.2.1 a c (E.2 a c ha) fun k => absurd (Array.getElem?_eq_some_iff.mp ha).1 (Nat.not_lt.mpr (q a k))⟩
theorem own_ext_wr {h0 h h' : Heap} {a : Addr} {sl : Nat} {v : Value} (E : Ext h0 h) (W : Wr h h' a sl v) (q : h0.size ≤ a) : Ext h0 h' :=
  own_ext_keep E (Keep.of_wr W) fun x hx => by cases List.mem_singleton.mp hx; exact q
theorem own_frc {n k : Nat} {L : List Loc} (h : n = k) (N : Fr n L) : Fr k L := h ▸ N
theorem own_one {a b : Addr} (h : a ≠ b) : a ∉ [b] := fun q => h (List.mem_singleton.mp q)
theorem own_all1 {n : Nat} {b : Addr} (h : n ≤ b) : ∀ x ∈ [b], n ≤ x := fun x hx => by cases List.mem_singleton.mp hx; exact h
theorem own_all0 {n : Nat} : ∀ x ∈ ([] : List Addr), n ≤ x := fun x hx => nomatch hx
theorem own_lt_t {x y : Int64} (h : x < y) : lcmpW x y < 0 := by rw [lcW]; exact (lc_lt _ _).mpr h
theorem own_lt_f {x y : Int64} (h : ¬ x < y) : ¬ lcmpW x y < 0 := by rw [lcW]; exact fun k => h ((lc_lt _ _).mp k)
theorem own_gt_t {x y : Int64} (h : y < x) : 0 < lcmpW x y := by rw [lcW]; exact (lc_gt _ _).mpr h
theorem own_gt_f {x y : Int64} (h : ¬ y < x) : ¬ 0 < lcmpW x y := by rw [lcW]; exact fun k => h ((lc_gt _ _).mp k)
theorem own_eq_t {x y : Int64} (h : x = y) : lcmpW x y = 0 := by rw [lcW]; exact (lc_eq _ _).mpr h
theorem own_eq_f {x y : Int64} (h : ¬ x = y) : ¬ lcmpW x y = 0 := by rw [lcW]; exact fun k => h ((lc_eq _ _).mp k)
section OwnWords
variable {args : Array Value} {s : State} {t u : Term}
theorem own_eqi {k : Int32} (h : (Jvm.Cond.eq t (.int k)).value args s none s [] = some true) : t.eval args s none [] s = some (.int k) := by
  simp only [Cond.value, Term.eval] at h
  cases ht : t.eval args s none [] s with
  | none => simp [ht] at h
  | some x => cases x <;> simp [ht] at h ⊢; exact h
theorem own_eqr {b : Addr} (h : (Jvm.Cond.eq t u).value args s none s [] = some true) (hu : u.eval args s none [] s = some (.ref b)) : t.eval args s none [] s = some (.ref b) := by
  simp only [Cond.value, hu] at h
  cases ht : t.eval args s none [] s with
  | none => simp [ht] at h
  | some x => cases x <;> simp [ht] at h ⊢; exact h
theorem own_len {a : Addr} {k : Int32} {n : Nat} {cl : Cell} {ty : FieldType} (ht : t.eval args s none [] s = some (.ref a)) (h : (Term.length t).eval args s none [] s = some (.int k)) (A : RoadKit.Arr s s.heap a cl ty) (hk : k.toNatClampNeg = n) : cl.slots.size = n := by
  have ha : s.arrayAt? a = some cl := A.fin (Vm.Alike.refl _)
  by_cases hn : cl.slots.size < 2 ^ 31
  · rw [len_f ht ha hn] at h
    have e := Value.int.inj (Option.some.inj h)
    have q : cl.slots.size.toInt32.toInt = cl.slots.size := len_toInt hn
    rw [← hk, ← e]
    show _ = cl.slots.size.toInt32.toInt.toNat
    rw [q]; rfl
  · simp [Term.eval, ht, ha, hn] at h
theorem own_elem {a : Addr} {j : Int32} {v : Value} {cl : Cell} (ht : t.eval args s none [] s = some (.ref a)) (h : (Term.elem t (.int j)).eval args s none [] s = some v) (hc : s.heap[a]? = some cl) : cl.slots[j.toNatClampNeg]? = some v := (elem_in h ht (Term.int_eval j) hc).2
end OwnWords
theorem own_fne {Z : State} {h : Heap} {a b : Addr} {C n d : String} {x y : Value} (F : Fld Z h a C n d x) (G : Fld Z h b C n d y) (hn : x ≠ y) : a ≠ b := fun e => by
  subst e
  obtain ⟨c1, cf1, k1, i1, f1, h1, h2, -, -, -, -, h7⟩ := F
  obtain ⟨c2, cf2, k2, i2, f2, g1, g2, -, -, -, -, g7⟩ := G
  cases h1.symm.trans g1
  cases h2.symm.trans g2
  exact hn (Option.some.inj (h7.symm.trans g7))
/-! an array whose elements are all known -/
def own_A (Z : State) (h : Heap) (a : Addr) (k : ClassId) (ty : FieldType) (vs : List Value) : Prop := ∃ c : Cell, RoadKit.Arr Z h a c ty ∧ c.cls = k ∧ c.slots = vs.toArray
section OwnArrays
variable {Z : State} {h h' : Heap} {a b : Addr} {k : ClassId} {ty : FieldType} {vs : List Value} {sl : Nat} {v : Value} {ws : List Addr}
theorem own_A.lt (F : own_A Z h a k ty vs) : a < h.size := by obtain ⟨c, A, -⟩ := F; exact A.lt
theorem own_A.ext (F : own_A Z h a k ty vs) (E : Ext h h') : own_A Z h' a k ty vs := by obtain ⟨c, A, r⟩ := F; exact ⟨c, A.ext E, r⟩
theorem own_A.other (F : own_A Z h b k ty vs) (W : Wr h h' a sl v) (q : b ≠ a) : own_A Z h' b k ty vs := by obtain ⟨c, A, r⟩ := F; exact ⟨c, A.other W q, r⟩
theorem own_A.keep (F : own_A Z h a k ty vs) (K : Keep h h' ws) (q : a ∉ ws) : own_A Z h' a k ty vs := by obtain ⟨c, A, r⟩ := F; exact ⟨c, ⟨K.2.1 a c A.1 q, A.2⟩, r⟩
theorem own_A.new {n : Int32} {N : Nat} (A : RoadKit.Arr Z h a (newA k ty n) ty) (hN : n.toNatClampNeg = N) : own_A Z h a k ty (List.replicate N (defaultValue ty)) := ⟨_, A, rfl, by subst hN; simp [newA]⟩
theorem own_A.set (F : own_A Z h a k ty vs) (W : Wr h h' a sl v) : own_A Z h' a k ty (vs.set sl v) := by
  obtain ⟨c, A, q, e⟩ := F
  exact ⟨c.setSlot sl v, A.same W, q, by simp [Cell.setSlot, e]⟩
def own_el (c : Cell) : Nat → List Value → Prop
  | _, [] => True
  | i, v :: vs => c.slots[i]? = some v ∧ own_el c (i + 1) vs
theorem own_el_get {c : Cell} : ∀ (vs : List Value) (i : Nat), own_el c i vs → ∀ j, j < vs.length → c.slots[i + j]? = vs[j]?
  | [], _, _, j, hj => by simp at hj
  | v :: vs, i, H, 0, _ => by simpa using H.1
  | v :: vs, i, H, j + 1, hj => by
    have := own_el_get vs (i + 1) H.2 j (by simpa using hj)
    rw [show i + (j + 1) = i + 1 + j by omega, this]; simp
theorem own_A.of {c : Cell} (A : RoadKit.Arr Z h a c ty) (hs : c.slots.size = vs.length) (H : own_el c 0 vs) : own_A Z h a c.cls ty vs := by
  refine ⟨c, A, rfl, ?_⟩
  apply Array.ext_getElem?
  intro i
  by_cases hi : i < vs.length
  · have := own_el_get vs 0 H i hi
    rw [Nat.zero_add] at this
    rw [this]; simp
  · rw [Array.getElem?_eq_none (by omega), Array.getElem?_eq_none (by simp; omega)]
theorem own_getD {α : Type} (xs : List α) {i : Nat} (d : α) (hi : i < xs.length) : xs.getD i d = xs[i] := by simp [List.getD, hi]
theorem own_A.arv {z : Int32} {d : Value} (F : own_A Z h a k ty vs) (hz : ¬ z < 0) (hl : vs.length = z.toNatClampNeg) (hf : ∀ v ∈ vs, fits ty v = true) : Arv Z h a k ty z vs d := by
  obtain ⟨c, A, q, e⟩ := F
  refine ⟨c, A, q, by rw [e, List.size_toArray]; exact hl, hz, fun i hi => ?_, fun i hi => ?_⟩
  · rw [e, List.size_toArray] at hi
    rw [e, List.getElem?_toArray, List.getElem?_eq_getElem hi, own_getD _ _ hi]
  · rw [e, List.size_toArray] at hi
    rw [own_getD _ _ hi]; exact hf _ (List.getElem_mem hi)
theorem own_A.of_arv {z : Int32} {d : Value} (F : Arv Z h a k ty z vs d) (hl : vs.length = z.toNatClampNeg) : own_A Z h a k ty vs := by
  obtain ⟨c, A, q, S, -, H, -⟩ := F
  refine ⟨c, A, q, ?_⟩
  apply Array.ext_getElem?
  intro i
  by_cases hi : i < vs.length
  · rw [H i (by omega), List.getElem?_toArray, List.getElem?_eq_getElem hi, own_getD _ _ hi]
  · rw [Array.getElem?_eq_none (by omega), Array.getElem?_eq_none (by simp; omega)]
theorem own_A.sto {C : String} {y : Addr} (F : own_A Z h a k (.object C) vs) (O : Ovr Z k C) (I : Ins Z h y C true) : Sto Z h a (.ref y) := by
  obtain ⟨c, A, q, -⟩ := F
  exact Sto.ofV A q O I
variable {p : Program} {l : Launch} {e : Env} {R : Room} {s : State} {m : MethodId} {args : Array Value} {below : List Frame} {meth : Method} {c : Code} {T : State} {locs : List Loc} {cells slots : Nat}
theorem own_alen (X : Stand p l e R s m args below meth c T locs cells slots) (hx : p.tables.exec = Jvm.exec) (hZ : Z.Warmed39 s.vm) (eT : T.heap = h) (A : own_A Z h a k ty vs) {g : JFrame} (hg : g.method = m) {rest : List Value} (hs : g.stack = .ref a :: rest) (hd : decode c.code g.pc = .ok (.arraylength, 1)) {n : Int32} (hn : vs.length.toInt32 = n) {target : State}
    (hr : Steps p.tables e below (T.setTop { g with pc := g.pc + 1, stack := .int n :: rest }) target) : Steps p.tables e below (T.setTop g) target := by
  obtain ⟨c', A, -, e'⟩ := A
  refine X.arraylength hx (by rw [eT]; exact A.1) (State.isArrayOf_alike hZ.alike A.2.1) hg hs hd _ ?_
  rw [show c'.slots.size.toInt32 = n by rw [e', List.size_toArray]; exact hn]
  exact hr
theorem own_in {c' : Cell} {j : Int32} (e' : c'.slots = vs.toArray) (hj : ¬ j < 0) (hv : vs[j.toNatClampNeg]? = some v) : c'.slots[j.toNatClampNeg]? = some v ∧ ¬ (j < 0 ∨ c'.slots.size ≤ j.toNatClampNeg) := by
  have hv' : c'.slots[j.toNatClampNeg]? = some v := by rw [e', List.getElem?_toArray]; exact hv
  exact ⟨hv', fun q => q.elim hj fun z => absurd (Array.getElem?_eq_some_iff.mp hv').1 (Nat.not_lt.mpr z)⟩
theorem own_baload (X : Stand p l e R s m args below meth c T locs cells slots) (hx : p.tables.exec = Jvm.exec) (hZ : Z.Warmed39 s.vm) (eT : T.heap = h) (A : own_A Z h a k .byte vs) {j : Int32} (hj : ¬ j < 0) (hv : vs[j.toNatClampNeg]? = some v) {g : JFrame} (hg : g.method = m) {rest : List Value} (hs : g.stack = .int j :: .ref a :: rest) (hd : decode c.code g.pc = .ok (.baload, 1)) {target : State}
    (hr : Steps p.tables e below (T.setTop { g with pc := g.pc + 1, stack := v :: rest }) target) : Steps p.tables e below (T.setTop g) target := by
  obtain ⟨c', A, -, e'⟩ := A
  obtain ⟨hv', hin⟩ := own_in e' hj hv
  exact X.baloadBytes hx (by rw [eT]; exact A.1) (State.isArrayOf_alike hZ.alike A.2.1) A.2.2 hin hv' hg hs hd _ hr
theorem own_laload (X : Stand p l e R s m args below meth c T locs cells slots) (hx : p.tables.exec = Jvm.exec) (hZ : Z.Warmed39 s.vm) (eT : T.heap = h) (A : own_A Z h a k .long vs) {j : Int32} (hj : ¬ j < 0) (hv : vs[j.toNatClampNeg]? = some v) {g : JFrame} (hg : g.method = m) {rest : List Value} (hs : g.stack = .int j :: .ref a :: rest) (hd : decode c.code g.pc = .ok (.laload, 1)) {target : State}
    (hr : Steps p.tables e below (T.setTop { g with pc := g.pc + 1, stack := v :: rest }) target) : Steps p.tables e below (T.setTop g) target := by
  obtain ⟨c', A, -, e'⟩ := A
  obtain ⟨hv', hin⟩ := own_in e' hj hv
  exact X.laload hx (by rw [eT]; exact A.1) (State.isArrayOf_alike hZ.alike A.2.1) A.2.2 hin hv' hg hs hd _ hr
theorem own_iaload (X : Stand p l e R s m args below meth c T locs cells slots) (hx : p.tables.exec = Jvm.exec) (hZ : Z.Warmed39 s.vm) (eT : T.heap = h) (A : own_A Z h a k .int vs) {j : Int32} (hj : ¬ j < 0) (hv : vs[j.toNatClampNeg]? = some v) {g : JFrame} (hg : g.method = m) {rest : List Value} (hs : g.stack = .int j :: .ref a :: rest) (hd : decode c.code g.pc = .ok (.iaload, 1)) {target : State}
    (hr : Steps p.tables e below (T.setTop { g with pc := g.pc + 1, stack := v :: rest }) target) : Steps p.tables e below (T.setTop g) target := by
  obtain ⟨c', A, -, e'⟩ := A
  obtain ⟨hv', hin⟩ := own_in e' hj hv
  exact X.iaload hx (by rw [eT]; exact A.1) (State.isArrayOf_alike hZ.alike A.2.1) A.2.2 hin hv' hg hs hd _ hr
theorem own_caload (X : Stand p l e R s m args below meth c T locs cells slots) (hx : p.tables.exec = Jvm.exec) (hZ : Z.Warmed39 s.vm) (eT : T.heap = h) (A : own_A Z h a k .char vs) {j : Int32} (hj : ¬ j < 0) (hv : vs[j.toNatClampNeg]? = some v) {g : JFrame} (hg : g.method = m) {rest : List Value} (hs : g.stack = .int j :: .ref a :: rest) (hd : decode c.code g.pc = .ok (.caload, 1)) {target : State}
    (hr : Steps p.tables e below (T.setTop { g with pc := g.pc + 1, stack := v :: rest }) target) : Steps p.tables e below (T.setTop g) target := by
  obtain ⟨c', A, -, e'⟩ := A
  obtain ⟨hv', hin⟩ := own_in e' hj hv
  exact X.caload hx (by rw [eT]; exact A.1) (State.isArrayOf_alike hZ.alike A.2.1) A.2.2 hin hv' hg hs hd _ hr
theorem own_aaload (X : Stand p l e R s m args below meth c T locs cells slots) (hx : p.tables.exec = Jvm.exec) (hZ : Z.Warmed39 s.vm) (eT : T.heap = h) (A : own_A Z h a k ty vs) {j : Int32} (hj : ¬ j < 0) (hv : vs[j.toNatClampNeg]? = some v) (ht : ty.isReference = true) {g : JFrame} (hg : g.method = m) {rest : List Value} (hs : g.stack = .int j :: .ref a :: rest) (hd : decode c.code g.pc = .ok (.aaload, 1)) {target : State}
    (hr : Steps p.tables e below (T.setTop { g with pc := g.pc + 1, stack := v :: rest }) target) : Steps p.tables e below (T.setTop g) target := by
  obtain ⟨c', A, -, e'⟩ := A
  obtain ⟨hv', hin⟩ := own_in e' hj hv
  exact X.aaload hx (by rw [eT]; exact A.1) (State.isArrayOf_alike hZ.alike A.2.1) ht A.2.2 hin hv' hg hs hd _ hr
theorem own_inb {c' : Cell} {j : Int32} {i : Nat} (e' : c'.slots = vs.toArray) (hi : j.toNatClampNeg = i) (hj : ¬ j < 0) (hl : i < vs.length) : ¬ (j < 0 ∨ c'.slots.size ≤ j.toNatClampNeg) := fun q => q.elim hj fun z => by
  rw [e', List.size_toArray, hi] at z; omega
theorem own_bastore (X : Stand p l e R s m args below meth c T locs cells slots) (hx : p.tables.exec = Jvm.exec) (hZ : Z.Warmed39 s.vm) (eT : T.heap = h) (A : own_A Z h a k .byte vs) {j x : Int32} {i : Nat} (hi : j.toNatClampNeg = i) (hj : ¬ j < 0) (hl : i < vs.length) {g : JFrame} (hg : g.method = m) {rest : List Value} (hs : g.stack = .int x :: .int j :: .ref a :: rest) (hd : decode c.code g.pc = .ok (.bastore, 1)) :
    ∃ T' h', Stand p l e R s m args below meth c T' (locs ++ [⟨a, i⟩]) cells slots ∧ T'.heap = h' ∧ own_A Z h' a k .byte (vs.set i (.int (nar .byte x))) ∧ Wr h h' a i (.int (nar .byte x)) ∧ ∀ target, Steps p.tables e below (T'.setTop { g with pc := g.pc + 1, stack := rest }) target → Steps p.tables e below (T.setTop g) target := by
  obtain ⟨c', A', q, e'⟩ := A
  obtain ⟨T', h', X', e1, W, st⟩ := stB X hx hZ eT A' (own_inb e' hi hj hl) hg hs hd
  subst hi
  exact ⟨T', h', X', e1, own_A.set ⟨c', A', q, e'⟩ W, W, st⟩
theorem own_lastore (X : Stand p l e R s m args below meth c T locs cells slots) (hx : p.tables.exec = Jvm.exec) (hZ : Z.Warmed39 s.vm) (eT : T.heap = h) (A : own_A Z h a k .long vs) {j : Int32} {x : Int64} {i : Nat} (hi : j.toNatClampNeg = i) (hj : ¬ j < 0) (hl : i < vs.length) {g : JFrame} (hg : g.method = m) {rest : List Value} (hs : g.stack = .long x :: .int j :: .ref a :: rest) (hd : decode c.code g.pc = .ok (.lastore, 1)) :
    ∃ T' h', Stand p l e R s m args below meth c T' (locs ++ [⟨a, i⟩]) cells slots ∧ T'.heap = h' ∧ own_A Z h' a k .long (vs.set i (.long x)) ∧ Wr h h' a i (.long x) ∧ ∀ target, Steps p.tables e below (T'.setTop { g with pc := g.pc + 1, stack := rest }) target → Steps p.tables e below (T.setTop g) target := by
  obtain ⟨c', A', q, e'⟩ := A
  obtain ⟨T', h', X', e1, W, st⟩ := stJ X hx hZ eT A' (own_inb e' hi hj hl) hg hs hd
  subst hi
  exact ⟨T', h', X', e1, own_A.set ⟨c', A', q, e'⟩ W, W, st⟩
theorem own_aastore (X : Stand p l e R s m args below meth c T locs cells slots) (hx : p.tables.exec = Jvm.exec) (hZ : Z.Warmed39 s.vm) (eT : T.heap = h) (A : own_A Z h a k ty vs) {j : Int32} {i : Nat} (hi : j.toNatClampNeg = i) (hj : ¬ j < 0) (hl : i < vs.length) (ht : ty.isReference = true) (F : Sto Z h a v) {g : JFrame} (hg : g.method = m) {rest : List Value} (hs : g.stack = v :: .int j :: .ref a :: rest) (hd : decode c.code g.pc = .ok (.aastore, 1)) :
    ∃ T' h', Stand p l e R s m args below meth c T' (locs ++ [⟨a, i⟩]) cells slots ∧ T'.heap = h' ∧ own_A Z h' a k ty (vs.set i v) ∧ Wr h h' a i v ∧ ∀ target, Steps p.tables e below (T'.setTop { g with pc := g.pc + 1, stack := rest }) target → Steps p.tables e below (T.setTop g) target := by
  obtain ⟨c', A', q, e'⟩ := A
  obtain ⟨T', h', X', e1, W, st⟩ := stR X hx hZ eT A' (own_inb e' hi hj hl) ht F hg hs hd
  subst hi
  exact ⟨T', h', X', e1, own_A.set ⟨c', A', q, e'⟩ W, W, st⟩
end OwnArrays
def own_ch (v : Int32) : Int32 := nar .char ((v &&& 255).toUInt32.toUInt16.toUInt32.toInt32)
theorem own_dOf1_0 : decode prog_17_method_4_code 0 = .ok (.iload_n 0, 1) := by decide +kernel
theorem own_dOf1_1 : decode prog_17_method_4_code 1 = .ok (.ifCond .eq 9, 3) := by decide +kernel
theorem own_dOf1_4 : decode prog_17_method_4_code 4 = .ok (.getstatic 3, 3) := by decide +kernel
theorem own_dOf1_7 : decode prog_17_method_4_code 7 = .ok (.goto 6, 3) := by decide +kernel
theorem own_dOf1_13 : decode prog_17_method_4_code 13 = .ok (.areturn, 1) := by decide +kernel
theorem own_efOf1 (m : MethodId)  : entryFrame m #[(.int (1 : Int32))] 1 = mkF m 0 #[.val (.int (1 : Int32))] [] := by first | (simp [entryFrame, mkF, argsToLocals, Value.category]; done) | rfl
def own_QOf1 (Z : State)  (a_ALLOW : Addr) (h0 : Heap) (n0 : Nat) (v : Option Value) (h : Heap) (L : List Loc) : Prop := v = some (.ref a_ALLOW) ∧ Fr n0 L ∧ h = h0
theorem own_pn0 : plainName "com/example/tidegate/tidegate/Decision" = true := by first | (simp [plainName, overriddenIn]; done) | decide +kernel
set_option maxRecDepth 65536 in
set_option maxHeartbeats 40000000 in
theorem own_rOf1 (l : Launch) (Z : State) (a0 : Array Value) (hw : ∀ d ∈ tables_1, d.before a0 Z = true) (ws : List Jvm.Cond)  (a_ALLOW : Addr) (h0 : Heap) (n0 : Nat) (Z0 : n0 ≤ h0.size) (S_ALLOW : Sta Z h0 "com/example/tidegate/tidegate/Decision" "ALLOW" "Lcom/example/tidegate/tidegate/Decision;" (.ref a_ALLOW)) :
    MetFree l (⟨"com/example/tidegate/tidegate/Decision", "of", "(Z)Lcom/example/tidegate/tidegate/Decision;"⟩ : MethodName) (head1 (Jvm.Cond.code (⟨"com/example/tidegate/tidegate/Decision", "of", "(Z)Lcom/example/tidegate/tidegate/Decision;"⟩ : MethodName) prog_17_method_4_code 1 (some (.object "com/example/tidegate/tidegate/Decision")) :: ws) ({ frames := 0, cells := 0, slots := 0, locals := 0 } : Room)) (fun a U => a = #[(.int (1 : Int32))] ∧ Z.Warmed39 U.vm ∧ U.heap = h0) (fun _ _ _ _ _ => True) (fun _ U o U' => ∃ v L, o = .returned v ∧ own_QOf1 Z a_ALLOW h0 n0 v U'.heap L ∧ FrameEnd U o U' L ({ frames := 0, cells := 0, slots := 0, locals := 0 } : Room).cells ({ frames := 0, cells := 0, slots := 0, locals := 0 } : Room).slots) := by
  refine MetFree.of_bodySF (plainFor_of_name own_pn0) hisR ?_
  intro p e s m args below meth c s₁ Bd hml0 hP hK
  obtain ⟨rfl, hZ, hh⟩ := hP
  have hx := Bd.exec
  have hby := Bd.bytes
  have hml : c.maxLocals = 1 := hml0
  have hown : s.vm.findClass "com/example/tidegate/tidegate/Decision" = some m.cls := findClass_of_methodNamed Bd.named
  have hnm := (name_of_methodNamed Bd.named Bd.method).1
  have X0 : Stand p l e ({ frames := 0, cells := 0, slots := 0, locals := 0 } : Room) s m #[(.int (1 : Int32))] below meth c s₁ [] 0 0 := Stand.of_body Bd
  have e0 : s₁.heap = h0 := by rw [← hh, Bd.state]; rfl
  have N0 := Fr.nil n0
  show own_F p e below (fun o U' => ∃ v L, o = .returned v ∧ own_QOf1 Z a_ALLOW h0 n0 v U'.heap L ∧ FrameEnd s o U' L ({ frames := 0, cells := 0, slots := 0, locals := 0 } : Room).cells ({ frames := 0, cells := 0, slots := 0, locals := 0 } : Room).slots) s₁ (entryFrame m #[(.int (1 : Int32))] 1)
  rw [own_efOf1 m ]
  refine own_go (T' := s₁) (g' := (mkF m 1 #[.val (.int (1 : Int32))] [(.int (1 : Int32))])) (fun _ k => XS.iloadN X0.here hx rfl (hb hby own_dOf1_0) rfl k) ?_
  refine own_go (T' := s₁) (g' := (mkF m 4 #[.val (.int (1 : Int32))] [])) (fun _ k => XS.ifNo X0.here hx rfl (hb hby own_dOf1_1) rfl ((if0 _ _).trans (feq ((by decide) : ¬ ((1 : Int32) = (0 : Int32)))).1) k) ?_
  obtain ⟨T1, X1, e1, st1⟩ := getS X0 hx hZ (host := "") hown (hw _ (List.mem_of_getElem? (i := 36) rfl)) Via.refl e0 S_ALLOW (g := (mkF m 4 #[.val (.int (1 : Int32))] [])) rfl (hb hby own_dOf1_4)
  refine own_go (T' := T1) (g' := (mkF m 7 #[.val (.int (1 : Int32))] [(.ref a_ALLOW)])) (fun _ k => st1 _ k) ?_
  refine own_go (T' := T1) (g' := (mkF m 13 #[.val (.int (1 : Int32))] [(.ref a_ALLOW)])) (fun _ k => XS.goto X1.here hx rfl (pc0 := 7) (pc' := 13) rfl (hb hby own_dOf1_7) (by decide) (by decide) k) ?_
  obtain ⟨fs, hr, hrun, hended, hW, hsame⟩ := X1.leave (v := some (.ref a_ALLOW)) (fun h => by rw [Bd.returns] at h; cases h)
  refine own_end (retOut X1 hx Bd.returns rfl (Or.inr (Or.inr (Or.inr (Or.inr ⟨rfl, rfl, rfl⟩)))) (hb hby own_dOf1_13) hr) hrun hended ⟨_, _, rfl, (?_ : own_QOf1 Z a_ALLOW h0 n0 _ T1.heap _), ⟨_, rfl⟩, hW, hsame.mono (by decide) (by decide)⟩
  rw [e1]
  exact ⟨rfl, N0, rfl⟩
theorem own_dOf0_0 : decode prog_17_method_4_code 0 = .ok (.iload_n 0, 1) := by decide +kernel
theorem own_dOf0_1 : decode prog_17_method_4_code 1 = .ok (.ifCond .eq 9, 3) := by decide +kernel
theorem own_dOf0_10 : decode prog_17_method_4_code 10 = .ok (.getstatic 7, 3) := by decide +kernel
theorem own_dOf0_13 : decode prog_17_method_4_code 13 = .ok (.areturn, 1) := by decide +kernel
theorem own_efOf0 (m : MethodId)  : entryFrame m #[(.int (0 : Int32))] 1 = mkF m 0 #[.val (.int (0 : Int32))] [] := by first | (simp [entryFrame, mkF, argsToLocals, Value.category]; done) | rfl
def own_QOf0 (Z : State)  (a_DENY : Addr) (h0 : Heap) (n0 : Nat) (v : Option Value) (h : Heap) (L : List Loc) : Prop := v = some (.ref a_DENY) ∧ Fr n0 L ∧ h = h0
set_option maxRecDepth 65536 in
set_option maxHeartbeats 40000000 in
theorem own_rOf0 (l : Launch) (Z : State) (a0 : Array Value) (hw : ∀ d ∈ tables_1, d.before a0 Z = true) (ws : List Jvm.Cond)  (a_DENY : Addr) (h0 : Heap) (n0 : Nat) (Z0 : n0 ≤ h0.size) (S_DENY : Sta Z h0 "com/example/tidegate/tidegate/Decision" "DENY" "Lcom/example/tidegate/tidegate/Decision;" (.ref a_DENY)) :
    MetFree l (⟨"com/example/tidegate/tidegate/Decision", "of", "(Z)Lcom/example/tidegate/tidegate/Decision;"⟩ : MethodName) (head1 (Jvm.Cond.code (⟨"com/example/tidegate/tidegate/Decision", "of", "(Z)Lcom/example/tidegate/tidegate/Decision;"⟩ : MethodName) prog_17_method_4_code 1 (some (.object "com/example/tidegate/tidegate/Decision")) :: ws) ({ frames := 0, cells := 0, slots := 0, locals := 0 } : Room)) (fun a U => a = #[(.int (0 : Int32))] ∧ Z.Warmed39 U.vm ∧ U.heap = h0) (fun _ _ _ _ _ => True) (fun _ U o U' => ∃ v L, o = .returned v ∧ own_QOf0 Z a_DENY h0 n0 v U'.heap L ∧ FrameEnd U o U' L ({ frames := 0, cells := 0, slots := 0, locals := 0 } : Room).cells ({ frames := 0, cells := 0, slots := 0, locals := 0 } : Room).slots) := by
  refine MetFree.of_bodySF (plainFor_of_name own_pn0) hisR ?_
  intro p e s m args below meth c s₁ Bd hml0 hP hK
  obtain ⟨rfl, hZ, hh⟩ := hP
  have hx := Bd.exec
  have hby := Bd.bytes
  have hml : c.maxLocals = 1 := hml0
  have hown : s.vm.findClass "com/example/tidegate/tidegate/Decision" = some m.cls := findClass_of_methodNamed Bd.named
  have hnm := (name_of_methodNamed Bd.named Bd.method).1
  have X0 : Stand p l e ({ frames := 0, cells := 0, slots := 0, locals := 0 } : Room) s m #[(.int (0 : Int32))] below meth c s₁ [] 0 0 := Stand.of_body Bd
  have e0 : s₁.heap = h0 := by rw [← hh, Bd.state]; rfl
  have N0 := Fr.nil n0
  show own_F p e below (fun o U' => ∃ v L, o = .returned v ∧ own_QOf0 Z a_DENY h0 n0 v U'.heap L ∧ FrameEnd s o U' L ({ frames := 0, cells := 0, slots := 0, locals := 0 } : Room).cells ({ frames := 0, cells := 0, slots := 0, locals := 0 } : Room).slots) s₁ (entryFrame m #[(.int (0 : Int32))] 1)
  rw [own_efOf0 m ]
  refine own_go (T' := s₁) (g' := (mkF m 1 #[.val (.int (0 : Int32))] [(.int (0 : Int32))])) (fun _ k => XS.iloadN X0.here hx rfl (hb hby own_dOf0_0) rfl k) ?_
  refine own_go (T' := s₁) (g' := (mkF m 10 #[.val (.int (0 : Int32))] [])) (fun _ k => XS.ifYes X0.here hx rfl (pc0 := 1) (pc' := 10) rfl (hb hby own_dOf0_1) rfl ((if0 _ _).trans (teq ((by decide) : (0 : Int32) = (0 : Int32))).1) (by decide) (by decide) k) ?_
  obtain ⟨T1, X1, e1, st1⟩ := getS X0 hx hZ (host := "") hown (hw _ (List.mem_of_getElem? (i := 4) rfl)) Via.refl e0 S_DENY (g := (mkF m 10 #[.val (.int (0 : Int32))] [])) rfl (hb hby own_dOf0_10)
  refine own_go (T' := T1) (g' := (mkF m 13 #[.val (.int (0 : Int32))] [(.ref a_DENY)])) (fun _ k => st1 _ k) ?_
  obtain ⟨fs, hr, hrun, hended, hW, hsame⟩ := X1.leave (v := some (.ref a_DENY)) (fun h => by rw [Bd.returns] at h; cases h)
  refine own_end (retOut X1 hx Bd.returns rfl (Or.inr (Or.inr (Or.inr (Or.inr ⟨rfl, rfl, rfl⟩)))) (hb hby own_dOf0_13) hr) hrun hended ⟨_, _, rfl, (?_ : own_QOf0 Z a_DENY h0 n0 _ T1.heap _), ⟨_, rfl⟩, hW, hsame.mono (by decide) (by decide)⟩
  rw [e1]
  exact ⟨rfl, N0, rfl⟩
theorem own_dWd_0 : decode prog_17_method_5_code 0 = .ok (.aload_n 0, 1) := by decide +kernel
theorem own_dWd_1 : decode prog_17_method_5_code 1 = .ok (.getfield 29, 3) := by decide +kernel
theorem own_dWd_4 : decode prog_17_method_5_code 4 = .ok (.areturn, 1) := by decide +kernel
theorem own_efWd (m : MethodId) (xo : Addr) : entryFrame m #[(.ref xo)] 1 = mkF m 0 #[.val (.ref xo)] [] := by first | (simp [entryFrame, mkF, argsToLocals, Value.category]; done) | rfl
def own_QWd (Z : State) (xo : Addr) (xw : Addr) (h0 : Heap) (n0 : Nat) (v : Option Value) (h : Heap) (L : List Loc) : Prop := v = some (.ref xw) ∧ Fr n0 L ∧ h = h0
set_option maxRecDepth 65536 in
set_option maxHeartbeats 40000000 in
theorem own_rWd (l : Launch) (Z : State) (a0 : Array Value) (hw : ∀ d ∈ tables_1, d.before a0 Z = true) (ws : List Jvm.Cond) (xo : Addr) (xw : Addr) (h0 : Heap) (n0 : Nat) (Z0 : n0 ≤ h0.size) (Fp : Fld Z h0 xo "com/example/tidegate/tidegate/Decision" "word" "Ljava/lang/String;" (.ref xw)) :
    MetFree l (⟨"com/example/tidegate/tidegate/Decision", "word", "()Ljava/lang/String;"⟩ : MethodName) (head1 (Jvm.Cond.code (⟨"com/example/tidegate/tidegate/Decision", "word", "()Ljava/lang/String;"⟩ : MethodName) prog_17_method_5_code 1 (some (.object "java/lang/String")) :: ws) ({ frames := 0, cells := 0, slots := 0, locals := 0 } : Room)) (fun a U => a = #[(.ref xo)] ∧ Z.Warmed39 U.vm ∧ U.heap = h0) (fun _ _ _ _ _ => True) (fun _ U o U' => ∃ v L, o = .returned v ∧ own_QWd Z xo xw h0 n0 v U'.heap L ∧ FrameEnd U o U' L ({ frames := 0, cells := 0, slots := 0, locals := 0 } : Room).cells ({ frames := 0, cells := 0, slots := 0, locals := 0 } : Room).slots) := by
  refine MetFree.of_bodySF (plainFor_of_name own_pn0) hisR ?_
  intro p e s m args below meth c s₁ Bd hml0 hP hK
  obtain ⟨rfl, hZ, hh⟩ := hP
  have hx := Bd.exec
  have hby := Bd.bytes
  have hml : c.maxLocals = 1 := hml0
  have hown : s.vm.findClass "com/example/tidegate/tidegate/Decision" = some m.cls := findClass_of_methodNamed Bd.named
  have hnm := (name_of_methodNamed Bd.named Bd.method).1
  have X0 : Stand p l e ({ frames := 0, cells := 0, slots := 0, locals := 0 } : Room) s m #[(.ref xo)] below meth c s₁ [] 0 0 := Stand.of_body Bd
  have e0 : s₁.heap = h0 := by rw [← hh, Bd.state]; rfl
  have N0 := Fr.nil n0
  show own_F p e below (fun o U' => ∃ v L, o = .returned v ∧ own_QWd Z xo xw h0 n0 v U'.heap L ∧ FrameEnd s o U' L ({ frames := 0, cells := 0, slots := 0, locals := 0 } : Room).cells ({ frames := 0, cells := 0, slots := 0, locals := 0 } : Room).slots) s₁ (entryFrame m #[(.ref xo)] 1)
  rw [own_efWd m xo]
  refine own_go (T' := s₁) (g' := (mkF m 1 #[.val (.ref xo)] [(.ref xo)])) (fun _ k => XS.aloadN X0.here hx rfl (hb hby own_dWd_0) rfl rfl k) ?_
  obtain ⟨T1, X1, e1, st1⟩ := getF X0 hx hZ hown (host := "") (Or.inl (hw _ (List.mem_of_getElem? (i := 11) rfl))) Via.refl e0 Fp (g := (mkF m 1 #[.val (.ref xo)] [(.ref xo)])) rfl rfl (hb hby own_dWd_1)
  refine own_go (T' := T1) (g' := (mkF m 4 #[.val (.ref xo)] [(.ref xw)])) (fun _ k => st1 _ k) ?_
  obtain ⟨fs, hr, hrun, hended, hW, hsame⟩ := X1.leave (v := some (.ref xw)) (fun h => by rw [Bd.returns] at h; cases h)
  refine own_end (retOut X1 hx Bd.returns rfl (Or.inr (Or.inr (Or.inr (Or.inr ⟨rfl, rfl, rfl⟩)))) (hb hby own_dWd_4) hr) hrun hended ⟨_, _, rfl, (?_ : own_QWd Z xo xw h0 n0 _ T1.heap _), ⟨_, rfl⟩, hW, hsame.mono (by decide) (by decide)⟩
  rw [e1]
  exact ⟨rfl, N0, rfl⟩
theorem own_dLe1_0 : decode jdk_43_method_13_code 0 = .ok (.aload_n 0, 1) := by decide +kernel
theorem own_dLe1_1 : decode jdk_43_method_13_code 1 = .ok (.arraylength, 1) := by decide +kernel
theorem own_dLe1_2 : decode jdk_43_method_13_code 2 = .ok (.aload_n 1, 1) := by decide +kernel
theorem own_dLe1_3 : decode jdk_43_method_13_code 3 = .ok (.arraylength, 1) := by decide +kernel
theorem own_dLe1_4 : decode jdk_43_method_13_code 4 = .ok (.if_icmp .ne 30, 3) := by decide +kernel
theorem own_dLe1_7 : decode jdk_43_method_13_code 7 = .ok (.iconst 0, 1) := by decide +kernel
theorem own_dLe1_8 : decode jdk_43_method_13_code 8 = .ok (.istore_n 2, 1) := by decide +kernel
theorem own_dLe1_9 : decode jdk_43_method_13_code 9 = .ok (.iload_n 2, 1) := by decide +kernel
theorem own_dLe1_10 : decode jdk_43_method_13_code 10 = .ok (.aload_n 0, 1) := by decide +kernel
theorem own_dLe1_11 : decode jdk_43_method_13_code 11 = .ok (.arraylength, 1) := by decide +kernel
theorem own_dLe1_12 : decode jdk_43_method_13_code 12 = .ok (.if_icmp .ge 20, 3) := by decide +kernel
theorem own_dLe1_15 : decode jdk_43_method_13_code 15 = .ok (.aload_n 0, 1) := by decide +kernel
theorem own_dLe1_16 : decode jdk_43_method_13_code 16 = .ok (.iload_n 2, 1) := by decide +kernel
theorem own_dLe1_17 : decode jdk_43_method_13_code 17 = .ok (.baload, 1) := by decide +kernel
theorem own_dLe1_18 : decode jdk_43_method_13_code 18 = .ok (.aload_n 1, 1) := by decide +kernel
theorem own_dLe1_19 : decode jdk_43_method_13_code 19 = .ok (.iload_n 2, 1) := by decide +kernel
theorem own_dLe1_20 : decode jdk_43_method_13_code 20 = .ok (.baload, 1) := by decide +kernel
theorem own_dLe1_21 : decode jdk_43_method_13_code 21 = .ok (.if_icmp .eq 5, 3) := by decide +kernel
theorem own_dLe1_26 : decode jdk_43_method_13_code 26 = .ok (.iinc 2 1, 3) := by decide +kernel
theorem own_dLe1_29 : decode jdk_43_method_13_code 29 = .ok (.goto (-20), 3) := by decide +kernel
theorem own_dLe1_32 : decode jdk_43_method_13_code 32 = .ok (.iconst 1, 1) := by decide +kernel
theorem own_dLe1_33 : decode jdk_43_method_13_code 33 = .ok (.ireturn, 1) := by decide +kernel
theorem own_efLe1 (m : MethodId) (xt : Addr) (xu : Addr) : entryFrame m #[(.ref xt), (.ref xu)] 3 = mkF m 0 #[.val (.ref xt), .val (.ref xu), .unset] [] := by first | (simp [entryFrame, mkF, argsToLocals, Value.category]; done) | rfl
def own_QLe1 (Z : State) (xt : Addr) (xu : Addr) (k1 : ClassId) (k2 : ClassId) (h0 : Heap) (n0 : Nat) (v : Option Value) (h : Heap) (L : List Loc) : Prop := v = some (.int (1 : Int32)) ∧ Fr n0 L ∧ h = h0
theorem own_pn1 : plainName "java/lang/StringLatin1" = true := by first | (simp [plainName, overriddenIn]; done) | decide +kernel
set_option maxRecDepth 65536 in
set_option maxHeartbeats 40000000 in
theorem own_rLe1 (l : Launch) (Z : State) (a0 : Array Value) (hw : ∀ d ∈ tables_1, d.before a0 Z = true) (ws : List Jvm.Cond) (xt : Addr) (xu : Addr) (k1 : ClassId) (k2 : ClassId) (h0 : Heap) (n0 : Nat) (Z0 : n0 ≤ h0.size) (A1 : own_A Z h0 xt k1 .byte [(.int (97 : Int32)), (.int (108 : Int32)), (.int (108 : Int32)), (.int (111 : Int32)), (.int (119 : Int32))]) (A2 : own_A Z h0 xu k2 .byte [(.int (97 : Int32)), (.int (108 : Int32)), (.int (108 : Int32)), (.int (111 : Int32)), (.int (119 : Int32))]) :
    MetFree l (⟨"java/lang/StringLatin1", "equals", "([B[B)Z"⟩ : MethodName) (head1 (Jvm.Cond.code (⟨"java/lang/StringLatin1", "equals", "([B[B)Z"⟩ : MethodName) jdk_43_method_13_code 3 (some .boolean) :: ws) ({ frames := 0, cells := 0, slots := 0, locals := 0 } : Room)) (fun a U => a = #[(.ref xt), (.ref xu)] ∧ Z.Warmed39 U.vm ∧ U.heap = h0) (fun _ _ _ _ _ => True) (fun _ U o U' => ∃ v L, o = .returned v ∧ own_QLe1 Z xt xu k1 k2 h0 n0 v U'.heap L ∧ FrameEnd U o U' L ({ frames := 0, cells := 0, slots := 0, locals := 0 } : Room).cells ({ frames := 0, cells := 0, slots := 0, locals := 0 } : Room).slots) := by
  refine MetFree.of_bodySF (plainFor_of_name own_pn1) hisR ?_
  intro p e s m args below meth c s₁ Bd hml0 hP hK
  obtain ⟨rfl, hZ, hh⟩ := hP
  have hx := Bd.exec
  have hby := Bd.bytes
  have hml : c.maxLocals = 3 := hml0
  have hown : s.vm.findClass "java/lang/StringLatin1" = some m.cls := findClass_of_methodNamed Bd.named
  have hnm := (name_of_methodNamed Bd.named Bd.method).1
  have X0 : Stand p l e ({ frames := 0, cells := 0, slots := 0, locals := 0 } : Room) s m #[(.ref xt), (.ref xu)] below meth c s₁ [] 0 0 := Stand.of_body Bd
  have e0 : s₁.heap = h0 := by rw [← hh, Bd.state]; rfl
  have N0 := Fr.nil n0
  show own_F p e below (fun o U' => ∃ v L, o = .returned v ∧ own_QLe1 Z xt xu k1 k2 h0 n0 v U'.heap L ∧ FrameEnd s o U' L ({ frames := 0, cells := 0, slots := 0, locals := 0 } : Room).cells ({ frames := 0, cells := 0, slots := 0, locals := 0 } : Room).slots) s₁ (entryFrame m #[(.ref xt), (.ref xu)] 3)
  rw [own_efLe1 m xt xu]
  refine own_go (T' := s₁) (g' := (mkF m 1 #[.val (.ref xt), .val (.ref xu), .unset] [(.ref xt)])) (fun _ k => XS.aloadN X0.here hx rfl (hb hby own_dLe1_0) rfl rfl k) ?_
  refine own_go (T' := s₁) (g' := (mkF m 2 #[.val (.ref xt), .val (.ref xu), .unset] [(.int (5 : Int32))])) (fun _ k => own_alen X0 hx hZ e0 A1 (g := (mkF m 1 #[.val (.ref xt), .val (.ref xu), .unset] [(.ref xt)])) rfl rfl (hb hby own_dLe1_1) (n := (5 : Int32)) rfl k) ?_
  refine own_go (T' := s₁) (g' := (mkF m 3 #[.val (.ref xt), .val (.ref xu), .unset] [(.ref xu), (.int (5 : Int32))])) (fun _ k => XS.aloadN X0.here hx rfl (hb hby own_dLe1_2) rfl rfl k) ?_
  refine own_go (T' := s₁) (g' := (mkF m 4 #[.val (.ref xt), .val (.ref xu), .unset] [(.int (5 : Int32)), (.int (5 : Int32))])) (fun _ k => own_alen X0 hx hZ e0 A2 (g := (mkF m 3 #[.val (.ref xt), .val (.ref xu), .unset] [(.ref xu), (.int (5 : Int32))])) rfl rfl (hb hby own_dLe1_3) (n := (5 : Int32)) rfl k) ?_
  refine own_go (T' := s₁) (g' := (mkF m 7 #[.val (.ref xt), .val (.ref xu), .unset] [])) (fun _ k => XS.icmpNo X0.here hx rfl (hb hby own_dLe1_4) rfl (teq ((by decide) : (5 : Int32) = (5 : Int32))).2 k) ?_
  refine own_go (T' := s₁) (g' := (mkF m 8 #[.val (.ref xt), .val (.ref xu), .unset] [(.int (0 : Int32))])) (fun _ k => XS.iconst X0.here hx rfl (hb hby own_dLe1_7) k) ?_
  refine own_go (T' := s₁) (g' := (mkF m 9 #[.val (.ref xt), .val (.ref xu), .val (.int (0 : Int32))] [])) (fun _ k => XS.istoreN X0.here hx rfl (hb hby own_dLe1_8) rfl (l' := #[.val (.ref xt), .val (.ref xu), .val (.int (0 : Int32))]) rfl k) ?_
  refine own_go (T' := s₁) (g' := (mkF m 10 #[.val (.ref xt), .val (.ref xu), .val (.int (0 : Int32))] [(.int (0 : Int32))])) (fun _ k => XS.iloadN X0.here hx rfl (hb hby own_dLe1_9) rfl k) ?_
  refine own_go (T' := s₁) (g' := (mkF m 11 #[.val (.ref xt), .val (.ref xu), .val (.int (0 : Int32))] [(.ref xt), (.int (0 : Int32))])) (fun _ k => XS.aloadN X0.here hx rfl (hb hby own_dLe1_10) rfl rfl k) ?_
  refine own_go (T' := s₁) (g' := (mkF m 12 #[.val (.ref xt), .val (.ref xu), .val (.int (0 : Int32))] [(.int (5 : Int32)), (.int (0 : Int32))])) (fun _ k => own_alen X0 hx hZ e0 A1 (g := (mkF m 11 #[.val (.ref xt), .val (.ref xu), .val (.int (0 : Int32))] [(.ref xt), (.int (0 : Int32))])) rfl rfl (hb hby own_dLe1_11) (n := (5 : Int32)) rfl k) ?_
  refine own_go (T' := s₁) (g' := (mkF m 15 #[.val (.ref xt), .val (.ref xu), .val (.int (0 : Int32))] [])) (fun _ k => XS.icmpNo X0.here hx rfl (hb hby own_dLe1_12) rfl (tlt ((by decide) : (0 : Int32) < (5 : Int32))).2.1 k) ?_
  refine own_go (T' := s₁) (g' := (mkF m 16 #[.val (.ref xt), .val (.ref xu), .val (.int (0 : Int32))] [(.ref xt)])) (fun _ k => XS.aloadN X0.here hx rfl (hb hby own_dLe1_15) rfl rfl k) ?_
  refine own_go (T' := s₁) (g' := (mkF m 17 #[.val (.ref xt), .val (.ref xu), .val (.int (0 : Int32))] [(.int (0 : Int32)), (.ref xt)])) (fun _ k => XS.iloadN X0.here hx rfl (hb hby own_dLe1_16) rfl k) ?_
  refine own_go (T' := s₁) (g' := (mkF m 18 #[.val (.ref xt), .val (.ref xu), .val (.int (0 : Int32))] [(.int (97 : Int32))])) (fun _ k => own_baload X0 hx hZ e0 A1 (j := (0 : Int32)) (v := (.int (97 : Int32))) (by decide) rfl (g := (mkF m 17 #[.val (.ref xt), .val (.ref xu), .val (.int (0 : Int32))] [(.int (0 : Int32)), (.ref xt)])) rfl rfl (hb hby own_dLe1_17) k) ?_
  refine own_go (T' := s₁) (g' := (mkF m 19 #[.val (.ref xt), .val (.ref xu), .val (.int (0 : Int32))] [(.ref xu), (.int (97 : Int32))])) (fun _ k => XS.aloadN X0.here hx rfl (hb hby own_dLe1_18) rfl rfl k) ?_
  refine own_go (T' := s₁) (g' := (mkF m 20 #[.val (.ref xt), .val (.ref xu), .val (.int (0 : Int32))] [(.int (0 : Int32)), (.ref xu), (.int (97 : Int32))])) (fun _ k => XS.iloadN X0.here hx rfl (hb hby own_dLe1_19) rfl k) ?_
  refine own_go (T' := s₁) (g' := (mkF m 21 #[.val (.ref xt), .val (.ref xu), .val (.int (0 : Int32))] [(.int (97 : Int32)), (.int (97 : Int32))])) (fun _ k => own_baload X0 hx hZ e0 A2 (j := (0 : Int32)) (v := (.int (97 : Int32))) (by decide) rfl (g := (mkF m 20 #[.val (.ref xt), .val (.ref xu), .val (.int (0 : Int32))] [(.int (0 : Int32)), (.ref xu), (.int (97 : Int32))])) rfl rfl (hb hby own_dLe1_20) k) ?_
  refine own_go (T' := s₁) (g' := (mkF m 26 #[.val (.ref xt), .val (.ref xu), .val (.int (0 : Int32))] [])) (fun _ k => XS.icmpYes X0.here hx rfl (pc0 := 21) (pc' := 26) rfl (hb hby own_dLe1_21) rfl (teq ((by decide) : (97 : Int32) = (97 : Int32))).1 (by decide) (by decide) k) ?_
  refine own_go (T' := s₁) (g' := (mkF m 29 #[.val (.ref xt), .val (.ref xu), .val (.int (1 : Int32))] [])) (fun _ k => XS.iinc X0.here hx rfl (hb hby own_dLe1_26) rfl (l' := #[.val (.ref xt), .val (.ref xu), .val (.int (1 : Int32))]) rfl k) ?_
  refine own_go (T' := s₁) (g' := (mkF m 9 #[.val (.ref xt), .val (.ref xu), .val (.int (1 : Int32))] [])) (fun _ k => XS.goto X0.here hx rfl (pc0 := 29) (pc' := 9) rfl (hb hby own_dLe1_29) (by decide) (by decide) k) ?_
  refine own_go (T' := s₁) (g' := (mkF m 10 #[.val (.ref xt), .val (.ref xu), .val (.int (1 : Int32))] [(.int (1 : Int32))])) (fun _ k => XS.iloadN X0.here hx rfl (hb hby own_dLe1_9) rfl k) ?_
  refine own_go (T' := s₁) (g' := (mkF m 11 #[.val (.ref xt), .val (.ref xu), .val (.int (1 : Int32))] [(.ref xt), (.int (1 : Int32))])) (fun _ k => XS.aloadN X0.here hx rfl (hb hby own_dLe1_10) rfl rfl k) ?_
  refine own_go (T' := s₁) (g' := (mkF m 12 #[.val (.ref xt), .val (.ref xu), .val (.int (1 : Int32))] [(.int (5 : Int32)), (.int (1 : Int32))])) (fun _ k => own_alen X0 hx hZ e0 A1 (g := (mkF m 11 #[.val (.ref xt), .val (.ref xu), .val (.int (1 : Int32))] [(.ref xt), (.int (1 : Int32))])) rfl rfl (hb hby own_dLe1_11) (n := (5 : Int32)) rfl k) ?_
  refine own_go (T' := s₁) (g' := (mkF m 15 #[.val (.ref xt), .val (.ref xu), .val (.int (1 : Int32))] [])) (fun _ k => XS.icmpNo X0.here hx rfl (hb hby own_dLe1_12) rfl (tlt ((by decide) : (1 : Int32) < (5 : Int32))).2.1 k) ?_
  refine own_go (T' := s₁) (g' := (mkF m 16 #[.val (.ref xt), .val (.ref xu), .val (.int (1 : Int32))] [(.ref xt)])) (fun _ k => XS.aloadN X0.here hx rfl (hb hby own_dLe1_15) rfl rfl k) ?_
  refine own_go (T' := s₁) (g' := (mkF m 17 #[.val (.ref xt), .val (.ref xu), .val (.int (1 : Int32))] [(.int (1 : Int32)), (.ref xt)])) (fun _ k => XS.iloadN X0.here hx rfl (hb hby own_dLe1_16) rfl k) ?_
  refine own_go (T' := s₁) (g' := (mkF m 18 #[.val (.ref xt), .val (.ref xu), .val (.int (1 : Int32))] [(.int (108 : Int32))])) (fun _ k => own_baload X0 hx hZ e0 A1 (j := (1 : Int32)) (v := (.int (108 : Int32))) (by decide) rfl (g := (mkF m 17 #[.val (.ref xt), .val (.ref xu), .val (.int (1 : Int32))] [(.int (1 : Int32)), (.ref xt)])) rfl rfl (hb hby own_dLe1_17) k) ?_
  refine own_go (T' := s₁) (g' := (mkF m 19 #[.val (.ref xt), .val (.ref xu), .val (.int (1 : Int32))] [(.ref xu), (.int (108 : Int32))])) (fun _ k => XS.aloadN X0.here hx rfl (hb hby own_dLe1_18) rfl rfl k) ?_
  refine own_go (T' := s₁) (g' := (mkF m 20 #[.val (.ref xt), .val (.ref xu), .val (.int (1 : Int32))] [(.int (1 : Int32)), (.ref xu), (.int (108 : Int32))])) (fun _ k => XS.iloadN X0.here hx rfl (hb hby own_dLe1_19) rfl k) ?_
  refine own_go (T' := s₁) (g' := (mkF m 21 #[.val (.ref xt), .val (.ref xu), .val (.int (1 : Int32))] [(.int (108 : Int32)), (.int (108 : Int32))])) (fun _ k => own_baload X0 hx hZ e0 A2 (j := (1 : Int32)) (v := (.int (108 : Int32))) (by decide) rfl (g := (mkF m 20 #[.val (.ref xt), .val (.ref xu), .val (.int (1 : Int32))] [(.int (1 : Int32)), (.ref xu), (.int (108 : Int32))])) rfl rfl (hb hby own_dLe1_20) k) ?_
  refine own_go (T' := s₁) (g' := (mkF m 26 #[.val (.ref xt), .val (.ref xu), .val (.int (1 : Int32))] [])) (fun _ k => XS.icmpYes X0.here hx rfl (pc0 := 21) (pc' := 26) rfl (hb hby own_dLe1_21) rfl (teq ((by decide) : (108 : Int32) = (108 : Int32))).1 (by decide) (by decide) k) ?_
  refine own_go (T' := s₁) (g' := (mkF m 29 #[.val (.ref xt), .val (.ref xu), .val (.int (2 : Int32))] [])) (fun _ k => XS.iinc X0.here hx rfl (hb hby own_dLe1_26) rfl (l' := #[.val (.ref xt), .val (.ref xu), .val (.int (2 : Int32))]) rfl k) ?_
  refine own_go (T' := s₁) (g' := (mkF m 9 #[.val (.ref xt), .val (.ref xu), .val (.int (2 : Int32))] [])) (fun _ k => XS.goto X0.here hx rfl (pc0 := 29) (pc' := 9) rfl (hb hby own_dLe1_29) (by decide) (by decide) k) ?_
  refine own_go (T' := s₁) (g' := (mkF m 10 #[.val (.ref xt), .val (.ref xu), .val (.int (2 : Int32))] [(.int (2 : Int32))])) (fun _ k => XS.iloadN X0.here hx rfl (hb hby own_dLe1_9) rfl k) ?_
  refine own_go (T' := s₁) (g' := (mkF m 11 #[.val (.ref xt), .val (.ref xu), .val (.int (2 : Int32))] [(.ref xt), (.int (2 : Int32))])) (fun _ k => XS.aloadN X0.here hx rfl (hb hby own_dLe1_10) rfl rfl k) ?_
  refine own_go (T' := s₁) (g' := (mkF m 12 #[.val (.ref xt), .val (.ref xu), .val (.int (2 : Int32))] [(.int (5 : Int32)), (.int (2 : Int32))])) (fun _ k => own_alen X0 hx hZ e0 A1 (g := (mkF m 11 #[.val (.ref xt), .val (.ref xu), .val (.int (2 : Int32))] [(.ref xt), (.int (2 : Int32))])) rfl rfl (hb hby own_dLe1_11) (n := (5 : Int32)) rfl k) ?_
  refine own_go (T' := s₁) (g' := (mkF m 15 #[.val (.ref xt), .val (.ref xu), .val (.int (2 : Int32))] [])) (fun _ k => XS.icmpNo X0.here hx rfl (hb hby own_dLe1_12) rfl (tlt ((by decide) : (2 : Int32) < (5 : Int32))).2.1 k) ?_
  refine own_go (T' := s₁) (g' := (mkF m 16 #[.val (.ref xt), .val (.ref xu), .val (.int (2 : Int32))] [(.ref xt)])) (fun _ k => XS.aloadN X0.here hx rfl (hb hby own_dLe1_15) rfl rfl k) ?_
  refine own_go (T' := s₁) (g' := (mkF m 17 #[.val (.ref xt), .val (.ref xu), .val (.int (2 : Int32))] [(.int (2 : Int32)), (.ref xt)])) (fun _ k => XS.iloadN X0.here hx rfl (hb hby own_dLe1_16) rfl k) ?_
  refine own_go (T' := s₁) (g' := (mkF m 18 #[.val (.ref xt), .val (.ref xu), .val (.int (2 : Int32))] [(.int (108 : Int32))])) (fun _ k => own_baload X0 hx hZ e0 A1 (j := (2 : Int32)) (v := (.int (108 : Int32))) (by decide) rfl (g := (mkF m 17 #[.val (.ref xt), .val (.ref xu), .val (.int (2 : Int32))] [(.int (2 : Int32)), (.ref xt)])) rfl rfl (hb hby own_dLe1_17) k) ?_
  refine own_go (T' := s₁) (g' := (mkF m 19 #[.val (.ref xt), .val (.ref xu), .val (.int (2 : Int32))] [(.ref xu), (.int (108 : Int32))])) (fun _ k => XS.aloadN X0.here hx rfl (hb hby own_dLe1_18) rfl rfl k) ?_
  refine own_go (T' := s₁) (g' := (mkF m 20 #[.val (.ref xt), .val (.ref xu), .val (.int (2 : Int32))] [(.int (2 : Int32)), (.ref xu), (.int (108 : Int32))])) (fun _ k => XS.iloadN X0.here hx rfl (hb hby own_dLe1_19) rfl k) ?_
  refine own_go (T' := s₁) (g' := (mkF m 21 #[.val (.ref xt), .val (.ref xu), .val (.int (2 : Int32))] [(.int (108 : Int32)), (.int (108 : Int32))])) (fun _ k => own_baload X0 hx hZ e0 A2 (j := (2 : Int32)) (v := (.int (108 : Int32))) (by decide) rfl (g := (mkF m 20 #[.val (.ref xt), .val (.ref xu), .val (.int (2 : Int32))] [(.int (2 : Int32)), (.ref xu), (.int (108 : Int32))])) rfl rfl (hb hby own_dLe1_20) k) ?_
  refine own_go (T' := s₁) (g' := (mkF m 26 #[.val (.ref xt), .val (.ref xu), .val (.int (2 : Int32))] [])) (fun _ k => XS.icmpYes X0.here hx rfl (pc0 := 21) (pc' := 26) rfl (hb hby own_dLe1_21) rfl (teq ((by decide) : (108 : Int32) = (108 : Int32))).1 (by decide) (by decide) k) ?_
  refine own_go (T' := s₁) (g' := (mkF m 29 #[.val (.ref xt), .val (.ref xu), .val (.int (3 : Int32))] [])) (fun _ k => XS.iinc X0.here hx rfl (hb hby own_dLe1_26) rfl (l' := #[.val (.ref xt), .val (.ref xu), .val (.int (3 : Int32))]) rfl k) ?_
  refine own_go (T' := s₁) (g' := (mkF m 9 #[.val (.ref xt), .val (.ref xu), .val (.int (3 : Int32))] [])) (fun _ k => XS.goto X0.here hx rfl (pc0 := 29) (pc' := 9) rfl (hb hby own_dLe1_29) (by decide) (by decide) k) ?_
  refine own_go (T' := s₁) (g' := (mkF m 10 #[.val (.ref xt), .val (.ref xu), .val (.int (3 : Int32))] [(.int (3 : Int32))])) (fun _ k => XS.iloadN X0.here hx rfl (hb hby own_dLe1_9) rfl k) ?_
  refine own_go (T' := s₁) (g' := (mkF m 11 #[.val (.ref xt), .val (.ref xu), .val (.int (3 : Int32))] [(.ref xt), (.int (3 : Int32))])) (fun _ k => XS.aloadN X0.here hx rfl (hb hby own_dLe1_10) rfl rfl k) ?_
  refine own_go (T' := s₁) (g' := (mkF m 12 #[.val (.ref xt), .val (.ref xu), .val (.int (3 : Int32))] [(.int (5 : Int32)), (.int (3 : Int32))])) (fun _ k => own_alen X0 hx hZ e0 A1 (g := (mkF m 11 #[.val (.ref xt), .val (.ref xu), .val (.int (3 : Int32))] [(.ref xt), (.int (3 : Int32))])) rfl rfl (hb hby own_dLe1_11) (n := (5 : Int32)) rfl k) ?_
  refine own_go (T' := s₁) (g' := (mkF m 15 #[.val (.ref xt), .val (.ref xu), .val (.int (3 : Int32))] [])) (fun _ k => XS.icmpNo X0.here hx rfl (hb hby own_dLe1_12) rfl (tlt ((by decide) : (3 : Int32) < (5 : Int32))).2.1 k) ?_
  refine own_go (T' := s₁) (g' := (mkF m 16 #[.val (.ref xt), .val (.ref xu), .val (.int (3 : Int32))] [(.ref xt)])) (fun _ k => XS.aloadN X0.here hx rfl (hb hby own_dLe1_15) rfl rfl k) ?_
  refine own_go (T' := s₁) (g' := (mkF m 17 #[.val (.ref xt), .val (.ref xu), .val (.int (3 : Int32))] [(.int (3 : Int32)), (.ref xt)])) (fun _ k => XS.iloadN X0.here hx rfl (hb hby own_dLe1_16) rfl k) ?_
  refine own_go (T' := s₁) (g' := (mkF m 18 #[.val (.ref xt), .val (.ref xu), .val (.int (3 : Int32))] [(.int (111 : Int32))])) (fun _ k => own_baload X0 hx hZ e0 A1 (j := (3 : Int32)) (v := (.int (111 : Int32))) (by decide) rfl (g := (mkF m 17 #[.val (.ref xt), .val (.ref xu), .val (.int (3 : Int32))] [(.int (3 : Int32)), (.ref xt)])) rfl rfl (hb hby own_dLe1_17) k) ?_
  refine own_go (T' := s₁) (g' := (mkF m 19 #[.val (.ref xt), .val (.ref xu), .val (.int (3 : Int32))] [(.ref xu), (.int (111 : Int32))])) (fun _ k => XS.aloadN X0.here hx rfl (hb hby own_dLe1_18) rfl rfl k) ?_
  refine own_go (T' := s₁) (g' := (mkF m 20 #[.val (.ref xt), .val (.ref xu), .val (.int (3 : Int32))] [(.int (3 : Int32)), (.ref xu), (.int (111 : Int32))])) (fun _ k => XS.iloadN X0.here hx rfl (hb hby own_dLe1_19) rfl k) ?_
  refine own_go (T' := s₁) (g' := (mkF m 21 #[.val (.ref xt), .val (.ref xu), .val (.int (3 : Int32))] [(.int (111 : Int32)), (.int (111 : Int32))])) (fun _ k => own_baload X0 hx hZ e0 A2 (j := (3 : Int32)) (v := (.int (111 : Int32))) (by decide) rfl (g := (mkF m 20 #[.val (.ref xt), .val (.ref xu), .val (.int (3 : Int32))] [(.int (3 : Int32)), (.ref xu), (.int (111 : Int32))])) rfl rfl (hb hby own_dLe1_20) k) ?_
  refine own_go (T' := s₁) (g' := (mkF m 26 #[.val (.ref xt), .val (.ref xu), .val (.int (3 : Int32))] [])) (fun _ k => XS.icmpYes X0.here hx rfl (pc0 := 21) (pc' := 26) rfl (hb hby own_dLe1_21) rfl (teq ((by decide) : (111 : Int32) = (111 : Int32))).1 (by decide) (by decide) k) ?_
  refine own_go (T' := s₁) (g' := (mkF m 29 #[.val (.ref xt), .val (.ref xu), .val (.int (4 : Int32))] [])) (fun _ k => XS.iinc X0.here hx rfl (hb hby own_dLe1_26) rfl (l' := #[.val (.ref xt), .val (.ref xu), .val (.int (4 : Int32))]) rfl k) ?_
  refine own_go (T' := s₁) (g' := (mkF m 9 #[.val (.ref xt), .val (.ref xu), .val (.int (4 : Int32))] [])) (fun _ k => XS.goto X0.here hx rfl (pc0 := 29) (pc' := 9) rfl (hb hby own_dLe1_29) (by decide) (by decide) k) ?_
  refine own_go (T' := s₁) (g' := (mkF m 10 #[.val (.ref xt), .val (.ref xu), .val (.int (4 : Int32))] [(.int (4 : Int32))])) (fun _ k => XS.iloadN X0.here hx rfl (hb hby own_dLe1_9) rfl k) ?_
  refine own_go (T' := s₁) (g' := (mkF m 11 #[.val (.ref xt), .val (.ref xu), .val (.int (4 : Int32))] [(.ref xt), (.int (4 : Int32))])) (fun _ k => XS.aloadN X0.here hx rfl (hb hby own_dLe1_10) rfl rfl k) ?_
  refine own_go (T' := s₁) (g' := (mkF m 12 #[.val (.ref xt), .val (.ref xu), .val (.int (4 : Int32))] [(.int (5 : Int32)), (.int (4 : Int32))])) (fun _ k => own_alen X0 hx hZ e0 A1 (g := (mkF m 11 #[.val (.ref xt), .val (.ref xu), .val (.int (4 : Int32))] [(.ref xt), (.int (4 : Int32))])) rfl rfl (hb hby own_dLe1_11) (n := (5 : Int32)) rfl k) ?_
  refine own_go (T' := s₁) (g' := (mkF m 15 #[.val (.ref xt), .val (.ref xu), .val (.int (4 : Int32))] [])) (fun _ k => XS.icmpNo X0.here hx rfl (hb hby own_dLe1_12) rfl (tlt ((by decide) : (4 : Int32) < (5 : Int32))).2.1 k) ?_
  refine own_go (T' := s₁) (g' := (mkF m 16 #[.val (.ref xt), .val (.ref xu), .val (.int (4 : Int32))] [(.ref xt)])) (fun _ k => XS.aloadN X0.here hx rfl (hb hby own_dLe1_15) rfl rfl k) ?_
  refine own_go (T' := s₁) (g' := (mkF m 17 #[.val (.ref xt), .val (.ref xu), .val (.int (4 : Int32))] [(.int (4 : Int32)), (.ref xt)])) (fun _ k => XS.iloadN X0.here hx rfl (hb hby own_dLe1_16) rfl k) ?_
  refine own_go (T' := s₁) (g' := (mkF m 18 #[.val (.ref xt), .val (.ref xu), .val (.int (4 : Int32))] [(.int (119 : Int32))])) (fun _ k => own_baload X0 hx hZ e0 A1 (j := (4 : Int32)) (v := (.int (119 : Int32))) (by decide) rfl (g := (mkF m 17 #[.val (.ref xt), .val (.ref xu), .val (.int (4 : Int32))] [(.int (4 : Int32)), (.ref xt)])) rfl rfl (hb hby own_dLe1_17) k) ?_
  refine own_go (T' := s₁) (g' := (mkF m 19 #[.val (.ref xt), .val (.ref xu), .val (.int (4 : Int32))] [(.ref xu), (.int (119 : Int32))])) (fun _ k => XS.aloadN X0.here hx rfl (hb hby own_dLe1_18) rfl rfl k) ?_
  refine own_go (T' := s₁) (g' := (mkF m 20 #[.val (.ref xt), .val (.ref xu), .val (.int (4 : Int32))] [(.int (4 : Int32)), (.ref xu), (.int (119 : Int32))])) (fun _ k => XS.iloadN X0.here hx rfl (hb hby own_dLe1_19) rfl k) ?_
  refine own_go (T' := s₁) (g' := (mkF m 21 #[.val (.ref xt), .val (.ref xu), .val (.int (4 : Int32))] [(.int (119 : Int32)), (.int (119 : Int32))])) (fun _ k => own_baload X0 hx hZ e0 A2 (j := (4 : Int32)) (v := (.int (119 : Int32))) (by decide) rfl (g := (mkF m 20 #[.val (.ref xt), .val (.ref xu), .val (.int (4 : Int32))] [(.int (4 : Int32)), (.ref xu), (.int (119 : Int32))])) rfl rfl (hb hby own_dLe1_20) k) ?_
  refine own_go (T' := s₁) (g' := (mkF m 26 #[.val (.ref xt), .val (.ref xu), .val (.int (4 : Int32))] [])) (fun _ k => XS.icmpYes X0.here hx rfl (pc0 := 21) (pc' := 26) rfl (hb hby own_dLe1_21) rfl (teq ((by decide) : (119 : Int32) = (119 : Int32))).1 (by decide) (by decide) k) ?_
  refine own_go (T' := s₁) (g' := (mkF m 29 #[.val (.ref xt), .val (.ref xu), .val (.int (5 : Int32))] [])) (fun _ k => XS.iinc X0.here hx rfl (hb hby own_dLe1_26) rfl (l' := #[.val (.ref xt), .val (.ref xu), .val (.int (5 : Int32))]) rfl k) ?_
  refine own_go (T' := s₁) (g' := (mkF m 9 #[.val (.ref xt), .val (.ref xu), .val (.int (5 : Int32))] [])) (fun _ k => XS.goto X0.here hx rfl (pc0 := 29) (pc' := 9) rfl (hb hby own_dLe1_29) (by decide) (by decide) k) ?_
  refine own_go (T' := s₁) (g' := (mkF m 10 #[.val (.ref xt), .val (.ref xu), .val (.int (5 : Int32))] [(.int (5 : Int32))])) (fun _ k => XS.iloadN X0.here hx rfl (hb hby own_dLe1_9) rfl k) ?_
  refine own_go (T' := s₁) (g' := (mkF m 11 #[.val (.ref xt), .val (.ref xu), .val (.int (5 : Int32))] [(.ref xt), (.int (5 : Int32))])) (fun _ k => XS.aloadN X0.here hx rfl (hb hby own_dLe1_10) rfl rfl k) ?_
  refine own_go (T' := s₁) (g' := (mkF m 12 #[.val (.ref xt), .val (.ref xu), .val (.int (5 : Int32))] [(.int (5 : Int32)), (.int (5 : Int32))])) (fun _ k => own_alen X0 hx hZ e0 A1 (g := (mkF m 11 #[.val (.ref xt), .val (.ref xu), .val (.int (5 : Int32))] [(.ref xt), (.int (5 : Int32))])) rfl rfl (hb hby own_dLe1_11) (n := (5 : Int32)) rfl k) ?_
  refine own_go (T' := s₁) (g' := (mkF m 32 #[.val (.ref xt), .val (.ref xu), .val (.int (5 : Int32))] [])) (fun _ k => XS.icmpYes X0.here hx rfl (pc0 := 12) (pc' := 32) rfl (hb hby own_dLe1_12) rfl (flt ((by decide) : ¬ ((5 : Int32) < (5 : Int32)))).2.1 (by decide) (by decide) k) ?_
  refine own_go (T' := s₁) (g' := (mkF m 33 #[.val (.ref xt), .val (.ref xu), .val (.int (5 : Int32))] [(.int (1 : Int32))])) (fun _ k => XS.iconst X0.here hx rfl (hb hby own_dLe1_32) k) ?_
  obtain ⟨fs, hr, hrun, hended, hW, hsame⟩ := X0.leave (v := some (.int (1 : Int32))) (fun h => by rw [Bd.returns] at h; cases h)
  refine own_end (retN X0 hx (t := .boolean) Bd.returns (by simp) (hb hby own_dLe1_33) hr) hrun hended ⟨_, _, rfl, (?_ : own_QLe1 Z xt xu k1 k2 h0 n0 _ s₁.heap _), ⟨_, rfl⟩, hW, hsame.mono (by decide) (by decide)⟩
  rw [e0]
  exact ⟨rfl, N0, rfl⟩
theorem own_pd0 : parseMethodDescriptor "([B[B)Z" = some ⟨[(.array .byte), (.array .byte)], some .boolean⟩ := by decide +kernel
theorem own_dEq1_0 : decode jdk_42_method_66_code 0 = .ok (.aload_n 0, 1) := by decide +kernel
theorem own_dEq1_1 : decode jdk_42_method_66_code 1 = .ok (.aload_n 1, 1) := by decide +kernel
theorem own_dEq1_2 : decode jdk_42_method_66_code 2 = .ok (.if_acmp .ne 5, 3) := by decide +kernel
theorem own_dEq1_5 : decode jdk_42_method_66_code 5 = .ok (.iconst 1, 1) := by decide +kernel
theorem own_dEq1_6 : decode jdk_42_method_66_code 6 = .ok (.ireturn, 1) := by decide +kernel
theorem own_dEq1_7 : decode jdk_42_method_66_code 7 = .ok (.aload_n 1, 1) := by decide +kernel
theorem own_dEq1_8 : decode jdk_42_method_66_code 8 = .ok (.instanceof 10, 3) := by decide +kernel
theorem own_dEq1_11 : decode jdk_42_method_66_code 11 = .ok (.ifCond .eq 43, 3) := by decide +kernel
theorem own_dEq1_14 : decode jdk_42_method_66_code 14 = .ok (.aload_n 1, 1) := by decide +kernel
theorem own_dEq1_15 : decode jdk_42_method_66_code 15 = .ok (.checkcast 10, 3) := by decide +kernel
theorem own_dEq1_18 : decode jdk_42_method_66_code 18 = .ok (.astore_n 2, 1) := by decide +kernel
theorem own_dEq1_19 : decode jdk_42_method_66_code 19 = .ok (.getstatic 38, 3) := by decide +kernel
theorem own_dEq1_22 : decode jdk_42_method_66_code 22 = .ok (.ifCond .eq 14, 3) := by decide +kernel
theorem own_dEq1_25 : decode jdk_42_method_66_code 25 = .ok (.aload_n 0, 1) := by decide +kernel
theorem own_dEq1_26 : decode jdk_42_method_66_code 26 = .ok (.getfield 15, 3) := by decide +kernel
theorem own_dEq1_29 : decode jdk_42_method_66_code 29 = .ok (.aload_n 2, 1) := by decide +kernel
theorem own_dEq1_30 : decode jdk_42_method_66_code 30 = .ok (.getfield 15, 3) := by decide +kernel
theorem own_dEq1_33 : decode jdk_42_method_66_code 33 = .ok (.if_icmp .ne 21, 3) := by decide +kernel
theorem own_dEq1_36 : decode jdk_42_method_66_code 36 = .ok (.aload_n 0, 1) := by decide +kernel
theorem own_dEq1_37 : decode jdk_42_method_66_code 37 = .ok (.getfield 9, 3) := by decide +kernel
theorem own_dEq1_40 : decode jdk_42_method_66_code 40 = .ok (.aload_n 2, 1) := by decide +kernel
theorem own_dEq1_41 : decode jdk_42_method_66_code 41 = .ok (.getfield 9, 3) := by decide +kernel
theorem own_dEq1_44 : decode jdk_42_method_66_code 44 = .ok (.invokestatic 541, 3) := by decide +kernel
theorem own_dEq1_47 : decode jdk_42_method_66_code 47 = .ok (.ifCond .eq 7, 3) := by decide +kernel
theorem own_dEq1_50 : decode jdk_42_method_66_code 50 = .ok (.iconst 1, 1) := by decide +kernel
theorem own_dEq1_51 : decode jdk_42_method_66_code 51 = .ok (.goto 4, 3) := by decide +kernel
theorem own_dEq1_55 : decode jdk_42_method_66_code 55 = .ok (.ireturn, 1) := by decide +kernel
theorem own_efEq1 (m : MethodId) (xo : Addr) (xw : Addr) : entryFrame m #[(.ref xo), (.ref xw)] 3 = mkF m 0 #[.val (.ref xo), .val (.ref xw), .unset] [] := by first | (simp [entryFrame, mkF, argsToLocals, Value.category]; done) | rfl
def own_QEq1 (Z : State) (xo : Addr) (xw : Addr) (xc : Int32) (xt : Addr) (xu : Addr) (k1 : ClassId) (k2 : ClassId) (h0 : Heap) (n0 : Nat) (v : Option Value) (h : Heap) (L : List Loc) : Prop := v = some (.int (1 : Int32)) ∧ Fr n0 L ∧ h = h0
theorem own_pn2 : plainName "java/lang/String" = true := by first | (simp [plainName, overriddenIn]; done) | decide +kernel
set_option maxRecDepth 65536 in
set_option maxHeartbeats 40000000 in
theorem own_rEq1 (l : Launch) (Z : State) (a0 : Array Value) (hw : ∀ d ∈ tables_1, d.before a0 Z = true) (ws : List Jvm.Cond) (xo : Addr) (xw : Addr) (xc : Int32) (xt : Addr) (xu : Addr) (k1 : ClassId) (k2 : ClassId) (h0 : Heap) (n0 : Nat) (Z0 : n0 ≤ h0.size) (SC : Sta Z h0 "java/lang/String" "COMPACT_STRINGS" "Z" (.int xc)) (hcz : ¬ xc = 0) (Fc : Fld Z h0 xo "java/lang/String" "coder" "B" (.int (0 : Int32))) (Fv : Fld Z h0 xo "java/lang/String" "value" "[B" (.ref xt)) (Fc2 : Fld Z h0 xw "java/lang/String" "coder" "B" (.int (0 : Int32))) (Fv2 : Fld Z h0 xw "java/lang/String" "value" "[B" (.ref xu)) (Ew : Exa Z h0 xw "java/lang/String") (A1 : own_A Z h0 xt k1 .byte [(.int (97 : Int32)), (.int (108 : Int32)), (.int (108 : Int32)), (.int (111 : Int32)), (.int (119 : Int32))]) (A2 : own_A Z h0 xu k2 .byte [(.int (97 : Int32)), (.int (108 : Int32)), (.int (108 : Int32)), (.int (111 : Int32)), (.int (119 : Int32))]) :
    MetFree l (⟨"java/lang/String", "equals", "(Ljava/lang/Object;)Z"⟩ : MethodName) (head1 (Jvm.Cond.code (⟨"java/lang/String", "equals", "(Ljava/lang/Object;)Z"⟩ : MethodName) jdk_42_method_66_code 3 (some .boolean) :: ws) ({ frames := 1, cells := 0, slots := 0, locals := 14 } : Room)) (fun a U => a = #[(.ref xo), (.ref xw)] ∧ Z.Warmed39 U.vm ∧ U.heap = h0) (fun _ _ _ _ _ => True) (fun _ U o U' => ∃ v L, o = .returned v ∧ own_QEq1 Z xo xw xc xt xu k1 k2 h0 n0 v U'.heap L ∧ FrameEnd U o U' L ({ frames := 1, cells := 0, slots := 0, locals := 14 } : Room).cells ({ frames := 1, cells := 0, slots := 0, locals := 14 } : Room).slots) := by
  refine MetFree.of_bodySF (plainFor_of_name own_pn2) hisR ?_
  intro p e s m args below meth c s₁ Bd hml0 hP hK
  obtain ⟨rfl, hZ, hh⟩ := hP
  have hx := Bd.exec
  have hby := Bd.bytes
  have hml : c.maxLocals = 3 := hml0
  have hown : s.vm.findClass "java/lang/String" = some m.cls := findClass_of_methodNamed Bd.named
  have hnm := (name_of_methodNamed Bd.named Bd.method).1
  have X0 : Stand p l e ({ frames := 1, cells := 0, slots := 0, locals := 14 } : Room) s m #[(.ref xo), (.ref xw)] below meth c s₁ [] 0 0 := Stand.of_body Bd
  have e0 : s₁.heap = h0 := by rw [← hh, Bd.state]; rfl
  have N0 := Fr.nil n0
  show own_F p e below (fun o U' => ∃ v L, o = .returned v ∧ own_QEq1 Z xo xw xc xt xu k1 k2 h0 n0 v U'.heap L ∧ FrameEnd s o U' L ({ frames := 1, cells := 0, slots := 0, locals := 14 } : Room).cells ({ frames := 1, cells := 0, slots := 0, locals := 14 } : Room).slots) s₁ (entryFrame m #[(.ref xo), (.ref xw)] 3)
  rw [own_efEq1 m xo xw]
  refine own_go (T' := s₁) (g' := (mkF m 1 #[.val (.ref xo), .val (.ref xw), .unset] [(.ref xo)])) (fun _ k => XS.aloadN X0.here hx rfl (hb hby own_dEq1_0) rfl rfl k) ?_
  refine own_go (T' := s₁) (g' := (mkF m 2 #[.val (.ref xo), .val (.ref xw), .unset] [(.ref xw), (.ref xo)])) (fun _ k => XS.aloadN X0.here hx rfl (hb hby own_dEq1_1) rfl rfl k) ?_
  by_cases hc2 : xo = xw
  · refine own_go (T' := s₁) (g' := (mkF m 5 #[.val (.ref xo), .val (.ref xw), .unset] [])) (fun _ k => Jvm.RoadKit.acmp (g := (mkF m 2 #[.val (.ref xo), .val (.ref xw), .unset] [(.ref xw), (.ref xo)])) X0 hx rfl rfl rfl (pc0 := 2) (pc' := 5) (same := true) rfl (hb hby own_dEq1_2) rfl (decide_eq_true (congrArg Value.ref hc2)) (by decide) (by decide) k) ?_
    refine own_go (T' := s₁) (g' := (mkF m 6 #[.val (.ref xo), .val (.ref xw), .unset] [(.int (1 : Int32))])) (fun _ k => XS.iconst X0.here hx rfl (hb hby own_dEq1_5) k) ?_
    obtain ⟨fs, hr, hrun, hended, hW, hsame⟩ := X0.leave (v := some (.int (1 : Int32))) (fun h => by rw [Bd.returns] at h; cases h)
    refine own_end (retN X0 hx (t := .boolean) Bd.returns (by simp) (hb hby own_dEq1_6) hr) hrun hended ⟨_, _, rfl, (?_ : own_QEq1 Z xo xw xc xt xu k1 k2 h0 n0 _ s₁.heap _), ⟨_, rfl⟩, hW, hsame.mono (by decide) (by decide)⟩
    rw [e0]
    exact ⟨rfl, N0, rfl⟩
  · refine own_go (T' := s₁) (g' := (mkF m 7 #[.val (.ref xo), .val (.ref xw), .unset] [])) (fun _ k => Jvm.RoadKit.acmp (g := (mkF m 2 #[.val (.ref xo), .val (.ref xw), .unset] [(.ref xw), (.ref xo)])) X0 hx rfl rfl rfl (pc0 := 2) (pc' := 7) (same := false) rfl (hb hby own_dEq1_2) rfl (decide_eq_false fun q => hc2 (Value.ref.inj q)) (by decide) (by decide) k) ?_
    refine own_go (T' := s₁) (g' := (mkF m 8 #[.val (.ref xo), .val (.ref xw), .unset] [(.ref xw)])) (fun _ k => XS.aloadN X0.here hx rfl (hb hby own_dEq1_7) rfl rfl k) ?_
    obtain ⟨T1, X1, e1, st1⟩ := instY X0 hx hZ hown (hw _ (List.mem_of_getElem? (i := 27) rfl)) e0 (Ins.self Ew) (g := (mkF m 8 #[.val (.ref xo), .val (.ref xw), .unset] [(.ref xw)])) rfl rfl (hb hby own_dEq1_8)
    refine own_go (T' := T1) (g' := (mkF m 11 #[.val (.ref xo), .val (.ref xw), .unset] [(.int (1 : Int32))])) (fun _ k => st1 _ k) ?_
    refine own_go (T' := T1) (g' := (mkF m 14 #[.val (.ref xo), .val (.ref xw), .unset] [])) (fun _ k => XS.ifNo X1.here hx rfl (hb hby own_dEq1_11) rfl ((if0 _ _).trans (feq ((by decide) : ¬ ((1 : Int32) = (0 : Int32)))).1) k) ?_
    refine own_go (T' := T1) (g' := (mkF m 15 #[.val (.ref xo), .val (.ref xw), .unset] [(.ref xw)])) (fun _ k => XS.aloadN X1.here hx rfl (hb hby own_dEq1_14) rfl rfl k) ?_
    obtain ⟨T2, X2, e2, st2⟩ := castY X1 hx hZ hown (hw _ (List.mem_of_getElem? (i := 27) rfl)) e1 (Ins.self Ew) (g := (mkF m 15 #[.val (.ref xo), .val (.ref xw), .unset] [(.ref xw)])) rfl rfl (hb hby own_dEq1_15)
    refine own_go (T' := T2) (g' := (mkF m 18 #[.val (.ref xo), .val (.ref xw), .unset] [(.ref xw)])) (fun _ k => st2 _ k) ?_
    refine own_go (T' := T2) (g' := (mkF m 19 #[.val (.ref xo), .val (.ref xw), .val (.ref xw)] [])) (fun _ k => XS.astoreN X2.here hx rfl (hb hby own_dEq1_18) rfl rfl (l' := #[.val (.ref xo), .val (.ref xw), .val (.ref xw)]) rfl k) ?_
    obtain ⟨T3, X3, e3, st3⟩ := getS X2 hx hZ (host := "") hown (hw _ (List.mem_of_getElem? (i := 29) rfl)) Via.refl e2 SC (g := (mkF m 19 #[.val (.ref xo), .val (.ref xw), .val (.ref xw)] [])) rfl (hb hby own_dEq1_19)
    refine own_go (T' := T3) (g' := (mkF m 22 #[.val (.ref xo), .val (.ref xw), .val (.ref xw)] [(.int xc)])) (fun _ k => st3 _ k) ?_
    refine own_go (T' := T3) (g' := (mkF m 25 #[.val (.ref xo), .val (.ref xw), .val (.ref xw)] [])) (fun _ k => XS.ifNo X3.here hx rfl (hb hby own_dEq1_22) rfl ((if0 _ _).trans (feq (hcz : ¬ (xc = (0 : Int32)))).1) k) ?_
    refine own_go (T' := T3) (g' := (mkF m 26 #[.val (.ref xo), .val (.ref xw), .val (.ref xw)] [(.ref xo)])) (fun _ k => XS.aloadN X3.here hx rfl (hb hby own_dEq1_25) rfl rfl k) ?_
    obtain ⟨T4, X4, e4, st4⟩ := getF X3 hx hZ hown (host := "") (Or.inl (hw _ (List.mem_of_getElem? (i := 30) rfl))) Via.refl e3 Fc (g := (mkF m 26 #[.val (.ref xo), .val (.ref xw), .val (.ref xw)] [(.ref xo)])) rfl rfl (hb hby own_dEq1_26)
    refine own_go (T' := T4) (g' := (mkF m 29 #[.val (.ref xo), .val (.ref xw), .val (.ref xw)] [(.int (0 : Int32))])) (fun _ k => st4 _ k) ?_
    refine own_go (T' := T4) (g' := (mkF m 30 #[.val (.ref xo), .val (.ref xw), .val (.ref xw)] [(.ref xw), (.int (0 : Int32))])) (fun _ k => XS.aloadN X4.here hx rfl (hb hby own_dEq1_29) rfl rfl k) ?_
    obtain ⟨T5, X5, e5, st5⟩ := getF X4 hx hZ hown (host := "") (Or.inl (hw _ (List.mem_of_getElem? (i := 30) rfl))) Via.refl e4 Fc2 (g := (mkF m 30 #[.val (.ref xo), .val (.ref xw), .val (.ref xw)] [(.ref xw), (.int (0 : Int32))])) rfl rfl (hb hby own_dEq1_30)
    refine own_go (T' := T5) (g' := (mkF m 33 #[.val (.ref xo), .val (.ref xw), .val (.ref xw)] [(.int (0 : Int32)), (.int (0 : Int32))])) (fun _ k => st5 _ k) ?_
    refine own_go (T' := T5) (g' := (mkF m 36 #[.val (.ref xo), .val (.ref xw), .val (.ref xw)] [])) (fun _ k => XS.icmpNo X5.here hx rfl (hb hby own_dEq1_33) rfl (teq ((by decide) : (0 : Int32) = (0 : Int32))).2 k) ?_
    refine own_go (T' := T5) (g' := (mkF m 37 #[.val (.ref xo), .val (.ref xw), .val (.ref xw)] [(.ref xo)])) (fun _ k => XS.aloadN X5.here hx rfl (hb hby own_dEq1_36) rfl rfl k) ?_
    obtain ⟨T6, X6, e6, st6⟩ := getF X5 hx hZ hown (host := "") (Or.inl (hw _ (List.mem_of_getElem? (i := 31) rfl))) Via.refl e5 Fv (g := (mkF m 37 #[.val (.ref xo), .val (.ref xw), .val (.ref xw)] [(.ref xo)])) rfl rfl (hb hby own_dEq1_37)
    refine own_go (T' := T6) (g' := (mkF m 40 #[.val (.ref xo), .val (.ref xw), .val (.ref xw)] [(.ref xt)])) (fun _ k => st6 _ k) ?_
    refine own_go (T' := T6) (g' := (mkF m 41 #[.val (.ref xo), .val (.ref xw), .val (.ref xw)] [(.ref xw), (.ref xt)])) (fun _ k => XS.aloadN X6.here hx rfl (hb hby own_dEq1_40) rfl rfl k) ?_
    obtain ⟨T7, X7, e7, st7⟩ := getF X6 hx hZ hown (host := "") (Or.inl (hw _ (List.mem_of_getElem? (i := 31) rfl))) Via.refl e6 Fv2 (g := (mkF m 41 #[.val (.ref xo), .val (.ref xw), .val (.ref xw)] [(.ref xw), (.ref xt)])) rfl rfl (hb hby own_dEq1_41)
    refine own_go (T' := T7) (g' := (mkF m 44 #[.val (.ref xo), .val (.ref xw), .val (.ref xw)] [(.ref xu), (.ref xt)])) (fun _ k => st7 _ k) ?_
    obtain ⟨_, _, ⟨T8, L8, k8, n8⟩, -, X8, ⟨Lc8, hQ8, l8, y8, z8⟩, st8⟩ := Jvm.LawKit.callS X7 hx (y := (⟨"java/lang/StringLatin1", "equals", "([B[B)Z"⟩ : MethodName)) hown (mvT hZ (hw _ (List.mem_of_getElem? (i := 32) rfl))) (mvT hZ (hw _ (List.mem_of_getElem? (i := 33) rfl))) (mvT hZ (hw _ (List.mem_of_getElem? (i := 34) rfl))) (mvT hZ (hw _ (List.mem_of_getElem? (i := 35) rfl))) (by decide) (backOf (W := 0) (own_rLe1 l Z a0 hw [] xt xu k1 k2 h0 n0 Z0 A1 A2) hZ (hw _ (List.mem_of_getElem? (i := 35) rfl)) (hw _ (List.mem_of_getElem? (i := 34) rfl)) (by decide) (by decide)) (g := (mkF m 44 #[.val (.ref xo), .val (.ref xw), .val (.ref xw)] [(.ref xu), (.ref xt)])) rfl (by rw [hml]; rfl) (argsL := [(.ref xt), (.ref xu)]) (rest := []) (lenOf own_pd0 rfl) rfl (by show 2 * 0 + _ ≤ _; exact Nat.le_of_eq rfl) (hb hby own_dEq1_44) (fun _ _ => ⟨rfl, e7, (by decide : 0 + 0 ≤ _), (by decide : 0 + 0 ≤ _)⟩)
    dsimp only [Pt.U, Pt.locs, Pt.cells, Pt.slots] at X8 l8 y8 z8 st8 hQ8
    subst l8 y8 z8
    obtain ⟨rfl, N8q, e8⟩ := hQ8
    have N8 := Fr.app N0 N8q
    refine own_go (T' := T8) (g' := (mkF m 47 #[.val (.ref xo), .val (.ref xw), .val (.ref xw)] [(.int (1 : Int32))])) (fun _ k => st8 _ k) ?_
    refine own_go (T' := T8) (g' := (mkF m 50 #[.val (.ref xo), .val (.ref xw), .val (.ref xw)] [])) (fun _ k => XS.ifNo X8.here hx rfl (hb hby own_dEq1_47) rfl ((if0 _ _).trans (feq ((by decide) : ¬ ((1 : Int32) = (0 : Int32)))).1) k) ?_
    refine own_go (T' := T8) (g' := (mkF m 51 #[.val (.ref xo), .val (.ref xw), .val (.ref xw)] [(.int (1 : Int32))])) (fun _ k => XS.iconst X8.here hx rfl (hb hby own_dEq1_50) k) ?_
    refine own_go (T' := T8) (g' := (mkF m 55 #[.val (.ref xo), .val (.ref xw), .val (.ref xw)] [(.int (1 : Int32))])) (fun _ k => XS.goto X8.here hx rfl (pc0 := 51) (pc' := 55) rfl (hb hby own_dEq1_51) (by decide) (by decide) k) ?_
    obtain ⟨fs, hr, hrun, hended, hW, hsame⟩ := X8.leave (v := some (.int (1 : Int32))) (fun h => by rw [Bd.returns] at h; cases h)
    refine own_end (retN X8 hx (t := .boolean) Bd.returns (by simp) (hb hby own_dEq1_55) hr) hrun hended ⟨_, _, rfl, (?_ : own_QEq1 Z xo xw xc xt xu k1 k2 h0 n0 _ T8.heap _), ⟨_, rfl⟩, hW, hsame.mono (by decide) (by decide)⟩
    rw [e8]
    exact ⟨rfl, N8, rfl⟩
theorem own_dLe0_0 : decode jdk_43_method_13_code 0 = .ok (.aload_n 0, 1) := by decide +kernel
theorem own_dLe0_1 : decode jdk_43_method_13_code 1 = .ok (.arraylength, 1) := by decide +kernel
theorem own_dLe0_2 : decode jdk_43_method_13_code 2 = .ok (.aload_n 1, 1) := by decide +kernel
theorem own_dLe0_3 : decode jdk_43_method_13_code 3 = .ok (.arraylength, 1) := by decide +kernel
theorem own_dLe0_4 : decode jdk_43_method_13_code 4 = .ok (.if_icmp .ne 30, 3) := by decide +kernel
theorem own_dLe0_7 : decode jdk_43_method_13_code 7 = .ok (.iconst 0, 1) := by decide +kernel
theorem own_dLe0_8 : decode jdk_43_method_13_code 8 = .ok (.istore_n 2, 1) := by decide +kernel
theorem own_dLe0_9 : decode jdk_43_method_13_code 9 = .ok (.iload_n 2, 1) := by decide +kernel
theorem own_dLe0_10 : decode jdk_43_method_13_code 10 = .ok (.aload_n 0, 1) := by decide +kernel
theorem own_dLe0_11 : decode jdk_43_method_13_code 11 = .ok (.arraylength, 1) := by decide +kernel
theorem own_dLe0_12 : decode jdk_43_method_13_code 12 = .ok (.if_icmp .ge 20, 3) := by decide +kernel
theorem own_dLe0_15 : decode jdk_43_method_13_code 15 = .ok (.aload_n 0, 1) := by decide +kernel
theorem own_dLe0_16 : decode jdk_43_method_13_code 16 = .ok (.iload_n 2, 1) := by decide +kernel
theorem own_dLe0_17 : decode jdk_43_method_13_code 17 = .ok (.baload, 1) := by decide +kernel
theorem own_dLe0_18 : decode jdk_43_method_13_code 18 = .ok (.aload_n 1, 1) := by decide +kernel
theorem own_dLe0_19 : decode jdk_43_method_13_code 19 = .ok (.iload_n 2, 1) := by decide +kernel
theorem own_dLe0_20 : decode jdk_43_method_13_code 20 = .ok (.baload, 1) := by decide +kernel
theorem own_dLe0_21 : decode jdk_43_method_13_code 21 = .ok (.if_icmp .eq 5, 3) := by decide +kernel
theorem own_dLe0_26 : decode jdk_43_method_13_code 26 = .ok (.iinc 2 1, 3) := by decide +kernel
theorem own_dLe0_29 : decode jdk_43_method_13_code 29 = .ok (.goto (-20), 3) := by decide +kernel
theorem own_dLe0_32 : decode jdk_43_method_13_code 32 = .ok (.iconst 1, 1) := by decide +kernel
theorem own_dLe0_33 : decode jdk_43_method_13_code 33 = .ok (.ireturn, 1) := by decide +kernel
theorem own_efLe0 (m : MethodId) (xt : Addr) (xu : Addr) : entryFrame m #[(.ref xt), (.ref xu)] 3 = mkF m 0 #[.val (.ref xt), .val (.ref xu), .unset] [] := by first | (simp [entryFrame, mkF, argsToLocals, Value.category]; done) | rfl
def own_QLe0 (Z : State) (xt : Addr) (xu : Addr) (k1 : ClassId) (k2 : ClassId) (h0 : Heap) (n0 : Nat) (v : Option Value) (h : Heap) (L : List Loc) : Prop := v = some (.int (1 : Int32)) ∧ Fr n0 L ∧ h = h0
set_option maxRecDepth 65536 in
set_option maxHeartbeats 40000000 in
theorem own_rLe0 (l : Launch) (Z : State) (a0 : Array Value) (hw : ∀ d ∈ tables_1, d.before a0 Z = true) (ws : List Jvm.Cond) (xt : Addr) (xu : Addr) (k1 : ClassId) (k2 : ClassId) (h0 : Heap) (n0 : Nat) (Z0 : n0 ≤ h0.size) (A1 : own_A Z h0 xt k1 .byte [(.int (100 : Int32)), (.int (101 : Int32)), (.int (110 : Int32)), (.int (121 : Int32))]) (A2 : own_A Z h0 xu k2 .byte [(.int (100 : Int32)), (.int (101 : Int32)), (.int (110 : Int32)), (.int (121 : Int32))]) :
    MetFree l (⟨"java/lang/StringLatin1", "equals", "([B[B)Z"⟩ : MethodName) (head1 (Jvm.Cond.code (⟨"java/lang/StringLatin1", "equals", "([B[B)Z"⟩ : MethodName) jdk_43_method_13_code 3 (some .boolean) :: ws) ({ frames := 0, cells := 0, slots := 0, locals := 0 } : Room)) (fun a U => a = #[(.ref xt), (.ref xu)] ∧ Z.Warmed39 U.vm ∧ U.heap = h0) (fun _ _ _ _ _ => True) (fun _ U o U' => ∃ v L, o = .returned v ∧ own_QLe0 Z xt xu k1 k2 h0 n0 v U'.heap L ∧ FrameEnd U o U' L ({ frames := 0, cells := 0, slots := 0, locals := 0 } : Room).cells ({ frames := 0, cells := 0, slots := 0, locals := 0 } : Room).slots) := by
  refine MetFree.of_bodySF (plainFor_of_name own_pn1) hisR ?_
  intro p e s m args below meth c s₁ Bd hml0 hP hK
  obtain ⟨rfl, hZ, hh⟩ := hP
  have hx := Bd.exec
  have hby := Bd.bytes
  have hml : c.maxLocals = 3 := hml0
  have hown : s.vm.findClass "java/lang/StringLatin1" = some m.cls := findClass_of_methodNamed Bd.named
  have hnm := (name_of_methodNamed Bd.named Bd.method).1
  have X0 : Stand p l e ({ frames := 0, cells := 0, slots := 0, locals := 0 } : Room) s m #[(.ref xt), (.ref xu)] below meth c s₁ [] 0 0 := Stand.of_body Bd
  have e0 : s₁.heap = h0 := by rw [← hh, Bd.state]; rfl
  have N0 := Fr.nil n0
  show own_F p e below (fun o U' => ∃ v L, o = .returned v ∧ own_QLe0 Z xt xu k1 k2 h0 n0 v U'.heap L ∧ FrameEnd s o U' L ({ frames := 0, cells := 0, slots := 0, locals := 0 } : Room).cells ({ frames := 0, cells := 0, slots := 0, locals := 0 } : Room).slots) s₁ (entryFrame m #[(.ref xt), (.ref xu)] 3)
  rw [own_efLe0 m xt xu]
  refine own_go (T' := s₁) (g' := (mkF m 1 #[.val (.ref xt), .val (.ref xu), .unset] [(.ref xt)])) (fun _ k => XS.aloadN X0.here hx rfl (hb hby own_dLe0_0) rfl rfl k) ?_
  refine own_go (T' := s₁) (g' := (mkF m 2 #[.val (.ref xt), .val (.ref xu), .unset] [(.int (4 : Int32))])) (fun _ k => own_alen X0 hx hZ e0 A1 (g := (mkF m 1 #[.val (.ref xt), .val (.ref xu), .unset] [(.ref xt)])) rfl rfl (hb hby own_dLe0_1) (n := (4 : Int32)) rfl k) ?_
  refine own_go (T' := s₁) (g' := (mkF m 3 #[.val (.ref xt), .val (.ref xu), .unset] [(.ref xu), (.int (4 : Int32))])) (fun _ k => XS.aloadN X0.here hx rfl (hb hby own_dLe0_2) rfl rfl k) ?_
  refine own_go (T' := s₁) (g' := (mkF m 4 #[.val (.ref xt), .val (.ref xu), .unset] [(.int (4 : Int32)), (.int (4 : Int32))])) (fun _ k => own_alen X0 hx hZ e0 A2 (g := (mkF m 3 #[.val (.ref xt), .val (.ref xu), .unset] [(.ref xu), (.int (4 : Int32))])) rfl rfl (hb hby own_dLe0_3) (n := (4 : Int32)) rfl k) ?_
  refine own_go (T' := s₁) (g' := (mkF m 7 #[.val (.ref xt), .val (.ref xu), .unset] [])) (fun _ k => XS.icmpNo X0.here hx rfl (hb hby own_dLe0_4) rfl (teq ((by decide) : (4 : Int32) = (4 : Int32))).2 k) ?_
  refine own_go (T' := s₁) (g' := (mkF m 8 #[.val (.ref xt), .val (.ref xu), .unset] [(.int (0 : Int32))])) (fun _ k => XS.iconst X0.here hx rfl (hb hby own_dLe0_7) k) ?_
  refine own_go (T' := s₁) (g' := (mkF m 9 #[.val (.ref xt), .val (.ref xu), .val (.int (0 : Int32))] [])) (fun _ k => XS.istoreN X0.here hx rfl (hb hby own_dLe0_8) rfl (l' := #[.val (.ref xt), .val (.ref xu), .val (.int (0 : Int32))]) rfl k) ?_
  refine own_go (T' := s₁) (g' := (mkF m 10 #[.val (.ref xt), .val (.ref xu), .val (.int (0 : Int32))] [(.int (0 : Int32))])) (fun _ k => XS.iloadN X0.here hx rfl (hb hby own_dLe0_9) rfl k) ?_
  refine own_go (T' := s₁) (g' := (mkF m 11 #[.val (.ref xt), .val (.ref xu), .val (.int (0 : Int32))] [(.ref xt), (.int (0 : Int32))])) (fun _ k => XS.aloadN X0.here hx rfl (hb hby own_dLe0_10) rfl rfl k) ?_
  refine own_go (T' := s₁) (g' := (mkF m 12 #[.val (.ref xt), .val (.ref xu), .val (.int (0 : Int32))] [(.int (4 : Int32)), (.int (0 : Int32))])) (fun _ k => own_alen X0 hx hZ e0 A1 (g := (mkF m 11 #[.val (.ref xt), .val (.ref xu), .val (.int (0 : Int32))] [(.ref xt), (.int (0 : Int32))])) rfl rfl (hb hby own_dLe0_11) (n := (4 : Int32)) rfl k) ?_
  refine own_go (T' := s₁) (g' := (mkF m 15 #[.val (.ref xt), .val (.ref xu), .val (.int (0 : Int32))] [])) (fun _ k => XS.icmpNo X0.here hx rfl (hb hby own_dLe0_12) rfl (tlt ((by decide) : (0 : Int32) < (4 : Int32))).2.1 k) ?_
  refine own_go (T' := s₁) (g' := (mkF m 16 #[.val (.ref xt), .val (.ref xu), .val (.int (0 : Int32))] [(.ref xt)])) (fun _ k => XS.aloadN X0.here hx rfl (hb hby own_dLe0_15) rfl rfl k) ?_
  refine own_go (T' := s₁) (g' := (mkF m 17 #[.val (.ref xt), .val (.ref xu), .val (.int (0 : Int32))] [(.int (0 : Int32)), (.ref xt)])) (fun _ k => XS.iloadN X0.here hx rfl (hb hby own_dLe0_16) rfl k) ?_
  refine own_go (T' := s₁) (g' := (mkF m 18 #[.val (.ref xt), .val (.ref xu), .val (.int (0 : Int32))] [(.int (100 : Int32))])) (fun _ k => own_baload X0 hx hZ e0 A1 (j := (0 : Int32)) (v := (.int (100 : Int32))) (by decide) rfl (g := (mkF m 17 #[.val (.ref xt), .val (.ref xu), .val (.int (0 : Int32))] [(.int (0 : Int32)), (.ref xt)])) rfl rfl (hb hby own_dLe0_17) k) ?_
  refine own_go (T' := s₁) (g' := (mkF m 19 #[.val (.ref xt), .val (.ref xu), .val (.int (0 : Int32))] [(.ref xu), (.int (100 : Int32))])) (fun _ k => XS.aloadN X0.here hx rfl (hb hby own_dLe0_18) rfl rfl k) ?_
  refine own_go (T' := s₁) (g' := (mkF m 20 #[.val (.ref xt), .val (.ref xu), .val (.int (0 : Int32))] [(.int (0 : Int32)), (.ref xu), (.int (100 : Int32))])) (fun _ k => XS.iloadN X0.here hx rfl (hb hby own_dLe0_19) rfl k) ?_
  refine own_go (T' := s₁) (g' := (mkF m 21 #[.val (.ref xt), .val (.ref xu), .val (.int (0 : Int32))] [(.int (100 : Int32)), (.int (100 : Int32))])) (fun _ k => own_baload X0 hx hZ e0 A2 (j := (0 : Int32)) (v := (.int (100 : Int32))) (by decide) rfl (g := (mkF m 20 #[.val (.ref xt), .val (.ref xu), .val (.int (0 : Int32))] [(.int (0 : Int32)), (.ref xu), (.int (100 : Int32))])) rfl rfl (hb hby own_dLe0_20) k) ?_
  refine own_go (T' := s₁) (g' := (mkF m 26 #[.val (.ref xt), .val (.ref xu), .val (.int (0 : Int32))] [])) (fun _ k => XS.icmpYes X0.here hx rfl (pc0 := 21) (pc' := 26) rfl (hb hby own_dLe0_21) rfl (teq ((by decide) : (100 : Int32) = (100 : Int32))).1 (by decide) (by decide) k) ?_
  refine own_go (T' := s₁) (g' := (mkF m 29 #[.val (.ref xt), .val (.ref xu), .val (.int (1 : Int32))] [])) (fun _ k => XS.iinc X0.here hx rfl (hb hby own_dLe0_26) rfl (l' := #[.val (.ref xt), .val (.ref xu), .val (.int (1 : Int32))]) rfl k) ?_
  refine own_go (T' := s₁) (g' := (mkF m 9 #[.val (.ref xt), .val (.ref xu), .val (.int (1 : Int32))] [])) (fun _ k => XS.goto X0.here hx rfl (pc0 := 29) (pc' := 9) rfl (hb hby own_dLe0_29) (by decide) (by decide) k) ?_
  refine own_go (T' := s₁) (g' := (mkF m 10 #[.val (.ref xt), .val (.ref xu), .val (.int (1 : Int32))] [(.int (1 : Int32))])) (fun _ k => XS.iloadN X0.here hx rfl (hb hby own_dLe0_9) rfl k) ?_
  refine own_go (T' := s₁) (g' := (mkF m 11 #[.val (.ref xt), .val (.ref xu), .val (.int (1 : Int32))] [(.ref xt), (.int (1 : Int32))])) (fun _ k => XS.aloadN X0.here hx rfl (hb hby own_dLe0_10) rfl rfl k) ?_
  refine own_go (T' := s₁) (g' := (mkF m 12 #[.val (.ref xt), .val (.ref xu), .val (.int (1 : Int32))] [(.int (4 : Int32)), (.int (1 : Int32))])) (fun _ k => own_alen X0 hx hZ e0 A1 (g := (mkF m 11 #[.val (.ref xt), .val (.ref xu), .val (.int (1 : Int32))] [(.ref xt), (.int (1 : Int32))])) rfl rfl (hb hby own_dLe0_11) (n := (4 : Int32)) rfl k) ?_
  refine own_go (T' := s₁) (g' := (mkF m 15 #[.val (.ref xt), .val (.ref xu), .val (.int (1 : Int32))] [])) (fun _ k => XS.icmpNo X0.here hx rfl (hb hby own_dLe0_12) rfl (tlt ((by decide) : (1 : Int32) < (4 : Int32))).2.1 k) ?_
  refine own_go (T' := s₁) (g' := (mkF m 16 #[.val (.ref xt), .val (.ref xu), .val (.int (1 : Int32))] [(.ref xt)])) (fun _ k => XS.aloadN X0.here hx rfl (hb hby own_dLe0_15) rfl rfl k) ?_
  refine own_go (T' := s₁) (g' := (mkF m 17 #[.val (.ref xt), .val (.ref xu), .val (.int (1 : Int32))] [(.int (1 : Int32)), (.ref xt)])) (fun _ k => XS.iloadN X0.here hx rfl (hb hby own_dLe0_16) rfl k) ?_
  refine own_go (T' := s₁) (g' := (mkF m 18 #[.val (.ref xt), .val (.ref xu), .val (.int (1 : Int32))] [(.int (101 : Int32))])) (fun _ k => own_baload X0 hx hZ e0 A1 (j := (1 : Int32)) (v := (.int (101 : Int32))) (by decide) rfl (g := (mkF m 17 #[.val (.ref xt), .val (.ref xu), .val (.int (1 : Int32))] [(.int (1 : Int32)), (.ref xt)])) rfl rfl (hb hby own_dLe0_17) k) ?_
  refine own_go (T' := s₁) (g' := (mkF m 19 #[.val (.ref xt), .val (.ref xu), .val (.int (1 : Int32))] [(.ref xu), (.int (101 : Int32))])) (fun _ k => XS.aloadN X0.here hx rfl (hb hby own_dLe0_18) rfl rfl k) ?_
  refine own_go (T' := s₁) (g' := (mkF m 20 #[.val (.ref xt), .val (.ref xu), .val (.int (1 : Int32))] [(.int (1 : Int32)), (.ref xu), (.int (101 : Int32))])) (fun _ k => XS.iloadN X0.here hx rfl (hb hby own_dLe0_19) rfl k) ?_
  refine own_go (T' := s₁) (g' := (mkF m 21 #[.val (.ref xt), .val (.ref xu), .val (.int (1 : Int32))] [(.int (101 : Int32)), (.int (101 : Int32))])) (fun _ k => own_baload X0 hx hZ e0 A2 (j := (1 : Int32)) (v := (.int (101 : Int32))) (by decide) rfl (g := (mkF m 20 #[.val (.ref xt), .val (.ref xu), .val (.int (1 : Int32))] [(.int (1 : Int32)), (.ref xu), (.int (101 : Int32))])) rfl rfl (hb hby own_dLe0_20) k) ?_
  refine own_go (T' := s₁) (g' := (mkF m 26 #[.val (.ref xt), .val (.ref xu), .val (.int (1 : Int32))] [])) (fun _ k => XS.icmpYes X0.here hx rfl (pc0 := 21) (pc' := 26) rfl (hb hby own_dLe0_21) rfl (teq ((by decide) : (101 : Int32) = (101 : Int32))).1 (by decide) (by decide) k) ?_
  refine own_go (T' := s₁) (g' := (mkF m 29 #[.val (.ref xt), .val (.ref xu), .val (.int (2 : Int32))] [])) (fun _ k => XS.iinc X0.here hx rfl (hb hby own_dLe0_26) rfl (l' := #[.val (.ref xt), .val (.ref xu), .val (.int (2 : Int32))]) rfl k) ?_
  refine own_go (T' := s₁) (g' := (mkF m 9 #[.val (.ref xt), .val (.ref xu), .val (.int (2 : Int32))] [])) (fun _ k => XS.goto X0.here hx rfl (pc0 := 29) (pc' := 9) rfl (hb hby own_dLe0_29) (by decide) (by decide) k) ?_
  refine own_go (T' := s₁) (g' := (mkF m 10 #[.val (.ref xt), .val (.ref xu), .val (.int (2 : Int32))] [(.int (2 : Int32))])) (fun _ k => XS.iloadN X0.here hx rfl (hb hby own_dLe0_9) rfl k) ?_
  refine own_go (T' := s₁) (g' := (mkF m 11 #[.val (.ref xt), .val (.ref xu), .val (.int (2 : Int32))] [(.ref xt), (.int (2 : Int32))])) (fun _ k => XS.aloadN X0.here hx rfl (hb hby own_dLe0_10) rfl rfl k) ?_
  refine own_go (T' := s₁) (g' := (mkF m 12 #[.val (.ref xt), .val (.ref xu), .val (.int (2 : Int32))] [(.int (4 : Int32)), (.int (2 : Int32))])) (fun _ k => own_alen X0 hx hZ e0 A1 (g := (mkF m 11 #[.val (.ref xt), .val (.ref xu), .val (.int (2 : Int32))] [(.ref xt), (.int (2 : Int32))])) rfl rfl (hb hby own_dLe0_11) (n := (4 : Int32)) rfl k) ?_
  refine own_go (T' := s₁) (g' := (mkF m 15 #[.val (.ref xt), .val (.ref xu), .val (.int (2 : Int32))] [])) (fun _ k => XS.icmpNo X0.here hx rfl (hb hby own_dLe0_12) rfl (tlt ((by decide) : (2 : Int32) < (4 : Int32))).2.1 k) ?_
  refine own_go (T' := s₁) (g' := (mkF m 16 #[.val (.ref xt), .val (.ref xu), .val (.int (2 : Int32))] [(.ref xt)])) (fun _ k => XS.aloadN X0.here hx rfl (hb hby own_dLe0_15) rfl rfl k) ?_
  refine own_go (T' := s₁) (g' := (mkF m 17 #[.val (.ref xt), .val (.ref xu), .val (.int (2 : Int32))] [(.int (2 : Int32)), (.ref xt)])) (fun _ k => XS.iloadN X0.here hx rfl (hb hby own_dLe0_16) rfl k) ?_
  refine own_go (T' := s₁) (g' := (mkF m 18 #[.val (.ref xt), .val (.ref xu), .val (.int (2 : Int32))] [(.int (110 : Int32))])) (fun _ k => own_baload X0 hx hZ e0 A1 (j := (2 : Int32)) (v := (.int (110 : Int32))) (by decide) rfl (g := (mkF m 17 #[.val (.ref xt), .val (.ref xu), .val (.int (2 : Int32))] [(.int (2 : Int32)), (.ref xt)])) rfl rfl (hb hby own_dLe0_17) k) ?_
  refine own_go (T' := s₁) (g' := (mkF m 19 #[.val (.ref xt), .val (.ref xu), .val (.int (2 : Int32))] [(.ref xu), (.int (110 : Int32))])) (fun _ k => XS.aloadN X0.here hx rfl (hb hby own_dLe0_18) rfl rfl k) ?_
  refine own_go (T' := s₁) (g' := (mkF m 20 #[.val (.ref xt), .val (.ref xu), .val (.int (2 : Int32))] [(.int (2 : Int32)), (.ref xu), (.int (110 : Int32))])) (fun _ k => XS.iloadN X0.here hx rfl (hb hby own_dLe0_19) rfl k) ?_
  refine own_go (T' := s₁) (g' := (mkF m 21 #[.val (.ref xt), .val (.ref xu), .val (.int (2 : Int32))] [(.int (110 : Int32)), (.int (110 : Int32))])) (fun _ k => own_baload X0 hx hZ e0 A2 (j := (2 : Int32)) (v := (.int (110 : Int32))) (by decide) rfl (g := (mkF m 20 #[.val (.ref xt), .val (.ref xu), .val (.int (2 : Int32))] [(.int (2 : Int32)), (.ref xu), (.int (110 : Int32))])) rfl rfl (hb hby own_dLe0_20) k) ?_
  refine own_go (T' := s₁) (g' := (mkF m 26 #[.val (.ref xt), .val (.ref xu), .val (.int (2 : Int32))] [])) (fun _ k => XS.icmpYes X0.here hx rfl (pc0 := 21) (pc' := 26) rfl (hb hby own_dLe0_21) rfl (teq ((by decide) : (110 : Int32) = (110 : Int32))).1 (by decide) (by decide) k) ?_
  refine own_go (T' := s₁) (g' := (mkF m 29 #[.val (.ref xt), .val (.ref xu), .val (.int (3 : Int32))] [])) (fun _ k => XS.iinc X0.here hx rfl (hb hby own_dLe0_26) rfl (l' := #[.val (.ref xt), .val (.ref xu), .val (.int (3 : Int32))]) rfl k) ?_
  refine own_go (T' := s₁) (g' := (mkF m 9 #[.val (.ref xt), .val (.ref xu), .val (.int (3 : Int32))] [])) (fun _ k => XS.goto X0.here hx rfl (pc0 := 29) (pc' := 9) rfl (hb hby own_dLe0_29) (by decide) (by decide) k) ?_
  refine own_go (T' := s₁) (g' := (mkF m 10 #[.val (.ref xt), .val (.ref xu), .val (.int (3 : Int32))] [(.int (3 : Int32))])) (fun _ k => XS.iloadN X0.here hx rfl (hb hby own_dLe0_9) rfl k) ?_
  refine own_go (T' := s₁) (g' := (mkF m 11 #[.val (.ref xt), .val (.ref xu), .val (.int (3 : Int32))] [(.ref xt), (.int (3 : Int32))])) (fun _ k => XS.aloadN X0.here hx rfl (hb hby own_dLe0_10) rfl rfl k) ?_
  refine own_go (T' := s₁) (g' := (mkF m 12 #[.val (.ref xt), .val (.ref xu), .val (.int (3 : Int32))] [(.int (4 : Int32)), (.int (3 : Int32))])) (fun _ k => own_alen X0 hx hZ e0 A1 (g := (mkF m 11 #[.val (.ref xt), .val (.ref xu), .val (.int (3 : Int32))] [(.ref xt), (.int (3 : Int32))])) rfl rfl (hb hby own_dLe0_11) (n := (4 : Int32)) rfl k) ?_
  refine own_go (T' := s₁) (g' := (mkF m 15 #[.val (.ref xt), .val (.ref xu), .val (.int (3 : Int32))] [])) (fun _ k => XS.icmpNo X0.here hx rfl (hb hby own_dLe0_12) rfl (tlt ((by decide) : (3 : Int32) < (4 : Int32))).2.1 k) ?_
  refine own_go (T' := s₁) (g' := (mkF m 16 #[.val (.ref xt), .val (.ref xu), .val (.int (3 : Int32))] [(.ref xt)])) (fun _ k => XS.aloadN X0.here hx rfl (hb hby own_dLe0_15) rfl rfl k) ?_
  refine own_go (T' := s₁) (g' := (mkF m 17 #[.val (.ref xt), .val (.ref xu), .val (.int (3 : Int32))] [(.int (3 : Int32)), (.ref xt)])) (fun _ k => XS.iloadN X0.here hx rfl (hb hby own_dLe0_16) rfl k) ?_
  refine own_go (T' := s₁) (g' := (mkF m 18 #[.val (.ref xt), .val (.ref xu), .val (.int (3 : Int32))] [(.int (121 : Int32))])) (fun _ k => own_baload X0 hx hZ e0 A1 (j := (3 : Int32)) (v := (.int (121 : Int32))) (by decide) rfl (g := (mkF m 17 #[.val (.ref xt), .val (.ref xu), .val (.int (3 : Int32))] [(.int (3 : Int32)), (.ref xt)])) rfl rfl (hb hby own_dLe0_17) k) ?_
  refine own_go (T' := s₁) (g' := (mkF m 19 #[.val (.ref xt), .val (.ref xu), .val (.int (3 : Int32))] [(.ref xu), (.int (121 : Int32))])) (fun _ k => XS.aloadN X0.here hx rfl (hb hby own_dLe0_18) rfl rfl k) ?_
  refine own_go (T' := s₁) (g' := (mkF m 20 #[.val (.ref xt), .val (.ref xu), .val (.int (3 : Int32))] [(.int (3 : Int32)), (.ref xu), (.int (121 : Int32))])) (fun _ k => XS.iloadN X0.here hx rfl (hb hby own_dLe0_19) rfl k) ?_
  refine own_go (T' := s₁) (g' := (mkF m 21 #[.val (.ref xt), .val (.ref xu), .val (.int (3 : Int32))] [(.int (121 : Int32)), (.int (121 : Int32))])) (fun _ k => own_baload X0 hx hZ e0 A2 (j := (3 : Int32)) (v := (.int (121 : Int32))) (by decide) rfl (g := (mkF m 20 #[.val (.ref xt), .val (.ref xu), .val (.int (3 : Int32))] [(.int (3 : Int32)), (.ref xu), (.int (121 : Int32))])) rfl rfl (hb hby own_dLe0_20) k) ?_
  refine own_go (T' := s₁) (g' := (mkF m 26 #[.val (.ref xt), .val (.ref xu), .val (.int (3 : Int32))] [])) (fun _ k => XS.icmpYes X0.here hx rfl (pc0 := 21) (pc' := 26) rfl (hb hby own_dLe0_21) rfl (teq ((by decide) : (121 : Int32) = (121 : Int32))).1 (by decide) (by decide) k) ?_
  refine own_go (T' := s₁) (g' := (mkF m 29 #[.val (.ref xt), .val (.ref xu), .val (.int (4 : Int32))] [])) (fun _ k => XS.iinc X0.here hx rfl (hb hby own_dLe0_26) rfl (l' := #[.val (.ref xt), .val (.ref xu), .val (.int (4 : Int32))]) rfl k) ?_
  refine own_go (T' := s₁) (g' := (mkF m 9 #[.val (.ref xt), .val (.ref xu), .val (.int (4 : Int32))] [])) (fun _ k => XS.goto X0.here hx rfl (pc0 := 29) (pc' := 9) rfl (hb hby own_dLe0_29) (by decide) (by decide) k) ?_
  refine own_go (T' := s₁) (g' := (mkF m 10 #[.val (.ref xt), .val (.ref xu), .val (.int (4 : Int32))] [(.int (4 : Int32))])) (fun _ k => XS.iloadN X0.here hx rfl (hb hby own_dLe0_9) rfl k) ?_
  refine own_go (T' := s₁) (g' := (mkF m 11 #[.val (.ref xt), .val (.ref xu), .val (.int (4 : Int32))] [(.ref xt), (.int (4 : Int32))])) (fun _ k => XS.aloadN X0.here hx rfl (hb hby own_dLe0_10) rfl rfl k) ?_
  refine own_go (T' := s₁) (g' := (mkF m 12 #[.val (.ref xt), .val (.ref xu), .val (.int (4 : Int32))] [(.int (4 : Int32)), (.int (4 : Int32))])) (fun _ k => own_alen X0 hx hZ e0 A1 (g := (mkF m 11 #[.val (.ref xt), .val (.ref xu), .val (.int (4 : Int32))] [(.ref xt), (.int (4 : Int32))])) rfl rfl (hb hby own_dLe0_11) (n := (4 : Int32)) rfl k) ?_
  refine own_go (T' := s₁) (g' := (mkF m 32 #[.val (.ref xt), .val (.ref xu), .val (.int (4 : Int32))] [])) (fun _ k => XS.icmpYes X0.here hx rfl (pc0 := 12) (pc' := 32) rfl (hb hby own_dLe0_12) rfl (flt ((by decide) : ¬ ((4 : Int32) < (4 : Int32)))).2.1 (by decide) (by decide) k) ?_
  refine own_go (T' := s₁) (g' := (mkF m 33 #[.val (.ref xt), .val (.ref xu), .val (.int (4 : Int32))] [(.int (1 : Int32))])) (fun _ k => XS.iconst X0.here hx rfl (hb hby own_dLe0_32) k) ?_
  obtain ⟨fs, hr, hrun, hended, hW, hsame⟩ := X0.leave (v := some (.int (1 : Int32))) (fun h => by rw [Bd.returns] at h; cases h)
  refine own_end (retN X0 hx (t := .boolean) Bd.returns (by simp) (hb hby own_dLe0_33) hr) hrun hended ⟨_, _, rfl, (?_ : own_QLe0 Z xt xu k1 k2 h0 n0 _ s₁.heap _), ⟨_, rfl⟩, hW, hsame.mono (by decide) (by decide)⟩
  rw [e0]
  exact ⟨rfl, N0, rfl⟩
theorem own_dEq0_0 : decode jdk_42_method_66_code 0 = .ok (.aload_n 0, 1) := by decide +kernel
theorem own_dEq0_1 : decode jdk_42_method_66_code 1 = .ok (.aload_n 1, 1) := by decide +kernel
theorem own_dEq0_2 : decode jdk_42_method_66_code 2 = .ok (.if_acmp .ne 5, 3) := by decide +kernel
theorem own_dEq0_5 : decode jdk_42_method_66_code 5 = .ok (.iconst 1, 1) := by decide +kernel
theorem own_dEq0_6 : decode jdk_42_method_66_code 6 = .ok (.ireturn, 1) := by decide +kernel
theorem own_dEq0_7 : decode jdk_42_method_66_code 7 = .ok (.aload_n 1, 1) := by decide +kernel
theorem own_dEq0_8 : decode jdk_42_method_66_code 8 = .ok (.instanceof 10, 3) := by decide +kernel
theorem own_dEq0_11 : decode jdk_42_method_66_code 11 = .ok (.ifCond .eq 43, 3) := by decide +kernel
theorem own_dEq0_14 : decode jdk_42_method_66_code 14 = .ok (.aload_n 1, 1) := by decide +kernel
theorem own_dEq0_15 : decode jdk_42_method_66_code 15 = .ok (.checkcast 10, 3) := by decide +kernel
theorem own_dEq0_18 : decode jdk_42_method_66_code 18 = .ok (.astore_n 2, 1) := by decide +kernel
theorem own_dEq0_19 : decode jdk_42_method_66_code 19 = .ok (.getstatic 38, 3) := by decide +kernel
theorem own_dEq0_22 : decode jdk_42_method_66_code 22 = .ok (.ifCond .eq 14, 3) := by decide +kernel
theorem own_dEq0_25 : decode jdk_42_method_66_code 25 = .ok (.aload_n 0, 1) := by decide +kernel
theorem own_dEq0_26 : decode jdk_42_method_66_code 26 = .ok (.getfield 15, 3) := by decide +kernel
theorem own_dEq0_29 : decode jdk_42_method_66_code 29 = .ok (.aload_n 2, 1) := by decide +kernel
theorem own_dEq0_30 : decode jdk_42_method_66_code 30 = .ok (.getfield 15, 3) := by decide +kernel
theorem own_dEq0_33 : decode jdk_42_method_66_code 33 = .ok (.if_icmp .ne 21, 3) := by decide +kernel
theorem own_dEq0_36 : decode jdk_42_method_66_code 36 = .ok (.aload_n 0, 1) := by decide +kernel
theorem own_dEq0_37 : decode jdk_42_method_66_code 37 = .ok (.getfield 9, 3) := by decide +kernel
theorem own_dEq0_40 : decode jdk_42_method_66_code 40 = .ok (.aload_n 2, 1) := by decide +kernel
theorem own_dEq0_41 : decode jdk_42_method_66_code 41 = .ok (.getfield 9, 3) := by decide +kernel
theorem own_dEq0_44 : decode jdk_42_method_66_code 44 = .ok (.invokestatic 541, 3) := by decide +kernel
theorem own_dEq0_47 : decode jdk_42_method_66_code 47 = .ok (.ifCond .eq 7, 3) := by decide +kernel
theorem own_dEq0_50 : decode jdk_42_method_66_code 50 = .ok (.iconst 1, 1) := by decide +kernel
theorem own_dEq0_51 : decode jdk_42_method_66_code 51 = .ok (.goto 4, 3) := by decide +kernel
theorem own_dEq0_55 : decode jdk_42_method_66_code 55 = .ok (.ireturn, 1) := by decide +kernel
theorem own_efEq0 (m : MethodId) (xo : Addr) (xw : Addr) : entryFrame m #[(.ref xo), (.ref xw)] 3 = mkF m 0 #[.val (.ref xo), .val (.ref xw), .unset] [] := by first | (simp [entryFrame, mkF, argsToLocals, Value.category]; done) | rfl
def own_QEq0 (Z : State) (xo : Addr) (xw : Addr) (xc : Int32) (xt : Addr) (xu : Addr) (k1 : ClassId) (k2 : ClassId) (h0 : Heap) (n0 : Nat) (v : Option Value) (h : Heap) (L : List Loc) : Prop := v = some (.int (1 : Int32)) ∧ Fr n0 L ∧ h = h0
set_option maxRecDepth 65536 in
set_option maxHeartbeats 40000000 in
theorem own_rEq0 (l : Launch) (Z : State) (a0 : Array Value) (hw : ∀ d ∈ tables_1, d.before a0 Z = true) (ws : List Jvm.Cond) (xo : Addr) (xw : Addr) (xc : Int32) (xt : Addr) (xu : Addr) (k1 : ClassId) (k2 : ClassId) (h0 : Heap) (n0 : Nat) (Z0 : n0 ≤ h0.size) (SC : Sta Z h0 "java/lang/String" "COMPACT_STRINGS" "Z" (.int xc)) (hcz : ¬ xc = 0) (Fc : Fld Z h0 xo "java/lang/String" "coder" "B" (.int (0 : Int32))) (Fv : Fld Z h0 xo "java/lang/String" "value" "[B" (.ref xt)) (Fc2 : Fld Z h0 xw "java/lang/String" "coder" "B" (.int (0 : Int32))) (Fv2 : Fld Z h0 xw "java/lang/String" "value" "[B" (.ref xu)) (Ew : Exa Z h0 xw "java/lang/String") (A1 : own_A Z h0 xt k1 .byte [(.int (100 : Int32)), (.int (101 : Int32)), (.int (110 : Int32)), (.int (121 : Int32))]) (A2 : own_A Z h0 xu k2 .byte [(.int (100 : Int32)), (.int (101 : Int32)), (.int (110 : Int32)), (.int (121 : Int32))]) :
    MetFree l (⟨"java/lang/String", "equals", "(Ljava/lang/Object;)Z"⟩ : MethodName) (head1 (Jvm.Cond.code (⟨"java/lang/String", "equals", "(Ljava/lang/Object;)Z"⟩ : MethodName) jdk_42_method_66_code 3 (some .boolean) :: ws) ({ frames := 1, cells := 0, slots := 0, locals := 14 } : Room)) (fun a U => a = #[(.ref xo), (.ref xw)] ∧ Z.Warmed39 U.vm ∧ U.heap = h0) (fun _ _ _ _ _ => True) (fun _ U o U' => ∃ v L, o = .returned v ∧ own_QEq0 Z xo xw xc xt xu k1 k2 h0 n0 v U'.heap L ∧ FrameEnd U o U' L ({ frames := 1, cells := 0, slots := 0, locals := 14 } : Room).cells ({ frames := 1, cells := 0, slots := 0, locals := 14 } : Room).slots) := by
  refine MetFree.of_bodySF (plainFor_of_name own_pn2) hisR ?_
  intro p e s m args below meth c s₁ Bd hml0 hP hK
  obtain ⟨rfl, hZ, hh⟩ := hP
  have hx := Bd.exec
  have hby := Bd.bytes
  have hml : c.maxLocals = 3 := hml0
  have hown : s.vm.findClass "java/lang/String" = some m.cls := findClass_of_methodNamed Bd.named
  have hnm := (name_of_methodNamed Bd.named Bd.method).1
  have X0 : Stand p l e ({ frames := 1, cells := 0, slots := 0, locals := 14 } : Room) s m #[(.ref xo), (.ref xw)] below meth c s₁ [] 0 0 := Stand.of_body Bd
  have e0 : s₁.heap = h0 := by rw [← hh, Bd.state]; rfl
  have N0 := Fr.nil n0
  show own_F p e below (fun o U' => ∃ v L, o = .returned v ∧ own_QEq0 Z xo xw xc xt xu k1 k2 h0 n0 v U'.heap L ∧ FrameEnd s o U' L ({ frames := 1, cells := 0, slots := 0, locals := 14 } : Room).cells ({ frames := 1, cells := 0, slots := 0, locals := 14 } : Room).slots) s₁ (entryFrame m #[(.ref xo), (.ref xw)] 3)
  rw [own_efEq0 m xo xw]
  refine own_go (T' := s₁) (g' := (mkF m 1 #[.val (.ref xo), .val (.ref xw), .unset] [(.ref xo)])) (fun _ k => XS.aloadN X0.here hx rfl (hb hby own_dEq0_0) rfl rfl k) ?_
  refine own_go (T' := s₁) (g' := (mkF m 2 #[.val (.ref xo), .val (.ref xw), .unset] [(.ref xw), (.ref xo)])) (fun _ k => XS.aloadN X0.here hx rfl (hb hby own_dEq0_1) rfl rfl k) ?_
  by_cases hc2 : xo = xw
  · refine own_go (T' := s₁) (g' := (mkF m 5 #[.val (.ref xo), .val (.ref xw), .unset] [])) (fun _ k => Jvm.RoadKit.acmp (g := (mkF m 2 #[.val (.ref xo), .val (.ref xw), .unset] [(.ref xw), (.ref xo)])) X0 hx rfl rfl rfl (pc0 := 2) (pc' := 5) (same := true) rfl (hb hby own_dEq0_2) rfl (decide_eq_true (congrArg Value.ref hc2)) (by decide) (by decide) k) ?_
    refine own_go (T' := s₁) (g' := (mkF m 6 #[.val (.ref xo), .val (.ref xw), .unset] [(.int (1 : Int32))])) (fun _ k => XS.iconst X0.here hx rfl (hb hby own_dEq0_5) k) ?_
    obtain ⟨fs, hr, hrun, hended, hW, hsame⟩ := X0.leave (v := some (.int (1 : Int32))) (fun h => by rw [Bd.returns] at h; cases h)
    refine own_end (retN X0 hx (t := .boolean) Bd.returns (by simp) (hb hby own_dEq0_6) hr) hrun hended ⟨_, _, rfl, (?_ : own_QEq0 Z xo xw xc xt xu k1 k2 h0 n0 _ s₁.heap _), ⟨_, rfl⟩, hW, hsame.mono (by decide) (by decide)⟩
    rw [e0]
    exact ⟨rfl, N0, rfl⟩
  · refine own_go (T' := s₁) (g' := (mkF m 7 #[.val (.ref xo), .val (.ref xw), .unset] [])) (fun _ k => Jvm.RoadKit.acmp (g := (mkF m 2 #[.val (.ref xo), .val (.ref xw), .unset] [(.ref xw), (.ref xo)])) X0 hx rfl rfl rfl (pc0 := 2) (pc' := 7) (same := false) rfl (hb hby own_dEq0_2) rfl (decide_eq_false fun q => hc2 (Value.ref.inj q)) (by decide) (by decide) k) ?_
    refine own_go (T' := s₁) (g' := (mkF m 8 #[.val (.ref xo), .val (.ref xw), .unset] [(.ref xw)])) (fun _ k => XS.aloadN X0.here hx rfl (hb hby own_dEq0_7) rfl rfl k) ?_
    obtain ⟨T1, X1, e1, st1⟩ := instY X0 hx hZ hown (hw _ (List.mem_of_getElem? (i := 27) rfl)) e0 (Ins.self Ew) (g := (mkF m 8 #[.val (.ref xo), .val (.ref xw), .unset] [(.ref xw)])) rfl rfl (hb hby own_dEq0_8)
    refine own_go (T' := T1) (g' := (mkF m 11 #[.val (.ref xo), .val (.ref xw), .unset] [(.int (1 : Int32))])) (fun _ k => st1 _ k) ?_
    refine own_go (T' := T1) (g' := (mkF m 14 #[.val (.ref xo), .val (.ref xw), .unset] [])) (fun _ k => XS.ifNo X1.here hx rfl (hb hby own_dEq0_11) rfl ((if0 _ _).trans (feq ((by decide) : ¬ ((1 : Int32) = (0 : Int32)))).1) k) ?_
    refine own_go (T' := T1) (g' := (mkF m 15 #[.val (.ref xo), .val (.ref xw), .unset] [(.ref xw)])) (fun _ k => XS.aloadN X1.here hx rfl (hb hby own_dEq0_14) rfl rfl k) ?_
    obtain ⟨T2, X2, e2, st2⟩ := castY X1 hx hZ hown (hw _ (List.mem_of_getElem? (i := 27) rfl)) e1 (Ins.self Ew) (g := (mkF m 15 #[.val (.ref xo), .val (.ref xw), .unset] [(.ref xw)])) rfl rfl (hb hby own_dEq0_15)
    refine own_go (T' := T2) (g' := (mkF m 18 #[.val (.ref xo), .val (.ref xw), .unset] [(.ref xw)])) (fun _ k => st2 _ k) ?_
    refine own_go (T' := T2) (g' := (mkF m 19 #[.val (.ref xo), .val (.ref xw), .val (.ref xw)] [])) (fun _ k => XS.astoreN X2.here hx rfl (hb hby own_dEq0_18) rfl rfl (l' := #[.val (.ref xo), .val (.ref xw), .val (.ref xw)]) rfl k) ?_
    obtain ⟨T3, X3, e3, st3⟩ := getS X2 hx hZ (host := "") hown (hw _ (List.mem_of_getElem? (i := 29) rfl)) Via.refl e2 SC (g := (mkF m 19 #[.val (.ref xo), .val (.ref xw), .val (.ref xw)] [])) rfl (hb hby own_dEq0_19)
    refine own_go (T' := T3) (g' := (mkF m 22 #[.val (.ref xo), .val (.ref xw), .val (.ref xw)] [(.int xc)])) (fun _ k => st3 _ k) ?_
    refine own_go (T' := T3) (g' := (mkF m 25 #[.val (.ref xo), .val (.ref xw), .val (.ref xw)] [])) (fun _ k => XS.ifNo X3.here hx rfl (hb hby own_dEq0_22) rfl ((if0 _ _).trans (feq (hcz : ¬ (xc = (0 : Int32)))).1) k) ?_
    refine own_go (T' := T3) (g' := (mkF m 26 #[.val (.ref xo), .val (.ref xw), .val (.ref xw)] [(.ref xo)])) (fun _ k => XS.aloadN X3.here hx rfl (hb hby own_dEq0_25) rfl rfl k) ?_
    obtain ⟨T4, X4, e4, st4⟩ := getF X3 hx hZ hown (host := "") (Or.inl (hw _ (List.mem_of_getElem? (i := 30) rfl))) Via.refl e3 Fc (g := (mkF m 26 #[.val (.ref xo), .val (.ref xw), .val (.ref xw)] [(.ref xo)])) rfl rfl (hb hby own_dEq0_26)
    refine own_go (T' := T4) (g' := (mkF m 29 #[.val (.ref xo), .val (.ref xw), .val (.ref xw)] [(.int (0 : Int32))])) (fun _ k => st4 _ k) ?_
    refine own_go (T' := T4) (g' := (mkF m 30 #[.val (.ref xo), .val (.ref xw), .val (.ref xw)] [(.ref xw), (.int (0 : Int32))])) (fun _ k => XS.aloadN X4.here hx rfl (hb hby own_dEq0_29) rfl rfl k) ?_
    obtain ⟨T5, X5, e5, st5⟩ := getF X4 hx hZ hown (host := "") (Or.inl (hw _ (List.mem_of_getElem? (i := 30) rfl))) Via.refl e4 Fc2 (g := (mkF m 30 #[.val (.ref xo), .val (.ref xw), .val (.ref xw)] [(.ref xw), (.int (0 : Int32))])) rfl rfl (hb hby own_dEq0_30)
    refine own_go (T' := T5) (g' := (mkF m 33 #[.val (.ref xo), .val (.ref xw), .val (.ref xw)] [(.int (0 : Int32)), (.int (0 : Int32))])) (fun _ k => st5 _ k) ?_
    refine own_go (T' := T5) (g' := (mkF m 36 #[.val (.ref xo), .val (.ref xw), .val (.ref xw)] [])) (fun _ k => XS.icmpNo X5.here hx rfl (hb hby own_dEq0_33) rfl (teq ((by decide) : (0 : Int32) = (0 : Int32))).2 k) ?_
    refine own_go (T' := T5) (g' := (mkF m 37 #[.val (.ref xo), .val (.ref xw), .val (.ref xw)] [(.ref xo)])) (fun _ k => XS.aloadN X5.here hx rfl (hb hby own_dEq0_36) rfl rfl k) ?_
    obtain ⟨T6, X6, e6, st6⟩ := getF X5 hx hZ hown (host := "") (Or.inl (hw _ (List.mem_of_getElem? (i := 31) rfl))) Via.refl e5 Fv (g := (mkF m 37 #[.val (.ref xo), .val (.ref xw), .val (.ref xw)] [(.ref xo)])) rfl rfl (hb hby own_dEq0_37)
    refine own_go (T' := T6) (g' := (mkF m 40 #[.val (.ref xo), .val (.ref xw), .val (.ref xw)] [(.ref xt)])) (fun _ k => st6 _ k) ?_
    refine own_go (T' := T6) (g' := (mkF m 41 #[.val (.ref xo), .val (.ref xw), .val (.ref xw)] [(.ref xw), (.ref xt)])) (fun _ k => XS.aloadN X6.here hx rfl (hb hby own_dEq0_40) rfl rfl k) ?_
    obtain ⟨T7, X7, e7, st7⟩ := getF X6 hx hZ hown (host := "") (Or.inl (hw _ (List.mem_of_getElem? (i := 31) rfl))) Via.refl e6 Fv2 (g := (mkF m 41 #[.val (.ref xo), .val (.ref xw), .val (.ref xw)] [(.ref xw), (.ref xt)])) rfl rfl (hb hby own_dEq0_41)
    refine own_go (T' := T7) (g' := (mkF m 44 #[.val (.ref xo), .val (.ref xw), .val (.ref xw)] [(.ref xu), (.ref xt)])) (fun _ k => st7 _ k) ?_
    obtain ⟨_, _, ⟨T8, L8, k8, n8⟩, -, X8, ⟨Lc8, hQ8, l8, y8, z8⟩, st8⟩ := Jvm.LawKit.callS X7 hx (y := (⟨"java/lang/StringLatin1", "equals", "([B[B)Z"⟩ : MethodName)) hown (mvT hZ (hw _ (List.mem_of_getElem? (i := 32) rfl))) (mvT hZ (hw _ (List.mem_of_getElem? (i := 33) rfl))) (mvT hZ (hw _ (List.mem_of_getElem? (i := 34) rfl))) (mvT hZ (hw _ (List.mem_of_getElem? (i := 35) rfl))) (by decide) (backOf (W := 0) (own_rLe0 l Z a0 hw [] xt xu k1 k2 h0 n0 Z0 A1 A2) hZ (hw _ (List.mem_of_getElem? (i := 35) rfl)) (hw _ (List.mem_of_getElem? (i := 34) rfl)) (by decide) (by decide)) (g := (mkF m 44 #[.val (.ref xo), .val (.ref xw), .val (.ref xw)] [(.ref xu), (.ref xt)])) rfl (by rw [hml]; rfl) (argsL := [(.ref xt), (.ref xu)]) (rest := []) (lenOf own_pd0 rfl) rfl (by show 2 * 0 + _ ≤ _; exact Nat.le_of_eq rfl) (hb hby own_dEq0_44) (fun _ _ => ⟨rfl, e7, (by decide : 0 + 0 ≤ _), (by decide : 0 + 0 ≤ _)⟩)
    dsimp only [Pt.U, Pt.locs, Pt.cells, Pt.slots] at X8 l8 y8 z8 st8 hQ8
    subst l8 y8 z8
    obtain ⟨rfl, N8q, e8⟩ := hQ8
    have N8 := Fr.app N0 N8q
    refine own_go (T' := T8) (g' := (mkF m 47 #[.val (.ref xo), .val (.ref xw), .val (.ref xw)] [(.int (1 : Int32))])) (fun _ k => st8 _ k) ?_
    refine own_go (T' := T8) (g' := (mkF m 50 #[.val (.ref xo), .val (.ref xw), .val (.ref xw)] [])) (fun _ k => XS.ifNo X8.here hx rfl (hb hby own_dEq0_47) rfl ((if0 _ _).trans (feq ((by decide) : ¬ ((1 : Int32) = (0 : Int32)))).1) k) ?_
    refine own_go (T' := T8) (g' := (mkF m 51 #[.val (.ref xo), .val (.ref xw), .val (.ref xw)] [(.int (1 : Int32))])) (fun _ k => XS.iconst X8.here hx rfl (hb hby own_dEq0_50) k) ?_
    refine own_go (T' := T8) (g' := (mkF m 55 #[.val (.ref xo), .val (.ref xw), .val (.ref xw)] [(.int (1 : Int32))])) (fun _ k => XS.goto X8.here hx rfl (pc0 := 51) (pc' := 55) rfl (hb hby own_dEq0_51) (by decide) (by decide) k) ?_
    obtain ⟨fs, hr, hrun, hended, hW, hsame⟩ := X8.leave (v := some (.int (1 : Int32))) (fun h => by rw [Bd.returns] at h; cases h)
    refine own_end (retN X8 hx (t := .boolean) Bd.returns (by simp) (hb hby own_dEq0_55) hr) hrun hended ⟨_, _, rfl, (?_ : own_QEq0 Z xo xw xc xt xu k1 k2 h0 n0 _ T8.heap _), ⟨_, rfl⟩, hW, hsame.mono (by decide) (by decide)⟩
    rw [e8]
    exact ⟨rfl, N8, rfl⟩
theorem own_pd1 : parseMethodDescriptor "(Z)Lcom/example/tidegate/tidegate/Decision;" = some ⟨[.boolean], some (.object "com/example/tidegate/tidegate/Decision")⟩ := by decide +kernel
theorem own_pd2 : parseMethodDescriptor "()Ljava/lang/String;" = some ⟨[], some (.object "java/lang/String")⟩ := by decide +kernel
theorem own_pd3 : parseMethodDescriptor "(Ljava/lang/Object;)Z" = some ⟨[(.object "java/lang/Object")], some .boolean⟩ := by decide +kernel
theorem own_efL (m : MethodId) (xf : Int32) : entryFrame m #[(.int xf)] maxLocals = mkF m 0 #[.val (.int xf), .unset, .unset, .unset] [] := by first | (simp [entryFrame, mkF, argsToLocals, Value.category, maxLocals]; done) | rfl
def own_QL (Z : State) (xf : Int32) (a_DENY : Addr) (a_DENY_word : Addr) (a_DENY_word_value : Addr) (a_ALLOW : Addr) (a_ALLOW_word : Addr) (a_ALLOW_word_value : Addr) (k_DENY_word_value : ClassId) (k_ALLOW_word_value : ClassId) (xc : Int32) (h0 : Heap) (n0 : Nat) (v : Option Value) (h : Heap) (L : List Loc) : Prop := v = some (.int (1 : Int32)) ∧ Fr n0 L
theorem own_pn3 : plainName "com/example/tidegate/tidegate/DecisionOfPinLaw" = true := by first | (simp [plainName, overriddenIn]; done) | decide +kernel
set_option maxRecDepth 65536 in
set_option maxHeartbeats 40000000 in
theorem own_rL (l : Launch) (Z : State) (a0 : Array Value) (hw : ∀ d ∈ tables_1, d.before a0 Z = true) (ws : List Jvm.Cond) (xf : Int32) (a_DENY : Addr) (a_DENY_word : Addr) (a_DENY_word_value : Addr) (a_ALLOW : Addr) (a_ALLOW_word : Addr) (a_ALLOW_word_value : Addr) (k_DENY_word_value : ClassId) (k_ALLOW_word_value : ClassId) (xc : Int32) (h0 : Heap) (n0 : Nat) (Z0 : n0 ≤ h0.size) (hn0 : n0 = h0.size) (hh1 : Jvm.Lit.constHeld Z "com/example/tidegate/tidegate/DecisionOfPinLaw" 21) (hh0 : Jvm.Lit.constHeld Z "com/example/tidegate/tidegate/DecisionOfPinLaw" 32) (hcw : Jvm.Lit.compactW.before a0 Z = true) (SC : Sta Z h0 "java/lang/String" "COMPACT_STRINGS" "Z" (.int xc)) (hcz : ¬ xc = 0) (S_DENY : Sta Z h0 "com/example/tidegate/tidegate/Decision" "DENY" "Lcom/example/tidegate/tidegate/Decision;" (.ref a_DENY)) (E_DENY : Exa Z h0 a_DENY "com/example/tidegate/tidegate/Decision") (F_DENY_word : Fld Z h0 a_DENY "com/example/tidegate/tidegate/Decision" "word" "Ljava/lang/String;" (.ref a_DENY_word)) (E_DENY_word : Exa Z h0 a_DENY_word "java/lang/String") (F_DENY_word_coder : Fld Z h0 a_DENY_word "java/lang/String" "coder" "B" (.int (0 : Int32))) (F_DENY_word_value : Fld Z h0 a_DENY_word "java/lang/String" "value" "[B" (.ref a_DENY_word_value)) (S_ALLOW : Sta Z h0 "com/example/tidegate/tidegate/Decision" "ALLOW" "Lcom/example/tidegate/tidegate/Decision;" (.ref a_ALLOW)) (E_ALLOW : Exa Z h0 a_ALLOW "com/example/tidegate/tidegate/Decision") (F_ALLOW_word : Fld Z h0 a_ALLOW "com/example/tidegate/tidegate/Decision" "word" "Ljava/lang/String;" (.ref a_ALLOW_word)) (E_ALLOW_word : Exa Z h0 a_ALLOW_word "java/lang/String") (F_ALLOW_word_coder : Fld Z h0 a_ALLOW_word "java/lang/String" "coder" "B" (.int (0 : Int32))) (F_ALLOW_word_value : Fld Z h0 a_ALLOW_word "java/lang/String" "value" "[B" (.ref a_ALLOW_word_value)) (A_DENY_word_value : own_A Z h0 a_DENY_word_value k_DENY_word_value .byte [(.int (100 : Int32)), (.int (101 : Int32)), (.int (110 : Int32)), (.int (121 : Int32))]) (A_ALLOW_word_value : own_A Z h0 a_ALLOW_word_value k_ALLOW_word_value .byte [(.int (97 : Int32)), (.int (108 : Int32)), (.int (108 : Int32)), (.int (111 : Int32)), (.int (119 : Int32))]) :
    MetFree l x (head1 (Jvm.Cond.code x code maxLocals ret :: ws) room_1) (fun a U => a = #[(.int xf)] ∧ U = Z ∧ U.heap = h0) (fun _ _ _ _ _ => True) (fun _ U o U' => ∃ v L, o = .returned v ∧ own_QL Z xf a_DENY a_DENY_word a_DENY_word_value a_ALLOW a_ALLOW_word a_ALLOW_word_value k_DENY_word_value k_ALLOW_word_value xc h0 n0 v U'.heap L ∧ ReturnedEndW U o U' L room_1.cells room_1.slots) := by
  refine MetFree.of_bodySF (plainFor_of_name own_pn3) hisR ?_
  intro p e s m args below meth c s₁ Bd hml0 hP hK
  obtain ⟨rfl, hUZ, hh⟩ := hP
  have hZ : Z.Warmed39 s.vm := by rw [hUZ]; exact State.Warmed39.refl _
  have hx := Bd.exec
  have hby := Bd.bytes
  have hml : c.maxLocals = 4 := hml0
  have hown : s.vm.findClass "com/example/tidegate/tidegate/DecisionOfPinLaw" = some m.cls := findClass_of_methodNamed Bd.named
  have hnm := (name_of_methodNamed Bd.named Bd.method).1
  have X0 : Stand p l e room_1 s m #[(.int xf)] below meth c s₁ [] 0 0 := Stand.of_body Bd
  have e0 : s₁.heap = h0 := by rw [← hh, Bd.state]; rfl
  have N0 := Fr.nil n0
  show own_F p e below (fun o U' => ∃ v L, o = .returned v ∧ own_QL Z xf a_DENY a_DENY_word a_DENY_word_value a_ALLOW a_ALLOW_word a_ALLOW_word_value k_DENY_word_value k_ALLOW_word_value xc h0 n0 v U'.heap L ∧ ReturnedEndW s o U' L room_1.cells room_1.slots) s₁ (entryFrame m #[(.int xf)] maxLocals)
  rw [own_efL m xf]
  have own_strW : ∀ d ∈ Bundle.stringAtoms, d.before a0 Z = true := fun d hd => by
    simp only [Bundle.stringAtoms, Bundle.sN, List.mem_cons, List.not_mem_nil, or_false] at hd
    rcases hd with rfl | rfl | rfl | rfl | rfl | rfl | rfl
    · exact hw _ (List.mem_of_getElem? (i := 15) rfl)
    · exact hw _ (List.mem_of_getElem? (i := 16) rfl)
    · exact hw _ (List.mem_of_getElem? (i := 17) rfl)
    · exact hw _ (List.mem_of_getElem? (i := 18) rfl)
    · exact hw _ (List.mem_of_getElem? (i := 19) rfl)
    · exact hw _ (List.mem_of_getElem? (i := 20) rfl)
    · exact hw _ (List.mem_of_getElem? (i := 21) rfl)
  refine own_go (T' := s₁) (g' := (mkF m 1 #[.val (.int xf), .unset, .unset, .unset] [(.int xf)])) (fun _ k => XS.iloadN X0.here hx rfl (hb hby at_0) rfl k) ?_
  refine own_go (T' := s₁) (g' := (mkF m 2 #[.val (.int xf), .unset, .unset, .unset] [(.int (1 : Int32)), (.int xf)])) (fun _ k => XS.iconst X0.here hx rfl (hb hby at_1) k) ?_
  refine own_go (T' := s₁) (g' := (mkF m 3 #[.val (.int xf), .unset, .unset, .unset] [(.int (xf &&& (1 : Int32)))])) (fun _ k => XS.iand X0.here hx rfl (hb hby at_2) rfl k) ?_
  by_cases hc3 : (xf &&& (1 : Int32)) = (0 : Int32)
  · refine own_go (T' := s₁) (g' := (mkF m 10 #[.val (.int xf), .unset, .unset, .unset] [])) (fun _ k => XS.ifYes X0.here hx rfl (pc0 := 3) (pc' := 10) rfl (hb hby at_3) rfl ((if0 _ _).trans (teq (hc3 : (xf &&& (1 : Int32)) = (0 : Int32))).1) (by decide) (by decide) k) ?_
    refine own_go (T' := s₁) (g' := (mkF m 11 #[.val (.int xf), .unset, .unset, .unset] [(.int (0 : Int32))])) (fun _ k => XS.iconst X0.here hx rfl (hb hby at_10) k) ?_
    refine own_go (T' := s₁) (g' := (mkF m 12 #[.val (.int xf), .val (.int (0 : Int32)), .unset, .unset] [])) (fun _ k => XS.istoreN X0.here hx rfl (hb hby at_11) rfl (l' := #[.val (.int xf), .val (.int (0 : Int32)), .unset, .unset]) rfl k) ?_
    refine own_go (T' := s₁) (g' := (mkF m 13 #[.val (.int xf), .val (.int (0 : Int32)), .unset, .unset] [(.int (0 : Int32))])) (fun _ k => XS.iloadN X0.here hx rfl (hb hby at_12) rfl k) ?_
    obtain ⟨_, _, ⟨T1, L1, k1, n1⟩, -, X1, ⟨Lc1, hQ1, l1, y1, z1⟩, st1⟩ := Jvm.LawKit.callS X0 hx (y := (⟨"com/example/tidegate/tidegate/Decision", "of", "(Z)Lcom/example/tidegate/tidegate/Decision;"⟩ : MethodName)) hown (mvT hZ (hw _ (List.mem_of_getElem? (i := 0) rfl))) (mvT hZ (hw _ (List.mem_of_getElem? (i := 1) rfl))) (mvT hZ (hw _ (List.mem_of_getElem? (i := 2) rfl))) (mvT hZ (hw _ (List.mem_of_getElem? (i := 3) rfl))) (by decide) (backOf (W := 0) (own_rOf0 l Z a0 hw [] a_DENY h0 n0 Z0 S_DENY) hZ (hw _ (List.mem_of_getElem? (i := 3) rfl)) (hw _ (List.mem_of_getElem? (i := 2) rfl)) (by decide) (by decide)) (g := (mkF m 13 #[.val (.int xf), .val (.int (0 : Int32)), .unset, .unset] [(.int (0 : Int32))])) rfl (by rw [hml]; rfl) (argsL := [(.int (0 : Int32))]) (rest := []) (lenOf own_pd1 rfl) rfl (by show 2 * 0 + _ ≤ _; exact Nat.le_of_eq rfl) (hb hby at_13) (fun _ _ => ⟨rfl, e0, (by decide : 0 + 0 ≤ _), (by decide : 0 + 0 ≤ _)⟩)
    dsimp only [Pt.U, Pt.locs, Pt.cells, Pt.slots] at X1 l1 y1 z1 st1 hQ1
    subst l1 y1 z1
    obtain ⟨rfl, N1q, e1⟩ := hQ1
    have N1 := Fr.app N0 N1q
    refine own_go (T' := T1) (g' := (mkF m 16 #[.val (.int xf), .val (.int (0 : Int32)), .unset, .unset] [(.ref a_DENY)])) (fun _ k => st1 _ k) ?_
    refine own_go (T' := T1) (g' := (mkF m 17 #[.val (.int xf), .val (.int (0 : Int32)), .val (.ref a_DENY), .unset] [])) (fun _ k => XS.astoreN X1.here hx rfl (hb hby at_16) rfl rfl (l' := #[.val (.int xf), .val (.int (0 : Int32)), .val (.ref a_DENY), .unset]) rfl k) ?_
    refine own_go (T' := T1) (g' := (mkF m 18 #[.val (.int xf), .val (.int (0 : Int32)), .val (.ref a_DENY), .unset] [(.ref a_DENY)])) (fun _ k => XS.aloadN X1.here hx rfl (hb hby at_17) rfl rfl k) ?_
    refine own_go (T' := T1) (g' := (mkF m 23 #[.val (.int xf), .val (.int (0 : Int32)), .val (.ref a_DENY), .unset] [])) (fun _ k => XS.ifnonnullYes X1.here hx rfl (pc0 := 18) (pc' := 23) rfl (hb hby at_18) rfl (by decide) (by decide) k) ?_
    refine own_go (T' := T1) (g' := (mkF m 24 #[.val (.int xf), .val (.int (0 : Int32)), .val (.ref a_DENY), .unset] [(.ref a_DENY)])) (fun _ k => XS.aloadN X1.here hx rfl (hb hby at_23) rfl rfl k) ?_
    obtain ⟨cq2, kq2, q2a, q2b, q2c⟩ := isOf hZ e1 E_DENY
    obtain ⟨_, _, ⟨T2, L2, k2, n2⟩, -, X2, ⟨Lc2, hQ2, l2, y2, z2⟩, st2⟩ := X1.virtualBack hx (y := (⟨"com/example/tidegate/tidegate/Decision", "word", "()Ljava/lang/String;"⟩ : MethodName)) (z := (⟨"com/example/tidegate/tidegate/Decision", "word", "()Ljava/lang/String;"⟩ : MethodName)) hown (mvT hZ (hw _ (List.mem_of_getElem? (i := 6) rfl))) (mvT hZ (hw _ (List.mem_of_getElem? (i := 7) rfl))) (notFace_of_selects (args := #[]) (mvT hZ (hw _ (List.mem_of_getElem? (i := 9) rfl)))) (mvT hZ (hw _ (List.mem_of_getElem? (i := 9) rfl))) (mvT hZ (hw _ (List.mem_of_getElem? (i := 8) rfl))) (by decide) (backOf (W := 0) (own_rWd l Z a0 hw [] a_DENY a_DENY_word h0 n0 Z0 F_DENY_word) hZ (hw _ (List.mem_of_getElem? (i := 10) rfl)) (hw _ (List.mem_of_getElem? (i := 2) rfl)) (by decide) (by decide)) q2a q2c (g := (mkF m 24 #[.val (.int xf), .val (.int (0 : Int32)), .val (.ref a_DENY), .unset] [(.ref a_DENY)])) rfl (by rw [hml]; rfl) (Steps.refl _) (argsL := []) (rest := []) (lenOf own_pd2 rfl) rfl (by show 2 * 0 + _ ≤ _; exact Nat.le_of_eq rfl) (hb hby at_24) (fun _ _ => ⟨rfl, e1, (by decide : 0 + 0 ≤ _), (by decide : 0 + 0 ≤ _)⟩)
    dsimp only [Pt.U, Pt.locs, Pt.cells, Pt.slots] at X2 l2 y2 z2 st2 hQ2
    subst l2 y2 z2
    obtain ⟨rfl, N2q, e2⟩ := hQ2
    have N2 := Fr.app N1 N2q
    refine own_goT (T' := T2) (g' := (mkF m 27 #[.val (.int xf), .val (.int (0 : Int32)), .val (.ref a_DENY), .unset] [(.ref a_DENY_word)])) st2 ?_
    refine own_go (T' := T2) (g' := (mkF m 28 #[.val (.int xf), .val (.int (0 : Int32)), .val (.ref a_DENY), .val (.ref a_DENY_word)] [])) (fun _ k => XS.astoreN X2.here hx rfl (hb hby at_27) rfl rfl (l' := #[.val (.int xf), .val (.int (0 : Int32)), .val (.ref a_DENY), .val (.ref a_DENY_word)]) rfl k) ?_
    refine own_go (T' := T2) (g' := (mkF m 29 #[.val (.int xf), .val (.int (0 : Int32)), .val (.ref a_DENY), .val (.ref a_DENY_word)] [(.int (0 : Int32))])) (fun _ k => XS.iloadN X2.here hx rfl (hb hby at_28) rfl k) ?_
    refine own_go (T' := T2) (g' := (mkF m 54 #[.val (.int xf), .val (.int (0 : Int32)), .val (.ref a_DENY), .val (.ref a_DENY_word)] [])) (fun _ k => XS.ifYes X2.here hx rfl (pc0 := 29) (pc' := 54) rfl (hb hby at_29) rfl ((if0 _ _).trans (teq ((by decide) : (0 : Int32) = (0 : Int32))).1) (by decide) (by decide) k) ?_
    refine own_go (T' := T2) (g' := (mkF m 55 #[.val (.int xf), .val (.int (0 : Int32)), .val (.ref a_DENY), .val (.ref a_DENY_word)] [(.ref a_DENY)])) (fun _ k => XS.aloadN X2.here hx rfl (hb hby at_54) rfl rfl k) ?_
    obtain ⟨T3, X3, e3, st3⟩ := getS X2 hx hZ (host := "") hown (hw _ (List.mem_of_getElem? (i := 13) rfl)) Via.refl e2 S_DENY (g := (mkF m 55 #[.val (.int xf), .val (.int (0 : Int32)), .val (.ref a_DENY), .val (.ref a_DENY_word)] [(.ref a_DENY)])) rfl (hb hby at_55)
    refine own_go (T' := T3) (g' := (mkF m 58 #[.val (.int xf), .val (.int (0 : Int32)), .val (.ref a_DENY), .val (.ref a_DENY_word)] [(.ref a_DENY), (.ref a_DENY)])) (fun _ k => st3 _ k) ?_
    refine own_go (T' := T3) (g' := (mkF m 61 #[.val (.int xf), .val (.int (0 : Int32)), .val (.ref a_DENY), .val (.ref a_DENY_word)] [])) (fun _ k => Jvm.RoadKit.acmp (g := (mkF m 58 #[.val (.int xf), .val (.int (0 : Int32)), .val (.ref a_DENY), .val (.ref a_DENY_word)] [(.ref a_DENY), (.ref a_DENY)])) X3 hx rfl rfl rfl (pc0 := 58) (pc' := 61) (same := true) rfl (hb hby at_58) rfl (decide_eq_true rfl) (by decide) (by decide) k) ?_
    refine own_go (T' := T3) (g' := (mkF m 62 #[.val (.int xf), .val (.int (0 : Int32)), .val (.ref a_DENY), .val (.ref a_DENY_word)] [(.ref a_DENY_word)])) (fun _ k => XS.aloadN X3.here hx rfl (hb hby at_61) rfl rfl k) ?_
    have NN4 := own_frc (show n0 = s.heap.size by rw [hh]; exact hn0) N2
    obtain ⟨al4, T4, h4, k14, bl4, kl4, X4, e4, E4, hS4, hk4, hZ4, hown4, El4, Fc4, Fv4, Av4, -, -, -, st4⟩ := ldcSV (s := s) (vm0 := s.vm) X3 hx hZ hown (hw _ (List.mem_of_getElem? (i := 14) rfl)) own_strW e3 ((State.WarmedH.refl s).since 0) (Nat.zero_le _) NN4 (fun b cl q => by rw [hUZ]; exact q) (by rw [hUZ]; exact IB.start) (by simp) hh0 hcw (vs := [(.int (100 : Int32)), (.int (101 : Int32)), (.int (110 : Int32)), (.int (121 : Int32))]) (z := (4 : Int32)) ⟨by decide, by decide⟩ (by decide) rfl (g := (mkF m 62 #[.val (.int xf), .val (.int (0 : Int32)), .val (.ref a_DENY), .val (.ref a_DENY_word)] [(.ref a_DENY_word)])) rfl (hb hby at_62) (n := 16) (by decide) (by decide) (by decide) (by decide)
    have Al4 : own_A Z h4 bl4 kl4 .byte [(.int (100 : Int32)), (.int (101 : Int32)), (.int (110 : Int32)), (.int (121 : Int32))] := own_A.of_arv Av4 rfl
    have Z4 : n0 ≤ h4.size := Nat.le_trans Z0 E4.1
    have O4 : Ext h0 h4 := own_ext_tr (own_ext_rf h0) E4
    have K4 : Keep h0 h4 [] := (Keep.refl h0 []).ext E4
    refine own_go (T' := T4) (g' := (mkF m 64 #[.val (.int xf), .val (.int (0 : Int32)), .val (.ref a_DENY), .val (.ref a_DENY_word)] [(.ref al4), (.ref a_DENY_word)])) (fun _ k => st4 _ k) ?_
    obtain ⟨cq5, kq5, q5a, q5b, q5c⟩ := isOf hZ4 e4 (E_DENY_word.ext O4)
    obtain ⟨_, _, ⟨T5, L5, k5, n5⟩, -, X5, ⟨Lc5, hQ5, l5, y5, z5⟩, st5⟩ := X4.virtualBack hx (y := (⟨"java/lang/String", "equals", "(Ljava/lang/Object;)Z"⟩ : MethodName)) (z := (⟨"java/lang/String", "equals", "(Ljava/lang/Object;)Z"⟩ : MethodName)) hown4 (mvT hZ4 (hw _ (List.mem_of_getElem? (i := 22) rfl))) (mvT hZ4 (hw _ (List.mem_of_getElem? (i := 23) rfl))) (notFace_of_selects (args := #[]) (mvT hZ4 (hw _ (List.mem_of_getElem? (i := 25) rfl)))) (mvT hZ4 (hw _ (List.mem_of_getElem? (i := 25) rfl))) (mvT hZ4 (hw _ (List.mem_of_getElem? (i := 24) rfl))) (by decide) (backOf (W := 0) (own_rEq0 l Z a0 hw [] a_DENY_word al4 xc a_DENY_word_value bl4 k_DENY_word_value kl4 h4 n0 Z4 (SC.ext O4) hcz (F_DENY_word_coder.ext O4) (F_DENY_word_value.ext O4) Fc4 Fv4 El4 (A_DENY_word_value.ext O4) Al4) hZ4 (hw _ (List.mem_of_getElem? (i := 26) rfl)) (hw _ (List.mem_of_getElem? (i := 15) rfl)) (by decide) (by decide)) q5a q5c (g := (mkF m 64 #[.val (.int xf), .val (.int (0 : Int32)), .val (.ref a_DENY), .val (.ref a_DENY_word)] [(.ref al4), (.ref a_DENY_word)])) rfl (by rw [hml]; rfl) (Steps.refl _) (argsL := [(.ref al4)]) (rest := []) (lenOf own_pd3 rfl) rfl (by show 2 * 0 + _ ≤ _; exact Nat.le_of_eq rfl) (hb hby at_64) (fun _ _ => ⟨rfl, e4, (by decide : 2 + 0 ≤ _), (by decide : 20 + 0 ≤ _)⟩)
    dsimp only [Pt.U, Pt.locs, Pt.cells, Pt.slots] at X5 l5 y5 z5 st5 hQ5
    subst l5 y5 z5
    obtain ⟨rfl, N5q, e5⟩ := hQ5
    have N5 := Fr.app N2 N5q
    refine own_goT (T' := T5) (g' := (mkF m 67 #[.val (.int xf), .val (.int (0 : Int32)), .val (.ref a_DENY), .val (.ref a_DENY_word)] [(.int (1 : Int32))])) st5 ?_
    refine own_go (T' := T5) (g' := (mkF m 70 #[.val (.int xf), .val (.int (0 : Int32)), .val (.ref a_DENY), .val (.ref a_DENY_word)] [])) (fun _ k => XS.ifNo X5.here hx rfl (hb hby at_67) rfl ((if0 _ _).trans (feq ((by decide) : ¬ ((1 : Int32) = (0 : Int32)))).1) k) ?_
    refine own_go (T' := T5) (g' := (mkF m 71 #[.val (.int xf), .val (.int (0 : Int32)), .val (.ref a_DENY), .val (.ref a_DENY_word)] [(.int (1 : Int32))])) (fun _ k => XS.iconst X5.here hx rfl (hb hby at_70) k) ?_
    refine own_go (T' := T5) (g' := (mkF m 75 #[.val (.int xf), .val (.int (0 : Int32)), .val (.ref a_DENY), .val (.ref a_DENY_word)] [(.int (1 : Int32))])) (fun _ k => XS.goto X5.here hx rfl (pc0 := 71) (pc' := 75) rfl (hb hby at_71) (by decide) (by decide) k) ?_
    obtain ⟨fs, hr, hrun, hended, w1, w2, w3, w4⟩ := X5.leaveW (s := s) hS4 (by rw [e5]; exact hk4) (v := some (.int (1 : Int32))) (fun h => by rw [Bd.returns] at h; cases h)
    refine own_end (retN X5 hx (t := .boolean) Bd.returns (by simp) (hb hby at_75) hr) hrun hended ⟨_, _, rfl, (?_ : own_QL Z xf a_DENY a_DENY_word a_DENY_word_value a_ALLOW a_ALLOW_word a_ALLOW_word_value k_DENY_word_value k_ALLOW_word_value xc h0 n0 _ T5.heap _), w1, w2, w3, w4.mono (by decide) (by decide)⟩
    exact ⟨rfl, N5⟩
  · refine own_go (T' := s₁) (g' := (mkF m 6 #[.val (.int xf), .unset, .unset, .unset] [])) (fun _ k => XS.ifNo X0.here hx rfl (hb hby at_3) rfl ((if0 _ _).trans (feq (hc3 : ¬ ((xf &&& (1 : Int32)) = (0 : Int32)))).1) k) ?_
    refine own_go (T' := s₁) (g' := (mkF m 7 #[.val (.int xf), .unset, .unset, .unset] [(.int (1 : Int32))])) (fun _ k => XS.iconst X0.here hx rfl (hb hby at_6) k) ?_
    refine own_go (T' := s₁) (g' := (mkF m 11 #[.val (.int xf), .unset, .unset, .unset] [(.int (1 : Int32))])) (fun _ k => XS.goto X0.here hx rfl (pc0 := 7) (pc' := 11) rfl (hb hby at_7) (by decide) (by decide) k) ?_
    refine own_go (T' := s₁) (g' := (mkF m 12 #[.val (.int xf), .val (.int (1 : Int32)), .unset, .unset] [])) (fun _ k => XS.istoreN X0.here hx rfl (hb hby at_11) rfl (l' := #[.val (.int xf), .val (.int (1 : Int32)), .unset, .unset]) rfl k) ?_
    refine own_go (T' := s₁) (g' := (mkF m 13 #[.val (.int xf), .val (.int (1 : Int32)), .unset, .unset] [(.int (1 : Int32))])) (fun _ k => XS.iloadN X0.here hx rfl (hb hby at_12) rfl k) ?_
    obtain ⟨_, _, ⟨T6, L6, k6, n6⟩, -, X6, ⟨Lc6, hQ6, l6, y6, z6⟩, st6⟩ := Jvm.LawKit.callS X0 hx (y := (⟨"com/example/tidegate/tidegate/Decision", "of", "(Z)Lcom/example/tidegate/tidegate/Decision;"⟩ : MethodName)) hown (mvT hZ (hw _ (List.mem_of_getElem? (i := 0) rfl))) (mvT hZ (hw _ (List.mem_of_getElem? (i := 1) rfl))) (mvT hZ (hw _ (List.mem_of_getElem? (i := 2) rfl))) (mvT hZ (hw _ (List.mem_of_getElem? (i := 3) rfl))) (by decide) (backOf (W := 0) (own_rOf1 l Z a0 hw [] a_ALLOW h0 n0 Z0 S_ALLOW) hZ (hw _ (List.mem_of_getElem? (i := 3) rfl)) (hw _ (List.mem_of_getElem? (i := 2) rfl)) (by decide) (by decide)) (g := (mkF m 13 #[.val (.int xf), .val (.int (1 : Int32)), .unset, .unset] [(.int (1 : Int32))])) rfl (by rw [hml]; rfl) (argsL := [(.int (1 : Int32))]) (rest := []) (lenOf own_pd1 rfl) rfl (by show 2 * 0 + _ ≤ _; exact Nat.le_of_eq rfl) (hb hby at_13) (fun _ _ => ⟨rfl, e0, (by decide : 0 + 0 ≤ _), (by decide : 0 + 0 ≤ _)⟩)
    dsimp only [Pt.U, Pt.locs, Pt.cells, Pt.slots] at X6 l6 y6 z6 st6 hQ6
    subst l6 y6 z6
    obtain ⟨rfl, N6q, e6⟩ := hQ6
    have N6 := Fr.app N0 N6q
    refine own_go (T' := T6) (g' := (mkF m 16 #[.val (.int xf), .val (.int (1 : Int32)), .unset, .unset] [(.ref a_ALLOW)])) (fun _ k => st6 _ k) ?_
    refine own_go (T' := T6) (g' := (mkF m 17 #[.val (.int xf), .val (.int (1 : Int32)), .val (.ref a_ALLOW), .unset] [])) (fun _ k => XS.astoreN X6.here hx rfl (hb hby at_16) rfl rfl (l' := #[.val (.int xf), .val (.int (1 : Int32)), .val (.ref a_ALLOW), .unset]) rfl k) ?_
    refine own_go (T' := T6) (g' := (mkF m 18 #[.val (.int xf), .val (.int (1 : Int32)), .val (.ref a_ALLOW), .unset] [(.ref a_ALLOW)])) (fun _ k => XS.aloadN X6.here hx rfl (hb hby at_17) rfl rfl k) ?_
    refine own_go (T' := T6) (g' := (mkF m 23 #[.val (.int xf), .val (.int (1 : Int32)), .val (.ref a_ALLOW), .unset] [])) (fun _ k => XS.ifnonnullYes X6.here hx rfl (pc0 := 18) (pc' := 23) rfl (hb hby at_18) rfl (by decide) (by decide) k) ?_
    refine own_go (T' := T6) (g' := (mkF m 24 #[.val (.int xf), .val (.int (1 : Int32)), .val (.ref a_ALLOW), .unset] [(.ref a_ALLOW)])) (fun _ k => XS.aloadN X6.here hx rfl (hb hby at_23) rfl rfl k) ?_
    obtain ⟨cq7, kq7, q7a, q7b, q7c⟩ := isOf hZ e6 E_ALLOW
    obtain ⟨_, _, ⟨T7, L7, k7, n7⟩, -, X7, ⟨Lc7, hQ7, l7, y7, z7⟩, st7⟩ := X6.virtualBack hx (y := (⟨"com/example/tidegate/tidegate/Decision", "word", "()Ljava/lang/String;"⟩ : MethodName)) (z := (⟨"com/example/tidegate/tidegate/Decision", "word", "()Ljava/lang/String;"⟩ : MethodName)) hown (mvT hZ (hw _ (List.mem_of_getElem? (i := 6) rfl))) (mvT hZ (hw _ (List.mem_of_getElem? (i := 7) rfl))) (notFace_of_selects (args := #[]) (mvT hZ (hw _ (List.mem_of_getElem? (i := 9) rfl)))) (mvT hZ (hw _ (List.mem_of_getElem? (i := 9) rfl))) (mvT hZ (hw _ (List.mem_of_getElem? (i := 8) rfl))) (by decide) (backOf (W := 0) (own_rWd l Z a0 hw [] a_ALLOW a_ALLOW_word h0 n0 Z0 F_ALLOW_word) hZ (hw _ (List.mem_of_getElem? (i := 10) rfl)) (hw _ (List.mem_of_getElem? (i := 2) rfl)) (by decide) (by decide)) q7a q7c (g := (mkF m 24 #[.val (.int xf), .val (.int (1 : Int32)), .val (.ref a_ALLOW), .unset] [(.ref a_ALLOW)])) rfl (by rw [hml]; rfl) (Steps.refl _) (argsL := []) (rest := []) (lenOf own_pd2 rfl) rfl (by show 2 * 0 + _ ≤ _; exact Nat.le_of_eq rfl) (hb hby at_24) (fun _ _ => ⟨rfl, e6, (by decide : 0 + 0 ≤ _), (by decide : 0 + 0 ≤ _)⟩)
    dsimp only [Pt.U, Pt.locs, Pt.cells, Pt.slots] at X7 l7 y7 z7 st7 hQ7
    subst l7 y7 z7
    obtain ⟨rfl, N7q, e7⟩ := hQ7
    have N7 := Fr.app N6 N7q
    refine own_goT (T' := T7) (g' := (mkF m 27 #[.val (.int xf), .val (.int (1 : Int32)), .val (.ref a_ALLOW), .unset] [(.ref a_ALLOW_word)])) st7 ?_
    refine own_go (T' := T7) (g' := (mkF m 28 #[.val (.int xf), .val (.int (1 : Int32)), .val (.ref a_ALLOW), .val (.ref a_ALLOW_word)] [])) (fun _ k => XS.astoreN X7.here hx rfl (hb hby at_27) rfl rfl (l' := #[.val (.int xf), .val (.int (1 : Int32)), .val (.ref a_ALLOW), .val (.ref a_ALLOW_word)]) rfl k) ?_
    refine own_go (T' := T7) (g' := (mkF m 29 #[.val (.int xf), .val (.int (1 : Int32)), .val (.ref a_ALLOW), .val (.ref a_ALLOW_word)] [(.int (1 : Int32))])) (fun _ k => XS.iloadN X7.here hx rfl (hb hby at_28) rfl k) ?_
    refine own_go (T' := T7) (g' := (mkF m 32 #[.val (.int xf), .val (.int (1 : Int32)), .val (.ref a_ALLOW), .val (.ref a_ALLOW_word)] [])) (fun _ k => XS.ifNo X7.here hx rfl (hb hby at_29) rfl ((if0 _ _).trans (feq ((by decide) : ¬ ((1 : Int32) = (0 : Int32)))).1) k) ?_
    refine own_go (T' := T7) (g' := (mkF m 33 #[.val (.int xf), .val (.int (1 : Int32)), .val (.ref a_ALLOW), .val (.ref a_ALLOW_word)] [(.ref a_ALLOW)])) (fun _ k => XS.aloadN X7.here hx rfl (hb hby at_32) rfl rfl k) ?_
    obtain ⟨T8, X8, e8, st8⟩ := getS X7 hx hZ (host := "") hown (hw _ (List.mem_of_getElem? (i := 38) rfl)) Via.refl e7 S_ALLOW (g := (mkF m 33 #[.val (.int xf), .val (.int (1 : Int32)), .val (.ref a_ALLOW), .val (.ref a_ALLOW_word)] [(.ref a_ALLOW)])) rfl (hb hby at_33)
    refine own_go (T' := T8) (g' := (mkF m 36 #[.val (.int xf), .val (.int (1 : Int32)), .val (.ref a_ALLOW), .val (.ref a_ALLOW_word)] [(.ref a_ALLOW), (.ref a_ALLOW)])) (fun _ k => st8 _ k) ?_
    refine own_go (T' := T8) (g' := (mkF m 39 #[.val (.int xf), .val (.int (1 : Int32)), .val (.ref a_ALLOW), .val (.ref a_ALLOW_word)] [])) (fun _ k => Jvm.RoadKit.acmp (g := (mkF m 36 #[.val (.int xf), .val (.int (1 : Int32)), .val (.ref a_ALLOW), .val (.ref a_ALLOW_word)] [(.ref a_ALLOW), (.ref a_ALLOW)])) X8 hx rfl rfl rfl (pc0 := 36) (pc' := 39) (same := true) rfl (hb hby at_36) rfl (decide_eq_true rfl) (by decide) (by decide) k) ?_
    refine own_go (T' := T8) (g' := (mkF m 40 #[.val (.int xf), .val (.int (1 : Int32)), .val (.ref a_ALLOW), .val (.ref a_ALLOW_word)] [(.ref a_ALLOW_word)])) (fun _ k => XS.aloadN X8.here hx rfl (hb hby at_39) rfl rfl k) ?_
    have NN9 := own_frc (show n0 = s.heap.size by rw [hh]; exact hn0) N7
    obtain ⟨al9, T9, h9, k19, bl9, kl9, X9, e9, E9, hS9, hk9, hZ9, hown9, El9, Fc9, Fv9, Av9, -, -, -, st9⟩ := ldcSV (s := s) (vm0 := s.vm) X8 hx hZ hown (hw _ (List.mem_of_getElem? (i := 39) rfl)) own_strW e8 ((State.WarmedH.refl s).since 0) (Nat.zero_le _) NN9 (fun b cl q => by rw [hUZ]; exact q) (by rw [hUZ]; exact IB.start) (by simp) hh1 hcw (vs := [(.int (97 : Int32)), (.int (108 : Int32)), (.int (108 : Int32)), (.int (111 : Int32)), (.int (119 : Int32))]) (z := (5 : Int32)) ⟨by decide, by decide⟩ (by decide) rfl (g := (mkF m 40 #[.val (.int xf), .val (.int (1 : Int32)), .val (.ref a_ALLOW), .val (.ref a_ALLOW_word)] [(.ref a_ALLOW_word)])) rfl (hb hby at_40) (n := 20) (by decide) (by decide) (by decide) (by decide)
    have Al9 : own_A Z h9 bl9 kl9 .byte [(.int (97 : Int32)), (.int (108 : Int32)), (.int (108 : Int32)), (.int (111 : Int32)), (.int (119 : Int32))] := own_A.of_arv Av9 rfl
    have Z9 : n0 ≤ h9.size := Nat.le_trans Z0 E9.1
    have O9 : Ext h0 h9 := own_ext_tr (own_ext_rf h0) E9
    have K9 : Keep h0 h9 [] := (Keep.refl h0 []).ext E9
    refine own_go (T' := T9) (g' := (mkF m 42 #[.val (.int xf), .val (.int (1 : Int32)), .val (.ref a_ALLOW), .val (.ref a_ALLOW_word)] [(.ref al9), (.ref a_ALLOW_word)])) (fun _ k => st9 _ k) ?_
    obtain ⟨cq10, kq10, q10a, q10b, q10c⟩ := isOf hZ9 e9 (E_ALLOW_word.ext O9)
    obtain ⟨_, _, ⟨T10, L10, k10, n10⟩, -, X10, ⟨Lc10, hQ10, l10, y10, z10⟩, st10⟩ := X9.virtualBack hx (y := (⟨"java/lang/String", "equals", "(Ljava/lang/Object;)Z"⟩ : MethodName)) (z := (⟨"java/lang/String", "equals", "(Ljava/lang/Object;)Z"⟩ : MethodName)) hown9 (mvT hZ9 (hw _ (List.mem_of_getElem? (i := 22) rfl))) (mvT hZ9 (hw _ (List.mem_of_getElem? (i := 23) rfl))) (notFace_of_selects (args := #[]) (mvT hZ9 (hw _ (List.mem_of_getElem? (i := 25) rfl)))) (mvT hZ9 (hw _ (List.mem_of_getElem? (i := 25) rfl))) (mvT hZ9 (hw _ (List.mem_of_getElem? (i := 24) rfl))) (by decide) (backOf (W := 0) (own_rEq1 l Z a0 hw [] a_ALLOW_word al9 xc a_ALLOW_word_value bl9 k_ALLOW_word_value kl9 h9 n0 Z9 (SC.ext O9) hcz (F_ALLOW_word_coder.ext O9) (F_ALLOW_word_value.ext O9) Fc9 Fv9 El9 (A_ALLOW_word_value.ext O9) Al9) hZ9 (hw _ (List.mem_of_getElem? (i := 26) rfl)) (hw _ (List.mem_of_getElem? (i := 15) rfl)) (by decide) (by decide)) q10a q10c (g := (mkF m 42 #[.val (.int xf), .val (.int (1 : Int32)), .val (.ref a_ALLOW), .val (.ref a_ALLOW_word)] [(.ref al9), (.ref a_ALLOW_word)])) rfl (by rw [hml]; rfl) (Steps.refl _) (argsL := [(.ref al9)]) (rest := []) (lenOf own_pd3 rfl) rfl (by show 2 * 0 + _ ≤ _; exact Nat.le_of_eq rfl) (hb hby at_42) (fun _ _ => ⟨rfl, e9, (by decide : 2 + 0 ≤ _), (by decide : 24 + 0 ≤ _)⟩)
    dsimp only [Pt.U, Pt.locs, Pt.cells, Pt.slots] at X10 l10 y10 z10 st10 hQ10
    subst l10 y10 z10
    obtain ⟨rfl, N10q, e10⟩ := hQ10
    have N10 := Fr.app N7 N10q
    refine own_goT (T' := T10) (g' := (mkF m 45 #[.val (.int xf), .val (.int (1 : Int32)), .val (.ref a_ALLOW), .val (.ref a_ALLOW_word)] [(.int (1 : Int32))])) st10 ?_
    refine own_go (T' := T10) (g' := (mkF m 48 #[.val (.int xf), .val (.int (1 : Int32)), .val (.ref a_ALLOW), .val (.ref a_ALLOW_word)] [])) (fun _ k => XS.ifNo X10.here hx rfl (hb hby at_45) rfl ((if0 _ _).trans (feq ((by decide) : ¬ ((1 : Int32) = (0 : Int32)))).1) k) ?_
    refine own_go (T' := T10) (g' := (mkF m 49 #[.val (.int xf), .val (.int (1 : Int32)), .val (.ref a_ALLOW), .val (.ref a_ALLOW_word)] [(.int (1 : Int32))])) (fun _ k => XS.iconst X10.here hx rfl (hb hby at_48) k) ?_
    refine own_go (T' := T10) (g' := (mkF m 53 #[.val (.int xf), .val (.int (1 : Int32)), .val (.ref a_ALLOW), .val (.ref a_ALLOW_word)] [(.int (1 : Int32))])) (fun _ k => XS.goto X10.here hx rfl (pc0 := 49) (pc' := 53) rfl (hb hby at_49) (by decide) (by decide) k) ?_
    obtain ⟨fs, hr, hrun, hended, w1, w2, w3, w4⟩ := X10.leaveW (s := s) hS9 (by rw [e10]; exact hk9) (v := some (.int (1 : Int32))) (fun h => by rw [Bd.returns] at h; cases h)
    refine own_end (retN X10 hx (t := .boolean) Bd.returns (by simp) (hb hby at_53) hr) hrun hended ⟨_, _, rfl, (?_ : own_QL Z xf a_DENY a_DENY_word a_DENY_word_value a_ALLOW a_ALLOW_word a_ALLOW_word_value k_DENY_word_value k_ALLOW_word_value xc h0 n0 _ T10.heap _), w1, w2, w3, w4.mono (by decide) (by decide)⟩
    exact ⟨rfl, N10⟩
set_option maxRecDepth 65536 in
set_option maxHeartbeats 40000000 in
theorem own_comes {Post : Tables → Env → Array Value → State → Outcome → State → Prop} (hpost : ∀ tb e args s v u, (limb_1_1.after args s (.returned v) u = true ∧ limb_1_2.after args s (.returned v) u = true ∧ True) → ReturnedEndW s (.returned v) u (Jvm.fieldLocs frame_1_writes args s ++ Jvm.arrayLocs frame_1_arrays args s ++ Jvm.staticLocs frame_1_statics s) 8 2112 → Post tb e args s (.returned v) u) :
    ArmFor flags0 classFile x code maxLocals ret World_1 tables_1 room_1 Calls_1 rest_1 Pre_1 Post := by
  intro l hfl _ _ p e ha hc hk s m args below hf hA hF happ hP
  obtain ⟨hcalls, hrest, hpre⟩ := hP
  obtain ⟨-, -, -, hnamed, -, -, -, hat⟩ := (Spec.applies_iff hf).mp happ
  obtain ⟨hg, hn⟩ := and_e (Cond.before_iff.mp (show (Jvm.Cond.and given_1 narrow_1).before args s = true from hpre))
  obtain ⟨gc, g0⟩ := and_e hg
  obtain ⟨w0, rfl⟩ : ∃ w0 : Value, args = #[w0] := by
    have hs : args.size = 1 := by simpa [Cond.value, given_1] using gc
    obtain ⟨L⟩ := args
    match L, hs with
    | [w0], _ => exact ⟨w0, rfl⟩
  have hw := fun d (hd : d ∈ tables_1) => atoms_spec (ws := Jvm.Cond.code x code maxLocals ret :: tables_1) hat d (List.mem_cons_of_mem _ hd)
  have hfit : Fit s := fun {y c} hc i hi => by
    obtain ⟨ha, rfl⟩ := Array.getElem?_eq_some_iff.mp hc
    have q := List.all_eq_true.mp ((Array.all_eq_true_iff_forall_mem.mp hF) _ (Array.getElem_mem ha)) i (List.mem_range.mpr hi)
    simpa [Array.getElem?_eq_getElem hi] using q
  obtain ⟨i0, ei0⟩ := is_v g0
  obtain rfl : w0 = (.int i0) := Option.some.inj ei0
  have hrest' : (jdkStatics_1.foldr Jvm.Cond.and restOwn_1).before #[Value.int i0] s = true := by rw [← rest_1_c_eq]; exact hrest
  obtain ⟨hsets, -⟩ := atoms_of jdkStatics_1 hrest'
  obtain ⟨k0, z0⟩ := and_e hn
  obtain ⟨a_DENY, e_DENY⟩ := exa_v k0
  have S_DENY : Sta s s.heap "com/example/tidegate/tidegate/Decision" "DENY" "Lcom/example/tidegate/tidegate/Decision;" (.ref a_DENY) := Sta.start e_DENY (Or.inr ⟨(hw _ (List.mem_of_getElem? (i := 2) rfl)), (hw _ (List.mem_of_getElem? (i := 5) rfl))⟩)
  have E_DENY : Exa s s.heap a_DENY "com/example/tidegate/tidegate/Decision" := Exa.start e_DENY k0
  obtain ⟨k1, z1⟩ := and_e z0
  obtain ⟨a_DENY_word, e_DENY_word⟩ := exa_v k1
  have F_DENY_word : Fld s s.heap a_DENY "com/example/tidegate/tidegate/Decision" "word" "Ljava/lang/String;" (.ref a_DENY_word) := Fld.start ((fld_at e_DENY).symm.trans e_DENY_word)
  have E_DENY_word : Exa s s.heap a_DENY_word "java/lang/String" := Exa.start e_DENY_word k1
  obtain ⟨k2, z2⟩ := and_e z1
  have e_DENY_word_coder := own_eqi k2
  have F_DENY_word_coder : Fld s s.heap a_DENY_word "java/lang/String" "coder" "B" (.int (0 : Int32)) := Fld.start ((fld_at e_DENY_word).symm.trans e_DENY_word_coder)
  obtain ⟨k3, z3⟩ := and_e z2
  obtain ⟨a_DENY_word_value, e_DENY_word_value⟩ := arr_v k3
  have F_DENY_word_value : Fld s s.heap a_DENY_word "java/lang/String" "value" "[B" (.ref a_DENY_word_value) := Fld.start ((fld_at e_DENY_word).symm.trans e_DENY_word_value)
  obtain ⟨cl_DENY_word_value, Ar_DENY_word_value⟩ := Arr.start e_DENY_word_value k3
  obtain ⟨k4, z4⟩ := and_e z3
  have L_DENY_word_value := own_len (n := 4) e_DENY_word_value (own_eqi k4) Ar_DENY_word_value rfl
  obtain ⟨k5, z5⟩ := and_e z4
  have V_DENY_word_value_0 : cl_DENY_word_value.slots[0]? = some (.int (100 : Int32)) := own_elem (j := 0) e_DENY_word_value (own_eqi k5) Ar_DENY_word_value.1
  obtain ⟨k6, z6⟩ := and_e z5
  have V_DENY_word_value_1 : cl_DENY_word_value.slots[1]? = some (.int (101 : Int32)) := own_elem (j := 1) e_DENY_word_value (own_eqi k6) Ar_DENY_word_value.1
  obtain ⟨k7, z7⟩ := and_e z6
  have V_DENY_word_value_2 : cl_DENY_word_value.slots[2]? = some (.int (110 : Int32)) := own_elem (j := 2) e_DENY_word_value (own_eqi k7) Ar_DENY_word_value.1
  obtain ⟨k8, z8⟩ := and_e z7
  have V_DENY_word_value_3 : cl_DENY_word_value.slots[3]? = some (.int (121 : Int32)) := own_elem (j := 3) e_DENY_word_value (own_eqi k8) Ar_DENY_word_value.1
  obtain ⟨k9, z9⟩ := and_e z8
  obtain ⟨a_ALLOW, e_ALLOW⟩ := exa_v k9
  have S_ALLOW : Sta s s.heap "com/example/tidegate/tidegate/Decision" "ALLOW" "Lcom/example/tidegate/tidegate/Decision;" (.ref a_ALLOW) := Sta.start e_ALLOW (Or.inr ⟨(hw _ (List.mem_of_getElem? (i := 2) rfl)), (hw _ (List.mem_of_getElem? (i := 37) rfl))⟩)
  have E_ALLOW : Exa s s.heap a_ALLOW "com/example/tidegate/tidegate/Decision" := Exa.start e_ALLOW k9
  obtain ⟨k10, z10⟩ := and_e z9
  obtain ⟨a_ALLOW_word, e_ALLOW_word⟩ := exa_v k10
  have F_ALLOW_word : Fld s s.heap a_ALLOW "com/example/tidegate/tidegate/Decision" "word" "Ljava/lang/String;" (.ref a_ALLOW_word) := Fld.start ((fld_at e_ALLOW).symm.trans e_ALLOW_word)
  have E_ALLOW_word : Exa s s.heap a_ALLOW_word "java/lang/String" := Exa.start e_ALLOW_word k10
  obtain ⟨k11, z11⟩ := and_e z10
  have e_ALLOW_word_coder := own_eqi k11
  have F_ALLOW_word_coder : Fld s s.heap a_ALLOW_word "java/lang/String" "coder" "B" (.int (0 : Int32)) := Fld.start ((fld_at e_ALLOW_word).symm.trans e_ALLOW_word_coder)
  obtain ⟨k12, z12⟩ := and_e z11
  obtain ⟨a_ALLOW_word_value, e_ALLOW_word_value⟩ := arr_v k12
  have F_ALLOW_word_value : Fld s s.heap a_ALLOW_word "java/lang/String" "value" "[B" (.ref a_ALLOW_word_value) := Fld.start ((fld_at e_ALLOW_word).symm.trans e_ALLOW_word_value)
  obtain ⟨cl_ALLOW_word_value, Ar_ALLOW_word_value⟩ := Arr.start e_ALLOW_word_value k12
  obtain ⟨k13, z13⟩ := and_e z12
  have L_ALLOW_word_value := own_len (n := 5) e_ALLOW_word_value (own_eqi k13) Ar_ALLOW_word_value rfl
  obtain ⟨k14, z14⟩ := and_e z13
  have V_ALLOW_word_value_0 : cl_ALLOW_word_value.slots[0]? = some (.int (97 : Int32)) := own_elem (j := 0) e_ALLOW_word_value (own_eqi k14) Ar_ALLOW_word_value.1
  obtain ⟨k15, z15⟩ := and_e z14
  have V_ALLOW_word_value_1 : cl_ALLOW_word_value.slots[1]? = some (.int (108 : Int32)) := own_elem (j := 1) e_ALLOW_word_value (own_eqi k15) Ar_ALLOW_word_value.1
  obtain ⟨k16, z16⟩ := and_e z15
  have V_ALLOW_word_value_2 : cl_ALLOW_word_value.slots[2]? = some (.int (108 : Int32)) := own_elem (j := 2) e_ALLOW_word_value (own_eqi k16) Ar_ALLOW_word_value.1
  obtain ⟨k17, z17⟩ := and_e z16
  have V_ALLOW_word_value_3 : cl_ALLOW_word_value.slots[3]? = some (.int (111 : Int32)) := own_elem (j := 3) e_ALLOW_word_value (own_eqi k17) Ar_ALLOW_word_value.1
  have V_ALLOW_word_value_4 : cl_ALLOW_word_value.slots[4]? = some (.int (119 : Int32)) := own_elem (j := 4) e_ALLOW_word_value (own_eqi z17) Ar_ALLOW_word_value.1
  obtain ⟨k_DENY_word_value, A_DENY_word_value⟩ : ∃ k, own_A s s.heap a_DENY_word_value k .byte [(.int (100 : Int32)), (.int (101 : Int32)), (.int (110 : Int32)), (.int (121 : Int32))] := ⟨_, own_A.of Ar_DENY_word_value L_DENY_word_value ⟨V_DENY_word_value_0, V_DENY_word_value_1, V_DENY_word_value_2, V_DENY_word_value_3, trivial⟩⟩
  obtain ⟨k_ALLOW_word_value, A_ALLOW_word_value⟩ : ∃ k, own_A s s.heap a_ALLOW_word_value k .byte [(.int (97 : Int32)), (.int (108 : Int32)), (.int (108 : Int32)), (.int (111 : Int32)), (.int (119 : Int32))] := ⟨_, own_A.of Ar_ALLOW_word_value L_ALLOW_word_value ⟨V_ALLOW_word_value_0, V_ALLOW_word_value_1, V_ALLOW_word_value_2, V_ALLOW_word_value_3, V_ALLOW_word_value_4, trivial⟩⟩
  have hs0 := hsets _ (List.mem_of_getElem? (i := 0) rfl)
  obtain ⟨xc, exc⟩ := is_v (Cond.before_iff.mp (hsets _ (List.mem_of_getElem? (i := 1) rfl)))
  have SC : Sta s s.heap "java/lang/String" "COMPACT_STRINGS" "Z" (.int xc) := Sta.start exc (Or.inl hs0)
  have hcz : ¬ xc = 0 := fun q => by have z := not_v (Cond.before_iff.mp (hsets _ (List.mem_of_getElem? (i := 2) rfl))); rw [eq_i exc (Term.int_eval 0) (by rw [q])] at z; cases z
  have hh1 : Jvm.Lit.constHeld s "com/example/tidegate/tidegate/DecisionOfPinLaw" 21 := hcalls.1 ("com/example/tidegate/tidegate/DecisionOfPinLaw", 21) (by simp [consts_1])
  have hh0 : Jvm.Lit.constHeld s "com/example/tidegate/tidegate/DecisionOfPinLaw" 32 := hcalls.1 ("com/example/tidegate/tidegate/DecisionOfPinLaw", 32) (by simp [consts_1])
  have hcw := hsets _ (List.mem_of_getElem? (i := 2) rfl)
  obtain ⟨n, o, h1, h2, h3, _, L, rfl, ⟨rfl, N⟩, hq⟩ := own_rL l s _ hw tables_1 i0 a_DENY a_DENY_word a_DENY_word_value a_ALLOW a_ALLOW_word a_ALLOW_word_value k_DENY_word_value k_ALLOW_word_value xc s.heap s.heap.size (Nat.le_refl _) rfl hh1 hh0 hcw SC hcz S_DENY E_DENY F_DENY_word E_DENY_word F_DENY_word_coder F_DENY_word_value S_ALLOW E_ALLOW F_ALLOW_word E_ALLOW_word F_ALLOW_word_coder F_ALLOW_word_value A_DENY_word_value A_ALLOW_word_value p e ha hc hk s m _ below hf ((Spec.applies_iff_loose hf).mp happ).1 ⟨rfl, rfl, rfl⟩ trivial
  refine ⟨n, _, h1, h2, h3, hpost _ _ _ _ _ _ ⟨Cond.after_iff.mpr rfl, Cond.after_iff.mpr (eq_i res_at (Term.int_eval (1)) rfl), trivial⟩ ⟨hq.1, hq.2.1, hq.2.2.1, (hq.2.2.2.sift fun y hy => Or.inr (N y hy)).mono (by decide) (by decide)⟩⟩
theorem main_1_1 : Claimed_1_1 := own_comes fun _ _ _ _ _ _ h hF => ⟨h.1, hF⟩
theorem main_1_2 : Claimed_1_2 := own_comes fun _ _ _ _ _ _ h hF => ⟨h.2.1, hF⟩
end Jvm.Pilot.@@N@@
namespace Jvm.Pilot.@@N@@
open Jvm Jvm.ClassFile Sem Op Lib Jvm.Free Jvm.Stand Jvm.Pilot.@@N@@.Jvm.D
/-! MADE BY PROGRAM (witnessworld.py) out of the Statement's table words and the real class files: 18 classes; the members and pool entries that the words name. The judged class is class 1, her method 1. -/
namespace start1
open Jvm.ClassFile
def u (s : String) : CpInfo := .utf8 (stringToUtf16 s)
/-- a pool by its gaps: so many unusable entries, then the entry; so many at the end -/
def gap : Nat → List CpInfo → List CpInfo
  | 0, r => r
  | n + 1, r => .unusable :: gap n r
def poolList (es : List (Nat × CpInfo)) (last : Nat) : List CpInfo := es.foldr (fun e r => gap e.1 (e.2 :: r)) (gap last [])
def pool (es : List (Nat × CpInfo)) (last : Nat) : Array CpInfo := ⟨poolList es last⟩
def fileOf (pool : Array CpInfo) (this : Nat) (attrs : Array Attribute := #[]) (ms : Array MethodInfo := #[]) (fl : Nat := 33) (sup : Nat := 0) (ifs : Array Nat := #[]) (fds : Array FieldInfo := #[]) : ClassFile where
  minorVersion := 0
  majorVersion := 65
  constantPool := pool
  accessFlags := fl
  thisClass := this
  superClass := sup
  interfaces := ifs
  fields := fds
  methods := ms
  attributes := attrs
def plain (name : String) (sup : Option ClassId) : Class where
  name := name
  kind := .ordinary
  loader := none
  accessFlags := 33
  super := sup
  interfaces := #[]
  cf := none
  fields := #[]
  methods := #[]
  instanceTypes := #[]
  staticTypes := #[]
  resolved := #[]
  callSites := []
  init := .initialized
  statics := none
  mirror := none

def pool0 : Array CpInfo := pool [(5, u "<init>"), (0, u "()V"), (1, .class_ 10), (1, u "java/lang/Object")] 113

def k0m0 : Method := { name := "<init>", desc := "()V", sig := { parameters := [], returnType := none }, accessFlags := 1, code := none }
/-- java/lang/Object -/
def k0 : Class := { plain "java/lang/Object" none with
  accessFlags := 33
  interfaces := #[]
  cf := some (fileOf pool0 8 #[] #[{ accessFlags := 1, nameIndex := 5, descriptorIndex := 6, attributes := #[] }] 33 0 #[] #[])
  fields := #[]
  methods := #[k0m0]
  instanceTypes := #[]
  staticTypes := #[]
  resolved := Array.replicate 124 none
  statics := none }

def pool1 : Array CpInfo := pool [(2, .class_ 4), (1, u "java/lang/Object"), (0, u "<init>"), (0, u "()V"), (0, .methodref 8 9), (0, .class_ 10), (0, .nameAndType 11 12), (0, u "com/example/tidegate/tidegate/Decision"), (0, u "of"), (0, u "(Z)Lcom/example/tidegate/tidegate/Decision;"), (0, .methodref 8 14), (0, .nameAndType 15 16), (0, u "word"), (0, u "()Ljava/lang/String;"), (0, .fieldref 8 18), (0, .nameAndType 19 20), (0, u "ALLOW"), (0, u "Lcom/example/tidegate/tidegate/Decision;"), (0, .string 22), (0, u "allow"), (0, .methodref 24 25), (0, .class_ 26), (0, .nameAndType 27 28), (0, u "java/lang/String"), (0, u "equals"), (0, u "(Ljava/lang/Object;)Z"), (0, .fieldref 8 30), (0, .nameAndType 31 20), (0, u "DENY"), (0, .string 33), (0, u "deny"), (0, .class_ 35), (0, u "com/example/tidegate/tidegate/DecisionOfPinLaw"), (2, u "law"), (0, u "(I)Z")] 3

def k1m0 : Method := { name := "<init>", desc := "()V", sig := { parameters := [], returnType := none }, accessFlags := 1, code := none }
def k1c1 : Code := { maxStack := 2, maxLocals := 4, code := code, exceptionTable := #[], attributes := #[] }
def k1m1 : Method := { name := "law", desc := "(I)Z", sig := { parameters := [.int], returnType := some .boolean }, accessFlags := 9, code := some k1c1 }
/-- com/example/tidegate/tidegate/DecisionOfPinLaw -/
def k1 : Class := { plain "com/example/tidegate/tidegate/DecisionOfPinLaw" (some 0) with
  accessFlags := 49
  interfaces := #[]
  cf := some (fileOf pool1 34 #[] #[{ accessFlags := 1, nameIndex := 5, descriptorIndex := 6, attributes := #[] }, { accessFlags := 9, nameIndex := 38, descriptorIndex := 39, attributes := #[] }] 49 2 #[] #[])
  fields := #[]
  methods := #[k1m0, k1m1]
  instanceTypes := #[]
  staticTypes := #[]
  resolved := Array.replicate 43 none
  statics := none }

def pool2 : Array CpInfo := pool [(1, .class_ 2), (0, u "java/lang/constant/Constable"), (0, .class_ 4), (0, u "java/lang/Object")] 6

/-- java/lang/constant/Constable -/
def k2 : Class := { plain "java/lang/constant/Constable" (some 0) with
  accessFlags := 1537
  interfaces := #[]
  cf := some (fileOf pool2 1 #[] #[] 1537 3 #[] #[])
  fields := #[]
  methods := #[]
  instanceTypes := #[]
  staticTypes := #[]
  resolved := Array.replicate 11 none
  statics := none }

def pool3 : Array CpInfo := pool [(1, .class_ 2), (0, u "java/lang/Comparable"), (0, .class_ 4), (0, u "java/lang/Object")] 7

/-- java/lang/Comparable -/
def k3 : Class := { plain "java/lang/Comparable" (some 0) with
  accessFlags := 1537
  interfaces := #[]
  cf := some (fileOf pool3 1 #[] #[] 1537 3 #[] #[])
  fields := #[]
  methods := #[]
  instanceTypes := #[]
  staticTypes := #[]
  resolved := Array.replicate 12 none
  statics := none }

def pool4 : Array CpInfo := pool [(1, .class_ 2), (0, u "java/io/Serializable"), (0, .class_ 4), (0, u "java/lang/Object")] 2

/-- java/io/Serializable -/
def k4 : Class := { plain "java/io/Serializable" (some 0) with
  accessFlags := 1537
  interfaces := #[]
  cf := some (fileOf pool4 1 #[] #[] 1537 3 #[] #[])
  fields := #[]
  methods := #[]
  instanceTypes := #[]
  staticTypes := #[]
  resolved := Array.replicate 7 none
  statics := none }

def pool5 : Array CpInfo := pool [(2, .class_ 4), (1, u "java/lang/Enum"), (0, u "name"), (0, u "Ljava/lang/String;"), (2, u "ordinal"), (0, u "I"), (1, .class_ 14), (1, u "java/lang/Object"), (4, u "hash"), (86, .class_ 108), (1, u "java/lang/Enum$EnumDesc"), (2, .class_ 112), (0, u "java/lang/constant/Constable"), (0, .class_ 114), (0, u "java/lang/Comparable"), (0, .class_ 116), (0, u "java/io/Serializable")] 87

/-- java/lang/Enum -/
def k5 : Class := { plain "java/lang/Enum" (some 0) with
  accessFlags := 1057
  interfaces := #[2, 3, 4]
  cf := some (fileOf pool5 2 #[.nestMembers #[106]] #[] 1057 12 #[111, 113, 115] #[{ accessFlags := 18, nameIndex := 5, descriptorIndex := 6, attributes := #[] }, { accessFlags := 18, nameIndex := 9, descriptorIndex := 10, attributes := #[] }, { accessFlags := 2, nameIndex := 19, descriptorIndex := 10, attributes := #[] }])
  fields := #[{ name := "name", type := (.object "java/lang/String"), accessFlags := 18, slot := 0, constantValue := 0 }, { name := "ordinal", type := .int, accessFlags := 18, slot := 1, constantValue := 0 }, { name := "hash", type := .int, accessFlags := 2, slot := 2, constantValue := 0 }]
  methods := #[]
  instanceTypes := #[(.object "java/lang/String"), .int, .int]
  staticTypes := #[]
  resolved := Array.replicate 204 none
  statics := none }

def pool6 : Array CpInfo := pool [(1, .class_ 2), (0, u "com/example/tidegate/tidegate/Decision"), (0, .fieldref 1 4), (0, .nameAndType 5 6), (0, u "ALLOW"), (0, u "Lcom/example/tidegate/tidegate/Decision;"), (0, .fieldref 1 8), (0, .nameAndType 9 6), (0, u "DENY"), (2, u "$VALUES"), (0, u "[Lcom/example/tidegate/tidegate/Decision;"), (6, .class_ 22), (1, u "java/lang/Enum"), (6, .fieldref 1 30), (0, .nameAndType 31 32), (0, u "word"), (0, u "Ljava/lang/String;"), (20, u "of"), (0, u "(Z)Lcom/example/tidegate/tidegate/Decision;"), (1, u "()Ljava/lang/String;")] 5

def k6c0 : Code := { maxStack := 1, maxLocals := 1, code := prog_17_method_4_code, exceptionTable := #[], attributes := #[] }
def k6m0 : Method := { name := "of", desc := "(Z)Lcom/example/tidegate/tidegate/Decision;", sig := { parameters := [.boolean], returnType := some (.object "com/example/tidegate/tidegate/Decision") }, accessFlags := 8, code := some k6c0 }
def k6c1 : Code := { maxStack := 1, maxLocals := 1, code := prog_17_method_5_code, exceptionTable := #[], attributes := #[] }
def k6m1 : Method := { name := "word", desc := "()Ljava/lang/String;", sig := { parameters := [], returnType := some (.object "java/lang/String") }, accessFlags := 1, code := some k6c1 }
/-- com/example/tidegate/tidegate/Decision -/
def k6 : Class := { plain "com/example/tidegate/tidegate/Decision" (some 5) with
  accessFlags := 16433
  interfaces := #[]
  cf := some (fileOf pool6 1 #[] #[{ accessFlags := 8, nameIndex := 53, descriptorIndex := 54, attributes := #[] }, { accessFlags := 1, nameIndex := 31, descriptorIndex := 56, attributes := #[] }] 16433 20 #[] #[{ accessFlags := 16409, nameIndex := 5, descriptorIndex := 6, attributes := #[] }, { accessFlags := 16409, nameIndex := 9, descriptorIndex := 6, attributes := #[] }, { accessFlags := 18, nameIndex := 31, descriptorIndex := 32, attributes := #[] }, { accessFlags := 4122, nameIndex := 12, descriptorIndex := 13, attributes := #[] }])
  fields := #[{ name := "ALLOW", type := (.object "com/example/tidegate/tidegate/Decision"), accessFlags := 16409, slot := 0, constantValue := 0 }, { name := "DENY", type := (.object "com/example/tidegate/tidegate/Decision"), accessFlags := 16409, slot := 1, constantValue := 0 }, { name := "word", type := (.object "java/lang/String"), accessFlags := 18, slot := 3, constantValue := 0 }, { name := "$VALUES", type := (.array (.object "com/example/tidegate/tidegate/Decision")), accessFlags := 4122, slot := 2, constantValue := 0 }]
  methods := #[k6m0, k6m1]
  instanceTypes := #[(.object "java/lang/String"), .int, .int, (.object "java/lang/String")]
  staticTypes := #[(.object "com/example/tidegate/tidegate/Decision"), (.object "com/example/tidegate/tidegate/Decision"), (.array (.object "com/example/tidegate/tidegate/Decision"))]
  resolved := Array.replicate 62 none
  statics := some 0 }

def pool7 : Array CpInfo := pool [(2, .class_ 4), (1, u "java/lang/CharSequence"), (42, .class_ 48), (0, u "java/lang/CharSequence$1CodePointIterator"), (10, .class_ 60), (0, u "java/lang/CharSequence$1CharIterator"), (5, .class_ 67), (0, u "java/lang/Object")] 63

/-- java/lang/CharSequence -/
def k7 : Class := { plain "java/lang/CharSequence" (some 0) with
  accessFlags := 1537
  interfaces := #[]
  cf := some (fileOf pool7 2 #[.nestMembers #[47, 59]] #[] 1537 66 #[] #[])
  fields := #[]
  methods := #[]
  instanceTypes := #[]
  staticTypes := #[]
  resolved := Array.replicate 131 none
  statics := none }

def pool8 : Array CpInfo := pool [(1, .class_ 2), (0, u "java/lang/constant/ConstantDesc"), (0, .class_ 4), (0, u "java/lang/Object")] 32

/-- java/lang/constant/ConstantDesc -/
def k8 : Class := { plain "java/lang/constant/ConstantDesc" (some 0) with
  accessFlags := 1537
  interfaces := #[]
  cf := some (fileOf pool8 1 #[] #[] 1537 3 #[] #[])
  fields := #[]
  methods := #[]
  instanceTypes := #[]
  staticTypes := #[]
  resolved := Array.replicate 37 none
  statics := none }

def pool9 : Array CpInfo := pool [(2, .class_ 4), (1, u "java/lang/Object"), (0, u "<init>"), (0, u "()V"), (2, .fieldref 10 11), (0, .class_ 12), (0, .nameAndType 13 14), (0, u "java/lang/String"), (0, u "value"), (0, u "[B"), (0, .fieldref 10 16), (0, .nameAndType 17 18), (0, u "coder"), (0, u "B"), (2, u "hash"), (0, u "I"), (2, u "hashIsZero"), (0, u "Z"), (11, .fieldref 10 39), (0, .nameAndType 40 26), (0, u "COMPACT_STRINGS"), (66, .class_ 109), (1, u "java/lang/StringLatin1"), (431, .methodref 107 542), (0, .nameAndType 543 544), (0, u "equals"), (0, u "([B[B)Z"), (28, u "(Ljava/lang/Object;)Z"), (1, .class_ 576), (0, u "java/lang/CharSequence"), (22, u "CASE_INSENSITIVE_ORDER"), (0, u "Ljava/util/Comparator;"), (500, u "serialPersistentFields"), (0, u "[Ljava/io/ObjectStreamField;"), (0, .class_ 1104), (0, u "java/lang/String$CaseInsensitiveComparator"), (1, .class_ 1107), (0, u "java/io/Serializable"), (0, .class_ 1109), (0, u "java/lang/Comparable"), (0, .class_ 1111), (0, u "java/lang/constant/Constable"), (0, .class_ 1113), (0, u "java/lang/constant/ConstantDesc"), (2, u "serialVersionUID"), (0, u "J"), (3, u "REPL"), (0, u "C"), (2, u "LATIN1"), (1, u "UTF16")] 323

def k9m0 : Method := { name := "<init>", desc := "()V", sig := { parameters := [], returnType := none }, accessFlags := 1, code := none }
def k9c1 : Code := { maxStack := 2, maxLocals := 3, code := jdk_42_method_66_code, exceptionTable := #[], attributes := #[] }
def k9m1 : Method := { name := "equals", desc := "(Ljava/lang/Object;)Z", sig := { parameters := [(.object "java/lang/Object")], returnType := some .boolean }, accessFlags := 1, code := some k9c1 }
/-- java/lang/String -/
def k9 : Class := { plain "java/lang/String" (some 0) with
  accessFlags := 49
  interfaces := #[4, 3, 7, 2, 8]
  cf := some (fileOf pool9 10 #[.nestMembers #[1103]] #[{ accessFlags := 1, nameIndex := 5, descriptorIndex := 6, attributes := #[] }, { accessFlags := 1, nameIndex := 543, descriptorIndex := 573, attributes := #[] }] 49 2 #[1106, 1108, 575, 1110, 1112] #[{ accessFlags := 18, nameIndex := 13, descriptorIndex := 14, attributes := #[] }, { accessFlags := 18, nameIndex := 17, descriptorIndex := 18, attributes := #[] }, { accessFlags := 2, nameIndex := 21, descriptorIndex := 22, attributes := #[] }, { accessFlags := 2, nameIndex := 25, descriptorIndex := 26, attributes := #[] }, { accessFlags := 26, nameIndex := 1116, descriptorIndex := 1117, attributes := #[] }, { accessFlags := 24, nameIndex := 40, descriptorIndex := 26, attributes := #[] }, { accessFlags := 26, nameIndex := 1101, descriptorIndex := 1102, attributes := #[] }, { accessFlags := 26, nameIndex := 1121, descriptorIndex := 1122, attributes := #[] }, { accessFlags := 25, nameIndex := 599, descriptorIndex := 600, attributes := #[] }, { accessFlags := 24, nameIndex := 1125, descriptorIndex := 18, attributes := #[] }, { accessFlags := 24, nameIndex := 1127, descriptorIndex := 18, attributes := #[] }])
  fields := #[{ name := "value", type := (.array .byte), accessFlags := 18, slot := 0, constantValue := 0 }, { name := "coder", type := .byte, accessFlags := 18, slot := 1, constantValue := 0 }, { name := "hash", type := .int, accessFlags := 2, slot := 2, constantValue := 0 }, { name := "hashIsZero", type := .boolean, accessFlags := 2, slot := 3, constantValue := 0 }, { name := "serialVersionUID", type := .long, accessFlags := 26, slot := 0, constantValue := 0 }, { name := "COMPACT_STRINGS", type := .boolean, accessFlags := 24, slot := 1, constantValue := 0 }, { name := "serialPersistentFields", type := (.array (.object "java/io/ObjectStreamField")), accessFlags := 26, slot := 2, constantValue := 0 }, { name := "REPL", type := .char, accessFlags := 26, slot := 3, constantValue := 0 }, { name := "CASE_INSENSITIVE_ORDER", type := (.object "java/util/Comparator"), accessFlags := 25, slot := 4, constantValue := 0 }, { name := "LATIN1", type := .byte, accessFlags := 24, slot := 5, constantValue := 0 }, { name := "UTF16", type := .byte, accessFlags := 24, slot := 6, constantValue := 0 }]
  methods := #[k9m0, k9m1]
  instanceTypes := #[(.array .byte), .byte, .int, .boolean]
  staticTypes := #[.long, .boolean, (.array (.object "java/io/ObjectStreamField")), .char, (.object "java/util/Comparator"), .byte, .byte]
  resolved := Array.replicate 1451 none
  statics := some 1 }

def pool10 : Array CpInfo := pool [(4, .class_ 6), (1, u "java/lang/Object"), (0, u "<init>"), (0, u "()V"), (5, .class_ 16), (1, u "java/lang/StringLatin1"), (104, u "$assertionsDisabled"), (0, u "Z"), (98, .class_ 223), (1, u "java/lang/StringLatin1$LinesSpliterator"), (57, u "equals"), (0, u "([B[B)Z"), (107, .class_ 391), (0, u "java/lang/StringLatin1$CharsSpliterator")] 3

def k10m0 : Method := { name := "<init>", desc := "()V", sig := { parameters := [], returnType := none }, accessFlags := 0, code := none }
def k10c1 : Code := { maxStack := 3, maxLocals := 3, code := jdk_43_method_13_code, exceptionTable := #[], attributes := #[] }
def k10m1 : Method := { name := "equals", desc := "([B[B)Z", sig := { parameters := [(.array .byte), (.array .byte)], returnType := some .boolean }, accessFlags := 9, code := some k10c1 }
/-- java/lang/StringLatin1 -/
def k10 : Class := { plain "java/lang/StringLatin1" (some 0) with
  accessFlags := 48
  interfaces := #[]
  cf := some (fileOf pool10 14 #[.nestMembers #[390, 221]] #[{ accessFlags := 0, nameIndex := 7, descriptorIndex := 8, attributes := #[] }, { accessFlags := 9, nameIndex := 281, descriptorIndex := 282, attributes := #[] }] 48 4 #[] #[{ accessFlags := 4120, nameIndex := 121, descriptorIndex := 122, attributes := #[] }])
  fields := #[{ name := "$assertionsDisabled", type := .boolean, accessFlags := 4120, slot := 0, constantValue := 0 }]
  methods := #[k10m0, k10m1]
  instanceTypes := #[]
  staticTypes := #[.boolean]
  resolved := Array.replicate 395 none
  statics := none }

def pool11 : Array CpInfo := pool [(2, .class_ 4), (1, u "java/lang/Object"), (0, u "<init>"), (0, u "()V"), (17, .class_ 26), (1, u "jdk/internal/util/Preconditions"), (28, .class_ 56), (0, u "jdk/internal/util/Preconditions$4"), (57, .class_ 115), (0, u "jdk/internal/util/Preconditions$1"), (7, u "SIOOBE_FORMATTER"), (0, u "Ljava/util/function/BiFunction;"), (0, .class_ 126), (0, u "jdk/internal/util/Preconditions$2"), (3, u "AIOOBE_FORMATTER"), (0, .class_ 132), (0, u "jdk/internal/util/Preconditions$3"), (3, u "IOOBE_FORMATTER")] 57

def k11m0 : Method := { name := "<init>", desc := "()V", sig := { parameters := [], returnType := none }, accessFlags := 1, code := none }
/-- jdk/internal/util/Preconditions -/
def k11 : Class := { plain "jdk/internal/util/Preconditions" (some 0) with
  accessFlags := 33
  interfaces := #[]
  cf := some (fileOf pool11 24 #[.nestMembers #[55, 131, 125, 114]] #[{ accessFlags := 1, nameIndex := 5, descriptorIndex := 6, attributes := #[] }] 33 2 #[] #[{ accessFlags := 25, nameIndex := 123, descriptorIndex := 124, attributes := #[] }, { accessFlags := 25, nameIndex := 130, descriptorIndex := 124, attributes := #[] }, { accessFlags := 25, nameIndex := 136, descriptorIndex := 124, attributes := #[] }])
  fields := #[{ name := "SIOOBE_FORMATTER", type := (.object "java/util/function/BiFunction"), accessFlags := 25, slot := 0, constantValue := 0 }, { name := "AIOOBE_FORMATTER", type := (.object "java/util/function/BiFunction"), accessFlags := 25, slot := 1, constantValue := 0 }, { name := "IOOBE_FORMATTER", type := (.object "java/util/function/BiFunction"), accessFlags := 25, slot := 2, constantValue := 0 }]
  methods := #[k11m0]
  instanceTypes := #[]
  staticTypes := #[(.object "java/util/function/BiFunction"), (.object "java/util/function/BiFunction"), (.object "java/util/function/BiFunction")]
  resolved := Array.replicate 194 none
  statics := some 2 }

def pool12 : Array CpInfo := pool [(9, u "<init>"), (6, .class_ 18), (1, u "java/lang/Object"), (0, u "()V"), (1, .class_ 23), (1, u "jdk/internal/util/ArraysSupport"), (0, u "LOG2_ARRAY_LONG_INDEX_SCALE"), (0, u "I"), (2, u "U"), (0, u "Ljdk/internal/misc/Unsafe;"), (8, u "BIG_ENDIAN"), (0, u "Z"), (8, u "LOG2_BYTE_BIT_SIZE"), (4, u "LOG2_ARRAY_INT_INDEX_SCALE"), (54, u "JLA"), (0, u "Ljdk/internal/access/JavaLangAccess;"), (11, u "LOG2_ARRAY_BOOLEAN_INDEX_SCALE"), (9, u "LOG2_ARRAY_BYTE_INDEX_SCALE"), (5, u "LOG2_ARRAY_CHAR_INDEX_SCALE"), (5, u "LOG2_ARRAY_SHORT_INDEX_SCALE"), (18, u "LOG2_ARRAY_FLOAT_INDEX_SCALE"), (24, u "LOG2_ARRAY_DOUBLE_INDEX_SCALE"), (89, u "T_BOOLEAN"), (2, u "T_CHAR"), (1, u "T_FLOAT"), (1, u "T_DOUBLE"), (1, u "T_BYTE"), (1, u "T_SHORT"), (1, u "T_INT"), (1, u "T_LONG"), (1, u "SOFT_MAX_ARRAY_LENGTH")] 83

def k12m0 : Method := { name := "<init>", desc := "()V", sig := { parameters := [], returnType := none }, accessFlags := 2, code := none }
/-- jdk/internal/util/ArraysSupport -/
def k12 : Class := { plain "jdk/internal/util/ArraysSupport" (some 0) with
  accessFlags := 33
  interfaces := #[]
  cf := some (fileOf pool12 21 #[] #[{ accessFlags := 2, nameIndex := 9, descriptorIndex := 19, attributes := #[] }] 33 16 #[] #[{ accessFlags := 24, nameIndex := 28, descriptorIndex := 29, attributes := #[] }, { accessFlags := 26, nameIndex := 38, descriptorIndex := 39, attributes := #[] }, { accessFlags := 25, nameIndex := 121, descriptorIndex := 25, attributes := #[] }, { accessFlags := 25, nameIndex := 131, descriptorIndex := 25, attributes := #[] }, { accessFlags := 25, nameIndex := 137, descriptorIndex := 25, attributes := #[] }, { accessFlags := 25, nameIndex := 143, descriptorIndex := 25, attributes := #[] }, { accessFlags := 25, nameIndex := 53, descriptorIndex := 25, attributes := #[] }, { accessFlags := 25, nameIndex := 24, descriptorIndex := 25, attributes := #[] }, { accessFlags := 25, nameIndex := 162, descriptorIndex := 25, attributes := #[] }, { accessFlags := 25, nameIndex := 187, descriptorIndex := 25, attributes := #[] }, { accessFlags := 26, nameIndex := 48, descriptorIndex := 25, attributes := #[] }, { accessFlags := 25, nameIndex := 277, descriptorIndex := 25, attributes := #[] }, { accessFlags := 25, nameIndex := 280, descriptorIndex := 25, attributes := #[] }, { accessFlags := 25, nameIndex := 282, descriptorIndex := 25, attributes := #[] }, { accessFlags := 25, nameIndex := 284, descriptorIndex := 25, attributes := #[] }, { accessFlags := 25, nameIndex := 286, descriptorIndex := 25, attributes := #[] }, { accessFlags := 25, nameIndex := 288, descriptorIndex := 25, attributes := #[] }, { accessFlags := 25, nameIndex := 290, descriptorIndex := 25, attributes := #[] }, { accessFlags := 25, nameIndex := 292, descriptorIndex := 25, attributes := #[] }, { accessFlags := 26, nameIndex := 108, descriptorIndex := 109, attributes := #[] }, { accessFlags := 25, nameIndex := 294, descriptorIndex := 25, attributes := #[] }])
  fields := #[{ name := "U", type := (.object "jdk/internal/misc/Unsafe"), accessFlags := 24, slot := 0, constantValue := 0 }, { name := "BIG_ENDIAN", type := .boolean, accessFlags := 26, slot := 1, constantValue := 0 }, { name := "LOG2_ARRAY_BOOLEAN_INDEX_SCALE", type := .int, accessFlags := 25, slot := 2, constantValue := 0 }, { name := "LOG2_ARRAY_BYTE_INDEX_SCALE", type := .int, accessFlags := 25, slot := 3, constantValue := 0 }, { name := "LOG2_ARRAY_CHAR_INDEX_SCALE", type := .int, accessFlags := 25, slot := 4, constantValue := 0 }, { name := "LOG2_ARRAY_SHORT_INDEX_SCALE", type := .int, accessFlags := 25, slot := 5, constantValue := 0 }, { name := "LOG2_ARRAY_INT_INDEX_SCALE", type := .int, accessFlags := 25, slot := 6, constantValue := 0 }, { name := "LOG2_ARRAY_LONG_INDEX_SCALE", type := .int, accessFlags := 25, slot := 7, constantValue := 0 }, { name := "LOG2_ARRAY_FLOAT_INDEX_SCALE", type := .int, accessFlags := 25, slot := 8, constantValue := 0 }, { name := "LOG2_ARRAY_DOUBLE_INDEX_SCALE", type := .int, accessFlags := 25, slot := 9, constantValue := 0 }, { name := "LOG2_BYTE_BIT_SIZE", type := .int, accessFlags := 26, slot := 10, constantValue := 0 }, { name := "T_BOOLEAN", type := .int, accessFlags := 25, slot := 11, constantValue := 0 }, { name := "T_CHAR", type := .int, accessFlags := 25, slot := 12, constantValue := 0 }, { name := "T_FLOAT", type := .int, accessFlags := 25, slot := 13, constantValue := 0 }, { name := "T_DOUBLE", type := .int, accessFlags := 25, slot := 14, constantValue := 0 }, { name := "T_BYTE", type := .int, accessFlags := 25, slot := 15, constantValue := 0 }, { name := "T_SHORT", type := .int, accessFlags := 25, slot := 16, constantValue := 0 }, { name := "T_INT", type := .int, accessFlags := 25, slot := 17, constantValue := 0 }, { name := "T_LONG", type := .int, accessFlags := 25, slot := 18, constantValue := 0 }, { name := "JLA", type := (.object "jdk/internal/access/JavaLangAccess"), accessFlags := 26, slot := 19, constantValue := 0 }, { name := "SOFT_MAX_ARRAY_LENGTH", type := .int, accessFlags := 25, slot := 20, constantValue := 0 }]
  methods := #[k12m0]
  instanceTypes := #[]
  staticTypes := #[(.object "jdk/internal/misc/Unsafe"), .boolean, .int, .int, .int, .int, .int, .int, .int, .int, .int, .int, .int, .int, .int, .int, .int, .int, .int, (.object "jdk/internal/access/JavaLangAccess"), .int]
  resolved := Array.replicate 378 none
  statics := none }

def pool13 : Array CpInfo := pool [(1, u "java/lang/Cloneable"), (0, .class_ 1), (0, u "java/lang/Object"), (0, .class_ 3)] 3

/-- java/lang/Cloneable -/
def k13 : Class := { plain "java/lang/Cloneable" (some 0) with
  accessFlags := 1537
  interfaces := #[]
  cf := some (fileOf pool13 2 #[] #[] 1537 4 #[] #[])
  fields := #[]
  methods := #[]
  instanceTypes := #[]
  staticTypes := #[]
  resolved := Array.replicate 8 none
  statics := none }

/-- the primitive byte -/
def k14 : Class := { plain "byte" none with kind := .primitive 'B', accessFlags := 0x411 }
/-- [B -/
def k15 : Class := { plain "[B" (some 0) with kind := .array 14 .byte, interfaces := #[13, 4], accessFlags := 1041 }

/-- the primitive int -/
def k16 : Class := { plain "int" none with kind := .primitive 'I', accessFlags := 0x411 }
/-- [I -/
def k17 : Class := { plain "[I" (some 0) with kind := .array 16 .int, interfaces := #[13, 4], accessFlags := 1041 }

def heap : Heap := #[{ cls := 6, slots := #[.ref 7, .ref 5, .null], vm := .statics 6 },
  { cls := 9, slots := #[.long 0, .int 1, .null, .int 0, .null, .int 0, .int 0], vm := .statics 9 },
  { cls := 11, slots := #[.null, .null, .null], vm := .statics 11 },
  { cls := 15, slots := #[.int 100, .int 101, .int 110, .int 121], vm := .none },
  { cls := 15, slots := #[.int 97, .int 108, .int 108, .int 111, .int 119], vm := .none },
  { cls := 6, slots := #[.null, .int 0, .int 0, .ref 6], vm := .none },
  { cls := 9, slots := #[.ref 3, .int 0, .int 0, .int 0], vm := .none },
  { cls := 6, slots := #[.null, .int 0, .int 0, .ref 8], vm := .none },
  { cls := 9, slots := #[.ref 4, .int 0, .int 0, .int 0], vm := .none }]
def classes : Array Class := #[k0, k1, k2, k3, k4, k5, k6, k7, k8, k9, k10, k11, k12, k13, k14, k15, k16, k17]
def interned : List (Array UInt16 × Addr) := []
def slotsUsed : Nat := 38
def theMethod : MethodId := ⟨1, 1⟩
def args0 : Array Value := #[.int 3]
def aboutOver (below : List Frame) : State where
  vm := { classes := classes, interned := interned.toArray }
  heap := heap
  slotsUsed := slotsUsed
  threads := #[{ frames := .invoking theMethod args0 :: below }]
def below0 : List Frame := [.native { method := ⟨0, 0⟩, args := #[] }]
def about1 : State := aboutOver below0
def p0 : Program := .bare "" "" ""
def e0 : Env := launch0.env 0 0 0
theorem w_frames : about1.frames = Frame.invoking theMethod args0 :: below0 := rfl
set_option maxRecDepth 65536 in
theorem w_args : argsFit about1.vm theMethod args0 = true := by decide +kernel
set_option maxRecDepth 65536 in
theorem w_heap : heapFits about1 = true := by decide +kernel
set_option maxRecDepth 65536 in
theorem w_runnable : about1.curStatus? = some .runnable := by decide +kernel
set_option maxRecDepth 65536 in
theorem w_alone : about1.alone = true := by decide +kernel
set_option maxRecDepth 65536 in
theorem w_named : about1.methodNamed? x = some theMethod := by decide +kernel
set_option maxRecDepth 65536 in
theorem w_hears : about1.hears theMethod below0 = true := by decide +kernel
set_option maxRecDepth 65536 in
theorem w_ripe : about1.ripe theMethod args0 below0 = true := by decide +kernel
theorem w_running : about1.status = .running := rfl
set_option maxRecDepth 65536 in
theorem w_room : about1.hasRoom e0.platform room_1 = true :=
  launch0.hasRoom_least _ room_1 (by decide +kernel) (by decide +kernel) (by decide +kernel) (by decide +kernel) (by decide +kernel) (by decide +kernel)
theorem allAtoms_all (ts : List Jvm.Cond) (a : Array Jvm.Value) (st : Jvm.State) : (allAtoms ts).before a st = ts.all (fun c => c.before a st) := by
  induction ts with
  | nil => rfl
  | cons c t ih =>
    show (Jvm.Cond.and c (allAtoms t)).before a st = _
    rw [Jvm.Cond.before_and, ih, List.all_cons]
def words1 : List Jvm.Cond := Jvm.Cond.code x code maxLocals ret :: tables_1
/-- a 'code' word, met by the world's own term for the bytes: nothing is compared byte by byte -/
theorem code_word {y : MethodName} {bytes : ByteArray} {mx : Nat} {rt : Option FieldType} {a : Array Value} {s : State} {m : MethodId} {meth : Method} {c : Code} (h1 : s.methodNamed? y = some m) (h2 : s.vm.method? m = some meth) (h3 : meth.code = some c) (h4 : c.code = bytes)
    (h5 : (c.maxLocals == mx && c.exceptionTable.isEmpty && decide (c.maxStack ≤ mostOperands) && decide (meth.sig.returnType = rt) && !meth.locks && decide (parseMethodDescriptor y.desc = some meth.sig)) = true) : (Jvm.Cond.code y bytes mx rt).before a s = true := by
  simp only [Bool.and_eq_true, beq_iff_eq, Bool.not_eq_true', decide_eq_true_eq] at h5
  obtain ⟨⟨⟨⟨⟨g1, g2⟩, g3⟩, g4⟩, g5⟩, g6⟩ := h5
  simp [Cond.before, Cond.holds, Cond.value, h1, h2, h3, h4, g1, g2, g3, g4, g5, g6]
def isCode : Jvm.Cond → Bool
  | .code _ _ _ _ => true
  | _ => false
theorem all_split {L : List Jvm.Cond} {P : Jvm.Cond → Bool} (h1 : L.all (fun c => isCode c || P c) = true) (h2 : ∀ c ∈ L.filter isCode, P c = true) : L.all P = true := by
  refine List.all_eq_true.mpr fun c hc => ?_
  have h := List.all_eq_true.mp h1 c hc
  rcases Bool.eq_false_or_eq_true (isCode c) with hi | hi
  · exact h2 c (List.mem_filter.mpr ⟨hc, hi⟩)
  · simpa [hi] using h
set_option maxRecDepth 65536 in
theorem w_c0 : (Jvm.Cond.code x code maxLocals ret).before args0 about1 = true := code_word (m := ⟨1, 1⟩) (meth := k1m1) (c := k1c1) (by decide +kernel) rfl rfl rfl (by decide +kernel)
set_option maxRecDepth 65536 in
theorem w_c1 : (Jvm.Cond.code ({ cls := "com/example/tidegate/tidegate/Decision", name := "of", desc := "(Z)Lcom/example/tidegate/tidegate/Decision;" } : Jvm.MethodName) prog_17_method_4_code (1 : Nat) (Option.some (Jvm.ClassFile.FieldType.object "com/example/tidegate/tidegate/Decision"))).before args0 about1 = true := code_word (m := ⟨6, 0⟩) (meth := k6m0) (c := k6c0) (by decide +kernel) rfl rfl rfl (by decide +kernel)
set_option maxRecDepth 65536 in
theorem w_c2 : (Jvm.Cond.code ({ cls := "com/example/tidegate/tidegate/Decision", name := "word", desc := "()Ljava/lang/String;" } : Jvm.MethodName) prog_17_method_5_code (1 : Nat) (Option.some (Jvm.ClassFile.FieldType.object "java/lang/String"))).before args0 about1 = true := code_word (m := ⟨6, 1⟩) (meth := k6m1) (c := k6c1) (by decide +kernel) rfl rfl rfl (by decide +kernel)
set_option maxRecDepth 65536 in
theorem w_c3 : (Jvm.Cond.code ({ cls := "java/lang/String", name := "equals", desc := "(Ljava/lang/Object;)Z" } : Jvm.MethodName) jdk_42_method_66_code (3 : Nat) (Option.some Jvm.ClassFile.FieldType.boolean)).before args0 about1 = true := code_word (m := ⟨9, 1⟩) (meth := k9m1) (c := k9c1) (by decide +kernel) rfl rfl rfl (by decide +kernel)
set_option maxRecDepth 65536 in
theorem w_c4 : (Jvm.Cond.code ({ cls := "java/lang/StringLatin1", name := "equals", desc := "([B[B)Z" } : Jvm.MethodName) jdk_43_method_13_code (3 : Nat) (Option.some Jvm.ClassFile.FieldType.boolean)).before args0 about1 = true := code_word (m := ⟨10, 1⟩) (meth := k10m1) (c := k10c1) (by decide +kernel) rfl rfl rfl (by decide +kernel)
def codes1 : List Jvm.Cond := [Jvm.Cond.code x code maxLocals ret, Jvm.Cond.code ({ cls := "com/example/tidegate/tidegate/Decision", name := "of", desc := "(Z)Lcom/example/tidegate/tidegate/Decision;" } : Jvm.MethodName) prog_17_method_4_code (1 : Nat) (Option.some (Jvm.ClassFile.FieldType.object "com/example/tidegate/tidegate/Decision")), Jvm.Cond.code ({ cls := "com/example/tidegate/tidegate/Decision", name := "word", desc := "()Ljava/lang/String;" } : Jvm.MethodName) prog_17_method_5_code (1 : Nat) (Option.some (Jvm.ClassFile.FieldType.object "java/lang/String")), Jvm.Cond.code ({ cls := "java/lang/String", name := "equals", desc := "(Ljava/lang/Object;)Z" } : Jvm.MethodName) jdk_42_method_66_code (3 : Nat) (Option.some Jvm.ClassFile.FieldType.boolean), Jvm.Cond.code ({ cls := "java/lang/StringLatin1", name := "equals", desc := "([B[B)Z" } : Jvm.MethodName) jdk_43_method_13_code (3 : Nat) (Option.some Jvm.ClassFile.FieldType.boolean)]
set_option maxRecDepth 65536 in
theorem codes_eq : words1.filter isCode = codes1 := rfl
theorem w_codes : ∀ c ∈ words1.filter isCode, c.before args0 about1 = true := by
  rw [codes_eq]
  intro c hc
  simp only [codes1, List.mem_cons, List.not_mem_nil, or_false] at hc
  rcases hc with rfl | rfl | rfl | rfl | rfl
  · exact w_c0
  · exact w_c1
  · exact w_c2
  · exact w_c3
  · exact w_c4
set_option maxRecDepth 65536 in
theorem w_t1 : (words1.take 24).all (fun c => isCode c || c.before args0 about1) = true := by decide +kernel
set_option maxRecDepth 65536 in
theorem w_t2 : (words1.drop 24).all (fun c => isCode c || c.before args0 about1) = true := by decide +kernel
theorem w_tables : (allAtoms (Jvm.Cond.code x code maxLocals ret :: tables_1)).before args0 about1 = true := by
  rw [allAtoms_all]
  show words1.all (fun c => c.before args0 about1) = true
  refine all_split ?_ w_codes
  rw [← List.take_append_drop 24 words1, List.all_append, w_t1, w_t2]
  rfl
set_option maxRecDepth 65536 in
theorem w_rest : rest_1_c.before args0 about1 = true := by decide +kernel
set_option maxRecDepth 65536 in
theorem w_case : (Jvm.Cond.and given_1 narrow_1).before args0 about1 = true := by decide +kernel
set_option maxRecDepth 65536 in
theorem w_consts : constsHeld consts_1 about1 := Jvm.Lit.constsHeldB_iff.mp (by decide +kernel)
theorem w_applies : (headSpec (Jvm.Cond.code x code maxLocals ret :: tables_1) room_1).applies x e0.platform about1 = true :=
  (Spec.applies_iff w_frames).mpr ⟨w_running, w_runnable, w_alone, w_named, w_hears, w_ripe, w_room, w_tables⟩
theorem atStart : AtStart classFile x code maxLocals ret World_1 tables_1 room_1 Calls_1 rest_1 Pre_1 launch0 p0 e0 about1 theMethod args0 below0 :=
  ⟨lists_1, trivial, launch0.admits_env _ _ _, launch0.least_env, fairChoices_fair.cas, fairChoices_fair.clock, w_frames, w_args, w_heap, w_applies, ⟨w_consts, trivial⟩, w_rest, w_case⟩
end start1
theorem witness_1 : WitnessClaimed_1 := ⟨start1.p0, start1.e0, start1.about1, start1.theMethod, start1.args0, start1.below0, start1.atStart⟩
end Jvm.Pilot.@@N@@
