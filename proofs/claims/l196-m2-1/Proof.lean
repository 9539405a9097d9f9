import JvmDerived
import JvmDerived.Pilot.@@N@@Statement
import JvmDerived.Pilot.@@N@@Code
set_option linter.unusedVariables false
set_option linter.unusedSimpArgs false
namespace Jvm.Pilot.@@N@@
open Jvm Jvm.ClassFile Sem Op Lib Jvm.Free Jvm.Stand Jvm.LawKit Jvm.RoadKit Bundle Jvm.Pilot.@@N@@.Jvm.D
/-! the run from a frame on: it ends, and what it leaves -/
def own_F (p : Program) (e : Env) (below : List Frame) (Q : Outcome → State → Prop) (T : State) (g : JFrame) : Prop :=
  ∃ s₂ o, Steps p.tables e below (T.setTop g) s₂ ∧ s₂.status = .running ∧ Ended s₂ below o ∧ Q o s₂
theorem own_go {p : Program} {e : Env} {below : List Frame} {Q : Outcome → State → Prop} {T T' : State} {g g' : JFrame} (st : ∀ target, Steps p.tables e below (T'.setTop g') target → Steps p.tables e below (T.setTop g) target) (k : own_F p e below Q T' g') : own_F p e below Q T g := by
  obtain ⟨s₂, o, h1, h2, h3, h4⟩ := k
  exact ⟨s₂, o, st _ h1, h2, h3, h4⟩
theorem own_goT {p : Program} {e : Env} {below : List Frame} {Q : Outcome → State → Prop} {T T' : State} {g g' : JFrame} (st : Steps p.tables e below (T.setTop g) (T'.setTop g')) (k : own_F p e below Q T' g') : own_F p e below Q T g := by
  obtain ⟨s₂, o, h1, h2, h3, h4⟩ := k
  exact ⟨s₂, o, st.trans h1, h2, h3, h4⟩
theorem own_end {p : Program} {e : Env} {below : List Frame} {Q : Outcome → State → Prop} {T s₂ : State} {g : JFrame} {o : Outcome} (st : Steps p.tables e below (T.setTop g) s₂) (h1 : s₂.status = .running) (h2 : Ended s₂ below o) (h3 : Q o s₂) : own_F p e below Q T g := ⟨s₂, o, st, h1, h2, h3⟩
theorem own_ext_tr {h0 h h' : Heap} (E : Ext h0 h) (E' : Ext h h') : Ext h0 h' := ⟨Nat.le_trans E.1 E'.1, fun a c q => E'.2 a c (E.2 a c q)⟩
theorem own_ext_rf (h : Heap) : Ext h h := ⟨Nat.le_refl _, fun _ _ q => q⟩
theorem own_ext_keep {h0 h h' : Heap} {ws : List Addr} (E : Ext h0 h) (K : Keep h h' ws) (q : ∀ x ∈ ws, h0.size ≤ x) : Ext h0 h' :=
  ⟨Nat.le_trans E.1 K.1, fun a c ha => K.2.1 a c (E.2 a c ha) fun k => absurd (Array.getElem?_eq_some_iff.mp ha).1 (Nat.not_lt.mpr (q a k))⟩
theorem own_ext_wr {h0 h h' : Heap} {a : Addr} {sl : Nat} {v : Value} (E : Ext h0 h) (W : Wr h h' a sl v) (q : h0.size ≤ a) : Ext h0 h' :=
  own_ext_keep E (Keep.of_wr W) fun x hx => by cases List.mem_singleton.mp hx; exact q
theorem own_one {a b : Addr} (h : a ≠ b) : a ∉ [b] := fun q => h (List.mem_singleton.mp q)
theorem own_all1 {n : Nat} {b : Addr} (h : n ≤ b) : ∀ x ∈ [b], n ≤ x := fun x hx => by cases List.mem_singleton.mp hx; exact h
theorem own_all0 {n : Nat} : ∀ x ∈ ([] : List Addr), n ≤ x := fun x hx => nomatch hx
theorem own_lt_t {x y : Int64} (h : x < y) : lcmpW x y < 0 := by rw [lcW]; exact (lc_lt _ _).mpr h
theorem own_lt_f {x y : Int64} (h : ¬ x < y) : ¬ lcmpW x y < 0 := by rw [lcW]; exact fun k => h ((lc_lt _ _).mp k)
theorem own_gt_t {x y : Int64} (h : y < x) : 0 < lcmpW x y := by rw [lcW]; exact (lc_gt _ _).mpr h
theorem own_gt_f {x y : Int64} (h : ¬ y < x) : ¬ 0 < lcmpW x y := by rw [lcW]; exact fun k => h ((lc_gt _ _).mp k)
theorem own_eq_t {x y : Int64} (h : x = y) : lcmpW x y = 0 := by rw [lcW]; exact (lc_eq _ _).mpr h
theorem own_eq_f {x y : Int64} (h : ¬ x = y) : ¬ lcmpW x y = 0 := by rw [lcW]; exact fun k => h ((lc_eq _ _).mp k)
section OwnWords
variable {args : Array Value} {s : State} {t u : Term}
theorem own_eqi {k : Int32} (h : (Jvm.Cond.eq t (.int k)).value args s none s [] = some true) : t.eval args s none [] s = some (.int k) := by
  simp only [Cond.value, Term.eval] at h
  cases ht : t.eval args s none [] s with
  | none => simp [ht] at h
  | some x => cases x <;> simp [ht] at h ⊢; exact h
theorem own_eqr {b : Addr} (h : (Jvm.Cond.eq t u).value args s none s [] = some true) (hu : u.eval args s none [] s = some (.ref b)) : t.eval args s none [] s = some (.ref b) := by
  simp only [Cond.value, hu] at h
  cases ht : t.eval args s none [] s with
  | none => simp [ht] at h
  | some x => cases x <;> simp [ht] at h ⊢; exact h
theorem own_len {a : Addr} {k : Int32} {n : Nat} {cl : Cell} {ty : FieldType} (ht : t.eval args s none [] s = some (.ref a)) (h : (Term.length t).eval args s none [] s = some (.int k)) (A : RoadKit.Arr s s.heap a cl ty) (hk : k.toNatClampNeg = n) : cl.slots.size = n := by
  have ha : s.arrayAt? a = some cl := A.fin (Vm.Alike.refl _)
  by_cases hn : cl.slots.size < 2 ^ 31
  · rw [len_f ht ha hn] at h
    have e := Value.int.inj (Option.some.inj h)
    have q : cl.slots.size.toInt32.toInt = cl.slots.size := len_toInt hn
    rw [← hk, ← e]
    show _ = cl.slots.size.toInt32.toInt.toNat
    rw [q]; rfl
  · simp [Term.eval, ht, ha, hn] at h
theorem own_elem {a : Addr} {j : Int32} {v : Value} {cl : Cell} (ht : t.eval args s none [] s = some (.ref a)) (h : (Term.elem t (.int j)).eval args s none [] s = some v) (hc : s.heap[a]? = some cl) : cl.slots[j.toNatClampNeg]? = some v := (elem_in h ht (Term.int_eval j) hc).2
end OwnWords
theorem own_fne {Z : State} {h : Heap} {a b : Addr} {C n d : String} {x y : Value} (F : Fld Z h a C n d x) (G : Fld Z h b C n d y) (hn : x ≠ y) : a ≠ b := fun e => by
  subst e
  obtain ⟨c1, cf1, k1, i1, f1, h1, h2, -, -, -, -, h7⟩ := F
  obtain ⟨c2, cf2, k2, i2, f2, g1, g2, -, -, -, -, g7⟩ := G
  cases h1.symm.trans g1
  cases h2.symm.trans g2
  exact hn (Option.some.inj (h7.symm.trans g7))
/-! an array whose elements are all known -/
def own_A (Z : State) (h : Heap) (a : Addr) (k : ClassId) (ty : FieldType) (vs : List Value) : Prop := ∃ c : Cell, RoadKit.Arr Z h a c ty ∧ c.cls = k ∧ c.slots = vs.toArray
section OwnArrays
variable {Z : State} {h h' : Heap} {a b : Addr} {k : ClassId} {ty : FieldType} {vs : List Value} {sl : Nat} {v : Value} {ws : List Addr}
theorem own_A.lt (F : own_A Z h a k ty vs) : a < h.size := by obtain ⟨c, A, -⟩ := F; exact A.lt
theorem own_A.ext (F : own_A Z h a k ty vs) (E : Ext h h') : own_A Z h' a k ty vs := by obtain ⟨c, A, r⟩ := F; exact ⟨c, A.ext E, r⟩
theorem own_A.other (F : own_A Z h b k ty vs) (W : Wr h h' a sl v) (q : b ≠ a) : own_A Z h' b k ty vs := by obtain ⟨c, A, r⟩ := F; exact ⟨c, A.other W q, r⟩
theorem own_A.keep (F : own_A Z h a k ty vs) (K : Keep h h' ws) (q : a ∉ ws) : own_A Z h' a k ty vs := by obtain ⟨c, A, r⟩ := F; exact ⟨c, ⟨K.2.1 a c A.1 q, A.2⟩, r⟩
theorem own_A.new {n : Int32} {N : Nat} (A : RoadKit.Arr Z h a (newA k ty n) ty) (hN : n.toNatClampNeg = N) : own_A Z h a k ty (List.replicate N (defaultValue ty)) := ⟨_, A, rfl, by subst hN; simp [newA]⟩
theorem own_A.set (F : own_A Z h a k ty vs) (W : Wr h h' a sl v) : own_A Z h' a k ty (vs.set sl v) := by
  obtain ⟨c, A, q, e⟩ := F
  exact ⟨c.setSlot sl v, A.same W, q, by simp [Cell.setSlot, e]⟩
def own_el (c : Cell) : Nat → List Value → Prop
  | _, [] => True
  | i, v :: vs => c.slots[i]? = some v ∧ own_el c (i + 1) vs
theorem own_el_get {c : Cell} : ∀ (vs : List Value) (i : Nat), own_el c i vs → ∀ j, j < vs.length → c.slots[i + j]? = vs[j]?
  | [], _, _, j, hj => by simp at hj
  | v :: vs, i, H, 0, _ => by simpa using H.1
  | v :: vs, i, H, j + 1, hj => by
    have := own_el_get vs (i + 1) H.2 j (by simpa using hj)
    rw [show i + (j + 1) = i + 1 + j by omega, this]; simp
theorem own_A.of {c : Cell} (A : RoadKit.Arr Z h a c ty) (hs : c.slots.size = vs.length) (H : own_el c 0 vs) : own_A Z h a c.cls ty vs := by
  refine ⟨c, A, rfl, ?_⟩
  apply Array.ext_getElem?
  intro i
  by_cases hi : i < vs.length
  · have := own_el_get vs 0 H i hi
    rw [Nat.zero_add] at this
    rw [this]; simp
  · rw [Array.getElem?_eq_none (by omega), Array.getElem?_eq_none (by simp; omega)]
theorem own_getD {α : Type} (xs : List α) {i : Nat} (d : α) (hi : i < xs.length) : xs.getD i d = xs[i] := by simp [List.getD, hi]
theorem own_A.arv {z : Int32} {d : Value} (F : own_A Z h a k ty vs) (hz : ¬ z < 0) (hl : vs.length = z.toNatClampNeg) (hf : ∀ v ∈ vs, fits ty v = true) : Arv Z h a k ty z vs d := by
  obtain ⟨c, A, q, e⟩ := F
  refine ⟨c, A, q, by rw [e, List.size_toArray]; exact hl, hz, fun i hi => ?_, fun i hi => ?_⟩
  · rw [e, List.size_toArray] at hi
    rw [e, List.getElem?_toArray, List.getElem?_eq_getElem hi, own_getD _ _ hi]
  · rw [e, List.size_toArray] at hi
    rw [own_getD _ _ hi]; exact hf _ (List.getElem_mem hi)
theorem own_A.of_arv {z : Int32} {d : Value} (F : Arv Z h a k ty z vs d) (hl : vs.length = z.toNatClampNeg) : own_A Z h a k ty vs := by
  obtain ⟨c, A, q, S, -, H, -⟩ := F
  refine ⟨c, A, q, ?_⟩
  apply Array.ext_getElem?
  intro i
  by_cases hi : i < vs.length
  · rw [H i (by omega), List.getElem?_toArray, List.getElem?_eq_getElem hi, own_getD _ _ hi]
  · rw [Array.getElem?_eq_none (by omega), Array.getElem?_eq_none (by simp; omega)]
theorem own_A.sto {C : String} {y : Addr} (F : own_A Z h a k (.object C) vs) (O : Ovr Z k C) (I : Ins Z h y C true) : Sto Z h a (.ref y) := by
  obtain ⟨c, A, q, -⟩ := F
  exact Sto.ofV A q O I
variable {p : Program} {l : Launch} {e : Env} {R : Room} {s : State} {m : MethodId} {args : Array Value} {below : List Frame} {meth : Method} {c : Code} {T : State} {locs : List Loc} {cells slots : Nat}
theorem own_alen (X : Stand p l e R s m args below meth c T locs cells slots) (hx : p.tables.exec = Jvm.exec) (hZ : Z.Warmed39 s.vm) (eT : T.heap = h) (A : own_A Z h a k ty vs) {g : JFrame} (hg : g.method = m) {rest : List Value} (hs : g.stack = .ref a :: rest) (hd : decode c.code g.pc = .ok (.arraylength, 1)) {n : Int32} (hn : vs.length.toInt32 = n) {target : State}
    (hr : Steps p.tables e below (T.setTop { g with pc := g.pc + 1, stack := .int n :: rest }) target) : Steps p.tables e below (T.setTop g) target := by
  obtain ⟨c', A, -, e'⟩ := A
  refine X.arraylength hx (by rw [eT]; exact A.1) (State.isArrayOf_alike hZ.alike A.2.1) hg hs hd _ ?_
  rw [show c'.slots.size.toInt32 = n by rw [e', List.size_toArray]; exact hn]
  exact hr
theorem own_in {c' : Cell} {j : Int32} (e' : c'.slots = vs.toArray) (hj : ¬ j < 0) (hv : vs[j.toNatClampNeg]? = some v) : c'.slots[j.toNatClampNeg]? = some v ∧ ¬ (j < 0 ∨ c'.slots.size ≤ j.toNatClampNeg) := by
  have hv' : c'.slots[j.toNatClampNeg]? = some v := by rw [e', List.getElem?_toArray]; exact hv
  exact ⟨hv', fun q => q.elim hj fun z => absurd (Array.getElem?_eq_some_iff.mp hv').1 (Nat.not_lt.mpr z)⟩
theorem own_baload (X : Stand p l e R s m args below meth c T locs cells slots) (hx : p.tables.exec = Jvm.exec) (hZ : Z.Warmed39 s.vm) (eT : T.heap = h) (A : own_A Z h a k .byte vs) {j : Int32} (hj : ¬ j < 0) (hv : vs[j.toNatClampNeg]? = some v) {g : JFrame} (hg : g.method = m) {rest : List Value} (hs : g.stack = .int j :: .ref a :: rest) (hd : decode c.code g.pc = .ok (.baload, 1)) {target : State}
    (hr : Steps p.tables e below (T.setTop { g with pc := g.pc + 1, stack := v :: rest }) target) : Steps p.tables e below (T.setTop g) target := by
  obtain ⟨c', A, -, e'⟩ := A
  obtain ⟨hv', hin⟩ := own_in e' hj hv
  exact X.baloadBytes hx (by rw [eT]; exact A.1) (State.isArrayOf_alike hZ.alike A.2.1) A.2.2 hin hv' hg hs hd _ hr
theorem own_laload (X : Stand p l e R s m args below meth c T locs cells slots) (hx : p.tables.exec = Jvm.exec) (hZ : Z.Warmed39 s.vm) (eT : T.heap = h) (A : own_A Z h a k .long vs) {j : Int32} (hj : ¬ j < 0) (hv : vs[j.toNatClampNeg]? = some v) {g : JFrame} (hg : g.method = m) {rest : List Value} (hs : g.stack = .int j :: .ref a :: rest) (hd : decode c.code g.pc = .ok (.laload, 1)) {target : State}
    (hr : Steps p.tables e below (T.setTop { g with pc := g.pc + 1, stack := v :: rest }) target) : Steps p.tables e below (T.setTop g) target := by
  obtain ⟨c', A, -, e'⟩ := A
  obtain ⟨hv', hin⟩ := own_in e' hj hv
  exact X.laload hx (by rw [eT]; exact A.1) (State.isArrayOf_alike hZ.alike A.2.1) A.2.2 hin hv' hg hs hd _ hr
theorem own_iaload (X : Stand p l e R s m args below meth c T locs cells slots) (hx : p.tables.exec = Jvm.exec) (hZ : Z.Warmed39 s.vm) (eT : T.heap = h) (A : own_A Z h a k .int vs) {j : Int32} (hj : ¬ j < 0) (hv : vs[j.toNatClampNeg]? = some v) {g : JFrame} (hg : g.method = m) {rest : List Value} (hs : g.stack = .int j :: .ref a :: rest) (hd : decode c.code g.pc = .ok (.iaload, 1)) {target : State}
    (hr : Steps p.tables e below (T.setTop { g with pc := g.pc + 1, stack := v :: rest }) target) : Steps p.tables e below (T.setTop g) target := by
  obtain ⟨c', A, -, e'⟩ := A
  obtain ⟨hv', hin⟩ := own_in e' hj hv
  exact X.iaload hx (by rw [eT]; exact A.1) (State.isArrayOf_alike hZ.alike A.2.1) A.2.2 hin hv' hg hs hd _ hr
theorem own_caload (X : Stand p l e R s m args below meth c T locs cells slots) (hx : p.tables.exec = Jvm.exec) (hZ : Z.Warmed39 s.vm) (eT : T.heap = h) (A : own_A Z h a k .char vs) {j : Int32} (hj : ¬ j < 0) (hv : vs[j.toNatClampNeg]? = some v) {g : JFrame} (hg : g.method = m) {rest : List Value} (hs : g.stack = .int j :: .ref a :: rest) (hd : decode c.code g.pc = .ok (.caload, 1)) {target : State}
    (hr : Steps p.tables e below (T.setTop { g with pc := g.pc + 1, stack := v :: rest }) target) : Steps p.tables e below (T.setTop g) target := by
  obtain ⟨c', A, -, e'⟩ := A
  obtain ⟨hv', hin⟩ := own_in e' hj hv
  exact X.caload hx (by rw [eT]; exact A.1) (State.isArrayOf_alike hZ.alike A.2.1) A.2.2 hin hv' hg hs hd _ hr
theorem own_aaload (X : Stand p l e R s m args below meth c T locs cells slots) (hx : p.tables.exec = Jvm.exec) (hZ : Z.Warmed39 s.vm) (eT : T.heap = h) (A : own_A Z h a k ty vs) {j : Int32} (hj : ¬ j < 0) (hv : vs[j.toNatClampNeg]? = some v) (ht : ty.isReference = true) {g : JFrame} (hg : g.method = m) {rest : List Value} (hs : g.stack = .int j :: .ref a :: rest) (hd : decode c.code g.pc = .ok (.aaload, 1)) {target : State}
    (hr : Steps p.tables e below (T.setTop { g with pc := g.pc + 1, stack := v :: rest }) target) : Steps p.tables e below (T.setTop g) target := by
  obtain ⟨c', A, -, e'⟩ := A
  obtain ⟨hv', hin⟩ := own_in e' hj hv
  exact X.aaload hx (by rw [eT]; exact A.1) (State.isArrayOf_alike hZ.alike A.2.1) ht A.2.2 hin hv' hg hs hd _ hr
theorem own_inb {c' : Cell} {j : Int32} {i : Nat} (e' : c'.slots = vs.toArray) (hi : j.toNatClampNeg = i) (hj : ¬ j < 0) (hl : i < vs.length) : ¬ (j < 0 ∨ c'.slots.size ≤ j.toNatClampNeg) := fun q => q.elim hj fun z => by
  rw [e', List.size_toArray, hi] at z; omega
theorem own_bastore (X : Stand p l e R s m args below meth c T locs cells slots) (hx : p.tables.exec = Jvm.exec) (hZ : Z.Warmed39 s.vm) (eT : T.heap = h) (A : own_A Z h a k .byte vs) {j x : Int32} {i : Nat} (hi : j.toNatClampNeg = i) (hj : ¬ j < 0) (hl : i < vs.length) {g : JFrame} (hg : g.method = m) {rest : List Value} (hs : g.stack = .int x :: .int j :: .ref a :: rest) (hd : decode c.code g.pc = .ok (.bastore, 1)) :
    ∃ T' h', Stand p l e R s m args below meth c T' (locs ++ [⟨a, i⟩]) cells slots ∧ T'.heap = h' ∧ own_A Z h' a k .byte (vs.set i (.int (nar .byte x))) ∧ Wr h h' a i (.int (nar .byte x)) ∧ ∀ target, Steps p.tables e below (T'.setTop { g with pc := g.pc + 1, stack := rest }) target → Steps p.tables e below (T.setTop g) target := by
  obtain ⟨c', A', q, e'⟩ := A
  obtain ⟨T', h', X', e1, W, st⟩ := stB X hx hZ eT A' (own_inb e' hi hj hl) hg hs hd
  subst hi
  exact ⟨T', h', X', e1, own_A.set ⟨c', A', q, e'⟩ W, W, st⟩
theorem own_lastore (X : Stand p l e R s m args below meth c T locs cells slots) (hx : p.tables.exec = Jvm.exec) (hZ : Z.Warmed39 s.vm) (eT : T.heap = h) (A : own_A Z h a k .long vs) {j : Int32} {x : Int64} {i : Nat} (hi : j.toNatClampNeg = i) (hj : ¬ j < 0) (hl : i < vs.length) {g : JFrame} (hg : g.method = m) {rest : List Value} (hs : g.stack = .long x :: .int j :: .ref a :: rest) (hd : decode c.code g.pc = .ok (.lastore, 1)) :
    ∃ T' h', Stand p l e R s m args below meth c T' (locs ++ [⟨a, i⟩]) cells slots ∧ T'.heap = h' ∧ own_A Z h' a k .long (vs.set i (.long x)) ∧ Wr h h' a i (.long x) ∧ ∀ target, Steps p.tables e below (T'.setTop { g with pc := g.pc + 1, stack := rest }) target → Steps p.tables e below (T.setTop g) target := by
  obtain ⟨c', A', q, e'⟩ := A
  obtain ⟨T', h', X', e1, W, st⟩ := stJ X hx hZ eT A' (own_inb e' hi hj hl) hg hs hd
  subst hi
  exact ⟨T', h', X', e1, own_A.set ⟨c', A', q, e'⟩ W, W, st⟩
theorem own_aastore (X : Stand p l e R s m args below meth c T locs cells slots) (hx : p.tables.exec = Jvm.exec) (hZ : Z.Warmed39 s.vm) (eT : T.heap = h) (A : own_A Z h a k ty vs) {j : Int32} {i : Nat} (hi : j.toNatClampNeg = i) (hj : ¬ j < 0) (hl : i < vs.length) (ht : ty.isReference = true) (F : Sto Z h a v) {g : JFrame} (hg : g.method = m) {rest : List Value} (hs : g.stack = v :: .int j :: .ref a :: rest) (hd : decode c.code g.pc = .ok (.aastore, 1)) :
    ∃ T' h', Stand p l e R s m args below meth c T' (locs ++ [⟨a, i⟩]) cells slots ∧ T'.heap = h' ∧ own_A Z h' a k ty (vs.set i v) ∧ Wr h h' a i v ∧ ∀ target, Steps p.tables e below (T'.setTop { g with pc := g.pc + 1, stack := rest }) target → Steps p.tables e below (T.setTop g) target := by
  obtain ⟨c', A', q, e'⟩ := A
  obtain ⟨T', h', X', e1, W, st⟩ := stR X hx hZ eT A' (own_inb e' hi hj hl) ht F hg hs hd
  subst hi
  exact ⟨T', h', X', e1, own_A.set ⟨c', A', q, e'⟩ W, W, st⟩
end OwnArrays
theorem own_dR00_0 : decode prog_104_method_4_code 0 = .ok (.iload_n 0, 1) := by decide +kernel
theorem own_dR00_1 : decode prog_104_method_4_code 1 = .ok (.ifCond .eq 20, 3) := by decide +kernel
theorem own_dR00_21 : decode prog_104_method_4_code 21 = .ok (.iload_n 1, 1) := by decide +kernel
theorem own_dR00_22 : decode prog_104_method_4_code 22 = .ok (.ifCond .eq 9, 3) := by decide +kernel
theorem own_dR00_31 : decode prog_104_method_4_code 31 = .ok (.getstatic 10, 3) := by decide +kernel
theorem own_dR00_34 : decode prog_104_method_4_code 34 = .ok (.astore_n 2, 1) := by decide +kernel
theorem own_dR00_35 : decode prog_104_method_4_code 35 = .ok (.aload_n 2, 1) := by decide +kernel
theorem own_dR00_36 : decode prog_104_method_4_code 36 = .ok (.areturn, 1) := by decide +kernel
theorem own_efR00 (m : MethodId)  : entryFrame m #[(.int (0 : Int32)), (.int (0 : Int32))] 3 = mkF m 0 #[.val (.int (0 : Int32)), .val (.int (0 : Int32)), .unset] [] := by first | (simp [entryFrame, mkF, argsToLocals, Value.category]; done) | rfl
def own_QR00 (Z : State)  (a_DELETE : Addr) (h0 : Heap) (n0 : Nat) (v : Option Value) (h : Heap) (L : List Loc) : Prop := v = some (.ref a_DELETE) ∧ Fr n0 L ∧ h = h0
theorem own_pn0 : plainName "com/example/restate/restate/model/WordEdit$Point" = true := by first | (simp [plainName, overriddenIn]; done) | decide +kernel
set_option maxRecDepth 65536 in
set_option maxHeartbeats 40000000 in
theorem own_rR00 (l : Launch) (Z : State) (a0 : Array Value) (hw : ∀ d ∈ tables_1, d.before a0 Z = true) (ws : List Jvm.Cond)  (a_DELETE : Addr) (h0 : Heap) (n0 : Nat) (Z0 : n0 ≤ h0.size) (S_DELETE : Sta Z h0 "com/example/restate/restate/model/WordEdit$Point" "DELETE" "Lcom/example/restate/restate/model/WordEdit$Point;" (.ref a_DELETE)) :
    MetFree l (⟨"com/example/restate/restate/model/WordEdit$Point", "removing", "(ZZ)Lcom/example/restate/restate/model/WordEdit$Point;"⟩ : MethodName) (head1 (Jvm.Cond.code (⟨"com/example/restate/restate/model/WordEdit$Point", "removing", "(ZZ)Lcom/example/restate/restate/model/WordEdit$Point;"⟩ : MethodName) prog_104_method_4_code 3 (some (.object "com/example/restate/restate/model/WordEdit$Point")) :: ws) ({ frames := 0, cells := 0, slots := 0, locals := 0 } : Room)) (fun a U => a = #[(.int (0 : Int32)), (.int (0 : Int32))] ∧ Z.Warmed39 U.vm ∧ U.heap = h0) (fun _ _ _ _ _ => True) (fun _ U o U' => ∃ v L, o = .returned v ∧ own_QR00 Z a_DELETE h0 n0 v U'.heap L ∧ FrameEnd U o U' L ({ frames := 0, cells := 0, slots := 0, locals := 0 } : Room).cells ({ frames := 0, cells := 0, slots := 0, locals := 0 } : Room).slots) := by
  refine MetFree.of_bodySF (plainFor_of_name own_pn0) hisR ?_
  intro p e s m args below meth c s₁ Bd hml0 hP hK
  obtain ⟨rfl, hZ, hh⟩ := hP
  have hx := Bd.exec
  have hby := Bd.bytes
  have hml : c.maxLocals = 3 := hml0
  have hown : s.vm.findClass "com/example/restate/restate/model/WordEdit$Point" = some m.cls := findClass_of_methodNamed Bd.named
  have hnm := (name_of_methodNamed Bd.named Bd.method).1
  have X0 : Stand p l e ({ frames := 0, cells := 0, slots := 0, locals := 0 } : Room) s m #[(.int (0 : Int32)), (.int (0 : Int32))] below meth c s₁ [] 0 0 := Stand.of_body Bd
  have e0 : s₁.heap = h0 := by rw [← hh, Bd.state]; rfl
  have N0 := Fr.nil n0
  show own_F p e below (fun o U' => ∃ v L, o = .returned v ∧ own_QR00 Z a_DELETE h0 n0 v U'.heap L ∧ FrameEnd s o U' L ({ frames := 0, cells := 0, slots := 0, locals := 0 } : Room).cells ({ frames := 0, cells := 0, slots := 0, locals := 0 } : Room).slots) s₁ (entryFrame m #[(.int (0 : Int32)), (.int (0 : Int32))] 3)
  rw [own_efR00 m ]
  refine own_go (T' := s₁) (g' := (mkF m 1 #[.val (.int (0 : Int32)), .val (.int (0 : Int32)), .unset] [(.int (0 : Int32))])) (fun _ k => XS.iloadN X0.here hx rfl (hb hby own_dR00_0) rfl k) ?_
  refine own_go (T' := s₁) (g' := (mkF m 21 #[.val (.int (0 : Int32)), .val (.int (0 : Int32)), .unset] [])) (fun _ k => XS.ifYes X0.here hx rfl (pc0 := 1) (pc' := 21) rfl (hb hby own_dR00_1) rfl ((if0 _ _).trans (teq ((by decide) : (0 : Int32) = (0 : Int32))).1) (by decide) (by decide) k) ?_
  refine own_go (T' := s₁) (g' := (mkF m 22 #[.val (.int (0 : Int32)), .val (.int (0 : Int32)), .unset] [(.int (0 : Int32))])) (fun _ k => XS.iloadN X0.here hx rfl (hb hby own_dR00_21) rfl k) ?_
  refine own_go (T' := s₁) (g' := (mkF m 31 #[.val (.int (0 : Int32)), .val (.int (0 : Int32)), .unset] [])) (fun _ k => XS.ifYes X0.here hx rfl (pc0 := 22) (pc' := 31) rfl (hb hby own_dR00_22) rfl ((if0 _ _).trans (teq ((by decide) : (0 : Int32) = (0 : Int32))).1) (by decide) (by decide) k) ?_
  obtain ⟨T1, X1, e1, st1⟩ := getS X0 hx hZ (host := "") hown (hw _ (List.mem_of_getElem? (i := 4) rfl)) Via.refl e0 S_DELETE (g := (mkF m 31 #[.val (.int (0 : Int32)), .val (.int (0 : Int32)), .unset] [])) rfl (hb hby own_dR00_31)
  refine own_go (T' := T1) (g' := (mkF m 34 #[.val (.int (0 : Int32)), .val (.int (0 : Int32)), .unset] [(.ref a_DELETE)])) (fun _ k => st1 _ k) ?_
  refine own_go (T' := T1) (g' := (mkF m 35 #[.val (.int (0 : Int32)), .val (.int (0 : Int32)), .val (.ref a_DELETE)] [])) (fun _ k => XS.astoreN X1.here hx rfl (hb hby own_dR00_34) rfl rfl (l' := #[.val (.int (0 : Int32)), .val (.int (0 : Int32)), .val (.ref a_DELETE)]) rfl k) ?_
  refine own_go (T' := T1) (g' := (mkF m 36 #[.val (.int (0 : Int32)), .val (.int (0 : Int32)), .val (.ref a_DELETE)] [(.ref a_DELETE)])) (fun _ k => XS.aloadN X1.here hx rfl (hb hby own_dR00_35) rfl rfl k) ?_
  obtain ⟨fs, hr, hrun, hended, hW, hsame⟩ := X1.leave (v := some (.ref a_DELETE)) (fun h => by rw [Bd.returns] at h; cases h)
  refine own_end (retOut X1 hx Bd.returns rfl (Or.inr (Or.inr (Or.inr (Or.inr ⟨rfl, rfl, rfl⟩)))) (hb hby own_dR00_36) hr) hrun hended ⟨_, _, rfl, (?_ : own_QR00 Z a_DELETE h0 n0 _ T1.heap _), ⟨_, rfl⟩, hW, hsame.mono (by decide) (by decide)⟩
  rw [e1]
  exact ⟨rfl, N0, rfl⟩
theorem own_dR01_0 : decode prog_104_method_4_code 0 = .ok (.iload_n 0, 1) := by decide +kernel
theorem own_dR01_1 : decode prog_104_method_4_code 1 = .ok (.ifCond .eq 20, 3) := by decide +kernel
theorem own_dR01_21 : decode prog_104_method_4_code 21 = .ok (.iload_n 1, 1) := by decide +kernel
theorem own_dR01_22 : decode prog_104_method_4_code 22 = .ok (.ifCond .eq 9, 3) := by decide +kernel
theorem own_dR01_25 : decode prog_104_method_4_code 25 = .ok (.getstatic 13, 3) := by decide +kernel
theorem own_dR01_28 : decode prog_104_method_4_code 28 = .ok (.goto 6, 3) := by decide +kernel
theorem own_dR01_34 : decode prog_104_method_4_code 34 = .ok (.astore_n 2, 1) := by decide +kernel
theorem own_dR01_35 : decode prog_104_method_4_code 35 = .ok (.aload_n 2, 1) := by decide +kernel
theorem own_dR01_36 : decode prog_104_method_4_code 36 = .ok (.areturn, 1) := by decide +kernel
theorem own_efR01 (m : MethodId)  : entryFrame m #[(.int (0 : Int32)), (.int (1 : Int32))] 3 = mkF m 0 #[.val (.int (0 : Int32)), .val (.int (1 : Int32)), .unset] [] := by first | (simp [entryFrame, mkF, argsToLocals, Value.category]; done) | rfl
def own_QR01 (Z : State)  (a_DELETE_AT_END : Addr) (h0 : Heap) (n0 : Nat) (v : Option Value) (h : Heap) (L : List Loc) : Prop := v = some (.ref a_DELETE_AT_END) ∧ Fr n0 L ∧ h = h0
set_option maxRecDepth 65536 in
set_option maxHeartbeats 40000000 in
theorem own_rR01 (l : Launch) (Z : State) (a0 : Array Value) (hw : ∀ d ∈ tables_1, d.before a0 Z = true) (ws : List Jvm.Cond)  (a_DELETE_AT_END : Addr) (h0 : Heap) (n0 : Nat) (Z0 : n0 ≤ h0.size) (S_DELETE_AT_END : Sta Z h0 "com/example/restate/restate/model/WordEdit$Point" "DELETE_AT_END" "Lcom/example/restate/restate/model/WordEdit$Point;" (.ref a_DELETE_AT_END)) :
    MetFree l (⟨"com/example/restate/restate/model/WordEdit$Point", "removing", "(ZZ)Lcom/example/restate/restate/model/WordEdit$Point;"⟩ : MethodName) (head1 (Jvm.Cond.code (⟨"com/example/restate/restate/model/WordEdit$Point", "removing", "(ZZ)Lcom/example/restate/restate/model/WordEdit$Point;"⟩ : MethodName) prog_104_method_4_code 3 (some (.object "com/example/restate/restate/model/WordEdit$Point")) :: ws) ({ frames := 0, cells := 0, slots := 0, locals := 0 } : Room)) (fun a U => a = #[(.int (0 : Int32)), (.int (1 : Int32))] ∧ Z.Warmed39 U.vm ∧ U.heap = h0) (fun _ _ _ _ _ => True) (fun _ U o U' => ∃ v L, o = .returned v ∧ own_QR01 Z a_DELETE_AT_END h0 n0 v U'.heap L ∧ FrameEnd U o U' L ({ frames := 0, cells := 0, slots := 0, locals := 0 } : Room).cells ({ frames := 0, cells := 0, slots := 0, locals := 0 } : Room).slots) := by
  refine MetFree.of_bodySF (plainFor_of_name own_pn0) hisR ?_
  intro p e s m args below meth c s₁ Bd hml0 hP hK
  obtain ⟨rfl, hZ, hh⟩ := hP
  have hx := Bd.exec
  have hby := Bd.bytes
  have hml : c.maxLocals = 3 := hml0
  have hown : s.vm.findClass "com/example/restate/restate/model/WordEdit$Point" = some m.cls := findClass_of_methodNamed Bd.named
  have hnm := (name_of_methodNamed Bd.named Bd.method).1
  have X0 : Stand p l e ({ frames := 0, cells := 0, slots := 0, locals := 0 } : Room) s m #[(.int (0 : Int32)), (.int (1 : Int32))] below meth c s₁ [] 0 0 := Stand.of_body Bd
  have e0 : s₁.heap = h0 := by rw [← hh, Bd.state]; rfl
  have N0 := Fr.nil n0
  show own_F p e below (fun o U' => ∃ v L, o = .returned v ∧ own_QR01 Z a_DELETE_AT_END h0 n0 v U'.heap L ∧ FrameEnd s o U' L ({ frames := 0, cells := 0, slots := 0, locals := 0 } : Room).cells ({ frames := 0, cells := 0, slots := 0, locals := 0 } : Room).slots) s₁ (entryFrame m #[(.int (0 : Int32)), (.int (1 : Int32))] 3)
  rw [own_efR01 m ]
  refine own_go (T' := s₁) (g' := (mkF m 1 #[.val (.int (0 : Int32)), .val (.int (1 : Int32)), .unset] [(.int (0 : Int32))])) (fun _ k => XS.iloadN X0.here hx rfl (hb hby own_dR01_0) rfl k) ?_
  refine own_go (T' := s₁) (g' := (mkF m 21 #[.val (.int (0 : Int32)), .val (.int (1 : Int32)), .unset] [])) (fun _ k => XS.ifYes X0.here hx rfl (pc0 := 1) (pc' := 21) rfl (hb hby own_dR01_1) rfl ((if0 _ _).trans (teq ((by decide) : (0 : Int32) = (0 : Int32))).1) (by decide) (by decide) k) ?_
  refine own_go (T' := s₁) (g' := (mkF m 22 #[.val (.int (0 : Int32)), .val (.int (1 : Int32)), .unset] [(.int (1 : Int32))])) (fun _ k => XS.iloadN X0.here hx rfl (hb hby own_dR01_21) rfl k) ?_
  refine own_go (T' := s₁) (g' := (mkF m 25 #[.val (.int (0 : Int32)), .val (.int (1 : Int32)), .unset] [])) (fun _ k => XS.ifNo X0.here hx rfl (hb hby own_dR01_22) rfl ((if0 _ _).trans (feq ((by decide) : ¬ ((1 : Int32) = (0 : Int32)))).1) k) ?_
  obtain ⟨T1, X1, e1, st1⟩ := getS X0 hx hZ (host := "") hown (hw _ (List.mem_of_getElem? (i := 17) rfl)) Via.refl e0 S_DELETE_AT_END (g := (mkF m 25 #[.val (.int (0 : Int32)), .val (.int (1 : Int32)), .unset] [])) rfl (hb hby own_dR01_25)
  refine own_go (T' := T1) (g' := (mkF m 28 #[.val (.int (0 : Int32)), .val (.int (1 : Int32)), .unset] [(.ref a_DELETE_AT_END)])) (fun _ k => st1 _ k) ?_
  refine own_go (T' := T1) (g' := (mkF m 34 #[.val (.int (0 : Int32)), .val (.int (1 : Int32)), .unset] [(.ref a_DELETE_AT_END)])) (fun _ k => XS.goto X1.here hx rfl (pc0 := 28) (pc' := 34) rfl (hb hby own_dR01_28) (by decide) (by decide) k) ?_
  refine own_go (T' := T1) (g' := (mkF m 35 #[.val (.int (0 : Int32)), .val (.int (1 : Int32)), .val (.ref a_DELETE_AT_END)] [])) (fun _ k => XS.astoreN X1.here hx rfl (hb hby own_dR01_34) rfl rfl (l' := #[.val (.int (0 : Int32)), .val (.int (1 : Int32)), .val (.ref a_DELETE_AT_END)]) rfl k) ?_
  refine own_go (T' := T1) (g' := (mkF m 36 #[.val (.int (0 : Int32)), .val (.int (1 : Int32)), .val (.ref a_DELETE_AT_END)] [(.ref a_DELETE_AT_END)])) (fun _ k => XS.aloadN X1.here hx rfl (hb hby own_dR01_35) rfl rfl k) ?_
  obtain ⟨fs, hr, hrun, hended, hW, hsame⟩ := X1.leave (v := some (.ref a_DELETE_AT_END)) (fun h => by rw [Bd.returns] at h; cases h)
  refine own_end (retOut X1 hx Bd.returns rfl (Or.inr (Or.inr (Or.inr (Or.inr ⟨rfl, rfl, rfl⟩)))) (hb hby own_dR01_36) hr) hrun hended ⟨_, _, rfl, (?_ : own_QR01 Z a_DELETE_AT_END h0 n0 _ T1.heap _), ⟨_, rfl⟩, hW, hsame.mono (by decide) (by decide)⟩
  rw [e1]
  exact ⟨rfl, N0, rfl⟩
theorem own_dR10_0 : decode prog_104_method_4_code 0 = .ok (.iload_n 0, 1) := by decide +kernel
theorem own_dR10_1 : decode prog_104_method_4_code 1 = .ok (.ifCond .eq 20, 3) := by decide +kernel
theorem own_dR10_4 : decode prog_104_method_4_code 4 = .ok (.iload_n 1, 1) := by decide +kernel
theorem own_dR10_5 : decode prog_104_method_4_code 5 = .ok (.ifCond .eq 9, 3) := by decide +kernel
theorem own_dR10_14 : decode prog_104_method_4_code 14 = .ok (.getstatic 3, 3) := by decide +kernel
theorem own_dR10_17 : decode prog_104_method_4_code 17 = .ok (.astore_n 2, 1) := by decide +kernel
theorem own_dR10_18 : decode prog_104_method_4_code 18 = .ok (.goto 17, 3) := by decide +kernel
theorem own_dR10_35 : decode prog_104_method_4_code 35 = .ok (.aload_n 2, 1) := by decide +kernel
theorem own_dR10_36 : decode prog_104_method_4_code 36 = .ok (.areturn, 1) := by decide +kernel
theorem own_efR10 (m : MethodId)  : entryFrame m #[(.int (1 : Int32)), (.int (0 : Int32))] 3 = mkF m 0 #[.val (.int (1 : Int32)), .val (.int (0 : Int32)), .unset] [] := by first | (simp [entryFrame, mkF, argsToLocals, Value.category]; done) | rfl
def own_QR10 (Z : State)  (a_REPLACE : Addr) (h0 : Heap) (n0 : Nat) (v : Option Value) (h : Heap) (L : List Loc) : Prop := v = some (.ref a_REPLACE) ∧ Fr n0 L ∧ h = h0
set_option maxRecDepth 65536 in
set_option maxHeartbeats 40000000 in
theorem own_rR10 (l : Launch) (Z : State) (a0 : Array Value) (hw : ∀ d ∈ tables_1, d.before a0 Z = true) (ws : List Jvm.Cond)  (a_REPLACE : Addr) (h0 : Heap) (n0 : Nat) (Z0 : n0 ≤ h0.size) (S_REPLACE : Sta Z h0 "com/example/restate/restate/model/WordEdit$Point" "REPLACE" "Lcom/example/restate/restate/model/WordEdit$Point;" (.ref a_REPLACE)) :
    MetFree l (⟨"com/example/restate/restate/model/WordEdit$Point", "removing", "(ZZ)Lcom/example/restate/restate/model/WordEdit$Point;"⟩ : MethodName) (head1 (Jvm.Cond.code (⟨"com/example/restate/restate/model/WordEdit$Point", "removing", "(ZZ)Lcom/example/restate/restate/model/WordEdit$Point;"⟩ : MethodName) prog_104_method_4_code 3 (some (.object "com/example/restate/restate/model/WordEdit$Point")) :: ws) ({ frames := 0, cells := 0, slots := 0, locals := 0 } : Room)) (fun a U => a = #[(.int (1 : Int32)), (.int (0 : Int32))] ∧ Z.Warmed39 U.vm ∧ U.heap = h0) (fun _ _ _ _ _ => True) (fun _ U o U' => ∃ v L, o = .returned v ∧ own_QR10 Z a_REPLACE h0 n0 v U'.heap L ∧ FrameEnd U o U' L ({ frames := 0, cells := 0, slots := 0, locals := 0 } : Room).cells ({ frames := 0, cells := 0, slots := 0, locals := 0 } : Room).slots) := by
  refine MetFree.of_bodySF (plainFor_of_name own_pn0) hisR ?_
  intro p e s m args below meth c s₁ Bd hml0 hP hK
  obtain ⟨rfl, hZ, hh⟩ := hP
  have hx := Bd.exec
  have hby := Bd.bytes
  have hml : c.maxLocals = 3 := hml0
  have hown : s.vm.findClass "com/example/restate/restate/model/WordEdit$Point" = some m.cls := findClass_of_methodNamed Bd.named
  have hnm := (name_of_methodNamed Bd.named Bd.method).1
  have X0 : Stand p l e ({ frames := 0, cells := 0, slots := 0, locals := 0 } : Room) s m #[(.int (1 : Int32)), (.int (0 : Int32))] below meth c s₁ [] 0 0 := Stand.of_body Bd
  have e0 : s₁.heap = h0 := by rw [← hh, Bd.state]; rfl
  have N0 := Fr.nil n0
  show own_F p e below (fun o U' => ∃ v L, o = .returned v ∧ own_QR10 Z a_REPLACE h0 n0 v U'.heap L ∧ FrameEnd s o U' L ({ frames := 0, cells := 0, slots := 0, locals := 0 } : Room).cells ({ frames := 0, cells := 0, slots := 0, locals := 0 } : Room).slots) s₁ (entryFrame m #[(.int (1 : Int32)), (.int (0 : Int32))] 3)
  rw [own_efR10 m ]
  refine own_go (T' := s₁) (g' := (mkF m 1 #[.val (.int (1 : Int32)), .val (.int (0 : Int32)), .unset] [(.int (1 : Int32))])) (fun _ k => XS.iloadN X0.here hx rfl (hb hby own_dR10_0) rfl k) ?_
  refine own_go (T' := s₁) (g' := (mkF m 4 #[.val (.int (1 : Int32)), .val (.int (0 : Int32)), .unset] [])) (fun _ k => XS.ifNo X0.here hx rfl (hb hby own_dR10_1) rfl ((if0 _ _).trans (feq ((by decide) : ¬ ((1 : Int32) = (0 : Int32)))).1) k) ?_
  refine own_go (T' := s₁) (g' := (mkF m 5 #[.val (.int (1 : Int32)), .val (.int (0 : Int32)), .unset] [(.int (0 : Int32))])) (fun _ k => XS.iloadN X0.here hx rfl (hb hby own_dR10_4) rfl k) ?_
  refine own_go (T' := s₁) (g' := (mkF m 14 #[.val (.int (1 : Int32)), .val (.int (0 : Int32)), .unset] [])) (fun _ k => XS.ifYes X0.here hx rfl (pc0 := 5) (pc' := 14) rfl (hb hby own_dR10_5) rfl ((if0 _ _).trans (teq ((by decide) : (0 : Int32) = (0 : Int32))).1) (by decide) (by decide) k) ?_
  obtain ⟨T1, X1, e1, st1⟩ := getS X0 hx hZ (host := "") hown (hw _ (List.mem_of_getElem? (i := 18) rfl)) Via.refl e0 S_REPLACE (g := (mkF m 14 #[.val (.int (1 : Int32)), .val (.int (0 : Int32)), .unset] [])) rfl (hb hby own_dR10_14)
  refine own_go (T' := T1) (g' := (mkF m 17 #[.val (.int (1 : Int32)), .val (.int (0 : Int32)), .unset] [(.ref a_REPLACE)])) (fun _ k => st1 _ k) ?_
  refine own_go (T' := T1) (g' := (mkF m 18 #[.val (.int (1 : Int32)), .val (.int (0 : Int32)), .val (.ref a_REPLACE)] [])) (fun _ k => XS.astoreN X1.here hx rfl (hb hby own_dR10_17) rfl rfl (l' := #[.val (.int (1 : Int32)), .val (.int (0 : Int32)), .val (.ref a_REPLACE)]) rfl k) ?_
  refine own_go (T' := T1) (g' := (mkF m 35 #[.val (.int (1 : Int32)), .val (.int (0 : Int32)), .val (.ref a_REPLACE)] [])) (fun _ k => XS.goto X1.here hx rfl (pc0 := 18) (pc' := 35) rfl (hb hby own_dR10_18) (by decide) (by decide) k) ?_
  refine own_go (T' := T1) (g' := (mkF m 36 #[.val (.int (1 : Int32)), .val (.int (0 : Int32)), .val (.ref a_REPLACE)] [(.ref a_REPLACE)])) (fun _ k => XS.aloadN X1.here hx rfl (hb hby own_dR10_35) rfl rfl k) ?_
  obtain ⟨fs, hr, hrun, hended, hW, hsame⟩ := X1.leave (v := some (.ref a_REPLACE)) (fun h => by rw [Bd.returns] at h; cases h)
  refine own_end (retOut X1 hx Bd.returns rfl (Or.inr (Or.inr (Or.inr (Or.inr ⟨rfl, rfl, rfl⟩)))) (hb hby own_dR10_36) hr) hrun hended ⟨_, _, rfl, (?_ : own_QR10 Z a_REPLACE h0 n0 _ T1.heap _), ⟨_, rfl⟩, hW, hsame.mono (by decide) (by decide)⟩
  rw [e1]
  exact ⟨rfl, N0, rfl⟩
theorem own_dR11_0 : decode prog_104_method_4_code 0 = .ok (.iload_n 0, 1) := by decide +kernel
theorem own_dR11_1 : decode prog_104_method_4_code 1 = .ok (.ifCond .eq 20, 3) := by decide +kernel
theorem own_dR11_4 : decode prog_104_method_4_code 4 = .ok (.iload_n 1, 1) := by decide +kernel
theorem own_dR11_5 : decode prog_104_method_4_code 5 = .ok (.ifCond .eq 9, 3) := by decide +kernel
theorem own_dR11_8 : decode prog_104_method_4_code 8 = .ok (.getstatic 7, 3) := by decide +kernel
theorem own_dR11_11 : decode prog_104_method_4_code 11 = .ok (.goto 6, 3) := by decide +kernel
theorem own_dR11_17 : decode prog_104_method_4_code 17 = .ok (.astore_n 2, 1) := by decide +kernel
theorem own_dR11_18 : decode prog_104_method_4_code 18 = .ok (.goto 17, 3) := by decide +kernel
theorem own_dR11_35 : decode prog_104_method_4_code 35 = .ok (.aload_n 2, 1) := by decide +kernel
theorem own_dR11_36 : decode prog_104_method_4_code 36 = .ok (.areturn, 1) := by decide +kernel
theorem own_efR11 (m : MethodId)  : entryFrame m #[(.int (1 : Int32)), (.int (1 : Int32))] 3 = mkF m 0 #[.val (.int (1 : Int32)), .val (.int (1 : Int32)), .unset] [] := by first | (simp [entryFrame, mkF, argsToLocals, Value.category]; done) | rfl
def own_QR11 (Z : State)  (a_REPLACE_AT_END : Addr) (h0 : Heap) (n0 : Nat) (v : Option Value) (h : Heap) (L : List Loc) : Prop := v = some (.ref a_REPLACE_AT_END) ∧ Fr n0 L ∧ h = h0
set_option maxRecDepth 65536 in
set_option maxHeartbeats 40000000 in
theorem own_rR11 (l : Launch) (Z : State) (a0 : Array Value) (hw : ∀ d ∈ tables_1, d.before a0 Z = true) (ws : List Jvm.Cond)  (a_REPLACE_AT_END : Addr) (h0 : Heap) (n0 : Nat) (Z0 : n0 ≤ h0.size) (S_REPLACE_AT_END : Sta Z h0 "com/example/restate/restate/model/WordEdit$Point" "REPLACE_AT_END" "Lcom/example/restate/restate/model/WordEdit$Point;" (.ref a_REPLACE_AT_END)) :
    MetFree l (⟨"com/example/restate/restate/model/WordEdit$Point", "removing", "(ZZ)Lcom/example/restate/restate/model/WordEdit$Point;"⟩ : MethodName) (head1 (Jvm.Cond.code (⟨"com/example/restate/restate/model/WordEdit$Point", "removing", "(ZZ)Lcom/example/restate/restate/model/WordEdit$Point;"⟩ : MethodName) prog_104_method_4_code 3 (some (.object "com/example/restate/restate/model/WordEdit$Point")) :: ws) ({ frames := 0, cells := 0, slots := 0, locals := 0 } : Room)) (fun a U => a = #[(.int (1 : Int32)), (.int (1 : Int32))] ∧ Z.Warmed39 U.vm ∧ U.heap = h0) (fun _ _ _ _ _ => True) (fun _ U o U' => ∃ v L, o = .returned v ∧ own_QR11 Z a_REPLACE_AT_END h0 n0 v U'.heap L ∧ FrameEnd U o U' L ({ frames := 0, cells := 0, slots := 0, locals := 0 } : Room).cells ({ frames := 0, cells := 0, slots := 0, locals := 0 } : Room).slots) := by
  refine MetFree.of_bodySF (plainFor_of_name own_pn0) hisR ?_
  intro p e s m args below meth c s₁ Bd hml0 hP hK
  obtain ⟨rfl, hZ, hh⟩ := hP
  have hx := Bd.exec
  have hby := Bd.bytes
  have hml : c.maxLocals = 3 := hml0
  have hown : s.vm.findClass "com/example/restate/restate/model/WordEdit$Point" = some m.cls := findClass_of_methodNamed Bd.named
  have hnm := (name_of_methodNamed Bd.named Bd.method).1
  have X0 : Stand p l e ({ frames := 0, cells := 0, slots := 0, locals := 0 } : Room) s m #[(.int (1 : Int32)), (.int (1 : Int32))] below meth c s₁ [] 0 0 := Stand.of_body Bd
  have e0 : s₁.heap = h0 := by rw [← hh, Bd.state]; rfl
  have N0 := Fr.nil n0
  show own_F p e below (fun o U' => ∃ v L, o = .returned v ∧ own_QR11 Z a_REPLACE_AT_END h0 n0 v U'.heap L ∧ FrameEnd s o U' L ({ frames := 0, cells := 0, slots := 0, locals := 0 } : Room).cells ({ frames := 0, cells := 0, slots := 0, locals := 0 } : Room).slots) s₁ (entryFrame m #[(.int (1 : Int32)), (.int (1 : Int32))] 3)
  rw [own_efR11 m ]
  refine own_go (T' := s₁) (g' := (mkF m 1 #[.val (.int (1 : Int32)), .val (.int (1 : Int32)), .unset] [(.int (1 : Int32))])) (fun _ k => XS.iloadN X0.here hx rfl (hb hby own_dR11_0) rfl k) ?_
  refine own_go (T' := s₁) (g' := (mkF m 4 #[.val (.int (1 : Int32)), .val (.int (1 : Int32)), .unset] [])) (fun _ k => XS.ifNo X0.here hx rfl (hb hby own_dR11_1) rfl ((if0 _ _).trans (feq ((by decide) : ¬ ((1 : Int32) = (0 : Int32)))).1) k) ?_
  refine own_go (T' := s₁) (g' := (mkF m 5 #[.val (.int (1 : Int32)), .val (.int (1 : Int32)), .unset] [(.int (1 : Int32))])) (fun _ k => XS.iloadN X0.here hx rfl (hb hby own_dR11_4) rfl k) ?_
  refine own_go (T' := s₁) (g' := (mkF m 8 #[.val (.int (1 : Int32)), .val (.int (1 : Int32)), .unset] [])) (fun _ k => XS.ifNo X0.here hx rfl (hb hby own_dR11_5) rfl ((if0 _ _).trans (feq ((by decide) : ¬ ((1 : Int32) = (0 : Int32)))).1) k) ?_
  obtain ⟨T1, X1, e1, st1⟩ := getS X0 hx hZ (host := "") hown (hw _ (List.mem_of_getElem? (i := 16) rfl)) Via.refl e0 S_REPLACE_AT_END (g := (mkF m 8 #[.val (.int (1 : Int32)), .val (.int (1 : Int32)), .unset] [])) rfl (hb hby own_dR11_8)
  refine own_go (T' := T1) (g' := (mkF m 11 #[.val (.int (1 : Int32)), .val (.int (1 : Int32)), .unset] [(.ref a_REPLACE_AT_END)])) (fun _ k => st1 _ k) ?_
  refine own_go (T' := T1) (g' := (mkF m 17 #[.val (.int (1 : Int32)), .val (.int (1 : Int32)), .unset] [(.ref a_REPLACE_AT_END)])) (fun _ k => XS.goto X1.here hx rfl (pc0 := 11) (pc' := 17) rfl (hb hby own_dR11_11) (by decide) (by decide) k) ?_
  refine own_go (T' := T1) (g' := (mkF m 18 #[.val (.int (1 : Int32)), .val (.int (1 : Int32)), .val (.ref a_REPLACE_AT_END)] [])) (fun _ k => XS.astoreN X1.here hx rfl (hb hby own_dR11_17) rfl rfl (l' := #[.val (.int (1 : Int32)), .val (.int (1 : Int32)), .val (.ref a_REPLACE_AT_END)]) rfl k) ?_
  refine own_go (T' := T1) (g' := (mkF m 35 #[.val (.int (1 : Int32)), .val (.int (1 : Int32)), .val (.ref a_REPLACE_AT_END)] [])) (fun _ k => XS.goto X1.here hx rfl (pc0 := 18) (pc' := 35) rfl (hb hby own_dR11_18) (by decide) (by decide) k) ?_
  refine own_go (T' := T1) (g' := (mkF m 36 #[.val (.int (1 : Int32)), .val (.int (1 : Int32)), .val (.ref a_REPLACE_AT_END)] [(.ref a_REPLACE_AT_END)])) (fun _ k => XS.aloadN X1.here hx rfl (hb hby own_dR11_35) rfl rfl k) ?_
  obtain ⟨fs, hr, hrun, hended, hW, hsame⟩ := X1.leave (v := some (.ref a_REPLACE_AT_END)) (fun h => by rw [Bd.returns] at h; cases h)
  refine own_end (retOut X1 hx Bd.returns rfl (Or.inr (Or.inr (Or.inr (Or.inr ⟨rfl, rfl, rfl⟩)))) (hb hby own_dR11_36) hr) hrun hended ⟨_, _, rfl, (?_ : own_QR11 Z a_REPLACE_AT_END h0 n0 _ T1.heap _), ⟨_, rfl⟩, hW, hsame.mono (by decide) (by decide)⟩
  rw [e1]
  exact ⟨rfl, N0, rfl⟩
theorem own_pd0 : parseMethodDescriptor "(ZZ)Lcom/example/restate/restate/model/WordEdit$Point;" = some ⟨[.boolean, .boolean], some (.object "com/example/restate/restate/model/WordEdit$Point")⟩ := by decide +kernel
theorem own_efL (m : MethodId) (xf : Int32) : entryFrame m #[(.int xf)] maxLocals = mkF m 0 #[.val (.int xf), .unset, .unset, .unset, .unset, .unset] [] := by first | (simp [entryFrame, mkF, argsToLocals, Value.category, maxLocals]; done) | rfl
def own_QL (Z : State) (xf : Int32) (a_DELETE : Addr) (a_DELETE_AT_END : Addr) (a_REPLACE : Addr) (a_REPLACE_AT_END : Addr) (h0 : Heap) (n0 : Nat) (v : Option Value) (h : Heap) (L : List Loc) : Prop := v = some (.int (1 : Int32)) ∧ Fr n0 L
theorem own_pn1 : plainName "com/example/restate/restate/model/WordEditRemovingPinLaw" = true := by first | (simp [plainName, overriddenIn]; done) | decide +kernel
set_option maxRecDepth 65536 in
set_option maxHeartbeats 40000000 in
theorem own_rL (l : Launch) (Z : State) (a0 : Array Value) (hw : ∀ d ∈ tables_1, d.before a0 Z = true) (ws : List Jvm.Cond) (xf : Int32) (a_DELETE : Addr) (a_DELETE_AT_END : Addr) (a_REPLACE : Addr) (a_REPLACE_AT_END : Addr) (h0 : Heap) (n0 : Nat) (Z0 : n0 ≤ h0.size) (S_DELETE : Sta Z h0 "com/example/restate/restate/model/WordEdit$Point" "DELETE" "Lcom/example/restate/restate/model/WordEdit$Point;" (.ref a_DELETE)) (E_DELETE : Exa Z h0 a_DELETE "com/example/restate/restate/model/WordEdit$Point") (S_DELETE_AT_END : Sta Z h0 "com/example/restate/restate/model/WordEdit$Point" "DELETE_AT_END" "Lcom/example/restate/restate/model/WordEdit$Point;" (.ref a_DELETE_AT_END)) (E_DELETE_AT_END : Exa Z h0 a_DELETE_AT_END "com/example/restate/restate/model/WordEdit$Point") (S_REPLACE : Sta Z h0 "com/example/restate/restate/model/WordEdit$Point" "REPLACE" "Lcom/example/restate/restate/model/WordEdit$Point;" (.ref a_REPLACE)) (E_REPLACE : Exa Z h0 a_REPLACE "com/example/restate/restate/model/WordEdit$Point") (S_REPLACE_AT_END : Sta Z h0 "com/example/restate/restate/model/WordEdit$Point" "REPLACE_AT_END" "Lcom/example/restate/restate/model/WordEdit$Point;" (.ref a_REPLACE_AT_END)) (E_REPLACE_AT_END : Exa Z h0 a_REPLACE_AT_END "com/example/restate/restate/model/WordEdit$Point") :
    MetFree l x (head1 (Jvm.Cond.code x code maxLocals ret :: ws) room_1) (fun a U => a = #[(.int xf)] ∧ Z.Warmed39 U.vm ∧ U.heap = h0) (fun _ _ _ _ _ => True) (fun _ U o U' => ∃ v L, o = .returned v ∧ own_QL Z xf a_DELETE a_DELETE_AT_END a_REPLACE a_REPLACE_AT_END h0 n0 v U'.heap L ∧ FrameEnd U o U' L room_1.cells room_1.slots) := by
  refine MetFree.of_bodySF (plainFor_of_name own_pn1) hisR ?_
  intro p e s m args below meth c s₁ Bd hml0 hP hK
  obtain ⟨rfl, hZ, hh⟩ := hP
  have hx := Bd.exec
  have hby := Bd.bytes
  have hml : c.maxLocals = 6 := hml0
  have hown : s.vm.findClass "com/example/restate/restate/model/WordEditRemovingPinLaw" = some m.cls := findClass_of_methodNamed Bd.named
  have hnm := (name_of_methodNamed Bd.named Bd.method).1
  have X0 : Stand p l e room_1 s m #[(.int xf)] below meth c s₁ [] 0 0 := Stand.of_body Bd
  have e0 : s₁.heap = h0 := by rw [← hh, Bd.state]; rfl
  have N0 := Fr.nil n0
  show own_F p e below (fun o U' => ∃ v L, o = .returned v ∧ own_QL Z xf a_DELETE a_DELETE_AT_END a_REPLACE a_REPLACE_AT_END h0 n0 v U'.heap L ∧ FrameEnd s o U' L room_1.cells room_1.slots) s₁ (entryFrame m #[(.int xf)] maxLocals)
  rw [own_efL m xf]
  refine own_go (T' := s₁) (g' := (mkF m 1 #[.val (.int xf), .unset, .unset, .unset, .unset, .unset] [(.int xf)])) (fun _ k => XS.iloadN X0.here hx rfl (hb hby at_0) rfl k) ?_
  refine own_go (T' := s₁) (g' := (mkF m 2 #[.val (.int xf), .unset, .unset, .unset, .unset, .unset] [(.int (1 : Int32)), (.int xf)])) (fun _ k => XS.iconst X0.here hx rfl (hb hby at_1) k) ?_
  refine own_go (T' := s₁) (g' := (mkF m 3 #[.val (.int xf), .unset, .unset, .unset, .unset, .unset] [(.int (xf &&& (1 : Int32)))])) (fun _ k => XS.iand X0.here hx rfl (hb hby at_2) rfl k) ?_
  by_cases hc3 : (xf &&& (1 : Int32)) = (0 : Int32)
  · refine own_go (T' := s₁) (g' := (mkF m 10 #[.val (.int xf), .unset, .unset, .unset, .unset, .unset] [])) (fun _ k => XS.ifYes X0.here hx rfl (pc0 := 3) (pc' := 10) rfl (hb hby at_3) rfl ((if0 _ _).trans (teq (hc3 : (xf &&& (1 : Int32)) = (0 : Int32))).1) (by decide) (by decide) k) ?_
    refine own_go (T' := s₁) (g' := (mkF m 11 #[.val (.int xf), .unset, .unset, .unset, .unset, .unset] [(.int (0 : Int32))])) (fun _ k => XS.iconst X0.here hx rfl (hb hby at_10) k) ?_
    refine own_go (T' := s₁) (g' := (mkF m 12 #[.val (.int xf), .val (.int (0 : Int32)), .unset, .unset, .unset, .unset] [])) (fun _ k => XS.istoreN X0.here hx rfl (hb hby at_11) rfl (l' := #[.val (.int xf), .val (.int (0 : Int32)), .unset, .unset, .unset, .unset]) rfl k) ?_
    refine own_go (T' := s₁) (g' := (mkF m 13 #[.val (.int xf), .val (.int (0 : Int32)), .unset, .unset, .unset, .unset] [(.int xf)])) (fun _ k => XS.iloadN X0.here hx rfl (hb hby at_12) rfl k) ?_
    refine own_go (T' := s₁) (g' := (mkF m 14 #[.val (.int xf), .val (.int (0 : Int32)), .unset, .unset, .unset, .unset] [(.int (2 : Int32)), (.int xf)])) (fun _ k => XS.iconst X0.here hx rfl (hb hby at_13) k) ?_
    refine own_go (T' := s₁) (g' := (mkF m 15 #[.val (.int xf), .val (.int (0 : Int32)), .unset, .unset, .unset, .unset] [(.int (xf &&& (2 : Int32)))])) (fun _ k => XS.iand X0.here hx rfl (hb hby at_14) rfl k) ?_
    by_cases hc15 : (xf &&& (2 : Int32)) = (0 : Int32)
    · refine own_go (T' := s₁) (g' := (mkF m 22 #[.val (.int xf), .val (.int (0 : Int32)), .unset, .unset, .unset, .unset] [])) (fun _ k => XS.ifYes X0.here hx rfl (pc0 := 15) (pc' := 22) rfl (hb hby at_15) rfl ((if0 _ _).trans (teq (hc15 : (xf &&& (2 : Int32)) = (0 : Int32))).1) (by decide) (by decide) k) ?_
      refine own_go (T' := s₁) (g' := (mkF m 23 #[.val (.int xf), .val (.int (0 : Int32)), .unset, .unset, .unset, .unset] [(.int (0 : Int32))])) (fun _ k => XS.iconst X0.here hx rfl (hb hby at_22) k) ?_
      refine own_go (T' := s₁) (g' := (mkF m 24 #[.val (.int xf), .val (.int (0 : Int32)), .val (.int (0 : Int32)), .unset, .unset, .unset] [])) (fun _ k => XS.istoreN X0.here hx rfl (hb hby at_23) rfl (l' := #[.val (.int xf), .val (.int (0 : Int32)), .val (.int (0 : Int32)), .unset, .unset, .unset]) rfl k) ?_
      refine own_go (T' := s₁) (g' := (mkF m 25 #[.val (.int xf), .val (.int (0 : Int32)), .val (.int (0 : Int32)), .unset, .unset, .unset] [(.int (0 : Int32))])) (fun _ k => XS.iloadN X0.here hx rfl (hb hby at_24) rfl k) ?_
      refine own_go (T' := s₁) (g' := (mkF m 26 #[.val (.int xf), .val (.int (0 : Int32)), .val (.int (0 : Int32)), .unset, .unset, .unset] [(.int (0 : Int32)), (.int (0 : Int32))])) (fun _ k => XS.iloadN X0.here hx rfl (hb hby at_25) rfl k) ?_
      obtain ⟨_, _, ⟨T1, L1, k1, n1⟩, -, X1, ⟨Lc1, hQ1, l1, y1, z1⟩, st1⟩ := Jvm.LawKit.callS X0 hx (y := (⟨"com/example/restate/restate/model/WordEdit$Point", "removing", "(ZZ)Lcom/example/restate/restate/model/WordEdit$Point;"⟩ : MethodName)) hown (mvT hZ (hw _ (List.mem_of_getElem? (i := 0) rfl))) (mvT hZ (hw _ (List.mem_of_getElem? (i := 1) rfl))) (mvT hZ (hw _ (List.mem_of_getElem? (i := 2) rfl))) (mvT hZ (hw _ (List.mem_of_getElem? (i := 3) rfl))) (by decide) (backOf (W := 0) (own_rR00 l Z a0 hw [] a_DELETE h0 n0 Z0 S_DELETE) hZ (hw _ (List.mem_of_getElem? (i := 3) rfl)) (hw _ (List.mem_of_getElem? (i := 2) rfl)) (by decide) (by decide)) (g := (mkF m 26 #[.val (.int xf), .val (.int (0 : Int32)), .val (.int (0 : Int32)), .unset, .unset, .unset] [(.int (0 : Int32)), (.int (0 : Int32))])) rfl (by rw [hml]; rfl) (argsL := [(.int (0 : Int32)), (.int (0 : Int32))]) (rest := []) (lenOf own_pd0 rfl) rfl (by show 2 * 0 + _ ≤ _; exact Nat.le_of_eq rfl) (hb hby at_26) (fun _ _ => ⟨rfl, e0, (by decide : 0 + 0 ≤ _), (by decide : 0 + 0 ≤ _)⟩)
      dsimp only [Pt.U, Pt.locs, Pt.cells, Pt.slots] at X1 l1 y1 z1 st1 hQ1
      subst l1 y1 z1
      obtain ⟨rfl, N1q, e1⟩ := hQ1
      have N1 := Fr.app N0 N1q
      refine own_go (T' := T1) (g' := (mkF m 29 #[.val (.int xf), .val (.int (0 : Int32)), .val (.int (0 : Int32)), .unset, .unset, .unset] [(.ref a_DELETE)])) (fun _ k => st1 _ k) ?_
      refine own_go (T' := T1) (g' := (mkF m 30 #[.val (.int xf), .val (.int (0 : Int32)), .val (.int (0 : Int32)), .val (.ref a_DELETE), .unset, .unset] [])) (fun _ k => XS.astoreN X1.here hx rfl (hb hby at_29) rfl rfl (l' := #[.val (.int xf), .val (.int (0 : Int32)), .val (.int (0 : Int32)), .val (.ref a_DELETE), .unset, .unset]) rfl k) ?_
      refine own_go (T' := T1) (g' := (mkF m 31 #[.val (.int xf), .val (.int (0 : Int32)), .val (.int (0 : Int32)), .val (.ref a_DELETE), .unset, .unset] [(.int (4 : Int32))])) (fun _ k => XS.iconst X1.here hx rfl (hb hby at_30) k) ?_
      obtain ⟨T2, h2, k2, X2, e2, E2, A2, Ov2, st2⟩ := newR X1 hx hZ hown (hw _ (List.mem_of_getElem? (i := 6) rfl)) (hw _ (List.mem_of_getElem? (i := 7) rfl)) e1 (g := (mkF m 31 #[.val (.int xf), .val (.int (0 : Int32)), .val (.int (0 : Int32)), .val (.ref a_DELETE), .unset, .unset] [(.int (4 : Int32))])) rfl (hb hby at_31) rfl (by decide) (cap := 4) (by decide) (by decide) (by decide) (by decide)
      obtain ⟨b2, g2⟩ : ∃ z, z = h0.size := ⟨_, rfl⟩
      rw [← g2] at A2 st2
      have gz_b2 : n0 ≤ b2 := Nat.le_trans Z0 (Nat.le_of_eq g2.symm)
      have hz_b2 : h0.size ≤ b2 := Nat.le_trans (Keep.refl h0 []).1 (Nat.le_of_eq g2.symm)
      have Z2 : n0 ≤ h2.size := Nat.le_trans Z0 E2.1
      have O2 : Ext h0 h2 := own_ext_tr (own_ext_rf h0) E2
      have K2 : Keep h0 h2 [] := (Keep.refl h0 []).ext E2
      have V2 : own_A Z h2 b2 k2 (.object "com/example/restate/restate/model/WordEdit$Point") [.null, .null, .null, .null] := own_A.new A2 (N := 4) rfl
      refine own_go (T' := T2) (g' := (mkF m 34 #[.val (.int xf), .val (.int (0 : Int32)), .val (.int (0 : Int32)), .val (.ref a_DELETE), .unset, .unset] [(.ref b2)])) (fun _ k => st2 _ k) ?_
      refine own_go (T' := T2) (g' := (mkF m 35 #[.val (.int xf), .val (.int (0 : Int32)), .val (.int (0 : Int32)), .val (.ref a_DELETE), .unset, .unset] [(.ref b2), (.ref b2)])) (fun _ k => XS.dup X2.here hx rfl (hb hby at_34) rfl rfl k) ?_
      refine own_go (T' := T2) (g' := (mkF m 36 #[.val (.int xf), .val (.int (0 : Int32)), .val (.int (0 : Int32)), .val (.ref a_DELETE), .unset, .unset] [(.int (0 : Int32)), (.ref b2), (.ref b2)])) (fun _ k => XS.iconst X2.here hx rfl (hb hby at_35) k) ?_
      obtain ⟨T3, X3, e3, st3⟩ := getS X2 hx hZ (host := "") hown (hw _ (List.mem_of_getElem? (i := 8) rfl)) Via.refl e2 (S_DELETE.ext O2) (g := (mkF m 36 #[.val (.int xf), .val (.int (0 : Int32)), .val (.int (0 : Int32)), .val (.ref a_DELETE), .unset, .unset] [(.int (0 : Int32)), (.ref b2), (.ref b2)])) rfl (hb hby at_36)
      refine own_go (T' := T3) (g' := (mkF m 39 #[.val (.int xf), .val (.int (0 : Int32)), .val (.int (0 : Int32)), .val (.ref a_DELETE), .unset, .unset] [(.ref a_DELETE), (.int (0 : Int32)), (.ref b2), (.ref b2)])) (fun _ k => st3 _ k) ?_
      obtain ⟨T4, h4, X4, e4, V4, W4, st4⟩ := own_aastore X3 hx hZ e3 V2 (j := (0 : Int32)) (i := 0) rfl (by decide) (Nat.le_of_ble_eq_true rfl) rfl (own_A.sto V2 Ov2 (Ins.self (E_DELETE.ext O2))) (g := (mkF m 39 #[.val (.int xf), .val (.int (0 : Int32)), .val (.int (0 : Int32)), .val (.ref a_DELETE), .unset, .unset] [(.ref a_DELETE), (.int (0 : Int32)), (.ref b2), (.ref b2)])) rfl rfl (hb hby at_39)
      have Va4 : own_A Z h4 b2 k2 (.object "com/example/restate/restate/model/WordEdit$Point") [(.ref a_DELETE), .null, .null, .null] := V4
      have Z4 : n0 ≤ h4.size := Nat.le_trans Z2 (Keep.of_wr W4).1
      have O4 : Ext h0 h4 := own_ext_wr O2 W4 hz_b2
      have K4 : Keep h0 h4 [] := K2.wr W4 (Or.inr hz_b2)
      have N4 := Fr.snoc X4 N1 gz_b2
      refine own_go (T' := T4) (g' := (mkF m 40 #[.val (.int xf), .val (.int (0 : Int32)), .val (.int (0 : Int32)), .val (.ref a_DELETE), .unset, .unset] [(.ref b2)])) (fun _ k => st4 _ k) ?_
      refine own_go (T' := T4) (g' := (mkF m 41 #[.val (.int xf), .val (.int (0 : Int32)), .val (.int (0 : Int32)), .val (.ref a_DELETE), .unset, .unset] [(.ref b2), (.ref b2)])) (fun _ k => XS.dup X4.here hx rfl (hb hby at_40) rfl rfl k) ?_
      refine own_go (T' := T4) (g' := (mkF m 42 #[.val (.int xf), .val (.int (0 : Int32)), .val (.int (0 : Int32)), .val (.ref a_DELETE), .unset, .unset] [(.int (1 : Int32)), (.ref b2), (.ref b2)])) (fun _ k => XS.iconst X4.here hx rfl (hb hby at_41) k) ?_
      obtain ⟨T5, X5, e5, st5⟩ := getS X4 hx hZ (host := "") hown (hw _ (List.mem_of_getElem? (i := 10) rfl)) Via.refl e4 (S_DELETE_AT_END.ext O4) (g := (mkF m 42 #[.val (.int xf), .val (.int (0 : Int32)), .val (.int (0 : Int32)), .val (.ref a_DELETE), .unset, .unset] [(.int (1 : Int32)), (.ref b2), (.ref b2)])) rfl (hb hby at_42)
      refine own_go (T' := T5) (g' := (mkF m 45 #[.val (.int xf), .val (.int (0 : Int32)), .val (.int (0 : Int32)), .val (.ref a_DELETE), .unset, .unset] [(.ref a_DELETE_AT_END), (.int (1 : Int32)), (.ref b2), (.ref b2)])) (fun _ k => st5 _ k) ?_
      obtain ⟨T6, h6, X6, e6, V6, W6, st6⟩ := own_aastore X5 hx hZ e5 Va4 (j := (1 : Int32)) (i := 1) rfl (by decide) (Nat.le_of_ble_eq_true rfl) rfl (own_A.sto Va4 Ov2 (Ins.self (E_DELETE_AT_END.ext O4))) (g := (mkF m 45 #[.val (.int xf), .val (.int (0 : Int32)), .val (.int (0 : Int32)), .val (.ref a_DELETE), .unset, .unset] [(.ref a_DELETE_AT_END), (.int (1 : Int32)), (.ref b2), (.ref b2)])) rfl rfl (hb hby at_45)
      have Va6 : own_A Z h6 b2 k2 (.object "com/example/restate/restate/model/WordEdit$Point") [(.ref a_DELETE), (.ref a_DELETE_AT_END), .null, .null] := V6
      have Z6 : n0 ≤ h6.size := Nat.le_trans Z4 (Keep.of_wr W6).1
      have O6 : Ext h0 h6 := own_ext_wr O4 W6 hz_b2
      have K6 : Keep h0 h6 [] := K4.wr W6 (Or.inr hz_b2)
      have N6 := Fr.snoc X6 N4 gz_b2
      refine own_go (T' := T6) (g' := (mkF m 46 #[.val (.int xf), .val (.int (0 : Int32)), .val (.int (0 : Int32)), .val (.ref a_DELETE), .unset, .unset] [(.ref b2)])) (fun _ k => st6 _ k) ?_
      refine own_go (T' := T6) (g' := (mkF m 47 #[.val (.int xf), .val (.int (0 : Int32)), .val (.int (0 : Int32)), .val (.ref a_DELETE), .unset, .unset] [(.ref b2), (.ref b2)])) (fun _ k => XS.dup X6.here hx rfl (hb hby at_46) rfl rfl k) ?_
      refine own_go (T' := T6) (g' := (mkF m 48 #[.val (.int xf), .val (.int (0 : Int32)), .val (.int (0 : Int32)), .val (.ref a_DELETE), .unset, .unset] [(.int (2 : Int32)), (.ref b2), (.ref b2)])) (fun _ k => XS.iconst X6.here hx rfl (hb hby at_47) k) ?_
      obtain ⟨T7, X7, e7, st7⟩ := getS X6 hx hZ (host := "") hown (hw _ (List.mem_of_getElem? (i := 12) rfl)) Via.refl e6 (S_REPLACE.ext O6) (g := (mkF m 48 #[.val (.int xf), .val (.int (0 : Int32)), .val (.int (0 : Int32)), .val (.ref a_DELETE), .unset, .unset] [(.int (2 : Int32)), (.ref b2), (.ref b2)])) rfl (hb hby at_48)
      refine own_go (T' := T7) (g' := (mkF m 51 #[.val (.int xf), .val (.int (0 : Int32)), .val (.int (0 : Int32)), .val (.ref a_DELETE), .unset, .unset] [(.ref a_REPLACE), (.int (2 : Int32)), (.ref b2), (.ref b2)])) (fun _ k => st7 _ k) ?_
      obtain ⟨T8, h8, X8, e8, V8, W8, st8⟩ := own_aastore X7 hx hZ e7 Va6 (j := (2 : Int32)) (i := 2) rfl (by decide) (Nat.le_of_ble_eq_true rfl) rfl (own_A.sto Va6 Ov2 (Ins.self (E_REPLACE.ext O6))) (g := (mkF m 51 #[.val (.int xf), .val (.int (0 : Int32)), .val (.int (0 : Int32)), .val (.ref a_DELETE), .unset, .unset] [(.ref a_REPLACE), (.int (2 : Int32)), (.ref b2), (.ref b2)])) rfl rfl (hb hby at_51)
      have Va8 : own_A Z h8 b2 k2 (.object "com/example/restate/restate/model/WordEdit$Point") [(.ref a_DELETE), (.ref a_DELETE_AT_END), (.ref a_REPLACE), .null] := V8
      have Z8 : n0 ≤ h8.size := Nat.le_trans Z6 (Keep.of_wr W8).1
      have O8 : Ext h0 h8 := own_ext_wr O6 W8 hz_b2
      have K8 : Keep h0 h8 [] := K6.wr W8 (Or.inr hz_b2)
      have N8 := Fr.snoc X8 N6 gz_b2
      refine own_go (T' := T8) (g' := (mkF m 52 #[.val (.int xf), .val (.int (0 : Int32)), .val (.int (0 : Int32)), .val (.ref a_DELETE), .unset, .unset] [(.ref b2)])) (fun _ k => st8 _ k) ?_
      refine own_go (T' := T8) (g' := (mkF m 53 #[.val (.int xf), .val (.int (0 : Int32)), .val (.int (0 : Int32)), .val (.ref a_DELETE), .unset, .unset] [(.ref b2), (.ref b2)])) (fun _ k => XS.dup X8.here hx rfl (hb hby at_52) rfl rfl k) ?_
      refine own_go (T' := T8) (g' := (mkF m 54 #[.val (.int xf), .val (.int (0 : Int32)), .val (.int (0 : Int32)), .val (.ref a_DELETE), .unset, .unset] [(.int (3 : Int32)), (.ref b2), (.ref b2)])) (fun _ k => XS.iconst X8.here hx rfl (hb hby at_53) k) ?_
      obtain ⟨T9, X9, e9, st9⟩ := getS X8 hx hZ (host := "") hown (hw _ (List.mem_of_getElem? (i := 14) rfl)) Via.refl e8 (S_REPLACE_AT_END.ext O8) (g := (mkF m 54 #[.val (.int xf), .val (.int (0 : Int32)), .val (.int (0 : Int32)), .val (.ref a_DELETE), .unset, .unset] [(.int (3 : Int32)), (.ref b2), (.ref b2)])) rfl (hb hby at_54)
      refine own_go (T' := T9) (g' := (mkF m 57 #[.val (.int xf), .val (.int (0 : Int32)), .val (.int (0 : Int32)), .val (.ref a_DELETE), .unset, .unset] [(.ref a_REPLACE_AT_END), (.int (3 : Int32)), (.ref b2), (.ref b2)])) (fun _ k => st9 _ k) ?_
      obtain ⟨T10, h10, X10, e10, V10, W10, st10⟩ := own_aastore X9 hx hZ e9 Va8 (j := (3 : Int32)) (i := 3) rfl (by decide) (Nat.le_of_ble_eq_true rfl) rfl (own_A.sto Va8 Ov2 (Ins.self (E_REPLACE_AT_END.ext O8))) (g := (mkF m 57 #[.val (.int xf), .val (.int (0 : Int32)), .val (.int (0 : Int32)), .val (.ref a_DELETE), .unset, .unset] [(.ref a_REPLACE_AT_END), (.int (3 : Int32)), (.ref b2), (.ref b2)])) rfl rfl (hb hby at_57)
      have Va10 : own_A Z h10 b2 k2 (.object "com/example/restate/restate/model/WordEdit$Point") [(.ref a_DELETE), (.ref a_DELETE_AT_END), (.ref a_REPLACE), (.ref a_REPLACE_AT_END)] := V10
      have Z10 : n0 ≤ h10.size := Nat.le_trans Z8 (Keep.of_wr W10).1
      have O10 : Ext h0 h10 := own_ext_wr O8 W10 hz_b2
      have K10 : Keep h0 h10 [] := K8.wr W10 (Or.inr hz_b2)
      have N10 := Fr.snoc X10 N8 gz_b2
      refine own_go (T' := T10) (g' := (mkF m 58 #[.val (.int xf), .val (.int (0 : Int32)), .val (.int (0 : Int32)), .val (.ref a_DELETE), .unset, .unset] [(.ref b2)])) (fun _ k => st10 _ k) ?_
      refine own_go (T' := T10) (g' := (mkF m 60 #[.val (.int xf), .val (.int (0 : Int32)), .val (.int (0 : Int32)), .val (.ref a_DELETE), .val (.ref b2), .unset] [])) (fun _ k => XS.astore X10.here hx rfl (hb hby at_58) rfl rfl (l' := #[.val (.int xf), .val (.int (0 : Int32)), .val (.int (0 : Int32)), .val (.ref a_DELETE), .val (.ref b2), .unset]) rfl k) ?_
      refine own_go (T' := T10) (g' := (mkF m 61 #[.val (.int xf), .val (.int (0 : Int32)), .val (.int (0 : Int32)), .val (.ref a_DELETE), .val (.ref b2), .unset] [(.int (0 : Int32))])) (fun _ k => XS.iloadN X10.here hx rfl (hb hby at_60) rfl k) ?_
      refine own_go (T' := T10) (g' := (mkF m 68 #[.val (.int xf), .val (.int (0 : Int32)), .val (.int (0 : Int32)), .val (.ref a_DELETE), .val (.ref b2), .unset] [])) (fun _ k => XS.ifYes X10.here hx rfl (pc0 := 61) (pc' := 68) rfl (hb hby at_61) rfl ((if0 _ _).trans (teq ((by decide) : (0 : Int32) = (0 : Int32))).1) (by decide) (by decide) k) ?_
      refine own_go (T' := T10) (g' := (mkF m 69 #[.val (.int xf), .val (.int (0 : Int32)), .val (.int (0 : Int32)), .val (.ref a_DELETE), .val (.ref b2), .unset] [(.int (0 : Int32))])) (fun _ k => XS.iconst X10.here hx rfl (hb hby at_68) k) ?_
      refine own_go (T' := T10) (g' := (mkF m 70 #[.val (.int xf), .val (.int (0 : Int32)), .val (.int (0 : Int32)), .val (.ref a_DELETE), .val (.ref b2), .unset] [(.int (0 : Int32)), (.int (0 : Int32))])) (fun _ k => XS.iloadN X10.here hx rfl (hb hby at_69) rfl k) ?_
      refine own_go (T' := T10) (g' := (mkF m 77 #[.val (.int xf), .val (.int (0 : Int32)), .val (.int (0 : Int32)), .val (.ref a_DELETE), .val (.ref b2), .unset] [(.int (0 : Int32))])) (fun _ k => XS.ifYes X10.here hx rfl (pc0 := 70) (pc' := 77) rfl (hb hby at_70) rfl ((if0 _ _).trans (teq ((by decide) : (0 : Int32) = (0 : Int32))).1) (by decide) (by decide) k) ?_
      refine own_go (T' := T10) (g' := (mkF m 78 #[.val (.int xf), .val (.int (0 : Int32)), .val (.int (0 : Int32)), .val (.ref a_DELETE), .val (.ref b2), .unset] [(.int (0 : Int32)), (.int (0 : Int32))])) (fun _ k => XS.iconst X10.here hx rfl (hb hby at_77) k) ?_
      refine own_go (T' := T10) (g' := (mkF m 79 #[.val (.int xf), .val (.int (0 : Int32)), .val (.int (0 : Int32)), .val (.ref a_DELETE), .val (.ref b2), .unset] [(.int (0 : Int32))])) (fun _ k => XS.iadd X10.here hx rfl (hb hby at_78) rfl k) ?_
      refine own_go (T' := T10) (g' := (mkF m 81 #[.val (.int xf), .val (.int (0 : Int32)), .val (.int (0 : Int32)), .val (.ref a_DELETE), .val (.ref b2), .val (.int (0 : Int32))] [])) (fun _ k => XS.istore X10.here hx rfl (hb hby at_79) rfl (l' := #[.val (.int xf), .val (.int (0 : Int32)), .val (.int (0 : Int32)), .val (.ref a_DELETE), .val (.ref b2), .val (.int (0 : Int32))]) rfl k) ?_
      refine own_go (T' := T10) (g' := (mkF m 82 #[.val (.int xf), .val (.int (0 : Int32)), .val (.int (0 : Int32)), .val (.ref a_DELETE), .val (.ref b2), .val (.int (0 : Int32))] [(.ref a_DELETE)])) (fun _ k => XS.aloadN X10.here hx rfl (hb hby at_81) rfl rfl k) ?_
      refine own_go (T' := T10) (g' := (mkF m 84 #[.val (.int xf), .val (.int (0 : Int32)), .val (.int (0 : Int32)), .val (.ref a_DELETE), .val (.ref b2), .val (.int (0 : Int32))] [(.ref b2), (.ref a_DELETE)])) (fun _ k => XS.aload X10.here hx rfl (hb hby at_82) rfl rfl k) ?_
      refine own_go (T' := T10) (g' := (mkF m 86 #[.val (.int xf), .val (.int (0 : Int32)), .val (.int (0 : Int32)), .val (.ref a_DELETE), .val (.ref b2), .val (.int (0 : Int32))] [(.int (0 : Int32)), (.ref b2), (.ref a_DELETE)])) (fun _ k => XS.iload X10.here hx rfl (hb hby at_84) rfl k) ?_
      refine own_go (T' := T10) (g' := (mkF m 87 #[.val (.int xf), .val (.int (0 : Int32)), .val (.int (0 : Int32)), .val (.ref a_DELETE), .val (.ref b2), .val (.int (0 : Int32))] [(.ref a_DELETE), (.ref a_DELETE)])) (fun _ k => own_aaload X10 hx hZ e10 Va10 (j := (0 : Int32)) (v := (.ref a_DELETE)) (by decide) rfl rfl (g := (mkF m 86 #[.val (.int xf), .val (.int (0 : Int32)), .val (.int (0 : Int32)), .val (.ref a_DELETE), .val (.ref b2), .val (.int (0 : Int32))] [(.int (0 : Int32)), (.ref b2), (.ref a_DELETE)])) rfl rfl (hb hby at_86) k) ?_
      refine own_go (T' := T10) (g' := (mkF m 90 #[.val (.int xf), .val (.int (0 : Int32)), .val (.int (0 : Int32)), .val (.ref a_DELETE), .val (.ref b2), .val (.int (0 : Int32))] [])) (fun _ k => Jvm.RoadKit.acmp (g := (mkF m 87 #[.val (.int xf), .val (.int (0 : Int32)), .val (.int (0 : Int32)), .val (.ref a_DELETE), .val (.ref b2), .val (.int (0 : Int32))] [(.ref a_DELETE), (.ref a_DELETE)])) X10 hx rfl rfl rfl (pc0 := 87) (pc' := 90) (same := true) rfl (hb hby at_87) rfl (decide_eq_true rfl) (by decide) (by decide) k) ?_
      refine own_go (T' := T10) (g' := (mkF m 91 #[.val (.int xf), .val (.int (0 : Int32)), .val (.int (0 : Int32)), .val (.ref a_DELETE), .val (.ref b2), .val (.int (0 : Int32))] [(.int (1 : Int32))])) (fun _ k => XS.iconst X10.here hx rfl (hb hby at_90) k) ?_
      refine own_go (T' := T10) (g' := (mkF m 95 #[.val (.int xf), .val (.int (0 : Int32)), .val (.int (0 : Int32)), .val (.ref a_DELETE), .val (.ref b2), .val (.int (0 : Int32))] [(.int (1 : Int32))])) (fun _ k => XS.goto X10.here hx rfl (pc0 := 91) (pc' := 95) rfl (hb hby at_91) (by decide) (by decide) k) ?_
      obtain ⟨fs, hr, hrun, hended, hW, hsame⟩ := X10.leave (v := some (.int (1 : Int32))) (fun h => by rw [Bd.returns] at h; cases h)
      refine own_end (retN X10 hx (t := .boolean) Bd.returns (by simp) (hb hby at_95) hr) hrun hended ⟨_, _, rfl, (?_ : own_QL Z xf a_DELETE a_DELETE_AT_END a_REPLACE a_REPLACE_AT_END h0 n0 _ T10.heap _), ⟨_, rfl⟩, hW, hsame.mono (by decide) (by decide)⟩
      rw [e10]
      exact ⟨rfl, N10⟩
    · refine own_go (T' := s₁) (g' := (mkF m 18 #[.val (.int xf), .val (.int (0 : Int32)), .unset, .unset, .unset, .unset] [])) (fun _ k => XS.ifNo X0.here hx rfl (hb hby at_15) rfl ((if0 _ _).trans (feq (hc15 : ¬ ((xf &&& (2 : Int32)) = (0 : Int32)))).1) k) ?_
      refine own_go (T' := s₁) (g' := (mkF m 19 #[.val (.int xf), .val (.int (0 : Int32)), .unset, .unset, .unset, .unset] [(.int (1 : Int32))])) (fun _ k => XS.iconst X0.here hx rfl (hb hby at_18) k) ?_
      refine own_go (T' := s₁) (g' := (mkF m 23 #[.val (.int xf), .val (.int (0 : Int32)), .unset, .unset, .unset, .unset] [(.int (1 : Int32))])) (fun _ k => XS.goto X0.here hx rfl (pc0 := 19) (pc' := 23) rfl (hb hby at_19) (by decide) (by decide) k) ?_
      refine own_go (T' := s₁) (g' := (mkF m 24 #[.val (.int xf), .val (.int (0 : Int32)), .val (.int (1 : Int32)), .unset, .unset, .unset] [])) (fun _ k => XS.istoreN X0.here hx rfl (hb hby at_23) rfl (l' := #[.val (.int xf), .val (.int (0 : Int32)), .val (.int (1 : Int32)), .unset, .unset, .unset]) rfl k) ?_
      refine own_go (T' := s₁) (g' := (mkF m 25 #[.val (.int xf), .val (.int (0 : Int32)), .val (.int (1 : Int32)), .unset, .unset, .unset] [(.int (0 : Int32))])) (fun _ k => XS.iloadN X0.here hx rfl (hb hby at_24) rfl k) ?_
      refine own_go (T' := s₁) (g' := (mkF m 26 #[.val (.int xf), .val (.int (0 : Int32)), .val (.int (1 : Int32)), .unset, .unset, .unset] [(.int (1 : Int32)), (.int (0 : Int32))])) (fun _ k => XS.iloadN X0.here hx rfl (hb hby at_25) rfl k) ?_
      obtain ⟨_, _, ⟨T11, L11, k11, n11⟩, -, X11, ⟨Lc11, hQ11, l11, y11, z11⟩, st11⟩ := Jvm.LawKit.callS X0 hx (y := (⟨"com/example/restate/restate/model/WordEdit$Point", "removing", "(ZZ)Lcom/example/restate/restate/model/WordEdit$Point;"⟩ : MethodName)) hown (mvT hZ (hw _ (List.mem_of_getElem? (i := 0) rfl))) (mvT hZ (hw _ (List.mem_of_getElem? (i := 1) rfl))) (mvT hZ (hw _ (List.mem_of_getElem? (i := 2) rfl))) (mvT hZ (hw _ (List.mem_of_getElem? (i := 3) rfl))) (by decide) (backOf (W := 0) (own_rR01 l Z a0 hw [] a_DELETE_AT_END h0 n0 Z0 S_DELETE_AT_END) hZ (hw _ (List.mem_of_getElem? (i := 3) rfl)) (hw _ (List.mem_of_getElem? (i := 2) rfl)) (by decide) (by decide)) (g := (mkF m 26 #[.val (.int xf), .val (.int (0 : Int32)), .val (.int (1 : Int32)), .unset, .unset, .unset] [(.int (1 : Int32)), (.int (0 : Int32))])) rfl (by rw [hml]; rfl) (argsL := [(.int (0 : Int32)), (.int (1 : Int32))]) (rest := []) (lenOf own_pd0 rfl) rfl (by show 2 * 0 + _ ≤ _; exact Nat.le_of_eq rfl) (hb hby at_26) (fun _ _ => ⟨rfl, e0, (by decide : 0 + 0 ≤ _), (by decide : 0 + 0 ≤ _)⟩)
      dsimp only [Pt.U, Pt.locs, Pt.cells, Pt.slots] at X11 l11 y11 z11 st11 hQ11
      subst l11 y11 z11
      obtain ⟨rfl, N11q, e11⟩ := hQ11
      have N11 := Fr.app N0 N11q
      refine own_go (T' := T11) (g' := (mkF m 29 #[.val (.int xf), .val (.int (0 : Int32)), .val (.int (1 : Int32)), .unset, .unset, .unset] [(.ref a_DELETE_AT_END)])) (fun _ k => st11 _ k) ?_
      refine own_go (T' := T11) (g' := (mkF m 30 #[.val (.int xf), .val (.int (0 : Int32)), .val (.int (1 : Int32)), .val (.ref a_DELETE_AT_END), .unset, .unset] [])) (fun _ k => XS.astoreN X11.here hx rfl (hb hby at_29) rfl rfl (l' := #[.val (.int xf), .val (.int (0 : Int32)), .val (.int (1 : Int32)), .val (.ref a_DELETE_AT_END), .unset, .unset]) rfl k) ?_
      refine own_go (T' := T11) (g' := (mkF m 31 #[.val (.int xf), .val (.int (0 : Int32)), .val (.int (1 : Int32)), .val (.ref a_DELETE_AT_END), .unset, .unset] [(.int (4 : Int32))])) (fun _ k => XS.iconst X11.here hx rfl (hb hby at_30) k) ?_
      obtain ⟨T12, h12, k12, X12, e12, E12, A12, Ov12, st12⟩ := newR X11 hx hZ hown (hw _ (List.mem_of_getElem? (i := 6) rfl)) (hw _ (List.mem_of_getElem? (i := 7) rfl)) e11 (g := (mkF m 31 #[.val (.int xf), .val (.int (0 : Int32)), .val (.int (1 : Int32)), .val (.ref a_DELETE_AT_END), .unset, .unset] [(.int (4 : Int32))])) rfl (hb hby at_31) rfl (by decide) (cap := 4) (by decide) (by decide) (by decide) (by decide)
      obtain ⟨b12, g12⟩ : ∃ z, z = h0.size := ⟨_, rfl⟩
      rw [← g12] at A12 st12
      have gz_b12 : n0 ≤ b12 := Nat.le_trans Z0 (Nat.le_of_eq g12.symm)
      have hz_b12 : h0.size ≤ b12 := Nat.le_trans (Keep.refl h0 []).1 (Nat.le_of_eq g12.symm)
      have Z12 : n0 ≤ h12.size := Nat.le_trans Z0 E12.1
      have O12 : Ext h0 h12 := own_ext_tr (own_ext_rf h0) E12
      have K12 : Keep h0 h12 [] := (Keep.refl h0 []).ext E12
      have V12 : own_A Z h12 b12 k12 (.object "com/example/restate/restate/model/WordEdit$Point") [.null, .null, .null, .null] := own_A.new A12 (N := 4) rfl
      refine own_go (T' := T12) (g' := (mkF m 34 #[.val (.int xf), .val (.int (0 : Int32)), .val (.int (1 : Int32)), .val (.ref a_DELETE_AT_END), .unset, .unset] [(.ref b12)])) (fun _ k => st12 _ k) ?_
      refine own_go (T' := T12) (g' := (mkF m 35 #[.val (.int xf), .val (.int (0 : Int32)), .val (.int (1 : Int32)), .val (.ref a_DELETE_AT_END), .unset, .unset] [(.ref b12), (.ref b12)])) (fun _ k => XS.dup X12.here hx rfl (hb hby at_34) rfl rfl k) ?_
      refine own_go (T' := T12) (g' := (mkF m 36 #[.val (.int xf), .val (.int (0 : Int32)), .val (.int (1 : Int32)), .val (.ref a_DELETE_AT_END), .unset, .unset] [(.int (0 : Int32)), (.ref b12), (.ref b12)])) (fun _ k => XS.iconst X12.here hx rfl (hb hby at_35) k) ?_
      obtain ⟨T13, X13, e13, st13⟩ := getS X12 hx hZ (host := "") hown (hw _ (List.mem_of_getElem? (i := 8) rfl)) Via.refl e12 (S_DELETE.ext O12) (g := (mkF m 36 #[.val (.int xf), .val (.int (0 : Int32)), .val (.int (1 : Int32)), .val (.ref a_DELETE_AT_END), .unset, .unset] [(.int (0 : Int32)), (.ref b12), (.ref b12)])) rfl (hb hby at_36)
      refine own_go (T' := T13) (g' := (mkF m 39 #[.val (.int xf), .val (.int (0 : Int32)), .val (.int (1 : Int32)), .val (.ref a_DELETE_AT_END), .unset, .unset] [(.ref a_DELETE), (.int (0 : Int32)), (.ref b12), (.ref b12)])) (fun _ k => st13 _ k) ?_
      obtain ⟨T14, h14, X14, e14, V14, W14, st14⟩ := own_aastore X13 hx hZ e13 V12 (j := (0 : Int32)) (i := 0) rfl (by decide) (Nat.le_of_ble_eq_true rfl) rfl (own_A.sto V12 Ov12 (Ins.self (E_DELETE.ext O12))) (g := (mkF m 39 #[.val (.int xf), .val (.int (0 : Int32)), .val (.int (1 : Int32)), .val (.ref a_DELETE_AT_END), .unset, .unset] [(.ref a_DELETE), (.int (0 : Int32)), (.ref b12), (.ref b12)])) rfl rfl (hb hby at_39)
      have Va14 : own_A Z h14 b12 k12 (.object "com/example/restate/restate/model/WordEdit$Point") [(.ref a_DELETE), .null, .null, .null] := V14
      have Z14 : n0 ≤ h14.size := Nat.le_trans Z12 (Keep.of_wr W14).1
      have O14 : Ext h0 h14 := own_ext_wr O12 W14 hz_b12
      have K14 : Keep h0 h14 [] := K12.wr W14 (Or.inr hz_b12)
      have N14 := Fr.snoc X14 N11 gz_b12
      refine own_go (T' := T14) (g' := (mkF m 40 #[.val (.int xf), .val (.int (0 : Int32)), .val (.int (1 : Int32)), .val (.ref a_DELETE_AT_END), .unset, .unset] [(.ref b12)])) (fun _ k => st14 _ k) ?_
      refine own_go (T' := T14) (g' := (mkF m 41 #[.val (.int xf), .val (.int (0 : Int32)), .val (.int (1 : Int32)), .val (.ref a_DELETE_AT_END), .unset, .unset] [(.ref b12), (.ref b12)])) (fun _ k => XS.dup X14.here hx rfl (hb hby at_40) rfl rfl k) ?_
      refine own_go (T' := T14) (g' := (mkF m 42 #[.val (.int xf), .val (.int (0 : Int32)), .val (.int (1 : Int32)), .val (.ref a_DELETE_AT_END), .unset, .unset] [(.int (1 : Int32)), (.ref b12), (.ref b12)])) (fun _ k => XS.iconst X14.here hx rfl (hb hby at_41) k) ?_
      obtain ⟨T15, X15, e15, st15⟩ := getS X14 hx hZ (host := "") hown (hw _ (List.mem_of_getElem? (i := 10) rfl)) Via.refl e14 (S_DELETE_AT_END.ext O14) (g := (mkF m 42 #[.val (.int xf), .val (.int (0 : Int32)), .val (.int (1 : Int32)), .val (.ref a_DELETE_AT_END), .unset, .unset] [(.int (1 : Int32)), (.ref b12), (.ref b12)])) rfl (hb hby at_42)
      refine own_go (T' := T15) (g' := (mkF m 45 #[.val (.int xf), .val (.int (0 : Int32)), .val (.int (1 : Int32)), .val (.ref a_DELETE_AT_END), .unset, .unset] [(.ref a_DELETE_AT_END), (.int (1 : Int32)), (.ref b12), (.ref b12)])) (fun _ k => st15 _ k) ?_
      obtain ⟨T16, h16, X16, e16, V16, W16, st16⟩ := own_aastore X15 hx hZ e15 Va14 (j := (1 : Int32)) (i := 1) rfl (by decide) (Nat.le_of_ble_eq_true rfl) rfl (own_A.sto Va14 Ov12 (Ins.self (E_DELETE_AT_END.ext O14))) (g := (mkF m 45 #[.val (.int xf), .val (.int (0 : Int32)), .val (.int (1 : Int32)), .val (.ref a_DELETE_AT_END), .unset, .unset] [(.ref a_DELETE_AT_END), (.int (1 : Int32)), (.ref b12), (.ref b12)])) rfl rfl (hb hby at_45)
      have Va16 : own_A Z h16 b12 k12 (.object "com/example/restate/restate/model/WordEdit$Point") [(.ref a_DELETE), (.ref a_DELETE_AT_END), .null, .null] := V16
      have Z16 : n0 ≤ h16.size := Nat.le_trans Z14 (Keep.of_wr W16).1
      have O16 : Ext h0 h16 := own_ext_wr O14 W16 hz_b12
      have K16 : Keep h0 h16 [] := K14.wr W16 (Or.inr hz_b12)
      have N16 := Fr.snoc X16 N14 gz_b12
      refine own_go (T' := T16) (g' := (mkF m 46 #[.val (.int xf), .val (.int (0 : Int32)), .val (.int (1 : Int32)), .val (.ref a_DELETE_AT_END), .unset, .unset] [(.ref b12)])) (fun _ k => st16 _ k) ?_
      refine own_go (T' := T16) (g' := (mkF m 47 #[.val (.int xf), .val (.int (0 : Int32)), .val (.int (1 : Int32)), .val (.ref a_DELETE_AT_END), .unset, .unset] [(.ref b12), (.ref b12)])) (fun _ k => XS.dup X16.here hx rfl (hb hby at_46) rfl rfl k) ?_
      refine own_go (T' := T16) (g' := (mkF m 48 #[.val (.int xf), .val (.int (0 : Int32)), .val (.int (1 : Int32)), .val (.ref a_DELETE_AT_END), .unset, .unset] [(.int (2 : Int32)), (.ref b12), (.ref b12)])) (fun _ k => XS.iconst X16.here hx rfl (hb hby at_47) k) ?_
      obtain ⟨T17, X17, e17, st17⟩ := getS X16 hx hZ (host := "") hown (hw _ (List.mem_of_getElem? (i := 12) rfl)) Via.refl e16 (S_REPLACE.ext O16) (g := (mkF m 48 #[.val (.int xf), .val (.int (0 : Int32)), .val (.int (1 : Int32)), .val (.ref a_DELETE_AT_END), .unset, .unset] [(.int (2 : Int32)), (.ref b12), (.ref b12)])) rfl (hb hby at_48)
      refine own_go (T' := T17) (g' := (mkF m 51 #[.val (.int xf), .val (.int (0 : Int32)), .val (.int (1 : Int32)), .val (.ref a_DELETE_AT_END), .unset, .unset] [(.ref a_REPLACE), (.int (2 : Int32)), (.ref b12), (.ref b12)])) (fun _ k => st17 _ k) ?_
      obtain ⟨T18, h18, X18, e18, V18, W18, st18⟩ := own_aastore X17 hx hZ e17 Va16 (j := (2 : Int32)) (i := 2) rfl (by decide) (Nat.le_of_ble_eq_true rfl) rfl (own_A.sto Va16 Ov12 (Ins.self (E_REPLACE.ext O16))) (g := (mkF m 51 #[.val (.int xf), .val (.int (0 : Int32)), .val (.int (1 : Int32)), .val (.ref a_DELETE_AT_END), .unset, .unset] [(.ref a_REPLACE), (.int (2 : Int32)), (.ref b12), (.ref b12)])) rfl rfl (hb hby at_51)
      have Va18 : own_A Z h18 b12 k12 (.object "com/example/restate/restate/model/WordEdit$Point") [(.ref a_DELETE), (.ref a_DELETE_AT_END), (.ref a_REPLACE), .null] := V18
      have Z18 : n0 ≤ h18.size := Nat.le_trans Z16 (Keep.of_wr W18).1
      have O18 : Ext h0 h18 := own_ext_wr O16 W18 hz_b12
      have K18 : Keep h0 h18 [] := K16.wr W18 (Or.inr hz_b12)
      have N18 := Fr.snoc X18 N16 gz_b12
      refine own_go (T' := T18) (g' := (mkF m 52 #[.val (.int xf), .val (.int (0 : Int32)), .val (.int (1 : Int32)), .val (.ref a_DELETE_AT_END), .unset, .unset] [(.ref b12)])) (fun _ k => st18 _ k) ?_
      refine own_go (T' := T18) (g' := (mkF m 53 #[.val (.int xf), .val (.int (0 : Int32)), .val (.int (1 : Int32)), .val (.ref a_DELETE_AT_END), .unset, .unset] [(.ref b12), (.ref b12)])) (fun _ k => XS.dup X18.here hx rfl (hb hby at_52) rfl rfl k) ?_
      refine own_go (T' := T18) (g' := (mkF m 54 #[.val (.int xf), .val (.int (0 : Int32)), .val (.int (1 : Int32)), .val (.ref a_DELETE_AT_END), .unset, .unset] [(.int (3 : Int32)), (.ref b12), (.ref b12)])) (fun _ k => XS.iconst X18.here hx rfl (hb hby at_53) k) ?_
      obtain ⟨T19, X19, e19, st19⟩ := getS X18 hx hZ (host := "") hown (hw _ (List.mem_of_getElem? (i := 14) rfl)) Via.refl e18 (S_REPLACE_AT_END.ext O18) (g := (mkF m 54 #[.val (.int xf), .val (.int (0 : Int32)), .val (.int (1 : Int32)), .val (.ref a_DELETE_AT_END), .unset, .unset] [(.int (3 : Int32)), (.ref b12), (.ref b12)])) rfl (hb hby at_54)
      refine own_go (T' := T19) (g' := (mkF m 57 #[.val (.int xf), .val (.int (0 : Int32)), .val (.int (1 : Int32)), .val (.ref a_DELETE_AT_END), .unset, .unset] [(.ref a_REPLACE_AT_END), (.int (3 : Int32)), (.ref b12), (.ref b12)])) (fun _ k => st19 _ k) ?_
      obtain ⟨T20, h20, X20, e20, V20, W20, st20⟩ := own_aastore X19 hx hZ e19 Va18 (j := (3 : Int32)) (i := 3) rfl (by decide) (Nat.le_of_ble_eq_true rfl) rfl (own_A.sto Va18 Ov12 (Ins.self (E_REPLACE_AT_END.ext O18))) (g := (mkF m 57 #[.val (.int xf), .val (.int (0 : Int32)), .val (.int (1 : Int32)), .val (.ref a_DELETE_AT_END), .unset, .unset] [(.ref a_REPLACE_AT_END), (.int (3 : Int32)), (.ref b12), (.ref b12)])) rfl rfl (hb hby at_57)
      have Va20 : own_A Z h20 b12 k12 (.object "com/example/restate/restate/model/WordEdit$Point") [(.ref a_DELETE), (.ref a_DELETE_AT_END), (.ref a_REPLACE), (.ref a_REPLACE_AT_END)] := V20
      have Z20 : n0 ≤ h20.size := Nat.le_trans Z18 (Keep.of_wr W20).1
      have O20 : Ext h0 h20 := own_ext_wr O18 W20 hz_b12
      have K20 : Keep h0 h20 [] := K18.wr W20 (Or.inr hz_b12)
      have N20 := Fr.snoc X20 N18 gz_b12
      refine own_go (T' := T20) (g' := (mkF m 58 #[.val (.int xf), .val (.int (0 : Int32)), .val (.int (1 : Int32)), .val (.ref a_DELETE_AT_END), .unset, .unset] [(.ref b12)])) (fun _ k => st20 _ k) ?_
      refine own_go (T' := T20) (g' := (mkF m 60 #[.val (.int xf), .val (.int (0 : Int32)), .val (.int (1 : Int32)), .val (.ref a_DELETE_AT_END), .val (.ref b12), .unset] [])) (fun _ k => XS.astore X20.here hx rfl (hb hby at_58) rfl rfl (l' := #[.val (.int xf), .val (.int (0 : Int32)), .val (.int (1 : Int32)), .val (.ref a_DELETE_AT_END), .val (.ref b12), .unset]) rfl k) ?_
      refine own_go (T' := T20) (g' := (mkF m 61 #[.val (.int xf), .val (.int (0 : Int32)), .val (.int (1 : Int32)), .val (.ref a_DELETE_AT_END), .val (.ref b12), .unset] [(.int (0 : Int32))])) (fun _ k => XS.iloadN X20.here hx rfl (hb hby at_60) rfl k) ?_
      refine own_go (T' := T20) (g' := (mkF m 68 #[.val (.int xf), .val (.int (0 : Int32)), .val (.int (1 : Int32)), .val (.ref a_DELETE_AT_END), .val (.ref b12), .unset] [])) (fun _ k => XS.ifYes X20.here hx rfl (pc0 := 61) (pc' := 68) rfl (hb hby at_61) rfl ((if0 _ _).trans (teq ((by decide) : (0 : Int32) = (0 : Int32))).1) (by decide) (by decide) k) ?_
      refine own_go (T' := T20) (g' := (mkF m 69 #[.val (.int xf), .val (.int (0 : Int32)), .val (.int (1 : Int32)), .val (.ref a_DELETE_AT_END), .val (.ref b12), .unset] [(.int (0 : Int32))])) (fun _ k => XS.iconst X20.here hx rfl (hb hby at_68) k) ?_
      refine own_go (T' := T20) (g' := (mkF m 70 #[.val (.int xf), .val (.int (0 : Int32)), .val (.int (1 : Int32)), .val (.ref a_DELETE_AT_END), .val (.ref b12), .unset] [(.int (1 : Int32)), (.int (0 : Int32))])) (fun _ k => XS.iloadN X20.here hx rfl (hb hby at_69) rfl k) ?_
      refine own_go (T' := T20) (g' := (mkF m 73 #[.val (.int xf), .val (.int (0 : Int32)), .val (.int (1 : Int32)), .val (.ref a_DELETE_AT_END), .val (.ref b12), .unset] [(.int (0 : Int32))])) (fun _ k => XS.ifNo X20.here hx rfl (hb hby at_70) rfl ((if0 _ _).trans (feq ((by decide) : ¬ ((1 : Int32) = (0 : Int32)))).1) k) ?_
      refine own_go (T' := T20) (g' := (mkF m 74 #[.val (.int xf), .val (.int (0 : Int32)), .val (.int (1 : Int32)), .val (.ref a_DELETE_AT_END), .val (.ref b12), .unset] [(.int (1 : Int32)), (.int (0 : Int32))])) (fun _ k => XS.iconst X20.here hx rfl (hb hby at_73) k) ?_
      refine own_go (T' := T20) (g' := (mkF m 78 #[.val (.int xf), .val (.int (0 : Int32)), .val (.int (1 : Int32)), .val (.ref a_DELETE_AT_END), .val (.ref b12), .unset] [(.int (1 : Int32)), (.int (0 : Int32))])) (fun _ k => XS.goto X20.here hx rfl (pc0 := 74) (pc' := 78) rfl (hb hby at_74) (by decide) (by decide) k) ?_
      refine own_go (T' := T20) (g' := (mkF m 79 #[.val (.int xf), .val (.int (0 : Int32)), .val (.int (1 : Int32)), .val (.ref a_DELETE_AT_END), .val (.ref b12), .unset] [(.int (1 : Int32))])) (fun _ k => XS.iadd X20.here hx rfl (hb hby at_78) rfl k) ?_
      refine own_go (T' := T20) (g' := (mkF m 81 #[.val (.int xf), .val (.int (0 : Int32)), .val (.int (1 : Int32)), .val (.ref a_DELETE_AT_END), .val (.ref b12), .val (.int (1 : Int32))] [])) (fun _ k => XS.istore X20.here hx rfl (hb hby at_79) rfl (l' := #[.val (.int xf), .val (.int (0 : Int32)), .val (.int (1 : Int32)), .val (.ref a_DELETE_AT_END), .val (.ref b12), .val (.int (1 : Int32))]) rfl k) ?_
      refine own_go (T' := T20) (g' := (mkF m 82 #[.val (.int xf), .val (.int (0 : Int32)), .val (.int (1 : Int32)), .val (.ref a_DELETE_AT_END), .val (.ref b12), .val (.int (1 : Int32))] [(.ref a_DELETE_AT_END)])) (fun _ k => XS.aloadN X20.here hx rfl (hb hby at_81) rfl rfl k) ?_
      refine own_go (T' := T20) (g' := (mkF m 84 #[.val (.int xf), .val (.int (0 : Int32)), .val (.int (1 : Int32)), .val (.ref a_DELETE_AT_END), .val (.ref b12), .val (.int (1 : Int32))] [(.ref b12), (.ref a_DELETE_AT_END)])) (fun _ k => XS.aload X20.here hx rfl (hb hby at_82) rfl rfl k) ?_
      refine own_go (T' := T20) (g' := (mkF m 86 #[.val (.int xf), .val (.int (0 : Int32)), .val (.int (1 : Int32)), .val (.ref a_DELETE_AT_END), .val (.ref b12), .val (.int (1 : Int32))] [(.int (1 : Int32)), (.ref b12), (.ref a_DELETE_AT_END)])) (fun _ k => XS.iload X20.here hx rfl (hb hby at_84) rfl k) ?_
      refine own_go (T' := T20) (g' := (mkF m 87 #[.val (.int xf), .val (.int (0 : Int32)), .val (.int (1 : Int32)), .val (.ref a_DELETE_AT_END), .val (.ref b12), .val (.int (1 : Int32))] [(.ref a_DELETE_AT_END), (.ref a_DELETE_AT_END)])) (fun _ k => own_aaload X20 hx hZ e20 Va20 (j := (1 : Int32)) (v := (.ref a_DELETE_AT_END)) (by decide) rfl rfl (g := (mkF m 86 #[.val (.int xf), .val (.int (0 : Int32)), .val (.int (1 : Int32)), .val (.ref a_DELETE_AT_END), .val (.ref b12), .val (.int (1 : Int32))] [(.int (1 : Int32)), (.ref b12), (.ref a_DELETE_AT_END)])) rfl rfl (hb hby at_86) k) ?_
      refine own_go (T' := T20) (g' := (mkF m 90 #[.val (.int xf), .val (.int (0 : Int32)), .val (.int (1 : Int32)), .val (.ref a_DELETE_AT_END), .val (.ref b12), .val (.int (1 : Int32))] [])) (fun _ k => Jvm.RoadKit.acmp (g := (mkF m 87 #[.val (.int xf), .val (.int (0 : Int32)), .val (.int (1 : Int32)), .val (.ref a_DELETE_AT_END), .val (.ref b12), .val (.int (1 : Int32))] [(.ref a_DELETE_AT_END), (.ref a_DELETE_AT_END)])) X20 hx rfl rfl rfl (pc0 := 87) (pc' := 90) (same := true) rfl (hb hby at_87) rfl (decide_eq_true rfl) (by decide) (by decide) k) ?_
      refine own_go (T' := T20) (g' := (mkF m 91 #[.val (.int xf), .val (.int (0 : Int32)), .val (.int (1 : Int32)), .val (.ref a_DELETE_AT_END), .val (.ref b12), .val (.int (1 : Int32))] [(.int (1 : Int32))])) (fun _ k => XS.iconst X20.here hx rfl (hb hby at_90) k) ?_
      refine own_go (T' := T20) (g' := (mkF m 95 #[.val (.int xf), .val (.int (0 : Int32)), .val (.int (1 : Int32)), .val (.ref a_DELETE_AT_END), .val (.ref b12), .val (.int (1 : Int32))] [(.int (1 : Int32))])) (fun _ k => XS.goto X20.here hx rfl (pc0 := 91) (pc' := 95) rfl (hb hby at_91) (by decide) (by decide) k) ?_
      obtain ⟨fs, hr, hrun, hended, hW, hsame⟩ := X20.leave (v := some (.int (1 : Int32))) (fun h => by rw [Bd.returns] at h; cases h)
      refine own_end (retN X20 hx (t := .boolean) Bd.returns (by simp) (hb hby at_95) hr) hrun hended ⟨_, _, rfl, (?_ : own_QL Z xf a_DELETE a_DELETE_AT_END a_REPLACE a_REPLACE_AT_END h0 n0 _ T20.heap _), ⟨_, rfl⟩, hW, hsame.mono (by decide) (by decide)⟩
      rw [e20]
      exact ⟨rfl, N20⟩
  · refine own_go (T' := s₁) (g' := (mkF m 6 #[.val (.int xf), .unset, .unset, .unset, .unset, .unset] [])) (fun _ k => XS.ifNo X0.here hx rfl (hb hby at_3) rfl ((if0 _ _).trans (feq (hc3 : ¬ ((xf &&& (1 : Int32)) = (0 : Int32)))).1) k) ?_
    refine own_go (T' := s₁) (g' := (mkF m 7 #[.val (.int xf), .unset, .unset, .unset, .unset, .unset] [(.int (1 : Int32))])) (fun _ k => XS.iconst X0.here hx rfl (hb hby at_6) k) ?_
    refine own_go (T' := s₁) (g' := (mkF m 11 #[.val (.int xf), .unset, .unset, .unset, .unset, .unset] [(.int (1 : Int32))])) (fun _ k => XS.goto X0.here hx rfl (pc0 := 7) (pc' := 11) rfl (hb hby at_7) (by decide) (by decide) k) ?_
    refine own_go (T' := s₁) (g' := (mkF m 12 #[.val (.int xf), .val (.int (1 : Int32)), .unset, .unset, .unset, .unset] [])) (fun _ k => XS.istoreN X0.here hx rfl (hb hby at_11) rfl (l' := #[.val (.int xf), .val (.int (1 : Int32)), .unset, .unset, .unset, .unset]) rfl k) ?_
    refine own_go (T' := s₁) (g' := (mkF m 13 #[.val (.int xf), .val (.int (1 : Int32)), .unset, .unset, .unset, .unset] [(.int xf)])) (fun _ k => XS.iloadN X0.here hx rfl (hb hby at_12) rfl k) ?_
    refine own_go (T' := s₁) (g' := (mkF m 14 #[.val (.int xf), .val (.int (1 : Int32)), .unset, .unset, .unset, .unset] [(.int (2 : Int32)), (.int xf)])) (fun _ k => XS.iconst X0.here hx rfl (hb hby at_13) k) ?_
    refine own_go (T' := s₁) (g' := (mkF m 15 #[.val (.int xf), .val (.int (1 : Int32)), .unset, .unset, .unset, .unset] [(.int (xf &&& (2 : Int32)))])) (fun _ k => XS.iand X0.here hx rfl (hb hby at_14) rfl k) ?_
    by_cases hc15 : (xf &&& (2 : Int32)) = (0 : Int32)
    · refine own_go (T' := s₁) (g' := (mkF m 22 #[.val (.int xf), .val (.int (1 : Int32)), .unset, .unset, .unset, .unset] [])) (fun _ k => XS.ifYes X0.here hx rfl (pc0 := 15) (pc' := 22) rfl (hb hby at_15) rfl ((if0 _ _).trans (teq (hc15 : (xf &&& (2 : Int32)) = (0 : Int32))).1) (by decide) (by decide) k) ?_
      refine own_go (T' := s₁) (g' := (mkF m 23 #[.val (.int xf), .val (.int (1 : Int32)), .unset, .unset, .unset, .unset] [(.int (0 : Int32))])) (fun _ k => XS.iconst X0.here hx rfl (hb hby at_22) k) ?_
      refine own_go (T' := s₁) (g' := (mkF m 24 #[.val (.int xf), .val (.int (1 : Int32)), .val (.int (0 : Int32)), .unset, .unset, .unset] [])) (fun _ k => XS.istoreN X0.here hx rfl (hb hby at_23) rfl (l' := #[.val (.int xf), .val (.int (1 : Int32)), .val (.int (0 : Int32)), .unset, .unset, .unset]) rfl k) ?_
      refine own_go (T' := s₁) (g' := (mkF m 25 #[.val (.int xf), .val (.int (1 : Int32)), .val (.int (0 : Int32)), .unset, .unset, .unset] [(.int (1 : Int32))])) (fun _ k => XS.iloadN X0.here hx rfl (hb hby at_24) rfl k) ?_
      refine own_go (T' := s₁) (g' := (mkF m 26 #[.val (.int xf), .val (.int (1 : Int32)), .val (.int (0 : Int32)), .unset, .unset, .unset] [(.int (0 : Int32)), (.int (1 : Int32))])) (fun _ k => XS.iloadN X0.here hx rfl (hb hby at_25) rfl k) ?_
      obtain ⟨_, _, ⟨T21, L21, k21, n21⟩, -, X21, ⟨Lc21, hQ21, l21, y21, z21⟩, st21⟩ := Jvm.LawKit.callS X0 hx (y := (⟨"com/example/restate/restate/model/WordEdit$Point", "removing", "(ZZ)Lcom/example/restate/restate/model/WordEdit$Point;"⟩ : MethodName)) hown (mvT hZ (hw _ (List.mem_of_getElem? (i := 0) rfl))) (mvT hZ (hw _ (List.mem_of_getElem? (i := 1) rfl))) (mvT hZ (hw _ (List.mem_of_getElem? (i := 2) rfl))) (mvT hZ (hw _ (List.mem_of_getElem? (i := 3) rfl))) (by decide) (backOf (W := 0) (own_rR10 l Z a0 hw [] a_REPLACE h0 n0 Z0 S_REPLACE) hZ (hw _ (List.mem_of_getElem? (i := 3) rfl)) (hw _ (List.mem_of_getElem? (i := 2) rfl)) (by decide) (by decide)) (g := (mkF m 26 #[.val (.int xf), .val (.int (1 : Int32)), .val (.int (0 : Int32)), .unset, .unset, .unset] [(.int (0 : Int32)), (.int (1 : Int32))])) rfl (by rw [hml]; rfl) (argsL := [(.int (1 : Int32)), (.int (0 : Int32))]) (rest := []) (lenOf own_pd0 rfl) rfl (by show 2 * 0 + _ ≤ _; exact Nat.le_of_eq rfl) (hb hby at_26) (fun _ _ => ⟨rfl, e0, (by decide : 0 + 0 ≤ _), (by decide : 0 + 0 ≤ _)⟩)
      dsimp only [Pt.U, Pt.locs, Pt.cells, Pt.slots] at X21 l21 y21 z21 st21 hQ21
      subst l21 y21 z21
      obtain ⟨rfl, N21q, e21⟩ := hQ21
      have N21 := Fr.app N0 N21q
      refine own_go (T' := T21) (g' := (mkF m 29 #[.val (.int xf), .val (.int (1 : Int32)), .val (.int (0 : Int32)), .unset, .unset, .unset] [(.ref a_REPLACE)])) (fun _ k => st21 _ k) ?_
      refine own_go (T' := T21) (g' := (mkF m 30 #[.val (.int xf), .val (.int (1 : Int32)), .val (.int (0 : Int32)), .val (.ref a_REPLACE), .unset, .unset] [])) (fun _ k => XS.astoreN X21.here hx rfl (hb hby at_29) rfl rfl (l' := #[.val (.int xf), .val (.int (1 : Int32)), .val (.int (0 : Int32)), .val (.ref a_REPLACE), .unset, .unset]) rfl k) ?_
      refine own_go (T' := T21) (g' := (mkF m 31 #[.val (.int xf), .val (.int (1 : Int32)), .val (.int (0 : Int32)), .val (.ref a_REPLACE), .unset, .unset] [(.int (4 : Int32))])) (fun _ k => XS.iconst X21.here hx rfl (hb hby at_30) k) ?_
      obtain ⟨T22, h22, k22, X22, e22, E22, A22, Ov22, st22⟩ := newR X21 hx hZ hown (hw _ (List.mem_of_getElem? (i := 6) rfl)) (hw _ (List.mem_of_getElem? (i := 7) rfl)) e21 (g := (mkF m 31 #[.val (.int xf), .val (.int (1 : Int32)), .val (.int (0 : Int32)), .val (.ref a_REPLACE), .unset, .unset] [(.int (4 : Int32))])) rfl (hb hby at_31) rfl (by decide) (cap := 4) (by decide) (by decide) (by decide) (by decide)
      obtain ⟨b22, g22⟩ : ∃ z, z = h0.size := ⟨_, rfl⟩
      rw [← g22] at A22 st22
      have gz_b22 : n0 ≤ b22 := Nat.le_trans Z0 (Nat.le_of_eq g22.symm)
      have hz_b22 : h0.size ≤ b22 := Nat.le_trans (Keep.refl h0 []).1 (Nat.le_of_eq g22.symm)
      have Z22 : n0 ≤ h22.size := Nat.le_trans Z0 E22.1
      have O22 : Ext h0 h22 := own_ext_tr (own_ext_rf h0) E22
      have K22 : Keep h0 h22 [] := (Keep.refl h0 []).ext E22
      have V22 : own_A Z h22 b22 k22 (.object "com/example/restate/restate/model/WordEdit$Point") [.null, .null, .null, .null] := own_A.new A22 (N := 4) rfl
      refine own_go (T' := T22) (g' := (mkF m 34 #[.val (.int xf), .val (.int (1 : Int32)), .val (.int (0 : Int32)), .val (.ref a_REPLACE), .unset, .unset] [(.ref b22)])) (fun _ k => st22 _ k) ?_
      refine own_go (T' := T22) (g' := (mkF m 35 #[.val (.int xf), .val (.int (1 : Int32)), .val (.int (0 : Int32)), .val (.ref a_REPLACE), .unset, .unset] [(.ref b22), (.ref b22)])) (fun _ k => XS.dup X22.here hx rfl (hb hby at_34) rfl rfl k) ?_
      refine own_go (T' := T22) (g' := (mkF m 36 #[.val (.int xf), .val (.int (1 : Int32)), .val (.int (0 : Int32)), .val (.ref a_REPLACE), .unset, .unset] [(.int (0 : Int32)), (.ref b22), (.ref b22)])) (fun _ k => XS.iconst X22.here hx rfl (hb hby at_35) k) ?_
      obtain ⟨T23, X23, e23, st23⟩ := getS X22 hx hZ (host := "") hown (hw _ (List.mem_of_getElem? (i := 8) rfl)) Via.refl e22 (S_DELETE.ext O22) (g := (mkF m 36 #[.val (.int xf), .val (.int (1 : Int32)), .val (.int (0 : Int32)), .val (.ref a_REPLACE), .unset, .unset] [(.int (0 : Int32)), (.ref b22), (.ref b22)])) rfl (hb hby at_36)
      refine own_go (T' := T23) (g' := (mkF m 39 #[.val (.int xf), .val (.int (1 : Int32)), .val (.int (0 : Int32)), .val (.ref a_REPLACE), .unset, .unset] [(.ref a_DELETE), (.int (0 : Int32)), (.ref b22), (.ref b22)])) (fun _ k => st23 _ k) ?_
      obtain ⟨T24, h24, X24, e24, V24, W24, st24⟩ := own_aastore X23 hx hZ e23 V22 (j := (0 : Int32)) (i := 0) rfl (by decide) (Nat.le_of_ble_eq_true rfl) rfl (own_A.sto V22 Ov22 (Ins.self (E_DELETE.ext O22))) (g := (mkF m 39 #[.val (.int xf), .val (.int (1 : Int32)), .val (.int (0 : Int32)), .val (.ref a_REPLACE), .unset, .unset] [(.ref a_DELETE), (.int (0 : Int32)), (.ref b22), (.ref b22)])) rfl rfl (hb hby at_39)
      have Va24 : own_A Z h24 b22 k22 (.object "com/example/restate/restate/model/WordEdit$Point") [(.ref a_DELETE), .null, .null, .null] := V24
      have Z24 : n0 ≤ h24.size := Nat.le_trans Z22 (Keep.of_wr W24).1
      have O24 : Ext h0 h24 := own_ext_wr O22 W24 hz_b22
      have K24 : Keep h0 h24 [] := K22.wr W24 (Or.inr hz_b22)
      have N24 := Fr.snoc X24 N21 gz_b22
      refine own_go (T' := T24) (g' := (mkF m 40 #[.val (.int xf), .val (.int (1 : Int32)), .val (.int (0 : Int32)), .val (.ref a_REPLACE), .unset, .unset] [(.ref b22)])) (fun _ k => st24 _ k) ?_
      refine own_go (T' := T24) (g' := (mkF m 41 #[.val (.int xf), .val (.int (1 : Int32)), .val (.int (0 : Int32)), .val (.ref a_REPLACE), .unset, .unset] [(.ref b22), (.ref b22)])) (fun _ k => XS.dup X24.here hx rfl (hb hby at_40) rfl rfl k) ?_
      refine own_go (T' := T24) (g' := (mkF m 42 #[.val (.int xf), .val (.int (1 : Int32)), .val (.int (0 : Int32)), .val (.ref a_REPLACE), .unset, .unset] [(.int (1 : Int32)), (.ref b22), (.ref b22)])) (fun _ k => XS.iconst X24.here hx rfl (hb hby at_41) k) ?_
      obtain ⟨T25, X25, e25, st25⟩ := getS X24 hx hZ (host := "") hown (hw _ (List.mem_of_getElem? (i := 10) rfl)) Via.refl e24 (S_DELETE_AT_END.ext O24) (g := (mkF m 42 #[.val (.int xf), .val (.int (1 : Int32)), .val (.int (0 : Int32)), .val (.ref a_REPLACE), .unset, .unset] [(.int (1 : Int32)), (.ref b22), (.ref b22)])) rfl (hb hby at_42)
      refine own_go (T' := T25) (g' := (mkF m 45 #[.val (.int xf), .val (.int (1 : Int32)), .val (.int (0 : Int32)), .val (.ref a_REPLACE), .unset, .unset] [(.ref a_DELETE_AT_END), (.int (1 : Int32)), (.ref b22), (.ref b22)])) (fun _ k => st25 _ k) ?_
      obtain ⟨T26, h26, X26, e26, V26, W26, st26⟩ := own_aastore X25 hx hZ e25 Va24 (j := (1 : Int32)) (i := 1) rfl (by decide) (Nat.le_of_ble_eq_true rfl) rfl (own_A.sto Va24 Ov22 (Ins.self (E_DELETE_AT_END.ext O24))) (g := (mkF m 45 #[.val (.int xf), .val (.int (1 : Int32)), .val (.int (0 : Int32)), .val (.ref a_REPLACE), .unset, .unset] [(.ref a_DELETE_AT_END), (.int (1 : Int32)), (.ref b22), (.ref b22)])) rfl rfl (hb hby at_45)
      have Va26 : own_A Z h26 b22 k22 (.object "com/example/restate/restate/model/WordEdit$Point") [(.ref a_DELETE), (.ref a_DELETE_AT_END), .null, .null] := V26
      have Z26 : n0 ≤ h26.size := Nat.le_trans Z24 (Keep.of_wr W26).1
      have O26 : Ext h0 h26 := own_ext_wr O24 W26 hz_b22
      have K26 : Keep h0 h26 [] := K24.wr W26 (Or.inr hz_b22)
      have N26 := Fr.snoc X26 N24 gz_b22
      refine own_go (T' := T26) (g' := (mkF m 46 #[.val (.int xf), .val (.int (1 : Int32)), .val (.int (0 : Int32)), .val (.ref a_REPLACE), .unset, .unset] [(.ref b22)])) (fun _ k => st26 _ k) ?_
      refine own_go (T' := T26) (g' := (mkF m 47 #[.val (.int xf), .val (.int (1 : Int32)), .val (.int (0 : Int32)), .val (.ref a_REPLACE), .unset, .unset] [(.ref b22), (.ref b22)])) (fun _ k => XS.dup X26.here hx rfl (hb hby at_46) rfl rfl k) ?_
      refine own_go (T' := T26) (g' := (mkF m 48 #[.val (.int xf), .val (.int (1 : Int32)), .val (.int (0 : Int32)), .val (.ref a_REPLACE), .unset, .unset] [(.int (2 : Int32)), (.ref b22), (.ref b22)])) (fun _ k => XS.iconst X26.here hx rfl (hb hby at_47) k) ?_
      obtain ⟨T27, X27, e27, st27⟩ := getS X26 hx hZ (host := "") hown (hw _ (List.mem_of_getElem? (i := 12) rfl)) Via.refl e26 (S_REPLACE.ext O26) (g := (mkF m 48 #[.val (.int xf), .val (.int (1 : Int32)), .val (.int (0 : Int32)), .val (.ref a_REPLACE), .unset, .unset] [(.int (2 : Int32)), (.ref b22), (.ref b22)])) rfl (hb hby at_48)
      refine own_go (T' := T27) (g' := (mkF m 51 #[.val (.int xf), .val (.int (1 : Int32)), .val (.int (0 : Int32)), .val (.ref a_REPLACE), .unset, .unset] [(.ref a_REPLACE), (.int (2 : Int32)), (.ref b22), (.ref b22)])) (fun _ k => st27 _ k) ?_
      obtain ⟨T28, h28, X28, e28, V28, W28, st28⟩ := own_aastore X27 hx hZ e27 Va26 (j := (2 : Int32)) (i := 2) rfl (by decide) (Nat.le_of_ble_eq_true rfl) rfl (own_A.sto Va26 Ov22 (Ins.self (E_REPLACE.ext O26))) (g := (mkF m 51 #[.val (.int xf), .val (.int (1 : Int32)), .val (.int (0 : Int32)), .val (.ref a_REPLACE), .unset, .unset] [(.ref a_REPLACE), (.int (2 : Int32)), (.ref b22), (.ref b22)])) rfl rfl (hb hby at_51)
      have Va28 : own_A Z h28 b22 k22 (.object "com/example/restate/restate/model/WordEdit$Point") [(.ref a_DELETE), (.ref a_DELETE_AT_END), (.ref a_REPLACE), .null] := V28
      have Z28 : n0 ≤ h28.size := Nat.le_trans Z26 (Keep.of_wr W28).1
      have O28 : Ext h0 h28 := own_ext_wr O26 W28 hz_b22
      have K28 : Keep h0 h28 [] := K26.wr W28 (Or.inr hz_b22)
      have N28 := Fr.snoc X28 N26 gz_b22
      refine own_go (T' := T28) (g' := (mkF m 52 #[.val (.int xf), .val (.int (1 : Int32)), .val (.int (0 : Int32)), .val (.ref a_REPLACE), .unset, .unset] [(.ref b22)])) (fun _ k => st28 _ k) ?_
      refine own_go (T' := T28) (g' := (mkF m 53 #[.val (.int xf), .val (.int (1 : Int32)), .val (.int (0 : Int32)), .val (.ref a_REPLACE), .unset, .unset] [(.ref b22), (.ref b22)])) (fun _ k => XS.dup X28.here hx rfl (hb hby at_52) rfl rfl k) ?_
      refine own_go (T' := T28) (g' := (mkF m 54 #[.val (.int xf), .val (.int (1 : Int32)), .val (.int (0 : Int32)), .val (.ref a_REPLACE), .unset, .unset] [(.int (3 : Int32)), (.ref b22), (.ref b22)])) (fun _ k => XS.iconst X28.here hx rfl (hb hby at_53) k) ?_
      obtain ⟨T29, X29, e29, st29⟩ := getS X28 hx hZ (host := "") hown (hw _ (List.mem_of_getElem? (i := 14) rfl)) Via.refl e28 (S_REPLACE_AT_END.ext O28) (g := (mkF m 54 #[.val (.int xf), .val (.int (1 : Int32)), .val (.int (0 : Int32)), .val (.ref a_REPLACE), .unset, .unset] [(.int (3 : Int32)), (.ref b22), (.ref b22)])) rfl (hb hby at_54)
      refine own_go (T' := T29) (g' := (mkF m 57 #[.val (.int xf), .val (.int (1 : Int32)), .val (.int (0 : Int32)), .val (.ref a_REPLACE), .unset, .unset] [(.ref a_REPLACE_AT_END), (.int (3 : Int32)), (.ref b22), (.ref b22)])) (fun _ k => st29 _ k) ?_
      obtain ⟨T30, h30, X30, e30, V30, W30, st30⟩ := own_aastore X29 hx hZ e29 Va28 (j := (3 : Int32)) (i := 3) rfl (by decide) (Nat.le_of_ble_eq_true rfl) rfl (own_A.sto Va28 Ov22 (Ins.self (E_REPLACE_AT_END.ext O28))) (g := (mkF m 57 #[.val (.int xf), .val (.int (1 : Int32)), .val (.int (0 : Int32)), .val (.ref a_REPLACE), .unset, .unset] [(.ref a_REPLACE_AT_END), (.int (3 : Int32)), (.ref b22), (.ref b22)])) rfl rfl (hb hby at_57)
      have Va30 : own_A Z h30 b22 k22 (.object "com/example/restate/restate/model/WordEdit$Point") [(.ref a_DELETE), (.ref a_DELETE_AT_END), (.ref a_REPLACE), (.ref a_REPLACE_AT_END)] := V30
      have Z30 : n0 ≤ h30.size := Nat.le_trans Z28 (Keep.of_wr W30).1
      have O30 : Ext h0 h30 := own_ext_wr O28 W30 hz_b22
      have K30 : Keep h0 h30 [] := K28.wr W30 (Or.inr hz_b22)
      have N30 := Fr.snoc X30 N28 gz_b22
      refine own_go (T' := T30) (g' := (mkF m 58 #[.val (.int xf), .val (.int (1 : Int32)), .val (.int (0 : Int32)), .val (.ref a_REPLACE), .unset, .unset] [(.ref b22)])) (fun _ k => st30 _ k) ?_
      refine own_go (T' := T30) (g' := (mkF m 60 #[.val (.int xf), .val (.int (1 : Int32)), .val (.int (0 : Int32)), .val (.ref a_REPLACE), .val (.ref b22), .unset] [])) (fun _ k => XS.astore X30.here hx rfl (hb hby at_58) rfl rfl (l' := #[.val (.int xf), .val (.int (1 : Int32)), .val (.int (0 : Int32)), .val (.ref a_REPLACE), .val (.ref b22), .unset]) rfl k) ?_
      refine own_go (T' := T30) (g' := (mkF m 61 #[.val (.int xf), .val (.int (1 : Int32)), .val (.int (0 : Int32)), .val (.ref a_REPLACE), .val (.ref b22), .unset] [(.int (1 : Int32))])) (fun _ k => XS.iloadN X30.here hx rfl (hb hby at_60) rfl k) ?_
      refine own_go (T' := T30) (g' := (mkF m 64 #[.val (.int xf), .val (.int (1 : Int32)), .val (.int (0 : Int32)), .val (.ref a_REPLACE), .val (.ref b22), .unset] [])) (fun _ k => XS.ifNo X30.here hx rfl (hb hby at_61) rfl ((if0 _ _).trans (feq ((by decide) : ¬ ((1 : Int32) = (0 : Int32)))).1) k) ?_
      refine own_go (T' := T30) (g' := (mkF m 65 #[.val (.int xf), .val (.int (1 : Int32)), .val (.int (0 : Int32)), .val (.ref a_REPLACE), .val (.ref b22), .unset] [(.int (2 : Int32))])) (fun _ k => XS.iconst X30.here hx rfl (hb hby at_64) k) ?_
      refine own_go (T' := T30) (g' := (mkF m 69 #[.val (.int xf), .val (.int (1 : Int32)), .val (.int (0 : Int32)), .val (.ref a_REPLACE), .val (.ref b22), .unset] [(.int (2 : Int32))])) (fun _ k => XS.goto X30.here hx rfl (pc0 := 65) (pc' := 69) rfl (hb hby at_65) (by decide) (by decide) k) ?_
      refine own_go (T' := T30) (g' := (mkF m 70 #[.val (.int xf), .val (.int (1 : Int32)), .val (.int (0 : Int32)), .val (.ref a_REPLACE), .val (.ref b22), .unset] [(.int (0 : Int32)), (.int (2 : Int32))])) (fun _ k => XS.iloadN X30.here hx rfl (hb hby at_69) rfl k) ?_
      refine own_go (T' := T30) (g' := (mkF m 77 #[.val (.int xf), .val (.int (1 : Int32)), .val (.int (0 : Int32)), .val (.ref a_REPLACE), .val (.ref b22), .unset] [(.int (2 : Int32))])) (fun _ k => XS.ifYes X30.here hx rfl (pc0 := 70) (pc' := 77) rfl (hb hby at_70) rfl ((if0 _ _).trans (teq ((by decide) : (0 : Int32) = (0 : Int32))).1) (by decide) (by decide) k) ?_
      refine own_go (T' := T30) (g' := (mkF m 78 #[.val (.int xf), .val (.int (1 : Int32)), .val (.int (0 : Int32)), .val (.ref a_REPLACE), .val (.ref b22), .unset] [(.int (0 : Int32)), (.int (2 : Int32))])) (fun _ k => XS.iconst X30.here hx rfl (hb hby at_77) k) ?_
      refine own_go (T' := T30) (g' := (mkF m 79 #[.val (.int xf), .val (.int (1 : Int32)), .val (.int (0 : Int32)), .val (.ref a_REPLACE), .val (.ref b22), .unset] [(.int (2 : Int32))])) (fun _ k => XS.iadd X30.here hx rfl (hb hby at_78) rfl k) ?_
      refine own_go (T' := T30) (g' := (mkF m 81 #[.val (.int xf), .val (.int (1 : Int32)), .val (.int (0 : Int32)), .val (.ref a_REPLACE), .val (.ref b22), .val (.int (2 : Int32))] [])) (fun _ k => XS.istore X30.here hx rfl (hb hby at_79) rfl (l' := #[.val (.int xf), .val (.int (1 : Int32)), .val (.int (0 : Int32)), .val (.ref a_REPLACE), .val (.ref b22), .val (.int (2 : Int32))]) rfl k) ?_
      refine own_go (T' := T30) (g' := (mkF m 82 #[.val (.int xf), .val (.int (1 : Int32)), .val (.int (0 : Int32)), .val (.ref a_REPLACE), .val (.ref b22), .val (.int (2 : Int32))] [(.ref a_REPLACE)])) (fun _ k => XS.aloadN X30.here hx rfl (hb hby at_81) rfl rfl k) ?_
      refine own_go (T' := T30) (g' := (mkF m 84 #[.val (.int xf), .val (.int (1 : Int32)), .val (.int (0 : Int32)), .val (.ref a_REPLACE), .val (.ref b22), .val (.int (2 : Int32))] [(.ref b22), (.ref a_REPLACE)])) (fun _ k => XS.aload X30.here hx rfl (hb hby at_82) rfl rfl k) ?_
      refine own_go (T' := T30) (g' := (mkF m 86 #[.val (.int xf), .val (.int (1 : Int32)), .val (.int (0 : Int32)), .val (.ref a_REPLACE), .val (.ref b22), .val (.int (2 : Int32))] [(.int (2 : Int32)), (.ref b22), (.ref a_REPLACE)])) (fun _ k => XS.iload X30.here hx rfl (hb hby at_84) rfl k) ?_
      refine own_go (T' := T30) (g' := (mkF m 87 #[.val (.int xf), .val (.int (1 : Int32)), .val (.int (0 : Int32)), .val (.ref a_REPLACE), .val (.ref b22), .val (.int (2 : Int32))] [(.ref a_REPLACE), (.ref a_REPLACE)])) (fun _ k => own_aaload X30 hx hZ e30 Va30 (j := (2 : Int32)) (v := (.ref a_REPLACE)) (by decide) rfl rfl (g := (mkF m 86 #[.val (.int xf), .val (.int (1 : Int32)), .val (.int (0 : Int32)), .val (.ref a_REPLACE), .val (.ref b22), .val (.int (2 : Int32))] [(.int (2 : Int32)), (.ref b22), (.ref a_REPLACE)])) rfl rfl (hb hby at_86) k) ?_
      refine own_go (T' := T30) (g' := (mkF m 90 #[.val (.int xf), .val (.int (1 : Int32)), .val (.int (0 : Int32)), .val (.ref a_REPLACE), .val (.ref b22), .val (.int (2 : Int32))] [])) (fun _ k => Jvm.RoadKit.acmp (g := (mkF m 87 #[.val (.int xf), .val (.int (1 : Int32)), .val (.int (0 : Int32)), .val (.ref a_REPLACE), .val (.ref b22), .val (.int (2 : Int32))] [(.ref a_REPLACE), (.ref a_REPLACE)])) X30 hx rfl rfl rfl (pc0 := 87) (pc' := 90) (same := true) rfl (hb hby at_87) rfl (decide_eq_true rfl) (by decide) (by decide) k) ?_
      refine own_go (T' := T30) (g' := (mkF m 91 #[.val (.int xf), .val (.int (1 : Int32)), .val (.int (0 : Int32)), .val (.ref a_REPLACE), .val (.ref b22), .val (.int (2 : Int32))] [(.int (1 : Int32))])) (fun _ k => XS.iconst X30.here hx rfl (hb hby at_90) k) ?_
      refine own_go (T' := T30) (g' := (mkF m 95 #[.val (.int xf), .val (.int (1 : Int32)), .val (.int (0 : Int32)), .val (.ref a_REPLACE), .val (.ref b22), .val (.int (2 : Int32))] [(.int (1 : Int32))])) (fun _ k => XS.goto X30.here hx rfl (pc0 := 91) (pc' := 95) rfl (hb hby at_91) (by decide) (by decide) k) ?_
      obtain ⟨fs, hr, hrun, hended, hW, hsame⟩ := X30.leave (v := some (.int (1 : Int32))) (fun h => by rw [Bd.returns] at h; cases h)
      refine own_end (retN X30 hx (t := .boolean) Bd.returns (by simp) (hb hby at_95) hr) hrun hended ⟨_, _, rfl, (?_ : own_QL Z xf a_DELETE a_DELETE_AT_END a_REPLACE a_REPLACE_AT_END h0 n0 _ T30.heap _), ⟨_, rfl⟩, hW, hsame.mono (by decide) (by decide)⟩
      rw [e30]
      exact ⟨rfl, N30⟩
    · refine own_go (T' := s₁) (g' := (mkF m 18 #[.val (.int xf), .val (.int (1 : Int32)), .unset, .unset, .unset, .unset] [])) (fun _ k => XS.ifNo X0.here hx rfl (hb hby at_15) rfl ((if0 _ _).trans (feq (hc15 : ¬ ((xf &&& (2 : Int32)) = (0 : Int32)))).1) k) ?_
      refine own_go (T' := s₁) (g' := (mkF m 19 #[.val (.int xf), .val (.int (1 : Int32)), .unset, .unset, .unset, .unset] [(.int (1 : Int32))])) (fun _ k => XS.iconst X0.here hx rfl (hb hby at_18) k) ?_
      refine own_go (T' := s₁) (g' := (mkF m 23 #[.val (.int xf), .val (.int (1 : Int32)), .unset, .unset, .unset, .unset] [(.int (1 : Int32))])) (fun _ k => XS.goto X0.here hx rfl (pc0 := 19) (pc' := 23) rfl (hb hby at_19) (by decide) (by decide) k) ?_
      refine own_go (T' := s₁) (g' := (mkF m 24 #[.val (.int xf), .val (.int (1 : Int32)), .val (.int (1 : Int32)), .unset, .unset, .unset] [])) (fun _ k => XS.istoreN X0.here hx rfl (hb hby at_23) rfl (l' := #[.val (.int xf), .val (.int (1 : Int32)), .val (.int (1 : Int32)), .unset, .unset, .unset]) rfl k) ?_
      refine own_go (T' := s₁) (g' := (mkF m 25 #[.val (.int xf), .val (.int (1 : Int32)), .val (.int (1 : Int32)), .unset, .unset, .unset] [(.int (1 : Int32))])) (fun _ k => XS.iloadN X0.here hx rfl (hb hby at_24) rfl k) ?_
      refine own_go (T' := s₁) (g' := (mkF m 26 #[.val (.int xf), .val (.int (1 : Int32)), .val (.int (1 : Int32)), .unset, .unset, .unset] [(.int (1 : Int32)), (.int (1 : Int32))])) (fun _ k => XS.iloadN X0.here hx rfl (hb hby at_25) rfl k) ?_
      obtain ⟨_, _, ⟨T31, L31, k31, n31⟩, -, X31, ⟨Lc31, hQ31, l31, y31, z31⟩, st31⟩ := Jvm.LawKit.callS X0 hx (y := (⟨"com/example/restate/restate/model/WordEdit$Point", "removing", "(ZZ)Lcom/example/restate/restate/model/WordEdit$Point;"⟩ : MethodName)) hown (mvT hZ (hw _ (List.mem_of_getElem? (i := 0) rfl))) (mvT hZ (hw _ (List.mem_of_getElem? (i := 1) rfl))) (mvT hZ (hw _ (List.mem_of_getElem? (i := 2) rfl))) (mvT hZ (hw _ (List.mem_of_getElem? (i := 3) rfl))) (by decide) (backOf (W := 0) (own_rR11 l Z a0 hw [] a_REPLACE_AT_END h0 n0 Z0 S_REPLACE_AT_END) hZ (hw _ (List.mem_of_getElem? (i := 3) rfl)) (hw _ (List.mem_of_getElem? (i := 2) rfl)) (by decide) (by decide)) (g := (mkF m 26 #[.val (.int xf), .val (.int (1 : Int32)), .val (.int (1 : Int32)), .unset, .unset, .unset] [(.int (1 : Int32)), (.int (1 : Int32))])) rfl (by rw [hml]; rfl) (argsL := [(.int (1 : Int32)), (.int (1 : Int32))]) (rest := []) (lenOf own_pd0 rfl) rfl (by show 2 * 0 + _ ≤ _; exact Nat.le_of_eq rfl) (hb hby at_26) (fun _ _ => ⟨rfl, e0, (by decide : 0 + 0 ≤ _), (by decide : 0 + 0 ≤ _)⟩)
      dsimp only [Pt.U, Pt.locs, Pt.cells, Pt.slots] at X31 l31 y31 z31 st31 hQ31
      subst l31 y31 z31
      obtain ⟨rfl, N31q, e31⟩ := hQ31
      have N31 := Fr.app N0 N31q
      refine own_go (T' := T31) (g' := (mkF m 29 #[.val (.int xf), .val (.int (1 : Int32)), .val (.int (1 : Int32)), .unset, .unset, .unset] [(.ref a_REPLACE_AT_END)])) (fun _ k => st31 _ k) ?_
      refine own_go (T' := T31) (g' := (mkF m 30 #[.val (.int xf), .val (.int (1 : Int32)), .val (.int (1 : Int32)), .val (.ref a_REPLACE_AT_END), .unset, .unset] [])) (fun _ k => XS.astoreN X31.here hx rfl (hb hby at_29) rfl rfl (l' := #[.val (.int xf), .val (.int (1 : Int32)), .val (.int (1 : Int32)), .val (.ref a_REPLACE_AT_END), .unset, .unset]) rfl k) ?_
      refine own_go (T' := T31) (g' := (mkF m 31 #[.val (.int xf), .val (.int (1 : Int32)), .val (.int (1 : Int32)), .val (.ref a_REPLACE_AT_END), .unset, .unset] [(.int (4 : Int32))])) (fun _ k => XS.iconst X31.here hx rfl (hb hby at_30) k) ?_
      obtain ⟨T32, h32, k32, X32, e32, E32, A32, Ov32, st32⟩ := newR X31 hx hZ hown (hw _ (List.mem_of_getElem? (i := 6) rfl)) (hw _ (List.mem_of_getElem? (i := 7) rfl)) e31 (g := (mkF m 31 #[.val (.int xf), .val (.int (1 : Int32)), .val (.int (1 : Int32)), .val (.ref a_REPLACE_AT_END), .unset, .unset] [(.int (4 : Int32))])) rfl (hb hby at_31) rfl (by decide) (cap := 4) (by decide) (by decide) (by decide) (by decide)
      obtain ⟨b32, g32⟩ : ∃ z, z = h0.size := ⟨_, rfl⟩
      rw [← g32] at A32 st32
      have gz_b32 : n0 ≤ b32 := Nat.le_trans Z0 (Nat.le_of_eq g32.symm)
      have hz_b32 : h0.size ≤ b32 := Nat.le_trans (Keep.refl h0 []).1 (Nat.le_of_eq g32.symm)
      have Z32 : n0 ≤ h32.size := Nat.le_trans Z0 E32.1
      have O32 : Ext h0 h32 := own_ext_tr (own_ext_rf h0) E32
      have K32 : Keep h0 h32 [] := (Keep.refl h0 []).ext E32
      have V32 : own_A Z h32 b32 k32 (.object "com/example/restate/restate/model/WordEdit$Point") [.null, .null, .null, .null] := own_A.new A32 (N := 4) rfl
      refine own_go (T' := T32) (g' := (mkF m 34 #[.val (.int xf), .val (.int (1 : Int32)), .val (.int (1 : Int32)), .val (.ref a_REPLACE_AT_END), .unset, .unset] [(.ref b32)])) (fun _ k => st32 _ k) ?_
      refine own_go (T' := T32) (g' := (mkF m 35 #[.val (.int xf), .val (.int (1 : Int32)), .val (.int (1 : Int32)), .val (.ref a_REPLACE_AT_END), .unset, .unset] [(.ref b32), (.ref b32)])) (fun _ k => XS.dup X32.here hx rfl (hb hby at_34) rfl rfl k) ?_
      refine own_go (T' := T32) (g' := (mkF m 36 #[.val (.int xf), .val (.int (1 : Int32)), .val (.int (1 : Int32)), .val (.ref a_REPLACE_AT_END), .unset, .unset] [(.int (0 : Int32)), (.ref b32), (.ref b32)])) (fun _ k => XS.iconst X32.here hx rfl (hb hby at_35) k) ?_
      obtain ⟨T33, X33, e33, st33⟩ := getS X32 hx hZ (host := "") hown (hw _ (List.mem_of_getElem? (i := 8) rfl)) Via.refl e32 (S_DELETE.ext O32) (g := (mkF m 36 #[.val (.int xf), .val (.int (1 : Int32)), .val (.int (1 : Int32)), .val (.ref a_REPLACE_AT_END), .unset, .unset] [(.int (0 : Int32)), (.ref b32), (.ref b32)])) rfl (hb hby at_36)
      refine own_go (T' := T33) (g' := (mkF m 39 #[.val (.int xf), .val (.int (1 : Int32)), .val (.int (1 : Int32)), .val (.ref a_REPLACE_AT_END), .unset, .unset] [(.ref a_DELETE), (.int (0 : Int32)), (.ref b32), (.ref b32)])) (fun _ k => st33 _ k) ?_
      obtain ⟨T34, h34, X34, e34, V34, W34, st34⟩ := own_aastore X33 hx hZ e33 V32 (j := (0 : Int32)) (i := 0) rfl (by decide) (Nat.le_of_ble_eq_true rfl) rfl (own_A.sto V32 Ov32 (Ins.self (E_DELETE.ext O32))) (g := (mkF m 39 #[.val (.int xf), .val (.int (1 : Int32)), .val (.int (1 : Int32)), .val (.ref a_REPLACE_AT_END), .unset, .unset] [(.ref a_DELETE), (.int (0 : Int32)), (.ref b32), (.ref b32)])) rfl rfl (hb hby at_39)
      have Va34 : own_A Z h34 b32 k32 (.object "com/example/restate/restate/model/WordEdit$Point") [(.ref a_DELETE), .null, .null, .null] := V34
      have Z34 : n0 ≤ h34.size := Nat.le_trans Z32 (Keep.of_wr W34).1
      have O34 : Ext h0 h34 := own_ext_wr O32 W34 hz_b32
      have K34 : Keep h0 h34 [] := K32.wr W34 (Or.inr hz_b32)
      have N34 := Fr.snoc X34 N31 gz_b32
      refine own_go (T' := T34) (g' := (mkF m 40 #[.val (.int xf), .val (.int (1 : Int32)), .val (.int (1 : Int32)), .val (.ref a_REPLACE_AT_END), .unset, .unset] [(.ref b32)])) (fun _ k => st34 _ k) ?_
      refine own_go (T' := T34) (g' := (mkF m 41 #[.val (.int xf), .val (.int (1 : Int32)), .val (.int (1 : Int32)), .val (.ref a_REPLACE_AT_END), .unset, .unset] [(.ref b32), (.ref b32)])) (fun _ k => XS.dup X34.here hx rfl (hb hby at_40) rfl rfl k) ?_
      refine own_go (T' := T34) (g' := (mkF m 42 #[.val (.int xf), .val (.int (1 : Int32)), .val (.int (1 : Int32)), .val (.ref a_REPLACE_AT_END), .unset, .unset] [(.int (1 : Int32)), (.ref b32), (.ref b32)])) (fun _ k => XS.iconst X34.here hx rfl (hb hby at_41) k) ?_
      obtain ⟨T35, X35, e35, st35⟩ := getS X34 hx hZ (host := "") hown (hw _ (List.mem_of_getElem? (i := 10) rfl)) Via.refl e34 (S_DELETE_AT_END.ext O34) (g := (mkF m 42 #[.val (.int xf), .val (.int (1 : Int32)), .val (.int (1 : Int32)), .val (.ref a_REPLACE_AT_END), .unset, .unset] [(.int (1 : Int32)), (.ref b32), (.ref b32)])) rfl (hb hby at_42)
      refine own_go (T' := T35) (g' := (mkF m 45 #[.val (.int xf), .val (.int (1 : Int32)), .val (.int (1 : Int32)), .val (.ref a_REPLACE_AT_END), .unset, .unset] [(.ref a_DELETE_AT_END), (.int (1 : Int32)), (.ref b32), (.ref b32)])) (fun _ k => st35 _ k) ?_
      obtain ⟨T36, h36, X36, e36, V36, W36, st36⟩ := own_aastore X35 hx hZ e35 Va34 (j := (1 : Int32)) (i := 1) rfl (by decide) (Nat.le_of_ble_eq_true rfl) rfl (own_A.sto Va34 Ov32 (Ins.self (E_DELETE_AT_END.ext O34))) (g := (mkF m 45 #[.val (.int xf), .val (.int (1 : Int32)), .val (.int (1 : Int32)), .val (.ref a_REPLACE_AT_END), .unset, .unset] [(.ref a_DELETE_AT_END), (.int (1 : Int32)), (.ref b32), (.ref b32)])) rfl rfl (hb hby at_45)
      have Va36 : own_A Z h36 b32 k32 (.object "com/example/restate/restate/model/WordEdit$Point") [(.ref a_DELETE), (.ref a_DELETE_AT_END), .null, .null] := V36
      have Z36 : n0 ≤ h36.size := Nat.le_trans Z34 (Keep.of_wr W36).1
      have O36 : Ext h0 h36 := own_ext_wr O34 W36 hz_b32
      have K36 : Keep h0 h36 [] := K34.wr W36 (Or.inr hz_b32)
      have N36 := Fr.snoc X36 N34 gz_b32
      refine own_go (T' := T36) (g' := (mkF m 46 #[.val (.int xf), .val (.int (1 : Int32)), .val (.int (1 : Int32)), .val (.ref a_REPLACE_AT_END), .unset, .unset] [(.ref b32)])) (fun _ k => st36 _ k) ?_
      refine own_go (T' := T36) (g' := (mkF m 47 #[.val (.int xf), .val (.int (1 : Int32)), .val (.int (1 : Int32)), .val (.ref a_REPLACE_AT_END), .unset, .unset] [(.ref b32), (.ref b32)])) (fun _ k => XS.dup X36.here hx rfl (hb hby at_46) rfl rfl k) ?_
      refine own_go (T' := T36) (g' := (mkF m 48 #[.val (.int xf), .val (.int (1 : Int32)), .val (.int (1 : Int32)), .val (.ref a_REPLACE_AT_END), .unset, .unset] [(.int (2 : Int32)), (.ref b32), (.ref b32)])) (fun _ k => XS.iconst X36.here hx rfl (hb hby at_47) k) ?_
      obtain ⟨T37, X37, e37, st37⟩ := getS X36 hx hZ (host := "") hown (hw _ (List.mem_of_getElem? (i := 12) rfl)) Via.refl e36 (S_REPLACE.ext O36) (g := (mkF m 48 #[.val (.int xf), .val (.int (1 : Int32)), .val (.int (1 : Int32)), .val (.ref a_REPLACE_AT_END), .unset, .unset] [(.int (2 : Int32)), (.ref b32), (.ref b32)])) rfl (hb hby at_48)
      refine own_go (T' := T37) (g' := (mkF m 51 #[.val (.int xf), .val (.int (1 : Int32)), .val (.int (1 : Int32)), .val (.ref a_REPLACE_AT_END), .unset, .unset] [(.ref a_REPLACE), (.int (2 : Int32)), (.ref b32), (.ref b32)])) (fun _ k => st37 _ k) ?_
      obtain ⟨T38, h38, X38, e38, V38, W38, st38⟩ := own_aastore X37 hx hZ e37 Va36 (j := (2 : Int32)) (i := 2) rfl (by decide) (Nat.le_of_ble_eq_true rfl) rfl (own_A.sto Va36 Ov32 (Ins.self (E_REPLACE.ext O36))) (g := (mkF m 51 #[.val (.int xf), .val (.int (1 : Int32)), .val (.int (1 : Int32)), .val (.ref a_REPLACE_AT_END), .unset, .unset] [(.ref a_REPLACE), (.int (2 : Int32)), (.ref b32), (.ref b32)])) rfl rfl (hb hby at_51)
      have Va38 : own_A Z h38 b32 k32 (.object "com/example/restate/restate/model/WordEdit$Point") [(.ref a_DELETE), (.ref a_DELETE_AT_END), (.ref a_REPLACE), .null] := V38
      have Z38 : n0 ≤ h38.size := Nat.le_trans Z36 (Keep.of_wr W38).1
      have O38 : Ext h0 h38 := own_ext_wr O36 W38 hz_b32
      have K38 : Keep h0 h38 [] := K36.wr W38 (Or.inr hz_b32)
      have N38 := Fr.snoc X38 N36 gz_b32
      refine own_go (T' := T38) (g' := (mkF m 52 #[.val (.int xf), .val (.int (1 : Int32)), .val (.int (1 : Int32)), .val (.ref a_REPLACE_AT_END), .unset, .unset] [(.ref b32)])) (fun _ k => st38 _ k) ?_
      refine own_go (T' := T38) (g' := (mkF m 53 #[.val (.int xf), .val (.int (1 : Int32)), .val (.int (1 : Int32)), .val (.ref a_REPLACE_AT_END), .unset, .unset] [(.ref b32), (.ref b32)])) (fun _ k => XS.dup X38.here hx rfl (hb hby at_52) rfl rfl k) ?_
      refine own_go (T' := T38) (g' := (mkF m 54 #[.val (.int xf), .val (.int (1 : Int32)), .val (.int (1 : Int32)), .val (.ref a_REPLACE_AT_END), .unset, .unset] [(.int (3 : Int32)), (.ref b32), (.ref b32)])) (fun _ k => XS.iconst X38.here hx rfl (hb hby at_53) k) ?_
      obtain ⟨T39, X39, e39, st39⟩ := getS X38 hx hZ (host := "") hown (hw _ (List.mem_of_getElem? (i := 14) rfl)) Via.refl e38 (S_REPLACE_AT_END.ext O38) (g := (mkF m 54 #[.val (.int xf), .val (.int (1 : Int32)), .val (.int (1 : Int32)), .val (.ref a_REPLACE_AT_END), .unset, .unset] [(.int (3 : Int32)), (.ref b32), (.ref b32)])) rfl (hb hby at_54)
      refine own_go (T' := T39) (g' := (mkF m 57 #[.val (.int xf), .val (.int (1 : Int32)), .val (.int (1 : Int32)), .val (.ref a_REPLACE_AT_END), .unset, .unset] [(.ref a_REPLACE_AT_END), (.int (3 : Int32)), (.ref b32), (.ref b32)])) (fun _ k => st39 _ k) ?_
      obtain ⟨T40, h40, X40, e40, V40, W40, st40⟩ := own_aastore X39 hx hZ e39 Va38 (j := (3 : Int32)) (i := 3) rfl (by decide) (Nat.le_of_ble_eq_true rfl) rfl (own_A.sto Va38 Ov32 (Ins.self (E_REPLACE_AT_END.ext O38))) (g := (mkF m 57 #[.val (.int xf), .val (.int (1 : Int32)), .val (.int (1 : Int32)), .val (.ref a_REPLACE_AT_END), .unset, .unset] [(.ref a_REPLACE_AT_END), (.int (3 : Int32)), (.ref b32), (.ref b32)])) rfl rfl (hb hby at_57)
      have Va40 : own_A Z h40 b32 k32 (.object "com/example/restate/restate/model/WordEdit$Point") [(.ref a_DELETE), (.ref a_DELETE_AT_END), (.ref a_REPLACE), (.ref a_REPLACE_AT_END)] := V40
      have Z40 : n0 ≤ h40.size := Nat.le_trans Z38 (Keep.of_wr W40).1
      have O40 : Ext h0 h40 := own_ext_wr O38 W40 hz_b32
      have K40 : Keep h0 h40 [] := K38.wr W40 (Or.inr hz_b32)
      have N40 := Fr.snoc X40 N38 gz_b32
      refine own_go (T' := T40) (g' := (mkF m 58 #[.val (.int xf), .val (.int (1 : Int32)), .val (.int (1 : Int32)), .val (.ref a_REPLACE_AT_END), .unset, .unset] [(.ref b32)])) (fun _ k => st40 _ k) ?_
      refine own_go (T' := T40) (g' := (mkF m 60 #[.val (.int xf), .val (.int (1 : Int32)), .val (.int (1 : Int32)), .val (.ref a_REPLACE_AT_END), .val (.ref b32), .unset] [])) (fun _ k => XS.astore X40.here hx rfl (hb hby at_58) rfl rfl (l' := #[.val (.int xf), .val (.int (1 : Int32)), .val (.int (1 : Int32)), .val (.ref a_REPLACE_AT_END), .val (.ref b32), .unset]) rfl k) ?_
      refine own_go (T' := T40) (g' := (mkF m 61 #[.val (.int xf), .val (.int (1 : Int32)), .val (.int (1 : Int32)), .val (.ref a_REPLACE_AT_END), .val (.ref b32), .unset] [(.int (1 : Int32))])) (fun _ k => XS.iloadN X40.here hx rfl (hb hby at_60) rfl k) ?_
      refine own_go (T' := T40) (g' := (mkF m 64 #[.val (.int xf), .val (.int (1 : Int32)), .val (.int (1 : Int32)), .val (.ref a_REPLACE_AT_END), .val (.ref b32), .unset] [])) (fun _ k => XS.ifNo X40.here hx rfl (hb hby at_61) rfl ((if0 _ _).trans (feq ((by decide) : ¬ ((1 : Int32) = (0 : Int32)))).1) k) ?_
      refine own_go (T' := T40) (g' := (mkF m 65 #[.val (.int xf), .val (.int (1 : Int32)), .val (.int (1 : Int32)), .val (.ref a_REPLACE_AT_END), .val (.ref b32), .unset] [(.int (2 : Int32))])) (fun _ k => XS.iconst X40.here hx rfl (hb hby at_64) k) ?_
      refine own_go (T' := T40) (g' := (mkF m 69 #[.val (.int xf), .val (.int (1 : Int32)), .val (.int (1 : Int32)), .val (.ref a_REPLACE_AT_END), .val (.ref b32), .unset] [(.int (2 : Int32))])) (fun _ k => XS.goto X40.here hx rfl (pc0 := 65) (pc' := 69) rfl (hb hby at_65) (by decide) (by decide) k) ?_
      refine own_go (T' := T40) (g' := (mkF m 70 #[.val (.int xf), .val (.int (1 : Int32)), .val (.int (1 : Int32)), .val (.ref a_REPLACE_AT_END), .val (.ref b32), .unset] [(.int (1 : Int32)), (.int (2 : Int32))])) (fun _ k => XS.iloadN X40.here hx rfl (hb hby at_69) rfl k) ?_
      refine own_go (T' := T40) (g' := (mkF m 73 #[.val (.int xf), .val (.int (1 : Int32)), .val (.int (1 : Int32)), .val (.ref a_REPLACE_AT_END), .val (.ref b32), .unset] [(.int (2 : Int32))])) (fun _ k => XS.ifNo X40.here hx rfl (hb hby at_70) rfl ((if0 _ _).trans (feq ((by decide) : ¬ ((1 : Int32) = (0 : Int32)))).1) k) ?_
      refine own_go (T' := T40) (g' := (mkF m 74 #[.val (.int xf), .val (.int (1 : Int32)), .val (.int (1 : Int32)), .val (.ref a_REPLACE_AT_END), .val (.ref b32), .unset] [(.int (1 : Int32)), (.int (2 : Int32))])) (fun _ k => XS.iconst X40.here hx rfl (hb hby at_73) k) ?_
      refine own_go (T' := T40) (g' := (mkF m 78 #[.val (.int xf), .val (.int (1 : Int32)), .val (.int (1 : Int32)), .val (.ref a_REPLACE_AT_END), .val (.ref b32), .unset] [(.int (1 : Int32)), (.int (2 : Int32))])) (fun _ k => XS.goto X40.here hx rfl (pc0 := 74) (pc' := 78) rfl (hb hby at_74) (by decide) (by decide) k) ?_
      refine own_go (T' := T40) (g' := (mkF m 79 #[.val (.int xf), .val (.int (1 : Int32)), .val (.int (1 : Int32)), .val (.ref a_REPLACE_AT_END), .val (.ref b32), .unset] [(.int (3 : Int32))])) (fun _ k => XS.iadd X40.here hx rfl (hb hby at_78) rfl k) ?_
      refine own_go (T' := T40) (g' := (mkF m 81 #[.val (.int xf), .val (.int (1 : Int32)), .val (.int (1 : Int32)), .val (.ref a_REPLACE_AT_END), .val (.ref b32), .val (.int (3 : Int32))] [])) (fun _ k => XS.istore X40.here hx rfl (hb hby at_79) rfl (l' := #[.val (.int xf), .val (.int (1 : Int32)), .val (.int (1 : Int32)), .val (.ref a_REPLACE_AT_END), .val (.ref b32), .val (.int (3 : Int32))]) rfl k) ?_
      refine own_go (T' := T40) (g' := (mkF m 82 #[.val (.int xf), .val (.int (1 : Int32)), .val (.int (1 : Int32)), .val (.ref a_REPLACE_AT_END), .val (.ref b32), .val (.int (3 : Int32))] [(.ref a_REPLACE_AT_END)])) (fun _ k => XS.aloadN X40.here hx rfl (hb hby at_81) rfl rfl k) ?_
      refine own_go (T' := T40) (g' := (mkF m 84 #[.val (.int xf), .val (.int (1 : Int32)), .val (.int (1 : Int32)), .val (.ref a_REPLACE_AT_END), .val (.ref b32), .val (.int (3 : Int32))] [(.ref b32), (.ref a_REPLACE_AT_END)])) (fun _ k => XS.aload X40.here hx rfl (hb hby at_82) rfl rfl k) ?_
      refine own_go (T' := T40) (g' := (mkF m 86 #[.val (.int xf), .val (.int (1 : Int32)), .val (.int (1 : Int32)), .val (.ref a_REPLACE_AT_END), .val (.ref b32), .val (.int (3 : Int32))] [(.int (3 : Int32)), (.ref b32), (.ref a_REPLACE_AT_END)])) (fun _ k => XS.iload X40.here hx rfl (hb hby at_84) rfl k) ?_
      refine own_go (T' := T40) (g' := (mkF m 87 #[.val (.int xf), .val (.int (1 : Int32)), .val (.int (1 : Int32)), .val (.ref a_REPLACE_AT_END), .val (.ref b32), .val (.int (3 : Int32))] [(.ref a_REPLACE_AT_END), (.ref a_REPLACE_AT_END)])) (fun _ k => own_aaload X40 hx hZ e40 Va40 (j := (3 : Int32)) (v := (.ref a_REPLACE_AT_END)) (by decide) rfl rfl (g := (mkF m 86 #[.val (.int xf), .val (.int (1 : Int32)), .val (.int (1 : Int32)), .val (.ref a_REPLACE_AT_END), .val (.ref b32), .val (.int (3 : Int32))] [(.int (3 : Int32)), (.ref b32), (.ref a_REPLACE_AT_END)])) rfl rfl (hb hby at_86) k) ?_
      refine own_go (T' := T40) (g' := (mkF m 90 #[.val (.int xf), .val (.int (1 : Int32)), .val (.int (1 : Int32)), .val (.ref a_REPLACE_AT_END), .val (.ref b32), .val (.int (3 : Int32))] [])) (fun _ k => Jvm.RoadKit.acmp (g := (mkF m 87 #[.val (.int xf), .val (.int (1 : Int32)), .val (.int (1 : Int32)), .val (.ref a_REPLACE_AT_END), .val (.ref b32), .val (.int (3 : Int32))] [(.ref a_REPLACE_AT_END), (.ref a_REPLACE_AT_END)])) X40 hx rfl rfl rfl (pc0 := 87) (pc' := 90) (same := true) rfl (hb hby at_87) rfl (decide_eq_true rfl) (by decide) (by decide) k) ?_
      refine own_go (T' := T40) (g' := (mkF m 91 #[.val (.int xf), .val (.int (1 : Int32)), .val (.int (1 : Int32)), .val (.ref a_REPLACE_AT_END), .val (.ref b32), .val (.int (3 : Int32))] [(.int (1 : Int32))])) (fun _ k => XS.iconst X40.here hx rfl (hb hby at_90) k) ?_
      refine own_go (T' := T40) (g' := (mkF m 95 #[.val (.int xf), .val (.int (1 : Int32)), .val (.int (1 : Int32)), .val (.ref a_REPLACE_AT_END), .val (.ref b32), .val (.int (3 : Int32))] [(.int (1 : Int32))])) (fun _ k => XS.goto X40.here hx rfl (pc0 := 91) (pc' := 95) rfl (hb hby at_91) (by decide) (by decide) k) ?_
      obtain ⟨fs, hr, hrun, hended, hW, hsame⟩ := X40.leave (v := some (.int (1 : Int32))) (fun h => by rw [Bd.returns] at h; cases h)
      refine own_end (retN X40 hx (t := .boolean) Bd.returns (by simp) (hb hby at_95) hr) hrun hended ⟨_, _, rfl, (?_ : own_QL Z xf a_DELETE a_DELETE_AT_END a_REPLACE a_REPLACE_AT_END h0 n0 _ T40.heap _), ⟨_, rfl⟩, hW, hsame.mono (by decide) (by decide)⟩
      rw [e40]
      exact ⟨rfl, N40⟩
set_option maxRecDepth 65536 in
set_option maxHeartbeats 40000000 in
theorem own_comes {Post : Tables → Env → Array Value → State → Outcome → State → Prop} (hpost : ∀ tb e args s v u, (limb_1_1.after args s (.returned v) u = true ∧ limb_1_2.after args s (.returned v) u = true ∧ True) → FrameEnd s (.returned v) u (Jvm.fieldLocs frame_1_writes args s ++ Jvm.arrayLocs frame_1_arrays args s ++ Jvm.staticLocs frame_1_statics s) 16 128 → Post tb e args s (.returned v) u) :
    ArmFor flags0 classFile x code maxLocals ret World_1 tables_1 room_1 Calls_1 rest_1 Pre_1 Post := by
  intro l hfl _ _ p e ha hc hk s m args below hf hA hF happ hP
  obtain ⟨hcalls, hrest, hpre⟩ := hP
  obtain ⟨-, -, -, hnamed, -, -, -, hat⟩ := (Spec.applies_iff hf).mp happ
  obtain ⟨hg, hn⟩ := and_e (Cond.before_iff.mp (show (Jvm.Cond.and given_1 narrow_1).before args s = true from hpre))
  obtain ⟨gc, g0⟩ := and_e hg
  obtain ⟨w0, rfl⟩ : ∃ w0 : Value, args = #[w0] := by
    have hs : args.size = 1 := by simpa [Cond.value, given_1] using gc
    obtain ⟨L⟩ := args
    match L, hs with
    | [w0], _ => exact ⟨w0, rfl⟩
  have hw := fun d (hd : d ∈ tables_1) => atoms_spec (ws := Jvm.Cond.code x code maxLocals ret :: tables_1) hat d (List.mem_cons_of_mem _ hd)
  have hfit : Fit s := fun {y c} hc i hi => by
    obtain ⟨ha, rfl⟩ := Array.getElem?_eq_some_iff.mp hc
    have q := List.all_eq_true.mp ((Array.all_eq_true_iff_forall_mem.mp hF) _ (Array.getElem_mem ha)) i (List.mem_range.mpr hi)
    simpa [Array.getElem?_eq_getElem hi] using q
  obtain ⟨i0, ei0⟩ := is_v g0
  obtain rfl : w0 = (.int i0) := Option.some.inj ei0
  obtain ⟨k0, z0⟩ := and_e hn
  obtain ⟨a_DELETE, e_DELETE⟩ := exa_v k0
  have S_DELETE : Sta s s.heap "com/example/restate/restate/model/WordEdit$Point" "DELETE" "Lcom/example/restate/restate/model/WordEdit$Point;" (.ref a_DELETE) := Sta.start e_DELETE (Or.inr ⟨(hw _ (List.mem_of_getElem? (i := 2) rfl)), (hw _ (List.mem_of_getElem? (i := 5) rfl))⟩)
  have E_DELETE : Exa s s.heap a_DELETE "com/example/restate/restate/model/WordEdit$Point" := Exa.start e_DELETE k0
  obtain ⟨k1, z1⟩ := and_e z0
  obtain ⟨a_DELETE_AT_END, e_DELETE_AT_END⟩ := exa_v k1
  have S_DELETE_AT_END : Sta s s.heap "com/example/restate/restate/model/WordEdit$Point" "DELETE_AT_END" "Lcom/example/restate/restate/model/WordEdit$Point;" (.ref a_DELETE_AT_END) := Sta.start e_DELETE_AT_END (Or.inr ⟨(hw _ (List.mem_of_getElem? (i := 2) rfl)), (hw _ (List.mem_of_getElem? (i := 11) rfl))⟩)
  have E_DELETE_AT_END : Exa s s.heap a_DELETE_AT_END "com/example/restate/restate/model/WordEdit$Point" := Exa.start e_DELETE_AT_END k1
  obtain ⟨k2, z2⟩ := and_e z1
  obtain ⟨a_REPLACE, e_REPLACE⟩ := exa_v k2
  have S_REPLACE : Sta s s.heap "com/example/restate/restate/model/WordEdit$Point" "REPLACE" "Lcom/example/restate/restate/model/WordEdit$Point;" (.ref a_REPLACE) := Sta.start e_REPLACE (Or.inr ⟨(hw _ (List.mem_of_getElem? (i := 2) rfl)), (hw _ (List.mem_of_getElem? (i := 13) rfl))⟩)
  have E_REPLACE : Exa s s.heap a_REPLACE "com/example/restate/restate/model/WordEdit$Point" := Exa.start e_REPLACE k2
  obtain ⟨a_REPLACE_AT_END, e_REPLACE_AT_END⟩ := exa_v z2
  have S_REPLACE_AT_END : Sta s s.heap "com/example/restate/restate/model/WordEdit$Point" "REPLACE_AT_END" "Lcom/example/restate/restate/model/WordEdit$Point;" (.ref a_REPLACE_AT_END) := Sta.start e_REPLACE_AT_END (Or.inr ⟨(hw _ (List.mem_of_getElem? (i := 2) rfl)), (hw _ (List.mem_of_getElem? (i := 15) rfl))⟩)
  have E_REPLACE_AT_END : Exa s s.heap a_REPLACE_AT_END "com/example/restate/restate/model/WordEdit$Point" := Exa.start e_REPLACE_AT_END z2
  obtain ⟨n, o, h1, h2, h3, _, L, rfl, ⟨rfl, N⟩, hq⟩ := own_rL l s _ hw tables_1 i0 a_DELETE a_DELETE_AT_END a_REPLACE a_REPLACE_AT_END s.heap s.heap.size (Nat.le_refl _) S_DELETE E_DELETE S_DELETE_AT_END E_DELETE_AT_END S_REPLACE E_REPLACE S_REPLACE_AT_END E_REPLACE_AT_END p e ha hc hk s m _ below hf ((Spec.applies_iff_loose hf).mp happ).1 ⟨rfl, State.Warmed39.refl s, rfl⟩ trivial
  refine ⟨n, _, h1, h2, h3, hpost _ _ _ _ _ _ ⟨Cond.after_iff.mpr rfl, Cond.after_iff.mpr (eq_i res_at (Term.int_eval (1)) rfl), trivial⟩ ⟨hq.1, hq.2.1, (hq.2.2.sift fun y hy => Or.inr (N y hy)).mono (by decide) (by decide)⟩⟩
theorem main_1_1 : Claimed_1_1 := own_comes fun _ _ _ _ _ _ h hF => ⟨h.1, hF⟩
theorem main_1_2 : Claimed_1_2 := own_comes fun _ _ _ _ _ _ h hF => ⟨h.2.1, hF⟩
end Jvm.Pilot.@@N@@
namespace Jvm.Pilot.@@N@@
open Jvm Jvm.ClassFile Sem Op Lib Jvm.Free Jvm.Stand Jvm.Pilot.@@N@@.Jvm.D
/-! MADE BY PROGRAM (witnessworld.py) out of the Statement's table words and the real class files: 13 classes; the members and pool entries that the words name. The judged class is class 1, her method 1. -/
namespace start1
open Jvm.ClassFile
def u (s : String) : CpInfo := .utf8 (stringToUtf16 s)
/-- a pool by its gaps: so many unusable entries, then the entry; so many at the end -/
def gap : Nat → List CpInfo → List CpInfo
  | 0, r => r
  | n + 1, r => .unusable :: gap n r
def poolList (es : List (Nat × CpInfo)) (last : Nat) : List CpInfo := es.foldr (fun e r => gap e.1 (e.2 :: r)) (gap last [])
def pool (es : List (Nat × CpInfo)) (last : Nat) : Array CpInfo := ⟨poolList es last⟩
def fileOf (pool : Array CpInfo) (this : Nat) (attrs : Array Attribute := #[]) (ms : Array MethodInfo := #[]) (fl : Nat := 33) (sup : Nat := 0) (ifs : Array Nat := #[]) (fds : Array FieldInfo := #[]) : ClassFile where
  minorVersion := 0
  majorVersion := 65
  constantPool := pool
  accessFlags := fl
  thisClass := this
  superClass := sup
  interfaces := ifs
  fields := fds
  methods := ms
  attributes := attrs
def plain (name : String) (sup : Option ClassId) : Class where
  name := name
  kind := .ordinary
  loader := none
  accessFlags := 33
  super := sup
  interfaces := #[]
  cf := none
  fields := #[]
  methods := #[]
  instanceTypes := #[]
  staticTypes := #[]
  resolved := #[]
  callSites := []
  init := .initialized
  statics := none
  mirror := none

def pool0 : Array CpInfo := pool [(5, u "<init>"), (0, u "()V"), (1, .class_ 10), (1, u "java/lang/Object")] 113

def k0m0 : Method := { name := "<init>", desc := "()V", sig := { parameters := [], returnType := none }, accessFlags := 1, code := none }
/-- java/lang/Object -/
def k0 : Class := { plain "java/lang/Object" none with
  accessFlags := 33
  interfaces := #[]
  cf := some (fileOf pool0 8 #[] #[{ accessFlags := 1, nameIndex := 5, descriptorIndex := 6, attributes := #[] }] 33 0 #[] #[])
  fields := #[]
  methods := #[k0m0]
  instanceTypes := #[]
  staticTypes := #[]
  resolved := Array.replicate 124 none
  statics := none }

def pool1 : Array CpInfo := pool [(2, .class_ 4), (1, u "java/lang/Object"), (0, u "<init>"), (0, u "()V"), (0, .methodref 8 9), (0, .class_ 10), (0, .nameAndType 11 12), (0, u "com/example/restate/restate/model/WordEdit$Point"), (0, u "removing"), (0, u "(ZZ)Lcom/example/restate/restate/model/WordEdit$Point;"), (0, .fieldref 8 14), (0, .nameAndType 15 16), (0, u "DELETE"), (0, u "Lcom/example/restate/restate/model/WordEdit$Point;"), (0, .fieldref 8 18), (0, .nameAndType 19 16), (0, u "DELETE_AT_END"), (0, .fieldref 8 21), (0, .nameAndType 22 16), (0, u "REPLACE"), (0, .fieldref 8 24), (0, .nameAndType 25 16), (0, u "REPLACE_AT_END"), (0, .class_ 27), (0, u "com/example/restate/restate/model/WordEditRemovingPinLaw"), (2, u "law"), (0, u "(I)Z")] 9

def k1m0 : Method := { name := "<init>", desc := "()V", sig := { parameters := [], returnType := none }, accessFlags := 2, code := none }
def k1c1 : Code := { maxStack := 4, maxLocals := 6, code := code, exceptionTable := #[], attributes := #[] }
def k1m1 : Method := { name := "law", desc := "(I)Z", sig := { parameters := [.int], returnType := some .boolean }, accessFlags := 9, code := some k1c1 }
/-- com/example/restate/restate/model/WordEditRemovingPinLaw -/
def k1 : Class := { plain "com/example/restate/restate/model/WordEditRemovingPinLaw" (some 0) with
  accessFlags := 49
  interfaces := #[]
  cf := some (fileOf pool1 26 #[] #[{ accessFlags := 2, nameIndex := 5, descriptorIndex := 6, attributes := #[] }, { accessFlags := 9, nameIndex := 30, descriptorIndex := 31, attributes := #[] }] 49 2 #[] #[])
  fields := #[]
  methods := #[k1m0, k1m1]
  instanceTypes := #[]
  staticTypes := #[]
  resolved := Array.replicate 41 none
  statics := none }

def pool2 : Array CpInfo := pool [(1, .class_ 2), (0, u "java/lang/constant/Constable"), (0, .class_ 4), (0, u "java/lang/Object")] 6

/-- java/lang/constant/Constable -/
def k2 : Class := { plain "java/lang/constant/Constable" (some 0) with
  accessFlags := 1537
  interfaces := #[]
  cf := some (fileOf pool2 1 #[] #[] 1537 3 #[] #[])
  fields := #[]
  methods := #[]
  instanceTypes := #[]
  staticTypes := #[]
  resolved := Array.replicate 11 none
  statics := none }

def pool3 : Array CpInfo := pool [(1, .class_ 2), (0, u "java/lang/Comparable"), (0, .class_ 4), (0, u "java/lang/Object")] 7

/-- java/lang/Comparable -/
def k3 : Class := { plain "java/lang/Comparable" (some 0) with
  accessFlags := 1537
  interfaces := #[]
  cf := some (fileOf pool3 1 #[] #[] 1537 3 #[] #[])
  fields := #[]
  methods := #[]
  instanceTypes := #[]
  staticTypes := #[]
  resolved := Array.replicate 12 none
  statics := none }

def pool4 : Array CpInfo := pool [(1, .class_ 2), (0, u "java/io/Serializable"), (0, .class_ 4), (0, u "java/lang/Object")] 2

/-- java/io/Serializable -/
def k4 : Class := { plain "java/io/Serializable" (some 0) with
  accessFlags := 1537
  interfaces := #[]
  cf := some (fileOf pool4 1 #[] #[] 1537 3 #[] #[])
  fields := #[]
  methods := #[]
  instanceTypes := #[]
  staticTypes := #[]
  resolved := Array.replicate 7 none
  statics := none }

def pool5 : Array CpInfo := pool [(2, .class_ 4), (1, u "java/lang/Enum"), (0, u "name"), (0, u "Ljava/lang/String;"), (2, u "ordinal"), (0, u "I"), (1, .class_ 14), (1, u "java/lang/Object"), (4, u "hash"), (86, .class_ 108), (1, u "java/lang/Enum$EnumDesc"), (2, .class_ 112), (0, u "java/lang/constant/Constable"), (0, .class_ 114), (0, u "java/lang/Comparable"), (0, .class_ 116), (0, u "java/io/Serializable")] 87

/-- java/lang/Enum -/
def k5 : Class := { plain "java/lang/Enum" (some 0) with
  accessFlags := 1057
  interfaces := #[2, 3, 4]
  cf := some (fileOf pool5 2 #[.nestMembers #[106]] #[] 1057 12 #[111, 113, 115] #[{ accessFlags := 18, nameIndex := 5, descriptorIndex := 6, attributes := #[] }, { accessFlags := 18, nameIndex := 9, descriptorIndex := 10, attributes := #[] }, { accessFlags := 2, nameIndex := 19, descriptorIndex := 10, attributes := #[] }])
  fields := #[{ name := "name", type := (.object "java/lang/String"), accessFlags := 18, slot := 0, constantValue := 0 }, { name := "ordinal", type := .int, accessFlags := 18, slot := 1, constantValue := 0 }, { name := "hash", type := .int, accessFlags := 2, slot := 2, constantValue := 0 }]
  methods := #[]
  instanceTypes := #[(.object "java/lang/String"), .int, .int]
  staticTypes := #[]
  resolved := Array.replicate 204 none
  statics := none }

def pool6 : Array CpInfo := pool [(1, .class_ 2), (0, u "com/example/restate/restate/model/WordEdit$Point"), (0, .fieldref 1 4), (0, .nameAndType 5 6), (0, u "REPLACE"), (0, u "Lcom/example/restate/restate/model/WordEdit$Point;"), (0, .fieldref 1 8), (0, .nameAndType 9 6), (0, u "REPLACE_AT_END"), (0, .fieldref 1 11), (0, .nameAndType 12 6), (0, u "DELETE"), (0, .fieldref 1 14), (0, .nameAndType 15 6), (0, u "DELETE_AT_END"), (2, u "BEGINNING"), (2, u "AFTER"), (2, u "CLAUSE_END"), (2, u "$VALUES"), (0, u "[Lcom/example/restate/restate/model/WordEdit$Point;"), (6, .class_ 37), (1, u "java/lang/Enum"), (8, u "within"), (0, u "Ljava/util/function/Function;"), (2, u "done"), (0, u "Ljava/lang/String;"), (2, u "deletes"), (0, u "Z"), (2, u "atEnd"), (42, u "removing"), (0, u "(ZZ)Lcom/example/restate/restate/model/WordEdit$Point;"), (12, .class_ 116), (0, u "com/example/restate/restate/model/WordEdit")] 45

def k6c0 : Code := { maxStack := 1, maxLocals := 3, code := prog_104_method_4_code, exceptionTable := #[], attributes := #[] }
def k6m0 : Method := { name := "removing", desc := "(ZZ)Lcom/example/restate/restate/model/WordEdit$Point;", sig := { parameters := [.boolean, .boolean], returnType := some (.object "com/example/restate/restate/model/WordEdit$Point") }, accessFlags := 8, code := some k6c0 }
/-- com/example/restate/restate/model/WordEdit$Point -/
def k6 : Class := { plain "com/example/restate/restate/model/WordEdit$Point" (some 5) with
  accessFlags := 16432
  interfaces := #[]
  cf := some (fileOf pool6 1 #[.nestHost 115] #[{ accessFlags := 8, nameIndex := 101, descriptorIndex := 102, attributes := #[] }] 16432 35 #[] #[{ accessFlags := 16409, nameIndex := 5, descriptorIndex := 6, attributes := #[] }, { accessFlags := 16409, nameIndex := 9, descriptorIndex := 6, attributes := #[] }, { accessFlags := 16409, nameIndex := 12, descriptorIndex := 6, attributes := #[] }, { accessFlags := 16409, nameIndex := 15, descriptorIndex := 6, attributes := #[] }, { accessFlags := 16409, nameIndex := 18, descriptorIndex := 6, attributes := #[] }, { accessFlags := 16409, nameIndex := 21, descriptorIndex := 6, attributes := #[] }, { accessFlags := 16409, nameIndex := 24, descriptorIndex := 6, attributes := #[] }, { accessFlags := 18, nameIndex := 46, descriptorIndex := 47, attributes := #[] }, { accessFlags := 18, nameIndex := 50, descriptorIndex := 51, attributes := #[] }, { accessFlags := 18, nameIndex := 54, descriptorIndex := 55, attributes := #[] }, { accessFlags := 18, nameIndex := 58, descriptorIndex := 55, attributes := #[] }, { accessFlags := 4122, nameIndex := 27, descriptorIndex := 28, attributes := #[] }])
  fields := #[{ name := "REPLACE", type := (.object "com/example/restate/restate/model/WordEdit$Point"), accessFlags := 16409, slot := 0, constantValue := 0 }, { name := "REPLACE_AT_END", type := (.object "com/example/restate/restate/model/WordEdit$Point"), accessFlags := 16409, slot := 1, constantValue := 0 }, { name := "DELETE", type := (.object "com/example/restate/restate/model/WordEdit$Point"), accessFlags := 16409, slot := 2, constantValue := 0 }, { name := "DELETE_AT_END", type := (.object "com/example/restate/restate/model/WordEdit$Point"), accessFlags := 16409, slot := 3, constantValue := 0 }, { name := "BEGINNING", type := (.object "com/example/restate/restate/model/WordEdit$Point"), accessFlags := 16409, slot := 4, constantValue := 0 }, { name := "AFTER", type := (.object "com/example/restate/restate/model/WordEdit$Point"), accessFlags := 16409, slot := 5, constantValue := 0 }, { name := "CLAUSE_END", type := (.object "com/example/restate/restate/model/WordEdit$Point"), accessFlags := 16409, slot := 6, constantValue := 0 }, { name := "within", type := (.object "java/util/function/Function"), accessFlags := 18, slot := 3, constantValue := 0 }, { name := "done", type := (.object "java/lang/String"), accessFlags := 18, slot := 4, constantValue := 0 }, { name := "deletes", type := .boolean, accessFlags := 18, slot := 5, constantValue := 0 }, { name := "atEnd", type := .boolean, accessFlags := 18, slot := 6, constantValue := 0 }, { name := "$VALUES", type := (.array (.object "com/example/restate/restate/model/WordEdit$Point")), accessFlags := 4122, slot := 7, constantValue := 0 }]
  methods := #[k6m0]
  instanceTypes := #[(.object "java/lang/String"), .int, .int, (.object "java/util/function/Function"), (.object "java/lang/String"), .boolean, .boolean]
  staticTypes := #[(.object "com/example/restate/restate/model/WordEdit$Point"), (.object "com/example/restate/restate/model/WordEdit$Point"), (.object "com/example/restate/restate/model/WordEdit$Point"), (.object "com/example/restate/restate/model/WordEdit$Point"), (.object "com/example/restate/restate/model/WordEdit$Point"), (.object "com/example/restate/restate/model/WordEdit$Point"), (.object "com/example/restate/restate/model/WordEdit$Point"), (.array (.object "com/example/restate/restate/model/WordEdit$Point"))]
  resolved := Array.replicate 162 none
  statics := some 0 }

def pool7 : Array CpInfo := pool [(1, u "java/lang/Cloneable"), (0, .class_ 1), (0, u "java/lang/Object"), (0, .class_ 3)] 3

/-- java/lang/Cloneable -/
def k7 : Class := { plain "java/lang/Cloneable" (some 0) with
  accessFlags := 1537
  interfaces := #[]
  cf := some (fileOf pool7 2 #[] #[] 1537 4 #[] #[])
  fields := #[]
  methods := #[]
  instanceTypes := #[]
  staticTypes := #[]
  resolved := Array.replicate 8 none
  statics := none }

/-- the primitive byte -/
def k8 : Class := { plain "byte" none with kind := .primitive 'B', accessFlags := 0x411 }
/-- [B -/
def k9 : Class := { plain "[B" (some 0) with kind := .array 8 .byte, interfaces := #[7, 4], accessFlags := 1041 }

/-- the primitive int -/
def k10 : Class := { plain "int" none with kind := .primitive 'I', accessFlags := 0x411 }
/-- [I -/
def k11 : Class := { plain "[I" (some 0) with kind := .array 10 .int, interfaces := #[7, 4], accessFlags := 1041 }

/-- [Lcom/example/restate/restate/model/WordEdit$Point; -/
def k12 : Class := { plain "[Lcom/example/restate/restate/model/WordEdit$Point;" (some 0) with kind := .array 6 (.object "com/example/restate/restate/model/WordEdit$Point"), interfaces := #[7, 4], accessFlags := 1041 }

def heap : Heap := #[{ cls := 6, slots := #[.ref 3, .ref 4, .ref 1, .ref 2, .null, .null, .null, .null], vm := .statics 6 },
  { cls := 6, slots := #[.null, .int 0, .int 0, .null, .null, .int 0, .int 0], vm := .none },
  { cls := 6, slots := #[.null, .int 0, .int 0, .null, .null, .int 0, .int 0], vm := .none },
  { cls := 6, slots := #[.null, .int 0, .int 0, .null, .null, .int 0, .int 0], vm := .none },
  { cls := 6, slots := #[.null, .int 0, .int 0, .null, .null, .int 0, .int 0], vm := .none }]
def classes : Array Class := #[k0, k1, k2, k3, k4, k5, k6, k7, k8, k9, k10, k11, k12]
def interned : List (Array UInt16 × Addr) := []
def slotsUsed : Nat := 36
def theMethod : MethodId := ⟨1, 1⟩
def args0 : Array Value := #[.int 3]
def aboutOver (below : List Frame) : State where
  vm := { classes := classes, interned := interned.toArray }
  heap := heap
  slotsUsed := slotsUsed
  threads := #[{ frames := .invoking theMethod args0 :: below }]
def below0 : List Frame := [.native { method := ⟨0, 0⟩, args := #[] }]
def about1 : State := aboutOver below0
def p0 : Program := .bare "" "" ""
def e0 : Env := launch0.env 0 0 0
theorem w_frames : about1.frames = Frame.invoking theMethod args0 :: below0 := rfl
set_option maxRecDepth 65536 in
theorem w_args : argsFit about1.vm theMethod args0 = true := by decide +kernel
set_option maxRecDepth 65536 in
theorem w_heap : heapFits about1 = true := by decide +kernel
set_option maxRecDepth 65536 in
theorem w_runnable : about1.curStatus? = some .runnable := by decide +kernel
set_option maxRecDepth 65536 in
theorem w_alone : about1.alone = true := by decide +kernel
set_option maxRecDepth 65536 in
theorem w_named : about1.methodNamed? x = some theMethod := by decide +kernel
set_option maxRecDepth 65536 in
theorem w_hears : about1.hears theMethod below0 = true := by decide +kernel
set_option maxRecDepth 65536 in
theorem w_ripe : about1.ripe theMethod args0 below0 = true := by decide +kernel
theorem w_running : about1.status = .running := rfl
set_option maxRecDepth 65536 in
theorem w_room : about1.hasRoom e0.platform room_1 = true :=
  launch0.hasRoom_least _ room_1 (by decide +kernel) (by decide +kernel) (by decide +kernel) (by decide +kernel) (by decide +kernel) (by decide +kernel)
theorem allAtoms_all (ts : List Jvm.Cond) (a : Array Jvm.Value) (st : Jvm.State) : (allAtoms ts).before a st = ts.all (fun c => c.before a st) := by
  induction ts with
  | nil => rfl
  | cons c t ih =>
    show (Jvm.Cond.and c (allAtoms t)).before a st = _
    rw [Jvm.Cond.before_and, ih, List.all_cons]
def words1 : List Jvm.Cond := Jvm.Cond.code x code maxLocals ret :: tables_1
/-- a 'code' word, met by the world's own term for the bytes: nothing is compared byte by byte -/
theorem code_word {y : MethodName} {bytes : ByteArray} {mx : Nat} {rt : Option FieldType} {a : Array Value} {s : State} {m : MethodId} {meth : Method} {c : Code} (h1 : s.methodNamed? y = some m) (h2 : s.vm.method? m = some meth) (h3 : meth.code = some c) (h4 : c.code = bytes)
    (h5 : (c.maxLocals == mx && c.exceptionTable.isEmpty && decide (c.maxStack ≤ mostOperands) && decide (meth.sig.returnType = rt) && !meth.locks && decide (parseMethodDescriptor y.desc = some meth.sig)) = true) : (Jvm.Cond.code y bytes mx rt).before a s = true := by
  simp only [Bool.and_eq_true, beq_iff_eq, Bool.not_eq_true', decide_eq_true_eq] at h5
  obtain ⟨⟨⟨⟨⟨g1, g2⟩, g3⟩, g4⟩, g5⟩, g6⟩ := h5
  simp [Cond.before, Cond.holds, Cond.value, h1, h2, h3, h4, g1, g2, g3, g4, g5, g6]
def isCode : Jvm.Cond → Bool
  | .code _ _ _ _ => true
  | _ => false
theorem all_split {L : List Jvm.Cond} {P : Jvm.Cond → Bool} (h1 : L.all (fun c => isCode c || P c) = true) (h2 : ∀ c ∈ L.filter isCode, P c = true) : L.all P = true := by
  refine List.all_eq_true.mpr fun c hc => ?_
  have h := List.all_eq_true.mp h1 c hc
  rcases Bool.eq_false_or_eq_true (isCode c) with hi | hi
  · exact h2 c (List.mem_filter.mpr ⟨hc, hi⟩)
  · simpa [hi] using h
set_option maxRecDepth 65536 in
theorem w_c0 : (Jvm.Cond.code x code maxLocals ret).before args0 about1 = true := code_word (m := ⟨1, 1⟩) (meth := k1m1) (c := k1c1) (by decide +kernel) rfl rfl rfl (by decide +kernel)
set_option maxRecDepth 65536 in
theorem w_c1 : (Jvm.Cond.code ({ cls := "com/example/restate/restate/model/WordEdit$Point", name := "removing", desc := "(ZZ)Lcom/example/restate/restate/model/WordEdit$Point;" } : Jvm.MethodName) prog_104_method_4_code (3 : Nat) (Option.some (Jvm.ClassFile.FieldType.object "com/example/restate/restate/model/WordEdit$Point"))).before args0 about1 = true := code_word (m := ⟨6, 0⟩) (meth := k6m0) (c := k6c0) (by decide +kernel) rfl rfl rfl (by decide +kernel)
def codes1 : List Jvm.Cond := [Jvm.Cond.code x code maxLocals ret, Jvm.Cond.code ({ cls := "com/example/restate/restate/model/WordEdit$Point", name := "removing", desc := "(ZZ)Lcom/example/restate/restate/model/WordEdit$Point;" } : Jvm.MethodName) prog_104_method_4_code (3 : Nat) (Option.some (Jvm.ClassFile.FieldType.object "com/example/restate/restate/model/WordEdit$Point"))]
set_option maxRecDepth 65536 in
theorem codes_eq : words1.filter isCode = codes1 := rfl
theorem w_codes : ∀ c ∈ words1.filter isCode, c.before args0 about1 = true := by
  rw [codes_eq]
  intro c hc
  simp only [codes1, List.mem_cons, List.not_mem_nil, or_false] at hc
  rcases hc with rfl | rfl
  · exact w_c0
  · exact w_c1
set_option maxRecDepth 65536 in
theorem w_t1 : words1.all (fun c => isCode c || c.before args0 about1) = true := by decide +kernel
theorem w_tables : (allAtoms (Jvm.Cond.code x code maxLocals ret :: tables_1)).before args0 about1 = true := by
  rw [allAtoms_all]
  show words1.all (fun c => c.before args0 about1) = true
  refine all_split ?_ w_codes
  rw [w_t1]
set_option maxRecDepth 65536 in
theorem w_case : (Jvm.Cond.and given_1 narrow_1).before args0 about1 = true := by decide +kernel
theorem w_applies : (headSpec (Jvm.Cond.code x code maxLocals ret :: tables_1) room_1).applies x e0.platform about1 = true :=
  (Spec.applies_iff w_frames).mpr ⟨w_running, w_runnable, w_alone, w_named, w_hears, w_ripe, w_room, w_tables⟩
theorem atStart : AtStart classFile x code maxLocals ret World_1 tables_1 room_1 Calls_1 rest_1 Pre_1 launch0 p0 e0 about1 theMethod args0 below0 :=
  ⟨lists_1, trivial, launch0.admits_env _ _ _, launch0.least_env, fairChoices_fair.cas, fairChoices_fair.clock, w_frames, w_args, w_heap, w_applies, trivial, trivial, w_case⟩
end start1
theorem witness_1 : WitnessClaimed_1 := ⟨start1.p0, start1.e0, start1.about1, start1.theMethod, start1.args0, start1.below0, start1.atStart⟩
end Jvm.Pilot.@@N@@
