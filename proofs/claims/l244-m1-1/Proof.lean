import JvmDerived
import JvmDerived.Pilot.@@N@@Statement
import JvmDerived.Pilot.@@N@@Code
set_option linter.unusedVariables false
set_option linter.unusedSimpArgs false
namespace Jvm.Pilot.@@N@@
open Jvm Jvm.ClassFile Sem Op Lib Jvm.Free Jvm.Stand Jvm.LawKit Jvm.RoadKit Bundle Jvm.Pilot.@@N@@.Jvm.D
/-! the run from a frame on: it ends, and what it leaves -/
def own_F (p : Program) (e : Env) (below : List Frame) (Q : Outcome → State → Prop) (T : State) (g : JFrame) : Prop :=
  ∃ s₂ o, Steps p.tables e below (T.setTop g) s₂ ∧ s₂.status = .running ∧ Ended s₂ below o ∧ Q o s₂
theorem own_go {p : Program} {e : Env} {below : List Frame} {Q : Outcome → State → Prop} {T T' : State} {g g' : JFrame} (st : ∀ target, Steps p.tables e below (T'.setTop g') target → Steps p.tables e below (T.setTop g) target) (k : own_F p e below Q T' g') : own_F p e below Q T g := by
  obtain ⟨s₂, o, h1, h2, h3, h4⟩ := k
  exact ⟨s₂, o, st _ h1, h2, h3, h4⟩
theorem own_goT {p : Program} {e : Env} {below : List Frame} {Q : Outcome → State → Prop} {T T' : State} {g g' : JFrame} (st : Steps p.tables e below (T.setTop g) (T'.setTop g')) (k : own_F p e below Q T' g') : own_F p e below Q T g := by
  obtain ⟨s₂, o, h1, h2, h3, h4⟩ := k
  exact ⟨s₂, o, st.trans h1, h2, h3, h4⟩
theorem own_end {p : Program} {e : Env} {below : List Frame} {Q : Outcome → State → Prop} {T s₂ : State} {g : JFrame} {o : Outcome} (st : Steps p.tables e below (T.setTop g) s₂) (h1 : s₂.status = .running) (h2 : Ended s₂ below o) (h3 : Q o s₂) : own_F p e below Q T g := ⟨s₂, o, st, h1, h2, h3⟩
theorem own_ext_tr {h0 h h' : Heap} (E : Ext h0 h) (E' : Ext h h') : Ext h0 h' := ⟨Nat.le_trans E.1 E'.1, fun a c q => E'.2 a c (E.2 a c q)⟩
theorem own_ext_rf (h : Heap) : Ext h h := ⟨Nat.le_refl _, fun _ _ q => q⟩
theorem own_ext_keep {h0 h h' : Heap} {ws : List Addr} (E : Ext h0 h) (K : Keep h h' ws) (q : ∀ x ∈ ws, h0.size ≤ x) : Ext h0 h' :=
  ⟨Nat.le_trans E.1 K.1, fun a c ha => K.2.1 a c (E.2 a c ha) fun k => absurd (Array.getElem?_eq_some_iff.mp ha).1 (Nat.not_lt.mpr (q a k))⟩
theorem own_ext_wr {h0 h h' : Heap} {a : Addr} {sl : Nat} {v : Value} (E : Ext h0 h) (W : Wr h h' a sl v) (q : h0.size ≤ a) : Ext h0 h' :=
  own_ext_keep E (Keep.of_wr W) fun x hx => by cases List.mem_singleton.mp hx; exact q
theorem own_one {a b : Addr} (h : a ≠ b) : a ∉ [b] := fun q => h (List.mem_singleton.mp q)
theorem own_all1 {n : Nat} {b : Addr} (h : n ≤ b) : ∀ x ∈ [b], n ≤ x := fun x hx => by cases List.mem_singleton.mp hx; exact h
theorem own_all0 {n : Nat} : ∀ x ∈ ([] : List Addr), n ≤ x := fun x hx => nomatch hx
theorem own_lt_t {x y : Int64} (h : x < y) : lcmpW x y < 0 := by rw [lcW]; exact (lc_lt _ _).mpr h
theorem own_lt_f {x y : Int64} (h : ¬ x < y) : ¬ lcmpW x y < 0 := by rw [lcW]; exact fun k => h ((lc_lt _ _).mp k)
theorem own_gt_t {x y : Int64} (h : y < x) : 0 < lcmpW x y := by rw [lcW]; exact (lc_gt _ _).mpr h
theorem own_gt_f {x y : Int64} (h : ¬ y < x) : ¬ 0 < lcmpW x y := by rw [lcW]; exact fun k => h ((lc_gt _ _).mp k)
theorem own_eq_t {x y : Int64} (h : x = y) : lcmpW x y = 0 := by rw [lcW]; exact (lc_eq _ _).mpr h
theorem own_eq_f {x y : Int64} (h : ¬ x = y) : ¬ lcmpW x y = 0 := by rw [lcW]; exact fun k => h ((lc_eq _ _).mp k)
section OwnWords
variable {args : Array Value} {s : State} {t u : Term}
theorem own_eqi {k : Int32} (h : (Jvm.Cond.eq t (.int k)).value args s none s [] = some true) : t.eval args s none [] s = some (.int k) := by
  simp only [Cond.value, Term.eval] at h
  cases ht : t.eval args s none [] s with
  | none => simp [ht] at h
  | some x => cases x <;> simp [ht] at h ⊢; exact h
theorem own_eqr {b : Addr} (h : (Jvm.Cond.eq t u).value args s none s [] = some true) (hu : u.eval args s none [] s = some (.ref b)) : t.eval args s none [] s = some (.ref b) := by
  simp only [Cond.value, hu] at h
  cases ht : t.eval args s none [] s with
  | none => simp [ht] at h
  | some x => cases x <;> simp [ht] at h ⊢; exact h
theorem own_len {a : Addr} {k : Int32} {n : Nat} {cl : Cell} {ty : FieldType} (ht : t.eval args s none [] s = some (.ref a)) (h : (Term.length t).eval args s none [] s = some (.int k)) (A : RoadKit.Arr s s.heap a cl ty) (hk : k.toNatClampNeg = n) : cl.slots.size = n := by
  have ha : s.arrayAt? a = some cl := A.fin (Vm.Alike.refl _)
  by_cases hn : cl.slots.size < 2 ^ 31
  · rw [len_f ht ha hn] at h
    have e := Value.int.inj (Option.some.inj h)
    have q : cl.slots.size.toInt32.toInt = cl.slots.size := len_toInt hn
    rw [← hk, ← e]
    show _ = cl.slots.size.toInt32.toInt.toNat
    rw [q]; rfl
  · simp [Term.eval, ht, ha, hn] at h
theorem own_elem {a : Addr} {j : Int32} {v : Value} {cl : Cell} (ht : t.eval args s none [] s = some (.ref a)) (h : (Term.elem t (.int j)).eval args s none [] s = some v) (hc : s.heap[a]? = some cl) : cl.slots[j.toNatClampNeg]? = some v := (elem_in h ht (Term.int_eval j) hc).2
end OwnWords
theorem own_fne {Z : State} {h : Heap} {a b : Addr} {C n d : String} {x y : Value} (F : Fld Z h a C n d x) (G : Fld Z h b C n d y) (hn : x ≠ y) : a ≠ b := fun e => by
  subst e
  obtain ⟨c1, cf1, k1, i1, f1, h1, h2, -, -, -, -, h7⟩ := F
  obtain ⟨c2, cf2, k2, i2, f2, g1, g2, -, -, -, -, g7⟩ := G
  cases h1.symm.trans g1
  cases h2.symm.trans g2
  exact hn (Option.some.inj (h7.symm.trans g7))
/-! an array whose elements are all known -/
def own_A (Z : State) (h : Heap) (a : Addr) (k : ClassId) (ty : FieldType) (vs : List Value) : Prop := ∃ c : Cell, RoadKit.Arr Z h a c ty ∧ c.cls = k ∧ c.slots = vs.toArray
section OwnArrays
variable {Z : State} {h h' : Heap} {a b : Addr} {k : ClassId} {ty : FieldType} {vs : List Value} {sl : Nat} {v : Value} {ws : List Addr}
theorem own_A.lt (F : own_A Z h a k ty vs) : a < h.size := by obtain ⟨c, A, -⟩ := F; exact A.lt
theorem own_A.ext (F : own_A Z h a k ty vs) (E : Ext h h') : own_A Z h' a k ty vs := by obtain ⟨c, A, r⟩ := F; exact ⟨c, A.ext E, r⟩
theorem own_A.other (F : own_A Z h b k ty vs) (W : Wr h h' a sl v) (q : b ≠ a) : own_A Z h' b k ty vs := by obtain ⟨c, A, r⟩ := F; exact ⟨c, A.other W q, r⟩
theorem own_A.keep (F : own_A Z h a k ty vs) (K : Keep h h' ws) (q : a ∉ ws) : own_A Z h' a k ty vs := by obtain ⟨c, A, r⟩ := F; exact ⟨c, ⟨K.2.1 a c A.1 q, A.2⟩, r⟩
theorem own_A.new {n : Int32} {N : Nat} (A : RoadKit.Arr Z h a (newA k ty n) ty) (hN : n.toNatClampNeg = N) : own_A Z h a k ty (List.replicate N (defaultValue ty)) := ⟨_, A, rfl, by subst hN; simp [newA]⟩
theorem own_A.set (F : own_A Z h a k ty vs) (W : Wr h h' a sl v) : own_A Z h' a k ty (vs.set sl v) := by
  obtain ⟨c, A, q, e⟩ := F
  exact ⟨c.setSlot sl v, A.same W, q, by simp [Cell.setSlot, e]⟩
def own_el (c : Cell) : Nat → List Value → Prop
  | _, [] => True
  | i, v :: vs => c.slots[i]? = some v ∧ own_el c (i + 1) vs
theorem own_el_get {c : Cell} : ∀ (vs : List Value) (i : Nat), own_el c i vs → ∀ j, j < vs.length → c.slots[i + j]? = vs[j]?
  | [], _, _, j, hj => by simp at hj
  | v :: vs, i, H, 0, _ => by simpa using H.1
  | v :: vs, i, H, j + 1, hj => by
    have := own_el_get vs (i + 1) H.2 j (by simpa using hj)
    rw [show i + (j + 1) = i + 1 + j by omega, this]; simp
theorem own_A.of {c : Cell} (A : RoadKit.Arr Z h a c ty) (hs : c.slots.size = vs.length) (H : own_el c 0 vs) : own_A Z h a c.cls ty vs := by
  refine ⟨c, A, rfl, ?_⟩
  apply Array.ext_getElem?
  intro i
  by_cases hi : i < vs.length
  · have := own_el_get vs 0 H i hi
    rw [Nat.zero_add] at this
    rw [this]; simp
  · rw [Array.getElem?_eq_none (by omega), Array.getElem?_eq_none (by simp; omega)]
theorem own_getD {α : Type} (xs : List α) {i : Nat} (d : α) (hi : i < xs.length) : xs.getD i d = xs[i] := by simp [List.getD, hi]
theorem own_A.arv {z : Int32} {d : Value} (F : own_A Z h a k ty vs) (hz : ¬ z < 0) (hl : vs.length = z.toNatClampNeg) (hf : ∀ v ∈ vs, fits ty v = true) : Arv Z h a k ty z vs d := by
  obtain ⟨c, A, q, e⟩ := F
  refine ⟨c, A, q, by rw [e, List.size_toArray]; exact hl, hz, fun i hi => ?_, fun i hi => ?_⟩
  · rw [e, List.size_toArray] at hi
    rw [e, List.getElem?_toArray, List.getElem?_eq_getElem hi, own_getD _ _ hi]
  · rw [e, List.size_toArray] at hi
    rw [own_getD _ _ hi]; exact hf _ (List.getElem_mem hi)
theorem own_A.of_arv {z : Int32} {d : Value} (F : Arv Z h a k ty z vs d) (hl : vs.length = z.toNatClampNeg) : own_A Z h a k ty vs := by
  obtain ⟨c, A, q, S, -, H, -⟩ := F
  refine ⟨c, A, q, ?_⟩
  apply Array.ext_getElem?
  intro i
  by_cases hi : i < vs.length
  · rw [H i (by omega), List.getElem?_toArray, List.getElem?_eq_getElem hi, own_getD _ _ hi]
  · rw [Array.getElem?_eq_none (by omega), Array.getElem?_eq_none (by simp; omega)]
theorem own_A.sto {C : String} {y : Addr} (F : own_A Z h a k (.object C) vs) (O : Ovr Z k C) (I : Ins Z h y C true) : Sto Z h a (.ref y) := by
  obtain ⟨c, A, q, -⟩ := F
  exact Sto.ofV A q O I
variable {p : Program} {l : Launch} {e : Env} {R : Room} {s : State} {m : MethodId} {args : Array Value} {below : List Frame} {meth : Method} {c : Code} {T : State} {locs : List Loc} {cells slots : Nat}
theorem own_alen (X : Stand p l e R s m args below meth c T locs cells slots) (hx : p.tables.exec = Jvm.exec) (hZ : Z.Warmed39 s.vm) (eT : T.heap = h) (A : own_A Z h a k ty vs) {g : JFrame} (hg : g.method = m) {rest : List Value} (hs : g.stack = .ref a :: rest) (hd : decode c.code g.pc = .ok (.arraylength, 1)) {n : Int32} (hn : vs.length.toInt32 = n) {target : State}
    (hr : Steps p.tables e below (T.setTop { g with pc := g.pc + 1, stack := .int n :: rest }) target) : Steps p.tables e below (T.setTop g) target := by
  obtain ⟨c', A, -, e'⟩ := A
  refine X.arraylength hx (by rw [eT]; exact A.1) (State.isArrayOf_alike hZ.alike A.2.1) hg hs hd _ ?_
  rw [show c'.slots.size.toInt32 = n by rw [e', List.size_toArray]; exact hn]
  exact hr
theorem own_in {c' : Cell} {j : Int32} (e' : c'.slots = vs.toArray) (hj : ¬ j < 0) (hv : vs[j.toNatClampNeg]? = some v) : c'.slots[j.toNatClampNeg]? = some v ∧ ¬ (j < 0 ∨ c'.slots.size ≤ j.toNatClampNeg) := by
  have hv' : c'.slots[j.toNatClampNeg]? = some v := by rw [e', List.getElem?_toArray]; exact hv
  exact ⟨hv', fun q => q.elim hj fun z => absurd (Array.getElem?_eq_some_iff.mp hv').1 (Nat.not_lt.mpr z)⟩
theorem own_baload (X : Stand p l e R s m args below meth c T locs cells slots) (hx : p.tables.exec = Jvm.exec) (hZ : Z.Warmed39 s.vm) (eT : T.heap = h) (A : own_A Z h a k .byte vs) {j : Int32} (hj : ¬ j < 0) (hv : vs[j.toNatClampNeg]? = some v) {g : JFrame} (hg : g.method = m) {rest : List Value} (hs : g.stack = .int j :: .ref a :: rest) (hd : decode c.code g.pc = .ok (.baload, 1)) {target : State}
    (hr : Steps p.tables e below (T.setTop { g with pc := g.pc + 1, stack := v :: rest }) target) : Steps p.tables e below (T.setTop g) target := by
  obtain ⟨c', A, -, e'⟩ := A
  obtain ⟨hv', hin⟩ := own_in e' hj hv
  exact X.baloadBytes hx (by rw [eT]; exact A.1) (State.isArrayOf_alike hZ.alike A.2.1) A.2.2 hin hv' hg hs hd _ hr
theorem own_laload (X : Stand p l e R s m args below meth c T locs cells slots) (hx : p.tables.exec = Jvm.exec) (hZ : Z.Warmed39 s.vm) (eT : T.heap = h) (A : own_A Z h a k .long vs) {j : Int32} (hj : ¬ j < 0) (hv : vs[j.toNatClampNeg]? = some v) {g : JFrame} (hg : g.method = m) {rest : List Value} (hs : g.stack = .int j :: .ref a :: rest) (hd : decode c.code g.pc = .ok (.laload, 1)) {target : State}
    (hr : Steps p.tables e below (T.setTop { g with pc := g.pc + 1, stack := v :: rest }) target) : Steps p.tables e below (T.setTop g) target := by
  obtain ⟨c', A, -, e'⟩ := A
  obtain ⟨hv', hin⟩ := own_in e' hj hv
  exact X.laload hx (by rw [eT]; exact A.1) (State.isArrayOf_alike hZ.alike A.2.1) A.2.2 hin hv' hg hs hd _ hr
theorem own_iaload (X : Stand p l e R s m args below meth c T locs cells slots) (hx : p.tables.exec = Jvm.exec) (hZ : Z.Warmed39 s.vm) (eT : T.heap = h) (A : own_A Z h a k .int vs) {j : Int32} (hj : ¬ j < 0) (hv : vs[j.toNatClampNeg]? = some v) {g : JFrame} (hg : g.method = m) {rest : List Value} (hs : g.stack = .int j :: .ref a :: rest) (hd : decode c.code g.pc = .ok (.iaload, 1)) {target : State}
    (hr : Steps p.tables e below (T.setTop { g with pc := g.pc + 1, stack := v :: rest }) target) : Steps p.tables e below (T.setTop g) target := by
  obtain ⟨c', A, -, e'⟩ := A
  obtain ⟨hv', hin⟩ := own_in e' hj hv
  exact X.iaload hx (by rw [eT]; exact A.1) (State.isArrayOf_alike hZ.alike A.2.1) A.2.2 hin hv' hg hs hd _ hr
theorem own_caload (X : Stand p l e R s m args below meth c T locs cells slots) (hx : p.tables.exec = Jvm.exec) (hZ : Z.Warmed39 s.vm) (eT : T.heap = h) (A : own_A Z h a k .char vs) {j : Int32} (hj : ¬ j < 0) (hv : vs[j.toNatClampNeg]? = some v) {g : JFrame} (hg : g.method = m) {rest : List Value} (hs : g.stack = .int j :: .ref a :: rest) (hd : decode c.code g.pc = .ok (.caload, 1)) {target : State}
    (hr : Steps p.tables e below (T.setTop { g with pc := g.pc + 1, stack := v :: rest }) target) : Steps p.tables e below (T.setTop g) target := by
  obtain ⟨c', A, -, e'⟩ := A
  obtain ⟨hv', hin⟩ := own_in e' hj hv
  exact X.caload hx (by rw [eT]; exact A.1) (State.isArrayOf_alike hZ.alike A.2.1) A.2.2 hin hv' hg hs hd _ hr
theorem own_aaload (X : Stand p l e R s m args below meth c T locs cells slots) (hx : p.tables.exec = Jvm.exec) (hZ : Z.Warmed39 s.vm) (eT : T.heap = h) (A : own_A Z h a k ty vs) {j : Int32} (hj : ¬ j < 0) (hv : vs[j.toNatClampNeg]? = some v) (ht : ty.isReference = true) {g : JFrame} (hg : g.method = m) {rest : List Value} (hs : g.stack = .int j :: .ref a :: rest) (hd : decode c.code g.pc = .ok (.aaload, 1)) {target : State}
    (hr : Steps p.tables e below (T.setTop { g with pc := g.pc + 1, stack := v :: rest }) target) : Steps p.tables e below (T.setTop g) target := by
  obtain ⟨c', A, -, e'⟩ := A
  obtain ⟨hv', hin⟩ := own_in e' hj hv
  exact X.aaload hx (by rw [eT]; exact A.1) (State.isArrayOf_alike hZ.alike A.2.1) ht A.2.2 hin hv' hg hs hd _ hr
theorem own_inb {c' : Cell} {j : Int32} {i : Nat} (e' : c'.slots = vs.toArray) (hi : j.toNatClampNeg = i) (hj : ¬ j < 0) (hl : i < vs.length) : ¬ (j < 0 ∨ c'.slots.size ≤ j.toNatClampNeg) := fun q => q.elim hj fun z => by
  rw [e', List.size_toArray, hi] at z; omega
theorem own_bastore (X : Stand p l e R s m args below meth c T locs cells slots) (hx : p.tables.exec = Jvm.exec) (hZ : Z.Warmed39 s.vm) (eT : T.heap = h) (A : own_A Z h a k .byte vs) {j x : Int32} {i : Nat} (hi : j.toNatClampNeg = i) (hj : ¬ j < 0) (hl : i < vs.length) {g : JFrame} (hg : g.method = m) {rest : List Value} (hs : g.stack = .int x :: .int j :: .ref a :: rest) (hd : decode c.code g.pc = .ok (.bastore, 1)) :
    ∃ T' h', Stand p l e R s m args below meth c T' (locs ++ [⟨a, i⟩]) cells slots ∧ T'.heap = h' ∧ own_A Z h' a k .byte (vs.set i (.int (nar .byte x))) ∧ Wr h h' a i (.int (nar .byte x)) ∧ ∀ target, Steps p.tables e below (T'.setTop { g with pc := g.pc + 1, stack := rest }) target → Steps p.tables e below (T.setTop g) target := by
  obtain ⟨c', A', q, e'⟩ := A
  obtain ⟨T', h', X', e1, W, st⟩ := stB X hx hZ eT A' (own_inb e' hi hj hl) hg hs hd
  subst hi
  exact ⟨T', h', X', e1, own_A.set ⟨c', A', q, e'⟩ W, W, st⟩
theorem own_lastore (X : Stand p l e R s m args below meth c T locs cells slots) (hx : p.tables.exec = Jvm.exec) (hZ : Z.Warmed39 s.vm) (eT : T.heap = h) (A : own_A Z h a k .long vs) {j : Int32} {x : Int64} {i : Nat} (hi : j.toNatClampNeg = i) (hj : ¬ j < 0) (hl : i < vs.length) {g : JFrame} (hg : g.method = m) {rest : List Value} (hs : g.stack = .long x :: .int j :: .ref a :: rest) (hd : decode c.code g.pc = .ok (.lastore, 1)) :
    ∃ T' h', Stand p l e R s m args below meth c T' (locs ++ [⟨a, i⟩]) cells slots ∧ T'.heap = h' ∧ own_A Z h' a k .long (vs.set i (.long x)) ∧ Wr h h' a i (.long x) ∧ ∀ target, Steps p.tables e below (T'.setTop { g with pc := g.pc + 1, stack := rest }) target → Steps p.tables e below (T.setTop g) target := by
  obtain ⟨c', A', q, e'⟩ := A
  obtain ⟨T', h', X', e1, W, st⟩ := stJ X hx hZ eT A' (own_inb e' hi hj hl) hg hs hd
  subst hi
  exact ⟨T', h', X', e1, own_A.set ⟨c', A', q, e'⟩ W, W, st⟩
theorem own_aastore (X : Stand p l e R s m args below meth c T locs cells slots) (hx : p.tables.exec = Jvm.exec) (hZ : Z.Warmed39 s.vm) (eT : T.heap = h) (A : own_A Z h a k ty vs) {j : Int32} {i : Nat} (hi : j.toNatClampNeg = i) (hj : ¬ j < 0) (hl : i < vs.length) (ht : ty.isReference = true) (F : Sto Z h a v) {g : JFrame} (hg : g.method = m) {rest : List Value} (hs : g.stack = v :: .int j :: .ref a :: rest) (hd : decode c.code g.pc = .ok (.aastore, 1)) :
    ∃ T' h', Stand p l e R s m args below meth c T' (locs ++ [⟨a, i⟩]) cells slots ∧ T'.heap = h' ∧ own_A Z h' a k ty (vs.set i v) ∧ Wr h h' a i v ∧ ∀ target, Steps p.tables e below (T'.setTop { g with pc := g.pc + 1, stack := rest }) target → Steps p.tables e below (T.setTop g) target := by
  obtain ⟨c', A', q, e'⟩ := A
  obtain ⟨T', h', X', e1, W, st⟩ := stR X hx hZ eT A' (own_inb e' hi hj hl) ht F hg hs hd
  subst hi
  exact ⟨T', h', X', e1, own_A.set ⟨c', A', q, e'⟩ W, W, st⟩
end OwnArrays
def own_ch (v : Int32) : Int32 := nar .char ((v &&& 255).toUInt32.toUInt16.toUInt32.toInt32)
theorem own_dCod_0 : decode jdk_42_method_152_code 0 = .ok (.getstatic 38, 3) := by decide +kernel
theorem own_dCod_3 : decode jdk_42_method_152_code 3 = .ok (.ifCond .eq 10, 3) := by decide +kernel
theorem own_dCod_6 : decode jdk_42_method_152_code 6 = .ok (.aload_n 0, 1) := by decide +kernel
theorem own_dCod_7 : decode jdk_42_method_152_code 7 = .ok (.getfield 15, 3) := by decide +kernel
theorem own_dCod_10 : decode jdk_42_method_152_code 10 = .ok (.goto 4, 3) := by decide +kernel
theorem own_dCod_14 : decode jdk_42_method_152_code 14 = .ok (.ireturn, 1) := by decide +kernel
theorem own_efCod (m : MethodId) (xo : Addr) : entryFrame m #[(.ref xo)] 1 = mkF m 0 #[.val (.ref xo)] [] := by first | (simp [entryFrame, mkF, argsToLocals, Value.category]; done) | rfl
def own_QCod (Z : State) (xo : Addr) (xc : Int32) (h0 : Heap) (n0 : Nat) (v : Option Value) (h : Heap) (L : List Loc) : Prop := v = some (.int (0 : Int32)) ∧ Fr n0 L ∧ h = h0
theorem own_pn0 : plainName "java/lang/String" = true := by first | (simp [plainName, overriddenIn]; done) | decide +kernel
set_option maxRecDepth 65536 in
set_option maxHeartbeats 40000000 in
theorem own_rCod (l : Launch) (Z : State) (a0 : Array Value) (hw : ∀ d ∈ tables_1, d.before a0 Z = true) (ws : List Jvm.Cond) (xo : Addr) (xc : Int32) (h0 : Heap) (n0 : Nat) (Z0 : n0 ≤ h0.size) (SC : Sta Z h0 "java/lang/String" "COMPACT_STRINGS" "Z" (.int xc)) (hcz : ¬ xc = 0) (Fc : Fld Z h0 xo "java/lang/String" "coder" "B" (.int (0 : Int32))) :
    MetFree l (⟨"java/lang/String", "coder", "()B"⟩ : MethodName) (head1 (Jvm.Cond.code (⟨"java/lang/String", "coder", "()B"⟩ : MethodName) jdk_42_method_152_code 1 (some .byte) :: ws) ({ frames := 0, cells := 0, slots := 0, locals := 0 } : Room)) (fun a U => a = #[(.ref xo)] ∧ Z.Warmed39 U.vm ∧ U.heap = h0) (fun _ _ _ _ _ => True) (fun _ U o U' => ∃ v L, o = .returned v ∧ own_QCod Z xo xc h0 n0 v U'.heap L ∧ FrameEnd U o U' L ({ frames := 0, cells := 0, slots := 0, locals := 0 } : Room).cells ({ frames := 0, cells := 0, slots := 0, locals := 0 } : Room).slots) := by
  refine MetFree.of_bodySF (plainFor_of_name own_pn0) hisR ?_
  intro p e s m args below meth c s₁ Bd hml0 hP hK
  obtain ⟨rfl, hZ, hh⟩ := hP
  have hx := Bd.exec
  have hby := Bd.bytes
  have hml : c.maxLocals = 1 := hml0
  have hown : s.vm.findClass "java/lang/String" = some m.cls := findClass_of_methodNamed Bd.named
  have hnm := (name_of_methodNamed Bd.named Bd.method).1
  have X0 : Stand p l e ({ frames := 0, cells := 0, slots := 0, locals := 0 } : Room) s m #[(.ref xo)] below meth c s₁ [] 0 0 := Stand.of_body Bd
  have e0 : s₁.heap = h0 := by rw [← hh, Bd.state]; rfl
  have N0 := Fr.nil n0
  show own_F p e below (fun o U' => ∃ v L, o = .returned v ∧ own_QCod Z xo xc h0 n0 v U'.heap L ∧ FrameEnd s o U' L ({ frames := 0, cells := 0, slots := 0, locals := 0 } : Room).cells ({ frames := 0, cells := 0, slots := 0, locals := 0 } : Room).slots) s₁ (entryFrame m #[(.ref xo)] 1)
  rw [own_efCod m xo]
  obtain ⟨T1, X1, e1, st1⟩ := getS X0 hx hZ (host := "") hown (hw _ (List.mem_of_getElem? (i := 26) rfl)) Via.refl e0 SC (g := (mkF m 0 #[.val (.ref xo)] [])) rfl (hb hby own_dCod_0)
  refine own_go (T' := T1) (g' := (mkF m 3 #[.val (.ref xo)] [(.int xc)])) (fun _ k => st1 _ k) ?_
  refine own_go (T' := T1) (g' := (mkF m 6 #[.val (.ref xo)] [])) (fun _ k => XS.ifNo X1.here hx rfl (hb hby own_dCod_3) rfl ((if0 _ _).trans (feq (hcz : ¬ (xc = (0 : Int32)))).1) k) ?_
  refine own_go (T' := T1) (g' := (mkF m 7 #[.val (.ref xo)] [(.ref xo)])) (fun _ k => XS.aloadN X1.here hx rfl (hb hby own_dCod_6) rfl rfl k) ?_
  obtain ⟨T2, X2, e2, st2⟩ := getF X1 hx hZ hown (host := "") (Or.inl (hw _ (List.mem_of_getElem? (i := 27) rfl))) Via.refl e1 Fc (g := (mkF m 7 #[.val (.ref xo)] [(.ref xo)])) rfl rfl (hb hby own_dCod_7)
  refine own_go (T' := T2) (g' := (mkF m 10 #[.val (.ref xo)] [(.int (0 : Int32))])) (fun _ k => st2 _ k) ?_
  refine own_go (T' := T2) (g' := (mkF m 14 #[.val (.ref xo)] [(.int (0 : Int32))])) (fun _ k => XS.goto X2.here hx rfl (pc0 := 10) (pc' := 14) rfl (hb hby own_dCod_10) (by decide) (by decide) k) ?_
  obtain ⟨fs, hr, hrun, hended, hW, hsame⟩ := X2.leave (v := some (.int (0 : Int32))) (fun h => by rw [Bd.returns] at h; cases h)
  refine own_end (retN X2 hx (t := .byte) Bd.returns (by simp) (hb hby own_dCod_14) hr) hrun hended ⟨_, _, rfl, (?_ : own_QCod Z xo xc h0 n0 _ T2.heap _), ⟨_, rfl⟩, hW, hsame.mono (by decide) (by decide)⟩
  rw [e2]
  exact ⟨rfl, N0, rfl⟩
theorem own_dLat_0 : decode jdk_42_method_154_code 0 = .ok (.getstatic 38, 3) := by decide +kernel
theorem own_dLat_3 : decode jdk_42_method_154_code 3 = .ok (.ifCond .eq 14, 3) := by decide +kernel
theorem own_dLat_6 : decode jdk_42_method_154_code 6 = .ok (.aload_n 0, 1) := by decide +kernel
theorem own_dLat_7 : decode jdk_42_method_154_code 7 = .ok (.getfield 15, 3) := by decide +kernel
theorem own_dLat_10 : decode jdk_42_method_154_code 10 = .ok (.ifCond .ne 7, 3) := by decide +kernel
theorem own_dLat_13 : decode jdk_42_method_154_code 13 = .ok (.iconst 1, 1) := by decide +kernel
theorem own_dLat_14 : decode jdk_42_method_154_code 14 = .ok (.goto 4, 3) := by decide +kernel
theorem own_dLat_18 : decode jdk_42_method_154_code 18 = .ok (.ireturn, 1) := by decide +kernel
theorem own_efLat (m : MethodId) (xo : Addr) : entryFrame m #[(.ref xo)] 1 = mkF m 0 #[.val (.ref xo)] [] := by first | (simp [entryFrame, mkF, argsToLocals, Value.category]; done) | rfl
def own_QLat (Z : State) (xo : Addr) (xc : Int32) (h0 : Heap) (n0 : Nat) (v : Option Value) (h : Heap) (L : List Loc) : Prop := v = some (.int (1 : Int32)) ∧ Fr n0 L ∧ h = h0
set_option maxRecDepth 65536 in
set_option maxHeartbeats 40000000 in
theorem own_rLat (l : Launch) (Z : State) (a0 : Array Value) (hw : ∀ d ∈ tables_1, d.before a0 Z = true) (ws : List Jvm.Cond) (xo : Addr) (xc : Int32) (h0 : Heap) (n0 : Nat) (Z0 : n0 ≤ h0.size) (SC : Sta Z h0 "java/lang/String" "COMPACT_STRINGS" "Z" (.int xc)) (hcz : ¬ xc = 0) (Fc : Fld Z h0 xo "java/lang/String" "coder" "B" (.int (0 : Int32))) :
    MetFree l (⟨"java/lang/String", "isLatin1", "()Z"⟩ : MethodName) (head1 (Jvm.Cond.code (⟨"java/lang/String", "isLatin1", "()Z"⟩ : MethodName) jdk_42_method_154_code 1 (some .boolean) :: ws) ({ frames := 0, cells := 0, slots := 0, locals := 0 } : Room)) (fun a U => a = #[(.ref xo)] ∧ Z.Warmed39 U.vm ∧ U.heap = h0) (fun _ _ _ _ _ => True) (fun _ U o U' => ∃ v L, o = .returned v ∧ own_QLat Z xo xc h0 n0 v U'.heap L ∧ FrameEnd U o U' L ({ frames := 0, cells := 0, slots := 0, locals := 0 } : Room).cells ({ frames := 0, cells := 0, slots := 0, locals := 0 } : Room).slots) := by
  refine MetFree.of_bodySF (plainFor_of_name own_pn0) hisR ?_
  intro p e s m args below meth c s₁ Bd hml0 hP hK
  obtain ⟨rfl, hZ, hh⟩ := hP
  have hx := Bd.exec
  have hby := Bd.bytes
  have hml : c.maxLocals = 1 := hml0
  have hown : s.vm.findClass "java/lang/String" = some m.cls := findClass_of_methodNamed Bd.named
  have hnm := (name_of_methodNamed Bd.named Bd.method).1
  have X0 : Stand p l e ({ frames := 0, cells := 0, slots := 0, locals := 0 } : Room) s m #[(.ref xo)] below meth c s₁ [] 0 0 := Stand.of_body Bd
  have e0 : s₁.heap = h0 := by rw [← hh, Bd.state]; rfl
  have N0 := Fr.nil n0
  show own_F p e below (fun o U' => ∃ v L, o = .returned v ∧ own_QLat Z xo xc h0 n0 v U'.heap L ∧ FrameEnd s o U' L ({ frames := 0, cells := 0, slots := 0, locals := 0 } : Room).cells ({ frames := 0, cells := 0, slots := 0, locals := 0 } : Room).slots) s₁ (entryFrame m #[(.ref xo)] 1)
  rw [own_efLat m xo]
  obtain ⟨T1, X1, e1, st1⟩ := getS X0 hx hZ (host := "") hown (hw _ (List.mem_of_getElem? (i := 26) rfl)) Via.refl e0 SC (g := (mkF m 0 #[.val (.ref xo)] [])) rfl (hb hby own_dLat_0)
  refine own_go (T' := T1) (g' := (mkF m 3 #[.val (.ref xo)] [(.int xc)])) (fun _ k => st1 _ k) ?_
  refine own_go (T' := T1) (g' := (mkF m 6 #[.val (.ref xo)] [])) (fun _ k => XS.ifNo X1.here hx rfl (hb hby own_dLat_3) rfl ((if0 _ _).trans (feq (hcz : ¬ (xc = (0 : Int32)))).1) k) ?_
  refine own_go (T' := T1) (g' := (mkF m 7 #[.val (.ref xo)] [(.ref xo)])) (fun _ k => XS.aloadN X1.here hx rfl (hb hby own_dLat_6) rfl rfl k) ?_
  obtain ⟨T2, X2, e2, st2⟩ := getF X1 hx hZ hown (host := "") (Or.inl (hw _ (List.mem_of_getElem? (i := 27) rfl))) Via.refl e1 Fc (g := (mkF m 7 #[.val (.ref xo)] [(.ref xo)])) rfl rfl (hb hby own_dLat_7)
  refine own_go (T' := T2) (g' := (mkF m 10 #[.val (.ref xo)] [(.int (0 : Int32))])) (fun _ k => st2 _ k) ?_
  refine own_go (T' := T2) (g' := (mkF m 13 #[.val (.ref xo)] [])) (fun _ k => XS.ifNo X2.here hx rfl (hb hby own_dLat_10) rfl ((if0 _ _).trans (teq ((by decide) : (0 : Int32) = (0 : Int32))).2) k) ?_
  refine own_go (T' := T2) (g' := (mkF m 14 #[.val (.ref xo)] [(.int (1 : Int32))])) (fun _ k => XS.iconst X2.here hx rfl (hb hby own_dLat_13) k) ?_
  refine own_go (T' := T2) (g' := (mkF m 18 #[.val (.ref xo)] [(.int (1 : Int32))])) (fun _ k => XS.goto X2.here hx rfl (pc0 := 14) (pc' := 18) rfl (hb hby own_dLat_14) (by decide) (by decide) k) ?_
  obtain ⟨fs, hr, hrun, hended, hW, hsame⟩ := X2.leave (v := some (.int (1 : Int32))) (fun h => by rw [Bd.returns] at h; cases h)
  refine own_end (retN X2 hx (t := .boolean) Bd.returns (by simp) (hb hby own_dLat_18) hr) hrun hended ⟨_, _, rfl, (?_ : own_QLat Z xo xc h0 n0 _ T2.heap _), ⟨_, rfl⟩, hW, hsame.mono (by decide) (by decide)⟩
  rw [e2]
  exact ⟨rfl, N0, rfl⟩
theorem own_pd0 : parseMethodDescriptor "()B" = some ⟨[], some .byte⟩ := by decide +kernel
theorem own_dLen_0 : decode jdk_42_method_54_code 0 = .ok (.aload_n 0, 1) := by decide +kernel
theorem own_dLen_1 : decode jdk_42_method_54_code 1 = .ok (.getfield 9, 3) := by decide +kernel
theorem own_dLen_4 : decode jdk_42_method_54_code 4 = .ok (.arraylength, 1) := by decide +kernel
theorem own_dLen_5 : decode jdk_42_method_54_code 5 = .ok (.aload_n 0, 1) := by decide +kernel
theorem own_dLen_6 : decode jdk_42_method_54_code 6 = .ok (.invokevirtual 335, 3) := by decide +kernel
theorem own_dLen_9 : decode jdk_42_method_54_code 9 = .ok (.ishr, 1) := by decide +kernel
theorem own_dLen_10 : decode jdk_42_method_54_code 10 = .ok (.ireturn, 1) := by decide +kernel
theorem own_efLen (m : MethodId) (xo : Addr) : entryFrame m #[(.ref xo)] 1 = mkF m 0 #[.val (.ref xo)] [] := by first | (simp [entryFrame, mkF, argsToLocals, Value.category]; done) | rfl
def own_QLen (Z : State) (xo : Addr) (xc : Int32) (xt : Addr) (xk : ClassId) (x0 : Int32) (x1 : Int32) (h0 : Heap) (n0 : Nat) (v : Option Value) (h : Heap) (L : List Loc) : Prop := v = some (.int (2 : Int32)) ∧ Fr n0 L ∧ h = h0
set_option maxRecDepth 65536 in
set_option maxHeartbeats 40000000 in
theorem own_rLen (l : Launch) (Z : State) (a0 : Array Value) (hw : ∀ d ∈ tables_1, d.before a0 Z = true) (ws : List Jvm.Cond) (xo : Addr) (xc : Int32) (xt : Addr) (xk : ClassId) (x0 : Int32) (x1 : Int32) (h0 : Heap) (n0 : Nat) (Z0 : n0 ≤ h0.size) (SC : Sta Z h0 "java/lang/String" "COMPACT_STRINGS" "Z" (.int xc)) (hcz : ¬ xc = 0) (Fc : Fld Z h0 xo "java/lang/String" "coder" "B" (.int (0 : Int32))) (Fv : Fld Z h0 xo "java/lang/String" "value" "[B" (.ref xt)) (Eo : Exa Z h0 xo "java/lang/String") (Ab : own_A Z h0 xt xk .byte [(.int x0), (.int x1)]) :
    MetFree l (⟨"java/lang/String", "length", "()I"⟩ : MethodName) (head1 (Jvm.Cond.code (⟨"java/lang/String", "length", "()I"⟩ : MethodName) jdk_42_method_54_code 1 (some .int) :: ws) ({ frames := 1, cells := 0, slots := 0, locals := 13 } : Room)) (fun a U => a = #[(.ref xo)] ∧ Z.Warmed39 U.vm ∧ U.heap = h0) (fun _ _ _ _ _ => True) (fun _ U o U' => ∃ v L, o = .returned v ∧ own_QLen Z xo xc xt xk x0 x1 h0 n0 v U'.heap L ∧ FrameEnd U o U' L ({ frames := 1, cells := 0, slots := 0, locals := 13 } : Room).cells ({ frames := 1, cells := 0, slots := 0, locals := 13 } : Room).slots) := by
  refine MetFree.of_bodySF (plainFor_of_name own_pn0) hisR ?_
  intro p e s m args below meth c s₁ Bd hml0 hP hK
  obtain ⟨rfl, hZ, hh⟩ := hP
  have hx := Bd.exec
  have hby := Bd.bytes
  have hml : c.maxLocals = 1 := hml0
  have hown : s.vm.findClass "java/lang/String" = some m.cls := findClass_of_methodNamed Bd.named
  have hnm := (name_of_methodNamed Bd.named Bd.method).1
  have X0 : Stand p l e ({ frames := 1, cells := 0, slots := 0, locals := 13 } : Room) s m #[(.ref xo)] below meth c s₁ [] 0 0 := Stand.of_body Bd
  have e0 : s₁.heap = h0 := by rw [← hh, Bd.state]; rfl
  have N0 := Fr.nil n0
  show own_F p e below (fun o U' => ∃ v L, o = .returned v ∧ own_QLen Z xo xc xt xk x0 x1 h0 n0 v U'.heap L ∧ FrameEnd s o U' L ({ frames := 1, cells := 0, slots := 0, locals := 13 } : Room).cells ({ frames := 1, cells := 0, slots := 0, locals := 13 } : Room).slots) s₁ (entryFrame m #[(.ref xo)] 1)
  rw [own_efLen m xo]
  refine own_go (T' := s₁) (g' := (mkF m 1 #[.val (.ref xo)] [(.ref xo)])) (fun _ k => XS.aloadN X0.here hx rfl (hb hby own_dLen_0) rfl rfl k) ?_
  obtain ⟨T1, X1, e1, st1⟩ := getF X0 hx hZ hown (host := "") (Or.inl (hw _ (List.mem_of_getElem? (i := 19) rfl))) Via.refl e0 Fv (g := (mkF m 1 #[.val (.ref xo)] [(.ref xo)])) rfl rfl (hb hby own_dLen_1)
  refine own_go (T' := T1) (g' := (mkF m 4 #[.val (.ref xo)] [(.ref xt)])) (fun _ k => st1 _ k) ?_
  refine own_go (T' := T1) (g' := (mkF m 5 #[.val (.ref xo)] [(.int (2 : Int32))])) (fun _ k => own_alen X1 hx hZ e1 Ab (g := (mkF m 4 #[.val (.ref xo)] [(.ref xt)])) rfl rfl (hb hby own_dLen_4) (n := (2 : Int32)) rfl k) ?_
  refine own_go (T' := T1) (g' := (mkF m 6 #[.val (.ref xo)] [(.ref xo), (.int (2 : Int32))])) (fun _ k => XS.aloadN X1.here hx rfl (hb hby own_dLen_5) rfl rfl k) ?_
  obtain ⟨cq2, kq2, q2a, q2b, q2c⟩ := isOf hZ e1 Eo
  obtain ⟨_, _, ⟨T2, L2, k2, n2⟩, -, X2, ⟨Lc2, hQ2, l2, y2, z2⟩, st2⟩ := X1.virtualBack hx (y := (⟨"java/lang/String", "coder", "()B"⟩ : MethodName)) (z := (⟨"java/lang/String", "coder", "()B"⟩ : MethodName)) hown (mvT hZ (hw _ (List.mem_of_getElem? (i := 21) rfl))) (mvT hZ (hw _ (List.mem_of_getElem? (i := 22) rfl))) (notFace_of_selects (args := #[]) (mvT hZ (hw _ (List.mem_of_getElem? (i := 24) rfl)))) (mvT hZ (hw _ (List.mem_of_getElem? (i := 24) rfl))) (mvT hZ (hw _ (List.mem_of_getElem? (i := 23) rfl))) (by decide) (backOf (W := 1) (own_rCod l Z a0 hw [] xo xc h0 n0 Z0 SC hcz Fc) hZ (hw _ (List.mem_of_getElem? (i := 25) rfl)) (hw _ (List.mem_of_getElem? (i := 17) rfl)) (by decide) (by decide)) q2a q2c (g := (mkF m 6 #[.val (.ref xo)] [(.ref xo), (.int (2 : Int32))])) rfl (by rw [hml]; rfl) (Steps.refl _) (argsL := []) (rest := [(.int (2 : Int32))]) (lenOf own_pd0 rfl) rfl (by show 2 * 0 + _ ≤ _; exact Nat.le_of_eq rfl) (hb hby own_dLen_6) (fun _ _ => ⟨rfl, e1, (by decide : 0 + 0 ≤ _), (by decide : 0 + 0 ≤ _)⟩)
  dsimp only [Pt.U, Pt.locs, Pt.cells, Pt.slots] at X2 l2 y2 z2 st2 hQ2
  subst l2 y2 z2
  obtain ⟨rfl, N2q, e2⟩ := hQ2
  have N2 := Fr.app N0 N2q
  refine own_goT (T' := T2) (g' := (mkF m 9 #[.val (.ref xo)] [(.int (0 : Int32)), (.int (2 : Int32))])) st2 ?_
  refine own_go (T' := T2) (g' := (mkF m 10 #[.val (.ref xo)] [(.int ((2 : Int32) >>> ((0 : Int32) &&& 31)))])) (fun _ k => XS.ishr X2.here hx rfl (hb hby own_dLen_9) rfl k) ?_
  obtain ⟨fs, hr, hrun, hended, hW, hsame⟩ := X2.leave (v := some (.int ((2 : Int32) >>> ((0 : Int32) &&& 31)))) (fun h => by rw [Bd.returns] at h; cases h)
  refine own_end (retOut X2 hx Bd.returns rfl (Or.inl ⟨rfl, Or.inl rfl, _, rfl⟩) (hb hby own_dLen_10) hr) hrun hended ⟨_, _, rfl, (?_ : own_QLen Z xo xc xt xk x0 x1 h0 n0 _ T2.heap _), ⟨_, rfl⟩, hW, hsame.mono (by decide) (by decide)⟩
  rw [e2]
  exact ⟨congrArg (fun z => some (Value.int z)) (by decide), N2, rfl⟩
theorem own_dEmp_0 : decode jdk_42_method_55_code 0 = .ok (.aload_n 0, 1) := by decide +kernel
theorem own_dEmp_1 : decode jdk_42_method_55_code 1 = .ok (.getfield 9, 3) := by decide +kernel
theorem own_dEmp_4 : decode jdk_42_method_55_code 4 = .ok (.arraylength, 1) := by decide +kernel
theorem own_dEmp_5 : decode jdk_42_method_55_code 5 = .ok (.ifCond .ne 7, 3) := by decide +kernel
theorem own_dEmp_8 : decode jdk_42_method_55_code 8 = .ok (.iconst 1, 1) := by decide +kernel
theorem own_dEmp_9 : decode jdk_42_method_55_code 9 = .ok (.goto 4, 3) := by decide +kernel
theorem own_dEmp_13 : decode jdk_42_method_55_code 13 = .ok (.ireturn, 1) := by decide +kernel
theorem own_efEmp (m : MethodId) (xo : Addr) : entryFrame m #[(.ref xo)] 1 = mkF m 0 #[.val (.ref xo)] [] := by first | (simp [entryFrame, mkF, argsToLocals, Value.category]; done) | rfl
def own_QEmp (Z : State) (xo : Addr) (xt : Addr) (xk : ClassId) (h0 : Heap) (n0 : Nat) (v : Option Value) (h : Heap) (L : List Loc) : Prop := v = some (.int (1 : Int32)) ∧ Fr n0 L ∧ h = h0
set_option maxRecDepth 65536 in
set_option maxHeartbeats 40000000 in
theorem own_rEmp (l : Launch) (Z : State) (a0 : Array Value) (hw : ∀ d ∈ tables_1, d.before a0 Z = true) (ws : List Jvm.Cond) (xo : Addr) (xt : Addr) (xk : ClassId) (h0 : Heap) (n0 : Nat) (Z0 : n0 ≤ h0.size) (Fv : Fld Z h0 xo "java/lang/String" "value" "[B" (.ref xt)) (Ab : own_A Z h0 xt xk .byte []) :
    MetFree l (⟨"java/lang/String", "isEmpty", "()Z"⟩ : MethodName) (head1 (Jvm.Cond.code (⟨"java/lang/String", "isEmpty", "()Z"⟩ : MethodName) jdk_42_method_55_code 1 (some .boolean) :: ws) ({ frames := 0, cells := 0, slots := 0, locals := 0 } : Room)) (fun a U => a = #[(.ref xo)] ∧ Z.Warmed39 U.vm ∧ U.heap = h0) (fun _ _ _ _ _ => True) (fun _ U o U' => ∃ v L, o = .returned v ∧ own_QEmp Z xo xt xk h0 n0 v U'.heap L ∧ FrameEnd U o U' L ({ frames := 0, cells := 0, slots := 0, locals := 0 } : Room).cells ({ frames := 0, cells := 0, slots := 0, locals := 0 } : Room).slots) := by
  refine MetFree.of_bodySF (plainFor_of_name own_pn0) hisR ?_
  intro p e s m args below meth c s₁ Bd hml0 hP hK
  obtain ⟨rfl, hZ, hh⟩ := hP
  have hx := Bd.exec
  have hby := Bd.bytes
  have hml : c.maxLocals = 1 := hml0
  have hown : s.vm.findClass "java/lang/String" = some m.cls := findClass_of_methodNamed Bd.named
  have hnm := (name_of_methodNamed Bd.named Bd.method).1
  have X0 : Stand p l e ({ frames := 0, cells := 0, slots := 0, locals := 0 } : Room) s m #[(.ref xo)] below meth c s₁ [] 0 0 := Stand.of_body Bd
  have e0 : s₁.heap = h0 := by rw [← hh, Bd.state]; rfl
  have N0 := Fr.nil n0
  show own_F p e below (fun o U' => ∃ v L, o = .returned v ∧ own_QEmp Z xo xt xk h0 n0 v U'.heap L ∧ FrameEnd s o U' L ({ frames := 0, cells := 0, slots := 0, locals := 0 } : Room).cells ({ frames := 0, cells := 0, slots := 0, locals := 0 } : Room).slots) s₁ (entryFrame m #[(.ref xo)] 1)
  rw [own_efEmp m xo]
  refine own_go (T' := s₁) (g' := (mkF m 1 #[.val (.ref xo)] [(.ref xo)])) (fun _ k => XS.aloadN X0.here hx rfl (hb hby own_dEmp_0) rfl rfl k) ?_
  obtain ⟨T1, X1, e1, st1⟩ := getF X0 hx hZ hown (host := "") (Or.inl (hw _ (List.mem_of_getElem? (i := 19) rfl))) Via.refl e0 Fv (g := (mkF m 1 #[.val (.ref xo)] [(.ref xo)])) rfl rfl (hb hby own_dEmp_1)
  refine own_go (T' := T1) (g' := (mkF m 4 #[.val (.ref xo)] [(.ref xt)])) (fun _ k => st1 _ k) ?_
  refine own_go (T' := T1) (g' := (mkF m 5 #[.val (.ref xo)] [(.int (0 : Int32))])) (fun _ k => own_alen X1 hx hZ e1 Ab (g := (mkF m 4 #[.val (.ref xo)] [(.ref xt)])) rfl rfl (hb hby own_dEmp_4) (n := (0 : Int32)) rfl k) ?_
  refine own_go (T' := T1) (g' := (mkF m 8 #[.val (.ref xo)] [])) (fun _ k => XS.ifNo X1.here hx rfl (hb hby own_dEmp_5) rfl ((if0 _ _).trans (teq ((by decide) : (0 : Int32) = (0 : Int32))).2) k) ?_
  refine own_go (T' := T1) (g' := (mkF m 9 #[.val (.ref xo)] [(.int (1 : Int32))])) (fun _ k => XS.iconst X1.here hx rfl (hb hby own_dEmp_8) k) ?_
  refine own_go (T' := T1) (g' := (mkF m 13 #[.val (.ref xo)] [(.int (1 : Int32))])) (fun _ k => XS.goto X1.here hx rfl (pc0 := 9) (pc' := 13) rfl (hb hby own_dEmp_9) (by decide) (by decide) k) ?_
  obtain ⟨fs, hr, hrun, hended, hW, hsame⟩ := X1.leave (v := some (.int (1 : Int32))) (fun h => by rw [Bd.returns] at h; cases h)
  refine own_end (retN X1 hx (t := .boolean) Bd.returns (by simp) (hb hby own_dEmp_13) hr) hrun hended ⟨_, _, rfl, (?_ : own_QEmp Z xo xt xk h0 n0 _ T1.heap _), ⟨_, rfl⟩, hW, hsame.mono (by decide) (by decide)⟩
  rw [e1]
  exact ⟨rfl, N0, rfl⟩
theorem own_dPcN_0 : decode jdk_41_method_11_code 0 = .ok (.iload_n 0, 1) := by decide +kernel
theorem own_dPcN_1 : decode jdk_41_method_11_code 1 = .ok (.ifCond .lt 8, 3) := by decide +kernel
theorem own_dPcN_4 : decode jdk_41_method_11_code 4 = .ok (.iload_n 0, 1) := by decide +kernel
theorem own_dPcN_5 : decode jdk_41_method_11_code 5 = .ok (.iload_n 1, 1) := by decide +kernel
theorem own_dPcN_6 : decode jdk_41_method_11_code 6 = .ok (.if_icmp .lt 10, 3) := by decide +kernel
theorem own_dPcN_16 : decode jdk_41_method_11_code 16 = .ok (.iload_n 0, 1) := by decide +kernel
theorem own_dPcN_17 : decode jdk_41_method_11_code 17 = .ok (.ireturn, 1) := by decide +kernel
theorem own_efPcN (m : MethodId) (xi : Int32) (xn : Int32) : entryFrame m #[(.int xi), (.int xn), .null] 3 = mkF m 0 #[.val (.int xi), .val (.int xn), .val .null] [] := by first | (simp [entryFrame, mkF, argsToLocals, Value.category]; done) | rfl
def own_QPcN (Z : State) (xi : Int32) (xn : Int32)  (h0 : Heap) (n0 : Nat) (v : Option Value) (h : Heap) (L : List Loc) : Prop := v = some (.int xi) ∧ Fr n0 L ∧ h = h0
theorem own_pn1 : plainName "jdk/internal/util/Preconditions" = true := by first | (simp [plainName, overriddenIn]; done) | decide +kernel
set_option maxRecDepth 65536 in
set_option maxHeartbeats 40000000 in
theorem own_rPcN (l : Launch) (Z : State) (a0 : Array Value) (hw : ∀ d ∈ tables_1, d.before a0 Z = true) (ws : List Jvm.Cond) (xi : Int32) (xn : Int32)  (h0 : Heap) (n0 : Nat) (Z0 : n0 ≤ h0.size) (h0i : ¬ xi < 0) (h1i : xi < xn) :
    MetFree l (⟨"jdk/internal/util/Preconditions", "checkIndex", "(IILjava/util/function/BiFunction;)I"⟩ : MethodName) (head1 (Jvm.Cond.code (⟨"jdk/internal/util/Preconditions", "checkIndex", "(IILjava/util/function/BiFunction;)I"⟩ : MethodName) jdk_41_method_11_code 3 (some .int) :: ws) ({ frames := 0, cells := 0, slots := 0, locals := 0 } : Room)) (fun a U => a = #[(.int xi), (.int xn), .null] ∧ Z.Warmed39 U.vm ∧ U.heap = h0) (fun _ _ _ _ _ => True) (fun _ U o U' => ∃ v L, o = .returned v ∧ own_QPcN Z xi xn h0 n0 v U'.heap L ∧ FrameEnd U o U' L ({ frames := 0, cells := 0, slots := 0, locals := 0 } : Room).cells ({ frames := 0, cells := 0, slots := 0, locals := 0 } : Room).slots) := by
  refine MetFree.of_bodySF (plainFor_of_name own_pn1) hisR ?_
  intro p e s m args below meth c s₁ Bd hml0 hP hK
  obtain ⟨rfl, hZ, hh⟩ := hP
  have hx := Bd.exec
  have hby := Bd.bytes
  have hml : c.maxLocals = 3 := hml0
  have hown : s.vm.findClass "jdk/internal/util/Preconditions" = some m.cls := findClass_of_methodNamed Bd.named
  have hnm := (name_of_methodNamed Bd.named Bd.method).1
  have X0 : Stand p l e ({ frames := 0, cells := 0, slots := 0, locals := 0 } : Room) s m #[(.int xi), (.int xn), .null] below meth c s₁ [] 0 0 := Stand.of_body Bd
  have e0 : s₁.heap = h0 := by rw [← hh, Bd.state]; rfl
  have N0 := Fr.nil n0
  show own_F p e below (fun o U' => ∃ v L, o = .returned v ∧ own_QPcN Z xi xn h0 n0 v U'.heap L ∧ FrameEnd s o U' L ({ frames := 0, cells := 0, slots := 0, locals := 0 } : Room).cells ({ frames := 0, cells := 0, slots := 0, locals := 0 } : Room).slots) s₁ (entryFrame m #[(.int xi), (.int xn), .null] 3)
  rw [own_efPcN m xi xn]
  refine own_go (T' := s₁) (g' := (mkF m 1 #[.val (.int xi), .val (.int xn), .val .null] [(.int xi)])) (fun _ k => XS.iloadN X0.here hx rfl (hb hby own_dPcN_0) rfl k) ?_
  refine own_go (T' := s₁) (g' := (mkF m 4 #[.val (.int xi), .val (.int xn), .val .null] [])) (fun _ k => XS.ifNo X0.here hx rfl (hb hby own_dPcN_1) rfl ((if0 _ _).trans (flt (h0i : ¬ (xi < (0 : Int32)))).1) k) ?_
  refine own_go (T' := s₁) (g' := (mkF m 5 #[.val (.int xi), .val (.int xn), .val .null] [(.int xi)])) (fun _ k => XS.iloadN X0.here hx rfl (hb hby own_dPcN_4) rfl k) ?_
  refine own_go (T' := s₁) (g' := (mkF m 6 #[.val (.int xi), .val (.int xn), .val .null] [(.int xn), (.int xi)])) (fun _ k => XS.iloadN X0.here hx rfl (hb hby own_dPcN_5) rfl k) ?_
  refine own_go (T' := s₁) (g' := (mkF m 16 #[.val (.int xi), .val (.int xn), .val .null] [])) (fun _ k => XS.icmpYes X0.here hx rfl (pc0 := 6) (pc' := 16) rfl (hb hby own_dPcN_6) rfl (tlt (h1i : xi < xn)).1 (by decide) (by decide) k) ?_
  refine own_go (T' := s₁) (g' := (mkF m 17 #[.val (.int xi), .val (.int xn), .val .null] [(.int xi)])) (fun _ k => XS.iloadN X0.here hx rfl (hb hby own_dPcN_16) rfl k) ?_
  obtain ⟨fs, hr, hrun, hended, hW, hsame⟩ := X0.leave (v := some (.int xi)) (fun h => by rw [Bd.returns] at h; cases h)
  refine own_end (retOut X0 hx Bd.returns rfl (Or.inl ⟨rfl, Or.inl rfl, _, rfl⟩) (hb hby own_dPcN_17) hr) hrun hended ⟨_, _, rfl, (?_ : own_QPcN Z xi xn h0 n0 _ s₁.heap _), ⟨_, rfl⟩, hW, hsame.mono (by decide) (by decide)⟩
  rw [e0]
  exact ⟨rfl, N0, rfl⟩
theorem own_dPcR_0 : decode jdk_41_method_11_code 0 = .ok (.iload_n 0, 1) := by decide +kernel
theorem own_dPcR_1 : decode jdk_41_method_11_code 1 = .ok (.ifCond .lt 8, 3) := by decide +kernel
theorem own_dPcR_4 : decode jdk_41_method_11_code 4 = .ok (.iload_n 0, 1) := by decide +kernel
theorem own_dPcR_5 : decode jdk_41_method_11_code 5 = .ok (.iload_n 1, 1) := by decide +kernel
theorem own_dPcR_6 : decode jdk_41_method_11_code 6 = .ok (.if_icmp .lt 10, 3) := by decide +kernel
theorem own_dPcR_16 : decode jdk_41_method_11_code 16 = .ok (.iload_n 0, 1) := by decide +kernel
theorem own_dPcR_17 : decode jdk_41_method_11_code 17 = .ok (.ireturn, 1) := by decide +kernel
theorem own_efPcR (m : MethodId) (xi : Int32) (xn : Int32) (xg : Addr) : entryFrame m #[(.int xi), (.int xn), (.ref xg)] 3 = mkF m 0 #[.val (.int xi), .val (.int xn), .val (.ref xg)] [] := by first | (simp [entryFrame, mkF, argsToLocals, Value.category]; done) | rfl
def own_QPcR (Z : State) (xi : Int32) (xn : Int32) (xg : Addr)  (h0 : Heap) (n0 : Nat) (v : Option Value) (h : Heap) (L : List Loc) : Prop := v = some (.int xi) ∧ Fr n0 L ∧ h = h0
set_option maxRecDepth 65536 in
set_option maxHeartbeats 40000000 in
theorem own_rPcR (l : Launch) (Z : State) (a0 : Array Value) (hw : ∀ d ∈ tables_1, d.before a0 Z = true) (ws : List Jvm.Cond) (xi : Int32) (xn : Int32) (xg : Addr)  (h0 : Heap) (n0 : Nat) (Z0 : n0 ≤ h0.size) (h0i : ¬ xi < 0) (h1i : xi < xn) :
    MetFree l (⟨"jdk/internal/util/Preconditions", "checkIndex", "(IILjava/util/function/BiFunction;)I"⟩ : MethodName) (head1 (Jvm.Cond.code (⟨"jdk/internal/util/Preconditions", "checkIndex", "(IILjava/util/function/BiFunction;)I"⟩ : MethodName) jdk_41_method_11_code 3 (some .int) :: ws) ({ frames := 0, cells := 0, slots := 0, locals := 0 } : Room)) (fun a U => a = #[(.int xi), (.int xn), (.ref xg)] ∧ Z.Warmed39 U.vm ∧ U.heap = h0) (fun _ _ _ _ _ => True) (fun _ U o U' => ∃ v L, o = .returned v ∧ own_QPcR Z xi xn xg h0 n0 v U'.heap L ∧ FrameEnd U o U' L ({ frames := 0, cells := 0, slots := 0, locals := 0 } : Room).cells ({ frames := 0, cells := 0, slots := 0, locals := 0 } : Room).slots) := by
  refine MetFree.of_bodySF (plainFor_of_name own_pn1) hisR ?_
  intro p e s m args below meth c s₁ Bd hml0 hP hK
  obtain ⟨rfl, hZ, hh⟩ := hP
  have hx := Bd.exec
  have hby := Bd.bytes
  have hml : c.maxLocals = 3 := hml0
  have hown : s.vm.findClass "jdk/internal/util/Preconditions" = some m.cls := findClass_of_methodNamed Bd.named
  have hnm := (name_of_methodNamed Bd.named Bd.method).1
  have X0 : Stand p l e ({ frames := 0, cells := 0, slots := 0, locals := 0 } : Room) s m #[(.int xi), (.int xn), (.ref xg)] below meth c s₁ [] 0 0 := Stand.of_body Bd
  have e0 : s₁.heap = h0 := by rw [← hh, Bd.state]; rfl
  have N0 := Fr.nil n0
  show own_F p e below (fun o U' => ∃ v L, o = .returned v ∧ own_QPcR Z xi xn xg h0 n0 v U'.heap L ∧ FrameEnd s o U' L ({ frames := 0, cells := 0, slots := 0, locals := 0 } : Room).cells ({ frames := 0, cells := 0, slots := 0, locals := 0 } : Room).slots) s₁ (entryFrame m #[(.int xi), (.int xn), (.ref xg)] 3)
  rw [own_efPcR m xi xn xg]
  refine own_go (T' := s₁) (g' := (mkF m 1 #[.val (.int xi), .val (.int xn), .val (.ref xg)] [(.int xi)])) (fun _ k => XS.iloadN X0.here hx rfl (hb hby own_dPcR_0) rfl k) ?_
  refine own_go (T' := s₁) (g' := (mkF m 4 #[.val (.int xi), .val (.int xn), .val (.ref xg)] [])) (fun _ k => XS.ifNo X0.here hx rfl (hb hby own_dPcR_1) rfl ((if0 _ _).trans (flt (h0i : ¬ (xi < (0 : Int32)))).1) k) ?_
  refine own_go (T' := s₁) (g' := (mkF m 5 #[.val (.int xi), .val (.int xn), .val (.ref xg)] [(.int xi)])) (fun _ k => XS.iloadN X0.here hx rfl (hb hby own_dPcR_4) rfl k) ?_
  refine own_go (T' := s₁) (g' := (mkF m 6 #[.val (.int xi), .val (.int xn), .val (.ref xg)] [(.int xn), (.int xi)])) (fun _ k => XS.iloadN X0.here hx rfl (hb hby own_dPcR_5) rfl k) ?_
  refine own_go (T' := s₁) (g' := (mkF m 16 #[.val (.int xi), .val (.int xn), .val (.ref xg)] [])) (fun _ k => XS.icmpYes X0.here hx rfl (pc0 := 6) (pc' := 16) rfl (hb hby own_dPcR_6) rfl (tlt (h1i : xi < xn)).1 (by decide) (by decide) k) ?_
  refine own_go (T' := s₁) (g' := (mkF m 17 #[.val (.int xi), .val (.int xn), .val (.ref xg)] [(.int xi)])) (fun _ k => XS.iloadN X0.here hx rfl (hb hby own_dPcR_16) rfl k) ?_
  obtain ⟨fs, hr, hrun, hended, hW, hsame⟩ := X0.leave (v := some (.int xi)) (fun h => by rw [Bd.returns] at h; cases h)
  refine own_end (retOut X0 hx Bd.returns rfl (Or.inl ⟨rfl, Or.inl rfl, _, rfl⟩) (hb hby own_dPcR_17) hr) hrun hended ⟨_, _, rfl, (?_ : own_QPcR Z xi xn xg h0 n0 _ s₁.heap _), ⟨_, rfl⟩, hW, hsame.mono (by decide) (by decide)⟩
  rw [e0]
  exact ⟨rfl, N0, rfl⟩
theorem own_pd1 : parseMethodDescriptor "(IILjava/util/function/BiFunction;)I" = some ⟨[.int, .int, (.object "java/util/function/BiFunction")], some .int⟩ := by decide +kernel
theorem own_dChk_0 : decode jdk_42_method_155_code 0 = .ok (.iload_n 0, 1) := by decide +kernel
theorem own_dChk_1 : decode jdk_42_method_155_code 1 = .ok (.iload_n 1, 1) := by decide +kernel
theorem own_dChk_2 : decode jdk_42_method_155_code 2 = .ok (.getstatic 1053, 3) := by decide +kernel
theorem own_dChk_5 : decode jdk_42_method_155_code 5 = .ok (.invokestatic 1059, 3) := by decide +kernel
theorem own_dChk_8 : decode jdk_42_method_155_code 8 = .ok (.pop, 1) := by decide +kernel
theorem own_dChk_9 : decode jdk_42_method_155_code 9 = .ok (.return_, 1) := by decide +kernel
theorem own_efChk (m : MethodId) (xi : Int32) (xn : Int32) : entryFrame m #[(.int xi), (.int xn)] 2 = mkF m 0 #[.val (.int xi), .val (.int xn)] [] := by first | (simp [entryFrame, mkF, argsToLocals, Value.category]; done) | rfl
def own_QChk (Z : State) (xi : Int32) (xn : Int32) (xv : Value) (h0 : Heap) (n0 : Nat) (v : Option Value) (h : Heap) (L : List Loc) : Prop := v = none ∧ Fr n0 L ∧ h = h0
set_option maxRecDepth 65536 in
set_option maxHeartbeats 40000000 in
theorem own_rChk (l : Launch) (Z : State) (a0 : Array Value) (hw : ∀ d ∈ tables_1, d.before a0 Z = true) (ws : List Jvm.Cond) (xi : Int32) (xn : Int32) (xv : Value) (h0 : Heap) (n0 : Nat) (Z0 : n0 ≤ h0.size) (SF : Sta Z h0 "jdk/internal/util/Preconditions" "SIOOBE_FORMATTER" "Ljava/util/function/BiFunction;" xv) (hvr : xv.isRef = true) (h0i : ¬ xi < 0) (h1i : xi < xn) :
    MetFree l (⟨"java/lang/String", "checkIndex", "(II)V"⟩ : MethodName) (head1 (Jvm.Cond.code (⟨"java/lang/String", "checkIndex", "(II)V"⟩ : MethodName) jdk_42_method_155_code 2 none :: ws) ({ frames := 1, cells := 0, slots := 0, locals := 14 } : Room)) (fun a U => a = #[(.int xi), (.int xn)] ∧ Z.Warmed39 U.vm ∧ U.heap = h0) (fun _ _ _ _ _ => True) (fun _ U o U' => ∃ v L, o = .returned v ∧ own_QChk Z xi xn xv h0 n0 v U'.heap L ∧ FrameEnd U o U' L ({ frames := 1, cells := 0, slots := 0, locals := 14 } : Room).cells ({ frames := 1, cells := 0, slots := 0, locals := 14 } : Room).slots) := by
  refine MetFree.of_bodySF (plainFor_of_name own_pn0) hisR ?_
  intro p e s m args below meth c s₁ Bd hml0 hP hK
  obtain ⟨rfl, hZ, hh⟩ := hP
  have hx := Bd.exec
  have hby := Bd.bytes
  have hml : c.maxLocals = 2 := hml0
  have hown : s.vm.findClass "java/lang/String" = some m.cls := findClass_of_methodNamed Bd.named
  have hnm := (name_of_methodNamed Bd.named Bd.method).1
  have X0 : Stand p l e ({ frames := 1, cells := 0, slots := 0, locals := 14 } : Room) s m #[(.int xi), (.int xn)] below meth c s₁ [] 0 0 := Stand.of_body Bd
  have e0 : s₁.heap = h0 := by rw [← hh, Bd.state]; rfl
  have N0 := Fr.nil n0
  show own_F p e below (fun o U' => ∃ v L, o = .returned v ∧ own_QChk Z xi xn xv h0 n0 v U'.heap L ∧ FrameEnd s o U' L ({ frames := 1, cells := 0, slots := 0, locals := 14 } : Room).cells ({ frames := 1, cells := 0, slots := 0, locals := 14 } : Room).slots) s₁ (entryFrame m #[(.int xi), (.int xn)] 2)
  rw [own_efChk m xi xn]
  rcases ref_cases hvr with hE | ⟨xg, hE⟩
  · have SG : Sta Z h0 "jdk/internal/util/Preconditions" "SIOOBE_FORMATTER" "Ljava/util/function/BiFunction;" .null := hE ▸ SF
    refine own_go (T' := s₁) (g' := (mkF m 1 #[.val (.int xi), .val (.int xn)] [(.int xi)])) (fun _ k => XS.iloadN X0.here hx rfl (hb hby own_dChk_0) rfl k) ?_
    refine own_go (T' := s₁) (g' := (mkF m 2 #[.val (.int xi), .val (.int xn)] [(.int xn), (.int xi)])) (fun _ k => XS.iloadN X0.here hx rfl (hb hby own_dChk_1) rfl k) ?_
    obtain ⟨T1, X1, e1, st1⟩ := getS X0 hx hZ (host := "") hown (hw _ (List.mem_of_getElem? (i := 46) rfl)) Via.refl e0 SG (g := (mkF m 2 #[.val (.int xi), .val (.int xn)] [(.int xn), (.int xi)])) rfl (hb hby own_dChk_2)
    refine own_go (T' := T1) (g' := (mkF m 5 #[.val (.int xi), .val (.int xn)] [.null, (.int xn), (.int xi)])) (fun _ k => st1 _ k) ?_
    obtain ⟨_, _, ⟨T2, L2, k2, n2⟩, -, X2, ⟨Lc2, hQ2, l2, y2, z2⟩, st2⟩ := Jvm.LawKit.callS X1 hx (y := (⟨"jdk/internal/util/Preconditions", "checkIndex", "(IILjava/util/function/BiFunction;)I"⟩ : MethodName)) hown (mvT hZ (hw _ (List.mem_of_getElem? (i := 48) rfl))) (mvT hZ (hw _ (List.mem_of_getElem? (i := 49) rfl))) (mvT hZ (hw _ (List.mem_of_getElem? (i := 47) rfl))) (mvT hZ (hw _ (List.mem_of_getElem? (i := 50) rfl))) (by decide) (backOf (W := 0) (own_rPcN l Z a0 hw [] xi xn h0 n0 Z0 h0i h1i) hZ (hw _ (List.mem_of_getElem? (i := 50) rfl)) (hw _ (List.mem_of_getElem? (i := 47) rfl)) (by decide) (by decide)) (g := (mkF m 5 #[.val (.int xi), .val (.int xn)] [.null, (.int xn), (.int xi)])) rfl (by rw [hml]; rfl) (argsL := [(.int xi), (.int xn), .null]) (rest := []) (lenOf own_pd1 rfl) rfl (by show 2 * 0 + _ ≤ _; exact Nat.le_of_eq rfl) (hb hby own_dChk_5) (fun _ _ => ⟨rfl, e1, (by decide : 0 + 0 ≤ _), (by decide : 0 + 0 ≤ _)⟩)
    dsimp only [Pt.U, Pt.locs, Pt.cells, Pt.slots] at X2 l2 y2 z2 st2 hQ2
    subst l2 y2 z2
    obtain ⟨rfl, N2q, e2⟩ := hQ2
    have N2 := Fr.app N0 N2q
    refine own_go (T' := T2) (g' := (mkF m 8 #[.val (.int xi), .val (.int xn)] [(.int xi)])) (fun _ k => st2 _ k) ?_
    refine own_go (T' := T2) (g' := (mkF m 9 #[.val (.int xi), .val (.int xn)] [])) (fun _ k => XS.pop X2.here hx rfl (hb hby own_dChk_8) rfl rfl k) ?_
    obtain ⟨fs, hr, hrun, hended, hW, hsame⟩ := X2.leave (v := none) (fun _ => rfl)
    refine own_end (X2.returnOut hx Bd.returns (hb hby own_dChk_9) hr) hrun hended ⟨_, _, rfl, (?_ : own_QChk Z xi xn xv h0 n0 _ T2.heap _), ⟨_, rfl⟩, hW, hsame.mono (by decide) (by decide)⟩
    rw [e2]
    exact ⟨rfl, N2, rfl⟩
  · have SG : Sta Z h0 "jdk/internal/util/Preconditions" "SIOOBE_FORMATTER" "Ljava/util/function/BiFunction;" (.ref xg) := hE ▸ SF
    refine own_go (T' := s₁) (g' := (mkF m 1 #[.val (.int xi), .val (.int xn)] [(.int xi)])) (fun _ k => XS.iloadN X0.here hx rfl (hb hby own_dChk_0) rfl k) ?_
    refine own_go (T' := s₁) (g' := (mkF m 2 #[.val (.int xi), .val (.int xn)] [(.int xn), (.int xi)])) (fun _ k => XS.iloadN X0.here hx rfl (hb hby own_dChk_1) rfl k) ?_
    obtain ⟨T3, X3, e3, st3⟩ := getS X0 hx hZ (host := "") hown (hw _ (List.mem_of_getElem? (i := 46) rfl)) Via.refl e0 SG (g := (mkF m 2 #[.val (.int xi), .val (.int xn)] [(.int xn), (.int xi)])) rfl (hb hby own_dChk_2)
    refine own_go (T' := T3) (g' := (mkF m 5 #[.val (.int xi), .val (.int xn)] [(.ref xg), (.int xn), (.int xi)])) (fun _ k => st3 _ k) ?_
    obtain ⟨_, _, ⟨T4, L4, k4, n4⟩, -, X4, ⟨Lc4, hQ4, l4, y4, z4⟩, st4⟩ := Jvm.LawKit.callS X3 hx (y := (⟨"jdk/internal/util/Preconditions", "checkIndex", "(IILjava/util/function/BiFunction;)I"⟩ : MethodName)) hown (mvT hZ (hw _ (List.mem_of_getElem? (i := 48) rfl))) (mvT hZ (hw _ (List.mem_of_getElem? (i := 49) rfl))) (mvT hZ (hw _ (List.mem_of_getElem? (i := 47) rfl))) (mvT hZ (hw _ (List.mem_of_getElem? (i := 50) rfl))) (by decide) (backOf (W := 0) (own_rPcR l Z a0 hw [] xi xn xg h0 n0 Z0 h0i h1i) hZ (hw _ (List.mem_of_getElem? (i := 50) rfl)) (hw _ (List.mem_of_getElem? (i := 47) rfl)) (by decide) (by decide)) (g := (mkF m 5 #[.val (.int xi), .val (.int xn)] [(.ref xg), (.int xn), (.int xi)])) rfl (by rw [hml]; rfl) (argsL := [(.int xi), (.int xn), (.ref xg)]) (rest := []) (lenOf own_pd1 rfl) rfl (by show 2 * 0 + _ ≤ _; exact Nat.le_of_eq rfl) (hb hby own_dChk_5) (fun _ _ => ⟨rfl, e3, (by decide : 0 + 0 ≤ _), (by decide : 0 + 0 ≤ _)⟩)
    dsimp only [Pt.U, Pt.locs, Pt.cells, Pt.slots] at X4 l4 y4 z4 st4 hQ4
    subst l4 y4 z4
    obtain ⟨rfl, N4q, e4⟩ := hQ4
    have N4 := Fr.app N0 N4q
    refine own_go (T' := T4) (g' := (mkF m 8 #[.val (.int xi), .val (.int xn)] [(.int xi)])) (fun _ k => st4 _ k) ?_
    refine own_go (T' := T4) (g' := (mkF m 9 #[.val (.int xi), .val (.int xn)] [])) (fun _ k => XS.pop X4.here hx rfl (hb hby own_dChk_8) rfl rfl k) ?_
    obtain ⟨fs, hr, hrun, hended, hW, hsame⟩ := X4.leave (v := none) (fun _ => rfl)
    refine own_end (X4.returnOut hx Bd.returns (hb hby own_dChk_9) hr) hrun hended ⟨_, _, rfl, (?_ : own_QChk Z xi xn xv h0 n0 _ T4.heap _), ⟨_, rfl⟩, hW, hsame.mono (by decide) (by decide)⟩
    rw [e4]
    exact ⟨rfl, N4, rfl⟩
theorem own_pd2 : parseMethodDescriptor "(II)V" = some ⟨[.int, .int], none⟩ := by decide +kernel
theorem own_dCh0L_0 : decode jdk_43_method_2_code 0 = .ok (.iload_n 1, 1) := by decide +kernel
theorem own_dCh0L_1 : decode jdk_43_method_2_code 1 = .ok (.aload_n 0, 1) := by decide +kernel
theorem own_dCh0L_2 : decode jdk_43_method_2_code 2 = .ok (.arraylength, 1) := by decide +kernel
theorem own_dCh0L_3 : decode jdk_43_method_2_code 3 = .ok (.invokestatic 9, 3) := by decide +kernel
theorem own_dCh0L_6 : decode jdk_43_method_2_code 6 = .ok (.aload_n 0, 1) := by decide +kernel
theorem own_dCh0L_7 : decode jdk_43_method_2_code 7 = .ok (.iload_n 1, 1) := by decide +kernel
theorem own_dCh0L_8 : decode jdk_43_method_2_code 8 = .ok (.baload, 1) := by decide +kernel
theorem own_dCh0L_9 : decode jdk_43_method_2_code 9 = .ok (.sipush 255, 3) := by decide +kernel
theorem own_dCh0L_12 : decode jdk_43_method_2_code 12 = .ok (.iand, 1) := by decide +kernel
theorem own_dCh0L_13 : decode jdk_43_method_2_code 13 = .ok (.i2c, 1) := by decide +kernel
theorem own_dCh0L_14 : decode jdk_43_method_2_code 14 = .ok (.ireturn, 1) := by decide +kernel
theorem own_efCh0L (m : MethodId) (xt : Addr) : entryFrame m #[(.ref xt), (.int (0 : Int32))] 2 = mkF m 0 #[.val (.ref xt), .val (.int (0 : Int32))] [] := by first | (simp [entryFrame, mkF, argsToLocals, Value.category]; done) | rfl
def own_QCh0L (Z : State) (xt : Addr) (xk : ClassId) (x0 : Int32) (x1 : Int32) (xv : Value) (h0 : Heap) (n0 : Nat) (v : Option Value) (h : Heap) (L : List Loc) : Prop := v = some (.int (own_ch x0)) ∧ Fr n0 L ∧ h = h0
theorem own_pn2 : plainName "java/lang/StringLatin1" = true := by first | (simp [plainName, overriddenIn]; done) | decide +kernel
set_option maxRecDepth 65536 in
set_option maxHeartbeats 40000000 in
theorem own_rCh0L (l : Launch) (Z : State) (a0 : Array Value) (hw : ∀ d ∈ tables_1, d.before a0 Z = true) (ws : List Jvm.Cond) (xt : Addr) (xk : ClassId) (x0 : Int32) (x1 : Int32) (xv : Value) (h0 : Heap) (n0 : Nat) (Z0 : n0 ≤ h0.size) (SF : Sta Z h0 "jdk/internal/util/Preconditions" "SIOOBE_FORMATTER" "Ljava/util/function/BiFunction;" xv) (hvr : xv.isRef = true) (Ab : own_A Z h0 xt xk .byte [(.int x0), (.int x1)]) :
    MetFree l (⟨"java/lang/StringLatin1", "charAt", "([BI)C"⟩ : MethodName) (head1 (Jvm.Cond.code (⟨"java/lang/StringLatin1", "charAt", "([BI)C"⟩ : MethodName) jdk_43_method_2_code 2 (some .char) :: ws) ({ frames := 2, cells := 0, slots := 0, locals := 27 } : Room)) (fun a U => a = #[(.ref xt), (.int (0 : Int32))] ∧ Z.Warmed39 U.vm ∧ U.heap = h0) (fun _ _ _ _ _ => True) (fun _ U o U' => ∃ v L, o = .returned v ∧ own_QCh0L Z xt xk x0 x1 xv h0 n0 v U'.heap L ∧ FrameEnd U o U' L ({ frames := 2, cells := 0, slots := 0, locals := 27 } : Room).cells ({ frames := 2, cells := 0, slots := 0, locals := 27 } : Room).slots) := by
  refine MetFree.of_bodySF (plainFor_of_name own_pn2) hisR ?_
  intro p e s m args below meth c s₁ Bd hml0 hP hK
  obtain ⟨rfl, hZ, hh⟩ := hP
  have hx := Bd.exec
  have hby := Bd.bytes
  have hml : c.maxLocals = 2 := hml0
  have hown : s.vm.findClass "java/lang/StringLatin1" = some m.cls := findClass_of_methodNamed Bd.named
  have hnm := (name_of_methodNamed Bd.named Bd.method).1
  have X0 : Stand p l e ({ frames := 2, cells := 0, slots := 0, locals := 27 } : Room) s m #[(.ref xt), (.int (0 : Int32))] below meth c s₁ [] 0 0 := Stand.of_body Bd
  have e0 : s₁.heap = h0 := by rw [← hh, Bd.state]; rfl
  have N0 := Fr.nil n0
  show own_F p e below (fun o U' => ∃ v L, o = .returned v ∧ own_QCh0L Z xt xk x0 x1 xv h0 n0 v U'.heap L ∧ FrameEnd s o U' L ({ frames := 2, cells := 0, slots := 0, locals := 27 } : Room).cells ({ frames := 2, cells := 0, slots := 0, locals := 27 } : Room).slots) s₁ (entryFrame m #[(.ref xt), (.int (0 : Int32))] 2)
  rw [own_efCh0L m xt]
  refine own_go (T' := s₁) (g' := (mkF m 1 #[.val (.ref xt), .val (.int (0 : Int32))] [(.int (0 : Int32))])) (fun _ k => XS.iloadN X0.here hx rfl (hb hby own_dCh0L_0) rfl k) ?_
  refine own_go (T' := s₁) (g' := (mkF m 2 #[.val (.ref xt), .val (.int (0 : Int32))] [(.ref xt), (.int (0 : Int32))])) (fun _ k => XS.aloadN X0.here hx rfl (hb hby own_dCh0L_1) rfl rfl k) ?_
  refine own_go (T' := s₁) (g' := (mkF m 3 #[.val (.ref xt), .val (.int (0 : Int32))] [(.int (2 : Int32)), (.int (0 : Int32))])) (fun _ k => own_alen X0 hx hZ e0 Ab (g := (mkF m 2 #[.val (.ref xt), .val (.int (0 : Int32))] [(.ref xt), (.int (0 : Int32))])) rfl rfl (hb hby own_dCh0L_2) (n := (2 : Int32)) rfl k) ?_
  obtain ⟨_, _, ⟨T1, L1, k1, n1⟩, -, X1, ⟨Lc1, hQ1, l1, y1, z1⟩, st1⟩ := Jvm.LawKit.callS X0 hx (y := (⟨"java/lang/String", "checkIndex", "(II)V"⟩ : MethodName)) hown (mvT hZ (hw _ (List.mem_of_getElem? (i := 43) rfl))) (mvT hZ (hw _ (List.mem_of_getElem? (i := 44) rfl))) (mvT hZ (hw _ (List.mem_of_getElem? (i := 17) rfl))) (mvT hZ (hw _ (List.mem_of_getElem? (i := 45) rfl))) (by decide) (backOf (W := 0) (own_rChk l Z a0 hw [] (0 : Int32) (2 : Int32) xv h0 n0 Z0 SF hvr (by decide) (by decide)) hZ (hw _ (List.mem_of_getElem? (i := 45) rfl)) (hw _ (List.mem_of_getElem? (i := 17) rfl)) (by decide) (by decide)) (g := (mkF m 3 #[.val (.ref xt), .val (.int (0 : Int32))] [(.int (2 : Int32)), (.int (0 : Int32))])) rfl (by rw [hml]; rfl) (argsL := [(.int (0 : Int32)), (.int (2 : Int32))]) (rest := []) (lenOf own_pd2 rfl) rfl (by show 2 * 0 + _ ≤ _; exact Nat.le_of_eq rfl) (hb hby own_dCh0L_3) (fun _ _ => ⟨rfl, e0, (by decide : 0 + 0 ≤ _), (by decide : 0 + 0 ≤ _)⟩)
  dsimp only [Pt.U, Pt.locs, Pt.cells, Pt.slots] at X1 l1 y1 z1 st1 hQ1
  subst l1 y1 z1
  obtain ⟨rfl, N1q, e1⟩ := hQ1
  have N1 := Fr.app N0 N1q
  refine own_go (T' := T1) (g' := (mkF m 6 #[.val (.ref xt), .val (.int (0 : Int32))] [])) (fun _ k => st1 _ k) ?_
  refine own_go (T' := T1) (g' := (mkF m 7 #[.val (.ref xt), .val (.int (0 : Int32))] [(.ref xt)])) (fun _ k => XS.aloadN X1.here hx rfl (hb hby own_dCh0L_6) rfl rfl k) ?_
  refine own_go (T' := T1) (g' := (mkF m 8 #[.val (.ref xt), .val (.int (0 : Int32))] [(.int (0 : Int32)), (.ref xt)])) (fun _ k => XS.iloadN X1.here hx rfl (hb hby own_dCh0L_7) rfl k) ?_
  refine own_go (T' := T1) (g' := (mkF m 9 #[.val (.ref xt), .val (.int (0 : Int32))] [(.int x0)])) (fun _ k => own_baload X1 hx hZ e1 Ab (j := (0 : Int32)) (v := (.int x0)) (by decide) rfl (g := (mkF m 8 #[.val (.ref xt), .val (.int (0 : Int32))] [(.int (0 : Int32)), (.ref xt)])) rfl rfl (hb hby own_dCh0L_8) k) ?_
  refine own_go (T' := T1) (g' := (mkF m 12 #[.val (.ref xt), .val (.int (0 : Int32))] [(.int (255 : Int32)), (.int x0)])) (fun _ k => XS.sipush X1.here hx rfl (hb hby own_dCh0L_9) k) ?_
  refine own_go (T' := T1) (g' := (mkF m 13 #[.val (.ref xt), .val (.int (0 : Int32))] [(.int (x0 &&& (255 : Int32)))])) (fun _ k => XS.iand X1.here hx rfl (hb hby own_dCh0L_12) rfl k) ?_
  refine own_go (T' := T1) (g' := (mkF m 14 #[.val (.ref xt), .val (.int (0 : Int32))] [(.int ((x0 &&& (255 : Int32)).toUInt32.toUInt16.toUInt32.toInt32))])) (fun _ k => XS.i2c X1.here hx rfl (hb hby own_dCh0L_13) rfl k) ?_
  obtain ⟨fs, hr, hrun, hended, hW, hsame⟩ := X1.leave (v := some (.int (nar .char ((x0 &&& (255 : Int32)).toUInt32.toUInt16.toUInt32.toInt32)))) (fun h => by rw [Bd.returns] at h; cases h)
  refine own_end (retN X1 hx (t := .char) Bd.returns (by simp) (hb hby own_dCh0L_14) hr) hrun hended ⟨_, _, rfl, (?_ : own_QCh0L Z xt xk x0 x1 xv h0 n0 _ T1.heap _), ⟨_, rfl⟩, hW, hsame.mono (by decide) (by decide)⟩
  rw [e1]
  exact ⟨rfl, N1, rfl⟩
theorem own_pd3 : parseMethodDescriptor "()Z" = some ⟨[], some .boolean⟩ := by decide +kernel
theorem own_pd4 : parseMethodDescriptor "([BI)C" = some ⟨[(.array .byte), .int], some .char⟩ := by decide +kernel
theorem own_dCh0_0 : decode jdk_42_method_56_code 0 = .ok (.aload_n 0, 1) := by decide +kernel
theorem own_dCh0_1 : decode jdk_42_method_56_code 1 = .ok (.invokevirtual 492, 3) := by decide +kernel
theorem own_dCh0_4 : decode jdk_42_method_56_code 4 = .ok (.ifCond .eq 12, 3) := by decide +kernel
theorem own_dCh0_7 : decode jdk_42_method_56_code 7 = .ok (.aload_n 0, 1) := by decide +kernel
theorem own_dCh0_8 : decode jdk_42_method_56_code 8 = .ok (.getfield 9, 3) := by decide +kernel
theorem own_dCh0_11 : decode jdk_42_method_56_code 11 = .ok (.iload_n 1, 1) := by decide +kernel
theorem own_dCh0_12 : decode jdk_42_method_56_code 12 = .ok (.invokestatic 495, 3) := by decide +kernel
theorem own_dCh0_15 : decode jdk_42_method_56_code 15 = .ok (.ireturn, 1) := by decide +kernel
theorem own_efCh0 (m : MethodId) (xo : Addr) : entryFrame m #[(.ref xo), (.int (0 : Int32))] 2 = mkF m 0 #[.val (.ref xo), .val (.int (0 : Int32))] [] := by first | (simp [entryFrame, mkF, argsToLocals, Value.category]; done) | rfl
def own_QCh0 (Z : State) (xo : Addr) (xc : Int32) (xt : Addr) (xk : ClassId) (x0 : Int32) (x1 : Int32) (xv : Value) (h0 : Heap) (n0 : Nat) (v : Option Value) (h : Heap) (L : List Loc) : Prop := v = some (.int (nar .char (own_ch x0))) ∧ Fr n0 L ∧ h = h0
set_option maxRecDepth 65536 in
set_option maxHeartbeats 40000000 in
theorem own_rCh0 (l : Launch) (Z : State) (a0 : Array Value) (hw : ∀ d ∈ tables_1, d.before a0 Z = true) (ws : List Jvm.Cond) (xo : Addr) (xc : Int32) (xt : Addr) (xk : ClassId) (x0 : Int32) (x1 : Int32) (xv : Value) (h0 : Heap) (n0 : Nat) (Z0 : n0 ≤ h0.size) (SC : Sta Z h0 "java/lang/String" "COMPACT_STRINGS" "Z" (.int xc)) (hcz : ¬ xc = 0) (Fc : Fld Z h0 xo "java/lang/String" "coder" "B" (.int (0 : Int32))) (Fv : Fld Z h0 xo "java/lang/String" "value" "[B" (.ref xt)) (Eo : Exa Z h0 xo "java/lang/String") (SF : Sta Z h0 "jdk/internal/util/Preconditions" "SIOOBE_FORMATTER" "Ljava/util/function/BiFunction;" xv) (hvr : xv.isRef = true) (Ab : own_A Z h0 xt xk .byte [(.int x0), (.int x1)]) :
    MetFree l (⟨"java/lang/String", "charAt", "(I)C"⟩ : MethodName) (head1 (Jvm.Cond.code (⟨"java/lang/String", "charAt", "(I)C"⟩ : MethodName) jdk_42_method_56_code 2 (some .char) :: ws) ({ frames := 3, cells := 0, slots := 0, locals := 40 } : Room)) (fun a U => a = #[(.ref xo), (.int (0 : Int32))] ∧ Z.Warmed39 U.vm ∧ U.heap = h0) (fun _ _ _ _ _ => True) (fun _ U o U' => ∃ v L, o = .returned v ∧ own_QCh0 Z xo xc xt xk x0 x1 xv h0 n0 v U'.heap L ∧ FrameEnd U o U' L ({ frames := 3, cells := 0, slots := 0, locals := 40 } : Room).cells ({ frames := 3, cells := 0, slots := 0, locals := 40 } : Room).slots) := by
  refine MetFree.of_bodySF (plainFor_of_name own_pn0) hisR ?_
  intro p e s m args below meth c s₁ Bd hml0 hP hK
  obtain ⟨rfl, hZ, hh⟩ := hP
  have hx := Bd.exec
  have hby := Bd.bytes
  have hml : c.maxLocals = 2 := hml0
  have hown : s.vm.findClass "java/lang/String" = some m.cls := findClass_of_methodNamed Bd.named
  have hnm := (name_of_methodNamed Bd.named Bd.method).1
  have X0 : Stand p l e ({ frames := 3, cells := 0, slots := 0, locals := 40 } : Room) s m #[(.ref xo), (.int (0 : Int32))] below meth c s₁ [] 0 0 := Stand.of_body Bd
  have e0 : s₁.heap = h0 := by rw [← hh, Bd.state]; rfl
  have N0 := Fr.nil n0
  show own_F p e below (fun o U' => ∃ v L, o = .returned v ∧ own_QCh0 Z xo xc xt xk x0 x1 xv h0 n0 v U'.heap L ∧ FrameEnd s o U' L ({ frames := 3, cells := 0, slots := 0, locals := 40 } : Room).cells ({ frames := 3, cells := 0, slots := 0, locals := 40 } : Room).slots) s₁ (entryFrame m #[(.ref xo), (.int (0 : Int32))] 2)
  rw [own_efCh0 m xo]
  refine own_go (T' := s₁) (g' := (mkF m 1 #[.val (.ref xo), .val (.int (0 : Int32))] [(.ref xo)])) (fun _ k => XS.aloadN X0.here hx rfl (hb hby own_dCh0_0) rfl rfl k) ?_
  obtain ⟨cq1, kq1, q1a, q1b, q1c⟩ := isOf hZ e0 Eo
  obtain ⟨_, _, ⟨T1, L1, k1, n1⟩, -, X1, ⟨Lc1, hQ1, l1, y1, z1⟩, st1⟩ := X0.virtualBack hx (y := (⟨"java/lang/String", "isLatin1", "()Z"⟩ : MethodName)) (z := (⟨"java/lang/String", "isLatin1", "()Z"⟩ : MethodName)) hown (mvT hZ (hw _ (List.mem_of_getElem? (i := 34) rfl))) (mvT hZ (hw _ (List.mem_of_getElem? (i := 35) rfl))) (notFace_of_selects (args := #[]) (mvT hZ (hw _ (List.mem_of_getElem? (i := 37) rfl)))) (mvT hZ (hw _ (List.mem_of_getElem? (i := 37) rfl))) (mvT hZ (hw _ (List.mem_of_getElem? (i := 36) rfl))) (by decide) (backOf (W := 0) (own_rLat l Z a0 hw [] xo xc h0 n0 Z0 SC hcz Fc) hZ (hw _ (List.mem_of_getElem? (i := 38) rfl)) (hw _ (List.mem_of_getElem? (i := 17) rfl)) (by decide) (by decide)) q1a q1c (g := (mkF m 1 #[.val (.ref xo), .val (.int (0 : Int32))] [(.ref xo)])) rfl (by rw [hml]; rfl) (Steps.refl _) (argsL := []) (rest := []) (lenOf own_pd3 rfl) rfl (by show 2 * 0 + _ ≤ _; exact Nat.le_of_eq rfl) (hb hby own_dCh0_1) (fun _ _ => ⟨rfl, e0, (by decide : 0 + 0 ≤ _), (by decide : 0 + 0 ≤ _)⟩)
  dsimp only [Pt.U, Pt.locs, Pt.cells, Pt.slots] at X1 l1 y1 z1 st1 hQ1
  subst l1 y1 z1
  obtain ⟨rfl, N1q, e1⟩ := hQ1
  have N1 := Fr.app N0 N1q
  refine own_goT (T' := T1) (g' := (mkF m 4 #[.val (.ref xo), .val (.int (0 : Int32))] [(.int (1 : Int32))])) st1 ?_
  refine own_go (T' := T1) (g' := (mkF m 7 #[.val (.ref xo), .val (.int (0 : Int32))] [])) (fun _ k => XS.ifNo X1.here hx rfl (hb hby own_dCh0_4) rfl ((if0 _ _).trans (feq ((by decide) : ¬ ((1 : Int32) = (0 : Int32)))).1) k) ?_
  refine own_go (T' := T1) (g' := (mkF m 8 #[.val (.ref xo), .val (.int (0 : Int32))] [(.ref xo)])) (fun _ k => XS.aloadN X1.here hx rfl (hb hby own_dCh0_7) rfl rfl k) ?_
  obtain ⟨T2, X2, e2, st2⟩ := getF X1 hx hZ hown (host := "") (Or.inl (hw _ (List.mem_of_getElem? (i := 19) rfl))) Via.refl e1 Fv (g := (mkF m 8 #[.val (.ref xo), .val (.int (0 : Int32))] [(.ref xo)])) rfl rfl (hb hby own_dCh0_8)
  refine own_go (T' := T2) (g' := (mkF m 11 #[.val (.ref xo), .val (.int (0 : Int32))] [(.ref xt)])) (fun _ k => st2 _ k) ?_
  refine own_go (T' := T2) (g' := (mkF m 12 #[.val (.ref xo), .val (.int (0 : Int32))] [(.int (0 : Int32)), (.ref xt)])) (fun _ k => XS.iloadN X2.here hx rfl (hb hby own_dCh0_11) rfl k) ?_
  obtain ⟨_, _, ⟨T3, L3, k3, n3⟩, -, X3, ⟨Lc3, hQ3, l3, y3, z3⟩, st3⟩ := Jvm.LawKit.callS X2 hx (y := (⟨"java/lang/StringLatin1", "charAt", "([BI)C"⟩ : MethodName)) hown (mvT hZ (hw _ (List.mem_of_getElem? (i := 39) rfl))) (mvT hZ (hw _ (List.mem_of_getElem? (i := 40) rfl))) (mvT hZ (hw _ (List.mem_of_getElem? (i := 41) rfl))) (mvT hZ (hw _ (List.mem_of_getElem? (i := 42) rfl))) (by decide) (backOf (W := 0) (own_rCh0L l Z a0 hw [] xt xk x0 x1 xv h0 n0 Z0 SF hvr Ab) hZ (hw _ (List.mem_of_getElem? (i := 42) rfl)) (hw _ (List.mem_of_getElem? (i := 41) rfl)) (by decide) (by decide)) (g := (mkF m 12 #[.val (.ref xo), .val (.int (0 : Int32))] [(.int (0 : Int32)), (.ref xt)])) rfl (by rw [hml]; rfl) (argsL := [(.ref xt), (.int (0 : Int32))]) (rest := []) (lenOf own_pd4 rfl) rfl (by show 2 * 0 + _ ≤ _; exact Nat.le_of_eq rfl) (hb hby own_dCh0_12) (fun _ _ => ⟨rfl, e2, (by decide : 0 + 0 ≤ _), (by decide : 0 + 0 ≤ _)⟩)
  dsimp only [Pt.U, Pt.locs, Pt.cells, Pt.slots] at X3 l3 y3 z3 st3 hQ3
  subst l3 y3 z3
  obtain ⟨rfl, N3q, e3⟩ := hQ3
  have N3 := Fr.app N1 N3q
  refine own_go (T' := T3) (g' := (mkF m 15 #[.val (.ref xo), .val (.int (0 : Int32))] [(.int (own_ch x0))])) (fun _ k => st3 _ k) ?_
  obtain ⟨fs, hr, hrun, hended, hW, hsame⟩ := X3.leave (v := some (.int (nar .char (own_ch x0)))) (fun h => by rw [Bd.returns] at h; cases h)
  refine own_end (retN X3 hx (t := .char) Bd.returns (by simp) (hb hby own_dCh0_15) hr) hrun hended ⟨_, _, rfl, (?_ : own_QCh0 Z xo xc xt xk x0 x1 xv h0 n0 _ T3.heap _), ⟨_, rfl⟩, hW, hsame.mono (by decide) (by decide)⟩
  rw [e3]
  exact ⟨rfl, N3, rfl⟩
theorem own_dCh1L_0 : decode jdk_43_method_2_code 0 = .ok (.iload_n 1, 1) := by decide +kernel
theorem own_dCh1L_1 : decode jdk_43_method_2_code 1 = .ok (.aload_n 0, 1) := by decide +kernel
theorem own_dCh1L_2 : decode jdk_43_method_2_code 2 = .ok (.arraylength, 1) := by decide +kernel
theorem own_dCh1L_3 : decode jdk_43_method_2_code 3 = .ok (.invokestatic 9, 3) := by decide +kernel
theorem own_dCh1L_6 : decode jdk_43_method_2_code 6 = .ok (.aload_n 0, 1) := by decide +kernel
theorem own_dCh1L_7 : decode jdk_43_method_2_code 7 = .ok (.iload_n 1, 1) := by decide +kernel
theorem own_dCh1L_8 : decode jdk_43_method_2_code 8 = .ok (.baload, 1) := by decide +kernel
theorem own_dCh1L_9 : decode jdk_43_method_2_code 9 = .ok (.sipush 255, 3) := by decide +kernel
theorem own_dCh1L_12 : decode jdk_43_method_2_code 12 = .ok (.iand, 1) := by decide +kernel
theorem own_dCh1L_13 : decode jdk_43_method_2_code 13 = .ok (.i2c, 1) := by decide +kernel
theorem own_dCh1L_14 : decode jdk_43_method_2_code 14 = .ok (.ireturn, 1) := by decide +kernel
theorem own_efCh1L (m : MethodId) (xt : Addr) : entryFrame m #[(.ref xt), (.int (1 : Int32))] 2 = mkF m 0 #[.val (.ref xt), .val (.int (1 : Int32))] [] := by first | (simp [entryFrame, mkF, argsToLocals, Value.category]; done) | rfl
def own_QCh1L (Z : State) (xt : Addr) (xk : ClassId) (x0 : Int32) (x1 : Int32) (xv : Value) (h0 : Heap) (n0 : Nat) (v : Option Value) (h : Heap) (L : List Loc) : Prop := v = some (.int (own_ch x1)) ∧ Fr n0 L ∧ h = h0
set_option maxRecDepth 65536 in
set_option maxHeartbeats 40000000 in
theorem own_rCh1L (l : Launch) (Z : State) (a0 : Array Value) (hw : ∀ d ∈ tables_1, d.before a0 Z = true) (ws : List Jvm.Cond) (xt : Addr) (xk : ClassId) (x0 : Int32) (x1 : Int32) (xv : Value) (h0 : Heap) (n0 : Nat) (Z0 : n0 ≤ h0.size) (SF : Sta Z h0 "jdk/internal/util/Preconditions" "SIOOBE_FORMATTER" "Ljava/util/function/BiFunction;" xv) (hvr : xv.isRef = true) (Ab : own_A Z h0 xt xk .byte [(.int x0), (.int x1)]) :
    MetFree l (⟨"java/lang/StringLatin1", "charAt", "([BI)C"⟩ : MethodName) (head1 (Jvm.Cond.code (⟨"java/lang/StringLatin1", "charAt", "([BI)C"⟩ : MethodName) jdk_43_method_2_code 2 (some .char) :: ws) ({ frames := 2, cells := 0, slots := 0, locals := 27 } : Room)) (fun a U => a = #[(.ref xt), (.int (1 : Int32))] ∧ Z.Warmed39 U.vm ∧ U.heap = h0) (fun _ _ _ _ _ => True) (fun _ U o U' => ∃ v L, o = .returned v ∧ own_QCh1L Z xt xk x0 x1 xv h0 n0 v U'.heap L ∧ FrameEnd U o U' L ({ frames := 2, cells := 0, slots := 0, locals := 27 } : Room).cells ({ frames := 2, cells := 0, slots := 0, locals := 27 } : Room).slots) := by
  refine MetFree.of_bodySF (plainFor_of_name own_pn2) hisR ?_
  intro p e s m args below meth c s₁ Bd hml0 hP hK
  obtain ⟨rfl, hZ, hh⟩ := hP
  have hx := Bd.exec
  have hby := Bd.bytes
  have hml : c.maxLocals = 2 := hml0
  have hown : s.vm.findClass "java/lang/StringLatin1" = some m.cls := findClass_of_methodNamed Bd.named
  have hnm := (name_of_methodNamed Bd.named Bd.method).1
  have X0 : Stand p l e ({ frames := 2, cells := 0, slots := 0, locals := 27 } : Room) s m #[(.ref xt), (.int (1 : Int32))] below meth c s₁ [] 0 0 := Stand.of_body Bd
  have e0 : s₁.heap = h0 := by rw [← hh, Bd.state]; rfl
  have N0 := Fr.nil n0
  show own_F p e below (fun o U' => ∃ v L, o = .returned v ∧ own_QCh1L Z xt xk x0 x1 xv h0 n0 v U'.heap L ∧ FrameEnd s o U' L ({ frames := 2, cells := 0, slots := 0, locals := 27 } : Room).cells ({ frames := 2, cells := 0, slots := 0, locals := 27 } : Room).slots) s₁ (entryFrame m #[(.ref xt), (.int (1 : Int32))] 2)
  rw [own_efCh1L m xt]
  refine own_go (T' := s₁) (g' := (mkF m 1 #[.val (.ref xt), .val (.int (1 : Int32))] [(.int (1 : Int32))])) (fun _ k => XS.iloadN X0.here hx rfl (hb hby own_dCh1L_0) rfl k) ?_
  refine own_go (T' := s₁) (g' := (mkF m 2 #[.val (.ref xt), .val (.int (1 : Int32))] [(.ref xt), (.int (1 : Int32))])) (fun _ k => XS.aloadN X0.here hx rfl (hb hby own_dCh1L_1) rfl rfl k) ?_
  refine own_go (T' := s₁) (g' := (mkF m 3 #[.val (.ref xt), .val (.int (1 : Int32))] [(.int (2 : Int32)), (.int (1 : Int32))])) (fun _ k => own_alen X0 hx hZ e0 Ab (g := (mkF m 2 #[.val (.ref xt), .val (.int (1 : Int32))] [(.ref xt), (.int (1 : Int32))])) rfl rfl (hb hby own_dCh1L_2) (n := (2 : Int32)) rfl k) ?_
  obtain ⟨_, _, ⟨T1, L1, k1, n1⟩, -, X1, ⟨Lc1, hQ1, l1, y1, z1⟩, st1⟩ := Jvm.LawKit.callS X0 hx (y := (⟨"java/lang/String", "checkIndex", "(II)V"⟩ : MethodName)) hown (mvT hZ (hw _ (List.mem_of_getElem? (i := 43) rfl))) (mvT hZ (hw _ (List.mem_of_getElem? (i := 44) rfl))) (mvT hZ (hw _ (List.mem_of_getElem? (i := 17) rfl))) (mvT hZ (hw _ (List.mem_of_getElem? (i := 45) rfl))) (by decide) (backOf (W := 0) (own_rChk l Z a0 hw [] (1 : Int32) (2 : Int32) xv h0 n0 Z0 SF hvr (by decide) (by decide)) hZ (hw _ (List.mem_of_getElem? (i := 45) rfl)) (hw _ (List.mem_of_getElem? (i := 17) rfl)) (by decide) (by decide)) (g := (mkF m 3 #[.val (.ref xt), .val (.int (1 : Int32))] [(.int (2 : Int32)), (.int (1 : Int32))])) rfl (by rw [hml]; rfl) (argsL := [(.int (1 : Int32)), (.int (2 : Int32))]) (rest := []) (lenOf own_pd2 rfl) rfl (by show 2 * 0 + _ ≤ _; exact Nat.le_of_eq rfl) (hb hby own_dCh1L_3) (fun _ _ => ⟨rfl, e0, (by decide : 0 + 0 ≤ _), (by decide : 0 + 0 ≤ _)⟩)
  dsimp only [Pt.U, Pt.locs, Pt.cells, Pt.slots] at X1 l1 y1 z1 st1 hQ1
  subst l1 y1 z1
  obtain ⟨rfl, N1q, e1⟩ := hQ1
  have N1 := Fr.app N0 N1q
  refine own_go (T' := T1) (g' := (mkF m 6 #[.val (.ref xt), .val (.int (1 : Int32))] [])) (fun _ k => st1 _ k) ?_
  refine own_go (T' := T1) (g' := (mkF m 7 #[.val (.ref xt), .val (.int (1 : Int32))] [(.ref xt)])) (fun _ k => XS.aloadN X1.here hx rfl (hb hby own_dCh1L_6) rfl rfl k) ?_
  refine own_go (T' := T1) (g' := (mkF m 8 #[.val (.ref xt), .val (.int (1 : Int32))] [(.int (1 : Int32)), (.ref xt)])) (fun _ k => XS.iloadN X1.here hx rfl (hb hby own_dCh1L_7) rfl k) ?_
  refine own_go (T' := T1) (g' := (mkF m 9 #[.val (.ref xt), .val (.int (1 : Int32))] [(.int x1)])) (fun _ k => own_baload X1 hx hZ e1 Ab (j := (1 : Int32)) (v := (.int x1)) (by decide) rfl (g := (mkF m 8 #[.val (.ref xt), .val (.int (1 : Int32))] [(.int (1 : Int32)), (.ref xt)])) rfl rfl (hb hby own_dCh1L_8) k) ?_
  refine own_go (T' := T1) (g' := (mkF m 12 #[.val (.ref xt), .val (.int (1 : Int32))] [(.int (255 : Int32)), (.int x1)])) (fun _ k => XS.sipush X1.here hx rfl (hb hby own_dCh1L_9) k) ?_
  refine own_go (T' := T1) (g' := (mkF m 13 #[.val (.ref xt), .val (.int (1 : Int32))] [(.int (x1 &&& (255 : Int32)))])) (fun _ k => XS.iand X1.here hx rfl (hb hby own_dCh1L_12) rfl k) ?_
  refine own_go (T' := T1) (g' := (mkF m 14 #[.val (.ref xt), .val (.int (1 : Int32))] [(.int ((x1 &&& (255 : Int32)).toUInt32.toUInt16.toUInt32.toInt32))])) (fun _ k => XS.i2c X1.here hx rfl (hb hby own_dCh1L_13) rfl k) ?_
  obtain ⟨fs, hr, hrun, hended, hW, hsame⟩ := X1.leave (v := some (.int (nar .char ((x1 &&& (255 : Int32)).toUInt32.toUInt16.toUInt32.toInt32)))) (fun h => by rw [Bd.returns] at h; cases h)
  refine own_end (retN X1 hx (t := .char) Bd.returns (by simp) (hb hby own_dCh1L_14) hr) hrun hended ⟨_, _, rfl, (?_ : own_QCh1L Z xt xk x0 x1 xv h0 n0 _ T1.heap _), ⟨_, rfl⟩, hW, hsame.mono (by decide) (by decide)⟩
  rw [e1]
  exact ⟨rfl, N1, rfl⟩
theorem own_dCh1_0 : decode jdk_42_method_56_code 0 = .ok (.aload_n 0, 1) := by decide +kernel
theorem own_dCh1_1 : decode jdk_42_method_56_code 1 = .ok (.invokevirtual 492, 3) := by decide +kernel
theorem own_dCh1_4 : decode jdk_42_method_56_code 4 = .ok (.ifCond .eq 12, 3) := by decide +kernel
theorem own_dCh1_7 : decode jdk_42_method_56_code 7 = .ok (.aload_n 0, 1) := by decide +kernel
theorem own_dCh1_8 : decode jdk_42_method_56_code 8 = .ok (.getfield 9, 3) := by decide +kernel
theorem own_dCh1_11 : decode jdk_42_method_56_code 11 = .ok (.iload_n 1, 1) := by decide +kernel
theorem own_dCh1_12 : decode jdk_42_method_56_code 12 = .ok (.invokestatic 495, 3) := by decide +kernel
theorem own_dCh1_15 : decode jdk_42_method_56_code 15 = .ok (.ireturn, 1) := by decide +kernel
theorem own_efCh1 (m : MethodId) (xo : Addr) : entryFrame m #[(.ref xo), (.int (1 : Int32))] 2 = mkF m 0 #[.val (.ref xo), .val (.int (1 : Int32))] [] := by first | (simp [entryFrame, mkF, argsToLocals, Value.category]; done) | rfl
def own_QCh1 (Z : State) (xo : Addr) (xc : Int32) (xt : Addr) (xk : ClassId) (x0 : Int32) (x1 : Int32) (xv : Value) (h0 : Heap) (n0 : Nat) (v : Option Value) (h : Heap) (L : List Loc) : Prop := v = some (.int (nar .char (own_ch x1))) ∧ Fr n0 L ∧ h = h0
set_option maxRecDepth 65536 in
set_option maxHeartbeats 40000000 in
theorem own_rCh1 (l : Launch) (Z : State) (a0 : Array Value) (hw : ∀ d ∈ tables_1, d.before a0 Z = true) (ws : List Jvm.Cond) (xo : Addr) (xc : Int32) (xt : Addr) (xk : ClassId) (x0 : Int32) (x1 : Int32) (xv : Value) (h0 : Heap) (n0 : Nat) (Z0 : n0 ≤ h0.size) (SC : Sta Z h0 "java/lang/String" "COMPACT_STRINGS" "Z" (.int xc)) (hcz : ¬ xc = 0) (Fc : Fld Z h0 xo "java/lang/String" "coder" "B" (.int (0 : Int32))) (Fv : Fld Z h0 xo "java/lang/String" "value" "[B" (.ref xt)) (Eo : Exa Z h0 xo "java/lang/String") (SF : Sta Z h0 "jdk/internal/util/Preconditions" "SIOOBE_FORMATTER" "Ljava/util/function/BiFunction;" xv) (hvr : xv.isRef = true) (Ab : own_A Z h0 xt xk .byte [(.int x0), (.int x1)]) :
    MetFree l (⟨"java/lang/String", "charAt", "(I)C"⟩ : MethodName) (head1 (Jvm.Cond.code (⟨"java/lang/String", "charAt", "(I)C"⟩ : MethodName) jdk_42_method_56_code 2 (some .char) :: ws) ({ frames := 3, cells := 0, slots := 0, locals := 40 } : Room)) (fun a U => a = #[(.ref xo), (.int (1 : Int32))] ∧ Z.Warmed39 U.vm ∧ U.heap = h0) (fun _ _ _ _ _ => True) (fun _ U o U' => ∃ v L, o = .returned v ∧ own_QCh1 Z xo xc xt xk x0 x1 xv h0 n0 v U'.heap L ∧ FrameEnd U o U' L ({ frames := 3, cells := 0, slots := 0, locals := 40 } : Room).cells ({ frames := 3, cells := 0, slots := 0, locals := 40 } : Room).slots) := by
  refine MetFree.of_bodySF (plainFor_of_name own_pn0) hisR ?_
  intro p e s m args below meth c s₁ Bd hml0 hP hK
  obtain ⟨rfl, hZ, hh⟩ := hP
  have hx := Bd.exec
  have hby := Bd.bytes
  have hml : c.maxLocals = 2 := hml0
  have hown : s.vm.findClass "java/lang/String" = some m.cls := findClass_of_methodNamed Bd.named
  have hnm := (name_of_methodNamed Bd.named Bd.method).1
  have X0 : Stand p l e ({ frames := 3, cells := 0, slots := 0, locals := 40 } : Room) s m #[(.ref xo), (.int (1 : Int32))] below meth c s₁ [] 0 0 := Stand.of_body Bd
  have e0 : s₁.heap = h0 := by rw [← hh, Bd.state]; rfl
  have N0 := Fr.nil n0
  show own_F p e below (fun o U' => ∃ v L, o = .returned v ∧ own_QCh1 Z xo xc xt xk x0 x1 xv h0 n0 v U'.heap L ∧ FrameEnd s o U' L ({ frames := 3, cells := 0, slots := 0, locals := 40 } : Room).cells ({ frames := 3, cells := 0, slots := 0, locals := 40 } : Room).slots) s₁ (entryFrame m #[(.ref xo), (.int (1 : Int32))] 2)
  rw [own_efCh1 m xo]
  refine own_go (T' := s₁) (g' := (mkF m 1 #[.val (.ref xo), .val (.int (1 : Int32))] [(.ref xo)])) (fun _ k => XS.aloadN X0.here hx rfl (hb hby own_dCh1_0) rfl rfl k) ?_
  obtain ⟨cq1, kq1, q1a, q1b, q1c⟩ := isOf hZ e0 Eo
  obtain ⟨_, _, ⟨T1, L1, k1, n1⟩, -, X1, ⟨Lc1, hQ1, l1, y1, z1⟩, st1⟩ := X0.virtualBack hx (y := (⟨"java/lang/String", "isLatin1", "()Z"⟩ : MethodName)) (z := (⟨"java/lang/String", "isLatin1", "()Z"⟩ : MethodName)) hown (mvT hZ (hw _ (List.mem_of_getElem? (i := 34) rfl))) (mvT hZ (hw _ (List.mem_of_getElem? (i := 35) rfl))) (notFace_of_selects (args := #[]) (mvT hZ (hw _ (List.mem_of_getElem? (i := 37) rfl)))) (mvT hZ (hw _ (List.mem_of_getElem? (i := 37) rfl))) (mvT hZ (hw _ (List.mem_of_getElem? (i := 36) rfl))) (by decide) (backOf (W := 0) (own_rLat l Z a0 hw [] xo xc h0 n0 Z0 SC hcz Fc) hZ (hw _ (List.mem_of_getElem? (i := 38) rfl)) (hw _ (List.mem_of_getElem? (i := 17) rfl)) (by decide) (by decide)) q1a q1c (g := (mkF m 1 #[.val (.ref xo), .val (.int (1 : Int32))] [(.ref xo)])) rfl (by rw [hml]; rfl) (Steps.refl _) (argsL := []) (rest := []) (lenOf own_pd3 rfl) rfl (by show 2 * 0 + _ ≤ _; exact Nat.le_of_eq rfl) (hb hby own_dCh1_1) (fun _ _ => ⟨rfl, e0, (by decide : 0 + 0 ≤ _), (by decide : 0 + 0 ≤ _)⟩)
  dsimp only [Pt.U, Pt.locs, Pt.cells, Pt.slots] at X1 l1 y1 z1 st1 hQ1
  subst l1 y1 z1
  obtain ⟨rfl, N1q, e1⟩ := hQ1
  have N1 := Fr.app N0 N1q
  refine own_goT (T' := T1) (g' := (mkF m 4 #[.val (.ref xo), .val (.int (1 : Int32))] [(.int (1 : Int32))])) st1 ?_
  refine own_go (T' := T1) (g' := (mkF m 7 #[.val (.ref xo), .val (.int (1 : Int32))] [])) (fun _ k => XS.ifNo X1.here hx rfl (hb hby own_dCh1_4) rfl ((if0 _ _).trans (feq ((by decide) : ¬ ((1 : Int32) = (0 : Int32)))).1) k) ?_
  refine own_go (T' := T1) (g' := (mkF m 8 #[.val (.ref xo), .val (.int (1 : Int32))] [(.ref xo)])) (fun _ k => XS.aloadN X1.here hx rfl (hb hby own_dCh1_7) rfl rfl k) ?_
  obtain ⟨T2, X2, e2, st2⟩ := getF X1 hx hZ hown (host := "") (Or.inl (hw _ (List.mem_of_getElem? (i := 19) rfl))) Via.refl e1 Fv (g := (mkF m 8 #[.val (.ref xo), .val (.int (1 : Int32))] [(.ref xo)])) rfl rfl (hb hby own_dCh1_8)
  refine own_go (T' := T2) (g' := (mkF m 11 #[.val (.ref xo), .val (.int (1 : Int32))] [(.ref xt)])) (fun _ k => st2 _ k) ?_
  refine own_go (T' := T2) (g' := (mkF m 12 #[.val (.ref xo), .val (.int (1 : Int32))] [(.int (1 : Int32)), (.ref xt)])) (fun _ k => XS.iloadN X2.here hx rfl (hb hby own_dCh1_11) rfl k) ?_
  obtain ⟨_, _, ⟨T3, L3, k3, n3⟩, -, X3, ⟨Lc3, hQ3, l3, y3, z3⟩, st3⟩ := Jvm.LawKit.callS X2 hx (y := (⟨"java/lang/StringLatin1", "charAt", "([BI)C"⟩ : MethodName)) hown (mvT hZ (hw _ (List.mem_of_getElem? (i := 39) rfl))) (mvT hZ (hw _ (List.mem_of_getElem? (i := 40) rfl))) (mvT hZ (hw _ (List.mem_of_getElem? (i := 41) rfl))) (mvT hZ (hw _ (List.mem_of_getElem? (i := 42) rfl))) (by decide) (backOf (W := 0) (own_rCh1L l Z a0 hw [] xt xk x0 x1 xv h0 n0 Z0 SF hvr Ab) hZ (hw _ (List.mem_of_getElem? (i := 42) rfl)) (hw _ (List.mem_of_getElem? (i := 41) rfl)) (by decide) (by decide)) (g := (mkF m 12 #[.val (.ref xo), .val (.int (1 : Int32))] [(.int (1 : Int32)), (.ref xt)])) rfl (by rw [hml]; rfl) (argsL := [(.ref xt), (.int (1 : Int32))]) (rest := []) (lenOf own_pd4 rfl) rfl (by show 2 * 0 + _ ≤ _; exact Nat.le_of_eq rfl) (hb hby own_dCh1_12) (fun _ _ => ⟨rfl, e2, (by decide : 0 + 0 ≤ _), (by decide : 0 + 0 ≤ _)⟩)
  dsimp only [Pt.U, Pt.locs, Pt.cells, Pt.slots] at X3 l3 y3 z3 st3 hQ3
  subst l3 y3 z3
  obtain ⟨rfl, N3q, e3⟩ := hQ3
  have N3 := Fr.app N1 N3q
  refine own_go (T' := T3) (g' := (mkF m 15 #[.val (.ref xo), .val (.int (1 : Int32))] [(.int (own_ch x1))])) (fun _ k => st3 _ k) ?_
  obtain ⟨fs, hr, hrun, hended, hW, hsame⟩ := X3.leave (v := some (.int (nar .char (own_ch x1)))) (fun h => by rw [Bd.returns] at h; cases h)
  refine own_end (retN X3 hx (t := .char) Bd.returns (by simp) (hb hby own_dCh1_15) hr) hrun hended ⟨_, _, rfl, (?_ : own_QCh1 Z xo xc xt xk x0 x1 xv h0 n0 _ T3.heap _), ⟨_, rfl⟩, hW, hsame.mono (by decide) (by decide)⟩
  rw [e3]
  exact ⟨rfl, N3, rfl⟩
theorem own_dOf11_0 : decode prog_77_method_8_code 0 = .ok (.iload_n 0, 1) := by decide +kernel
theorem own_dOf11_1 : decode prog_77_method_8_code 1 = .ok (.ifCond .eq 17, 3) := by decide +kernel
theorem own_dOf11_4 : decode prog_77_method_8_code 4 = .ok (.iload_n 1, 1) := by decide +kernel
theorem own_dOf11_5 : decode prog_77_method_8_code 5 = .ok (.ifCond .eq 9, 3) := by decide +kernel
theorem own_dOf11_8 : decode prog_77_method_8_code 8 = .ok (.getstatic 3, 3) := by decide +kernel
theorem own_dOf11_11 : decode prog_77_method_8_code 11 = .ok (.goto 6, 3) := by decide +kernel
theorem own_dOf11_17 : decode prog_77_method_8_code 17 = .ok (.areturn, 1) := by decide +kernel
theorem own_efOf11 (m : MethodId)  : entryFrame m #[(.int (1 : Int32)), (.int (1 : Int32))] 2 = mkF m 0 #[.val (.int (1 : Int32)), .val (.int (1 : Int32))] [] := by first | (simp [entryFrame, mkF, argsToLocals, Value.category]; done) | rfl
def own_QOf11 (Z : State)  (a_WHOLE : Addr) (h0 : Heap) (n0 : Nat) (v : Option Value) (h : Heap) (L : List Loc) : Prop := v = some (.ref a_WHOLE) ∧ Fr n0 L ∧ h = h0
theorem own_pn3 : plainName "com/example/tokenweave/tokenweave/service/PieceLayout$Position" = true := by first | (simp [plainName, overriddenIn]; done) | decide +kernel
set_option maxRecDepth 65536 in
set_option maxHeartbeats 40000000 in
theorem own_rOf11 (l : Launch) (Z : State) (a0 : Array Value) (hw : ∀ d ∈ tables_1, d.before a0 Z = true) (ws : List Jvm.Cond)  (a_WHOLE : Addr) (h0 : Heap) (n0 : Nat) (Z0 : n0 ≤ h0.size) (S_WHOLE : Sta Z h0 "com/example/tokenweave/tokenweave/service/PieceLayout$Position" "WHOLE" "Lcom/example/tokenweave/tokenweave/service/PieceLayout$Position;" (.ref a_WHOLE)) :
    MetFree l (⟨"com/example/tokenweave/tokenweave/service/PieceLayout$Position", "of", "(ZZ)Lcom/example/tokenweave/tokenweave/service/PieceLayout$Position;"⟩ : MethodName) (head1 (Jvm.Cond.code (⟨"com/example/tokenweave/tokenweave/service/PieceLayout$Position", "of", "(ZZ)Lcom/example/tokenweave/tokenweave/service/PieceLayout$Position;"⟩ : MethodName) prog_77_method_8_code 2 (some (.object "com/example/tokenweave/tokenweave/service/PieceLayout$Position")) :: ws) ({ frames := 0, cells := 0, slots := 0, locals := 0 } : Room)) (fun a U => a = #[(.int (1 : Int32)), (.int (1 : Int32))] ∧ Z.Warmed39 U.vm ∧ U.heap = h0) (fun _ _ _ _ _ => True) (fun _ U o U' => ∃ v L, o = .returned v ∧ own_QOf11 Z a_WHOLE h0 n0 v U'.heap L ∧ FrameEnd U o U' L ({ frames := 0, cells := 0, slots := 0, locals := 0 } : Room).cells ({ frames := 0, cells := 0, slots := 0, locals := 0 } : Room).slots) := by
  refine MetFree.of_bodySF (plainFor_of_name own_pn3) hisR ?_
  intro p e s m args below meth c s₁ Bd hml0 hP hK
  obtain ⟨rfl, hZ, hh⟩ := hP
  have hx := Bd.exec
  have hby := Bd.bytes
  have hml : c.maxLocals = 2 := hml0
  have hown : s.vm.findClass "com/example/tokenweave/tokenweave/service/PieceLayout$Position" = some m.cls := findClass_of_methodNamed Bd.named
  have hnm := (name_of_methodNamed Bd.named Bd.method).1
  have X0 : Stand p l e ({ frames := 0, cells := 0, slots := 0, locals := 0 } : Room) s m #[(.int (1 : Int32)), (.int (1 : Int32))] below meth c s₁ [] 0 0 := Stand.of_body Bd
  have e0 : s₁.heap = h0 := by rw [← hh, Bd.state]; rfl
  have N0 := Fr.nil n0
  show own_F p e below (fun o U' => ∃ v L, o = .returned v ∧ own_QOf11 Z a_WHOLE h0 n0 v U'.heap L ∧ FrameEnd s o U' L ({ frames := 0, cells := 0, slots := 0, locals := 0 } : Room).cells ({ frames := 0, cells := 0, slots := 0, locals := 0 } : Room).slots) s₁ (entryFrame m #[(.int (1 : Int32)), (.int (1 : Int32))] 2)
  rw [own_efOf11 m ]
  refine own_go (T' := s₁) (g' := (mkF m 1 #[.val (.int (1 : Int32)), .val (.int (1 : Int32))] [(.int (1 : Int32))])) (fun _ k => XS.iloadN X0.here hx rfl (hb hby own_dOf11_0) rfl k) ?_
  refine own_go (T' := s₁) (g' := (mkF m 4 #[.val (.int (1 : Int32)), .val (.int (1 : Int32))] [])) (fun _ k => XS.ifNo X0.here hx rfl (hb hby own_dOf11_1) rfl ((if0 _ _).trans (feq ((by decide) : ¬ ((1 : Int32) = (0 : Int32)))).1) k) ?_
  refine own_go (T' := s₁) (g' := (mkF m 5 #[.val (.int (1 : Int32)), .val (.int (1 : Int32))] [(.int (1 : Int32))])) (fun _ k => XS.iloadN X0.here hx rfl (hb hby own_dOf11_4) rfl k) ?_
  refine own_go (T' := s₁) (g' := (mkF m 8 #[.val (.int (1 : Int32)), .val (.int (1 : Int32))] [])) (fun _ k => XS.ifNo X0.here hx rfl (hb hby own_dOf11_5) rfl ((if0 _ _).trans (feq ((by decide) : ¬ ((1 : Int32) = (0 : Int32)))).1) k) ?_
  obtain ⟨T1, X1, e1, st1⟩ := getS X0 hx hZ (host := "") hown (hw _ (List.mem_of_getElem? (i := 55) rfl)) Via.refl e0 S_WHOLE (g := (mkF m 8 #[.val (.int (1 : Int32)), .val (.int (1 : Int32))] [])) rfl (hb hby own_dOf11_8)
  refine own_go (T' := T1) (g' := (mkF m 11 #[.val (.int (1 : Int32)), .val (.int (1 : Int32))] [(.ref a_WHOLE)])) (fun _ k => st1 _ k) ?_
  refine own_go (T' := T1) (g' := (mkF m 17 #[.val (.int (1 : Int32)), .val (.int (1 : Int32))] [(.ref a_WHOLE)])) (fun _ k => XS.goto X1.here hx rfl (pc0 := 11) (pc' := 17) rfl (hb hby own_dOf11_11) (by decide) (by decide) k) ?_
  obtain ⟨fs, hr, hrun, hended, hW, hsame⟩ := X1.leave (v := some (.ref a_WHOLE)) (fun h => by rw [Bd.returns] at h; cases h)
  refine own_end (retOut X1 hx Bd.returns rfl (Or.inr (Or.inr (Or.inr (Or.inr ⟨rfl, rfl, rfl⟩)))) (hb hby own_dOf11_17) hr) hrun hended ⟨_, _, rfl, (?_ : own_QOf11 Z a_WHOLE h0 n0 _ T1.heap _), ⟨_, rfl⟩, hW, hsame.mono (by decide) (by decide)⟩
  rw [e1]
  exact ⟨rfl, N0, rfl⟩
theorem own_dOf10_0 : decode prog_77_method_8_code 0 = .ok (.iload_n 0, 1) := by decide +kernel
theorem own_dOf10_1 : decode prog_77_method_8_code 1 = .ok (.ifCond .eq 17, 3) := by decide +kernel
theorem own_dOf10_4 : decode prog_77_method_8_code 4 = .ok (.iload_n 1, 1) := by decide +kernel
theorem own_dOf10_5 : decode prog_77_method_8_code 5 = .ok (.ifCond .eq 9, 3) := by decide +kernel
theorem own_dOf10_14 : decode prog_77_method_8_code 14 = .ok (.getstatic 7, 3) := by decide +kernel
theorem own_dOf10_17 : decode prog_77_method_8_code 17 = .ok (.areturn, 1) := by decide +kernel
theorem own_efOf10 (m : MethodId)  : entryFrame m #[(.int (1 : Int32)), (.int (0 : Int32))] 2 = mkF m 0 #[.val (.int (1 : Int32)), .val (.int (0 : Int32))] [] := by first | (simp [entryFrame, mkF, argsToLocals, Value.category]; done) | rfl
def own_QOf10 (Z : State)  (a_BEGIN : Addr) (h0 : Heap) (n0 : Nat) (v : Option Value) (h : Heap) (L : List Loc) : Prop := v = some (.ref a_BEGIN) ∧ Fr n0 L ∧ h = h0
set_option maxRecDepth 65536 in
set_option maxHeartbeats 40000000 in
theorem own_rOf10 (l : Launch) (Z : State) (a0 : Array Value) (hw : ∀ d ∈ tables_1, d.before a0 Z = true) (ws : List Jvm.Cond)  (a_BEGIN : Addr) (h0 : Heap) (n0 : Nat) (Z0 : n0 ≤ h0.size) (S_BEGIN : Sta Z h0 "com/example/tokenweave/tokenweave/service/PieceLayout$Position" "BEGIN" "Lcom/example/tokenweave/tokenweave/service/PieceLayout$Position;" (.ref a_BEGIN)) :
    MetFree l (⟨"com/example/tokenweave/tokenweave/service/PieceLayout$Position", "of", "(ZZ)Lcom/example/tokenweave/tokenweave/service/PieceLayout$Position;"⟩ : MethodName) (head1 (Jvm.Cond.code (⟨"com/example/tokenweave/tokenweave/service/PieceLayout$Position", "of", "(ZZ)Lcom/example/tokenweave/tokenweave/service/PieceLayout$Position;"⟩ : MethodName) prog_77_method_8_code 2 (some (.object "com/example/tokenweave/tokenweave/service/PieceLayout$Position")) :: ws) ({ frames := 0, cells := 0, slots := 0, locals := 0 } : Room)) (fun a U => a = #[(.int (1 : Int32)), (.int (0 : Int32))] ∧ Z.Warmed39 U.vm ∧ U.heap = h0) (fun _ _ _ _ _ => True) (fun _ U o U' => ∃ v L, o = .returned v ∧ own_QOf10 Z a_BEGIN h0 n0 v U'.heap L ∧ FrameEnd U o U' L ({ frames := 0, cells := 0, slots := 0, locals := 0 } : Room).cells ({ frames := 0, cells := 0, slots := 0, locals := 0 } : Room).slots) := by
  refine MetFree.of_bodySF (plainFor_of_name own_pn3) hisR ?_
  intro p e s m args below meth c s₁ Bd hml0 hP hK
  obtain ⟨rfl, hZ, hh⟩ := hP
  have hx := Bd.exec
  have hby := Bd.bytes
  have hml : c.maxLocals = 2 := hml0
  have hown : s.vm.findClass "com/example/tokenweave/tokenweave/service/PieceLayout$Position" = some m.cls := findClass_of_methodNamed Bd.named
  have hnm := (name_of_methodNamed Bd.named Bd.method).1
  have X0 : Stand p l e ({ frames := 0, cells := 0, slots := 0, locals := 0 } : Room) s m #[(.int (1 : Int32)), (.int (0 : Int32))] below meth c s₁ [] 0 0 := Stand.of_body Bd
  have e0 : s₁.heap = h0 := by rw [← hh, Bd.state]; rfl
  have N0 := Fr.nil n0
  show own_F p e below (fun o U' => ∃ v L, o = .returned v ∧ own_QOf10 Z a_BEGIN h0 n0 v U'.heap L ∧ FrameEnd s o U' L ({ frames := 0, cells := 0, slots := 0, locals := 0 } : Room).cells ({ frames := 0, cells := 0, slots := 0, locals := 0 } : Room).slots) s₁ (entryFrame m #[(.int (1 : Int32)), (.int (0 : Int32))] 2)
  rw [own_efOf10 m ]
  refine own_go (T' := s₁) (g' := (mkF m 1 #[.val (.int (1 : Int32)), .val (.int (0 : Int32))] [(.int (1 : Int32))])) (fun _ k => XS.iloadN X0.here hx rfl (hb hby own_dOf10_0) rfl k) ?_
  refine own_go (T' := s₁) (g' := (mkF m 4 #[.val (.int (1 : Int32)), .val (.int (0 : Int32))] [])) (fun _ k => XS.ifNo X0.here hx rfl (hb hby own_dOf10_1) rfl ((if0 _ _).trans (feq ((by decide) : ¬ ((1 : Int32) = (0 : Int32)))).1) k) ?_
  refine own_go (T' := s₁) (g' := (mkF m 5 #[.val (.int (1 : Int32)), .val (.int (0 : Int32))] [(.int (0 : Int32))])) (fun _ k => XS.iloadN X0.here hx rfl (hb hby own_dOf10_4) rfl k) ?_
  refine own_go (T' := s₁) (g' := (mkF m 14 #[.val (.int (1 : Int32)), .val (.int (0 : Int32))] [])) (fun _ k => XS.ifYes X0.here hx rfl (pc0 := 5) (pc' := 14) rfl (hb hby own_dOf10_5) rfl ((if0 _ _).trans (teq ((by decide) : (0 : Int32) = (0 : Int32))).1) (by decide) (by decide) k) ?_
  obtain ⟨T1, X1, e1, st1⟩ := getS X0 hx hZ (host := "") hown (hw _ (List.mem_of_getElem? (i := 63) rfl)) Via.refl e0 S_BEGIN (g := (mkF m 14 #[.val (.int (1 : Int32)), .val (.int (0 : Int32))] [])) rfl (hb hby own_dOf10_14)
  refine own_go (T' := T1) (g' := (mkF m 17 #[.val (.int (1 : Int32)), .val (.int (0 : Int32))] [(.ref a_BEGIN)])) (fun _ k => st1 _ k) ?_
  obtain ⟨fs, hr, hrun, hended, hW, hsame⟩ := X1.leave (v := some (.ref a_BEGIN)) (fun h => by rw [Bd.returns] at h; cases h)
  refine own_end (retOut X1 hx Bd.returns rfl (Or.inr (Or.inr (Or.inr (Or.inr ⟨rfl, rfl, rfl⟩)))) (hb hby own_dOf10_17) hr) hrun hended ⟨_, _, rfl, (?_ : own_QOf10 Z a_BEGIN h0 n0 _ T1.heap _), ⟨_, rfl⟩, hW, hsame.mono (by decide) (by decide)⟩
  rw [e1]
  exact ⟨rfl, N0, rfl⟩
theorem own_dOf01_0 : decode prog_77_method_8_code 0 = .ok (.iload_n 0, 1) := by decide +kernel
theorem own_dOf01_1 : decode prog_77_method_8_code 1 = .ok (.ifCond .eq 17, 3) := by decide +kernel
theorem own_dOf01_18 : decode prog_77_method_8_code 18 = .ok (.iload_n 1, 1) := by decide +kernel
theorem own_dOf01_19 : decode prog_77_method_8_code 19 = .ok (.ifCond .eq 9, 3) := by decide +kernel
theorem own_dOf01_22 : decode prog_77_method_8_code 22 = .ok (.getstatic 13, 3) := by decide +kernel
theorem own_dOf01_25 : decode prog_77_method_8_code 25 = .ok (.goto 6, 3) := by decide +kernel
theorem own_dOf01_31 : decode prog_77_method_8_code 31 = .ok (.areturn, 1) := by decide +kernel
theorem own_efOf01 (m : MethodId)  : entryFrame m #[(.int (0 : Int32)), (.int (1 : Int32))] 2 = mkF m 0 #[.val (.int (0 : Int32)), .val (.int (1 : Int32))] [] := by first | (simp [entryFrame, mkF, argsToLocals, Value.category]; done) | rfl
def own_QOf01 (Z : State)  (a_END : Addr) (h0 : Heap) (n0 : Nat) (v : Option Value) (h : Heap) (L : List Loc) : Prop := v = some (.ref a_END) ∧ Fr n0 L ∧ h = h0
set_option maxRecDepth 65536 in
set_option maxHeartbeats 40000000 in
theorem own_rOf01 (l : Launch) (Z : State) (a0 : Array Value) (hw : ∀ d ∈ tables_1, d.before a0 Z = true) (ws : List Jvm.Cond)  (a_END : Addr) (h0 : Heap) (n0 : Nat) (Z0 : n0 ≤ h0.size) (S_END : Sta Z h0 "com/example/tokenweave/tokenweave/service/PieceLayout$Position" "END" "Lcom/example/tokenweave/tokenweave/service/PieceLayout$Position;" (.ref a_END)) :
    MetFree l (⟨"com/example/tokenweave/tokenweave/service/PieceLayout$Position", "of", "(ZZ)Lcom/example/tokenweave/tokenweave/service/PieceLayout$Position;"⟩ : MethodName) (head1 (Jvm.Cond.code (⟨"com/example/tokenweave/tokenweave/service/PieceLayout$Position", "of", "(ZZ)Lcom/example/tokenweave/tokenweave/service/PieceLayout$Position;"⟩ : MethodName) prog_77_method_8_code 2 (some (.object "com/example/tokenweave/tokenweave/service/PieceLayout$Position")) :: ws) ({ frames := 0, cells := 0, slots := 0, locals := 0 } : Room)) (fun a U => a = #[(.int (0 : Int32)), (.int (1 : Int32))] ∧ Z.Warmed39 U.vm ∧ U.heap = h0) (fun _ _ _ _ _ => True) (fun _ U o U' => ∃ v L, o = .returned v ∧ own_QOf01 Z a_END h0 n0 v U'.heap L ∧ FrameEnd U o U' L ({ frames := 0, cells := 0, slots := 0, locals := 0 } : Room).cells ({ frames := 0, cells := 0, slots := 0, locals := 0 } : Room).slots) := by
  refine MetFree.of_bodySF (plainFor_of_name own_pn3) hisR ?_
  intro p e s m args below meth c s₁ Bd hml0 hP hK
  obtain ⟨rfl, hZ, hh⟩ := hP
  have hx := Bd.exec
  have hby := Bd.bytes
  have hml : c.maxLocals = 2 := hml0
  have hown : s.vm.findClass "com/example/tokenweave/tokenweave/service/PieceLayout$Position" = some m.cls := findClass_of_methodNamed Bd.named
  have hnm := (name_of_methodNamed Bd.named Bd.method).1
  have X0 : Stand p l e ({ frames := 0, cells := 0, slots := 0, locals := 0 } : Room) s m #[(.int (0 : Int32)), (.int (1 : Int32))] below meth c s₁ [] 0 0 := Stand.of_body Bd
  have e0 : s₁.heap = h0 := by rw [← hh, Bd.state]; rfl
  have N0 := Fr.nil n0
  show own_F p e below (fun o U' => ∃ v L, o = .returned v ∧ own_QOf01 Z a_END h0 n0 v U'.heap L ∧ FrameEnd s o U' L ({ frames := 0, cells := 0, slots := 0, locals := 0 } : Room).cells ({ frames := 0, cells := 0, slots := 0, locals := 0 } : Room).slots) s₁ (entryFrame m #[(.int (0 : Int32)), (.int (1 : Int32))] 2)
  rw [own_efOf01 m ]
  refine own_go (T' := s₁) (g' := (mkF m 1 #[.val (.int (0 : Int32)), .val (.int (1 : Int32))] [(.int (0 : Int32))])) (fun _ k => XS.iloadN X0.here hx rfl (hb hby own_dOf01_0) rfl k) ?_
  refine own_go (T' := s₁) (g' := (mkF m 18 #[.val (.int (0 : Int32)), .val (.int (1 : Int32))] [])) (fun _ k => XS.ifYes X0.here hx rfl (pc0 := 1) (pc' := 18) rfl (hb hby own_dOf01_1) rfl ((if0 _ _).trans (teq ((by decide) : (0 : Int32) = (0 : Int32))).1) (by decide) (by decide) k) ?_
  refine own_go (T' := s₁) (g' := (mkF m 19 #[.val (.int (0 : Int32)), .val (.int (1 : Int32))] [(.int (1 : Int32))])) (fun _ k => XS.iloadN X0.here hx rfl (hb hby own_dOf01_18) rfl k) ?_
  refine own_go (T' := s₁) (g' := (mkF m 22 #[.val (.int (0 : Int32)), .val (.int (1 : Int32))] [])) (fun _ k => XS.ifNo X0.here hx rfl (hb hby own_dOf01_19) rfl ((if0 _ _).trans (feq ((by decide) : ¬ ((1 : Int32) = (0 : Int32)))).1) k) ?_
  obtain ⟨T1, X1, e1, st1⟩ := getS X0 hx hZ (host := "") hown (hw _ (List.mem_of_getElem? (i := 4) rfl)) Via.refl e0 S_END (g := (mkF m 22 #[.val (.int (0 : Int32)), .val (.int (1 : Int32))] [])) rfl (hb hby own_dOf01_22)
  refine own_go (T' := T1) (g' := (mkF m 25 #[.val (.int (0 : Int32)), .val (.int (1 : Int32))] [(.ref a_END)])) (fun _ k => st1 _ k) ?_
  refine own_go (T' := T1) (g' := (mkF m 31 #[.val (.int (0 : Int32)), .val (.int (1 : Int32))] [(.ref a_END)])) (fun _ k => XS.goto X1.here hx rfl (pc0 := 25) (pc' := 31) rfl (hb hby own_dOf01_25) (by decide) (by decide) k) ?_
  obtain ⟨fs, hr, hrun, hended, hW, hsame⟩ := X1.leave (v := some (.ref a_END)) (fun h => by rw [Bd.returns] at h; cases h)
  refine own_end (retOut X1 hx Bd.returns rfl (Or.inr (Or.inr (Or.inr (Or.inr ⟨rfl, rfl, rfl⟩)))) (hb hby own_dOf01_31) hr) hrun hended ⟨_, _, rfl, (?_ : own_QOf01 Z a_END h0 n0 _ T1.heap _), ⟨_, rfl⟩, hW, hsame.mono (by decide) (by decide)⟩
  rw [e1]
  exact ⟨rfl, N0, rfl⟩
theorem own_dOf00_0 : decode prog_77_method_8_code 0 = .ok (.iload_n 0, 1) := by decide +kernel
theorem own_dOf00_1 : decode prog_77_method_8_code 1 = .ok (.ifCond .eq 17, 3) := by decide +kernel
theorem own_dOf00_18 : decode prog_77_method_8_code 18 = .ok (.iload_n 1, 1) := by decide +kernel
theorem own_dOf00_19 : decode prog_77_method_8_code 19 = .ok (.ifCond .eq 9, 3) := by decide +kernel
theorem own_dOf00_28 : decode prog_77_method_8_code 28 = .ok (.getstatic 10, 3) := by decide +kernel
theorem own_dOf00_31 : decode prog_77_method_8_code 31 = .ok (.areturn, 1) := by decide +kernel
theorem own_efOf00 (m : MethodId)  : entryFrame m #[(.int (0 : Int32)), (.int (0 : Int32))] 2 = mkF m 0 #[.val (.int (0 : Int32)), .val (.int (0 : Int32))] [] := by first | (simp [entryFrame, mkF, argsToLocals, Value.category]; done) | rfl
def own_QOf00 (Z : State)  (a_INSIDE : Addr) (h0 : Heap) (n0 : Nat) (v : Option Value) (h : Heap) (L : List Loc) : Prop := v = some (.ref a_INSIDE) ∧ Fr n0 L ∧ h = h0
set_option maxRecDepth 65536 in
set_option maxHeartbeats 40000000 in
theorem own_rOf00 (l : Launch) (Z : State) (a0 : Array Value) (hw : ∀ d ∈ tables_1, d.before a0 Z = true) (ws : List Jvm.Cond)  (a_INSIDE : Addr) (h0 : Heap) (n0 : Nat) (Z0 : n0 ≤ h0.size) (S_INSIDE : Sta Z h0 "com/example/tokenweave/tokenweave/service/PieceLayout$Position" "INSIDE" "Lcom/example/tokenweave/tokenweave/service/PieceLayout$Position;" (.ref a_INSIDE)) :
    MetFree l (⟨"com/example/tokenweave/tokenweave/service/PieceLayout$Position", "of", "(ZZ)Lcom/example/tokenweave/tokenweave/service/PieceLayout$Position;"⟩ : MethodName) (head1 (Jvm.Cond.code (⟨"com/example/tokenweave/tokenweave/service/PieceLayout$Position", "of", "(ZZ)Lcom/example/tokenweave/tokenweave/service/PieceLayout$Position;"⟩ : MethodName) prog_77_method_8_code 2 (some (.object "com/example/tokenweave/tokenweave/service/PieceLayout$Position")) :: ws) ({ frames := 0, cells := 0, slots := 0, locals := 0 } : Room)) (fun a U => a = #[(.int (0 : Int32)), (.int (0 : Int32))] ∧ Z.Warmed39 U.vm ∧ U.heap = h0) (fun _ _ _ _ _ => True) (fun _ U o U' => ∃ v L, o = .returned v ∧ own_QOf00 Z a_INSIDE h0 n0 v U'.heap L ∧ FrameEnd U o U' L ({ frames := 0, cells := 0, slots := 0, locals := 0 } : Room).cells ({ frames := 0, cells := 0, slots := 0, locals := 0 } : Room).slots) := by
  refine MetFree.of_bodySF (plainFor_of_name own_pn3) hisR ?_
  intro p e s m args below meth c s₁ Bd hml0 hP hK
  obtain ⟨rfl, hZ, hh⟩ := hP
  have hx := Bd.exec
  have hby := Bd.bytes
  have hml : c.maxLocals = 2 := hml0
  have hown : s.vm.findClass "com/example/tokenweave/tokenweave/service/PieceLayout$Position" = some m.cls := findClass_of_methodNamed Bd.named
  have hnm := (name_of_methodNamed Bd.named Bd.method).1
  have X0 : Stand p l e ({ frames := 0, cells := 0, slots := 0, locals := 0 } : Room) s m #[(.int (0 : Int32)), (.int (0 : Int32))] below meth c s₁ [] 0 0 := Stand.of_body Bd
  have e0 : s₁.heap = h0 := by rw [← hh, Bd.state]; rfl
  have N0 := Fr.nil n0
  show own_F p e below (fun o U' => ∃ v L, o = .returned v ∧ own_QOf00 Z a_INSIDE h0 n0 v U'.heap L ∧ FrameEnd s o U' L ({ frames := 0, cells := 0, slots := 0, locals := 0 } : Room).cells ({ frames := 0, cells := 0, slots := 0, locals := 0 } : Room).slots) s₁ (entryFrame m #[(.int (0 : Int32)), (.int (0 : Int32))] 2)
  rw [own_efOf00 m ]
  refine own_go (T' := s₁) (g' := (mkF m 1 #[.val (.int (0 : Int32)), .val (.int (0 : Int32))] [(.int (0 : Int32))])) (fun _ k => XS.iloadN X0.here hx rfl (hb hby own_dOf00_0) rfl k) ?_
  refine own_go (T' := s₁) (g' := (mkF m 18 #[.val (.int (0 : Int32)), .val (.int (0 : Int32))] [])) (fun _ k => XS.ifYes X0.here hx rfl (pc0 := 1) (pc' := 18) rfl (hb hby own_dOf00_1) rfl ((if0 _ _).trans (teq ((by decide) : (0 : Int32) = (0 : Int32))).1) (by decide) (by decide) k) ?_
  refine own_go (T' := s₁) (g' := (mkF m 19 #[.val (.int (0 : Int32)), .val (.int (0 : Int32))] [(.int (0 : Int32))])) (fun _ k => XS.iloadN X0.here hx rfl (hb hby own_dOf00_18) rfl k) ?_
  refine own_go (T' := s₁) (g' := (mkF m 28 #[.val (.int (0 : Int32)), .val (.int (0 : Int32))] [])) (fun _ k => XS.ifYes X0.here hx rfl (pc0 := 19) (pc' := 28) rfl (hb hby own_dOf00_19) rfl ((if0 _ _).trans (teq ((by decide) : (0 : Int32) = (0 : Int32))).1) (by decide) (by decide) k) ?_
  obtain ⟨T1, X1, e1, st1⟩ := getS X0 hx hZ (host := "") hown (hw _ (List.mem_of_getElem? (i := 52) rfl)) Via.refl e0 S_INSIDE (g := (mkF m 28 #[.val (.int (0 : Int32)), .val (.int (0 : Int32))] [])) rfl (hb hby own_dOf00_28)
  refine own_go (T' := T1) (g' := (mkF m 31 #[.val (.int (0 : Int32)), .val (.int (0 : Int32))] [(.ref a_INSIDE)])) (fun _ k => st1 _ k) ?_
  obtain ⟨fs, hr, hrun, hended, hW, hsame⟩ := X1.leave (v := some (.ref a_INSIDE)) (fun h => by rw [Bd.returns] at h; cases h)
  refine own_end (retOut X1 hx Bd.returns rfl (Or.inr (Or.inr (Or.inr (Or.inr ⟨rfl, rfl, rfl⟩)))) (hb hby own_dOf00_31) hr) hrun hended ⟨_, _, rfl, (?_ : own_QOf00 Z a_INSIDE h0 n0 _ T1.heap _), ⟨_, rfl⟩, hW, hsame.mono (by decide) (by decide)⟩
  rw [e1]
  exact ⟨rfl, N0, rfl⟩
theorem own_dPf_0 : decode prog_77_method_4_code 0 = .ok (.aload_n 0, 1) := by decide +kernel
theorem own_dPf_1 : decode prog_77_method_4_code 1 = .ok (.getfield 39, 3) := by decide +kernel
theorem own_dPf_4 : decode prog_77_method_4_code 4 = .ok (.areturn, 1) := by decide +kernel
theorem own_efPf (m : MethodId) (xo : Addr) : entryFrame m #[(.ref xo)] 1 = mkF m 0 #[.val (.ref xo)] [] := by first | (simp [entryFrame, mkF, argsToLocals, Value.category]; done) | rfl
def own_QPf (Z : State) (xo : Addr) (xw : Addr) (h0 : Heap) (n0 : Nat) (v : Option Value) (h : Heap) (L : List Loc) : Prop := v = some (.ref xw) ∧ Fr n0 L ∧ h = h0
set_option maxRecDepth 65536 in
set_option maxHeartbeats 40000000 in
theorem own_rPf (l : Launch) (Z : State) (a0 : Array Value) (hw : ∀ d ∈ tables_1, d.before a0 Z = true) (ws : List Jvm.Cond) (xo : Addr) (xw : Addr) (h0 : Heap) (n0 : Nat) (Z0 : n0 ≤ h0.size) (Fp : Fld Z h0 xo "com/example/tokenweave/tokenweave/service/PieceLayout$Position" "prefix" "Ljava/lang/String;" (.ref xw)) :
    MetFree l (⟨"com/example/tokenweave/tokenweave/service/PieceLayout$Position", "prefix", "()Ljava/lang/String;"⟩ : MethodName) (head1 (Jvm.Cond.code (⟨"com/example/tokenweave/tokenweave/service/PieceLayout$Position", "prefix", "()Ljava/lang/String;"⟩ : MethodName) prog_77_method_4_code 1 (some (.object "java/lang/String")) :: ws) ({ frames := 0, cells := 0, slots := 0, locals := 0 } : Room)) (fun a U => a = #[(.ref xo)] ∧ Z.Warmed39 U.vm ∧ U.heap = h0) (fun _ _ _ _ _ => True) (fun _ U o U' => ∃ v L, o = .returned v ∧ own_QPf Z xo xw h0 n0 v U'.heap L ∧ FrameEnd U o U' L ({ frames := 0, cells := 0, slots := 0, locals := 0 } : Room).cells ({ frames := 0, cells := 0, slots := 0, locals := 0 } : Room).slots) := by
  refine MetFree.of_bodySF (plainFor_of_name own_pn3) hisR ?_
  intro p e s m args below meth c s₁ Bd hml0 hP hK
  obtain ⟨rfl, hZ, hh⟩ := hP
  have hx := Bd.exec
  have hby := Bd.bytes
  have hml : c.maxLocals = 1 := hml0
  have hown : s.vm.findClass "com/example/tokenweave/tokenweave/service/PieceLayout$Position" = some m.cls := findClass_of_methodNamed Bd.named
  have hnm := (name_of_methodNamed Bd.named Bd.method).1
  have X0 : Stand p l e ({ frames := 0, cells := 0, slots := 0, locals := 0 } : Room) s m #[(.ref xo)] below meth c s₁ [] 0 0 := Stand.of_body Bd
  have e0 : s₁.heap = h0 := by rw [← hh, Bd.state]; rfl
  have N0 := Fr.nil n0
  show own_F p e below (fun o U' => ∃ v L, o = .returned v ∧ own_QPf Z xo xw h0 n0 v U'.heap L ∧ FrameEnd s o U' L ({ frames := 0, cells := 0, slots := 0, locals := 0 } : Room).cells ({ frames := 0, cells := 0, slots := 0, locals := 0 } : Room).slots) s₁ (entryFrame m #[(.ref xo)] 1)
  rw [own_efPf m xo]
  refine own_go (T' := s₁) (g' := (mkF m 1 #[.val (.ref xo)] [(.ref xo)])) (fun _ k => XS.aloadN X0.here hx rfl (hb hby own_dPf_0) rfl rfl k) ?_
  obtain ⟨T1, X1, e1, st1⟩ := getF X0 hx hZ hown (host := "") (Or.inl (hw _ (List.mem_of_getElem? (i := 11) rfl))) Via.refl e0 Fp (g := (mkF m 1 #[.val (.ref xo)] [(.ref xo)])) rfl rfl (hb hby own_dPf_1)
  refine own_go (T' := T1) (g' := (mkF m 4 #[.val (.ref xo)] [(.ref xw)])) (fun _ k => st1 _ k) ?_
  obtain ⟨fs, hr, hrun, hended, hW, hsame⟩ := X1.leave (v := some (.ref xw)) (fun h => by rw [Bd.returns] at h; cases h)
  refine own_end (retOut X1 hx Bd.returns rfl (Or.inr (Or.inr (Or.inr (Or.inr ⟨rfl, rfl, rfl⟩)))) (hb hby own_dPf_4) hr) hrun hended ⟨_, _, rfl, (?_ : own_QPf Z xo xw h0 n0 _ T1.heap _), ⟨_, rfl⟩, hW, hsame.mono (by decide) (by decide)⟩
  rw [e1]
  exact ⟨rfl, N0, rfl⟩
theorem own_pd5 : parseMethodDescriptor "(ZZ)Lcom/example/tokenweave/tokenweave/service/PieceLayout$Position;" = some ⟨[.boolean, .boolean], some (.object "com/example/tokenweave/tokenweave/service/PieceLayout$Position")⟩ := by decide +kernel
theorem own_pd6 : parseMethodDescriptor "()Ljava/lang/String;" = some ⟨[], some (.object "java/lang/String")⟩ := by decide +kernel
theorem own_pd7 : parseMethodDescriptor "()I" = some ⟨[], some .int⟩ := by decide +kernel
theorem own_pd8 : parseMethodDescriptor "(I)C" = some ⟨[.int], some .char⟩ := by decide +kernel
theorem own_efL (m : MethodId) (xa : Int32) (xb : Int32) : entryFrame m #[(.int xa), (.int xb)] maxLocals = mkF m 0 #[.val (.int xa), .val (.int xb), .unset, .unset, .unset, .unset, .unset] [] := by first | (simp [entryFrame, mkF, argsToLocals, Value.category, maxLocals]; done) | rfl
def own_QL (Z : State) (xa : Int32) (xb : Int32) (a_END : Addr) (a_END_prefix : Addr) (a_END_prefix_value : Addr) (a_INSIDE : Addr) (a_INSIDE_prefix : Addr) (a_INSIDE_prefix_value : Addr) (a_WHOLE : Addr) (a_WHOLE_prefix : Addr) (a_WHOLE_prefix_value : Addr) (a_BEGIN : Addr) (a_BEGIN_prefix : Addr) (a_BEGIN_prefix_value : Addr) (k_END_prefix_value : ClassId) (k_INSIDE_prefix_value : ClassId) (k_WHOLE_prefix_value : ClassId) (k_BEGIN_prefix_value : ClassId) (xc : Int32) (xv : Value) (h0 : Heap) (n0 : Nat) (v : Option Value) (h : Heap) (L : List Loc) : Prop := v = some (.int (1 : Int32)) ∧ Fr n0 L
theorem own_pn4 : plainName "com/example/tokenweave/tokenweave/service/PositionOfPinLaw" = true := by first | (simp [plainName, overriddenIn]; done) | decide +kernel
set_option maxRecDepth 65536 in
set_option maxHeartbeats 40000000 in
theorem own_rL (l : Launch) (Z : State) (a0 : Array Value) (hw : ∀ d ∈ tables_1, d.before a0 Z = true) (ws : List Jvm.Cond) (xa : Int32) (xb : Int32) (a_END : Addr) (a_END_prefix : Addr) (a_END_prefix_value : Addr) (a_INSIDE : Addr) (a_INSIDE_prefix : Addr) (a_INSIDE_prefix_value : Addr) (a_WHOLE : Addr) (a_WHOLE_prefix : Addr) (a_WHOLE_prefix_value : Addr) (a_BEGIN : Addr) (a_BEGIN_prefix : Addr) (a_BEGIN_prefix_value : Addr) (k_END_prefix_value : ClassId) (k_INSIDE_prefix_value : ClassId) (k_WHOLE_prefix_value : ClassId) (k_BEGIN_prefix_value : ClassId) (xc : Int32) (xv : Value) (h0 : Heap) (n0 : Nat) (Z0 : n0 ≤ h0.size) (SC : Sta Z h0 "java/lang/String" "COMPACT_STRINGS" "Z" (.int xc)) (hcz : ¬ xc = 0) (SF : Sta Z h0 "jdk/internal/util/Preconditions" "SIOOBE_FORMATTER" "Ljava/util/function/BiFunction;" xv) (hvr : xv.isRef = true) (S_END : Sta Z h0 "com/example/tokenweave/tokenweave/service/PieceLayout$Position" "END" "Lcom/example/tokenweave/tokenweave/service/PieceLayout$Position;" (.ref a_END)) (E_END : Exa Z h0 a_END "com/example/tokenweave/tokenweave/service/PieceLayout$Position") (F_END_prefix : Fld Z h0 a_END "com/example/tokenweave/tokenweave/service/PieceLayout$Position" "prefix" "Ljava/lang/String;" (.ref a_END_prefix)) (E_END_prefix : Exa Z h0 a_END_prefix "java/lang/String") (F_END_prefix_value : Fld Z h0 a_END_prefix "java/lang/String" "value" "[B" (.ref a_END_prefix_value)) (F_END_prefix_coder : Fld Z h0 a_END_prefix "java/lang/String" "coder" "B" (.int (0 : Int32))) (S_INSIDE : Sta Z h0 "com/example/tokenweave/tokenweave/service/PieceLayout$Position" "INSIDE" "Lcom/example/tokenweave/tokenweave/service/PieceLayout$Position;" (.ref a_INSIDE)) (E_INSIDE : Exa Z h0 a_INSIDE "com/example/tokenweave/tokenweave/service/PieceLayout$Position") (F_INSIDE_prefix : Fld Z h0 a_INSIDE "com/example/tokenweave/tokenweave/service/PieceLayout$Position" "prefix" "Ljava/lang/String;" (.ref a_INSIDE_prefix)) (E_INSIDE_prefix : Exa Z h0 a_INSIDE_prefix "java/lang/String") (F_INSIDE_prefix_value : Fld Z h0 a_INSIDE_prefix "java/lang/String" "value" "[B" (.ref a_INSIDE_prefix_value)) (F_INSIDE_prefix_coder : Fld Z h0 a_INSIDE_prefix "java/lang/String" "coder" "B" (.int (0 : Int32))) (S_WHOLE : Sta Z h0 "com/example/tokenweave/tokenweave/service/PieceLayout$Position" "WHOLE" "Lcom/example/tokenweave/tokenweave/service/PieceLayout$Position;" (.ref a_WHOLE)) (E_WHOLE : Exa Z h0 a_WHOLE "com/example/tokenweave/tokenweave/service/PieceLayout$Position") (F_WHOLE_prefix : Fld Z h0 a_WHOLE "com/example/tokenweave/tokenweave/service/PieceLayout$Position" "prefix" "Ljava/lang/String;" (.ref a_WHOLE_prefix)) (E_WHOLE_prefix : Exa Z h0 a_WHOLE_prefix "java/lang/String") (F_WHOLE_prefix_value : Fld Z h0 a_WHOLE_prefix "java/lang/String" "value" "[B" (.ref a_WHOLE_prefix_value)) (S_BEGIN : Sta Z h0 "com/example/tokenweave/tokenweave/service/PieceLayout$Position" "BEGIN" "Lcom/example/tokenweave/tokenweave/service/PieceLayout$Position;" (.ref a_BEGIN)) (E_BEGIN : Exa Z h0 a_BEGIN "com/example/tokenweave/tokenweave/service/PieceLayout$Position") (F_BEGIN_prefix : Fld Z h0 a_BEGIN "com/example/tokenweave/tokenweave/service/PieceLayout$Position" "prefix" "Ljava/lang/String;" (.ref a_BEGIN_prefix)) (E_BEGIN_prefix : Exa Z h0 a_BEGIN_prefix "java/lang/String") (F_BEGIN_prefix_value : Fld Z h0 a_BEGIN_prefix "java/lang/String" "value" "[B" (.ref a_BEGIN_prefix_value)) (F_BEGIN_prefix_coder : Fld Z h0 a_BEGIN_prefix "java/lang/String" "coder" "B" (.int (0 : Int32))) (F_WHOLE_prefix_coder : Fld Z h0 a_WHOLE_prefix "java/lang/String" "coder" "B" (.int (0 : Int32))) (A_END_prefix_value : own_A Z h0 a_END_prefix_value k_END_prefix_value .byte [(.int (69 : Int32)), (.int (45 : Int32))]) (A_INSIDE_prefix_value : own_A Z h0 a_INSIDE_prefix_value k_INSIDE_prefix_value .byte [(.int (73 : Int32)), (.int (45 : Int32))]) (A_WHOLE_prefix_value : own_A Z h0 a_WHOLE_prefix_value k_WHOLE_prefix_value .byte []) (A_BEGIN_prefix_value : own_A Z h0 a_BEGIN_prefix_value k_BEGIN_prefix_value .byte [(.int (66 : Int32)), (.int (45 : Int32))]) :
    MetFree l x (head1 (Jvm.Cond.code x code maxLocals ret :: ws) room_1) (fun a U => a = #[(.int xa), (.int xb)] ∧ Z.Warmed39 U.vm ∧ U.heap = h0) (fun _ _ _ _ _ => True) (fun _ U o U' => ∃ v L, o = .returned v ∧ own_QL Z xa xb a_END a_END_prefix a_END_prefix_value a_INSIDE a_INSIDE_prefix a_INSIDE_prefix_value a_WHOLE a_WHOLE_prefix a_WHOLE_prefix_value a_BEGIN a_BEGIN_prefix a_BEGIN_prefix_value k_END_prefix_value k_INSIDE_prefix_value k_WHOLE_prefix_value k_BEGIN_prefix_value xc xv h0 n0 v U'.heap L ∧ FrameEnd U o U' L room_1.cells room_1.slots) := by
  refine MetFree.of_bodySF (plainFor_of_name own_pn4) hisR ?_
  intro p e s m args below meth c s₁ Bd hml0 hP hK
  obtain ⟨rfl, hZ, hh⟩ := hP
  have hx := Bd.exec
  have hby := Bd.bytes
  have hml : c.maxLocals = 7 := hml0
  have hown : s.vm.findClass "com/example/tokenweave/tokenweave/service/PositionOfPinLaw" = some m.cls := findClass_of_methodNamed Bd.named
  have hnm := (name_of_methodNamed Bd.named Bd.method).1
  have X0 : Stand p l e room_1 s m #[(.int xa), (.int xb)] below meth c s₁ [] 0 0 := Stand.of_body Bd
  have e0 : s₁.heap = h0 := by rw [← hh, Bd.state]; rfl
  have N0 := Fr.nil n0
  show own_F p e below (fun o U' => ∃ v L, o = .returned v ∧ own_QL Z xa xb a_END a_END_prefix a_END_prefix_value a_INSIDE a_INSIDE_prefix a_INSIDE_prefix_value a_WHOLE a_WHOLE_prefix a_WHOLE_prefix_value a_BEGIN a_BEGIN_prefix a_BEGIN_prefix_value k_END_prefix_value k_INSIDE_prefix_value k_WHOLE_prefix_value k_BEGIN_prefix_value xc xv h0 n0 v U'.heap L ∧ FrameEnd s o U' L room_1.cells room_1.slots) s₁ (entryFrame m #[(.int xa), (.int xb)] maxLocals)
  rw [own_efL m xa xb]
  refine own_go (T' := s₁) (g' := (mkF m 1 #[.val (.int xa), .val (.int xb), .unset, .unset, .unset, .unset, .unset] [(.int xa)])) (fun _ k => XS.iloadN X0.here hx rfl (hb hby at_0) rfl k) ?_
  refine own_go (T' := s₁) (g' := (mkF m 2 #[.val (.int xa), .val (.int xb), .unset, .unset, .unset, .unset, .unset] [(.int (1 : Int32)), (.int xa)])) (fun _ k => XS.iconst X0.here hx rfl (hb hby at_1) k) ?_
  refine own_go (T' := s₁) (g' := (mkF m 3 #[.val (.int xa), .val (.int xb), .unset, .unset, .unset, .unset, .unset] [(.int (xa &&& (1 : Int32)))])) (fun _ k => XS.iand X0.here hx rfl (hb hby at_2) rfl k) ?_
  by_cases hc3 : (xa &&& (1 : Int32)) = (0 : Int32)
  · refine own_go (T' := s₁) (g' := (mkF m 10 #[.val (.int xa), .val (.int xb), .unset, .unset, .unset, .unset, .unset] [])) (fun _ k => XS.ifYes X0.here hx rfl (pc0 := 3) (pc' := 10) rfl (hb hby at_3) rfl ((if0 _ _).trans (teq (hc3 : (xa &&& (1 : Int32)) = (0 : Int32))).1) (by decide) (by decide) k) ?_
    refine own_go (T' := s₁) (g' := (mkF m 11 #[.val (.int xa), .val (.int xb), .unset, .unset, .unset, .unset, .unset] [(.int (0 : Int32))])) (fun _ k => XS.iconst X0.here hx rfl (hb hby at_10) k) ?_
    refine own_go (T' := s₁) (g' := (mkF m 12 #[.val (.int xa), .val (.int xb), .val (.int (0 : Int32)), .unset, .unset, .unset, .unset] [])) (fun _ k => XS.istoreN X0.here hx rfl (hb hby at_11) rfl (l' := #[.val (.int xa), .val (.int xb), .val (.int (0 : Int32)), .unset, .unset, .unset, .unset]) rfl k) ?_
    refine own_go (T' := s₁) (g' := (mkF m 13 #[.val (.int xa), .val (.int xb), .val (.int (0 : Int32)), .unset, .unset, .unset, .unset] [(.int xb)])) (fun _ k => XS.iloadN X0.here hx rfl (hb hby at_12) rfl k) ?_
    refine own_go (T' := s₁) (g' := (mkF m 14 #[.val (.int xa), .val (.int xb), .val (.int (0 : Int32)), .unset, .unset, .unset, .unset] [(.int (1 : Int32)), (.int xb)])) (fun _ k => XS.iconst X0.here hx rfl (hb hby at_13) k) ?_
    refine own_go (T' := s₁) (g' := (mkF m 15 #[.val (.int xa), .val (.int xb), .val (.int (0 : Int32)), .unset, .unset, .unset, .unset] [(.int (xb &&& (1 : Int32)))])) (fun _ k => XS.iand X0.here hx rfl (hb hby at_14) rfl k) ?_
    by_cases hc15 : (xb &&& (1 : Int32)) = (0 : Int32)
    · refine own_go (T' := s₁) (g' := (mkF m 22 #[.val (.int xa), .val (.int xb), .val (.int (0 : Int32)), .unset, .unset, .unset, .unset] [])) (fun _ k => XS.ifYes X0.here hx rfl (pc0 := 15) (pc' := 22) rfl (hb hby at_15) rfl ((if0 _ _).trans (teq (hc15 : (xb &&& (1 : Int32)) = (0 : Int32))).1) (by decide) (by decide) k) ?_
      refine own_go (T' := s₁) (g' := (mkF m 23 #[.val (.int xa), .val (.int xb), .val (.int (0 : Int32)), .unset, .unset, .unset, .unset] [(.int (0 : Int32))])) (fun _ k => XS.iconst X0.here hx rfl (hb hby at_22) k) ?_
      refine own_go (T' := s₁) (g' := (mkF m 24 #[.val (.int xa), .val (.int xb), .val (.int (0 : Int32)), .val (.int (0 : Int32)), .unset, .unset, .unset] [])) (fun _ k => XS.istoreN X0.here hx rfl (hb hby at_23) rfl (l' := #[.val (.int xa), .val (.int xb), .val (.int (0 : Int32)), .val (.int (0 : Int32)), .unset, .unset, .unset]) rfl k) ?_
      refine own_go (T' := s₁) (g' := (mkF m 25 #[.val (.int xa), .val (.int xb), .val (.int (0 : Int32)), .val (.int (0 : Int32)), .unset, .unset, .unset] [(.int (0 : Int32))])) (fun _ k => XS.iloadN X0.here hx rfl (hb hby at_24) rfl k) ?_
      refine own_go (T' := s₁) (g' := (mkF m 26 #[.val (.int xa), .val (.int xb), .val (.int (0 : Int32)), .val (.int (0 : Int32)), .unset, .unset, .unset] [(.int (0 : Int32)), (.int (0 : Int32))])) (fun _ k => XS.iloadN X0.here hx rfl (hb hby at_25) rfl k) ?_
      obtain ⟨_, _, ⟨T1, L1, k1, n1⟩, -, X1, ⟨Lc1, hQ1, l1, y1, z1⟩, st1⟩ := Jvm.LawKit.callS X0 hx (y := (⟨"com/example/tokenweave/tokenweave/service/PieceLayout$Position", "of", "(ZZ)Lcom/example/tokenweave/tokenweave/service/PieceLayout$Position;"⟩ : MethodName)) hown (mvT hZ (hw _ (List.mem_of_getElem? (i := 0) rfl))) (mvT hZ (hw _ (List.mem_of_getElem? (i := 1) rfl))) (mvT hZ (hw _ (List.mem_of_getElem? (i := 2) rfl))) (mvT hZ (hw _ (List.mem_of_getElem? (i := 3) rfl))) (by decide) (backOf (W := 0) (own_rOf00 l Z a0 hw [] a_INSIDE h0 n0 Z0 S_INSIDE) hZ (hw _ (List.mem_of_getElem? (i := 3) rfl)) (hw _ (List.mem_of_getElem? (i := 2) rfl)) (by decide) (by decide)) (g := (mkF m 26 #[.val (.int xa), .val (.int xb), .val (.int (0 : Int32)), .val (.int (0 : Int32)), .unset, .unset, .unset] [(.int (0 : Int32)), (.int (0 : Int32))])) rfl (by rw [hml]; rfl) (argsL := [(.int (0 : Int32)), (.int (0 : Int32))]) (rest := []) (lenOf own_pd5 rfl) rfl (by show 2 * 0 + _ ≤ _; exact Nat.le_of_eq rfl) (hb hby at_26) (fun _ _ => ⟨rfl, e0, (by decide : 0 + 0 ≤ _), (by decide : 0 + 0 ≤ _)⟩)
      dsimp only [Pt.U, Pt.locs, Pt.cells, Pt.slots] at X1 l1 y1 z1 st1 hQ1
      subst l1 y1 z1
      obtain ⟨rfl, N1q, e1⟩ := hQ1
      have N1 := Fr.app N0 N1q
      refine own_go (T' := T1) (g' := (mkF m 29 #[.val (.int xa), .val (.int xb), .val (.int (0 : Int32)), .val (.int (0 : Int32)), .unset, .unset, .unset] [(.ref a_INSIDE)])) (fun _ k => st1 _ k) ?_
      refine own_go (T' := T1) (g' := (mkF m 31 #[.val (.int xa), .val (.int xb), .val (.int (0 : Int32)), .val (.int (0 : Int32)), .val (.ref a_INSIDE), .unset, .unset] [])) (fun _ k => XS.astore X1.here hx rfl (hb hby at_29) rfl rfl (l' := #[.val (.int xa), .val (.int xb), .val (.int (0 : Int32)), .val (.int (0 : Int32)), .val (.ref a_INSIDE), .unset, .unset]) rfl k) ?_
      refine own_go (T' := T1) (g' := (mkF m 33 #[.val (.int xa), .val (.int xb), .val (.int (0 : Int32)), .val (.int (0 : Int32)), .val (.ref a_INSIDE), .unset, .unset] [(.ref a_INSIDE)])) (fun _ k => XS.aload X1.here hx rfl (hb hby at_31) rfl rfl k) ?_
      refine own_go (T' := T1) (g' := (mkF m 38 #[.val (.int xa), .val (.int xb), .val (.int (0 : Int32)), .val (.int (0 : Int32)), .val (.ref a_INSIDE), .unset, .unset] [])) (fun _ k => XS.ifnonnullYes X1.here hx rfl (pc0 := 33) (pc' := 38) rfl (hb hby at_33) rfl (by decide) (by decide) k) ?_
      refine own_go (T' := T1) (g' := (mkF m 40 #[.val (.int xa), .val (.int xb), .val (.int (0 : Int32)), .val (.int (0 : Int32)), .val (.ref a_INSIDE), .unset, .unset] [(.ref a_INSIDE)])) (fun _ k => XS.aload X1.here hx rfl (hb hby at_38) rfl rfl k) ?_
      obtain ⟨cq2, kq2, q2a, q2b, q2c⟩ := isOf hZ e1 E_INSIDE
      obtain ⟨_, _, ⟨T2, L2, k2, n2⟩, -, X2, ⟨Lc2, hQ2, l2, y2, z2⟩, st2⟩ := X1.virtualBack hx (y := (⟨"com/example/tokenweave/tokenweave/service/PieceLayout$Position", "prefix", "()Ljava/lang/String;"⟩ : MethodName)) (z := (⟨"com/example/tokenweave/tokenweave/service/PieceLayout$Position", "prefix", "()Ljava/lang/String;"⟩ : MethodName)) hown (mvT hZ (hw _ (List.mem_of_getElem? (i := 6) rfl))) (mvT hZ (hw _ (List.mem_of_getElem? (i := 7) rfl))) (notFace_of_selects (args := #[]) (mvT hZ (hw _ (List.mem_of_getElem? (i := 9) rfl)))) (mvT hZ (hw _ (List.mem_of_getElem? (i := 9) rfl))) (mvT hZ (hw _ (List.mem_of_getElem? (i := 8) rfl))) (by decide) (backOf (W := 0) (own_rPf l Z a0 hw [] a_INSIDE a_INSIDE_prefix h0 n0 Z0 F_INSIDE_prefix) hZ (hw _ (List.mem_of_getElem? (i := 10) rfl)) (hw _ (List.mem_of_getElem? (i := 2) rfl)) (by decide) (by decide)) q2a q2c (g := (mkF m 40 #[.val (.int xa), .val (.int xb), .val (.int (0 : Int32)), .val (.int (0 : Int32)), .val (.ref a_INSIDE), .unset, .unset] [(.ref a_INSIDE)])) rfl (by rw [hml]; rfl) (Steps.refl _) (argsL := []) (rest := []) (lenOf own_pd6 rfl) rfl (by show 2 * 0 + _ ≤ _; exact Nat.le_of_eq rfl) (hb hby at_40) (fun _ _ => ⟨rfl, e1, (by decide : 0 + 0 ≤ _), (by decide : 0 + 0 ≤ _)⟩)
      dsimp only [Pt.U, Pt.locs, Pt.cells, Pt.slots] at X2 l2 y2 z2 st2 hQ2
      subst l2 y2 z2
      obtain ⟨rfl, N2q, e2⟩ := hQ2
      have N2 := Fr.app N1 N2q
      refine own_goT (T' := T2) (g' := (mkF m 43 #[.val (.int xa), .val (.int xb), .val (.int (0 : Int32)), .val (.int (0 : Int32)), .val (.ref a_INSIDE), .unset, .unset] [(.ref a_INSIDE_prefix)])) st2 ?_
      refine own_go (T' := T2) (g' := (mkF m 45 #[.val (.int xa), .val (.int xb), .val (.int (0 : Int32)), .val (.int (0 : Int32)), .val (.ref a_INSIDE), .val (.ref a_INSIDE_prefix), .unset] [])) (fun _ k => XS.astore X2.here hx rfl (hb hby at_43) rfl rfl (l' := #[.val (.int xa), .val (.int xb), .val (.int (0 : Int32)), .val (.int (0 : Int32)), .val (.ref a_INSIDE), .val (.ref a_INSIDE_prefix), .unset]) rfl k) ?_
      refine own_go (T' := T2) (g' := (mkF m 46 #[.val (.int xa), .val (.int xb), .val (.int (0 : Int32)), .val (.int (0 : Int32)), .val (.ref a_INSIDE), .val (.ref a_INSIDE_prefix), .unset] [(.int (0 : Int32))])) (fun _ k => XS.iloadN X2.here hx rfl (hb hby at_45) rfl k) ?_
      refine own_go (T' := T2) (g' := (mkF m 75 #[.val (.int xa), .val (.int xb), .val (.int (0 : Int32)), .val (.int (0 : Int32)), .val (.ref a_INSIDE), .val (.ref a_INSIDE_prefix), .unset] [])) (fun _ k => XS.ifYes X2.here hx rfl (pc0 := 46) (pc' := 75) rfl (hb hby at_46) rfl ((if0 _ _).trans (teq ((by decide) : (0 : Int32) = (0 : Int32))).1) (by decide) (by decide) k) ?_
      refine own_go (T' := T2) (g' := (mkF m 77 #[.val (.int xa), .val (.int xb), .val (.int (0 : Int32)), .val (.int (0 : Int32)), .val (.ref a_INSIDE), .val (.ref a_INSIDE_prefix), .unset] [(.ref a_INSIDE_prefix)])) (fun _ k => XS.aload X2.here hx rfl (hb hby at_75) rfl rfl k) ?_
      obtain ⟨cq3, kq3, q3a, q3b, q3c⟩ := isOf hZ e2 E_INSIDE_prefix
      obtain ⟨_, _, ⟨T3, L3, k3, n3⟩, -, X3, ⟨Lc3, hQ3, l3, y3, z3⟩, st3⟩ := X2.virtualBack hx (y := (⟨"java/lang/String", "length", "()I"⟩ : MethodName)) (z := (⟨"java/lang/String", "length", "()I"⟩ : MethodName)) hown (mvT hZ (hw _ (List.mem_of_getElem? (i := 13) rfl))) (mvT hZ (hw _ (List.mem_of_getElem? (i := 14) rfl))) (notFace_of_selects (args := #[]) (mvT hZ (hw _ (List.mem_of_getElem? (i := 16) rfl)))) (mvT hZ (hw _ (List.mem_of_getElem? (i := 16) rfl))) (mvT hZ (hw _ (List.mem_of_getElem? (i := 15) rfl))) (by decide) (backOf (W := 0) (own_rLen l Z a0 hw [] a_INSIDE_prefix xc a_INSIDE_prefix_value k_INSIDE_prefix_value (73 : Int32) (45 : Int32) h0 n0 Z0 SC hcz F_INSIDE_prefix_coder F_INSIDE_prefix_value E_INSIDE_prefix A_INSIDE_prefix_value) hZ (hw _ (List.mem_of_getElem? (i := 18) rfl)) (hw _ (List.mem_of_getElem? (i := 17) rfl)) (by decide) (by decide)) q3a q3c (g := (mkF m 77 #[.val (.int xa), .val (.int xb), .val (.int (0 : Int32)), .val (.int (0 : Int32)), .val (.ref a_INSIDE), .val (.ref a_INSIDE_prefix), .unset] [(.ref a_INSIDE_prefix)])) rfl (by rw [hml]; rfl) (Steps.refl _) (argsL := []) (rest := []) (lenOf own_pd7 rfl) rfl (by show 2 * 0 + _ ≤ _; exact Nat.le_of_eq rfl) (hb hby at_77) (fun _ _ => ⟨rfl, e2, (by decide : 0 + 0 ≤ _), (by decide : 0 + 0 ≤ _)⟩)
      dsimp only [Pt.U, Pt.locs, Pt.cells, Pt.slots] at X3 l3 y3 z3 st3 hQ3
      subst l3 y3 z3
      obtain ⟨rfl, N3q, e3⟩ := hQ3
      have N3 := Fr.app N2 N3q
      refine own_goT (T' := T3) (g' := (mkF m 80 #[.val (.int xa), .val (.int xb), .val (.int (0 : Int32)), .val (.int (0 : Int32)), .val (.ref a_INSIDE), .val (.ref a_INSIDE_prefix), .unset] [(.int (2 : Int32))])) st3 ?_
      refine own_go (T' := T3) (g' := (mkF m 81 #[.val (.int xa), .val (.int xb), .val (.int (0 : Int32)), .val (.int (0 : Int32)), .val (.ref a_INSIDE), .val (.ref a_INSIDE_prefix), .unset] [(.int (2 : Int32)), (.int (2 : Int32))])) (fun _ k => XS.iconst X3.here hx rfl (hb hby at_80) k) ?_
      refine own_go (T' := T3) (g' := (mkF m 84 #[.val (.int xa), .val (.int xb), .val (.int (0 : Int32)), .val (.int (0 : Int32)), .val (.ref a_INSIDE), .val (.ref a_INSIDE_prefix), .unset] [])) (fun _ k => XS.icmpNo X3.here hx rfl (hb hby at_81) rfl (teq ((by decide) : (2 : Int32) = (2 : Int32))).2 k) ?_
      refine own_go (T' := T3) (g' := (mkF m 86 #[.val (.int xa), .val (.int xb), .val (.int (0 : Int32)), .val (.int (0 : Int32)), .val (.ref a_INSIDE), .val (.ref a_INSIDE_prefix), .unset] [(.ref a_INSIDE_prefix)])) (fun _ k => XS.aload X3.here hx rfl (hb hby at_84) rfl rfl k) ?_
      refine own_go (T' := T3) (g' := (mkF m 87 #[.val (.int xa), .val (.int xb), .val (.int (0 : Int32)), .val (.int (0 : Int32)), .val (.ref a_INSIDE), .val (.ref a_INSIDE_prefix), .unset] [(.int (1 : Int32)), (.ref a_INSIDE_prefix)])) (fun _ k => XS.iconst X3.here hx rfl (hb hby at_86) k) ?_
      obtain ⟨cq4, kq4, q4a, q4b, q4c⟩ := isOf hZ e3 E_INSIDE_prefix
      obtain ⟨_, _, ⟨T4, L4, k4, n4⟩, -, X4, ⟨Lc4, hQ4, l4, y4, z4⟩, st4⟩ := X3.virtualBack hx (y := (⟨"java/lang/String", "charAt", "(I)C"⟩ : MethodName)) (z := (⟨"java/lang/String", "charAt", "(I)C"⟩ : MethodName)) hown (mvT hZ (hw _ (List.mem_of_getElem? (i := 29) rfl))) (mvT hZ (hw _ (List.mem_of_getElem? (i := 30) rfl))) (notFace_of_selects (args := #[]) (mvT hZ (hw _ (List.mem_of_getElem? (i := 32) rfl)))) (mvT hZ (hw _ (List.mem_of_getElem? (i := 32) rfl))) (mvT hZ (hw _ (List.mem_of_getElem? (i := 31) rfl))) (by decide) (backOf (W := 0) (own_rCh1 l Z a0 hw [] a_INSIDE_prefix xc a_INSIDE_prefix_value k_INSIDE_prefix_value (73 : Int32) (45 : Int32) xv h0 n0 Z0 SC hcz F_INSIDE_prefix_coder F_INSIDE_prefix_value E_INSIDE_prefix SF hvr A_INSIDE_prefix_value) hZ (hw _ (List.mem_of_getElem? (i := 33) rfl)) (hw _ (List.mem_of_getElem? (i := 17) rfl)) (by decide) (by decide)) q4a q4c (g := (mkF m 87 #[.val (.int xa), .val (.int xb), .val (.int (0 : Int32)), .val (.int (0 : Int32)), .val (.ref a_INSIDE), .val (.ref a_INSIDE_prefix), .unset] [(.int (1 : Int32)), (.ref a_INSIDE_prefix)])) rfl (by rw [hml]; rfl) (Steps.refl _) (argsL := [(.int (1 : Int32))]) (rest := []) (lenOf own_pd8 rfl) rfl (by show 2 * 0 + _ ≤ _; exact Nat.le_of_eq rfl) (hb hby at_87) (fun _ _ => ⟨rfl, e3, (by decide : 0 + 0 ≤ _), (by decide : 0 + 0 ≤ _)⟩)
      dsimp only [Pt.U, Pt.locs, Pt.cells, Pt.slots] at X4 l4 y4 z4 st4 hQ4
      subst l4 y4 z4
      obtain ⟨rfl, N4q, e4⟩ := hQ4
      have N4 := Fr.app N3 N4q
      refine own_goT (T' := T4) (g' := (mkF m 90 #[.val (.int xa), .val (.int xb), .val (.int (0 : Int32)), .val (.int (0 : Int32)), .val (.ref a_INSIDE), .val (.ref a_INSIDE_prefix), .unset] [(.int (nar .char (own_ch (45 : Int32))))])) st4 ?_
      refine own_go (T' := T4) (g' := (mkF m 92 #[.val (.int xa), .val (.int xb), .val (.int (0 : Int32)), .val (.int (0 : Int32)), .val (.ref a_INSIDE), .val (.ref a_INSIDE_prefix), .unset] [(.int (45 : Int32)), (.int (nar .char (own_ch (45 : Int32))))])) (fun _ k => XS.bipush X4.here hx rfl (hb hby at_90) k) ?_
      refine own_go (T' := T4) (g' := (mkF m 97 #[.val (.int xa), .val (.int xb), .val (.int (0 : Int32)), .val (.int (0 : Int32)), .val (.ref a_INSIDE), .val (.ref a_INSIDE_prefix), .unset] [])) (fun _ k => XS.icmpYes X4.here hx rfl (pc0 := 92) (pc' := 97) rfl (hb hby at_92) rfl (teq ((by decide) : (nar .char (own_ch (45 : Int32))) = (45 : Int32))).1 (by decide) (by decide) k) ?_
      refine own_go (T' := T4) (g' := (mkF m 99 #[.val (.int xa), .val (.int xb), .val (.int (0 : Int32)), .val (.int (0 : Int32)), .val (.ref a_INSIDE), .val (.ref a_INSIDE_prefix), .unset] [(.ref a_INSIDE_prefix)])) (fun _ k => XS.aload X4.here hx rfl (hb hby at_97) rfl rfl k) ?_
      refine own_go (T' := T4) (g' := (mkF m 100 #[.val (.int xa), .val (.int xb), .val (.int (0 : Int32)), .val (.int (0 : Int32)), .val (.ref a_INSIDE), .val (.ref a_INSIDE_prefix), .unset] [(.int (0 : Int32)), (.ref a_INSIDE_prefix)])) (fun _ k => XS.iconst X4.here hx rfl (hb hby at_99) k) ?_
      obtain ⟨cq5, kq5, q5a, q5b, q5c⟩ := isOf hZ e4 E_INSIDE_prefix
      obtain ⟨_, _, ⟨T5, L5, k5, n5⟩, -, X5, ⟨Lc5, hQ5, l5, y5, z5⟩, st5⟩ := X4.virtualBack hx (y := (⟨"java/lang/String", "charAt", "(I)C"⟩ : MethodName)) (z := (⟨"java/lang/String", "charAt", "(I)C"⟩ : MethodName)) hown (mvT hZ (hw _ (List.mem_of_getElem? (i := 29) rfl))) (mvT hZ (hw _ (List.mem_of_getElem? (i := 30) rfl))) (notFace_of_selects (args := #[]) (mvT hZ (hw _ (List.mem_of_getElem? (i := 32) rfl)))) (mvT hZ (hw _ (List.mem_of_getElem? (i := 32) rfl))) (mvT hZ (hw _ (List.mem_of_getElem? (i := 31) rfl))) (by decide) (backOf (W := 0) (own_rCh0 l Z a0 hw [] a_INSIDE_prefix xc a_INSIDE_prefix_value k_INSIDE_prefix_value (73 : Int32) (45 : Int32) xv h0 n0 Z0 SC hcz F_INSIDE_prefix_coder F_INSIDE_prefix_value E_INSIDE_prefix SF hvr A_INSIDE_prefix_value) hZ (hw _ (List.mem_of_getElem? (i := 33) rfl)) (hw _ (List.mem_of_getElem? (i := 17) rfl)) (by decide) (by decide)) q5a q5c (g := (mkF m 100 #[.val (.int xa), .val (.int xb), .val (.int (0 : Int32)), .val (.int (0 : Int32)), .val (.ref a_INSIDE), .val (.ref a_INSIDE_prefix), .unset] [(.int (0 : Int32)), (.ref a_INSIDE_prefix)])) rfl (by rw [hml]; rfl) (Steps.refl _) (argsL := [(.int (0 : Int32))]) (rest := []) (lenOf own_pd8 rfl) rfl (by show 2 * 0 + _ ≤ _; exact Nat.le_of_eq rfl) (hb hby at_100) (fun _ _ => ⟨rfl, e4, (by decide : 0 + 0 ≤ _), (by decide : 0 + 0 ≤ _)⟩)
      dsimp only [Pt.U, Pt.locs, Pt.cells, Pt.slots] at X5 l5 y5 z5 st5 hQ5
      subst l5 y5 z5
      obtain ⟨rfl, N5q, e5⟩ := hQ5
      have N5 := Fr.app N4 N5q
      refine own_goT (T' := T5) (g' := (mkF m 103 #[.val (.int xa), .val (.int xb), .val (.int (0 : Int32)), .val (.int (0 : Int32)), .val (.ref a_INSIDE), .val (.ref a_INSIDE_prefix), .unset] [(.int (nar .char (own_ch (73 : Int32))))])) st5 ?_
      refine own_go (T' := T5) (g' := (mkF m 105 #[.val (.int xa), .val (.int xb), .val (.int (0 : Int32)), .val (.int (0 : Int32)), .val (.ref a_INSIDE), .val (.ref a_INSIDE_prefix), .val (.int (nar .char (own_ch (73 : Int32))))] [])) (fun _ k => XS.istore X5.here hx rfl (hb hby at_103) rfl (l' := #[.val (.int xa), .val (.int xb), .val (.int (0 : Int32)), .val (.int (0 : Int32)), .val (.ref a_INSIDE), .val (.ref a_INSIDE_prefix), .val (.int (nar .char (own_ch (73 : Int32))))]) rfl k) ?_
      refine own_go (T' := T5) (g' := (mkF m 106 #[.val (.int xa), .val (.int xb), .val (.int (0 : Int32)), .val (.int (0 : Int32)), .val (.ref a_INSIDE), .val (.ref a_INSIDE_prefix), .val (.int (nar .char (own_ch (73 : Int32))))] [(.int (0 : Int32))])) (fun _ k => XS.iloadN X5.here hx rfl (hb hby at_105) rfl k) ?_
      refine own_go (T' := T5) (g' := (mkF m 130 #[.val (.int xa), .val (.int xb), .val (.int (0 : Int32)), .val (.int (0 : Int32)), .val (.ref a_INSIDE), .val (.ref a_INSIDE_prefix), .val (.int (nar .char (own_ch (73 : Int32))))] [])) (fun _ k => XS.ifYes X5.here hx rfl (pc0 := 106) (pc' := 130) rfl (hb hby at_106) rfl ((if0 _ _).trans (teq ((by decide) : (0 : Int32) = (0 : Int32))).1) (by decide) (by decide) k) ?_
      refine own_go (T' := T5) (g' := (mkF m 131 #[.val (.int xa), .val (.int xb), .val (.int (0 : Int32)), .val (.int (0 : Int32)), .val (.ref a_INSIDE), .val (.ref a_INSIDE_prefix), .val (.int (nar .char (own_ch (73 : Int32))))] [(.int (0 : Int32))])) (fun _ k => XS.iloadN X5.here hx rfl (hb hby at_130) rfl k) ?_
      refine own_go (T' := T5) (g' := (mkF m 155 #[.val (.int xa), .val (.int xb), .val (.int (0 : Int32)), .val (.int (0 : Int32)), .val (.ref a_INSIDE), .val (.ref a_INSIDE_prefix), .val (.int (nar .char (own_ch (73 : Int32))))] [])) (fun _ k => XS.ifYes X5.here hx rfl (pc0 := 131) (pc' := 155) rfl (hb hby at_131) rfl ((if0 _ _).trans (teq ((by decide) : (0 : Int32) = (0 : Int32))).1) (by decide) (by decide) k) ?_
      refine own_go (T' := T5) (g' := (mkF m 157 #[.val (.int xa), .val (.int xb), .val (.int (0 : Int32)), .val (.int (0 : Int32)), .val (.ref a_INSIDE), .val (.ref a_INSIDE_prefix), .val (.int (nar .char (own_ch (73 : Int32))))] [(.ref a_INSIDE)])) (fun _ k => XS.aload X5.here hx rfl (hb hby at_155) rfl rfl k) ?_
      obtain ⟨T6, X6, e6, st6⟩ := getS X5 hx hZ (host := "") hown (hw _ (List.mem_of_getElem? (i := 54) rfl)) Via.refl e5 S_INSIDE (g := (mkF m 157 #[.val (.int xa), .val (.int xb), .val (.int (0 : Int32)), .val (.int (0 : Int32)), .val (.ref a_INSIDE), .val (.ref a_INSIDE_prefix), .val (.int (nar .char (own_ch (73 : Int32))))] [(.ref a_INSIDE)])) rfl (hb hby at_157)
      refine own_go (T' := T6) (g' := (mkF m 160 #[.val (.int xa), .val (.int xb), .val (.int (0 : Int32)), .val (.int (0 : Int32)), .val (.ref a_INSIDE), .val (.ref a_INSIDE_prefix), .val (.int (nar .char (own_ch (73 : Int32))))] [(.ref a_INSIDE), (.ref a_INSIDE)])) (fun _ k => st6 _ k) ?_
      refine own_go (T' := T6) (g' := (mkF m 163 #[.val (.int xa), .val (.int xb), .val (.int (0 : Int32)), .val (.int (0 : Int32)), .val (.ref a_INSIDE), .val (.ref a_INSIDE_prefix), .val (.int (nar .char (own_ch (73 : Int32))))] [])) (fun _ k => Jvm.RoadKit.acmp (g := (mkF m 160 #[.val (.int xa), .val (.int xb), .val (.int (0 : Int32)), .val (.int (0 : Int32)), .val (.ref a_INSIDE), .val (.ref a_INSIDE_prefix), .val (.int (nar .char (own_ch (73 : Int32))))] [(.ref a_INSIDE), (.ref a_INSIDE)])) X6 hx rfl rfl rfl (pc0 := 160) (pc' := 163) (same := true) rfl (hb hby at_160) rfl (decide_eq_true rfl) (by decide) (by decide) k) ?_
      refine own_go (T' := T6) (g' := (mkF m 165 #[.val (.int xa), .val (.int xb), .val (.int (0 : Int32)), .val (.int (0 : Int32)), .val (.ref a_INSIDE), .val (.ref a_INSIDE_prefix), .val (.int (nar .char (own_ch (73 : Int32))))] [(.int (nar .char (own_ch (73 : Int32))))])) (fun _ k => XS.iload X6.here hx rfl (hb hby at_163) rfl k) ?_
      refine own_go (T' := T6) (g' := (mkF m 167 #[.val (.int xa), .val (.int xb), .val (.int (0 : Int32)), .val (.int (0 : Int32)), .val (.ref a_INSIDE), .val (.ref a_INSIDE_prefix), .val (.int (nar .char (own_ch (73 : Int32))))] [(.int (73 : Int32)), (.int (nar .char (own_ch (73 : Int32))))])) (fun _ k => XS.bipush X6.here hx rfl (hb hby at_165) k) ?_
      refine own_go (T' := T6) (g' := (mkF m 170 #[.val (.int xa), .val (.int xb), .val (.int (0 : Int32)), .val (.int (0 : Int32)), .val (.ref a_INSIDE), .val (.ref a_INSIDE_prefix), .val (.int (nar .char (own_ch (73 : Int32))))] [])) (fun _ k => XS.icmpNo X6.here hx rfl (hb hby at_167) rfl (teq ((by decide) : (nar .char (own_ch (73 : Int32))) = (73 : Int32))).2 k) ?_
      refine own_go (T' := T6) (g' := (mkF m 171 #[.val (.int xa), .val (.int xb), .val (.int (0 : Int32)), .val (.int (0 : Int32)), .val (.ref a_INSIDE), .val (.ref a_INSIDE_prefix), .val (.int (nar .char (own_ch (73 : Int32))))] [(.int (1 : Int32))])) (fun _ k => XS.iconst X6.here hx rfl (hb hby at_170) k) ?_
      refine own_go (T' := T6) (g' := (mkF m 175 #[.val (.int xa), .val (.int xb), .val (.int (0 : Int32)), .val (.int (0 : Int32)), .val (.ref a_INSIDE), .val (.ref a_INSIDE_prefix), .val (.int (nar .char (own_ch (73 : Int32))))] [(.int (1 : Int32))])) (fun _ k => XS.goto X6.here hx rfl (pc0 := 171) (pc' := 175) rfl (hb hby at_171) (by decide) (by decide) k) ?_
      obtain ⟨fs, hr, hrun, hended, hW, hsame⟩ := X6.leave (v := some (.int (1 : Int32))) (fun h => by rw [Bd.returns] at h; cases h)
      refine own_end (retN X6 hx (t := .boolean) Bd.returns (by simp) (hb hby at_175) hr) hrun hended ⟨_, _, rfl, (?_ : own_QL Z xa xb a_END a_END_prefix a_END_prefix_value a_INSIDE a_INSIDE_prefix a_INSIDE_prefix_value a_WHOLE a_WHOLE_prefix a_WHOLE_prefix_value a_BEGIN a_BEGIN_prefix a_BEGIN_prefix_value k_END_prefix_value k_INSIDE_prefix_value k_WHOLE_prefix_value k_BEGIN_prefix_value xc xv h0 n0 _ T6.heap _), ⟨_, rfl⟩, hW, hsame.mono (by decide) (by decide)⟩
      rw [e6]
      exact ⟨rfl, N5⟩
    · refine own_go (T' := s₁) (g' := (mkF m 18 #[.val (.int xa), .val (.int xb), .val (.int (0 : Int32)), .unset, .unset, .unset, .unset] [])) (fun _ k => XS.ifNo X0.here hx rfl (hb hby at_15) rfl ((if0 _ _).trans (feq (hc15 : ¬ ((xb &&& (1 : Int32)) = (0 : Int32)))).1) k) ?_
      refine own_go (T' := s₁) (g' := (mkF m 19 #[.val (.int xa), .val (.int xb), .val (.int (0 : Int32)), .unset, .unset, .unset, .unset] [(.int (1 : Int32))])) (fun _ k => XS.iconst X0.here hx rfl (hb hby at_18) k) ?_
      refine own_go (T' := s₁) (g' := (mkF m 23 #[.val (.int xa), .val (.int xb), .val (.int (0 : Int32)), .unset, .unset, .unset, .unset] [(.int (1 : Int32))])) (fun _ k => XS.goto X0.here hx rfl (pc0 := 19) (pc' := 23) rfl (hb hby at_19) (by decide) (by decide) k) ?_
      refine own_go (T' := s₁) (g' := (mkF m 24 #[.val (.int xa), .val (.int xb), .val (.int (0 : Int32)), .val (.int (1 : Int32)), .unset, .unset, .unset] [])) (fun _ k => XS.istoreN X0.here hx rfl (hb hby at_23) rfl (l' := #[.val (.int xa), .val (.int xb), .val (.int (0 : Int32)), .val (.int (1 : Int32)), .unset, .unset, .unset]) rfl k) ?_
      refine own_go (T' := s₁) (g' := (mkF m 25 #[.val (.int xa), .val (.int xb), .val (.int (0 : Int32)), .val (.int (1 : Int32)), .unset, .unset, .unset] [(.int (0 : Int32))])) (fun _ k => XS.iloadN X0.here hx rfl (hb hby at_24) rfl k) ?_
      refine own_go (T' := s₁) (g' := (mkF m 26 #[.val (.int xa), .val (.int xb), .val (.int (0 : Int32)), .val (.int (1 : Int32)), .unset, .unset, .unset] [(.int (1 : Int32)), (.int (0 : Int32))])) (fun _ k => XS.iloadN X0.here hx rfl (hb hby at_25) rfl k) ?_
      obtain ⟨_, _, ⟨T7, L7, k7, n7⟩, -, X7, ⟨Lc7, hQ7, l7, y7, z7⟩, st7⟩ := Jvm.LawKit.callS X0 hx (y := (⟨"com/example/tokenweave/tokenweave/service/PieceLayout$Position", "of", "(ZZ)Lcom/example/tokenweave/tokenweave/service/PieceLayout$Position;"⟩ : MethodName)) hown (mvT hZ (hw _ (List.mem_of_getElem? (i := 0) rfl))) (mvT hZ (hw _ (List.mem_of_getElem? (i := 1) rfl))) (mvT hZ (hw _ (List.mem_of_getElem? (i := 2) rfl))) (mvT hZ (hw _ (List.mem_of_getElem? (i := 3) rfl))) (by decide) (backOf (W := 0) (own_rOf01 l Z a0 hw [] a_END h0 n0 Z0 S_END) hZ (hw _ (List.mem_of_getElem? (i := 3) rfl)) (hw _ (List.mem_of_getElem? (i := 2) rfl)) (by decide) (by decide)) (g := (mkF m 26 #[.val (.int xa), .val (.int xb), .val (.int (0 : Int32)), .val (.int (1 : Int32)), .unset, .unset, .unset] [(.int (1 : Int32)), (.int (0 : Int32))])) rfl (by rw [hml]; rfl) (argsL := [(.int (0 : Int32)), (.int (1 : Int32))]) (rest := []) (lenOf own_pd5 rfl) rfl (by show 2 * 0 + _ ≤ _; exact Nat.le_of_eq rfl) (hb hby at_26) (fun _ _ => ⟨rfl, e0, (by decide : 0 + 0 ≤ _), (by decide : 0 + 0 ≤ _)⟩)
      dsimp only [Pt.U, Pt.locs, Pt.cells, Pt.slots] at X7 l7 y7 z7 st7 hQ7
      subst l7 y7 z7
      obtain ⟨rfl, N7q, e7⟩ := hQ7
      have N7 := Fr.app N0 N7q
      refine own_go (T' := T7) (g' := (mkF m 29 #[.val (.int xa), .val (.int xb), .val (.int (0 : Int32)), .val (.int (1 : Int32)), .unset, .unset, .unset] [(.ref a_END)])) (fun _ k => st7 _ k) ?_
      refine own_go (T' := T7) (g' := (mkF m 31 #[.val (.int xa), .val (.int xb), .val (.int (0 : Int32)), .val (.int (1 : Int32)), .val (.ref a_END), .unset, .unset] [])) (fun _ k => XS.astore X7.here hx rfl (hb hby at_29) rfl rfl (l' := #[.val (.int xa), .val (.int xb), .val (.int (0 : Int32)), .val (.int (1 : Int32)), .val (.ref a_END), .unset, .unset]) rfl k) ?_
      refine own_go (T' := T7) (g' := (mkF m 33 #[.val (.int xa), .val (.int xb), .val (.int (0 : Int32)), .val (.int (1 : Int32)), .val (.ref a_END), .unset, .unset] [(.ref a_END)])) (fun _ k => XS.aload X7.here hx rfl (hb hby at_31) rfl rfl k) ?_
      refine own_go (T' := T7) (g' := (mkF m 38 #[.val (.int xa), .val (.int xb), .val (.int (0 : Int32)), .val (.int (1 : Int32)), .val (.ref a_END), .unset, .unset] [])) (fun _ k => XS.ifnonnullYes X7.here hx rfl (pc0 := 33) (pc' := 38) rfl (hb hby at_33) rfl (by decide) (by decide) k) ?_
      refine own_go (T' := T7) (g' := (mkF m 40 #[.val (.int xa), .val (.int xb), .val (.int (0 : Int32)), .val (.int (1 : Int32)), .val (.ref a_END), .unset, .unset] [(.ref a_END)])) (fun _ k => XS.aload X7.here hx rfl (hb hby at_38) rfl rfl k) ?_
      obtain ⟨cq8, kq8, q8a, q8b, q8c⟩ := isOf hZ e7 E_END
      obtain ⟨_, _, ⟨T8, L8, k8, n8⟩, -, X8, ⟨Lc8, hQ8, l8, y8, z8⟩, st8⟩ := X7.virtualBack hx (y := (⟨"com/example/tokenweave/tokenweave/service/PieceLayout$Position", "prefix", "()Ljava/lang/String;"⟩ : MethodName)) (z := (⟨"com/example/tokenweave/tokenweave/service/PieceLayout$Position", "prefix", "()Ljava/lang/String;"⟩ : MethodName)) hown (mvT hZ (hw _ (List.mem_of_getElem? (i := 6) rfl))) (mvT hZ (hw _ (List.mem_of_getElem? (i := 7) rfl))) (notFace_of_selects (args := #[]) (mvT hZ (hw _ (List.mem_of_getElem? (i := 9) rfl)))) (mvT hZ (hw _ (List.mem_of_getElem? (i := 9) rfl))) (mvT hZ (hw _ (List.mem_of_getElem? (i := 8) rfl))) (by decide) (backOf (W := 0) (own_rPf l Z a0 hw [] a_END a_END_prefix h0 n0 Z0 F_END_prefix) hZ (hw _ (List.mem_of_getElem? (i := 10) rfl)) (hw _ (List.mem_of_getElem? (i := 2) rfl)) (by decide) (by decide)) q8a q8c (g := (mkF m 40 #[.val (.int xa), .val (.int xb), .val (.int (0 : Int32)), .val (.int (1 : Int32)), .val (.ref a_END), .unset, .unset] [(.ref a_END)])) rfl (by rw [hml]; rfl) (Steps.refl _) (argsL := []) (rest := []) (lenOf own_pd6 rfl) rfl (by show 2 * 0 + _ ≤ _; exact Nat.le_of_eq rfl) (hb hby at_40) (fun _ _ => ⟨rfl, e7, (by decide : 0 + 0 ≤ _), (by decide : 0 + 0 ≤ _)⟩)
      dsimp only [Pt.U, Pt.locs, Pt.cells, Pt.slots] at X8 l8 y8 z8 st8 hQ8
      subst l8 y8 z8
      obtain ⟨rfl, N8q, e8⟩ := hQ8
      have N8 := Fr.app N7 N8q
      refine own_goT (T' := T8) (g' := (mkF m 43 #[.val (.int xa), .val (.int xb), .val (.int (0 : Int32)), .val (.int (1 : Int32)), .val (.ref a_END), .unset, .unset] [(.ref a_END_prefix)])) st8 ?_
      refine own_go (T' := T8) (g' := (mkF m 45 #[.val (.int xa), .val (.int xb), .val (.int (0 : Int32)), .val (.int (1 : Int32)), .val (.ref a_END), .val (.ref a_END_prefix), .unset] [])) (fun _ k => XS.astore X8.here hx rfl (hb hby at_43) rfl rfl (l' := #[.val (.int xa), .val (.int xb), .val (.int (0 : Int32)), .val (.int (1 : Int32)), .val (.ref a_END), .val (.ref a_END_prefix), .unset]) rfl k) ?_
      refine own_go (T' := T8) (g' := (mkF m 46 #[.val (.int xa), .val (.int xb), .val (.int (0 : Int32)), .val (.int (1 : Int32)), .val (.ref a_END), .val (.ref a_END_prefix), .unset] [(.int (0 : Int32))])) (fun _ k => XS.iloadN X8.here hx rfl (hb hby at_45) rfl k) ?_
      refine own_go (T' := T8) (g' := (mkF m 75 #[.val (.int xa), .val (.int xb), .val (.int (0 : Int32)), .val (.int (1 : Int32)), .val (.ref a_END), .val (.ref a_END_prefix), .unset] [])) (fun _ k => XS.ifYes X8.here hx rfl (pc0 := 46) (pc' := 75) rfl (hb hby at_46) rfl ((if0 _ _).trans (teq ((by decide) : (0 : Int32) = (0 : Int32))).1) (by decide) (by decide) k) ?_
      refine own_go (T' := T8) (g' := (mkF m 77 #[.val (.int xa), .val (.int xb), .val (.int (0 : Int32)), .val (.int (1 : Int32)), .val (.ref a_END), .val (.ref a_END_prefix), .unset] [(.ref a_END_prefix)])) (fun _ k => XS.aload X8.here hx rfl (hb hby at_75) rfl rfl k) ?_
      obtain ⟨cq9, kq9, q9a, q9b, q9c⟩ := isOf hZ e8 E_END_prefix
      obtain ⟨_, _, ⟨T9, L9, k9, n9⟩, -, X9, ⟨Lc9, hQ9, l9, y9, z9⟩, st9⟩ := X8.virtualBack hx (y := (⟨"java/lang/String", "length", "()I"⟩ : MethodName)) (z := (⟨"java/lang/String", "length", "()I"⟩ : MethodName)) hown (mvT hZ (hw _ (List.mem_of_getElem? (i := 13) rfl))) (mvT hZ (hw _ (List.mem_of_getElem? (i := 14) rfl))) (notFace_of_selects (args := #[]) (mvT hZ (hw _ (List.mem_of_getElem? (i := 16) rfl)))) (mvT hZ (hw _ (List.mem_of_getElem? (i := 16) rfl))) (mvT hZ (hw _ (List.mem_of_getElem? (i := 15) rfl))) (by decide) (backOf (W := 0) (own_rLen l Z a0 hw [] a_END_prefix xc a_END_prefix_value k_END_prefix_value (69 : Int32) (45 : Int32) h0 n0 Z0 SC hcz F_END_prefix_coder F_END_prefix_value E_END_prefix A_END_prefix_value) hZ (hw _ (List.mem_of_getElem? (i := 18) rfl)) (hw _ (List.mem_of_getElem? (i := 17) rfl)) (by decide) (by decide)) q9a q9c (g := (mkF m 77 #[.val (.int xa), .val (.int xb), .val (.int (0 : Int32)), .val (.int (1 : Int32)), .val (.ref a_END), .val (.ref a_END_prefix), .unset] [(.ref a_END_prefix)])) rfl (by rw [hml]; rfl) (Steps.refl _) (argsL := []) (rest := []) (lenOf own_pd7 rfl) rfl (by show 2 * 0 + _ ≤ _; exact Nat.le_of_eq rfl) (hb hby at_77) (fun _ _ => ⟨rfl, e8, (by decide : 0 + 0 ≤ _), (by decide : 0 + 0 ≤ _)⟩)
      dsimp only [Pt.U, Pt.locs, Pt.cells, Pt.slots] at X9 l9 y9 z9 st9 hQ9
      subst l9 y9 z9
      obtain ⟨rfl, N9q, e9⟩ := hQ9
      have N9 := Fr.app N8 N9q
      refine own_goT (T' := T9) (g' := (mkF m 80 #[.val (.int xa), .val (.int xb), .val (.int (0 : Int32)), .val (.int (1 : Int32)), .val (.ref a_END), .val (.ref a_END_prefix), .unset] [(.int (2 : Int32))])) st9 ?_
      refine own_go (T' := T9) (g' := (mkF m 81 #[.val (.int xa), .val (.int xb), .val (.int (0 : Int32)), .val (.int (1 : Int32)), .val (.ref a_END), .val (.ref a_END_prefix), .unset] [(.int (2 : Int32)), (.int (2 : Int32))])) (fun _ k => XS.iconst X9.here hx rfl (hb hby at_80) k) ?_
      refine own_go (T' := T9) (g' := (mkF m 84 #[.val (.int xa), .val (.int xb), .val (.int (0 : Int32)), .val (.int (1 : Int32)), .val (.ref a_END), .val (.ref a_END_prefix), .unset] [])) (fun _ k => XS.icmpNo X9.here hx rfl (hb hby at_81) rfl (teq ((by decide) : (2 : Int32) = (2 : Int32))).2 k) ?_
      refine own_go (T' := T9) (g' := (mkF m 86 #[.val (.int xa), .val (.int xb), .val (.int (0 : Int32)), .val (.int (1 : Int32)), .val (.ref a_END), .val (.ref a_END_prefix), .unset] [(.ref a_END_prefix)])) (fun _ k => XS.aload X9.here hx rfl (hb hby at_84) rfl rfl k) ?_
      refine own_go (T' := T9) (g' := (mkF m 87 #[.val (.int xa), .val (.int xb), .val (.int (0 : Int32)), .val (.int (1 : Int32)), .val (.ref a_END), .val (.ref a_END_prefix), .unset] [(.int (1 : Int32)), (.ref a_END_prefix)])) (fun _ k => XS.iconst X9.here hx rfl (hb hby at_86) k) ?_
      obtain ⟨cq10, kq10, q10a, q10b, q10c⟩ := isOf hZ e9 E_END_prefix
      obtain ⟨_, _, ⟨T10, L10, k10, n10⟩, -, X10, ⟨Lc10, hQ10, l10, y10, z10⟩, st10⟩ := X9.virtualBack hx (y := (⟨"java/lang/String", "charAt", "(I)C"⟩ : MethodName)) (z := (⟨"java/lang/String", "charAt", "(I)C"⟩ : MethodName)) hown (mvT hZ (hw _ (List.mem_of_getElem? (i := 29) rfl))) (mvT hZ (hw _ (List.mem_of_getElem? (i := 30) rfl))) (notFace_of_selects (args := #[]) (mvT hZ (hw _ (List.mem_of_getElem? (i := 32) rfl)))) (mvT hZ (hw _ (List.mem_of_getElem? (i := 32) rfl))) (mvT hZ (hw _ (List.mem_of_getElem? (i := 31) rfl))) (by decide) (backOf (W := 0) (own_rCh1 l Z a0 hw [] a_END_prefix xc a_END_prefix_value k_END_prefix_value (69 : Int32) (45 : Int32) xv h0 n0 Z0 SC hcz F_END_prefix_coder F_END_prefix_value E_END_prefix SF hvr A_END_prefix_value) hZ (hw _ (List.mem_of_getElem? (i := 33) rfl)) (hw _ (List.mem_of_getElem? (i := 17) rfl)) (by decide) (by decide)) q10a q10c (g := (mkF m 87 #[.val (.int xa), .val (.int xb), .val (.int (0 : Int32)), .val (.int (1 : Int32)), .val (.ref a_END), .val (.ref a_END_prefix), .unset] [(.int (1 : Int32)), (.ref a_END_prefix)])) rfl (by rw [hml]; rfl) (Steps.refl _) (argsL := [(.int (1 : Int32))]) (rest := []) (lenOf own_pd8 rfl) rfl (by show 2 * 0 + _ ≤ _; exact Nat.le_of_eq rfl) (hb hby at_87) (fun _ _ => ⟨rfl, e9, (by decide : 0 + 0 ≤ _), (by decide : 0 + 0 ≤ _)⟩)
      dsimp only [Pt.U, Pt.locs, Pt.cells, Pt.slots] at X10 l10 y10 z10 st10 hQ10
      subst l10 y10 z10
      obtain ⟨rfl, N10q, e10⟩ := hQ10
      have N10 := Fr.app N9 N10q
      refine own_goT (T' := T10) (g' := (mkF m 90 #[.val (.int xa), .val (.int xb), .val (.int (0 : Int32)), .val (.int (1 : Int32)), .val (.ref a_END), .val (.ref a_END_prefix), .unset] [(.int (nar .char (own_ch (45 : Int32))))])) st10 ?_
      refine own_go (T' := T10) (g' := (mkF m 92 #[.val (.int xa), .val (.int xb), .val (.int (0 : Int32)), .val (.int (1 : Int32)), .val (.ref a_END), .val (.ref a_END_prefix), .unset] [(.int (45 : Int32)), (.int (nar .char (own_ch (45 : Int32))))])) (fun _ k => XS.bipush X10.here hx rfl (hb hby at_90) k) ?_
      refine own_go (T' := T10) (g' := (mkF m 97 #[.val (.int xa), .val (.int xb), .val (.int (0 : Int32)), .val (.int (1 : Int32)), .val (.ref a_END), .val (.ref a_END_prefix), .unset] [])) (fun _ k => XS.icmpYes X10.here hx rfl (pc0 := 92) (pc' := 97) rfl (hb hby at_92) rfl (teq ((by decide) : (nar .char (own_ch (45 : Int32))) = (45 : Int32))).1 (by decide) (by decide) k) ?_
      refine own_go (T' := T10) (g' := (mkF m 99 #[.val (.int xa), .val (.int xb), .val (.int (0 : Int32)), .val (.int (1 : Int32)), .val (.ref a_END), .val (.ref a_END_prefix), .unset] [(.ref a_END_prefix)])) (fun _ k => XS.aload X10.here hx rfl (hb hby at_97) rfl rfl k) ?_
      refine own_go (T' := T10) (g' := (mkF m 100 #[.val (.int xa), .val (.int xb), .val (.int (0 : Int32)), .val (.int (1 : Int32)), .val (.ref a_END), .val (.ref a_END_prefix), .unset] [(.int (0 : Int32)), (.ref a_END_prefix)])) (fun _ k => XS.iconst X10.here hx rfl (hb hby at_99) k) ?_
      obtain ⟨cq11, kq11, q11a, q11b, q11c⟩ := isOf hZ e10 E_END_prefix
      obtain ⟨_, _, ⟨T11, L11, k11, n11⟩, -, X11, ⟨Lc11, hQ11, l11, y11, z11⟩, st11⟩ := X10.virtualBack hx (y := (⟨"java/lang/String", "charAt", "(I)C"⟩ : MethodName)) (z := (⟨"java/lang/String", "charAt", "(I)C"⟩ : MethodName)) hown (mvT hZ (hw _ (List.mem_of_getElem? (i := 29) rfl))) (mvT hZ (hw _ (List.mem_of_getElem? (i := 30) rfl))) (notFace_of_selects (args := #[]) (mvT hZ (hw _ (List.mem_of_getElem? (i := 32) rfl)))) (mvT hZ (hw _ (List.mem_of_getElem? (i := 32) rfl))) (mvT hZ (hw _ (List.mem_of_getElem? (i := 31) rfl))) (by decide) (backOf (W := 0) (own_rCh0 l Z a0 hw [] a_END_prefix xc a_END_prefix_value k_END_prefix_value (69 : Int32) (45 : Int32) xv h0 n0 Z0 SC hcz F_END_prefix_coder F_END_prefix_value E_END_prefix SF hvr A_END_prefix_value) hZ (hw _ (List.mem_of_getElem? (i := 33) rfl)) (hw _ (List.mem_of_getElem? (i := 17) rfl)) (by decide) (by decide)) q11a q11c (g := (mkF m 100 #[.val (.int xa), .val (.int xb), .val (.int (0 : Int32)), .val (.int (1 : Int32)), .val (.ref a_END), .val (.ref a_END_prefix), .unset] [(.int (0 : Int32)), (.ref a_END_prefix)])) rfl (by rw [hml]; rfl) (Steps.refl _) (argsL := [(.int (0 : Int32))]) (rest := []) (lenOf own_pd8 rfl) rfl (by show 2 * 0 + _ ≤ _; exact Nat.le_of_eq rfl) (hb hby at_100) (fun _ _ => ⟨rfl, e10, (by decide : 0 + 0 ≤ _), (by decide : 0 + 0 ≤ _)⟩)
      dsimp only [Pt.U, Pt.locs, Pt.cells, Pt.slots] at X11 l11 y11 z11 st11 hQ11
      subst l11 y11 z11
      obtain ⟨rfl, N11q, e11⟩ := hQ11
      have N11 := Fr.app N10 N11q
      refine own_goT (T' := T11) (g' := (mkF m 103 #[.val (.int xa), .val (.int xb), .val (.int (0 : Int32)), .val (.int (1 : Int32)), .val (.ref a_END), .val (.ref a_END_prefix), .unset] [(.int (nar .char (own_ch (69 : Int32))))])) st11 ?_
      refine own_go (T' := T11) (g' := (mkF m 105 #[.val (.int xa), .val (.int xb), .val (.int (0 : Int32)), .val (.int (1 : Int32)), .val (.ref a_END), .val (.ref a_END_prefix), .val (.int (nar .char (own_ch (69 : Int32))))] [])) (fun _ k => XS.istore X11.here hx rfl (hb hby at_103) rfl (l' := #[.val (.int xa), .val (.int xb), .val (.int (0 : Int32)), .val (.int (1 : Int32)), .val (.ref a_END), .val (.ref a_END_prefix), .val (.int (nar .char (own_ch (69 : Int32))))]) rfl k) ?_
      refine own_go (T' := T11) (g' := (mkF m 106 #[.val (.int xa), .val (.int xb), .val (.int (0 : Int32)), .val (.int (1 : Int32)), .val (.ref a_END), .val (.ref a_END_prefix), .val (.int (nar .char (own_ch (69 : Int32))))] [(.int (0 : Int32))])) (fun _ k => XS.iloadN X11.here hx rfl (hb hby at_105) rfl k) ?_
      refine own_go (T' := T11) (g' := (mkF m 130 #[.val (.int xa), .val (.int xb), .val (.int (0 : Int32)), .val (.int (1 : Int32)), .val (.ref a_END), .val (.ref a_END_prefix), .val (.int (nar .char (own_ch (69 : Int32))))] [])) (fun _ k => XS.ifYes X11.here hx rfl (pc0 := 106) (pc' := 130) rfl (hb hby at_106) rfl ((if0 _ _).trans (teq ((by decide) : (0 : Int32) = (0 : Int32))).1) (by decide) (by decide) k) ?_
      refine own_go (T' := T11) (g' := (mkF m 131 #[.val (.int xa), .val (.int xb), .val (.int (0 : Int32)), .val (.int (1 : Int32)), .val (.ref a_END), .val (.ref a_END_prefix), .val (.int (nar .char (own_ch (69 : Int32))))] [(.int (1 : Int32))])) (fun _ k => XS.iloadN X11.here hx rfl (hb hby at_130) rfl k) ?_
      refine own_go (T' := T11) (g' := (mkF m 134 #[.val (.int xa), .val (.int xb), .val (.int (0 : Int32)), .val (.int (1 : Int32)), .val (.ref a_END), .val (.ref a_END_prefix), .val (.int (nar .char (own_ch (69 : Int32))))] [])) (fun _ k => XS.ifNo X11.here hx rfl (hb hby at_131) rfl ((if0 _ _).trans (feq ((by decide) : ¬ ((1 : Int32) = (0 : Int32)))).1) k) ?_
      refine own_go (T' := T11) (g' := (mkF m 136 #[.val (.int xa), .val (.int xb), .val (.int (0 : Int32)), .val (.int (1 : Int32)), .val (.ref a_END), .val (.ref a_END_prefix), .val (.int (nar .char (own_ch (69 : Int32))))] [(.ref a_END)])) (fun _ k => XS.aload X11.here hx rfl (hb hby at_134) rfl rfl k) ?_
      obtain ⟨T12, X12, e12, st12⟩ := getS X11 hx hZ (host := "") hown (hw _ (List.mem_of_getElem? (i := 51) rfl)) Via.refl e11 S_END (g := (mkF m 136 #[.val (.int xa), .val (.int xb), .val (.int (0 : Int32)), .val (.int (1 : Int32)), .val (.ref a_END), .val (.ref a_END_prefix), .val (.int (nar .char (own_ch (69 : Int32))))] [(.ref a_END)])) rfl (hb hby at_136)
      refine own_go (T' := T12) (g' := (mkF m 139 #[.val (.int xa), .val (.int xb), .val (.int (0 : Int32)), .val (.int (1 : Int32)), .val (.ref a_END), .val (.ref a_END_prefix), .val (.int (nar .char (own_ch (69 : Int32))))] [(.ref a_END), (.ref a_END)])) (fun _ k => st12 _ k) ?_
      refine own_go (T' := T12) (g' := (mkF m 142 #[.val (.int xa), .val (.int xb), .val (.int (0 : Int32)), .val (.int (1 : Int32)), .val (.ref a_END), .val (.ref a_END_prefix), .val (.int (nar .char (own_ch (69 : Int32))))] [])) (fun _ k => Jvm.RoadKit.acmp (g := (mkF m 139 #[.val (.int xa), .val (.int xb), .val (.int (0 : Int32)), .val (.int (1 : Int32)), .val (.ref a_END), .val (.ref a_END_prefix), .val (.int (nar .char (own_ch (69 : Int32))))] [(.ref a_END), (.ref a_END)])) X12 hx rfl rfl rfl (pc0 := 139) (pc' := 142) (same := true) rfl (hb hby at_139) rfl (decide_eq_true rfl) (by decide) (by decide) k) ?_
      refine own_go (T' := T12) (g' := (mkF m 144 #[.val (.int xa), .val (.int xb), .val (.int (0 : Int32)), .val (.int (1 : Int32)), .val (.ref a_END), .val (.ref a_END_prefix), .val (.int (nar .char (own_ch (69 : Int32))))] [(.int (nar .char (own_ch (69 : Int32))))])) (fun _ k => XS.iload X12.here hx rfl (hb hby at_142) rfl k) ?_
      refine own_go (T' := T12) (g' := (mkF m 146 #[.val (.int xa), .val (.int xb), .val (.int (0 : Int32)), .val (.int (1 : Int32)), .val (.ref a_END), .val (.ref a_END_prefix), .val (.int (nar .char (own_ch (69 : Int32))))] [(.int (69 : Int32)), (.int (nar .char (own_ch (69 : Int32))))])) (fun _ k => XS.bipush X12.here hx rfl (hb hby at_144) k) ?_
      refine own_go (T' := T12) (g' := (mkF m 149 #[.val (.int xa), .val (.int xb), .val (.int (0 : Int32)), .val (.int (1 : Int32)), .val (.ref a_END), .val (.ref a_END_prefix), .val (.int (nar .char (own_ch (69 : Int32))))] [])) (fun _ k => XS.icmpNo X12.here hx rfl (hb hby at_146) rfl (teq ((by decide) : (nar .char (own_ch (69 : Int32))) = (69 : Int32))).2 k) ?_
      refine own_go (T' := T12) (g' := (mkF m 150 #[.val (.int xa), .val (.int xb), .val (.int (0 : Int32)), .val (.int (1 : Int32)), .val (.ref a_END), .val (.ref a_END_prefix), .val (.int (nar .char (own_ch (69 : Int32))))] [(.int (1 : Int32))])) (fun _ k => XS.iconst X12.here hx rfl (hb hby at_149) k) ?_
      refine own_go (T' := T12) (g' := (mkF m 154 #[.val (.int xa), .val (.int xb), .val (.int (0 : Int32)), .val (.int (1 : Int32)), .val (.ref a_END), .val (.ref a_END_prefix), .val (.int (nar .char (own_ch (69 : Int32))))] [(.int (1 : Int32))])) (fun _ k => XS.goto X12.here hx rfl (pc0 := 150) (pc' := 154) rfl (hb hby at_150) (by decide) (by decide) k) ?_
      obtain ⟨fs, hr, hrun, hended, hW, hsame⟩ := X12.leave (v := some (.int (1 : Int32))) (fun h => by rw [Bd.returns] at h; cases h)
      refine own_end (retN X12 hx (t := .boolean) Bd.returns (by simp) (hb hby at_154) hr) hrun hended ⟨_, _, rfl, (?_ : own_QL Z xa xb a_END a_END_prefix a_END_prefix_value a_INSIDE a_INSIDE_prefix a_INSIDE_prefix_value a_WHOLE a_WHOLE_prefix a_WHOLE_prefix_value a_BEGIN a_BEGIN_prefix a_BEGIN_prefix_value k_END_prefix_value k_INSIDE_prefix_value k_WHOLE_prefix_value k_BEGIN_prefix_value xc xv h0 n0 _ T12.heap _), ⟨_, rfl⟩, hW, hsame.mono (by decide) (by decide)⟩
      rw [e12]
      exact ⟨rfl, N11⟩
  · refine own_go (T' := s₁) (g' := (mkF m 6 #[.val (.int xa), .val (.int xb), .unset, .unset, .unset, .unset, .unset] [])) (fun _ k => XS.ifNo X0.here hx rfl (hb hby at_3) rfl ((if0 _ _).trans (feq (hc3 : ¬ ((xa &&& (1 : Int32)) = (0 : Int32)))).1) k) ?_
    refine own_go (T' := s₁) (g' := (mkF m 7 #[.val (.int xa), .val (.int xb), .unset, .unset, .unset, .unset, .unset] [(.int (1 : Int32))])) (fun _ k => XS.iconst X0.here hx rfl (hb hby at_6) k) ?_
    refine own_go (T' := s₁) (g' := (mkF m 11 #[.val (.int xa), .val (.int xb), .unset, .unset, .unset, .unset, .unset] [(.int (1 : Int32))])) (fun _ k => XS.goto X0.here hx rfl (pc0 := 7) (pc' := 11) rfl (hb hby at_7) (by decide) (by decide) k) ?_
    refine own_go (T' := s₁) (g' := (mkF m 12 #[.val (.int xa), .val (.int xb), .val (.int (1 : Int32)), .unset, .unset, .unset, .unset] [])) (fun _ k => XS.istoreN X0.here hx rfl (hb hby at_11) rfl (l' := #[.val (.int xa), .val (.int xb), .val (.int (1 : Int32)), .unset, .unset, .unset, .unset]) rfl k) ?_
    refine own_go (T' := s₁) (g' := (mkF m 13 #[.val (.int xa), .val (.int xb), .val (.int (1 : Int32)), .unset, .unset, .unset, .unset] [(.int xb)])) (fun _ k => XS.iloadN X0.here hx rfl (hb hby at_12) rfl k) ?_
    refine own_go (T' := s₁) (g' := (mkF m 14 #[.val (.int xa), .val (.int xb), .val (.int (1 : Int32)), .unset, .unset, .unset, .unset] [(.int (1 : Int32)), (.int xb)])) (fun _ k => XS.iconst X0.here hx rfl (hb hby at_13) k) ?_
    refine own_go (T' := s₁) (g' := (mkF m 15 #[.val (.int xa), .val (.int xb), .val (.int (1 : Int32)), .unset, .unset, .unset, .unset] [(.int (xb &&& (1 : Int32)))])) (fun _ k => XS.iand X0.here hx rfl (hb hby at_14) rfl k) ?_
    by_cases hc15 : (xb &&& (1 : Int32)) = (0 : Int32)
    · refine own_go (T' := s₁) (g' := (mkF m 22 #[.val (.int xa), .val (.int xb), .val (.int (1 : Int32)), .unset, .unset, .unset, .unset] [])) (fun _ k => XS.ifYes X0.here hx rfl (pc0 := 15) (pc' := 22) rfl (hb hby at_15) rfl ((if0 _ _).trans (teq (hc15 : (xb &&& (1 : Int32)) = (0 : Int32))).1) (by decide) (by decide) k) ?_
      refine own_go (T' := s₁) (g' := (mkF m 23 #[.val (.int xa), .val (.int xb), .val (.int (1 : Int32)), .unset, .unset, .unset, .unset] [(.int (0 : Int32))])) (fun _ k => XS.iconst X0.here hx rfl (hb hby at_22) k) ?_
      refine own_go (T' := s₁) (g' := (mkF m 24 #[.val (.int xa), .val (.int xb), .val (.int (1 : Int32)), .val (.int (0 : Int32)), .unset, .unset, .unset] [])) (fun _ k => XS.istoreN X0.here hx rfl (hb hby at_23) rfl (l' := #[.val (.int xa), .val (.int xb), .val (.int (1 : Int32)), .val (.int (0 : Int32)), .unset, .unset, .unset]) rfl k) ?_
      refine own_go (T' := s₁) (g' := (mkF m 25 #[.val (.int xa), .val (.int xb), .val (.int (1 : Int32)), .val (.int (0 : Int32)), .unset, .unset, .unset] [(.int (1 : Int32))])) (fun _ k => XS.iloadN X0.here hx rfl (hb hby at_24) rfl k) ?_
      refine own_go (T' := s₁) (g' := (mkF m 26 #[.val (.int xa), .val (.int xb), .val (.int (1 : Int32)), .val (.int (0 : Int32)), .unset, .unset, .unset] [(.int (0 : Int32)), (.int (1 : Int32))])) (fun _ k => XS.iloadN X0.here hx rfl (hb hby at_25) rfl k) ?_
      obtain ⟨_, _, ⟨T13, L13, k13, n13⟩, -, X13, ⟨Lc13, hQ13, l13, y13, z13⟩, st13⟩ := Jvm.LawKit.callS X0 hx (y := (⟨"com/example/tokenweave/tokenweave/service/PieceLayout$Position", "of", "(ZZ)Lcom/example/tokenweave/tokenweave/service/PieceLayout$Position;"⟩ : MethodName)) hown (mvT hZ (hw _ (List.mem_of_getElem? (i := 0) rfl))) (mvT hZ (hw _ (List.mem_of_getElem? (i := 1) rfl))) (mvT hZ (hw _ (List.mem_of_getElem? (i := 2) rfl))) (mvT hZ (hw _ (List.mem_of_getElem? (i := 3) rfl))) (by decide) (backOf (W := 0) (own_rOf10 l Z a0 hw [] a_BEGIN h0 n0 Z0 S_BEGIN) hZ (hw _ (List.mem_of_getElem? (i := 3) rfl)) (hw _ (List.mem_of_getElem? (i := 2) rfl)) (by decide) (by decide)) (g := (mkF m 26 #[.val (.int xa), .val (.int xb), .val (.int (1 : Int32)), .val (.int (0 : Int32)), .unset, .unset, .unset] [(.int (0 : Int32)), (.int (1 : Int32))])) rfl (by rw [hml]; rfl) (argsL := [(.int (1 : Int32)), (.int (0 : Int32))]) (rest := []) (lenOf own_pd5 rfl) rfl (by show 2 * 0 + _ ≤ _; exact Nat.le_of_eq rfl) (hb hby at_26) (fun _ _ => ⟨rfl, e0, (by decide : 0 + 0 ≤ _), (by decide : 0 + 0 ≤ _)⟩)
      dsimp only [Pt.U, Pt.locs, Pt.cells, Pt.slots] at X13 l13 y13 z13 st13 hQ13
      subst l13 y13 z13
      obtain ⟨rfl, N13q, e13⟩ := hQ13
      have N13 := Fr.app N0 N13q
      refine own_go (T' := T13) (g' := (mkF m 29 #[.val (.int xa), .val (.int xb), .val (.int (1 : Int32)), .val (.int (0 : Int32)), .unset, .unset, .unset] [(.ref a_BEGIN)])) (fun _ k => st13 _ k) ?_
      refine own_go (T' := T13) (g' := (mkF m 31 #[.val (.int xa), .val (.int xb), .val (.int (1 : Int32)), .val (.int (0 : Int32)), .val (.ref a_BEGIN), .unset, .unset] [])) (fun _ k => XS.astore X13.here hx rfl (hb hby at_29) rfl rfl (l' := #[.val (.int xa), .val (.int xb), .val (.int (1 : Int32)), .val (.int (0 : Int32)), .val (.ref a_BEGIN), .unset, .unset]) rfl k) ?_
      refine own_go (T' := T13) (g' := (mkF m 33 #[.val (.int xa), .val (.int xb), .val (.int (1 : Int32)), .val (.int (0 : Int32)), .val (.ref a_BEGIN), .unset, .unset] [(.ref a_BEGIN)])) (fun _ k => XS.aload X13.here hx rfl (hb hby at_31) rfl rfl k) ?_
      refine own_go (T' := T13) (g' := (mkF m 38 #[.val (.int xa), .val (.int xb), .val (.int (1 : Int32)), .val (.int (0 : Int32)), .val (.ref a_BEGIN), .unset, .unset] [])) (fun _ k => XS.ifnonnullYes X13.here hx rfl (pc0 := 33) (pc' := 38) rfl (hb hby at_33) rfl (by decide) (by decide) k) ?_
      refine own_go (T' := T13) (g' := (mkF m 40 #[.val (.int xa), .val (.int xb), .val (.int (1 : Int32)), .val (.int (0 : Int32)), .val (.ref a_BEGIN), .unset, .unset] [(.ref a_BEGIN)])) (fun _ k => XS.aload X13.here hx rfl (hb hby at_38) rfl rfl k) ?_
      obtain ⟨cq14, kq14, q14a, q14b, q14c⟩ := isOf hZ e13 E_BEGIN
      obtain ⟨_, _, ⟨T14, L14, k14, n14⟩, -, X14, ⟨Lc14, hQ14, l14, y14, z14⟩, st14⟩ := X13.virtualBack hx (y := (⟨"com/example/tokenweave/tokenweave/service/PieceLayout$Position", "prefix", "()Ljava/lang/String;"⟩ : MethodName)) (z := (⟨"com/example/tokenweave/tokenweave/service/PieceLayout$Position", "prefix", "()Ljava/lang/String;"⟩ : MethodName)) hown (mvT hZ (hw _ (List.mem_of_getElem? (i := 6) rfl))) (mvT hZ (hw _ (List.mem_of_getElem? (i := 7) rfl))) (notFace_of_selects (args := #[]) (mvT hZ (hw _ (List.mem_of_getElem? (i := 9) rfl)))) (mvT hZ (hw _ (List.mem_of_getElem? (i := 9) rfl))) (mvT hZ (hw _ (List.mem_of_getElem? (i := 8) rfl))) (by decide) (backOf (W := 0) (own_rPf l Z a0 hw [] a_BEGIN a_BEGIN_prefix h0 n0 Z0 F_BEGIN_prefix) hZ (hw _ (List.mem_of_getElem? (i := 10) rfl)) (hw _ (List.mem_of_getElem? (i := 2) rfl)) (by decide) (by decide)) q14a q14c (g := (mkF m 40 #[.val (.int xa), .val (.int xb), .val (.int (1 : Int32)), .val (.int (0 : Int32)), .val (.ref a_BEGIN), .unset, .unset] [(.ref a_BEGIN)])) rfl (by rw [hml]; rfl) (Steps.refl _) (argsL := []) (rest := []) (lenOf own_pd6 rfl) rfl (by show 2 * 0 + _ ≤ _; exact Nat.le_of_eq rfl) (hb hby at_40) (fun _ _ => ⟨rfl, e13, (by decide : 0 + 0 ≤ _), (by decide : 0 + 0 ≤ _)⟩)
      dsimp only [Pt.U, Pt.locs, Pt.cells, Pt.slots] at X14 l14 y14 z14 st14 hQ14
      subst l14 y14 z14
      obtain ⟨rfl, N14q, e14⟩ := hQ14
      have N14 := Fr.app N13 N14q
      refine own_goT (T' := T14) (g' := (mkF m 43 #[.val (.int xa), .val (.int xb), .val (.int (1 : Int32)), .val (.int (0 : Int32)), .val (.ref a_BEGIN), .unset, .unset] [(.ref a_BEGIN_prefix)])) st14 ?_
      refine own_go (T' := T14) (g' := (mkF m 45 #[.val (.int xa), .val (.int xb), .val (.int (1 : Int32)), .val (.int (0 : Int32)), .val (.ref a_BEGIN), .val (.ref a_BEGIN_prefix), .unset] [])) (fun _ k => XS.astore X14.here hx rfl (hb hby at_43) rfl rfl (l' := #[.val (.int xa), .val (.int xb), .val (.int (1 : Int32)), .val (.int (0 : Int32)), .val (.ref a_BEGIN), .val (.ref a_BEGIN_prefix), .unset]) rfl k) ?_
      refine own_go (T' := T14) (g' := (mkF m 46 #[.val (.int xa), .val (.int xb), .val (.int (1 : Int32)), .val (.int (0 : Int32)), .val (.ref a_BEGIN), .val (.ref a_BEGIN_prefix), .unset] [(.int (1 : Int32))])) (fun _ k => XS.iloadN X14.here hx rfl (hb hby at_45) rfl k) ?_
      refine own_go (T' := T14) (g' := (mkF m 49 #[.val (.int xa), .val (.int xb), .val (.int (1 : Int32)), .val (.int (0 : Int32)), .val (.ref a_BEGIN), .val (.ref a_BEGIN_prefix), .unset] [])) (fun _ k => XS.ifNo X14.here hx rfl (hb hby at_46) rfl ((if0 _ _).trans (feq ((by decide) : ¬ ((1 : Int32) = (0 : Int32)))).1) k) ?_
      refine own_go (T' := T14) (g' := (mkF m 50 #[.val (.int xa), .val (.int xb), .val (.int (1 : Int32)), .val (.int (0 : Int32)), .val (.ref a_BEGIN), .val (.ref a_BEGIN_prefix), .unset] [(.int (0 : Int32))])) (fun _ k => XS.iloadN X14.here hx rfl (hb hby at_49) rfl k) ?_
      refine own_go (T' := T14) (g' := (mkF m 75 #[.val (.int xa), .val (.int xb), .val (.int (1 : Int32)), .val (.int (0 : Int32)), .val (.ref a_BEGIN), .val (.ref a_BEGIN_prefix), .unset] [])) (fun _ k => XS.ifYes X14.here hx rfl (pc0 := 50) (pc' := 75) rfl (hb hby at_50) rfl ((if0 _ _).trans (teq ((by decide) : (0 : Int32) = (0 : Int32))).1) (by decide) (by decide) k) ?_
      refine own_go (T' := T14) (g' := (mkF m 77 #[.val (.int xa), .val (.int xb), .val (.int (1 : Int32)), .val (.int (0 : Int32)), .val (.ref a_BEGIN), .val (.ref a_BEGIN_prefix), .unset] [(.ref a_BEGIN_prefix)])) (fun _ k => XS.aload X14.here hx rfl (hb hby at_75) rfl rfl k) ?_
      obtain ⟨cq15, kq15, q15a, q15b, q15c⟩ := isOf hZ e14 E_BEGIN_prefix
      obtain ⟨_, _, ⟨T15, L15, k15, n15⟩, -, X15, ⟨Lc15, hQ15, l15, y15, z15⟩, st15⟩ := X14.virtualBack hx (y := (⟨"java/lang/String", "length", "()I"⟩ : MethodName)) (z := (⟨"java/lang/String", "length", "()I"⟩ : MethodName)) hown (mvT hZ (hw _ (List.mem_of_getElem? (i := 13) rfl))) (mvT hZ (hw _ (List.mem_of_getElem? (i := 14) rfl))) (notFace_of_selects (args := #[]) (mvT hZ (hw _ (List.mem_of_getElem? (i := 16) rfl)))) (mvT hZ (hw _ (List.mem_of_getElem? (i := 16) rfl))) (mvT hZ (hw _ (List.mem_of_getElem? (i := 15) rfl))) (by decide) (backOf (W := 0) (own_rLen l Z a0 hw [] a_BEGIN_prefix xc a_BEGIN_prefix_value k_BEGIN_prefix_value (66 : Int32) (45 : Int32) h0 n0 Z0 SC hcz F_BEGIN_prefix_coder F_BEGIN_prefix_value E_BEGIN_prefix A_BEGIN_prefix_value) hZ (hw _ (List.mem_of_getElem? (i := 18) rfl)) (hw _ (List.mem_of_getElem? (i := 17) rfl)) (by decide) (by decide)) q15a q15c (g := (mkF m 77 #[.val (.int xa), .val (.int xb), .val (.int (1 : Int32)), .val (.int (0 : Int32)), .val (.ref a_BEGIN), .val (.ref a_BEGIN_prefix), .unset] [(.ref a_BEGIN_prefix)])) rfl (by rw [hml]; rfl) (Steps.refl _) (argsL := []) (rest := []) (lenOf own_pd7 rfl) rfl (by show 2 * 0 + _ ≤ _; exact Nat.le_of_eq rfl) (hb hby at_77) (fun _ _ => ⟨rfl, e14, (by decide : 0 + 0 ≤ _), (by decide : 0 + 0 ≤ _)⟩)
      dsimp only [Pt.U, Pt.locs, Pt.cells, Pt.slots] at X15 l15 y15 z15 st15 hQ15
      subst l15 y15 z15
      obtain ⟨rfl, N15q, e15⟩ := hQ15
      have N15 := Fr.app N14 N15q
      refine own_goT (T' := T15) (g' := (mkF m 80 #[.val (.int xa), .val (.int xb), .val (.int (1 : Int32)), .val (.int (0 : Int32)), .val (.ref a_BEGIN), .val (.ref a_BEGIN_prefix), .unset] [(.int (2 : Int32))])) st15 ?_
      refine own_go (T' := T15) (g' := (mkF m 81 #[.val (.int xa), .val (.int xb), .val (.int (1 : Int32)), .val (.int (0 : Int32)), .val (.ref a_BEGIN), .val (.ref a_BEGIN_prefix), .unset] [(.int (2 : Int32)), (.int (2 : Int32))])) (fun _ k => XS.iconst X15.here hx rfl (hb hby at_80) k) ?_
      refine own_go (T' := T15) (g' := (mkF m 84 #[.val (.int xa), .val (.int xb), .val (.int (1 : Int32)), .val (.int (0 : Int32)), .val (.ref a_BEGIN), .val (.ref a_BEGIN_prefix), .unset] [])) (fun _ k => XS.icmpNo X15.here hx rfl (hb hby at_81) rfl (teq ((by decide) : (2 : Int32) = (2 : Int32))).2 k) ?_
      refine own_go (T' := T15) (g' := (mkF m 86 #[.val (.int xa), .val (.int xb), .val (.int (1 : Int32)), .val (.int (0 : Int32)), .val (.ref a_BEGIN), .val (.ref a_BEGIN_prefix), .unset] [(.ref a_BEGIN_prefix)])) (fun _ k => XS.aload X15.here hx rfl (hb hby at_84) rfl rfl k) ?_
      refine own_go (T' := T15) (g' := (mkF m 87 #[.val (.int xa), .val (.int xb), .val (.int (1 : Int32)), .val (.int (0 : Int32)), .val (.ref a_BEGIN), .val (.ref a_BEGIN_prefix), .unset] [(.int (1 : Int32)), (.ref a_BEGIN_prefix)])) (fun _ k => XS.iconst X15.here hx rfl (hb hby at_86) k) ?_
      obtain ⟨cq16, kq16, q16a, q16b, q16c⟩ := isOf hZ e15 E_BEGIN_prefix
      obtain ⟨_, _, ⟨T16, L16, k16, n16⟩, -, X16, ⟨Lc16, hQ16, l16, y16, z16⟩, st16⟩ := X15.virtualBack hx (y := (⟨"java/lang/String", "charAt", "(I)C"⟩ : MethodName)) (z := (⟨"java/lang/String", "charAt", "(I)C"⟩ : MethodName)) hown (mvT hZ (hw _ (List.mem_of_getElem? (i := 29) rfl))) (mvT hZ (hw _ (List.mem_of_getElem? (i := 30) rfl))) (notFace_of_selects (args := #[]) (mvT hZ (hw _ (List.mem_of_getElem? (i := 32) rfl)))) (mvT hZ (hw _ (List.mem_of_getElem? (i := 32) rfl))) (mvT hZ (hw _ (List.mem_of_getElem? (i := 31) rfl))) (by decide) (backOf (W := 0) (own_rCh1 l Z a0 hw [] a_BEGIN_prefix xc a_BEGIN_prefix_value k_BEGIN_prefix_value (66 : Int32) (45 : Int32) xv h0 n0 Z0 SC hcz F_BEGIN_prefix_coder F_BEGIN_prefix_value E_BEGIN_prefix SF hvr A_BEGIN_prefix_value) hZ (hw _ (List.mem_of_getElem? (i := 33) rfl)) (hw _ (List.mem_of_getElem? (i := 17) rfl)) (by decide) (by decide)) q16a q16c (g := (mkF m 87 #[.val (.int xa), .val (.int xb), .val (.int (1 : Int32)), .val (.int (0 : Int32)), .val (.ref a_BEGIN), .val (.ref a_BEGIN_prefix), .unset] [(.int (1 : Int32)), (.ref a_BEGIN_prefix)])) rfl (by rw [hml]; rfl) (Steps.refl _) (argsL := [(.int (1 : Int32))]) (rest := []) (lenOf own_pd8 rfl) rfl (by show 2 * 0 + _ ≤ _; exact Nat.le_of_eq rfl) (hb hby at_87) (fun _ _ => ⟨rfl, e15, (by decide : 0 + 0 ≤ _), (by decide : 0 + 0 ≤ _)⟩)
      dsimp only [Pt.U, Pt.locs, Pt.cells, Pt.slots] at X16 l16 y16 z16 st16 hQ16
      subst l16 y16 z16
      obtain ⟨rfl, N16q, e16⟩ := hQ16
      have N16 := Fr.app N15 N16q
      refine own_goT (T' := T16) (g' := (mkF m 90 #[.val (.int xa), .val (.int xb), .val (.int (1 : Int32)), .val (.int (0 : Int32)), .val (.ref a_BEGIN), .val (.ref a_BEGIN_prefix), .unset] [(.int (nar .char (own_ch (45 : Int32))))])) st16 ?_
      refine own_go (T' := T16) (g' := (mkF m 92 #[.val (.int xa), .val (.int xb), .val (.int (1 : Int32)), .val (.int (0 : Int32)), .val (.ref a_BEGIN), .val (.ref a_BEGIN_prefix), .unset] [(.int (45 : Int32)), (.int (nar .char (own_ch (45 : Int32))))])) (fun _ k => XS.bipush X16.here hx rfl (hb hby at_90) k) ?_
      refine own_go (T' := T16) (g' := (mkF m 97 #[.val (.int xa), .val (.int xb), .val (.int (1 : Int32)), .val (.int (0 : Int32)), .val (.ref a_BEGIN), .val (.ref a_BEGIN_prefix), .unset] [])) (fun _ k => XS.icmpYes X16.here hx rfl (pc0 := 92) (pc' := 97) rfl (hb hby at_92) rfl (teq ((by decide) : (nar .char (own_ch (45 : Int32))) = (45 : Int32))).1 (by decide) (by decide) k) ?_
      refine own_go (T' := T16) (g' := (mkF m 99 #[.val (.int xa), .val (.int xb), .val (.int (1 : Int32)), .val (.int (0 : Int32)), .val (.ref a_BEGIN), .val (.ref a_BEGIN_prefix), .unset] [(.ref a_BEGIN_prefix)])) (fun _ k => XS.aload X16.here hx rfl (hb hby at_97) rfl rfl k) ?_
      refine own_go (T' := T16) (g' := (mkF m 100 #[.val (.int xa), .val (.int xb), .val (.int (1 : Int32)), .val (.int (0 : Int32)), .val (.ref a_BEGIN), .val (.ref a_BEGIN_prefix), .unset] [(.int (0 : Int32)), (.ref a_BEGIN_prefix)])) (fun _ k => XS.iconst X16.here hx rfl (hb hby at_99) k) ?_
      obtain ⟨cq17, kq17, q17a, q17b, q17c⟩ := isOf hZ e16 E_BEGIN_prefix
      obtain ⟨_, _, ⟨T17, L17, k17, n17⟩, -, X17, ⟨Lc17, hQ17, l17, y17, z17⟩, st17⟩ := X16.virtualBack hx (y := (⟨"java/lang/String", "charAt", "(I)C"⟩ : MethodName)) (z := (⟨"java/lang/String", "charAt", "(I)C"⟩ : MethodName)) hown (mvT hZ (hw _ (List.mem_of_getElem? (i := 29) rfl))) (mvT hZ (hw _ (List.mem_of_getElem? (i := 30) rfl))) (notFace_of_selects (args := #[]) (mvT hZ (hw _ (List.mem_of_getElem? (i := 32) rfl)))) (mvT hZ (hw _ (List.mem_of_getElem? (i := 32) rfl))) (mvT hZ (hw _ (List.mem_of_getElem? (i := 31) rfl))) (by decide) (backOf (W := 0) (own_rCh0 l Z a0 hw [] a_BEGIN_prefix xc a_BEGIN_prefix_value k_BEGIN_prefix_value (66 : Int32) (45 : Int32) xv h0 n0 Z0 SC hcz F_BEGIN_prefix_coder F_BEGIN_prefix_value E_BEGIN_prefix SF hvr A_BEGIN_prefix_value) hZ (hw _ (List.mem_of_getElem? (i := 33) rfl)) (hw _ (List.mem_of_getElem? (i := 17) rfl)) (by decide) (by decide)) q17a q17c (g := (mkF m 100 #[.val (.int xa), .val (.int xb), .val (.int (1 : Int32)), .val (.int (0 : Int32)), .val (.ref a_BEGIN), .val (.ref a_BEGIN_prefix), .unset] [(.int (0 : Int32)), (.ref a_BEGIN_prefix)])) rfl (by rw [hml]; rfl) (Steps.refl _) (argsL := [(.int (0 : Int32))]) (rest := []) (lenOf own_pd8 rfl) rfl (by show 2 * 0 + _ ≤ _; exact Nat.le_of_eq rfl) (hb hby at_100) (fun _ _ => ⟨rfl, e16, (by decide : 0 + 0 ≤ _), (by decide : 0 + 0 ≤ _)⟩)
      dsimp only [Pt.U, Pt.locs, Pt.cells, Pt.slots] at X17 l17 y17 z17 st17 hQ17
      subst l17 y17 z17
      obtain ⟨rfl, N17q, e17⟩ := hQ17
      have N17 := Fr.app N16 N17q
      refine own_goT (T' := T17) (g' := (mkF m 103 #[.val (.int xa), .val (.int xb), .val (.int (1 : Int32)), .val (.int (0 : Int32)), .val (.ref a_BEGIN), .val (.ref a_BEGIN_prefix), .unset] [(.int (nar .char (own_ch (66 : Int32))))])) st17 ?_
      refine own_go (T' := T17) (g' := (mkF m 105 #[.val (.int xa), .val (.int xb), .val (.int (1 : Int32)), .val (.int (0 : Int32)), .val (.ref a_BEGIN), .val (.ref a_BEGIN_prefix), .val (.int (nar .char (own_ch (66 : Int32))))] [])) (fun _ k => XS.istore X17.here hx rfl (hb hby at_103) rfl (l' := #[.val (.int xa), .val (.int xb), .val (.int (1 : Int32)), .val (.int (0 : Int32)), .val (.ref a_BEGIN), .val (.ref a_BEGIN_prefix), .val (.int (nar .char (own_ch (66 : Int32))))]) rfl k) ?_
      refine own_go (T' := T17) (g' := (mkF m 106 #[.val (.int xa), .val (.int xb), .val (.int (1 : Int32)), .val (.int (0 : Int32)), .val (.ref a_BEGIN), .val (.ref a_BEGIN_prefix), .val (.int (nar .char (own_ch (66 : Int32))))] [(.int (1 : Int32))])) (fun _ k => XS.iloadN X17.here hx rfl (hb hby at_105) rfl k) ?_
      refine own_go (T' := T17) (g' := (mkF m 109 #[.val (.int xa), .val (.int xb), .val (.int (1 : Int32)), .val (.int (0 : Int32)), .val (.ref a_BEGIN), .val (.ref a_BEGIN_prefix), .val (.int (nar .char (own_ch (66 : Int32))))] [])) (fun _ k => XS.ifNo X17.here hx rfl (hb hby at_106) rfl ((if0 _ _).trans (feq ((by decide) : ¬ ((1 : Int32) = (0 : Int32)))).1) k) ?_
      refine own_go (T' := T17) (g' := (mkF m 111 #[.val (.int xa), .val (.int xb), .val (.int (1 : Int32)), .val (.int (0 : Int32)), .val (.ref a_BEGIN), .val (.ref a_BEGIN_prefix), .val (.int (nar .char (own_ch (66 : Int32))))] [(.ref a_BEGIN)])) (fun _ k => XS.aload X17.here hx rfl (hb hby at_109) rfl rfl k) ?_
      obtain ⟨T18, X18, e18, st18⟩ := getS X17 hx hZ (host := "") hown (hw _ (List.mem_of_getElem? (i := 65) rfl)) Via.refl e17 S_BEGIN (g := (mkF m 111 #[.val (.int xa), .val (.int xb), .val (.int (1 : Int32)), .val (.int (0 : Int32)), .val (.ref a_BEGIN), .val (.ref a_BEGIN_prefix), .val (.int (nar .char (own_ch (66 : Int32))))] [(.ref a_BEGIN)])) rfl (hb hby at_111)
      refine own_go (T' := T18) (g' := (mkF m 114 #[.val (.int xa), .val (.int xb), .val (.int (1 : Int32)), .val (.int (0 : Int32)), .val (.ref a_BEGIN), .val (.ref a_BEGIN_prefix), .val (.int (nar .char (own_ch (66 : Int32))))] [(.ref a_BEGIN), (.ref a_BEGIN)])) (fun _ k => st18 _ k) ?_
      refine own_go (T' := T18) (g' := (mkF m 117 #[.val (.int xa), .val (.int xb), .val (.int (1 : Int32)), .val (.int (0 : Int32)), .val (.ref a_BEGIN), .val (.ref a_BEGIN_prefix), .val (.int (nar .char (own_ch (66 : Int32))))] [])) (fun _ k => Jvm.RoadKit.acmp (g := (mkF m 114 #[.val (.int xa), .val (.int xb), .val (.int (1 : Int32)), .val (.int (0 : Int32)), .val (.ref a_BEGIN), .val (.ref a_BEGIN_prefix), .val (.int (nar .char (own_ch (66 : Int32))))] [(.ref a_BEGIN), (.ref a_BEGIN)])) X18 hx rfl rfl rfl (pc0 := 114) (pc' := 117) (same := true) rfl (hb hby at_114) rfl (decide_eq_true rfl) (by decide) (by decide) k) ?_
      refine own_go (T' := T18) (g' := (mkF m 119 #[.val (.int xa), .val (.int xb), .val (.int (1 : Int32)), .val (.int (0 : Int32)), .val (.ref a_BEGIN), .val (.ref a_BEGIN_prefix), .val (.int (nar .char (own_ch (66 : Int32))))] [(.int (nar .char (own_ch (66 : Int32))))])) (fun _ k => XS.iload X18.here hx rfl (hb hby at_117) rfl k) ?_
      refine own_go (T' := T18) (g' := (mkF m 121 #[.val (.int xa), .val (.int xb), .val (.int (1 : Int32)), .val (.int (0 : Int32)), .val (.ref a_BEGIN), .val (.ref a_BEGIN_prefix), .val (.int (nar .char (own_ch (66 : Int32))))] [(.int (66 : Int32)), (.int (nar .char (own_ch (66 : Int32))))])) (fun _ k => XS.bipush X18.here hx rfl (hb hby at_119) k) ?_
      refine own_go (T' := T18) (g' := (mkF m 124 #[.val (.int xa), .val (.int xb), .val (.int (1 : Int32)), .val (.int (0 : Int32)), .val (.ref a_BEGIN), .val (.ref a_BEGIN_prefix), .val (.int (nar .char (own_ch (66 : Int32))))] [])) (fun _ k => XS.icmpNo X18.here hx rfl (hb hby at_121) rfl (teq ((by decide) : (nar .char (own_ch (66 : Int32))) = (66 : Int32))).2 k) ?_
      refine own_go (T' := T18) (g' := (mkF m 125 #[.val (.int xa), .val (.int xb), .val (.int (1 : Int32)), .val (.int (0 : Int32)), .val (.ref a_BEGIN), .val (.ref a_BEGIN_prefix), .val (.int (nar .char (own_ch (66 : Int32))))] [(.int (1 : Int32))])) (fun _ k => XS.iconst X18.here hx rfl (hb hby at_124) k) ?_
      refine own_go (T' := T18) (g' := (mkF m 129 #[.val (.int xa), .val (.int xb), .val (.int (1 : Int32)), .val (.int (0 : Int32)), .val (.ref a_BEGIN), .val (.ref a_BEGIN_prefix), .val (.int (nar .char (own_ch (66 : Int32))))] [(.int (1 : Int32))])) (fun _ k => XS.goto X18.here hx rfl (pc0 := 125) (pc' := 129) rfl (hb hby at_125) (by decide) (by decide) k) ?_
      obtain ⟨fs, hr, hrun, hended, hW, hsame⟩ := X18.leave (v := some (.int (1 : Int32))) (fun h => by rw [Bd.returns] at h; cases h)
      refine own_end (retN X18 hx (t := .boolean) Bd.returns (by simp) (hb hby at_129) hr) hrun hended ⟨_, _, rfl, (?_ : own_QL Z xa xb a_END a_END_prefix a_END_prefix_value a_INSIDE a_INSIDE_prefix a_INSIDE_prefix_value a_WHOLE a_WHOLE_prefix a_WHOLE_prefix_value a_BEGIN a_BEGIN_prefix a_BEGIN_prefix_value k_END_prefix_value k_INSIDE_prefix_value k_WHOLE_prefix_value k_BEGIN_prefix_value xc xv h0 n0 _ T18.heap _), ⟨_, rfl⟩, hW, hsame.mono (by decide) (by decide)⟩
      rw [e18]
      exact ⟨rfl, N17⟩
    · refine own_go (T' := s₁) (g' := (mkF m 18 #[.val (.int xa), .val (.int xb), .val (.int (1 : Int32)), .unset, .unset, .unset, .unset] [])) (fun _ k => XS.ifNo X0.here hx rfl (hb hby at_15) rfl ((if0 _ _).trans (feq (hc15 : ¬ ((xb &&& (1 : Int32)) = (0 : Int32)))).1) k) ?_
      refine own_go (T' := s₁) (g' := (mkF m 19 #[.val (.int xa), .val (.int xb), .val (.int (1 : Int32)), .unset, .unset, .unset, .unset] [(.int (1 : Int32))])) (fun _ k => XS.iconst X0.here hx rfl (hb hby at_18) k) ?_
      refine own_go (T' := s₁) (g' := (mkF m 23 #[.val (.int xa), .val (.int xb), .val (.int (1 : Int32)), .unset, .unset, .unset, .unset] [(.int (1 : Int32))])) (fun _ k => XS.goto X0.here hx rfl (pc0 := 19) (pc' := 23) rfl (hb hby at_19) (by decide) (by decide) k) ?_
      refine own_go (T' := s₁) (g' := (mkF m 24 #[.val (.int xa), .val (.int xb), .val (.int (1 : Int32)), .val (.int (1 : Int32)), .unset, .unset, .unset] [])) (fun _ k => XS.istoreN X0.here hx rfl (hb hby at_23) rfl (l' := #[.val (.int xa), .val (.int xb), .val (.int (1 : Int32)), .val (.int (1 : Int32)), .unset, .unset, .unset]) rfl k) ?_
      refine own_go (T' := s₁) (g' := (mkF m 25 #[.val (.int xa), .val (.int xb), .val (.int (1 : Int32)), .val (.int (1 : Int32)), .unset, .unset, .unset] [(.int (1 : Int32))])) (fun _ k => XS.iloadN X0.here hx rfl (hb hby at_24) rfl k) ?_
      refine own_go (T' := s₁) (g' := (mkF m 26 #[.val (.int xa), .val (.int xb), .val (.int (1 : Int32)), .val (.int (1 : Int32)), .unset, .unset, .unset] [(.int (1 : Int32)), (.int (1 : Int32))])) (fun _ k => XS.iloadN X0.here hx rfl (hb hby at_25) rfl k) ?_
      obtain ⟨_, _, ⟨T19, L19, k19, n19⟩, -, X19, ⟨Lc19, hQ19, l19, y19, z19⟩, st19⟩ := Jvm.LawKit.callS X0 hx (y := (⟨"com/example/tokenweave/tokenweave/service/PieceLayout$Position", "of", "(ZZ)Lcom/example/tokenweave/tokenweave/service/PieceLayout$Position;"⟩ : MethodName)) hown (mvT hZ (hw _ (List.mem_of_getElem? (i := 0) rfl))) (mvT hZ (hw _ (List.mem_of_getElem? (i := 1) rfl))) (mvT hZ (hw _ (List.mem_of_getElem? (i := 2) rfl))) (mvT hZ (hw _ (List.mem_of_getElem? (i := 3) rfl))) (by decide) (backOf (W := 0) (own_rOf11 l Z a0 hw [] a_WHOLE h0 n0 Z0 S_WHOLE) hZ (hw _ (List.mem_of_getElem? (i := 3) rfl)) (hw _ (List.mem_of_getElem? (i := 2) rfl)) (by decide) (by decide)) (g := (mkF m 26 #[.val (.int xa), .val (.int xb), .val (.int (1 : Int32)), .val (.int (1 : Int32)), .unset, .unset, .unset] [(.int (1 : Int32)), (.int (1 : Int32))])) rfl (by rw [hml]; rfl) (argsL := [(.int (1 : Int32)), (.int (1 : Int32))]) (rest := []) (lenOf own_pd5 rfl) rfl (by show 2 * 0 + _ ≤ _; exact Nat.le_of_eq rfl) (hb hby at_26) (fun _ _ => ⟨rfl, e0, (by decide : 0 + 0 ≤ _), (by decide : 0 + 0 ≤ _)⟩)
      dsimp only [Pt.U, Pt.locs, Pt.cells, Pt.slots] at X19 l19 y19 z19 st19 hQ19
      subst l19 y19 z19
      obtain ⟨rfl, N19q, e19⟩ := hQ19
      have N19 := Fr.app N0 N19q
      refine own_go (T' := T19) (g' := (mkF m 29 #[.val (.int xa), .val (.int xb), .val (.int (1 : Int32)), .val (.int (1 : Int32)), .unset, .unset, .unset] [(.ref a_WHOLE)])) (fun _ k => st19 _ k) ?_
      refine own_go (T' := T19) (g' := (mkF m 31 #[.val (.int xa), .val (.int xb), .val (.int (1 : Int32)), .val (.int (1 : Int32)), .val (.ref a_WHOLE), .unset, .unset] [])) (fun _ k => XS.astore X19.here hx rfl (hb hby at_29) rfl rfl (l' := #[.val (.int xa), .val (.int xb), .val (.int (1 : Int32)), .val (.int (1 : Int32)), .val (.ref a_WHOLE), .unset, .unset]) rfl k) ?_
      refine own_go (T' := T19) (g' := (mkF m 33 #[.val (.int xa), .val (.int xb), .val (.int (1 : Int32)), .val (.int (1 : Int32)), .val (.ref a_WHOLE), .unset, .unset] [(.ref a_WHOLE)])) (fun _ k => XS.aload X19.here hx rfl (hb hby at_31) rfl rfl k) ?_
      refine own_go (T' := T19) (g' := (mkF m 38 #[.val (.int xa), .val (.int xb), .val (.int (1 : Int32)), .val (.int (1 : Int32)), .val (.ref a_WHOLE), .unset, .unset] [])) (fun _ k => XS.ifnonnullYes X19.here hx rfl (pc0 := 33) (pc' := 38) rfl (hb hby at_33) rfl (by decide) (by decide) k) ?_
      refine own_go (T' := T19) (g' := (mkF m 40 #[.val (.int xa), .val (.int xb), .val (.int (1 : Int32)), .val (.int (1 : Int32)), .val (.ref a_WHOLE), .unset, .unset] [(.ref a_WHOLE)])) (fun _ k => XS.aload X19.here hx rfl (hb hby at_38) rfl rfl k) ?_
      obtain ⟨cq20, kq20, q20a, q20b, q20c⟩ := isOf hZ e19 E_WHOLE
      obtain ⟨_, _, ⟨T20, L20, k20, n20⟩, -, X20, ⟨Lc20, hQ20, l20, y20, z20⟩, st20⟩ := X19.virtualBack hx (y := (⟨"com/example/tokenweave/tokenweave/service/PieceLayout$Position", "prefix", "()Ljava/lang/String;"⟩ : MethodName)) (z := (⟨"com/example/tokenweave/tokenweave/service/PieceLayout$Position", "prefix", "()Ljava/lang/String;"⟩ : MethodName)) hown (mvT hZ (hw _ (List.mem_of_getElem? (i := 6) rfl))) (mvT hZ (hw _ (List.mem_of_getElem? (i := 7) rfl))) (notFace_of_selects (args := #[]) (mvT hZ (hw _ (List.mem_of_getElem? (i := 9) rfl)))) (mvT hZ (hw _ (List.mem_of_getElem? (i := 9) rfl))) (mvT hZ (hw _ (List.mem_of_getElem? (i := 8) rfl))) (by decide) (backOf (W := 0) (own_rPf l Z a0 hw [] a_WHOLE a_WHOLE_prefix h0 n0 Z0 F_WHOLE_prefix) hZ (hw _ (List.mem_of_getElem? (i := 10) rfl)) (hw _ (List.mem_of_getElem? (i := 2) rfl)) (by decide) (by decide)) q20a q20c (g := (mkF m 40 #[.val (.int xa), .val (.int xb), .val (.int (1 : Int32)), .val (.int (1 : Int32)), .val (.ref a_WHOLE), .unset, .unset] [(.ref a_WHOLE)])) rfl (by rw [hml]; rfl) (Steps.refl _) (argsL := []) (rest := []) (lenOf own_pd6 rfl) rfl (by show 2 * 0 + _ ≤ _; exact Nat.le_of_eq rfl) (hb hby at_40) (fun _ _ => ⟨rfl, e19, (by decide : 0 + 0 ≤ _), (by decide : 0 + 0 ≤ _)⟩)
      dsimp only [Pt.U, Pt.locs, Pt.cells, Pt.slots] at X20 l20 y20 z20 st20 hQ20
      subst l20 y20 z20
      obtain ⟨rfl, N20q, e20⟩ := hQ20
      have N20 := Fr.app N19 N20q
      refine own_goT (T' := T20) (g' := (mkF m 43 #[.val (.int xa), .val (.int xb), .val (.int (1 : Int32)), .val (.int (1 : Int32)), .val (.ref a_WHOLE), .unset, .unset] [(.ref a_WHOLE_prefix)])) st20 ?_
      refine own_go (T' := T20) (g' := (mkF m 45 #[.val (.int xa), .val (.int xb), .val (.int (1 : Int32)), .val (.int (1 : Int32)), .val (.ref a_WHOLE), .val (.ref a_WHOLE_prefix), .unset] [])) (fun _ k => XS.astore X20.here hx rfl (hb hby at_43) rfl rfl (l' := #[.val (.int xa), .val (.int xb), .val (.int (1 : Int32)), .val (.int (1 : Int32)), .val (.ref a_WHOLE), .val (.ref a_WHOLE_prefix), .unset]) rfl k) ?_
      refine own_go (T' := T20) (g' := (mkF m 46 #[.val (.int xa), .val (.int xb), .val (.int (1 : Int32)), .val (.int (1 : Int32)), .val (.ref a_WHOLE), .val (.ref a_WHOLE_prefix), .unset] [(.int (1 : Int32))])) (fun _ k => XS.iloadN X20.here hx rfl (hb hby at_45) rfl k) ?_
      refine own_go (T' := T20) (g' := (mkF m 49 #[.val (.int xa), .val (.int xb), .val (.int (1 : Int32)), .val (.int (1 : Int32)), .val (.ref a_WHOLE), .val (.ref a_WHOLE_prefix), .unset] [])) (fun _ k => XS.ifNo X20.here hx rfl (hb hby at_46) rfl ((if0 _ _).trans (feq ((by decide) : ¬ ((1 : Int32) = (0 : Int32)))).1) k) ?_
      refine own_go (T' := T20) (g' := (mkF m 50 #[.val (.int xa), .val (.int xb), .val (.int (1 : Int32)), .val (.int (1 : Int32)), .val (.ref a_WHOLE), .val (.ref a_WHOLE_prefix), .unset] [(.int (1 : Int32))])) (fun _ k => XS.iloadN X20.here hx rfl (hb hby at_49) rfl k) ?_
      refine own_go (T' := T20) (g' := (mkF m 53 #[.val (.int xa), .val (.int xb), .val (.int (1 : Int32)), .val (.int (1 : Int32)), .val (.ref a_WHOLE), .val (.ref a_WHOLE_prefix), .unset] [])) (fun _ k => XS.ifNo X20.here hx rfl (hb hby at_50) rfl ((if0 _ _).trans (feq ((by decide) : ¬ ((1 : Int32) = (0 : Int32)))).1) k) ?_
      refine own_go (T' := T20) (g' := (mkF m 55 #[.val (.int xa), .val (.int xb), .val (.int (1 : Int32)), .val (.int (1 : Int32)), .val (.ref a_WHOLE), .val (.ref a_WHOLE_prefix), .unset] [(.ref a_WHOLE)])) (fun _ k => XS.aload X20.here hx rfl (hb hby at_53) rfl rfl k) ?_
      obtain ⟨T21, X21, e21, st21⟩ := getS X20 hx hZ (host := "") hown (hw _ (List.mem_of_getElem? (i := 57) rfl)) Via.refl e20 S_WHOLE (g := (mkF m 55 #[.val (.int xa), .val (.int xb), .val (.int (1 : Int32)), .val (.int (1 : Int32)), .val (.ref a_WHOLE), .val (.ref a_WHOLE_prefix), .unset] [(.ref a_WHOLE)])) rfl (hb hby at_55)
      refine own_go (T' := T21) (g' := (mkF m 58 #[.val (.int xa), .val (.int xb), .val (.int (1 : Int32)), .val (.int (1 : Int32)), .val (.ref a_WHOLE), .val (.ref a_WHOLE_prefix), .unset] [(.ref a_WHOLE), (.ref a_WHOLE)])) (fun _ k => st21 _ k) ?_
      refine own_go (T' := T21) (g' := (mkF m 61 #[.val (.int xa), .val (.int xb), .val (.int (1 : Int32)), .val (.int (1 : Int32)), .val (.ref a_WHOLE), .val (.ref a_WHOLE_prefix), .unset] [])) (fun _ k => Jvm.RoadKit.acmp (g := (mkF m 58 #[.val (.int xa), .val (.int xb), .val (.int (1 : Int32)), .val (.int (1 : Int32)), .val (.ref a_WHOLE), .val (.ref a_WHOLE_prefix), .unset] [(.ref a_WHOLE), (.ref a_WHOLE)])) X21 hx rfl rfl rfl (pc0 := 58) (pc' := 61) (same := true) rfl (hb hby at_58) rfl (decide_eq_true rfl) (by decide) (by decide) k) ?_
      refine own_go (T' := T21) (g' := (mkF m 63 #[.val (.int xa), .val (.int xb), .val (.int (1 : Int32)), .val (.int (1 : Int32)), .val (.ref a_WHOLE), .val (.ref a_WHOLE_prefix), .unset] [(.ref a_WHOLE_prefix)])) (fun _ k => XS.aload X21.here hx rfl (hb hby at_61) rfl rfl k) ?_
      obtain ⟨cq22, kq22, q22a, q22b, q22c⟩ := isOf hZ e21 E_WHOLE_prefix
      obtain ⟨_, _, ⟨T22, L22, k22, n22⟩, -, X22, ⟨Lc22, hQ22, l22, y22, z22⟩, st22⟩ := X21.virtualBack hx (y := (⟨"java/lang/String", "isEmpty", "()Z"⟩ : MethodName)) (z := (⟨"java/lang/String", "isEmpty", "()Z"⟩ : MethodName)) hown (mvT hZ (hw _ (List.mem_of_getElem? (i := 58) rfl))) (mvT hZ (hw _ (List.mem_of_getElem? (i := 59) rfl))) (notFace_of_selects (args := #[]) (mvT hZ (hw _ (List.mem_of_getElem? (i := 61) rfl)))) (mvT hZ (hw _ (List.mem_of_getElem? (i := 61) rfl))) (mvT hZ (hw _ (List.mem_of_getElem? (i := 60) rfl))) (by decide) (backOf (W := 0) (own_rEmp l Z a0 hw [] a_WHOLE_prefix a_WHOLE_prefix_value k_WHOLE_prefix_value h0 n0 Z0 F_WHOLE_prefix_value A_WHOLE_prefix_value) hZ (hw _ (List.mem_of_getElem? (i := 62) rfl)) (hw _ (List.mem_of_getElem? (i := 17) rfl)) (by decide) (by decide)) q22a q22c (g := (mkF m 63 #[.val (.int xa), .val (.int xb), .val (.int (1 : Int32)), .val (.int (1 : Int32)), .val (.ref a_WHOLE), .val (.ref a_WHOLE_prefix), .unset] [(.ref a_WHOLE_prefix)])) rfl (by rw [hml]; rfl) (Steps.refl _) (argsL := []) (rest := []) (lenOf own_pd3 rfl) rfl (by show 2 * 0 + _ ≤ _; exact Nat.le_of_eq rfl) (hb hby at_63) (fun _ _ => ⟨rfl, e21, (by decide : 0 + 0 ≤ _), (by decide : 0 + 0 ≤ _)⟩)
      dsimp only [Pt.U, Pt.locs, Pt.cells, Pt.slots] at X22 l22 y22 z22 st22 hQ22
      subst l22 y22 z22
      obtain ⟨rfl, N22q, e22⟩ := hQ22
      have N22 := Fr.app N20 N22q
      refine own_goT (T' := T22) (g' := (mkF m 66 #[.val (.int xa), .val (.int xb), .val (.int (1 : Int32)), .val (.int (1 : Int32)), .val (.ref a_WHOLE), .val (.ref a_WHOLE_prefix), .unset] [(.int (1 : Int32))])) st22 ?_
      refine own_go (T' := T22) (g' := (mkF m 69 #[.val (.int xa), .val (.int xb), .val (.int (1 : Int32)), .val (.int (1 : Int32)), .val (.ref a_WHOLE), .val (.ref a_WHOLE_prefix), .unset] [])) (fun _ k => XS.ifNo X22.here hx rfl (hb hby at_66) rfl ((if0 _ _).trans (feq ((by decide) : ¬ ((1 : Int32) = (0 : Int32)))).1) k) ?_
      refine own_go (T' := T22) (g' := (mkF m 70 #[.val (.int xa), .val (.int xb), .val (.int (1 : Int32)), .val (.int (1 : Int32)), .val (.ref a_WHOLE), .val (.ref a_WHOLE_prefix), .unset] [(.int (1 : Int32))])) (fun _ k => XS.iconst X22.here hx rfl (hb hby at_69) k) ?_
      refine own_go (T' := T22) (g' := (mkF m 74 #[.val (.int xa), .val (.int xb), .val (.int (1 : Int32)), .val (.int (1 : Int32)), .val (.ref a_WHOLE), .val (.ref a_WHOLE_prefix), .unset] [(.int (1 : Int32))])) (fun _ k => XS.goto X22.here hx rfl (pc0 := 70) (pc' := 74) rfl (hb hby at_70) (by decide) (by decide) k) ?_
      obtain ⟨fs, hr, hrun, hended, hW, hsame⟩ := X22.leave (v := some (.int (1 : Int32))) (fun h => by rw [Bd.returns] at h; cases h)
      refine own_end (retN X22 hx (t := .boolean) Bd.returns (by simp) (hb hby at_74) hr) hrun hended ⟨_, _, rfl, (?_ : own_QL Z xa xb a_END a_END_prefix a_END_prefix_value a_INSIDE a_INSIDE_prefix a_INSIDE_prefix_value a_WHOLE a_WHOLE_prefix a_WHOLE_prefix_value a_BEGIN a_BEGIN_prefix a_BEGIN_prefix_value k_END_prefix_value k_INSIDE_prefix_value k_WHOLE_prefix_value k_BEGIN_prefix_value xc xv h0 n0 _ T22.heap _), ⟨_, rfl⟩, hW, hsame.mono (by decide) (by decide)⟩
      rw [e22]
      exact ⟨rfl, N22⟩
set_option maxRecDepth 65536 in
set_option maxHeartbeats 40000000 in
theorem own_comes {Post : Tables → Env → Array Value → State → Outcome → State → Prop} (hpost : ∀ tb e args s v u, (limb_1_1.after args s (.returned v) u = true ∧ limb_1_2.after args s (.returned v) u = true ∧ True) → FrameEnd s (.returned v) u (Jvm.fieldLocs frame_1_writes args s ++ Jvm.arrayLocs frame_1_arrays args s ++ Jvm.staticLocs frame_1_statics s) 0 0 → Post tb e args s (.returned v) u) :
    ArmFor flags0 classFile x code maxLocals ret World_1 tables_1 room_1 Calls_1 rest_1 Pre_1 Post := by
  intro l hfl _ _ p e ha hc hk s m args below hf hA hF happ hP
  obtain ⟨hcalls, hrest, hpre⟩ := hP
  obtain ⟨-, -, -, hnamed, -, -, -, hat⟩ := (Spec.applies_iff hf).mp happ
  obtain ⟨hg, hn⟩ := and_e (Cond.before_iff.mp (show (Jvm.Cond.and given_1 narrow_1).before args s = true from hpre))
  obtain ⟨gc, g0⟩ := and_e hg
  obtain ⟨ga0, g1⟩ := and_e g0
  obtain ⟨w0, w1, rfl⟩ : ∃ w0 w1 : Value, args = #[w0, w1] := by
    have hs : args.size = 2 := by simpa [Cond.value, given_1] using gc
    obtain ⟨L⟩ := args
    match L, hs with
    | [w0, w1], _ => exact ⟨w0, w1, rfl⟩
  have hw := fun d (hd : d ∈ tables_1) => atoms_spec (ws := Jvm.Cond.code x code maxLocals ret :: tables_1) hat d (List.mem_cons_of_mem _ hd)
  have hfit : Fit s := fun {y c} hc i hi => by
    obtain ⟨ha, rfl⟩ := Array.getElem?_eq_some_iff.mp hc
    have q := List.all_eq_true.mp ((Array.all_eq_true_iff_forall_mem.mp hF) _ (Array.getElem_mem ha)) i (List.mem_range.mpr hi)
    simpa [Array.getElem?_eq_getElem hi] using q
  obtain ⟨i0, ei0⟩ := is_v ga0
  obtain rfl : w0 = (.int i0) := Option.some.inj ei0
  obtain ⟨i1, ei1⟩ := is_v g1
  obtain rfl : w1 = (.int i1) := Option.some.inj ei1
  have hrest' : (jdkStatics_1.foldr Jvm.Cond.and restOwn_1).before #[Value.int i0, Value.int i1] s = true := by rw [← rest_1_c_eq]; exact hrest
  obtain ⟨hsets, -⟩ := atoms_of jdkStatics_1 hrest'
  obtain ⟨k0, z0⟩ := and_e hn
  obtain ⟨a_END, e_END⟩ := exa_v k0
  have S_END : Sta s s.heap "com/example/tokenweave/tokenweave/service/PieceLayout$Position" "END" "Lcom/example/tokenweave/tokenweave/service/PieceLayout$Position;" (.ref a_END) := Sta.start e_END (Or.inr ⟨(hw _ (List.mem_of_getElem? (i := 2) rfl)), (hw _ (List.mem_of_getElem? (i := 5) rfl))⟩)
  have E_END : Exa s s.heap a_END "com/example/tokenweave/tokenweave/service/PieceLayout$Position" := Exa.start e_END k0
  obtain ⟨k1, z1⟩ := and_e z0
  obtain ⟨a_END_prefix, e_END_prefix⟩ := exa_v k1
  have F_END_prefix : Fld s s.heap a_END "com/example/tokenweave/tokenweave/service/PieceLayout$Position" "prefix" "Ljava/lang/String;" (.ref a_END_prefix) := Fld.start ((fld_at e_END).symm.trans e_END_prefix)
  have E_END_prefix : Exa s s.heap a_END_prefix "java/lang/String" := Exa.start e_END_prefix k1
  obtain ⟨k2, z2⟩ := and_e z1
  obtain ⟨a_END_prefix_value, e_END_prefix_value⟩ := arr_v k2
  have F_END_prefix_value : Fld s s.heap a_END_prefix "java/lang/String" "value" "[B" (.ref a_END_prefix_value) := Fld.start ((fld_at e_END_prefix).symm.trans e_END_prefix_value)
  obtain ⟨cl_END_prefix_value, Ar_END_prefix_value⟩ := Arr.start e_END_prefix_value k2
  obtain ⟨k3, z3⟩ := and_e z2
  have L_END_prefix_value := own_len (n := 2) e_END_prefix_value (own_eqi k3) Ar_END_prefix_value rfl
  obtain ⟨k4, z4⟩ := and_e z3
  have e_END_prefix_coder := own_eqi k4
  have F_END_prefix_coder : Fld s s.heap a_END_prefix "java/lang/String" "coder" "B" (.int (0 : Int32)) := Fld.start ((fld_at e_END_prefix).symm.trans e_END_prefix_coder)
  obtain ⟨k5, z5⟩ := and_e z4
  have V_END_prefix_value_1 : cl_END_prefix_value.slots[1]? = some (.int (45 : Int32)) := own_elem (j := 1) e_END_prefix_value (own_eqi k5) Ar_END_prefix_value.1
  obtain ⟨k6, z6⟩ := and_e z5
  have V_END_prefix_value_0 : cl_END_prefix_value.slots[0]? = some (.int (69 : Int32)) := own_elem (j := 0) e_END_prefix_value (own_eqi k6) Ar_END_prefix_value.1
  obtain ⟨k7, z7⟩ := and_e z6
  obtain ⟨a_INSIDE, e_INSIDE⟩ := exa_v k7
  have S_INSIDE : Sta s s.heap "com/example/tokenweave/tokenweave/service/PieceLayout$Position" "INSIDE" "Lcom/example/tokenweave/tokenweave/service/PieceLayout$Position;" (.ref a_INSIDE) := Sta.start e_INSIDE (Or.inr ⟨(hw _ (List.mem_of_getElem? (i := 2) rfl)), (hw _ (List.mem_of_getElem? (i := 53) rfl))⟩)
  have E_INSIDE : Exa s s.heap a_INSIDE "com/example/tokenweave/tokenweave/service/PieceLayout$Position" := Exa.start e_INSIDE k7
  obtain ⟨k8, z8⟩ := and_e z7
  obtain ⟨a_INSIDE_prefix, e_INSIDE_prefix⟩ := exa_v k8
  have F_INSIDE_prefix : Fld s s.heap a_INSIDE "com/example/tokenweave/tokenweave/service/PieceLayout$Position" "prefix" "Ljava/lang/String;" (.ref a_INSIDE_prefix) := Fld.start ((fld_at e_INSIDE).symm.trans e_INSIDE_prefix)
  have E_INSIDE_prefix : Exa s s.heap a_INSIDE_prefix "java/lang/String" := Exa.start e_INSIDE_prefix k8
  obtain ⟨k9, z9⟩ := and_e z8
  obtain ⟨a_INSIDE_prefix_value, e_INSIDE_prefix_value⟩ := arr_v k9
  have F_INSIDE_prefix_value : Fld s s.heap a_INSIDE_prefix "java/lang/String" "value" "[B" (.ref a_INSIDE_prefix_value) := Fld.start ((fld_at e_INSIDE_prefix).symm.trans e_INSIDE_prefix_value)
  obtain ⟨cl_INSIDE_prefix_value, Ar_INSIDE_prefix_value⟩ := Arr.start e_INSIDE_prefix_value k9
  obtain ⟨k10, z10⟩ := and_e z9
  have L_INSIDE_prefix_value := own_len (n := 2) e_INSIDE_prefix_value (own_eqi k10) Ar_INSIDE_prefix_value rfl
  obtain ⟨k11, z11⟩ := and_e z10
  have e_INSIDE_prefix_coder := own_eqi k11
  have F_INSIDE_prefix_coder : Fld s s.heap a_INSIDE_prefix "java/lang/String" "coder" "B" (.int (0 : Int32)) := Fld.start ((fld_at e_INSIDE_prefix).symm.trans e_INSIDE_prefix_coder)
  obtain ⟨k12, z12⟩ := and_e z11
  have V_INSIDE_prefix_value_1 : cl_INSIDE_prefix_value.slots[1]? = some (.int (45 : Int32)) := own_elem (j := 1) e_INSIDE_prefix_value (own_eqi k12) Ar_INSIDE_prefix_value.1
  obtain ⟨k13, z13⟩ := and_e z12
  have V_INSIDE_prefix_value_0 : cl_INSIDE_prefix_value.slots[0]? = some (.int (73 : Int32)) := own_elem (j := 0) e_INSIDE_prefix_value (own_eqi k13) Ar_INSIDE_prefix_value.1
  obtain ⟨k14, z14⟩ := and_e z13
  obtain ⟨a_WHOLE, e_WHOLE⟩ := exa_v k14
  have S_WHOLE : Sta s s.heap "com/example/tokenweave/tokenweave/service/PieceLayout$Position" "WHOLE" "Lcom/example/tokenweave/tokenweave/service/PieceLayout$Position;" (.ref a_WHOLE) := Sta.start e_WHOLE (Or.inr ⟨(hw _ (List.mem_of_getElem? (i := 2) rfl)), (hw _ (List.mem_of_getElem? (i := 56) rfl))⟩)
  have E_WHOLE : Exa s s.heap a_WHOLE "com/example/tokenweave/tokenweave/service/PieceLayout$Position" := Exa.start e_WHOLE k14
  obtain ⟨k15, z15⟩ := and_e z14
  obtain ⟨a_WHOLE_prefix, e_WHOLE_prefix⟩ := exa_v k15
  have F_WHOLE_prefix : Fld s s.heap a_WHOLE "com/example/tokenweave/tokenweave/service/PieceLayout$Position" "prefix" "Ljava/lang/String;" (.ref a_WHOLE_prefix) := Fld.start ((fld_at e_WHOLE).symm.trans e_WHOLE_prefix)
  have E_WHOLE_prefix : Exa s s.heap a_WHOLE_prefix "java/lang/String" := Exa.start e_WHOLE_prefix k15
  obtain ⟨k16, z16⟩ := and_e z15
  obtain ⟨a_WHOLE_prefix_value, e_WHOLE_prefix_value⟩ := arr_v k16
  have F_WHOLE_prefix_value : Fld s s.heap a_WHOLE_prefix "java/lang/String" "value" "[B" (.ref a_WHOLE_prefix_value) := Fld.start ((fld_at e_WHOLE_prefix).symm.trans e_WHOLE_prefix_value)
  obtain ⟨cl_WHOLE_prefix_value, Ar_WHOLE_prefix_value⟩ := Arr.start e_WHOLE_prefix_value k16
  obtain ⟨k17, z17⟩ := and_e z16
  have L_WHOLE_prefix_value := own_len (n := 0) e_WHOLE_prefix_value (own_eqi k17) Ar_WHOLE_prefix_value rfl
  obtain ⟨k18, z18⟩ := and_e z17
  obtain ⟨a_BEGIN, e_BEGIN⟩ := exa_v k18
  have S_BEGIN : Sta s s.heap "com/example/tokenweave/tokenweave/service/PieceLayout$Position" "BEGIN" "Lcom/example/tokenweave/tokenweave/service/PieceLayout$Position;" (.ref a_BEGIN) := Sta.start e_BEGIN (Or.inr ⟨(hw _ (List.mem_of_getElem? (i := 2) rfl)), (hw _ (List.mem_of_getElem? (i := 64) rfl))⟩)
  have E_BEGIN : Exa s s.heap a_BEGIN "com/example/tokenweave/tokenweave/service/PieceLayout$Position" := Exa.start e_BEGIN k18
  obtain ⟨k19, z19⟩ := and_e z18
  obtain ⟨a_BEGIN_prefix, e_BEGIN_prefix⟩ := exa_v k19
  have F_BEGIN_prefix : Fld s s.heap a_BEGIN "com/example/tokenweave/tokenweave/service/PieceLayout$Position" "prefix" "Ljava/lang/String;" (.ref a_BEGIN_prefix) := Fld.start ((fld_at e_BEGIN).symm.trans e_BEGIN_prefix)
  have E_BEGIN_prefix : Exa s s.heap a_BEGIN_prefix "java/lang/String" := Exa.start e_BEGIN_prefix k19
  obtain ⟨k20, z20⟩ := and_e z19
  obtain ⟨a_BEGIN_prefix_value, e_BEGIN_prefix_value⟩ := arr_v k20
  have F_BEGIN_prefix_value : Fld s s.heap a_BEGIN_prefix "java/lang/String" "value" "[B" (.ref a_BEGIN_prefix_value) := Fld.start ((fld_at e_BEGIN_prefix).symm.trans e_BEGIN_prefix_value)
  obtain ⟨cl_BEGIN_prefix_value, Ar_BEGIN_prefix_value⟩ := Arr.start e_BEGIN_prefix_value k20
  obtain ⟨k21, z21⟩ := and_e z20
  have L_BEGIN_prefix_value := own_len (n := 2) e_BEGIN_prefix_value (own_eqi k21) Ar_BEGIN_prefix_value rfl
  obtain ⟨k22, z22⟩ := and_e z21
  have e_BEGIN_prefix_coder := own_eqi k22
  have F_BEGIN_prefix_coder : Fld s s.heap a_BEGIN_prefix "java/lang/String" "coder" "B" (.int (0 : Int32)) := Fld.start ((fld_at e_BEGIN_prefix).symm.trans e_BEGIN_prefix_coder)
  obtain ⟨k23, z23⟩ := and_e z22
  have V_BEGIN_prefix_value_1 : cl_BEGIN_prefix_value.slots[1]? = some (.int (45 : Int32)) := own_elem (j := 1) e_BEGIN_prefix_value (own_eqi k23) Ar_BEGIN_prefix_value.1
  obtain ⟨k24, z24⟩ := and_e z23
  have V_BEGIN_prefix_value_0 : cl_BEGIN_prefix_value.slots[0]? = some (.int (66 : Int32)) := own_elem (j := 0) e_BEGIN_prefix_value (own_eqi k24) Ar_BEGIN_prefix_value.1
  have e_WHOLE_prefix_coder := own_eqi z24
  have F_WHOLE_prefix_coder : Fld s s.heap a_WHOLE_prefix "java/lang/String" "coder" "B" (.int (0 : Int32)) := Fld.start ((fld_at e_WHOLE_prefix).symm.trans e_WHOLE_prefix_coder)
  obtain ⟨k_END_prefix_value, A_END_prefix_value⟩ : ∃ k, own_A s s.heap a_END_prefix_value k .byte [(.int (69 : Int32)), (.int (45 : Int32))] := ⟨_, own_A.of Ar_END_prefix_value L_END_prefix_value ⟨V_END_prefix_value_0, V_END_prefix_value_1, trivial⟩⟩
  obtain ⟨k_INSIDE_prefix_value, A_INSIDE_prefix_value⟩ : ∃ k, own_A s s.heap a_INSIDE_prefix_value k .byte [(.int (73 : Int32)), (.int (45 : Int32))] := ⟨_, own_A.of Ar_INSIDE_prefix_value L_INSIDE_prefix_value ⟨V_INSIDE_prefix_value_0, V_INSIDE_prefix_value_1, trivial⟩⟩
  obtain ⟨k_WHOLE_prefix_value, A_WHOLE_prefix_value⟩ : ∃ k, own_A s s.heap a_WHOLE_prefix_value k .byte [] := ⟨_, own_A.of Ar_WHOLE_prefix_value L_WHOLE_prefix_value trivial⟩
  obtain ⟨k_BEGIN_prefix_value, A_BEGIN_prefix_value⟩ : ∃ k, own_A s s.heap a_BEGIN_prefix_value k .byte [(.int (66 : Int32)), (.int (45 : Int32))] := ⟨_, own_A.of Ar_BEGIN_prefix_value L_BEGIN_prefix_value ⟨V_BEGIN_prefix_value_0, V_BEGIN_prefix_value_1, trivial⟩⟩
  have hs0 := hsets _ (List.mem_of_getElem? (i := 0) rfl)
  obtain ⟨xc, exc⟩ := is_v (Cond.before_iff.mp (hsets _ (List.mem_of_getElem? (i := 1) rfl)))
  have SC : Sta s s.heap "java/lang/String" "COMPACT_STRINGS" "Z" (.int xc) := Sta.start exc (Or.inl hs0)
  have hcz : ¬ xc = 0 := fun q => by have z := not_v (Cond.before_iff.mp (hsets _ (List.mem_of_getElem? (i := 2) rfl))); rw [eq_i exc (Term.int_eval 0) (by rw [q])] at z; cases z
  obtain ⟨xv, exv, hvr⟩ := isR_v (Cond.before_iff.mp (hsets _ (List.mem_of_getElem? (i := 8) rfl)))
  have SF : Sta s s.heap "jdk/internal/util/Preconditions" "SIOOBE_FORMATTER" "Ljava/util/function/BiFunction;" xv := Sta.start exv (Or.inl (hsets _ (List.mem_of_getElem? (i := 7) rfl)))
  obtain ⟨n, o, h1, h2, h3, _, L, rfl, ⟨rfl, N⟩, hq⟩ := own_rL l s _ hw tables_1 i0 i1 a_END a_END_prefix a_END_prefix_value a_INSIDE a_INSIDE_prefix a_INSIDE_prefix_value a_WHOLE a_WHOLE_prefix a_WHOLE_prefix_value a_BEGIN a_BEGIN_prefix a_BEGIN_prefix_value k_END_prefix_value k_INSIDE_prefix_value k_WHOLE_prefix_value k_BEGIN_prefix_value xc xv s.heap s.heap.size (Nat.le_refl _) SC hcz SF hvr S_END E_END F_END_prefix E_END_prefix F_END_prefix_value F_END_prefix_coder S_INSIDE E_INSIDE F_INSIDE_prefix E_INSIDE_prefix F_INSIDE_prefix_value F_INSIDE_prefix_coder S_WHOLE E_WHOLE F_WHOLE_prefix E_WHOLE_prefix F_WHOLE_prefix_value S_BEGIN E_BEGIN F_BEGIN_prefix E_BEGIN_prefix F_BEGIN_prefix_value F_BEGIN_prefix_coder F_WHOLE_prefix_coder A_END_prefix_value A_INSIDE_prefix_value A_WHOLE_prefix_value A_BEGIN_prefix_value p e ha hc hk s m _ below hf ((Spec.applies_iff_loose hf).mp happ).1 ⟨rfl, State.Warmed39.refl s, rfl⟩ trivial
  refine ⟨n, _, h1, h2, h3, hpost _ _ _ _ _ _ ⟨Cond.after_iff.mpr rfl, Cond.after_iff.mpr (eq_i res_at (Term.int_eval (1)) rfl), trivial⟩ ⟨hq.1, hq.2.1, (hq.2.2.sift fun y hy => Or.inr (N y hy)).mono (by decide) (by decide)⟩⟩
theorem main_1_1 : Claimed_1_1 := own_comes fun _ _ _ _ _ _ h hF => ⟨h.1, hF⟩
theorem main_1_2 : Claimed_1_2 := own_comes fun _ _ _ _ _ _ h hF => ⟨h.2.1, hF⟩
end Jvm.Pilot.@@N@@
namespace Jvm.Pilot.@@N@@
open Jvm Jvm.ClassFile Sem Op Lib Jvm.Free Jvm.Stand Jvm.Pilot.@@N@@.Jvm.D
/-! MADE BY PROGRAM (witnessworld.py) out of the Statement's table words and the real class files: 18 classes; the members and pool entries that the words name. The judged class is class 1, her method 1. -/
namespace start1
open Jvm.ClassFile
def u (s : String) : CpInfo := .utf8 (stringToUtf16 s)
/-- a pool by its gaps: so many unusable entries, then the entry; so many at the end -/
def gap : Nat → List CpInfo → List CpInfo
  | 0, r => r
  | n + 1, r => .unusable :: gap n r
def poolList (es : List (Nat × CpInfo)) (last : Nat) : List CpInfo := es.foldr (fun e r => gap e.1 (e.2 :: r)) (gap last [])
def pool (es : List (Nat × CpInfo)) (last : Nat) : Array CpInfo := ⟨poolList es last⟩
def fileOf (pool : Array CpInfo) (this : Nat) (attrs : Array Attribute := #[]) (ms : Array MethodInfo := #[]) (fl : Nat := 33) (sup : Nat := 0) (ifs : Array Nat := #[]) (fds : Array FieldInfo := #[]) : ClassFile where
  minorVersion := 0
  majorVersion := 65
  constantPool := pool
  accessFlags := fl
  thisClass := this
  superClass := sup
  interfaces := ifs
  fields := fds
  methods := ms
  attributes := attrs
def plain (name : String) (sup : Option ClassId) : Class where
  name := name
  kind := .ordinary
  loader := none
  accessFlags := 33
  super := sup
  interfaces := #[]
  cf := none
  fields := #[]
  methods := #[]
  instanceTypes := #[]
  staticTypes := #[]
  resolved := #[]
  callSites := []
  init := .initialized
  statics := none
  mirror := none

def pool0 : Array CpInfo := pool [(5, u "<init>"), (0, u "()V"), (1, .class_ 10), (1, u "java/lang/Object")] 113

def k0m0 : Method := { name := "<init>", desc := "()V", sig := { parameters := [], returnType := none }, accessFlags := 1, code := none }
/-- java/lang/Object -/
def k0 : Class := { plain "java/lang/Object" none with
  accessFlags := 33
  interfaces := #[]
  cf := some (fileOf pool0 8 #[] #[{ accessFlags := 1, nameIndex := 5, descriptorIndex := 6, attributes := #[] }] 33 0 #[] #[])
  fields := #[]
  methods := #[k0m0]
  instanceTypes := #[]
  staticTypes := #[]
  resolved := Array.replicate 124 none
  statics := none }

def pool1 : Array CpInfo := pool [(2, .class_ 4), (1, u "java/lang/Object"), (0, u "<init>"), (0, u "()V"), (0, .methodref 8 9), (0, .class_ 10), (0, .nameAndType 11 12), (0, u "com/example/tokenweave/tokenweave/service/PieceLayout$Position"), (0, u "of"), (0, u "(ZZ)Lcom/example/tokenweave/tokenweave/service/PieceLayout$Position;"), (0, .methodref 8 14), (0, .nameAndType 15 16), (0, u "prefix"), (0, u "()Ljava/lang/String;"), (0, .fieldref 8 18), (0, .nameAndType 19 20), (0, u "WHOLE"), (0, u "Lcom/example/tokenweave/tokenweave/service/PieceLayout$Position;"), (0, .methodref 22 23), (0, .class_ 24), (0, .nameAndType 25 26), (0, u "java/lang/String"), (0, u "isEmpty"), (0, u "()Z"), (0, .methodref 22 28), (0, .nameAndType 29 30), (0, u "length"), (0, u "()I"), (0, .methodref 22 32), (0, .nameAndType 33 34), (0, u "charAt"), (0, u "(I)C"), (0, .fieldref 8 36), (0, .nameAndType 37 20), (0, u "BEGIN"), (0, .fieldref 8 39), (0, .nameAndType 40 20), (0, u "END"), (0, .fieldref 8 42), (0, .nameAndType 43 20), (0, u "INSIDE"), (0, .class_ 45), (0, u "com/example/tokenweave/tokenweave/service/PositionOfPinLaw"), (2, u "law"), (0, u "(II)Z")] 7

def k1m0 : Method := { name := "<init>", desc := "()V", sig := { parameters := [], returnType := none }, accessFlags := 1, code := none }
def k1c1 : Code := { maxStack := 2, maxLocals := 7, code := code, exceptionTable := #[], attributes := #[] }
def k1m1 : Method := { name := "law", desc := "(II)Z", sig := { parameters := [.int, .int], returnType := some .boolean }, accessFlags := 9, code := some k1c1 }
/-- com/example/tokenweave/tokenweave/service/PositionOfPinLaw -/
def k1 : Class := { plain "com/example/tokenweave/tokenweave/service/PositionOfPinLaw" (some 0) with
  accessFlags := 49
  interfaces := #[]
  cf := some (fileOf pool1 44 #[] #[{ accessFlags := 1, nameIndex := 5, descriptorIndex := 6, attributes := #[] }, { accessFlags := 9, nameIndex := 48, descriptorIndex := 49, attributes := #[] }] 49 2 #[] #[])
  fields := #[]
  methods := #[k1m0, k1m1]
  instanceTypes := #[]
  staticTypes := #[]
  resolved := Array.replicate 57 none
  statics := none }

def pool2 : Array CpInfo := pool [(1, .class_ 2), (0, u "java/lang/constant/Constable"), (0, .class_ 4), (0, u "java/lang/Object")] 6

/-- java/lang/constant/Constable -/
def k2 : Class := { plain "java/lang/constant/Constable" (some 0) with
  accessFlags := 1537
  interfaces := #[]
  cf := some (fileOf pool2 1 #[] #[] 1537 3 #[] #[])
  fields := #[]
  methods := #[]
  instanceTypes := #[]
  staticTypes := #[]
  resolved := Array.replicate 11 none
  statics := none }

def pool3 : Array CpInfo := pool [(1, .class_ 2), (0, u "java/lang/Comparable"), (0, .class_ 4), (0, u "java/lang/Object")] 7

/-- java/lang/Comparable -/
def k3 : Class := { plain "java/lang/Comparable" (some 0) with
  accessFlags := 1537
  interfaces := #[]
  cf := some (fileOf pool3 1 #[] #[] 1537 3 #[] #[])
  fields := #[]
  methods := #[]
  instanceTypes := #[]
  staticTypes := #[]
  resolved := Array.replicate 12 none
  statics := none }

def pool4 : Array CpInfo := pool [(1, .class_ 2), (0, u "java/io/Serializable"), (0, .class_ 4), (0, u "java/lang/Object")] 2

/-- java/io/Serializable -/
def k4 : Class := { plain "java/io/Serializable" (some 0) with
  accessFlags := 1537
  interfaces := #[]
  cf := some (fileOf pool4 1 #[] #[] 1537 3 #[] #[])
  fields := #[]
  methods := #[]
  instanceTypes := #[]
  staticTypes := #[]
  resolved := Array.replicate 7 none
  statics := none }

def pool5 : Array CpInfo := pool [(2, .class_ 4), (1, u "java/lang/Enum"), (0, u "name"), (0, u "Ljava/lang/String;"), (2, u "ordinal"), (0, u "I"), (1, .class_ 14), (1, u "java/lang/Object"), (4, u "hash"), (86, .class_ 108), (1, u "java/lang/Enum$EnumDesc"), (2, .class_ 112), (0, u "java/lang/constant/Constable"), (0, .class_ 114), (0, u "java/lang/Comparable"), (0, .class_ 116), (0, u "java/io/Serializable")] 87

/-- java/lang/Enum -/
def k5 : Class := { plain "java/lang/Enum" (some 0) with
  accessFlags := 1057
  interfaces := #[2, 3, 4]
  cf := some (fileOf pool5 2 #[.nestMembers #[106]] #[] 1057 12 #[111, 113, 115] #[{ accessFlags := 18, nameIndex := 5, descriptorIndex := 6, attributes := #[] }, { accessFlags := 18, nameIndex := 9, descriptorIndex := 10, attributes := #[] }, { accessFlags := 2, nameIndex := 19, descriptorIndex := 10, attributes := #[] }])
  fields := #[{ name := "name", type := (.object "java/lang/String"), accessFlags := 18, slot := 0, constantValue := 0 }, { name := "ordinal", type := .int, accessFlags := 18, slot := 1, constantValue := 0 }, { name := "hash", type := .int, accessFlags := 2, slot := 2, constantValue := 0 }]
  methods := #[]
  instanceTypes := #[(.object "java/lang/String"), .int, .int]
  staticTypes := #[]
  resolved := Array.replicate 204 none
  statics := none }

def pool6 : Array CpInfo := pool [(1, .class_ 2), (0, u "com/example/tokenweave/tokenweave/service/PieceLayout$Position"), (0, .fieldref 1 4), (0, .nameAndType 5 6), (0, u "WHOLE"), (0, u "Lcom/example/tokenweave/tokenweave/service/PieceLayout$Position;"), (0, .fieldref 1 8), (0, .nameAndType 9 6), (0, u "BEGIN"), (0, .fieldref 1 11), (0, .nameAndType 12 6), (0, u "INSIDE"), (0, .fieldref 1 14), (0, .nameAndType 15 6), (0, u "END"), (2, u "$VALUES"), (0, u "[Lcom/example/tokenweave/tokenweave/service/PieceLayout$Position;"), (6, .class_ 28), (1, u "java/lang/Enum"), (8, u "letter"), (0, u "Ljava/lang/String;"), (0, .fieldref 1 40), (0, .nameAndType 41 38), (0, u "prefix"), (73, u "()Ljava/lang/String;"), (5, u "of"), (0, u "(ZZ)Lcom/example/tokenweave/tokenweave/service/PieceLayout$Position;"), (6, .class_ 130), (0, u "com/example/tokenweave/tokenweave/service/PieceLayout")] 16

def k6c0 : Code := { maxStack := 1, maxLocals := 1, code := prog_77_method_4_code, exceptionTable := #[], attributes := #[] }
def k6m0 : Method := { name := "prefix", desc := "()Ljava/lang/String;", sig := { parameters := [], returnType := some (.object "java/lang/String") }, accessFlags := 0, code := some k6c0 }
def k6c1 : Code := { maxStack := 1, maxLocals := 2, code := prog_77_method_8_code, exceptionTable := #[], attributes := #[] }
def k6m1 : Method := { name := "of", desc := "(ZZ)Lcom/example/tokenweave/tokenweave/service/PieceLayout$Position;", sig := { parameters := [.boolean, .boolean], returnType := some (.object "com/example/tokenweave/tokenweave/service/PieceLayout$Position") }, accessFlags := 8, code := some k6c1 }
/-- com/example/tokenweave/tokenweave/service/PieceLayout$Position -/
def k6 : Class := { plain "com/example/tokenweave/tokenweave/service/PieceLayout$Position" (some 5) with
  accessFlags := 16432
  interfaces := #[]
  cf := some (fileOf pool6 1 #[.nestHost 129] #[{ accessFlags := 0, nameIndex := 41, descriptorIndex := 115, attributes := #[] }, { accessFlags := 8, nameIndex := 121, descriptorIndex := 122, attributes := #[] }] 16432 26 #[] #[{ accessFlags := 16409, nameIndex := 5, descriptorIndex := 6, attributes := #[] }, { accessFlags := 16409, nameIndex := 9, descriptorIndex := 6, attributes := #[] }, { accessFlags := 16409, nameIndex := 12, descriptorIndex := 6, attributes := #[] }, { accessFlags := 16409, nameIndex := 15, descriptorIndex := 6, attributes := #[] }, { accessFlags := 18, nameIndex := 37, descriptorIndex := 38, attributes := #[] }, { accessFlags := 18, nameIndex := 41, descriptorIndex := 38, attributes := #[] }, { accessFlags := 4122, nameIndex := 18, descriptorIndex := 19, attributes := #[] }])
  fields := #[{ name := "WHOLE", type := (.object "com/example/tokenweave/tokenweave/service/PieceLayout$Position"), accessFlags := 16409, slot := 0, constantValue := 0 }, { name := "BEGIN", type := (.object "com/example/tokenweave/tokenweave/service/PieceLayout$Position"), accessFlags := 16409, slot := 1, constantValue := 0 }, { name := "INSIDE", type := (.object "com/example/tokenweave/tokenweave/service/PieceLayout$Position"), accessFlags := 16409, slot := 2, constantValue := 0 }, { name := "END", type := (.object "com/example/tokenweave/tokenweave/service/PieceLayout$Position"), accessFlags := 16409, slot := 3, constantValue := 0 }, { name := "letter", type := (.object "java/lang/String"), accessFlags := 18, slot := 3, constantValue := 0 }, { name := "prefix", type := (.object "java/lang/String"), accessFlags := 18, slot := 4, constantValue := 0 }, { name := "$VALUES", type := (.array (.object "com/example/tokenweave/tokenweave/service/PieceLayout$Position")), accessFlags := 4122, slot := 4, constantValue := 0 }]
  methods := #[k6m0, k6m1]
  instanceTypes := #[(.object "java/lang/String"), .int, .int, (.object "java/lang/String"), (.object "java/lang/String")]
  staticTypes := #[(.object "com/example/tokenweave/tokenweave/service/PieceLayout$Position"), (.object "com/example/tokenweave/tokenweave/service/PieceLayout$Position"), (.object "com/example/tokenweave/tokenweave/service/PieceLayout$Position"), (.object "com/example/tokenweave/tokenweave/service/PieceLayout$Position"), (.array (.object "com/example/tokenweave/tokenweave/service/PieceLayout$Position"))]
  resolved := Array.replicate 147 none
  statics := some 0 }

def pool7 : Array CpInfo := pool [(2, .class_ 4), (1, u "java/lang/CharSequence"), (42, .class_ 48), (0, u "java/lang/CharSequence$1CodePointIterator"), (10, .class_ 60), (0, u "java/lang/CharSequence$1CharIterator"), (5, .class_ 67), (0, u "java/lang/Object")] 63

/-- java/lang/CharSequence -/
def k7 : Class := { plain "java/lang/CharSequence" (some 0) with
  accessFlags := 1537
  interfaces := #[]
  cf := some (fileOf pool7 2 #[.nestMembers #[47, 59]] #[] 1537 66 #[] #[])
  fields := #[]
  methods := #[]
  instanceTypes := #[]
  staticTypes := #[]
  resolved := Array.replicate 131 none
  statics := none }

def pool8 : Array CpInfo := pool [(1, .class_ 2), (0, u "java/lang/constant/ConstantDesc"), (0, .class_ 4), (0, u "java/lang/Object")] 32

/-- java/lang/constant/ConstantDesc -/
def k8 : Class := { plain "java/lang/constant/ConstantDesc" (some 0) with
  accessFlags := 1537
  interfaces := #[]
  cf := some (fileOf pool8 1 #[] #[] 1537 3 #[] #[])
  fields := #[]
  methods := #[]
  instanceTypes := #[]
  staticTypes := #[]
  resolved := Array.replicate 37 none
  statics := none }

def pool9 : Array CpInfo := pool [(2, .class_ 4), (1, u "java/lang/Object"), (0, u "<init>"), (0, u "()V"), (2, .fieldref 10 11), (0, .class_ 12), (0, .nameAndType 13 14), (0, u "java/lang/String"), (0, u "value"), (0, u "[B"), (0, .fieldref 10 16), (0, .nameAndType 17 18), (0, u "coder"), (0, u "B"), (2, u "hash"), (0, u "I"), (2, u "hashIsZero"), (0, u "Z"), (11, .fieldref 10 39), (0, .nameAndType 40 26), (0, u "COMPACT_STRINGS"), (66, .class_ 109), (1, u "java/lang/StringLatin1"), (32, u "()Z"), (191, u "()I"), (0, .methodref 10 336), (0, .nameAndType 17 337), (0, u "()B"), (25, u "([BI)C"), (27, u "(II)V"), (35, u "(I)C"), (64, .methodref 10 493), (0, .nameAndType 494 142), (0, u "isLatin1"), (0, .methodref 107 496), (0, .nameAndType 497 363), (0, u "charAt"), (3, u "checkIndex"), (5, u "length"), (67, .class_ 576), (0, u "java/lang/CharSequence"), (22, u "CASE_INSENSITIVE_ORDER"), (0, u "Ljava/util/Comparator;"), (91, u "isEmpty"), (360, .fieldref 1054 1055), (0, .class_ 1056), (0, .nameAndType 1057 1058), (0, u "jdk/internal/util/Preconditions"), (0, u "SIOOBE_FORMATTER"), (0, u "Ljava/util/function/BiFunction;"), (0, .methodref 1054 1060), (0, .nameAndType 501 1061), (0, u "(IILjava/util/function/BiFunction;)I"), (39, u "serialPersistentFields"), (0, u "[Ljava/io/ObjectStreamField;"), (0, .class_ 1104), (0, u "java/lang/String$CaseInsensitiveComparator"), (1, .class_ 1107), (0, u "java/io/Serializable"), (0, .class_ 1109), (0, u "java/lang/Comparable"), (0, .class_ 1111), (0, u "java/lang/constant/Constable"), (0, .class_ 1113), (0, u "java/lang/constant/ConstantDesc"), (2, u "serialVersionUID"), (0, u "J"), (3, u "REPL"), (0, u "C"), (2, u "LATIN1"), (1, u "UTF16")] 323

def k9m0 : Method := { name := "<init>", desc := "()V", sig := { parameters := [], returnType := none }, accessFlags := 1, code := none }
def k9c1 : Code := { maxStack := 2, maxLocals := 1, code := jdk_42_method_54_code, exceptionTable := #[], attributes := #[] }
def k9m1 : Method := { name := "length", desc := "()I", sig := { parameters := [], returnType := some .int }, accessFlags := 1, code := some k9c1 }
def k9c2 : Code := { maxStack := 1, maxLocals := 1, code := jdk_42_method_55_code, exceptionTable := #[], attributes := #[] }
def k9m2 : Method := { name := "isEmpty", desc := "()Z", sig := { parameters := [], returnType := some .boolean }, accessFlags := 1, code := some k9c2 }
def k9c3 : Code := { maxStack := 2, maxLocals := 2, code := jdk_42_method_56_code, exceptionTable := #[], attributes := #[] }
def k9m3 : Method := { name := "charAt", desc := "(I)C", sig := { parameters := [.int], returnType := some .char }, accessFlags := 1, code := some k9c3 }
def k9c4 : Code := { maxStack := 1, maxLocals := 1, code := jdk_42_method_152_code, exceptionTable := #[], attributes := #[] }
def k9m4 : Method := { name := "coder", desc := "()B", sig := { parameters := [], returnType := some .byte }, accessFlags := 0, code := some k9c4 }
def k9c5 : Code := { maxStack := 1, maxLocals := 1, code := jdk_42_method_154_code, exceptionTable := #[], attributes := #[] }
def k9m5 : Method := { name := "isLatin1", desc := "()Z", sig := { parameters := [], returnType := some .boolean }, accessFlags := 0, code := some k9c5 }
def k9c6 : Code := { maxStack := 3, maxLocals := 2, code := jdk_42_method_155_code, exceptionTable := #[], attributes := #[] }
def k9m6 : Method := { name := "checkIndex", desc := "(II)V", sig := { parameters := [.int, .int], returnType := none }, accessFlags := 8, code := some k9c6 }
/-- java/lang/String -/
def k9 : Class := { plain "java/lang/String" (some 0) with
  accessFlags := 49
  interfaces := #[4, 3, 7, 2, 8]
  cf := some (fileOf pool9 10 #[.nestMembers #[1103]] #[{ accessFlags := 1, nameIndex := 5, descriptorIndex := 6, attributes := #[] }, { accessFlags := 1, nameIndex := 507, descriptorIndex := 334, attributes := #[] }, { accessFlags := 1, nameIndex := 692, descriptorIndex := 142, attributes := #[] }, { accessFlags := 1, nameIndex := 497, descriptorIndex := 427, attributes := #[] }, { accessFlags := 0, nameIndex := 17, descriptorIndex := 337, attributes := #[] }, { accessFlags := 0, nameIndex := 494, descriptorIndex := 142, attributes := #[] }, { accessFlags := 8, nameIndex := 501, descriptorIndex := 391, attributes := #[] }] 49 2 #[1106, 1108, 575, 1110, 1112] #[{ accessFlags := 18, nameIndex := 13, descriptorIndex := 14, attributes := #[] }, { accessFlags := 18, nameIndex := 17, descriptorIndex := 18, attributes := #[] }, { accessFlags := 2, nameIndex := 21, descriptorIndex := 22, attributes := #[] }, { accessFlags := 2, nameIndex := 25, descriptorIndex := 26, attributes := #[] }, { accessFlags := 26, nameIndex := 1116, descriptorIndex := 1117, attributes := #[] }, { accessFlags := 24, nameIndex := 40, descriptorIndex := 26, attributes := #[] }, { accessFlags := 26, nameIndex := 1101, descriptorIndex := 1102, attributes := #[] }, { accessFlags := 26, nameIndex := 1121, descriptorIndex := 1122, attributes := #[] }, { accessFlags := 25, nameIndex := 599, descriptorIndex := 600, attributes := #[] }, { accessFlags := 24, nameIndex := 1125, descriptorIndex := 18, attributes := #[] }, { accessFlags := 24, nameIndex := 1127, descriptorIndex := 18, attributes := #[] }])
  fields := #[{ name := "value", type := (.array .byte), accessFlags := 18, slot := 0, constantValue := 0 }, { name := "coder", type := .byte, accessFlags := 18, slot := 1, constantValue := 0 }, { name := "hash", type := .int, accessFlags := 2, slot := 2, constantValue := 0 }, { name := "hashIsZero", type := .boolean, accessFlags := 2, slot := 3, constantValue := 0 }, { name := "serialVersionUID", type := .long, accessFlags := 26, slot := 0, constantValue := 0 }, { name := "COMPACT_STRINGS", type := .boolean, accessFlags := 24, slot := 1, constantValue := 0 }, { name := "serialPersistentFields", type := (.array (.object "java/io/ObjectStreamField")), accessFlags := 26, slot := 2, constantValue := 0 }, { name := "REPL", type := .char, accessFlags := 26, slot := 3, constantValue := 0 }, { name := "CASE_INSENSITIVE_ORDER", type := (.object "java/util/Comparator"), accessFlags := 25, slot := 4, constantValue := 0 }, { name := "LATIN1", type := .byte, accessFlags := 24, slot := 5, constantValue := 0 }, { name := "UTF16", type := .byte, accessFlags := 24, slot := 6, constantValue := 0 }]
  methods := #[k9m0, k9m1, k9m2, k9m3, k9m4, k9m5, k9m6]
  instanceTypes := #[(.array .byte), .byte, .int, .boolean]
  staticTypes := #[.long, .boolean, (.array (.object "java/io/ObjectStreamField")), .char, (.object "java/util/Comparator"), .byte, .byte]
  resolved := Array.replicate 1451 none
  statics := some 1 }

def pool10 : Array CpInfo := pool [(1, .class_ 2), (0, u "java/lang/String"), (1, .class_ 6), (1, u "java/lang/Object"), (0, u "<init>"), (0, u "()V"), (0, .methodref 1 10), (0, .nameAndType 11 12), (0, u "checkIndex"), (0, u "(II)V"), (1, .class_ 16), (1, u "java/lang/StringLatin1"), (36, u "([BI)C"), (67, u "$assertionsDisabled"), (0, u "Z"), (98, .class_ 223), (1, u "java/lang/StringLatin1$LinesSpliterator"), (28, u "charAt"), (137, .class_ 391), (0, u "java/lang/StringLatin1$CharsSpliterator")] 3

def k10m0 : Method := { name := "<init>", desc := "()V", sig := { parameters := [], returnType := none }, accessFlags := 0, code := none }
def k10c1 : Code := { maxStack := 2, maxLocals := 2, code := jdk_43_method_2_code, exceptionTable := #[], attributes := #[] }
def k10m1 : Method := { name := "charAt", desc := "([BI)C", sig := { parameters := [(.array .byte), .int], returnType := some .char }, accessFlags := 9, code := some k10c1 }
/-- java/lang/StringLatin1 -/
def k10 : Class := { plain "java/lang/StringLatin1" (some 0) with
  accessFlags := 48
  interfaces := #[]
  cf := some (fileOf pool10 14 #[.nestMembers #[390, 221]] #[{ accessFlags := 0, nameIndex := 7, descriptorIndex := 8, attributes := #[] }, { accessFlags := 9, nameIndex := 252, descriptorIndex := 53, attributes := #[] }] 48 4 #[] #[{ accessFlags := 4120, nameIndex := 121, descriptorIndex := 122, attributes := #[] }])
  fields := #[{ name := "$assertionsDisabled", type := .boolean, accessFlags := 4120, slot := 0, constantValue := 0 }]
  methods := #[k10m0, k10m1]
  instanceTypes := #[]
  staticTypes := #[.boolean]
  resolved := Array.replicate 395 none
  statics := none }

def pool11 : Array CpInfo := pool [(2, .class_ 4), (1, u "java/lang/Object"), (0, u "<init>"), (0, u "()V"), (17, .class_ 26), (1, u "jdk/internal/util/Preconditions"), (6, u "checkIndex"), (21, .class_ 56), (0, u "jdk/internal/util/Preconditions$4"), (57, .class_ 115), (0, u "jdk/internal/util/Preconditions$1"), (7, u "SIOOBE_FORMATTER"), (0, u "Ljava/util/function/BiFunction;"), (0, .class_ 126), (0, u "jdk/internal/util/Preconditions$2"), (3, u "AIOOBE_FORMATTER"), (0, .class_ 132), (0, u "jdk/internal/util/Preconditions$3"), (3, u "IOOBE_FORMATTER"), (41, u "(IILjava/util/function/BiFunction;)I")] 15

def k11m0 : Method := { name := "<init>", desc := "()V", sig := { parameters := [], returnType := none }, accessFlags := 1, code := none }
def k11c1 : Code := { maxStack := 3, maxLocals := 3, code := jdk_41_method_11_code, exceptionTable := #[], attributes := #[] }
def k11m1 : Method := { name := "checkIndex", desc := "(IILjava/util/function/BiFunction;)I", sig := { parameters := [.int, .int, (.object "java/util/function/BiFunction")], returnType := some .int }, accessFlags := 9, code := some k11c1 }
/-- jdk/internal/util/Preconditions -/
def k11 : Class := { plain "jdk/internal/util/Preconditions" (some 0) with
  accessFlags := 33
  interfaces := #[]
  cf := some (fileOf pool11 24 #[.nestMembers #[55, 131, 125, 114]] #[{ accessFlags := 1, nameIndex := 5, descriptorIndex := 6, attributes := #[] }, { accessFlags := 9, nameIndex := 33, descriptorIndex := 178, attributes := #[] }] 33 2 #[] #[{ accessFlags := 25, nameIndex := 123, descriptorIndex := 124, attributes := #[] }, { accessFlags := 25, nameIndex := 130, descriptorIndex := 124, attributes := #[] }, { accessFlags := 25, nameIndex := 136, descriptorIndex := 124, attributes := #[] }])
  fields := #[{ name := "SIOOBE_FORMATTER", type := (.object "java/util/function/BiFunction"), accessFlags := 25, slot := 0, constantValue := 0 }, { name := "AIOOBE_FORMATTER", type := (.object "java/util/function/BiFunction"), accessFlags := 25, slot := 1, constantValue := 0 }, { name := "IOOBE_FORMATTER", type := (.object "java/util/function/BiFunction"), accessFlags := 25, slot := 2, constantValue := 0 }]
  methods := #[k11m0, k11m1]
  instanceTypes := #[]
  staticTypes := #[(.object "java/util/function/BiFunction"), (.object "java/util/function/BiFunction"), (.object "java/util/function/BiFunction")]
  resolved := Array.replicate 194 none
  statics := some 2 }

def pool12 : Array CpInfo := pool [(9, u "<init>"), (6, .class_ 18), (1, u "java/lang/Object"), (0, u "()V"), (1, .class_ 23), (1, u "jdk/internal/util/ArraysSupport"), (0, u "LOG2_ARRAY_LONG_INDEX_SCALE"), (0, u "I"), (2, u "U"), (0, u "Ljdk/internal/misc/Unsafe;"), (8, u "BIG_ENDIAN"), (0, u "Z"), (8, u "LOG2_BYTE_BIT_SIZE"), (4, u "LOG2_ARRAY_INT_INDEX_SCALE"), (54, u "JLA"), (0, u "Ljdk/internal/access/JavaLangAccess;"), (11, u "LOG2_ARRAY_BOOLEAN_INDEX_SCALE"), (9, u "LOG2_ARRAY_BYTE_INDEX_SCALE"), (5, u "LOG2_ARRAY_CHAR_INDEX_SCALE"), (5, u "LOG2_ARRAY_SHORT_INDEX_SCALE"), (18, u "LOG2_ARRAY_FLOAT_INDEX_SCALE"), (24, u "LOG2_ARRAY_DOUBLE_INDEX_SCALE"), (89, u "T_BOOLEAN"), (2, u "T_CHAR"), (1, u "T_FLOAT"), (1, u "T_DOUBLE"), (1, u "T_BYTE"), (1, u "T_SHORT"), (1, u "T_INT"), (1, u "T_LONG"), (1, u "SOFT_MAX_ARRAY_LENGTH")] 83

def k12m0 : Method := { name := "<init>", desc := "()V", sig := { parameters := [], returnType := none }, accessFlags := 2, code := none }
/-- jdk/internal/util/ArraysSupport -/
def k12 : Class := { plain "jdk/internal/util/ArraysSupport" (some 0) with
  accessFlags := 33
  interfaces := #[]
  cf := some (fileOf pool12 21 #[] #[{ accessFlags := 2, nameIndex := 9, descriptorIndex := 19, attributes := #[] }] 33 16 #[] #[{ accessFlags := 24, nameIndex := 28, descriptorIndex := 29, attributes := #[] }, { accessFlags := 26, nameIndex := 38, descriptorIndex := 39, attributes := #[] }, { accessFlags := 25, nameIndex := 121, descriptorIndex := 25, attributes := #[] }, { accessFlags := 25, nameIndex := 131, descriptorIndex := 25, attributes := #[] }, { accessFlags := 25, nameIndex := 137, descriptorIndex := 25, attributes := #[] }, { accessFlags := 25, nameIndex := 143, descriptorIndex := 25, attributes := #[] }, { accessFlags := 25, nameIndex := 53, descriptorIndex := 25, attributes := #[] }, { accessFlags := 25, nameIndex := 24, descriptorIndex := 25, attributes := #[] }, { accessFlags := 25, nameIndex := 162, descriptorIndex := 25, attributes := #[] }, { accessFlags := 25, nameIndex := 187, descriptorIndex := 25, attributes := #[] }, { accessFlags := 26, nameIndex := 48, descriptorIndex := 25, attributes := #[] }, { accessFlags := 25, nameIndex := 277, descriptorIndex := 25, attributes := #[] }, { accessFlags := 25, nameIndex := 280, descriptorIndex := 25, attributes := #[] }, { accessFlags := 25, nameIndex := 282, descriptorIndex := 25, attributes := #[] }, { accessFlags := 25, nameIndex := 284, descriptorIndex := 25, attributes := #[] }, { accessFlags := 25, nameIndex := 286, descriptorIndex := 25, attributes := #[] }, { accessFlags := 25, nameIndex := 288, descriptorIndex := 25, attributes := #[] }, { accessFlags := 25, nameIndex := 290, descriptorIndex := 25, attributes := #[] }, { accessFlags := 25, nameIndex := 292, descriptorIndex := 25, attributes := #[] }, { accessFlags := 26, nameIndex := 108, descriptorIndex := 109, attributes := #[] }, { accessFlags := 25, nameIndex := 294, descriptorIndex := 25, attributes := #[] }])
  fields := #[{ name := "U", type := (.object "jdk/internal/misc/Unsafe"), accessFlags := 24, slot := 0, constantValue := 0 }, { name := "BIG_ENDIAN", type := .boolean, accessFlags := 26, slot := 1, constantValue := 0 }, { name := "LOG2_ARRAY_BOOLEAN_INDEX_SCALE", type := .int, accessFlags := 25, slot := 2, constantValue := 0 }, { name := "LOG2_ARRAY_BYTE_INDEX_SCALE", type := .int, accessFlags := 25, slot := 3, constantValue := 0 }, { name := "LOG2_ARRAY_CHAR_INDEX_SCALE", type := .int, accessFlags := 25, slot := 4, constantValue := 0 }, { name := "LOG2_ARRAY_SHORT_INDEX_SCALE", type := .int, accessFlags := 25, slot := 5, constantValue := 0 }, { name := "LOG2_ARRAY_INT_INDEX_SCALE", type := .int, accessFlags := 25, slot := 6, constantValue := 0 }, { name := "LOG2_ARRAY_LONG_INDEX_SCALE", type := .int, accessFlags := 25, slot := 7, constantValue := 0 }, { name := "LOG2_ARRAY_FLOAT_INDEX_SCALE", type := .int, accessFlags := 25, slot := 8, constantValue := 0 }, { name := "LOG2_ARRAY_DOUBLE_INDEX_SCALE", type := .int, accessFlags := 25, slot := 9, constantValue := 0 }, { name := "LOG2_BYTE_BIT_SIZE", type := .int, accessFlags := 26, slot := 10, constantValue := 0 }, { name := "T_BOOLEAN", type := .int, accessFlags := 25, slot := 11, constantValue := 0 }, { name := "T_CHAR", type := .int, accessFlags := 25, slot := 12, constantValue := 0 }, { name := "T_FLOAT", type := .int, accessFlags := 25, slot := 13, constantValue := 0 }, { name := "T_DOUBLE", type := .int, accessFlags := 25, slot := 14, constantValue := 0 }, { name := "T_BYTE", type := .int, accessFlags := 25, slot := 15, constantValue := 0 }, { name := "T_SHORT", type := .int, accessFlags := 25, slot := 16, constantValue := 0 }, { name := "T_INT", type := .int, accessFlags := 25, slot := 17, constantValue := 0 }, { name := "T_LONG", type := .int, accessFlags := 25, slot := 18, constantValue := 0 }, { name := "JLA", type := (.object "jdk/internal/access/JavaLangAccess"), accessFlags := 26, slot := 19, constantValue := 0 }, { name := "SOFT_MAX_ARRAY_LENGTH", type := .int, accessFlags := 25, slot := 20, constantValue := 0 }]
  methods := #[k12m0]
  instanceTypes := #[]
  staticTypes := #[(.object "jdk/internal/misc/Unsafe"), .boolean, .int, .int, .int, .int, .int, .int, .int, .int, .int, .int, .int, .int, .int, .int, .int, .int, .int, (.object "jdk/internal/access/JavaLangAccess"), .int]
  resolved := Array.replicate 378 none
  statics := none }

def pool13 : Array CpInfo := pool [(1, u "java/lang/Cloneable"), (0, .class_ 1), (0, u "java/lang/Object"), (0, .class_ 3)] 3

/-- java/lang/Cloneable -/
def k13 : Class := { plain "java/lang/Cloneable" (some 0) with
  accessFlags := 1537
  interfaces := #[]
  cf := some (fileOf pool13 2 #[] #[] 1537 4 #[] #[])
  fields := #[]
  methods := #[]
  instanceTypes := #[]
  staticTypes := #[]
  resolved := Array.replicate 8 none
  statics := none }

/-- the primitive byte -/
def k14 : Class := { plain "byte" none with kind := .primitive 'B', accessFlags := 0x411 }
/-- [B -/
def k15 : Class := { plain "[B" (some 0) with kind := .array 14 .byte, interfaces := #[13, 4], accessFlags := 1041 }

/-- the primitive int -/
def k16 : Class := { plain "int" none with kind := .primitive 'I', accessFlags := 0x411 }
/-- [I -/
def k17 : Class := { plain "[I" (some 0) with kind := .array 16 .int, interfaces := #[13, 4], accessFlags := 1041 }

def heap : Heap := #[{ cls := 6, slots := #[.ref 11, .ref 13, .ref 9, .ref 7, .null], vm := .statics 6 },
  { cls := 9, slots := #[.long 0, .int 1, .null, .int 0, .null, .int 0, .int 0], vm := .statics 9 },
  { cls := 11, slots := #[.null, .null, .null], vm := .statics 11 },
  { cls := 15, slots := #[.int 69, .int 45], vm := .none },
  { cls := 15, slots := #[.int 73, .int 45], vm := .none },
  { cls := 15, slots := #[], vm := .none },
  { cls := 15, slots := #[.int 66, .int 45], vm := .none },
  { cls := 6, slots := #[.null, .int 0, .int 0, .null, .ref 8], vm := .none },
  { cls := 9, slots := #[.ref 3, .int 0, .int 0, .int 0], vm := .none },
  { cls := 6, slots := #[.null, .int 0, .int 0, .null, .ref 10], vm := .none },
  { cls := 9, slots := #[.ref 4, .int 0, .int 0, .int 0], vm := .none },
  { cls := 6, slots := #[.null, .int 0, .int 0, .null, .ref 12], vm := .none },
  { cls := 9, slots := #[.ref 5, .int 0, .int 0, .int 0], vm := .none },
  { cls := 6, slots := #[.null, .int 0, .int 0, .null, .ref 14], vm := .none },
  { cls := 9, slots := #[.ref 6, .int 0, .int 0, .int 0], vm := .none }]
def classes : Array Class := #[k0, k1, k2, k3, k4, k5, k6, k7, k8, k9, k10, k11, k12, k13, k14, k15, k16, k17]
def interned : List (Array UInt16 × Addr) := []
def slotsUsed : Nat := 57
def theMethod : MethodId := ⟨1, 1⟩
def args0 : Array Value := #[.int 3, .int 2]
def aboutOver (below : List Frame) : State where
  vm := { classes := classes, interned := interned.toArray }
  heap := heap
  slotsUsed := slotsUsed
  threads := #[{ frames := .invoking theMethod args0 :: below }]
def below0 : List Frame := [.native { method := ⟨0, 0⟩, args := #[] }]
def about1 : State := aboutOver below0
def p0 : Program := .bare "" "" ""
def e0 : Env := launch0.env 0 0 0
theorem w_frames : about1.frames = Frame.invoking theMethod args0 :: below0 := rfl
set_option maxRecDepth 65536 in
theorem w_args : argsFit about1.vm theMethod args0 = true := by decide +kernel
set_option maxRecDepth 65536 in
theorem w_heap : heapFits about1 = true := by decide +kernel
set_option maxRecDepth 65536 in
theorem w_runnable : about1.curStatus? = some .runnable := by decide +kernel
set_option maxRecDepth 65536 in
theorem w_alone : about1.alone = true := by decide +kernel
set_option maxRecDepth 65536 in
theorem w_named : about1.methodNamed? x = some theMethod := by decide +kernel
set_option maxRecDepth 65536 in
theorem w_hears : about1.hears theMethod below0 = true := by decide +kernel
set_option maxRecDepth 65536 in
theorem w_ripe : about1.ripe theMethod args0 below0 = true := by decide +kernel
theorem w_running : about1.status = .running := rfl
set_option maxRecDepth 65536 in
theorem w_room : about1.hasRoom e0.platform room_1 = true :=
  launch0.hasRoom_least _ room_1 (by decide +kernel) (by decide +kernel) (by decide +kernel) (by decide +kernel) (by decide +kernel) (by decide +kernel)
theorem allAtoms_all (ts : List Jvm.Cond) (a : Array Jvm.Value) (st : Jvm.State) : (allAtoms ts).before a st = ts.all (fun c => c.before a st) := by
  induction ts with
  | nil => rfl
  | cons c t ih =>
    show (Jvm.Cond.and c (allAtoms t)).before a st = _
    rw [Jvm.Cond.before_and, ih, List.all_cons]
def words1 : List Jvm.Cond := Jvm.Cond.code x code maxLocals ret :: tables_1
/-- a 'code' word, met by the world's own term for the bytes: nothing is compared byte by byte -/
theorem code_word {y : MethodName} {bytes : ByteArray} {mx : Nat} {rt : Option FieldType} {a : Array Value} {s : State} {m : MethodId} {meth : Method} {c : Code} (h1 : s.methodNamed? y = some m) (h2 : s.vm.method? m = some meth) (h3 : meth.code = some c) (h4 : c.code = bytes)
    (h5 : (c.maxLocals == mx && c.exceptionTable.isEmpty && decide (c.maxStack ≤ mostOperands) && decide (meth.sig.returnType = rt) && !meth.locks && decide (parseMethodDescriptor y.desc = some meth.sig)) = true) : (Jvm.Cond.code y bytes mx rt).before a s = true := by
  simp only [Bool.and_eq_true, beq_iff_eq, Bool.not_eq_true', decide_eq_true_eq] at h5
  obtain ⟨⟨⟨⟨⟨g1, g2⟩, g3⟩, g4⟩, g5⟩, g6⟩ := h5
  simp [Cond.before, Cond.holds, Cond.value, h1, h2, h3, h4, g1, g2, g3, g4, g5, g6]
def isCode : Jvm.Cond → Bool
  | .code _ _ _ _ => true
  | _ => false
theorem all_split {L : List Jvm.Cond} {P : Jvm.Cond → Bool} (h1 : L.all (fun c => isCode c || P c) = true) (h2 : ∀ c ∈ L.filter isCode, P c = true) : L.all P = true := by
  refine List.all_eq_true.mpr fun c hc => ?_
  have h := List.all_eq_true.mp h1 c hc
  rcases Bool.eq_false_or_eq_true (isCode c) with hi | hi
  · exact h2 c (List.mem_filter.mpr ⟨hc, hi⟩)
  · simpa [hi] using h
set_option maxRecDepth 65536 in
theorem w_c0 : (Jvm.Cond.code x code maxLocals ret).before args0 about1 = true := code_word (m := ⟨1, 1⟩) (meth := k1m1) (c := k1c1) (by decide +kernel) rfl rfl rfl (by decide +kernel)
set_option maxRecDepth 65536 in
theorem w_c1 : (Jvm.Cond.code ({ cls := "com/example/tokenweave/tokenweave/service/PieceLayout$Position", name := "of", desc := "(ZZ)Lcom/example/tokenweave/tokenweave/service/PieceLayout$Position;" } : Jvm.MethodName) prog_77_method_8_code (2 : Nat) (Option.some (Jvm.ClassFile.FieldType.object "com/example/tokenweave/tokenweave/service/PieceLayout$Position"))).before args0 about1 = true := code_word (m := ⟨6, 1⟩) (meth := k6m1) (c := k6c1) (by decide +kernel) rfl rfl rfl (by decide +kernel)
set_option maxRecDepth 65536 in
theorem w_c2 : (Jvm.Cond.code ({ cls := "com/example/tokenweave/tokenweave/service/PieceLayout$Position", name := "prefix", desc := "()Ljava/lang/String;" } : Jvm.MethodName) prog_77_method_4_code (1 : Nat) (Option.some (Jvm.ClassFile.FieldType.object "java/lang/String"))).before args0 about1 = true := code_word (m := ⟨6, 0⟩) (meth := k6m0) (c := k6c0) (by decide +kernel) rfl rfl rfl (by decide +kernel)
set_option maxRecDepth 65536 in
theorem w_c3 : (Jvm.Cond.code ({ cls := "java/lang/String", name := "length", desc := "()I" } : Jvm.MethodName) jdk_42_method_54_code (1 : Nat) (Option.some Jvm.ClassFile.FieldType.int)).before args0 about1 = true := code_word (m := ⟨9, 1⟩) (meth := k9m1) (c := k9c1) (by decide +kernel) rfl rfl rfl (by decide +kernel)
set_option maxRecDepth 65536 in
theorem w_c4 : (Jvm.Cond.code ({ cls := "java/lang/String", name := "coder", desc := "()B" } : Jvm.MethodName) jdk_42_method_152_code (1 : Nat) (Option.some Jvm.ClassFile.FieldType.byte)).before args0 about1 = true := code_word (m := ⟨9, 4⟩) (meth := k9m4) (c := k9c4) (by decide +kernel) rfl rfl rfl (by decide +kernel)
set_option maxRecDepth 65536 in
theorem w_c5 : (Jvm.Cond.code ({ cls := "java/lang/String", name := "charAt", desc := "(I)C" } : Jvm.MethodName) jdk_42_method_56_code (2 : Nat) (Option.some Jvm.ClassFile.FieldType.char)).before args0 about1 = true := code_word (m := ⟨9, 3⟩) (meth := k9m3) (c := k9c3) (by decide +kernel) rfl rfl rfl (by decide +kernel)
set_option maxRecDepth 65536 in
theorem w_c6 : (Jvm.Cond.code ({ cls := "java/lang/String", name := "isLatin1", desc := "()Z" } : Jvm.MethodName) jdk_42_method_154_code (1 : Nat) (Option.some Jvm.ClassFile.FieldType.boolean)).before args0 about1 = true := code_word (m := ⟨9, 5⟩) (meth := k9m5) (c := k9c5) (by decide +kernel) rfl rfl rfl (by decide +kernel)
set_option maxRecDepth 65536 in
theorem w_c7 : (Jvm.Cond.code ({ cls := "java/lang/StringLatin1", name := "charAt", desc := "([BI)C" } : Jvm.MethodName) jdk_43_method_2_code (2 : Nat) (Option.some Jvm.ClassFile.FieldType.char)).before args0 about1 = true := code_word (m := ⟨10, 1⟩) (meth := k10m1) (c := k10c1) (by decide +kernel) rfl rfl rfl (by decide +kernel)
set_option maxRecDepth 65536 in
theorem w_c8 : (Jvm.Cond.code ({ cls := "java/lang/String", name := "checkIndex", desc := "(II)V" } : Jvm.MethodName) jdk_42_method_155_code (2 : Nat) (Option.none : Option Jvm.ClassFile.FieldType)).before args0 about1 = true := code_word (m := ⟨9, 6⟩) (meth := k9m6) (c := k9c6) (by decide +kernel) rfl rfl rfl (by decide +kernel)
set_option maxRecDepth 65536 in
theorem w_c9 : (Jvm.Cond.code ({ cls := "jdk/internal/util/Preconditions", name := "checkIndex", desc := "(IILjava/util/function/BiFunction;)I" } : Jvm.MethodName) jdk_41_method_11_code (3 : Nat) (Option.some Jvm.ClassFile.FieldType.int)).before args0 about1 = true := code_word (m := ⟨11, 1⟩) (meth := k11m1) (c := k11c1) (by decide +kernel) rfl rfl rfl (by decide +kernel)
set_option maxRecDepth 65536 in
theorem w_c10 : (Jvm.Cond.code ({ cls := "java/lang/String", name := "isEmpty", desc := "()Z" } : Jvm.MethodName) jdk_42_method_55_code (1 : Nat) (Option.some Jvm.ClassFile.FieldType.boolean)).before args0 about1 = true := code_word (m := ⟨9, 2⟩) (meth := k9m2) (c := k9c2) (by decide +kernel) rfl rfl rfl (by decide +kernel)
def codes1 : List Jvm.Cond := [Jvm.Cond.code x code maxLocals ret, Jvm.Cond.code ({ cls := "com/example/tokenweave/tokenweave/service/PieceLayout$Position", name := "of", desc := "(ZZ)Lcom/example/tokenweave/tokenweave/service/PieceLayout$Position;" } : Jvm.MethodName) prog_77_method_8_code (2 : Nat) (Option.some (Jvm.ClassFile.FieldType.object "com/example/tokenweave/tokenweave/service/PieceLayout$Position")), Jvm.Cond.code ({ cls := "com/example/tokenweave/tokenweave/service/PieceLayout$Position", name := "prefix", desc := "()Ljava/lang/String;" } : Jvm.MethodName) prog_77_method_4_code (1 : Nat) (Option.some (Jvm.ClassFile.FieldType.object "java/lang/String")), Jvm.Cond.code ({ cls := "java/lang/String", name := "length", desc := "()I" } : Jvm.MethodName) jdk_42_method_54_code (1 : Nat) (Option.some Jvm.ClassFile.FieldType.int), Jvm.Cond.code ({ cls := "java/lang/String", name := "coder", desc := "()B" } : Jvm.MethodName) jdk_42_method_152_code (1 : Nat) (Option.some Jvm.ClassFile.FieldType.byte), Jvm.Cond.code ({ cls := "java/lang/String", name := "charAt", desc := "(I)C" } : Jvm.MethodName) jdk_42_method_56_code (2 : Nat) (Option.some Jvm.ClassFile.FieldType.char), Jvm.Cond.code ({ cls := "java/lang/String", name := "isLatin1", desc := "()Z" } : Jvm.MethodName) jdk_42_method_154_code (1 : Nat) (Option.some Jvm.ClassFile.FieldType.boolean), Jvm.Cond.code ({ cls := "java/lang/StringLatin1", name := "charAt", desc := "([BI)C" } : Jvm.MethodName) jdk_43_method_2_code (2 : Nat) (Option.some Jvm.ClassFile.FieldType.char), Jvm.Cond.code ({ cls := "java/lang/String", name := "checkIndex", desc := "(II)V" } : Jvm.MethodName) jdk_42_method_155_code (2 : Nat) (Option.none : Option Jvm.ClassFile.FieldType), Jvm.Cond.code ({ cls := "jdk/internal/util/Preconditions", name := "checkIndex", desc := "(IILjava/util/function/BiFunction;)I" } : Jvm.MethodName) jdk_41_method_11_code (3 : Nat) (Option.some Jvm.ClassFile.FieldType.int), Jvm.Cond.code ({ cls := "java/lang/String", name := "isEmpty", desc := "()Z" } : Jvm.MethodName) jdk_42_method_55_code (1 : Nat) (Option.some Jvm.ClassFile.FieldType.boolean)]
set_option maxRecDepth 65536 in
theorem codes_eq : words1.filter isCode = codes1 := rfl
theorem w_codes : ∀ c ∈ words1.filter isCode, c.before args0 about1 = true := by
  rw [codes_eq]
  intro c hc
  simp only [codes1, List.mem_cons, List.not_mem_nil, or_false] at hc
  rcases hc with rfl | rfl | rfl | rfl | rfl | rfl | rfl | rfl | rfl | rfl | rfl
  · exact w_c0
  · exact w_c1
  · exact w_c2
  · exact w_c3
  · exact w_c4
  · exact w_c5
  · exact w_c6
  · exact w_c7
  · exact w_c8
  · exact w_c9
  · exact w_c10
set_option maxRecDepth 65536 in
theorem w_t1 : (words1.take 24).all (fun c => isCode c || c.before args0 about1) = true := by decide +kernel
set_option maxRecDepth 65536 in
theorem w_t2 : ((words1.drop 24).take 24).all (fun c => isCode c || c.before args0 about1) = true := by decide +kernel
set_option maxRecDepth 65536 in
theorem w_t3 : ((words1.drop 24).drop 24).all (fun c => isCode c || c.before args0 about1) = true := by decide +kernel
theorem w_tables : (allAtoms (Jvm.Cond.code x code maxLocals ret :: tables_1)).before args0 about1 = true := by
  rw [allAtoms_all]
  show words1.all (fun c => c.before args0 about1) = true
  refine all_split ?_ w_codes
  rw [← List.take_append_drop 24 words1, List.all_append, w_t1, ← List.take_append_drop 24 (words1.drop 24), List.all_append, w_t2, w_t3]
  rfl
set_option maxRecDepth 65536 in
theorem w_rest : rest_1_c.before args0 about1 = true := by decide +kernel
set_option maxRecDepth 65536 in
theorem w_case : (Jvm.Cond.and given_1 narrow_1).before args0 about1 = true := by decide +kernel
theorem w_applies : (headSpec (Jvm.Cond.code x code maxLocals ret :: tables_1) room_1).applies x e0.platform about1 = true :=
  (Spec.applies_iff w_frames).mpr ⟨w_running, w_runnable, w_alone, w_named, w_hears, w_ripe, w_room, w_tables⟩
theorem atStart : AtStart classFile x code maxLocals ret World_1 tables_1 room_1 Calls_1 rest_1 Pre_1 launch0 p0 e0 about1 theMethod args0 below0 :=
  ⟨lists_1, trivial, launch0.admits_env _ _ _, launch0.least_env, fairChoices_fair.cas, fairChoices_fair.clock, w_frames, w_args, w_heap, w_applies, trivial, w_rest, w_case⟩
end start1
theorem witness_1 : WitnessClaimed_1 := ⟨start1.p0, start1.e0, start1.about1, start1.theMethod, start1.args0, start1.below0, start1.atStart⟩
end Jvm.Pilot.@@N@@
