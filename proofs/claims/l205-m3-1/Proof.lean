import JvmDerived
import JvmDerived.Pilot.@@N@@Statement
import JvmDerived.Pilot.@@N@@Code
set_option linter.unusedVariables false
set_option linter.unusedSimpArgs false
@@BLOCK:NumsL.lean.txt@@
namespace Jvm.Pilot.@@N@@
open Jvm Jvm.ClassFile Sem Op Lib Jvm.Free Jvm.Stand Jvm.LawKit Jvm.RoadKit Bundle Jvm.Pilot.@@N@@.Jvm.D
/-! the run from a frame on: it ends, and what it leaves -/
def own_F (p : Program) (e : Env) (below : List Frame) (Q : Outcome → State → Prop) (T : State) (g : JFrame) : Prop :=
  ∃ s₂ o, Steps p.tables e below (T.setTop g) s₂ ∧ s₂.status = .running ∧ Ended s₂ below o ∧ Q o s₂
theorem own_go {p : Program} {e : Env} {below : List Frame} {Q : Outcome → State → Prop} {T T' : State} {g g' : JFrame} (st : ∀ target, Steps p.tables e below (T'.setTop g') target → Steps p.tables e below (T.setTop g) target) (k : own_F p e below Q T' g') : own_F p e below Q T g := by
  obtain ⟨s₂, o, h1, h2, h3, h4⟩ := k
  exact ⟨s₂, o, st _ h1, h2, h3, h4⟩
theorem own_goT {p : Program} {e : Env} {below : List Frame} {Q : Outcome → State → Prop} {T T' : State} {g g' : JFrame} (st : Steps p.tables e below (T.setTop g) (T'.setTop g')) (k : own_F p e below Q T' g') : own_F p e below Q T g := by
  obtain ⟨s₂, o, h1, h2, h3, h4⟩ := k
  exact ⟨s₂, o, st.trans h1, h2, h3, h4⟩
theorem own_end {p : Program} {e : Env} {below : List Frame} {Q : Outcome → State → Prop} {T s₂ : State} {g : JFrame} {o : Outcome} (st : Steps p.tables e below (T.setTop g) s₂) (h1 : s₂.status = .running) (h2 : Ended s₂ below o) (h3 : Q o s₂) : own_F p e below Q T g := ⟨s₂, o, st, h1, h2, h3⟩
theorem own_ext_tr {h0 h h' : Heap} (E : Ext h0 h) (E' : Ext h h') : Ext h0 h' := ⟨Nat.le_trans E.1 E'.1, fun a c q => E'.2 a c (E.2 a c q)⟩
theorem own_ext_rf (h : Heap) : Ext h h := ⟨Nat.le_refl _, fun _ _ q => q⟩
theorem own_ext_keep {h0 h h' : Heap} {ws : List Addr} (E : Ext h0 h) (K : Keep h h' ws) (q : ∀ x ∈ ws, h0.size ≤ x) : Ext h0 h' :=
  ⟨Nat.le_trans E.1 K.1, fun a c ha => K.2.1 a c (E.2 a c ha) fun k => absurd (Array.getElem?_eq_some_iff.mp ha).1 (Nat.not_lt.mpr (q a k))⟩
theorem own_ext_wr {h0 h h' : Heap} {a : Addr} {sl : Nat} {v : Value} (E : Ext h0 h) (W : Wr h h' a sl v) (q : h0.size ≤ a) : Ext h0 h' :=
  own_ext_keep E (Keep.of_wr W) fun x hx => by cases List.mem_singleton.mp hx; exact q
theorem own_one {a b : Addr} (h : a ≠ b) : a ∉ [b] := fun q => h (List.mem_singleton.mp q)
theorem own_all1 {n : Nat} {b : Addr} (h : n ≤ b) : ∀ x ∈ [b], n ≤ x := fun x hx => by cases List.mem_singleton.mp hx; exact h
theorem own_all0 {n : Nat} : ∀ x ∈ ([] : List Addr), n ≤ x := fun x hx => nomatch hx
theorem own_lt_t {x y : Int64} (h : x < y) : lcmpW x y < 0 := by rw [lcW]; exact (lc_lt _ _).mpr h
theorem own_lt_f {x y : Int64} (h : ¬ x < y) : ¬ lcmpW x y < 0 := by rw [lcW]; exact fun k => h ((lc_lt _ _).mp k)
theorem own_gt_t {x y : Int64} (h : y < x) : 0 < lcmpW x y := by rw [lcW]; exact (lc_gt _ _).mpr h
theorem own_gt_f {x y : Int64} (h : ¬ y < x) : ¬ 0 < lcmpW x y := by rw [lcW]; exact fun k => h ((lc_gt _ _).mp k)
theorem own_eq_t {x y : Int64} (h : x = y) : lcmpW x y = 0 := by rw [lcW]; exact (lc_eq _ _).mpr h
theorem own_eq_f {x y : Int64} (h : ¬ x = y) : ¬ lcmpW x y = 0 := by rw [lcW]; exact fun k => h ((lc_eq _ _).mp k)
section OwnWords
variable {args : Array Value} {s : State} {t u : Term}
theorem own_eqi {k : Int32} (h : (Jvm.Cond.eq t (.int k)).value args s none s [] = some true) : t.eval args s none [] s = some (.int k) := by
  simp only [Cond.value, Term.eval] at h
  cases ht : t.eval args s none [] s with
  | none => simp [ht] at h
  | some x => cases x <;> simp [ht] at h ⊢; exact h
theorem own_eqr {b : Addr} (h : (Jvm.Cond.eq t u).value args s none s [] = some true) (hu : u.eval args s none [] s = some (.ref b)) : t.eval args s none [] s = some (.ref b) := by
  simp only [Cond.value, hu] at h
  cases ht : t.eval args s none [] s with
  | none => simp [ht] at h
  | some x => cases x <;> simp [ht] at h ⊢; exact h
theorem own_len {a : Addr} {k : Int32} {n : Nat} {cl : Cell} {ty : FieldType} (ht : t.eval args s none [] s = some (.ref a)) (h : (Term.length t).eval args s none [] s = some (.int k)) (A : RoadKit.Arr s s.heap a cl ty) (hk : k.toNatClampNeg = n) : cl.slots.size = n := by
  have ha : s.arrayAt? a = some cl := A.fin (Vm.Alike.refl _)
  by_cases hn : cl.slots.size < 2 ^ 31
  · rw [len_f ht ha hn] at h
    have e := Value.int.inj (Option.some.inj h)
    have q : cl.slots.size.toInt32.toInt = cl.slots.size := len_toInt hn
    rw [← hk, ← e]
    show _ = cl.slots.size.toInt32.toInt.toNat
    rw [q]; rfl
  · simp [Term.eval, ht, ha, hn] at h
theorem own_elem {a : Addr} {j : Int32} {v : Value} {cl : Cell} (ht : t.eval args s none [] s = some (.ref a)) (h : (Term.elem t (.int j)).eval args s none [] s = some v) (hc : s.heap[a]? = some cl) : cl.slots[j.toNatClampNeg]? = some v := (elem_in h ht (Term.int_eval j) hc).2
end OwnWords
theorem own_fne {Z : State} {h : Heap} {a b : Addr} {C n d : String} {x y : Value} (F : Fld Z h a C n d x) (G : Fld Z h b C n d y) (hn : x ≠ y) : a ≠ b := fun e => by
  subst e
  obtain ⟨c1, cf1, k1, i1, f1, h1, h2, -, -, -, -, h7⟩ := F
  obtain ⟨c2, cf2, k2, i2, f2, g1, g2, -, -, -, -, g7⟩ := G
  cases h1.symm.trans g1
  cases h2.symm.trans g2
  exact hn (Option.some.inj (h7.symm.trans g7))
/-! an array whose elements are all known -/
def own_A (Z : State) (h : Heap) (a : Addr) (k : ClassId) (ty : FieldType) (vs : List Value) : Prop := ∃ c : Cell, RoadKit.Arr Z h a c ty ∧ c.cls = k ∧ c.slots = vs.toArray
section OwnArrays
variable {Z : State} {h h' : Heap} {a b : Addr} {k : ClassId} {ty : FieldType} {vs : List Value} {sl : Nat} {v : Value} {ws : List Addr}
theorem own_A.lt (F : own_A Z h a k ty vs) : a < h.size := by obtain ⟨c, A, -⟩ := F; exact A.lt
theorem own_A.ext (F : own_A Z h a k ty vs) (E : Ext h h') : own_A Z h' a k ty vs := by obtain ⟨c, A, r⟩ := F; exact ⟨c, A.ext E, r⟩
theorem own_A.other (F : own_A Z h b k ty vs) (W : Wr h h' a sl v) (q : b ≠ a) : own_A Z h' b k ty vs := by obtain ⟨c, A, r⟩ := F; exact ⟨c, A.other W q, r⟩
theorem own_A.keep (F : own_A Z h a k ty vs) (K : Keep h h' ws) (q : a ∉ ws) : own_A Z h' a k ty vs := by obtain ⟨c, A, r⟩ := F; exact ⟨c, ⟨K.2.1 a c A.1 q, A.2⟩, r⟩
theorem own_A.new {n : Int32} {N : Nat} (A : RoadKit.Arr Z h a (newA k ty n) ty) (hN : n.toNatClampNeg = N) : own_A Z h a k ty (List.replicate N (defaultValue ty)) := ⟨_, A, rfl, by subst hN; simp [newA]⟩
theorem own_A.set (F : own_A Z h a k ty vs) (W : Wr h h' a sl v) : own_A Z h' a k ty (vs.set sl v) := by
  obtain ⟨c, A, q, e⟩ := F
  exact ⟨c.setSlot sl v, A.same W, q, by simp [Cell.setSlot, e]⟩
def own_el (c : Cell) : Nat → List Value → Prop
  | _, [] => True
  | i, v :: vs => c.slots[i]? = some v ∧ own_el c (i + 1) vs
theorem own_el_get {c : Cell} : ∀ (vs : List Value) (i : Nat), own_el c i vs → ∀ j, j < vs.length → c.slots[i + j]? = vs[j]?
  | [], _, _, j, hj => by simp at hj
  | v :: vs, i, H, 0, _ => by simpa using H.1
  | v :: vs, i, H, j + 1, hj => by
    have := own_el_get vs (i + 1) H.2 j (by simpa using hj)
    rw [show i + (j + 1) = i + 1 + j by omega, this]; simp
theorem own_A.of {c : Cell} (A : RoadKit.Arr Z h a c ty) (hs : c.slots.size = vs.length) (H : own_el c 0 vs) : own_A Z h a c.cls ty vs := by
  refine ⟨c, A, rfl, ?_⟩
  apply Array.ext_getElem?
  intro i
  by_cases hi : i < vs.length
  · have := own_el_get vs 0 H i hi
    rw [Nat.zero_add] at this
    rw [this]; simp
  · rw [Array.getElem?_eq_none (by omega), Array.getElem?_eq_none (by simp; omega)]
theorem own_getD {α : Type} (xs : List α) {i : Nat} (d : α) (hi : i < xs.length) : xs.getD i d = xs[i] := by simp [List.getD, hi]
theorem own_A.arv {z : Int32} {d : Value} (F : own_A Z h a k ty vs) (hz : ¬ z < 0) (hl : vs.length = z.toNatClampNeg) (hf : ∀ v ∈ vs, fits ty v = true) : Arv Z h a k ty z vs d := by
  obtain ⟨c, A, q, e⟩ := F
  refine ⟨c, A, q, by rw [e, List.size_toArray]; exact hl, hz, fun i hi => ?_, fun i hi => ?_⟩
  · rw [e, List.size_toArray] at hi
    rw [e, List.getElem?_toArray, List.getElem?_eq_getElem hi, own_getD _ _ hi]
  · rw [e, List.size_toArray] at hi
    rw [own_getD _ _ hi]; exact hf _ (List.getElem_mem hi)
theorem own_A.of_arv {z : Int32} {d : Value} (F : Arv Z h a k ty z vs d) (hl : vs.length = z.toNatClampNeg) : own_A Z h a k ty vs := by
  obtain ⟨c, A, q, S, -, H, -⟩ := F
  refine ⟨c, A, q, ?_⟩
  apply Array.ext_getElem?
  intro i
  by_cases hi : i < vs.length
  · rw [H i (by omega), List.getElem?_toArray, List.getElem?_eq_getElem hi, own_getD _ _ hi]
  · rw [Array.getElem?_eq_none (by omega), Array.getElem?_eq_none (by simp; omega)]
theorem own_A.sto {C : String} {y : Addr} (F : own_A Z h a k (.object C) vs) (O : Ovr Z k C) (I : Ins Z h y C true) : Sto Z h a (.ref y) := by
  obtain ⟨c, A, q, -⟩ := F
  exact Sto.ofV A q O I
variable {p : Program} {l : Launch} {e : Env} {R : Room} {s : State} {m : MethodId} {args : Array Value} {below : List Frame} {meth : Method} {c : Code} {T : State} {locs : List Loc} {cells slots : Nat}
theorem own_alen (X : Stand p l e R s m args below meth c T locs cells slots) (hx : p.tables.exec = Jvm.exec) (hZ : Z.Warmed39 s.vm) (eT : T.heap = h) (A : own_A Z h a k ty vs) {g : JFrame} (hg : g.method = m) {rest : List Value} (hs : g.stack = .ref a :: rest) (hd : decode c.code g.pc = .ok (.arraylength, 1)) {n : Int32} (hn : vs.length.toInt32 = n) {target : State}
    (hr : Steps p.tables e below (T.setTop { g with pc := g.pc + 1, stack := .int n :: rest }) target) : Steps p.tables e below (T.setTop g) target := by
  obtain ⟨c', A, -, e'⟩ := A
  refine X.arraylength hx (by rw [eT]; exact A.1) (State.isArrayOf_alike hZ.alike A.2.1) hg hs hd _ ?_
  rw [show c'.slots.size.toInt32 = n by rw [e', List.size_toArray]; exact hn]
  exact hr
theorem own_in {c' : Cell} {j : Int32} (e' : c'.slots = vs.toArray) (hj : ¬ j < 0) (hv : vs[j.toNatClampNeg]? = some v) : c'.slots[j.toNatClampNeg]? = some v ∧ ¬ (j < 0 ∨ c'.slots.size ≤ j.toNatClampNeg) := by
  have hv' : c'.slots[j.toNatClampNeg]? = some v := by rw [e', List.getElem?_toArray]; exact hv
  exact ⟨hv', fun q => q.elim hj fun z => absurd (Array.getElem?_eq_some_iff.mp hv').1 (Nat.not_lt.mpr z)⟩
theorem own_baload (X : Stand p l e R s m args below meth c T locs cells slots) (hx : p.tables.exec = Jvm.exec) (hZ : Z.Warmed39 s.vm) (eT : T.heap = h) (A : own_A Z h a k .byte vs) {j : Int32} (hj : ¬ j < 0) (hv : vs[j.toNatClampNeg]? = some v) {g : JFrame} (hg : g.method = m) {rest : List Value} (hs : g.stack = .int j :: .ref a :: rest) (hd : decode c.code g.pc = .ok (.baload, 1)) {target : State}
    (hr : Steps p.tables e below (T.setTop { g with pc := g.pc + 1, stack := v :: rest }) target) : Steps p.tables e below (T.setTop g) target := by
  obtain ⟨c', A, -, e'⟩ := A
  obtain ⟨hv', hin⟩ := own_in e' hj hv
  exact X.baloadBytes hx (by rw [eT]; exact A.1) (State.isArrayOf_alike hZ.alike A.2.1) A.2.2 hin hv' hg hs hd _ hr
theorem own_laload (X : Stand p l e R s m args below meth c T locs cells slots) (hx : p.tables.exec = Jvm.exec) (hZ : Z.Warmed39 s.vm) (eT : T.heap = h) (A : own_A Z h a k .long vs) {j : Int32} (hj : ¬ j < 0) (hv : vs[j.toNatClampNeg]? = some v) {g : JFrame} (hg : g.method = m) {rest : List Value} (hs : g.stack = .int j :: .ref a :: rest) (hd : decode c.code g.pc = .ok (.laload, 1)) {target : State}
    (hr : Steps p.tables e below (T.setTop { g with pc := g.pc + 1, stack := v :: rest }) target) : Steps p.tables e below (T.setTop g) target := by
  obtain ⟨c', A, -, e'⟩ := A
  obtain ⟨hv', hin⟩ := own_in e' hj hv
  exact X.laload hx (by rw [eT]; exact A.1) (State.isArrayOf_alike hZ.alike A.2.1) A.2.2 hin hv' hg hs hd _ hr
theorem own_iaload (X : Stand p l e R s m args below meth c T locs cells slots) (hx : p.tables.exec = Jvm.exec) (hZ : Z.Warmed39 s.vm) (eT : T.heap = h) (A : own_A Z h a k .int vs) {j : Int32} (hj : ¬ j < 0) (hv : vs[j.toNatClampNeg]? = some v) {g : JFrame} (hg : g.method = m) {rest : List Value} (hs : g.stack = .int j :: .ref a :: rest) (hd : decode c.code g.pc = .ok (.iaload, 1)) {target : State}
    (hr : Steps p.tables e below (T.setTop { g with pc := g.pc + 1, stack := v :: rest }) target) : Steps p.tables e below (T.setTop g) target := by
  obtain ⟨c', A, -, e'⟩ := A
  obtain ⟨hv', hin⟩ := own_in e' hj hv
  exact X.iaload hx (by rw [eT]; exact A.1) (State.isArrayOf_alike hZ.alike A.2.1) A.2.2 hin hv' hg hs hd _ hr
theorem own_caload (X : Stand p l e R s m args below meth c T locs cells slots) (hx : p.tables.exec = Jvm.exec) (hZ : Z.Warmed39 s.vm) (eT : T.heap = h) (A : own_A Z h a k .char vs) {j : Int32} (hj : ¬ j < 0) (hv : vs[j.toNatClampNeg]? = some v) {g : JFrame} (hg : g.method = m) {rest : List Value} (hs : g.stack = .int j :: .ref a :: rest) (hd : decode c.code g.pc = .ok (.caload, 1)) {target : State}
    (hr : Steps p.tables e below (T.setTop { g with pc := g.pc + 1, stack := v :: rest }) target) : Steps p.tables e below (T.setTop g) target := by
  obtain ⟨c', A, -, e'⟩ := A
  obtain ⟨hv', hin⟩ := own_in e' hj hv
  exact X.caload hx (by rw [eT]; exact A.1) (State.isArrayOf_alike hZ.alike A.2.1) A.2.2 hin hv' hg hs hd _ hr
theorem own_aaload (X : Stand p l e R s m args below meth c T locs cells slots) (hx : p.tables.exec = Jvm.exec) (hZ : Z.Warmed39 s.vm) (eT : T.heap = h) (A : own_A Z h a k ty vs) {j : Int32} (hj : ¬ j < 0) (hv : vs[j.toNatClampNeg]? = some v) (ht : ty.isReference = true) {g : JFrame} (hg : g.method = m) {rest : List Value} (hs : g.stack = .int j :: .ref a :: rest) (hd : decode c.code g.pc = .ok (.aaload, 1)) {target : State}
    (hr : Steps p.tables e below (T.setTop { g with pc := g.pc + 1, stack := v :: rest }) target) : Steps p.tables e below (T.setTop g) target := by
  obtain ⟨c', A, -, e'⟩ := A
  obtain ⟨hv', hin⟩ := own_in e' hj hv
  exact X.aaload hx (by rw [eT]; exact A.1) (State.isArrayOf_alike hZ.alike A.2.1) ht A.2.2 hin hv' hg hs hd _ hr
theorem own_inb {c' : Cell} {j : Int32} {i : Nat} (e' : c'.slots = vs.toArray) (hi : j.toNatClampNeg = i) (hj : ¬ j < 0) (hl : i < vs.length) : ¬ (j < 0 ∨ c'.slots.size ≤ j.toNatClampNeg) := fun q => q.elim hj fun z => by
  rw [e', List.size_toArray, hi] at z; omega
theorem own_bastore (X : Stand p l e R s m args below meth c T locs cells slots) (hx : p.tables.exec = Jvm.exec) (hZ : Z.Warmed39 s.vm) (eT : T.heap = h) (A : own_A Z h a k .byte vs) {j x : Int32} {i : Nat} (hi : j.toNatClampNeg = i) (hj : ¬ j < 0) (hl : i < vs.length) {g : JFrame} (hg : g.method = m) {rest : List Value} (hs : g.stack = .int x :: .int j :: .ref a :: rest) (hd : decode c.code g.pc = .ok (.bastore, 1)) :
    ∃ T' h', Stand p l e R s m args below meth c T' (locs ++ [⟨a, i⟩]) cells slots ∧ T'.heap = h' ∧ own_A Z h' a k .byte (vs.set i (.int (nar .byte x))) ∧ Wr h h' a i (.int (nar .byte x)) ∧ ∀ target, Steps p.tables e below (T'.setTop { g with pc := g.pc + 1, stack := rest }) target → Steps p.tables e below (T.setTop g) target := by
  obtain ⟨c', A', q, e'⟩ := A
  obtain ⟨T', h', X', e1, W, st⟩ := stB X hx hZ eT A' (own_inb e' hi hj hl) hg hs hd
  subst hi
  exact ⟨T', h', X', e1, own_A.set ⟨c', A', q, e'⟩ W, W, st⟩
theorem own_lastore (X : Stand p l e R s m args below meth c T locs cells slots) (hx : p.tables.exec = Jvm.exec) (hZ : Z.Warmed39 s.vm) (eT : T.heap = h) (A : own_A Z h a k .long vs) {j : Int32} {x : Int64} {i : Nat} (hi : j.toNatClampNeg = i) (hj : ¬ j < 0) (hl : i < vs.length) {g : JFrame} (hg : g.method = m) {rest : List Value} (hs : g.stack = .long x :: .int j :: .ref a :: rest) (hd : decode c.code g.pc = .ok (.lastore, 1)) :
    ∃ T' h', Stand p l e R s m args below meth c T' (locs ++ [⟨a, i⟩]) cells slots ∧ T'.heap = h' ∧ own_A Z h' a k .long (vs.set i (.long x)) ∧ Wr h h' a i (.long x) ∧ ∀ target, Steps p.tables e below (T'.setTop { g with pc := g.pc + 1, stack := rest }) target → Steps p.tables e below (T.setTop g) target := by
  obtain ⟨c', A', q, e'⟩ := A
  obtain ⟨T', h', X', e1, W, st⟩ := stJ X hx hZ eT A' (own_inb e' hi hj hl) hg hs hd
  subst hi
  exact ⟨T', h', X', e1, own_A.set ⟨c', A', q, e'⟩ W, W, st⟩
theorem own_aastore (X : Stand p l e R s m args below meth c T locs cells slots) (hx : p.tables.exec = Jvm.exec) (hZ : Z.Warmed39 s.vm) (eT : T.heap = h) (A : own_A Z h a k ty vs) {j : Int32} {i : Nat} (hi : j.toNatClampNeg = i) (hj : ¬ j < 0) (hl : i < vs.length) (ht : ty.isReference = true) (F : Sto Z h a v) {g : JFrame} (hg : g.method = m) {rest : List Value} (hs : g.stack = v :: .int j :: .ref a :: rest) (hd : decode c.code g.pc = .ok (.aastore, 1)) :
    ∃ T' h', Stand p l e R s m args below meth c T' (locs ++ [⟨a, i⟩]) cells slots ∧ T'.heap = h' ∧ own_A Z h' a k ty (vs.set i v) ∧ Wr h h' a i v ∧ ∀ target, Steps p.tables e below (T'.setTop { g with pc := g.pc + 1, stack := rest }) target → Steps p.tables e below (T.setTop g) target := by
  obtain ⟨c', A', q, e'⟩ := A
  obtain ⟨T', h', X', e1, W, st⟩ := stR X hx hZ eT A' (own_inb e' hi hj hl) ht F hg hs hd
  subst hi
  exact ⟨T', h', X', e1, own_A.set ⟨c', A', q, e'⟩ W, W, st⟩
end OwnArrays
theorem own_m31 (x : Int32) : (x &&& 2147483647).toInt = x.toInt % 2 ^ 31 := Jvm.Kit.i32_mask x 2147483647 (k := 31) (by decide) (by decide)
theorem own_mod6 (x : Int32) : (x &&& 2147483647) % 6 = 0 ∨ (x &&& 2147483647) % 6 = 1 ∨ (x &&& 2147483647) % 6 = 2 ∨ (x &&& 2147483647) % 6 = 3 ∨ (x &&& 2147483647) % 6 = 4 ∨ (x &&& 2147483647) % 6 = 5 := by
  have h1 := own_m31 x
  have h2 : ((x &&& 2147483647) % 6).toInt = (x &&& 2147483647).toInt % (6 : Int32).toInt := Jvm.Kit.i32_rem_nonneg (by omega)
  have h3 : (6 : Int32).toInt = 6 := rfl
  have h4 : ((x &&& 2147483647) % 6).toInt = 0 ∨ ((x &&& 2147483647) % 6).toInt = 1 ∨ ((x &&& 2147483647) % 6).toInt = 2 ∨ ((x &&& 2147483647) % 6).toInt = 3 ∨ ((x &&& 2147483647) % 6).toInt = 4 ∨ ((x &&& 2147483647) % 6).toInt = 5 := by rw [h2, h3]; omega
  rcases h4 with h | h | h | h | h | h
  · exact Or.inl (Int32.toInt_inj.mp h)
  · exact Or.inr (Or.inl (Int32.toInt_inj.mp h))
  · exact Or.inr (Or.inr (Or.inl (Int32.toInt_inj.mp h)))
  · exact Or.inr (Or.inr (Or.inr (Or.inl (Int32.toInt_inj.mp h))))
  · exact Or.inr (Or.inr (Or.inr (Or.inr (Or.inl (Int32.toInt_inj.mp h)))))
  · exact Or.inr (Or.inr (Or.inr (Or.inr (Or.inr ((Int32.toInt_inj.mp h))))))
def own_pick (k : Int32) (a_ACQUISITIONS a_EXPIRED_TAKEOVERS a_RENEWALS a_RENEWALS_FAILED a_HOLDINGS_LOST a_RELEASES : Addr) : Addr := if k = 0 then a_ACQUISITIONS else if k = 1 then a_EXPIRED_TAKEOVERS else if k = 2 then a_RENEWALS else if k = 3 then a_RENEWALS_FAILED else if k = 4 then a_HOLDINGS_LOST else a_RELEASES
def own_s (e : Int64) (t n u i : Int32) : Int64 := if t < n then (if u = i then e + 1 else e) else e
def own_exp (i n a b d : Int32) : Int64 := own_s (own_s (own_s 0 0 n a i) 1 n b i) 2 n d i
def own_inc (cs : List Int64) (k : Nat) : List Int64 := cs.set k (cs.getD k 0 + 1)
theorem own_inc_len {cs : List Int64} {k n : Nat} (h : cs.length = n) : (own_inc cs k).length = n := by rw [own_inc, List.length_set]; exact h
theorem own_get {cs : List Int64} {k : Nat} (h : k < cs.length) : (cs.map Value.long)[k]? = some (.long (cs.getD k 0)) := by
  rw [List.getElem?_map, List.getElem?_eq_getElem h, own_getD _ _ h]; rfl
theorem own_incA {Z : State} {h : Heap} {a : Addr} {k : ClassId} {cs : List Int64} {i : Nat} (V : own_A Z h a k .long ((cs.map Value.long).set i (.long (cs.getD i 0 + 1)))) : own_A Z h a k .long ((own_inc cs i).map Value.long) := by
  rw [own_inc, List.map_set]; exact V
theorem own_inc_get {cs : List Int64} {k i : Nat} (hk : k < cs.length) (hi : i < cs.length) : (own_inc cs k).getD i 0 = if k = i then cs.getD i 0 + 1 else cs.getD i 0 := by
  have h1 : i < (own_inc cs k).length := by rw [own_inc_len rfl]; exact hi
  rw [own_getD _ _ h1]
  simp only [own_inc, List.getElem_set]
  split
  · rename_i e; subst e; rfl
  · rw [own_getD _ _ hi]
theorem own_nat_inj {u i : Int32} (hu : ¬ u < 0) (hi : ¬ i < 0) (h : u.toNatClampNeg = i.toNatClampNeg) : u = i := by
  apply Int32.toInt_inj.mp
  rw [Int32.lt_iff_toInt_lt] at hu hi
  have h0 : (0 : Int32).toInt = 0 := rfl
  have : u.toInt.toNat = i.toInt.toNat := h
  omega
theorem own_i0 (i : Int32) (p : ¬ i < 0) (q : i.toNatClampNeg < 6) : ([0, 0, 0, 0, 0, 0] : List Int64).getD i.toNatClampNeg 0 = 0 := by
  generalize i.toNatClampNeg = k at q
  match k, q with
  | 0, _ => rfl
  | 1, _ => rfl
  | 2, _ => rfl
  | 3, _ => rfl
  | 4, _ => rfl
  | 5, _ => rfl
theorem own_no {cs : List Int64} {e : Int64} {t n u i : Int32} (h : cs.getD i.toNatClampNeg 0 = e) (hn : ¬ t < n) : cs.getD i.toNatClampNeg 0 = own_s e t n u i := by rw [own_s, if_neg hn]; exact h
theorem own_yes {cs : List Int64} {e : Int64} {t n u i : Int32} (hl : cs.length = 6) (hu : ¬ u < 0) (lu : u.toNatClampNeg < 6) (hi : ¬ i < 0) (li : i.toNatClampNeg < 6) (h : cs.getD i.toNatClampNeg 0 = e) (hn : t < n) : (own_inc cs u.toNatClampNeg).getD i.toNatClampNeg 0 = own_s e t n u i := by
  rw [own_s, if_pos hn, own_inc_get (by omega) (by omega), h]
  by_cases e1 : u = i
  · rw [if_pos e1, if_pos (by rw [e1])]
  · rw [if_neg e1, if_neg fun z => e1 (own_nat_inj hu hi z)]
theorem own_picked {Z : State} {h : Heap} {C : String} {k : Int32} {a_ACQUISITIONS a_EXPIRED_TAKEOVERS a_RENEWALS a_RENEWALS_FAILED a_HOLDINGS_LOST a_RELEASES : Addr} (E0 : Exa Z h a_ACQUISITIONS C) (F0 : Fld Z h a_ACQUISITIONS "java/lang/Enum" "ordinal" "I" (.int 0)) (E1 : Exa Z h a_EXPIRED_TAKEOVERS C) (F1 : Fld Z h a_EXPIRED_TAKEOVERS "java/lang/Enum" "ordinal" "I" (.int 1)) (E2 : Exa Z h a_RENEWALS C) (F2 : Fld Z h a_RENEWALS "java/lang/Enum" "ordinal" "I" (.int 2)) (E3 : Exa Z h a_RENEWALS_FAILED C) (F3 : Fld Z h a_RENEWALS_FAILED "java/lang/Enum" "ordinal" "I" (.int 3)) (E4 : Exa Z h a_HOLDINGS_LOST C) (F4 : Fld Z h a_HOLDINGS_LOST "java/lang/Enum" "ordinal" "I" (.int 4)) (E5 : Exa Z h a_RELEASES C) (F5 : Fld Z h a_RELEASES "java/lang/Enum" "ordinal" "I" (.int 5)) (hk : k = 0 ∨ k = 1 ∨ k = 2 ∨ k = 3 ∨ k = 4 ∨ k = 5) : ∃ r, own_pick k a_ACQUISITIONS a_EXPIRED_TAKEOVERS a_RENEWALS a_RENEWALS_FAILED a_HOLDINGS_LOST a_RELEASES = r ∧ Exa Z h r C ∧ Fld Z h r "java/lang/Enum" "ordinal" "I" (.int k) ∧ ¬ k < 0 ∧ k.toNatClampNeg < 6 := by
  rcases hk with rfl | rfl | rfl | rfl | rfl | rfl
  · exact ⟨_, rfl, by simpa [own_pick] using E0, by simpa [own_pick] using F0, by decide, by decide⟩
  · exact ⟨_, rfl, by simpa [own_pick] using E1, by simpa [own_pick] using F1, by decide, by decide⟩
  · exact ⟨_, rfl, by simpa [own_pick] using E2, by simpa [own_pick] using F2, by decide, by decide⟩
  · exact ⟨_, rfl, by simpa [own_pick] using E3, by simpa [own_pick] using F3, by decide, by decide⟩
  · exact ⟨_, rfl, by simpa [own_pick] using E4, by simpa [own_pick] using F4, by decide, by decide⟩
  · exact ⟨_, rfl, by simpa [own_pick] using E5, by simpa [own_pick] using F5, by decide, by decide⟩
theorem own_fitr {C : String} {a_ACQUISITIONS a_EXPIRED_TAKEOVERS a_RENEWALS a_RENEWALS_FAILED a_HOLDINGS_LOST a_RELEASES : Addr} : ∀ v ∈ [Value.ref a_ACQUISITIONS, Value.ref a_EXPIRED_TAKEOVERS, Value.ref a_RENEWALS, Value.ref a_RENEWALS_FAILED, Value.ref a_HOLDINGS_LOST, Value.ref a_RELEASES], fits (.object C) v = true := by
  intro v hv
  simp only [List.mem_cons, List.not_mem_nil, or_false] at hv
  rcases hv with rfl | rfl | rfl | rfl | rfl | rfl <;> rfl
section OwnClone
variable {p : Program} {l : Launch} {e : Env} {R : Room} {s : State} {m : MethodId} {args : Array Value} {below : List Frame} {meth : Method} {c : Code} {T : State} {locs : List Loc} {cells slots : Nat} {Z : State} {a0 : Array Value} {h : Heap} {a : Addr} {k : ClassId} {ty : FieldType} {vs : List Value}
theorem own_clone (X : Stand p l e R s m args below meth c T locs cells slots) (hx : p.tables.exec = Jvm.exec) (hZ : Z.Warmed39 s.vm) {own ad : String} {index : Nat} (hown : s.vm.findClass own = some m.cls)
    (w1 : (Jvm.Cond.methodLink own index ⟨ad, "clone", "()Ljava/lang/Object;"⟩).before a0 Z = true) (w2 : (Jvm.Cond.sameMethod ad "java/lang/Object" "clone" "()Ljava/lang/Object;").before a0 Z = true) (w3 : (Jvm.Cond.native ⟨"java/lang/Object", "clone", "()Ljava/lang/Object;"⟩).before a0 Z = true)
    (w4 : (Jvm.Cond.instanceMethod ⟨"java/lang/Object", "clone", "()Ljava/lang/Object;"⟩).before a0 Z = true) (w5 : (Jvm.Cond.selects ad ⟨ad, "clone", "()Ljava/lang/Object;"⟩ ⟨"java/lang/Object", "clone", "()Ljava/lang/Object;"⟩).before a0 Z = true) (w6 : (Jvm.Cond.castable ad "java/lang/Cloneable").before a0 Z = true)
    (eT : T.heap = h) (F : own_A Z h a k ty vs) (E : Exa Z h a ad) (hf : ∀ v ∈ vs, fits ty v = true) {g : JFrame} (hg : g.method = m) (hsize : g.locals.size = c.maxLocals) {rest : List Value} (hs : g.stack = .ref a :: rest) (hd : decode c.code g.pc = .ok (.invokevirtual index, 3))
    (hfr : 1 ≤ R.frames) {W cap : Nat} (hW : 2 * g.monitorRoom + (rest.map fun v => v.category).sum ≤ W) (hl : W + 14 ≤ R.locals) (hcap : vs.length ≤ cap) (hc : cells + 1 ≤ R.cells) (hsl : slots + cap ≤ R.slots) :
    ∃ T' h', Stand p l e R s m args below meth c T' locs (cells + 1) (slots + cap) ∧ T'.heap = h' ∧ Ext h h' ∧ own_A Z h' h.size k ty vs ∧ Exa Z h' h.size ad ∧
      ∀ target, Steps p.tables e below (T'.setTop { g with pc := g.pc + 3, stack := .ref h.size :: rest }) target → Steps p.tables e below (T.setTop g) target := by
  obtain ⟨cl, A, q, e1⟩ := F
  have FC : FitC Z cl := fitC_of A fun i hi v hv => by
    rw [e1, List.getElem?_toArray] at hv
    exact hf v (List.mem_of_getElem? hv)
  obtain ⟨T', h', X', e', ex, A', E', st⟩ := cloneA X hx hZ hown w1 w2 w3 w4 w5 w6 eT A E FC hg hsize hs hd hfr hW hl (by rw [e1, List.size_toArray]; exact hcap) hc hsl
  exact ⟨T', h', X', e', ex, ⟨cloneOf cl, A', q, e1⟩, E', st⟩
end OwnClone
theorem own_dO_0 : decode jdk_37_method_2_code 0 = .ok (.aload_n 0, 1) := by decide +kernel
theorem own_dO_1 : decode jdk_37_method_2_code 1 = .ok (.getfield 7, 3) := by decide +kernel
theorem own_dO_4 : decode jdk_37_method_2_code 4 = .ok (.ireturn, 1) := by decide +kernel
theorem own_efO (m : MethodId) (xo : Addr) : entryFrame m #[(.ref xo)] 1 = mkF m 0 #[.val (.ref xo)] [] := by first | (simp [entryFrame, mkF, argsToLocals, Value.category]; done) | rfl
def own_QO (Z : State) (xo : Addr) (xk : Int32) (h0 : Heap) (n0 : Nat) (v : Option Value) (h : Heap) (L : List Loc) : Prop := v = some (.int xk) ∧ Fr n0 L ∧ h = h0
theorem own_pn0 : plainName "java/lang/Enum" = true := by first | (simp [plainName, overriddenIn]; done) | decide +kernel
set_option maxRecDepth 65536 in
set_option maxHeartbeats 40000000 in
theorem own_rO (l : Launch) (Z : State) (a0 : Array Value) (hw : ∀ d ∈ tables_1, d.before a0 Z = true) (ws : List Jvm.Cond) (xo : Addr) (xk : Int32) (h0 : Heap) (n0 : Nat) (Z0 : n0 ≤ h0.size) (Fo : Fld Z h0 xo "java/lang/Enum" "ordinal" "I" (.int xk)) :
    MetFree l (⟨"java/lang/Enum", "ordinal", "()I"⟩ : MethodName) (head1 (Jvm.Cond.code (⟨"java/lang/Enum", "ordinal", "()I"⟩ : MethodName) jdk_37_method_2_code 1 (some .int) :: ws) ({ frames := 0, cells := 0, slots := 0, locals := 0 } : Room)) (fun a U => a = #[(.ref xo)] ∧ Z.Warmed39 U.vm ∧ U.heap = h0) (fun _ _ _ _ _ => True) (fun _ U o U' => ∃ v L, o = .returned v ∧ own_QO Z xo xk h0 n0 v U'.heap L ∧ FrameEnd U o U' L ({ frames := 0, cells := 0, slots := 0, locals := 0 } : Room).cells ({ frames := 0, cells := 0, slots := 0, locals := 0 } : Room).slots) := by
  refine MetFree.of_bodySF (plainFor_of_name own_pn0) hisR ?_
  intro p e s m args below meth c s₁ Bd hml0 hP hK
  obtain ⟨rfl, hZ, hh⟩ := hP
  have hx := Bd.exec
  have hby := Bd.bytes
  have hml : c.maxLocals = 1 := hml0
  have hown : s.vm.findClass "java/lang/Enum" = some m.cls := findClass_of_methodNamed Bd.named
  have hnm := (name_of_methodNamed Bd.named Bd.method).1
  have X0 : Stand p l e ({ frames := 0, cells := 0, slots := 0, locals := 0 } : Room) s m #[(.ref xo)] below meth c s₁ [] 0 0 := Stand.of_body Bd
  have e0 : s₁.heap = h0 := by rw [← hh, Bd.state]; rfl
  have N0 := Fr.nil n0
  show own_F p e below (fun o U' => ∃ v L, o = .returned v ∧ own_QO Z xo xk h0 n0 v U'.heap L ∧ FrameEnd s o U' L ({ frames := 0, cells := 0, slots := 0, locals := 0 } : Room).cells ({ frames := 0, cells := 0, slots := 0, locals := 0 } : Room).slots) s₁ (entryFrame m #[(.ref xo)] 1)
  rw [own_efO m xo]
  refine own_go (T' := s₁) (g' := (mkF m 1 #[.val (.ref xo)] [(.ref xo)])) (fun _ k => XS.aloadN X0.here hx rfl (hb hby own_dO_0) rfl rfl k) ?_
  obtain ⟨T1, X1, e1, st1⟩ := getF X0 hx hZ hown (host := "") (Or.inl (hw _ (List.mem_of_getElem? (i := 57) rfl))) Via.refl e0 Fo (g := (mkF m 1 #[.val (.ref xo)] [(.ref xo)])) rfl rfl (hb hby own_dO_1)
  refine own_go (T' := T1) (g' := (mkF m 4 #[.val (.ref xo)] [(.int xk)])) (fun _ k => st1 _ k) ?_
  obtain ⟨fs, hr, hrun, hended, hW, hsame⟩ := X1.leave (v := some (.int xk)) (fun h => by rw [Bd.returns] at h; cases h)
  refine own_end (retOut X1 hx Bd.returns rfl (Or.inl ⟨rfl, Or.inl rfl, _, rfl⟩) (hb hby own_dO_4) hr) hrun hended ⟨_, _, rfl, (?_ : own_QO Z xo xk h0 n0 _ T1.heap _), ⟨_, rfl⟩, hW, hsame.mono (by decide) (by decide)⟩
  rw [e1]
  exact ⟨rfl, N0, rfl⟩
theorem own_dP_0 : decode method_2_code 0 = .ok (.iload_n 0, 1) := by decide +kernel
theorem own_dP_1 : decode method_2_code 1 = .ok (.ifCond .ne 7, 3) := by decide +kernel
theorem own_dP_4 : decode method_2_code 4 = .ok (.getstatic 7, 3) := by decide +kernel
theorem own_dP_7 : decode method_2_code 7 = .ok (.areturn, 1) := by decide +kernel
theorem own_dP_8 : decode method_2_code 8 = .ok (.iload_n 0, 1) := by decide +kernel
theorem own_dP_9 : decode method_2_code 9 = .ok (.iconst 1, 1) := by decide +kernel
theorem own_dP_10 : decode method_2_code 10 = .ok (.if_icmp .ne 7, 3) := by decide +kernel
theorem own_dP_13 : decode method_2_code 13 = .ok (.getstatic 13, 3) := by decide +kernel
theorem own_dP_16 : decode method_2_code 16 = .ok (.areturn, 1) := by decide +kernel
theorem own_dP_17 : decode method_2_code 17 = .ok (.iload_n 0, 1) := by decide +kernel
theorem own_dP_18 : decode method_2_code 18 = .ok (.iconst 2, 1) := by decide +kernel
theorem own_dP_19 : decode method_2_code 19 = .ok (.if_icmp .ne 7, 3) := by decide +kernel
theorem own_dP_22 : decode method_2_code 22 = .ok (.getstatic 16, 3) := by decide +kernel
theorem own_dP_25 : decode method_2_code 25 = .ok (.areturn, 1) := by decide +kernel
theorem own_dP_26 : decode method_2_code 26 = .ok (.iload_n 0, 1) := by decide +kernel
theorem own_dP_27 : decode method_2_code 27 = .ok (.iconst 3, 1) := by decide +kernel
theorem own_dP_28 : decode method_2_code 28 = .ok (.if_icmp .ne 7, 3) := by decide +kernel
theorem own_dP_31 : decode method_2_code 31 = .ok (.getstatic 19, 3) := by decide +kernel
theorem own_dP_34 : decode method_2_code 34 = .ok (.areturn, 1) := by decide +kernel
theorem own_dP_35 : decode method_2_code 35 = .ok (.iload_n 0, 1) := by decide +kernel
theorem own_dP_36 : decode method_2_code 36 = .ok (.iconst 4, 1) := by decide +kernel
theorem own_dP_37 : decode method_2_code 37 = .ok (.if_icmp .ne 7, 3) := by decide +kernel
theorem own_dP_40 : decode method_2_code 40 = .ok (.getstatic 22, 3) := by decide +kernel
theorem own_dP_43 : decode method_2_code 43 = .ok (.areturn, 1) := by decide +kernel
theorem own_dP_44 : decode method_2_code 44 = .ok (.getstatic 25, 3) := by decide +kernel
theorem own_dP_47 : decode method_2_code 47 = .ok (.areturn, 1) := by decide +kernel
theorem own_efP (m : MethodId) (xk : Int32) : entryFrame m #[(.int xk)] 1 = mkF m 0 #[.val (.int xk)] [] := by first | (simp [entryFrame, mkF, argsToLocals, Value.category]; done) | rfl
def own_QP (Z : State) (xk : Int32) (a_ACQUISITIONS : Addr) (a_EXPIRED_TAKEOVERS : Addr) (a_RENEWALS : Addr) (a_RENEWALS_FAILED : Addr) (a_HOLDINGS_LOST : Addr) (a_RELEASES : Addr) (xr : Addr) (h0 : Heap) (n0 : Nat) (v : Option Value) (h : Heap) (L : List Loc) : Prop := v = some (.ref xr) ∧ Fr n0 L ∧ h = h0
theorem own_pn1 : plainName "com/example/leased/leased/CountsStepPinLaw" = true := by first | (simp [plainName, overriddenIn]; done) | decide +kernel
set_option maxRecDepth 65536 in
set_option maxHeartbeats 40000000 in
theorem own_rP (l : Launch) (Z : State) (a0 : Array Value) (hw : ∀ d ∈ tables_1, d.before a0 Z = true) (ws : List Jvm.Cond) (xk : Int32) (a_ACQUISITIONS : Addr) (a_EXPIRED_TAKEOVERS : Addr) (a_RENEWALS : Addr) (a_RENEWALS_FAILED : Addr) (a_HOLDINGS_LOST : Addr) (a_RELEASES : Addr) (xr : Addr) (h0 : Heap) (n0 : Nat) (Z0 : n0 ≤ h0.size) (S_ACQUISITIONS : Sta Z h0 "com/example/leased/leased/ElectorStatus$Count" "ACQUISITIONS" "Lcom/example/leased/leased/ElectorStatus$Count;" (.ref a_ACQUISITIONS)) (S_EXPIRED_TAKEOVERS : Sta Z h0 "com/example/leased/leased/ElectorStatus$Count" "EXPIRED_TAKEOVERS" "Lcom/example/leased/leased/ElectorStatus$Count;" (.ref a_EXPIRED_TAKEOVERS)) (S_RENEWALS : Sta Z h0 "com/example/leased/leased/ElectorStatus$Count" "RENEWALS" "Lcom/example/leased/leased/ElectorStatus$Count;" (.ref a_RENEWALS)) (S_RENEWALS_FAILED : Sta Z h0 "com/example/leased/leased/ElectorStatus$Count" "RENEWALS_FAILED" "Lcom/example/leased/leased/ElectorStatus$Count;" (.ref a_RENEWALS_FAILED)) (S_HOLDINGS_LOST : Sta Z h0 "com/example/leased/leased/ElectorStatus$Count" "HOLDINGS_LOST" "Lcom/example/leased/leased/ElectorStatus$Count;" (.ref a_HOLDINGS_LOST)) (S_RELEASES : Sta Z h0 "com/example/leased/leased/ElectorStatus$Count" "RELEASES" "Lcom/example/leased/leased/ElectorStatus$Count;" (.ref a_RELEASES)) (hv : own_pick xk a_ACQUISITIONS a_EXPIRED_TAKEOVERS a_RENEWALS a_RENEWALS_FAILED a_HOLDINGS_LOST a_RELEASES = xr) :
    MetFree l (⟨"com/example/leased/leased/CountsStepPinLaw", "pick", "(I)Lcom/example/leased/leased/ElectorStatus$Count;"⟩ : MethodName) (head1 (Jvm.Cond.code (⟨"com/example/leased/leased/CountsStepPinLaw", "pick", "(I)Lcom/example/leased/leased/ElectorStatus$Count;"⟩ : MethodName) method_2_code 1 (some (.object "com/example/leased/leased/ElectorStatus$Count")) :: ws) ({ frames := 0, cells := 0, slots := 0, locals := 0 } : Room)) (fun a U => a = #[(.int xk)] ∧ Z.Warmed39 U.vm ∧ U.heap = h0) (fun _ _ _ _ _ => True) (fun _ U o U' => ∃ v L, o = .returned v ∧ own_QP Z xk a_ACQUISITIONS a_EXPIRED_TAKEOVERS a_RENEWALS a_RENEWALS_FAILED a_HOLDINGS_LOST a_RELEASES xr h0 n0 v U'.heap L ∧ FrameEnd U o U' L ({ frames := 0, cells := 0, slots := 0, locals := 0 } : Room).cells ({ frames := 0, cells := 0, slots := 0, locals := 0 } : Room).slots) := by
  refine MetFree.of_bodySF (plainFor_of_name own_pn1) hisR ?_
  intro p e s m args below meth c s₁ Bd hml0 hP hK
  obtain ⟨rfl, hZ, hh⟩ := hP
  have hx := Bd.exec
  have hby := Bd.bytes
  have hml : c.maxLocals = 1 := hml0
  have hown : s.vm.findClass "com/example/leased/leased/CountsStepPinLaw" = some m.cls := findClass_of_methodNamed Bd.named
  have hnm := (name_of_methodNamed Bd.named Bd.method).1
  have X0 : Stand p l e ({ frames := 0, cells := 0, slots := 0, locals := 0 } : Room) s m #[(.int xk)] below meth c s₁ [] 0 0 := Stand.of_body Bd
  have e0 : s₁.heap = h0 := by rw [← hh, Bd.state]; rfl
  have N0 := Fr.nil n0
  show own_F p e below (fun o U' => ∃ v L, o = .returned v ∧ own_QP Z xk a_ACQUISITIONS a_EXPIRED_TAKEOVERS a_RENEWALS a_RENEWALS_FAILED a_HOLDINGS_LOST a_RELEASES xr h0 n0 v U'.heap L ∧ FrameEnd s o U' L ({ frames := 0, cells := 0, slots := 0, locals := 0 } : Room).cells ({ frames := 0, cells := 0, slots := 0, locals := 0 } : Room).slots) s₁ (entryFrame m #[(.int xk)] 1)
  rw [own_efP m xk]
  refine own_go (T' := s₁) (g' := (mkF m 1 #[.val (.int xk)] [(.int xk)])) (fun _ k => XS.iloadN X0.here hx rfl (hb hby own_dP_0) rfl k) ?_
  by_cases hc1 : xk = (0 : Int32)
  · refine own_go (T' := s₁) (g' := (mkF m 4 #[.val (.int xk)] [])) (fun _ k => XS.ifNo X0.here hx rfl (hb hby own_dP_1) rfl ((if0 _ _).trans (teq (hc1 : xk = (0 : Int32))).2) k) ?_
    obtain ⟨T1, X1, e1, st1⟩ := getS X0 hx hZ (host := "") hown (hw _ (List.mem_of_getElem? (i := 5) rfl)) Via.refl e0 S_ACQUISITIONS (g := (mkF m 4 #[.val (.int xk)] [])) rfl (hb hby own_dP_4)
    refine own_go (T' := T1) (g' := (mkF m 7 #[.val (.int xk)] [(.ref a_ACQUISITIONS)])) (fun _ k => st1 _ k) ?_
    obtain ⟨fs, hr, hrun, hended, hW, hsame⟩ := X1.leave (v := some (.ref a_ACQUISITIONS)) (fun h => by rw [Bd.returns] at h; cases h)
    refine own_end (retOut X1 hx Bd.returns rfl (Or.inr (Or.inr (Or.inr (Or.inr ⟨rfl, rfl, rfl⟩)))) (hb hby own_dP_7) hr) hrun hended ⟨_, _, rfl, (?_ : own_QP Z xk a_ACQUISITIONS a_EXPIRED_TAKEOVERS a_RENEWALS a_RENEWALS_FAILED a_HOLDINGS_LOST a_RELEASES xr h0 n0 _ T1.heap _), ⟨_, rfl⟩, hW, hsame.mono (by decide) (by decide)⟩
    rw [e1]
    exact ⟨by rw [← hv]; simp [own_pick, hc1], N0, rfl⟩
  · refine own_go (T' := s₁) (g' := (mkF m 8 #[.val (.int xk)] [])) (fun _ k => XS.ifYes X0.here hx rfl (pc0 := 1) (pc' := 8) rfl (hb hby own_dP_1) rfl ((if0 _ _).trans (feq (hc1 : ¬ (xk = (0 : Int32)))).2) (by decide) (by decide) k) ?_
    refine own_go (T' := s₁) (g' := (mkF m 9 #[.val (.int xk)] [(.int xk)])) (fun _ k => XS.iloadN X0.here hx rfl (hb hby own_dP_8) rfl k) ?_
    refine own_go (T' := s₁) (g' := (mkF m 10 #[.val (.int xk)] [(.int (1 : Int32)), (.int xk)])) (fun _ k => XS.iconst X0.here hx rfl (hb hby own_dP_9) k) ?_
    by_cases hc10 : xk = (1 : Int32)
    · refine own_go (T' := s₁) (g' := (mkF m 13 #[.val (.int xk)] [])) (fun _ k => XS.icmpNo X0.here hx rfl (hb hby own_dP_10) rfl (teq (hc10 : xk = (1 : Int32))).2 k) ?_
      obtain ⟨T2, X2, e2, st2⟩ := getS X0 hx hZ (host := "") hown (hw _ (List.mem_of_getElem? (i := 67) rfl)) Via.refl e0 S_EXPIRED_TAKEOVERS (g := (mkF m 13 #[.val (.int xk)] [])) rfl (hb hby own_dP_13)
      refine own_go (T' := T2) (g' := (mkF m 16 #[.val (.int xk)] [(.ref a_EXPIRED_TAKEOVERS)])) (fun _ k => st2 _ k) ?_
      obtain ⟨fs, hr, hrun, hended, hW, hsame⟩ := X2.leave (v := some (.ref a_EXPIRED_TAKEOVERS)) (fun h => by rw [Bd.returns] at h; cases h)
      refine own_end (retOut X2 hx Bd.returns rfl (Or.inr (Or.inr (Or.inr (Or.inr ⟨rfl, rfl, rfl⟩)))) (hb hby own_dP_16) hr) hrun hended ⟨_, _, rfl, (?_ : own_QP Z xk a_ACQUISITIONS a_EXPIRED_TAKEOVERS a_RENEWALS a_RENEWALS_FAILED a_HOLDINGS_LOST a_RELEASES xr h0 n0 _ T2.heap _), ⟨_, rfl⟩, hW, hsame.mono (by decide) (by decide)⟩
      rw [e2]
      exact ⟨by rw [← hv]; simp [own_pick, hc1, hc10], N0, rfl⟩
    · refine own_go (T' := s₁) (g' := (mkF m 17 #[.val (.int xk)] [])) (fun _ k => XS.icmpYes X0.here hx rfl (pc0 := 10) (pc' := 17) rfl (hb hby own_dP_10) rfl (feq (hc10 : ¬ (xk = (1 : Int32)))).2 (by decide) (by decide) k) ?_
      refine own_go (T' := s₁) (g' := (mkF m 18 #[.val (.int xk)] [(.int xk)])) (fun _ k => XS.iloadN X0.here hx rfl (hb hby own_dP_17) rfl k) ?_
      refine own_go (T' := s₁) (g' := (mkF m 19 #[.val (.int xk)] [(.int (2 : Int32)), (.int xk)])) (fun _ k => XS.iconst X0.here hx rfl (hb hby own_dP_18) k) ?_
      by_cases hc19 : xk = (2 : Int32)
      · refine own_go (T' := s₁) (g' := (mkF m 22 #[.val (.int xk)] [])) (fun _ k => XS.icmpNo X0.here hx rfl (hb hby own_dP_19) rfl (teq (hc19 : xk = (2 : Int32))).2 k) ?_
        obtain ⟨T3, X3, e3, st3⟩ := getS X0 hx hZ (host := "") hown (hw _ (List.mem_of_getElem? (i := 10) rfl)) Via.refl e0 S_RENEWALS (g := (mkF m 22 #[.val (.int xk)] [])) rfl (hb hby own_dP_22)
        refine own_go (T' := T3) (g' := (mkF m 25 #[.val (.int xk)] [(.ref a_RENEWALS)])) (fun _ k => st3 _ k) ?_
        obtain ⟨fs, hr, hrun, hended, hW, hsame⟩ := X3.leave (v := some (.ref a_RENEWALS)) (fun h => by rw [Bd.returns] at h; cases h)
        refine own_end (retOut X3 hx Bd.returns rfl (Or.inr (Or.inr (Or.inr (Or.inr ⟨rfl, rfl, rfl⟩)))) (hb hby own_dP_25) hr) hrun hended ⟨_, _, rfl, (?_ : own_QP Z xk a_ACQUISITIONS a_EXPIRED_TAKEOVERS a_RENEWALS a_RENEWALS_FAILED a_HOLDINGS_LOST a_RELEASES xr h0 n0 _ T3.heap _), ⟨_, rfl⟩, hW, hsame.mono (by decide) (by decide)⟩
        rw [e3]
        exact ⟨by rw [← hv]; simp [own_pick, hc1, hc10, hc19], N0, rfl⟩
      · refine own_go (T' := s₁) (g' := (mkF m 26 #[.val (.int xk)] [])) (fun _ k => XS.icmpYes X0.here hx rfl (pc0 := 19) (pc' := 26) rfl (hb hby own_dP_19) rfl (feq (hc19 : ¬ (xk = (2 : Int32)))).2 (by decide) (by decide) k) ?_
        refine own_go (T' := s₁) (g' := (mkF m 27 #[.val (.int xk)] [(.int xk)])) (fun _ k => XS.iloadN X0.here hx rfl (hb hby own_dP_26) rfl k) ?_
        refine own_go (T' := s₁) (g' := (mkF m 28 #[.val (.int xk)] [(.int (3 : Int32)), (.int xk)])) (fun _ k => XS.iconst X0.here hx rfl (hb hby own_dP_27) k) ?_
        by_cases hc28 : xk = (3 : Int32)
        · refine own_go (T' := s₁) (g' := (mkF m 31 #[.val (.int xk)] [])) (fun _ k => XS.icmpNo X0.here hx rfl (hb hby own_dP_28) rfl (teq (hc28 : xk = (3 : Int32))).2 k) ?_
          obtain ⟨T4, X4, e4, st4⟩ := getS X0 hx hZ (host := "") hown (hw _ (List.mem_of_getElem? (i := 8) rfl)) Via.refl e0 S_RENEWALS_FAILED (g := (mkF m 31 #[.val (.int xk)] [])) rfl (hb hby own_dP_31)
          refine own_go (T' := T4) (g' := (mkF m 34 #[.val (.int xk)] [(.ref a_RENEWALS_FAILED)])) (fun _ k => st4 _ k) ?_
          obtain ⟨fs, hr, hrun, hended, hW, hsame⟩ := X4.leave (v := some (.ref a_RENEWALS_FAILED)) (fun h => by rw [Bd.returns] at h; cases h)
          refine own_end (retOut X4 hx Bd.returns rfl (Or.inr (Or.inr (Or.inr (Or.inr ⟨rfl, rfl, rfl⟩)))) (hb hby own_dP_34) hr) hrun hended ⟨_, _, rfl, (?_ : own_QP Z xk a_ACQUISITIONS a_EXPIRED_TAKEOVERS a_RENEWALS a_RENEWALS_FAILED a_HOLDINGS_LOST a_RELEASES xr h0 n0 _ T4.heap _), ⟨_, rfl⟩, hW, hsame.mono (by decide) (by decide)⟩
          rw [e4]
          exact ⟨by rw [← hv]; simp [own_pick, hc1, hc10, hc19, hc28], N0, rfl⟩
        · refine own_go (T' := s₁) (g' := (mkF m 35 #[.val (.int xk)] [])) (fun _ k => XS.icmpYes X0.here hx rfl (pc0 := 28) (pc' := 35) rfl (hb hby own_dP_28) rfl (feq (hc28 : ¬ (xk = (3 : Int32)))).2 (by decide) (by decide) k) ?_
          refine own_go (T' := s₁) (g' := (mkF m 36 #[.val (.int xk)] [(.int xk)])) (fun _ k => XS.iloadN X0.here hx rfl (hb hby own_dP_35) rfl k) ?_
          refine own_go (T' := s₁) (g' := (mkF m 37 #[.val (.int xk)] [(.int (4 : Int32)), (.int xk)])) (fun _ k => XS.iconst X0.here hx rfl (hb hby own_dP_36) k) ?_
          by_cases hc37 : xk = (4 : Int32)
          · refine own_go (T' := s₁) (g' := (mkF m 40 #[.val (.int xk)] [])) (fun _ k => XS.icmpNo X0.here hx rfl (hb hby own_dP_37) rfl (teq (hc37 : xk = (4 : Int32))).2 k) ?_
            obtain ⟨T5, X5, e5, st5⟩ := getS X0 hx hZ (host := "") hown (hw _ (List.mem_of_getElem? (i := 68) rfl)) Via.refl e0 S_HOLDINGS_LOST (g := (mkF m 40 #[.val (.int xk)] [])) rfl (hb hby own_dP_40)
            refine own_go (T' := T5) (g' := (mkF m 43 #[.val (.int xk)] [(.ref a_HOLDINGS_LOST)])) (fun _ k => st5 _ k) ?_
            obtain ⟨fs, hr, hrun, hended, hW, hsame⟩ := X5.leave (v := some (.ref a_HOLDINGS_LOST)) (fun h => by rw [Bd.returns] at h; cases h)
            refine own_end (retOut X5 hx Bd.returns rfl (Or.inr (Or.inr (Or.inr (Or.inr ⟨rfl, rfl, rfl⟩)))) (hb hby own_dP_43) hr) hrun hended ⟨_, _, rfl, (?_ : own_QP Z xk a_ACQUISITIONS a_EXPIRED_TAKEOVERS a_RENEWALS a_RENEWALS_FAILED a_HOLDINGS_LOST a_RELEASES xr h0 n0 _ T5.heap _), ⟨_, rfl⟩, hW, hsame.mono (by decide) (by decide)⟩
            rw [e5]
            exact ⟨by rw [← hv]; simp [own_pick, hc1, hc10, hc19, hc28, hc37], N0, rfl⟩
          · refine own_go (T' := s₁) (g' := (mkF m 44 #[.val (.int xk)] [])) (fun _ k => XS.icmpYes X0.here hx rfl (pc0 := 37) (pc' := 44) rfl (hb hby own_dP_37) rfl (feq (hc37 : ¬ (xk = (4 : Int32)))).2 (by decide) (by decide) k) ?_
            obtain ⟨T6, X6, e6, st6⟩ := getS X0 hx hZ (host := "") hown (hw _ (List.mem_of_getElem? (i := 69) rfl)) Via.refl e0 S_RELEASES (g := (mkF m 44 #[.val (.int xk)] [])) rfl (hb hby own_dP_44)
            refine own_go (T' := T6) (g' := (mkF m 47 #[.val (.int xk)] [(.ref a_RELEASES)])) (fun _ k => st6 _ k) ?_
            obtain ⟨fs, hr, hrun, hended, hW, hsame⟩ := X6.leave (v := some (.ref a_RELEASES)) (fun h => by rw [Bd.returns] at h; cases h)
            refine own_end (retOut X6 hx Bd.returns rfl (Or.inr (Or.inr (Or.inr (Or.inr ⟨rfl, rfl, rfl⟩)))) (hb hby own_dP_47) hr) hrun hended ⟨_, _, rfl, (?_ : own_QP Z xk a_ACQUISITIONS a_EXPIRED_TAKEOVERS a_RENEWALS a_RENEWALS_FAILED a_HOLDINGS_LOST a_RELEASES xr h0 n0 _ T6.heap _), ⟨_, rfl⟩, hW, hsame.mono (by decide) (by decide)⟩
            rw [e6]
            exact ⟨by rw [← hv]; simp [own_pick, hc1, hc10, hc19, hc28, hc37], N0, rfl⟩
theorem own_dX_0 : decode method_3_code 0 = .ok (.lconst 0, 1) := by decide +kernel
theorem own_dX_1 : decode method_3_code 1 = .ok (.lstore 5, 2) := by decide +kernel
theorem own_dX_3 : decode method_3_code 3 = .ok (.iload_n 1, 1) := by decide +kernel
theorem own_dX_4 : decode method_3_code 4 = .ok (.ifCond .le 14, 3) := by decide +kernel
theorem own_dX_7 : decode method_3_code 7 = .ok (.iload_n 2, 1) := by decide +kernel
theorem own_dX_8 : decode method_3_code 8 = .ok (.iload_n 0, 1) := by decide +kernel
theorem own_dX_9 : decode method_3_code 9 = .ok (.if_icmp .ne 9, 3) := by decide +kernel
theorem own_dX_12 : decode method_3_code 12 = .ok (.lload 5, 2) := by decide +kernel
theorem own_dX_14 : decode method_3_code 14 = .ok (.lconst 1, 1) := by decide +kernel
theorem own_dX_15 : decode method_3_code 15 = .ok (.ladd, 1) := by decide +kernel
theorem own_dX_16 : decode method_3_code 16 = .ok (.lstore 5, 2) := by decide +kernel
theorem own_dX_18 : decode method_3_code 18 = .ok (.iload_n 1, 1) := by decide +kernel
theorem own_dX_19 : decode method_3_code 19 = .ok (.iconst 1, 1) := by decide +kernel
theorem own_dX_20 : decode method_3_code 20 = .ok (.if_icmp .le 14, 3) := by decide +kernel
theorem own_dX_23 : decode method_3_code 23 = .ok (.iload_n 3, 1) := by decide +kernel
theorem own_dX_24 : decode method_3_code 24 = .ok (.iload_n 0, 1) := by decide +kernel
theorem own_dX_25 : decode method_3_code 25 = .ok (.if_icmp .ne 9, 3) := by decide +kernel
theorem own_dX_28 : decode method_3_code 28 = .ok (.lload 5, 2) := by decide +kernel
theorem own_dX_30 : decode method_3_code 30 = .ok (.lconst 1, 1) := by decide +kernel
theorem own_dX_31 : decode method_3_code 31 = .ok (.ladd, 1) := by decide +kernel
theorem own_dX_32 : decode method_3_code 32 = .ok (.lstore 5, 2) := by decide +kernel
theorem own_dX_34 : decode method_3_code 34 = .ok (.iload_n 1, 1) := by decide +kernel
theorem own_dX_35 : decode method_3_code 35 = .ok (.iconst 2, 1) := by decide +kernel
theorem own_dX_36 : decode method_3_code 36 = .ok (.if_icmp .le 15, 3) := by decide +kernel
theorem own_dX_39 : decode method_3_code 39 = .ok (.iload 4, 2) := by decide +kernel
theorem own_dX_41 : decode method_3_code 41 = .ok (.iload_n 0, 1) := by decide +kernel
theorem own_dX_42 : decode method_3_code 42 = .ok (.if_icmp .ne 9, 3) := by decide +kernel
theorem own_dX_45 : decode method_3_code 45 = .ok (.lload 5, 2) := by decide +kernel
theorem own_dX_47 : decode method_3_code 47 = .ok (.lconst 1, 1) := by decide +kernel
theorem own_dX_48 : decode method_3_code 48 = .ok (.ladd, 1) := by decide +kernel
theorem own_dX_49 : decode method_3_code 49 = .ok (.lstore 5, 2) := by decide +kernel
theorem own_dX_51 : decode method_3_code 51 = .ok (.lload 5, 2) := by decide +kernel
theorem own_dX_53 : decode method_3_code 53 = .ok (.lreturn, 1) := by decide +kernel
theorem own_efX (m : MethodId) (xi : Int32) (xn : Int32) (xa : Int32) (xb : Int32) (xd : Int32) : entryFrame m #[(.int xi), (.int xn), (.int xa), (.int xb), (.int xd)] 7 = mkF m 0 #[.val (.int xi), .val (.int xn), .val (.int xa), .val (.int xb), .val (.int xd), .unset, .unset] [] := by first | (simp [entryFrame, mkF, argsToLocals, Value.category]; done) | rfl
def own_QX (Z : State) (xi : Int32) (xn : Int32) (xa : Int32) (xb : Int32) (xd : Int32)  (h0 : Heap) (n0 : Nat) (v : Option Value) (h : Heap) (L : List Loc) : Prop := v = some (.long (own_exp xi xn xa xb xd)) ∧ Fr n0 L ∧ h = h0
set_option maxRecDepth 65536 in
set_option maxHeartbeats 40000000 in
theorem own_rX (l : Launch) (Z : State) (a0 : Array Value) (hw : ∀ d ∈ tables_1, d.before a0 Z = true) (ws : List Jvm.Cond) (xi : Int32) (xn : Int32) (xa : Int32) (xb : Int32) (xd : Int32)  (h0 : Heap) (n0 : Nat) (Z0 : n0 ≤ h0.size) :
    MetFree l (⟨"com/example/leased/leased/CountsStepPinLaw", "expect", "(IIIII)J"⟩ : MethodName) (head1 (Jvm.Cond.code (⟨"com/example/leased/leased/CountsStepPinLaw", "expect", "(IIIII)J"⟩ : MethodName) method_3_code 7 (some .long) :: ws) ({ frames := 0, cells := 0, slots := 0, locals := 0 } : Room)) (fun a U => a = #[(.int xi), (.int xn), (.int xa), (.int xb), (.int xd)] ∧ Z.Warmed39 U.vm ∧ U.heap = h0) (fun _ _ _ _ _ => True) (fun _ U o U' => ∃ v L, o = .returned v ∧ own_QX Z xi xn xa xb xd h0 n0 v U'.heap L ∧ FrameEnd U o U' L ({ frames := 0, cells := 0, slots := 0, locals := 0 } : Room).cells ({ frames := 0, cells := 0, slots := 0, locals := 0 } : Room).slots) := by
  refine MetFree.of_bodySF (plainFor_of_name own_pn1) hisR ?_
  intro p e s m args below meth c s₁ Bd hml0 hP hK
  obtain ⟨rfl, hZ, hh⟩ := hP
  have hx := Bd.exec
  have hby := Bd.bytes
  have hml : c.maxLocals = 7 := hml0
  have hown : s.vm.findClass "com/example/leased/leased/CountsStepPinLaw" = some m.cls := findClass_of_methodNamed Bd.named
  have hnm := (name_of_methodNamed Bd.named Bd.method).1
  have X0 : Stand p l e ({ frames := 0, cells := 0, slots := 0, locals := 0 } : Room) s m #[(.int xi), (.int xn), (.int xa), (.int xb), (.int xd)] below meth c s₁ [] 0 0 := Stand.of_body Bd
  have e0 : s₁.heap = h0 := by rw [← hh, Bd.state]; rfl
  have N0 := Fr.nil n0
  show own_F p e below (fun o U' => ∃ v L, o = .returned v ∧ own_QX Z xi xn xa xb xd h0 n0 v U'.heap L ∧ FrameEnd s o U' L ({ frames := 0, cells := 0, slots := 0, locals := 0 } : Room).cells ({ frames := 0, cells := 0, slots := 0, locals := 0 } : Room).slots) s₁ (entryFrame m #[(.int xi), (.int xn), (.int xa), (.int xb), (.int xd)] 7)
  rw [own_efX m xi xn xa xb xd]
  refine own_go (T' := s₁) (g' := (mkF m 1 #[.val (.int xi), .val (.int xn), .val (.int xa), .val (.int xb), .val (.int xd), .unset, .unset] [(.long (0 : Int64))])) (fun _ k => XS.lconst X0.here hx rfl (hb hby own_dX_0) k) ?_
  refine own_go (T' := s₁) (g' := (mkF m 3 #[.val (.int xi), .val (.int xn), .val (.int xa), .val (.int xb), .val (.int xd), .val (.long (0 : Int64)), .second] [])) (fun _ k => XS.lstore X0.here hx rfl (hb hby own_dX_1) rfl (l' := #[.val (.int xi), .val (.int xn), .val (.int xa), .val (.int xb), .val (.int xd), .val (.long (0 : Int64)), .second]) rfl k) ?_
  refine own_go (T' := s₁) (g' := (mkF m 4 #[.val (.int xi), .val (.int xn), .val (.int xa), .val (.int xb), .val (.int xd), .val (.long (0 : Int64)), .second] [(.int xn)])) (fun _ k => XS.iloadN X0.here hx rfl (hb hby own_dX_3) rfl k) ?_
  by_cases hc4 : (0 : Int32) < xn
  · refine own_go (T' := s₁) (g' := (mkF m 7 #[.val (.int xi), .val (.int xn), .val (.int xa), .val (.int xb), .val (.int xd), .val (.long (0 : Int64)), .second] [])) (fun _ k => XS.ifNo X0.here hx rfl (hb hby own_dX_4) rfl ((if0 _ _).trans (tlt (hc4 : (0 : Int32) < xn)).2.2.2) k) ?_
    refine own_go (T' := s₁) (g' := (mkF m 8 #[.val (.int xi), .val (.int xn), .val (.int xa), .val (.int xb), .val (.int xd), .val (.long (0 : Int64)), .second] [(.int xa)])) (fun _ k => XS.iloadN X0.here hx rfl (hb hby own_dX_7) rfl k) ?_
    refine own_go (T' := s₁) (g' := (mkF m 9 #[.val (.int xi), .val (.int xn), .val (.int xa), .val (.int xb), .val (.int xd), .val (.long (0 : Int64)), .second] [(.int xi), (.int xa)])) (fun _ k => XS.iloadN X0.here hx rfl (hb hby own_dX_8) rfl k) ?_
    by_cases hc9 : xa = xi
    · refine own_go (T' := s₁) (g' := (mkF m 12 #[.val (.int xi), .val (.int xn), .val (.int xa), .val (.int xb), .val (.int xd), .val (.long (0 : Int64)), .second] [])) (fun _ k => XS.icmpNo X0.here hx rfl (hb hby own_dX_9) rfl (teq (hc9 : xa = xi)).2 k) ?_
      refine own_go (T' := s₁) (g' := (mkF m 14 #[.val (.int xi), .val (.int xn), .val (.int xa), .val (.int xb), .val (.int xd), .val (.long (0 : Int64)), .second] [(.long (0 : Int64))])) (fun _ k => XS.lload X0.here hx rfl (hb hby own_dX_12) rfl k) ?_
      refine own_go (T' := s₁) (g' := (mkF m 15 #[.val (.int xi), .val (.int xn), .val (.int xa), .val (.int xb), .val (.int xd), .val (.long (0 : Int64)), .second] [(.long (1 : Int64)), (.long (0 : Int64))])) (fun _ k => XS.lconst X0.here hx rfl (hb hby own_dX_14) k) ?_
      refine own_go (T' := s₁) (g' := (mkF m 16 #[.val (.int xi), .val (.int xn), .val (.int xa), .val (.int xb), .val (.int xd), .val (.long (0 : Int64)), .second] [(.long (1 : Int64))])) (fun _ k => XS.ladd X0.here hx rfl (hb hby own_dX_15) rfl k) ?_
      refine own_go (T' := s₁) (g' := (mkF m 18 #[.val (.int xi), .val (.int xn), .val (.int xa), .val (.int xb), .val (.int xd), .val (.long (1 : Int64)), .second] [])) (fun _ k => XS.lstore X0.here hx rfl (hb hby own_dX_16) rfl (l' := #[.val (.int xi), .val (.int xn), .val (.int xa), .val (.int xb), .val (.int xd), .val (.long (1 : Int64)), .second]) rfl k) ?_
      refine own_go (T' := s₁) (g' := (mkF m 19 #[.val (.int xi), .val (.int xn), .val (.int xa), .val (.int xb), .val (.int xd), .val (.long (1 : Int64)), .second] [(.int xn)])) (fun _ k => XS.iloadN X0.here hx rfl (hb hby own_dX_18) rfl k) ?_
      refine own_go (T' := s₁) (g' := (mkF m 20 #[.val (.int xi), .val (.int xn), .val (.int xa), .val (.int xb), .val (.int xd), .val (.long (1 : Int64)), .second] [(.int (1 : Int32)), (.int xn)])) (fun _ k => XS.iconst X0.here hx rfl (hb hby own_dX_19) k) ?_
      by_cases hc20 : (1 : Int32) < xn
      · refine own_go (T' := s₁) (g' := (mkF m 23 #[.val (.int xi), .val (.int xn), .val (.int xa), .val (.int xb), .val (.int xd), .val (.long (1 : Int64)), .second] [])) (fun _ k => XS.icmpNo X0.here hx rfl (hb hby own_dX_20) rfl (tlt (hc20 : (1 : Int32) < xn)).2.2.2 k) ?_
        refine own_go (T' := s₁) (g' := (mkF m 24 #[.val (.int xi), .val (.int xn), .val (.int xa), .val (.int xb), .val (.int xd), .val (.long (1 : Int64)), .second] [(.int xb)])) (fun _ k => XS.iloadN X0.here hx rfl (hb hby own_dX_23) rfl k) ?_
        refine own_go (T' := s₁) (g' := (mkF m 25 #[.val (.int xi), .val (.int xn), .val (.int xa), .val (.int xb), .val (.int xd), .val (.long (1 : Int64)), .second] [(.int xi), (.int xb)])) (fun _ k => XS.iloadN X0.here hx rfl (hb hby own_dX_24) rfl k) ?_
        by_cases hc25 : xb = xi
        · refine own_go (T' := s₁) (g' := (mkF m 28 #[.val (.int xi), .val (.int xn), .val (.int xa), .val (.int xb), .val (.int xd), .val (.long (1 : Int64)), .second] [])) (fun _ k => XS.icmpNo X0.here hx rfl (hb hby own_dX_25) rfl (teq (hc25 : xb = xi)).2 k) ?_
          refine own_go (T' := s₁) (g' := (mkF m 30 #[.val (.int xi), .val (.int xn), .val (.int xa), .val (.int xb), .val (.int xd), .val (.long (1 : Int64)), .second] [(.long (1 : Int64))])) (fun _ k => XS.lload X0.here hx rfl (hb hby own_dX_28) rfl k) ?_
          refine own_go (T' := s₁) (g' := (mkF m 31 #[.val (.int xi), .val (.int xn), .val (.int xa), .val (.int xb), .val (.int xd), .val (.long (1 : Int64)), .second] [(.long (1 : Int64)), (.long (1 : Int64))])) (fun _ k => XS.lconst X0.here hx rfl (hb hby own_dX_30) k) ?_
          refine own_go (T' := s₁) (g' := (mkF m 32 #[.val (.int xi), .val (.int xn), .val (.int xa), .val (.int xb), .val (.int xd), .val (.long (1 : Int64)), .second] [(.long (2 : Int64))])) (fun _ k => XS.ladd X0.here hx rfl (hb hby own_dX_31) rfl k) ?_
          refine own_go (T' := s₁) (g' := (mkF m 34 #[.val (.int xi), .val (.int xn), .val (.int xa), .val (.int xb), .val (.int xd), .val (.long (2 : Int64)), .second] [])) (fun _ k => XS.lstore X0.here hx rfl (hb hby own_dX_32) rfl (l' := #[.val (.int xi), .val (.int xn), .val (.int xa), .val (.int xb), .val (.int xd), .val (.long (2 : Int64)), .second]) rfl k) ?_
          refine own_go (T' := s₁) (g' := (mkF m 35 #[.val (.int xi), .val (.int xn), .val (.int xa), .val (.int xb), .val (.int xd), .val (.long (2 : Int64)), .second] [(.int xn)])) (fun _ k => XS.iloadN X0.here hx rfl (hb hby own_dX_34) rfl k) ?_
          refine own_go (T' := s₁) (g' := (mkF m 36 #[.val (.int xi), .val (.int xn), .val (.int xa), .val (.int xb), .val (.int xd), .val (.long (2 : Int64)), .second] [(.int (2 : Int32)), (.int xn)])) (fun _ k => XS.iconst X0.here hx rfl (hb hby own_dX_35) k) ?_
          by_cases hc36 : (2 : Int32) < xn
          · refine own_go (T' := s₁) (g' := (mkF m 39 #[.val (.int xi), .val (.int xn), .val (.int xa), .val (.int xb), .val (.int xd), .val (.long (2 : Int64)), .second] [])) (fun _ k => XS.icmpNo X0.here hx rfl (hb hby own_dX_36) rfl (tlt (hc36 : (2 : Int32) < xn)).2.2.2 k) ?_
            refine own_go (T' := s₁) (g' := (mkF m 41 #[.val (.int xi), .val (.int xn), .val (.int xa), .val (.int xb), .val (.int xd), .val (.long (2 : Int64)), .second] [(.int xd)])) (fun _ k => XS.iload X0.here hx rfl (hb hby own_dX_39) rfl k) ?_
            refine own_go (T' := s₁) (g' := (mkF m 42 #[.val (.int xi), .val (.int xn), .val (.int xa), .val (.int xb), .val (.int xd), .val (.long (2 : Int64)), .second] [(.int xi), (.int xd)])) (fun _ k => XS.iloadN X0.here hx rfl (hb hby own_dX_41) rfl k) ?_
            by_cases hc42 : xd = xi
            · refine own_go (T' := s₁) (g' := (mkF m 45 #[.val (.int xi), .val (.int xn), .val (.int xa), .val (.int xb), .val (.int xd), .val (.long (2 : Int64)), .second] [])) (fun _ k => XS.icmpNo X0.here hx rfl (hb hby own_dX_42) rfl (teq (hc42 : xd = xi)).2 k) ?_
              refine own_go (T' := s₁) (g' := (mkF m 47 #[.val (.int xi), .val (.int xn), .val (.int xa), .val (.int xb), .val (.int xd), .val (.long (2 : Int64)), .second] [(.long (2 : Int64))])) (fun _ k => XS.lload X0.here hx rfl (hb hby own_dX_45) rfl k) ?_
              refine own_go (T' := s₁) (g' := (mkF m 48 #[.val (.int xi), .val (.int xn), .val (.int xa), .val (.int xb), .val (.int xd), .val (.long (2 : Int64)), .second] [(.long (1 : Int64)), (.long (2 : Int64))])) (fun _ k => XS.lconst X0.here hx rfl (hb hby own_dX_47) k) ?_
              refine own_go (T' := s₁) (g' := (mkF m 49 #[.val (.int xi), .val (.int xn), .val (.int xa), .val (.int xb), .val (.int xd), .val (.long (2 : Int64)), .second] [(.long (3 : Int64))])) (fun _ k => XS.ladd X0.here hx rfl (hb hby own_dX_48) rfl k) ?_
              refine own_go (T' := s₁) (g' := (mkF m 51 #[.val (.int xi), .val (.int xn), .val (.int xa), .val (.int xb), .val (.int xd), .val (.long (3 : Int64)), .second] [])) (fun _ k => XS.lstore X0.here hx rfl (hb hby own_dX_49) rfl (l' := #[.val (.int xi), .val (.int xn), .val (.int xa), .val (.int xb), .val (.int xd), .val (.long (3 : Int64)), .second]) rfl k) ?_
              refine own_go (T' := s₁) (g' := (mkF m 53 #[.val (.int xi), .val (.int xn), .val (.int xa), .val (.int xb), .val (.int xd), .val (.long (3 : Int64)), .second] [(.long (3 : Int64))])) (fun _ k => XS.lload X0.here hx rfl (hb hby own_dX_51) rfl k) ?_
              obtain ⟨fs, hr, hrun, hended, hW, hsame⟩ := X0.leave (v := some (.long (3 : Int64))) (fun h => by rw [Bd.returns] at h; cases h)
              refine own_end (retOut X0 hx Bd.returns rfl (Or.inr (Or.inl ⟨rfl, rfl, _, rfl⟩)) (hb hby own_dX_53) hr) hrun hended ⟨_, _, rfl, (?_ : own_QX Z xi xn xa xb xd h0 n0 _ s₁.heap _), ⟨_, rfl⟩, hW, hsame.mono (by decide) (by decide)⟩
              rw [e0]
              exact ⟨by simp [own_exp, own_s, hc4, hc9, hc20, hc25, hc36, hc42], N0, rfl⟩
            · refine own_go (T' := s₁) (g' := (mkF m 51 #[.val (.int xi), .val (.int xn), .val (.int xa), .val (.int xb), .val (.int xd), .val (.long (2 : Int64)), .second] [])) (fun _ k => XS.icmpYes X0.here hx rfl (pc0 := 42) (pc' := 51) rfl (hb hby own_dX_42) rfl (feq (hc42 : ¬ (xd = xi))).2 (by decide) (by decide) k) ?_
              refine own_go (T' := s₁) (g' := (mkF m 53 #[.val (.int xi), .val (.int xn), .val (.int xa), .val (.int xb), .val (.int xd), .val (.long (2 : Int64)), .second] [(.long (2 : Int64))])) (fun _ k => XS.lload X0.here hx rfl (hb hby own_dX_51) rfl k) ?_
              obtain ⟨fs, hr, hrun, hended, hW, hsame⟩ := X0.leave (v := some (.long (2 : Int64))) (fun h => by rw [Bd.returns] at h; cases h)
              refine own_end (retOut X0 hx Bd.returns rfl (Or.inr (Or.inl ⟨rfl, rfl, _, rfl⟩)) (hb hby own_dX_53) hr) hrun hended ⟨_, _, rfl, (?_ : own_QX Z xi xn xa xb xd h0 n0 _ s₁.heap _), ⟨_, rfl⟩, hW, hsame.mono (by decide) (by decide)⟩
              rw [e0]
              exact ⟨by simp [own_exp, own_s, hc4, hc9, hc20, hc25, hc36, hc42], N0, rfl⟩
          · refine own_go (T' := s₁) (g' := (mkF m 51 #[.val (.int xi), .val (.int xn), .val (.int xa), .val (.int xb), .val (.int xd), .val (.long (2 : Int64)), .second] [])) (fun _ k => XS.icmpYes X0.here hx rfl (pc0 := 36) (pc' := 51) rfl (hb hby own_dX_36) rfl (flt (hc36 : ¬ ((2 : Int32) < xn))).2.2.2 (by decide) (by decide) k) ?_
            refine own_go (T' := s₁) (g' := (mkF m 53 #[.val (.int xi), .val (.int xn), .val (.int xa), .val (.int xb), .val (.int xd), .val (.long (2 : Int64)), .second] [(.long (2 : Int64))])) (fun _ k => XS.lload X0.here hx rfl (hb hby own_dX_51) rfl k) ?_
            obtain ⟨fs, hr, hrun, hended, hW, hsame⟩ := X0.leave (v := some (.long (2 : Int64))) (fun h => by rw [Bd.returns] at h; cases h)
            refine own_end (retOut X0 hx Bd.returns rfl (Or.inr (Or.inl ⟨rfl, rfl, _, rfl⟩)) (hb hby own_dX_53) hr) hrun hended ⟨_, _, rfl, (?_ : own_QX Z xi xn xa xb xd h0 n0 _ s₁.heap _), ⟨_, rfl⟩, hW, hsame.mono (by decide) (by decide)⟩
            rw [e0]
            exact ⟨by simp [own_exp, own_s, hc4, hc9, hc20, hc25, hc36], N0, rfl⟩
        · refine own_go (T' := s₁) (g' := (mkF m 34 #[.val (.int xi), .val (.int xn), .val (.int xa), .val (.int xb), .val (.int xd), .val (.long (1 : Int64)), .second] [])) (fun _ k => XS.icmpYes X0.here hx rfl (pc0 := 25) (pc' := 34) rfl (hb hby own_dX_25) rfl (feq (hc25 : ¬ (xb = xi))).2 (by decide) (by decide) k) ?_
          refine own_go (T' := s₁) (g' := (mkF m 35 #[.val (.int xi), .val (.int xn), .val (.int xa), .val (.int xb), .val (.int xd), .val (.long (1 : Int64)), .second] [(.int xn)])) (fun _ k => XS.iloadN X0.here hx rfl (hb hby own_dX_34) rfl k) ?_
          refine own_go (T' := s₁) (g' := (mkF m 36 #[.val (.int xi), .val (.int xn), .val (.int xa), .val (.int xb), .val (.int xd), .val (.long (1 : Int64)), .second] [(.int (2 : Int32)), (.int xn)])) (fun _ k => XS.iconst X0.here hx rfl (hb hby own_dX_35) k) ?_
          by_cases hc36 : (2 : Int32) < xn
          · refine own_go (T' := s₁) (g' := (mkF m 39 #[.val (.int xi), .val (.int xn), .val (.int xa), .val (.int xb), .val (.int xd), .val (.long (1 : Int64)), .second] [])) (fun _ k => XS.icmpNo X0.here hx rfl (hb hby own_dX_36) rfl (tlt (hc36 : (2 : Int32) < xn)).2.2.2 k) ?_
            refine own_go (T' := s₁) (g' := (mkF m 41 #[.val (.int xi), .val (.int xn), .val (.int xa), .val (.int xb), .val (.int xd), .val (.long (1 : Int64)), .second] [(.int xd)])) (fun _ k => XS.iload X0.here hx rfl (hb hby own_dX_39) rfl k) ?_
            refine own_go (T' := s₁) (g' := (mkF m 42 #[.val (.int xi), .val (.int xn), .val (.int xa), .val (.int xb), .val (.int xd), .val (.long (1 : Int64)), .second] [(.int xi), (.int xd)])) (fun _ k => XS.iloadN X0.here hx rfl (hb hby own_dX_41) rfl k) ?_
            by_cases hc42 : xd = xi
            · refine own_go (T' := s₁) (g' := (mkF m 45 #[.val (.int xi), .val (.int xn), .val (.int xa), .val (.int xb), .val (.int xd), .val (.long (1 : Int64)), .second] [])) (fun _ k => XS.icmpNo X0.here hx rfl (hb hby own_dX_42) rfl (teq (hc42 : xd = xi)).2 k) ?_
              refine own_go (T' := s₁) (g' := (mkF m 47 #[.val (.int xi), .val (.int xn), .val (.int xa), .val (.int xb), .val (.int xd), .val (.long (1 : Int64)), .second] [(.long (1 : Int64))])) (fun _ k => XS.lload X0.here hx rfl (hb hby own_dX_45) rfl k) ?_
              refine own_go (T' := s₁) (g' := (mkF m 48 #[.val (.int xi), .val (.int xn), .val (.int xa), .val (.int xb), .val (.int xd), .val (.long (1 : Int64)), .second] [(.long (1 : Int64)), (.long (1 : Int64))])) (fun _ k => XS.lconst X0.here hx rfl (hb hby own_dX_47) k) ?_
              refine own_go (T' := s₁) (g' := (mkF m 49 #[.val (.int xi), .val (.int xn), .val (.int xa), .val (.int xb), .val (.int xd), .val (.long (1 : Int64)), .second] [(.long (2 : Int64))])) (fun _ k => XS.ladd X0.here hx rfl (hb hby own_dX_48) rfl k) ?_
              refine own_go (T' := s₁) (g' := (mkF m 51 #[.val (.int xi), .val (.int xn), .val (.int xa), .val (.int xb), .val (.int xd), .val (.long (2 : Int64)), .second] [])) (fun _ k => XS.lstore X0.here hx rfl (hb hby own_dX_49) rfl (l' := #[.val (.int xi), .val (.int xn), .val (.int xa), .val (.int xb), .val (.int xd), .val (.long (2 : Int64)), .second]) rfl k) ?_
              refine own_go (T' := s₁) (g' := (mkF m 53 #[.val (.int xi), .val (.int xn), .val (.int xa), .val (.int xb), .val (.int xd), .val (.long (2 : Int64)), .second] [(.long (2 : Int64))])) (fun _ k => XS.lload X0.here hx rfl (hb hby own_dX_51) rfl k) ?_
              obtain ⟨fs, hr, hrun, hended, hW, hsame⟩ := X0.leave (v := some (.long (2 : Int64))) (fun h => by rw [Bd.returns] at h; cases h)
              refine own_end (retOut X0 hx Bd.returns rfl (Or.inr (Or.inl ⟨rfl, rfl, _, rfl⟩)) (hb hby own_dX_53) hr) hrun hended ⟨_, _, rfl, (?_ : own_QX Z xi xn xa xb xd h0 n0 _ s₁.heap _), ⟨_, rfl⟩, hW, hsame.mono (by decide) (by decide)⟩
              rw [e0]
              exact ⟨by simp [own_exp, own_s, hc4, hc9, hc20, hc25, hc36, hc42], N0, rfl⟩
            · refine own_go (T' := s₁) (g' := (mkF m 51 #[.val (.int xi), .val (.int xn), .val (.int xa), .val (.int xb), .val (.int xd), .val (.long (1 : Int64)), .second] [])) (fun _ k => XS.icmpYes X0.here hx rfl (pc0 := 42) (pc' := 51) rfl (hb hby own_dX_42) rfl (feq (hc42 : ¬ (xd = xi))).2 (by decide) (by decide) k) ?_
              refine own_go (T' := s₁) (g' := (mkF m 53 #[.val (.int xi), .val (.int xn), .val (.int xa), .val (.int xb), .val (.int xd), .val (.long (1 : Int64)), .second] [(.long (1 : Int64))])) (fun _ k => XS.lload X0.here hx rfl (hb hby own_dX_51) rfl k) ?_
              obtain ⟨fs, hr, hrun, hended, hW, hsame⟩ := X0.leave (v := some (.long (1 : Int64))) (fun h => by rw [Bd.returns] at h; cases h)
              refine own_end (retOut X0 hx Bd.returns rfl (Or.inr (Or.inl ⟨rfl, rfl, _, rfl⟩)) (hb hby own_dX_53) hr) hrun hended ⟨_, _, rfl, (?_ : own_QX Z xi xn xa xb xd h0 n0 _ s₁.heap _), ⟨_, rfl⟩, hW, hsame.mono (by decide) (by decide)⟩
              rw [e0]
              exact ⟨by simp [own_exp, own_s, hc4, hc9, hc20, hc25, hc36, hc42], N0, rfl⟩
          · refine own_go (T' := s₁) (g' := (mkF m 51 #[.val (.int xi), .val (.int xn), .val (.int xa), .val (.int xb), .val (.int xd), .val (.long (1 : Int64)), .second] [])) (fun _ k => XS.icmpYes X0.here hx rfl (pc0 := 36) (pc' := 51) rfl (hb hby own_dX_36) rfl (flt (hc36 : ¬ ((2 : Int32) < xn))).2.2.2 (by decide) (by decide) k) ?_
            refine own_go (T' := s₁) (g' := (mkF m 53 #[.val (.int xi), .val (.int xn), .val (.int xa), .val (.int xb), .val (.int xd), .val (.long (1 : Int64)), .second] [(.long (1 : Int64))])) (fun _ k => XS.lload X0.here hx rfl (hb hby own_dX_51) rfl k) ?_
            obtain ⟨fs, hr, hrun, hended, hW, hsame⟩ := X0.leave (v := some (.long (1 : Int64))) (fun h => by rw [Bd.returns] at h; cases h)
            refine own_end (retOut X0 hx Bd.returns rfl (Or.inr (Or.inl ⟨rfl, rfl, _, rfl⟩)) (hb hby own_dX_53) hr) hrun hended ⟨_, _, rfl, (?_ : own_QX Z xi xn xa xb xd h0 n0 _ s₁.heap _), ⟨_, rfl⟩, hW, hsame.mono (by decide) (by decide)⟩
            rw [e0]
            exact ⟨by simp [own_exp, own_s, hc4, hc9, hc20, hc25, hc36], N0, rfl⟩
      · refine own_go (T' := s₁) (g' := (mkF m 34 #[.val (.int xi), .val (.int xn), .val (.int xa), .val (.int xb), .val (.int xd), .val (.long (1 : Int64)), .second] [])) (fun _ k => XS.icmpYes X0.here hx rfl (pc0 := 20) (pc' := 34) rfl (hb hby own_dX_20) rfl (flt (hc20 : ¬ ((1 : Int32) < xn))).2.2.2 (by decide) (by decide) k) ?_
        refine own_go (T' := s₁) (g' := (mkF m 35 #[.val (.int xi), .val (.int xn), .val (.int xa), .val (.int xb), .val (.int xd), .val (.long (1 : Int64)), .second] [(.int xn)])) (fun _ k => XS.iloadN X0.here hx rfl (hb hby own_dX_34) rfl k) ?_
        refine own_go (T' := s₁) (g' := (mkF m 36 #[.val (.int xi), .val (.int xn), .val (.int xa), .val (.int xb), .val (.int xd), .val (.long (1 : Int64)), .second] [(.int (2 : Int32)), (.int xn)])) (fun _ k => XS.iconst X0.here hx rfl (hb hby own_dX_35) k) ?_
        by_cases hc36 : (2 : Int32) < xn
        · refine own_go (T' := s₁) (g' := (mkF m 39 #[.val (.int xi), .val (.int xn), .val (.int xa), .val (.int xb), .val (.int xd), .val (.long (1 : Int64)), .second] [])) (fun _ k => XS.icmpNo X0.here hx rfl (hb hby own_dX_36) rfl (tlt (hc36 : (2 : Int32) < xn)).2.2.2 k) ?_
          refine own_go (T' := s₁) (g' := (mkF m 41 #[.val (.int xi), .val (.int xn), .val (.int xa), .val (.int xb), .val (.int xd), .val (.long (1 : Int64)), .second] [(.int xd)])) (fun _ k => XS.iload X0.here hx rfl (hb hby own_dX_39) rfl k) ?_
          refine own_go (T' := s₁) (g' := (mkF m 42 #[.val (.int xi), .val (.int xn), .val (.int xa), .val (.int xb), .val (.int xd), .val (.long (1 : Int64)), .second] [(.int xi), (.int xd)])) (fun _ k => XS.iloadN X0.here hx rfl (hb hby own_dX_41) rfl k) ?_
          by_cases hc42 : xd = xi
          · refine own_go (T' := s₁) (g' := (mkF m 45 #[.val (.int xi), .val (.int xn), .val (.int xa), .val (.int xb), .val (.int xd), .val (.long (1 : Int64)), .second] [])) (fun _ k => XS.icmpNo X0.here hx rfl (hb hby own_dX_42) rfl (teq (hc42 : xd = xi)).2 k) ?_
            refine own_go (T' := s₁) (g' := (mkF m 47 #[.val (.int xi), .val (.int xn), .val (.int xa), .val (.int xb), .val (.int xd), .val (.long (1 : Int64)), .second] [(.long (1 : Int64))])) (fun _ k => XS.lload X0.here hx rfl (hb hby own_dX_45) rfl k) ?_
            refine own_go (T' := s₁) (g' := (mkF m 48 #[.val (.int xi), .val (.int xn), .val (.int xa), .val (.int xb), .val (.int xd), .val (.long (1 : Int64)), .second] [(.long (1 : Int64)), (.long (1 : Int64))])) (fun _ k => XS.lconst X0.here hx rfl (hb hby own_dX_47) k) ?_
            refine own_go (T' := s₁) (g' := (mkF m 49 #[.val (.int xi), .val (.int xn), .val (.int xa), .val (.int xb), .val (.int xd), .val (.long (1 : Int64)), .second] [(.long (2 : Int64))])) (fun _ k => XS.ladd X0.here hx rfl (hb hby own_dX_48) rfl k) ?_
            refine own_go (T' := s₁) (g' := (mkF m 51 #[.val (.int xi), .val (.int xn), .val (.int xa), .val (.int xb), .val (.int xd), .val (.long (2 : Int64)), .second] [])) (fun _ k => XS.lstore X0.here hx rfl (hb hby own_dX_49) rfl (l' := #[.val (.int xi), .val (.int xn), .val (.int xa), .val (.int xb), .val (.int xd), .val (.long (2 : Int64)), .second]) rfl k) ?_
            refine own_go (T' := s₁) (g' := (mkF m 53 #[.val (.int xi), .val (.int xn), .val (.int xa), .val (.int xb), .val (.int xd), .val (.long (2 : Int64)), .second] [(.long (2 : Int64))])) (fun _ k => XS.lload X0.here hx rfl (hb hby own_dX_51) rfl k) ?_
            obtain ⟨fs, hr, hrun, hended, hW, hsame⟩ := X0.leave (v := some (.long (2 : Int64))) (fun h => by rw [Bd.returns] at h; cases h)
            refine own_end (retOut X0 hx Bd.returns rfl (Or.inr (Or.inl ⟨rfl, rfl, _, rfl⟩)) (hb hby own_dX_53) hr) hrun hended ⟨_, _, rfl, (?_ : own_QX Z xi xn xa xb xd h0 n0 _ s₁.heap _), ⟨_, rfl⟩, hW, hsame.mono (by decide) (by decide)⟩
            rw [e0]
            exact ⟨by simp [own_exp, own_s, hc4, hc9, hc20, hc36, hc42], N0, rfl⟩
          · refine own_go (T' := s₁) (g' := (mkF m 51 #[.val (.int xi), .val (.int xn), .val (.int xa), .val (.int xb), .val (.int xd), .val (.long (1 : Int64)), .second] [])) (fun _ k => XS.icmpYes X0.here hx rfl (pc0 := 42) (pc' := 51) rfl (hb hby own_dX_42) rfl (feq (hc42 : ¬ (xd = xi))).2 (by decide) (by decide) k) ?_
            refine own_go (T' := s₁) (g' := (mkF m 53 #[.val (.int xi), .val (.int xn), .val (.int xa), .val (.int xb), .val (.int xd), .val (.long (1 : Int64)), .second] [(.long (1 : Int64))])) (fun _ k => XS.lload X0.here hx rfl (hb hby own_dX_51) rfl k) ?_
            obtain ⟨fs, hr, hrun, hended, hW, hsame⟩ := X0.leave (v := some (.long (1 : Int64))) (fun h => by rw [Bd.returns] at h; cases h)
            refine own_end (retOut X0 hx Bd.returns rfl (Or.inr (Or.inl ⟨rfl, rfl, _, rfl⟩)) (hb hby own_dX_53) hr) hrun hended ⟨_, _, rfl, (?_ : own_QX Z xi xn xa xb xd h0 n0 _ s₁.heap _), ⟨_, rfl⟩, hW, hsame.mono (by decide) (by decide)⟩
            rw [e0]
            exact ⟨by simp [own_exp, own_s, hc4, hc9, hc20, hc36, hc42], N0, rfl⟩
        · refine own_go (T' := s₁) (g' := (mkF m 51 #[.val (.int xi), .val (.int xn), .val (.int xa), .val (.int xb), .val (.int xd), .val (.long (1 : Int64)), .second] [])) (fun _ k => XS.icmpYes X0.here hx rfl (pc0 := 36) (pc' := 51) rfl (hb hby own_dX_36) rfl (flt (hc36 : ¬ ((2 : Int32) < xn))).2.2.2 (by decide) (by decide) k) ?_
          refine own_go (T' := s₁) (g' := (mkF m 53 #[.val (.int xi), .val (.int xn), .val (.int xa), .val (.int xb), .val (.int xd), .val (.long (1 : Int64)), .second] [(.long (1 : Int64))])) (fun _ k => XS.lload X0.here hx rfl (hb hby own_dX_51) rfl k) ?_
          obtain ⟨fs, hr, hrun, hended, hW, hsame⟩ := X0.leave (v := some (.long (1 : Int64))) (fun h => by rw [Bd.returns] at h; cases h)
          refine own_end (retOut X0 hx Bd.returns rfl (Or.inr (Or.inl ⟨rfl, rfl, _, rfl⟩)) (hb hby own_dX_53) hr) hrun hended ⟨_, _, rfl, (?_ : own_QX Z xi xn xa xb xd h0 n0 _ s₁.heap _), ⟨_, rfl⟩, hW, hsame.mono (by decide) (by decide)⟩
          rw [e0]
          exact ⟨by simp [own_exp, own_s, hc4, hc9, hc20, hc36], N0, rfl⟩
    · refine own_go (T' := s₁) (g' := (mkF m 18 #[.val (.int xi), .val (.int xn), .val (.int xa), .val (.int xb), .val (.int xd), .val (.long (0 : Int64)), .second] [])) (fun _ k => XS.icmpYes X0.here hx rfl (pc0 := 9) (pc' := 18) rfl (hb hby own_dX_9) rfl (feq (hc9 : ¬ (xa = xi))).2 (by decide) (by decide) k) ?_
      refine own_go (T' := s₁) (g' := (mkF m 19 #[.val (.int xi), .val (.int xn), .val (.int xa), .val (.int xb), .val (.int xd), .val (.long (0 : Int64)), .second] [(.int xn)])) (fun _ k => XS.iloadN X0.here hx rfl (hb hby own_dX_18) rfl k) ?_
      refine own_go (T' := s₁) (g' := (mkF m 20 #[.val (.int xi), .val (.int xn), .val (.int xa), .val (.int xb), .val (.int xd), .val (.long (0 : Int64)), .second] [(.int (1 : Int32)), (.int xn)])) (fun _ k => XS.iconst X0.here hx rfl (hb hby own_dX_19) k) ?_
      by_cases hc20 : (1 : Int32) < xn
      · refine own_go (T' := s₁) (g' := (mkF m 23 #[.val (.int xi), .val (.int xn), .val (.int xa), .val (.int xb), .val (.int xd), .val (.long (0 : Int64)), .second] [])) (fun _ k => XS.icmpNo X0.here hx rfl (hb hby own_dX_20) rfl (tlt (hc20 : (1 : Int32) < xn)).2.2.2 k) ?_
        refine own_go (T' := s₁) (g' := (mkF m 24 #[.val (.int xi), .val (.int xn), .val (.int xa), .val (.int xb), .val (.int xd), .val (.long (0 : Int64)), .second] [(.int xb)])) (fun _ k => XS.iloadN X0.here hx rfl (hb hby own_dX_23) rfl k) ?_
        refine own_go (T' := s₁) (g' := (mkF m 25 #[.val (.int xi), .val (.int xn), .val (.int xa), .val (.int xb), .val (.int xd), .val (.long (0 : Int64)), .second] [(.int xi), (.int xb)])) (fun _ k => XS.iloadN X0.here hx rfl (hb hby own_dX_24) rfl k) ?_
        by_cases hc25 : xb = xi
        · refine own_go (T' := s₁) (g' := (mkF m 28 #[.val (.int xi), .val (.int xn), .val (.int xa), .val (.int xb), .val (.int xd), .val (.long (0 : Int64)), .second] [])) (fun _ k => XS.icmpNo X0.here hx rfl (hb hby own_dX_25) rfl (teq (hc25 : xb = xi)).2 k) ?_
          refine own_go (T' := s₁) (g' := (mkF m 30 #[.val (.int xi), .val (.int xn), .val (.int xa), .val (.int xb), .val (.int xd), .val (.long (0 : Int64)), .second] [(.long (0 : Int64))])) (fun _ k => XS.lload X0.here hx rfl (hb hby own_dX_28) rfl k) ?_
          refine own_go (T' := s₁) (g' := (mkF m 31 #[.val (.int xi), .val (.int xn), .val (.int xa), .val (.int xb), .val (.int xd), .val (.long (0 : Int64)), .second] [(.long (1 : Int64)), (.long (0 : Int64))])) (fun _ k => XS.lconst X0.here hx rfl (hb hby own_dX_30) k) ?_
          refine own_go (T' := s₁) (g' := (mkF m 32 #[.val (.int xi), .val (.int xn), .val (.int xa), .val (.int xb), .val (.int xd), .val (.long (0 : Int64)), .second] [(.long (1 : Int64))])) (fun _ k => XS.ladd X0.here hx rfl (hb hby own_dX_31) rfl k) ?_
          refine own_go (T' := s₁) (g' := (mkF m 34 #[.val (.int xi), .val (.int xn), .val (.int xa), .val (.int xb), .val (.int xd), .val (.long (1 : Int64)), .second] [])) (fun _ k => XS.lstore X0.here hx rfl (hb hby own_dX_32) rfl (l' := #[.val (.int xi), .val (.int xn), .val (.int xa), .val (.int xb), .val (.int xd), .val (.long (1 : Int64)), .second]) rfl k) ?_
          refine own_go (T' := s₁) (g' := (mkF m 35 #[.val (.int xi), .val (.int xn), .val (.int xa), .val (.int xb), .val (.int xd), .val (.long (1 : Int64)), .second] [(.int xn)])) (fun _ k => XS.iloadN X0.here hx rfl (hb hby own_dX_34) rfl k) ?_
          refine own_go (T' := s₁) (g' := (mkF m 36 #[.val (.int xi), .val (.int xn), .val (.int xa), .val (.int xb), .val (.int xd), .val (.long (1 : Int64)), .second] [(.int (2 : Int32)), (.int xn)])) (fun _ k => XS.iconst X0.here hx rfl (hb hby own_dX_35) k) ?_
          by_cases hc36 : (2 : Int32) < xn
          · refine own_go (T' := s₁) (g' := (mkF m 39 #[.val (.int xi), .val (.int xn), .val (.int xa), .val (.int xb), .val (.int xd), .val (.long (1 : Int64)), .second] [])) (fun _ k => XS.icmpNo X0.here hx rfl (hb hby own_dX_36) rfl (tlt (hc36 : (2 : Int32) < xn)).2.2.2 k) ?_
            refine own_go (T' := s₁) (g' := (mkF m 41 #[.val (.int xi), .val (.int xn), .val (.int xa), .val (.int xb), .val (.int xd), .val (.long (1 : Int64)), .second] [(.int xd)])) (fun _ k => XS.iload X0.here hx rfl (hb hby own_dX_39) rfl k) ?_
            refine own_go (T' := s₁) (g' := (mkF m 42 #[.val (.int xi), .val (.int xn), .val (.int xa), .val (.int xb), .val (.int xd), .val (.long (1 : Int64)), .second] [(.int xi), (.int xd)])) (fun _ k => XS.iloadN X0.here hx rfl (hb hby own_dX_41) rfl k) ?_
            by_cases hc42 : xd = xi
            · refine own_go (T' := s₁) (g' := (mkF m 45 #[.val (.int xi), .val (.int xn), .val (.int xa), .val (.int xb), .val (.int xd), .val (.long (1 : Int64)), .second] [])) (fun _ k => XS.icmpNo X0.here hx rfl (hb hby own_dX_42) rfl (teq (hc42 : xd = xi)).2 k) ?_
              refine own_go (T' := s₁) (g' := (mkF m 47 #[.val (.int xi), .val (.int xn), .val (.int xa), .val (.int xb), .val (.int xd), .val (.long (1 : Int64)), .second] [(.long (1 : Int64))])) (fun _ k => XS.lload X0.here hx rfl (hb hby own_dX_45) rfl k) ?_
              refine own_go (T' := s₁) (g' := (mkF m 48 #[.val (.int xi), .val (.int xn), .val (.int xa), .val (.int xb), .val (.int xd), .val (.long (1 : Int64)), .second] [(.long (1 : Int64)), (.long (1 : Int64))])) (fun _ k => XS.lconst X0.here hx rfl (hb hby own_dX_47) k) ?_
              refine own_go (T' := s₁) (g' := (mkF m 49 #[.val (.int xi), .val (.int xn), .val (.int xa), .val (.int xb), .val (.int xd), .val (.long (1 : Int64)), .second] [(.long (2 : Int64))])) (fun _ k => XS.ladd X0.here hx rfl (hb hby own_dX_48) rfl k) ?_
              refine own_go (T' := s₁) (g' := (mkF m 51 #[.val (.int xi), .val (.int xn), .val (.int xa), .val (.int xb), .val (.int xd), .val (.long (2 : Int64)), .second] [])) (fun _ k => XS.lstore X0.here hx rfl (hb hby own_dX_49) rfl (l' := #[.val (.int xi), .val (.int xn), .val (.int xa), .val (.int xb), .val (.int xd), .val (.long (2 : Int64)), .second]) rfl k) ?_
              refine own_go (T' := s₁) (g' := (mkF m 53 #[.val (.int xi), .val (.int xn), .val (.int xa), .val (.int xb), .val (.int xd), .val (.long (2 : Int64)), .second] [(.long (2 : Int64))])) (fun _ k => XS.lload X0.here hx rfl (hb hby own_dX_51) rfl k) ?_
              obtain ⟨fs, hr, hrun, hended, hW, hsame⟩ := X0.leave (v := some (.long (2 : Int64))) (fun h => by rw [Bd.returns] at h; cases h)
              refine own_end (retOut X0 hx Bd.returns rfl (Or.inr (Or.inl ⟨rfl, rfl, _, rfl⟩)) (hb hby own_dX_53) hr) hrun hended ⟨_, _, rfl, (?_ : own_QX Z xi xn xa xb xd h0 n0 _ s₁.heap _), ⟨_, rfl⟩, hW, hsame.mono (by decide) (by decide)⟩
              rw [e0]
              exact ⟨by simp [own_exp, own_s, hc4, hc9, hc20, hc25, hc36, hc42], N0, rfl⟩
            · refine own_go (T' := s₁) (g' := (mkF m 51 #[.val (.int xi), .val (.int xn), .val (.int xa), .val (.int xb), .val (.int xd), .val (.long (1 : Int64)), .second] [])) (fun _ k => XS.icmpYes X0.here hx rfl (pc0 := 42) (pc' := 51) rfl (hb hby own_dX_42) rfl (feq (hc42 : ¬ (xd = xi))).2 (by decide) (by decide) k) ?_
              refine own_go (T' := s₁) (g' := (mkF m 53 #[.val (.int xi), .val (.int xn), .val (.int xa), .val (.int xb), .val (.int xd), .val (.long (1 : Int64)), .second] [(.long (1 : Int64))])) (fun _ k => XS.lload X0.here hx rfl (hb hby own_dX_51) rfl k) ?_
              obtain ⟨fs, hr, hrun, hended, hW, hsame⟩ := X0.leave (v := some (.long (1 : Int64))) (fun h => by rw [Bd.returns] at h; cases h)
              refine own_end (retOut X0 hx Bd.returns rfl (Or.inr (Or.inl ⟨rfl, rfl, _, rfl⟩)) (hb hby own_dX_53) hr) hrun hended ⟨_, _, rfl, (?_ : own_QX Z xi xn xa xb xd h0 n0 _ s₁.heap _), ⟨_, rfl⟩, hW, hsame.mono (by decide) (by decide)⟩
              rw [e0]
              exact ⟨by simp [own_exp, own_s, hc4, hc9, hc20, hc25, hc36, hc42], N0, rfl⟩
          · refine own_go (T' := s₁) (g' := (mkF m 51 #[.val (.int xi), .val (.int xn), .val (.int xa), .val (.int xb), .val (.int xd), .val (.long (1 : Int64)), .second] [])) (fun _ k => XS.icmpYes X0.here hx rfl (pc0 := 36) (pc' := 51) rfl (hb hby own_dX_36) rfl (flt (hc36 : ¬ ((2 : Int32) < xn))).2.2.2 (by decide) (by decide) k) ?_
            refine own_go (T' := s₁) (g' := (mkF m 53 #[.val (.int xi), .val (.int xn), .val (.int xa), .val (.int xb), .val (.int xd), .val (.long (1 : Int64)), .second] [(.long (1 : Int64))])) (fun _ k => XS.lload X0.here hx rfl (hb hby own_dX_51) rfl k) ?_
            obtain ⟨fs, hr, hrun, hended, hW, hsame⟩ := X0.leave (v := some (.long (1 : Int64))) (fun h => by rw [Bd.returns] at h; cases h)
            refine own_end (retOut X0 hx Bd.returns rfl (Or.inr (Or.inl ⟨rfl, rfl, _, rfl⟩)) (hb hby own_dX_53) hr) hrun hended ⟨_, _, rfl, (?_ : own_QX Z xi xn xa xb xd h0 n0 _ s₁.heap _), ⟨_, rfl⟩, hW, hsame.mono (by decide) (by decide)⟩
            rw [e0]
            exact ⟨by simp [own_exp, own_s, hc4, hc9, hc20, hc25, hc36], N0, rfl⟩
        · refine own_go (T' := s₁) (g' := (mkF m 34 #[.val (.int xi), .val (.int xn), .val (.int xa), .val (.int xb), .val (.int xd), .val (.long (0 : Int64)), .second] [])) (fun _ k => XS.icmpYes X0.here hx rfl (pc0 := 25) (pc' := 34) rfl (hb hby own_dX_25) rfl (feq (hc25 : ¬ (xb = xi))).2 (by decide) (by decide) k) ?_
          refine own_go (T' := s₁) (g' := (mkF m 35 #[.val (.int xi), .val (.int xn), .val (.int xa), .val (.int xb), .val (.int xd), .val (.long (0 : Int64)), .second] [(.int xn)])) (fun _ k => XS.iloadN X0.here hx rfl (hb hby own_dX_34) rfl k) ?_
          refine own_go (T' := s₁) (g' := (mkF m 36 #[.val (.int xi), .val (.int xn), .val (.int xa), .val (.int xb), .val (.int xd), .val (.long (0 : Int64)), .second] [(.int (2 : Int32)), (.int xn)])) (fun _ k => XS.iconst X0.here hx rfl (hb hby own_dX_35) k) ?_
          by_cases hc36 : (2 : Int32) < xn
          · refine own_go (T' := s₁) (g' := (mkF m 39 #[.val (.int xi), .val (.int xn), .val (.int xa), .val (.int xb), .val (.int xd), .val (.long (0 : Int64)), .second] [])) (fun _ k => XS.icmpNo X0.here hx rfl (hb hby own_dX_36) rfl (tlt (hc36 : (2 : Int32) < xn)).2.2.2 k) ?_
            refine own_go (T' := s₁) (g' := (mkF m 41 #[.val (.int xi), .val (.int xn), .val (.int xa), .val (.int xb), .val (.int xd), .val (.long (0 : Int64)), .second] [(.int xd)])) (fun _ k => XS.iload X0.here hx rfl (hb hby own_dX_39) rfl k) ?_
            refine own_go (T' := s₁) (g' := (mkF m 42 #[.val (.int xi), .val (.int xn), .val (.int xa), .val (.int xb), .val (.int xd), .val (.long (0 : Int64)), .second] [(.int xi), (.int xd)])) (fun _ k => XS.iloadN X0.here hx rfl (hb hby own_dX_41) rfl k) ?_
            by_cases hc42 : xd = xi
            · refine own_go (T' := s₁) (g' := (mkF m 45 #[.val (.int xi), .val (.int xn), .val (.int xa), .val (.int xb), .val (.int xd), .val (.long (0 : Int64)), .second] [])) (fun _ k => XS.icmpNo X0.here hx rfl (hb hby own_dX_42) rfl (teq (hc42 : xd = xi)).2 k) ?_
              refine own_go (T' := s₁) (g' := (mkF m 47 #[.val (.int xi), .val (.int xn), .val (.int xa), .val (.int xb), .val (.int xd), .val (.long (0 : Int64)), .second] [(.long (0 : Int64))])) (fun _ k => XS.lload X0.here hx rfl (hb hby own_dX_45) rfl k) ?_
              refine own_go (T' := s₁) (g' := (mkF m 48 #[.val (.int xi), .val (.int xn), .val (.int xa), .val (.int xb), .val (.int xd), .val (.long (0 : Int64)), .second] [(.long (1 : Int64)), (.long (0 : Int64))])) (fun _ k => XS.lconst X0.here hx rfl (hb hby own_dX_47) k) ?_
              refine own_go (T' := s₁) (g' := (mkF m 49 #[.val (.int xi), .val (.int xn), .val (.int xa), .val (.int xb), .val (.int xd), .val (.long (0 : Int64)), .second] [(.long (1 : Int64))])) (fun _ k => XS.ladd X0.here hx rfl (hb hby own_dX_48) rfl k) ?_
              refine own_go (T' := s₁) (g' := (mkF m 51 #[.val (.int xi), .val (.int xn), .val (.int xa), .val (.int xb), .val (.int xd), .val (.long (1 : Int64)), .second] [])) (fun _ k => XS.lstore X0.here hx rfl (hb hby own_dX_49) rfl (l' := #[.val (.int xi), .val (.int xn), .val (.int xa), .val (.int xb), .val (.int xd), .val (.long (1 : Int64)), .second]) rfl k) ?_
              refine own_go (T' := s₁) (g' := (mkF m 53 #[.val (.int xi), .val (.int xn), .val (.int xa), .val (.int xb), .val (.int xd), .val (.long (1 : Int64)), .second] [(.long (1 : Int64))])) (fun _ k => XS.lload X0.here hx rfl (hb hby own_dX_51) rfl k) ?_
              obtain ⟨fs, hr, hrun, hended, hW, hsame⟩ := X0.leave (v := some (.long (1 : Int64))) (fun h => by rw [Bd.returns] at h; cases h)
              refine own_end (retOut X0 hx Bd.returns rfl (Or.inr (Or.inl ⟨rfl, rfl, _, rfl⟩)) (hb hby own_dX_53) hr) hrun hended ⟨_, _, rfl, (?_ : own_QX Z xi xn xa xb xd h0 n0 _ s₁.heap _), ⟨_, rfl⟩, hW, hsame.mono (by decide) (by decide)⟩
              rw [e0]
              exact ⟨by simp [own_exp, own_s, hc4, hc9, hc20, hc25, hc36, hc42], N0, rfl⟩
            · refine own_go (T' := s₁) (g' := (mkF m 51 #[.val (.int xi), .val (.int xn), .val (.int xa), .val (.int xb), .val (.int xd), .val (.long (0 : Int64)), .second] [])) (fun _ k => XS.icmpYes X0.here hx rfl (pc0 := 42) (pc' := 51) rfl (hb hby own_dX_42) rfl (feq (hc42 : ¬ (xd = xi))).2 (by decide) (by decide) k) ?_
              refine own_go (T' := s₁) (g' := (mkF m 53 #[.val (.int xi), .val (.int xn), .val (.int xa), .val (.int xb), .val (.int xd), .val (.long (0 : Int64)), .second] [(.long (0 : Int64))])) (fun _ k => XS.lload X0.here hx rfl (hb hby own_dX_51) rfl k) ?_
              obtain ⟨fs, hr, hrun, hended, hW, hsame⟩ := X0.leave (v := some (.long (0 : Int64))) (fun h => by rw [Bd.returns] at h; cases h)
              refine own_end (retOut X0 hx Bd.returns rfl (Or.inr (Or.inl ⟨rfl, rfl, _, rfl⟩)) (hb hby own_dX_53) hr) hrun hended ⟨_, _, rfl, (?_ : own_QX Z xi xn xa xb xd h0 n0 _ s₁.heap _), ⟨_, rfl⟩, hW, hsame.mono (by decide) (by decide)⟩
              rw [e0]
              exact ⟨by simp [own_exp, own_s, hc4, hc9, hc20, hc25, hc36, hc42], N0, rfl⟩
          · refine own_go (T' := s₁) (g' := (mkF m 51 #[.val (.int xi), .val (.int xn), .val (.int xa), .val (.int xb), .val (.int xd), .val (.long (0 : Int64)), .second] [])) (fun _ k => XS.icmpYes X0.here hx rfl (pc0 := 36) (pc' := 51) rfl (hb hby own_dX_36) rfl (flt (hc36 : ¬ ((2 : Int32) < xn))).2.2.2 (by decide) (by decide) k) ?_
            refine own_go (T' := s₁) (g' := (mkF m 53 #[.val (.int xi), .val (.int xn), .val (.int xa), .val (.int xb), .val (.int xd), .val (.long (0 : Int64)), .second] [(.long (0 : Int64))])) (fun _ k => XS.lload X0.here hx rfl (hb hby own_dX_51) rfl k) ?_
            obtain ⟨fs, hr, hrun, hended, hW, hsame⟩ := X0.leave (v := some (.long (0 : Int64))) (fun h => by rw [Bd.returns] at h; cases h)
            refine own_end (retOut X0 hx Bd.returns rfl (Or.inr (Or.inl ⟨rfl, rfl, _, rfl⟩)) (hb hby own_dX_53) hr) hrun hended ⟨_, _, rfl, (?_ : own_QX Z xi xn xa xb xd h0 n0 _ s₁.heap _), ⟨_, rfl⟩, hW, hsame.mono (by decide) (by decide)⟩
            rw [e0]
            exact ⟨by simp [own_exp, own_s, hc4, hc9, hc20, hc25, hc36], N0, rfl⟩
      · refine own_go (T' := s₁) (g' := (mkF m 34 #[.val (.int xi), .val (.int xn), .val (.int xa), .val (.int xb), .val (.int xd), .val (.long (0 : Int64)), .second] [])) (fun _ k => XS.icmpYes X0.here hx rfl (pc0 := 20) (pc' := 34) rfl (hb hby own_dX_20) rfl (flt (hc20 : ¬ ((1 : Int32) < xn))).2.2.2 (by decide) (by decide) k) ?_
        refine own_go (T' := s₁) (g' := (mkF m 35 #[.val (.int xi), .val (.int xn), .val (.int xa), .val (.int xb), .val (.int xd), .val (.long (0 : Int64)), .second] [(.int xn)])) (fun _ k => XS.iloadN X0.here hx rfl (hb hby own_dX_34) rfl k) ?_
        refine own_go (T' := s₁) (g' := (mkF m 36 #[.val (.int xi), .val (.int xn), .val (.int xa), .val (.int xb), .val (.int xd), .val (.long (0 : Int64)), .second] [(.int (2 : Int32)), (.int xn)])) (fun _ k => XS.iconst X0.here hx rfl (hb hby own_dX_35) k) ?_
        by_cases hc36 : (2 : Int32) < xn
        · refine own_go (T' := s₁) (g' := (mkF m 39 #[.val (.int xi), .val (.int xn), .val (.int xa), .val (.int xb), .val (.int xd), .val (.long (0 : Int64)), .second] [])) (fun _ k => XS.icmpNo X0.here hx rfl (hb hby own_dX_36) rfl (tlt (hc36 : (2 : Int32) < xn)).2.2.2 k) ?_
          refine own_go (T' := s₁) (g' := (mkF m 41 #[.val (.int xi), .val (.int xn), .val (.int xa), .val (.int xb), .val (.int xd), .val (.long (0 : Int64)), .second] [(.int xd)])) (fun _ k => XS.iload X0.here hx rfl (hb hby own_dX_39) rfl k) ?_
          refine own_go (T' := s₁) (g' := (mkF m 42 #[.val (.int xi), .val (.int xn), .val (.int xa), .val (.int xb), .val (.int xd), .val (.long (0 : Int64)), .second] [(.int xi), (.int xd)])) (fun _ k => XS.iloadN X0.here hx rfl (hb hby own_dX_41) rfl k) ?_
          by_cases hc42 : xd = xi
          · refine own_go (T' := s₁) (g' := (mkF m 45 #[.val (.int xi), .val (.int xn), .val (.int xa), .val (.int xb), .val (.int xd), .val (.long (0 : Int64)), .second] [])) (fun _ k => XS.icmpNo X0.here hx rfl (hb hby own_dX_42) rfl (teq (hc42 : xd = xi)).2 k) ?_
            refine own_go (T' := s₁) (g' := (mkF m 47 #[.val (.int xi), .val (.int xn), .val (.int xa), .val (.int xb), .val (.int xd), .val (.long (0 : Int64)), .second] [(.long (0 : Int64))])) (fun _ k => XS.lload X0.here hx rfl (hb hby own_dX_45) rfl k) ?_
            refine own_go (T' := s₁) (g' := (mkF m 48 #[.val (.int xi), .val (.int xn), .val (.int xa), .val (.int xb), .val (.int xd), .val (.long (0 : Int64)), .second] [(.long (1 : Int64)), (.long (0 : Int64))])) (fun _ k => XS.lconst X0.here hx rfl (hb hby own_dX_47) k) ?_
            refine own_go (T' := s₁) (g' := (mkF m 49 #[.val (.int xi), .val (.int xn), .val (.int xa), .val (.int xb), .val (.int xd), .val (.long (0 : Int64)), .second] [(.long (1 : Int64))])) (fun _ k => XS.ladd X0.here hx rfl (hb hby own_dX_48) rfl k) ?_
            refine own_go (T' := s₁) (g' := (mkF m 51 #[.val (.int xi), .val (.int xn), .val (.int xa), .val (.int xb), .val (.int xd), .val (.long (1 : Int64)), .second] [])) (fun _ k => XS.lstore X0.here hx rfl (hb hby own_dX_49) rfl (l' := #[.val (.int xi), .val (.int xn), .val (.int xa), .val (.int xb), .val (.int xd), .val (.long (1 : Int64)), .second]) rfl k) ?_
            refine own_go (T' := s₁) (g' := (mkF m 53 #[.val (.int xi), .val (.int xn), .val (.int xa), .val (.int xb), .val (.int xd), .val (.long (1 : Int64)), .second] [(.long (1 : Int64))])) (fun _ k => XS.lload X0.here hx rfl (hb hby own_dX_51) rfl k) ?_
            obtain ⟨fs, hr, hrun, hended, hW, hsame⟩ := X0.leave (v := some (.long (1 : Int64))) (fun h => by rw [Bd.returns] at h; cases h)
            refine own_end (retOut X0 hx Bd.returns rfl (Or.inr (Or.inl ⟨rfl, rfl, _, rfl⟩)) (hb hby own_dX_53) hr) hrun hended ⟨_, _, rfl, (?_ : own_QX Z xi xn xa xb xd h0 n0 _ s₁.heap _), ⟨_, rfl⟩, hW, hsame.mono (by decide) (by decide)⟩
            rw [e0]
            exact ⟨by simp [own_exp, own_s, hc4, hc9, hc20, hc36, hc42], N0, rfl⟩
          · refine own_go (T' := s₁) (g' := (mkF m 51 #[.val (.int xi), .val (.int xn), .val (.int xa), .val (.int xb), .val (.int xd), .val (.long (0 : Int64)), .second] [])) (fun _ k => XS.icmpYes X0.here hx rfl (pc0 := 42) (pc' := 51) rfl (hb hby own_dX_42) rfl (feq (hc42 : ¬ (xd = xi))).2 (by decide) (by decide) k) ?_
            refine own_go (T' := s₁) (g' := (mkF m 53 #[.val (.int xi), .val (.int xn), .val (.int xa), .val (.int xb), .val (.int xd), .val (.long (0 : Int64)), .second] [(.long (0 : Int64))])) (fun _ k => XS.lload X0.here hx rfl (hb hby own_dX_51) rfl k) ?_
            obtain ⟨fs, hr, hrun, hended, hW, hsame⟩ := X0.leave (v := some (.long (0 : Int64))) (fun h => by rw [Bd.returns] at h; cases h)
            refine own_end (retOut X0 hx Bd.returns rfl (Or.inr (Or.inl ⟨rfl, rfl, _, rfl⟩)) (hb hby own_dX_53) hr) hrun hended ⟨_, _, rfl, (?_ : own_QX Z xi xn xa xb xd h0 n0 _ s₁.heap _), ⟨_, rfl⟩, hW, hsame.mono (by decide) (by decide)⟩
            rw [e0]
            exact ⟨by simp [own_exp, own_s, hc4, hc9, hc20, hc36, hc42], N0, rfl⟩
        · refine own_go (T' := s₁) (g' := (mkF m 51 #[.val (.int xi), .val (.int xn), .val (.int xa), .val (.int xb), .val (.int xd), .val (.long (0 : Int64)), .second] [])) (fun _ k => XS.icmpYes X0.here hx rfl (pc0 := 36) (pc' := 51) rfl (hb hby own_dX_36) rfl (flt (hc36 : ¬ ((2 : Int32) < xn))).2.2.2 (by decide) (by decide) k) ?_
          refine own_go (T' := s₁) (g' := (mkF m 53 #[.val (.int xi), .val (.int xn), .val (.int xa), .val (.int xb), .val (.int xd), .val (.long (0 : Int64)), .second] [(.long (0 : Int64))])) (fun _ k => XS.lload X0.here hx rfl (hb hby own_dX_51) rfl k) ?_
          obtain ⟨fs, hr, hrun, hended, hW, hsame⟩ := X0.leave (v := some (.long (0 : Int64))) (fun h => by rw [Bd.returns] at h; cases h)
          refine own_end (retOut X0 hx Bd.returns rfl (Or.inr (Or.inl ⟨rfl, rfl, _, rfl⟩)) (hb hby own_dX_53) hr) hrun hended ⟨_, _, rfl, (?_ : own_QX Z xi xn xa xb xd h0 n0 _ s₁.heap _), ⟨_, rfl⟩, hW, hsame.mono (by decide) (by decide)⟩
          rw [e0]
          exact ⟨by simp [own_exp, own_s, hc4, hc9, hc20, hc36], N0, rfl⟩
  · refine own_go (T' := s₁) (g' := (mkF m 18 #[.val (.int xi), .val (.int xn), .val (.int xa), .val (.int xb), .val (.int xd), .val (.long (0 : Int64)), .second] [])) (fun _ k => XS.ifYes X0.here hx rfl (pc0 := 4) (pc' := 18) rfl (hb hby own_dX_4) rfl ((if0 _ _).trans (flt (hc4 : ¬ ((0 : Int32) < xn))).2.2.2) (by decide) (by decide) k) ?_
    refine own_go (T' := s₁) (g' := (mkF m 19 #[.val (.int xi), .val (.int xn), .val (.int xa), .val (.int xb), .val (.int xd), .val (.long (0 : Int64)), .second] [(.int xn)])) (fun _ k => XS.iloadN X0.here hx rfl (hb hby own_dX_18) rfl k) ?_
    refine own_go (T' := s₁) (g' := (mkF m 20 #[.val (.int xi), .val (.int xn), .val (.int xa), .val (.int xb), .val (.int xd), .val (.long (0 : Int64)), .second] [(.int (1 : Int32)), (.int xn)])) (fun _ k => XS.iconst X0.here hx rfl (hb hby own_dX_19) k) ?_
    by_cases hc20 : (1 : Int32) < xn
    · refine own_go (T' := s₁) (g' := (mkF m 23 #[.val (.int xi), .val (.int xn), .val (.int xa), .val (.int xb), .val (.int xd), .val (.long (0 : Int64)), .second] [])) (fun _ k => XS.icmpNo X0.here hx rfl (hb hby own_dX_20) rfl (tlt (hc20 : (1 : Int32) < xn)).2.2.2 k) ?_
      refine own_go (T' := s₁) (g' := (mkF m 24 #[.val (.int xi), .val (.int xn), .val (.int xa), .val (.int xb), .val (.int xd), .val (.long (0 : Int64)), .second] [(.int xb)])) (fun _ k => XS.iloadN X0.here hx rfl (hb hby own_dX_23) rfl k) ?_
      refine own_go (T' := s₁) (g' := (mkF m 25 #[.val (.int xi), .val (.int xn), .val (.int xa), .val (.int xb), .val (.int xd), .val (.long (0 : Int64)), .second] [(.int xi), (.int xb)])) (fun _ k => XS.iloadN X0.here hx rfl (hb hby own_dX_24) rfl k) ?_
      by_cases hc25 : xb = xi
      · refine own_go (T' := s₁) (g' := (mkF m 28 #[.val (.int xi), .val (.int xn), .val (.int xa), .val (.int xb), .val (.int xd), .val (.long (0 : Int64)), .second] [])) (fun _ k => XS.icmpNo X0.here hx rfl (hb hby own_dX_25) rfl (teq (hc25 : xb = xi)).2 k) ?_
        refine own_go (T' := s₁) (g' := (mkF m 30 #[.val (.int xi), .val (.int xn), .val (.int xa), .val (.int xb), .val (.int xd), .val (.long (0 : Int64)), .second] [(.long (0 : Int64))])) (fun _ k => XS.lload X0.here hx rfl (hb hby own_dX_28) rfl k) ?_
        refine own_go (T' := s₁) (g' := (mkF m 31 #[.val (.int xi), .val (.int xn), .val (.int xa), .val (.int xb), .val (.int xd), .val (.long (0 : Int64)), .second] [(.long (1 : Int64)), (.long (0 : Int64))])) (fun _ k => XS.lconst X0.here hx rfl (hb hby own_dX_30) k) ?_
        refine own_go (T' := s₁) (g' := (mkF m 32 #[.val (.int xi), .val (.int xn), .val (.int xa), .val (.int xb), .val (.int xd), .val (.long (0 : Int64)), .second] [(.long (1 : Int64))])) (fun _ k => XS.ladd X0.here hx rfl (hb hby own_dX_31) rfl k) ?_
        refine own_go (T' := s₁) (g' := (mkF m 34 #[.val (.int xi), .val (.int xn), .val (.int xa), .val (.int xb), .val (.int xd), .val (.long (1 : Int64)), .second] [])) (fun _ k => XS.lstore X0.here hx rfl (hb hby own_dX_32) rfl (l' := #[.val (.int xi), .val (.int xn), .val (.int xa), .val (.int xb), .val (.int xd), .val (.long (1 : Int64)), .second]) rfl k) ?_
        refine own_go (T' := s₁) (g' := (mkF m 35 #[.val (.int xi), .val (.int xn), .val (.int xa), .val (.int xb), .val (.int xd), .val (.long (1 : Int64)), .second] [(.int xn)])) (fun _ k => XS.iloadN X0.here hx rfl (hb hby own_dX_34) rfl k) ?_
        refine own_go (T' := s₁) (g' := (mkF m 36 #[.val (.int xi), .val (.int xn), .val (.int xa), .val (.int xb), .val (.int xd), .val (.long (1 : Int64)), .second] [(.int (2 : Int32)), (.int xn)])) (fun _ k => XS.iconst X0.here hx rfl (hb hby own_dX_35) k) ?_
        by_cases hc36 : (2 : Int32) < xn
        · refine own_go (T' := s₁) (g' := (mkF m 39 #[.val (.int xi), .val (.int xn), .val (.int xa), .val (.int xb), .val (.int xd), .val (.long (1 : Int64)), .second] [])) (fun _ k => XS.icmpNo X0.here hx rfl (hb hby own_dX_36) rfl (tlt (hc36 : (2 : Int32) < xn)).2.2.2 k) ?_
          refine own_go (T' := s₁) (g' := (mkF m 41 #[.val (.int xi), .val (.int xn), .val (.int xa), .val (.int xb), .val (.int xd), .val (.long (1 : Int64)), .second] [(.int xd)])) (fun _ k => XS.iload X0.here hx rfl (hb hby own_dX_39) rfl k) ?_
          refine own_go (T' := s₁) (g' := (mkF m 42 #[.val (.int xi), .val (.int xn), .val (.int xa), .val (.int xb), .val (.int xd), .val (.long (1 : Int64)), .second] [(.int xi), (.int xd)])) (fun _ k => XS.iloadN X0.here hx rfl (hb hby own_dX_41) rfl k) ?_
          by_cases hc42 : xd = xi
          · refine own_go (T' := s₁) (g' := (mkF m 45 #[.val (.int xi), .val (.int xn), .val (.int xa), .val (.int xb), .val (.int xd), .val (.long (1 : Int64)), .second] [])) (fun _ k => XS.icmpNo X0.here hx rfl (hb hby own_dX_42) rfl (teq (hc42 : xd = xi)).2 k) ?_
            refine own_go (T' := s₁) (g' := (mkF m 47 #[.val (.int xi), .val (.int xn), .val (.int xa), .val (.int xb), .val (.int xd), .val (.long (1 : Int64)), .second] [(.long (1 : Int64))])) (fun _ k => XS.lload X0.here hx rfl (hb hby own_dX_45) rfl k) ?_
            refine own_go (T' := s₁) (g' := (mkF m 48 #[.val (.int xi), .val (.int xn), .val (.int xa), .val (.int xb), .val (.int xd), .val (.long (1 : Int64)), .second] [(.long (1 : Int64)), (.long (1 : Int64))])) (fun _ k => XS.lconst X0.here hx rfl (hb hby own_dX_47) k) ?_
            refine own_go (T' := s₁) (g' := (mkF m 49 #[.val (.int xi), .val (.int xn), .val (.int xa), .val (.int xb), .val (.int xd), .val (.long (1 : Int64)), .second] [(.long (2 : Int64))])) (fun _ k => XS.ladd X0.here hx rfl (hb hby own_dX_48) rfl k) ?_
            refine own_go (T' := s₁) (g' := (mkF m 51 #[.val (.int xi), .val (.int xn), .val (.int xa), .val (.int xb), .val (.int xd), .val (.long (2 : Int64)), .second] [])) (fun _ k => XS.lstore X0.here hx rfl (hb hby own_dX_49) rfl (l' := #[.val (.int xi), .val (.int xn), .val (.int xa), .val (.int xb), .val (.int xd), .val (.long (2 : Int64)), .second]) rfl k) ?_
            refine own_go (T' := s₁) (g' := (mkF m 53 #[.val (.int xi), .val (.int xn), .val (.int xa), .val (.int xb), .val (.int xd), .val (.long (2 : Int64)), .second] [(.long (2 : Int64))])) (fun _ k => XS.lload X0.here hx rfl (hb hby own_dX_51) rfl k) ?_
            obtain ⟨fs, hr, hrun, hended, hW, hsame⟩ := X0.leave (v := some (.long (2 : Int64))) (fun h => by rw [Bd.returns] at h; cases h)
            refine own_end (retOut X0 hx Bd.returns rfl (Or.inr (Or.inl ⟨rfl, rfl, _, rfl⟩)) (hb hby own_dX_53) hr) hrun hended ⟨_, _, rfl, (?_ : own_QX Z xi xn xa xb xd h0 n0 _ s₁.heap _), ⟨_, rfl⟩, hW, hsame.mono (by decide) (by decide)⟩
            rw [e0]
            exact ⟨by simp [own_exp, own_s, hc4, hc20, hc25, hc36, hc42], N0, rfl⟩
          · refine own_go (T' := s₁) (g' := (mkF m 51 #[.val (.int xi), .val (.int xn), .val (.int xa), .val (.int xb), .val (.int xd), .val (.long (1 : Int64)), .second] [])) (fun _ k => XS.icmpYes X0.here hx rfl (pc0 := 42) (pc' := 51) rfl (hb hby own_dX_42) rfl (feq (hc42 : ¬ (xd = xi))).2 (by decide) (by decide) k) ?_
            refine own_go (T' := s₁) (g' := (mkF m 53 #[.val (.int xi), .val (.int xn), .val (.int xa), .val (.int xb), .val (.int xd), .val (.long (1 : Int64)), .second] [(.long (1 : Int64))])) (fun _ k => XS.lload X0.here hx rfl (hb hby own_dX_51) rfl k) ?_
            obtain ⟨fs, hr, hrun, hended, hW, hsame⟩ := X0.leave (v := some (.long (1 : Int64))) (fun h => by rw [Bd.returns] at h; cases h)
            refine own_end (retOut X0 hx Bd.returns rfl (Or.inr (Or.inl ⟨rfl, rfl, _, rfl⟩)) (hb hby own_dX_53) hr) hrun hended ⟨_, _, rfl, (?_ : own_QX Z xi xn xa xb xd h0 n0 _ s₁.heap _), ⟨_, rfl⟩, hW, hsame.mono (by decide) (by decide)⟩
            rw [e0]
            exact ⟨by simp [own_exp, own_s, hc4, hc20, hc25, hc36, hc42], N0, rfl⟩
        · refine own_go (T' := s₁) (g' := (mkF m 51 #[.val (.int xi), .val (.int xn), .val (.int xa), .val (.int xb), .val (.int xd), .val (.long (1 : Int64)), .second] [])) (fun _ k => XS.icmpYes X0.here hx rfl (pc0 := 36) (pc' := 51) rfl (hb hby own_dX_36) rfl (flt (hc36 : ¬ ((2 : Int32) < xn))).2.2.2 (by decide) (by decide) k) ?_
          refine own_go (T' := s₁) (g' := (mkF m 53 #[.val (.int xi), .val (.int xn), .val (.int xa), .val (.int xb), .val (.int xd), .val (.long (1 : Int64)), .second] [(.long (1 : Int64))])) (fun _ k => XS.lload X0.here hx rfl (hb hby own_dX_51) rfl k) ?_
          obtain ⟨fs, hr, hrun, hended, hW, hsame⟩ := X0.leave (v := some (.long (1 : Int64))) (fun h => by rw [Bd.returns] at h; cases h)
          refine own_end (retOut X0 hx Bd.returns rfl (Or.inr (Or.inl ⟨rfl, rfl, _, rfl⟩)) (hb hby own_dX_53) hr) hrun hended ⟨_, _, rfl, (?_ : own_QX Z xi xn xa xb xd h0 n0 _ s₁.heap _), ⟨_, rfl⟩, hW, hsame.mono (by decide) (by decide)⟩
          rw [e0]
          exact ⟨by simp [own_exp, own_s, hc4, hc20, hc25, hc36], N0, rfl⟩
      · refine own_go (T' := s₁) (g' := (mkF m 34 #[.val (.int xi), .val (.int xn), .val (.int xa), .val (.int xb), .val (.int xd), .val (.long (0 : Int64)), .second] [])) (fun _ k => XS.icmpYes X0.here hx rfl (pc0 := 25) (pc' := 34) rfl (hb hby own_dX_25) rfl (feq (hc25 : ¬ (xb = xi))).2 (by decide) (by decide) k) ?_
        refine own_go (T' := s₁) (g' := (mkF m 35 #[.val (.int xi), .val (.int xn), .val (.int xa), .val (.int xb), .val (.int xd), .val (.long (0 : Int64)), .second] [(.int xn)])) (fun _ k => XS.iloadN X0.here hx rfl (hb hby own_dX_34) rfl k) ?_
        refine own_go (T' := s₁) (g' := (mkF m 36 #[.val (.int xi), .val (.int xn), .val (.int xa), .val (.int xb), .val (.int xd), .val (.long (0 : Int64)), .second] [(.int (2 : Int32)), (.int xn)])) (fun _ k => XS.iconst X0.here hx rfl (hb hby own_dX_35) k) ?_
        by_cases hc36 : (2 : Int32) < xn
        · refine own_go (T' := s₁) (g' := (mkF m 39 #[.val (.int xi), .val (.int xn), .val (.int xa), .val (.int xb), .val (.int xd), .val (.long (0 : Int64)), .second] [])) (fun _ k => XS.icmpNo X0.here hx rfl (hb hby own_dX_36) rfl (tlt (hc36 : (2 : Int32) < xn)).2.2.2 k) ?_
          refine own_go (T' := s₁) (g' := (mkF m 41 #[.val (.int xi), .val (.int xn), .val (.int xa), .val (.int xb), .val (.int xd), .val (.long (0 : Int64)), .second] [(.int xd)])) (fun _ k => XS.iload X0.here hx rfl (hb hby own_dX_39) rfl k) ?_
          refine own_go (T' := s₁) (g' := (mkF m 42 #[.val (.int xi), .val (.int xn), .val (.int xa), .val (.int xb), .val (.int xd), .val (.long (0 : Int64)), .second] [(.int xi), (.int xd)])) (fun _ k => XS.iloadN X0.here hx rfl (hb hby own_dX_41) rfl k) ?_
          by_cases hc42 : xd = xi
          · refine own_go (T' := s₁) (g' := (mkF m 45 #[.val (.int xi), .val (.int xn), .val (.int xa), .val (.int xb), .val (.int xd), .val (.long (0 : Int64)), .second] [])) (fun _ k => XS.icmpNo X0.here hx rfl (hb hby own_dX_42) rfl (teq (hc42 : xd = xi)).2 k) ?_
            refine own_go (T' := s₁) (g' := (mkF m 47 #[.val (.int xi), .val (.int xn), .val (.int xa), .val (.int xb), .val (.int xd), .val (.long (0 : Int64)), .second] [(.long (0 : Int64))])) (fun _ k => XS.lload X0.here hx rfl (hb hby own_dX_45) rfl k) ?_
            refine own_go (T' := s₁) (g' := (mkF m 48 #[.val (.int xi), .val (.int xn), .val (.int xa), .val (.int xb), .val (.int xd), .val (.long (0 : Int64)), .second] [(.long (1 : Int64)), (.long (0 : Int64))])) (fun _ k => XS.lconst X0.here hx rfl (hb hby own_dX_47) k) ?_
            refine own_go (T' := s₁) (g' := (mkF m 49 #[.val (.int xi), .val (.int xn), .val (.int xa), .val (.int xb), .val (.int xd), .val (.long (0 : Int64)), .second] [(.long (1 : Int64))])) (fun _ k => XS.ladd X0.here hx rfl (hb hby own_dX_48) rfl k) ?_
            refine own_go (T' := s₁) (g' := (mkF m 51 #[.val (.int xi), .val (.int xn), .val (.int xa), .val (.int xb), .val (.int xd), .val (.long (1 : Int64)), .second] [])) (fun _ k => XS.lstore X0.here hx rfl (hb hby own_dX_49) rfl (l' := #[.val (.int xi), .val (.int xn), .val (.int xa), .val (.int xb), .val (.int xd), .val (.long (1 : Int64)), .second]) rfl k) ?_
            refine own_go (T' := s₁) (g' := (mkF m 53 #[.val (.int xi), .val (.int xn), .val (.int xa), .val (.int xb), .val (.int xd), .val (.long (1 : Int64)), .second] [(.long (1 : Int64))])) (fun _ k => XS.lload X0.here hx rfl (hb hby own_dX_51) rfl k) ?_
            obtain ⟨fs, hr, hrun, hended, hW, hsame⟩ := X0.leave (v := some (.long (1 : Int64))) (fun h => by rw [Bd.returns] at h; cases h)
            refine own_end (retOut X0 hx Bd.returns rfl (Or.inr (Or.inl ⟨rfl, rfl, _, rfl⟩)) (hb hby own_dX_53) hr) hrun hended ⟨_, _, rfl, (?_ : own_QX Z xi xn xa xb xd h0 n0 _ s₁.heap _), ⟨_, rfl⟩, hW, hsame.mono (by decide) (by decide)⟩
            rw [e0]
            exact ⟨by simp [own_exp, own_s, hc4, hc20, hc25, hc36, hc42], N0, rfl⟩
          · refine own_go (T' := s₁) (g' := (mkF m 51 #[.val (.int xi), .val (.int xn), .val (.int xa), .val (.int xb), .val (.int xd), .val (.long (0 : Int64)), .second] [])) (fun _ k => XS.icmpYes X0.here hx rfl (pc0 := 42) (pc' := 51) rfl (hb hby own_dX_42) rfl (feq (hc42 : ¬ (xd = xi))).2 (by decide) (by decide) k) ?_
            refine own_go (T' := s₁) (g' := (mkF m 53 #[.val (.int xi), .val (.int xn), .val (.int xa), .val (.int xb), .val (.int xd), .val (.long (0 : Int64)), .second] [(.long (0 : Int64))])) (fun _ k => XS.lload X0.here hx rfl (hb hby own_dX_51) rfl k) ?_
            obtain ⟨fs, hr, hrun, hended, hW, hsame⟩ := X0.leave (v := some (.long (0 : Int64))) (fun h => by rw [Bd.returns] at h; cases h)
            refine own_end (retOut X0 hx Bd.returns rfl (Or.inr (Or.inl ⟨rfl, rfl, _, rfl⟩)) (hb hby own_dX_53) hr) hrun hended ⟨_, _, rfl, (?_ : own_QX Z xi xn xa xb xd h0 n0 _ s₁.heap _), ⟨_, rfl⟩, hW, hsame.mono (by decide) (by decide)⟩
            rw [e0]
            exact ⟨by simp [own_exp, own_s, hc4, hc20, hc25, hc36, hc42], N0, rfl⟩
        · refine own_go (T' := s₁) (g' := (mkF m 51 #[.val (.int xi), .val (.int xn), .val (.int xa), .val (.int xb), .val (.int xd), .val (.long (0 : Int64)), .second] [])) (fun _ k => XS.icmpYes X0.here hx rfl (pc0 := 36) (pc' := 51) rfl (hb hby own_dX_36) rfl (flt (hc36 : ¬ ((2 : Int32) < xn))).2.2.2 (by decide) (by decide) k) ?_
          refine own_go (T' := s₁) (g' := (mkF m 53 #[.val (.int xi), .val (.int xn), .val (.int xa), .val (.int xb), .val (.int xd), .val (.long (0 : Int64)), .second] [(.long (0 : Int64))])) (fun _ k => XS.lload X0.here hx rfl (hb hby own_dX_51) rfl k) ?_
          obtain ⟨fs, hr, hrun, hended, hW, hsame⟩ := X0.leave (v := some (.long (0 : Int64))) (fun h => by rw [Bd.returns] at h; cases h)
          refine own_end (retOut X0 hx Bd.returns rfl (Or.inr (Or.inl ⟨rfl, rfl, _, rfl⟩)) (hb hby own_dX_53) hr) hrun hended ⟨_, _, rfl, (?_ : own_QX Z xi xn xa xb xd h0 n0 _ s₁.heap _), ⟨_, rfl⟩, hW, hsame.mono (by decide) (by decide)⟩
          rw [e0]
          exact ⟨by simp [own_exp, own_s, hc4, hc20, hc25, hc36], N0, rfl⟩
    · refine own_go (T' := s₁) (g' := (mkF m 34 #[.val (.int xi), .val (.int xn), .val (.int xa), .val (.int xb), .val (.int xd), .val (.long (0 : Int64)), .second] [])) (fun _ k => XS.icmpYes X0.here hx rfl (pc0 := 20) (pc' := 34) rfl (hb hby own_dX_20) rfl (flt (hc20 : ¬ ((1 : Int32) < xn))).2.2.2 (by decide) (by decide) k) ?_
      refine own_go (T' := s₁) (g' := (mkF m 35 #[.val (.int xi), .val (.int xn), .val (.int xa), .val (.int xb), .val (.int xd), .val (.long (0 : Int64)), .second] [(.int xn)])) (fun _ k => XS.iloadN X0.here hx rfl (hb hby own_dX_34) rfl k) ?_
      refine own_go (T' := s₁) (g' := (mkF m 36 #[.val (.int xi), .val (.int xn), .val (.int xa), .val (.int xb), .val (.int xd), .val (.long (0 : Int64)), .second] [(.int (2 : Int32)), (.int xn)])) (fun _ k => XS.iconst X0.here hx rfl (hb hby own_dX_35) k) ?_
      by_cases hc36 : (2 : Int32) < xn
      · refine own_go (T' := s₁) (g' := (mkF m 39 #[.val (.int xi), .val (.int xn), .val (.int xa), .val (.int xb), .val (.int xd), .val (.long (0 : Int64)), .second] [])) (fun _ k => XS.icmpNo X0.here hx rfl (hb hby own_dX_36) rfl (tlt (hc36 : (2 : Int32) < xn)).2.2.2 k) ?_
        refine own_go (T' := s₁) (g' := (mkF m 41 #[.val (.int xi), .val (.int xn), .val (.int xa), .val (.int xb), .val (.int xd), .val (.long (0 : Int64)), .second] [(.int xd)])) (fun _ k => XS.iload X0.here hx rfl (hb hby own_dX_39) rfl k) ?_
        refine own_go (T' := s₁) (g' := (mkF m 42 #[.val (.int xi), .val (.int xn), .val (.int xa), .val (.int xb), .val (.int xd), .val (.long (0 : Int64)), .second] [(.int xi), (.int xd)])) (fun _ k => XS.iloadN X0.here hx rfl (hb hby own_dX_41) rfl k) ?_
        by_cases hc42 : xd = xi
        · refine own_go (T' := s₁) (g' := (mkF m 45 #[.val (.int xi), .val (.int xn), .val (.int xa), .val (.int xb), .val (.int xd), .val (.long (0 : Int64)), .second] [])) (fun _ k => XS.icmpNo X0.here hx rfl (hb hby own_dX_42) rfl (teq (hc42 : xd = xi)).2 k) ?_
          refine own_go (T' := s₁) (g' := (mkF m 47 #[.val (.int xi), .val (.int xn), .val (.int xa), .val (.int xb), .val (.int xd), .val (.long (0 : Int64)), .second] [(.long (0 : Int64))])) (fun _ k => XS.lload X0.here hx rfl (hb hby own_dX_45) rfl k) ?_
          refine own_go (T' := s₁) (g' := (mkF m 48 #[.val (.int xi), .val (.int xn), .val (.int xa), .val (.int xb), .val (.int xd), .val (.long (0 : Int64)), .second] [(.long (1 : Int64)), (.long (0 : Int64))])) (fun _ k => XS.lconst X0.here hx rfl (hb hby own_dX_47) k) ?_
          refine own_go (T' := s₁) (g' := (mkF m 49 #[.val (.int xi), .val (.int xn), .val (.int xa), .val (.int xb), .val (.int xd), .val (.long (0 : Int64)), .second] [(.long (1 : Int64))])) (fun _ k => XS.ladd X0.here hx rfl (hb hby own_dX_48) rfl k) ?_
          refine own_go (T' := s₁) (g' := (mkF m 51 #[.val (.int xi), .val (.int xn), .val (.int xa), .val (.int xb), .val (.int xd), .val (.long (1 : Int64)), .second] [])) (fun _ k => XS.lstore X0.here hx rfl (hb hby own_dX_49) rfl (l' := #[.val (.int xi), .val (.int xn), .val (.int xa), .val (.int xb), .val (.int xd), .val (.long (1 : Int64)), .second]) rfl k) ?_
          refine own_go (T' := s₁) (g' := (mkF m 53 #[.val (.int xi), .val (.int xn), .val (.int xa), .val (.int xb), .val (.int xd), .val (.long (1 : Int64)), .second] [(.long (1 : Int64))])) (fun _ k => XS.lload X0.here hx rfl (hb hby own_dX_51) rfl k) ?_
          obtain ⟨fs, hr, hrun, hended, hW, hsame⟩ := X0.leave (v := some (.long (1 : Int64))) (fun h => by rw [Bd.returns] at h; cases h)
          refine own_end (retOut X0 hx Bd.returns rfl (Or.inr (Or.inl ⟨rfl, rfl, _, rfl⟩)) (hb hby own_dX_53) hr) hrun hended ⟨_, _, rfl, (?_ : own_QX Z xi xn xa xb xd h0 n0 _ s₁.heap _), ⟨_, rfl⟩, hW, hsame.mono (by decide) (by decide)⟩
          rw [e0]
          exact ⟨by simp [own_exp, own_s, hc4, hc20, hc36, hc42], N0, rfl⟩
        · refine own_go (T' := s₁) (g' := (mkF m 51 #[.val (.int xi), .val (.int xn), .val (.int xa), .val (.int xb), .val (.int xd), .val (.long (0 : Int64)), .second] [])) (fun _ k => XS.icmpYes X0.here hx rfl (pc0 := 42) (pc' := 51) rfl (hb hby own_dX_42) rfl (feq (hc42 : ¬ (xd = xi))).2 (by decide) (by decide) k) ?_
          refine own_go (T' := s₁) (g' := (mkF m 53 #[.val (.int xi), .val (.int xn), .val (.int xa), .val (.int xb), .val (.int xd), .val (.long (0 : Int64)), .second] [(.long (0 : Int64))])) (fun _ k => XS.lload X0.here hx rfl (hb hby own_dX_51) rfl k) ?_
          obtain ⟨fs, hr, hrun, hended, hW, hsame⟩ := X0.leave (v := some (.long (0 : Int64))) (fun h => by rw [Bd.returns] at h; cases h)
          refine own_end (retOut X0 hx Bd.returns rfl (Or.inr (Or.inl ⟨rfl, rfl, _, rfl⟩)) (hb hby own_dX_53) hr) hrun hended ⟨_, _, rfl, (?_ : own_QX Z xi xn xa xb xd h0 n0 _ s₁.heap _), ⟨_, rfl⟩, hW, hsame.mono (by decide) (by decide)⟩
          rw [e0]
          exact ⟨by simp [own_exp, own_s, hc4, hc20, hc36, hc42], N0, rfl⟩
      · refine own_go (T' := s₁) (g' := (mkF m 51 #[.val (.int xi), .val (.int xn), .val (.int xa), .val (.int xb), .val (.int xd), .val (.long (0 : Int64)), .second] [])) (fun _ k => XS.icmpYes X0.here hx rfl (pc0 := 36) (pc' := 51) rfl (hb hby own_dX_36) rfl (flt (hc36 : ¬ ((2 : Int32) < xn))).2.2.2 (by decide) (by decide) k) ?_
        refine own_go (T' := s₁) (g' := (mkF m 53 #[.val (.int xi), .val (.int xn), .val (.int xa), .val (.int xb), .val (.int xd), .val (.long (0 : Int64)), .second] [(.long (0 : Int64))])) (fun _ k => XS.lload X0.here hx rfl (hb hby own_dX_51) rfl k) ?_
        obtain ⟨fs, hr, hrun, hended, hW, hsame⟩ := X0.leave (v := some (.long (0 : Int64))) (fun h => by rw [Bd.returns] at h; cases h)
        refine own_end (retOut X0 hx Bd.returns rfl (Or.inr (Or.inl ⟨rfl, rfl, _, rfl⟩)) (hb hby own_dX_53) hr) hrun hended ⟨_, _, rfl, (?_ : own_QX Z xi xn xa xb xd h0 n0 _ s₁.heap _), ⟨_, rfl⟩, hW, hsame.mono (by decide) (by decide)⟩
        rw [e0]
        exact ⟨by simp [own_exp, own_s, hc4, hc20, hc36], N0, rfl⟩
theorem own_dV_0 : decode prog_8_method_1_code 0 = .ok (.getstatic 22, 3) := by decide +kernel
theorem own_dV_3 : decode prog_8_method_1_code 3 = .ok (.invokevirtual 26, 3) := by decide +kernel
theorem own_dV_6 : decode prog_8_method_1_code 6 = .ok (.checkcast 27, 3) := by decide +kernel
theorem own_dV_9 : decode prog_8_method_1_code 9 = .ok (.areturn, 1) := by decide +kernel
theorem own_efV (m : MethodId)  : entryFrame m #[] 0 = mkF m 0 #[] [] := by first | (simp [entryFrame, mkF, argsToLocals, Value.category]; done) | rfl
def own_QV (Z : State)  (xv : Addr) (kv : ClassId) (a_ACQUISITIONS : Addr) (a_EXPIRED_TAKEOVERS : Addr) (a_RENEWALS : Addr) (a_RENEWALS_FAILED : Addr) (a_HOLDINGS_LOST : Addr) (a_RELEASES : Addr) (h0 : Heap) (n0 : Nat) (v : Option Value) (h : Heap) (L : List Loc) : Prop := v = some (.ref h0.size) ∧ Fr n0 L ∧ Keep h0 h [] ∧ own_A Z h h0.size kv (.object "com/example/leased/leased/ElectorStatus$Count") [(.ref a_ACQUISITIONS), (.ref a_EXPIRED_TAKEOVERS), (.ref a_RENEWALS), (.ref a_RENEWALS_FAILED), (.ref a_HOLDINGS_LOST), (.ref a_RELEASES)]
theorem own_pn2 : plainName "com/example/leased/leased/ElectorStatus$Count" = true := by first | (simp [plainName, overriddenIn]; done) | decide +kernel
set_option maxRecDepth 65536 in
set_option maxHeartbeats 40000000 in
theorem own_rV (l : Launch) (Z : State) (a0 : Array Value) (hw : ∀ d ∈ tables_1, d.before a0 Z = true) (ws : List Jvm.Cond)  (xv : Addr) (kv : ClassId) (a_ACQUISITIONS : Addr) (a_EXPIRED_TAKEOVERS : Addr) (a_RENEWALS : Addr) (a_RENEWALS_FAILED : Addr) (a_HOLDINGS_LOST : Addr) (a_RELEASES : Addr) (h0 : Heap) (n0 : Nat) (Z0 : n0 ≤ h0.size) (Sv : Sta Z h0 "com/example/leased/leased/ElectorStatus$Count" "$VALUES" "[Lcom/example/leased/leased/ElectorStatus$Count;" (.ref xv)) (Av : own_A Z h0 xv kv (.object "com/example/leased/leased/ElectorStatus$Count") [(.ref a_ACQUISITIONS), (.ref a_EXPIRED_TAKEOVERS), (.ref a_RENEWALS), (.ref a_RENEWALS_FAILED), (.ref a_HOLDINGS_LOST), (.ref a_RELEASES)]) (Ev : Exa Z h0 xv "[Lcom/example/leased/leased/ElectorStatus$Count;") :
    MetFree l (⟨"com/example/leased/leased/ElectorStatus$Count", "values", "()[Lcom/example/leased/leased/ElectorStatus$Count;"⟩ : MethodName) (head1 (Jvm.Cond.code (⟨"com/example/leased/leased/ElectorStatus$Count", "values", "()[Lcom/example/leased/leased/ElectorStatus$Count;"⟩ : MethodName) prog_8_method_1_code 0 (some (.array (.object "com/example/leased/leased/ElectorStatus$Count"))) :: ws) ({ frames := 1, cells := 1, slots := 6, locals := 14 } : Room)) (fun a U => a = #[] ∧ Z.Warmed39 U.vm ∧ U.heap = h0) (fun _ _ _ _ _ => True) (fun _ U o U' => ∃ v L, o = .returned v ∧ own_QV Z xv kv a_ACQUISITIONS a_EXPIRED_TAKEOVERS a_RENEWALS a_RENEWALS_FAILED a_HOLDINGS_LOST a_RELEASES h0 n0 v U'.heap L ∧ FrameEnd U o U' L ({ frames := 1, cells := 1, slots := 6, locals := 14 } : Room).cells ({ frames := 1, cells := 1, slots := 6, locals := 14 } : Room).slots) := by
  refine MetFree.of_bodySF (plainFor_of_name own_pn2) hisR ?_
  intro p e s m args below meth c s₁ Bd hml0 hP hK
  obtain ⟨rfl, hZ, hh⟩ := hP
  have hx := Bd.exec
  have hby := Bd.bytes
  have hml : c.maxLocals = 0 := hml0
  have hown : s.vm.findClass "com/example/leased/leased/ElectorStatus$Count" = some m.cls := findClass_of_methodNamed Bd.named
  have hnm := (name_of_methodNamed Bd.named Bd.method).1
  have X0 : Stand p l e ({ frames := 1, cells := 1, slots := 6, locals := 14 } : Room) s m #[] below meth c s₁ [] 0 0 := Stand.of_body Bd
  have e0 : s₁.heap = h0 := by rw [← hh, Bd.state]; rfl
  have N0 := Fr.nil n0
  show own_F p e below (fun o U' => ∃ v L, o = .returned v ∧ own_QV Z xv kv a_ACQUISITIONS a_EXPIRED_TAKEOVERS a_RENEWALS a_RENEWALS_FAILED a_HOLDINGS_LOST a_RELEASES h0 n0 v U'.heap L ∧ FrameEnd s o U' L ({ frames := 1, cells := 1, slots := 6, locals := 14 } : Room).cells ({ frames := 1, cells := 1, slots := 6, locals := 14 } : Room).slots) s₁ (entryFrame m #[] 0)
  rw [own_efV m ]
  obtain ⟨T1, X1, e1, st1⟩ := getS X0 hx hZ (host := "") hown (hw _ (List.mem_of_getElem? (i := 21) rfl)) Via.refl e0 Sv (g := (mkF m 0 #[] [])) rfl (hb hby own_dV_0)
  refine own_go (T' := T1) (g' := (mkF m 3 #[] [(.ref xv)])) (fun _ k => st1 _ k) ?_
  obtain ⟨T2, h2, X2, e2, E2, V2, A2, st2⟩ := own_clone X1 hx hZ hown (hw _ (List.mem_of_getElem? (i := 23) rfl)) (hw _ (List.mem_of_getElem? (i := 24) rfl)) (hw _ (List.mem_of_getElem? (i := 28) rfl)) (hw _ (List.mem_of_getElem? (i := 26) rfl)) (hw _ (List.mem_of_getElem? (i := 27) rfl)) (hw _ (List.mem_of_getElem? (i := 29) rfl)) e1 Av Ev own_fitr (g := (mkF m 3 #[] [(.ref xv)])) rfl (by rw [hml]; rfl) (rest := []) rfl (hb hby own_dV_3) (by decide) (W := 0) (cap := 6) (by show 2 * 0 + _ ≤ _; exact Nat.le_of_eq rfl) (by decide) (Nat.le_of_ble_eq_true rfl) (by decide) (by decide)
  obtain ⟨b2, g2⟩ : ∃ z, z = h0.size := ⟨_, rfl⟩
  rw [← g2] at V2 A2 st2
  have gz_b2 : n0 ≤ b2 := Nat.le_trans Z0 (Nat.le_of_eq g2.symm)
  have hz_b2 : h0.size ≤ b2 := Nat.le_trans (Keep.refl h0 []).1 (Nat.le_of_eq g2.symm)
  have Z2 : n0 ≤ h2.size := Nat.le_trans Z0 E2.1
  have K2 : Keep h0 h2 [] := (Keep.refl h0 []).ext E2
  refine own_go (T' := T2) (g' := (mkF m 6 #[] [(.ref b2)])) (fun _ k => st2 _ k) ?_
  obtain ⟨T3, X3, e3, st3⟩ := castY X2 hx hZ hown (hw _ (List.mem_of_getElem? (i := 34) rfl)) e2 (Ins.self A2) (g := (mkF m 6 #[] [(.ref b2)])) rfl rfl (hb hby own_dV_6)
  refine own_go (T' := T3) (g' := (mkF m 9 #[] [(.ref b2)])) (fun _ k => st3 _ k) ?_
  obtain ⟨fs, hr, hrun, hended, hW, hsame⟩ := X3.leave (v := some (.ref b2)) (fun h => by rw [Bd.returns] at h; cases h)
  refine own_end (retOut X3 hx Bd.returns rfl (Or.inr (Or.inr (Or.inr (Or.inr ⟨rfl, rfl, rfl⟩)))) (hb hby own_dV_9) hr) hrun hended ⟨_, _, rfl, (?_ : own_QV Z xv kv a_ACQUISITIONS a_EXPIRED_TAKEOVERS a_RENEWALS a_RENEWALS_FAILED a_HOLDINGS_LOST a_RELEASES h0 n0 _ T3.heap _), ⟨_, rfl⟩, hW, hsame.mono (by decide) (by decide)⟩
  rw [e3]
  exact ⟨by rw [g2], N0, K2, g2 ▸ V2⟩
theorem own_dJ_0 : decode prog_9_method_2_code 0 = .ok (.aload_n 0, 1) := by decide +kernel
theorem own_dJ_1 : decode prog_9_method_2_code 1 = .ok (.invokespecial 13, 3) := by decide +kernel
theorem own_dJ_4 : decode prog_9_method_2_code 4 = .ok (.aload_n 0, 1) := by decide +kernel
theorem own_dJ_5 : decode prog_9_method_2_code 5 = .ok (.aload_n 1, 1) := by decide +kernel
theorem own_dJ_6 : decode prog_9_method_2_code 6 = .ok (.putfield 18, 3) := by decide +kernel
theorem own_dJ_9 : decode prog_9_method_2_code 9 = .ok (.return_, 1) := by decide +kernel
theorem own_efJ (m : MethodId) (xo : Addr) (xt : Addr) : entryFrame m #[(.ref xo), (.ref xt)] 2 = mkF m 0 #[.val (.ref xo), .val (.ref xt)] [] := by first | (simp [entryFrame, mkF, argsToLocals, Value.category]; done) | rfl
def own_QJ (Z : State) (xo : Addr) (xt : Addr)  (h0 : Heap) (n0 : Nat) (v : Option Value) (h : Heap) (L : List Loc) : Prop := v = none ∧ Fr n0 L ∧ Keep h0 h [xo] ∧ Exa Z h xo "com/example/leased/leased/ElectorStatus$Counts" ∧ Fld Z h xo "com/example/leased/leased/ElectorStatus$Counts" "values" "[J" (.ref xt)
theorem own_pn3 : plainName "com/example/leased/leased/ElectorStatus$Counts" = true := by first | (simp [plainName, overriddenIn]; done) | decide +kernel
set_option maxRecDepth 65536 in
set_option maxHeartbeats 40000000 in
theorem own_rJ (l : Launch) (Z : State) (a0 : Array Value) (hw : ∀ d ∈ tables_1, d.before a0 Z = true) (ws : List Jvm.Cond) (xo : Addr) (xt : Addr)  (h0 : Heap) (n0 : Nat) (Z0 : n0 ≤ h0.size) (F1 : Fld Z h0 xo "com/example/leased/leased/ElectorStatus$Counts" "values" "[J" .null) (E1 : Exa Z h0 xo "com/example/leased/leased/ElectorStatus$Counts") (gz : n0 ≤ xo) :
    MetFree l (⟨"com/example/leased/leased/ElectorStatus$Counts", "<init>", "([J)V"⟩ : MethodName) (head1 (Jvm.Cond.code (⟨"com/example/leased/leased/ElectorStatus$Counts", "<init>", "([J)V"⟩ : MethodName) prog_9_method_2_code 2 none :: ws) ({ frames := 1, cells := 0, slots := 0, locals := 12 } : Room)) (fun a U => a = #[(.ref xo), (.ref xt)] ∧ Z.Warmed39 U.vm ∧ U.heap = h0) (fun _ _ _ _ _ => True) (fun _ U o U' => ∃ v L, o = .returned v ∧ own_QJ Z xo xt h0 n0 v U'.heap L ∧ FrameEnd U o U' L ({ frames := 1, cells := 0, slots := 0, locals := 12 } : Room).cells ({ frames := 1, cells := 0, slots := 0, locals := 12 } : Room).slots) := by
  refine MetFree.of_bodySF (plainFor_of_name own_pn3) hisR ?_
  intro p e s m args below meth c s₁ Bd hml0 hP hK
  obtain ⟨rfl, hZ, hh⟩ := hP
  have hx := Bd.exec
  have hby := Bd.bytes
  have hml : c.maxLocals = 2 := hml0
  have hown : s.vm.findClass "com/example/leased/leased/ElectorStatus$Counts" = some m.cls := findClass_of_methodNamed Bd.named
  have hnm := (name_of_methodNamed Bd.named Bd.method).1
  have X0 : Stand p l e ({ frames := 1, cells := 0, slots := 0, locals := 12 } : Room) s m #[(.ref xo), (.ref xt)] below meth c s₁ [] 0 0 := Stand.of_body Bd
  have e0 : s₁.heap = h0 := by rw [← hh, Bd.state]; rfl
  have N0 := Fr.nil n0
  show own_F p e below (fun o U' => ∃ v L, o = .returned v ∧ own_QJ Z xo xt h0 n0 v U'.heap L ∧ FrameEnd s o U' L ({ frames := 1, cells := 0, slots := 0, locals := 12 } : Room).cells ({ frames := 1, cells := 0, slots := 0, locals := 12 } : Room).slots) s₁ (entryFrame m #[(.ref xo), (.ref xt)] 2)
  rw [own_efJ m xo xt]
  refine own_go (T' := s₁) (g' := (mkF m 1 #[.val (.ref xo), .val (.ref xt)] [(.ref xo)])) (fun _ k => XS.aloadN X0.here hx rfl (hb hby own_dJ_0) rfl rfl k) ?_
  obtain ⟨T1, X1, e1, st1⟩ := initO X0 hx hZ hown (hw _ (List.mem_of_getElem? (i := 40) rfl)) (hw _ (List.mem_of_getElem? (i := 41) rfl)) (hw _ (List.mem_of_getElem? (i := 42) rfl)) e0 (g := (mkF m 1 #[.val (.ref xo), .val (.ref xt)] [(.ref xo)])) rfl (by rw [hml]; rfl) rfl (hb hby own_dJ_1) (by decide) (W := 0) (by show 2 * 0 + _ ≤ _; exact Nat.le_of_eq rfl) (by decide)
  refine own_go (T' := T1) (g' := (mkF m 4 #[.val (.ref xo), .val (.ref xt)] [])) (fun _ k => st1 _ k) ?_
  refine own_go (T' := T1) (g' := (mkF m 5 #[.val (.ref xo), .val (.ref xt)] [(.ref xo)])) (fun _ k => XS.aloadN X1.here hx rfl (hb hby own_dJ_4) rfl rfl k) ?_
  refine own_go (T' := T1) (g' := (mkF m 6 #[.val (.ref xo), .val (.ref xt)] [(.ref xt), (.ref xo)])) (fun _ k => XS.aloadN X1.here hx rfl (hb hby own_dJ_5) rfl rfl k) ?_
  obtain ⟨T2, h2, X2, e2, W2, st2⟩ := putF X1 hx hZ hown (host := "") (Or.inl (hw _ (List.mem_of_getElem? (i := 43) rfl))) Via.refl e1 F1 E1 (Or.inr ⟨(hw _ (List.mem_of_getElem? (i := 44) rfl)), rfl, hnm⟩) (hw _ (List.mem_of_getElem? (i := 13) rfl)) (ty := (.array .long)) (by decide) rfl rfl (g := (mkF m 6 #[.val (.ref xo), .val (.ref xt)] [(.ref xt), (.ref xo)])) rfl rfl (hb hby own_dJ_6)
  have Fw2 := F1.same W2
  have Ek3 := E1.wr W2
  have Z2 : n0 ≤ h2.size := Nat.le_trans Z0 (Keep.of_wr W2).1
  have K2 : Keep h0 h2 [xo] := (Keep.refl h0 [xo]).wr W2 (Or.inl (List.mem_of_getElem? (i := 0) rfl))
  have N2 := Fr.snoc X2 N0 gz
  refine own_go (T' := T2) (g' := (mkF m 9 #[.val (.ref xo), .val (.ref xt)] [])) (fun _ k => st2 _ k) ?_
  obtain ⟨fs, hr, hrun, hended, hW, hsame⟩ := X2.leave (v := none) (fun _ => rfl)
  refine own_end (X2.returnOut hx Bd.returns (hb hby own_dJ_9) hr) hrun hended ⟨_, _, rfl, (?_ : own_QJ Z xo xt h0 n0 _ T2.heap _), ⟨_, rfl⟩, hW, hsame.mono (by decide) (by decide)⟩
  rw [e2]
  exact ⟨rfl, N2, K2, Ek3, Fw2⟩
theorem own_pd0 : parseMethodDescriptor "()[Lcom/example/leased/leased/ElectorStatus$Count;" = some ⟨[], some (.array (.object "com/example/leased/leased/ElectorStatus$Count"))⟩ := by decide +kernel
theorem own_pd1 : parseMethodDescriptor "([J)V" = some ⟨[(.array .long)], none⟩ := by decide +kernel
theorem own_dI_0 : decode prog_9_method_1_code 0 = .ok (.aload_n 0, 1) := by decide +kernel
theorem own_dI_1 : decode prog_9_method_1_code 1 = .ok (.invokestatic 1, 3) := by decide +kernel
theorem own_dI_4 : decode prog_9_method_1_code 4 = .ok (.arraylength, 1) := by decide +kernel
theorem own_dI_5 : decode prog_9_method_1_code 5 = .ok (.newarray .long, 2) := by decide +kernel
theorem own_dI_7 : decode prog_9_method_1_code 7 = .ok (.invokespecial 7, 3) := by decide +kernel
theorem own_dI_10 : decode prog_9_method_1_code 10 = .ok (.return_, 1) := by decide +kernel
theorem own_efI (m : MethodId) (xo : Addr) : entryFrame m #[(.ref xo)] 1 = mkF m 0 #[.val (.ref xo)] [] := by first | (simp [entryFrame, mkF, argsToLocals, Value.category]; done) | rfl
def own_QI (Z : State) (xo : Addr) (xv : Addr) (kv : ClassId) (a_ACQUISITIONS : Addr) (a_EXPIRED_TAKEOVERS : Addr) (a_RENEWALS : Addr) (a_RENEWALS_FAILED : Addr) (a_HOLDINGS_LOST : Addr) (a_RELEASES : Addr) (h0 : Heap) (n0 : Nat) (v : Option Value) (h : Heap) (L : List Loc) : Prop := v = none ∧ Fr n0 L ∧ Keep h0 h [xo] ∧ Exa Z h xo "com/example/leased/leased/ElectorStatus$Counts" ∧ ∃ xt kt, h0.size ≤ xt ∧ Fld Z h xo "com/example/leased/leased/ElectorStatus$Counts" "values" "[J" (.ref xt) ∧ own_A Z h xt kt .long [(.long (0 : Int64)), (.long (0 : Int64)), (.long (0 : Int64)), (.long (0 : Int64)), (.long (0 : Int64)), (.long (0 : Int64))]
set_option maxRecDepth 65536 in
set_option maxHeartbeats 40000000 in
theorem own_rI (l : Launch) (Z : State) (a0 : Array Value) (hw : ∀ d ∈ tables_1, d.before a0 Z = true) (ws : List Jvm.Cond) (xo : Addr) (xv : Addr) (kv : ClassId) (a_ACQUISITIONS : Addr) (a_EXPIRED_TAKEOVERS : Addr) (a_RENEWALS : Addr) (a_RENEWALS_FAILED : Addr) (a_HOLDINGS_LOST : Addr) (a_RELEASES : Addr) (h0 : Heap) (n0 : Nat) (Z0 : n0 ≤ h0.size) (F1 : Fld Z h0 xo "com/example/leased/leased/ElectorStatus$Counts" "values" "[J" .null) (E1 : Exa Z h0 xo "com/example/leased/leased/ElectorStatus$Counts") (gz : n0 ≤ xo) (Sv : Sta Z h0 "com/example/leased/leased/ElectorStatus$Count" "$VALUES" "[Lcom/example/leased/leased/ElectorStatus$Count;" (.ref xv)) (Av : own_A Z h0 xv kv (.object "com/example/leased/leased/ElectorStatus$Count") [(.ref a_ACQUISITIONS), (.ref a_EXPIRED_TAKEOVERS), (.ref a_RENEWALS), (.ref a_RENEWALS_FAILED), (.ref a_HOLDINGS_LOST), (.ref a_RELEASES)]) (Ev : Exa Z h0 xv "[Lcom/example/leased/leased/ElectorStatus$Count;") :
    MetFree l (⟨"com/example/leased/leased/ElectorStatus$Counts", "<init>", "()V"⟩ : MethodName) (head1 (Jvm.Cond.code (⟨"com/example/leased/leased/ElectorStatus$Counts", "<init>", "()V"⟩ : MethodName) prog_9_method_1_code 1 none :: ws) ({ frames := 2, cells := 2, slots := 12, locals := 26 } : Room)) (fun a U => a = #[(.ref xo)] ∧ Z.Warmed39 U.vm ∧ U.heap = h0) (fun _ _ _ _ _ => True) (fun _ U o U' => ∃ v L, o = .returned v ∧ own_QI Z xo xv kv a_ACQUISITIONS a_EXPIRED_TAKEOVERS a_RENEWALS a_RENEWALS_FAILED a_HOLDINGS_LOST a_RELEASES h0 n0 v U'.heap L ∧ FrameEnd U o U' L ({ frames := 2, cells := 2, slots := 12, locals := 26 } : Room).cells ({ frames := 2, cells := 2, slots := 12, locals := 26 } : Room).slots) := by
  refine MetFree.of_bodySF (plainFor_of_name own_pn3) hisR ?_
  intro p e s m args below meth c s₁ Bd hml0 hP hK
  obtain ⟨rfl, hZ, hh⟩ := hP
  have hx := Bd.exec
  have hby := Bd.bytes
  have hml : c.maxLocals = 1 := hml0
  have hown : s.vm.findClass "com/example/leased/leased/ElectorStatus$Counts" = some m.cls := findClass_of_methodNamed Bd.named
  have hnm := (name_of_methodNamed Bd.named Bd.method).1
  have X0 : Stand p l e ({ frames := 2, cells := 2, slots := 12, locals := 26 } : Room) s m #[(.ref xo)] below meth c s₁ [] 0 0 := Stand.of_body Bd
  have e0 : s₁.heap = h0 := by rw [← hh, Bd.state]; rfl
  have N0 := Fr.nil n0
  show own_F p e below (fun o U' => ∃ v L, o = .returned v ∧ own_QI Z xo xv kv a_ACQUISITIONS a_EXPIRED_TAKEOVERS a_RENEWALS a_RENEWALS_FAILED a_HOLDINGS_LOST a_RELEASES h0 n0 v U'.heap L ∧ FrameEnd s o U' L ({ frames := 2, cells := 2, slots := 12, locals := 26 } : Room).cells ({ frames := 2, cells := 2, slots := 12, locals := 26 } : Room).slots) s₁ (entryFrame m #[(.ref xo)] 1)
  rw [own_efI m xo]
  refine own_go (T' := s₁) (g' := (mkF m 1 #[.val (.ref xo)] [(.ref xo)])) (fun _ k => XS.aloadN X0.here hx rfl (hb hby own_dI_0) rfl rfl k) ?_
  obtain ⟨_, _, ⟨T1, L1, k1, n1⟩, -, X1, ⟨Lc1, hQ1, l1, y1, z1⟩, st1⟩ := Jvm.LawKit.callS X0 hx (y := (⟨"com/example/leased/leased/ElectorStatus$Count", "values", "()[Lcom/example/leased/leased/ElectorStatus$Count;"⟩ : MethodName)) hown (mvT hZ (hw _ (List.mem_of_getElem? (i := 18) rfl))) (mvT hZ (hw _ (List.mem_of_getElem? (i := 19) rfl))) (mvT hZ (hw _ (List.mem_of_getElem? (i := 6) rfl))) (mvT hZ (hw _ (List.mem_of_getElem? (i := 20) rfl))) (by decide) (backOf (W := 1) (own_rV l Z a0 hw [] xv kv a_ACQUISITIONS a_EXPIRED_TAKEOVERS a_RENEWALS a_RENEWALS_FAILED a_HOLDINGS_LOST a_RELEASES h0 n0 Z0 Sv Av Ev) hZ (hw _ (List.mem_of_getElem? (i := 20) rfl)) (hw _ (List.mem_of_getElem? (i := 6) rfl)) (by decide) (by decide)) (g := (mkF m 1 #[.val (.ref xo)] [(.ref xo)])) rfl (by rw [hml]; rfl) (argsL := []) (rest := [(.ref xo)]) (lenOf own_pd0 rfl) rfl (by show 2 * 0 + _ ≤ _; exact Nat.le_of_eq rfl) (hb hby own_dI_1) (fun _ _ => ⟨rfl, e0, (by decide : 0 + 1 ≤ _), (by decide : 0 + 6 ≤ _)⟩)
  dsimp only [Pt.U, Pt.locs, Pt.cells, Pt.slots] at X1 l1 y1 z1 st1 hQ1
  subst l1 y1 z1
  obtain ⟨rfl, N1q, Kc1, Vc1⟩ := hQ1
  have N1 := Fr.app N0 N1q
  obtain ⟨b1, g1⟩ : ∃ z, z = h0.size := ⟨_, rfl⟩
  rw [← g1] at st1 Vc1
  have Ek2 := E1.keep Kc1
  have Fk3 := F1.keep Kc1 (fun q => nomatch q)
  have Z1 : n0 ≤ T1.heap.size := Nat.le_trans Z0 Kc1.1
  have K1 : Keep h0 T1.heap [xo] := (Keep.refl h0 [xo]).trans Kc1 fun x hx => Or.inr (own_all0 x hx)
  refine own_go (T' := T1) (g' := (mkF m 4 #[.val (.ref xo)] [(.ref b1), (.ref xo)])) (fun _ k => st1 _ k) ?_
  refine own_go (T' := T1) (g' := (mkF m 5 #[.val (.ref xo)] [(.int (6 : Int32)), (.ref xo)])) (fun _ k => own_alen X1 hx hZ rfl Vc1 (g := (mkF m 4 #[.val (.ref xo)] [(.ref b1), (.ref xo)])) rfl rfl (hb hby own_dI_4) (n := (6 : Int32)) rfl k) ?_
  obtain ⟨T4, h4, k4, X4, e4, E4, A4, st4⟩ := newP X1 hx hZ (hw _ (List.mem_of_getElem? (i := 36) rfl)) rfl (g := (mkF m 5 #[.val (.ref xo)] [(.int (6 : Int32)), (.ref xo)])) rfl (hb hby own_dI_5) rfl (by decide) (cap := 6) (by decide) (by decide) (by decide) (by decide)
  obtain ⟨b4, g4⟩ : ∃ z, z = T1.heap.size := ⟨_, rfl⟩
  rw [← g4] at A4 st4
  have ne_xo_b4 : xo ≠ b4 := Nat.ne_of_lt (Nat.lt_of_lt_of_le Ek2.lt (Nat.le_of_eq g4.symm))
  have ne_b1_b4 : b1 ≠ b4 := Nat.ne_of_lt (Nat.lt_of_lt_of_le Vc1.lt (Nat.le_of_eq g4.symm))
  have gz_b4 : n0 ≤ b4 := Nat.le_trans Z1 (Nat.le_of_eq g4.symm)
  have hz_b4 : h0.size ≤ b4 := Nat.le_trans K1.1 (Nat.le_of_eq g4.symm)
  have Ek5 := Ek2.ext E4
  have Fk6 := Fk3.ext E4
  have Vk7 := Vc1.ext E4
  have Z4 : n0 ≤ h4.size := Nat.le_trans Z1 E4.1
  have K4 : Keep h0 h4 [xo] := K1.ext E4
  have V4 : own_A Z h4 b4 k4 .long [(.long (0 : Int64)), (.long (0 : Int64)), (.long (0 : Int64)), (.long (0 : Int64)), (.long (0 : Int64)), (.long (0 : Int64))] := own_A.new A4 (N := 6) rfl
  refine own_go (T' := T4) (g' := (mkF m 7 #[.val (.ref xo)] [(.ref b4), (.ref xo)])) (fun _ k => st4 _ k) ?_
  obtain ⟨_, _, ⟨T8, L8, k8, n8⟩, -, X8, ⟨Lc8, hQ8, l8, y8, z8⟩, st8⟩ := X4.specialBack hx (y := (⟨"com/example/leased/leased/ElectorStatus$Counts", "<init>", "([J)V"⟩ : MethodName)) rfl hown (mvT hZ (hw _ (List.mem_of_getElem? (i := 37) rfl))) (mvT hZ (hw _ (List.mem_of_getElem? (i := 38) rfl))) (mvT hZ (hw _ (List.mem_of_getElem? (i := 39) rfl))) (by decide) (backOf (W := 0) (own_rJ l Z a0 hw [] xo b4 h4 n0 Z4 Fk6 Ek5 gz) hZ (hw _ (List.mem_of_getElem? (i := 39) rfl)) (hw _ (List.mem_of_getElem? (i := 14) rfl)) (by decide) (by decide)) (g := (mkF m 7 #[.val (.ref xo)] [(.ref b4), (.ref xo)])) rfl (by rw [hml]; rfl) (Steps.refl _) (a := xo) (argsL := [(.ref b4)]) (rest := []) (lenOf own_pd1 rfl) rfl (by show 2 * 0 + _ ≤ _; exact Nat.le_of_eq rfl) (hb hby own_dI_7) (fun _ _ => ⟨rfl, e4, (by decide : 2 + 0 ≤ _), (by decide : 12 + 0 ≤ _)⟩)
  dsimp only [Pt.U, Pt.locs, Pt.cells, Pt.slots] at X8 l8 y8 z8 st8 hQ8
  subst l8 y8 z8
  obtain ⟨rfl, N8q, Kc8, Ec8, Fc8⟩ := hQ8
  have N8 := Fr.app N1 N8q
  have Vk9 := V4.keep Kc8 (own_one (Ne.symm ne_xo_b4))
  have Z8 : n0 ≤ T8.heap.size := Nat.le_trans Z4 Kc8.1
  have K8 : Keep h0 T8.heap [xo] := K4.trans Kc8 fun x hx => Or.inl (List.mem_singleton.mp hx ▸ List.mem_of_getElem? (i := 0) rfl)
  refine own_goT (T' := T8) (g' := (mkF m 10 #[.val (.ref xo)] [])) st8 ?_
  obtain ⟨fs, hr, hrun, hended, hW, hsame⟩ := X8.leave (v := none) (fun _ => rfl)
  refine own_end (X8.returnOut hx Bd.returns (hb hby own_dI_10) hr) hrun hended ⟨_, _, rfl, (?_ : own_QI Z xo xv kv a_ACQUISITIONS a_EXPIRED_TAKEOVERS a_RENEWALS a_RENEWALS_FAILED a_HOLDINGS_LOST a_RELEASES h0 n0 _ T8.heap _), ⟨_, rfl⟩, hW, hsame.mono (by decide) (by decide)⟩
  exact ⟨rfl, N8, K8, Ec8, b4, k4, hz_b4, Fc8, Vk9⟩
theorem own_pd2 : parseMethodDescriptor "()I" = some ⟨[], some .int⟩ := by decide +kernel
theorem own_dS_0 : decode prog_9_method_3_code 0 = .ok (.aload_n 0, 1) := by decide +kernel
theorem own_dS_1 : decode prog_9_method_3_code 1 = .ok (.getfield 18, 3) := by decide +kernel
theorem own_dS_4 : decode prog_9_method_3_code 4 = .ok (.aload_n 1, 1) := by decide +kernel
theorem own_dS_5 : decode prog_9_method_3_code 5 = .ok (.invokevirtual 21, 3) := by decide +kernel
theorem own_dS_8 : decode prog_9_method_3_code 8 = .ok (.dup2, 1) := by decide +kernel
theorem own_dS_9 : decode prog_9_method_3_code 9 = .ok (.laload, 1) := by decide +kernel
theorem own_dS_10 : decode prog_9_method_3_code 10 = .ok (.lconst 1, 1) := by decide +kernel
theorem own_dS_11 : decode prog_9_method_3_code 11 = .ok (.ladd, 1) := by decide +kernel
theorem own_dS_12 : decode prog_9_method_3_code 12 = .ok (.lastore, 1) := by decide +kernel
theorem own_dS_13 : decode prog_9_method_3_code 13 = .ok (.return_, 1) := by decide +kernel
theorem own_efS (m : MethodId) (xo : Addr) (xc : Addr) : entryFrame m #[(.ref xo), (.ref xc)] 2 = mkF m 0 #[.val (.ref xo), .val (.ref xc)] [] := by first | (simp [entryFrame, mkF, argsToLocals, Value.category]; done) | rfl
def own_QS (Z : State) (xo : Addr) (xc : Addr) (xt : Addr) (kt : ClassId) (cs : List Int64) (xk : Int32) (h0 : Heap) (n0 : Nat) (v : Option Value) (h : Heap) (L : List Loc) : Prop := v = none ∧ Fr n0 L ∧ Keep h0 h [xt] ∧ own_A Z h xt kt .long ((own_inc cs xk.toNatClampNeg).map Value.long)
set_option maxRecDepth 65536 in
set_option maxHeartbeats 40000000 in
theorem own_rS (l : Launch) (Z : State) (a0 : Array Value) (hw : ∀ d ∈ tables_1, d.before a0 Z = true) (ws : List Jvm.Cond) (xo : Addr) (xc : Addr) (xt : Addr) (kt : ClassId) (cs : List Int64) (xk : Int32) (h0 : Heap) (n0 : Nat) (Z0 : n0 ≤ h0.size) (F1 : Fld Z h0 xo "com/example/leased/leased/ElectorStatus$Counts" "values" "[J" (.ref xt)) (V1 : own_A Z h0 xt kt .long (cs.map Value.long)) (Ec : Exa Z h0 xc "com/example/leased/leased/ElectorStatus$Count") (Fo : Fld Z h0 xc "java/lang/Enum" "ordinal" "I" (.int xk)) (hk0 : ¬ xk < 0) (hk1 : xk.toNatClampNeg < cs.length) (gt : n0 ≤ xt) :
    MetFree l (⟨"com/example/leased/leased/ElectorStatus$Counts", "step", "(Lcom/example/leased/leased/ElectorStatus$Count;)V"⟩ : MethodName) (head1 (Jvm.Cond.code (⟨"com/example/leased/leased/ElectorStatus$Counts", "step", "(Lcom/example/leased/leased/ElectorStatus$Count;)V"⟩ : MethodName) prog_9_method_3_code 2 none :: ws) ({ frames := 1, cells := 0, slots := 0, locals := 13 } : Room)) (fun a U => a = #[(.ref xo), (.ref xc)] ∧ Z.Warmed39 U.vm ∧ U.heap = h0) (fun _ _ _ _ _ => True) (fun _ U o U' => ∃ v L, o = .returned v ∧ own_QS Z xo xc xt kt cs xk h0 n0 v U'.heap L ∧ FrameEnd U o U' L ({ frames := 1, cells := 0, slots := 0, locals := 13 } : Room).cells ({ frames := 1, cells := 0, slots := 0, locals := 13 } : Room).slots) := by
  refine MetFree.of_bodySF (plainFor_of_name own_pn3) hisR ?_
  intro p e s m args below meth c s₁ Bd hml0 hP hK
  obtain ⟨rfl, hZ, hh⟩ := hP
  have hx := Bd.exec
  have hby := Bd.bytes
  have hml : c.maxLocals = 2 := hml0
  have hown : s.vm.findClass "com/example/leased/leased/ElectorStatus$Counts" = some m.cls := findClass_of_methodNamed Bd.named
  have hnm := (name_of_methodNamed Bd.named Bd.method).1
  have X0 : Stand p l e ({ frames := 1, cells := 0, slots := 0, locals := 13 } : Room) s m #[(.ref xo), (.ref xc)] below meth c s₁ [] 0 0 := Stand.of_body Bd
  have e0 : s₁.heap = h0 := by rw [← hh, Bd.state]; rfl
  have N0 := Fr.nil n0
  show own_F p e below (fun o U' => ∃ v L, o = .returned v ∧ own_QS Z xo xc xt kt cs xk h0 n0 v U'.heap L ∧ FrameEnd s o U' L ({ frames := 1, cells := 0, slots := 0, locals := 13 } : Room).cells ({ frames := 1, cells := 0, slots := 0, locals := 13 } : Room).slots) s₁ (entryFrame m #[(.ref xo), (.ref xc)] 2)
  rw [own_efS m xo xc]
  refine own_go (T' := s₁) (g' := (mkF m 1 #[.val (.ref xo), .val (.ref xc)] [(.ref xo)])) (fun _ k => XS.aloadN X0.here hx rfl (hb hby own_dS_0) rfl rfl k) ?_
  obtain ⟨T1, X1, e1, st1⟩ := getF X0 hx hZ hown (host := "") (Or.inl (hw _ (List.mem_of_getElem? (i := 43) rfl))) Via.refl e0 F1 (g := (mkF m 1 #[.val (.ref xo), .val (.ref xc)] [(.ref xo)])) rfl rfl (hb hby own_dS_1)
  refine own_go (T' := T1) (g' := (mkF m 4 #[.val (.ref xo), .val (.ref xc)] [(.ref xt)])) (fun _ k => st1 _ k) ?_
  refine own_go (T' := T1) (g' := (mkF m 5 #[.val (.ref xo), .val (.ref xc)] [(.ref xc), (.ref xt)])) (fun _ k => XS.aloadN X1.here hx rfl (hb hby own_dS_4) rfl rfl k) ?_
  obtain ⟨cq2, kq2, q2a, q2b, q2c⟩ := isOf hZ e1 Ec
  obtain ⟨_, _, ⟨T2, L2, k2, n2⟩, -, X2, ⟨Lc2, hQ2, l2, y2, z2⟩, st2⟩ := X1.virtualBackUp hx (owner := "java/lang/Enum") (x := (⟨"com/example/leased/leased/ElectorStatus$Count", "ordinal", "()I"⟩ : MethodName)) (y := (⟨"java/lang/Enum", "ordinal", "()I"⟩ : MethodName)) hown (mvT hZ (hw _ (List.mem_of_getElem? (i := 50) rfl))) (mvT hZ (hw _ (List.mem_of_getElem? (i := 51) rfl))) (mvT hZ (hw _ (List.mem_of_getElem? (i := 52) rfl))) (by decide) (mvT hZ (hw _ (List.mem_of_getElem? (i := 54) rfl))) (mvT hZ (hw _ (List.mem_of_getElem? (i := 53) rfl))) (backOf (W := 1) (own_rO l Z a0 hw [] xc xk h0 n0 Z0 Fo) hZ (hw _ (List.mem_of_getElem? (i := 56) rfl)) (hw _ (List.mem_of_getElem? (i := 55) rfl)) (by decide) (by decide)) q2a q2c (g := (mkF m 5 #[.val (.ref xo), .val (.ref xc)] [(.ref xc), (.ref xt)])) rfl (by rw [hml]; rfl) (Steps.refl _) (argsL := []) (rest := [(.ref xt)]) (lenOf own_pd2 rfl) rfl (by show 2 * 0 + _ ≤ _; exact Nat.le_of_eq rfl) (hb hby own_dS_5) (fun _ _ => ⟨rfl, e1, (by decide : 0 + 0 ≤ _), (by decide : 0 + 0 ≤ _)⟩)
  dsimp only [Pt.U, Pt.locs, Pt.cells, Pt.slots] at X2 l2 y2 z2 st2 hQ2
  subst l2 y2 z2
  obtain ⟨rfl, N2q, e2⟩ := hQ2
  have N2 := Fr.app N0 N2q
  refine own_goT (T' := T2) (g' := (mkF m 8 #[.val (.ref xo), .val (.ref xc)] [(.int xk), (.ref xt)])) st2 ?_
  refine own_go (T' := T2) (g' := (mkF m 9 #[.val (.ref xo), .val (.ref xc)] [(.int xk), (.ref xt), (.int xk), (.ref xt)])) (fun _ k => by jvm_step X2.here [X2.here.top, hx, (hb hby own_dS_8), Value.category]; exact k) ?_
  refine own_go (T' := T2) (g' := (mkF m 10 #[.val (.ref xo), .val (.ref xc)] [(.long (cs.getD xk.toNatClampNeg 0)), (.int xk), (.ref xt)])) (fun _ k => own_laload X2 hx hZ e2 V1 (j := xk) (v := (.long (cs.getD xk.toNatClampNeg 0))) hk0 (own_get hk1) (g := (mkF m 9 #[.val (.ref xo), .val (.ref xc)] [(.int xk), (.ref xt), (.int xk), (.ref xt)])) rfl rfl (hb hby own_dS_9) k) ?_
  refine own_go (T' := T2) (g' := (mkF m 11 #[.val (.ref xo), .val (.ref xc)] [(.long (1 : Int64)), (.long (cs.getD xk.toNatClampNeg 0)), (.int xk), (.ref xt)])) (fun _ k => XS.lconst X2.here hx rfl (hb hby own_dS_10) k) ?_
  refine own_go (T' := T2) (g' := (mkF m 12 #[.val (.ref xo), .val (.ref xc)] [(.long ((cs.getD xk.toNatClampNeg 0) + (1 : Int64))), (.int xk), (.ref xt)])) (fun _ k => XS.ladd X2.here hx rfl (hb hby own_dS_11) rfl k) ?_
  obtain ⟨T3, h3, X3, e3, V3, W3, st3⟩ := own_lastore X2 hx hZ e2 V1 (j := xk) (i := xk.toNatClampNeg) rfl hk0 (by rw [List.length_map]; exact hk1) (g := (mkF m 12 #[.val (.ref xo), .val (.ref xc)] [(.long ((cs.getD xk.toNatClampNeg 0) + (1 : Int64))), (.int xk), (.ref xt)])) rfl rfl (hb hby own_dS_12)
  have Z3 : n0 ≤ h3.size := Nat.le_trans Z0 (Keep.of_wr W3).1
  have K3 : Keep h0 h3 [xt] := (Keep.refl h0 [xt]).wr W3 (Or.inl (List.mem_of_getElem? (i := 0) rfl))
  have N3 := Fr.snoc X3 N2 gt
  refine own_go (T' := T3) (g' := (mkF m 13 #[.val (.ref xo), .val (.ref xc)] [])) (fun _ k => st3 _ k) ?_
  obtain ⟨fs, hr, hrun, hended, hW, hsame⟩ := X3.leave (v := none) (fun _ => rfl)
  refine own_end (X3.returnOut hx Bd.returns (hb hby own_dS_13) hr) hrun hended ⟨_, _, rfl, (?_ : own_QS Z xo xc xt kt cs xk h0 n0 _ T3.heap _), ⟨_, rfl⟩, hW, hsame.mono (by decide) (by decide)⟩
  rw [e3]
  exact ⟨rfl, N3, K3, own_incA V3⟩
theorem own_dG_0 : decode prog_9_method_4_code 0 = .ok (.aload_n 0, 1) := by decide +kernel
theorem own_dG_1 : decode prog_9_method_4_code 1 = .ok (.getfield 18, 3) := by decide +kernel
theorem own_dG_4 : decode prog_9_method_4_code 4 = .ok (.aload_n 1, 1) := by decide +kernel
theorem own_dG_5 : decode prog_9_method_4_code 5 = .ok (.invokevirtual 21, 3) := by decide +kernel
theorem own_dG_8 : decode prog_9_method_4_code 8 = .ok (.laload, 1) := by decide +kernel
theorem own_dG_9 : decode prog_9_method_4_code 9 = .ok (.lreturn, 1) := by decide +kernel
theorem own_efG (m : MethodId) (xo : Addr) (xc : Addr) : entryFrame m #[(.ref xo), (.ref xc)] 2 = mkF m 0 #[.val (.ref xo), .val (.ref xc)] [] := by first | (simp [entryFrame, mkF, argsToLocals, Value.category]; done) | rfl
def own_QG (Z : State) (xo : Addr) (xc : Addr) (xt : Addr) (kt : ClassId) (cs : List Int64) (xk : Int32) (h0 : Heap) (n0 : Nat) (v : Option Value) (h : Heap) (L : List Loc) : Prop := v = some (.long (cs.getD xk.toNatClampNeg 0)) ∧ Fr n0 L ∧ h = h0
set_option maxRecDepth 65536 in
set_option maxHeartbeats 40000000 in
theorem own_rG (l : Launch) (Z : State) (a0 : Array Value) (hw : ∀ d ∈ tables_1, d.before a0 Z = true) (ws : List Jvm.Cond) (xo : Addr) (xc : Addr) (xt : Addr) (kt : ClassId) (cs : List Int64) (xk : Int32) (h0 : Heap) (n0 : Nat) (Z0 : n0 ≤ h0.size) (F1 : Fld Z h0 xo "com/example/leased/leased/ElectorStatus$Counts" "values" "[J" (.ref xt)) (V1 : own_A Z h0 xt kt .long (cs.map Value.long)) (Ec : Exa Z h0 xc "com/example/leased/leased/ElectorStatus$Count") (Fo : Fld Z h0 xc "java/lang/Enum" "ordinal" "I" (.int xk)) (hk0 : ¬ xk < 0) (hk1 : xk.toNatClampNeg < cs.length) :
    MetFree l (⟨"com/example/leased/leased/ElectorStatus$Counts", "get", "(Lcom/example/leased/leased/ElectorStatus$Count;)J"⟩ : MethodName) (head1 (Jvm.Cond.code (⟨"com/example/leased/leased/ElectorStatus$Counts", "get", "(Lcom/example/leased/leased/ElectorStatus$Count;)J"⟩ : MethodName) prog_9_method_4_code 2 (some .long) :: ws) ({ frames := 1, cells := 0, slots := 0, locals := 13 } : Room)) (fun a U => a = #[(.ref xo), (.ref xc)] ∧ Z.Warmed39 U.vm ∧ U.heap = h0) (fun _ _ _ _ _ => True) (fun _ U o U' => ∃ v L, o = .returned v ∧ own_QG Z xo xc xt kt cs xk h0 n0 v U'.heap L ∧ FrameEnd U o U' L ({ frames := 1, cells := 0, slots := 0, locals := 13 } : Room).cells ({ frames := 1, cells := 0, slots := 0, locals := 13 } : Room).slots) := by
  refine MetFree.of_bodySF (plainFor_of_name own_pn3) hisR ?_
  intro p e s m args below meth c s₁ Bd hml0 hP hK
  obtain ⟨rfl, hZ, hh⟩ := hP
  have hx := Bd.exec
  have hby := Bd.bytes
  have hml : c.maxLocals = 2 := hml0
  have hown : s.vm.findClass "com/example/leased/leased/ElectorStatus$Counts" = some m.cls := findClass_of_methodNamed Bd.named
  have hnm := (name_of_methodNamed Bd.named Bd.method).1
  have X0 : Stand p l e ({ frames := 1, cells := 0, slots := 0, locals := 13 } : Room) s m #[(.ref xo), (.ref xc)] below meth c s₁ [] 0 0 := Stand.of_body Bd
  have e0 : s₁.heap = h0 := by rw [← hh, Bd.state]; rfl
  have N0 := Fr.nil n0
  show own_F p e below (fun o U' => ∃ v L, o = .returned v ∧ own_QG Z xo xc xt kt cs xk h0 n0 v U'.heap L ∧ FrameEnd s o U' L ({ frames := 1, cells := 0, slots := 0, locals := 13 } : Room).cells ({ frames := 1, cells := 0, slots := 0, locals := 13 } : Room).slots) s₁ (entryFrame m #[(.ref xo), (.ref xc)] 2)
  rw [own_efG m xo xc]
  refine own_go (T' := s₁) (g' := (mkF m 1 #[.val (.ref xo), .val (.ref xc)] [(.ref xo)])) (fun _ k => XS.aloadN X0.here hx rfl (hb hby own_dG_0) rfl rfl k) ?_
  obtain ⟨T1, X1, e1, st1⟩ := getF X0 hx hZ hown (host := "") (Or.inl (hw _ (List.mem_of_getElem? (i := 43) rfl))) Via.refl e0 F1 (g := (mkF m 1 #[.val (.ref xo), .val (.ref xc)] [(.ref xo)])) rfl rfl (hb hby own_dG_1)
  refine own_go (T' := T1) (g' := (mkF m 4 #[.val (.ref xo), .val (.ref xc)] [(.ref xt)])) (fun _ k => st1 _ k) ?_
  refine own_go (T' := T1) (g' := (mkF m 5 #[.val (.ref xo), .val (.ref xc)] [(.ref xc), (.ref xt)])) (fun _ k => XS.aloadN X1.here hx rfl (hb hby own_dG_4) rfl rfl k) ?_
  obtain ⟨cq2, kq2, q2a, q2b, q2c⟩ := isOf hZ e1 Ec
  obtain ⟨_, _, ⟨T2, L2, k2, n2⟩, -, X2, ⟨Lc2, hQ2, l2, y2, z2⟩, st2⟩ := X1.virtualBackUp hx (owner := "java/lang/Enum") (x := (⟨"com/example/leased/leased/ElectorStatus$Count", "ordinal", "()I"⟩ : MethodName)) (y := (⟨"java/lang/Enum", "ordinal", "()I"⟩ : MethodName)) hown (mvT hZ (hw _ (List.mem_of_getElem? (i := 50) rfl))) (mvT hZ (hw _ (List.mem_of_getElem? (i := 51) rfl))) (mvT hZ (hw _ (List.mem_of_getElem? (i := 52) rfl))) (by decide) (mvT hZ (hw _ (List.mem_of_getElem? (i := 54) rfl))) (mvT hZ (hw _ (List.mem_of_getElem? (i := 53) rfl))) (backOf (W := 1) (own_rO l Z a0 hw [] xc xk h0 n0 Z0 Fo) hZ (hw _ (List.mem_of_getElem? (i := 56) rfl)) (hw _ (List.mem_of_getElem? (i := 55) rfl)) (by decide) (by decide)) q2a q2c (g := (mkF m 5 #[.val (.ref xo), .val (.ref xc)] [(.ref xc), (.ref xt)])) rfl (by rw [hml]; rfl) (Steps.refl _) (argsL := []) (rest := [(.ref xt)]) (lenOf own_pd2 rfl) rfl (by show 2 * 0 + _ ≤ _; exact Nat.le_of_eq rfl) (hb hby own_dG_5) (fun _ _ => ⟨rfl, e1, (by decide : 0 + 0 ≤ _), (by decide : 0 + 0 ≤ _)⟩)
  dsimp only [Pt.U, Pt.locs, Pt.cells, Pt.slots] at X2 l2 y2 z2 st2 hQ2
  subst l2 y2 z2
  obtain ⟨rfl, N2q, e2⟩ := hQ2
  have N2 := Fr.app N0 N2q
  refine own_goT (T' := T2) (g' := (mkF m 8 #[.val (.ref xo), .val (.ref xc)] [(.int xk), (.ref xt)])) st2 ?_
  refine own_go (T' := T2) (g' := (mkF m 9 #[.val (.ref xo), .val (.ref xc)] [(.long (cs.getD xk.toNatClampNeg 0))])) (fun _ k => own_laload X2 hx hZ e2 V1 (j := xk) (v := (.long (cs.getD xk.toNatClampNeg 0))) hk0 (own_get hk1) (g := (mkF m 8 #[.val (.ref xo), .val (.ref xc)] [(.int xk), (.ref xt)])) rfl rfl (hb hby own_dG_8) k) ?_
  obtain ⟨fs, hr, hrun, hended, hW, hsame⟩ := X2.leave (v := some (.long (cs.getD xk.toNatClampNeg 0))) (fun h => by rw [Bd.returns] at h; cases h)
  refine own_end (retOut X2 hx Bd.returns rfl (Or.inr (Or.inl ⟨rfl, rfl, _, rfl⟩)) (hb hby own_dG_9) hr) hrun hended ⟨_, _, rfl, (?_ : own_QG Z xo xc xt kt cs xk h0 n0 _ T2.heap _), ⟨_, rfl⟩, hW, hsame.mono (by decide) (by decide)⟩
  rw [e2]
  exact ⟨rfl, N2, rfl⟩
theorem own_pd3 : parseMethodDescriptor "(Lcom/example/leased/leased/ElectorStatus$Count;)J" = some ⟨[(.object "com/example/leased/leased/ElectorStatus$Count")], some .long⟩ := by decide +kernel
theorem own_pd4 : parseMethodDescriptor "(IIIII)J" = some ⟨[.int, .int, .int, .int, .int], some .long⟩ := by decide +kernel
theorem own_pd5 : parseMethodDescriptor "(Lcom/example/leased/leased/ElectorStatus$Count;)V" = some ⟨[(.object "com/example/leased/leased/ElectorStatus$Count")], none⟩ := by decide +kernel
theorem own_pd6 : parseMethodDescriptor "(I)Lcom/example/leased/leased/ElectorStatus$Count;" = some ⟨[.int], some (.object "com/example/leased/leased/ElectorStatus$Count")⟩ := by decide +kernel
theorem own_pd7 : parseMethodDescriptor "()V" = some ⟨[], none⟩ := by decide +kernel
theorem own_efL (m : MethodId) (xa : Int32) (xb : Int32) (xd : Int32) (xm : Int32) : entryFrame m #[(.int xa), (.int xb), (.int xd), (.int xm)] maxLocals = mkF m 0 #[.val (.int xa), .val (.int xb), .val (.int xd), .val (.int xm), .unset, .unset, .unset, .unset, .unset, .unset, .unset, .unset] [] := by first | (simp [entryFrame, mkF, argsToLocals, Value.category, maxLocals]; done) | rfl
def own_QL (Z : State) (xa : Int32) (xb : Int32) (xd : Int32) (xm : Int32) (a_ACQUISITIONS : Addr) (a_RENEWALS_FAILED : Addr) (a_RENEWALS : Addr) (a__VALUES : Addr) (a_EXPIRED_TAKEOVERS : Addr) (a_HOLDINGS_LOST : Addr) (a_RELEASES : Addr) (k__VALUES : ClassId) (h0 : Heap) (n0 : Nat) (v : Option Value) (h : Heap) (L : List Loc) : Prop := v = some (.int (1 : Int32)) ∧ Fr n0 L
set_option maxRecDepth 65536 in
set_option maxHeartbeats 40000000 in
theorem own_rL (l : Launch) (Z : State) (a0 : Array Value) (hw : ∀ d ∈ tables_1, d.before a0 Z = true) (ws : List Jvm.Cond) (xa : Int32) (xb : Int32) (xd : Int32) (xm : Int32) (a_ACQUISITIONS : Addr) (a_RENEWALS_FAILED : Addr) (a_RENEWALS : Addr) (a__VALUES : Addr) (a_EXPIRED_TAKEOVERS : Addr) (a_HOLDINGS_LOST : Addr) (a_RELEASES : Addr) (k__VALUES : ClassId) (h0 : Heap) (n0 : Nat) (Z0 : n0 ≤ h0.size) (S_ACQUISITIONS : Sta Z h0 "com/example/leased/leased/ElectorStatus$Count" "ACQUISITIONS" "Lcom/example/leased/leased/ElectorStatus$Count;" (.ref a_ACQUISITIONS)) (E_ACQUISITIONS : Exa Z h0 a_ACQUISITIONS "com/example/leased/leased/ElectorStatus$Count") (S_RENEWALS_FAILED : Sta Z h0 "com/example/leased/leased/ElectorStatus$Count" "RENEWALS_FAILED" "Lcom/example/leased/leased/ElectorStatus$Count;" (.ref a_RENEWALS_FAILED)) (E_RENEWALS_FAILED : Exa Z h0 a_RENEWALS_FAILED "com/example/leased/leased/ElectorStatus$Count") (S_RENEWALS : Sta Z h0 "com/example/leased/leased/ElectorStatus$Count" "RENEWALS" "Lcom/example/leased/leased/ElectorStatus$Count;" (.ref a_RENEWALS)) (E_RENEWALS : Exa Z h0 a_RENEWALS "com/example/leased/leased/ElectorStatus$Count") (S__VALUES : Sta Z h0 "com/example/leased/leased/ElectorStatus$Count" "$VALUES" "[Lcom/example/leased/leased/ElectorStatus$Count;" (.ref a__VALUES)) (E__VALUES : Exa Z h0 a__VALUES "[Lcom/example/leased/leased/ElectorStatus$Count;") (S_EXPIRED_TAKEOVERS : Sta Z h0 "com/example/leased/leased/ElectorStatus$Count" "EXPIRED_TAKEOVERS" "Lcom/example/leased/leased/ElectorStatus$Count;" (.ref a_EXPIRED_TAKEOVERS)) (E_EXPIRED_TAKEOVERS : Exa Z h0 a_EXPIRED_TAKEOVERS "com/example/leased/leased/ElectorStatus$Count") (S_HOLDINGS_LOST : Sta Z h0 "com/example/leased/leased/ElectorStatus$Count" "HOLDINGS_LOST" "Lcom/example/leased/leased/ElectorStatus$Count;" (.ref a_HOLDINGS_LOST)) (E_HOLDINGS_LOST : Exa Z h0 a_HOLDINGS_LOST "com/example/leased/leased/ElectorStatus$Count") (S_RELEASES : Sta Z h0 "com/example/leased/leased/ElectorStatus$Count" "RELEASES" "Lcom/example/leased/leased/ElectorStatus$Count;" (.ref a_RELEASES)) (E_RELEASES : Exa Z h0 a_RELEASES "com/example/leased/leased/ElectorStatus$Count") (F_ACQUISITIONS_ordinal : Fld Z h0 a_ACQUISITIONS "java/lang/Enum" "ordinal" "I" (.int (0 : Int32))) (F_EXPIRED_TAKEOVERS_ordinal : Fld Z h0 a_EXPIRED_TAKEOVERS "java/lang/Enum" "ordinal" "I" (.int (1 : Int32))) (F_RENEWALS_ordinal : Fld Z h0 a_RENEWALS "java/lang/Enum" "ordinal" "I" (.int (2 : Int32))) (F_RENEWALS_FAILED_ordinal : Fld Z h0 a_RENEWALS_FAILED "java/lang/Enum" "ordinal" "I" (.int (3 : Int32))) (F_HOLDINGS_LOST_ordinal : Fld Z h0 a_HOLDINGS_LOST "java/lang/Enum" "ordinal" "I" (.int (4 : Int32))) (F_RELEASES_ordinal : Fld Z h0 a_RELEASES "java/lang/Enum" "ordinal" "I" (.int (5 : Int32))) (A__VALUES : own_A Z h0 a__VALUES k__VALUES (.object "com/example/leased/leased/ElectorStatus$Count") [(.ref a_ACQUISITIONS), (.ref a_EXPIRED_TAKEOVERS), (.ref a_RENEWALS), (.ref a_RENEWALS_FAILED), (.ref a_HOLDINGS_LOST), (.ref a_RELEASES)]) :
    MetFree l x (head1 (Jvm.Cond.code x code maxLocals ret :: ws) room_1) (fun a U => a = #[(.int xa), (.int xb), (.int xd), (.int xm)] ∧ Z.Warmed39 U.vm ∧ U.heap = h0) (fun _ _ _ _ _ => True) (fun _ U o U' => ∃ v L, o = .returned v ∧ own_QL Z xa xb xd xm a_ACQUISITIONS a_RENEWALS_FAILED a_RENEWALS a__VALUES a_EXPIRED_TAKEOVERS a_HOLDINGS_LOST a_RELEASES k__VALUES h0 n0 v U'.heap L ∧ FrameEnd U o U' L room_1.cells room_1.slots) := by
  refine MetFree.of_bodySF (plainFor_of_name own_pn1) hisR ?_
  intro p e s m args below meth c s₁ Bd hml0 hP hK
  obtain ⟨rfl, hZ, hh⟩ := hP
  have hx := Bd.exec
  have hby := Bd.bytes
  have hml : c.maxLocals = 12 := hml0
  have hown : s.vm.findClass "com/example/leased/leased/CountsStepPinLaw" = some m.cls := findClass_of_methodNamed Bd.named
  have hnm := (name_of_methodNamed Bd.named Bd.method).1
  have X0 : Stand p l e room_1 s m #[(.int xa), (.int xb), (.int xd), (.int xm)] below meth c s₁ [] 0 0 := Stand.of_body Bd
  have e0 : s₁.heap = h0 := by rw [← hh, Bd.state]; rfl
  have N0 := Fr.nil n0
  show own_F p e below (fun o U' => ∃ v L, o = .returned v ∧ own_QL Z xa xb xd xm a_ACQUISITIONS a_RENEWALS_FAILED a_RENEWALS a__VALUES a_EXPIRED_TAKEOVERS a_HOLDINGS_LOST a_RELEASES k__VALUES h0 n0 v U'.heap L ∧ FrameEnd s o U' L room_1.cells room_1.slots) s₁ (entryFrame m #[(.int xa), (.int xb), (.int xd), (.int xm)] maxLocals)
  rw [own_efL m xa xb xd xm]
  obtain ⟨ra, pa, E_ra, F_ra, na, la⟩ := own_picked (k := ((xa &&& (2147483647 : Int32)) % (6 : Int32))) E_ACQUISITIONS F_ACQUISITIONS_ordinal E_EXPIRED_TAKEOVERS F_EXPIRED_TAKEOVERS_ordinal E_RENEWALS F_RENEWALS_ordinal E_RENEWALS_FAILED F_RENEWALS_FAILED_ordinal E_HOLDINGS_LOST F_HOLDINGS_LOST_ordinal E_RELEASES F_RELEASES_ordinal (own_mod6 xa)
  obtain ⟨rb, pb, E_rb, F_rb, nb, lb⟩ := own_picked (k := ((xb &&& (2147483647 : Int32)) % (6 : Int32))) E_ACQUISITIONS F_ACQUISITIONS_ordinal E_EXPIRED_TAKEOVERS F_EXPIRED_TAKEOVERS_ordinal E_RENEWALS F_RENEWALS_ordinal E_RENEWALS_FAILED F_RENEWALS_FAILED_ordinal E_HOLDINGS_LOST F_HOLDINGS_LOST_ordinal E_RELEASES F_RELEASES_ordinal (own_mod6 xb)
  obtain ⟨rd, pd, E_rd, F_rd, nd, ld⟩ := own_picked (k := ((xd &&& (2147483647 : Int32)) % (6 : Int32))) E_ACQUISITIONS F_ACQUISITIONS_ordinal E_EXPIRED_TAKEOVERS F_EXPIRED_TAKEOVERS_ordinal E_RENEWALS F_RENEWALS_ordinal E_RENEWALS_FAILED F_RENEWALS_FAILED_ordinal E_HOLDINGS_LOST F_HOLDINGS_LOST_ordinal E_RELEASES F_RELEASES_ordinal (own_mod6 xd)
  have tail100 : ∀ (ht : Heap) (bo : Addr) (xt : Addr) (kt : ClassId) (cs : List Int64) (Tt100 : State) (Lt100 : List Loc) (Xt100 : Stand p l e room_1 s m #[(.int xa), (.int xb), (.int xd), (.int xm)] below meth c Tt100 Lt100 3 13) (et100 : Tt100.heap = ht) (Nt100 : Fr n0 Lt100) (zt : n0 ≤ ht.size) (ot : Ext h0 ht) (kt0 : Keep h0 ht []) (eb : Exa Z ht bo "com/example/leased/leased/ElectorStatus$Counts") (fb : Fld Z ht bo "com/example/leased/leased/ElectorStatus$Counts" "values" "[J" (.ref xt)) (vt : own_A Z ht xt kt .long (cs.map Value.long)) (nbt : bo ≠ xt) (hz_xt : h0.size ≤ xt) (gt : n0 ≤ xt) (hlen : cs.length = 6) (hI : ∀ i : Int32, ¬ i < 0 → i.toNatClampNeg < 6 → cs.getD i.toNatClampNeg 0 = own_s (own_s (own_s 0 0 (xm &&& (3 : Int32)) ((xa &&& (2147483647 : Int32)) % (6 : Int32)) i) 1 (xm &&& (3 : Int32)) ((xb &&& (2147483647 : Int32)) % (6 : Int32)) i) 2 (xm &&& (3 : Int32)) ((xd &&& (2147483647 : Int32)) % (6 : Int32)) i), own_F p e below (fun o U' => ∃ v L, o = .returned v ∧ own_QL Z xa xb xd xm a_ACQUISITIONS a_RENEWALS_FAILED a_RENEWALS a__VALUES a_EXPIRED_TAKEOVERS a_HOLDINGS_LOST a_RELEASES k__VALUES h0 n0 v U'.heap L ∧ FrameEnd s o U' L room_1.cells room_1.slots) Tt100 (mkF m 100 #[.val (.int xa), .val (.int xb), .val (.int xd), .val (.int xm), .val (.int (xm &&& (3 : Int32))), .val (.int ((xa &&& (2147483647 : Int32)) % (6 : Int32))), .val (.int ((xb &&& (2147483647 : Int32)) % (6 : Int32))), .val (.int ((xd &&& (2147483647 : Int32)) % (6 : Int32))), .val (.ref ra), .val (.ref rb), .val (.ref rd), .val (.ref bo)] []) := by
    intro ht bo xt kt cs Tt100 Lt100 Xt100 et100 Nt100 zt ot kt0 eb fb vt nbt hz_xt gt hlen hI
    refine own_go (T' := Tt100) (g' := (mkF m 102 #[.val (.int xa), .val (.int xb), .val (.int xd), .val (.int xm), .val (.int (xm &&& (3 : Int32))), .val (.int ((xa &&& (2147483647 : Int32)) % (6 : Int32))), .val (.int ((xb &&& (2147483647 : Int32)) % (6 : Int32))), .val (.int ((xd &&& (2147483647 : Int32)) % (6 : Int32))), .val (.ref ra), .val (.ref rb), .val (.ref rd), .val (.ref bo)] [(.ref bo)])) (fun _ k => XS.aload Xt100.here hx rfl (hb hby at_100) rfl rfl k) ?_
    obtain ⟨T1, X1, e1, st1⟩ := getS Xt100 hx hZ (host := "") hown (hw _ (List.mem_of_getElem? (i := 5) rfl)) Via.refl et100 (S_ACQUISITIONS.ext ot) (g := (mkF m 102 #[.val (.int xa), .val (.int xb), .val (.int xd), .val (.int xm), .val (.int (xm &&& (3 : Int32))), .val (.int ((xa &&& (2147483647 : Int32)) % (6 : Int32))), .val (.int ((xb &&& (2147483647 : Int32)) % (6 : Int32))), .val (.int ((xd &&& (2147483647 : Int32)) % (6 : Int32))), .val (.ref ra), .val (.ref rb), .val (.ref rd), .val (.ref bo)] [(.ref bo)])) rfl (hb hby at_102)
    refine own_go (T' := T1) (g' := (mkF m 105 #[.val (.int xa), .val (.int xb), .val (.int xd), .val (.int xm), .val (.int (xm &&& (3 : Int32))), .val (.int ((xa &&& (2147483647 : Int32)) % (6 : Int32))), .val (.int ((xb &&& (2147483647 : Int32)) % (6 : Int32))), .val (.int ((xd &&& (2147483647 : Int32)) % (6 : Int32))), .val (.ref ra), .val (.ref rb), .val (.ref rd), .val (.ref bo)] [(.ref a_ACQUISITIONS), (.ref bo)])) (fun _ k => st1 _ k) ?_
    obtain ⟨cq2, kq2, q2a, q2b, q2c⟩ := isOf hZ e1 eb
    obtain ⟨_, _, ⟨T2, L2, k2, n2⟩, -, X2, ⟨Lc2, hQ2, l2, y2, z2⟩, st2⟩ := X1.virtualBack hx (y := (⟨"com/example/leased/leased/ElectorStatus$Counts", "get", "(Lcom/example/leased/leased/ElectorStatus$Count;)J"⟩ : MethodName)) (z := (⟨"com/example/leased/leased/ElectorStatus$Counts", "get", "(Lcom/example/leased/leased/ElectorStatus$Count;)J"⟩ : MethodName)) hown (mvT hZ (hw _ (List.mem_of_getElem? (i := 59) rfl))) (mvT hZ (hw _ (List.mem_of_getElem? (i := 60) rfl))) (notFace_of_selects (args := #[]) (mvT hZ (hw _ (List.mem_of_getElem? (i := 62) rfl)))) (mvT hZ (hw _ (List.mem_of_getElem? (i := 62) rfl))) (mvT hZ (hw _ (List.mem_of_getElem? (i := 61) rfl))) (by decide) (backOf (W := 0) (own_rG l Z a0 hw [] bo a_ACQUISITIONS xt kt cs (0 : Int32) ht n0 zt fb vt (E_ACQUISITIONS.ext ot) (F_ACQUISITIONS_ordinal.ext ot) (by decide) (by rw [hlen]; decide)) hZ (hw _ (List.mem_of_getElem? (i := 63) rfl)) (hw _ (List.mem_of_getElem? (i := 14) rfl)) (by decide) (by decide)) q2a q2c (g := (mkF m 105 #[.val (.int xa), .val (.int xb), .val (.int xd), .val (.int xm), .val (.int (xm &&& (3 : Int32))), .val (.int ((xa &&& (2147483647 : Int32)) % (6 : Int32))), .val (.int ((xb &&& (2147483647 : Int32)) % (6 : Int32))), .val (.int ((xd &&& (2147483647 : Int32)) % (6 : Int32))), .val (.ref ra), .val (.ref rb), .val (.ref rd), .val (.ref bo)] [(.ref a_ACQUISITIONS), (.ref bo)])) rfl (by rw [hml]; rfl) (Steps.refl _) (argsL := [(.ref a_ACQUISITIONS)]) (rest := []) (lenOf own_pd3 rfl) rfl (by show 2 * 0 + _ ≤ _; exact Nat.le_of_eq rfl) (hb hby at_105) (fun _ _ => ⟨rfl, e1, (by decide : 3 + 0 ≤ _), (by decide : 13 + 0 ≤ _)⟩)
    dsimp only [Pt.U, Pt.locs, Pt.cells, Pt.slots] at X2 l2 y2 z2 st2 hQ2
    subst l2 y2 z2
    obtain ⟨rfl, N2q, e2⟩ := hQ2
    have N2 := Fr.app Nt100 N2q
    refine own_goT (T' := T2) (g' := (mkF m 108 #[.val (.int xa), .val (.int xb), .val (.int xd), .val (.int xm), .val (.int (xm &&& (3 : Int32))), .val (.int ((xa &&& (2147483647 : Int32)) % (6 : Int32))), .val (.int ((xb &&& (2147483647 : Int32)) % (6 : Int32))), .val (.int ((xd &&& (2147483647 : Int32)) % (6 : Int32))), .val (.ref ra), .val (.ref rb), .val (.ref rd), .val (.ref bo)] [(.long (cs.getD (0 : Int32).toNatClampNeg 0))])) st2 ?_
    refine own_go (T' := T2) (g' := (mkF m 109 #[.val (.int xa), .val (.int xb), .val (.int xd), .val (.int xm), .val (.int (xm &&& (3 : Int32))), .val (.int ((xa &&& (2147483647 : Int32)) % (6 : Int32))), .val (.int ((xb &&& (2147483647 : Int32)) % (6 : Int32))), .val (.int ((xd &&& (2147483647 : Int32)) % (6 : Int32))), .val (.ref ra), .val (.ref rb), .val (.ref rd), .val (.ref bo)] [(.int (0 : Int32)), (.long (cs.getD (0 : Int32).toNatClampNeg 0))])) (fun _ k => XS.iconst X2.here hx rfl (hb hby at_108) k) ?_
    refine own_go (T' := T2) (g' := (mkF m 111 #[.val (.int xa), .val (.int xb), .val (.int xd), .val (.int xm), .val (.int (xm &&& (3 : Int32))), .val (.int ((xa &&& (2147483647 : Int32)) % (6 : Int32))), .val (.int ((xb &&& (2147483647 : Int32)) % (6 : Int32))), .val (.int ((xd &&& (2147483647 : Int32)) % (6 : Int32))), .val (.ref ra), .val (.ref rb), .val (.ref rd), .val (.ref bo)] [(.int (xm &&& (3 : Int32))), (.int (0 : Int32)), (.long (cs.getD (0 : Int32).toNatClampNeg 0))])) (fun _ k => XS.iload X2.here hx rfl (hb hby at_109) rfl k) ?_
    refine own_go (T' := T2) (g' := (mkF m 113 #[.val (.int xa), .val (.int xb), .val (.int xd), .val (.int xm), .val (.int (xm &&& (3 : Int32))), .val (.int ((xa &&& (2147483647 : Int32)) % (6 : Int32))), .val (.int ((xb &&& (2147483647 : Int32)) % (6 : Int32))), .val (.int ((xd &&& (2147483647 : Int32)) % (6 : Int32))), .val (.ref ra), .val (.ref rb), .val (.ref rd), .val (.ref bo)] [(.int ((xa &&& (2147483647 : Int32)) % (6 : Int32))), (.int (xm &&& (3 : Int32))), (.int (0 : Int32)), (.long (cs.getD (0 : Int32).toNatClampNeg 0))])) (fun _ k => XS.iload X2.here hx rfl (hb hby at_111) rfl k) ?_
    refine own_go (T' := T2) (g' := (mkF m 115 #[.val (.int xa), .val (.int xb), .val (.int xd), .val (.int xm), .val (.int (xm &&& (3 : Int32))), .val (.int ((xa &&& (2147483647 : Int32)) % (6 : Int32))), .val (.int ((xb &&& (2147483647 : Int32)) % (6 : Int32))), .val (.int ((xd &&& (2147483647 : Int32)) % (6 : Int32))), .val (.ref ra), .val (.ref rb), .val (.ref rd), .val (.ref bo)] [(.int ((xb &&& (2147483647 : Int32)) % (6 : Int32))), (.int ((xa &&& (2147483647 : Int32)) % (6 : Int32))), (.int (xm &&& (3 : Int32))), (.int (0 : Int32)), (.long (cs.getD (0 : Int32).toNatClampNeg 0))])) (fun _ k => XS.iload X2.here hx rfl (hb hby at_113) rfl k) ?_
    refine own_go (T' := T2) (g' := (mkF m 117 #[.val (.int xa), .val (.int xb), .val (.int xd), .val (.int xm), .val (.int (xm &&& (3 : Int32))), .val (.int ((xa &&& (2147483647 : Int32)) % (6 : Int32))), .val (.int ((xb &&& (2147483647 : Int32)) % (6 : Int32))), .val (.int ((xd &&& (2147483647 : Int32)) % (6 : Int32))), .val (.ref ra), .val (.ref rb), .val (.ref rd), .val (.ref bo)] [(.int ((xd &&& (2147483647 : Int32)) % (6 : Int32))), (.int ((xb &&& (2147483647 : Int32)) % (6 : Int32))), (.int ((xa &&& (2147483647 : Int32)) % (6 : Int32))), (.int (xm &&& (3 : Int32))), (.int (0 : Int32)), (.long (cs.getD (0 : Int32).toNatClampNeg 0))])) (fun _ k => XS.iload X2.here hx rfl (hb hby at_115) rfl k) ?_
    obtain ⟨_, _, ⟨T3, L3, k3, n3⟩, -, X3, ⟨Lc3, hQ3, l3, y3, z3⟩, st3⟩ := Jvm.LawKit.callS X2 hx (y := (⟨"com/example/leased/leased/CountsStepPinLaw", "expect", "(IIIII)J"⟩ : MethodName)) hown (mvT hZ (hw _ (List.mem_of_getElem? (i := 64) rfl))) (mvT hZ (hw _ (List.mem_of_getElem? (i := 65) rfl))) (mvT hZ (hw _ (List.mem_of_getElem? (i := 3) rfl))) (mvT hZ (hw _ (List.mem_of_getElem? (i := 66) rfl))) (by decide) (backOf (W := 2) (own_rX l Z a0 hw [] (0 : Int32) (xm &&& (3 : Int32)) ((xa &&& (2147483647 : Int32)) % (6 : Int32)) ((xb &&& (2147483647 : Int32)) % (6 : Int32)) ((xd &&& (2147483647 : Int32)) % (6 : Int32)) ht n0 zt ) hZ (hw _ (List.mem_of_getElem? (i := 66) rfl)) (hw _ (List.mem_of_getElem? (i := 3) rfl)) (by decide) (by decide)) (g := (mkF m 117 #[.val (.int xa), .val (.int xb), .val (.int xd), .val (.int xm), .val (.int (xm &&& (3 : Int32))), .val (.int ((xa &&& (2147483647 : Int32)) % (6 : Int32))), .val (.int ((xb &&& (2147483647 : Int32)) % (6 : Int32))), .val (.int ((xd &&& (2147483647 : Int32)) % (6 : Int32))), .val (.ref ra), .val (.ref rb), .val (.ref rd), .val (.ref bo)] [(.int ((xd &&& (2147483647 : Int32)) % (6 : Int32))), (.int ((xb &&& (2147483647 : Int32)) % (6 : Int32))), (.int ((xa &&& (2147483647 : Int32)) % (6 : Int32))), (.int (xm &&& (3 : Int32))), (.int (0 : Int32)), (.long (cs.getD (0 : Int32).toNatClampNeg 0))])) rfl (by rw [hml]; rfl) (argsL := [(.int (0 : Int32)), (.int (xm &&& (3 : Int32))), (.int ((xa &&& (2147483647 : Int32)) % (6 : Int32))), (.int ((xb &&& (2147483647 : Int32)) % (6 : Int32))), (.int ((xd &&& (2147483647 : Int32)) % (6 : Int32)))]) (rest := [(.long (cs.getD (0 : Int32).toNatClampNeg 0))]) (lenOf own_pd4 rfl) rfl (by show 2 * 0 + _ ≤ _; exact Nat.le_of_eq rfl) (hb hby at_117) (fun _ _ => ⟨rfl, e2, (by decide : 3 + 0 ≤ _), (by decide : 13 + 0 ≤ _)⟩)
    dsimp only [Pt.U, Pt.locs, Pt.cells, Pt.slots] at X3 l3 y3 z3 st3 hQ3
    subst l3 y3 z3
    obtain ⟨rfl, N3q, e3⟩ := hQ3
    have N3 := Fr.app N2 N3q
    refine own_go (T' := T3) (g' := (mkF m 120 #[.val (.int xa), .val (.int xb), .val (.int xd), .val (.int xm), .val (.int (xm &&& (3 : Int32))), .val (.int ((xa &&& (2147483647 : Int32)) % (6 : Int32))), .val (.int ((xb &&& (2147483647 : Int32)) % (6 : Int32))), .val (.int ((xd &&& (2147483647 : Int32)) % (6 : Int32))), .val (.ref ra), .val (.ref rb), .val (.ref rd), .val (.ref bo)] [(.long (own_exp (0 : Int32) (xm &&& (3 : Int32)) ((xa &&& (2147483647 : Int32)) % (6 : Int32)) ((xb &&& (2147483647 : Int32)) % (6 : Int32)) ((xd &&& (2147483647 : Int32)) % (6 : Int32)))), (.long (cs.getD (0 : Int32).toNatClampNeg 0))])) (fun _ k => st3 _ k) ?_
    refine own_go (T' := T3) (g' := (mkF m 121 #[.val (.int xa), .val (.int xb), .val (.int xd), .val (.int xm), .val (.int (xm &&& (3 : Int32))), .val (.int ((xa &&& (2147483647 : Int32)) % (6 : Int32))), .val (.int ((xb &&& (2147483647 : Int32)) % (6 : Int32))), .val (.int ((xd &&& (2147483647 : Int32)) % (6 : Int32))), .val (.ref ra), .val (.ref rb), .val (.ref rd), .val (.ref bo)] [(.int (lcmpW (cs.getD (0 : Int32).toNatClampNeg 0) (own_exp (0 : Int32) (xm &&& (3 : Int32)) ((xa &&& (2147483647 : Int32)) % (6 : Int32)) ((xb &&& (2147483647 : Int32)) % (6 : Int32)) ((xd &&& (2147483647 : Int32)) % (6 : Int32)))))])) (fun _ k => XS.lcmp X3.here hx rfl (hb hby at_120) rfl k) ?_
    refine own_go (T' := T3) (g' := (mkF m 124 #[.val (.int xa), .val (.int xb), .val (.int xd), .val (.int xm), .val (.int (xm &&& (3 : Int32))), .val (.int ((xa &&& (2147483647 : Int32)) % (6 : Int32))), .val (.int ((xb &&& (2147483647 : Int32)) % (6 : Int32))), .val (.int ((xd &&& (2147483647 : Int32)) % (6 : Int32))), .val (.ref ra), .val (.ref rb), .val (.ref rd), .val (.ref bo)] [])) (fun _ k => XS.ifNo X3.here hx rfl (hb hby at_121) rfl ((if0 _ _).trans (teq ((own_eq_t ((hI (0 : Int32) (by decide) (by decide)))) : (lcmpW (cs.getD (0 : Int32).toNatClampNeg 0) (own_exp (0 : Int32) (xm &&& (3 : Int32)) ((xa &&& (2147483647 : Int32)) % (6 : Int32)) ((xb &&& (2147483647 : Int32)) % (6 : Int32)) ((xd &&& (2147483647 : Int32)) % (6 : Int32)))) = (0 : Int32))).2) k) ?_
    refine own_go (T' := T3) (g' := (mkF m 126 #[.val (.int xa), .val (.int xb), .val (.int xd), .val (.int xm), .val (.int (xm &&& (3 : Int32))), .val (.int ((xa &&& (2147483647 : Int32)) % (6 : Int32))), .val (.int ((xb &&& (2147483647 : Int32)) % (6 : Int32))), .val (.int ((xd &&& (2147483647 : Int32)) % (6 : Int32))), .val (.ref ra), .val (.ref rb), .val (.ref rd), .val (.ref bo)] [(.ref bo)])) (fun _ k => XS.aload X3.here hx rfl (hb hby at_124) rfl rfl k) ?_
    obtain ⟨T4, X4, e4, st4⟩ := getS X3 hx hZ (host := "") hown (hw _ (List.mem_of_getElem? (i := 67) rfl)) Via.refl e3 (S_EXPIRED_TAKEOVERS.ext ot) (g := (mkF m 126 #[.val (.int xa), .val (.int xb), .val (.int xd), .val (.int xm), .val (.int (xm &&& (3 : Int32))), .val (.int ((xa &&& (2147483647 : Int32)) % (6 : Int32))), .val (.int ((xb &&& (2147483647 : Int32)) % (6 : Int32))), .val (.int ((xd &&& (2147483647 : Int32)) % (6 : Int32))), .val (.ref ra), .val (.ref rb), .val (.ref rd), .val (.ref bo)] [(.ref bo)])) rfl (hb hby at_126)
    refine own_go (T' := T4) (g' := (mkF m 129 #[.val (.int xa), .val (.int xb), .val (.int xd), .val (.int xm), .val (.int (xm &&& (3 : Int32))), .val (.int ((xa &&& (2147483647 : Int32)) % (6 : Int32))), .val (.int ((xb &&& (2147483647 : Int32)) % (6 : Int32))), .val (.int ((xd &&& (2147483647 : Int32)) % (6 : Int32))), .val (.ref ra), .val (.ref rb), .val (.ref rd), .val (.ref bo)] [(.ref a_EXPIRED_TAKEOVERS), (.ref bo)])) (fun _ k => st4 _ k) ?_
    obtain ⟨cq5, kq5, q5a, q5b, q5c⟩ := isOf hZ e4 eb
    obtain ⟨_, _, ⟨T5, L5, k5, n5⟩, -, X5, ⟨Lc5, hQ5, l5, y5, z5⟩, st5⟩ := X4.virtualBack hx (y := (⟨"com/example/leased/leased/ElectorStatus$Counts", "get", "(Lcom/example/leased/leased/ElectorStatus$Count;)J"⟩ : MethodName)) (z := (⟨"com/example/leased/leased/ElectorStatus$Counts", "get", "(Lcom/example/leased/leased/ElectorStatus$Count;)J"⟩ : MethodName)) hown (mvT hZ (hw _ (List.mem_of_getElem? (i := 59) rfl))) (mvT hZ (hw _ (List.mem_of_getElem? (i := 60) rfl))) (notFace_of_selects (args := #[]) (mvT hZ (hw _ (List.mem_of_getElem? (i := 62) rfl)))) (mvT hZ (hw _ (List.mem_of_getElem? (i := 62) rfl))) (mvT hZ (hw _ (List.mem_of_getElem? (i := 61) rfl))) (by decide) (backOf (W := 0) (own_rG l Z a0 hw [] bo a_EXPIRED_TAKEOVERS xt kt cs (1 : Int32) ht n0 zt fb vt (E_EXPIRED_TAKEOVERS.ext ot) (F_EXPIRED_TAKEOVERS_ordinal.ext ot) (by decide) (by rw [hlen]; decide)) hZ (hw _ (List.mem_of_getElem? (i := 63) rfl)) (hw _ (List.mem_of_getElem? (i := 14) rfl)) (by decide) (by decide)) q5a q5c (g := (mkF m 129 #[.val (.int xa), .val (.int xb), .val (.int xd), .val (.int xm), .val (.int (xm &&& (3 : Int32))), .val (.int ((xa &&& (2147483647 : Int32)) % (6 : Int32))), .val (.int ((xb &&& (2147483647 : Int32)) % (6 : Int32))), .val (.int ((xd &&& (2147483647 : Int32)) % (6 : Int32))), .val (.ref ra), .val (.ref rb), .val (.ref rd), .val (.ref bo)] [(.ref a_EXPIRED_TAKEOVERS), (.ref bo)])) rfl (by rw [hml]; rfl) (Steps.refl _) (argsL := [(.ref a_EXPIRED_TAKEOVERS)]) (rest := []) (lenOf own_pd3 rfl) rfl (by show 2 * 0 + _ ≤ _; exact Nat.le_of_eq rfl) (hb hby at_129) (fun _ _ => ⟨rfl, e4, (by decide : 3 + 0 ≤ _), (by decide : 13 + 0 ≤ _)⟩)
    dsimp only [Pt.U, Pt.locs, Pt.cells, Pt.slots] at X5 l5 y5 z5 st5 hQ5
    subst l5 y5 z5
    obtain ⟨rfl, N5q, e5⟩ := hQ5
    have N5 := Fr.app N3 N5q
    refine own_goT (T' := T5) (g' := (mkF m 132 #[.val (.int xa), .val (.int xb), .val (.int xd), .val (.int xm), .val (.int (xm &&& (3 : Int32))), .val (.int ((xa &&& (2147483647 : Int32)) % (6 : Int32))), .val (.int ((xb &&& (2147483647 : Int32)) % (6 : Int32))), .val (.int ((xd &&& (2147483647 : Int32)) % (6 : Int32))), .val (.ref ra), .val (.ref rb), .val (.ref rd), .val (.ref bo)] [(.long (cs.getD (1 : Int32).toNatClampNeg 0))])) st5 ?_
    refine own_go (T' := T5) (g' := (mkF m 133 #[.val (.int xa), .val (.int xb), .val (.int xd), .val (.int xm), .val (.int (xm &&& (3 : Int32))), .val (.int ((xa &&& (2147483647 : Int32)) % (6 : Int32))), .val (.int ((xb &&& (2147483647 : Int32)) % (6 : Int32))), .val (.int ((xd &&& (2147483647 : Int32)) % (6 : Int32))), .val (.ref ra), .val (.ref rb), .val (.ref rd), .val (.ref bo)] [(.int (1 : Int32)), (.long (cs.getD (1 : Int32).toNatClampNeg 0))])) (fun _ k => XS.iconst X5.here hx rfl (hb hby at_132) k) ?_
    refine own_go (T' := T5) (g' := (mkF m 135 #[.val (.int xa), .val (.int xb), .val (.int xd), .val (.int xm), .val (.int (xm &&& (3 : Int32))), .val (.int ((xa &&& (2147483647 : Int32)) % (6 : Int32))), .val (.int ((xb &&& (2147483647 : Int32)) % (6 : Int32))), .val (.int ((xd &&& (2147483647 : Int32)) % (6 : Int32))), .val (.ref ra), .val (.ref rb), .val (.ref rd), .val (.ref bo)] [(.int (xm &&& (3 : Int32))), (.int (1 : Int32)), (.long (cs.getD (1 : Int32).toNatClampNeg 0))])) (fun _ k => XS.iload X5.here hx rfl (hb hby at_133) rfl k) ?_
    refine own_go (T' := T5) (g' := (mkF m 137 #[.val (.int xa), .val (.int xb), .val (.int xd), .val (.int xm), .val (.int (xm &&& (3 : Int32))), .val (.int ((xa &&& (2147483647 : Int32)) % (6 : Int32))), .val (.int ((xb &&& (2147483647 : Int32)) % (6 : Int32))), .val (.int ((xd &&& (2147483647 : Int32)) % (6 : Int32))), .val (.ref ra), .val (.ref rb), .val (.ref rd), .val (.ref bo)] [(.int ((xa &&& (2147483647 : Int32)) % (6 : Int32))), (.int (xm &&& (3 : Int32))), (.int (1 : Int32)), (.long (cs.getD (1 : Int32).toNatClampNeg 0))])) (fun _ k => XS.iload X5.here hx rfl (hb hby at_135) rfl k) ?_
    refine own_go (T' := T5) (g' := (mkF m 139 #[.val (.int xa), .val (.int xb), .val (.int xd), .val (.int xm), .val (.int (xm &&& (3 : Int32))), .val (.int ((xa &&& (2147483647 : Int32)) % (6 : Int32))), .val (.int ((xb &&& (2147483647 : Int32)) % (6 : Int32))), .val (.int ((xd &&& (2147483647 : Int32)) % (6 : Int32))), .val (.ref ra), .val (.ref rb), .val (.ref rd), .val (.ref bo)] [(.int ((xb &&& (2147483647 : Int32)) % (6 : Int32))), (.int ((xa &&& (2147483647 : Int32)) % (6 : Int32))), (.int (xm &&& (3 : Int32))), (.int (1 : Int32)), (.long (cs.getD (1 : Int32).toNatClampNeg 0))])) (fun _ k => XS.iload X5.here hx rfl (hb hby at_137) rfl k) ?_
    refine own_go (T' := T5) (g' := (mkF m 141 #[.val (.int xa), .val (.int xb), .val (.int xd), .val (.int xm), .val (.int (xm &&& (3 : Int32))), .val (.int ((xa &&& (2147483647 : Int32)) % (6 : Int32))), .val (.int ((xb &&& (2147483647 : Int32)) % (6 : Int32))), .val (.int ((xd &&& (2147483647 : Int32)) % (6 : Int32))), .val (.ref ra), .val (.ref rb), .val (.ref rd), .val (.ref bo)] [(.int ((xd &&& (2147483647 : Int32)) % (6 : Int32))), (.int ((xb &&& (2147483647 : Int32)) % (6 : Int32))), (.int ((xa &&& (2147483647 : Int32)) % (6 : Int32))), (.int (xm &&& (3 : Int32))), (.int (1 : Int32)), (.long (cs.getD (1 : Int32).toNatClampNeg 0))])) (fun _ k => XS.iload X5.here hx rfl (hb hby at_139) rfl k) ?_
    obtain ⟨_, _, ⟨T6, L6, k6, n6⟩, -, X6, ⟨Lc6, hQ6, l6, y6, z6⟩, st6⟩ := Jvm.LawKit.callS X5 hx (y := (⟨"com/example/leased/leased/CountsStepPinLaw", "expect", "(IIIII)J"⟩ : MethodName)) hown (mvT hZ (hw _ (List.mem_of_getElem? (i := 64) rfl))) (mvT hZ (hw _ (List.mem_of_getElem? (i := 65) rfl))) (mvT hZ (hw _ (List.mem_of_getElem? (i := 3) rfl))) (mvT hZ (hw _ (List.mem_of_getElem? (i := 66) rfl))) (by decide) (backOf (W := 2) (own_rX l Z a0 hw [] (1 : Int32) (xm &&& (3 : Int32)) ((xa &&& (2147483647 : Int32)) % (6 : Int32)) ((xb &&& (2147483647 : Int32)) % (6 : Int32)) ((xd &&& (2147483647 : Int32)) % (6 : Int32)) ht n0 zt ) hZ (hw _ (List.mem_of_getElem? (i := 66) rfl)) (hw _ (List.mem_of_getElem? (i := 3) rfl)) (by decide) (by decide)) (g := (mkF m 141 #[.val (.int xa), .val (.int xb), .val (.int xd), .val (.int xm), .val (.int (xm &&& (3 : Int32))), .val (.int ((xa &&& (2147483647 : Int32)) % (6 : Int32))), .val (.int ((xb &&& (2147483647 : Int32)) % (6 : Int32))), .val (.int ((xd &&& (2147483647 : Int32)) % (6 : Int32))), .val (.ref ra), .val (.ref rb), .val (.ref rd), .val (.ref bo)] [(.int ((xd &&& (2147483647 : Int32)) % (6 : Int32))), (.int ((xb &&& (2147483647 : Int32)) % (6 : Int32))), (.int ((xa &&& (2147483647 : Int32)) % (6 : Int32))), (.int (xm &&& (3 : Int32))), (.int (1 : Int32)), (.long (cs.getD (1 : Int32).toNatClampNeg 0))])) rfl (by rw [hml]; rfl) (argsL := [(.int (1 : Int32)), (.int (xm &&& (3 : Int32))), (.int ((xa &&& (2147483647 : Int32)) % (6 : Int32))), (.int ((xb &&& (2147483647 : Int32)) % (6 : Int32))), (.int ((xd &&& (2147483647 : Int32)) % (6 : Int32)))]) (rest := [(.long (cs.getD (1 : Int32).toNatClampNeg 0))]) (lenOf own_pd4 rfl) rfl (by show 2 * 0 + _ ≤ _; exact Nat.le_of_eq rfl) (hb hby at_141) (fun _ _ => ⟨rfl, e5, (by decide : 3 + 0 ≤ _), (by decide : 13 + 0 ≤ _)⟩)
    dsimp only [Pt.U, Pt.locs, Pt.cells, Pt.slots] at X6 l6 y6 z6 st6 hQ6
    subst l6 y6 z6
    obtain ⟨rfl, N6q, e6⟩ := hQ6
    have N6 := Fr.app N5 N6q
    refine own_go (T' := T6) (g' := (mkF m 144 #[.val (.int xa), .val (.int xb), .val (.int xd), .val (.int xm), .val (.int (xm &&& (3 : Int32))), .val (.int ((xa &&& (2147483647 : Int32)) % (6 : Int32))), .val (.int ((xb &&& (2147483647 : Int32)) % (6 : Int32))), .val (.int ((xd &&& (2147483647 : Int32)) % (6 : Int32))), .val (.ref ra), .val (.ref rb), .val (.ref rd), .val (.ref bo)] [(.long (own_exp (1 : Int32) (xm &&& (3 : Int32)) ((xa &&& (2147483647 : Int32)) % (6 : Int32)) ((xb &&& (2147483647 : Int32)) % (6 : Int32)) ((xd &&& (2147483647 : Int32)) % (6 : Int32)))), (.long (cs.getD (1 : Int32).toNatClampNeg 0))])) (fun _ k => st6 _ k) ?_
    refine own_go (T' := T6) (g' := (mkF m 145 #[.val (.int xa), .val (.int xb), .val (.int xd), .val (.int xm), .val (.int (xm &&& (3 : Int32))), .val (.int ((xa &&& (2147483647 : Int32)) % (6 : Int32))), .val (.int ((xb &&& (2147483647 : Int32)) % (6 : Int32))), .val (.int ((xd &&& (2147483647 : Int32)) % (6 : Int32))), .val (.ref ra), .val (.ref rb), .val (.ref rd), .val (.ref bo)] [(.int (lcmpW (cs.getD (1 : Int32).toNatClampNeg 0) (own_exp (1 : Int32) (xm &&& (3 : Int32)) ((xa &&& (2147483647 : Int32)) % (6 : Int32)) ((xb &&& (2147483647 : Int32)) % (6 : Int32)) ((xd &&& (2147483647 : Int32)) % (6 : Int32)))))])) (fun _ k => XS.lcmp X6.here hx rfl (hb hby at_144) rfl k) ?_
    refine own_go (T' := T6) (g' := (mkF m 148 #[.val (.int xa), .val (.int xb), .val (.int xd), .val (.int xm), .val (.int (xm &&& (3 : Int32))), .val (.int ((xa &&& (2147483647 : Int32)) % (6 : Int32))), .val (.int ((xb &&& (2147483647 : Int32)) % (6 : Int32))), .val (.int ((xd &&& (2147483647 : Int32)) % (6 : Int32))), .val (.ref ra), .val (.ref rb), .val (.ref rd), .val (.ref bo)] [])) (fun _ k => XS.ifNo X6.here hx rfl (hb hby at_145) rfl ((if0 _ _).trans (teq ((own_eq_t ((hI (1 : Int32) (by decide) (by decide)))) : (lcmpW (cs.getD (1 : Int32).toNatClampNeg 0) (own_exp (1 : Int32) (xm &&& (3 : Int32)) ((xa &&& (2147483647 : Int32)) % (6 : Int32)) ((xb &&& (2147483647 : Int32)) % (6 : Int32)) ((xd &&& (2147483647 : Int32)) % (6 : Int32)))) = (0 : Int32))).2) k) ?_
    refine own_go (T' := T6) (g' := (mkF m 150 #[.val (.int xa), .val (.int xb), .val (.int xd), .val (.int xm), .val (.int (xm &&& (3 : Int32))), .val (.int ((xa &&& (2147483647 : Int32)) % (6 : Int32))), .val (.int ((xb &&& (2147483647 : Int32)) % (6 : Int32))), .val (.int ((xd &&& (2147483647 : Int32)) % (6 : Int32))), .val (.ref ra), .val (.ref rb), .val (.ref rd), .val (.ref bo)] [(.ref bo)])) (fun _ k => XS.aload X6.here hx rfl (hb hby at_148) rfl rfl k) ?_
    obtain ⟨T7, X7, e7, st7⟩ := getS X6 hx hZ (host := "") hown (hw _ (List.mem_of_getElem? (i := 10) rfl)) Via.refl e6 (S_RENEWALS.ext ot) (g := (mkF m 150 #[.val (.int xa), .val (.int xb), .val (.int xd), .val (.int xm), .val (.int (xm &&& (3 : Int32))), .val (.int ((xa &&& (2147483647 : Int32)) % (6 : Int32))), .val (.int ((xb &&& (2147483647 : Int32)) % (6 : Int32))), .val (.int ((xd &&& (2147483647 : Int32)) % (6 : Int32))), .val (.ref ra), .val (.ref rb), .val (.ref rd), .val (.ref bo)] [(.ref bo)])) rfl (hb hby at_150)
    refine own_go (T' := T7) (g' := (mkF m 153 #[.val (.int xa), .val (.int xb), .val (.int xd), .val (.int xm), .val (.int (xm &&& (3 : Int32))), .val (.int ((xa &&& (2147483647 : Int32)) % (6 : Int32))), .val (.int ((xb &&& (2147483647 : Int32)) % (6 : Int32))), .val (.int ((xd &&& (2147483647 : Int32)) % (6 : Int32))), .val (.ref ra), .val (.ref rb), .val (.ref rd), .val (.ref bo)] [(.ref a_RENEWALS), (.ref bo)])) (fun _ k => st7 _ k) ?_
    obtain ⟨cq8, kq8, q8a, q8b, q8c⟩ := isOf hZ e7 eb
    obtain ⟨_, _, ⟨T8, L8, k8, n8⟩, -, X8, ⟨Lc8, hQ8, l8, y8, z8⟩, st8⟩ := X7.virtualBack hx (y := (⟨"com/example/leased/leased/ElectorStatus$Counts", "get", "(Lcom/example/leased/leased/ElectorStatus$Count;)J"⟩ : MethodName)) (z := (⟨"com/example/leased/leased/ElectorStatus$Counts", "get", "(Lcom/example/leased/leased/ElectorStatus$Count;)J"⟩ : MethodName)) hown (mvT hZ (hw _ (List.mem_of_getElem? (i := 59) rfl))) (mvT hZ (hw _ (List.mem_of_getElem? (i := 60) rfl))) (notFace_of_selects (args := #[]) (mvT hZ (hw _ (List.mem_of_getElem? (i := 62) rfl)))) (mvT hZ (hw _ (List.mem_of_getElem? (i := 62) rfl))) (mvT hZ (hw _ (List.mem_of_getElem? (i := 61) rfl))) (by decide) (backOf (W := 0) (own_rG l Z a0 hw [] bo a_RENEWALS xt kt cs (2 : Int32) ht n0 zt fb vt (E_RENEWALS.ext ot) (F_RENEWALS_ordinal.ext ot) (by decide) (by rw [hlen]; decide)) hZ (hw _ (List.mem_of_getElem? (i := 63) rfl)) (hw _ (List.mem_of_getElem? (i := 14) rfl)) (by decide) (by decide)) q8a q8c (g := (mkF m 153 #[.val (.int xa), .val (.int xb), .val (.int xd), .val (.int xm), .val (.int (xm &&& (3 : Int32))), .val (.int ((xa &&& (2147483647 : Int32)) % (6 : Int32))), .val (.int ((xb &&& (2147483647 : Int32)) % (6 : Int32))), .val (.int ((xd &&& (2147483647 : Int32)) % (6 : Int32))), .val (.ref ra), .val (.ref rb), .val (.ref rd), .val (.ref bo)] [(.ref a_RENEWALS), (.ref bo)])) rfl (by rw [hml]; rfl) (Steps.refl _) (argsL := [(.ref a_RENEWALS)]) (rest := []) (lenOf own_pd3 rfl) rfl (by show 2 * 0 + _ ≤ _; exact Nat.le_of_eq rfl) (hb hby at_153) (fun _ _ => ⟨rfl, e7, (by decide : 3 + 0 ≤ _), (by decide : 13 + 0 ≤ _)⟩)
    dsimp only [Pt.U, Pt.locs, Pt.cells, Pt.slots] at X8 l8 y8 z8 st8 hQ8
    subst l8 y8 z8
    obtain ⟨rfl, N8q, e8⟩ := hQ8
    have N8 := Fr.app N6 N8q
    refine own_goT (T' := T8) (g' := (mkF m 156 #[.val (.int xa), .val (.int xb), .val (.int xd), .val (.int xm), .val (.int (xm &&& (3 : Int32))), .val (.int ((xa &&& (2147483647 : Int32)) % (6 : Int32))), .val (.int ((xb &&& (2147483647 : Int32)) % (6 : Int32))), .val (.int ((xd &&& (2147483647 : Int32)) % (6 : Int32))), .val (.ref ra), .val (.ref rb), .val (.ref rd), .val (.ref bo)] [(.long (cs.getD (2 : Int32).toNatClampNeg 0))])) st8 ?_
    refine own_go (T' := T8) (g' := (mkF m 157 #[.val (.int xa), .val (.int xb), .val (.int xd), .val (.int xm), .val (.int (xm &&& (3 : Int32))), .val (.int ((xa &&& (2147483647 : Int32)) % (6 : Int32))), .val (.int ((xb &&& (2147483647 : Int32)) % (6 : Int32))), .val (.int ((xd &&& (2147483647 : Int32)) % (6 : Int32))), .val (.ref ra), .val (.ref rb), .val (.ref rd), .val (.ref bo)] [(.int (2 : Int32)), (.long (cs.getD (2 : Int32).toNatClampNeg 0))])) (fun _ k => XS.iconst X8.here hx rfl (hb hby at_156) k) ?_
    refine own_go (T' := T8) (g' := (mkF m 159 #[.val (.int xa), .val (.int xb), .val (.int xd), .val (.int xm), .val (.int (xm &&& (3 : Int32))), .val (.int ((xa &&& (2147483647 : Int32)) % (6 : Int32))), .val (.int ((xb &&& (2147483647 : Int32)) % (6 : Int32))), .val (.int ((xd &&& (2147483647 : Int32)) % (6 : Int32))), .val (.ref ra), .val (.ref rb), .val (.ref rd), .val (.ref bo)] [(.int (xm &&& (3 : Int32))), (.int (2 : Int32)), (.long (cs.getD (2 : Int32).toNatClampNeg 0))])) (fun _ k => XS.iload X8.here hx rfl (hb hby at_157) rfl k) ?_
    refine own_go (T' := T8) (g' := (mkF m 161 #[.val (.int xa), .val (.int xb), .val (.int xd), .val (.int xm), .val (.int (xm &&& (3 : Int32))), .val (.int ((xa &&& (2147483647 : Int32)) % (6 : Int32))), .val (.int ((xb &&& (2147483647 : Int32)) % (6 : Int32))), .val (.int ((xd &&& (2147483647 : Int32)) % (6 : Int32))), .val (.ref ra), .val (.ref rb), .val (.ref rd), .val (.ref bo)] [(.int ((xa &&& (2147483647 : Int32)) % (6 : Int32))), (.int (xm &&& (3 : Int32))), (.int (2 : Int32)), (.long (cs.getD (2 : Int32).toNatClampNeg 0))])) (fun _ k => XS.iload X8.here hx rfl (hb hby at_159) rfl k) ?_
    refine own_go (T' := T8) (g' := (mkF m 163 #[.val (.int xa), .val (.int xb), .val (.int xd), .val (.int xm), .val (.int (xm &&& (3 : Int32))), .val (.int ((xa &&& (2147483647 : Int32)) % (6 : Int32))), .val (.int ((xb &&& (2147483647 : Int32)) % (6 : Int32))), .val (.int ((xd &&& (2147483647 : Int32)) % (6 : Int32))), .val (.ref ra), .val (.ref rb), .val (.ref rd), .val (.ref bo)] [(.int ((xb &&& (2147483647 : Int32)) % (6 : Int32))), (.int ((xa &&& (2147483647 : Int32)) % (6 : Int32))), (.int (xm &&& (3 : Int32))), (.int (2 : Int32)), (.long (cs.getD (2 : Int32).toNatClampNeg 0))])) (fun _ k => XS.iload X8.here hx rfl (hb hby at_161) rfl k) ?_
    refine own_go (T' := T8) (g' := (mkF m 165 #[.val (.int xa), .val (.int xb), .val (.int xd), .val (.int xm), .val (.int (xm &&& (3 : Int32))), .val (.int ((xa &&& (2147483647 : Int32)) % (6 : Int32))), .val (.int ((xb &&& (2147483647 : Int32)) % (6 : Int32))), .val (.int ((xd &&& (2147483647 : Int32)) % (6 : Int32))), .val (.ref ra), .val (.ref rb), .val (.ref rd), .val (.ref bo)] [(.int ((xd &&& (2147483647 : Int32)) % (6 : Int32))), (.int ((xb &&& (2147483647 : Int32)) % (6 : Int32))), (.int ((xa &&& (2147483647 : Int32)) % (6 : Int32))), (.int (xm &&& (3 : Int32))), (.int (2 : Int32)), (.long (cs.getD (2 : Int32).toNatClampNeg 0))])) (fun _ k => XS.iload X8.here hx rfl (hb hby at_163) rfl k) ?_
    obtain ⟨_, _, ⟨T9, L9, k9, n9⟩, -, X9, ⟨Lc9, hQ9, l9, y9, z9⟩, st9⟩ := Jvm.LawKit.callS X8 hx (y := (⟨"com/example/leased/leased/CountsStepPinLaw", "expect", "(IIIII)J"⟩ : MethodName)) hown (mvT hZ (hw _ (List.mem_of_getElem? (i := 64) rfl))) (mvT hZ (hw _ (List.mem_of_getElem? (i := 65) rfl))) (mvT hZ (hw _ (List.mem_of_getElem? (i := 3) rfl))) (mvT hZ (hw _ (List.mem_of_getElem? (i := 66) rfl))) (by decide) (backOf (W := 2) (own_rX l Z a0 hw [] (2 : Int32) (xm &&& (3 : Int32)) ((xa &&& (2147483647 : Int32)) % (6 : Int32)) ((xb &&& (2147483647 : Int32)) % (6 : Int32)) ((xd &&& (2147483647 : Int32)) % (6 : Int32)) ht n0 zt ) hZ (hw _ (List.mem_of_getElem? (i := 66) rfl)) (hw _ (List.mem_of_getElem? (i := 3) rfl)) (by decide) (by decide)) (g := (mkF m 165 #[.val (.int xa), .val (.int xb), .val (.int xd), .val (.int xm), .val (.int (xm &&& (3 : Int32))), .val (.int ((xa &&& (2147483647 : Int32)) % (6 : Int32))), .val (.int ((xb &&& (2147483647 : Int32)) % (6 : Int32))), .val (.int ((xd &&& (2147483647 : Int32)) % (6 : Int32))), .val (.ref ra), .val (.ref rb), .val (.ref rd), .val (.ref bo)] [(.int ((xd &&& (2147483647 : Int32)) % (6 : Int32))), (.int ((xb &&& (2147483647 : Int32)) % (6 : Int32))), (.int ((xa &&& (2147483647 : Int32)) % (6 : Int32))), (.int (xm &&& (3 : Int32))), (.int (2 : Int32)), (.long (cs.getD (2 : Int32).toNatClampNeg 0))])) rfl (by rw [hml]; rfl) (argsL := [(.int (2 : Int32)), (.int (xm &&& (3 : Int32))), (.int ((xa &&& (2147483647 : Int32)) % (6 : Int32))), (.int ((xb &&& (2147483647 : Int32)) % (6 : Int32))), (.int ((xd &&& (2147483647 : Int32)) % (6 : Int32)))]) (rest := [(.long (cs.getD (2 : Int32).toNatClampNeg 0))]) (lenOf own_pd4 rfl) rfl (by show 2 * 0 + _ ≤ _; exact Nat.le_of_eq rfl) (hb hby at_165) (fun _ _ => ⟨rfl, e8, (by decide : 3 + 0 ≤ _), (by decide : 13 + 0 ≤ _)⟩)
    dsimp only [Pt.U, Pt.locs, Pt.cells, Pt.slots] at X9 l9 y9 z9 st9 hQ9
    subst l9 y9 z9
    obtain ⟨rfl, N9q, e9⟩ := hQ9
    have N9 := Fr.app N8 N9q
    refine own_go (T' := T9) (g' := (mkF m 168 #[.val (.int xa), .val (.int xb), .val (.int xd), .val (.int xm), .val (.int (xm &&& (3 : Int32))), .val (.int ((xa &&& (2147483647 : Int32)) % (6 : Int32))), .val (.int ((xb &&& (2147483647 : Int32)) % (6 : Int32))), .val (.int ((xd &&& (2147483647 : Int32)) % (6 : Int32))), .val (.ref ra), .val (.ref rb), .val (.ref rd), .val (.ref bo)] [(.long (own_exp (2 : Int32) (xm &&& (3 : Int32)) ((xa &&& (2147483647 : Int32)) % (6 : Int32)) ((xb &&& (2147483647 : Int32)) % (6 : Int32)) ((xd &&& (2147483647 : Int32)) % (6 : Int32)))), (.long (cs.getD (2 : Int32).toNatClampNeg 0))])) (fun _ k => st9 _ k) ?_
    refine own_go (T' := T9) (g' := (mkF m 169 #[.val (.int xa), .val (.int xb), .val (.int xd), .val (.int xm), .val (.int (xm &&& (3 : Int32))), .val (.int ((xa &&& (2147483647 : Int32)) % (6 : Int32))), .val (.int ((xb &&& (2147483647 : Int32)) % (6 : Int32))), .val (.int ((xd &&& (2147483647 : Int32)) % (6 : Int32))), .val (.ref ra), .val (.ref rb), .val (.ref rd), .val (.ref bo)] [(.int (lcmpW (cs.getD (2 : Int32).toNatClampNeg 0) (own_exp (2 : Int32) (xm &&& (3 : Int32)) ((xa &&& (2147483647 : Int32)) % (6 : Int32)) ((xb &&& (2147483647 : Int32)) % (6 : Int32)) ((xd &&& (2147483647 : Int32)) % (6 : Int32)))))])) (fun _ k => XS.lcmp X9.here hx rfl (hb hby at_168) rfl k) ?_
    refine own_go (T' := T9) (g' := (mkF m 172 #[.val (.int xa), .val (.int xb), .val (.int xd), .val (.int xm), .val (.int (xm &&& (3 : Int32))), .val (.int ((xa &&& (2147483647 : Int32)) % (6 : Int32))), .val (.int ((xb &&& (2147483647 : Int32)) % (6 : Int32))), .val (.int ((xd &&& (2147483647 : Int32)) % (6 : Int32))), .val (.ref ra), .val (.ref rb), .val (.ref rd), .val (.ref bo)] [])) (fun _ k => XS.ifNo X9.here hx rfl (hb hby at_169) rfl ((if0 _ _).trans (teq ((own_eq_t ((hI (2 : Int32) (by decide) (by decide)))) : (lcmpW (cs.getD (2 : Int32).toNatClampNeg 0) (own_exp (2 : Int32) (xm &&& (3 : Int32)) ((xa &&& (2147483647 : Int32)) % (6 : Int32)) ((xb &&& (2147483647 : Int32)) % (6 : Int32)) ((xd &&& (2147483647 : Int32)) % (6 : Int32)))) = (0 : Int32))).2) k) ?_
    refine own_go (T' := T9) (g' := (mkF m 174 #[.val (.int xa), .val (.int xb), .val (.int xd), .val (.int xm), .val (.int (xm &&& (3 : Int32))), .val (.int ((xa &&& (2147483647 : Int32)) % (6 : Int32))), .val (.int ((xb &&& (2147483647 : Int32)) % (6 : Int32))), .val (.int ((xd &&& (2147483647 : Int32)) % (6 : Int32))), .val (.ref ra), .val (.ref rb), .val (.ref rd), .val (.ref bo)] [(.ref bo)])) (fun _ k => XS.aload X9.here hx rfl (hb hby at_172) rfl rfl k) ?_
    obtain ⟨T10, X10, e10, st10⟩ := getS X9 hx hZ (host := "") hown (hw _ (List.mem_of_getElem? (i := 8) rfl)) Via.refl e9 (S_RENEWALS_FAILED.ext ot) (g := (mkF m 174 #[.val (.int xa), .val (.int xb), .val (.int xd), .val (.int xm), .val (.int (xm &&& (3 : Int32))), .val (.int ((xa &&& (2147483647 : Int32)) % (6 : Int32))), .val (.int ((xb &&& (2147483647 : Int32)) % (6 : Int32))), .val (.int ((xd &&& (2147483647 : Int32)) % (6 : Int32))), .val (.ref ra), .val (.ref rb), .val (.ref rd), .val (.ref bo)] [(.ref bo)])) rfl (hb hby at_174)
    refine own_go (T' := T10) (g' := (mkF m 177 #[.val (.int xa), .val (.int xb), .val (.int xd), .val (.int xm), .val (.int (xm &&& (3 : Int32))), .val (.int ((xa &&& (2147483647 : Int32)) % (6 : Int32))), .val (.int ((xb &&& (2147483647 : Int32)) % (6 : Int32))), .val (.int ((xd &&& (2147483647 : Int32)) % (6 : Int32))), .val (.ref ra), .val (.ref rb), .val (.ref rd), .val (.ref bo)] [(.ref a_RENEWALS_FAILED), (.ref bo)])) (fun _ k => st10 _ k) ?_
    obtain ⟨cq11, kq11, q11a, q11b, q11c⟩ := isOf hZ e10 eb
    obtain ⟨_, _, ⟨T11, L11, k11, n11⟩, -, X11, ⟨Lc11, hQ11, l11, y11, z11⟩, st11⟩ := X10.virtualBack hx (y := (⟨"com/example/leased/leased/ElectorStatus$Counts", "get", "(Lcom/example/leased/leased/ElectorStatus$Count;)J"⟩ : MethodName)) (z := (⟨"com/example/leased/leased/ElectorStatus$Counts", "get", "(Lcom/example/leased/leased/ElectorStatus$Count;)J"⟩ : MethodName)) hown (mvT hZ (hw _ (List.mem_of_getElem? (i := 59) rfl))) (mvT hZ (hw _ (List.mem_of_getElem? (i := 60) rfl))) (notFace_of_selects (args := #[]) (mvT hZ (hw _ (List.mem_of_getElem? (i := 62) rfl)))) (mvT hZ (hw _ (List.mem_of_getElem? (i := 62) rfl))) (mvT hZ (hw _ (List.mem_of_getElem? (i := 61) rfl))) (by decide) (backOf (W := 0) (own_rG l Z a0 hw [] bo a_RENEWALS_FAILED xt kt cs (3 : Int32) ht n0 zt fb vt (E_RENEWALS_FAILED.ext ot) (F_RENEWALS_FAILED_ordinal.ext ot) (by decide) (by rw [hlen]; decide)) hZ (hw _ (List.mem_of_getElem? (i := 63) rfl)) (hw _ (List.mem_of_getElem? (i := 14) rfl)) (by decide) (by decide)) q11a q11c (g := (mkF m 177 #[.val (.int xa), .val (.int xb), .val (.int xd), .val (.int xm), .val (.int (xm &&& (3 : Int32))), .val (.int ((xa &&& (2147483647 : Int32)) % (6 : Int32))), .val (.int ((xb &&& (2147483647 : Int32)) % (6 : Int32))), .val (.int ((xd &&& (2147483647 : Int32)) % (6 : Int32))), .val (.ref ra), .val (.ref rb), .val (.ref rd), .val (.ref bo)] [(.ref a_RENEWALS_FAILED), (.ref bo)])) rfl (by rw [hml]; rfl) (Steps.refl _) (argsL := [(.ref a_RENEWALS_FAILED)]) (rest := []) (lenOf own_pd3 rfl) rfl (by show 2 * 0 + _ ≤ _; exact Nat.le_of_eq rfl) (hb hby at_177) (fun _ _ => ⟨rfl, e10, (by decide : 3 + 0 ≤ _), (by decide : 13 + 0 ≤ _)⟩)
    dsimp only [Pt.U, Pt.locs, Pt.cells, Pt.slots] at X11 l11 y11 z11 st11 hQ11
    subst l11 y11 z11
    obtain ⟨rfl, N11q, e11⟩ := hQ11
    have N11 := Fr.app N9 N11q
    refine own_goT (T' := T11) (g' := (mkF m 180 #[.val (.int xa), .val (.int xb), .val (.int xd), .val (.int xm), .val (.int (xm &&& (3 : Int32))), .val (.int ((xa &&& (2147483647 : Int32)) % (6 : Int32))), .val (.int ((xb &&& (2147483647 : Int32)) % (6 : Int32))), .val (.int ((xd &&& (2147483647 : Int32)) % (6 : Int32))), .val (.ref ra), .val (.ref rb), .val (.ref rd), .val (.ref bo)] [(.long (cs.getD (3 : Int32).toNatClampNeg 0))])) st11 ?_
    refine own_go (T' := T11) (g' := (mkF m 181 #[.val (.int xa), .val (.int xb), .val (.int xd), .val (.int xm), .val (.int (xm &&& (3 : Int32))), .val (.int ((xa &&& (2147483647 : Int32)) % (6 : Int32))), .val (.int ((xb &&& (2147483647 : Int32)) % (6 : Int32))), .val (.int ((xd &&& (2147483647 : Int32)) % (6 : Int32))), .val (.ref ra), .val (.ref rb), .val (.ref rd), .val (.ref bo)] [(.int (3 : Int32)), (.long (cs.getD (3 : Int32).toNatClampNeg 0))])) (fun _ k => XS.iconst X11.here hx rfl (hb hby at_180) k) ?_
    refine own_go (T' := T11) (g' := (mkF m 183 #[.val (.int xa), .val (.int xb), .val (.int xd), .val (.int xm), .val (.int (xm &&& (3 : Int32))), .val (.int ((xa &&& (2147483647 : Int32)) % (6 : Int32))), .val (.int ((xb &&& (2147483647 : Int32)) % (6 : Int32))), .val (.int ((xd &&& (2147483647 : Int32)) % (6 : Int32))), .val (.ref ra), .val (.ref rb), .val (.ref rd), .val (.ref bo)] [(.int (xm &&& (3 : Int32))), (.int (3 : Int32)), (.long (cs.getD (3 : Int32).toNatClampNeg 0))])) (fun _ k => XS.iload X11.here hx rfl (hb hby at_181) rfl k) ?_
    refine own_go (T' := T11) (g' := (mkF m 185 #[.val (.int xa), .val (.int xb), .val (.int xd), .val (.int xm), .val (.int (xm &&& (3 : Int32))), .val (.int ((xa &&& (2147483647 : Int32)) % (6 : Int32))), .val (.int ((xb &&& (2147483647 : Int32)) % (6 : Int32))), .val (.int ((xd &&& (2147483647 : Int32)) % (6 : Int32))), .val (.ref ra), .val (.ref rb), .val (.ref rd), .val (.ref bo)] [(.int ((xa &&& (2147483647 : Int32)) % (6 : Int32))), (.int (xm &&& (3 : Int32))), (.int (3 : Int32)), (.long (cs.getD (3 : Int32).toNatClampNeg 0))])) (fun _ k => XS.iload X11.here hx rfl (hb hby at_183) rfl k) ?_
    refine own_go (T' := T11) (g' := (mkF m 187 #[.val (.int xa), .val (.int xb), .val (.int xd), .val (.int xm), .val (.int (xm &&& (3 : Int32))), .val (.int ((xa &&& (2147483647 : Int32)) % (6 : Int32))), .val (.int ((xb &&& (2147483647 : Int32)) % (6 : Int32))), .val (.int ((xd &&& (2147483647 : Int32)) % (6 : Int32))), .val (.ref ra), .val (.ref rb), .val (.ref rd), .val (.ref bo)] [(.int ((xb &&& (2147483647 : Int32)) % (6 : Int32))), (.int ((xa &&& (2147483647 : Int32)) % (6 : Int32))), (.int (xm &&& (3 : Int32))), (.int (3 : Int32)), (.long (cs.getD (3 : Int32).toNatClampNeg 0))])) (fun _ k => XS.iload X11.here hx rfl (hb hby at_185) rfl k) ?_
    refine own_go (T' := T11) (g' := (mkF m 189 #[.val (.int xa), .val (.int xb), .val (.int xd), .val (.int xm), .val (.int (xm &&& (3 : Int32))), .val (.int ((xa &&& (2147483647 : Int32)) % (6 : Int32))), .val (.int ((xb &&& (2147483647 : Int32)) % (6 : Int32))), .val (.int ((xd &&& (2147483647 : Int32)) % (6 : Int32))), .val (.ref ra), .val (.ref rb), .val (.ref rd), .val (.ref bo)] [(.int ((xd &&& (2147483647 : Int32)) % (6 : Int32))), (.int ((xb &&& (2147483647 : Int32)) % (6 : Int32))), (.int ((xa &&& (2147483647 : Int32)) % (6 : Int32))), (.int (xm &&& (3 : Int32))), (.int (3 : Int32)), (.long (cs.getD (3 : Int32).toNatClampNeg 0))])) (fun _ k => XS.iload X11.here hx rfl (hb hby at_187) rfl k) ?_
    obtain ⟨_, _, ⟨T12, L12, k12, n12⟩, -, X12, ⟨Lc12, hQ12, l12, y12, z12⟩, st12⟩ := Jvm.LawKit.callS X11 hx (y := (⟨"com/example/leased/leased/CountsStepPinLaw", "expect", "(IIIII)J"⟩ : MethodName)) hown (mvT hZ (hw _ (List.mem_of_getElem? (i := 64) rfl))) (mvT hZ (hw _ (List.mem_of_getElem? (i := 65) rfl))) (mvT hZ (hw _ (List.mem_of_getElem? (i := 3) rfl))) (mvT hZ (hw _ (List.mem_of_getElem? (i := 66) rfl))) (by decide) (backOf (W := 2) (own_rX l Z a0 hw [] (3 : Int32) (xm &&& (3 : Int32)) ((xa &&& (2147483647 : Int32)) % (6 : Int32)) ((xb &&& (2147483647 : Int32)) % (6 : Int32)) ((xd &&& (2147483647 : Int32)) % (6 : Int32)) ht n0 zt ) hZ (hw _ (List.mem_of_getElem? (i := 66) rfl)) (hw _ (List.mem_of_getElem? (i := 3) rfl)) (by decide) (by decide)) (g := (mkF m 189 #[.val (.int xa), .val (.int xb), .val (.int xd), .val (.int xm), .val (.int (xm &&& (3 : Int32))), .val (.int ((xa &&& (2147483647 : Int32)) % (6 : Int32))), .val (.int ((xb &&& (2147483647 : Int32)) % (6 : Int32))), .val (.int ((xd &&& (2147483647 : Int32)) % (6 : Int32))), .val (.ref ra), .val (.ref rb), .val (.ref rd), .val (.ref bo)] [(.int ((xd &&& (2147483647 : Int32)) % (6 : Int32))), (.int ((xb &&& (2147483647 : Int32)) % (6 : Int32))), (.int ((xa &&& (2147483647 : Int32)) % (6 : Int32))), (.int (xm &&& (3 : Int32))), (.int (3 : Int32)), (.long (cs.getD (3 : Int32).toNatClampNeg 0))])) rfl (by rw [hml]; rfl) (argsL := [(.int (3 : Int32)), (.int (xm &&& (3 : Int32))), (.int ((xa &&& (2147483647 : Int32)) % (6 : Int32))), (.int ((xb &&& (2147483647 : Int32)) % (6 : Int32))), (.int ((xd &&& (2147483647 : Int32)) % (6 : Int32)))]) (rest := [(.long (cs.getD (3 : Int32).toNatClampNeg 0))]) (lenOf own_pd4 rfl) rfl (by show 2 * 0 + _ ≤ _; exact Nat.le_of_eq rfl) (hb hby at_189) (fun _ _ => ⟨rfl, e11, (by decide : 3 + 0 ≤ _), (by decide : 13 + 0 ≤ _)⟩)
    dsimp only [Pt.U, Pt.locs, Pt.cells, Pt.slots] at X12 l12 y12 z12 st12 hQ12
    subst l12 y12 z12
    obtain ⟨rfl, N12q, e12⟩ := hQ12
    have N12 := Fr.app N11 N12q
    refine own_go (T' := T12) (g' := (mkF m 192 #[.val (.int xa), .val (.int xb), .val (.int xd), .val (.int xm), .val (.int (xm &&& (3 : Int32))), .val (.int ((xa &&& (2147483647 : Int32)) % (6 : Int32))), .val (.int ((xb &&& (2147483647 : Int32)) % (6 : Int32))), .val (.int ((xd &&& (2147483647 : Int32)) % (6 : Int32))), .val (.ref ra), .val (.ref rb), .val (.ref rd), .val (.ref bo)] [(.long (own_exp (3 : Int32) (xm &&& (3 : Int32)) ((xa &&& (2147483647 : Int32)) % (6 : Int32)) ((xb &&& (2147483647 : Int32)) % (6 : Int32)) ((xd &&& (2147483647 : Int32)) % (6 : Int32)))), (.long (cs.getD (3 : Int32).toNatClampNeg 0))])) (fun _ k => st12 _ k) ?_
    refine own_go (T' := T12) (g' := (mkF m 193 #[.val (.int xa), .val (.int xb), .val (.int xd), .val (.int xm), .val (.int (xm &&& (3 : Int32))), .val (.int ((xa &&& (2147483647 : Int32)) % (6 : Int32))), .val (.int ((xb &&& (2147483647 : Int32)) % (6 : Int32))), .val (.int ((xd &&& (2147483647 : Int32)) % (6 : Int32))), .val (.ref ra), .val (.ref rb), .val (.ref rd), .val (.ref bo)] [(.int (lcmpW (cs.getD (3 : Int32).toNatClampNeg 0) (own_exp (3 : Int32) (xm &&& (3 : Int32)) ((xa &&& (2147483647 : Int32)) % (6 : Int32)) ((xb &&& (2147483647 : Int32)) % (6 : Int32)) ((xd &&& (2147483647 : Int32)) % (6 : Int32)))))])) (fun _ k => XS.lcmp X12.here hx rfl (hb hby at_192) rfl k) ?_
    refine own_go (T' := T12) (g' := (mkF m 196 #[.val (.int xa), .val (.int xb), .val (.int xd), .val (.int xm), .val (.int (xm &&& (3 : Int32))), .val (.int ((xa &&& (2147483647 : Int32)) % (6 : Int32))), .val (.int ((xb &&& (2147483647 : Int32)) % (6 : Int32))), .val (.int ((xd &&& (2147483647 : Int32)) % (6 : Int32))), .val (.ref ra), .val (.ref rb), .val (.ref rd), .val (.ref bo)] [])) (fun _ k => XS.ifNo X12.here hx rfl (hb hby at_193) rfl ((if0 _ _).trans (teq ((own_eq_t ((hI (3 : Int32) (by decide) (by decide)))) : (lcmpW (cs.getD (3 : Int32).toNatClampNeg 0) (own_exp (3 : Int32) (xm &&& (3 : Int32)) ((xa &&& (2147483647 : Int32)) % (6 : Int32)) ((xb &&& (2147483647 : Int32)) % (6 : Int32)) ((xd &&& (2147483647 : Int32)) % (6 : Int32)))) = (0 : Int32))).2) k) ?_
    refine own_go (T' := T12) (g' := (mkF m 198 #[.val (.int xa), .val (.int xb), .val (.int xd), .val (.int xm), .val (.int (xm &&& (3 : Int32))), .val (.int ((xa &&& (2147483647 : Int32)) % (6 : Int32))), .val (.int ((xb &&& (2147483647 : Int32)) % (6 : Int32))), .val (.int ((xd &&& (2147483647 : Int32)) % (6 : Int32))), .val (.ref ra), .val (.ref rb), .val (.ref rd), .val (.ref bo)] [(.ref bo)])) (fun _ k => XS.aload X12.here hx rfl (hb hby at_196) rfl rfl k) ?_
    obtain ⟨T13, X13, e13, st13⟩ := getS X12 hx hZ (host := "") hown (hw _ (List.mem_of_getElem? (i := 68) rfl)) Via.refl e12 (S_HOLDINGS_LOST.ext ot) (g := (mkF m 198 #[.val (.int xa), .val (.int xb), .val (.int xd), .val (.int xm), .val (.int (xm &&& (3 : Int32))), .val (.int ((xa &&& (2147483647 : Int32)) % (6 : Int32))), .val (.int ((xb &&& (2147483647 : Int32)) % (6 : Int32))), .val (.int ((xd &&& (2147483647 : Int32)) % (6 : Int32))), .val (.ref ra), .val (.ref rb), .val (.ref rd), .val (.ref bo)] [(.ref bo)])) rfl (hb hby at_198)
    refine own_go (T' := T13) (g' := (mkF m 201 #[.val (.int xa), .val (.int xb), .val (.int xd), .val (.int xm), .val (.int (xm &&& (3 : Int32))), .val (.int ((xa &&& (2147483647 : Int32)) % (6 : Int32))), .val (.int ((xb &&& (2147483647 : Int32)) % (6 : Int32))), .val (.int ((xd &&& (2147483647 : Int32)) % (6 : Int32))), .val (.ref ra), .val (.ref rb), .val (.ref rd), .val (.ref bo)] [(.ref a_HOLDINGS_LOST), (.ref bo)])) (fun _ k => st13 _ k) ?_
    obtain ⟨cq14, kq14, q14a, q14b, q14c⟩ := isOf hZ e13 eb
    obtain ⟨_, _, ⟨T14, L14, k14, n14⟩, -, X14, ⟨Lc14, hQ14, l14, y14, z14⟩, st14⟩ := X13.virtualBack hx (y := (⟨"com/example/leased/leased/ElectorStatus$Counts", "get", "(Lcom/example/leased/leased/ElectorStatus$Count;)J"⟩ : MethodName)) (z := (⟨"com/example/leased/leased/ElectorStatus$Counts", "get", "(Lcom/example/leased/leased/ElectorStatus$Count;)J"⟩ : MethodName)) hown (mvT hZ (hw _ (List.mem_of_getElem? (i := 59) rfl))) (mvT hZ (hw _ (List.mem_of_getElem? (i := 60) rfl))) (notFace_of_selects (args := #[]) (mvT hZ (hw _ (List.mem_of_getElem? (i := 62) rfl)))) (mvT hZ (hw _ (List.mem_of_getElem? (i := 62) rfl))) (mvT hZ (hw _ (List.mem_of_getElem? (i := 61) rfl))) (by decide) (backOf (W := 0) (own_rG l Z a0 hw [] bo a_HOLDINGS_LOST xt kt cs (4 : Int32) ht n0 zt fb vt (E_HOLDINGS_LOST.ext ot) (F_HOLDINGS_LOST_ordinal.ext ot) (by decide) (by rw [hlen]; decide)) hZ (hw _ (List.mem_of_getElem? (i := 63) rfl)) (hw _ (List.mem_of_getElem? (i := 14) rfl)) (by decide) (by decide)) q14a q14c (g := (mkF m 201 #[.val (.int xa), .val (.int xb), .val (.int xd), .val (.int xm), .val (.int (xm &&& (3 : Int32))), .val (.int ((xa &&& (2147483647 : Int32)) % (6 : Int32))), .val (.int ((xb &&& (2147483647 : Int32)) % (6 : Int32))), .val (.int ((xd &&& (2147483647 : Int32)) % (6 : Int32))), .val (.ref ra), .val (.ref rb), .val (.ref rd), .val (.ref bo)] [(.ref a_HOLDINGS_LOST), (.ref bo)])) rfl (by rw [hml]; rfl) (Steps.refl _) (argsL := [(.ref a_HOLDINGS_LOST)]) (rest := []) (lenOf own_pd3 rfl) rfl (by show 2 * 0 + _ ≤ _; exact Nat.le_of_eq rfl) (hb hby at_201) (fun _ _ => ⟨rfl, e13, (by decide : 3 + 0 ≤ _), (by decide : 13 + 0 ≤ _)⟩)
    dsimp only [Pt.U, Pt.locs, Pt.cells, Pt.slots] at X14 l14 y14 z14 st14 hQ14
    subst l14 y14 z14
    obtain ⟨rfl, N14q, e14⟩ := hQ14
    have N14 := Fr.app N12 N14q
    refine own_goT (T' := T14) (g' := (mkF m 204 #[.val (.int xa), .val (.int xb), .val (.int xd), .val (.int xm), .val (.int (xm &&& (3 : Int32))), .val (.int ((xa &&& (2147483647 : Int32)) % (6 : Int32))), .val (.int ((xb &&& (2147483647 : Int32)) % (6 : Int32))), .val (.int ((xd &&& (2147483647 : Int32)) % (6 : Int32))), .val (.ref ra), .val (.ref rb), .val (.ref rd), .val (.ref bo)] [(.long (cs.getD (4 : Int32).toNatClampNeg 0))])) st14 ?_
    refine own_go (T' := T14) (g' := (mkF m 205 #[.val (.int xa), .val (.int xb), .val (.int xd), .val (.int xm), .val (.int (xm &&& (3 : Int32))), .val (.int ((xa &&& (2147483647 : Int32)) % (6 : Int32))), .val (.int ((xb &&& (2147483647 : Int32)) % (6 : Int32))), .val (.int ((xd &&& (2147483647 : Int32)) % (6 : Int32))), .val (.ref ra), .val (.ref rb), .val (.ref rd), .val (.ref bo)] [(.int (4 : Int32)), (.long (cs.getD (4 : Int32).toNatClampNeg 0))])) (fun _ k => XS.iconst X14.here hx rfl (hb hby at_204) k) ?_
    refine own_go (T' := T14) (g' := (mkF m 207 #[.val (.int xa), .val (.int xb), .val (.int xd), .val (.int xm), .val (.int (xm &&& (3 : Int32))), .val (.int ((xa &&& (2147483647 : Int32)) % (6 : Int32))), .val (.int ((xb &&& (2147483647 : Int32)) % (6 : Int32))), .val (.int ((xd &&& (2147483647 : Int32)) % (6 : Int32))), .val (.ref ra), .val (.ref rb), .val (.ref rd), .val (.ref bo)] [(.int (xm &&& (3 : Int32))), (.int (4 : Int32)), (.long (cs.getD (4 : Int32).toNatClampNeg 0))])) (fun _ k => XS.iload X14.here hx rfl (hb hby at_205) rfl k) ?_
    refine own_go (T' := T14) (g' := (mkF m 209 #[.val (.int xa), .val (.int xb), .val (.int xd), .val (.int xm), .val (.int (xm &&& (3 : Int32))), .val (.int ((xa &&& (2147483647 : Int32)) % (6 : Int32))), .val (.int ((xb &&& (2147483647 : Int32)) % (6 : Int32))), .val (.int ((xd &&& (2147483647 : Int32)) % (6 : Int32))), .val (.ref ra), .val (.ref rb), .val (.ref rd), .val (.ref bo)] [(.int ((xa &&& (2147483647 : Int32)) % (6 : Int32))), (.int (xm &&& (3 : Int32))), (.int (4 : Int32)), (.long (cs.getD (4 : Int32).toNatClampNeg 0))])) (fun _ k => XS.iload X14.here hx rfl (hb hby at_207) rfl k) ?_
    refine own_go (T' := T14) (g' := (mkF m 211 #[.val (.int xa), .val (.int xb), .val (.int xd), .val (.int xm), .val (.int (xm &&& (3 : Int32))), .val (.int ((xa &&& (2147483647 : Int32)) % (6 : Int32))), .val (.int ((xb &&& (2147483647 : Int32)) % (6 : Int32))), .val (.int ((xd &&& (2147483647 : Int32)) % (6 : Int32))), .val (.ref ra), .val (.ref rb), .val (.ref rd), .val (.ref bo)] [(.int ((xb &&& (2147483647 : Int32)) % (6 : Int32))), (.int ((xa &&& (2147483647 : Int32)) % (6 : Int32))), (.int (xm &&& (3 : Int32))), (.int (4 : Int32)), (.long (cs.getD (4 : Int32).toNatClampNeg 0))])) (fun _ k => XS.iload X14.here hx rfl (hb hby at_209) rfl k) ?_
    refine own_go (T' := T14) (g' := (mkF m 213 #[.val (.int xa), .val (.int xb), .val (.int xd), .val (.int xm), .val (.int (xm &&& (3 : Int32))), .val (.int ((xa &&& (2147483647 : Int32)) % (6 : Int32))), .val (.int ((xb &&& (2147483647 : Int32)) % (6 : Int32))), .val (.int ((xd &&& (2147483647 : Int32)) % (6 : Int32))), .val (.ref ra), .val (.ref rb), .val (.ref rd), .val (.ref bo)] [(.int ((xd &&& (2147483647 : Int32)) % (6 : Int32))), (.int ((xb &&& (2147483647 : Int32)) % (6 : Int32))), (.int ((xa &&& (2147483647 : Int32)) % (6 : Int32))), (.int (xm &&& (3 : Int32))), (.int (4 : Int32)), (.long (cs.getD (4 : Int32).toNatClampNeg 0))])) (fun _ k => XS.iload X14.here hx rfl (hb hby at_211) rfl k) ?_
    obtain ⟨_, _, ⟨T15, L15, k15, n15⟩, -, X15, ⟨Lc15, hQ15, l15, y15, z15⟩, st15⟩ := Jvm.LawKit.callS X14 hx (y := (⟨"com/example/leased/leased/CountsStepPinLaw", "expect", "(IIIII)J"⟩ : MethodName)) hown (mvT hZ (hw _ (List.mem_of_getElem? (i := 64) rfl))) (mvT hZ (hw _ (List.mem_of_getElem? (i := 65) rfl))) (mvT hZ (hw _ (List.mem_of_getElem? (i := 3) rfl))) (mvT hZ (hw _ (List.mem_of_getElem? (i := 66) rfl))) (by decide) (backOf (W := 2) (own_rX l Z a0 hw [] (4 : Int32) (xm &&& (3 : Int32)) ((xa &&& (2147483647 : Int32)) % (6 : Int32)) ((xb &&& (2147483647 : Int32)) % (6 : Int32)) ((xd &&& (2147483647 : Int32)) % (6 : Int32)) ht n0 zt ) hZ (hw _ (List.mem_of_getElem? (i := 66) rfl)) (hw _ (List.mem_of_getElem? (i := 3) rfl)) (by decide) (by decide)) (g := (mkF m 213 #[.val (.int xa), .val (.int xb), .val (.int xd), .val (.int xm), .val (.int (xm &&& (3 : Int32))), .val (.int ((xa &&& (2147483647 : Int32)) % (6 : Int32))), .val (.int ((xb &&& (2147483647 : Int32)) % (6 : Int32))), .val (.int ((xd &&& (2147483647 : Int32)) % (6 : Int32))), .val (.ref ra), .val (.ref rb), .val (.ref rd), .val (.ref bo)] [(.int ((xd &&& (2147483647 : Int32)) % (6 : Int32))), (.int ((xb &&& (2147483647 : Int32)) % (6 : Int32))), (.int ((xa &&& (2147483647 : Int32)) % (6 : Int32))), (.int (xm &&& (3 : Int32))), (.int (4 : Int32)), (.long (cs.getD (4 : Int32).toNatClampNeg 0))])) rfl (by rw [hml]; rfl) (argsL := [(.int (4 : Int32)), (.int (xm &&& (3 : Int32))), (.int ((xa &&& (2147483647 : Int32)) % (6 : Int32))), (.int ((xb &&& (2147483647 : Int32)) % (6 : Int32))), (.int ((xd &&& (2147483647 : Int32)) % (6 : Int32)))]) (rest := [(.long (cs.getD (4 : Int32).toNatClampNeg 0))]) (lenOf own_pd4 rfl) rfl (by show 2 * 0 + _ ≤ _; exact Nat.le_of_eq rfl) (hb hby at_213) (fun _ _ => ⟨rfl, e14, (by decide : 3 + 0 ≤ _), (by decide : 13 + 0 ≤ _)⟩)
    dsimp only [Pt.U, Pt.locs, Pt.cells, Pt.slots] at X15 l15 y15 z15 st15 hQ15
    subst l15 y15 z15
    obtain ⟨rfl, N15q, e15⟩ := hQ15
    have N15 := Fr.app N14 N15q
    refine own_go (T' := T15) (g' := (mkF m 216 #[.val (.int xa), .val (.int xb), .val (.int xd), .val (.int xm), .val (.int (xm &&& (3 : Int32))), .val (.int ((xa &&& (2147483647 : Int32)) % (6 : Int32))), .val (.int ((xb &&& (2147483647 : Int32)) % (6 : Int32))), .val (.int ((xd &&& (2147483647 : Int32)) % (6 : Int32))), .val (.ref ra), .val (.ref rb), .val (.ref rd), .val (.ref bo)] [(.long (own_exp (4 : Int32) (xm &&& (3 : Int32)) ((xa &&& (2147483647 : Int32)) % (6 : Int32)) ((xb &&& (2147483647 : Int32)) % (6 : Int32)) ((xd &&& (2147483647 : Int32)) % (6 : Int32)))), (.long (cs.getD (4 : Int32).toNatClampNeg 0))])) (fun _ k => st15 _ k) ?_
    refine own_go (T' := T15) (g' := (mkF m 217 #[.val (.int xa), .val (.int xb), .val (.int xd), .val (.int xm), .val (.int (xm &&& (3 : Int32))), .val (.int ((xa &&& (2147483647 : Int32)) % (6 : Int32))), .val (.int ((xb &&& (2147483647 : Int32)) % (6 : Int32))), .val (.int ((xd &&& (2147483647 : Int32)) % (6 : Int32))), .val (.ref ra), .val (.ref rb), .val (.ref rd), .val (.ref bo)] [(.int (lcmpW (cs.getD (4 : Int32).toNatClampNeg 0) (own_exp (4 : Int32) (xm &&& (3 : Int32)) ((xa &&& (2147483647 : Int32)) % (6 : Int32)) ((xb &&& (2147483647 : Int32)) % (6 : Int32)) ((xd &&& (2147483647 : Int32)) % (6 : Int32)))))])) (fun _ k => XS.lcmp X15.here hx rfl (hb hby at_216) rfl k) ?_
    refine own_go (T' := T15) (g' := (mkF m 220 #[.val (.int xa), .val (.int xb), .val (.int xd), .val (.int xm), .val (.int (xm &&& (3 : Int32))), .val (.int ((xa &&& (2147483647 : Int32)) % (6 : Int32))), .val (.int ((xb &&& (2147483647 : Int32)) % (6 : Int32))), .val (.int ((xd &&& (2147483647 : Int32)) % (6 : Int32))), .val (.ref ra), .val (.ref rb), .val (.ref rd), .val (.ref bo)] [])) (fun _ k => XS.ifNo X15.here hx rfl (hb hby at_217) rfl ((if0 _ _).trans (teq ((own_eq_t ((hI (4 : Int32) (by decide) (by decide)))) : (lcmpW (cs.getD (4 : Int32).toNatClampNeg 0) (own_exp (4 : Int32) (xm &&& (3 : Int32)) ((xa &&& (2147483647 : Int32)) % (6 : Int32)) ((xb &&& (2147483647 : Int32)) % (6 : Int32)) ((xd &&& (2147483647 : Int32)) % (6 : Int32)))) = (0 : Int32))).2) k) ?_
    refine own_go (T' := T15) (g' := (mkF m 222 #[.val (.int xa), .val (.int xb), .val (.int xd), .val (.int xm), .val (.int (xm &&& (3 : Int32))), .val (.int ((xa &&& (2147483647 : Int32)) % (6 : Int32))), .val (.int ((xb &&& (2147483647 : Int32)) % (6 : Int32))), .val (.int ((xd &&& (2147483647 : Int32)) % (6 : Int32))), .val (.ref ra), .val (.ref rb), .val (.ref rd), .val (.ref bo)] [(.ref bo)])) (fun _ k => XS.aload X15.here hx rfl (hb hby at_220) rfl rfl k) ?_
    obtain ⟨T16, X16, e16, st16⟩ := getS X15 hx hZ (host := "") hown (hw _ (List.mem_of_getElem? (i := 69) rfl)) Via.refl e15 (S_RELEASES.ext ot) (g := (mkF m 222 #[.val (.int xa), .val (.int xb), .val (.int xd), .val (.int xm), .val (.int (xm &&& (3 : Int32))), .val (.int ((xa &&& (2147483647 : Int32)) % (6 : Int32))), .val (.int ((xb &&& (2147483647 : Int32)) % (6 : Int32))), .val (.int ((xd &&& (2147483647 : Int32)) % (6 : Int32))), .val (.ref ra), .val (.ref rb), .val (.ref rd), .val (.ref bo)] [(.ref bo)])) rfl (hb hby at_222)
    refine own_go (T' := T16) (g' := (mkF m 225 #[.val (.int xa), .val (.int xb), .val (.int xd), .val (.int xm), .val (.int (xm &&& (3 : Int32))), .val (.int ((xa &&& (2147483647 : Int32)) % (6 : Int32))), .val (.int ((xb &&& (2147483647 : Int32)) % (6 : Int32))), .val (.int ((xd &&& (2147483647 : Int32)) % (6 : Int32))), .val (.ref ra), .val (.ref rb), .val (.ref rd), .val (.ref bo)] [(.ref a_RELEASES), (.ref bo)])) (fun _ k => st16 _ k) ?_
    obtain ⟨cq17, kq17, q17a, q17b, q17c⟩ := isOf hZ e16 eb
    obtain ⟨_, _, ⟨T17, L17, k17, n17⟩, -, X17, ⟨Lc17, hQ17, l17, y17, z17⟩, st17⟩ := X16.virtualBack hx (y := (⟨"com/example/leased/leased/ElectorStatus$Counts", "get", "(Lcom/example/leased/leased/ElectorStatus$Count;)J"⟩ : MethodName)) (z := (⟨"com/example/leased/leased/ElectorStatus$Counts", "get", "(Lcom/example/leased/leased/ElectorStatus$Count;)J"⟩ : MethodName)) hown (mvT hZ (hw _ (List.mem_of_getElem? (i := 59) rfl))) (mvT hZ (hw _ (List.mem_of_getElem? (i := 60) rfl))) (notFace_of_selects (args := #[]) (mvT hZ (hw _ (List.mem_of_getElem? (i := 62) rfl)))) (mvT hZ (hw _ (List.mem_of_getElem? (i := 62) rfl))) (mvT hZ (hw _ (List.mem_of_getElem? (i := 61) rfl))) (by decide) (backOf (W := 0) (own_rG l Z a0 hw [] bo a_RELEASES xt kt cs (5 : Int32) ht n0 zt fb vt (E_RELEASES.ext ot) (F_RELEASES_ordinal.ext ot) (by decide) (by rw [hlen]; decide)) hZ (hw _ (List.mem_of_getElem? (i := 63) rfl)) (hw _ (List.mem_of_getElem? (i := 14) rfl)) (by decide) (by decide)) q17a q17c (g := (mkF m 225 #[.val (.int xa), .val (.int xb), .val (.int xd), .val (.int xm), .val (.int (xm &&& (3 : Int32))), .val (.int ((xa &&& (2147483647 : Int32)) % (6 : Int32))), .val (.int ((xb &&& (2147483647 : Int32)) % (6 : Int32))), .val (.int ((xd &&& (2147483647 : Int32)) % (6 : Int32))), .val (.ref ra), .val (.ref rb), .val (.ref rd), .val (.ref bo)] [(.ref a_RELEASES), (.ref bo)])) rfl (by rw [hml]; rfl) (Steps.refl _) (argsL := [(.ref a_RELEASES)]) (rest := []) (lenOf own_pd3 rfl) rfl (by show 2 * 0 + _ ≤ _; exact Nat.le_of_eq rfl) (hb hby at_225) (fun _ _ => ⟨rfl, e16, (by decide : 3 + 0 ≤ _), (by decide : 13 + 0 ≤ _)⟩)
    dsimp only [Pt.U, Pt.locs, Pt.cells, Pt.slots] at X17 l17 y17 z17 st17 hQ17
    subst l17 y17 z17
    obtain ⟨rfl, N17q, e17⟩ := hQ17
    have N17 := Fr.app N15 N17q
    refine own_goT (T' := T17) (g' := (mkF m 228 #[.val (.int xa), .val (.int xb), .val (.int xd), .val (.int xm), .val (.int (xm &&& (3 : Int32))), .val (.int ((xa &&& (2147483647 : Int32)) % (6 : Int32))), .val (.int ((xb &&& (2147483647 : Int32)) % (6 : Int32))), .val (.int ((xd &&& (2147483647 : Int32)) % (6 : Int32))), .val (.ref ra), .val (.ref rb), .val (.ref rd), .val (.ref bo)] [(.long (cs.getD (5 : Int32).toNatClampNeg 0))])) st17 ?_
    refine own_go (T' := T17) (g' := (mkF m 229 #[.val (.int xa), .val (.int xb), .val (.int xd), .val (.int xm), .val (.int (xm &&& (3 : Int32))), .val (.int ((xa &&& (2147483647 : Int32)) % (6 : Int32))), .val (.int ((xb &&& (2147483647 : Int32)) % (6 : Int32))), .val (.int ((xd &&& (2147483647 : Int32)) % (6 : Int32))), .val (.ref ra), .val (.ref rb), .val (.ref rd), .val (.ref bo)] [(.int (5 : Int32)), (.long (cs.getD (5 : Int32).toNatClampNeg 0))])) (fun _ k => XS.iconst X17.here hx rfl (hb hby at_228) k) ?_
    refine own_go (T' := T17) (g' := (mkF m 231 #[.val (.int xa), .val (.int xb), .val (.int xd), .val (.int xm), .val (.int (xm &&& (3 : Int32))), .val (.int ((xa &&& (2147483647 : Int32)) % (6 : Int32))), .val (.int ((xb &&& (2147483647 : Int32)) % (6 : Int32))), .val (.int ((xd &&& (2147483647 : Int32)) % (6 : Int32))), .val (.ref ra), .val (.ref rb), .val (.ref rd), .val (.ref bo)] [(.int (xm &&& (3 : Int32))), (.int (5 : Int32)), (.long (cs.getD (5 : Int32).toNatClampNeg 0))])) (fun _ k => XS.iload X17.here hx rfl (hb hby at_229) rfl k) ?_
    refine own_go (T' := T17) (g' := (mkF m 233 #[.val (.int xa), .val (.int xb), .val (.int xd), .val (.int xm), .val (.int (xm &&& (3 : Int32))), .val (.int ((xa &&& (2147483647 : Int32)) % (6 : Int32))), .val (.int ((xb &&& (2147483647 : Int32)) % (6 : Int32))), .val (.int ((xd &&& (2147483647 : Int32)) % (6 : Int32))), .val (.ref ra), .val (.ref rb), .val (.ref rd), .val (.ref bo)] [(.int ((xa &&& (2147483647 : Int32)) % (6 : Int32))), (.int (xm &&& (3 : Int32))), (.int (5 : Int32)), (.long (cs.getD (5 : Int32).toNatClampNeg 0))])) (fun _ k => XS.iload X17.here hx rfl (hb hby at_231) rfl k) ?_
    refine own_go (T' := T17) (g' := (mkF m 235 #[.val (.int xa), .val (.int xb), .val (.int xd), .val (.int xm), .val (.int (xm &&& (3 : Int32))), .val (.int ((xa &&& (2147483647 : Int32)) % (6 : Int32))), .val (.int ((xb &&& (2147483647 : Int32)) % (6 : Int32))), .val (.int ((xd &&& (2147483647 : Int32)) % (6 : Int32))), .val (.ref ra), .val (.ref rb), .val (.ref rd), .val (.ref bo)] [(.int ((xb &&& (2147483647 : Int32)) % (6 : Int32))), (.int ((xa &&& (2147483647 : Int32)) % (6 : Int32))), (.int (xm &&& (3 : Int32))), (.int (5 : Int32)), (.long (cs.getD (5 : Int32).toNatClampNeg 0))])) (fun _ k => XS.iload X17.here hx rfl (hb hby at_233) rfl k) ?_
    refine own_go (T' := T17) (g' := (mkF m 237 #[.val (.int xa), .val (.int xb), .val (.int xd), .val (.int xm), .val (.int (xm &&& (3 : Int32))), .val (.int ((xa &&& (2147483647 : Int32)) % (6 : Int32))), .val (.int ((xb &&& (2147483647 : Int32)) % (6 : Int32))), .val (.int ((xd &&& (2147483647 : Int32)) % (6 : Int32))), .val (.ref ra), .val (.ref rb), .val (.ref rd), .val (.ref bo)] [(.int ((xd &&& (2147483647 : Int32)) % (6 : Int32))), (.int ((xb &&& (2147483647 : Int32)) % (6 : Int32))), (.int ((xa &&& (2147483647 : Int32)) % (6 : Int32))), (.int (xm &&& (3 : Int32))), (.int (5 : Int32)), (.long (cs.getD (5 : Int32).toNatClampNeg 0))])) (fun _ k => XS.iload X17.here hx rfl (hb hby at_235) rfl k) ?_
    obtain ⟨_, _, ⟨T18, L18, k18, n18⟩, -, X18, ⟨Lc18, hQ18, l18, y18, z18⟩, st18⟩ := Jvm.LawKit.callS X17 hx (y := (⟨"com/example/leased/leased/CountsStepPinLaw", "expect", "(IIIII)J"⟩ : MethodName)) hown (mvT hZ (hw _ (List.mem_of_getElem? (i := 64) rfl))) (mvT hZ (hw _ (List.mem_of_getElem? (i := 65) rfl))) (mvT hZ (hw _ (List.mem_of_getElem? (i := 3) rfl))) (mvT hZ (hw _ (List.mem_of_getElem? (i := 66) rfl))) (by decide) (backOf (W := 2) (own_rX l Z a0 hw [] (5 : Int32) (xm &&& (3 : Int32)) ((xa &&& (2147483647 : Int32)) % (6 : Int32)) ((xb &&& (2147483647 : Int32)) % (6 : Int32)) ((xd &&& (2147483647 : Int32)) % (6 : Int32)) ht n0 zt ) hZ (hw _ (List.mem_of_getElem? (i := 66) rfl)) (hw _ (List.mem_of_getElem? (i := 3) rfl)) (by decide) (by decide)) (g := (mkF m 237 #[.val (.int xa), .val (.int xb), .val (.int xd), .val (.int xm), .val (.int (xm &&& (3 : Int32))), .val (.int ((xa &&& (2147483647 : Int32)) % (6 : Int32))), .val (.int ((xb &&& (2147483647 : Int32)) % (6 : Int32))), .val (.int ((xd &&& (2147483647 : Int32)) % (6 : Int32))), .val (.ref ra), .val (.ref rb), .val (.ref rd), .val (.ref bo)] [(.int ((xd &&& (2147483647 : Int32)) % (6 : Int32))), (.int ((xb &&& (2147483647 : Int32)) % (6 : Int32))), (.int ((xa &&& (2147483647 : Int32)) % (6 : Int32))), (.int (xm &&& (3 : Int32))), (.int (5 : Int32)), (.long (cs.getD (5 : Int32).toNatClampNeg 0))])) rfl (by rw [hml]; rfl) (argsL := [(.int (5 : Int32)), (.int (xm &&& (3 : Int32))), (.int ((xa &&& (2147483647 : Int32)) % (6 : Int32))), (.int ((xb &&& (2147483647 : Int32)) % (6 : Int32))), (.int ((xd &&& (2147483647 : Int32)) % (6 : Int32)))]) (rest := [(.long (cs.getD (5 : Int32).toNatClampNeg 0))]) (lenOf own_pd4 rfl) rfl (by show 2 * 0 + _ ≤ _; exact Nat.le_of_eq rfl) (hb hby at_237) (fun _ _ => ⟨rfl, e17, (by decide : 3 + 0 ≤ _), (by decide : 13 + 0 ≤ _)⟩)
    dsimp only [Pt.U, Pt.locs, Pt.cells, Pt.slots] at X18 l18 y18 z18 st18 hQ18
    subst l18 y18 z18
    obtain ⟨rfl, N18q, e18⟩ := hQ18
    have N18 := Fr.app N17 N18q
    refine own_go (T' := T18) (g' := (mkF m 240 #[.val (.int xa), .val (.int xb), .val (.int xd), .val (.int xm), .val (.int (xm &&& (3 : Int32))), .val (.int ((xa &&& (2147483647 : Int32)) % (6 : Int32))), .val (.int ((xb &&& (2147483647 : Int32)) % (6 : Int32))), .val (.int ((xd &&& (2147483647 : Int32)) % (6 : Int32))), .val (.ref ra), .val (.ref rb), .val (.ref rd), .val (.ref bo)] [(.long (own_exp (5 : Int32) (xm &&& (3 : Int32)) ((xa &&& (2147483647 : Int32)) % (6 : Int32)) ((xb &&& (2147483647 : Int32)) % (6 : Int32)) ((xd &&& (2147483647 : Int32)) % (6 : Int32)))), (.long (cs.getD (5 : Int32).toNatClampNeg 0))])) (fun _ k => st18 _ k) ?_
    refine own_go (T' := T18) (g' := (mkF m 241 #[.val (.int xa), .val (.int xb), .val (.int xd), .val (.int xm), .val (.int (xm &&& (3 : Int32))), .val (.int ((xa &&& (2147483647 : Int32)) % (6 : Int32))), .val (.int ((xb &&& (2147483647 : Int32)) % (6 : Int32))), .val (.int ((xd &&& (2147483647 : Int32)) % (6 : Int32))), .val (.ref ra), .val (.ref rb), .val (.ref rd), .val (.ref bo)] [(.int (lcmpW (cs.getD (5 : Int32).toNatClampNeg 0) (own_exp (5 : Int32) (xm &&& (3 : Int32)) ((xa &&& (2147483647 : Int32)) % (6 : Int32)) ((xb &&& (2147483647 : Int32)) % (6 : Int32)) ((xd &&& (2147483647 : Int32)) % (6 : Int32)))))])) (fun _ k => XS.lcmp X18.here hx rfl (hb hby at_240) rfl k) ?_
    refine own_go (T' := T18) (g' := (mkF m 244 #[.val (.int xa), .val (.int xb), .val (.int xd), .val (.int xm), .val (.int (xm &&& (3 : Int32))), .val (.int ((xa &&& (2147483647 : Int32)) % (6 : Int32))), .val (.int ((xb &&& (2147483647 : Int32)) % (6 : Int32))), .val (.int ((xd &&& (2147483647 : Int32)) % (6 : Int32))), .val (.ref ra), .val (.ref rb), .val (.ref rd), .val (.ref bo)] [])) (fun _ k => XS.ifNo X18.here hx rfl (hb hby at_241) rfl ((if0 _ _).trans (teq ((own_eq_t ((hI (5 : Int32) (by decide) (by decide)))) : (lcmpW (cs.getD (5 : Int32).toNatClampNeg 0) (own_exp (5 : Int32) (xm &&& (3 : Int32)) ((xa &&& (2147483647 : Int32)) % (6 : Int32)) ((xb &&& (2147483647 : Int32)) % (6 : Int32)) ((xd &&& (2147483647 : Int32)) % (6 : Int32)))) = (0 : Int32))).2) k) ?_
    refine own_go (T' := T18) (g' := (mkF m 245 #[.val (.int xa), .val (.int xb), .val (.int xd), .val (.int xm), .val (.int (xm &&& (3 : Int32))), .val (.int ((xa &&& (2147483647 : Int32)) % (6 : Int32))), .val (.int ((xb &&& (2147483647 : Int32)) % (6 : Int32))), .val (.int ((xd &&& (2147483647 : Int32)) % (6 : Int32))), .val (.ref ra), .val (.ref rb), .val (.ref rd), .val (.ref bo)] [(.int (1 : Int32))])) (fun _ k => XS.iconst X18.here hx rfl (hb hby at_244) k) ?_
    refine own_go (T' := T18) (g' := (mkF m 249 #[.val (.int xa), .val (.int xb), .val (.int xd), .val (.int xm), .val (.int (xm &&& (3 : Int32))), .val (.int ((xa &&& (2147483647 : Int32)) % (6 : Int32))), .val (.int ((xb &&& (2147483647 : Int32)) % (6 : Int32))), .val (.int ((xd &&& (2147483647 : Int32)) % (6 : Int32))), .val (.ref ra), .val (.ref rb), .val (.ref rd), .val (.ref bo)] [(.int (1 : Int32))])) (fun _ k => XS.goto X18.here hx rfl (pc0 := 245) (pc' := 249) rfl (hb hby at_245) (by decide) (by decide) k) ?_
    obtain ⟨fs, hr, hrun, hended, hW, hsame⟩ := X18.leave (v := some (.int (1 : Int32))) (fun h => by rw [Bd.returns] at h; cases h)
    refine own_end (retN X18 hx (t := .boolean) Bd.returns (by simp) (hb hby at_249) hr) hrun hended ⟨_, _, rfl, (?_ : own_QL Z xa xb xd xm a_ACQUISITIONS a_RENEWALS_FAILED a_RENEWALS a__VALUES a_EXPIRED_TAKEOVERS a_HOLDINGS_LOST a_RELEASES k__VALUES h0 n0 _ T18.heap _), ⟨_, rfl⟩, hW, hsame.mono (by decide) (by decide)⟩
    rw [e18]
    exact ⟨rfl, N18⟩
  have tail87 : ∀ (ht : Heap) (bo : Addr) (xt : Addr) (kt : ClassId) (cs : List Int64) (Tt87 : State) (Lt87 : List Loc) (Xt87 : Stand p l e room_1 s m #[(.int xa), (.int xb), (.int xd), (.int xm)] below meth c Tt87 Lt87 3 13) (et87 : Tt87.heap = ht) (Nt87 : Fr n0 Lt87) (zt : n0 ≤ ht.size) (ot : Ext h0 ht) (kt0 : Keep h0 ht []) (eb : Exa Z ht bo "com/example/leased/leased/ElectorStatus$Counts") (fb : Fld Z ht bo "com/example/leased/leased/ElectorStatus$Counts" "values" "[J" (.ref xt)) (vt : own_A Z ht xt kt .long (cs.map Value.long)) (nbt : bo ≠ xt) (hz_xt : h0.size ≤ xt) (gt : n0 ≤ xt) (hlen : cs.length = 6) (hI : ∀ i : Int32, ¬ i < 0 → i.toNatClampNeg < 6 → cs.getD i.toNatClampNeg 0 = own_s (own_s 0 0 (xm &&& (3 : Int32)) ((xa &&& (2147483647 : Int32)) % (6 : Int32)) i) 1 (xm &&& (3 : Int32)) ((xb &&& (2147483647 : Int32)) % (6 : Int32)) i), own_F p e below (fun o U' => ∃ v L, o = .returned v ∧ own_QL Z xa xb xd xm a_ACQUISITIONS a_RENEWALS_FAILED a_RENEWALS a__VALUES a_EXPIRED_TAKEOVERS a_HOLDINGS_LOST a_RELEASES k__VALUES h0 n0 v U'.heap L ∧ FrameEnd s o U' L room_1.cells room_1.slots) Tt87 (mkF m 87 #[.val (.int xa), .val (.int xb), .val (.int xd), .val (.int xm), .val (.int (xm &&& (3 : Int32))), .val (.int ((xa &&& (2147483647 : Int32)) % (6 : Int32))), .val (.int ((xb &&& (2147483647 : Int32)) % (6 : Int32))), .val (.int ((xd &&& (2147483647 : Int32)) % (6 : Int32))), .val (.ref ra), .val (.ref rb), .val (.ref rd), .val (.ref bo)] []) := by
    intro ht bo xt kt cs Tt87 Lt87 Xt87 et87 Nt87 zt ot kt0 eb fb vt nbt hz_xt gt hlen hI
    refine own_go (T' := Tt87) (g' := (mkF m 89 #[.val (.int xa), .val (.int xb), .val (.int xd), .val (.int xm), .val (.int (xm &&& (3 : Int32))), .val (.int ((xa &&& (2147483647 : Int32)) % (6 : Int32))), .val (.int ((xb &&& (2147483647 : Int32)) % (6 : Int32))), .val (.int ((xd &&& (2147483647 : Int32)) % (6 : Int32))), .val (.ref ra), .val (.ref rb), .val (.ref rd), .val (.ref bo)] [(.int (xm &&& (3 : Int32)))])) (fun _ k => XS.iload Xt87.here hx rfl (hb hby at_87) rfl k) ?_
    refine own_go (T' := Tt87) (g' := (mkF m 90 #[.val (.int xa), .val (.int xb), .val (.int xd), .val (.int xm), .val (.int (xm &&& (3 : Int32))), .val (.int ((xa &&& (2147483647 : Int32)) % (6 : Int32))), .val (.int ((xb &&& (2147483647 : Int32)) % (6 : Int32))), .val (.int ((xd &&& (2147483647 : Int32)) % (6 : Int32))), .val (.ref ra), .val (.ref rb), .val (.ref rd), .val (.ref bo)] [(.int (2 : Int32)), (.int (xm &&& (3 : Int32)))])) (fun _ k => XS.iconst Xt87.here hx rfl (hb hby at_89) k) ?_
    by_cases hc90 : (2 : Int32) < (xm &&& (3 : Int32))
    · refine own_go (T' := Tt87) (g' := (mkF m 93 #[.val (.int xa), .val (.int xb), .val (.int xd), .val (.int xm), .val (.int (xm &&& (3 : Int32))), .val (.int ((xa &&& (2147483647 : Int32)) % (6 : Int32))), .val (.int ((xb &&& (2147483647 : Int32)) % (6 : Int32))), .val (.int ((xd &&& (2147483647 : Int32)) % (6 : Int32))), .val (.ref ra), .val (.ref rb), .val (.ref rd), .val (.ref bo)] [])) (fun _ k => XS.icmpNo Xt87.here hx rfl (hb hby at_90) rfl (tlt (hc90 : (2 : Int32) < (xm &&& (3 : Int32)))).2.2.2 k) ?_
      refine own_go (T' := Tt87) (g' := (mkF m 95 #[.val (.int xa), .val (.int xb), .val (.int xd), .val (.int xm), .val (.int (xm &&& (3 : Int32))), .val (.int ((xa &&& (2147483647 : Int32)) % (6 : Int32))), .val (.int ((xb &&& (2147483647 : Int32)) % (6 : Int32))), .val (.int ((xd &&& (2147483647 : Int32)) % (6 : Int32))), .val (.ref ra), .val (.ref rb), .val (.ref rd), .val (.ref bo)] [(.ref bo)])) (fun _ k => XS.aload Xt87.here hx rfl (hb hby at_93) rfl rfl k) ?_
      refine own_go (T' := Tt87) (g' := (mkF m 97 #[.val (.int xa), .val (.int xb), .val (.int xd), .val (.int xm), .val (.int (xm &&& (3 : Int32))), .val (.int ((xa &&& (2147483647 : Int32)) % (6 : Int32))), .val (.int ((xb &&& (2147483647 : Int32)) % (6 : Int32))), .val (.int ((xd &&& (2147483647 : Int32)) % (6 : Int32))), .val (.ref ra), .val (.ref rb), .val (.ref rd), .val (.ref bo)] [(.ref rd), (.ref bo)])) (fun _ k => XS.aload Xt87.here hx rfl (hb hby at_95) rfl rfl k) ?_
      obtain ⟨cq19, kq19, q19a, q19b, q19c⟩ := isOf hZ et87 eb
      obtain ⟨_, _, ⟨T19, L19, k19, n19⟩, -, X19, ⟨Lc19, hQ19, l19, y19, z19⟩, st19⟩ := Xt87.virtualBack hx (y := (⟨"com/example/leased/leased/ElectorStatus$Counts", "step", "(Lcom/example/leased/leased/ElectorStatus$Count;)V"⟩ : MethodName)) (z := (⟨"com/example/leased/leased/ElectorStatus$Counts", "step", "(Lcom/example/leased/leased/ElectorStatus$Count;)V"⟩ : MethodName)) hown (mvT hZ (hw _ (List.mem_of_getElem? (i := 45) rfl))) (mvT hZ (hw _ (List.mem_of_getElem? (i := 46) rfl))) (notFace_of_selects (args := #[]) (mvT hZ (hw _ (List.mem_of_getElem? (i := 48) rfl)))) (mvT hZ (hw _ (List.mem_of_getElem? (i := 48) rfl))) (mvT hZ (hw _ (List.mem_of_getElem? (i := 47) rfl))) (by decide) (backOf (W := 0) (own_rS l Z a0 hw [] bo rd xt kt cs ((xd &&& (2147483647 : Int32)) % (6 : Int32)) ht n0 zt fb vt (E_rd.ext ot) (F_rd.ext ot) nd (by rw [hlen]; exact ld) gt) hZ (hw _ (List.mem_of_getElem? (i := 49) rfl)) (hw _ (List.mem_of_getElem? (i := 14) rfl)) (by decide) (by decide)) q19a q19c (g := (mkF m 97 #[.val (.int xa), .val (.int xb), .val (.int xd), .val (.int xm), .val (.int (xm &&& (3 : Int32))), .val (.int ((xa &&& (2147483647 : Int32)) % (6 : Int32))), .val (.int ((xb &&& (2147483647 : Int32)) % (6 : Int32))), .val (.int ((xd &&& (2147483647 : Int32)) % (6 : Int32))), .val (.ref ra), .val (.ref rb), .val (.ref rd), .val (.ref bo)] [(.ref rd), (.ref bo)])) rfl (by rw [hml]; rfl) (Steps.refl _) (argsL := [(.ref rd)]) (rest := []) (lenOf own_pd5 rfl) rfl (by show 2 * 0 + _ ≤ _; exact Nat.le_of_eq rfl) (hb hby at_97) (fun _ _ => ⟨rfl, et87, (by decide : 3 + 0 ≤ _), (by decide : 13 + 0 ≤ _)⟩)
      dsimp only [Pt.U, Pt.locs, Pt.cells, Pt.slots] at X19 l19 y19 z19 st19 hQ19
      subst l19 y19 z19
      obtain ⟨rfl, N19q, Kc19, Vc19⟩ := hQ19
      have N19 := Fr.app Nt87 N19q
      have Ek20 := eb.keep Kc19
      have Fk21 := fb.keep Kc19 (own_one nbt)
      have Z19 : n0 ≤ T19.heap.size := Nat.le_trans zt Kc19.1
      have O19 : Ext h0 T19.heap := own_ext_keep ot Kc19 (own_all1 hz_xt)
      have K19 : Keep h0 T19.heap [] := kt0.trans Kc19 fun x hx => Or.inr ((own_all1 hz_xt) x hx)
      refine own_goT (T' := T19) (g' := (mkF m 100 #[.val (.int xa), .val (.int xb), .val (.int xd), .val (.int xm), .val (.int (xm &&& (3 : Int32))), .val (.int ((xa &&& (2147483647 : Int32)) % (6 : Int32))), .val (.int ((xb &&& (2147483647 : Int32)) % (6 : Int32))), .val (.int ((xd &&& (2147483647 : Int32)) % (6 : Int32))), .val (.ref ra), .val (.ref rb), .val (.ref rd), .val (.ref bo)] [])) st19 ?_
      exact tail100 T19.heap bo xt kt (own_inc cs ((xd &&& (2147483647 : Int32)) % (6 : Int32)).toNatClampNeg) T19 _ X19 rfl N19 Z19 O19 K19 Ek20 Fk21 Vc19 nbt hz_xt gt (own_inc_len hlen) (fun i p q => own_yes hlen  nd ld p q (hI i p q) hc90)
    · refine own_go (T' := Tt87) (g' := (mkF m 100 #[.val (.int xa), .val (.int xb), .val (.int xd), .val (.int xm), .val (.int (xm &&& (3 : Int32))), .val (.int ((xa &&& (2147483647 : Int32)) % (6 : Int32))), .val (.int ((xb &&& (2147483647 : Int32)) % (6 : Int32))), .val (.int ((xd &&& (2147483647 : Int32)) % (6 : Int32))), .val (.ref ra), .val (.ref rb), .val (.ref rd), .val (.ref bo)] [])) (fun _ k => XS.icmpYes Xt87.here hx rfl (pc0 := 90) (pc' := 100) rfl (hb hby at_90) rfl (flt (hc90 : ¬ ((2 : Int32) < (xm &&& (3 : Int32))))).2.2.2 (by decide) (by decide) k) ?_
      exact tail100 ht bo xt kt cs Tt87 _ Xt87 et87 Nt87 zt ot kt0 eb fb vt nbt hz_xt gt hlen (fun i p q => own_no (hI i p q) hc90)
  have tail74 : ∀ (ht : Heap) (bo : Addr) (xt : Addr) (kt : ClassId) (cs : List Int64) (Tt74 : State) (Lt74 : List Loc) (Xt74 : Stand p l e room_1 s m #[(.int xa), (.int xb), (.int xd), (.int xm)] below meth c Tt74 Lt74 3 13) (et74 : Tt74.heap = ht) (Nt74 : Fr n0 Lt74) (zt : n0 ≤ ht.size) (ot : Ext h0 ht) (kt0 : Keep h0 ht []) (eb : Exa Z ht bo "com/example/leased/leased/ElectorStatus$Counts") (fb : Fld Z ht bo "com/example/leased/leased/ElectorStatus$Counts" "values" "[J" (.ref xt)) (vt : own_A Z ht xt kt .long (cs.map Value.long)) (nbt : bo ≠ xt) (hz_xt : h0.size ≤ xt) (gt : n0 ≤ xt) (hlen : cs.length = 6) (hI : ∀ i : Int32, ¬ i < 0 → i.toNatClampNeg < 6 → cs.getD i.toNatClampNeg 0 = own_s 0 0 (xm &&& (3 : Int32)) ((xa &&& (2147483647 : Int32)) % (6 : Int32)) i), own_F p e below (fun o U' => ∃ v L, o = .returned v ∧ own_QL Z xa xb xd xm a_ACQUISITIONS a_RENEWALS_FAILED a_RENEWALS a__VALUES a_EXPIRED_TAKEOVERS a_HOLDINGS_LOST a_RELEASES k__VALUES h0 n0 v U'.heap L ∧ FrameEnd s o U' L room_1.cells room_1.slots) Tt74 (mkF m 74 #[.val (.int xa), .val (.int xb), .val (.int xd), .val (.int xm), .val (.int (xm &&& (3 : Int32))), .val (.int ((xa &&& (2147483647 : Int32)) % (6 : Int32))), .val (.int ((xb &&& (2147483647 : Int32)) % (6 : Int32))), .val (.int ((xd &&& (2147483647 : Int32)) % (6 : Int32))), .val (.ref ra), .val (.ref rb), .val (.ref rd), .val (.ref bo)] []) := by
    intro ht bo xt kt cs Tt74 Lt74 Xt74 et74 Nt74 zt ot kt0 eb fb vt nbt hz_xt gt hlen hI
    refine own_go (T' := Tt74) (g' := (mkF m 76 #[.val (.int xa), .val (.int xb), .val (.int xd), .val (.int xm), .val (.int (xm &&& (3 : Int32))), .val (.int ((xa &&& (2147483647 : Int32)) % (6 : Int32))), .val (.int ((xb &&& (2147483647 : Int32)) % (6 : Int32))), .val (.int ((xd &&& (2147483647 : Int32)) % (6 : Int32))), .val (.ref ra), .val (.ref rb), .val (.ref rd), .val (.ref bo)] [(.int (xm &&& (3 : Int32)))])) (fun _ k => XS.iload Xt74.here hx rfl (hb hby at_74) rfl k) ?_
    refine own_go (T' := Tt74) (g' := (mkF m 77 #[.val (.int xa), .val (.int xb), .val (.int xd), .val (.int xm), .val (.int (xm &&& (3 : Int32))), .val (.int ((xa &&& (2147483647 : Int32)) % (6 : Int32))), .val (.int ((xb &&& (2147483647 : Int32)) % (6 : Int32))), .val (.int ((xd &&& (2147483647 : Int32)) % (6 : Int32))), .val (.ref ra), .val (.ref rb), .val (.ref rd), .val (.ref bo)] [(.int (1 : Int32)), (.int (xm &&& (3 : Int32)))])) (fun _ k => XS.iconst Xt74.here hx rfl (hb hby at_76) k) ?_
    by_cases hc77 : (1 : Int32) < (xm &&& (3 : Int32))
    · refine own_go (T' := Tt74) (g' := (mkF m 80 #[.val (.int xa), .val (.int xb), .val (.int xd), .val (.int xm), .val (.int (xm &&& (3 : Int32))), .val (.int ((xa &&& (2147483647 : Int32)) % (6 : Int32))), .val (.int ((xb &&& (2147483647 : Int32)) % (6 : Int32))), .val (.int ((xd &&& (2147483647 : Int32)) % (6 : Int32))), .val (.ref ra), .val (.ref rb), .val (.ref rd), .val (.ref bo)] [])) (fun _ k => XS.icmpNo Xt74.here hx rfl (hb hby at_77) rfl (tlt (hc77 : (1 : Int32) < (xm &&& (3 : Int32)))).2.2.2 k) ?_
      refine own_go (T' := Tt74) (g' := (mkF m 82 #[.val (.int xa), .val (.int xb), .val (.int xd), .val (.int xm), .val (.int (xm &&& (3 : Int32))), .val (.int ((xa &&& (2147483647 : Int32)) % (6 : Int32))), .val (.int ((xb &&& (2147483647 : Int32)) % (6 : Int32))), .val (.int ((xd &&& (2147483647 : Int32)) % (6 : Int32))), .val (.ref ra), .val (.ref rb), .val (.ref rd), .val (.ref bo)] [(.ref bo)])) (fun _ k => XS.aload Xt74.here hx rfl (hb hby at_80) rfl rfl k) ?_
      refine own_go (T' := Tt74) (g' := (mkF m 84 #[.val (.int xa), .val (.int xb), .val (.int xd), .val (.int xm), .val (.int (xm &&& (3 : Int32))), .val (.int ((xa &&& (2147483647 : Int32)) % (6 : Int32))), .val (.int ((xb &&& (2147483647 : Int32)) % (6 : Int32))), .val (.int ((xd &&& (2147483647 : Int32)) % (6 : Int32))), .val (.ref ra), .val (.ref rb), .val (.ref rd), .val (.ref bo)] [(.ref rb), (.ref bo)])) (fun _ k => XS.aload Xt74.here hx rfl (hb hby at_82) rfl rfl k) ?_
      obtain ⟨cq22, kq22, q22a, q22b, q22c⟩ := isOf hZ et74 eb
      obtain ⟨_, _, ⟨T22, L22, k22, n22⟩, -, X22, ⟨Lc22, hQ22, l22, y22, z22⟩, st22⟩ := Xt74.virtualBack hx (y := (⟨"com/example/leased/leased/ElectorStatus$Counts", "step", "(Lcom/example/leased/leased/ElectorStatus$Count;)V"⟩ : MethodName)) (z := (⟨"com/example/leased/leased/ElectorStatus$Counts", "step", "(Lcom/example/leased/leased/ElectorStatus$Count;)V"⟩ : MethodName)) hown (mvT hZ (hw _ (List.mem_of_getElem? (i := 45) rfl))) (mvT hZ (hw _ (List.mem_of_getElem? (i := 46) rfl))) (notFace_of_selects (args := #[]) (mvT hZ (hw _ (List.mem_of_getElem? (i := 48) rfl)))) (mvT hZ (hw _ (List.mem_of_getElem? (i := 48) rfl))) (mvT hZ (hw _ (List.mem_of_getElem? (i := 47) rfl))) (by decide) (backOf (W := 0) (own_rS l Z a0 hw [] bo rb xt kt cs ((xb &&& (2147483647 : Int32)) % (6 : Int32)) ht n0 zt fb vt (E_rb.ext ot) (F_rb.ext ot) nb (by rw [hlen]; exact lb) gt) hZ (hw _ (List.mem_of_getElem? (i := 49) rfl)) (hw _ (List.mem_of_getElem? (i := 14) rfl)) (by decide) (by decide)) q22a q22c (g := (mkF m 84 #[.val (.int xa), .val (.int xb), .val (.int xd), .val (.int xm), .val (.int (xm &&& (3 : Int32))), .val (.int ((xa &&& (2147483647 : Int32)) % (6 : Int32))), .val (.int ((xb &&& (2147483647 : Int32)) % (6 : Int32))), .val (.int ((xd &&& (2147483647 : Int32)) % (6 : Int32))), .val (.ref ra), .val (.ref rb), .val (.ref rd), .val (.ref bo)] [(.ref rb), (.ref bo)])) rfl (by rw [hml]; rfl) (Steps.refl _) (argsL := [(.ref rb)]) (rest := []) (lenOf own_pd5 rfl) rfl (by show 2 * 0 + _ ≤ _; exact Nat.le_of_eq rfl) (hb hby at_84) (fun _ _ => ⟨rfl, et74, (by decide : 3 + 0 ≤ _), (by decide : 13 + 0 ≤ _)⟩)
      dsimp only [Pt.U, Pt.locs, Pt.cells, Pt.slots] at X22 l22 y22 z22 st22 hQ22
      subst l22 y22 z22
      obtain ⟨rfl, N22q, Kc22, Vc22⟩ := hQ22
      have N22 := Fr.app Nt74 N22q
      have Ek23 := eb.keep Kc22
      have Fk24 := fb.keep Kc22 (own_one nbt)
      have Z22 : n0 ≤ T22.heap.size := Nat.le_trans zt Kc22.1
      have O22 : Ext h0 T22.heap := own_ext_keep ot Kc22 (own_all1 hz_xt)
      have K22 : Keep h0 T22.heap [] := kt0.trans Kc22 fun x hx => Or.inr ((own_all1 hz_xt) x hx)
      refine own_goT (T' := T22) (g' := (mkF m 87 #[.val (.int xa), .val (.int xb), .val (.int xd), .val (.int xm), .val (.int (xm &&& (3 : Int32))), .val (.int ((xa &&& (2147483647 : Int32)) % (6 : Int32))), .val (.int ((xb &&& (2147483647 : Int32)) % (6 : Int32))), .val (.int ((xd &&& (2147483647 : Int32)) % (6 : Int32))), .val (.ref ra), .val (.ref rb), .val (.ref rd), .val (.ref bo)] [])) st22 ?_
      exact tail87 T22.heap bo xt kt (own_inc cs ((xb &&& (2147483647 : Int32)) % (6 : Int32)).toNatClampNeg) T22 _ X22 rfl N22 Z22 O22 K22 Ek23 Fk24 Vc22 nbt hz_xt gt (own_inc_len hlen) (fun i p q => own_yes hlen  nb lb p q (hI i p q) hc77)
    · refine own_go (T' := Tt74) (g' := (mkF m 87 #[.val (.int xa), .val (.int xb), .val (.int xd), .val (.int xm), .val (.int (xm &&& (3 : Int32))), .val (.int ((xa &&& (2147483647 : Int32)) % (6 : Int32))), .val (.int ((xb &&& (2147483647 : Int32)) % (6 : Int32))), .val (.int ((xd &&& (2147483647 : Int32)) % (6 : Int32))), .val (.ref ra), .val (.ref rb), .val (.ref rd), .val (.ref bo)] [])) (fun _ k => XS.icmpYes Xt74.here hx rfl (pc0 := 77) (pc' := 87) rfl (hb hby at_77) rfl (flt (hc77 : ¬ ((1 : Int32) < (xm &&& (3 : Int32))))).2.2.2 (by decide) (by decide) k) ?_
      exact tail87 ht bo xt kt cs Tt74 _ Xt74 et74 Nt74 zt ot kt0 eb fb vt nbt hz_xt gt hlen (fun i p q => own_no (hI i p q) hc77)
  refine own_go (T' := s₁) (g' := (mkF m 1 #[.val (.int xa), .val (.int xb), .val (.int xd), .val (.int xm), .unset, .unset, .unset, .unset, .unset, .unset, .unset, .unset] [(.int xm)])) (fun _ k => XS.iloadN X0.here hx rfl (hb hby at_0) rfl k) ?_
  refine own_go (T' := s₁) (g' := (mkF m 2 #[.val (.int xa), .val (.int xb), .val (.int xd), .val (.int xm), .unset, .unset, .unset, .unset, .unset, .unset, .unset, .unset] [(.int (3 : Int32)), (.int xm)])) (fun _ k => XS.iconst X0.here hx rfl (hb hby at_1) k) ?_
  refine own_go (T' := s₁) (g' := (mkF m 3 #[.val (.int xa), .val (.int xb), .val (.int xd), .val (.int xm), .unset, .unset, .unset, .unset, .unset, .unset, .unset, .unset] [(.int (xm &&& (3 : Int32)))])) (fun _ k => XS.iand X0.here hx rfl (hb hby at_2) rfl k) ?_
  refine own_go (T' := s₁) (g' := (mkF m 5 #[.val (.int xa), .val (.int xb), .val (.int xd), .val (.int xm), .val (.int (xm &&& (3 : Int32))), .unset, .unset, .unset, .unset, .unset, .unset, .unset] [])) (fun _ k => XS.istore X0.here hx rfl (hb hby at_3) rfl (l' := #[.val (.int xa), .val (.int xb), .val (.int xd), .val (.int xm), .val (.int (xm &&& (3 : Int32))), .unset, .unset, .unset, .unset, .unset, .unset, .unset]) rfl k) ?_
  refine own_go (T' := s₁) (g' := (mkF m 6 #[.val (.int xa), .val (.int xb), .val (.int xd), .val (.int xm), .val (.int (xm &&& (3 : Int32))), .unset, .unset, .unset, .unset, .unset, .unset, .unset] [(.int xa)])) (fun _ k => XS.iloadN X0.here hx rfl (hb hby at_5) rfl k) ?_
  refine own_go (T' := s₁) (g' := (mkF m 8 #[.val (.int xa), .val (.int xb), .val (.int xd), .val (.int xm), .val (.int (xm &&& (3 : Int32))), .unset, .unset, .unset, .unset, .unset, .unset, .unset] [(.int (2147483647 : Int32)), (.int xa)])) (fun _ k => X0.ldcInt hx hown (mvT hZ (hw _ (List.mem_of_getElem? (i := 0) rfl))) (g := (mkF m 6 #[.val (.int xa), .val (.int xb), .val (.int xd), .val (.int xm), .val (.int (xm &&& (3 : Int32))), .unset, .unset, .unset, .unset, .unset, .unset, .unset] [(.int xa)])) rfl (hb hby at_6) _ k) ?_
  refine own_go (T' := s₁) (g' := (mkF m 9 #[.val (.int xa), .val (.int xb), .val (.int xd), .val (.int xm), .val (.int (xm &&& (3 : Int32))), .unset, .unset, .unset, .unset, .unset, .unset, .unset] [(.int (xa &&& (2147483647 : Int32)))])) (fun _ k => XS.iand X0.here hx rfl (hb hby at_8) rfl k) ?_
  refine own_go (T' := s₁) (g' := (mkF m 11 #[.val (.int xa), .val (.int xb), .val (.int xd), .val (.int xm), .val (.int (xm &&& (3 : Int32))), .unset, .unset, .unset, .unset, .unset, .unset, .unset] [(.int (6 : Int32)), (.int (xa &&& (2147483647 : Int32)))])) (fun _ k => XS.bipush X0.here hx rfl (hb hby at_9) k) ?_
  refine own_go (T' := s₁) (g' := (mkF m 12 #[.val (.int xa), .val (.int xb), .val (.int xd), .val (.int xm), .val (.int (xm &&& (3 : Int32))), .unset, .unset, .unset, .unset, .unset, .unset, .unset] [(.int ((xa &&& (2147483647 : Int32)) % (6 : Int32)))])) (fun _ k => iremM X0 hx rfl (hb hby at_11) rfl (by decide) k) ?_
  refine own_go (T' := s₁) (g' := (mkF m 14 #[.val (.int xa), .val (.int xb), .val (.int xd), .val (.int xm), .val (.int (xm &&& (3 : Int32))), .val (.int ((xa &&& (2147483647 : Int32)) % (6 : Int32))), .unset, .unset, .unset, .unset, .unset, .unset] [])) (fun _ k => XS.istore X0.here hx rfl (hb hby at_12) rfl (l' := #[.val (.int xa), .val (.int xb), .val (.int xd), .val (.int xm), .val (.int (xm &&& (3 : Int32))), .val (.int ((xa &&& (2147483647 : Int32)) % (6 : Int32))), .unset, .unset, .unset, .unset, .unset, .unset]) rfl k) ?_
  refine own_go (T' := s₁) (g' := (mkF m 15 #[.val (.int xa), .val (.int xb), .val (.int xd), .val (.int xm), .val (.int (xm &&& (3 : Int32))), .val (.int ((xa &&& (2147483647 : Int32)) % (6 : Int32))), .unset, .unset, .unset, .unset, .unset, .unset] [(.int xb)])) (fun _ k => XS.iloadN X0.here hx rfl (hb hby at_14) rfl k) ?_
  refine own_go (T' := s₁) (g' := (mkF m 17 #[.val (.int xa), .val (.int xb), .val (.int xd), .val (.int xm), .val (.int (xm &&& (3 : Int32))), .val (.int ((xa &&& (2147483647 : Int32)) % (6 : Int32))), .unset, .unset, .unset, .unset, .unset, .unset] [(.int (2147483647 : Int32)), (.int xb)])) (fun _ k => X0.ldcInt hx hown (mvT hZ (hw _ (List.mem_of_getElem? (i := 0) rfl))) (g := (mkF m 15 #[.val (.int xa), .val (.int xb), .val (.int xd), .val (.int xm), .val (.int (xm &&& (3 : Int32))), .val (.int ((xa &&& (2147483647 : Int32)) % (6 : Int32))), .unset, .unset, .unset, .unset, .unset, .unset] [(.int xb)])) rfl (hb hby at_15) _ k) ?_
  refine own_go (T' := s₁) (g' := (mkF m 18 #[.val (.int xa), .val (.int xb), .val (.int xd), .val (.int xm), .val (.int (xm &&& (3 : Int32))), .val (.int ((xa &&& (2147483647 : Int32)) % (6 : Int32))), .unset, .unset, .unset, .unset, .unset, .unset] [(.int (xb &&& (2147483647 : Int32)))])) (fun _ k => XS.iand X0.here hx rfl (hb hby at_17) rfl k) ?_
  refine own_go (T' := s₁) (g' := (mkF m 20 #[.val (.int xa), .val (.int xb), .val (.int xd), .val (.int xm), .val (.int (xm &&& (3 : Int32))), .val (.int ((xa &&& (2147483647 : Int32)) % (6 : Int32))), .unset, .unset, .unset, .unset, .unset, .unset] [(.int (6 : Int32)), (.int (xb &&& (2147483647 : Int32)))])) (fun _ k => XS.bipush X0.here hx rfl (hb hby at_18) k) ?_
  refine own_go (T' := s₁) (g' := (mkF m 21 #[.val (.int xa), .val (.int xb), .val (.int xd), .val (.int xm), .val (.int (xm &&& (3 : Int32))), .val (.int ((xa &&& (2147483647 : Int32)) % (6 : Int32))), .unset, .unset, .unset, .unset, .unset, .unset] [(.int ((xb &&& (2147483647 : Int32)) % (6 : Int32)))])) (fun _ k => iremM X0 hx rfl (hb hby at_20) rfl (by decide) k) ?_
  refine own_go (T' := s₁) (g' := (mkF m 23 #[.val (.int xa), .val (.int xb), .val (.int xd), .val (.int xm), .val (.int (xm &&& (3 : Int32))), .val (.int ((xa &&& (2147483647 : Int32)) % (6 : Int32))), .val (.int ((xb &&& (2147483647 : Int32)) % (6 : Int32))), .unset, .unset, .unset, .unset, .unset] [])) (fun _ k => XS.istore X0.here hx rfl (hb hby at_21) rfl (l' := #[.val (.int xa), .val (.int xb), .val (.int xd), .val (.int xm), .val (.int (xm &&& (3 : Int32))), .val (.int ((xa &&& (2147483647 : Int32)) % (6 : Int32))), .val (.int ((xb &&& (2147483647 : Int32)) % (6 : Int32))), .unset, .unset, .unset, .unset, .unset]) rfl k) ?_
  refine own_go (T' := s₁) (g' := (mkF m 24 #[.val (.int xa), .val (.int xb), .val (.int xd), .val (.int xm), .val (.int (xm &&& (3 : Int32))), .val (.int ((xa &&& (2147483647 : Int32)) % (6 : Int32))), .val (.int ((xb &&& (2147483647 : Int32)) % (6 : Int32))), .unset, .unset, .unset, .unset, .unset] [(.int xd)])) (fun _ k => XS.iloadN X0.here hx rfl (hb hby at_23) rfl k) ?_
  refine own_go (T' := s₁) (g' := (mkF m 26 #[.val (.int xa), .val (.int xb), .val (.int xd), .val (.int xm), .val (.int (xm &&& (3 : Int32))), .val (.int ((xa &&& (2147483647 : Int32)) % (6 : Int32))), .val (.int ((xb &&& (2147483647 : Int32)) % (6 : Int32))), .unset, .unset, .unset, .unset, .unset] [(.int (2147483647 : Int32)), (.int xd)])) (fun _ k => X0.ldcInt hx hown (mvT hZ (hw _ (List.mem_of_getElem? (i := 0) rfl))) (g := (mkF m 24 #[.val (.int xa), .val (.int xb), .val (.int xd), .val (.int xm), .val (.int (xm &&& (3 : Int32))), .val (.int ((xa &&& (2147483647 : Int32)) % (6 : Int32))), .val (.int ((xb &&& (2147483647 : Int32)) % (6 : Int32))), .unset, .unset, .unset, .unset, .unset] [(.int xd)])) rfl (hb hby at_24) _ k) ?_
  refine own_go (T' := s₁) (g' := (mkF m 27 #[.val (.int xa), .val (.int xb), .val (.int xd), .val (.int xm), .val (.int (xm &&& (3 : Int32))), .val (.int ((xa &&& (2147483647 : Int32)) % (6 : Int32))), .val (.int ((xb &&& (2147483647 : Int32)) % (6 : Int32))), .unset, .unset, .unset, .unset, .unset] [(.int (xd &&& (2147483647 : Int32)))])) (fun _ k => XS.iand X0.here hx rfl (hb hby at_26) rfl k) ?_
  refine own_go (T' := s₁) (g' := (mkF m 29 #[.val (.int xa), .val (.int xb), .val (.int xd), .val (.int xm), .val (.int (xm &&& (3 : Int32))), .val (.int ((xa &&& (2147483647 : Int32)) % (6 : Int32))), .val (.int ((xb &&& (2147483647 : Int32)) % (6 : Int32))), .unset, .unset, .unset, .unset, .unset] [(.int (6 : Int32)), (.int (xd &&& (2147483647 : Int32)))])) (fun _ k => XS.bipush X0.here hx rfl (hb hby at_27) k) ?_
  refine own_go (T' := s₁) (g' := (mkF m 30 #[.val (.int xa), .val (.int xb), .val (.int xd), .val (.int xm), .val (.int (xm &&& (3 : Int32))), .val (.int ((xa &&& (2147483647 : Int32)) % (6 : Int32))), .val (.int ((xb &&& (2147483647 : Int32)) % (6 : Int32))), .unset, .unset, .unset, .unset, .unset] [(.int ((xd &&& (2147483647 : Int32)) % (6 : Int32)))])) (fun _ k => iremM X0 hx rfl (hb hby at_29) rfl (by decide) k) ?_
  refine own_go (T' := s₁) (g' := (mkF m 32 #[.val (.int xa), .val (.int xb), .val (.int xd), .val (.int xm), .val (.int (xm &&& (3 : Int32))), .val (.int ((xa &&& (2147483647 : Int32)) % (6 : Int32))), .val (.int ((xb &&& (2147483647 : Int32)) % (6 : Int32))), .val (.int ((xd &&& (2147483647 : Int32)) % (6 : Int32))), .unset, .unset, .unset, .unset] [])) (fun _ k => XS.istore X0.here hx rfl (hb hby at_30) rfl (l' := #[.val (.int xa), .val (.int xb), .val (.int xd), .val (.int xm), .val (.int (xm &&& (3 : Int32))), .val (.int ((xa &&& (2147483647 : Int32)) % (6 : Int32))), .val (.int ((xb &&& (2147483647 : Int32)) % (6 : Int32))), .val (.int ((xd &&& (2147483647 : Int32)) % (6 : Int32))), .unset, .unset, .unset, .unset]) rfl k) ?_
  refine own_go (T' := s₁) (g' := (mkF m 34 #[.val (.int xa), .val (.int xb), .val (.int xd), .val (.int xm), .val (.int (xm &&& (3 : Int32))), .val (.int ((xa &&& (2147483647 : Int32)) % (6 : Int32))), .val (.int ((xb &&& (2147483647 : Int32)) % (6 : Int32))), .val (.int ((xd &&& (2147483647 : Int32)) % (6 : Int32))), .unset, .unset, .unset, .unset] [(.int ((xa &&& (2147483647 : Int32)) % (6 : Int32)))])) (fun _ k => XS.iload X0.here hx rfl (hb hby at_32) rfl k) ?_
  obtain ⟨_, _, ⟨T25, L25, k25, n25⟩, -, X25, ⟨Lc25, hQ25, l25, y25, z25⟩, st25⟩ := Jvm.LawKit.callS X0 hx (y := (⟨"com/example/leased/leased/CountsStepPinLaw", "pick", "(I)Lcom/example/leased/leased/ElectorStatus$Count;"⟩ : MethodName)) hown (mvT hZ (hw _ (List.mem_of_getElem? (i := 1) rfl))) (mvT hZ (hw _ (List.mem_of_getElem? (i := 2) rfl))) (mvT hZ (hw _ (List.mem_of_getElem? (i := 3) rfl))) (mvT hZ (hw _ (List.mem_of_getElem? (i := 4) rfl))) (by decide) (backOf (W := 0) (own_rP l Z a0 hw [] ((xa &&& (2147483647 : Int32)) % (6 : Int32)) a_ACQUISITIONS a_EXPIRED_TAKEOVERS a_RENEWALS a_RENEWALS_FAILED a_HOLDINGS_LOST a_RELEASES ra h0 n0 Z0 S_ACQUISITIONS S_EXPIRED_TAKEOVERS S_RENEWALS S_RENEWALS_FAILED S_HOLDINGS_LOST S_RELEASES pa) hZ (hw _ (List.mem_of_getElem? (i := 4) rfl)) (hw _ (List.mem_of_getElem? (i := 3) rfl)) (by decide) (by decide)) (g := (mkF m 34 #[.val (.int xa), .val (.int xb), .val (.int xd), .val (.int xm), .val (.int (xm &&& (3 : Int32))), .val (.int ((xa &&& (2147483647 : Int32)) % (6 : Int32))), .val (.int ((xb &&& (2147483647 : Int32)) % (6 : Int32))), .val (.int ((xd &&& (2147483647 : Int32)) % (6 : Int32))), .unset, .unset, .unset, .unset] [(.int ((xa &&& (2147483647 : Int32)) % (6 : Int32)))])) rfl (by rw [hml]; rfl) (argsL := [(.int ((xa &&& (2147483647 : Int32)) % (6 : Int32)))]) (rest := []) (lenOf own_pd6 rfl) rfl (by show 2 * 0 + _ ≤ _; exact Nat.le_of_eq rfl) (hb hby at_34) (fun _ _ => ⟨rfl, e0, (by decide : 0 + 0 ≤ _), (by decide : 0 + 0 ≤ _)⟩)
  dsimp only [Pt.U, Pt.locs, Pt.cells, Pt.slots] at X25 l25 y25 z25 st25 hQ25
  subst l25 y25 z25
  obtain ⟨rfl, N25q, e25⟩ := hQ25
  have N25 := Fr.app N0 N25q
  refine own_go (T' := T25) (g' := (mkF m 37 #[.val (.int xa), .val (.int xb), .val (.int xd), .val (.int xm), .val (.int (xm &&& (3 : Int32))), .val (.int ((xa &&& (2147483647 : Int32)) % (6 : Int32))), .val (.int ((xb &&& (2147483647 : Int32)) % (6 : Int32))), .val (.int ((xd &&& (2147483647 : Int32)) % (6 : Int32))), .unset, .unset, .unset, .unset] [(.ref ra)])) (fun _ k => st25 _ k) ?_
  refine own_go (T' := T25) (g' := (mkF m 39 #[.val (.int xa), .val (.int xb), .val (.int xd), .val (.int xm), .val (.int (xm &&& (3 : Int32))), .val (.int ((xa &&& (2147483647 : Int32)) % (6 : Int32))), .val (.int ((xb &&& (2147483647 : Int32)) % (6 : Int32))), .val (.int ((xd &&& (2147483647 : Int32)) % (6 : Int32))), .val (.ref ra), .unset, .unset, .unset] [])) (fun _ k => XS.astore X25.here hx rfl (hb hby at_37) rfl rfl (l' := #[.val (.int xa), .val (.int xb), .val (.int xd), .val (.int xm), .val (.int (xm &&& (3 : Int32))), .val (.int ((xa &&& (2147483647 : Int32)) % (6 : Int32))), .val (.int ((xb &&& (2147483647 : Int32)) % (6 : Int32))), .val (.int ((xd &&& (2147483647 : Int32)) % (6 : Int32))), .val (.ref ra), .unset, .unset, .unset]) rfl k) ?_
  refine own_go (T' := T25) (g' := (mkF m 41 #[.val (.int xa), .val (.int xb), .val (.int xd), .val (.int xm), .val (.int (xm &&& (3 : Int32))), .val (.int ((xa &&& (2147483647 : Int32)) % (6 : Int32))), .val (.int ((xb &&& (2147483647 : Int32)) % (6 : Int32))), .val (.int ((xd &&& (2147483647 : Int32)) % (6 : Int32))), .val (.ref ra), .unset, .unset, .unset] [(.int ((xb &&& (2147483647 : Int32)) % (6 : Int32)))])) (fun _ k => XS.iload X25.here hx rfl (hb hby at_39) rfl k) ?_
  obtain ⟨_, _, ⟨T26, L26, k26, n26⟩, -, X26, ⟨Lc26, hQ26, l26, y26, z26⟩, st26⟩ := Jvm.LawKit.callS X25 hx (y := (⟨"com/example/leased/leased/CountsStepPinLaw", "pick", "(I)Lcom/example/leased/leased/ElectorStatus$Count;"⟩ : MethodName)) hown (mvT hZ (hw _ (List.mem_of_getElem? (i := 1) rfl))) (mvT hZ (hw _ (List.mem_of_getElem? (i := 2) rfl))) (mvT hZ (hw _ (List.mem_of_getElem? (i := 3) rfl))) (mvT hZ (hw _ (List.mem_of_getElem? (i := 4) rfl))) (by decide) (backOf (W := 0) (own_rP l Z a0 hw [] ((xb &&& (2147483647 : Int32)) % (6 : Int32)) a_ACQUISITIONS a_EXPIRED_TAKEOVERS a_RENEWALS a_RENEWALS_FAILED a_HOLDINGS_LOST a_RELEASES rb h0 n0 Z0 S_ACQUISITIONS S_EXPIRED_TAKEOVERS S_RENEWALS S_RENEWALS_FAILED S_HOLDINGS_LOST S_RELEASES pb) hZ (hw _ (List.mem_of_getElem? (i := 4) rfl)) (hw _ (List.mem_of_getElem? (i := 3) rfl)) (by decide) (by decide)) (g := (mkF m 41 #[.val (.int xa), .val (.int xb), .val (.int xd), .val (.int xm), .val (.int (xm &&& (3 : Int32))), .val (.int ((xa &&& (2147483647 : Int32)) % (6 : Int32))), .val (.int ((xb &&& (2147483647 : Int32)) % (6 : Int32))), .val (.int ((xd &&& (2147483647 : Int32)) % (6 : Int32))), .val (.ref ra), .unset, .unset, .unset] [(.int ((xb &&& (2147483647 : Int32)) % (6 : Int32)))])) rfl (by rw [hml]; rfl) (argsL := [(.int ((xb &&& (2147483647 : Int32)) % (6 : Int32)))]) (rest := []) (lenOf own_pd6 rfl) rfl (by show 2 * 0 + _ ≤ _; exact Nat.le_of_eq rfl) (hb hby at_41) (fun _ _ => ⟨rfl, e25, (by decide : 0 + 0 ≤ _), (by decide : 0 + 0 ≤ _)⟩)
  dsimp only [Pt.U, Pt.locs, Pt.cells, Pt.slots] at X26 l26 y26 z26 st26 hQ26
  subst l26 y26 z26
  obtain ⟨rfl, N26q, e26⟩ := hQ26
  have N26 := Fr.app N25 N26q
  refine own_go (T' := T26) (g' := (mkF m 44 #[.val (.int xa), .val (.int xb), .val (.int xd), .val (.int xm), .val (.int (xm &&& (3 : Int32))), .val (.int ((xa &&& (2147483647 : Int32)) % (6 : Int32))), .val (.int ((xb &&& (2147483647 : Int32)) % (6 : Int32))), .val (.int ((xd &&& (2147483647 : Int32)) % (6 : Int32))), .val (.ref ra), .unset, .unset, .unset] [(.ref rb)])) (fun _ k => st26 _ k) ?_
  refine own_go (T' := T26) (g' := (mkF m 46 #[.val (.int xa), .val (.int xb), .val (.int xd), .val (.int xm), .val (.int (xm &&& (3 : Int32))), .val (.int ((xa &&& (2147483647 : Int32)) % (6 : Int32))), .val (.int ((xb &&& (2147483647 : Int32)) % (6 : Int32))), .val (.int ((xd &&& (2147483647 : Int32)) % (6 : Int32))), .val (.ref ra), .val (.ref rb), .unset, .unset] [])) (fun _ k => XS.astore X26.here hx rfl (hb hby at_44) rfl rfl (l' := #[.val (.int xa), .val (.int xb), .val (.int xd), .val (.int xm), .val (.int (xm &&& (3 : Int32))), .val (.int ((xa &&& (2147483647 : Int32)) % (6 : Int32))), .val (.int ((xb &&& (2147483647 : Int32)) % (6 : Int32))), .val (.int ((xd &&& (2147483647 : Int32)) % (6 : Int32))), .val (.ref ra), .val (.ref rb), .unset, .unset]) rfl k) ?_
  refine own_go (T' := T26) (g' := (mkF m 48 #[.val (.int xa), .val (.int xb), .val (.int xd), .val (.int xm), .val (.int (xm &&& (3 : Int32))), .val (.int ((xa &&& (2147483647 : Int32)) % (6 : Int32))), .val (.int ((xb &&& (2147483647 : Int32)) % (6 : Int32))), .val (.int ((xd &&& (2147483647 : Int32)) % (6 : Int32))), .val (.ref ra), .val (.ref rb), .unset, .unset] [(.int ((xd &&& (2147483647 : Int32)) % (6 : Int32)))])) (fun _ k => XS.iload X26.here hx rfl (hb hby at_46) rfl k) ?_
  obtain ⟨_, _, ⟨T27, L27, k27, n27⟩, -, X27, ⟨Lc27, hQ27, l27, y27, z27⟩, st27⟩ := Jvm.LawKit.callS X26 hx (y := (⟨"com/example/leased/leased/CountsStepPinLaw", "pick", "(I)Lcom/example/leased/leased/ElectorStatus$Count;"⟩ : MethodName)) hown (mvT hZ (hw _ (List.mem_of_getElem? (i := 1) rfl))) (mvT hZ (hw _ (List.mem_of_getElem? (i := 2) rfl))) (mvT hZ (hw _ (List.mem_of_getElem? (i := 3) rfl))) (mvT hZ (hw _ (List.mem_of_getElem? (i := 4) rfl))) (by decide) (backOf (W := 0) (own_rP l Z a0 hw [] ((xd &&& (2147483647 : Int32)) % (6 : Int32)) a_ACQUISITIONS a_EXPIRED_TAKEOVERS a_RENEWALS a_RENEWALS_FAILED a_HOLDINGS_LOST a_RELEASES rd h0 n0 Z0 S_ACQUISITIONS S_EXPIRED_TAKEOVERS S_RENEWALS S_RENEWALS_FAILED S_HOLDINGS_LOST S_RELEASES pd) hZ (hw _ (List.mem_of_getElem? (i := 4) rfl)) (hw _ (List.mem_of_getElem? (i := 3) rfl)) (by decide) (by decide)) (g := (mkF m 48 #[.val (.int xa), .val (.int xb), .val (.int xd), .val (.int xm), .val (.int (xm &&& (3 : Int32))), .val (.int ((xa &&& (2147483647 : Int32)) % (6 : Int32))), .val (.int ((xb &&& (2147483647 : Int32)) % (6 : Int32))), .val (.int ((xd &&& (2147483647 : Int32)) % (6 : Int32))), .val (.ref ra), .val (.ref rb), .unset, .unset] [(.int ((xd &&& (2147483647 : Int32)) % (6 : Int32)))])) rfl (by rw [hml]; rfl) (argsL := [(.int ((xd &&& (2147483647 : Int32)) % (6 : Int32)))]) (rest := []) (lenOf own_pd6 rfl) rfl (by show 2 * 0 + _ ≤ _; exact Nat.le_of_eq rfl) (hb hby at_48) (fun _ _ => ⟨rfl, e26, (by decide : 0 + 0 ≤ _), (by decide : 0 + 0 ≤ _)⟩)
  dsimp only [Pt.U, Pt.locs, Pt.cells, Pt.slots] at X27 l27 y27 z27 st27 hQ27
  subst l27 y27 z27
  obtain ⟨rfl, N27q, e27⟩ := hQ27
  have N27 := Fr.app N26 N27q
  refine own_go (T' := T27) (g' := (mkF m 51 #[.val (.int xa), .val (.int xb), .val (.int xd), .val (.int xm), .val (.int (xm &&& (3 : Int32))), .val (.int ((xa &&& (2147483647 : Int32)) % (6 : Int32))), .val (.int ((xb &&& (2147483647 : Int32)) % (6 : Int32))), .val (.int ((xd &&& (2147483647 : Int32)) % (6 : Int32))), .val (.ref ra), .val (.ref rb), .unset, .unset] [(.ref rd)])) (fun _ k => st27 _ k) ?_
  refine own_go (T' := T27) (g' := (mkF m 53 #[.val (.int xa), .val (.int xb), .val (.int xd), .val (.int xm), .val (.int (xm &&& (3 : Int32))), .val (.int ((xa &&& (2147483647 : Int32)) % (6 : Int32))), .val (.int ((xb &&& (2147483647 : Int32)) % (6 : Int32))), .val (.int ((xd &&& (2147483647 : Int32)) % (6 : Int32))), .val (.ref ra), .val (.ref rb), .val (.ref rd), .unset] [])) (fun _ k => XS.astore X27.here hx rfl (hb hby at_51) rfl rfl (l' := #[.val (.int xa), .val (.int xb), .val (.int xd), .val (.int xm), .val (.int (xm &&& (3 : Int32))), .val (.int ((xa &&& (2147483647 : Int32)) % (6 : Int32))), .val (.int ((xb &&& (2147483647 : Int32)) % (6 : Int32))), .val (.int ((xd &&& (2147483647 : Int32)) % (6 : Int32))), .val (.ref ra), .val (.ref rb), .val (.ref rd), .unset]) rfl k) ?_
  obtain ⟨T28, h28, X28, e28, E28, A28, D28, -, st28⟩ := newO X27 hx hZ hown (hw _ (List.mem_of_getElem? (i := 12) rfl)) (hw _ (List.mem_of_getElem? (i := 13) rfl)) (hw _ (List.mem_of_getElem? (i := 14) rfl)) e27 (g := (mkF m 53 #[.val (.int xa), .val (.int xb), .val (.int xd), .val (.int xm), .val (.int (xm &&& (3 : Int32))), .val (.int ((xa &&& (2147483647 : Int32)) % (6 : Int32))), .val (.int ((xb &&& (2147483647 : Int32)) % (6 : Int32))), .val (.int ((xd &&& (2147483647 : Int32)) % (6 : Int32))), .val (.ref ra), .val (.ref rb), .val (.ref rd), .unset] [])) rfl (hb hby at_53) (by decide) (by decide)
  obtain ⟨b28, g28⟩ : ∃ z, z = h0.size := ⟨_, rfl⟩
  rw [← g28] at A28 D28 st28
  have gz_b28 : n0 ≤ b28 := Nat.le_trans Z0 (Nat.le_of_eq g28.symm)
  have hz_b28 : h0.size ≤ b28 := Nat.le_trans (Keep.refl h0 []).1 (Nat.le_of_eq g28.symm)
  have Z28 : n0 ≤ h28.size := Nat.le_trans Z0 E28.1
  have O28 : Ext h0 h28 := own_ext_tr (own_ext_rf h0) E28
  have K28 : Keep h0 h28 [] := (Keep.refl h0 []).ext E28
  have Fvalues_b28 : Fld Z h28 b28 "com/example/leased/leased/ElectorStatus$Counts" "values" "[J" .null := D28 (Or.inr (hw _ (List.mem_of_getElem? (i := 44) rfl))) (ty := (.array .long)) (by decide)
  refine own_go (T' := T28) (g' := (mkF m 56 #[.val (.int xa), .val (.int xb), .val (.int xd), .val (.int xm), .val (.int (xm &&& (3 : Int32))), .val (.int ((xa &&& (2147483647 : Int32)) % (6 : Int32))), .val (.int ((xb &&& (2147483647 : Int32)) % (6 : Int32))), .val (.int ((xd &&& (2147483647 : Int32)) % (6 : Int32))), .val (.ref ra), .val (.ref rb), .val (.ref rd), .unset] [(.ref b28)])) (fun _ k => st28 _ k) ?_
  refine own_go (T' := T28) (g' := (mkF m 57 #[.val (.int xa), .val (.int xb), .val (.int xd), .val (.int xm), .val (.int (xm &&& (3 : Int32))), .val (.int ((xa &&& (2147483647 : Int32)) % (6 : Int32))), .val (.int ((xb &&& (2147483647 : Int32)) % (6 : Int32))), .val (.int ((xd &&& (2147483647 : Int32)) % (6 : Int32))), .val (.ref ra), .val (.ref rb), .val (.ref rd), .unset] [(.ref b28), (.ref b28)])) (fun _ k => XS.dup X28.here hx rfl (hb hby at_56) rfl rfl k) ?_
  obtain ⟨_, _, ⟨T29, L29, k29, n29⟩, -, X29, ⟨Lc29, hQ29, l29, y29, z29⟩, st29⟩ := X28.specialBack hx (y := (⟨"com/example/leased/leased/ElectorStatus$Counts", "<init>", "()V"⟩ : MethodName)) rfl hown (mvT hZ (hw _ (List.mem_of_getElem? (i := 15) rfl))) (mvT hZ (hw _ (List.mem_of_getElem? (i := 16) rfl))) (mvT hZ (hw _ (List.mem_of_getElem? (i := 17) rfl))) (by decide) (backOf (W := 1) (own_rI l Z a0 hw [] b28 a__VALUES k__VALUES a_ACQUISITIONS a_EXPIRED_TAKEOVERS a_RENEWALS a_RENEWALS_FAILED a_HOLDINGS_LOST a_RELEASES h28 n0 Z28 Fvalues_b28 A28 gz_b28 (S__VALUES.ext O28) (A__VALUES.ext O28) (E__VALUES.ext O28)) hZ (hw _ (List.mem_of_getElem? (i := 17) rfl)) (hw _ (List.mem_of_getElem? (i := 14) rfl)) (by decide) (by decide)) (g := (mkF m 57 #[.val (.int xa), .val (.int xb), .val (.int xd), .val (.int xm), .val (.int (xm &&& (3 : Int32))), .val (.int ((xa &&& (2147483647 : Int32)) % (6 : Int32))), .val (.int ((xb &&& (2147483647 : Int32)) % (6 : Int32))), .val (.int ((xd &&& (2147483647 : Int32)) % (6 : Int32))), .val (.ref ra), .val (.ref rb), .val (.ref rd), .unset] [(.ref b28), (.ref b28)])) rfl (by rw [hml]; rfl) (Steps.refl _) (a := b28) (argsL := []) (rest := [(.ref b28)]) (lenOf own_pd7 rfl) rfl (by show 2 * 0 + _ ≤ _; exact Nat.le_of_eq rfl) (hb hby at_57) (fun _ _ => ⟨rfl, e28, (by decide : 1 + 2 ≤ _), (by decide : 1 + 12 ≤ _)⟩)
  dsimp only [Pt.U, Pt.locs, Pt.cells, Pt.slots] at X29 l29 y29 z29 st29 hQ29
  subst l29 y29 z29
  obtain ⟨rfl, N29q, Kc29, Ec29, xt29, kt29, hzt29, Fc29, Vc29⟩ := hQ29
  have N29 := Fr.app N27 N29q
  have net : b28 ≠ xt29 := Nat.ne_of_lt (Nat.lt_of_lt_of_le A28.lt hzt29)
  have hzt : h0.size ≤ xt29 := Nat.le_trans O28.1 hzt29
  have gzt : n0 ≤ xt29 := Nat.le_trans Z28 hzt29
  have Z29 : n0 ≤ T29.heap.size := Nat.le_trans Z28 Kc29.1
  have O29 : Ext h0 T29.heap := own_ext_keep O28 Kc29 (own_all1 hz_b28)
  have K29 : Keep h0 T29.heap [] := K28.trans Kc29 fun x hx => Or.inr ((own_all1 hz_b28) x hx)
  refine own_goT (T' := T29) (g' := (mkF m 60 #[.val (.int xa), .val (.int xb), .val (.int xd), .val (.int xm), .val (.int (xm &&& (3 : Int32))), .val (.int ((xa &&& (2147483647 : Int32)) % (6 : Int32))), .val (.int ((xb &&& (2147483647 : Int32)) % (6 : Int32))), .val (.int ((xd &&& (2147483647 : Int32)) % (6 : Int32))), .val (.ref ra), .val (.ref rb), .val (.ref rd), .unset] [(.ref b28)])) st29 ?_
  refine own_go (T' := T29) (g' := (mkF m 62 #[.val (.int xa), .val (.int xb), .val (.int xd), .val (.int xm), .val (.int (xm &&& (3 : Int32))), .val (.int ((xa &&& (2147483647 : Int32)) % (6 : Int32))), .val (.int ((xb &&& (2147483647 : Int32)) % (6 : Int32))), .val (.int ((xd &&& (2147483647 : Int32)) % (6 : Int32))), .val (.ref ra), .val (.ref rb), .val (.ref rd), .val (.ref b28)] [])) (fun _ k => XS.astore X29.here hx rfl (hb hby at_60) rfl rfl (l' := #[.val (.int xa), .val (.int xb), .val (.int xd), .val (.int xm), .val (.int (xm &&& (3 : Int32))), .val (.int ((xa &&& (2147483647 : Int32)) % (6 : Int32))), .val (.int ((xb &&& (2147483647 : Int32)) % (6 : Int32))), .val (.int ((xd &&& (2147483647 : Int32)) % (6 : Int32))), .val (.ref ra), .val (.ref rb), .val (.ref rd), .val (.ref b28)]) rfl k) ?_
  refine own_go (T' := T29) (g' := (mkF m 64 #[.val (.int xa), .val (.int xb), .val (.int xd), .val (.int xm), .val (.int (xm &&& (3 : Int32))), .val (.int ((xa &&& (2147483647 : Int32)) % (6 : Int32))), .val (.int ((xb &&& (2147483647 : Int32)) % (6 : Int32))), .val (.int ((xd &&& (2147483647 : Int32)) % (6 : Int32))), .val (.ref ra), .val (.ref rb), .val (.ref rd), .val (.ref b28)] [(.int (xm &&& (3 : Int32)))])) (fun _ k => XS.iload X29.here hx rfl (hb hby at_62) rfl k) ?_
  by_cases hc64 : (0 : Int32) < (xm &&& (3 : Int32))
  · refine own_go (T' := T29) (g' := (mkF m 67 #[.val (.int xa), .val (.int xb), .val (.int xd), .val (.int xm), .val (.int (xm &&& (3 : Int32))), .val (.int ((xa &&& (2147483647 : Int32)) % (6 : Int32))), .val (.int ((xb &&& (2147483647 : Int32)) % (6 : Int32))), .val (.int ((xd &&& (2147483647 : Int32)) % (6 : Int32))), .val (.ref ra), .val (.ref rb), .val (.ref rd), .val (.ref b28)] [])) (fun _ k => XS.ifNo X29.here hx rfl (hb hby at_64) rfl ((if0 _ _).trans (tlt (hc64 : (0 : Int32) < (xm &&& (3 : Int32)))).2.2.2) k) ?_
    refine own_go (T' := T29) (g' := (mkF m 69 #[.val (.int xa), .val (.int xb), .val (.int xd), .val (.int xm), .val (.int (xm &&& (3 : Int32))), .val (.int ((xa &&& (2147483647 : Int32)) % (6 : Int32))), .val (.int ((xb &&& (2147483647 : Int32)) % (6 : Int32))), .val (.int ((xd &&& (2147483647 : Int32)) % (6 : Int32))), .val (.ref ra), .val (.ref rb), .val (.ref rd), .val (.ref b28)] [(.ref b28)])) (fun _ k => XS.aload X29.here hx rfl (hb hby at_67) rfl rfl k) ?_
    refine own_go (T' := T29) (g' := (mkF m 71 #[.val (.int xa), .val (.int xb), .val (.int xd), .val (.int xm), .val (.int (xm &&& (3 : Int32))), .val (.int ((xa &&& (2147483647 : Int32)) % (6 : Int32))), .val (.int ((xb &&& (2147483647 : Int32)) % (6 : Int32))), .val (.int ((xd &&& (2147483647 : Int32)) % (6 : Int32))), .val (.ref ra), .val (.ref rb), .val (.ref rd), .val (.ref b28)] [(.ref ra), (.ref b28)])) (fun _ k => XS.aload X29.here hx rfl (hb hby at_69) rfl rfl k) ?_
    obtain ⟨cq30, kq30, q30a, q30b, q30c⟩ := isOf hZ rfl Ec29
    obtain ⟨_, _, ⟨T30, L30, k30, n30⟩, -, X30, ⟨Lc30, hQ30, l30, y30, z30⟩, st30⟩ := X29.virtualBack hx (y := (⟨"com/example/leased/leased/ElectorStatus$Counts", "step", "(Lcom/example/leased/leased/ElectorStatus$Count;)V"⟩ : MethodName)) (z := (⟨"com/example/leased/leased/ElectorStatus$Counts", "step", "(Lcom/example/leased/leased/ElectorStatus$Count;)V"⟩ : MethodName)) hown (mvT hZ (hw _ (List.mem_of_getElem? (i := 45) rfl))) (mvT hZ (hw _ (List.mem_of_getElem? (i := 46) rfl))) (notFace_of_selects (args := #[]) (mvT hZ (hw _ (List.mem_of_getElem? (i := 48) rfl)))) (mvT hZ (hw _ (List.mem_of_getElem? (i := 48) rfl))) (mvT hZ (hw _ (List.mem_of_getElem? (i := 47) rfl))) (by decide) (backOf (W := 0) (own_rS l Z a0 hw [] b28 ra xt29 kt29 [0, 0, 0, 0, 0, 0] ((xa &&& (2147483647 : Int32)) % (6 : Int32)) T29.heap n0 Z29 Fc29 Vc29 (E_ra.ext O29) (F_ra.ext O29) na la gzt) hZ (hw _ (List.mem_of_getElem? (i := 49) rfl)) (hw _ (List.mem_of_getElem? (i := 14) rfl)) (by decide) (by decide)) q30a q30c (g := (mkF m 71 #[.val (.int xa), .val (.int xb), .val (.int xd), .val (.int xm), .val (.int (xm &&& (3 : Int32))), .val (.int ((xa &&& (2147483647 : Int32)) % (6 : Int32))), .val (.int ((xb &&& (2147483647 : Int32)) % (6 : Int32))), .val (.int ((xd &&& (2147483647 : Int32)) % (6 : Int32))), .val (.ref ra), .val (.ref rb), .val (.ref rd), .val (.ref b28)] [(.ref ra), (.ref b28)])) rfl (by rw [hml]; rfl) (Steps.refl _) (argsL := [(.ref ra)]) (rest := []) (lenOf own_pd5 rfl) rfl (by show 2 * 0 + _ ≤ _; exact Nat.le_of_eq rfl) (hb hby at_71) (fun _ _ => ⟨rfl, rfl, (by decide : 3 + 0 ≤ _), (by decide : 13 + 0 ≤ _)⟩)
    dsimp only [Pt.U, Pt.locs, Pt.cells, Pt.slots] at X30 l30 y30 z30 st30 hQ30
    subst l30 y30 z30
    obtain ⟨rfl, N30q, Kc30, Vc30⟩ := hQ30
    have N30 := Fr.app N29 N30q
    have Ek31 := Ec29.keep Kc30
    have Fk32 := Fc29.keep Kc30 (own_one net)
    have Z30 : n0 ≤ T30.heap.size := Nat.le_trans Z29 Kc30.1
    have O30 : Ext h0 T30.heap := own_ext_keep O29 Kc30 (own_all1 hzt)
    have K30 : Keep h0 T30.heap [] := K29.trans Kc30 fun x hx => Or.inr ((own_all1 hzt) x hx)
    refine own_goT (T' := T30) (g' := (mkF m 74 #[.val (.int xa), .val (.int xb), .val (.int xd), .val (.int xm), .val (.int (xm &&& (3 : Int32))), .val (.int ((xa &&& (2147483647 : Int32)) % (6 : Int32))), .val (.int ((xb &&& (2147483647 : Int32)) % (6 : Int32))), .val (.int ((xd &&& (2147483647 : Int32)) % (6 : Int32))), .val (.ref ra), .val (.ref rb), .val (.ref rd), .val (.ref b28)] [])) st30 ?_
    exact tail74 T30.heap b28 xt29 kt29 (own_inc [0, 0, 0, 0, 0, 0] ((xa &&& (2147483647 : Int32)) % (6 : Int32)).toNatClampNeg) T30 _ X30 rfl N30 Z30 O30 K30 Ek31 Fk32 Vc30 net hzt gzt (own_inc_len (rfl : ([0, 0, 0, 0, 0, 0] : List Int64).length = 6)) (fun i p q => own_yes rfl  na la p q (own_i0 i p q) hc64)
  · refine own_go (T' := T29) (g' := (mkF m 74 #[.val (.int xa), .val (.int xb), .val (.int xd), .val (.int xm), .val (.int (xm &&& (3 : Int32))), .val (.int ((xa &&& (2147483647 : Int32)) % (6 : Int32))), .val (.int ((xb &&& (2147483647 : Int32)) % (6 : Int32))), .val (.int ((xd &&& (2147483647 : Int32)) % (6 : Int32))), .val (.ref ra), .val (.ref rb), .val (.ref rd), .val (.ref b28)] [])) (fun _ k => XS.ifYes X29.here hx rfl (pc0 := 64) (pc' := 74) rfl (hb hby at_64) rfl ((if0 _ _).trans (flt (hc64 : ¬ ((0 : Int32) < (xm &&& (3 : Int32))))).2.2.2) (by decide) (by decide) k) ?_
    exact tail74 T29.heap b28 xt29 kt29 [0, 0, 0, 0, 0, 0] T29 _ X29 rfl N29 Z29 O29 K29 Ec29 Fc29 Vc29 net hzt gzt rfl (fun i p q => own_no (own_i0 i p q) hc64)
set_option maxRecDepth 65536 in
set_option maxHeartbeats 40000000 in
theorem own_comes {Post : Tables → Env → Array Value → State → Outcome → State → Prop} (hpost : ∀ tb e args s v u, (limb_1_1.after args s (.returned v) u = true ∧ limb_1_2.after args s (.returned v) u = true ∧ True) → FrameEnd s (.returned v) u (Jvm.fieldLocs frame_1_writes args s ++ Jvm.arrayLocs frame_1_arrays args s ++ Jvm.staticLocs frame_1_statics s) 16 128 → Post tb e args s (.returned v) u) :
    ArmFor flags0 classFile x code maxLocals ret World_1 tables_1 room_1 Calls_1 rest_1 Pre_1 Post := by
  intro l hfl _ _ p e ha hc hk s m args below hf hA hF happ hP
  obtain ⟨hcalls, hrest, hpre⟩ := hP
  obtain ⟨-, -, -, hnamed, -, -, -, hat⟩ := (Spec.applies_iff hf).mp happ
  obtain ⟨hg, hn⟩ := and_e (Cond.before_iff.mp (show (Jvm.Cond.and given_1 narrow_1).before args s = true from hpre))
  obtain ⟨gc, g0⟩ := and_e hg
  obtain ⟨ga0, g1⟩ := and_e g0
  obtain ⟨ga1, g2⟩ := and_e g1
  obtain ⟨ga2, g3⟩ := and_e g2
  obtain ⟨w0, w1, w2, w3, rfl⟩ : ∃ w0 w1 w2 w3 : Value, args = #[w0, w1, w2, w3] := by
    have hs : args.size = 4 := by simpa [Cond.value, given_1] using gc
    obtain ⟨L⟩ := args
    match L, hs with
    | [w0, w1, w2, w3], _ => exact ⟨w0, w1, w2, w3, rfl⟩
  have hw := fun d (hd : d ∈ tables_1) => atoms_spec (ws := Jvm.Cond.code x code maxLocals ret :: tables_1) hat d (List.mem_cons_of_mem _ hd)
  have hfit : Fit s := fun {y c} hc i hi => by
    obtain ⟨ha, rfl⟩ := Array.getElem?_eq_some_iff.mp hc
    have q := List.all_eq_true.mp ((Array.all_eq_true_iff_forall_mem.mp hF) _ (Array.getElem_mem ha)) i (List.mem_range.mpr hi)
    simpa [Array.getElem?_eq_getElem hi] using q
  obtain ⟨i0, ei0⟩ := is_v ga0
  obtain rfl : w0 = (.int i0) := Option.some.inj ei0
  obtain ⟨i1, ei1⟩ := is_v ga1
  obtain rfl : w1 = (.int i1) := Option.some.inj ei1
  obtain ⟨i2, ei2⟩ := is_v ga2
  obtain rfl : w2 = (.int i2) := Option.some.inj ei2
  obtain ⟨i3, ei3⟩ := is_v g3
  obtain rfl : w3 = (.int i3) := Option.some.inj ei3
  obtain ⟨k0, z0⟩ := and_e hn
  obtain ⟨a_ACQUISITIONS, e_ACQUISITIONS⟩ := exa_v k0
  have S_ACQUISITIONS : Sta s s.heap "com/example/leased/leased/ElectorStatus$Count" "ACQUISITIONS" "Lcom/example/leased/leased/ElectorStatus$Count;" (.ref a_ACQUISITIONS) := Sta.start e_ACQUISITIONS (Or.inr ⟨(hw _ (List.mem_of_getElem? (i := 6) rfl)), (hw _ (List.mem_of_getElem? (i := 7) rfl))⟩)
  have E_ACQUISITIONS : Exa s s.heap a_ACQUISITIONS "com/example/leased/leased/ElectorStatus$Count" := Exa.start e_ACQUISITIONS k0
  obtain ⟨k1, z1⟩ := and_e z0
  obtain ⟨a_RENEWALS_FAILED, e_RENEWALS_FAILED⟩ := exa_v k1
  have S_RENEWALS_FAILED : Sta s s.heap "com/example/leased/leased/ElectorStatus$Count" "RENEWALS_FAILED" "Lcom/example/leased/leased/ElectorStatus$Count;" (.ref a_RENEWALS_FAILED) := Sta.start e_RENEWALS_FAILED (Or.inr ⟨(hw _ (List.mem_of_getElem? (i := 6) rfl)), (hw _ (List.mem_of_getElem? (i := 9) rfl))⟩)
  have E_RENEWALS_FAILED : Exa s s.heap a_RENEWALS_FAILED "com/example/leased/leased/ElectorStatus$Count" := Exa.start e_RENEWALS_FAILED k1
  obtain ⟨k2, z2⟩ := and_e z1
  obtain ⟨a_RENEWALS, e_RENEWALS⟩ := exa_v k2
  have S_RENEWALS : Sta s s.heap "com/example/leased/leased/ElectorStatus$Count" "RENEWALS" "Lcom/example/leased/leased/ElectorStatus$Count;" (.ref a_RENEWALS) := Sta.start e_RENEWALS (Or.inr ⟨(hw _ (List.mem_of_getElem? (i := 6) rfl)), (hw _ (List.mem_of_getElem? (i := 11) rfl))⟩)
  have E_RENEWALS : Exa s s.heap a_RENEWALS "com/example/leased/leased/ElectorStatus$Count" := Exa.start e_RENEWALS k2
  obtain ⟨k3, z3⟩ := and_e z2
  obtain ⟨a__VALUES, e__VALUES⟩ := arr_v k3
  have S__VALUES : Sta s s.heap "com/example/leased/leased/ElectorStatus$Count" "$VALUES" "[Lcom/example/leased/leased/ElectorStatus$Count;" (.ref a__VALUES) := Sta.start e__VALUES (Or.inr ⟨(hw _ (List.mem_of_getElem? (i := 6) rfl)), (hw _ (List.mem_of_getElem? (i := 22) rfl))⟩)
  obtain ⟨cl__VALUES, Ar__VALUES⟩ := Arr.start e__VALUES k3
  obtain ⟨k4, z4⟩ := and_e z3
  have E__VALUES : Exa s s.heap a__VALUES "[Lcom/example/leased/leased/ElectorStatus$Count;" := Exa.start e__VALUES k4
  obtain ⟨k5, z5⟩ := and_e z4
  have L__VALUES := own_len (n := 6) e__VALUES (own_eqi k5) Ar__VALUES rfl
  obtain ⟨k6, z6⟩ := and_e z5
  have V__VALUES_0 : cl__VALUES.slots[0]? = some (.ref a_ACQUISITIONS) := own_elem (j := 0) e__VALUES (own_eqr k6 e_ACQUISITIONS) Ar__VALUES.1
  obtain ⟨k7, z7⟩ := and_e z6
  obtain ⟨a_EXPIRED_TAKEOVERS, e_EXPIRED_TAKEOVERS⟩ := exa_v k7
  have S_EXPIRED_TAKEOVERS : Sta s s.heap "com/example/leased/leased/ElectorStatus$Count" "EXPIRED_TAKEOVERS" "Lcom/example/leased/leased/ElectorStatus$Count;" (.ref a_EXPIRED_TAKEOVERS) := Sta.start e_EXPIRED_TAKEOVERS (Or.inr ⟨(hw _ (List.mem_of_getElem? (i := 6) rfl)), (hw _ (List.mem_of_getElem? (i := 30) rfl))⟩)
  have E_EXPIRED_TAKEOVERS : Exa s s.heap a_EXPIRED_TAKEOVERS "com/example/leased/leased/ElectorStatus$Count" := Exa.start e_EXPIRED_TAKEOVERS k7
  obtain ⟨k8, z8⟩ := and_e z7
  have V__VALUES_1 : cl__VALUES.slots[1]? = some (.ref a_EXPIRED_TAKEOVERS) := own_elem (j := 1) e__VALUES (own_eqr k8 e_EXPIRED_TAKEOVERS) Ar__VALUES.1
  obtain ⟨k9, z9⟩ := and_e z8
  have V__VALUES_2 : cl__VALUES.slots[2]? = some (.ref a_RENEWALS) := own_elem (j := 2) e__VALUES (own_eqr k9 e_RENEWALS) Ar__VALUES.1
  obtain ⟨k10, z10⟩ := and_e z9
  have V__VALUES_3 : cl__VALUES.slots[3]? = some (.ref a_RENEWALS_FAILED) := own_elem (j := 3) e__VALUES (own_eqr k10 e_RENEWALS_FAILED) Ar__VALUES.1
  obtain ⟨k11, z11⟩ := and_e z10
  obtain ⟨a_HOLDINGS_LOST, e_HOLDINGS_LOST⟩ := exa_v k11
  have S_HOLDINGS_LOST : Sta s s.heap "com/example/leased/leased/ElectorStatus$Count" "HOLDINGS_LOST" "Lcom/example/leased/leased/ElectorStatus$Count;" (.ref a_HOLDINGS_LOST) := Sta.start e_HOLDINGS_LOST (Or.inr ⟨(hw _ (List.mem_of_getElem? (i := 6) rfl)), (hw _ (List.mem_of_getElem? (i := 31) rfl))⟩)
  have E_HOLDINGS_LOST : Exa s s.heap a_HOLDINGS_LOST "com/example/leased/leased/ElectorStatus$Count" := Exa.start e_HOLDINGS_LOST k11
  obtain ⟨k12, z12⟩ := and_e z11
  have V__VALUES_4 : cl__VALUES.slots[4]? = some (.ref a_HOLDINGS_LOST) := own_elem (j := 4) e__VALUES (own_eqr k12 e_HOLDINGS_LOST) Ar__VALUES.1
  obtain ⟨k13, z13⟩ := and_e z12
  obtain ⟨a_RELEASES, e_RELEASES⟩ := exa_v k13
  have S_RELEASES : Sta s s.heap "com/example/leased/leased/ElectorStatus$Count" "RELEASES" "Lcom/example/leased/leased/ElectorStatus$Count;" (.ref a_RELEASES) := Sta.start e_RELEASES (Or.inr ⟨(hw _ (List.mem_of_getElem? (i := 6) rfl)), (hw _ (List.mem_of_getElem? (i := 32) rfl))⟩)
  have E_RELEASES : Exa s s.heap a_RELEASES "com/example/leased/leased/ElectorStatus$Count" := Exa.start e_RELEASES k13
  obtain ⟨k14, z14⟩ := and_e z13
  have V__VALUES_5 : cl__VALUES.slots[5]? = some (.ref a_RELEASES) := own_elem (j := 5) e__VALUES (own_eqr k14 e_RELEASES) Ar__VALUES.1
  obtain ⟨k15, z15⟩ := and_e z14
  have e_ACQUISITIONS_ordinal := own_eqi k15
  have F_ACQUISITIONS_ordinal : Fld s s.heap a_ACQUISITIONS "java/lang/Enum" "ordinal" "I" (.int (0 : Int32)) := Fld.start ((fld_at e_ACQUISITIONS).symm.trans e_ACQUISITIONS_ordinal)
  obtain ⟨k16, z16⟩ := and_e z15
  have e_EXPIRED_TAKEOVERS_ordinal := own_eqi k16
  have F_EXPIRED_TAKEOVERS_ordinal : Fld s s.heap a_EXPIRED_TAKEOVERS "java/lang/Enum" "ordinal" "I" (.int (1 : Int32)) := Fld.start ((fld_at e_EXPIRED_TAKEOVERS).symm.trans e_EXPIRED_TAKEOVERS_ordinal)
  obtain ⟨k17, z17⟩ := and_e z16
  have e_RENEWALS_ordinal := own_eqi k17
  have F_RENEWALS_ordinal : Fld s s.heap a_RENEWALS "java/lang/Enum" "ordinal" "I" (.int (2 : Int32)) := Fld.start ((fld_at e_RENEWALS).symm.trans e_RENEWALS_ordinal)
  obtain ⟨k18, z18⟩ := and_e z17
  have e_RENEWALS_FAILED_ordinal := own_eqi k18
  have F_RENEWALS_FAILED_ordinal : Fld s s.heap a_RENEWALS_FAILED "java/lang/Enum" "ordinal" "I" (.int (3 : Int32)) := Fld.start ((fld_at e_RENEWALS_FAILED).symm.trans e_RENEWALS_FAILED_ordinal)
  obtain ⟨k19, z19⟩ := and_e z18
  have e_HOLDINGS_LOST_ordinal := own_eqi k19
  have F_HOLDINGS_LOST_ordinal : Fld s s.heap a_HOLDINGS_LOST "java/lang/Enum" "ordinal" "I" (.int (4 : Int32)) := Fld.start ((fld_at e_HOLDINGS_LOST).symm.trans e_HOLDINGS_LOST_ordinal)
  have e_RELEASES_ordinal := own_eqi z19
  have F_RELEASES_ordinal : Fld s s.heap a_RELEASES "java/lang/Enum" "ordinal" "I" (.int (5 : Int32)) := Fld.start ((fld_at e_RELEASES).symm.trans e_RELEASES_ordinal)
  obtain ⟨k__VALUES, A__VALUES⟩ : ∃ k, own_A s s.heap a__VALUES k (.object "com/example/leased/leased/ElectorStatus$Count") [(.ref a_ACQUISITIONS), (.ref a_EXPIRED_TAKEOVERS), (.ref a_RENEWALS), (.ref a_RENEWALS_FAILED), (.ref a_HOLDINGS_LOST), (.ref a_RELEASES)] := ⟨_, own_A.of Ar__VALUES L__VALUES ⟨V__VALUES_0, V__VALUES_1, V__VALUES_2, V__VALUES_3, V__VALUES_4, V__VALUES_5, trivial⟩⟩
  obtain ⟨n, o, h1, h2, h3, _, L, rfl, ⟨rfl, N⟩, hq⟩ := own_rL l s _ hw tables_1 i0 i1 i2 i3 a_ACQUISITIONS a_RENEWALS_FAILED a_RENEWALS a__VALUES a_EXPIRED_TAKEOVERS a_HOLDINGS_LOST a_RELEASES k__VALUES s.heap s.heap.size (Nat.le_refl _) S_ACQUISITIONS E_ACQUISITIONS S_RENEWALS_FAILED E_RENEWALS_FAILED S_RENEWALS E_RENEWALS S__VALUES E__VALUES S_EXPIRED_TAKEOVERS E_EXPIRED_TAKEOVERS S_HOLDINGS_LOST E_HOLDINGS_LOST S_RELEASES E_RELEASES F_ACQUISITIONS_ordinal F_EXPIRED_TAKEOVERS_ordinal F_RENEWALS_ordinal F_RENEWALS_FAILED_ordinal F_HOLDINGS_LOST_ordinal F_RELEASES_ordinal A__VALUES p e ha hc hk s m _ below hf ((Spec.applies_iff_loose hf).mp happ).1 ⟨rfl, State.Warmed39.refl s, rfl⟩ trivial
  refine ⟨n, _, h1, h2, h3, hpost _ _ _ _ _ _ ⟨Cond.after_iff.mpr rfl, Cond.after_iff.mpr (eq_i res_at (Term.int_eval (1)) rfl), trivial⟩ ⟨hq.1, hq.2.1, (hq.2.2.sift fun y hy => Or.inr (N y hy)).mono (by decide) (by decide)⟩⟩
theorem main_1_1 : Claimed_1_1 := own_comes fun _ _ _ _ _ _ h hF => ⟨h.1, hF⟩
theorem main_1_2 : Claimed_1_2 := own_comes fun _ _ _ _ _ _ h hF => ⟨h.2.1, hF⟩
end Jvm.Pilot.@@N@@
namespace Jvm.Pilot.@@N@@
open Jvm Jvm.ClassFile Sem Op Lib Jvm.Free Jvm.Stand Jvm.Pilot.@@N@@.Jvm.D
/-! MADE BY PROGRAM (witnessworld.py) out of the Statement's table words and the real class files: 16 classes; the members and pool entries that the words name. The judged class is class 1, her method 3. -/
namespace start1
open Jvm.ClassFile
def u (s : String) : CpInfo := .utf8 (stringToUtf16 s)
/-- a pool by its gaps: so many unusable entries, then the entry; so many at the end -/
def gap : Nat → List CpInfo → List CpInfo
  | 0, r => r
  | n + 1, r => .unusable :: gap n r
def poolList (es : List (Nat × CpInfo)) (last : Nat) : List CpInfo := es.foldr (fun e r => gap e.1 (e.2 :: r)) (gap last [])
def pool (es : List (Nat × CpInfo)) (last : Nat) : Array CpInfo := ⟨poolList es last⟩
def fileOf (pool : Array CpInfo) (this : Nat) (attrs : Array Attribute := #[]) (ms : Array MethodInfo := #[]) (fl : Nat := 33) (sup : Nat := 0) (ifs : Array Nat := #[]) (fds : Array FieldInfo := #[]) : ClassFile where
  minorVersion := 0
  majorVersion := 65
  constantPool := pool
  accessFlags := fl
  thisClass := this
  superClass := sup
  interfaces := ifs
  fields := fds
  methods := ms
  attributes := attrs
def plain (name : String) (sup : Option ClassId) : Class where
  name := name
  kind := .ordinary
  loader := none
  accessFlags := 33
  super := sup
  interfaces := #[]
  cf := none
  fields := #[]
  methods := #[]
  instanceTypes := #[]
  staticTypes := #[]
  resolved := #[]
  callSites := []
  init := .initialized
  statics := none
  mirror := none

def pool0 : Array CpInfo := pool [(5, u "<init>"), (0, u "()V"), (1, .class_ 10), (1, u "java/lang/Object"), (85, u "clone"), (0, u "()Ljava/lang/Object;")] 26

def k0c0 : Code := { maxStack := 0, maxLocals := 1, code := object_method_1_code, exceptionTable := #[], attributes := #[] }
def k0m0 : Method := { name := "<init>", desc := "()V", sig := { parameters := [], returnType := none }, accessFlags := 1, code := some k0c0 }
def k0m1 : Method := { name := "clone", desc := "()Ljava/lang/Object;", sig := { parameters := [], returnType := some (.object "java/lang/Object") }, accessFlags := 260, code := none }
/-- java/lang/Object -/
def k0 : Class := { plain "java/lang/Object" none with
  accessFlags := 33
  interfaces := #[]
  cf := some (fileOf pool0 8 #[] #[{ accessFlags := 1, nameIndex := 5, descriptorIndex := 6, attributes := #[] }, { accessFlags := 260, nameIndex := 96, descriptorIndex := 97, attributes := #[] }] 33 0 #[] #[])
  fields := #[]
  methods := #[k0m0, k0m1]
  instanceTypes := #[]
  staticTypes := #[]
  resolved := Array.replicate 124 none
  statics := none }

def pool1 : Array CpInfo := pool [(2, .class_ 4), (0, .nameAndType 5 6), (0, u "java/lang/Object"), (0, u "<init>"), (0, u "()V"), (0, .fieldref 8 9), (0, .class_ 10), (0, .nameAndType 11 12), (0, u "com/example/leased/leased/ElectorStatus$Count"), (0, u "ACQUISITIONS"), (0, u "Lcom/example/leased/leased/ElectorStatus$Count;"), (0, .fieldref 8 14), (0, .nameAndType 15 12), (0, u "EXPIRED_TAKEOVERS"), (0, .fieldref 8 17), (0, .nameAndType 18 12), (0, u "RENEWALS"), (0, .fieldref 8 20), (0, .nameAndType 21 12), (0, u "RENEWALS_FAILED"), (0, .fieldref 8 23), (0, .nameAndType 24 12), (0, u "HOLDINGS_LOST"), (0, .fieldref 8 26), (0, .nameAndType 27 12), (0, u "RELEASES"), (0, .integer 2147483647), (0, .methodref 30 31), (0, .class_ 32), (0, .nameAndType 33 34), (0, u "com/example/leased/leased/CountsStepPinLaw"), (0, u "pick"), (0, u "(I)Lcom/example/leased/leased/ElectorStatus$Count;"), (0, .class_ 36), (0, u "com/example/leased/leased/ElectorStatus$Counts"), (0, .methodref 35 3), (0, .methodref 35 39), (0, .nameAndType 40 41), (0, u "step"), (0, u "(Lcom/example/leased/leased/ElectorStatus$Count;)V"), (0, .methodref 35 43), (0, .nameAndType 44 45), (0, u "get"), (0, u "(Lcom/example/leased/leased/ElectorStatus$Count;)J"), (0, .methodref 30 47), (0, .nameAndType 48 49), (0, u "expect"), (0, u "(IIIII)J"), (3, u "law"), (0, u "(IIII)Z")] 7

def k1m0 : Method := { name := "<init>", desc := "()V", sig := { parameters := [], returnType := none }, accessFlags := 1, code := none }
def k1c1 : Code := { maxStack := 2, maxLocals := 1, code := method_2_code, exceptionTable := #[], attributes := #[] }
def k1m1 : Method := { name := "pick", desc := "(I)Lcom/example/leased/leased/ElectorStatus$Count;", sig := { parameters := [.int], returnType := some (.object "com/example/leased/leased/ElectorStatus$Count") }, accessFlags := 10, code := some k1c1 }
def k1c2 : Code := { maxStack := 4, maxLocals := 7, code := method_3_code, exceptionTable := #[], attributes := #[] }
def k1m2 : Method := { name := "expect", desc := "(IIIII)J", sig := { parameters := [.int, .int, .int, .int, .int], returnType := some .long }, accessFlags := 10, code := some k1c2 }
def k1c3 : Code := { maxStack := 7, maxLocals := 12, code := code, exceptionTable := #[], attributes := #[] }
def k1m3 : Method := { name := "law", desc := "(IIII)Z", sig := { parameters := [.int, .int, .int, .int], returnType := some .boolean }, accessFlags := 9, code := some k1c3 }
/-- com/example/leased/leased/CountsStepPinLaw -/
def k1 : Class := { plain "com/example/leased/leased/CountsStepPinLaw" (some 0) with
  accessFlags := 49
  interfaces := #[]
  cf := some (fileOf pool1 30 #[] #[{ accessFlags := 1, nameIndex := 5, descriptorIndex := 6, attributes := #[] }, { accessFlags := 10, nameIndex := 33, descriptorIndex := 34, attributes := #[] }, { accessFlags := 10, nameIndex := 48, descriptorIndex := 49, attributes := #[] }, { accessFlags := 9, nameIndex := 53, descriptorIndex := 54, attributes := #[] }] 49 2 #[] #[])
  fields := #[]
  methods := #[k1m0, k1m1, k1m2, k1m3]
  instanceTypes := #[]
  staticTypes := #[]
  resolved := Array.replicate 62 none
  statics := none }

def pool2 : Array CpInfo := pool [(1, .class_ 2), (0, u "java/lang/constant/Constable"), (0, .class_ 4), (0, u "java/lang/Object")] 6

/-- java/lang/constant/Constable -/
def k2 : Class := { plain "java/lang/constant/Constable" (some 0) with
  accessFlags := 1537
  interfaces := #[]
  cf := some (fileOf pool2 1 #[] #[] 1537 3 #[] #[])
  fields := #[]
  methods := #[]
  instanceTypes := #[]
  staticTypes := #[]
  resolved := Array.replicate 11 none
  statics := none }

def pool3 : Array CpInfo := pool [(1, .class_ 2), (0, u "java/lang/Comparable"), (0, .class_ 4), (0, u "java/lang/Object")] 7

/-- java/lang/Comparable -/
def k3 : Class := { plain "java/lang/Comparable" (some 0) with
  accessFlags := 1537
  interfaces := #[]
  cf := some (fileOf pool3 1 #[] #[] 1537 3 #[] #[])
  fields := #[]
  methods := #[]
  instanceTypes := #[]
  staticTypes := #[]
  resolved := Array.replicate 12 none
  statics := none }

def pool4 : Array CpInfo := pool [(1, .class_ 2), (0, u "java/io/Serializable"), (0, .class_ 4), (0, u "java/lang/Object")] 2

/-- java/io/Serializable -/
def k4 : Class := { plain "java/io/Serializable" (some 0) with
  accessFlags := 1537
  interfaces := #[]
  cf := some (fileOf pool4 1 #[] #[] 1537 3 #[] #[])
  fields := #[]
  methods := #[]
  instanceTypes := #[]
  staticTypes := #[]
  resolved := Array.replicate 7 none
  statics := none }

def pool5 : Array CpInfo := pool [(2, .class_ 4), (1, u "java/lang/Enum"), (0, u "name"), (0, u "Ljava/lang/String;"), (0, .fieldref 2 8), (0, .nameAndType 9 10), (0, u "ordinal"), (0, u "I"), (1, .class_ 14), (1, u "java/lang/Object"), (4, u "hash"), (86, .class_ 108), (1, u "java/lang/Enum$EnumDesc"), (2, .class_ 112), (0, u "java/lang/constant/Constable"), (0, .class_ 114), (0, u "java/lang/Comparable"), (0, .class_ 116), (0, u "java/io/Serializable"), (9, u "()I")] 77

def k5c0 : Code := { maxStack := 1, maxLocals := 1, code := jdk_37_method_2_code, exceptionTable := #[], attributes := #[] }
def k5m0 : Method := { name := "ordinal", desc := "()I", sig := { parameters := [], returnType := some .int }, accessFlags := 17, code := some k5c0 }
/-- java/lang/Enum -/
def k5 : Class := { plain "java/lang/Enum" (some 0) with
  accessFlags := 1057
  interfaces := #[2, 3, 4]
  cf := some (fileOf pool5 2 #[.nestMembers #[106]] #[{ accessFlags := 17, nameIndex := 9, descriptorIndex := 126, attributes := #[] }] 1057 12 #[111, 113, 115] #[{ accessFlags := 18, nameIndex := 5, descriptorIndex := 6, attributes := #[] }, { accessFlags := 18, nameIndex := 9, descriptorIndex := 10, attributes := #[] }, { accessFlags := 2, nameIndex := 19, descriptorIndex := 10, attributes := #[] }])
  fields := #[{ name := "name", type := (.object "java/lang/String"), accessFlags := 18, slot := 0, constantValue := 0 }, { name := "ordinal", type := .int, accessFlags := 18, slot := 1, constantValue := 0 }, { name := "hash", type := .int, accessFlags := 2, slot := 2, constantValue := 0 }]
  methods := #[k5m0]
  instanceTypes := #[(.object "java/lang/String"), .int, .int]
  staticTypes := #[]
  resolved := Array.replicate 204 none
  statics := none }

def pool6 : Array CpInfo := pool [(1, .class_ 2), (0, u "com/example/leased/leased/ElectorStatus$Count"), (2, u "ACQUISITIONS"), (0, u "Lcom/example/leased/leased/ElectorStatus$Count;"), (2, u "EXPIRED_TAKEOVERS"), (2, u "RENEWALS"), (2, u "RENEWALS_FAILED"), (2, u "HOLDINGS_LOST"), (2, u "RELEASES"), (0, .fieldref 1 23), (0, .nameAndType 24 25), (0, u "$VALUES"), (0, u "[Lcom/example/leased/leased/ElectorStatus$Count;"), (0, .methodref 27 28), (0, .class_ 25), (0, .nameAndType 29 30), (0, u "clone"), (0, u "()Ljava/lang/Object;"), (1, .class_ 34), (1, u "java/lang/Enum"), (8, u "help"), (0, u "Ljava/lang/String;"), (40, u "()[Lcom/example/leased/leased/ElectorStatus$Count;"), (0, u "values"), (14, .class_ 102), (0, u "com/example/leased/leased/ElectorStatus")] 2

def k6c0 : Code := { maxStack := 1, maxLocals := 0, code := prog_8_method_1_code, exceptionTable := #[], attributes := #[] }
def k6m0 : Method := { name := "values", desc := "()[Lcom/example/leased/leased/ElectorStatus$Count;", sig := { parameters := [], returnType := some (.array (.object "com/example/leased/leased/ElectorStatus$Count")) }, accessFlags := 9, code := some k6c0 }
/-- com/example/leased/leased/ElectorStatus$Count -/
def k6 : Class := { plain "com/example/leased/leased/ElectorStatus$Count" (some 5) with
  accessFlags := 16433
  interfaces := #[]
  cf := some (fileOf pool6 1 #[.nestHost 101] #[{ accessFlags := 9, nameIndex := 86, descriptorIndex := 85, attributes := #[] }] 16433 32 #[] #[{ accessFlags := 16409, nameIndex := 5, descriptorIndex := 6, attributes := #[] }, { accessFlags := 16409, nameIndex := 9, descriptorIndex := 6, attributes := #[] }, { accessFlags := 16409, nameIndex := 12, descriptorIndex := 6, attributes := #[] }, { accessFlags := 16409, nameIndex := 15, descriptorIndex := 6, attributes := #[] }, { accessFlags := 16409, nameIndex := 18, descriptorIndex := 6, attributes := #[] }, { accessFlags := 16409, nameIndex := 21, descriptorIndex := 6, attributes := #[] }, { accessFlags := 18, nameIndex := 43, descriptorIndex := 44, attributes := #[] }, { accessFlags := 4122, nameIndex := 24, descriptorIndex := 25, attributes := #[] }])
  fields := #[{ name := "ACQUISITIONS", type := (.object "com/example/leased/leased/ElectorStatus$Count"), accessFlags := 16409, slot := 0, constantValue := 0 }, { name := "EXPIRED_TAKEOVERS", type := (.object "com/example/leased/leased/ElectorStatus$Count"), accessFlags := 16409, slot := 1, constantValue := 0 }, { name := "RENEWALS", type := (.object "com/example/leased/leased/ElectorStatus$Count"), accessFlags := 16409, slot := 2, constantValue := 0 }, { name := "RENEWALS_FAILED", type := (.object "com/example/leased/leased/ElectorStatus$Count"), accessFlags := 16409, slot := 3, constantValue := 0 }, { name := "HOLDINGS_LOST", type := (.object "com/example/leased/leased/ElectorStatus$Count"), accessFlags := 16409, slot := 4, constantValue := 0 }, { name := "RELEASES", type := (.object "com/example/leased/leased/ElectorStatus$Count"), accessFlags := 16409, slot := 5, constantValue := 0 }, { name := "help", type := (.object "java/lang/String"), accessFlags := 18, slot := 3, constantValue := 0 }, { name := "$VALUES", type := (.array (.object "com/example/leased/leased/ElectorStatus$Count")), accessFlags := 4122, slot := 6, constantValue := 0 }]
  methods := #[k6m0]
  instanceTypes := #[(.object "java/lang/String"), .int, .int, (.object "java/lang/String")]
  staticTypes := #[(.object "com/example/leased/leased/ElectorStatus$Count"), (.object "com/example/leased/leased/ElectorStatus$Count"), (.object "com/example/leased/leased/ElectorStatus$Count"), (.object "com/example/leased/leased/ElectorStatus$Count"), (.object "com/example/leased/leased/ElectorStatus$Count"), (.object "com/example/leased/leased/ElectorStatus$Count"), (.array (.object "com/example/leased/leased/ElectorStatus$Count"))]
  resolved := Array.replicate 105 none
  statics := some 0 }

def pool7 : Array CpInfo := pool [(1, .methodref 2 3), (0, .class_ 4), (0, .nameAndType 5 6), (0, u "com/example/leased/leased/ElectorStatus$Count"), (0, u "values"), (0, u "()[Lcom/example/leased/leased/ElectorStatus$Count;"), (0, .methodref 8 9), (0, .class_ 10), (0, .nameAndType 11 12), (0, u "com/example/leased/leased/ElectorStatus$Counts"), (0, u "<init>"), (0, u "([J)V"), (0, .methodref 14 15), (0, .class_ 16), (0, .nameAndType 11 17), (0, u "java/lang/Object"), (0, u "()V"), (0, .fieldref 8 19), (0, .nameAndType 5 20), (0, u "[J"), (0, .methodref 2 22), (0, .nameAndType 23 24), (0, u "ordinal"), (0, u "()I"), (7, u "step"), (0, u "(Lcom/example/leased/leased/ElectorStatus$Count;)V"), (0, u "get"), (0, u "(Lcom/example/leased/leased/ElectorStatus$Count;)J"), (5, .class_ 42), (0, u "com/example/leased/leased/ElectorStatus")] 3

def k7c0 : Code := { maxStack := 2, maxLocals := 1, code := prog_9_method_1_code, exceptionTable := #[], attributes := #[] }
def k7m0 : Method := { name := "<init>", desc := "()V", sig := { parameters := [], returnType := none }, accessFlags := 0, code := some k7c0 }
def k7c1 : Code := { maxStack := 2, maxLocals := 2, code := prog_9_method_2_code, exceptionTable := #[], attributes := #[] }
def k7m1 : Method := { name := "<init>", desc := "([J)V", sig := { parameters := [(.array .long)], returnType := none }, accessFlags := 2, code := some k7c1 }
def k7c2 : Code := { maxStack := 6, maxLocals := 2, code := prog_9_method_3_code, exceptionTable := #[], attributes := #[] }
def k7m2 : Method := { name := "step", desc := "(Lcom/example/leased/leased/ElectorStatus$Count;)V", sig := { parameters := [(.object "com/example/leased/leased/ElectorStatus$Count")], returnType := none }, accessFlags := 0, code := some k7c2 }
def k7c3 : Code := { maxStack := 2, maxLocals := 2, code := prog_9_method_4_code, exceptionTable := #[], attributes := #[] }
def k7m3 : Method := { name := "get", desc := "(Lcom/example/leased/leased/ElectorStatus$Count;)J", sig := { parameters := [(.object "com/example/leased/leased/ElectorStatus$Count")], returnType := some .long }, accessFlags := 0, code := some k7c3 }
/-- com/example/leased/leased/ElectorStatus$Counts -/
def k7 : Class := { plain "com/example/leased/leased/ElectorStatus$Counts" (some 0) with
  accessFlags := 32
  interfaces := #[]
  cf := some (fileOf pool7 8 #[.nestHost 41] #[{ accessFlags := 0, nameIndex := 11, descriptorIndex := 17, attributes := #[] }, { accessFlags := 2, nameIndex := 11, descriptorIndex := 12, attributes := #[] }, { accessFlags := 0, nameIndex := 32, descriptorIndex := 33, attributes := #[] }, { accessFlags := 0, nameIndex := 34, descriptorIndex := 35, attributes := #[] }] 32 14 #[] #[{ accessFlags := 18, nameIndex := 5, descriptorIndex := 20, attributes := #[] }])
  fields := #[{ name := "values", type := (.array .long), accessFlags := 18, slot := 0, constantValue := 0 }]
  methods := #[k7m0, k7m1, k7m2, k7m3]
  instanceTypes := #[(.array .long)]
  staticTypes := #[]
  resolved := Array.replicate 46 none
  statics := none }

def pool8 : Array CpInfo := pool [(1, .class_ 2), (0, u "java/lang/Cloneable"), (0, .class_ 4), (0, u "java/lang/Object")] 2

/-- java/lang/Cloneable -/
def k8 : Class := { plain "java/lang/Cloneable" (some 0) with
  accessFlags := 1537
  interfaces := #[]
  cf := some (fileOf pool8 1 #[] #[] 1537 3 #[] #[])
  fields := #[]
  methods := #[]
  instanceTypes := #[]
  staticTypes := #[]
  resolved := Array.replicate 7 none
  statics := none }

/-- the primitive byte -/
def k9 : Class := { plain "byte" none with kind := .primitive 'B', accessFlags := 0x411 }
/-- [B -/
def k10 : Class := { plain "[B" (some 0) with kind := .array 9 .byte, interfaces := #[8, 4], accessFlags := 1041 }

/-- the primitive int -/
def k11 : Class := { plain "int" none with kind := .primitive 'I', accessFlags := 0x411 }
/-- [I -/
def k12 : Class := { plain "[I" (some 0) with kind := .array 11 .int, interfaces := #[8, 4], accessFlags := 1041 }

/-- the primitive long -/
def k13 : Class := { plain "long" none with kind := .primitive 'J', accessFlags := 0x411 }
/-- [J -/
def k14 : Class := { plain "[J" (some 0) with kind := .array 13 .long, interfaces := #[8, 4], accessFlags := 1041 }

/-- [Lcom/example/leased/leased/ElectorStatus$Count; -/
def k15 : Class := { plain "[Lcom/example/leased/leased/ElectorStatus$Count;" (some 0) with kind := .array 6 (.object "com/example/leased/leased/ElectorStatus$Count"), interfaces := #[8, 4], accessFlags := 1041 }

def heap : Heap := #[{ cls := 6, slots := #[.ref 2, .ref 5, .ref 4, .ref 3, .ref 6, .ref 7, .ref 1], vm := .statics 6 },
  { cls := 15, slots := #[.ref 2, .ref 5, .ref 4, .ref 3, .ref 6, .ref 7], vm := .none },
  { cls := 6, slots := #[.null, .int 0, .int 0, .null], vm := .none },
  { cls := 6, slots := #[.null, .int 3, .int 0, .null], vm := .none },
  { cls := 6, slots := #[.null, .int 2, .int 0, .null], vm := .none },
  { cls := 6, slots := #[.null, .int 1, .int 0, .null], vm := .none },
  { cls := 6, slots := #[.null, .int 4, .int 0, .null], vm := .none },
  { cls := 6, slots := #[.null, .int 5, .int 0, .null], vm := .none }]
def classes : Array Class := #[k0, k1, k2, k3, k4, k5, k6, k7, k8, k9, k10, k11, k12, k13, k14, k15]
def interned : List (Array UInt16 × Addr) := []
def slotsUsed : Nat := 37
def theMethod : MethodId := ⟨1, 3⟩
def args0 : Array Value := #[.int 5, .int 4, .int 3, .int 2]
def aboutOver (below : List Frame) : State where
  vm := { classes := classes, interned := interned.toArray }
  heap := heap
  slotsUsed := slotsUsed
  threads := #[{ frames := .invoking theMethod args0 :: below }]
def below0 : List Frame := [.native { method := ⟨0, 0⟩, args := #[] }]
def about1 : State := aboutOver below0
def p0 : Program := .bare "" "" ""
def e0 : Env := launch0.env 0 0 0
theorem w_frames : about1.frames = Frame.invoking theMethod args0 :: below0 := rfl
set_option maxRecDepth 65536 in
theorem w_args : argsFit about1.vm theMethod args0 = true := by decide +kernel
set_option maxRecDepth 65536 in
theorem w_heap : heapFits about1 = true := by decide +kernel
set_option maxRecDepth 65536 in
theorem w_runnable : about1.curStatus? = some .runnable := by decide +kernel
set_option maxRecDepth 65536 in
theorem w_alone : about1.alone = true := by decide +kernel
set_option maxRecDepth 65536 in
theorem w_named : about1.methodNamed? x = some theMethod := by decide +kernel
set_option maxRecDepth 65536 in
theorem w_hears : about1.hears theMethod below0 = true := by decide +kernel
set_option maxRecDepth 65536 in
theorem w_ripe : about1.ripe theMethod args0 below0 = true := by decide +kernel
theorem w_running : about1.status = .running := rfl
set_option maxRecDepth 65536 in
theorem w_room : about1.hasRoom e0.platform room_1 = true :=
  launch0.hasRoom_least _ room_1 (by decide +kernel) (by decide +kernel) (by decide +kernel) (by decide +kernel) (by decide +kernel) (by decide +kernel)
theorem allAtoms_all (ts : List Jvm.Cond) (a : Array Jvm.Value) (st : Jvm.State) : (allAtoms ts).before a st = ts.all (fun c => c.before a st) := by
  induction ts with
  | nil => rfl
  | cons c t ih =>
    show (Jvm.Cond.and c (allAtoms t)).before a st = _
    rw [Jvm.Cond.before_and, ih, List.all_cons]
def words1 : List Jvm.Cond := Jvm.Cond.code x code maxLocals ret :: tables_1
/-- a 'code' word, met by the world's own term for the bytes: nothing is compared byte by byte -/
theorem code_word {y : MethodName} {bytes : ByteArray} {mx : Nat} {rt : Option FieldType} {a : Array Value} {s : State} {m : MethodId} {meth : Method} {c : Code} (h1 : s.methodNamed? y = some m) (h2 : s.vm.method? m = some meth) (h3 : meth.code = some c) (h4 : c.code = bytes)
    (h5 : (c.maxLocals == mx && c.exceptionTable.isEmpty && decide (c.maxStack ≤ mostOperands) && decide (meth.sig.returnType = rt) && !meth.locks && decide (parseMethodDescriptor y.desc = some meth.sig)) = true) : (Jvm.Cond.code y bytes mx rt).before a s = true := by
  simp only [Bool.and_eq_true, beq_iff_eq, Bool.not_eq_true', decide_eq_true_eq] at h5
  obtain ⟨⟨⟨⟨⟨g1, g2⟩, g3⟩, g4⟩, g5⟩, g6⟩ := h5
  simp [Cond.before, Cond.holds, Cond.value, h1, h2, h3, h4, g1, g2, g3, g4, g5, g6]
def isCode : Jvm.Cond → Bool
  | .code _ _ _ _ => true
  | _ => false
theorem all_split {L : List Jvm.Cond} {P : Jvm.Cond → Bool} (h1 : L.all (fun c => isCode c || P c) = true) (h2 : ∀ c ∈ L.filter isCode, P c = true) : L.all P = true := by
  refine List.all_eq_true.mpr fun c hc => ?_
  have h := List.all_eq_true.mp h1 c hc
  rcases Bool.eq_false_or_eq_true (isCode c) with hi | hi
  · exact h2 c (List.mem_filter.mpr ⟨hc, hi⟩)
  · simpa [hi] using h
set_option maxRecDepth 65536 in
theorem w_c0 : (Jvm.Cond.code x code maxLocals ret).before args0 about1 = true := code_word (m := ⟨1, 3⟩) (meth := k1m3) (c := k1c3) (by decide +kernel) rfl rfl rfl (by decide +kernel)
set_option maxRecDepth 65536 in
theorem w_c1 : (Jvm.Cond.code ({ cls := "com/example/leased/leased/CountsStepPinLaw", name := "pick", desc := "(I)Lcom/example/leased/leased/ElectorStatus$Count;" } : Jvm.MethodName) method_2_code (1 : Nat) (Option.some (Jvm.ClassFile.FieldType.object "com/example/leased/leased/ElectorStatus$Count"))).before args0 about1 = true := code_word (m := ⟨1, 1⟩) (meth := k1m1) (c := k1c1) (by decide +kernel) rfl rfl rfl (by decide +kernel)
set_option maxRecDepth 65536 in
theorem w_c2 : (Jvm.Cond.code ({ cls := "com/example/leased/leased/ElectorStatus$Counts", name := "<init>", desc := "()V" } : Jvm.MethodName) prog_9_method_1_code (1 : Nat) (Option.none : Option Jvm.ClassFile.FieldType)).before args0 about1 = true := code_word (m := ⟨7, 0⟩) (meth := k7m0) (c := k7c0) (by decide +kernel) rfl rfl rfl (by decide +kernel)
set_option maxRecDepth 65536 in
theorem w_c3 : (Jvm.Cond.code ({ cls := "com/example/leased/leased/ElectorStatus$Count", name := "values", desc := "()[Lcom/example/leased/leased/ElectorStatus$Count;" } : Jvm.MethodName) prog_8_method_1_code (0 : Nat) (Option.some (Jvm.ClassFile.FieldType.array (Jvm.ClassFile.FieldType.object "com/example/leased/leased/ElectorStatus$Count")))).before args0 about1 = true := code_word (m := ⟨6, 0⟩) (meth := k6m0) (c := k6c0) (by decide +kernel) rfl rfl rfl (by decide +kernel)
set_option maxRecDepth 65536 in
theorem w_c4 : (Jvm.Cond.code ({ cls := "com/example/leased/leased/ElectorStatus$Counts", name := "<init>", desc := "([J)V" } : Jvm.MethodName) prog_9_method_2_code (2 : Nat) (Option.none : Option Jvm.ClassFile.FieldType)).before args0 about1 = true := code_word (m := ⟨7, 1⟩) (meth := k7m1) (c := k7c1) (by decide +kernel) rfl rfl rfl (by decide +kernel)
set_option maxRecDepth 65536 in
theorem w_c5 : (Jvm.Cond.code ({ cls := "java/lang/Object", name := "<init>", desc := "()V" } : Jvm.MethodName) object_method_1_code (1 : Nat) (Option.none : Option Jvm.ClassFile.FieldType)).before args0 about1 = true := code_word (m := ⟨0, 0⟩) (meth := k0m0) (c := k0c0) (by decide +kernel) rfl rfl rfl (by decide +kernel)
set_option maxRecDepth 65536 in
theorem w_c6 : (Jvm.Cond.code ({ cls := "com/example/leased/leased/ElectorStatus$Counts", name := "step", desc := "(Lcom/example/leased/leased/ElectorStatus$Count;)V" } : Jvm.MethodName) prog_9_method_3_code (2 : Nat) (Option.none : Option Jvm.ClassFile.FieldType)).before args0 about1 = true := code_word (m := ⟨7, 2⟩) (meth := k7m2) (c := k7c2) (by decide +kernel) rfl rfl rfl (by decide +kernel)
set_option maxRecDepth 65536 in
theorem w_c7 : (Jvm.Cond.code ({ cls := "java/lang/Enum", name := "ordinal", desc := "()I" } : Jvm.MethodName) jdk_37_method_2_code (1 : Nat) (Option.some Jvm.ClassFile.FieldType.int)).before args0 about1 = true := code_word (m := ⟨5, 0⟩) (meth := k5m0) (c := k5c0) (by decide +kernel) rfl rfl rfl (by decide +kernel)
set_option maxRecDepth 65536 in
theorem w_c8 : (Jvm.Cond.code ({ cls := "com/example/leased/leased/ElectorStatus$Counts", name := "get", desc := "(Lcom/example/leased/leased/ElectorStatus$Count;)J" } : Jvm.MethodName) prog_9_method_4_code (2 : Nat) (Option.some Jvm.ClassFile.FieldType.long)).before args0 about1 = true := code_word (m := ⟨7, 3⟩) (meth := k7m3) (c := k7c3) (by decide +kernel) rfl rfl rfl (by decide +kernel)
set_option maxRecDepth 65536 in
theorem w_c9 : (Jvm.Cond.code ({ cls := "com/example/leased/leased/CountsStepPinLaw", name := "expect", desc := "(IIIII)J" } : Jvm.MethodName) method_3_code (7 : Nat) (Option.some Jvm.ClassFile.FieldType.long)).before args0 about1 = true := code_word (m := ⟨1, 2⟩) (meth := k1m2) (c := k1c2) (by decide +kernel) rfl rfl rfl (by decide +kernel)
def codes1 : List Jvm.Cond := [Jvm.Cond.code x code maxLocals ret, Jvm.Cond.code ({ cls := "com/example/leased/leased/CountsStepPinLaw", name := "pick", desc := "(I)Lcom/example/leased/leased/ElectorStatus$Count;" } : Jvm.MethodName) method_2_code (1 : Nat) (Option.some (Jvm.ClassFile.FieldType.object "com/example/leased/leased/ElectorStatus$Count")), Jvm.Cond.code ({ cls := "com/example/leased/leased/ElectorStatus$Counts", name := "<init>", desc := "()V" } : Jvm.MethodName) prog_9_method_1_code (1 : Nat) (Option.none : Option Jvm.ClassFile.FieldType), Jvm.Cond.code ({ cls := "com/example/leased/leased/ElectorStatus$Count", name := "values", desc := "()[Lcom/example/leased/leased/ElectorStatus$Count;" } : Jvm.MethodName) prog_8_method_1_code (0 : Nat) (Option.some (Jvm.ClassFile.FieldType.array (Jvm.ClassFile.FieldType.object "com/example/leased/leased/ElectorStatus$Count"))), Jvm.Cond.code ({ cls := "com/example/leased/leased/ElectorStatus$Counts", name := "<init>", desc := "([J)V" } : Jvm.MethodName) prog_9_method_2_code (2 : Nat) (Option.none : Option Jvm.ClassFile.FieldType), Jvm.Cond.code ({ cls := "java/lang/Object", name := "<init>", desc := "()V" } : Jvm.MethodName) object_method_1_code (1 : Nat) (Option.none : Option Jvm.ClassFile.FieldType), Jvm.Cond.code ({ cls := "com/example/leased/leased/ElectorStatus$Counts", name := "step", desc := "(Lcom/example/leased/leased/ElectorStatus$Count;)V" } : Jvm.MethodName) prog_9_method_3_code (2 : Nat) (Option.none : Option Jvm.ClassFile.FieldType), Jvm.Cond.code ({ cls := "java/lang/Enum", name := "ordinal", desc := "()I" } : Jvm.MethodName) jdk_37_method_2_code (1 : Nat) (Option.some Jvm.ClassFile.FieldType.int), Jvm.Cond.code ({ cls := "com/example/leased/leased/ElectorStatus$Counts", name := "get", desc := "(Lcom/example/leased/leased/ElectorStatus$Count;)J" } : Jvm.MethodName) prog_9_method_4_code (2 : Nat) (Option.some Jvm.ClassFile.FieldType.long), Jvm.Cond.code ({ cls := "com/example/leased/leased/CountsStepPinLaw", name := "expect", desc := "(IIIII)J" } : Jvm.MethodName) method_3_code (7 : Nat) (Option.some Jvm.ClassFile.FieldType.long)]
set_option maxRecDepth 65536 in
theorem codes_eq : words1.filter isCode = codes1 := rfl
theorem w_codes : ∀ c ∈ words1.filter isCode, c.before args0 about1 = true := by
  rw [codes_eq]
  intro c hc
  simp only [codes1, List.mem_cons, List.not_mem_nil, or_false] at hc
  rcases hc with rfl | rfl | rfl | rfl | rfl | rfl | rfl | rfl | rfl | rfl
  · exact w_c0
  · exact w_c1
  · exact w_c2
  · exact w_c3
  · exact w_c4
  · exact w_c5
  · exact w_c6
  · exact w_c7
  · exact w_c8
  · exact w_c9
set_option maxRecDepth 65536 in
theorem w_t1 : (words1.take 24).all (fun c => isCode c || c.before args0 about1) = true := by decide +kernel
set_option maxRecDepth 65536 in
theorem w_t2 : ((words1.drop 24).take 24).all (fun c => isCode c || c.before args0 about1) = true := by decide +kernel
set_option maxRecDepth 65536 in
theorem w_t3 : ((words1.drop 24).drop 24).all (fun c => isCode c || c.before args0 about1) = true := by decide +kernel
theorem w_tables : (allAtoms (Jvm.Cond.code x code maxLocals ret :: tables_1)).before args0 about1 = true := by
  rw [allAtoms_all]
  show words1.all (fun c => c.before args0 about1) = true
  refine all_split ?_ w_codes
  rw [← List.take_append_drop 24 words1, List.all_append, w_t1, ← List.take_append_drop 24 (words1.drop 24), List.all_append, w_t2, w_t3]
  rfl
set_option maxRecDepth 65536 in
theorem w_case : (Jvm.Cond.and given_1 narrow_1).before args0 about1 = true := by decide +kernel
theorem w_applies : (headSpec (Jvm.Cond.code x code maxLocals ret :: tables_1) room_1).applies x e0.platform about1 = true :=
  (Spec.applies_iff w_frames).mpr ⟨w_running, w_runnable, w_alone, w_named, w_hears, w_ripe, w_room, w_tables⟩
theorem atStart : AtStart classFile x code maxLocals ret World_1 tables_1 room_1 Calls_1 rest_1 Pre_1 launch0 p0 e0 about1 theMethod args0 below0 :=
  ⟨lists_1, trivial, launch0.admits_env _ _ _, launch0.least_env, fairChoices_fair.cas, fairChoices_fair.clock, w_frames, w_args, w_heap, w_applies, trivial, trivial, w_case⟩
end start1
theorem witness_1 : WitnessClaimed_1 := ⟨start1.p0, start1.e0, start1.about1, start1.theMethod, start1.args0, start1.below0, start1.atStart⟩
end Jvm.Pilot.@@N@@
