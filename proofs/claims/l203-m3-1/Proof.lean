import JvmDerived
import JvmDerived.Pilot.@@N@@Statement
import JvmDerived.Pilot.@@N@@Code
set_option linter.unusedVariables false
set_option linter.unusedSimpArgs false
@@BLOCK:NumsL.lean.txt@@
namespace Jvm.Pilot.@@N@@
open Jvm Jvm.ClassFile Sem Op Lib Jvm.Free Jvm.Stand Jvm.LawKit Jvm.RoadKit Bundle Jvm.Pilot.@@N@@.Jvm.D
/-! the run from a frame on: it ends, and what it leaves -/
def own_F (p : Program) (e : Env) (below : List Frame) (Q : Outcome → State → Prop) (T : State) (g : JFrame) : Prop :=
  ∃ s₂ o, Steps p.tables e below (T.setTop g) s₂ ∧ s₂.status = .running ∧ Ended s₂ below o ∧ Q o s₂
theorem own_go {p : Program} {e : Env} {below : List Frame} {Q : Outcome → State → Prop} {T T' : State} {g g' : JFrame} (st : ∀ target, Steps p.tables e below (T'.setTop g') target → Steps p.tables e below (T.setTop g) target) (k : own_F p e below Q T' g') : own_F p e below Q T g := by
  obtain ⟨s₂, o, h1, h2, h3, h4⟩ := k
  exact ⟨s₂, o, st _ h1, h2, h3, h4⟩
theorem own_goT {p : Program} {e : Env} {below : List Frame} {Q : Outcome → State → Prop} {T T' : State} {g g' : JFrame} (st : Steps p.tables e below (T.setTop g) (T'.setTop g')) (k : own_F p e below Q T' g') : own_F p e below Q T g := by
  obtain ⟨s₂, o, h1, h2, h3, h4⟩ := k
  exact ⟨s₂, o, st.trans h1, h2, h3, h4⟩
theorem own_end {p : Program} {e : Env} {below : List Frame} {Q : Outcome → State → Prop} {T s₂ : State} {g : JFrame} {o : Outcome} (st : Steps p.tables e below (T.setTop g) s₂) (h1 : s₂.status = .running) (h2 : Ended s₂ below o) (h3 : Q o s₂) : own_F p e below Q T g := ⟨s₂, o, st, h1, h2, h3⟩
theorem own_ext_tr {h0 h h' : Heap} (E : Ext h0 h) (E' : Ext h h') : Ext h0 h' := ⟨Nat.le_trans E.1 E'.1, fun a c q => E'.2 a c (E.2 a c q)⟩
theorem own_ext_rf (h : Heap) : Ext h h := ⟨Nat.le_refl _, fun _ _ q => q⟩
theorem own_ext_keep {h0 h h' : Heap} {ws : List Addr} (E : Ext h0 h) (K : Keep h h' ws) (q : ∀ x ∈ ws, h0.size ≤ x) : Ext h0 h' :=
  ⟨Nat.le_trans E.1 K.1, fun a c ha => K.2.1 a c (E.2 a c ha) fun k => absurd (Array.getElem?_eq_some_iff.mp ha).1 (Nat.not_lt.mpr (q a k))⟩
theorem own_ext_wr {h0 h h' : Heap} {a : Addr} {sl : Nat} {v : Value} (E : Ext h0 h) (W : Wr h h' a sl v) (q : h0.size ≤ a) : Ext h0 h' :=
  own_ext_keep E (Keep.of_wr W) fun x hx => by cases List.mem_singleton.mp hx; exact q
theorem own_frc {n k : Nat} {L : List Loc} (h : n = k) (N : Fr n L) : Fr k L := h ▸ N
theorem own_one {a b : Addr} (h : a ≠ b) : a ∉ [b] := fun q => h (List.mem_singleton.mp q)
theorem own_all1 {n : Nat} {b : Addr} (h : n ≤ b) : ∀ x ∈ [b], n ≤ x := fun x hx => by cases List.mem_singleton.mp hx; exact h
theorem own_all0 {n : Nat} : ∀ x ∈ ([] : List Addr), n ≤ x := fun x hx => nomatch hx
theorem own_lt_t {x y : Int64} (h : x < y) : lcmpW x y < 0 := by rw [lcW]; exact (lc_lt _ _).mpr h
theorem own_lt_f {x y : Int64} (h : ¬ x < y) : ¬ lcmpW x y < 0 := by rw [lcW]; exact fun k => h ((lc_lt _ _).mp k)
theorem own_gt_t {x y : Int64} (h : y < x) : 0 < lcmpW x y := by rw [lcW]; exact (lc_gt _ _).mpr h
theorem own_gt_f {x y : Int64} (h : ¬ y < x) : ¬ 0 < lcmpW x y := by rw [lcW]; exact fun k => h ((lc_gt _ _).mp k)
theorem own_eq_t {x y : Int64} (h : x = y) : lcmpW x y = 0 := by rw [lcW]; exact (lc_eq _ _).mpr h
theorem own_eq_f {x y : Int64} (h : ¬ x = y) : ¬ lcmpW x y = 0 := by rw [lcW]; exact fun k => h ((lc_eq _ _).mp k)
section OwnWords
variable {args : Array Value} {s : State} {t u : Term}
theorem own_eqi {k : Int32} (h : (Jvm.Cond.eq t (.int k)).value args s none s [] = some true) : t.eval args s none [] s = some (.int k) := by
  simp only [Cond.value, Term.eval] at h
  cases ht : t.eval args s none [] s with
  | none => simp [ht] at h
  | some x => cases x <;> simp [ht] at h ⊢; exact h
theorem own_eqr {b : Addr} (h : (Jvm.Cond.eq t u).value args s none s [] = some true) (hu : u.eval args s none [] s = some (.ref b)) : t.eval args s none [] s = some (.ref b) := by
  simp only [Cond.value, hu] at h
  cases ht : t.eval args s none [] s with
  | none => simp [ht] at h
  | some x => cases x <;> simp [ht] at h ⊢; exact h
theorem own_len {a : Addr} {k : Int32} {n : Nat} {cl : Cell} {ty : FieldType} (ht : t.eval args s none [] s = some (.ref a)) (h : (Term.length t).eval args s none [] s = some (.int k)) (A : RoadKit.Arr s s.heap a cl ty) (hk : k.toNatClampNeg = n) : cl.slots.size = n := by
  have ha : s.arrayAt? a = some cl := A.fin (Vm.Alike.refl _)
  by_cases hn : cl.slots.size < 2 ^ 31
  · rw [len_f ht ha hn] at h
    have e := Value.int.inj (Option.some.inj h)
    have q : cl.slots.size.toInt32.toInt = cl.slots.size := len_toInt hn
    rw [← hk, ← e]
    show _ = cl.slots.size.toInt32.toInt.toNat
    rw [q]; rfl
  · simp [Term.eval, ht, ha, hn] at h
theorem own_elem {a : Addr} {j : Int32} {v : Value} {cl : Cell} (ht : t.eval args s none [] s = some (.ref a)) (h : (Term.elem t (.int j)).eval args s none [] s = some v) (hc : s.heap[a]? = some cl) : cl.slots[j.toNatClampNeg]? = some v := (elem_in h ht (Term.int_eval j) hc).2
end OwnWords
theorem own_fne {Z : State} {h : Heap} {a b : Addr} {C n d : String} {x y : Value} (F : Fld Z h a C n d x) (G : Fld Z h b C n d y) (hn : x ≠ y) : a ≠ b := fun e => by
  subst e
  obtain ⟨c1, cf1, k1, i1, f1, h1, h2, -, -, -, -, h7⟩ := F
  obtain ⟨c2, cf2, k2, i2, f2, g1, g2, -, -, -, -, g7⟩ := G
  cases h1.symm.trans g1
  cases h2.symm.trans g2
  exact hn (Option.some.inj (h7.symm.trans g7))
/-! an array whose elements are all known -/
def own_A (Z : State) (h : Heap) (a : Addr) (k : ClassId) (ty : FieldType) (vs : List Value) : Prop := ∃ c : Cell, RoadKit.Arr Z h a c ty ∧ c.cls = k ∧ c.slots = vs.toArray
section OwnArrays
variable {Z : State} {h h' : Heap} {a b : Addr} {k : ClassId} {ty : FieldType} {vs : List Value} {sl : Nat} {v : Value} {ws : List Addr}
theorem own_A.lt (F : own_A Z h a k ty vs) : a < h.size := by obtain ⟨c, A, -⟩ := F; exact A.lt
theorem own_A.ext (F : own_A Z h a k ty vs) (E : Ext h h') : own_A Z h' a k ty vs := by obtain ⟨c, A, r⟩ := F; exact ⟨c, A.ext E, r⟩
theorem own_A.other (F : own_A Z h b k ty vs) (W : Wr h h' a sl v) (q : b ≠ a) : own_A Z h' b k ty vs := by obtain ⟨c, A, r⟩ := F; exact ⟨c, A.other W q, r⟩
theorem own_A.keep (F : own_A Z h a k ty vs) (K : Keep h h' ws) (q : a ∉ ws) : own_A Z h' a k ty vs := by obtain ⟨c, A, r⟩ := F; exact ⟨c, ⟨K.2.1 a c A.1 q, A.2⟩, r⟩
theorem own_A.new {n : Int32} {N : Nat} (A : RoadKit.Arr Z h a (newA k ty n) ty) (hN : n.toNatClampNeg = N) : own_A Z h a k ty (List.replicate N (defaultValue ty)) := ⟨_, A, rfl, by subst hN; simp [newA]⟩
theorem own_A.set (F : own_A Z h a k ty vs) (W : Wr h h' a sl v) : own_A Z h' a k ty (vs.set sl v) := by
  obtain ⟨c, A, q, e⟩ := F
  exact ⟨c.setSlot sl v, A.same W, q, by simp [Cell.setSlot, e]⟩
def own_el (c : Cell) : Nat → List Value → Prop
  | _, [] => True
  | i, v :: vs => c.slots[i]? = some v ∧ own_el c (i + 1) vs
theorem own_el_get {c : Cell} : ∀ (vs : List Value) (i : Nat), own_el c i vs → ∀ j, j < vs.length → c.slots[i + j]? = vs[j]?
  | [], _, _, j, hj => by simp at hj
  | v :: vs, i, H, 0, _ => by simpa using H.1
  | v :: vs, i, H, j + 1, hj => by
    have := own_el_get vs (i + 1) H.2 j (by simpa using hj)
    rw [show i + (j + 1) = i + 1 + j by omega, this]; simp
theorem own_A.of {c : Cell} (A : RoadKit.Arr Z h a c ty) (hs : c.slots.size = vs.length) (H : own_el c 0 vs) : own_A Z h a c.cls ty vs := by
  refine ⟨c, A, rfl, ?_⟩
  apply Array.ext_getElem?
  intro i
  by_cases hi : i < vs.length
  · have := own_el_get vs 0 H i hi
    rw [Nat.zero_add] at this
    rw [this]; simp
  · rw [Array.getElem?_eq_none (by omega), Array.getElem?_eq_none (by simp; omega)]
theorem own_getD {α : Type} (xs : List α) {i : Nat} (d : α) (hi : i < xs.length) : xs.getD i d = xs[i] := by simp [List.getD, hi]
theorem own_A.arv {z : Int32} {d : Value} (F : own_A Z h a k ty vs) (hz : ¬ z < 0) (hl : vs.length = z.toNatClampNeg) (hf : ∀ v ∈ vs, fits ty v = true) : Arv Z h a k ty z vs d := by
  obtain ⟨c, A, q, e⟩ := F
  refine ⟨c, A, q, by rw [e, List.size_toArray]; exact hl, hz, fun i hi => ?_, fun i hi => ?_⟩
  · rw [e, List.size_toArray] at hi
    rw [e, List.getElem?_toArray, List.getElem?_eq_getElem hi, own_getD _ _ hi]
  · rw [e, List.size_toArray] at hi
    rw [own_getD _ _ hi]; exact hf _ (List.getElem_mem hi)
theorem own_A.of_arv {z : Int32} {d : Value} (F : Arv Z h a k ty z vs d) (hl : vs.length = z.toNatClampNeg) : own_A Z h a k ty vs := by
  obtain ⟨c, A, q, S, -, H, -⟩ := F
  refine ⟨c, A, q, ?_⟩
  apply Array.ext_getElem?
  intro i
  by_cases hi : i < vs.length
  · rw [H i (by omega), List.getElem?_toArray, List.getElem?_eq_getElem hi, own_getD _ _ hi]
  · rw [Array.getElem?_eq_none (by omega), Array.getElem?_eq_none (by simp; omega)]
theorem own_A.sto {C : String} {y : Addr} (F : own_A Z h a k (.object C) vs) (O : Ovr Z k C) (I : Ins Z h y C true) : Sto Z h a (.ref y) := by
  obtain ⟨c, A, q, -⟩ := F
  exact Sto.ofV A q O I
variable {p : Program} {l : Launch} {e : Env} {R : Room} {s : State} {m : MethodId} {args : Array Value} {below : List Frame} {meth : Method} {c : Code} {T : State} {locs : List Loc} {cells slots : Nat}
theorem own_alen (X : Stand p l e R s m args below meth c T locs cells slots) (hx : p.tables.exec = Jvm.exec) (hZ : Z.Warmed39 s.vm) (eT : T.heap = h) (A : own_A Z h a k ty vs) {g : JFrame} (hg : g.method = m) {rest : List Value} (hs : g.stack = .ref a :: rest) (hd : decode c.code g.pc = .ok (.arraylength, 1)) {n : Int32} (hn : vs.length.toInt32 = n) {target : State}
    (hr : Steps p.tables e below (T.setTop { g with pc := g.pc + 1, stack := .int n :: rest }) target) : Steps p.tables e below (T.setTop g) target := by
  obtain ⟨c', A, -, e'⟩ := A
  refine X.arraylength hx (by rw [eT]; exact A.1) (State.isArrayOf_alike hZ.alike A.2.1) hg hs hd _ ?_
  rw [show c'.slots.size.toInt32 = n by rw [e', List.size_toArray]; exact hn]
  exact hr
theorem own_in {c' : Cell} {j : Int32} (e' : c'.slots = vs.toArray) (hj : ¬ j < 0) (hv : vs[j.toNatClampNeg]? = some v) : c'.slots[j.toNatClampNeg]? = some v ∧ ¬ (j < 0 ∨ c'.slots.size ≤ j.toNatClampNeg) := by
  have hv' : c'.slots[j.toNatClampNeg]? = some v := by rw [e', List.getElem?_toArray]; exact hv
  exact ⟨hv', fun q => q.elim hj fun z => absurd (Array.getElem?_eq_some_iff.mp hv').1 (Nat.not_lt.mpr z)⟩
theorem own_baload (X : Stand p l e R s m args below meth c T locs cells slots) (hx : p.tables.exec = Jvm.exec) (hZ : Z.Warmed39 s.vm) (eT : T.heap = h) (A : own_A Z h a k .byte vs) {j : Int32} (hj : ¬ j < 0) (hv : vs[j.toNatClampNeg]? = some v) {g : JFrame} (hg : g.method = m) {rest : List Value} (hs : g.stack = .int j :: .ref a :: rest) (hd : decode c.code g.pc = .ok (.baload, 1)) {target : State}
    (hr : Steps p.tables e below (T.setTop { g with pc := g.pc + 1, stack := v :: rest }) target) : Steps p.tables e below (T.setTop g) target := by
  obtain ⟨c', A, -, e'⟩ := A
  obtain ⟨hv', hin⟩ := own_in e' hj hv
  exact X.baloadBytes hx (by rw [eT]; exact A.1) (State.isArrayOf_alike hZ.alike A.2.1) A.2.2 hin hv' hg hs hd _ hr
theorem own_laload (X : Stand p l e R s m args below meth c T locs cells slots) (hx : p.tables.exec = Jvm.exec) (hZ : Z.Warmed39 s.vm) (eT : T.heap = h) (A : own_A Z h a k .long vs) {j : Int32} (hj : ¬ j < 0) (hv : vs[j.toNatClampNeg]? = some v) {g : JFrame} (hg : g.method = m) {rest : List Value} (hs : g.stack = .int j :: .ref a :: rest) (hd : decode c.code g.pc = .ok (.laload, 1)) {target : State}
    (hr : Steps p.tables e below (T.setTop { g with pc := g.pc + 1, stack := v :: rest }) target) : Steps p.tables e below (T.setTop g) target := by
  obtain ⟨c', A, -, e'⟩ := A
  obtain ⟨hv', hin⟩ := own_in e' hj hv
  exact X.laload hx (by rw [eT]; exact A.1) (State.isArrayOf_alike hZ.alike A.2.1) A.2.2 hin hv' hg hs hd _ hr
theorem own_iaload (X : Stand p l e R s m args below meth c T locs cells slots) (hx : p.tables.exec = Jvm.exec) (hZ : Z.Warmed39 s.vm) (eT : T.heap = h) (A : own_A Z h a k .int vs) {j : Int32} (hj : ¬ j < 0) (hv : vs[j.toNatClampNeg]? = some v) {g : JFrame} (hg : g.method = m) {rest : List Value} (hs : g.stack = .int j :: .ref a :: rest) (hd : decode c.code g.pc = .ok (.iaload, 1)) {target : State}
    (hr : Steps p.tables e below (T.setTop { g with pc := g.pc + 1, stack := v :: rest }) target) : Steps p.tables e below (T.setTop g) target := by
  obtain ⟨c', A, -, e'⟩ := A
  obtain ⟨hv', hin⟩ := own_in e' hj hv
  exact X.iaload hx (by rw [eT]; exact A.1) (State.isArrayOf_alike hZ.alike A.2.1) A.2.2 hin hv' hg hs hd _ hr
theorem own_caload (X : Stand p l e R s m args below meth c T locs cells slots) (hx : p.tables.exec = Jvm.exec) (hZ : Z.Warmed39 s.vm) (eT : T.heap = h) (A : own_A Z h a k .char vs) {j : Int32} (hj : ¬ j < 0) (hv : vs[j.toNatClampNeg]? = some v) {g : JFrame} (hg : g.method = m) {rest : List Value} (hs : g.stack = .int j :: .ref a :: rest) (hd : decode c.code g.pc = .ok (.caload, 1)) {target : State}
    (hr : Steps p.tables e below (T.setTop { g with pc := g.pc + 1, stack := v :: rest }) target) : Steps p.tables e below (T.setTop g) target := by
  obtain ⟨c', A, -, e'⟩ := A
  obtain ⟨hv', hin⟩ := own_in e' hj hv
  exact X.caload hx (by rw [eT]; exact A.1) (State.isArrayOf_alike hZ.alike A.2.1) A.2.2 hin hv' hg hs hd _ hr
theorem own_aaload (X : Stand p l e R s m args below meth c T locs cells slots) (hx : p.tables.exec = Jvm.exec) (hZ : Z.Warmed39 s.vm) (eT : T.heap = h) (A : own_A Z h a k ty vs) {j : Int32} (hj : ¬ j < 0) (hv : vs[j.toNatClampNeg]? = some v) (ht : ty.isReference = true) {g : JFrame} (hg : g.method = m) {rest : List Value} (hs : g.stack = .int j :: .ref a :: rest) (hd : decode c.code g.pc = .ok (.aaload, 1)) {target : State}
    (hr : Steps p.tables e below (T.setTop { g with pc := g.pc + 1, stack := v :: rest }) target) : Steps p.tables e below (T.setTop g) target := by
  obtain ⟨c', A, -, e'⟩ := A
  obtain ⟨hv', hin⟩ := own_in e' hj hv
  exact X.aaload hx (by rw [eT]; exact A.1) (State.isArrayOf_alike hZ.alike A.2.1) ht A.2.2 hin hv' hg hs hd _ hr
theorem own_inb {c' : Cell} {j : Int32} {i : Nat} (e' : c'.slots = vs.toArray) (hi : j.toNatClampNeg = i) (hj : ¬ j < 0) (hl : i < vs.length) : ¬ (j < 0 ∨ c'.slots.size ≤ j.toNatClampNeg) := fun q => q.elim hj fun z => by
  rw [e', List.size_toArray, hi] at z; omega
theorem own_bastore (X : Stand p l e R s m args below meth c T locs cells slots) (hx : p.tables.exec = Jvm.exec) (hZ : Z.Warmed39 s.vm) (eT : T.heap = h) (A : own_A Z h a k .byte vs) {j x : Int32} {i : Nat} (hi : j.toNatClampNeg = i) (hj : ¬ j < 0) (hl : i < vs.length) {g : JFrame} (hg : g.method = m) {rest : List Value} (hs : g.stack = .int x :: .int j :: .ref a :: rest) (hd : decode c.code g.pc = .ok (.bastore, 1)) :
    ∃ T' h', Stand p l e R s m args below meth c T' (locs ++ [⟨a, i⟩]) cells slots ∧ T'.heap = h' ∧ own_A Z h' a k .byte (vs.set i (.int (nar .byte x))) ∧ Wr h h' a i (.int (nar .byte x)) ∧ ∀ target, Steps p.tables e below (T'.setTop { g with pc := g.pc + 1, stack := rest }) target → Steps p.tables e below (T.setTop g) target := by
  obtain ⟨c', A', q, e'⟩ := A
  obtain ⟨T', h', X', e1, W, st⟩ := stB X hx hZ eT A' (own_inb e' hi hj hl) hg hs hd
  subst hi
  exact ⟨T', h', X', e1, own_A.set ⟨c', A', q, e'⟩ W, W, st⟩
theorem own_lastore (X : Stand p l e R s m args below meth c T locs cells slots) (hx : p.tables.exec = Jvm.exec) (hZ : Z.Warmed39 s.vm) (eT : T.heap = h) (A : own_A Z h a k .long vs) {j : Int32} {x : Int64} {i : Nat} (hi : j.toNatClampNeg = i) (hj : ¬ j < 0) (hl : i < vs.length) {g : JFrame} (hg : g.method = m) {rest : List Value} (hs : g.stack = .long x :: .int j :: .ref a :: rest) (hd : decode c.code g.pc = .ok (.lastore, 1)) :
    ∃ T' h', Stand p l e R s m args below meth c T' (locs ++ [⟨a, i⟩]) cells slots ∧ T'.heap = h' ∧ own_A Z h' a k .long (vs.set i (.long x)) ∧ Wr h h' a i (.long x) ∧ ∀ target, Steps p.tables e below (T'.setTop { g with pc := g.pc + 1, stack := rest }) target → Steps p.tables e below (T.setTop g) target := by
  obtain ⟨c', A', q, e'⟩ := A
  obtain ⟨T', h', X', e1, W, st⟩ := stJ X hx hZ eT A' (own_inb e' hi hj hl) hg hs hd
  subst hi
  exact ⟨T', h', X', e1, own_A.set ⟨c', A', q, e'⟩ W, W, st⟩
theorem own_aastore (X : Stand p l e R s m args below meth c T locs cells slots) (hx : p.tables.exec = Jvm.exec) (hZ : Z.Warmed39 s.vm) (eT : T.heap = h) (A : own_A Z h a k ty vs) {j : Int32} {i : Nat} (hi : j.toNatClampNeg = i) (hj : ¬ j < 0) (hl : i < vs.length) (ht : ty.isReference = true) (F : Sto Z h a v) {g : JFrame} (hg : g.method = m) {rest : List Value} (hs : g.stack = v :: .int j :: .ref a :: rest) (hd : decode c.code g.pc = .ok (.aastore, 1)) :
    ∃ T' h', Stand p l e R s m args below meth c T' (locs ++ [⟨a, i⟩]) cells slots ∧ T'.heap = h' ∧ own_A Z h' a k ty (vs.set i v) ∧ Wr h h' a i v ∧ ∀ target, Steps p.tables e below (T'.setTop { g with pc := g.pc + 1, stack := rest }) target → Steps p.tables e below (T.setTop g) target := by
  obtain ⟨c', A', q, e'⟩ := A
  obtain ⟨T', h', X', e1, W, st⟩ := stR X hx hZ eT A' (own_inb e' hi hj hl) ht F hg hs hd
  subst hi
  exact ⟨T', h', X', e1, own_A.set ⟨c', A', q, e'⟩ W, W, st⟩
end OwnArrays
theorem own_m31 (x : Int32) : (x &&& 2147483647).toInt = x.toInt % 2 ^ 31 := Jvm.Kit.i32_mask x 2147483647 (k := 31) (by decide) (by decide)
theorem own_mod15 (x : Int32) : (x &&& 2147483647) % 15 = 0 ∨ (x &&& 2147483647) % 15 = 1 ∨ (x &&& 2147483647) % 15 = 2 ∨ (x &&& 2147483647) % 15 = 3 ∨ (x &&& 2147483647) % 15 = 4 ∨ (x &&& 2147483647) % 15 = 5 ∨ (x &&& 2147483647) % 15 = 6 ∨ (x &&& 2147483647) % 15 = 7 ∨ (x &&& 2147483647) % 15 = 8 ∨ (x &&& 2147483647) % 15 = 9 ∨ (x &&& 2147483647) % 15 = 10 ∨ (x &&& 2147483647) % 15 = 11 ∨ (x &&& 2147483647) % 15 = 12 ∨ (x &&& 2147483647) % 15 = 13 ∨ (x &&& 2147483647) % 15 = 14 := by
  have h1 := own_m31 x
  have h2 : ((x &&& 2147483647) % 15).toInt = (x &&& 2147483647).toInt % (15 : Int32).toInt := Jvm.Kit.i32_rem_nonneg (by omega)
  have h3 : (15 : Int32).toInt = 15 := rfl
  have h4 : ((x &&& 2147483647) % 15).toInt = 0 ∨ ((x &&& 2147483647) % 15).toInt = 1 ∨ ((x &&& 2147483647) % 15).toInt = 2 ∨ ((x &&& 2147483647) % 15).toInt = 3 ∨ ((x &&& 2147483647) % 15).toInt = 4 ∨ ((x &&& 2147483647) % 15).toInt = 5 ∨ ((x &&& 2147483647) % 15).toInt = 6 ∨ ((x &&& 2147483647) % 15).toInt = 7 ∨ ((x &&& 2147483647) % 15).toInt = 8 ∨ ((x &&& 2147483647) % 15).toInt = 9 ∨ ((x &&& 2147483647) % 15).toInt = 10 ∨ ((x &&& 2147483647) % 15).toInt = 11 ∨ ((x &&& 2147483647) % 15).toInt = 12 ∨ ((x &&& 2147483647) % 15).toInt = 13 ∨ ((x &&& 2147483647) % 15).toInt = 14 := by rw [h2, h3]; omega
  rcases h4 with h | h | h | h | h | h | h | h | h | h | h | h | h | h | h
  · exact Or.inl (Int32.toInt_inj.mp h)
  · exact Or.inr (Or.inl (Int32.toInt_inj.mp h))
  · exact Or.inr (Or.inr (Or.inl (Int32.toInt_inj.mp h)))
  · exact Or.inr (Or.inr (Or.inr (Or.inl (Int32.toInt_inj.mp h))))
  · exact Or.inr (Or.inr (Or.inr (Or.inr (Or.inl (Int32.toInt_inj.mp h)))))
  · exact Or.inr (Or.inr (Or.inr (Or.inr (Or.inr (Or.inl (Int32.toInt_inj.mp h))))))
  · exact Or.inr (Or.inr (Or.inr (Or.inr (Or.inr (Or.inr (Or.inl (Int32.toInt_inj.mp h)))))))
  · exact Or.inr (Or.inr (Or.inr (Or.inr (Or.inr (Or.inr (Or.inr (Or.inl (Int32.toInt_inj.mp h))))))))
  · exact Or.inr (Or.inr (Or.inr (Or.inr (Or.inr (Or.inr (Or.inr (Or.inr (Or.inl (Int32.toInt_inj.mp h)))))))))
  · exact Or.inr (Or.inr (Or.inr (Or.inr (Or.inr (Or.inr (Or.inr (Or.inr (Or.inr (Or.inl (Int32.toInt_inj.mp h))))))))))
  · exact Or.inr (Or.inr (Or.inr (Or.inr (Or.inr (Or.inr (Or.inr (Or.inr (Or.inr (Or.inr (Or.inl (Int32.toInt_inj.mp h)))))))))))
  · exact Or.inr (Or.inr (Or.inr (Or.inr (Or.inr (Or.inr (Or.inr (Or.inr (Or.inr (Or.inr (Or.inr (Or.inl (Int32.toInt_inj.mp h))))))))))))
  · exact Or.inr (Or.inr (Or.inr (Or.inr (Or.inr (Or.inr (Or.inr (Or.inr (Or.inr (Or.inr (Or.inr (Or.inr (Or.inl (Int32.toInt_inj.mp h)))))))))))))
  · exact Or.inr (Or.inr (Or.inr (Or.inr (Or.inr (Or.inr (Or.inr (Or.inr (Or.inr (Or.inr (Or.inr (Or.inr (Or.inr (Or.inl (Int32.toInt_inj.mp h))))))))))))))
  · exact Or.inr (Or.inr (Or.inr (Or.inr (Or.inr (Or.inr (Or.inr (Or.inr (Or.inr (Or.inr (Or.inr (Or.inr (Or.inr (Or.inr ((Int32.toInt_inj.mp h)))))))))))))))
def own_name (o a b d : Addr) : Int32 := if o = a then 0 else if o = b then 0 else if o = d then 0 else 1
def own_takes (xs xl : Int32) : Int32 := if 2147483647 < xs then 0 else if xl < 2147483647 then 0 else 1
theorem own_dN_0 : decode prog_31_method_4_code 0 = .ok (.aload_n 0, 1) := by decide +kernel
theorem own_dN_1 : decode prog_31_method_4_code 1 = .ok (.getstatic 3, 3) := by decide +kernel
theorem own_dN_4 : decode prog_31_method_4_code 4 = .ok (.if_acmp .eq 21, 3) := by decide +kernel
theorem own_dN_7 : decode prog_31_method_4_code 7 = .ok (.aload_n 0, 1) := by decide +kernel
theorem own_dN_8 : decode prog_31_method_4_code 8 = .ok (.getstatic 34, 3) := by decide +kernel
theorem own_dN_11 : decode prog_31_method_4_code 11 = .ok (.if_acmp .eq 14, 3) := by decide +kernel
theorem own_dN_14 : decode prog_31_method_4_code 14 = .ok (.aload_n 0, 1) := by decide +kernel
theorem own_dN_15 : decode prog_31_method_4_code 15 = .ok (.getstatic 37, 3) := by decide +kernel
theorem own_dN_18 : decode prog_31_method_4_code 18 = .ok (.if_acmp .eq 7, 3) := by decide +kernel
theorem own_dN_21 : decode prog_31_method_4_code 21 = .ok (.iconst 1, 1) := by decide +kernel
theorem own_dN_22 : decode prog_31_method_4_code 22 = .ok (.goto 4, 3) := by decide +kernel
theorem own_dN_25 : decode prog_31_method_4_code 25 = .ok (.iconst 0, 1) := by decide +kernel
theorem own_dN_26 : decode prog_31_method_4_code 26 = .ok (.ireturn, 1) := by decide +kernel
theorem own_efN (m : MethodId) (xo : Addr) : entryFrame m #[(.ref xo)] 1 = mkF m 0 #[.val (.ref xo)] [] := by first | (simp [entryFrame, mkF, argsToLocals, Value.category]; done) | rfl
def own_QN (Z : State) (xo : Addr) (a_A : Addr) (a_K : Addr) (a_L : Addr) (xr : Int32) (h0 : Heap) (n0 : Nat) (v : Option Value) (h : Heap) (L : List Loc) : Prop := v = some (.int xr) ∧ Fr n0 L ∧ h = h0
theorem own_pn0 : plainName "com/example/cilu/cilu/model/Role" = true := by first | (simp [plainName, overriddenIn]; done) | decide +kernel
set_option maxRecDepth 65536 in
set_option maxHeartbeats 40000000 in
theorem own_rN (l : Launch) (Z : State) (a0 : Array Value) (hw : ∀ d ∈ tables_1, d.before a0 Z = true) (ws : List Jvm.Cond) (xo : Addr) (a_A : Addr) (a_K : Addr) (a_L : Addr) (xr : Int32) (h0 : Heap) (n0 : Nat) (Z0 : n0 ≤ h0.size) (S_A : Sta Z h0 "com/example/cilu/cilu/model/Role" "A" "Lcom/example/cilu/cilu/model/Role;" (.ref a_A)) (S_K : Sta Z h0 "com/example/cilu/cilu/model/Role" "K" "Lcom/example/cilu/cilu/model/Role;" (.ref a_K)) (S_L : Sta Z h0 "com/example/cilu/cilu/model/Role" "L" "Lcom/example/cilu/cilu/model/Role;" (.ref a_L)) (hv : own_name xo a_A a_K a_L = xr) :
    MetFree l (⟨"com/example/cilu/cilu/model/Role", "isOfName", "()Z"⟩ : MethodName) (head1 (Jvm.Cond.code (⟨"com/example/cilu/cilu/model/Role", "isOfName", "()Z"⟩ : MethodName) prog_31_method_4_code 1 (some .boolean) :: ws) ({ frames := 0, cells := 0, slots := 0, locals := 0 } : Room)) (fun a U => a = #[(.ref xo)] ∧ Z.Warmed39 U.vm ∧ U.heap = h0) (fun _ _ _ _ _ => True) (fun _ U o U' => ∃ v L, o = .returned v ∧ own_QN Z xo a_A a_K a_L xr h0 n0 v U'.heap L ∧ FrameEnd U o U' L ({ frames := 0, cells := 0, slots := 0, locals := 0 } : Room).cells ({ frames := 0, cells := 0, slots := 0, locals := 0 } : Room).slots) := by
  refine MetFree.of_bodySF (plainFor_of_name own_pn0) hisR ?_
  intro p e s m args below meth c s₁ Bd hml0 hP hK
  obtain ⟨rfl, hZ, hh⟩ := hP
  have hx := Bd.exec
  have hby := Bd.bytes
  have hml : c.maxLocals = 1 := hml0
  have hown : s.vm.findClass "com/example/cilu/cilu/model/Role" = some m.cls := findClass_of_methodNamed Bd.named
  have hnm := (name_of_methodNamed Bd.named Bd.method).1
  have X0 : Stand p l e ({ frames := 0, cells := 0, slots := 0, locals := 0 } : Room) s m #[(.ref xo)] below meth c s₁ [] 0 0 := Stand.of_body Bd
  have e0 : s₁.heap = h0 := by rw [← hh, Bd.state]; rfl
  have N0 := Fr.nil n0
  show own_F p e below (fun o U' => ∃ v L, o = .returned v ∧ own_QN Z xo a_A a_K a_L xr h0 n0 v U'.heap L ∧ FrameEnd s o U' L ({ frames := 0, cells := 0, slots := 0, locals := 0 } : Room).cells ({ frames := 0, cells := 0, slots := 0, locals := 0 } : Room).slots) s₁ (entryFrame m #[(.ref xo)] 1)
  rw [own_efN m xo]
  refine own_go (T' := s₁) (g' := (mkF m 1 #[.val (.ref xo)] [(.ref xo)])) (fun _ k => XS.aloadN X0.here hx rfl (hb hby own_dN_0) rfl rfl k) ?_
  obtain ⟨T1, X1, e1, st1⟩ := getS X0 hx hZ (host := "") hown (hw _ (List.mem_of_getElem? (i := 40) rfl)) Via.refl e0 S_A (g := (mkF m 1 #[.val (.ref xo)] [(.ref xo)])) rfl (hb hby own_dN_1)
  refine own_go (T' := T1) (g' := (mkF m 4 #[.val (.ref xo)] [(.ref a_A), (.ref xo)])) (fun _ k => st1 _ k) ?_
  by_cases hc4 : xo = a_A
  · refine own_go (T' := T1) (g' := (mkF m 25 #[.val (.ref xo)] [])) (fun _ k => Jvm.RoadKit.acmp (g := (mkF m 4 #[.val (.ref xo)] [(.ref a_A), (.ref xo)])) X1 hx rfl rfl rfl (pc0 := 4) (pc' := 25) (same := true) rfl (hb hby own_dN_4) rfl (decide_eq_true (congrArg Value.ref hc4)) (by decide) (by decide) k) ?_
    refine own_go (T' := T1) (g' := (mkF m 26 #[.val (.ref xo)] [(.int (0 : Int32))])) (fun _ k => XS.iconst X1.here hx rfl (hb hby own_dN_25) k) ?_
    obtain ⟨fs, hr, hrun, hended, hW, hsame⟩ := X1.leave (v := some (.int (0 : Int32))) (fun h => by rw [Bd.returns] at h; cases h)
    refine own_end (retN X1 hx (t := .boolean) Bd.returns (by simp) (hb hby own_dN_26) hr) hrun hended ⟨_, _, rfl, (?_ : own_QN Z xo a_A a_K a_L xr h0 n0 _ T1.heap _), ⟨_, rfl⟩, hW, hsame.mono (by decide) (by decide)⟩
    rw [e1]
    exact ⟨by rw [← hv]; simp [own_name, hc4], N0, rfl⟩
  · refine own_go (T' := T1) (g' := (mkF m 7 #[.val (.ref xo)] [])) (fun _ k => Jvm.RoadKit.acmp (g := (mkF m 4 #[.val (.ref xo)] [(.ref a_A), (.ref xo)])) X1 hx rfl rfl rfl (pc0 := 4) (pc' := 7) (same := false) rfl (hb hby own_dN_4) rfl (decide_eq_false fun q => hc4 (Value.ref.inj q)) (by decide) (by decide) k) ?_
    refine own_go (T' := T1) (g' := (mkF m 8 #[.val (.ref xo)] [(.ref xo)])) (fun _ k => XS.aloadN X1.here hx rfl (hb hby own_dN_7) rfl rfl k) ?_
    obtain ⟨T2, X2, e2, st2⟩ := getS X1 hx hZ (host := "") hown (hw _ (List.mem_of_getElem? (i := 57) rfl)) Via.refl e1 S_K (g := (mkF m 8 #[.val (.ref xo)] [(.ref xo)])) rfl (hb hby own_dN_8)
    refine own_go (T' := T2) (g' := (mkF m 11 #[.val (.ref xo)] [(.ref a_K), (.ref xo)])) (fun _ k => st2 _ k) ?_
    by_cases hc11 : xo = a_K
    · refine own_go (T' := T2) (g' := (mkF m 25 #[.val (.ref xo)] [])) (fun _ k => Jvm.RoadKit.acmp (g := (mkF m 11 #[.val (.ref xo)] [(.ref a_K), (.ref xo)])) X2 hx rfl rfl rfl (pc0 := 11) (pc' := 25) (same := true) rfl (hb hby own_dN_11) rfl (decide_eq_true (congrArg Value.ref hc11)) (by decide) (by decide) k) ?_
      refine own_go (T' := T2) (g' := (mkF m 26 #[.val (.ref xo)] [(.int (0 : Int32))])) (fun _ k => XS.iconst X2.here hx rfl (hb hby own_dN_25) k) ?_
      obtain ⟨fs, hr, hrun, hended, hW, hsame⟩ := X2.leave (v := some (.int (0 : Int32))) (fun h => by rw [Bd.returns] at h; cases h)
      refine own_end (retN X2 hx (t := .boolean) Bd.returns (by simp) (hb hby own_dN_26) hr) hrun hended ⟨_, _, rfl, (?_ : own_QN Z xo a_A a_K a_L xr h0 n0 _ T2.heap _), ⟨_, rfl⟩, hW, hsame.mono (by decide) (by decide)⟩
      rw [e2]
      exact ⟨by rw [← hv]; simp [own_name, hc4, hc11], N0, rfl⟩
    · refine own_go (T' := T2) (g' := (mkF m 14 #[.val (.ref xo)] [])) (fun _ k => Jvm.RoadKit.acmp (g := (mkF m 11 #[.val (.ref xo)] [(.ref a_K), (.ref xo)])) X2 hx rfl rfl rfl (pc0 := 11) (pc' := 14) (same := false) rfl (hb hby own_dN_11) rfl (decide_eq_false fun q => hc11 (Value.ref.inj q)) (by decide) (by decide) k) ?_
      refine own_go (T' := T2) (g' := (mkF m 15 #[.val (.ref xo)] [(.ref xo)])) (fun _ k => XS.aloadN X2.here hx rfl (hb hby own_dN_14) rfl rfl k) ?_
      obtain ⟨T3, X3, e3, st3⟩ := getS X2 hx hZ (host := "") hown (hw _ (List.mem_of_getElem? (i := 58) rfl)) Via.refl e2 S_L (g := (mkF m 15 #[.val (.ref xo)] [(.ref xo)])) rfl (hb hby own_dN_15)
      refine own_go (T' := T3) (g' := (mkF m 18 #[.val (.ref xo)] [(.ref a_L), (.ref xo)])) (fun _ k => st3 _ k) ?_
      by_cases hc18 : xo = a_L
      · refine own_go (T' := T3) (g' := (mkF m 25 #[.val (.ref xo)] [])) (fun _ k => Jvm.RoadKit.acmp (g := (mkF m 18 #[.val (.ref xo)] [(.ref a_L), (.ref xo)])) X3 hx rfl rfl rfl (pc0 := 18) (pc' := 25) (same := true) rfl (hb hby own_dN_18) rfl (decide_eq_true (congrArg Value.ref hc18)) (by decide) (by decide) k) ?_
        refine own_go (T' := T3) (g' := (mkF m 26 #[.val (.ref xo)] [(.int (0 : Int32))])) (fun _ k => XS.iconst X3.here hx rfl (hb hby own_dN_25) k) ?_
        obtain ⟨fs, hr, hrun, hended, hW, hsame⟩ := X3.leave (v := some (.int (0 : Int32))) (fun h => by rw [Bd.returns] at h; cases h)
        refine own_end (retN X3 hx (t := .boolean) Bd.returns (by simp) (hb hby own_dN_26) hr) hrun hended ⟨_, _, rfl, (?_ : own_QN Z xo a_A a_K a_L xr h0 n0 _ T3.heap _), ⟨_, rfl⟩, hW, hsame.mono (by decide) (by decide)⟩
        rw [e3]
        exact ⟨by rw [← hv]; simp [own_name, hc4, hc11, hc18], N0, rfl⟩
      · refine own_go (T' := T3) (g' := (mkF m 21 #[.val (.ref xo)] [])) (fun _ k => Jvm.RoadKit.acmp (g := (mkF m 18 #[.val (.ref xo)] [(.ref a_L), (.ref xo)])) X3 hx rfl rfl rfl (pc0 := 18) (pc' := 21) (same := false) rfl (hb hby own_dN_18) rfl (decide_eq_false fun q => hc18 (Value.ref.inj q)) (by decide) (by decide) k) ?_
        refine own_go (T' := T3) (g' := (mkF m 22 #[.val (.ref xo)] [(.int (1 : Int32))])) (fun _ k => XS.iconst X3.here hx rfl (hb hby own_dN_21) k) ?_
        refine own_go (T' := T3) (g' := (mkF m 26 #[.val (.ref xo)] [(.int (1 : Int32))])) (fun _ k => XS.goto X3.here hx rfl (pc0 := 22) (pc' := 26) rfl (hb hby own_dN_22) (by decide) (by decide) k) ?_
        obtain ⟨fs, hr, hrun, hended, hW, hsame⟩ := X3.leave (v := some (.int (1 : Int32))) (fun h => by rw [Bd.returns] at h; cases h)
        refine own_end (retN X3 hx (t := .boolean) Bd.returns (by simp) (hb hby own_dN_26) hr) hrun hended ⟨_, _, rfl, (?_ : own_QN Z xo a_A a_K a_L xr h0 n0 _ T3.heap _), ⟨_, rfl⟩, hW, hsame.mono (by decide) (by decide)⟩
        rw [e3]
        exact ⟨by rw [← hv]; simp [own_name, hc4, hc11, hc18], N0, rfl⟩
theorem own_dT_0 : decode prog_31_method_6_code 0 = .ok (.iload_n 1, 1) := by decide +kernel
theorem own_dT_1 : decode prog_31_method_6_code 1 = .ok (.aload_n 0, 1) := by decide +kernel
theorem own_dT_2 : decode prog_31_method_6_code 2 = .ok (.getfield 68, 3) := by decide +kernel
theorem own_dT_5 : decode prog_31_method_6_code 5 = .ok (.if_icmp .lt 15, 3) := by decide +kernel
theorem own_dT_8 : decode prog_31_method_6_code 8 = .ok (.iload_n 1, 1) := by decide +kernel
theorem own_dT_9 : decode prog_31_method_6_code 9 = .ok (.aload_n 0, 1) := by decide +kernel
theorem own_dT_10 : decode prog_31_method_6_code 10 = .ok (.getfield 72, 3) := by decide +kernel
theorem own_dT_13 : decode prog_31_method_6_code 13 = .ok (.if_icmp .gt 7, 3) := by decide +kernel
theorem own_dT_16 : decode prog_31_method_6_code 16 = .ok (.iconst 1, 1) := by decide +kernel
theorem own_dT_17 : decode prog_31_method_6_code 17 = .ok (.goto 4, 3) := by decide +kernel
theorem own_dT_20 : decode prog_31_method_6_code 20 = .ok (.iconst 0, 1) := by decide +kernel
theorem own_dT_21 : decode prog_31_method_6_code 21 = .ok (.ireturn, 1) := by decide +kernel
theorem own_efT (m : MethodId) (xo : Addr) : entryFrame m #[(.ref xo), (.int (2147483647 : Int32))] 2 = mkF m 0 #[.val (.ref xo), .val (.int (2147483647 : Int32))] [] := by first | (simp [entryFrame, mkF, argsToLocals, Value.category]; done) | rfl
def own_QT (Z : State) (xo : Addr) (xs : Int32) (xl : Int32) (xr : Int32) (h0 : Heap) (n0 : Nat) (v : Option Value) (h : Heap) (L : List Loc) : Prop := v = some (.int xr) ∧ Fr n0 L ∧ h = h0
set_option maxRecDepth 65536 in
set_option maxHeartbeats 40000000 in
theorem own_rT (l : Launch) (Z : State) (a0 : Array Value) (hw : ∀ d ∈ tables_1, d.before a0 Z = true) (ws : List Jvm.Cond) (xo : Addr) (xs : Int32) (xl : Int32) (xr : Int32) (h0 : Heap) (n0 : Nat) (Z0 : n0 ≤ h0.size) (F1 : Fld Z h0 xo "com/example/cilu/cilu/model/Role" "shortest" "I" (.int xs)) (F2 : Fld Z h0 xo "com/example/cilu/cilu/model/Role" "longest" "I" (.int xl)) (hv : own_takes xs xl = xr) :
    MetFree l (⟨"com/example/cilu/cilu/model/Role", "takes", "(I)Z"⟩ : MethodName) (head1 (Jvm.Cond.code (⟨"com/example/cilu/cilu/model/Role", "takes", "(I)Z"⟩ : MethodName) prog_31_method_6_code 2 (some .boolean) :: ws) ({ frames := 0, cells := 0, slots := 0, locals := 0 } : Room)) (fun a U => a = #[(.ref xo), (.int (2147483647 : Int32))] ∧ Z.Warmed39 U.vm ∧ U.heap = h0) (fun _ _ _ _ _ => True) (fun _ U o U' => ∃ v L, o = .returned v ∧ own_QT Z xo xs xl xr h0 n0 v U'.heap L ∧ FrameEnd U o U' L ({ frames := 0, cells := 0, slots := 0, locals := 0 } : Room).cells ({ frames := 0, cells := 0, slots := 0, locals := 0 } : Room).slots) := by
  refine MetFree.of_bodySF (plainFor_of_name own_pn0) hisR ?_
  intro p e s m args below meth c s₁ Bd hml0 hP hK
  obtain ⟨rfl, hZ, hh⟩ := hP
  have hx := Bd.exec
  have hby := Bd.bytes
  have hml : c.maxLocals = 2 := hml0
  have hown : s.vm.findClass "com/example/cilu/cilu/model/Role" = some m.cls := findClass_of_methodNamed Bd.named
  have hnm := (name_of_methodNamed Bd.named Bd.method).1
  have X0 : Stand p l e ({ frames := 0, cells := 0, slots := 0, locals := 0 } : Room) s m #[(.ref xo), (.int (2147483647 : Int32))] below meth c s₁ [] 0 0 := Stand.of_body Bd
  have e0 : s₁.heap = h0 := by rw [← hh, Bd.state]; rfl
  have N0 := Fr.nil n0
  show own_F p e below (fun o U' => ∃ v L, o = .returned v ∧ own_QT Z xo xs xl xr h0 n0 v U'.heap L ∧ FrameEnd s o U' L ({ frames := 0, cells := 0, slots := 0, locals := 0 } : Room).cells ({ frames := 0, cells := 0, slots := 0, locals := 0 } : Room).slots) s₁ (entryFrame m #[(.ref xo), (.int (2147483647 : Int32))] 2)
  rw [own_efT m xo]
  refine own_go (T' := s₁) (g' := (mkF m 1 #[.val (.ref xo), .val (.int (2147483647 : Int32))] [(.int (2147483647 : Int32))])) (fun _ k => XS.iloadN X0.here hx rfl (hb hby own_dT_0) rfl k) ?_
  refine own_go (T' := s₁) (g' := (mkF m 2 #[.val (.ref xo), .val (.int (2147483647 : Int32))] [(.ref xo), (.int (2147483647 : Int32))])) (fun _ k => XS.aloadN X0.here hx rfl (hb hby own_dT_1) rfl rfl k) ?_
  obtain ⟨T1, X1, e1, st1⟩ := getF X0 hx hZ hown (host := "") (Or.inl (hw _ (List.mem_of_getElem? (i := 46) rfl))) Via.refl e0 F1 (g := (mkF m 2 #[.val (.ref xo), .val (.int (2147483647 : Int32))] [(.ref xo), (.int (2147483647 : Int32))])) rfl rfl (hb hby own_dT_2)
  refine own_go (T' := T1) (g' := (mkF m 5 #[.val (.ref xo), .val (.int (2147483647 : Int32))] [(.int xs), (.int (2147483647 : Int32))])) (fun _ k => st1 _ k) ?_
  by_cases hc5 : (2147483647 : Int32) < xs
  · refine own_go (T' := T1) (g' := (mkF m 20 #[.val (.ref xo), .val (.int (2147483647 : Int32))] [])) (fun _ k => XS.icmpYes X1.here hx rfl (pc0 := 5) (pc' := 20) rfl (hb hby own_dT_5) rfl (tlt (hc5 : (2147483647 : Int32) < xs)).1 (by decide) (by decide) k) ?_
    refine own_go (T' := T1) (g' := (mkF m 21 #[.val (.ref xo), .val (.int (2147483647 : Int32))] [(.int (0 : Int32))])) (fun _ k => XS.iconst X1.here hx rfl (hb hby own_dT_20) k) ?_
    obtain ⟨fs, hr, hrun, hended, hW, hsame⟩ := X1.leave (v := some (.int (0 : Int32))) (fun h => by rw [Bd.returns] at h; cases h)
    refine own_end (retN X1 hx (t := .boolean) Bd.returns (by simp) (hb hby own_dT_21) hr) hrun hended ⟨_, _, rfl, (?_ : own_QT Z xo xs xl xr h0 n0 _ T1.heap _), ⟨_, rfl⟩, hW, hsame.mono (by decide) (by decide)⟩
    rw [e1]
    exact ⟨by rw [← hv]; simp [own_takes, hc5], N0, rfl⟩
  · refine own_go (T' := T1) (g' := (mkF m 8 #[.val (.ref xo), .val (.int (2147483647 : Int32))] [])) (fun _ k => XS.icmpNo X1.here hx rfl (hb hby own_dT_5) rfl (flt (hc5 : ¬ ((2147483647 : Int32) < xs))).1 k) ?_
    refine own_go (T' := T1) (g' := (mkF m 9 #[.val (.ref xo), .val (.int (2147483647 : Int32))] [(.int (2147483647 : Int32))])) (fun _ k => XS.iloadN X1.here hx rfl (hb hby own_dT_8) rfl k) ?_
    refine own_go (T' := T1) (g' := (mkF m 10 #[.val (.ref xo), .val (.int (2147483647 : Int32))] [(.ref xo), (.int (2147483647 : Int32))])) (fun _ k => XS.aloadN X1.here hx rfl (hb hby own_dT_9) rfl rfl k) ?_
    obtain ⟨T2, X2, e2, st2⟩ := getF X1 hx hZ hown (host := "") (Or.inl (hw _ (List.mem_of_getElem? (i := 48) rfl))) Via.refl e1 F2 (g := (mkF m 10 #[.val (.ref xo), .val (.int (2147483647 : Int32))] [(.ref xo), (.int (2147483647 : Int32))])) rfl rfl (hb hby own_dT_10)
    refine own_go (T' := T2) (g' := (mkF m 13 #[.val (.ref xo), .val (.int (2147483647 : Int32))] [(.int xl), (.int (2147483647 : Int32))])) (fun _ k => st2 _ k) ?_
    by_cases hc13 : xl < (2147483647 : Int32)
    · refine own_go (T' := T2) (g' := (mkF m 20 #[.val (.ref xo), .val (.int (2147483647 : Int32))] [])) (fun _ k => XS.icmpYes X2.here hx rfl (pc0 := 13) (pc' := 20) rfl (hb hby own_dT_13) rfl (tlt (hc13 : xl < (2147483647 : Int32))).2.2.1 (by decide) (by decide) k) ?_
      refine own_go (T' := T2) (g' := (mkF m 21 #[.val (.ref xo), .val (.int (2147483647 : Int32))] [(.int (0 : Int32))])) (fun _ k => XS.iconst X2.here hx rfl (hb hby own_dT_20) k) ?_
      obtain ⟨fs, hr, hrun, hended, hW, hsame⟩ := X2.leave (v := some (.int (0 : Int32))) (fun h => by rw [Bd.returns] at h; cases h)
      refine own_end (retN X2 hx (t := .boolean) Bd.returns (by simp) (hb hby own_dT_21) hr) hrun hended ⟨_, _, rfl, (?_ : own_QT Z xo xs xl xr h0 n0 _ T2.heap _), ⟨_, rfl⟩, hW, hsame.mono (by decide) (by decide)⟩
      rw [e2]
      exact ⟨by rw [← hv]; simp [own_takes, hc5, hc13], N0, rfl⟩
    · refine own_go (T' := T2) (g' := (mkF m 16 #[.val (.ref xo), .val (.int (2147483647 : Int32))] [])) (fun _ k => XS.icmpNo X2.here hx rfl (hb hby own_dT_13) rfl (flt (hc13 : ¬ (xl < (2147483647 : Int32)))).2.2.1 k) ?_
      refine own_go (T' := T2) (g' := (mkF m 17 #[.val (.ref xo), .val (.int (2147483647 : Int32))] [(.int (1 : Int32))])) (fun _ k => XS.iconst X2.here hx rfl (hb hby own_dT_16) k) ?_
      refine own_go (T' := T2) (g' := (mkF m 21 #[.val (.ref xo), .val (.int (2147483647 : Int32))] [(.int (1 : Int32))])) (fun _ k => XS.goto X2.here hx rfl (pc0 := 17) (pc' := 21) rfl (hb hby own_dT_17) (by decide) (by decide) k) ?_
      obtain ⟨fs, hr, hrun, hended, hW, hsame⟩ := X2.leave (v := some (.int (1 : Int32))) (fun h => by rw [Bd.returns] at h; cases h)
      refine own_end (retN X2 hx (t := .boolean) Bd.returns (by simp) (hb hby own_dT_21) hr) hrun hended ⟨_, _, rfl, (?_ : own_QT Z xo xs xl xr h0 n0 _ T2.heap _), ⟨_, rfl⟩, hW, hsame.mono (by decide) (by decide)⟩
      rw [e2]
      exact ⟨by rw [← hv]; simp [own_takes, hc5, hc13], N0, rfl⟩
theorem own_dPN_0 : decode prog_31_method_7_code 0 = .ok (.aload_n 0, 1) := by decide +kernel
theorem own_dPN_1 : decode prog_31_method_7_code 1 = .ok (.getfield 75, 3) := by decide +kernel
theorem own_dPN_4 : decode prog_31_method_7_code 4 = .ok (.areturn, 1) := by decide +kernel
theorem own_efPN (m : MethodId) (xo : Addr) : entryFrame m #[(.ref xo)] 1 = mkF m 0 #[.val (.ref xo)] [] := by first | (simp [entryFrame, mkF, argsToLocals, Value.category]; done) | rfl
def own_QPN (Z : State) (xo : Addr)  (h0 : Heap) (n0 : Nat) (v : Option Value) (h : Heap) (L : List Loc) : Prop := v = some .null ∧ Fr n0 L ∧ h = h0
set_option maxRecDepth 65536 in
set_option maxHeartbeats 40000000 in
theorem own_rPN (l : Launch) (Z : State) (a0 : Array Value) (hw : ∀ d ∈ tables_1, d.before a0 Z = true) (ws : List Jvm.Cond) (xo : Addr)  (h0 : Heap) (n0 : Nat) (Z0 : n0 ≤ h0.size) (F1 : Fld Z h0 xo "com/example/cilu/cilu/model/Role" "pool" "Lcom/example/cilu/cilu/model/Role$Pool;" .null) :
    MetFree l (⟨"com/example/cilu/cilu/model/Role", "pool", "()Lcom/example/cilu/cilu/model/Role$Pool;"⟩ : MethodName) (head1 (Jvm.Cond.code (⟨"com/example/cilu/cilu/model/Role", "pool", "()Lcom/example/cilu/cilu/model/Role$Pool;"⟩ : MethodName) prog_31_method_7_code 1 (some (.object "com/example/cilu/cilu/model/Role$Pool")) :: ws) ({ frames := 0, cells := 0, slots := 0, locals := 0 } : Room)) (fun a U => a = #[(.ref xo)] ∧ Z.Warmed39 U.vm ∧ U.heap = h0) (fun _ _ _ _ _ => True) (fun _ U o U' => ∃ v L, o = .returned v ∧ own_QPN Z xo h0 n0 v U'.heap L ∧ FrameEnd U o U' L ({ frames := 0, cells := 0, slots := 0, locals := 0 } : Room).cells ({ frames := 0, cells := 0, slots := 0, locals := 0 } : Room).slots) := by
  refine MetFree.of_bodySF (plainFor_of_name own_pn0) hisR ?_
  intro p e s m args below meth c s₁ Bd hml0 hP hK
  obtain ⟨rfl, hZ, hh⟩ := hP
  have hx := Bd.exec
  have hby := Bd.bytes
  have hml : c.maxLocals = 1 := hml0
  have hown : s.vm.findClass "com/example/cilu/cilu/model/Role" = some m.cls := findClass_of_methodNamed Bd.named
  have hnm := (name_of_methodNamed Bd.named Bd.method).1
  have X0 : Stand p l e ({ frames := 0, cells := 0, slots := 0, locals := 0 } : Room) s m #[(.ref xo)] below meth c s₁ [] 0 0 := Stand.of_body Bd
  have e0 : s₁.heap = h0 := by rw [← hh, Bd.state]; rfl
  have N0 := Fr.nil n0
  show own_F p e below (fun o U' => ∃ v L, o = .returned v ∧ own_QPN Z xo h0 n0 v U'.heap L ∧ FrameEnd s o U' L ({ frames := 0, cells := 0, slots := 0, locals := 0 } : Room).cells ({ frames := 0, cells := 0, slots := 0, locals := 0 } : Room).slots) s₁ (entryFrame m #[(.ref xo)] 1)
  rw [own_efPN m xo]
  refine own_go (T' := s₁) (g' := (mkF m 1 #[.val (.ref xo)] [(.ref xo)])) (fun _ k => XS.aloadN X0.here hx rfl (hb hby own_dPN_0) rfl rfl k) ?_
  obtain ⟨T1, X1, e1, st1⟩ := getF X0 hx hZ hown (host := "") (Or.inl (hw _ (List.mem_of_getElem? (i := 55) rfl))) Via.refl e0 F1 (g := (mkF m 1 #[.val (.ref xo)] [(.ref xo)])) rfl rfl (hb hby own_dPN_1)
  refine own_go (T' := T1) (g' := (mkF m 4 #[.val (.ref xo)] [.null])) (fun _ k => st1 _ k) ?_
  obtain ⟨fs, hr, hrun, hended, hW, hsame⟩ := X1.leave (v := some .null) (fun h => by rw [Bd.returns] at h; cases h)
  refine own_end (retOut X1 hx Bd.returns rfl (Or.inr (Or.inr (Or.inr (Or.inr ⟨rfl, rfl, rfl⟩)))) (hb hby own_dPN_4) hr) hrun hended ⟨_, _, rfl, (?_ : own_QPN Z xo h0 n0 _ T1.heap _), ⟨_, rfl⟩, hW, hsame.mono (by decide) (by decide)⟩
  rw [e1]
  exact ⟨rfl, N0, rfl⟩
theorem own_dPR_0 : decode prog_31_method_7_code 0 = .ok (.aload_n 0, 1) := by decide +kernel
theorem own_dPR_1 : decode prog_31_method_7_code 1 = .ok (.getfield 75, 3) := by decide +kernel
theorem own_dPR_4 : decode prog_31_method_7_code 4 = .ok (.areturn, 1) := by decide +kernel
theorem own_efPR (m : MethodId) (xo : Addr) : entryFrame m #[(.ref xo)] 1 = mkF m 0 #[.val (.ref xo)] [] := by first | (simp [entryFrame, mkF, argsToLocals, Value.category]; done) | rfl
def own_QPR (Z : State) (xo : Addr) (xq : Addr) (h0 : Heap) (n0 : Nat) (v : Option Value) (h : Heap) (L : List Loc) : Prop := v = some (.ref xq) ∧ Fr n0 L ∧ h = h0
set_option maxRecDepth 65536 in
set_option maxHeartbeats 40000000 in
theorem own_rPR (l : Launch) (Z : State) (a0 : Array Value) (hw : ∀ d ∈ tables_1, d.before a0 Z = true) (ws : List Jvm.Cond) (xo : Addr) (xq : Addr) (h0 : Heap) (n0 : Nat) (Z0 : n0 ≤ h0.size) (F1 : Fld Z h0 xo "com/example/cilu/cilu/model/Role" "pool" "Lcom/example/cilu/cilu/model/Role$Pool;" (.ref xq)) :
    MetFree l (⟨"com/example/cilu/cilu/model/Role", "pool", "()Lcom/example/cilu/cilu/model/Role$Pool;"⟩ : MethodName) (head1 (Jvm.Cond.code (⟨"com/example/cilu/cilu/model/Role", "pool", "()Lcom/example/cilu/cilu/model/Role$Pool;"⟩ : MethodName) prog_31_method_7_code 1 (some (.object "com/example/cilu/cilu/model/Role$Pool")) :: ws) ({ frames := 0, cells := 0, slots := 0, locals := 0 } : Room)) (fun a U => a = #[(.ref xo)] ∧ Z.Warmed39 U.vm ∧ U.heap = h0) (fun _ _ _ _ _ => True) (fun _ U o U' => ∃ v L, o = .returned v ∧ own_QPR Z xo xq h0 n0 v U'.heap L ∧ FrameEnd U o U' L ({ frames := 0, cells := 0, slots := 0, locals := 0 } : Room).cells ({ frames := 0, cells := 0, slots := 0, locals := 0 } : Room).slots) := by
  refine MetFree.of_bodySF (plainFor_of_name own_pn0) hisR ?_
  intro p e s m args below meth c s₁ Bd hml0 hP hK
  obtain ⟨rfl, hZ, hh⟩ := hP
  have hx := Bd.exec
  have hby := Bd.bytes
  have hml : c.maxLocals = 1 := hml0
  have hown : s.vm.findClass "com/example/cilu/cilu/model/Role" = some m.cls := findClass_of_methodNamed Bd.named
  have hnm := (name_of_methodNamed Bd.named Bd.method).1
  have X0 : Stand p l e ({ frames := 0, cells := 0, slots := 0, locals := 0 } : Room) s m #[(.ref xo)] below meth c s₁ [] 0 0 := Stand.of_body Bd
  have e0 : s₁.heap = h0 := by rw [← hh, Bd.state]; rfl
  have N0 := Fr.nil n0
  show own_F p e below (fun o U' => ∃ v L, o = .returned v ∧ own_QPR Z xo xq h0 n0 v U'.heap L ∧ FrameEnd s o U' L ({ frames := 0, cells := 0, slots := 0, locals := 0 } : Room).cells ({ frames := 0, cells := 0, slots := 0, locals := 0 } : Room).slots) s₁ (entryFrame m #[(.ref xo)] 1)
  rw [own_efPR m xo]
  refine own_go (T' := s₁) (g' := (mkF m 1 #[.val (.ref xo)] [(.ref xo)])) (fun _ k => XS.aloadN X0.here hx rfl (hb hby own_dPR_0) rfl rfl k) ?_
  obtain ⟨T1, X1, e1, st1⟩ := getF X0 hx hZ hown (host := "") (Or.inl (hw _ (List.mem_of_getElem? (i := 55) rfl))) Via.refl e0 F1 (g := (mkF m 1 #[.val (.ref xo)] [(.ref xo)])) rfl rfl (hb hby own_dPR_1)
  refine own_go (T' := T1) (g' := (mkF m 4 #[.val (.ref xo)] [(.ref xq)])) (fun _ k => st1 _ k) ?_
  obtain ⟨fs, hr, hrun, hended, hW, hsame⟩ := X1.leave (v := some (.ref xq)) (fun h => by rw [Bd.returns] at h; cases h)
  refine own_end (retOut X1 hx Bd.returns rfl (Or.inr (Or.inr (Or.inr (Or.inr ⟨rfl, rfl, rfl⟩)))) (hb hby own_dPR_4) hr) hrun hended ⟨_, _, rfl, (?_ : own_QPR Z xo xq h0 n0 _ T1.heap _), ⟨_, rfl⟩, hW, hsame.mono (by decide) (by decide)⟩
  rw [e1]
  exact ⟨rfl, N0, rfl⟩
theorem own_pd0 : parseMethodDescriptor "()Z" = some ⟨[], some .boolean⟩ := by decide +kernel
theorem own_pd1 : parseMethodDescriptor "(I)Z" = some ⟨[.int], some .boolean⟩ := by decide +kernel
theorem own_pd2 : parseMethodDescriptor "()Lcom/example/cilu/cilu/model/Role$Pool;" = some ⟨[], some (.object "com/example/cilu/cilu/model/Role$Pool")⟩ := by decide +kernel
theorem own_efL (m : MethodId) (xk : Int32) : entryFrame m #[(.int xk)] maxLocals = mkF m 0 #[.val (.int xk), .unset, .unset, .unset, .unset, .unset] [] := by first | (simp [entryFrame, mkF, argsToLocals, Value.category, maxLocals]; done) | rfl
def own_QL (Z : State) (xk : Int32) (a_A : Addr) (a_B : Addr) (a_C : Addr) (a_D : Addr) (a_E : Addr) (a_F : Addr) (a_G : Addr) (a_P : Addr) (a_Q : Addr) (a_R : Addr) (a_K : Addr) (a_L : Addr) (a_X : Addr) (a_Y : Addr) (a_Z : Addr) (a_GIVEN_NAME : Addr) (a_TRANSLITERATED : Addr) (h0 : Heap) (n0 : Nat) (v : Option Value) (h : Heap) (L : List Loc) : Prop := v = some (.int (1 : Int32)) ∧ Fr n0 L
theorem own_pn1 : plainName "com/example/cilu/cilu/model/RoleIsOfNamePinLaw" = true := by first | (simp [plainName, overriddenIn]; done) | decide +kernel
set_option maxRecDepth 65536 in
set_option maxHeartbeats 40000000 in
theorem own_rL (l : Launch) (Z : State) (a0 : Array Value) (hw : ∀ d ∈ tables_1, d.before a0 Z = true) (ws : List Jvm.Cond) (xk : Int32) (a_A : Addr) (a_B : Addr) (a_C : Addr) (a_D : Addr) (a_E : Addr) (a_F : Addr) (a_G : Addr) (a_P : Addr) (a_Q : Addr) (a_R : Addr) (a_K : Addr) (a_L : Addr) (a_X : Addr) (a_Y : Addr) (a_Z : Addr) (a_GIVEN_NAME : Addr) (a_TRANSLITERATED : Addr) (h0 : Heap) (n0 : Nat) (Z0 : n0 ≤ h0.size) (S_A : Sta Z h0 "com/example/cilu/cilu/model/Role" "A" "Lcom/example/cilu/cilu/model/Role;" (.ref a_A)) (E_A : Exa Z h0 a_A "com/example/cilu/cilu/model/Role") (S_B : Sta Z h0 "com/example/cilu/cilu/model/Role" "B" "Lcom/example/cilu/cilu/model/Role;" (.ref a_B)) (E_B : Exa Z h0 a_B "com/example/cilu/cilu/model/Role") (S_C : Sta Z h0 "com/example/cilu/cilu/model/Role" "C" "Lcom/example/cilu/cilu/model/Role;" (.ref a_C)) (E_C : Exa Z h0 a_C "com/example/cilu/cilu/model/Role") (S_D : Sta Z h0 "com/example/cilu/cilu/model/Role" "D" "Lcom/example/cilu/cilu/model/Role;" (.ref a_D)) (E_D : Exa Z h0 a_D "com/example/cilu/cilu/model/Role") (S_E : Sta Z h0 "com/example/cilu/cilu/model/Role" "E" "Lcom/example/cilu/cilu/model/Role;" (.ref a_E)) (E_E : Exa Z h0 a_E "com/example/cilu/cilu/model/Role") (S_F : Sta Z h0 "com/example/cilu/cilu/model/Role" "F" "Lcom/example/cilu/cilu/model/Role;" (.ref a_F)) (E_F : Exa Z h0 a_F "com/example/cilu/cilu/model/Role") (S_G : Sta Z h0 "com/example/cilu/cilu/model/Role" "G" "Lcom/example/cilu/cilu/model/Role;" (.ref a_G)) (E_G : Exa Z h0 a_G "com/example/cilu/cilu/model/Role") (S_P : Sta Z h0 "com/example/cilu/cilu/model/Role" "P" "Lcom/example/cilu/cilu/model/Role;" (.ref a_P)) (E_P : Exa Z h0 a_P "com/example/cilu/cilu/model/Role") (S_Q : Sta Z h0 "com/example/cilu/cilu/model/Role" "Q" "Lcom/example/cilu/cilu/model/Role;" (.ref a_Q)) (E_Q : Exa Z h0 a_Q "com/example/cilu/cilu/model/Role") (S_R : Sta Z h0 "com/example/cilu/cilu/model/Role" "R" "Lcom/example/cilu/cilu/model/Role;" (.ref a_R)) (E_R : Exa Z h0 a_R "com/example/cilu/cilu/model/Role") (S_K : Sta Z h0 "com/example/cilu/cilu/model/Role" "K" "Lcom/example/cilu/cilu/model/Role;" (.ref a_K)) (E_K : Exa Z h0 a_K "com/example/cilu/cilu/model/Role") (S_L : Sta Z h0 "com/example/cilu/cilu/model/Role" "L" "Lcom/example/cilu/cilu/model/Role;" (.ref a_L)) (E_L : Exa Z h0 a_L "com/example/cilu/cilu/model/Role") (S_X : Sta Z h0 "com/example/cilu/cilu/model/Role" "X" "Lcom/example/cilu/cilu/model/Role;" (.ref a_X)) (E_X : Exa Z h0 a_X "com/example/cilu/cilu/model/Role") (S_Y : Sta Z h0 "com/example/cilu/cilu/model/Role" "Y" "Lcom/example/cilu/cilu/model/Role;" (.ref a_Y)) (E_Y : Exa Z h0 a_Y "com/example/cilu/cilu/model/Role") (S_Z : Sta Z h0 "com/example/cilu/cilu/model/Role" "Z" "Lcom/example/cilu/cilu/model/Role;" (.ref a_Z)) (E_Z : Exa Z h0 a_Z "com/example/cilu/cilu/model/Role") (F_A_shortest : Fld Z h0 a_A "com/example/cilu/cilu/model/Role" "shortest" "I" (.int (1 : Int32))) (F_A_longest : Fld Z h0 a_A "com/example/cilu/cilu/model/Role" "longest" "I" (.int (2147483647 : Int32))) (F_A_pool : Fld Z h0 a_A "com/example/cilu/cilu/model/Role" "pool" "Lcom/example/cilu/cilu/model/Role$Pool;" .null) (F_D_ordinal : Fld Z h0 a_D "java/lang/Enum" "ordinal" "I" (.int (3 : Int32))) (F_A_ordinal : Fld Z h0 a_A "java/lang/Enum" "ordinal" "I" (.int (0 : Int32))) (F_K_ordinal : Fld Z h0 a_K "java/lang/Enum" "ordinal" "I" (.int (10 : Int32))) (F_L_ordinal : Fld Z h0 a_L "java/lang/Enum" "ordinal" "I" (.int (11 : Int32))) (F_D_shortest : Fld Z h0 a_D "com/example/cilu/cilu/model/Role" "shortest" "I" (.int (1 : Int32))) (F_D_longest : Fld Z h0 a_D "com/example/cilu/cilu/model/Role" "longest" "I" (.int (1 : Int32))) (S_GIVEN_NAME : Sta Z h0 "com/example/cilu/cilu/model/Role$Pool" "GIVEN_NAME" "Lcom/example/cilu/cilu/model/Role$Pool;" (.ref a_GIVEN_NAME)) (E_GIVEN_NAME : Exa Z h0 a_GIVEN_NAME "com/example/cilu/cilu/model/Role$Pool") (F_D_pool : Fld Z h0 a_D "com/example/cilu/cilu/model/Role" "pool" "Lcom/example/cilu/cilu/model/Role$Pool;" (.ref a_GIVEN_NAME)) (F_F_ordinal : Fld Z h0 a_F "java/lang/Enum" "ordinal" "I" (.int (5 : Int32))) (F_F_shortest : Fld Z h0 a_F "com/example/cilu/cilu/model/Role" "shortest" "I" (.int (1 : Int32))) (F_F_longest : Fld Z h0 a_F "com/example/cilu/cilu/model/Role" "longest" "I" (.int (1 : Int32))) (F_F_pool : Fld Z h0 a_F "com/example/cilu/cilu/model/Role" "pool" "Lcom/example/cilu/cilu/model/Role$Pool;" .null) (F_Y_ordinal : Fld Z h0 a_Y "java/lang/Enum" "ordinal" "I" (.int (13 : Int32))) (F_Y_shortest : Fld Z h0 a_Y "com/example/cilu/cilu/model/Role" "shortest" "I" (.int (2 : Int32))) (F_Y_longest : Fld Z h0 a_Y "com/example/cilu/cilu/model/Role" "longest" "I" (.int (2 : Int32))) (F_Y_pool : Fld Z h0 a_Y "com/example/cilu/cilu/model/Role" "pool" "Lcom/example/cilu/cilu/model/Role$Pool;" .null) (F_G_ordinal : Fld Z h0 a_G "java/lang/Enum" "ordinal" "I" (.int (6 : Int32))) (F_G_shortest : Fld Z h0 a_G "com/example/cilu/cilu/model/Role" "shortest" "I" (.int (1 : Int32))) (F_G_longest : Fld Z h0 a_G "com/example/cilu/cilu/model/Role" "longest" "I" (.int (1 : Int32))) (F_G_pool : Fld Z h0 a_G "com/example/cilu/cilu/model/Role" "pool" "Lcom/example/cilu/cilu/model/Role$Pool;" .null) (F_Z_ordinal : Fld Z h0 a_Z "java/lang/Enum" "ordinal" "I" (.int (14 : Int32))) (F_Z_shortest : Fld Z h0 a_Z "com/example/cilu/cilu/model/Role" "shortest" "I" (.int (2 : Int32))) (F_Z_longest : Fld Z h0 a_Z "com/example/cilu/cilu/model/Role" "longest" "I" (.int (2 : Int32))) (F_Z_pool : Fld Z h0 a_Z "com/example/cilu/cilu/model/Role" "pool" "Lcom/example/cilu/cilu/model/Role$Pool;" .null) (F_P_ordinal : Fld Z h0 a_P "java/lang/Enum" "ordinal" "I" (.int (7 : Int32))) (F_P_shortest : Fld Z h0 a_P "com/example/cilu/cilu/model/Role" "shortest" "I" (.int (1 : Int32))) (F_P_longest : Fld Z h0 a_P "com/example/cilu/cilu/model/Role" "longest" "I" (.int (1 : Int32))) (S_TRANSLITERATED : Sta Z h0 "com/example/cilu/cilu/model/Role$Pool" "TRANSLITERATED" "Lcom/example/cilu/cilu/model/Role$Pool;" (.ref a_TRANSLITERATED)) (E_TRANSLITERATED : Exa Z h0 a_TRANSLITERATED "com/example/cilu/cilu/model/Role$Pool") (F_P_pool : Fld Z h0 a_P "com/example/cilu/cilu/model/Role" "pool" "Lcom/example/cilu/cilu/model/Role$Pool;" (.ref a_TRANSLITERATED)) (F_C_ordinal : Fld Z h0 a_C "java/lang/Enum" "ordinal" "I" (.int (2 : Int32))) (F_C_shortest : Fld Z h0 a_C "com/example/cilu/cilu/model/Role" "shortest" "I" (.int (1 : Int32))) (F_C_longest : Fld Z h0 a_C "com/example/cilu/cilu/model/Role" "longest" "I" (.int (1 : Int32))) (F_C_pool : Fld Z h0 a_C "com/example/cilu/cilu/model/Role" "pool" "Lcom/example/cilu/cilu/model/Role$Pool;" (.ref a_GIVEN_NAME)) (F_L_shortest : Fld Z h0 a_L "com/example/cilu/cilu/model/Role" "shortest" "I" (.int (1 : Int32))) (F_L_longest : Fld Z h0 a_L "com/example/cilu/cilu/model/Role" "longest" "I" (.int (2147483647 : Int32))) (F_L_pool : Fld Z h0 a_L "com/example/cilu/cilu/model/Role" "pool" "Lcom/example/cilu/cilu/model/Role$Pool;" .null) (F_K_shortest : Fld Z h0 a_K "com/example/cilu/cilu/model/Role" "shortest" "I" (.int (1 : Int32))) (F_K_longest : Fld Z h0 a_K "com/example/cilu/cilu/model/Role" "longest" "I" (.int (2147483647 : Int32))) (F_K_pool : Fld Z h0 a_K "com/example/cilu/cilu/model/Role" "pool" "Lcom/example/cilu/cilu/model/Role$Pool;" .null) (F_Q_ordinal : Fld Z h0 a_Q "java/lang/Enum" "ordinal" "I" (.int (8 : Int32))) (F_Q_shortest : Fld Z h0 a_Q "com/example/cilu/cilu/model/Role" "shortest" "I" (.int (1 : Int32))) (F_Q_longest : Fld Z h0 a_Q "com/example/cilu/cilu/model/Role" "longest" "I" (.int (1 : Int32))) (F_Q_pool : Fld Z h0 a_Q "com/example/cilu/cilu/model/Role" "pool" "Lcom/example/cilu/cilu/model/Role$Pool;" (.ref a_TRANSLITERATED)) (F_B_ordinal : Fld Z h0 a_B "java/lang/Enum" "ordinal" "I" (.int (1 : Int32))) (F_B_shortest : Fld Z h0 a_B "com/example/cilu/cilu/model/Role" "shortest" "I" (.int (1 : Int32))) (F_B_longest : Fld Z h0 a_B "com/example/cilu/cilu/model/Role" "longest" "I" (.int (2 : Int32))) (F_B_pool : Fld Z h0 a_B "com/example/cilu/cilu/model/Role" "pool" "Lcom/example/cilu/cilu/model/Role$Pool;" .null) (F_X_ordinal : Fld Z h0 a_X "java/lang/Enum" "ordinal" "I" (.int (12 : Int32))) (F_X_shortest : Fld Z h0 a_X "com/example/cilu/cilu/model/Role" "shortest" "I" (.int (2 : Int32))) (F_X_longest : Fld Z h0 a_X "com/example/cilu/cilu/model/Role" "longest" "I" (.int (2 : Int32))) (F_X_pool : Fld Z h0 a_X "com/example/cilu/cilu/model/Role" "pool" "Lcom/example/cilu/cilu/model/Role$Pool;" .null) (F_E_ordinal : Fld Z h0 a_E "java/lang/Enum" "ordinal" "I" (.int (4 : Int32))) (F_E_shortest : Fld Z h0 a_E "com/example/cilu/cilu/model/Role" "shortest" "I" (.int (1 : Int32))) (F_E_longest : Fld Z h0 a_E "com/example/cilu/cilu/model/Role" "longest" "I" (.int (1 : Int32))) (F_E_pool : Fld Z h0 a_E "com/example/cilu/cilu/model/Role" "pool" "Lcom/example/cilu/cilu/model/Role$Pool;" (.ref a_GIVEN_NAME)) (F_R_ordinal : Fld Z h0 a_R "java/lang/Enum" "ordinal" "I" (.int (9 : Int32))) (F_R_shortest : Fld Z h0 a_R "com/example/cilu/cilu/model/Role" "shortest" "I" (.int (1 : Int32))) (F_R_longest : Fld Z h0 a_R "com/example/cilu/cilu/model/Role" "longest" "I" (.int (1 : Int32))) (F_R_pool : Fld Z h0 a_R "com/example/cilu/cilu/model/Role" "pool" "Lcom/example/cilu/cilu/model/Role$Pool;" (.ref a_TRANSLITERATED)) :
    MetFree l x (head1 (Jvm.Cond.code x code maxLocals ret :: ws) room_1) (fun a U => a = #[(.int xk)] ∧ Z.Warmed39 U.vm ∧ U.heap = h0) (fun _ _ _ _ _ => True) (fun _ U o U' => ∃ v L, o = .returned v ∧ own_QL Z xk a_A a_B a_C a_D a_E a_F a_G a_P a_Q a_R a_K a_L a_X a_Y a_Z a_GIVEN_NAME a_TRANSLITERATED h0 n0 v U'.heap L ∧ FrameEnd U o U' L room_1.cells room_1.slots) := by
  refine MetFree.of_bodySF (plainFor_of_name own_pn1) hisR ?_
  intro p e s m args below meth c s₁ Bd hml0 hP hK
  obtain ⟨rfl, hZ, hh⟩ := hP
  have hx := Bd.exec
  have hby := Bd.bytes
  have hml : c.maxLocals = 6 := hml0
  have hown : s.vm.findClass "com/example/cilu/cilu/model/RoleIsOfNamePinLaw" = some m.cls := findClass_of_methodNamed Bd.named
  have hnm := (name_of_methodNamed Bd.named Bd.method).1
  have X0 : Stand p l e room_1 s m #[(.int xk)] below meth c s₁ [] 0 0 := Stand.of_body Bd
  have e0 : s₁.heap = h0 := by rw [← hh, Bd.state]; rfl
  have N0 := Fr.nil n0
  show own_F p e below (fun o U' => ∃ v L, o = .returned v ∧ own_QL Z xk a_A a_B a_C a_D a_E a_F a_G a_P a_Q a_R a_K a_L a_X a_Y a_Z a_GIVEN_NAME a_TRANSLITERATED h0 n0 v U'.heap L ∧ FrameEnd s o U' L room_1.cells room_1.slots) s₁ (entryFrame m #[(.int xk)] maxLocals)
  rw [own_efL m xk]
  have ne_A_K : ¬ a_A = a_K := own_fne F_A_ordinal F_K_ordinal (fun q => absurd (Value.int.inj q) (by decide))
  have ne_A_L : ¬ a_A = a_L := own_fne F_A_ordinal F_L_ordinal (fun q => absurd (Value.int.inj q) (by decide))
  have ne_B_A : ¬ a_B = a_A := own_fne F_B_ordinal F_A_ordinal (fun q => absurd (Value.int.inj q) (by decide))
  have ne_B_K : ¬ a_B = a_K := own_fne F_B_ordinal F_K_ordinal (fun q => absurd (Value.int.inj q) (by decide))
  have ne_B_L : ¬ a_B = a_L := own_fne F_B_ordinal F_L_ordinal (fun q => absurd (Value.int.inj q) (by decide))
  have ne_C_A : ¬ a_C = a_A := own_fne F_C_ordinal F_A_ordinal (fun q => absurd (Value.int.inj q) (by decide))
  have ne_C_K : ¬ a_C = a_K := own_fne F_C_ordinal F_K_ordinal (fun q => absurd (Value.int.inj q) (by decide))
  have ne_C_L : ¬ a_C = a_L := own_fne F_C_ordinal F_L_ordinal (fun q => absurd (Value.int.inj q) (by decide))
  have ne_D_A : ¬ a_D = a_A := own_fne F_D_ordinal F_A_ordinal (fun q => absurd (Value.int.inj q) (by decide))
  have ne_D_K : ¬ a_D = a_K := own_fne F_D_ordinal F_K_ordinal (fun q => absurd (Value.int.inj q) (by decide))
  have ne_D_L : ¬ a_D = a_L := own_fne F_D_ordinal F_L_ordinal (fun q => absurd (Value.int.inj q) (by decide))
  have ne_E_A : ¬ a_E = a_A := own_fne F_E_ordinal F_A_ordinal (fun q => absurd (Value.int.inj q) (by decide))
  have ne_E_K : ¬ a_E = a_K := own_fne F_E_ordinal F_K_ordinal (fun q => absurd (Value.int.inj q) (by decide))
  have ne_E_L : ¬ a_E = a_L := own_fne F_E_ordinal F_L_ordinal (fun q => absurd (Value.int.inj q) (by decide))
  have ne_F_A : ¬ a_F = a_A := own_fne F_F_ordinal F_A_ordinal (fun q => absurd (Value.int.inj q) (by decide))
  have ne_F_K : ¬ a_F = a_K := own_fne F_F_ordinal F_K_ordinal (fun q => absurd (Value.int.inj q) (by decide))
  have ne_F_L : ¬ a_F = a_L := own_fne F_F_ordinal F_L_ordinal (fun q => absurd (Value.int.inj q) (by decide))
  have ne_G_A : ¬ a_G = a_A := own_fne F_G_ordinal F_A_ordinal (fun q => absurd (Value.int.inj q) (by decide))
  have ne_G_K : ¬ a_G = a_K := own_fne F_G_ordinal F_K_ordinal (fun q => absurd (Value.int.inj q) (by decide))
  have ne_G_L : ¬ a_G = a_L := own_fne F_G_ordinal F_L_ordinal (fun q => absurd (Value.int.inj q) (by decide))
  have ne_P_A : ¬ a_P = a_A := own_fne F_P_ordinal F_A_ordinal (fun q => absurd (Value.int.inj q) (by decide))
  have ne_P_K : ¬ a_P = a_K := own_fne F_P_ordinal F_K_ordinal (fun q => absurd (Value.int.inj q) (by decide))
  have ne_P_L : ¬ a_P = a_L := own_fne F_P_ordinal F_L_ordinal (fun q => absurd (Value.int.inj q) (by decide))
  have ne_Q_A : ¬ a_Q = a_A := own_fne F_Q_ordinal F_A_ordinal (fun q => absurd (Value.int.inj q) (by decide))
  have ne_Q_K : ¬ a_Q = a_K := own_fne F_Q_ordinal F_K_ordinal (fun q => absurd (Value.int.inj q) (by decide))
  have ne_Q_L : ¬ a_Q = a_L := own_fne F_Q_ordinal F_L_ordinal (fun q => absurd (Value.int.inj q) (by decide))
  have ne_R_A : ¬ a_R = a_A := own_fne F_R_ordinal F_A_ordinal (fun q => absurd (Value.int.inj q) (by decide))
  have ne_R_K : ¬ a_R = a_K := own_fne F_R_ordinal F_K_ordinal (fun q => absurd (Value.int.inj q) (by decide))
  have ne_R_L : ¬ a_R = a_L := own_fne F_R_ordinal F_L_ordinal (fun q => absurd (Value.int.inj q) (by decide))
  have ne_K_A : ¬ a_K = a_A := own_fne F_K_ordinal F_A_ordinal (fun q => absurd (Value.int.inj q) (by decide))
  have ne_K_L : ¬ a_K = a_L := own_fne F_K_ordinal F_L_ordinal (fun q => absurd (Value.int.inj q) (by decide))
  have ne_L_A : ¬ a_L = a_A := own_fne F_L_ordinal F_A_ordinal (fun q => absurd (Value.int.inj q) (by decide))
  have ne_L_K : ¬ a_L = a_K := own_fne F_L_ordinal F_K_ordinal (fun q => absurd (Value.int.inj q) (by decide))
  have ne_X_A : ¬ a_X = a_A := own_fne F_X_ordinal F_A_ordinal (fun q => absurd (Value.int.inj q) (by decide))
  have ne_X_K : ¬ a_X = a_K := own_fne F_X_ordinal F_K_ordinal (fun q => absurd (Value.int.inj q) (by decide))
  have ne_X_L : ¬ a_X = a_L := own_fne F_X_ordinal F_L_ordinal (fun q => absurd (Value.int.inj q) (by decide))
  have ne_Y_A : ¬ a_Y = a_A := own_fne F_Y_ordinal F_A_ordinal (fun q => absurd (Value.int.inj q) (by decide))
  have ne_Y_K : ¬ a_Y = a_K := own_fne F_Y_ordinal F_K_ordinal (fun q => absurd (Value.int.inj q) (by decide))
  have ne_Y_L : ¬ a_Y = a_L := own_fne F_Y_ordinal F_L_ordinal (fun q => absurd (Value.int.inj q) (by decide))
  have ne_Z_A : ¬ a_Z = a_A := own_fne F_Z_ordinal F_A_ordinal (fun q => absurd (Value.int.inj q) (by decide))
  have ne_Z_K : ¬ a_Z = a_K := own_fne F_Z_ordinal F_K_ordinal (fun q => absurd (Value.int.inj q) (by decide))
  have ne_Z_L : ¬ a_Z = a_L := own_fne F_Z_ordinal F_L_ordinal (fun q => absurd (Value.int.inj q) (by decide))
  refine own_go (T' := s₁) (g' := (mkF m 2 #[.val (.int xk), .unset, .unset, .unset, .unset, .unset] [(.int (15 : Int32))])) (fun _ k => XS.bipush X0.here hx rfl (hb hby at_0) k) ?_
  obtain ⟨T1, h1, k1, X1, e1, E1, A1, Ov1, st1⟩ := newR X0 hx hZ hown (hw _ (List.mem_of_getElem? (i := 0) rfl)) (hw _ (List.mem_of_getElem? (i := 1) rfl)) e0 (g := (mkF m 2 #[.val (.int xk), .unset, .unset, .unset, .unset, .unset] [(.int (15 : Int32))])) rfl (hb hby at_2) rfl (by decide) (cap := 15) (by decide) (by decide) (by decide) (by decide)
  obtain ⟨b1, g1⟩ : ∃ z, z = h0.size := ⟨_, rfl⟩
  rw [← g1] at A1 st1
  have gz_b1 : n0 ≤ b1 := Nat.le_trans Z0 (Nat.le_of_eq g1.symm)
  have hz_b1 : h0.size ≤ b1 := Nat.le_trans (Keep.refl h0 []).1 (Nat.le_of_eq g1.symm)
  have Z1 : n0 ≤ h1.size := Nat.le_trans Z0 E1.1
  have O1 : Ext h0 h1 := own_ext_tr (own_ext_rf h0) E1
  have K1 : Keep h0 h1 [] := (Keep.refl h0 []).ext E1
  have V1 : own_A Z h1 b1 k1 (.object "com/example/cilu/cilu/model/Role") [.null, .null, .null, .null, .null, .null, .null, .null, .null, .null, .null, .null, .null, .null, .null] := own_A.new A1 (N := 15) rfl
  refine own_go (T' := T1) (g' := (mkF m 5 #[.val (.int xk), .unset, .unset, .unset, .unset, .unset] [(.ref b1)])) (fun _ k => st1 _ k) ?_
  refine own_go (T' := T1) (g' := (mkF m 6 #[.val (.int xk), .unset, .unset, .unset, .unset, .unset] [(.ref b1), (.ref b1)])) (fun _ k => XS.dup X1.here hx rfl (hb hby at_5) rfl rfl k) ?_
  refine own_go (T' := T1) (g' := (mkF m 7 #[.val (.int xk), .unset, .unset, .unset, .unset, .unset] [(.int (0 : Int32)), (.ref b1), (.ref b1)])) (fun _ k => XS.iconst X1.here hx rfl (hb hby at_6) k) ?_
  obtain ⟨T2, X2, e2, st2⟩ := getS X1 hx hZ (host := "") hown (hw _ (List.mem_of_getElem? (i := 2) rfl)) Via.refl e1 (S_A.ext O1) (g := (mkF m 7 #[.val (.int xk), .unset, .unset, .unset, .unset, .unset] [(.int (0 : Int32)), (.ref b1), (.ref b1)])) rfl (hb hby at_7)
  refine own_go (T' := T2) (g' := (mkF m 10 #[.val (.int xk), .unset, .unset, .unset, .unset, .unset] [(.ref a_A), (.int (0 : Int32)), (.ref b1), (.ref b1)])) (fun _ k => st2 _ k) ?_
  obtain ⟨T3, h3, X3, e3, V3, W3, st3⟩ := own_aastore X2 hx hZ e2 V1 (j := (0 : Int32)) (i := 0) rfl (by decide) (Nat.le_of_ble_eq_true rfl) rfl (own_A.sto V1 Ov1 (Ins.self (E_A.ext O1))) (g := (mkF m 10 #[.val (.int xk), .unset, .unset, .unset, .unset, .unset] [(.ref a_A), (.int (0 : Int32)), (.ref b1), (.ref b1)])) rfl rfl (hb hby at_10)
  have Va3 : own_A Z h3 b1 k1 (.object "com/example/cilu/cilu/model/Role") [(.ref a_A), .null, .null, .null, .null, .null, .null, .null, .null, .null, .null, .null, .null, .null, .null] := V3
  have Z3 : n0 ≤ h3.size := Nat.le_trans Z1 (Keep.of_wr W3).1
  have O3 : Ext h0 h3 := own_ext_wr O1 W3 hz_b1
  have K3 : Keep h0 h3 [] := K1.wr W3 (Or.inr hz_b1)
  have N3 := Fr.snoc X3 N0 gz_b1
  refine own_go (T' := T3) (g' := (mkF m 11 #[.val (.int xk), .unset, .unset, .unset, .unset, .unset] [(.ref b1)])) (fun _ k => st3 _ k) ?_
  refine own_go (T' := T3) (g' := (mkF m 12 #[.val (.int xk), .unset, .unset, .unset, .unset, .unset] [(.ref b1), (.ref b1)])) (fun _ k => XS.dup X3.here hx rfl (hb hby at_11) rfl rfl k) ?_
  refine own_go (T' := T3) (g' := (mkF m 13 #[.val (.int xk), .unset, .unset, .unset, .unset, .unset] [(.int (1 : Int32)), (.ref b1), (.ref b1)])) (fun _ k => XS.iconst X3.here hx rfl (hb hby at_12) k) ?_
  obtain ⟨T4, X4, e4, st4⟩ := getS X3 hx hZ (host := "") hown (hw _ (List.mem_of_getElem? (i := 6) rfl)) Via.refl e3 (S_B.ext O3) (g := (mkF m 13 #[.val (.int xk), .unset, .unset, .unset, .unset, .unset] [(.int (1 : Int32)), (.ref b1), (.ref b1)])) rfl (hb hby at_13)
  refine own_go (T' := T4) (g' := (mkF m 16 #[.val (.int xk), .unset, .unset, .unset, .unset, .unset] [(.ref a_B), (.int (1 : Int32)), (.ref b1), (.ref b1)])) (fun _ k => st4 _ k) ?_
  obtain ⟨T5, h5, X5, e5, V5, W5, st5⟩ := own_aastore X4 hx hZ e4 Va3 (j := (1 : Int32)) (i := 1) rfl (by decide) (Nat.le_of_ble_eq_true rfl) rfl (own_A.sto Va3 Ov1 (Ins.self (E_B.ext O3))) (g := (mkF m 16 #[.val (.int xk), .unset, .unset, .unset, .unset, .unset] [(.ref a_B), (.int (1 : Int32)), (.ref b1), (.ref b1)])) rfl rfl (hb hby at_16)
  have Va5 : own_A Z h5 b1 k1 (.object "com/example/cilu/cilu/model/Role") [(.ref a_A), (.ref a_B), .null, .null, .null, .null, .null, .null, .null, .null, .null, .null, .null, .null, .null] := V5
  have Z5 : n0 ≤ h5.size := Nat.le_trans Z3 (Keep.of_wr W5).1
  have O5 : Ext h0 h5 := own_ext_wr O3 W5 hz_b1
  have K5 : Keep h0 h5 [] := K3.wr W5 (Or.inr hz_b1)
  have N5 := Fr.snoc X5 N3 gz_b1
  refine own_go (T' := T5) (g' := (mkF m 17 #[.val (.int xk), .unset, .unset, .unset, .unset, .unset] [(.ref b1)])) (fun _ k => st5 _ k) ?_
  refine own_go (T' := T5) (g' := (mkF m 18 #[.val (.int xk), .unset, .unset, .unset, .unset, .unset] [(.ref b1), (.ref b1)])) (fun _ k => XS.dup X5.here hx rfl (hb hby at_17) rfl rfl k) ?_
  refine own_go (T' := T5) (g' := (mkF m 19 #[.val (.int xk), .unset, .unset, .unset, .unset, .unset] [(.int (2 : Int32)), (.ref b1), (.ref b1)])) (fun _ k => XS.iconst X5.here hx rfl (hb hby at_18) k) ?_
  obtain ⟨T6, X6, e6, st6⟩ := getS X5 hx hZ (host := "") hown (hw _ (List.mem_of_getElem? (i := 8) rfl)) Via.refl e5 (S_C.ext O5) (g := (mkF m 19 #[.val (.int xk), .unset, .unset, .unset, .unset, .unset] [(.int (2 : Int32)), (.ref b1), (.ref b1)])) rfl (hb hby at_19)
  refine own_go (T' := T6) (g' := (mkF m 22 #[.val (.int xk), .unset, .unset, .unset, .unset, .unset] [(.ref a_C), (.int (2 : Int32)), (.ref b1), (.ref b1)])) (fun _ k => st6 _ k) ?_
  obtain ⟨T7, h7, X7, e7, V7, W7, st7⟩ := own_aastore X6 hx hZ e6 Va5 (j := (2 : Int32)) (i := 2) rfl (by decide) (Nat.le_of_ble_eq_true rfl) rfl (own_A.sto Va5 Ov1 (Ins.self (E_C.ext O5))) (g := (mkF m 22 #[.val (.int xk), .unset, .unset, .unset, .unset, .unset] [(.ref a_C), (.int (2 : Int32)), (.ref b1), (.ref b1)])) rfl rfl (hb hby at_22)
  have Va7 : own_A Z h7 b1 k1 (.object "com/example/cilu/cilu/model/Role") [(.ref a_A), (.ref a_B), (.ref a_C), .null, .null, .null, .null, .null, .null, .null, .null, .null, .null, .null, .null] := V7
  have Z7 : n0 ≤ h7.size := Nat.le_trans Z5 (Keep.of_wr W7).1
  have O7 : Ext h0 h7 := own_ext_wr O5 W7 hz_b1
  have K7 : Keep h0 h7 [] := K5.wr W7 (Or.inr hz_b1)
  have N7 := Fr.snoc X7 N5 gz_b1
  refine own_go (T' := T7) (g' := (mkF m 23 #[.val (.int xk), .unset, .unset, .unset, .unset, .unset] [(.ref b1)])) (fun _ k => st7 _ k) ?_
  refine own_go (T' := T7) (g' := (mkF m 24 #[.val (.int xk), .unset, .unset, .unset, .unset, .unset] [(.ref b1), (.ref b1)])) (fun _ k => XS.dup X7.here hx rfl (hb hby at_23) rfl rfl k) ?_
  refine own_go (T' := T7) (g' := (mkF m 25 #[.val (.int xk), .unset, .unset, .unset, .unset, .unset] [(.int (3 : Int32)), (.ref b1), (.ref b1)])) (fun _ k => XS.iconst X7.here hx rfl (hb hby at_24) k) ?_
  obtain ⟨T8, X8, e8, st8⟩ := getS X7 hx hZ (host := "") hown (hw _ (List.mem_of_getElem? (i := 10) rfl)) Via.refl e7 (S_D.ext O7) (g := (mkF m 25 #[.val (.int xk), .unset, .unset, .unset, .unset, .unset] [(.int (3 : Int32)), (.ref b1), (.ref b1)])) rfl (hb hby at_25)
  refine own_go (T' := T8) (g' := (mkF m 28 #[.val (.int xk), .unset, .unset, .unset, .unset, .unset] [(.ref a_D), (.int (3 : Int32)), (.ref b1), (.ref b1)])) (fun _ k => st8 _ k) ?_
  obtain ⟨T9, h9, X9, e9, V9, W9, st9⟩ := own_aastore X8 hx hZ e8 Va7 (j := (3 : Int32)) (i := 3) rfl (by decide) (Nat.le_of_ble_eq_true rfl) rfl (own_A.sto Va7 Ov1 (Ins.self (E_D.ext O7))) (g := (mkF m 28 #[.val (.int xk), .unset, .unset, .unset, .unset, .unset] [(.ref a_D), (.int (3 : Int32)), (.ref b1), (.ref b1)])) rfl rfl (hb hby at_28)
  have Va9 : own_A Z h9 b1 k1 (.object "com/example/cilu/cilu/model/Role") [(.ref a_A), (.ref a_B), (.ref a_C), (.ref a_D), .null, .null, .null, .null, .null, .null, .null, .null, .null, .null, .null] := V9
  have Z9 : n0 ≤ h9.size := Nat.le_trans Z7 (Keep.of_wr W9).1
  have O9 : Ext h0 h9 := own_ext_wr O7 W9 hz_b1
  have K9 : Keep h0 h9 [] := K7.wr W9 (Or.inr hz_b1)
  have N9 := Fr.snoc X9 N7 gz_b1
  refine own_go (T' := T9) (g' := (mkF m 29 #[.val (.int xk), .unset, .unset, .unset, .unset, .unset] [(.ref b1)])) (fun _ k => st9 _ k) ?_
  refine own_go (T' := T9) (g' := (mkF m 30 #[.val (.int xk), .unset, .unset, .unset, .unset, .unset] [(.ref b1), (.ref b1)])) (fun _ k => XS.dup X9.here hx rfl (hb hby at_29) rfl rfl k) ?_
  refine own_go (T' := T9) (g' := (mkF m 31 #[.val (.int xk), .unset, .unset, .unset, .unset, .unset] [(.int (4 : Int32)), (.ref b1), (.ref b1)])) (fun _ k => XS.iconst X9.here hx rfl (hb hby at_30) k) ?_
  obtain ⟨T10, X10, e10, st10⟩ := getS X9 hx hZ (host := "") hown (hw _ (List.mem_of_getElem? (i := 12) rfl)) Via.refl e9 (S_E.ext O9) (g := (mkF m 31 #[.val (.int xk), .unset, .unset, .unset, .unset, .unset] [(.int (4 : Int32)), (.ref b1), (.ref b1)])) rfl (hb hby at_31)
  refine own_go (T' := T10) (g' := (mkF m 34 #[.val (.int xk), .unset, .unset, .unset, .unset, .unset] [(.ref a_E), (.int (4 : Int32)), (.ref b1), (.ref b1)])) (fun _ k => st10 _ k) ?_
  obtain ⟨T11, h11, X11, e11, V11, W11, st11⟩ := own_aastore X10 hx hZ e10 Va9 (j := (4 : Int32)) (i := 4) rfl (by decide) (Nat.le_of_ble_eq_true rfl) rfl (own_A.sto Va9 Ov1 (Ins.self (E_E.ext O9))) (g := (mkF m 34 #[.val (.int xk), .unset, .unset, .unset, .unset, .unset] [(.ref a_E), (.int (4 : Int32)), (.ref b1), (.ref b1)])) rfl rfl (hb hby at_34)
  have Va11 : own_A Z h11 b1 k1 (.object "com/example/cilu/cilu/model/Role") [(.ref a_A), (.ref a_B), (.ref a_C), (.ref a_D), (.ref a_E), .null, .null, .null, .null, .null, .null, .null, .null, .null, .null] := V11
  have Z11 : n0 ≤ h11.size := Nat.le_trans Z9 (Keep.of_wr W11).1
  have O11 : Ext h0 h11 := own_ext_wr O9 W11 hz_b1
  have K11 : Keep h0 h11 [] := K9.wr W11 (Or.inr hz_b1)
  have N11 := Fr.snoc X11 N9 gz_b1
  refine own_go (T' := T11) (g' := (mkF m 35 #[.val (.int xk), .unset, .unset, .unset, .unset, .unset] [(.ref b1)])) (fun _ k => st11 _ k) ?_
  refine own_go (T' := T11) (g' := (mkF m 36 #[.val (.int xk), .unset, .unset, .unset, .unset, .unset] [(.ref b1), (.ref b1)])) (fun _ k => XS.dup X11.here hx rfl (hb hby at_35) rfl rfl k) ?_
  refine own_go (T' := T11) (g' := (mkF m 37 #[.val (.int xk), .unset, .unset, .unset, .unset, .unset] [(.int (5 : Int32)), (.ref b1), (.ref b1)])) (fun _ k => XS.iconst X11.here hx rfl (hb hby at_36) k) ?_
  obtain ⟨T12, X12, e12, st12⟩ := getS X11 hx hZ (host := "") hown (hw _ (List.mem_of_getElem? (i := 14) rfl)) Via.refl e11 (S_F.ext O11) (g := (mkF m 37 #[.val (.int xk), .unset, .unset, .unset, .unset, .unset] [(.int (5 : Int32)), (.ref b1), (.ref b1)])) rfl (hb hby at_37)
  refine own_go (T' := T12) (g' := (mkF m 40 #[.val (.int xk), .unset, .unset, .unset, .unset, .unset] [(.ref a_F), (.int (5 : Int32)), (.ref b1), (.ref b1)])) (fun _ k => st12 _ k) ?_
  obtain ⟨T13, h13, X13, e13, V13, W13, st13⟩ := own_aastore X12 hx hZ e12 Va11 (j := (5 : Int32)) (i := 5) rfl (by decide) (Nat.le_of_ble_eq_true rfl) rfl (own_A.sto Va11 Ov1 (Ins.self (E_F.ext O11))) (g := (mkF m 40 #[.val (.int xk), .unset, .unset, .unset, .unset, .unset] [(.ref a_F), (.int (5 : Int32)), (.ref b1), (.ref b1)])) rfl rfl (hb hby at_40)
  have Va13 : own_A Z h13 b1 k1 (.object "com/example/cilu/cilu/model/Role") [(.ref a_A), (.ref a_B), (.ref a_C), (.ref a_D), (.ref a_E), (.ref a_F), .null, .null, .null, .null, .null, .null, .null, .null, .null] := V13
  have Z13 : n0 ≤ h13.size := Nat.le_trans Z11 (Keep.of_wr W13).1
  have O13 : Ext h0 h13 := own_ext_wr O11 W13 hz_b1
  have K13 : Keep h0 h13 [] := K11.wr W13 (Or.inr hz_b1)
  have N13 := Fr.snoc X13 N11 gz_b1
  refine own_go (T' := T13) (g' := (mkF m 41 #[.val (.int xk), .unset, .unset, .unset, .unset, .unset] [(.ref b1)])) (fun _ k => st13 _ k) ?_
  refine own_go (T' := T13) (g' := (mkF m 42 #[.val (.int xk), .unset, .unset, .unset, .unset, .unset] [(.ref b1), (.ref b1)])) (fun _ k => XS.dup X13.here hx rfl (hb hby at_41) rfl rfl k) ?_
  refine own_go (T' := T13) (g' := (mkF m 44 #[.val (.int xk), .unset, .unset, .unset, .unset, .unset] [(.int (6 : Int32)), (.ref b1), (.ref b1)])) (fun _ k => XS.bipush X13.here hx rfl (hb hby at_42) k) ?_
  obtain ⟨T14, X14, e14, st14⟩ := getS X13 hx hZ (host := "") hown (hw _ (List.mem_of_getElem? (i := 16) rfl)) Via.refl e13 (S_G.ext O13) (g := (mkF m 44 #[.val (.int xk), .unset, .unset, .unset, .unset, .unset] [(.int (6 : Int32)), (.ref b1), (.ref b1)])) rfl (hb hby at_44)
  refine own_go (T' := T14) (g' := (mkF m 47 #[.val (.int xk), .unset, .unset, .unset, .unset, .unset] [(.ref a_G), (.int (6 : Int32)), (.ref b1), (.ref b1)])) (fun _ k => st14 _ k) ?_
  obtain ⟨T15, h15, X15, e15, V15, W15, st15⟩ := own_aastore X14 hx hZ e14 Va13 (j := (6 : Int32)) (i := 6) rfl (by decide) (Nat.le_of_ble_eq_true rfl) rfl (own_A.sto Va13 Ov1 (Ins.self (E_G.ext O13))) (g := (mkF m 47 #[.val (.int xk), .unset, .unset, .unset, .unset, .unset] [(.ref a_G), (.int (6 : Int32)), (.ref b1), (.ref b1)])) rfl rfl (hb hby at_47)
  have Va15 : own_A Z h15 b1 k1 (.object "com/example/cilu/cilu/model/Role") [(.ref a_A), (.ref a_B), (.ref a_C), (.ref a_D), (.ref a_E), (.ref a_F), (.ref a_G), .null, .null, .null, .null, .null, .null, .null, .null] := V15
  have Z15 : n0 ≤ h15.size := Nat.le_trans Z13 (Keep.of_wr W15).1
  have O15 : Ext h0 h15 := own_ext_wr O13 W15 hz_b1
  have K15 : Keep h0 h15 [] := K13.wr W15 (Or.inr hz_b1)
  have N15 := Fr.snoc X15 N13 gz_b1
  refine own_go (T' := T15) (g' := (mkF m 48 #[.val (.int xk), .unset, .unset, .unset, .unset, .unset] [(.ref b1)])) (fun _ k => st15 _ k) ?_
  refine own_go (T' := T15) (g' := (mkF m 49 #[.val (.int xk), .unset, .unset, .unset, .unset, .unset] [(.ref b1), (.ref b1)])) (fun _ k => XS.dup X15.here hx rfl (hb hby at_48) rfl rfl k) ?_
  refine own_go (T' := T15) (g' := (mkF m 51 #[.val (.int xk), .unset, .unset, .unset, .unset, .unset] [(.int (7 : Int32)), (.ref b1), (.ref b1)])) (fun _ k => XS.bipush X15.here hx rfl (hb hby at_49) k) ?_
  obtain ⟨T16, X16, e16, st16⟩ := getS X15 hx hZ (host := "") hown (hw _ (List.mem_of_getElem? (i := 18) rfl)) Via.refl e15 (S_P.ext O15) (g := (mkF m 51 #[.val (.int xk), .unset, .unset, .unset, .unset, .unset] [(.int (7 : Int32)), (.ref b1), (.ref b1)])) rfl (hb hby at_51)
  refine own_go (T' := T16) (g' := (mkF m 54 #[.val (.int xk), .unset, .unset, .unset, .unset, .unset] [(.ref a_P), (.int (7 : Int32)), (.ref b1), (.ref b1)])) (fun _ k => st16 _ k) ?_
  obtain ⟨T17, h17, X17, e17, V17, W17, st17⟩ := own_aastore X16 hx hZ e16 Va15 (j := (7 : Int32)) (i := 7) rfl (by decide) (Nat.le_of_ble_eq_true rfl) rfl (own_A.sto Va15 Ov1 (Ins.self (E_P.ext O15))) (g := (mkF m 54 #[.val (.int xk), .unset, .unset, .unset, .unset, .unset] [(.ref a_P), (.int (7 : Int32)), (.ref b1), (.ref b1)])) rfl rfl (hb hby at_54)
  have Va17 : own_A Z h17 b1 k1 (.object "com/example/cilu/cilu/model/Role") [(.ref a_A), (.ref a_B), (.ref a_C), (.ref a_D), (.ref a_E), (.ref a_F), (.ref a_G), (.ref a_P), .null, .null, .null, .null, .null, .null, .null] := V17
  have Z17 : n0 ≤ h17.size := Nat.le_trans Z15 (Keep.of_wr W17).1
  have O17 : Ext h0 h17 := own_ext_wr O15 W17 hz_b1
  have K17 : Keep h0 h17 [] := K15.wr W17 (Or.inr hz_b1)
  have N17 := Fr.snoc X17 N15 gz_b1
  refine own_go (T' := T17) (g' := (mkF m 55 #[.val (.int xk), .unset, .unset, .unset, .unset, .unset] [(.ref b1)])) (fun _ k => st17 _ k) ?_
  refine own_go (T' := T17) (g' := (mkF m 56 #[.val (.int xk), .unset, .unset, .unset, .unset, .unset] [(.ref b1), (.ref b1)])) (fun _ k => XS.dup X17.here hx rfl (hb hby at_55) rfl rfl k) ?_
  refine own_go (T' := T17) (g' := (mkF m 58 #[.val (.int xk), .unset, .unset, .unset, .unset, .unset] [(.int (8 : Int32)), (.ref b1), (.ref b1)])) (fun _ k => XS.bipush X17.here hx rfl (hb hby at_56) k) ?_
  obtain ⟨T18, X18, e18, st18⟩ := getS X17 hx hZ (host := "") hown (hw _ (List.mem_of_getElem? (i := 20) rfl)) Via.refl e17 (S_Q.ext O17) (g := (mkF m 58 #[.val (.int xk), .unset, .unset, .unset, .unset, .unset] [(.int (8 : Int32)), (.ref b1), (.ref b1)])) rfl (hb hby at_58)
  refine own_go (T' := T18) (g' := (mkF m 61 #[.val (.int xk), .unset, .unset, .unset, .unset, .unset] [(.ref a_Q), (.int (8 : Int32)), (.ref b1), (.ref b1)])) (fun _ k => st18 _ k) ?_
  obtain ⟨T19, h19, X19, e19, V19, W19, st19⟩ := own_aastore X18 hx hZ e18 Va17 (j := (8 : Int32)) (i := 8) rfl (by decide) (Nat.le_of_ble_eq_true rfl) rfl (own_A.sto Va17 Ov1 (Ins.self (E_Q.ext O17))) (g := (mkF m 61 #[.val (.int xk), .unset, .unset, .unset, .unset, .unset] [(.ref a_Q), (.int (8 : Int32)), (.ref b1), (.ref b1)])) rfl rfl (hb hby at_61)
  have Va19 : own_A Z h19 b1 k1 (.object "com/example/cilu/cilu/model/Role") [(.ref a_A), (.ref a_B), (.ref a_C), (.ref a_D), (.ref a_E), (.ref a_F), (.ref a_G), (.ref a_P), (.ref a_Q), .null, .null, .null, .null, .null, .null] := V19
  have Z19 : n0 ≤ h19.size := Nat.le_trans Z17 (Keep.of_wr W19).1
  have O19 : Ext h0 h19 := own_ext_wr O17 W19 hz_b1
  have K19 : Keep h0 h19 [] := K17.wr W19 (Or.inr hz_b1)
  have N19 := Fr.snoc X19 N17 gz_b1
  refine own_go (T' := T19) (g' := (mkF m 62 #[.val (.int xk), .unset, .unset, .unset, .unset, .unset] [(.ref b1)])) (fun _ k => st19 _ k) ?_
  refine own_go (T' := T19) (g' := (mkF m 63 #[.val (.int xk), .unset, .unset, .unset, .unset, .unset] [(.ref b1), (.ref b1)])) (fun _ k => XS.dup X19.here hx rfl (hb hby at_62) rfl rfl k) ?_
  refine own_go (T' := T19) (g' := (mkF m 65 #[.val (.int xk), .unset, .unset, .unset, .unset, .unset] [(.int (9 : Int32)), (.ref b1), (.ref b1)])) (fun _ k => XS.bipush X19.here hx rfl (hb hby at_63) k) ?_
  obtain ⟨T20, X20, e20, st20⟩ := getS X19 hx hZ (host := "") hown (hw _ (List.mem_of_getElem? (i := 22) rfl)) Via.refl e19 (S_R.ext O19) (g := (mkF m 65 #[.val (.int xk), .unset, .unset, .unset, .unset, .unset] [(.int (9 : Int32)), (.ref b1), (.ref b1)])) rfl (hb hby at_65)
  refine own_go (T' := T20) (g' := (mkF m 68 #[.val (.int xk), .unset, .unset, .unset, .unset, .unset] [(.ref a_R), (.int (9 : Int32)), (.ref b1), (.ref b1)])) (fun _ k => st20 _ k) ?_
  obtain ⟨T21, h21, X21, e21, V21, W21, st21⟩ := own_aastore X20 hx hZ e20 Va19 (j := (9 : Int32)) (i := 9) rfl (by decide) (Nat.le_of_ble_eq_true rfl) rfl (own_A.sto Va19 Ov1 (Ins.self (E_R.ext O19))) (g := (mkF m 68 #[.val (.int xk), .unset, .unset, .unset, .unset, .unset] [(.ref a_R), (.int (9 : Int32)), (.ref b1), (.ref b1)])) rfl rfl (hb hby at_68)
  have Va21 : own_A Z h21 b1 k1 (.object "com/example/cilu/cilu/model/Role") [(.ref a_A), (.ref a_B), (.ref a_C), (.ref a_D), (.ref a_E), (.ref a_F), (.ref a_G), (.ref a_P), (.ref a_Q), (.ref a_R), .null, .null, .null, .null, .null] := V21
  have Z21 : n0 ≤ h21.size := Nat.le_trans Z19 (Keep.of_wr W21).1
  have O21 : Ext h0 h21 := own_ext_wr O19 W21 hz_b1
  have K21 : Keep h0 h21 [] := K19.wr W21 (Or.inr hz_b1)
  have N21 := Fr.snoc X21 N19 gz_b1
  refine own_go (T' := T21) (g' := (mkF m 69 #[.val (.int xk), .unset, .unset, .unset, .unset, .unset] [(.ref b1)])) (fun _ k => st21 _ k) ?_
  refine own_go (T' := T21) (g' := (mkF m 70 #[.val (.int xk), .unset, .unset, .unset, .unset, .unset] [(.ref b1), (.ref b1)])) (fun _ k => XS.dup X21.here hx rfl (hb hby at_69) rfl rfl k) ?_
  refine own_go (T' := T21) (g' := (mkF m 72 #[.val (.int xk), .unset, .unset, .unset, .unset, .unset] [(.int (10 : Int32)), (.ref b1), (.ref b1)])) (fun _ k => XS.bipush X21.here hx rfl (hb hby at_70) k) ?_
  obtain ⟨T22, X22, e22, st22⟩ := getS X21 hx hZ (host := "") hown (hw _ (List.mem_of_getElem? (i := 24) rfl)) Via.refl e21 (S_K.ext O21) (g := (mkF m 72 #[.val (.int xk), .unset, .unset, .unset, .unset, .unset] [(.int (10 : Int32)), (.ref b1), (.ref b1)])) rfl (hb hby at_72)
  refine own_go (T' := T22) (g' := (mkF m 75 #[.val (.int xk), .unset, .unset, .unset, .unset, .unset] [(.ref a_K), (.int (10 : Int32)), (.ref b1), (.ref b1)])) (fun _ k => st22 _ k) ?_
  obtain ⟨T23, h23, X23, e23, V23, W23, st23⟩ := own_aastore X22 hx hZ e22 Va21 (j := (10 : Int32)) (i := 10) rfl (by decide) (Nat.le_of_ble_eq_true rfl) rfl (own_A.sto Va21 Ov1 (Ins.self (E_K.ext O21))) (g := (mkF m 75 #[.val (.int xk), .unset, .unset, .unset, .unset, .unset] [(.ref a_K), (.int (10 : Int32)), (.ref b1), (.ref b1)])) rfl rfl (hb hby at_75)
  have Va23 : own_A Z h23 b1 k1 (.object "com/example/cilu/cilu/model/Role") [(.ref a_A), (.ref a_B), (.ref a_C), (.ref a_D), (.ref a_E), (.ref a_F), (.ref a_G), (.ref a_P), (.ref a_Q), (.ref a_R), (.ref a_K), .null, .null, .null, .null] := V23
  have Z23 : n0 ≤ h23.size := Nat.le_trans Z21 (Keep.of_wr W23).1
  have O23 : Ext h0 h23 := own_ext_wr O21 W23 hz_b1
  have K23 : Keep h0 h23 [] := K21.wr W23 (Or.inr hz_b1)
  have N23 := Fr.snoc X23 N21 gz_b1
  refine own_go (T' := T23) (g' := (mkF m 76 #[.val (.int xk), .unset, .unset, .unset, .unset, .unset] [(.ref b1)])) (fun _ k => st23 _ k) ?_
  refine own_go (T' := T23) (g' := (mkF m 77 #[.val (.int xk), .unset, .unset, .unset, .unset, .unset] [(.ref b1), (.ref b1)])) (fun _ k => XS.dup X23.here hx rfl (hb hby at_76) rfl rfl k) ?_
  refine own_go (T' := T23) (g' := (mkF m 79 #[.val (.int xk), .unset, .unset, .unset, .unset, .unset] [(.int (11 : Int32)), (.ref b1), (.ref b1)])) (fun _ k => XS.bipush X23.here hx rfl (hb hby at_77) k) ?_
  obtain ⟨T24, X24, e24, st24⟩ := getS X23 hx hZ (host := "") hown (hw _ (List.mem_of_getElem? (i := 26) rfl)) Via.refl e23 (S_L.ext O23) (g := (mkF m 79 #[.val (.int xk), .unset, .unset, .unset, .unset, .unset] [(.int (11 : Int32)), (.ref b1), (.ref b1)])) rfl (hb hby at_79)
  refine own_go (T' := T24) (g' := (mkF m 82 #[.val (.int xk), .unset, .unset, .unset, .unset, .unset] [(.ref a_L), (.int (11 : Int32)), (.ref b1), (.ref b1)])) (fun _ k => st24 _ k) ?_
  obtain ⟨T25, h25, X25, e25, V25, W25, st25⟩ := own_aastore X24 hx hZ e24 Va23 (j := (11 : Int32)) (i := 11) rfl (by decide) (Nat.le_of_ble_eq_true rfl) rfl (own_A.sto Va23 Ov1 (Ins.self (E_L.ext O23))) (g := (mkF m 82 #[.val (.int xk), .unset, .unset, .unset, .unset, .unset] [(.ref a_L), (.int (11 : Int32)), (.ref b1), (.ref b1)])) rfl rfl (hb hby at_82)
  have Va25 : own_A Z h25 b1 k1 (.object "com/example/cilu/cilu/model/Role") [(.ref a_A), (.ref a_B), (.ref a_C), (.ref a_D), (.ref a_E), (.ref a_F), (.ref a_G), (.ref a_P), (.ref a_Q), (.ref a_R), (.ref a_K), (.ref a_L), .null, .null, .null] := V25
  have Z25 : n0 ≤ h25.size := Nat.le_trans Z23 (Keep.of_wr W25).1
  have O25 : Ext h0 h25 := own_ext_wr O23 W25 hz_b1
  have K25 : Keep h0 h25 [] := K23.wr W25 (Or.inr hz_b1)
  have N25 := Fr.snoc X25 N23 gz_b1
  refine own_go (T' := T25) (g' := (mkF m 83 #[.val (.int xk), .unset, .unset, .unset, .unset, .unset] [(.ref b1)])) (fun _ k => st25 _ k) ?_
  refine own_go (T' := T25) (g' := (mkF m 84 #[.val (.int xk), .unset, .unset, .unset, .unset, .unset] [(.ref b1), (.ref b1)])) (fun _ k => XS.dup X25.here hx rfl (hb hby at_83) rfl rfl k) ?_
  refine own_go (T' := T25) (g' := (mkF m 86 #[.val (.int xk), .unset, .unset, .unset, .unset, .unset] [(.int (12 : Int32)), (.ref b1), (.ref b1)])) (fun _ k => XS.bipush X25.here hx rfl (hb hby at_84) k) ?_
  obtain ⟨T26, X26, e26, st26⟩ := getS X25 hx hZ (host := "") hown (hw _ (List.mem_of_getElem? (i := 28) rfl)) Via.refl e25 (S_X.ext O25) (g := (mkF m 86 #[.val (.int xk), .unset, .unset, .unset, .unset, .unset] [(.int (12 : Int32)), (.ref b1), (.ref b1)])) rfl (hb hby at_86)
  refine own_go (T' := T26) (g' := (mkF m 89 #[.val (.int xk), .unset, .unset, .unset, .unset, .unset] [(.ref a_X), (.int (12 : Int32)), (.ref b1), (.ref b1)])) (fun _ k => st26 _ k) ?_
  obtain ⟨T27, h27, X27, e27, V27, W27, st27⟩ := own_aastore X26 hx hZ e26 Va25 (j := (12 : Int32)) (i := 12) rfl (by decide) (Nat.le_of_ble_eq_true rfl) rfl (own_A.sto Va25 Ov1 (Ins.self (E_X.ext O25))) (g := (mkF m 89 #[.val (.int xk), .unset, .unset, .unset, .unset, .unset] [(.ref a_X), (.int (12 : Int32)), (.ref b1), (.ref b1)])) rfl rfl (hb hby at_89)
  have Va27 : own_A Z h27 b1 k1 (.object "com/example/cilu/cilu/model/Role") [(.ref a_A), (.ref a_B), (.ref a_C), (.ref a_D), (.ref a_E), (.ref a_F), (.ref a_G), (.ref a_P), (.ref a_Q), (.ref a_R), (.ref a_K), (.ref a_L), (.ref a_X), .null, .null] := V27
  have Z27 : n0 ≤ h27.size := Nat.le_trans Z25 (Keep.of_wr W27).1
  have O27 : Ext h0 h27 := own_ext_wr O25 W27 hz_b1
  have K27 : Keep h0 h27 [] := K25.wr W27 (Or.inr hz_b1)
  have N27 := Fr.snoc X27 N25 gz_b1
  refine own_go (T' := T27) (g' := (mkF m 90 #[.val (.int xk), .unset, .unset, .unset, .unset, .unset] [(.ref b1)])) (fun _ k => st27 _ k) ?_
  refine own_go (T' := T27) (g' := (mkF m 91 #[.val (.int xk), .unset, .unset, .unset, .unset, .unset] [(.ref b1), (.ref b1)])) (fun _ k => XS.dup X27.here hx rfl (hb hby at_90) rfl rfl k) ?_
  refine own_go (T' := T27) (g' := (mkF m 93 #[.val (.int xk), .unset, .unset, .unset, .unset, .unset] [(.int (13 : Int32)), (.ref b1), (.ref b1)])) (fun _ k => XS.bipush X27.here hx rfl (hb hby at_91) k) ?_
  obtain ⟨T28, X28, e28, st28⟩ := getS X27 hx hZ (host := "") hown (hw _ (List.mem_of_getElem? (i := 30) rfl)) Via.refl e27 (S_Y.ext O27) (g := (mkF m 93 #[.val (.int xk), .unset, .unset, .unset, .unset, .unset] [(.int (13 : Int32)), (.ref b1), (.ref b1)])) rfl (hb hby at_93)
  refine own_go (T' := T28) (g' := (mkF m 96 #[.val (.int xk), .unset, .unset, .unset, .unset, .unset] [(.ref a_Y), (.int (13 : Int32)), (.ref b1), (.ref b1)])) (fun _ k => st28 _ k) ?_
  obtain ⟨T29, h29, X29, e29, V29, W29, st29⟩ := own_aastore X28 hx hZ e28 Va27 (j := (13 : Int32)) (i := 13) rfl (by decide) (Nat.le_of_ble_eq_true rfl) rfl (own_A.sto Va27 Ov1 (Ins.self (E_Y.ext O27))) (g := (mkF m 96 #[.val (.int xk), .unset, .unset, .unset, .unset, .unset] [(.ref a_Y), (.int (13 : Int32)), (.ref b1), (.ref b1)])) rfl rfl (hb hby at_96)
  have Va29 : own_A Z h29 b1 k1 (.object "com/example/cilu/cilu/model/Role") [(.ref a_A), (.ref a_B), (.ref a_C), (.ref a_D), (.ref a_E), (.ref a_F), (.ref a_G), (.ref a_P), (.ref a_Q), (.ref a_R), (.ref a_K), (.ref a_L), (.ref a_X), (.ref a_Y), .null] := V29
  have Z29 : n0 ≤ h29.size := Nat.le_trans Z27 (Keep.of_wr W29).1
  have O29 : Ext h0 h29 := own_ext_wr O27 W29 hz_b1
  have K29 : Keep h0 h29 [] := K27.wr W29 (Or.inr hz_b1)
  have N29 := Fr.snoc X29 N27 gz_b1
  refine own_go (T' := T29) (g' := (mkF m 97 #[.val (.int xk), .unset, .unset, .unset, .unset, .unset] [(.ref b1)])) (fun _ k => st29 _ k) ?_
  refine own_go (T' := T29) (g' := (mkF m 98 #[.val (.int xk), .unset, .unset, .unset, .unset, .unset] [(.ref b1), (.ref b1)])) (fun _ k => XS.dup X29.here hx rfl (hb hby at_97) rfl rfl k) ?_
  refine own_go (T' := T29) (g' := (mkF m 100 #[.val (.int xk), .unset, .unset, .unset, .unset, .unset] [(.int (14 : Int32)), (.ref b1), (.ref b1)])) (fun _ k => XS.bipush X29.here hx rfl (hb hby at_98) k) ?_
  obtain ⟨T30, X30, e30, st30⟩ := getS X29 hx hZ (host := "") hown (hw _ (List.mem_of_getElem? (i := 32) rfl)) Via.refl e29 (S_Z.ext O29) (g := (mkF m 100 #[.val (.int xk), .unset, .unset, .unset, .unset, .unset] [(.int (14 : Int32)), (.ref b1), (.ref b1)])) rfl (hb hby at_100)
  refine own_go (T' := T30) (g' := (mkF m 103 #[.val (.int xk), .unset, .unset, .unset, .unset, .unset] [(.ref a_Z), (.int (14 : Int32)), (.ref b1), (.ref b1)])) (fun _ k => st30 _ k) ?_
  obtain ⟨T31, h31, X31, e31, V31, W31, st31⟩ := own_aastore X30 hx hZ e30 Va29 (j := (14 : Int32)) (i := 14) rfl (by decide) (Nat.le_of_ble_eq_true rfl) rfl (own_A.sto Va29 Ov1 (Ins.self (E_Z.ext O29))) (g := (mkF m 103 #[.val (.int xk), .unset, .unset, .unset, .unset, .unset] [(.ref a_Z), (.int (14 : Int32)), (.ref b1), (.ref b1)])) rfl rfl (hb hby at_103)
  have Va31 : own_A Z h31 b1 k1 (.object "com/example/cilu/cilu/model/Role") [(.ref a_A), (.ref a_B), (.ref a_C), (.ref a_D), (.ref a_E), (.ref a_F), (.ref a_G), (.ref a_P), (.ref a_Q), (.ref a_R), (.ref a_K), (.ref a_L), (.ref a_X), (.ref a_Y), (.ref a_Z)] := V31
  have Z31 : n0 ≤ h31.size := Nat.le_trans Z29 (Keep.of_wr W31).1
  have O31 : Ext h0 h31 := own_ext_wr O29 W31 hz_b1
  have K31 : Keep h0 h31 [] := K29.wr W31 (Or.inr hz_b1)
  have N31 := Fr.snoc X31 N29 gz_b1
  refine own_go (T' := T31) (g' := (mkF m 104 #[.val (.int xk), .unset, .unset, .unset, .unset, .unset] [(.ref b1)])) (fun _ k => st31 _ k) ?_
  refine own_go (T' := T31) (g' := (mkF m 105 #[.val (.int xk), .val (.ref b1), .unset, .unset, .unset, .unset] [])) (fun _ k => XS.astoreN X31.here hx rfl (hb hby at_104) rfl rfl (l' := #[.val (.int xk), .val (.ref b1), .unset, .unset, .unset, .unset]) rfl k) ?_
  refine own_go (T' := T31) (g' := (mkF m 106 #[.val (.int xk), .val (.ref b1), .unset, .unset, .unset, .unset] [(.ref b1)])) (fun _ k => XS.aloadN X31.here hx rfl (hb hby at_105) rfl rfl k) ?_
  refine own_go (T' := T31) (g' := (mkF m 107 #[.val (.int xk), .val (.ref b1), .unset, .unset, .unset, .unset] [(.int xk), (.ref b1)])) (fun _ k => XS.iloadN X31.here hx rfl (hb hby at_106) rfl k) ?_
  refine own_go (T' := T31) (g' := (mkF m 109 #[.val (.int xk), .val (.ref b1), .unset, .unset, .unset, .unset] [(.int (2147483647 : Int32)), (.int xk), (.ref b1)])) (fun _ k => X31.ldcInt hx hown (mvT hZ (hw _ (List.mem_of_getElem? (i := 34) rfl))) (g := (mkF m 107 #[.val (.int xk), .val (.ref b1), .unset, .unset, .unset, .unset] [(.int xk), (.ref b1)])) rfl (hb hby at_107) _ k) ?_
  refine own_go (T' := T31) (g' := (mkF m 110 #[.val (.int xk), .val (.ref b1), .unset, .unset, .unset, .unset] [(.int (xk &&& (2147483647 : Int32))), (.ref b1)])) (fun _ k => XS.iand X31.here hx rfl (hb hby at_109) rfl k) ?_
  refine own_go (T' := T31) (g' := (mkF m 112 #[.val (.int xk), .val (.ref b1), .unset, .unset, .unset, .unset] [(.int (15 : Int32)), (.int (xk &&& (2147483647 : Int32))), (.ref b1)])) (fun _ k => XS.bipush X31.here hx rfl (hb hby at_110) k) ?_
  refine own_go (T' := T31) (g' := (mkF m 113 #[.val (.int xk), .val (.ref b1), .unset, .unset, .unset, .unset] [(.int ((xk &&& (2147483647 : Int32)) % (15 : Int32))), (.ref b1)])) (fun _ k => iremM X31 hx rfl (hb hby at_112) rfl (by decide) k) ?_
  rcases own_mod15 xk with hk | hk | hk | hk | hk | hk | hk | hk | hk | hk | hk | hk | hk | hk | hk
  · rw [hk]
    refine own_go (T' := T31) (g' := (mkF m 114 #[.val (.int xk), .val (.ref b1), .unset, .unset, .unset, .unset] [(.ref a_A)])) (fun _ k => own_aaload X31 hx hZ e31 Va31 (j := (0 : Int32)) (v := (.ref a_A)) (by decide) rfl rfl (g := (mkF m 113 #[.val (.int xk), .val (.ref b1), .unset, .unset, .unset, .unset] [(.int (0 : Int32)), (.ref b1)])) rfl rfl (hb hby at_113) k) ?_
    refine own_go (T' := T31) (g' := (mkF m 115 #[.val (.int xk), .val (.ref b1), .val (.ref a_A), .unset, .unset, .unset] [])) (fun _ k => XS.astoreN X31.here hx rfl (hb hby at_114) rfl rfl (l' := #[.val (.int xk), .val (.ref b1), .val (.ref a_A), .unset, .unset, .unset]) rfl k) ?_
    refine own_go (T' := T31) (g' := (mkF m 116 #[.val (.int xk), .val (.ref b1), .val (.ref a_A), .unset, .unset, .unset] [(.ref a_A)])) (fun _ k => XS.aloadN X31.here hx rfl (hb hby at_115) rfl rfl k) ?_
    obtain ⟨cq32, kq32, q32a, q32b, q32c⟩ := isOf hZ e31 (E_A.ext O31)
    obtain ⟨_, _, ⟨T32, L32, k32, n32⟩, -, X32, ⟨Lc32, hQ32, l32, y32, z32⟩, st32⟩ := X31.virtualBack hx (y := (⟨"com/example/cilu/cilu/model/Role", "isOfName", "()Z"⟩ : MethodName)) (z := (⟨"com/example/cilu/cilu/model/Role", "isOfName", "()Z"⟩ : MethodName)) hown (mvT hZ (hw _ (List.mem_of_getElem? (i := 35) rfl))) (mvT hZ (hw _ (List.mem_of_getElem? (i := 36) rfl))) (notFace_of_selects (args := #[]) (mvT hZ (hw _ (List.mem_of_getElem? (i := 38) rfl)))) (mvT hZ (hw _ (List.mem_of_getElem? (i := 38) rfl))) (mvT hZ (hw _ (List.mem_of_getElem? (i := 37) rfl))) (by decide) (backOf (W := 0) (own_rN l Z a0 hw [] a_A a_A a_K a_L (0 : Int32) h31 n0 Z31 (S_A.ext O31) (S_K.ext O31) (S_L.ext O31) (by simp [own_name, ne_A_K, ne_A_L])) hZ (hw _ (List.mem_of_getElem? (i := 39) rfl)) (hw _ (List.mem_of_getElem? (i := 3) rfl)) (by decide) (by decide)) q32a q32c (g := (mkF m 116 #[.val (.int xk), .val (.ref b1), .val (.ref a_A), .unset, .unset, .unset] [(.ref a_A)])) rfl (by rw [hml]; rfl) (Steps.refl _) (argsL := []) (rest := []) (lenOf own_pd0 rfl) rfl (by show 2 * 0 + _ ≤ _; exact Nat.le_of_eq rfl) (hb hby at_116) (fun _ _ => ⟨rfl, e31, (by decide : 1 + 0 ≤ _), (by decide : 15 + 0 ≤ _)⟩)
    dsimp only [Pt.U, Pt.locs, Pt.cells, Pt.slots] at X32 l32 y32 z32 st32 hQ32
    subst l32 y32 z32
    obtain ⟨rfl, N32q, e32⟩ := hQ32
    have N32 := Fr.app N31 N32q
    refine own_goT (T' := T32) (g' := (mkF m 119 #[.val (.int xk), .val (.ref b1), .val (.ref a_A), .unset, .unset, .unset] [(.int (0 : Int32))])) st32 ?_
    refine own_go (T' := T32) (g' := (mkF m 120 #[.val (.int xk), .val (.ref b1), .val (.ref a_A), .val (.int (0 : Int32)), .unset, .unset] [])) (fun _ k => XS.istoreN X32.here hx rfl (hb hby at_119) rfl (l' := #[.val (.int xk), .val (.ref b1), .val (.ref a_A), .val (.int (0 : Int32)), .unset, .unset]) rfl k) ?_
    refine own_go (T' := T32) (g' := (mkF m 121 #[.val (.int xk), .val (.ref b1), .val (.ref a_A), .val (.int (0 : Int32)), .unset, .unset] [(.ref a_A)])) (fun _ k => XS.aloadN X32.here hx rfl (hb hby at_120) rfl rfl k) ?_
    refine own_go (T' := T32) (g' := (mkF m 123 #[.val (.int xk), .val (.ref b1), .val (.ref a_A), .val (.int (0 : Int32)), .unset, .unset] [(.int (2147483647 : Int32)), (.ref a_A)])) (fun _ k => X32.ldcInt hx hown (mvT hZ (hw _ (List.mem_of_getElem? (i := 34) rfl))) (g := (mkF m 121 #[.val (.int xk), .val (.ref b1), .val (.ref a_A), .val (.int (0 : Int32)), .unset, .unset] [(.ref a_A)])) rfl (hb hby at_121) _ k) ?_
    obtain ⟨cq33, kq33, q33a, q33b, q33c⟩ := isOf hZ e32 (E_A.ext O31)
    obtain ⟨_, _, ⟨T33, L33, k33, n33⟩, -, X33, ⟨Lc33, hQ33, l33, y33, z33⟩, st33⟩ := X32.virtualBack hx (y := (⟨"com/example/cilu/cilu/model/Role", "takes", "(I)Z"⟩ : MethodName)) (z := (⟨"com/example/cilu/cilu/model/Role", "takes", "(I)Z"⟩ : MethodName)) hown (mvT hZ (hw _ (List.mem_of_getElem? (i := 41) rfl))) (mvT hZ (hw _ (List.mem_of_getElem? (i := 42) rfl))) (notFace_of_selects (args := #[]) (mvT hZ (hw _ (List.mem_of_getElem? (i := 44) rfl)))) (mvT hZ (hw _ (List.mem_of_getElem? (i := 44) rfl))) (mvT hZ (hw _ (List.mem_of_getElem? (i := 43) rfl))) (by decide) (backOf (W := 0) (own_rT l Z a0 hw [] a_A (1 : Int32) (2147483647 : Int32) (1 : Int32) h31 n0 Z31 (F_A_shortest.ext O31) (F_A_longest.ext O31) (by decide)) hZ (hw _ (List.mem_of_getElem? (i := 45) rfl)) (hw _ (List.mem_of_getElem? (i := 3) rfl)) (by decide) (by decide)) q33a q33c (g := (mkF m 123 #[.val (.int xk), .val (.ref b1), .val (.ref a_A), .val (.int (0 : Int32)), .unset, .unset] [(.int (2147483647 : Int32)), (.ref a_A)])) rfl (by rw [hml]; rfl) (Steps.refl _) (argsL := [(.int (2147483647 : Int32))]) (rest := []) (lenOf own_pd1 rfl) rfl (by show 2 * 0 + _ ≤ _; exact Nat.le_of_eq rfl) (hb hby at_123) (fun _ _ => ⟨rfl, e32, (by decide : 1 + 0 ≤ _), (by decide : 15 + 0 ≤ _)⟩)
    dsimp only [Pt.U, Pt.locs, Pt.cells, Pt.slots] at X33 l33 y33 z33 st33 hQ33
    subst l33 y33 z33
    obtain ⟨rfl, N33q, e33⟩ := hQ33
    have N33 := Fr.app N32 N33q
    refine own_goT (T' := T33) (g' := (mkF m 126 #[.val (.int xk), .val (.ref b1), .val (.ref a_A), .val (.int (0 : Int32)), .unset, .unset] [(.int (1 : Int32))])) st33 ?_
    refine own_go (T' := T33) (g' := (mkF m 128 #[.val (.int xk), .val (.ref b1), .val (.ref a_A), .val (.int (0 : Int32)), .val (.int (1 : Int32)), .unset] [])) (fun _ k => XS.istore X33.here hx rfl (hb hby at_126) rfl (l' := #[.val (.int xk), .val (.ref b1), .val (.ref a_A), .val (.int (0 : Int32)), .val (.int (1 : Int32)), .unset]) rfl k) ?_
    refine own_go (T' := T33) (g' := (mkF m 129 #[.val (.int xk), .val (.ref b1), .val (.ref a_A), .val (.int (0 : Int32)), .val (.int (1 : Int32)), .unset] [(.ref a_A)])) (fun _ k => XS.aloadN X33.here hx rfl (hb hby at_128) rfl rfl k) ?_
    obtain ⟨cq34, kq34, q34a, q34b, q34c⟩ := isOf hZ e33 (E_A.ext O31)
    obtain ⟨_, _, ⟨T34, L34, k34, n34⟩, -, X34, ⟨Lc34, hQ34, l34, y34, z34⟩, st34⟩ := X33.virtualBack hx (y := (⟨"com/example/cilu/cilu/model/Role", "pool", "()Lcom/example/cilu/cilu/model/Role$Pool;"⟩ : MethodName)) (z := (⟨"com/example/cilu/cilu/model/Role", "pool", "()Lcom/example/cilu/cilu/model/Role$Pool;"⟩ : MethodName)) hown (mvT hZ (hw _ (List.mem_of_getElem? (i := 50) rfl))) (mvT hZ (hw _ (List.mem_of_getElem? (i := 51) rfl))) (notFace_of_selects (args := #[]) (mvT hZ (hw _ (List.mem_of_getElem? (i := 53) rfl)))) (mvT hZ (hw _ (List.mem_of_getElem? (i := 53) rfl))) (mvT hZ (hw _ (List.mem_of_getElem? (i := 52) rfl))) (by decide) (backOf (W := 0) (own_rPN l Z a0 hw [] a_A h31 n0 Z31 (F_A_pool.ext O31)) hZ (hw _ (List.mem_of_getElem? (i := 54) rfl)) (hw _ (List.mem_of_getElem? (i := 3) rfl)) (by decide) (by decide)) q34a q34c (g := (mkF m 129 #[.val (.int xk), .val (.ref b1), .val (.ref a_A), .val (.int (0 : Int32)), .val (.int (1 : Int32)), .unset] [(.ref a_A)])) rfl (by rw [hml]; rfl) (Steps.refl _) (argsL := []) (rest := []) (lenOf own_pd2 rfl) rfl (by show 2 * 0 + _ ≤ _; exact Nat.le_of_eq rfl) (hb hby at_129) (fun _ _ => ⟨rfl, e33, (by decide : 1 + 0 ≤ _), (by decide : 15 + 0 ≤ _)⟩)
    dsimp only [Pt.U, Pt.locs, Pt.cells, Pt.slots] at X34 l34 y34 z34 st34 hQ34
    subst l34 y34 z34
    obtain ⟨rfl, N34q, e34⟩ := hQ34
    have N34 := Fr.app N33 N34q
    refine own_goT (T' := T34) (g' := (mkF m 132 #[.val (.int xk), .val (.ref b1), .val (.ref a_A), .val (.int (0 : Int32)), .val (.int (1 : Int32)), .unset] [.null])) st34 ?_
    refine own_go (T' := T34) (g' := (mkF m 139 #[.val (.int xk), .val (.ref b1), .val (.ref a_A), .val (.int (0 : Int32)), .val (.int (1 : Int32)), .unset] [])) (fun _ k => XS.ifnullYes X34.here hx rfl (pc0 := 132) (pc' := 139) rfl (hb hby at_132) rfl (by decide) (by decide) k) ?_
    refine own_go (T' := T34) (g' := (mkF m 140 #[.val (.int xk), .val (.ref b1), .val (.ref a_A), .val (.int (0 : Int32)), .val (.int (1 : Int32)), .unset] [(.int (0 : Int32))])) (fun _ k => XS.iconst X34.here hx rfl (hb hby at_139) k) ?_
    refine own_go (T' := T34) (g' := (mkF m 142 #[.val (.int xk), .val (.ref b1), .val (.ref a_A), .val (.int (0 : Int32)), .val (.int (1 : Int32)), .val (.int (0 : Int32))] [])) (fun _ k => XS.istore X34.here hx rfl (hb hby at_140) rfl (l' := #[.val (.int xk), .val (.ref b1), .val (.ref a_A), .val (.int (0 : Int32)), .val (.int (1 : Int32)), .val (.int (0 : Int32))]) rfl k) ?_
    refine own_go (T' := T34) (g' := (mkF m 143 #[.val (.int xk), .val (.ref b1), .val (.ref a_A), .val (.int (0 : Int32)), .val (.int (1 : Int32)), .val (.int (0 : Int32))] [(.int (0 : Int32))])) (fun _ k => XS.iloadN X34.here hx rfl (hb hby at_142) rfl k) ?_
    refine own_go (T' := T34) (g' := (mkF m 145 #[.val (.int xk), .val (.ref b1), .val (.ref a_A), .val (.int (0 : Int32)), .val (.int (1 : Int32)), .val (.int (0 : Int32))] [(.int (1 : Int32)), (.int (0 : Int32))])) (fun _ k => XS.iload X34.here hx rfl (hb hby at_143) rfl k) ?_
    refine own_go (T' := T34) (g' := (mkF m 152 #[.val (.int xk), .val (.ref b1), .val (.ref a_A), .val (.int (0 : Int32)), .val (.int (1 : Int32)), .val (.int (0 : Int32))] [(.int (0 : Int32))])) (fun _ k => XS.ifYes X34.here hx rfl (pc0 := 145) (pc' := 152) rfl (hb hby at_145) rfl ((if0 _ _).trans (feq ((by decide) : ¬ ((1 : Int32) = (0 : Int32)))).2) (by decide) (by decide) k) ?_
    refine own_go (T' := T34) (g' := (mkF m 153 #[.val (.int xk), .val (.ref b1), .val (.ref a_A), .val (.int (0 : Int32)), .val (.int (1 : Int32)), .val (.int (0 : Int32))] [(.int (0 : Int32)), (.int (0 : Int32))])) (fun _ k => XS.iconst X34.here hx rfl (hb hby at_152) k) ?_
    refine own_go (T' := T34) (g' := (mkF m 156 #[.val (.int xk), .val (.ref b1), .val (.ref a_A), .val (.int (0 : Int32)), .val (.int (1 : Int32)), .val (.int (0 : Int32))] [])) (fun _ k => XS.icmpNo X34.here hx rfl (hb hby at_153) rfl (teq ((by decide) : (0 : Int32) = (0 : Int32))).2 k) ?_
    refine own_go (T' := T34) (g' := (mkF m 158 #[.val (.int xk), .val (.ref b1), .val (.ref a_A), .val (.int (0 : Int32)), .val (.int (1 : Int32)), .val (.int (0 : Int32))] [(.int (0 : Int32))])) (fun _ k => XS.iload X34.here hx rfl (hb hby at_156) rfl k) ?_
    refine own_go (T' := T34) (g' := (mkF m 165 #[.val (.int xk), .val (.ref b1), .val (.ref a_A), .val (.int (0 : Int32)), .val (.int (1 : Int32)), .val (.int (0 : Int32))] [])) (fun _ k => XS.ifYes X34.here hx rfl (pc0 := 158) (pc' := 165) rfl (hb hby at_158) rfl ((if0 _ _).trans (teq ((by decide) : (0 : Int32) = (0 : Int32))).1) (by decide) (by decide) k) ?_
    refine own_go (T' := T34) (g' := (mkF m 166 #[.val (.int xk), .val (.ref b1), .val (.ref a_A), .val (.int (0 : Int32)), .val (.int (1 : Int32)), .val (.int (0 : Int32))] [(.int (1 : Int32))])) (fun _ k => XS.iconst X34.here hx rfl (hb hby at_165) k) ?_
    refine own_go (T' := T34) (g' := (mkF m 170 #[.val (.int xk), .val (.ref b1), .val (.ref a_A), .val (.int (0 : Int32)), .val (.int (1 : Int32)), .val (.int (0 : Int32))] [(.int (1 : Int32))])) (fun _ k => XS.goto X34.here hx rfl (pc0 := 166) (pc' := 170) rfl (hb hby at_166) (by decide) (by decide) k) ?_
    obtain ⟨fs, hr, hrun, hended, hW, hsame⟩ := X34.leave (v := some (.int (1 : Int32))) (fun h => by rw [Bd.returns] at h; cases h)
    refine own_end (retN X34 hx (t := .boolean) Bd.returns (by simp) (hb hby at_170) hr) hrun hended ⟨_, _, rfl, (?_ : own_QL Z xk a_A a_B a_C a_D a_E a_F a_G a_P a_Q a_R a_K a_L a_X a_Y a_Z a_GIVEN_NAME a_TRANSLITERATED h0 n0 _ T34.heap _), ⟨_, rfl⟩, hW, hsame.mono (by decide) (by decide)⟩
    rw [e34]
    exact ⟨rfl, N34⟩
  · rw [hk]
    refine own_go (T' := T31) (g' := (mkF m 114 #[.val (.int xk), .val (.ref b1), .unset, .unset, .unset, .unset] [(.ref a_B)])) (fun _ k => own_aaload X31 hx hZ e31 Va31 (j := (1 : Int32)) (v := (.ref a_B)) (by decide) rfl rfl (g := (mkF m 113 #[.val (.int xk), .val (.ref b1), .unset, .unset, .unset, .unset] [(.int (1 : Int32)), (.ref b1)])) rfl rfl (hb hby at_113) k) ?_
    refine own_go (T' := T31) (g' := (mkF m 115 #[.val (.int xk), .val (.ref b1), .val (.ref a_B), .unset, .unset, .unset] [])) (fun _ k => XS.astoreN X31.here hx rfl (hb hby at_114) rfl rfl (l' := #[.val (.int xk), .val (.ref b1), .val (.ref a_B), .unset, .unset, .unset]) rfl k) ?_
    refine own_go (T' := T31) (g' := (mkF m 116 #[.val (.int xk), .val (.ref b1), .val (.ref a_B), .unset, .unset, .unset] [(.ref a_B)])) (fun _ k => XS.aloadN X31.here hx rfl (hb hby at_115) rfl rfl k) ?_
    obtain ⟨cq35, kq35, q35a, q35b, q35c⟩ := isOf hZ e31 (E_B.ext O31)
    obtain ⟨_, _, ⟨T35, L35, k35, n35⟩, -, X35, ⟨Lc35, hQ35, l35, y35, z35⟩, st35⟩ := X31.virtualBack hx (y := (⟨"com/example/cilu/cilu/model/Role", "isOfName", "()Z"⟩ : MethodName)) (z := (⟨"com/example/cilu/cilu/model/Role", "isOfName", "()Z"⟩ : MethodName)) hown (mvT hZ (hw _ (List.mem_of_getElem? (i := 35) rfl))) (mvT hZ (hw _ (List.mem_of_getElem? (i := 36) rfl))) (notFace_of_selects (args := #[]) (mvT hZ (hw _ (List.mem_of_getElem? (i := 38) rfl)))) (mvT hZ (hw _ (List.mem_of_getElem? (i := 38) rfl))) (mvT hZ (hw _ (List.mem_of_getElem? (i := 37) rfl))) (by decide) (backOf (W := 0) (own_rN l Z a0 hw [] a_B a_A a_K a_L (1 : Int32) h31 n0 Z31 (S_A.ext O31) (S_K.ext O31) (S_L.ext O31) (by simp [own_name, ne_B_A, ne_B_K, ne_B_L])) hZ (hw _ (List.mem_of_getElem? (i := 39) rfl)) (hw _ (List.mem_of_getElem? (i := 3) rfl)) (by decide) (by decide)) q35a q35c (g := (mkF m 116 #[.val (.int xk), .val (.ref b1), .val (.ref a_B), .unset, .unset, .unset] [(.ref a_B)])) rfl (by rw [hml]; rfl) (Steps.refl _) (argsL := []) (rest := []) (lenOf own_pd0 rfl) rfl (by show 2 * 0 + _ ≤ _; exact Nat.le_of_eq rfl) (hb hby at_116) (fun _ _ => ⟨rfl, e31, (by decide : 1 + 0 ≤ _), (by decide : 15 + 0 ≤ _)⟩)
    dsimp only [Pt.U, Pt.locs, Pt.cells, Pt.slots] at X35 l35 y35 z35 st35 hQ35
    subst l35 y35 z35
    obtain ⟨rfl, N35q, e35⟩ := hQ35
    have N35 := Fr.app N31 N35q
    refine own_goT (T' := T35) (g' := (mkF m 119 #[.val (.int xk), .val (.ref b1), .val (.ref a_B), .unset, .unset, .unset] [(.int (1 : Int32))])) st35 ?_
    refine own_go (T' := T35) (g' := (mkF m 120 #[.val (.int xk), .val (.ref b1), .val (.ref a_B), .val (.int (1 : Int32)), .unset, .unset] [])) (fun _ k => XS.istoreN X35.here hx rfl (hb hby at_119) rfl (l' := #[.val (.int xk), .val (.ref b1), .val (.ref a_B), .val (.int (1 : Int32)), .unset, .unset]) rfl k) ?_
    refine own_go (T' := T35) (g' := (mkF m 121 #[.val (.int xk), .val (.ref b1), .val (.ref a_B), .val (.int (1 : Int32)), .unset, .unset] [(.ref a_B)])) (fun _ k => XS.aloadN X35.here hx rfl (hb hby at_120) rfl rfl k) ?_
    refine own_go (T' := T35) (g' := (mkF m 123 #[.val (.int xk), .val (.ref b1), .val (.ref a_B), .val (.int (1 : Int32)), .unset, .unset] [(.int (2147483647 : Int32)), (.ref a_B)])) (fun _ k => X35.ldcInt hx hown (mvT hZ (hw _ (List.mem_of_getElem? (i := 34) rfl))) (g := (mkF m 121 #[.val (.int xk), .val (.ref b1), .val (.ref a_B), .val (.int (1 : Int32)), .unset, .unset] [(.ref a_B)])) rfl (hb hby at_121) _ k) ?_
    obtain ⟨cq36, kq36, q36a, q36b, q36c⟩ := isOf hZ e35 (E_B.ext O31)
    obtain ⟨_, _, ⟨T36, L36, k36, n36⟩, -, X36, ⟨Lc36, hQ36, l36, y36, z36⟩, st36⟩ := X35.virtualBack hx (y := (⟨"com/example/cilu/cilu/model/Role", "takes", "(I)Z"⟩ : MethodName)) (z := (⟨"com/example/cilu/cilu/model/Role", "takes", "(I)Z"⟩ : MethodName)) hown (mvT hZ (hw _ (List.mem_of_getElem? (i := 41) rfl))) (mvT hZ (hw _ (List.mem_of_getElem? (i := 42) rfl))) (notFace_of_selects (args := #[]) (mvT hZ (hw _ (List.mem_of_getElem? (i := 44) rfl)))) (mvT hZ (hw _ (List.mem_of_getElem? (i := 44) rfl))) (mvT hZ (hw _ (List.mem_of_getElem? (i := 43) rfl))) (by decide) (backOf (W := 0) (own_rT l Z a0 hw [] a_B (1 : Int32) (2 : Int32) (0 : Int32) h31 n0 Z31 (F_B_shortest.ext O31) (F_B_longest.ext O31) (by decide)) hZ (hw _ (List.mem_of_getElem? (i := 45) rfl)) (hw _ (List.mem_of_getElem? (i := 3) rfl)) (by decide) (by decide)) q36a q36c (g := (mkF m 123 #[.val (.int xk), .val (.ref b1), .val (.ref a_B), .val (.int (1 : Int32)), .unset, .unset] [(.int (2147483647 : Int32)), (.ref a_B)])) rfl (by rw [hml]; rfl) (Steps.refl _) (argsL := [(.int (2147483647 : Int32))]) (rest := []) (lenOf own_pd1 rfl) rfl (by show 2 * 0 + _ ≤ _; exact Nat.le_of_eq rfl) (hb hby at_123) (fun _ _ => ⟨rfl, e35, (by decide : 1 + 0 ≤ _), (by decide : 15 + 0 ≤ _)⟩)
    dsimp only [Pt.U, Pt.locs, Pt.cells, Pt.slots] at X36 l36 y36 z36 st36 hQ36
    subst l36 y36 z36
    obtain ⟨rfl, N36q, e36⟩ := hQ36
    have N36 := Fr.app N35 N36q
    refine own_goT (T' := T36) (g' := (mkF m 126 #[.val (.int xk), .val (.ref b1), .val (.ref a_B), .val (.int (1 : Int32)), .unset, .unset] [(.int (0 : Int32))])) st36 ?_
    refine own_go (T' := T36) (g' := (mkF m 128 #[.val (.int xk), .val (.ref b1), .val (.ref a_B), .val (.int (1 : Int32)), .val (.int (0 : Int32)), .unset] [])) (fun _ k => XS.istore X36.here hx rfl (hb hby at_126) rfl (l' := #[.val (.int xk), .val (.ref b1), .val (.ref a_B), .val (.int (1 : Int32)), .val (.int (0 : Int32)), .unset]) rfl k) ?_
    refine own_go (T' := T36) (g' := (mkF m 129 #[.val (.int xk), .val (.ref b1), .val (.ref a_B), .val (.int (1 : Int32)), .val (.int (0 : Int32)), .unset] [(.ref a_B)])) (fun _ k => XS.aloadN X36.here hx rfl (hb hby at_128) rfl rfl k) ?_
    obtain ⟨cq37, kq37, q37a, q37b, q37c⟩ := isOf hZ e36 (E_B.ext O31)
    obtain ⟨_, _, ⟨T37, L37, k37, n37⟩, -, X37, ⟨Lc37, hQ37, l37, y37, z37⟩, st37⟩ := X36.virtualBack hx (y := (⟨"com/example/cilu/cilu/model/Role", "pool", "()Lcom/example/cilu/cilu/model/Role$Pool;"⟩ : MethodName)) (z := (⟨"com/example/cilu/cilu/model/Role", "pool", "()Lcom/example/cilu/cilu/model/Role$Pool;"⟩ : MethodName)) hown (mvT hZ (hw _ (List.mem_of_getElem? (i := 50) rfl))) (mvT hZ (hw _ (List.mem_of_getElem? (i := 51) rfl))) (notFace_of_selects (args := #[]) (mvT hZ (hw _ (List.mem_of_getElem? (i := 53) rfl)))) (mvT hZ (hw _ (List.mem_of_getElem? (i := 53) rfl))) (mvT hZ (hw _ (List.mem_of_getElem? (i := 52) rfl))) (by decide) (backOf (W := 0) (own_rPN l Z a0 hw [] a_B h31 n0 Z31 (F_B_pool.ext O31)) hZ (hw _ (List.mem_of_getElem? (i := 54) rfl)) (hw _ (List.mem_of_getElem? (i := 3) rfl)) (by decide) (by decide)) q37a q37c (g := (mkF m 129 #[.val (.int xk), .val (.ref b1), .val (.ref a_B), .val (.int (1 : Int32)), .val (.int (0 : Int32)), .unset] [(.ref a_B)])) rfl (by rw [hml]; rfl) (Steps.refl _) (argsL := []) (rest := []) (lenOf own_pd2 rfl) rfl (by show 2 * 0 + _ ≤ _; exact Nat.le_of_eq rfl) (hb hby at_129) (fun _ _ => ⟨rfl, e36, (by decide : 1 + 0 ≤ _), (by decide : 15 + 0 ≤ _)⟩)
    dsimp only [Pt.U, Pt.locs, Pt.cells, Pt.slots] at X37 l37 y37 z37 st37 hQ37
    subst l37 y37 z37
    obtain ⟨rfl, N37q, e37⟩ := hQ37
    have N37 := Fr.app N36 N37q
    refine own_goT (T' := T37) (g' := (mkF m 132 #[.val (.int xk), .val (.ref b1), .val (.ref a_B), .val (.int (1 : Int32)), .val (.int (0 : Int32)), .unset] [.null])) st37 ?_
    refine own_go (T' := T37) (g' := (mkF m 139 #[.val (.int xk), .val (.ref b1), .val (.ref a_B), .val (.int (1 : Int32)), .val (.int (0 : Int32)), .unset] [])) (fun _ k => XS.ifnullYes X37.here hx rfl (pc0 := 132) (pc' := 139) rfl (hb hby at_132) rfl (by decide) (by decide) k) ?_
    refine own_go (T' := T37) (g' := (mkF m 140 #[.val (.int xk), .val (.ref b1), .val (.ref a_B), .val (.int (1 : Int32)), .val (.int (0 : Int32)), .unset] [(.int (0 : Int32))])) (fun _ k => XS.iconst X37.here hx rfl (hb hby at_139) k) ?_
    refine own_go (T' := T37) (g' := (mkF m 142 #[.val (.int xk), .val (.ref b1), .val (.ref a_B), .val (.int (1 : Int32)), .val (.int (0 : Int32)), .val (.int (0 : Int32))] [])) (fun _ k => XS.istore X37.here hx rfl (hb hby at_140) rfl (l' := #[.val (.int xk), .val (.ref b1), .val (.ref a_B), .val (.int (1 : Int32)), .val (.int (0 : Int32)), .val (.int (0 : Int32))]) rfl k) ?_
    refine own_go (T' := T37) (g' := (mkF m 143 #[.val (.int xk), .val (.ref b1), .val (.ref a_B), .val (.int (1 : Int32)), .val (.int (0 : Int32)), .val (.int (0 : Int32))] [(.int (1 : Int32))])) (fun _ k => XS.iloadN X37.here hx rfl (hb hby at_142) rfl k) ?_
    refine own_go (T' := T37) (g' := (mkF m 145 #[.val (.int xk), .val (.ref b1), .val (.ref a_B), .val (.int (1 : Int32)), .val (.int (0 : Int32)), .val (.int (0 : Int32))] [(.int (0 : Int32)), (.int (1 : Int32))])) (fun _ k => XS.iload X37.here hx rfl (hb hby at_143) rfl k) ?_
    refine own_go (T' := T37) (g' := (mkF m 148 #[.val (.int xk), .val (.ref b1), .val (.ref a_B), .val (.int (1 : Int32)), .val (.int (0 : Int32)), .val (.int (0 : Int32))] [(.int (1 : Int32))])) (fun _ k => XS.ifNo X37.here hx rfl (hb hby at_145) rfl ((if0 _ _).trans (teq ((by decide) : (0 : Int32) = (0 : Int32))).2) k) ?_
    refine own_go (T' := T37) (g' := (mkF m 149 #[.val (.int xk), .val (.ref b1), .val (.ref a_B), .val (.int (1 : Int32)), .val (.int (0 : Int32)), .val (.int (0 : Int32))] [(.int (1 : Int32)), (.int (1 : Int32))])) (fun _ k => XS.iconst X37.here hx rfl (hb hby at_148) k) ?_
    refine own_go (T' := T37) (g' := (mkF m 153 #[.val (.int xk), .val (.ref b1), .val (.ref a_B), .val (.int (1 : Int32)), .val (.int (0 : Int32)), .val (.int (0 : Int32))] [(.int (1 : Int32)), (.int (1 : Int32))])) (fun _ k => XS.goto X37.here hx rfl (pc0 := 149) (pc' := 153) rfl (hb hby at_149) (by decide) (by decide) k) ?_
    refine own_go (T' := T37) (g' := (mkF m 156 #[.val (.int xk), .val (.ref b1), .val (.ref a_B), .val (.int (1 : Int32)), .val (.int (0 : Int32)), .val (.int (0 : Int32))] [])) (fun _ k => XS.icmpNo X37.here hx rfl (hb hby at_153) rfl (teq ((by decide) : (1 : Int32) = (1 : Int32))).2 k) ?_
    refine own_go (T' := T37) (g' := (mkF m 158 #[.val (.int xk), .val (.ref b1), .val (.ref a_B), .val (.int (1 : Int32)), .val (.int (0 : Int32)), .val (.int (0 : Int32))] [(.int (0 : Int32))])) (fun _ k => XS.iload X37.here hx rfl (hb hby at_156) rfl k) ?_
    refine own_go (T' := T37) (g' := (mkF m 165 #[.val (.int xk), .val (.ref b1), .val (.ref a_B), .val (.int (1 : Int32)), .val (.int (0 : Int32)), .val (.int (0 : Int32))] [])) (fun _ k => XS.ifYes X37.here hx rfl (pc0 := 158) (pc' := 165) rfl (hb hby at_158) rfl ((if0 _ _).trans (teq ((by decide) : (0 : Int32) = (0 : Int32))).1) (by decide) (by decide) k) ?_
    refine own_go (T' := T37) (g' := (mkF m 166 #[.val (.int xk), .val (.ref b1), .val (.ref a_B), .val (.int (1 : Int32)), .val (.int (0 : Int32)), .val (.int (0 : Int32))] [(.int (1 : Int32))])) (fun _ k => XS.iconst X37.here hx rfl (hb hby at_165) k) ?_
    refine own_go (T' := T37) (g' := (mkF m 170 #[.val (.int xk), .val (.ref b1), .val (.ref a_B), .val (.int (1 : Int32)), .val (.int (0 : Int32)), .val (.int (0 : Int32))] [(.int (1 : Int32))])) (fun _ k => XS.goto X37.here hx rfl (pc0 := 166) (pc' := 170) rfl (hb hby at_166) (by decide) (by decide) k) ?_
    obtain ⟨fs, hr, hrun, hended, hW, hsame⟩ := X37.leave (v := some (.int (1 : Int32))) (fun h => by rw [Bd.returns] at h; cases h)
    refine own_end (retN X37 hx (t := .boolean) Bd.returns (by simp) (hb hby at_170) hr) hrun hended ⟨_, _, rfl, (?_ : own_QL Z xk a_A a_B a_C a_D a_E a_F a_G a_P a_Q a_R a_K a_L a_X a_Y a_Z a_GIVEN_NAME a_TRANSLITERATED h0 n0 _ T37.heap _), ⟨_, rfl⟩, hW, hsame.mono (by decide) (by decide)⟩
    rw [e37]
    exact ⟨rfl, N37⟩
  · rw [hk]
    refine own_go (T' := T31) (g' := (mkF m 114 #[.val (.int xk), .val (.ref b1), .unset, .unset, .unset, .unset] [(.ref a_C)])) (fun _ k => own_aaload X31 hx hZ e31 Va31 (j := (2 : Int32)) (v := (.ref a_C)) (by decide) rfl rfl (g := (mkF m 113 #[.val (.int xk), .val (.ref b1), .unset, .unset, .unset, .unset] [(.int (2 : Int32)), (.ref b1)])) rfl rfl (hb hby at_113) k) ?_
    refine own_go (T' := T31) (g' := (mkF m 115 #[.val (.int xk), .val (.ref b1), .val (.ref a_C), .unset, .unset, .unset] [])) (fun _ k => XS.astoreN X31.here hx rfl (hb hby at_114) rfl rfl (l' := #[.val (.int xk), .val (.ref b1), .val (.ref a_C), .unset, .unset, .unset]) rfl k) ?_
    refine own_go (T' := T31) (g' := (mkF m 116 #[.val (.int xk), .val (.ref b1), .val (.ref a_C), .unset, .unset, .unset] [(.ref a_C)])) (fun _ k => XS.aloadN X31.here hx rfl (hb hby at_115) rfl rfl k) ?_
    obtain ⟨cq38, kq38, q38a, q38b, q38c⟩ := isOf hZ e31 (E_C.ext O31)
    obtain ⟨_, _, ⟨T38, L38, k38, n38⟩, -, X38, ⟨Lc38, hQ38, l38, y38, z38⟩, st38⟩ := X31.virtualBack hx (y := (⟨"com/example/cilu/cilu/model/Role", "isOfName", "()Z"⟩ : MethodName)) (z := (⟨"com/example/cilu/cilu/model/Role", "isOfName", "()Z"⟩ : MethodName)) hown (mvT hZ (hw _ (List.mem_of_getElem? (i := 35) rfl))) (mvT hZ (hw _ (List.mem_of_getElem? (i := 36) rfl))) (notFace_of_selects (args := #[]) (mvT hZ (hw _ (List.mem_of_getElem? (i := 38) rfl)))) (mvT hZ (hw _ (List.mem_of_getElem? (i := 38) rfl))) (mvT hZ (hw _ (List.mem_of_getElem? (i := 37) rfl))) (by decide) (backOf (W := 0) (own_rN l Z a0 hw [] a_C a_A a_K a_L (1 : Int32) h31 n0 Z31 (S_A.ext O31) (S_K.ext O31) (S_L.ext O31) (by simp [own_name, ne_C_A, ne_C_K, ne_C_L])) hZ (hw _ (List.mem_of_getElem? (i := 39) rfl)) (hw _ (List.mem_of_getElem? (i := 3) rfl)) (by decide) (by decide)) q38a q38c (g := (mkF m 116 #[.val (.int xk), .val (.ref b1), .val (.ref a_C), .unset, .unset, .unset] [(.ref a_C)])) rfl (by rw [hml]; rfl) (Steps.refl _) (argsL := []) (rest := []) (lenOf own_pd0 rfl) rfl (by show 2 * 0 + _ ≤ _; exact Nat.le_of_eq rfl) (hb hby at_116) (fun _ _ => ⟨rfl, e31, (by decide : 1 + 0 ≤ _), (by decide : 15 + 0 ≤ _)⟩)
    dsimp only [Pt.U, Pt.locs, Pt.cells, Pt.slots] at X38 l38 y38 z38 st38 hQ38
    subst l38 y38 z38
    obtain ⟨rfl, N38q, e38⟩ := hQ38
    have N38 := Fr.app N31 N38q
    refine own_goT (T' := T38) (g' := (mkF m 119 #[.val (.int xk), .val (.ref b1), .val (.ref a_C), .unset, .unset, .unset] [(.int (1 : Int32))])) st38 ?_
    refine own_go (T' := T38) (g' := (mkF m 120 #[.val (.int xk), .val (.ref b1), .val (.ref a_C), .val (.int (1 : Int32)), .unset, .unset] [])) (fun _ k => XS.istoreN X38.here hx rfl (hb hby at_119) rfl (l' := #[.val (.int xk), .val (.ref b1), .val (.ref a_C), .val (.int (1 : Int32)), .unset, .unset]) rfl k) ?_
    refine own_go (T' := T38) (g' := (mkF m 121 #[.val (.int xk), .val (.ref b1), .val (.ref a_C), .val (.int (1 : Int32)), .unset, .unset] [(.ref a_C)])) (fun _ k => XS.aloadN X38.here hx rfl (hb hby at_120) rfl rfl k) ?_
    refine own_go (T' := T38) (g' := (mkF m 123 #[.val (.int xk), .val (.ref b1), .val (.ref a_C), .val (.int (1 : Int32)), .unset, .unset] [(.int (2147483647 : Int32)), (.ref a_C)])) (fun _ k => X38.ldcInt hx hown (mvT hZ (hw _ (List.mem_of_getElem? (i := 34) rfl))) (g := (mkF m 121 #[.val (.int xk), .val (.ref b1), .val (.ref a_C), .val (.int (1 : Int32)), .unset, .unset] [(.ref a_C)])) rfl (hb hby at_121) _ k) ?_
    obtain ⟨cq39, kq39, q39a, q39b, q39c⟩ := isOf hZ e38 (E_C.ext O31)
    obtain ⟨_, _, ⟨T39, L39, k39, n39⟩, -, X39, ⟨Lc39, hQ39, l39, y39, z39⟩, st39⟩ := X38.virtualBack hx (y := (⟨"com/example/cilu/cilu/model/Role", "takes", "(I)Z"⟩ : MethodName)) (z := (⟨"com/example/cilu/cilu/model/Role", "takes", "(I)Z"⟩ : MethodName)) hown (mvT hZ (hw _ (List.mem_of_getElem? (i := 41) rfl))) (mvT hZ (hw _ (List.mem_of_getElem? (i := 42) rfl))) (notFace_of_selects (args := #[]) (mvT hZ (hw _ (List.mem_of_getElem? (i := 44) rfl)))) (mvT hZ (hw _ (List.mem_of_getElem? (i := 44) rfl))) (mvT hZ (hw _ (List.mem_of_getElem? (i := 43) rfl))) (by decide) (backOf (W := 0) (own_rT l Z a0 hw [] a_C (1 : Int32) (1 : Int32) (0 : Int32) h31 n0 Z31 (F_C_shortest.ext O31) (F_C_longest.ext O31) (by decide)) hZ (hw _ (List.mem_of_getElem? (i := 45) rfl)) (hw _ (List.mem_of_getElem? (i := 3) rfl)) (by decide) (by decide)) q39a q39c (g := (mkF m 123 #[.val (.int xk), .val (.ref b1), .val (.ref a_C), .val (.int (1 : Int32)), .unset, .unset] [(.int (2147483647 : Int32)), (.ref a_C)])) rfl (by rw [hml]; rfl) (Steps.refl _) (argsL := [(.int (2147483647 : Int32))]) (rest := []) (lenOf own_pd1 rfl) rfl (by show 2 * 0 + _ ≤ _; exact Nat.le_of_eq rfl) (hb hby at_123) (fun _ _ => ⟨rfl, e38, (by decide : 1 + 0 ≤ _), (by decide : 15 + 0 ≤ _)⟩)
    dsimp only [Pt.U, Pt.locs, Pt.cells, Pt.slots] at X39 l39 y39 z39 st39 hQ39
    subst l39 y39 z39
    obtain ⟨rfl, N39q, e39⟩ := hQ39
    have N39 := Fr.app N38 N39q
    refine own_goT (T' := T39) (g' := (mkF m 126 #[.val (.int xk), .val (.ref b1), .val (.ref a_C), .val (.int (1 : Int32)), .unset, .unset] [(.int (0 : Int32))])) st39 ?_
    refine own_go (T' := T39) (g' := (mkF m 128 #[.val (.int xk), .val (.ref b1), .val (.ref a_C), .val (.int (1 : Int32)), .val (.int (0 : Int32)), .unset] [])) (fun _ k => XS.istore X39.here hx rfl (hb hby at_126) rfl (l' := #[.val (.int xk), .val (.ref b1), .val (.ref a_C), .val (.int (1 : Int32)), .val (.int (0 : Int32)), .unset]) rfl k) ?_
    refine own_go (T' := T39) (g' := (mkF m 129 #[.val (.int xk), .val (.ref b1), .val (.ref a_C), .val (.int (1 : Int32)), .val (.int (0 : Int32)), .unset] [(.ref a_C)])) (fun _ k => XS.aloadN X39.here hx rfl (hb hby at_128) rfl rfl k) ?_
    obtain ⟨cq40, kq40, q40a, q40b, q40c⟩ := isOf hZ e39 (E_C.ext O31)
    obtain ⟨_, _, ⟨T40, L40, k40, n40⟩, -, X40, ⟨Lc40, hQ40, l40, y40, z40⟩, st40⟩ := X39.virtualBack hx (y := (⟨"com/example/cilu/cilu/model/Role", "pool", "()Lcom/example/cilu/cilu/model/Role$Pool;"⟩ : MethodName)) (z := (⟨"com/example/cilu/cilu/model/Role", "pool", "()Lcom/example/cilu/cilu/model/Role$Pool;"⟩ : MethodName)) hown (mvT hZ (hw _ (List.mem_of_getElem? (i := 50) rfl))) (mvT hZ (hw _ (List.mem_of_getElem? (i := 51) rfl))) (notFace_of_selects (args := #[]) (mvT hZ (hw _ (List.mem_of_getElem? (i := 53) rfl)))) (mvT hZ (hw _ (List.mem_of_getElem? (i := 53) rfl))) (mvT hZ (hw _ (List.mem_of_getElem? (i := 52) rfl))) (by decide) (backOf (W := 0) (own_rPR l Z a0 hw [] a_C a_GIVEN_NAME h31 n0 Z31 (F_C_pool.ext O31)) hZ (hw _ (List.mem_of_getElem? (i := 54) rfl)) (hw _ (List.mem_of_getElem? (i := 3) rfl)) (by decide) (by decide)) q40a q40c (g := (mkF m 129 #[.val (.int xk), .val (.ref b1), .val (.ref a_C), .val (.int (1 : Int32)), .val (.int (0 : Int32)), .unset] [(.ref a_C)])) rfl (by rw [hml]; rfl) (Steps.refl _) (argsL := []) (rest := []) (lenOf own_pd2 rfl) rfl (by show 2 * 0 + _ ≤ _; exact Nat.le_of_eq rfl) (hb hby at_129) (fun _ _ => ⟨rfl, e39, (by decide : 1 + 0 ≤ _), (by decide : 15 + 0 ≤ _)⟩)
    dsimp only [Pt.U, Pt.locs, Pt.cells, Pt.slots] at X40 l40 y40 z40 st40 hQ40
    subst l40 y40 z40
    obtain ⟨rfl, N40q, e40⟩ := hQ40
    have N40 := Fr.app N39 N40q
    refine own_goT (T' := T40) (g' := (mkF m 132 #[.val (.int xk), .val (.ref b1), .val (.ref a_C), .val (.int (1 : Int32)), .val (.int (0 : Int32)), .unset] [(.ref a_GIVEN_NAME)])) st40 ?_
    refine own_go (T' := T40) (g' := (mkF m 135 #[.val (.int xk), .val (.ref b1), .val (.ref a_C), .val (.int (1 : Int32)), .val (.int (0 : Int32)), .unset] [])) (fun _ k => XS.ifnullNo X40.here hx rfl (hb hby at_132) rfl k) ?_
    refine own_go (T' := T40) (g' := (mkF m 136 #[.val (.int xk), .val (.ref b1), .val (.ref a_C), .val (.int (1 : Int32)), .val (.int (0 : Int32)), .unset] [(.int (1 : Int32))])) (fun _ k => XS.iconst X40.here hx rfl (hb hby at_135) k) ?_
    refine own_go (T' := T40) (g' := (mkF m 140 #[.val (.int xk), .val (.ref b1), .val (.ref a_C), .val (.int (1 : Int32)), .val (.int (0 : Int32)), .unset] [(.int (1 : Int32))])) (fun _ k => XS.goto X40.here hx rfl (pc0 := 136) (pc' := 140) rfl (hb hby at_136) (by decide) (by decide) k) ?_
    refine own_go (T' := T40) (g' := (mkF m 142 #[.val (.int xk), .val (.ref b1), .val (.ref a_C), .val (.int (1 : Int32)), .val (.int (0 : Int32)), .val (.int (1 : Int32))] [])) (fun _ k => XS.istore X40.here hx rfl (hb hby at_140) rfl (l' := #[.val (.int xk), .val (.ref b1), .val (.ref a_C), .val (.int (1 : Int32)), .val (.int (0 : Int32)), .val (.int (1 : Int32))]) rfl k) ?_
    refine own_go (T' := T40) (g' := (mkF m 143 #[.val (.int xk), .val (.ref b1), .val (.ref a_C), .val (.int (1 : Int32)), .val (.int (0 : Int32)), .val (.int (1 : Int32))] [(.int (1 : Int32))])) (fun _ k => XS.iloadN X40.here hx rfl (hb hby at_142) rfl k) ?_
    refine own_go (T' := T40) (g' := (mkF m 145 #[.val (.int xk), .val (.ref b1), .val (.ref a_C), .val (.int (1 : Int32)), .val (.int (0 : Int32)), .val (.int (1 : Int32))] [(.int (0 : Int32)), (.int (1 : Int32))])) (fun _ k => XS.iload X40.here hx rfl (hb hby at_143) rfl k) ?_
    refine own_go (T' := T40) (g' := (mkF m 148 #[.val (.int xk), .val (.ref b1), .val (.ref a_C), .val (.int (1 : Int32)), .val (.int (0 : Int32)), .val (.int (1 : Int32))] [(.int (1 : Int32))])) (fun _ k => XS.ifNo X40.here hx rfl (hb hby at_145) rfl ((if0 _ _).trans (teq ((by decide) : (0 : Int32) = (0 : Int32))).2) k) ?_
    refine own_go (T' := T40) (g' := (mkF m 149 #[.val (.int xk), .val (.ref b1), .val (.ref a_C), .val (.int (1 : Int32)), .val (.int (0 : Int32)), .val (.int (1 : Int32))] [(.int (1 : Int32)), (.int (1 : Int32))])) (fun _ k => XS.iconst X40.here hx rfl (hb hby at_148) k) ?_
    refine own_go (T' := T40) (g' := (mkF m 153 #[.val (.int xk), .val (.ref b1), .val (.ref a_C), .val (.int (1 : Int32)), .val (.int (0 : Int32)), .val (.int (1 : Int32))] [(.int (1 : Int32)), (.int (1 : Int32))])) (fun _ k => XS.goto X40.here hx rfl (pc0 := 149) (pc' := 153) rfl (hb hby at_149) (by decide) (by decide) k) ?_
    refine own_go (T' := T40) (g' := (mkF m 156 #[.val (.int xk), .val (.ref b1), .val (.ref a_C), .val (.int (1 : Int32)), .val (.int (0 : Int32)), .val (.int (1 : Int32))] [])) (fun _ k => XS.icmpNo X40.here hx rfl (hb hby at_153) rfl (teq ((by decide) : (1 : Int32) = (1 : Int32))).2 k) ?_
    refine own_go (T' := T40) (g' := (mkF m 158 #[.val (.int xk), .val (.ref b1), .val (.ref a_C), .val (.int (1 : Int32)), .val (.int (0 : Int32)), .val (.int (1 : Int32))] [(.int (1 : Int32))])) (fun _ k => XS.iload X40.here hx rfl (hb hby at_156) rfl k) ?_
    refine own_go (T' := T40) (g' := (mkF m 161 #[.val (.int xk), .val (.ref b1), .val (.ref a_C), .val (.int (1 : Int32)), .val (.int (0 : Int32)), .val (.int (1 : Int32))] [])) (fun _ k => XS.ifNo X40.here hx rfl (hb hby at_158) rfl ((if0 _ _).trans (feq ((by decide) : ¬ ((1 : Int32) = (0 : Int32)))).1) k) ?_
    refine own_go (T' := T40) (g' := (mkF m 162 #[.val (.int xk), .val (.ref b1), .val (.ref a_C), .val (.int (1 : Int32)), .val (.int (0 : Int32)), .val (.int (1 : Int32))] [(.int (1 : Int32))])) (fun _ k => XS.iloadN X40.here hx rfl (hb hby at_161) rfl k) ?_
    refine own_go (T' := T40) (g' := (mkF m 165 #[.val (.int xk), .val (.ref b1), .val (.ref a_C), .val (.int (1 : Int32)), .val (.int (0 : Int32)), .val (.int (1 : Int32))] [])) (fun _ k => XS.ifNo X40.here hx rfl (hb hby at_162) rfl ((if0 _ _).trans (feq ((by decide) : ¬ ((1 : Int32) = (0 : Int32)))).1) k) ?_
    refine own_go (T' := T40) (g' := (mkF m 166 #[.val (.int xk), .val (.ref b1), .val (.ref a_C), .val (.int (1 : Int32)), .val (.int (0 : Int32)), .val (.int (1 : Int32))] [(.int (1 : Int32))])) (fun _ k => XS.iconst X40.here hx rfl (hb hby at_165) k) ?_
    refine own_go (T' := T40) (g' := (mkF m 170 #[.val (.int xk), .val (.ref b1), .val (.ref a_C), .val (.int (1 : Int32)), .val (.int (0 : Int32)), .val (.int (1 : Int32))] [(.int (1 : Int32))])) (fun _ k => XS.goto X40.here hx rfl (pc0 := 166) (pc' := 170) rfl (hb hby at_166) (by decide) (by decide) k) ?_
    obtain ⟨fs, hr, hrun, hended, hW, hsame⟩ := X40.leave (v := some (.int (1 : Int32))) (fun h => by rw [Bd.returns] at h; cases h)
    refine own_end (retN X40 hx (t := .boolean) Bd.returns (by simp) (hb hby at_170) hr) hrun hended ⟨_, _, rfl, (?_ : own_QL Z xk a_A a_B a_C a_D a_E a_F a_G a_P a_Q a_R a_K a_L a_X a_Y a_Z a_GIVEN_NAME a_TRANSLITERATED h0 n0 _ T40.heap _), ⟨_, rfl⟩, hW, hsame.mono (by decide) (by decide)⟩
    rw [e40]
    exact ⟨rfl, N40⟩
  · rw [hk]
    refine own_go (T' := T31) (g' := (mkF m 114 #[.val (.int xk), .val (.ref b1), .unset, .unset, .unset, .unset] [(.ref a_D)])) (fun _ k => own_aaload X31 hx hZ e31 Va31 (j := (3 : Int32)) (v := (.ref a_D)) (by decide) rfl rfl (g := (mkF m 113 #[.val (.int xk), .val (.ref b1), .unset, .unset, .unset, .unset] [(.int (3 : Int32)), (.ref b1)])) rfl rfl (hb hby at_113) k) ?_
    refine own_go (T' := T31) (g' := (mkF m 115 #[.val (.int xk), .val (.ref b1), .val (.ref a_D), .unset, .unset, .unset] [])) (fun _ k => XS.astoreN X31.here hx rfl (hb hby at_114) rfl rfl (l' := #[.val (.int xk), .val (.ref b1), .val (.ref a_D), .unset, .unset, .unset]) rfl k) ?_
    refine own_go (T' := T31) (g' := (mkF m 116 #[.val (.int xk), .val (.ref b1), .val (.ref a_D), .unset, .unset, .unset] [(.ref a_D)])) (fun _ k => XS.aloadN X31.here hx rfl (hb hby at_115) rfl rfl k) ?_
    obtain ⟨cq41, kq41, q41a, q41b, q41c⟩ := isOf hZ e31 (E_D.ext O31)
    obtain ⟨_, _, ⟨T41, L41, k41, n41⟩, -, X41, ⟨Lc41, hQ41, l41, y41, z41⟩, st41⟩ := X31.virtualBack hx (y := (⟨"com/example/cilu/cilu/model/Role", "isOfName", "()Z"⟩ : MethodName)) (z := (⟨"com/example/cilu/cilu/model/Role", "isOfName", "()Z"⟩ : MethodName)) hown (mvT hZ (hw _ (List.mem_of_getElem? (i := 35) rfl))) (mvT hZ (hw _ (List.mem_of_getElem? (i := 36) rfl))) (notFace_of_selects (args := #[]) (mvT hZ (hw _ (List.mem_of_getElem? (i := 38) rfl)))) (mvT hZ (hw _ (List.mem_of_getElem? (i := 38) rfl))) (mvT hZ (hw _ (List.mem_of_getElem? (i := 37) rfl))) (by decide) (backOf (W := 0) (own_rN l Z a0 hw [] a_D a_A a_K a_L (1 : Int32) h31 n0 Z31 (S_A.ext O31) (S_K.ext O31) (S_L.ext O31) (by simp [own_name, ne_D_A, ne_D_K, ne_D_L])) hZ (hw _ (List.mem_of_getElem? (i := 39) rfl)) (hw _ (List.mem_of_getElem? (i := 3) rfl)) (by decide) (by decide)) q41a q41c (g := (mkF m 116 #[.val (.int xk), .val (.ref b1), .val (.ref a_D), .unset, .unset, .unset] [(.ref a_D)])) rfl (by rw [hml]; rfl) (Steps.refl _) (argsL := []) (rest := []) (lenOf own_pd0 rfl) rfl (by show 2 * 0 + _ ≤ _; exact Nat.le_of_eq rfl) (hb hby at_116) (fun _ _ => ⟨rfl, e31, (by decide : 1 + 0 ≤ _), (by decide : 15 + 0 ≤ _)⟩)
    dsimp only [Pt.U, Pt.locs, Pt.cells, Pt.slots] at X41 l41 y41 z41 st41 hQ41
    subst l41 y41 z41
    obtain ⟨rfl, N41q, e41⟩ := hQ41
    have N41 := Fr.app N31 N41q
    refine own_goT (T' := T41) (g' := (mkF m 119 #[.val (.int xk), .val (.ref b1), .val (.ref a_D), .unset, .unset, .unset] [(.int (1 : Int32))])) st41 ?_
    refine own_go (T' := T41) (g' := (mkF m 120 #[.val (.int xk), .val (.ref b1), .val (.ref a_D), .val (.int (1 : Int32)), .unset, .unset] [])) (fun _ k => XS.istoreN X41.here hx rfl (hb hby at_119) rfl (l' := #[.val (.int xk), .val (.ref b1), .val (.ref a_D), .val (.int (1 : Int32)), .unset, .unset]) rfl k) ?_
    refine own_go (T' := T41) (g' := (mkF m 121 #[.val (.int xk), .val (.ref b1), .val (.ref a_D), .val (.int (1 : Int32)), .unset, .unset] [(.ref a_D)])) (fun _ k => XS.aloadN X41.here hx rfl (hb hby at_120) rfl rfl k) ?_
    refine own_go (T' := T41) (g' := (mkF m 123 #[.val (.int xk), .val (.ref b1), .val (.ref a_D), .val (.int (1 : Int32)), .unset, .unset] [(.int (2147483647 : Int32)), (.ref a_D)])) (fun _ k => X41.ldcInt hx hown (mvT hZ (hw _ (List.mem_of_getElem? (i := 34) rfl))) (g := (mkF m 121 #[.val (.int xk), .val (.ref b1), .val (.ref a_D), .val (.int (1 : Int32)), .unset, .unset] [(.ref a_D)])) rfl (hb hby at_121) _ k) ?_
    obtain ⟨cq42, kq42, q42a, q42b, q42c⟩ := isOf hZ e41 (E_D.ext O31)
    obtain ⟨_, _, ⟨T42, L42, k42, n42⟩, -, X42, ⟨Lc42, hQ42, l42, y42, z42⟩, st42⟩ := X41.virtualBack hx (y := (⟨"com/example/cilu/cilu/model/Role", "takes", "(I)Z"⟩ : MethodName)) (z := (⟨"com/example/cilu/cilu/model/Role", "takes", "(I)Z"⟩ : MethodName)) hown (mvT hZ (hw _ (List.mem_of_getElem? (i := 41) rfl))) (mvT hZ (hw _ (List.mem_of_getElem? (i := 42) rfl))) (notFace_of_selects (args := #[]) (mvT hZ (hw _ (List.mem_of_getElem? (i := 44) rfl)))) (mvT hZ (hw _ (List.mem_of_getElem? (i := 44) rfl))) (mvT hZ (hw _ (List.mem_of_getElem? (i := 43) rfl))) (by decide) (backOf (W := 0) (own_rT l Z a0 hw [] a_D (1 : Int32) (1 : Int32) (0 : Int32) h31 n0 Z31 (F_D_shortest.ext O31) (F_D_longest.ext O31) (by decide)) hZ (hw _ (List.mem_of_getElem? (i := 45) rfl)) (hw _ (List.mem_of_getElem? (i := 3) rfl)) (by decide) (by decide)) q42a q42c (g := (mkF m 123 #[.val (.int xk), .val (.ref b1), .val (.ref a_D), .val (.int (1 : Int32)), .unset, .unset] [(.int (2147483647 : Int32)), (.ref a_D)])) rfl (by rw [hml]; rfl) (Steps.refl _) (argsL := [(.int (2147483647 : Int32))]) (rest := []) (lenOf own_pd1 rfl) rfl (by show 2 * 0 + _ ≤ _; exact Nat.le_of_eq rfl) (hb hby at_123) (fun _ _ => ⟨rfl, e41, (by decide : 1 + 0 ≤ _), (by decide : 15 + 0 ≤ _)⟩)
    dsimp only [Pt.U, Pt.locs, Pt.cells, Pt.slots] at X42 l42 y42 z42 st42 hQ42
    subst l42 y42 z42
    obtain ⟨rfl, N42q, e42⟩ := hQ42
    have N42 := Fr.app N41 N42q
    refine own_goT (T' := T42) (g' := (mkF m 126 #[.val (.int xk), .val (.ref b1), .val (.ref a_D), .val (.int (1 : Int32)), .unset, .unset] [(.int (0 : Int32))])) st42 ?_
    refine own_go (T' := T42) (g' := (mkF m 128 #[.val (.int xk), .val (.ref b1), .val (.ref a_D), .val (.int (1 : Int32)), .val (.int (0 : Int32)), .unset] [])) (fun _ k => XS.istore X42.here hx rfl (hb hby at_126) rfl (l' := #[.val (.int xk), .val (.ref b1), .val (.ref a_D), .val (.int (1 : Int32)), .val (.int (0 : Int32)), .unset]) rfl k) ?_
    refine own_go (T' := T42) (g' := (mkF m 129 #[.val (.int xk), .val (.ref b1), .val (.ref a_D), .val (.int (1 : Int32)), .val (.int (0 : Int32)), .unset] [(.ref a_D)])) (fun _ k => XS.aloadN X42.here hx rfl (hb hby at_128) rfl rfl k) ?_
    obtain ⟨cq43, kq43, q43a, q43b, q43c⟩ := isOf hZ e42 (E_D.ext O31)
    obtain ⟨_, _, ⟨T43, L43, k43, n43⟩, -, X43, ⟨Lc43, hQ43, l43, y43, z43⟩, st43⟩ := X42.virtualBack hx (y := (⟨"com/example/cilu/cilu/model/Role", "pool", "()Lcom/example/cilu/cilu/model/Role$Pool;"⟩ : MethodName)) (z := (⟨"com/example/cilu/cilu/model/Role", "pool", "()Lcom/example/cilu/cilu/model/Role$Pool;"⟩ : MethodName)) hown (mvT hZ (hw _ (List.mem_of_getElem? (i := 50) rfl))) (mvT hZ (hw _ (List.mem_of_getElem? (i := 51) rfl))) (notFace_of_selects (args := #[]) (mvT hZ (hw _ (List.mem_of_getElem? (i := 53) rfl)))) (mvT hZ (hw _ (List.mem_of_getElem? (i := 53) rfl))) (mvT hZ (hw _ (List.mem_of_getElem? (i := 52) rfl))) (by decide) (backOf (W := 0) (own_rPR l Z a0 hw [] a_D a_GIVEN_NAME h31 n0 Z31 (F_D_pool.ext O31)) hZ (hw _ (List.mem_of_getElem? (i := 54) rfl)) (hw _ (List.mem_of_getElem? (i := 3) rfl)) (by decide) (by decide)) q43a q43c (g := (mkF m 129 #[.val (.int xk), .val (.ref b1), .val (.ref a_D), .val (.int (1 : Int32)), .val (.int (0 : Int32)), .unset] [(.ref a_D)])) rfl (by rw [hml]; rfl) (Steps.refl _) (argsL := []) (rest := []) (lenOf own_pd2 rfl) rfl (by show 2 * 0 + _ ≤ _; exact Nat.le_of_eq rfl) (hb hby at_129) (fun _ _ => ⟨rfl, e42, (by decide : 1 + 0 ≤ _), (by decide : 15 + 0 ≤ _)⟩)
    dsimp only [Pt.U, Pt.locs, Pt.cells, Pt.slots] at X43 l43 y43 z43 st43 hQ43
    subst l43 y43 z43
    obtain ⟨rfl, N43q, e43⟩ := hQ43
    have N43 := Fr.app N42 N43q
    refine own_goT (T' := T43) (g' := (mkF m 132 #[.val (.int xk), .val (.ref b1), .val (.ref a_D), .val (.int (1 : Int32)), .val (.int (0 : Int32)), .unset] [(.ref a_GIVEN_NAME)])) st43 ?_
    refine own_go (T' := T43) (g' := (mkF m 135 #[.val (.int xk), .val (.ref b1), .val (.ref a_D), .val (.int (1 : Int32)), .val (.int (0 : Int32)), .unset] [])) (fun _ k => XS.ifnullNo X43.here hx rfl (hb hby at_132) rfl k) ?_
    refine own_go (T' := T43) (g' := (mkF m 136 #[.val (.int xk), .val (.ref b1), .val (.ref a_D), .val (.int (1 : Int32)), .val (.int (0 : Int32)), .unset] [(.int (1 : Int32))])) (fun _ k => XS.iconst X43.here hx rfl (hb hby at_135) k) ?_
    refine own_go (T' := T43) (g' := (mkF m 140 #[.val (.int xk), .val (.ref b1), .val (.ref a_D), .val (.int (1 : Int32)), .val (.int (0 : Int32)), .unset] [(.int (1 : Int32))])) (fun _ k => XS.goto X43.here hx rfl (pc0 := 136) (pc' := 140) rfl (hb hby at_136) (by decide) (by decide) k) ?_
    refine own_go (T' := T43) (g' := (mkF m 142 #[.val (.int xk), .val (.ref b1), .val (.ref a_D), .val (.int (1 : Int32)), .val (.int (0 : Int32)), .val (.int (1 : Int32))] [])) (fun _ k => XS.istore X43.here hx rfl (hb hby at_140) rfl (l' := #[.val (.int xk), .val (.ref b1), .val (.ref a_D), .val (.int (1 : Int32)), .val (.int (0 : Int32)), .val (.int (1 : Int32))]) rfl k) ?_
    refine own_go (T' := T43) (g' := (mkF m 143 #[.val (.int xk), .val (.ref b1), .val (.ref a_D), .val (.int (1 : Int32)), .val (.int (0 : Int32)), .val (.int (1 : Int32))] [(.int (1 : Int32))])) (fun _ k => XS.iloadN X43.here hx rfl (hb hby at_142) rfl k) ?_
    refine own_go (T' := T43) (g' := (mkF m 145 #[.val (.int xk), .val (.ref b1), .val (.ref a_D), .val (.int (1 : Int32)), .val (.int (0 : Int32)), .val (.int (1 : Int32))] [(.int (0 : Int32)), (.int (1 : Int32))])) (fun _ k => XS.iload X43.here hx rfl (hb hby at_143) rfl k) ?_
    refine own_go (T' := T43) (g' := (mkF m 148 #[.val (.int xk), .val (.ref b1), .val (.ref a_D), .val (.int (1 : Int32)), .val (.int (0 : Int32)), .val (.int (1 : Int32))] [(.int (1 : Int32))])) (fun _ k => XS.ifNo X43.here hx rfl (hb hby at_145) rfl ((if0 _ _).trans (teq ((by decide) : (0 : Int32) = (0 : Int32))).2) k) ?_
    refine own_go (T' := T43) (g' := (mkF m 149 #[.val (.int xk), .val (.ref b1), .val (.ref a_D), .val (.int (1 : Int32)), .val (.int (0 : Int32)), .val (.int (1 : Int32))] [(.int (1 : Int32)), (.int (1 : Int32))])) (fun _ k => XS.iconst X43.here hx rfl (hb hby at_148) k) ?_
    refine own_go (T' := T43) (g' := (mkF m 153 #[.val (.int xk), .val (.ref b1), .val (.ref a_D), .val (.int (1 : Int32)), .val (.int (0 : Int32)), .val (.int (1 : Int32))] [(.int (1 : Int32)), (.int (1 : Int32))])) (fun _ k => XS.goto X43.here hx rfl (pc0 := 149) (pc' := 153) rfl (hb hby at_149) (by decide) (by decide) k) ?_
    refine own_go (T' := T43) (g' := (mkF m 156 #[.val (.int xk), .val (.ref b1), .val (.ref a_D), .val (.int (1 : Int32)), .val (.int (0 : Int32)), .val (.int (1 : Int32))] [])) (fun _ k => XS.icmpNo X43.here hx rfl (hb hby at_153) rfl (teq ((by decide) : (1 : Int32) = (1 : Int32))).2 k) ?_
    refine own_go (T' := T43) (g' := (mkF m 158 #[.val (.int xk), .val (.ref b1), .val (.ref a_D), .val (.int (1 : Int32)), .val (.int (0 : Int32)), .val (.int (1 : Int32))] [(.int (1 : Int32))])) (fun _ k => XS.iload X43.here hx rfl (hb hby at_156) rfl k) ?_
    refine own_go (T' := T43) (g' := (mkF m 161 #[.val (.int xk), .val (.ref b1), .val (.ref a_D), .val (.int (1 : Int32)), .val (.int (0 : Int32)), .val (.int (1 : Int32))] [])) (fun _ k => XS.ifNo X43.here hx rfl (hb hby at_158) rfl ((if0 _ _).trans (feq ((by decide) : ¬ ((1 : Int32) = (0 : Int32)))).1) k) ?_
    refine own_go (T' := T43) (g' := (mkF m 162 #[.val (.int xk), .val (.ref b1), .val (.ref a_D), .val (.int (1 : Int32)), .val (.int (0 : Int32)), .val (.int (1 : Int32))] [(.int (1 : Int32))])) (fun _ k => XS.iloadN X43.here hx rfl (hb hby at_161) rfl k) ?_
    refine own_go (T' := T43) (g' := (mkF m 165 #[.val (.int xk), .val (.ref b1), .val (.ref a_D), .val (.int (1 : Int32)), .val (.int (0 : Int32)), .val (.int (1 : Int32))] [])) (fun _ k => XS.ifNo X43.here hx rfl (hb hby at_162) rfl ((if0 _ _).trans (feq ((by decide) : ¬ ((1 : Int32) = (0 : Int32)))).1) k) ?_
    refine own_go (T' := T43) (g' := (mkF m 166 #[.val (.int xk), .val (.ref b1), .val (.ref a_D), .val (.int (1 : Int32)), .val (.int (0 : Int32)), .val (.int (1 : Int32))] [(.int (1 : Int32))])) (fun _ k => XS.iconst X43.here hx rfl (hb hby at_165) k) ?_
    refine own_go (T' := T43) (g' := (mkF m 170 #[.val (.int xk), .val (.ref b1), .val (.ref a_D), .val (.int (1 : Int32)), .val (.int (0 : Int32)), .val (.int (1 : Int32))] [(.int (1 : Int32))])) (fun _ k => XS.goto X43.here hx rfl (pc0 := 166) (pc' := 170) rfl (hb hby at_166) (by decide) (by decide) k) ?_
    obtain ⟨fs, hr, hrun, hended, hW, hsame⟩ := X43.leave (v := some (.int (1 : Int32))) (fun h => by rw [Bd.returns] at h; cases h)
    refine own_end (retN X43 hx (t := .boolean) Bd.returns (by simp) (hb hby at_170) hr) hrun hended ⟨_, _, rfl, (?_ : own_QL Z xk a_A a_B a_C a_D a_E a_F a_G a_P a_Q a_R a_K a_L a_X a_Y a_Z a_GIVEN_NAME a_TRANSLITERATED h0 n0 _ T43.heap _), ⟨_, rfl⟩, hW, hsame.mono (by decide) (by decide)⟩
    rw [e43]
    exact ⟨rfl, N43⟩
  · rw [hk]
    refine own_go (T' := T31) (g' := (mkF m 114 #[.val (.int xk), .val (.ref b1), .unset, .unset, .unset, .unset] [(.ref a_E)])) (fun _ k => own_aaload X31 hx hZ e31 Va31 (j := (4 : Int32)) (v := (.ref a_E)) (by decide) rfl rfl (g := (mkF m 113 #[.val (.int xk), .val (.ref b1), .unset, .unset, .unset, .unset] [(.int (4 : Int32)), (.ref b1)])) rfl rfl (hb hby at_113) k) ?_
    refine own_go (T' := T31) (g' := (mkF m 115 #[.val (.int xk), .val (.ref b1), .val (.ref a_E), .unset, .unset, .unset] [])) (fun _ k => XS.astoreN X31.here hx rfl (hb hby at_114) rfl rfl (l' := #[.val (.int xk), .val (.ref b1), .val (.ref a_E), .unset, .unset, .unset]) rfl k) ?_
    refine own_go (T' := T31) (g' := (mkF m 116 #[.val (.int xk), .val (.ref b1), .val (.ref a_E), .unset, .unset, .unset] [(.ref a_E)])) (fun _ k => XS.aloadN X31.here hx rfl (hb hby at_115) rfl rfl k) ?_
    obtain ⟨cq44, kq44, q44a, q44b, q44c⟩ := isOf hZ e31 (E_E.ext O31)
    obtain ⟨_, _, ⟨T44, L44, k44, n44⟩, -, X44, ⟨Lc44, hQ44, l44, y44, z44⟩, st44⟩ := X31.virtualBack hx (y := (⟨"com/example/cilu/cilu/model/Role", "isOfName", "()Z"⟩ : MethodName)) (z := (⟨"com/example/cilu/cilu/model/Role", "isOfName", "()Z"⟩ : MethodName)) hown (mvT hZ (hw _ (List.mem_of_getElem? (i := 35) rfl))) (mvT hZ (hw _ (List.mem_of_getElem? (i := 36) rfl))) (notFace_of_selects (args := #[]) (mvT hZ (hw _ (List.mem_of_getElem? (i := 38) rfl)))) (mvT hZ (hw _ (List.mem_of_getElem? (i := 38) rfl))) (mvT hZ (hw _ (List.mem_of_getElem? (i := 37) rfl))) (by decide) (backOf (W := 0) (own_rN l Z a0 hw [] a_E a_A a_K a_L (1 : Int32) h31 n0 Z31 (S_A.ext O31) (S_K.ext O31) (S_L.ext O31) (by simp [own_name, ne_E_A, ne_E_K, ne_E_L])) hZ (hw _ (List.mem_of_getElem? (i := 39) rfl)) (hw _ (List.mem_of_getElem? (i := 3) rfl)) (by decide) (by decide)) q44a q44c (g := (mkF m 116 #[.val (.int xk), .val (.ref b1), .val (.ref a_E), .unset, .unset, .unset] [(.ref a_E)])) rfl (by rw [hml]; rfl) (Steps.refl _) (argsL := []) (rest := []) (lenOf own_pd0 rfl) rfl (by show 2 * 0 + _ ≤ _; exact Nat.le_of_eq rfl) (hb hby at_116) (fun _ _ => ⟨rfl, e31, (by decide : 1 + 0 ≤ _), (by decide : 15 + 0 ≤ _)⟩)
    dsimp only [Pt.U, Pt.locs, Pt.cells, Pt.slots] at X44 l44 y44 z44 st44 hQ44
    subst l44 y44 z44
    obtain ⟨rfl, N44q, e44⟩ := hQ44
    have N44 := Fr.app N31 N44q
    refine own_goT (T' := T44) (g' := (mkF m 119 #[.val (.int xk), .val (.ref b1), .val (.ref a_E), .unset, .unset, .unset] [(.int (1 : Int32))])) st44 ?_
    refine own_go (T' := T44) (g' := (mkF m 120 #[.val (.int xk), .val (.ref b1), .val (.ref a_E), .val (.int (1 : Int32)), .unset, .unset] [])) (fun _ k => XS.istoreN X44.here hx rfl (hb hby at_119) rfl (l' := #[.val (.int xk), .val (.ref b1), .val (.ref a_E), .val (.int (1 : Int32)), .unset, .unset]) rfl k) ?_
    refine own_go (T' := T44) (g' := (mkF m 121 #[.val (.int xk), .val (.ref b1), .val (.ref a_E), .val (.int (1 : Int32)), .unset, .unset] [(.ref a_E)])) (fun _ k => XS.aloadN X44.here hx rfl (hb hby at_120) rfl rfl k) ?_
    refine own_go (T' := T44) (g' := (mkF m 123 #[.val (.int xk), .val (.ref b1), .val (.ref a_E), .val (.int (1 : Int32)), .unset, .unset] [(.int (2147483647 : Int32)), (.ref a_E)])) (fun _ k => X44.ldcInt hx hown (mvT hZ (hw _ (List.mem_of_getElem? (i := 34) rfl))) (g := (mkF m 121 #[.val (.int xk), .val (.ref b1), .val (.ref a_E), .val (.int (1 : Int32)), .unset, .unset] [(.ref a_E)])) rfl (hb hby at_121) _ k) ?_
    obtain ⟨cq45, kq45, q45a, q45b, q45c⟩ := isOf hZ e44 (E_E.ext O31)
    obtain ⟨_, _, ⟨T45, L45, k45, n45⟩, -, X45, ⟨Lc45, hQ45, l45, y45, z45⟩, st45⟩ := X44.virtualBack hx (y := (⟨"com/example/cilu/cilu/model/Role", "takes", "(I)Z"⟩ : MethodName)) (z := (⟨"com/example/cilu/cilu/model/Role", "takes", "(I)Z"⟩ : MethodName)) hown (mvT hZ (hw _ (List.mem_of_getElem? (i := 41) rfl))) (mvT hZ (hw _ (List.mem_of_getElem? (i := 42) rfl))) (notFace_of_selects (args := #[]) (mvT hZ (hw _ (List.mem_of_getElem? (i := 44) rfl)))) (mvT hZ (hw _ (List.mem_of_getElem? (i := 44) rfl))) (mvT hZ (hw _ (List.mem_of_getElem? (i := 43) rfl))) (by decide) (backOf (W := 0) (own_rT l Z a0 hw [] a_E (1 : Int32) (1 : Int32) (0 : Int32) h31 n0 Z31 (F_E_shortest.ext O31) (F_E_longest.ext O31) (by decide)) hZ (hw _ (List.mem_of_getElem? (i := 45) rfl)) (hw _ (List.mem_of_getElem? (i := 3) rfl)) (by decide) (by decide)) q45a q45c (g := (mkF m 123 #[.val (.int xk), .val (.ref b1), .val (.ref a_E), .val (.int (1 : Int32)), .unset, .unset] [(.int (2147483647 : Int32)), (.ref a_E)])) rfl (by rw [hml]; rfl) (Steps.refl _) (argsL := [(.int (2147483647 : Int32))]) (rest := []) (lenOf own_pd1 rfl) rfl (by show 2 * 0 + _ ≤ _; exact Nat.le_of_eq rfl) (hb hby at_123) (fun _ _ => ⟨rfl, e44, (by decide : 1 + 0 ≤ _), (by decide : 15 + 0 ≤ _)⟩)
    dsimp only [Pt.U, Pt.locs, Pt.cells, Pt.slots] at X45 l45 y45 z45 st45 hQ45
    subst l45 y45 z45
    obtain ⟨rfl, N45q, e45⟩ := hQ45
    have N45 := Fr.app N44 N45q
    refine own_goT (T' := T45) (g' := (mkF m 126 #[.val (.int xk), .val (.ref b1), .val (.ref a_E), .val (.int (1 : Int32)), .unset, .unset] [(.int (0 : Int32))])) st45 ?_
    refine own_go (T' := T45) (g' := (mkF m 128 #[.val (.int xk), .val (.ref b1), .val (.ref a_E), .val (.int (1 : Int32)), .val (.int (0 : Int32)), .unset] [])) (fun _ k => XS.istore X45.here hx rfl (hb hby at_126) rfl (l' := #[.val (.int xk), .val (.ref b1), .val (.ref a_E), .val (.int (1 : Int32)), .val (.int (0 : Int32)), .unset]) rfl k) ?_
    refine own_go (T' := T45) (g' := (mkF m 129 #[.val (.int xk), .val (.ref b1), .val (.ref a_E), .val (.int (1 : Int32)), .val (.int (0 : Int32)), .unset] [(.ref a_E)])) (fun _ k => XS.aloadN X45.here hx rfl (hb hby at_128) rfl rfl k) ?_
    obtain ⟨cq46, kq46, q46a, q46b, q46c⟩ := isOf hZ e45 (E_E.ext O31)
    obtain ⟨_, _, ⟨T46, L46, k46, n46⟩, -, X46, ⟨Lc46, hQ46, l46, y46, z46⟩, st46⟩ := X45.virtualBack hx (y := (⟨"com/example/cilu/cilu/model/Role", "pool", "()Lcom/example/cilu/cilu/model/Role$Pool;"⟩ : MethodName)) (z := (⟨"com/example/cilu/cilu/model/Role", "pool", "()Lcom/example/cilu/cilu/model/Role$Pool;"⟩ : MethodName)) hown (mvT hZ (hw _ (List.mem_of_getElem? (i := 50) rfl))) (mvT hZ (hw _ (List.mem_of_getElem? (i := 51) rfl))) (notFace_of_selects (args := #[]) (mvT hZ (hw _ (List.mem_of_getElem? (i := 53) rfl)))) (mvT hZ (hw _ (List.mem_of_getElem? (i := 53) rfl))) (mvT hZ (hw _ (List.mem_of_getElem? (i := 52) rfl))) (by decide) (backOf (W := 0) (own_rPR l Z a0 hw [] a_E a_GIVEN_NAME h31 n0 Z31 (F_E_pool.ext O31)) hZ (hw _ (List.mem_of_getElem? (i := 54) rfl)) (hw _ (List.mem_of_getElem? (i := 3) rfl)) (by decide) (by decide)) q46a q46c (g := (mkF m 129 #[.val (.int xk), .val (.ref b1), .val (.ref a_E), .val (.int (1 : Int32)), .val (.int (0 : Int32)), .unset] [(.ref a_E)])) rfl (by rw [hml]; rfl) (Steps.refl _) (argsL := []) (rest := []) (lenOf own_pd2 rfl) rfl (by show 2 * 0 + _ ≤ _; exact Nat.le_of_eq rfl) (hb hby at_129) (fun _ _ => ⟨rfl, e45, (by decide : 1 + 0 ≤ _), (by decide : 15 + 0 ≤ _)⟩)
    dsimp only [Pt.U, Pt.locs, Pt.cells, Pt.slots] at X46 l46 y46 z46 st46 hQ46
    subst l46 y46 z46
    obtain ⟨rfl, N46q, e46⟩ := hQ46
    have N46 := Fr.app N45 N46q
    refine own_goT (T' := T46) (g' := (mkF m 132 #[.val (.int xk), .val (.ref b1), .val (.ref a_E), .val (.int (1 : Int32)), .val (.int (0 : Int32)), .unset] [(.ref a_GIVEN_NAME)])) st46 ?_
    refine own_go (T' := T46) (g' := (mkF m 135 #[.val (.int xk), .val (.ref b1), .val (.ref a_E), .val (.int (1 : Int32)), .val (.int (0 : Int32)), .unset] [])) (fun _ k => XS.ifnullNo X46.here hx rfl (hb hby at_132) rfl k) ?_
    refine own_go (T' := T46) (g' := (mkF m 136 #[.val (.int xk), .val (.ref b1), .val (.ref a_E), .val (.int (1 : Int32)), .val (.int (0 : Int32)), .unset] [(.int (1 : Int32))])) (fun _ k => XS.iconst X46.here hx rfl (hb hby at_135) k) ?_
    refine own_go (T' := T46) (g' := (mkF m 140 #[.val (.int xk), .val (.ref b1), .val (.ref a_E), .val (.int (1 : Int32)), .val (.int (0 : Int32)), .unset] [(.int (1 : Int32))])) (fun _ k => XS.goto X46.here hx rfl (pc0 := 136) (pc' := 140) rfl (hb hby at_136) (by decide) (by decide) k) ?_
    refine own_go (T' := T46) (g' := (mkF m 142 #[.val (.int xk), .val (.ref b1), .val (.ref a_E), .val (.int (1 : Int32)), .val (.int (0 : Int32)), .val (.int (1 : Int32))] [])) (fun _ k => XS.istore X46.here hx rfl (hb hby at_140) rfl (l' := #[.val (.int xk), .val (.ref b1), .val (.ref a_E), .val (.int (1 : Int32)), .val (.int (0 : Int32)), .val (.int (1 : Int32))]) rfl k) ?_
    refine own_go (T' := T46) (g' := (mkF m 143 #[.val (.int xk), .val (.ref b1), .val (.ref a_E), .val (.int (1 : Int32)), .val (.int (0 : Int32)), .val (.int (1 : Int32))] [(.int (1 : Int32))])) (fun _ k => XS.iloadN X46.here hx rfl (hb hby at_142) rfl k) ?_
    refine own_go (T' := T46) (g' := (mkF m 145 #[.val (.int xk), .val (.ref b1), .val (.ref a_E), .val (.int (1 : Int32)), .val (.int (0 : Int32)), .val (.int (1 : Int32))] [(.int (0 : Int32)), (.int (1 : Int32))])) (fun _ k => XS.iload X46.here hx rfl (hb hby at_143) rfl k) ?_
    refine own_go (T' := T46) (g' := (mkF m 148 #[.val (.int xk), .val (.ref b1), .val (.ref a_E), .val (.int (1 : Int32)), .val (.int (0 : Int32)), .val (.int (1 : Int32))] [(.int (1 : Int32))])) (fun _ k => XS.ifNo X46.here hx rfl (hb hby at_145) rfl ((if0 _ _).trans (teq ((by decide) : (0 : Int32) = (0 : Int32))).2) k) ?_
    refine own_go (T' := T46) (g' := (mkF m 149 #[.val (.int xk), .val (.ref b1), .val (.ref a_E), .val (.int (1 : Int32)), .val (.int (0 : Int32)), .val (.int (1 : Int32))] [(.int (1 : Int32)), (.int (1 : Int32))])) (fun _ k => XS.iconst X46.here hx rfl (hb hby at_148) k) ?_
    refine own_go (T' := T46) (g' := (mkF m 153 #[.val (.int xk), .val (.ref b1), .val (.ref a_E), .val (.int (1 : Int32)), .val (.int (0 : Int32)), .val (.int (1 : Int32))] [(.int (1 : Int32)), (.int (1 : Int32))])) (fun _ k => XS.goto X46.here hx rfl (pc0 := 149) (pc' := 153) rfl (hb hby at_149) (by decide) (by decide) k) ?_
    refine own_go (T' := T46) (g' := (mkF m 156 #[.val (.int xk), .val (.ref b1), .val (.ref a_E), .val (.int (1 : Int32)), .val (.int (0 : Int32)), .val (.int (1 : Int32))] [])) (fun _ k => XS.icmpNo X46.here hx rfl (hb hby at_153) rfl (teq ((by decide) : (1 : Int32) = (1 : Int32))).2 k) ?_
    refine own_go (T' := T46) (g' := (mkF m 158 #[.val (.int xk), .val (.ref b1), .val (.ref a_E), .val (.int (1 : Int32)), .val (.int (0 : Int32)), .val (.int (1 : Int32))] [(.int (1 : Int32))])) (fun _ k => XS.iload X46.here hx rfl (hb hby at_156) rfl k) ?_
    refine own_go (T' := T46) (g' := (mkF m 161 #[.val (.int xk), .val (.ref b1), .val (.ref a_E), .val (.int (1 : Int32)), .val (.int (0 : Int32)), .val (.int (1 : Int32))] [])) (fun _ k => XS.ifNo X46.here hx rfl (hb hby at_158) rfl ((if0 _ _).trans (feq ((by decide) : ¬ ((1 : Int32) = (0 : Int32)))).1) k) ?_
    refine own_go (T' := T46) (g' := (mkF m 162 #[.val (.int xk), .val (.ref b1), .val (.ref a_E), .val (.int (1 : Int32)), .val (.int (0 : Int32)), .val (.int (1 : Int32))] [(.int (1 : Int32))])) (fun _ k => XS.iloadN X46.here hx rfl (hb hby at_161) rfl k) ?_
    refine own_go (T' := T46) (g' := (mkF m 165 #[.val (.int xk), .val (.ref b1), .val (.ref a_E), .val (.int (1 : Int32)), .val (.int (0 : Int32)), .val (.int (1 : Int32))] [])) (fun _ k => XS.ifNo X46.here hx rfl (hb hby at_162) rfl ((if0 _ _).trans (feq ((by decide) : ¬ ((1 : Int32) = (0 : Int32)))).1) k) ?_
    refine own_go (T' := T46) (g' := (mkF m 166 #[.val (.int xk), .val (.ref b1), .val (.ref a_E), .val (.int (1 : Int32)), .val (.int (0 : Int32)), .val (.int (1 : Int32))] [(.int (1 : Int32))])) (fun _ k => XS.iconst X46.here hx rfl (hb hby at_165) k) ?_
    refine own_go (T' := T46) (g' := (mkF m 170 #[.val (.int xk), .val (.ref b1), .val (.ref a_E), .val (.int (1 : Int32)), .val (.int (0 : Int32)), .val (.int (1 : Int32))] [(.int (1 : Int32))])) (fun _ k => XS.goto X46.here hx rfl (pc0 := 166) (pc' := 170) rfl (hb hby at_166) (by decide) (by decide) k) ?_
    obtain ⟨fs, hr, hrun, hended, hW, hsame⟩ := X46.leave (v := some (.int (1 : Int32))) (fun h => by rw [Bd.returns] at h; cases h)
    refine own_end (retN X46 hx (t := .boolean) Bd.returns (by simp) (hb hby at_170) hr) hrun hended ⟨_, _, rfl, (?_ : own_QL Z xk a_A a_B a_C a_D a_E a_F a_G a_P a_Q a_R a_K a_L a_X a_Y a_Z a_GIVEN_NAME a_TRANSLITERATED h0 n0 _ T46.heap _), ⟨_, rfl⟩, hW, hsame.mono (by decide) (by decide)⟩
    rw [e46]
    exact ⟨rfl, N46⟩
  · rw [hk]
    refine own_go (T' := T31) (g' := (mkF m 114 #[.val (.int xk), .val (.ref b1), .unset, .unset, .unset, .unset] [(.ref a_F)])) (fun _ k => own_aaload X31 hx hZ e31 Va31 (j := (5 : Int32)) (v := (.ref a_F)) (by decide) rfl rfl (g := (mkF m 113 #[.val (.int xk), .val (.ref b1), .unset, .unset, .unset, .unset] [(.int (5 : Int32)), (.ref b1)])) rfl rfl (hb hby at_113) k) ?_
    refine own_go (T' := T31) (g' := (mkF m 115 #[.val (.int xk), .val (.ref b1), .val (.ref a_F), .unset, .unset, .unset] [])) (fun _ k => XS.astoreN X31.here hx rfl (hb hby at_114) rfl rfl (l' := #[.val (.int xk), .val (.ref b1), .val (.ref a_F), .unset, .unset, .unset]) rfl k) ?_
    refine own_go (T' := T31) (g' := (mkF m 116 #[.val (.int xk), .val (.ref b1), .val (.ref a_F), .unset, .unset, .unset] [(.ref a_F)])) (fun _ k => XS.aloadN X31.here hx rfl (hb hby at_115) rfl rfl k) ?_
    obtain ⟨cq47, kq47, q47a, q47b, q47c⟩ := isOf hZ e31 (E_F.ext O31)
    obtain ⟨_, _, ⟨T47, L47, k47, n47⟩, -, X47, ⟨Lc47, hQ47, l47, y47, z47⟩, st47⟩ := X31.virtualBack hx (y := (⟨"com/example/cilu/cilu/model/Role", "isOfName", "()Z"⟩ : MethodName)) (z := (⟨"com/example/cilu/cilu/model/Role", "isOfName", "()Z"⟩ : MethodName)) hown (mvT hZ (hw _ (List.mem_of_getElem? (i := 35) rfl))) (mvT hZ (hw _ (List.mem_of_getElem? (i := 36) rfl))) (notFace_of_selects (args := #[]) (mvT hZ (hw _ (List.mem_of_getElem? (i := 38) rfl)))) (mvT hZ (hw _ (List.mem_of_getElem? (i := 38) rfl))) (mvT hZ (hw _ (List.mem_of_getElem? (i := 37) rfl))) (by decide) (backOf (W := 0) (own_rN l Z a0 hw [] a_F a_A a_K a_L (1 : Int32) h31 n0 Z31 (S_A.ext O31) (S_K.ext O31) (S_L.ext O31) (by simp [own_name, ne_F_A, ne_F_K, ne_F_L])) hZ (hw _ (List.mem_of_getElem? (i := 39) rfl)) (hw _ (List.mem_of_getElem? (i := 3) rfl)) (by decide) (by decide)) q47a q47c (g := (mkF m 116 #[.val (.int xk), .val (.ref b1), .val (.ref a_F), .unset, .unset, .unset] [(.ref a_F)])) rfl (by rw [hml]; rfl) (Steps.refl _) (argsL := []) (rest := []) (lenOf own_pd0 rfl) rfl (by show 2 * 0 + _ ≤ _; exact Nat.le_of_eq rfl) (hb hby at_116) (fun _ _ => ⟨rfl, e31, (by decide : 1 + 0 ≤ _), (by decide : 15 + 0 ≤ _)⟩)
    dsimp only [Pt.U, Pt.locs, Pt.cells, Pt.slots] at X47 l47 y47 z47 st47 hQ47
    subst l47 y47 z47
    obtain ⟨rfl, N47q, e47⟩ := hQ47
    have N47 := Fr.app N31 N47q
    refine own_goT (T' := T47) (g' := (mkF m 119 #[.val (.int xk), .val (.ref b1), .val (.ref a_F), .unset, .unset, .unset] [(.int (1 : Int32))])) st47 ?_
    refine own_go (T' := T47) (g' := (mkF m 120 #[.val (.int xk), .val (.ref b1), .val (.ref a_F), .val (.int (1 : Int32)), .unset, .unset] [])) (fun _ k => XS.istoreN X47.here hx rfl (hb hby at_119) rfl (l' := #[.val (.int xk), .val (.ref b1), .val (.ref a_F), .val (.int (1 : Int32)), .unset, .unset]) rfl k) ?_
    refine own_go (T' := T47) (g' := (mkF m 121 #[.val (.int xk), .val (.ref b1), .val (.ref a_F), .val (.int (1 : Int32)), .unset, .unset] [(.ref a_F)])) (fun _ k => XS.aloadN X47.here hx rfl (hb hby at_120) rfl rfl k) ?_
    refine own_go (T' := T47) (g' := (mkF m 123 #[.val (.int xk), .val (.ref b1), .val (.ref a_F), .val (.int (1 : Int32)), .unset, .unset] [(.int (2147483647 : Int32)), (.ref a_F)])) (fun _ k => X47.ldcInt hx hown (mvT hZ (hw _ (List.mem_of_getElem? (i := 34) rfl))) (g := (mkF m 121 #[.val (.int xk), .val (.ref b1), .val (.ref a_F), .val (.int (1 : Int32)), .unset, .unset] [(.ref a_F)])) rfl (hb hby at_121) _ k) ?_
    obtain ⟨cq48, kq48, q48a, q48b, q48c⟩ := isOf hZ e47 (E_F.ext O31)
    obtain ⟨_, _, ⟨T48, L48, k48, n48⟩, -, X48, ⟨Lc48, hQ48, l48, y48, z48⟩, st48⟩ := X47.virtualBack hx (y := (⟨"com/example/cilu/cilu/model/Role", "takes", "(I)Z"⟩ : MethodName)) (z := (⟨"com/example/cilu/cilu/model/Role", "takes", "(I)Z"⟩ : MethodName)) hown (mvT hZ (hw _ (List.mem_of_getElem? (i := 41) rfl))) (mvT hZ (hw _ (List.mem_of_getElem? (i := 42) rfl))) (notFace_of_selects (args := #[]) (mvT hZ (hw _ (List.mem_of_getElem? (i := 44) rfl)))) (mvT hZ (hw _ (List.mem_of_getElem? (i := 44) rfl))) (mvT hZ (hw _ (List.mem_of_getElem? (i := 43) rfl))) (by decide) (backOf (W := 0) (own_rT l Z a0 hw [] a_F (1 : Int32) (1 : Int32) (0 : Int32) h31 n0 Z31 (F_F_shortest.ext O31) (F_F_longest.ext O31) (by decide)) hZ (hw _ (List.mem_of_getElem? (i := 45) rfl)) (hw _ (List.mem_of_getElem? (i := 3) rfl)) (by decide) (by decide)) q48a q48c (g := (mkF m 123 #[.val (.int xk), .val (.ref b1), .val (.ref a_F), .val (.int (1 : Int32)), .unset, .unset] [(.int (2147483647 : Int32)), (.ref a_F)])) rfl (by rw [hml]; rfl) (Steps.refl _) (argsL := [(.int (2147483647 : Int32))]) (rest := []) (lenOf own_pd1 rfl) rfl (by show 2 * 0 + _ ≤ _; exact Nat.le_of_eq rfl) (hb hby at_123) (fun _ _ => ⟨rfl, e47, (by decide : 1 + 0 ≤ _), (by decide : 15 + 0 ≤ _)⟩)
    dsimp only [Pt.U, Pt.locs, Pt.cells, Pt.slots] at X48 l48 y48 z48 st48 hQ48
    subst l48 y48 z48
    obtain ⟨rfl, N48q, e48⟩ := hQ48
    have N48 := Fr.app N47 N48q
    refine own_goT (T' := T48) (g' := (mkF m 126 #[.val (.int xk), .val (.ref b1), .val (.ref a_F), .val (.int (1 : Int32)), .unset, .unset] [(.int (0 : Int32))])) st48 ?_
    refine own_go (T' := T48) (g' := (mkF m 128 #[.val (.int xk), .val (.ref b1), .val (.ref a_F), .val (.int (1 : Int32)), .val (.int (0 : Int32)), .unset] [])) (fun _ k => XS.istore X48.here hx rfl (hb hby at_126) rfl (l' := #[.val (.int xk), .val (.ref b1), .val (.ref a_F), .val (.int (1 : Int32)), .val (.int (0 : Int32)), .unset]) rfl k) ?_
    refine own_go (T' := T48) (g' := (mkF m 129 #[.val (.int xk), .val (.ref b1), .val (.ref a_F), .val (.int (1 : Int32)), .val (.int (0 : Int32)), .unset] [(.ref a_F)])) (fun _ k => XS.aloadN X48.here hx rfl (hb hby at_128) rfl rfl k) ?_
    obtain ⟨cq49, kq49, q49a, q49b, q49c⟩ := isOf hZ e48 (E_F.ext O31)
    obtain ⟨_, _, ⟨T49, L49, k49, n49⟩, -, X49, ⟨Lc49, hQ49, l49, y49, z49⟩, st49⟩ := X48.virtualBack hx (y := (⟨"com/example/cilu/cilu/model/Role", "pool", "()Lcom/example/cilu/cilu/model/Role$Pool;"⟩ : MethodName)) (z := (⟨"com/example/cilu/cilu/model/Role", "pool", "()Lcom/example/cilu/cilu/model/Role$Pool;"⟩ : MethodName)) hown (mvT hZ (hw _ (List.mem_of_getElem? (i := 50) rfl))) (mvT hZ (hw _ (List.mem_of_getElem? (i := 51) rfl))) (notFace_of_selects (args := #[]) (mvT hZ (hw _ (List.mem_of_getElem? (i := 53) rfl)))) (mvT hZ (hw _ (List.mem_of_getElem? (i := 53) rfl))) (mvT hZ (hw _ (List.mem_of_getElem? (i := 52) rfl))) (by decide) (backOf (W := 0) (own_rPN l Z a0 hw [] a_F h31 n0 Z31 (F_F_pool.ext O31)) hZ (hw _ (List.mem_of_getElem? (i := 54) rfl)) (hw _ (List.mem_of_getElem? (i := 3) rfl)) (by decide) (by decide)) q49a q49c (g := (mkF m 129 #[.val (.int xk), .val (.ref b1), .val (.ref a_F), .val (.int (1 : Int32)), .val (.int (0 : Int32)), .unset] [(.ref a_F)])) rfl (by rw [hml]; rfl) (Steps.refl _) (argsL := []) (rest := []) (lenOf own_pd2 rfl) rfl (by show 2 * 0 + _ ≤ _; exact Nat.le_of_eq rfl) (hb hby at_129) (fun _ _ => ⟨rfl, e48, (by decide : 1 + 0 ≤ _), (by decide : 15 + 0 ≤ _)⟩)
    dsimp only [Pt.U, Pt.locs, Pt.cells, Pt.slots] at X49 l49 y49 z49 st49 hQ49
    subst l49 y49 z49
    obtain ⟨rfl, N49q, e49⟩ := hQ49
    have N49 := Fr.app N48 N49q
    refine own_goT (T' := T49) (g' := (mkF m 132 #[.val (.int xk), .val (.ref b1), .val (.ref a_F), .val (.int (1 : Int32)), .val (.int (0 : Int32)), .unset] [.null])) st49 ?_
    refine own_go (T' := T49) (g' := (mkF m 139 #[.val (.int xk), .val (.ref b1), .val (.ref a_F), .val (.int (1 : Int32)), .val (.int (0 : Int32)), .unset] [])) (fun _ k => XS.ifnullYes X49.here hx rfl (pc0 := 132) (pc' := 139) rfl (hb hby at_132) rfl (by decide) (by decide) k) ?_
    refine own_go (T' := T49) (g' := (mkF m 140 #[.val (.int xk), .val (.ref b1), .val (.ref a_F), .val (.int (1 : Int32)), .val (.int (0 : Int32)), .unset] [(.int (0 : Int32))])) (fun _ k => XS.iconst X49.here hx rfl (hb hby at_139) k) ?_
    refine own_go (T' := T49) (g' := (mkF m 142 #[.val (.int xk), .val (.ref b1), .val (.ref a_F), .val (.int (1 : Int32)), .val (.int (0 : Int32)), .val (.int (0 : Int32))] [])) (fun _ k => XS.istore X49.here hx rfl (hb hby at_140) rfl (l' := #[.val (.int xk), .val (.ref b1), .val (.ref a_F), .val (.int (1 : Int32)), .val (.int (0 : Int32)), .val (.int (0 : Int32))]) rfl k) ?_
    refine own_go (T' := T49) (g' := (mkF m 143 #[.val (.int xk), .val (.ref b1), .val (.ref a_F), .val (.int (1 : Int32)), .val (.int (0 : Int32)), .val (.int (0 : Int32))] [(.int (1 : Int32))])) (fun _ k => XS.iloadN X49.here hx rfl (hb hby at_142) rfl k) ?_
    refine own_go (T' := T49) (g' := (mkF m 145 #[.val (.int xk), .val (.ref b1), .val (.ref a_F), .val (.int (1 : Int32)), .val (.int (0 : Int32)), .val (.int (0 : Int32))] [(.int (0 : Int32)), (.int (1 : Int32))])) (fun _ k => XS.iload X49.here hx rfl (hb hby at_143) rfl k) ?_
    refine own_go (T' := T49) (g' := (mkF m 148 #[.val (.int xk), .val (.ref b1), .val (.ref a_F), .val (.int (1 : Int32)), .val (.int (0 : Int32)), .val (.int (0 : Int32))] [(.int (1 : Int32))])) (fun _ k => XS.ifNo X49.here hx rfl (hb hby at_145) rfl ((if0 _ _).trans (teq ((by decide) : (0 : Int32) = (0 : Int32))).2) k) ?_
    refine own_go (T' := T49) (g' := (mkF m 149 #[.val (.int xk), .val (.ref b1), .val (.ref a_F), .val (.int (1 : Int32)), .val (.int (0 : Int32)), .val (.int (0 : Int32))] [(.int (1 : Int32)), (.int (1 : Int32))])) (fun _ k => XS.iconst X49.here hx rfl (hb hby at_148) k) ?_
    refine own_go (T' := T49) (g' := (mkF m 153 #[.val (.int xk), .val (.ref b1), .val (.ref a_F), .val (.int (1 : Int32)), .val (.int (0 : Int32)), .val (.int (0 : Int32))] [(.int (1 : Int32)), (.int (1 : Int32))])) (fun _ k => XS.goto X49.here hx rfl (pc0 := 149) (pc' := 153) rfl (hb hby at_149) (by decide) (by decide) k) ?_
    refine own_go (T' := T49) (g' := (mkF m 156 #[.val (.int xk), .val (.ref b1), .val (.ref a_F), .val (.int (1 : Int32)), .val (.int (0 : Int32)), .val (.int (0 : Int32))] [])) (fun _ k => XS.icmpNo X49.here hx rfl (hb hby at_153) rfl (teq ((by decide) : (1 : Int32) = (1 : Int32))).2 k) ?_
    refine own_go (T' := T49) (g' := (mkF m 158 #[.val (.int xk), .val (.ref b1), .val (.ref a_F), .val (.int (1 : Int32)), .val (.int (0 : Int32)), .val (.int (0 : Int32))] [(.int (0 : Int32))])) (fun _ k => XS.iload X49.here hx rfl (hb hby at_156) rfl k) ?_
    refine own_go (T' := T49) (g' := (mkF m 165 #[.val (.int xk), .val (.ref b1), .val (.ref a_F), .val (.int (1 : Int32)), .val (.int (0 : Int32)), .val (.int (0 : Int32))] [])) (fun _ k => XS.ifYes X49.here hx rfl (pc0 := 158) (pc' := 165) rfl (hb hby at_158) rfl ((if0 _ _).trans (teq ((by decide) : (0 : Int32) = (0 : Int32))).1) (by decide) (by decide) k) ?_
    refine own_go (T' := T49) (g' := (mkF m 166 #[.val (.int xk), .val (.ref b1), .val (.ref a_F), .val (.int (1 : Int32)), .val (.int (0 : Int32)), .val (.int (0 : Int32))] [(.int (1 : Int32))])) (fun _ k => XS.iconst X49.here hx rfl (hb hby at_165) k) ?_
    refine own_go (T' := T49) (g' := (mkF m 170 #[.val (.int xk), .val (.ref b1), .val (.ref a_F), .val (.int (1 : Int32)), .val (.int (0 : Int32)), .val (.int (0 : Int32))] [(.int (1 : Int32))])) (fun _ k => XS.goto X49.here hx rfl (pc0 := 166) (pc' := 170) rfl (hb hby at_166) (by decide) (by decide) k) ?_
    obtain ⟨fs, hr, hrun, hended, hW, hsame⟩ := X49.leave (v := some (.int (1 : Int32))) (fun h => by rw [Bd.returns] at h; cases h)
    refine own_end (retN X49 hx (t := .boolean) Bd.returns (by simp) (hb hby at_170) hr) hrun hended ⟨_, _, rfl, (?_ : own_QL Z xk a_A a_B a_C a_D a_E a_F a_G a_P a_Q a_R a_K a_L a_X a_Y a_Z a_GIVEN_NAME a_TRANSLITERATED h0 n0 _ T49.heap _), ⟨_, rfl⟩, hW, hsame.mono (by decide) (by decide)⟩
    rw [e49]
    exact ⟨rfl, N49⟩
  · rw [hk]
    refine own_go (T' := T31) (g' := (mkF m 114 #[.val (.int xk), .val (.ref b1), .unset, .unset, .unset, .unset] [(.ref a_G)])) (fun _ k => own_aaload X31 hx hZ e31 Va31 (j := (6 : Int32)) (v := (.ref a_G)) (by decide) rfl rfl (g := (mkF m 113 #[.val (.int xk), .val (.ref b1), .unset, .unset, .unset, .unset] [(.int (6 : Int32)), (.ref b1)])) rfl rfl (hb hby at_113) k) ?_
    refine own_go (T' := T31) (g' := (mkF m 115 #[.val (.int xk), .val (.ref b1), .val (.ref a_G), .unset, .unset, .unset] [])) (fun _ k => XS.astoreN X31.here hx rfl (hb hby at_114) rfl rfl (l' := #[.val (.int xk), .val (.ref b1), .val (.ref a_G), .unset, .unset, .unset]) rfl k) ?_
    refine own_go (T' := T31) (g' := (mkF m 116 #[.val (.int xk), .val (.ref b1), .val (.ref a_G), .unset, .unset, .unset] [(.ref a_G)])) (fun _ k => XS.aloadN X31.here hx rfl (hb hby at_115) rfl rfl k) ?_
    obtain ⟨cq50, kq50, q50a, q50b, q50c⟩ := isOf hZ e31 (E_G.ext O31)
    obtain ⟨_, _, ⟨T50, L50, k50, n50⟩, -, X50, ⟨Lc50, hQ50, l50, y50, z50⟩, st50⟩ := X31.virtualBack hx (y := (⟨"com/example/cilu/cilu/model/Role", "isOfName", "()Z"⟩ : MethodName)) (z := (⟨"com/example/cilu/cilu/model/Role", "isOfName", "()Z"⟩ : MethodName)) hown (mvT hZ (hw _ (List.mem_of_getElem? (i := 35) rfl))) (mvT hZ (hw _ (List.mem_of_getElem? (i := 36) rfl))) (notFace_of_selects (args := #[]) (mvT hZ (hw _ (List.mem_of_getElem? (i := 38) rfl)))) (mvT hZ (hw _ (List.mem_of_getElem? (i := 38) rfl))) (mvT hZ (hw _ (List.mem_of_getElem? (i := 37) rfl))) (by decide) (backOf (W := 0) (own_rN l Z a0 hw [] a_G a_A a_K a_L (1 : Int32) h31 n0 Z31 (S_A.ext O31) (S_K.ext O31) (S_L.ext O31) (by simp [own_name, ne_G_A, ne_G_K, ne_G_L])) hZ (hw _ (List.mem_of_getElem? (i := 39) rfl)) (hw _ (List.mem_of_getElem? (i := 3) rfl)) (by decide) (by decide)) q50a q50c (g := (mkF m 116 #[.val (.int xk), .val (.ref b1), .val (.ref a_G), .unset, .unset, .unset] [(.ref a_G)])) rfl (by rw [hml]; rfl) (Steps.refl _) (argsL := []) (rest := []) (lenOf own_pd0 rfl) rfl (by show 2 * 0 + _ ≤ _; exact Nat.le_of_eq rfl) (hb hby at_116) (fun _ _ => ⟨rfl, e31, (by decide : 1 + 0 ≤ _), (by decide : 15 + 0 ≤ _)⟩)
    dsimp only [Pt.U, Pt.locs, Pt.cells, Pt.slots] at X50 l50 y50 z50 st50 hQ50
    subst l50 y50 z50
    obtain ⟨rfl, N50q, e50⟩ := hQ50
    have N50 := Fr.app N31 N50q
    refine own_goT (T' := T50) (g' := (mkF m 119 #[.val (.int xk), .val (.ref b1), .val (.ref a_G), .unset, .unset, .unset] [(.int (1 : Int32))])) st50 ?_
    refine own_go (T' := T50) (g' := (mkF m 120 #[.val (.int xk), .val (.ref b1), .val (.ref a_G), .val (.int (1 : Int32)), .unset, .unset] [])) (fun _ k => XS.istoreN X50.here hx rfl (hb hby at_119) rfl (l' := #[.val (.int xk), .val (.ref b1), .val (.ref a_G), .val (.int (1 : Int32)), .unset, .unset]) rfl k) ?_
    refine own_go (T' := T50) (g' := (mkF m 121 #[.val (.int xk), .val (.ref b1), .val (.ref a_G), .val (.int (1 : Int32)), .unset, .unset] [(.ref a_G)])) (fun _ k => XS.aloadN X50.here hx rfl (hb hby at_120) rfl rfl k) ?_
    refine own_go (T' := T50) (g' := (mkF m 123 #[.val (.int xk), .val (.ref b1), .val (.ref a_G), .val (.int (1 : Int32)), .unset, .unset] [(.int (2147483647 : Int32)), (.ref a_G)])) (fun _ k => X50.ldcInt hx hown (mvT hZ (hw _ (List.mem_of_getElem? (i := 34) rfl))) (g := (mkF m 121 #[.val (.int xk), .val (.ref b1), .val (.ref a_G), .val (.int (1 : Int32)), .unset, .unset] [(.ref a_G)])) rfl (hb hby at_121) _ k) ?_
    obtain ⟨cq51, kq51, q51a, q51b, q51c⟩ := isOf hZ e50 (E_G.ext O31)
    obtain ⟨_, _, ⟨T51, L51, k51, n51⟩, -, X51, ⟨Lc51, hQ51, l51, y51, z51⟩, st51⟩ := X50.virtualBack hx (y := (⟨"com/example/cilu/cilu/model/Role", "takes", "(I)Z"⟩ : MethodName)) (z := (⟨"com/example/cilu/cilu/model/Role", "takes", "(I)Z"⟩ : MethodName)) hown (mvT hZ (hw _ (List.mem_of_getElem? (i := 41) rfl))) (mvT hZ (hw _ (List.mem_of_getElem? (i := 42) rfl))) (notFace_of_selects (args := #[]) (mvT hZ (hw _ (List.mem_of_getElem? (i := 44) rfl)))) (mvT hZ (hw _ (List.mem_of_getElem? (i := 44) rfl))) (mvT hZ (hw _ (List.mem_of_getElem? (i := 43) rfl))) (by decide) (backOf (W := 0) (own_rT l Z a0 hw [] a_G (1 : Int32) (1 : Int32) (0 : Int32) h31 n0 Z31 (F_G_shortest.ext O31) (F_G_longest.ext O31) (by decide)) hZ (hw _ (List.mem_of_getElem? (i := 45) rfl)) (hw _ (List.mem_of_getElem? (i := 3) rfl)) (by decide) (by decide)) q51a q51c (g := (mkF m 123 #[.val (.int xk), .val (.ref b1), .val (.ref a_G), .val (.int (1 : Int32)), .unset, .unset] [(.int (2147483647 : Int32)), (.ref a_G)])) rfl (by rw [hml]; rfl) (Steps.refl _) (argsL := [(.int (2147483647 : Int32))]) (rest := []) (lenOf own_pd1 rfl) rfl (by show 2 * 0 + _ ≤ _; exact Nat.le_of_eq rfl) (hb hby at_123) (fun _ _ => ⟨rfl, e50, (by decide : 1 + 0 ≤ _), (by decide : 15 + 0 ≤ _)⟩)
    dsimp only [Pt.U, Pt.locs, Pt.cells, Pt.slots] at X51 l51 y51 z51 st51 hQ51
    subst l51 y51 z51
    obtain ⟨rfl, N51q, e51⟩ := hQ51
    have N51 := Fr.app N50 N51q
    refine own_goT (T' := T51) (g' := (mkF m 126 #[.val (.int xk), .val (.ref b1), .val (.ref a_G), .val (.int (1 : Int32)), .unset, .unset] [(.int (0 : Int32))])) st51 ?_
    refine own_go (T' := T51) (g' := (mkF m 128 #[.val (.int xk), .val (.ref b1), .val (.ref a_G), .val (.int (1 : Int32)), .val (.int (0 : Int32)), .unset] [])) (fun _ k => XS.istore X51.here hx rfl (hb hby at_126) rfl (l' := #[.val (.int xk), .val (.ref b1), .val (.ref a_G), .val (.int (1 : Int32)), .val (.int (0 : Int32)), .unset]) rfl k) ?_
    refine own_go (T' := T51) (g' := (mkF m 129 #[.val (.int xk), .val (.ref b1), .val (.ref a_G), .val (.int (1 : Int32)), .val (.int (0 : Int32)), .unset] [(.ref a_G)])) (fun _ k => XS.aloadN X51.here hx rfl (hb hby at_128) rfl rfl k) ?_
    obtain ⟨cq52, kq52, q52a, q52b, q52c⟩ := isOf hZ e51 (E_G.ext O31)
    obtain ⟨_, _, ⟨T52, L52, k52, n52⟩, -, X52, ⟨Lc52, hQ52, l52, y52, z52⟩, st52⟩ := X51.virtualBack hx (y := (⟨"com/example/cilu/cilu/model/Role", "pool", "()Lcom/example/cilu/cilu/model/Role$Pool;"⟩ : MethodName)) (z := (⟨"com/example/cilu/cilu/model/Role", "pool", "()Lcom/example/cilu/cilu/model/Role$Pool;"⟩ : MethodName)) hown (mvT hZ (hw _ (List.mem_of_getElem? (i := 50) rfl))) (mvT hZ (hw _ (List.mem_of_getElem? (i := 51) rfl))) (notFace_of_selects (args := #[]) (mvT hZ (hw _ (List.mem_of_getElem? (i := 53) rfl)))) (mvT hZ (hw _ (List.mem_of_getElem? (i := 53) rfl))) (mvT hZ (hw _ (List.mem_of_getElem? (i := 52) rfl))) (by decide) (backOf (W := 0) (own_rPN l Z a0 hw [] a_G h31 n0 Z31 (F_G_pool.ext O31)) hZ (hw _ (List.mem_of_getElem? (i := 54) rfl)) (hw _ (List.mem_of_getElem? (i := 3) rfl)) (by decide) (by decide)) q52a q52c (g := (mkF m 129 #[.val (.int xk), .val (.ref b1), .val (.ref a_G), .val (.int (1 : Int32)), .val (.int (0 : Int32)), .unset] [(.ref a_G)])) rfl (by rw [hml]; rfl) (Steps.refl _) (argsL := []) (rest := []) (lenOf own_pd2 rfl) rfl (by show 2 * 0 + _ ≤ _; exact Nat.le_of_eq rfl) (hb hby at_129) (fun _ _ => ⟨rfl, e51, (by decide : 1 + 0 ≤ _), (by decide : 15 + 0 ≤ _)⟩)
    dsimp only [Pt.U, Pt.locs, Pt.cells, Pt.slots] at X52 l52 y52 z52 st52 hQ52
    subst l52 y52 z52
    obtain ⟨rfl, N52q, e52⟩ := hQ52
    have N52 := Fr.app N51 N52q
    refine own_goT (T' := T52) (g' := (mkF m 132 #[.val (.int xk), .val (.ref b1), .val (.ref a_G), .val (.int (1 : Int32)), .val (.int (0 : Int32)), .unset] [.null])) st52 ?_
    refine own_go (T' := T52) (g' := (mkF m 139 #[.val (.int xk), .val (.ref b1), .val (.ref a_G), .val (.int (1 : Int32)), .val (.int (0 : Int32)), .unset] [])) (fun _ k => XS.ifnullYes X52.here hx rfl (pc0 := 132) (pc' := 139) rfl (hb hby at_132) rfl (by decide) (by decide) k) ?_
    refine own_go (T' := T52) (g' := (mkF m 140 #[.val (.int xk), .val (.ref b1), .val (.ref a_G), .val (.int (1 : Int32)), .val (.int (0 : Int32)), .unset] [(.int (0 : Int32))])) (fun _ k => XS.iconst X52.here hx rfl (hb hby at_139) k) ?_
    refine own_go (T' := T52) (g' := (mkF m 142 #[.val (.int xk), .val (.ref b1), .val (.ref a_G), .val (.int (1 : Int32)), .val (.int (0 : Int32)), .val (.int (0 : Int32))] [])) (fun _ k => XS.istore X52.here hx rfl (hb hby at_140) rfl (l' := #[.val (.int xk), .val (.ref b1), .val (.ref a_G), .val (.int (1 : Int32)), .val (.int (0 : Int32)), .val (.int (0 : Int32))]) rfl k) ?_
    refine own_go (T' := T52) (g' := (mkF m 143 #[.val (.int xk), .val (.ref b1), .val (.ref a_G), .val (.int (1 : Int32)), .val (.int (0 : Int32)), .val (.int (0 : Int32))] [(.int (1 : Int32))])) (fun _ k => XS.iloadN X52.here hx rfl (hb hby at_142) rfl k) ?_
    refine own_go (T' := T52) (g' := (mkF m 145 #[.val (.int xk), .val (.ref b1), .val (.ref a_G), .val (.int (1 : Int32)), .val (.int (0 : Int32)), .val (.int (0 : Int32))] [(.int (0 : Int32)), (.int (1 : Int32))])) (fun _ k => XS.iload X52.here hx rfl (hb hby at_143) rfl k) ?_
    refine own_go (T' := T52) (g' := (mkF m 148 #[.val (.int xk), .val (.ref b1), .val (.ref a_G), .val (.int (1 : Int32)), .val (.int (0 : Int32)), .val (.int (0 : Int32))] [(.int (1 : Int32))])) (fun _ k => XS.ifNo X52.here hx rfl (hb hby at_145) rfl ((if0 _ _).trans (teq ((by decide) : (0 : Int32) = (0 : Int32))).2) k) ?_
    refine own_go (T' := T52) (g' := (mkF m 149 #[.val (.int xk), .val (.ref b1), .val (.ref a_G), .val (.int (1 : Int32)), .val (.int (0 : Int32)), .val (.int (0 : Int32))] [(.int (1 : Int32)), (.int (1 : Int32))])) (fun _ k => XS.iconst X52.here hx rfl (hb hby at_148) k) ?_
    refine own_go (T' := T52) (g' := (mkF m 153 #[.val (.int xk), .val (.ref b1), .val (.ref a_G), .val (.int (1 : Int32)), .val (.int (0 : Int32)), .val (.int (0 : Int32))] [(.int (1 : Int32)), (.int (1 : Int32))])) (fun _ k => XS.goto X52.here hx rfl (pc0 := 149) (pc' := 153) rfl (hb hby at_149) (by decide) (by decide) k) ?_
    refine own_go (T' := T52) (g' := (mkF m 156 #[.val (.int xk), .val (.ref b1), .val (.ref a_G), .val (.int (1 : Int32)), .val (.int (0 : Int32)), .val (.int (0 : Int32))] [])) (fun _ k => XS.icmpNo X52.here hx rfl (hb hby at_153) rfl (teq ((by decide) : (1 : Int32) = (1 : Int32))).2 k) ?_
    refine own_go (T' := T52) (g' := (mkF m 158 #[.val (.int xk), .val (.ref b1), .val (.ref a_G), .val (.int (1 : Int32)), .val (.int (0 : Int32)), .val (.int (0 : Int32))] [(.int (0 : Int32))])) (fun _ k => XS.iload X52.here hx rfl (hb hby at_156) rfl k) ?_
    refine own_go (T' := T52) (g' := (mkF m 165 #[.val (.int xk), .val (.ref b1), .val (.ref a_G), .val (.int (1 : Int32)), .val (.int (0 : Int32)), .val (.int (0 : Int32))] [])) (fun _ k => XS.ifYes X52.here hx rfl (pc0 := 158) (pc' := 165) rfl (hb hby at_158) rfl ((if0 _ _).trans (teq ((by decide) : (0 : Int32) = (0 : Int32))).1) (by decide) (by decide) k) ?_
    refine own_go (T' := T52) (g' := (mkF m 166 #[.val (.int xk), .val (.ref b1), .val (.ref a_G), .val (.int (1 : Int32)), .val (.int (0 : Int32)), .val (.int (0 : Int32))] [(.int (1 : Int32))])) (fun _ k => XS.iconst X52.here hx rfl (hb hby at_165) k) ?_
    refine own_go (T' := T52) (g' := (mkF m 170 #[.val (.int xk), .val (.ref b1), .val (.ref a_G), .val (.int (1 : Int32)), .val (.int (0 : Int32)), .val (.int (0 : Int32))] [(.int (1 : Int32))])) (fun _ k => XS.goto X52.here hx rfl (pc0 := 166) (pc' := 170) rfl (hb hby at_166) (by decide) (by decide) k) ?_
    obtain ⟨fs, hr, hrun, hended, hW, hsame⟩ := X52.leave (v := some (.int (1 : Int32))) (fun h => by rw [Bd.returns] at h; cases h)
    refine own_end (retN X52 hx (t := .boolean) Bd.returns (by simp) (hb hby at_170) hr) hrun hended ⟨_, _, rfl, (?_ : own_QL Z xk a_A a_B a_C a_D a_E a_F a_G a_P a_Q a_R a_K a_L a_X a_Y a_Z a_GIVEN_NAME a_TRANSLITERATED h0 n0 _ T52.heap _), ⟨_, rfl⟩, hW, hsame.mono (by decide) (by decide)⟩
    rw [e52]
    exact ⟨rfl, N52⟩
  · rw [hk]
    refine own_go (T' := T31) (g' := (mkF m 114 #[.val (.int xk), .val (.ref b1), .unset, .unset, .unset, .unset] [(.ref a_P)])) (fun _ k => own_aaload X31 hx hZ e31 Va31 (j := (7 : Int32)) (v := (.ref a_P)) (by decide) rfl rfl (g := (mkF m 113 #[.val (.int xk), .val (.ref b1), .unset, .unset, .unset, .unset] [(.int (7 : Int32)), (.ref b1)])) rfl rfl (hb hby at_113) k) ?_
    refine own_go (T' := T31) (g' := (mkF m 115 #[.val (.int xk), .val (.ref b1), .val (.ref a_P), .unset, .unset, .unset] [])) (fun _ k => XS.astoreN X31.here hx rfl (hb hby at_114) rfl rfl (l' := #[.val (.int xk), .val (.ref b1), .val (.ref a_P), .unset, .unset, .unset]) rfl k) ?_
    refine own_go (T' := T31) (g' := (mkF m 116 #[.val (.int xk), .val (.ref b1), .val (.ref a_P), .unset, .unset, .unset] [(.ref a_P)])) (fun _ k => XS.aloadN X31.here hx rfl (hb hby at_115) rfl rfl k) ?_
    obtain ⟨cq53, kq53, q53a, q53b, q53c⟩ := isOf hZ e31 (E_P.ext O31)
    obtain ⟨_, _, ⟨T53, L53, k53, n53⟩, -, X53, ⟨Lc53, hQ53, l53, y53, z53⟩, st53⟩ := X31.virtualBack hx (y := (⟨"com/example/cilu/cilu/model/Role", "isOfName", "()Z"⟩ : MethodName)) (z := (⟨"com/example/cilu/cilu/model/Role", "isOfName", "()Z"⟩ : MethodName)) hown (mvT hZ (hw _ (List.mem_of_getElem? (i := 35) rfl))) (mvT hZ (hw _ (List.mem_of_getElem? (i := 36) rfl))) (notFace_of_selects (args := #[]) (mvT hZ (hw _ (List.mem_of_getElem? (i := 38) rfl)))) (mvT hZ (hw _ (List.mem_of_getElem? (i := 38) rfl))) (mvT hZ (hw _ (List.mem_of_getElem? (i := 37) rfl))) (by decide) (backOf (W := 0) (own_rN l Z a0 hw [] a_P a_A a_K a_L (1 : Int32) h31 n0 Z31 (S_A.ext O31) (S_K.ext O31) (S_L.ext O31) (by simp [own_name, ne_P_A, ne_P_K, ne_P_L])) hZ (hw _ (List.mem_of_getElem? (i := 39) rfl)) (hw _ (List.mem_of_getElem? (i := 3) rfl)) (by decide) (by decide)) q53a q53c (g := (mkF m 116 #[.val (.int xk), .val (.ref b1), .val (.ref a_P), .unset, .unset, .unset] [(.ref a_P)])) rfl (by rw [hml]; rfl) (Steps.refl _) (argsL := []) (rest := []) (lenOf own_pd0 rfl) rfl (by show 2 * 0 + _ ≤ _; exact Nat.le_of_eq rfl) (hb hby at_116) (fun _ _ => ⟨rfl, e31, (by decide : 1 + 0 ≤ _), (by decide : 15 + 0 ≤ _)⟩)
    dsimp only [Pt.U, Pt.locs, Pt.cells, Pt.slots] at X53 l53 y53 z53 st53 hQ53
    subst l53 y53 z53
    obtain ⟨rfl, N53q, e53⟩ := hQ53
    have N53 := Fr.app N31 N53q
    refine own_goT (T' := T53) (g' := (mkF m 119 #[.val (.int xk), .val (.ref b1), .val (.ref a_P), .unset, .unset, .unset] [(.int (1 : Int32))])) st53 ?_
    refine own_go (T' := T53) (g' := (mkF m 120 #[.val (.int xk), .val (.ref b1), .val (.ref a_P), .val (.int (1 : Int32)), .unset, .unset] [])) (fun _ k => XS.istoreN X53.here hx rfl (hb hby at_119) rfl (l' := #[.val (.int xk), .val (.ref b1), .val (.ref a_P), .val (.int (1 : Int32)), .unset, .unset]) rfl k) ?_
    refine own_go (T' := T53) (g' := (mkF m 121 #[.val (.int xk), .val (.ref b1), .val (.ref a_P), .val (.int (1 : Int32)), .unset, .unset] [(.ref a_P)])) (fun _ k => XS.aloadN X53.here hx rfl (hb hby at_120) rfl rfl k) ?_
    refine own_go (T' := T53) (g' := (mkF m 123 #[.val (.int xk), .val (.ref b1), .val (.ref a_P), .val (.int (1 : Int32)), .unset, .unset] [(.int (2147483647 : Int32)), (.ref a_P)])) (fun _ k => X53.ldcInt hx hown (mvT hZ (hw _ (List.mem_of_getElem? (i := 34) rfl))) (g := (mkF m 121 #[.val (.int xk), .val (.ref b1), .val (.ref a_P), .val (.int (1 : Int32)), .unset, .unset] [(.ref a_P)])) rfl (hb hby at_121) _ k) ?_
    obtain ⟨cq54, kq54, q54a, q54b, q54c⟩ := isOf hZ e53 (E_P.ext O31)
    obtain ⟨_, _, ⟨T54, L54, k54, n54⟩, -, X54, ⟨Lc54, hQ54, l54, y54, z54⟩, st54⟩ := X53.virtualBack hx (y := (⟨"com/example/cilu/cilu/model/Role", "takes", "(I)Z"⟩ : MethodName)) (z := (⟨"com/example/cilu/cilu/model/Role", "takes", "(I)Z"⟩ : MethodName)) hown (mvT hZ (hw _ (List.mem_of_getElem? (i := 41) rfl))) (mvT hZ (hw _ (List.mem_of_getElem? (i := 42) rfl))) (notFace_of_selects (args := #[]) (mvT hZ (hw _ (List.mem_of_getElem? (i := 44) rfl)))) (mvT hZ (hw _ (List.mem_of_getElem? (i := 44) rfl))) (mvT hZ (hw _ (List.mem_of_getElem? (i := 43) rfl))) (by decide) (backOf (W := 0) (own_rT l Z a0 hw [] a_P (1 : Int32) (1 : Int32) (0 : Int32) h31 n0 Z31 (F_P_shortest.ext O31) (F_P_longest.ext O31) (by decide)) hZ (hw _ (List.mem_of_getElem? (i := 45) rfl)) (hw _ (List.mem_of_getElem? (i := 3) rfl)) (by decide) (by decide)) q54a q54c (g := (mkF m 123 #[.val (.int xk), .val (.ref b1), .val (.ref a_P), .val (.int (1 : Int32)), .unset, .unset] [(.int (2147483647 : Int32)), (.ref a_P)])) rfl (by rw [hml]; rfl) (Steps.refl _) (argsL := [(.int (2147483647 : Int32))]) (rest := []) (lenOf own_pd1 rfl) rfl (by show 2 * 0 + _ ≤ _; exact Nat.le_of_eq rfl) (hb hby at_123) (fun _ _ => ⟨rfl, e53, (by decide : 1 + 0 ≤ _), (by decide : 15 + 0 ≤ _)⟩)
    dsimp only [Pt.U, Pt.locs, Pt.cells, Pt.slots] at X54 l54 y54 z54 st54 hQ54
    subst l54 y54 z54
    obtain ⟨rfl, N54q, e54⟩ := hQ54
    have N54 := Fr.app N53 N54q
    refine own_goT (T' := T54) (g' := (mkF m 126 #[.val (.int xk), .val (.ref b1), .val (.ref a_P), .val (.int (1 : Int32)), .unset, .unset] [(.int (0 : Int32))])) st54 ?_
    refine own_go (T' := T54) (g' := (mkF m 128 #[.val (.int xk), .val (.ref b1), .val (.ref a_P), .val (.int (1 : Int32)), .val (.int (0 : Int32)), .unset] [])) (fun _ k => XS.istore X54.here hx rfl (hb hby at_126) rfl (l' := #[.val (.int xk), .val (.ref b1), .val (.ref a_P), .val (.int (1 : Int32)), .val (.int (0 : Int32)), .unset]) rfl k) ?_
    refine own_go (T' := T54) (g' := (mkF m 129 #[.val (.int xk), .val (.ref b1), .val (.ref a_P), .val (.int (1 : Int32)), .val (.int (0 : Int32)), .unset] [(.ref a_P)])) (fun _ k => XS.aloadN X54.here hx rfl (hb hby at_128) rfl rfl k) ?_
    obtain ⟨cq55, kq55, q55a, q55b, q55c⟩ := isOf hZ e54 (E_P.ext O31)
    obtain ⟨_, _, ⟨T55, L55, k55, n55⟩, -, X55, ⟨Lc55, hQ55, l55, y55, z55⟩, st55⟩ := X54.virtualBack hx (y := (⟨"com/example/cilu/cilu/model/Role", "pool", "()Lcom/example/cilu/cilu/model/Role$Pool;"⟩ : MethodName)) (z := (⟨"com/example/cilu/cilu/model/Role", "pool", "()Lcom/example/cilu/cilu/model/Role$Pool;"⟩ : MethodName)) hown (mvT hZ (hw _ (List.mem_of_getElem? (i := 50) rfl))) (mvT hZ (hw _ (List.mem_of_getElem? (i := 51) rfl))) (notFace_of_selects (args := #[]) (mvT hZ (hw _ (List.mem_of_getElem? (i := 53) rfl)))) (mvT hZ (hw _ (List.mem_of_getElem? (i := 53) rfl))) (mvT hZ (hw _ (List.mem_of_getElem? (i := 52) rfl))) (by decide) (backOf (W := 0) (own_rPR l Z a0 hw [] a_P a_TRANSLITERATED h31 n0 Z31 (F_P_pool.ext O31)) hZ (hw _ (List.mem_of_getElem? (i := 54) rfl)) (hw _ (List.mem_of_getElem? (i := 3) rfl)) (by decide) (by decide)) q55a q55c (g := (mkF m 129 #[.val (.int xk), .val (.ref b1), .val (.ref a_P), .val (.int (1 : Int32)), .val (.int (0 : Int32)), .unset] [(.ref a_P)])) rfl (by rw [hml]; rfl) (Steps.refl _) (argsL := []) (rest := []) (lenOf own_pd2 rfl) rfl (by show 2 * 0 + _ ≤ _; exact Nat.le_of_eq rfl) (hb hby at_129) (fun _ _ => ⟨rfl, e54, (by decide : 1 + 0 ≤ _), (by decide : 15 + 0 ≤ _)⟩)
    dsimp only [Pt.U, Pt.locs, Pt.cells, Pt.slots] at X55 l55 y55 z55 st55 hQ55
    subst l55 y55 z55
    obtain ⟨rfl, N55q, e55⟩ := hQ55
    have N55 := Fr.app N54 N55q
    refine own_goT (T' := T55) (g' := (mkF m 132 #[.val (.int xk), .val (.ref b1), .val (.ref a_P), .val (.int (1 : Int32)), .val (.int (0 : Int32)), .unset] [(.ref a_TRANSLITERATED)])) st55 ?_
    refine own_go (T' := T55) (g' := (mkF m 135 #[.val (.int xk), .val (.ref b1), .val (.ref a_P), .val (.int (1 : Int32)), .val (.int (0 : Int32)), .unset] [])) (fun _ k => XS.ifnullNo X55.here hx rfl (hb hby at_132) rfl k) ?_
    refine own_go (T' := T55) (g' := (mkF m 136 #[.val (.int xk), .val (.ref b1), .val (.ref a_P), .val (.int (1 : Int32)), .val (.int (0 : Int32)), .unset] [(.int (1 : Int32))])) (fun _ k => XS.iconst X55.here hx rfl (hb hby at_135) k) ?_
    refine own_go (T' := T55) (g' := (mkF m 140 #[.val (.int xk), .val (.ref b1), .val (.ref a_P), .val (.int (1 : Int32)), .val (.int (0 : Int32)), .unset] [(.int (1 : Int32))])) (fun _ k => XS.goto X55.here hx rfl (pc0 := 136) (pc' := 140) rfl (hb hby at_136) (by decide) (by decide) k) ?_
    refine own_go (T' := T55) (g' := (mkF m 142 #[.val (.int xk), .val (.ref b1), .val (.ref a_P), .val (.int (1 : Int32)), .val (.int (0 : Int32)), .val (.int (1 : Int32))] [])) (fun _ k => XS.istore X55.here hx rfl (hb hby at_140) rfl (l' := #[.val (.int xk), .val (.ref b1), .val (.ref a_P), .val (.int (1 : Int32)), .val (.int (0 : Int32)), .val (.int (1 : Int32))]) rfl k) ?_
    refine own_go (T' := T55) (g' := (mkF m 143 #[.val (.int xk), .val (.ref b1), .val (.ref a_P), .val (.int (1 : Int32)), .val (.int (0 : Int32)), .val (.int (1 : Int32))] [(.int (1 : Int32))])) (fun _ k => XS.iloadN X55.here hx rfl (hb hby at_142) rfl k) ?_
    refine own_go (T' := T55) (g' := (mkF m 145 #[.val (.int xk), .val (.ref b1), .val (.ref a_P), .val (.int (1 : Int32)), .val (.int (0 : Int32)), .val (.int (1 : Int32))] [(.int (0 : Int32)), (.int (1 : Int32))])) (fun _ k => XS.iload X55.here hx rfl (hb hby at_143) rfl k) ?_
    refine own_go (T' := T55) (g' := (mkF m 148 #[.val (.int xk), .val (.ref b1), .val (.ref a_P), .val (.int (1 : Int32)), .val (.int (0 : Int32)), .val (.int (1 : Int32))] [(.int (1 : Int32))])) (fun _ k => XS.ifNo X55.here hx rfl (hb hby at_145) rfl ((if0 _ _).trans (teq ((by decide) : (0 : Int32) = (0 : Int32))).2) k) ?_
    refine own_go (T' := T55) (g' := (mkF m 149 #[.val (.int xk), .val (.ref b1), .val (.ref a_P), .val (.int (1 : Int32)), .val (.int (0 : Int32)), .val (.int (1 : Int32))] [(.int (1 : Int32)), (.int (1 : Int32))])) (fun _ k => XS.iconst X55.here hx rfl (hb hby at_148) k) ?_
    refine own_go (T' := T55) (g' := (mkF m 153 #[.val (.int xk), .val (.ref b1), .val (.ref a_P), .val (.int (1 : Int32)), .val (.int (0 : Int32)), .val (.int (1 : Int32))] [(.int (1 : Int32)), (.int (1 : Int32))])) (fun _ k => XS.goto X55.here hx rfl (pc0 := 149) (pc' := 153) rfl (hb hby at_149) (by decide) (by decide) k) ?_
    refine own_go (T' := T55) (g' := (mkF m 156 #[.val (.int xk), .val (.ref b1), .val (.ref a_P), .val (.int (1 : Int32)), .val (.int (0 : Int32)), .val (.int (1 : Int32))] [])) (fun _ k => XS.icmpNo X55.here hx rfl (hb hby at_153) rfl (teq ((by decide) : (1 : Int32) = (1 : Int32))).2 k) ?_
    refine own_go (T' := T55) (g' := (mkF m 158 #[.val (.int xk), .val (.ref b1), .val (.ref a_P), .val (.int (1 : Int32)), .val (.int (0 : Int32)), .val (.int (1 : Int32))] [(.int (1 : Int32))])) (fun _ k => XS.iload X55.here hx rfl (hb hby at_156) rfl k) ?_
    refine own_go (T' := T55) (g' := (mkF m 161 #[.val (.int xk), .val (.ref b1), .val (.ref a_P), .val (.int (1 : Int32)), .val (.int (0 : Int32)), .val (.int (1 : Int32))] [])) (fun _ k => XS.ifNo X55.here hx rfl (hb hby at_158) rfl ((if0 _ _).trans (feq ((by decide) : ¬ ((1 : Int32) = (0 : Int32)))).1) k) ?_
    refine own_go (T' := T55) (g' := (mkF m 162 #[.val (.int xk), .val (.ref b1), .val (.ref a_P), .val (.int (1 : Int32)), .val (.int (0 : Int32)), .val (.int (1 : Int32))] [(.int (1 : Int32))])) (fun _ k => XS.iloadN X55.here hx rfl (hb hby at_161) rfl k) ?_
    refine own_go (T' := T55) (g' := (mkF m 165 #[.val (.int xk), .val (.ref b1), .val (.ref a_P), .val (.int (1 : Int32)), .val (.int (0 : Int32)), .val (.int (1 : Int32))] [])) (fun _ k => XS.ifNo X55.here hx rfl (hb hby at_162) rfl ((if0 _ _).trans (feq ((by decide) : ¬ ((1 : Int32) = (0 : Int32)))).1) k) ?_
    refine own_go (T' := T55) (g' := (mkF m 166 #[.val (.int xk), .val (.ref b1), .val (.ref a_P), .val (.int (1 : Int32)), .val (.int (0 : Int32)), .val (.int (1 : Int32))] [(.int (1 : Int32))])) (fun _ k => XS.iconst X55.here hx rfl (hb hby at_165) k) ?_
    refine own_go (T' := T55) (g' := (mkF m 170 #[.val (.int xk), .val (.ref b1), .val (.ref a_P), .val (.int (1 : Int32)), .val (.int (0 : Int32)), .val (.int (1 : Int32))] [(.int (1 : Int32))])) (fun _ k => XS.goto X55.here hx rfl (pc0 := 166) (pc' := 170) rfl (hb hby at_166) (by decide) (by decide) k) ?_
    obtain ⟨fs, hr, hrun, hended, hW, hsame⟩ := X55.leave (v := some (.int (1 : Int32))) (fun h => by rw [Bd.returns] at h; cases h)
    refine own_end (retN X55 hx (t := .boolean) Bd.returns (by simp) (hb hby at_170) hr) hrun hended ⟨_, _, rfl, (?_ : own_QL Z xk a_A a_B a_C a_D a_E a_F a_G a_P a_Q a_R a_K a_L a_X a_Y a_Z a_GIVEN_NAME a_TRANSLITERATED h0 n0 _ T55.heap _), ⟨_, rfl⟩, hW, hsame.mono (by decide) (by decide)⟩
    rw [e55]
    exact ⟨rfl, N55⟩
  · rw [hk]
    refine own_go (T' := T31) (g' := (mkF m 114 #[.val (.int xk), .val (.ref b1), .unset, .unset, .unset, .unset] [(.ref a_Q)])) (fun _ k => own_aaload X31 hx hZ e31 Va31 (j := (8 : Int32)) (v := (.ref a_Q)) (by decide) rfl rfl (g := (mkF m 113 #[.val (.int xk), .val (.ref b1), .unset, .unset, .unset, .unset] [(.int (8 : Int32)), (.ref b1)])) rfl rfl (hb hby at_113) k) ?_
    refine own_go (T' := T31) (g' := (mkF m 115 #[.val (.int xk), .val (.ref b1), .val (.ref a_Q), .unset, .unset, .unset] [])) (fun _ k => XS.astoreN X31.here hx rfl (hb hby at_114) rfl rfl (l' := #[.val (.int xk), .val (.ref b1), .val (.ref a_Q), .unset, .unset, .unset]) rfl k) ?_
    refine own_go (T' := T31) (g' := (mkF m 116 #[.val (.int xk), .val (.ref b1), .val (.ref a_Q), .unset, .unset, .unset] [(.ref a_Q)])) (fun _ k => XS.aloadN X31.here hx rfl (hb hby at_115) rfl rfl k) ?_
    obtain ⟨cq56, kq56, q56a, q56b, q56c⟩ := isOf hZ e31 (E_Q.ext O31)
    obtain ⟨_, _, ⟨T56, L56, k56, n56⟩, -, X56, ⟨Lc56, hQ56, l56, y56, z56⟩, st56⟩ := X31.virtualBack hx (y := (⟨"com/example/cilu/cilu/model/Role", "isOfName", "()Z"⟩ : MethodName)) (z := (⟨"com/example/cilu/cilu/model/Role", "isOfName", "()Z"⟩ : MethodName)) hown (mvT hZ (hw _ (List.mem_of_getElem? (i := 35) rfl))) (mvT hZ (hw _ (List.mem_of_getElem? (i := 36) rfl))) (notFace_of_selects (args := #[]) (mvT hZ (hw _ (List.mem_of_getElem? (i := 38) rfl)))) (mvT hZ (hw _ (List.mem_of_getElem? (i := 38) rfl))) (mvT hZ (hw _ (List.mem_of_getElem? (i := 37) rfl))) (by decide) (backOf (W := 0) (own_rN l Z a0 hw [] a_Q a_A a_K a_L (1 : Int32) h31 n0 Z31 (S_A.ext O31) (S_K.ext O31) (S_L.ext O31) (by simp [own_name, ne_Q_A, ne_Q_K, ne_Q_L])) hZ (hw _ (List.mem_of_getElem? (i := 39) rfl)) (hw _ (List.mem_of_getElem? (i := 3) rfl)) (by decide) (by decide)) q56a q56c (g := (mkF m 116 #[.val (.int xk), .val (.ref b1), .val (.ref a_Q), .unset, .unset, .unset] [(.ref a_Q)])) rfl (by rw [hml]; rfl) (Steps.refl _) (argsL := []) (rest := []) (lenOf own_pd0 rfl) rfl (by show 2 * 0 + _ ≤ _; exact Nat.le_of_eq rfl) (hb hby at_116) (fun _ _ => ⟨rfl, e31, (by decide : 1 + 0 ≤ _), (by decide : 15 + 0 ≤ _)⟩)
    dsimp only [Pt.U, Pt.locs, Pt.cells, Pt.slots] at X56 l56 y56 z56 st56 hQ56
    subst l56 y56 z56
    obtain ⟨rfl, N56q, e56⟩ := hQ56
    have N56 := Fr.app N31 N56q
    refine own_goT (T' := T56) (g' := (mkF m 119 #[.val (.int xk), .val (.ref b1), .val (.ref a_Q), .unset, .unset, .unset] [(.int (1 : Int32))])) st56 ?_
    refine own_go (T' := T56) (g' := (mkF m 120 #[.val (.int xk), .val (.ref b1), .val (.ref a_Q), .val (.int (1 : Int32)), .unset, .unset] [])) (fun _ k => XS.istoreN X56.here hx rfl (hb hby at_119) rfl (l' := #[.val (.int xk), .val (.ref b1), .val (.ref a_Q), .val (.int (1 : Int32)), .unset, .unset]) rfl k) ?_
    refine own_go (T' := T56) (g' := (mkF m 121 #[.val (.int xk), .val (.ref b1), .val (.ref a_Q), .val (.int (1 : Int32)), .unset, .unset] [(.ref a_Q)])) (fun _ k => XS.aloadN X56.here hx rfl (hb hby at_120) rfl rfl k) ?_
    refine own_go (T' := T56) (g' := (mkF m 123 #[.val (.int xk), .val (.ref b1), .val (.ref a_Q), .val (.int (1 : Int32)), .unset, .unset] [(.int (2147483647 : Int32)), (.ref a_Q)])) (fun _ k => X56.ldcInt hx hown (mvT hZ (hw _ (List.mem_of_getElem? (i := 34) rfl))) (g := (mkF m 121 #[.val (.int xk), .val (.ref b1), .val (.ref a_Q), .val (.int (1 : Int32)), .unset, .unset] [(.ref a_Q)])) rfl (hb hby at_121) _ k) ?_
    obtain ⟨cq57, kq57, q57a, q57b, q57c⟩ := isOf hZ e56 (E_Q.ext O31)
    obtain ⟨_, _, ⟨T57, L57, k57, n57⟩, -, X57, ⟨Lc57, hQ57, l57, y57, z57⟩, st57⟩ := X56.virtualBack hx (y := (⟨"com/example/cilu/cilu/model/Role", "takes", "(I)Z"⟩ : MethodName)) (z := (⟨"com/example/cilu/cilu/model/Role", "takes", "(I)Z"⟩ : MethodName)) hown (mvT hZ (hw _ (List.mem_of_getElem? (i := 41) rfl))) (mvT hZ (hw _ (List.mem_of_getElem? (i := 42) rfl))) (notFace_of_selects (args := #[]) (mvT hZ (hw _ (List.mem_of_getElem? (i := 44) rfl)))) (mvT hZ (hw _ (List.mem_of_getElem? (i := 44) rfl))) (mvT hZ (hw _ (List.mem_of_getElem? (i := 43) rfl))) (by decide) (backOf (W := 0) (own_rT l Z a0 hw [] a_Q (1 : Int32) (1 : Int32) (0 : Int32) h31 n0 Z31 (F_Q_shortest.ext O31) (F_Q_longest.ext O31) (by decide)) hZ (hw _ (List.mem_of_getElem? (i := 45) rfl)) (hw _ (List.mem_of_getElem? (i := 3) rfl)) (by decide) (by decide)) q57a q57c (g := (mkF m 123 #[.val (.int xk), .val (.ref b1), .val (.ref a_Q), .val (.int (1 : Int32)), .unset, .unset] [(.int (2147483647 : Int32)), (.ref a_Q)])) rfl (by rw [hml]; rfl) (Steps.refl _) (argsL := [(.int (2147483647 : Int32))]) (rest := []) (lenOf own_pd1 rfl) rfl (by show 2 * 0 + _ ≤ _; exact Nat.le_of_eq rfl) (hb hby at_123) (fun _ _ => ⟨rfl, e56, (by decide : 1 + 0 ≤ _), (by decide : 15 + 0 ≤ _)⟩)
    dsimp only [Pt.U, Pt.locs, Pt.cells, Pt.slots] at X57 l57 y57 z57 st57 hQ57
    subst l57 y57 z57
    obtain ⟨rfl, N57q, e57⟩ := hQ57
    have N57 := Fr.app N56 N57q
    refine own_goT (T' := T57) (g' := (mkF m 126 #[.val (.int xk), .val (.ref b1), .val (.ref a_Q), .val (.int (1 : Int32)), .unset, .unset] [(.int (0 : Int32))])) st57 ?_
    refine own_go (T' := T57) (g' := (mkF m 128 #[.val (.int xk), .val (.ref b1), .val (.ref a_Q), .val (.int (1 : Int32)), .val (.int (0 : Int32)), .unset] [])) (fun _ k => XS.istore X57.here hx rfl (hb hby at_126) rfl (l' := #[.val (.int xk), .val (.ref b1), .val (.ref a_Q), .val (.int (1 : Int32)), .val (.int (0 : Int32)), .unset]) rfl k) ?_
    refine own_go (T' := T57) (g' := (mkF m 129 #[.val (.int xk), .val (.ref b1), .val (.ref a_Q), .val (.int (1 : Int32)), .val (.int (0 : Int32)), .unset] [(.ref a_Q)])) (fun _ k => XS.aloadN X57.here hx rfl (hb hby at_128) rfl rfl k) ?_
    obtain ⟨cq58, kq58, q58a, q58b, q58c⟩ := isOf hZ e57 (E_Q.ext O31)
    obtain ⟨_, _, ⟨T58, L58, k58, n58⟩, -, X58, ⟨Lc58, hQ58, l58, y58, z58⟩, st58⟩ := X57.virtualBack hx (y := (⟨"com/example/cilu/cilu/model/Role", "pool", "()Lcom/example/cilu/cilu/model/Role$Pool;"⟩ : MethodName)) (z := (⟨"com/example/cilu/cilu/model/Role", "pool", "()Lcom/example/cilu/cilu/model/Role$Pool;"⟩ : MethodName)) hown (mvT hZ (hw _ (List.mem_of_getElem? (i := 50) rfl))) (mvT hZ (hw _ (List.mem_of_getElem? (i := 51) rfl))) (notFace_of_selects (args := #[]) (mvT hZ (hw _ (List.mem_of_getElem? (i := 53) rfl)))) (mvT hZ (hw _ (List.mem_of_getElem? (i := 53) rfl))) (mvT hZ (hw _ (List.mem_of_getElem? (i := 52) rfl))) (by decide) (backOf (W := 0) (own_rPR l Z a0 hw [] a_Q a_TRANSLITERATED h31 n0 Z31 (F_Q_pool.ext O31)) hZ (hw _ (List.mem_of_getElem? (i := 54) rfl)) (hw _ (List.mem_of_getElem? (i := 3) rfl)) (by decide) (by decide)) q58a q58c (g := (mkF m 129 #[.val (.int xk), .val (.ref b1), .val (.ref a_Q), .val (.int (1 : Int32)), .val (.int (0 : Int32)), .unset] [(.ref a_Q)])) rfl (by rw [hml]; rfl) (Steps.refl _) (argsL := []) (rest := []) (lenOf own_pd2 rfl) rfl (by show 2 * 0 + _ ≤ _; exact Nat.le_of_eq rfl) (hb hby at_129) (fun _ _ => ⟨rfl, e57, (by decide : 1 + 0 ≤ _), (by decide : 15 + 0 ≤ _)⟩)
    dsimp only [Pt.U, Pt.locs, Pt.cells, Pt.slots] at X58 l58 y58 z58 st58 hQ58
    subst l58 y58 z58
    obtain ⟨rfl, N58q, e58⟩ := hQ58
    have N58 := Fr.app N57 N58q
    refine own_goT (T' := T58) (g' := (mkF m 132 #[.val (.int xk), .val (.ref b1), .val (.ref a_Q), .val (.int (1 : Int32)), .val (.int (0 : Int32)), .unset] [(.ref a_TRANSLITERATED)])) st58 ?_
    refine own_go (T' := T58) (g' := (mkF m 135 #[.val (.int xk), .val (.ref b1), .val (.ref a_Q), .val (.int (1 : Int32)), .val (.int (0 : Int32)), .unset] [])) (fun _ k => XS.ifnullNo X58.here hx rfl (hb hby at_132) rfl k) ?_
    refine own_go (T' := T58) (g' := (mkF m 136 #[.val (.int xk), .val (.ref b1), .val (.ref a_Q), .val (.int (1 : Int32)), .val (.int (0 : Int32)), .unset] [(.int (1 : Int32))])) (fun _ k => XS.iconst X58.here hx rfl (hb hby at_135) k) ?_
    refine own_go (T' := T58) (g' := (mkF m 140 #[.val (.int xk), .val (.ref b1), .val (.ref a_Q), .val (.int (1 : Int32)), .val (.int (0 : Int32)), .unset] [(.int (1 : Int32))])) (fun _ k => XS.goto X58.here hx rfl (pc0 := 136) (pc' := 140) rfl (hb hby at_136) (by decide) (by decide) k) ?_
    refine own_go (T' := T58) (g' := (mkF m 142 #[.val (.int xk), .val (.ref b1), .val (.ref a_Q), .val (.int (1 : Int32)), .val (.int (0 : Int32)), .val (.int (1 : Int32))] [])) (fun _ k => XS.istore X58.here hx rfl (hb hby at_140) rfl (l' := #[.val (.int xk), .val (.ref b1), .val (.ref a_Q), .val (.int (1 : Int32)), .val (.int (0 : Int32)), .val (.int (1 : Int32))]) rfl k) ?_
    refine own_go (T' := T58) (g' := (mkF m 143 #[.val (.int xk), .val (.ref b1), .val (.ref a_Q), .val (.int (1 : Int32)), .val (.int (0 : Int32)), .val (.int (1 : Int32))] [(.int (1 : Int32))])) (fun _ k => XS.iloadN X58.here hx rfl (hb hby at_142) rfl k) ?_
    refine own_go (T' := T58) (g' := (mkF m 145 #[.val (.int xk), .val (.ref b1), .val (.ref a_Q), .val (.int (1 : Int32)), .val (.int (0 : Int32)), .val (.int (1 : Int32))] [(.int (0 : Int32)), (.int (1 : Int32))])) (fun _ k => XS.iload X58.here hx rfl (hb hby at_143) rfl k) ?_
    refine own_go (T' := T58) (g' := (mkF m 148 #[.val (.int xk), .val (.ref b1), .val (.ref a_Q), .val (.int (1 : Int32)), .val (.int (0 : Int32)), .val (.int (1 : Int32))] [(.int (1 : Int32))])) (fun _ k => XS.ifNo X58.here hx rfl (hb hby at_145) rfl ((if0 _ _).trans (teq ((by decide) : (0 : Int32) = (0 : Int32))).2) k) ?_
    refine own_go (T' := T58) (g' := (mkF m 149 #[.val (.int xk), .val (.ref b1), .val (.ref a_Q), .val (.int (1 : Int32)), .val (.int (0 : Int32)), .val (.int (1 : Int32))] [(.int (1 : Int32)), (.int (1 : Int32))])) (fun _ k => XS.iconst X58.here hx rfl (hb hby at_148) k) ?_
    refine own_go (T' := T58) (g' := (mkF m 153 #[.val (.int xk), .val (.ref b1), .val (.ref a_Q), .val (.int (1 : Int32)), .val (.int (0 : Int32)), .val (.int (1 : Int32))] [(.int (1 : Int32)), (.int (1 : Int32))])) (fun _ k => XS.goto X58.here hx rfl (pc0 := 149) (pc' := 153) rfl (hb hby at_149) (by decide) (by decide) k) ?_
    refine own_go (T' := T58) (g' := (mkF m 156 #[.val (.int xk), .val (.ref b1), .val (.ref a_Q), .val (.int (1 : Int32)), .val (.int (0 : Int32)), .val (.int (1 : Int32))] [])) (fun _ k => XS.icmpNo X58.here hx rfl (hb hby at_153) rfl (teq ((by decide) : (1 : Int32) = (1 : Int32))).2 k) ?_
    refine own_go (T' := T58) (g' := (mkF m 158 #[.val (.int xk), .val (.ref b1), .val (.ref a_Q), .val (.int (1 : Int32)), .val (.int (0 : Int32)), .val (.int (1 : Int32))] [(.int (1 : Int32))])) (fun _ k => XS.iload X58.here hx rfl (hb hby at_156) rfl k) ?_
    refine own_go (T' := T58) (g' := (mkF m 161 #[.val (.int xk), .val (.ref b1), .val (.ref a_Q), .val (.int (1 : Int32)), .val (.int (0 : Int32)), .val (.int (1 : Int32))] [])) (fun _ k => XS.ifNo X58.here hx rfl (hb hby at_158) rfl ((if0 _ _).trans (feq ((by decide) : ¬ ((1 : Int32) = (0 : Int32)))).1) k) ?_
    refine own_go (T' := T58) (g' := (mkF m 162 #[.val (.int xk), .val (.ref b1), .val (.ref a_Q), .val (.int (1 : Int32)), .val (.int (0 : Int32)), .val (.int (1 : Int32))] [(.int (1 : Int32))])) (fun _ k => XS.iloadN X58.here hx rfl (hb hby at_161) rfl k) ?_
    refine own_go (T' := T58) (g' := (mkF m 165 #[.val (.int xk), .val (.ref b1), .val (.ref a_Q), .val (.int (1 : Int32)), .val (.int (0 : Int32)), .val (.int (1 : Int32))] [])) (fun _ k => XS.ifNo X58.here hx rfl (hb hby at_162) rfl ((if0 _ _).trans (feq ((by decide) : ¬ ((1 : Int32) = (0 : Int32)))).1) k) ?_
    refine own_go (T' := T58) (g' := (mkF m 166 #[.val (.int xk), .val (.ref b1), .val (.ref a_Q), .val (.int (1 : Int32)), .val (.int (0 : Int32)), .val (.int (1 : Int32))] [(.int (1 : Int32))])) (fun _ k => XS.iconst X58.here hx rfl (hb hby at_165) k) ?_
    refine own_go (T' := T58) (g' := (mkF m 170 #[.val (.int xk), .val (.ref b1), .val (.ref a_Q), .val (.int (1 : Int32)), .val (.int (0 : Int32)), .val (.int (1 : Int32))] [(.int (1 : Int32))])) (fun _ k => XS.goto X58.here hx rfl (pc0 := 166) (pc' := 170) rfl (hb hby at_166) (by decide) (by decide) k) ?_
    obtain ⟨fs, hr, hrun, hended, hW, hsame⟩ := X58.leave (v := some (.int (1 : Int32))) (fun h => by rw [Bd.returns] at h; cases h)
    refine own_end (retN X58 hx (t := .boolean) Bd.returns (by simp) (hb hby at_170) hr) hrun hended ⟨_, _, rfl, (?_ : own_QL Z xk a_A a_B a_C a_D a_E a_F a_G a_P a_Q a_R a_K a_L a_X a_Y a_Z a_GIVEN_NAME a_TRANSLITERATED h0 n0 _ T58.heap _), ⟨_, rfl⟩, hW, hsame.mono (by decide) (by decide)⟩
    rw [e58]
    exact ⟨rfl, N58⟩
  · rw [hk]
    refine own_go (T' := T31) (g' := (mkF m 114 #[.val (.int xk), .val (.ref b1), .unset, .unset, .unset, .unset] [(.ref a_R)])) (fun _ k => own_aaload X31 hx hZ e31 Va31 (j := (9 : Int32)) (v := (.ref a_R)) (by decide) rfl rfl (g := (mkF m 113 #[.val (.int xk), .val (.ref b1), .unset, .unset, .unset, .unset] [(.int (9 : Int32)), (.ref b1)])) rfl rfl (hb hby at_113) k) ?_
    refine own_go (T' := T31) (g' := (mkF m 115 #[.val (.int xk), .val (.ref b1), .val (.ref a_R), .unset, .unset, .unset] [])) (fun _ k => XS.astoreN X31.here hx rfl (hb hby at_114) rfl rfl (l' := #[.val (.int xk), .val (.ref b1), .val (.ref a_R), .unset, .unset, .unset]) rfl k) ?_
    refine own_go (T' := T31) (g' := (mkF m 116 #[.val (.int xk), .val (.ref b1), .val (.ref a_R), .unset, .unset, .unset] [(.ref a_R)])) (fun _ k => XS.aloadN X31.here hx rfl (hb hby at_115) rfl rfl k) ?_
    obtain ⟨cq59, kq59, q59a, q59b, q59c⟩ := isOf hZ e31 (E_R.ext O31)
    obtain ⟨_, _, ⟨T59, L59, k59, n59⟩, -, X59, ⟨Lc59, hQ59, l59, y59, z59⟩, st59⟩ := X31.virtualBack hx (y := (⟨"com/example/cilu/cilu/model/Role", "isOfName", "()Z"⟩ : MethodName)) (z := (⟨"com/example/cilu/cilu/model/Role", "isOfName", "()Z"⟩ : MethodName)) hown (mvT hZ (hw _ (List.mem_of_getElem? (i := 35) rfl))) (mvT hZ (hw _ (List.mem_of_getElem? (i := 36) rfl))) (notFace_of_selects (args := #[]) (mvT hZ (hw _ (List.mem_of_getElem? (i := 38) rfl)))) (mvT hZ (hw _ (List.mem_of_getElem? (i := 38) rfl))) (mvT hZ (hw _ (List.mem_of_getElem? (i := 37) rfl))) (by decide) (backOf (W := 0) (own_rN l Z a0 hw [] a_R a_A a_K a_L (1 : Int32) h31 n0 Z31 (S_A.ext O31) (S_K.ext O31) (S_L.ext O31) (by simp [own_name, ne_R_A, ne_R_K, ne_R_L])) hZ (hw _ (List.mem_of_getElem? (i := 39) rfl)) (hw _ (List.mem_of_getElem? (i := 3) rfl)) (by decide) (by decide)) q59a q59c (g := (mkF m 116 #[.val (.int xk), .val (.ref b1), .val (.ref a_R), .unset, .unset, .unset] [(.ref a_R)])) rfl (by rw [hml]; rfl) (Steps.refl _) (argsL := []) (rest := []) (lenOf own_pd0 rfl) rfl (by show 2 * 0 + _ ≤ _; exact Nat.le_of_eq rfl) (hb hby at_116) (fun _ _ => ⟨rfl, e31, (by decide : 1 + 0 ≤ _), (by decide : 15 + 0 ≤ _)⟩)
    dsimp only [Pt.U, Pt.locs, Pt.cells, Pt.slots] at X59 l59 y59 z59 st59 hQ59
    subst l59 y59 z59
    obtain ⟨rfl, N59q, e59⟩ := hQ59
    have N59 := Fr.app N31 N59q
    refine own_goT (T' := T59) (g' := (mkF m 119 #[.val (.int xk), .val (.ref b1), .val (.ref a_R), .unset, .unset, .unset] [(.int (1 : Int32))])) st59 ?_
    refine own_go (T' := T59) (g' := (mkF m 120 #[.val (.int xk), .val (.ref b1), .val (.ref a_R), .val (.int (1 : Int32)), .unset, .unset] [])) (fun _ k => XS.istoreN X59.here hx rfl (hb hby at_119) rfl (l' := #[.val (.int xk), .val (.ref b1), .val (.ref a_R), .val (.int (1 : Int32)), .unset, .unset]) rfl k) ?_
    refine own_go (T' := T59) (g' := (mkF m 121 #[.val (.int xk), .val (.ref b1), .val (.ref a_R), .val (.int (1 : Int32)), .unset, .unset] [(.ref a_R)])) (fun _ k => XS.aloadN X59.here hx rfl (hb hby at_120) rfl rfl k) ?_
    refine own_go (T' := T59) (g' := (mkF m 123 #[.val (.int xk), .val (.ref b1), .val (.ref a_R), .val (.int (1 : Int32)), .unset, .unset] [(.int (2147483647 : Int32)), (.ref a_R)])) (fun _ k => X59.ldcInt hx hown (mvT hZ (hw _ (List.mem_of_getElem? (i := 34) rfl))) (g := (mkF m 121 #[.val (.int xk), .val (.ref b1), .val (.ref a_R), .val (.int (1 : Int32)), .unset, .unset] [(.ref a_R)])) rfl (hb hby at_121) _ k) ?_
    obtain ⟨cq60, kq60, q60a, q60b, q60c⟩ := isOf hZ e59 (E_R.ext O31)
    obtain ⟨_, _, ⟨T60, L60, k60, n60⟩, -, X60, ⟨Lc60, hQ60, l60, y60, z60⟩, st60⟩ := X59.virtualBack hx (y := (⟨"com/example/cilu/cilu/model/Role", "takes", "(I)Z"⟩ : MethodName)) (z := (⟨"com/example/cilu/cilu/model/Role", "takes", "(I)Z"⟩ : MethodName)) hown (mvT hZ (hw _ (List.mem_of_getElem? (i := 41) rfl))) (mvT hZ (hw _ (List.mem_of_getElem? (i := 42) rfl))) (notFace_of_selects (args := #[]) (mvT hZ (hw _ (List.mem_of_getElem? (i := 44) rfl)))) (mvT hZ (hw _ (List.mem_of_getElem? (i := 44) rfl))) (mvT hZ (hw _ (List.mem_of_getElem? (i := 43) rfl))) (by decide) (backOf (W := 0) (own_rT l Z a0 hw [] a_R (1 : Int32) (1 : Int32) (0 : Int32) h31 n0 Z31 (F_R_shortest.ext O31) (F_R_longest.ext O31) (by decide)) hZ (hw _ (List.mem_of_getElem? (i := 45) rfl)) (hw _ (List.mem_of_getElem? (i := 3) rfl)) (by decide) (by decide)) q60a q60c (g := (mkF m 123 #[.val (.int xk), .val (.ref b1), .val (.ref a_R), .val (.int (1 : Int32)), .unset, .unset] [(.int (2147483647 : Int32)), (.ref a_R)])) rfl (by rw [hml]; rfl) (Steps.refl _) (argsL := [(.int (2147483647 : Int32))]) (rest := []) (lenOf own_pd1 rfl) rfl (by show 2 * 0 + _ ≤ _; exact Nat.le_of_eq rfl) (hb hby at_123) (fun _ _ => ⟨rfl, e59, (by decide : 1 + 0 ≤ _), (by decide : 15 + 0 ≤ _)⟩)
    dsimp only [Pt.U, Pt.locs, Pt.cells, Pt.slots] at X60 l60 y60 z60 st60 hQ60
    subst l60 y60 z60
    obtain ⟨rfl, N60q, e60⟩ := hQ60
    have N60 := Fr.app N59 N60q
    refine own_goT (T' := T60) (g' := (mkF m 126 #[.val (.int xk), .val (.ref b1), .val (.ref a_R), .val (.int (1 : Int32)), .unset, .unset] [(.int (0 : Int32))])) st60 ?_
    refine own_go (T' := T60) (g' := (mkF m 128 #[.val (.int xk), .val (.ref b1), .val (.ref a_R), .val (.int (1 : Int32)), .val (.int (0 : Int32)), .unset] [])) (fun _ k => XS.istore X60.here hx rfl (hb hby at_126) rfl (l' := #[.val (.int xk), .val (.ref b1), .val (.ref a_R), .val (.int (1 : Int32)), .val (.int (0 : Int32)), .unset]) rfl k) ?_
    refine own_go (T' := T60) (g' := (mkF m 129 #[.val (.int xk), .val (.ref b1), .val (.ref a_R), .val (.int (1 : Int32)), .val (.int (0 : Int32)), .unset] [(.ref a_R)])) (fun _ k => XS.aloadN X60.here hx rfl (hb hby at_128) rfl rfl k) ?_
    obtain ⟨cq61, kq61, q61a, q61b, q61c⟩ := isOf hZ e60 (E_R.ext O31)
    obtain ⟨_, _, ⟨T61, L61, k61, n61⟩, -, X61, ⟨Lc61, hQ61, l61, y61, z61⟩, st61⟩ := X60.virtualBack hx (y := (⟨"com/example/cilu/cilu/model/Role", "pool", "()Lcom/example/cilu/cilu/model/Role$Pool;"⟩ : MethodName)) (z := (⟨"com/example/cilu/cilu/model/Role", "pool", "()Lcom/example/cilu/cilu/model/Role$Pool;"⟩ : MethodName)) hown (mvT hZ (hw _ (List.mem_of_getElem? (i := 50) rfl))) (mvT hZ (hw _ (List.mem_of_getElem? (i := 51) rfl))) (notFace_of_selects (args := #[]) (mvT hZ (hw _ (List.mem_of_getElem? (i := 53) rfl)))) (mvT hZ (hw _ (List.mem_of_getElem? (i := 53) rfl))) (mvT hZ (hw _ (List.mem_of_getElem? (i := 52) rfl))) (by decide) (backOf (W := 0) (own_rPR l Z a0 hw [] a_R a_TRANSLITERATED h31 n0 Z31 (F_R_pool.ext O31)) hZ (hw _ (List.mem_of_getElem? (i := 54) rfl)) (hw _ (List.mem_of_getElem? (i := 3) rfl)) (by decide) (by decide)) q61a q61c (g := (mkF m 129 #[.val (.int xk), .val (.ref b1), .val (.ref a_R), .val (.int (1 : Int32)), .val (.int (0 : Int32)), .unset] [(.ref a_R)])) rfl (by rw [hml]; rfl) (Steps.refl _) (argsL := []) (rest := []) (lenOf own_pd2 rfl) rfl (by show 2 * 0 + _ ≤ _; exact Nat.le_of_eq rfl) (hb hby at_129) (fun _ _ => ⟨rfl, e60, (by decide : 1 + 0 ≤ _), (by decide : 15 + 0 ≤ _)⟩)
    dsimp only [Pt.U, Pt.locs, Pt.cells, Pt.slots] at X61 l61 y61 z61 st61 hQ61
    subst l61 y61 z61
    obtain ⟨rfl, N61q, e61⟩ := hQ61
    have N61 := Fr.app N60 N61q
    refine own_goT (T' := T61) (g' := (mkF m 132 #[.val (.int xk), .val (.ref b1), .val (.ref a_R), .val (.int (1 : Int32)), .val (.int (0 : Int32)), .unset] [(.ref a_TRANSLITERATED)])) st61 ?_
    refine own_go (T' := T61) (g' := (mkF m 135 #[.val (.int xk), .val (.ref b1), .val (.ref a_R), .val (.int (1 : Int32)), .val (.int (0 : Int32)), .unset] [])) (fun _ k => XS.ifnullNo X61.here hx rfl (hb hby at_132) rfl k) ?_
    refine own_go (T' := T61) (g' := (mkF m 136 #[.val (.int xk), .val (.ref b1), .val (.ref a_R), .val (.int (1 : Int32)), .val (.int (0 : Int32)), .unset] [(.int (1 : Int32))])) (fun _ k => XS.iconst X61.here hx rfl (hb hby at_135) k) ?_
    refine own_go (T' := T61) (g' := (mkF m 140 #[.val (.int xk), .val (.ref b1), .val (.ref a_R), .val (.int (1 : Int32)), .val (.int (0 : Int32)), .unset] [(.int (1 : Int32))])) (fun _ k => XS.goto X61.here hx rfl (pc0 := 136) (pc' := 140) rfl (hb hby at_136) (by decide) (by decide) k) ?_
    refine own_go (T' := T61) (g' := (mkF m 142 #[.val (.int xk), .val (.ref b1), .val (.ref a_R), .val (.int (1 : Int32)), .val (.int (0 : Int32)), .val (.int (1 : Int32))] [])) (fun _ k => XS.istore X61.here hx rfl (hb hby at_140) rfl (l' := #[.val (.int xk), .val (.ref b1), .val (.ref a_R), .val (.int (1 : Int32)), .val (.int (0 : Int32)), .val (.int (1 : Int32))]) rfl k) ?_
    refine own_go (T' := T61) (g' := (mkF m 143 #[.val (.int xk), .val (.ref b1), .val (.ref a_R), .val (.int (1 : Int32)), .val (.int (0 : Int32)), .val (.int (1 : Int32))] [(.int (1 : Int32))])) (fun _ k => XS.iloadN X61.here hx rfl (hb hby at_142) rfl k) ?_
    refine own_go (T' := T61) (g' := (mkF m 145 #[.val (.int xk), .val (.ref b1), .val (.ref a_R), .val (.int (1 : Int32)), .val (.int (0 : Int32)), .val (.int (1 : Int32))] [(.int (0 : Int32)), (.int (1 : Int32))])) (fun _ k => XS.iload X61.here hx rfl (hb hby at_143) rfl k) ?_
    refine own_go (T' := T61) (g' := (mkF m 148 #[.val (.int xk), .val (.ref b1), .val (.ref a_R), .val (.int (1 : Int32)), .val (.int (0 : Int32)), .val (.int (1 : Int32))] [(.int (1 : Int32))])) (fun _ k => XS.ifNo X61.here hx rfl (hb hby at_145) rfl ((if0 _ _).trans (teq ((by decide) : (0 : Int32) = (0 : Int32))).2) k) ?_
    refine own_go (T' := T61) (g' := (mkF m 149 #[.val (.int xk), .val (.ref b1), .val (.ref a_R), .val (.int (1 : Int32)), .val (.int (0 : Int32)), .val (.int (1 : Int32))] [(.int (1 : Int32)), (.int (1 : Int32))])) (fun _ k => XS.iconst X61.here hx rfl (hb hby at_148) k) ?_
    refine own_go (T' := T61) (g' := (mkF m 153 #[.val (.int xk), .val (.ref b1), .val (.ref a_R), .val (.int (1 : Int32)), .val (.int (0 : Int32)), .val (.int (1 : Int32))] [(.int (1 : Int32)), (.int (1 : Int32))])) (fun _ k => XS.goto X61.here hx rfl (pc0 := 149) (pc' := 153) rfl (hb hby at_149) (by decide) (by decide) k) ?_
    refine own_go (T' := T61) (g' := (mkF m 156 #[.val (.int xk), .val (.ref b1), .val (.ref a_R), .val (.int (1 : Int32)), .val (.int (0 : Int32)), .val (.int (1 : Int32))] [])) (fun _ k => XS.icmpNo X61.here hx rfl (hb hby at_153) rfl (teq ((by decide) : (1 : Int32) = (1 : Int32))).2 k) ?_
    refine own_go (T' := T61) (g' := (mkF m 158 #[.val (.int xk), .val (.ref b1), .val (.ref a_R), .val (.int (1 : Int32)), .val (.int (0 : Int32)), .val (.int (1 : Int32))] [(.int (1 : Int32))])) (fun _ k => XS.iload X61.here hx rfl (hb hby at_156) rfl k) ?_
    refine own_go (T' := T61) (g' := (mkF m 161 #[.val (.int xk), .val (.ref b1), .val (.ref a_R), .val (.int (1 : Int32)), .val (.int (0 : Int32)), .val (.int (1 : Int32))] [])) (fun _ k => XS.ifNo X61.here hx rfl (hb hby at_158) rfl ((if0 _ _).trans (feq ((by decide) : ¬ ((1 : Int32) = (0 : Int32)))).1) k) ?_
    refine own_go (T' := T61) (g' := (mkF m 162 #[.val (.int xk), .val (.ref b1), .val (.ref a_R), .val (.int (1 : Int32)), .val (.int (0 : Int32)), .val (.int (1 : Int32))] [(.int (1 : Int32))])) (fun _ k => XS.iloadN X61.here hx rfl (hb hby at_161) rfl k) ?_
    refine own_go (T' := T61) (g' := (mkF m 165 #[.val (.int xk), .val (.ref b1), .val (.ref a_R), .val (.int (1 : Int32)), .val (.int (0 : Int32)), .val (.int (1 : Int32))] [])) (fun _ k => XS.ifNo X61.here hx rfl (hb hby at_162) rfl ((if0 _ _).trans (feq ((by decide) : ¬ ((1 : Int32) = (0 : Int32)))).1) k) ?_
    refine own_go (T' := T61) (g' := (mkF m 166 #[.val (.int xk), .val (.ref b1), .val (.ref a_R), .val (.int (1 : Int32)), .val (.int (0 : Int32)), .val (.int (1 : Int32))] [(.int (1 : Int32))])) (fun _ k => XS.iconst X61.here hx rfl (hb hby at_165) k) ?_
    refine own_go (T' := T61) (g' := (mkF m 170 #[.val (.int xk), .val (.ref b1), .val (.ref a_R), .val (.int (1 : Int32)), .val (.int (0 : Int32)), .val (.int (1 : Int32))] [(.int (1 : Int32))])) (fun _ k => XS.goto X61.here hx rfl (pc0 := 166) (pc' := 170) rfl (hb hby at_166) (by decide) (by decide) k) ?_
    obtain ⟨fs, hr, hrun, hended, hW, hsame⟩ := X61.leave (v := some (.int (1 : Int32))) (fun h => by rw [Bd.returns] at h; cases h)
    refine own_end (retN X61 hx (t := .boolean) Bd.returns (by simp) (hb hby at_170) hr) hrun hended ⟨_, _, rfl, (?_ : own_QL Z xk a_A a_B a_C a_D a_E a_F a_G a_P a_Q a_R a_K a_L a_X a_Y a_Z a_GIVEN_NAME a_TRANSLITERATED h0 n0 _ T61.heap _), ⟨_, rfl⟩, hW, hsame.mono (by decide) (by decide)⟩
    rw [e61]
    exact ⟨rfl, N61⟩
  · rw [hk]
    refine own_go (T' := T31) (g' := (mkF m 114 #[.val (.int xk), .val (.ref b1), .unset, .unset, .unset, .unset] [(.ref a_K)])) (fun _ k => own_aaload X31 hx hZ e31 Va31 (j := (10 : Int32)) (v := (.ref a_K)) (by decide) rfl rfl (g := (mkF m 113 #[.val (.int xk), .val (.ref b1), .unset, .unset, .unset, .unset] [(.int (10 : Int32)), (.ref b1)])) rfl rfl (hb hby at_113) k) ?_
    refine own_go (T' := T31) (g' := (mkF m 115 #[.val (.int xk), .val (.ref b1), .val (.ref a_K), .unset, .unset, .unset] [])) (fun _ k => XS.astoreN X31.here hx rfl (hb hby at_114) rfl rfl (l' := #[.val (.int xk), .val (.ref b1), .val (.ref a_K), .unset, .unset, .unset]) rfl k) ?_
    refine own_go (T' := T31) (g' := (mkF m 116 #[.val (.int xk), .val (.ref b1), .val (.ref a_K), .unset, .unset, .unset] [(.ref a_K)])) (fun _ k => XS.aloadN X31.here hx rfl (hb hby at_115) rfl rfl k) ?_
    obtain ⟨cq62, kq62, q62a, q62b, q62c⟩ := isOf hZ e31 (E_K.ext O31)
    obtain ⟨_, _, ⟨T62, L62, k62, n62⟩, -, X62, ⟨Lc62, hQ62, l62, y62, z62⟩, st62⟩ := X31.virtualBack hx (y := (⟨"com/example/cilu/cilu/model/Role", "isOfName", "()Z"⟩ : MethodName)) (z := (⟨"com/example/cilu/cilu/model/Role", "isOfName", "()Z"⟩ : MethodName)) hown (mvT hZ (hw _ (List.mem_of_getElem? (i := 35) rfl))) (mvT hZ (hw _ (List.mem_of_getElem? (i := 36) rfl))) (notFace_of_selects (args := #[]) (mvT hZ (hw _ (List.mem_of_getElem? (i := 38) rfl)))) (mvT hZ (hw _ (List.mem_of_getElem? (i := 38) rfl))) (mvT hZ (hw _ (List.mem_of_getElem? (i := 37) rfl))) (by decide) (backOf (W := 0) (own_rN l Z a0 hw [] a_K a_A a_K a_L (0 : Int32) h31 n0 Z31 (S_A.ext O31) (S_K.ext O31) (S_L.ext O31) (by simp [own_name, ne_K_A, ne_K_L])) hZ (hw _ (List.mem_of_getElem? (i := 39) rfl)) (hw _ (List.mem_of_getElem? (i := 3) rfl)) (by decide) (by decide)) q62a q62c (g := (mkF m 116 #[.val (.int xk), .val (.ref b1), .val (.ref a_K), .unset, .unset, .unset] [(.ref a_K)])) rfl (by rw [hml]; rfl) (Steps.refl _) (argsL := []) (rest := []) (lenOf own_pd0 rfl) rfl (by show 2 * 0 + _ ≤ _; exact Nat.le_of_eq rfl) (hb hby at_116) (fun _ _ => ⟨rfl, e31, (by decide : 1 + 0 ≤ _), (by decide : 15 + 0 ≤ _)⟩)
    dsimp only [Pt.U, Pt.locs, Pt.cells, Pt.slots] at X62 l62 y62 z62 st62 hQ62
    subst l62 y62 z62
    obtain ⟨rfl, N62q, e62⟩ := hQ62
    have N62 := Fr.app N31 N62q
    refine own_goT (T' := T62) (g' := (mkF m 119 #[.val (.int xk), .val (.ref b1), .val (.ref a_K), .unset, .unset, .unset] [(.int (0 : Int32))])) st62 ?_
    refine own_go (T' := T62) (g' := (mkF m 120 #[.val (.int xk), .val (.ref b1), .val (.ref a_K), .val (.int (0 : Int32)), .unset, .unset] [])) (fun _ k => XS.istoreN X62.here hx rfl (hb hby at_119) rfl (l' := #[.val (.int xk), .val (.ref b1), .val (.ref a_K), .val (.int (0 : Int32)), .unset, .unset]) rfl k) ?_
    refine own_go (T' := T62) (g' := (mkF m 121 #[.val (.int xk), .val (.ref b1), .val (.ref a_K), .val (.int (0 : Int32)), .unset, .unset] [(.ref a_K)])) (fun _ k => XS.aloadN X62.here hx rfl (hb hby at_120) rfl rfl k) ?_
    refine own_go (T' := T62) (g' := (mkF m 123 #[.val (.int xk), .val (.ref b1), .val (.ref a_K), .val (.int (0 : Int32)), .unset, .unset] [(.int (2147483647 : Int32)), (.ref a_K)])) (fun _ k => X62.ldcInt hx hown (mvT hZ (hw _ (List.mem_of_getElem? (i := 34) rfl))) (g := (mkF m 121 #[.val (.int xk), .val (.ref b1), .val (.ref a_K), .val (.int (0 : Int32)), .unset, .unset] [(.ref a_K)])) rfl (hb hby at_121) _ k) ?_
    obtain ⟨cq63, kq63, q63a, q63b, q63c⟩ := isOf hZ e62 (E_K.ext O31)
    obtain ⟨_, _, ⟨T63, L63, k63, n63⟩, -, X63, ⟨Lc63, hQ63, l63, y63, z63⟩, st63⟩ := X62.virtualBack hx (y := (⟨"com/example/cilu/cilu/model/Role", "takes", "(I)Z"⟩ : MethodName)) (z := (⟨"com/example/cilu/cilu/model/Role", "takes", "(I)Z"⟩ : MethodName)) hown (mvT hZ (hw _ (List.mem_of_getElem? (i := 41) rfl))) (mvT hZ (hw _ (List.mem_of_getElem? (i := 42) rfl))) (notFace_of_selects (args := #[]) (mvT hZ (hw _ (List.mem_of_getElem? (i := 44) rfl)))) (mvT hZ (hw _ (List.mem_of_getElem? (i := 44) rfl))) (mvT hZ (hw _ (List.mem_of_getElem? (i := 43) rfl))) (by decide) (backOf (W := 0) (own_rT l Z a0 hw [] a_K (1 : Int32) (2147483647 : Int32) (1 : Int32) h31 n0 Z31 (F_K_shortest.ext O31) (F_K_longest.ext O31) (by decide)) hZ (hw _ (List.mem_of_getElem? (i := 45) rfl)) (hw _ (List.mem_of_getElem? (i := 3) rfl)) (by decide) (by decide)) q63a q63c (g := (mkF m 123 #[.val (.int xk), .val (.ref b1), .val (.ref a_K), .val (.int (0 : Int32)), .unset, .unset] [(.int (2147483647 : Int32)), (.ref a_K)])) rfl (by rw [hml]; rfl) (Steps.refl _) (argsL := [(.int (2147483647 : Int32))]) (rest := []) (lenOf own_pd1 rfl) rfl (by show 2 * 0 + _ ≤ _; exact Nat.le_of_eq rfl) (hb hby at_123) (fun _ _ => ⟨rfl, e62, (by decide : 1 + 0 ≤ _), (by decide : 15 + 0 ≤ _)⟩)
    dsimp only [Pt.U, Pt.locs, Pt.cells, Pt.slots] at X63 l63 y63 z63 st63 hQ63
    subst l63 y63 z63
    obtain ⟨rfl, N63q, e63⟩ := hQ63
    have N63 := Fr.app N62 N63q
    refine own_goT (T' := T63) (g' := (mkF m 126 #[.val (.int xk), .val (.ref b1), .val (.ref a_K), .val (.int (0 : Int32)), .unset, .unset] [(.int (1 : Int32))])) st63 ?_
    refine own_go (T' := T63) (g' := (mkF m 128 #[.val (.int xk), .val (.ref b1), .val (.ref a_K), .val (.int (0 : Int32)), .val (.int (1 : Int32)), .unset] [])) (fun _ k => XS.istore X63.here hx rfl (hb hby at_126) rfl (l' := #[.val (.int xk), .val (.ref b1), .val (.ref a_K), .val (.int (0 : Int32)), .val (.int (1 : Int32)), .unset]) rfl k) ?_
    refine own_go (T' := T63) (g' := (mkF m 129 #[.val (.int xk), .val (.ref b1), .val (.ref a_K), .val (.int (0 : Int32)), .val (.int (1 : Int32)), .unset] [(.ref a_K)])) (fun _ k => XS.aloadN X63.here hx rfl (hb hby at_128) rfl rfl k) ?_
    obtain ⟨cq64, kq64, q64a, q64b, q64c⟩ := isOf hZ e63 (E_K.ext O31)
    obtain ⟨_, _, ⟨T64, L64, k64, n64⟩, -, X64, ⟨Lc64, hQ64, l64, y64, z64⟩, st64⟩ := X63.virtualBack hx (y := (⟨"com/example/cilu/cilu/model/Role", "pool", "()Lcom/example/cilu/cilu/model/Role$Pool;"⟩ : MethodName)) (z := (⟨"com/example/cilu/cilu/model/Role", "pool", "()Lcom/example/cilu/cilu/model/Role$Pool;"⟩ : MethodName)) hown (mvT hZ (hw _ (List.mem_of_getElem? (i := 50) rfl))) (mvT hZ (hw _ (List.mem_of_getElem? (i := 51) rfl))) (notFace_of_selects (args := #[]) (mvT hZ (hw _ (List.mem_of_getElem? (i := 53) rfl)))) (mvT hZ (hw _ (List.mem_of_getElem? (i := 53) rfl))) (mvT hZ (hw _ (List.mem_of_getElem? (i := 52) rfl))) (by decide) (backOf (W := 0) (own_rPN l Z a0 hw [] a_K h31 n0 Z31 (F_K_pool.ext O31)) hZ (hw _ (List.mem_of_getElem? (i := 54) rfl)) (hw _ (List.mem_of_getElem? (i := 3) rfl)) (by decide) (by decide)) q64a q64c (g := (mkF m 129 #[.val (.int xk), .val (.ref b1), .val (.ref a_K), .val (.int (0 : Int32)), .val (.int (1 : Int32)), .unset] [(.ref a_K)])) rfl (by rw [hml]; rfl) (Steps.refl _) (argsL := []) (rest := []) (lenOf own_pd2 rfl) rfl (by show 2 * 0 + _ ≤ _; exact Nat.le_of_eq rfl) (hb hby at_129) (fun _ _ => ⟨rfl, e63, (by decide : 1 + 0 ≤ _), (by decide : 15 + 0 ≤ _)⟩)
    dsimp only [Pt.U, Pt.locs, Pt.cells, Pt.slots] at X64 l64 y64 z64 st64 hQ64
    subst l64 y64 z64
    obtain ⟨rfl, N64q, e64⟩ := hQ64
    have N64 := Fr.app N63 N64q
    refine own_goT (T' := T64) (g' := (mkF m 132 #[.val (.int xk), .val (.ref b1), .val (.ref a_K), .val (.int (0 : Int32)), .val (.int (1 : Int32)), .unset] [.null])) st64 ?_
    refine own_go (T' := T64) (g' := (mkF m 139 #[.val (.int xk), .val (.ref b1), .val (.ref a_K), .val (.int (0 : Int32)), .val (.int (1 : Int32)), .unset] [])) (fun _ k => XS.ifnullYes X64.here hx rfl (pc0 := 132) (pc' := 139) rfl (hb hby at_132) rfl (by decide) (by decide) k) ?_
    refine own_go (T' := T64) (g' := (mkF m 140 #[.val (.int xk), .val (.ref b1), .val (.ref a_K), .val (.int (0 : Int32)), .val (.int (1 : Int32)), .unset] [(.int (0 : Int32))])) (fun _ k => XS.iconst X64.here hx rfl (hb hby at_139) k) ?_
    refine own_go (T' := T64) (g' := (mkF m 142 #[.val (.int xk), .val (.ref b1), .val (.ref a_K), .val (.int (0 : Int32)), .val (.int (1 : Int32)), .val (.int (0 : Int32))] [])) (fun _ k => XS.istore X64.here hx rfl (hb hby at_140) rfl (l' := #[.val (.int xk), .val (.ref b1), .val (.ref a_K), .val (.int (0 : Int32)), .val (.int (1 : Int32)), .val (.int (0 : Int32))]) rfl k) ?_
    refine own_go (T' := T64) (g' := (mkF m 143 #[.val (.int xk), .val (.ref b1), .val (.ref a_K), .val (.int (0 : Int32)), .val (.int (1 : Int32)), .val (.int (0 : Int32))] [(.int (0 : Int32))])) (fun _ k => XS.iloadN X64.here hx rfl (hb hby at_142) rfl k) ?_
    refine own_go (T' := T64) (g' := (mkF m 145 #[.val (.int xk), .val (.ref b1), .val (.ref a_K), .val (.int (0 : Int32)), .val (.int (1 : Int32)), .val (.int (0 : Int32))] [(.int (1 : Int32)), (.int (0 : Int32))])) (fun _ k => XS.iload X64.here hx rfl (hb hby at_143) rfl k) ?_
    refine own_go (T' := T64) (g' := (mkF m 152 #[.val (.int xk), .val (.ref b1), .val (.ref a_K), .val (.int (0 : Int32)), .val (.int (1 : Int32)), .val (.int (0 : Int32))] [(.int (0 : Int32))])) (fun _ k => XS.ifYes X64.here hx rfl (pc0 := 145) (pc' := 152) rfl (hb hby at_145) rfl ((if0 _ _).trans (feq ((by decide) : ¬ ((1 : Int32) = (0 : Int32)))).2) (by decide) (by decide) k) ?_
    refine own_go (T' := T64) (g' := (mkF m 153 #[.val (.int xk), .val (.ref b1), .val (.ref a_K), .val (.int (0 : Int32)), .val (.int (1 : Int32)), .val (.int (0 : Int32))] [(.int (0 : Int32)), (.int (0 : Int32))])) (fun _ k => XS.iconst X64.here hx rfl (hb hby at_152) k) ?_
    refine own_go (T' := T64) (g' := (mkF m 156 #[.val (.int xk), .val (.ref b1), .val (.ref a_K), .val (.int (0 : Int32)), .val (.int (1 : Int32)), .val (.int (0 : Int32))] [])) (fun _ k => XS.icmpNo X64.here hx rfl (hb hby at_153) rfl (teq ((by decide) : (0 : Int32) = (0 : Int32))).2 k) ?_
    refine own_go (T' := T64) (g' := (mkF m 158 #[.val (.int xk), .val (.ref b1), .val (.ref a_K), .val (.int (0 : Int32)), .val (.int (1 : Int32)), .val (.int (0 : Int32))] [(.int (0 : Int32))])) (fun _ k => XS.iload X64.here hx rfl (hb hby at_156) rfl k) ?_
    refine own_go (T' := T64) (g' := (mkF m 165 #[.val (.int xk), .val (.ref b1), .val (.ref a_K), .val (.int (0 : Int32)), .val (.int (1 : Int32)), .val (.int (0 : Int32))] [])) (fun _ k => XS.ifYes X64.here hx rfl (pc0 := 158) (pc' := 165) rfl (hb hby at_158) rfl ((if0 _ _).trans (teq ((by decide) : (0 : Int32) = (0 : Int32))).1) (by decide) (by decide) k) ?_
    refine own_go (T' := T64) (g' := (mkF m 166 #[.val (.int xk), .val (.ref b1), .val (.ref a_K), .val (.int (0 : Int32)), .val (.int (1 : Int32)), .val (.int (0 : Int32))] [(.int (1 : Int32))])) (fun _ k => XS.iconst X64.here hx rfl (hb hby at_165) k) ?_
    refine own_go (T' := T64) (g' := (mkF m 170 #[.val (.int xk), .val (.ref b1), .val (.ref a_K), .val (.int (0 : Int32)), .val (.int (1 : Int32)), .val (.int (0 : Int32))] [(.int (1 : Int32))])) (fun _ k => XS.goto X64.here hx rfl (pc0 := 166) (pc' := 170) rfl (hb hby at_166) (by decide) (by decide) k) ?_
    obtain ⟨fs, hr, hrun, hended, hW, hsame⟩ := X64.leave (v := some (.int (1 : Int32))) (fun h => by rw [Bd.returns] at h; cases h)
    refine own_end (retN X64 hx (t := .boolean) Bd.returns (by simp) (hb hby at_170) hr) hrun hended ⟨_, _, rfl, (?_ : own_QL Z xk a_A a_B a_C a_D a_E a_F a_G a_P a_Q a_R a_K a_L a_X a_Y a_Z a_GIVEN_NAME a_TRANSLITERATED h0 n0 _ T64.heap _), ⟨_, rfl⟩, hW, hsame.mono (by decide) (by decide)⟩
    rw [e64]
    exact ⟨rfl, N64⟩
  · rw [hk]
    refine own_go (T' := T31) (g' := (mkF m 114 #[.val (.int xk), .val (.ref b1), .unset, .unset, .unset, .unset] [(.ref a_L)])) (fun _ k => own_aaload X31 hx hZ e31 Va31 (j := (11 : Int32)) (v := (.ref a_L)) (by decide) rfl rfl (g := (mkF m 113 #[.val (.int xk), .val (.ref b1), .unset, .unset, .unset, .unset] [(.int (11 : Int32)), (.ref b1)])) rfl rfl (hb hby at_113) k) ?_
    refine own_go (T' := T31) (g' := (mkF m 115 #[.val (.int xk), .val (.ref b1), .val (.ref a_L), .unset, .unset, .unset] [])) (fun _ k => XS.astoreN X31.here hx rfl (hb hby at_114) rfl rfl (l' := #[.val (.int xk), .val (.ref b1), .val (.ref a_L), .unset, .unset, .unset]) rfl k) ?_
    refine own_go (T' := T31) (g' := (mkF m 116 #[.val (.int xk), .val (.ref b1), .val (.ref a_L), .unset, .unset, .unset] [(.ref a_L)])) (fun _ k => XS.aloadN X31.here hx rfl (hb hby at_115) rfl rfl k) ?_
    obtain ⟨cq65, kq65, q65a, q65b, q65c⟩ := isOf hZ e31 (E_L.ext O31)
    obtain ⟨_, _, ⟨T65, L65, k65, n65⟩, -, X65, ⟨Lc65, hQ65, l65, y65, z65⟩, st65⟩ := X31.virtualBack hx (y := (⟨"com/example/cilu/cilu/model/Role", "isOfName", "()Z"⟩ : MethodName)) (z := (⟨"com/example/cilu/cilu/model/Role", "isOfName", "()Z"⟩ : MethodName)) hown (mvT hZ (hw _ (List.mem_of_getElem? (i := 35) rfl))) (mvT hZ (hw _ (List.mem_of_getElem? (i := 36) rfl))) (notFace_of_selects (args := #[]) (mvT hZ (hw _ (List.mem_of_getElem? (i := 38) rfl)))) (mvT hZ (hw _ (List.mem_of_getElem? (i := 38) rfl))) (mvT hZ (hw _ (List.mem_of_getElem? (i := 37) rfl))) (by decide) (backOf (W := 0) (own_rN l Z a0 hw [] a_L a_A a_K a_L (0 : Int32) h31 n0 Z31 (S_A.ext O31) (S_K.ext O31) (S_L.ext O31) (by simp [own_name, ne_L_A, ne_L_K])) hZ (hw _ (List.mem_of_getElem? (i := 39) rfl)) (hw _ (List.mem_of_getElem? (i := 3) rfl)) (by decide) (by decide)) q65a q65c (g := (mkF m 116 #[.val (.int xk), .val (.ref b1), .val (.ref a_L), .unset, .unset, .unset] [(.ref a_L)])) rfl (by rw [hml]; rfl) (Steps.refl _) (argsL := []) (rest := []) (lenOf own_pd0 rfl) rfl (by show 2 * 0 + _ ≤ _; exact Nat.le_of_eq rfl) (hb hby at_116) (fun _ _ => ⟨rfl, e31, (by decide : 1 + 0 ≤ _), (by decide : 15 + 0 ≤ _)⟩)
    dsimp only [Pt.U, Pt.locs, Pt.cells, Pt.slots] at X65 l65 y65 z65 st65 hQ65
    subst l65 y65 z65
    obtain ⟨rfl, N65q, e65⟩ := hQ65
    have N65 := Fr.app N31 N65q
    refine own_goT (T' := T65) (g' := (mkF m 119 #[.val (.int xk), .val (.ref b1), .val (.ref a_L), .unset, .unset, .unset] [(.int (0 : Int32))])) st65 ?_
    refine own_go (T' := T65) (g' := (mkF m 120 #[.val (.int xk), .val (.ref b1), .val (.ref a_L), .val (.int (0 : Int32)), .unset, .unset] [])) (fun _ k => XS.istoreN X65.here hx rfl (hb hby at_119) rfl (l' := #[.val (.int xk), .val (.ref b1), .val (.ref a_L), .val (.int (0 : Int32)), .unset, .unset]) rfl k) ?_
    refine own_go (T' := T65) (g' := (mkF m 121 #[.val (.int xk), .val (.ref b1), .val (.ref a_L), .val (.int (0 : Int32)), .unset, .unset] [(.ref a_L)])) (fun _ k => XS.aloadN X65.here hx rfl (hb hby at_120) rfl rfl k) ?_
    refine own_go (T' := T65) (g' := (mkF m 123 #[.val (.int xk), .val (.ref b1), .val (.ref a_L), .val (.int (0 : Int32)), .unset, .unset] [(.int (2147483647 : Int32)), (.ref a_L)])) (fun _ k => X65.ldcInt hx hown (mvT hZ (hw _ (List.mem_of_getElem? (i := 34) rfl))) (g := (mkF m 121 #[.val (.int xk), .val (.ref b1), .val (.ref a_L), .val (.int (0 : Int32)), .unset, .unset] [(.ref a_L)])) rfl (hb hby at_121) _ k) ?_
    obtain ⟨cq66, kq66, q66a, q66b, q66c⟩ := isOf hZ e65 (E_L.ext O31)
    obtain ⟨_, _, ⟨T66, L66, k66, n66⟩, -, X66, ⟨Lc66, hQ66, l66, y66, z66⟩, st66⟩ := X65.virtualBack hx (y := (⟨"com/example/cilu/cilu/model/Role", "takes", "(I)Z"⟩ : MethodName)) (z := (⟨"com/example/cilu/cilu/model/Role", "takes", "(I)Z"⟩ : MethodName)) hown (mvT hZ (hw _ (List.mem_of_getElem? (i := 41) rfl))) (mvT hZ (hw _ (List.mem_of_getElem? (i := 42) rfl))) (notFace_of_selects (args := #[]) (mvT hZ (hw _ (List.mem_of_getElem? (i := 44) rfl)))) (mvT hZ (hw _ (List.mem_of_getElem? (i := 44) rfl))) (mvT hZ (hw _ (List.mem_of_getElem? (i := 43) rfl))) (by decide) (backOf (W := 0) (own_rT l Z a0 hw [] a_L (1 : Int32) (2147483647 : Int32) (1 : Int32) h31 n0 Z31 (F_L_shortest.ext O31) (F_L_longest.ext O31) (by decide)) hZ (hw _ (List.mem_of_getElem? (i := 45) rfl)) (hw _ (List.mem_of_getElem? (i := 3) rfl)) (by decide) (by decide)) q66a q66c (g := (mkF m 123 #[.val (.int xk), .val (.ref b1), .val (.ref a_L), .val (.int (0 : Int32)), .unset, .unset] [(.int (2147483647 : Int32)), (.ref a_L)])) rfl (by rw [hml]; rfl) (Steps.refl _) (argsL := [(.int (2147483647 : Int32))]) (rest := []) (lenOf own_pd1 rfl) rfl (by show 2 * 0 + _ ≤ _; exact Nat.le_of_eq rfl) (hb hby at_123) (fun _ _ => ⟨rfl, e65, (by decide : 1 + 0 ≤ _), (by decide : 15 + 0 ≤ _)⟩)
    dsimp only [Pt.U, Pt.locs, Pt.cells, Pt.slots] at X66 l66 y66 z66 st66 hQ66
    subst l66 y66 z66
    obtain ⟨rfl, N66q, e66⟩ := hQ66
    have N66 := Fr.app N65 N66q
    refine own_goT (T' := T66) (g' := (mkF m 126 #[.val (.int xk), .val (.ref b1), .val (.ref a_L), .val (.int (0 : Int32)), .unset, .unset] [(.int (1 : Int32))])) st66 ?_
    refine own_go (T' := T66) (g' := (mkF m 128 #[.val (.int xk), .val (.ref b1), .val (.ref a_L), .val (.int (0 : Int32)), .val (.int (1 : Int32)), .unset] [])) (fun _ k => XS.istore X66.here hx rfl (hb hby at_126) rfl (l' := #[.val (.int xk), .val (.ref b1), .val (.ref a_L), .val (.int (0 : Int32)), .val (.int (1 : Int32)), .unset]) rfl k) ?_
    refine own_go (T' := T66) (g' := (mkF m 129 #[.val (.int xk), .val (.ref b1), .val (.ref a_L), .val (.int (0 : Int32)), .val (.int (1 : Int32)), .unset] [(.ref a_L)])) (fun _ k => XS.aloadN X66.here hx rfl (hb hby at_128) rfl rfl k) ?_
    obtain ⟨cq67, kq67, q67a, q67b, q67c⟩ := isOf hZ e66 (E_L.ext O31)
    obtain ⟨_, _, ⟨T67, L67, k67, n67⟩, -, X67, ⟨Lc67, hQ67, l67, y67, z67⟩, st67⟩ := X66.virtualBack hx (y := (⟨"com/example/cilu/cilu/model/Role", "pool", "()Lcom/example/cilu/cilu/model/Role$Pool;"⟩ : MethodName)) (z := (⟨"com/example/cilu/cilu/model/Role", "pool", "()Lcom/example/cilu/cilu/model/Role$Pool;"⟩ : MethodName)) hown (mvT hZ (hw _ (List.mem_of_getElem? (i := 50) rfl))) (mvT hZ (hw _ (List.mem_of_getElem? (i := 51) rfl))) (notFace_of_selects (args := #[]) (mvT hZ (hw _ (List.mem_of_getElem? (i := 53) rfl)))) (mvT hZ (hw _ (List.mem_of_getElem? (i := 53) rfl))) (mvT hZ (hw _ (List.mem_of_getElem? (i := 52) rfl))) (by decide) (backOf (W := 0) (own_rPN l Z a0 hw [] a_L h31 n0 Z31 (F_L_pool.ext O31)) hZ (hw _ (List.mem_of_getElem? (i := 54) rfl)) (hw _ (List.mem_of_getElem? (i := 3) rfl)) (by decide) (by decide)) q67a q67c (g := (mkF m 129 #[.val (.int xk), .val (.ref b1), .val (.ref a_L), .val (.int (0 : Int32)), .val (.int (1 : Int32)), .unset] [(.ref a_L)])) rfl (by rw [hml]; rfl) (Steps.refl _) (argsL := []) (rest := []) (lenOf own_pd2 rfl) rfl (by show 2 * 0 + _ ≤ _; exact Nat.le_of_eq rfl) (hb hby at_129) (fun _ _ => ⟨rfl, e66, (by decide : 1 + 0 ≤ _), (by decide : 15 + 0 ≤ _)⟩)
    dsimp only [Pt.U, Pt.locs, Pt.cells, Pt.slots] at X67 l67 y67 z67 st67 hQ67
    subst l67 y67 z67
    obtain ⟨rfl, N67q, e67⟩ := hQ67
    have N67 := Fr.app N66 N67q
    refine own_goT (T' := T67) (g' := (mkF m 132 #[.val (.int xk), .val (.ref b1), .val (.ref a_L), .val (.int (0 : Int32)), .val (.int (1 : Int32)), .unset] [.null])) st67 ?_
    refine own_go (T' := T67) (g' := (mkF m 139 #[.val (.int xk), .val (.ref b1), .val (.ref a_L), .val (.int (0 : Int32)), .val (.int (1 : Int32)), .unset] [])) (fun _ k => XS.ifnullYes X67.here hx rfl (pc0 := 132) (pc' := 139) rfl (hb hby at_132) rfl (by decide) (by decide) k) ?_
    refine own_go (T' := T67) (g' := (mkF m 140 #[.val (.int xk), .val (.ref b1), .val (.ref a_L), .val (.int (0 : Int32)), .val (.int (1 : Int32)), .unset] [(.int (0 : Int32))])) (fun _ k => XS.iconst X67.here hx rfl (hb hby at_139) k) ?_
    refine own_go (T' := T67) (g' := (mkF m 142 #[.val (.int xk), .val (.ref b1), .val (.ref a_L), .val (.int (0 : Int32)), .val (.int (1 : Int32)), .val (.int (0 : Int32))] [])) (fun _ k => XS.istore X67.here hx rfl (hb hby at_140) rfl (l' := #[.val (.int xk), .val (.ref b1), .val (.ref a_L), .val (.int (0 : Int32)), .val (.int (1 : Int32)), .val (.int (0 : Int32))]) rfl k) ?_
    refine own_go (T' := T67) (g' := (mkF m 143 #[.val (.int xk), .val (.ref b1), .val (.ref a_L), .val (.int (0 : Int32)), .val (.int (1 : Int32)), .val (.int (0 : Int32))] [(.int (0 : Int32))])) (fun _ k => XS.iloadN X67.here hx rfl (hb hby at_142) rfl k) ?_
    refine own_go (T' := T67) (g' := (mkF m 145 #[.val (.int xk), .val (.ref b1), .val (.ref a_L), .val (.int (0 : Int32)), .val (.int (1 : Int32)), .val (.int (0 : Int32))] [(.int (1 : Int32)), (.int (0 : Int32))])) (fun _ k => XS.iload X67.here hx rfl (hb hby at_143) rfl k) ?_
    refine own_go (T' := T67) (g' := (mkF m 152 #[.val (.int xk), .val (.ref b1), .val (.ref a_L), .val (.int (0 : Int32)), .val (.int (1 : Int32)), .val (.int (0 : Int32))] [(.int (0 : Int32))])) (fun _ k => XS.ifYes X67.here hx rfl (pc0 := 145) (pc' := 152) rfl (hb hby at_145) rfl ((if0 _ _).trans (feq ((by decide) : ¬ ((1 : Int32) = (0 : Int32)))).2) (by decide) (by decide) k) ?_
    refine own_go (T' := T67) (g' := (mkF m 153 #[.val (.int xk), .val (.ref b1), .val (.ref a_L), .val (.int (0 : Int32)), .val (.int (1 : Int32)), .val (.int (0 : Int32))] [(.int (0 : Int32)), (.int (0 : Int32))])) (fun _ k => XS.iconst X67.here hx rfl (hb hby at_152) k) ?_
    refine own_go (T' := T67) (g' := (mkF m 156 #[.val (.int xk), .val (.ref b1), .val (.ref a_L), .val (.int (0 : Int32)), .val (.int (1 : Int32)), .val (.int (0 : Int32))] [])) (fun _ k => XS.icmpNo X67.here hx rfl (hb hby at_153) rfl (teq ((by decide) : (0 : Int32) = (0 : Int32))).2 k) ?_
    refine own_go (T' := T67) (g' := (mkF m 158 #[.val (.int xk), .val (.ref b1), .val (.ref a_L), .val (.int (0 : Int32)), .val (.int (1 : Int32)), .val (.int (0 : Int32))] [(.int (0 : Int32))])) (fun _ k => XS.iload X67.here hx rfl (hb hby at_156) rfl k) ?_
    refine own_go (T' := T67) (g' := (mkF m 165 #[.val (.int xk), .val (.ref b1), .val (.ref a_L), .val (.int (0 : Int32)), .val (.int (1 : Int32)), .val (.int (0 : Int32))] [])) (fun _ k => XS.ifYes X67.here hx rfl (pc0 := 158) (pc' := 165) rfl (hb hby at_158) rfl ((if0 _ _).trans (teq ((by decide) : (0 : Int32) = (0 : Int32))).1) (by decide) (by decide) k) ?_
    refine own_go (T' := T67) (g' := (mkF m 166 #[.val (.int xk), .val (.ref b1), .val (.ref a_L), .val (.int (0 : Int32)), .val (.int (1 : Int32)), .val (.int (0 : Int32))] [(.int (1 : Int32))])) (fun _ k => XS.iconst X67.here hx rfl (hb hby at_165) k) ?_
    refine own_go (T' := T67) (g' := (mkF m 170 #[.val (.int xk), .val (.ref b1), .val (.ref a_L), .val (.int (0 : Int32)), .val (.int (1 : Int32)), .val (.int (0 : Int32))] [(.int (1 : Int32))])) (fun _ k => XS.goto X67.here hx rfl (pc0 := 166) (pc' := 170) rfl (hb hby at_166) (by decide) (by decide) k) ?_
    obtain ⟨fs, hr, hrun, hended, hW, hsame⟩ := X67.leave (v := some (.int (1 : Int32))) (fun h => by rw [Bd.returns] at h; cases h)
    refine own_end (retN X67 hx (t := .boolean) Bd.returns (by simp) (hb hby at_170) hr) hrun hended ⟨_, _, rfl, (?_ : own_QL Z xk a_A a_B a_C a_D a_E a_F a_G a_P a_Q a_R a_K a_L a_X a_Y a_Z a_GIVEN_NAME a_TRANSLITERATED h0 n0 _ T67.heap _), ⟨_, rfl⟩, hW, hsame.mono (by decide) (by decide)⟩
    rw [e67]
    exact ⟨rfl, N67⟩
  · rw [hk]
    refine own_go (T' := T31) (g' := (mkF m 114 #[.val (.int xk), .val (.ref b1), .unset, .unset, .unset, .unset] [(.ref a_X)])) (fun _ k => own_aaload X31 hx hZ e31 Va31 (j := (12 : Int32)) (v := (.ref a_X)) (by decide) rfl rfl (g := (mkF m 113 #[.val (.int xk), .val (.ref b1), .unset, .unset, .unset, .unset] [(.int (12 : Int32)), (.ref b1)])) rfl rfl (hb hby at_113) k) ?_
    refine own_go (T' := T31) (g' := (mkF m 115 #[.val (.int xk), .val (.ref b1), .val (.ref a_X), .unset, .unset, .unset] [])) (fun _ k => XS.astoreN X31.here hx rfl (hb hby at_114) rfl rfl (l' := #[.val (.int xk), .val (.ref b1), .val (.ref a_X), .unset, .unset, .unset]) rfl k) ?_
    refine own_go (T' := T31) (g' := (mkF m 116 #[.val (.int xk), .val (.ref b1), .val (.ref a_X), .unset, .unset, .unset] [(.ref a_X)])) (fun _ k => XS.aloadN X31.here hx rfl (hb hby at_115) rfl rfl k) ?_
    obtain ⟨cq68, kq68, q68a, q68b, q68c⟩ := isOf hZ e31 (E_X.ext O31)
    obtain ⟨_, _, ⟨T68, L68, k68, n68⟩, -, X68, ⟨Lc68, hQ68, l68, y68, z68⟩, st68⟩ := X31.virtualBack hx (y := (⟨"com/example/cilu/cilu/model/Role", "isOfName", "()Z"⟩ : MethodName)) (z := (⟨"com/example/cilu/cilu/model/Role", "isOfName", "()Z"⟩ : MethodName)) hown (mvT hZ (hw _ (List.mem_of_getElem? (i := 35) rfl))) (mvT hZ (hw _ (List.mem_of_getElem? (i := 36) rfl))) (notFace_of_selects (args := #[]) (mvT hZ (hw _ (List.mem_of_getElem? (i := 38) rfl)))) (mvT hZ (hw _ (List.mem_of_getElem? (i := 38) rfl))) (mvT hZ (hw _ (List.mem_of_getElem? (i := 37) rfl))) (by decide) (backOf (W := 0) (own_rN l Z a0 hw [] a_X a_A a_K a_L (1 : Int32) h31 n0 Z31 (S_A.ext O31) (S_K.ext O31) (S_L.ext O31) (by simp [own_name, ne_X_A, ne_X_K, ne_X_L])) hZ (hw _ (List.mem_of_getElem? (i := 39) rfl)) (hw _ (List.mem_of_getElem? (i := 3) rfl)) (by decide) (by decide)) q68a q68c (g := (mkF m 116 #[.val (.int xk), .val (.ref b1), .val (.ref a_X), .unset, .unset, .unset] [(.ref a_X)])) rfl (by rw [hml]; rfl) (Steps.refl _) (argsL := []) (rest := []) (lenOf own_pd0 rfl) rfl (by show 2 * 0 + _ ≤ _; exact Nat.le_of_eq rfl) (hb hby at_116) (fun _ _ => ⟨rfl, e31, (by decide : 1 + 0 ≤ _), (by decide : 15 + 0 ≤ _)⟩)
    dsimp only [Pt.U, Pt.locs, Pt.cells, Pt.slots] at X68 l68 y68 z68 st68 hQ68
    subst l68 y68 z68
    obtain ⟨rfl, N68q, e68⟩ := hQ68
    have N68 := Fr.app N31 N68q
    refine own_goT (T' := T68) (g' := (mkF m 119 #[.val (.int xk), .val (.ref b1), .val (.ref a_X), .unset, .unset, .unset] [(.int (1 : Int32))])) st68 ?_
    refine own_go (T' := T68) (g' := (mkF m 120 #[.val (.int xk), .val (.ref b1), .val (.ref a_X), .val (.int (1 : Int32)), .unset, .unset] [])) (fun _ k => XS.istoreN X68.here hx rfl (hb hby at_119) rfl (l' := #[.val (.int xk), .val (.ref b1), .val (.ref a_X), .val (.int (1 : Int32)), .unset, .unset]) rfl k) ?_
    refine own_go (T' := T68) (g' := (mkF m 121 #[.val (.int xk), .val (.ref b1), .val (.ref a_X), .val (.int (1 : Int32)), .unset, .unset] [(.ref a_X)])) (fun _ k => XS.aloadN X68.here hx rfl (hb hby at_120) rfl rfl k) ?_
    refine own_go (T' := T68) (g' := (mkF m 123 #[.val (.int xk), .val (.ref b1), .val (.ref a_X), .val (.int (1 : Int32)), .unset, .unset] [(.int (2147483647 : Int32)), (.ref a_X)])) (fun _ k => X68.ldcInt hx hown (mvT hZ (hw _ (List.mem_of_getElem? (i := 34) rfl))) (g := (mkF m 121 #[.val (.int xk), .val (.ref b1), .val (.ref a_X), .val (.int (1 : Int32)), .unset, .unset] [(.ref a_X)])) rfl (hb hby at_121) _ k) ?_
    obtain ⟨cq69, kq69, q69a, q69b, q69c⟩ := isOf hZ e68 (E_X.ext O31)
    obtain ⟨_, _, ⟨T69, L69, k69, n69⟩, -, X69, ⟨Lc69, hQ69, l69, y69, z69⟩, st69⟩ := X68.virtualBack hx (y := (⟨"com/example/cilu/cilu/model/Role", "takes", "(I)Z"⟩ : MethodName)) (z := (⟨"com/example/cilu/cilu/model/Role", "takes", "(I)Z"⟩ : MethodName)) hown (mvT hZ (hw _ (List.mem_of_getElem? (i := 41) rfl))) (mvT hZ (hw _ (List.mem_of_getElem? (i := 42) rfl))) (notFace_of_selects (args := #[]) (mvT hZ (hw _ (List.mem_of_getElem? (i := 44) rfl)))) (mvT hZ (hw _ (List.mem_of_getElem? (i := 44) rfl))) (mvT hZ (hw _ (List.mem_of_getElem? (i := 43) rfl))) (by decide) (backOf (W := 0) (own_rT l Z a0 hw [] a_X (2 : Int32) (2 : Int32) (0 : Int32) h31 n0 Z31 (F_X_shortest.ext O31) (F_X_longest.ext O31) (by decide)) hZ (hw _ (List.mem_of_getElem? (i := 45) rfl)) (hw _ (List.mem_of_getElem? (i := 3) rfl)) (by decide) (by decide)) q69a q69c (g := (mkF m 123 #[.val (.int xk), .val (.ref b1), .val (.ref a_X), .val (.int (1 : Int32)), .unset, .unset] [(.int (2147483647 : Int32)), (.ref a_X)])) rfl (by rw [hml]; rfl) (Steps.refl _) (argsL := [(.int (2147483647 : Int32))]) (rest := []) (lenOf own_pd1 rfl) rfl (by show 2 * 0 + _ ≤ _; exact Nat.le_of_eq rfl) (hb hby at_123) (fun _ _ => ⟨rfl, e68, (by decide : 1 + 0 ≤ _), (by decide : 15 + 0 ≤ _)⟩)
    dsimp only [Pt.U, Pt.locs, Pt.cells, Pt.slots] at X69 l69 y69 z69 st69 hQ69
    subst l69 y69 z69
    obtain ⟨rfl, N69q, e69⟩ := hQ69
    have N69 := Fr.app N68 N69q
    refine own_goT (T' := T69) (g' := (mkF m 126 #[.val (.int xk), .val (.ref b1), .val (.ref a_X), .val (.int (1 : Int32)), .unset, .unset] [(.int (0 : Int32))])) st69 ?_
    refine own_go (T' := T69) (g' := (mkF m 128 #[.val (.int xk), .val (.ref b1), .val (.ref a_X), .val (.int (1 : Int32)), .val (.int (0 : Int32)), .unset] [])) (fun _ k => XS.istore X69.here hx rfl (hb hby at_126) rfl (l' := #[.val (.int xk), .val (.ref b1), .val (.ref a_X), .val (.int (1 : Int32)), .val (.int (0 : Int32)), .unset]) rfl k) ?_
    refine own_go (T' := T69) (g' := (mkF m 129 #[.val (.int xk), .val (.ref b1), .val (.ref a_X), .val (.int (1 : Int32)), .val (.int (0 : Int32)), .unset] [(.ref a_X)])) (fun _ k => XS.aloadN X69.here hx rfl (hb hby at_128) rfl rfl k) ?_
    obtain ⟨cq70, kq70, q70a, q70b, q70c⟩ := isOf hZ e69 (E_X.ext O31)
    obtain ⟨_, _, ⟨T70, L70, k70, n70⟩, -, X70, ⟨Lc70, hQ70, l70, y70, z70⟩, st70⟩ := X69.virtualBack hx (y := (⟨"com/example/cilu/cilu/model/Role", "pool", "()Lcom/example/cilu/cilu/model/Role$Pool;"⟩ : MethodName)) (z := (⟨"com/example/cilu/cilu/model/Role", "pool", "()Lcom/example/cilu/cilu/model/Role$Pool;"⟩ : MethodName)) hown (mvT hZ (hw _ (List.mem_of_getElem? (i := 50) rfl))) (mvT hZ (hw _ (List.mem_of_getElem? (i := 51) rfl))) (notFace_of_selects (args := #[]) (mvT hZ (hw _ (List.mem_of_getElem? (i := 53) rfl)))) (mvT hZ (hw _ (List.mem_of_getElem? (i := 53) rfl))) (mvT hZ (hw _ (List.mem_of_getElem? (i := 52) rfl))) (by decide) (backOf (W := 0) (own_rPN l Z a0 hw [] a_X h31 n0 Z31 (F_X_pool.ext O31)) hZ (hw _ (List.mem_of_getElem? (i := 54) rfl)) (hw _ (List.mem_of_getElem? (i := 3) rfl)) (by decide) (by decide)) q70a q70c (g := (mkF m 129 #[.val (.int xk), .val (.ref b1), .val (.ref a_X), .val (.int (1 : Int32)), .val (.int (0 : Int32)), .unset] [(.ref a_X)])) rfl (by rw [hml]; rfl) (Steps.refl _) (argsL := []) (rest := []) (lenOf own_pd2 rfl) rfl (by show 2 * 0 + _ ≤ _; exact Nat.le_of_eq rfl) (hb hby at_129) (fun _ _ => ⟨rfl, e69, (by decide : 1 + 0 ≤ _), (by decide : 15 + 0 ≤ _)⟩)
    dsimp only [Pt.U, Pt.locs, Pt.cells, Pt.slots] at X70 l70 y70 z70 st70 hQ70
    subst l70 y70 z70
    obtain ⟨rfl, N70q, e70⟩ := hQ70
    have N70 := Fr.app N69 N70q
    refine own_goT (T' := T70) (g' := (mkF m 132 #[.val (.int xk), .val (.ref b1), .val (.ref a_X), .val (.int (1 : Int32)), .val (.int (0 : Int32)), .unset] [.null])) st70 ?_
    refine own_go (T' := T70) (g' := (mkF m 139 #[.val (.int xk), .val (.ref b1), .val (.ref a_X), .val (.int (1 : Int32)), .val (.int (0 : Int32)), .unset] [])) (fun _ k => XS.ifnullYes X70.here hx rfl (pc0 := 132) (pc' := 139) rfl (hb hby at_132) rfl (by decide) (by decide) k) ?_
    refine own_go (T' := T70) (g' := (mkF m 140 #[.val (.int xk), .val (.ref b1), .val (.ref a_X), .val (.int (1 : Int32)), .val (.int (0 : Int32)), .unset] [(.int (0 : Int32))])) (fun _ k => XS.iconst X70.here hx rfl (hb hby at_139) k) ?_
    refine own_go (T' := T70) (g' := (mkF m 142 #[.val (.int xk), .val (.ref b1), .val (.ref a_X), .val (.int (1 : Int32)), .val (.int (0 : Int32)), .val (.int (0 : Int32))] [])) (fun _ k => XS.istore X70.here hx rfl (hb hby at_140) rfl (l' := #[.val (.int xk), .val (.ref b1), .val (.ref a_X), .val (.int (1 : Int32)), .val (.int (0 : Int32)), .val (.int (0 : Int32))]) rfl k) ?_
    refine own_go (T' := T70) (g' := (mkF m 143 #[.val (.int xk), .val (.ref b1), .val (.ref a_X), .val (.int (1 : Int32)), .val (.int (0 : Int32)), .val (.int (0 : Int32))] [(.int (1 : Int32))])) (fun _ k => XS.iloadN X70.here hx rfl (hb hby at_142) rfl k) ?_
    refine own_go (T' := T70) (g' := (mkF m 145 #[.val (.int xk), .val (.ref b1), .val (.ref a_X), .val (.int (1 : Int32)), .val (.int (0 : Int32)), .val (.int (0 : Int32))] [(.int (0 : Int32)), (.int (1 : Int32))])) (fun _ k => XS.iload X70.here hx rfl (hb hby at_143) rfl k) ?_
    refine own_go (T' := T70) (g' := (mkF m 148 #[.val (.int xk), .val (.ref b1), .val (.ref a_X), .val (.int (1 : Int32)), .val (.int (0 : Int32)), .val (.int (0 : Int32))] [(.int (1 : Int32))])) (fun _ k => XS.ifNo X70.here hx rfl (hb hby at_145) rfl ((if0 _ _).trans (teq ((by decide) : (0 : Int32) = (0 : Int32))).2) k) ?_
    refine own_go (T' := T70) (g' := (mkF m 149 #[.val (.int xk), .val (.ref b1), .val (.ref a_X), .val (.int (1 : Int32)), .val (.int (0 : Int32)), .val (.int (0 : Int32))] [(.int (1 : Int32)), (.int (1 : Int32))])) (fun _ k => XS.iconst X70.here hx rfl (hb hby at_148) k) ?_
    refine own_go (T' := T70) (g' := (mkF m 153 #[.val (.int xk), .val (.ref b1), .val (.ref a_X), .val (.int (1 : Int32)), .val (.int (0 : Int32)), .val (.int (0 : Int32))] [(.int (1 : Int32)), (.int (1 : Int32))])) (fun _ k => XS.goto X70.here hx rfl (pc0 := 149) (pc' := 153) rfl (hb hby at_149) (by decide) (by decide) k) ?_
    refine own_go (T' := T70) (g' := (mkF m 156 #[.val (.int xk), .val (.ref b1), .val (.ref a_X), .val (.int (1 : Int32)), .val (.int (0 : Int32)), .val (.int (0 : Int32))] [])) (fun _ k => XS.icmpNo X70.here hx rfl (hb hby at_153) rfl (teq ((by decide) : (1 : Int32) = (1 : Int32))).2 k) ?_
    refine own_go (T' := T70) (g' := (mkF m 158 #[.val (.int xk), .val (.ref b1), .val (.ref a_X), .val (.int (1 : Int32)), .val (.int (0 : Int32)), .val (.int (0 : Int32))] [(.int (0 : Int32))])) (fun _ k => XS.iload X70.here hx rfl (hb hby at_156) rfl k) ?_
    refine own_go (T' := T70) (g' := (mkF m 165 #[.val (.int xk), .val (.ref b1), .val (.ref a_X), .val (.int (1 : Int32)), .val (.int (0 : Int32)), .val (.int (0 : Int32))] [])) (fun _ k => XS.ifYes X70.here hx rfl (pc0 := 158) (pc' := 165) rfl (hb hby at_158) rfl ((if0 _ _).trans (teq ((by decide) : (0 : Int32) = (0 : Int32))).1) (by decide) (by decide) k) ?_
    refine own_go (T' := T70) (g' := (mkF m 166 #[.val (.int xk), .val (.ref b1), .val (.ref a_X), .val (.int (1 : Int32)), .val (.int (0 : Int32)), .val (.int (0 : Int32))] [(.int (1 : Int32))])) (fun _ k => XS.iconst X70.here hx rfl (hb hby at_165) k) ?_
    refine own_go (T' := T70) (g' := (mkF m 170 #[.val (.int xk), .val (.ref b1), .val (.ref a_X), .val (.int (1 : Int32)), .val (.int (0 : Int32)), .val (.int (0 : Int32))] [(.int (1 : Int32))])) (fun _ k => XS.goto X70.here hx rfl (pc0 := 166) (pc' := 170) rfl (hb hby at_166) (by decide) (by decide) k) ?_
    obtain ⟨fs, hr, hrun, hended, hW, hsame⟩ := X70.leave (v := some (.int (1 : Int32))) (fun h => by rw [Bd.returns] at h; cases h)
    refine own_end (retN X70 hx (t := .boolean) Bd.returns (by simp) (hb hby at_170) hr) hrun hended ⟨_, _, rfl, (?_ : own_QL Z xk a_A a_B a_C a_D a_E a_F a_G a_P a_Q a_R a_K a_L a_X a_Y a_Z a_GIVEN_NAME a_TRANSLITERATED h0 n0 _ T70.heap _), ⟨_, rfl⟩, hW, hsame.mono (by decide) (by decide)⟩
    rw [e70]
    exact ⟨rfl, N70⟩
  · rw [hk]
    refine own_go (T' := T31) (g' := (mkF m 114 #[.val (.int xk), .val (.ref b1), .unset, .unset, .unset, .unset] [(.ref a_Y)])) (fun _ k => own_aaload X31 hx hZ e31 Va31 (j := (13 : Int32)) (v := (.ref a_Y)) (by decide) rfl rfl (g := (mkF m 113 #[.val (.int xk), .val (.ref b1), .unset, .unset, .unset, .unset] [(.int (13 : Int32)), (.ref b1)])) rfl rfl (hb hby at_113) k) ?_
    refine own_go (T' := T31) (g' := (mkF m 115 #[.val (.int xk), .val (.ref b1), .val (.ref a_Y), .unset, .unset, .unset] [])) (fun _ k => XS.astoreN X31.here hx rfl (hb hby at_114) rfl rfl (l' := #[.val (.int xk), .val (.ref b1), .val (.ref a_Y), .unset, .unset, .unset]) rfl k) ?_
    refine own_go (T' := T31) (g' := (mkF m 116 #[.val (.int xk), .val (.ref b1), .val (.ref a_Y), .unset, .unset, .unset] [(.ref a_Y)])) (fun _ k => XS.aloadN X31.here hx rfl (hb hby at_115) rfl rfl k) ?_
    obtain ⟨cq71, kq71, q71a, q71b, q71c⟩ := isOf hZ e31 (E_Y.ext O31)
    obtain ⟨_, _, ⟨T71, L71, k71, n71⟩, -, X71, ⟨Lc71, hQ71, l71, y71, z71⟩, st71⟩ := X31.virtualBack hx (y := (⟨"com/example/cilu/cilu/model/Role", "isOfName", "()Z"⟩ : MethodName)) (z := (⟨"com/example/cilu/cilu/model/Role", "isOfName", "()Z"⟩ : MethodName)) hown (mvT hZ (hw _ (List.mem_of_getElem? (i := 35) rfl))) (mvT hZ (hw _ (List.mem_of_getElem? (i := 36) rfl))) (notFace_of_selects (args := #[]) (mvT hZ (hw _ (List.mem_of_getElem? (i := 38) rfl)))) (mvT hZ (hw _ (List.mem_of_getElem? (i := 38) rfl))) (mvT hZ (hw _ (List.mem_of_getElem? (i := 37) rfl))) (by decide) (backOf (W := 0) (own_rN l Z a0 hw [] a_Y a_A a_K a_L (1 : Int32) h31 n0 Z31 (S_A.ext O31) (S_K.ext O31) (S_L.ext O31) (by simp [own_name, ne_Y_A, ne_Y_K, ne_Y_L])) hZ (hw _ (List.mem_of_getElem? (i := 39) rfl)) (hw _ (List.mem_of_getElem? (i := 3) rfl)) (by decide) (by decide)) q71a q71c (g := (mkF m 116 #[.val (.int xk), .val (.ref b1), .val (.ref a_Y), .unset, .unset, .unset] [(.ref a_Y)])) rfl (by rw [hml]; rfl) (Steps.refl _) (argsL := []) (rest := []) (lenOf own_pd0 rfl) rfl (by show 2 * 0 + _ ≤ _; exact Nat.le_of_eq rfl) (hb hby at_116) (fun _ _ => ⟨rfl, e31, (by decide : 1 + 0 ≤ _), (by decide : 15 + 0 ≤ _)⟩)
    dsimp only [Pt.U, Pt.locs, Pt.cells, Pt.slots] at X71 l71 y71 z71 st71 hQ71
    subst l71 y71 z71
    obtain ⟨rfl, N71q, e71⟩ := hQ71
    have N71 := Fr.app N31 N71q
    refine own_goT (T' := T71) (g' := (mkF m 119 #[.val (.int xk), .val (.ref b1), .val (.ref a_Y), .unset, .unset, .unset] [(.int (1 : Int32))])) st71 ?_
    refine own_go (T' := T71) (g' := (mkF m 120 #[.val (.int xk), .val (.ref b1), .val (.ref a_Y), .val (.int (1 : Int32)), .unset, .unset] [])) (fun _ k => XS.istoreN X71.here hx rfl (hb hby at_119) rfl (l' := #[.val (.int xk), .val (.ref b1), .val (.ref a_Y), .val (.int (1 : Int32)), .unset, .unset]) rfl k) ?_
    refine own_go (T' := T71) (g' := (mkF m 121 #[.val (.int xk), .val (.ref b1), .val (.ref a_Y), .val (.int (1 : Int32)), .unset, .unset] [(.ref a_Y)])) (fun _ k => XS.aloadN X71.here hx rfl (hb hby at_120) rfl rfl k) ?_
    refine own_go (T' := T71) (g' := (mkF m 123 #[.val (.int xk), .val (.ref b1), .val (.ref a_Y), .val (.int (1 : Int32)), .unset, .unset] [(.int (2147483647 : Int32)), (.ref a_Y)])) (fun _ k => X71.ldcInt hx hown (mvT hZ (hw _ (List.mem_of_getElem? (i := 34) rfl))) (g := (mkF m 121 #[.val (.int xk), .val (.ref b1), .val (.ref a_Y), .val (.int (1 : Int32)), .unset, .unset] [(.ref a_Y)])) rfl (hb hby at_121) _ k) ?_
    obtain ⟨cq72, kq72, q72a, q72b, q72c⟩ := isOf hZ e71 (E_Y.ext O31)
    obtain ⟨_, _, ⟨T72, L72, k72, n72⟩, -, X72, ⟨Lc72, hQ72, l72, y72, z72⟩, st72⟩ := X71.virtualBack hx (y := (⟨"com/example/cilu/cilu/model/Role", "takes", "(I)Z"⟩ : MethodName)) (z := (⟨"com/example/cilu/cilu/model/Role", "takes", "(I)Z"⟩ : MethodName)) hown (mvT hZ (hw _ (List.mem_of_getElem? (i := 41) rfl))) (mvT hZ (hw _ (List.mem_of_getElem? (i := 42) rfl))) (notFace_of_selects (args := #[]) (mvT hZ (hw _ (List.mem_of_getElem? (i := 44) rfl)))) (mvT hZ (hw _ (List.mem_of_getElem? (i := 44) rfl))) (mvT hZ (hw _ (List.mem_of_getElem? (i := 43) rfl))) (by decide) (backOf (W := 0) (own_rT l Z a0 hw [] a_Y (2 : Int32) (2 : Int32) (0 : Int32) h31 n0 Z31 (F_Y_shortest.ext O31) (F_Y_longest.ext O31) (by decide)) hZ (hw _ (List.mem_of_getElem? (i := 45) rfl)) (hw _ (List.mem_of_getElem? (i := 3) rfl)) (by decide) (by decide)) q72a q72c (g := (mkF m 123 #[.val (.int xk), .val (.ref b1), .val (.ref a_Y), .val (.int (1 : Int32)), .unset, .unset] [(.int (2147483647 : Int32)), (.ref a_Y)])) rfl (by rw [hml]; rfl) (Steps.refl _) (argsL := [(.int (2147483647 : Int32))]) (rest := []) (lenOf own_pd1 rfl) rfl (by show 2 * 0 + _ ≤ _; exact Nat.le_of_eq rfl) (hb hby at_123) (fun _ _ => ⟨rfl, e71, (by decide : 1 + 0 ≤ _), (by decide : 15 + 0 ≤ _)⟩)
    dsimp only [Pt.U, Pt.locs, Pt.cells, Pt.slots] at X72 l72 y72 z72 st72 hQ72
    subst l72 y72 z72
    obtain ⟨rfl, N72q, e72⟩ := hQ72
    have N72 := Fr.app N71 N72q
    refine own_goT (T' := T72) (g' := (mkF m 126 #[.val (.int xk), .val (.ref b1), .val (.ref a_Y), .val (.int (1 : Int32)), .unset, .unset] [(.int (0 : Int32))])) st72 ?_
    refine own_go (T' := T72) (g' := (mkF m 128 #[.val (.int xk), .val (.ref b1), .val (.ref a_Y), .val (.int (1 : Int32)), .val (.int (0 : Int32)), .unset] [])) (fun _ k => XS.istore X72.here hx rfl (hb hby at_126) rfl (l' := #[.val (.int xk), .val (.ref b1), .val (.ref a_Y), .val (.int (1 : Int32)), .val (.int (0 : Int32)), .unset]) rfl k) ?_
    refine own_go (T' := T72) (g' := (mkF m 129 #[.val (.int xk), .val (.ref b1), .val (.ref a_Y), .val (.int (1 : Int32)), .val (.int (0 : Int32)), .unset] [(.ref a_Y)])) (fun _ k => XS.aloadN X72.here hx rfl (hb hby at_128) rfl rfl k) ?_
    obtain ⟨cq73, kq73, q73a, q73b, q73c⟩ := isOf hZ e72 (E_Y.ext O31)
    obtain ⟨_, _, ⟨T73, L73, k73, n73⟩, -, X73, ⟨Lc73, hQ73, l73, y73, z73⟩, st73⟩ := X72.virtualBack hx (y := (⟨"com/example/cilu/cilu/model/Role", "pool", "()Lcom/example/cilu/cilu/model/Role$Pool;"⟩ : MethodName)) (z := (⟨"com/example/cilu/cilu/model/Role", "pool", "()Lcom/example/cilu/cilu/model/Role$Pool;"⟩ : MethodName)) hown (mvT hZ (hw _ (List.mem_of_getElem? (i := 50) rfl))) (mvT hZ (hw _ (List.mem_of_getElem? (i := 51) rfl))) (notFace_of_selects (args := #[]) (mvT hZ (hw _ (List.mem_of_getElem? (i := 53) rfl)))) (mvT hZ (hw _ (List.mem_of_getElem? (i := 53) rfl))) (mvT hZ (hw _ (List.mem_of_getElem? (i := 52) rfl))) (by decide) (backOf (W := 0) (own_rPN l Z a0 hw [] a_Y h31 n0 Z31 (F_Y_pool.ext O31)) hZ (hw _ (List.mem_of_getElem? (i := 54) rfl)) (hw _ (List.mem_of_getElem? (i := 3) rfl)) (by decide) (by decide)) q73a q73c (g := (mkF m 129 #[.val (.int xk), .val (.ref b1), .val (.ref a_Y), .val (.int (1 : Int32)), .val (.int (0 : Int32)), .unset] [(.ref a_Y)])) rfl (by rw [hml]; rfl) (Steps.refl _) (argsL := []) (rest := []) (lenOf own_pd2 rfl) rfl (by show 2 * 0 + _ ≤ _; exact Nat.le_of_eq rfl) (hb hby at_129) (fun _ _ => ⟨rfl, e72, (by decide : 1 + 0 ≤ _), (by decide : 15 + 0 ≤ _)⟩)
    dsimp only [Pt.U, Pt.locs, Pt.cells, Pt.slots] at X73 l73 y73 z73 st73 hQ73
    subst l73 y73 z73
    obtain ⟨rfl, N73q, e73⟩ := hQ73
    have N73 := Fr.app N72 N73q
    refine own_goT (T' := T73) (g' := (mkF m 132 #[.val (.int xk), .val (.ref b1), .val (.ref a_Y), .val (.int (1 : Int32)), .val (.int (0 : Int32)), .unset] [.null])) st73 ?_
    refine own_go (T' := T73) (g' := (mkF m 139 #[.val (.int xk), .val (.ref b1), .val (.ref a_Y), .val (.int (1 : Int32)), .val (.int (0 : Int32)), .unset] [])) (fun _ k => XS.ifnullYes X73.here hx rfl (pc0 := 132) (pc' := 139) rfl (hb hby at_132) rfl (by decide) (by decide) k) ?_
    refine own_go (T' := T73) (g' := (mkF m 140 #[.val (.int xk), .val (.ref b1), .val (.ref a_Y), .val (.int (1 : Int32)), .val (.int (0 : Int32)), .unset] [(.int (0 : Int32))])) (fun _ k => XS.iconst X73.here hx rfl (hb hby at_139) k) ?_
    refine own_go (T' := T73) (g' := (mkF m 142 #[.val (.int xk), .val (.ref b1), .val (.ref a_Y), .val (.int (1 : Int32)), .val (.int (0 : Int32)), .val (.int (0 : Int32))] [])) (fun _ k => XS.istore X73.here hx rfl (hb hby at_140) rfl (l' := #[.val (.int xk), .val (.ref b1), .val (.ref a_Y), .val (.int (1 : Int32)), .val (.int (0 : Int32)), .val (.int (0 : Int32))]) rfl k) ?_
    refine own_go (T' := T73) (g' := (mkF m 143 #[.val (.int xk), .val (.ref b1), .val (.ref a_Y), .val (.int (1 : Int32)), .val (.int (0 : Int32)), .val (.int (0 : Int32))] [(.int (1 : Int32))])) (fun _ k => XS.iloadN X73.here hx rfl (hb hby at_142) rfl k) ?_
    refine own_go (T' := T73) (g' := (mkF m 145 #[.val (.int xk), .val (.ref b1), .val (.ref a_Y), .val (.int (1 : Int32)), .val (.int (0 : Int32)), .val (.int (0 : Int32))] [(.int (0 : Int32)), (.int (1 : Int32))])) (fun _ k => XS.iload X73.here hx rfl (hb hby at_143) rfl k) ?_
    refine own_go (T' := T73) (g' := (mkF m 148 #[.val (.int xk), .val (.ref b1), .val (.ref a_Y), .val (.int (1 : Int32)), .val (.int (0 : Int32)), .val (.int (0 : Int32))] [(.int (1 : Int32))])) (fun _ k => XS.ifNo X73.here hx rfl (hb hby at_145) rfl ((if0 _ _).trans (teq ((by decide) : (0 : Int32) = (0 : Int32))).2) k) ?_
    refine own_go (T' := T73) (g' := (mkF m 149 #[.val (.int xk), .val (.ref b1), .val (.ref a_Y), .val (.int (1 : Int32)), .val (.int (0 : Int32)), .val (.int (0 : Int32))] [(.int (1 : Int32)), (.int (1 : Int32))])) (fun _ k => XS.iconst X73.here hx rfl (hb hby at_148) k) ?_
    refine own_go (T' := T73) (g' := (mkF m 153 #[.val (.int xk), .val (.ref b1), .val (.ref a_Y), .val (.int (1 : Int32)), .val (.int (0 : Int32)), .val (.int (0 : Int32))] [(.int (1 : Int32)), (.int (1 : Int32))])) (fun _ k => XS.goto X73.here hx rfl (pc0 := 149) (pc' := 153) rfl (hb hby at_149) (by decide) (by decide) k) ?_
    refine own_go (T' := T73) (g' := (mkF m 156 #[.val (.int xk), .val (.ref b1), .val (.ref a_Y), .val (.int (1 : Int32)), .val (.int (0 : Int32)), .val (.int (0 : Int32))] [])) (fun _ k => XS.icmpNo X73.here hx rfl (hb hby at_153) rfl (teq ((by decide) : (1 : Int32) = (1 : Int32))).2 k) ?_
    refine own_go (T' := T73) (g' := (mkF m 158 #[.val (.int xk), .val (.ref b1), .val (.ref a_Y), .val (.int (1 : Int32)), .val (.int (0 : Int32)), .val (.int (0 : Int32))] [(.int (0 : Int32))])) (fun _ k => XS.iload X73.here hx rfl (hb hby at_156) rfl k) ?_
    refine own_go (T' := T73) (g' := (mkF m 165 #[.val (.int xk), .val (.ref b1), .val (.ref a_Y), .val (.int (1 : Int32)), .val (.int (0 : Int32)), .val (.int (0 : Int32))] [])) (fun _ k => XS.ifYes X73.here hx rfl (pc0 := 158) (pc' := 165) rfl (hb hby at_158) rfl ((if0 _ _).trans (teq ((by decide) : (0 : Int32) = (0 : Int32))).1) (by decide) (by decide) k) ?_
    refine own_go (T' := T73) (g' := (mkF m 166 #[.val (.int xk), .val (.ref b1), .val (.ref a_Y), .val (.int (1 : Int32)), .val (.int (0 : Int32)), .val (.int (0 : Int32))] [(.int (1 : Int32))])) (fun _ k => XS.iconst X73.here hx rfl (hb hby at_165) k) ?_
    refine own_go (T' := T73) (g' := (mkF m 170 #[.val (.int xk), .val (.ref b1), .val (.ref a_Y), .val (.int (1 : Int32)), .val (.int (0 : Int32)), .val (.int (0 : Int32))] [(.int (1 : Int32))])) (fun _ k => XS.goto X73.here hx rfl (pc0 := 166) (pc' := 170) rfl (hb hby at_166) (by decide) (by decide) k) ?_
    obtain ⟨fs, hr, hrun, hended, hW, hsame⟩ := X73.leave (v := some (.int (1 : Int32))) (fun h => by rw [Bd.returns] at h; cases h)
    refine own_end (retN X73 hx (t := .boolean) Bd.returns (by simp) (hb hby at_170) hr) hrun hended ⟨_, _, rfl, (?_ : own_QL Z xk a_A a_B a_C a_D a_E a_F a_G a_P a_Q a_R a_K a_L a_X a_Y a_Z a_GIVEN_NAME a_TRANSLITERATED h0 n0 _ T73.heap _), ⟨_, rfl⟩, hW, hsame.mono (by decide) (by decide)⟩
    rw [e73]
    exact ⟨rfl, N73⟩
  · rw [hk]
    refine own_go (T' := T31) (g' := (mkF m 114 #[.val (.int xk), .val (.ref b1), .unset, .unset, .unset, .unset] [(.ref a_Z)])) (fun _ k => own_aaload X31 hx hZ e31 Va31 (j := (14 : Int32)) (v := (.ref a_Z)) (by decide) rfl rfl (g := (mkF m 113 #[.val (.int xk), .val (.ref b1), .unset, .unset, .unset, .unset] [(.int (14 : Int32)), (.ref b1)])) rfl rfl (hb hby at_113) k) ?_
    refine own_go (T' := T31) (g' := (mkF m 115 #[.val (.int xk), .val (.ref b1), .val (.ref a_Z), .unset, .unset, .unset] [])) (fun _ k => XS.astoreN X31.here hx rfl (hb hby at_114) rfl rfl (l' := #[.val (.int xk), .val (.ref b1), .val (.ref a_Z), .unset, .unset, .unset]) rfl k) ?_
    refine own_go (T' := T31) (g' := (mkF m 116 #[.val (.int xk), .val (.ref b1), .val (.ref a_Z), .unset, .unset, .unset] [(.ref a_Z)])) (fun _ k => XS.aloadN X31.here hx rfl (hb hby at_115) rfl rfl k) ?_
    obtain ⟨cq74, kq74, q74a, q74b, q74c⟩ := isOf hZ e31 (E_Z.ext O31)
    obtain ⟨_, _, ⟨T74, L74, k74, n74⟩, -, X74, ⟨Lc74, hQ74, l74, y74, z74⟩, st74⟩ := X31.virtualBack hx (y := (⟨"com/example/cilu/cilu/model/Role", "isOfName", "()Z"⟩ : MethodName)) (z := (⟨"com/example/cilu/cilu/model/Role", "isOfName", "()Z"⟩ : MethodName)) hown (mvT hZ (hw _ (List.mem_of_getElem? (i := 35) rfl))) (mvT hZ (hw _ (List.mem_of_getElem? (i := 36) rfl))) (notFace_of_selects (args := #[]) (mvT hZ (hw _ (List.mem_of_getElem? (i := 38) rfl)))) (mvT hZ (hw _ (List.mem_of_getElem? (i := 38) rfl))) (mvT hZ (hw _ (List.mem_of_getElem? (i := 37) rfl))) (by decide) (backOf (W := 0) (own_rN l Z a0 hw [] a_Z a_A a_K a_L (1 : Int32) h31 n0 Z31 (S_A.ext O31) (S_K.ext O31) (S_L.ext O31) (by simp [own_name, ne_Z_A, ne_Z_K, ne_Z_L])) hZ (hw _ (List.mem_of_getElem? (i := 39) rfl)) (hw _ (List.mem_of_getElem? (i := 3) rfl)) (by decide) (by decide)) q74a q74c (g := (mkF m 116 #[.val (.int xk), .val (.ref b1), .val (.ref a_Z), .unset, .unset, .unset] [(.ref a_Z)])) rfl (by rw [hml]; rfl) (Steps.refl _) (argsL := []) (rest := []) (lenOf own_pd0 rfl) rfl (by show 2 * 0 + _ ≤ _; exact Nat.le_of_eq rfl) (hb hby at_116) (fun _ _ => ⟨rfl, e31, (by decide : 1 + 0 ≤ _), (by decide : 15 + 0 ≤ _)⟩)
    dsimp only [Pt.U, Pt.locs, Pt.cells, Pt.slots] at X74 l74 y74 z74 st74 hQ74
    subst l74 y74 z74
    obtain ⟨rfl, N74q, e74⟩ := hQ74
    have N74 := Fr.app N31 N74q
    refine own_goT (T' := T74) (g' := (mkF m 119 #[.val (.int xk), .val (.ref b1), .val (.ref a_Z), .unset, .unset, .unset] [(.int (1 : Int32))])) st74 ?_
    refine own_go (T' := T74) (g' := (mkF m 120 #[.val (.int xk), .val (.ref b1), .val (.ref a_Z), .val (.int (1 : Int32)), .unset, .unset] [])) (fun _ k => XS.istoreN X74.here hx rfl (hb hby at_119) rfl (l' := #[.val (.int xk), .val (.ref b1), .val (.ref a_Z), .val (.int (1 : Int32)), .unset, .unset]) rfl k) ?_
    refine own_go (T' := T74) (g' := (mkF m 121 #[.val (.int xk), .val (.ref b1), .val (.ref a_Z), .val (.int (1 : Int32)), .unset, .unset] [(.ref a_Z)])) (fun _ k => XS.aloadN X74.here hx rfl (hb hby at_120) rfl rfl k) ?_
    refine own_go (T' := T74) (g' := (mkF m 123 #[.val (.int xk), .val (.ref b1), .val (.ref a_Z), .val (.int (1 : Int32)), .unset, .unset] [(.int (2147483647 : Int32)), (.ref a_Z)])) (fun _ k => X74.ldcInt hx hown (mvT hZ (hw _ (List.mem_of_getElem? (i := 34) rfl))) (g := (mkF m 121 #[.val (.int xk), .val (.ref b1), .val (.ref a_Z), .val (.int (1 : Int32)), .unset, .unset] [(.ref a_Z)])) rfl (hb hby at_121) _ k) ?_
    obtain ⟨cq75, kq75, q75a, q75b, q75c⟩ := isOf hZ e74 (E_Z.ext O31)
    obtain ⟨_, _, ⟨T75, L75, k75, n75⟩, -, X75, ⟨Lc75, hQ75, l75, y75, z75⟩, st75⟩ := X74.virtualBack hx (y := (⟨"com/example/cilu/cilu/model/Role", "takes", "(I)Z"⟩ : MethodName)) (z := (⟨"com/example/cilu/cilu/model/Role", "takes", "(I)Z"⟩ : MethodName)) hown (mvT hZ (hw _ (List.mem_of_getElem? (i := 41) rfl))) (mvT hZ (hw _ (List.mem_of_getElem? (i := 42) rfl))) (notFace_of_selects (args := #[]) (mvT hZ (hw _ (List.mem_of_getElem? (i := 44) rfl)))) (mvT hZ (hw _ (List.mem_of_getElem? (i := 44) rfl))) (mvT hZ (hw _ (List.mem_of_getElem? (i := 43) rfl))) (by decide) (backOf (W := 0) (own_rT l Z a0 hw [] a_Z (2 : Int32) (2 : Int32) (0 : Int32) h31 n0 Z31 (F_Z_shortest.ext O31) (F_Z_longest.ext O31) (by decide)) hZ (hw _ (List.mem_of_getElem? (i := 45) rfl)) (hw _ (List.mem_of_getElem? (i := 3) rfl)) (by decide) (by decide)) q75a q75c (g := (mkF m 123 #[.val (.int xk), .val (.ref b1), .val (.ref a_Z), .val (.int (1 : Int32)), .unset, .unset] [(.int (2147483647 : Int32)), (.ref a_Z)])) rfl (by rw [hml]; rfl) (Steps.refl _) (argsL := [(.int (2147483647 : Int32))]) (rest := []) (lenOf own_pd1 rfl) rfl (by show 2 * 0 + _ ≤ _; exact Nat.le_of_eq rfl) (hb hby at_123) (fun _ _ => ⟨rfl, e74, (by decide : 1 + 0 ≤ _), (by decide : 15 + 0 ≤ _)⟩)
    dsimp only [Pt.U, Pt.locs, Pt.cells, Pt.slots] at X75 l75 y75 z75 st75 hQ75
    subst l75 y75 z75
    obtain ⟨rfl, N75q, e75⟩ := hQ75
    have N75 := Fr.app N74 N75q
    refine own_goT (T' := T75) (g' := (mkF m 126 #[.val (.int xk), .val (.ref b1), .val (.ref a_Z), .val (.int (1 : Int32)), .unset, .unset] [(.int (0 : Int32))])) st75 ?_
    refine own_go (T' := T75) (g' := (mkF m 128 #[.val (.int xk), .val (.ref b1), .val (.ref a_Z), .val (.int (1 : Int32)), .val (.int (0 : Int32)), .unset] [])) (fun _ k => XS.istore X75.here hx rfl (hb hby at_126) rfl (l' := #[.val (.int xk), .val (.ref b1), .val (.ref a_Z), .val (.int (1 : Int32)), .val (.int (0 : Int32)), .unset]) rfl k) ?_
    refine own_go (T' := T75) (g' := (mkF m 129 #[.val (.int xk), .val (.ref b1), .val (.ref a_Z), .val (.int (1 : Int32)), .val (.int (0 : Int32)), .unset] [(.ref a_Z)])) (fun _ k => XS.aloadN X75.here hx rfl (hb hby at_128) rfl rfl k) ?_
    obtain ⟨cq76, kq76, q76a, q76b, q76c⟩ := isOf hZ e75 (E_Z.ext O31)
    obtain ⟨_, _, ⟨T76, L76, k76, n76⟩, -, X76, ⟨Lc76, hQ76, l76, y76, z76⟩, st76⟩ := X75.virtualBack hx (y := (⟨"com/example/cilu/cilu/model/Role", "pool", "()Lcom/example/cilu/cilu/model/Role$Pool;"⟩ : MethodName)) (z := (⟨"com/example/cilu/cilu/model/Role", "pool", "()Lcom/example/cilu/cilu/model/Role$Pool;"⟩ : MethodName)) hown (mvT hZ (hw _ (List.mem_of_getElem? (i := 50) rfl))) (mvT hZ (hw _ (List.mem_of_getElem? (i := 51) rfl))) (notFace_of_selects (args := #[]) (mvT hZ (hw _ (List.mem_of_getElem? (i := 53) rfl)))) (mvT hZ (hw _ (List.mem_of_getElem? (i := 53) rfl))) (mvT hZ (hw _ (List.mem_of_getElem? (i := 52) rfl))) (by decide) (backOf (W := 0) (own_rPN l Z a0 hw [] a_Z h31 n0 Z31 (F_Z_pool.ext O31)) hZ (hw _ (List.mem_of_getElem? (i := 54) rfl)) (hw _ (List.mem_of_getElem? (i := 3) rfl)) (by decide) (by decide)) q76a q76c (g := (mkF m 129 #[.val (.int xk), .val (.ref b1), .val (.ref a_Z), .val (.int (1 : Int32)), .val (.int (0 : Int32)), .unset] [(.ref a_Z)])) rfl (by rw [hml]; rfl) (Steps.refl _) (argsL := []) (rest := []) (lenOf own_pd2 rfl) rfl (by show 2 * 0 + _ ≤ _; exact Nat.le_of_eq rfl) (hb hby at_129) (fun _ _ => ⟨rfl, e75, (by decide : 1 + 0 ≤ _), (by decide : 15 + 0 ≤ _)⟩)
    dsimp only [Pt.U, Pt.locs, Pt.cells, Pt.slots] at X76 l76 y76 z76 st76 hQ76
    subst l76 y76 z76
    obtain ⟨rfl, N76q, e76⟩ := hQ76
    have N76 := Fr.app N75 N76q
    refine own_goT (T' := T76) (g' := (mkF m 132 #[.val (.int xk), .val (.ref b1), .val (.ref a_Z), .val (.int (1 : Int32)), .val (.int (0 : Int32)), .unset] [.null])) st76 ?_
    refine own_go (T' := T76) (g' := (mkF m 139 #[.val (.int xk), .val (.ref b1), .val (.ref a_Z), .val (.int (1 : Int32)), .val (.int (0 : Int32)), .unset] [])) (fun _ k => XS.ifnullYes X76.here hx rfl (pc0 := 132) (pc' := 139) rfl (hb hby at_132) rfl (by decide) (by decide) k) ?_
    refine own_go (T' := T76) (g' := (mkF m 140 #[.val (.int xk), .val (.ref b1), .val (.ref a_Z), .val (.int (1 : Int32)), .val (.int (0 : Int32)), .unset] [(.int (0 : Int32))])) (fun _ k => XS.iconst X76.here hx rfl (hb hby at_139) k) ?_
    refine own_go (T' := T76) (g' := (mkF m 142 #[.val (.int xk), .val (.ref b1), .val (.ref a_Z), .val (.int (1 : Int32)), .val (.int (0 : Int32)), .val (.int (0 : Int32))] [])) (fun _ k => XS.istore X76.here hx rfl (hb hby at_140) rfl (l' := #[.val (.int xk), .val (.ref b1), .val (.ref a_Z), .val (.int (1 : Int32)), .val (.int (0 : Int32)), .val (.int (0 : Int32))]) rfl k) ?_
    refine own_go (T' := T76) (g' := (mkF m 143 #[.val (.int xk), .val (.ref b1), .val (.ref a_Z), .val (.int (1 : Int32)), .val (.int (0 : Int32)), .val (.int (0 : Int32))] [(.int (1 : Int32))])) (fun _ k => XS.iloadN X76.here hx rfl (hb hby at_142) rfl k) ?_
    refine own_go (T' := T76) (g' := (mkF m 145 #[.val (.int xk), .val (.ref b1), .val (.ref a_Z), .val (.int (1 : Int32)), .val (.int (0 : Int32)), .val (.int (0 : Int32))] [(.int (0 : Int32)), (.int (1 : Int32))])) (fun _ k => XS.iload X76.here hx rfl (hb hby at_143) rfl k) ?_
    refine own_go (T' := T76) (g' := (mkF m 148 #[.val (.int xk), .val (.ref b1), .val (.ref a_Z), .val (.int (1 : Int32)), .val (.int (0 : Int32)), .val (.int (0 : Int32))] [(.int (1 : Int32))])) (fun _ k => XS.ifNo X76.here hx rfl (hb hby at_145) rfl ((if0 _ _).trans (teq ((by decide) : (0 : Int32) = (0 : Int32))).2) k) ?_
    refine own_go (T' := T76) (g' := (mkF m 149 #[.val (.int xk), .val (.ref b1), .val (.ref a_Z), .val (.int (1 : Int32)), .val (.int (0 : Int32)), .val (.int (0 : Int32))] [(.int (1 : Int32)), (.int (1 : Int32))])) (fun _ k => XS.iconst X76.here hx rfl (hb hby at_148) k) ?_
    refine own_go (T' := T76) (g' := (mkF m 153 #[.val (.int xk), .val (.ref b1), .val (.ref a_Z), .val (.int (1 : Int32)), .val (.int (0 : Int32)), .val (.int (0 : Int32))] [(.int (1 : Int32)), (.int (1 : Int32))])) (fun _ k => XS.goto X76.here hx rfl (pc0 := 149) (pc' := 153) rfl (hb hby at_149) (by decide) (by decide) k) ?_
    refine own_go (T' := T76) (g' := (mkF m 156 #[.val (.int xk), .val (.ref b1), .val (.ref a_Z), .val (.int (1 : Int32)), .val (.int (0 : Int32)), .val (.int (0 : Int32))] [])) (fun _ k => XS.icmpNo X76.here hx rfl (hb hby at_153) rfl (teq ((by decide) : (1 : Int32) = (1 : Int32))).2 k) ?_
    refine own_go (T' := T76) (g' := (mkF m 158 #[.val (.int xk), .val (.ref b1), .val (.ref a_Z), .val (.int (1 : Int32)), .val (.int (0 : Int32)), .val (.int (0 : Int32))] [(.int (0 : Int32))])) (fun _ k => XS.iload X76.here hx rfl (hb hby at_156) rfl k) ?_
    refine own_go (T' := T76) (g' := (mkF m 165 #[.val (.int xk), .val (.ref b1), .val (.ref a_Z), .val (.int (1 : Int32)), .val (.int (0 : Int32)), .val (.int (0 : Int32))] [])) (fun _ k => XS.ifYes X76.here hx rfl (pc0 := 158) (pc' := 165) rfl (hb hby at_158) rfl ((if0 _ _).trans (teq ((by decide) : (0 : Int32) = (0 : Int32))).1) (by decide) (by decide) k) ?_
    refine own_go (T' := T76) (g' := (mkF m 166 #[.val (.int xk), .val (.ref b1), .val (.ref a_Z), .val (.int (1 : Int32)), .val (.int (0 : Int32)), .val (.int (0 : Int32))] [(.int (1 : Int32))])) (fun _ k => XS.iconst X76.here hx rfl (hb hby at_165) k) ?_
    refine own_go (T' := T76) (g' := (mkF m 170 #[.val (.int xk), .val (.ref b1), .val (.ref a_Z), .val (.int (1 : Int32)), .val (.int (0 : Int32)), .val (.int (0 : Int32))] [(.int (1 : Int32))])) (fun _ k => XS.goto X76.here hx rfl (pc0 := 166) (pc' := 170) rfl (hb hby at_166) (by decide) (by decide) k) ?_
    obtain ⟨fs, hr, hrun, hended, hW, hsame⟩ := X76.leave (v := some (.int (1 : Int32))) (fun h => by rw [Bd.returns] at h; cases h)
    refine own_end (retN X76 hx (t := .boolean) Bd.returns (by simp) (hb hby at_170) hr) hrun hended ⟨_, _, rfl, (?_ : own_QL Z xk a_A a_B a_C a_D a_E a_F a_G a_P a_Q a_R a_K a_L a_X a_Y a_Z a_GIVEN_NAME a_TRANSLITERATED h0 n0 _ T76.heap _), ⟨_, rfl⟩, hW, hsame.mono (by decide) (by decide)⟩
    rw [e76]
    exact ⟨rfl, N76⟩
set_option maxRecDepth 65536 in
set_option maxHeartbeats 40000000 in
theorem own_comes {Post : Tables → Env → Array Value → State → Outcome → State → Prop} (hpost : ∀ tb e args s v u, (limb_1_1.after args s (.returned v) u = true ∧ limb_1_2.after args s (.returned v) u = true ∧ True) → FrameEnd s (.returned v) u (Jvm.fieldLocs frame_1_writes args s ++ Jvm.arrayLocs frame_1_arrays args s ++ Jvm.staticLocs frame_1_statics s) 16 128 → Post tb e args s (.returned v) u) :
    ArmFor flags0 classFile x code maxLocals ret World_1 tables_1 room_1 Calls_1 rest_1 Pre_1 Post := by
  intro l hfl _ _ p e ha hc hk s m args below hf hA hF happ hP
  obtain ⟨hcalls, hrest, hpre⟩ := hP
  obtain ⟨-, -, -, hnamed, -, -, -, hat⟩ := (Spec.applies_iff hf).mp happ
  obtain ⟨hg, hn⟩ := and_e (Cond.before_iff.mp (show (Jvm.Cond.and given_1 narrow_1).before args s = true from hpre))
  obtain ⟨gc, g0⟩ := and_e hg
  obtain ⟨w0, rfl⟩ : ∃ w0 : Value, args = #[w0] := by
    have hs : args.size = 1 := by simpa [Cond.value, given_1] using gc
    obtain ⟨L⟩ := args
    match L, hs with
    | [w0], _ => exact ⟨w0, rfl⟩
  have hw := fun d (hd : d ∈ tables_1) => atoms_spec (ws := Jvm.Cond.code x code maxLocals ret :: tables_1) hat d (List.mem_cons_of_mem _ hd)
  have hfit : Fit s := fun {y c} hc i hi => by
    obtain ⟨ha, rfl⟩ := Array.getElem?_eq_some_iff.mp hc
    have q := List.all_eq_true.mp ((Array.all_eq_true_iff_forall_mem.mp hF) _ (Array.getElem_mem ha)) i (List.mem_range.mpr hi)
    simpa [Array.getElem?_eq_getElem hi] using q
  obtain ⟨i0, ei0⟩ := is_v g0
  obtain rfl : w0 = (.int i0) := Option.some.inj ei0
  obtain ⟨k0, z0⟩ := and_e hn
  obtain ⟨a_A, e_A⟩ := exa_v k0
  have S_A : Sta s s.heap "com/example/cilu/cilu/model/Role" "A" "Lcom/example/cilu/cilu/model/Role;" (.ref a_A) := Sta.start e_A (Or.inr ⟨(hw _ (List.mem_of_getElem? (i := 3) rfl)), (hw _ (List.mem_of_getElem? (i := 4) rfl))⟩)
  have E_A : Exa s s.heap a_A "com/example/cilu/cilu/model/Role" := Exa.start e_A k0
  obtain ⟨k1, z1⟩ := and_e z0
  obtain ⟨a_B, e_B⟩ := exa_v k1
  have S_B : Sta s s.heap "com/example/cilu/cilu/model/Role" "B" "Lcom/example/cilu/cilu/model/Role;" (.ref a_B) := Sta.start e_B (Or.inr ⟨(hw _ (List.mem_of_getElem? (i := 3) rfl)), (hw _ (List.mem_of_getElem? (i := 7) rfl))⟩)
  have E_B : Exa s s.heap a_B "com/example/cilu/cilu/model/Role" := Exa.start e_B k1
  obtain ⟨k2, z2⟩ := and_e z1
  obtain ⟨a_C, e_C⟩ := exa_v k2
  have S_C : Sta s s.heap "com/example/cilu/cilu/model/Role" "C" "Lcom/example/cilu/cilu/model/Role;" (.ref a_C) := Sta.start e_C (Or.inr ⟨(hw _ (List.mem_of_getElem? (i := 3) rfl)), (hw _ (List.mem_of_getElem? (i := 9) rfl))⟩)
  have E_C : Exa s s.heap a_C "com/example/cilu/cilu/model/Role" := Exa.start e_C k2
  obtain ⟨k3, z3⟩ := and_e z2
  obtain ⟨a_D, e_D⟩ := exa_v k3
  have S_D : Sta s s.heap "com/example/cilu/cilu/model/Role" "D" "Lcom/example/cilu/cilu/model/Role;" (.ref a_D) := Sta.start e_D (Or.inr ⟨(hw _ (List.mem_of_getElem? (i := 3) rfl)), (hw _ (List.mem_of_getElem? (i := 11) rfl))⟩)
  have E_D : Exa s s.heap a_D "com/example/cilu/cilu/model/Role" := Exa.start e_D k3
  obtain ⟨k4, z4⟩ := and_e z3
  obtain ⟨a_E, e_E⟩ := exa_v k4
  have S_E : Sta s s.heap "com/example/cilu/cilu/model/Role" "E" "Lcom/example/cilu/cilu/model/Role;" (.ref a_E) := Sta.start e_E (Or.inr ⟨(hw _ (List.mem_of_getElem? (i := 3) rfl)), (hw _ (List.mem_of_getElem? (i := 13) rfl))⟩)
  have E_E : Exa s s.heap a_E "com/example/cilu/cilu/model/Role" := Exa.start e_E k4
  obtain ⟨k5, z5⟩ := and_e z4
  obtain ⟨a_F, e_F⟩ := exa_v k5
  have S_F : Sta s s.heap "com/example/cilu/cilu/model/Role" "F" "Lcom/example/cilu/cilu/model/Role;" (.ref a_F) := Sta.start e_F (Or.inr ⟨(hw _ (List.mem_of_getElem? (i := 3) rfl)), (hw _ (List.mem_of_getElem? (i := 15) rfl))⟩)
  have E_F : Exa s s.heap a_F "com/example/cilu/cilu/model/Role" := Exa.start e_F k5
  obtain ⟨k6, z6⟩ := and_e z5
  obtain ⟨a_G, e_G⟩ := exa_v k6
  have S_G : Sta s s.heap "com/example/cilu/cilu/model/Role" "G" "Lcom/example/cilu/cilu/model/Role;" (.ref a_G) := Sta.start e_G (Or.inr ⟨(hw _ (List.mem_of_getElem? (i := 3) rfl)), (hw _ (List.mem_of_getElem? (i := 17) rfl))⟩)
  have E_G : Exa s s.heap a_G "com/example/cilu/cilu/model/Role" := Exa.start e_G k6
  obtain ⟨k7, z7⟩ := and_e z6
  obtain ⟨a_P, e_P⟩ := exa_v k7
  have S_P : Sta s s.heap "com/example/cilu/cilu/model/Role" "P" "Lcom/example/cilu/cilu/model/Role;" (.ref a_P) := Sta.start e_P (Or.inr ⟨(hw _ (List.mem_of_getElem? (i := 3) rfl)), (hw _ (List.mem_of_getElem? (i := 19) rfl))⟩)
  have E_P : Exa s s.heap a_P "com/example/cilu/cilu/model/Role" := Exa.start e_P k7
  obtain ⟨k8, z8⟩ := and_e z7
  obtain ⟨a_Q, e_Q⟩ := exa_v k8
  have S_Q : Sta s s.heap "com/example/cilu/cilu/model/Role" "Q" "Lcom/example/cilu/cilu/model/Role;" (.ref a_Q) := Sta.start e_Q (Or.inr ⟨(hw _ (List.mem_of_getElem? (i := 3) rfl)), (hw _ (List.mem_of_getElem? (i := 21) rfl))⟩)
  have E_Q : Exa s s.heap a_Q "com/example/cilu/cilu/model/Role" := Exa.start e_Q k8
  obtain ⟨k9, z9⟩ := and_e z8
  obtain ⟨a_R, e_R⟩ := exa_v k9
  have S_R : Sta s s.heap "com/example/cilu/cilu/model/Role" "R" "Lcom/example/cilu/cilu/model/Role;" (.ref a_R) := Sta.start e_R (Or.inr ⟨(hw _ (List.mem_of_getElem? (i := 3) rfl)), (hw _ (List.mem_of_getElem? (i := 23) rfl))⟩)
  have E_R : Exa s s.heap a_R "com/example/cilu/cilu/model/Role" := Exa.start e_R k9
  obtain ⟨k10, z10⟩ := and_e z9
  obtain ⟨a_K, e_K⟩ := exa_v k10
  have S_K : Sta s s.heap "com/example/cilu/cilu/model/Role" "K" "Lcom/example/cilu/cilu/model/Role;" (.ref a_K) := Sta.start e_K (Or.inr ⟨(hw _ (List.mem_of_getElem? (i := 3) rfl)), (hw _ (List.mem_of_getElem? (i := 25) rfl))⟩)
  have E_K : Exa s s.heap a_K "com/example/cilu/cilu/model/Role" := Exa.start e_K k10
  obtain ⟨k11, z11⟩ := and_e z10
  obtain ⟨a_L, e_L⟩ := exa_v k11
  have S_L : Sta s s.heap "com/example/cilu/cilu/model/Role" "L" "Lcom/example/cilu/cilu/model/Role;" (.ref a_L) := Sta.start e_L (Or.inr ⟨(hw _ (List.mem_of_getElem? (i := 3) rfl)), (hw _ (List.mem_of_getElem? (i := 27) rfl))⟩)
  have E_L : Exa s s.heap a_L "com/example/cilu/cilu/model/Role" := Exa.start e_L k11
  obtain ⟨k12, z12⟩ := and_e z11
  obtain ⟨a_X, e_X⟩ := exa_v k12
  have S_X : Sta s s.heap "com/example/cilu/cilu/model/Role" "X" "Lcom/example/cilu/cilu/model/Role;" (.ref a_X) := Sta.start e_X (Or.inr ⟨(hw _ (List.mem_of_getElem? (i := 3) rfl)), (hw _ (List.mem_of_getElem? (i := 29) rfl))⟩)
  have E_X : Exa s s.heap a_X "com/example/cilu/cilu/model/Role" := Exa.start e_X k12
  obtain ⟨k13, z13⟩ := and_e z12
  obtain ⟨a_Y, e_Y⟩ := exa_v k13
  have S_Y : Sta s s.heap "com/example/cilu/cilu/model/Role" "Y" "Lcom/example/cilu/cilu/model/Role;" (.ref a_Y) := Sta.start e_Y (Or.inr ⟨(hw _ (List.mem_of_getElem? (i := 3) rfl)), (hw _ (List.mem_of_getElem? (i := 31) rfl))⟩)
  have E_Y : Exa s s.heap a_Y "com/example/cilu/cilu/model/Role" := Exa.start e_Y k13
  obtain ⟨k14, z14⟩ := and_e z13
  obtain ⟨a_Z, e_Z⟩ := exa_v k14
  have S_Z : Sta s s.heap "com/example/cilu/cilu/model/Role" "Z" "Lcom/example/cilu/cilu/model/Role;" (.ref a_Z) := Sta.start e_Z (Or.inr ⟨(hw _ (List.mem_of_getElem? (i := 3) rfl)), (hw _ (List.mem_of_getElem? (i := 33) rfl))⟩)
  have E_Z : Exa s s.heap a_Z "com/example/cilu/cilu/model/Role" := Exa.start e_Z k14
  obtain ⟨k15, z15⟩ := and_e z14
  have e_A_shortest := own_eqi k15
  have F_A_shortest : Fld s s.heap a_A "com/example/cilu/cilu/model/Role" "shortest" "I" (.int (1 : Int32)) := Fld.start ((fld_at e_A).symm.trans e_A_shortest)
  obtain ⟨k16, z16⟩ := and_e z15
  have e_A_longest := own_eqi k16
  have F_A_longest : Fld s s.heap a_A "com/example/cilu/cilu/model/Role" "longest" "I" (.int (2147483647 : Int32)) := Fld.start ((fld_at e_A).symm.trans e_A_longest)
  obtain ⟨k17, z17⟩ := and_e z16
  have e_A_pool := null_v k17
  have F_A_pool : Fld s s.heap a_A "com/example/cilu/cilu/model/Role" "pool" "Lcom/example/cilu/cilu/model/Role$Pool;" .null := Fld.start ((fld_at e_A).symm.trans e_A_pool)
  obtain ⟨k18, z18⟩ := and_e z17
  have e_D_ordinal := own_eqi k18
  have F_D_ordinal : Fld s s.heap a_D "java/lang/Enum" "ordinal" "I" (.int (3 : Int32)) := Fld.start ((fld_at e_D).symm.trans e_D_ordinal)
  obtain ⟨k19, z19⟩ := and_e z18
  have e_A_ordinal := own_eqi k19
  have F_A_ordinal : Fld s s.heap a_A "java/lang/Enum" "ordinal" "I" (.int (0 : Int32)) := Fld.start ((fld_at e_A).symm.trans e_A_ordinal)
  obtain ⟨k20, z20⟩ := and_e z19
  have e_K_ordinal := own_eqi k20
  have F_K_ordinal : Fld s s.heap a_K "java/lang/Enum" "ordinal" "I" (.int (10 : Int32)) := Fld.start ((fld_at e_K).symm.trans e_K_ordinal)
  obtain ⟨k21, z21⟩ := and_e z20
  have e_L_ordinal := own_eqi k21
  have F_L_ordinal : Fld s s.heap a_L "java/lang/Enum" "ordinal" "I" (.int (11 : Int32)) := Fld.start ((fld_at e_L).symm.trans e_L_ordinal)
  obtain ⟨k22, z22⟩ := and_e z21
  have e_D_shortest := own_eqi k22
  have F_D_shortest : Fld s s.heap a_D "com/example/cilu/cilu/model/Role" "shortest" "I" (.int (1 : Int32)) := Fld.start ((fld_at e_D).symm.trans e_D_shortest)
  obtain ⟨k23, z23⟩ := and_e z22
  have e_D_longest := own_eqi k23
  have F_D_longest : Fld s s.heap a_D "com/example/cilu/cilu/model/Role" "longest" "I" (.int (1 : Int32)) := Fld.start ((fld_at e_D).symm.trans e_D_longest)
  obtain ⟨k24, z24⟩ := and_e z23
  obtain ⟨a_GIVEN_NAME, e_GIVEN_NAME⟩ := exa_v k24
  have S_GIVEN_NAME : Sta s s.heap "com/example/cilu/cilu/model/Role$Pool" "GIVEN_NAME" "Lcom/example/cilu/cilu/model/Role$Pool;" (.ref a_GIVEN_NAME) := Sta.start e_GIVEN_NAME (Or.inr ⟨(hw _ (List.mem_of_getElem? (i := 59) rfl)), (hw _ (List.mem_of_getElem? (i := 60) rfl))⟩)
  have E_GIVEN_NAME : Exa s s.heap a_GIVEN_NAME "com/example/cilu/cilu/model/Role$Pool" := Exa.start e_GIVEN_NAME k24
  obtain ⟨k25, z25⟩ := and_e z24
  have e_D_pool := own_eqr k25 e_GIVEN_NAME
  have F_D_pool : Fld s s.heap a_D "com/example/cilu/cilu/model/Role" "pool" "Lcom/example/cilu/cilu/model/Role$Pool;" (.ref a_GIVEN_NAME) := Fld.start ((fld_at e_D).symm.trans e_D_pool)
  obtain ⟨k26, z26⟩ := and_e z25
  have e_F_ordinal := own_eqi k26
  have F_F_ordinal : Fld s s.heap a_F "java/lang/Enum" "ordinal" "I" (.int (5 : Int32)) := Fld.start ((fld_at e_F).symm.trans e_F_ordinal)
  obtain ⟨k27, z27⟩ := and_e z26
  have e_F_shortest := own_eqi k27
  have F_F_shortest : Fld s s.heap a_F "com/example/cilu/cilu/model/Role" "shortest" "I" (.int (1 : Int32)) := Fld.start ((fld_at e_F).symm.trans e_F_shortest)
  obtain ⟨k28, z28⟩ := and_e z27
  have e_F_longest := own_eqi k28
  have F_F_longest : Fld s s.heap a_F "com/example/cilu/cilu/model/Role" "longest" "I" (.int (1 : Int32)) := Fld.start ((fld_at e_F).symm.trans e_F_longest)
  obtain ⟨k29, z29⟩ := and_e z28
  have e_F_pool := null_v k29
  have F_F_pool : Fld s s.heap a_F "com/example/cilu/cilu/model/Role" "pool" "Lcom/example/cilu/cilu/model/Role$Pool;" .null := Fld.start ((fld_at e_F).symm.trans e_F_pool)
  obtain ⟨k30, z30⟩ := and_e z29
  have e_Y_ordinal := own_eqi k30
  have F_Y_ordinal : Fld s s.heap a_Y "java/lang/Enum" "ordinal" "I" (.int (13 : Int32)) := Fld.start ((fld_at e_Y).symm.trans e_Y_ordinal)
  obtain ⟨k31, z31⟩ := and_e z30
  have e_Y_shortest := own_eqi k31
  have F_Y_shortest : Fld s s.heap a_Y "com/example/cilu/cilu/model/Role" "shortest" "I" (.int (2 : Int32)) := Fld.start ((fld_at e_Y).symm.trans e_Y_shortest)
  obtain ⟨k32, z32⟩ := and_e z31
  have e_Y_longest := own_eqi k32
  have F_Y_longest : Fld s s.heap a_Y "com/example/cilu/cilu/model/Role" "longest" "I" (.int (2 : Int32)) := Fld.start ((fld_at e_Y).symm.trans e_Y_longest)
  obtain ⟨k33, z33⟩ := and_e z32
  have e_Y_pool := null_v k33
  have F_Y_pool : Fld s s.heap a_Y "com/example/cilu/cilu/model/Role" "pool" "Lcom/example/cilu/cilu/model/Role$Pool;" .null := Fld.start ((fld_at e_Y).symm.trans e_Y_pool)
  obtain ⟨k34, z34⟩ := and_e z33
  have e_G_ordinal := own_eqi k34
  have F_G_ordinal : Fld s s.heap a_G "java/lang/Enum" "ordinal" "I" (.int (6 : Int32)) := Fld.start ((fld_at e_G).symm.trans e_G_ordinal)
  obtain ⟨k35, z35⟩ := and_e z34
  have e_G_shortest := own_eqi k35
  have F_G_shortest : Fld s s.heap a_G "com/example/cilu/cilu/model/Role" "shortest" "I" (.int (1 : Int32)) := Fld.start ((fld_at e_G).symm.trans e_G_shortest)
  obtain ⟨k36, z36⟩ := and_e z35
  have e_G_longest := own_eqi k36
  have F_G_longest : Fld s s.heap a_G "com/example/cilu/cilu/model/Role" "longest" "I" (.int (1 : Int32)) := Fld.start ((fld_at e_G).symm.trans e_G_longest)
  obtain ⟨k37, z37⟩ := and_e z36
  have e_G_pool := null_v k37
  have F_G_pool : Fld s s.heap a_G "com/example/cilu/cilu/model/Role" "pool" "Lcom/example/cilu/cilu/model/Role$Pool;" .null := Fld.start ((fld_at e_G).symm.trans e_G_pool)
  obtain ⟨k38, z38⟩ := and_e z37
  have e_Z_ordinal := own_eqi k38
  have F_Z_ordinal : Fld s s.heap a_Z "java/lang/Enum" "ordinal" "I" (.int (14 : Int32)) := Fld.start ((fld_at e_Z).symm.trans e_Z_ordinal)
  obtain ⟨k39, z39⟩ := and_e z38
  have e_Z_shortest := own_eqi k39
  have F_Z_shortest : Fld s s.heap a_Z "com/example/cilu/cilu/model/Role" "shortest" "I" (.int (2 : Int32)) := Fld.start ((fld_at e_Z).symm.trans e_Z_shortest)
  obtain ⟨k40, z40⟩ := and_e z39
  have e_Z_longest := own_eqi k40
  have F_Z_longest : Fld s s.heap a_Z "com/example/cilu/cilu/model/Role" "longest" "I" (.int (2 : Int32)) := Fld.start ((fld_at e_Z).symm.trans e_Z_longest)
  obtain ⟨k41, z41⟩ := and_e z40
  have e_Z_pool := null_v k41
  have F_Z_pool : Fld s s.heap a_Z "com/example/cilu/cilu/model/Role" "pool" "Lcom/example/cilu/cilu/model/Role$Pool;" .null := Fld.start ((fld_at e_Z).symm.trans e_Z_pool)
  obtain ⟨k42, z42⟩ := and_e z41
  have e_P_ordinal := own_eqi k42
  have F_P_ordinal : Fld s s.heap a_P "java/lang/Enum" "ordinal" "I" (.int (7 : Int32)) := Fld.start ((fld_at e_P).symm.trans e_P_ordinal)
  obtain ⟨k43, z43⟩ := and_e z42
  have e_P_shortest := own_eqi k43
  have F_P_shortest : Fld s s.heap a_P "com/example/cilu/cilu/model/Role" "shortest" "I" (.int (1 : Int32)) := Fld.start ((fld_at e_P).symm.trans e_P_shortest)
  obtain ⟨k44, z44⟩ := and_e z43
  have e_P_longest := own_eqi k44
  have F_P_longest : Fld s s.heap a_P "com/example/cilu/cilu/model/Role" "longest" "I" (.int (1 : Int32)) := Fld.start ((fld_at e_P).symm.trans e_P_longest)
  obtain ⟨k45, z45⟩ := and_e z44
  obtain ⟨a_TRANSLITERATED, e_TRANSLITERATED⟩ := exa_v k45
  have S_TRANSLITERATED : Sta s s.heap "com/example/cilu/cilu/model/Role$Pool" "TRANSLITERATED" "Lcom/example/cilu/cilu/model/Role$Pool;" (.ref a_TRANSLITERATED) := Sta.start e_TRANSLITERATED (Or.inr ⟨(hw _ (List.mem_of_getElem? (i := 59) rfl)), (hw _ (List.mem_of_getElem? (i := 61) rfl))⟩)
  have E_TRANSLITERATED : Exa s s.heap a_TRANSLITERATED "com/example/cilu/cilu/model/Role$Pool" := Exa.start e_TRANSLITERATED k45
  obtain ⟨k46, z46⟩ := and_e z45
  have e_P_pool := own_eqr k46 e_TRANSLITERATED
  have F_P_pool : Fld s s.heap a_P "com/example/cilu/cilu/model/Role" "pool" "Lcom/example/cilu/cilu/model/Role$Pool;" (.ref a_TRANSLITERATED) := Fld.start ((fld_at e_P).symm.trans e_P_pool)
  obtain ⟨k47, z47⟩ := and_e z46
  have e_C_ordinal := own_eqi k47
  have F_C_ordinal : Fld s s.heap a_C "java/lang/Enum" "ordinal" "I" (.int (2 : Int32)) := Fld.start ((fld_at e_C).symm.trans e_C_ordinal)
  obtain ⟨k48, z48⟩ := and_e z47
  have e_C_shortest := own_eqi k48
  have F_C_shortest : Fld s s.heap a_C "com/example/cilu/cilu/model/Role" "shortest" "I" (.int (1 : Int32)) := Fld.start ((fld_at e_C).symm.trans e_C_shortest)
  obtain ⟨k49, z49⟩ := and_e z48
  have e_C_longest := own_eqi k49
  have F_C_longest : Fld s s.heap a_C "com/example/cilu/cilu/model/Role" "longest" "I" (.int (1 : Int32)) := Fld.start ((fld_at e_C).symm.trans e_C_longest)
  obtain ⟨k50, z50⟩ := and_e z49
  have e_C_pool := own_eqr k50 e_GIVEN_NAME
  have F_C_pool : Fld s s.heap a_C "com/example/cilu/cilu/model/Role" "pool" "Lcom/example/cilu/cilu/model/Role$Pool;" (.ref a_GIVEN_NAME) := Fld.start ((fld_at e_C).symm.trans e_C_pool)
  obtain ⟨k51, z51⟩ := and_e z50
  have e_L_shortest := own_eqi k51
  have F_L_shortest : Fld s s.heap a_L "com/example/cilu/cilu/model/Role" "shortest" "I" (.int (1 : Int32)) := Fld.start ((fld_at e_L).symm.trans e_L_shortest)
  obtain ⟨k52, z52⟩ := and_e z51
  have e_L_longest := own_eqi k52
  have F_L_longest : Fld s s.heap a_L "com/example/cilu/cilu/model/Role" "longest" "I" (.int (2147483647 : Int32)) := Fld.start ((fld_at e_L).symm.trans e_L_longest)
  obtain ⟨k53, z53⟩ := and_e z52
  have e_L_pool := null_v k53
  have F_L_pool : Fld s s.heap a_L "com/example/cilu/cilu/model/Role" "pool" "Lcom/example/cilu/cilu/model/Role$Pool;" .null := Fld.start ((fld_at e_L).symm.trans e_L_pool)
  obtain ⟨k54, z54⟩ := and_e z53
  have e_K_shortest := own_eqi k54
  have F_K_shortest : Fld s s.heap a_K "com/example/cilu/cilu/model/Role" "shortest" "I" (.int (1 : Int32)) := Fld.start ((fld_at e_K).symm.trans e_K_shortest)
  obtain ⟨k55, z55⟩ := and_e z54
  have e_K_longest := own_eqi k55
  have F_K_longest : Fld s s.heap a_K "com/example/cilu/cilu/model/Role" "longest" "I" (.int (2147483647 : Int32)) := Fld.start ((fld_at e_K).symm.trans e_K_longest)
  obtain ⟨k56, z56⟩ := and_e z55
  have e_K_pool := null_v k56
  have F_K_pool : Fld s s.heap a_K "com/example/cilu/cilu/model/Role" "pool" "Lcom/example/cilu/cilu/model/Role$Pool;" .null := Fld.start ((fld_at e_K).symm.trans e_K_pool)
  obtain ⟨k57, z57⟩ := and_e z56
  have e_Q_ordinal := own_eqi k57
  have F_Q_ordinal : Fld s s.heap a_Q "java/lang/Enum" "ordinal" "I" (.int (8 : Int32)) := Fld.start ((fld_at e_Q).symm.trans e_Q_ordinal)
  obtain ⟨k58, z58⟩ := and_e z57
  have e_Q_shortest := own_eqi k58
  have F_Q_shortest : Fld s s.heap a_Q "com/example/cilu/cilu/model/Role" "shortest" "I" (.int (1 : Int32)) := Fld.start ((fld_at e_Q).symm.trans e_Q_shortest)
  obtain ⟨k59, z59⟩ := and_e z58
  have e_Q_longest := own_eqi k59
  have F_Q_longest : Fld s s.heap a_Q "com/example/cilu/cilu/model/Role" "longest" "I" (.int (1 : Int32)) := Fld.start ((fld_at e_Q).symm.trans e_Q_longest)
  obtain ⟨k60, z60⟩ := and_e z59
  have e_Q_pool := own_eqr k60 e_TRANSLITERATED
  have F_Q_pool : Fld s s.heap a_Q "com/example/cilu/cilu/model/Role" "pool" "Lcom/example/cilu/cilu/model/Role$Pool;" (.ref a_TRANSLITERATED) := Fld.start ((fld_at e_Q).symm.trans e_Q_pool)
  obtain ⟨k61, z61⟩ := and_e z60
  have e_B_ordinal := own_eqi k61
  have F_B_ordinal : Fld s s.heap a_B "java/lang/Enum" "ordinal" "I" (.int (1 : Int32)) := Fld.start ((fld_at e_B).symm.trans e_B_ordinal)
  obtain ⟨k62, z62⟩ := and_e z61
  have e_B_shortest := own_eqi k62
  have F_B_shortest : Fld s s.heap a_B "com/example/cilu/cilu/model/Role" "shortest" "I" (.int (1 : Int32)) := Fld.start ((fld_at e_B).symm.trans e_B_shortest)
  obtain ⟨k63, z63⟩ := and_e z62
  have e_B_longest := own_eqi k63
  have F_B_longest : Fld s s.heap a_B "com/example/cilu/cilu/model/Role" "longest" "I" (.int (2 : Int32)) := Fld.start ((fld_at e_B).symm.trans e_B_longest)
  obtain ⟨k64, z64⟩ := and_e z63
  have e_B_pool := null_v k64
  have F_B_pool : Fld s s.heap a_B "com/example/cilu/cilu/model/Role" "pool" "Lcom/example/cilu/cilu/model/Role$Pool;" .null := Fld.start ((fld_at e_B).symm.trans e_B_pool)
  obtain ⟨k65, z65⟩ := and_e z64
  have e_X_ordinal := own_eqi k65
  have F_X_ordinal : Fld s s.heap a_X "java/lang/Enum" "ordinal" "I" (.int (12 : Int32)) := Fld.start ((fld_at e_X).symm.trans e_X_ordinal)
  obtain ⟨k66, z66⟩ := and_e z65
  have e_X_shortest := own_eqi k66
  have F_X_shortest : Fld s s.heap a_X "com/example/cilu/cilu/model/Role" "shortest" "I" (.int (2 : Int32)) := Fld.start ((fld_at e_X).symm.trans e_X_shortest)
  obtain ⟨k67, z67⟩ := and_e z66
  have e_X_longest := own_eqi k67
  have F_X_longest : Fld s s.heap a_X "com/example/cilu/cilu/model/Role" "longest" "I" (.int (2 : Int32)) := Fld.start ((fld_at e_X).symm.trans e_X_longest)
  obtain ⟨k68, z68⟩ := and_e z67
  have e_X_pool := null_v k68
  have F_X_pool : Fld s s.heap a_X "com/example/cilu/cilu/model/Role" "pool" "Lcom/example/cilu/cilu/model/Role$Pool;" .null := Fld.start ((fld_at e_X).symm.trans e_X_pool)
  obtain ⟨k69, z69⟩ := and_e z68
  have e_E_ordinal := own_eqi k69
  have F_E_ordinal : Fld s s.heap a_E "java/lang/Enum" "ordinal" "I" (.int (4 : Int32)) := Fld.start ((fld_at e_E).symm.trans e_E_ordinal)
  obtain ⟨k70, z70⟩ := and_e z69
  have e_E_shortest := own_eqi k70
  have F_E_shortest : Fld s s.heap a_E "com/example/cilu/cilu/model/Role" "shortest" "I" (.int (1 : Int32)) := Fld.start ((fld_at e_E).symm.trans e_E_shortest)
  obtain ⟨k71, z71⟩ := and_e z70
  have e_E_longest := own_eqi k71
  have F_E_longest : Fld s s.heap a_E "com/example/cilu/cilu/model/Role" "longest" "I" (.int (1 : Int32)) := Fld.start ((fld_at e_E).symm.trans e_E_longest)
  obtain ⟨k72, z72⟩ := and_e z71
  have e_E_pool := own_eqr k72 e_GIVEN_NAME
  have F_E_pool : Fld s s.heap a_E "com/example/cilu/cilu/model/Role" "pool" "Lcom/example/cilu/cilu/model/Role$Pool;" (.ref a_GIVEN_NAME) := Fld.start ((fld_at e_E).symm.trans e_E_pool)
  obtain ⟨k73, z73⟩ := and_e z72
  have e_R_ordinal := own_eqi k73
  have F_R_ordinal : Fld s s.heap a_R "java/lang/Enum" "ordinal" "I" (.int (9 : Int32)) := Fld.start ((fld_at e_R).symm.trans e_R_ordinal)
  obtain ⟨k74, z74⟩ := and_e z73
  have e_R_shortest := own_eqi k74
  have F_R_shortest : Fld s s.heap a_R "com/example/cilu/cilu/model/Role" "shortest" "I" (.int (1 : Int32)) := Fld.start ((fld_at e_R).symm.trans e_R_shortest)
  obtain ⟨k75, z75⟩ := and_e z74
  have e_R_longest := own_eqi k75
  have F_R_longest : Fld s s.heap a_R "com/example/cilu/cilu/model/Role" "longest" "I" (.int (1 : Int32)) := Fld.start ((fld_at e_R).symm.trans e_R_longest)
  have e_R_pool := own_eqr z75 e_TRANSLITERATED
  have F_R_pool : Fld s s.heap a_R "com/example/cilu/cilu/model/Role" "pool" "Lcom/example/cilu/cilu/model/Role$Pool;" (.ref a_TRANSLITERATED) := Fld.start ((fld_at e_R).symm.trans e_R_pool)
  obtain ⟨n, o, h1, h2, h3, _, L, rfl, ⟨rfl, N⟩, hq⟩ := own_rL l s _ hw tables_1 i0 a_A a_B a_C a_D a_E a_F a_G a_P a_Q a_R a_K a_L a_X a_Y a_Z a_GIVEN_NAME a_TRANSLITERATED s.heap s.heap.size (Nat.le_refl _) S_A E_A S_B E_B S_C E_C S_D E_D S_E E_E S_F E_F S_G E_G S_P E_P S_Q E_Q S_R E_R S_K E_K S_L E_L S_X E_X S_Y E_Y S_Z E_Z F_A_shortest F_A_longest F_A_pool F_D_ordinal F_A_ordinal F_K_ordinal F_L_ordinal F_D_shortest F_D_longest S_GIVEN_NAME E_GIVEN_NAME F_D_pool F_F_ordinal F_F_shortest F_F_longest F_F_pool F_Y_ordinal F_Y_shortest F_Y_longest F_Y_pool F_G_ordinal F_G_shortest F_G_longest F_G_pool F_Z_ordinal F_Z_shortest F_Z_longest F_Z_pool F_P_ordinal F_P_shortest F_P_longest S_TRANSLITERATED E_TRANSLITERATED F_P_pool F_C_ordinal F_C_shortest F_C_longest F_C_pool F_L_shortest F_L_longest F_L_pool F_K_shortest F_K_longest F_K_pool F_Q_ordinal F_Q_shortest F_Q_longest F_Q_pool F_B_ordinal F_B_shortest F_B_longest F_B_pool F_X_ordinal F_X_shortest F_X_longest F_X_pool F_E_ordinal F_E_shortest F_E_longest F_E_pool F_R_ordinal F_R_shortest F_R_longest F_R_pool p e ha hc hk s m _ below hf ((Spec.applies_iff_loose hf).mp happ).1 ⟨rfl, State.Warmed39.refl s, rfl⟩ trivial
  refine ⟨n, _, h1, h2, h3, hpost _ _ _ _ _ _ ⟨Cond.after_iff.mpr rfl, Cond.after_iff.mpr (eq_i res_at (Term.int_eval (1)) rfl), trivial⟩ ⟨hq.1, hq.2.1, (hq.2.2.sift fun y hy => Or.inr (N y hy)).mono (by decide) (by decide)⟩⟩
theorem main_1_1 : Claimed_1_1 := own_comes fun _ _ _ _ _ _ h hF => ⟨h.1, hF⟩
theorem main_1_2 : Claimed_1_2 := own_comes fun _ _ _ _ _ _ h hF => ⟨h.2.1, hF⟩
end Jvm.Pilot.@@N@@
namespace Jvm.Pilot.@@N@@
open Jvm Jvm.ClassFile Sem Op Lib Jvm.Free Jvm.Stand Jvm.Pilot.@@N@@.Jvm.D
/-! MADE BY PROGRAM (witnessworld.py) out of the Statement's table words and the real class files: 14 classes; the members and pool entries that the words name. The judged class is class 1, her method 1. -/
namespace start1
open Jvm.ClassFile
def u (s : String) : CpInfo := .utf8 (stringToUtf16 s)
/-- a pool by its gaps: so many unusable entries, then the entry; so many at the end -/
def gap : Nat → List CpInfo → List CpInfo
  | 0, r => r
  | n + 1, r => .unusable :: gap n r
def poolList (es : List (Nat × CpInfo)) (last : Nat) : List CpInfo := es.foldr (fun e r => gap e.1 (e.2 :: r)) (gap last [])
def pool (es : List (Nat × CpInfo)) (last : Nat) : Array CpInfo := ⟨poolList es last⟩
def fileOf (pool : Array CpInfo) (this : Nat) (attrs : Array Attribute := #[]) (ms : Array MethodInfo := #[]) (fl : Nat := 33) (sup : Nat := 0) (ifs : Array Nat := #[]) (fds : Array FieldInfo := #[]) : ClassFile where
  minorVersion := 0
  majorVersion := 65
  constantPool := pool
  accessFlags := fl
  thisClass := this
  superClass := sup
  interfaces := ifs
  fields := fds
  methods := ms
  attributes := attrs
def plain (name : String) (sup : Option ClassId) : Class where
  name := name
  kind := .ordinary
  loader := none
  accessFlags := 33
  super := sup
  interfaces := #[]
  cf := none
  fields := #[]
  methods := #[]
  instanceTypes := #[]
  staticTypes := #[]
  resolved := #[]
  callSites := []
  init := .initialized
  statics := none
  mirror := none

def pool0 : Array CpInfo := pool [(5, u "<init>"), (0, u "()V"), (1, .class_ 10), (1, u "java/lang/Object")] 113

def k0m0 : Method := { name := "<init>", desc := "()V", sig := { parameters := [], returnType := none }, accessFlags := 1, code := none }
/-- java/lang/Object -/
def k0 : Class := { plain "java/lang/Object" none with
  accessFlags := 33
  interfaces := #[]
  cf := some (fileOf pool0 8 #[] #[{ accessFlags := 1, nameIndex := 5, descriptorIndex := 6, attributes := #[] }] 33 0 #[] #[])
  fields := #[]
  methods := #[k0m0]
  instanceTypes := #[]
  staticTypes := #[]
  resolved := Array.replicate 124 none
  statics := none }

def pool1 : Array CpInfo := pool [(2, .class_ 4), (1, u "java/lang/Object"), (0, u "<init>"), (0, u "()V"), (0, .class_ 8), (0, u "com/example/cilu/cilu/model/Role"), (0, .fieldref 7 10), (0, .nameAndType 11 12), (0, u "A"), (0, u "Lcom/example/cilu/cilu/model/Role;"), (0, .fieldref 7 14), (0, .nameAndType 15 12), (0, u "B"), (0, .fieldref 7 17), (0, .nameAndType 18 12), (0, u "C"), (0, .fieldref 7 20), (0, .nameAndType 21 12), (0, u "D"), (0, .fieldref 7 23), (0, .nameAndType 24 12), (0, u "E"), (0, .fieldref 7 26), (0, .nameAndType 27 12), (0, u "F"), (0, .fieldref 7 29), (0, .nameAndType 30 12), (0, u "G"), (0, .fieldref 7 32), (0, .nameAndType 33 12), (0, u "P"), (0, .fieldref 7 35), (0, .nameAndType 36 12), (0, u "Q"), (0, .fieldref 7 38), (0, .nameAndType 39 12), (0, u "R"), (0, .fieldref 7 41), (0, .nameAndType 42 12), (0, u "K"), (0, .fieldref 7 44), (0, .nameAndType 45 12), (0, u "L"), (0, .fieldref 7 47), (0, .nameAndType 48 12), (0, u "X"), (0, .fieldref 7 50), (0, .nameAndType 51 12), (0, u "Y"), (0, .fieldref 7 53), (0, .nameAndType 54 12), (0, u "Z"), (0, .integer 2147483647), (0, .methodref 7 57), (0, .nameAndType 58 59), (0, u "isOfName"), (0, u "()Z"), (2, .methodref 7 63), (0, .nameAndType 64 65), (0, u "takes"), (0, u "(I)Z"), (0, .methodref 7 67), (0, .nameAndType 68 69), (0, u "pool"), (0, u "()Lcom/example/cilu/cilu/model/Role$Pool;"), (0, .class_ 71), (0, u "com/example/cilu/cilu/model/RoleIsOfNamePinLaw"), (2, u "law")] 9

def k1m0 : Method := { name := "<init>", desc := "()V", sig := { parameters := [], returnType := none }, accessFlags := 1, code := none }
def k1c1 : Code := { maxStack := 4, maxLocals := 6, code := code, exceptionTable := #[], attributes := #[] }
def k1m1 : Method := { name := "law", desc := "(I)Z", sig := { parameters := [.int], returnType := some .boolean }, accessFlags := 9, code := some k1c1 }
/-- com/example/cilu/cilu/model/RoleIsOfNamePinLaw -/
def k1 : Class := { plain "com/example/cilu/cilu/model/RoleIsOfNamePinLaw" (some 0) with
  accessFlags := 49
  interfaces := #[]
  cf := some (fileOf pool1 70 #[] #[{ accessFlags := 1, nameIndex := 5, descriptorIndex := 6, attributes := #[] }, { accessFlags := 9, nameIndex := 74, descriptorIndex := 65, attributes := #[] }] 49 2 #[] #[])
  fields := #[]
  methods := #[k1m0, k1m1]
  instanceTypes := #[]
  staticTypes := #[]
  resolved := Array.replicate 84 none
  statics := none }

def pool2 : Array CpInfo := pool [(1, .class_ 2), (0, u "java/lang/constant/Constable"), (0, .class_ 4), (0, u "java/lang/Object")] 6

/-- java/lang/constant/Constable -/
def k2 : Class := { plain "java/lang/constant/Constable" (some 0) with
  accessFlags := 1537
  interfaces := #[]
  cf := some (fileOf pool2 1 #[] #[] 1537 3 #[] #[])
  fields := #[]
  methods := #[]
  instanceTypes := #[]
  staticTypes := #[]
  resolved := Array.replicate 11 none
  statics := none }

def pool3 : Array CpInfo := pool [(1, .class_ 2), (0, u "java/lang/Comparable"), (0, .class_ 4), (0, u "java/lang/Object")] 7

/-- java/lang/Comparable -/
def k3 : Class := { plain "java/lang/Comparable" (some 0) with
  accessFlags := 1537
  interfaces := #[]
  cf := some (fileOf pool3 1 #[] #[] 1537 3 #[] #[])
  fields := #[]
  methods := #[]
  instanceTypes := #[]
  staticTypes := #[]
  resolved := Array.replicate 12 none
  statics := none }

def pool4 : Array CpInfo := pool [(1, .class_ 2), (0, u "java/io/Serializable"), (0, .class_ 4), (0, u "java/lang/Object")] 2

/-- java/io/Serializable -/
def k4 : Class := { plain "java/io/Serializable" (some 0) with
  accessFlags := 1537
  interfaces := #[]
  cf := some (fileOf pool4 1 #[] #[] 1537 3 #[] #[])
  fields := #[]
  methods := #[]
  instanceTypes := #[]
  staticTypes := #[]
  resolved := Array.replicate 7 none
  statics := none }

def pool5 : Array CpInfo := pool [(2, .class_ 4), (1, u "java/lang/Enum"), (0, u "name"), (0, u "Ljava/lang/String;"), (2, u "ordinal"), (0, u "I"), (1, .class_ 14), (1, u "java/lang/Object"), (4, u "hash"), (86, .class_ 108), (1, u "java/lang/Enum$EnumDesc"), (2, .class_ 112), (0, u "java/lang/constant/Constable"), (0, .class_ 114), (0, u "java/lang/Comparable"), (0, .class_ 116), (0, u "java/io/Serializable")] 87

/-- java/lang/Enum -/
def k5 : Class := { plain "java/lang/Enum" (some 0) with
  accessFlags := 1057
  interfaces := #[2, 3, 4]
  cf := some (fileOf pool5 2 #[.nestMembers #[106]] #[] 1057 12 #[111, 113, 115] #[{ accessFlags := 18, nameIndex := 5, descriptorIndex := 6, attributes := #[] }, { accessFlags := 18, nameIndex := 9, descriptorIndex := 10, attributes := #[] }, { accessFlags := 2, nameIndex := 19, descriptorIndex := 10, attributes := #[] }])
  fields := #[{ name := "name", type := (.object "java/lang/String"), accessFlags := 18, slot := 0, constantValue := 0 }, { name := "ordinal", type := .int, accessFlags := 18, slot := 1, constantValue := 0 }, { name := "hash", type := .int, accessFlags := 2, slot := 2, constantValue := 0 }]
  methods := #[]
  instanceTypes := #[(.object "java/lang/String"), .int, .int]
  staticTypes := #[]
  resolved := Array.replicate 204 none
  statics := none }

def pool6 : Array CpInfo := pool [(1, .class_ 2), (0, u "com/example/cilu/cilu/model/Role"), (0, .fieldref 1 4), (0, .nameAndType 5 6), (0, u "A"), (0, u "Lcom/example/cilu/cilu/model/Role;"), (2, u "B"), (2, u "C"), (2, u "D"), (2, u "E"), (2, u "F"), (2, u "G"), (2, u "P"), (2, u "Q"), (2, u "R"), (0, .fieldref 1 35), (0, .nameAndType 36 6), (0, u "K"), (0, .fieldref 1 38), (0, .nameAndType 39 6), (0, u "L"), (2, u "X"), (2, u "Y"), (2, u "Z"), (2, u "$VALUES"), (0, u "[Lcom/example/cilu/cilu/model/Role;"), (6, .class_ 61), (1, u "java/lang/Enum"), (6, .fieldref 1 69), (0, .nameAndType 70 71), (0, u "shortest"), (0, u "I"), (0, .fieldref 1 73), (0, .nameAndType 74 71), (0, u "longest"), (0, .fieldref 1 76), (0, .nameAndType 77 78), (0, u "pool"), (0, u "Lcom/example/cilu/cilu/model/Role$Pool;"), (24, .class_ 105), (1, u "com/example/cilu/cilu/model/Role$Pool"), (25, u "isOfName"), (0, u "()Z"), (2, u "takes"), (0, u "(I)Z"), (0, u "()Lcom/example/cilu/cilu/model/Role$Pool;")] 8

def k6c0 : Code := { maxStack := 2, maxLocals := 1, code := prog_31_method_4_code, exceptionTable := #[], attributes := #[] }
def k6m0 : Method := { name := "isOfName", desc := "()Z", sig := { parameters := [], returnType := some .boolean }, accessFlags := 0, code := some k6c0 }
def k6c1 : Code := { maxStack := 2, maxLocals := 2, code := prog_31_method_6_code, exceptionTable := #[], attributes := #[] }
def k6m1 : Method := { name := "takes", desc := "(I)Z", sig := { parameters := [.int], returnType := some .boolean }, accessFlags := 1, code := some k6c1 }
def k6c2 : Code := { maxStack := 1, maxLocals := 1, code := prog_31_method_7_code, exceptionTable := #[], attributes := #[] }
def k6m2 : Method := { name := "pool", desc := "()Lcom/example/cilu/cilu/model/Role$Pool;", sig := { parameters := [], returnType := some (.object "com/example/cilu/cilu/model/Role$Pool") }, accessFlags := 0, code := some k6c2 }
/-- com/example/cilu/cilu/model/Role -/
def k6 : Class := { plain "com/example/cilu/cilu/model/Role" (some 5) with
  accessFlags := 16433
  interfaces := #[]
  cf := some (fileOf pool6 1 #[.nestMembers #[103]] #[{ accessFlags := 0, nameIndex := 131, descriptorIndex := 132, attributes := #[] }, { accessFlags := 1, nameIndex := 135, descriptorIndex := 136, attributes := #[] }, { accessFlags := 0, nameIndex := 77, descriptorIndex := 137, attributes := #[] }] 16433 59 #[] #[{ accessFlags := 16409, nameIndex := 5, descriptorIndex := 6, attributes := #[] }, { accessFlags := 16409, nameIndex := 9, descriptorIndex := 6, attributes := #[] }, { accessFlags := 16409, nameIndex := 12, descriptorIndex := 6, attributes := #[] }, { accessFlags := 16409, nameIndex := 15, descriptorIndex := 6, attributes := #[] }, { accessFlags := 16409, nameIndex := 18, descriptorIndex := 6, attributes := #[] }, { accessFlags := 16409, nameIndex := 21, descriptorIndex := 6, attributes := #[] }, { accessFlags := 16409, nameIndex := 24, descriptorIndex := 6, attributes := #[] }, { accessFlags := 16409, nameIndex := 27, descriptorIndex := 6, attributes := #[] }, { accessFlags := 16409, nameIndex := 30, descriptorIndex := 6, attributes := #[] }, { accessFlags := 16409, nameIndex := 33, descriptorIndex := 6, attributes := #[] }, { accessFlags := 16409, nameIndex := 36, descriptorIndex := 6, attributes := #[] }, { accessFlags := 16409, nameIndex := 39, descriptorIndex := 6, attributes := #[] }, { accessFlags := 16409, nameIndex := 42, descriptorIndex := 6, attributes := #[] }, { accessFlags := 16409, nameIndex := 45, descriptorIndex := 6, attributes := #[] }, { accessFlags := 16409, nameIndex := 48, descriptorIndex := 6, attributes := #[] }, { accessFlags := 18, nameIndex := 70, descriptorIndex := 71, attributes := #[] }, { accessFlags := 18, nameIndex := 74, descriptorIndex := 71, attributes := #[] }, { accessFlags := 18, nameIndex := 77, descriptorIndex := 78, attributes := #[] }, { accessFlags := 4122, nameIndex := 51, descriptorIndex := 52, attributes := #[] }])
  fields := #[{ name := "A", type := (.object "com/example/cilu/cilu/model/Role"), accessFlags := 16409, slot := 0, constantValue := 0 }, { name := "B", type := (.object "com/example/cilu/cilu/model/Role"), accessFlags := 16409, slot := 1, constantValue := 0 }, { name := "C", type := (.object "com/example/cilu/cilu/model/Role"), accessFlags := 16409, slot := 2, constantValue := 0 }, { name := "D", type := (.object "com/example/cilu/cilu/model/Role"), accessFlags := 16409, slot := 3, constantValue := 0 }, { name := "E", type := (.object "com/example/cilu/cilu/model/Role"), accessFlags := 16409, slot := 4, constantValue := 0 }, { name := "F", type := (.object "com/example/cilu/cilu/model/Role"), accessFlags := 16409, slot := 5, constantValue := 0 }, { name := "G", type := (.object "com/example/cilu/cilu/model/Role"), accessFlags := 16409, slot := 6, constantValue := 0 }, { name := "P", type := (.object "com/example/cilu/cilu/model/Role"), accessFlags := 16409, slot := 7, constantValue := 0 }, { name := "Q", type := (.object "com/example/cilu/cilu/model/Role"), accessFlags := 16409, slot := 8, constantValue := 0 }, { name := "R", type := (.object "com/example/cilu/cilu/model/Role"), accessFlags := 16409, slot := 9, constantValue := 0 }, { name := "K", type := (.object "com/example/cilu/cilu/model/Role"), accessFlags := 16409, slot := 10, constantValue := 0 }, { name := "L", type := (.object "com/example/cilu/cilu/model/Role"), accessFlags := 16409, slot := 11, constantValue := 0 }, { name := "X", type := (.object "com/example/cilu/cilu/model/Role"), accessFlags := 16409, slot := 12, constantValue := 0 }, { name := "Y", type := (.object "com/example/cilu/cilu/model/Role"), accessFlags := 16409, slot := 13, constantValue := 0 }, { name := "Z", type := (.object "com/example/cilu/cilu/model/Role"), accessFlags := 16409, slot := 14, constantValue := 0 }, { name := "shortest", type := .int, accessFlags := 18, slot := 3, constantValue := 0 }, { name := "longest", type := .int, accessFlags := 18, slot := 4, constantValue := 0 }, { name := "pool", type := (.object "com/example/cilu/cilu/model/Role$Pool"), accessFlags := 18, slot := 5, constantValue := 0 }, { name := "$VALUES", type := (.array (.object "com/example/cilu/cilu/model/Role")), accessFlags := 4122, slot := 15, constantValue := 0 }]
  methods := #[k6m0, k6m1, k6m2]
  instanceTypes := #[(.object "java/lang/String"), .int, .int, .int, .int, (.object "com/example/cilu/cilu/model/Role$Pool")]
  staticTypes := #[(.object "com/example/cilu/cilu/model/Role"), (.object "com/example/cilu/cilu/model/Role"), (.object "com/example/cilu/cilu/model/Role"), (.object "com/example/cilu/cilu/model/Role"), (.object "com/example/cilu/cilu/model/Role"), (.object "com/example/cilu/cilu/model/Role"), (.object "com/example/cilu/cilu/model/Role"), (.object "com/example/cilu/cilu/model/Role"), (.object "com/example/cilu/cilu/model/Role"), (.object "com/example/cilu/cilu/model/Role"), (.object "com/example/cilu/cilu/model/Role"), (.object "com/example/cilu/cilu/model/Role"), (.object "com/example/cilu/cilu/model/Role"), (.object "com/example/cilu/cilu/model/Role"), (.object "com/example/cilu/cilu/model/Role"), (.array (.object "com/example/cilu/cilu/model/Role"))]
  resolved := Array.replicate 146 none
  statics := some 0 }

def pool7 : Array CpInfo := pool [(1, .class_ 2), (0, u "com/example/cilu/cilu/model/Role$Pool"), (2, u "GIVEN_NAME"), (0, u "Lcom/example/cilu/cilu/model/Role$Pool;"), (2, u "TRANSLITERATED"), (2, u "$VALUES"), (0, u "[Lcom/example/cilu/cilu/model/Role$Pool;"), (6, .class_ 22), (1, u "java/lang/Enum"), (25, .class_ 49), (0, u "com/example/cilu/cilu/model/Role")] 2

/-- com/example/cilu/cilu/model/Role$Pool -/
def k7 : Class := { plain "com/example/cilu/cilu/model/Role$Pool" (some 5) with
  accessFlags := 16432
  interfaces := #[]
  cf := some (fileOf pool7 1 #[.nestHost 48] #[] 16432 20 #[] #[{ accessFlags := 16409, nameIndex := 5, descriptorIndex := 6, attributes := #[] }, { accessFlags := 16409, nameIndex := 9, descriptorIndex := 6, attributes := #[] }, { accessFlags := 4122, nameIndex := 12, descriptorIndex := 13, attributes := #[] }])
  fields := #[{ name := "GIVEN_NAME", type := (.object "com/example/cilu/cilu/model/Role$Pool"), accessFlags := 16409, slot := 0, constantValue := 0 }, { name := "TRANSLITERATED", type := (.object "com/example/cilu/cilu/model/Role$Pool"), accessFlags := 16409, slot := 1, constantValue := 0 }, { name := "$VALUES", type := (.array (.object "com/example/cilu/cilu/model/Role$Pool")), accessFlags := 4122, slot := 2, constantValue := 0 }]
  methods := #[]
  instanceTypes := #[(.object "java/lang/String"), .int, .int]
  staticTypes := #[(.object "com/example/cilu/cilu/model/Role$Pool"), (.object "com/example/cilu/cilu/model/Role$Pool"), (.array (.object "com/example/cilu/cilu/model/Role$Pool"))]
  resolved := Array.replicate 52 none
  statics := some 1 }

def pool8 : Array CpInfo := pool [(1, u "java/lang/Cloneable"), (0, .class_ 1), (0, u "java/lang/Object"), (0, .class_ 3)] 3

/-- java/lang/Cloneable -/
def k8 : Class := { plain "java/lang/Cloneable" (some 0) with
  accessFlags := 1537
  interfaces := #[]
  cf := some (fileOf pool8 2 #[] #[] 1537 4 #[] #[])
  fields := #[]
  methods := #[]
  instanceTypes := #[]
  staticTypes := #[]
  resolved := Array.replicate 8 none
  statics := none }

/-- the primitive byte -/
def k9 : Class := { plain "byte" none with kind := .primitive 'B', accessFlags := 0x411 }
/-- [B -/
def k10 : Class := { plain "[B" (some 0) with kind := .array 9 .byte, interfaces := #[8, 4], accessFlags := 1041 }

/-- the primitive int -/
def k11 : Class := { plain "int" none with kind := .primitive 'I', accessFlags := 0x411 }
/-- [I -/
def k12 : Class := { plain "[I" (some 0) with kind := .array 11 .int, interfaces := #[8, 4], accessFlags := 1041 }

/-- [Lcom/example/cilu/cilu/model/Role; -/
def k13 : Class := { plain "[Lcom/example/cilu/cilu/model/Role;" (some 0) with kind := .array 6 (.object "com/example/cilu/cilu/model/Role"), interfaces := #[8, 4], accessFlags := 1041 }

def heap : Heap := #[{ cls := 6, slots := #[.ref 2, .ref 3, .ref 4, .ref 5, .ref 6, .ref 7, .ref 8, .ref 9, .ref 10, .ref 11, .ref 12, .ref 13, .ref 14, .ref 15, .ref 16, .null], vm := .statics 6 },
  { cls := 7, slots := #[.ref 17, .ref 18, .null], vm := .statics 7 },
  { cls := 6, slots := #[.null, .int 0, .int 0, .int 1, .int 2147483647, .null], vm := .none },
  { cls := 6, slots := #[.null, .int 1, .int 0, .int 1, .int 2, .null], vm := .none },
  { cls := 6, slots := #[.null, .int 2, .int 0, .int 1, .int 1, .ref 17], vm := .none },
  { cls := 6, slots := #[.null, .int 3, .int 0, .int 1, .int 1, .ref 17], vm := .none },
  { cls := 6, slots := #[.null, .int 4, .int 0, .int 1, .int 1, .ref 17], vm := .none },
  { cls := 6, slots := #[.null, .int 5, .int 0, .int 1, .int 1, .null], vm := .none },
  { cls := 6, slots := #[.null, .int 6, .int 0, .int 1, .int 1, .null], vm := .none },
  { cls := 6, slots := #[.null, .int 7, .int 0, .int 1, .int 1, .ref 18], vm := .none },
  { cls := 6, slots := #[.null, .int 8, .int 0, .int 1, .int 1, .ref 18], vm := .none },
  { cls := 6, slots := #[.null, .int 9, .int 0, .int 1, .int 1, .ref 18], vm := .none },
  { cls := 6, slots := #[.null, .int 10, .int 0, .int 1, .int 2147483647, .null], vm := .none },
  { cls := 6, slots := #[.null, .int 11, .int 0, .int 1, .int 2147483647, .null], vm := .none },
  { cls := 6, slots := #[.null, .int 12, .int 0, .int 2, .int 2, .null], vm := .none },
  { cls := 6, slots := #[.null, .int 13, .int 0, .int 2, .int 2, .null], vm := .none },
  { cls := 6, slots := #[.null, .int 14, .int 0, .int 2, .int 2, .null], vm := .none },
  { cls := 7, slots := #[.null, .int 0, .int 0], vm := .none },
  { cls := 7, slots := #[.null, .int 0, .int 0], vm := .none }]
def classes : Array Class := #[k0, k1, k2, k3, k4, k5, k6, k7, k8, k9, k10, k11, k12, k13]
def interned : List (Array UInt16 × Addr) := []
def slotsUsed : Nat := 115
def theMethod : MethodId := ⟨1, 1⟩
def args0 : Array Value := #[.int 5]
def aboutOver (below : List Frame) : State where
  vm := { classes := classes, interned := interned.toArray }
  heap := heap
  slotsUsed := slotsUsed
  threads := #[{ frames := .invoking theMethod args0 :: below }]
def below0 : List Frame := [.native { method := ⟨0, 0⟩, args := #[] }]
def about1 : State := aboutOver below0
def p0 : Program := .bare "" "" ""
def e0 : Env := launch0.env 0 0 0
theorem w_frames : about1.frames = Frame.invoking theMethod args0 :: below0 := rfl
set_option maxRecDepth 65536 in
theorem w_args : argsFit about1.vm theMethod args0 = true := by decide +kernel
set_option maxRecDepth 65536 in
theorem w_heap : heapFits about1 = true := by decide +kernel
set_option maxRecDepth 65536 in
theorem w_runnable : about1.curStatus? = some .runnable := by decide +kernel
set_option maxRecDepth 65536 in
theorem w_alone : about1.alone = true := by decide +kernel
set_option maxRecDepth 65536 in
theorem w_named : about1.methodNamed? x = some theMethod := by decide +kernel
set_option maxRecDepth 65536 in
theorem w_hears : about1.hears theMethod below0 = true := by decide +kernel
set_option maxRecDepth 65536 in
theorem w_ripe : about1.ripe theMethod args0 below0 = true := by decide +kernel
theorem w_running : about1.status = .running := rfl
set_option maxRecDepth 65536 in
theorem w_room : about1.hasRoom e0.platform room_1 = true :=
  launch0.hasRoom_least _ room_1 (by decide +kernel) (by decide +kernel) (by decide +kernel) (by decide +kernel) (by decide +kernel) (by decide +kernel)
theorem allAtoms_all (ts : List Jvm.Cond) (a : Array Jvm.Value) (st : Jvm.State) : (allAtoms ts).before a st = ts.all (fun c => c.before a st) := by
  induction ts with
  | nil => rfl
  | cons c t ih =>
    show (Jvm.Cond.and c (allAtoms t)).before a st = _
    rw [Jvm.Cond.before_and, ih, List.all_cons]
def words1 : List Jvm.Cond := Jvm.Cond.code x code maxLocals ret :: tables_1
/-- a 'code' word, met by the world's own term for the bytes: nothing is compared byte by byte -/
theorem code_word {y : MethodName} {bytes : ByteArray} {mx : Nat} {rt : Option FieldType} {a : Array Value} {s : State} {m : MethodId} {meth : Method} {c : Code} (h1 : s.methodNamed? y = some m) (h2 : s.vm.method? m = some meth) (h3 : meth.code = some c) (h4 : c.code = bytes)
    (h5 : (c.maxLocals == mx && c.exceptionTable.isEmpty && decide (c.maxStack ≤ mostOperands) && decide (meth.sig.returnType = rt) && !meth.locks && decide (parseMethodDescriptor y.desc = some meth.sig)) = true) : (Jvm.Cond.code y bytes mx rt).before a s = true := by
  simp only [Bool.and_eq_true, beq_iff_eq, Bool.not_eq_true', decide_eq_true_eq] at h5
  obtain ⟨⟨⟨⟨⟨g1, g2⟩, g3⟩, g4⟩, g5⟩, g6⟩ := h5
  simp [Cond.before, Cond.holds, Cond.value, h1, h2, h3, h4, g1, g2, g3, g4, g5, g6]
def isCode : Jvm.Cond → Bool
  | .code _ _ _ _ => true
  | _ => false
theorem all_split {L : List Jvm.Cond} {P : Jvm.Cond → Bool} (h1 : L.all (fun c => isCode c || P c) = true) (h2 : ∀ c ∈ L.filter isCode, P c = true) : L.all P = true := by
  refine List.all_eq_true.mpr fun c hc => ?_
  have h := List.all_eq_true.mp h1 c hc
  rcases Bool.eq_false_or_eq_true (isCode c) with hi | hi
  · exact h2 c (List.mem_filter.mpr ⟨hc, hi⟩)
  · simpa [hi] using h
set_option maxRecDepth 65536 in
theorem w_c0 : (Jvm.Cond.code x code maxLocals ret).before args0 about1 = true := code_word (m := ⟨1, 1⟩) (meth := k1m1) (c := k1c1) (by decide +kernel) rfl rfl rfl (by decide +kernel)
set_option maxRecDepth 65536 in
theorem w_c1 : (Jvm.Cond.code ({ cls := "com/example/cilu/cilu/model/Role", name := "isOfName", desc := "()Z" } : Jvm.MethodName) prog_31_method_4_code (1 : Nat) (Option.some Jvm.ClassFile.FieldType.boolean)).before args0 about1 = true := code_word (m := ⟨6, 0⟩) (meth := k6m0) (c := k6c0) (by decide +kernel) rfl rfl rfl (by decide +kernel)
set_option maxRecDepth 65536 in
theorem w_c2 : (Jvm.Cond.code ({ cls := "com/example/cilu/cilu/model/Role", name := "takes", desc := "(I)Z" } : Jvm.MethodName) prog_31_method_6_code (2 : Nat) (Option.some Jvm.ClassFile.FieldType.boolean)).before args0 about1 = true := code_word (m := ⟨6, 1⟩) (meth := k6m1) (c := k6c1) (by decide +kernel) rfl rfl rfl (by decide +kernel)
set_option maxRecDepth 65536 in
theorem w_c3 : (Jvm.Cond.code ({ cls := "com/example/cilu/cilu/model/Role", name := "pool", desc := "()Lcom/example/cilu/cilu/model/Role$Pool;" } : Jvm.MethodName) prog_31_method_7_code (1 : Nat) (Option.some (Jvm.ClassFile.FieldType.object "com/example/cilu/cilu/model/Role$Pool"))).before args0 about1 = true := code_word (m := ⟨6, 2⟩) (meth := k6m2) (c := k6c2) (by decide +kernel) rfl rfl rfl (by decide +kernel)
def codes1 : List Jvm.Cond := [Jvm.Cond.code x code maxLocals ret, Jvm.Cond.code ({ cls := "com/example/cilu/cilu/model/Role", name := "isOfName", desc := "()Z" } : Jvm.MethodName) prog_31_method_4_code (1 : Nat) (Option.some Jvm.ClassFile.FieldType.boolean), Jvm.Cond.code ({ cls := "com/example/cilu/cilu/model/Role", name := "takes", desc := "(I)Z" } : Jvm.MethodName) prog_31_method_6_code (2 : Nat) (Option.some Jvm.ClassFile.FieldType.boolean), Jvm.Cond.code ({ cls := "com/example/cilu/cilu/model/Role", name := "pool", desc := "()Lcom/example/cilu/cilu/model/Role$Pool;" } : Jvm.MethodName) prog_31_method_7_code (1 : Nat) (Option.some (Jvm.ClassFile.FieldType.object "com/example/cilu/cilu/model/Role$Pool"))]
set_option maxRecDepth 65536 in
theorem codes_eq : words1.filter isCode = codes1 := rfl
theorem w_codes : ∀ c ∈ words1.filter isCode, c.before args0 about1 = true := by
  rw [codes_eq]
  intro c hc
  simp only [codes1, List.mem_cons, List.not_mem_nil, or_false] at hc
  rcases hc with rfl | rfl | rfl | rfl
  · exact w_c0
  · exact w_c1
  · exact w_c2
  · exact w_c3
set_option maxRecDepth 65536 in
theorem w_t1 : (words1.take 24).all (fun c => isCode c || c.before args0 about1) = true := by decide +kernel
set_option maxRecDepth 65536 in
theorem w_t2 : ((words1.drop 24).take 24).all (fun c => isCode c || c.before args0 about1) = true := by decide +kernel
set_option maxRecDepth 65536 in
theorem w_t3 : ((words1.drop 24).drop 24).all (fun c => isCode c || c.before args0 about1) = true := by decide +kernel
theorem w_tables : (allAtoms (Jvm.Cond.code x code maxLocals ret :: tables_1)).before args0 about1 = true := by
  rw [allAtoms_all]
  show words1.all (fun c => c.before args0 about1) = true
  refine all_split ?_ w_codes
  rw [← List.take_append_drop 24 words1, List.all_append, w_t1, ← List.take_append_drop 24 (words1.drop 24), List.all_append, w_t2, w_t3]
  rfl
set_option maxRecDepth 65536 in
theorem w_case : (Jvm.Cond.and given_1 narrow_1).before args0 about1 = true := by decide +kernel
theorem w_applies : (headSpec (Jvm.Cond.code x code maxLocals ret :: tables_1) room_1).applies x e0.platform about1 = true :=
  (Spec.applies_iff w_frames).mpr ⟨w_running, w_runnable, w_alone, w_named, w_hears, w_ripe, w_room, w_tables⟩
theorem atStart : AtStart classFile x code maxLocals ret World_1 tables_1 room_1 Calls_1 rest_1 Pre_1 launch0 p0 e0 about1 theMethod args0 below0 :=
  ⟨lists_1, trivial, launch0.admits_env _ _ _, launch0.least_env, fairChoices_fair.cas, fairChoices_fair.clock, w_frames, w_args, w_heap, w_applies, trivial, trivial, w_case⟩
end start1
theorem witness_1 : WitnessClaimed_1 := ⟨start1.p0, start1.e0, start1.about1, start1.theMethod, start1.args0, start1.below0, start1.atStart⟩
end Jvm.Pilot.@@N@@
