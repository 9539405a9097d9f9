import JvmDerived
import JvmDerived.Pilot.@@N@@Statement
import JvmDerived.Pilot.@@N@@Code
set_option linter.unusedVariables false
set_option linter.unusedSimpArgs false
@@BLOCK:NumsL.lean.txt@@
namespace Jvm.Pilot.@@N@@
open Jvm Jvm.ClassFile Sem Op Lib Jvm.Free Jvm.Stand Jvm.LawKit Jvm.RoadKit Bundle Jvm.Pilot.@@N@@.Jvm.D
/-! the run from a frame on: it ends, and what it leaves -/
def own_F (p : Program) (e : Env) (below : List Frame) (Q : Outcome → State → Prop) (T : State) (g : JFrame) : Prop :=
  ∃ s₂ o, Steps p.tables e below (T.setTop g) s₂ ∧ s₂.status = .running ∧ Ended s₂ below o ∧ Q o s₂
theorem own_go {p : Program} {e : Env} {below : List Frame} {Q : Outcome → State → Prop} {T T' : State} {g g' : JFrame} (st : ∀ target, Steps p.tables e below (T'.setTop g') target → Steps p.tables e below (T.setTop g) target) (k : own_F p e below Q T' g') : own_F p e below Q T g := by
  obtain ⟨s₂, o, h1, h2, h3, h4⟩ := k
  exact ⟨s₂, o, st _ h1, h2, h3, h4⟩
theorem own_goT {p : Program} {e : Env} {below : List Frame} {Q : Outcome → State → Prop} {T T' : State} {g g' : JFrame} (st : Steps p.tables e below (T.setTop g) (T'.setTop g')) (k : own_F p e below Q T' g') : own_F p e below Q T g := by
  obtain ⟨s₂, o, h1, h2, h3, h4⟩ := k
  exact ⟨s₂, o, st.trans h1, h2, h3, h4⟩
theorem own_end {p : Program} {e : Env} {below : List Frame} {Q : Outcome → State → Prop} {T s₂ : State} {g : JFrame} {o : Outcome} (st : Steps p.tables e below (T.setTop g) s₂) (h1 : s₂.status = .running) (h2 : Ended s₂ below o) (h3 : Q o s₂) : own_F p e below Q T g := ⟨s₂, o, st, h1, h2, h3⟩
theorem own_ext_tr {h0 h h' : Heap} (E : Ext h0 h) (E' : Ext h h') : Ext h0 h' := ⟨Nat.le_trans E.1 E'.1, fun a c q => E'.2 a c (E.2 a c q)⟩
theorem own_ext_rf (h : Heap) : Ext h h := ⟨Nat.le_refl _, fun _ _ q => q⟩
theorem own_ext_keep {h0 h h' : Heap} {ws : List Addr} (E : Ext h0 h) (K : Keep h h' ws) (q : ∀ x ∈ ws, h0.size ≤ x) : Ext h0 h' :=
  ⟨Nat.le_trans E.1 K.1, fun a c ha => K.2.1 a c (E.2 a c ha) fun k => absurd (Array.getElem?_eq_some_iff.mp ha).1 (Nat.not_lt.mpr (q a k))⟩
theorem own_ext_wr {h0 h h' : Heap} {a : Addr} {sl : Nat} {v : Value} (E : Ext h0 h) (W : Wr h h' a sl v) (q : h0.size ≤ a) : Ext h0 h' :=
  own_ext_keep E (Keep.of_wr W) fun x hx => by cases List.mem_singleton.mp hx; exact q
theorem own_two {a b d : Addr} (h : a ≠ b) (h2 : a ≠ d) : a ∉ [b, d] := fun q => by rcases List.mem_cons.mp q with e | e; exact h e; exact h2 (List.mem_singleton.mp e)
theorem own_all2 {n : Nat} {b d : Addr} (h : n ≤ b) (h2 : n ≤ d) : ∀ x ∈ [b, d], n ≤ x := fun x hx => by rcases List.mem_cons.mp hx with e | e; exact e ▸ h; exact List.mem_singleton.mp e ▸ h2
theorem own_or1 {P : Addr → Prop} {b : Addr} (h : P b) : ∀ x ∈ [b], P x := fun x hx => by cases List.mem_singleton.mp hx; exact h
theorem own_or2 {P : Addr → Prop} {b d : Addr} (h : P b) (h2 : P d) : ∀ x ∈ [b, d], P x := fun x hx => by rcases List.mem_cons.mp hx with e | e; exact e ▸ h; exact List.mem_singleton.mp e ▸ h2
def own_SK (Z : State) (h h' : Heap) : Prop := ∀ (C n d : String) (v : Value), Sta Z h C n d v → Sta Z h' C n d v
theorem own_SK.rf (Z : State) (h : Heap) : own_SK Z h h := fun _ _ _ _ q => q
theorem own_SK.ext {Z : State} {h h1 h2 : Heap} (S : own_SK Z h h1) (E : Ext h1 h2) : own_SK Z h h2 := fun C n d v q => (S C n d v q).ext E
theorem own_SK.wr {Z : State} {h h1 h2 : Heap} {a : Addr} {sl : Nat} {w : Value} (S : own_SK Z h h1) (W : Wr h1 h2 a sl w) : own_SK Z h h2 := fun C n d v q => (S C n d v q).wr W
theorem own_SK.tr {Z : State} {h h1 h2 : Heap} (S : own_SK Z h h1) (S' : own_SK Z h1 h2) : own_SK Z h h2 := fun C n d v q => S' C n d v (S C n d v q)
theorem own_mvMN {Z s : State} {a0 args : Array Value} {own host : String} {y : MethodName} {index : Nat} (hZ : Z.Warmed39 s.vm) (w : (Jvm.Cond.methodLinkNest own index y host).before a0 Z = true) : (Jvm.Cond.methodLinkNest own index y host).before args s = true := (Cond.methodLinkNest_wide hZ w :)
theorem own_frc {n k : Nat} {L : List Loc} (h : n = k) (N : Fr n L) : Fr k L := h ▸ N
theorem own_one {a b : Addr} (h : a ≠ b) : a ∉ [b] := fun q => h (List.mem_singleton.mp q)
theorem own_all1 {n : Nat} {b : Addr} (h : n ≤ b) : ∀ x ∈ [b], n ≤ x := fun x hx => by cases List.mem_singleton.mp hx; exact h
theorem own_all0 {n : Nat} : ∀ x ∈ ([] : List Addr), n ≤ x := fun x hx => nomatch hx
theorem own_lt_t {x y : Int64} (h : x < y) : lcmpW x y < 0 := by rw [lcW]; exact (lc_lt _ _).mpr h
theorem own_lt_f {x y : Int64} (h : ¬ x < y) : ¬ lcmpW x y < 0 := by rw [lcW]; exact fun k => h ((lc_lt _ _).mp k)
theorem own_gt_t {x y : Int64} (h : y < x) : 0 < lcmpW x y := by rw [lcW]; exact (lc_gt _ _).mpr h
theorem own_gt_f {x y : Int64} (h : ¬ y < x) : ¬ 0 < lcmpW x y := by rw [lcW]; exact fun k => h ((lc_gt _ _).mp k)
theorem own_eq_t {x y : Int64} (h : x = y) : lcmpW x y = 0 := by rw [lcW]; exact (lc_eq _ _).mpr h
theorem own_eq_f {x y : Int64} (h : ¬ x = y) : ¬ lcmpW x y = 0 := by rw [lcW]; exact fun k => h ((lc_eq _ _).mp k)
section OwnWords
variable {args : Array Value} {s : State} {t u : Term}
theorem own_eqi {k : Int32} (h : (Jvm.Cond.eq t (.int k)).value args s none s [] = some true) : t.eval args s none [] s = some (.int k) := by
  simp only [Cond.value, Term.eval] at h
  cases ht : t.eval args s none [] s with
  | none => simp [ht] at h
  | some x => cases x <;> simp [ht] at h ⊢; exact h
theorem own_eqr {b : Addr} (h : (Jvm.Cond.eq t u).value args s none s [] = some true) (hu : u.eval args s none [] s = some (.ref b)) : t.eval args s none [] s = some (.ref b) := by
  simp only [Cond.value, hu] at h
  cases ht : t.eval args s none [] s with
  | none => simp [ht] at h
  | some x => cases x <;> simp [ht] at h ⊢; exact h
theorem own_len {a : Addr} {k : Int32} {n : Nat} {cl : Cell} {ty : FieldType} (ht : t.eval args s none [] s = some (.ref a)) (h : (Term.length t).eval args s none [] s = some (.int k)) (A : RoadKit.Arr s s.heap a cl ty) (hk : k.toNatClampNeg = n) : cl.slots.size = n := by
  have ha : s.arrayAt? a = some cl := A.fin (Vm.Alike.refl _)
  by_cases hn : cl.slots.size < 2 ^ 31
  · rw [len_f ht ha hn] at h
    have e := Value.int.inj (Option.some.inj h)
    have q : cl.slots.size.toInt32.toInt = cl.slots.size := len_toInt hn
    rw [← hk, ← e]
    show _ = cl.slots.size.toInt32.toInt.toNat
    rw [q]; rfl
  · simp [Term.eval, ht, ha, hn] at h
theorem own_elem {a : Addr} {j : Int32} {v : Value} {cl : Cell} (ht : t.eval args s none [] s = some (.ref a)) (h : (Term.elem t (.int j)).eval args s none [] s = some v) (hc : s.heap[a]? = some cl) : cl.slots[j.toNatClampNeg]? = some v := (elem_in h ht (Term.int_eval j) hc).2
end OwnWords
theorem own_fne {Z : State} {h : Heap} {a b : Addr} {C n d : String} {x y : Value} (F : Fld Z h a C n d x) (G : Fld Z h b C n d y) (hn : x ≠ y) : a ≠ b := fun e => by
  subst e
  obtain ⟨c1, cf1, k1, i1, f1, h1, h2, -, -, -, -, h7⟩ := F
  obtain ⟨c2, cf2, k2, i2, f2, g1, g2, -, -, -, -, g7⟩ := G
  cases h1.symm.trans g1
  cases h2.symm.trans g2
  exact hn (Option.some.inj (h7.symm.trans g7))
/-! an array whose elements are all known -/
def own_A (Z : State) (h : Heap) (a : Addr) (k : ClassId) (ty : FieldType) (vs : List Value) : Prop := ∃ c : Cell, RoadKit.Arr Z h a c ty ∧ c.cls = k ∧ c.slots = vs.toArray
section OwnArrays
variable {Z : State} {h h' : Heap} {a b : Addr} {k : ClassId} {ty : FieldType} {vs : List Value} {sl : Nat} {v : Value} {ws : List Addr}
theorem own_A.lt (F : own_A Z h a k ty vs) : a < h.size := by obtain ⟨c, A, -⟩ := F; exact A.lt
theorem own_A.ext (F : own_A Z h a k ty vs) (E : Ext h h') : own_A Z h' a k ty vs := by obtain ⟨c, A, r⟩ := F; exact ⟨c, A.ext E, r⟩
theorem own_A.other (F : own_A Z h b k ty vs) (W : Wr h h' a sl v) (q : b ≠ a) : own_A Z h' b k ty vs := by obtain ⟨c, A, r⟩ := F; exact ⟨c, A.other W q, r⟩
theorem own_A.keep (F : own_A Z h a k ty vs) (K : Keep h h' ws) (q : a ∉ ws) : own_A Z h' a k ty vs := by obtain ⟨c, A, r⟩ := F; exact ⟨c, ⟨K.2.1 a c A.1 q, A.2⟩, r⟩
theorem own_A.new {n : Int32} {N : Nat} (A : RoadKit.Arr Z h a (newA k ty n) ty) (hN : n.toNatClampNeg = N) : own_A Z h a k ty (List.replicate N (defaultValue ty)) := ⟨_, A, rfl, by subst hN; simp [newA]⟩
theorem own_A.set (F : own_A Z h a k ty vs) (W : Wr h h' a sl v) : own_A Z h' a k ty (vs.set sl v) := by
  obtain ⟨c, A, q, e⟩ := F
  exact ⟨c.setSlot sl v, A.same W, q, by simp [Cell.setSlot, e]⟩
def own_el (c : Cell) : Nat → List Value → Prop
  | _, [] => True
  | i, v :: vs => c.slots[i]? = some v ∧ own_el c (i + 1) vs
theorem own_el_get {c : Cell} : ∀ (vs : List Value) (i : Nat), own_el c i vs → ∀ j, j < vs.length → c.slots[i + j]? = vs[j]?
  | [], _, _, j, hj => by simp at hj
  | v :: vs, i, H, 0, _ => by simpa using H.1
  | v :: vs, i, H, j + 1, hj => by
    have := own_el_get vs (i + 1) H.2 j (by simpa using hj)
    rw [show i + (j + 1) = i + 1 + j by omega, this]; simp
theorem own_A.of {c : Cell} (A : RoadKit.Arr Z h a c ty) (hs : c.slots.size = vs.length) (H : own_el c 0 vs) : own_A Z h a c.cls ty vs := by
  refine ⟨c, A, rfl, ?_⟩
  apply Array.ext_getElem?
  intro i
  by_cases hi : i < vs.length
  · have := own_el_get vs 0 H i hi
    rw [Nat.zero_add] at this
    rw [this]; simp
  · rw [Array.getElem?_eq_none (by omega), Array.getElem?_eq_none (by simp; omega)]
theorem own_getD {α : Type} (xs : List α) {i : Nat} (d : α) (hi : i < xs.length) : xs.getD i d = xs[i] := by simp [List.getD, hi]
theorem own_A.arv {z : Int32} {d : Value} (F : own_A Z h a k ty vs) (hz : ¬ z < 0) (hl : vs.length = z.toNatClampNeg) (hf : ∀ v ∈ vs, fits ty v = true) : Arv Z h a k ty z vs d := by
  obtain ⟨c, A, q, e⟩ := F
  refine ⟨c, A, q, by rw [e, List.size_toArray]; exact hl, hz, fun i hi => ?_, fun i hi => ?_⟩
  · rw [e, List.size_toArray] at hi
    rw [e, List.getElem?_toArray, List.getElem?_eq_getElem hi, own_getD _ _ hi]
  · rw [e, List.size_toArray] at hi
    rw [own_getD _ _ hi]; exact hf _ (List.getElem_mem hi)
theorem own_A.of_arv {z : Int32} {d : Value} (F : Arv Z h a k ty z vs d) (hl : vs.length = z.toNatClampNeg) : own_A Z h a k ty vs := by
  obtain ⟨c, A, q, S, -, H, -⟩ := F
  refine ⟨c, A, q, ?_⟩
  apply Array.ext_getElem?
  intro i
  by_cases hi : i < vs.length
  · rw [H i (by omega), List.getElem?_toArray, List.getElem?_eq_getElem hi, own_getD _ _ hi]
  · rw [Array.getElem?_eq_none (by omega), Array.getElem?_eq_none (by simp; omega)]
theorem own_A.sto {C : String} {y : Addr} (F : own_A Z h a k (.object C) vs) (O : Ovr Z k C) (I : Ins Z h y C true) : Sto Z h a (.ref y) := by
  obtain ⟨c, A, q, -⟩ := F
  exact Sto.ofV A q O I
variable {p : Program} {l : Launch} {e : Env} {R : Room} {s : State} {m : MethodId} {args : Array Value} {below : List Frame} {meth : Method} {c : Code} {T : State} {locs : List Loc} {cells slots : Nat}
theorem own_alen (X : Stand p l e R s m args below meth c T locs cells slots) (hx : p.tables.exec = Jvm.exec) (hZ : Z.Warmed39 s.vm) (eT : T.heap = h) (A : own_A Z h a k ty vs) {g : JFrame} (hg : g.method = m) {rest : List Value} (hs : g.stack = .ref a :: rest) (hd : decode c.code g.pc = .ok (.arraylength, 1)) {n : Int32} (hn : vs.length.toInt32 = n) {target : State}
    (hr : Steps p.tables e below (T.setTop { g with pc := g.pc + 1, stack := .int n :: rest }) target) : Steps p.tables e below (T.setTop g) target := by
  obtain ⟨c', A, -, e'⟩ := A
  refine X.arraylength hx (by rw [eT]; exact A.1) (State.isArrayOf_alike hZ.alike A.2.1) hg hs hd _ ?_
  rw [show c'.slots.size.toInt32 = n by rw [e', List.size_toArray]; exact hn]
  exact hr
theorem own_in {c' : Cell} {j : Int32} (e' : c'.slots = vs.toArray) (hj : ¬ j < 0) (hv : vs[j.toNatClampNeg]? = some v) : c'.slots[j.toNatClampNeg]? = some v ∧ ¬ (j < 0 ∨ c'.slots.size ≤ j.toNatClampNeg) := by
  have hv' : c'.slots[j.toNatClampNeg]? = some v := by rw [e', List.getElem?_toArray]; exact hv
  exact ⟨hv', fun q => q.elim hj fun z => absurd (Array.getElem?_eq_some_iff.mp hv').1 (Nat.not_lt.mpr z)⟩
theorem own_baload (X : Stand p l e R s m args below meth c T locs cells slots) (hx : p.tables.exec = Jvm.exec) (hZ : Z.Warmed39 s.vm) (eT : T.heap = h) (A : own_A Z h a k .byte vs) {j : Int32} (hj : ¬ j < 0) (hv : vs[j.toNatClampNeg]? = some v) {g : JFrame} (hg : g.method = m) {rest : List Value} (hs : g.stack = .int j :: .ref a :: rest) (hd : decode c.code g.pc = .ok (.baload, 1)) {target : State}
    (hr : Steps p.tables e below (T.setTop { g with pc := g.pc + 1, stack := v :: rest }) target) : Steps p.tables e below (T.setTop g) target := by
  obtain ⟨c', A, -, e'⟩ := A
  obtain ⟨hv', hin⟩ := own_in e' hj hv
  exact X.baloadBytes hx (by rw [eT]; exact A.1) (State.isArrayOf_alike hZ.alike A.2.1) A.2.2 hin hv' hg hs hd _ hr
theorem own_laload (X : Stand p l e R s m args below meth c T locs cells slots) (hx : p.tables.exec = Jvm.exec) (hZ : Z.Warmed39 s.vm) (eT : T.heap = h) (A : own_A Z h a k .long vs) {j : Int32} (hj : ¬ j < 0) (hv : vs[j.toNatClampNeg]? = some v) {g : JFrame} (hg : g.method = m) {rest : List Value} (hs : g.stack = .int j :: .ref a :: rest) (hd : decode c.code g.pc = .ok (.laload, 1)) {target : State}
    (hr : Steps p.tables e below (T.setTop { g with pc := g.pc + 1, stack := v :: rest }) target) : Steps p.tables e below (T.setTop g) target := by
  obtain ⟨c', A, -, e'⟩ := A
  obtain ⟨hv', hin⟩ := own_in e' hj hv
  exact X.laload hx (by rw [eT]; exact A.1) (State.isArrayOf_alike hZ.alike A.2.1) A.2.2 hin hv' hg hs hd _ hr
theorem own_iaload (X : Stand p l e R s m args below meth c T locs cells slots) (hx : p.tables.exec = Jvm.exec) (hZ : Z.Warmed39 s.vm) (eT : T.heap = h) (A : own_A Z h a k .int vs) {j : Int32} (hj : ¬ j < 0) (hv : vs[j.toNatClampNeg]? = some v) {g : JFrame} (hg : g.method = m) {rest : List Value} (hs : g.stack = .int j :: .ref a :: rest) (hd : decode c.code g.pc = .ok (.iaload, 1)) {target : State}
    (hr : Steps p.tables e below (T.setTop { g with pc := g.pc + 1, stack := v :: rest }) target) : Steps p.tables e below (T.setTop g) target := by
  obtain ⟨c', A, -, e'⟩ := A
  obtain ⟨hv', hin⟩ := own_in e' hj hv
  exact X.iaload hx (by rw [eT]; exact A.1) (State.isArrayOf_alike hZ.alike A.2.1) A.2.2 hin hv' hg hs hd _ hr
theorem own_caload (X : Stand p l e R s m args below meth c T locs cells slots) (hx : p.tables.exec = Jvm.exec) (hZ : Z.Warmed39 s.vm) (eT : T.heap = h) (A : own_A Z h a k .char vs) {j : Int32} (hj : ¬ j < 0) (hv : vs[j.toNatClampNeg]? = some v) {g : JFrame} (hg : g.method = m) {rest : List Value} (hs : g.stack = .int j :: .ref a :: rest) (hd : decode c.code g.pc = .ok (.caload, 1)) {target : State}
    (hr : Steps p.tables e below (T.setTop { g with pc := g.pc + 1, stack := v :: rest }) target) : Steps p.tables e below (T.setTop g) target := by
  obtain ⟨c', A, -, e'⟩ := A
  obtain ⟨hv', hin⟩ := own_in e' hj hv
  exact X.caload hx (by rw [eT]; exact A.1) (State.isArrayOf_alike hZ.alike A.2.1) A.2.2 hin hv' hg hs hd _ hr
theorem own_aaload (X : Stand p l e R s m args below meth c T locs cells slots) (hx : p.tables.exec = Jvm.exec) (hZ : Z.Warmed39 s.vm) (eT : T.heap = h) (A : own_A Z h a k ty vs) {j : Int32} (hj : ¬ j < 0) (hv : vs[j.toNatClampNeg]? = some v) (ht : ty.isReference = true) {g : JFrame} (hg : g.method = m) {rest : List Value} (hs : g.stack = .int j :: .ref a :: rest) (hd : decode c.code g.pc = .ok (.aaload, 1)) {target : State}
    (hr : Steps p.tables e below (T.setTop { g with pc := g.pc + 1, stack := v :: rest }) target) : Steps p.tables e below (T.setTop g) target := by
  obtain ⟨c', A, -, e'⟩ := A
  obtain ⟨hv', hin⟩ := own_in e' hj hv
  exact X.aaload hx (by rw [eT]; exact A.1) (State.isArrayOf_alike hZ.alike A.2.1) ht A.2.2 hin hv' hg hs hd _ hr
theorem own_inb {c' : Cell} {j : Int32} {i : Nat} (e' : c'.slots = vs.toArray) (hi : j.toNatClampNeg = i) (hj : ¬ j < 0) (hl : i < vs.length) : ¬ (j < 0 ∨ c'.slots.size ≤ j.toNatClampNeg) := fun q => q.elim hj fun z => by
  rw [e', List.size_toArray, hi] at z; omega
theorem own_bastore (X : Stand p l e R s m args below meth c T locs cells slots) (hx : p.tables.exec = Jvm.exec) (hZ : Z.Warmed39 s.vm) (eT : T.heap = h) (A : own_A Z h a k .byte vs) {j x : Int32} {i : Nat} (hi : j.toNatClampNeg = i) (hj : ¬ j < 0) (hl : i < vs.length) {g : JFrame} (hg : g.method = m) {rest : List Value} (hs : g.stack = .int x :: .int j :: .ref a :: rest) (hd : decode c.code g.pc = .ok (.bastore, 1)) :
    ∃ T' h', Stand p l e R s m args below meth c T' (locs ++ [⟨a, i⟩]) cells slots ∧ T'.heap = h' ∧ own_A Z h' a k .byte (vs.set i (.int (nar .byte x))) ∧ Wr h h' a i (.int (nar .byte x)) ∧ ∀ target, Steps p.tables e below (T'.setTop { g with pc := g.pc + 1, stack := rest }) target → Steps p.tables e below (T.setTop g) target := by
  obtain ⟨c', A', q, e'⟩ := A
  obtain ⟨T', h', X', e1, W, st⟩ := stB X hx hZ eT A' (own_inb e' hi hj hl) hg hs hd
  subst hi
  exact ⟨T', h', X', e1, own_A.set ⟨c', A', q, e'⟩ W, W, st⟩
theorem own_lastore (X : Stand p l e R s m args below meth c T locs cells slots) (hx : p.tables.exec = Jvm.exec) (hZ : Z.Warmed39 s.vm) (eT : T.heap = h) (A : own_A Z h a k .long vs) {j : Int32} {x : Int64} {i : Nat} (hi : j.toNatClampNeg = i) (hj : ¬ j < 0) (hl : i < vs.length) {g : JFrame} (hg : g.method = m) {rest : List Value} (hs : g.stack = .long x :: .int j :: .ref a :: rest) (hd : decode c.code g.pc = .ok (.lastore, 1)) :
    ∃ T' h', Stand p l e R s m args below meth c T' (locs ++ [⟨a, i⟩]) cells slots ∧ T'.heap = h' ∧ own_A Z h' a k .long (vs.set i (.long x)) ∧ Wr h h' a i (.long x) ∧ ∀ target, Steps p.tables e below (T'.setTop { g with pc := g.pc + 1, stack := rest }) target → Steps p.tables e below (T.setTop g) target := by
  obtain ⟨c', A', q, e'⟩ := A
  obtain ⟨T', h', X', e1, W, st⟩ := stJ X hx hZ eT A' (own_inb e' hi hj hl) hg hs hd
  subst hi
  exact ⟨T', h', X', e1, own_A.set ⟨c', A', q, e'⟩ W, W, st⟩
theorem own_aastore (X : Stand p l e R s m args below meth c T locs cells slots) (hx : p.tables.exec = Jvm.exec) (hZ : Z.Warmed39 s.vm) (eT : T.heap = h) (A : own_A Z h a k ty vs) {j : Int32} {i : Nat} (hi : j.toNatClampNeg = i) (hj : ¬ j < 0) (hl : i < vs.length) (ht : ty.isReference = true) (F : Sto Z h a v) {g : JFrame} (hg : g.method = m) {rest : List Value} (hs : g.stack = v :: .int j :: .ref a :: rest) (hd : decode c.code g.pc = .ok (.aastore, 1)) :
    ∃ T' h', Stand p l e R s m args below meth c T' (locs ++ [⟨a, i⟩]) cells slots ∧ T'.heap = h' ∧ own_A Z h' a k ty (vs.set i v) ∧ Wr h h' a i v ∧ ∀ target, Steps p.tables e below (T'.setTop { g with pc := g.pc + 1, stack := rest }) target → Steps p.tables e below (T.setTop g) target := by
  obtain ⟨c', A', q, e'⟩ := A
  obtain ⟨T', h', X', e1, W, st⟩ := stR X hx hZ eT A' (own_inb e' hi hj hl) ht F hg hs hd
  subst hi
  exact ⟨T', h', X', e1, own_A.set ⟨c', A', q, e'⟩ W, W, st⟩
end OwnArrays
theorem own_neA {Z : State} {h : Heap} {x b : Addr} {C : String} {k : ClassId} {ty : FieldType} {vs : List Value} {a0 : Array Value} {n : Nat} (E : Exa Z h x C) (w : (Jvm.Cond.instantiable C n).before a0 Z = true) (F : own_A Z h b k ty vs) : x ≠ b := by
  obtain ⟨c, A, -⟩ := F
  exact ne_arr E w A
def own_low (p : Int64) (s : Int32) : Int32 := (((p.toUInt64 >>> (s &&& 0x3f).toInt64.toUInt64).toInt64).toInt32).toInt16.toInt32
def own_raw (p : Int64) (s : Int32) : Int32 := ((((p.toUInt64 >>> ((s + (16 : Int32)) &&& 0x3f).toInt64.toUInt64).toInt64) &&& (65535 : Int64)).toInt32)
def own_lng (p : Int64) (s : Int32) : Int32 := (own_raw p s % ((32768 : Int32) - own_low p s)) + (1 : Int32)
def own_min (a b : Int64) : Int64 := if b < a then b else a
theorem own_lowR (p : Int64) (s : Int32) : -32768 ≤ (own_low p s).toInt ∧ (own_low p s).toInt ≤ 32767 := by
  unfold own_low
  generalize (((p.toUInt64 >>> (s &&& 0x3f).toInt64.toUInt64).toInt64).toInt32).toInt16 = u
  rw [Int16.toInt_toInt32]
  have h1 := Int16.le_toInt u
  have h2 := Int16.toInt_lt u
  omega
theorem own_rawR (p : Int64) (s : Int32) : 0 ≤ (own_raw p s).toInt ∧ (own_raw p s).toInt ≤ 65535 := by
  unfold own_raw
  generalize (p.toUInt64 >>> ((s + (16 : Int32)) &&& 0x3f).toInt64.toUInt64).toInt64 = u
  have h : (u &&& (65535 : Int64)).toInt = u.toInt % 2 ^ 16 := Jvm.Kit.i64_mask u 65535 (k := 16) (by decide) (by decide)
  rw [Jvm.Kit.i32_of_i64 (by omega) (by omega)]
  omega
theorem own_mR (p : Int64) (s : Int32) : ((32768 : Int32) - own_low p s).toInt = 32768 - (own_low p s).toInt := by
  have h := own_lowR p s
  have h3 : (32768 : Int32).toInt = 32768 := rfl
  rw [Jvm.Kit.i32_sub (by omega) (by omega)]; omega
theorem own_lnz (p : Int64) (s : Int32) : (32768 : Int32) - own_low p s ≠ 0 := fun q => by
  have h := own_mR p s
  have h2 := own_lowR p s
  rw [q] at h
  have h3 : (0 : Int32).toInt = 0 := rfl
  omega
theorem own_lenR (p : Int64) (s : Int32) : 1 ≤ (own_lng p s).toInt ∧ (own_lng p s).toInt ≤ 65536 := by
  have h1 := own_lowR p s
  have h2 := own_rawR p s
  have h3 := own_mR p s
  have h4 : (own_raw p s % ((32768 : Int32) - own_low p s)).toInt = (own_raw p s).toInt % ((32768 : Int32) - own_low p s).toInt := Jvm.Kit.i32_rem_nonneg h2.1
  have h5 := Int.emod_nonneg (own_raw p s).toInt (b := ((32768 : Int32) - own_low p s).toInt) (by omega)
  have h6 := Int.emod_lt_of_pos (own_raw p s).toInt (b := ((32768 : Int32) - own_low p s).toInt) (by omega)
  have h7 : (1 : Int32).toInt = 1 := rfl
  unfold own_lng
  rw [Jvm.Kit.i32_add (by omega) (by omega)]
  omega
theorem own_ljR {P : Prop} [Decidable P] {p : Int64} {s z : Int32} (h : (if P then own_lng p s else (1 : Int32)) = z) : 1 ≤ z.toInt ∧ z.toInt ≤ 65536 := by
  subst h
  split
  · exact own_lenR p s
  · exact ⟨by decide, by decide⟩
theorem own_m31 (x : Int32) : (x &&& 2147483647).toInt = x.toInt % 2 ^ 31 := Jvm.Kit.i32_mask x 2147483647 (k := 31) (by decide) (by decide)
theorem own_ofn {n : Nat} (h : n < 2 ^ 31) : (Int32.ofNat n).toInt = n := Int32.toInt_ofNat_small h
theorem own_ofn64 {n : Nat} (h : n < 2 ^ 63) : (Int64.ofNat n).toInt = n := Int64.toInt_ofNat_of_lt h
theorem own_nd (x : Int32) : ∃ N : Nat, (((x &&& (2147483647 : Int32)) % (6 : Int32)) + (1 : Int32)) = Int32.ofNat N ∧ 1 ≤ N ∧ N ≤ 6 := by
  have h1 := own_m31 x
  have h2 : ((x &&& 2147483647) % 6).toInt = (x &&& 2147483647).toInt % (6 : Int32).toInt := Jvm.Kit.i32_rem_nonneg (by omega)
  have h3 : (6 : Int32).toInt = 6 := rfl
  have h4 : (1 : Int32).toInt = 1 := rfl
  rw [h3] at h2
  have h5 : (((x &&& 2147483647) % 6) + 1).toInt = ((x &&& 2147483647) % 6).toInt + 1 := by rw [Jvm.Kit.i32_add (by omega) (by omega)]; omega
  refine ⟨(((x &&& 2147483647) % 6) + 1).toInt.toNat, ?_, by omega, by omega⟩
  apply Int32.toInt_inj.mp
  rw [own_ofn (by omega)]; omega
theorem own_ltN {k N : Nat} (hk : k ≤ 6) (hN : N ≤ 6) : Int32.ofNat k < Int32.ofNat N ↔ k < N := by
  rw [Int32.lt_iff_toInt_lt, own_ofn (by omega), own_ofn (by omega)]; omega
theorem own_lt1 {k N : Nat} (hk : k ≤ 6) (hN : N ≤ 6) (h : Int32.ofNat k < Int32.ofNat N) : k < N := (own_ltN hk hN).mp h
theorem own_lt0 {k N : Nat} (hk : k ≤ 6) (hN : N ≤ 6) (h : ¬ Int32.ofNat k < Int32.ofNat N) : N ≤ k := by rw [own_ltN hk hN] at h; omega
theorem own_ltF {j k N : Nat} (hk : k ≤ 6) (hN : N ≤ 6) (hj : j ≤ k) (h : ¬ Int32.ofNat j < Int32.ofNat N) : ¬ Int32.ofNat k < Int32.ofNat N := by
  have := own_lt0 (by omega) hN h
  rw [own_ltN hk hN]; omega
theorem own_cl {n : Nat} (h : n < 2 ^ 31) : (Int32.ofNat n).toNatClampNeg = n := by
  show (Int32.ofNat n).toInt.toNat = n
  rw [own_ofn h]; rfl
theorem own_nneg {n : Nat} (h : n < 2 ^ 31) : ¬ Int32.ofNat n < 0 := by
  rw [Int32.lt_iff_toInt_lt, own_ofn h]; have : (0 : Int32).toInt = 0 := rfl
  omega
theorem own_succ (n : Nat) : Int32.ofNat n + (1 : Int32) = Int32.ofNat (n + 1) := Int32.ofNat_succ n
theorem own_pred (n : Nat) : Int32.ofNat (n + 1) - (1 : Int32) = Int32.ofNat n := by rw [← own_succ]; grind
theorem own_dec (n : Nat) : Int32.ofNat n + (-1 : Int32) = Int32.ofNat n - (1 : Int32) := by grind
theorem own_ring (a b : Int32) : (a + b - (1 : Int32)) - a + (1 : Int32) = b := by grind
/-! the strides -/
def own_R (l : Nat → Nat) : Nat → Nat
  | 0 => 1
  | d + 1 => own_R l d * l (5 - d)
theorem own_R1 {l : Nat → Nat} (h : ∀ j, 1 ≤ l j) : ∀ d, 1 ≤ own_R l d
  | 0 => Nat.le_refl 1
  | d + 1 => Nat.mul_pos (own_R1 h d) (h _)
theorem own_RN {l : Nat → Nat} {N : Nat} (h : ∀ j, N ≤ j → j < 6 → l j = 1) : ∀ d, d ≤ 6 - N → own_R l d = 1
  | 0, _ => rfl
  | d + 1, hd => by
    show own_R l d * l (5 - d) = 1
    rw [own_RN h d (by omega), h (5 - d) (by omega) (by omega)]
def own_nl (ln : Nat → Int32) (j : Nat) : Nat := (ln j).toInt.toNat
def own_q (X : Nat) (ln : Nat → Int32) (t : Nat) : Int32 := Int32.ofNat (X / own_R (own_nl ln) (6 - t))
def own_w (X : Nat) (lo ln : Nat → Int32) (j : Nat) : Int32 := lo j + own_q X ln (j + 1) % ln j
theorem own_minI (a b : Int64) : (own_min a b).toInt = min a.toInt b.toInt := by
  unfold own_min
  split
  · rename_i h; rw [Int64.lt_iff_toInt_lt] at h; omega
  · rename_i h; rw [Int64.lt_iff_toInt_lt] at h; omega
theorem own_mul {x : Int64} {y : Int32} {a b : Nat} (hx : x.toInt = a) (hy : y.toInt = b) (ha : a ≤ 4294967296) (hb : b ≤ 65536) : (x * y.toInt64).toInt = ((a * b : Nat) : Int) := by
  have h : a * b ≤ 4294967296 * 65536 := Nat.mul_le_mul ha hb
  have e : x.toInt * y.toInt64.toInt = ((a * b : Nat) : Int) := by rw [Jvm.Kit.i64_of_i32, hx, hy]; exact (Int.natCast_mul a b).symm
  rw [Jvm.Kit.i64_mul (by omega) (by omega), e]
theorem own_cap {R l : Nat} {C : Nat} (hl : 1 ≤ l) : min (min R C * l) C = min (R * l) C := by
  rcases Nat.le_total R C with h | h
  · rw [Nat.min_eq_left h]
  · rw [Nat.min_eq_right h]
    have h1 : C * 1 ≤ C * l := Nat.mul_le_mul_left C hl
    have h2 : R * 1 ≤ R * l := Nat.mul_le_mul_left R hl
    omega
theorem own_str {s z : Int64} {y : Int32} {R l : Nat} (h : own_min (s * y.toInt64) (4294967296 : Int64) = z) (hs : s.toInt = ((min R 4294967296 : Nat) : Int)) (hy : y.toInt = l) (hl : 1 ≤ l) (hl2 : l ≤ 65536) : z.toInt = ((min (R * l) 4294967296 : Nat) : Int) := by
  rw [← h, own_minI, own_mul hs hy (by omega) hl2, ← own_cap hl]
  have : (4294967296 : Int64).toInt = 4294967296 := rfl
  omega
theorem own_cnt {s z : Int64} {y : Int32} (h : own_min (s * y.toInt64) (2147483648 : Int64) = z) (hs : 1 ≤ s.toInt ∧ s.toInt ≤ 2147483648) (hy : 1 ≤ y.toInt ∧ y.toInt ≤ 65536) : 1 ≤ z.toInt ∧ z.toInt ≤ 2147483648 := by
  have e : (s * y.toInt64).toInt = ((s.toInt.toNat * y.toInt.toNat : Nat) : Int) := own_mul (by omega) (by omega) (by omega) (by omega)
  have p : 1 ≤ s.toInt.toNat * y.toInt.toNat := Nat.mul_pos (by omega) (by omega)
  rw [← h, own_minI, e]
  have : (2147483648 : Int64).toInt = 2147483648 := rfl
  omega
theorem own_nz64 {x : Int64} (h : 1 ≤ x.toInt) : x ≠ 0 := fun q => by
  rw [q] at h; exact absurd h (by decide)
theorem own_nz32 {x : Int32} (h : 1 ≤ x.toInt) : x ≠ 0 := fun q => by
  rw [q] at h; exact absurd h (by decide)
theorem own_idx (x : Int32) {k : Int64} (hk : 1 ≤ k.toInt ∧ k.toInt ≤ 2147483648) : ∃ X : Nat, (((x.toInt64) &&& (2147483647 : Int64)) - ((((x.toInt64) &&& (2147483647 : Int64)) / k) * k)) = Int64.ofNat X ∧ X < 2147483648 := by
  have h1 : ((x.toInt64) &&& (2147483647 : Int64)).toInt = x.toInt64.toInt % 2 ^ 31 := Jvm.Kit.i64_mask _ 2147483647 (k := 31) (by decide) (by decide)
  generalize ((x.toInt64) &&& (2147483647 : Int64)) = u at h1 ⊢
  have h2 : (u - (u / k) * k).toInt = u.toInt % k.toInt := Jvm.Kit.i64_rem_nonneg (by omega)
  have h3 := Int.emod_nonneg u.toInt (b := k.toInt) (by omega)
  have h4 := Int.emod_lt_of_pos u.toInt (b := k.toInt) (by omega)
  refine ⟨(u - (u / k) * k).toInt.toNat, ?_, by omega⟩
  apply Int64.toInt_inj.mp
  rw [own_ofn64 (by omega)]; omega
theorem own_q0 {X N : Nat} {ln : Nat → Int32} (hX : X < 2147483648) (h : ∀ j, N ≤ j → j < 6 → ln j = 1) (hN : N ≤ 6) : own_q X ln N = (Int64.ofNat X).toInt32 := by
  unfold own_q
  rw [own_RN (l := own_nl ln) (N := N) (fun j h1 h2 => by unfold own_nl; rw [h j h1 h2]; rfl) (6 - N) (Nat.le_refl _), Nat.div_one]
  apply Int32.toInt_inj.mp
  rw [own_ofn (by omega), Jvm.Kit.i32_of_i64 (by rw [own_ofn64 (by omega)]; omega) (by rw [own_ofn64 (by omega)]; omega), own_ofn64 (by omega)]
theorem own_nlI {ln : Nat → Int32} {j : Nat} (h : 1 ≤ (ln j).toInt) : (ln j).toInt = (own_nl ln j : Nat) := by unfold own_nl; omega
theorem own_qs {X t : Nat} {ln : Nat → Int32} (hX : X < 2147483648) (hl : ∀ j, 1 ≤ (ln j).toInt ∧ (ln j).toInt ≤ 65536) (ht : t < 6) : own_q X ln (t + 1) / ln t = own_q X ln t := by
  unfold own_q
  have e : own_R (own_nl ln) (6 - t) = own_R (own_nl ln) (6 - (t + 1)) * own_nl ln t := by
    rw [show 6 - t = (6 - (t + 1)) + 1 by omega]
    show own_R (own_nl ln) (6 - (t + 1)) * own_nl ln (5 - (6 - (t + 1))) = _
    rw [show 5 - (6 - (t + 1)) = t by omega]
  rw [e, ← Nat.div_div_eq_div_mul]
  generalize own_R (own_nl ln) (6 - (t + 1)) = R
  have b1 : X / R ≤ X := Nat.div_le_self _ _
  have b2 : X / R / own_nl ln t ≤ X / R := Nat.div_le_self _ _
  have l := own_nlI (hl t).1
  apply Int32.toInt_inj.mp
  rw [Jvm.Kit.i32_div (by rw [own_ofn (by omega)]; omega), own_ofn (by omega), own_ofn (by omega), l, Int.tdiv_eq_ediv_of_nonneg (Int.natCast_nonneg _)]
  rfl
theorem own_dv {X R : Nat} (hX : X < 2147483648) : X / min R 4294967296 = X / R := by
  rcases Nat.le_total R 4294967296 with h | h
  · rw [Nat.min_eq_left h]
  · rw [Nat.min_eq_right h, Nat.div_eq_of_lt (by omega), Nat.div_eq_of_lt (by omega)]
theorem own_dig {X k : Nat} {lo ln : Nat → Int32} {s : Int64} (hk : k ≤ 5) (hX : X < 2147483648) (hlo : -32768 ≤ (lo k).toInt ∧ (lo k).toInt ≤ 32767) (hl : ∀ j, 1 ≤ (ln j).toInt ∧ (ln j).toInt ≤ 65536) (hs : s.toInt = ((min (own_R (own_nl ln) (5 - k)) 4294967296 : Nat) : Int)) :
    (own_w X lo ln k).toInt64 = (lo k).toInt64 + ((Int64.ofNat X / s) - ((Int64.ofNat X / s) / (ln k).toInt64) * (ln k).toInt64) := by
  unfold own_w own_q
  rw [show 6 - (k + 1) = 5 - k by omega]
  generalize own_R (own_nl ln) (5 - k) = R at hs ⊢
  have l := own_nlI (hl k).1
  have lk := hl k
  generalize ln k = y at l lk ⊢
  generalize own_nl ln k = L at l
  have b1 : X / R ≤ X := Nat.div_le_self _ _
  have d1 : (Int64.ofNat X / s).toInt = ((X / R : Nat) : Int) := by
    rw [Jvm.Kit.i64_div (by rw [own_ofn64 (by omega)]; omega), own_ofn64 (by omega), hs, Int.tdiv_eq_ediv_of_nonneg (by omega), ← own_dv (R := R) hX]
    rfl
  have d2 : ((Int64.ofNat X / s) - ((Int64.ofNat X / s) / y.toInt64) * y.toInt64).toInt = ((X / R : Nat) : Int) % y.toInt := by
    rw [Jvm.Kit.i64_rem_nonneg (by rw [d1]; exact Int.natCast_nonneg _), d1, Jvm.Kit.i64_of_i32]
  have d3 : (Int32.ofNat (X / R) % y).toInt = ((X / R : Nat) : Int) % y.toInt := by
    rw [Jvm.Kit.i32_rem_nonneg (by rw [own_ofn (by omega)]; exact Int.natCast_nonneg _), own_ofn (by omega)]
  have h3 := Int.emod_nonneg ((X / R : Nat) : Int) (b := y.toInt) (by omega)
  have h4 := Int.emod_lt_of_pos ((X / R : Nat) : Int) (b := y.toInt) (by omega)
  apply Int64.toInt_inj.mp
  rw [Jvm.Kit.i64_of_i32, Jvm.Kit.i32_add (by omega) (by omega), Jvm.Kit.i64_add (by rw [Jvm.Kit.i64_of_i32]; omega) (by rw [Jvm.Kit.i64_of_i32]; omega), Jvm.Kit.i64_of_i32, d2, d3]
/-! arrays by a function of the index -/
def own_up (f : Nat → Int32) (i j : Nat) : Value := if j < i then .int (f j) else .int 0
def own_dn (f : Nat → UInt64) (t j : Nat) : Value := if t ≤ j then .double (f j) else .double 0
theorem own_rg {f : Nat → Value} {N i : Nat} (h : i < N) : ((List.range N).map f)[i]? = some (f i) := by simp [h]
theorem own_rs {f : Nat → Value} {N i : Nat} {v : Value} : ((List.range N).map f).set i v = (List.range N).map (fun j => if j = i then v else f j) := by
  apply List.ext_getElem?
  intro j
  rw [List.getElem?_set]
  by_cases hj : j < N
  · by_cases q : i = j
    · subst q; simp [hj]
    · simp [q, hj, Ne.symm q]
  · by_cases q : i = j
    · subst q; simp [hj]
    · simp [q, hj]
theorem own_rc {f g : Nat → Value} {N : Nat} (h : ∀ j, j < N → f j = g j) : (List.range N).map f = (List.range N).map g := List.map_congr_left fun j hj => h j (List.mem_range.mp hj)
theorem own_rr {f : Nat → Value} {N : Nat} {v : Value} (h : ∀ j, j < N → f j = v) : List.replicate N v = (List.range N).map f :=
  (List.eq_replicate_iff.mpr ⟨by simp, fun b hb => by obtain ⟨j, hj, rfl⟩ := List.mem_map.mp hb; exact h j (List.mem_range.mp hj)⟩).symm
theorem own_rlen {f : Nat → Value} {N i : Nat} (h : i < N) : i < ((List.range N).map f).length := by simpa using h
theorem own_rl {f : Nat → Value} {N : Nat} : ((List.range N).map f).length.toInt32 = Int32.ofNat N := by rw [List.length_map, List.length_range]
theorem own_uset {f : Nat → Int32} {N i : Nat} : ((List.range N).map (own_up f i)).set i (.int (f i)) = (List.range N).map (own_up f (i + 1)) := by
  rw [own_rs]
  refine own_rc fun j _ => ?_
  unfold own_up
  by_cases q : j = i
  · subst q; simp
  · by_cases r : j < i
    · simp [q, r, show j < i + 1 by omega]
    · simp [q, r, show ¬ j < i + 1 by omega]
theorem own_dset {f : Nat → UInt64} {N t : Nat} : ((List.range N).map (own_dn f (t + 1))).set t (.double (f t)) = (List.range N).map (own_dn f t) := by
  rw [own_rs]
  refine own_rc fun j _ => ?_
  unfold own_dn
  by_cases q : j = t
  · subst q; simp
  · by_cases r : t ≤ j
    · simp [q, r, show t + 1 ≤ j by omega]
    · simp [q, r, show ¬ t + 1 ≤ j by omega]
theorem own_ug {f : Nat → Int32} {N M i : Nat} (h : i < N) (h2 : i < M) : ((List.range N).map (own_up f M))[i]? = some (.int (f i)) := by rw [own_rg h]; simp [own_up, h2]
theorem own_dg {f : Nat → UInt64} {N i : Nat} (h : i < N) : ((List.range N).map (own_dn f 0))[i]? = some (.double (f i)) := by rw [own_rg h]; simp [own_dn]
theorem own_vi {vs : List Value} {n : Nat} {v : Value} (hn : n < 2 ^ 31) (h : vs[n]? = some v) : vs[(Int32.ofNat n).toNatClampNeg]? = some v := by rw [own_cl hn]; exact h
theorem own_hD {N k X : Nat} {K : Int32} {lo ln : Nat → Int32} {s : Int64} (hK : K = Int32.ofNat k) (hk : k ≤ 5) (hN : N ≤ 6) (hX : X < 2147483648) (hlo : ∀ j, -32768 ≤ (lo j).toInt ∧ (lo j).toInt ≤ 32767) (hl : ∀ j, 1 ≤ (ln j).toInt ∧ (ln j).toInt ≤ 65536) (hs : s.toInt = ((min (own_R (own_nl ln) (5 - k)) 4294967296 : Nat) : Int)) (h : K < Int32.ofNat N) :
    ¬ K < 0 ∧ ((List.range N).map (own_dn (fun j => FP.i2d (own_w X lo ln j)) 0))[K.toNatClampNeg]? = some (.double (FP.i2d (own_w X lo ln k))) ∧ (own_w X lo ln k).toInt64 = (lo k).toInt64 + ((Int64.ofNat X / s) - ((Int64.ofNat X / s) / (ln k).toInt64) * (ln k).toInt64) ∧ s ≠ 0 ∧ (ln k).toInt64 ≠ 0 := by
  subst hK
  have hk' : k < N := own_lt1 (by omega) hN h
  have r1 := own_R1 (l := own_nl ln) (fun j => by have := hl j; unfold own_nl; omega) (5 - k)
  refine ⟨own_nneg (by omega), own_vi (by omega) (own_dg hk'), own_dig hk hX (hlo k) hl hs, own_nz64 (by rw [hs]; omega), own_nz64 (by rw [Jvm.Kit.i64_of_i32]; exact (hl k).1)⟩
theorem own_dc {w : Int32} {e : Int64} (h : w.toInt64 = e) : cmpValue (FP.dcmp (FP.i2d w) (FP.l2d e)) .l = 0 := by
  subst h
  exact dcmpV_eq (i2d_w w) (nn_w (i2d_w w)) .l
def own_l6 {α : Type} (a b c d e f : α) : Nat → α
  | 0 => a
  | 1 => b
  | 2 => c
  | 3 => d
  | 4 => e
  | _ => f
theorem own_all6 {α : Type} {P : α → Prop} {a b c d e f : α} (h0 : P a) (h1 : P b) (h2 : P c) (h3 : P d) (h4 : P e) (h5 : P f) : ∀ j, P (own_l6 a b c d e f j)
  | 0 => h0
  | 1 => h1
  | 2 => h2
  | 3 => h3
  | 4 => h4
  | _ + 5 => h5
def own_DL (Z : State) (h : Heap) (xl xa : Addr) (ka : ClassId) (N : Nat) (vs : List Value) (es : Nat → Addr) (lo up : Nat → Int32) : Prop :=
  Exa Z h xl "java/util/ArrayList" ∧ Fld Z h xl "java/util/ArrayList" "elementData" "[Ljava/lang/Object;" (.ref xa) ∧ Fld Z h xl "java/util/ArrayList" "size" "I" (.int (Int32.ofNat N)) ∧ own_A Z h xa ka (.object "java/lang/Object") vs ∧ (∀ i, i < N → vs[i]? = some (.ref (es i))) ∧ ∀ i, i < N → Exa Z h (es i) "com/example/benchlight/benchlight/Bounds$Dimension" ∧ Fld Z h (es i) "com/example/benchlight/benchlight/Bounds$Dimension" "lower" "I" (.int (lo i)) ∧ Fld Z h (es i) "com/example/benchlight/benchlight/Bounds$Dimension" "upper" "I" (.int (up i))
theorem own_DL.ext {Z : State} {h h' : Heap} {xl xa : Addr} {ka : ClassId} {N : Nat} {vs : List Value} {es : Nat → Addr} {lo up : Nat → Int32} (D : own_DL Z h xl xa ka N vs es lo up) (E : Ext h h') : own_DL Z h' xl xa ka N vs es lo up :=
  ⟨D.1.ext E, D.2.1.ext E, D.2.2.1.ext E, D.2.2.2.1.ext E, D.2.2.2.2.1, fun i hi => ⟨(D.2.2.2.2.2 i hi).1.ext E, (D.2.2.2.2.2 i hi).2.1.ext E, (D.2.2.2.2.2 i hi).2.2.ext E⟩⟩
theorem own_DL.keep1 {Z : State} {h h' : Heap} {xl xa b : Addr} {ka : ClassId} {N n : Nat} {a0 : Array Value} {vs : List Value} {es : Nat → Addr} {lo up : Nat → Int32} (D : own_DL Z h xl xa ka N vs es lo up) (K : Keep h h' [b]) (Eb : Exa Z h b "com/example/benchlight/benchlight/Bounds") (w : (Jvm.Cond.instantiable "com/example/benchlight/benchlight/Bounds" n).before a0 Z = true) : own_DL Z h' xl xa ka N vs es lo up := by
  have n1 : xl ∉ [b] := own_one (Exa.ne D.1 Eb (by decide))
  have n2 : xa ∉ [b] := own_one (Ne.symm (own_neA Eb w D.2.2.2.1))
  have n3 : ∀ i, i < N → es i ∉ [b] := fun i hi => own_one (Exa.ne (D.2.2.2.2.2 i hi).1 Eb (by decide))
  exact ⟨D.1.keep K, D.2.1.keep K n1, D.2.2.1.keep K n1, D.2.2.2.1.keep K n2, D.2.2.2.2.1, fun i hi => ⟨(D.2.2.2.2.2 i hi).1.keep K, (D.2.2.2.2.2 i hi).2.1.keep K (n3 i hi), (D.2.2.2.2.2 i hi).2.2.keep K (n3 i hi)⟩⟩
theorem own_ltB {j N : Nat} (hj : j < 2 ^ 31) (hN : N < 2 ^ 31) : Int32.ofNat j < Int32.ofNat N ↔ j < N := by
  rw [Int32.lt_iff_toInt_lt, own_ofn hj, own_ofn hN]; omega
section OwnMore
variable {Z : State} {h h' : Heap} {a : Addr} {k : ClassId} {vs : List Value} {N : Nat}
theorem own_newI (f : Nat → Int32) (A : own_A Z h a k .int (List.replicate N (defaultValue .int))) : own_A Z h a k .int ((List.range N).map (own_up f 0)) := by
  rw [← own_rr (f := own_up f 0) (v := defaultValue .int) (fun j _ => rfl)]; exact A
theorem own_newD {f : Nat → UInt64} (A : own_A Z h a k .double (List.replicate N (defaultValue .double))) : own_A Z h a k .double ((List.range N).map (own_dn f N)) := by
  rw [← own_rr (f := own_dn f N) (v := defaultValue .double) (fun j hj => by unfold own_dn; rw [if_neg (by omega)]; rfl)]; exact A
variable {p : Program} {l : Launch} {e : Env} {R : Room} {s : State} {m : MethodId} {args : Array Value} {below : List Frame} {meth : Method} {c : Code} {T : State} {locs : List Loc} {cells slots : Nat} {v : Value}
theorem own_mono {cs ss : Nat} (X : Stand p l e R s m args below meth c T locs cells slots) (hc : cells ≤ cs) (hs : slots ≤ ss) : Stand p l e R s m args below meth c T locs cs ss := { X with same := X.same.mono hc hs }
theorem own_daload (X : Stand p l e R s m args below meth c T locs cells slots) (hx : p.tables.exec = Jvm.exec) (hZ : Z.Warmed39 s.vm) (eT : T.heap = h) (A : own_A Z h a k .double vs) {j : Int32} (hj : ¬ j < 0) (hv : vs[j.toNatClampNeg]? = some v) {g : JFrame} (hg : g.method = m) {rest : List Value} (hs : g.stack = .int j :: .ref a :: rest) (hd : decode c.code g.pc = .ok (.daload, 1)) {target : State}
    (hr : Steps p.tables e below (T.setTop { g with pc := g.pc + 1, stack := v :: rest }) target) : Steps p.tables e below (T.setTop g) target := by
  obtain ⟨c', A, -, e'⟩ := A
  obtain ⟨hv', hin⟩ := own_in e' hj hv
  exact X.daload hx (by rw [eT]; exact A.1) (State.isArrayOf_alike hZ.alike A.2.1) A.2.2 hin hv' hg hs hd _ hr
theorem own_iastore (X : Stand p l e R s m args below meth c T locs cells slots) (hx : p.tables.exec = Jvm.exec) (hZ : Z.Warmed39 s.vm) (eT : T.heap = h) (A : own_A Z h a k .int vs) {j x : Int32} {i : Nat} (hi : j.toNatClampNeg = i) (hj : ¬ j < 0) (hl : i < vs.length) {g : JFrame} (hg : g.method = m) {rest : List Value} (hs : g.stack = .int x :: .int j :: .ref a :: rest) (hd : decode c.code g.pc = .ok (.iastore, 1)) :
    ∃ T' h', Stand p l e R s m args below meth c T' (locs ++ [⟨a, i⟩]) cells slots ∧ T'.heap = h' ∧ own_A Z h' a k .int (vs.set i (.int x)) ∧ Wr h h' a i (.int x) ∧ ∀ target, Steps p.tables e below (T'.setTop { g with pc := g.pc + 1, stack := rest }) target → Steps p.tables e below (T.setTop g) target := by
  obtain ⟨c', A', q, e'⟩ := A
  obtain ⟨T', h', X', e1, W, st⟩ := RoadKit.stI X hx hZ eT A' (own_inb e' hi hj hl) hg hs hd
  subst hi
  exact ⟨T', h', X', e1, own_A.set ⟨c', A', q, e'⟩ W, W, st⟩
theorem own_dastore (X : Stand p l e R s m args below meth c T locs cells slots) (hx : p.tables.exec = Jvm.exec) (hZ : Z.Warmed39 s.vm) (eT : T.heap = h) (A : own_A Z h a k .double vs) {j : Int32} {x : UInt64} {i : Nat} (hi : j.toNatClampNeg = i) (hj : ¬ j < 0) (hl : i < vs.length) {g : JFrame} (hg : g.method = m) {rest : List Value} (hs : g.stack = .double x :: .int j :: .ref a :: rest) (hd : decode c.code g.pc = .ok (.dastore, 1)) :
    ∃ T' h', Stand p l e R s m args below meth c T' (locs ++ [⟨a, i⟩]) cells slots ∧ T'.heap = h' ∧ own_A Z h' a k .double (vs.set i (.double x)) ∧ Wr h h' a i (.double x) ∧ ∀ target, Steps p.tables e below (T'.setTop { g with pc := g.pc + 1, stack := rest }) target → Steps p.tables e below (T.setTop g) target := by
  obtain ⟨c', A', q, e'⟩ := A
  obtain ⟨T', h', X', e1, W, st⟩ := stD X hx hZ eT A' (own_inb e' hi hj hl) hg hs hd
  subst hi
  exact ⟨T', h', X', e1, own_A.set ⟨c', A', q, e'⟩ W, W, st⟩
end OwnMore
theorem own_dLo_0 : decode method_2_code 0 = .ok (.lload_n 0, 1) := by decide +kernel
theorem own_dLo_1 : decode method_2_code 1 = .ok (.iload_n 2, 1) := by decide +kernel
theorem own_dLo_2 : decode method_2_code 2 = .ok (.lushr, 1) := by decide +kernel
theorem own_dLo_3 : decode method_2_code 3 = .ok (.l2i, 1) := by decide +kernel
theorem own_dLo_4 : decode method_2_code 4 = .ok (.i2s, 1) := by decide +kernel
theorem own_dLo_5 : decode method_2_code 5 = .ok (.ireturn, 1) := by decide +kernel
theorem own_efLo (m : MethodId) (xp : Int64) (xs : Int32) : entryFrame m #[(.long xp), (.int xs)] 3 = mkF m 0 #[.val (.long xp), .second, .val (.int xs)] [] := by first | (simp [entryFrame, mkF, argsToLocals, Value.category]; done) | rfl
def own_QLo (Z : State) (xp : Int64) (xs : Int32) (z : Int32) (h0 : Heap) (n0 : Nat) (v : Option Value) (h : Heap) (L : List Loc) : Prop := v = some (.int z) ∧ Fr n0 L ∧ h = h0
theorem own_pn0 : plainName "com/example/benchlight/benchlight/BoundsSubscriptsPinLaw" = true := by first | (simp [plainName, overriddenIn]; done) | decide +kernel
set_option maxRecDepth 65536 in
set_option maxHeartbeats 40000000 in
theorem own_rLo (l : Launch) (Z : State) (a0 : Array Value) (hw : ∀ d ∈ tables_1, d.before a0 Z = true) (ws : List Jvm.Cond) (xp : Int64) (xs : Int32) (z : Int32) (h0 : Heap) (n0 : Nat) (Z0 : n0 ≤ h0.size) (hv : own_low xp xs = z) :
    MetFree l (⟨"com/example/benchlight/benchlight/BoundsSubscriptsPinLaw", "lowerOf", "(JI)I"⟩ : MethodName) (head1 (Jvm.Cond.code (⟨"com/example/benchlight/benchlight/BoundsSubscriptsPinLaw", "lowerOf", "(JI)I"⟩ : MethodName) method_2_code 3 (some .int) :: ws) ({ frames := 0, cells := 0, slots := 0, locals := 0 } : Room)) (fun a U => a = #[(.long xp), (.int xs)] ∧ Z.Warmed39 U.vm ∧ U.heap = h0) (fun _ _ _ _ _ => True) (fun _ U o U' => ∃ v L, o = .returned v ∧ own_QLo Z xp xs z h0 n0 v U'.heap L ∧ FrameEnd U o U' L ({ frames := 0, cells := 0, slots := 0, locals := 0 } : Room).cells ({ frames := 0, cells := 0, slots := 0, locals := 0 } : Room).slots) := by
  refine MetFree.of_bodySF (plainFor_of_name own_pn0) hisR ?_
  intro p e s m args below meth c s₁ Bd hml0 hP hK
  obtain ⟨rfl, hZ, hh⟩ := hP
  have hx := Bd.exec
  have hby := Bd.bytes
  have hml : c.maxLocals = 3 := hml0
  have hown : s.vm.findClass "com/example/benchlight/benchlight/BoundsSubscriptsPinLaw" = some m.cls := findClass_of_methodNamed Bd.named
  have hnm := (name_of_methodNamed Bd.named Bd.method).1
  have X0 : Stand p l e ({ frames := 0, cells := 0, slots := 0, locals := 0 } : Room) s m #[(.long xp), (.int xs)] below meth c s₁ [] 0 0 := Stand.of_body Bd
  have e0 : s₁.heap = h0 := by rw [← hh, Bd.state]; rfl
  have N0 := Fr.nil n0
  show own_F p e below (fun o U' => ∃ v L, o = .returned v ∧ own_QLo Z xp xs z h0 n0 v U'.heap L ∧ FrameEnd s o U' L ({ frames := 0, cells := 0, slots := 0, locals := 0 } : Room).cells ({ frames := 0, cells := 0, slots := 0, locals := 0 } : Room).slots) s₁ (entryFrame m #[(.long xp), (.int xs)] 3)
  rw [own_efLo m xp xs]
  refine own_go (T' := s₁) (g' := (mkF m 1 #[.val (.long xp), .second, .val (.int xs)] [(.long xp)])) (fun _ k => XS.lloadN X0.here hx rfl (hb hby own_dLo_0) rfl k) ?_
  refine own_go (T' := s₁) (g' := (mkF m 2 #[.val (.long xp), .second, .val (.int xs)] [(.int xs), (.long xp)])) (fun _ k => XS.iloadN X0.here hx rfl (hb hby own_dLo_1) rfl k) ?_
  refine own_go (T' := s₁) (g' := (mkF m 3 #[.val (.long xp), .second, .val (.int xs)] [(.long ((xp.toUInt64 >>> (xs &&& 0x3f).toInt64.toUInt64).toInt64))])) (fun _ k => XS.lushr X0.here hx rfl (hb hby own_dLo_2) rfl k) ?_
  refine own_go (T' := s₁) (g' := (mkF m 4 #[.val (.long xp), .second, .val (.int xs)] [(.int (((xp.toUInt64 >>> (xs &&& 0x3f).toInt64.toUInt64).toInt64).toInt32))])) (fun _ k => XS.l2i X0.here hx rfl (hb hby own_dLo_3) rfl k) ?_
  refine own_go (T' := s₁) (g' := (mkF m 5 #[.val (.long xp), .second, .val (.int xs)] [(.int ((((xp.toUInt64 >>> (xs &&& 0x3f).toInt64.toUInt64).toInt64).toInt32).toInt16.toInt32))])) (fun _ k => XS.i2s X0.here hx rfl (hb hby own_dLo_4) rfl k) ?_
  obtain ⟨fs, hr, hrun, hended, hW, hsame⟩ := X0.leave (v := some (.int ((((xp.toUInt64 >>> (xs &&& 0x3f).toInt64.toUInt64).toInt64).toInt32).toInt16.toInt32))) (fun h => by rw [Bd.returns] at h; cases h)
  refine own_end (retOut X0 hx Bd.returns rfl (Or.inl ⟨rfl, Or.inl rfl, _, rfl⟩) (hb hby own_dLo_5) hr) hrun hended ⟨_, _, rfl, (?_ : own_QLo Z xp xs z h0 n0 _ s₁.heap _), ⟨_, rfl⟩, hW, hsame.mono (by decide) (by decide)⟩
  rw [e0]
  exact ⟨by rw [← hv]; rfl, N0, rfl⟩
theorem own_pd0 : parseMethodDescriptor "(JI)I" = some ⟨[.long, .int], some .int⟩ := by decide +kernel
theorem own_dLe_0 : decode method_3_code 0 = .ok (.lload_n 0, 1) := by decide +kernel
theorem own_dLe_1 : decode method_3_code 1 = .ok (.iload_n 2, 1) := by decide +kernel
theorem own_dLe_2 : decode method_3_code 2 = .ok (.invokestatic 7, 3) := by decide +kernel
theorem own_dLe_5 : decode method_3_code 5 = .ok (.istore_n 3, 1) := by decide +kernel
theorem own_dLe_6 : decode method_3_code 6 = .ok (.lload_n 0, 1) := by decide +kernel
theorem own_dLe_7 : decode method_3_code 7 = .ok (.iload_n 2, 1) := by decide +kernel
theorem own_dLe_8 : decode method_3_code 8 = .ok (.bipush 16, 2) := by decide +kernel
theorem own_dLe_10 : decode method_3_code 10 = .ok (.iadd, 1) := by decide +kernel
theorem own_dLe_11 : decode method_3_code 11 = .ok (.lushr, 1) := by decide +kernel
theorem own_dLe_12 : decode method_3_code 12 = .ok (.ldc2_w 13, 3) := by decide +kernel
theorem own_dLe_15 : decode method_3_code 15 = .ok (.land, 1) := by decide +kernel
theorem own_dLe_16 : decode method_3_code 16 = .ok (.l2i, 1) := by decide +kernel
theorem own_dLe_17 : decode method_3_code 17 = .ok (.istore 4, 2) := by decide +kernel
theorem own_dLe_19 : decode method_3_code 19 = .ok (.iload 4, 2) := by decide +kernel
theorem own_dLe_21 : decode method_3_code 21 = .ok (.ldc 15, 2) := by decide +kernel
theorem own_dLe_23 : decode method_3_code 23 = .ok (.iload_n 3, 1) := by decide +kernel
theorem own_dLe_24 : decode method_3_code 24 = .ok (.isub, 1) := by decide +kernel
theorem own_dLe_25 : decode method_3_code 25 = .ok (.irem, 1) := by decide +kernel
theorem own_dLe_26 : decode method_3_code 26 = .ok (.iconst 1, 1) := by decide +kernel
theorem own_dLe_27 : decode method_3_code 27 = .ok (.iadd, 1) := by decide +kernel
theorem own_dLe_28 : decode method_3_code 28 = .ok (.ireturn, 1) := by decide +kernel
theorem own_efLe (m : MethodId) (xp : Int64) (xs : Int32) : entryFrame m #[(.long xp), (.int xs)] 5 = mkF m 0 #[.val (.long xp), .second, .val (.int xs), .unset, .unset] [] := by first | (simp [entryFrame, mkF, argsToLocals, Value.category]; done) | rfl
def own_QLe (Z : State) (xp : Int64) (xs : Int32) (z : Int32) (h0 : Heap) (n0 : Nat) (v : Option Value) (h : Heap) (L : List Loc) : Prop := v = some (.int z) ∧ Fr n0 L ∧ h = h0
set_option maxRecDepth 65536 in
set_option maxHeartbeats 40000000 in
theorem own_rLe (l : Launch) (Z : State) (a0 : Array Value) (hw : ∀ d ∈ tables_1, d.before a0 Z = true) (ws : List Jvm.Cond) (xp : Int64) (xs : Int32) (z : Int32) (h0 : Heap) (n0 : Nat) (Z0 : n0 ≤ h0.size) (hv : own_lng xp xs = z) :
    MetFree l (⟨"com/example/benchlight/benchlight/BoundsSubscriptsPinLaw", "lengthOf", "(JI)I"⟩ : MethodName) (head1 (Jvm.Cond.code (⟨"com/example/benchlight/benchlight/BoundsSubscriptsPinLaw", "lengthOf", "(JI)I"⟩ : MethodName) method_3_code 5 (some .int) :: ws) ({ frames := 1, cells := 0, slots := 0, locals := 14 } : Room)) (fun a U => a = #[(.long xp), (.int xs)] ∧ Z.Warmed39 U.vm ∧ U.heap = h0) (fun _ _ _ _ _ => True) (fun _ U o U' => ∃ v L, o = .returned v ∧ own_QLe Z xp xs z h0 n0 v U'.heap L ∧ FrameEnd U o U' L ({ frames := 1, cells := 0, slots := 0, locals := 14 } : Room).cells ({ frames := 1, cells := 0, slots := 0, locals := 14 } : Room).slots) := by
  refine MetFree.of_bodySF (plainFor_of_name own_pn0) hisR ?_
  intro p e s m args below meth c s₁ Bd hml0 hP hK
  obtain ⟨rfl, hZ, hh⟩ := hP
  have hx := Bd.exec
  have hby := Bd.bytes
  have hml : c.maxLocals = 5 := hml0
  have hown : s.vm.findClass "com/example/benchlight/benchlight/BoundsSubscriptsPinLaw" = some m.cls := findClass_of_methodNamed Bd.named
  have hnm := (name_of_methodNamed Bd.named Bd.method).1
  have X0 : Stand p l e ({ frames := 1, cells := 0, slots := 0, locals := 14 } : Room) s m #[(.long xp), (.int xs)] below meth c s₁ [] 0 0 := Stand.of_body Bd
  have e0 : s₁.heap = h0 := by rw [← hh, Bd.state]; rfl
  have N0 := Fr.nil n0
  show own_F p e below (fun o U' => ∃ v L, o = .returned v ∧ own_QLe Z xp xs z h0 n0 v U'.heap L ∧ FrameEnd s o U' L ({ frames := 1, cells := 0, slots := 0, locals := 14 } : Room).cells ({ frames := 1, cells := 0, slots := 0, locals := 14 } : Room).slots) s₁ (entryFrame m #[(.long xp), (.int xs)] 5)
  rw [own_efLe m xp xs]
  refine own_go (T' := s₁) (g' := (mkF m 1 #[.val (.long xp), .second, .val (.int xs), .unset, .unset] [(.long xp)])) (fun _ k => XS.lloadN X0.here hx rfl (hb hby own_dLe_0) rfl k) ?_
  refine own_go (T' := s₁) (g' := (mkF m 2 #[.val (.long xp), .second, .val (.int xs), .unset, .unset] [(.int xs), (.long xp)])) (fun _ k => XS.iloadN X0.here hx rfl (hb hby own_dLe_1) rfl k) ?_
  obtain ⟨_, _, ⟨T1, L1, k1, n1⟩, -, X1, ⟨Lc1, hQ1, l1, y1, z1⟩, st1⟩ := Jvm.LawKit.callS X0 hx (y := (⟨"com/example/benchlight/benchlight/BoundsSubscriptsPinLaw", "lowerOf", "(JI)I"⟩ : MethodName)) hown (mvT hZ (hw _ (List.mem_of_getElem? (i := 1) rfl))) (mvT hZ (hw _ (List.mem_of_getElem? (i := 2) rfl))) (mvT hZ (hw _ (List.mem_of_getElem? (i := 3) rfl))) (mvT hZ (hw _ (List.mem_of_getElem? (i := 4) rfl))) (by decide) (backOf (W := 0) (own_rLo l Z a0 hw [] xp xs (own_low xp xs) h0 n0 Z0 rfl) hZ (hw _ (List.mem_of_getElem? (i := 4) rfl)) (hw _ (List.mem_of_getElem? (i := 3) rfl)) (by decide) (by decide)) (g := (mkF m 2 #[.val (.long xp), .second, .val (.int xs), .unset, .unset] [(.int xs), (.long xp)])) rfl (by rw [hml]; rfl) (argsL := [(.long xp), (.int xs)]) (rest := []) (lenOf own_pd0 rfl) rfl (by show 2 * 0 + _ ≤ _; exact Nat.le_of_eq rfl) (hb hby own_dLe_2) (fun _ _ => ⟨rfl, e0, (by decide : 0 + 0 ≤ _), (by decide : 0 + 0 ≤ _)⟩)
  dsimp only [Pt.U, Pt.locs, Pt.cells, Pt.slots] at X1 l1 y1 z1 st1 hQ1
  subst l1 y1 z1
  obtain ⟨rfl, N1q, e1⟩ := hQ1
  have N1 := Fr.app N0 N1q
  refine own_go (T' := T1) (g' := (mkF m 5 #[.val (.long xp), .second, .val (.int xs), .unset, .unset] [(.int (own_low xp xs))])) (fun _ k => st1 _ k) ?_
  refine own_go (T' := T1) (g' := (mkF m 6 #[.val (.long xp), .second, .val (.int xs), .val (.int (own_low xp xs)), .unset] [])) (fun _ k => XS.istoreN X1.here hx rfl (hb hby own_dLe_5) rfl (l' := #[.val (.long xp), .second, .val (.int xs), .val (.int (own_low xp xs)), .unset]) rfl k) ?_
  refine own_go (T' := T1) (g' := (mkF m 7 #[.val (.long xp), .second, .val (.int xs), .val (.int (own_low xp xs)), .unset] [(.long xp)])) (fun _ k => XS.lloadN X1.here hx rfl (hb hby own_dLe_6) rfl k) ?_
  refine own_go (T' := T1) (g' := (mkF m 8 #[.val (.long xp), .second, .val (.int xs), .val (.int (own_low xp xs)), .unset] [(.int xs), (.long xp)])) (fun _ k => XS.iloadN X1.here hx rfl (hb hby own_dLe_7) rfl k) ?_
  refine own_go (T' := T1) (g' := (mkF m 10 #[.val (.long xp), .second, .val (.int xs), .val (.int (own_low xp xs)), .unset] [(.int (16 : Int32)), (.int xs), (.long xp)])) (fun _ k => XS.bipush X1.here hx rfl (hb hby own_dLe_8) k) ?_
  refine own_go (T' := T1) (g' := (mkF m 11 #[.val (.long xp), .second, .val (.int xs), .val (.int (own_low xp xs)), .unset] [(.int (xs + (16 : Int32))), (.long xp)])) (fun _ k => XS.iadd X1.here hx rfl (hb hby own_dLe_10) rfl k) ?_
  refine own_go (T' := T1) (g' := (mkF m 12 #[.val (.long xp), .second, .val (.int xs), .val (.int (own_low xp xs)), .unset] [(.long ((xp.toUInt64 >>> ((xs + (16 : Int32)) &&& 0x3f).toInt64.toUInt64).toInt64))])) (fun _ k => XS.lushr X1.here hx rfl (hb hby own_dLe_11) rfl k) ?_
  refine own_go (T' := T1) (g' := (mkF m 15 #[.val (.long xp), .second, .val (.int xs), .val (.int (own_low xp xs)), .unset] [(.long (65535 : Int64)), (.long ((xp.toUInt64 >>> ((xs + (16 : Int32)) &&& 0x3f).toInt64.toUInt64).toInt64))])) (fun _ k => X1.ldc2Long hx hown (mvT hZ (hw _ (List.mem_of_getElem? (i := 8) rfl))) (g := (mkF m 12 #[.val (.long xp), .second, .val (.int xs), .val (.int (own_low xp xs)), .unset] [(.long ((xp.toUInt64 >>> ((xs + (16 : Int32)) &&& 0x3f).toInt64.toUInt64).toInt64))])) rfl (hb hby own_dLe_12) _ k) ?_
  refine own_go (T' := T1) (g' := (mkF m 16 #[.val (.long xp), .second, .val (.int xs), .val (.int (own_low xp xs)), .unset] [(.long (((xp.toUInt64 >>> ((xs + (16 : Int32)) &&& 0x3f).toInt64.toUInt64).toInt64) &&& (65535 : Int64)))])) (fun _ k => XS.land X1.here hx rfl (hb hby own_dLe_15) rfl k) ?_
  refine own_go (T' := T1) (g' := (mkF m 17 #[.val (.long xp), .second, .val (.int xs), .val (.int (own_low xp xs)), .unset] [(.int ((((xp.toUInt64 >>> ((xs + (16 : Int32)) &&& 0x3f).toInt64.toUInt64).toInt64) &&& (65535 : Int64)).toInt32))])) (fun _ k => XS.l2i X1.here hx rfl (hb hby own_dLe_16) rfl k) ?_
  refine own_go (T' := T1) (g' := (mkF m 19 #[.val (.long xp), .second, .val (.int xs), .val (.int (own_low xp xs)), .val (.int ((((xp.toUInt64 >>> ((xs + (16 : Int32)) &&& 0x3f).toInt64.toUInt64).toInt64) &&& (65535 : Int64)).toInt32))] [])) (fun _ k => XS.istore X1.here hx rfl (hb hby own_dLe_17) rfl (l' := #[.val (.long xp), .second, .val (.int xs), .val (.int (own_low xp xs)), .val (.int ((((xp.toUInt64 >>> ((xs + (16 : Int32)) &&& 0x3f).toInt64.toUInt64).toInt64) &&& (65535 : Int64)).toInt32))]) rfl k) ?_
  refine own_go (T' := T1) (g' := (mkF m 21 #[.val (.long xp), .second, .val (.int xs), .val (.int (own_low xp xs)), .val (.int ((((xp.toUInt64 >>> ((xs + (16 : Int32)) &&& 0x3f).toInt64.toUInt64).toInt64) &&& (65535 : Int64)).toInt32))] [(.int ((((xp.toUInt64 >>> ((xs + (16 : Int32)) &&& 0x3f).toInt64.toUInt64).toInt64) &&& (65535 : Int64)).toInt32))])) (fun _ k => XS.iload X1.here hx rfl (hb hby own_dLe_19) rfl k) ?_
  refine own_go (T' := T1) (g' := (mkF m 23 #[.val (.long xp), .second, .val (.int xs), .val (.int (own_low xp xs)), .val (.int ((((xp.toUInt64 >>> ((xs + (16 : Int32)) &&& 0x3f).toInt64.toUInt64).toInt64) &&& (65535 : Int64)).toInt32))] [(.int (32768 : Int32)), (.int ((((xp.toUInt64 >>> ((xs + (16 : Int32)) &&& 0x3f).toInt64.toUInt64).toInt64) &&& (65535 : Int64)).toInt32))])) (fun _ k => X1.ldcInt hx hown (mvT hZ (hw _ (List.mem_of_getElem? (i := 9) rfl))) (g := (mkF m 21 #[.val (.long xp), .second, .val (.int xs), .val (.int (own_low xp xs)), .val (.int ((((xp.toUInt64 >>> ((xs + (16 : Int32)) &&& 0x3f).toInt64.toUInt64).toInt64) &&& (65535 : Int64)).toInt32))] [(.int ((((xp.toUInt64 >>> ((xs + (16 : Int32)) &&& 0x3f).toInt64.toUInt64).toInt64) &&& (65535 : Int64)).toInt32))])) rfl (hb hby own_dLe_21) _ k) ?_
  refine own_go (T' := T1) (g' := (mkF m 24 #[.val (.long xp), .second, .val (.int xs), .val (.int (own_low xp xs)), .val (.int ((((xp.toUInt64 >>> ((xs + (16 : Int32)) &&& 0x3f).toInt64.toUInt64).toInt64) &&& (65535 : Int64)).toInt32))] [(.int (own_low xp xs)), (.int (32768 : Int32)), (.int ((((xp.toUInt64 >>> ((xs + (16 : Int32)) &&& 0x3f).toInt64.toUInt64).toInt64) &&& (65535 : Int64)).toInt32))])) (fun _ k => XS.iloadN X1.here hx rfl (hb hby own_dLe_23) rfl k) ?_
  refine own_go (T' := T1) (g' := (mkF m 25 #[.val (.long xp), .second, .val (.int xs), .val (.int (own_low xp xs)), .val (.int ((((xp.toUInt64 >>> ((xs + (16 : Int32)) &&& 0x3f).toInt64.toUInt64).toInt64) &&& (65535 : Int64)).toInt32))] [(.int ((32768 : Int32) - (own_low xp xs))), (.int ((((xp.toUInt64 >>> ((xs + (16 : Int32)) &&& 0x3f).toInt64.toUInt64).toInt64) &&& (65535 : Int64)).toInt32))])) (fun _ k => XS.isub X1.here hx rfl (hb hby own_dLe_24) rfl k) ?_
  refine own_go (T' := T1) (g' := (mkF m 26 #[.val (.long xp), .second, .val (.int xs), .val (.int (own_low xp xs)), .val (.int ((((xp.toUInt64 >>> ((xs + (16 : Int32)) &&& 0x3f).toInt64.toUInt64).toInt64) &&& (65535 : Int64)).toInt32))] [(.int (((((xp.toUInt64 >>> ((xs + (16 : Int32)) &&& 0x3f).toInt64.toUInt64).toInt64) &&& (65535 : Int64)).toInt32) % ((32768 : Int32) - (own_low xp xs))))])) (fun _ k => iremM X1 hx rfl (hb hby own_dLe_25) rfl (own_lnz xp xs) k) ?_
  refine own_go (T' := T1) (g' := (mkF m 27 #[.val (.long xp), .second, .val (.int xs), .val (.int (own_low xp xs)), .val (.int ((((xp.toUInt64 >>> ((xs + (16 : Int32)) &&& 0x3f).toInt64.toUInt64).toInt64) &&& (65535 : Int64)).toInt32))] [(.int (1 : Int32)), (.int (((((xp.toUInt64 >>> ((xs + (16 : Int32)) &&& 0x3f).toInt64.toUInt64).toInt64) &&& (65535 : Int64)).toInt32) % ((32768 : Int32) - (own_low xp xs))))])) (fun _ k => XS.iconst X1.here hx rfl (hb hby own_dLe_26) k) ?_
  refine own_go (T' := T1) (g' := (mkF m 28 #[.val (.long xp), .second, .val (.int xs), .val (.int (own_low xp xs)), .val (.int ((((xp.toUInt64 >>> ((xs + (16 : Int32)) &&& 0x3f).toInt64.toUInt64).toInt64) &&& (65535 : Int64)).toInt32))] [(.int ((((((xp.toUInt64 >>> ((xs + (16 : Int32)) &&& 0x3f).toInt64.toUInt64).toInt64) &&& (65535 : Int64)).toInt32) % ((32768 : Int32) - (own_low xp xs))) + (1 : Int32)))])) (fun _ k => XS.iadd X1.here hx rfl (hb hby own_dLe_27) rfl k) ?_
  obtain ⟨fs, hr, hrun, hended, hW, hsame⟩ := X1.leave (v := some (.int ((((((xp.toUInt64 >>> ((xs + (16 : Int32)) &&& 0x3f).toInt64.toUInt64).toInt64) &&& (65535 : Int64)).toInt32) % ((32768 : Int32) - (own_low xp xs))) + (1 : Int32)))) (fun h => by rw [Bd.returns] at h; cases h)
  refine own_end (retOut X1 hx Bd.returns rfl (Or.inl ⟨rfl, Or.inl rfl, _, rfl⟩) (hb hby own_dLe_28) hr) hrun hended ⟨_, _, rfl, (?_ : own_QLe Z xp xs z h0 n0 _ T1.heap _), ⟨_, rfl⟩, hW, hsame.mono (by decide) (by decide)⟩
  rw [e1]
  exact ⟨by rw [← hv]; rfl, N1, rfl⟩
theorem own_dMi_0 : decode jdk_29_method_70_code 0 = .ok (.lload_n 0, 1) := by decide +kernel
theorem own_dMi_1 : decode jdk_29_method_70_code 1 = .ok (.lload_n 2, 1) := by decide +kernel
theorem own_dMi_2 : decode jdk_29_method_70_code 2 = .ok (.lcmp, 1) := by decide +kernel
theorem own_dMi_3 : decode jdk_29_method_70_code 3 = .ok (.ifCond .gt 7, 3) := by decide +kernel
theorem own_dMi_6 : decode jdk_29_method_70_code 6 = .ok (.lload_n 0, 1) := by decide +kernel
theorem own_dMi_7 : decode jdk_29_method_70_code 7 = .ok (.goto 4, 3) := by decide +kernel
theorem own_dMi_10 : decode jdk_29_method_70_code 10 = .ok (.lload_n 2, 1) := by decide +kernel
theorem own_dMi_11 : decode jdk_29_method_70_code 11 = .ok (.lreturn, 1) := by decide +kernel
theorem own_efMi (m : MethodId) (xa : Int64) (xb : Int64) : entryFrame m #[(.long xa), (.long xb)] 4 = mkF m 0 #[.val (.long xa), .second, .val (.long xb), .second] [] := by first | (simp [entryFrame, mkF, argsToLocals, Value.category]; done) | rfl
def own_QMi (Z : State) (xa : Int64) (xb : Int64)  (h0 : Heap) (n0 : Nat) (v : Option Value) (h : Heap) (L : List Loc) : Prop := v = some (.long (own_min xa xb)) ∧ Fr n0 L ∧ h = h0
set_option maxRecDepth 65536 in
set_option maxHeartbeats 40000000 in
theorem own_rMi (l : Launch) (Z : State) (a0 : Array Value) (hw : ∀ d ∈ tables_1, d.before a0 Z = true) (ws : List Jvm.Cond) (xa : Int64) (xb : Int64)  (h0 : Heap) (n0 : Nat) (Z0 : n0 ≤ h0.size) :
    MetFree l (⟨"java/lang/Math", "min", "(JJ)J"⟩ : MethodName) (head1 (Jvm.Cond.code (⟨"java/lang/Math", "min", "(JJ)J"⟩ : MethodName) jdk_29_method_70_code 4 (some .long) :: ws) ({ frames := 0, cells := 0, slots := 0, locals := 0 } : Room)) (fun a U => a = #[(.long xa), (.long xb)] ∧ Z.Warmed39 U.vm ∧ U.heap = h0) (fun _ _ _ _ _ => True) (fun _ U o U' => ∃ v L, o = .returned v ∧ own_QMi Z xa xb h0 n0 v U'.heap L ∧ FrameEnd U o U' L ({ frames := 0, cells := 0, slots := 0, locals := 0 } : Room).cells ({ frames := 0, cells := 0, slots := 0, locals := 0 } : Room).slots) := by
  refine MetFree.of_bodySF (Jvm.Free.JP.mathPlain rfl (by decide +kernel)) hisR ?_
  intro p e s m args below meth c s₁ Bd hml0 hP hK
  obtain ⟨rfl, hZ, hh⟩ := hP
  have hx := Bd.exec
  have hby := Bd.bytes
  have hml : c.maxLocals = 4 := hml0
  have hown : s.vm.findClass "java/lang/Math" = some m.cls := findClass_of_methodNamed Bd.named
  have hnm := (name_of_methodNamed Bd.named Bd.method).1
  have X0 : Stand p l e ({ frames := 0, cells := 0, slots := 0, locals := 0 } : Room) s m #[(.long xa), (.long xb)] below meth c s₁ [] 0 0 := Stand.of_body Bd
  have e0 : s₁.heap = h0 := by rw [← hh, Bd.state]; rfl
  have N0 := Fr.nil n0
  show own_F p e below (fun o U' => ∃ v L, o = .returned v ∧ own_QMi Z xa xb h0 n0 v U'.heap L ∧ FrameEnd s o U' L ({ frames := 0, cells := 0, slots := 0, locals := 0 } : Room).cells ({ frames := 0, cells := 0, slots := 0, locals := 0 } : Room).slots) s₁ (entryFrame m #[(.long xa), (.long xb)] 4)
  rw [own_efMi m xa xb]
  refine own_go (T' := s₁) (g' := (mkF m 1 #[.val (.long xa), .second, .val (.long xb), .second] [(.long xa)])) (fun _ k => XS.lloadN X0.here hx rfl (hb hby own_dMi_0) rfl k) ?_
  refine own_go (T' := s₁) (g' := (mkF m 2 #[.val (.long xa), .second, .val (.long xb), .second] [(.long xb), (.long xa)])) (fun _ k => XS.lloadN X0.here hx rfl (hb hby own_dMi_1) rfl k) ?_
  refine own_go (T' := s₁) (g' := (mkF m 3 #[.val (.long xa), .second, .val (.long xb), .second] [(.int (lcmpW xa xb))])) (fun _ k => XS.lcmp X0.here hx rfl (hb hby own_dMi_2) rfl k) ?_
  by_cases hc3 : xb < xa
  · refine own_go (T' := s₁) (g' := (mkF m 10 #[.val (.long xa), .second, .val (.long xb), .second] [])) (fun _ k => XS.ifYes X0.here hx rfl (pc0 := 3) (pc' := 10) rfl (hb hby own_dMi_3) rfl ((if0 _ _).trans (tlt ((own_gt_t (hc3)) : (0 : Int32) < (lcmpW xa xb))).2.2.1) (by decide) (by decide) k) ?_
    refine own_go (T' := s₁) (g' := (mkF m 11 #[.val (.long xa), .second, .val (.long xb), .second] [(.long xb)])) (fun _ k => XS.lloadN X0.here hx rfl (hb hby own_dMi_10) rfl k) ?_
    obtain ⟨fs, hr, hrun, hended, hW, hsame⟩ := X0.leave (v := some (.long xb)) (fun h => by rw [Bd.returns] at h; cases h)
    refine own_end (retOut X0 hx Bd.returns rfl (Or.inr (Or.inl ⟨rfl, rfl, _, rfl⟩)) (hb hby own_dMi_11) hr) hrun hended ⟨_, _, rfl, (?_ : own_QMi Z xa xb h0 n0 _ s₁.heap _), ⟨_, rfl⟩, hW, hsame.mono (by decide) (by decide)⟩
    rw [e0]
    exact ⟨by rw [own_min, if_pos hc3], N0, rfl⟩
  · refine own_go (T' := s₁) (g' := (mkF m 6 #[.val (.long xa), .second, .val (.long xb), .second] [])) (fun _ k => XS.ifNo X0.here hx rfl (hb hby own_dMi_3) rfl ((if0 _ _).trans (flt ((own_gt_f (hc3)) : ¬ ((0 : Int32) < (lcmpW xa xb)))).2.2.1) k) ?_
    refine own_go (T' := s₁) (g' := (mkF m 7 #[.val (.long xa), .second, .val (.long xb), .second] [(.long xa)])) (fun _ k => XS.lloadN X0.here hx rfl (hb hby own_dMi_6) rfl k) ?_
    refine own_go (T' := s₁) (g' := (mkF m 11 #[.val (.long xa), .second, .val (.long xb), .second] [(.long xa)])) (fun _ k => XS.goto X0.here hx rfl (pc0 := 7) (pc' := 11) rfl (hb hby own_dMi_7) (by decide) (by decide) k) ?_
    obtain ⟨fs, hr, hrun, hended, hW, hsame⟩ := X0.leave (v := some (.long xa)) (fun h => by rw [Bd.returns] at h; cases h)
    refine own_end (retOut X0 hx Bd.returns rfl (Or.inr (Or.inl ⟨rfl, rfl, _, rfl⟩)) (hb hby own_dMi_11) hr) hrun hended ⟨_, _, rfl, (?_ : own_QMi Z xa xb h0 n0 _ s₁.heap _), ⟨_, rfl⟩, hW, hsame.mono (by decide) (by decide)⟩
    rw [e0]
    exact ⟨by rw [own_min, if_neg hc3], N0, rfl⟩
theorem own_pd1 : parseMethodDescriptor "(JJ)J" = some ⟨[.long, .long], some .long⟩ := by decide +kernel
theorem own_dMc_0 : decode method_4_code 0 = .ok (.lload_n 0, 1) := by decide +kernel
theorem own_dMc_1 : decode method_4_code 1 = .ok (.iload_n 2, 1) := by decide +kernel
theorem own_dMc_2 : decode method_4_code 2 = .ok (.i2l, 1) := by decide +kernel
theorem own_dMc_3 : decode method_4_code 3 = .ok (.lmul, 1) := by decide +kernel
theorem own_dMc_4 : decode method_4_code 4 = .ok (.lload_n 3, 1) := by decide +kernel
theorem own_dMc_5 : decode method_4_code 5 = .ok (.invokestatic 16, 3) := by decide +kernel
theorem own_dMc_8 : decode method_4_code 8 = .ok (.lreturn, 1) := by decide +kernel
theorem own_efMc (m : MethodId) (xa : Int64) (xy : Int32) (xc : Int64) : entryFrame m #[(.long xa), (.int xy), (.long xc)] 5 = mkF m 0 #[.val (.long xa), .second, .val (.int xy), .val (.long xc), .second] [] := by first | (simp [entryFrame, mkF, argsToLocals, Value.category]; done) | rfl
def own_QMc (Z : State) (xa : Int64) (xy : Int32) (xc : Int64) (z : Int64) (h0 : Heap) (n0 : Nat) (v : Option Value) (h : Heap) (L : List Loc) : Prop := v = some (.long z) ∧ Fr n0 L ∧ h = h0
set_option maxRecDepth 65536 in
set_option maxHeartbeats 40000000 in
theorem own_rMc (l : Launch) (Z : State) (a0 : Array Value) (hw : ∀ d ∈ tables_1, d.before a0 Z = true) (ws : List Jvm.Cond) (xa : Int64) (xy : Int32) (xc : Int64) (z : Int64) (h0 : Heap) (n0 : Nat) (Z0 : n0 ≤ h0.size) (hv : own_min (xa * xy.toInt64) xc = z) :
    MetFree l (⟨"com/example/benchlight/benchlight/BoundsSubscriptsPinLaw", "mulCap", "(JIJ)J"⟩ : MethodName) (head1 (Jvm.Cond.code (⟨"com/example/benchlight/benchlight/BoundsSubscriptsPinLaw", "mulCap", "(JIJ)J"⟩ : MethodName) method_4_code 5 (some .long) :: ws) ({ frames := 1, cells := 0, slots := 0, locals := 15 } : Room)) (fun a U => a = #[(.long xa), (.int xy), (.long xc)] ∧ Z.Warmed39 U.vm ∧ U.heap = h0) (fun _ _ _ _ _ => True) (fun _ U o U' => ∃ v L, o = .returned v ∧ own_QMc Z xa xy xc z h0 n0 v U'.heap L ∧ FrameEnd U o U' L ({ frames := 1, cells := 0, slots := 0, locals := 15 } : Room).cells ({ frames := 1, cells := 0, slots := 0, locals := 15 } : Room).slots) := by
  refine MetFree.of_bodySF (plainFor_of_name own_pn0) hisR ?_
  intro p e s m args below meth c s₁ Bd hml0 hP hK
  obtain ⟨rfl, hZ, hh⟩ := hP
  have hx := Bd.exec
  have hby := Bd.bytes
  have hml : c.maxLocals = 5 := hml0
  have hown : s.vm.findClass "com/example/benchlight/benchlight/BoundsSubscriptsPinLaw" = some m.cls := findClass_of_methodNamed Bd.named
  have hnm := (name_of_methodNamed Bd.named Bd.method).1
  have X0 : Stand p l e ({ frames := 1, cells := 0, slots := 0, locals := 15 } : Room) s m #[(.long xa), (.int xy), (.long xc)] below meth c s₁ [] 0 0 := Stand.of_body Bd
  have e0 : s₁.heap = h0 := by rw [← hh, Bd.state]; rfl
  have N0 := Fr.nil n0
  show own_F p e below (fun o U' => ∃ v L, o = .returned v ∧ own_QMc Z xa xy xc z h0 n0 v U'.heap L ∧ FrameEnd s o U' L ({ frames := 1, cells := 0, slots := 0, locals := 15 } : Room).cells ({ frames := 1, cells := 0, slots := 0, locals := 15 } : Room).slots) s₁ (entryFrame m #[(.long xa), (.int xy), (.long xc)] 5)
  rw [own_efMc m xa xy xc]
  refine own_go (T' := s₁) (g' := (mkF m 1 #[.val (.long xa), .second, .val (.int xy), .val (.long xc), .second] [(.long xa)])) (fun _ k => XS.lloadN X0.here hx rfl (hb hby own_dMc_0) rfl k) ?_
  refine own_go (T' := s₁) (g' := (mkF m 2 #[.val (.long xa), .second, .val (.int xy), .val (.long xc), .second] [(.int xy), (.long xa)])) (fun _ k => XS.iloadN X0.here hx rfl (hb hby own_dMc_1) rfl k) ?_
  refine own_go (T' := s₁) (g' := (mkF m 3 #[.val (.long xa), .second, .val (.int xy), .val (.long xc), .second] [(.long (xy.toInt64)), (.long xa)])) (fun _ k => XS.i2l X0.here hx rfl (hb hby own_dMc_2) rfl k) ?_
  refine own_go (T' := s₁) (g' := (mkF m 4 #[.val (.long xa), .second, .val (.int xy), .val (.long xc), .second] [(.long (xa * (xy.toInt64)))])) (fun _ k => XS.lmul X0.here hx rfl (hb hby own_dMc_3) rfl k) ?_
  refine own_go (T' := s₁) (g' := (mkF m 5 #[.val (.long xa), .second, .val (.int xy), .val (.long xc), .second] [(.long xc), (.long (xa * (xy.toInt64)))])) (fun _ k => XS.lloadN X0.here hx rfl (hb hby own_dMc_4) rfl k) ?_
  obtain ⟨_, _, ⟨T1, L1, k1, n1⟩, -, X1, ⟨Lc1, hQ1, l1, y1, z1⟩, st1⟩ := Jvm.LawKit.callS X0 hx (y := (⟨"java/lang/Math", "min", "(JJ)J"⟩ : MethodName)) hown (mvT hZ (hw _ (List.mem_of_getElem? (i := 87) rfl))) (mvT hZ (hw _ (List.mem_of_getElem? (i := 88) rfl))) (mvT hZ (hw _ (List.mem_of_getElem? (i := 78) rfl))) (mvT hZ (hw _ (List.mem_of_getElem? (i := 89) rfl))) (by decide) (backOf (W := 0) (own_rMi l Z a0 hw [] (xa * (xy.toInt64)) xc h0 n0 Z0 ) hZ (hw _ (List.mem_of_getElem? (i := 89) rfl)) (hw _ (List.mem_of_getElem? (i := 78) rfl)) (by decide) (by decide)) (g := (mkF m 5 #[.val (.long xa), .second, .val (.int xy), .val (.long xc), .second] [(.long xc), (.long (xa * (xy.toInt64)))])) rfl (by rw [hml]; rfl) (argsL := [(.long (xa * (xy.toInt64))), (.long xc)]) (rest := []) (lenOf own_pd1 rfl) rfl (by show 2 * 0 + _ ≤ _; exact Nat.le_of_eq rfl) (hb hby own_dMc_5) (fun _ _ => ⟨rfl, e0, (by decide : 0 + 0 ≤ _), (by decide : 0 + 0 ≤ _)⟩)
  dsimp only [Pt.U, Pt.locs, Pt.cells, Pt.slots] at X1 l1 y1 z1 st1 hQ1
  subst l1 y1 z1
  obtain ⟨rfl, N1q, e1⟩ := hQ1
  have N1 := Fr.app N0 N1q
  refine own_go (T' := T1) (g' := (mkF m 8 #[.val (.long xa), .second, .val (.int xy), .val (.long xc), .second] [(.long (own_min (xa * (xy.toInt64)) xc))])) (fun _ k => st1 _ k) ?_
  obtain ⟨fs, hr, hrun, hended, hW, hsame⟩ := X1.leave (v := some (.long (own_min (xa * (xy.toInt64)) xc))) (fun h => by rw [Bd.returns] at h; cases h)
  refine own_end (retOut X1 hx Bd.returns rfl (Or.inr (Or.inl ⟨rfl, rfl, _, rfl⟩)) (hb hby own_dMc_8) hr) hrun hended ⟨_, _, rfl, (?_ : own_QMc Z xa xy xc z h0 n0 _ T1.heap _), ⟨_, rfl⟩, hW, hsame.mono (by decide) (by decide)⟩
  rw [e1]
  exact ⟨by rw [← hv], N1, rfl⟩
theorem own_dRec_0 : decode jdk_30_method_1_code 0 = .ok (.aload_n 0, 1) := by decide +kernel
theorem own_dRec_1 : decode jdk_30_method_1_code 1 = .ok (.invokespecial 1, 3) := by decide +kernel
theorem own_dRec_4 : decode jdk_30_method_1_code 4 = .ok (.return_, 1) := by decide +kernel
theorem own_efRec (m : MethodId) (xo : Addr) : entryFrame m #[(.ref xo)] 1 = mkF m 0 #[.val (.ref xo)] [] := by first | (simp [entryFrame, mkF, argsToLocals, Value.category]; done) | rfl
def own_QRec (Z : State) (xo : Addr)  (h0 : Heap) (n0 : Nat) (v : Option Value) (h : Heap) (L : List Loc) : Prop := v = none ∧ Fr n0 L ∧ h = h0
theorem own_pn1 : plainName "java/lang/Record" = true := by first | (simp [plainName, overriddenIn]; done) | decide +kernel
set_option maxRecDepth 65536 in
set_option maxHeartbeats 40000000 in
theorem own_rRec (l : Launch) (Z : State) (a0 : Array Value) (hw : ∀ d ∈ tables_1, d.before a0 Z = true) (ws : List Jvm.Cond) (xo : Addr)  (h0 : Heap) (n0 : Nat) (Z0 : n0 ≤ h0.size) :
    MetFree l (⟨"java/lang/Record", "<init>", "()V"⟩ : MethodName) (head1 (Jvm.Cond.code (⟨"java/lang/Record", "<init>", "()V"⟩ : MethodName) jdk_30_method_1_code 1 none :: ws) ({ frames := 1, cells := 0, slots := 0, locals := 12 } : Room)) (fun a U => a = #[(.ref xo)] ∧ Z.Warmed39 U.vm ∧ U.heap = h0) (fun _ _ _ _ _ => True) (fun _ U o U' => ∃ v L, o = .returned v ∧ own_QRec Z xo h0 n0 v U'.heap L ∧ FrameEnd U o U' L ({ frames := 1, cells := 0, slots := 0, locals := 12 } : Room).cells ({ frames := 1, cells := 0, slots := 0, locals := 12 } : Room).slots) := by
  refine MetFree.of_bodySF (plainFor_of_name own_pn1) hisR ?_
  intro p e s m args below meth c s₁ Bd hml0 hP hK
  obtain ⟨rfl, hZ, hh⟩ := hP
  have hx := Bd.exec
  have hby := Bd.bytes
  have hml : c.maxLocals = 1 := hml0
  have hown : s.vm.findClass "java/lang/Record" = some m.cls := findClass_of_methodNamed Bd.named
  have hnm := (name_of_methodNamed Bd.named Bd.method).1
  have X0 : Stand p l e ({ frames := 1, cells := 0, slots := 0, locals := 12 } : Room) s m #[(.ref xo)] below meth c s₁ [] 0 0 := Stand.of_body Bd
  have e0 : s₁.heap = h0 := by rw [← hh, Bd.state]; rfl
  have N0 := Fr.nil n0
  show own_F p e below (fun o U' => ∃ v L, o = .returned v ∧ own_QRec Z xo h0 n0 v U'.heap L ∧ FrameEnd s o U' L ({ frames := 1, cells := 0, slots := 0, locals := 12 } : Room).cells ({ frames := 1, cells := 0, slots := 0, locals := 12 } : Room).slots) s₁ (entryFrame m #[(.ref xo)] 1)
  rw [own_efRec m xo]
  refine own_go (T' := s₁) (g' := (mkF m 1 #[.val (.ref xo)] [(.ref xo)])) (fun _ k => XS.aloadN X0.here hx rfl (hb hby own_dRec_0) rfl rfl k) ?_
  obtain ⟨T1, X1, e1, st1⟩ := initO X0 hx hZ hown (hw _ (List.mem_of_getElem? (i := 47) rfl)) (hw _ (List.mem_of_getElem? (i := 29) rfl)) (hw _ (List.mem_of_getElem? (i := 30) rfl)) e0 (g := (mkF m 1 #[.val (.ref xo)] [(.ref xo)])) rfl (by rw [hml]; rfl) rfl (hb hby own_dRec_1) (by decide) (W := 0) (by show 2 * 0 + _ ≤ _; exact Nat.le_of_eq rfl) (by decide)
  refine own_go (T' := T1) (g' := (mkF m 4 #[.val (.ref xo)] [])) (fun _ k => st1 _ k) ?_
  obtain ⟨fs, hr, hrun, hended, hW, hsame⟩ := X1.leave (v := none) (fun _ => rfl)
  refine own_end (X1.returnOut hx Bd.returns (hb hby own_dRec_4) hr) hrun hended ⟨_, _, rfl, (?_ : own_QRec Z xo h0 n0 _ T1.heap _), ⟨_, rfl⟩, hW, hsame.mono (by decide) (by decide)⟩
  rw [e1]
  exact ⟨rfl, N0, rfl⟩
theorem own_pd2 : parseMethodDescriptor "()V" = some ⟨[], none⟩ := by decide +kernel
theorem own_dDi_0 : decode prog_9_method_1_code 0 = .ok (.aload_n 0, 1) := by decide +kernel
theorem own_dDi_1 : decode prog_9_method_1_code 1 = .ok (.invokespecial 1, 3) := by decide +kernel
theorem own_dDi_4 : decode prog_9_method_1_code 4 = .ok (.aload_n 0, 1) := by decide +kernel
theorem own_dDi_5 : decode prog_9_method_1_code 5 = .ok (.iload_n 1, 1) := by decide +kernel
theorem own_dDi_6 : decode prog_9_method_1_code 6 = .ok (.putfield 7, 3) := by decide +kernel
theorem own_dDi_9 : decode prog_9_method_1_code 9 = .ok (.aload_n 0, 1) := by decide +kernel
theorem own_dDi_10 : decode prog_9_method_1_code 10 = .ok (.iload_n 2, 1) := by decide +kernel
theorem own_dDi_11 : decode prog_9_method_1_code 11 = .ok (.putfield 13, 3) := by decide +kernel
theorem own_dDi_14 : decode prog_9_method_1_code 14 = .ok (.return_, 1) := by decide +kernel
theorem own_efDi (m : MethodId) (xo : Addr) (xl : Int32) (xu : Int32) : entryFrame m #[(.ref xo), (.int xl), (.int xu)] 3 = mkF m 0 #[.val (.ref xo), .val (.int xl), .val (.int xu)] [] := by first | (simp [entryFrame, mkF, argsToLocals, Value.category]; done) | rfl
def own_QDi (Z : State) (xo : Addr) (xl : Int32) (xu : Int32)  (h0 : Heap) (n0 : Nat) (v : Option Value) (h : Heap) (L : List Loc) : Prop := v = none ∧ Fr n0 L ∧ Keep h0 h [xo] ∧ Exa Z h xo "com/example/benchlight/benchlight/Bounds$Dimension" ∧ Fld Z h xo "com/example/benchlight/benchlight/Bounds$Dimension" "lower" "I" (.int xl) ∧ Fld Z h xo "com/example/benchlight/benchlight/Bounds$Dimension" "upper" "I" (.int xu)
theorem own_pn2 : plainName "com/example/benchlight/benchlight/Bounds$Dimension" = true := by first | (simp [plainName, overriddenIn]; done) | decide +kernel
set_option maxRecDepth 65536 in
set_option maxHeartbeats 40000000 in
theorem own_rDi (l : Launch) (Z : State) (a0 : Array Value) (hw : ∀ d ∈ tables_1, d.before a0 Z = true) (ws : List Jvm.Cond) (xo : Addr) (xl : Int32) (xu : Int32)  (h0 : Heap) (n0 : Nat) (Z0 : n0 ≤ h0.size) (E1 : Exa Z h0 xo "com/example/benchlight/benchlight/Bounds$Dimension") (F1 : Fld Z h0 xo "com/example/benchlight/benchlight/Bounds$Dimension" "lower" "I" (.int (0 : Int32))) (F2 : Fld Z h0 xo "com/example/benchlight/benchlight/Bounds$Dimension" "upper" "I" (.int (0 : Int32))) (gz : n0 ≤ xo) :
    MetFree l (⟨"com/example/benchlight/benchlight/Bounds$Dimension", "<init>", "(II)V"⟩ : MethodName) (head1 (Jvm.Cond.code (⟨"com/example/benchlight/benchlight/Bounds$Dimension", "<init>", "(II)V"⟩ : MethodName) prog_9_method_1_code 3 none :: ws) ({ frames := 2, cells := 0, slots := 0, locals := 24 } : Room)) (fun a U => a = #[(.ref xo), (.int xl), (.int xu)] ∧ Z.Warmed39 U.vm ∧ U.heap = h0) (fun _ _ _ _ _ => True) (fun _ U o U' => ∃ v L, o = .returned v ∧ own_QDi Z xo xl xu h0 n0 v U'.heap L ∧ FrameEnd U o U' L ({ frames := 2, cells := 0, slots := 0, locals := 24 } : Room).cells ({ frames := 2, cells := 0, slots := 0, locals := 24 } : Room).slots) := by
  refine MetFree.of_bodySF (plainFor_of_name own_pn2) hisR ?_
  intro p e s m args below meth c s₁ Bd hml0 hP hK
  obtain ⟨rfl, hZ, hh⟩ := hP
  have hx := Bd.exec
  have hby := Bd.bytes
  have hml : c.maxLocals = 3 := hml0
  have hown : s.vm.findClass "com/example/benchlight/benchlight/Bounds$Dimension" = some m.cls := findClass_of_methodNamed Bd.named
  have hnm := (name_of_methodNamed Bd.named Bd.method).1
  have X0 : Stand p l e ({ frames := 2, cells := 0, slots := 0, locals := 24 } : Room) s m #[(.ref xo), (.int xl), (.int xu)] below meth c s₁ [] 0 0 := Stand.of_body Bd
  have e0 : s₁.heap = h0 := by rw [← hh, Bd.state]; rfl
  have N0 := Fr.nil n0
  show own_F p e below (fun o U' => ∃ v L, o = .returned v ∧ own_QDi Z xo xl xu h0 n0 v U'.heap L ∧ FrameEnd s o U' L ({ frames := 2, cells := 0, slots := 0, locals := 24 } : Room).cells ({ frames := 2, cells := 0, slots := 0, locals := 24 } : Room).slots) s₁ (entryFrame m #[(.ref xo), (.int xl), (.int xu)] 3)
  rw [own_efDi m xo xl xu]
  refine own_go (T' := s₁) (g' := (mkF m 1 #[.val (.ref xo), .val (.int xl), .val (.int xu)] [(.ref xo)])) (fun _ k => XS.aloadN X0.here hx rfl (hb hby own_dDi_0) rfl rfl k) ?_
  obtain ⟨_, _, ⟨T1, L1, k1, n1⟩, -, X1, ⟨Lc1, hQ1, l1, y1, z1⟩, st1⟩ := X0.specialBack hx (y := (⟨"java/lang/Record", "<init>", "()V"⟩ : MethodName)) rfl hown (mvT hZ (hw _ (List.mem_of_getElem? (i := 42) rfl))) (mvT hZ (hw _ (List.mem_of_getElem? (i := 43) rfl))) (mvT hZ (hw _ (List.mem_of_getElem? (i := 46) rfl))) (by decide) (backOf (W := 0) (own_rRec l Z a0 hw [] xo h0 n0 Z0 ) hZ (hw _ (List.mem_of_getElem? (i := 46) rfl)) (hw _ (List.mem_of_getElem? (i := 45) rfl)) (by decide) (by decide)) (g := (mkF m 1 #[.val (.ref xo), .val (.int xl), .val (.int xu)] [(.ref xo)])) rfl (by rw [hml]; rfl) (Steps.refl _) (a := xo) (argsL := []) (rest := []) (lenOf own_pd2 rfl) rfl (by show 2 * 0 + _ ≤ _; exact Nat.le_of_eq rfl) (hb hby own_dDi_1) (fun _ _ => ⟨rfl, e0, (by decide : 0 + 0 ≤ _), (by decide : 0 + 0 ≤ _)⟩)
  dsimp only [Pt.U, Pt.locs, Pt.cells, Pt.slots] at X1 l1 y1 z1 st1 hQ1
  subst l1 y1 z1
  obtain ⟨rfl, N1q, e1⟩ := hQ1
  have N1 := Fr.app N0 N1q
  refine own_goT (T' := T1) (g' := (mkF m 4 #[.val (.ref xo), .val (.int xl), .val (.int xu)] [])) st1 ?_
  refine own_go (T' := T1) (g' := (mkF m 5 #[.val (.ref xo), .val (.int xl), .val (.int xu)] [(.ref xo)])) (fun _ k => XS.aloadN X1.here hx rfl (hb hby own_dDi_4) rfl rfl k) ?_
  refine own_go (T' := T1) (g' := (mkF m 6 #[.val (.ref xo), .val (.int xl), .val (.int xu)] [(.int xl), (.ref xo)])) (fun _ k => XS.iloadN X1.here hx rfl (hb hby own_dDi_5) rfl k) ?_
  obtain ⟨T2, h2, X2, e2, W2, st2⟩ := putF X1 hx hZ hown (host := "") (Or.inl (hw _ (List.mem_of_getElem? (i := 48) rfl))) Via.refl e1 F1 E1 (Or.inr ⟨(hw _ (List.mem_of_getElem? (i := 49) rfl)), rfl, hnm⟩) (hw _ (List.mem_of_getElem? (i := 37) rfl)) (ty := .int) (by decide) rfl rfl (g := (mkF m 6 #[.val (.ref xo), .val (.int xl), .val (.int xu)] [(.int xl), (.ref xo)])) rfl rfl (hb hby own_dDi_6)
  have Fw2 := F1.same W2
  have Ek3 := E1.wr W2
  have Fk4 := F2.other W2 (Or.inr (slot_ne (Or.inr (hw _ (List.mem_of_getElem? (i := 51) rfl))) (Or.inr (hw _ (List.mem_of_getElem? (i := 49) rfl))) (by decide) (t := .int) (t' := .int) (by decide) (by decide)))
  have Z2 : n0 ≤ h2.size := Nat.le_trans Z0 (Keep.of_wr W2).1
  have K2 : Keep h0 h2 [xo] := (Keep.refl h0 [xo]).wr W2 (Or.inl (List.mem_of_getElem? (i := 0) rfl))
  have N2 := Fr.snoc X2 N1 gz
  refine own_go (T' := T2) (g' := (mkF m 9 #[.val (.ref xo), .val (.int xl), .val (.int xu)] [])) (fun _ k => st2 _ k) ?_
  refine own_go (T' := T2) (g' := (mkF m 10 #[.val (.ref xo), .val (.int xl), .val (.int xu)] [(.ref xo)])) (fun _ k => XS.aloadN X2.here hx rfl (hb hby own_dDi_9) rfl rfl k) ?_
  refine own_go (T' := T2) (g' := (mkF m 11 #[.val (.ref xo), .val (.int xl), .val (.int xu)] [(.int xu), (.ref xo)])) (fun _ k => XS.iloadN X2.here hx rfl (hb hby own_dDi_10) rfl k) ?_
  obtain ⟨T5, h5, X5, e5, W5, st5⟩ := putF X2 hx hZ hown (host := "") (Or.inl (hw _ (List.mem_of_getElem? (i := 50) rfl))) Via.refl e2 Fk4 Ek3 (Or.inr ⟨(hw _ (List.mem_of_getElem? (i := 51) rfl)), rfl, hnm⟩) (hw _ (List.mem_of_getElem? (i := 37) rfl)) (ty := .int) (by decide) rfl rfl (g := (mkF m 11 #[.val (.ref xo), .val (.int xl), .val (.int xu)] [(.int xu), (.ref xo)])) rfl rfl (hb hby own_dDi_11)
  have Fw5 := Fk4.same W5
  have Ek6 := Ek3.wr W5
  have Fk7 := Fw2.other W5 (Or.inr (slot_ne (Or.inr (hw _ (List.mem_of_getElem? (i := 49) rfl))) (Or.inr (hw _ (List.mem_of_getElem? (i := 51) rfl))) (by decide) (t := .int) (t' := .int) (by decide) (by decide)))
  have Z5 : n0 ≤ h5.size := Nat.le_trans Z2 (Keep.of_wr W5).1
  have K5 : Keep h0 h5 [xo] := K2.wr W5 (Or.inl (List.mem_of_getElem? (i := 0) rfl))
  have N5 := Fr.snoc X5 N2 gz
  refine own_go (T' := T5) (g' := (mkF m 14 #[.val (.ref xo), .val (.int xl), .val (.int xu)] [])) (fun _ k => st5 _ k) ?_
  obtain ⟨fs, hr, hrun, hended, hW, hsame⟩ := X5.leave (v := none) (fun _ => rfl)
  refine own_end (X5.returnOut hx Bd.returns (hb hby own_dDi_14) hr) hrun hended ⟨_, _, rfl, (?_ : own_QDi Z xo xl xu h0 n0 _ T5.heap _), ⟨_, rfl⟩, hW, hsame.mono (by decide) (by decide)⟩
  rw [e5]
  exact ⟨rfl, N5, K5, Ek6, Fk7, Fw5⟩
theorem own_dDl_0 : decode prog_9_method_6_code 0 = .ok (.aload_n 0, 1) := by decide +kernel
theorem own_dDl_1 : decode prog_9_method_6_code 1 = .ok (.getfield 7, 3) := by decide +kernel
theorem own_dDl_4 : decode prog_9_method_6_code 4 = .ok (.ireturn, 1) := by decide +kernel
theorem own_efDl (m : MethodId) (xo : Addr) : entryFrame m #[(.ref xo)] 1 = mkF m 0 #[.val (.ref xo)] [] := by first | (simp [entryFrame, mkF, argsToLocals, Value.category]; done) | rfl
def own_QDl (Z : State) (xo : Addr) (xl : Int32) (h0 : Heap) (n0 : Nat) (v : Option Value) (h : Heap) (L : List Loc) : Prop := v = some (.int xl) ∧ Fr n0 L ∧ h = h0
set_option maxRecDepth 65536 in
set_option maxHeartbeats 40000000 in
theorem own_rDl (l : Launch) (Z : State) (a0 : Array Value) (hw : ∀ d ∈ tables_1, d.before a0 Z = true) (ws : List Jvm.Cond) (xo : Addr) (xl : Int32) (h0 : Heap) (n0 : Nat) (Z0 : n0 ≤ h0.size) (F1 : Fld Z h0 xo "com/example/benchlight/benchlight/Bounds$Dimension" "lower" "I" (.int xl)) :
    MetFree l (⟨"com/example/benchlight/benchlight/Bounds$Dimension", "lower", "()I"⟩ : MethodName) (head1 (Jvm.Cond.code (⟨"com/example/benchlight/benchlight/Bounds$Dimension", "lower", "()I"⟩ : MethodName) prog_9_method_6_code 1 (some .int) :: ws) ({ frames := 0, cells := 0, slots := 0, locals := 0 } : Room)) (fun a U => a = #[(.ref xo)] ∧ Z.Warmed39 U.vm ∧ U.heap = h0) (fun _ _ _ _ _ => True) (fun _ U o U' => ∃ v L, o = .returned v ∧ own_QDl Z xo xl h0 n0 v U'.heap L ∧ FrameEnd U o U' L ({ frames := 0, cells := 0, slots := 0, locals := 0 } : Room).cells ({ frames := 0, cells := 0, slots := 0, locals := 0 } : Room).slots) := by
  refine MetFree.of_bodySF (plainFor_of_name own_pn2) hisR ?_
  intro p e s m args below meth c s₁ Bd hml0 hP hK
  obtain ⟨rfl, hZ, hh⟩ := hP
  have hx := Bd.exec
  have hby := Bd.bytes
  have hml : c.maxLocals = 1 := hml0
  have hown : s.vm.findClass "com/example/benchlight/benchlight/Bounds$Dimension" = some m.cls := findClass_of_methodNamed Bd.named
  have hnm := (name_of_methodNamed Bd.named Bd.method).1
  have X0 : Stand p l e ({ frames := 0, cells := 0, slots := 0, locals := 0 } : Room) s m #[(.ref xo)] below meth c s₁ [] 0 0 := Stand.of_body Bd
  have e0 : s₁.heap = h0 := by rw [← hh, Bd.state]; rfl
  have N0 := Fr.nil n0
  show own_F p e below (fun o U' => ∃ v L, o = .returned v ∧ own_QDl Z xo xl h0 n0 v U'.heap L ∧ FrameEnd s o U' L ({ frames := 0, cells := 0, slots := 0, locals := 0 } : Room).cells ({ frames := 0, cells := 0, slots := 0, locals := 0 } : Room).slots) s₁ (entryFrame m #[(.ref xo)] 1)
  rw [own_efDl m xo]
  refine own_go (T' := s₁) (g' := (mkF m 1 #[.val (.ref xo)] [(.ref xo)])) (fun _ k => XS.aloadN X0.here hx rfl (hb hby own_dDl_0) rfl rfl k) ?_
  obtain ⟨T1, X1, e1, st1⟩ := getF X0 hx hZ hown (host := "") (Or.inl (hw _ (List.mem_of_getElem? (i := 48) rfl))) Via.refl e0 F1 (g := (mkF m 1 #[.val (.ref xo)] [(.ref xo)])) rfl rfl (hb hby own_dDl_1)
  refine own_go (T' := T1) (g' := (mkF m 4 #[.val (.ref xo)] [(.int xl)])) (fun _ k => st1 _ k) ?_
  obtain ⟨fs, hr, hrun, hended, hW, hsame⟩ := X1.leave (v := some (.int xl)) (fun h => by rw [Bd.returns] at h; cases h)
  refine own_end (retOut X1 hx Bd.returns rfl (Or.inl ⟨rfl, Or.inl rfl, _, rfl⟩) (hb hby own_dDl_4) hr) hrun hended ⟨_, _, rfl, (?_ : own_QDl Z xo xl h0 n0 _ T1.heap _), ⟨_, rfl⟩, hW, hsame.mono (by decide) (by decide)⟩
  rw [e1]
  exact ⟨rfl, N0, rfl⟩
theorem own_dDn_0 : decode prog_9_method_2_code 0 = .ok (.aload_n 0, 1) := by decide +kernel
theorem own_dDn_1 : decode prog_9_method_2_code 1 = .ok (.getfield 13, 3) := by decide +kernel
theorem own_dDn_4 : decode prog_9_method_2_code 4 = .ok (.aload_n 0, 1) := by decide +kernel
theorem own_dDn_5 : decode prog_9_method_2_code 5 = .ok (.getfield 7, 3) := by decide +kernel
theorem own_dDn_8 : decode prog_9_method_2_code 8 = .ok (.isub, 1) := by decide +kernel
theorem own_dDn_9 : decode prog_9_method_2_code 9 = .ok (.iconst 1, 1) := by decide +kernel
theorem own_dDn_10 : decode prog_9_method_2_code 10 = .ok (.iadd, 1) := by decide +kernel
theorem own_dDn_11 : decode prog_9_method_2_code 11 = .ok (.ireturn, 1) := by decide +kernel
theorem own_efDn (m : MethodId) (xo : Addr) : entryFrame m #[(.ref xo)] 1 = mkF m 0 #[.val (.ref xo)] [] := by first | (simp [entryFrame, mkF, argsToLocals, Value.category]; done) | rfl
def own_QDn (Z : State) (xo : Addr) (xl : Int32) (xu : Int32) (z : Int32) (h0 : Heap) (n0 : Nat) (v : Option Value) (h : Heap) (L : List Loc) : Prop := v = some (.int z) ∧ Fr n0 L ∧ h = h0
set_option maxRecDepth 65536 in
set_option maxHeartbeats 40000000 in
theorem own_rDn (l : Launch) (Z : State) (a0 : Array Value) (hw : ∀ d ∈ tables_1, d.before a0 Z = true) (ws : List Jvm.Cond) (xo : Addr) (xl : Int32) (xu : Int32) (z : Int32) (h0 : Heap) (n0 : Nat) (Z0 : n0 ≤ h0.size) (F1 : Fld Z h0 xo "com/example/benchlight/benchlight/Bounds$Dimension" "lower" "I" (.int xl)) (F2 : Fld Z h0 xo "com/example/benchlight/benchlight/Bounds$Dimension" "upper" "I" (.int xu)) (hv : xu - xl + (1 : Int32) = z) :
    MetFree l (⟨"com/example/benchlight/benchlight/Bounds$Dimension", "length", "()I"⟩ : MethodName) (head1 (Jvm.Cond.code (⟨"com/example/benchlight/benchlight/Bounds$Dimension", "length", "()I"⟩ : MethodName) prog_9_method_2_code 1 (some .int) :: ws) ({ frames := 0, cells := 0, slots := 0, locals := 0 } : Room)) (fun a U => a = #[(.ref xo)] ∧ Z.Warmed39 U.vm ∧ U.heap = h0) (fun _ _ _ _ _ => True) (fun _ U o U' => ∃ v L, o = .returned v ∧ own_QDn Z xo xl xu z h0 n0 v U'.heap L ∧ FrameEnd U o U' L ({ frames := 0, cells := 0, slots := 0, locals := 0 } : Room).cells ({ frames := 0, cells := 0, slots := 0, locals := 0 } : Room).slots) := by
  refine MetFree.of_bodySF (plainFor_of_name own_pn2) hisR ?_
  intro p e s m args below meth c s₁ Bd hml0 hP hK
  obtain ⟨rfl, hZ, hh⟩ := hP
  have hx := Bd.exec
  have hby := Bd.bytes
  have hml : c.maxLocals = 1 := hml0
  have hown : s.vm.findClass "com/example/benchlight/benchlight/Bounds$Dimension" = some m.cls := findClass_of_methodNamed Bd.named
  have hnm := (name_of_methodNamed Bd.named Bd.method).1
  have X0 : Stand p l e ({ frames := 0, cells := 0, slots := 0, locals := 0 } : Room) s m #[(.ref xo)] below meth c s₁ [] 0 0 := Stand.of_body Bd
  have e0 : s₁.heap = h0 := by rw [← hh, Bd.state]; rfl
  have N0 := Fr.nil n0
  show own_F p e below (fun o U' => ∃ v L, o = .returned v ∧ own_QDn Z xo xl xu z h0 n0 v U'.heap L ∧ FrameEnd s o U' L ({ frames := 0, cells := 0, slots := 0, locals := 0 } : Room).cells ({ frames := 0, cells := 0, slots := 0, locals := 0 } : Room).slots) s₁ (entryFrame m #[(.ref xo)] 1)
  rw [own_efDn m xo]
  refine own_go (T' := s₁) (g' := (mkF m 1 #[.val (.ref xo)] [(.ref xo)])) (fun _ k => XS.aloadN X0.here hx rfl (hb hby own_dDn_0) rfl rfl k) ?_
  obtain ⟨T1, X1, e1, st1⟩ := getF X0 hx hZ hown (host := "") (Or.inl (hw _ (List.mem_of_getElem? (i := 50) rfl))) Via.refl e0 F2 (g := (mkF m 1 #[.val (.ref xo)] [(.ref xo)])) rfl rfl (hb hby own_dDn_1)
  refine own_go (T' := T1) (g' := (mkF m 4 #[.val (.ref xo)] [(.int xu)])) (fun _ k => st1 _ k) ?_
  refine own_go (T' := T1) (g' := (mkF m 5 #[.val (.ref xo)] [(.ref xo), (.int xu)])) (fun _ k => XS.aloadN X1.here hx rfl (hb hby own_dDn_4) rfl rfl k) ?_
  obtain ⟨T2, X2, e2, st2⟩ := getF X1 hx hZ hown (host := "") (Or.inl (hw _ (List.mem_of_getElem? (i := 48) rfl))) Via.refl e1 F1 (g := (mkF m 5 #[.val (.ref xo)] [(.ref xo), (.int xu)])) rfl rfl (hb hby own_dDn_5)
  refine own_go (T' := T2) (g' := (mkF m 8 #[.val (.ref xo)] [(.int xl), (.int xu)])) (fun _ k => st2 _ k) ?_
  refine own_go (T' := T2) (g' := (mkF m 9 #[.val (.ref xo)] [(.int (xu - xl))])) (fun _ k => XS.isub X2.here hx rfl (hb hby own_dDn_8) rfl k) ?_
  refine own_go (T' := T2) (g' := (mkF m 10 #[.val (.ref xo)] [(.int (1 : Int32)), (.int (xu - xl))])) (fun _ k => XS.iconst X2.here hx rfl (hb hby own_dDn_9) k) ?_
  refine own_go (T' := T2) (g' := (mkF m 11 #[.val (.ref xo)] [(.int ((xu - xl) + (1 : Int32)))])) (fun _ k => XS.iadd X2.here hx rfl (hb hby own_dDn_10) rfl k) ?_
  obtain ⟨fs, hr, hrun, hended, hW, hsame⟩ := X2.leave (v := some (.int ((xu - xl) + (1 : Int32)))) (fun h => by rw [Bd.returns] at h; cases h)
  refine own_end (retOut X2 hx Bd.returns rfl (Or.inl ⟨rfl, Or.inl rfl, _, rfl⟩) (hb hby own_dDn_11) hr) hrun hended ⟨_, _, rfl, (?_ : own_QDn Z xo xl xu z h0 n0 _ T2.heap _), ⟨_, rfl⟩, hW, hsame.mono (by decide) (by decide)⟩
  rw [e2]
  exact ⟨by rw [← hv], N0, rfl⟩
theorem own_dAc_0 : decode jdk_22_method_1_code 0 = .ok (.aload_n 0, 1) := by decide +kernel
theorem own_dAc_1 : decode jdk_22_method_1_code 1 = .ok (.invokespecial 1, 3) := by decide +kernel
theorem own_dAc_4 : decode jdk_22_method_1_code 4 = .ok (.return_, 1) := by decide +kernel
theorem own_efAc (m : MethodId) (xo : Addr) : entryFrame m #[(.ref xo)] 1 = mkF m 0 #[.val (.ref xo)] [] := by first | (simp [entryFrame, mkF, argsToLocals, Value.category]; done) | rfl
def own_QAc (Z : State) (xo : Addr)  (h0 : Heap) (n0 : Nat) (v : Option Value) (h : Heap) (L : List Loc) : Prop := v = none ∧ Fr n0 L ∧ h = h0
theorem own_pn3 : plainName "java/util/AbstractCollection" = true := by first | (simp [plainName, overriddenIn]; done) | decide +kernel
set_option maxRecDepth 65536 in
set_option maxHeartbeats 40000000 in
theorem own_rAc (l : Launch) (Z : State) (a0 : Array Value) (hw : ∀ d ∈ tables_1, d.before a0 Z = true) (ws : List Jvm.Cond) (xo : Addr)  (h0 : Heap) (n0 : Nat) (Z0 : n0 ≤ h0.size) :
    MetFree l (⟨"java/util/AbstractCollection", "<init>", "()V"⟩ : MethodName) (head1 (Jvm.Cond.code (⟨"java/util/AbstractCollection", "<init>", "()V"⟩ : MethodName) jdk_22_method_1_code 1 none :: ws) ({ frames := 1, cells := 0, slots := 0, locals := 12 } : Room)) (fun a U => a = #[(.ref xo)] ∧ Z.Warmed39 U.vm ∧ U.heap = h0) (fun _ _ _ _ _ => True) (fun _ U o U' => ∃ v L, o = .returned v ∧ own_QAc Z xo h0 n0 v U'.heap L ∧ FrameEnd U o U' L ({ frames := 1, cells := 0, slots := 0, locals := 12 } : Room).cells ({ frames := 1, cells := 0, slots := 0, locals := 12 } : Room).slots) := by
  refine MetFree.of_bodySF (plainFor_of_name own_pn3) hisR ?_
  intro p e s m args below meth c s₁ Bd hml0 hP hK
  obtain ⟨rfl, hZ, hh⟩ := hP
  have hx := Bd.exec
  have hby := Bd.bytes
  have hml : c.maxLocals = 1 := hml0
  have hown : s.vm.findClass "java/util/AbstractCollection" = some m.cls := findClass_of_methodNamed Bd.named
  have hnm := (name_of_methodNamed Bd.named Bd.method).1
  have X0 : Stand p l e ({ frames := 1, cells := 0, slots := 0, locals := 12 } : Room) s m #[(.ref xo)] below meth c s₁ [] 0 0 := Stand.of_body Bd
  have e0 : s₁.heap = h0 := by rw [← hh, Bd.state]; rfl
  have N0 := Fr.nil n0
  show own_F p e below (fun o U' => ∃ v L, o = .returned v ∧ own_QAc Z xo h0 n0 v U'.heap L ∧ FrameEnd s o U' L ({ frames := 1, cells := 0, slots := 0, locals := 12 } : Room).cells ({ frames := 1, cells := 0, slots := 0, locals := 12 } : Room).slots) s₁ (entryFrame m #[(.ref xo)] 1)
  rw [own_efAc m xo]
  refine own_go (T' := s₁) (g' := (mkF m 1 #[.val (.ref xo)] [(.ref xo)])) (fun _ k => XS.aloadN X0.here hx rfl (hb hby own_dAc_0) rfl rfl k) ?_
  obtain ⟨T1, X1, e1, st1⟩ := initO X0 hx hZ hown (hw _ (List.mem_of_getElem? (i := 28) rfl)) (hw _ (List.mem_of_getElem? (i := 29) rfl)) (hw _ (List.mem_of_getElem? (i := 30) rfl)) e0 (g := (mkF m 1 #[.val (.ref xo)] [(.ref xo)])) rfl (by rw [hml]; rfl) rfl (hb hby own_dAc_1) (by decide) (W := 0) (by show 2 * 0 + _ ≤ _; exact Nat.le_of_eq rfl) (by decide)
  refine own_go (T' := T1) (g' := (mkF m 4 #[.val (.ref xo)] [])) (fun _ k => st1 _ k) ?_
  obtain ⟨fs, hr, hrun, hended, hW, hsame⟩ := X1.leave (v := none) (fun _ => rfl)
  refine own_end (X1.returnOut hx Bd.returns (hb hby own_dAc_4) hr) hrun hended ⟨_, _, rfl, (?_ : own_QAc Z xo h0 n0 _ T1.heap _), ⟨_, rfl⟩, hW, hsame.mono (by decide) (by decide)⟩
  rw [e1]
  exact ⟨rfl, N0, rfl⟩
theorem own_dAbl_0 : decode jdk_39_method_1_code 0 = .ok (.aload_n 0, 1) := by decide +kernel
theorem own_dAbl_1 : decode jdk_39_method_1_code 1 = .ok (.invokespecial 1, 3) := by decide +kernel
theorem own_dAbl_4 : decode jdk_39_method_1_code 4 = .ok (.aload_n 0, 1) := by decide +kernel
theorem own_dAbl_5 : decode jdk_39_method_1_code 5 = .ok (.iconst 0, 1) := by decide +kernel
theorem own_dAbl_6 : decode jdk_39_method_1_code 6 = .ok (.putfield 7, 3) := by decide +kernel
theorem own_dAbl_9 : decode jdk_39_method_1_code 9 = .ok (.return_, 1) := by decide +kernel
theorem own_efAbl (m : MethodId) (xo : Addr) : entryFrame m #[(.ref xo)] 1 = mkF m 0 #[.val (.ref xo)] [] := by first | (simp [entryFrame, mkF, argsToLocals, Value.category]; done) | rfl
def own_QAbl (Z : State) (xo : Addr)  (h0 : Heap) (n0 : Nat) (v : Option Value) (h : Heap) (L : List Loc) : Prop := v = none ∧ Fr n0 L ∧ Keep h0 h [xo] ∧ own_SK Z h0 h ∧ Exa Z h xo "java/util/ArrayList" ∧ Fld Z h xo "java/util/AbstractList" "modCount" "I" (.int (0 : Int32)) ∧ Fld Z h xo "java/util/ArrayList" "elementData" "[Ljava/lang/Object;" .null ∧ Fld Z h xo "java/util/ArrayList" "size" "I" (.int (0 : Int32))
theorem own_pn4 : plainName "java/util/AbstractList" = true := by first | (simp [plainName, overriddenIn]; done) | decide +kernel
set_option maxRecDepth 65536 in
set_option maxHeartbeats 40000000 in
theorem own_rAbl (l : Launch) (Z : State) (a0 : Array Value) (hw : ∀ d ∈ tables_1, d.before a0 Z = true) (ws : List Jvm.Cond) (xo : Addr)  (h0 : Heap) (n0 : Nat) (Z0 : n0 ≤ h0.size) (E1 : Exa Z h0 xo "java/util/ArrayList") (Fm : Fld Z h0 xo "java/util/AbstractList" "modCount" "I" (.int (0 : Int32))) (Fe : Fld Z h0 xo "java/util/ArrayList" "elementData" "[Ljava/lang/Object;" .null) (Fs : Fld Z h0 xo "java/util/ArrayList" "size" "I" (.int (0 : Int32))) (gz : n0 ≤ xo) :
    MetFree l (⟨"java/util/AbstractList", "<init>", "()V"⟩ : MethodName) (head1 (Jvm.Cond.code (⟨"java/util/AbstractList", "<init>", "()V"⟩ : MethodName) jdk_39_method_1_code 1 none :: ws) ({ frames := 2, cells := 0, slots := 0, locals := 24 } : Room)) (fun a U => a = #[(.ref xo)] ∧ Z.Warmed39 U.vm ∧ U.heap = h0) (fun _ _ _ _ _ => True) (fun _ U o U' => ∃ v L, o = .returned v ∧ own_QAbl Z xo h0 n0 v U'.heap L ∧ FrameEnd U o U' L ({ frames := 2, cells := 0, slots := 0, locals := 24 } : Room).cells ({ frames := 2, cells := 0, slots := 0, locals := 24 } : Room).slots) := by
  refine MetFree.of_bodySF (plainFor_of_name own_pn4) hisR ?_
  intro p e s m args below meth c s₁ Bd hml0 hP hK
  obtain ⟨rfl, hZ, hh⟩ := hP
  have hx := Bd.exec
  have hby := Bd.bytes
  have hml : c.maxLocals = 1 := hml0
  have hown : s.vm.findClass "java/util/AbstractList" = some m.cls := findClass_of_methodNamed Bd.named
  have hnm := (name_of_methodNamed Bd.named Bd.method).1
  have X0 : Stand p l e ({ frames := 2, cells := 0, slots := 0, locals := 24 } : Room) s m #[(.ref xo)] below meth c s₁ [] 0 0 := Stand.of_body Bd
  have e0 : s₁.heap = h0 := by rw [← hh, Bd.state]; rfl
  have N0 := Fr.nil n0
  show own_F p e below (fun o U' => ∃ v L, o = .returned v ∧ own_QAbl Z xo h0 n0 v U'.heap L ∧ FrameEnd s o U' L ({ frames := 2, cells := 0, slots := 0, locals := 24 } : Room).cells ({ frames := 2, cells := 0, slots := 0, locals := 24 } : Room).slots) s₁ (entryFrame m #[(.ref xo)] 1)
  rw [own_efAbl m xo]
  refine own_go (T' := s₁) (g' := (mkF m 1 #[.val (.ref xo)] [(.ref xo)])) (fun _ k => XS.aloadN X0.here hx rfl (hb hby own_dAbl_0) rfl rfl k) ?_
  obtain ⟨_, _, ⟨T1, L1, k1, n1⟩, -, X1, ⟨Lc1, hQ1, l1, y1, z1⟩, st1⟩ := X0.specialBack hx (y := (⟨"java/util/AbstractCollection", "<init>", "()V"⟩ : MethodName)) rfl hown (mvT hZ (hw _ (List.mem_of_getElem? (i := 22) rfl))) (mvT hZ (hw _ (List.mem_of_getElem? (i := 23) rfl))) (mvT hZ (hw _ (List.mem_of_getElem? (i := 27) rfl))) (by decide) (backOf (W := 0) (own_rAc l Z a0 hw [] xo h0 n0 Z0 ) hZ (hw _ (List.mem_of_getElem? (i := 27) rfl)) (hw _ (List.mem_of_getElem? (i := 26) rfl)) (by decide) (by decide)) (g := (mkF m 1 #[.val (.ref xo)] [(.ref xo)])) rfl (by rw [hml]; rfl) (Steps.refl _) (a := xo) (argsL := []) (rest := []) (lenOf own_pd2 rfl) rfl (by show 2 * 0 + _ ≤ _; exact Nat.le_of_eq rfl) (hb hby own_dAbl_1) (fun _ _ => ⟨rfl, e0, (by decide : 0 + 0 ≤ _), (by decide : 0 + 0 ≤ _)⟩)
  dsimp only [Pt.U, Pt.locs, Pt.cells, Pt.slots] at X1 l1 y1 z1 st1 hQ1
  subst l1 y1 z1
  obtain ⟨rfl, N1q, e1⟩ := hQ1
  have N1 := Fr.app N0 N1q
  refine own_goT (T' := T1) (g' := (mkF m 4 #[.val (.ref xo)] [])) st1 ?_
  refine own_go (T' := T1) (g' := (mkF m 5 #[.val (.ref xo)] [(.ref xo)])) (fun _ k => XS.aloadN X1.here hx rfl (hb hby own_dAbl_4) rfl rfl k) ?_
  refine own_go (T' := T1) (g' := (mkF m 6 #[.val (.ref xo)] [(.int (0 : Int32)), (.ref xo)])) (fun _ k => XS.iconst X1.here hx rfl (hb hby own_dAbl_5) k) ?_
  obtain ⟨T2, h2, X2, e2, W2, st2⟩ := putF X1 hx hZ hown (host := "") (Or.inl (hw _ (List.mem_of_getElem? (i := 31) rfl))) Via.refl e1 Fm E1 (Or.inl (hw _ (List.mem_of_getElem? (i := 32) rfl))) (hw _ (List.mem_of_getElem? (i := 11) rfl)) (ty := .int) (by decide) rfl rfl (g := (mkF m 6 #[.val (.ref xo)] [(.int (0 : Int32)), (.ref xo)])) rfl rfl (hb hby own_dAbl_6)
  have Fw2 := Fm.same W2
  have Ek3 := E1.wr W2
  have Fk4 := Fe.other W2 (Or.inr (slot_ne (Or.inl (hw _ (List.mem_of_getElem? (i := 35) rfl))) (Or.inl (hw _ (List.mem_of_getElem? (i := 32) rfl))) (by decide) (t := (.array (.object "java/lang/Object"))) (t' := .int) (by decide) (by decide)))
  have Fk5 := Fs.other W2 (Or.inr (slot_ne (Or.inl (hw _ (List.mem_of_getElem? (i := 60) rfl))) (Or.inl (hw _ (List.mem_of_getElem? (i := 32) rfl))) (by decide) (t := .int) (t' := .int) (by decide) (by decide)))
  have Z2 : n0 ≤ h2.size := Nat.le_trans Z0 (Keep.of_wr W2).1
  have K2 : Keep h0 h2 [xo] := (Keep.refl h0 [xo]).wr W2 (Or.inl (List.mem_of_getElem? (i := 0) rfl))
  have N2 := Fr.snoc X2 N1 gz
  have SK2 : own_SK Z h0 h2 := (own_SK.rf Z h0).wr W2
  refine own_go (T' := T2) (g' := (mkF m 9 #[.val (.ref xo)] [])) (fun _ k => st2 _ k) ?_
  obtain ⟨fs, hr, hrun, hended, hW, hsame⟩ := X2.leave (v := none) (fun _ => rfl)
  refine own_end (X2.returnOut hx Bd.returns (hb hby own_dAbl_9) hr) hrun hended ⟨_, _, rfl, (?_ : own_QAbl Z xo h0 n0 _ T2.heap _), ⟨_, rfl⟩, hW, hsame.mono (by decide) (by decide)⟩
  rw [e2]
  exact ⟨rfl, N2, K2, SK2, Ek3, Fw2, Fk4, Fk5⟩
theorem own_dAli_0 : decode jdk_38_method_2_code 0 = .ok (.aload_n 0, 1) := by decide +kernel
theorem own_dAli_1 : decode jdk_38_method_2_code 1 = .ok (.invokespecial 1, 3) := by decide +kernel
theorem own_dAli_4 : decode jdk_38_method_2_code 4 = .ok (.aload_n 0, 1) := by decide +kernel
theorem own_dAli_5 : decode jdk_38_method_2_code 5 = .ok (.getstatic 39, 3) := by decide +kernel
theorem own_dAli_8 : decode jdk_38_method_2_code 8 = .ok (.putfield 9, 3) := by decide +kernel
theorem own_dAli_11 : decode jdk_38_method_2_code 11 = .ok (.return_, 1) := by decide +kernel
theorem own_efAli (m : MethodId) (xo : Addr) : entryFrame m #[(.ref xo)] 1 = mkF m 0 #[.val (.ref xo)] [] := by first | (simp [entryFrame, mkF, argsToLocals, Value.category]; done) | rfl
def own_QAli (Z : State) (xo : Addr) (xd : Addr) (h0 : Heap) (n0 : Nat) (v : Option Value) (h : Heap) (L : List Loc) : Prop := v = none ∧ Fr n0 L ∧ Keep h0 h [xo] ∧ own_SK Z h0 h ∧ Exa Z h xo "java/util/ArrayList" ∧ Fld Z h xo "java/util/AbstractList" "modCount" "I" (.int (0 : Int32)) ∧ Fld Z h xo "java/util/ArrayList" "elementData" "[Ljava/lang/Object;" (.ref xd) ∧ Fld Z h xo "java/util/ArrayList" "size" "I" (.int (0 : Int32))
theorem own_pn5 : plainName "java/util/ArrayList" = true := by first | (simp [plainName, overriddenIn]; done) | decide +kernel
set_option maxRecDepth 65536 in
set_option maxHeartbeats 40000000 in
theorem own_rAli (l : Launch) (Z : State) (a0 : Array Value) (hw : ∀ d ∈ tables_1, d.before a0 Z = true) (ws : List Jvm.Cond) (xo : Addr) (xd : Addr) (h0 : Heap) (n0 : Nat) (Z0 : n0 ≤ h0.size) (E1 : Exa Z h0 xo "java/util/ArrayList") (Fm : Fld Z h0 xo "java/util/AbstractList" "modCount" "I" (.int (0 : Int32))) (Fe : Fld Z h0 xo "java/util/ArrayList" "elementData" "[Ljava/lang/Object;" .null) (Fs : Fld Z h0 xo "java/util/ArrayList" "size" "I" (.int (0 : Int32))) (gz : n0 ≤ xo) (Sd : Sta Z h0 "java/util/ArrayList" "DEFAULTCAPACITY_EMPTY_ELEMENTDATA" "[Ljava/lang/Object;" (.ref xd)) :
    MetFree l (⟨"java/util/ArrayList", "<init>", "()V"⟩ : MethodName) (head1 (Jvm.Cond.code (⟨"java/util/ArrayList", "<init>", "()V"⟩ : MethodName) jdk_38_method_2_code 1 none :: ws) ({ frames := 3, cells := 0, slots := 0, locals := 36 } : Room)) (fun a U => a = #[(.ref xo)] ∧ Z.Warmed39 U.vm ∧ U.heap = h0) (fun _ _ _ _ _ => True) (fun _ U o U' => ∃ v L, o = .returned v ∧ own_QAli Z xo xd h0 n0 v U'.heap L ∧ FrameEnd U o U' L ({ frames := 3, cells := 0, slots := 0, locals := 36 } : Room).cells ({ frames := 3, cells := 0, slots := 0, locals := 36 } : Room).slots) := by
  refine MetFree.of_bodySF (plainFor_of_name own_pn5) hisR ?_
  intro p e s m args below meth c s₁ Bd hml0 hP hK
  obtain ⟨rfl, hZ, hh⟩ := hP
  have hx := Bd.exec
  have hby := Bd.bytes
  have hml : c.maxLocals = 1 := hml0
  have hown : s.vm.findClass "java/util/ArrayList" = some m.cls := findClass_of_methodNamed Bd.named
  have hnm := (name_of_methodNamed Bd.named Bd.method).1
  have X0 : Stand p l e ({ frames := 3, cells := 0, slots := 0, locals := 36 } : Room) s m #[(.ref xo)] below meth c s₁ [] 0 0 := Stand.of_body Bd
  have e0 : s₁.heap = h0 := by rw [← hh, Bd.state]; rfl
  have N0 := Fr.nil n0
  show own_F p e below (fun o U' => ∃ v L, o = .returned v ∧ own_QAli Z xo xd h0 n0 v U'.heap L ∧ FrameEnd s o U' L ({ frames := 3, cells := 0, slots := 0, locals := 36 } : Room).cells ({ frames := 3, cells := 0, slots := 0, locals := 36 } : Room).slots) s₁ (entryFrame m #[(.ref xo)] 1)
  rw [own_efAli m xo]
  refine own_go (T' := s₁) (g' := (mkF m 1 #[.val (.ref xo)] [(.ref xo)])) (fun _ k => XS.aloadN X0.here hx rfl (hb hby own_dAli_0) rfl rfl k) ?_
  obtain ⟨_, _, ⟨T1, L1, k1, n1⟩, -, X1, ⟨Lc1, hQ1, l1, y1, z1⟩, st1⟩ := X0.specialBack hx (y := (⟨"java/util/AbstractList", "<init>", "()V"⟩ : MethodName)) rfl hown (mvT hZ (hw _ (List.mem_of_getElem? (i := 16) rfl))) (mvT hZ (hw _ (List.mem_of_getElem? (i := 17) rfl))) (mvT hZ (hw _ (List.mem_of_getElem? (i := 21) rfl))) (by decide) (backOf (W := 0) (own_rAbl l Z a0 hw [] xo h0 n0 Z0 E1 Fm Fe Fs gz) hZ (hw _ (List.mem_of_getElem? (i := 21) rfl)) (hw _ (List.mem_of_getElem? (i := 20) rfl)) (by decide) (by decide)) (g := (mkF m 1 #[.val (.ref xo)] [(.ref xo)])) rfl (by rw [hml]; rfl) (Steps.refl _) (a := xo) (argsL := []) (rest := []) (lenOf own_pd2 rfl) rfl (by show 2 * 0 + _ ≤ _; exact Nat.le_of_eq rfl) (hb hby own_dAli_1) (fun _ _ => ⟨rfl, e0, (by decide : 0 + 0 ≤ _), (by decide : 0 + 0 ≤ _)⟩)
  dsimp only [Pt.U, Pt.locs, Pt.cells, Pt.slots] at X1 l1 y1 z1 st1 hQ1
  subst l1 y1 z1
  obtain ⟨rfl, N1q, Kc1, SKc1, Ec1, Fmc1, Fec1, Fsc1⟩ := hQ1
  have N1 := Fr.app N0 N1q
  have Z1 : n0 ≤ T1.heap.size := Nat.le_trans Z0 Kc1.1
  have SK1 : own_SK Z h0 T1.heap := (own_SK.rf Z h0).tr SKc1
  have K1 : Keep h0 T1.heap [xo] := (Keep.refl h0 [xo]).trans Kc1 (own_or1 (Or.inl (List.mem_of_getElem? (i := 0) rfl)))
  refine own_goT (T' := T1) (g' := (mkF m 4 #[.val (.ref xo)] [])) st1 ?_
  refine own_go (T' := T1) (g' := (mkF m 5 #[.val (.ref xo)] [(.ref xo)])) (fun _ k => XS.aloadN X1.here hx rfl (hb hby own_dAli_4) rfl rfl k) ?_
  obtain ⟨T2, X2, e2, st2⟩ := getS X1 hx hZ (host := "") hown (hw _ (List.mem_of_getElem? (i := 33) rfl)) Via.refl rfl (SK1 _ _ _ _ Sd) (g := (mkF m 5 #[.val (.ref xo)] [(.ref xo)])) rfl (hb hby own_dAli_5)
  refine own_go (T' := T2) (g' := (mkF m 8 #[.val (.ref xo)] [(.ref xd), (.ref xo)])) (fun _ k => st2 _ k) ?_
  obtain ⟨T3, h3, X3, e3, W3, st3⟩ := putF X2 hx hZ hown (host := "") (Or.inl (hw _ (List.mem_of_getElem? (i := 34) rfl))) Via.refl e2 Fec1 Ec1 (Or.inl (hw _ (List.mem_of_getElem? (i := 35) rfl))) (hw _ (List.mem_of_getElem? (i := 11) rfl)) (ty := (.array (.object "java/lang/Object"))) (by decide) rfl rfl (g := (mkF m 8 #[.val (.ref xo)] [(.ref xd), (.ref xo)])) rfl rfl (hb hby own_dAli_8)
  have Fw3 := Fec1.same W3
  have Ek4 := Ec1.wr W3
  have Fk5 := Fmc1.other W3 (Or.inr (slot_ne (Or.inl (hw _ (List.mem_of_getElem? (i := 32) rfl))) (Or.inl (hw _ (List.mem_of_getElem? (i := 35) rfl))) (by decide) (t := .int) (t' := (.array (.object "java/lang/Object"))) (by decide) (by decide)))
  have Fk6 := Fsc1.other W3 (Or.inr (slot_ne (Or.inl (hw _ (List.mem_of_getElem? (i := 60) rfl))) (Or.inl (hw _ (List.mem_of_getElem? (i := 35) rfl))) (by decide) (t := .int) (t' := (.array (.object "java/lang/Object"))) (by decide) (by decide)))
  have Z3 : n0 ≤ h3.size := Nat.le_trans Z1 (Keep.of_wr W3).1
  have K3 : Keep h0 h3 [xo] := K1.wr W3 (Or.inl (List.mem_of_getElem? (i := 0) rfl))
  have N3 := Fr.snoc X3 N1 gz
  have SK3 : own_SK Z h0 h3 := SK1.wr W3
  refine own_go (T' := T3) (g' := (mkF m 11 #[.val (.ref xo)] [])) (fun _ k => st3 _ k) ?_
  obtain ⟨fs, hr, hrun, hended, hW, hsame⟩ := X3.leave (v := none) (fun _ => rfl)
  refine own_end (X3.returnOut hx Bd.returns (hb hby own_dAli_11) hr) hrun hended ⟨_, _, rfl, (?_ : own_QAli Z xo xd h0 n0 _ T3.heap _), ⟨_, rfl⟩, hW, hsame.mono (by decide) (by decide)⟩
  rw [e3]
  exact ⟨rfl, N3, K3, SK3, Ek4, Fk5, Fw3, Fk6⟩
theorem own_dMx_0 : decode jdk_29_method_65_code 0 = .ok (.iload_n 0, 1) := by decide +kernel
theorem own_dMx_1 : decode jdk_29_method_65_code 1 = .ok (.iload_n 1, 1) := by decide +kernel
theorem own_dMx_2 : decode jdk_29_method_65_code 2 = .ok (.if_icmp .lt 7, 3) := by decide +kernel
theorem own_dMx_5 : decode jdk_29_method_65_code 5 = .ok (.iload_n 0, 1) := by decide +kernel
theorem own_dMx_6 : decode jdk_29_method_65_code 6 = .ok (.goto 4, 3) := by decide +kernel
theorem own_dMx_10 : decode jdk_29_method_65_code 10 = .ok (.ireturn, 1) := by decide +kernel
theorem own_efMx (m : MethodId)  : entryFrame m #[(.int (10 : Int32)), (.int (1 : Int32))] 2 = mkF m 0 #[.val (.int (10 : Int32)), .val (.int (1 : Int32))] [] := by first | (simp [entryFrame, mkF, argsToLocals, Value.category]; done) | rfl
def own_QMx (Z : State)   (h0 : Heap) (n0 : Nat) (v : Option Value) (h : Heap) (L : List Loc) : Prop := v = some (.int (10 : Int32)) ∧ Fr n0 L ∧ h = h0
set_option maxRecDepth 65536 in
set_option maxHeartbeats 40000000 in
theorem own_rMx (l : Launch) (Z : State) (a0 : Array Value) (hw : ∀ d ∈ tables_1, d.before a0 Z = true) (ws : List Jvm.Cond)   (h0 : Heap) (n0 : Nat) (Z0 : n0 ≤ h0.size) :
    MetFree l (⟨"java/lang/Math", "max", "(II)I"⟩ : MethodName) (head1 (Jvm.Cond.code (⟨"java/lang/Math", "max", "(II)I"⟩ : MethodName) jdk_29_method_65_code 2 (some .int) :: ws) ({ frames := 0, cells := 0, slots := 0, locals := 0 } : Room)) (fun a U => a = #[(.int (10 : Int32)), (.int (1 : Int32))] ∧ Z.Warmed39 U.vm ∧ U.heap = h0) (fun _ _ _ _ _ => True) (fun _ U o U' => ∃ v L, o = .returned v ∧ own_QMx Z  h0 n0 v U'.heap L ∧ FrameEnd U o U' L ({ frames := 0, cells := 0, slots := 0, locals := 0 } : Room).cells ({ frames := 0, cells := 0, slots := 0, locals := 0 } : Room).slots) := by
  refine MetFree.of_bodySF (Jvm.Free.JP.mathPlain rfl (by decide +kernel)) hisR ?_
  intro p e s m args below meth c s₁ Bd hml0 hP hK
  obtain ⟨rfl, hZ, hh⟩ := hP
  have hx := Bd.exec
  have hby := Bd.bytes
  have hml : c.maxLocals = 2 := hml0
  have hown : s.vm.findClass "java/lang/Math" = some m.cls := findClass_of_methodNamed Bd.named
  have hnm := (name_of_methodNamed Bd.named Bd.method).1
  have X0 : Stand p l e ({ frames := 0, cells := 0, slots := 0, locals := 0 } : Room) s m #[(.int (10 : Int32)), (.int (1 : Int32))] below meth c s₁ [] 0 0 := Stand.of_body Bd
  have e0 : s₁.heap = h0 := by rw [← hh, Bd.state]; rfl
  have N0 := Fr.nil n0
  show own_F p e below (fun o U' => ∃ v L, o = .returned v ∧ own_QMx Z  h0 n0 v U'.heap L ∧ FrameEnd s o U' L ({ frames := 0, cells := 0, slots := 0, locals := 0 } : Room).cells ({ frames := 0, cells := 0, slots := 0, locals := 0 } : Room).slots) s₁ (entryFrame m #[(.int (10 : Int32)), (.int (1 : Int32))] 2)
  rw [own_efMx m ]
  refine own_go (T' := s₁) (g' := (mkF m 1 #[.val (.int (10 : Int32)), .val (.int (1 : Int32))] [(.int (10 : Int32))])) (fun _ k => XS.iloadN X0.here hx rfl (hb hby own_dMx_0) rfl k) ?_
  refine own_go (T' := s₁) (g' := (mkF m 2 #[.val (.int (10 : Int32)), .val (.int (1 : Int32))] [(.int (1 : Int32)), (.int (10 : Int32))])) (fun _ k => XS.iloadN X0.here hx rfl (hb hby own_dMx_1) rfl k) ?_
  refine own_go (T' := s₁) (g' := (mkF m 5 #[.val (.int (10 : Int32)), .val (.int (1 : Int32))] [])) (fun _ k => XS.icmpNo X0.here hx rfl (hb hby own_dMx_2) rfl (flt ((by decide) : ¬ ((10 : Int32) < (1 : Int32)))).1 k) ?_
  refine own_go (T' := s₁) (g' := (mkF m 6 #[.val (.int (10 : Int32)), .val (.int (1 : Int32))] [(.int (10 : Int32))])) (fun _ k => XS.iloadN X0.here hx rfl (hb hby own_dMx_5) rfl k) ?_
  refine own_go (T' := s₁) (g' := (mkF m 10 #[.val (.int (10 : Int32)), .val (.int (1 : Int32))] [(.int (10 : Int32))])) (fun _ k => XS.goto X0.here hx rfl (pc0 := 6) (pc' := 10) rfl (hb hby own_dMx_6) (by decide) (by decide) k) ?_
  obtain ⟨fs, hr, hrun, hended, hW, hsame⟩ := X0.leave (v := some (.int (10 : Int32))) (fun h => by rw [Bd.returns] at h; cases h)
  refine own_end (retOut X0 hx Bd.returns rfl (Or.inl ⟨rfl, Or.inl rfl, _, rfl⟩) (hb hby own_dMx_10) hr) hrun hended ⟨_, _, rfl, (?_ : own_QMx Z  h0 n0 _ s₁.heap _), ⟨_, rfl⟩, hW, hsame.mono (by decide) (by decide)⟩
  rw [e0]
  exact ⟨rfl, N0, rfl⟩
theorem own_pd3 : parseMethodDescriptor "(II)I" = some ⟨[.int, .int], some .int⟩ := by decide +kernel
theorem own_dGi_0 : decode jdk_38_method_6_code 0 = .ok (.aload_n 0, 1) := by decide +kernel
theorem own_dGi_1 : decode jdk_38_method_6_code 1 = .ok (.getfield 9, 3) := by decide +kernel
theorem own_dGi_4 : decode jdk_38_method_6_code 4 = .ok (.arraylength, 1) := by decide +kernel
theorem own_dGi_5 : decode jdk_38_method_6_code 5 = .ok (.istore_n 2, 1) := by decide +kernel
theorem own_dGi_6 : decode jdk_38_method_6_code 6 = .ok (.iload_n 2, 1) := by decide +kernel
theorem own_dGi_7 : decode jdk_38_method_6_code 7 = .ok (.ifCond .gt 13, 3) := by decide +kernel
theorem own_dGi_10 : decode jdk_38_method_6_code 10 = .ok (.aload_n 0, 1) := by decide +kernel
theorem own_dGi_11 : decode jdk_38_method_6_code 11 = .ok (.getfield 9, 3) := by decide +kernel
theorem own_dGi_14 : decode jdk_38_method_6_code 14 = .ok (.getstatic 39, 3) := by decide +kernel
theorem own_dGi_17 : decode jdk_38_method_6_code 17 = .ok (.if_acmp .eq 28, 3) := by decide +kernel
theorem own_dGi_45 : decode jdk_38_method_6_code 45 = .ok (.aload_n 0, 1) := by decide +kernel
theorem own_dGi_46 : decode jdk_38_method_6_code 46 = .ok (.bipush 10, 2) := by decide +kernel
theorem own_dGi_48 : decode jdk_38_method_6_code 48 = .ok (.iload_n 1, 1) := by decide +kernel
theorem own_dGi_49 : decode jdk_38_method_6_code 49 = .ok (.invokestatic 79, 3) := by decide +kernel
theorem own_dGi_52 : decode jdk_38_method_6_code 52 = .ok (.anewarray 7, 3) := by decide +kernel
theorem own_dGi_55 : decode jdk_38_method_6_code 55 = .ok (.dup_x1, 1) := by decide +kernel
theorem own_dGi_56 : decode jdk_38_method_6_code 56 = .ok (.putfield 9, 3) := by decide +kernel
theorem own_dGi_59 : decode jdk_38_method_6_code 59 = .ok (.areturn, 1) := by decide +kernel
theorem own_efGi (m : MethodId) (xo : Addr) : entryFrame m #[(.ref xo), (.int (1 : Int32))] 4 = mkF m 0 #[.val (.ref xo), .val (.int (1 : Int32)), .unset, .unset] [] := by first | (simp [entryFrame, mkF, argsToLocals, Value.category]; done) | rfl
def own_QGi (Z : State) (xo : Addr) (xm : Int32) (xd : Addr) (kd : ClassId) (h0 : Heap) (n0 : Nat) (v : Option Value) (h : Heap) (L : List Loc) : Prop := v = v ∧ Fr n0 L ∧ Keep h0 h [xo] ∧ own_SK Z h0 h ∧ ∃ r ka, v = some (.ref r) ∧ h0.size ≤ r ∧ Exa Z h xo "java/util/ArrayList" ∧ Fld Z h xo "java/util/AbstractList" "modCount" "I" (.int xm) ∧ Fld Z h xo "java/util/ArrayList" "elementData" "[Ljava/lang/Object;" (.ref r) ∧ Fld Z h xo "java/util/ArrayList" "size" "I" (.int (0 : Int32)) ∧ own_A Z h r ka (.object "java/lang/Object") [.null, .null, .null, .null, .null, .null, .null, .null, .null, .null] ∧ Ovr Z ka "java/lang/Object" ∧ Exa Z h r "[Ljava/lang/Object;"
set_option maxRecDepth 65536 in
set_option maxHeartbeats 40000000 in
theorem own_rGi (l : Launch) (Z : State) (a0 : Array Value) (hw : ∀ d ∈ tables_1, d.before a0 Z = true) (ws : List Jvm.Cond) (xo : Addr) (xm : Int32) (xd : Addr) (kd : ClassId) (h0 : Heap) (n0 : Nat) (Z0 : n0 ≤ h0.size) (E1 : Exa Z h0 xo "java/util/ArrayList") (Fm : Fld Z h0 xo "java/util/AbstractList" "modCount" "I" (.int xm)) (Fe : Fld Z h0 xo "java/util/ArrayList" "elementData" "[Ljava/lang/Object;" (.ref xd)) (Fs : Fld Z h0 xo "java/util/ArrayList" "size" "I" (.int (0 : Int32))) (gz : n0 ≤ xo) (Sd : Sta Z h0 "java/util/ArrayList" "DEFAULTCAPACITY_EMPTY_ELEMENTDATA" "[Ljava/lang/Object;" (.ref xd)) (Ad : own_A Z h0 xd kd (.object "java/lang/Object") []) :
    MetFree l (⟨"java/util/ArrayList", "grow", "(I)[Ljava/lang/Object;"⟩ : MethodName) (head1 (Jvm.Cond.code (⟨"java/util/ArrayList", "grow", "(I)[Ljava/lang/Object;"⟩ : MethodName) jdk_38_method_6_code 4 (some (.array (.object "java/lang/Object"))) :: ws) ({ frames := 1, cells := 1, slots := 10, locals := 14 } : Room)) (fun a U => a = #[(.ref xo), (.int (1 : Int32))] ∧ Z.Warmed39 U.vm ∧ U.heap = h0) (fun _ _ _ _ _ => True) (fun _ U o U' => ∃ v L, o = .returned v ∧ own_QGi Z xo xm xd kd h0 n0 v U'.heap L ∧ FrameEnd U o U' L ({ frames := 1, cells := 1, slots := 10, locals := 14 } : Room).cells ({ frames := 1, cells := 1, slots := 10, locals := 14 } : Room).slots) := by
  refine MetFree.of_bodySF (plainFor_of_name own_pn5) hisR ?_
  intro p e s m args below meth c s₁ Bd hml0 hP hK
  obtain ⟨rfl, hZ, hh⟩ := hP
  have hx := Bd.exec
  have hby := Bd.bytes
  have hml : c.maxLocals = 4 := hml0
  have hown : s.vm.findClass "java/util/ArrayList" = some m.cls := findClass_of_methodNamed Bd.named
  have hnm := (name_of_methodNamed Bd.named Bd.method).1
  have X0 : Stand p l e ({ frames := 1, cells := 1, slots := 10, locals := 14 } : Room) s m #[(.ref xo), (.int (1 : Int32))] below meth c s₁ [] 0 0 := Stand.of_body Bd
  have e0 : s₁.heap = h0 := by rw [← hh, Bd.state]; rfl
  have N0 := Fr.nil n0
  show own_F p e below (fun o U' => ∃ v L, o = .returned v ∧ own_QGi Z xo xm xd kd h0 n0 v U'.heap L ∧ FrameEnd s o U' L ({ frames := 1, cells := 1, slots := 10, locals := 14 } : Room).cells ({ frames := 1, cells := 1, slots := 10, locals := 14 } : Room).slots) s₁ (entryFrame m #[(.ref xo), (.int (1 : Int32))] 4)
  rw [own_efGi m xo]
  have nod : xo ≠ xd := own_neA E1 (hw _ (List.mem_of_getElem? (i := 11) rfl)) Ad
  refine own_go (T' := s₁) (g' := (mkF m 1 #[.val (.ref xo), .val (.int (1 : Int32)), .unset, .unset] [(.ref xo)])) (fun _ k => XS.aloadN X0.here hx rfl (hb hby own_dGi_0) rfl rfl k) ?_
  obtain ⟨T1, X1, e1, st1⟩ := getF X0 hx hZ hown (host := "") (Or.inl (hw _ (List.mem_of_getElem? (i := 34) rfl))) Via.refl e0 Fe (g := (mkF m 1 #[.val (.ref xo), .val (.int (1 : Int32)), .unset, .unset] [(.ref xo)])) rfl rfl (hb hby own_dGi_1)
  refine own_go (T' := T1) (g' := (mkF m 4 #[.val (.ref xo), .val (.int (1 : Int32)), .unset, .unset] [(.ref xd)])) (fun _ k => st1 _ k) ?_
  refine own_go (T' := T1) (g' := (mkF m 5 #[.val (.ref xo), .val (.int (1 : Int32)), .unset, .unset] [(.int (0 : Int32))])) (fun _ k => own_alen X1 hx hZ e1 Ad (g := (mkF m 4 #[.val (.ref xo), .val (.int (1 : Int32)), .unset, .unset] [(.ref xd)])) rfl rfl (hb hby own_dGi_4) (n := (0 : Int32)) rfl k) ?_
  refine own_go (T' := T1) (g' := (mkF m 6 #[.val (.ref xo), .val (.int (1 : Int32)), .val (.int (0 : Int32)), .unset] [])) (fun _ k => XS.istoreN X1.here hx rfl (hb hby own_dGi_5) rfl (l' := #[.val (.ref xo), .val (.int (1 : Int32)), .val (.int (0 : Int32)), .unset]) rfl k) ?_
  refine own_go (T' := T1) (g' := (mkF m 7 #[.val (.ref xo), .val (.int (1 : Int32)), .val (.int (0 : Int32)), .unset] [(.int (0 : Int32))])) (fun _ k => XS.iloadN X1.here hx rfl (hb hby own_dGi_6) rfl k) ?_
  refine own_go (T' := T1) (g' := (mkF m 10 #[.val (.ref xo), .val (.int (1 : Int32)), .val (.int (0 : Int32)), .unset] [])) (fun _ k => XS.ifNo X1.here hx rfl (hb hby own_dGi_7) rfl ((if0 _ _).trans (flt ((by decide) : ¬ ((0 : Int32) < (0 : Int32)))).2.2.1) k) ?_
  refine own_go (T' := T1) (g' := (mkF m 11 #[.val (.ref xo), .val (.int (1 : Int32)), .val (.int (0 : Int32)), .unset] [(.ref xo)])) (fun _ k => XS.aloadN X1.here hx rfl (hb hby own_dGi_10) rfl rfl k) ?_
  obtain ⟨T2, X2, e2, st2⟩ := getF X1 hx hZ hown (host := "") (Or.inl (hw _ (List.mem_of_getElem? (i := 34) rfl))) Via.refl e1 Fe (g := (mkF m 11 #[.val (.ref xo), .val (.int (1 : Int32)), .val (.int (0 : Int32)), .unset] [(.ref xo)])) rfl rfl (hb hby own_dGi_11)
  refine own_go (T' := T2) (g' := (mkF m 14 #[.val (.ref xo), .val (.int (1 : Int32)), .val (.int (0 : Int32)), .unset] [(.ref xd)])) (fun _ k => st2 _ k) ?_
  obtain ⟨T3, X3, e3, st3⟩ := getS X2 hx hZ (host := "") hown (hw _ (List.mem_of_getElem? (i := 33) rfl)) Via.refl e2 ((own_SK.rf Z h0) _ _ _ _ Sd) (g := (mkF m 14 #[.val (.ref xo), .val (.int (1 : Int32)), .val (.int (0 : Int32)), .unset] [(.ref xd)])) rfl (hb hby own_dGi_14)
  refine own_go (T' := T3) (g' := (mkF m 17 #[.val (.ref xo), .val (.int (1 : Int32)), .val (.int (0 : Int32)), .unset] [(.ref xd), (.ref xd)])) (fun _ k => st3 _ k) ?_
  refine own_go (T' := T3) (g' := (mkF m 45 #[.val (.ref xo), .val (.int (1 : Int32)), .val (.int (0 : Int32)), .unset] [])) (fun _ k => Jvm.RoadKit.acmp (g := (mkF m 17 #[.val (.ref xo), .val (.int (1 : Int32)), .val (.int (0 : Int32)), .unset] [(.ref xd), (.ref xd)])) X3 hx rfl rfl rfl (pc0 := 17) (pc' := 45) (same := true) rfl (hb hby own_dGi_17) rfl (decide_eq_true rfl) (by decide) (by decide) k) ?_
  refine own_go (T' := T3) (g' := (mkF m 46 #[.val (.ref xo), .val (.int (1 : Int32)), .val (.int (0 : Int32)), .unset] [(.ref xo)])) (fun _ k => XS.aloadN X3.here hx rfl (hb hby own_dGi_45) rfl rfl k) ?_
  refine own_go (T' := T3) (g' := (mkF m 48 #[.val (.ref xo), .val (.int (1 : Int32)), .val (.int (0 : Int32)), .unset] [(.int (10 : Int32)), (.ref xo)])) (fun _ k => XS.bipush X3.here hx rfl (hb hby own_dGi_46) k) ?_
  refine own_go (T' := T3) (g' := (mkF m 49 #[.val (.ref xo), .val (.int (1 : Int32)), .val (.int (0 : Int32)), .unset] [(.int (1 : Int32)), (.int (10 : Int32)), (.ref xo)])) (fun _ k => XS.iloadN X3.here hx rfl (hb hby own_dGi_48) rfl k) ?_
  obtain ⟨_, _, ⟨T4, L4, k4, n4⟩, -, X4, ⟨Lc4, hQ4, l4, y4, z4⟩, st4⟩ := Jvm.LawKit.callS X3 hx (y := (⟨"java/lang/Math", "max", "(II)I"⟩ : MethodName)) hown (mvT hZ (hw _ (List.mem_of_getElem? (i := 76) rfl))) (mvT hZ (hw _ (List.mem_of_getElem? (i := 77) rfl))) (mvT hZ (hw _ (List.mem_of_getElem? (i := 78) rfl))) (mvT hZ (hw _ (List.mem_of_getElem? (i := 79) rfl))) (by decide) (backOf (W := 1) (own_rMx l Z a0 hw []  h0 n0 Z0 ) hZ (hw _ (List.mem_of_getElem? (i := 79) rfl)) (hw _ (List.mem_of_getElem? (i := 78) rfl)) (by decide) (by decide)) (g := (mkF m 49 #[.val (.ref xo), .val (.int (1 : Int32)), .val (.int (0 : Int32)), .unset] [(.int (1 : Int32)), (.int (10 : Int32)), (.ref xo)])) rfl (by rw [hml]; rfl) (argsL := [(.int (10 : Int32)), (.int (1 : Int32))]) (rest := [(.ref xo)]) (lenOf own_pd3 rfl) rfl (by show 2 * 0 + _ ≤ _; exact Nat.le_of_eq rfl) (hb hby own_dGi_49) (fun _ _ => ⟨rfl, e3, (by decide : 0 + 0 ≤ _), (by decide : 0 + 0 ≤ _)⟩)
  dsimp only [Pt.U, Pt.locs, Pt.cells, Pt.slots] at X4 l4 y4 z4 st4 hQ4
  subst l4 y4 z4
  obtain ⟨rfl, N4q, e4⟩ := hQ4
  have N4 := Fr.app N0 N4q
  refine own_go (T' := T4) (g' := (mkF m 52 #[.val (.ref xo), .val (.int (1 : Int32)), .val (.int (0 : Int32)), .unset] [(.int (10 : Int32)), (.ref xo)])) (fun _ k => st4 _ k) ?_
  obtain ⟨T5, h5, k5, X5, e5, E5, A5, Ea5, Ov5, st5⟩ := newRE X4 hx hZ hown (hw _ (List.mem_of_getElem? (i := 80) rfl)) (hw _ (List.mem_of_getElem? (i := 81) rfl)) e4 (g := (mkF m 52 #[.val (.ref xo), .val (.int (1 : Int32)), .val (.int (0 : Int32)), .unset] [(.int (10 : Int32)), (.ref xo)])) rfl (hb hby own_dGi_52) rfl (by decide) (cap := 10) (by decide) (by decide) (by decide) (by decide) (ad := "[Ljava/lang/Object;") rfl
  obtain ⟨b5, g5⟩ : ∃ z, z = h0.size := ⟨_, rfl⟩
  rw [← g5] at A5 Ea5 st5
  have ne_xo_b5 : xo ≠ b5 := Nat.ne_of_lt (Nat.lt_of_lt_of_le E1.lt (Nat.le_of_eq g5.symm))
  have ne_xd_b5 : xd ≠ b5 := Nat.ne_of_lt (Nat.lt_of_lt_of_le Ad.lt (Nat.le_of_eq g5.symm))
  have gz_b5 : n0 ≤ b5 := Nat.le_trans Z0 (Nat.le_of_eq g5.symm)
  have hz_b5 : h0.size ≤ b5 := Nat.le_trans (Keep.refl h0 [xo]).1 (Nat.le_of_eq g5.symm)
  have Ek6 := E1.ext E5
  have Fk7 := Fm.ext E5
  have Fk8 := Fe.ext E5
  have Fk9 := Fs.ext E5
  have Vk10 := Ad.ext E5
  have Z5 : n0 ≤ h5.size := Nat.le_trans Z0 E5.1
  have K5 : Keep h0 h5 [xo] := (Keep.refl h0 [xo]).ext E5
  have SK5 : own_SK Z h0 h5 := (own_SK.rf Z h0).ext E5
  have V5 : own_A Z h5 b5 k5 (.object "java/lang/Object") [.null, .null, .null, .null, .null, .null, .null, .null, .null, .null] := own_A.new A5 (N := 10) rfl
  refine own_go (T' := T5) (g' := (mkF m 55 #[.val (.ref xo), .val (.int (1 : Int32)), .val (.int (0 : Int32)), .unset] [(.ref b5), (.ref xo)])) (fun _ k => st5 _ k) ?_
  refine own_go (T' := T5) (g' := (mkF m 56 #[.val (.ref xo), .val (.int (1 : Int32)), .val (.int (0 : Int32)), .unset] [(.ref b5), (.ref xo), (.ref b5)])) (fun _ k => XS.dupX1 X5.here hx rfl (hb hby own_dGi_55) rfl rfl rfl k) ?_
  obtain ⟨T11, h11, X11, e11, W11, st11⟩ := putF X5 hx hZ hown (host := "") (Or.inl (hw _ (List.mem_of_getElem? (i := 34) rfl))) Via.refl e5 Fk8 Ek6 (Or.inl (hw _ (List.mem_of_getElem? (i := 35) rfl))) (hw _ (List.mem_of_getElem? (i := 11) rfl)) (ty := (.array (.object "java/lang/Object"))) (by decide) rfl rfl (g := (mkF m 56 #[.val (.ref xo), .val (.int (1 : Int32)), .val (.int (0 : Int32)), .unset] [(.ref b5), (.ref xo), (.ref b5)])) rfl rfl (hb hby own_dGi_56)
  have Fw11 := Fk8.same W11
  have Ek12 := Ek6.wr W11
  have Fk13 := Fk7.other W11 (Or.inr (slot_ne (Or.inl (hw _ (List.mem_of_getElem? (i := 32) rfl))) (Or.inl (hw _ (List.mem_of_getElem? (i := 35) rfl))) (by decide) (t := .int) (t' := (.array (.object "java/lang/Object"))) (by decide) (by decide)))
  have Fk14 := Fk9.other W11 (Or.inr (slot_ne (Or.inl (hw _ (List.mem_of_getElem? (i := 60) rfl))) (Or.inl (hw _ (List.mem_of_getElem? (i := 35) rfl))) (by decide) (t := .int) (t' := (.array (.object "java/lang/Object"))) (by decide) (by decide)))
  have Vk15 := Vk10.other W11 (Ne.symm nod)
  have Ek16 := Ea5.wr W11
  have Vk17 := V5.other W11 (Ne.symm ne_xo_b5)
  have Z11 : n0 ≤ h11.size := Nat.le_trans Z5 (Keep.of_wr W11).1
  have K11 : Keep h0 h11 [xo] := K5.wr W11 (Or.inl (List.mem_of_getElem? (i := 0) rfl))
  have N11 := Fr.snoc X11 N4 gz
  have SK11 : own_SK Z h0 h11 := SK5.wr W11
  refine own_go (T' := T11) (g' := (mkF m 59 #[.val (.ref xo), .val (.int (1 : Int32)), .val (.int (0 : Int32)), .unset] [(.ref b5)])) (fun _ k => st11 _ k) ?_
  obtain ⟨fs, hr, hrun, hended, hW, hsame⟩ := X11.leave (v := some (.ref b5)) (fun h => by rw [Bd.returns] at h; cases h)
  refine own_end (retOut X11 hx Bd.returns rfl (Or.inr (Or.inr (Or.inr (Or.inr ⟨rfl, rfl, rfl⟩)))) (hb hby own_dGi_59) hr) hrun hended ⟨_, _, rfl, (?_ : own_QGi Z xo xm xd kd h0 n0 _ T11.heap _), ⟨_, rfl⟩, hW, hsame.mono (by decide) (by decide)⟩
  rw [e11]
  exact ⟨rfl, N11, K11, SK11, b5, k5, rfl, hz_b5, Ek12, Fk13, Fw11, Fk14, Vk17, Ov5, Ek16⟩
theorem own_pd4 : parseMethodDescriptor "(I)[Ljava/lang/Object;" = some ⟨[.int], some (.array (.object "java/lang/Object"))⟩ := by decide +kernel
theorem own_dG0_0 : decode jdk_38_method_7_code 0 = .ok (.aload_n 0, 1) := by decide +kernel
theorem own_dG0_1 : decode jdk_38_method_7_code 1 = .ok (.aload_n 0, 1) := by decide +kernel
theorem own_dG0_2 : decode jdk_38_method_7_code 2 = .ok (.getfield 48, 3) := by decide +kernel
theorem own_dG0_5 : decode jdk_38_method_7_code 5 = .ok (.iconst 1, 1) := by decide +kernel
theorem own_dG0_6 : decode jdk_38_method_7_code 6 = .ok (.iadd, 1) := by decide +kernel
theorem own_dG0_7 : decode jdk_38_method_7_code 7 = .ok (.invokevirtual 69, 3) := by decide +kernel
theorem own_dG0_10 : decode jdk_38_method_7_code 10 = .ok (.areturn, 1) := by decide +kernel
theorem own_efG0 (m : MethodId) (xo : Addr) : entryFrame m #[(.ref xo)] 1 = mkF m 0 #[.val (.ref xo)] [] := by first | (simp [entryFrame, mkF, argsToLocals, Value.category]; done) | rfl
def own_QG0 (Z : State) (xo : Addr) (xm : Int32) (xd : Addr) (kd : ClassId) (h0 : Heap) (n0 : Nat) (v : Option Value) (h : Heap) (L : List Loc) : Prop := v = v ∧ Fr n0 L ∧ Keep h0 h [xo] ∧ own_SK Z h0 h ∧ ∃ r ka, v = some (.ref r) ∧ h0.size ≤ r ∧ Exa Z h xo "java/util/ArrayList" ∧ Fld Z h xo "java/util/AbstractList" "modCount" "I" (.int xm) ∧ Fld Z h xo "java/util/ArrayList" "elementData" "[Ljava/lang/Object;" (.ref r) ∧ Fld Z h xo "java/util/ArrayList" "size" "I" (.int (0 : Int32)) ∧ own_A Z h r ka (.object "java/lang/Object") [.null, .null, .null, .null, .null, .null, .null, .null, .null, .null] ∧ Ovr Z ka "java/lang/Object" ∧ Exa Z h r "[Ljava/lang/Object;"
set_option maxRecDepth 65536 in
set_option maxHeartbeats 40000000 in
theorem own_rG0 (l : Launch) (Z : State) (a0 : Array Value) (hw : ∀ d ∈ tables_1, d.before a0 Z = true) (ws : List Jvm.Cond) (xo : Addr) (xm : Int32) (xd : Addr) (kd : ClassId) (h0 : Heap) (n0 : Nat) (Z0 : n0 ≤ h0.size) (E1 : Exa Z h0 xo "java/util/ArrayList") (Fm : Fld Z h0 xo "java/util/AbstractList" "modCount" "I" (.int xm)) (Fe : Fld Z h0 xo "java/util/ArrayList" "elementData" "[Ljava/lang/Object;" (.ref xd)) (Fs : Fld Z h0 xo "java/util/ArrayList" "size" "I" (.int (0 : Int32))) (gz : n0 ≤ xo) (Sd : Sta Z h0 "java/util/ArrayList" "DEFAULTCAPACITY_EMPTY_ELEMENTDATA" "[Ljava/lang/Object;" (.ref xd)) (Ad : own_A Z h0 xd kd (.object "java/lang/Object") []) :
    MetFree l (⟨"java/util/ArrayList", "grow", "()[Ljava/lang/Object;"⟩ : MethodName) (head1 (Jvm.Cond.code (⟨"java/util/ArrayList", "grow", "()[Ljava/lang/Object;"⟩ : MethodName) jdk_38_method_7_code 1 (some (.array (.object "java/lang/Object"))) :: ws) ({ frames := 2, cells := 1, slots := 10, locals := 29 } : Room)) (fun a U => a = #[(.ref xo)] ∧ Z.Warmed39 U.vm ∧ U.heap = h0) (fun _ _ _ _ _ => True) (fun _ U o U' => ∃ v L, o = .returned v ∧ own_QG0 Z xo xm xd kd h0 n0 v U'.heap L ∧ FrameEnd U o U' L ({ frames := 2, cells := 1, slots := 10, locals := 29 } : Room).cells ({ frames := 2, cells := 1, slots := 10, locals := 29 } : Room).slots) := by
  refine MetFree.of_bodySF (plainFor_of_name own_pn5) hisR ?_
  intro p e s m args below meth c s₁ Bd hml0 hP hK
  obtain ⟨rfl, hZ, hh⟩ := hP
  have hx := Bd.exec
  have hby := Bd.bytes
  have hml : c.maxLocals = 1 := hml0
  have hown : s.vm.findClass "java/util/ArrayList" = some m.cls := findClass_of_methodNamed Bd.named
  have hnm := (name_of_methodNamed Bd.named Bd.method).1
  have X0 : Stand p l e ({ frames := 2, cells := 1, slots := 10, locals := 29 } : Room) s m #[(.ref xo)] below meth c s₁ [] 0 0 := Stand.of_body Bd
  have e0 : s₁.heap = h0 := by rw [← hh, Bd.state]; rfl
  have N0 := Fr.nil n0
  show own_F p e below (fun o U' => ∃ v L, o = .returned v ∧ own_QG0 Z xo xm xd kd h0 n0 v U'.heap L ∧ FrameEnd s o U' L ({ frames := 2, cells := 1, slots := 10, locals := 29 } : Room).cells ({ frames := 2, cells := 1, slots := 10, locals := 29 } : Room).slots) s₁ (entryFrame m #[(.ref xo)] 1)
  rw [own_efG0 m xo]
  have nod : xo ≠ xd := own_neA E1 (hw _ (List.mem_of_getElem? (i := 11) rfl)) Ad
  refine own_go (T' := s₁) (g' := (mkF m 1 #[.val (.ref xo)] [(.ref xo)])) (fun _ k => XS.aloadN X0.here hx rfl (hb hby own_dG0_0) rfl rfl k) ?_
  refine own_go (T' := s₁) (g' := (mkF m 2 #[.val (.ref xo)] [(.ref xo), (.ref xo)])) (fun _ k => XS.aloadN X0.here hx rfl (hb hby own_dG0_1) rfl rfl k) ?_
  obtain ⟨T1, X1, e1, st1⟩ := getF X0 hx hZ hown (host := "") (Or.inl (hw _ (List.mem_of_getElem? (i := 59) rfl))) Via.refl e0 Fs (g := (mkF m 2 #[.val (.ref xo)] [(.ref xo), (.ref xo)])) rfl rfl (hb hby own_dG0_2)
  refine own_go (T' := T1) (g' := (mkF m 5 #[.val (.ref xo)] [(.int (0 : Int32)), (.ref xo)])) (fun _ k => st1 _ k) ?_
  refine own_go (T' := T1) (g' := (mkF m 6 #[.val (.ref xo)] [(.int (1 : Int32)), (.int (0 : Int32)), (.ref xo)])) (fun _ k => XS.iconst X1.here hx rfl (hb hby own_dG0_5) k) ?_
  refine own_go (T' := T1) (g' := (mkF m 7 #[.val (.ref xo)] [(.int (1 : Int32)), (.ref xo)])) (fun _ k => XS.iadd X1.here hx rfl (hb hby own_dG0_6) rfl k) ?_
  obtain ⟨cq2, q2, q2'⟩ := E1.cell
  obtain ⟨_, _, ⟨T2, L2, k2, n2⟩, -, X2, ⟨Lc2, hQ2, l2, y2, z2⟩, st2⟩ := X1.privateBack hx (y := (⟨"java/util/ArrayList", "grow", "(I)[Ljava/lang/Object;"⟩ : MethodName)) hown (mvT hZ (hw _ (List.mem_of_getElem? (i := 71) rfl))) (mvT hZ (hw _ (List.mem_of_getElem? (i := 72) rfl))) (mvT hZ (hw _ (List.mem_of_getElem? (i := 74) rfl))) (Cond.privateMethod_at (mvP hZ (hw _ (List.mem_of_getElem? (i := 73) rfl)) (args := #[]))) (mvT hZ (hw _ (List.mem_of_getElem? (i := 75) rfl))) (by decide) (backOf (W := 0) (own_rGi l Z a0 hw [] xo xm xd kd h0 n0 Z0 E1 Fm Fe Fs gz Sd Ad) hZ (hw _ (List.mem_of_getElem? (i := 75) rfl)) (hw _ (List.mem_of_getElem? (i := 12) rfl)) (by decide) (by decide)) (g := (mkF m 7 #[.val (.ref xo)] [(.int (1 : Int32)), (.ref xo)])) rfl (by rw [hml]; rfl) (Steps.refl _) (a := xo) (by rw [e1]; exact q2) q2' (argsL := [(.int (1 : Int32))]) (rest := []) (lenOf own_pd4 rfl) rfl (by show 2 * 0 + _ ≤ _; exact Nat.le_of_eq rfl) (hb hby own_dG0_7) (fun _ _ => ⟨rfl, e1, (by decide : 0 + 1 ≤ _), (by decide : 0 + 10 ≤ _)⟩)
  dsimp only [Pt.U, Pt.locs, Pt.cells, Pt.slots] at X2 l2 y2 z2 st2 hQ2
  subst l2 y2 z2
  obtain ⟨-, N2q, Kc2, SKc2, r2, ka2, rfl, hzr2, Ec2, Fmc2, Fec2, Fsc2, Vc2, Ov2, Er2⟩ := hQ2
  have N2 := Fr.app N0 N2q
  have ne_xo_r2 : xo ≠ r2 := Nat.ne_of_lt (Nat.lt_of_lt_of_le E1.lt hzr2)
  have ne_xd_r2 : xd ≠ r2 := Nat.ne_of_lt (Nat.lt_of_lt_of_le Ad.lt hzr2)
  have gz_r2 : n0 ≤ r2 := Nat.le_trans Z0 hzr2
  have hz_r2 : h0.size ≤ r2 := Nat.le_trans (Keep.refl h0 [xo]).1 hzr2
  have Vk3 := Ad.keep Kc2 (own_one (Ne.symm nod))
  have Z2 : n0 ≤ T2.heap.size := Nat.le_trans Z0 Kc2.1
  have SK2 : own_SK Z h0 T2.heap := (own_SK.rf Z h0).tr SKc2
  have K2 : Keep h0 T2.heap [xo] := (Keep.refl h0 [xo]).trans Kc2 (own_or1 (Or.inl (List.mem_of_getElem? (i := 0) rfl)))
  refine own_goT (T' := T2) (g' := (mkF m 10 #[.val (.ref xo)] [(.ref r2)])) st2 ?_
  obtain ⟨fs, hr, hrun, hended, hW, hsame⟩ := X2.leave (v := some (.ref r2)) (fun h => by rw [Bd.returns] at h; cases h)
  refine own_end (retOut X2 hx Bd.returns rfl (Or.inr (Or.inr (Or.inr (Or.inr ⟨rfl, rfl, rfl⟩)))) (hb hby own_dG0_10) hr) hrun hended ⟨_, _, rfl, (?_ : own_QG0 Z xo xm xd kd h0 n0 _ T2.heap _), ⟨_, rfl⟩, hW, hsame.mono (by decide) (by decide)⟩
  exact ⟨rfl, N2, K2, SK2, r2, ka2, rfl, hz_r2, Ec2, Fmc2, Fec2, Fsc2, Vc2, Ov2, Er2⟩
theorem own_pd5 : parseMethodDescriptor "()[Ljava/lang/Object;" = some ⟨[], some (.array (.object "java/lang/Object"))⟩ := by decide +kernel
theorem own_dAd0_0 : decode jdk_38_method_24_code 0 = .ok (.iload_n 3, 1) := by decide +kernel
theorem own_dAd0_1 : decode jdk_38_method_24_code 1 = .ok (.aload_n 2, 1) := by decide +kernel
theorem own_dAd0_2 : decode jdk_38_method_24_code 2 = .ok (.arraylength, 1) := by decide +kernel
theorem own_dAd0_3 : decode jdk_38_method_24_code 3 = .ok (.if_icmp .ne 8, 3) := by decide +kernel
theorem own_dAd0_6 : decode jdk_38_method_24_code 6 = .ok (.aload_n 0, 1) := by decide +kernel
theorem own_dAd0_7 : decode jdk_38_method_24_code 7 = .ok (.invokevirtual 129, 3) := by decide +kernel
theorem own_dAd0_10 : decode jdk_38_method_24_code 10 = .ok (.astore_n 2, 1) := by decide +kernel
theorem own_dAd0_11 : decode jdk_38_method_24_code 11 = .ok (.aload_n 2, 1) := by decide +kernel
theorem own_dAd0_12 : decode jdk_38_method_24_code 12 = .ok (.iload_n 3, 1) := by decide +kernel
theorem own_dAd0_13 : decode jdk_38_method_24_code 13 = .ok (.aload_n 1, 1) := by decide +kernel
theorem own_dAd0_14 : decode jdk_38_method_24_code 14 = .ok (.aastore, 1) := by decide +kernel
theorem own_dAd0_15 : decode jdk_38_method_24_code 15 = .ok (.aload_n 0, 1) := by decide +kernel
theorem own_dAd0_16 : decode jdk_38_method_24_code 16 = .ok (.iload_n 3, 1) := by decide +kernel
theorem own_dAd0_17 : decode jdk_38_method_24_code 17 = .ok (.iconst 1, 1) := by decide +kernel
theorem own_dAd0_18 : decode jdk_38_method_24_code 18 = .ok (.iadd, 1) := by decide +kernel
theorem own_dAd0_19 : decode jdk_38_method_24_code 19 = .ok (.putfield 48, 3) := by decide +kernel
theorem own_dAd0_22 : decode jdk_38_method_24_code 22 = .ok (.return_, 1) := by decide +kernel
theorem own_efAd0 (m : MethodId) (xo : Addr) (xe : Addr) (xd : Addr) : entryFrame m #[(.ref xo), (.ref xe), (.ref xd), (.int (0 : Int32))] 4 = mkF m 0 #[.val (.ref xo), .val (.ref xe), .val (.ref xd), .val (.int (0 : Int32))] [] := by first | (simp [entryFrame, mkF, argsToLocals, Value.category]; done) | rfl
def own_QAd0 (Z : State) (xo : Addr) (xe : Addr) (xd : Addr) (xm : Int32) (kd : ClassId) (h0 : Heap) (n0 : Nat) (v : Option Value) (h : Heap) (L : List Loc) : Prop := v = none ∧ Fr n0 L ∧ Keep h0 h [xo] ∧ own_SK Z h0 h ∧ ∃ r ka, h0.size ≤ r ∧ Exa Z h xo "java/util/ArrayList" ∧ Fld Z h xo "java/util/AbstractList" "modCount" "I" (.int xm) ∧ Fld Z h xo "java/util/ArrayList" "elementData" "[Ljava/lang/Object;" (.ref r) ∧ Fld Z h xo "java/util/ArrayList" "size" "I" (.int (1 : Int32)) ∧ own_A Z h r ka (.object "java/lang/Object") [(.ref xe), .null, .null, .null, .null, .null, .null, .null, .null, .null] ∧ Ovr Z ka "java/lang/Object" ∧ Exa Z h r "[Ljava/lang/Object;"
set_option maxRecDepth 65536 in
set_option maxHeartbeats 40000000 in
theorem own_rAd0 (l : Launch) (Z : State) (a0 : Array Value) (hw : ∀ d ∈ tables_1, d.before a0 Z = true) (ws : List Jvm.Cond) (xo : Addr) (xe : Addr) (xd : Addr) (xm : Int32) (kd : ClassId) (h0 : Heap) (n0 : Nat) (Z0 : n0 ≤ h0.size) (E1 : Exa Z h0 xo "java/util/ArrayList") (Fm : Fld Z h0 xo "java/util/AbstractList" "modCount" "I" (.int xm)) (Fe : Fld Z h0 xo "java/util/ArrayList" "elementData" "[Ljava/lang/Object;" (.ref xd)) (Fs : Fld Z h0 xo "java/util/ArrayList" "size" "I" (.int (0 : Int32))) (gz : n0 ≤ xo) (Sd : Sta Z h0 "java/util/ArrayList" "DEFAULTCAPACITY_EMPTY_ELEMENTDATA" "[Ljava/lang/Object;" (.ref xd)) (Ad : own_A Z h0 xd kd (.object "java/lang/Object") []) (Ee : Exa Z h0 xe "com/example/benchlight/benchlight/Bounds$Dimension") :
    MetFree l (⟨"java/util/ArrayList", "add", "(Ljava/lang/Object;[Ljava/lang/Object;I)V"⟩ : MethodName) (head1 (Jvm.Cond.code (⟨"java/util/ArrayList", "add", "(Ljava/lang/Object;[Ljava/lang/Object;I)V"⟩ : MethodName) jdk_38_method_24_code 4 none :: ws) ({ frames := 3, cells := 1, slots := 10, locals := 41 } : Room)) (fun a U => a = #[(.ref xo), (.ref xe), (.ref xd), (.int (0 : Int32))] ∧ Z.Warmed39 U.vm ∧ U.heap = h0) (fun _ _ _ _ _ => True) (fun _ U o U' => ∃ v L, o = .returned v ∧ own_QAd0 Z xo xe xd xm kd h0 n0 v U'.heap L ∧ FrameEnd U o U' L ({ frames := 3, cells := 1, slots := 10, locals := 41 } : Room).cells ({ frames := 3, cells := 1, slots := 10, locals := 41 } : Room).slots) := by
  refine MetFree.of_bodySF (plainFor_of_name own_pn5) hisR ?_
  intro p e s m args below meth c s₁ Bd hml0 hP hK
  obtain ⟨rfl, hZ, hh⟩ := hP
  have hx := Bd.exec
  have hby := Bd.bytes
  have hml : c.maxLocals = 4 := hml0
  have hown : s.vm.findClass "java/util/ArrayList" = some m.cls := findClass_of_methodNamed Bd.named
  have hnm := (name_of_methodNamed Bd.named Bd.method).1
  have X0 : Stand p l e ({ frames := 3, cells := 1, slots := 10, locals := 41 } : Room) s m #[(.ref xo), (.ref xe), (.ref xd), (.int (0 : Int32))] below meth c s₁ [] 0 0 := Stand.of_body Bd
  have e0 : s₁.heap = h0 := by rw [← hh, Bd.state]; rfl
  have N0 := Fr.nil n0
  show own_F p e below (fun o U' => ∃ v L, o = .returned v ∧ own_QAd0 Z xo xe xd xm kd h0 n0 v U'.heap L ∧ FrameEnd s o U' L ({ frames := 3, cells := 1, slots := 10, locals := 41 } : Room).cells ({ frames := 3, cells := 1, slots := 10, locals := 41 } : Room).slots) s₁ (entryFrame m #[(.ref xo), (.ref xe), (.ref xd), (.int (0 : Int32))] 4)
  rw [own_efAd0 m xo xe xd]
  have nod : xo ≠ xd := own_neA E1 (hw _ (List.mem_of_getElem? (i := 11) rfl)) Ad
  refine own_go (T' := s₁) (g' := (mkF m 1 #[.val (.ref xo), .val (.ref xe), .val (.ref xd), .val (.int (0 : Int32))] [(.int (0 : Int32))])) (fun _ k => XS.iloadN X0.here hx rfl (hb hby own_dAd0_0) rfl k) ?_
  refine own_go (T' := s₁) (g' := (mkF m 2 #[.val (.ref xo), .val (.ref xe), .val (.ref xd), .val (.int (0 : Int32))] [(.ref xd), (.int (0 : Int32))])) (fun _ k => XS.aloadN X0.here hx rfl (hb hby own_dAd0_1) rfl rfl k) ?_
  refine own_go (T' := s₁) (g' := (mkF m 3 #[.val (.ref xo), .val (.ref xe), .val (.ref xd), .val (.int (0 : Int32))] [(.int (0 : Int32)), (.int (0 : Int32))])) (fun _ k => own_alen X0 hx hZ e0 Ad (g := (mkF m 2 #[.val (.ref xo), .val (.ref xe), .val (.ref xd), .val (.int (0 : Int32))] [(.ref xd), (.int (0 : Int32))])) rfl rfl (hb hby own_dAd0_2) (n := (0 : Int32)) rfl k) ?_
  refine own_go (T' := s₁) (g' := (mkF m 6 #[.val (.ref xo), .val (.ref xe), .val (.ref xd), .val (.int (0 : Int32))] [])) (fun _ k => XS.icmpNo X0.here hx rfl (hb hby own_dAd0_3) rfl (teq ((by decide) : (0 : Int32) = (0 : Int32))).2 k) ?_
  refine own_go (T' := s₁) (g' := (mkF m 7 #[.val (.ref xo), .val (.ref xe), .val (.ref xd), .val (.int (0 : Int32))] [(.ref xo)])) (fun _ k => XS.aloadN X0.here hx rfl (hb hby own_dAd0_6) rfl rfl k) ?_
  obtain ⟨cq1, q1, q1'⟩ := E1.cell
  obtain ⟨_, _, ⟨T1, L1, k1, n1⟩, -, X1, ⟨Lc1, hQ1, l1, y1, z1⟩, st1⟩ := X0.privateBack hx (y := (⟨"java/util/ArrayList", "grow", "()[Ljava/lang/Object;"⟩ : MethodName)) hown (mvT hZ (hw _ (List.mem_of_getElem? (i := 66) rfl))) (mvT hZ (hw _ (List.mem_of_getElem? (i := 67) rfl))) (mvT hZ (hw _ (List.mem_of_getElem? (i := 69) rfl))) (Cond.privateMethod_at (mvP hZ (hw _ (List.mem_of_getElem? (i := 68) rfl)) (args := #[]))) (mvT hZ (hw _ (List.mem_of_getElem? (i := 70) rfl))) (by decide) (backOf (W := 0) (own_rG0 l Z a0 hw [] xo xm xd kd h0 n0 Z0 E1 Fm Fe Fs gz Sd Ad) hZ (hw _ (List.mem_of_getElem? (i := 70) rfl)) (hw _ (List.mem_of_getElem? (i := 12) rfl)) (by decide) (by decide)) (g := (mkF m 7 #[.val (.ref xo), .val (.ref xe), .val (.ref xd), .val (.int (0 : Int32))] [(.ref xo)])) rfl (by rw [hml]; rfl) (Steps.refl _) (a := xo) (by rw [e0]; exact q1) q1' (argsL := []) (rest := []) (lenOf own_pd5 rfl) rfl (by show 2 * 0 + _ ≤ _; exact Nat.le_of_eq rfl) (hb hby own_dAd0_7) (fun _ _ => ⟨rfl, e0, (by decide : 0 + 1 ≤ _), (by decide : 0 + 10 ≤ _)⟩)
  dsimp only [Pt.U, Pt.locs, Pt.cells, Pt.slots] at X1 l1 y1 z1 st1 hQ1
  subst l1 y1 z1
  obtain ⟨-, N1q, Kc1, SKc1, r1, ka1, rfl, hzr1, Ec1, Fmc1, Fec1, Fsc1, Vc1, Ov1, Er1⟩ := hQ1
  have N1 := Fr.app N0 N1q
  have ne_xo_r1 : xo ≠ r1 := Nat.ne_of_lt (Nat.lt_of_lt_of_le E1.lt hzr1)
  have ne_xd_r1 : xd ≠ r1 := Nat.ne_of_lt (Nat.lt_of_lt_of_le Ad.lt hzr1)
  have ne_xe_r1 : xe ≠ r1 := Nat.ne_of_lt (Nat.lt_of_lt_of_le Ee.lt hzr1)
  have gz_r1 : n0 ≤ r1 := Nat.le_trans Z0 hzr1
  have hz_r1 : h0.size ≤ r1 := Nat.le_trans (Keep.refl h0 [xo]).1 hzr1
  have Vk2 := Ad.keep Kc1 (own_one (Ne.symm nod))
  have Ek3 := Ee.keep Kc1
  have Z1 : n0 ≤ T1.heap.size := Nat.le_trans Z0 Kc1.1
  have SK1 : own_SK Z h0 T1.heap := (own_SK.rf Z h0).tr SKc1
  have K1 : Keep h0 T1.heap [xo] := (Keep.refl h0 [xo]).trans Kc1 (own_or1 (Or.inl (List.mem_of_getElem? (i := 0) rfl)))
  refine own_goT (T' := T1) (g' := (mkF m 10 #[.val (.ref xo), .val (.ref xe), .val (.ref xd), .val (.int (0 : Int32))] [(.ref r1)])) st1 ?_
  refine own_go (T' := T1) (g' := (mkF m 11 #[.val (.ref xo), .val (.ref xe), .val (.ref r1), .val (.int (0 : Int32))] [])) (fun _ k => XS.astoreN X1.here hx rfl (hb hby own_dAd0_10) rfl rfl (l' := #[.val (.ref xo), .val (.ref xe), .val (.ref r1), .val (.int (0 : Int32))]) rfl k) ?_
  refine own_go (T' := T1) (g' := (mkF m 12 #[.val (.ref xo), .val (.ref xe), .val (.ref r1), .val (.int (0 : Int32))] [(.ref r1)])) (fun _ k => XS.aloadN X1.here hx rfl (hb hby own_dAd0_11) rfl rfl k) ?_
  refine own_go (T' := T1) (g' := (mkF m 13 #[.val (.ref xo), .val (.ref xe), .val (.ref r1), .val (.int (0 : Int32))] [(.int (0 : Int32)), (.ref r1)])) (fun _ k => XS.iloadN X1.here hx rfl (hb hby own_dAd0_12) rfl k) ?_
  refine own_go (T' := T1) (g' := (mkF m 14 #[.val (.ref xo), .val (.ref xe), .val (.ref r1), .val (.int (0 : Int32))] [(.ref xe), (.int (0 : Int32)), (.ref r1)])) (fun _ k => XS.aloadN X1.here hx rfl (hb hby own_dAd0_13) rfl rfl k) ?_
  obtain ⟨T4, h4, X4, e4, V4, W4, st4⟩ := own_aastore X1 hx hZ rfl Vc1 (j := (0 : Int32)) (i := 0) rfl (by decide) (Nat.le_of_ble_eq_true rfl) rfl (own_A.sto Vc1 Ov1 (Ins.of_exa Ek3 (hw _ (List.mem_of_getElem? (i := 82) rfl)))) (g := (mkF m 14 #[.val (.ref xo), .val (.ref xe), .val (.ref r1), .val (.int (0 : Int32))] [(.ref xe), (.int (0 : Int32)), (.ref r1)])) rfl rfl (hb hby own_dAd0_14)
  have Va4 : own_A Z h4 r1 ka1 (.object "java/lang/Object") [(.ref xe), .null, .null, .null, .null, .null, .null, .null, .null, .null] := V4
  have Vk5 := Vk2.other W4 ne_xd_r1
  have Ek6 := Ek3.wr W4
  have Ek7 := Ec1.wr W4
  have Fk8 := Fmc1.other W4 (Or.inl ne_xo_r1)
  have Fk9 := Fec1.other W4 (Or.inl ne_xo_r1)
  have Fk10 := Fsc1.other W4 (Or.inl ne_xo_r1)
  have Ek11 := Er1.wr W4
  have Z4 : n0 ≤ h4.size := Nat.le_trans Z1 (Keep.of_wr W4).1
  have K4 : Keep h0 h4 [xo] := K1.wr W4 (Or.inr hz_r1)
  have N4 := Fr.snoc X4 N1 gz_r1
  have SK4 : own_SK Z h0 h4 := SK1.wr W4
  refine own_go (T' := T4) (g' := (mkF m 15 #[.val (.ref xo), .val (.ref xe), .val (.ref r1), .val (.int (0 : Int32))] [])) (fun _ k => st4 _ k) ?_
  refine own_go (T' := T4) (g' := (mkF m 16 #[.val (.ref xo), .val (.ref xe), .val (.ref r1), .val (.int (0 : Int32))] [(.ref xo)])) (fun _ k => XS.aloadN X4.here hx rfl (hb hby own_dAd0_15) rfl rfl k) ?_
  refine own_go (T' := T4) (g' := (mkF m 17 #[.val (.ref xo), .val (.ref xe), .val (.ref r1), .val (.int (0 : Int32))] [(.int (0 : Int32)), (.ref xo)])) (fun _ k => XS.iloadN X4.here hx rfl (hb hby own_dAd0_16) rfl k) ?_
  refine own_go (T' := T4) (g' := (mkF m 18 #[.val (.ref xo), .val (.ref xe), .val (.ref r1), .val (.int (0 : Int32))] [(.int (1 : Int32)), (.int (0 : Int32)), (.ref xo)])) (fun _ k => XS.iconst X4.here hx rfl (hb hby own_dAd0_17) k) ?_
  refine own_go (T' := T4) (g' := (mkF m 19 #[.val (.ref xo), .val (.ref xe), .val (.ref r1), .val (.int (0 : Int32))] [(.int (1 : Int32)), (.ref xo)])) (fun _ k => XS.iadd X4.here hx rfl (hb hby own_dAd0_18) rfl k) ?_
  obtain ⟨T12, h12, X12, e12, W12, st12⟩ := putF X4 hx hZ hown (host := "") (Or.inl (hw _ (List.mem_of_getElem? (i := 59) rfl))) Via.refl e4 Fk10 Ek7 (Or.inl (hw _ (List.mem_of_getElem? (i := 60) rfl))) (hw _ (List.mem_of_getElem? (i := 11) rfl)) (ty := .int) (by decide) rfl rfl (g := (mkF m 19 #[.val (.ref xo), .val (.ref xe), .val (.ref r1), .val (.int (0 : Int32))] [(.int (1 : Int32)), (.ref xo)])) rfl rfl (hb hby own_dAd0_19)
  have Fw12 := Fk10.same W12
  have Vk13 := Vk5.other W12 (Ne.symm nod)
  have Ek14 := Ek6.wr W12
  have Ek15 := Ek7.wr W12
  have Fk16 := Fk8.other W12 (Or.inr (slot_ne (Or.inl (hw _ (List.mem_of_getElem? (i := 32) rfl))) (Or.inl (hw _ (List.mem_of_getElem? (i := 60) rfl))) (by decide) (t := .int) (t' := .int) (by decide) (by decide)))
  have Fk17 := Fk9.other W12 (Or.inr (slot_ne (Or.inl (hw _ (List.mem_of_getElem? (i := 35) rfl))) (Or.inl (hw _ (List.mem_of_getElem? (i := 60) rfl))) (by decide) (t := (.array (.object "java/lang/Object"))) (t' := .int) (by decide) (by decide)))
  have Ek18 := Ek11.wr W12
  have Vk19 := Va4.other W12 (Ne.symm ne_xo_r1)
  have Z12 : n0 ≤ h12.size := Nat.le_trans Z4 (Keep.of_wr W12).1
  have K12 : Keep h0 h12 [xo] := K4.wr W12 (Or.inl (List.mem_of_getElem? (i := 0) rfl))
  have N12 := Fr.snoc X12 N4 gz
  have SK12 : own_SK Z h0 h12 := SK4.wr W12
  refine own_go (T' := T12) (g' := (mkF m 22 #[.val (.ref xo), .val (.ref xe), .val (.ref r1), .val (.int (0 : Int32))] [])) (fun _ k => st12 _ k) ?_
  obtain ⟨fs, hr, hrun, hended, hW, hsame⟩ := X12.leave (v := none) (fun _ => rfl)
  refine own_end (X12.returnOut hx Bd.returns (hb hby own_dAd0_22) hr) hrun hended ⟨_, _, rfl, (?_ : own_QAd0 Z xo xe xd xm kd h0 n0 _ T12.heap _), ⟨_, rfl⟩, hW, hsame.mono (by decide) (by decide)⟩
  rw [e12]
  exact ⟨rfl, N12, K12, SK12, r1, ka1, hz_r1, Ek15, Fk16, Fk17, Fw12, Vk19, Ov1, Ek18⟩
theorem own_pd6 : parseMethodDescriptor "(Ljava/lang/Object;[Ljava/lang/Object;I)V" = some ⟨[(.object "java/lang/Object"), (.array (.object "java/lang/Object")), .int], none⟩ := by decide +kernel
theorem own_dA0_0 : decode jdk_38_method_25_code 0 = .ok (.aload_n 0, 1) := by decide +kernel
theorem own_dA0_1 : decode jdk_38_method_25_code 1 = .ok (.dup, 1) := by decide +kernel
theorem own_dA0_2 : decode jdk_38_method_25_code 2 = .ok (.getfield 63, 3) := by decide +kernel
theorem own_dA0_5 : decode jdk_38_method_25_code 5 = .ok (.iconst 1, 1) := by decide +kernel
theorem own_dA0_6 : decode jdk_38_method_25_code 6 = .ok (.iadd, 1) := by decide +kernel
theorem own_dA0_7 : decode jdk_38_method_25_code 7 = .ok (.putfield 63, 3) := by decide +kernel
theorem own_dA0_10 : decode jdk_38_method_25_code 10 = .ok (.aload_n 0, 1) := by decide +kernel
theorem own_dA0_11 : decode jdk_38_method_25_code 11 = .ok (.aload_n 1, 1) := by decide +kernel
theorem own_dA0_12 : decode jdk_38_method_25_code 12 = .ok (.aload_n 0, 1) := by decide +kernel
theorem own_dA0_13 : decode jdk_38_method_25_code 13 = .ok (.getfield 9, 3) := by decide +kernel
theorem own_dA0_16 : decode jdk_38_method_25_code 16 = .ok (.aload_n 0, 1) := by decide +kernel
theorem own_dA0_17 : decode jdk_38_method_25_code 17 = .ok (.getfield 48, 3) := by decide +kernel
theorem own_dA0_20 : decode jdk_38_method_25_code 20 = .ok (.invokevirtual 131, 3) := by decide +kernel
theorem own_dA0_23 : decode jdk_38_method_25_code 23 = .ok (.iconst 1, 1) := by decide +kernel
theorem own_dA0_24 : decode jdk_38_method_25_code 24 = .ok (.ireturn, 1) := by decide +kernel
theorem own_efA0 (m : MethodId) (xo : Addr) (xe : Addr) : entryFrame m #[(.ref xo), (.ref xe)] 2 = mkF m 0 #[.val (.ref xo), .val (.ref xe)] [] := by first | (simp [entryFrame, mkF, argsToLocals, Value.category]; done) | rfl
def own_QA0 (Z : State) (xo : Addr) (xe : Addr) (xm : Int32) (xd : Addr) (kd : ClassId) (h0 : Heap) (n0 : Nat) (v : Option Value) (h : Heap) (L : List Loc) : Prop := v = some (.int (1 : Int32)) ∧ Fr n0 L ∧ Keep h0 h [xo] ∧ own_SK Z h0 h ∧ ∃ r ka, h0.size ≤ r ∧ Exa Z h xo "java/util/ArrayList" ∧ Fld Z h xo "java/util/AbstractList" "modCount" "I" (.int (xm + (1 : Int32))) ∧ Fld Z h xo "java/util/ArrayList" "elementData" "[Ljava/lang/Object;" (.ref r) ∧ Fld Z h xo "java/util/ArrayList" "size" "I" (.int (1 : Int32)) ∧ own_A Z h r ka (.object "java/lang/Object") [(.ref xe), .null, .null, .null, .null, .null, .null, .null, .null, .null] ∧ Ovr Z ka "java/lang/Object" ∧ Exa Z h r "[Ljava/lang/Object;"
set_option maxRecDepth 65536 in
set_option maxHeartbeats 40000000 in
theorem own_rA0 (l : Launch) (Z : State) (a0 : Array Value) (hw : ∀ d ∈ tables_1, d.before a0 Z = true) (ws : List Jvm.Cond) (xo : Addr) (xe : Addr) (xm : Int32) (xd : Addr) (kd : ClassId) (h0 : Heap) (n0 : Nat) (Z0 : n0 ≤ h0.size) (E1 : Exa Z h0 xo "java/util/ArrayList") (Fm : Fld Z h0 xo "java/util/AbstractList" "modCount" "I" (.int xm)) (Fe : Fld Z h0 xo "java/util/ArrayList" "elementData" "[Ljava/lang/Object;" (.ref xd)) (Fs : Fld Z h0 xo "java/util/ArrayList" "size" "I" (.int (0 : Int32))) (gz : n0 ≤ xo) (Sd : Sta Z h0 "java/util/ArrayList" "DEFAULTCAPACITY_EMPTY_ELEMENTDATA" "[Ljava/lang/Object;" (.ref xd)) (Ad : own_A Z h0 xd kd (.object "java/lang/Object") []) (Ee : Exa Z h0 xe "com/example/benchlight/benchlight/Bounds$Dimension") :
    MetFree l (⟨"java/util/ArrayList", "add", "(Ljava/lang/Object;)Z"⟩ : MethodName) (head1 (Jvm.Cond.code (⟨"java/util/ArrayList", "add", "(Ljava/lang/Object;)Z"⟩ : MethodName) jdk_38_method_25_code 2 (some .boolean) :: ws) ({ frames := 4, cells := 1, slots := 10, locals := 56 } : Room)) (fun a U => a = #[(.ref xo), (.ref xe)] ∧ Z.Warmed39 U.vm ∧ U.heap = h0) (fun _ _ _ _ _ => True) (fun _ U o U' => ∃ v L, o = .returned v ∧ own_QA0 Z xo xe xm xd kd h0 n0 v U'.heap L ∧ FrameEnd U o U' L ({ frames := 4, cells := 1, slots := 10, locals := 56 } : Room).cells ({ frames := 4, cells := 1, slots := 10, locals := 56 } : Room).slots) := by
  refine MetFree.of_bodySF (plainFor_of_name own_pn5) hisR ?_
  intro p e s m args below meth c s₁ Bd hml0 hP hK
  obtain ⟨rfl, hZ, hh⟩ := hP
  have hx := Bd.exec
  have hby := Bd.bytes
  have hml : c.maxLocals = 2 := hml0
  have hown : s.vm.findClass "java/util/ArrayList" = some m.cls := findClass_of_methodNamed Bd.named
  have hnm := (name_of_methodNamed Bd.named Bd.method).1
  have X0 : Stand p l e ({ frames := 4, cells := 1, slots := 10, locals := 56 } : Room) s m #[(.ref xo), (.ref xe)] below meth c s₁ [] 0 0 := Stand.of_body Bd
  have e0 : s₁.heap = h0 := by rw [← hh, Bd.state]; rfl
  have N0 := Fr.nil n0
  show own_F p e below (fun o U' => ∃ v L, o = .returned v ∧ own_QA0 Z xo xe xm xd kd h0 n0 v U'.heap L ∧ FrameEnd s o U' L ({ frames := 4, cells := 1, slots := 10, locals := 56 } : Room).cells ({ frames := 4, cells := 1, slots := 10, locals := 56 } : Room).slots) s₁ (entryFrame m #[(.ref xo), (.ref xe)] 2)
  rw [own_efA0 m xo xe]
  have nod : xo ≠ xd := own_neA E1 (hw _ (List.mem_of_getElem? (i := 11) rfl)) Ad
  refine own_go (T' := s₁) (g' := (mkF m 1 #[.val (.ref xo), .val (.ref xe)] [(.ref xo)])) (fun _ k => XS.aloadN X0.here hx rfl (hb hby own_dA0_0) rfl rfl k) ?_
  refine own_go (T' := s₁) (g' := (mkF m 2 #[.val (.ref xo), .val (.ref xe)] [(.ref xo), (.ref xo)])) (fun _ k => XS.dup X0.here hx rfl (hb hby own_dA0_1) rfl rfl k) ?_
  obtain ⟨T1, X1, e1, st1⟩ := getF X0 hx hZ hown (host := "") (Or.inl (hw _ (List.mem_of_getElem? (i := 57) rfl))) (Via.of (hw _ (List.mem_of_getElem? (i := 58) rfl))) e0 Fm (g := (mkF m 2 #[.val (.ref xo), .val (.ref xe)] [(.ref xo), (.ref xo)])) rfl rfl (hb hby own_dA0_2)
  refine own_go (T' := T1) (g' := (mkF m 5 #[.val (.ref xo), .val (.ref xe)] [(.int xm), (.ref xo)])) (fun _ k => st1 _ k) ?_
  refine own_go (T' := T1) (g' := (mkF m 6 #[.val (.ref xo), .val (.ref xe)] [(.int (1 : Int32)), (.int xm), (.ref xo)])) (fun _ k => XS.iconst X1.here hx rfl (hb hby own_dA0_5) k) ?_
  refine own_go (T' := T1) (g' := (mkF m 7 #[.val (.ref xo), .val (.ref xe)] [(.int (xm + (1 : Int32))), (.ref xo)])) (fun _ k => XS.iadd X1.here hx rfl (hb hby own_dA0_6) rfl k) ?_
  obtain ⟨T2, h2, X2, e2, W2, st2⟩ := putF X1 hx hZ hown (host := "") (Or.inl (hw _ (List.mem_of_getElem? (i := 57) rfl))) (Via.of (hw _ (List.mem_of_getElem? (i := 58) rfl))) e1 Fm E1 (Or.inl (hw _ (List.mem_of_getElem? (i := 32) rfl))) (hw _ (List.mem_of_getElem? (i := 11) rfl)) (ty := .int) (by decide) rfl rfl (g := (mkF m 7 #[.val (.ref xo), .val (.ref xe)] [(.int (xm + (1 : Int32))), (.ref xo)])) rfl rfl (hb hby own_dA0_7)
  have Fw2 := Fm.same W2
  have Ek3 := E1.wr W2
  have Fk4 := Fe.other W2 (Or.inr (slot_ne (Or.inl (hw _ (List.mem_of_getElem? (i := 35) rfl))) (Or.inl (hw _ (List.mem_of_getElem? (i := 32) rfl))) (by decide) (t := (.array (.object "java/lang/Object"))) (t' := .int) (by decide) (by decide)))
  have Fk5 := Fs.other W2 (Or.inr (slot_ne (Or.inl (hw _ (List.mem_of_getElem? (i := 60) rfl))) (Or.inl (hw _ (List.mem_of_getElem? (i := 32) rfl))) (by decide) (t := .int) (t' := .int) (by decide) (by decide)))
  have Vk6 := Ad.other W2 (Ne.symm nod)
  have Ek7 := Ee.wr W2
  have Z2 : n0 ≤ h2.size := Nat.le_trans Z0 (Keep.of_wr W2).1
  have K2 : Keep h0 h2 [xo] := (Keep.refl h0 [xo]).wr W2 (Or.inl (List.mem_of_getElem? (i := 0) rfl))
  have N2 := Fr.snoc X2 N0 gz
  have SK2 : own_SK Z h0 h2 := (own_SK.rf Z h0).wr W2
  refine own_go (T' := T2) (g' := (mkF m 10 #[.val (.ref xo), .val (.ref xe)] [])) (fun _ k => st2 _ k) ?_
  refine own_go (T' := T2) (g' := (mkF m 11 #[.val (.ref xo), .val (.ref xe)] [(.ref xo)])) (fun _ k => XS.aloadN X2.here hx rfl (hb hby own_dA0_10) rfl rfl k) ?_
  refine own_go (T' := T2) (g' := (mkF m 12 #[.val (.ref xo), .val (.ref xe)] [(.ref xe), (.ref xo)])) (fun _ k => XS.aloadN X2.here hx rfl (hb hby own_dA0_11) rfl rfl k) ?_
  refine own_go (T' := T2) (g' := (mkF m 13 #[.val (.ref xo), .val (.ref xe)] [(.ref xo), (.ref xe), (.ref xo)])) (fun _ k => XS.aloadN X2.here hx rfl (hb hby own_dA0_12) rfl rfl k) ?_
  obtain ⟨T8, X8, e8, st8⟩ := getF X2 hx hZ hown (host := "") (Or.inl (hw _ (List.mem_of_getElem? (i := 34) rfl))) Via.refl e2 Fk4 (g := (mkF m 13 #[.val (.ref xo), .val (.ref xe)] [(.ref xo), (.ref xe), (.ref xo)])) rfl rfl (hb hby own_dA0_13)
  refine own_go (T' := T8) (g' := (mkF m 16 #[.val (.ref xo), .val (.ref xe)] [(.ref xd), (.ref xe), (.ref xo)])) (fun _ k => st8 _ k) ?_
  refine own_go (T' := T8) (g' := (mkF m 17 #[.val (.ref xo), .val (.ref xe)] [(.ref xo), (.ref xd), (.ref xe), (.ref xo)])) (fun _ k => XS.aloadN X8.here hx rfl (hb hby own_dA0_16) rfl rfl k) ?_
  obtain ⟨T9, X9, e9, st9⟩ := getF X8 hx hZ hown (host := "") (Or.inl (hw _ (List.mem_of_getElem? (i := 59) rfl))) Via.refl e8 Fk5 (g := (mkF m 17 #[.val (.ref xo), .val (.ref xe)] [(.ref xo), (.ref xd), (.ref xe), (.ref xo)])) rfl rfl (hb hby own_dA0_17)
  refine own_go (T' := T9) (g' := (mkF m 20 #[.val (.ref xo), .val (.ref xe)] [(.int (0 : Int32)), (.ref xd), (.ref xe), (.ref xo)])) (fun _ k => st9 _ k) ?_
  obtain ⟨cq10, q10, q10'⟩ := Ek3.cell
  obtain ⟨_, _, ⟨T10, L10, k10, n10⟩, -, X10, ⟨Lc10, hQ10, l10, y10, z10⟩, st10⟩ := X9.privateBack hx (y := (⟨"java/util/ArrayList", "add", "(Ljava/lang/Object;[Ljava/lang/Object;I)V"⟩ : MethodName)) hown (mvT hZ (hw _ (List.mem_of_getElem? (i := 61) rfl))) (mvT hZ (hw _ (List.mem_of_getElem? (i := 62) rfl))) (mvT hZ (hw _ (List.mem_of_getElem? (i := 64) rfl))) (Cond.privateMethod_at (mvP hZ (hw _ (List.mem_of_getElem? (i := 63) rfl)) (args := #[]))) (mvT hZ (hw _ (List.mem_of_getElem? (i := 65) rfl))) (by decide) (backOf (W := 0) (own_rAd0 l Z a0 hw [] xo xe xd (xm + (1 : Int32)) kd h2 n0 Z2 Ek3 Fw2 Fk4 Fk5 gz (SK2 _ _ _ _ Sd) Vk6 Ek7) hZ (hw _ (List.mem_of_getElem? (i := 65) rfl)) (hw _ (List.mem_of_getElem? (i := 12) rfl)) (by decide) (by decide)) (g := (mkF m 20 #[.val (.ref xo), .val (.ref xe)] [(.int (0 : Int32)), (.ref xd), (.ref xe), (.ref xo)])) rfl (by rw [hml]; rfl) (Steps.refl _) (a := xo) (by rw [e9]; exact q10) q10' (argsL := [(.ref xe), (.ref xd), (.int (0 : Int32))]) (rest := []) (lenOf own_pd6 rfl) rfl (by show 2 * 0 + _ ≤ _; exact Nat.le_of_eq rfl) (hb hby own_dA0_20) (fun _ _ => ⟨rfl, e9, (by decide : 0 + 1 ≤ _), (by decide : 0 + 10 ≤ _)⟩)
  dsimp only [Pt.U, Pt.locs, Pt.cells, Pt.slots] at X10 l10 y10 z10 st10 hQ10
  subst l10 y10 z10
  obtain ⟨rfl, N10q, Kc10, SKc10, r10, ka10, hzr10, Ec10, Fmc10, Fec10, Fsc10, Vc10, Ov10, Er10⟩ := hQ10
  have N10 := Fr.app N2 N10q
  have ne_xo_r10 : xo ≠ r10 := Nat.ne_of_lt (Nat.lt_of_lt_of_le Ek3.lt hzr10)
  have ne_xd_r10 : xd ≠ r10 := Nat.ne_of_lt (Nat.lt_of_lt_of_le Vk6.lt hzr10)
  have ne_xe_r10 : xe ≠ r10 := Nat.ne_of_lt (Nat.lt_of_lt_of_le Ek7.lt hzr10)
  have gz_r10 : n0 ≤ r10 := Nat.le_trans Z2 hzr10
  have hz_r10 : h0.size ≤ r10 := Nat.le_trans K2.1 hzr10
  have Ek11 := Ek7.keep Kc10
  have Z10 : n0 ≤ T10.heap.size := Nat.le_trans Z2 Kc10.1
  have SK10 : own_SK Z h0 T10.heap := SK2.tr SKc10
  have K10 : Keep h0 T10.heap [xo] := K2.trans Kc10 (own_or1 (Or.inl (List.mem_of_getElem? (i := 0) rfl)))
  refine own_goT (T' := T10) (g' := (mkF m 23 #[.val (.ref xo), .val (.ref xe)] [])) st10 ?_
  refine own_go (T' := T10) (g' := (mkF m 24 #[.val (.ref xo), .val (.ref xe)] [(.int (1 : Int32))])) (fun _ k => XS.iconst X10.here hx rfl (hb hby own_dA0_23) k) ?_
  obtain ⟨fs, hr, hrun, hended, hW, hsame⟩ := X10.leave (v := some (.int (1 : Int32))) (fun h => by rw [Bd.returns] at h; cases h)
  refine own_end (retN X10 hx (t := .boolean) Bd.returns (by simp) (hb hby own_dA0_24) hr) hrun hended ⟨_, _, rfl, (?_ : own_QA0 Z xo xe xm xd kd h0 n0 _ T10.heap _), ⟨_, rfl⟩, hW, hsame.mono (by decide) (by decide)⟩
  exact ⟨rfl, N10, K10, SK10, r10, ka10, hz_r10, Ec10, Fmc10, Fec10, Fsc10, Vc10, Ov10, Er10⟩
theorem own_dAd1_0 : decode jdk_38_method_24_code 0 = .ok (.iload_n 3, 1) := by decide +kernel
theorem own_dAd1_1 : decode jdk_38_method_24_code 1 = .ok (.aload_n 2, 1) := by decide +kernel
theorem own_dAd1_2 : decode jdk_38_method_24_code 2 = .ok (.arraylength, 1) := by decide +kernel
theorem own_dAd1_3 : decode jdk_38_method_24_code 3 = .ok (.if_icmp .ne 8, 3) := by decide +kernel
theorem own_dAd1_11 : decode jdk_38_method_24_code 11 = .ok (.aload_n 2, 1) := by decide +kernel
theorem own_dAd1_12 : decode jdk_38_method_24_code 12 = .ok (.iload_n 3, 1) := by decide +kernel
theorem own_dAd1_13 : decode jdk_38_method_24_code 13 = .ok (.aload_n 1, 1) := by decide +kernel
theorem own_dAd1_14 : decode jdk_38_method_24_code 14 = .ok (.aastore, 1) := by decide +kernel
theorem own_dAd1_15 : decode jdk_38_method_24_code 15 = .ok (.aload_n 0, 1) := by decide +kernel
theorem own_dAd1_16 : decode jdk_38_method_24_code 16 = .ok (.iload_n 3, 1) := by decide +kernel
theorem own_dAd1_17 : decode jdk_38_method_24_code 17 = .ok (.iconst 1, 1) := by decide +kernel
theorem own_dAd1_18 : decode jdk_38_method_24_code 18 = .ok (.iadd, 1) := by decide +kernel
theorem own_dAd1_19 : decode jdk_38_method_24_code 19 = .ok (.putfield 48, 3) := by decide +kernel
theorem own_dAd1_22 : decode jdk_38_method_24_code 22 = .ok (.return_, 1) := by decide +kernel
theorem own_efAd1 (m : MethodId) (xo : Addr) (xe : Addr) (xa : Addr) : entryFrame m #[(.ref xo), (.ref xe), (.ref xa), (.int (1 : Int32))] 4 = mkF m 0 #[.val (.ref xo), .val (.ref xe), .val (.ref xa), .val (.int (1 : Int32))] [] := by first | (simp [entryFrame, mkF, argsToLocals, Value.category]; done) | rfl
def own_QAd1 (Z : State) (xo : Addr) (xe : Addr) (xa : Addr) (xm : Int32) (ka : ClassId) (y0 : Addr) (h0 : Heap) (n0 : Nat) (v : Option Value) (h : Heap) (L : List Loc) : Prop := v = none ∧ Fr n0 L ∧ Keep h0 h [xo, xa] ∧ own_SK Z h0 h ∧ Exa Z h xo "java/util/ArrayList" ∧ Fld Z h xo "java/util/AbstractList" "modCount" "I" (.int xm) ∧ Fld Z h xo "java/util/ArrayList" "elementData" "[Ljava/lang/Object;" (.ref xa) ∧ Fld Z h xo "java/util/ArrayList" "size" "I" (.int (2 : Int32)) ∧ own_A Z h xa ka (.object "java/lang/Object") [(.ref y0), (.ref xe), .null, .null, .null, .null, .null, .null, .null, .null]
set_option maxRecDepth 65536 in
set_option maxHeartbeats 40000000 in
theorem own_rAd1 (l : Launch) (Z : State) (a0 : Array Value) (hw : ∀ d ∈ tables_1, d.before a0 Z = true) (ws : List Jvm.Cond) (xo : Addr) (xe : Addr) (xa : Addr) (xm : Int32) (ka : ClassId) (y0 : Addr) (h0 : Heap) (n0 : Nat) (Z0 : n0 ≤ h0.size) (E1 : Exa Z h0 xo "java/util/ArrayList") (Fm : Fld Z h0 xo "java/util/AbstractList" "modCount" "I" (.int xm)) (Fe : Fld Z h0 xo "java/util/ArrayList" "elementData" "[Ljava/lang/Object;" (.ref xa)) (Fs : Fld Z h0 xo "java/util/ArrayList" "size" "I" (.int (1 : Int32))) (gz : n0 ≤ xo) (ga : n0 ≤ xa) (noa : xo ≠ xa) (Va : own_A Z h0 xa ka (.object "java/lang/Object") [(.ref y0), .null, .null, .null, .null, .null, .null, .null, .null, .null]) (Ov : Ovr Z ka "java/lang/Object") (Ee : Exa Z h0 xe "com/example/benchlight/benchlight/Bounds$Dimension") :
    MetFree l (⟨"java/util/ArrayList", "add", "(Ljava/lang/Object;[Ljava/lang/Object;I)V"⟩ : MethodName) (head1 (Jvm.Cond.code (⟨"java/util/ArrayList", "add", "(Ljava/lang/Object;[Ljava/lang/Object;I)V"⟩ : MethodName) jdk_38_method_24_code 4 none :: ws) ({ frames := 0, cells := 0, slots := 0, locals := 0 } : Room)) (fun a U => a = #[(.ref xo), (.ref xe), (.ref xa), (.int (1 : Int32))] ∧ Z.Warmed39 U.vm ∧ U.heap = h0) (fun _ _ _ _ _ => True) (fun _ U o U' => ∃ v L, o = .returned v ∧ own_QAd1 Z xo xe xa xm ka y0 h0 n0 v U'.heap L ∧ FrameEnd U o U' L ({ frames := 0, cells := 0, slots := 0, locals := 0 } : Room).cells ({ frames := 0, cells := 0, slots := 0, locals := 0 } : Room).slots) := by
  refine MetFree.of_bodySF (plainFor_of_name own_pn5) hisR ?_
  intro p e s m args below meth c s₁ Bd hml0 hP hK
  obtain ⟨rfl, hZ, hh⟩ := hP
  have hx := Bd.exec
  have hby := Bd.bytes
  have hml : c.maxLocals = 4 := hml0
  have hown : s.vm.findClass "java/util/ArrayList" = some m.cls := findClass_of_methodNamed Bd.named
  have hnm := (name_of_methodNamed Bd.named Bd.method).1
  have X0 : Stand p l e ({ frames := 0, cells := 0, slots := 0, locals := 0 } : Room) s m #[(.ref xo), (.ref xe), (.ref xa), (.int (1 : Int32))] below meth c s₁ [] 0 0 := Stand.of_body Bd
  have e0 : s₁.heap = h0 := by rw [← hh, Bd.state]; rfl
  have N0 := Fr.nil n0
  show own_F p e below (fun o U' => ∃ v L, o = .returned v ∧ own_QAd1 Z xo xe xa xm ka y0 h0 n0 v U'.heap L ∧ FrameEnd s o U' L ({ frames := 0, cells := 0, slots := 0, locals := 0 } : Room).cells ({ frames := 0, cells := 0, slots := 0, locals := 0 } : Room).slots) s₁ (entryFrame m #[(.ref xo), (.ref xe), (.ref xa), (.int (1 : Int32))] 4)
  rw [own_efAd1 m xo xe xa]
  refine own_go (T' := s₁) (g' := (mkF m 1 #[.val (.ref xo), .val (.ref xe), .val (.ref xa), .val (.int (1 : Int32))] [(.int (1 : Int32))])) (fun _ k => XS.iloadN X0.here hx rfl (hb hby own_dAd1_0) rfl k) ?_
  refine own_go (T' := s₁) (g' := (mkF m 2 #[.val (.ref xo), .val (.ref xe), .val (.ref xa), .val (.int (1 : Int32))] [(.ref xa), (.int (1 : Int32))])) (fun _ k => XS.aloadN X0.here hx rfl (hb hby own_dAd1_1) rfl rfl k) ?_
  refine own_go (T' := s₁) (g' := (mkF m 3 #[.val (.ref xo), .val (.ref xe), .val (.ref xa), .val (.int (1 : Int32))] [(.int (10 : Int32)), (.int (1 : Int32))])) (fun _ k => own_alen X0 hx hZ e0 Va (g := (mkF m 2 #[.val (.ref xo), .val (.ref xe), .val (.ref xa), .val (.int (1 : Int32))] [(.ref xa), (.int (1 : Int32))])) rfl rfl (hb hby own_dAd1_2) (n := (10 : Int32)) rfl k) ?_
  refine own_go (T' := s₁) (g' := (mkF m 11 #[.val (.ref xo), .val (.ref xe), .val (.ref xa), .val (.int (1 : Int32))] [])) (fun _ k => XS.icmpYes X0.here hx rfl (pc0 := 3) (pc' := 11) rfl (hb hby own_dAd1_3) rfl (feq ((by decide) : ¬ ((1 : Int32) = (10 : Int32)))).2 (by decide) (by decide) k) ?_
  refine own_go (T' := s₁) (g' := (mkF m 12 #[.val (.ref xo), .val (.ref xe), .val (.ref xa), .val (.int (1 : Int32))] [(.ref xa)])) (fun _ k => XS.aloadN X0.here hx rfl (hb hby own_dAd1_11) rfl rfl k) ?_
  refine own_go (T' := s₁) (g' := (mkF m 13 #[.val (.ref xo), .val (.ref xe), .val (.ref xa), .val (.int (1 : Int32))] [(.int (1 : Int32)), (.ref xa)])) (fun _ k => XS.iloadN X0.here hx rfl (hb hby own_dAd1_12) rfl k) ?_
  refine own_go (T' := s₁) (g' := (mkF m 14 #[.val (.ref xo), .val (.ref xe), .val (.ref xa), .val (.int (1 : Int32))] [(.ref xe), (.int (1 : Int32)), (.ref xa)])) (fun _ k => XS.aloadN X0.here hx rfl (hb hby own_dAd1_13) rfl rfl k) ?_
  obtain ⟨T1, h1, X1, e1, V1, W1, st1⟩ := own_aastore X0 hx hZ e0 Va (j := (1 : Int32)) (i := 1) rfl (by decide) (Nat.le_of_ble_eq_true rfl) rfl (own_A.sto Va Ov (Ins.of_exa Ee (hw _ (List.mem_of_getElem? (i := 82) rfl)))) (g := (mkF m 14 #[.val (.ref xo), .val (.ref xe), .val (.ref xa), .val (.int (1 : Int32))] [(.ref xe), (.int (1 : Int32)), (.ref xa)])) rfl rfl (hb hby own_dAd1_14)
  have Va1 : own_A Z h1 xa ka (.object "java/lang/Object") [(.ref y0), (.ref xe), .null, .null, .null, .null, .null, .null, .null, .null] := V1
  have Ek2 := E1.wr W1
  have Fk3 := Fm.other W1 (Or.inl noa)
  have Fk4 := Fe.other W1 (Or.inl noa)
  have Fk5 := Fs.other W1 (Or.inl noa)
  have Ek6 := Ee.wr W1
  have Z1 : n0 ≤ h1.size := Nat.le_trans Z0 (Keep.of_wr W1).1
  have K1 : Keep h0 h1 [xo, xa] := (Keep.refl h0 [xo, xa]).wr W1 (Or.inl (List.mem_of_getElem? (i := 1) rfl))
  have N1 := Fr.snoc X1 N0 ga
  have SK1 : own_SK Z h0 h1 := (own_SK.rf Z h0).wr W1
  refine own_go (T' := T1) (g' := (mkF m 15 #[.val (.ref xo), .val (.ref xe), .val (.ref xa), .val (.int (1 : Int32))] [])) (fun _ k => st1 _ k) ?_
  refine own_go (T' := T1) (g' := (mkF m 16 #[.val (.ref xo), .val (.ref xe), .val (.ref xa), .val (.int (1 : Int32))] [(.ref xo)])) (fun _ k => XS.aloadN X1.here hx rfl (hb hby own_dAd1_15) rfl rfl k) ?_
  refine own_go (T' := T1) (g' := (mkF m 17 #[.val (.ref xo), .val (.ref xe), .val (.ref xa), .val (.int (1 : Int32))] [(.int (1 : Int32)), (.ref xo)])) (fun _ k => XS.iloadN X1.here hx rfl (hb hby own_dAd1_16) rfl k) ?_
  refine own_go (T' := T1) (g' := (mkF m 18 #[.val (.ref xo), .val (.ref xe), .val (.ref xa), .val (.int (1 : Int32))] [(.int (1 : Int32)), (.int (1 : Int32)), (.ref xo)])) (fun _ k => XS.iconst X1.here hx rfl (hb hby own_dAd1_17) k) ?_
  refine own_go (T' := T1) (g' := (mkF m 19 #[.val (.ref xo), .val (.ref xe), .val (.ref xa), .val (.int (1 : Int32))] [(.int (2 : Int32)), (.ref xo)])) (fun _ k => XS.iadd X1.here hx rfl (hb hby own_dAd1_18) rfl k) ?_
  obtain ⟨T7, h7, X7, e7, W7, st7⟩ := putF X1 hx hZ hown (host := "") (Or.inl (hw _ (List.mem_of_getElem? (i := 59) rfl))) Via.refl e1 Fk5 Ek2 (Or.inl (hw _ (List.mem_of_getElem? (i := 60) rfl))) (hw _ (List.mem_of_getElem? (i := 11) rfl)) (ty := .int) (by decide) rfl rfl (g := (mkF m 19 #[.val (.ref xo), .val (.ref xe), .val (.ref xa), .val (.int (1 : Int32))] [(.int (2 : Int32)), (.ref xo)])) rfl rfl (hb hby own_dAd1_19)
  have Fw7 := Fk5.same W7
  have Ek8 := Ek2.wr W7
  have Fk9 := Fk3.other W7 (Or.inr (slot_ne (Or.inl (hw _ (List.mem_of_getElem? (i := 32) rfl))) (Or.inl (hw _ (List.mem_of_getElem? (i := 60) rfl))) (by decide) (t := .int) (t' := .int) (by decide) (by decide)))
  have Fk10 := Fk4.other W7 (Or.inr (slot_ne (Or.inl (hw _ (List.mem_of_getElem? (i := 35) rfl))) (Or.inl (hw _ (List.mem_of_getElem? (i := 60) rfl))) (by decide) (t := (.array (.object "java/lang/Object"))) (t' := .int) (by decide) (by decide)))
  have Ek11 := Ek6.wr W7
  have Vk12 := Va1.other W7 (Ne.symm noa)
  have Z7 : n0 ≤ h7.size := Nat.le_trans Z1 (Keep.of_wr W7).1
  have K7 : Keep h0 h7 [xo, xa] := K1.wr W7 (Or.inl (List.mem_of_getElem? (i := 0) rfl))
  have N7 := Fr.snoc X7 N1 gz
  have SK7 : own_SK Z h0 h7 := SK1.wr W7
  refine own_go (T' := T7) (g' := (mkF m 22 #[.val (.ref xo), .val (.ref xe), .val (.ref xa), .val (.int (1 : Int32))] [])) (fun _ k => st7 _ k) ?_
  obtain ⟨fs, hr, hrun, hended, hW, hsame⟩ := X7.leave (v := none) (fun _ => rfl)
  refine own_end (X7.returnOut hx Bd.returns (hb hby own_dAd1_22) hr) hrun hended ⟨_, _, rfl, (?_ : own_QAd1 Z xo xe xa xm ka y0 h0 n0 _ T7.heap _), ⟨_, rfl⟩, hW, hsame.mono (by decide) (by decide)⟩
  rw [e7]
  exact ⟨rfl, N7, K7, SK7, Ek8, Fk9, Fk10, Fw7, Vk12⟩
theorem own_dA1_0 : decode jdk_38_method_25_code 0 = .ok (.aload_n 0, 1) := by decide +kernel
theorem own_dA1_1 : decode jdk_38_method_25_code 1 = .ok (.dup, 1) := by decide +kernel
theorem own_dA1_2 : decode jdk_38_method_25_code 2 = .ok (.getfield 63, 3) := by decide +kernel
theorem own_dA1_5 : decode jdk_38_method_25_code 5 = .ok (.iconst 1, 1) := by decide +kernel
theorem own_dA1_6 : decode jdk_38_method_25_code 6 = .ok (.iadd, 1) := by decide +kernel
theorem own_dA1_7 : decode jdk_38_method_25_code 7 = .ok (.putfield 63, 3) := by decide +kernel
theorem own_dA1_10 : decode jdk_38_method_25_code 10 = .ok (.aload_n 0, 1) := by decide +kernel
theorem own_dA1_11 : decode jdk_38_method_25_code 11 = .ok (.aload_n 1, 1) := by decide +kernel
theorem own_dA1_12 : decode jdk_38_method_25_code 12 = .ok (.aload_n 0, 1) := by decide +kernel
theorem own_dA1_13 : decode jdk_38_method_25_code 13 = .ok (.getfield 9, 3) := by decide +kernel
theorem own_dA1_16 : decode jdk_38_method_25_code 16 = .ok (.aload_n 0, 1) := by decide +kernel
theorem own_dA1_17 : decode jdk_38_method_25_code 17 = .ok (.getfield 48, 3) := by decide +kernel
theorem own_dA1_20 : decode jdk_38_method_25_code 20 = .ok (.invokevirtual 131, 3) := by decide +kernel
theorem own_dA1_23 : decode jdk_38_method_25_code 23 = .ok (.iconst 1, 1) := by decide +kernel
theorem own_dA1_24 : decode jdk_38_method_25_code 24 = .ok (.ireturn, 1) := by decide +kernel
theorem own_efA1 (m : MethodId) (xo : Addr) (xe : Addr) : entryFrame m #[(.ref xo), (.ref xe)] 2 = mkF m 0 #[.val (.ref xo), .val (.ref xe)] [] := by first | (simp [entryFrame, mkF, argsToLocals, Value.category]; done) | rfl
def own_QA1 (Z : State) (xo : Addr) (xe : Addr) (xm : Int32) (xa : Addr) (ka : ClassId) (y0 : Addr) (h0 : Heap) (n0 : Nat) (v : Option Value) (h : Heap) (L : List Loc) : Prop := v = some (.int (1 : Int32)) ∧ Fr n0 L ∧ Keep h0 h [xo, xa] ∧ own_SK Z h0 h ∧ Exa Z h xo "java/util/ArrayList" ∧ Fld Z h xo "java/util/AbstractList" "modCount" "I" (.int (xm + (1 : Int32))) ∧ Fld Z h xo "java/util/ArrayList" "elementData" "[Ljava/lang/Object;" (.ref xa) ∧ Fld Z h xo "java/util/ArrayList" "size" "I" (.int (2 : Int32)) ∧ own_A Z h xa ka (.object "java/lang/Object") [(.ref y0), (.ref xe), .null, .null, .null, .null, .null, .null, .null, .null]
set_option maxRecDepth 65536 in
set_option maxHeartbeats 40000000 in
theorem own_rA1 (l : Launch) (Z : State) (a0 : Array Value) (hw : ∀ d ∈ tables_1, d.before a0 Z = true) (ws : List Jvm.Cond) (xo : Addr) (xe : Addr) (xm : Int32) (xa : Addr) (ka : ClassId) (y0 : Addr) (h0 : Heap) (n0 : Nat) (Z0 : n0 ≤ h0.size) (E1 : Exa Z h0 xo "java/util/ArrayList") (Fm : Fld Z h0 xo "java/util/AbstractList" "modCount" "I" (.int xm)) (Fe : Fld Z h0 xo "java/util/ArrayList" "elementData" "[Ljava/lang/Object;" (.ref xa)) (Fs : Fld Z h0 xo "java/util/ArrayList" "size" "I" (.int (1 : Int32))) (gz : n0 ≤ xo) (ga : n0 ≤ xa) (noa : xo ≠ xa) (Va : own_A Z h0 xa ka (.object "java/lang/Object") [(.ref y0), .null, .null, .null, .null, .null, .null, .null, .null, .null]) (Ov : Ovr Z ka "java/lang/Object") (Ee : Exa Z h0 xe "com/example/benchlight/benchlight/Bounds$Dimension") :
    MetFree l (⟨"java/util/ArrayList", "add", "(Ljava/lang/Object;)Z"⟩ : MethodName) (head1 (Jvm.Cond.code (⟨"java/util/ArrayList", "add", "(Ljava/lang/Object;)Z"⟩ : MethodName) jdk_38_method_25_code 2 (some .boolean) :: ws) ({ frames := 1, cells := 0, slots := 0, locals := 15 } : Room)) (fun a U => a = #[(.ref xo), (.ref xe)] ∧ Z.Warmed39 U.vm ∧ U.heap = h0) (fun _ _ _ _ _ => True) (fun _ U o U' => ∃ v L, o = .returned v ∧ own_QA1 Z xo xe xm xa ka y0 h0 n0 v U'.heap L ∧ FrameEnd U o U' L ({ frames := 1, cells := 0, slots := 0, locals := 15 } : Room).cells ({ frames := 1, cells := 0, slots := 0, locals := 15 } : Room).slots) := by
  refine MetFree.of_bodySF (plainFor_of_name own_pn5) hisR ?_
  intro p e s m args below meth c s₁ Bd hml0 hP hK
  obtain ⟨rfl, hZ, hh⟩ := hP
  have hx := Bd.exec
  have hby := Bd.bytes
  have hml : c.maxLocals = 2 := hml0
  have hown : s.vm.findClass "java/util/ArrayList" = some m.cls := findClass_of_methodNamed Bd.named
  have hnm := (name_of_methodNamed Bd.named Bd.method).1
  have X0 : Stand p l e ({ frames := 1, cells := 0, slots := 0, locals := 15 } : Room) s m #[(.ref xo), (.ref xe)] below meth c s₁ [] 0 0 := Stand.of_body Bd
  have e0 : s₁.heap = h0 := by rw [← hh, Bd.state]; rfl
  have N0 := Fr.nil n0
  show own_F p e below (fun o U' => ∃ v L, o = .returned v ∧ own_QA1 Z xo xe xm xa ka y0 h0 n0 v U'.heap L ∧ FrameEnd s o U' L ({ frames := 1, cells := 0, slots := 0, locals := 15 } : Room).cells ({ frames := 1, cells := 0, slots := 0, locals := 15 } : Room).slots) s₁ (entryFrame m #[(.ref xo), (.ref xe)] 2)
  rw [own_efA1 m xo xe]
  refine own_go (T' := s₁) (g' := (mkF m 1 #[.val (.ref xo), .val (.ref xe)] [(.ref xo)])) (fun _ k => XS.aloadN X0.here hx rfl (hb hby own_dA1_0) rfl rfl k) ?_
  refine own_go (T' := s₁) (g' := (mkF m 2 #[.val (.ref xo), .val (.ref xe)] [(.ref xo), (.ref xo)])) (fun _ k => XS.dup X0.here hx rfl (hb hby own_dA1_1) rfl rfl k) ?_
  obtain ⟨T1, X1, e1, st1⟩ := getF X0 hx hZ hown (host := "") (Or.inl (hw _ (List.mem_of_getElem? (i := 57) rfl))) (Via.of (hw _ (List.mem_of_getElem? (i := 58) rfl))) e0 Fm (g := (mkF m 2 #[.val (.ref xo), .val (.ref xe)] [(.ref xo), (.ref xo)])) rfl rfl (hb hby own_dA1_2)
  refine own_go (T' := T1) (g' := (mkF m 5 #[.val (.ref xo), .val (.ref xe)] [(.int xm), (.ref xo)])) (fun _ k => st1 _ k) ?_
  refine own_go (T' := T1) (g' := (mkF m 6 #[.val (.ref xo), .val (.ref xe)] [(.int (1 : Int32)), (.int xm), (.ref xo)])) (fun _ k => XS.iconst X1.here hx rfl (hb hby own_dA1_5) k) ?_
  refine own_go (T' := T1) (g' := (mkF m 7 #[.val (.ref xo), .val (.ref xe)] [(.int (xm + (1 : Int32))), (.ref xo)])) (fun _ k => XS.iadd X1.here hx rfl (hb hby own_dA1_6) rfl k) ?_
  obtain ⟨T2, h2, X2, e2, W2, st2⟩ := putF X1 hx hZ hown (host := "") (Or.inl (hw _ (List.mem_of_getElem? (i := 57) rfl))) (Via.of (hw _ (List.mem_of_getElem? (i := 58) rfl))) e1 Fm E1 (Or.inl (hw _ (List.mem_of_getElem? (i := 32) rfl))) (hw _ (List.mem_of_getElem? (i := 11) rfl)) (ty := .int) (by decide) rfl rfl (g := (mkF m 7 #[.val (.ref xo), .val (.ref xe)] [(.int (xm + (1 : Int32))), (.ref xo)])) rfl rfl (hb hby own_dA1_7)
  have Fw2 := Fm.same W2
  have Ek3 := E1.wr W2
  have Fk4 := Fe.other W2 (Or.inr (slot_ne (Or.inl (hw _ (List.mem_of_getElem? (i := 35) rfl))) (Or.inl (hw _ (List.mem_of_getElem? (i := 32) rfl))) (by decide) (t := (.array (.object "java/lang/Object"))) (t' := .int) (by decide) (by decide)))
  have Fk5 := Fs.other W2 (Or.inr (slot_ne (Or.inl (hw _ (List.mem_of_getElem? (i := 60) rfl))) (Or.inl (hw _ (List.mem_of_getElem? (i := 32) rfl))) (by decide) (t := .int) (t' := .int) (by decide) (by decide)))
  have Vk6 := Va.other W2 (Ne.symm noa)
  have Ek7 := Ee.wr W2
  have Z2 : n0 ≤ h2.size := Nat.le_trans Z0 (Keep.of_wr W2).1
  have K2 : Keep h0 h2 [xo, xa] := (Keep.refl h0 [xo, xa]).wr W2 (Or.inl (List.mem_of_getElem? (i := 0) rfl))
  have N2 := Fr.snoc X2 N0 gz
  have SK2 : own_SK Z h0 h2 := (own_SK.rf Z h0).wr W2
  refine own_go (T' := T2) (g' := (mkF m 10 #[.val (.ref xo), .val (.ref xe)] [])) (fun _ k => st2 _ k) ?_
  refine own_go (T' := T2) (g' := (mkF m 11 #[.val (.ref xo), .val (.ref xe)] [(.ref xo)])) (fun _ k => XS.aloadN X2.here hx rfl (hb hby own_dA1_10) rfl rfl k) ?_
  refine own_go (T' := T2) (g' := (mkF m 12 #[.val (.ref xo), .val (.ref xe)] [(.ref xe), (.ref xo)])) (fun _ k => XS.aloadN X2.here hx rfl (hb hby own_dA1_11) rfl rfl k) ?_
  refine own_go (T' := T2) (g' := (mkF m 13 #[.val (.ref xo), .val (.ref xe)] [(.ref xo), (.ref xe), (.ref xo)])) (fun _ k => XS.aloadN X2.here hx rfl (hb hby own_dA1_12) rfl rfl k) ?_
  obtain ⟨T8, X8, e8, st8⟩ := getF X2 hx hZ hown (host := "") (Or.inl (hw _ (List.mem_of_getElem? (i := 34) rfl))) Via.refl e2 Fk4 (g := (mkF m 13 #[.val (.ref xo), .val (.ref xe)] [(.ref xo), (.ref xe), (.ref xo)])) rfl rfl (hb hby own_dA1_13)
  refine own_go (T' := T8) (g' := (mkF m 16 #[.val (.ref xo), .val (.ref xe)] [(.ref xa), (.ref xe), (.ref xo)])) (fun _ k => st8 _ k) ?_
  refine own_go (T' := T8) (g' := (mkF m 17 #[.val (.ref xo), .val (.ref xe)] [(.ref xo), (.ref xa), (.ref xe), (.ref xo)])) (fun _ k => XS.aloadN X8.here hx rfl (hb hby own_dA1_16) rfl rfl k) ?_
  obtain ⟨T9, X9, e9, st9⟩ := getF X8 hx hZ hown (host := "") (Or.inl (hw _ (List.mem_of_getElem? (i := 59) rfl))) Via.refl e8 Fk5 (g := (mkF m 17 #[.val (.ref xo), .val (.ref xe)] [(.ref xo), (.ref xa), (.ref xe), (.ref xo)])) rfl rfl (hb hby own_dA1_17)
  refine own_go (T' := T9) (g' := (mkF m 20 #[.val (.ref xo), .val (.ref xe)] [(.int (1 : Int32)), (.ref xa), (.ref xe), (.ref xo)])) (fun _ k => st9 _ k) ?_
  obtain ⟨cq10, q10, q10'⟩ := Ek3.cell
  obtain ⟨_, _, ⟨T10, L10, k10, n10⟩, -, X10, ⟨Lc10, hQ10, l10, y10, z10⟩, st10⟩ := X9.privateBack hx (y := (⟨"java/util/ArrayList", "add", "(Ljava/lang/Object;[Ljava/lang/Object;I)V"⟩ : MethodName)) hown (mvT hZ (hw _ (List.mem_of_getElem? (i := 61) rfl))) (mvT hZ (hw _ (List.mem_of_getElem? (i := 62) rfl))) (mvT hZ (hw _ (List.mem_of_getElem? (i := 64) rfl))) (Cond.privateMethod_at (mvP hZ (hw _ (List.mem_of_getElem? (i := 63) rfl)) (args := #[]))) (mvT hZ (hw _ (List.mem_of_getElem? (i := 65) rfl))) (by decide) (backOf (W := 0) (own_rAd1 l Z a0 hw [] xo xe xa (xm + (1 : Int32)) ka y0 h2 n0 Z2 Ek3 Fw2 Fk4 Fk5 gz ga noa Vk6 Ov Ek7) hZ (hw _ (List.mem_of_getElem? (i := 65) rfl)) (hw _ (List.mem_of_getElem? (i := 12) rfl)) (by decide) (by decide)) (g := (mkF m 20 #[.val (.ref xo), .val (.ref xe)] [(.int (1 : Int32)), (.ref xa), (.ref xe), (.ref xo)])) rfl (by rw [hml]; rfl) (Steps.refl _) (a := xo) (by rw [e9]; exact q10) q10' (argsL := [(.ref xe), (.ref xa), (.int (1 : Int32))]) (rest := []) (lenOf own_pd6 rfl) rfl (by show 2 * 0 + _ ≤ _; exact Nat.le_of_eq rfl) (hb hby own_dA1_20) (fun _ _ => ⟨rfl, e9, (by decide : 0 + 0 ≤ _), (by decide : 0 + 0 ≤ _)⟩)
  dsimp only [Pt.U, Pt.locs, Pt.cells, Pt.slots] at X10 l10 y10 z10 st10 hQ10
  subst l10 y10 z10
  obtain ⟨rfl, N10q, Kc10, SKc10, Ec10, Fmc10, Fec10, Fsc10, Vc10⟩ := hQ10
  have N10 := Fr.app N2 N10q
  have Ek11 := Ek7.keep Kc10
  have Z10 : n0 ≤ T10.heap.size := Nat.le_trans Z2 Kc10.1
  have SK10 : own_SK Z h0 T10.heap := SK2.tr SKc10
  have K10 : Keep h0 T10.heap [xo, xa] := K2.trans Kc10 (own_or2 (Or.inl (List.mem_of_getElem? (i := 0) rfl)) (Or.inl (List.mem_of_getElem? (i := 1) rfl)))
  refine own_goT (T' := T10) (g' := (mkF m 23 #[.val (.ref xo), .val (.ref xe)] [])) st10 ?_
  refine own_go (T' := T10) (g' := (mkF m 24 #[.val (.ref xo), .val (.ref xe)] [(.int (1 : Int32))])) (fun _ k => XS.iconst X10.here hx rfl (hb hby own_dA1_23) k) ?_
  obtain ⟨fs, hr, hrun, hended, hW, hsame⟩ := X10.leave (v := some (.int (1 : Int32))) (fun h => by rw [Bd.returns] at h; cases h)
  refine own_end (retN X10 hx (t := .boolean) Bd.returns (by simp) (hb hby own_dA1_24) hr) hrun hended ⟨_, _, rfl, (?_ : own_QA1 Z xo xe xm xa ka y0 h0 n0 _ T10.heap _), ⟨_, rfl⟩, hW, hsame.mono (by decide) (by decide)⟩
  exact ⟨rfl, N10, K10, SK10, Ec10, Fmc10, Fec10, Fsc10, Vc10⟩
theorem own_dAd2_0 : decode jdk_38_method_24_code 0 = .ok (.iload_n 3, 1) := by decide +kernel
theorem own_dAd2_1 : decode jdk_38_method_24_code 1 = .ok (.aload_n 2, 1) := by decide +kernel
theorem own_dAd2_2 : decode jdk_38_method_24_code 2 = .ok (.arraylength, 1) := by decide +kernel
theorem own_dAd2_3 : decode jdk_38_method_24_code 3 = .ok (.if_icmp .ne 8, 3) := by decide +kernel
theorem own_dAd2_11 : decode jdk_38_method_24_code 11 = .ok (.aload_n 2, 1) := by decide +kernel
theorem own_dAd2_12 : decode jdk_38_method_24_code 12 = .ok (.iload_n 3, 1) := by decide +kernel
theorem own_dAd2_13 : decode jdk_38_method_24_code 13 = .ok (.aload_n 1, 1) := by decide +kernel
theorem own_dAd2_14 : decode jdk_38_method_24_code 14 = .ok (.aastore, 1) := by decide +kernel
theorem own_dAd2_15 : decode jdk_38_method_24_code 15 = .ok (.aload_n 0, 1) := by decide +kernel
theorem own_dAd2_16 : decode jdk_38_method_24_code 16 = .ok (.iload_n 3, 1) := by decide +kernel
theorem own_dAd2_17 : decode jdk_38_method_24_code 17 = .ok (.iconst 1, 1) := by decide +kernel
theorem own_dAd2_18 : decode jdk_38_method_24_code 18 = .ok (.iadd, 1) := by decide +kernel
theorem own_dAd2_19 : decode jdk_38_method_24_code 19 = .ok (.putfield 48, 3) := by decide +kernel
theorem own_dAd2_22 : decode jdk_38_method_24_code 22 = .ok (.return_, 1) := by decide +kernel
theorem own_efAd2 (m : MethodId) (xo : Addr) (xe : Addr) (xa : Addr) : entryFrame m #[(.ref xo), (.ref xe), (.ref xa), (.int (2 : Int32))] 4 = mkF m 0 #[.val (.ref xo), .val (.ref xe), .val (.ref xa), .val (.int (2 : Int32))] [] := by first | (simp [entryFrame, mkF, argsToLocals, Value.category]; done) | rfl
def own_QAd2 (Z : State) (xo : Addr) (xe : Addr) (xa : Addr) (xm : Int32) (ka : ClassId) (y0 : Addr) (y1 : Addr) (h0 : Heap) (n0 : Nat) (v : Option Value) (h : Heap) (L : List Loc) : Prop := v = none ∧ Fr n0 L ∧ Keep h0 h [xo, xa] ∧ own_SK Z h0 h ∧ Exa Z h xo "java/util/ArrayList" ∧ Fld Z h xo "java/util/AbstractList" "modCount" "I" (.int xm) ∧ Fld Z h xo "java/util/ArrayList" "elementData" "[Ljava/lang/Object;" (.ref xa) ∧ Fld Z h xo "java/util/ArrayList" "size" "I" (.int (3 : Int32)) ∧ own_A Z h xa ka (.object "java/lang/Object") [(.ref y0), (.ref y1), (.ref xe), .null, .null, .null, .null, .null, .null, .null]
set_option maxRecDepth 65536 in
set_option maxHeartbeats 40000000 in
theorem own_rAd2 (l : Launch) (Z : State) (a0 : Array Value) (hw : ∀ d ∈ tables_1, d.before a0 Z = true) (ws : List Jvm.Cond) (xo : Addr) (xe : Addr) (xa : Addr) (xm : Int32) (ka : ClassId) (y0 : Addr) (y1 : Addr) (h0 : Heap) (n0 : Nat) (Z0 : n0 ≤ h0.size) (E1 : Exa Z h0 xo "java/util/ArrayList") (Fm : Fld Z h0 xo "java/util/AbstractList" "modCount" "I" (.int xm)) (Fe : Fld Z h0 xo "java/util/ArrayList" "elementData" "[Ljava/lang/Object;" (.ref xa)) (Fs : Fld Z h0 xo "java/util/ArrayList" "size" "I" (.int (2 : Int32))) (gz : n0 ≤ xo) (ga : n0 ≤ xa) (noa : xo ≠ xa) (Va : own_A Z h0 xa ka (.object "java/lang/Object") [(.ref y0), (.ref y1), .null, .null, .null, .null, .null, .null, .null, .null]) (Ov : Ovr Z ka "java/lang/Object") (Ee : Exa Z h0 xe "com/example/benchlight/benchlight/Bounds$Dimension") :
    MetFree l (⟨"java/util/ArrayList", "add", "(Ljava/lang/Object;[Ljava/lang/Object;I)V"⟩ : MethodName) (head1 (Jvm.Cond.code (⟨"java/util/ArrayList", "add", "(Ljava/lang/Object;[Ljava/lang/Object;I)V"⟩ : MethodName) jdk_38_method_24_code 4 none :: ws) ({ frames := 0, cells := 0, slots := 0, locals := 0 } : Room)) (fun a U => a = #[(.ref xo), (.ref xe), (.ref xa), (.int (2 : Int32))] ∧ Z.Warmed39 U.vm ∧ U.heap = h0) (fun _ _ _ _ _ => True) (fun _ U o U' => ∃ v L, o = .returned v ∧ own_QAd2 Z xo xe xa xm ka y0 y1 h0 n0 v U'.heap L ∧ FrameEnd U o U' L ({ frames := 0, cells := 0, slots := 0, locals := 0 } : Room).cells ({ frames := 0, cells := 0, slots := 0, locals := 0 } : Room).slots) := by
  refine MetFree.of_bodySF (plainFor_of_name own_pn5) hisR ?_
  intro p e s m args below meth c s₁ Bd hml0 hP hK
  obtain ⟨rfl, hZ, hh⟩ := hP
  have hx := Bd.exec
  have hby := Bd.bytes
  have hml : c.maxLocals = 4 := hml0
  have hown : s.vm.findClass "java/util/ArrayList" = some m.cls := findClass_of_methodNamed Bd.named
  have hnm := (name_of_methodNamed Bd.named Bd.method).1
  have X0 : Stand p l e ({ frames := 0, cells := 0, slots := 0, locals := 0 } : Room) s m #[(.ref xo), (.ref xe), (.ref xa), (.int (2 : Int32))] below meth c s₁ [] 0 0 := Stand.of_body Bd
  have e0 : s₁.heap = h0 := by rw [← hh, Bd.state]; rfl
  have N0 := Fr.nil n0
  show own_F p e below (fun o U' => ∃ v L, o = .returned v ∧ own_QAd2 Z xo xe xa xm ka y0 y1 h0 n0 v U'.heap L ∧ FrameEnd s o U' L ({ frames := 0, cells := 0, slots := 0, locals := 0 } : Room).cells ({ frames := 0, cells := 0, slots := 0, locals := 0 } : Room).slots) s₁ (entryFrame m #[(.ref xo), (.ref xe), (.ref xa), (.int (2 : Int32))] 4)
  rw [own_efAd2 m xo xe xa]
  refine own_go (T' := s₁) (g' := (mkF m 1 #[.val (.ref xo), .val (.ref xe), .val (.ref xa), .val (.int (2 : Int32))] [(.int (2 : Int32))])) (fun _ k => XS.iloadN X0.here hx rfl (hb hby own_dAd2_0) rfl k) ?_
  refine own_go (T' := s₁) (g' := (mkF m 2 #[.val (.ref xo), .val (.ref xe), .val (.ref xa), .val (.int (2 : Int32))] [(.ref xa), (.int (2 : Int32))])) (fun _ k => XS.aloadN X0.here hx rfl (hb hby own_dAd2_1) rfl rfl k) ?_
  refine own_go (T' := s₁) (g' := (mkF m 3 #[.val (.ref xo), .val (.ref xe), .val (.ref xa), .val (.int (2 : Int32))] [(.int (10 : Int32)), (.int (2 : Int32))])) (fun _ k => own_alen X0 hx hZ e0 Va (g := (mkF m 2 #[.val (.ref xo), .val (.ref xe), .val (.ref xa), .val (.int (2 : Int32))] [(.ref xa), (.int (2 : Int32))])) rfl rfl (hb hby own_dAd2_2) (n := (10 : Int32)) rfl k) ?_
  refine own_go (T' := s₁) (g' := (mkF m 11 #[.val (.ref xo), .val (.ref xe), .val (.ref xa), .val (.int (2 : Int32))] [])) (fun _ k => XS.icmpYes X0.here hx rfl (pc0 := 3) (pc' := 11) rfl (hb hby own_dAd2_3) rfl (feq ((by decide) : ¬ ((2 : Int32) = (10 : Int32)))).2 (by decide) (by decide) k) ?_
  refine own_go (T' := s₁) (g' := (mkF m 12 #[.val (.ref xo), .val (.ref xe), .val (.ref xa), .val (.int (2 : Int32))] [(.ref xa)])) (fun _ k => XS.aloadN X0.here hx rfl (hb hby own_dAd2_11) rfl rfl k) ?_
  refine own_go (T' := s₁) (g' := (mkF m 13 #[.val (.ref xo), .val (.ref xe), .val (.ref xa), .val (.int (2 : Int32))] [(.int (2 : Int32)), (.ref xa)])) (fun _ k => XS.iloadN X0.here hx rfl (hb hby own_dAd2_12) rfl k) ?_
  refine own_go (T' := s₁) (g' := (mkF m 14 #[.val (.ref xo), .val (.ref xe), .val (.ref xa), .val (.int (2 : Int32))] [(.ref xe), (.int (2 : Int32)), (.ref xa)])) (fun _ k => XS.aloadN X0.here hx rfl (hb hby own_dAd2_13) rfl rfl k) ?_
  obtain ⟨T1, h1, X1, e1, V1, W1, st1⟩ := own_aastore X0 hx hZ e0 Va (j := (2 : Int32)) (i := 2) rfl (by decide) (Nat.le_of_ble_eq_true rfl) rfl (own_A.sto Va Ov (Ins.of_exa Ee (hw _ (List.mem_of_getElem? (i := 82) rfl)))) (g := (mkF m 14 #[.val (.ref xo), .val (.ref xe), .val (.ref xa), .val (.int (2 : Int32))] [(.ref xe), (.int (2 : Int32)), (.ref xa)])) rfl rfl (hb hby own_dAd2_14)
  have Va1 : own_A Z h1 xa ka (.object "java/lang/Object") [(.ref y0), (.ref y1), (.ref xe), .null, .null, .null, .null, .null, .null, .null] := V1
  have Ek2 := E1.wr W1
  have Fk3 := Fm.other W1 (Or.inl noa)
  have Fk4 := Fe.other W1 (Or.inl noa)
  have Fk5 := Fs.other W1 (Or.inl noa)
  have Ek6 := Ee.wr W1
  have Z1 : n0 ≤ h1.size := Nat.le_trans Z0 (Keep.of_wr W1).1
  have K1 : Keep h0 h1 [xo, xa] := (Keep.refl h0 [xo, xa]).wr W1 (Or.inl (List.mem_of_getElem? (i := 1) rfl))
  have N1 := Fr.snoc X1 N0 ga
  have SK1 : own_SK Z h0 h1 := (own_SK.rf Z h0).wr W1
  refine own_go (T' := T1) (g' := (mkF m 15 #[.val (.ref xo), .val (.ref xe), .val (.ref xa), .val (.int (2 : Int32))] [])) (fun _ k => st1 _ k) ?_
  refine own_go (T' := T1) (g' := (mkF m 16 #[.val (.ref xo), .val (.ref xe), .val (.ref xa), .val (.int (2 : Int32))] [(.ref xo)])) (fun _ k => XS.aloadN X1.here hx rfl (hb hby own_dAd2_15) rfl rfl k) ?_
  refine own_go (T' := T1) (g' := (mkF m 17 #[.val (.ref xo), .val (.ref xe), .val (.ref xa), .val (.int (2 : Int32))] [(.int (2 : Int32)), (.ref xo)])) (fun _ k => XS.iloadN X1.here hx rfl (hb hby own_dAd2_16) rfl k) ?_
  refine own_go (T' := T1) (g' := (mkF m 18 #[.val (.ref xo), .val (.ref xe), .val (.ref xa), .val (.int (2 : Int32))] [(.int (1 : Int32)), (.int (2 : Int32)), (.ref xo)])) (fun _ k => XS.iconst X1.here hx rfl (hb hby own_dAd2_17) k) ?_
  refine own_go (T' := T1) (g' := (mkF m 19 #[.val (.ref xo), .val (.ref xe), .val (.ref xa), .val (.int (2 : Int32))] [(.int (3 : Int32)), (.ref xo)])) (fun _ k => XS.iadd X1.here hx rfl (hb hby own_dAd2_18) rfl k) ?_
  obtain ⟨T7, h7, X7, e7, W7, st7⟩ := putF X1 hx hZ hown (host := "") (Or.inl (hw _ (List.mem_of_getElem? (i := 59) rfl))) Via.refl e1 Fk5 Ek2 (Or.inl (hw _ (List.mem_of_getElem? (i := 60) rfl))) (hw _ (List.mem_of_getElem? (i := 11) rfl)) (ty := .int) (by decide) rfl rfl (g := (mkF m 19 #[.val (.ref xo), .val (.ref xe), .val (.ref xa), .val (.int (2 : Int32))] [(.int (3 : Int32)), (.ref xo)])) rfl rfl (hb hby own_dAd2_19)
  have Fw7 := Fk5.same W7
  have Ek8 := Ek2.wr W7
  have Fk9 := Fk3.other W7 (Or.inr (slot_ne (Or.inl (hw _ (List.mem_of_getElem? (i := 32) rfl))) (Or.inl (hw _ (List.mem_of_getElem? (i := 60) rfl))) (by decide) (t := .int) (t' := .int) (by decide) (by decide)))
  have Fk10 := Fk4.other W7 (Or.inr (slot_ne (Or.inl (hw _ (List.mem_of_getElem? (i := 35) rfl))) (Or.inl (hw _ (List.mem_of_getElem? (i := 60) rfl))) (by decide) (t := (.array (.object "java/lang/Object"))) (t' := .int) (by decide) (by decide)))
  have Ek11 := Ek6.wr W7
  have Vk12 := Va1.other W7 (Ne.symm noa)
  have Z7 : n0 ≤ h7.size := Nat.le_trans Z1 (Keep.of_wr W7).1
  have K7 : Keep h0 h7 [xo, xa] := K1.wr W7 (Or.inl (List.mem_of_getElem? (i := 0) rfl))
  have N7 := Fr.snoc X7 N1 gz
  have SK7 : own_SK Z h0 h7 := SK1.wr W7
  refine own_go (T' := T7) (g' := (mkF m 22 #[.val (.ref xo), .val (.ref xe), .val (.ref xa), .val (.int (2 : Int32))] [])) (fun _ k => st7 _ k) ?_
  obtain ⟨fs, hr, hrun, hended, hW, hsame⟩ := X7.leave (v := none) (fun _ => rfl)
  refine own_end (X7.returnOut hx Bd.returns (hb hby own_dAd2_22) hr) hrun hended ⟨_, _, rfl, (?_ : own_QAd2 Z xo xe xa xm ka y0 y1 h0 n0 _ T7.heap _), ⟨_, rfl⟩, hW, hsame.mono (by decide) (by decide)⟩
  rw [e7]
  exact ⟨rfl, N7, K7, SK7, Ek8, Fk9, Fk10, Fw7, Vk12⟩
theorem own_dA2_0 : decode jdk_38_method_25_code 0 = .ok (.aload_n 0, 1) := by decide +kernel
theorem own_dA2_1 : decode jdk_38_method_25_code 1 = .ok (.dup, 1) := by decide +kernel
theorem own_dA2_2 : decode jdk_38_method_25_code 2 = .ok (.getfield 63, 3) := by decide +kernel
theorem own_dA2_5 : decode jdk_38_method_25_code 5 = .ok (.iconst 1, 1) := by decide +kernel
theorem own_dA2_6 : decode jdk_38_method_25_code 6 = .ok (.iadd, 1) := by decide +kernel
theorem own_dA2_7 : decode jdk_38_method_25_code 7 = .ok (.putfield 63, 3) := by decide +kernel
theorem own_dA2_10 : decode jdk_38_method_25_code 10 = .ok (.aload_n 0, 1) := by decide +kernel
theorem own_dA2_11 : decode jdk_38_method_25_code 11 = .ok (.aload_n 1, 1) := by decide +kernel
theorem own_dA2_12 : decode jdk_38_method_25_code 12 = .ok (.aload_n 0, 1) := by decide +kernel
theorem own_dA2_13 : decode jdk_38_method_25_code 13 = .ok (.getfield 9, 3) := by decide +kernel
theorem own_dA2_16 : decode jdk_38_method_25_code 16 = .ok (.aload_n 0, 1) := by decide +kernel
theorem own_dA2_17 : decode jdk_38_method_25_code 17 = .ok (.getfield 48, 3) := by decide +kernel
theorem own_dA2_20 : decode jdk_38_method_25_code 20 = .ok (.invokevirtual 131, 3) := by decide +kernel
theorem own_dA2_23 : decode jdk_38_method_25_code 23 = .ok (.iconst 1, 1) := by decide +kernel
theorem own_dA2_24 : decode jdk_38_method_25_code 24 = .ok (.ireturn, 1) := by decide +kernel
theorem own_efA2 (m : MethodId) (xo : Addr) (xe : Addr) : entryFrame m #[(.ref xo), (.ref xe)] 2 = mkF m 0 #[.val (.ref xo), .val (.ref xe)] [] := by first | (simp [entryFrame, mkF, argsToLocals, Value.category]; done) | rfl
def own_QA2 (Z : State) (xo : Addr) (xe : Addr) (xm : Int32) (xa : Addr) (ka : ClassId) (y0 : Addr) (y1 : Addr) (h0 : Heap) (n0 : Nat) (v : Option Value) (h : Heap) (L : List Loc) : Prop := v = some (.int (1 : Int32)) ∧ Fr n0 L ∧ Keep h0 h [xo, xa] ∧ own_SK Z h0 h ∧ Exa Z h xo "java/util/ArrayList" ∧ Fld Z h xo "java/util/AbstractList" "modCount" "I" (.int (xm + (1 : Int32))) ∧ Fld Z h xo "java/util/ArrayList" "elementData" "[Ljava/lang/Object;" (.ref xa) ∧ Fld Z h xo "java/util/ArrayList" "size" "I" (.int (3 : Int32)) ∧ own_A Z h xa ka (.object "java/lang/Object") [(.ref y0), (.ref y1), (.ref xe), .null, .null, .null, .null, .null, .null, .null]
set_option maxRecDepth 65536 in
set_option maxHeartbeats 40000000 in
theorem own_rA2 (l : Launch) (Z : State) (a0 : Array Value) (hw : ∀ d ∈ tables_1, d.before a0 Z = true) (ws : List Jvm.Cond) (xo : Addr) (xe : Addr) (xm : Int32) (xa : Addr) (ka : ClassId) (y0 : Addr) (y1 : Addr) (h0 : Heap) (n0 : Nat) (Z0 : n0 ≤ h0.size) (E1 : Exa Z h0 xo "java/util/ArrayList") (Fm : Fld Z h0 xo "java/util/AbstractList" "modCount" "I" (.int xm)) (Fe : Fld Z h0 xo "java/util/ArrayList" "elementData" "[Ljava/lang/Object;" (.ref xa)) (Fs : Fld Z h0 xo "java/util/ArrayList" "size" "I" (.int (2 : Int32))) (gz : n0 ≤ xo) (ga : n0 ≤ xa) (noa : xo ≠ xa) (Va : own_A Z h0 xa ka (.object "java/lang/Object") [(.ref y0), (.ref y1), .null, .null, .null, .null, .null, .null, .null, .null]) (Ov : Ovr Z ka "java/lang/Object") (Ee : Exa Z h0 xe "com/example/benchlight/benchlight/Bounds$Dimension") :
    MetFree l (⟨"java/util/ArrayList", "add", "(Ljava/lang/Object;)Z"⟩ : MethodName) (head1 (Jvm.Cond.code (⟨"java/util/ArrayList", "add", "(Ljava/lang/Object;)Z"⟩ : MethodName) jdk_38_method_25_code 2 (some .boolean) :: ws) ({ frames := 1, cells := 0, slots := 0, locals := 15 } : Room)) (fun a U => a = #[(.ref xo), (.ref xe)] ∧ Z.Warmed39 U.vm ∧ U.heap = h0) (fun _ _ _ _ _ => True) (fun _ U o U' => ∃ v L, o = .returned v ∧ own_QA2 Z xo xe xm xa ka y0 y1 h0 n0 v U'.heap L ∧ FrameEnd U o U' L ({ frames := 1, cells := 0, slots := 0, locals := 15 } : Room).cells ({ frames := 1, cells := 0, slots := 0, locals := 15 } : Room).slots) := by
  refine MetFree.of_bodySF (plainFor_of_name own_pn5) hisR ?_
  intro p e s m args below meth c s₁ Bd hml0 hP hK
  obtain ⟨rfl, hZ, hh⟩ := hP
  have hx := Bd.exec
  have hby := Bd.bytes
  have hml : c.maxLocals = 2 := hml0
  have hown : s.vm.findClass "java/util/ArrayList" = some m.cls := findClass_of_methodNamed Bd.named
  have hnm := (name_of_methodNamed Bd.named Bd.method).1
  have X0 : Stand p l e ({ frames := 1, cells := 0, slots := 0, locals := 15 } : Room) s m #[(.ref xo), (.ref xe)] below meth c s₁ [] 0 0 := Stand.of_body Bd
  have e0 : s₁.heap = h0 := by rw [← hh, Bd.state]; rfl
  have N0 := Fr.nil n0
  show own_F p e below (fun o U' => ∃ v L, o = .returned v ∧ own_QA2 Z xo xe xm xa ka y0 y1 h0 n0 v U'.heap L ∧ FrameEnd s o U' L ({ frames := 1, cells := 0, slots := 0, locals := 15 } : Room).cells ({ frames := 1, cells := 0, slots := 0, locals := 15 } : Room).slots) s₁ (entryFrame m #[(.ref xo), (.ref xe)] 2)
  rw [own_efA2 m xo xe]
  refine own_go (T' := s₁) (g' := (mkF m 1 #[.val (.ref xo), .val (.ref xe)] [(.ref xo)])) (fun _ k => XS.aloadN X0.here hx rfl (hb hby own_dA2_0) rfl rfl k) ?_
  refine own_go (T' := s₁) (g' := (mkF m 2 #[.val (.ref xo), .val (.ref xe)] [(.ref xo), (.ref xo)])) (fun _ k => XS.dup X0.here hx rfl (hb hby own_dA2_1) rfl rfl k) ?_
  obtain ⟨T1, X1, e1, st1⟩ := getF X0 hx hZ hown (host := "") (Or.inl (hw _ (List.mem_of_getElem? (i := 57) rfl))) (Via.of (hw _ (List.mem_of_getElem? (i := 58) rfl))) e0 Fm (g := (mkF m 2 #[.val (.ref xo), .val (.ref xe)] [(.ref xo), (.ref xo)])) rfl rfl (hb hby own_dA2_2)
  refine own_go (T' := T1) (g' := (mkF m 5 #[.val (.ref xo), .val (.ref xe)] [(.int xm), (.ref xo)])) (fun _ k => st1 _ k) ?_
  refine own_go (T' := T1) (g' := (mkF m 6 #[.val (.ref xo), .val (.ref xe)] [(.int (1 : Int32)), (.int xm), (.ref xo)])) (fun _ k => XS.iconst X1.here hx rfl (hb hby own_dA2_5) k) ?_
  refine own_go (T' := T1) (g' := (mkF m 7 #[.val (.ref xo), .val (.ref xe)] [(.int (xm + (1 : Int32))), (.ref xo)])) (fun _ k => XS.iadd X1.here hx rfl (hb hby own_dA2_6) rfl k) ?_
  obtain ⟨T2, h2, X2, e2, W2, st2⟩ := putF X1 hx hZ hown (host := "") (Or.inl (hw _ (List.mem_of_getElem? (i := 57) rfl))) (Via.of (hw _ (List.mem_of_getElem? (i := 58) rfl))) e1 Fm E1 (Or.inl (hw _ (List.mem_of_getElem? (i := 32) rfl))) (hw _ (List.mem_of_getElem? (i := 11) rfl)) (ty := .int) (by decide) rfl rfl (g := (mkF m 7 #[.val (.ref xo), .val (.ref xe)] [(.int (xm + (1 : Int32))), (.ref xo)])) rfl rfl (hb hby own_dA2_7)
  have Fw2 := Fm.same W2
  have Ek3 := E1.wr W2
  have Fk4 := Fe.other W2 (Or.inr (slot_ne (Or.inl (hw _ (List.mem_of_getElem? (i := 35) rfl))) (Or.inl (hw _ (List.mem_of_getElem? (i := 32) rfl))) (by decide) (t := (.array (.object "java/lang/Object"))) (t' := .int) (by decide) (by decide)))
  have Fk5 := Fs.other W2 (Or.inr (slot_ne (Or.inl (hw _ (List.mem_of_getElem? (i := 60) rfl))) (Or.inl (hw _ (List.mem_of_getElem? (i := 32) rfl))) (by decide) (t := .int) (t' := .int) (by decide) (by decide)))
  have Vk6 := Va.other W2 (Ne.symm noa)
  have Ek7 := Ee.wr W2
  have Z2 : n0 ≤ h2.size := Nat.le_trans Z0 (Keep.of_wr W2).1
  have K2 : Keep h0 h2 [xo, xa] := (Keep.refl h0 [xo, xa]).wr W2 (Or.inl (List.mem_of_getElem? (i := 0) rfl))
  have N2 := Fr.snoc X2 N0 gz
  have SK2 : own_SK Z h0 h2 := (own_SK.rf Z h0).wr W2
  refine own_go (T' := T2) (g' := (mkF m 10 #[.val (.ref xo), .val (.ref xe)] [])) (fun _ k => st2 _ k) ?_
  refine own_go (T' := T2) (g' := (mkF m 11 #[.val (.ref xo), .val (.ref xe)] [(.ref xo)])) (fun _ k => XS.aloadN X2.here hx rfl (hb hby own_dA2_10) rfl rfl k) ?_
  refine own_go (T' := T2) (g' := (mkF m 12 #[.val (.ref xo), .val (.ref xe)] [(.ref xe), (.ref xo)])) (fun _ k => XS.aloadN X2.here hx rfl (hb hby own_dA2_11) rfl rfl k) ?_
  refine own_go (T' := T2) (g' := (mkF m 13 #[.val (.ref xo), .val (.ref xe)] [(.ref xo), (.ref xe), (.ref xo)])) (fun _ k => XS.aloadN X2.here hx rfl (hb hby own_dA2_12) rfl rfl k) ?_
  obtain ⟨T8, X8, e8, st8⟩ := getF X2 hx hZ hown (host := "") (Or.inl (hw _ (List.mem_of_getElem? (i := 34) rfl))) Via.refl e2 Fk4 (g := (mkF m 13 #[.val (.ref xo), .val (.ref xe)] [(.ref xo), (.ref xe), (.ref xo)])) rfl rfl (hb hby own_dA2_13)
  refine own_go (T' := T8) (g' := (mkF m 16 #[.val (.ref xo), .val (.ref xe)] [(.ref xa), (.ref xe), (.ref xo)])) (fun _ k => st8 _ k) ?_
  refine own_go (T' := T8) (g' := (mkF m 17 #[.val (.ref xo), .val (.ref xe)] [(.ref xo), (.ref xa), (.ref xe), (.ref xo)])) (fun _ k => XS.aloadN X8.here hx rfl (hb hby own_dA2_16) rfl rfl k) ?_
  obtain ⟨T9, X9, e9, st9⟩ := getF X8 hx hZ hown (host := "") (Or.inl (hw _ (List.mem_of_getElem? (i := 59) rfl))) Via.refl e8 Fk5 (g := (mkF m 17 #[.val (.ref xo), .val (.ref xe)] [(.ref xo), (.ref xa), (.ref xe), (.ref xo)])) rfl rfl (hb hby own_dA2_17)
  refine own_go (T' := T9) (g' := (mkF m 20 #[.val (.ref xo), .val (.ref xe)] [(.int (2 : Int32)), (.ref xa), (.ref xe), (.ref xo)])) (fun _ k => st9 _ k) ?_
  obtain ⟨cq10, q10, q10'⟩ := Ek3.cell
  obtain ⟨_, _, ⟨T10, L10, k10, n10⟩, -, X10, ⟨Lc10, hQ10, l10, y10, z10⟩, st10⟩ := X9.privateBack hx (y := (⟨"java/util/ArrayList", "add", "(Ljava/lang/Object;[Ljava/lang/Object;I)V"⟩ : MethodName)) hown (mvT hZ (hw _ (List.mem_of_getElem? (i := 61) rfl))) (mvT hZ (hw _ (List.mem_of_getElem? (i := 62) rfl))) (mvT hZ (hw _ (List.mem_of_getElem? (i := 64) rfl))) (Cond.privateMethod_at (mvP hZ (hw _ (List.mem_of_getElem? (i := 63) rfl)) (args := #[]))) (mvT hZ (hw _ (List.mem_of_getElem? (i := 65) rfl))) (by decide) (backOf (W := 0) (own_rAd2 l Z a0 hw [] xo xe xa (xm + (1 : Int32)) ka y0 y1 h2 n0 Z2 Ek3 Fw2 Fk4 Fk5 gz ga noa Vk6 Ov Ek7) hZ (hw _ (List.mem_of_getElem? (i := 65) rfl)) (hw _ (List.mem_of_getElem? (i := 12) rfl)) (by decide) (by decide)) (g := (mkF m 20 #[.val (.ref xo), .val (.ref xe)] [(.int (2 : Int32)), (.ref xa), (.ref xe), (.ref xo)])) rfl (by rw [hml]; rfl) (Steps.refl _) (a := xo) (by rw [e9]; exact q10) q10' (argsL := [(.ref xe), (.ref xa), (.int (2 : Int32))]) (rest := []) (lenOf own_pd6 rfl) rfl (by show 2 * 0 + _ ≤ _; exact Nat.le_of_eq rfl) (hb hby own_dA2_20) (fun _ _ => ⟨rfl, e9, (by decide : 0 + 0 ≤ _), (by decide : 0 + 0 ≤ _)⟩)
  dsimp only [Pt.U, Pt.locs, Pt.cells, Pt.slots] at X10 l10 y10 z10 st10 hQ10
  subst l10 y10 z10
  obtain ⟨rfl, N10q, Kc10, SKc10, Ec10, Fmc10, Fec10, Fsc10, Vc10⟩ := hQ10
  have N10 := Fr.app N2 N10q
  have Ek11 := Ek7.keep Kc10
  have Z10 : n0 ≤ T10.heap.size := Nat.le_trans Z2 Kc10.1
  have SK10 : own_SK Z h0 T10.heap := SK2.tr SKc10
  have K10 : Keep h0 T10.heap [xo, xa] := K2.trans Kc10 (own_or2 (Or.inl (List.mem_of_getElem? (i := 0) rfl)) (Or.inl (List.mem_of_getElem? (i := 1) rfl)))
  refine own_goT (T' := T10) (g' := (mkF m 23 #[.val (.ref xo), .val (.ref xe)] [])) st10 ?_
  refine own_go (T' := T10) (g' := (mkF m 24 #[.val (.ref xo), .val (.ref xe)] [(.int (1 : Int32))])) (fun _ k => XS.iconst X10.here hx rfl (hb hby own_dA2_23) k) ?_
  obtain ⟨fs, hr, hrun, hended, hW, hsame⟩ := X10.leave (v := some (.int (1 : Int32))) (fun h => by rw [Bd.returns] at h; cases h)
  refine own_end (retN X10 hx (t := .boolean) Bd.returns (by simp) (hb hby own_dA2_24) hr) hrun hended ⟨_, _, rfl, (?_ : own_QA2 Z xo xe xm xa ka y0 y1 h0 n0 _ T10.heap _), ⟨_, rfl⟩, hW, hsame.mono (by decide) (by decide)⟩
  exact ⟨rfl, N10, K10, SK10, Ec10, Fmc10, Fec10, Fsc10, Vc10⟩
theorem own_dAd3_0 : decode jdk_38_method_24_code 0 = .ok (.iload_n 3, 1) := by decide +kernel
theorem own_dAd3_1 : decode jdk_38_method_24_code 1 = .ok (.aload_n 2, 1) := by decide +kernel
theorem own_dAd3_2 : decode jdk_38_method_24_code 2 = .ok (.arraylength, 1) := by decide +kernel
theorem own_dAd3_3 : decode jdk_38_method_24_code 3 = .ok (.if_icmp .ne 8, 3) := by decide +kernel
theorem own_dAd3_11 : decode jdk_38_method_24_code 11 = .ok (.aload_n 2, 1) := by decide +kernel
theorem own_dAd3_12 : decode jdk_38_method_24_code 12 = .ok (.iload_n 3, 1) := by decide +kernel
theorem own_dAd3_13 : decode jdk_38_method_24_code 13 = .ok (.aload_n 1, 1) := by decide +kernel
theorem own_dAd3_14 : decode jdk_38_method_24_code 14 = .ok (.aastore, 1) := by decide +kernel
theorem own_dAd3_15 : decode jdk_38_method_24_code 15 = .ok (.aload_n 0, 1) := by decide +kernel
theorem own_dAd3_16 : decode jdk_38_method_24_code 16 = .ok (.iload_n 3, 1) := by decide +kernel
theorem own_dAd3_17 : decode jdk_38_method_24_code 17 = .ok (.iconst 1, 1) := by decide +kernel
theorem own_dAd3_18 : decode jdk_38_method_24_code 18 = .ok (.iadd, 1) := by decide +kernel
theorem own_dAd3_19 : decode jdk_38_method_24_code 19 = .ok (.putfield 48, 3) := by decide +kernel
theorem own_dAd3_22 : decode jdk_38_method_24_code 22 = .ok (.return_, 1) := by decide +kernel
theorem own_efAd3 (m : MethodId) (xo : Addr) (xe : Addr) (xa : Addr) : entryFrame m #[(.ref xo), (.ref xe), (.ref xa), (.int (3 : Int32))] 4 = mkF m 0 #[.val (.ref xo), .val (.ref xe), .val (.ref xa), .val (.int (3 : Int32))] [] := by first | (simp [entryFrame, mkF, argsToLocals, Value.category]; done) | rfl
def own_QAd3 (Z : State) (xo : Addr) (xe : Addr) (xa : Addr) (xm : Int32) (ka : ClassId) (y0 : Addr) (y1 : Addr) (y2 : Addr) (h0 : Heap) (n0 : Nat) (v : Option Value) (h : Heap) (L : List Loc) : Prop := v = none ∧ Fr n0 L ∧ Keep h0 h [xo, xa] ∧ own_SK Z h0 h ∧ Exa Z h xo "java/util/ArrayList" ∧ Fld Z h xo "java/util/AbstractList" "modCount" "I" (.int xm) ∧ Fld Z h xo "java/util/ArrayList" "elementData" "[Ljava/lang/Object;" (.ref xa) ∧ Fld Z h xo "java/util/ArrayList" "size" "I" (.int (4 : Int32)) ∧ own_A Z h xa ka (.object "java/lang/Object") [(.ref y0), (.ref y1), (.ref y2), (.ref xe), .null, .null, .null, .null, .null, .null]
set_option maxRecDepth 65536 in
set_option maxHeartbeats 40000000 in
theorem own_rAd3 (l : Launch) (Z : State) (a0 : Array Value) (hw : ∀ d ∈ tables_1, d.before a0 Z = true) (ws : List Jvm.Cond) (xo : Addr) (xe : Addr) (xa : Addr) (xm : Int32) (ka : ClassId) (y0 : Addr) (y1 : Addr) (y2 : Addr) (h0 : Heap) (n0 : Nat) (Z0 : n0 ≤ h0.size) (E1 : Exa Z h0 xo "java/util/ArrayList") (Fm : Fld Z h0 xo "java/util/AbstractList" "modCount" "I" (.int xm)) (Fe : Fld Z h0 xo "java/util/ArrayList" "elementData" "[Ljava/lang/Object;" (.ref xa)) (Fs : Fld Z h0 xo "java/util/ArrayList" "size" "I" (.int (3 : Int32))) (gz : n0 ≤ xo) (ga : n0 ≤ xa) (noa : xo ≠ xa) (Va : own_A Z h0 xa ka (.object "java/lang/Object") [(.ref y0), (.ref y1), (.ref y2), .null, .null, .null, .null, .null, .null, .null]) (Ov : Ovr Z ka "java/lang/Object") (Ee : Exa Z h0 xe "com/example/benchlight/benchlight/Bounds$Dimension") :
    MetFree l (⟨"java/util/ArrayList", "add", "(Ljava/lang/Object;[Ljava/lang/Object;I)V"⟩ : MethodName) (head1 (Jvm.Cond.code (⟨"java/util/ArrayList", "add", "(Ljava/lang/Object;[Ljava/lang/Object;I)V"⟩ : MethodName) jdk_38_method_24_code 4 none :: ws) ({ frames := 0, cells := 0, slots := 0, locals := 0 } : Room)) (fun a U => a = #[(.ref xo), (.ref xe), (.ref xa), (.int (3 : Int32))] ∧ Z.Warmed39 U.vm ∧ U.heap = h0) (fun _ _ _ _ _ => True) (fun _ U o U' => ∃ v L, o = .returned v ∧ own_QAd3 Z xo xe xa xm ka y0 y1 y2 h0 n0 v U'.heap L ∧ FrameEnd U o U' L ({ frames := 0, cells := 0, slots := 0, locals := 0 } : Room).cells ({ frames := 0, cells := 0, slots := 0, locals := 0 } : Room).slots) := by
  refine MetFree.of_bodySF (plainFor_of_name own_pn5) hisR ?_
  intro p e s m args below meth c s₁ Bd hml0 hP hK
  obtain ⟨rfl, hZ, hh⟩ := hP
  have hx := Bd.exec
  have hby := Bd.bytes
  have hml : c.maxLocals = 4 := hml0
  have hown : s.vm.findClass "java/util/ArrayList" = some m.cls := findClass_of_methodNamed Bd.named
  have hnm := (name_of_methodNamed Bd.named Bd.method).1
  have X0 : Stand p l e ({ frames := 0, cells := 0, slots := 0, locals := 0 } : Room) s m #[(.ref xo), (.ref xe), (.ref xa), (.int (3 : Int32))] below meth c s₁ [] 0 0 := Stand.of_body Bd
  have e0 : s₁.heap = h0 := by rw [← hh, Bd.state]; rfl
  have N0 := Fr.nil n0
  show own_F p e below (fun o U' => ∃ v L, o = .returned v ∧ own_QAd3 Z xo xe xa xm ka y0 y1 y2 h0 n0 v U'.heap L ∧ FrameEnd s o U' L ({ frames := 0, cells := 0, slots := 0, locals := 0 } : Room).cells ({ frames := 0, cells := 0, slots := 0, locals := 0 } : Room).slots) s₁ (entryFrame m #[(.ref xo), (.ref xe), (.ref xa), (.int (3 : Int32))] 4)
  rw [own_efAd3 m xo xe xa]
  refine own_go (T' := s₁) (g' := (mkF m 1 #[.val (.ref xo), .val (.ref xe), .val (.ref xa), .val (.int (3 : Int32))] [(.int (3 : Int32))])) (fun _ k => XS.iloadN X0.here hx rfl (hb hby own_dAd3_0) rfl k) ?_
  refine own_go (T' := s₁) (g' := (mkF m 2 #[.val (.ref xo), .val (.ref xe), .val (.ref xa), .val (.int (3 : Int32))] [(.ref xa), (.int (3 : Int32))])) (fun _ k => XS.aloadN X0.here hx rfl (hb hby own_dAd3_1) rfl rfl k) ?_
  refine own_go (T' := s₁) (g' := (mkF m 3 #[.val (.ref xo), .val (.ref xe), .val (.ref xa), .val (.int (3 : Int32))] [(.int (10 : Int32)), (.int (3 : Int32))])) (fun _ k => own_alen X0 hx hZ e0 Va (g := (mkF m 2 #[.val (.ref xo), .val (.ref xe), .val (.ref xa), .val (.int (3 : Int32))] [(.ref xa), (.int (3 : Int32))])) rfl rfl (hb hby own_dAd3_2) (n := (10 : Int32)) rfl k) ?_
  refine own_go (T' := s₁) (g' := (mkF m 11 #[.val (.ref xo), .val (.ref xe), .val (.ref xa), .val (.int (3 : Int32))] [])) (fun _ k => XS.icmpYes X0.here hx rfl (pc0 := 3) (pc' := 11) rfl (hb hby own_dAd3_3) rfl (feq ((by decide) : ¬ ((3 : Int32) = (10 : Int32)))).2 (by decide) (by decide) k) ?_
  refine own_go (T' := s₁) (g' := (mkF m 12 #[.val (.ref xo), .val (.ref xe), .val (.ref xa), .val (.int (3 : Int32))] [(.ref xa)])) (fun _ k => XS.aloadN X0.here hx rfl (hb hby own_dAd3_11) rfl rfl k) ?_
  refine own_go (T' := s₁) (g' := (mkF m 13 #[.val (.ref xo), .val (.ref xe), .val (.ref xa), .val (.int (3 : Int32))] [(.int (3 : Int32)), (.ref xa)])) (fun _ k => XS.iloadN X0.here hx rfl (hb hby own_dAd3_12) rfl k) ?_
  refine own_go (T' := s₁) (g' := (mkF m 14 #[.val (.ref xo), .val (.ref xe), .val (.ref xa), .val (.int (3 : Int32))] [(.ref xe), (.int (3 : Int32)), (.ref xa)])) (fun _ k => XS.aloadN X0.here hx rfl (hb hby own_dAd3_13) rfl rfl k) ?_
  obtain ⟨T1, h1, X1, e1, V1, W1, st1⟩ := own_aastore X0 hx hZ e0 Va (j := (3 : Int32)) (i := 3) rfl (by decide) (Nat.le_of_ble_eq_true rfl) rfl (own_A.sto Va Ov (Ins.of_exa Ee (hw _ (List.mem_of_getElem? (i := 82) rfl)))) (g := (mkF m 14 #[.val (.ref xo), .val (.ref xe), .val (.ref xa), .val (.int (3 : Int32))] [(.ref xe), (.int (3 : Int32)), (.ref xa)])) rfl rfl (hb hby own_dAd3_14)
  have Va1 : own_A Z h1 xa ka (.object "java/lang/Object") [(.ref y0), (.ref y1), (.ref y2), (.ref xe), .null, .null, .null, .null, .null, .null] := V1
  have Ek2 := E1.wr W1
  have Fk3 := Fm.other W1 (Or.inl noa)
  have Fk4 := Fe.other W1 (Or.inl noa)
  have Fk5 := Fs.other W1 (Or.inl noa)
  have Ek6 := Ee.wr W1
  have Z1 : n0 ≤ h1.size := Nat.le_trans Z0 (Keep.of_wr W1).1
  have K1 : Keep h0 h1 [xo, xa] := (Keep.refl h0 [xo, xa]).wr W1 (Or.inl (List.mem_of_getElem? (i := 1) rfl))
  have N1 := Fr.snoc X1 N0 ga
  have SK1 : own_SK Z h0 h1 := (own_SK.rf Z h0).wr W1
  refine own_go (T' := T1) (g' := (mkF m 15 #[.val (.ref xo), .val (.ref xe), .val (.ref xa), .val (.int (3 : Int32))] [])) (fun _ k => st1 _ k) ?_
  refine own_go (T' := T1) (g' := (mkF m 16 #[.val (.ref xo), .val (.ref xe), .val (.ref xa), .val (.int (3 : Int32))] [(.ref xo)])) (fun _ k => XS.aloadN X1.here hx rfl (hb hby own_dAd3_15) rfl rfl k) ?_
  refine own_go (T' := T1) (g' := (mkF m 17 #[.val (.ref xo), .val (.ref xe), .val (.ref xa), .val (.int (3 : Int32))] [(.int (3 : Int32)), (.ref xo)])) (fun _ k => XS.iloadN X1.here hx rfl (hb hby own_dAd3_16) rfl k) ?_
  refine own_go (T' := T1) (g' := (mkF m 18 #[.val (.ref xo), .val (.ref xe), .val (.ref xa), .val (.int (3 : Int32))] [(.int (1 : Int32)), (.int (3 : Int32)), (.ref xo)])) (fun _ k => XS.iconst X1.here hx rfl (hb hby own_dAd3_17) k) ?_
  refine own_go (T' := T1) (g' := (mkF m 19 #[.val (.ref xo), .val (.ref xe), .val (.ref xa), .val (.int (3 : Int32))] [(.int (4 : Int32)), (.ref xo)])) (fun _ k => XS.iadd X1.here hx rfl (hb hby own_dAd3_18) rfl k) ?_
  obtain ⟨T7, h7, X7, e7, W7, st7⟩ := putF X1 hx hZ hown (host := "") (Or.inl (hw _ (List.mem_of_getElem? (i := 59) rfl))) Via.refl e1 Fk5 Ek2 (Or.inl (hw _ (List.mem_of_getElem? (i := 60) rfl))) (hw _ (List.mem_of_getElem? (i := 11) rfl)) (ty := .int) (by decide) rfl rfl (g := (mkF m 19 #[.val (.ref xo), .val (.ref xe), .val (.ref xa), .val (.int (3 : Int32))] [(.int (4 : Int32)), (.ref xo)])) rfl rfl (hb hby own_dAd3_19)
  have Fw7 := Fk5.same W7
  have Ek8 := Ek2.wr W7
  have Fk9 := Fk3.other W7 (Or.inr (slot_ne (Or.inl (hw _ (List.mem_of_getElem? (i := 32) rfl))) (Or.inl (hw _ (List.mem_of_getElem? (i := 60) rfl))) (by decide) (t := .int) (t' := .int) (by decide) (by decide)))
  have Fk10 := Fk4.other W7 (Or.inr (slot_ne (Or.inl (hw _ (List.mem_of_getElem? (i := 35) rfl))) (Or.inl (hw _ (List.mem_of_getElem? (i := 60) rfl))) (by decide) (t := (.array (.object "java/lang/Object"))) (t' := .int) (by decide) (by decide)))
  have Ek11 := Ek6.wr W7
  have Vk12 := Va1.other W7 (Ne.symm noa)
  have Z7 : n0 ≤ h7.size := Nat.le_trans Z1 (Keep.of_wr W7).1
  have K7 : Keep h0 h7 [xo, xa] := K1.wr W7 (Or.inl (List.mem_of_getElem? (i := 0) rfl))
  have N7 := Fr.snoc X7 N1 gz
  have SK7 : own_SK Z h0 h7 := SK1.wr W7
  refine own_go (T' := T7) (g' := (mkF m 22 #[.val (.ref xo), .val (.ref xe), .val (.ref xa), .val (.int (3 : Int32))] [])) (fun _ k => st7 _ k) ?_
  obtain ⟨fs, hr, hrun, hended, hW, hsame⟩ := X7.leave (v := none) (fun _ => rfl)
  refine own_end (X7.returnOut hx Bd.returns (hb hby own_dAd3_22) hr) hrun hended ⟨_, _, rfl, (?_ : own_QAd3 Z xo xe xa xm ka y0 y1 y2 h0 n0 _ T7.heap _), ⟨_, rfl⟩, hW, hsame.mono (by decide) (by decide)⟩
  rw [e7]
  exact ⟨rfl, N7, K7, SK7, Ek8, Fk9, Fk10, Fw7, Vk12⟩
theorem own_dA3_0 : decode jdk_38_method_25_code 0 = .ok (.aload_n 0, 1) := by decide +kernel
theorem own_dA3_1 : decode jdk_38_method_25_code 1 = .ok (.dup, 1) := by decide +kernel
theorem own_dA3_2 : decode jdk_38_method_25_code 2 = .ok (.getfield 63, 3) := by decide +kernel
theorem own_dA3_5 : decode jdk_38_method_25_code 5 = .ok (.iconst 1, 1) := by decide +kernel
theorem own_dA3_6 : decode jdk_38_method_25_code 6 = .ok (.iadd, 1) := by decide +kernel
theorem own_dA3_7 : decode jdk_38_method_25_code 7 = .ok (.putfield 63, 3) := by decide +kernel
theorem own_dA3_10 : decode jdk_38_method_25_code 10 = .ok (.aload_n 0, 1) := by decide +kernel
theorem own_dA3_11 : decode jdk_38_method_25_code 11 = .ok (.aload_n 1, 1) := by decide +kernel
theorem own_dA3_12 : decode jdk_38_method_25_code 12 = .ok (.aload_n 0, 1) := by decide +kernel
theorem own_dA3_13 : decode jdk_38_method_25_code 13 = .ok (.getfield 9, 3) := by decide +kernel
theorem own_dA3_16 : decode jdk_38_method_25_code 16 = .ok (.aload_n 0, 1) := by decide +kernel
theorem own_dA3_17 : decode jdk_38_method_25_code 17 = .ok (.getfield 48, 3) := by decide +kernel
theorem own_dA3_20 : decode jdk_38_method_25_code 20 = .ok (.invokevirtual 131, 3) := by decide +kernel
theorem own_dA3_23 : decode jdk_38_method_25_code 23 = .ok (.iconst 1, 1) := by decide +kernel
theorem own_dA3_24 : decode jdk_38_method_25_code 24 = .ok (.ireturn, 1) := by decide +kernel
theorem own_efA3 (m : MethodId) (xo : Addr) (xe : Addr) : entryFrame m #[(.ref xo), (.ref xe)] 2 = mkF m 0 #[.val (.ref xo), .val (.ref xe)] [] := by first | (simp [entryFrame, mkF, argsToLocals, Value.category]; done) | rfl
def own_QA3 (Z : State) (xo : Addr) (xe : Addr) (xm : Int32) (xa : Addr) (ka : ClassId) (y0 : Addr) (y1 : Addr) (y2 : Addr) (h0 : Heap) (n0 : Nat) (v : Option Value) (h : Heap) (L : List Loc) : Prop := v = some (.int (1 : Int32)) ∧ Fr n0 L ∧ Keep h0 h [xo, xa] ∧ own_SK Z h0 h ∧ Exa Z h xo "java/util/ArrayList" ∧ Fld Z h xo "java/util/AbstractList" "modCount" "I" (.int (xm + (1 : Int32))) ∧ Fld Z h xo "java/util/ArrayList" "elementData" "[Ljava/lang/Object;" (.ref xa) ∧ Fld Z h xo "java/util/ArrayList" "size" "I" (.int (4 : Int32)) ∧ own_A Z h xa ka (.object "java/lang/Object") [(.ref y0), (.ref y1), (.ref y2), (.ref xe), .null, .null, .null, .null, .null, .null]
set_option maxRecDepth 65536 in
set_option maxHeartbeats 40000000 in
theorem own_rA3 (l : Launch) (Z : State) (a0 : Array Value) (hw : ∀ d ∈ tables_1, d.before a0 Z = true) (ws : List Jvm.Cond) (xo : Addr) (xe : Addr) (xm : Int32) (xa : Addr) (ka : ClassId) (y0 : Addr) (y1 : Addr) (y2 : Addr) (h0 : Heap) (n0 : Nat) (Z0 : n0 ≤ h0.size) (E1 : Exa Z h0 xo "java/util/ArrayList") (Fm : Fld Z h0 xo "java/util/AbstractList" "modCount" "I" (.int xm)) (Fe : Fld Z h0 xo "java/util/ArrayList" "elementData" "[Ljava/lang/Object;" (.ref xa)) (Fs : Fld Z h0 xo "java/util/ArrayList" "size" "I" (.int (3 : Int32))) (gz : n0 ≤ xo) (ga : n0 ≤ xa) (noa : xo ≠ xa) (Va : own_A Z h0 xa ka (.object "java/lang/Object") [(.ref y0), (.ref y1), (.ref y2), .null, .null, .null, .null, .null, .null, .null]) (Ov : Ovr Z ka "java/lang/Object") (Ee : Exa Z h0 xe "com/example/benchlight/benchlight/Bounds$Dimension") :
    MetFree l (⟨"java/util/ArrayList", "add", "(Ljava/lang/Object;)Z"⟩ : MethodName) (head1 (Jvm.Cond.code (⟨"java/util/ArrayList", "add", "(Ljava/lang/Object;)Z"⟩ : MethodName) jdk_38_method_25_code 2 (some .boolean) :: ws) ({ frames := 1, cells := 0, slots := 0, locals := 15 } : Room)) (fun a U => a = #[(.ref xo), (.ref xe)] ∧ Z.Warmed39 U.vm ∧ U.heap = h0) (fun _ _ _ _ _ => True) (fun _ U o U' => ∃ v L, o = .returned v ∧ own_QA3 Z xo xe xm xa ka y0 y1 y2 h0 n0 v U'.heap L ∧ FrameEnd U o U' L ({ frames := 1, cells := 0, slots := 0, locals := 15 } : Room).cells ({ frames := 1, cells := 0, slots := 0, locals := 15 } : Room).slots) := by
  refine MetFree.of_bodySF (plainFor_of_name own_pn5) hisR ?_
  intro p e s m args below meth c s₁ Bd hml0 hP hK
  obtain ⟨rfl, hZ, hh⟩ := hP
  have hx := Bd.exec
  have hby := Bd.bytes
  have hml : c.maxLocals = 2 := hml0
  have hown : s.vm.findClass "java/util/ArrayList" = some m.cls := findClass_of_methodNamed Bd.named
  have hnm := (name_of_methodNamed Bd.named Bd.method).1
  have X0 : Stand p l e ({ frames := 1, cells := 0, slots := 0, locals := 15 } : Room) s m #[(.ref xo), (.ref xe)] below meth c s₁ [] 0 0 := Stand.of_body Bd
  have e0 : s₁.heap = h0 := by rw [← hh, Bd.state]; rfl
  have N0 := Fr.nil n0
  show own_F p e below (fun o U' => ∃ v L, o = .returned v ∧ own_QA3 Z xo xe xm xa ka y0 y1 y2 h0 n0 v U'.heap L ∧ FrameEnd s o U' L ({ frames := 1, cells := 0, slots := 0, locals := 15 } : Room).cells ({ frames := 1, cells := 0, slots := 0, locals := 15 } : Room).slots) s₁ (entryFrame m #[(.ref xo), (.ref xe)] 2)
  rw [own_efA3 m xo xe]
  refine own_go (T' := s₁) (g' := (mkF m 1 #[.val (.ref xo), .val (.ref xe)] [(.ref xo)])) (fun _ k => XS.aloadN X0.here hx rfl (hb hby own_dA3_0) rfl rfl k) ?_
  refine own_go (T' := s₁) (g' := (mkF m 2 #[.val (.ref xo), .val (.ref xe)] [(.ref xo), (.ref xo)])) (fun _ k => XS.dup X0.here hx rfl (hb hby own_dA3_1) rfl rfl k) ?_
  obtain ⟨T1, X1, e1, st1⟩ := getF X0 hx hZ hown (host := "") (Or.inl (hw _ (List.mem_of_getElem? (i := 57) rfl))) (Via.of (hw _ (List.mem_of_getElem? (i := 58) rfl))) e0 Fm (g := (mkF m 2 #[.val (.ref xo), .val (.ref xe)] [(.ref xo), (.ref xo)])) rfl rfl (hb hby own_dA3_2)
  refine own_go (T' := T1) (g' := (mkF m 5 #[.val (.ref xo), .val (.ref xe)] [(.int xm), (.ref xo)])) (fun _ k => st1 _ k) ?_
  refine own_go (T' := T1) (g' := (mkF m 6 #[.val (.ref xo), .val (.ref xe)] [(.int (1 : Int32)), (.int xm), (.ref xo)])) (fun _ k => XS.iconst X1.here hx rfl (hb hby own_dA3_5) k) ?_
  refine own_go (T' := T1) (g' := (mkF m 7 #[.val (.ref xo), .val (.ref xe)] [(.int (xm + (1 : Int32))), (.ref xo)])) (fun _ k => XS.iadd X1.here hx rfl (hb hby own_dA3_6) rfl k) ?_
  obtain ⟨T2, h2, X2, e2, W2, st2⟩ := putF X1 hx hZ hown (host := "") (Or.inl (hw _ (List.mem_of_getElem? (i := 57) rfl))) (Via.of (hw _ (List.mem_of_getElem? (i := 58) rfl))) e1 Fm E1 (Or.inl (hw _ (List.mem_of_getElem? (i := 32) rfl))) (hw _ (List.mem_of_getElem? (i := 11) rfl)) (ty := .int) (by decide) rfl rfl (g := (mkF m 7 #[.val (.ref xo), .val (.ref xe)] [(.int (xm + (1 : Int32))), (.ref xo)])) rfl rfl (hb hby own_dA3_7)
  have Fw2 := Fm.same W2
  have Ek3 := E1.wr W2
  have Fk4 := Fe.other W2 (Or.inr (slot_ne (Or.inl (hw _ (List.mem_of_getElem? (i := 35) rfl))) (Or.inl (hw _ (List.mem_of_getElem? (i := 32) rfl))) (by decide) (t := (.array (.object "java/lang/Object"))) (t' := .int) (by decide) (by decide)))
  have Fk5 := Fs.other W2 (Or.inr (slot_ne (Or.inl (hw _ (List.mem_of_getElem? (i := 60) rfl))) (Or.inl (hw _ (List.mem_of_getElem? (i := 32) rfl))) (by decide) (t := .int) (t' := .int) (by decide) (by decide)))
  have Vk6 := Va.other W2 (Ne.symm noa)
  have Ek7 := Ee.wr W2
  have Z2 : n0 ≤ h2.size := Nat.le_trans Z0 (Keep.of_wr W2).1
  have K2 : Keep h0 h2 [xo, xa] := (Keep.refl h0 [xo, xa]).wr W2 (Or.inl (List.mem_of_getElem? (i := 0) rfl))
  have N2 := Fr.snoc X2 N0 gz
  have SK2 : own_SK Z h0 h2 := (own_SK.rf Z h0).wr W2
  refine own_go (T' := T2) (g' := (mkF m 10 #[.val (.ref xo), .val (.ref xe)] [])) (fun _ k => st2 _ k) ?_
  refine own_go (T' := T2) (g' := (mkF m 11 #[.val (.ref xo), .val (.ref xe)] [(.ref xo)])) (fun _ k => XS.aloadN X2.here hx rfl (hb hby own_dA3_10) rfl rfl k) ?_
  refine own_go (T' := T2) (g' := (mkF m 12 #[.val (.ref xo), .val (.ref xe)] [(.ref xe), (.ref xo)])) (fun _ k => XS.aloadN X2.here hx rfl (hb hby own_dA3_11) rfl rfl k) ?_
  refine own_go (T' := T2) (g' := (mkF m 13 #[.val (.ref xo), .val (.ref xe)] [(.ref xo), (.ref xe), (.ref xo)])) (fun _ k => XS.aloadN X2.here hx rfl (hb hby own_dA3_12) rfl rfl k) ?_
  obtain ⟨T8, X8, e8, st8⟩ := getF X2 hx hZ hown (host := "") (Or.inl (hw _ (List.mem_of_getElem? (i := 34) rfl))) Via.refl e2 Fk4 (g := (mkF m 13 #[.val (.ref xo), .val (.ref xe)] [(.ref xo), (.ref xe), (.ref xo)])) rfl rfl (hb hby own_dA3_13)
  refine own_go (T' := T8) (g' := (mkF m 16 #[.val (.ref xo), .val (.ref xe)] [(.ref xa), (.ref xe), (.ref xo)])) (fun _ k => st8 _ k) ?_
  refine own_go (T' := T8) (g' := (mkF m 17 #[.val (.ref xo), .val (.ref xe)] [(.ref xo), (.ref xa), (.ref xe), (.ref xo)])) (fun _ k => XS.aloadN X8.here hx rfl (hb hby own_dA3_16) rfl rfl k) ?_
  obtain ⟨T9, X9, e9, st9⟩ := getF X8 hx hZ hown (host := "") (Or.inl (hw _ (List.mem_of_getElem? (i := 59) rfl))) Via.refl e8 Fk5 (g := (mkF m 17 #[.val (.ref xo), .val (.ref xe)] [(.ref xo), (.ref xa), (.ref xe), (.ref xo)])) rfl rfl (hb hby own_dA3_17)
  refine own_go (T' := T9) (g' := (mkF m 20 #[.val (.ref xo), .val (.ref xe)] [(.int (3 : Int32)), (.ref xa), (.ref xe), (.ref xo)])) (fun _ k => st9 _ k) ?_
  obtain ⟨cq10, q10, q10'⟩ := Ek3.cell
  obtain ⟨_, _, ⟨T10, L10, k10, n10⟩, -, X10, ⟨Lc10, hQ10, l10, y10, z10⟩, st10⟩ := X9.privateBack hx (y := (⟨"java/util/ArrayList", "add", "(Ljava/lang/Object;[Ljava/lang/Object;I)V"⟩ : MethodName)) hown (mvT hZ (hw _ (List.mem_of_getElem? (i := 61) rfl))) (mvT hZ (hw _ (List.mem_of_getElem? (i := 62) rfl))) (mvT hZ (hw _ (List.mem_of_getElem? (i := 64) rfl))) (Cond.privateMethod_at (mvP hZ (hw _ (List.mem_of_getElem? (i := 63) rfl)) (args := #[]))) (mvT hZ (hw _ (List.mem_of_getElem? (i := 65) rfl))) (by decide) (backOf (W := 0) (own_rAd3 l Z a0 hw [] xo xe xa (xm + (1 : Int32)) ka y0 y1 y2 h2 n0 Z2 Ek3 Fw2 Fk4 Fk5 gz ga noa Vk6 Ov Ek7) hZ (hw _ (List.mem_of_getElem? (i := 65) rfl)) (hw _ (List.mem_of_getElem? (i := 12) rfl)) (by decide) (by decide)) (g := (mkF m 20 #[.val (.ref xo), .val (.ref xe)] [(.int (3 : Int32)), (.ref xa), (.ref xe), (.ref xo)])) rfl (by rw [hml]; rfl) (Steps.refl _) (a := xo) (by rw [e9]; exact q10) q10' (argsL := [(.ref xe), (.ref xa), (.int (3 : Int32))]) (rest := []) (lenOf own_pd6 rfl) rfl (by show 2 * 0 + _ ≤ _; exact Nat.le_of_eq rfl) (hb hby own_dA3_20) (fun _ _ => ⟨rfl, e9, (by decide : 0 + 0 ≤ _), (by decide : 0 + 0 ≤ _)⟩)
  dsimp only [Pt.U, Pt.locs, Pt.cells, Pt.slots] at X10 l10 y10 z10 st10 hQ10
  subst l10 y10 z10
  obtain ⟨rfl, N10q, Kc10, SKc10, Ec10, Fmc10, Fec10, Fsc10, Vc10⟩ := hQ10
  have N10 := Fr.app N2 N10q
  have Ek11 := Ek7.keep Kc10
  have Z10 : n0 ≤ T10.heap.size := Nat.le_trans Z2 Kc10.1
  have SK10 : own_SK Z h0 T10.heap := SK2.tr SKc10
  have K10 : Keep h0 T10.heap [xo, xa] := K2.trans Kc10 (own_or2 (Or.inl (List.mem_of_getElem? (i := 0) rfl)) (Or.inl (List.mem_of_getElem? (i := 1) rfl)))
  refine own_goT (T' := T10) (g' := (mkF m 23 #[.val (.ref xo), .val (.ref xe)] [])) st10 ?_
  refine own_go (T' := T10) (g' := (mkF m 24 #[.val (.ref xo), .val (.ref xe)] [(.int (1 : Int32))])) (fun _ k => XS.iconst X10.here hx rfl (hb hby own_dA3_23) k) ?_
  obtain ⟨fs, hr, hrun, hended, hW, hsame⟩ := X10.leave (v := some (.int (1 : Int32))) (fun h => by rw [Bd.returns] at h; cases h)
  refine own_end (retN X10 hx (t := .boolean) Bd.returns (by simp) (hb hby own_dA3_24) hr) hrun hended ⟨_, _, rfl, (?_ : own_QA3 Z xo xe xm xa ka y0 y1 y2 h0 n0 _ T10.heap _), ⟨_, rfl⟩, hW, hsame.mono (by decide) (by decide)⟩
  exact ⟨rfl, N10, K10, SK10, Ec10, Fmc10, Fec10, Fsc10, Vc10⟩
theorem own_dAd4_0 : decode jdk_38_method_24_code 0 = .ok (.iload_n 3, 1) := by decide +kernel
theorem own_dAd4_1 : decode jdk_38_method_24_code 1 = .ok (.aload_n 2, 1) := by decide +kernel
theorem own_dAd4_2 : decode jdk_38_method_24_code 2 = .ok (.arraylength, 1) := by decide +kernel
theorem own_dAd4_3 : decode jdk_38_method_24_code 3 = .ok (.if_icmp .ne 8, 3) := by decide +kernel
theorem own_dAd4_11 : decode jdk_38_method_24_code 11 = .ok (.aload_n 2, 1) := by decide +kernel
theorem own_dAd4_12 : decode jdk_38_method_24_code 12 = .ok (.iload_n 3, 1) := by decide +kernel
theorem own_dAd4_13 : decode jdk_38_method_24_code 13 = .ok (.aload_n 1, 1) := by decide +kernel
theorem own_dAd4_14 : decode jdk_38_method_24_code 14 = .ok (.aastore, 1) := by decide +kernel
theorem own_dAd4_15 : decode jdk_38_method_24_code 15 = .ok (.aload_n 0, 1) := by decide +kernel
theorem own_dAd4_16 : decode jdk_38_method_24_code 16 = .ok (.iload_n 3, 1) := by decide +kernel
theorem own_dAd4_17 : decode jdk_38_method_24_code 17 = .ok (.iconst 1, 1) := by decide +kernel
theorem own_dAd4_18 : decode jdk_38_method_24_code 18 = .ok (.iadd, 1) := by decide +kernel
theorem own_dAd4_19 : decode jdk_38_method_24_code 19 = .ok (.putfield 48, 3) := by decide +kernel
theorem own_dAd4_22 : decode jdk_38_method_24_code 22 = .ok (.return_, 1) := by decide +kernel
theorem own_efAd4 (m : MethodId) (xo : Addr) (xe : Addr) (xa : Addr) : entryFrame m #[(.ref xo), (.ref xe), (.ref xa), (.int (4 : Int32))] 4 = mkF m 0 #[.val (.ref xo), .val (.ref xe), .val (.ref xa), .val (.int (4 : Int32))] [] := by first | (simp [entryFrame, mkF, argsToLocals, Value.category]; done) | rfl
def own_QAd4 (Z : State) (xo : Addr) (xe : Addr) (xa : Addr) (xm : Int32) (ka : ClassId) (y0 : Addr) (y1 : Addr) (y2 : Addr) (y3 : Addr) (h0 : Heap) (n0 : Nat) (v : Option Value) (h : Heap) (L : List Loc) : Prop := v = none ∧ Fr n0 L ∧ Keep h0 h [xo, xa] ∧ own_SK Z h0 h ∧ Exa Z h xo "java/util/ArrayList" ∧ Fld Z h xo "java/util/AbstractList" "modCount" "I" (.int xm) ∧ Fld Z h xo "java/util/ArrayList" "elementData" "[Ljava/lang/Object;" (.ref xa) ∧ Fld Z h xo "java/util/ArrayList" "size" "I" (.int (5 : Int32)) ∧ own_A Z h xa ka (.object "java/lang/Object") [(.ref y0), (.ref y1), (.ref y2), (.ref y3), (.ref xe), .null, .null, .null, .null, .null]
set_option maxRecDepth 65536 in
set_option maxHeartbeats 40000000 in
theorem own_rAd4 (l : Launch) (Z : State) (a0 : Array Value) (hw : ∀ d ∈ tables_1, d.before a0 Z = true) (ws : List Jvm.Cond) (xo : Addr) (xe : Addr) (xa : Addr) (xm : Int32) (ka : ClassId) (y0 : Addr) (y1 : Addr) (y2 : Addr) (y3 : Addr) (h0 : Heap) (n0 : Nat) (Z0 : n0 ≤ h0.size) (E1 : Exa Z h0 xo "java/util/ArrayList") (Fm : Fld Z h0 xo "java/util/AbstractList" "modCount" "I" (.int xm)) (Fe : Fld Z h0 xo "java/util/ArrayList" "elementData" "[Ljava/lang/Object;" (.ref xa)) (Fs : Fld Z h0 xo "java/util/ArrayList" "size" "I" (.int (4 : Int32))) (gz : n0 ≤ xo) (ga : n0 ≤ xa) (noa : xo ≠ xa) (Va : own_A Z h0 xa ka (.object "java/lang/Object") [(.ref y0), (.ref y1), (.ref y2), (.ref y3), .null, .null, .null, .null, .null, .null]) (Ov : Ovr Z ka "java/lang/Object") (Ee : Exa Z h0 xe "com/example/benchlight/benchlight/Bounds$Dimension") :
    MetFree l (⟨"java/util/ArrayList", "add", "(Ljava/lang/Object;[Ljava/lang/Object;I)V"⟩ : MethodName) (head1 (Jvm.Cond.code (⟨"java/util/ArrayList", "add", "(Ljava/lang/Object;[Ljava/lang/Object;I)V"⟩ : MethodName) jdk_38_method_24_code 4 none :: ws) ({ frames := 0, cells := 0, slots := 0, locals := 0 } : Room)) (fun a U => a = #[(.ref xo), (.ref xe), (.ref xa), (.int (4 : Int32))] ∧ Z.Warmed39 U.vm ∧ U.heap = h0) (fun _ _ _ _ _ => True) (fun _ U o U' => ∃ v L, o = .returned v ∧ own_QAd4 Z xo xe xa xm ka y0 y1 y2 y3 h0 n0 v U'.heap L ∧ FrameEnd U o U' L ({ frames := 0, cells := 0, slots := 0, locals := 0 } : Room).cells ({ frames := 0, cells := 0, slots := 0, locals := 0 } : Room).slots) := by
  refine MetFree.of_bodySF (plainFor_of_name own_pn5) hisR ?_
  intro p e s m args below meth c s₁ Bd hml0 hP hK
  obtain ⟨rfl, hZ, hh⟩ := hP
  have hx := Bd.exec
  have hby := Bd.bytes
  have hml : c.maxLocals = 4 := hml0
  have hown : s.vm.findClass "java/util/ArrayList" = some m.cls := findClass_of_methodNamed Bd.named
  have hnm := (name_of_methodNamed Bd.named Bd.method).1
  have X0 : Stand p l e ({ frames := 0, cells := 0, slots := 0, locals := 0 } : Room) s m #[(.ref xo), (.ref xe), (.ref xa), (.int (4 : Int32))] below meth c s₁ [] 0 0 := Stand.of_body Bd
  have e0 : s₁.heap = h0 := by rw [← hh, Bd.state]; rfl
  have N0 := Fr.nil n0
  show own_F p e below (fun o U' => ∃ v L, o = .returned v ∧ own_QAd4 Z xo xe xa xm ka y0 y1 y2 y3 h0 n0 v U'.heap L ∧ FrameEnd s o U' L ({ frames := 0, cells := 0, slots := 0, locals := 0 } : Room).cells ({ frames := 0, cells := 0, slots := 0, locals := 0 } : Room).slots) s₁ (entryFrame m #[(.ref xo), (.ref xe), (.ref xa), (.int (4 : Int32))] 4)
  rw [own_efAd4 m xo xe xa]
  refine own_go (T' := s₁) (g' := (mkF m 1 #[.val (.ref xo), .val (.ref xe), .val (.ref xa), .val (.int (4 : Int32))] [(.int (4 : Int32))])) (fun _ k => XS.iloadN X0.here hx rfl (hb hby own_dAd4_0) rfl k) ?_
  refine own_go (T' := s₁) (g' := (mkF m 2 #[.val (.ref xo), .val (.ref xe), .val (.ref xa), .val (.int (4 : Int32))] [(.ref xa), (.int (4 : Int32))])) (fun _ k => XS.aloadN X0.here hx rfl (hb hby own_dAd4_1) rfl rfl k) ?_
  refine own_go (T' := s₁) (g' := (mkF m 3 #[.val (.ref xo), .val (.ref xe), .val (.ref xa), .val (.int (4 : Int32))] [(.int (10 : Int32)), (.int (4 : Int32))])) (fun _ k => own_alen X0 hx hZ e0 Va (g := (mkF m 2 #[.val (.ref xo), .val (.ref xe), .val (.ref xa), .val (.int (4 : Int32))] [(.ref xa), (.int (4 : Int32))])) rfl rfl (hb hby own_dAd4_2) (n := (10 : Int32)) rfl k) ?_
  refine own_go (T' := s₁) (g' := (mkF m 11 #[.val (.ref xo), .val (.ref xe), .val (.ref xa), .val (.int (4 : Int32))] [])) (fun _ k => XS.icmpYes X0.here hx rfl (pc0 := 3) (pc' := 11) rfl (hb hby own_dAd4_3) rfl (feq ((by decide) : ¬ ((4 : Int32) = (10 : Int32)))).2 (by decide) (by decide) k) ?_
  refine own_go (T' := s₁) (g' := (mkF m 12 #[.val (.ref xo), .val (.ref xe), .val (.ref xa), .val (.int (4 : Int32))] [(.ref xa)])) (fun _ k => XS.aloadN X0.here hx rfl (hb hby own_dAd4_11) rfl rfl k) ?_
  refine own_go (T' := s₁) (g' := (mkF m 13 #[.val (.ref xo), .val (.ref xe), .val (.ref xa), .val (.int (4 : Int32))] [(.int (4 : Int32)), (.ref xa)])) (fun _ k => XS.iloadN X0.here hx rfl (hb hby own_dAd4_12) rfl k) ?_
  refine own_go (T' := s₁) (g' := (mkF m 14 #[.val (.ref xo), .val (.ref xe), .val (.ref xa), .val (.int (4 : Int32))] [(.ref xe), (.int (4 : Int32)), (.ref xa)])) (fun _ k => XS.aloadN X0.here hx rfl (hb hby own_dAd4_13) rfl rfl k) ?_
  obtain ⟨T1, h1, X1, e1, V1, W1, st1⟩ := own_aastore X0 hx hZ e0 Va (j := (4 : Int32)) (i := 4) rfl (by decide) (Nat.le_of_ble_eq_true rfl) rfl (own_A.sto Va Ov (Ins.of_exa Ee (hw _ (List.mem_of_getElem? (i := 82) rfl)))) (g := (mkF m 14 #[.val (.ref xo), .val (.ref xe), .val (.ref xa), .val (.int (4 : Int32))] [(.ref xe), (.int (4 : Int32)), (.ref xa)])) rfl rfl (hb hby own_dAd4_14)
  have Va1 : own_A Z h1 xa ka (.object "java/lang/Object") [(.ref y0), (.ref y1), (.ref y2), (.ref y3), (.ref xe), .null, .null, .null, .null, .null] := V1
  have Ek2 := E1.wr W1
  have Fk3 := Fm.other W1 (Or.inl noa)
  have Fk4 := Fe.other W1 (Or.inl noa)
  have Fk5 := Fs.other W1 (Or.inl noa)
  have Ek6 := Ee.wr W1
  have Z1 : n0 ≤ h1.size := Nat.le_trans Z0 (Keep.of_wr W1).1
  have K1 : Keep h0 h1 [xo, xa] := (Keep.refl h0 [xo, xa]).wr W1 (Or.inl (List.mem_of_getElem? (i := 1) rfl))
  have N1 := Fr.snoc X1 N0 ga
  have SK1 : own_SK Z h0 h1 := (own_SK.rf Z h0).wr W1
  refine own_go (T' := T1) (g' := (mkF m 15 #[.val (.ref xo), .val (.ref xe), .val (.ref xa), .val (.int (4 : Int32))] [])) (fun _ k => st1 _ k) ?_
  refine own_go (T' := T1) (g' := (mkF m 16 #[.val (.ref xo), .val (.ref xe), .val (.ref xa), .val (.int (4 : Int32))] [(.ref xo)])) (fun _ k => XS.aloadN X1.here hx rfl (hb hby own_dAd4_15) rfl rfl k) ?_
  refine own_go (T' := T1) (g' := (mkF m 17 #[.val (.ref xo), .val (.ref xe), .val (.ref xa), .val (.int (4 : Int32))] [(.int (4 : Int32)), (.ref xo)])) (fun _ k => XS.iloadN X1.here hx rfl (hb hby own_dAd4_16) rfl k) ?_
  refine own_go (T' := T1) (g' := (mkF m 18 #[.val (.ref xo), .val (.ref xe), .val (.ref xa), .val (.int (4 : Int32))] [(.int (1 : Int32)), (.int (4 : Int32)), (.ref xo)])) (fun _ k => XS.iconst X1.here hx rfl (hb hby own_dAd4_17) k) ?_
  refine own_go (T' := T1) (g' := (mkF m 19 #[.val (.ref xo), .val (.ref xe), .val (.ref xa), .val (.int (4 : Int32))] [(.int (5 : Int32)), (.ref xo)])) (fun _ k => XS.iadd X1.here hx rfl (hb hby own_dAd4_18) rfl k) ?_
  obtain ⟨T7, h7, X7, e7, W7, st7⟩ := putF X1 hx hZ hown (host := "") (Or.inl (hw _ (List.mem_of_getElem? (i := 59) rfl))) Via.refl e1 Fk5 Ek2 (Or.inl (hw _ (List.mem_of_getElem? (i := 60) rfl))) (hw _ (List.mem_of_getElem? (i := 11) rfl)) (ty := .int) (by decide) rfl rfl (g := (mkF m 19 #[.val (.ref xo), .val (.ref xe), .val (.ref xa), .val (.int (4 : Int32))] [(.int (5 : Int32)), (.ref xo)])) rfl rfl (hb hby own_dAd4_19)
  have Fw7 := Fk5.same W7
  have Ek8 := Ek2.wr W7
  have Fk9 := Fk3.other W7 (Or.inr (slot_ne (Or.inl (hw _ (List.mem_of_getElem? (i := 32) rfl))) (Or.inl (hw _ (List.mem_of_getElem? (i := 60) rfl))) (by decide) (t := .int) (t' := .int) (by decide) (by decide)))
  have Fk10 := Fk4.other W7 (Or.inr (slot_ne (Or.inl (hw _ (List.mem_of_getElem? (i := 35) rfl))) (Or.inl (hw _ (List.mem_of_getElem? (i := 60) rfl))) (by decide) (t := (.array (.object "java/lang/Object"))) (t' := .int) (by decide) (by decide)))
  have Ek11 := Ek6.wr W7
  have Vk12 := Va1.other W7 (Ne.symm noa)
  have Z7 : n0 ≤ h7.size := Nat.le_trans Z1 (Keep.of_wr W7).1
  have K7 : Keep h0 h7 [xo, xa] := K1.wr W7 (Or.inl (List.mem_of_getElem? (i := 0) rfl))
  have N7 := Fr.snoc X7 N1 gz
  have SK7 : own_SK Z h0 h7 := SK1.wr W7
  refine own_go (T' := T7) (g' := (mkF m 22 #[.val (.ref xo), .val (.ref xe), .val (.ref xa), .val (.int (4 : Int32))] [])) (fun _ k => st7 _ k) ?_
  obtain ⟨fs, hr, hrun, hended, hW, hsame⟩ := X7.leave (v := none) (fun _ => rfl)
  refine own_end (X7.returnOut hx Bd.returns (hb hby own_dAd4_22) hr) hrun hended ⟨_, _, rfl, (?_ : own_QAd4 Z xo xe xa xm ka y0 y1 y2 y3 h0 n0 _ T7.heap _), ⟨_, rfl⟩, hW, hsame.mono (by decide) (by decide)⟩
  rw [e7]
  exact ⟨rfl, N7, K7, SK7, Ek8, Fk9, Fk10, Fw7, Vk12⟩
theorem own_dA4_0 : decode jdk_38_method_25_code 0 = .ok (.aload_n 0, 1) := by decide +kernel
theorem own_dA4_1 : decode jdk_38_method_25_code 1 = .ok (.dup, 1) := by decide +kernel
theorem own_dA4_2 : decode jdk_38_method_25_code 2 = .ok (.getfield 63, 3) := by decide +kernel
theorem own_dA4_5 : decode jdk_38_method_25_code 5 = .ok (.iconst 1, 1) := by decide +kernel
theorem own_dA4_6 : decode jdk_38_method_25_code 6 = .ok (.iadd, 1) := by decide +kernel
theorem own_dA4_7 : decode jdk_38_method_25_code 7 = .ok (.putfield 63, 3) := by decide +kernel
theorem own_dA4_10 : decode jdk_38_method_25_code 10 = .ok (.aload_n 0, 1) := by decide +kernel
theorem own_dA4_11 : decode jdk_38_method_25_code 11 = .ok (.aload_n 1, 1) := by decide +kernel
theorem own_dA4_12 : decode jdk_38_method_25_code 12 = .ok (.aload_n 0, 1) := by decide +kernel
theorem own_dA4_13 : decode jdk_38_method_25_code 13 = .ok (.getfield 9, 3) := by decide +kernel
theorem own_dA4_16 : decode jdk_38_method_25_code 16 = .ok (.aload_n 0, 1) := by decide +kernel
theorem own_dA4_17 : decode jdk_38_method_25_code 17 = .ok (.getfield 48, 3) := by decide +kernel
theorem own_dA4_20 : decode jdk_38_method_25_code 20 = .ok (.invokevirtual 131, 3) := by decide +kernel
theorem own_dA4_23 : decode jdk_38_method_25_code 23 = .ok (.iconst 1, 1) := by decide +kernel
theorem own_dA4_24 : decode jdk_38_method_25_code 24 = .ok (.ireturn, 1) := by decide +kernel
theorem own_efA4 (m : MethodId) (xo : Addr) (xe : Addr) : entryFrame m #[(.ref xo), (.ref xe)] 2 = mkF m 0 #[.val (.ref xo), .val (.ref xe)] [] := by first | (simp [entryFrame, mkF, argsToLocals, Value.category]; done) | rfl
def own_QA4 (Z : State) (xo : Addr) (xe : Addr) (xm : Int32) (xa : Addr) (ka : ClassId) (y0 : Addr) (y1 : Addr) (y2 : Addr) (y3 : Addr) (h0 : Heap) (n0 : Nat) (v : Option Value) (h : Heap) (L : List Loc) : Prop := v = some (.int (1 : Int32)) ∧ Fr n0 L ∧ Keep h0 h [xo, xa] ∧ own_SK Z h0 h ∧ Exa Z h xo "java/util/ArrayList" ∧ Fld Z h xo "java/util/AbstractList" "modCount" "I" (.int (xm + (1 : Int32))) ∧ Fld Z h xo "java/util/ArrayList" "elementData" "[Ljava/lang/Object;" (.ref xa) ∧ Fld Z h xo "java/util/ArrayList" "size" "I" (.int (5 : Int32)) ∧ own_A Z h xa ka (.object "java/lang/Object") [(.ref y0), (.ref y1), (.ref y2), (.ref y3), (.ref xe), .null, .null, .null, .null, .null]
set_option maxRecDepth 65536 in
set_option maxHeartbeats 40000000 in
theorem own_rA4 (l : Launch) (Z : State) (a0 : Array Value) (hw : ∀ d ∈ tables_1, d.before a0 Z = true) (ws : List Jvm.Cond) (xo : Addr) (xe : Addr) (xm : Int32) (xa : Addr) (ka : ClassId) (y0 : Addr) (y1 : Addr) (y2 : Addr) (y3 : Addr) (h0 : Heap) (n0 : Nat) (Z0 : n0 ≤ h0.size) (E1 : Exa Z h0 xo "java/util/ArrayList") (Fm : Fld Z h0 xo "java/util/AbstractList" "modCount" "I" (.int xm)) (Fe : Fld Z h0 xo "java/util/ArrayList" "elementData" "[Ljava/lang/Object;" (.ref xa)) (Fs : Fld Z h0 xo "java/util/ArrayList" "size" "I" (.int (4 : Int32))) (gz : n0 ≤ xo) (ga : n0 ≤ xa) (noa : xo ≠ xa) (Va : own_A Z h0 xa ka (.object "java/lang/Object") [(.ref y0), (.ref y1), (.ref y2), (.ref y3), .null, .null, .null, .null, .null, .null]) (Ov : Ovr Z ka "java/lang/Object") (Ee : Exa Z h0 xe "com/example/benchlight/benchlight/Bounds$Dimension") :
    MetFree l (⟨"java/util/ArrayList", "add", "(Ljava/lang/Object;)Z"⟩ : MethodName) (head1 (Jvm.Cond.code (⟨"java/util/ArrayList", "add", "(Ljava/lang/Object;)Z"⟩ : MethodName) jdk_38_method_25_code 2 (some .boolean) :: ws) ({ frames := 1, cells := 0, slots := 0, locals := 15 } : Room)) (fun a U => a = #[(.ref xo), (.ref xe)] ∧ Z.Warmed39 U.vm ∧ U.heap = h0) (fun _ _ _ _ _ => True) (fun _ U o U' => ∃ v L, o = .returned v ∧ own_QA4 Z xo xe xm xa ka y0 y1 y2 y3 h0 n0 v U'.heap L ∧ FrameEnd U o U' L ({ frames := 1, cells := 0, slots := 0, locals := 15 } : Room).cells ({ frames := 1, cells := 0, slots := 0, locals := 15 } : Room).slots) := by
  refine MetFree.of_bodySF (plainFor_of_name own_pn5) hisR ?_
  intro p e s m args below meth c s₁ Bd hml0 hP hK
  obtain ⟨rfl, hZ, hh⟩ := hP
  have hx := Bd.exec
  have hby := Bd.bytes
  have hml : c.maxLocals = 2 := hml0
  have hown : s.vm.findClass "java/util/ArrayList" = some m.cls := findClass_of_methodNamed Bd.named
  have hnm := (name_of_methodNamed Bd.named Bd.method).1
  have X0 : Stand p l e ({ frames := 1, cells := 0, slots := 0, locals := 15 } : Room) s m #[(.ref xo), (.ref xe)] below meth c s₁ [] 0 0 := Stand.of_body Bd
  have e0 : s₁.heap = h0 := by rw [← hh, Bd.state]; rfl
  have N0 := Fr.nil n0
  show own_F p e below (fun o U' => ∃ v L, o = .returned v ∧ own_QA4 Z xo xe xm xa ka y0 y1 y2 y3 h0 n0 v U'.heap L ∧ FrameEnd s o U' L ({ frames := 1, cells := 0, slots := 0, locals := 15 } : Room).cells ({ frames := 1, cells := 0, slots := 0, locals := 15 } : Room).slots) s₁ (entryFrame m #[(.ref xo), (.ref xe)] 2)
  rw [own_efA4 m xo xe]
  refine own_go (T' := s₁) (g' := (mkF m 1 #[.val (.ref xo), .val (.ref xe)] [(.ref xo)])) (fun _ k => XS.aloadN X0.here hx rfl (hb hby own_dA4_0) rfl rfl k) ?_
  refine own_go (T' := s₁) (g' := (mkF m 2 #[.val (.ref xo), .val (.ref xe)] [(.ref xo), (.ref xo)])) (fun _ k => XS.dup X0.here hx rfl (hb hby own_dA4_1) rfl rfl k) ?_
  obtain ⟨T1, X1, e1, st1⟩ := getF X0 hx hZ hown (host := "") (Or.inl (hw _ (List.mem_of_getElem? (i := 57) rfl))) (Via.of (hw _ (List.mem_of_getElem? (i := 58) rfl))) e0 Fm (g := (mkF m 2 #[.val (.ref xo), .val (.ref xe)] [(.ref xo), (.ref xo)])) rfl rfl (hb hby own_dA4_2)
  refine own_go (T' := T1) (g' := (mkF m 5 #[.val (.ref xo), .val (.ref xe)] [(.int xm), (.ref xo)])) (fun _ k => st1 _ k) ?_
  refine own_go (T' := T1) (g' := (mkF m 6 #[.val (.ref xo), .val (.ref xe)] [(.int (1 : Int32)), (.int xm), (.ref xo)])) (fun _ k => XS.iconst X1.here hx rfl (hb hby own_dA4_5) k) ?_
  refine own_go (T' := T1) (g' := (mkF m 7 #[.val (.ref xo), .val (.ref xe)] [(.int (xm + (1 : Int32))), (.ref xo)])) (fun _ k => XS.iadd X1.here hx rfl (hb hby own_dA4_6) rfl k) ?_
  obtain ⟨T2, h2, X2, e2, W2, st2⟩ := putF X1 hx hZ hown (host := "") (Or.inl (hw _ (List.mem_of_getElem? (i := 57) rfl))) (Via.of (hw _ (List.mem_of_getElem? (i := 58) rfl))) e1 Fm E1 (Or.inl (hw _ (List.mem_of_getElem? (i := 32) rfl))) (hw _ (List.mem_of_getElem? (i := 11) rfl)) (ty := .int) (by decide) rfl rfl (g := (mkF m 7 #[.val (.ref xo), .val (.ref xe)] [(.int (xm + (1 : Int32))), (.ref xo)])) rfl rfl (hb hby own_dA4_7)
  have Fw2 := Fm.same W2
  have Ek3 := E1.wr W2
  have Fk4 := Fe.other W2 (Or.inr (slot_ne (Or.inl (hw _ (List.mem_of_getElem? (i := 35) rfl))) (Or.inl (hw _ (List.mem_of_getElem? (i := 32) rfl))) (by decide) (t := (.array (.object "java/lang/Object"))) (t' := .int) (by decide) (by decide)))
  have Fk5 := Fs.other W2 (Or.inr (slot_ne (Or.inl (hw _ (List.mem_of_getElem? (i := 60) rfl))) (Or.inl (hw _ (List.mem_of_getElem? (i := 32) rfl))) (by decide) (t := .int) (t' := .int) (by decide) (by decide)))
  have Vk6 := Va.other W2 (Ne.symm noa)
  have Ek7 := Ee.wr W2
  have Z2 : n0 ≤ h2.size := Nat.le_trans Z0 (Keep.of_wr W2).1
  have K2 : Keep h0 h2 [xo, xa] := (Keep.refl h0 [xo, xa]).wr W2 (Or.inl (List.mem_of_getElem? (i := 0) rfl))
  have N2 := Fr.snoc X2 N0 gz
  have SK2 : own_SK Z h0 h2 := (own_SK.rf Z h0).wr W2
  refine own_go (T' := T2) (g' := (mkF m 10 #[.val (.ref xo), .val (.ref xe)] [])) (fun _ k => st2 _ k) ?_
  refine own_go (T' := T2) (g' := (mkF m 11 #[.val (.ref xo), .val (.ref xe)] [(.ref xo)])) (fun _ k => XS.aloadN X2.here hx rfl (hb hby own_dA4_10) rfl rfl k) ?_
  refine own_go (T' := T2) (g' := (mkF m 12 #[.val (.ref xo), .val (.ref xe)] [(.ref xe), (.ref xo)])) (fun _ k => XS.aloadN X2.here hx rfl (hb hby own_dA4_11) rfl rfl k) ?_
  refine own_go (T' := T2) (g' := (mkF m 13 #[.val (.ref xo), .val (.ref xe)] [(.ref xo), (.ref xe), (.ref xo)])) (fun _ k => XS.aloadN X2.here hx rfl (hb hby own_dA4_12) rfl rfl k) ?_
  obtain ⟨T8, X8, e8, st8⟩ := getF X2 hx hZ hown (host := "") (Or.inl (hw _ (List.mem_of_getElem? (i := 34) rfl))) Via.refl e2 Fk4 (g := (mkF m 13 #[.val (.ref xo), .val (.ref xe)] [(.ref xo), (.ref xe), (.ref xo)])) rfl rfl (hb hby own_dA4_13)
  refine own_go (T' := T8) (g' := (mkF m 16 #[.val (.ref xo), .val (.ref xe)] [(.ref xa), (.ref xe), (.ref xo)])) (fun _ k => st8 _ k) ?_
  refine own_go (T' := T8) (g' := (mkF m 17 #[.val (.ref xo), .val (.ref xe)] [(.ref xo), (.ref xa), (.ref xe), (.ref xo)])) (fun _ k => XS.aloadN X8.here hx rfl (hb hby own_dA4_16) rfl rfl k) ?_
  obtain ⟨T9, X9, e9, st9⟩ := getF X8 hx hZ hown (host := "") (Or.inl (hw _ (List.mem_of_getElem? (i := 59) rfl))) Via.refl e8 Fk5 (g := (mkF m 17 #[.val (.ref xo), .val (.ref xe)] [(.ref xo), (.ref xa), (.ref xe), (.ref xo)])) rfl rfl (hb hby own_dA4_17)
  refine own_go (T' := T9) (g' := (mkF m 20 #[.val (.ref xo), .val (.ref xe)] [(.int (4 : Int32)), (.ref xa), (.ref xe), (.ref xo)])) (fun _ k => st9 _ k) ?_
  obtain ⟨cq10, q10, q10'⟩ := Ek3.cell
  obtain ⟨_, _, ⟨T10, L10, k10, n10⟩, -, X10, ⟨Lc10, hQ10, l10, y10, z10⟩, st10⟩ := X9.privateBack hx (y := (⟨"java/util/ArrayList", "add", "(Ljava/lang/Object;[Ljava/lang/Object;I)V"⟩ : MethodName)) hown (mvT hZ (hw _ (List.mem_of_getElem? (i := 61) rfl))) (mvT hZ (hw _ (List.mem_of_getElem? (i := 62) rfl))) (mvT hZ (hw _ (List.mem_of_getElem? (i := 64) rfl))) (Cond.privateMethod_at (mvP hZ (hw _ (List.mem_of_getElem? (i := 63) rfl)) (args := #[]))) (mvT hZ (hw _ (List.mem_of_getElem? (i := 65) rfl))) (by decide) (backOf (W := 0) (own_rAd4 l Z a0 hw [] xo xe xa (xm + (1 : Int32)) ka y0 y1 y2 y3 h2 n0 Z2 Ek3 Fw2 Fk4 Fk5 gz ga noa Vk6 Ov Ek7) hZ (hw _ (List.mem_of_getElem? (i := 65) rfl)) (hw _ (List.mem_of_getElem? (i := 12) rfl)) (by decide) (by decide)) (g := (mkF m 20 #[.val (.ref xo), .val (.ref xe)] [(.int (4 : Int32)), (.ref xa), (.ref xe), (.ref xo)])) rfl (by rw [hml]; rfl) (Steps.refl _) (a := xo) (by rw [e9]; exact q10) q10' (argsL := [(.ref xe), (.ref xa), (.int (4 : Int32))]) (rest := []) (lenOf own_pd6 rfl) rfl (by show 2 * 0 + _ ≤ _; exact Nat.le_of_eq rfl) (hb hby own_dA4_20) (fun _ _ => ⟨rfl, e9, (by decide : 0 + 0 ≤ _), (by decide : 0 + 0 ≤ _)⟩)
  dsimp only [Pt.U, Pt.locs, Pt.cells, Pt.slots] at X10 l10 y10 z10 st10 hQ10
  subst l10 y10 z10
  obtain ⟨rfl, N10q, Kc10, SKc10, Ec10, Fmc10, Fec10, Fsc10, Vc10⟩ := hQ10
  have N10 := Fr.app N2 N10q
  have Ek11 := Ek7.keep Kc10
  have Z10 : n0 ≤ T10.heap.size := Nat.le_trans Z2 Kc10.1
  have SK10 : own_SK Z h0 T10.heap := SK2.tr SKc10
  have K10 : Keep h0 T10.heap [xo, xa] := K2.trans Kc10 (own_or2 (Or.inl (List.mem_of_getElem? (i := 0) rfl)) (Or.inl (List.mem_of_getElem? (i := 1) rfl)))
  refine own_goT (T' := T10) (g' := (mkF m 23 #[.val (.ref xo), .val (.ref xe)] [])) st10 ?_
  refine own_go (T' := T10) (g' := (mkF m 24 #[.val (.ref xo), .val (.ref xe)] [(.int (1 : Int32))])) (fun _ k => XS.iconst X10.here hx rfl (hb hby own_dA4_23) k) ?_
  obtain ⟨fs, hr, hrun, hended, hW, hsame⟩ := X10.leave (v := some (.int (1 : Int32))) (fun h => by rw [Bd.returns] at h; cases h)
  refine own_end (retN X10 hx (t := .boolean) Bd.returns (by simp) (hb hby own_dA4_24) hr) hrun hended ⟨_, _, rfl, (?_ : own_QA4 Z xo xe xm xa ka y0 y1 y2 y3 h0 n0 _ T10.heap _), ⟨_, rfl⟩, hW, hsame.mono (by decide) (by decide)⟩
  exact ⟨rfl, N10, K10, SK10, Ec10, Fmc10, Fec10, Fsc10, Vc10⟩
theorem own_dAd5_0 : decode jdk_38_method_24_code 0 = .ok (.iload_n 3, 1) := by decide +kernel
theorem own_dAd5_1 : decode jdk_38_method_24_code 1 = .ok (.aload_n 2, 1) := by decide +kernel
theorem own_dAd5_2 : decode jdk_38_method_24_code 2 = .ok (.arraylength, 1) := by decide +kernel
theorem own_dAd5_3 : decode jdk_38_method_24_code 3 = .ok (.if_icmp .ne 8, 3) := by decide +kernel
theorem own_dAd5_11 : decode jdk_38_method_24_code 11 = .ok (.aload_n 2, 1) := by decide +kernel
theorem own_dAd5_12 : decode jdk_38_method_24_code 12 = .ok (.iload_n 3, 1) := by decide +kernel
theorem own_dAd5_13 : decode jdk_38_method_24_code 13 = .ok (.aload_n 1, 1) := by decide +kernel
theorem own_dAd5_14 : decode jdk_38_method_24_code 14 = .ok (.aastore, 1) := by decide +kernel
theorem own_dAd5_15 : decode jdk_38_method_24_code 15 = .ok (.aload_n 0, 1) := by decide +kernel
theorem own_dAd5_16 : decode jdk_38_method_24_code 16 = .ok (.iload_n 3, 1) := by decide +kernel
theorem own_dAd5_17 : decode jdk_38_method_24_code 17 = .ok (.iconst 1, 1) := by decide +kernel
theorem own_dAd5_18 : decode jdk_38_method_24_code 18 = .ok (.iadd, 1) := by decide +kernel
theorem own_dAd5_19 : decode jdk_38_method_24_code 19 = .ok (.putfield 48, 3) := by decide +kernel
theorem own_dAd5_22 : decode jdk_38_method_24_code 22 = .ok (.return_, 1) := by decide +kernel
theorem own_efAd5 (m : MethodId) (xo : Addr) (xe : Addr) (xa : Addr) : entryFrame m #[(.ref xo), (.ref xe), (.ref xa), (.int (5 : Int32))] 4 = mkF m 0 #[.val (.ref xo), .val (.ref xe), .val (.ref xa), .val (.int (5 : Int32))] [] := by first | (simp [entryFrame, mkF, argsToLocals, Value.category]; done) | rfl
def own_QAd5 (Z : State) (xo : Addr) (xe : Addr) (xa : Addr) (xm : Int32) (ka : ClassId) (y0 : Addr) (y1 : Addr) (y2 : Addr) (y3 : Addr) (y4 : Addr) (h0 : Heap) (n0 : Nat) (v : Option Value) (h : Heap) (L : List Loc) : Prop := v = none ∧ Fr n0 L ∧ Keep h0 h [xo, xa] ∧ own_SK Z h0 h ∧ Exa Z h xo "java/util/ArrayList" ∧ Fld Z h xo "java/util/AbstractList" "modCount" "I" (.int xm) ∧ Fld Z h xo "java/util/ArrayList" "elementData" "[Ljava/lang/Object;" (.ref xa) ∧ Fld Z h xo "java/util/ArrayList" "size" "I" (.int (6 : Int32)) ∧ own_A Z h xa ka (.object "java/lang/Object") [(.ref y0), (.ref y1), (.ref y2), (.ref y3), (.ref y4), (.ref xe), .null, .null, .null, .null]
set_option maxRecDepth 65536 in
set_option maxHeartbeats 40000000 in
theorem own_rAd5 (l : Launch) (Z : State) (a0 : Array Value) (hw : ∀ d ∈ tables_1, d.before a0 Z = true) (ws : List Jvm.Cond) (xo : Addr) (xe : Addr) (xa : Addr) (xm : Int32) (ka : ClassId) (y0 : Addr) (y1 : Addr) (y2 : Addr) (y3 : Addr) (y4 : Addr) (h0 : Heap) (n0 : Nat) (Z0 : n0 ≤ h0.size) (E1 : Exa Z h0 xo "java/util/ArrayList") (Fm : Fld Z h0 xo "java/util/AbstractList" "modCount" "I" (.int xm)) (Fe : Fld Z h0 xo "java/util/ArrayList" "elementData" "[Ljava/lang/Object;" (.ref xa)) (Fs : Fld Z h0 xo "java/util/ArrayList" "size" "I" (.int (5 : Int32))) (gz : n0 ≤ xo) (ga : n0 ≤ xa) (noa : xo ≠ xa) (Va : own_A Z h0 xa ka (.object "java/lang/Object") [(.ref y0), (.ref y1), (.ref y2), (.ref y3), (.ref y4), .null, .null, .null, .null, .null]) (Ov : Ovr Z ka "java/lang/Object") (Ee : Exa Z h0 xe "com/example/benchlight/benchlight/Bounds$Dimension") :
    MetFree l (⟨"java/util/ArrayList", "add", "(Ljava/lang/Object;[Ljava/lang/Object;I)V"⟩ : MethodName) (head1 (Jvm.Cond.code (⟨"java/util/ArrayList", "add", "(Ljava/lang/Object;[Ljava/lang/Object;I)V"⟩ : MethodName) jdk_38_method_24_code 4 none :: ws) ({ frames := 0, cells := 0, slots := 0, locals := 0 } : Room)) (fun a U => a = #[(.ref xo), (.ref xe), (.ref xa), (.int (5 : Int32))] ∧ Z.Warmed39 U.vm ∧ U.heap = h0) (fun _ _ _ _ _ => True) (fun _ U o U' => ∃ v L, o = .returned v ∧ own_QAd5 Z xo xe xa xm ka y0 y1 y2 y3 y4 h0 n0 v U'.heap L ∧ FrameEnd U o U' L ({ frames := 0, cells := 0, slots := 0, locals := 0 } : Room).cells ({ frames := 0, cells := 0, slots := 0, locals := 0 } : Room).slots) := by
  refine MetFree.of_bodySF (plainFor_of_name own_pn5) hisR ?_
  intro p e s m args below meth c s₁ Bd hml0 hP hK
  obtain ⟨rfl, hZ, hh⟩ := hP
  have hx := Bd.exec
  have hby := Bd.bytes
  have hml : c.maxLocals = 4 := hml0
  have hown : s.vm.findClass "java/util/ArrayList" = some m.cls := findClass_of_methodNamed Bd.named
  have hnm := (name_of_methodNamed Bd.named Bd.method).1
  have X0 : Stand p l e ({ frames := 0, cells := 0, slots := 0, locals := 0 } : Room) s m #[(.ref xo), (.ref xe), (.ref xa), (.int (5 : Int32))] below meth c s₁ [] 0 0 := Stand.of_body Bd
  have e0 : s₁.heap = h0 := by rw [← hh, Bd.state]; rfl
  have N0 := Fr.nil n0
  show own_F p e below (fun o U' => ∃ v L, o = .returned v ∧ own_QAd5 Z xo xe xa xm ka y0 y1 y2 y3 y4 h0 n0 v U'.heap L ∧ FrameEnd s o U' L ({ frames := 0, cells := 0, slots := 0, locals := 0 } : Room).cells ({ frames := 0, cells := 0, slots := 0, locals := 0 } : Room).slots) s₁ (entryFrame m #[(.ref xo), (.ref xe), (.ref xa), (.int (5 : Int32))] 4)
  rw [own_efAd5 m xo xe xa]
  refine own_go (T' := s₁) (g' := (mkF m 1 #[.val (.ref xo), .val (.ref xe), .val (.ref xa), .val (.int (5 : Int32))] [(.int (5 : Int32))])) (fun _ k => XS.iloadN X0.here hx rfl (hb hby own_dAd5_0) rfl k) ?_
  refine own_go (T' := s₁) (g' := (mkF m 2 #[.val (.ref xo), .val (.ref xe), .val (.ref xa), .val (.int (5 : Int32))] [(.ref xa), (.int (5 : Int32))])) (fun _ k => XS.aloadN X0.here hx rfl (hb hby own_dAd5_1) rfl rfl k) ?_
  refine own_go (T' := s₁) (g' := (mkF m 3 #[.val (.ref xo), .val (.ref xe), .val (.ref xa), .val (.int (5 : Int32))] [(.int (10 : Int32)), (.int (5 : Int32))])) (fun _ k => own_alen X0 hx hZ e0 Va (g := (mkF m 2 #[.val (.ref xo), .val (.ref xe), .val (.ref xa), .val (.int (5 : Int32))] [(.ref xa), (.int (5 : Int32))])) rfl rfl (hb hby own_dAd5_2) (n := (10 : Int32)) rfl k) ?_
  refine own_go (T' := s₁) (g' := (mkF m 11 #[.val (.ref xo), .val (.ref xe), .val (.ref xa), .val (.int (5 : Int32))] [])) (fun _ k => XS.icmpYes X0.here hx rfl (pc0 := 3) (pc' := 11) rfl (hb hby own_dAd5_3) rfl (feq ((by decide) : ¬ ((5 : Int32) = (10 : Int32)))).2 (by decide) (by decide) k) ?_
  refine own_go (T' := s₁) (g' := (mkF m 12 #[.val (.ref xo), .val (.ref xe), .val (.ref xa), .val (.int (5 : Int32))] [(.ref xa)])) (fun _ k => XS.aloadN X0.here hx rfl (hb hby own_dAd5_11) rfl rfl k) ?_
  refine own_go (T' := s₁) (g' := (mkF m 13 #[.val (.ref xo), .val (.ref xe), .val (.ref xa), .val (.int (5 : Int32))] [(.int (5 : Int32)), (.ref xa)])) (fun _ k => XS.iloadN X0.here hx rfl (hb hby own_dAd5_12) rfl k) ?_
  refine own_go (T' := s₁) (g' := (mkF m 14 #[.val (.ref xo), .val (.ref xe), .val (.ref xa), .val (.int (5 : Int32))] [(.ref xe), (.int (5 : Int32)), (.ref xa)])) (fun _ k => XS.aloadN X0.here hx rfl (hb hby own_dAd5_13) rfl rfl k) ?_
  obtain ⟨T1, h1, X1, e1, V1, W1, st1⟩ := own_aastore X0 hx hZ e0 Va (j := (5 : Int32)) (i := 5) rfl (by decide) (Nat.le_of_ble_eq_true rfl) rfl (own_A.sto Va Ov (Ins.of_exa Ee (hw _ (List.mem_of_getElem? (i := 82) rfl)))) (g := (mkF m 14 #[.val (.ref xo), .val (.ref xe), .val (.ref xa), .val (.int (5 : Int32))] [(.ref xe), (.int (5 : Int32)), (.ref xa)])) rfl rfl (hb hby own_dAd5_14)
  have Va1 : own_A Z h1 xa ka (.object "java/lang/Object") [(.ref y0), (.ref y1), (.ref y2), (.ref y3), (.ref y4), (.ref xe), .null, .null, .null, .null] := V1
  have Ek2 := E1.wr W1
  have Fk3 := Fm.other W1 (Or.inl noa)
  have Fk4 := Fe.other W1 (Or.inl noa)
  have Fk5 := Fs.other W1 (Or.inl noa)
  have Ek6 := Ee.wr W1
  have Z1 : n0 ≤ h1.size := Nat.le_trans Z0 (Keep.of_wr W1).1
  have K1 : Keep h0 h1 [xo, xa] := (Keep.refl h0 [xo, xa]).wr W1 (Or.inl (List.mem_of_getElem? (i := 1) rfl))
  have N1 := Fr.snoc X1 N0 ga
  have SK1 : own_SK Z h0 h1 := (own_SK.rf Z h0).wr W1
  refine own_go (T' := T1) (g' := (mkF m 15 #[.val (.ref xo), .val (.ref xe), .val (.ref xa), .val (.int (5 : Int32))] [])) (fun _ k => st1 _ k) ?_
  refine own_go (T' := T1) (g' := (mkF m 16 #[.val (.ref xo), .val (.ref xe), .val (.ref xa), .val (.int (5 : Int32))] [(.ref xo)])) (fun _ k => XS.aloadN X1.here hx rfl (hb hby own_dAd5_15) rfl rfl k) ?_
  refine own_go (T' := T1) (g' := (mkF m 17 #[.val (.ref xo), .val (.ref xe), .val (.ref xa), .val (.int (5 : Int32))] [(.int (5 : Int32)), (.ref xo)])) (fun _ k => XS.iloadN X1.here hx rfl (hb hby own_dAd5_16) rfl k) ?_
  refine own_go (T' := T1) (g' := (mkF m 18 #[.val (.ref xo), .val (.ref xe), .val (.ref xa), .val (.int (5 : Int32))] [(.int (1 : Int32)), (.int (5 : Int32)), (.ref xo)])) (fun _ k => XS.iconst X1.here hx rfl (hb hby own_dAd5_17) k) ?_
  refine own_go (T' := T1) (g' := (mkF m 19 #[.val (.ref xo), .val (.ref xe), .val (.ref xa), .val (.int (5 : Int32))] [(.int (6 : Int32)), (.ref xo)])) (fun _ k => XS.iadd X1.here hx rfl (hb hby own_dAd5_18) rfl k) ?_
  obtain ⟨T7, h7, X7, e7, W7, st7⟩ := putF X1 hx hZ hown (host := "") (Or.inl (hw _ (List.mem_of_getElem? (i := 59) rfl))) Via.refl e1 Fk5 Ek2 (Or.inl (hw _ (List.mem_of_getElem? (i := 60) rfl))) (hw _ (List.mem_of_getElem? (i := 11) rfl)) (ty := .int) (by decide) rfl rfl (g := (mkF m 19 #[.val (.ref xo), .val (.ref xe), .val (.ref xa), .val (.int (5 : Int32))] [(.int (6 : Int32)), (.ref xo)])) rfl rfl (hb hby own_dAd5_19)
  have Fw7 := Fk5.same W7
  have Ek8 := Ek2.wr W7
  have Fk9 := Fk3.other W7 (Or.inr (slot_ne (Or.inl (hw _ (List.mem_of_getElem? (i := 32) rfl))) (Or.inl (hw _ (List.mem_of_getElem? (i := 60) rfl))) (by decide) (t := .int) (t' := .int) (by decide) (by decide)))
  have Fk10 := Fk4.other W7 (Or.inr (slot_ne (Or.inl (hw _ (List.mem_of_getElem? (i := 35) rfl))) (Or.inl (hw _ (List.mem_of_getElem? (i := 60) rfl))) (by decide) (t := (.array (.object "java/lang/Object"))) (t' := .int) (by decide) (by decide)))
  have Ek11 := Ek6.wr W7
  have Vk12 := Va1.other W7 (Ne.symm noa)
  have Z7 : n0 ≤ h7.size := Nat.le_trans Z1 (Keep.of_wr W7).1
  have K7 : Keep h0 h7 [xo, xa] := K1.wr W7 (Or.inl (List.mem_of_getElem? (i := 0) rfl))
  have N7 := Fr.snoc X7 N1 gz
  have SK7 : own_SK Z h0 h7 := SK1.wr W7
  refine own_go (T' := T7) (g' := (mkF m 22 #[.val (.ref xo), .val (.ref xe), .val (.ref xa), .val (.int (5 : Int32))] [])) (fun _ k => st7 _ k) ?_
  obtain ⟨fs, hr, hrun, hended, hW, hsame⟩ := X7.leave (v := none) (fun _ => rfl)
  refine own_end (X7.returnOut hx Bd.returns (hb hby own_dAd5_22) hr) hrun hended ⟨_, _, rfl, (?_ : own_QAd5 Z xo xe xa xm ka y0 y1 y2 y3 y4 h0 n0 _ T7.heap _), ⟨_, rfl⟩, hW, hsame.mono (by decide) (by decide)⟩
  rw [e7]
  exact ⟨rfl, N7, K7, SK7, Ek8, Fk9, Fk10, Fw7, Vk12⟩
theorem own_dA5_0 : decode jdk_38_method_25_code 0 = .ok (.aload_n 0, 1) := by decide +kernel
theorem own_dA5_1 : decode jdk_38_method_25_code 1 = .ok (.dup, 1) := by decide +kernel
theorem own_dA5_2 : decode jdk_38_method_25_code 2 = .ok (.getfield 63, 3) := by decide +kernel
theorem own_dA5_5 : decode jdk_38_method_25_code 5 = .ok (.iconst 1, 1) := by decide +kernel
theorem own_dA5_6 : decode jdk_38_method_25_code 6 = .ok (.iadd, 1) := by decide +kernel
theorem own_dA5_7 : decode jdk_38_method_25_code 7 = .ok (.putfield 63, 3) := by decide +kernel
theorem own_dA5_10 : decode jdk_38_method_25_code 10 = .ok (.aload_n 0, 1) := by decide +kernel
theorem own_dA5_11 : decode jdk_38_method_25_code 11 = .ok (.aload_n 1, 1) := by decide +kernel
theorem own_dA5_12 : decode jdk_38_method_25_code 12 = .ok (.aload_n 0, 1) := by decide +kernel
theorem own_dA5_13 : decode jdk_38_method_25_code 13 = .ok (.getfield 9, 3) := by decide +kernel
theorem own_dA5_16 : decode jdk_38_method_25_code 16 = .ok (.aload_n 0, 1) := by decide +kernel
theorem own_dA5_17 : decode jdk_38_method_25_code 17 = .ok (.getfield 48, 3) := by decide +kernel
theorem own_dA5_20 : decode jdk_38_method_25_code 20 = .ok (.invokevirtual 131, 3) := by decide +kernel
theorem own_dA5_23 : decode jdk_38_method_25_code 23 = .ok (.iconst 1, 1) := by decide +kernel
theorem own_dA5_24 : decode jdk_38_method_25_code 24 = .ok (.ireturn, 1) := by decide +kernel
theorem own_efA5 (m : MethodId) (xo : Addr) (xe : Addr) : entryFrame m #[(.ref xo), (.ref xe)] 2 = mkF m 0 #[.val (.ref xo), .val (.ref xe)] [] := by first | (simp [entryFrame, mkF, argsToLocals, Value.category]; done) | rfl
def own_QA5 (Z : State) (xo : Addr) (xe : Addr) (xm : Int32) (xa : Addr) (ka : ClassId) (y0 : Addr) (y1 : Addr) (y2 : Addr) (y3 : Addr) (y4 : Addr) (h0 : Heap) (n0 : Nat) (v : Option Value) (h : Heap) (L : List Loc) : Prop := v = some (.int (1 : Int32)) ∧ Fr n0 L ∧ Keep h0 h [xo, xa] ∧ own_SK Z h0 h ∧ Exa Z h xo "java/util/ArrayList" ∧ Fld Z h xo "java/util/AbstractList" "modCount" "I" (.int (xm + (1 : Int32))) ∧ Fld Z h xo "java/util/ArrayList" "elementData" "[Ljava/lang/Object;" (.ref xa) ∧ Fld Z h xo "java/util/ArrayList" "size" "I" (.int (6 : Int32)) ∧ own_A Z h xa ka (.object "java/lang/Object") [(.ref y0), (.ref y1), (.ref y2), (.ref y3), (.ref y4), (.ref xe), .null, .null, .null, .null]
set_option maxRecDepth 65536 in
set_option maxHeartbeats 40000000 in
theorem own_rA5 (l : Launch) (Z : State) (a0 : Array Value) (hw : ∀ d ∈ tables_1, d.before a0 Z = true) (ws : List Jvm.Cond) (xo : Addr) (xe : Addr) (xm : Int32) (xa : Addr) (ka : ClassId) (y0 : Addr) (y1 : Addr) (y2 : Addr) (y3 : Addr) (y4 : Addr) (h0 : Heap) (n0 : Nat) (Z0 : n0 ≤ h0.size) (E1 : Exa Z h0 xo "java/util/ArrayList") (Fm : Fld Z h0 xo "java/util/AbstractList" "modCount" "I" (.int xm)) (Fe : Fld Z h0 xo "java/util/ArrayList" "elementData" "[Ljava/lang/Object;" (.ref xa)) (Fs : Fld Z h0 xo "java/util/ArrayList" "size" "I" (.int (5 : Int32))) (gz : n0 ≤ xo) (ga : n0 ≤ xa) (noa : xo ≠ xa) (Va : own_A Z h0 xa ka (.object "java/lang/Object") [(.ref y0), (.ref y1), (.ref y2), (.ref y3), (.ref y4), .null, .null, .null, .null, .null]) (Ov : Ovr Z ka "java/lang/Object") (Ee : Exa Z h0 xe "com/example/benchlight/benchlight/Bounds$Dimension") :
    MetFree l (⟨"java/util/ArrayList", "add", "(Ljava/lang/Object;)Z"⟩ : MethodName) (head1 (Jvm.Cond.code (⟨"java/util/ArrayList", "add", "(Ljava/lang/Object;)Z"⟩ : MethodName) jdk_38_method_25_code 2 (some .boolean) :: ws) ({ frames := 1, cells := 0, slots := 0, locals := 15 } : Room)) (fun a U => a = #[(.ref xo), (.ref xe)] ∧ Z.Warmed39 U.vm ∧ U.heap = h0) (fun _ _ _ _ _ => True) (fun _ U o U' => ∃ v L, o = .returned v ∧ own_QA5 Z xo xe xm xa ka y0 y1 y2 y3 y4 h0 n0 v U'.heap L ∧ FrameEnd U o U' L ({ frames := 1, cells := 0, slots := 0, locals := 15 } : Room).cells ({ frames := 1, cells := 0, slots := 0, locals := 15 } : Room).slots) := by
  refine MetFree.of_bodySF (plainFor_of_name own_pn5) hisR ?_
  intro p e s m args below meth c s₁ Bd hml0 hP hK
  obtain ⟨rfl, hZ, hh⟩ := hP
  have hx := Bd.exec
  have hby := Bd.bytes
  have hml : c.maxLocals = 2 := hml0
  have hown : s.vm.findClass "java/util/ArrayList" = some m.cls := findClass_of_methodNamed Bd.named
  have hnm := (name_of_methodNamed Bd.named Bd.method).1
  have X0 : Stand p l e ({ frames := 1, cells := 0, slots := 0, locals := 15 } : Room) s m #[(.ref xo), (.ref xe)] below meth c s₁ [] 0 0 := Stand.of_body Bd
  have e0 : s₁.heap = h0 := by rw [← hh, Bd.state]; rfl
  have N0 := Fr.nil n0
  show own_F p e below (fun o U' => ∃ v L, o = .returned v ∧ own_QA5 Z xo xe xm xa ka y0 y1 y2 y3 y4 h0 n0 v U'.heap L ∧ FrameEnd s o U' L ({ frames := 1, cells := 0, slots := 0, locals := 15 } : Room).cells ({ frames := 1, cells := 0, slots := 0, locals := 15 } : Room).slots) s₁ (entryFrame m #[(.ref xo), (.ref xe)] 2)
  rw [own_efA5 m xo xe]
  refine own_go (T' := s₁) (g' := (mkF m 1 #[.val (.ref xo), .val (.ref xe)] [(.ref xo)])) (fun _ k => XS.aloadN X0.here hx rfl (hb hby own_dA5_0) rfl rfl k) ?_
  refine own_go (T' := s₁) (g' := (mkF m 2 #[.val (.ref xo), .val (.ref xe)] [(.ref xo), (.ref xo)])) (fun _ k => XS.dup X0.here hx rfl (hb hby own_dA5_1) rfl rfl k) ?_
  obtain ⟨T1, X1, e1, st1⟩ := getF X0 hx hZ hown (host := "") (Or.inl (hw _ (List.mem_of_getElem? (i := 57) rfl))) (Via.of (hw _ (List.mem_of_getElem? (i := 58) rfl))) e0 Fm (g := (mkF m 2 #[.val (.ref xo), .val (.ref xe)] [(.ref xo), (.ref xo)])) rfl rfl (hb hby own_dA5_2)
  refine own_go (T' := T1) (g' := (mkF m 5 #[.val (.ref xo), .val (.ref xe)] [(.int xm), (.ref xo)])) (fun _ k => st1 _ k) ?_
  refine own_go (T' := T1) (g' := (mkF m 6 #[.val (.ref xo), .val (.ref xe)] [(.int (1 : Int32)), (.int xm), (.ref xo)])) (fun _ k => XS.iconst X1.here hx rfl (hb hby own_dA5_5) k) ?_
  refine own_go (T' := T1) (g' := (mkF m 7 #[.val (.ref xo), .val (.ref xe)] [(.int (xm + (1 : Int32))), (.ref xo)])) (fun _ k => XS.iadd X1.here hx rfl (hb hby own_dA5_6) rfl k) ?_
  obtain ⟨T2, h2, X2, e2, W2, st2⟩ := putF X1 hx hZ hown (host := "") (Or.inl (hw _ (List.mem_of_getElem? (i := 57) rfl))) (Via.of (hw _ (List.mem_of_getElem? (i := 58) rfl))) e1 Fm E1 (Or.inl (hw _ (List.mem_of_getElem? (i := 32) rfl))) (hw _ (List.mem_of_getElem? (i := 11) rfl)) (ty := .int) (by decide) rfl rfl (g := (mkF m 7 #[.val (.ref xo), .val (.ref xe)] [(.int (xm + (1 : Int32))), (.ref xo)])) rfl rfl (hb hby own_dA5_7)
  have Fw2 := Fm.same W2
  have Ek3 := E1.wr W2
  have Fk4 := Fe.other W2 (Or.inr (slot_ne (Or.inl (hw _ (List.mem_of_getElem? (i := 35) rfl))) (Or.inl (hw _ (List.mem_of_getElem? (i := 32) rfl))) (by decide) (t := (.array (.object "java/lang/Object"))) (t' := .int) (by decide) (by decide)))
  have Fk5 := Fs.other W2 (Or.inr (slot_ne (Or.inl (hw _ (List.mem_of_getElem? (i := 60) rfl))) (Or.inl (hw _ (List.mem_of_getElem? (i := 32) rfl))) (by decide) (t := .int) (t' := .int) (by decide) (by decide)))
  have Vk6 := Va.other W2 (Ne.symm noa)
  have Ek7 := Ee.wr W2
  have Z2 : n0 ≤ h2.size := Nat.le_trans Z0 (Keep.of_wr W2).1
  have K2 : Keep h0 h2 [xo, xa] := (Keep.refl h0 [xo, xa]).wr W2 (Or.inl (List.mem_of_getElem? (i := 0) rfl))
  have N2 := Fr.snoc X2 N0 gz
  have SK2 : own_SK Z h0 h2 := (own_SK.rf Z h0).wr W2
  refine own_go (T' := T2) (g' := (mkF m 10 #[.val (.ref xo), .val (.ref xe)] [])) (fun _ k => st2 _ k) ?_
  refine own_go (T' := T2) (g' := (mkF m 11 #[.val (.ref xo), .val (.ref xe)] [(.ref xo)])) (fun _ k => XS.aloadN X2.here hx rfl (hb hby own_dA5_10) rfl rfl k) ?_
  refine own_go (T' := T2) (g' := (mkF m 12 #[.val (.ref xo), .val (.ref xe)] [(.ref xe), (.ref xo)])) (fun _ k => XS.aloadN X2.here hx rfl (hb hby own_dA5_11) rfl rfl k) ?_
  refine own_go (T' := T2) (g' := (mkF m 13 #[.val (.ref xo), .val (.ref xe)] [(.ref xo), (.ref xe), (.ref xo)])) (fun _ k => XS.aloadN X2.here hx rfl (hb hby own_dA5_12) rfl rfl k) ?_
  obtain ⟨T8, X8, e8, st8⟩ := getF X2 hx hZ hown (host := "") (Or.inl (hw _ (List.mem_of_getElem? (i := 34) rfl))) Via.refl e2 Fk4 (g := (mkF m 13 #[.val (.ref xo), .val (.ref xe)] [(.ref xo), (.ref xe), (.ref xo)])) rfl rfl (hb hby own_dA5_13)
  refine own_go (T' := T8) (g' := (mkF m 16 #[.val (.ref xo), .val (.ref xe)] [(.ref xa), (.ref xe), (.ref xo)])) (fun _ k => st8 _ k) ?_
  refine own_go (T' := T8) (g' := (mkF m 17 #[.val (.ref xo), .val (.ref xe)] [(.ref xo), (.ref xa), (.ref xe), (.ref xo)])) (fun _ k => XS.aloadN X8.here hx rfl (hb hby own_dA5_16) rfl rfl k) ?_
  obtain ⟨T9, X9, e9, st9⟩ := getF X8 hx hZ hown (host := "") (Or.inl (hw _ (List.mem_of_getElem? (i := 59) rfl))) Via.refl e8 Fk5 (g := (mkF m 17 #[.val (.ref xo), .val (.ref xe)] [(.ref xo), (.ref xa), (.ref xe), (.ref xo)])) rfl rfl (hb hby own_dA5_17)
  refine own_go (T' := T9) (g' := (mkF m 20 #[.val (.ref xo), .val (.ref xe)] [(.int (5 : Int32)), (.ref xa), (.ref xe), (.ref xo)])) (fun _ k => st9 _ k) ?_
  obtain ⟨cq10, q10, q10'⟩ := Ek3.cell
  obtain ⟨_, _, ⟨T10, L10, k10, n10⟩, -, X10, ⟨Lc10, hQ10, l10, y10, z10⟩, st10⟩ := X9.privateBack hx (y := (⟨"java/util/ArrayList", "add", "(Ljava/lang/Object;[Ljava/lang/Object;I)V"⟩ : MethodName)) hown (mvT hZ (hw _ (List.mem_of_getElem? (i := 61) rfl))) (mvT hZ (hw _ (List.mem_of_getElem? (i := 62) rfl))) (mvT hZ (hw _ (List.mem_of_getElem? (i := 64) rfl))) (Cond.privateMethod_at (mvP hZ (hw _ (List.mem_of_getElem? (i := 63) rfl)) (args := #[]))) (mvT hZ (hw _ (List.mem_of_getElem? (i := 65) rfl))) (by decide) (backOf (W := 0) (own_rAd5 l Z a0 hw [] xo xe xa (xm + (1 : Int32)) ka y0 y1 y2 y3 y4 h2 n0 Z2 Ek3 Fw2 Fk4 Fk5 gz ga noa Vk6 Ov Ek7) hZ (hw _ (List.mem_of_getElem? (i := 65) rfl)) (hw _ (List.mem_of_getElem? (i := 12) rfl)) (by decide) (by decide)) (g := (mkF m 20 #[.val (.ref xo), .val (.ref xe)] [(.int (5 : Int32)), (.ref xa), (.ref xe), (.ref xo)])) rfl (by rw [hml]; rfl) (Steps.refl _) (a := xo) (by rw [e9]; exact q10) q10' (argsL := [(.ref xe), (.ref xa), (.int (5 : Int32))]) (rest := []) (lenOf own_pd6 rfl) rfl (by show 2 * 0 + _ ≤ _; exact Nat.le_of_eq rfl) (hb hby own_dA5_20) (fun _ _ => ⟨rfl, e9, (by decide : 0 + 0 ≤ _), (by decide : 0 + 0 ≤ _)⟩)
  dsimp only [Pt.U, Pt.locs, Pt.cells, Pt.slots] at X10 l10 y10 z10 st10 hQ10
  subst l10 y10 z10
  obtain ⟨rfl, N10q, Kc10, SKc10, Ec10, Fmc10, Fec10, Fsc10, Vc10⟩ := hQ10
  have N10 := Fr.app N2 N10q
  have Ek11 := Ek7.keep Kc10
  have Z10 : n0 ≤ T10.heap.size := Nat.le_trans Z2 Kc10.1
  have SK10 : own_SK Z h0 T10.heap := SK2.tr SKc10
  have K10 : Keep h0 T10.heap [xo, xa] := K2.trans Kc10 (own_or2 (Or.inl (List.mem_of_getElem? (i := 0) rfl)) (Or.inl (List.mem_of_getElem? (i := 1) rfl)))
  refine own_goT (T' := T10) (g' := (mkF m 23 #[.val (.ref xo), .val (.ref xe)] [])) st10 ?_
  refine own_go (T' := T10) (g' := (mkF m 24 #[.val (.ref xo), .val (.ref xe)] [(.int (1 : Int32))])) (fun _ k => XS.iconst X10.here hx rfl (hb hby own_dA5_23) k) ?_
  obtain ⟨fs, hr, hrun, hended, hW, hsame⟩ := X10.leave (v := some (.int (1 : Int32))) (fun h => by rw [Bd.returns] at h; cases h)
  refine own_end (retN X10 hx (t := .boolean) Bd.returns (by simp) (hb hby own_dA5_24) hr) hrun hended ⟨_, _, rfl, (?_ : own_QA5 Z xo xe xm xa ka y0 y1 y2 y3 y4 h0 n0 _ T10.heap _), ⟨_, rfl⟩, hW, hsame.mono (by decide) (by decide)⟩
  exact ⟨rfl, N10, K10, SK10, Ec10, Fmc10, Fec10, Fsc10, Vc10⟩
theorem own_dSz_0 : decode jdk_38_method_8_code 0 = .ok (.aload_n 0, 1) := by decide +kernel
theorem own_dSz_1 : decode jdk_38_method_8_code 1 = .ok (.getfield 48, 3) := by decide +kernel
theorem own_dSz_4 : decode jdk_38_method_8_code 4 = .ok (.ireturn, 1) := by decide +kernel
theorem own_efSz (m : MethodId) (xo : Addr) : entryFrame m #[(.ref xo)] 1 = mkF m 0 #[.val (.ref xo)] [] := by first | (simp [entryFrame, mkF, argsToLocals, Value.category]; done) | rfl
def own_QSz (Z : State) (xo : Addr) (xn : Int32) (h0 : Heap) (n0 : Nat) (v : Option Value) (h : Heap) (L : List Loc) : Prop := v = some (.int xn) ∧ Fr n0 L ∧ h = h0
set_option maxRecDepth 65536 in
set_option maxHeartbeats 40000000 in
theorem own_rSz (l : Launch) (Z : State) (a0 : Array Value) (hw : ∀ d ∈ tables_1, d.before a0 Z = true) (ws : List Jvm.Cond) (xo : Addr) (xn : Int32) (h0 : Heap) (n0 : Nat) (Z0 : n0 ≤ h0.size) (Fs : Fld Z h0 xo "java/util/ArrayList" "size" "I" (.int xn)) :
    MetFree l (⟨"java/util/ArrayList", "size", "()I"⟩ : MethodName) (head1 (Jvm.Cond.code (⟨"java/util/ArrayList", "size", "()I"⟩ : MethodName) jdk_38_method_8_code 1 (some .int) :: ws) ({ frames := 0, cells := 0, slots := 0, locals := 0 } : Room)) (fun a U => a = #[(.ref xo)] ∧ Z.Warmed39 U.vm ∧ U.heap = h0) (fun _ _ _ _ _ => True) (fun _ U o U' => ∃ v L, o = .returned v ∧ own_QSz Z xo xn h0 n0 v U'.heap L ∧ FrameEnd U o U' L ({ frames := 0, cells := 0, slots := 0, locals := 0 } : Room).cells ({ frames := 0, cells := 0, slots := 0, locals := 0 } : Room).slots) := by
  refine MetFree.of_bodySF (plainFor_of_name own_pn5) hisR ?_
  intro p e s m args below meth c s₁ Bd hml0 hP hK
  obtain ⟨rfl, hZ, hh⟩ := hP
  have hx := Bd.exec
  have hby := Bd.bytes
  have hml : c.maxLocals = 1 := hml0
  have hown : s.vm.findClass "java/util/ArrayList" = some m.cls := findClass_of_methodNamed Bd.named
  have hnm := (name_of_methodNamed Bd.named Bd.method).1
  have X0 : Stand p l e ({ frames := 0, cells := 0, slots := 0, locals := 0 } : Room) s m #[(.ref xo)] below meth c s₁ [] 0 0 := Stand.of_body Bd
  have e0 : s₁.heap = h0 := by rw [← hh, Bd.state]; rfl
  have N0 := Fr.nil n0
  show own_F p e below (fun o U' => ∃ v L, o = .returned v ∧ own_QSz Z xo xn h0 n0 v U'.heap L ∧ FrameEnd s o U' L ({ frames := 0, cells := 0, slots := 0, locals := 0 } : Room).cells ({ frames := 0, cells := 0, slots := 0, locals := 0 } : Room).slots) s₁ (entryFrame m #[(.ref xo)] 1)
  rw [own_efSz m xo]
  refine own_go (T' := s₁) (g' := (mkF m 1 #[.val (.ref xo)] [(.ref xo)])) (fun _ k => XS.aloadN X0.here hx rfl (hb hby own_dSz_0) rfl rfl k) ?_
  obtain ⟨T1, X1, e1, st1⟩ := getF X0 hx hZ hown (host := "") (Or.inl (hw _ (List.mem_of_getElem? (i := 59) rfl))) Via.refl e0 Fs (g := (mkF m 1 #[.val (.ref xo)] [(.ref xo)])) rfl rfl (hb hby own_dSz_1)
  refine own_go (T' := T1) (g' := (mkF m 4 #[.val (.ref xo)] [(.int xn)])) (fun _ k => st1 _ k) ?_
  obtain ⟨fs, hr, hrun, hended, hW, hsame⟩ := X1.leave (v := some (.int xn)) (fun h => by rw [Bd.returns] at h; cases h)
  refine own_end (retOut X1 hx Bd.returns rfl (Or.inl ⟨rfl, Or.inl rfl, _, rfl⟩) (hb hby own_dSz_4) hr) hrun hended ⟨_, _, rfl, (?_ : own_QSz Z xo xn h0 n0 _ T1.heap _), ⟨_, rfl⟩, hW, hsame.mono (by decide) (by decide)⟩
  rw [e1]
  exact ⟨rfl, N0, rfl⟩
theorem own_dCi_0 : decode jdk_41_method_11_code 0 = .ok (.iload_n 0, 1) := by decide +kernel
theorem own_dCi_1 : decode jdk_41_method_11_code 1 = .ok (.ifCond .lt 8, 3) := by decide +kernel
theorem own_dCi_4 : decode jdk_41_method_11_code 4 = .ok (.iload_n 0, 1) := by decide +kernel
theorem own_dCi_5 : decode jdk_41_method_11_code 5 = .ok (.iload_n 1, 1) := by decide +kernel
theorem own_dCi_6 : decode jdk_41_method_11_code 6 = .ok (.if_icmp .lt 10, 3) := by decide +kernel
theorem own_dCi_16 : decode jdk_41_method_11_code 16 = .ok (.iload_n 0, 1) := by decide +kernel
theorem own_dCi_17 : decode jdk_41_method_11_code 17 = .ok (.ireturn, 1) := by decide +kernel
theorem own_efCi (m : MethodId) (xi : Int32) (xn : Int32) : entryFrame m #[(.int xi), (.int xn), .null] 3 = mkF m 0 #[.val (.int xi), .val (.int xn), .val .null] [] := by first | (simp [entryFrame, mkF, argsToLocals, Value.category]; done) | rfl
def own_QCi (Z : State) (xi : Int32) (xn : Int32)  (h0 : Heap) (n0 : Nat) (v : Option Value) (h : Heap) (L : List Loc) : Prop := v = some (.int xi) ∧ Fr n0 L ∧ h = h0
theorem own_pn6 : plainName "jdk/internal/util/Preconditions" = true := by first | (simp [plainName, overriddenIn]; done) | decide +kernel
set_option maxRecDepth 65536 in
set_option maxHeartbeats 40000000 in
theorem own_rCi (l : Launch) (Z : State) (a0 : Array Value) (hw : ∀ d ∈ tables_1, d.before a0 Z = true) (ws : List Jvm.Cond) (xi : Int32) (xn : Int32)  (h0 : Heap) (n0 : Nat) (Z0 : n0 ≤ h0.size) (h1 : ¬ xi < (0 : Int32)) (h2 : xi < xn) :
    MetFree l (⟨"jdk/internal/util/Preconditions", "checkIndex", "(IILjava/util/function/BiFunction;)I"⟩ : MethodName) (head1 (Jvm.Cond.code (⟨"jdk/internal/util/Preconditions", "checkIndex", "(IILjava/util/function/BiFunction;)I"⟩ : MethodName) jdk_41_method_11_code 3 (some .int) :: ws) ({ frames := 0, cells := 0, slots := 0, locals := 0 } : Room)) (fun a U => a = #[(.int xi), (.int xn), .null] ∧ Z.Warmed39 U.vm ∧ U.heap = h0) (fun _ _ _ _ _ => True) (fun _ U o U' => ∃ v L, o = .returned v ∧ own_QCi Z xi xn h0 n0 v U'.heap L ∧ FrameEnd U o U' L ({ frames := 0, cells := 0, slots := 0, locals := 0 } : Room).cells ({ frames := 0, cells := 0, slots := 0, locals := 0 } : Room).slots) := by
  refine MetFree.of_bodySF (plainFor_of_name own_pn6) hisR ?_
  intro p e s m args below meth c s₁ Bd hml0 hP hK
  obtain ⟨rfl, hZ, hh⟩ := hP
  have hx := Bd.exec
  have hby := Bd.bytes
  have hml : c.maxLocals = 3 := hml0
  have hown : s.vm.findClass "jdk/internal/util/Preconditions" = some m.cls := findClass_of_methodNamed Bd.named
  have hnm := (name_of_methodNamed Bd.named Bd.method).1
  have X0 : Stand p l e ({ frames := 0, cells := 0, slots := 0, locals := 0 } : Room) s m #[(.int xi), (.int xn), .null] below meth c s₁ [] 0 0 := Stand.of_body Bd
  have e0 : s₁.heap = h0 := by rw [← hh, Bd.state]; rfl
  have N0 := Fr.nil n0
  show own_F p e below (fun o U' => ∃ v L, o = .returned v ∧ own_QCi Z xi xn h0 n0 v U'.heap L ∧ FrameEnd s o U' L ({ frames := 0, cells := 0, slots := 0, locals := 0 } : Room).cells ({ frames := 0, cells := 0, slots := 0, locals := 0 } : Room).slots) s₁ (entryFrame m #[(.int xi), (.int xn), .null] 3)
  rw [own_efCi m xi xn]
  refine own_go (T' := s₁) (g' := (mkF m 1 #[.val (.int xi), .val (.int xn), .val .null] [(.int xi)])) (fun _ k => XS.iloadN X0.here hx rfl (hb hby own_dCi_0) rfl k) ?_
  refine own_go (T' := s₁) (g' := (mkF m 4 #[.val (.int xi), .val (.int xn), .val .null] [])) (fun _ k => XS.ifNo X0.here hx rfl (hb hby own_dCi_1) rfl ((if0 _ _).trans (flt (h1 : ¬ (xi < (0 : Int32)))).1) k) ?_
  refine own_go (T' := s₁) (g' := (mkF m 5 #[.val (.int xi), .val (.int xn), .val .null] [(.int xi)])) (fun _ k => XS.iloadN X0.here hx rfl (hb hby own_dCi_4) rfl k) ?_
  refine own_go (T' := s₁) (g' := (mkF m 6 #[.val (.int xi), .val (.int xn), .val .null] [(.int xn), (.int xi)])) (fun _ k => XS.iloadN X0.here hx rfl (hb hby own_dCi_5) rfl k) ?_
  refine own_go (T' := s₁) (g' := (mkF m 16 #[.val (.int xi), .val (.int xn), .val .null] [])) (fun _ k => XS.icmpYes X0.here hx rfl (pc0 := 6) (pc' := 16) rfl (hb hby own_dCi_6) rfl (tlt (h2 : xi < xn)).1 (by decide) (by decide) k) ?_
  refine own_go (T' := s₁) (g' := (mkF m 17 #[.val (.int xi), .val (.int xn), .val .null] [(.int xi)])) (fun _ k => XS.iloadN X0.here hx rfl (hb hby own_dCi_16) rfl k) ?_
  obtain ⟨fs, hr, hrun, hended, hW, hsame⟩ := X0.leave (v := some (.int xi)) (fun h => by rw [Bd.returns] at h; cases h)
  refine own_end (retOut X0 hx Bd.returns rfl (Or.inl ⟨rfl, Or.inl rfl, _, rfl⟩) (hb hby own_dCi_17) hr) hrun hended ⟨_, _, rfl, (?_ : own_QCi Z xi xn h0 n0 _ s₁.heap _), ⟨_, rfl⟩, hW, hsame.mono (by decide) (by decide)⟩
  rw [e0]
  exact ⟨rfl, N0, rfl⟩
theorem own_pd7 : parseMethodDescriptor "(IILjava/util/function/BiFunction;)I" = some ⟨[.int, .int, (.object "java/util/function/BiFunction")], some .int⟩ := by decide +kernel
theorem own_dOc_0 : decode jdk_31_method_17_code 0 = .ok (.iload_n 0, 1) := by decide +kernel
theorem own_dOc_1 : decode jdk_31_method_17_code 1 = .ok (.iload_n 1, 1) := by decide +kernel
theorem own_dOc_2 : decode jdk_31_method_17_code 2 = .ok (.aconst_null, 1) := by decide +kernel
theorem own_dOc_3 : decode jdk_31_method_17_code 3 = .ok (.invokestatic 105, 3) := by decide +kernel
theorem own_dOc_6 : decode jdk_31_method_17_code 6 = .ok (.ireturn, 1) := by decide +kernel
theorem own_efOc (m : MethodId) (xi : Int32) (xn : Int32) : entryFrame m #[(.int xi), (.int xn)] 2 = mkF m 0 #[.val (.int xi), .val (.int xn)] [] := by first | (simp [entryFrame, mkF, argsToLocals, Value.category]; done) | rfl
def own_QOc (Z : State) (xi : Int32) (xn : Int32)  (h0 : Heap) (n0 : Nat) (v : Option Value) (h : Heap) (L : List Loc) : Prop := v = some (.int xi) ∧ Fr n0 L ∧ h = h0
theorem own_pn7 : plainName "java/util/Objects" = true := by first | (simp [plainName, overriddenIn]; done) | decide +kernel
set_option maxRecDepth 65536 in
set_option maxHeartbeats 40000000 in
theorem own_rOc (l : Launch) (Z : State) (a0 : Array Value) (hw : ∀ d ∈ tables_1, d.before a0 Z = true) (ws : List Jvm.Cond) (xi : Int32) (xn : Int32)  (h0 : Heap) (n0 : Nat) (Z0 : n0 ≤ h0.size) (h1 : ¬ xi < (0 : Int32)) (h2 : xi < xn) :
    MetFree l (⟨"java/util/Objects", "checkIndex", "(II)I"⟩ : MethodName) (head1 (Jvm.Cond.code (⟨"java/util/Objects", "checkIndex", "(II)I"⟩ : MethodName) jdk_31_method_17_code 2 (some .int) :: ws) ({ frames := 1, cells := 0, slots := 0, locals := 14 } : Room)) (fun a U => a = #[(.int xi), (.int xn)] ∧ Z.Warmed39 U.vm ∧ U.heap = h0) (fun _ _ _ _ _ => True) (fun _ U o U' => ∃ v L, o = .returned v ∧ own_QOc Z xi xn h0 n0 v U'.heap L ∧ FrameEnd U o U' L ({ frames := 1, cells := 0, slots := 0, locals := 14 } : Room).cells ({ frames := 1, cells := 0, slots := 0, locals := 14 } : Room).slots) := by
  refine MetFree.of_bodySF (plainFor_of_name own_pn7) hisR ?_
  intro p e s m args below meth c s₁ Bd hml0 hP hK
  obtain ⟨rfl, hZ, hh⟩ := hP
  have hx := Bd.exec
  have hby := Bd.bytes
  have hml : c.maxLocals = 2 := hml0
  have hown : s.vm.findClass "java/util/Objects" = some m.cls := findClass_of_methodNamed Bd.named
  have hnm := (name_of_methodNamed Bd.named Bd.method).1
  have X0 : Stand p l e ({ frames := 1, cells := 0, slots := 0, locals := 14 } : Room) s m #[(.int xi), (.int xn)] below meth c s₁ [] 0 0 := Stand.of_body Bd
  have e0 : s₁.heap = h0 := by rw [← hh, Bd.state]; rfl
  have N0 := Fr.nil n0
  show own_F p e below (fun o U' => ∃ v L, o = .returned v ∧ own_QOc Z xi xn h0 n0 v U'.heap L ∧ FrameEnd s o U' L ({ frames := 1, cells := 0, slots := 0, locals := 14 } : Room).cells ({ frames := 1, cells := 0, slots := 0, locals := 14 } : Room).slots) s₁ (entryFrame m #[(.int xi), (.int xn)] 2)
  rw [own_efOc m xi xn]
  refine own_go (T' := s₁) (g' := (mkF m 1 #[.val (.int xi), .val (.int xn)] [(.int xi)])) (fun _ k => XS.iloadN X0.here hx rfl (hb hby own_dOc_0) rfl k) ?_
  refine own_go (T' := s₁) (g' := (mkF m 2 #[.val (.int xi), .val (.int xn)] [(.int xn), (.int xi)])) (fun _ k => XS.iloadN X0.here hx rfl (hb hby own_dOc_1) rfl k) ?_
  refine own_go (T' := s₁) (g' := (mkF m 3 #[.val (.int xi), .val (.int xn)] [.null, (.int xn), (.int xi)])) (fun _ k => XS.aconstNull X0.here hx rfl (hb hby own_dOc_2) k) ?_
  obtain ⟨_, _, ⟨T1, L1, k1, n1⟩, -, X1, ⟨Lc1, hQ1, l1, y1, z1⟩, st1⟩ := Jvm.LawKit.callS X0 hx (y := (⟨"jdk/internal/util/Preconditions", "checkIndex", "(IILjava/util/function/BiFunction;)I"⟩ : MethodName)) hown (mvT hZ (hw _ (List.mem_of_getElem? (i := 124) rfl))) (mvT hZ (hw _ (List.mem_of_getElem? (i := 125) rfl))) (mvT hZ (hw _ (List.mem_of_getElem? (i := 126) rfl))) (mvT hZ (hw _ (List.mem_of_getElem? (i := 127) rfl))) (by decide) (backOf (W := 0) (own_rCi l Z a0 hw [] xi xn h0 n0 Z0 h1 h2) hZ (hw _ (List.mem_of_getElem? (i := 127) rfl)) (hw _ (List.mem_of_getElem? (i := 126) rfl)) (by decide) (by decide)) (g := (mkF m 3 #[.val (.int xi), .val (.int xn)] [.null, (.int xn), (.int xi)])) rfl (by rw [hml]; rfl) (argsL := [(.int xi), (.int xn), .null]) (rest := []) (lenOf own_pd7 rfl) rfl (by show 2 * 0 + _ ≤ _; exact Nat.le_of_eq rfl) (hb hby own_dOc_3) (fun _ _ => ⟨rfl, e0, (by decide : 0 + 0 ≤ _), (by decide : 0 + 0 ≤ _)⟩)
  dsimp only [Pt.U, Pt.locs, Pt.cells, Pt.slots] at X1 l1 y1 z1 st1 hQ1
  subst l1 y1 z1
  obtain ⟨rfl, N1q, e1⟩ := hQ1
  have N1 := Fr.app N0 N1q
  refine own_go (T' := T1) (g' := (mkF m 6 #[.val (.int xi), .val (.int xn)] [(.int xi)])) (fun _ k => st1 _ k) ?_
  obtain ⟨fs, hr, hrun, hended, hW, hsame⟩ := X1.leave (v := some (.int xi)) (fun h => by rw [Bd.returns] at h; cases h)
  refine own_end (retOut X1 hx Bd.returns rfl (Or.inl ⟨rfl, Or.inl rfl, _, rfl⟩) (hb hby own_dOc_6) hr) hrun hended ⟨_, _, rfl, (?_ : own_QOc Z xi xn h0 n0 _ T1.heap _), ⟨_, rfl⟩, hW, hsame.mono (by decide) (by decide)⟩
  rw [e1]
  exact ⟨rfl, N1, rfl⟩
theorem own_dEd_0 : decode jdk_38_method_18_code 0 = .ok (.aload_n 0, 1) := by decide +kernel
theorem own_dEd_1 : decode jdk_38_method_18_code 1 = .ok (.getfield 9, 3) := by decide +kernel
theorem own_dEd_4 : decode jdk_38_method_18_code 4 = .ok (.iload_n 1, 1) := by decide +kernel
theorem own_dEd_5 : decode jdk_38_method_18_code 5 = .ok (.aaload, 1) := by decide +kernel
theorem own_dEd_6 : decode jdk_38_method_18_code 6 = .ok (.areturn, 1) := by decide +kernel
theorem own_efEd (m : MethodId) (xo : Addr) (xi : Int32) : entryFrame m #[(.ref xo), (.int xi)] 2 = mkF m 0 #[.val (.ref xo), .val (.int xi)] [] := by first | (simp [entryFrame, mkF, argsToLocals, Value.category]; done) | rfl
def own_QEd (Z : State) (xo : Addr) (xi : Int32) (xa : Addr) (ka : ClassId) (vs : List Value) (xy : Addr) (h0 : Heap) (n0 : Nat) (v : Option Value) (h : Heap) (L : List Loc) : Prop := v = some (.ref xy) ∧ Fr n0 L ∧ h = h0
set_option maxRecDepth 65536 in
set_option maxHeartbeats 40000000 in
theorem own_rEd (l : Launch) (Z : State) (a0 : Array Value) (hw : ∀ d ∈ tables_1, d.before a0 Z = true) (ws : List Jvm.Cond) (xo : Addr) (xi : Int32) (xa : Addr) (ka : ClassId) (vs : List Value) (xy : Addr) (h0 : Heap) (n0 : Nat) (Z0 : n0 ≤ h0.size) (Fe : Fld Z h0 xo "java/util/ArrayList" "elementData" "[Ljava/lang/Object;" (.ref xa)) (Av : own_A Z h0 xa ka (.object "java/lang/Object") vs) (h1 : ¬ xi < (0 : Int32)) (hv : vs[xi.toNatClampNeg]? = some (.ref xy)) :
    MetFree l (⟨"java/util/ArrayList", "elementData", "(I)Ljava/lang/Object;"⟩ : MethodName) (head1 (Jvm.Cond.code (⟨"java/util/ArrayList", "elementData", "(I)Ljava/lang/Object;"⟩ : MethodName) jdk_38_method_18_code 2 (some (.object "java/lang/Object")) :: ws) ({ frames := 0, cells := 0, slots := 0, locals := 0 } : Room)) (fun a U => a = #[(.ref xo), (.int xi)] ∧ Z.Warmed39 U.vm ∧ U.heap = h0) (fun _ _ _ _ _ => True) (fun _ U o U' => ∃ v L, o = .returned v ∧ own_QEd Z xo xi xa ka vs xy h0 n0 v U'.heap L ∧ FrameEnd U o U' L ({ frames := 0, cells := 0, slots := 0, locals := 0 } : Room).cells ({ frames := 0, cells := 0, slots := 0, locals := 0 } : Room).slots) := by
  refine MetFree.of_bodySF (plainFor_of_name own_pn5) hisR ?_
  intro p e s m args below meth c s₁ Bd hml0 hP hK
  obtain ⟨rfl, hZ, hh⟩ := hP
  have hx := Bd.exec
  have hby := Bd.bytes
  have hml : c.maxLocals = 2 := hml0
  have hown : s.vm.findClass "java/util/ArrayList" = some m.cls := findClass_of_methodNamed Bd.named
  have hnm := (name_of_methodNamed Bd.named Bd.method).1
  have X0 : Stand p l e ({ frames := 0, cells := 0, slots := 0, locals := 0 } : Room) s m #[(.ref xo), (.int xi)] below meth c s₁ [] 0 0 := Stand.of_body Bd
  have e0 : s₁.heap = h0 := by rw [← hh, Bd.state]; rfl
  have N0 := Fr.nil n0
  show own_F p e below (fun o U' => ∃ v L, o = .returned v ∧ own_QEd Z xo xi xa ka vs xy h0 n0 v U'.heap L ∧ FrameEnd s o U' L ({ frames := 0, cells := 0, slots := 0, locals := 0 } : Room).cells ({ frames := 0, cells := 0, slots := 0, locals := 0 } : Room).slots) s₁ (entryFrame m #[(.ref xo), (.int xi)] 2)
  rw [own_efEd m xo xi]
  refine own_go (T' := s₁) (g' := (mkF m 1 #[.val (.ref xo), .val (.int xi)] [(.ref xo)])) (fun _ k => XS.aloadN X0.here hx rfl (hb hby own_dEd_0) rfl rfl k) ?_
  obtain ⟨T1, X1, e1, st1⟩ := getF X0 hx hZ hown (host := "") (Or.inl (hw _ (List.mem_of_getElem? (i := 34) rfl))) Via.refl e0 Fe (g := (mkF m 1 #[.val (.ref xo), .val (.int xi)] [(.ref xo)])) rfl rfl (hb hby own_dEd_1)
  refine own_go (T' := T1) (g' := (mkF m 4 #[.val (.ref xo), .val (.int xi)] [(.ref xa)])) (fun _ k => st1 _ k) ?_
  refine own_go (T' := T1) (g' := (mkF m 5 #[.val (.ref xo), .val (.int xi)] [(.int xi), (.ref xa)])) (fun _ k => XS.iloadN X1.here hx rfl (hb hby own_dEd_4) rfl k) ?_
  refine own_go (T' := T1) (g' := (mkF m 6 #[.val (.ref xo), .val (.int xi)] [(.ref xy)])) (fun _ k => own_aaload X1 hx hZ e1 Av (j := xi) (v := (.ref xy)) h1 hv rfl (g := (mkF m 5 #[.val (.ref xo), .val (.int xi)] [(.int xi), (.ref xa)])) rfl rfl (hb hby own_dEd_5) k) ?_
  obtain ⟨fs, hr, hrun, hended, hW, hsame⟩ := X1.leave (v := some (.ref xy)) (fun h => by rw [Bd.returns] at h; cases h)
  refine own_end (retOut X1 hx Bd.returns rfl (Or.inr (Or.inr (Or.inr (Or.inr ⟨rfl, rfl, rfl⟩)))) (hb hby own_dEd_6) hr) hrun hended ⟨_, _, rfl, (?_ : own_QEd Z xo xi xa ka vs xy h0 n0 _ T1.heap _), ⟨_, rfl⟩, hW, hsame.mono (by decide) (by decide)⟩
  rw [e1]
  exact ⟨rfl, N0, rfl⟩
theorem own_pd8 : parseMethodDescriptor "(I)Ljava/lang/Object;" = some ⟨[.int], some (.object "java/lang/Object")⟩ := by decide +kernel
theorem own_dGt_0 : decode jdk_38_method_20_code 0 = .ok (.iload_n 1, 1) := by decide +kernel
theorem own_dGt_1 : decode jdk_38_method_20_code 1 = .ok (.aload_n 0, 1) := by decide +kernel
theorem own_dGt_2 : decode jdk_38_method_20_code 2 = .ok (.getfield 48, 3) := by decide +kernel
theorem own_dGt_5 : decode jdk_38_method_20_code 5 = .ok (.invokestatic 118, 3) := by decide +kernel
theorem own_dGt_8 : decode jdk_38_method_20_code 8 = .ok (.pop, 1) := by decide +kernel
theorem own_dGt_9 : decode jdk_38_method_20_code 9 = .ok (.aload_n 0, 1) := by decide +kernel
theorem own_dGt_10 : decode jdk_38_method_20_code 10 = .ok (.iload_n 1, 1) := by decide +kernel
theorem own_dGt_11 : decode jdk_38_method_20_code 11 = .ok (.invokevirtual 123, 3) := by decide +kernel
theorem own_dGt_14 : decode jdk_38_method_20_code 14 = .ok (.areturn, 1) := by decide +kernel
theorem own_efGt (m : MethodId) (xo : Addr) (xi : Int32) : entryFrame m #[(.ref xo), (.int xi)] 2 = mkF m 0 #[.val (.ref xo), .val (.int xi)] [] := by first | (simp [entryFrame, mkF, argsToLocals, Value.category]; done) | rfl
def own_QGt (Z : State) (xo : Addr) (xi : Int32) (xn : Int32) (xa : Addr) (ka : ClassId) (vs : List Value) (xy : Addr) (h0 : Heap) (n0 : Nat) (v : Option Value) (h : Heap) (L : List Loc) : Prop := v = some (.ref xy) ∧ Fr n0 L ∧ h = h0
set_option maxRecDepth 65536 in
set_option maxHeartbeats 40000000 in
theorem own_rGt (l : Launch) (Z : State) (a0 : Array Value) (hw : ∀ d ∈ tables_1, d.before a0 Z = true) (ws : List Jvm.Cond) (xo : Addr) (xi : Int32) (xn : Int32) (xa : Addr) (ka : ClassId) (vs : List Value) (xy : Addr) (h0 : Heap) (n0 : Nat) (Z0 : n0 ≤ h0.size) (E1 : Exa Z h0 xo "java/util/ArrayList") (Fs : Fld Z h0 xo "java/util/ArrayList" "size" "I" (.int xn)) (h2 : xi < xn) (Fe : Fld Z h0 xo "java/util/ArrayList" "elementData" "[Ljava/lang/Object;" (.ref xa)) (Av : own_A Z h0 xa ka (.object "java/lang/Object") vs) (h1 : ¬ xi < (0 : Int32)) (hv : vs[xi.toNatClampNeg]? = some (.ref xy)) :
    MetFree l (⟨"java/util/ArrayList", "get", "(I)Ljava/lang/Object;"⟩ : MethodName) (head1 (Jvm.Cond.code (⟨"java/util/ArrayList", "get", "(I)Ljava/lang/Object;"⟩ : MethodName) jdk_38_method_20_code 2 (some (.object "java/lang/Object")) :: ws) ({ frames := 2, cells := 0, slots := 0, locals := 27 } : Room)) (fun a U => a = #[(.ref xo), (.int xi)] ∧ Z.Warmed39 U.vm ∧ U.heap = h0) (fun _ _ _ _ _ => True) (fun _ U o U' => ∃ v L, o = .returned v ∧ own_QGt Z xo xi xn xa ka vs xy h0 n0 v U'.heap L ∧ FrameEnd U o U' L ({ frames := 2, cells := 0, slots := 0, locals := 27 } : Room).cells ({ frames := 2, cells := 0, slots := 0, locals := 27 } : Room).slots) := by
  refine MetFree.of_bodySF (plainFor_of_name own_pn5) hisR ?_
  intro p e s m args below meth c s₁ Bd hml0 hP hK
  obtain ⟨rfl, hZ, hh⟩ := hP
  have hx := Bd.exec
  have hby := Bd.bytes
  have hml : c.maxLocals = 2 := hml0
  have hown : s.vm.findClass "java/util/ArrayList" = some m.cls := findClass_of_methodNamed Bd.named
  have hnm := (name_of_methodNamed Bd.named Bd.method).1
  have X0 : Stand p l e ({ frames := 2, cells := 0, slots := 0, locals := 27 } : Room) s m #[(.ref xo), (.int xi)] below meth c s₁ [] 0 0 := Stand.of_body Bd
  have e0 : s₁.heap = h0 := by rw [← hh, Bd.state]; rfl
  have N0 := Fr.nil n0
  show own_F p e below (fun o U' => ∃ v L, o = .returned v ∧ own_QGt Z xo xi xn xa ka vs xy h0 n0 v U'.heap L ∧ FrameEnd s o U' L ({ frames := 2, cells := 0, slots := 0, locals := 27 } : Room).cells ({ frames := 2, cells := 0, slots := 0, locals := 27 } : Room).slots) s₁ (entryFrame m #[(.ref xo), (.int xi)] 2)
  rw [own_efGt m xo xi]
  refine own_go (T' := s₁) (g' := (mkF m 1 #[.val (.ref xo), .val (.int xi)] [(.int xi)])) (fun _ k => XS.iloadN X0.here hx rfl (hb hby own_dGt_0) rfl k) ?_
  refine own_go (T' := s₁) (g' := (mkF m 2 #[.val (.ref xo), .val (.int xi)] [(.ref xo), (.int xi)])) (fun _ k => XS.aloadN X0.here hx rfl (hb hby own_dGt_1) rfl rfl k) ?_
  obtain ⟨T1, X1, e1, st1⟩ := getF X0 hx hZ hown (host := "") (Or.inl (hw _ (List.mem_of_getElem? (i := 59) rfl))) Via.refl e0 Fs (g := (mkF m 2 #[.val (.ref xo), .val (.int xi)] [(.ref xo), (.int xi)])) rfl rfl (hb hby own_dGt_2)
  refine own_go (T' := T1) (g' := (mkF m 5 #[.val (.ref xo), .val (.int xi)] [(.int xn), (.int xi)])) (fun _ k => st1 _ k) ?_
  obtain ⟨_, _, ⟨T2, L2, k2, n2⟩, -, X2, ⟨Lc2, hQ2, l2, y2, z2⟩, st2⟩ := Jvm.LawKit.callS X1 hx (y := (⟨"java/util/Objects", "checkIndex", "(II)I"⟩ : MethodName)) hown (mvT hZ (hw _ (List.mem_of_getElem? (i := 120) rfl))) (mvT hZ (hw _ (List.mem_of_getElem? (i := 121) rfl))) (mvT hZ (hw _ (List.mem_of_getElem? (i := 122) rfl))) (mvT hZ (hw _ (List.mem_of_getElem? (i := 123) rfl))) (by decide) (backOf (W := 0) (own_rOc l Z a0 hw [] xi xn h0 n0 Z0 h1 h2) hZ (hw _ (List.mem_of_getElem? (i := 123) rfl)) (hw _ (List.mem_of_getElem? (i := 122) rfl)) (by decide) (by decide)) (g := (mkF m 5 #[.val (.ref xo), .val (.int xi)] [(.int xn), (.int xi)])) rfl (by rw [hml]; rfl) (argsL := [(.int xi), (.int xn)]) (rest := []) (lenOf own_pd3 rfl) rfl (by show 2 * 0 + _ ≤ _; exact Nat.le_of_eq rfl) (hb hby own_dGt_5) (fun _ _ => ⟨rfl, e1, (by decide : 0 + 0 ≤ _), (by decide : 0 + 0 ≤ _)⟩)
  dsimp only [Pt.U, Pt.locs, Pt.cells, Pt.slots] at X2 l2 y2 z2 st2 hQ2
  subst l2 y2 z2
  obtain ⟨rfl, N2q, e2⟩ := hQ2
  have N2 := Fr.app N0 N2q
  refine own_go (T' := T2) (g' := (mkF m 8 #[.val (.ref xo), .val (.int xi)] [(.int xi)])) (fun _ k => st2 _ k) ?_
  refine own_go (T' := T2) (g' := (mkF m 9 #[.val (.ref xo), .val (.int xi)] [])) (fun _ k => XS.pop X2.here hx rfl (hb hby own_dGt_8) rfl rfl k) ?_
  refine own_go (T' := T2) (g' := (mkF m 10 #[.val (.ref xo), .val (.int xi)] [(.ref xo)])) (fun _ k => XS.aloadN X2.here hx rfl (hb hby own_dGt_9) rfl rfl k) ?_
  refine own_go (T' := T2) (g' := (mkF m 11 #[.val (.ref xo), .val (.int xi)] [(.int xi), (.ref xo)])) (fun _ k => XS.iloadN X2.here hx rfl (hb hby own_dGt_10) rfl k) ?_
  obtain ⟨cq3, kq3, q3a, q3b, q3c⟩ := isOf hZ e2 E1
  obtain ⟨_, _, ⟨T3, L3, k3, n3⟩, -, X3, ⟨Lc3, hQ3, l3, y3, z3⟩, st3⟩ := X2.virtualBack hx (y := (⟨"java/util/ArrayList", "elementData", "(I)Ljava/lang/Object;"⟩ : MethodName)) (z := (⟨"java/util/ArrayList", "elementData", "(I)Ljava/lang/Object;"⟩ : MethodName)) hown (mvT hZ (hw _ (List.mem_of_getElem? (i := 128) rfl))) (mvT hZ (hw _ (List.mem_of_getElem? (i := 129) rfl))) (notFace_of_selects (args := #[]) (mvT hZ (hw _ (List.mem_of_getElem? (i := 131) rfl)))) (mvT hZ (hw _ (List.mem_of_getElem? (i := 131) rfl))) (mvT hZ (hw _ (List.mem_of_getElem? (i := 130) rfl))) (by decide) (backOf (W := 0) (own_rEd l Z a0 hw [] xo xi xa ka vs xy h0 n0 Z0 Fe Av h1 hv) hZ (hw _ (List.mem_of_getElem? (i := 132) rfl)) (hw _ (List.mem_of_getElem? (i := 12) rfl)) (by decide) (by decide)) q3a q3c (g := (mkF m 11 #[.val (.ref xo), .val (.int xi)] [(.int xi), (.ref xo)])) rfl (by rw [hml]; rfl) (Steps.refl _) (argsL := [(.int xi)]) (rest := []) (lenOf own_pd8 rfl) rfl (by show 2 * 0 + _ ≤ _; exact Nat.le_of_eq rfl) (hb hby own_dGt_11) (fun _ _ => ⟨rfl, e2, (by decide : 0 + 0 ≤ _), (by decide : 0 + 0 ≤ _)⟩)
  dsimp only [Pt.U, Pt.locs, Pt.cells, Pt.slots] at X3 l3 y3 z3 st3 hQ3
  subst l3 y3 z3
  obtain ⟨rfl, N3q, e3⟩ := hQ3
  have N3 := Fr.app N2 N3q
  refine own_goT (T' := T3) (g' := (mkF m 14 #[.val (.ref xo), .val (.int xi)] [(.ref xy)])) st3 ?_
  obtain ⟨fs, hr, hrun, hended, hW, hsame⟩ := X3.leave (v := some (.ref xy)) (fun h => by rw [Bd.returns] at h; cases h)
  refine own_end (retOut X3 hx Bd.returns rfl (Or.inr (Or.inr (Or.inr (Or.inr ⟨rfl, rfl, rfl⟩)))) (hb hby own_dGt_14) hr) hrun hended ⟨_, _, rfl, (?_ : own_QGt Z xo xi xn xa ka vs xy h0 n0 _ T3.heap _), ⟨_, rfl⟩, hW, hsame.mono (by decide) (by decide)⟩
  rw [e3]
  exact ⟨rfl, N3, rfl⟩
theorem own_pd9 : parseMethodDescriptor "()I" = some ⟨[], some .int⟩ := by decide +kernel
theorem own_dBi_0 : decode prog_8_method_1_code 0 = .ok (.aload_n 0, 1) := by decide +kernel
theorem own_dBi_1 : decode prog_8_method_1_code 1 = .ok (.invokespecial 5, 3) := by decide +kernel
theorem own_dBi_4 : decode prog_8_method_1_code 4 = .ok (.aload_n 0, 1) := by decide +kernel
theorem own_dBi_5 : decode prog_8_method_1_code 5 = .ok (.aload_n 1, 1) := by decide +kernel
theorem own_dBi_6 : decode prog_8_method_1_code 6 = .ok (.invokeinterface 11 1, 5) := by decide +kernel
theorem own_dBi_11 : decode prog_8_method_1_code 11 = .ok (.newarray .int, 2) := by decide +kernel
theorem own_dBi_13 : decode prog_8_method_1_code 13 = .ok (.putfield 17, 3) := by decide +kernel
theorem own_dBi_16 : decode prog_8_method_1_code 16 = .ok (.aload_n 0, 1) := by decide +kernel
theorem own_dBi_17 : decode prog_8_method_1_code 17 = .ok (.aload_n 1, 1) := by decide +kernel
theorem own_dBi_18 : decode prog_8_method_1_code 18 = .ok (.invokeinterface 11 1, 5) := by decide +kernel
theorem own_dBi_23 : decode prog_8_method_1_code 23 = .ok (.newarray .int, 2) := by decide +kernel
theorem own_dBi_25 : decode prog_8_method_1_code 25 = .ok (.putfield 23, 3) := by decide +kernel
theorem own_dBi_28 : decode prog_8_method_1_code 28 = .ok (.lconst 1, 1) := by decide +kernel
theorem own_dBi_29 : decode prog_8_method_1_code 29 = .ok (.lstore_n 2, 1) := by decide +kernel
theorem own_dBi_30 : decode prog_8_method_1_code 30 = .ok (.iconst 0, 1) := by decide +kernel
theorem own_dBi_31 : decode prog_8_method_1_code 31 = .ok (.istore 4, 2) := by decide +kernel
theorem own_dBi_33 : decode prog_8_method_1_code 33 = .ok (.iload 4, 2) := by decide +kernel
theorem own_dBi_35 : decode prog_8_method_1_code 35 = .ok (.aload_n 0, 1) := by decide +kernel
theorem own_dBi_36 : decode prog_8_method_1_code 36 = .ok (.getfield 17, 3) := by decide +kernel
theorem own_dBi_39 : decode prog_8_method_1_code 39 = .ok (.arraylength, 1) := by decide +kernel
theorem own_dBi_40 : decode prog_8_method_1_code 40 = .ok (.if_icmp .ge 68, 3) := by decide +kernel
theorem own_dBi_43 : decode prog_8_method_1_code 43 = .ok (.aload_n 0, 1) := by decide +kernel
theorem own_dBi_44 : decode prog_8_method_1_code 44 = .ok (.getfield 17, 3) := by decide +kernel
theorem own_dBi_47 : decode prog_8_method_1_code 47 = .ok (.iload 4, 2) := by decide +kernel
theorem own_dBi_49 : decode prog_8_method_1_code 49 = .ok (.aload_n 1, 1) := by decide +kernel
theorem own_dBi_50 : decode prog_8_method_1_code 50 = .ok (.iload 4, 2) := by decide +kernel
theorem own_dBi_52 : decode prog_8_method_1_code 52 = .ok (.invokeinterface 26 2, 5) := by decide +kernel
theorem own_dBi_57 : decode prog_8_method_1_code 57 = .ok (.checkcast 30, 3) := by decide +kernel
theorem own_dBi_60 : decode prog_8_method_1_code 60 = .ok (.invokevirtual 32, 3) := by decide +kernel
theorem own_dBi_63 : decode prog_8_method_1_code 63 = .ok (.iastore, 1) := by decide +kernel
theorem own_dBi_64 : decode prog_8_method_1_code 64 = .ok (.aload_n 0, 1) := by decide +kernel
theorem own_dBi_65 : decode prog_8_method_1_code 65 = .ok (.getfield 23, 3) := by decide +kernel
theorem own_dBi_68 : decode prog_8_method_1_code 68 = .ok (.iload 4, 2) := by decide +kernel
theorem own_dBi_70 : decode prog_8_method_1_code 70 = .ok (.aload_n 1, 1) := by decide +kernel
theorem own_dBi_71 : decode prog_8_method_1_code 71 = .ok (.iload 4, 2) := by decide +kernel
theorem own_dBi_73 : decode prog_8_method_1_code 73 = .ok (.invokeinterface 26 2, 5) := by decide +kernel
theorem own_dBi_78 : decode prog_8_method_1_code 78 = .ok (.checkcast 30, 3) := by decide +kernel
theorem own_dBi_81 : decode prog_8_method_1_code 81 = .ok (.invokevirtual 34, 3) := by decide +kernel
theorem own_dBi_84 : decode prog_8_method_1_code 84 = .ok (.iastore, 1) := by decide +kernel
theorem own_dBi_85 : decode prog_8_method_1_code 85 = .ok (.lload_n 2, 1) := by decide +kernel
theorem own_dBi_86 : decode prog_8_method_1_code 86 = .ok (.aload_n 0, 1) := by decide +kernel
theorem own_dBi_87 : decode prog_8_method_1_code 87 = .ok (.getfield 23, 3) := by decide +kernel
theorem own_dBi_90 : decode prog_8_method_1_code 90 = .ok (.iload 4, 2) := by decide +kernel
theorem own_dBi_92 : decode prog_8_method_1_code 92 = .ok (.iaload, 1) := by decide +kernel
theorem own_dBi_93 : decode prog_8_method_1_code 93 = .ok (.i2l, 1) := by decide +kernel
theorem own_dBi_94 : decode prog_8_method_1_code 94 = .ok (.lmul, 1) := by decide +kernel
theorem own_dBi_95 : decode prog_8_method_1_code 95 = .ok (.ldc2_w 36, 3) := by decide +kernel
theorem own_dBi_98 : decode prog_8_method_1_code 98 = .ok (.invokestatic 38, 3) := by decide +kernel
theorem own_dBi_101 : decode prog_8_method_1_code 101 = .ok (.lstore_n 2, 1) := by decide +kernel
theorem own_dBi_102 : decode prog_8_method_1_code 102 = .ok (.iinc 4 1, 3) := by decide +kernel
theorem own_dBi_105 : decode prog_8_method_1_code 105 = .ok (.goto (-72), 3) := by decide +kernel
theorem own_dBi_108 : decode prog_8_method_1_code 108 = .ok (.aload_n 0, 1) := by decide +kernel
theorem own_dBi_109 : decode prog_8_method_1_code 109 = .ok (.lload_n 2, 1) := by decide +kernel
theorem own_dBi_110 : decode prog_8_method_1_code 110 = .ok (.putfield 44, 3) := by decide +kernel
theorem own_dBi_113 : decode prog_8_method_1_code 113 = .ok (.aload_n 0, 1) := by decide +kernel
theorem own_dBi_114 : decode prog_8_method_1_code 114 = .ok (.aload_n 0, 1) := by decide +kernel
theorem own_dBi_115 : decode prog_8_method_1_code 115 = .ok (.getfield 17, 3) := by decide +kernel
theorem own_dBi_118 : decode prog_8_method_1_code 118 = .ok (.iconst 0, 1) := by decide +kernel
theorem own_dBi_119 : decode prog_8_method_1_code 119 = .ok (.iaload, 1) := by decide +kernel
theorem own_dBi_120 : decode prog_8_method_1_code 120 = .ok (.putfield 48, 3) := by decide +kernel
theorem own_dBi_123 : decode prog_8_method_1_code 123 = .ok (.aload_n 0, 1) := by decide +kernel
theorem own_dBi_124 : decode prog_8_method_1_code 124 = .ok (.aload_n 0, 1) := by decide +kernel
theorem own_dBi_125 : decode prog_8_method_1_code 125 = .ok (.getfield 23, 3) := by decide +kernel
theorem own_dBi_128 : decode prog_8_method_1_code 128 = .ok (.iconst 0, 1) := by decide +kernel
theorem own_dBi_129 : decode prog_8_method_1_code 129 = .ok (.iaload, 1) := by decide +kernel
theorem own_dBi_130 : decode prog_8_method_1_code 130 = .ok (.putfield 52, 3) := by decide +kernel
theorem own_dBi_133 : decode prog_8_method_1_code 133 = .ok (.return_, 1) := by decide +kernel
theorem own_efBi (m : MethodId) (xo : Addr) (xl : Addr) : entryFrame m #[(.ref xo), (.ref xl)] 5 = mkF m 0 #[.val (.ref xo), .val (.ref xl), .unset, .unset, .unset] [] := by first | (simp [entryFrame, mkF, argsToLocals, Value.category]; done) | rfl
def own_QBi (Z : State) (xo : Addr) (xl : Addr) (xa : Addr) (ka : ClassId) (N : Nat) (vs : List Value) (es : Nat → Addr) (lo : Nat → Int32) (up : Nat → Int32) (ln : Nat → Int32) (h0 : Heap) (n0 : Nat) (v : Option Value) (h : Heap) (L : List Loc) : Prop := v = none ∧ Fr n0 L ∧ Keep h0 h [xo] ∧ ∃ b1 b2 k1 k2, Exa Z h xo "com/example/benchlight/benchlight/Bounds" ∧ Fld Z h xo "com/example/benchlight/benchlight/Bounds" "lower" "[I" (.ref b1) ∧ Fld Z h xo "com/example/benchlight/benchlight/Bounds" "length" "[I" (.ref b2) ∧ own_A Z h b1 k1 .int ((List.range N).map (own_up lo N)) ∧ own_A Z h b2 k2 .int ((List.range N).map (own_up ln N))
theorem own_pn8 : plainName "com/example/benchlight/benchlight/Bounds" = true := by first | (simp [plainName, overriddenIn]; done) | decide +kernel
set_option maxRecDepth 65536 in
set_option maxHeartbeats 40000000 in
theorem own_rBi (l : Launch) (Z : State) (a0 : Array Value) (hw : ∀ d ∈ tables_1, d.before a0 Z = true) (ws : List Jvm.Cond) (xo : Addr) (xl : Addr) (xa : Addr) (ka : ClassId) (N : Nat) (vs : List Value) (es : Nat → Addr) (lo : Nat → Int32) (up : Nat → Int32) (ln : Nat → Int32) (h0 : Heap) (n0 : Nat) (Z0 : n0 ≤ h0.size) (E1 : Exa Z h0 xo "com/example/benchlight/benchlight/Bounds") (Flower : Fld Z h0 xo "com/example/benchlight/benchlight/Bounds" "lower" "[I" .null) (Flength : Fld Z h0 xo "com/example/benchlight/benchlight/Bounds" "length" "[I" .null) (Fcount : Fld Z h0 xo "com/example/benchlight/benchlight/Bounds" "count" "J" (.long (0 : Int64))) (FfirstLower : Fld Z h0 xo "com/example/benchlight/benchlight/Bounds" "firstLower" "I" (.int (0 : Int32))) (FfirstLength : Fld Z h0 xo "com/example/benchlight/benchlight/Bounds" "firstLength" "I" (.int (0 : Int32))) (gz : n0 ≤ xo) (DL : own_DL Z h0 xl xa ka N vs es lo up) (hN1 : 1 ≤ N) (hN6 : N ≤ 6) (hln : ∀ i, i < N → up i - lo i + (1 : Int32) = ln i) :
    MetFree l (⟨"com/example/benchlight/benchlight/Bounds", "<init>", "(Ljava/util/List;)V"⟩ : MethodName) (head1 (Jvm.Cond.code (⟨"com/example/benchlight/benchlight/Bounds", "<init>", "(Ljava/util/List;)V"⟩ : MethodName) prog_8_method_1_code 5 none :: ws) ({ frames := 3, cells := 2, slots := 12, locals := 42 } : Room)) (fun a U => a = #[(.ref xo), (.ref xl)] ∧ Z.Warmed39 U.vm ∧ U.heap = h0) (fun _ _ _ _ _ => True) (fun _ U o U' => ∃ v L, o = .returned v ∧ own_QBi Z xo xl xa ka N vs es lo up ln h0 n0 v U'.heap L ∧ FrameEnd U o U' L ({ frames := 3, cells := 2, slots := 12, locals := 42 } : Room).cells ({ frames := 3, cells := 2, slots := 12, locals := 42 } : Room).slots) := by
  refine MetFree.of_bodySF (plainFor_of_name own_pn8) hisR ?_
  intro p e s m args below meth c s₁ Bd hml0 hP hK
  obtain ⟨rfl, hZ, hh⟩ := hP
  have hx := Bd.exec
  have hby := Bd.bytes
  have hml : c.maxLocals = 5 := hml0
  have hown : s.vm.findClass "com/example/benchlight/benchlight/Bounds" = some m.cls := findClass_of_methodNamed Bd.named
  have hnm := (name_of_methodNamed Bd.named Bd.method).1
  have X0 : Stand p l e ({ frames := 3, cells := 2, slots := 12, locals := 42 } : Room) s m #[(.ref xo), (.ref xl)] below meth c s₁ [] 0 0 := Stand.of_body Bd
  have e0 : s₁.heap = h0 := by rw [← hh, Bd.state]; rfl
  have N0 := Fr.nil n0
  show own_F p e below (fun o U' => ∃ v L, o = .returned v ∧ own_QBi Z xo xl xa ka N vs es lo up ln h0 n0 v U'.heap L ∧ FrameEnd s o U' L ({ frames := 3, cells := 2, slots := 12, locals := 42 } : Room).cells ({ frames := 3, cells := 2, slots := 12, locals := 42 } : Room).slots) s₁ (entryFrame m #[(.ref xo), (.ref xl)] 5)
  rw [own_efBi m xo xl]
  refine own_go (T' := s₁) (g' := (mkF m 1 #[.val (.ref xo), .val (.ref xl), .unset, .unset, .unset] [(.ref xo)])) (fun _ k => XS.aloadN X0.here hx rfl (hb hby own_dBi_0) rfl rfl k) ?_
  obtain ⟨T1, X1, e1, st1⟩ := initO X0 hx hZ hown (hw _ (List.mem_of_getElem? (i := 97) rfl)) (hw _ (List.mem_of_getElem? (i := 29) rfl)) (hw _ (List.mem_of_getElem? (i := 30) rfl)) e0 (g := (mkF m 1 #[.val (.ref xo), .val (.ref xl), .unset, .unset, .unset] [(.ref xo)])) rfl (by rw [hml]; rfl) rfl (hb hby own_dBi_1) (by decide) (W := 0) (by show 2 * 0 + _ ≤ _; exact Nat.le_of_eq rfl) (by decide)
  refine own_go (T' := T1) (g' := (mkF m 4 #[.val (.ref xo), .val (.ref xl), .unset, .unset, .unset] [])) (fun _ k => st1 _ k) ?_
  refine own_go (T' := T1) (g' := (mkF m 5 #[.val (.ref xo), .val (.ref xl), .unset, .unset, .unset] [(.ref xo)])) (fun _ k => XS.aloadN X1.here hx rfl (hb hby own_dBi_4) rfl rfl k) ?_
  refine own_go (T' := T1) (g' := (mkF m 6 #[.val (.ref xo), .val (.ref xl), .unset, .unset, .unset] [(.ref xl), (.ref xo)])) (fun _ k => XS.aloadN X1.here hx rfl (hb hby own_dBi_5) rfl rfl k) ?_
  have DL3 := own_DL.keep1 DL (Keep.refl h0 [xo]) E1 (hw _ (List.mem_of_getElem? (i := 92) rfl))
  obtain ⟨cq2, kq2, q2a, q2b, q2c⟩ := isOf hZ e1 DL3.1
  obtain ⟨_, _, ⟨T2, L2, k2, n2⟩, -, X2, ⟨Lc2, hQ2, l2, y2, z2⟩, st2⟩ := X1.interfaceBack hx (xi := (⟨"java/util/List", "size", "()I"⟩ : MethodName)) (y := (⟨"java/util/ArrayList", "size", "()I"⟩ : MethodName)) hown (mvT hZ (hw _ (List.mem_of_getElem? (i := 98) rfl))) (mvT hZ (hw _ (List.mem_of_getElem? (i := 99) rfl))) (mvT hZ (hw _ (List.mem_of_getElem? (i := 100) rfl))) (mvT hZ (hw _ (List.mem_of_getElem? (i := 101) rfl))) (mvT hZ (hw _ (List.mem_of_getElem? (i := 102) rfl))) (mvT hZ (hw _ (List.mem_of_getElem? (i := 103) rfl))) (mvT hZ (hw _ (List.mem_of_getElem? (i := 104) rfl))) (mvT hZ (hw _ (List.mem_of_getElem? (i := 105) rfl))) (by decide) (backOf (W := 1) (own_rSz l Z a0 hw [] xl (Int32.ofNat N) h0 n0 Z0 DL3.2.2.1) hZ (hw _ (List.mem_of_getElem? (i := 106) rfl)) (hw _ (List.mem_of_getElem? (i := 12) rfl)) (by decide) (by decide)) q2a q2b q2c (g := (mkF m 6 #[.val (.ref xo), .val (.ref xl), .unset, .unset, .unset] [(.ref xl), (.ref xo)])) rfl (by rw [hml]; rfl) (Steps.refl _) (argsL := []) (rest := [(.ref xo)]) (lenOf own_pd9 rfl) rfl (by show 2 * 0 + _ ≤ _; exact Nat.le_of_eq rfl) (hb hby own_dBi_6) (fun _ _ => ⟨rfl, e1, (by decide : 0 + 0 ≤ _), (by decide : 0 + 0 ≤ _)⟩)
  dsimp only [Pt.U, Pt.locs, Pt.cells, Pt.slots] at X2 l2 y2 z2 st2 hQ2
  subst l2 y2 z2
  obtain ⟨rfl, N2q, e2⟩ := hQ2
  have N2 := Fr.app N0 N2q
  refine own_goT (T' := T2) (g' := (mkF m 11 #[.val (.ref xo), .val (.ref xl), .unset, .unset, .unset] [(.int (Int32.ofNat N)), (.ref xo)])) st2 ?_
  obtain ⟨T4, h4, k4, X4, e4, E4, A4, st4⟩ := newP X2 hx hZ (hw _ (List.mem_of_getElem? (i := 107) rfl)) e2 (g := (mkF m 11 #[.val (.ref xo), .val (.ref xl), .unset, .unset, .unset] [(.int (Int32.ofNat N)), (.ref xo)])) rfl (hb hby own_dBi_11) rfl (own_nneg (by omega)) (cap := 6) (by rw [own_cl (by omega)]; exact hN6) (by decide) (by decide) (by decide)
  obtain ⟨b4, g4⟩ : ∃ z, z = h0.size := ⟨_, rfl⟩
  rw [← g4] at A4 st4
  have ne_xo_b4 : xo ≠ b4 := Nat.ne_of_lt (Nat.lt_of_lt_of_le E1.lt (Nat.le_of_eq g4.symm))
  have gz_b4 : n0 ≤ b4 := Nat.le_trans Z0 (Nat.le_of_eq g4.symm)
  have hz_b4 : h0.size ≤ b4 := Nat.le_trans (Keep.refl h0 [xo]).1 (Nat.le_of_eq g4.symm)
  have Ek5 := E1.ext E4
  have Fk6 := Flower.ext E4
  have Fk7 := Flength.ext E4
  have Fk8 := Fcount.ext E4
  have Fk9 := FfirstLower.ext E4
  have Fk10 := FfirstLength.ext E4
  have Z4 : n0 ≤ h4.size := Nat.le_trans Z0 E4.1
  have K4 : Keep h0 h4 [xo] := (Keep.refl h0 [xo]).ext E4
  have V4 : own_A Z h4 b4 k4 .int ((List.range N).map (own_up lo 0)) := own_newI lo (own_A.new A4 (N := N) (own_cl (by omega)))
  refine own_go (T' := T4) (g' := (mkF m 13 #[.val (.ref xo), .val (.ref xl), .unset, .unset, .unset] [(.ref b4), (.ref xo)])) (fun _ k => st4 _ k) ?_
  obtain ⟨T11, h11, X11, e11, W11, st11⟩ := putF X4 hx hZ hown (host := "") (Or.inl (hw _ (List.mem_of_getElem? (i := 108) rfl))) Via.refl e4 Fk6 Ek5 (Or.inr ⟨(hw _ (List.mem_of_getElem? (i := 109) rfl)), rfl, hnm⟩) (hw _ (List.mem_of_getElem? (i := 92) rfl)) (ty := (.array .int)) (by decide) rfl rfl (g := (mkF m 13 #[.val (.ref xo), .val (.ref xl), .unset, .unset, .unset] [(.ref b4), (.ref xo)])) rfl rfl (hb hby own_dBi_13)
  have Fw11 := Fk6.same W11
  have Ek12 := Ek5.wr W11
  have Fk13 := Fk7.other W11 (Or.inr (slot_ne (Or.inr (hw _ (List.mem_of_getElem? (i := 111) rfl))) (Or.inr (hw _ (List.mem_of_getElem? (i := 109) rfl))) (by decide) (t := (.array .int)) (t' := (.array .int)) (by decide) (by decide)))
  have Fk14 := Fk8.other W11 (Or.inr (slot_ne (Or.inr (hw _ (List.mem_of_getElem? (i := 148) rfl))) (Or.inr (hw _ (List.mem_of_getElem? (i := 109) rfl))) (by decide) (t := .long) (t' := (.array .int)) (by decide) (by decide)))
  have Fk15 := Fk9.other W11 (Or.inr (slot_ne (Or.inr (hw _ (List.mem_of_getElem? (i := 150) rfl))) (Or.inr (hw _ (List.mem_of_getElem? (i := 109) rfl))) (by decide) (t := .int) (t' := (.array .int)) (by decide) (by decide)))
  have Fk16 := Fk10.other W11 (Or.inr (slot_ne (Or.inr (hw _ (List.mem_of_getElem? (i := 152) rfl))) (Or.inr (hw _ (List.mem_of_getElem? (i := 109) rfl))) (by decide) (t := .int) (t' := (.array .int)) (by decide) (by decide)))
  have Vk17 := V4.other W11 (Ne.symm ne_xo_b4)
  have Z11 : n0 ≤ h11.size := Nat.le_trans Z4 (Keep.of_wr W11).1
  have K11 : Keep h0 h11 [xo] := K4.wr W11 (Or.inl (List.mem_of_getElem? (i := 0) rfl))
  have N11 := Fr.snoc X11 N2 gz
  refine own_go (T' := T11) (g' := (mkF m 16 #[.val (.ref xo), .val (.ref xl), .unset, .unset, .unset] [])) (fun _ k => st11 _ k) ?_
  refine own_go (T' := T11) (g' := (mkF m 17 #[.val (.ref xo), .val (.ref xl), .unset, .unset, .unset] [(.ref xo)])) (fun _ k => XS.aloadN X11.here hx rfl (hb hby own_dBi_16) rfl rfl k) ?_
  refine own_go (T' := T11) (g' := (mkF m 18 #[.val (.ref xo), .val (.ref xl), .unset, .unset, .unset] [(.ref xl), (.ref xo)])) (fun _ k => XS.aloadN X11.here hx rfl (hb hby own_dBi_17) rfl rfl k) ?_
  have DL19 := own_DL.keep1 DL K11 E1 (hw _ (List.mem_of_getElem? (i := 92) rfl))
  obtain ⟨cq18, kq18, q18a, q18b, q18c⟩ := isOf hZ e11 DL19.1
  obtain ⟨_, _, ⟨T18, L18, k18, n18⟩, -, X18, ⟨Lc18, hQ18, l18, y18, z18⟩, st18⟩ := X11.interfaceBack hx (xi := (⟨"java/util/List", "size", "()I"⟩ : MethodName)) (y := (⟨"java/util/ArrayList", "size", "()I"⟩ : MethodName)) hown (mvT hZ (hw _ (List.mem_of_getElem? (i := 98) rfl))) (mvT hZ (hw _ (List.mem_of_getElem? (i := 99) rfl))) (mvT hZ (hw _ (List.mem_of_getElem? (i := 100) rfl))) (mvT hZ (hw _ (List.mem_of_getElem? (i := 101) rfl))) (mvT hZ (hw _ (List.mem_of_getElem? (i := 102) rfl))) (mvT hZ (hw _ (List.mem_of_getElem? (i := 103) rfl))) (mvT hZ (hw _ (List.mem_of_getElem? (i := 104) rfl))) (mvT hZ (hw _ (List.mem_of_getElem? (i := 105) rfl))) (by decide) (backOf (W := 1) (own_rSz l Z a0 hw [] xl (Int32.ofNat N) h11 n0 Z11 DL19.2.2.1) hZ (hw _ (List.mem_of_getElem? (i := 106) rfl)) (hw _ (List.mem_of_getElem? (i := 12) rfl)) (by decide) (by decide)) q18a q18b q18c (g := (mkF m 18 #[.val (.ref xo), .val (.ref xl), .unset, .unset, .unset] [(.ref xl), (.ref xo)])) rfl (by rw [hml]; rfl) (Steps.refl _) (argsL := []) (rest := [(.ref xo)]) (lenOf own_pd9 rfl) rfl (by show 2 * 0 + _ ≤ _; exact Nat.le_of_eq rfl) (hb hby own_dBi_18) (fun _ _ => ⟨rfl, e11, (by decide : 1 + 0 ≤ _), (by decide : 6 + 0 ≤ _)⟩)
  dsimp only [Pt.U, Pt.locs, Pt.cells, Pt.slots] at X18 l18 y18 z18 st18 hQ18
  subst l18 y18 z18
  obtain ⟨rfl, N18q, e18⟩ := hQ18
  have N18 := Fr.app N11 N18q
  refine own_goT (T' := T18) (g' := (mkF m 23 #[.val (.ref xo), .val (.ref xl), .unset, .unset, .unset] [(.int (Int32.ofNat N)), (.ref xo)])) st18 ?_
  obtain ⟨T20, h20, k20, X20, e20, E20, A20, st20⟩ := newP X18 hx hZ (hw _ (List.mem_of_getElem? (i := 107) rfl)) e18 (g := (mkF m 23 #[.val (.ref xo), .val (.ref xl), .unset, .unset, .unset] [(.int (Int32.ofNat N)), (.ref xo)])) rfl (hb hby own_dBi_23) rfl (own_nneg (by omega)) (cap := 6) (by rw [own_cl (by omega)]; exact hN6) (by decide) (by decide) (by decide)
  obtain ⟨b20, g20⟩ : ∃ z, z = h11.size := ⟨_, rfl⟩
  rw [← g20] at A20 st20
  have ne_xo_b20 : xo ≠ b20 := Nat.ne_of_lt (Nat.lt_of_lt_of_le Ek12.lt (Nat.le_of_eq g20.symm))
  have ne_b4_b20 : b4 ≠ b20 := Nat.ne_of_lt (Nat.lt_of_lt_of_le Vk17.lt (Nat.le_of_eq g20.symm))
  have gz_b20 : n0 ≤ b20 := Nat.le_trans Z11 (Nat.le_of_eq g20.symm)
  have hz_b20 : h0.size ≤ b20 := Nat.le_trans K11.1 (Nat.le_of_eq g20.symm)
  have Ek21 := Ek12.ext E20
  have Fk22 := Fk13.ext E20
  have Fk23 := Fk14.ext E20
  have Fk24 := Fk15.ext E20
  have Fk25 := Fk16.ext E20
  have Vk26 := Vk17.ext E20
  have Fk27 := Fw11.ext E20
  have Z20 : n0 ≤ h20.size := Nat.le_trans Z11 E20.1
  have K20 : Keep h0 h20 [xo] := K11.ext E20
  have V20 : own_A Z h20 b20 k20 .int ((List.range N).map (own_up ln 0)) := own_newI ln (own_A.new A20 (N := N) (own_cl (by omega)))
  refine own_go (T' := T20) (g' := (mkF m 25 #[.val (.ref xo), .val (.ref xl), .unset, .unset, .unset] [(.ref b20), (.ref xo)])) (fun _ k => st20 _ k) ?_
  obtain ⟨T28, h28, X28, e28, W28, st28⟩ := putF X20 hx hZ hown (host := "") (Or.inl (hw _ (List.mem_of_getElem? (i := 110) rfl))) Via.refl e20 Fk22 Ek21 (Or.inr ⟨(hw _ (List.mem_of_getElem? (i := 111) rfl)), rfl, hnm⟩) (hw _ (List.mem_of_getElem? (i := 92) rfl)) (ty := (.array .int)) (by decide) rfl rfl (g := (mkF m 25 #[.val (.ref xo), .val (.ref xl), .unset, .unset, .unset] [(.ref b20), (.ref xo)])) rfl rfl (hb hby own_dBi_25)
  have Fw28 := Fk22.same W28
  have Ek29 := Ek21.wr W28
  have Fk30 := Fk23.other W28 (Or.inr (slot_ne (Or.inr (hw _ (List.mem_of_getElem? (i := 148) rfl))) (Or.inr (hw _ (List.mem_of_getElem? (i := 111) rfl))) (by decide) (t := .long) (t' := (.array .int)) (by decide) (by decide)))
  have Fk31 := Fk24.other W28 (Or.inr (slot_ne (Or.inr (hw _ (List.mem_of_getElem? (i := 150) rfl))) (Or.inr (hw _ (List.mem_of_getElem? (i := 111) rfl))) (by decide) (t := .int) (t' := (.array .int)) (by decide) (by decide)))
  have Fk32 := Fk25.other W28 (Or.inr (slot_ne (Or.inr (hw _ (List.mem_of_getElem? (i := 152) rfl))) (Or.inr (hw _ (List.mem_of_getElem? (i := 111) rfl))) (by decide) (t := .int) (t' := (.array .int)) (by decide) (by decide)))
  have Vk33 := Vk26.other W28 (Ne.symm ne_xo_b4)
  have Fk34 := Fk27.other W28 (Or.inr (slot_ne (Or.inr (hw _ (List.mem_of_getElem? (i := 109) rfl))) (Or.inr (hw _ (List.mem_of_getElem? (i := 111) rfl))) (by decide) (t := (.array .int)) (t' := (.array .int)) (by decide) (by decide)))
  have Vk35 := V20.other W28 (Ne.symm ne_xo_b20)
  have Z28 : n0 ≤ h28.size := Nat.le_trans Z20 (Keep.of_wr W28).1
  have K28 : Keep h0 h28 [xo] := K20.wr W28 (Or.inl (List.mem_of_getElem? (i := 0) rfl))
  have N28 := Fr.snoc X28 N18 gz
  refine own_go (T' := T28) (g' := (mkF m 28 #[.val (.ref xo), .val (.ref xl), .unset, .unset, .unset] [])) (fun _ k => st28 _ k) ?_
  refine own_go (T' := T28) (g' := (mkF m 29 #[.val (.ref xo), .val (.ref xl), .unset, .unset, .unset] [(.long (1 : Int64))])) (fun _ k => XS.lconst X28.here hx rfl (hb hby own_dBi_28) k) ?_
  refine own_go (T' := T28) (g' := (mkF m 30 #[.val (.ref xo), .val (.ref xl), .val (.long (1 : Int64)), .second, .unset] [])) (fun _ k => XS.lstoreN X28.here hx rfl (hb hby own_dBi_29) rfl (l' := #[.val (.ref xo), .val (.ref xl), .val (.long (1 : Int64)), .second, .unset]) rfl k) ?_
  refine own_go (T' := T28) (g' := (mkF m 31 #[.val (.ref xo), .val (.ref xl), .val (.long (1 : Int64)), .second, .unset] [(.int (0 : Int32))])) (fun _ k => XS.iconst X28.here hx rfl (hb hby own_dBi_30) k) ?_
  refine own_go (T' := T28) (g' := (mkF m 33 #[.val (.ref xo), .val (.ref xl), .val (.long (1 : Int64)), .second, .val (.int (0 : Int32))] [])) (fun _ k => XS.istore X28.here hx rfl (hb hby own_dBi_31) rfl (l' := #[.val (.ref xo), .val (.ref xl), .val (.long (1 : Int64)), .second, .val (.int (0 : Int32))]) rfl k) ?_
  have loop33 : ∀ (fu xi : Nat) (xe : Int64) (hl : Heap) (Tl : State) (Ll : List Loc) (Xl : Stand p l e ({ frames := 3, cells := 2, slots := 12, locals := 42 } : Room) s m #[(.ref xo), (.ref xl)] below meth c Tl Ll 2 12) (el : Tl.heap = hl) (Nl : Fr n0 Ll) (hf : xi + fu = N) (Zl : n0 ≤ hl.size) (Kl : Keep h0 hl [xo]) (El : Exa Z hl xo "com/example/benchlight/benchlight/Bounds") (Fl0 : Fld Z hl xo "com/example/benchlight/benchlight/Bounds" "lower" "[I" (.ref b4)) (Fl1 : Fld Z hl xo "com/example/benchlight/benchlight/Bounds" "length" "[I" (.ref b20)) (Fl2 : Fld Z hl xo "com/example/benchlight/benchlight/Bounds" "count" "J" (.long (0 : Int64))) (Fl3 : Fld Z hl xo "com/example/benchlight/benchlight/Bounds" "firstLower" "I" (.int (0 : Int32))) (Fl4 : Fld Z hl xo "com/example/benchlight/benchlight/Bounds" "firstLength" "I" (.int (0 : Int32))) (Vl1 : own_A Z hl b4 k4 .int ((List.range N).map (own_up lo xi))) (Vl2 : own_A Z hl b20 k20 .int ((List.range N).map (own_up ln xi))), own_F p e below (fun o U' => ∃ v L, o = .returned v ∧ own_QBi Z xo xl xa ka N vs es lo up ln h0 n0 v U'.heap L ∧ FrameEnd s o U' L ({ frames := 3, cells := 2, slots := 12, locals := 42 } : Room).cells ({ frames := 3, cells := 2, slots := 12, locals := 42 } : Room).slots) Tl (mkF m 33 #[.val (.ref xo), .val (.ref xl), .val (.long xe), .second, .val (.int (Int32.ofNat xi))] []) := by
    intro fu
    induction fu with
    | zero =>
      intro xi xe hl Tl Ll Xl el Nl hf Zl Kl El Fl0 Fl1 Fl2 Fl3 Fl4 Vl1 Vl2
      have hjN : N = xi := by omega
      subst hjN
      refine own_go (T' := Tl) (g' := (mkF m 35 #[.val (.ref xo), .val (.ref xl), .val (.long xe), .second, .val (.int (Int32.ofNat N))] [(.int (Int32.ofNat N))])) (fun _ k => XS.iload Xl.here hx rfl (hb hby own_dBi_33) rfl k) ?_
      refine own_go (T' := Tl) (g' := (mkF m 36 #[.val (.ref xo), .val (.ref xl), .val (.long xe), .second, .val (.int (Int32.ofNat N))] [(.ref xo), (.int (Int32.ofNat N))])) (fun _ k => XS.aloadN Xl.here hx rfl (hb hby own_dBi_35) rfl rfl k) ?_
      obtain ⟨T36, X36, e36, st36⟩ := getF Xl hx hZ hown (host := "") (Or.inl (hw _ (List.mem_of_getElem? (i := 108) rfl))) Via.refl el Fl0 (g := (mkF m 36 #[.val (.ref xo), .val (.ref xl), .val (.long xe), .second, .val (.int (Int32.ofNat N))] [(.ref xo), (.int (Int32.ofNat N))])) rfl rfl (hb hby own_dBi_36)
      refine own_go (T' := T36) (g' := (mkF m 39 #[.val (.ref xo), .val (.ref xl), .val (.long xe), .second, .val (.int (Int32.ofNat N))] [(.ref b4), (.int (Int32.ofNat N))])) (fun _ k => st36 _ k) ?_
      refine own_go (T' := T36) (g' := (mkF m 40 #[.val (.ref xo), .val (.ref xl), .val (.long xe), .second, .val (.int (Int32.ofNat N))] [(.int (Int32.ofNat N)), (.int (Int32.ofNat N))])) (fun _ k => own_alen X36 hx hZ e36 Vl1 (g := (mkF m 39 #[.val (.ref xo), .val (.ref xl), .val (.long xe), .second, .val (.int (Int32.ofNat N))] [(.ref b4), (.int (Int32.ofNat N))])) rfl rfl (hb hby own_dBi_39) (n := (Int32.ofNat N)) own_rl k) ?_
      refine own_go (T' := T36) (g' := (mkF m 108 #[.val (.ref xo), .val (.ref xl), .val (.long xe), .second, .val (.int (Int32.ofNat N))] [])) (fun _ k => XS.icmpYes X36.here hx rfl (pc0 := 40) (pc' := 108) rfl (hb hby own_dBi_40) rfl (flt (fun q => absurd ((own_ltB (by omega) (by omega)).mp q) (by omega) : ¬ ((Int32.ofNat N) < (Int32.ofNat N)))).2.1 (by decide) (by decide) k) ?_
      refine own_go (T' := T36) (g' := (mkF m 109 #[.val (.ref xo), .val (.ref xl), .val (.long xe), .second, .val (.int (Int32.ofNat N))] [(.ref xo)])) (fun _ k => XS.aloadN X36.here hx rfl (hb hby own_dBi_108) rfl rfl k) ?_
      refine own_go (T' := T36) (g' := (mkF m 110 #[.val (.ref xo), .val (.ref xl), .val (.long xe), .second, .val (.int (Int32.ofNat N))] [(.long xe), (.ref xo)])) (fun _ k => XS.lloadN X36.here hx rfl (hb hby own_dBi_109) rfl k) ?_
      obtain ⟨T37, h37, X37, e37, W37, st37⟩ := putF X36 hx hZ hown (host := "") (Or.inl (hw _ (List.mem_of_getElem? (i := 147) rfl))) Via.refl e36 Fl2 El (Or.inr ⟨(hw _ (List.mem_of_getElem? (i := 148) rfl)), rfl, hnm⟩) (hw _ (List.mem_of_getElem? (i := 92) rfl)) (ty := .long) (by decide) rfl rfl (g := (mkF m 110 #[.val (.ref xo), .val (.ref xl), .val (.long xe), .second, .val (.int (Int32.ofNat N))] [(.long xe), (.ref xo)])) rfl rfl (hb hby own_dBi_110)
      have Fw37 := Fl2.same W37
      have Ek38 := El.wr W37
      have Vk39 := Vl1.other W37 (Ne.symm ne_xo_b4)
      have Vk40 := Vl2.other W37 (Ne.symm ne_xo_b20)
      have Fk41 := Fl0.other W37 (Or.inr (slot_ne (Or.inr (hw _ (List.mem_of_getElem? (i := 109) rfl))) (Or.inr (hw _ (List.mem_of_getElem? (i := 148) rfl))) (by decide) (t := (.array .int)) (t' := .long) (by decide) (by decide)))
      have Fk42 := Fl1.other W37 (Or.inr (slot_ne (Or.inr (hw _ (List.mem_of_getElem? (i := 111) rfl))) (Or.inr (hw _ (List.mem_of_getElem? (i := 148) rfl))) (by decide) (t := (.array .int)) (t' := .long) (by decide) (by decide)))
      have Fk43 := Fl3.other W37 (Or.inr (slot_ne (Or.inr (hw _ (List.mem_of_getElem? (i := 150) rfl))) (Or.inr (hw _ (List.mem_of_getElem? (i := 148) rfl))) (by decide) (t := .int) (t' := .long) (by decide) (by decide)))
      have Fk44 := Fl4.other W37 (Or.inr (slot_ne (Or.inr (hw _ (List.mem_of_getElem? (i := 152) rfl))) (Or.inr (hw _ (List.mem_of_getElem? (i := 148) rfl))) (by decide) (t := .int) (t' := .long) (by decide) (by decide)))
      have Z37 : n0 ≤ h37.size := Nat.le_trans Zl (Keep.of_wr W37).1
      have K37 : Keep h0 h37 [xo] := Kl.wr W37 (Or.inl (List.mem_of_getElem? (i := 0) rfl))
      have N37 := Fr.snoc X37 Nl gz
      refine own_go (T' := T37) (g' := (mkF m 113 #[.val (.ref xo), .val (.ref xl), .val (.long xe), .second, .val (.int (Int32.ofNat N))] [])) (fun _ k => st37 _ k) ?_
      refine own_go (T' := T37) (g' := (mkF m 114 #[.val (.ref xo), .val (.ref xl), .val (.long xe), .second, .val (.int (Int32.ofNat N))] [(.ref xo)])) (fun _ k => XS.aloadN X37.here hx rfl (hb hby own_dBi_113) rfl rfl k) ?_
      refine own_go (T' := T37) (g' := (mkF m 115 #[.val (.ref xo), .val (.ref xl), .val (.long xe), .second, .val (.int (Int32.ofNat N))] [(.ref xo), (.ref xo)])) (fun _ k => XS.aloadN X37.here hx rfl (hb hby own_dBi_114) rfl rfl k) ?_
      obtain ⟨T45, X45, e45, st45⟩ := getF X37 hx hZ hown (host := "") (Or.inl (hw _ (List.mem_of_getElem? (i := 108) rfl))) Via.refl e37 Fk41 (g := (mkF m 115 #[.val (.ref xo), .val (.ref xl), .val (.long xe), .second, .val (.int (Int32.ofNat N))] [(.ref xo), (.ref xo)])) rfl rfl (hb hby own_dBi_115)
      refine own_go (T' := T45) (g' := (mkF m 118 #[.val (.ref xo), .val (.ref xl), .val (.long xe), .second, .val (.int (Int32.ofNat N))] [(.ref b4), (.ref xo)])) (fun _ k => st45 _ k) ?_
      refine own_go (T' := T45) (g' := (mkF m 119 #[.val (.ref xo), .val (.ref xl), .val (.long xe), .second, .val (.int (Int32.ofNat N))] [(.int (0 : Int32)), (.ref b4), (.ref xo)])) (fun _ k => XS.iconst X45.here hx rfl (hb hby own_dBi_118) k) ?_
      refine own_go (T' := T45) (g' := (mkF m 120 #[.val (.ref xo), .val (.ref xl), .val (.long xe), .second, .val (.int (Int32.ofNat N))] [(.int (lo 0)), (.ref xo)])) (fun _ k => own_iaload X45 hx hZ e45 Vk39 (j := (0 : Int32)) (v := (.int (lo 0))) (by decide) (own_ug (i := 0) (by omega) (by omega)) (g := (mkF m 119 #[.val (.ref xo), .val (.ref xl), .val (.long xe), .second, .val (.int (Int32.ofNat N))] [(.int (0 : Int32)), (.ref b4), (.ref xo)])) rfl rfl (hb hby own_dBi_119) k) ?_
      obtain ⟨T46, h46, X46, e46, W46, st46⟩ := putF X45 hx hZ hown (host := "") (Or.inl (hw _ (List.mem_of_getElem? (i := 149) rfl))) Via.refl e45 Fk43 Ek38 (Or.inr ⟨(hw _ (List.mem_of_getElem? (i := 150) rfl)), rfl, hnm⟩) (hw _ (List.mem_of_getElem? (i := 92) rfl)) (ty := .int) (by decide) rfl rfl (g := (mkF m 120 #[.val (.ref xo), .val (.ref xl), .val (.long xe), .second, .val (.int (Int32.ofNat N))] [(.int (lo 0)), (.ref xo)])) rfl rfl (hb hby own_dBi_120)
      have Fw46 := Fk43.same W46
      have Ek47 := Ek38.wr W46
      have Vk48 := Vk39.other W46 (Ne.symm ne_xo_b4)
      have Vk49 := Vk40.other W46 (Ne.symm ne_xo_b20)
      have Fk50 := Fk41.other W46 (Or.inr (slot_ne (Or.inr (hw _ (List.mem_of_getElem? (i := 109) rfl))) (Or.inr (hw _ (List.mem_of_getElem? (i := 150) rfl))) (by decide) (t := (.array .int)) (t' := .int) (by decide) (by decide)))
      have Fk51 := Fk42.other W46 (Or.inr (slot_ne (Or.inr (hw _ (List.mem_of_getElem? (i := 111) rfl))) (Or.inr (hw _ (List.mem_of_getElem? (i := 150) rfl))) (by decide) (t := (.array .int)) (t' := .int) (by decide) (by decide)))
      have Fk52 := Fk44.other W46 (Or.inr (slot_ne (Or.inr (hw _ (List.mem_of_getElem? (i := 152) rfl))) (Or.inr (hw _ (List.mem_of_getElem? (i := 150) rfl))) (by decide) (t := .int) (t' := .int) (by decide) (by decide)))
      have Fk53 := Fw37.other W46 (Or.inr (slot_ne (Or.inr (hw _ (List.mem_of_getElem? (i := 148) rfl))) (Or.inr (hw _ (List.mem_of_getElem? (i := 150) rfl))) (by decide) (t := .long) (t' := .int) (by decide) (by decide)))
      have Z46 : n0 ≤ h46.size := Nat.le_trans Z37 (Keep.of_wr W46).1
      have K46 : Keep h0 h46 [xo] := K37.wr W46 (Or.inl (List.mem_of_getElem? (i := 0) rfl))
      have N46 := Fr.snoc X46 N37 gz
      refine own_go (T' := T46) (g' := (mkF m 123 #[.val (.ref xo), .val (.ref xl), .val (.long xe), .second, .val (.int (Int32.ofNat N))] [])) (fun _ k => st46 _ k) ?_
      refine own_go (T' := T46) (g' := (mkF m 124 #[.val (.ref xo), .val (.ref xl), .val (.long xe), .second, .val (.int (Int32.ofNat N))] [(.ref xo)])) (fun _ k => XS.aloadN X46.here hx rfl (hb hby own_dBi_123) rfl rfl k) ?_
      refine own_go (T' := T46) (g' := (mkF m 125 #[.val (.ref xo), .val (.ref xl), .val (.long xe), .second, .val (.int (Int32.ofNat N))] [(.ref xo), (.ref xo)])) (fun _ k => XS.aloadN X46.here hx rfl (hb hby own_dBi_124) rfl rfl k) ?_
      obtain ⟨T54, X54, e54, st54⟩ := getF X46 hx hZ hown (host := "") (Or.inl (hw _ (List.mem_of_getElem? (i := 110) rfl))) Via.refl e46 Fk51 (g := (mkF m 125 #[.val (.ref xo), .val (.ref xl), .val (.long xe), .second, .val (.int (Int32.ofNat N))] [(.ref xo), (.ref xo)])) rfl rfl (hb hby own_dBi_125)
      refine own_go (T' := T54) (g' := (mkF m 128 #[.val (.ref xo), .val (.ref xl), .val (.long xe), .second, .val (.int (Int32.ofNat N))] [(.ref b20), (.ref xo)])) (fun _ k => st54 _ k) ?_
      refine own_go (T' := T54) (g' := (mkF m 129 #[.val (.ref xo), .val (.ref xl), .val (.long xe), .second, .val (.int (Int32.ofNat N))] [(.int (0 : Int32)), (.ref b20), (.ref xo)])) (fun _ k => XS.iconst X54.here hx rfl (hb hby own_dBi_128) k) ?_
      refine own_go (T' := T54) (g' := (mkF m 130 #[.val (.ref xo), .val (.ref xl), .val (.long xe), .second, .val (.int (Int32.ofNat N))] [(.int (ln 0)), (.ref xo)])) (fun _ k => own_iaload X54 hx hZ e54 Vk49 (j := (0 : Int32)) (v := (.int (ln 0))) (by decide) (own_ug (i := 0) (by omega) (by omega)) (g := (mkF m 129 #[.val (.ref xo), .val (.ref xl), .val (.long xe), .second, .val (.int (Int32.ofNat N))] [(.int (0 : Int32)), (.ref b20), (.ref xo)])) rfl rfl (hb hby own_dBi_129) k) ?_
      obtain ⟨T55, h55, X55, e55, W55, st55⟩ := putF X54 hx hZ hown (host := "") (Or.inl (hw _ (List.mem_of_getElem? (i := 151) rfl))) Via.refl e54 Fk52 Ek47 (Or.inr ⟨(hw _ (List.mem_of_getElem? (i := 152) rfl)), rfl, hnm⟩) (hw _ (List.mem_of_getElem? (i := 92) rfl)) (ty := .int) (by decide) rfl rfl (g := (mkF m 130 #[.val (.ref xo), .val (.ref xl), .val (.long xe), .second, .val (.int (Int32.ofNat N))] [(.int (ln 0)), (.ref xo)])) rfl rfl (hb hby own_dBi_130)
      have Fw55 := Fk52.same W55
      have Ek56 := Ek47.wr W55
      have Vk57 := Vk48.other W55 (Ne.symm ne_xo_b4)
      have Vk58 := Vk49.other W55 (Ne.symm ne_xo_b20)
      have Fk59 := Fk50.other W55 (Or.inr (slot_ne (Or.inr (hw _ (List.mem_of_getElem? (i := 109) rfl))) (Or.inr (hw _ (List.mem_of_getElem? (i := 152) rfl))) (by decide) (t := (.array .int)) (t' := .int) (by decide) (by decide)))
      have Fk60 := Fk51.other W55 (Or.inr (slot_ne (Or.inr (hw _ (List.mem_of_getElem? (i := 111) rfl))) (Or.inr (hw _ (List.mem_of_getElem? (i := 152) rfl))) (by decide) (t := (.array .int)) (t' := .int) (by decide) (by decide)))
      have Fk61 := Fk53.other W55 (Or.inr (slot_ne (Or.inr (hw _ (List.mem_of_getElem? (i := 148) rfl))) (Or.inr (hw _ (List.mem_of_getElem? (i := 152) rfl))) (by decide) (t := .long) (t' := .int) (by decide) (by decide)))
      have Fk62 := Fw46.other W55 (Or.inr (slot_ne (Or.inr (hw _ (List.mem_of_getElem? (i := 150) rfl))) (Or.inr (hw _ (List.mem_of_getElem? (i := 152) rfl))) (by decide) (t := .int) (t' := .int) (by decide) (by decide)))
      have Z55 : n0 ≤ h55.size := Nat.le_trans Z46 (Keep.of_wr W55).1
      have K55 : Keep h0 h55 [xo] := K46.wr W55 (Or.inl (List.mem_of_getElem? (i := 0) rfl))
      have N55 := Fr.snoc X55 N46 gz
      refine own_go (T' := T55) (g' := (mkF m 133 #[.val (.ref xo), .val (.ref xl), .val (.long xe), .second, .val (.int (Int32.ofNat N))] [])) (fun _ k => st55 _ k) ?_
      obtain ⟨fs, hr, hrun, hended, hW, hsame⟩ := X55.leave (v := none) (fun _ => rfl)
      refine own_end (X55.returnOut hx Bd.returns (hb hby own_dBi_133) hr) hrun hended ⟨_, _, rfl, (?_ : own_QBi Z xo xl xa ka N vs es lo up ln h0 n0 _ T55.heap _), ⟨_, rfl⟩, hW, hsame.mono (by decide) (by decide)⟩
      rw [e55]
      exact ⟨rfl, N55, K55, b4, b20, k4, k20, Ek56, Fk59, Fk60, Vk57, Vk58⟩
    | succ fu ih =>
      intro xi xe hl Tl Ll Xl el Nl hf Zl Kl El Fl0 Fl1 Fl2 Fl3 Fl4 Vl1 Vl2
      refine own_go (T' := Tl) (g' := (mkF m 35 #[.val (.ref xo), .val (.ref xl), .val (.long xe), .second, .val (.int (Int32.ofNat xi))] [(.int (Int32.ofNat xi))])) (fun _ k => XS.iload Xl.here hx rfl (hb hby own_dBi_33) rfl k) ?_
      refine own_go (T' := Tl) (g' := (mkF m 36 #[.val (.ref xo), .val (.ref xl), .val (.long xe), .second, .val (.int (Int32.ofNat xi))] [(.ref xo), (.int (Int32.ofNat xi))])) (fun _ k => XS.aloadN Xl.here hx rfl (hb hby own_dBi_35) rfl rfl k) ?_
      obtain ⟨T63, X63, e63, st63⟩ := getF Xl hx hZ hown (host := "") (Or.inl (hw _ (List.mem_of_getElem? (i := 108) rfl))) Via.refl el Fl0 (g := (mkF m 36 #[.val (.ref xo), .val (.ref xl), .val (.long xe), .second, .val (.int (Int32.ofNat xi))] [(.ref xo), (.int (Int32.ofNat xi))])) rfl rfl (hb hby own_dBi_36)
      refine own_go (T' := T63) (g' := (mkF m 39 #[.val (.ref xo), .val (.ref xl), .val (.long xe), .second, .val (.int (Int32.ofNat xi))] [(.ref b4), (.int (Int32.ofNat xi))])) (fun _ k => st63 _ k) ?_
      refine own_go (T' := T63) (g' := (mkF m 40 #[.val (.ref xo), .val (.ref xl), .val (.long xe), .second, .val (.int (Int32.ofNat xi))] [(.int (Int32.ofNat N)), (.int (Int32.ofNat xi))])) (fun _ k => own_alen X63 hx hZ e63 Vl1 (g := (mkF m 39 #[.val (.ref xo), .val (.ref xl), .val (.long xe), .second, .val (.int (Int32.ofNat xi))] [(.ref b4), (.int (Int32.ofNat xi))])) rfl rfl (hb hby own_dBi_39) (n := (Int32.ofNat N)) own_rl k) ?_
      refine own_go (T' := T63) (g' := (mkF m 43 #[.val (.ref xo), .val (.ref xl), .val (.long xe), .second, .val (.int (Int32.ofNat xi))] [])) (fun _ k => XS.icmpNo X63.here hx rfl (hb hby own_dBi_40) rfl (tlt ((own_ltB (by omega) (by omega)).mpr (by omega) : (Int32.ofNat xi) < (Int32.ofNat N))).2.1 k) ?_
      refine own_go (T' := T63) (g' := (mkF m 44 #[.val (.ref xo), .val (.ref xl), .val (.long xe), .second, .val (.int (Int32.ofNat xi))] [(.ref xo)])) (fun _ k => XS.aloadN X63.here hx rfl (hb hby own_dBi_43) rfl rfl k) ?_
      obtain ⟨T64, X64, e64, st64⟩ := getF X63 hx hZ hown (host := "") (Or.inl (hw _ (List.mem_of_getElem? (i := 108) rfl))) Via.refl e63 Fl0 (g := (mkF m 44 #[.val (.ref xo), .val (.ref xl), .val (.long xe), .second, .val (.int (Int32.ofNat xi))] [(.ref xo)])) rfl rfl (hb hby own_dBi_44)
      refine own_go (T' := T64) (g' := (mkF m 47 #[.val (.ref xo), .val (.ref xl), .val (.long xe), .second, .val (.int (Int32.ofNat xi))] [(.ref b4)])) (fun _ k => st64 _ k) ?_
      refine own_go (T' := T64) (g' := (mkF m 49 #[.val (.ref xo), .val (.ref xl), .val (.long xe), .second, .val (.int (Int32.ofNat xi))] [(.int (Int32.ofNat xi)), (.ref b4)])) (fun _ k => XS.iload X64.here hx rfl (hb hby own_dBi_47) rfl k) ?_
      refine own_go (T' := T64) (g' := (mkF m 50 #[.val (.ref xo), .val (.ref xl), .val (.long xe), .second, .val (.int (Int32.ofNat xi))] [(.ref xl), (.int (Int32.ofNat xi)), (.ref b4)])) (fun _ k => XS.aloadN X64.here hx rfl (hb hby own_dBi_49) rfl rfl k) ?_
      refine own_go (T' := T64) (g' := (mkF m 52 #[.val (.ref xo), .val (.ref xl), .val (.long xe), .second, .val (.int (Int32.ofNat xi))] [(.int (Int32.ofNat xi)), (.ref xl), (.int (Int32.ofNat xi)), (.ref b4)])) (fun _ k => XS.iload X64.here hx rfl (hb hby own_dBi_50) rfl k) ?_
      have DL66 := own_DL.keep1 DL Kl E1 (hw _ (List.mem_of_getElem? (i := 92) rfl))
      obtain ⟨cq65, kq65, q65a, q65b, q65c⟩ := isOf hZ e64 DL66.1
      obtain ⟨_, _, ⟨T65, L65, k65, n65⟩, -, X65, ⟨Lc65, hQ65, l65, y65, z65⟩, st65⟩ := X64.interfaceBack hx (xi := (⟨"java/util/List", "get", "(I)Ljava/lang/Object;"⟩ : MethodName)) (y := (⟨"java/util/ArrayList", "get", "(I)Ljava/lang/Object;"⟩ : MethodName)) hown (mvT hZ (hw _ (List.mem_of_getElem? (i := 112) rfl))) (mvT hZ (hw _ (List.mem_of_getElem? (i := 113) rfl))) (mvT hZ (hw _ (List.mem_of_getElem? (i := 114) rfl))) (mvT hZ (hw _ (List.mem_of_getElem? (i := 115) rfl))) (mvT hZ (hw _ (List.mem_of_getElem? (i := 116) rfl))) (mvT hZ (hw _ (List.mem_of_getElem? (i := 117) rfl))) (mvT hZ (hw _ (List.mem_of_getElem? (i := 118) rfl))) (mvT hZ (hw _ (List.mem_of_getElem? (i := 105) rfl))) (by decide) (backOf (W := 2) (own_rGt l Z a0 hw [] xl (Int32.ofNat xi) (Int32.ofNat N) xa ka vs (es xi) hl n0 Zl DL66.1 DL66.2.2.1 ((own_ltB (by omega) (by omega)).mpr (by omega)) DL66.2.1 DL66.2.2.2.1 (own_nneg (by omega)) (own_vi (by omega) (DL66.2.2.2.2.1 xi (by omega)))) hZ (hw _ (List.mem_of_getElem? (i := 119) rfl)) (hw _ (List.mem_of_getElem? (i := 12) rfl)) (by decide) (by decide)) q65a q65b q65c (g := (mkF m 52 #[.val (.ref xo), .val (.ref xl), .val (.long xe), .second, .val (.int (Int32.ofNat xi))] [(.int (Int32.ofNat xi)), (.ref xl), (.int (Int32.ofNat xi)), (.ref b4)])) rfl (by rw [hml]; rfl) (Steps.refl _) (argsL := [(.int (Int32.ofNat xi))]) (rest := [(.int (Int32.ofNat xi)), (.ref b4)]) (lenOf own_pd8 rfl) rfl (by show 2 * 0 + _ ≤ _; exact Nat.le_of_eq rfl) (hb hby own_dBi_52) (fun _ _ => ⟨rfl, e64, (by decide : 2 + 0 ≤ _), (by decide : 12 + 0 ≤ _)⟩)
      dsimp only [Pt.U, Pt.locs, Pt.cells, Pt.slots] at X65 l65 y65 z65 st65 hQ65
      subst l65 y65 z65
      obtain ⟨rfl, N65q, e65⟩ := hQ65
      have N65 := Fr.app Nl N65q
      refine own_goT (T' := T65) (g' := (mkF m 57 #[.val (.ref xo), .val (.ref xl), .val (.long xe), .second, .val (.int (Int32.ofNat xi))] [(.ref (es xi)), (.int (Int32.ofNat xi)), (.ref b4)])) st65 ?_
      obtain ⟨T67, X67, e67, st67⟩ := castY X65 hx hZ hown (hw _ (List.mem_of_getElem? (i := 133) rfl)) e65 (Ins.self (DL66.2.2.2.2.2 xi (by omega)).1) (g := (mkF m 57 #[.val (.ref xo), .val (.ref xl), .val (.long xe), .second, .val (.int (Int32.ofNat xi))] [(.ref (es xi)), (.int (Int32.ofNat xi)), (.ref b4)])) rfl rfl (hb hby own_dBi_57)
      refine own_go (T' := T67) (g' := (mkF m 60 #[.val (.ref xo), .val (.ref xl), .val (.long xe), .second, .val (.int (Int32.ofNat xi))] [(.ref (es xi)), (.int (Int32.ofNat xi)), (.ref b4)])) (fun _ k => st67 _ k) ?_
      obtain ⟨cq68, kq68, q68a, q68b, q68c⟩ := isOf hZ e67 (DL66.2.2.2.2.2 xi (by omega)).1
      obtain ⟨_, _, ⟨T68, L68, k68, n68⟩, -, X68, ⟨Lc68, hQ68, l68, y68, z68⟩, st68⟩ := X67.virtualBack hx (y := (⟨"com/example/benchlight/benchlight/Bounds$Dimension", "lower", "()I"⟩ : MethodName)) (z := (⟨"com/example/benchlight/benchlight/Bounds$Dimension", "lower", "()I"⟩ : MethodName)) hown (mvT hZ (hw _ (List.mem_of_getElem? (i := 135) rfl))) (mvT hZ (hw _ (List.mem_of_getElem? (i := 136) rfl))) (notFace_of_selects (args := #[]) (mvT hZ (hw _ (List.mem_of_getElem? (i := 138) rfl)))) (mvT hZ (hw _ (List.mem_of_getElem? (i := 138) rfl))) (mvT hZ (hw _ (List.mem_of_getElem? (i := 137) rfl))) (by decide) (backOf (W := 2) (own_rDl l Z a0 hw [] (es xi) (lo xi) hl n0 Zl (DL66.2.2.2.2.2 xi (by omega)).2.1) hZ (hw _ (List.mem_of_getElem? (i := 139) rfl)) (hw _ (List.mem_of_getElem? (i := 38) rfl)) (by decide) (by decide)) q68a q68c (g := (mkF m 60 #[.val (.ref xo), .val (.ref xl), .val (.long xe), .second, .val (.int (Int32.ofNat xi))] [(.ref (es xi)), (.int (Int32.ofNat xi)), (.ref b4)])) rfl (by rw [hml]; rfl) (Steps.refl _) (argsL := []) (rest := [(.int (Int32.ofNat xi)), (.ref b4)]) (lenOf own_pd9 rfl) rfl (by show 2 * 0 + _ ≤ _; exact Nat.le_of_eq rfl) (hb hby own_dBi_60) (fun _ _ => ⟨rfl, e67, (by decide : 2 + 0 ≤ _), (by decide : 12 + 0 ≤ _)⟩)
      dsimp only [Pt.U, Pt.locs, Pt.cells, Pt.slots] at X68 l68 y68 z68 st68 hQ68
      subst l68 y68 z68
      obtain ⟨rfl, N68q, e68⟩ := hQ68
      have N68 := Fr.app N65 N68q
      refine own_goT (T' := T68) (g' := (mkF m 63 #[.val (.ref xo), .val (.ref xl), .val (.long xe), .second, .val (.int (Int32.ofNat xi))] [(.int (lo xi)), (.int (Int32.ofNat xi)), (.ref b4)])) st68 ?_
      obtain ⟨T69, h69, X69, e69, V69, W69, st69⟩ := own_iastore X68 hx hZ e68 Vl1 (j := (Int32.ofNat xi)) (i := xi) (own_cl (by omega)) (own_nneg (by omega)) (own_rlen (by omega)) (g := (mkF m 63 #[.val (.ref xo), .val (.ref xl), .val (.long xe), .second, .val (.int (Int32.ofNat xi))] [(.int (lo xi)), (.int (Int32.ofNat xi)), (.ref b4)])) rfl rfl (hb hby own_dBi_63)
      have Va69 : own_A Z h69 b4 k4 .int ((List.range N).map (own_up lo (xi + 1))) := by rw [own_uset] at V69; exact V69
      have Ek70 := El.wr W69
      have Vk71 := Vl2.other W69 (Ne.symm ne_b4_b20)
      have Fk72 := Fl0.other W69 (Or.inl ne_xo_b4)
      have Fk73 := Fl1.other W69 (Or.inl ne_xo_b4)
      have Fk74 := Fl2.other W69 (Or.inl ne_xo_b4)
      have Fk75 := Fl3.other W69 (Or.inl ne_xo_b4)
      have Fk76 := Fl4.other W69 (Or.inl ne_xo_b4)
      have Z69 : n0 ≤ h69.size := Nat.le_trans Zl (Keep.of_wr W69).1
      have K69 : Keep h0 h69 [xo] := Kl.wr W69 (Or.inr hz_b4)
      have N69 := Fr.snoc X69 N68 gz_b4
      refine own_go (T' := T69) (g' := (mkF m 64 #[.val (.ref xo), .val (.ref xl), .val (.long xe), .second, .val (.int (Int32.ofNat xi))] [])) (fun _ k => st69 _ k) ?_
      refine own_go (T' := T69) (g' := (mkF m 65 #[.val (.ref xo), .val (.ref xl), .val (.long xe), .second, .val (.int (Int32.ofNat xi))] [(.ref xo)])) (fun _ k => XS.aloadN X69.here hx rfl (hb hby own_dBi_64) rfl rfl k) ?_
      obtain ⟨T77, X77, e77, st77⟩ := getF X69 hx hZ hown (host := "") (Or.inl (hw _ (List.mem_of_getElem? (i := 110) rfl))) Via.refl e69 Fk73 (g := (mkF m 65 #[.val (.ref xo), .val (.ref xl), .val (.long xe), .second, .val (.int (Int32.ofNat xi))] [(.ref xo)])) rfl rfl (hb hby own_dBi_65)
      refine own_go (T' := T77) (g' := (mkF m 68 #[.val (.ref xo), .val (.ref xl), .val (.long xe), .second, .val (.int (Int32.ofNat xi))] [(.ref b20)])) (fun _ k => st77 _ k) ?_
      refine own_go (T' := T77) (g' := (mkF m 70 #[.val (.ref xo), .val (.ref xl), .val (.long xe), .second, .val (.int (Int32.ofNat xi))] [(.int (Int32.ofNat xi)), (.ref b20)])) (fun _ k => XS.iload X77.here hx rfl (hb hby own_dBi_68) rfl k) ?_
      refine own_go (T' := T77) (g' := (mkF m 71 #[.val (.ref xo), .val (.ref xl), .val (.long xe), .second, .val (.int (Int32.ofNat xi))] [(.ref xl), (.int (Int32.ofNat xi)), (.ref b20)])) (fun _ k => XS.aloadN X77.here hx rfl (hb hby own_dBi_70) rfl rfl k) ?_
      refine own_go (T' := T77) (g' := (mkF m 73 #[.val (.ref xo), .val (.ref xl), .val (.long xe), .second, .val (.int (Int32.ofNat xi))] [(.int (Int32.ofNat xi)), (.ref xl), (.int (Int32.ofNat xi)), (.ref b20)])) (fun _ k => XS.iload X77.here hx rfl (hb hby own_dBi_71) rfl k) ?_
      have DL79 := own_DL.keep1 DL K69 E1 (hw _ (List.mem_of_getElem? (i := 92) rfl))
      obtain ⟨cq78, kq78, q78a, q78b, q78c⟩ := isOf hZ e77 DL79.1
      obtain ⟨_, _, ⟨T78, L78, k78, n78⟩, -, X78, ⟨Lc78, hQ78, l78, y78, z78⟩, st78⟩ := X77.interfaceBack hx (xi := (⟨"java/util/List", "get", "(I)Ljava/lang/Object;"⟩ : MethodName)) (y := (⟨"java/util/ArrayList", "get", "(I)Ljava/lang/Object;"⟩ : MethodName)) hown (mvT hZ (hw _ (List.mem_of_getElem? (i := 112) rfl))) (mvT hZ (hw _ (List.mem_of_getElem? (i := 113) rfl))) (mvT hZ (hw _ (List.mem_of_getElem? (i := 114) rfl))) (mvT hZ (hw _ (List.mem_of_getElem? (i := 115) rfl))) (mvT hZ (hw _ (List.mem_of_getElem? (i := 116) rfl))) (mvT hZ (hw _ (List.mem_of_getElem? (i := 117) rfl))) (mvT hZ (hw _ (List.mem_of_getElem? (i := 118) rfl))) (mvT hZ (hw _ (List.mem_of_getElem? (i := 105) rfl))) (by decide) (backOf (W := 2) (own_rGt l Z a0 hw [] xl (Int32.ofNat xi) (Int32.ofNat N) xa ka vs (es xi) h69 n0 Z69 DL79.1 DL79.2.2.1 ((own_ltB (by omega) (by omega)).mpr (by omega)) DL79.2.1 DL79.2.2.2.1 (own_nneg (by omega)) (own_vi (by omega) (DL79.2.2.2.2.1 xi (by omega)))) hZ (hw _ (List.mem_of_getElem? (i := 119) rfl)) (hw _ (List.mem_of_getElem? (i := 12) rfl)) (by decide) (by decide)) q78a q78b q78c (g := (mkF m 73 #[.val (.ref xo), .val (.ref xl), .val (.long xe), .second, .val (.int (Int32.ofNat xi))] [(.int (Int32.ofNat xi)), (.ref xl), (.int (Int32.ofNat xi)), (.ref b20)])) rfl (by rw [hml]; rfl) (Steps.refl _) (argsL := [(.int (Int32.ofNat xi))]) (rest := [(.int (Int32.ofNat xi)), (.ref b20)]) (lenOf own_pd8 rfl) rfl (by show 2 * 0 + _ ≤ _; exact Nat.le_of_eq rfl) (hb hby own_dBi_73) (fun _ _ => ⟨rfl, e77, (by decide : 2 + 0 ≤ _), (by decide : 12 + 0 ≤ _)⟩)
      dsimp only [Pt.U, Pt.locs, Pt.cells, Pt.slots] at X78 l78 y78 z78 st78 hQ78
      subst l78 y78 z78
      obtain ⟨rfl, N78q, e78⟩ := hQ78
      have N78 := Fr.app N69 N78q
      refine own_goT (T' := T78) (g' := (mkF m 78 #[.val (.ref xo), .val (.ref xl), .val (.long xe), .second, .val (.int (Int32.ofNat xi))] [(.ref (es xi)), (.int (Int32.ofNat xi)), (.ref b20)])) st78 ?_
      obtain ⟨T80, X80, e80, st80⟩ := castY X78 hx hZ hown (hw _ (List.mem_of_getElem? (i := 133) rfl)) e78 (Ins.self (DL79.2.2.2.2.2 xi (by omega)).1) (g := (mkF m 78 #[.val (.ref xo), .val (.ref xl), .val (.long xe), .second, .val (.int (Int32.ofNat xi))] [(.ref (es xi)), (.int (Int32.ofNat xi)), (.ref b20)])) rfl rfl (hb hby own_dBi_78)
      refine own_go (T' := T80) (g' := (mkF m 81 #[.val (.ref xo), .val (.ref xl), .val (.long xe), .second, .val (.int (Int32.ofNat xi))] [(.ref (es xi)), (.int (Int32.ofNat xi)), (.ref b20)])) (fun _ k => st80 _ k) ?_
      obtain ⟨cq81, kq81, q81a, q81b, q81c⟩ := isOf hZ e80 (DL79.2.2.2.2.2 xi (by omega)).1
      obtain ⟨_, _, ⟨T81, L81, k81, n81⟩, -, X81, ⟨Lc81, hQ81, l81, y81, z81⟩, st81⟩ := X80.virtualBack hx (y := (⟨"com/example/benchlight/benchlight/Bounds$Dimension", "length", "()I"⟩ : MethodName)) (z := (⟨"com/example/benchlight/benchlight/Bounds$Dimension", "length", "()I"⟩ : MethodName)) hown (mvT hZ (hw _ (List.mem_of_getElem? (i := 140) rfl))) (mvT hZ (hw _ (List.mem_of_getElem? (i := 141) rfl))) (notFace_of_selects (args := #[]) (mvT hZ (hw _ (List.mem_of_getElem? (i := 143) rfl)))) (mvT hZ (hw _ (List.mem_of_getElem? (i := 143) rfl))) (mvT hZ (hw _ (List.mem_of_getElem? (i := 142) rfl))) (by decide) (backOf (W := 2) (own_rDn l Z a0 hw [] (es xi) (lo xi) (up xi) (ln xi) h69 n0 Z69 (DL79.2.2.2.2.2 xi (by omega)).2.1 (DL79.2.2.2.2.2 xi (by omega)).2.2 (hln xi (by omega))) hZ (hw _ (List.mem_of_getElem? (i := 144) rfl)) (hw _ (List.mem_of_getElem? (i := 38) rfl)) (by decide) (by decide)) q81a q81c (g := (mkF m 81 #[.val (.ref xo), .val (.ref xl), .val (.long xe), .second, .val (.int (Int32.ofNat xi))] [(.ref (es xi)), (.int (Int32.ofNat xi)), (.ref b20)])) rfl (by rw [hml]; rfl) (Steps.refl _) (argsL := []) (rest := [(.int (Int32.ofNat xi)), (.ref b20)]) (lenOf own_pd9 rfl) rfl (by show 2 * 0 + _ ≤ _; exact Nat.le_of_eq rfl) (hb hby own_dBi_81) (fun _ _ => ⟨rfl, e80, (by decide : 2 + 0 ≤ _), (by decide : 12 + 0 ≤ _)⟩)
      dsimp only [Pt.U, Pt.locs, Pt.cells, Pt.slots] at X81 l81 y81 z81 st81 hQ81
      subst l81 y81 z81
      obtain ⟨rfl, N81q, e81⟩ := hQ81
      have N81 := Fr.app N78 N81q
      refine own_goT (T' := T81) (g' := (mkF m 84 #[.val (.ref xo), .val (.ref xl), .val (.long xe), .second, .val (.int (Int32.ofNat xi))] [(.int (ln xi)), (.int (Int32.ofNat xi)), (.ref b20)])) st81 ?_
      obtain ⟨T82, h82, X82, e82, V82, W82, st82⟩ := own_iastore X81 hx hZ e81 Vk71 (j := (Int32.ofNat xi)) (i := xi) (own_cl (by omega)) (own_nneg (by omega)) (own_rlen (by omega)) (g := (mkF m 84 #[.val (.ref xo), .val (.ref xl), .val (.long xe), .second, .val (.int (Int32.ofNat xi))] [(.int (ln xi)), (.int (Int32.ofNat xi)), (.ref b20)])) rfl rfl (hb hby own_dBi_84)
      have Va82 : own_A Z h82 b20 k20 .int ((List.range N).map (own_up ln (xi + 1))) := by rw [own_uset] at V82; exact V82
      have Ek83 := Ek70.wr W82
      have Fk84 := Fk72.other W82 (Or.inl ne_xo_b20)
      have Fk85 := Fk73.other W82 (Or.inl ne_xo_b20)
      have Fk86 := Fk74.other W82 (Or.inl ne_xo_b20)
      have Fk87 := Fk75.other W82 (Or.inl ne_xo_b20)
      have Fk88 := Fk76.other W82 (Or.inl ne_xo_b20)
      have Vk89 := Va69.other W82 ne_b4_b20
      have Z82 : n0 ≤ h82.size := Nat.le_trans Z69 (Keep.of_wr W82).1
      have K82 : Keep h0 h82 [xo] := K69.wr W82 (Or.inr hz_b20)
      have N82 := Fr.snoc X82 N81 gz_b20
      refine own_go (T' := T82) (g' := (mkF m 85 #[.val (.ref xo), .val (.ref xl), .val (.long xe), .second, .val (.int (Int32.ofNat xi))] [])) (fun _ k => st82 _ k) ?_
      refine own_go (T' := T82) (g' := (mkF m 86 #[.val (.ref xo), .val (.ref xl), .val (.long xe), .second, .val (.int (Int32.ofNat xi))] [(.long xe)])) (fun _ k => XS.lloadN X82.here hx rfl (hb hby own_dBi_85) rfl k) ?_
      refine own_go (T' := T82) (g' := (mkF m 87 #[.val (.ref xo), .val (.ref xl), .val (.long xe), .second, .val (.int (Int32.ofNat xi))] [(.ref xo), (.long xe)])) (fun _ k => XS.aloadN X82.here hx rfl (hb hby own_dBi_86) rfl rfl k) ?_
      obtain ⟨T90, X90, e90, st90⟩ := getF X82 hx hZ hown (host := "") (Or.inl (hw _ (List.mem_of_getElem? (i := 110) rfl))) Via.refl e82 Fk85 (g := (mkF m 87 #[.val (.ref xo), .val (.ref xl), .val (.long xe), .second, .val (.int (Int32.ofNat xi))] [(.ref xo), (.long xe)])) rfl rfl (hb hby own_dBi_87)
      refine own_go (T' := T90) (g' := (mkF m 90 #[.val (.ref xo), .val (.ref xl), .val (.long xe), .second, .val (.int (Int32.ofNat xi))] [(.ref b20), (.long xe)])) (fun _ k => st90 _ k) ?_
      refine own_go (T' := T90) (g' := (mkF m 92 #[.val (.ref xo), .val (.ref xl), .val (.long xe), .second, .val (.int (Int32.ofNat xi))] [(.int (Int32.ofNat xi)), (.ref b20), (.long xe)])) (fun _ k => XS.iload X90.here hx rfl (hb hby own_dBi_90) rfl k) ?_
      refine own_go (T' := T90) (g' := (mkF m 93 #[.val (.ref xo), .val (.ref xl), .val (.long xe), .second, .val (.int (Int32.ofNat xi))] [(.int (ln xi)), (.long xe)])) (fun _ k => own_iaload X90 hx hZ e90 Va82 (j := (Int32.ofNat xi)) (v := (.int (ln xi))) (own_nneg (by omega)) (own_vi (by omega) (own_ug (by omega) (by omega))) (g := (mkF m 92 #[.val (.ref xo), .val (.ref xl), .val (.long xe), .second, .val (.int (Int32.ofNat xi))] [(.int (Int32.ofNat xi)), (.ref b20), (.long xe)])) rfl rfl (hb hby own_dBi_92) k) ?_
      refine own_go (T' := T90) (g' := (mkF m 94 #[.val (.ref xo), .val (.ref xl), .val (.long xe), .second, .val (.int (Int32.ofNat xi))] [(.long ((ln xi).toInt64)), (.long xe)])) (fun _ k => XS.i2l X90.here hx rfl (hb hby own_dBi_93) rfl k) ?_
      refine own_go (T' := T90) (g' := (mkF m 95 #[.val (.ref xo), .val (.ref xl), .val (.long xe), .second, .val (.int (Int32.ofNat xi))] [(.long (xe * ((ln xi).toInt64)))])) (fun _ k => XS.lmul X90.here hx rfl (hb hby own_dBi_94) rfl k) ?_
      refine own_go (T' := T90) (g' := (mkF m 98 #[.val (.ref xo), .val (.ref xl), .val (.long xe), .second, .val (.int (Int32.ofNat xi))] [(.long (2147483648 : Int64)), (.long (xe * ((ln xi).toInt64)))])) (fun _ k => X90.ldc2Long hx hown (mvT hZ (hw _ (List.mem_of_getElem? (i := 145) rfl))) (g := (mkF m 95 #[.val (.ref xo), .val (.ref xl), .val (.long xe), .second, .val (.int (Int32.ofNat xi))] [(.long (xe * ((ln xi).toInt64)))])) rfl (hb hby own_dBi_95) _ k) ?_
      obtain ⟨_, _, ⟨T91, L91, k91, n91⟩, -, X91, ⟨Lc91, hQ91, l91, y91, z91⟩, st91⟩ := Jvm.LawKit.callS X90 hx (y := (⟨"java/lang/Math", "min", "(JJ)J"⟩ : MethodName)) hown (mvT hZ (hw _ (List.mem_of_getElem? (i := 146) rfl))) (mvT hZ (hw _ (List.mem_of_getElem? (i := 88) rfl))) (mvT hZ (hw _ (List.mem_of_getElem? (i := 78) rfl))) (mvT hZ (hw _ (List.mem_of_getElem? (i := 89) rfl))) (by decide) (backOf (W := 0) (own_rMi l Z a0 hw [] (xe * ((ln xi).toInt64)) (2147483648 : Int64) h82 n0 Z82 ) hZ (hw _ (List.mem_of_getElem? (i := 89) rfl)) (hw _ (List.mem_of_getElem? (i := 78) rfl)) (by decide) (by decide)) (g := (mkF m 98 #[.val (.ref xo), .val (.ref xl), .val (.long xe), .second, .val (.int (Int32.ofNat xi))] [(.long (2147483648 : Int64)), (.long (xe * ((ln xi).toInt64)))])) rfl (by rw [hml]; rfl) (argsL := [(.long (xe * ((ln xi).toInt64))), (.long (2147483648 : Int64))]) (rest := []) (lenOf own_pd1 rfl) rfl (by show 2 * 0 + _ ≤ _; exact Nat.le_of_eq rfl) (hb hby own_dBi_98) (fun _ _ => ⟨rfl, e90, (by decide : 2 + 0 ≤ _), (by decide : 12 + 0 ≤ _)⟩)
      dsimp only [Pt.U, Pt.locs, Pt.cells, Pt.slots] at X91 l91 y91 z91 st91 hQ91
      subst l91 y91 z91
      obtain ⟨rfl, N91q, e91⟩ := hQ91
      have N91 := Fr.app N82 N91q
      refine own_go (T' := T91) (g' := (mkF m 101 #[.val (.ref xo), .val (.ref xl), .val (.long xe), .second, .val (.int (Int32.ofNat xi))] [(.long (own_min (xe * ((ln xi).toInt64)) (2147483648 : Int64)))])) (fun _ k => st91 _ k) ?_
      refine own_go (T' := T91) (g' := (mkF m 102 #[.val (.ref xo), .val (.ref xl), .val (.long (own_min (xe * ((ln xi).toInt64)) (2147483648 : Int64))), .second, .val (.int (Int32.ofNat xi))] [])) (fun _ k => XS.lstoreN X91.here hx rfl (hb hby own_dBi_101) rfl (l' := #[.val (.ref xo), .val (.ref xl), .val (.long (own_min (xe * ((ln xi).toInt64)) (2147483648 : Int64))), .second, .val (.int (Int32.ofNat xi))]) rfl k) ?_
      refine own_go (T' := T91) (g' := (mkF m 105 #[.val (.ref xo), .val (.ref xl), .val (.long (own_min (xe * ((ln xi).toInt64)) (2147483648 : Int64))), .second, .val (.int ((Int32.ofNat xi) + (1 : Int32)))] [])) (fun _ k => XS.iinc X91.here hx rfl (hb hby own_dBi_102) rfl (l' := #[.val (.ref xo), .val (.ref xl), .val (.long (own_min (xe * ((ln xi).toInt64)) (2147483648 : Int64))), .second, .val (.int ((Int32.ofNat xi) + (1 : Int32)))]) rfl k) ?_
      refine own_go (T' := T91) (g' := (mkF m 33 #[.val (.ref xo), .val (.ref xl), .val (.long (own_min (xe * ((ln xi).toInt64)) (2147483648 : Int64))), .second, .val (.int ((Int32.ofNat xi) + (1 : Int32)))] [])) (fun _ k => XS.goto X91.here hx rfl (pc0 := 105) (pc' := 33) rfl (hb hby own_dBi_105) (by decide) (by decide) k) ?_
      rw [own_succ xi]
      exact ih (xi + 1) (own_min (xe * ((ln xi).toInt64)) (2147483648 : Int64)) h82 T91 _ X91 e91 N91 (by omega) Z82 K82 Ek83 Fk84 Fk85 Fk86 Fk87 Fk88 Vk89 Va82
  exact loop33 N 0 (1 : Int64) h28 T28 _ X28 e28 N28 (by omega) Z28 K28 Ek29 Fk34 Fw28 Fk30 Fk31 Fk32 Vk33 Vk35
theorem own_dSb_0 : decode prog_8_method_7_code 0 = .ok (.aload_n 0, 1) := by decide +kernel
theorem own_dSb_1 : decode prog_8_method_7_code 1 = .ok (.getfield 17, 3) := by decide +kernel
theorem own_dSb_4 : decode prog_8_method_7_code 4 = .ok (.arraylength, 1) := by decide +kernel
theorem own_dSb_5 : decode prog_8_method_7_code 5 = .ok (.newarray .double, 2) := by decide +kernel
theorem own_dSb_7 : decode prog_8_method_7_code 7 = .ok (.astore_n 2, 1) := by decide +kernel
theorem own_dSb_8 : decode prog_8_method_7_code 8 = .ok (.iload_n 1, 1) := by decide +kernel
theorem own_dSb_9 : decode prog_8_method_7_code 9 = .ok (.istore_n 3, 1) := by decide +kernel
theorem own_dSb_10 : decode prog_8_method_7_code 10 = .ok (.aload_n 0, 1) := by decide +kernel
theorem own_dSb_11 : decode prog_8_method_7_code 11 = .ok (.getfield 17, 3) := by decide +kernel
theorem own_dSb_14 : decode prog_8_method_7_code 14 = .ok (.arraylength, 1) := by decide +kernel
theorem own_dSb_15 : decode prog_8_method_7_code 15 = .ok (.iconst 1, 1) := by decide +kernel
theorem own_dSb_16 : decode prog_8_method_7_code 16 = .ok (.isub, 1) := by decide +kernel
theorem own_dSb_17 : decode prog_8_method_7_code 17 = .ok (.istore 4, 2) := by decide +kernel
theorem own_dSb_19 : decode prog_8_method_7_code 19 = .ok (.iload 4, 2) := by decide +kernel
theorem own_dSb_21 : decode prog_8_method_7_code 21 = .ok (.ifCond .lt 41, 3) := by decide +kernel
theorem own_dSb_24 : decode prog_8_method_7_code 24 = .ok (.aload_n 2, 1) := by decide +kernel
theorem own_dSb_25 : decode prog_8_method_7_code 25 = .ok (.iload 4, 2) := by decide +kernel
theorem own_dSb_27 : decode prog_8_method_7_code 27 = .ok (.aload_n 0, 1) := by decide +kernel
theorem own_dSb_28 : decode prog_8_method_7_code 28 = .ok (.getfield 17, 3) := by decide +kernel
theorem own_dSb_31 : decode prog_8_method_7_code 31 = .ok (.iload 4, 2) := by decide +kernel
theorem own_dSb_33 : decode prog_8_method_7_code 33 = .ok (.iaload, 1) := by decide +kernel
theorem own_dSb_34 : decode prog_8_method_7_code 34 = .ok (.iload_n 3, 1) := by decide +kernel
theorem own_dSb_35 : decode prog_8_method_7_code 35 = .ok (.aload_n 0, 1) := by decide +kernel
theorem own_dSb_36 : decode prog_8_method_7_code 36 = .ok (.getfield 23, 3) := by decide +kernel
theorem own_dSb_39 : decode prog_8_method_7_code 39 = .ok (.iload 4, 2) := by decide +kernel
theorem own_dSb_41 : decode prog_8_method_7_code 41 = .ok (.iaload, 1) := by decide +kernel
theorem own_dSb_42 : decode prog_8_method_7_code 42 = .ok (.irem, 1) := by decide +kernel
theorem own_dSb_43 : decode prog_8_method_7_code 43 = .ok (.iadd, 1) := by decide +kernel
theorem own_dSb_44 : decode prog_8_method_7_code 44 = .ok (.i2d, 1) := by decide +kernel
theorem own_dSb_45 : decode prog_8_method_7_code 45 = .ok (.dastore, 1) := by decide +kernel
theorem own_dSb_46 : decode prog_8_method_7_code 46 = .ok (.iload_n 3, 1) := by decide +kernel
theorem own_dSb_47 : decode prog_8_method_7_code 47 = .ok (.aload_n 0, 1) := by decide +kernel
theorem own_dSb_48 : decode prog_8_method_7_code 48 = .ok (.getfield 23, 3) := by decide +kernel
theorem own_dSb_51 : decode prog_8_method_7_code 51 = .ok (.iload 4, 2) := by decide +kernel
theorem own_dSb_53 : decode prog_8_method_7_code 53 = .ok (.iaload, 1) := by decide +kernel
theorem own_dSb_54 : decode prog_8_method_7_code 54 = .ok (.idiv, 1) := by decide +kernel
theorem own_dSb_55 : decode prog_8_method_7_code 55 = .ok (.istore_n 3, 1) := by decide +kernel
theorem own_dSb_56 : decode prog_8_method_7_code 56 = .ok (.iinc 4 (-1), 3) := by decide +kernel
theorem own_dSb_59 : decode prog_8_method_7_code 59 = .ok (.goto (-40), 3) := by decide +kernel
theorem own_dSb_62 : decode prog_8_method_7_code 62 = .ok (.aload_n 2, 1) := by decide +kernel
theorem own_dSb_63 : decode prog_8_method_7_code 63 = .ok (.areturn, 1) := by decide +kernel
theorem own_efSb (m : MethodId) (xo : Addr) (xq : Int32) : entryFrame m #[(.ref xo), (.int xq)] 5 = mkF m 0 #[.val (.ref xo), .val (.int xq), .unset, .unset, .unset] [] := by first | (simp [entryFrame, mkF, argsToLocals, Value.category]; done) | rfl
def own_QSb (Z : State) (xo : Addr) (xq : Int32) (ya : Addr) (yb : Addr) (qa : ClassId) (qb : ClassId) (N : Nat) (lo : Nat → Int32) (ln : Nat → Int32) (q : Nat → Int32) (h0 : Heap) (n0 : Nat) (v : Option Value) (h : Heap) (L : List Loc) : Prop := v = v ∧ Fr n0 L ∧ Keep h0 h [] ∧ ∃ r kr, v = some (.ref r) ∧ own_A Z h r kr .double ((List.range N).map (own_dn (fun j => FP.i2d (lo j + q (j + 1) % ln j)) 0))
set_option maxRecDepth 65536 in
set_option maxHeartbeats 40000000 in
theorem own_rSb (l : Launch) (Z : State) (a0 : Array Value) (hw : ∀ d ∈ tables_1, d.before a0 Z = true) (ws : List Jvm.Cond) (xo : Addr) (xq : Int32) (ya : Addr) (yb : Addr) (qa : ClassId) (qb : ClassId) (N : Nat) (lo : Nat → Int32) (ln : Nat → Int32) (q : Nat → Int32) (h0 : Heap) (n0 : Nat) (Z0 : n0 ≤ h0.size) (Fa : Fld Z h0 xo "com/example/benchlight/benchlight/Bounds" "lower" "[I" (.ref ya)) (Fb : Fld Z h0 xo "com/example/benchlight/benchlight/Bounds" "length" "[I" (.ref yb)) (Aa : own_A Z h0 ya qa .int ((List.range N).map (own_up lo N))) (Ab : own_A Z h0 yb qb .int ((List.range N).map (own_up ln N))) (hN6 : N ≤ 6) (hnz : ∀ i, i < N → ln i ≠ 0) (hq0 : q N = xq) (hqs : ∀ t, t < N → q (t + 1) / ln t = q t) :
    MetFree l (⟨"com/example/benchlight/benchlight/Bounds", "subscripts", "(I)[D"⟩ : MethodName) (head1 (Jvm.Cond.code (⟨"com/example/benchlight/benchlight/Bounds", "subscripts", "(I)[D"⟩ : MethodName) prog_8_method_7_code 5 (some (.array .double)) :: ws) ({ frames := 0, cells := 1, slots := 6, locals := 0 } : Room)) (fun a U => a = #[(.ref xo), (.int xq)] ∧ Z.Warmed39 U.vm ∧ U.heap = h0) (fun _ _ _ _ _ => True) (fun _ U o U' => ∃ v L, o = .returned v ∧ own_QSb Z xo xq ya yb qa qb N lo ln q h0 n0 v U'.heap L ∧ FrameEnd U o U' L ({ frames := 0, cells := 1, slots := 6, locals := 0 } : Room).cells ({ frames := 0, cells := 1, slots := 6, locals := 0 } : Room).slots) := by
  refine MetFree.of_bodySF (plainFor_of_name own_pn8) hisR ?_
  intro p e s m args below meth c s₁ Bd hml0 hP hK
  obtain ⟨rfl, hZ, hh⟩ := hP
  have hx := Bd.exec
  have hby := Bd.bytes
  have hml : c.maxLocals = 5 := hml0
  have hown : s.vm.findClass "com/example/benchlight/benchlight/Bounds" = some m.cls := findClass_of_methodNamed Bd.named
  have hnm := (name_of_methodNamed Bd.named Bd.method).1
  have X0 : Stand p l e ({ frames := 0, cells := 1, slots := 6, locals := 0 } : Room) s m #[(.ref xo), (.int xq)] below meth c s₁ [] 0 0 := Stand.of_body Bd
  have e0 : s₁.heap = h0 := by rw [← hh, Bd.state]; rfl
  have N0 := Fr.nil n0
  show own_F p e below (fun o U' => ∃ v L, o = .returned v ∧ own_QSb Z xo xq ya yb qa qb N lo ln q h0 n0 v U'.heap L ∧ FrameEnd s o U' L ({ frames := 0, cells := 1, slots := 6, locals := 0 } : Room).cells ({ frames := 0, cells := 1, slots := 6, locals := 0 } : Room).slots) s₁ (entryFrame m #[(.ref xo), (.int xq)] 5)
  rw [own_efSb m xo xq]
  refine own_go (T' := s₁) (g' := (mkF m 1 #[.val (.ref xo), .val (.int xq), .unset, .unset, .unset] [(.ref xo)])) (fun _ k => XS.aloadN X0.here hx rfl (hb hby own_dSb_0) rfl rfl k) ?_
  obtain ⟨T1, X1, e1, st1⟩ := getF X0 hx hZ hown (host := "") (Or.inl (hw _ (List.mem_of_getElem? (i := 108) rfl))) Via.refl e0 (Fa.keep (Keep.refl h0 []) (fun q => nomatch q)) (g := (mkF m 1 #[.val (.ref xo), .val (.int xq), .unset, .unset, .unset] [(.ref xo)])) rfl rfl (hb hby own_dSb_1)
  refine own_go (T' := T1) (g' := (mkF m 4 #[.val (.ref xo), .val (.int xq), .unset, .unset, .unset] [(.ref ya)])) (fun _ k => st1 _ k) ?_
  refine own_go (T' := T1) (g' := (mkF m 5 #[.val (.ref xo), .val (.int xq), .unset, .unset, .unset] [(.int (Int32.ofNat N))])) (fun _ k => own_alen X1 hx hZ e1 (Aa.keep (Keep.refl h0 []) (fun q => nomatch q)) (g := (mkF m 4 #[.val (.ref xo), .val (.int xq), .unset, .unset, .unset] [(.ref ya)])) rfl rfl (hb hby own_dSb_4) (n := (Int32.ofNat N)) own_rl k) ?_
  obtain ⟨T2, h2, k2, X2, e2, E2, A2, st2⟩ := newP X1 hx hZ (hw _ (List.mem_of_getElem? (i := 158) rfl)) e1 (g := (mkF m 5 #[.val (.ref xo), .val (.int xq), .unset, .unset, .unset] [(.int (Int32.ofNat N))])) rfl (hb hby own_dSb_5) rfl (own_nneg (by omega)) (cap := 6) (by rw [own_cl (by omega)]; exact hN6) (by decide) (by decide) (by decide)
  obtain ⟨b2, g2⟩ : ∃ z, z = h0.size := ⟨_, rfl⟩
  rw [← g2] at A2 st2
  have gz_b2 : n0 ≤ b2 := Nat.le_trans Z0 (Nat.le_of_eq g2.symm)
  have hz_b2 : h0.size ≤ b2 := Nat.le_trans (Keep.refl h0 []).1 (Nat.le_of_eq g2.symm)
  have Z2 : n0 ≤ h2.size := Nat.le_trans Z0 E2.1
  have K2 : Keep h0 h2 [] := (Keep.refl h0 []).ext E2
  have V2 : own_A Z h2 b2 k2 .double ((List.range N).map (own_dn (fun j => FP.i2d (lo j + q (j + 1) % ln j)) N)) := own_newD (own_A.new A2 (N := N) (own_cl (by omega)))
  refine own_go (T' := T2) (g' := (mkF m 7 #[.val (.ref xo), .val (.int xq), .unset, .unset, .unset] [(.ref b2)])) (fun _ k => st2 _ k) ?_
  refine own_go (T' := T2) (g' := (mkF m 8 #[.val (.ref xo), .val (.int xq), .val (.ref b2), .unset, .unset] [])) (fun _ k => XS.astoreN X2.here hx rfl (hb hby own_dSb_7) rfl rfl (l' := #[.val (.ref xo), .val (.int xq), .val (.ref b2), .unset, .unset]) rfl k) ?_
  refine own_go (T' := T2) (g' := (mkF m 9 #[.val (.ref xo), .val (.int xq), .val (.ref b2), .unset, .unset] [(.int xq)])) (fun _ k => XS.iloadN X2.here hx rfl (hb hby own_dSb_8) rfl k) ?_
  refine own_go (T' := T2) (g' := (mkF m 10 #[.val (.ref xo), .val (.int xq), .val (.ref b2), .val (.int xq), .unset] [])) (fun _ k => XS.istoreN X2.here hx rfl (hb hby own_dSb_9) rfl (l' := #[.val (.ref xo), .val (.int xq), .val (.ref b2), .val (.int xq), .unset]) rfl k) ?_
  refine own_go (T' := T2) (g' := (mkF m 11 #[.val (.ref xo), .val (.int xq), .val (.ref b2), .val (.int xq), .unset] [(.ref xo)])) (fun _ k => XS.aloadN X2.here hx rfl (hb hby own_dSb_10) rfl rfl k) ?_
  obtain ⟨T3, X3, e3, st3⟩ := getF X2 hx hZ hown (host := "") (Or.inl (hw _ (List.mem_of_getElem? (i := 108) rfl))) Via.refl e2 (Fa.keep K2 (fun q => nomatch q)) (g := (mkF m 11 #[.val (.ref xo), .val (.int xq), .val (.ref b2), .val (.int xq), .unset] [(.ref xo)])) rfl rfl (hb hby own_dSb_11)
  refine own_go (T' := T3) (g' := (mkF m 14 #[.val (.ref xo), .val (.int xq), .val (.ref b2), .val (.int xq), .unset] [(.ref ya)])) (fun _ k => st3 _ k) ?_
  refine own_go (T' := T3) (g' := (mkF m 15 #[.val (.ref xo), .val (.int xq), .val (.ref b2), .val (.int xq), .unset] [(.int (Int32.ofNat N))])) (fun _ k => own_alen X3 hx hZ e3 (Aa.keep K2 (fun q => nomatch q)) (g := (mkF m 14 #[.val (.ref xo), .val (.int xq), .val (.ref b2), .val (.int xq), .unset] [(.ref ya)])) rfl rfl (hb hby own_dSb_14) (n := (Int32.ofNat N)) own_rl k) ?_
  refine own_go (T' := T3) (g' := (mkF m 16 #[.val (.ref xo), .val (.int xq), .val (.ref b2), .val (.int xq), .unset] [(.int (1 : Int32)), (.int (Int32.ofNat N))])) (fun _ k => XS.iconst X3.here hx rfl (hb hby own_dSb_15) k) ?_
  refine own_go (T' := T3) (g' := (mkF m 17 #[.val (.ref xo), .val (.int xq), .val (.ref b2), .val (.int xq), .unset] [(.int ((Int32.ofNat N) - (1 : Int32)))])) (fun _ k => XS.isub X3.here hx rfl (hb hby own_dSb_16) rfl k) ?_
  refine own_go (T' := T3) (g' := (mkF m 19 #[.val (.ref xo), .val (.int xq), .val (.ref b2), .val (.int xq), .val (.int ((Int32.ofNat N) - (1 : Int32)))] [])) (fun _ k => XS.istore X3.here hx rfl (hb hby own_dSb_17) rfl (l' := #[.val (.ref xo), .val (.int xq), .val (.ref b2), .val (.int xq), .val (.int ((Int32.ofNat N) - (1 : Int32)))]) rfl k) ?_
  have loop19 : ∀ (xt : Nat) (hl : Heap) (Tl : State) (Ll : List Loc) (Xl : Stand p l e ({ frames := 0, cells := 1, slots := 6, locals := 0 } : Room) s m #[(.ref xo), (.int xq)] below meth c Tl Ll 1 6) (el : Tl.heap = hl) (Nl : Fr n0 Ll) (ht : xt ≤ N) (Zl : n0 ≤ hl.size) (Kl : Keep h0 hl []) (Vl : own_A Z hl b2 k2 .double ((List.range N).map (own_dn (fun j => FP.i2d (lo j + q (j + 1) % ln j)) xt))), own_F p e below (fun o U' => ∃ v L, o = .returned v ∧ own_QSb Z xo xq ya yb qa qb N lo ln q h0 n0 v U'.heap L ∧ FrameEnd s o U' L ({ frames := 0, cells := 1, slots := 6, locals := 0 } : Room).cells ({ frames := 0, cells := 1, slots := 6, locals := 0 } : Room).slots) Tl (mkF m 19 #[.val (.ref xo), .val (.int xq), .val (.ref b2), .val (.int (q xt)), .val (.int ((Int32.ofNat xt) - (1 : Int32)))] []) := by
    intro xt
    induction xt with
    | zero =>
      intro hl Tl Ll Xl el Nl ht Zl Kl Vl
      refine own_go (T' := Tl) (g' := (mkF m 21 #[.val (.ref xo), .val (.int xq), .val (.ref b2), .val (.int (q 0)), .val (.int ((Int32.ofNat 0) - (1 : Int32)))] [(.int ((Int32.ofNat 0) - (1 : Int32)))])) (fun _ k => XS.iload Xl.here hx rfl (hb hby own_dSb_19) rfl k) ?_
      refine own_go (T' := Tl) (g' := (mkF m 62 #[.val (.ref xo), .val (.int xq), .val (.ref b2), .val (.int (q 0)), .val (.int ((Int32.ofNat 0) - (1 : Int32)))] [])) (fun _ k => XS.ifYes Xl.here hx rfl (pc0 := 21) (pc' := 62) rfl (hb hby own_dSb_21) rfl ((if0 _ _).trans (tlt ((by decide) : ((Int32.ofNat 0) - (1 : Int32)) < (0 : Int32))).1) (by decide) (by decide) k) ?_
      refine own_go (T' := Tl) (g' := (mkF m 63 #[.val (.ref xo), .val (.int xq), .val (.ref b2), .val (.int (q 0)), .val (.int ((Int32.ofNat 0) - (1 : Int32)))] [(.ref b2)])) (fun _ k => XS.aloadN Xl.here hx rfl (hb hby own_dSb_62) rfl rfl k) ?_
      obtain ⟨fs, hr, hrun, hended, hW, hsame⟩ := Xl.leave (v := some (.ref b2)) (fun h => by rw [Bd.returns] at h; cases h)
      refine own_end (retOut Xl hx Bd.returns rfl (Or.inr (Or.inr (Or.inr (Or.inr ⟨rfl, rfl, rfl⟩)))) (hb hby own_dSb_63) hr) hrun hended ⟨_, _, rfl, (?_ : own_QSb Z xo xq ya yb qa qb N lo ln q h0 n0 _ Tl.heap _), ⟨_, rfl⟩, hW, hsame.mono (by decide) (by decide)⟩
      rw [el]
      exact ⟨rfl, Nl, Kl, b2, k2, rfl, Vl⟩
    | succ xt ih =>
      intro hl Tl Ll Xl el Nl ht Zl Kl Vl
      rw [own_pred xt]
      refine own_go (T' := Tl) (g' := (mkF m 21 #[.val (.ref xo), .val (.int xq), .val (.ref b2), .val (.int (q (xt + 1))), .val (.int (Int32.ofNat xt))] [(.int (Int32.ofNat xt))])) (fun _ k => XS.iload Xl.here hx rfl (hb hby own_dSb_19) rfl k) ?_
      refine own_go (T' := Tl) (g' := (mkF m 24 #[.val (.ref xo), .val (.int xq), .val (.ref b2), .val (.int (q (xt + 1))), .val (.int (Int32.ofNat xt))] [])) (fun _ k => XS.ifNo Xl.here hx rfl (hb hby own_dSb_21) rfl ((if0 _ _).trans (flt (own_nneg (by omega) : ¬ ((Int32.ofNat xt) < (0 : Int32)))).1) k) ?_
      refine own_go (T' := Tl) (g' := (mkF m 25 #[.val (.ref xo), .val (.int xq), .val (.ref b2), .val (.int (q (xt + 1))), .val (.int (Int32.ofNat xt))] [(.ref b2)])) (fun _ k => XS.aloadN Xl.here hx rfl (hb hby own_dSb_24) rfl rfl k) ?_
      refine own_go (T' := Tl) (g' := (mkF m 27 #[.val (.ref xo), .val (.int xq), .val (.ref b2), .val (.int (q (xt + 1))), .val (.int (Int32.ofNat xt))] [(.int (Int32.ofNat xt)), (.ref b2)])) (fun _ k => XS.iload Xl.here hx rfl (hb hby own_dSb_25) rfl k) ?_
      refine own_go (T' := Tl) (g' := (mkF m 28 #[.val (.ref xo), .val (.int xq), .val (.ref b2), .val (.int (q (xt + 1))), .val (.int (Int32.ofNat xt))] [(.ref xo), (.int (Int32.ofNat xt)), (.ref b2)])) (fun _ k => XS.aloadN Xl.here hx rfl (hb hby own_dSb_27) rfl rfl k) ?_
      obtain ⟨T4, X4, e4, st4⟩ := getF Xl hx hZ hown (host := "") (Or.inl (hw _ (List.mem_of_getElem? (i := 108) rfl))) Via.refl el (Fa.keep Kl (fun q => nomatch q)) (g := (mkF m 28 #[.val (.ref xo), .val (.int xq), .val (.ref b2), .val (.int (q (xt + 1))), .val (.int (Int32.ofNat xt))] [(.ref xo), (.int (Int32.ofNat xt)), (.ref b2)])) rfl rfl (hb hby own_dSb_28)
      refine own_go (T' := T4) (g' := (mkF m 31 #[.val (.ref xo), .val (.int xq), .val (.ref b2), .val (.int (q (xt + 1))), .val (.int (Int32.ofNat xt))] [(.ref ya), (.int (Int32.ofNat xt)), (.ref b2)])) (fun _ k => st4 _ k) ?_
      refine own_go (T' := T4) (g' := (mkF m 33 #[.val (.ref xo), .val (.int xq), .val (.ref b2), .val (.int (q (xt + 1))), .val (.int (Int32.ofNat xt))] [(.int (Int32.ofNat xt)), (.ref ya), (.int (Int32.ofNat xt)), (.ref b2)])) (fun _ k => XS.iload X4.here hx rfl (hb hby own_dSb_31) rfl k) ?_
      refine own_go (T' := T4) (g' := (mkF m 34 #[.val (.ref xo), .val (.int xq), .val (.ref b2), .val (.int (q (xt + 1))), .val (.int (Int32.ofNat xt))] [(.int (lo xt)), (.int (Int32.ofNat xt)), (.ref b2)])) (fun _ k => own_iaload X4 hx hZ e4 (Aa.keep Kl (fun q => nomatch q)) (j := (Int32.ofNat xt)) (v := (.int (lo xt))) (own_nneg (by omega)) (own_vi (by omega) (own_ug (by omega) (by omega))) (g := (mkF m 33 #[.val (.ref xo), .val (.int xq), .val (.ref b2), .val (.int (q (xt + 1))), .val (.int (Int32.ofNat xt))] [(.int (Int32.ofNat xt)), (.ref ya), (.int (Int32.ofNat xt)), (.ref b2)])) rfl rfl (hb hby own_dSb_33) k) ?_
      refine own_go (T' := T4) (g' := (mkF m 35 #[.val (.ref xo), .val (.int xq), .val (.ref b2), .val (.int (q (xt + 1))), .val (.int (Int32.ofNat xt))] [(.int (q (xt + 1))), (.int (lo xt)), (.int (Int32.ofNat xt)), (.ref b2)])) (fun _ k => XS.iloadN X4.here hx rfl (hb hby own_dSb_34) rfl k) ?_
      refine own_go (T' := T4) (g' := (mkF m 36 #[.val (.ref xo), .val (.int xq), .val (.ref b2), .val (.int (q (xt + 1))), .val (.int (Int32.ofNat xt))] [(.ref xo), (.int (q (xt + 1))), (.int (lo xt)), (.int (Int32.ofNat xt)), (.ref b2)])) (fun _ k => XS.aloadN X4.here hx rfl (hb hby own_dSb_35) rfl rfl k) ?_
      obtain ⟨T5, X5, e5, st5⟩ := getF X4 hx hZ hown (host := "") (Or.inl (hw _ (List.mem_of_getElem? (i := 110) rfl))) Via.refl e4 (Fb.keep Kl (fun q => nomatch q)) (g := (mkF m 36 #[.val (.ref xo), .val (.int xq), .val (.ref b2), .val (.int (q (xt + 1))), .val (.int (Int32.ofNat xt))] [(.ref xo), (.int (q (xt + 1))), (.int (lo xt)), (.int (Int32.ofNat xt)), (.ref b2)])) rfl rfl (hb hby own_dSb_36)
      refine own_go (T' := T5) (g' := (mkF m 39 #[.val (.ref xo), .val (.int xq), .val (.ref b2), .val (.int (q (xt + 1))), .val (.int (Int32.ofNat xt))] [(.ref yb), (.int (q (xt + 1))), (.int (lo xt)), (.int (Int32.ofNat xt)), (.ref b2)])) (fun _ k => st5 _ k) ?_
      refine own_go (T' := T5) (g' := (mkF m 41 #[.val (.ref xo), .val (.int xq), .val (.ref b2), .val (.int (q (xt + 1))), .val (.int (Int32.ofNat xt))] [(.int (Int32.ofNat xt)), (.ref yb), (.int (q (xt + 1))), (.int (lo xt)), (.int (Int32.ofNat xt)), (.ref b2)])) (fun _ k => XS.iload X5.here hx rfl (hb hby own_dSb_39) rfl k) ?_
      refine own_go (T' := T5) (g' := (mkF m 42 #[.val (.ref xo), .val (.int xq), .val (.ref b2), .val (.int (q (xt + 1))), .val (.int (Int32.ofNat xt))] [(.int (ln xt)), (.int (q (xt + 1))), (.int (lo xt)), (.int (Int32.ofNat xt)), (.ref b2)])) (fun _ k => own_iaload X5 hx hZ e5 (Ab.keep Kl (fun q => nomatch q)) (j := (Int32.ofNat xt)) (v := (.int (ln xt))) (own_nneg (by omega)) (own_vi (by omega) (own_ug (by omega) (by omega))) (g := (mkF m 41 #[.val (.ref xo), .val (.int xq), .val (.ref b2), .val (.int (q (xt + 1))), .val (.int (Int32.ofNat xt))] [(.int (Int32.ofNat xt)), (.ref yb), (.int (q (xt + 1))), (.int (lo xt)), (.int (Int32.ofNat xt)), (.ref b2)])) rfl rfl (hb hby own_dSb_41) k) ?_
      refine own_go (T' := T5) (g' := (mkF m 43 #[.val (.ref xo), .val (.int xq), .val (.ref b2), .val (.int (q (xt + 1))), .val (.int (Int32.ofNat xt))] [(.int ((q (xt + 1)) % (ln xt))), (.int (lo xt)), (.int (Int32.ofNat xt)), (.ref b2)])) (fun _ k => iremM X5 hx rfl (hb hby own_dSb_42) rfl (hnz xt (by omega)) k) ?_
      refine own_go (T' := T5) (g' := (mkF m 44 #[.val (.ref xo), .val (.int xq), .val (.ref b2), .val (.int (q (xt + 1))), .val (.int (Int32.ofNat xt))] [(.int ((lo xt) + ((q (xt + 1)) % (ln xt)))), (.int (Int32.ofNat xt)), (.ref b2)])) (fun _ k => XS.iadd X5.here hx rfl (hb hby own_dSb_43) rfl k) ?_
      refine own_go (T' := T5) (g' := (mkF m 45 #[.val (.ref xo), .val (.int xq), .val (.ref b2), .val (.int (q (xt + 1))), .val (.int (Int32.ofNat xt))] [(.double (FP.i2d ((lo xt) + ((q (xt + 1)) % (ln xt))))), (.int (Int32.ofNat xt)), (.ref b2)])) (fun _ k => XS.i2dS X5.here hx rfl (hb hby own_dSb_44) rfl rfl k) ?_
      obtain ⟨T6, h6, X6, e6, V6, W6, st6⟩ := own_dastore X5 hx hZ e5 Vl (j := (Int32.ofNat xt)) (i := xt) (own_cl (by omega)) (own_nneg (by omega)) (own_rlen (by omega)) (g := (mkF m 45 #[.val (.ref xo), .val (.int xq), .val (.ref b2), .val (.int (q (xt + 1))), .val (.int (Int32.ofNat xt))] [(.double (FP.i2d ((lo xt) + ((q (xt + 1)) % (ln xt))))), (.int (Int32.ofNat xt)), (.ref b2)])) rfl rfl (hb hby own_dSb_45)
      have Va6 : own_A Z h6 b2 k2 .double ((List.range N).map (own_dn (fun j => FP.i2d (lo j + q (j + 1) % ln j)) xt)) := by rw [own_dset (f := (fun j => FP.i2d (lo j + q (j + 1) % ln j)))] at V6; exact V6
      have Z6 : n0 ≤ h6.size := Nat.le_trans Zl (Keep.of_wr W6).1
      have K6 : Keep h0 h6 [] := Kl.wr W6 (Or.inr hz_b2)
      have N6 := Fr.snoc X6 Nl gz_b2
      refine own_go (T' := T6) (g' := (mkF m 46 #[.val (.ref xo), .val (.int xq), .val (.ref b2), .val (.int (q (xt + 1))), .val (.int (Int32.ofNat xt))] [])) (fun _ k => st6 _ k) ?_
      refine own_go (T' := T6) (g' := (mkF m 47 #[.val (.ref xo), .val (.int xq), .val (.ref b2), .val (.int (q (xt + 1))), .val (.int (Int32.ofNat xt))] [(.int (q (xt + 1)))])) (fun _ k => XS.iloadN X6.here hx rfl (hb hby own_dSb_46) rfl k) ?_
      refine own_go (T' := T6) (g' := (mkF m 48 #[.val (.ref xo), .val (.int xq), .val (.ref b2), .val (.int (q (xt + 1))), .val (.int (Int32.ofNat xt))] [(.ref xo), (.int (q (xt + 1)))])) (fun _ k => XS.aloadN X6.here hx rfl (hb hby own_dSb_47) rfl rfl k) ?_
      obtain ⟨T7, X7, e7, st7⟩ := getF X6 hx hZ hown (host := "") (Or.inl (hw _ (List.mem_of_getElem? (i := 110) rfl))) Via.refl e6 (Fb.keep K6 (fun q => nomatch q)) (g := (mkF m 48 #[.val (.ref xo), .val (.int xq), .val (.ref b2), .val (.int (q (xt + 1))), .val (.int (Int32.ofNat xt))] [(.ref xo), (.int (q (xt + 1)))])) rfl rfl (hb hby own_dSb_48)
      refine own_go (T' := T7) (g' := (mkF m 51 #[.val (.ref xo), .val (.int xq), .val (.ref b2), .val (.int (q (xt + 1))), .val (.int (Int32.ofNat xt))] [(.ref yb), (.int (q (xt + 1)))])) (fun _ k => st7 _ k) ?_
      refine own_go (T' := T7) (g' := (mkF m 53 #[.val (.ref xo), .val (.int xq), .val (.ref b2), .val (.int (q (xt + 1))), .val (.int (Int32.ofNat xt))] [(.int (Int32.ofNat xt)), (.ref yb), (.int (q (xt + 1)))])) (fun _ k => XS.iload X7.here hx rfl (hb hby own_dSb_51) rfl k) ?_
      refine own_go (T' := T7) (g' := (mkF m 54 #[.val (.ref xo), .val (.int xq), .val (.ref b2), .val (.int (q (xt + 1))), .val (.int (Int32.ofNat xt))] [(.int (ln xt)), (.int (q (xt + 1)))])) (fun _ k => own_iaload X7 hx hZ e7 (Ab.keep K6 (fun q => nomatch q)) (j := (Int32.ofNat xt)) (v := (.int (ln xt))) (own_nneg (by omega)) (own_vi (by omega) (own_ug (by omega) (by omega))) (g := (mkF m 53 #[.val (.ref xo), .val (.int xq), .val (.ref b2), .val (.int (q (xt + 1))), .val (.int (Int32.ofNat xt))] [(.int (Int32.ofNat xt)), (.ref yb), (.int (q (xt + 1)))])) rfl rfl (hb hby own_dSb_53) k) ?_
      refine own_go (T' := T7) (g' := (mkF m 55 #[.val (.ref xo), .val (.int xq), .val (.ref b2), .val (.int (q (xt + 1))), .val (.int (Int32.ofNat xt))] [(.int ((q (xt + 1)) / (ln xt)))])) (fun _ k => XS.idiv X7.here hx rfl (hb hby own_dSb_54) rfl (hnz xt (by omega)) k) ?_
      refine own_go (T' := T7) (g' := (mkF m 56 #[.val (.ref xo), .val (.int xq), .val (.ref b2), .val (.int ((q (xt + 1)) / (ln xt))), .val (.int (Int32.ofNat xt))] [])) (fun _ k => XS.istoreN X7.here hx rfl (hb hby own_dSb_55) rfl (l' := #[.val (.ref xo), .val (.int xq), .val (.ref b2), .val (.int ((q (xt + 1)) / (ln xt))), .val (.int (Int32.ofNat xt))]) rfl k) ?_
      refine own_go (T' := T7) (g' := (mkF m 59 #[.val (.ref xo), .val (.int xq), .val (.ref b2), .val (.int ((q (xt + 1)) / (ln xt))), .val (.int ((Int32.ofNat xt) + (-1 : Int32)))] [])) (fun _ k => XS.iinc X7.here hx rfl (hb hby own_dSb_56) rfl (l' := #[.val (.ref xo), .val (.int xq), .val (.ref b2), .val (.int ((q (xt + 1)) / (ln xt))), .val (.int ((Int32.ofNat xt) + (-1 : Int32)))]) rfl k) ?_
      refine own_go (T' := T7) (g' := (mkF m 19 #[.val (.ref xo), .val (.int xq), .val (.ref b2), .val (.int ((q (xt + 1)) / (ln xt))), .val (.int ((Int32.ofNat xt) + (-1 : Int32)))] [])) (fun _ k => XS.goto X7.here hx rfl (pc0 := 59) (pc' := 19) rfl (hb hby own_dSb_59) (by decide) (by decide) k) ?_
      rw [own_dec xt, hqs xt (by omega)]
      exact ih h6 T7 _ X7 e7 N6 (by omega) Z6 K6 Va6
  have h19 := loop19 N h2 T3 _ X3 e3 N0 (Nat.le_refl N) Z2 K2 V2
  rw [hq0] at h19
  exact h19
theorem own_dDg_0 : decode method_5_code 0 = .ok (.iload_n 1, 1) := by decide +kernel
theorem own_dDg_1 : decode method_5_code 1 = .ok (.iload_n 2, 1) := by decide +kernel
theorem own_dDg_2 : decode method_5_code 2 = .ok (.if_icmp .lt 5, 3) := by decide +kernel
theorem own_dDg_5 : decode method_5_code 5 = .ok (.iconst 1, 1) := by decide +kernel
theorem own_dDg_6 : decode method_5_code 6 = .ok (.ireturn, 1) := by decide +kernel
theorem own_dDg_7 : decode method_5_code 7 = .ok (.aload_n 0, 1) := by decide +kernel
theorem own_dDg_8 : decode method_5_code 8 = .ok (.iload_n 1, 1) := by decide +kernel
theorem own_dDg_9 : decode method_5_code 9 = .ok (.daload, 1) := by decide +kernel
theorem own_dDg_10 : decode method_5_code 10 = .ok (.iload_n 3, 1) := by decide +kernel
theorem own_dDg_11 : decode method_5_code 11 = .ok (.i2l, 1) := by decide +kernel
theorem own_dDg_12 : decode method_5_code 12 = .ok (.lload 7, 2) := by decide +kernel
theorem own_dDg_14 : decode method_5_code 14 = .ok (.lload 5, 2) := by decide +kernel
theorem own_dDg_16 : decode method_5_code 16 = .ok (.ldiv, 1) := by decide +kernel
theorem own_dDg_17 : decode method_5_code 17 = .ok (.iload 4, 2) := by decide +kernel
theorem own_dDg_19 : decode method_5_code 19 = .ok (.i2l, 1) := by decide +kernel
theorem own_dDg_20 : decode method_5_code 20 = .ok (.lrem, 1) := by decide +kernel
theorem own_dDg_21 : decode method_5_code 21 = .ok (.ladd, 1) := by decide +kernel
theorem own_dDg_22 : decode method_5_code 22 = .ok (.l2d, 1) := by decide +kernel
theorem own_dDg_23 : decode method_5_code 23 = .ok (.dcmp .l, 1) := by decide +kernel
theorem own_dDg_24 : decode method_5_code 24 = .ok (.ifCond .ne 7, 3) := by decide +kernel
theorem own_dDg_27 : decode method_5_code 27 = .ok (.iconst 1, 1) := by decide +kernel
theorem own_dDg_28 : decode method_5_code 28 = .ok (.goto 4, 3) := by decide +kernel
theorem own_dDg_32 : decode method_5_code 32 = .ok (.ireturn, 1) := by decide +kernel
theorem own_efDg (m : MethodId) (xr : Addr) (xk : Int32) (xd : Int32) (xl : Int32) (xn : Int32) (xs : Int64) (xi : Int64) : entryFrame m #[(.ref xr), (.int xk), (.int xd), (.int xl), (.int xn), (.long xs), (.long xi)] 9 = mkF m 0 #[.val (.ref xr), .val (.int xk), .val (.int xd), .val (.int xl), .val (.int xn), .val (.long xs), .second, .val (.long xi), .second] [] := by first | (simp [entryFrame, mkF, argsToLocals, Value.category]; done) | rfl
def own_QDg (Z : State) (xr : Addr) (xk : Int32) (xd : Int32) (xl : Int32) (xn : Int32) (xs : Int64) (xi : Int64) (kr : ClassId) (vs : List Value) (w : Int32) (h0 : Heap) (n0 : Nat) (v : Option Value) (h : Heap) (L : List Loc) : Prop := v = some (.int (1 : Int32)) ∧ Fr n0 L ∧ h = h0
set_option maxRecDepth 65536 in
set_option maxHeartbeats 40000000 in
theorem own_rDg (l : Launch) (Z : State) (a0 : Array Value) (hw : ∀ d ∈ tables_1, d.before a0 Z = true) (ws : List Jvm.Cond) (xr : Addr) (xk : Int32) (xd : Int32) (xl : Int32) (xn : Int32) (xs : Int64) (xi : Int64) (kr : ClassId) (vs : List Value) (w : Int32) (h0 : Heap) (n0 : Nat) (Z0 : n0 ≤ h0.size) (Av : own_A Z h0 xr kr .double vs) (hD : xk < xd → ¬ xk < 0 ∧ vs[xk.toNatClampNeg]? = some (.double (FP.i2d w)) ∧ w.toInt64 = xl.toInt64 + ((xi / xs) - ((xi / xs) / xn.toInt64) * xn.toInt64) ∧ xs ≠ 0 ∧ xn.toInt64 ≠ 0) :
    MetFree l (⟨"com/example/benchlight/benchlight/BoundsSubscriptsPinLaw", "digit", "([DIIIIJJ)Z"⟩ : MethodName) (head1 (Jvm.Cond.code (⟨"com/example/benchlight/benchlight/BoundsSubscriptsPinLaw", "digit", "([DIIIIJJ)Z"⟩ : MethodName) method_5_code 9 (some .boolean) :: ws) ({ frames := 0, cells := 0, slots := 0, locals := 0 } : Room)) (fun a U => a = #[(.ref xr), (.int xk), (.int xd), (.int xl), (.int xn), (.long xs), (.long xi)] ∧ Z.Warmed39 U.vm ∧ U.heap = h0) (fun _ _ _ _ _ => True) (fun _ U o U' => ∃ v L, o = .returned v ∧ own_QDg Z xr xk xd xl xn xs xi kr vs w h0 n0 v U'.heap L ∧ FrameEnd U o U' L ({ frames := 0, cells := 0, slots := 0, locals := 0 } : Room).cells ({ frames := 0, cells := 0, slots := 0, locals := 0 } : Room).slots) := by
  refine MetFree.of_bodySF (plainFor_of_name own_pn0) hisR ?_
  intro p e s m args below meth c s₁ Bd hml0 hP hK
  obtain ⟨rfl, hZ, hh⟩ := hP
  have hx := Bd.exec
  have hby := Bd.bytes
  have hml : c.maxLocals = 9 := hml0
  have hown : s.vm.findClass "com/example/benchlight/benchlight/BoundsSubscriptsPinLaw" = some m.cls := findClass_of_methodNamed Bd.named
  have hnm := (name_of_methodNamed Bd.named Bd.method).1
  have X0 : Stand p l e ({ frames := 0, cells := 0, slots := 0, locals := 0 } : Room) s m #[(.ref xr), (.int xk), (.int xd), (.int xl), (.int xn), (.long xs), (.long xi)] below meth c s₁ [] 0 0 := Stand.of_body Bd
  have e0 : s₁.heap = h0 := by rw [← hh, Bd.state]; rfl
  have N0 := Fr.nil n0
  show own_F p e below (fun o U' => ∃ v L, o = .returned v ∧ own_QDg Z xr xk xd xl xn xs xi kr vs w h0 n0 v U'.heap L ∧ FrameEnd s o U' L ({ frames := 0, cells := 0, slots := 0, locals := 0 } : Room).cells ({ frames := 0, cells := 0, slots := 0, locals := 0 } : Room).slots) s₁ (entryFrame m #[(.ref xr), (.int xk), (.int xd), (.int xl), (.int xn), (.long xs), (.long xi)] 9)
  rw [own_efDg m xr xk xd xl xn xs xi]
  refine own_go (T' := s₁) (g' := (mkF m 1 #[.val (.ref xr), .val (.int xk), .val (.int xd), .val (.int xl), .val (.int xn), .val (.long xs), .second, .val (.long xi), .second] [(.int xk)])) (fun _ k => XS.iloadN X0.here hx rfl (hb hby own_dDg_0) rfl k) ?_
  refine own_go (T' := s₁) (g' := (mkF m 2 #[.val (.ref xr), .val (.int xk), .val (.int xd), .val (.int xl), .val (.int xn), .val (.long xs), .second, .val (.long xi), .second] [(.int xd), (.int xk)])) (fun _ k => XS.iloadN X0.here hx rfl (hb hby own_dDg_1) rfl k) ?_
  by_cases hc2 : xk < xd
  · refine own_go (T' := s₁) (g' := (mkF m 7 #[.val (.ref xr), .val (.int xk), .val (.int xd), .val (.int xl), .val (.int xn), .val (.long xs), .second, .val (.long xi), .second] [])) (fun _ k => XS.icmpYes X0.here hx rfl (pc0 := 2) (pc' := 7) rfl (hb hby own_dDg_2) rfl (tlt (hc2 : xk < xd)).1 (by decide) (by decide) k) ?_
    refine own_go (T' := s₁) (g' := (mkF m 8 #[.val (.ref xr), .val (.int xk), .val (.int xd), .val (.int xl), .val (.int xn), .val (.long xs), .second, .val (.long xi), .second] [(.ref xr)])) (fun _ k => XS.aloadN X0.here hx rfl (hb hby own_dDg_7) rfl rfl k) ?_
    refine own_go (T' := s₁) (g' := (mkF m 9 #[.val (.ref xr), .val (.int xk), .val (.int xd), .val (.int xl), .val (.int xn), .val (.long xs), .second, .val (.long xi), .second] [(.int xk), (.ref xr)])) (fun _ k => XS.iloadN X0.here hx rfl (hb hby own_dDg_8) rfl k) ?_
    refine own_go (T' := s₁) (g' := (mkF m 10 #[.val (.ref xr), .val (.int xk), .val (.int xd), .val (.int xl), .val (.int xn), .val (.long xs), .second, .val (.long xi), .second] [(.double (FP.i2d w))])) (fun _ k => own_daload X0 hx hZ e0 Av (j := xk) (v := (.double (FP.i2d w))) (hD hc2).1 (hD hc2).2.1 (g := (mkF m 9 #[.val (.ref xr), .val (.int xk), .val (.int xd), .val (.int xl), .val (.int xn), .val (.long xs), .second, .val (.long xi), .second] [(.int xk), (.ref xr)])) rfl rfl (hb hby own_dDg_9) k) ?_
    refine own_go (T' := s₁) (g' := (mkF m 11 #[.val (.ref xr), .val (.int xk), .val (.int xd), .val (.int xl), .val (.int xn), .val (.long xs), .second, .val (.long xi), .second] [(.int xl), (.double (FP.i2d w))])) (fun _ k => XS.iloadN X0.here hx rfl (hb hby own_dDg_10) rfl k) ?_
    refine own_go (T' := s₁) (g' := (mkF m 12 #[.val (.ref xr), .val (.int xk), .val (.int xd), .val (.int xl), .val (.int xn), .val (.long xs), .second, .val (.long xi), .second] [(.long (xl.toInt64)), (.double (FP.i2d w))])) (fun _ k => XS.i2l X0.here hx rfl (hb hby own_dDg_11) rfl k) ?_
    refine own_go (T' := s₁) (g' := (mkF m 14 #[.val (.ref xr), .val (.int xk), .val (.int xd), .val (.int xl), .val (.int xn), .val (.long xs), .second, .val (.long xi), .second] [(.long xi), (.long (xl.toInt64)), (.double (FP.i2d w))])) (fun _ k => XS.lload X0.here hx rfl (hb hby own_dDg_12) rfl k) ?_
    refine own_go (T' := s₁) (g' := (mkF m 16 #[.val (.ref xr), .val (.int xk), .val (.int xd), .val (.int xl), .val (.int xn), .val (.long xs), .second, .val (.long xi), .second] [(.long xs), (.long xi), (.long (xl.toInt64)), (.double (FP.i2d w))])) (fun _ k => XS.lload X0.here hx rfl (hb hby own_dDg_14) rfl k) ?_
    refine own_go (T' := s₁) (g' := (mkF m 17 #[.val (.ref xr), .val (.int xk), .val (.int xd), .val (.int xl), .val (.int xn), .val (.long xs), .second, .val (.long xi), .second] [(.long (xi / xs)), (.long (xl.toInt64)), (.double (FP.i2d w))])) (fun _ k => XS.ldiv X0.here hx rfl (hb hby own_dDg_16) rfl (hD hc2).2.2.2.1 k) ?_
    refine own_go (T' := s₁) (g' := (mkF m 19 #[.val (.ref xr), .val (.int xk), .val (.int xd), .val (.int xl), .val (.int xn), .val (.long xs), .second, .val (.long xi), .second] [(.int xn), (.long (xi / xs)), (.long (xl.toInt64)), (.double (FP.i2d w))])) (fun _ k => XS.iload X0.here hx rfl (hb hby own_dDg_17) rfl k) ?_
    refine own_go (T' := s₁) (g' := (mkF m 20 #[.val (.ref xr), .val (.int xk), .val (.int xd), .val (.int xl), .val (.int xn), .val (.long xs), .second, .val (.long xi), .second] [(.long (xn.toInt64)), (.long (xi / xs)), (.long (xl.toInt64)), (.double (FP.i2d w))])) (fun _ k => XS.i2l X0.here hx rfl (hb hby own_dDg_19) rfl k) ?_
    refine own_go (T' := s₁) (g' := (mkF m 21 #[.val (.ref xr), .val (.int xk), .val (.int xd), .val (.int xl), .val (.int xn), .val (.long xs), .second, .val (.long xi), .second] [(.long ((xi / xs) - ((xi / xs) / (xn.toInt64)) * (xn.toInt64))), (.long (xl.toInt64)), (.double (FP.i2d w))])) (fun _ k => XS.lrem X0.here hx rfl (hb hby own_dDg_20) rfl (hD hc2).2.2.2.2 k) ?_
    refine own_go (T' := s₁) (g' := (mkF m 22 #[.val (.ref xr), .val (.int xk), .val (.int xd), .val (.int xl), .val (.int xn), .val (.long xs), .second, .val (.long xi), .second] [(.long ((xl.toInt64) + ((xi / xs) - ((xi / xs) / (xn.toInt64)) * (xn.toInt64)))), (.double (FP.i2d w))])) (fun _ k => XS.ladd X0.here hx rfl (hb hby own_dDg_21) rfl k) ?_
    refine own_go (T' := s₁) (g' := (mkF m 23 #[.val (.ref xr), .val (.int xk), .val (.int xd), .val (.int xl), .val (.int xn), .val (.long xs), .second, .val (.long xi), .second] [(.double (FP.l2d ((xl.toInt64) + ((xi / xs) - ((xi / xs) / (xn.toInt64)) * (xn.toInt64))))), (.double (FP.i2d w))])) (fun _ k => XS.l2dS X0.here hx rfl (hb hby own_dDg_22) rfl rfl k) ?_
    refine own_go (T' := s₁) (g' := (mkF m 24 #[.val (.ref xr), .val (.int xk), .val (.int xd), .val (.int xl), .val (.int xn), .val (.long xs), .second, .val (.long xi), .second] [(.int (cmpValue (FP.dcmp (FP.i2d w) (FP.l2d ((xl.toInt64) + ((xi / xs) - ((xi / xs) / (xn.toInt64)) * (xn.toInt64))))) .l))])) (fun _ k => XS.dcmpS X0.here hx rfl (hb hby own_dDg_23) rfl rfl k) ?_
    refine own_go (T' := s₁) (g' := (mkF m 27 #[.val (.ref xr), .val (.int xk), .val (.int xd), .val (.int xl), .val (.int xn), .val (.long xs), .second, .val (.long xi), .second] [])) (fun _ k => XS.ifNo X0.here hx rfl (hb hby own_dDg_24) rfl ((if0 _ _).trans (teq (own_dc (hD hc2).2.2.1 : (cmpValue (FP.dcmp (FP.i2d w) (FP.l2d ((xl.toInt64) + ((xi / xs) - ((xi / xs) / (xn.toInt64)) * (xn.toInt64))))) .l) = (0 : Int32))).2) k) ?_
    refine own_go (T' := s₁) (g' := (mkF m 28 #[.val (.ref xr), .val (.int xk), .val (.int xd), .val (.int xl), .val (.int xn), .val (.long xs), .second, .val (.long xi), .second] [(.int (1 : Int32))])) (fun _ k => XS.iconst X0.here hx rfl (hb hby own_dDg_27) k) ?_
    refine own_go (T' := s₁) (g' := (mkF m 32 #[.val (.ref xr), .val (.int xk), .val (.int xd), .val (.int xl), .val (.int xn), .val (.long xs), .second, .val (.long xi), .second] [(.int (1 : Int32))])) (fun _ k => XS.goto X0.here hx rfl (pc0 := 28) (pc' := 32) rfl (hb hby own_dDg_28) (by decide) (by decide) k) ?_
    obtain ⟨fs, hr, hrun, hended, hW, hsame⟩ := X0.leave (v := some (.int (1 : Int32))) (fun h => by rw [Bd.returns] at h; cases h)
    refine own_end (retN X0 hx (t := .boolean) Bd.returns (by simp) (hb hby own_dDg_32) hr) hrun hended ⟨_, _, rfl, (?_ : own_QDg Z xr xk xd xl xn xs xi kr vs w h0 n0 _ s₁.heap _), ⟨_, rfl⟩, hW, hsame.mono (by decide) (by decide)⟩
    rw [e0]
    exact ⟨rfl, N0, rfl⟩
  · refine own_go (T' := s₁) (g' := (mkF m 5 #[.val (.ref xr), .val (.int xk), .val (.int xd), .val (.int xl), .val (.int xn), .val (.long xs), .second, .val (.long xi), .second] [])) (fun _ k => XS.icmpNo X0.here hx rfl (hb hby own_dDg_2) rfl (flt (hc2 : ¬ (xk < xd))).1 k) ?_
    refine own_go (T' := s₁) (g' := (mkF m 6 #[.val (.ref xr), .val (.int xk), .val (.int xd), .val (.int xl), .val (.int xn), .val (.long xs), .second, .val (.long xi), .second] [(.int (1 : Int32))])) (fun _ k => XS.iconst X0.here hx rfl (hb hby own_dDg_5) k) ?_
    obtain ⟨fs, hr, hrun, hended, hW, hsame⟩ := X0.leave (v := some (.int (1 : Int32))) (fun h => by rw [Bd.returns] at h; cases h)
    refine own_end (retN X0 hx (t := .boolean) Bd.returns (by simp) (hb hby own_dDg_6) hr) hrun hended ⟨_, _, rfl, (?_ : own_QDg Z xr xk xd xl xn xs xi kr vs w h0 n0 _ s₁.heap _), ⟨_, rfl⟩, hW, hsame.mono (by decide) (by decide)⟩
    rw [e0]
    exact ⟨rfl, N0, rfl⟩
theorem own_pd10 : parseMethodDescriptor "(JIJ)J" = some ⟨[.long, .int, .long], some .long⟩ := by decide +kernel
theorem own_pd11 : parseMethodDescriptor "(Ljava/util/List;)V" = some ⟨[(.object "java/util/List")], none⟩ := by decide +kernel
theorem own_pd12 : parseMethodDescriptor "(I)[D" = some ⟨[.int], some (.array .double)⟩ := by decide +kernel
theorem own_pd13 : parseMethodDescriptor "([DIIIIJJ)Z" = some ⟨[(.array .double), .int, .int, .int, .int, .long, .long], some .boolean⟩ := by decide +kernel
theorem own_pd14 : parseMethodDescriptor "(II)V" = some ⟨[.int, .int], none⟩ := by decide +kernel
theorem own_pd15 : parseMethodDescriptor "(Ljava/lang/Object;)Z" = some ⟨[(.object "java/lang/Object")], some .boolean⟩ := by decide +kernel
theorem own_efL (m : MethodId) (xa : Int64) (xb : Int64) (xc : Int64) (xn : Int32) (xx : Int32) : entryFrame m #[(.long xa), (.long xb), (.long xc), (.int xn), (.int xx)] maxLocals = mkF m 0 #[.val (.long xa), .second, .val (.long xb), .second, .val (.long xc), .second, .val (.int xn), .val (.int xx), .unset, .unset, .unset, .unset, .unset, .unset, .unset, .unset, .unset, .unset, .unset, .unset, .unset, .unset, .unset, .unset, .unset, .unset, .unset, .unset, .unset, .unset, .unset, .unset, .unset, .unset, .unset, .unset, .unset, .unset, .unset, .unset, .unset, .unset, .unset, .unset] [] := by first | (simp [entryFrame, mkF, argsToLocals, Value.category, maxLocals]; done) | rfl
def own_QL (Z : State) (xa : Int64) (xb : Int64) (xc : Int64) (xn : Int32) (xx : Int32) (xd : Addr) (kd : ClassId) (h0 : Heap) (n0 : Nat) (v : Option Value) (h : Heap) (L : List Loc) : Prop := v = some (.int (1 : Int32)) ∧ Fr n0 L
set_option maxRecDepth 65536 in
set_option maxHeartbeats 40000000 in
theorem own_rL (l : Launch) (Z : State) (a0 : Array Value) (hw : ∀ d ∈ tables_1, d.before a0 Z = true) (ws : List Jvm.Cond) (xa : Int64) (xb : Int64) (xc : Int64) (xn : Int32) (xx : Int32) (xd : Addr) (kd : ClassId) (h0 : Heap) (n0 : Nat) (Z0 : n0 ≤ h0.size) (Sd : Sta Z h0 "java/util/ArrayList" "DEFAULTCAPACITY_EMPTY_ELEMENTDATA" "[Ljava/lang/Object;" (.ref xd)) (Ad : own_A Z h0 xd kd (.object "java/lang/Object") []) :
    MetFree l x (head1 (Jvm.Cond.code x code maxLocals ret :: ws) room_1) (fun a U => a = #[(.long xa), (.long xb), (.long xc), (.int xn), (.int xx)] ∧ Z.Warmed39 U.vm ∧ U.heap = h0) (fun _ _ _ _ _ => True) (fun _ U o U' => ∃ v L, o = .returned v ∧ own_QL Z xa xb xc xn xx xd kd h0 n0 v U'.heap L ∧ FrameEnd U o U' L room_1.cells room_1.slots) := by
  refine MetFree.of_bodySF (plainFor_of_name own_pn0) hisR ?_
  intro p e s m args below meth c s₁ Bd hml0 hP hK
  obtain ⟨rfl, hZ, hh⟩ := hP
  have hx := Bd.exec
  have hby := Bd.bytes
  have hml : c.maxLocals = 44 := hml0
  have hown : s.vm.findClass "com/example/benchlight/benchlight/BoundsSubscriptsPinLaw" = some m.cls := findClass_of_methodNamed Bd.named
  have hnm := (name_of_methodNamed Bd.named Bd.method).1
  have X0 : Stand p l e room_1 s m #[(.long xa), (.long xb), (.long xc), (.int xn), (.int xx)] below meth c s₁ [] 0 0 := Stand.of_body Bd
  have e0 : s₁.heap = h0 := by rw [← hh, Bd.state]; rfl
  have N0 := Fr.nil n0
  show own_F p e below (fun o U' => ∃ v L, o = .returned v ∧ own_QL Z xa xb xc xn xx xd kd h0 n0 v U'.heap L ∧ FrameEnd s o U' L room_1.cells room_1.slots) s₁ (entryFrame m #[(.long xa), (.long xb), (.long xc), (.int xn), (.int xx)] maxLocals)
  rw [own_efL m xa xb xc xn xx]
  obtain ⟨N, hN, hN1, hN6⟩ := own_nd xn
  obtain ⟨lo0, hlo0⟩ : ∃ z, own_low xa (0 : Int32) = z := ⟨_, rfl⟩
  obtain ⟨lo1, hlo1⟩ : ∃ z, own_low xa (32 : Int32) = z := ⟨_, rfl⟩
  obtain ⟨lo2, hlo2⟩ : ∃ z, own_low xb (0 : Int32) = z := ⟨_, rfl⟩
  obtain ⟨lo3, hlo3⟩ : ∃ z, own_low xb (32 : Int32) = z := ⟨_, rfl⟩
  obtain ⟨lo4, hlo4⟩ : ∃ z, own_low xc (0 : Int32) = z := ⟨_, rfl⟩
  obtain ⟨lo5, hlo5⟩ : ∃ z, own_low xc (32 : Int32) = z := ⟨_, rfl⟩
  obtain ⟨ln0, hln0⟩ : ∃ z, own_lng xa (0 : Int32) = z := ⟨_, rfl⟩
  obtain ⟨ln1, hln1⟩ : ∃ z, (if (1 : Int32) < (Int32.ofNat N) then own_lng xa (32 : Int32) else (1 : Int32)) = z := ⟨_, rfl⟩
  obtain ⟨ln2, hln2⟩ : ∃ z, (if (2 : Int32) < (Int32.ofNat N) then own_lng xb (0 : Int32) else (1 : Int32)) = z := ⟨_, rfl⟩
  obtain ⟨ln3, hln3⟩ : ∃ z, (if (3 : Int32) < (Int32.ofNat N) then own_lng xb (32 : Int32) else (1 : Int32)) = z := ⟨_, rfl⟩
  obtain ⟨ln4, hln4⟩ : ∃ z, (if (4 : Int32) < (Int32.ofNat N) then own_lng xc (0 : Int32) else (1 : Int32)) = z := ⟨_, rfl⟩
  obtain ⟨ln5, hln5⟩ : ∃ z, (if (5 : Int32) < (Int32.ofNat N) then own_lng xc (32 : Int32) else (1 : Int32)) = z := ⟨_, rfl⟩
  have tail327 : ∀ (hl : Heap) (yl : Addr) (ya : Addr) (kya : ClassId) (vs : List Value) (es : Nat → Addr) (Tt327 : State) (Lt327 : List Loc) (Xt327 : Stand p l e room_1 s m #[(.long xa), (.long xb), (.long xc), (.int xn), (.int xx)] below meth c Tt327 Lt327 8 25) (et327 : Tt327.heap = hl) (Nt327 : Fr n0 Lt327) (DL : own_DL Z hl yl ya kya N vs es (own_l6 lo0 lo1 lo2 lo3 lo4 lo5) (fun j => own_l6 lo0 lo1 lo2 lo3 lo4 lo5 j + own_l6 ln0 ln1 ln2 ln3 ln4 ln5 j - (1 : Int32))) (Zt : n0 ≤ hl.size) (Kt : Keep h0 hl []) (Ot : Ext h0 hl), own_F p e below (fun o U' => ∃ v L, o = .returned v ∧ own_QL Z xa xb xc xn xx xd kd h0 n0 v U'.heap L ∧ FrameEnd s o U' L room_1.cells room_1.slots) Tt327 (mkF m 327 #[.val (.long xa), .second, .val (.long xb), .second, .val (.long xc), .second, .val (.int xn), .val (.int xx), .val (.int (Int32.ofNat N)), .val (.int lo0), .val (.int ln0), .val (.int lo1), .val (.int ln1), .val (.int lo2), .val (.int ln2), .val (.int lo3), .val (.int ln3), .val (.int lo4), .val (.int ln4), .val (.int lo5), .val (.int ln5), .val (.ref yl), .unset, .unset, .unset, .unset, .unset, .unset, .unset, .unset, .unset, .unset, .unset, .unset, .unset, .unset, .unset, .unset, .unset, .unset, .unset, .unset, .unset, .unset] []) := by
    intro hl yl ya kya vs es Tt327 Lt327 Xt327 et327 Nt327 DL Zt Kt Ot
    have rlo0 := own_lowR xa (0 : Int32)
    rw [hlo0] at rlo0
    have rlo1 := own_lowR xa (32 : Int32)
    rw [hlo1] at rlo1
    have rlo2 := own_lowR xb (0 : Int32)
    rw [hlo2] at rlo2
    have rlo3 := own_lowR xb (32 : Int32)
    rw [hlo3] at rlo3
    have rlo4 := own_lowR xc (0 : Int32)
    rw [hlo4] at rlo4
    have rlo5 := own_lowR xc (32 : Int32)
    rw [hlo5] at rlo5
    have rln0 := own_lenR xa (0 : Int32)
    rw [hln0] at rln0
    have rln1 := own_ljR hln1
    have rln2 := own_ljR hln2
    have rln3 := own_ljR hln3
    have rln4 := own_ljR hln4
    have rln5 := own_ljR hln5
    have rk0 : 1 ≤ (ln0.toInt64).toInt ∧ (ln0.toInt64).toInt ≤ 2147483648 := by rw [Jvm.Kit.i64_of_i32]; omega
    obtain ⟨kk1, hkk1⟩ : ∃ z, own_min ((ln0.toInt64) * ln1.toInt64) (2147483648 : Int64) = z := ⟨_, rfl⟩
    have rk1 := own_cnt hkk1 rk0 rln1
    obtain ⟨kk2, hkk2⟩ : ∃ z, own_min (kk1 * ln2.toInt64) (2147483648 : Int64) = z := ⟨_, rfl⟩
    have rk2 := own_cnt hkk2 rk1 rln2
    obtain ⟨kk3, hkk3⟩ : ∃ z, own_min (kk2 * ln3.toInt64) (2147483648 : Int64) = z := ⟨_, rfl⟩
    have rk3 := own_cnt hkk3 rk2 rln3
    obtain ⟨kk4, hkk4⟩ : ∃ z, own_min (kk3 * ln4.toInt64) (2147483648 : Int64) = z := ⟨_, rfl⟩
    have rk4 := own_cnt hkk4 rk3 rln4
    obtain ⟨kk5, hkk5⟩ : ∃ z, own_min (kk4 * ln5.toInt64) (2147483648 : Int64) = z := ⟨_, rfl⟩
    have rk5 := own_cnt hkk5 rk4 rln5
    have rlo : ∀ j, -32768 ≤ ((own_l6 lo0 lo1 lo2 lo3 lo4 lo5) j).toInt ∧ ((own_l6 lo0 lo1 lo2 lo3 lo4 lo5) j).toInt ≤ 32767 := own_all6 (P := fun z : Int32 => -32768 ≤ z.toInt ∧ z.toInt ≤ 32767) rlo0 rlo1 rlo2 rlo3 rlo4 rlo5
    have rln : ∀ j, 1 ≤ ((own_l6 ln0 ln1 ln2 ln3 ln4 ln5) j).toInt ∧ ((own_l6 ln0 ln1 ln2 ln3 ln4 ln5) j).toInt ≤ 65536 := own_all6 (P := fun z : Int32 => 1 ≤ z.toInt ∧ z.toInt ≤ 65536) rln0 rln1 rln2 rln3 rln4 rln5
    have rs5 : (1 : Int64).toInt = ((min (own_R (own_nl (own_l6 ln0 ln1 ln2 ln3 ln4 ln5)) 0) 4294967296 : Nat) : Int) := rfl
    obtain ⟨ss4, hss4⟩ : ∃ z, own_min ((1 : Int64) * ln5.toInt64) (4294967296 : Int64) = z := ⟨_, rfl⟩
    have rs4 : ss4.toInt = ((min (own_R (own_nl (own_l6 ln0 ln1 ln2 ln3 ln4 ln5)) 1) 4294967296 : Nat) : Int) := own_str (l := own_nl (own_l6 ln0 ln1 ln2 ln3 ln4 ln5) 5) hss4 rs5 (own_nlI (rln 5).1) (by have := rln 5; unfold own_nl; omega) (by have := rln 5; unfold own_nl; omega)
    obtain ⟨ss3, hss3⟩ : ∃ z, own_min (ss4 * ln4.toInt64) (4294967296 : Int64) = z := ⟨_, rfl⟩
    have rs3 : ss3.toInt = ((min (own_R (own_nl (own_l6 ln0 ln1 ln2 ln3 ln4 ln5)) 2) 4294967296 : Nat) : Int) := own_str (l := own_nl (own_l6 ln0 ln1 ln2 ln3 ln4 ln5) 4) hss3 rs4 (own_nlI (rln 4).1) (by have := rln 4; unfold own_nl; omega) (by have := rln 4; unfold own_nl; omega)
    obtain ⟨ss2, hss2⟩ : ∃ z, own_min (ss3 * ln3.toInt64) (4294967296 : Int64) = z := ⟨_, rfl⟩
    have rs2 : ss2.toInt = ((min (own_R (own_nl (own_l6 ln0 ln1 ln2 ln3 ln4 ln5)) 3) 4294967296 : Nat) : Int) := own_str (l := own_nl (own_l6 ln0 ln1 ln2 ln3 ln4 ln5) 3) hss2 rs3 (own_nlI (rln 3).1) (by have := rln 3; unfold own_nl; omega) (by have := rln 3; unfold own_nl; omega)
    obtain ⟨ss1, hss1⟩ : ∃ z, own_min (ss2 * ln2.toInt64) (4294967296 : Int64) = z := ⟨_, rfl⟩
    have rs1 : ss1.toInt = ((min (own_R (own_nl (own_l6 ln0 ln1 ln2 ln3 ln4 ln5)) 4) 4294967296 : Nat) : Int) := own_str (l := own_nl (own_l6 ln0 ln1 ln2 ln3 ln4 ln5) 2) hss1 rs2 (own_nlI (rln 2).1) (by have := rln 2; unfold own_nl; omega) (by have := rln 2; unfold own_nl; omega)
    obtain ⟨ss0, hss0⟩ : ∃ z, own_min (ss1 * ln1.toInt64) (4294967296 : Int64) = z := ⟨_, rfl⟩
    have rs0 : ss0.toInt = ((min (own_R (own_nl (own_l6 ln0 ln1 ln2 ln3 ln4 ln5)) 5) 4294967296 : Nat) : Int) := own_str (l := own_nl (own_l6 ln0 ln1 ln2 ln3 ln4 ln5) 1) hss0 rs1 (own_nlI (rln 1).1) (by have := rln 1; unfold own_nl; omega) (by have := rln 1; unfold own_nl; omega)
    have l1 : ∀ j, N ≤ j → j < 6 → (own_l6 ln0 ln1 ln2 ln3 ln4 ln5) j = 1 := fun j h1 h2 => match j, h1, h2 with | 0, h1, _ => absurd h1 (by omega) | 1, h1, _ => hln1.symm.trans (if_neg (fun q => absurd (own_lt1 (k := 1) (by decide) hN6 q) (by omega))) | 2, h1, _ => hln2.symm.trans (if_neg (fun q => absurd (own_lt1 (k := 2) (by decide) hN6 q) (by omega))) | 3, h1, _ => hln3.symm.trans (if_neg (fun q => absurd (own_lt1 (k := 3) (by decide) hN6 q) (by omega))) | 4, h1, _ => hln4.symm.trans (if_neg (fun q => absurd (own_lt1 (k := 4) (by decide) hN6 q) (by omega))) | 5, h1, _ => hln5.symm.trans (if_neg (fun q => absurd (own_lt1 (k := 5) (by decide) hN6 q) (by omega))) | _ + 6, _, h2 => absurd h2 (by omega)
    refine own_go (T' := Tt327) (g' := (mkF m 330 #[.val (.long xa), .second, .val (.long xb), .second, .val (.long xc), .second, .val (.int xn), .val (.int xx), .val (.int (Int32.ofNat N)), .val (.int lo0), .val (.int ln0), .val (.int lo1), .val (.int ln1), .val (.int lo2), .val (.int ln2), .val (.int lo3), .val (.int ln3), .val (.int lo4), .val (.int ln4), .val (.int lo5), .val (.int ln5), .val (.ref yl), .unset, .unset, .unset, .unset, .unset, .unset, .unset, .unset, .unset, .unset, .unset, .unset, .unset, .unset, .unset, .unset, .unset, .unset, .unset, .unset, .unset, .unset] [(.long (2147483648 : Int64))])) (fun _ k => Xt327.ldc2Long hx hown (mvT hZ (hw _ (List.mem_of_getElem? (i := 83) rfl))) (g := (mkF m 327 #[.val (.long xa), .second, .val (.long xb), .second, .val (.long xc), .second, .val (.int xn), .val (.int xx), .val (.int (Int32.ofNat N)), .val (.int lo0), .val (.int ln0), .val (.int lo1), .val (.int ln1), .val (.int lo2), .val (.int ln2), .val (.int lo3), .val (.int ln3), .val (.int lo4), .val (.int ln4), .val (.int lo5), .val (.int ln5), .val (.ref yl), .unset, .unset, .unset, .unset, .unset, .unset, .unset, .unset, .unset, .unset, .unset, .unset, .unset, .unset, .unset, .unset, .unset, .unset, .unset, .unset, .unset, .unset] [])) rfl (hb hby at_327) _ k) ?_
    refine own_go (T' := Tt327) (g' := (mkF m 332 #[.val (.long xa), .second, .val (.long xb), .second, .val (.long xc), .second, .val (.int xn), .val (.int xx), .val (.int (Int32.ofNat N)), .val (.int lo0), .val (.int ln0), .val (.int lo1), .val (.int ln1), .val (.int lo2), .val (.int ln2), .val (.int lo3), .val (.int ln3), .val (.int lo4), .val (.int ln4), .val (.int lo5), .val (.int ln5), .val (.ref yl), .val (.long (2147483648 : Int64)), .second, .unset, .unset, .unset, .unset, .unset, .unset, .unset, .unset, .unset, .unset, .unset, .unset, .unset, .unset, .unset, .unset, .unset, .unset, .unset, .unset] [])) (fun _ k => XS.lstore Xt327.here hx rfl (hb hby at_330) rfl (l' := #[.val (.long xa), .second, .val (.long xb), .second, .val (.long xc), .second, .val (.int xn), .val (.int xx), .val (.int (Int32.ofNat N)), .val (.int lo0), .val (.int ln0), .val (.int lo1), .val (.int ln1), .val (.int lo2), .val (.int ln2), .val (.int lo3), .val (.int ln3), .val (.int lo4), .val (.int ln4), .val (.int lo5), .val (.int ln5), .val (.ref yl), .val (.long (2147483648 : Int64)), .second, .unset, .unset, .unset, .unset, .unset, .unset, .unset, .unset, .unset, .unset, .unset, .unset, .unset, .unset, .unset, .unset, .unset, .unset, .unset, .unset]) rfl k) ?_
    refine own_go (T' := Tt327) (g' := (mkF m 334 #[.val (.long xa), .second, .val (.long xb), .second, .val (.long xc), .second, .val (.int xn), .val (.int xx), .val (.int (Int32.ofNat N)), .val (.int lo0), .val (.int ln0), .val (.int lo1), .val (.int ln1), .val (.int lo2), .val (.int ln2), .val (.int lo3), .val (.int ln3), .val (.int lo4), .val (.int ln4), .val (.int lo5), .val (.int ln5), .val (.ref yl), .val (.long (2147483648 : Int64)), .second, .unset, .unset, .unset, .unset, .unset, .unset, .unset, .unset, .unset, .unset, .unset, .unset, .unset, .unset, .unset, .unset, .unset, .unset, .unset, .unset] [(.int ln0)])) (fun _ k => XS.iload Xt327.here hx rfl (hb hby at_332) rfl k) ?_
    refine own_go (T' := Tt327) (g' := (mkF m 335 #[.val (.long xa), .second, .val (.long xb), .second, .val (.long xc), .second, .val (.int xn), .val (.int xx), .val (.int (Int32.ofNat N)), .val (.int lo0), .val (.int ln0), .val (.int lo1), .val (.int ln1), .val (.int lo2), .val (.int ln2), .val (.int lo3), .val (.int ln3), .val (.int lo4), .val (.int ln4), .val (.int lo5), .val (.int ln5), .val (.ref yl), .val (.long (2147483648 : Int64)), .second, .unset, .unset, .unset, .unset, .unset, .unset, .unset, .unset, .unset, .unset, .unset, .unset, .unset, .unset, .unset, .unset, .unset, .unset, .unset, .unset] [(.long (ln0.toInt64))])) (fun _ k => XS.i2l Xt327.here hx rfl (hb hby at_334) rfl k) ?_
    refine own_go (T' := Tt327) (g' := (mkF m 337 #[.val (.long xa), .second, .val (.long xb), .second, .val (.long xc), .second, .val (.int xn), .val (.int xx), .val (.int (Int32.ofNat N)), .val (.int lo0), .val (.int ln0), .val (.int lo1), .val (.int ln1), .val (.int lo2), .val (.int ln2), .val (.int lo3), .val (.int ln3), .val (.int lo4), .val (.int ln4), .val (.int lo5), .val (.int ln5), .val (.ref yl), .val (.long (2147483648 : Int64)), .second, .unset, .unset, .unset, .unset, .unset, .unset, .unset, .unset, .unset, .unset, .unset, .unset, .unset, .unset, .unset, .unset, .unset, .unset, .unset, .unset] [(.int ln1), (.long (ln0.toInt64))])) (fun _ k => XS.iload Xt327.here hx rfl (hb hby at_335) rfl k) ?_
    refine own_go (T' := Tt327) (g' := (mkF m 339 #[.val (.long xa), .second, .val (.long xb), .second, .val (.long xc), .second, .val (.int xn), .val (.int xx), .val (.int (Int32.ofNat N)), .val (.int lo0), .val (.int ln0), .val (.int lo1), .val (.int ln1), .val (.int lo2), .val (.int ln2), .val (.int lo3), .val (.int ln3), .val (.int lo4), .val (.int ln4), .val (.int lo5), .val (.int ln5), .val (.ref yl), .val (.long (2147483648 : Int64)), .second, .unset, .unset, .unset, .unset, .unset, .unset, .unset, .unset, .unset, .unset, .unset, .unset, .unset, .unset, .unset, .unset, .unset, .unset, .unset, .unset] [(.long (2147483648 : Int64)), (.int ln1), (.long (ln0.toInt64))])) (fun _ k => XS.lload Xt327.here hx rfl (hb hby at_337) rfl k) ?_
    obtain ⟨_, _, ⟨T1, L1, k1, n1⟩, -, X1, ⟨Lc1, hQ1, l1, y1, z1⟩, st1⟩ := Jvm.LawKit.callS Xt327 hx (y := (⟨"com/example/benchlight/benchlight/BoundsSubscriptsPinLaw", "mulCap", "(JIJ)J"⟩ : MethodName)) hown (mvT hZ (hw _ (List.mem_of_getElem? (i := 84) rfl))) (mvT hZ (hw _ (List.mem_of_getElem? (i := 85) rfl))) (mvT hZ (hw _ (List.mem_of_getElem? (i := 3) rfl))) (mvT hZ (hw _ (List.mem_of_getElem? (i := 86) rfl))) (by decide) (backOf (W := 0) (own_rMc l Z a0 hw [] (ln0.toInt64) ln1 (2147483648 : Int64) kk1 hl n0 Zt hkk1) hZ (hw _ (List.mem_of_getElem? (i := 86) rfl)) (hw _ (List.mem_of_getElem? (i := 3) rfl)) (by decide) (by decide)) (g := (mkF m 339 #[.val (.long xa), .second, .val (.long xb), .second, .val (.long xc), .second, .val (.int xn), .val (.int xx), .val (.int (Int32.ofNat N)), .val (.int lo0), .val (.int ln0), .val (.int lo1), .val (.int ln1), .val (.int lo2), .val (.int ln2), .val (.int lo3), .val (.int ln3), .val (.int lo4), .val (.int ln4), .val (.int lo5), .val (.int ln5), .val (.ref yl), .val (.long (2147483648 : Int64)), .second, .unset, .unset, .unset, .unset, .unset, .unset, .unset, .unset, .unset, .unset, .unset, .unset, .unset, .unset, .unset, .unset, .unset, .unset, .unset, .unset] [(.long (2147483648 : Int64)), (.int ln1), (.long (ln0.toInt64))])) rfl (by rw [hml]; rfl) (argsL := [(.long (ln0.toInt64)), (.int ln1), (.long (2147483648 : Int64))]) (rest := []) (lenOf own_pd10 rfl) rfl (by show 2 * 0 + _ ≤ _; exact Nat.le_of_eq rfl) (hb hby at_339) (fun _ _ => ⟨rfl, et327, (by decide : 8 + 0 ≤ _), (by decide : 25 + 0 ≤ _)⟩)
    dsimp only [Pt.U, Pt.locs, Pt.cells, Pt.slots] at X1 l1 y1 z1 st1 hQ1
    subst l1 y1 z1
    obtain ⟨rfl, N1q, e1⟩ := hQ1
    have N1 := Fr.app Nt327 N1q
    refine own_go (T' := T1) (g' := (mkF m 342 #[.val (.long xa), .second, .val (.long xb), .second, .val (.long xc), .second, .val (.int xn), .val (.int xx), .val (.int (Int32.ofNat N)), .val (.int lo0), .val (.int ln0), .val (.int lo1), .val (.int ln1), .val (.int lo2), .val (.int ln2), .val (.int lo3), .val (.int ln3), .val (.int lo4), .val (.int ln4), .val (.int lo5), .val (.int ln5), .val (.ref yl), .val (.long (2147483648 : Int64)), .second, .unset, .unset, .unset, .unset, .unset, .unset, .unset, .unset, .unset, .unset, .unset, .unset, .unset, .unset, .unset, .unset, .unset, .unset, .unset, .unset] [(.long kk1)])) (fun _ k => st1 _ k) ?_
    refine own_go (T' := T1) (g' := (mkF m 344 #[.val (.long xa), .second, .val (.long xb), .second, .val (.long xc), .second, .val (.int xn), .val (.int xx), .val (.int (Int32.ofNat N)), .val (.int lo0), .val (.int ln0), .val (.int lo1), .val (.int ln1), .val (.int lo2), .val (.int ln2), .val (.int lo3), .val (.int ln3), .val (.int lo4), .val (.int ln4), .val (.int lo5), .val (.int ln5), .val (.ref yl), .val (.long (2147483648 : Int64)), .second, .unset, .unset, .unset, .unset, .unset, .unset, .unset, .unset, .unset, .unset, .unset, .unset, .unset, .unset, .unset, .unset, .unset, .unset, .unset, .unset] [(.int ln2), (.long kk1)])) (fun _ k => XS.iload X1.here hx rfl (hb hby at_342) rfl k) ?_
    refine own_go (T' := T1) (g' := (mkF m 346 #[.val (.long xa), .second, .val (.long xb), .second, .val (.long xc), .second, .val (.int xn), .val (.int xx), .val (.int (Int32.ofNat N)), .val (.int lo0), .val (.int ln0), .val (.int lo1), .val (.int ln1), .val (.int lo2), .val (.int ln2), .val (.int lo3), .val (.int ln3), .val (.int lo4), .val (.int ln4), .val (.int lo5), .val (.int ln5), .val (.ref yl), .val (.long (2147483648 : Int64)), .second, .unset, .unset, .unset, .unset, .unset, .unset, .unset, .unset, .unset, .unset, .unset, .unset, .unset, .unset, .unset, .unset, .unset, .unset, .unset, .unset] [(.long (2147483648 : Int64)), (.int ln2), (.long kk1)])) (fun _ k => XS.lload X1.here hx rfl (hb hby at_344) rfl k) ?_
    obtain ⟨_, _, ⟨T2, L2, k2, n2⟩, -, X2, ⟨Lc2, hQ2, l2, y2, z2⟩, st2⟩ := Jvm.LawKit.callS X1 hx (y := (⟨"com/example/benchlight/benchlight/BoundsSubscriptsPinLaw", "mulCap", "(JIJ)J"⟩ : MethodName)) hown (mvT hZ (hw _ (List.mem_of_getElem? (i := 84) rfl))) (mvT hZ (hw _ (List.mem_of_getElem? (i := 85) rfl))) (mvT hZ (hw _ (List.mem_of_getElem? (i := 3) rfl))) (mvT hZ (hw _ (List.mem_of_getElem? (i := 86) rfl))) (by decide) (backOf (W := 0) (own_rMc l Z a0 hw [] kk1 ln2 (2147483648 : Int64) kk2 hl n0 Zt hkk2) hZ (hw _ (List.mem_of_getElem? (i := 86) rfl)) (hw _ (List.mem_of_getElem? (i := 3) rfl)) (by decide) (by decide)) (g := (mkF m 346 #[.val (.long xa), .second, .val (.long xb), .second, .val (.long xc), .second, .val (.int xn), .val (.int xx), .val (.int (Int32.ofNat N)), .val (.int lo0), .val (.int ln0), .val (.int lo1), .val (.int ln1), .val (.int lo2), .val (.int ln2), .val (.int lo3), .val (.int ln3), .val (.int lo4), .val (.int ln4), .val (.int lo5), .val (.int ln5), .val (.ref yl), .val (.long (2147483648 : Int64)), .second, .unset, .unset, .unset, .unset, .unset, .unset, .unset, .unset, .unset, .unset, .unset, .unset, .unset, .unset, .unset, .unset, .unset, .unset, .unset, .unset] [(.long (2147483648 : Int64)), (.int ln2), (.long kk1)])) rfl (by rw [hml]; rfl) (argsL := [(.long kk1), (.int ln2), (.long (2147483648 : Int64))]) (rest := []) (lenOf own_pd10 rfl) rfl (by show 2 * 0 + _ ≤ _; exact Nat.le_of_eq rfl) (hb hby at_346) (fun _ _ => ⟨rfl, e1, (by decide : 8 + 0 ≤ _), (by decide : 25 + 0 ≤ _)⟩)
    dsimp only [Pt.U, Pt.locs, Pt.cells, Pt.slots] at X2 l2 y2 z2 st2 hQ2
    subst l2 y2 z2
    obtain ⟨rfl, N2q, e2⟩ := hQ2
    have N2 := Fr.app N1 N2q
    refine own_go (T' := T2) (g' := (mkF m 349 #[.val (.long xa), .second, .val (.long xb), .second, .val (.long xc), .second, .val (.int xn), .val (.int xx), .val (.int (Int32.ofNat N)), .val (.int lo0), .val (.int ln0), .val (.int lo1), .val (.int ln1), .val (.int lo2), .val (.int ln2), .val (.int lo3), .val (.int ln3), .val (.int lo4), .val (.int ln4), .val (.int lo5), .val (.int ln5), .val (.ref yl), .val (.long (2147483648 : Int64)), .second, .unset, .unset, .unset, .unset, .unset, .unset, .unset, .unset, .unset, .unset, .unset, .unset, .unset, .unset, .unset, .unset, .unset, .unset, .unset, .unset] [(.long kk2)])) (fun _ k => st2 _ k) ?_
    refine own_go (T' := T2) (g' := (mkF m 351 #[.val (.long xa), .second, .val (.long xb), .second, .val (.long xc), .second, .val (.int xn), .val (.int xx), .val (.int (Int32.ofNat N)), .val (.int lo0), .val (.int ln0), .val (.int lo1), .val (.int ln1), .val (.int lo2), .val (.int ln2), .val (.int lo3), .val (.int ln3), .val (.int lo4), .val (.int ln4), .val (.int lo5), .val (.int ln5), .val (.ref yl), .val (.long (2147483648 : Int64)), .second, .unset, .unset, .unset, .unset, .unset, .unset, .unset, .unset, .unset, .unset, .unset, .unset, .unset, .unset, .unset, .unset, .unset, .unset, .unset, .unset] [(.int ln3), (.long kk2)])) (fun _ k => XS.iload X2.here hx rfl (hb hby at_349) rfl k) ?_
    refine own_go (T' := T2) (g' := (mkF m 353 #[.val (.long xa), .second, .val (.long xb), .second, .val (.long xc), .second, .val (.int xn), .val (.int xx), .val (.int (Int32.ofNat N)), .val (.int lo0), .val (.int ln0), .val (.int lo1), .val (.int ln1), .val (.int lo2), .val (.int ln2), .val (.int lo3), .val (.int ln3), .val (.int lo4), .val (.int ln4), .val (.int lo5), .val (.int ln5), .val (.ref yl), .val (.long (2147483648 : Int64)), .second, .unset, .unset, .unset, .unset, .unset, .unset, .unset, .unset, .unset, .unset, .unset, .unset, .unset, .unset, .unset, .unset, .unset, .unset, .unset, .unset] [(.long (2147483648 : Int64)), (.int ln3), (.long kk2)])) (fun _ k => XS.lload X2.here hx rfl (hb hby at_351) rfl k) ?_
    obtain ⟨_, _, ⟨T3, L3, k3, n3⟩, -, X3, ⟨Lc3, hQ3, l3, y3, z3⟩, st3⟩ := Jvm.LawKit.callS X2 hx (y := (⟨"com/example/benchlight/benchlight/BoundsSubscriptsPinLaw", "mulCap", "(JIJ)J"⟩ : MethodName)) hown (mvT hZ (hw _ (List.mem_of_getElem? (i := 84) rfl))) (mvT hZ (hw _ (List.mem_of_getElem? (i := 85) rfl))) (mvT hZ (hw _ (List.mem_of_getElem? (i := 3) rfl))) (mvT hZ (hw _ (List.mem_of_getElem? (i := 86) rfl))) (by decide) (backOf (W := 0) (own_rMc l Z a0 hw [] kk2 ln3 (2147483648 : Int64) kk3 hl n0 Zt hkk3) hZ (hw _ (List.mem_of_getElem? (i := 86) rfl)) (hw _ (List.mem_of_getElem? (i := 3) rfl)) (by decide) (by decide)) (g := (mkF m 353 #[.val (.long xa), .second, .val (.long xb), .second, .val (.long xc), .second, .val (.int xn), .val (.int xx), .val (.int (Int32.ofNat N)), .val (.int lo0), .val (.int ln0), .val (.int lo1), .val (.int ln1), .val (.int lo2), .val (.int ln2), .val (.int lo3), .val (.int ln3), .val (.int lo4), .val (.int ln4), .val (.int lo5), .val (.int ln5), .val (.ref yl), .val (.long (2147483648 : Int64)), .second, .unset, .unset, .unset, .unset, .unset, .unset, .unset, .unset, .unset, .unset, .unset, .unset, .unset, .unset, .unset, .unset, .unset, .unset, .unset, .unset] [(.long (2147483648 : Int64)), (.int ln3), (.long kk2)])) rfl (by rw [hml]; rfl) (argsL := [(.long kk2), (.int ln3), (.long (2147483648 : Int64))]) (rest := []) (lenOf own_pd10 rfl) rfl (by show 2 * 0 + _ ≤ _; exact Nat.le_of_eq rfl) (hb hby at_353) (fun _ _ => ⟨rfl, e2, (by decide : 8 + 0 ≤ _), (by decide : 25 + 0 ≤ _)⟩)
    dsimp only [Pt.U, Pt.locs, Pt.cells, Pt.slots] at X3 l3 y3 z3 st3 hQ3
    subst l3 y3 z3
    obtain ⟨rfl, N3q, e3⟩ := hQ3
    have N3 := Fr.app N2 N3q
    refine own_go (T' := T3) (g' := (mkF m 356 #[.val (.long xa), .second, .val (.long xb), .second, .val (.long xc), .second, .val (.int xn), .val (.int xx), .val (.int (Int32.ofNat N)), .val (.int lo0), .val (.int ln0), .val (.int lo1), .val (.int ln1), .val (.int lo2), .val (.int ln2), .val (.int lo3), .val (.int ln3), .val (.int lo4), .val (.int ln4), .val (.int lo5), .val (.int ln5), .val (.ref yl), .val (.long (2147483648 : Int64)), .second, .unset, .unset, .unset, .unset, .unset, .unset, .unset, .unset, .unset, .unset, .unset, .unset, .unset, .unset, .unset, .unset, .unset, .unset, .unset, .unset] [(.long kk3)])) (fun _ k => st3 _ k) ?_
    refine own_go (T' := T3) (g' := (mkF m 358 #[.val (.long xa), .second, .val (.long xb), .second, .val (.long xc), .second, .val (.int xn), .val (.int xx), .val (.int (Int32.ofNat N)), .val (.int lo0), .val (.int ln0), .val (.int lo1), .val (.int ln1), .val (.int lo2), .val (.int ln2), .val (.int lo3), .val (.int ln3), .val (.int lo4), .val (.int ln4), .val (.int lo5), .val (.int ln5), .val (.ref yl), .val (.long (2147483648 : Int64)), .second, .unset, .unset, .unset, .unset, .unset, .unset, .unset, .unset, .unset, .unset, .unset, .unset, .unset, .unset, .unset, .unset, .unset, .unset, .unset, .unset] [(.int ln4), (.long kk3)])) (fun _ k => XS.iload X3.here hx rfl (hb hby at_356) rfl k) ?_
    refine own_go (T' := T3) (g' := (mkF m 360 #[.val (.long xa), .second, .val (.long xb), .second, .val (.long xc), .second, .val (.int xn), .val (.int xx), .val (.int (Int32.ofNat N)), .val (.int lo0), .val (.int ln0), .val (.int lo1), .val (.int ln1), .val (.int lo2), .val (.int ln2), .val (.int lo3), .val (.int ln3), .val (.int lo4), .val (.int ln4), .val (.int lo5), .val (.int ln5), .val (.ref yl), .val (.long (2147483648 : Int64)), .second, .unset, .unset, .unset, .unset, .unset, .unset, .unset, .unset, .unset, .unset, .unset, .unset, .unset, .unset, .unset, .unset, .unset, .unset, .unset, .unset] [(.long (2147483648 : Int64)), (.int ln4), (.long kk3)])) (fun _ k => XS.lload X3.here hx rfl (hb hby at_358) rfl k) ?_
    obtain ⟨_, _, ⟨T4, L4, k4, n4⟩, -, X4, ⟨Lc4, hQ4, l4, y4, z4⟩, st4⟩ := Jvm.LawKit.callS X3 hx (y := (⟨"com/example/benchlight/benchlight/BoundsSubscriptsPinLaw", "mulCap", "(JIJ)J"⟩ : MethodName)) hown (mvT hZ (hw _ (List.mem_of_getElem? (i := 84) rfl))) (mvT hZ (hw _ (List.mem_of_getElem? (i := 85) rfl))) (mvT hZ (hw _ (List.mem_of_getElem? (i := 3) rfl))) (mvT hZ (hw _ (List.mem_of_getElem? (i := 86) rfl))) (by decide) (backOf (W := 0) (own_rMc l Z a0 hw [] kk3 ln4 (2147483648 : Int64) kk4 hl n0 Zt hkk4) hZ (hw _ (List.mem_of_getElem? (i := 86) rfl)) (hw _ (List.mem_of_getElem? (i := 3) rfl)) (by decide) (by decide)) (g := (mkF m 360 #[.val (.long xa), .second, .val (.long xb), .second, .val (.long xc), .second, .val (.int xn), .val (.int xx), .val (.int (Int32.ofNat N)), .val (.int lo0), .val (.int ln0), .val (.int lo1), .val (.int ln1), .val (.int lo2), .val (.int ln2), .val (.int lo3), .val (.int ln3), .val (.int lo4), .val (.int ln4), .val (.int lo5), .val (.int ln5), .val (.ref yl), .val (.long (2147483648 : Int64)), .second, .unset, .unset, .unset, .unset, .unset, .unset, .unset, .unset, .unset, .unset, .unset, .unset, .unset, .unset, .unset, .unset, .unset, .unset, .unset, .unset] [(.long (2147483648 : Int64)), (.int ln4), (.long kk3)])) rfl (by rw [hml]; rfl) (argsL := [(.long kk3), (.int ln4), (.long (2147483648 : Int64))]) (rest := []) (lenOf own_pd10 rfl) rfl (by show 2 * 0 + _ ≤ _; exact Nat.le_of_eq rfl) (hb hby at_360) (fun _ _ => ⟨rfl, e3, (by decide : 8 + 0 ≤ _), (by decide : 25 + 0 ≤ _)⟩)
    dsimp only [Pt.U, Pt.locs, Pt.cells, Pt.slots] at X4 l4 y4 z4 st4 hQ4
    subst l4 y4 z4
    obtain ⟨rfl, N4q, e4⟩ := hQ4
    have N4 := Fr.app N3 N4q
    refine own_go (T' := T4) (g' := (mkF m 363 #[.val (.long xa), .second, .val (.long xb), .second, .val (.long xc), .second, .val (.int xn), .val (.int xx), .val (.int (Int32.ofNat N)), .val (.int lo0), .val (.int ln0), .val (.int lo1), .val (.int ln1), .val (.int lo2), .val (.int ln2), .val (.int lo3), .val (.int ln3), .val (.int lo4), .val (.int ln4), .val (.int lo5), .val (.int ln5), .val (.ref yl), .val (.long (2147483648 : Int64)), .second, .unset, .unset, .unset, .unset, .unset, .unset, .unset, .unset, .unset, .unset, .unset, .unset, .unset, .unset, .unset, .unset, .unset, .unset, .unset, .unset] [(.long kk4)])) (fun _ k => st4 _ k) ?_
    refine own_go (T' := T4) (g' := (mkF m 365 #[.val (.long xa), .second, .val (.long xb), .second, .val (.long xc), .second, .val (.int xn), .val (.int xx), .val (.int (Int32.ofNat N)), .val (.int lo0), .val (.int ln0), .val (.int lo1), .val (.int ln1), .val (.int lo2), .val (.int ln2), .val (.int lo3), .val (.int ln3), .val (.int lo4), .val (.int ln4), .val (.int lo5), .val (.int ln5), .val (.ref yl), .val (.long (2147483648 : Int64)), .second, .unset, .unset, .unset, .unset, .unset, .unset, .unset, .unset, .unset, .unset, .unset, .unset, .unset, .unset, .unset, .unset, .unset, .unset, .unset, .unset] [(.int ln5), (.long kk4)])) (fun _ k => XS.iload X4.here hx rfl (hb hby at_363) rfl k) ?_
    refine own_go (T' := T4) (g' := (mkF m 367 #[.val (.long xa), .second, .val (.long xb), .second, .val (.long xc), .second, .val (.int xn), .val (.int xx), .val (.int (Int32.ofNat N)), .val (.int lo0), .val (.int ln0), .val (.int lo1), .val (.int ln1), .val (.int lo2), .val (.int ln2), .val (.int lo3), .val (.int ln3), .val (.int lo4), .val (.int ln4), .val (.int lo5), .val (.int ln5), .val (.ref yl), .val (.long (2147483648 : Int64)), .second, .unset, .unset, .unset, .unset, .unset, .unset, .unset, .unset, .unset, .unset, .unset, .unset, .unset, .unset, .unset, .unset, .unset, .unset, .unset, .unset] [(.long (2147483648 : Int64)), (.int ln5), (.long kk4)])) (fun _ k => XS.lload X4.here hx rfl (hb hby at_365) rfl k) ?_
    obtain ⟨_, _, ⟨T5, L5, k5, n5⟩, -, X5, ⟨Lc5, hQ5, l5, y5, z5⟩, st5⟩ := Jvm.LawKit.callS X4 hx (y := (⟨"com/example/benchlight/benchlight/BoundsSubscriptsPinLaw", "mulCap", "(JIJ)J"⟩ : MethodName)) hown (mvT hZ (hw _ (List.mem_of_getElem? (i := 84) rfl))) (mvT hZ (hw _ (List.mem_of_getElem? (i := 85) rfl))) (mvT hZ (hw _ (List.mem_of_getElem? (i := 3) rfl))) (mvT hZ (hw _ (List.mem_of_getElem? (i := 86) rfl))) (by decide) (backOf (W := 0) (own_rMc l Z a0 hw [] kk4 ln5 (2147483648 : Int64) kk5 hl n0 Zt hkk5) hZ (hw _ (List.mem_of_getElem? (i := 86) rfl)) (hw _ (List.mem_of_getElem? (i := 3) rfl)) (by decide) (by decide)) (g := (mkF m 367 #[.val (.long xa), .second, .val (.long xb), .second, .val (.long xc), .second, .val (.int xn), .val (.int xx), .val (.int (Int32.ofNat N)), .val (.int lo0), .val (.int ln0), .val (.int lo1), .val (.int ln1), .val (.int lo2), .val (.int ln2), .val (.int lo3), .val (.int ln3), .val (.int lo4), .val (.int ln4), .val (.int lo5), .val (.int ln5), .val (.ref yl), .val (.long (2147483648 : Int64)), .second, .unset, .unset, .unset, .unset, .unset, .unset, .unset, .unset, .unset, .unset, .unset, .unset, .unset, .unset, .unset, .unset, .unset, .unset, .unset, .unset] [(.long (2147483648 : Int64)), (.int ln5), (.long kk4)])) rfl (by rw [hml]; rfl) (argsL := [(.long kk4), (.int ln5), (.long (2147483648 : Int64))]) (rest := []) (lenOf own_pd10 rfl) rfl (by show 2 * 0 + _ ≤ _; exact Nat.le_of_eq rfl) (hb hby at_367) (fun _ _ => ⟨rfl, e4, (by decide : 8 + 0 ≤ _), (by decide : 25 + 0 ≤ _)⟩)
    dsimp only [Pt.U, Pt.locs, Pt.cells, Pt.slots] at X5 l5 y5 z5 st5 hQ5
    subst l5 y5 z5
    obtain ⟨rfl, N5q, e5⟩ := hQ5
    have N5 := Fr.app N4 N5q
    refine own_go (T' := T5) (g' := (mkF m 370 #[.val (.long xa), .second, .val (.long xb), .second, .val (.long xc), .second, .val (.int xn), .val (.int xx), .val (.int (Int32.ofNat N)), .val (.int lo0), .val (.int ln0), .val (.int lo1), .val (.int ln1), .val (.int lo2), .val (.int ln2), .val (.int lo3), .val (.int ln3), .val (.int lo4), .val (.int ln4), .val (.int lo5), .val (.int ln5), .val (.ref yl), .val (.long (2147483648 : Int64)), .second, .unset, .unset, .unset, .unset, .unset, .unset, .unset, .unset, .unset, .unset, .unset, .unset, .unset, .unset, .unset, .unset, .unset, .unset, .unset, .unset] [(.long kk5)])) (fun _ k => st5 _ k) ?_
    refine own_go (T' := T5) (g' := (mkF m 372 #[.val (.long xa), .second, .val (.long xb), .second, .val (.long xc), .second, .val (.int xn), .val (.int xx), .val (.int (Int32.ofNat N)), .val (.int lo0), .val (.int ln0), .val (.int lo1), .val (.int ln1), .val (.int lo2), .val (.int ln2), .val (.int lo3), .val (.int ln3), .val (.int lo4), .val (.int ln4), .val (.int lo5), .val (.int ln5), .val (.ref yl), .val (.long (2147483648 : Int64)), .second, .val (.long kk5), .second, .unset, .unset, .unset, .unset, .unset, .unset, .unset, .unset, .unset, .unset, .unset, .unset, .unset, .unset, .unset, .unset, .unset, .unset] [])) (fun _ k => XS.lstore X5.here hx rfl (hb hby at_370) rfl (l' := #[.val (.long xa), .second, .val (.long xb), .second, .val (.long xc), .second, .val (.int xn), .val (.int xx), .val (.int (Int32.ofNat N)), .val (.int lo0), .val (.int ln0), .val (.int lo1), .val (.int ln1), .val (.int lo2), .val (.int ln2), .val (.int lo3), .val (.int ln3), .val (.int lo4), .val (.int ln4), .val (.int lo5), .val (.int ln5), .val (.ref yl), .val (.long (2147483648 : Int64)), .second, .val (.long kk5), .second, .unset, .unset, .unset, .unset, .unset, .unset, .unset, .unset, .unset, .unset, .unset, .unset, .unset, .unset, .unset, .unset, .unset, .unset]) rfl k) ?_
    refine own_go (T' := T5) (g' := (mkF m 374 #[.val (.long xa), .second, .val (.long xb), .second, .val (.long xc), .second, .val (.int xn), .val (.int xx), .val (.int (Int32.ofNat N)), .val (.int lo0), .val (.int ln0), .val (.int lo1), .val (.int ln1), .val (.int lo2), .val (.int ln2), .val (.int lo3), .val (.int ln3), .val (.int lo4), .val (.int ln4), .val (.int lo5), .val (.int ln5), .val (.ref yl), .val (.long (2147483648 : Int64)), .second, .val (.long kk5), .second, .unset, .unset, .unset, .unset, .unset, .unset, .unset, .unset, .unset, .unset, .unset, .unset, .unset, .unset, .unset, .unset, .unset, .unset] [(.int xx)])) (fun _ k => XS.iload X5.here hx rfl (hb hby at_372) rfl k) ?_
    refine own_go (T' := T5) (g' := (mkF m 375 #[.val (.long xa), .second, .val (.long xb), .second, .val (.long xc), .second, .val (.int xn), .val (.int xx), .val (.int (Int32.ofNat N)), .val (.int lo0), .val (.int ln0), .val (.int lo1), .val (.int ln1), .val (.int lo2), .val (.int ln2), .val (.int lo3), .val (.int ln3), .val (.int lo4), .val (.int ln4), .val (.int lo5), .val (.int ln5), .val (.ref yl), .val (.long (2147483648 : Int64)), .second, .val (.long kk5), .second, .unset, .unset, .unset, .unset, .unset, .unset, .unset, .unset, .unset, .unset, .unset, .unset, .unset, .unset, .unset, .unset, .unset, .unset] [(.long (xx.toInt64))])) (fun _ k => XS.i2l X5.here hx rfl (hb hby at_374) rfl k) ?_
    refine own_go (T' := T5) (g' := (mkF m 378 #[.val (.long xa), .second, .val (.long xb), .second, .val (.long xc), .second, .val (.int xn), .val (.int xx), .val (.int (Int32.ofNat N)), .val (.int lo0), .val (.int ln0), .val (.int lo1), .val (.int ln1), .val (.int lo2), .val (.int ln2), .val (.int lo3), .val (.int ln3), .val (.int lo4), .val (.int ln4), .val (.int lo5), .val (.int ln5), .val (.ref yl), .val (.long (2147483648 : Int64)), .second, .val (.long kk5), .second, .unset, .unset, .unset, .unset, .unset, .unset, .unset, .unset, .unset, .unset, .unset, .unset, .unset, .unset, .unset, .unset, .unset, .unset] [(.long (2147483647 : Int64)), (.long (xx.toInt64))])) (fun _ k => X5.ldc2Long hx hown (mvT hZ (hw _ (List.mem_of_getElem? (i := 90) rfl))) (g := (mkF m 375 #[.val (.long xa), .second, .val (.long xb), .second, .val (.long xc), .second, .val (.int xn), .val (.int xx), .val (.int (Int32.ofNat N)), .val (.int lo0), .val (.int ln0), .val (.int lo1), .val (.int ln1), .val (.int lo2), .val (.int ln2), .val (.int lo3), .val (.int ln3), .val (.int lo4), .val (.int ln4), .val (.int lo5), .val (.int ln5), .val (.ref yl), .val (.long (2147483648 : Int64)), .second, .val (.long kk5), .second, .unset, .unset, .unset, .unset, .unset, .unset, .unset, .unset, .unset, .unset, .unset, .unset, .unset, .unset, .unset, .unset, .unset, .unset] [(.long (xx.toInt64))])) rfl (hb hby at_375) _ k) ?_
    refine own_go (T' := T5) (g' := (mkF m 379 #[.val (.long xa), .second, .val (.long xb), .second, .val (.long xc), .second, .val (.int xn), .val (.int xx), .val (.int (Int32.ofNat N)), .val (.int lo0), .val (.int ln0), .val (.int lo1), .val (.int ln1), .val (.int lo2), .val (.int ln2), .val (.int lo3), .val (.int ln3), .val (.int lo4), .val (.int ln4), .val (.int lo5), .val (.int ln5), .val (.ref yl), .val (.long (2147483648 : Int64)), .second, .val (.long kk5), .second, .unset, .unset, .unset, .unset, .unset, .unset, .unset, .unset, .unset, .unset, .unset, .unset, .unset, .unset, .unset, .unset, .unset, .unset] [(.long ((xx.toInt64) &&& (2147483647 : Int64)))])) (fun _ k => XS.land X5.here hx rfl (hb hby at_378) rfl k) ?_
    refine own_go (T' := T5) (g' := (mkF m 381 #[.val (.long xa), .second, .val (.long xb), .second, .val (.long xc), .second, .val (.int xn), .val (.int xx), .val (.int (Int32.ofNat N)), .val (.int lo0), .val (.int ln0), .val (.int lo1), .val (.int ln1), .val (.int lo2), .val (.int ln2), .val (.int lo3), .val (.int ln3), .val (.int lo4), .val (.int ln4), .val (.int lo5), .val (.int ln5), .val (.ref yl), .val (.long (2147483648 : Int64)), .second, .val (.long kk5), .second, .unset, .unset, .unset, .unset, .unset, .unset, .unset, .unset, .unset, .unset, .unset, .unset, .unset, .unset, .unset, .unset, .unset, .unset] [(.long kk5), (.long ((xx.toInt64) &&& (2147483647 : Int64)))])) (fun _ k => XS.lload X5.here hx rfl (hb hby at_379) rfl k) ?_
    refine own_go (T' := T5) (g' := (mkF m 382 #[.val (.long xa), .second, .val (.long xb), .second, .val (.long xc), .second, .val (.int xn), .val (.int xx), .val (.int (Int32.ofNat N)), .val (.int lo0), .val (.int ln0), .val (.int lo1), .val (.int ln1), .val (.int lo2), .val (.int ln2), .val (.int lo3), .val (.int ln3), .val (.int lo4), .val (.int ln4), .val (.int lo5), .val (.int ln5), .val (.ref yl), .val (.long (2147483648 : Int64)), .second, .val (.long kk5), .second, .unset, .unset, .unset, .unset, .unset, .unset, .unset, .unset, .unset, .unset, .unset, .unset, .unset, .unset, .unset, .unset, .unset, .unset] [(.long (((xx.toInt64) &&& (2147483647 : Int64)) - (((xx.toInt64) &&& (2147483647 : Int64)) / kk5) * kk5))])) (fun _ k => XS.lrem X5.here hx rfl (hb hby at_381) rfl (own_nz64 rk5.1) k) ?_
    obtain ⟨ix, hix, hi31⟩ := own_idx xx rk5
    rw [hix]
    refine own_go (T' := T5) (g' := (mkF m 384 #[.val (.long xa), .second, .val (.long xb), .second, .val (.long xc), .second, .val (.int xn), .val (.int xx), .val (.int (Int32.ofNat N)), .val (.int lo0), .val (.int ln0), .val (.int lo1), .val (.int ln1), .val (.int lo2), .val (.int ln2), .val (.int lo3), .val (.int ln3), .val (.int lo4), .val (.int ln4), .val (.int lo5), .val (.int ln5), .val (.ref yl), .val (.long (2147483648 : Int64)), .second, .val (.long kk5), .second, .val (.long (Int64.ofNat ix)), .second, .unset, .unset, .unset, .unset, .unset, .unset, .unset, .unset, .unset, .unset, .unset, .unset, .unset, .unset, .unset, .unset] [])) (fun _ k => XS.lstore X5.here hx rfl (hb hby at_382) rfl (l' := #[.val (.long xa), .second, .val (.long xb), .second, .val (.long xc), .second, .val (.int xn), .val (.int xx), .val (.int (Int32.ofNat N)), .val (.int lo0), .val (.int ln0), .val (.int lo1), .val (.int ln1), .val (.int lo2), .val (.int ln2), .val (.int lo3), .val (.int ln3), .val (.int lo4), .val (.int ln4), .val (.int lo5), .val (.int ln5), .val (.ref yl), .val (.long (2147483648 : Int64)), .second, .val (.long kk5), .second, .val (.long (Int64.ofNat ix)), .second, .unset, .unset, .unset, .unset, .unset, .unset, .unset, .unset, .unset, .unset, .unset, .unset, .unset, .unset, .unset, .unset]) rfl k) ?_
    obtain ⟨T6, h6, X6, e6, E6, A6, D6, -, st6⟩ := newO X5 hx hZ hown (hw _ (List.mem_of_getElem? (i := 91) rfl)) (hw _ (List.mem_of_getElem? (i := 92) rfl)) (hw _ (List.mem_of_getElem? (i := 93) rfl)) e5 (g := (mkF m 384 #[.val (.long xa), .second, .val (.long xb), .second, .val (.long xc), .second, .val (.int xn), .val (.int xx), .val (.int (Int32.ofNat N)), .val (.int lo0), .val (.int ln0), .val (.int lo1), .val (.int ln1), .val (.int lo2), .val (.int ln2), .val (.int lo3), .val (.int ln3), .val (.int lo4), .val (.int ln4), .val (.int lo5), .val (.int ln5), .val (.ref yl), .val (.long (2147483648 : Int64)), .second, .val (.long kk5), .second, .val (.long (Int64.ofNat ix)), .second, .unset, .unset, .unset, .unset, .unset, .unset, .unset, .unset, .unset, .unset, .unset, .unset, .unset, .unset, .unset, .unset] [])) rfl (hb hby at_384) (by decide) (by decide)
    obtain ⟨b6, g6⟩ : ∃ z, z = hl.size := ⟨_, rfl⟩
    rw [← g6] at A6 D6 st6
    have gz_b6 : n0 ≤ b6 := Nat.le_trans Zt (Nat.le_of_eq g6.symm)
    have hz_b6 : h0.size ≤ b6 := Nat.le_trans Kt.1 (Nat.le_of_eq g6.symm)
    have Z6 : n0 ≤ h6.size := Nat.le_trans Zt E6.1
    have O6 : Ext h0 h6 := own_ext_tr Ot E6
    have K6 : Keep h0 h6 [] := Kt.ext E6
    have Flower_b6 : Fld Z h6 b6 "com/example/benchlight/benchlight/Bounds" "lower" "[I" .null := D6 (Or.inr (hw _ (List.mem_of_getElem? (i := 109) rfl))) (ty := (.array .int)) (by decide)
    have Flength_b6 : Fld Z h6 b6 "com/example/benchlight/benchlight/Bounds" "length" "[I" .null := D6 (Or.inr (hw _ (List.mem_of_getElem? (i := 111) rfl))) (ty := (.array .int)) (by decide)
    have Fcount_b6 : Fld Z h6 b6 "com/example/benchlight/benchlight/Bounds" "count" "J" (.long (0 : Int64)) := D6 (Or.inr (hw _ (List.mem_of_getElem? (i := 148) rfl))) (ty := .long) (by decide)
    have FfirstLower_b6 : Fld Z h6 b6 "com/example/benchlight/benchlight/Bounds" "firstLower" "I" (.int (0 : Int32)) := D6 (Or.inr (hw _ (List.mem_of_getElem? (i := 150) rfl))) (ty := .int) (by decide)
    have FfirstLength_b6 : Fld Z h6 b6 "com/example/benchlight/benchlight/Bounds" "firstLength" "I" (.int (0 : Int32)) := D6 (Or.inr (hw _ (List.mem_of_getElem? (i := 152) rfl))) (ty := .int) (by decide)
    refine own_go (T' := T6) (g' := (mkF m 387 #[.val (.long xa), .second, .val (.long xb), .second, .val (.long xc), .second, .val (.int xn), .val (.int xx), .val (.int (Int32.ofNat N)), .val (.int lo0), .val (.int ln0), .val (.int lo1), .val (.int ln1), .val (.int lo2), .val (.int ln2), .val (.int lo3), .val (.int ln3), .val (.int lo4), .val (.int ln4), .val (.int lo5), .val (.int ln5), .val (.ref yl), .val (.long (2147483648 : Int64)), .second, .val (.long kk5), .second, .val (.long (Int64.ofNat ix)), .second, .unset, .unset, .unset, .unset, .unset, .unset, .unset, .unset, .unset, .unset, .unset, .unset, .unset, .unset, .unset, .unset] [(.ref b6)])) (fun _ k => st6 _ k) ?_
    refine own_go (T' := T6) (g' := (mkF m 388 #[.val (.long xa), .second, .val (.long xb), .second, .val (.long xc), .second, .val (.int xn), .val (.int xx), .val (.int (Int32.ofNat N)), .val (.int lo0), .val (.int ln0), .val (.int lo1), .val (.int ln1), .val (.int lo2), .val (.int ln2), .val (.int lo3), .val (.int ln3), .val (.int lo4), .val (.int ln4), .val (.int lo5), .val (.int ln5), .val (.ref yl), .val (.long (2147483648 : Int64)), .second, .val (.long kk5), .second, .val (.long (Int64.ofNat ix)), .second, .unset, .unset, .unset, .unset, .unset, .unset, .unset, .unset, .unset, .unset, .unset, .unset, .unset, .unset, .unset, .unset] [(.ref b6), (.ref b6)])) (fun _ k => XS.dup X6.here hx rfl (hb hby at_387) rfl rfl k) ?_
    refine own_go (T' := T6) (g' := (mkF m 390 #[.val (.long xa), .second, .val (.long xb), .second, .val (.long xc), .second, .val (.int xn), .val (.int xx), .val (.int (Int32.ofNat N)), .val (.int lo0), .val (.int ln0), .val (.int lo1), .val (.int ln1), .val (.int lo2), .val (.int ln2), .val (.int lo3), .val (.int ln3), .val (.int lo4), .val (.int ln4), .val (.int lo5), .val (.int ln5), .val (.ref yl), .val (.long (2147483648 : Int64)), .second, .val (.long kk5), .second, .val (.long (Int64.ofNat ix)), .second, .unset, .unset, .unset, .unset, .unset, .unset, .unset, .unset, .unset, .unset, .unset, .unset, .unset, .unset, .unset, .unset] [(.ref yl), (.ref b6), (.ref b6)])) (fun _ k => XS.aload X6.here hx rfl (hb hby at_388) rfl rfl k) ?_
    obtain ⟨_, _, ⟨T7, L7, k7, n7⟩, -, X7, ⟨Lc7, hQ7, l7, y7, z7⟩, st7⟩ := X6.specialBack hx (y := (⟨"com/example/benchlight/benchlight/Bounds", "<init>", "(Ljava/util/List;)V"⟩ : MethodName)) rfl hown (mvT hZ (hw _ (List.mem_of_getElem? (i := 94) rfl))) (mvT hZ (hw _ (List.mem_of_getElem? (i := 95) rfl))) (mvT hZ (hw _ (List.mem_of_getElem? (i := 96) rfl))) (by decide) (backOf (W := 1) (own_rBi l Z a0 hw [] b6 yl ya kya N vs es (own_l6 lo0 lo1 lo2 lo3 lo4 lo5) (fun j => own_l6 lo0 lo1 lo2 lo3 lo4 lo5 j + own_l6 ln0 ln1 ln2 ln3 ln4 ln5 j - (1 : Int32)) (own_l6 ln0 ln1 ln2 ln3 ln4 ln5) h6 n0 Z6 A6 Flower_b6 Flength_b6 Fcount_b6 FfirstLower_b6 FfirstLength_b6 gz_b6 (own_DL.ext DL E6) hN1 hN6 (fun i _ => own_ring _ _)) hZ (hw _ (List.mem_of_getElem? (i := 96) rfl)) (hw _ (List.mem_of_getElem? (i := 93) rfl)) (by decide) (by decide)) (g := (mkF m 390 #[.val (.long xa), .second, .val (.long xb), .second, .val (.long xc), .second, .val (.int xn), .val (.int xx), .val (.int (Int32.ofNat N)), .val (.int lo0), .val (.int ln0), .val (.int lo1), .val (.int ln1), .val (.int lo2), .val (.int ln2), .val (.int lo3), .val (.int ln3), .val (.int lo4), .val (.int ln4), .val (.int lo5), .val (.int ln5), .val (.ref yl), .val (.long (2147483648 : Int64)), .second, .val (.long kk5), .second, .val (.long (Int64.ofNat ix)), .second, .unset, .unset, .unset, .unset, .unset, .unset, .unset, .unset, .unset, .unset, .unset, .unset, .unset, .unset, .unset, .unset] [(.ref yl), (.ref b6), (.ref b6)])) rfl (by rw [hml]; rfl) (Steps.refl _) (a := b6) (argsL := [(.ref yl)]) (rest := [(.ref b6)]) (lenOf own_pd11 rfl) rfl (by show 2 * 0 + _ ≤ _; exact Nat.le_of_eq rfl) (hb hby at_390) (fun _ _ => ⟨rfl, e6, (by decide : 9 + 2 ≤ _), (by decide : 30 + 12 ≤ _)⟩)
    dsimp only [Pt.U, Pt.locs, Pt.cells, Pt.slots] at X7 l7 y7 z7 st7 hQ7
    subst l7 y7 z7
    obtain ⟨rfl, N7q, Kc7, ba7, bb7, qa7, qb7, Ec7, Flc7, Fnc7, Vac7, Vbc7⟩ := hQ7
    have N7 := Fr.app N5 N7q
    have Z7 : n0 ≤ T7.heap.size := Nat.le_trans Z6 Kc7.1
    have O7 : Ext h0 T7.heap := own_ext_keep O6 Kc7 (own_all1 hz_b6)
    have K7 : Keep h0 T7.heap [] := K6.trans Kc7 (own_or1 (Or.inr hz_b6))
    refine own_goT (T' := T7) (g' := (mkF m 393 #[.val (.long xa), .second, .val (.long xb), .second, .val (.long xc), .second, .val (.int xn), .val (.int xx), .val (.int (Int32.ofNat N)), .val (.int lo0), .val (.int ln0), .val (.int lo1), .val (.int ln1), .val (.int lo2), .val (.int ln2), .val (.int lo3), .val (.int ln3), .val (.int lo4), .val (.int ln4), .val (.int lo5), .val (.int ln5), .val (.ref yl), .val (.long (2147483648 : Int64)), .second, .val (.long kk5), .second, .val (.long (Int64.ofNat ix)), .second, .unset, .unset, .unset, .unset, .unset, .unset, .unset, .unset, .unset, .unset, .unset, .unset, .unset, .unset, .unset, .unset] [(.ref b6)])) st7 ?_
    refine own_go (T' := T7) (g' := (mkF m 395 #[.val (.long xa), .second, .val (.long xb), .second, .val (.long xc), .second, .val (.int xn), .val (.int xx), .val (.int (Int32.ofNat N)), .val (.int lo0), .val (.int ln0), .val (.int lo1), .val (.int ln1), .val (.int lo2), .val (.int ln2), .val (.int lo3), .val (.int ln3), .val (.int lo4), .val (.int ln4), .val (.int lo5), .val (.int ln5), .val (.ref yl), .val (.long (2147483648 : Int64)), .second, .val (.long kk5), .second, .val (.long (Int64.ofNat ix)), .second, .val (.ref b6), .unset, .unset, .unset, .unset, .unset, .unset, .unset, .unset, .unset, .unset, .unset, .unset, .unset, .unset, .unset] [])) (fun _ k => XS.astore X7.here hx rfl (hb hby at_393) rfl rfl (l' := #[.val (.long xa), .second, .val (.long xb), .second, .val (.long xc), .second, .val (.int xn), .val (.int xx), .val (.int (Int32.ofNat N)), .val (.int lo0), .val (.int ln0), .val (.int lo1), .val (.int ln1), .val (.int lo2), .val (.int ln2), .val (.int lo3), .val (.int ln3), .val (.int lo4), .val (.int ln4), .val (.int lo5), .val (.int ln5), .val (.ref yl), .val (.long (2147483648 : Int64)), .second, .val (.long kk5), .second, .val (.long (Int64.ofNat ix)), .second, .val (.ref b6), .unset, .unset, .unset, .unset, .unset, .unset, .unset, .unset, .unset, .unset, .unset, .unset, .unset, .unset, .unset]) rfl k) ?_
    refine own_go (T' := T7) (g' := (mkF m 397 #[.val (.long xa), .second, .val (.long xb), .second, .val (.long xc), .second, .val (.int xn), .val (.int xx), .val (.int (Int32.ofNat N)), .val (.int lo0), .val (.int ln0), .val (.int lo1), .val (.int ln1), .val (.int lo2), .val (.int ln2), .val (.int lo3), .val (.int ln3), .val (.int lo4), .val (.int ln4), .val (.int lo5), .val (.int ln5), .val (.ref yl), .val (.long (2147483648 : Int64)), .second, .val (.long kk5), .second, .val (.long (Int64.ofNat ix)), .second, .val (.ref b6), .unset, .unset, .unset, .unset, .unset, .unset, .unset, .unset, .unset, .unset, .unset, .unset, .unset, .unset, .unset] [(.ref b6)])) (fun _ k => XS.aload X7.here hx rfl (hb hby at_395) rfl rfl k) ?_
    refine own_go (T' := T7) (g' := (mkF m 399 #[.val (.long xa), .second, .val (.long xb), .second, .val (.long xc), .second, .val (.int xn), .val (.int xx), .val (.int (Int32.ofNat N)), .val (.int lo0), .val (.int ln0), .val (.int lo1), .val (.int ln1), .val (.int lo2), .val (.int ln2), .val (.int lo3), .val (.int ln3), .val (.int lo4), .val (.int ln4), .val (.int lo5), .val (.int ln5), .val (.ref yl), .val (.long (2147483648 : Int64)), .second, .val (.long kk5), .second, .val (.long (Int64.ofNat ix)), .second, .val (.ref b6), .unset, .unset, .unset, .unset, .unset, .unset, .unset, .unset, .unset, .unset, .unset, .unset, .unset, .unset, .unset] [(.long (Int64.ofNat ix)), (.ref b6)])) (fun _ k => XS.lload X7.here hx rfl (hb hby at_397) rfl k) ?_
    refine own_go (T' := T7) (g' := (mkF m 400 #[.val (.long xa), .second, .val (.long xb), .second, .val (.long xc), .second, .val (.int xn), .val (.int xx), .val (.int (Int32.ofNat N)), .val (.int lo0), .val (.int ln0), .val (.int lo1), .val (.int ln1), .val (.int lo2), .val (.int ln2), .val (.int lo3), .val (.int ln3), .val (.int lo4), .val (.int ln4), .val (.int lo5), .val (.int ln5), .val (.ref yl), .val (.long (2147483648 : Int64)), .second, .val (.long kk5), .second, .val (.long (Int64.ofNat ix)), .second, .val (.ref b6), .unset, .unset, .unset, .unset, .unset, .unset, .unset, .unset, .unset, .unset, .unset, .unset, .unset, .unset, .unset] [(.int ((Int64.ofNat ix).toInt32)), (.ref b6)])) (fun _ k => XS.l2i X7.here hx rfl (hb hby at_399) rfl k) ?_
    obtain ⟨cq8, kq8, q8a, q8b, q8c⟩ := isOf hZ rfl Ec7
    obtain ⟨_, _, ⟨T8, L8, k8, n8⟩, -, X8, ⟨Lc8, hQ8, l8, y8, z8⟩, st8⟩ := X7.virtualBack hx (y := (⟨"com/example/benchlight/benchlight/Bounds", "subscripts", "(I)[D"⟩ : MethodName)) (z := (⟨"com/example/benchlight/benchlight/Bounds", "subscripts", "(I)[D"⟩ : MethodName)) hown (mvT hZ (hw _ (List.mem_of_getElem? (i := 153) rfl))) (mvT hZ (hw _ (List.mem_of_getElem? (i := 154) rfl))) (notFace_of_selects (args := #[]) (mvT hZ (hw _ (List.mem_of_getElem? (i := 156) rfl)))) (mvT hZ (hw _ (List.mem_of_getElem? (i := 156) rfl))) (mvT hZ (hw _ (List.mem_of_getElem? (i := 155) rfl))) (by decide) (backOf (W := 0) (own_rSb l Z a0 hw [] b6 ((Int64.ofNat ix).toInt32) ba7 bb7 qa7 qb7 N (own_l6 lo0 lo1 lo2 lo3 lo4 lo5) (own_l6 ln0 ln1 ln2 ln3 ln4 ln5) (own_q ix (own_l6 ln0 ln1 ln2 ln3 ln4 ln5)) T7.heap n0 Z7 Flc7 Fnc7 Vac7 Vbc7 hN6 (fun i _ => own_nz32 (rln i).1) (own_q0 hi31 l1 hN6) (fun t ht => own_qs hi31 rln (by omega))) hZ (hw _ (List.mem_of_getElem? (i := 157) rfl)) (hw _ (List.mem_of_getElem? (i := 93) rfl)) (by decide) (by decide)) q8a q8c (g := (mkF m 400 #[.val (.long xa), .second, .val (.long xb), .second, .val (.long xc), .second, .val (.int xn), .val (.int xx), .val (.int (Int32.ofNat N)), .val (.int lo0), .val (.int ln0), .val (.int lo1), .val (.int ln1), .val (.int lo2), .val (.int ln2), .val (.int lo3), .val (.int ln3), .val (.int lo4), .val (.int ln4), .val (.int lo5), .val (.int ln5), .val (.ref yl), .val (.long (2147483648 : Int64)), .second, .val (.long kk5), .second, .val (.long (Int64.ofNat ix)), .second, .val (.ref b6), .unset, .unset, .unset, .unset, .unset, .unset, .unset, .unset, .unset, .unset, .unset, .unset, .unset, .unset, .unset] [(.int ((Int64.ofNat ix).toInt32)), (.ref b6)])) rfl (by rw [hml]; rfl) (Steps.refl _) (argsL := [(.int ((Int64.ofNat ix).toInt32))]) (rest := []) (lenOf own_pd12 rfl) rfl (by show 2 * 0 + _ ≤ _; exact Nat.le_of_eq rfl) (hb hby at_400) (fun _ _ => ⟨rfl, rfl, (by decide : 11 + 1 ≤ _), (by decide : 42 + 6 ≤ _)⟩)
    dsimp only [Pt.U, Pt.locs, Pt.cells, Pt.slots] at X8 l8 y8 z8 st8 hQ8
    subst l8 y8 z8
    obtain ⟨-, N8q, Kc8, r8, kr8, rfl, Vrc8⟩ := hQ8
    have N8 := Fr.app N7 N8q
    have Ek9 := Ec7.keep Kc8
    have Fk10 := Flc7.keep Kc8 (fun q => nomatch q)
    have Fk11 := Fnc7.keep Kc8 (fun q => nomatch q)
    have Vk12 := Vac7.keep Kc8 (fun q => nomatch q)
    have Vk13 := Vbc7.keep Kc8 (fun q => nomatch q)
    have Z8 : n0 ≤ T8.heap.size := Nat.le_trans Z7 Kc8.1
    have O8 : Ext h0 T8.heap := own_ext_keep O7 Kc8 own_all0
    have K8 : Keep h0 T8.heap [] := K7.trans Kc8 (fun x hx => nomatch hx)
    refine own_goT (T' := T8) (g' := (mkF m 403 #[.val (.long xa), .second, .val (.long xb), .second, .val (.long xc), .second, .val (.int xn), .val (.int xx), .val (.int (Int32.ofNat N)), .val (.int lo0), .val (.int ln0), .val (.int lo1), .val (.int ln1), .val (.int lo2), .val (.int ln2), .val (.int lo3), .val (.int ln3), .val (.int lo4), .val (.int ln4), .val (.int lo5), .val (.int ln5), .val (.ref yl), .val (.long (2147483648 : Int64)), .second, .val (.long kk5), .second, .val (.long (Int64.ofNat ix)), .second, .val (.ref b6), .unset, .unset, .unset, .unset, .unset, .unset, .unset, .unset, .unset, .unset, .unset, .unset, .unset, .unset, .unset] [(.ref r8)])) st8 ?_
    refine own_go (T' := T8) (g' := (mkF m 405 #[.val (.long xa), .second, .val (.long xb), .second, .val (.long xc), .second, .val (.int xn), .val (.int xx), .val (.int (Int32.ofNat N)), .val (.int lo0), .val (.int ln0), .val (.int lo1), .val (.int ln1), .val (.int lo2), .val (.int ln2), .val (.int lo3), .val (.int ln3), .val (.int lo4), .val (.int ln4), .val (.int lo5), .val (.int ln5), .val (.ref yl), .val (.long (2147483648 : Int64)), .second, .val (.long kk5), .second, .val (.long (Int64.ofNat ix)), .second, .val (.ref b6), .val (.ref r8), .unset, .unset, .unset, .unset, .unset, .unset, .unset, .unset, .unset, .unset, .unset, .unset, .unset, .unset] [])) (fun _ k => XS.astore X8.here hx rfl (hb hby at_403) rfl rfl (l' := #[.val (.long xa), .second, .val (.long xb), .second, .val (.long xc), .second, .val (.int xn), .val (.int xx), .val (.int (Int32.ofNat N)), .val (.int lo0), .val (.int ln0), .val (.int lo1), .val (.int ln1), .val (.int lo2), .val (.int ln2), .val (.int lo3), .val (.int ln3), .val (.int lo4), .val (.int ln4), .val (.int lo5), .val (.int ln5), .val (.ref yl), .val (.long (2147483648 : Int64)), .second, .val (.long kk5), .second, .val (.long (Int64.ofNat ix)), .second, .val (.ref b6), .val (.ref r8), .unset, .unset, .unset, .unset, .unset, .unset, .unset, .unset, .unset, .unset, .unset, .unset, .unset, .unset]) rfl k) ?_
    refine own_go (T' := T8) (g' := (mkF m 408 #[.val (.long xa), .second, .val (.long xb), .second, .val (.long xc), .second, .val (.int xn), .val (.int xx), .val (.int (Int32.ofNat N)), .val (.int lo0), .val (.int ln0), .val (.int lo1), .val (.int ln1), .val (.int lo2), .val (.int ln2), .val (.int lo3), .val (.int ln3), .val (.int lo4), .val (.int ln4), .val (.int lo5), .val (.int ln5), .val (.ref yl), .val (.long (2147483648 : Int64)), .second, .val (.long kk5), .second, .val (.long (Int64.ofNat ix)), .second, .val (.ref b6), .val (.ref r8), .unset, .unset, .unset, .unset, .unset, .unset, .unset, .unset, .unset, .unset, .unset, .unset, .unset, .unset] [(.long (4294967296 : Int64))])) (fun _ k => X8.ldc2Long hx hown (mvT hZ (hw _ (List.mem_of_getElem? (i := 159) rfl))) (g := (mkF m 405 #[.val (.long xa), .second, .val (.long xb), .second, .val (.long xc), .second, .val (.int xn), .val (.int xx), .val (.int (Int32.ofNat N)), .val (.int lo0), .val (.int ln0), .val (.int lo1), .val (.int ln1), .val (.int lo2), .val (.int ln2), .val (.int lo3), .val (.int ln3), .val (.int lo4), .val (.int ln4), .val (.int lo5), .val (.int ln5), .val (.ref yl), .val (.long (2147483648 : Int64)), .second, .val (.long kk5), .second, .val (.long (Int64.ofNat ix)), .second, .val (.ref b6), .val (.ref r8), .unset, .unset, .unset, .unset, .unset, .unset, .unset, .unset, .unset, .unset, .unset, .unset, .unset, .unset] [])) rfl (hb hby at_405) _ k) ?_
    refine own_go (T' := T8) (g' := (mkF m 410 #[.val (.long xa), .second, .val (.long xb), .second, .val (.long xc), .second, .val (.int xn), .val (.int xx), .val (.int (Int32.ofNat N)), .val (.int lo0), .val (.int ln0), .val (.int lo1), .val (.int ln1), .val (.int lo2), .val (.int ln2), .val (.int lo3), .val (.int ln3), .val (.int lo4), .val (.int ln4), .val (.int lo5), .val (.int ln5), .val (.ref yl), .val (.long (2147483648 : Int64)), .second, .val (.long kk5), .second, .val (.long (Int64.ofNat ix)), .second, .val (.ref b6), .val (.ref r8), .val (.long (4294967296 : Int64)), .second, .unset, .unset, .unset, .unset, .unset, .unset, .unset, .unset, .unset, .unset, .unset, .unset] [])) (fun _ k => XS.lstore X8.here hx rfl (hb hby at_408) rfl (l' := #[.val (.long xa), .second, .val (.long xb), .second, .val (.long xc), .second, .val (.int xn), .val (.int xx), .val (.int (Int32.ofNat N)), .val (.int lo0), .val (.int ln0), .val (.int lo1), .val (.int ln1), .val (.int lo2), .val (.int ln2), .val (.int lo3), .val (.int ln3), .val (.int lo4), .val (.int ln4), .val (.int lo5), .val (.int ln5), .val (.ref yl), .val (.long (2147483648 : Int64)), .second, .val (.long kk5), .second, .val (.long (Int64.ofNat ix)), .second, .val (.ref b6), .val (.ref r8), .val (.long (4294967296 : Int64)), .second, .unset, .unset, .unset, .unset, .unset, .unset, .unset, .unset, .unset, .unset, .unset, .unset]) rfl k) ?_
    refine own_go (T' := T8) (g' := (mkF m 411 #[.val (.long xa), .second, .val (.long xb), .second, .val (.long xc), .second, .val (.int xn), .val (.int xx), .val (.int (Int32.ofNat N)), .val (.int lo0), .val (.int ln0), .val (.int lo1), .val (.int ln1), .val (.int lo2), .val (.int ln2), .val (.int lo3), .val (.int ln3), .val (.int lo4), .val (.int ln4), .val (.int lo5), .val (.int ln5), .val (.ref yl), .val (.long (2147483648 : Int64)), .second, .val (.long kk5), .second, .val (.long (Int64.ofNat ix)), .second, .val (.ref b6), .val (.ref r8), .val (.long (4294967296 : Int64)), .second, .unset, .unset, .unset, .unset, .unset, .unset, .unset, .unset, .unset, .unset, .unset, .unset] [(.long (1 : Int64))])) (fun _ k => XS.lconst X8.here hx rfl (hb hby at_410) k) ?_
    refine own_go (T' := T8) (g' := (mkF m 413 #[.val (.long xa), .second, .val (.long xb), .second, .val (.long xc), .second, .val (.int xn), .val (.int xx), .val (.int (Int32.ofNat N)), .val (.int lo0), .val (.int ln0), .val (.int lo1), .val (.int ln1), .val (.int lo2), .val (.int ln2), .val (.int lo3), .val (.int ln3), .val (.int lo4), .val (.int ln4), .val (.int lo5), .val (.int ln5), .val (.ref yl), .val (.long (2147483648 : Int64)), .second, .val (.long kk5), .second, .val (.long (Int64.ofNat ix)), .second, .val (.ref b6), .val (.ref r8), .val (.long (4294967296 : Int64)), .second, .val (.long (1 : Int64)), .second, .unset, .unset, .unset, .unset, .unset, .unset, .unset, .unset, .unset, .unset] [])) (fun _ k => XS.lstore X8.here hx rfl (hb hby at_411) rfl (l' := #[.val (.long xa), .second, .val (.long xb), .second, .val (.long xc), .second, .val (.int xn), .val (.int xx), .val (.int (Int32.ofNat N)), .val (.int lo0), .val (.int ln0), .val (.int lo1), .val (.int ln1), .val (.int lo2), .val (.int ln2), .val (.int lo3), .val (.int ln3), .val (.int lo4), .val (.int ln4), .val (.int lo5), .val (.int ln5), .val (.ref yl), .val (.long (2147483648 : Int64)), .second, .val (.long kk5), .second, .val (.long (Int64.ofNat ix)), .second, .val (.ref b6), .val (.ref r8), .val (.long (4294967296 : Int64)), .second, .val (.long (1 : Int64)), .second, .unset, .unset, .unset, .unset, .unset, .unset, .unset, .unset, .unset, .unset]) rfl k) ?_
    refine own_go (T' := T8) (g' := (mkF m 415 #[.val (.long xa), .second, .val (.long xb), .second, .val (.long xc), .second, .val (.int xn), .val (.int xx), .val (.int (Int32.ofNat N)), .val (.int lo0), .val (.int ln0), .val (.int lo1), .val (.int ln1), .val (.int lo2), .val (.int ln2), .val (.int lo3), .val (.int ln3), .val (.int lo4), .val (.int ln4), .val (.int lo5), .val (.int ln5), .val (.ref yl), .val (.long (2147483648 : Int64)), .second, .val (.long kk5), .second, .val (.long (Int64.ofNat ix)), .second, .val (.ref b6), .val (.ref r8), .val (.long (4294967296 : Int64)), .second, .val (.long (1 : Int64)), .second, .unset, .unset, .unset, .unset, .unset, .unset, .unset, .unset, .unset, .unset] [(.long (1 : Int64))])) (fun _ k => XS.lload X8.here hx rfl (hb hby at_413) rfl k) ?_
    refine own_go (T' := T8) (g' := (mkF m 417 #[.val (.long xa), .second, .val (.long xb), .second, .val (.long xc), .second, .val (.int xn), .val (.int xx), .val (.int (Int32.ofNat N)), .val (.int lo0), .val (.int ln0), .val (.int lo1), .val (.int ln1), .val (.int lo2), .val (.int ln2), .val (.int lo3), .val (.int ln3), .val (.int lo4), .val (.int ln4), .val (.int lo5), .val (.int ln5), .val (.ref yl), .val (.long (2147483648 : Int64)), .second, .val (.long kk5), .second, .val (.long (Int64.ofNat ix)), .second, .val (.ref b6), .val (.ref r8), .val (.long (4294967296 : Int64)), .second, .val (.long (1 : Int64)), .second, .unset, .unset, .unset, .unset, .unset, .unset, .unset, .unset, .unset, .unset] [(.int ln5), (.long (1 : Int64))])) (fun _ k => XS.iload X8.here hx rfl (hb hby at_415) rfl k) ?_
    refine own_go (T' := T8) (g' := (mkF m 419 #[.val (.long xa), .second, .val (.long xb), .second, .val (.long xc), .second, .val (.int xn), .val (.int xx), .val (.int (Int32.ofNat N)), .val (.int lo0), .val (.int ln0), .val (.int lo1), .val (.int ln1), .val (.int lo2), .val (.int ln2), .val (.int lo3), .val (.int ln3), .val (.int lo4), .val (.int ln4), .val (.int lo5), .val (.int ln5), .val (.ref yl), .val (.long (2147483648 : Int64)), .second, .val (.long kk5), .second, .val (.long (Int64.ofNat ix)), .second, .val (.ref b6), .val (.ref r8), .val (.long (4294967296 : Int64)), .second, .val (.long (1 : Int64)), .second, .unset, .unset, .unset, .unset, .unset, .unset, .unset, .unset, .unset, .unset] [(.long (4294967296 : Int64)), (.int ln5), (.long (1 : Int64))])) (fun _ k => XS.lload X8.here hx rfl (hb hby at_417) rfl k) ?_
    obtain ⟨_, _, ⟨T14, L14, k14, n14⟩, -, X14, ⟨Lc14, hQ14, l14, y14, z14⟩, st14⟩ := Jvm.LawKit.callS X8 hx (y := (⟨"com/example/benchlight/benchlight/BoundsSubscriptsPinLaw", "mulCap", "(JIJ)J"⟩ : MethodName)) hown (mvT hZ (hw _ (List.mem_of_getElem? (i := 84) rfl))) (mvT hZ (hw _ (List.mem_of_getElem? (i := 85) rfl))) (mvT hZ (hw _ (List.mem_of_getElem? (i := 3) rfl))) (mvT hZ (hw _ (List.mem_of_getElem? (i := 86) rfl))) (by decide) (backOf (W := 0) (own_rMc l Z a0 hw [] (1 : Int64) ln5 (4294967296 : Int64) ss4 T8.heap n0 Z8 hss4) hZ (hw _ (List.mem_of_getElem? (i := 86) rfl)) (hw _ (List.mem_of_getElem? (i := 3) rfl)) (by decide) (by decide)) (g := (mkF m 419 #[.val (.long xa), .second, .val (.long xb), .second, .val (.long xc), .second, .val (.int xn), .val (.int xx), .val (.int (Int32.ofNat N)), .val (.int lo0), .val (.int ln0), .val (.int lo1), .val (.int ln1), .val (.int lo2), .val (.int ln2), .val (.int lo3), .val (.int ln3), .val (.int lo4), .val (.int ln4), .val (.int lo5), .val (.int ln5), .val (.ref yl), .val (.long (2147483648 : Int64)), .second, .val (.long kk5), .second, .val (.long (Int64.ofNat ix)), .second, .val (.ref b6), .val (.ref r8), .val (.long (4294967296 : Int64)), .second, .val (.long (1 : Int64)), .second, .unset, .unset, .unset, .unset, .unset, .unset, .unset, .unset, .unset, .unset] [(.long (4294967296 : Int64)), (.int ln5), (.long (1 : Int64))])) rfl (by rw [hml]; rfl) (argsL := [(.long (1 : Int64)), (.int ln5), (.long (4294967296 : Int64))]) (rest := []) (lenOf own_pd10 rfl) rfl (by show 2 * 0 + _ ≤ _; exact Nat.le_of_eq rfl) (hb hby at_419) (fun _ _ => ⟨rfl, rfl, (by decide : 12 + 0 ≤ _), (by decide : 48 + 0 ≤ _)⟩)
    dsimp only [Pt.U, Pt.locs, Pt.cells, Pt.slots] at X14 l14 y14 z14 st14 hQ14
    subst l14 y14 z14
    obtain ⟨rfl, N14q, e14⟩ := hQ14
    have N14 := Fr.app N8 N14q
    refine own_go (T' := T14) (g' := (mkF m 422 #[.val (.long xa), .second, .val (.long xb), .second, .val (.long xc), .second, .val (.int xn), .val (.int xx), .val (.int (Int32.ofNat N)), .val (.int lo0), .val (.int ln0), .val (.int lo1), .val (.int ln1), .val (.int lo2), .val (.int ln2), .val (.int lo3), .val (.int ln3), .val (.int lo4), .val (.int ln4), .val (.int lo5), .val (.int ln5), .val (.ref yl), .val (.long (2147483648 : Int64)), .second, .val (.long kk5), .second, .val (.long (Int64.ofNat ix)), .second, .val (.ref b6), .val (.ref r8), .val (.long (4294967296 : Int64)), .second, .val (.long (1 : Int64)), .second, .unset, .unset, .unset, .unset, .unset, .unset, .unset, .unset, .unset, .unset] [(.long ss4)])) (fun _ k => st14 _ k) ?_
    refine own_go (T' := T14) (g' := (mkF m 424 #[.val (.long xa), .second, .val (.long xb), .second, .val (.long xc), .second, .val (.int xn), .val (.int xx), .val (.int (Int32.ofNat N)), .val (.int lo0), .val (.int ln0), .val (.int lo1), .val (.int ln1), .val (.int lo2), .val (.int ln2), .val (.int lo3), .val (.int ln3), .val (.int lo4), .val (.int ln4), .val (.int lo5), .val (.int ln5), .val (.ref yl), .val (.long (2147483648 : Int64)), .second, .val (.long kk5), .second, .val (.long (Int64.ofNat ix)), .second, .val (.ref b6), .val (.ref r8), .val (.long (4294967296 : Int64)), .second, .val (.long (1 : Int64)), .second, .val (.long ss4), .second, .unset, .unset, .unset, .unset, .unset, .unset, .unset, .unset] [])) (fun _ k => XS.lstore X14.here hx rfl (hb hby at_422) rfl (l' := #[.val (.long xa), .second, .val (.long xb), .second, .val (.long xc), .second, .val (.int xn), .val (.int xx), .val (.int (Int32.ofNat N)), .val (.int lo0), .val (.int ln0), .val (.int lo1), .val (.int ln1), .val (.int lo2), .val (.int ln2), .val (.int lo3), .val (.int ln3), .val (.int lo4), .val (.int ln4), .val (.int lo5), .val (.int ln5), .val (.ref yl), .val (.long (2147483648 : Int64)), .second, .val (.long kk5), .second, .val (.long (Int64.ofNat ix)), .second, .val (.ref b6), .val (.ref r8), .val (.long (4294967296 : Int64)), .second, .val (.long (1 : Int64)), .second, .val (.long ss4), .second, .unset, .unset, .unset, .unset, .unset, .unset, .unset, .unset]) rfl k) ?_
    refine own_go (T' := T14) (g' := (mkF m 426 #[.val (.long xa), .second, .val (.long xb), .second, .val (.long xc), .second, .val (.int xn), .val (.int xx), .val (.int (Int32.ofNat N)), .val (.int lo0), .val (.int ln0), .val (.int lo1), .val (.int ln1), .val (.int lo2), .val (.int ln2), .val (.int lo3), .val (.int ln3), .val (.int lo4), .val (.int ln4), .val (.int lo5), .val (.int ln5), .val (.ref yl), .val (.long (2147483648 : Int64)), .second, .val (.long kk5), .second, .val (.long (Int64.ofNat ix)), .second, .val (.ref b6), .val (.ref r8), .val (.long (4294967296 : Int64)), .second, .val (.long (1 : Int64)), .second, .val (.long ss4), .second, .unset, .unset, .unset, .unset, .unset, .unset, .unset, .unset] [(.long ss4)])) (fun _ k => XS.lload X14.here hx rfl (hb hby at_424) rfl k) ?_
    refine own_go (T' := T14) (g' := (mkF m 428 #[.val (.long xa), .second, .val (.long xb), .second, .val (.long xc), .second, .val (.int xn), .val (.int xx), .val (.int (Int32.ofNat N)), .val (.int lo0), .val (.int ln0), .val (.int lo1), .val (.int ln1), .val (.int lo2), .val (.int ln2), .val (.int lo3), .val (.int ln3), .val (.int lo4), .val (.int ln4), .val (.int lo5), .val (.int ln5), .val (.ref yl), .val (.long (2147483648 : Int64)), .second, .val (.long kk5), .second, .val (.long (Int64.ofNat ix)), .second, .val (.ref b6), .val (.ref r8), .val (.long (4294967296 : Int64)), .second, .val (.long (1 : Int64)), .second, .val (.long ss4), .second, .unset, .unset, .unset, .unset, .unset, .unset, .unset, .unset] [(.int ln4), (.long ss4)])) (fun _ k => XS.iload X14.here hx rfl (hb hby at_426) rfl k) ?_
    refine own_go (T' := T14) (g' := (mkF m 430 #[.val (.long xa), .second, .val (.long xb), .second, .val (.long xc), .second, .val (.int xn), .val (.int xx), .val (.int (Int32.ofNat N)), .val (.int lo0), .val (.int ln0), .val (.int lo1), .val (.int ln1), .val (.int lo2), .val (.int ln2), .val (.int lo3), .val (.int ln3), .val (.int lo4), .val (.int ln4), .val (.int lo5), .val (.int ln5), .val (.ref yl), .val (.long (2147483648 : Int64)), .second, .val (.long kk5), .second, .val (.long (Int64.ofNat ix)), .second, .val (.ref b6), .val (.ref r8), .val (.long (4294967296 : Int64)), .second, .val (.long (1 : Int64)), .second, .val (.long ss4), .second, .unset, .unset, .unset, .unset, .unset, .unset, .unset, .unset] [(.long (4294967296 : Int64)), (.int ln4), (.long ss4)])) (fun _ k => XS.lload X14.here hx rfl (hb hby at_428) rfl k) ?_
    obtain ⟨_, _, ⟨T15, L15, k15, n15⟩, -, X15, ⟨Lc15, hQ15, l15, y15, z15⟩, st15⟩ := Jvm.LawKit.callS X14 hx (y := (⟨"com/example/benchlight/benchlight/BoundsSubscriptsPinLaw", "mulCap", "(JIJ)J"⟩ : MethodName)) hown (mvT hZ (hw _ (List.mem_of_getElem? (i := 84) rfl))) (mvT hZ (hw _ (List.mem_of_getElem? (i := 85) rfl))) (mvT hZ (hw _ (List.mem_of_getElem? (i := 3) rfl))) (mvT hZ (hw _ (List.mem_of_getElem? (i := 86) rfl))) (by decide) (backOf (W := 0) (own_rMc l Z a0 hw [] ss4 ln4 (4294967296 : Int64) ss3 T8.heap n0 Z8 hss3) hZ (hw _ (List.mem_of_getElem? (i := 86) rfl)) (hw _ (List.mem_of_getElem? (i := 3) rfl)) (by decide) (by decide)) (g := (mkF m 430 #[.val (.long xa), .second, .val (.long xb), .second, .val (.long xc), .second, .val (.int xn), .val (.int xx), .val (.int (Int32.ofNat N)), .val (.int lo0), .val (.int ln0), .val (.int lo1), .val (.int ln1), .val (.int lo2), .val (.int ln2), .val (.int lo3), .val (.int ln3), .val (.int lo4), .val (.int ln4), .val (.int lo5), .val (.int ln5), .val (.ref yl), .val (.long (2147483648 : Int64)), .second, .val (.long kk5), .second, .val (.long (Int64.ofNat ix)), .second, .val (.ref b6), .val (.ref r8), .val (.long (4294967296 : Int64)), .second, .val (.long (1 : Int64)), .second, .val (.long ss4), .second, .unset, .unset, .unset, .unset, .unset, .unset, .unset, .unset] [(.long (4294967296 : Int64)), (.int ln4), (.long ss4)])) rfl (by rw [hml]; rfl) (argsL := [(.long ss4), (.int ln4), (.long (4294967296 : Int64))]) (rest := []) (lenOf own_pd10 rfl) rfl (by show 2 * 0 + _ ≤ _; exact Nat.le_of_eq rfl) (hb hby at_430) (fun _ _ => ⟨rfl, e14, (by decide : 12 + 0 ≤ _), (by decide : 48 + 0 ≤ _)⟩)
    dsimp only [Pt.U, Pt.locs, Pt.cells, Pt.slots] at X15 l15 y15 z15 st15 hQ15
    subst l15 y15 z15
    obtain ⟨rfl, N15q, e15⟩ := hQ15
    have N15 := Fr.app N14 N15q
    refine own_go (T' := T15) (g' := (mkF m 433 #[.val (.long xa), .second, .val (.long xb), .second, .val (.long xc), .second, .val (.int xn), .val (.int xx), .val (.int (Int32.ofNat N)), .val (.int lo0), .val (.int ln0), .val (.int lo1), .val (.int ln1), .val (.int lo2), .val (.int ln2), .val (.int lo3), .val (.int ln3), .val (.int lo4), .val (.int ln4), .val (.int lo5), .val (.int ln5), .val (.ref yl), .val (.long (2147483648 : Int64)), .second, .val (.long kk5), .second, .val (.long (Int64.ofNat ix)), .second, .val (.ref b6), .val (.ref r8), .val (.long (4294967296 : Int64)), .second, .val (.long (1 : Int64)), .second, .val (.long ss4), .second, .unset, .unset, .unset, .unset, .unset, .unset, .unset, .unset] [(.long ss3)])) (fun _ k => st15 _ k) ?_
    refine own_go (T' := T15) (g' := (mkF m 435 #[.val (.long xa), .second, .val (.long xb), .second, .val (.long xc), .second, .val (.int xn), .val (.int xx), .val (.int (Int32.ofNat N)), .val (.int lo0), .val (.int ln0), .val (.int lo1), .val (.int ln1), .val (.int lo2), .val (.int ln2), .val (.int lo3), .val (.int ln3), .val (.int lo4), .val (.int ln4), .val (.int lo5), .val (.int ln5), .val (.ref yl), .val (.long (2147483648 : Int64)), .second, .val (.long kk5), .second, .val (.long (Int64.ofNat ix)), .second, .val (.ref b6), .val (.ref r8), .val (.long (4294967296 : Int64)), .second, .val (.long (1 : Int64)), .second, .val (.long ss4), .second, .val (.long ss3), .second, .unset, .unset, .unset, .unset, .unset, .unset] [])) (fun _ k => XS.lstore X15.here hx rfl (hb hby at_433) rfl (l' := #[.val (.long xa), .second, .val (.long xb), .second, .val (.long xc), .second, .val (.int xn), .val (.int xx), .val (.int (Int32.ofNat N)), .val (.int lo0), .val (.int ln0), .val (.int lo1), .val (.int ln1), .val (.int lo2), .val (.int ln2), .val (.int lo3), .val (.int ln3), .val (.int lo4), .val (.int ln4), .val (.int lo5), .val (.int ln5), .val (.ref yl), .val (.long (2147483648 : Int64)), .second, .val (.long kk5), .second, .val (.long (Int64.ofNat ix)), .second, .val (.ref b6), .val (.ref r8), .val (.long (4294967296 : Int64)), .second, .val (.long (1 : Int64)), .second, .val (.long ss4), .second, .val (.long ss3), .second, .unset, .unset, .unset, .unset, .unset, .unset]) rfl k) ?_
    refine own_go (T' := T15) (g' := (mkF m 437 #[.val (.long xa), .second, .val (.long xb), .second, .val (.long xc), .second, .val (.int xn), .val (.int xx), .val (.int (Int32.ofNat N)), .val (.int lo0), .val (.int ln0), .val (.int lo1), .val (.int ln1), .val (.int lo2), .val (.int ln2), .val (.int lo3), .val (.int ln3), .val (.int lo4), .val (.int ln4), .val (.int lo5), .val (.int ln5), .val (.ref yl), .val (.long (2147483648 : Int64)), .second, .val (.long kk5), .second, .val (.long (Int64.ofNat ix)), .second, .val (.ref b6), .val (.ref r8), .val (.long (4294967296 : Int64)), .second, .val (.long (1 : Int64)), .second, .val (.long ss4), .second, .val (.long ss3), .second, .unset, .unset, .unset, .unset, .unset, .unset] [(.long ss3)])) (fun _ k => XS.lload X15.here hx rfl (hb hby at_435) rfl k) ?_
    refine own_go (T' := T15) (g' := (mkF m 439 #[.val (.long xa), .second, .val (.long xb), .second, .val (.long xc), .second, .val (.int xn), .val (.int xx), .val (.int (Int32.ofNat N)), .val (.int lo0), .val (.int ln0), .val (.int lo1), .val (.int ln1), .val (.int lo2), .val (.int ln2), .val (.int lo3), .val (.int ln3), .val (.int lo4), .val (.int ln4), .val (.int lo5), .val (.int ln5), .val (.ref yl), .val (.long (2147483648 : Int64)), .second, .val (.long kk5), .second, .val (.long (Int64.ofNat ix)), .second, .val (.ref b6), .val (.ref r8), .val (.long (4294967296 : Int64)), .second, .val (.long (1 : Int64)), .second, .val (.long ss4), .second, .val (.long ss3), .second, .unset, .unset, .unset, .unset, .unset, .unset] [(.int ln3), (.long ss3)])) (fun _ k => XS.iload X15.here hx rfl (hb hby at_437) rfl k) ?_
    refine own_go (T' := T15) (g' := (mkF m 441 #[.val (.long xa), .second, .val (.long xb), .second, .val (.long xc), .second, .val (.int xn), .val (.int xx), .val (.int (Int32.ofNat N)), .val (.int lo0), .val (.int ln0), .val (.int lo1), .val (.int ln1), .val (.int lo2), .val (.int ln2), .val (.int lo3), .val (.int ln3), .val (.int lo4), .val (.int ln4), .val (.int lo5), .val (.int ln5), .val (.ref yl), .val (.long (2147483648 : Int64)), .second, .val (.long kk5), .second, .val (.long (Int64.ofNat ix)), .second, .val (.ref b6), .val (.ref r8), .val (.long (4294967296 : Int64)), .second, .val (.long (1 : Int64)), .second, .val (.long ss4), .second, .val (.long ss3), .second, .unset, .unset, .unset, .unset, .unset, .unset] [(.long (4294967296 : Int64)), (.int ln3), (.long ss3)])) (fun _ k => XS.lload X15.here hx rfl (hb hby at_439) rfl k) ?_
    obtain ⟨_, _, ⟨T16, L16, k16, n16⟩, -, X16, ⟨Lc16, hQ16, l16, y16, z16⟩, st16⟩ := Jvm.LawKit.callS X15 hx (y := (⟨"com/example/benchlight/benchlight/BoundsSubscriptsPinLaw", "mulCap", "(JIJ)J"⟩ : MethodName)) hown (mvT hZ (hw _ (List.mem_of_getElem? (i := 84) rfl))) (mvT hZ (hw _ (List.mem_of_getElem? (i := 85) rfl))) (mvT hZ (hw _ (List.mem_of_getElem? (i := 3) rfl))) (mvT hZ (hw _ (List.mem_of_getElem? (i := 86) rfl))) (by decide) (backOf (W := 0) (own_rMc l Z a0 hw [] ss3 ln3 (4294967296 : Int64) ss2 T8.heap n0 Z8 hss2) hZ (hw _ (List.mem_of_getElem? (i := 86) rfl)) (hw _ (List.mem_of_getElem? (i := 3) rfl)) (by decide) (by decide)) (g := (mkF m 441 #[.val (.long xa), .second, .val (.long xb), .second, .val (.long xc), .second, .val (.int xn), .val (.int xx), .val (.int (Int32.ofNat N)), .val (.int lo0), .val (.int ln0), .val (.int lo1), .val (.int ln1), .val (.int lo2), .val (.int ln2), .val (.int lo3), .val (.int ln3), .val (.int lo4), .val (.int ln4), .val (.int lo5), .val (.int ln5), .val (.ref yl), .val (.long (2147483648 : Int64)), .second, .val (.long kk5), .second, .val (.long (Int64.ofNat ix)), .second, .val (.ref b6), .val (.ref r8), .val (.long (4294967296 : Int64)), .second, .val (.long (1 : Int64)), .second, .val (.long ss4), .second, .val (.long ss3), .second, .unset, .unset, .unset, .unset, .unset, .unset] [(.long (4294967296 : Int64)), (.int ln3), (.long ss3)])) rfl (by rw [hml]; rfl) (argsL := [(.long ss3), (.int ln3), (.long (4294967296 : Int64))]) (rest := []) (lenOf own_pd10 rfl) rfl (by show 2 * 0 + _ ≤ _; exact Nat.le_of_eq rfl) (hb hby at_441) (fun _ _ => ⟨rfl, e15, (by decide : 12 + 0 ≤ _), (by decide : 48 + 0 ≤ _)⟩)
    dsimp only [Pt.U, Pt.locs, Pt.cells, Pt.slots] at X16 l16 y16 z16 st16 hQ16
    subst l16 y16 z16
    obtain ⟨rfl, N16q, e16⟩ := hQ16
    have N16 := Fr.app N15 N16q
    refine own_go (T' := T16) (g' := (mkF m 444 #[.val (.long xa), .second, .val (.long xb), .second, .val (.long xc), .second, .val (.int xn), .val (.int xx), .val (.int (Int32.ofNat N)), .val (.int lo0), .val (.int ln0), .val (.int lo1), .val (.int ln1), .val (.int lo2), .val (.int ln2), .val (.int lo3), .val (.int ln3), .val (.int lo4), .val (.int ln4), .val (.int lo5), .val (.int ln5), .val (.ref yl), .val (.long (2147483648 : Int64)), .second, .val (.long kk5), .second, .val (.long (Int64.ofNat ix)), .second, .val (.ref b6), .val (.ref r8), .val (.long (4294967296 : Int64)), .second, .val (.long (1 : Int64)), .second, .val (.long ss4), .second, .val (.long ss3), .second, .unset, .unset, .unset, .unset, .unset, .unset] [(.long ss2)])) (fun _ k => st16 _ k) ?_
    refine own_go (T' := T16) (g' := (mkF m 446 #[.val (.long xa), .second, .val (.long xb), .second, .val (.long xc), .second, .val (.int xn), .val (.int xx), .val (.int (Int32.ofNat N)), .val (.int lo0), .val (.int ln0), .val (.int lo1), .val (.int ln1), .val (.int lo2), .val (.int ln2), .val (.int lo3), .val (.int ln3), .val (.int lo4), .val (.int ln4), .val (.int lo5), .val (.int ln5), .val (.ref yl), .val (.long (2147483648 : Int64)), .second, .val (.long kk5), .second, .val (.long (Int64.ofNat ix)), .second, .val (.ref b6), .val (.ref r8), .val (.long (4294967296 : Int64)), .second, .val (.long (1 : Int64)), .second, .val (.long ss4), .second, .val (.long ss3), .second, .val (.long ss2), .second, .unset, .unset, .unset, .unset] [])) (fun _ k => XS.lstore X16.here hx rfl (hb hby at_444) rfl (l' := #[.val (.long xa), .second, .val (.long xb), .second, .val (.long xc), .second, .val (.int xn), .val (.int xx), .val (.int (Int32.ofNat N)), .val (.int lo0), .val (.int ln0), .val (.int lo1), .val (.int ln1), .val (.int lo2), .val (.int ln2), .val (.int lo3), .val (.int ln3), .val (.int lo4), .val (.int ln4), .val (.int lo5), .val (.int ln5), .val (.ref yl), .val (.long (2147483648 : Int64)), .second, .val (.long kk5), .second, .val (.long (Int64.ofNat ix)), .second, .val (.ref b6), .val (.ref r8), .val (.long (4294967296 : Int64)), .second, .val (.long (1 : Int64)), .second, .val (.long ss4), .second, .val (.long ss3), .second, .val (.long ss2), .second, .unset, .unset, .unset, .unset]) rfl k) ?_
    refine own_go (T' := T16) (g' := (mkF m 448 #[.val (.long xa), .second, .val (.long xb), .second, .val (.long xc), .second, .val (.int xn), .val (.int xx), .val (.int (Int32.ofNat N)), .val (.int lo0), .val (.int ln0), .val (.int lo1), .val (.int ln1), .val (.int lo2), .val (.int ln2), .val (.int lo3), .val (.int ln3), .val (.int lo4), .val (.int ln4), .val (.int lo5), .val (.int ln5), .val (.ref yl), .val (.long (2147483648 : Int64)), .second, .val (.long kk5), .second, .val (.long (Int64.ofNat ix)), .second, .val (.ref b6), .val (.ref r8), .val (.long (4294967296 : Int64)), .second, .val (.long (1 : Int64)), .second, .val (.long ss4), .second, .val (.long ss3), .second, .val (.long ss2), .second, .unset, .unset, .unset, .unset] [(.long ss2)])) (fun _ k => XS.lload X16.here hx rfl (hb hby at_446) rfl k) ?_
    refine own_go (T' := T16) (g' := (mkF m 450 #[.val (.long xa), .second, .val (.long xb), .second, .val (.long xc), .second, .val (.int xn), .val (.int xx), .val (.int (Int32.ofNat N)), .val (.int lo0), .val (.int ln0), .val (.int lo1), .val (.int ln1), .val (.int lo2), .val (.int ln2), .val (.int lo3), .val (.int ln3), .val (.int lo4), .val (.int ln4), .val (.int lo5), .val (.int ln5), .val (.ref yl), .val (.long (2147483648 : Int64)), .second, .val (.long kk5), .second, .val (.long (Int64.ofNat ix)), .second, .val (.ref b6), .val (.ref r8), .val (.long (4294967296 : Int64)), .second, .val (.long (1 : Int64)), .second, .val (.long ss4), .second, .val (.long ss3), .second, .val (.long ss2), .second, .unset, .unset, .unset, .unset] [(.int ln2), (.long ss2)])) (fun _ k => XS.iload X16.here hx rfl (hb hby at_448) rfl k) ?_
    refine own_go (T' := T16) (g' := (mkF m 452 #[.val (.long xa), .second, .val (.long xb), .second, .val (.long xc), .second, .val (.int xn), .val (.int xx), .val (.int (Int32.ofNat N)), .val (.int lo0), .val (.int ln0), .val (.int lo1), .val (.int ln1), .val (.int lo2), .val (.int ln2), .val (.int lo3), .val (.int ln3), .val (.int lo4), .val (.int ln4), .val (.int lo5), .val (.int ln5), .val (.ref yl), .val (.long (2147483648 : Int64)), .second, .val (.long kk5), .second, .val (.long (Int64.ofNat ix)), .second, .val (.ref b6), .val (.ref r8), .val (.long (4294967296 : Int64)), .second, .val (.long (1 : Int64)), .second, .val (.long ss4), .second, .val (.long ss3), .second, .val (.long ss2), .second, .unset, .unset, .unset, .unset] [(.long (4294967296 : Int64)), (.int ln2), (.long ss2)])) (fun _ k => XS.lload X16.here hx rfl (hb hby at_450) rfl k) ?_
    obtain ⟨_, _, ⟨T17, L17, k17, n17⟩, -, X17, ⟨Lc17, hQ17, l17, y17, z17⟩, st17⟩ := Jvm.LawKit.callS X16 hx (y := (⟨"com/example/benchlight/benchlight/BoundsSubscriptsPinLaw", "mulCap", "(JIJ)J"⟩ : MethodName)) hown (mvT hZ (hw _ (List.mem_of_getElem? (i := 84) rfl))) (mvT hZ (hw _ (List.mem_of_getElem? (i := 85) rfl))) (mvT hZ (hw _ (List.mem_of_getElem? (i := 3) rfl))) (mvT hZ (hw _ (List.mem_of_getElem? (i := 86) rfl))) (by decide) (backOf (W := 0) (own_rMc l Z a0 hw [] ss2 ln2 (4294967296 : Int64) ss1 T8.heap n0 Z8 hss1) hZ (hw _ (List.mem_of_getElem? (i := 86) rfl)) (hw _ (List.mem_of_getElem? (i := 3) rfl)) (by decide) (by decide)) (g := (mkF m 452 #[.val (.long xa), .second, .val (.long xb), .second, .val (.long xc), .second, .val (.int xn), .val (.int xx), .val (.int (Int32.ofNat N)), .val (.int lo0), .val (.int ln0), .val (.int lo1), .val (.int ln1), .val (.int lo2), .val (.int ln2), .val (.int lo3), .val (.int ln3), .val (.int lo4), .val (.int ln4), .val (.int lo5), .val (.int ln5), .val (.ref yl), .val (.long (2147483648 : Int64)), .second, .val (.long kk5), .second, .val (.long (Int64.ofNat ix)), .second, .val (.ref b6), .val (.ref r8), .val (.long (4294967296 : Int64)), .second, .val (.long (1 : Int64)), .second, .val (.long ss4), .second, .val (.long ss3), .second, .val (.long ss2), .second, .unset, .unset, .unset, .unset] [(.long (4294967296 : Int64)), (.int ln2), (.long ss2)])) rfl (by rw [hml]; rfl) (argsL := [(.long ss2), (.int ln2), (.long (4294967296 : Int64))]) (rest := []) (lenOf own_pd10 rfl) rfl (by show 2 * 0 + _ ≤ _; exact Nat.le_of_eq rfl) (hb hby at_452) (fun _ _ => ⟨rfl, e16, (by decide : 12 + 0 ≤ _), (by decide : 48 + 0 ≤ _)⟩)
    dsimp only [Pt.U, Pt.locs, Pt.cells, Pt.slots] at X17 l17 y17 z17 st17 hQ17
    subst l17 y17 z17
    obtain ⟨rfl, N17q, e17⟩ := hQ17
    have N17 := Fr.app N16 N17q
    refine own_go (T' := T17) (g' := (mkF m 455 #[.val (.long xa), .second, .val (.long xb), .second, .val (.long xc), .second, .val (.int xn), .val (.int xx), .val (.int (Int32.ofNat N)), .val (.int lo0), .val (.int ln0), .val (.int lo1), .val (.int ln1), .val (.int lo2), .val (.int ln2), .val (.int lo3), .val (.int ln3), .val (.int lo4), .val (.int ln4), .val (.int lo5), .val (.int ln5), .val (.ref yl), .val (.long (2147483648 : Int64)), .second, .val (.long kk5), .second, .val (.long (Int64.ofNat ix)), .second, .val (.ref b6), .val (.ref r8), .val (.long (4294967296 : Int64)), .second, .val (.long (1 : Int64)), .second, .val (.long ss4), .second, .val (.long ss3), .second, .val (.long ss2), .second, .unset, .unset, .unset, .unset] [(.long ss1)])) (fun _ k => st17 _ k) ?_
    refine own_go (T' := T17) (g' := (mkF m 457 #[.val (.long xa), .second, .val (.long xb), .second, .val (.long xc), .second, .val (.int xn), .val (.int xx), .val (.int (Int32.ofNat N)), .val (.int lo0), .val (.int ln0), .val (.int lo1), .val (.int ln1), .val (.int lo2), .val (.int ln2), .val (.int lo3), .val (.int ln3), .val (.int lo4), .val (.int ln4), .val (.int lo5), .val (.int ln5), .val (.ref yl), .val (.long (2147483648 : Int64)), .second, .val (.long kk5), .second, .val (.long (Int64.ofNat ix)), .second, .val (.ref b6), .val (.ref r8), .val (.long (4294967296 : Int64)), .second, .val (.long (1 : Int64)), .second, .val (.long ss4), .second, .val (.long ss3), .second, .val (.long ss2), .second, .val (.long ss1), .second, .unset, .unset] [])) (fun _ k => XS.lstore X17.here hx rfl (hb hby at_455) rfl (l' := #[.val (.long xa), .second, .val (.long xb), .second, .val (.long xc), .second, .val (.int xn), .val (.int xx), .val (.int (Int32.ofNat N)), .val (.int lo0), .val (.int ln0), .val (.int lo1), .val (.int ln1), .val (.int lo2), .val (.int ln2), .val (.int lo3), .val (.int ln3), .val (.int lo4), .val (.int ln4), .val (.int lo5), .val (.int ln5), .val (.ref yl), .val (.long (2147483648 : Int64)), .second, .val (.long kk5), .second, .val (.long (Int64.ofNat ix)), .second, .val (.ref b6), .val (.ref r8), .val (.long (4294967296 : Int64)), .second, .val (.long (1 : Int64)), .second, .val (.long ss4), .second, .val (.long ss3), .second, .val (.long ss2), .second, .val (.long ss1), .second, .unset, .unset]) rfl k) ?_
    refine own_go (T' := T17) (g' := (mkF m 459 #[.val (.long xa), .second, .val (.long xb), .second, .val (.long xc), .second, .val (.int xn), .val (.int xx), .val (.int (Int32.ofNat N)), .val (.int lo0), .val (.int ln0), .val (.int lo1), .val (.int ln1), .val (.int lo2), .val (.int ln2), .val (.int lo3), .val (.int ln3), .val (.int lo4), .val (.int ln4), .val (.int lo5), .val (.int ln5), .val (.ref yl), .val (.long (2147483648 : Int64)), .second, .val (.long kk5), .second, .val (.long (Int64.ofNat ix)), .second, .val (.ref b6), .val (.ref r8), .val (.long (4294967296 : Int64)), .second, .val (.long (1 : Int64)), .second, .val (.long ss4), .second, .val (.long ss3), .second, .val (.long ss2), .second, .val (.long ss1), .second, .unset, .unset] [(.long ss1)])) (fun _ k => XS.lload X17.here hx rfl (hb hby at_457) rfl k) ?_
    refine own_go (T' := T17) (g' := (mkF m 461 #[.val (.long xa), .second, .val (.long xb), .second, .val (.long xc), .second, .val (.int xn), .val (.int xx), .val (.int (Int32.ofNat N)), .val (.int lo0), .val (.int ln0), .val (.int lo1), .val (.int ln1), .val (.int lo2), .val (.int ln2), .val (.int lo3), .val (.int ln3), .val (.int lo4), .val (.int ln4), .val (.int lo5), .val (.int ln5), .val (.ref yl), .val (.long (2147483648 : Int64)), .second, .val (.long kk5), .second, .val (.long (Int64.ofNat ix)), .second, .val (.ref b6), .val (.ref r8), .val (.long (4294967296 : Int64)), .second, .val (.long (1 : Int64)), .second, .val (.long ss4), .second, .val (.long ss3), .second, .val (.long ss2), .second, .val (.long ss1), .second, .unset, .unset] [(.int ln1), (.long ss1)])) (fun _ k => XS.iload X17.here hx rfl (hb hby at_459) rfl k) ?_
    refine own_go (T' := T17) (g' := (mkF m 463 #[.val (.long xa), .second, .val (.long xb), .second, .val (.long xc), .second, .val (.int xn), .val (.int xx), .val (.int (Int32.ofNat N)), .val (.int lo0), .val (.int ln0), .val (.int lo1), .val (.int ln1), .val (.int lo2), .val (.int ln2), .val (.int lo3), .val (.int ln3), .val (.int lo4), .val (.int ln4), .val (.int lo5), .val (.int ln5), .val (.ref yl), .val (.long (2147483648 : Int64)), .second, .val (.long kk5), .second, .val (.long (Int64.ofNat ix)), .second, .val (.ref b6), .val (.ref r8), .val (.long (4294967296 : Int64)), .second, .val (.long (1 : Int64)), .second, .val (.long ss4), .second, .val (.long ss3), .second, .val (.long ss2), .second, .val (.long ss1), .second, .unset, .unset] [(.long (4294967296 : Int64)), (.int ln1), (.long ss1)])) (fun _ k => XS.lload X17.here hx rfl (hb hby at_461) rfl k) ?_
    obtain ⟨_, _, ⟨T18, L18, k18, n18⟩, -, X18, ⟨Lc18, hQ18, l18, y18, z18⟩, st18⟩ := Jvm.LawKit.callS X17 hx (y := (⟨"com/example/benchlight/benchlight/BoundsSubscriptsPinLaw", "mulCap", "(JIJ)J"⟩ : MethodName)) hown (mvT hZ (hw _ (List.mem_of_getElem? (i := 84) rfl))) (mvT hZ (hw _ (List.mem_of_getElem? (i := 85) rfl))) (mvT hZ (hw _ (List.mem_of_getElem? (i := 3) rfl))) (mvT hZ (hw _ (List.mem_of_getElem? (i := 86) rfl))) (by decide) (backOf (W := 0) (own_rMc l Z a0 hw [] ss1 ln1 (4294967296 : Int64) ss0 T8.heap n0 Z8 hss0) hZ (hw _ (List.mem_of_getElem? (i := 86) rfl)) (hw _ (List.mem_of_getElem? (i := 3) rfl)) (by decide) (by decide)) (g := (mkF m 463 #[.val (.long xa), .second, .val (.long xb), .second, .val (.long xc), .second, .val (.int xn), .val (.int xx), .val (.int (Int32.ofNat N)), .val (.int lo0), .val (.int ln0), .val (.int lo1), .val (.int ln1), .val (.int lo2), .val (.int ln2), .val (.int lo3), .val (.int ln3), .val (.int lo4), .val (.int ln4), .val (.int lo5), .val (.int ln5), .val (.ref yl), .val (.long (2147483648 : Int64)), .second, .val (.long kk5), .second, .val (.long (Int64.ofNat ix)), .second, .val (.ref b6), .val (.ref r8), .val (.long (4294967296 : Int64)), .second, .val (.long (1 : Int64)), .second, .val (.long ss4), .second, .val (.long ss3), .second, .val (.long ss2), .second, .val (.long ss1), .second, .unset, .unset] [(.long (4294967296 : Int64)), (.int ln1), (.long ss1)])) rfl (by rw [hml]; rfl) (argsL := [(.long ss1), (.int ln1), (.long (4294967296 : Int64))]) (rest := []) (lenOf own_pd10 rfl) rfl (by show 2 * 0 + _ ≤ _; exact Nat.le_of_eq rfl) (hb hby at_463) (fun _ _ => ⟨rfl, e17, (by decide : 12 + 0 ≤ _), (by decide : 48 + 0 ≤ _)⟩)
    dsimp only [Pt.U, Pt.locs, Pt.cells, Pt.slots] at X18 l18 y18 z18 st18 hQ18
    subst l18 y18 z18
    obtain ⟨rfl, N18q, e18⟩ := hQ18
    have N18 := Fr.app N17 N18q
    refine own_go (T' := T18) (g' := (mkF m 466 #[.val (.long xa), .second, .val (.long xb), .second, .val (.long xc), .second, .val (.int xn), .val (.int xx), .val (.int (Int32.ofNat N)), .val (.int lo0), .val (.int ln0), .val (.int lo1), .val (.int ln1), .val (.int lo2), .val (.int ln2), .val (.int lo3), .val (.int ln3), .val (.int lo4), .val (.int ln4), .val (.int lo5), .val (.int ln5), .val (.ref yl), .val (.long (2147483648 : Int64)), .second, .val (.long kk5), .second, .val (.long (Int64.ofNat ix)), .second, .val (.ref b6), .val (.ref r8), .val (.long (4294967296 : Int64)), .second, .val (.long (1 : Int64)), .second, .val (.long ss4), .second, .val (.long ss3), .second, .val (.long ss2), .second, .val (.long ss1), .second, .unset, .unset] [(.long ss0)])) (fun _ k => st18 _ k) ?_
    refine own_go (T' := T18) (g' := (mkF m 468 #[.val (.long xa), .second, .val (.long xb), .second, .val (.long xc), .second, .val (.int xn), .val (.int xx), .val (.int (Int32.ofNat N)), .val (.int lo0), .val (.int ln0), .val (.int lo1), .val (.int ln1), .val (.int lo2), .val (.int ln2), .val (.int lo3), .val (.int ln3), .val (.int lo4), .val (.int ln4), .val (.int lo5), .val (.int ln5), .val (.ref yl), .val (.long (2147483648 : Int64)), .second, .val (.long kk5), .second, .val (.long (Int64.ofNat ix)), .second, .val (.ref b6), .val (.ref r8), .val (.long (4294967296 : Int64)), .second, .val (.long (1 : Int64)), .second, .val (.long ss4), .second, .val (.long ss3), .second, .val (.long ss2), .second, .val (.long ss1), .second, .val (.long ss0), .second] [])) (fun _ k => XS.lstore X18.here hx rfl (hb hby at_466) rfl (l' := #[.val (.long xa), .second, .val (.long xb), .second, .val (.long xc), .second, .val (.int xn), .val (.int xx), .val (.int (Int32.ofNat N)), .val (.int lo0), .val (.int ln0), .val (.int lo1), .val (.int ln1), .val (.int lo2), .val (.int ln2), .val (.int lo3), .val (.int ln3), .val (.int lo4), .val (.int ln4), .val (.int lo5), .val (.int ln5), .val (.ref yl), .val (.long (2147483648 : Int64)), .second, .val (.long kk5), .second, .val (.long (Int64.ofNat ix)), .second, .val (.ref b6), .val (.ref r8), .val (.long (4294967296 : Int64)), .second, .val (.long (1 : Int64)), .second, .val (.long ss4), .second, .val (.long ss3), .second, .val (.long ss2), .second, .val (.long ss1), .second, .val (.long ss0), .second]) rfl k) ?_
    refine own_go (T' := T18) (g' := (mkF m 470 #[.val (.long xa), .second, .val (.long xb), .second, .val (.long xc), .second, .val (.int xn), .val (.int xx), .val (.int (Int32.ofNat N)), .val (.int lo0), .val (.int ln0), .val (.int lo1), .val (.int ln1), .val (.int lo2), .val (.int ln2), .val (.int lo3), .val (.int ln3), .val (.int lo4), .val (.int ln4), .val (.int lo5), .val (.int ln5), .val (.ref yl), .val (.long (2147483648 : Int64)), .second, .val (.long kk5), .second, .val (.long (Int64.ofNat ix)), .second, .val (.ref b6), .val (.ref r8), .val (.long (4294967296 : Int64)), .second, .val (.long (1 : Int64)), .second, .val (.long ss4), .second, .val (.long ss3), .second, .val (.long ss2), .second, .val (.long ss1), .second, .val (.long ss0), .second] [(.ref r8)])) (fun _ k => XS.aload X18.here hx rfl (hb hby at_468) rfl rfl k) ?_
    refine own_go (T' := T18) (g' := (mkF m 471 #[.val (.long xa), .second, .val (.long xb), .second, .val (.long xc), .second, .val (.int xn), .val (.int xx), .val (.int (Int32.ofNat N)), .val (.int lo0), .val (.int ln0), .val (.int lo1), .val (.int ln1), .val (.int lo2), .val (.int ln2), .val (.int lo3), .val (.int ln3), .val (.int lo4), .val (.int ln4), .val (.int lo5), .val (.int ln5), .val (.ref yl), .val (.long (2147483648 : Int64)), .second, .val (.long kk5), .second, .val (.long (Int64.ofNat ix)), .second, .val (.ref b6), .val (.ref r8), .val (.long (4294967296 : Int64)), .second, .val (.long (1 : Int64)), .second, .val (.long ss4), .second, .val (.long ss3), .second, .val (.long ss2), .second, .val (.long ss1), .second, .val (.long ss0), .second] [(.int (Int32.ofNat N))])) (fun _ k => own_alen X18 hx hZ e18 Vrc8 (g := (mkF m 470 #[.val (.long xa), .second, .val (.long xb), .second, .val (.long xc), .second, .val (.int xn), .val (.int xx), .val (.int (Int32.ofNat N)), .val (.int lo0), .val (.int ln0), .val (.int lo1), .val (.int ln1), .val (.int lo2), .val (.int ln2), .val (.int lo3), .val (.int ln3), .val (.int lo4), .val (.int ln4), .val (.int lo5), .val (.int ln5), .val (.ref yl), .val (.long (2147483648 : Int64)), .second, .val (.long kk5), .second, .val (.long (Int64.ofNat ix)), .second, .val (.ref b6), .val (.ref r8), .val (.long (4294967296 : Int64)), .second, .val (.long (1 : Int64)), .second, .val (.long ss4), .second, .val (.long ss3), .second, .val (.long ss2), .second, .val (.long ss1), .second, .val (.long ss0), .second] [(.ref r8)])) rfl rfl (hb hby at_470) (n := (Int32.ofNat N)) own_rl k) ?_
    refine own_go (T' := T18) (g' := (mkF m 473 #[.val (.long xa), .second, .val (.long xb), .second, .val (.long xc), .second, .val (.int xn), .val (.int xx), .val (.int (Int32.ofNat N)), .val (.int lo0), .val (.int ln0), .val (.int lo1), .val (.int ln1), .val (.int lo2), .val (.int ln2), .val (.int lo3), .val (.int ln3), .val (.int lo4), .val (.int ln4), .val (.int lo5), .val (.int ln5), .val (.ref yl), .val (.long (2147483648 : Int64)), .second, .val (.long kk5), .second, .val (.long (Int64.ofNat ix)), .second, .val (.ref b6), .val (.ref r8), .val (.long (4294967296 : Int64)), .second, .val (.long (1 : Int64)), .second, .val (.long ss4), .second, .val (.long ss3), .second, .val (.long ss2), .second, .val (.long ss1), .second, .val (.long ss0), .second] [(.int (Int32.ofNat N)), (.int (Int32.ofNat N))])) (fun _ k => XS.iload X18.here hx rfl (hb hby at_471) rfl k) ?_
    refine own_go (T' := T18) (g' := (mkF m 476 #[.val (.long xa), .second, .val (.long xb), .second, .val (.long xc), .second, .val (.int xn), .val (.int xx), .val (.int (Int32.ofNat N)), .val (.int lo0), .val (.int ln0), .val (.int lo1), .val (.int ln1), .val (.int lo2), .val (.int ln2), .val (.int lo3), .val (.int ln3), .val (.int lo4), .val (.int ln4), .val (.int lo5), .val (.int ln5), .val (.ref yl), .val (.long (2147483648 : Int64)), .second, .val (.long kk5), .second, .val (.long (Int64.ofNat ix)), .second, .val (.ref b6), .val (.ref r8), .val (.long (4294967296 : Int64)), .second, .val (.long (1 : Int64)), .second, .val (.long ss4), .second, .val (.long ss3), .second, .val (.long ss2), .second, .val (.long ss1), .second, .val (.long ss0), .second] [])) (fun _ k => XS.icmpNo X18.here hx rfl (hb hby at_473) rfl (teq (rfl : (Int32.ofNat N) = (Int32.ofNat N))).2 k) ?_
    refine own_go (T' := T18) (g' := (mkF m 478 #[.val (.long xa), .second, .val (.long xb), .second, .val (.long xc), .second, .val (.int xn), .val (.int xx), .val (.int (Int32.ofNat N)), .val (.int lo0), .val (.int ln0), .val (.int lo1), .val (.int ln1), .val (.int lo2), .val (.int ln2), .val (.int lo3), .val (.int ln3), .val (.int lo4), .val (.int ln4), .val (.int lo5), .val (.int ln5), .val (.ref yl), .val (.long (2147483648 : Int64)), .second, .val (.long kk5), .second, .val (.long (Int64.ofNat ix)), .second, .val (.ref b6), .val (.ref r8), .val (.long (4294967296 : Int64)), .second, .val (.long (1 : Int64)), .second, .val (.long ss4), .second, .val (.long ss3), .second, .val (.long ss2), .second, .val (.long ss1), .second, .val (.long ss0), .second] [(.ref r8)])) (fun _ k => XS.aload X18.here hx rfl (hb hby at_476) rfl rfl k) ?_
    refine own_go (T' := T18) (g' := (mkF m 479 #[.val (.long xa), .second, .val (.long xb), .second, .val (.long xc), .second, .val (.int xn), .val (.int xx), .val (.int (Int32.ofNat N)), .val (.int lo0), .val (.int ln0), .val (.int lo1), .val (.int ln1), .val (.int lo2), .val (.int ln2), .val (.int lo3), .val (.int ln3), .val (.int lo4), .val (.int ln4), .val (.int lo5), .val (.int ln5), .val (.ref yl), .val (.long (2147483648 : Int64)), .second, .val (.long kk5), .second, .val (.long (Int64.ofNat ix)), .second, .val (.ref b6), .val (.ref r8), .val (.long (4294967296 : Int64)), .second, .val (.long (1 : Int64)), .second, .val (.long ss4), .second, .val (.long ss3), .second, .val (.long ss2), .second, .val (.long ss1), .second, .val (.long ss0), .second] [(.int (0 : Int32)), (.ref r8)])) (fun _ k => XS.iconst X18.here hx rfl (hb hby at_478) k) ?_
    refine own_go (T' := T18) (g' := (mkF m 481 #[.val (.long xa), .second, .val (.long xb), .second, .val (.long xc), .second, .val (.int xn), .val (.int xx), .val (.int (Int32.ofNat N)), .val (.int lo0), .val (.int ln0), .val (.int lo1), .val (.int ln1), .val (.int lo2), .val (.int ln2), .val (.int lo3), .val (.int ln3), .val (.int lo4), .val (.int ln4), .val (.int lo5), .val (.int ln5), .val (.ref yl), .val (.long (2147483648 : Int64)), .second, .val (.long kk5), .second, .val (.long (Int64.ofNat ix)), .second, .val (.ref b6), .val (.ref r8), .val (.long (4294967296 : Int64)), .second, .val (.long (1 : Int64)), .second, .val (.long ss4), .second, .val (.long ss3), .second, .val (.long ss2), .second, .val (.long ss1), .second, .val (.long ss0), .second] [(.int (Int32.ofNat N)), (.int (0 : Int32)), (.ref r8)])) (fun _ k => XS.iload X18.here hx rfl (hb hby at_479) rfl k) ?_
    refine own_go (T' := T18) (g' := (mkF m 483 #[.val (.long xa), .second, .val (.long xb), .second, .val (.long xc), .second, .val (.int xn), .val (.int xx), .val (.int (Int32.ofNat N)), .val (.int lo0), .val (.int ln0), .val (.int lo1), .val (.int ln1), .val (.int lo2), .val (.int ln2), .val (.int lo3), .val (.int ln3), .val (.int lo4), .val (.int ln4), .val (.int lo5), .val (.int ln5), .val (.ref yl), .val (.long (2147483648 : Int64)), .second, .val (.long kk5), .second, .val (.long (Int64.ofNat ix)), .second, .val (.ref b6), .val (.ref r8), .val (.long (4294967296 : Int64)), .second, .val (.long (1 : Int64)), .second, .val (.long ss4), .second, .val (.long ss3), .second, .val (.long ss2), .second, .val (.long ss1), .second, .val (.long ss0), .second] [(.int lo0), (.int (Int32.ofNat N)), (.int (0 : Int32)), (.ref r8)])) (fun _ k => XS.iload X18.here hx rfl (hb hby at_481) rfl k) ?_
    refine own_go (T' := T18) (g' := (mkF m 485 #[.val (.long xa), .second, .val (.long xb), .second, .val (.long xc), .second, .val (.int xn), .val (.int xx), .val (.int (Int32.ofNat N)), .val (.int lo0), .val (.int ln0), .val (.int lo1), .val (.int ln1), .val (.int lo2), .val (.int ln2), .val (.int lo3), .val (.int ln3), .val (.int lo4), .val (.int ln4), .val (.int lo5), .val (.int ln5), .val (.ref yl), .val (.long (2147483648 : Int64)), .second, .val (.long kk5), .second, .val (.long (Int64.ofNat ix)), .second, .val (.ref b6), .val (.ref r8), .val (.long (4294967296 : Int64)), .second, .val (.long (1 : Int64)), .second, .val (.long ss4), .second, .val (.long ss3), .second, .val (.long ss2), .second, .val (.long ss1), .second, .val (.long ss0), .second] [(.int ln0), (.int lo0), (.int (Int32.ofNat N)), (.int (0 : Int32)), (.ref r8)])) (fun _ k => XS.iload X18.here hx rfl (hb hby at_483) rfl k) ?_
    refine own_go (T' := T18) (g' := (mkF m 487 #[.val (.long xa), .second, .val (.long xb), .second, .val (.long xc), .second, .val (.int xn), .val (.int xx), .val (.int (Int32.ofNat N)), .val (.int lo0), .val (.int ln0), .val (.int lo1), .val (.int ln1), .val (.int lo2), .val (.int ln2), .val (.int lo3), .val (.int ln3), .val (.int lo4), .val (.int ln4), .val (.int lo5), .val (.int ln5), .val (.ref yl), .val (.long (2147483648 : Int64)), .second, .val (.long kk5), .second, .val (.long (Int64.ofNat ix)), .second, .val (.ref b6), .val (.ref r8), .val (.long (4294967296 : Int64)), .second, .val (.long (1 : Int64)), .second, .val (.long ss4), .second, .val (.long ss3), .second, .val (.long ss2), .second, .val (.long ss1), .second, .val (.long ss0), .second] [(.long ss0), (.int ln0), (.int lo0), (.int (Int32.ofNat N)), (.int (0 : Int32)), (.ref r8)])) (fun _ k => XS.lload X18.here hx rfl (hb hby at_485) rfl k) ?_
    refine own_go (T' := T18) (g' := (mkF m 489 #[.val (.long xa), .second, .val (.long xb), .second, .val (.long xc), .second, .val (.int xn), .val (.int xx), .val (.int (Int32.ofNat N)), .val (.int lo0), .val (.int ln0), .val (.int lo1), .val (.int ln1), .val (.int lo2), .val (.int ln2), .val (.int lo3), .val (.int ln3), .val (.int lo4), .val (.int ln4), .val (.int lo5), .val (.int ln5), .val (.ref yl), .val (.long (2147483648 : Int64)), .second, .val (.long kk5), .second, .val (.long (Int64.ofNat ix)), .second, .val (.ref b6), .val (.ref r8), .val (.long (4294967296 : Int64)), .second, .val (.long (1 : Int64)), .second, .val (.long ss4), .second, .val (.long ss3), .second, .val (.long ss2), .second, .val (.long ss1), .second, .val (.long ss0), .second] [(.long (Int64.ofNat ix)), (.long ss0), (.int ln0), (.int lo0), (.int (Int32.ofNat N)), (.int (0 : Int32)), (.ref r8)])) (fun _ k => XS.lload X18.here hx rfl (hb hby at_487) rfl k) ?_
    obtain ⟨_, _, ⟨T19, L19, k19, n19⟩, -, X19, ⟨Lc19, hQ19, l19, y19, z19⟩, st19⟩ := Jvm.LawKit.callS X18 hx (y := (⟨"com/example/benchlight/benchlight/BoundsSubscriptsPinLaw", "digit", "([DIIIIJJ)Z"⟩ : MethodName)) hown (mvT hZ (hw _ (List.mem_of_getElem? (i := 160) rfl))) (mvT hZ (hw _ (List.mem_of_getElem? (i := 161) rfl))) (mvT hZ (hw _ (List.mem_of_getElem? (i := 3) rfl))) (mvT hZ (hw _ (List.mem_of_getElem? (i := 162) rfl))) (by decide) (backOf (W := 0) (own_rDg l Z a0 hw [] r8 (0 : Int32) (Int32.ofNat N) lo0 ln0 ss0 (Int64.ofNat ix) kr8 ((List.range N).map (own_dn (fun j => FP.i2d (own_w ix (own_l6 lo0 lo1 lo2 lo3 lo4 lo5) (own_l6 ln0 ln1 ln2 ln3 ln4 ln5) j)) 0)) (own_w ix (own_l6 lo0 lo1 lo2 lo3 lo4 lo5) (own_l6 ln0 ln1 ln2 ln3 ln4 ln5) 0) T8.heap n0 Z8 Vrc8 (own_hD (k := 0) (lo := (own_l6 lo0 lo1 lo2 lo3 lo4 lo5)) (ln := (own_l6 ln0 ln1 ln2 ln3 ln4 ln5)) rfl (by decide) hN6 hi31 rlo rln rs0)) hZ (hw _ (List.mem_of_getElem? (i := 162) rfl)) (hw _ (List.mem_of_getElem? (i := 3) rfl)) (by decide) (by decide)) (g := (mkF m 489 #[.val (.long xa), .second, .val (.long xb), .second, .val (.long xc), .second, .val (.int xn), .val (.int xx), .val (.int (Int32.ofNat N)), .val (.int lo0), .val (.int ln0), .val (.int lo1), .val (.int ln1), .val (.int lo2), .val (.int ln2), .val (.int lo3), .val (.int ln3), .val (.int lo4), .val (.int ln4), .val (.int lo5), .val (.int ln5), .val (.ref yl), .val (.long (2147483648 : Int64)), .second, .val (.long kk5), .second, .val (.long (Int64.ofNat ix)), .second, .val (.ref b6), .val (.ref r8), .val (.long (4294967296 : Int64)), .second, .val (.long (1 : Int64)), .second, .val (.long ss4), .second, .val (.long ss3), .second, .val (.long ss2), .second, .val (.long ss1), .second, .val (.long ss0), .second] [(.long (Int64.ofNat ix)), (.long ss0), (.int ln0), (.int lo0), (.int (Int32.ofNat N)), (.int (0 : Int32)), (.ref r8)])) rfl (by rw [hml]; rfl) (argsL := [(.ref r8), (.int (0 : Int32)), (.int (Int32.ofNat N)), (.int lo0), (.int ln0), (.long ss0), (.long (Int64.ofNat ix))]) (rest := []) (lenOf own_pd13 rfl) rfl (by show 2 * 0 + _ ≤ _; exact Nat.le_of_eq rfl) (hb hby at_489) (fun _ _ => ⟨rfl, e18, (by decide : 12 + 0 ≤ _), (by decide : 48 + 0 ≤ _)⟩)
    dsimp only [Pt.U, Pt.locs, Pt.cells, Pt.slots] at X19 l19 y19 z19 st19 hQ19
    subst l19 y19 z19
    obtain ⟨rfl, N19q, e19⟩ := hQ19
    have N19 := Fr.app N18 N19q
    refine own_go (T' := T19) (g' := (mkF m 492 #[.val (.long xa), .second, .val (.long xb), .second, .val (.long xc), .second, .val (.int xn), .val (.int xx), .val (.int (Int32.ofNat N)), .val (.int lo0), .val (.int ln0), .val (.int lo1), .val (.int ln1), .val (.int lo2), .val (.int ln2), .val (.int lo3), .val (.int ln3), .val (.int lo4), .val (.int ln4), .val (.int lo5), .val (.int ln5), .val (.ref yl), .val (.long (2147483648 : Int64)), .second, .val (.long kk5), .second, .val (.long (Int64.ofNat ix)), .second, .val (.ref b6), .val (.ref r8), .val (.long (4294967296 : Int64)), .second, .val (.long (1 : Int64)), .second, .val (.long ss4), .second, .val (.long ss3), .second, .val (.long ss2), .second, .val (.long ss1), .second, .val (.long ss0), .second] [(.int (1 : Int32))])) (fun _ k => st19 _ k) ?_
    refine own_go (T' := T19) (g' := (mkF m 495 #[.val (.long xa), .second, .val (.long xb), .second, .val (.long xc), .second, .val (.int xn), .val (.int xx), .val (.int (Int32.ofNat N)), .val (.int lo0), .val (.int ln0), .val (.int lo1), .val (.int ln1), .val (.int lo2), .val (.int ln2), .val (.int lo3), .val (.int ln3), .val (.int lo4), .val (.int ln4), .val (.int lo5), .val (.int ln5), .val (.ref yl), .val (.long (2147483648 : Int64)), .second, .val (.long kk5), .second, .val (.long (Int64.ofNat ix)), .second, .val (.ref b6), .val (.ref r8), .val (.long (4294967296 : Int64)), .second, .val (.long (1 : Int64)), .second, .val (.long ss4), .second, .val (.long ss3), .second, .val (.long ss2), .second, .val (.long ss1), .second, .val (.long ss0), .second] [])) (fun _ k => XS.ifNo X19.here hx rfl (hb hby at_492) rfl ((if0 _ _).trans (feq ((by decide) : ¬ ((1 : Int32) = (0 : Int32)))).1) k) ?_
    refine own_go (T' := T19) (g' := (mkF m 497 #[.val (.long xa), .second, .val (.long xb), .second, .val (.long xc), .second, .val (.int xn), .val (.int xx), .val (.int (Int32.ofNat N)), .val (.int lo0), .val (.int ln0), .val (.int lo1), .val (.int ln1), .val (.int lo2), .val (.int ln2), .val (.int lo3), .val (.int ln3), .val (.int lo4), .val (.int ln4), .val (.int lo5), .val (.int ln5), .val (.ref yl), .val (.long (2147483648 : Int64)), .second, .val (.long kk5), .second, .val (.long (Int64.ofNat ix)), .second, .val (.ref b6), .val (.ref r8), .val (.long (4294967296 : Int64)), .second, .val (.long (1 : Int64)), .second, .val (.long ss4), .second, .val (.long ss3), .second, .val (.long ss2), .second, .val (.long ss1), .second, .val (.long ss0), .second] [(.ref r8)])) (fun _ k => XS.aload X19.here hx rfl (hb hby at_495) rfl rfl k) ?_
    refine own_go (T' := T19) (g' := (mkF m 498 #[.val (.long xa), .second, .val (.long xb), .second, .val (.long xc), .second, .val (.int xn), .val (.int xx), .val (.int (Int32.ofNat N)), .val (.int lo0), .val (.int ln0), .val (.int lo1), .val (.int ln1), .val (.int lo2), .val (.int ln2), .val (.int lo3), .val (.int ln3), .val (.int lo4), .val (.int ln4), .val (.int lo5), .val (.int ln5), .val (.ref yl), .val (.long (2147483648 : Int64)), .second, .val (.long kk5), .second, .val (.long (Int64.ofNat ix)), .second, .val (.ref b6), .val (.ref r8), .val (.long (4294967296 : Int64)), .second, .val (.long (1 : Int64)), .second, .val (.long ss4), .second, .val (.long ss3), .second, .val (.long ss2), .second, .val (.long ss1), .second, .val (.long ss0), .second] [(.int (1 : Int32)), (.ref r8)])) (fun _ k => XS.iconst X19.here hx rfl (hb hby at_497) k) ?_
    refine own_go (T' := T19) (g' := (mkF m 500 #[.val (.long xa), .second, .val (.long xb), .second, .val (.long xc), .second, .val (.int xn), .val (.int xx), .val (.int (Int32.ofNat N)), .val (.int lo0), .val (.int ln0), .val (.int lo1), .val (.int ln1), .val (.int lo2), .val (.int ln2), .val (.int lo3), .val (.int ln3), .val (.int lo4), .val (.int ln4), .val (.int lo5), .val (.int ln5), .val (.ref yl), .val (.long (2147483648 : Int64)), .second, .val (.long kk5), .second, .val (.long (Int64.ofNat ix)), .second, .val (.ref b6), .val (.ref r8), .val (.long (4294967296 : Int64)), .second, .val (.long (1 : Int64)), .second, .val (.long ss4), .second, .val (.long ss3), .second, .val (.long ss2), .second, .val (.long ss1), .second, .val (.long ss0), .second] [(.int (Int32.ofNat N)), (.int (1 : Int32)), (.ref r8)])) (fun _ k => XS.iload X19.here hx rfl (hb hby at_498) rfl k) ?_
    refine own_go (T' := T19) (g' := (mkF m 502 #[.val (.long xa), .second, .val (.long xb), .second, .val (.long xc), .second, .val (.int xn), .val (.int xx), .val (.int (Int32.ofNat N)), .val (.int lo0), .val (.int ln0), .val (.int lo1), .val (.int ln1), .val (.int lo2), .val (.int ln2), .val (.int lo3), .val (.int ln3), .val (.int lo4), .val (.int ln4), .val (.int lo5), .val (.int ln5), .val (.ref yl), .val (.long (2147483648 : Int64)), .second, .val (.long kk5), .second, .val (.long (Int64.ofNat ix)), .second, .val (.ref b6), .val (.ref r8), .val (.long (4294967296 : Int64)), .second, .val (.long (1 : Int64)), .second, .val (.long ss4), .second, .val (.long ss3), .second, .val (.long ss2), .second, .val (.long ss1), .second, .val (.long ss0), .second] [(.int lo1), (.int (Int32.ofNat N)), (.int (1 : Int32)), (.ref r8)])) (fun _ k => XS.iload X19.here hx rfl (hb hby at_500) rfl k) ?_
    refine own_go (T' := T19) (g' := (mkF m 504 #[.val (.long xa), .second, .val (.long xb), .second, .val (.long xc), .second, .val (.int xn), .val (.int xx), .val (.int (Int32.ofNat N)), .val (.int lo0), .val (.int ln0), .val (.int lo1), .val (.int ln1), .val (.int lo2), .val (.int ln2), .val (.int lo3), .val (.int ln3), .val (.int lo4), .val (.int ln4), .val (.int lo5), .val (.int ln5), .val (.ref yl), .val (.long (2147483648 : Int64)), .second, .val (.long kk5), .second, .val (.long (Int64.ofNat ix)), .second, .val (.ref b6), .val (.ref r8), .val (.long (4294967296 : Int64)), .second, .val (.long (1 : Int64)), .second, .val (.long ss4), .second, .val (.long ss3), .second, .val (.long ss2), .second, .val (.long ss1), .second, .val (.long ss0), .second] [(.int ln1), (.int lo1), (.int (Int32.ofNat N)), (.int (1 : Int32)), (.ref r8)])) (fun _ k => XS.iload X19.here hx rfl (hb hby at_502) rfl k) ?_
    refine own_go (T' := T19) (g' := (mkF m 506 #[.val (.long xa), .second, .val (.long xb), .second, .val (.long xc), .second, .val (.int xn), .val (.int xx), .val (.int (Int32.ofNat N)), .val (.int lo0), .val (.int ln0), .val (.int lo1), .val (.int ln1), .val (.int lo2), .val (.int ln2), .val (.int lo3), .val (.int ln3), .val (.int lo4), .val (.int ln4), .val (.int lo5), .val (.int ln5), .val (.ref yl), .val (.long (2147483648 : Int64)), .second, .val (.long kk5), .second, .val (.long (Int64.ofNat ix)), .second, .val (.ref b6), .val (.ref r8), .val (.long (4294967296 : Int64)), .second, .val (.long (1 : Int64)), .second, .val (.long ss4), .second, .val (.long ss3), .second, .val (.long ss2), .second, .val (.long ss1), .second, .val (.long ss0), .second] [(.long ss1), (.int ln1), (.int lo1), (.int (Int32.ofNat N)), (.int (1 : Int32)), (.ref r8)])) (fun _ k => XS.lload X19.here hx rfl (hb hby at_504) rfl k) ?_
    refine own_go (T' := T19) (g' := (mkF m 508 #[.val (.long xa), .second, .val (.long xb), .second, .val (.long xc), .second, .val (.int xn), .val (.int xx), .val (.int (Int32.ofNat N)), .val (.int lo0), .val (.int ln0), .val (.int lo1), .val (.int ln1), .val (.int lo2), .val (.int ln2), .val (.int lo3), .val (.int ln3), .val (.int lo4), .val (.int ln4), .val (.int lo5), .val (.int ln5), .val (.ref yl), .val (.long (2147483648 : Int64)), .second, .val (.long kk5), .second, .val (.long (Int64.ofNat ix)), .second, .val (.ref b6), .val (.ref r8), .val (.long (4294967296 : Int64)), .second, .val (.long (1 : Int64)), .second, .val (.long ss4), .second, .val (.long ss3), .second, .val (.long ss2), .second, .val (.long ss1), .second, .val (.long ss0), .second] [(.long (Int64.ofNat ix)), (.long ss1), (.int ln1), (.int lo1), (.int (Int32.ofNat N)), (.int (1 : Int32)), (.ref r8)])) (fun _ k => XS.lload X19.here hx rfl (hb hby at_506) rfl k) ?_
    obtain ⟨_, _, ⟨T20, L20, k20, n20⟩, -, X20, ⟨Lc20, hQ20, l20, y20, z20⟩, st20⟩ := Jvm.LawKit.callS X19 hx (y := (⟨"com/example/benchlight/benchlight/BoundsSubscriptsPinLaw", "digit", "([DIIIIJJ)Z"⟩ : MethodName)) hown (mvT hZ (hw _ (List.mem_of_getElem? (i := 160) rfl))) (mvT hZ (hw _ (List.mem_of_getElem? (i := 161) rfl))) (mvT hZ (hw _ (List.mem_of_getElem? (i := 3) rfl))) (mvT hZ (hw _ (List.mem_of_getElem? (i := 162) rfl))) (by decide) (backOf (W := 0) (own_rDg l Z a0 hw [] r8 (1 : Int32) (Int32.ofNat N) lo1 ln1 ss1 (Int64.ofNat ix) kr8 ((List.range N).map (own_dn (fun j => FP.i2d (own_w ix (own_l6 lo0 lo1 lo2 lo3 lo4 lo5) (own_l6 ln0 ln1 ln2 ln3 ln4 ln5) j)) 0)) (own_w ix (own_l6 lo0 lo1 lo2 lo3 lo4 lo5) (own_l6 ln0 ln1 ln2 ln3 ln4 ln5) 1) T8.heap n0 Z8 Vrc8 (own_hD (k := 1) (lo := (own_l6 lo0 lo1 lo2 lo3 lo4 lo5)) (ln := (own_l6 ln0 ln1 ln2 ln3 ln4 ln5)) rfl (by decide) hN6 hi31 rlo rln rs1)) hZ (hw _ (List.mem_of_getElem? (i := 162) rfl)) (hw _ (List.mem_of_getElem? (i := 3) rfl)) (by decide) (by decide)) (g := (mkF m 508 #[.val (.long xa), .second, .val (.long xb), .second, .val (.long xc), .second, .val (.int xn), .val (.int xx), .val (.int (Int32.ofNat N)), .val (.int lo0), .val (.int ln0), .val (.int lo1), .val (.int ln1), .val (.int lo2), .val (.int ln2), .val (.int lo3), .val (.int ln3), .val (.int lo4), .val (.int ln4), .val (.int lo5), .val (.int ln5), .val (.ref yl), .val (.long (2147483648 : Int64)), .second, .val (.long kk5), .second, .val (.long (Int64.ofNat ix)), .second, .val (.ref b6), .val (.ref r8), .val (.long (4294967296 : Int64)), .second, .val (.long (1 : Int64)), .second, .val (.long ss4), .second, .val (.long ss3), .second, .val (.long ss2), .second, .val (.long ss1), .second, .val (.long ss0), .second] [(.long (Int64.ofNat ix)), (.long ss1), (.int ln1), (.int lo1), (.int (Int32.ofNat N)), (.int (1 : Int32)), (.ref r8)])) rfl (by rw [hml]; rfl) (argsL := [(.ref r8), (.int (1 : Int32)), (.int (Int32.ofNat N)), (.int lo1), (.int ln1), (.long ss1), (.long (Int64.ofNat ix))]) (rest := []) (lenOf own_pd13 rfl) rfl (by show 2 * 0 + _ ≤ _; exact Nat.le_of_eq rfl) (hb hby at_508) (fun _ _ => ⟨rfl, e19, (by decide : 12 + 0 ≤ _), (by decide : 48 + 0 ≤ _)⟩)
    dsimp only [Pt.U, Pt.locs, Pt.cells, Pt.slots] at X20 l20 y20 z20 st20 hQ20
    subst l20 y20 z20
    obtain ⟨rfl, N20q, e20⟩ := hQ20
    have N20 := Fr.app N19 N20q
    refine own_go (T' := T20) (g' := (mkF m 511 #[.val (.long xa), .second, .val (.long xb), .second, .val (.long xc), .second, .val (.int xn), .val (.int xx), .val (.int (Int32.ofNat N)), .val (.int lo0), .val (.int ln0), .val (.int lo1), .val (.int ln1), .val (.int lo2), .val (.int ln2), .val (.int lo3), .val (.int ln3), .val (.int lo4), .val (.int ln4), .val (.int lo5), .val (.int ln5), .val (.ref yl), .val (.long (2147483648 : Int64)), .second, .val (.long kk5), .second, .val (.long (Int64.ofNat ix)), .second, .val (.ref b6), .val (.ref r8), .val (.long (4294967296 : Int64)), .second, .val (.long (1 : Int64)), .second, .val (.long ss4), .second, .val (.long ss3), .second, .val (.long ss2), .second, .val (.long ss1), .second, .val (.long ss0), .second] [(.int (1 : Int32))])) (fun _ k => st20 _ k) ?_
    refine own_go (T' := T20) (g' := (mkF m 514 #[.val (.long xa), .second, .val (.long xb), .second, .val (.long xc), .second, .val (.int xn), .val (.int xx), .val (.int (Int32.ofNat N)), .val (.int lo0), .val (.int ln0), .val (.int lo1), .val (.int ln1), .val (.int lo2), .val (.int ln2), .val (.int lo3), .val (.int ln3), .val (.int lo4), .val (.int ln4), .val (.int lo5), .val (.int ln5), .val (.ref yl), .val (.long (2147483648 : Int64)), .second, .val (.long kk5), .second, .val (.long (Int64.ofNat ix)), .second, .val (.ref b6), .val (.ref r8), .val (.long (4294967296 : Int64)), .second, .val (.long (1 : Int64)), .second, .val (.long ss4), .second, .val (.long ss3), .second, .val (.long ss2), .second, .val (.long ss1), .second, .val (.long ss0), .second] [])) (fun _ k => XS.ifNo X20.here hx rfl (hb hby at_511) rfl ((if0 _ _).trans (feq ((by decide) : ¬ ((1 : Int32) = (0 : Int32)))).1) k) ?_
    refine own_go (T' := T20) (g' := (mkF m 516 #[.val (.long xa), .second, .val (.long xb), .second, .val (.long xc), .second, .val (.int xn), .val (.int xx), .val (.int (Int32.ofNat N)), .val (.int lo0), .val (.int ln0), .val (.int lo1), .val (.int ln1), .val (.int lo2), .val (.int ln2), .val (.int lo3), .val (.int ln3), .val (.int lo4), .val (.int ln4), .val (.int lo5), .val (.int ln5), .val (.ref yl), .val (.long (2147483648 : Int64)), .second, .val (.long kk5), .second, .val (.long (Int64.ofNat ix)), .second, .val (.ref b6), .val (.ref r8), .val (.long (4294967296 : Int64)), .second, .val (.long (1 : Int64)), .second, .val (.long ss4), .second, .val (.long ss3), .second, .val (.long ss2), .second, .val (.long ss1), .second, .val (.long ss0), .second] [(.ref r8)])) (fun _ k => XS.aload X20.here hx rfl (hb hby at_514) rfl rfl k) ?_
    refine own_go (T' := T20) (g' := (mkF m 517 #[.val (.long xa), .second, .val (.long xb), .second, .val (.long xc), .second, .val (.int xn), .val (.int xx), .val (.int (Int32.ofNat N)), .val (.int lo0), .val (.int ln0), .val (.int lo1), .val (.int ln1), .val (.int lo2), .val (.int ln2), .val (.int lo3), .val (.int ln3), .val (.int lo4), .val (.int ln4), .val (.int lo5), .val (.int ln5), .val (.ref yl), .val (.long (2147483648 : Int64)), .second, .val (.long kk5), .second, .val (.long (Int64.ofNat ix)), .second, .val (.ref b6), .val (.ref r8), .val (.long (4294967296 : Int64)), .second, .val (.long (1 : Int64)), .second, .val (.long ss4), .second, .val (.long ss3), .second, .val (.long ss2), .second, .val (.long ss1), .second, .val (.long ss0), .second] [(.int (2 : Int32)), (.ref r8)])) (fun _ k => XS.iconst X20.here hx rfl (hb hby at_516) k) ?_
    refine own_go (T' := T20) (g' := (mkF m 519 #[.val (.long xa), .second, .val (.long xb), .second, .val (.long xc), .second, .val (.int xn), .val (.int xx), .val (.int (Int32.ofNat N)), .val (.int lo0), .val (.int ln0), .val (.int lo1), .val (.int ln1), .val (.int lo2), .val (.int ln2), .val (.int lo3), .val (.int ln3), .val (.int lo4), .val (.int ln4), .val (.int lo5), .val (.int ln5), .val (.ref yl), .val (.long (2147483648 : Int64)), .second, .val (.long kk5), .second, .val (.long (Int64.ofNat ix)), .second, .val (.ref b6), .val (.ref r8), .val (.long (4294967296 : Int64)), .second, .val (.long (1 : Int64)), .second, .val (.long ss4), .second, .val (.long ss3), .second, .val (.long ss2), .second, .val (.long ss1), .second, .val (.long ss0), .second] [(.int (Int32.ofNat N)), (.int (2 : Int32)), (.ref r8)])) (fun _ k => XS.iload X20.here hx rfl (hb hby at_517) rfl k) ?_
    refine own_go (T' := T20) (g' := (mkF m 521 #[.val (.long xa), .second, .val (.long xb), .second, .val (.long xc), .second, .val (.int xn), .val (.int xx), .val (.int (Int32.ofNat N)), .val (.int lo0), .val (.int ln0), .val (.int lo1), .val (.int ln1), .val (.int lo2), .val (.int ln2), .val (.int lo3), .val (.int ln3), .val (.int lo4), .val (.int ln4), .val (.int lo5), .val (.int ln5), .val (.ref yl), .val (.long (2147483648 : Int64)), .second, .val (.long kk5), .second, .val (.long (Int64.ofNat ix)), .second, .val (.ref b6), .val (.ref r8), .val (.long (4294967296 : Int64)), .second, .val (.long (1 : Int64)), .second, .val (.long ss4), .second, .val (.long ss3), .second, .val (.long ss2), .second, .val (.long ss1), .second, .val (.long ss0), .second] [(.int lo2), (.int (Int32.ofNat N)), (.int (2 : Int32)), (.ref r8)])) (fun _ k => XS.iload X20.here hx rfl (hb hby at_519) rfl k) ?_
    refine own_go (T' := T20) (g' := (mkF m 523 #[.val (.long xa), .second, .val (.long xb), .second, .val (.long xc), .second, .val (.int xn), .val (.int xx), .val (.int (Int32.ofNat N)), .val (.int lo0), .val (.int ln0), .val (.int lo1), .val (.int ln1), .val (.int lo2), .val (.int ln2), .val (.int lo3), .val (.int ln3), .val (.int lo4), .val (.int ln4), .val (.int lo5), .val (.int ln5), .val (.ref yl), .val (.long (2147483648 : Int64)), .second, .val (.long kk5), .second, .val (.long (Int64.ofNat ix)), .second, .val (.ref b6), .val (.ref r8), .val (.long (4294967296 : Int64)), .second, .val (.long (1 : Int64)), .second, .val (.long ss4), .second, .val (.long ss3), .second, .val (.long ss2), .second, .val (.long ss1), .second, .val (.long ss0), .second] [(.int ln2), (.int lo2), (.int (Int32.ofNat N)), (.int (2 : Int32)), (.ref r8)])) (fun _ k => XS.iload X20.here hx rfl (hb hby at_521) rfl k) ?_
    refine own_go (T' := T20) (g' := (mkF m 525 #[.val (.long xa), .second, .val (.long xb), .second, .val (.long xc), .second, .val (.int xn), .val (.int xx), .val (.int (Int32.ofNat N)), .val (.int lo0), .val (.int ln0), .val (.int lo1), .val (.int ln1), .val (.int lo2), .val (.int ln2), .val (.int lo3), .val (.int ln3), .val (.int lo4), .val (.int ln4), .val (.int lo5), .val (.int ln5), .val (.ref yl), .val (.long (2147483648 : Int64)), .second, .val (.long kk5), .second, .val (.long (Int64.ofNat ix)), .second, .val (.ref b6), .val (.ref r8), .val (.long (4294967296 : Int64)), .second, .val (.long (1 : Int64)), .second, .val (.long ss4), .second, .val (.long ss3), .second, .val (.long ss2), .second, .val (.long ss1), .second, .val (.long ss0), .second] [(.long ss2), (.int ln2), (.int lo2), (.int (Int32.ofNat N)), (.int (2 : Int32)), (.ref r8)])) (fun _ k => XS.lload X20.here hx rfl (hb hby at_523) rfl k) ?_
    refine own_go (T' := T20) (g' := (mkF m 527 #[.val (.long xa), .second, .val (.long xb), .second, .val (.long xc), .second, .val (.int xn), .val (.int xx), .val (.int (Int32.ofNat N)), .val (.int lo0), .val (.int ln0), .val (.int lo1), .val (.int ln1), .val (.int lo2), .val (.int ln2), .val (.int lo3), .val (.int ln3), .val (.int lo4), .val (.int ln4), .val (.int lo5), .val (.int ln5), .val (.ref yl), .val (.long (2147483648 : Int64)), .second, .val (.long kk5), .second, .val (.long (Int64.ofNat ix)), .second, .val (.ref b6), .val (.ref r8), .val (.long (4294967296 : Int64)), .second, .val (.long (1 : Int64)), .second, .val (.long ss4), .second, .val (.long ss3), .second, .val (.long ss2), .second, .val (.long ss1), .second, .val (.long ss0), .second] [(.long (Int64.ofNat ix)), (.long ss2), (.int ln2), (.int lo2), (.int (Int32.ofNat N)), (.int (2 : Int32)), (.ref r8)])) (fun _ k => XS.lload X20.here hx rfl (hb hby at_525) rfl k) ?_
    obtain ⟨_, _, ⟨T21, L21, k21, n21⟩, -, X21, ⟨Lc21, hQ21, l21, y21, z21⟩, st21⟩ := Jvm.LawKit.callS X20 hx (y := (⟨"com/example/benchlight/benchlight/BoundsSubscriptsPinLaw", "digit", "([DIIIIJJ)Z"⟩ : MethodName)) hown (mvT hZ (hw _ (List.mem_of_getElem? (i := 160) rfl))) (mvT hZ (hw _ (List.mem_of_getElem? (i := 161) rfl))) (mvT hZ (hw _ (List.mem_of_getElem? (i := 3) rfl))) (mvT hZ (hw _ (List.mem_of_getElem? (i := 162) rfl))) (by decide) (backOf (W := 0) (own_rDg l Z a0 hw [] r8 (2 : Int32) (Int32.ofNat N) lo2 ln2 ss2 (Int64.ofNat ix) kr8 ((List.range N).map (own_dn (fun j => FP.i2d (own_w ix (own_l6 lo0 lo1 lo2 lo3 lo4 lo5) (own_l6 ln0 ln1 ln2 ln3 ln4 ln5) j)) 0)) (own_w ix (own_l6 lo0 lo1 lo2 lo3 lo4 lo5) (own_l6 ln0 ln1 ln2 ln3 ln4 ln5) 2) T8.heap n0 Z8 Vrc8 (own_hD (k := 2) (lo := (own_l6 lo0 lo1 lo2 lo3 lo4 lo5)) (ln := (own_l6 ln0 ln1 ln2 ln3 ln4 ln5)) rfl (by decide) hN6 hi31 rlo rln rs2)) hZ (hw _ (List.mem_of_getElem? (i := 162) rfl)) (hw _ (List.mem_of_getElem? (i := 3) rfl)) (by decide) (by decide)) (g := (mkF m 527 #[.val (.long xa), .second, .val (.long xb), .second, .val (.long xc), .second, .val (.int xn), .val (.int xx), .val (.int (Int32.ofNat N)), .val (.int lo0), .val (.int ln0), .val (.int lo1), .val (.int ln1), .val (.int lo2), .val (.int ln2), .val (.int lo3), .val (.int ln3), .val (.int lo4), .val (.int ln4), .val (.int lo5), .val (.int ln5), .val (.ref yl), .val (.long (2147483648 : Int64)), .second, .val (.long kk5), .second, .val (.long (Int64.ofNat ix)), .second, .val (.ref b6), .val (.ref r8), .val (.long (4294967296 : Int64)), .second, .val (.long (1 : Int64)), .second, .val (.long ss4), .second, .val (.long ss3), .second, .val (.long ss2), .second, .val (.long ss1), .second, .val (.long ss0), .second] [(.long (Int64.ofNat ix)), (.long ss2), (.int ln2), (.int lo2), (.int (Int32.ofNat N)), (.int (2 : Int32)), (.ref r8)])) rfl (by rw [hml]; rfl) (argsL := [(.ref r8), (.int (2 : Int32)), (.int (Int32.ofNat N)), (.int lo2), (.int ln2), (.long ss2), (.long (Int64.ofNat ix))]) (rest := []) (lenOf own_pd13 rfl) rfl (by show 2 * 0 + _ ≤ _; exact Nat.le_of_eq rfl) (hb hby at_527) (fun _ _ => ⟨rfl, e20, (by decide : 12 + 0 ≤ _), (by decide : 48 + 0 ≤ _)⟩)
    dsimp only [Pt.U, Pt.locs, Pt.cells, Pt.slots] at X21 l21 y21 z21 st21 hQ21
    subst l21 y21 z21
    obtain ⟨rfl, N21q, e21⟩ := hQ21
    have N21 := Fr.app N20 N21q
    refine own_go (T' := T21) (g' := (mkF m 530 #[.val (.long xa), .second, .val (.long xb), .second, .val (.long xc), .second, .val (.int xn), .val (.int xx), .val (.int (Int32.ofNat N)), .val (.int lo0), .val (.int ln0), .val (.int lo1), .val (.int ln1), .val (.int lo2), .val (.int ln2), .val (.int lo3), .val (.int ln3), .val (.int lo4), .val (.int ln4), .val (.int lo5), .val (.int ln5), .val (.ref yl), .val (.long (2147483648 : Int64)), .second, .val (.long kk5), .second, .val (.long (Int64.ofNat ix)), .second, .val (.ref b6), .val (.ref r8), .val (.long (4294967296 : Int64)), .second, .val (.long (1 : Int64)), .second, .val (.long ss4), .second, .val (.long ss3), .second, .val (.long ss2), .second, .val (.long ss1), .second, .val (.long ss0), .second] [(.int (1 : Int32))])) (fun _ k => st21 _ k) ?_
    refine own_go (T' := T21) (g' := (mkF m 533 #[.val (.long xa), .second, .val (.long xb), .second, .val (.long xc), .second, .val (.int xn), .val (.int xx), .val (.int (Int32.ofNat N)), .val (.int lo0), .val (.int ln0), .val (.int lo1), .val (.int ln1), .val (.int lo2), .val (.int ln2), .val (.int lo3), .val (.int ln3), .val (.int lo4), .val (.int ln4), .val (.int lo5), .val (.int ln5), .val (.ref yl), .val (.long (2147483648 : Int64)), .second, .val (.long kk5), .second, .val (.long (Int64.ofNat ix)), .second, .val (.ref b6), .val (.ref r8), .val (.long (4294967296 : Int64)), .second, .val (.long (1 : Int64)), .second, .val (.long ss4), .second, .val (.long ss3), .second, .val (.long ss2), .second, .val (.long ss1), .second, .val (.long ss0), .second] [])) (fun _ k => XS.ifNo X21.here hx rfl (hb hby at_530) rfl ((if0 _ _).trans (feq ((by decide) : ¬ ((1 : Int32) = (0 : Int32)))).1) k) ?_
    refine own_go (T' := T21) (g' := (mkF m 535 #[.val (.long xa), .second, .val (.long xb), .second, .val (.long xc), .second, .val (.int xn), .val (.int xx), .val (.int (Int32.ofNat N)), .val (.int lo0), .val (.int ln0), .val (.int lo1), .val (.int ln1), .val (.int lo2), .val (.int ln2), .val (.int lo3), .val (.int ln3), .val (.int lo4), .val (.int ln4), .val (.int lo5), .val (.int ln5), .val (.ref yl), .val (.long (2147483648 : Int64)), .second, .val (.long kk5), .second, .val (.long (Int64.ofNat ix)), .second, .val (.ref b6), .val (.ref r8), .val (.long (4294967296 : Int64)), .second, .val (.long (1 : Int64)), .second, .val (.long ss4), .second, .val (.long ss3), .second, .val (.long ss2), .second, .val (.long ss1), .second, .val (.long ss0), .second] [(.ref r8)])) (fun _ k => XS.aload X21.here hx rfl (hb hby at_533) rfl rfl k) ?_
    refine own_go (T' := T21) (g' := (mkF m 536 #[.val (.long xa), .second, .val (.long xb), .second, .val (.long xc), .second, .val (.int xn), .val (.int xx), .val (.int (Int32.ofNat N)), .val (.int lo0), .val (.int ln0), .val (.int lo1), .val (.int ln1), .val (.int lo2), .val (.int ln2), .val (.int lo3), .val (.int ln3), .val (.int lo4), .val (.int ln4), .val (.int lo5), .val (.int ln5), .val (.ref yl), .val (.long (2147483648 : Int64)), .second, .val (.long kk5), .second, .val (.long (Int64.ofNat ix)), .second, .val (.ref b6), .val (.ref r8), .val (.long (4294967296 : Int64)), .second, .val (.long (1 : Int64)), .second, .val (.long ss4), .second, .val (.long ss3), .second, .val (.long ss2), .second, .val (.long ss1), .second, .val (.long ss0), .second] [(.int (3 : Int32)), (.ref r8)])) (fun _ k => XS.iconst X21.here hx rfl (hb hby at_535) k) ?_
    refine own_go (T' := T21) (g' := (mkF m 538 #[.val (.long xa), .second, .val (.long xb), .second, .val (.long xc), .second, .val (.int xn), .val (.int xx), .val (.int (Int32.ofNat N)), .val (.int lo0), .val (.int ln0), .val (.int lo1), .val (.int ln1), .val (.int lo2), .val (.int ln2), .val (.int lo3), .val (.int ln3), .val (.int lo4), .val (.int ln4), .val (.int lo5), .val (.int ln5), .val (.ref yl), .val (.long (2147483648 : Int64)), .second, .val (.long kk5), .second, .val (.long (Int64.ofNat ix)), .second, .val (.ref b6), .val (.ref r8), .val (.long (4294967296 : Int64)), .second, .val (.long (1 : Int64)), .second, .val (.long ss4), .second, .val (.long ss3), .second, .val (.long ss2), .second, .val (.long ss1), .second, .val (.long ss0), .second] [(.int (Int32.ofNat N)), (.int (3 : Int32)), (.ref r8)])) (fun _ k => XS.iload X21.here hx rfl (hb hby at_536) rfl k) ?_
    refine own_go (T' := T21) (g' := (mkF m 540 #[.val (.long xa), .second, .val (.long xb), .second, .val (.long xc), .second, .val (.int xn), .val (.int xx), .val (.int (Int32.ofNat N)), .val (.int lo0), .val (.int ln0), .val (.int lo1), .val (.int ln1), .val (.int lo2), .val (.int ln2), .val (.int lo3), .val (.int ln3), .val (.int lo4), .val (.int ln4), .val (.int lo5), .val (.int ln5), .val (.ref yl), .val (.long (2147483648 : Int64)), .second, .val (.long kk5), .second, .val (.long (Int64.ofNat ix)), .second, .val (.ref b6), .val (.ref r8), .val (.long (4294967296 : Int64)), .second, .val (.long (1 : Int64)), .second, .val (.long ss4), .second, .val (.long ss3), .second, .val (.long ss2), .second, .val (.long ss1), .second, .val (.long ss0), .second] [(.int lo3), (.int (Int32.ofNat N)), (.int (3 : Int32)), (.ref r8)])) (fun _ k => XS.iload X21.here hx rfl (hb hby at_538) rfl k) ?_
    refine own_go (T' := T21) (g' := (mkF m 542 #[.val (.long xa), .second, .val (.long xb), .second, .val (.long xc), .second, .val (.int xn), .val (.int xx), .val (.int (Int32.ofNat N)), .val (.int lo0), .val (.int ln0), .val (.int lo1), .val (.int ln1), .val (.int lo2), .val (.int ln2), .val (.int lo3), .val (.int ln3), .val (.int lo4), .val (.int ln4), .val (.int lo5), .val (.int ln5), .val (.ref yl), .val (.long (2147483648 : Int64)), .second, .val (.long kk5), .second, .val (.long (Int64.ofNat ix)), .second, .val (.ref b6), .val (.ref r8), .val (.long (4294967296 : Int64)), .second, .val (.long (1 : Int64)), .second, .val (.long ss4), .second, .val (.long ss3), .second, .val (.long ss2), .second, .val (.long ss1), .second, .val (.long ss0), .second] [(.int ln3), (.int lo3), (.int (Int32.ofNat N)), (.int (3 : Int32)), (.ref r8)])) (fun _ k => XS.iload X21.here hx rfl (hb hby at_540) rfl k) ?_
    refine own_go (T' := T21) (g' := (mkF m 544 #[.val (.long xa), .second, .val (.long xb), .second, .val (.long xc), .second, .val (.int xn), .val (.int xx), .val (.int (Int32.ofNat N)), .val (.int lo0), .val (.int ln0), .val (.int lo1), .val (.int ln1), .val (.int lo2), .val (.int ln2), .val (.int lo3), .val (.int ln3), .val (.int lo4), .val (.int ln4), .val (.int lo5), .val (.int ln5), .val (.ref yl), .val (.long (2147483648 : Int64)), .second, .val (.long kk5), .second, .val (.long (Int64.ofNat ix)), .second, .val (.ref b6), .val (.ref r8), .val (.long (4294967296 : Int64)), .second, .val (.long (1 : Int64)), .second, .val (.long ss4), .second, .val (.long ss3), .second, .val (.long ss2), .second, .val (.long ss1), .second, .val (.long ss0), .second] [(.long ss3), (.int ln3), (.int lo3), (.int (Int32.ofNat N)), (.int (3 : Int32)), (.ref r8)])) (fun _ k => XS.lload X21.here hx rfl (hb hby at_542) rfl k) ?_
    refine own_go (T' := T21) (g' := (mkF m 546 #[.val (.long xa), .second, .val (.long xb), .second, .val (.long xc), .second, .val (.int xn), .val (.int xx), .val (.int (Int32.ofNat N)), .val (.int lo0), .val (.int ln0), .val (.int lo1), .val (.int ln1), .val (.int lo2), .val (.int ln2), .val (.int lo3), .val (.int ln3), .val (.int lo4), .val (.int ln4), .val (.int lo5), .val (.int ln5), .val (.ref yl), .val (.long (2147483648 : Int64)), .second, .val (.long kk5), .second, .val (.long (Int64.ofNat ix)), .second, .val (.ref b6), .val (.ref r8), .val (.long (4294967296 : Int64)), .second, .val (.long (1 : Int64)), .second, .val (.long ss4), .second, .val (.long ss3), .second, .val (.long ss2), .second, .val (.long ss1), .second, .val (.long ss0), .second] [(.long (Int64.ofNat ix)), (.long ss3), (.int ln3), (.int lo3), (.int (Int32.ofNat N)), (.int (3 : Int32)), (.ref r8)])) (fun _ k => XS.lload X21.here hx rfl (hb hby at_544) rfl k) ?_
    obtain ⟨_, _, ⟨T22, L22, k22, n22⟩, -, X22, ⟨Lc22, hQ22, l22, y22, z22⟩, st22⟩ := Jvm.LawKit.callS X21 hx (y := (⟨"com/example/benchlight/benchlight/BoundsSubscriptsPinLaw", "digit", "([DIIIIJJ)Z"⟩ : MethodName)) hown (mvT hZ (hw _ (List.mem_of_getElem? (i := 160) rfl))) (mvT hZ (hw _ (List.mem_of_getElem? (i := 161) rfl))) (mvT hZ (hw _ (List.mem_of_getElem? (i := 3) rfl))) (mvT hZ (hw _ (List.mem_of_getElem? (i := 162) rfl))) (by decide) (backOf (W := 0) (own_rDg l Z a0 hw [] r8 (3 : Int32) (Int32.ofNat N) lo3 ln3 ss3 (Int64.ofNat ix) kr8 ((List.range N).map (own_dn (fun j => FP.i2d (own_w ix (own_l6 lo0 lo1 lo2 lo3 lo4 lo5) (own_l6 ln0 ln1 ln2 ln3 ln4 ln5) j)) 0)) (own_w ix (own_l6 lo0 lo1 lo2 lo3 lo4 lo5) (own_l6 ln0 ln1 ln2 ln3 ln4 ln5) 3) T8.heap n0 Z8 Vrc8 (own_hD (k := 3) (lo := (own_l6 lo0 lo1 lo2 lo3 lo4 lo5)) (ln := (own_l6 ln0 ln1 ln2 ln3 ln4 ln5)) rfl (by decide) hN6 hi31 rlo rln rs3)) hZ (hw _ (List.mem_of_getElem? (i := 162) rfl)) (hw _ (List.mem_of_getElem? (i := 3) rfl)) (by decide) (by decide)) (g := (mkF m 546 #[.val (.long xa), .second, .val (.long xb), .second, .val (.long xc), .second, .val (.int xn), .val (.int xx), .val (.int (Int32.ofNat N)), .val (.int lo0), .val (.int ln0), .val (.int lo1), .val (.int ln1), .val (.int lo2), .val (.int ln2), .val (.int lo3), .val (.int ln3), .val (.int lo4), .val (.int ln4), .val (.int lo5), .val (.int ln5), .val (.ref yl), .val (.long (2147483648 : Int64)), .second, .val (.long kk5), .second, .val (.long (Int64.ofNat ix)), .second, .val (.ref b6), .val (.ref r8), .val (.long (4294967296 : Int64)), .second, .val (.long (1 : Int64)), .second, .val (.long ss4), .second, .val (.long ss3), .second, .val (.long ss2), .second, .val (.long ss1), .second, .val (.long ss0), .second] [(.long (Int64.ofNat ix)), (.long ss3), (.int ln3), (.int lo3), (.int (Int32.ofNat N)), (.int (3 : Int32)), (.ref r8)])) rfl (by rw [hml]; rfl) (argsL := [(.ref r8), (.int (3 : Int32)), (.int (Int32.ofNat N)), (.int lo3), (.int ln3), (.long ss3), (.long (Int64.ofNat ix))]) (rest := []) (lenOf own_pd13 rfl) rfl (by show 2 * 0 + _ ≤ _; exact Nat.le_of_eq rfl) (hb hby at_546) (fun _ _ => ⟨rfl, e21, (by decide : 12 + 0 ≤ _), (by decide : 48 + 0 ≤ _)⟩)
    dsimp only [Pt.U, Pt.locs, Pt.cells, Pt.slots] at X22 l22 y22 z22 st22 hQ22
    subst l22 y22 z22
    obtain ⟨rfl, N22q, e22⟩ := hQ22
    have N22 := Fr.app N21 N22q
    refine own_go (T' := T22) (g' := (mkF m 549 #[.val (.long xa), .second, .val (.long xb), .second, .val (.long xc), .second, .val (.int xn), .val (.int xx), .val (.int (Int32.ofNat N)), .val (.int lo0), .val (.int ln0), .val (.int lo1), .val (.int ln1), .val (.int lo2), .val (.int ln2), .val (.int lo3), .val (.int ln3), .val (.int lo4), .val (.int ln4), .val (.int lo5), .val (.int ln5), .val (.ref yl), .val (.long (2147483648 : Int64)), .second, .val (.long kk5), .second, .val (.long (Int64.ofNat ix)), .second, .val (.ref b6), .val (.ref r8), .val (.long (4294967296 : Int64)), .second, .val (.long (1 : Int64)), .second, .val (.long ss4), .second, .val (.long ss3), .second, .val (.long ss2), .second, .val (.long ss1), .second, .val (.long ss0), .second] [(.int (1 : Int32))])) (fun _ k => st22 _ k) ?_
    refine own_go (T' := T22) (g' := (mkF m 552 #[.val (.long xa), .second, .val (.long xb), .second, .val (.long xc), .second, .val (.int xn), .val (.int xx), .val (.int (Int32.ofNat N)), .val (.int lo0), .val (.int ln0), .val (.int lo1), .val (.int ln1), .val (.int lo2), .val (.int ln2), .val (.int lo3), .val (.int ln3), .val (.int lo4), .val (.int ln4), .val (.int lo5), .val (.int ln5), .val (.ref yl), .val (.long (2147483648 : Int64)), .second, .val (.long kk5), .second, .val (.long (Int64.ofNat ix)), .second, .val (.ref b6), .val (.ref r8), .val (.long (4294967296 : Int64)), .second, .val (.long (1 : Int64)), .second, .val (.long ss4), .second, .val (.long ss3), .second, .val (.long ss2), .second, .val (.long ss1), .second, .val (.long ss0), .second] [])) (fun _ k => XS.ifNo X22.here hx rfl (hb hby at_549) rfl ((if0 _ _).trans (feq ((by decide) : ¬ ((1 : Int32) = (0 : Int32)))).1) k) ?_
    refine own_go (T' := T22) (g' := (mkF m 554 #[.val (.long xa), .second, .val (.long xb), .second, .val (.long xc), .second, .val (.int xn), .val (.int xx), .val (.int (Int32.ofNat N)), .val (.int lo0), .val (.int ln0), .val (.int lo1), .val (.int ln1), .val (.int lo2), .val (.int ln2), .val (.int lo3), .val (.int ln3), .val (.int lo4), .val (.int ln4), .val (.int lo5), .val (.int ln5), .val (.ref yl), .val (.long (2147483648 : Int64)), .second, .val (.long kk5), .second, .val (.long (Int64.ofNat ix)), .second, .val (.ref b6), .val (.ref r8), .val (.long (4294967296 : Int64)), .second, .val (.long (1 : Int64)), .second, .val (.long ss4), .second, .val (.long ss3), .second, .val (.long ss2), .second, .val (.long ss1), .second, .val (.long ss0), .second] [(.ref r8)])) (fun _ k => XS.aload X22.here hx rfl (hb hby at_552) rfl rfl k) ?_
    refine own_go (T' := T22) (g' := (mkF m 555 #[.val (.long xa), .second, .val (.long xb), .second, .val (.long xc), .second, .val (.int xn), .val (.int xx), .val (.int (Int32.ofNat N)), .val (.int lo0), .val (.int ln0), .val (.int lo1), .val (.int ln1), .val (.int lo2), .val (.int ln2), .val (.int lo3), .val (.int ln3), .val (.int lo4), .val (.int ln4), .val (.int lo5), .val (.int ln5), .val (.ref yl), .val (.long (2147483648 : Int64)), .second, .val (.long kk5), .second, .val (.long (Int64.ofNat ix)), .second, .val (.ref b6), .val (.ref r8), .val (.long (4294967296 : Int64)), .second, .val (.long (1 : Int64)), .second, .val (.long ss4), .second, .val (.long ss3), .second, .val (.long ss2), .second, .val (.long ss1), .second, .val (.long ss0), .second] [(.int (4 : Int32)), (.ref r8)])) (fun _ k => XS.iconst X22.here hx rfl (hb hby at_554) k) ?_
    refine own_go (T' := T22) (g' := (mkF m 557 #[.val (.long xa), .second, .val (.long xb), .second, .val (.long xc), .second, .val (.int xn), .val (.int xx), .val (.int (Int32.ofNat N)), .val (.int lo0), .val (.int ln0), .val (.int lo1), .val (.int ln1), .val (.int lo2), .val (.int ln2), .val (.int lo3), .val (.int ln3), .val (.int lo4), .val (.int ln4), .val (.int lo5), .val (.int ln5), .val (.ref yl), .val (.long (2147483648 : Int64)), .second, .val (.long kk5), .second, .val (.long (Int64.ofNat ix)), .second, .val (.ref b6), .val (.ref r8), .val (.long (4294967296 : Int64)), .second, .val (.long (1 : Int64)), .second, .val (.long ss4), .second, .val (.long ss3), .second, .val (.long ss2), .second, .val (.long ss1), .second, .val (.long ss0), .second] [(.int (Int32.ofNat N)), (.int (4 : Int32)), (.ref r8)])) (fun _ k => XS.iload X22.here hx rfl (hb hby at_555) rfl k) ?_
    refine own_go (T' := T22) (g' := (mkF m 559 #[.val (.long xa), .second, .val (.long xb), .second, .val (.long xc), .second, .val (.int xn), .val (.int xx), .val (.int (Int32.ofNat N)), .val (.int lo0), .val (.int ln0), .val (.int lo1), .val (.int ln1), .val (.int lo2), .val (.int ln2), .val (.int lo3), .val (.int ln3), .val (.int lo4), .val (.int ln4), .val (.int lo5), .val (.int ln5), .val (.ref yl), .val (.long (2147483648 : Int64)), .second, .val (.long kk5), .second, .val (.long (Int64.ofNat ix)), .second, .val (.ref b6), .val (.ref r8), .val (.long (4294967296 : Int64)), .second, .val (.long (1 : Int64)), .second, .val (.long ss4), .second, .val (.long ss3), .second, .val (.long ss2), .second, .val (.long ss1), .second, .val (.long ss0), .second] [(.int lo4), (.int (Int32.ofNat N)), (.int (4 : Int32)), (.ref r8)])) (fun _ k => XS.iload X22.here hx rfl (hb hby at_557) rfl k) ?_
    refine own_go (T' := T22) (g' := (mkF m 561 #[.val (.long xa), .second, .val (.long xb), .second, .val (.long xc), .second, .val (.int xn), .val (.int xx), .val (.int (Int32.ofNat N)), .val (.int lo0), .val (.int ln0), .val (.int lo1), .val (.int ln1), .val (.int lo2), .val (.int ln2), .val (.int lo3), .val (.int ln3), .val (.int lo4), .val (.int ln4), .val (.int lo5), .val (.int ln5), .val (.ref yl), .val (.long (2147483648 : Int64)), .second, .val (.long kk5), .second, .val (.long (Int64.ofNat ix)), .second, .val (.ref b6), .val (.ref r8), .val (.long (4294967296 : Int64)), .second, .val (.long (1 : Int64)), .second, .val (.long ss4), .second, .val (.long ss3), .second, .val (.long ss2), .second, .val (.long ss1), .second, .val (.long ss0), .second] [(.int ln4), (.int lo4), (.int (Int32.ofNat N)), (.int (4 : Int32)), (.ref r8)])) (fun _ k => XS.iload X22.here hx rfl (hb hby at_559) rfl k) ?_
    refine own_go (T' := T22) (g' := (mkF m 563 #[.val (.long xa), .second, .val (.long xb), .second, .val (.long xc), .second, .val (.int xn), .val (.int xx), .val (.int (Int32.ofNat N)), .val (.int lo0), .val (.int ln0), .val (.int lo1), .val (.int ln1), .val (.int lo2), .val (.int ln2), .val (.int lo3), .val (.int ln3), .val (.int lo4), .val (.int ln4), .val (.int lo5), .val (.int ln5), .val (.ref yl), .val (.long (2147483648 : Int64)), .second, .val (.long kk5), .second, .val (.long (Int64.ofNat ix)), .second, .val (.ref b6), .val (.ref r8), .val (.long (4294967296 : Int64)), .second, .val (.long (1 : Int64)), .second, .val (.long ss4), .second, .val (.long ss3), .second, .val (.long ss2), .second, .val (.long ss1), .second, .val (.long ss0), .second] [(.long ss4), (.int ln4), (.int lo4), (.int (Int32.ofNat N)), (.int (4 : Int32)), (.ref r8)])) (fun _ k => XS.lload X22.here hx rfl (hb hby at_561) rfl k) ?_
    refine own_go (T' := T22) (g' := (mkF m 565 #[.val (.long xa), .second, .val (.long xb), .second, .val (.long xc), .second, .val (.int xn), .val (.int xx), .val (.int (Int32.ofNat N)), .val (.int lo0), .val (.int ln0), .val (.int lo1), .val (.int ln1), .val (.int lo2), .val (.int ln2), .val (.int lo3), .val (.int ln3), .val (.int lo4), .val (.int ln4), .val (.int lo5), .val (.int ln5), .val (.ref yl), .val (.long (2147483648 : Int64)), .second, .val (.long kk5), .second, .val (.long (Int64.ofNat ix)), .second, .val (.ref b6), .val (.ref r8), .val (.long (4294967296 : Int64)), .second, .val (.long (1 : Int64)), .second, .val (.long ss4), .second, .val (.long ss3), .second, .val (.long ss2), .second, .val (.long ss1), .second, .val (.long ss0), .second] [(.long (Int64.ofNat ix)), (.long ss4), (.int ln4), (.int lo4), (.int (Int32.ofNat N)), (.int (4 : Int32)), (.ref r8)])) (fun _ k => XS.lload X22.here hx rfl (hb hby at_563) rfl k) ?_
    obtain ⟨_, _, ⟨T23, L23, k23, n23⟩, -, X23, ⟨Lc23, hQ23, l23, y23, z23⟩, st23⟩ := Jvm.LawKit.callS X22 hx (y := (⟨"com/example/benchlight/benchlight/BoundsSubscriptsPinLaw", "digit", "([DIIIIJJ)Z"⟩ : MethodName)) hown (mvT hZ (hw _ (List.mem_of_getElem? (i := 160) rfl))) (mvT hZ (hw _ (List.mem_of_getElem? (i := 161) rfl))) (mvT hZ (hw _ (List.mem_of_getElem? (i := 3) rfl))) (mvT hZ (hw _ (List.mem_of_getElem? (i := 162) rfl))) (by decide) (backOf (W := 0) (own_rDg l Z a0 hw [] r8 (4 : Int32) (Int32.ofNat N) lo4 ln4 ss4 (Int64.ofNat ix) kr8 ((List.range N).map (own_dn (fun j => FP.i2d (own_w ix (own_l6 lo0 lo1 lo2 lo3 lo4 lo5) (own_l6 ln0 ln1 ln2 ln3 ln4 ln5) j)) 0)) (own_w ix (own_l6 lo0 lo1 lo2 lo3 lo4 lo5) (own_l6 ln0 ln1 ln2 ln3 ln4 ln5) 4) T8.heap n0 Z8 Vrc8 (own_hD (k := 4) (lo := (own_l6 lo0 lo1 lo2 lo3 lo4 lo5)) (ln := (own_l6 ln0 ln1 ln2 ln3 ln4 ln5)) rfl (by decide) hN6 hi31 rlo rln rs4)) hZ (hw _ (List.mem_of_getElem? (i := 162) rfl)) (hw _ (List.mem_of_getElem? (i := 3) rfl)) (by decide) (by decide)) (g := (mkF m 565 #[.val (.long xa), .second, .val (.long xb), .second, .val (.long xc), .second, .val (.int xn), .val (.int xx), .val (.int (Int32.ofNat N)), .val (.int lo0), .val (.int ln0), .val (.int lo1), .val (.int ln1), .val (.int lo2), .val (.int ln2), .val (.int lo3), .val (.int ln3), .val (.int lo4), .val (.int ln4), .val (.int lo5), .val (.int ln5), .val (.ref yl), .val (.long (2147483648 : Int64)), .second, .val (.long kk5), .second, .val (.long (Int64.ofNat ix)), .second, .val (.ref b6), .val (.ref r8), .val (.long (4294967296 : Int64)), .second, .val (.long (1 : Int64)), .second, .val (.long ss4), .second, .val (.long ss3), .second, .val (.long ss2), .second, .val (.long ss1), .second, .val (.long ss0), .second] [(.long (Int64.ofNat ix)), (.long ss4), (.int ln4), (.int lo4), (.int (Int32.ofNat N)), (.int (4 : Int32)), (.ref r8)])) rfl (by rw [hml]; rfl) (argsL := [(.ref r8), (.int (4 : Int32)), (.int (Int32.ofNat N)), (.int lo4), (.int ln4), (.long ss4), (.long (Int64.ofNat ix))]) (rest := []) (lenOf own_pd13 rfl) rfl (by show 2 * 0 + _ ≤ _; exact Nat.le_of_eq rfl) (hb hby at_565) (fun _ _ => ⟨rfl, e22, (by decide : 12 + 0 ≤ _), (by decide : 48 + 0 ≤ _)⟩)
    dsimp only [Pt.U, Pt.locs, Pt.cells, Pt.slots] at X23 l23 y23 z23 st23 hQ23
    subst l23 y23 z23
    obtain ⟨rfl, N23q, e23⟩ := hQ23
    have N23 := Fr.app N22 N23q
    refine own_go (T' := T23) (g' := (mkF m 568 #[.val (.long xa), .second, .val (.long xb), .second, .val (.long xc), .second, .val (.int xn), .val (.int xx), .val (.int (Int32.ofNat N)), .val (.int lo0), .val (.int ln0), .val (.int lo1), .val (.int ln1), .val (.int lo2), .val (.int ln2), .val (.int lo3), .val (.int ln3), .val (.int lo4), .val (.int ln4), .val (.int lo5), .val (.int ln5), .val (.ref yl), .val (.long (2147483648 : Int64)), .second, .val (.long kk5), .second, .val (.long (Int64.ofNat ix)), .second, .val (.ref b6), .val (.ref r8), .val (.long (4294967296 : Int64)), .second, .val (.long (1 : Int64)), .second, .val (.long ss4), .second, .val (.long ss3), .second, .val (.long ss2), .second, .val (.long ss1), .second, .val (.long ss0), .second] [(.int (1 : Int32))])) (fun _ k => st23 _ k) ?_
    refine own_go (T' := T23) (g' := (mkF m 571 #[.val (.long xa), .second, .val (.long xb), .second, .val (.long xc), .second, .val (.int xn), .val (.int xx), .val (.int (Int32.ofNat N)), .val (.int lo0), .val (.int ln0), .val (.int lo1), .val (.int ln1), .val (.int lo2), .val (.int ln2), .val (.int lo3), .val (.int ln3), .val (.int lo4), .val (.int ln4), .val (.int lo5), .val (.int ln5), .val (.ref yl), .val (.long (2147483648 : Int64)), .second, .val (.long kk5), .second, .val (.long (Int64.ofNat ix)), .second, .val (.ref b6), .val (.ref r8), .val (.long (4294967296 : Int64)), .second, .val (.long (1 : Int64)), .second, .val (.long ss4), .second, .val (.long ss3), .second, .val (.long ss2), .second, .val (.long ss1), .second, .val (.long ss0), .second] [])) (fun _ k => XS.ifNo X23.here hx rfl (hb hby at_568) rfl ((if0 _ _).trans (feq ((by decide) : ¬ ((1 : Int32) = (0 : Int32)))).1) k) ?_
    refine own_go (T' := T23) (g' := (mkF m 573 #[.val (.long xa), .second, .val (.long xb), .second, .val (.long xc), .second, .val (.int xn), .val (.int xx), .val (.int (Int32.ofNat N)), .val (.int lo0), .val (.int ln0), .val (.int lo1), .val (.int ln1), .val (.int lo2), .val (.int ln2), .val (.int lo3), .val (.int ln3), .val (.int lo4), .val (.int ln4), .val (.int lo5), .val (.int ln5), .val (.ref yl), .val (.long (2147483648 : Int64)), .second, .val (.long kk5), .second, .val (.long (Int64.ofNat ix)), .second, .val (.ref b6), .val (.ref r8), .val (.long (4294967296 : Int64)), .second, .val (.long (1 : Int64)), .second, .val (.long ss4), .second, .val (.long ss3), .second, .val (.long ss2), .second, .val (.long ss1), .second, .val (.long ss0), .second] [(.ref r8)])) (fun _ k => XS.aload X23.here hx rfl (hb hby at_571) rfl rfl k) ?_
    refine own_go (T' := T23) (g' := (mkF m 574 #[.val (.long xa), .second, .val (.long xb), .second, .val (.long xc), .second, .val (.int xn), .val (.int xx), .val (.int (Int32.ofNat N)), .val (.int lo0), .val (.int ln0), .val (.int lo1), .val (.int ln1), .val (.int lo2), .val (.int ln2), .val (.int lo3), .val (.int ln3), .val (.int lo4), .val (.int ln4), .val (.int lo5), .val (.int ln5), .val (.ref yl), .val (.long (2147483648 : Int64)), .second, .val (.long kk5), .second, .val (.long (Int64.ofNat ix)), .second, .val (.ref b6), .val (.ref r8), .val (.long (4294967296 : Int64)), .second, .val (.long (1 : Int64)), .second, .val (.long ss4), .second, .val (.long ss3), .second, .val (.long ss2), .second, .val (.long ss1), .second, .val (.long ss0), .second] [(.int (5 : Int32)), (.ref r8)])) (fun _ k => XS.iconst X23.here hx rfl (hb hby at_573) k) ?_
    refine own_go (T' := T23) (g' := (mkF m 576 #[.val (.long xa), .second, .val (.long xb), .second, .val (.long xc), .second, .val (.int xn), .val (.int xx), .val (.int (Int32.ofNat N)), .val (.int lo0), .val (.int ln0), .val (.int lo1), .val (.int ln1), .val (.int lo2), .val (.int ln2), .val (.int lo3), .val (.int ln3), .val (.int lo4), .val (.int ln4), .val (.int lo5), .val (.int ln5), .val (.ref yl), .val (.long (2147483648 : Int64)), .second, .val (.long kk5), .second, .val (.long (Int64.ofNat ix)), .second, .val (.ref b6), .val (.ref r8), .val (.long (4294967296 : Int64)), .second, .val (.long (1 : Int64)), .second, .val (.long ss4), .second, .val (.long ss3), .second, .val (.long ss2), .second, .val (.long ss1), .second, .val (.long ss0), .second] [(.int (Int32.ofNat N)), (.int (5 : Int32)), (.ref r8)])) (fun _ k => XS.iload X23.here hx rfl (hb hby at_574) rfl k) ?_
    refine own_go (T' := T23) (g' := (mkF m 578 #[.val (.long xa), .second, .val (.long xb), .second, .val (.long xc), .second, .val (.int xn), .val (.int xx), .val (.int (Int32.ofNat N)), .val (.int lo0), .val (.int ln0), .val (.int lo1), .val (.int ln1), .val (.int lo2), .val (.int ln2), .val (.int lo3), .val (.int ln3), .val (.int lo4), .val (.int ln4), .val (.int lo5), .val (.int ln5), .val (.ref yl), .val (.long (2147483648 : Int64)), .second, .val (.long kk5), .second, .val (.long (Int64.ofNat ix)), .second, .val (.ref b6), .val (.ref r8), .val (.long (4294967296 : Int64)), .second, .val (.long (1 : Int64)), .second, .val (.long ss4), .second, .val (.long ss3), .second, .val (.long ss2), .second, .val (.long ss1), .second, .val (.long ss0), .second] [(.int lo5), (.int (Int32.ofNat N)), (.int (5 : Int32)), (.ref r8)])) (fun _ k => XS.iload X23.here hx rfl (hb hby at_576) rfl k) ?_
    refine own_go (T' := T23) (g' := (mkF m 580 #[.val (.long xa), .second, .val (.long xb), .second, .val (.long xc), .second, .val (.int xn), .val (.int xx), .val (.int (Int32.ofNat N)), .val (.int lo0), .val (.int ln0), .val (.int lo1), .val (.int ln1), .val (.int lo2), .val (.int ln2), .val (.int lo3), .val (.int ln3), .val (.int lo4), .val (.int ln4), .val (.int lo5), .val (.int ln5), .val (.ref yl), .val (.long (2147483648 : Int64)), .second, .val (.long kk5), .second, .val (.long (Int64.ofNat ix)), .second, .val (.ref b6), .val (.ref r8), .val (.long (4294967296 : Int64)), .second, .val (.long (1 : Int64)), .second, .val (.long ss4), .second, .val (.long ss3), .second, .val (.long ss2), .second, .val (.long ss1), .second, .val (.long ss0), .second] [(.int ln5), (.int lo5), (.int (Int32.ofNat N)), (.int (5 : Int32)), (.ref r8)])) (fun _ k => XS.iload X23.here hx rfl (hb hby at_578) rfl k) ?_
    refine own_go (T' := T23) (g' := (mkF m 582 #[.val (.long xa), .second, .val (.long xb), .second, .val (.long xc), .second, .val (.int xn), .val (.int xx), .val (.int (Int32.ofNat N)), .val (.int lo0), .val (.int ln0), .val (.int lo1), .val (.int ln1), .val (.int lo2), .val (.int ln2), .val (.int lo3), .val (.int ln3), .val (.int lo4), .val (.int ln4), .val (.int lo5), .val (.int ln5), .val (.ref yl), .val (.long (2147483648 : Int64)), .second, .val (.long kk5), .second, .val (.long (Int64.ofNat ix)), .second, .val (.ref b6), .val (.ref r8), .val (.long (4294967296 : Int64)), .second, .val (.long (1 : Int64)), .second, .val (.long ss4), .second, .val (.long ss3), .second, .val (.long ss2), .second, .val (.long ss1), .second, .val (.long ss0), .second] [(.long (1 : Int64)), (.int ln5), (.int lo5), (.int (Int32.ofNat N)), (.int (5 : Int32)), (.ref r8)])) (fun _ k => XS.lload X23.here hx rfl (hb hby at_580) rfl k) ?_
    refine own_go (T' := T23) (g' := (mkF m 584 #[.val (.long xa), .second, .val (.long xb), .second, .val (.long xc), .second, .val (.int xn), .val (.int xx), .val (.int (Int32.ofNat N)), .val (.int lo0), .val (.int ln0), .val (.int lo1), .val (.int ln1), .val (.int lo2), .val (.int ln2), .val (.int lo3), .val (.int ln3), .val (.int lo4), .val (.int ln4), .val (.int lo5), .val (.int ln5), .val (.ref yl), .val (.long (2147483648 : Int64)), .second, .val (.long kk5), .second, .val (.long (Int64.ofNat ix)), .second, .val (.ref b6), .val (.ref r8), .val (.long (4294967296 : Int64)), .second, .val (.long (1 : Int64)), .second, .val (.long ss4), .second, .val (.long ss3), .second, .val (.long ss2), .second, .val (.long ss1), .second, .val (.long ss0), .second] [(.long (Int64.ofNat ix)), (.long (1 : Int64)), (.int ln5), (.int lo5), (.int (Int32.ofNat N)), (.int (5 : Int32)), (.ref r8)])) (fun _ k => XS.lload X23.here hx rfl (hb hby at_582) rfl k) ?_
    obtain ⟨_, _, ⟨T24, L24, k24, n24⟩, -, X24, ⟨Lc24, hQ24, l24, y24, z24⟩, st24⟩ := Jvm.LawKit.callS X23 hx (y := (⟨"com/example/benchlight/benchlight/BoundsSubscriptsPinLaw", "digit", "([DIIIIJJ)Z"⟩ : MethodName)) hown (mvT hZ (hw _ (List.mem_of_getElem? (i := 160) rfl))) (mvT hZ (hw _ (List.mem_of_getElem? (i := 161) rfl))) (mvT hZ (hw _ (List.mem_of_getElem? (i := 3) rfl))) (mvT hZ (hw _ (List.mem_of_getElem? (i := 162) rfl))) (by decide) (backOf (W := 0) (own_rDg l Z a0 hw [] r8 (5 : Int32) (Int32.ofNat N) lo5 ln5 (1 : Int64) (Int64.ofNat ix) kr8 ((List.range N).map (own_dn (fun j => FP.i2d (own_w ix (own_l6 lo0 lo1 lo2 lo3 lo4 lo5) (own_l6 ln0 ln1 ln2 ln3 ln4 ln5) j)) 0)) (own_w ix (own_l6 lo0 lo1 lo2 lo3 lo4 lo5) (own_l6 ln0 ln1 ln2 ln3 ln4 ln5) 5) T8.heap n0 Z8 Vrc8 (own_hD (k := 5) (lo := (own_l6 lo0 lo1 lo2 lo3 lo4 lo5)) (ln := (own_l6 ln0 ln1 ln2 ln3 ln4 ln5)) rfl (by decide) hN6 hi31 rlo rln rs5)) hZ (hw _ (List.mem_of_getElem? (i := 162) rfl)) (hw _ (List.mem_of_getElem? (i := 3) rfl)) (by decide) (by decide)) (g := (mkF m 584 #[.val (.long xa), .second, .val (.long xb), .second, .val (.long xc), .second, .val (.int xn), .val (.int xx), .val (.int (Int32.ofNat N)), .val (.int lo0), .val (.int ln0), .val (.int lo1), .val (.int ln1), .val (.int lo2), .val (.int ln2), .val (.int lo3), .val (.int ln3), .val (.int lo4), .val (.int ln4), .val (.int lo5), .val (.int ln5), .val (.ref yl), .val (.long (2147483648 : Int64)), .second, .val (.long kk5), .second, .val (.long (Int64.ofNat ix)), .second, .val (.ref b6), .val (.ref r8), .val (.long (4294967296 : Int64)), .second, .val (.long (1 : Int64)), .second, .val (.long ss4), .second, .val (.long ss3), .second, .val (.long ss2), .second, .val (.long ss1), .second, .val (.long ss0), .second] [(.long (Int64.ofNat ix)), (.long (1 : Int64)), (.int ln5), (.int lo5), (.int (Int32.ofNat N)), (.int (5 : Int32)), (.ref r8)])) rfl (by rw [hml]; rfl) (argsL := [(.ref r8), (.int (5 : Int32)), (.int (Int32.ofNat N)), (.int lo5), (.int ln5), (.long (1 : Int64)), (.long (Int64.ofNat ix))]) (rest := []) (lenOf own_pd13 rfl) rfl (by show 2 * 0 + _ ≤ _; exact Nat.le_of_eq rfl) (hb hby at_584) (fun _ _ => ⟨rfl, e23, (by decide : 12 + 0 ≤ _), (by decide : 48 + 0 ≤ _)⟩)
    dsimp only [Pt.U, Pt.locs, Pt.cells, Pt.slots] at X24 l24 y24 z24 st24 hQ24
    subst l24 y24 z24
    obtain ⟨rfl, N24q, e24⟩ := hQ24
    have N24 := Fr.app N23 N24q
    refine own_go (T' := T24) (g' := (mkF m 587 #[.val (.long xa), .second, .val (.long xb), .second, .val (.long xc), .second, .val (.int xn), .val (.int xx), .val (.int (Int32.ofNat N)), .val (.int lo0), .val (.int ln0), .val (.int lo1), .val (.int ln1), .val (.int lo2), .val (.int ln2), .val (.int lo3), .val (.int ln3), .val (.int lo4), .val (.int ln4), .val (.int lo5), .val (.int ln5), .val (.ref yl), .val (.long (2147483648 : Int64)), .second, .val (.long kk5), .second, .val (.long (Int64.ofNat ix)), .second, .val (.ref b6), .val (.ref r8), .val (.long (4294967296 : Int64)), .second, .val (.long (1 : Int64)), .second, .val (.long ss4), .second, .val (.long ss3), .second, .val (.long ss2), .second, .val (.long ss1), .second, .val (.long ss0), .second] [(.int (1 : Int32))])) (fun _ k => st24 _ k) ?_
    refine own_go (T' := T24) (g' := (mkF m 590 #[.val (.long xa), .second, .val (.long xb), .second, .val (.long xc), .second, .val (.int xn), .val (.int xx), .val (.int (Int32.ofNat N)), .val (.int lo0), .val (.int ln0), .val (.int lo1), .val (.int ln1), .val (.int lo2), .val (.int ln2), .val (.int lo3), .val (.int ln3), .val (.int lo4), .val (.int ln4), .val (.int lo5), .val (.int ln5), .val (.ref yl), .val (.long (2147483648 : Int64)), .second, .val (.long kk5), .second, .val (.long (Int64.ofNat ix)), .second, .val (.ref b6), .val (.ref r8), .val (.long (4294967296 : Int64)), .second, .val (.long (1 : Int64)), .second, .val (.long ss4), .second, .val (.long ss3), .second, .val (.long ss2), .second, .val (.long ss1), .second, .val (.long ss0), .second] [])) (fun _ k => XS.ifNo X24.here hx rfl (hb hby at_587) rfl ((if0 _ _).trans (feq ((by decide) : ¬ ((1 : Int32) = (0 : Int32)))).1) k) ?_
    refine own_go (T' := T24) (g' := (mkF m 591 #[.val (.long xa), .second, .val (.long xb), .second, .val (.long xc), .second, .val (.int xn), .val (.int xx), .val (.int (Int32.ofNat N)), .val (.int lo0), .val (.int ln0), .val (.int lo1), .val (.int ln1), .val (.int lo2), .val (.int ln2), .val (.int lo3), .val (.int ln3), .val (.int lo4), .val (.int ln4), .val (.int lo5), .val (.int ln5), .val (.ref yl), .val (.long (2147483648 : Int64)), .second, .val (.long kk5), .second, .val (.long (Int64.ofNat ix)), .second, .val (.ref b6), .val (.ref r8), .val (.long (4294967296 : Int64)), .second, .val (.long (1 : Int64)), .second, .val (.long ss4), .second, .val (.long ss3), .second, .val (.long ss2), .second, .val (.long ss1), .second, .val (.long ss0), .second] [(.int (1 : Int32))])) (fun _ k => XS.iconst X24.here hx rfl (hb hby at_590) k) ?_
    refine own_go (T' := T24) (g' := (mkF m 595 #[.val (.long xa), .second, .val (.long xb), .second, .val (.long xc), .second, .val (.int xn), .val (.int xx), .val (.int (Int32.ofNat N)), .val (.int lo0), .val (.int ln0), .val (.int lo1), .val (.int ln1), .val (.int lo2), .val (.int ln2), .val (.int lo3), .val (.int ln3), .val (.int lo4), .val (.int ln4), .val (.int lo5), .val (.int ln5), .val (.ref yl), .val (.long (2147483648 : Int64)), .second, .val (.long kk5), .second, .val (.long (Int64.ofNat ix)), .second, .val (.ref b6), .val (.ref r8), .val (.long (4294967296 : Int64)), .second, .val (.long (1 : Int64)), .second, .val (.long ss4), .second, .val (.long ss3), .second, .val (.long ss2), .second, .val (.long ss1), .second, .val (.long ss0), .second] [(.int (1 : Int32))])) (fun _ k => XS.goto X24.here hx rfl (pc0 := 591) (pc' := 595) rfl (hb hby at_591) (by decide) (by decide) k) ?_
    obtain ⟨fs, hr, hrun, hended, hW, hsame⟩ := X24.leave (v := some (.int (1 : Int32))) (fun h => by rw [Bd.returns] at h; cases h)
    refine own_end (retN X24 hx (t := .boolean) Bd.returns (by simp) (hb hby at_595) hr) hrun hended ⟨_, _, rfl, (?_ : own_QL Z xa xb xc xn xx xd kd h0 n0 _ T24.heap _), ⟨_, rfl⟩, hW, hsame.mono (by decide) (by decide)⟩
    rw [e24]
    exact ⟨rfl, N24⟩
  have tail156 : ∀ (z5 : Int32) (Tt156 : State) (Lt156 : List Loc) (Xt156 : Stand p l e room_1 s m #[(.long xa), (.long xb), (.long xc), (.int xn), (.int xx)] below meth c Tt156 Lt156 0 0) (et156 : Tt156.heap = h0) (Nt156 : Fr n0 Lt156) (hz5 : ln5 = z5), own_F p e below (fun o U' => ∃ v L, o = .returned v ∧ own_QL Z xa xb xc xn xx xd kd h0 n0 v U'.heap L ∧ FrameEnd s o U' L room_1.cells room_1.slots) Tt156 (mkF m 156 #[.val (.long xa), .second, .val (.long xb), .second, .val (.long xc), .second, .val (.int xn), .val (.int xx), .val (.int (Int32.ofNat N)), .val (.int lo0), .val (.int ln0), .val (.int lo1), .val (.int ln1), .val (.int lo2), .val (.int ln2), .val (.int lo3), .val (.int ln3), .val (.int lo4), .val (.int ln4), .val (.int lo5), .val (.int z5), .unset, .unset, .unset, .unset, .unset, .unset, .unset, .unset, .unset, .unset, .unset, .unset, .unset, .unset, .unset, .unset, .unset, .unset, .unset, .unset, .unset, .unset, .unset] []) := by
    intro z5 Tt156 Lt156 Xt156 et156 Nt156 hz5
    subst hz5
    obtain ⟨T25, h25, X25, e25, E25, A25, D25, -, st25⟩ := newO Xt156 hx hZ hown (hw _ (List.mem_of_getElem? (i := 10) rfl)) (hw _ (List.mem_of_getElem? (i := 11) rfl)) (hw _ (List.mem_of_getElem? (i := 12) rfl)) et156 (g := (mkF m 156 #[.val (.long xa), .second, .val (.long xb), .second, .val (.long xc), .second, .val (.int xn), .val (.int xx), .val (.int (Int32.ofNat N)), .val (.int lo0), .val (.int ln0), .val (.int lo1), .val (.int ln1), .val (.int lo2), .val (.int ln2), .val (.int lo3), .val (.int ln3), .val (.int lo4), .val (.int ln4), .val (.int lo5), .val (.int ln5), .unset, .unset, .unset, .unset, .unset, .unset, .unset, .unset, .unset, .unset, .unset, .unset, .unset, .unset, .unset, .unset, .unset, .unset, .unset, .unset, .unset, .unset, .unset] [])) rfl (hb hby at_156) (by decide) (by decide)
    obtain ⟨b25, g25⟩ : ∃ z, z = h0.size := ⟨_, rfl⟩
    rw [← g25] at A25 D25 st25
    have gz_b25 : n0 ≤ b25 := Nat.le_trans Z0 (Nat.le_of_eq g25.symm)
    have hz_b25 : h0.size ≤ b25 := Nat.le_trans (Keep.refl h0 []).1 (Nat.le_of_eq g25.symm)
    have Z25 : n0 ≤ h25.size := Nat.le_trans Z0 E25.1
    have O25 : Ext h0 h25 := own_ext_tr (own_ext_rf h0) E25
    have K25 : Keep h0 h25 [] := (Keep.refl h0 []).ext E25
    have FmodCount_b25 : Fld Z h25 b25 "java/util/AbstractList" "modCount" "I" (.int (0 : Int32)) := D25 (Or.inl (hw _ (List.mem_of_getElem? (i := 32) rfl))) (ty := .int) (by decide)
    have FelementData_b25 : Fld Z h25 b25 "java/util/ArrayList" "elementData" "[Ljava/lang/Object;" .null := D25 (Or.inl (hw _ (List.mem_of_getElem? (i := 35) rfl))) (ty := (.array (.object "java/lang/Object"))) (by decide)
    have Fsize_b25 : Fld Z h25 b25 "java/util/ArrayList" "size" "I" (.int (0 : Int32)) := D25 (Or.inl (hw _ (List.mem_of_getElem? (i := 60) rfl))) (ty := .int) (by decide)
    refine own_go (T' := T25) (g' := (mkF m 159 #[.val (.long xa), .second, .val (.long xb), .second, .val (.long xc), .second, .val (.int xn), .val (.int xx), .val (.int (Int32.ofNat N)), .val (.int lo0), .val (.int ln0), .val (.int lo1), .val (.int ln1), .val (.int lo2), .val (.int ln2), .val (.int lo3), .val (.int ln3), .val (.int lo4), .val (.int ln4), .val (.int lo5), .val (.int ln5), .unset, .unset, .unset, .unset, .unset, .unset, .unset, .unset, .unset, .unset, .unset, .unset, .unset, .unset, .unset, .unset, .unset, .unset, .unset, .unset, .unset, .unset, .unset] [(.ref b25)])) (fun _ k => st25 _ k) ?_
    refine own_go (T' := T25) (g' := (mkF m 160 #[.val (.long xa), .second, .val (.long xb), .second, .val (.long xc), .second, .val (.int xn), .val (.int xx), .val (.int (Int32.ofNat N)), .val (.int lo0), .val (.int ln0), .val (.int lo1), .val (.int ln1), .val (.int lo2), .val (.int ln2), .val (.int lo3), .val (.int ln3), .val (.int lo4), .val (.int ln4), .val (.int lo5), .val (.int ln5), .unset, .unset, .unset, .unset, .unset, .unset, .unset, .unset, .unset, .unset, .unset, .unset, .unset, .unset, .unset, .unset, .unset, .unset, .unset, .unset, .unset, .unset, .unset] [(.ref b25), (.ref b25)])) (fun _ k => XS.dup X25.here hx rfl (hb hby at_159) rfl rfl k) ?_
    obtain ⟨_, _, ⟨T26, L26, k26, n26⟩, -, X26, ⟨Lc26, hQ26, l26, y26, z26⟩, st26⟩ := X25.specialBack hx (y := (⟨"java/util/ArrayList", "<init>", "()V"⟩ : MethodName)) rfl hown (mvT hZ (hw _ (List.mem_of_getElem? (i := 13) rfl))) (mvT hZ (hw _ (List.mem_of_getElem? (i := 14) rfl))) (mvT hZ (hw _ (List.mem_of_getElem? (i := 15) rfl))) (by decide) (backOf (W := 1) (own_rAli l Z a0 hw [] b25 xd h25 n0 Z25 A25 FmodCount_b25 FelementData_b25 Fsize_b25 gz_b25 (Sd.ext O25)) hZ (hw _ (List.mem_of_getElem? (i := 15) rfl)) (hw _ (List.mem_of_getElem? (i := 12) rfl)) (by decide) (by decide)) (g := (mkF m 160 #[.val (.long xa), .second, .val (.long xb), .second, .val (.long xc), .second, .val (.int xn), .val (.int xx), .val (.int (Int32.ofNat N)), .val (.int lo0), .val (.int ln0), .val (.int lo1), .val (.int ln1), .val (.int lo2), .val (.int ln2), .val (.int lo3), .val (.int ln3), .val (.int lo4), .val (.int ln4), .val (.int lo5), .val (.int ln5), .unset, .unset, .unset, .unset, .unset, .unset, .unset, .unset, .unset, .unset, .unset, .unset, .unset, .unset, .unset, .unset, .unset, .unset, .unset, .unset, .unset, .unset, .unset] [(.ref b25), (.ref b25)])) rfl (by rw [hml]; rfl) (Steps.refl _) (a := b25) (argsL := []) (rest := [(.ref b25)]) (lenOf own_pd2 rfl) rfl (by show 2 * 0 + _ ≤ _; exact Nat.le_of_eq rfl) (hb hby at_160) (fun _ _ => ⟨rfl, e25, (by decide : 1 + 0 ≤ _), (by decide : 3 + 0 ≤ _)⟩)
    dsimp only [Pt.U, Pt.locs, Pt.cells, Pt.slots] at X26 l26 y26 z26 st26 hQ26
    subst l26 y26 z26
    obtain ⟨rfl, N26q, Kc26, -, Ec26, Fmc26, Fec26, Fsc26⟩ := hQ26
    have N26 := Fr.app Nt156 N26q
    have Z26 : n0 ≤ T26.heap.size := Nat.le_trans Z25 Kc26.1
    have O26 : Ext h0 T26.heap := own_ext_keep O25 Kc26 (own_all1 hz_b25)
    have K26 : Keep h0 T26.heap [] := K25.trans Kc26 (own_or1 (Or.inr hz_b25))
    refine own_goT (T' := T26) (g' := (mkF m 163 #[.val (.long xa), .second, .val (.long xb), .second, .val (.long xc), .second, .val (.int xn), .val (.int xx), .val (.int (Int32.ofNat N)), .val (.int lo0), .val (.int ln0), .val (.int lo1), .val (.int ln1), .val (.int lo2), .val (.int ln2), .val (.int lo3), .val (.int ln3), .val (.int lo4), .val (.int ln4), .val (.int lo5), .val (.int ln5), .unset, .unset, .unset, .unset, .unset, .unset, .unset, .unset, .unset, .unset, .unset, .unset, .unset, .unset, .unset, .unset, .unset, .unset, .unset, .unset, .unset, .unset, .unset] [(.ref b25)])) st26 ?_
    refine own_go (T' := T26) (g' := (mkF m 165 #[.val (.long xa), .second, .val (.long xb), .second, .val (.long xc), .second, .val (.int xn), .val (.int xx), .val (.int (Int32.ofNat N)), .val (.int lo0), .val (.int ln0), .val (.int lo1), .val (.int ln1), .val (.int lo2), .val (.int ln2), .val (.int lo3), .val (.int ln3), .val (.int lo4), .val (.int ln4), .val (.int lo5), .val (.int ln5), .val (.ref b25), .unset, .unset, .unset, .unset, .unset, .unset, .unset, .unset, .unset, .unset, .unset, .unset, .unset, .unset, .unset, .unset, .unset, .unset, .unset, .unset, .unset, .unset] [])) (fun _ k => XS.astore X26.here hx rfl (hb hby at_163) rfl rfl (l' := #[.val (.long xa), .second, .val (.long xb), .second, .val (.long xc), .second, .val (.int xn), .val (.int xx), .val (.int (Int32.ofNat N)), .val (.int lo0), .val (.int ln0), .val (.int lo1), .val (.int ln1), .val (.int lo2), .val (.int ln2), .val (.int lo3), .val (.int ln3), .val (.int lo4), .val (.int ln4), .val (.int lo5), .val (.int ln5), .val (.ref b25), .unset, .unset, .unset, .unset, .unset, .unset, .unset, .unset, .unset, .unset, .unset, .unset, .unset, .unset, .unset, .unset, .unset, .unset, .unset, .unset, .unset, .unset]) rfl k) ?_
    refine own_go (T' := T26) (g' := (mkF m 167 #[.val (.long xa), .second, .val (.long xb), .second, .val (.long xc), .second, .val (.int xn), .val (.int xx), .val (.int (Int32.ofNat N)), .val (.int lo0), .val (.int ln0), .val (.int lo1), .val (.int ln1), .val (.int lo2), .val (.int ln2), .val (.int lo3), .val (.int ln3), .val (.int lo4), .val (.int ln4), .val (.int lo5), .val (.int ln5), .val (.ref b25), .unset, .unset, .unset, .unset, .unset, .unset, .unset, .unset, .unset, .unset, .unset, .unset, .unset, .unset, .unset, .unset, .unset, .unset, .unset, .unset, .unset, .unset] [(.ref b25)])) (fun _ k => XS.aload X26.here hx rfl (hb hby at_165) rfl rfl k) ?_
    obtain ⟨T27, h27, X27, e27, E27, A27, D27, -, st27⟩ := newO X26 hx hZ hown (hw _ (List.mem_of_getElem? (i := 36) rfl)) (hw _ (List.mem_of_getElem? (i := 37) rfl)) (hw _ (List.mem_of_getElem? (i := 38) rfl)) rfl (g := (mkF m 167 #[.val (.long xa), .second, .val (.long xb), .second, .val (.long xc), .second, .val (.int xn), .val (.int xx), .val (.int (Int32.ofNat N)), .val (.int lo0), .val (.int ln0), .val (.int lo1), .val (.int ln1), .val (.int lo2), .val (.int ln2), .val (.int lo3), .val (.int ln3), .val (.int lo4), .val (.int ln4), .val (.int lo5), .val (.int ln5), .val (.ref b25), .unset, .unset, .unset, .unset, .unset, .unset, .unset, .unset, .unset, .unset, .unset, .unset, .unset, .unset, .unset, .unset, .unset, .unset, .unset, .unset, .unset, .unset] [(.ref b25)])) rfl (hb hby at_167) (by decide) (by decide)
    obtain ⟨b27, g27⟩ : ∃ z, z = T26.heap.size := ⟨_, rfl⟩
    rw [← g27] at A27 D27 st27
    have ne_b25_b27 : b25 ≠ b27 := Nat.ne_of_lt (Nat.lt_of_lt_of_le Ec26.lt (Nat.le_of_eq g27.symm))
    have gz_b27 : n0 ≤ b27 := Nat.le_trans Z26 (Nat.le_of_eq g27.symm)
    have hz_b27 : h0.size ≤ b27 := Nat.le_trans K26.1 (Nat.le_of_eq g27.symm)
    have Ek28 := Ec26.ext E27
    have Fk29 := Fmc26.ext E27
    have Fk30 := Fec26.ext E27
    have Fk31 := Fsc26.ext E27
    have Z27 : n0 ≤ h27.size := Nat.le_trans Z26 E27.1
    have O27 : Ext h0 h27 := own_ext_tr O26 E27
    have K27 : Keep h0 h27 [] := K26.ext E27
    have Flower_b27 : Fld Z h27 b27 "com/example/benchlight/benchlight/Bounds$Dimension" "lower" "I" (.int (0 : Int32)) := D27 (Or.inr (hw _ (List.mem_of_getElem? (i := 49) rfl))) (ty := .int) (by decide)
    have Fupper_b27 : Fld Z h27 b27 "com/example/benchlight/benchlight/Bounds$Dimension" "upper" "I" (.int (0 : Int32)) := D27 (Or.inr (hw _ (List.mem_of_getElem? (i := 51) rfl))) (ty := .int) (by decide)
    refine own_go (T' := T27) (g' := (mkF m 170 #[.val (.long xa), .second, .val (.long xb), .second, .val (.long xc), .second, .val (.int xn), .val (.int xx), .val (.int (Int32.ofNat N)), .val (.int lo0), .val (.int ln0), .val (.int lo1), .val (.int ln1), .val (.int lo2), .val (.int ln2), .val (.int lo3), .val (.int ln3), .val (.int lo4), .val (.int ln4), .val (.int lo5), .val (.int ln5), .val (.ref b25), .unset, .unset, .unset, .unset, .unset, .unset, .unset, .unset, .unset, .unset, .unset, .unset, .unset, .unset, .unset, .unset, .unset, .unset, .unset, .unset, .unset, .unset] [(.ref b27), (.ref b25)])) (fun _ k => st27 _ k) ?_
    refine own_go (T' := T27) (g' := (mkF m 171 #[.val (.long xa), .second, .val (.long xb), .second, .val (.long xc), .second, .val (.int xn), .val (.int xx), .val (.int (Int32.ofNat N)), .val (.int lo0), .val (.int ln0), .val (.int lo1), .val (.int ln1), .val (.int lo2), .val (.int ln2), .val (.int lo3), .val (.int ln3), .val (.int lo4), .val (.int ln4), .val (.int lo5), .val (.int ln5), .val (.ref b25), .unset, .unset, .unset, .unset, .unset, .unset, .unset, .unset, .unset, .unset, .unset, .unset, .unset, .unset, .unset, .unset, .unset, .unset, .unset, .unset, .unset, .unset] [(.ref b27), (.ref b27), (.ref b25)])) (fun _ k => XS.dup X27.here hx rfl (hb hby at_170) rfl rfl k) ?_
    refine own_go (T' := T27) (g' := (mkF m 173 #[.val (.long xa), .second, .val (.long xb), .second, .val (.long xc), .second, .val (.int xn), .val (.int xx), .val (.int (Int32.ofNat N)), .val (.int lo0), .val (.int ln0), .val (.int lo1), .val (.int ln1), .val (.int lo2), .val (.int ln2), .val (.int lo3), .val (.int ln3), .val (.int lo4), .val (.int ln4), .val (.int lo5), .val (.int ln5), .val (.ref b25), .unset, .unset, .unset, .unset, .unset, .unset, .unset, .unset, .unset, .unset, .unset, .unset, .unset, .unset, .unset, .unset, .unset, .unset, .unset, .unset, .unset, .unset] [(.int lo0), (.ref b27), (.ref b27), (.ref b25)])) (fun _ k => XS.iload X27.here hx rfl (hb hby at_171) rfl k) ?_
    refine own_go (T' := T27) (g' := (mkF m 175 #[.val (.long xa), .second, .val (.long xb), .second, .val (.long xc), .second, .val (.int xn), .val (.int xx), .val (.int (Int32.ofNat N)), .val (.int lo0), .val (.int ln0), .val (.int lo1), .val (.int ln1), .val (.int lo2), .val (.int ln2), .val (.int lo3), .val (.int ln3), .val (.int lo4), .val (.int ln4), .val (.int lo5), .val (.int ln5), .val (.ref b25), .unset, .unset, .unset, .unset, .unset, .unset, .unset, .unset, .unset, .unset, .unset, .unset, .unset, .unset, .unset, .unset, .unset, .unset, .unset, .unset, .unset, .unset] [(.int lo0), (.int lo0), (.ref b27), (.ref b27), (.ref b25)])) (fun _ k => XS.iload X27.here hx rfl (hb hby at_173) rfl k) ?_
    refine own_go (T' := T27) (g' := (mkF m 177 #[.val (.long xa), .second, .val (.long xb), .second, .val (.long xc), .second, .val (.int xn), .val (.int xx), .val (.int (Int32.ofNat N)), .val (.int lo0), .val (.int ln0), .val (.int lo1), .val (.int ln1), .val (.int lo2), .val (.int ln2), .val (.int lo3), .val (.int ln3), .val (.int lo4), .val (.int ln4), .val (.int lo5), .val (.int ln5), .val (.ref b25), .unset, .unset, .unset, .unset, .unset, .unset, .unset, .unset, .unset, .unset, .unset, .unset, .unset, .unset, .unset, .unset, .unset, .unset, .unset, .unset, .unset, .unset] [(.int ln0), (.int lo0), (.int lo0), (.ref b27), (.ref b27), (.ref b25)])) (fun _ k => XS.iload X27.here hx rfl (hb hby at_175) rfl k) ?_
    refine own_go (T' := T27) (g' := (mkF m 178 #[.val (.long xa), .second, .val (.long xb), .second, .val (.long xc), .second, .val (.int xn), .val (.int xx), .val (.int (Int32.ofNat N)), .val (.int lo0), .val (.int ln0), .val (.int lo1), .val (.int ln1), .val (.int lo2), .val (.int ln2), .val (.int lo3), .val (.int ln3), .val (.int lo4), .val (.int ln4), .val (.int lo5), .val (.int ln5), .val (.ref b25), .unset, .unset, .unset, .unset, .unset, .unset, .unset, .unset, .unset, .unset, .unset, .unset, .unset, .unset, .unset, .unset, .unset, .unset, .unset, .unset, .unset, .unset] [(.int (lo0 + ln0)), (.int lo0), (.ref b27), (.ref b27), (.ref b25)])) (fun _ k => XS.iadd X27.here hx rfl (hb hby at_177) rfl k) ?_
    refine own_go (T' := T27) (g' := (mkF m 179 #[.val (.long xa), .second, .val (.long xb), .second, .val (.long xc), .second, .val (.int xn), .val (.int xx), .val (.int (Int32.ofNat N)), .val (.int lo0), .val (.int ln0), .val (.int lo1), .val (.int ln1), .val (.int lo2), .val (.int ln2), .val (.int lo3), .val (.int ln3), .val (.int lo4), .val (.int ln4), .val (.int lo5), .val (.int ln5), .val (.ref b25), .unset, .unset, .unset, .unset, .unset, .unset, .unset, .unset, .unset, .unset, .unset, .unset, .unset, .unset, .unset, .unset, .unset, .unset, .unset, .unset, .unset, .unset] [(.int (1 : Int32)), (.int (lo0 + ln0)), (.int lo0), (.ref b27), (.ref b27), (.ref b25)])) (fun _ k => XS.iconst X27.here hx rfl (hb hby at_178) k) ?_
    refine own_go (T' := T27) (g' := (mkF m 180 #[.val (.long xa), .second, .val (.long xb), .second, .val (.long xc), .second, .val (.int xn), .val (.int xx), .val (.int (Int32.ofNat N)), .val (.int lo0), .val (.int ln0), .val (.int lo1), .val (.int ln1), .val (.int lo2), .val (.int ln2), .val (.int lo3), .val (.int ln3), .val (.int lo4), .val (.int ln4), .val (.int lo5), .val (.int ln5), .val (.ref b25), .unset, .unset, .unset, .unset, .unset, .unset, .unset, .unset, .unset, .unset, .unset, .unset, .unset, .unset, .unset, .unset, .unset, .unset, .unset, .unset, .unset, .unset] [(.int ((lo0 + ln0) - (1 : Int32))), (.int lo0), (.ref b27), (.ref b27), (.ref b25)])) (fun _ k => XS.isub X27.here hx rfl (hb hby at_179) rfl k) ?_
    obtain ⟨_, _, ⟨T32, L32, k32, n32⟩, -, X32, ⟨Lc32, hQ32, l32, y32, z32⟩, st32⟩ := X27.specialBack hx (y := (⟨"com/example/benchlight/benchlight/Bounds$Dimension", "<init>", "(II)V"⟩ : MethodName)) rfl hown (mvT hZ (hw _ (List.mem_of_getElem? (i := 39) rfl))) (mvT hZ (hw _ (List.mem_of_getElem? (i := 40) rfl))) (mvT hZ (hw _ (List.mem_of_getElem? (i := 41) rfl))) (by decide) (backOf (W := 2) (own_rDi l Z a0 hw [] b27 lo0 ((lo0 + ln0) - (1 : Int32)) h27 n0 Z27 A27 Flower_b27 Fupper_b27 gz_b27) hZ (hw _ (List.mem_of_getElem? (i := 41) rfl)) (hw _ (List.mem_of_getElem? (i := 38) rfl)) (by decide) (by decide)) (g := (mkF m 180 #[.val (.long xa), .second, .val (.long xb), .second, .val (.long xc), .second, .val (.int xn), .val (.int xx), .val (.int (Int32.ofNat N)), .val (.int lo0), .val (.int ln0), .val (.int lo1), .val (.int ln1), .val (.int lo2), .val (.int ln2), .val (.int lo3), .val (.int ln3), .val (.int lo4), .val (.int ln4), .val (.int lo5), .val (.int ln5), .val (.ref b25), .unset, .unset, .unset, .unset, .unset, .unset, .unset, .unset, .unset, .unset, .unset, .unset, .unset, .unset, .unset, .unset, .unset, .unset, .unset, .unset, .unset, .unset] [(.int ((lo0 + ln0) - (1 : Int32))), (.int lo0), (.ref b27), (.ref b27), (.ref b25)])) rfl (by rw [hml]; rfl) (Steps.refl _) (a := b27) (argsL := [(.int lo0), (.int ((lo0 + ln0) - (1 : Int32)))]) (rest := [(.ref b27), (.ref b25)]) (lenOf own_pd14 rfl) rfl (by show 2 * 0 + _ ≤ _; exact Nat.le_of_eq rfl) (hb hby at_180) (fun _ _ => ⟨rfl, e27, (by decide : 2 + 0 ≤ _), (by decide : 5 + 0 ≤ _)⟩)
    dsimp only [Pt.U, Pt.locs, Pt.cells, Pt.slots] at X32 l32 y32 z32 st32 hQ32
    subst l32 y32 z32
    obtain ⟨rfl, N32q, Kc32, Ec32, Flc32, Fuc32⟩ := hQ32
    have N32 := Fr.app N26 N32q
    have Ek33 := Ek28.keep Kc32
    have Fk34 := Fk29.keep Kc32 (own_one ne_b25_b27)
    have Fk35 := Fk30.keep Kc32 (own_one ne_b25_b27)
    have Fk36 := Fk31.keep Kc32 (own_one ne_b25_b27)
    have Z32 : n0 ≤ T32.heap.size := Nat.le_trans Z27 Kc32.1
    have O32 : Ext h0 T32.heap := own_ext_keep O27 Kc32 (own_all1 hz_b27)
    have K32 : Keep h0 T32.heap [] := K27.trans Kc32 (own_or1 (Or.inr hz_b27))
    refine own_goT (T' := T32) (g' := (mkF m 183 #[.val (.long xa), .second, .val (.long xb), .second, .val (.long xc), .second, .val (.int xn), .val (.int xx), .val (.int (Int32.ofNat N)), .val (.int lo0), .val (.int ln0), .val (.int lo1), .val (.int ln1), .val (.int lo2), .val (.int ln2), .val (.int lo3), .val (.int ln3), .val (.int lo4), .val (.int ln4), .val (.int lo5), .val (.int ln5), .val (.ref b25), .unset, .unset, .unset, .unset, .unset, .unset, .unset, .unset, .unset, .unset, .unset, .unset, .unset, .unset, .unset, .unset, .unset, .unset, .unset, .unset, .unset, .unset] [(.ref b27), (.ref b25)])) st32 ?_
    obtain ⟨cq37, kq37, q37a, q37b, q37c⟩ := isOf hZ rfl Ek33
    obtain ⟨_, _, ⟨T37, L37, k37, n37⟩, -, X37, ⟨Lc37, hQ37, l37, y37, z37⟩, st37⟩ := X32.virtualBack hx (y := (⟨"java/util/ArrayList", "add", "(Ljava/lang/Object;)Z"⟩ : MethodName)) (z := (⟨"java/util/ArrayList", "add", "(Ljava/lang/Object;)Z"⟩ : MethodName)) hown (mvT hZ (hw _ (List.mem_of_getElem? (i := 52) rfl))) (mvT hZ (hw _ (List.mem_of_getElem? (i := 53) rfl))) (notFace_of_selects (args := #[]) (mvT hZ (hw _ (List.mem_of_getElem? (i := 55) rfl)))) (mvT hZ (hw _ (List.mem_of_getElem? (i := 55) rfl))) (mvT hZ (hw _ (List.mem_of_getElem? (i := 54) rfl))) (by decide) (backOf (W := 0) (own_rA0 l Z a0 hw [] b25 b27 (0 : Int32) xd kd T32.heap n0 Z32 Ek33 Fk34 Fk35 Fk36 gz_b25 (Sd.ext O32) (Ad.ext O32) Ec32) hZ (hw _ (List.mem_of_getElem? (i := 56) rfl)) (hw _ (List.mem_of_getElem? (i := 12) rfl)) (by decide) (by decide)) q37a q37c (g := (mkF m 183 #[.val (.long xa), .second, .val (.long xb), .second, .val (.long xc), .second, .val (.int xn), .val (.int xx), .val (.int (Int32.ofNat N)), .val (.int lo0), .val (.int ln0), .val (.int lo1), .val (.int ln1), .val (.int lo2), .val (.int ln2), .val (.int lo3), .val (.int ln3), .val (.int lo4), .val (.int ln4), .val (.int lo5), .val (.int ln5), .val (.ref b25), .unset, .unset, .unset, .unset, .unset, .unset, .unset, .unset, .unset, .unset, .unset, .unset, .unset, .unset, .unset, .unset, .unset, .unset, .unset, .unset, .unset, .unset] [(.ref b27), (.ref b25)])) rfl (by rw [hml]; rfl) (Steps.refl _) (argsL := [(.ref b27)]) (rest := []) (lenOf own_pd15 rfl) rfl (by show 2 * 0 + _ ≤ _; exact Nat.le_of_eq rfl) (hb hby at_183) (fun _ _ => ⟨rfl, rfl, (by decide : 2 + 1 ≤ _), (by decide : 5 + 10 ≤ _)⟩)
    dsimp only [Pt.U, Pt.locs, Pt.cells, Pt.slots] at X37 l37 y37 z37 st37 hQ37
    subst l37 y37 z37
    obtain ⟨rfl, N37q, Kc37, -, r37, ka37, hzr37, Ec37, Fmc37, Fec37, Fsc37, Vc37, Ov37, -⟩ := hQ37
    have N37 := Fr.app N32 N37q
    have ne_b25_r37 : b25 ≠ r37 := Nat.ne_of_lt (Nat.lt_of_lt_of_le Ek33.lt hzr37)
    have ne_b27_r37 : b27 ≠ r37 := Nat.ne_of_lt (Nat.lt_of_lt_of_le Ec32.lt hzr37)
    have gz_r37 : n0 ≤ r37 := Nat.le_trans Z32 hzr37
    have hz_r37 : h0.size ≤ r37 := Nat.le_trans K32.1 hzr37
    have Ek38 := Ec32.keep Kc37
    have Fk39 := Flc32.keep Kc37 (own_one (Ne.symm ne_b25_b27))
    have Fk40 := Fuc32.keep Kc37 (own_one (Ne.symm ne_b25_b27))
    have Z37 : n0 ≤ T37.heap.size := Nat.le_trans Z32 Kc37.1
    have O37 : Ext h0 T37.heap := own_ext_keep O32 Kc37 (own_all1 hz_b25)
    have K37 : Keep h0 T37.heap [] := K32.trans Kc37 (own_or1 (Or.inr hz_b25))
    refine own_goT (T' := T37) (g' := (mkF m 186 #[.val (.long xa), .second, .val (.long xb), .second, .val (.long xc), .second, .val (.int xn), .val (.int xx), .val (.int (Int32.ofNat N)), .val (.int lo0), .val (.int ln0), .val (.int lo1), .val (.int ln1), .val (.int lo2), .val (.int ln2), .val (.int lo3), .val (.int ln3), .val (.int lo4), .val (.int ln4), .val (.int lo5), .val (.int ln5), .val (.ref b25), .unset, .unset, .unset, .unset, .unset, .unset, .unset, .unset, .unset, .unset, .unset, .unset, .unset, .unset, .unset, .unset, .unset, .unset, .unset, .unset, .unset, .unset] [(.int (1 : Int32))])) st37 ?_
    refine own_go (T' := T37) (g' := (mkF m 187 #[.val (.long xa), .second, .val (.long xb), .second, .val (.long xc), .second, .val (.int xn), .val (.int xx), .val (.int (Int32.ofNat N)), .val (.int lo0), .val (.int ln0), .val (.int lo1), .val (.int ln1), .val (.int lo2), .val (.int ln2), .val (.int lo3), .val (.int ln3), .val (.int lo4), .val (.int ln4), .val (.int lo5), .val (.int ln5), .val (.ref b25), .unset, .unset, .unset, .unset, .unset, .unset, .unset, .unset, .unset, .unset, .unset, .unset, .unset, .unset, .unset, .unset, .unset, .unset, .unset, .unset, .unset, .unset] [])) (fun _ k => XS.pop X37.here hx rfl (hb hby at_186) rfl rfl k) ?_
    refine own_go (T' := T37) (g' := (mkF m 189 #[.val (.long xa), .second, .val (.long xb), .second, .val (.long xc), .second, .val (.int xn), .val (.int xx), .val (.int (Int32.ofNat N)), .val (.int lo0), .val (.int ln0), .val (.int lo1), .val (.int ln1), .val (.int lo2), .val (.int ln2), .val (.int lo3), .val (.int ln3), .val (.int lo4), .val (.int ln4), .val (.int lo5), .val (.int ln5), .val (.ref b25), .unset, .unset, .unset, .unset, .unset, .unset, .unset, .unset, .unset, .unset, .unset, .unset, .unset, .unset, .unset, .unset, .unset, .unset, .unset, .unset, .unset, .unset] [(.int (Int32.ofNat N))])) (fun _ k => XS.iload X37.here hx rfl (hb hby at_187) rfl k) ?_
    refine own_go (T' := T37) (g' := (mkF m 190 #[.val (.long xa), .second, .val (.long xb), .second, .val (.long xc), .second, .val (.int xn), .val (.int xx), .val (.int (Int32.ofNat N)), .val (.int lo0), .val (.int ln0), .val (.int lo1), .val (.int ln1), .val (.int lo2), .val (.int ln2), .val (.int lo3), .val (.int ln3), .val (.int lo4), .val (.int ln4), .val (.int lo5), .val (.int ln5), .val (.ref b25), .unset, .unset, .unset, .unset, .unset, .unset, .unset, .unset, .unset, .unset, .unset, .unset, .unset, .unset, .unset, .unset, .unset, .unset, .unset, .unset, .unset, .unset] [(.int (1 : Int32)), (.int (Int32.ofNat N))])) (fun _ k => XS.iconst X37.here hx rfl (hb hby at_189) k) ?_
    by_cases hc190 : (1 : Int32) < (Int32.ofNat N)
    · refine own_go (T' := T37) (g' := (mkF m 193 #[.val (.long xa), .second, .val (.long xb), .second, .val (.long xc), .second, .val (.int xn), .val (.int xx), .val (.int (Int32.ofNat N)), .val (.int lo0), .val (.int ln0), .val (.int lo1), .val (.int ln1), .val (.int lo2), .val (.int ln2), .val (.int lo3), .val (.int ln3), .val (.int lo4), .val (.int ln4), .val (.int lo5), .val (.int ln5), .val (.ref b25), .unset, .unset, .unset, .unset, .unset, .unset, .unset, .unset, .unset, .unset, .unset, .unset, .unset, .unset, .unset, .unset, .unset, .unset, .unset, .unset, .unset, .unset] [])) (fun _ k => XS.icmpNo X37.here hx rfl (hb hby at_190) rfl (tlt (hc190 : (1 : Int32) < (Int32.ofNat N))).2.2.2 k) ?_
      refine own_go (T' := T37) (g' := (mkF m 195 #[.val (.long xa), .second, .val (.long xb), .second, .val (.long xc), .second, .val (.int xn), .val (.int xx), .val (.int (Int32.ofNat N)), .val (.int lo0), .val (.int ln0), .val (.int lo1), .val (.int ln1), .val (.int lo2), .val (.int ln2), .val (.int lo3), .val (.int ln3), .val (.int lo4), .val (.int ln4), .val (.int lo5), .val (.int ln5), .val (.ref b25), .unset, .unset, .unset, .unset, .unset, .unset, .unset, .unset, .unset, .unset, .unset, .unset, .unset, .unset, .unset, .unset, .unset, .unset, .unset, .unset, .unset, .unset] [(.ref b25)])) (fun _ k => XS.aload X37.here hx rfl (hb hby at_193) rfl rfl k) ?_
      obtain ⟨T41, h41, X41, e41, E41, A41, D41, -, st41⟩ := newO X37 hx hZ hown (hw _ (List.mem_of_getElem? (i := 36) rfl)) (hw _ (List.mem_of_getElem? (i := 37) rfl)) (hw _ (List.mem_of_getElem? (i := 38) rfl)) rfl (g := (mkF m 195 #[.val (.long xa), .second, .val (.long xb), .second, .val (.long xc), .second, .val (.int xn), .val (.int xx), .val (.int (Int32.ofNat N)), .val (.int lo0), .val (.int ln0), .val (.int lo1), .val (.int ln1), .val (.int lo2), .val (.int ln2), .val (.int lo3), .val (.int ln3), .val (.int lo4), .val (.int ln4), .val (.int lo5), .val (.int ln5), .val (.ref b25), .unset, .unset, .unset, .unset, .unset, .unset, .unset, .unset, .unset, .unset, .unset, .unset, .unset, .unset, .unset, .unset, .unset, .unset, .unset, .unset, .unset, .unset] [(.ref b25)])) rfl (hb hby at_195) (by decide) (by decide)
      obtain ⟨b41, g41⟩ : ∃ z, z = T37.heap.size := ⟨_, rfl⟩
      rw [← g41] at A41 D41 st41
      have ne_b27_b41 : b27 ≠ b41 := Nat.ne_of_lt (Nat.lt_of_lt_of_le Ek38.lt (Nat.le_of_eq g41.symm))
      have ne_b25_b41 : b25 ≠ b41 := Nat.ne_of_lt (Nat.lt_of_lt_of_le Ec37.lt (Nat.le_of_eq g41.symm))
      have ne_r37_b41 : r37 ≠ b41 := Nat.ne_of_lt (Nat.lt_of_lt_of_le Vc37.lt (Nat.le_of_eq g41.symm))
      have gz_b41 : n0 ≤ b41 := Nat.le_trans Z37 (Nat.le_of_eq g41.symm)
      have hz_b41 : h0.size ≤ b41 := Nat.le_trans K37.1 (Nat.le_of_eq g41.symm)
      have Ek42 := Ek38.ext E41
      have Fk43 := Fk39.ext E41
      have Fk44 := Fk40.ext E41
      have Ek45 := Ec37.ext E41
      have Fk46 := Fmc37.ext E41
      have Fk47 := Fec37.ext E41
      have Fk48 := Fsc37.ext E41
      have Vk49 := Vc37.ext E41
      have Z41 : n0 ≤ h41.size := Nat.le_trans Z37 E41.1
      have O41 : Ext h0 h41 := own_ext_tr O37 E41
      have K41 : Keep h0 h41 [] := K37.ext E41
      have Flower_b41 : Fld Z h41 b41 "com/example/benchlight/benchlight/Bounds$Dimension" "lower" "I" (.int (0 : Int32)) := D41 (Or.inr (hw _ (List.mem_of_getElem? (i := 49) rfl))) (ty := .int) (by decide)
      have Fupper_b41 : Fld Z h41 b41 "com/example/benchlight/benchlight/Bounds$Dimension" "upper" "I" (.int (0 : Int32)) := D41 (Or.inr (hw _ (List.mem_of_getElem? (i := 51) rfl))) (ty := .int) (by decide)
      refine own_go (T' := T41) (g' := (mkF m 198 #[.val (.long xa), .second, .val (.long xb), .second, .val (.long xc), .second, .val (.int xn), .val (.int xx), .val (.int (Int32.ofNat N)), .val (.int lo0), .val (.int ln0), .val (.int lo1), .val (.int ln1), .val (.int lo2), .val (.int ln2), .val (.int lo3), .val (.int ln3), .val (.int lo4), .val (.int ln4), .val (.int lo5), .val (.int ln5), .val (.ref b25), .unset, .unset, .unset, .unset, .unset, .unset, .unset, .unset, .unset, .unset, .unset, .unset, .unset, .unset, .unset, .unset, .unset, .unset, .unset, .unset, .unset, .unset] [(.ref b41), (.ref b25)])) (fun _ k => st41 _ k) ?_
      refine own_go (T' := T41) (g' := (mkF m 199 #[.val (.long xa), .second, .val (.long xb), .second, .val (.long xc), .second, .val (.int xn), .val (.int xx), .val (.int (Int32.ofNat N)), .val (.int lo0), .val (.int ln0), .val (.int lo1), .val (.int ln1), .val (.int lo2), .val (.int ln2), .val (.int lo3), .val (.int ln3), .val (.int lo4), .val (.int ln4), .val (.int lo5), .val (.int ln5), .val (.ref b25), .unset, .unset, .unset, .unset, .unset, .unset, .unset, .unset, .unset, .unset, .unset, .unset, .unset, .unset, .unset, .unset, .unset, .unset, .unset, .unset, .unset, .unset] [(.ref b41), (.ref b41), (.ref b25)])) (fun _ k => XS.dup X41.here hx rfl (hb hby at_198) rfl rfl k) ?_
      refine own_go (T' := T41) (g' := (mkF m 201 #[.val (.long xa), .second, .val (.long xb), .second, .val (.long xc), .second, .val (.int xn), .val (.int xx), .val (.int (Int32.ofNat N)), .val (.int lo0), .val (.int ln0), .val (.int lo1), .val (.int ln1), .val (.int lo2), .val (.int ln2), .val (.int lo3), .val (.int ln3), .val (.int lo4), .val (.int ln4), .val (.int lo5), .val (.int ln5), .val (.ref b25), .unset, .unset, .unset, .unset, .unset, .unset, .unset, .unset, .unset, .unset, .unset, .unset, .unset, .unset, .unset, .unset, .unset, .unset, .unset, .unset, .unset, .unset] [(.int lo1), (.ref b41), (.ref b41), (.ref b25)])) (fun _ k => XS.iload X41.here hx rfl (hb hby at_199) rfl k) ?_
      refine own_go (T' := T41) (g' := (mkF m 203 #[.val (.long xa), .second, .val (.long xb), .second, .val (.long xc), .second, .val (.int xn), .val (.int xx), .val (.int (Int32.ofNat N)), .val (.int lo0), .val (.int ln0), .val (.int lo1), .val (.int ln1), .val (.int lo2), .val (.int ln2), .val (.int lo3), .val (.int ln3), .val (.int lo4), .val (.int ln4), .val (.int lo5), .val (.int ln5), .val (.ref b25), .unset, .unset, .unset, .unset, .unset, .unset, .unset, .unset, .unset, .unset, .unset, .unset, .unset, .unset, .unset, .unset, .unset, .unset, .unset, .unset, .unset, .unset] [(.int lo1), (.int lo1), (.ref b41), (.ref b41), (.ref b25)])) (fun _ k => XS.iload X41.here hx rfl (hb hby at_201) rfl k) ?_
      refine own_go (T' := T41) (g' := (mkF m 205 #[.val (.long xa), .second, .val (.long xb), .second, .val (.long xc), .second, .val (.int xn), .val (.int xx), .val (.int (Int32.ofNat N)), .val (.int lo0), .val (.int ln0), .val (.int lo1), .val (.int ln1), .val (.int lo2), .val (.int ln2), .val (.int lo3), .val (.int ln3), .val (.int lo4), .val (.int ln4), .val (.int lo5), .val (.int ln5), .val (.ref b25), .unset, .unset, .unset, .unset, .unset, .unset, .unset, .unset, .unset, .unset, .unset, .unset, .unset, .unset, .unset, .unset, .unset, .unset, .unset, .unset, .unset, .unset] [(.int ln1), (.int lo1), (.int lo1), (.ref b41), (.ref b41), (.ref b25)])) (fun _ k => XS.iload X41.here hx rfl (hb hby at_203) rfl k) ?_
      refine own_go (T' := T41) (g' := (mkF m 206 #[.val (.long xa), .second, .val (.long xb), .second, .val (.long xc), .second, .val (.int xn), .val (.int xx), .val (.int (Int32.ofNat N)), .val (.int lo0), .val (.int ln0), .val (.int lo1), .val (.int ln1), .val (.int lo2), .val (.int ln2), .val (.int lo3), .val (.int ln3), .val (.int lo4), .val (.int ln4), .val (.int lo5), .val (.int ln5), .val (.ref b25), .unset, .unset, .unset, .unset, .unset, .unset, .unset, .unset, .unset, .unset, .unset, .unset, .unset, .unset, .unset, .unset, .unset, .unset, .unset, .unset, .unset, .unset] [(.int (lo1 + ln1)), (.int lo1), (.ref b41), (.ref b41), (.ref b25)])) (fun _ k => XS.iadd X41.here hx rfl (hb hby at_205) rfl k) ?_
      refine own_go (T' := T41) (g' := (mkF m 207 #[.val (.long xa), .second, .val (.long xb), .second, .val (.long xc), .second, .val (.int xn), .val (.int xx), .val (.int (Int32.ofNat N)), .val (.int lo0), .val (.int ln0), .val (.int lo1), .val (.int ln1), .val (.int lo2), .val (.int ln2), .val (.int lo3), .val (.int ln3), .val (.int lo4), .val (.int ln4), .val (.int lo5), .val (.int ln5), .val (.ref b25), .unset, .unset, .unset, .unset, .unset, .unset, .unset, .unset, .unset, .unset, .unset, .unset, .unset, .unset, .unset, .unset, .unset, .unset, .unset, .unset, .unset, .unset] [(.int (1 : Int32)), (.int (lo1 + ln1)), (.int lo1), (.ref b41), (.ref b41), (.ref b25)])) (fun _ k => XS.iconst X41.here hx rfl (hb hby at_206) k) ?_
      refine own_go (T' := T41) (g' := (mkF m 208 #[.val (.long xa), .second, .val (.long xb), .second, .val (.long xc), .second, .val (.int xn), .val (.int xx), .val (.int (Int32.ofNat N)), .val (.int lo0), .val (.int ln0), .val (.int lo1), .val (.int ln1), .val (.int lo2), .val (.int ln2), .val (.int lo3), .val (.int ln3), .val (.int lo4), .val (.int ln4), .val (.int lo5), .val (.int ln5), .val (.ref b25), .unset, .unset, .unset, .unset, .unset, .unset, .unset, .unset, .unset, .unset, .unset, .unset, .unset, .unset, .unset, .unset, .unset, .unset, .unset, .unset, .unset, .unset] [(.int ((lo1 + ln1) - (1 : Int32))), (.int lo1), (.ref b41), (.ref b41), (.ref b25)])) (fun _ k => XS.isub X41.here hx rfl (hb hby at_207) rfl k) ?_
      obtain ⟨_, _, ⟨T50, L50, k50, n50⟩, -, X50, ⟨Lc50, hQ50, l50, y50, z50⟩, st50⟩ := X41.specialBack hx (y := (⟨"com/example/benchlight/benchlight/Bounds$Dimension", "<init>", "(II)V"⟩ : MethodName)) rfl hown (mvT hZ (hw _ (List.mem_of_getElem? (i := 39) rfl))) (mvT hZ (hw _ (List.mem_of_getElem? (i := 40) rfl))) (mvT hZ (hw _ (List.mem_of_getElem? (i := 41) rfl))) (by decide) (backOf (W := 2) (own_rDi l Z a0 hw [] b41 lo1 ((lo1 + ln1) - (1 : Int32)) h41 n0 Z41 A41 Flower_b41 Fupper_b41 gz_b41) hZ (hw _ (List.mem_of_getElem? (i := 41) rfl)) (hw _ (List.mem_of_getElem? (i := 38) rfl)) (by decide) (by decide)) (g := (mkF m 208 #[.val (.long xa), .second, .val (.long xb), .second, .val (.long xc), .second, .val (.int xn), .val (.int xx), .val (.int (Int32.ofNat N)), .val (.int lo0), .val (.int ln0), .val (.int lo1), .val (.int ln1), .val (.int lo2), .val (.int ln2), .val (.int lo3), .val (.int ln3), .val (.int lo4), .val (.int ln4), .val (.int lo5), .val (.int ln5), .val (.ref b25), .unset, .unset, .unset, .unset, .unset, .unset, .unset, .unset, .unset, .unset, .unset, .unset, .unset, .unset, .unset, .unset, .unset, .unset, .unset, .unset, .unset, .unset] [(.int ((lo1 + ln1) - (1 : Int32))), (.int lo1), (.ref b41), (.ref b41), (.ref b25)])) rfl (by rw [hml]; rfl) (Steps.refl _) (a := b41) (argsL := [(.int lo1), (.int ((lo1 + ln1) - (1 : Int32)))]) (rest := [(.ref b41), (.ref b25)]) (lenOf own_pd14 rfl) rfl (by show 2 * 0 + _ ≤ _; exact Nat.le_of_eq rfl) (hb hby at_208) (fun _ _ => ⟨rfl, e41, (by decide : 4 + 0 ≤ _), (by decide : 17 + 0 ≤ _)⟩)
      dsimp only [Pt.U, Pt.locs, Pt.cells, Pt.slots] at X50 l50 y50 z50 st50 hQ50
      subst l50 y50 z50
      obtain ⟨rfl, N50q, Kc50, Ec50, Flc50, Fuc50⟩ := hQ50
      have N50 := Fr.app N37 N50q
      have Ek51 := Ek42.keep Kc50
      have Fk52 := Fk43.keep Kc50 (own_one ne_b27_b41)
      have Fk53 := Fk44.keep Kc50 (own_one ne_b27_b41)
      have Ek54 := Ek45.keep Kc50
      have Fk55 := Fk46.keep Kc50 (own_one ne_b25_b41)
      have Fk56 := Fk47.keep Kc50 (own_one ne_b25_b41)
      have Fk57 := Fk48.keep Kc50 (own_one ne_b25_b41)
      have Vk58 := Vk49.keep Kc50 (own_one ne_r37_b41)
      have Z50 : n0 ≤ T50.heap.size := Nat.le_trans Z41 Kc50.1
      have O50 : Ext h0 T50.heap := own_ext_keep O41 Kc50 (own_all1 hz_b41)
      have K50 : Keep h0 T50.heap [] := K41.trans Kc50 (own_or1 (Or.inr hz_b41))
      refine own_goT (T' := T50) (g' := (mkF m 211 #[.val (.long xa), .second, .val (.long xb), .second, .val (.long xc), .second, .val (.int xn), .val (.int xx), .val (.int (Int32.ofNat N)), .val (.int lo0), .val (.int ln0), .val (.int lo1), .val (.int ln1), .val (.int lo2), .val (.int ln2), .val (.int lo3), .val (.int ln3), .val (.int lo4), .val (.int ln4), .val (.int lo5), .val (.int ln5), .val (.ref b25), .unset, .unset, .unset, .unset, .unset, .unset, .unset, .unset, .unset, .unset, .unset, .unset, .unset, .unset, .unset, .unset, .unset, .unset, .unset, .unset, .unset, .unset] [(.ref b41), (.ref b25)])) st50 ?_
      obtain ⟨cq59, kq59, q59a, q59b, q59c⟩ := isOf hZ rfl Ek54
      obtain ⟨_, _, ⟨T59, L59, k59, n59⟩, -, X59, ⟨Lc59, hQ59, l59, y59, z59⟩, st59⟩ := X50.virtualBack hx (y := (⟨"java/util/ArrayList", "add", "(Ljava/lang/Object;)Z"⟩ : MethodName)) (z := (⟨"java/util/ArrayList", "add", "(Ljava/lang/Object;)Z"⟩ : MethodName)) hown (mvT hZ (hw _ (List.mem_of_getElem? (i := 52) rfl))) (mvT hZ (hw _ (List.mem_of_getElem? (i := 53) rfl))) (notFace_of_selects (args := #[]) (mvT hZ (hw _ (List.mem_of_getElem? (i := 55) rfl)))) (mvT hZ (hw _ (List.mem_of_getElem? (i := 55) rfl))) (mvT hZ (hw _ (List.mem_of_getElem? (i := 54) rfl))) (by decide) (backOf (W := 0) (own_rA1 l Z a0 hw [] b25 b41 ((0 : Int32) + (1 : Int32)) r37 ka37 b27 T50.heap n0 Z50 Ek54 Fk55 Fk56 Fk57 gz_b25 gz_r37 ne_b25_r37 Vk58 Ov37 Ec50) hZ (hw _ (List.mem_of_getElem? (i := 56) rfl)) (hw _ (List.mem_of_getElem? (i := 12) rfl)) (by decide) (by decide)) q59a q59c (g := (mkF m 211 #[.val (.long xa), .second, .val (.long xb), .second, .val (.long xc), .second, .val (.int xn), .val (.int xx), .val (.int (Int32.ofNat N)), .val (.int lo0), .val (.int ln0), .val (.int lo1), .val (.int ln1), .val (.int lo2), .val (.int ln2), .val (.int lo3), .val (.int ln3), .val (.int lo4), .val (.int ln4), .val (.int lo5), .val (.int ln5), .val (.ref b25), .unset, .unset, .unset, .unset, .unset, .unset, .unset, .unset, .unset, .unset, .unset, .unset, .unset, .unset, .unset, .unset, .unset, .unset, .unset, .unset, .unset, .unset] [(.ref b41), (.ref b25)])) rfl (by rw [hml]; rfl) (Steps.refl _) (argsL := [(.ref b41)]) (rest := []) (lenOf own_pd15 rfl) rfl (by show 2 * 0 + _ ≤ _; exact Nat.le_of_eq rfl) (hb hby at_211) (fun _ _ => ⟨rfl, rfl, (by decide : 4 + 0 ≤ _), (by decide : 17 + 0 ≤ _)⟩)
      dsimp only [Pt.U, Pt.locs, Pt.cells, Pt.slots] at X59 l59 y59 z59 st59 hQ59
      subst l59 y59 z59
      obtain ⟨rfl, N59q, Kc59, -, Ec59, Fmc59, Fec59, Fsc59, Vc59⟩ := hQ59
      have N59 := Fr.app N50 N59q
      have Ek60 := Ek51.keep Kc59
      have Fk61 := Fk52.keep Kc59 (own_two (Ne.symm ne_b25_b27) ne_b27_r37)
      have Fk62 := Fk53.keep Kc59 (own_two (Ne.symm ne_b25_b27) ne_b27_r37)
      have Ek63 := Ec50.keep Kc59
      have Fk64 := Flc50.keep Kc59 (own_two (Ne.symm ne_b25_b41) (Ne.symm ne_r37_b41))
      have Fk65 := Fuc50.keep Kc59 (own_two (Ne.symm ne_b25_b41) (Ne.symm ne_r37_b41))
      have Z59 : n0 ≤ T59.heap.size := Nat.le_trans Z50 Kc59.1
      have O59 : Ext h0 T59.heap := own_ext_keep O50 Kc59 (own_all2 hz_b25 hz_r37)
      have K59 : Keep h0 T59.heap [] := K50.trans Kc59 (own_or2 (Or.inr hz_b25) (Or.inr hz_r37))
      refine own_goT (T' := T59) (g' := (mkF m 214 #[.val (.long xa), .second, .val (.long xb), .second, .val (.long xc), .second, .val (.int xn), .val (.int xx), .val (.int (Int32.ofNat N)), .val (.int lo0), .val (.int ln0), .val (.int lo1), .val (.int ln1), .val (.int lo2), .val (.int ln2), .val (.int lo3), .val (.int ln3), .val (.int lo4), .val (.int ln4), .val (.int lo5), .val (.int ln5), .val (.ref b25), .unset, .unset, .unset, .unset, .unset, .unset, .unset, .unset, .unset, .unset, .unset, .unset, .unset, .unset, .unset, .unset, .unset, .unset, .unset, .unset, .unset, .unset] [(.int (1 : Int32))])) st59 ?_
      refine own_go (T' := T59) (g' := (mkF m 215 #[.val (.long xa), .second, .val (.long xb), .second, .val (.long xc), .second, .val (.int xn), .val (.int xx), .val (.int (Int32.ofNat N)), .val (.int lo0), .val (.int ln0), .val (.int lo1), .val (.int ln1), .val (.int lo2), .val (.int ln2), .val (.int lo3), .val (.int ln3), .val (.int lo4), .val (.int ln4), .val (.int lo5), .val (.int ln5), .val (.ref b25), .unset, .unset, .unset, .unset, .unset, .unset, .unset, .unset, .unset, .unset, .unset, .unset, .unset, .unset, .unset, .unset, .unset, .unset, .unset, .unset, .unset, .unset] [])) (fun _ k => XS.pop X59.here hx rfl (hb hby at_214) rfl rfl k) ?_
      refine own_go (T' := T59) (g' := (mkF m 217 #[.val (.long xa), .second, .val (.long xb), .second, .val (.long xc), .second, .val (.int xn), .val (.int xx), .val (.int (Int32.ofNat N)), .val (.int lo0), .val (.int ln0), .val (.int lo1), .val (.int ln1), .val (.int lo2), .val (.int ln2), .val (.int lo3), .val (.int ln3), .val (.int lo4), .val (.int ln4), .val (.int lo5), .val (.int ln5), .val (.ref b25), .unset, .unset, .unset, .unset, .unset, .unset, .unset, .unset, .unset, .unset, .unset, .unset, .unset, .unset, .unset, .unset, .unset, .unset, .unset, .unset, .unset, .unset] [(.int (Int32.ofNat N))])) (fun _ k => XS.iload X59.here hx rfl (hb hby at_215) rfl k) ?_
      refine own_go (T' := T59) (g' := (mkF m 218 #[.val (.long xa), .second, .val (.long xb), .second, .val (.long xc), .second, .val (.int xn), .val (.int xx), .val (.int (Int32.ofNat N)), .val (.int lo0), .val (.int ln0), .val (.int lo1), .val (.int ln1), .val (.int lo2), .val (.int ln2), .val (.int lo3), .val (.int ln3), .val (.int lo4), .val (.int ln4), .val (.int lo5), .val (.int ln5), .val (.ref b25), .unset, .unset, .unset, .unset, .unset, .unset, .unset, .unset, .unset, .unset, .unset, .unset, .unset, .unset, .unset, .unset, .unset, .unset, .unset, .unset, .unset, .unset] [(.int (2 : Int32)), (.int (Int32.ofNat N))])) (fun _ k => XS.iconst X59.here hx rfl (hb hby at_217) k) ?_
      by_cases hc218 : (2 : Int32) < (Int32.ofNat N)
      · refine own_go (T' := T59) (g' := (mkF m 221 #[.val (.long xa), .second, .val (.long xb), .second, .val (.long xc), .second, .val (.int xn), .val (.int xx), .val (.int (Int32.ofNat N)), .val (.int lo0), .val (.int ln0), .val (.int lo1), .val (.int ln1), .val (.int lo2), .val (.int ln2), .val (.int lo3), .val (.int ln3), .val (.int lo4), .val (.int ln4), .val (.int lo5), .val (.int ln5), .val (.ref b25), .unset, .unset, .unset, .unset, .unset, .unset, .unset, .unset, .unset, .unset, .unset, .unset, .unset, .unset, .unset, .unset, .unset, .unset, .unset, .unset, .unset, .unset] [])) (fun _ k => XS.icmpNo X59.here hx rfl (hb hby at_218) rfl (tlt (hc218 : (2 : Int32) < (Int32.ofNat N))).2.2.2 k) ?_
        refine own_go (T' := T59) (g' := (mkF m 223 #[.val (.long xa), .second, .val (.long xb), .second, .val (.long xc), .second, .val (.int xn), .val (.int xx), .val (.int (Int32.ofNat N)), .val (.int lo0), .val (.int ln0), .val (.int lo1), .val (.int ln1), .val (.int lo2), .val (.int ln2), .val (.int lo3), .val (.int ln3), .val (.int lo4), .val (.int ln4), .val (.int lo5), .val (.int ln5), .val (.ref b25), .unset, .unset, .unset, .unset, .unset, .unset, .unset, .unset, .unset, .unset, .unset, .unset, .unset, .unset, .unset, .unset, .unset, .unset, .unset, .unset, .unset, .unset] [(.ref b25)])) (fun _ k => XS.aload X59.here hx rfl (hb hby at_221) rfl rfl k) ?_
        obtain ⟨T66, h66, X66, e66, E66, A66, D66, -, st66⟩ := newO X59 hx hZ hown (hw _ (List.mem_of_getElem? (i := 36) rfl)) (hw _ (List.mem_of_getElem? (i := 37) rfl)) (hw _ (List.mem_of_getElem? (i := 38) rfl)) rfl (g := (mkF m 223 #[.val (.long xa), .second, .val (.long xb), .second, .val (.long xc), .second, .val (.int xn), .val (.int xx), .val (.int (Int32.ofNat N)), .val (.int lo0), .val (.int ln0), .val (.int lo1), .val (.int ln1), .val (.int lo2), .val (.int ln2), .val (.int lo3), .val (.int ln3), .val (.int lo4), .val (.int ln4), .val (.int lo5), .val (.int ln5), .val (.ref b25), .unset, .unset, .unset, .unset, .unset, .unset, .unset, .unset, .unset, .unset, .unset, .unset, .unset, .unset, .unset, .unset, .unset, .unset, .unset, .unset, .unset, .unset] [(.ref b25)])) rfl (hb hby at_223) (by decide) (by decide)
        obtain ⟨b66, g66⟩ : ∃ z, z = T59.heap.size := ⟨_, rfl⟩
        rw [← g66] at A66 D66 st66
        have ne_b27_b66 : b27 ≠ b66 := Nat.ne_of_lt (Nat.lt_of_lt_of_le Ek60.lt (Nat.le_of_eq g66.symm))
        have ne_b41_b66 : b41 ≠ b66 := Nat.ne_of_lt (Nat.lt_of_lt_of_le Ek63.lt (Nat.le_of_eq g66.symm))
        have ne_b25_b66 : b25 ≠ b66 := Nat.ne_of_lt (Nat.lt_of_lt_of_le Ec59.lt (Nat.le_of_eq g66.symm))
        have ne_r37_b66 : r37 ≠ b66 := Nat.ne_of_lt (Nat.lt_of_lt_of_le Vc59.lt (Nat.le_of_eq g66.symm))
        have gz_b66 : n0 ≤ b66 := Nat.le_trans Z59 (Nat.le_of_eq g66.symm)
        have hz_b66 : h0.size ≤ b66 := Nat.le_trans K59.1 (Nat.le_of_eq g66.symm)
        have Ek67 := Ek60.ext E66
        have Fk68 := Fk61.ext E66
        have Fk69 := Fk62.ext E66
        have Ek70 := Ek63.ext E66
        have Fk71 := Fk64.ext E66
        have Fk72 := Fk65.ext E66
        have Ek73 := Ec59.ext E66
        have Fk74 := Fmc59.ext E66
        have Fk75 := Fec59.ext E66
        have Fk76 := Fsc59.ext E66
        have Vk77 := Vc59.ext E66
        have Z66 : n0 ≤ h66.size := Nat.le_trans Z59 E66.1
        have O66 : Ext h0 h66 := own_ext_tr O59 E66
        have K66 : Keep h0 h66 [] := K59.ext E66
        have Flower_b66 : Fld Z h66 b66 "com/example/benchlight/benchlight/Bounds$Dimension" "lower" "I" (.int (0 : Int32)) := D66 (Or.inr (hw _ (List.mem_of_getElem? (i := 49) rfl))) (ty := .int) (by decide)
        have Fupper_b66 : Fld Z h66 b66 "com/example/benchlight/benchlight/Bounds$Dimension" "upper" "I" (.int (0 : Int32)) := D66 (Or.inr (hw _ (List.mem_of_getElem? (i := 51) rfl))) (ty := .int) (by decide)
        refine own_go (T' := T66) (g' := (mkF m 226 #[.val (.long xa), .second, .val (.long xb), .second, .val (.long xc), .second, .val (.int xn), .val (.int xx), .val (.int (Int32.ofNat N)), .val (.int lo0), .val (.int ln0), .val (.int lo1), .val (.int ln1), .val (.int lo2), .val (.int ln2), .val (.int lo3), .val (.int ln3), .val (.int lo4), .val (.int ln4), .val (.int lo5), .val (.int ln5), .val (.ref b25), .unset, .unset, .unset, .unset, .unset, .unset, .unset, .unset, .unset, .unset, .unset, .unset, .unset, .unset, .unset, .unset, .unset, .unset, .unset, .unset, .unset, .unset] [(.ref b66), (.ref b25)])) (fun _ k => st66 _ k) ?_
        refine own_go (T' := T66) (g' := (mkF m 227 #[.val (.long xa), .second, .val (.long xb), .second, .val (.long xc), .second, .val (.int xn), .val (.int xx), .val (.int (Int32.ofNat N)), .val (.int lo0), .val (.int ln0), .val (.int lo1), .val (.int ln1), .val (.int lo2), .val (.int ln2), .val (.int lo3), .val (.int ln3), .val (.int lo4), .val (.int ln4), .val (.int lo5), .val (.int ln5), .val (.ref b25), .unset, .unset, .unset, .unset, .unset, .unset, .unset, .unset, .unset, .unset, .unset, .unset, .unset, .unset, .unset, .unset, .unset, .unset, .unset, .unset, .unset, .unset] [(.ref b66), (.ref b66), (.ref b25)])) (fun _ k => XS.dup X66.here hx rfl (hb hby at_226) rfl rfl k) ?_
        refine own_go (T' := T66) (g' := (mkF m 229 #[.val (.long xa), .second, .val (.long xb), .second, .val (.long xc), .second, .val (.int xn), .val (.int xx), .val (.int (Int32.ofNat N)), .val (.int lo0), .val (.int ln0), .val (.int lo1), .val (.int ln1), .val (.int lo2), .val (.int ln2), .val (.int lo3), .val (.int ln3), .val (.int lo4), .val (.int ln4), .val (.int lo5), .val (.int ln5), .val (.ref b25), .unset, .unset, .unset, .unset, .unset, .unset, .unset, .unset, .unset, .unset, .unset, .unset, .unset, .unset, .unset, .unset, .unset, .unset, .unset, .unset, .unset, .unset] [(.int lo2), (.ref b66), (.ref b66), (.ref b25)])) (fun _ k => XS.iload X66.here hx rfl (hb hby at_227) rfl k) ?_
        refine own_go (T' := T66) (g' := (mkF m 231 #[.val (.long xa), .second, .val (.long xb), .second, .val (.long xc), .second, .val (.int xn), .val (.int xx), .val (.int (Int32.ofNat N)), .val (.int lo0), .val (.int ln0), .val (.int lo1), .val (.int ln1), .val (.int lo2), .val (.int ln2), .val (.int lo3), .val (.int ln3), .val (.int lo4), .val (.int ln4), .val (.int lo5), .val (.int ln5), .val (.ref b25), .unset, .unset, .unset, .unset, .unset, .unset, .unset, .unset, .unset, .unset, .unset, .unset, .unset, .unset, .unset, .unset, .unset, .unset, .unset, .unset, .unset, .unset] [(.int lo2), (.int lo2), (.ref b66), (.ref b66), (.ref b25)])) (fun _ k => XS.iload X66.here hx rfl (hb hby at_229) rfl k) ?_
        refine own_go (T' := T66) (g' := (mkF m 233 #[.val (.long xa), .second, .val (.long xb), .second, .val (.long xc), .second, .val (.int xn), .val (.int xx), .val (.int (Int32.ofNat N)), .val (.int lo0), .val (.int ln0), .val (.int lo1), .val (.int ln1), .val (.int lo2), .val (.int ln2), .val (.int lo3), .val (.int ln3), .val (.int lo4), .val (.int ln4), .val (.int lo5), .val (.int ln5), .val (.ref b25), .unset, .unset, .unset, .unset, .unset, .unset, .unset, .unset, .unset, .unset, .unset, .unset, .unset, .unset, .unset, .unset, .unset, .unset, .unset, .unset, .unset, .unset] [(.int ln2), (.int lo2), (.int lo2), (.ref b66), (.ref b66), (.ref b25)])) (fun _ k => XS.iload X66.here hx rfl (hb hby at_231) rfl k) ?_
        refine own_go (T' := T66) (g' := (mkF m 234 #[.val (.long xa), .second, .val (.long xb), .second, .val (.long xc), .second, .val (.int xn), .val (.int xx), .val (.int (Int32.ofNat N)), .val (.int lo0), .val (.int ln0), .val (.int lo1), .val (.int ln1), .val (.int lo2), .val (.int ln2), .val (.int lo3), .val (.int ln3), .val (.int lo4), .val (.int ln4), .val (.int lo5), .val (.int ln5), .val (.ref b25), .unset, .unset, .unset, .unset, .unset, .unset, .unset, .unset, .unset, .unset, .unset, .unset, .unset, .unset, .unset, .unset, .unset, .unset, .unset, .unset, .unset, .unset] [(.int (lo2 + ln2)), (.int lo2), (.ref b66), (.ref b66), (.ref b25)])) (fun _ k => XS.iadd X66.here hx rfl (hb hby at_233) rfl k) ?_
        refine own_go (T' := T66) (g' := (mkF m 235 #[.val (.long xa), .second, .val (.long xb), .second, .val (.long xc), .second, .val (.int xn), .val (.int xx), .val (.int (Int32.ofNat N)), .val (.int lo0), .val (.int ln0), .val (.int lo1), .val (.int ln1), .val (.int lo2), .val (.int ln2), .val (.int lo3), .val (.int ln3), .val (.int lo4), .val (.int ln4), .val (.int lo5), .val (.int ln5), .val (.ref b25), .unset, .unset, .unset, .unset, .unset, .unset, .unset, .unset, .unset, .unset, .unset, .unset, .unset, .unset, .unset, .unset, .unset, .unset, .unset, .unset, .unset, .unset] [(.int (1 : Int32)), (.int (lo2 + ln2)), (.int lo2), (.ref b66), (.ref b66), (.ref b25)])) (fun _ k => XS.iconst X66.here hx rfl (hb hby at_234) k) ?_
        refine own_go (T' := T66) (g' := (mkF m 236 #[.val (.long xa), .second, .val (.long xb), .second, .val (.long xc), .second, .val (.int xn), .val (.int xx), .val (.int (Int32.ofNat N)), .val (.int lo0), .val (.int ln0), .val (.int lo1), .val (.int ln1), .val (.int lo2), .val (.int ln2), .val (.int lo3), .val (.int ln3), .val (.int lo4), .val (.int ln4), .val (.int lo5), .val (.int ln5), .val (.ref b25), .unset, .unset, .unset, .unset, .unset, .unset, .unset, .unset, .unset, .unset, .unset, .unset, .unset, .unset, .unset, .unset, .unset, .unset, .unset, .unset, .unset, .unset] [(.int ((lo2 + ln2) - (1 : Int32))), (.int lo2), (.ref b66), (.ref b66), (.ref b25)])) (fun _ k => XS.isub X66.here hx rfl (hb hby at_235) rfl k) ?_
        obtain ⟨_, _, ⟨T78, L78, k78, n78⟩, -, X78, ⟨Lc78, hQ78, l78, y78, z78⟩, st78⟩ := X66.specialBack hx (y := (⟨"com/example/benchlight/benchlight/Bounds$Dimension", "<init>", "(II)V"⟩ : MethodName)) rfl hown (mvT hZ (hw _ (List.mem_of_getElem? (i := 39) rfl))) (mvT hZ (hw _ (List.mem_of_getElem? (i := 40) rfl))) (mvT hZ (hw _ (List.mem_of_getElem? (i := 41) rfl))) (by decide) (backOf (W := 2) (own_rDi l Z a0 hw [] b66 lo2 ((lo2 + ln2) - (1 : Int32)) h66 n0 Z66 A66 Flower_b66 Fupper_b66 gz_b66) hZ (hw _ (List.mem_of_getElem? (i := 41) rfl)) (hw _ (List.mem_of_getElem? (i := 38) rfl)) (by decide) (by decide)) (g := (mkF m 236 #[.val (.long xa), .second, .val (.long xb), .second, .val (.long xc), .second, .val (.int xn), .val (.int xx), .val (.int (Int32.ofNat N)), .val (.int lo0), .val (.int ln0), .val (.int lo1), .val (.int ln1), .val (.int lo2), .val (.int ln2), .val (.int lo3), .val (.int ln3), .val (.int lo4), .val (.int ln4), .val (.int lo5), .val (.int ln5), .val (.ref b25), .unset, .unset, .unset, .unset, .unset, .unset, .unset, .unset, .unset, .unset, .unset, .unset, .unset, .unset, .unset, .unset, .unset, .unset, .unset, .unset, .unset, .unset] [(.int ((lo2 + ln2) - (1 : Int32))), (.int lo2), (.ref b66), (.ref b66), (.ref b25)])) rfl (by rw [hml]; rfl) (Steps.refl _) (a := b66) (argsL := [(.int lo2), (.int ((lo2 + ln2) - (1 : Int32)))]) (rest := [(.ref b66), (.ref b25)]) (lenOf own_pd14 rfl) rfl (by show 2 * 0 + _ ≤ _; exact Nat.le_of_eq rfl) (hb hby at_236) (fun _ _ => ⟨rfl, e66, (by decide : 5 + 0 ≤ _), (by decide : 19 + 0 ≤ _)⟩)
        dsimp only [Pt.U, Pt.locs, Pt.cells, Pt.slots] at X78 l78 y78 z78 st78 hQ78
        subst l78 y78 z78
        obtain ⟨rfl, N78q, Kc78, Ec78, Flc78, Fuc78⟩ := hQ78
        have N78 := Fr.app N59 N78q
        have Ek79 := Ek67.keep Kc78
        have Fk80 := Fk68.keep Kc78 (own_one ne_b27_b66)
        have Fk81 := Fk69.keep Kc78 (own_one ne_b27_b66)
        have Ek82 := Ek70.keep Kc78
        have Fk83 := Fk71.keep Kc78 (own_one ne_b41_b66)
        have Fk84 := Fk72.keep Kc78 (own_one ne_b41_b66)
        have Ek85 := Ek73.keep Kc78
        have Fk86 := Fk74.keep Kc78 (own_one ne_b25_b66)
        have Fk87 := Fk75.keep Kc78 (own_one ne_b25_b66)
        have Fk88 := Fk76.keep Kc78 (own_one ne_b25_b66)
        have Vk89 := Vk77.keep Kc78 (own_one ne_r37_b66)
        have Z78 : n0 ≤ T78.heap.size := Nat.le_trans Z66 Kc78.1
        have O78 : Ext h0 T78.heap := own_ext_keep O66 Kc78 (own_all1 hz_b66)
        have K78 : Keep h0 T78.heap [] := K66.trans Kc78 (own_or1 (Or.inr hz_b66))
        refine own_goT (T' := T78) (g' := (mkF m 239 #[.val (.long xa), .second, .val (.long xb), .second, .val (.long xc), .second, .val (.int xn), .val (.int xx), .val (.int (Int32.ofNat N)), .val (.int lo0), .val (.int ln0), .val (.int lo1), .val (.int ln1), .val (.int lo2), .val (.int ln2), .val (.int lo3), .val (.int ln3), .val (.int lo4), .val (.int ln4), .val (.int lo5), .val (.int ln5), .val (.ref b25), .unset, .unset, .unset, .unset, .unset, .unset, .unset, .unset, .unset, .unset, .unset, .unset, .unset, .unset, .unset, .unset, .unset, .unset, .unset, .unset, .unset, .unset] [(.ref b66), (.ref b25)])) st78 ?_
        obtain ⟨cq90, kq90, q90a, q90b, q90c⟩ := isOf hZ rfl Ek85
        obtain ⟨_, _, ⟨T90, L90, k90, n90⟩, -, X90, ⟨Lc90, hQ90, l90, y90, z90⟩, st90⟩ := X78.virtualBack hx (y := (⟨"java/util/ArrayList", "add", "(Ljava/lang/Object;)Z"⟩ : MethodName)) (z := (⟨"java/util/ArrayList", "add", "(Ljava/lang/Object;)Z"⟩ : MethodName)) hown (mvT hZ (hw _ (List.mem_of_getElem? (i := 52) rfl))) (mvT hZ (hw _ (List.mem_of_getElem? (i := 53) rfl))) (notFace_of_selects (args := #[]) (mvT hZ (hw _ (List.mem_of_getElem? (i := 55) rfl)))) (mvT hZ (hw _ (List.mem_of_getElem? (i := 55) rfl))) (mvT hZ (hw _ (List.mem_of_getElem? (i := 54) rfl))) (by decide) (backOf (W := 0) (own_rA2 l Z a0 hw [] b25 b66 (((0 : Int32) + (1 : Int32)) + (1 : Int32)) r37 ka37 b27 b41 T78.heap n0 Z78 Ek85 Fk86 Fk87 Fk88 gz_b25 gz_r37 ne_b25_r37 Vk89 Ov37 Ec78) hZ (hw _ (List.mem_of_getElem? (i := 56) rfl)) (hw _ (List.mem_of_getElem? (i := 12) rfl)) (by decide) (by decide)) q90a q90c (g := (mkF m 239 #[.val (.long xa), .second, .val (.long xb), .second, .val (.long xc), .second, .val (.int xn), .val (.int xx), .val (.int (Int32.ofNat N)), .val (.int lo0), .val (.int ln0), .val (.int lo1), .val (.int ln1), .val (.int lo2), .val (.int ln2), .val (.int lo3), .val (.int ln3), .val (.int lo4), .val (.int ln4), .val (.int lo5), .val (.int ln5), .val (.ref b25), .unset, .unset, .unset, .unset, .unset, .unset, .unset, .unset, .unset, .unset, .unset, .unset, .unset, .unset, .unset, .unset, .unset, .unset, .unset, .unset, .unset, .unset] [(.ref b66), (.ref b25)])) rfl (by rw [hml]; rfl) (Steps.refl _) (argsL := [(.ref b66)]) (rest := []) (lenOf own_pd15 rfl) rfl (by show 2 * 0 + _ ≤ _; exact Nat.le_of_eq rfl) (hb hby at_239) (fun _ _ => ⟨rfl, rfl, (by decide : 5 + 0 ≤ _), (by decide : 19 + 0 ≤ _)⟩)
        dsimp only [Pt.U, Pt.locs, Pt.cells, Pt.slots] at X90 l90 y90 z90 st90 hQ90
        subst l90 y90 z90
        obtain ⟨rfl, N90q, Kc90, -, Ec90, Fmc90, Fec90, Fsc90, Vc90⟩ := hQ90
        have N90 := Fr.app N78 N90q
        have Ek91 := Ek79.keep Kc90
        have Fk92 := Fk80.keep Kc90 (own_two (Ne.symm ne_b25_b27) ne_b27_r37)
        have Fk93 := Fk81.keep Kc90 (own_two (Ne.symm ne_b25_b27) ne_b27_r37)
        have Ek94 := Ek82.keep Kc90
        have Fk95 := Fk83.keep Kc90 (own_two (Ne.symm ne_b25_b41) (Ne.symm ne_r37_b41))
        have Fk96 := Fk84.keep Kc90 (own_two (Ne.symm ne_b25_b41) (Ne.symm ne_r37_b41))
        have Ek97 := Ec78.keep Kc90
        have Fk98 := Flc78.keep Kc90 (own_two (Ne.symm ne_b25_b66) (Ne.symm ne_r37_b66))
        have Fk99 := Fuc78.keep Kc90 (own_two (Ne.symm ne_b25_b66) (Ne.symm ne_r37_b66))
        have Z90 : n0 ≤ T90.heap.size := Nat.le_trans Z78 Kc90.1
        have O90 : Ext h0 T90.heap := own_ext_keep O78 Kc90 (own_all2 hz_b25 hz_r37)
        have K90 : Keep h0 T90.heap [] := K78.trans Kc90 (own_or2 (Or.inr hz_b25) (Or.inr hz_r37))
        refine own_goT (T' := T90) (g' := (mkF m 242 #[.val (.long xa), .second, .val (.long xb), .second, .val (.long xc), .second, .val (.int xn), .val (.int xx), .val (.int (Int32.ofNat N)), .val (.int lo0), .val (.int ln0), .val (.int lo1), .val (.int ln1), .val (.int lo2), .val (.int ln2), .val (.int lo3), .val (.int ln3), .val (.int lo4), .val (.int ln4), .val (.int lo5), .val (.int ln5), .val (.ref b25), .unset, .unset, .unset, .unset, .unset, .unset, .unset, .unset, .unset, .unset, .unset, .unset, .unset, .unset, .unset, .unset, .unset, .unset, .unset, .unset, .unset, .unset] [(.int (1 : Int32))])) st90 ?_
        refine own_go (T' := T90) (g' := (mkF m 243 #[.val (.long xa), .second, .val (.long xb), .second, .val (.long xc), .second, .val (.int xn), .val (.int xx), .val (.int (Int32.ofNat N)), .val (.int lo0), .val (.int ln0), .val (.int lo1), .val (.int ln1), .val (.int lo2), .val (.int ln2), .val (.int lo3), .val (.int ln3), .val (.int lo4), .val (.int ln4), .val (.int lo5), .val (.int ln5), .val (.ref b25), .unset, .unset, .unset, .unset, .unset, .unset, .unset, .unset, .unset, .unset, .unset, .unset, .unset, .unset, .unset, .unset, .unset, .unset, .unset, .unset, .unset, .unset] [])) (fun _ k => XS.pop X90.here hx rfl (hb hby at_242) rfl rfl k) ?_
        refine own_go (T' := T90) (g' := (mkF m 245 #[.val (.long xa), .second, .val (.long xb), .second, .val (.long xc), .second, .val (.int xn), .val (.int xx), .val (.int (Int32.ofNat N)), .val (.int lo0), .val (.int ln0), .val (.int lo1), .val (.int ln1), .val (.int lo2), .val (.int ln2), .val (.int lo3), .val (.int ln3), .val (.int lo4), .val (.int ln4), .val (.int lo5), .val (.int ln5), .val (.ref b25), .unset, .unset, .unset, .unset, .unset, .unset, .unset, .unset, .unset, .unset, .unset, .unset, .unset, .unset, .unset, .unset, .unset, .unset, .unset, .unset, .unset, .unset] [(.int (Int32.ofNat N))])) (fun _ k => XS.iload X90.here hx rfl (hb hby at_243) rfl k) ?_
        refine own_go (T' := T90) (g' := (mkF m 246 #[.val (.long xa), .second, .val (.long xb), .second, .val (.long xc), .second, .val (.int xn), .val (.int xx), .val (.int (Int32.ofNat N)), .val (.int lo0), .val (.int ln0), .val (.int lo1), .val (.int ln1), .val (.int lo2), .val (.int ln2), .val (.int lo3), .val (.int ln3), .val (.int lo4), .val (.int ln4), .val (.int lo5), .val (.int ln5), .val (.ref b25), .unset, .unset, .unset, .unset, .unset, .unset, .unset, .unset, .unset, .unset, .unset, .unset, .unset, .unset, .unset, .unset, .unset, .unset, .unset, .unset, .unset, .unset] [(.int (3 : Int32)), (.int (Int32.ofNat N))])) (fun _ k => XS.iconst X90.here hx rfl (hb hby at_245) k) ?_
        by_cases hc246 : (3 : Int32) < (Int32.ofNat N)
        · refine own_go (T' := T90) (g' := (mkF m 249 #[.val (.long xa), .second, .val (.long xb), .second, .val (.long xc), .second, .val (.int xn), .val (.int xx), .val (.int (Int32.ofNat N)), .val (.int lo0), .val (.int ln0), .val (.int lo1), .val (.int ln1), .val (.int lo2), .val (.int ln2), .val (.int lo3), .val (.int ln3), .val (.int lo4), .val (.int ln4), .val (.int lo5), .val (.int ln5), .val (.ref b25), .unset, .unset, .unset, .unset, .unset, .unset, .unset, .unset, .unset, .unset, .unset, .unset, .unset, .unset, .unset, .unset, .unset, .unset, .unset, .unset, .unset, .unset] [])) (fun _ k => XS.icmpNo X90.here hx rfl (hb hby at_246) rfl (tlt (hc246 : (3 : Int32) < (Int32.ofNat N))).2.2.2 k) ?_
          refine own_go (T' := T90) (g' := (mkF m 251 #[.val (.long xa), .second, .val (.long xb), .second, .val (.long xc), .second, .val (.int xn), .val (.int xx), .val (.int (Int32.ofNat N)), .val (.int lo0), .val (.int ln0), .val (.int lo1), .val (.int ln1), .val (.int lo2), .val (.int ln2), .val (.int lo3), .val (.int ln3), .val (.int lo4), .val (.int ln4), .val (.int lo5), .val (.int ln5), .val (.ref b25), .unset, .unset, .unset, .unset, .unset, .unset, .unset, .unset, .unset, .unset, .unset, .unset, .unset, .unset, .unset, .unset, .unset, .unset, .unset, .unset, .unset, .unset] [(.ref b25)])) (fun _ k => XS.aload X90.here hx rfl (hb hby at_249) rfl rfl k) ?_
          obtain ⟨T100, h100, X100, e100, E100, A100, D100, -, st100⟩ := newO X90 hx hZ hown (hw _ (List.mem_of_getElem? (i := 36) rfl)) (hw _ (List.mem_of_getElem? (i := 37) rfl)) (hw _ (List.mem_of_getElem? (i := 38) rfl)) rfl (g := (mkF m 251 #[.val (.long xa), .second, .val (.long xb), .second, .val (.long xc), .second, .val (.int xn), .val (.int xx), .val (.int (Int32.ofNat N)), .val (.int lo0), .val (.int ln0), .val (.int lo1), .val (.int ln1), .val (.int lo2), .val (.int ln2), .val (.int lo3), .val (.int ln3), .val (.int lo4), .val (.int ln4), .val (.int lo5), .val (.int ln5), .val (.ref b25), .unset, .unset, .unset, .unset, .unset, .unset, .unset, .unset, .unset, .unset, .unset, .unset, .unset, .unset, .unset, .unset, .unset, .unset, .unset, .unset, .unset, .unset] [(.ref b25)])) rfl (hb hby at_251) (by decide) (by decide)
          obtain ⟨b100, g100⟩ : ∃ z, z = T90.heap.size := ⟨_, rfl⟩
          rw [← g100] at A100 D100 st100
          have ne_b27_b100 : b27 ≠ b100 := Nat.ne_of_lt (Nat.lt_of_lt_of_le Ek91.lt (Nat.le_of_eq g100.symm))
          have ne_b41_b100 : b41 ≠ b100 := Nat.ne_of_lt (Nat.lt_of_lt_of_le Ek94.lt (Nat.le_of_eq g100.symm))
          have ne_b66_b100 : b66 ≠ b100 := Nat.ne_of_lt (Nat.lt_of_lt_of_le Ek97.lt (Nat.le_of_eq g100.symm))
          have ne_b25_b100 : b25 ≠ b100 := Nat.ne_of_lt (Nat.lt_of_lt_of_le Ec90.lt (Nat.le_of_eq g100.symm))
          have ne_r37_b100 : r37 ≠ b100 := Nat.ne_of_lt (Nat.lt_of_lt_of_le Vc90.lt (Nat.le_of_eq g100.symm))
          have gz_b100 : n0 ≤ b100 := Nat.le_trans Z90 (Nat.le_of_eq g100.symm)
          have hz_b100 : h0.size ≤ b100 := Nat.le_trans K90.1 (Nat.le_of_eq g100.symm)
          have Ek101 := Ek91.ext E100
          have Fk102 := Fk92.ext E100
          have Fk103 := Fk93.ext E100
          have Ek104 := Ek94.ext E100
          have Fk105 := Fk95.ext E100
          have Fk106 := Fk96.ext E100
          have Ek107 := Ek97.ext E100
          have Fk108 := Fk98.ext E100
          have Fk109 := Fk99.ext E100
          have Ek110 := Ec90.ext E100
          have Fk111 := Fmc90.ext E100
          have Fk112 := Fec90.ext E100
          have Fk113 := Fsc90.ext E100
          have Vk114 := Vc90.ext E100
          have Z100 : n0 ≤ h100.size := Nat.le_trans Z90 E100.1
          have O100 : Ext h0 h100 := own_ext_tr O90 E100
          have K100 : Keep h0 h100 [] := K90.ext E100
          have Flower_b100 : Fld Z h100 b100 "com/example/benchlight/benchlight/Bounds$Dimension" "lower" "I" (.int (0 : Int32)) := D100 (Or.inr (hw _ (List.mem_of_getElem? (i := 49) rfl))) (ty := .int) (by decide)
          have Fupper_b100 : Fld Z h100 b100 "com/example/benchlight/benchlight/Bounds$Dimension" "upper" "I" (.int (0 : Int32)) := D100 (Or.inr (hw _ (List.mem_of_getElem? (i := 51) rfl))) (ty := .int) (by decide)
          refine own_go (T' := T100) (g' := (mkF m 254 #[.val (.long xa), .second, .val (.long xb), .second, .val (.long xc), .second, .val (.int xn), .val (.int xx), .val (.int (Int32.ofNat N)), .val (.int lo0), .val (.int ln0), .val (.int lo1), .val (.int ln1), .val (.int lo2), .val (.int ln2), .val (.int lo3), .val (.int ln3), .val (.int lo4), .val (.int ln4), .val (.int lo5), .val (.int ln5), .val (.ref b25), .unset, .unset, .unset, .unset, .unset, .unset, .unset, .unset, .unset, .unset, .unset, .unset, .unset, .unset, .unset, .unset, .unset, .unset, .unset, .unset, .unset, .unset] [(.ref b100), (.ref b25)])) (fun _ k => st100 _ k) ?_
          refine own_go (T' := T100) (g' := (mkF m 255 #[.val (.long xa), .second, .val (.long xb), .second, .val (.long xc), .second, .val (.int xn), .val (.int xx), .val (.int (Int32.ofNat N)), .val (.int lo0), .val (.int ln0), .val (.int lo1), .val (.int ln1), .val (.int lo2), .val (.int ln2), .val (.int lo3), .val (.int ln3), .val (.int lo4), .val (.int ln4), .val (.int lo5), .val (.int ln5), .val (.ref b25), .unset, .unset, .unset, .unset, .unset, .unset, .unset, .unset, .unset, .unset, .unset, .unset, .unset, .unset, .unset, .unset, .unset, .unset, .unset, .unset, .unset, .unset] [(.ref b100), (.ref b100), (.ref b25)])) (fun _ k => XS.dup X100.here hx rfl (hb hby at_254) rfl rfl k) ?_
          refine own_go (T' := T100) (g' := (mkF m 257 #[.val (.long xa), .second, .val (.long xb), .second, .val (.long xc), .second, .val (.int xn), .val (.int xx), .val (.int (Int32.ofNat N)), .val (.int lo0), .val (.int ln0), .val (.int lo1), .val (.int ln1), .val (.int lo2), .val (.int ln2), .val (.int lo3), .val (.int ln3), .val (.int lo4), .val (.int ln4), .val (.int lo5), .val (.int ln5), .val (.ref b25), .unset, .unset, .unset, .unset, .unset, .unset, .unset, .unset, .unset, .unset, .unset, .unset, .unset, .unset, .unset, .unset, .unset, .unset, .unset, .unset, .unset, .unset] [(.int lo3), (.ref b100), (.ref b100), (.ref b25)])) (fun _ k => XS.iload X100.here hx rfl (hb hby at_255) rfl k) ?_
          refine own_go (T' := T100) (g' := (mkF m 259 #[.val (.long xa), .second, .val (.long xb), .second, .val (.long xc), .second, .val (.int xn), .val (.int xx), .val (.int (Int32.ofNat N)), .val (.int lo0), .val (.int ln0), .val (.int lo1), .val (.int ln1), .val (.int lo2), .val (.int ln2), .val (.int lo3), .val (.int ln3), .val (.int lo4), .val (.int ln4), .val (.int lo5), .val (.int ln5), .val (.ref b25), .unset, .unset, .unset, .unset, .unset, .unset, .unset, .unset, .unset, .unset, .unset, .unset, .unset, .unset, .unset, .unset, .unset, .unset, .unset, .unset, .unset, .unset] [(.int lo3), (.int lo3), (.ref b100), (.ref b100), (.ref b25)])) (fun _ k => XS.iload X100.here hx rfl (hb hby at_257) rfl k) ?_
          refine own_go (T' := T100) (g' := (mkF m 261 #[.val (.long xa), .second, .val (.long xb), .second, .val (.long xc), .second, .val (.int xn), .val (.int xx), .val (.int (Int32.ofNat N)), .val (.int lo0), .val (.int ln0), .val (.int lo1), .val (.int ln1), .val (.int lo2), .val (.int ln2), .val (.int lo3), .val (.int ln3), .val (.int lo4), .val (.int ln4), .val (.int lo5), .val (.int ln5), .val (.ref b25), .unset, .unset, .unset, .unset, .unset, .unset, .unset, .unset, .unset, .unset, .unset, .unset, .unset, .unset, .unset, .unset, .unset, .unset, .unset, .unset, .unset, .unset] [(.int ln3), (.int lo3), (.int lo3), (.ref b100), (.ref b100), (.ref b25)])) (fun _ k => XS.iload X100.here hx rfl (hb hby at_259) rfl k) ?_
          refine own_go (T' := T100) (g' := (mkF m 262 #[.val (.long xa), .second, .val (.long xb), .second, .val (.long xc), .second, .val (.int xn), .val (.int xx), .val (.int (Int32.ofNat N)), .val (.int lo0), .val (.int ln0), .val (.int lo1), .val (.int ln1), .val (.int lo2), .val (.int ln2), .val (.int lo3), .val (.int ln3), .val (.int lo4), .val (.int ln4), .val (.int lo5), .val (.int ln5), .val (.ref b25), .unset, .unset, .unset, .unset, .unset, .unset, .unset, .unset, .unset, .unset, .unset, .unset, .unset, .unset, .unset, .unset, .unset, .unset, .unset, .unset, .unset, .unset] [(.int (lo3 + ln3)), (.int lo3), (.ref b100), (.ref b100), (.ref b25)])) (fun _ k => XS.iadd X100.here hx rfl (hb hby at_261) rfl k) ?_
          refine own_go (T' := T100) (g' := (mkF m 263 #[.val (.long xa), .second, .val (.long xb), .second, .val (.long xc), .second, .val (.int xn), .val (.int xx), .val (.int (Int32.ofNat N)), .val (.int lo0), .val (.int ln0), .val (.int lo1), .val (.int ln1), .val (.int lo2), .val (.int ln2), .val (.int lo3), .val (.int ln3), .val (.int lo4), .val (.int ln4), .val (.int lo5), .val (.int ln5), .val (.ref b25), .unset, .unset, .unset, .unset, .unset, .unset, .unset, .unset, .unset, .unset, .unset, .unset, .unset, .unset, .unset, .unset, .unset, .unset, .unset, .unset, .unset, .unset] [(.int (1 : Int32)), (.int (lo3 + ln3)), (.int lo3), (.ref b100), (.ref b100), (.ref b25)])) (fun _ k => XS.iconst X100.here hx rfl (hb hby at_262) k) ?_
          refine own_go (T' := T100) (g' := (mkF m 264 #[.val (.long xa), .second, .val (.long xb), .second, .val (.long xc), .second, .val (.int xn), .val (.int xx), .val (.int (Int32.ofNat N)), .val (.int lo0), .val (.int ln0), .val (.int lo1), .val (.int ln1), .val (.int lo2), .val (.int ln2), .val (.int lo3), .val (.int ln3), .val (.int lo4), .val (.int ln4), .val (.int lo5), .val (.int ln5), .val (.ref b25), .unset, .unset, .unset, .unset, .unset, .unset, .unset, .unset, .unset, .unset, .unset, .unset, .unset, .unset, .unset, .unset, .unset, .unset, .unset, .unset, .unset, .unset] [(.int ((lo3 + ln3) - (1 : Int32))), (.int lo3), (.ref b100), (.ref b100), (.ref b25)])) (fun _ k => XS.isub X100.here hx rfl (hb hby at_263) rfl k) ?_
          obtain ⟨_, _, ⟨T115, L115, k115, n115⟩, -, X115, ⟨Lc115, hQ115, l115, y115, z115⟩, st115⟩ := X100.specialBack hx (y := (⟨"com/example/benchlight/benchlight/Bounds$Dimension", "<init>", "(II)V"⟩ : MethodName)) rfl hown (mvT hZ (hw _ (List.mem_of_getElem? (i := 39) rfl))) (mvT hZ (hw _ (List.mem_of_getElem? (i := 40) rfl))) (mvT hZ (hw _ (List.mem_of_getElem? (i := 41) rfl))) (by decide) (backOf (W := 2) (own_rDi l Z a0 hw [] b100 lo3 ((lo3 + ln3) - (1 : Int32)) h100 n0 Z100 A100 Flower_b100 Fupper_b100 gz_b100) hZ (hw _ (List.mem_of_getElem? (i := 41) rfl)) (hw _ (List.mem_of_getElem? (i := 38) rfl)) (by decide) (by decide)) (g := (mkF m 264 #[.val (.long xa), .second, .val (.long xb), .second, .val (.long xc), .second, .val (.int xn), .val (.int xx), .val (.int (Int32.ofNat N)), .val (.int lo0), .val (.int ln0), .val (.int lo1), .val (.int ln1), .val (.int lo2), .val (.int ln2), .val (.int lo3), .val (.int ln3), .val (.int lo4), .val (.int ln4), .val (.int lo5), .val (.int ln5), .val (.ref b25), .unset, .unset, .unset, .unset, .unset, .unset, .unset, .unset, .unset, .unset, .unset, .unset, .unset, .unset, .unset, .unset, .unset, .unset, .unset, .unset, .unset, .unset] [(.int ((lo3 + ln3) - (1 : Int32))), (.int lo3), (.ref b100), (.ref b100), (.ref b25)])) rfl (by rw [hml]; rfl) (Steps.refl _) (a := b100) (argsL := [(.int lo3), (.int ((lo3 + ln3) - (1 : Int32)))]) (rest := [(.ref b100), (.ref b25)]) (lenOf own_pd14 rfl) rfl (by show 2 * 0 + _ ≤ _; exact Nat.le_of_eq rfl) (hb hby at_264) (fun _ _ => ⟨rfl, e100, (by decide : 6 + 0 ≤ _), (by decide : 21 + 0 ≤ _)⟩)
          dsimp only [Pt.U, Pt.locs, Pt.cells, Pt.slots] at X115 l115 y115 z115 st115 hQ115
          subst l115 y115 z115
          obtain ⟨rfl, N115q, Kc115, Ec115, Flc115, Fuc115⟩ := hQ115
          have N115 := Fr.app N90 N115q
          have Ek116 := Ek101.keep Kc115
          have Fk117 := Fk102.keep Kc115 (own_one ne_b27_b100)
          have Fk118 := Fk103.keep Kc115 (own_one ne_b27_b100)
          have Ek119 := Ek104.keep Kc115
          have Fk120 := Fk105.keep Kc115 (own_one ne_b41_b100)
          have Fk121 := Fk106.keep Kc115 (own_one ne_b41_b100)
          have Ek122 := Ek107.keep Kc115
          have Fk123 := Fk108.keep Kc115 (own_one ne_b66_b100)
          have Fk124 := Fk109.keep Kc115 (own_one ne_b66_b100)
          have Ek125 := Ek110.keep Kc115
          have Fk126 := Fk111.keep Kc115 (own_one ne_b25_b100)
          have Fk127 := Fk112.keep Kc115 (own_one ne_b25_b100)
          have Fk128 := Fk113.keep Kc115 (own_one ne_b25_b100)
          have Vk129 := Vk114.keep Kc115 (own_one ne_r37_b100)
          have Z115 : n0 ≤ T115.heap.size := Nat.le_trans Z100 Kc115.1
          have O115 : Ext h0 T115.heap := own_ext_keep O100 Kc115 (own_all1 hz_b100)
          have K115 : Keep h0 T115.heap [] := K100.trans Kc115 (own_or1 (Or.inr hz_b100))
          refine own_goT (T' := T115) (g' := (mkF m 267 #[.val (.long xa), .second, .val (.long xb), .second, .val (.long xc), .second, .val (.int xn), .val (.int xx), .val (.int (Int32.ofNat N)), .val (.int lo0), .val (.int ln0), .val (.int lo1), .val (.int ln1), .val (.int lo2), .val (.int ln2), .val (.int lo3), .val (.int ln3), .val (.int lo4), .val (.int ln4), .val (.int lo5), .val (.int ln5), .val (.ref b25), .unset, .unset, .unset, .unset, .unset, .unset, .unset, .unset, .unset, .unset, .unset, .unset, .unset, .unset, .unset, .unset, .unset, .unset, .unset, .unset, .unset, .unset] [(.ref b100), (.ref b25)])) st115 ?_
          obtain ⟨cq130, kq130, q130a, q130b, q130c⟩ := isOf hZ rfl Ek125
          obtain ⟨_, _, ⟨T130, L130, k130, n130⟩, -, X130, ⟨Lc130, hQ130, l130, y130, z130⟩, st130⟩ := X115.virtualBack hx (y := (⟨"java/util/ArrayList", "add", "(Ljava/lang/Object;)Z"⟩ : MethodName)) (z := (⟨"java/util/ArrayList", "add", "(Ljava/lang/Object;)Z"⟩ : MethodName)) hown (mvT hZ (hw _ (List.mem_of_getElem? (i := 52) rfl))) (mvT hZ (hw _ (List.mem_of_getElem? (i := 53) rfl))) (notFace_of_selects (args := #[]) (mvT hZ (hw _ (List.mem_of_getElem? (i := 55) rfl)))) (mvT hZ (hw _ (List.mem_of_getElem? (i := 55) rfl))) (mvT hZ (hw _ (List.mem_of_getElem? (i := 54) rfl))) (by decide) (backOf (W := 0) (own_rA3 l Z a0 hw [] b25 b100 ((((0 : Int32) + (1 : Int32)) + (1 : Int32)) + (1 : Int32)) r37 ka37 b27 b41 b66 T115.heap n0 Z115 Ek125 Fk126 Fk127 Fk128 gz_b25 gz_r37 ne_b25_r37 Vk129 Ov37 Ec115) hZ (hw _ (List.mem_of_getElem? (i := 56) rfl)) (hw _ (List.mem_of_getElem? (i := 12) rfl)) (by decide) (by decide)) q130a q130c (g := (mkF m 267 #[.val (.long xa), .second, .val (.long xb), .second, .val (.long xc), .second, .val (.int xn), .val (.int xx), .val (.int (Int32.ofNat N)), .val (.int lo0), .val (.int ln0), .val (.int lo1), .val (.int ln1), .val (.int lo2), .val (.int ln2), .val (.int lo3), .val (.int ln3), .val (.int lo4), .val (.int ln4), .val (.int lo5), .val (.int ln5), .val (.ref b25), .unset, .unset, .unset, .unset, .unset, .unset, .unset, .unset, .unset, .unset, .unset, .unset, .unset, .unset, .unset, .unset, .unset, .unset, .unset, .unset, .unset, .unset] [(.ref b100), (.ref b25)])) rfl (by rw [hml]; rfl) (Steps.refl _) (argsL := [(.ref b100)]) (rest := []) (lenOf own_pd15 rfl) rfl (by show 2 * 0 + _ ≤ _; exact Nat.le_of_eq rfl) (hb hby at_267) (fun _ _ => ⟨rfl, rfl, (by decide : 6 + 0 ≤ _), (by decide : 21 + 0 ≤ _)⟩)
          dsimp only [Pt.U, Pt.locs, Pt.cells, Pt.slots] at X130 l130 y130 z130 st130 hQ130
          subst l130 y130 z130
          obtain ⟨rfl, N130q, Kc130, -, Ec130, Fmc130, Fec130, Fsc130, Vc130⟩ := hQ130
          have N130 := Fr.app N115 N130q
          have Ek131 := Ek116.keep Kc130
          have Fk132 := Fk117.keep Kc130 (own_two (Ne.symm ne_b25_b27) ne_b27_r37)
          have Fk133 := Fk118.keep Kc130 (own_two (Ne.symm ne_b25_b27) ne_b27_r37)
          have Ek134 := Ek119.keep Kc130
          have Fk135 := Fk120.keep Kc130 (own_two (Ne.symm ne_b25_b41) (Ne.symm ne_r37_b41))
          have Fk136 := Fk121.keep Kc130 (own_two (Ne.symm ne_b25_b41) (Ne.symm ne_r37_b41))
          have Ek137 := Ek122.keep Kc130
          have Fk138 := Fk123.keep Kc130 (own_two (Ne.symm ne_b25_b66) (Ne.symm ne_r37_b66))
          have Fk139 := Fk124.keep Kc130 (own_two (Ne.symm ne_b25_b66) (Ne.symm ne_r37_b66))
          have Ek140 := Ec115.keep Kc130
          have Fk141 := Flc115.keep Kc130 (own_two (Ne.symm ne_b25_b100) (Ne.symm ne_r37_b100))
          have Fk142 := Fuc115.keep Kc130 (own_two (Ne.symm ne_b25_b100) (Ne.symm ne_r37_b100))
          have Z130 : n0 ≤ T130.heap.size := Nat.le_trans Z115 Kc130.1
          have O130 : Ext h0 T130.heap := own_ext_keep O115 Kc130 (own_all2 hz_b25 hz_r37)
          have K130 : Keep h0 T130.heap [] := K115.trans Kc130 (own_or2 (Or.inr hz_b25) (Or.inr hz_r37))
          refine own_goT (T' := T130) (g' := (mkF m 270 #[.val (.long xa), .second, .val (.long xb), .second, .val (.long xc), .second, .val (.int xn), .val (.int xx), .val (.int (Int32.ofNat N)), .val (.int lo0), .val (.int ln0), .val (.int lo1), .val (.int ln1), .val (.int lo2), .val (.int ln2), .val (.int lo3), .val (.int ln3), .val (.int lo4), .val (.int ln4), .val (.int lo5), .val (.int ln5), .val (.ref b25), .unset, .unset, .unset, .unset, .unset, .unset, .unset, .unset, .unset, .unset, .unset, .unset, .unset, .unset, .unset, .unset, .unset, .unset, .unset, .unset, .unset, .unset] [(.int (1 : Int32))])) st130 ?_
          refine own_go (T' := T130) (g' := (mkF m 271 #[.val (.long xa), .second, .val (.long xb), .second, .val (.long xc), .second, .val (.int xn), .val (.int xx), .val (.int (Int32.ofNat N)), .val (.int lo0), .val (.int ln0), .val (.int lo1), .val (.int ln1), .val (.int lo2), .val (.int ln2), .val (.int lo3), .val (.int ln3), .val (.int lo4), .val (.int ln4), .val (.int lo5), .val (.int ln5), .val (.ref b25), .unset, .unset, .unset, .unset, .unset, .unset, .unset, .unset, .unset, .unset, .unset, .unset, .unset, .unset, .unset, .unset, .unset, .unset, .unset, .unset, .unset, .unset] [])) (fun _ k => XS.pop X130.here hx rfl (hb hby at_270) rfl rfl k) ?_
          refine own_go (T' := T130) (g' := (mkF m 273 #[.val (.long xa), .second, .val (.long xb), .second, .val (.long xc), .second, .val (.int xn), .val (.int xx), .val (.int (Int32.ofNat N)), .val (.int lo0), .val (.int ln0), .val (.int lo1), .val (.int ln1), .val (.int lo2), .val (.int ln2), .val (.int lo3), .val (.int ln3), .val (.int lo4), .val (.int ln4), .val (.int lo5), .val (.int ln5), .val (.ref b25), .unset, .unset, .unset, .unset, .unset, .unset, .unset, .unset, .unset, .unset, .unset, .unset, .unset, .unset, .unset, .unset, .unset, .unset, .unset, .unset, .unset, .unset] [(.int (Int32.ofNat N))])) (fun _ k => XS.iload X130.here hx rfl (hb hby at_271) rfl k) ?_
          refine own_go (T' := T130) (g' := (mkF m 274 #[.val (.long xa), .second, .val (.long xb), .second, .val (.long xc), .second, .val (.int xn), .val (.int xx), .val (.int (Int32.ofNat N)), .val (.int lo0), .val (.int ln0), .val (.int lo1), .val (.int ln1), .val (.int lo2), .val (.int ln2), .val (.int lo3), .val (.int ln3), .val (.int lo4), .val (.int ln4), .val (.int lo5), .val (.int ln5), .val (.ref b25), .unset, .unset, .unset, .unset, .unset, .unset, .unset, .unset, .unset, .unset, .unset, .unset, .unset, .unset, .unset, .unset, .unset, .unset, .unset, .unset, .unset, .unset] [(.int (4 : Int32)), (.int (Int32.ofNat N))])) (fun _ k => XS.iconst X130.here hx rfl (hb hby at_273) k) ?_
          by_cases hc274 : (4 : Int32) < (Int32.ofNat N)
          · refine own_go (T' := T130) (g' := (mkF m 277 #[.val (.long xa), .second, .val (.long xb), .second, .val (.long xc), .second, .val (.int xn), .val (.int xx), .val (.int (Int32.ofNat N)), .val (.int lo0), .val (.int ln0), .val (.int lo1), .val (.int ln1), .val (.int lo2), .val (.int ln2), .val (.int lo3), .val (.int ln3), .val (.int lo4), .val (.int ln4), .val (.int lo5), .val (.int ln5), .val (.ref b25), .unset, .unset, .unset, .unset, .unset, .unset, .unset, .unset, .unset, .unset, .unset, .unset, .unset, .unset, .unset, .unset, .unset, .unset, .unset, .unset, .unset, .unset] [])) (fun _ k => XS.icmpNo X130.here hx rfl (hb hby at_274) rfl (tlt (hc274 : (4 : Int32) < (Int32.ofNat N))).2.2.2 k) ?_
            refine own_go (T' := T130) (g' := (mkF m 279 #[.val (.long xa), .second, .val (.long xb), .second, .val (.long xc), .second, .val (.int xn), .val (.int xx), .val (.int (Int32.ofNat N)), .val (.int lo0), .val (.int ln0), .val (.int lo1), .val (.int ln1), .val (.int lo2), .val (.int ln2), .val (.int lo3), .val (.int ln3), .val (.int lo4), .val (.int ln4), .val (.int lo5), .val (.int ln5), .val (.ref b25), .unset, .unset, .unset, .unset, .unset, .unset, .unset, .unset, .unset, .unset, .unset, .unset, .unset, .unset, .unset, .unset, .unset, .unset, .unset, .unset, .unset, .unset] [(.ref b25)])) (fun _ k => XS.aload X130.here hx rfl (hb hby at_277) rfl rfl k) ?_
            obtain ⟨T143, h143, X143, e143, E143, A143, D143, -, st143⟩ := newO X130 hx hZ hown (hw _ (List.mem_of_getElem? (i := 36) rfl)) (hw _ (List.mem_of_getElem? (i := 37) rfl)) (hw _ (List.mem_of_getElem? (i := 38) rfl)) rfl (g := (mkF m 279 #[.val (.long xa), .second, .val (.long xb), .second, .val (.long xc), .second, .val (.int xn), .val (.int xx), .val (.int (Int32.ofNat N)), .val (.int lo0), .val (.int ln0), .val (.int lo1), .val (.int ln1), .val (.int lo2), .val (.int ln2), .val (.int lo3), .val (.int ln3), .val (.int lo4), .val (.int ln4), .val (.int lo5), .val (.int ln5), .val (.ref b25), .unset, .unset, .unset, .unset, .unset, .unset, .unset, .unset, .unset, .unset, .unset, .unset, .unset, .unset, .unset, .unset, .unset, .unset, .unset, .unset, .unset, .unset] [(.ref b25)])) rfl (hb hby at_279) (by decide) (by decide)
            obtain ⟨b143, g143⟩ : ∃ z, z = T130.heap.size := ⟨_, rfl⟩
            rw [← g143] at A143 D143 st143
            have ne_b27_b143 : b27 ≠ b143 := Nat.ne_of_lt (Nat.lt_of_lt_of_le Ek131.lt (Nat.le_of_eq g143.symm))
            have ne_b41_b143 : b41 ≠ b143 := Nat.ne_of_lt (Nat.lt_of_lt_of_le Ek134.lt (Nat.le_of_eq g143.symm))
            have ne_b66_b143 : b66 ≠ b143 := Nat.ne_of_lt (Nat.lt_of_lt_of_le Ek137.lt (Nat.le_of_eq g143.symm))
            have ne_b100_b143 : b100 ≠ b143 := Nat.ne_of_lt (Nat.lt_of_lt_of_le Ek140.lt (Nat.le_of_eq g143.symm))
            have ne_b25_b143 : b25 ≠ b143 := Nat.ne_of_lt (Nat.lt_of_lt_of_le Ec130.lt (Nat.le_of_eq g143.symm))
            have ne_r37_b143 : r37 ≠ b143 := Nat.ne_of_lt (Nat.lt_of_lt_of_le Vc130.lt (Nat.le_of_eq g143.symm))
            have gz_b143 : n0 ≤ b143 := Nat.le_trans Z130 (Nat.le_of_eq g143.symm)
            have hz_b143 : h0.size ≤ b143 := Nat.le_trans K130.1 (Nat.le_of_eq g143.symm)
            have Ek144 := Ek131.ext E143
            have Fk145 := Fk132.ext E143
            have Fk146 := Fk133.ext E143
            have Ek147 := Ek134.ext E143
            have Fk148 := Fk135.ext E143
            have Fk149 := Fk136.ext E143
            have Ek150 := Ek137.ext E143
            have Fk151 := Fk138.ext E143
            have Fk152 := Fk139.ext E143
            have Ek153 := Ek140.ext E143
            have Fk154 := Fk141.ext E143
            have Fk155 := Fk142.ext E143
            have Ek156 := Ec130.ext E143
            have Fk157 := Fmc130.ext E143
            have Fk158 := Fec130.ext E143
            have Fk159 := Fsc130.ext E143
            have Vk160 := Vc130.ext E143
            have Z143 : n0 ≤ h143.size := Nat.le_trans Z130 E143.1
            have O143 : Ext h0 h143 := own_ext_tr O130 E143
            have K143 : Keep h0 h143 [] := K130.ext E143
            have Flower_b143 : Fld Z h143 b143 "com/example/benchlight/benchlight/Bounds$Dimension" "lower" "I" (.int (0 : Int32)) := D143 (Or.inr (hw _ (List.mem_of_getElem? (i := 49) rfl))) (ty := .int) (by decide)
            have Fupper_b143 : Fld Z h143 b143 "com/example/benchlight/benchlight/Bounds$Dimension" "upper" "I" (.int (0 : Int32)) := D143 (Or.inr (hw _ (List.mem_of_getElem? (i := 51) rfl))) (ty := .int) (by decide)
            refine own_go (T' := T143) (g' := (mkF m 282 #[.val (.long xa), .second, .val (.long xb), .second, .val (.long xc), .second, .val (.int xn), .val (.int xx), .val (.int (Int32.ofNat N)), .val (.int lo0), .val (.int ln0), .val (.int lo1), .val (.int ln1), .val (.int lo2), .val (.int ln2), .val (.int lo3), .val (.int ln3), .val (.int lo4), .val (.int ln4), .val (.int lo5), .val (.int ln5), .val (.ref b25), .unset, .unset, .unset, .unset, .unset, .unset, .unset, .unset, .unset, .unset, .unset, .unset, .unset, .unset, .unset, .unset, .unset, .unset, .unset, .unset, .unset, .unset] [(.ref b143), (.ref b25)])) (fun _ k => st143 _ k) ?_
            refine own_go (T' := T143) (g' := (mkF m 283 #[.val (.long xa), .second, .val (.long xb), .second, .val (.long xc), .second, .val (.int xn), .val (.int xx), .val (.int (Int32.ofNat N)), .val (.int lo0), .val (.int ln0), .val (.int lo1), .val (.int ln1), .val (.int lo2), .val (.int ln2), .val (.int lo3), .val (.int ln3), .val (.int lo4), .val (.int ln4), .val (.int lo5), .val (.int ln5), .val (.ref b25), .unset, .unset, .unset, .unset, .unset, .unset, .unset, .unset, .unset, .unset, .unset, .unset, .unset, .unset, .unset, .unset, .unset, .unset, .unset, .unset, .unset, .unset] [(.ref b143), (.ref b143), (.ref b25)])) (fun _ k => XS.dup X143.here hx rfl (hb hby at_282) rfl rfl k) ?_
            refine own_go (T' := T143) (g' := (mkF m 285 #[.val (.long xa), .second, .val (.long xb), .second, .val (.long xc), .second, .val (.int xn), .val (.int xx), .val (.int (Int32.ofNat N)), .val (.int lo0), .val (.int ln0), .val (.int lo1), .val (.int ln1), .val (.int lo2), .val (.int ln2), .val (.int lo3), .val (.int ln3), .val (.int lo4), .val (.int ln4), .val (.int lo5), .val (.int ln5), .val (.ref b25), .unset, .unset, .unset, .unset, .unset, .unset, .unset, .unset, .unset, .unset, .unset, .unset, .unset, .unset, .unset, .unset, .unset, .unset, .unset, .unset, .unset, .unset] [(.int lo4), (.ref b143), (.ref b143), (.ref b25)])) (fun _ k => XS.iload X143.here hx rfl (hb hby at_283) rfl k) ?_
            refine own_go (T' := T143) (g' := (mkF m 287 #[.val (.long xa), .second, .val (.long xb), .second, .val (.long xc), .second, .val (.int xn), .val (.int xx), .val (.int (Int32.ofNat N)), .val (.int lo0), .val (.int ln0), .val (.int lo1), .val (.int ln1), .val (.int lo2), .val (.int ln2), .val (.int lo3), .val (.int ln3), .val (.int lo4), .val (.int ln4), .val (.int lo5), .val (.int ln5), .val (.ref b25), .unset, .unset, .unset, .unset, .unset, .unset, .unset, .unset, .unset, .unset, .unset, .unset, .unset, .unset, .unset, .unset, .unset, .unset, .unset, .unset, .unset, .unset] [(.int lo4), (.int lo4), (.ref b143), (.ref b143), (.ref b25)])) (fun _ k => XS.iload X143.here hx rfl (hb hby at_285) rfl k) ?_
            refine own_go (T' := T143) (g' := (mkF m 289 #[.val (.long xa), .second, .val (.long xb), .second, .val (.long xc), .second, .val (.int xn), .val (.int xx), .val (.int (Int32.ofNat N)), .val (.int lo0), .val (.int ln0), .val (.int lo1), .val (.int ln1), .val (.int lo2), .val (.int ln2), .val (.int lo3), .val (.int ln3), .val (.int lo4), .val (.int ln4), .val (.int lo5), .val (.int ln5), .val (.ref b25), .unset, .unset, .unset, .unset, .unset, .unset, .unset, .unset, .unset, .unset, .unset, .unset, .unset, .unset, .unset, .unset, .unset, .unset, .unset, .unset, .unset, .unset] [(.int ln4), (.int lo4), (.int lo4), (.ref b143), (.ref b143), (.ref b25)])) (fun _ k => XS.iload X143.here hx rfl (hb hby at_287) rfl k) ?_
            refine own_go (T' := T143) (g' := (mkF m 290 #[.val (.long xa), .second, .val (.long xb), .second, .val (.long xc), .second, .val (.int xn), .val (.int xx), .val (.int (Int32.ofNat N)), .val (.int lo0), .val (.int ln0), .val (.int lo1), .val (.int ln1), .val (.int lo2), .val (.int ln2), .val (.int lo3), .val (.int ln3), .val (.int lo4), .val (.int ln4), .val (.int lo5), .val (.int ln5), .val (.ref b25), .unset, .unset, .unset, .unset, .unset, .unset, .unset, .unset, .unset, .unset, .unset, .unset, .unset, .unset, .unset, .unset, .unset, .unset, .unset, .unset, .unset, .unset] [(.int (lo4 + ln4)), (.int lo4), (.ref b143), (.ref b143), (.ref b25)])) (fun _ k => XS.iadd X143.here hx rfl (hb hby at_289) rfl k) ?_
            refine own_go (T' := T143) (g' := (mkF m 291 #[.val (.long xa), .second, .val (.long xb), .second, .val (.long xc), .second, .val (.int xn), .val (.int xx), .val (.int (Int32.ofNat N)), .val (.int lo0), .val (.int ln0), .val (.int lo1), .val (.int ln1), .val (.int lo2), .val (.int ln2), .val (.int lo3), .val (.int ln3), .val (.int lo4), .val (.int ln4), .val (.int lo5), .val (.int ln5), .val (.ref b25), .unset, .unset, .unset, .unset, .unset, .unset, .unset, .unset, .unset, .unset, .unset, .unset, .unset, .unset, .unset, .unset, .unset, .unset, .unset, .unset, .unset, .unset] [(.int (1 : Int32)), (.int (lo4 + ln4)), (.int lo4), (.ref b143), (.ref b143), (.ref b25)])) (fun _ k => XS.iconst X143.here hx rfl (hb hby at_290) k) ?_
            refine own_go (T' := T143) (g' := (mkF m 292 #[.val (.long xa), .second, .val (.long xb), .second, .val (.long xc), .second, .val (.int xn), .val (.int xx), .val (.int (Int32.ofNat N)), .val (.int lo0), .val (.int ln0), .val (.int lo1), .val (.int ln1), .val (.int lo2), .val (.int ln2), .val (.int lo3), .val (.int ln3), .val (.int lo4), .val (.int ln4), .val (.int lo5), .val (.int ln5), .val (.ref b25), .unset, .unset, .unset, .unset, .unset, .unset, .unset, .unset, .unset, .unset, .unset, .unset, .unset, .unset, .unset, .unset, .unset, .unset, .unset, .unset, .unset, .unset] [(.int ((lo4 + ln4) - (1 : Int32))), (.int lo4), (.ref b143), (.ref b143), (.ref b25)])) (fun _ k => XS.isub X143.here hx rfl (hb hby at_291) rfl k) ?_
            obtain ⟨_, _, ⟨T161, L161, k161, n161⟩, -, X161, ⟨Lc161, hQ161, l161, y161, z161⟩, st161⟩ := X143.specialBack hx (y := (⟨"com/example/benchlight/benchlight/Bounds$Dimension", "<init>", "(II)V"⟩ : MethodName)) rfl hown (mvT hZ (hw _ (List.mem_of_getElem? (i := 39) rfl))) (mvT hZ (hw _ (List.mem_of_getElem? (i := 40) rfl))) (mvT hZ (hw _ (List.mem_of_getElem? (i := 41) rfl))) (by decide) (backOf (W := 2) (own_rDi l Z a0 hw [] b143 lo4 ((lo4 + ln4) - (1 : Int32)) h143 n0 Z143 A143 Flower_b143 Fupper_b143 gz_b143) hZ (hw _ (List.mem_of_getElem? (i := 41) rfl)) (hw _ (List.mem_of_getElem? (i := 38) rfl)) (by decide) (by decide)) (g := (mkF m 292 #[.val (.long xa), .second, .val (.long xb), .second, .val (.long xc), .second, .val (.int xn), .val (.int xx), .val (.int (Int32.ofNat N)), .val (.int lo0), .val (.int ln0), .val (.int lo1), .val (.int ln1), .val (.int lo2), .val (.int ln2), .val (.int lo3), .val (.int ln3), .val (.int lo4), .val (.int ln4), .val (.int lo5), .val (.int ln5), .val (.ref b25), .unset, .unset, .unset, .unset, .unset, .unset, .unset, .unset, .unset, .unset, .unset, .unset, .unset, .unset, .unset, .unset, .unset, .unset, .unset, .unset, .unset, .unset] [(.int ((lo4 + ln4) - (1 : Int32))), (.int lo4), (.ref b143), (.ref b143), (.ref b25)])) rfl (by rw [hml]; rfl) (Steps.refl _) (a := b143) (argsL := [(.int lo4), (.int ((lo4 + ln4) - (1 : Int32)))]) (rest := [(.ref b143), (.ref b25)]) (lenOf own_pd14 rfl) rfl (by show 2 * 0 + _ ≤ _; exact Nat.le_of_eq rfl) (hb hby at_292) (fun _ _ => ⟨rfl, e143, (by decide : 7 + 0 ≤ _), (by decide : 23 + 0 ≤ _)⟩)
            dsimp only [Pt.U, Pt.locs, Pt.cells, Pt.slots] at X161 l161 y161 z161 st161 hQ161
            subst l161 y161 z161
            obtain ⟨rfl, N161q, Kc161, Ec161, Flc161, Fuc161⟩ := hQ161
            have N161 := Fr.app N130 N161q
            have Ek162 := Ek144.keep Kc161
            have Fk163 := Fk145.keep Kc161 (own_one ne_b27_b143)
            have Fk164 := Fk146.keep Kc161 (own_one ne_b27_b143)
            have Ek165 := Ek147.keep Kc161
            have Fk166 := Fk148.keep Kc161 (own_one ne_b41_b143)
            have Fk167 := Fk149.keep Kc161 (own_one ne_b41_b143)
            have Ek168 := Ek150.keep Kc161
            have Fk169 := Fk151.keep Kc161 (own_one ne_b66_b143)
            have Fk170 := Fk152.keep Kc161 (own_one ne_b66_b143)
            have Ek171 := Ek153.keep Kc161
            have Fk172 := Fk154.keep Kc161 (own_one ne_b100_b143)
            have Fk173 := Fk155.keep Kc161 (own_one ne_b100_b143)
            have Ek174 := Ek156.keep Kc161
            have Fk175 := Fk157.keep Kc161 (own_one ne_b25_b143)
            have Fk176 := Fk158.keep Kc161 (own_one ne_b25_b143)
            have Fk177 := Fk159.keep Kc161 (own_one ne_b25_b143)
            have Vk178 := Vk160.keep Kc161 (own_one ne_r37_b143)
            have Z161 : n0 ≤ T161.heap.size := Nat.le_trans Z143 Kc161.1
            have O161 : Ext h0 T161.heap := own_ext_keep O143 Kc161 (own_all1 hz_b143)
            have K161 : Keep h0 T161.heap [] := K143.trans Kc161 (own_or1 (Or.inr hz_b143))
            refine own_goT (T' := T161) (g' := (mkF m 295 #[.val (.long xa), .second, .val (.long xb), .second, .val (.long xc), .second, .val (.int xn), .val (.int xx), .val (.int (Int32.ofNat N)), .val (.int lo0), .val (.int ln0), .val (.int lo1), .val (.int ln1), .val (.int lo2), .val (.int ln2), .val (.int lo3), .val (.int ln3), .val (.int lo4), .val (.int ln4), .val (.int lo5), .val (.int ln5), .val (.ref b25), .unset, .unset, .unset, .unset, .unset, .unset, .unset, .unset, .unset, .unset, .unset, .unset, .unset, .unset, .unset, .unset, .unset, .unset, .unset, .unset, .unset, .unset] [(.ref b143), (.ref b25)])) st161 ?_
            obtain ⟨cq179, kq179, q179a, q179b, q179c⟩ := isOf hZ rfl Ek174
            obtain ⟨_, _, ⟨T179, L179, k179, n179⟩, -, X179, ⟨Lc179, hQ179, l179, y179, z179⟩, st179⟩ := X161.virtualBack hx (y := (⟨"java/util/ArrayList", "add", "(Ljava/lang/Object;)Z"⟩ : MethodName)) (z := (⟨"java/util/ArrayList", "add", "(Ljava/lang/Object;)Z"⟩ : MethodName)) hown (mvT hZ (hw _ (List.mem_of_getElem? (i := 52) rfl))) (mvT hZ (hw _ (List.mem_of_getElem? (i := 53) rfl))) (notFace_of_selects (args := #[]) (mvT hZ (hw _ (List.mem_of_getElem? (i := 55) rfl)))) (mvT hZ (hw _ (List.mem_of_getElem? (i := 55) rfl))) (mvT hZ (hw _ (List.mem_of_getElem? (i := 54) rfl))) (by decide) (backOf (W := 0) (own_rA4 l Z a0 hw [] b25 b143 (((((0 : Int32) + (1 : Int32)) + (1 : Int32)) + (1 : Int32)) + (1 : Int32)) r37 ka37 b27 b41 b66 b100 T161.heap n0 Z161 Ek174 Fk175 Fk176 Fk177 gz_b25 gz_r37 ne_b25_r37 Vk178 Ov37 Ec161) hZ (hw _ (List.mem_of_getElem? (i := 56) rfl)) (hw _ (List.mem_of_getElem? (i := 12) rfl)) (by decide) (by decide)) q179a q179c (g := (mkF m 295 #[.val (.long xa), .second, .val (.long xb), .second, .val (.long xc), .second, .val (.int xn), .val (.int xx), .val (.int (Int32.ofNat N)), .val (.int lo0), .val (.int ln0), .val (.int lo1), .val (.int ln1), .val (.int lo2), .val (.int ln2), .val (.int lo3), .val (.int ln3), .val (.int lo4), .val (.int ln4), .val (.int lo5), .val (.int ln5), .val (.ref b25), .unset, .unset, .unset, .unset, .unset, .unset, .unset, .unset, .unset, .unset, .unset, .unset, .unset, .unset, .unset, .unset, .unset, .unset, .unset, .unset, .unset, .unset] [(.ref b143), (.ref b25)])) rfl (by rw [hml]; rfl) (Steps.refl _) (argsL := [(.ref b143)]) (rest := []) (lenOf own_pd15 rfl) rfl (by show 2 * 0 + _ ≤ _; exact Nat.le_of_eq rfl) (hb hby at_295) (fun _ _ => ⟨rfl, rfl, (by decide : 7 + 0 ≤ _), (by decide : 23 + 0 ≤ _)⟩)
            dsimp only [Pt.U, Pt.locs, Pt.cells, Pt.slots] at X179 l179 y179 z179 st179 hQ179
            subst l179 y179 z179
            obtain ⟨rfl, N179q, Kc179, -, Ec179, Fmc179, Fec179, Fsc179, Vc179⟩ := hQ179
            have N179 := Fr.app N161 N179q
            have Ek180 := Ek162.keep Kc179
            have Fk181 := Fk163.keep Kc179 (own_two (Ne.symm ne_b25_b27) ne_b27_r37)
            have Fk182 := Fk164.keep Kc179 (own_two (Ne.symm ne_b25_b27) ne_b27_r37)
            have Ek183 := Ek165.keep Kc179
            have Fk184 := Fk166.keep Kc179 (own_two (Ne.symm ne_b25_b41) (Ne.symm ne_r37_b41))
            have Fk185 := Fk167.keep Kc179 (own_two (Ne.symm ne_b25_b41) (Ne.symm ne_r37_b41))
            have Ek186 := Ek168.keep Kc179
            have Fk187 := Fk169.keep Kc179 (own_two (Ne.symm ne_b25_b66) (Ne.symm ne_r37_b66))
            have Fk188 := Fk170.keep Kc179 (own_two (Ne.symm ne_b25_b66) (Ne.symm ne_r37_b66))
            have Ek189 := Ek171.keep Kc179
            have Fk190 := Fk172.keep Kc179 (own_two (Ne.symm ne_b25_b100) (Ne.symm ne_r37_b100))
            have Fk191 := Fk173.keep Kc179 (own_two (Ne.symm ne_b25_b100) (Ne.symm ne_r37_b100))
            have Ek192 := Ec161.keep Kc179
            have Fk193 := Flc161.keep Kc179 (own_two (Ne.symm ne_b25_b143) (Ne.symm ne_r37_b143))
            have Fk194 := Fuc161.keep Kc179 (own_two (Ne.symm ne_b25_b143) (Ne.symm ne_r37_b143))
            have Z179 : n0 ≤ T179.heap.size := Nat.le_trans Z161 Kc179.1
            have O179 : Ext h0 T179.heap := own_ext_keep O161 Kc179 (own_all2 hz_b25 hz_r37)
            have K179 : Keep h0 T179.heap [] := K161.trans Kc179 (own_or2 (Or.inr hz_b25) (Or.inr hz_r37))
            refine own_goT (T' := T179) (g' := (mkF m 298 #[.val (.long xa), .second, .val (.long xb), .second, .val (.long xc), .second, .val (.int xn), .val (.int xx), .val (.int (Int32.ofNat N)), .val (.int lo0), .val (.int ln0), .val (.int lo1), .val (.int ln1), .val (.int lo2), .val (.int ln2), .val (.int lo3), .val (.int ln3), .val (.int lo4), .val (.int ln4), .val (.int lo5), .val (.int ln5), .val (.ref b25), .unset, .unset, .unset, .unset, .unset, .unset, .unset, .unset, .unset, .unset, .unset, .unset, .unset, .unset, .unset, .unset, .unset, .unset, .unset, .unset, .unset, .unset] [(.int (1 : Int32))])) st179 ?_
            refine own_go (T' := T179) (g' := (mkF m 299 #[.val (.long xa), .second, .val (.long xb), .second, .val (.long xc), .second, .val (.int xn), .val (.int xx), .val (.int (Int32.ofNat N)), .val (.int lo0), .val (.int ln0), .val (.int lo1), .val (.int ln1), .val (.int lo2), .val (.int ln2), .val (.int lo3), .val (.int ln3), .val (.int lo4), .val (.int ln4), .val (.int lo5), .val (.int ln5), .val (.ref b25), .unset, .unset, .unset, .unset, .unset, .unset, .unset, .unset, .unset, .unset, .unset, .unset, .unset, .unset, .unset, .unset, .unset, .unset, .unset, .unset, .unset, .unset] [])) (fun _ k => XS.pop X179.here hx rfl (hb hby at_298) rfl rfl k) ?_
            refine own_go (T' := T179) (g' := (mkF m 301 #[.val (.long xa), .second, .val (.long xb), .second, .val (.long xc), .second, .val (.int xn), .val (.int xx), .val (.int (Int32.ofNat N)), .val (.int lo0), .val (.int ln0), .val (.int lo1), .val (.int ln1), .val (.int lo2), .val (.int ln2), .val (.int lo3), .val (.int ln3), .val (.int lo4), .val (.int ln4), .val (.int lo5), .val (.int ln5), .val (.ref b25), .unset, .unset, .unset, .unset, .unset, .unset, .unset, .unset, .unset, .unset, .unset, .unset, .unset, .unset, .unset, .unset, .unset, .unset, .unset, .unset, .unset, .unset] [(.int (Int32.ofNat N))])) (fun _ k => XS.iload X179.here hx rfl (hb hby at_299) rfl k) ?_
            refine own_go (T' := T179) (g' := (mkF m 302 #[.val (.long xa), .second, .val (.long xb), .second, .val (.long xc), .second, .val (.int xn), .val (.int xx), .val (.int (Int32.ofNat N)), .val (.int lo0), .val (.int ln0), .val (.int lo1), .val (.int ln1), .val (.int lo2), .val (.int ln2), .val (.int lo3), .val (.int ln3), .val (.int lo4), .val (.int ln4), .val (.int lo5), .val (.int ln5), .val (.ref b25), .unset, .unset, .unset, .unset, .unset, .unset, .unset, .unset, .unset, .unset, .unset, .unset, .unset, .unset, .unset, .unset, .unset, .unset, .unset, .unset, .unset, .unset] [(.int (5 : Int32)), (.int (Int32.ofNat N))])) (fun _ k => XS.iconst X179.here hx rfl (hb hby at_301) k) ?_
            by_cases hc302 : (5 : Int32) < (Int32.ofNat N)
            · refine own_go (T' := T179) (g' := (mkF m 305 #[.val (.long xa), .second, .val (.long xb), .second, .val (.long xc), .second, .val (.int xn), .val (.int xx), .val (.int (Int32.ofNat N)), .val (.int lo0), .val (.int ln0), .val (.int lo1), .val (.int ln1), .val (.int lo2), .val (.int ln2), .val (.int lo3), .val (.int ln3), .val (.int lo4), .val (.int ln4), .val (.int lo5), .val (.int ln5), .val (.ref b25), .unset, .unset, .unset, .unset, .unset, .unset, .unset, .unset, .unset, .unset, .unset, .unset, .unset, .unset, .unset, .unset, .unset, .unset, .unset, .unset, .unset, .unset] [])) (fun _ k => XS.icmpNo X179.here hx rfl (hb hby at_302) rfl (tlt (hc302 : (5 : Int32) < (Int32.ofNat N))).2.2.2 k) ?_
              refine own_go (T' := T179) (g' := (mkF m 307 #[.val (.long xa), .second, .val (.long xb), .second, .val (.long xc), .second, .val (.int xn), .val (.int xx), .val (.int (Int32.ofNat N)), .val (.int lo0), .val (.int ln0), .val (.int lo1), .val (.int ln1), .val (.int lo2), .val (.int ln2), .val (.int lo3), .val (.int ln3), .val (.int lo4), .val (.int ln4), .val (.int lo5), .val (.int ln5), .val (.ref b25), .unset, .unset, .unset, .unset, .unset, .unset, .unset, .unset, .unset, .unset, .unset, .unset, .unset, .unset, .unset, .unset, .unset, .unset, .unset, .unset, .unset, .unset] [(.ref b25)])) (fun _ k => XS.aload X179.here hx rfl (hb hby at_305) rfl rfl k) ?_
              obtain ⟨T195, h195, X195, e195, E195, A195, D195, -, st195⟩ := newO X179 hx hZ hown (hw _ (List.mem_of_getElem? (i := 36) rfl)) (hw _ (List.mem_of_getElem? (i := 37) rfl)) (hw _ (List.mem_of_getElem? (i := 38) rfl)) rfl (g := (mkF m 307 #[.val (.long xa), .second, .val (.long xb), .second, .val (.long xc), .second, .val (.int xn), .val (.int xx), .val (.int (Int32.ofNat N)), .val (.int lo0), .val (.int ln0), .val (.int lo1), .val (.int ln1), .val (.int lo2), .val (.int ln2), .val (.int lo3), .val (.int ln3), .val (.int lo4), .val (.int ln4), .val (.int lo5), .val (.int ln5), .val (.ref b25), .unset, .unset, .unset, .unset, .unset, .unset, .unset, .unset, .unset, .unset, .unset, .unset, .unset, .unset, .unset, .unset, .unset, .unset, .unset, .unset, .unset, .unset] [(.ref b25)])) rfl (hb hby at_307) (by decide) (by decide)
              obtain ⟨b195, g195⟩ : ∃ z, z = T179.heap.size := ⟨_, rfl⟩
              rw [← g195] at A195 D195 st195
              have ne_b27_b195 : b27 ≠ b195 := Nat.ne_of_lt (Nat.lt_of_lt_of_le Ek180.lt (Nat.le_of_eq g195.symm))
              have ne_b41_b195 : b41 ≠ b195 := Nat.ne_of_lt (Nat.lt_of_lt_of_le Ek183.lt (Nat.le_of_eq g195.symm))
              have ne_b66_b195 : b66 ≠ b195 := Nat.ne_of_lt (Nat.lt_of_lt_of_le Ek186.lt (Nat.le_of_eq g195.symm))
              have ne_b100_b195 : b100 ≠ b195 := Nat.ne_of_lt (Nat.lt_of_lt_of_le Ek189.lt (Nat.le_of_eq g195.symm))
              have ne_b143_b195 : b143 ≠ b195 := Nat.ne_of_lt (Nat.lt_of_lt_of_le Ek192.lt (Nat.le_of_eq g195.symm))
              have ne_b25_b195 : b25 ≠ b195 := Nat.ne_of_lt (Nat.lt_of_lt_of_le Ec179.lt (Nat.le_of_eq g195.symm))
              have ne_r37_b195 : r37 ≠ b195 := Nat.ne_of_lt (Nat.lt_of_lt_of_le Vc179.lt (Nat.le_of_eq g195.symm))
              have gz_b195 : n0 ≤ b195 := Nat.le_trans Z179 (Nat.le_of_eq g195.symm)
              have hz_b195 : h0.size ≤ b195 := Nat.le_trans K179.1 (Nat.le_of_eq g195.symm)
              have Ek196 := Ek180.ext E195
              have Fk197 := Fk181.ext E195
              have Fk198 := Fk182.ext E195
              have Ek199 := Ek183.ext E195
              have Fk200 := Fk184.ext E195
              have Fk201 := Fk185.ext E195
              have Ek202 := Ek186.ext E195
              have Fk203 := Fk187.ext E195
              have Fk204 := Fk188.ext E195
              have Ek205 := Ek189.ext E195
              have Fk206 := Fk190.ext E195
              have Fk207 := Fk191.ext E195
              have Ek208 := Ek192.ext E195
              have Fk209 := Fk193.ext E195
              have Fk210 := Fk194.ext E195
              have Ek211 := Ec179.ext E195
              have Fk212 := Fmc179.ext E195
              have Fk213 := Fec179.ext E195
              have Fk214 := Fsc179.ext E195
              have Vk215 := Vc179.ext E195
              have Z195 : n0 ≤ h195.size := Nat.le_trans Z179 E195.1
              have O195 : Ext h0 h195 := own_ext_tr O179 E195
              have K195 : Keep h0 h195 [] := K179.ext E195
              have Flower_b195 : Fld Z h195 b195 "com/example/benchlight/benchlight/Bounds$Dimension" "lower" "I" (.int (0 : Int32)) := D195 (Or.inr (hw _ (List.mem_of_getElem? (i := 49) rfl))) (ty := .int) (by decide)
              have Fupper_b195 : Fld Z h195 b195 "com/example/benchlight/benchlight/Bounds$Dimension" "upper" "I" (.int (0 : Int32)) := D195 (Or.inr (hw _ (List.mem_of_getElem? (i := 51) rfl))) (ty := .int) (by decide)
              refine own_go (T' := T195) (g' := (mkF m 310 #[.val (.long xa), .second, .val (.long xb), .second, .val (.long xc), .second, .val (.int xn), .val (.int xx), .val (.int (Int32.ofNat N)), .val (.int lo0), .val (.int ln0), .val (.int lo1), .val (.int ln1), .val (.int lo2), .val (.int ln2), .val (.int lo3), .val (.int ln3), .val (.int lo4), .val (.int ln4), .val (.int lo5), .val (.int ln5), .val (.ref b25), .unset, .unset, .unset, .unset, .unset, .unset, .unset, .unset, .unset, .unset, .unset, .unset, .unset, .unset, .unset, .unset, .unset, .unset, .unset, .unset, .unset, .unset] [(.ref b195), (.ref b25)])) (fun _ k => st195 _ k) ?_
              refine own_go (T' := T195) (g' := (mkF m 311 #[.val (.long xa), .second, .val (.long xb), .second, .val (.long xc), .second, .val (.int xn), .val (.int xx), .val (.int (Int32.ofNat N)), .val (.int lo0), .val (.int ln0), .val (.int lo1), .val (.int ln1), .val (.int lo2), .val (.int ln2), .val (.int lo3), .val (.int ln3), .val (.int lo4), .val (.int ln4), .val (.int lo5), .val (.int ln5), .val (.ref b25), .unset, .unset, .unset, .unset, .unset, .unset, .unset, .unset, .unset, .unset, .unset, .unset, .unset, .unset, .unset, .unset, .unset, .unset, .unset, .unset, .unset, .unset] [(.ref b195), (.ref b195), (.ref b25)])) (fun _ k => XS.dup X195.here hx rfl (hb hby at_310) rfl rfl k) ?_
              refine own_go (T' := T195) (g' := (mkF m 313 #[.val (.long xa), .second, .val (.long xb), .second, .val (.long xc), .second, .val (.int xn), .val (.int xx), .val (.int (Int32.ofNat N)), .val (.int lo0), .val (.int ln0), .val (.int lo1), .val (.int ln1), .val (.int lo2), .val (.int ln2), .val (.int lo3), .val (.int ln3), .val (.int lo4), .val (.int ln4), .val (.int lo5), .val (.int ln5), .val (.ref b25), .unset, .unset, .unset, .unset, .unset, .unset, .unset, .unset, .unset, .unset, .unset, .unset, .unset, .unset, .unset, .unset, .unset, .unset, .unset, .unset, .unset, .unset] [(.int lo5), (.ref b195), (.ref b195), (.ref b25)])) (fun _ k => XS.iload X195.here hx rfl (hb hby at_311) rfl k) ?_
              refine own_go (T' := T195) (g' := (mkF m 315 #[.val (.long xa), .second, .val (.long xb), .second, .val (.long xc), .second, .val (.int xn), .val (.int xx), .val (.int (Int32.ofNat N)), .val (.int lo0), .val (.int ln0), .val (.int lo1), .val (.int ln1), .val (.int lo2), .val (.int ln2), .val (.int lo3), .val (.int ln3), .val (.int lo4), .val (.int ln4), .val (.int lo5), .val (.int ln5), .val (.ref b25), .unset, .unset, .unset, .unset, .unset, .unset, .unset, .unset, .unset, .unset, .unset, .unset, .unset, .unset, .unset, .unset, .unset, .unset, .unset, .unset, .unset, .unset] [(.int lo5), (.int lo5), (.ref b195), (.ref b195), (.ref b25)])) (fun _ k => XS.iload X195.here hx rfl (hb hby at_313) rfl k) ?_
              refine own_go (T' := T195) (g' := (mkF m 317 #[.val (.long xa), .second, .val (.long xb), .second, .val (.long xc), .second, .val (.int xn), .val (.int xx), .val (.int (Int32.ofNat N)), .val (.int lo0), .val (.int ln0), .val (.int lo1), .val (.int ln1), .val (.int lo2), .val (.int ln2), .val (.int lo3), .val (.int ln3), .val (.int lo4), .val (.int ln4), .val (.int lo5), .val (.int ln5), .val (.ref b25), .unset, .unset, .unset, .unset, .unset, .unset, .unset, .unset, .unset, .unset, .unset, .unset, .unset, .unset, .unset, .unset, .unset, .unset, .unset, .unset, .unset, .unset] [(.int ln5), (.int lo5), (.int lo5), (.ref b195), (.ref b195), (.ref b25)])) (fun _ k => XS.iload X195.here hx rfl (hb hby at_315) rfl k) ?_
              refine own_go (T' := T195) (g' := (mkF m 318 #[.val (.long xa), .second, .val (.long xb), .second, .val (.long xc), .second, .val (.int xn), .val (.int xx), .val (.int (Int32.ofNat N)), .val (.int lo0), .val (.int ln0), .val (.int lo1), .val (.int ln1), .val (.int lo2), .val (.int ln2), .val (.int lo3), .val (.int ln3), .val (.int lo4), .val (.int ln4), .val (.int lo5), .val (.int ln5), .val (.ref b25), .unset, .unset, .unset, .unset, .unset, .unset, .unset, .unset, .unset, .unset, .unset, .unset, .unset, .unset, .unset, .unset, .unset, .unset, .unset, .unset, .unset, .unset] [(.int (lo5 + ln5)), (.int lo5), (.ref b195), (.ref b195), (.ref b25)])) (fun _ k => XS.iadd X195.here hx rfl (hb hby at_317) rfl k) ?_
              refine own_go (T' := T195) (g' := (mkF m 319 #[.val (.long xa), .second, .val (.long xb), .second, .val (.long xc), .second, .val (.int xn), .val (.int xx), .val (.int (Int32.ofNat N)), .val (.int lo0), .val (.int ln0), .val (.int lo1), .val (.int ln1), .val (.int lo2), .val (.int ln2), .val (.int lo3), .val (.int ln3), .val (.int lo4), .val (.int ln4), .val (.int lo5), .val (.int ln5), .val (.ref b25), .unset, .unset, .unset, .unset, .unset, .unset, .unset, .unset, .unset, .unset, .unset, .unset, .unset, .unset, .unset, .unset, .unset, .unset, .unset, .unset, .unset, .unset] [(.int (1 : Int32)), (.int (lo5 + ln5)), (.int lo5), (.ref b195), (.ref b195), (.ref b25)])) (fun _ k => XS.iconst X195.here hx rfl (hb hby at_318) k) ?_
              refine own_go (T' := T195) (g' := (mkF m 320 #[.val (.long xa), .second, .val (.long xb), .second, .val (.long xc), .second, .val (.int xn), .val (.int xx), .val (.int (Int32.ofNat N)), .val (.int lo0), .val (.int ln0), .val (.int lo1), .val (.int ln1), .val (.int lo2), .val (.int ln2), .val (.int lo3), .val (.int ln3), .val (.int lo4), .val (.int ln4), .val (.int lo5), .val (.int ln5), .val (.ref b25), .unset, .unset, .unset, .unset, .unset, .unset, .unset, .unset, .unset, .unset, .unset, .unset, .unset, .unset, .unset, .unset, .unset, .unset, .unset, .unset, .unset, .unset] [(.int ((lo5 + ln5) - (1 : Int32))), (.int lo5), (.ref b195), (.ref b195), (.ref b25)])) (fun _ k => XS.isub X195.here hx rfl (hb hby at_319) rfl k) ?_
              obtain ⟨_, _, ⟨T216, L216, k216, n216⟩, -, X216, ⟨Lc216, hQ216, l216, y216, z216⟩, st216⟩ := X195.specialBack hx (y := (⟨"com/example/benchlight/benchlight/Bounds$Dimension", "<init>", "(II)V"⟩ : MethodName)) rfl hown (mvT hZ (hw _ (List.mem_of_getElem? (i := 39) rfl))) (mvT hZ (hw _ (List.mem_of_getElem? (i := 40) rfl))) (mvT hZ (hw _ (List.mem_of_getElem? (i := 41) rfl))) (by decide) (backOf (W := 2) (own_rDi l Z a0 hw [] b195 lo5 ((lo5 + ln5) - (1 : Int32)) h195 n0 Z195 A195 Flower_b195 Fupper_b195 gz_b195) hZ (hw _ (List.mem_of_getElem? (i := 41) rfl)) (hw _ (List.mem_of_getElem? (i := 38) rfl)) (by decide) (by decide)) (g := (mkF m 320 #[.val (.long xa), .second, .val (.long xb), .second, .val (.long xc), .second, .val (.int xn), .val (.int xx), .val (.int (Int32.ofNat N)), .val (.int lo0), .val (.int ln0), .val (.int lo1), .val (.int ln1), .val (.int lo2), .val (.int ln2), .val (.int lo3), .val (.int ln3), .val (.int lo4), .val (.int ln4), .val (.int lo5), .val (.int ln5), .val (.ref b25), .unset, .unset, .unset, .unset, .unset, .unset, .unset, .unset, .unset, .unset, .unset, .unset, .unset, .unset, .unset, .unset, .unset, .unset, .unset, .unset, .unset, .unset] [(.int ((lo5 + ln5) - (1 : Int32))), (.int lo5), (.ref b195), (.ref b195), (.ref b25)])) rfl (by rw [hml]; rfl) (Steps.refl _) (a := b195) (argsL := [(.int lo5), (.int ((lo5 + ln5) - (1 : Int32)))]) (rest := [(.ref b195), (.ref b25)]) (lenOf own_pd14 rfl) rfl (by show 2 * 0 + _ ≤ _; exact Nat.le_of_eq rfl) (hb hby at_320) (fun _ _ => ⟨rfl, e195, (by decide : 8 + 0 ≤ _), (by decide : 25 + 0 ≤ _)⟩)
              dsimp only [Pt.U, Pt.locs, Pt.cells, Pt.slots] at X216 l216 y216 z216 st216 hQ216
              subst l216 y216 z216
              obtain ⟨rfl, N216q, Kc216, Ec216, Flc216, Fuc216⟩ := hQ216
              have N216 := Fr.app N179 N216q
              have Ek217 := Ek196.keep Kc216
              have Fk218 := Fk197.keep Kc216 (own_one ne_b27_b195)
              have Fk219 := Fk198.keep Kc216 (own_one ne_b27_b195)
              have Ek220 := Ek199.keep Kc216
              have Fk221 := Fk200.keep Kc216 (own_one ne_b41_b195)
              have Fk222 := Fk201.keep Kc216 (own_one ne_b41_b195)
              have Ek223 := Ek202.keep Kc216
              have Fk224 := Fk203.keep Kc216 (own_one ne_b66_b195)
              have Fk225 := Fk204.keep Kc216 (own_one ne_b66_b195)
              have Ek226 := Ek205.keep Kc216
              have Fk227 := Fk206.keep Kc216 (own_one ne_b100_b195)
              have Fk228 := Fk207.keep Kc216 (own_one ne_b100_b195)
              have Ek229 := Ek208.keep Kc216
              have Fk230 := Fk209.keep Kc216 (own_one ne_b143_b195)
              have Fk231 := Fk210.keep Kc216 (own_one ne_b143_b195)
              have Ek232 := Ek211.keep Kc216
              have Fk233 := Fk212.keep Kc216 (own_one ne_b25_b195)
              have Fk234 := Fk213.keep Kc216 (own_one ne_b25_b195)
              have Fk235 := Fk214.keep Kc216 (own_one ne_b25_b195)
              have Vk236 := Vk215.keep Kc216 (own_one ne_r37_b195)
              have Z216 : n0 ≤ T216.heap.size := Nat.le_trans Z195 Kc216.1
              have O216 : Ext h0 T216.heap := own_ext_keep O195 Kc216 (own_all1 hz_b195)
              have K216 : Keep h0 T216.heap [] := K195.trans Kc216 (own_or1 (Or.inr hz_b195))
              refine own_goT (T' := T216) (g' := (mkF m 323 #[.val (.long xa), .second, .val (.long xb), .second, .val (.long xc), .second, .val (.int xn), .val (.int xx), .val (.int (Int32.ofNat N)), .val (.int lo0), .val (.int ln0), .val (.int lo1), .val (.int ln1), .val (.int lo2), .val (.int ln2), .val (.int lo3), .val (.int ln3), .val (.int lo4), .val (.int ln4), .val (.int lo5), .val (.int ln5), .val (.ref b25), .unset, .unset, .unset, .unset, .unset, .unset, .unset, .unset, .unset, .unset, .unset, .unset, .unset, .unset, .unset, .unset, .unset, .unset, .unset, .unset, .unset, .unset] [(.ref b195), (.ref b25)])) st216 ?_
              obtain ⟨cq237, kq237, q237a, q237b, q237c⟩ := isOf hZ rfl Ek232
              obtain ⟨_, _, ⟨T237, L237, k237, n237⟩, -, X237, ⟨Lc237, hQ237, l237, y237, z237⟩, st237⟩ := X216.virtualBack hx (y := (⟨"java/util/ArrayList", "add", "(Ljava/lang/Object;)Z"⟩ : MethodName)) (z := (⟨"java/util/ArrayList", "add", "(Ljava/lang/Object;)Z"⟩ : MethodName)) hown (mvT hZ (hw _ (List.mem_of_getElem? (i := 52) rfl))) (mvT hZ (hw _ (List.mem_of_getElem? (i := 53) rfl))) (notFace_of_selects (args := #[]) (mvT hZ (hw _ (List.mem_of_getElem? (i := 55) rfl)))) (mvT hZ (hw _ (List.mem_of_getElem? (i := 55) rfl))) (mvT hZ (hw _ (List.mem_of_getElem? (i := 54) rfl))) (by decide) (backOf (W := 0) (own_rA5 l Z a0 hw [] b25 b195 ((((((0 : Int32) + (1 : Int32)) + (1 : Int32)) + (1 : Int32)) + (1 : Int32)) + (1 : Int32)) r37 ka37 b27 b41 b66 b100 b143 T216.heap n0 Z216 Ek232 Fk233 Fk234 Fk235 gz_b25 gz_r37 ne_b25_r37 Vk236 Ov37 Ec216) hZ (hw _ (List.mem_of_getElem? (i := 56) rfl)) (hw _ (List.mem_of_getElem? (i := 12) rfl)) (by decide) (by decide)) q237a q237c (g := (mkF m 323 #[.val (.long xa), .second, .val (.long xb), .second, .val (.long xc), .second, .val (.int xn), .val (.int xx), .val (.int (Int32.ofNat N)), .val (.int lo0), .val (.int ln0), .val (.int lo1), .val (.int ln1), .val (.int lo2), .val (.int ln2), .val (.int lo3), .val (.int ln3), .val (.int lo4), .val (.int ln4), .val (.int lo5), .val (.int ln5), .val (.ref b25), .unset, .unset, .unset, .unset, .unset, .unset, .unset, .unset, .unset, .unset, .unset, .unset, .unset, .unset, .unset, .unset, .unset, .unset, .unset, .unset, .unset, .unset] [(.ref b195), (.ref b25)])) rfl (by rw [hml]; rfl) (Steps.refl _) (argsL := [(.ref b195)]) (rest := []) (lenOf own_pd15 rfl) rfl (by show 2 * 0 + _ ≤ _; exact Nat.le_of_eq rfl) (hb hby at_323) (fun _ _ => ⟨rfl, rfl, (by decide : 8 + 0 ≤ _), (by decide : 25 + 0 ≤ _)⟩)
              dsimp only [Pt.U, Pt.locs, Pt.cells, Pt.slots] at X237 l237 y237 z237 st237 hQ237
              subst l237 y237 z237
              obtain ⟨rfl, N237q, Kc237, -, Ec237, Fmc237, Fec237, Fsc237, Vc237⟩ := hQ237
              have N237 := Fr.app N216 N237q
              have Ek238 := Ek217.keep Kc237
              have Fk239 := Fk218.keep Kc237 (own_two (Ne.symm ne_b25_b27) ne_b27_r37)
              have Fk240 := Fk219.keep Kc237 (own_two (Ne.symm ne_b25_b27) ne_b27_r37)
              have Ek241 := Ek220.keep Kc237
              have Fk242 := Fk221.keep Kc237 (own_two (Ne.symm ne_b25_b41) (Ne.symm ne_r37_b41))
              have Fk243 := Fk222.keep Kc237 (own_two (Ne.symm ne_b25_b41) (Ne.symm ne_r37_b41))
              have Ek244 := Ek223.keep Kc237
              have Fk245 := Fk224.keep Kc237 (own_two (Ne.symm ne_b25_b66) (Ne.symm ne_r37_b66))
              have Fk246 := Fk225.keep Kc237 (own_two (Ne.symm ne_b25_b66) (Ne.symm ne_r37_b66))
              have Ek247 := Ek226.keep Kc237
              have Fk248 := Fk227.keep Kc237 (own_two (Ne.symm ne_b25_b100) (Ne.symm ne_r37_b100))
              have Fk249 := Fk228.keep Kc237 (own_two (Ne.symm ne_b25_b100) (Ne.symm ne_r37_b100))
              have Ek250 := Ek229.keep Kc237
              have Fk251 := Fk230.keep Kc237 (own_two (Ne.symm ne_b25_b143) (Ne.symm ne_r37_b143))
              have Fk252 := Fk231.keep Kc237 (own_two (Ne.symm ne_b25_b143) (Ne.symm ne_r37_b143))
              have Ek253 := Ec216.keep Kc237
              have Fk254 := Flc216.keep Kc237 (own_two (Ne.symm ne_b25_b195) (Ne.symm ne_r37_b195))
              have Fk255 := Fuc216.keep Kc237 (own_two (Ne.symm ne_b25_b195) (Ne.symm ne_r37_b195))
              have Z237 : n0 ≤ T237.heap.size := Nat.le_trans Z216 Kc237.1
              have O237 : Ext h0 T237.heap := own_ext_keep O216 Kc237 (own_all2 hz_b25 hz_r37)
              have K237 : Keep h0 T237.heap [] := K216.trans Kc237 (own_or2 (Or.inr hz_b25) (Or.inr hz_r37))
              refine own_goT (T' := T237) (g' := (mkF m 326 #[.val (.long xa), .second, .val (.long xb), .second, .val (.long xc), .second, .val (.int xn), .val (.int xx), .val (.int (Int32.ofNat N)), .val (.int lo0), .val (.int ln0), .val (.int lo1), .val (.int ln1), .val (.int lo2), .val (.int ln2), .val (.int lo3), .val (.int ln3), .val (.int lo4), .val (.int ln4), .val (.int lo5), .val (.int ln5), .val (.ref b25), .unset, .unset, .unset, .unset, .unset, .unset, .unset, .unset, .unset, .unset, .unset, .unset, .unset, .unset, .unset, .unset, .unset, .unset, .unset, .unset, .unset, .unset] [(.int (1 : Int32))])) st237 ?_
              refine own_go (T' := T237) (g' := (mkF m 327 #[.val (.long xa), .second, .val (.long xb), .second, .val (.long xc), .second, .val (.int xn), .val (.int xx), .val (.int (Int32.ofNat N)), .val (.int lo0), .val (.int ln0), .val (.int lo1), .val (.int ln1), .val (.int lo2), .val (.int ln2), .val (.int lo3), .val (.int ln3), .val (.int lo4), .val (.int ln4), .val (.int lo5), .val (.int ln5), .val (.ref b25), .unset, .unset, .unset, .unset, .unset, .unset, .unset, .unset, .unset, .unset, .unset, .unset, .unset, .unset, .unset, .unset, .unset, .unset, .unset, .unset, .unset, .unset] [])) (fun _ k => XS.pop X237.here hx rfl (hb hby at_326) rfl rfl k) ?_
              have hNk : N = 6 := by have q1 := own_lt1 (k := 5) (by decide) hN6 hc302; omega
              have DLk : own_DL Z T237.heap b25 r37 ka37 6 [(.ref b27), (.ref b41), (.ref b66), (.ref b100), (.ref b143), (.ref b195), .null, .null, .null, .null] (own_l6 b27 b41 b66 b100 b143 b195) (own_l6 lo0 lo1 lo2 lo3 lo4 lo5) (fun j => own_l6 lo0 lo1 lo2 lo3 lo4 lo5 j + own_l6 ln0 ln1 ln2 ln3 ln4 ln5 j - (1 : Int32)) := ⟨Ec237, Fec237, Fsc237, Vc237, fun i hi => match i, hi with | 0, _ => rfl | 1, _ => rfl | 2, _ => rfl | 3, _ => rfl | 4, _ => rfl | 5, _ => rfl | _ + 6, hi => absurd hi (by omega), fun i hi => match i, hi with | 0, _ => ⟨Ek238, Fk239, Fk240⟩ | 1, _ => ⟨Ek241, Fk242, Fk243⟩ | 2, _ => ⟨Ek244, Fk245, Fk246⟩ | 3, _ => ⟨Ek247, Fk248, Fk249⟩ | 4, _ => ⟨Ek250, Fk251, Fk252⟩ | 5, _ => ⟨Ek253, Fk254, Fk255⟩ | _ + 6, hi => absurd hi (by omega)⟩
              rw [← hNk] at DLk
              exact tail327 T237.heap b25 r37 _ _ _ T237 _ (own_mono X237 (by decide) (by decide)) rfl N237 DLk Z237 K237 O237
            · refine own_go (T' := T179) (g' := (mkF m 327 #[.val (.long xa), .second, .val (.long xb), .second, .val (.long xc), .second, .val (.int xn), .val (.int xx), .val (.int (Int32.ofNat N)), .val (.int lo0), .val (.int ln0), .val (.int lo1), .val (.int ln1), .val (.int lo2), .val (.int ln2), .val (.int lo3), .val (.int ln3), .val (.int lo4), .val (.int ln4), .val (.int lo5), .val (.int ln5), .val (.ref b25), .unset, .unset, .unset, .unset, .unset, .unset, .unset, .unset, .unset, .unset, .unset, .unset, .unset, .unset, .unset, .unset, .unset, .unset, .unset, .unset, .unset, .unset] [])) (fun _ k => XS.icmpYes X179.here hx rfl (pc0 := 302) (pc' := 327) rfl (hb hby at_302) rfl (flt (hc302 : ¬ ((5 : Int32) < (Int32.ofNat N)))).2.2.2 (by decide) (by decide) k) ?_
              have hNk : N = 5 := by have q1 := own_lt1 (k := 4) (by decide) hN6 hc274; have q2 := own_lt0 (k := 5) (by decide) hN6 hc302; omega
              have DLk : own_DL Z T179.heap b25 r37 ka37 5 [(.ref b27), (.ref b41), (.ref b66), (.ref b100), (.ref b143), .null, .null, .null, .null, .null] (own_l6 b27 b41 b66 b100 b143 b27) (own_l6 lo0 lo1 lo2 lo3 lo4 lo5) (fun j => own_l6 lo0 lo1 lo2 lo3 lo4 lo5 j + own_l6 ln0 ln1 ln2 ln3 ln4 ln5 j - (1 : Int32)) := ⟨Ec179, Fec179, Fsc179, Vc179, fun i hi => match i, hi with | 0, _ => rfl | 1, _ => rfl | 2, _ => rfl | 3, _ => rfl | 4, _ => rfl | _ + 5, hi => absurd hi (by omega), fun i hi => match i, hi with | 0, _ => ⟨Ek180, Fk181, Fk182⟩ | 1, _ => ⟨Ek183, Fk184, Fk185⟩ | 2, _ => ⟨Ek186, Fk187, Fk188⟩ | 3, _ => ⟨Ek189, Fk190, Fk191⟩ | 4, _ => ⟨Ek192, Fk193, Fk194⟩ | _ + 5, hi => absurd hi (by omega)⟩
              rw [← hNk] at DLk
              exact tail327 T179.heap b25 r37 _ _ _ T179 _ (own_mono X179 (by decide) (by decide)) rfl N179 DLk Z179 K179 O179
          · refine own_go (T' := T130) (g' := (mkF m 299 #[.val (.long xa), .second, .val (.long xb), .second, .val (.long xc), .second, .val (.int xn), .val (.int xx), .val (.int (Int32.ofNat N)), .val (.int lo0), .val (.int ln0), .val (.int lo1), .val (.int ln1), .val (.int lo2), .val (.int ln2), .val (.int lo3), .val (.int ln3), .val (.int lo4), .val (.int ln4), .val (.int lo5), .val (.int ln5), .val (.ref b25), .unset, .unset, .unset, .unset, .unset, .unset, .unset, .unset, .unset, .unset, .unset, .unset, .unset, .unset, .unset, .unset, .unset, .unset, .unset, .unset, .unset, .unset] [])) (fun _ k => XS.icmpYes X130.here hx rfl (pc0 := 274) (pc' := 299) rfl (hb hby at_274) rfl (flt (hc274 : ¬ ((4 : Int32) < (Int32.ofNat N)))).2.2.2 (by decide) (by decide) k) ?_
            refine own_go (T' := T130) (g' := (mkF m 301 #[.val (.long xa), .second, .val (.long xb), .second, .val (.long xc), .second, .val (.int xn), .val (.int xx), .val (.int (Int32.ofNat N)), .val (.int lo0), .val (.int ln0), .val (.int lo1), .val (.int ln1), .val (.int lo2), .val (.int ln2), .val (.int lo3), .val (.int ln3), .val (.int lo4), .val (.int ln4), .val (.int lo5), .val (.int ln5), .val (.ref b25), .unset, .unset, .unset, .unset, .unset, .unset, .unset, .unset, .unset, .unset, .unset, .unset, .unset, .unset, .unset, .unset, .unset, .unset, .unset, .unset, .unset, .unset] [(.int (Int32.ofNat N))])) (fun _ k => XS.iload X130.here hx rfl (hb hby at_299) rfl k) ?_
            refine own_go (T' := T130) (g' := (mkF m 302 #[.val (.long xa), .second, .val (.long xb), .second, .val (.long xc), .second, .val (.int xn), .val (.int xx), .val (.int (Int32.ofNat N)), .val (.int lo0), .val (.int ln0), .val (.int lo1), .val (.int ln1), .val (.int lo2), .val (.int ln2), .val (.int lo3), .val (.int ln3), .val (.int lo4), .val (.int ln4), .val (.int lo5), .val (.int ln5), .val (.ref b25), .unset, .unset, .unset, .unset, .unset, .unset, .unset, .unset, .unset, .unset, .unset, .unset, .unset, .unset, .unset, .unset, .unset, .unset, .unset, .unset, .unset, .unset] [(.int (5 : Int32)), (.int (Int32.ofNat N))])) (fun _ k => XS.iconst X130.here hx rfl (hb hby at_301) k) ?_
            refine own_go (T' := T130) (g' := (mkF m 327 #[.val (.long xa), .second, .val (.long xb), .second, .val (.long xc), .second, .val (.int xn), .val (.int xx), .val (.int (Int32.ofNat N)), .val (.int lo0), .val (.int ln0), .val (.int lo1), .val (.int ln1), .val (.int lo2), .val (.int ln2), .val (.int lo3), .val (.int ln3), .val (.int lo4), .val (.int ln4), .val (.int lo5), .val (.int ln5), .val (.ref b25), .unset, .unset, .unset, .unset, .unset, .unset, .unset, .unset, .unset, .unset, .unset, .unset, .unset, .unset, .unset, .unset, .unset, .unset, .unset, .unset, .unset, .unset] [])) (fun _ k => XS.icmpYes X130.here hx rfl (pc0 := 302) (pc' := 327) rfl (hb hby at_302) rfl (flt (own_ltF (j := 4) (k := 5) (by decide) hN6 (by decide) hc274 : ¬ ((5 : Int32) < (Int32.ofNat N)))).2.2.2 (by decide) (by decide) k) ?_
            have hNk : N = 4 := by have q1 := own_lt1 (k := 3) (by decide) hN6 hc246; have q2 := own_lt0 (k := 4) (by decide) hN6 hc274; omega
            have DLk : own_DL Z T130.heap b25 r37 ka37 4 [(.ref b27), (.ref b41), (.ref b66), (.ref b100), .null, .null, .null, .null, .null, .null] (own_l6 b27 b41 b66 b100 b27 b27) (own_l6 lo0 lo1 lo2 lo3 lo4 lo5) (fun j => own_l6 lo0 lo1 lo2 lo3 lo4 lo5 j + own_l6 ln0 ln1 ln2 ln3 ln4 ln5 j - (1 : Int32)) := ⟨Ec130, Fec130, Fsc130, Vc130, fun i hi => match i, hi with | 0, _ => rfl | 1, _ => rfl | 2, _ => rfl | 3, _ => rfl | _ + 4, hi => absurd hi (by omega), fun i hi => match i, hi with | 0, _ => ⟨Ek131, Fk132, Fk133⟩ | 1, _ => ⟨Ek134, Fk135, Fk136⟩ | 2, _ => ⟨Ek137, Fk138, Fk139⟩ | 3, _ => ⟨Ek140, Fk141, Fk142⟩ | _ + 4, hi => absurd hi (by omega)⟩
            rw [← hNk] at DLk
            exact tail327 T130.heap b25 r37 _ _ _ T130 _ (own_mono X130 (by decide) (by decide)) rfl N130 DLk Z130 K130 O130
        · refine own_go (T' := T90) (g' := (mkF m 271 #[.val (.long xa), .second, .val (.long xb), .second, .val (.long xc), .second, .val (.int xn), .val (.int xx), .val (.int (Int32.ofNat N)), .val (.int lo0), .val (.int ln0), .val (.int lo1), .val (.int ln1), .val (.int lo2), .val (.int ln2), .val (.int lo3), .val (.int ln3), .val (.int lo4), .val (.int ln4), .val (.int lo5), .val (.int ln5), .val (.ref b25), .unset, .unset, .unset, .unset, .unset, .unset, .unset, .unset, .unset, .unset, .unset, .unset, .unset, .unset, .unset, .unset, .unset, .unset, .unset, .unset, .unset, .unset] [])) (fun _ k => XS.icmpYes X90.here hx rfl (pc0 := 246) (pc' := 271) rfl (hb hby at_246) rfl (flt (hc246 : ¬ ((3 : Int32) < (Int32.ofNat N)))).2.2.2 (by decide) (by decide) k) ?_
          refine own_go (T' := T90) (g' := (mkF m 273 #[.val (.long xa), .second, .val (.long xb), .second, .val (.long xc), .second, .val (.int xn), .val (.int xx), .val (.int (Int32.ofNat N)), .val (.int lo0), .val (.int ln0), .val (.int lo1), .val (.int ln1), .val (.int lo2), .val (.int ln2), .val (.int lo3), .val (.int ln3), .val (.int lo4), .val (.int ln4), .val (.int lo5), .val (.int ln5), .val (.ref b25), .unset, .unset, .unset, .unset, .unset, .unset, .unset, .unset, .unset, .unset, .unset, .unset, .unset, .unset, .unset, .unset, .unset, .unset, .unset, .unset, .unset, .unset] [(.int (Int32.ofNat N))])) (fun _ k => XS.iload X90.here hx rfl (hb hby at_271) rfl k) ?_
          refine own_go (T' := T90) (g' := (mkF m 274 #[.val (.long xa), .second, .val (.long xb), .second, .val (.long xc), .second, .val (.int xn), .val (.int xx), .val (.int (Int32.ofNat N)), .val (.int lo0), .val (.int ln0), .val (.int lo1), .val (.int ln1), .val (.int lo2), .val (.int ln2), .val (.int lo3), .val (.int ln3), .val (.int lo4), .val (.int ln4), .val (.int lo5), .val (.int ln5), .val (.ref b25), .unset, .unset, .unset, .unset, .unset, .unset, .unset, .unset, .unset, .unset, .unset, .unset, .unset, .unset, .unset, .unset, .unset, .unset, .unset, .unset, .unset, .unset] [(.int (4 : Int32)), (.int (Int32.ofNat N))])) (fun _ k => XS.iconst X90.here hx rfl (hb hby at_273) k) ?_
          refine own_go (T' := T90) (g' := (mkF m 299 #[.val (.long xa), .second, .val (.long xb), .second, .val (.long xc), .second, .val (.int xn), .val (.int xx), .val (.int (Int32.ofNat N)), .val (.int lo0), .val (.int ln0), .val (.int lo1), .val (.int ln1), .val (.int lo2), .val (.int ln2), .val (.int lo3), .val (.int ln3), .val (.int lo4), .val (.int ln4), .val (.int lo5), .val (.int ln5), .val (.ref b25), .unset, .unset, .unset, .unset, .unset, .unset, .unset, .unset, .unset, .unset, .unset, .unset, .unset, .unset, .unset, .unset, .unset, .unset, .unset, .unset, .unset, .unset] [])) (fun _ k => XS.icmpYes X90.here hx rfl (pc0 := 274) (pc' := 299) rfl (hb hby at_274) rfl (flt (own_ltF (j := 3) (k := 4) (by decide) hN6 (by decide) hc246 : ¬ ((4 : Int32) < (Int32.ofNat N)))).2.2.2 (by decide) (by decide) k) ?_
          refine own_go (T' := T90) (g' := (mkF m 301 #[.val (.long xa), .second, .val (.long xb), .second, .val (.long xc), .second, .val (.int xn), .val (.int xx), .val (.int (Int32.ofNat N)), .val (.int lo0), .val (.int ln0), .val (.int lo1), .val (.int ln1), .val (.int lo2), .val (.int ln2), .val (.int lo3), .val (.int ln3), .val (.int lo4), .val (.int ln4), .val (.int lo5), .val (.int ln5), .val (.ref b25), .unset, .unset, .unset, .unset, .unset, .unset, .unset, .unset, .unset, .unset, .unset, .unset, .unset, .unset, .unset, .unset, .unset, .unset, .unset, .unset, .unset, .unset] [(.int (Int32.ofNat N))])) (fun _ k => XS.iload X90.here hx rfl (hb hby at_299) rfl k) ?_
          refine own_go (T' := T90) (g' := (mkF m 302 #[.val (.long xa), .second, .val (.long xb), .second, .val (.long xc), .second, .val (.int xn), .val (.int xx), .val (.int (Int32.ofNat N)), .val (.int lo0), .val (.int ln0), .val (.int lo1), .val (.int ln1), .val (.int lo2), .val (.int ln2), .val (.int lo3), .val (.int ln3), .val (.int lo4), .val (.int ln4), .val (.int lo5), .val (.int ln5), .val (.ref b25), .unset, .unset, .unset, .unset, .unset, .unset, .unset, .unset, .unset, .unset, .unset, .unset, .unset, .unset, .unset, .unset, .unset, .unset, .unset, .unset, .unset, .unset] [(.int (5 : Int32)), (.int (Int32.ofNat N))])) (fun _ k => XS.iconst X90.here hx rfl (hb hby at_301) k) ?_
          refine own_go (T' := T90) (g' := (mkF m 327 #[.val (.long xa), .second, .val (.long xb), .second, .val (.long xc), .second, .val (.int xn), .val (.int xx), .val (.int (Int32.ofNat N)), .val (.int lo0), .val (.int ln0), .val (.int lo1), .val (.int ln1), .val (.int lo2), .val (.int ln2), .val (.int lo3), .val (.int ln3), .val (.int lo4), .val (.int ln4), .val (.int lo5), .val (.int ln5), .val (.ref b25), .unset, .unset, .unset, .unset, .unset, .unset, .unset, .unset, .unset, .unset, .unset, .unset, .unset, .unset, .unset, .unset, .unset, .unset, .unset, .unset, .unset, .unset] [])) (fun _ k => XS.icmpYes X90.here hx rfl (pc0 := 302) (pc' := 327) rfl (hb hby at_302) rfl (flt (own_ltF (j := 3) (k := 5) (by decide) hN6 (by decide) hc246 : ¬ ((5 : Int32) < (Int32.ofNat N)))).2.2.2 (by decide) (by decide) k) ?_
          have hNk : N = 3 := by have q1 := own_lt1 (k := 2) (by decide) hN6 hc218; have q2 := own_lt0 (k := 3) (by decide) hN6 hc246; omega
          have DLk : own_DL Z T90.heap b25 r37 ka37 3 [(.ref b27), (.ref b41), (.ref b66), .null, .null, .null, .null, .null, .null, .null] (own_l6 b27 b41 b66 b27 b27 b27) (own_l6 lo0 lo1 lo2 lo3 lo4 lo5) (fun j => own_l6 lo0 lo1 lo2 lo3 lo4 lo5 j + own_l6 ln0 ln1 ln2 ln3 ln4 ln5 j - (1 : Int32)) := ⟨Ec90, Fec90, Fsc90, Vc90, fun i hi => match i, hi with | 0, _ => rfl | 1, _ => rfl | 2, _ => rfl | _ + 3, hi => absurd hi (by omega), fun i hi => match i, hi with | 0, _ => ⟨Ek91, Fk92, Fk93⟩ | 1, _ => ⟨Ek94, Fk95, Fk96⟩ | 2, _ => ⟨Ek97, Fk98, Fk99⟩ | _ + 3, hi => absurd hi (by omega)⟩
          rw [← hNk] at DLk
          exact tail327 T90.heap b25 r37 _ _ _ T90 _ (own_mono X90 (by decide) (by decide)) rfl N90 DLk Z90 K90 O90
      · refine own_go (T' := T59) (g' := (mkF m 243 #[.val (.long xa), .second, .val (.long xb), .second, .val (.long xc), .second, .val (.int xn), .val (.int xx), .val (.int (Int32.ofNat N)), .val (.int lo0), .val (.int ln0), .val (.int lo1), .val (.int ln1), .val (.int lo2), .val (.int ln2), .val (.int lo3), .val (.int ln3), .val (.int lo4), .val (.int ln4), .val (.int lo5), .val (.int ln5), .val (.ref b25), .unset, .unset, .unset, .unset, .unset, .unset, .unset, .unset, .unset, .unset, .unset, .unset, .unset, .unset, .unset, .unset, .unset, .unset, .unset, .unset, .unset, .unset] [])) (fun _ k => XS.icmpYes X59.here hx rfl (pc0 := 218) (pc' := 243) rfl (hb hby at_218) rfl (flt (hc218 : ¬ ((2 : Int32) < (Int32.ofNat N)))).2.2.2 (by decide) (by decide) k) ?_
        refine own_go (T' := T59) (g' := (mkF m 245 #[.val (.long xa), .second, .val (.long xb), .second, .val (.long xc), .second, .val (.int xn), .val (.int xx), .val (.int (Int32.ofNat N)), .val (.int lo0), .val (.int ln0), .val (.int lo1), .val (.int ln1), .val (.int lo2), .val (.int ln2), .val (.int lo3), .val (.int ln3), .val (.int lo4), .val (.int ln4), .val (.int lo5), .val (.int ln5), .val (.ref b25), .unset, .unset, .unset, .unset, .unset, .unset, .unset, .unset, .unset, .unset, .unset, .unset, .unset, .unset, .unset, .unset, .unset, .unset, .unset, .unset, .unset, .unset] [(.int (Int32.ofNat N))])) (fun _ k => XS.iload X59.here hx rfl (hb hby at_243) rfl k) ?_
        refine own_go (T' := T59) (g' := (mkF m 246 #[.val (.long xa), .second, .val (.long xb), .second, .val (.long xc), .second, .val (.int xn), .val (.int xx), .val (.int (Int32.ofNat N)), .val (.int lo0), .val (.int ln0), .val (.int lo1), .val (.int ln1), .val (.int lo2), .val (.int ln2), .val (.int lo3), .val (.int ln3), .val (.int lo4), .val (.int ln4), .val (.int lo5), .val (.int ln5), .val (.ref b25), .unset, .unset, .unset, .unset, .unset, .unset, .unset, .unset, .unset, .unset, .unset, .unset, .unset, .unset, .unset, .unset, .unset, .unset, .unset, .unset, .unset, .unset] [(.int (3 : Int32)), (.int (Int32.ofNat N))])) (fun _ k => XS.iconst X59.here hx rfl (hb hby at_245) k) ?_
        refine own_go (T' := T59) (g' := (mkF m 271 #[.val (.long xa), .second, .val (.long xb), .second, .val (.long xc), .second, .val (.int xn), .val (.int xx), .val (.int (Int32.ofNat N)), .val (.int lo0), .val (.int ln0), .val (.int lo1), .val (.int ln1), .val (.int lo2), .val (.int ln2), .val (.int lo3), .val (.int ln3), .val (.int lo4), .val (.int ln4), .val (.int lo5), .val (.int ln5), .val (.ref b25), .unset, .unset, .unset, .unset, .unset, .unset, .unset, .unset, .unset, .unset, .unset, .unset, .unset, .unset, .unset, .unset, .unset, .unset, .unset, .unset, .unset, .unset] [])) (fun _ k => XS.icmpYes X59.here hx rfl (pc0 := 246) (pc' := 271) rfl (hb hby at_246) rfl (flt (own_ltF (j := 2) (k := 3) (by decide) hN6 (by decide) hc218 : ¬ ((3 : Int32) < (Int32.ofNat N)))).2.2.2 (by decide) (by decide) k) ?_
        refine own_go (T' := T59) (g' := (mkF m 273 #[.val (.long xa), .second, .val (.long xb), .second, .val (.long xc), .second, .val (.int xn), .val (.int xx), .val (.int (Int32.ofNat N)), .val (.int lo0), .val (.int ln0), .val (.int lo1), .val (.int ln1), .val (.int lo2), .val (.int ln2), .val (.int lo3), .val (.int ln3), .val (.int lo4), .val (.int ln4), .val (.int lo5), .val (.int ln5), .val (.ref b25), .unset, .unset, .unset, .unset, .unset, .unset, .unset, .unset, .unset, .unset, .unset, .unset, .unset, .unset, .unset, .unset, .unset, .unset, .unset, .unset, .unset, .unset] [(.int (Int32.ofNat N))])) (fun _ k => XS.iload X59.here hx rfl (hb hby at_271) rfl k) ?_
        refine own_go (T' := T59) (g' := (mkF m 274 #[.val (.long xa), .second, .val (.long xb), .second, .val (.long xc), .second, .val (.int xn), .val (.int xx), .val (.int (Int32.ofNat N)), .val (.int lo0), .val (.int ln0), .val (.int lo1), .val (.int ln1), .val (.int lo2), .val (.int ln2), .val (.int lo3), .val (.int ln3), .val (.int lo4), .val (.int ln4), .val (.int lo5), .val (.int ln5), .val (.ref b25), .unset, .unset, .unset, .unset, .unset, .unset, .unset, .unset, .unset, .unset, .unset, .unset, .unset, .unset, .unset, .unset, .unset, .unset, .unset, .unset, .unset, .unset] [(.int (4 : Int32)), (.int (Int32.ofNat N))])) (fun _ k => XS.iconst X59.here hx rfl (hb hby at_273) k) ?_
        refine own_go (T' := T59) (g' := (mkF m 299 #[.val (.long xa), .second, .val (.long xb), .second, .val (.long xc), .second, .val (.int xn), .val (.int xx), .val (.int (Int32.ofNat N)), .val (.int lo0), .val (.int ln0), .val (.int lo1), .val (.int ln1), .val (.int lo2), .val (.int ln2), .val (.int lo3), .val (.int ln3), .val (.int lo4), .val (.int ln4), .val (.int lo5), .val (.int ln5), .val (.ref b25), .unset, .unset, .unset, .unset, .unset, .unset, .unset, .unset, .unset, .unset, .unset, .unset, .unset, .unset, .unset, .unset, .unset, .unset, .unset, .unset, .unset, .unset] [])) (fun _ k => XS.icmpYes X59.here hx rfl (pc0 := 274) (pc' := 299) rfl (hb hby at_274) rfl (flt (own_ltF (j := 2) (k := 4) (by decide) hN6 (by decide) hc218 : ¬ ((4 : Int32) < (Int32.ofNat N)))).2.2.2 (by decide) (by decide) k) ?_
        refine own_go (T' := T59) (g' := (mkF m 301 #[.val (.long xa), .second, .val (.long xb), .second, .val (.long xc), .second, .val (.int xn), .val (.int xx), .val (.int (Int32.ofNat N)), .val (.int lo0), .val (.int ln0), .val (.int lo1), .val (.int ln1), .val (.int lo2), .val (.int ln2), .val (.int lo3), .val (.int ln3), .val (.int lo4), .val (.int ln4), .val (.int lo5), .val (.int ln5), .val (.ref b25), .unset, .unset, .unset, .unset, .unset, .unset, .unset, .unset, .unset, .unset, .unset, .unset, .unset, .unset, .unset, .unset, .unset, .unset, .unset, .unset, .unset, .unset] [(.int (Int32.ofNat N))])) (fun _ k => XS.iload X59.here hx rfl (hb hby at_299) rfl k) ?_
        refine own_go (T' := T59) (g' := (mkF m 302 #[.val (.long xa), .second, .val (.long xb), .second, .val (.long xc), .second, .val (.int xn), .val (.int xx), .val (.int (Int32.ofNat N)), .val (.int lo0), .val (.int ln0), .val (.int lo1), .val (.int ln1), .val (.int lo2), .val (.int ln2), .val (.int lo3), .val (.int ln3), .val (.int lo4), .val (.int ln4), .val (.int lo5), .val (.int ln5), .val (.ref b25), .unset, .unset, .unset, .unset, .unset, .unset, .unset, .unset, .unset, .unset, .unset, .unset, .unset, .unset, .unset, .unset, .unset, .unset, .unset, .unset, .unset, .unset] [(.int (5 : Int32)), (.int (Int32.ofNat N))])) (fun _ k => XS.iconst X59.here hx rfl (hb hby at_301) k) ?_
        refine own_go (T' := T59) (g' := (mkF m 327 #[.val (.long xa), .second, .val (.long xb), .second, .val (.long xc), .second, .val (.int xn), .val (.int xx), .val (.int (Int32.ofNat N)), .val (.int lo0), .val (.int ln0), .val (.int lo1), .val (.int ln1), .val (.int lo2), .val (.int ln2), .val (.int lo3), .val (.int ln3), .val (.int lo4), .val (.int ln4), .val (.int lo5), .val (.int ln5), .val (.ref b25), .unset, .unset, .unset, .unset, .unset, .unset, .unset, .unset, .unset, .unset, .unset, .unset, .unset, .unset, .unset, .unset, .unset, .unset, .unset, .unset, .unset, .unset] [])) (fun _ k => XS.icmpYes X59.here hx rfl (pc0 := 302) (pc' := 327) rfl (hb hby at_302) rfl (flt (own_ltF (j := 2) (k := 5) (by decide) hN6 (by decide) hc218 : ¬ ((5 : Int32) < (Int32.ofNat N)))).2.2.2 (by decide) (by decide) k) ?_
        have hNk : N = 2 := by have q1 := own_lt1 (k := 1) (by decide) hN6 hc190; have q2 := own_lt0 (k := 2) (by decide) hN6 hc218; omega
        have DLk : own_DL Z T59.heap b25 r37 ka37 2 [(.ref b27), (.ref b41), .null, .null, .null, .null, .null, .null, .null, .null] (own_l6 b27 b41 b27 b27 b27 b27) (own_l6 lo0 lo1 lo2 lo3 lo4 lo5) (fun j => own_l6 lo0 lo1 lo2 lo3 lo4 lo5 j + own_l6 ln0 ln1 ln2 ln3 ln4 ln5 j - (1 : Int32)) := ⟨Ec59, Fec59, Fsc59, Vc59, fun i hi => match i, hi with | 0, _ => rfl | 1, _ => rfl | _ + 2, hi => absurd hi (by omega), fun i hi => match i, hi with | 0, _ => ⟨Ek60, Fk61, Fk62⟩ | 1, _ => ⟨Ek63, Fk64, Fk65⟩ | _ + 2, hi => absurd hi (by omega)⟩
        rw [← hNk] at DLk
        exact tail327 T59.heap b25 r37 _ _ _ T59 _ (own_mono X59 (by decide) (by decide)) rfl N59 DLk Z59 K59 O59
    · refine own_go (T' := T37) (g' := (mkF m 215 #[.val (.long xa), .second, .val (.long xb), .second, .val (.long xc), .second, .val (.int xn), .val (.int xx), .val (.int (Int32.ofNat N)), .val (.int lo0), .val (.int ln0), .val (.int lo1), .val (.int ln1), .val (.int lo2), .val (.int ln2), .val (.int lo3), .val (.int ln3), .val (.int lo4), .val (.int ln4), .val (.int lo5), .val (.int ln5), .val (.ref b25), .unset, .unset, .unset, .unset, .unset, .unset, .unset, .unset, .unset, .unset, .unset, .unset, .unset, .unset, .unset, .unset, .unset, .unset, .unset, .unset, .unset, .unset] [])) (fun _ k => XS.icmpYes X37.here hx rfl (pc0 := 190) (pc' := 215) rfl (hb hby at_190) rfl (flt (hc190 : ¬ ((1 : Int32) < (Int32.ofNat N)))).2.2.2 (by decide) (by decide) k) ?_
      refine own_go (T' := T37) (g' := (mkF m 217 #[.val (.long xa), .second, .val (.long xb), .second, .val (.long xc), .second, .val (.int xn), .val (.int xx), .val (.int (Int32.ofNat N)), .val (.int lo0), .val (.int ln0), .val (.int lo1), .val (.int ln1), .val (.int lo2), .val (.int ln2), .val (.int lo3), .val (.int ln3), .val (.int lo4), .val (.int ln4), .val (.int lo5), .val (.int ln5), .val (.ref b25), .unset, .unset, .unset, .unset, .unset, .unset, .unset, .unset, .unset, .unset, .unset, .unset, .unset, .unset, .unset, .unset, .unset, .unset, .unset, .unset, .unset, .unset] [(.int (Int32.ofNat N))])) (fun _ k => XS.iload X37.here hx rfl (hb hby at_215) rfl k) ?_
      refine own_go (T' := T37) (g' := (mkF m 218 #[.val (.long xa), .second, .val (.long xb), .second, .val (.long xc), .second, .val (.int xn), .val (.int xx), .val (.int (Int32.ofNat N)), .val (.int lo0), .val (.int ln0), .val (.int lo1), .val (.int ln1), .val (.int lo2), .val (.int ln2), .val (.int lo3), .val (.int ln3), .val (.int lo4), .val (.int ln4), .val (.int lo5), .val (.int ln5), .val (.ref b25), .unset, .unset, .unset, .unset, .unset, .unset, .unset, .unset, .unset, .unset, .unset, .unset, .unset, .unset, .unset, .unset, .unset, .unset, .unset, .unset, .unset, .unset] [(.int (2 : Int32)), (.int (Int32.ofNat N))])) (fun _ k => XS.iconst X37.here hx rfl (hb hby at_217) k) ?_
      refine own_go (T' := T37) (g' := (mkF m 243 #[.val (.long xa), .second, .val (.long xb), .second, .val (.long xc), .second, .val (.int xn), .val (.int xx), .val (.int (Int32.ofNat N)), .val (.int lo0), .val (.int ln0), .val (.int lo1), .val (.int ln1), .val (.int lo2), .val (.int ln2), .val (.int lo3), .val (.int ln3), .val (.int lo4), .val (.int ln4), .val (.int lo5), .val (.int ln5), .val (.ref b25), .unset, .unset, .unset, .unset, .unset, .unset, .unset, .unset, .unset, .unset, .unset, .unset, .unset, .unset, .unset, .unset, .unset, .unset, .unset, .unset, .unset, .unset] [])) (fun _ k => XS.icmpYes X37.here hx rfl (pc0 := 218) (pc' := 243) rfl (hb hby at_218) rfl (flt (own_ltF (j := 1) (k := 2) (by decide) hN6 (by decide) hc190 : ¬ ((2 : Int32) < (Int32.ofNat N)))).2.2.2 (by decide) (by decide) k) ?_
      refine own_go (T' := T37) (g' := (mkF m 245 #[.val (.long xa), .second, .val (.long xb), .second, .val (.long xc), .second, .val (.int xn), .val (.int xx), .val (.int (Int32.ofNat N)), .val (.int lo0), .val (.int ln0), .val (.int lo1), .val (.int ln1), .val (.int lo2), .val (.int ln2), .val (.int lo3), .val (.int ln3), .val (.int lo4), .val (.int ln4), .val (.int lo5), .val (.int ln5), .val (.ref b25), .unset, .unset, .unset, .unset, .unset, .unset, .unset, .unset, .unset, .unset, .unset, .unset, .unset, .unset, .unset, .unset, .unset, .unset, .unset, .unset, .unset, .unset] [(.int (Int32.ofNat N))])) (fun _ k => XS.iload X37.here hx rfl (hb hby at_243) rfl k) ?_
      refine own_go (T' := T37) (g' := (mkF m 246 #[.val (.long xa), .second, .val (.long xb), .second, .val (.long xc), .second, .val (.int xn), .val (.int xx), .val (.int (Int32.ofNat N)), .val (.int lo0), .val (.int ln0), .val (.int lo1), .val (.int ln1), .val (.int lo2), .val (.int ln2), .val (.int lo3), .val (.int ln3), .val (.int lo4), .val (.int ln4), .val (.int lo5), .val (.int ln5), .val (.ref b25), .unset, .unset, .unset, .unset, .unset, .unset, .unset, .unset, .unset, .unset, .unset, .unset, .unset, .unset, .unset, .unset, .unset, .unset, .unset, .unset, .unset, .unset] [(.int (3 : Int32)), (.int (Int32.ofNat N))])) (fun _ k => XS.iconst X37.here hx rfl (hb hby at_245) k) ?_
      refine own_go (T' := T37) (g' := (mkF m 271 #[.val (.long xa), .second, .val (.long xb), .second, .val (.long xc), .second, .val (.int xn), .val (.int xx), .val (.int (Int32.ofNat N)), .val (.int lo0), .val (.int ln0), .val (.int lo1), .val (.int ln1), .val (.int lo2), .val (.int ln2), .val (.int lo3), .val (.int ln3), .val (.int lo4), .val (.int ln4), .val (.int lo5), .val (.int ln5), .val (.ref b25), .unset, .unset, .unset, .unset, .unset, .unset, .unset, .unset, .unset, .unset, .unset, .unset, .unset, .unset, .unset, .unset, .unset, .unset, .unset, .unset, .unset, .unset] [])) (fun _ k => XS.icmpYes X37.here hx rfl (pc0 := 246) (pc' := 271) rfl (hb hby at_246) rfl (flt (own_ltF (j := 1) (k := 3) (by decide) hN6 (by decide) hc190 : ¬ ((3 : Int32) < (Int32.ofNat N)))).2.2.2 (by decide) (by decide) k) ?_
      refine own_go (T' := T37) (g' := (mkF m 273 #[.val (.long xa), .second, .val (.long xb), .second, .val (.long xc), .second, .val (.int xn), .val (.int xx), .val (.int (Int32.ofNat N)), .val (.int lo0), .val (.int ln0), .val (.int lo1), .val (.int ln1), .val (.int lo2), .val (.int ln2), .val (.int lo3), .val (.int ln3), .val (.int lo4), .val (.int ln4), .val (.int lo5), .val (.int ln5), .val (.ref b25), .unset, .unset, .unset, .unset, .unset, .unset, .unset, .unset, .unset, .unset, .unset, .unset, .unset, .unset, .unset, .unset, .unset, .unset, .unset, .unset, .unset, .unset] [(.int (Int32.ofNat N))])) (fun _ k => XS.iload X37.here hx rfl (hb hby at_271) rfl k) ?_
      refine own_go (T' := T37) (g' := (mkF m 274 #[.val (.long xa), .second, .val (.long xb), .second, .val (.long xc), .second, .val (.int xn), .val (.int xx), .val (.int (Int32.ofNat N)), .val (.int lo0), .val (.int ln0), .val (.int lo1), .val (.int ln1), .val (.int lo2), .val (.int ln2), .val (.int lo3), .val (.int ln3), .val (.int lo4), .val (.int ln4), .val (.int lo5), .val (.int ln5), .val (.ref b25), .unset, .unset, .unset, .unset, .unset, .unset, .unset, .unset, .unset, .unset, .unset, .unset, .unset, .unset, .unset, .unset, .unset, .unset, .unset, .unset, .unset, .unset] [(.int (4 : Int32)), (.int (Int32.ofNat N))])) (fun _ k => XS.iconst X37.here hx rfl (hb hby at_273) k) ?_
      refine own_go (T' := T37) (g' := (mkF m 299 #[.val (.long xa), .second, .val (.long xb), .second, .val (.long xc), .second, .val (.int xn), .val (.int xx), .val (.int (Int32.ofNat N)), .val (.int lo0), .val (.int ln0), .val (.int lo1), .val (.int ln1), .val (.int lo2), .val (.int ln2), .val (.int lo3), .val (.int ln3), .val (.int lo4), .val (.int ln4), .val (.int lo5), .val (.int ln5), .val (.ref b25), .unset, .unset, .unset, .unset, .unset, .unset, .unset, .unset, .unset, .unset, .unset, .unset, .unset, .unset, .unset, .unset, .unset, .unset, .unset, .unset, .unset, .unset] [])) (fun _ k => XS.icmpYes X37.here hx rfl (pc0 := 274) (pc' := 299) rfl (hb hby at_274) rfl (flt (own_ltF (j := 1) (k := 4) (by decide) hN6 (by decide) hc190 : ¬ ((4 : Int32) < (Int32.ofNat N)))).2.2.2 (by decide) (by decide) k) ?_
      refine own_go (T' := T37) (g' := (mkF m 301 #[.val (.long xa), .second, .val (.long xb), .second, .val (.long xc), .second, .val (.int xn), .val (.int xx), .val (.int (Int32.ofNat N)), .val (.int lo0), .val (.int ln0), .val (.int lo1), .val (.int ln1), .val (.int lo2), .val (.int ln2), .val (.int lo3), .val (.int ln3), .val (.int lo4), .val (.int ln4), .val (.int lo5), .val (.int ln5), .val (.ref b25), .unset, .unset, .unset, .unset, .unset, .unset, .unset, .unset, .unset, .unset, .unset, .unset, .unset, .unset, .unset, .unset, .unset, .unset, .unset, .unset, .unset, .unset] [(.int (Int32.ofNat N))])) (fun _ k => XS.iload X37.here hx rfl (hb hby at_299) rfl k) ?_
      refine own_go (T' := T37) (g' := (mkF m 302 #[.val (.long xa), .second, .val (.long xb), .second, .val (.long xc), .second, .val (.int xn), .val (.int xx), .val (.int (Int32.ofNat N)), .val (.int lo0), .val (.int ln0), .val (.int lo1), .val (.int ln1), .val (.int lo2), .val (.int ln2), .val (.int lo3), .val (.int ln3), .val (.int lo4), .val (.int ln4), .val (.int lo5), .val (.int ln5), .val (.ref b25), .unset, .unset, .unset, .unset, .unset, .unset, .unset, .unset, .unset, .unset, .unset, .unset, .unset, .unset, .unset, .unset, .unset, .unset, .unset, .unset, .unset, .unset] [(.int (5 : Int32)), (.int (Int32.ofNat N))])) (fun _ k => XS.iconst X37.here hx rfl (hb hby at_301) k) ?_
      refine own_go (T' := T37) (g' := (mkF m 327 #[.val (.long xa), .second, .val (.long xb), .second, .val (.long xc), .second, .val (.int xn), .val (.int xx), .val (.int (Int32.ofNat N)), .val (.int lo0), .val (.int ln0), .val (.int lo1), .val (.int ln1), .val (.int lo2), .val (.int ln2), .val (.int lo3), .val (.int ln3), .val (.int lo4), .val (.int ln4), .val (.int lo5), .val (.int ln5), .val (.ref b25), .unset, .unset, .unset, .unset, .unset, .unset, .unset, .unset, .unset, .unset, .unset, .unset, .unset, .unset, .unset, .unset, .unset, .unset, .unset, .unset, .unset, .unset] [])) (fun _ k => XS.icmpYes X37.here hx rfl (pc0 := 302) (pc' := 327) rfl (hb hby at_302) rfl (flt (own_ltF (j := 1) (k := 5) (by decide) hN6 (by decide) hc190 : ¬ ((5 : Int32) < (Int32.ofNat N)))).2.2.2 (by decide) (by decide) k) ?_
      have hNk : N = 1 := by have q2 := own_lt0 (k := 1) (by decide) hN6 hc190; omega
      have DLk : own_DL Z T37.heap b25 r37 ka37 1 [(.ref b27), .null, .null, .null, .null, .null, .null, .null, .null, .null] (own_l6 b27 b27 b27 b27 b27 b27) (own_l6 lo0 lo1 lo2 lo3 lo4 lo5) (fun j => own_l6 lo0 lo1 lo2 lo3 lo4 lo5 j + own_l6 ln0 ln1 ln2 ln3 ln4 ln5 j - (1 : Int32)) := ⟨Ec37, Fec37, Fsc37, Vc37, fun i hi => match i, hi with | 0, _ => rfl | _ + 1, hi => absurd hi (by omega), fun i hi => match i, hi with | 0, _ => ⟨Ek38, Fk39, Fk40⟩ | _ + 1, hi => absurd hi (by omega)⟩
      rw [← hNk] at DLk
      exact tail327 T37.heap b25 r37 _ _ _ T37 _ (own_mono X37 (by decide) (by decide)) rfl N37 DLk Z37 K37 O37
  have tail128 : ∀ (z4 : Int32) (Tt128 : State) (Lt128 : List Loc) (Xt128 : Stand p l e room_1 s m #[(.long xa), (.long xb), (.long xc), (.int xn), (.int xx)] below meth c Tt128 Lt128 0 0) (et128 : Tt128.heap = h0) (Nt128 : Fr n0 Lt128) (hz4 : ln4 = z4), own_F p e below (fun o U' => ∃ v L, o = .returned v ∧ own_QL Z xa xb xc xn xx xd kd h0 n0 v U'.heap L ∧ FrameEnd s o U' L room_1.cells room_1.slots) Tt128 (mkF m 128 #[.val (.long xa), .second, .val (.long xb), .second, .val (.long xc), .second, .val (.int xn), .val (.int xx), .val (.int (Int32.ofNat N)), .val (.int lo0), .val (.int ln0), .val (.int lo1), .val (.int ln1), .val (.int lo2), .val (.int ln2), .val (.int lo3), .val (.int ln3), .val (.int lo4), .val (.int z4), .unset, .unset, .unset, .unset, .unset, .unset, .unset, .unset, .unset, .unset, .unset, .unset, .unset, .unset, .unset, .unset, .unset, .unset, .unset, .unset, .unset, .unset, .unset, .unset, .unset] []) := by
    intro z4 Tt128 Lt128 Xt128 et128 Nt128 hz4
    subst hz4
    refine own_go (T' := Tt128) (g' := (mkF m 130 #[.val (.long xa), .second, .val (.long xb), .second, .val (.long xc), .second, .val (.int xn), .val (.int xx), .val (.int (Int32.ofNat N)), .val (.int lo0), .val (.int ln0), .val (.int lo1), .val (.int ln1), .val (.int lo2), .val (.int ln2), .val (.int lo3), .val (.int ln3), .val (.int lo4), .val (.int ln4), .unset, .unset, .unset, .unset, .unset, .unset, .unset, .unset, .unset, .unset, .unset, .unset, .unset, .unset, .unset, .unset, .unset, .unset, .unset, .unset, .unset, .unset, .unset, .unset, .unset] [(.long xc)])) (fun _ k => XS.lload Xt128.here hx rfl (hb hby at_128) rfl k) ?_
    refine own_go (T' := Tt128) (g' := (mkF m 132 #[.val (.long xa), .second, .val (.long xb), .second, .val (.long xc), .second, .val (.int xn), .val (.int xx), .val (.int (Int32.ofNat N)), .val (.int lo0), .val (.int ln0), .val (.int lo1), .val (.int ln1), .val (.int lo2), .val (.int ln2), .val (.int lo3), .val (.int ln3), .val (.int lo4), .val (.int ln4), .unset, .unset, .unset, .unset, .unset, .unset, .unset, .unset, .unset, .unset, .unset, .unset, .unset, .unset, .unset, .unset, .unset, .unset, .unset, .unset, .unset, .unset, .unset, .unset, .unset] [(.int (32 : Int32)), (.long xc)])) (fun _ k => XS.bipush Xt128.here hx rfl (hb hby at_130) k) ?_
    obtain ⟨_, _, ⟨T256, L256, k256, n256⟩, -, X256, ⟨Lc256, hQ256, l256, y256, z256⟩, st256⟩ := Jvm.LawKit.callS Xt128 hx (y := (⟨"com/example/benchlight/benchlight/BoundsSubscriptsPinLaw", "lowerOf", "(JI)I"⟩ : MethodName)) hown (mvT hZ (hw _ (List.mem_of_getElem? (i := 1) rfl))) (mvT hZ (hw _ (List.mem_of_getElem? (i := 2) rfl))) (mvT hZ (hw _ (List.mem_of_getElem? (i := 3) rfl))) (mvT hZ (hw _ (List.mem_of_getElem? (i := 4) rfl))) (by decide) (backOf (W := 0) (own_rLo l Z a0 hw [] xc (32 : Int32) lo5 h0 n0 Z0 hlo5) hZ (hw _ (List.mem_of_getElem? (i := 4) rfl)) (hw _ (List.mem_of_getElem? (i := 3) rfl)) (by decide) (by decide)) (g := (mkF m 132 #[.val (.long xa), .second, .val (.long xb), .second, .val (.long xc), .second, .val (.int xn), .val (.int xx), .val (.int (Int32.ofNat N)), .val (.int lo0), .val (.int ln0), .val (.int lo1), .val (.int ln1), .val (.int lo2), .val (.int ln2), .val (.int lo3), .val (.int ln3), .val (.int lo4), .val (.int ln4), .unset, .unset, .unset, .unset, .unset, .unset, .unset, .unset, .unset, .unset, .unset, .unset, .unset, .unset, .unset, .unset, .unset, .unset, .unset, .unset, .unset, .unset, .unset, .unset, .unset] [(.int (32 : Int32)), (.long xc)])) rfl (by rw [hml]; rfl) (argsL := [(.long xc), (.int (32 : Int32))]) (rest := []) (lenOf own_pd0 rfl) rfl (by show 2 * 0 + _ ≤ _; exact Nat.le_of_eq rfl) (hb hby at_132) (fun _ _ => ⟨rfl, et128, (by decide : 0 + 0 ≤ _), (by decide : 0 + 0 ≤ _)⟩)
    dsimp only [Pt.U, Pt.locs, Pt.cells, Pt.slots] at X256 l256 y256 z256 st256 hQ256
    subst l256 y256 z256
    obtain ⟨rfl, N256q, e256⟩ := hQ256
    have N256 := Fr.app Nt128 N256q
    refine own_go (T' := T256) (g' := (mkF m 135 #[.val (.long xa), .second, .val (.long xb), .second, .val (.long xc), .second, .val (.int xn), .val (.int xx), .val (.int (Int32.ofNat N)), .val (.int lo0), .val (.int ln0), .val (.int lo1), .val (.int ln1), .val (.int lo2), .val (.int ln2), .val (.int lo3), .val (.int ln3), .val (.int lo4), .val (.int ln4), .unset, .unset, .unset, .unset, .unset, .unset, .unset, .unset, .unset, .unset, .unset, .unset, .unset, .unset, .unset, .unset, .unset, .unset, .unset, .unset, .unset, .unset, .unset, .unset, .unset] [(.int lo5)])) (fun _ k => st256 _ k) ?_
    refine own_go (T' := T256) (g' := (mkF m 137 #[.val (.long xa), .second, .val (.long xb), .second, .val (.long xc), .second, .val (.int xn), .val (.int xx), .val (.int (Int32.ofNat N)), .val (.int lo0), .val (.int ln0), .val (.int lo1), .val (.int ln1), .val (.int lo2), .val (.int ln2), .val (.int lo3), .val (.int ln3), .val (.int lo4), .val (.int ln4), .val (.int lo5), .unset, .unset, .unset, .unset, .unset, .unset, .unset, .unset, .unset, .unset, .unset, .unset, .unset, .unset, .unset, .unset, .unset, .unset, .unset, .unset, .unset, .unset, .unset, .unset] [])) (fun _ k => XS.istore X256.here hx rfl (hb hby at_135) rfl (l' := #[.val (.long xa), .second, .val (.long xb), .second, .val (.long xc), .second, .val (.int xn), .val (.int xx), .val (.int (Int32.ofNat N)), .val (.int lo0), .val (.int ln0), .val (.int lo1), .val (.int ln1), .val (.int lo2), .val (.int ln2), .val (.int lo3), .val (.int ln3), .val (.int lo4), .val (.int ln4), .val (.int lo5), .unset, .unset, .unset, .unset, .unset, .unset, .unset, .unset, .unset, .unset, .unset, .unset, .unset, .unset, .unset, .unset, .unset, .unset, .unset, .unset, .unset, .unset, .unset, .unset]) rfl k) ?_
    refine own_go (T' := T256) (g' := (mkF m 139 #[.val (.long xa), .second, .val (.long xb), .second, .val (.long xc), .second, .val (.int xn), .val (.int xx), .val (.int (Int32.ofNat N)), .val (.int lo0), .val (.int ln0), .val (.int lo1), .val (.int ln1), .val (.int lo2), .val (.int ln2), .val (.int lo3), .val (.int ln3), .val (.int lo4), .val (.int ln4), .val (.int lo5), .unset, .unset, .unset, .unset, .unset, .unset, .unset, .unset, .unset, .unset, .unset, .unset, .unset, .unset, .unset, .unset, .unset, .unset, .unset, .unset, .unset, .unset, .unset, .unset] [(.int (Int32.ofNat N))])) (fun _ k => XS.iload X256.here hx rfl (hb hby at_137) rfl k) ?_
    refine own_go (T' := T256) (g' := (mkF m 140 #[.val (.long xa), .second, .val (.long xb), .second, .val (.long xc), .second, .val (.int xn), .val (.int xx), .val (.int (Int32.ofNat N)), .val (.int lo0), .val (.int ln0), .val (.int lo1), .val (.int ln1), .val (.int lo2), .val (.int ln2), .val (.int lo3), .val (.int ln3), .val (.int lo4), .val (.int ln4), .val (.int lo5), .unset, .unset, .unset, .unset, .unset, .unset, .unset, .unset, .unset, .unset, .unset, .unset, .unset, .unset, .unset, .unset, .unset, .unset, .unset, .unset, .unset, .unset, .unset, .unset] [(.int (5 : Int32)), (.int (Int32.ofNat N))])) (fun _ k => XS.iconst X256.here hx rfl (hb hby at_139) k) ?_
    by_cases hc140 : (5 : Int32) < (Int32.ofNat N)
    · refine own_go (T' := T256) (g' := (mkF m 143 #[.val (.long xa), .second, .val (.long xb), .second, .val (.long xc), .second, .val (.int xn), .val (.int xx), .val (.int (Int32.ofNat N)), .val (.int lo0), .val (.int ln0), .val (.int lo1), .val (.int ln1), .val (.int lo2), .val (.int ln2), .val (.int lo3), .val (.int ln3), .val (.int lo4), .val (.int ln4), .val (.int lo5), .unset, .unset, .unset, .unset, .unset, .unset, .unset, .unset, .unset, .unset, .unset, .unset, .unset, .unset, .unset, .unset, .unset, .unset, .unset, .unset, .unset, .unset, .unset, .unset] [])) (fun _ k => XS.icmpNo X256.here hx rfl (hb hby at_140) rfl (tlt (hc140 : (5 : Int32) < (Int32.ofNat N))).2.2.2 k) ?_
      refine own_go (T' := T256) (g' := (mkF m 145 #[.val (.long xa), .second, .val (.long xb), .second, .val (.long xc), .second, .val (.int xn), .val (.int xx), .val (.int (Int32.ofNat N)), .val (.int lo0), .val (.int ln0), .val (.int lo1), .val (.int ln1), .val (.int lo2), .val (.int ln2), .val (.int lo3), .val (.int ln3), .val (.int lo4), .val (.int ln4), .val (.int lo5), .unset, .unset, .unset, .unset, .unset, .unset, .unset, .unset, .unset, .unset, .unset, .unset, .unset, .unset, .unset, .unset, .unset, .unset, .unset, .unset, .unset, .unset, .unset, .unset] [(.long xc)])) (fun _ k => XS.lload X256.here hx rfl (hb hby at_143) rfl k) ?_
      refine own_go (T' := T256) (g' := (mkF m 147 #[.val (.long xa), .second, .val (.long xb), .second, .val (.long xc), .second, .val (.int xn), .val (.int xx), .val (.int (Int32.ofNat N)), .val (.int lo0), .val (.int ln0), .val (.int lo1), .val (.int ln1), .val (.int lo2), .val (.int ln2), .val (.int lo3), .val (.int ln3), .val (.int lo4), .val (.int ln4), .val (.int lo5), .unset, .unset, .unset, .unset, .unset, .unset, .unset, .unset, .unset, .unset, .unset, .unset, .unset, .unset, .unset, .unset, .unset, .unset, .unset, .unset, .unset, .unset, .unset, .unset] [(.int (32 : Int32)), (.long xc)])) (fun _ k => XS.bipush X256.here hx rfl (hb hby at_145) k) ?_
      obtain ⟨_, _, ⟨T257, L257, k257, n257⟩, -, X257, ⟨Lc257, hQ257, l257, y257, z257⟩, st257⟩ := Jvm.LawKit.callS X256 hx (y := (⟨"com/example/benchlight/benchlight/BoundsSubscriptsPinLaw", "lengthOf", "(JI)I"⟩ : MethodName)) hown (mvT hZ (hw _ (List.mem_of_getElem? (i := 5) rfl))) (mvT hZ (hw _ (List.mem_of_getElem? (i := 6) rfl))) (mvT hZ (hw _ (List.mem_of_getElem? (i := 3) rfl))) (mvT hZ (hw _ (List.mem_of_getElem? (i := 7) rfl))) (by decide) (backOf (W := 0) (own_rLe l Z a0 hw [] xc (32 : Int32) ln5 h0 n0 Z0 ((if_pos hc140).symm.trans hln5)) hZ (hw _ (List.mem_of_getElem? (i := 7) rfl)) (hw _ (List.mem_of_getElem? (i := 3) rfl)) (by decide) (by decide)) (g := (mkF m 147 #[.val (.long xa), .second, .val (.long xb), .second, .val (.long xc), .second, .val (.int xn), .val (.int xx), .val (.int (Int32.ofNat N)), .val (.int lo0), .val (.int ln0), .val (.int lo1), .val (.int ln1), .val (.int lo2), .val (.int ln2), .val (.int lo3), .val (.int ln3), .val (.int lo4), .val (.int ln4), .val (.int lo5), .unset, .unset, .unset, .unset, .unset, .unset, .unset, .unset, .unset, .unset, .unset, .unset, .unset, .unset, .unset, .unset, .unset, .unset, .unset, .unset, .unset, .unset, .unset, .unset] [(.int (32 : Int32)), (.long xc)])) rfl (by rw [hml]; rfl) (argsL := [(.long xc), (.int (32 : Int32))]) (rest := []) (lenOf own_pd0 rfl) rfl (by show 2 * 0 + _ ≤ _; exact Nat.le_of_eq rfl) (hb hby at_147) (fun _ _ => ⟨rfl, e256, (by decide : 0 + 0 ≤ _), (by decide : 0 + 0 ≤ _)⟩)
      dsimp only [Pt.U, Pt.locs, Pt.cells, Pt.slots] at X257 l257 y257 z257 st257 hQ257
      subst l257 y257 z257
      obtain ⟨rfl, N257q, e257⟩ := hQ257
      have N257 := Fr.app N256 N257q
      refine own_go (T' := T257) (g' := (mkF m 150 #[.val (.long xa), .second, .val (.long xb), .second, .val (.long xc), .second, .val (.int xn), .val (.int xx), .val (.int (Int32.ofNat N)), .val (.int lo0), .val (.int ln0), .val (.int lo1), .val (.int ln1), .val (.int lo2), .val (.int ln2), .val (.int lo3), .val (.int ln3), .val (.int lo4), .val (.int ln4), .val (.int lo5), .unset, .unset, .unset, .unset, .unset, .unset, .unset, .unset, .unset, .unset, .unset, .unset, .unset, .unset, .unset, .unset, .unset, .unset, .unset, .unset, .unset, .unset, .unset, .unset] [(.int ln5)])) (fun _ k => st257 _ k) ?_
      refine own_go (T' := T257) (g' := (mkF m 154 #[.val (.long xa), .second, .val (.long xb), .second, .val (.long xc), .second, .val (.int xn), .val (.int xx), .val (.int (Int32.ofNat N)), .val (.int lo0), .val (.int ln0), .val (.int lo1), .val (.int ln1), .val (.int lo2), .val (.int ln2), .val (.int lo3), .val (.int ln3), .val (.int lo4), .val (.int ln4), .val (.int lo5), .unset, .unset, .unset, .unset, .unset, .unset, .unset, .unset, .unset, .unset, .unset, .unset, .unset, .unset, .unset, .unset, .unset, .unset, .unset, .unset, .unset, .unset, .unset, .unset] [(.int ln5)])) (fun _ k => XS.goto X257.here hx rfl (pc0 := 150) (pc' := 154) rfl (hb hby at_150) (by decide) (by decide) k) ?_
      refine own_go (T' := T257) (g' := (mkF m 156 #[.val (.long xa), .second, .val (.long xb), .second, .val (.long xc), .second, .val (.int xn), .val (.int xx), .val (.int (Int32.ofNat N)), .val (.int lo0), .val (.int ln0), .val (.int lo1), .val (.int ln1), .val (.int lo2), .val (.int ln2), .val (.int lo3), .val (.int ln3), .val (.int lo4), .val (.int ln4), .val (.int lo5), .val (.int ln5), .unset, .unset, .unset, .unset, .unset, .unset, .unset, .unset, .unset, .unset, .unset, .unset, .unset, .unset, .unset, .unset, .unset, .unset, .unset, .unset, .unset, .unset, .unset] [])) (fun _ k => XS.istore X257.here hx rfl (hb hby at_154) rfl (l' := #[.val (.long xa), .second, .val (.long xb), .second, .val (.long xc), .second, .val (.int xn), .val (.int xx), .val (.int (Int32.ofNat N)), .val (.int lo0), .val (.int ln0), .val (.int lo1), .val (.int ln1), .val (.int lo2), .val (.int ln2), .val (.int lo3), .val (.int ln3), .val (.int lo4), .val (.int ln4), .val (.int lo5), .val (.int ln5), .unset, .unset, .unset, .unset, .unset, .unset, .unset, .unset, .unset, .unset, .unset, .unset, .unset, .unset, .unset, .unset, .unset, .unset, .unset, .unset, .unset, .unset, .unset]) rfl k) ?_
      exact tail156 ln5 T257 _ X257 e257 N257 rfl
    · refine own_go (T' := T256) (g' := (mkF m 153 #[.val (.long xa), .second, .val (.long xb), .second, .val (.long xc), .second, .val (.int xn), .val (.int xx), .val (.int (Int32.ofNat N)), .val (.int lo0), .val (.int ln0), .val (.int lo1), .val (.int ln1), .val (.int lo2), .val (.int ln2), .val (.int lo3), .val (.int ln3), .val (.int lo4), .val (.int ln4), .val (.int lo5), .unset, .unset, .unset, .unset, .unset, .unset, .unset, .unset, .unset, .unset, .unset, .unset, .unset, .unset, .unset, .unset, .unset, .unset, .unset, .unset, .unset, .unset, .unset, .unset] [])) (fun _ k => XS.icmpYes X256.here hx rfl (pc0 := 140) (pc' := 153) rfl (hb hby at_140) rfl (flt (hc140 : ¬ ((5 : Int32) < (Int32.ofNat N)))).2.2.2 (by decide) (by decide) k) ?_
      refine own_go (T' := T256) (g' := (mkF m 154 #[.val (.long xa), .second, .val (.long xb), .second, .val (.long xc), .second, .val (.int xn), .val (.int xx), .val (.int (Int32.ofNat N)), .val (.int lo0), .val (.int ln0), .val (.int lo1), .val (.int ln1), .val (.int lo2), .val (.int ln2), .val (.int lo3), .val (.int ln3), .val (.int lo4), .val (.int ln4), .val (.int lo5), .unset, .unset, .unset, .unset, .unset, .unset, .unset, .unset, .unset, .unset, .unset, .unset, .unset, .unset, .unset, .unset, .unset, .unset, .unset, .unset, .unset, .unset, .unset, .unset] [(.int (1 : Int32))])) (fun _ k => XS.iconst X256.here hx rfl (hb hby at_153) k) ?_
      refine own_go (T' := T256) (g' := (mkF m 156 #[.val (.long xa), .second, .val (.long xb), .second, .val (.long xc), .second, .val (.int xn), .val (.int xx), .val (.int (Int32.ofNat N)), .val (.int lo0), .val (.int ln0), .val (.int lo1), .val (.int ln1), .val (.int lo2), .val (.int ln2), .val (.int lo3), .val (.int ln3), .val (.int lo4), .val (.int ln4), .val (.int lo5), .val (.int (1 : Int32)), .unset, .unset, .unset, .unset, .unset, .unset, .unset, .unset, .unset, .unset, .unset, .unset, .unset, .unset, .unset, .unset, .unset, .unset, .unset, .unset, .unset, .unset, .unset] [])) (fun _ k => XS.istore X256.here hx rfl (hb hby at_154) rfl (l' := #[.val (.long xa), .second, .val (.long xb), .second, .val (.long xc), .second, .val (.int xn), .val (.int xx), .val (.int (Int32.ofNat N)), .val (.int lo0), .val (.int ln0), .val (.int lo1), .val (.int ln1), .val (.int lo2), .val (.int ln2), .val (.int lo3), .val (.int ln3), .val (.int lo4), .val (.int ln4), .val (.int lo5), .val (.int (1 : Int32)), .unset, .unset, .unset, .unset, .unset, .unset, .unset, .unset, .unset, .unset, .unset, .unset, .unset, .unset, .unset, .unset, .unset, .unset, .unset, .unset, .unset, .unset, .unset]) rfl k) ?_
      exact tail156 (1 : Int32) T256 _ X256 e256 N256 (hln5.symm.trans (if_neg hc140))
  have tail102 : ∀ (z3 : Int32) (Tt102 : State) (Lt102 : List Loc) (Xt102 : Stand p l e room_1 s m #[(.long xa), (.long xb), (.long xc), (.int xn), (.int xx)] below meth c Tt102 Lt102 0 0) (et102 : Tt102.heap = h0) (Nt102 : Fr n0 Lt102) (hz3 : ln3 = z3), own_F p e below (fun o U' => ∃ v L, o = .returned v ∧ own_QL Z xa xb xc xn xx xd kd h0 n0 v U'.heap L ∧ FrameEnd s o U' L room_1.cells room_1.slots) Tt102 (mkF m 102 #[.val (.long xa), .second, .val (.long xb), .second, .val (.long xc), .second, .val (.int xn), .val (.int xx), .val (.int (Int32.ofNat N)), .val (.int lo0), .val (.int ln0), .val (.int lo1), .val (.int ln1), .val (.int lo2), .val (.int ln2), .val (.int lo3), .val (.int z3), .unset, .unset, .unset, .unset, .unset, .unset, .unset, .unset, .unset, .unset, .unset, .unset, .unset, .unset, .unset, .unset, .unset, .unset, .unset, .unset, .unset, .unset, .unset, .unset, .unset, .unset, .unset] []) := by
    intro z3 Tt102 Lt102 Xt102 et102 Nt102 hz3
    subst hz3
    refine own_go (T' := Tt102) (g' := (mkF m 104 #[.val (.long xa), .second, .val (.long xb), .second, .val (.long xc), .second, .val (.int xn), .val (.int xx), .val (.int (Int32.ofNat N)), .val (.int lo0), .val (.int ln0), .val (.int lo1), .val (.int ln1), .val (.int lo2), .val (.int ln2), .val (.int lo3), .val (.int ln3), .unset, .unset, .unset, .unset, .unset, .unset, .unset, .unset, .unset, .unset, .unset, .unset, .unset, .unset, .unset, .unset, .unset, .unset, .unset, .unset, .unset, .unset, .unset, .unset, .unset, .unset, .unset] [(.long xc)])) (fun _ k => XS.lload Xt102.here hx rfl (hb hby at_102) rfl k) ?_
    refine own_go (T' := Tt102) (g' := (mkF m 105 #[.val (.long xa), .second, .val (.long xb), .second, .val (.long xc), .second, .val (.int xn), .val (.int xx), .val (.int (Int32.ofNat N)), .val (.int lo0), .val (.int ln0), .val (.int lo1), .val (.int ln1), .val (.int lo2), .val (.int ln2), .val (.int lo3), .val (.int ln3), .unset, .unset, .unset, .unset, .unset, .unset, .unset, .unset, .unset, .unset, .unset, .unset, .unset, .unset, .unset, .unset, .unset, .unset, .unset, .unset, .unset, .unset, .unset, .unset, .unset, .unset, .unset] [(.int (0 : Int32)), (.long xc)])) (fun _ k => XS.iconst Xt102.here hx rfl (hb hby at_104) k) ?_
    obtain ⟨_, _, ⟨T258, L258, k258, n258⟩, -, X258, ⟨Lc258, hQ258, l258, y258, z258⟩, st258⟩ := Jvm.LawKit.callS Xt102 hx (y := (⟨"com/example/benchlight/benchlight/BoundsSubscriptsPinLaw", "lowerOf", "(JI)I"⟩ : MethodName)) hown (mvT hZ (hw _ (List.mem_of_getElem? (i := 1) rfl))) (mvT hZ (hw _ (List.mem_of_getElem? (i := 2) rfl))) (mvT hZ (hw _ (List.mem_of_getElem? (i := 3) rfl))) (mvT hZ (hw _ (List.mem_of_getElem? (i := 4) rfl))) (by decide) (backOf (W := 0) (own_rLo l Z a0 hw [] xc (0 : Int32) lo4 h0 n0 Z0 hlo4) hZ (hw _ (List.mem_of_getElem? (i := 4) rfl)) (hw _ (List.mem_of_getElem? (i := 3) rfl)) (by decide) (by decide)) (g := (mkF m 105 #[.val (.long xa), .second, .val (.long xb), .second, .val (.long xc), .second, .val (.int xn), .val (.int xx), .val (.int (Int32.ofNat N)), .val (.int lo0), .val (.int ln0), .val (.int lo1), .val (.int ln1), .val (.int lo2), .val (.int ln2), .val (.int lo3), .val (.int ln3), .unset, .unset, .unset, .unset, .unset, .unset, .unset, .unset, .unset, .unset, .unset, .unset, .unset, .unset, .unset, .unset, .unset, .unset, .unset, .unset, .unset, .unset, .unset, .unset, .unset, .unset, .unset] [(.int (0 : Int32)), (.long xc)])) rfl (by rw [hml]; rfl) (argsL := [(.long xc), (.int (0 : Int32))]) (rest := []) (lenOf own_pd0 rfl) rfl (by show 2 * 0 + _ ≤ _; exact Nat.le_of_eq rfl) (hb hby at_105) (fun _ _ => ⟨rfl, et102, (by decide : 0 + 0 ≤ _), (by decide : 0 + 0 ≤ _)⟩)
    dsimp only [Pt.U, Pt.locs, Pt.cells, Pt.slots] at X258 l258 y258 z258 st258 hQ258
    subst l258 y258 z258
    obtain ⟨rfl, N258q, e258⟩ := hQ258
    have N258 := Fr.app Nt102 N258q
    refine own_go (T' := T258) (g' := (mkF m 108 #[.val (.long xa), .second, .val (.long xb), .second, .val (.long xc), .second, .val (.int xn), .val (.int xx), .val (.int (Int32.ofNat N)), .val (.int lo0), .val (.int ln0), .val (.int lo1), .val (.int ln1), .val (.int lo2), .val (.int ln2), .val (.int lo3), .val (.int ln3), .unset, .unset, .unset, .unset, .unset, .unset, .unset, .unset, .unset, .unset, .unset, .unset, .unset, .unset, .unset, .unset, .unset, .unset, .unset, .unset, .unset, .unset, .unset, .unset, .unset, .unset, .unset] [(.int lo4)])) (fun _ k => st258 _ k) ?_
    refine own_go (T' := T258) (g' := (mkF m 110 #[.val (.long xa), .second, .val (.long xb), .second, .val (.long xc), .second, .val (.int xn), .val (.int xx), .val (.int (Int32.ofNat N)), .val (.int lo0), .val (.int ln0), .val (.int lo1), .val (.int ln1), .val (.int lo2), .val (.int ln2), .val (.int lo3), .val (.int ln3), .val (.int lo4), .unset, .unset, .unset, .unset, .unset, .unset, .unset, .unset, .unset, .unset, .unset, .unset, .unset, .unset, .unset, .unset, .unset, .unset, .unset, .unset, .unset, .unset, .unset, .unset, .unset, .unset] [])) (fun _ k => XS.istore X258.here hx rfl (hb hby at_108) rfl (l' := #[.val (.long xa), .second, .val (.long xb), .second, .val (.long xc), .second, .val (.int xn), .val (.int xx), .val (.int (Int32.ofNat N)), .val (.int lo0), .val (.int ln0), .val (.int lo1), .val (.int ln1), .val (.int lo2), .val (.int ln2), .val (.int lo3), .val (.int ln3), .val (.int lo4), .unset, .unset, .unset, .unset, .unset, .unset, .unset, .unset, .unset, .unset, .unset, .unset, .unset, .unset, .unset, .unset, .unset, .unset, .unset, .unset, .unset, .unset, .unset, .unset, .unset, .unset]) rfl k) ?_
    refine own_go (T' := T258) (g' := (mkF m 112 #[.val (.long xa), .second, .val (.long xb), .second, .val (.long xc), .second, .val (.int xn), .val (.int xx), .val (.int (Int32.ofNat N)), .val (.int lo0), .val (.int ln0), .val (.int lo1), .val (.int ln1), .val (.int lo2), .val (.int ln2), .val (.int lo3), .val (.int ln3), .val (.int lo4), .unset, .unset, .unset, .unset, .unset, .unset, .unset, .unset, .unset, .unset, .unset, .unset, .unset, .unset, .unset, .unset, .unset, .unset, .unset, .unset, .unset, .unset, .unset, .unset, .unset, .unset] [(.int (Int32.ofNat N))])) (fun _ k => XS.iload X258.here hx rfl (hb hby at_110) rfl k) ?_
    refine own_go (T' := T258) (g' := (mkF m 113 #[.val (.long xa), .second, .val (.long xb), .second, .val (.long xc), .second, .val (.int xn), .val (.int xx), .val (.int (Int32.ofNat N)), .val (.int lo0), .val (.int ln0), .val (.int lo1), .val (.int ln1), .val (.int lo2), .val (.int ln2), .val (.int lo3), .val (.int ln3), .val (.int lo4), .unset, .unset, .unset, .unset, .unset, .unset, .unset, .unset, .unset, .unset, .unset, .unset, .unset, .unset, .unset, .unset, .unset, .unset, .unset, .unset, .unset, .unset, .unset, .unset, .unset, .unset] [(.int (4 : Int32)), (.int (Int32.ofNat N))])) (fun _ k => XS.iconst X258.here hx rfl (hb hby at_112) k) ?_
    by_cases hc113 : (4 : Int32) < (Int32.ofNat N)
    · refine own_go (T' := T258) (g' := (mkF m 116 #[.val (.long xa), .second, .val (.long xb), .second, .val (.long xc), .second, .val (.int xn), .val (.int xx), .val (.int (Int32.ofNat N)), .val (.int lo0), .val (.int ln0), .val (.int lo1), .val (.int ln1), .val (.int lo2), .val (.int ln2), .val (.int lo3), .val (.int ln3), .val (.int lo4), .unset, .unset, .unset, .unset, .unset, .unset, .unset, .unset, .unset, .unset, .unset, .unset, .unset, .unset, .unset, .unset, .unset, .unset, .unset, .unset, .unset, .unset, .unset, .unset, .unset, .unset] [])) (fun _ k => XS.icmpNo X258.here hx rfl (hb hby at_113) rfl (tlt (hc113 : (4 : Int32) < (Int32.ofNat N))).2.2.2 k) ?_
      refine own_go (T' := T258) (g' := (mkF m 118 #[.val (.long xa), .second, .val (.long xb), .second, .val (.long xc), .second, .val (.int xn), .val (.int xx), .val (.int (Int32.ofNat N)), .val (.int lo0), .val (.int ln0), .val (.int lo1), .val (.int ln1), .val (.int lo2), .val (.int ln2), .val (.int lo3), .val (.int ln3), .val (.int lo4), .unset, .unset, .unset, .unset, .unset, .unset, .unset, .unset, .unset, .unset, .unset, .unset, .unset, .unset, .unset, .unset, .unset, .unset, .unset, .unset, .unset, .unset, .unset, .unset, .unset, .unset] [(.long xc)])) (fun _ k => XS.lload X258.here hx rfl (hb hby at_116) rfl k) ?_
      refine own_go (T' := T258) (g' := (mkF m 119 #[.val (.long xa), .second, .val (.long xb), .second, .val (.long xc), .second, .val (.int xn), .val (.int xx), .val (.int (Int32.ofNat N)), .val (.int lo0), .val (.int ln0), .val (.int lo1), .val (.int ln1), .val (.int lo2), .val (.int ln2), .val (.int lo3), .val (.int ln3), .val (.int lo4), .unset, .unset, .unset, .unset, .unset, .unset, .unset, .unset, .unset, .unset, .unset, .unset, .unset, .unset, .unset, .unset, .unset, .unset, .unset, .unset, .unset, .unset, .unset, .unset, .unset, .unset] [(.int (0 : Int32)), (.long xc)])) (fun _ k => XS.iconst X258.here hx rfl (hb hby at_118) k) ?_
      obtain ⟨_, _, ⟨T259, L259, k259, n259⟩, -, X259, ⟨Lc259, hQ259, l259, y259, z259⟩, st259⟩ := Jvm.LawKit.callS X258 hx (y := (⟨"com/example/benchlight/benchlight/BoundsSubscriptsPinLaw", "lengthOf", "(JI)I"⟩ : MethodName)) hown (mvT hZ (hw _ (List.mem_of_getElem? (i := 5) rfl))) (mvT hZ (hw _ (List.mem_of_getElem? (i := 6) rfl))) (mvT hZ (hw _ (List.mem_of_getElem? (i := 3) rfl))) (mvT hZ (hw _ (List.mem_of_getElem? (i := 7) rfl))) (by decide) (backOf (W := 0) (own_rLe l Z a0 hw [] xc (0 : Int32) ln4 h0 n0 Z0 ((if_pos hc113).symm.trans hln4)) hZ (hw _ (List.mem_of_getElem? (i := 7) rfl)) (hw _ (List.mem_of_getElem? (i := 3) rfl)) (by decide) (by decide)) (g := (mkF m 119 #[.val (.long xa), .second, .val (.long xb), .second, .val (.long xc), .second, .val (.int xn), .val (.int xx), .val (.int (Int32.ofNat N)), .val (.int lo0), .val (.int ln0), .val (.int lo1), .val (.int ln1), .val (.int lo2), .val (.int ln2), .val (.int lo3), .val (.int ln3), .val (.int lo4), .unset, .unset, .unset, .unset, .unset, .unset, .unset, .unset, .unset, .unset, .unset, .unset, .unset, .unset, .unset, .unset, .unset, .unset, .unset, .unset, .unset, .unset, .unset, .unset, .unset, .unset] [(.int (0 : Int32)), (.long xc)])) rfl (by rw [hml]; rfl) (argsL := [(.long xc), (.int (0 : Int32))]) (rest := []) (lenOf own_pd0 rfl) rfl (by show 2 * 0 + _ ≤ _; exact Nat.le_of_eq rfl) (hb hby at_119) (fun _ _ => ⟨rfl, e258, (by decide : 0 + 0 ≤ _), (by decide : 0 + 0 ≤ _)⟩)
      dsimp only [Pt.U, Pt.locs, Pt.cells, Pt.slots] at X259 l259 y259 z259 st259 hQ259
      subst l259 y259 z259
      obtain ⟨rfl, N259q, e259⟩ := hQ259
      have N259 := Fr.app N258 N259q
      refine own_go (T' := T259) (g' := (mkF m 122 #[.val (.long xa), .second, .val (.long xb), .second, .val (.long xc), .second, .val (.int xn), .val (.int xx), .val (.int (Int32.ofNat N)), .val (.int lo0), .val (.int ln0), .val (.int lo1), .val (.int ln1), .val (.int lo2), .val (.int ln2), .val (.int lo3), .val (.int ln3), .val (.int lo4), .unset, .unset, .unset, .unset, .unset, .unset, .unset, .unset, .unset, .unset, .unset, .unset, .unset, .unset, .unset, .unset, .unset, .unset, .unset, .unset, .unset, .unset, .unset, .unset, .unset, .unset] [(.int ln4)])) (fun _ k => st259 _ k) ?_
      refine own_go (T' := T259) (g' := (mkF m 126 #[.val (.long xa), .second, .val (.long xb), .second, .val (.long xc), .second, .val (.int xn), .val (.int xx), .val (.int (Int32.ofNat N)), .val (.int lo0), .val (.int ln0), .val (.int lo1), .val (.int ln1), .val (.int lo2), .val (.int ln2), .val (.int lo3), .val (.int ln3), .val (.int lo4), .unset, .unset, .unset, .unset, .unset, .unset, .unset, .unset, .unset, .unset, .unset, .unset, .unset, .unset, .unset, .unset, .unset, .unset, .unset, .unset, .unset, .unset, .unset, .unset, .unset, .unset] [(.int ln4)])) (fun _ k => XS.goto X259.here hx rfl (pc0 := 122) (pc' := 126) rfl (hb hby at_122) (by decide) (by decide) k) ?_
      refine own_go (T' := T259) (g' := (mkF m 128 #[.val (.long xa), .second, .val (.long xb), .second, .val (.long xc), .second, .val (.int xn), .val (.int xx), .val (.int (Int32.ofNat N)), .val (.int lo0), .val (.int ln0), .val (.int lo1), .val (.int ln1), .val (.int lo2), .val (.int ln2), .val (.int lo3), .val (.int ln3), .val (.int lo4), .val (.int ln4), .unset, .unset, .unset, .unset, .unset, .unset, .unset, .unset, .unset, .unset, .unset, .unset, .unset, .unset, .unset, .unset, .unset, .unset, .unset, .unset, .unset, .unset, .unset, .unset, .unset] [])) (fun _ k => XS.istore X259.here hx rfl (hb hby at_126) rfl (l' := #[.val (.long xa), .second, .val (.long xb), .second, .val (.long xc), .second, .val (.int xn), .val (.int xx), .val (.int (Int32.ofNat N)), .val (.int lo0), .val (.int ln0), .val (.int lo1), .val (.int ln1), .val (.int lo2), .val (.int ln2), .val (.int lo3), .val (.int ln3), .val (.int lo4), .val (.int ln4), .unset, .unset, .unset, .unset, .unset, .unset, .unset, .unset, .unset, .unset, .unset, .unset, .unset, .unset, .unset, .unset, .unset, .unset, .unset, .unset, .unset, .unset, .unset, .unset, .unset]) rfl k) ?_
      exact tail128 ln4 T259 _ X259 e259 N259 rfl
    · refine own_go (T' := T258) (g' := (mkF m 125 #[.val (.long xa), .second, .val (.long xb), .second, .val (.long xc), .second, .val (.int xn), .val (.int xx), .val (.int (Int32.ofNat N)), .val (.int lo0), .val (.int ln0), .val (.int lo1), .val (.int ln1), .val (.int lo2), .val (.int ln2), .val (.int lo3), .val (.int ln3), .val (.int lo4), .unset, .unset, .unset, .unset, .unset, .unset, .unset, .unset, .unset, .unset, .unset, .unset, .unset, .unset, .unset, .unset, .unset, .unset, .unset, .unset, .unset, .unset, .unset, .unset, .unset, .unset] [])) (fun _ k => XS.icmpYes X258.here hx rfl (pc0 := 113) (pc' := 125) rfl (hb hby at_113) rfl (flt (hc113 : ¬ ((4 : Int32) < (Int32.ofNat N)))).2.2.2 (by decide) (by decide) k) ?_
      refine own_go (T' := T258) (g' := (mkF m 126 #[.val (.long xa), .second, .val (.long xb), .second, .val (.long xc), .second, .val (.int xn), .val (.int xx), .val (.int (Int32.ofNat N)), .val (.int lo0), .val (.int ln0), .val (.int lo1), .val (.int ln1), .val (.int lo2), .val (.int ln2), .val (.int lo3), .val (.int ln3), .val (.int lo4), .unset, .unset, .unset, .unset, .unset, .unset, .unset, .unset, .unset, .unset, .unset, .unset, .unset, .unset, .unset, .unset, .unset, .unset, .unset, .unset, .unset, .unset, .unset, .unset, .unset, .unset] [(.int (1 : Int32))])) (fun _ k => XS.iconst X258.here hx rfl (hb hby at_125) k) ?_
      refine own_go (T' := T258) (g' := (mkF m 128 #[.val (.long xa), .second, .val (.long xb), .second, .val (.long xc), .second, .val (.int xn), .val (.int xx), .val (.int (Int32.ofNat N)), .val (.int lo0), .val (.int ln0), .val (.int lo1), .val (.int ln1), .val (.int lo2), .val (.int ln2), .val (.int lo3), .val (.int ln3), .val (.int lo4), .val (.int (1 : Int32)), .unset, .unset, .unset, .unset, .unset, .unset, .unset, .unset, .unset, .unset, .unset, .unset, .unset, .unset, .unset, .unset, .unset, .unset, .unset, .unset, .unset, .unset, .unset, .unset, .unset] [])) (fun _ k => XS.istore X258.here hx rfl (hb hby at_126) rfl (l' := #[.val (.long xa), .second, .val (.long xb), .second, .val (.long xc), .second, .val (.int xn), .val (.int xx), .val (.int (Int32.ofNat N)), .val (.int lo0), .val (.int ln0), .val (.int lo1), .val (.int ln1), .val (.int lo2), .val (.int ln2), .val (.int lo3), .val (.int ln3), .val (.int lo4), .val (.int (1 : Int32)), .unset, .unset, .unset, .unset, .unset, .unset, .unset, .unset, .unset, .unset, .unset, .unset, .unset, .unset, .unset, .unset, .unset, .unset, .unset, .unset, .unset, .unset, .unset, .unset, .unset]) rfl k) ?_
      exact tail128 (1 : Int32) T258 _ X258 e258 N258 (hln4.symm.trans (if_neg hc113))
  have tail76 : ∀ (z2 : Int32) (Tt76 : State) (Lt76 : List Loc) (Xt76 : Stand p l e room_1 s m #[(.long xa), (.long xb), (.long xc), (.int xn), (.int xx)] below meth c Tt76 Lt76 0 0) (et76 : Tt76.heap = h0) (Nt76 : Fr n0 Lt76) (hz2 : ln2 = z2), own_F p e below (fun o U' => ∃ v L, o = .returned v ∧ own_QL Z xa xb xc xn xx xd kd h0 n0 v U'.heap L ∧ FrameEnd s o U' L room_1.cells room_1.slots) Tt76 (mkF m 76 #[.val (.long xa), .second, .val (.long xb), .second, .val (.long xc), .second, .val (.int xn), .val (.int xx), .val (.int (Int32.ofNat N)), .val (.int lo0), .val (.int ln0), .val (.int lo1), .val (.int ln1), .val (.int lo2), .val (.int z2), .unset, .unset, .unset, .unset, .unset, .unset, .unset, .unset, .unset, .unset, .unset, .unset, .unset, .unset, .unset, .unset, .unset, .unset, .unset, .unset, .unset, .unset, .unset, .unset, .unset, .unset, .unset, .unset, .unset] []) := by
    intro z2 Tt76 Lt76 Xt76 et76 Nt76 hz2
    subst hz2
    refine own_go (T' := Tt76) (g' := (mkF m 77 #[.val (.long xa), .second, .val (.long xb), .second, .val (.long xc), .second, .val (.int xn), .val (.int xx), .val (.int (Int32.ofNat N)), .val (.int lo0), .val (.int ln0), .val (.int lo1), .val (.int ln1), .val (.int lo2), .val (.int ln2), .unset, .unset, .unset, .unset, .unset, .unset, .unset, .unset, .unset, .unset, .unset, .unset, .unset, .unset, .unset, .unset, .unset, .unset, .unset, .unset, .unset, .unset, .unset, .unset, .unset, .unset, .unset, .unset, .unset] [(.long xb)])) (fun _ k => XS.lloadN Xt76.here hx rfl (hb hby at_76) rfl k) ?_
    refine own_go (T' := Tt76) (g' := (mkF m 79 #[.val (.long xa), .second, .val (.long xb), .second, .val (.long xc), .second, .val (.int xn), .val (.int xx), .val (.int (Int32.ofNat N)), .val (.int lo0), .val (.int ln0), .val (.int lo1), .val (.int ln1), .val (.int lo2), .val (.int ln2), .unset, .unset, .unset, .unset, .unset, .unset, .unset, .unset, .unset, .unset, .unset, .unset, .unset, .unset, .unset, .unset, .unset, .unset, .unset, .unset, .unset, .unset, .unset, .unset, .unset, .unset, .unset, .unset, .unset] [(.int (32 : Int32)), (.long xb)])) (fun _ k => XS.bipush Xt76.here hx rfl (hb hby at_77) k) ?_
    obtain ⟨_, _, ⟨T260, L260, k260, n260⟩, -, X260, ⟨Lc260, hQ260, l260, y260, z260⟩, st260⟩ := Jvm.LawKit.callS Xt76 hx (y := (⟨"com/example/benchlight/benchlight/BoundsSubscriptsPinLaw", "lowerOf", "(JI)I"⟩ : MethodName)) hown (mvT hZ (hw _ (List.mem_of_getElem? (i := 1) rfl))) (mvT hZ (hw _ (List.mem_of_getElem? (i := 2) rfl))) (mvT hZ (hw _ (List.mem_of_getElem? (i := 3) rfl))) (mvT hZ (hw _ (List.mem_of_getElem? (i := 4) rfl))) (by decide) (backOf (W := 0) (own_rLo l Z a0 hw [] xb (32 : Int32) lo3 h0 n0 Z0 hlo3) hZ (hw _ (List.mem_of_getElem? (i := 4) rfl)) (hw _ (List.mem_of_getElem? (i := 3) rfl)) (by decide) (by decide)) (g := (mkF m 79 #[.val (.long xa), .second, .val (.long xb), .second, .val (.long xc), .second, .val (.int xn), .val (.int xx), .val (.int (Int32.ofNat N)), .val (.int lo0), .val (.int ln0), .val (.int lo1), .val (.int ln1), .val (.int lo2), .val (.int ln2), .unset, .unset, .unset, .unset, .unset, .unset, .unset, .unset, .unset, .unset, .unset, .unset, .unset, .unset, .unset, .unset, .unset, .unset, .unset, .unset, .unset, .unset, .unset, .unset, .unset, .unset, .unset, .unset, .unset] [(.int (32 : Int32)), (.long xb)])) rfl (by rw [hml]; rfl) (argsL := [(.long xb), (.int (32 : Int32))]) (rest := []) (lenOf own_pd0 rfl) rfl (by show 2 * 0 + _ ≤ _; exact Nat.le_of_eq rfl) (hb hby at_79) (fun _ _ => ⟨rfl, et76, (by decide : 0 + 0 ≤ _), (by decide : 0 + 0 ≤ _)⟩)
    dsimp only [Pt.U, Pt.locs, Pt.cells, Pt.slots] at X260 l260 y260 z260 st260 hQ260
    subst l260 y260 z260
    obtain ⟨rfl, N260q, e260⟩ := hQ260
    have N260 := Fr.app Nt76 N260q
    refine own_go (T' := T260) (g' := (mkF m 82 #[.val (.long xa), .second, .val (.long xb), .second, .val (.long xc), .second, .val (.int xn), .val (.int xx), .val (.int (Int32.ofNat N)), .val (.int lo0), .val (.int ln0), .val (.int lo1), .val (.int ln1), .val (.int lo2), .val (.int ln2), .unset, .unset, .unset, .unset, .unset, .unset, .unset, .unset, .unset, .unset, .unset, .unset, .unset, .unset, .unset, .unset, .unset, .unset, .unset, .unset, .unset, .unset, .unset, .unset, .unset, .unset, .unset, .unset, .unset] [(.int lo3)])) (fun _ k => st260 _ k) ?_
    refine own_go (T' := T260) (g' := (mkF m 84 #[.val (.long xa), .second, .val (.long xb), .second, .val (.long xc), .second, .val (.int xn), .val (.int xx), .val (.int (Int32.ofNat N)), .val (.int lo0), .val (.int ln0), .val (.int lo1), .val (.int ln1), .val (.int lo2), .val (.int ln2), .val (.int lo3), .unset, .unset, .unset, .unset, .unset, .unset, .unset, .unset, .unset, .unset, .unset, .unset, .unset, .unset, .unset, .unset, .unset, .unset, .unset, .unset, .unset, .unset, .unset, .unset, .unset, .unset, .unset, .unset] [])) (fun _ k => XS.istore X260.here hx rfl (hb hby at_82) rfl (l' := #[.val (.long xa), .second, .val (.long xb), .second, .val (.long xc), .second, .val (.int xn), .val (.int xx), .val (.int (Int32.ofNat N)), .val (.int lo0), .val (.int ln0), .val (.int lo1), .val (.int ln1), .val (.int lo2), .val (.int ln2), .val (.int lo3), .unset, .unset, .unset, .unset, .unset, .unset, .unset, .unset, .unset, .unset, .unset, .unset, .unset, .unset, .unset, .unset, .unset, .unset, .unset, .unset, .unset, .unset, .unset, .unset, .unset, .unset, .unset, .unset]) rfl k) ?_
    refine own_go (T' := T260) (g' := (mkF m 86 #[.val (.long xa), .second, .val (.long xb), .second, .val (.long xc), .second, .val (.int xn), .val (.int xx), .val (.int (Int32.ofNat N)), .val (.int lo0), .val (.int ln0), .val (.int lo1), .val (.int ln1), .val (.int lo2), .val (.int ln2), .val (.int lo3), .unset, .unset, .unset, .unset, .unset, .unset, .unset, .unset, .unset, .unset, .unset, .unset, .unset, .unset, .unset, .unset, .unset, .unset, .unset, .unset, .unset, .unset, .unset, .unset, .unset, .unset, .unset, .unset] [(.int (Int32.ofNat N))])) (fun _ k => XS.iload X260.here hx rfl (hb hby at_84) rfl k) ?_
    refine own_go (T' := T260) (g' := (mkF m 87 #[.val (.long xa), .second, .val (.long xb), .second, .val (.long xc), .second, .val (.int xn), .val (.int xx), .val (.int (Int32.ofNat N)), .val (.int lo0), .val (.int ln0), .val (.int lo1), .val (.int ln1), .val (.int lo2), .val (.int ln2), .val (.int lo3), .unset, .unset, .unset, .unset, .unset, .unset, .unset, .unset, .unset, .unset, .unset, .unset, .unset, .unset, .unset, .unset, .unset, .unset, .unset, .unset, .unset, .unset, .unset, .unset, .unset, .unset, .unset, .unset] [(.int (3 : Int32)), (.int (Int32.ofNat N))])) (fun _ k => XS.iconst X260.here hx rfl (hb hby at_86) k) ?_
    by_cases hc87 : (3 : Int32) < (Int32.ofNat N)
    · refine own_go (T' := T260) (g' := (mkF m 90 #[.val (.long xa), .second, .val (.long xb), .second, .val (.long xc), .second, .val (.int xn), .val (.int xx), .val (.int (Int32.ofNat N)), .val (.int lo0), .val (.int ln0), .val (.int lo1), .val (.int ln1), .val (.int lo2), .val (.int ln2), .val (.int lo3), .unset, .unset, .unset, .unset, .unset, .unset, .unset, .unset, .unset, .unset, .unset, .unset, .unset, .unset, .unset, .unset, .unset, .unset, .unset, .unset, .unset, .unset, .unset, .unset, .unset, .unset, .unset, .unset] [])) (fun _ k => XS.icmpNo X260.here hx rfl (hb hby at_87) rfl (tlt (hc87 : (3 : Int32) < (Int32.ofNat N))).2.2.2 k) ?_
      refine own_go (T' := T260) (g' := (mkF m 91 #[.val (.long xa), .second, .val (.long xb), .second, .val (.long xc), .second, .val (.int xn), .val (.int xx), .val (.int (Int32.ofNat N)), .val (.int lo0), .val (.int ln0), .val (.int lo1), .val (.int ln1), .val (.int lo2), .val (.int ln2), .val (.int lo3), .unset, .unset, .unset, .unset, .unset, .unset, .unset, .unset, .unset, .unset, .unset, .unset, .unset, .unset, .unset, .unset, .unset, .unset, .unset, .unset, .unset, .unset, .unset, .unset, .unset, .unset, .unset, .unset] [(.long xb)])) (fun _ k => XS.lloadN X260.here hx rfl (hb hby at_90) rfl k) ?_
      refine own_go (T' := T260) (g' := (mkF m 93 #[.val (.long xa), .second, .val (.long xb), .second, .val (.long xc), .second, .val (.int xn), .val (.int xx), .val (.int (Int32.ofNat N)), .val (.int lo0), .val (.int ln0), .val (.int lo1), .val (.int ln1), .val (.int lo2), .val (.int ln2), .val (.int lo3), .unset, .unset, .unset, .unset, .unset, .unset, .unset, .unset, .unset, .unset, .unset, .unset, .unset, .unset, .unset, .unset, .unset, .unset, .unset, .unset, .unset, .unset, .unset, .unset, .unset, .unset, .unset, .unset] [(.int (32 : Int32)), (.long xb)])) (fun _ k => XS.bipush X260.here hx rfl (hb hby at_91) k) ?_
      obtain ⟨_, _, ⟨T261, L261, k261, n261⟩, -, X261, ⟨Lc261, hQ261, l261, y261, z261⟩, st261⟩ := Jvm.LawKit.callS X260 hx (y := (⟨"com/example/benchlight/benchlight/BoundsSubscriptsPinLaw", "lengthOf", "(JI)I"⟩ : MethodName)) hown (mvT hZ (hw _ (List.mem_of_getElem? (i := 5) rfl))) (mvT hZ (hw _ (List.mem_of_getElem? (i := 6) rfl))) (mvT hZ (hw _ (List.mem_of_getElem? (i := 3) rfl))) (mvT hZ (hw _ (List.mem_of_getElem? (i := 7) rfl))) (by decide) (backOf (W := 0) (own_rLe l Z a0 hw [] xb (32 : Int32) ln3 h0 n0 Z0 ((if_pos hc87).symm.trans hln3)) hZ (hw _ (List.mem_of_getElem? (i := 7) rfl)) (hw _ (List.mem_of_getElem? (i := 3) rfl)) (by decide) (by decide)) (g := (mkF m 93 #[.val (.long xa), .second, .val (.long xb), .second, .val (.long xc), .second, .val (.int xn), .val (.int xx), .val (.int (Int32.ofNat N)), .val (.int lo0), .val (.int ln0), .val (.int lo1), .val (.int ln1), .val (.int lo2), .val (.int ln2), .val (.int lo3), .unset, .unset, .unset, .unset, .unset, .unset, .unset, .unset, .unset, .unset, .unset, .unset, .unset, .unset, .unset, .unset, .unset, .unset, .unset, .unset, .unset, .unset, .unset, .unset, .unset, .unset, .unset, .unset] [(.int (32 : Int32)), (.long xb)])) rfl (by rw [hml]; rfl) (argsL := [(.long xb), (.int (32 : Int32))]) (rest := []) (lenOf own_pd0 rfl) rfl (by show 2 * 0 + _ ≤ _; exact Nat.le_of_eq rfl) (hb hby at_93) (fun _ _ => ⟨rfl, e260, (by decide : 0 + 0 ≤ _), (by decide : 0 + 0 ≤ _)⟩)
      dsimp only [Pt.U, Pt.locs, Pt.cells, Pt.slots] at X261 l261 y261 z261 st261 hQ261
      subst l261 y261 z261
      obtain ⟨rfl, N261q, e261⟩ := hQ261
      have N261 := Fr.app N260 N261q
      refine own_go (T' := T261) (g' := (mkF m 96 #[.val (.long xa), .second, .val (.long xb), .second, .val (.long xc), .second, .val (.int xn), .val (.int xx), .val (.int (Int32.ofNat N)), .val (.int lo0), .val (.int ln0), .val (.int lo1), .val (.int ln1), .val (.int lo2), .val (.int ln2), .val (.int lo3), .unset, .unset, .unset, .unset, .unset, .unset, .unset, .unset, .unset, .unset, .unset, .unset, .unset, .unset, .unset, .unset, .unset, .unset, .unset, .unset, .unset, .unset, .unset, .unset, .unset, .unset, .unset, .unset] [(.int ln3)])) (fun _ k => st261 _ k) ?_
      refine own_go (T' := T261) (g' := (mkF m 100 #[.val (.long xa), .second, .val (.long xb), .second, .val (.long xc), .second, .val (.int xn), .val (.int xx), .val (.int (Int32.ofNat N)), .val (.int lo0), .val (.int ln0), .val (.int lo1), .val (.int ln1), .val (.int lo2), .val (.int ln2), .val (.int lo3), .unset, .unset, .unset, .unset, .unset, .unset, .unset, .unset, .unset, .unset, .unset, .unset, .unset, .unset, .unset, .unset, .unset, .unset, .unset, .unset, .unset, .unset, .unset, .unset, .unset, .unset, .unset, .unset] [(.int ln3)])) (fun _ k => XS.goto X261.here hx rfl (pc0 := 96) (pc' := 100) rfl (hb hby at_96) (by decide) (by decide) k) ?_
      refine own_go (T' := T261) (g' := (mkF m 102 #[.val (.long xa), .second, .val (.long xb), .second, .val (.long xc), .second, .val (.int xn), .val (.int xx), .val (.int (Int32.ofNat N)), .val (.int lo0), .val (.int ln0), .val (.int lo1), .val (.int ln1), .val (.int lo2), .val (.int ln2), .val (.int lo3), .val (.int ln3), .unset, .unset, .unset, .unset, .unset, .unset, .unset, .unset, .unset, .unset, .unset, .unset, .unset, .unset, .unset, .unset, .unset, .unset, .unset, .unset, .unset, .unset, .unset, .unset, .unset, .unset, .unset] [])) (fun _ k => XS.istore X261.here hx rfl (hb hby at_100) rfl (l' := #[.val (.long xa), .second, .val (.long xb), .second, .val (.long xc), .second, .val (.int xn), .val (.int xx), .val (.int (Int32.ofNat N)), .val (.int lo0), .val (.int ln0), .val (.int lo1), .val (.int ln1), .val (.int lo2), .val (.int ln2), .val (.int lo3), .val (.int ln3), .unset, .unset, .unset, .unset, .unset, .unset, .unset, .unset, .unset, .unset, .unset, .unset, .unset, .unset, .unset, .unset, .unset, .unset, .unset, .unset, .unset, .unset, .unset, .unset, .unset, .unset, .unset]) rfl k) ?_
      exact tail102 ln3 T261 _ X261 e261 N261 rfl
    · refine own_go (T' := T260) (g' := (mkF m 99 #[.val (.long xa), .second, .val (.long xb), .second, .val (.long xc), .second, .val (.int xn), .val (.int xx), .val (.int (Int32.ofNat N)), .val (.int lo0), .val (.int ln0), .val (.int lo1), .val (.int ln1), .val (.int lo2), .val (.int ln2), .val (.int lo3), .unset, .unset, .unset, .unset, .unset, .unset, .unset, .unset, .unset, .unset, .unset, .unset, .unset, .unset, .unset, .unset, .unset, .unset, .unset, .unset, .unset, .unset, .unset, .unset, .unset, .unset, .unset, .unset] [])) (fun _ k => XS.icmpYes X260.here hx rfl (pc0 := 87) (pc' := 99) rfl (hb hby at_87) rfl (flt (hc87 : ¬ ((3 : Int32) < (Int32.ofNat N)))).2.2.2 (by decide) (by decide) k) ?_
      refine own_go (T' := T260) (g' := (mkF m 100 #[.val (.long xa), .second, .val (.long xb), .second, .val (.long xc), .second, .val (.int xn), .val (.int xx), .val (.int (Int32.ofNat N)), .val (.int lo0), .val (.int ln0), .val (.int lo1), .val (.int ln1), .val (.int lo2), .val (.int ln2), .val (.int lo3), .unset, .unset, .unset, .unset, .unset, .unset, .unset, .unset, .unset, .unset, .unset, .unset, .unset, .unset, .unset, .unset, .unset, .unset, .unset, .unset, .unset, .unset, .unset, .unset, .unset, .unset, .unset, .unset] [(.int (1 : Int32))])) (fun _ k => XS.iconst X260.here hx rfl (hb hby at_99) k) ?_
      refine own_go (T' := T260) (g' := (mkF m 102 #[.val (.long xa), .second, .val (.long xb), .second, .val (.long xc), .second, .val (.int xn), .val (.int xx), .val (.int (Int32.ofNat N)), .val (.int lo0), .val (.int ln0), .val (.int lo1), .val (.int ln1), .val (.int lo2), .val (.int ln2), .val (.int lo3), .val (.int (1 : Int32)), .unset, .unset, .unset, .unset, .unset, .unset, .unset, .unset, .unset, .unset, .unset, .unset, .unset, .unset, .unset, .unset, .unset, .unset, .unset, .unset, .unset, .unset, .unset, .unset, .unset, .unset, .unset] [])) (fun _ k => XS.istore X260.here hx rfl (hb hby at_100) rfl (l' := #[.val (.long xa), .second, .val (.long xb), .second, .val (.long xc), .second, .val (.int xn), .val (.int xx), .val (.int (Int32.ofNat N)), .val (.int lo0), .val (.int ln0), .val (.int lo1), .val (.int ln1), .val (.int lo2), .val (.int ln2), .val (.int lo3), .val (.int (1 : Int32)), .unset, .unset, .unset, .unset, .unset, .unset, .unset, .unset, .unset, .unset, .unset, .unset, .unset, .unset, .unset, .unset, .unset, .unset, .unset, .unset, .unset, .unset, .unset, .unset, .unset, .unset, .unset]) rfl k) ?_
      exact tail102 (1 : Int32) T260 _ X260 e260 N260 (hln3.symm.trans (if_neg hc87))
  have tail52 : ∀ (z1 : Int32) (Tt52 : State) (Lt52 : List Loc) (Xt52 : Stand p l e room_1 s m #[(.long xa), (.long xb), (.long xc), (.int xn), (.int xx)] below meth c Tt52 Lt52 0 0) (et52 : Tt52.heap = h0) (Nt52 : Fr n0 Lt52) (hz1 : ln1 = z1), own_F p e below (fun o U' => ∃ v L, o = .returned v ∧ own_QL Z xa xb xc xn xx xd kd h0 n0 v U'.heap L ∧ FrameEnd s o U' L room_1.cells room_1.slots) Tt52 (mkF m 52 #[.val (.long xa), .second, .val (.long xb), .second, .val (.long xc), .second, .val (.int xn), .val (.int xx), .val (.int (Int32.ofNat N)), .val (.int lo0), .val (.int ln0), .val (.int lo1), .val (.int z1), .unset, .unset, .unset, .unset, .unset, .unset, .unset, .unset, .unset, .unset, .unset, .unset, .unset, .unset, .unset, .unset, .unset, .unset, .unset, .unset, .unset, .unset, .unset, .unset, .unset, .unset, .unset, .unset, .unset, .unset, .unset] []) := by
    intro z1 Tt52 Lt52 Xt52 et52 Nt52 hz1
    subst hz1
    refine own_go (T' := Tt52) (g' := (mkF m 53 #[.val (.long xa), .second, .val (.long xb), .second, .val (.long xc), .second, .val (.int xn), .val (.int xx), .val (.int (Int32.ofNat N)), .val (.int lo0), .val (.int ln0), .val (.int lo1), .val (.int ln1), .unset, .unset, .unset, .unset, .unset, .unset, .unset, .unset, .unset, .unset, .unset, .unset, .unset, .unset, .unset, .unset, .unset, .unset, .unset, .unset, .unset, .unset, .unset, .unset, .unset, .unset, .unset, .unset, .unset, .unset, .unset] [(.long xb)])) (fun _ k => XS.lloadN Xt52.here hx rfl (hb hby at_52) rfl k) ?_
    refine own_go (T' := Tt52) (g' := (mkF m 54 #[.val (.long xa), .second, .val (.long xb), .second, .val (.long xc), .second, .val (.int xn), .val (.int xx), .val (.int (Int32.ofNat N)), .val (.int lo0), .val (.int ln0), .val (.int lo1), .val (.int ln1), .unset, .unset, .unset, .unset, .unset, .unset, .unset, .unset, .unset, .unset, .unset, .unset, .unset, .unset, .unset, .unset, .unset, .unset, .unset, .unset, .unset, .unset, .unset, .unset, .unset, .unset, .unset, .unset, .unset, .unset, .unset] [(.int (0 : Int32)), (.long xb)])) (fun _ k => XS.iconst Xt52.here hx rfl (hb hby at_53) k) ?_
    obtain ⟨_, _, ⟨T262, L262, k262, n262⟩, -, X262, ⟨Lc262, hQ262, l262, y262, z262⟩, st262⟩ := Jvm.LawKit.callS Xt52 hx (y := (⟨"com/example/benchlight/benchlight/BoundsSubscriptsPinLaw", "lowerOf", "(JI)I"⟩ : MethodName)) hown (mvT hZ (hw _ (List.mem_of_getElem? (i := 1) rfl))) (mvT hZ (hw _ (List.mem_of_getElem? (i := 2) rfl))) (mvT hZ (hw _ (List.mem_of_getElem? (i := 3) rfl))) (mvT hZ (hw _ (List.mem_of_getElem? (i := 4) rfl))) (by decide) (backOf (W := 0) (own_rLo l Z a0 hw [] xb (0 : Int32) lo2 h0 n0 Z0 hlo2) hZ (hw _ (List.mem_of_getElem? (i := 4) rfl)) (hw _ (List.mem_of_getElem? (i := 3) rfl)) (by decide) (by decide)) (g := (mkF m 54 #[.val (.long xa), .second, .val (.long xb), .second, .val (.long xc), .second, .val (.int xn), .val (.int xx), .val (.int (Int32.ofNat N)), .val (.int lo0), .val (.int ln0), .val (.int lo1), .val (.int ln1), .unset, .unset, .unset, .unset, .unset, .unset, .unset, .unset, .unset, .unset, .unset, .unset, .unset, .unset, .unset, .unset, .unset, .unset, .unset, .unset, .unset, .unset, .unset, .unset, .unset, .unset, .unset, .unset, .unset, .unset, .unset] [(.int (0 : Int32)), (.long xb)])) rfl (by rw [hml]; rfl) (argsL := [(.long xb), (.int (0 : Int32))]) (rest := []) (lenOf own_pd0 rfl) rfl (by show 2 * 0 + _ ≤ _; exact Nat.le_of_eq rfl) (hb hby at_54) (fun _ _ => ⟨rfl, et52, (by decide : 0 + 0 ≤ _), (by decide : 0 + 0 ≤ _)⟩)
    dsimp only [Pt.U, Pt.locs, Pt.cells, Pt.slots] at X262 l262 y262 z262 st262 hQ262
    subst l262 y262 z262
    obtain ⟨rfl, N262q, e262⟩ := hQ262
    have N262 := Fr.app Nt52 N262q
    refine own_go (T' := T262) (g' := (mkF m 57 #[.val (.long xa), .second, .val (.long xb), .second, .val (.long xc), .second, .val (.int xn), .val (.int xx), .val (.int (Int32.ofNat N)), .val (.int lo0), .val (.int ln0), .val (.int lo1), .val (.int ln1), .unset, .unset, .unset, .unset, .unset, .unset, .unset, .unset, .unset, .unset, .unset, .unset, .unset, .unset, .unset, .unset, .unset, .unset, .unset, .unset, .unset, .unset, .unset, .unset, .unset, .unset, .unset, .unset, .unset, .unset, .unset] [(.int lo2)])) (fun _ k => st262 _ k) ?_
    refine own_go (T' := T262) (g' := (mkF m 59 #[.val (.long xa), .second, .val (.long xb), .second, .val (.long xc), .second, .val (.int xn), .val (.int xx), .val (.int (Int32.ofNat N)), .val (.int lo0), .val (.int ln0), .val (.int lo1), .val (.int ln1), .val (.int lo2), .unset, .unset, .unset, .unset, .unset, .unset, .unset, .unset, .unset, .unset, .unset, .unset, .unset, .unset, .unset, .unset, .unset, .unset, .unset, .unset, .unset, .unset, .unset, .unset, .unset, .unset, .unset, .unset, .unset, .unset] [])) (fun _ k => XS.istore X262.here hx rfl (hb hby at_57) rfl (l' := #[.val (.long xa), .second, .val (.long xb), .second, .val (.long xc), .second, .val (.int xn), .val (.int xx), .val (.int (Int32.ofNat N)), .val (.int lo0), .val (.int ln0), .val (.int lo1), .val (.int ln1), .val (.int lo2), .unset, .unset, .unset, .unset, .unset, .unset, .unset, .unset, .unset, .unset, .unset, .unset, .unset, .unset, .unset, .unset, .unset, .unset, .unset, .unset, .unset, .unset, .unset, .unset, .unset, .unset, .unset, .unset, .unset, .unset]) rfl k) ?_
    refine own_go (T' := T262) (g' := (mkF m 61 #[.val (.long xa), .second, .val (.long xb), .second, .val (.long xc), .second, .val (.int xn), .val (.int xx), .val (.int (Int32.ofNat N)), .val (.int lo0), .val (.int ln0), .val (.int lo1), .val (.int ln1), .val (.int lo2), .unset, .unset, .unset, .unset, .unset, .unset, .unset, .unset, .unset, .unset, .unset, .unset, .unset, .unset, .unset, .unset, .unset, .unset, .unset, .unset, .unset, .unset, .unset, .unset, .unset, .unset, .unset, .unset, .unset, .unset] [(.int (Int32.ofNat N))])) (fun _ k => XS.iload X262.here hx rfl (hb hby at_59) rfl k) ?_
    refine own_go (T' := T262) (g' := (mkF m 62 #[.val (.long xa), .second, .val (.long xb), .second, .val (.long xc), .second, .val (.int xn), .val (.int xx), .val (.int (Int32.ofNat N)), .val (.int lo0), .val (.int ln0), .val (.int lo1), .val (.int ln1), .val (.int lo2), .unset, .unset, .unset, .unset, .unset, .unset, .unset, .unset, .unset, .unset, .unset, .unset, .unset, .unset, .unset, .unset, .unset, .unset, .unset, .unset, .unset, .unset, .unset, .unset, .unset, .unset, .unset, .unset, .unset, .unset] [(.int (2 : Int32)), (.int (Int32.ofNat N))])) (fun _ k => XS.iconst X262.here hx rfl (hb hby at_61) k) ?_
    by_cases hc62 : (2 : Int32) < (Int32.ofNat N)
    · refine own_go (T' := T262) (g' := (mkF m 65 #[.val (.long xa), .second, .val (.long xb), .second, .val (.long xc), .second, .val (.int xn), .val (.int xx), .val (.int (Int32.ofNat N)), .val (.int lo0), .val (.int ln0), .val (.int lo1), .val (.int ln1), .val (.int lo2), .unset, .unset, .unset, .unset, .unset, .unset, .unset, .unset, .unset, .unset, .unset, .unset, .unset, .unset, .unset, .unset, .unset, .unset, .unset, .unset, .unset, .unset, .unset, .unset, .unset, .unset, .unset, .unset, .unset, .unset] [])) (fun _ k => XS.icmpNo X262.here hx rfl (hb hby at_62) rfl (tlt (hc62 : (2 : Int32) < (Int32.ofNat N))).2.2.2 k) ?_
      refine own_go (T' := T262) (g' := (mkF m 66 #[.val (.long xa), .second, .val (.long xb), .second, .val (.long xc), .second, .val (.int xn), .val (.int xx), .val (.int (Int32.ofNat N)), .val (.int lo0), .val (.int ln0), .val (.int lo1), .val (.int ln1), .val (.int lo2), .unset, .unset, .unset, .unset, .unset, .unset, .unset, .unset, .unset, .unset, .unset, .unset, .unset, .unset, .unset, .unset, .unset, .unset, .unset, .unset, .unset, .unset, .unset, .unset, .unset, .unset, .unset, .unset, .unset, .unset] [(.long xb)])) (fun _ k => XS.lloadN X262.here hx rfl (hb hby at_65) rfl k) ?_
      refine own_go (T' := T262) (g' := (mkF m 67 #[.val (.long xa), .second, .val (.long xb), .second, .val (.long xc), .second, .val (.int xn), .val (.int xx), .val (.int (Int32.ofNat N)), .val (.int lo0), .val (.int ln0), .val (.int lo1), .val (.int ln1), .val (.int lo2), .unset, .unset, .unset, .unset, .unset, .unset, .unset, .unset, .unset, .unset, .unset, .unset, .unset, .unset, .unset, .unset, .unset, .unset, .unset, .unset, .unset, .unset, .unset, .unset, .unset, .unset, .unset, .unset, .unset, .unset] [(.int (0 : Int32)), (.long xb)])) (fun _ k => XS.iconst X262.here hx rfl (hb hby at_66) k) ?_
      obtain ⟨_, _, ⟨T263, L263, k263, n263⟩, -, X263, ⟨Lc263, hQ263, l263, y263, z263⟩, st263⟩ := Jvm.LawKit.callS X262 hx (y := (⟨"com/example/benchlight/benchlight/BoundsSubscriptsPinLaw", "lengthOf", "(JI)I"⟩ : MethodName)) hown (mvT hZ (hw _ (List.mem_of_getElem? (i := 5) rfl))) (mvT hZ (hw _ (List.mem_of_getElem? (i := 6) rfl))) (mvT hZ (hw _ (List.mem_of_getElem? (i := 3) rfl))) (mvT hZ (hw _ (List.mem_of_getElem? (i := 7) rfl))) (by decide) (backOf (W := 0) (own_rLe l Z a0 hw [] xb (0 : Int32) ln2 h0 n0 Z0 ((if_pos hc62).symm.trans hln2)) hZ (hw _ (List.mem_of_getElem? (i := 7) rfl)) (hw _ (List.mem_of_getElem? (i := 3) rfl)) (by decide) (by decide)) (g := (mkF m 67 #[.val (.long xa), .second, .val (.long xb), .second, .val (.long xc), .second, .val (.int xn), .val (.int xx), .val (.int (Int32.ofNat N)), .val (.int lo0), .val (.int ln0), .val (.int lo1), .val (.int ln1), .val (.int lo2), .unset, .unset, .unset, .unset, .unset, .unset, .unset, .unset, .unset, .unset, .unset, .unset, .unset, .unset, .unset, .unset, .unset, .unset, .unset, .unset, .unset, .unset, .unset, .unset, .unset, .unset, .unset, .unset, .unset, .unset] [(.int (0 : Int32)), (.long xb)])) rfl (by rw [hml]; rfl) (argsL := [(.long xb), (.int (0 : Int32))]) (rest := []) (lenOf own_pd0 rfl) rfl (by show 2 * 0 + _ ≤ _; exact Nat.le_of_eq rfl) (hb hby at_67) (fun _ _ => ⟨rfl, e262, (by decide : 0 + 0 ≤ _), (by decide : 0 + 0 ≤ _)⟩)
      dsimp only [Pt.U, Pt.locs, Pt.cells, Pt.slots] at X263 l263 y263 z263 st263 hQ263
      subst l263 y263 z263
      obtain ⟨rfl, N263q, e263⟩ := hQ263
      have N263 := Fr.app N262 N263q
      refine own_go (T' := T263) (g' := (mkF m 70 #[.val (.long xa), .second, .val (.long xb), .second, .val (.long xc), .second, .val (.int xn), .val (.int xx), .val (.int (Int32.ofNat N)), .val (.int lo0), .val (.int ln0), .val (.int lo1), .val (.int ln1), .val (.int lo2), .unset, .unset, .unset, .unset, .unset, .unset, .unset, .unset, .unset, .unset, .unset, .unset, .unset, .unset, .unset, .unset, .unset, .unset, .unset, .unset, .unset, .unset, .unset, .unset, .unset, .unset, .unset, .unset, .unset, .unset] [(.int ln2)])) (fun _ k => st263 _ k) ?_
      refine own_go (T' := T263) (g' := (mkF m 74 #[.val (.long xa), .second, .val (.long xb), .second, .val (.long xc), .second, .val (.int xn), .val (.int xx), .val (.int (Int32.ofNat N)), .val (.int lo0), .val (.int ln0), .val (.int lo1), .val (.int ln1), .val (.int lo2), .unset, .unset, .unset, .unset, .unset, .unset, .unset, .unset, .unset, .unset, .unset, .unset, .unset, .unset, .unset, .unset, .unset, .unset, .unset, .unset, .unset, .unset, .unset, .unset, .unset, .unset, .unset, .unset, .unset, .unset] [(.int ln2)])) (fun _ k => XS.goto X263.here hx rfl (pc0 := 70) (pc' := 74) rfl (hb hby at_70) (by decide) (by decide) k) ?_
      refine own_go (T' := T263) (g' := (mkF m 76 #[.val (.long xa), .second, .val (.long xb), .second, .val (.long xc), .second, .val (.int xn), .val (.int xx), .val (.int (Int32.ofNat N)), .val (.int lo0), .val (.int ln0), .val (.int lo1), .val (.int ln1), .val (.int lo2), .val (.int ln2), .unset, .unset, .unset, .unset, .unset, .unset, .unset, .unset, .unset, .unset, .unset, .unset, .unset, .unset, .unset, .unset, .unset, .unset, .unset, .unset, .unset, .unset, .unset, .unset, .unset, .unset, .unset, .unset, .unset] [])) (fun _ k => XS.istore X263.here hx rfl (hb hby at_74) rfl (l' := #[.val (.long xa), .second, .val (.long xb), .second, .val (.long xc), .second, .val (.int xn), .val (.int xx), .val (.int (Int32.ofNat N)), .val (.int lo0), .val (.int ln0), .val (.int lo1), .val (.int ln1), .val (.int lo2), .val (.int ln2), .unset, .unset, .unset, .unset, .unset, .unset, .unset, .unset, .unset, .unset, .unset, .unset, .unset, .unset, .unset, .unset, .unset, .unset, .unset, .unset, .unset, .unset, .unset, .unset, .unset, .unset, .unset, .unset, .unset]) rfl k) ?_
      exact tail76 ln2 T263 _ X263 e263 N263 rfl
    · refine own_go (T' := T262) (g' := (mkF m 73 #[.val (.long xa), .second, .val (.long xb), .second, .val (.long xc), .second, .val (.int xn), .val (.int xx), .val (.int (Int32.ofNat N)), .val (.int lo0), .val (.int ln0), .val (.int lo1), .val (.int ln1), .val (.int lo2), .unset, .unset, .unset, .unset, .unset, .unset, .unset, .unset, .unset, .unset, .unset, .unset, .unset, .unset, .unset, .unset, .unset, .unset, .unset, .unset, .unset, .unset, .unset, .unset, .unset, .unset, .unset, .unset, .unset, .unset] [])) (fun _ k => XS.icmpYes X262.here hx rfl (pc0 := 62) (pc' := 73) rfl (hb hby at_62) rfl (flt (hc62 : ¬ ((2 : Int32) < (Int32.ofNat N)))).2.2.2 (by decide) (by decide) k) ?_
      refine own_go (T' := T262) (g' := (mkF m 74 #[.val (.long xa), .second, .val (.long xb), .second, .val (.long xc), .second, .val (.int xn), .val (.int xx), .val (.int (Int32.ofNat N)), .val (.int lo0), .val (.int ln0), .val (.int lo1), .val (.int ln1), .val (.int lo2), .unset, .unset, .unset, .unset, .unset, .unset, .unset, .unset, .unset, .unset, .unset, .unset, .unset, .unset, .unset, .unset, .unset, .unset, .unset, .unset, .unset, .unset, .unset, .unset, .unset, .unset, .unset, .unset, .unset, .unset] [(.int (1 : Int32))])) (fun _ k => XS.iconst X262.here hx rfl (hb hby at_73) k) ?_
      refine own_go (T' := T262) (g' := (mkF m 76 #[.val (.long xa), .second, .val (.long xb), .second, .val (.long xc), .second, .val (.int xn), .val (.int xx), .val (.int (Int32.ofNat N)), .val (.int lo0), .val (.int ln0), .val (.int lo1), .val (.int ln1), .val (.int lo2), .val (.int (1 : Int32)), .unset, .unset, .unset, .unset, .unset, .unset, .unset, .unset, .unset, .unset, .unset, .unset, .unset, .unset, .unset, .unset, .unset, .unset, .unset, .unset, .unset, .unset, .unset, .unset, .unset, .unset, .unset, .unset, .unset] [])) (fun _ k => XS.istore X262.here hx rfl (hb hby at_74) rfl (l' := #[.val (.long xa), .second, .val (.long xb), .second, .val (.long xc), .second, .val (.int xn), .val (.int xx), .val (.int (Int32.ofNat N)), .val (.int lo0), .val (.int ln0), .val (.int lo1), .val (.int ln1), .val (.int lo2), .val (.int (1 : Int32)), .unset, .unset, .unset, .unset, .unset, .unset, .unset, .unset, .unset, .unset, .unset, .unset, .unset, .unset, .unset, .unset, .unset, .unset, .unset, .unset, .unset, .unset, .unset, .unset, .unset, .unset, .unset, .unset, .unset]) rfl k) ?_
      exact tail76 (1 : Int32) T262 _ X262 e262 N262 (hln2.symm.trans (if_neg hc62))
  refine own_go (T' := s₁) (g' := (mkF m 2 #[.val (.long xa), .second, .val (.long xb), .second, .val (.long xc), .second, .val (.int xn), .val (.int xx), .unset, .unset, .unset, .unset, .unset, .unset, .unset, .unset, .unset, .unset, .unset, .unset, .unset, .unset, .unset, .unset, .unset, .unset, .unset, .unset, .unset, .unset, .unset, .unset, .unset, .unset, .unset, .unset, .unset, .unset, .unset, .unset, .unset, .unset, .unset, .unset] [(.int xn)])) (fun _ k => XS.iload X0.here hx rfl (hb hby at_0) rfl k) ?_
  refine own_go (T' := s₁) (g' := (mkF m 4 #[.val (.long xa), .second, .val (.long xb), .second, .val (.long xc), .second, .val (.int xn), .val (.int xx), .unset, .unset, .unset, .unset, .unset, .unset, .unset, .unset, .unset, .unset, .unset, .unset, .unset, .unset, .unset, .unset, .unset, .unset, .unset, .unset, .unset, .unset, .unset, .unset, .unset, .unset, .unset, .unset, .unset, .unset, .unset, .unset, .unset, .unset, .unset, .unset] [(.int (2147483647 : Int32)), (.int xn)])) (fun _ k => X0.ldcInt hx hown (mvT hZ (hw _ (List.mem_of_getElem? (i := 0) rfl))) (g := (mkF m 2 #[.val (.long xa), .second, .val (.long xb), .second, .val (.long xc), .second, .val (.int xn), .val (.int xx), .unset, .unset, .unset, .unset, .unset, .unset, .unset, .unset, .unset, .unset, .unset, .unset, .unset, .unset, .unset, .unset, .unset, .unset, .unset, .unset, .unset, .unset, .unset, .unset, .unset, .unset, .unset, .unset, .unset, .unset, .unset, .unset, .unset, .unset, .unset, .unset] [(.int xn)])) rfl (hb hby at_2) _ k) ?_
  refine own_go (T' := s₁) (g' := (mkF m 5 #[.val (.long xa), .second, .val (.long xb), .second, .val (.long xc), .second, .val (.int xn), .val (.int xx), .unset, .unset, .unset, .unset, .unset, .unset, .unset, .unset, .unset, .unset, .unset, .unset, .unset, .unset, .unset, .unset, .unset, .unset, .unset, .unset, .unset, .unset, .unset, .unset, .unset, .unset, .unset, .unset, .unset, .unset, .unset, .unset, .unset, .unset, .unset, .unset] [(.int (xn &&& (2147483647 : Int32)))])) (fun _ k => XS.iand X0.here hx rfl (hb hby at_4) rfl k) ?_
  refine own_go (T' := s₁) (g' := (mkF m 7 #[.val (.long xa), .second, .val (.long xb), .second, .val (.long xc), .second, .val (.int xn), .val (.int xx), .unset, .unset, .unset, .unset, .unset, .unset, .unset, .unset, .unset, .unset, .unset, .unset, .unset, .unset, .unset, .unset, .unset, .unset, .unset, .unset, .unset, .unset, .unset, .unset, .unset, .unset, .unset, .unset, .unset, .unset, .unset, .unset, .unset, .unset, .unset, .unset] [(.int (6 : Int32)), (.int (xn &&& (2147483647 : Int32)))])) (fun _ k => XS.bipush X0.here hx rfl (hb hby at_5) k) ?_
  refine own_go (T' := s₁) (g' := (mkF m 8 #[.val (.long xa), .second, .val (.long xb), .second, .val (.long xc), .second, .val (.int xn), .val (.int xx), .unset, .unset, .unset, .unset, .unset, .unset, .unset, .unset, .unset, .unset, .unset, .unset, .unset, .unset, .unset, .unset, .unset, .unset, .unset, .unset, .unset, .unset, .unset, .unset, .unset, .unset, .unset, .unset, .unset, .unset, .unset, .unset, .unset, .unset, .unset, .unset] [(.int ((xn &&& (2147483647 : Int32)) % (6 : Int32)))])) (fun _ k => iremM X0 hx rfl (hb hby at_7) rfl (by decide) k) ?_
  refine own_go (T' := s₁) (g' := (mkF m 9 #[.val (.long xa), .second, .val (.long xb), .second, .val (.long xc), .second, .val (.int xn), .val (.int xx), .unset, .unset, .unset, .unset, .unset, .unset, .unset, .unset, .unset, .unset, .unset, .unset, .unset, .unset, .unset, .unset, .unset, .unset, .unset, .unset, .unset, .unset, .unset, .unset, .unset, .unset, .unset, .unset, .unset, .unset, .unset, .unset, .unset, .unset, .unset, .unset] [(.int (1 : Int32)), (.int ((xn &&& (2147483647 : Int32)) % (6 : Int32)))])) (fun _ k => XS.iconst X0.here hx rfl (hb hby at_8) k) ?_
  refine own_go (T' := s₁) (g' := (mkF m 10 #[.val (.long xa), .second, .val (.long xb), .second, .val (.long xc), .second, .val (.int xn), .val (.int xx), .unset, .unset, .unset, .unset, .unset, .unset, .unset, .unset, .unset, .unset, .unset, .unset, .unset, .unset, .unset, .unset, .unset, .unset, .unset, .unset, .unset, .unset, .unset, .unset, .unset, .unset, .unset, .unset, .unset, .unset, .unset, .unset, .unset, .unset, .unset, .unset] [(.int (((xn &&& (2147483647 : Int32)) % (6 : Int32)) + (1 : Int32)))])) (fun _ k => XS.iadd X0.here hx rfl (hb hby at_9) rfl k) ?_
  rw [hN]
  refine own_go (T' := s₁) (g' := (mkF m 12 #[.val (.long xa), .second, .val (.long xb), .second, .val (.long xc), .second, .val (.int xn), .val (.int xx), .val (.int (Int32.ofNat N)), .unset, .unset, .unset, .unset, .unset, .unset, .unset, .unset, .unset, .unset, .unset, .unset, .unset, .unset, .unset, .unset, .unset, .unset, .unset, .unset, .unset, .unset, .unset, .unset, .unset, .unset, .unset, .unset, .unset, .unset, .unset, .unset, .unset, .unset, .unset] [])) (fun _ k => XS.istore X0.here hx rfl (hb hby at_10) rfl (l' := #[.val (.long xa), .second, .val (.long xb), .second, .val (.long xc), .second, .val (.int xn), .val (.int xx), .val (.int (Int32.ofNat N)), .unset, .unset, .unset, .unset, .unset, .unset, .unset, .unset, .unset, .unset, .unset, .unset, .unset, .unset, .unset, .unset, .unset, .unset, .unset, .unset, .unset, .unset, .unset, .unset, .unset, .unset, .unset, .unset, .unset, .unset, .unset, .unset, .unset, .unset, .unset]) rfl k) ?_
  refine own_go (T' := s₁) (g' := (mkF m 13 #[.val (.long xa), .second, .val (.long xb), .second, .val (.long xc), .second, .val (.int xn), .val (.int xx), .val (.int (Int32.ofNat N)), .unset, .unset, .unset, .unset, .unset, .unset, .unset, .unset, .unset, .unset, .unset, .unset, .unset, .unset, .unset, .unset, .unset, .unset, .unset, .unset, .unset, .unset, .unset, .unset, .unset, .unset, .unset, .unset, .unset, .unset, .unset, .unset, .unset, .unset, .unset] [(.long xa)])) (fun _ k => XS.lloadN X0.here hx rfl (hb hby at_12) rfl k) ?_
  refine own_go (T' := s₁) (g' := (mkF m 14 #[.val (.long xa), .second, .val (.long xb), .second, .val (.long xc), .second, .val (.int xn), .val (.int xx), .val (.int (Int32.ofNat N)), .unset, .unset, .unset, .unset, .unset, .unset, .unset, .unset, .unset, .unset, .unset, .unset, .unset, .unset, .unset, .unset, .unset, .unset, .unset, .unset, .unset, .unset, .unset, .unset, .unset, .unset, .unset, .unset, .unset, .unset, .unset, .unset, .unset, .unset, .unset] [(.int (0 : Int32)), (.long xa)])) (fun _ k => XS.iconst X0.here hx rfl (hb hby at_13) k) ?_
  obtain ⟨_, _, ⟨T264, L264, k264, n264⟩, -, X264, ⟨Lc264, hQ264, l264, y264, z264⟩, st264⟩ := Jvm.LawKit.callS X0 hx (y := (⟨"com/example/benchlight/benchlight/BoundsSubscriptsPinLaw", "lowerOf", "(JI)I"⟩ : MethodName)) hown (mvT hZ (hw _ (List.mem_of_getElem? (i := 1) rfl))) (mvT hZ (hw _ (List.mem_of_getElem? (i := 2) rfl))) (mvT hZ (hw _ (List.mem_of_getElem? (i := 3) rfl))) (mvT hZ (hw _ (List.mem_of_getElem? (i := 4) rfl))) (by decide) (backOf (W := 0) (own_rLo l Z a0 hw [] xa (0 : Int32) lo0 h0 n0 Z0 hlo0) hZ (hw _ (List.mem_of_getElem? (i := 4) rfl)) (hw _ (List.mem_of_getElem? (i := 3) rfl)) (by decide) (by decide)) (g := (mkF m 14 #[.val (.long xa), .second, .val (.long xb), .second, .val (.long xc), .second, .val (.int xn), .val (.int xx), .val (.int (Int32.ofNat N)), .unset, .unset, .unset, .unset, .unset, .unset, .unset, .unset, .unset, .unset, .unset, .unset, .unset, .unset, .unset, .unset, .unset, .unset, .unset, .unset, .unset, .unset, .unset, .unset, .unset, .unset, .unset, .unset, .unset, .unset, .unset, .unset, .unset, .unset, .unset] [(.int (0 : Int32)), (.long xa)])) rfl (by rw [hml]; rfl) (argsL := [(.long xa), (.int (0 : Int32))]) (rest := []) (lenOf own_pd0 rfl) rfl (by show 2 * 0 + _ ≤ _; exact Nat.le_of_eq rfl) (hb hby at_14) (fun _ _ => ⟨rfl, e0, (by decide : 0 + 0 ≤ _), (by decide : 0 + 0 ≤ _)⟩)
  dsimp only [Pt.U, Pt.locs, Pt.cells, Pt.slots] at X264 l264 y264 z264 st264 hQ264
  subst l264 y264 z264
  obtain ⟨rfl, N264q, e264⟩ := hQ264
  have N264 := Fr.app N0 N264q
  refine own_go (T' := T264) (g' := (mkF m 17 #[.val (.long xa), .second, .val (.long xb), .second, .val (.long xc), .second, .val (.int xn), .val (.int xx), .val (.int (Int32.ofNat N)), .unset, .unset, .unset, .unset, .unset, .unset, .unset, .unset, .unset, .unset, .unset, .unset, .unset, .unset, .unset, .unset, .unset, .unset, .unset, .unset, .unset, .unset, .unset, .unset, .unset, .unset, .unset, .unset, .unset, .unset, .unset, .unset, .unset, .unset, .unset] [(.int lo0)])) (fun _ k => st264 _ k) ?_
  refine own_go (T' := T264) (g' := (mkF m 19 #[.val (.long xa), .second, .val (.long xb), .second, .val (.long xc), .second, .val (.int xn), .val (.int xx), .val (.int (Int32.ofNat N)), .val (.int lo0), .unset, .unset, .unset, .unset, .unset, .unset, .unset, .unset, .unset, .unset, .unset, .unset, .unset, .unset, .unset, .unset, .unset, .unset, .unset, .unset, .unset, .unset, .unset, .unset, .unset, .unset, .unset, .unset, .unset, .unset, .unset, .unset, .unset, .unset] [])) (fun _ k => XS.istore X264.here hx rfl (hb hby at_17) rfl (l' := #[.val (.long xa), .second, .val (.long xb), .second, .val (.long xc), .second, .val (.int xn), .val (.int xx), .val (.int (Int32.ofNat N)), .val (.int lo0), .unset, .unset, .unset, .unset, .unset, .unset, .unset, .unset, .unset, .unset, .unset, .unset, .unset, .unset, .unset, .unset, .unset, .unset, .unset, .unset, .unset, .unset, .unset, .unset, .unset, .unset, .unset, .unset, .unset, .unset, .unset, .unset, .unset, .unset]) rfl k) ?_
  refine own_go (T' := T264) (g' := (mkF m 20 #[.val (.long xa), .second, .val (.long xb), .second, .val (.long xc), .second, .val (.int xn), .val (.int xx), .val (.int (Int32.ofNat N)), .val (.int lo0), .unset, .unset, .unset, .unset, .unset, .unset, .unset, .unset, .unset, .unset, .unset, .unset, .unset, .unset, .unset, .unset, .unset, .unset, .unset, .unset, .unset, .unset, .unset, .unset, .unset, .unset, .unset, .unset, .unset, .unset, .unset, .unset, .unset, .unset] [(.long xa)])) (fun _ k => XS.lloadN X264.here hx rfl (hb hby at_19) rfl k) ?_
  refine own_go (T' := T264) (g' := (mkF m 21 #[.val (.long xa), .second, .val (.long xb), .second, .val (.long xc), .second, .val (.int xn), .val (.int xx), .val (.int (Int32.ofNat N)), .val (.int lo0), .unset, .unset, .unset, .unset, .unset, .unset, .unset, .unset, .unset, .unset, .unset, .unset, .unset, .unset, .unset, .unset, .unset, .unset, .unset, .unset, .unset, .unset, .unset, .unset, .unset, .unset, .unset, .unset, .unset, .unset, .unset, .unset, .unset, .unset] [(.int (0 : Int32)), (.long xa)])) (fun _ k => XS.iconst X264.here hx rfl (hb hby at_20) k) ?_
  obtain ⟨_, _, ⟨T265, L265, k265, n265⟩, -, X265, ⟨Lc265, hQ265, l265, y265, z265⟩, st265⟩ := Jvm.LawKit.callS X264 hx (y := (⟨"com/example/benchlight/benchlight/BoundsSubscriptsPinLaw", "lengthOf", "(JI)I"⟩ : MethodName)) hown (mvT hZ (hw _ (List.mem_of_getElem? (i := 5) rfl))) (mvT hZ (hw _ (List.mem_of_getElem? (i := 6) rfl))) (mvT hZ (hw _ (List.mem_of_getElem? (i := 3) rfl))) (mvT hZ (hw _ (List.mem_of_getElem? (i := 7) rfl))) (by decide) (backOf (W := 0) (own_rLe l Z a0 hw [] xa (0 : Int32) ln0 h0 n0 Z0 hln0) hZ (hw _ (List.mem_of_getElem? (i := 7) rfl)) (hw _ (List.mem_of_getElem? (i := 3) rfl)) (by decide) (by decide)) (g := (mkF m 21 #[.val (.long xa), .second, .val (.long xb), .second, .val (.long xc), .second, .val (.int xn), .val (.int xx), .val (.int (Int32.ofNat N)), .val (.int lo0), .unset, .unset, .unset, .unset, .unset, .unset, .unset, .unset, .unset, .unset, .unset, .unset, .unset, .unset, .unset, .unset, .unset, .unset, .unset, .unset, .unset, .unset, .unset, .unset, .unset, .unset, .unset, .unset, .unset, .unset, .unset, .unset, .unset, .unset] [(.int (0 : Int32)), (.long xa)])) rfl (by rw [hml]; rfl) (argsL := [(.long xa), (.int (0 : Int32))]) (rest := []) (lenOf own_pd0 rfl) rfl (by show 2 * 0 + _ ≤ _; exact Nat.le_of_eq rfl) (hb hby at_21) (fun _ _ => ⟨rfl, e264, (by decide : 0 + 0 ≤ _), (by decide : 0 + 0 ≤ _)⟩)
  dsimp only [Pt.U, Pt.locs, Pt.cells, Pt.slots] at X265 l265 y265 z265 st265 hQ265
  subst l265 y265 z265
  obtain ⟨rfl, N265q, e265⟩ := hQ265
  have N265 := Fr.app N264 N265q
  refine own_go (T' := T265) (g' := (mkF m 24 #[.val (.long xa), .second, .val (.long xb), .second, .val (.long xc), .second, .val (.int xn), .val (.int xx), .val (.int (Int32.ofNat N)), .val (.int lo0), .unset, .unset, .unset, .unset, .unset, .unset, .unset, .unset, .unset, .unset, .unset, .unset, .unset, .unset, .unset, .unset, .unset, .unset, .unset, .unset, .unset, .unset, .unset, .unset, .unset, .unset, .unset, .unset, .unset, .unset, .unset, .unset, .unset, .unset] [(.int ln0)])) (fun _ k => st265 _ k) ?_
  refine own_go (T' := T265) (g' := (mkF m 26 #[.val (.long xa), .second, .val (.long xb), .second, .val (.long xc), .second, .val (.int xn), .val (.int xx), .val (.int (Int32.ofNat N)), .val (.int lo0), .val (.int ln0), .unset, .unset, .unset, .unset, .unset, .unset, .unset, .unset, .unset, .unset, .unset, .unset, .unset, .unset, .unset, .unset, .unset, .unset, .unset, .unset, .unset, .unset, .unset, .unset, .unset, .unset, .unset, .unset, .unset, .unset, .unset, .unset, .unset] [])) (fun _ k => XS.istore X265.here hx rfl (hb hby at_24) rfl (l' := #[.val (.long xa), .second, .val (.long xb), .second, .val (.long xc), .second, .val (.int xn), .val (.int xx), .val (.int (Int32.ofNat N)), .val (.int lo0), .val (.int ln0), .unset, .unset, .unset, .unset, .unset, .unset, .unset, .unset, .unset, .unset, .unset, .unset, .unset, .unset, .unset, .unset, .unset, .unset, .unset, .unset, .unset, .unset, .unset, .unset, .unset, .unset, .unset, .unset, .unset, .unset, .unset, .unset, .unset]) rfl k) ?_
  refine own_go (T' := T265) (g' := (mkF m 27 #[.val (.long xa), .second, .val (.long xb), .second, .val (.long xc), .second, .val (.int xn), .val (.int xx), .val (.int (Int32.ofNat N)), .val (.int lo0), .val (.int ln0), .unset, .unset, .unset, .unset, .unset, .unset, .unset, .unset, .unset, .unset, .unset, .unset, .unset, .unset, .unset, .unset, .unset, .unset, .unset, .unset, .unset, .unset, .unset, .unset, .unset, .unset, .unset, .unset, .unset, .unset, .unset, .unset, .unset] [(.long xa)])) (fun _ k => XS.lloadN X265.here hx rfl (hb hby at_26) rfl k) ?_
  refine own_go (T' := T265) (g' := (mkF m 29 #[.val (.long xa), .second, .val (.long xb), .second, .val (.long xc), .second, .val (.int xn), .val (.int xx), .val (.int (Int32.ofNat N)), .val (.int lo0), .val (.int ln0), .unset, .unset, .unset, .unset, .unset, .unset, .unset, .unset, .unset, .unset, .unset, .unset, .unset, .unset, .unset, .unset, .unset, .unset, .unset, .unset, .unset, .unset, .unset, .unset, .unset, .unset, .unset, .unset, .unset, .unset, .unset, .unset, .unset] [(.int (32 : Int32)), (.long xa)])) (fun _ k => XS.bipush X265.here hx rfl (hb hby at_27) k) ?_
  obtain ⟨_, _, ⟨T266, L266, k266, n266⟩, -, X266, ⟨Lc266, hQ266, l266, y266, z266⟩, st266⟩ := Jvm.LawKit.callS X265 hx (y := (⟨"com/example/benchlight/benchlight/BoundsSubscriptsPinLaw", "lowerOf", "(JI)I"⟩ : MethodName)) hown (mvT hZ (hw _ (List.mem_of_getElem? (i := 1) rfl))) (mvT hZ (hw _ (List.mem_of_getElem? (i := 2) rfl))) (mvT hZ (hw _ (List.mem_of_getElem? (i := 3) rfl))) (mvT hZ (hw _ (List.mem_of_getElem? (i := 4) rfl))) (by decide) (backOf (W := 0) (own_rLo l Z a0 hw [] xa (32 : Int32) lo1 h0 n0 Z0 hlo1) hZ (hw _ (List.mem_of_getElem? (i := 4) rfl)) (hw _ (List.mem_of_getElem? (i := 3) rfl)) (by decide) (by decide)) (g := (mkF m 29 #[.val (.long xa), .second, .val (.long xb), .second, .val (.long xc), .second, .val (.int xn), .val (.int xx), .val (.int (Int32.ofNat N)), .val (.int lo0), .val (.int ln0), .unset, .unset, .unset, .unset, .unset, .unset, .unset, .unset, .unset, .unset, .unset, .unset, .unset, .unset, .unset, .unset, .unset, .unset, .unset, .unset, .unset, .unset, .unset, .unset, .unset, .unset, .unset, .unset, .unset, .unset, .unset, .unset, .unset] [(.int (32 : Int32)), (.long xa)])) rfl (by rw [hml]; rfl) (argsL := [(.long xa), (.int (32 : Int32))]) (rest := []) (lenOf own_pd0 rfl) rfl (by show 2 * 0 + _ ≤ _; exact Nat.le_of_eq rfl) (hb hby at_29) (fun _ _ => ⟨rfl, e265, (by decide : 0 + 0 ≤ _), (by decide : 0 + 0 ≤ _)⟩)
  dsimp only [Pt.U, Pt.locs, Pt.cells, Pt.slots] at X266 l266 y266 z266 st266 hQ266
  subst l266 y266 z266
  obtain ⟨rfl, N266q, e266⟩ := hQ266
  have N266 := Fr.app N265 N266q
  refine own_go (T' := T266) (g' := (mkF m 32 #[.val (.long xa), .second, .val (.long xb), .second, .val (.long xc), .second, .val (.int xn), .val (.int xx), .val (.int (Int32.ofNat N)), .val (.int lo0), .val (.int ln0), .unset, .unset, .unset, .unset, .unset, .unset, .unset, .unset, .unset, .unset, .unset, .unset, .unset, .unset, .unset, .unset, .unset, .unset, .unset, .unset, .unset, .unset, .unset, .unset, .unset, .unset, .unset, .unset, .unset, .unset, .unset, .unset, .unset] [(.int lo1)])) (fun _ k => st266 _ k) ?_
  refine own_go (T' := T266) (g' := (mkF m 34 #[.val (.long xa), .second, .val (.long xb), .second, .val (.long xc), .second, .val (.int xn), .val (.int xx), .val (.int (Int32.ofNat N)), .val (.int lo0), .val (.int ln0), .val (.int lo1), .unset, .unset, .unset, .unset, .unset, .unset, .unset, .unset, .unset, .unset, .unset, .unset, .unset, .unset, .unset, .unset, .unset, .unset, .unset, .unset, .unset, .unset, .unset, .unset, .unset, .unset, .unset, .unset, .unset, .unset, .unset, .unset] [])) (fun _ k => XS.istore X266.here hx rfl (hb hby at_32) rfl (l' := #[.val (.long xa), .second, .val (.long xb), .second, .val (.long xc), .second, .val (.int xn), .val (.int xx), .val (.int (Int32.ofNat N)), .val (.int lo0), .val (.int ln0), .val (.int lo1), .unset, .unset, .unset, .unset, .unset, .unset, .unset, .unset, .unset, .unset, .unset, .unset, .unset, .unset, .unset, .unset, .unset, .unset, .unset, .unset, .unset, .unset, .unset, .unset, .unset, .unset, .unset, .unset, .unset, .unset, .unset, .unset]) rfl k) ?_
  refine own_go (T' := T266) (g' := (mkF m 36 #[.val (.long xa), .second, .val (.long xb), .second, .val (.long xc), .second, .val (.int xn), .val (.int xx), .val (.int (Int32.ofNat N)), .val (.int lo0), .val (.int ln0), .val (.int lo1), .unset, .unset, .unset, .unset, .unset, .unset, .unset, .unset, .unset, .unset, .unset, .unset, .unset, .unset, .unset, .unset, .unset, .unset, .unset, .unset, .unset, .unset, .unset, .unset, .unset, .unset, .unset, .unset, .unset, .unset, .unset, .unset] [(.int (Int32.ofNat N))])) (fun _ k => XS.iload X266.here hx rfl (hb hby at_34) rfl k) ?_
  refine own_go (T' := T266) (g' := (mkF m 37 #[.val (.long xa), .second, .val (.long xb), .second, .val (.long xc), .second, .val (.int xn), .val (.int xx), .val (.int (Int32.ofNat N)), .val (.int lo0), .val (.int ln0), .val (.int lo1), .unset, .unset, .unset, .unset, .unset, .unset, .unset, .unset, .unset, .unset, .unset, .unset, .unset, .unset, .unset, .unset, .unset, .unset, .unset, .unset, .unset, .unset, .unset, .unset, .unset, .unset, .unset, .unset, .unset, .unset, .unset, .unset] [(.int (1 : Int32)), (.int (Int32.ofNat N))])) (fun _ k => XS.iconst X266.here hx rfl (hb hby at_36) k) ?_
  by_cases hc37 : (1 : Int32) < (Int32.ofNat N)
  · refine own_go (T' := T266) (g' := (mkF m 40 #[.val (.long xa), .second, .val (.long xb), .second, .val (.long xc), .second, .val (.int xn), .val (.int xx), .val (.int (Int32.ofNat N)), .val (.int lo0), .val (.int ln0), .val (.int lo1), .unset, .unset, .unset, .unset, .unset, .unset, .unset, .unset, .unset, .unset, .unset, .unset, .unset, .unset, .unset, .unset, .unset, .unset, .unset, .unset, .unset, .unset, .unset, .unset, .unset, .unset, .unset, .unset, .unset, .unset, .unset, .unset] [])) (fun _ k => XS.icmpNo X266.here hx rfl (hb hby at_37) rfl (tlt (hc37 : (1 : Int32) < (Int32.ofNat N))).2.2.2 k) ?_
    refine own_go (T' := T266) (g' := (mkF m 41 #[.val (.long xa), .second, .val (.long xb), .second, .val (.long xc), .second, .val (.int xn), .val (.int xx), .val (.int (Int32.ofNat N)), .val (.int lo0), .val (.int ln0), .val (.int lo1), .unset, .unset, .unset, .unset, .unset, .unset, .unset, .unset, .unset, .unset, .unset, .unset, .unset, .unset, .unset, .unset, .unset, .unset, .unset, .unset, .unset, .unset, .unset, .unset, .unset, .unset, .unset, .unset, .unset, .unset, .unset, .unset] [(.long xa)])) (fun _ k => XS.lloadN X266.here hx rfl (hb hby at_40) rfl k) ?_
    refine own_go (T' := T266) (g' := (mkF m 43 #[.val (.long xa), .second, .val (.long xb), .second, .val (.long xc), .second, .val (.int xn), .val (.int xx), .val (.int (Int32.ofNat N)), .val (.int lo0), .val (.int ln0), .val (.int lo1), .unset, .unset, .unset, .unset, .unset, .unset, .unset, .unset, .unset, .unset, .unset, .unset, .unset, .unset, .unset, .unset, .unset, .unset, .unset, .unset, .unset, .unset, .unset, .unset, .unset, .unset, .unset, .unset, .unset, .unset, .unset, .unset] [(.int (32 : Int32)), (.long xa)])) (fun _ k => XS.bipush X266.here hx rfl (hb hby at_41) k) ?_
    obtain ⟨_, _, ⟨T267, L267, k267, n267⟩, -, X267, ⟨Lc267, hQ267, l267, y267, z267⟩, st267⟩ := Jvm.LawKit.callS X266 hx (y := (⟨"com/example/benchlight/benchlight/BoundsSubscriptsPinLaw", "lengthOf", "(JI)I"⟩ : MethodName)) hown (mvT hZ (hw _ (List.mem_of_getElem? (i := 5) rfl))) (mvT hZ (hw _ (List.mem_of_getElem? (i := 6) rfl))) (mvT hZ (hw _ (List.mem_of_getElem? (i := 3) rfl))) (mvT hZ (hw _ (List.mem_of_getElem? (i := 7) rfl))) (by decide) (backOf (W := 0) (own_rLe l Z a0 hw [] xa (32 : Int32) ln1 h0 n0 Z0 ((if_pos hc37).symm.trans hln1)) hZ (hw _ (List.mem_of_getElem? (i := 7) rfl)) (hw _ (List.mem_of_getElem? (i := 3) rfl)) (by decide) (by decide)) (g := (mkF m 43 #[.val (.long xa), .second, .val (.long xb), .second, .val (.long xc), .second, .val (.int xn), .val (.int xx), .val (.int (Int32.ofNat N)), .val (.int lo0), .val (.int ln0), .val (.int lo1), .unset, .unset, .unset, .unset, .unset, .unset, .unset, .unset, .unset, .unset, .unset, .unset, .unset, .unset, .unset, .unset, .unset, .unset, .unset, .unset, .unset, .unset, .unset, .unset, .unset, .unset, .unset, .unset, .unset, .unset, .unset, .unset] [(.int (32 : Int32)), (.long xa)])) rfl (by rw [hml]; rfl) (argsL := [(.long xa), (.int (32 : Int32))]) (rest := []) (lenOf own_pd0 rfl) rfl (by show 2 * 0 + _ ≤ _; exact Nat.le_of_eq rfl) (hb hby at_43) (fun _ _ => ⟨rfl, e266, (by decide : 0 + 0 ≤ _), (by decide : 0 + 0 ≤ _)⟩)
    dsimp only [Pt.U, Pt.locs, Pt.cells, Pt.slots] at X267 l267 y267 z267 st267 hQ267
    subst l267 y267 z267
    obtain ⟨rfl, N267q, e267⟩ := hQ267
    have N267 := Fr.app N266 N267q
    refine own_go (T' := T267) (g' := (mkF m 46 #[.val (.long xa), .second, .val (.long xb), .second, .val (.long xc), .second, .val (.int xn), .val (.int xx), .val (.int (Int32.ofNat N)), .val (.int lo0), .val (.int ln0), .val (.int lo1), .unset, .unset, .unset, .unset, .unset, .unset, .unset, .unset, .unset, .unset, .unset, .unset, .unset, .unset, .unset, .unset, .unset, .unset, .unset, .unset, .unset, .unset, .unset, .unset, .unset, .unset, .unset, .unset, .unset, .unset, .unset, .unset] [(.int ln1)])) (fun _ k => st267 _ k) ?_
    refine own_go (T' := T267) (g' := (mkF m 50 #[.val (.long xa), .second, .val (.long xb), .second, .val (.long xc), .second, .val (.int xn), .val (.int xx), .val (.int (Int32.ofNat N)), .val (.int lo0), .val (.int ln0), .val (.int lo1), .unset, .unset, .unset, .unset, .unset, .unset, .unset, .unset, .unset, .unset, .unset, .unset, .unset, .unset, .unset, .unset, .unset, .unset, .unset, .unset, .unset, .unset, .unset, .unset, .unset, .unset, .unset, .unset, .unset, .unset, .unset, .unset] [(.int ln1)])) (fun _ k => XS.goto X267.here hx rfl (pc0 := 46) (pc' := 50) rfl (hb hby at_46) (by decide) (by decide) k) ?_
    refine own_go (T' := T267) (g' := (mkF m 52 #[.val (.long xa), .second, .val (.long xb), .second, .val (.long xc), .second, .val (.int xn), .val (.int xx), .val (.int (Int32.ofNat N)), .val (.int lo0), .val (.int ln0), .val (.int lo1), .val (.int ln1), .unset, .unset, .unset, .unset, .unset, .unset, .unset, .unset, .unset, .unset, .unset, .unset, .unset, .unset, .unset, .unset, .unset, .unset, .unset, .unset, .unset, .unset, .unset, .unset, .unset, .unset, .unset, .unset, .unset, .unset, .unset] [])) (fun _ k => XS.istore X267.here hx rfl (hb hby at_50) rfl (l' := #[.val (.long xa), .second, .val (.long xb), .second, .val (.long xc), .second, .val (.int xn), .val (.int xx), .val (.int (Int32.ofNat N)), .val (.int lo0), .val (.int ln0), .val (.int lo1), .val (.int ln1), .unset, .unset, .unset, .unset, .unset, .unset, .unset, .unset, .unset, .unset, .unset, .unset, .unset, .unset, .unset, .unset, .unset, .unset, .unset, .unset, .unset, .unset, .unset, .unset, .unset, .unset, .unset, .unset, .unset, .unset, .unset]) rfl k) ?_
    exact tail52 ln1 T267 _ X267 e267 N267 rfl
  · refine own_go (T' := T266) (g' := (mkF m 49 #[.val (.long xa), .second, .val (.long xb), .second, .val (.long xc), .second, .val (.int xn), .val (.int xx), .val (.int (Int32.ofNat N)), .val (.int lo0), .val (.int ln0), .val (.int lo1), .unset, .unset, .unset, .unset, .unset, .unset, .unset, .unset, .unset, .unset, .unset, .unset, .unset, .unset, .unset, .unset, .unset, .unset, .unset, .unset, .unset, .unset, .unset, .unset, .unset, .unset, .unset, .unset, .unset, .unset, .unset, .unset] [])) (fun _ k => XS.icmpYes X266.here hx rfl (pc0 := 37) (pc' := 49) rfl (hb hby at_37) rfl (flt (hc37 : ¬ ((1 : Int32) < (Int32.ofNat N)))).2.2.2 (by decide) (by decide) k) ?_
    refine own_go (T' := T266) (g' := (mkF m 50 #[.val (.long xa), .second, .val (.long xb), .second, .val (.long xc), .second, .val (.int xn), .val (.int xx), .val (.int (Int32.ofNat N)), .val (.int lo0), .val (.int ln0), .val (.int lo1), .unset, .unset, .unset, .unset, .unset, .unset, .unset, .unset, .unset, .unset, .unset, .unset, .unset, .unset, .unset, .unset, .unset, .unset, .unset, .unset, .unset, .unset, .unset, .unset, .unset, .unset, .unset, .unset, .unset, .unset, .unset, .unset] [(.int (1 : Int32))])) (fun _ k => XS.iconst X266.here hx rfl (hb hby at_49) k) ?_
    refine own_go (T' := T266) (g' := (mkF m 52 #[.val (.long xa), .second, .val (.long xb), .second, .val (.long xc), .second, .val (.int xn), .val (.int xx), .val (.int (Int32.ofNat N)), .val (.int lo0), .val (.int ln0), .val (.int lo1), .val (.int (1 : Int32)), .unset, .unset, .unset, .unset, .unset, .unset, .unset, .unset, .unset, .unset, .unset, .unset, .unset, .unset, .unset, .unset, .unset, .unset, .unset, .unset, .unset, .unset, .unset, .unset, .unset, .unset, .unset, .unset, .unset, .unset, .unset] [])) (fun _ k => XS.istore X266.here hx rfl (hb hby at_50) rfl (l' := #[.val (.long xa), .second, .val (.long xb), .second, .val (.long xc), .second, .val (.int xn), .val (.int xx), .val (.int (Int32.ofNat N)), .val (.int lo0), .val (.int ln0), .val (.int lo1), .val (.int (1 : Int32)), .unset, .unset, .unset, .unset, .unset, .unset, .unset, .unset, .unset, .unset, .unset, .unset, .unset, .unset, .unset, .unset, .unset, .unset, .unset, .unset, .unset, .unset, .unset, .unset, .unset, .unset, .unset, .unset, .unset, .unset, .unset]) rfl k) ?_
    exact tail52 (1 : Int32) T266 _ X266 e266 N266 (hln1.symm.trans (if_neg hc37))
set_option maxRecDepth 65536 in
set_option maxHeartbeats 40000000 in
theorem own_comes {Post : Tables → Env → Array Value → State → Outcome → State → Prop} (hpost : ∀ tb e args s v u, (limb_1_1.after args s (.returned v) u = true ∧ limb_1_2.after args s (.returned v) u = true ∧ True) → FrameEnd s (.returned v) u (Jvm.fieldLocs frame_1_writes args s ++ Jvm.arrayLocs frame_1_arrays args s ++ Jvm.staticLocs frame_1_statics s) 32 192 → Post tb e args s (.returned v) u) :
    ArmFor flags0 classFile x code maxLocals ret World_1 tables_1 room_1 Calls_1 rest_1 Pre_1 Post := by
  intro l hfl _ _ p e ha hc hk s m args below hf hA hF happ hP
  obtain ⟨hcalls, hrest, hpre⟩ := hP
  obtain ⟨-, -, -, hnamed, -, -, -, hat⟩ := (Spec.applies_iff hf).mp happ
  obtain ⟨hg, hn⟩ := and_e (Cond.before_iff.mp (show (Jvm.Cond.and given_1 narrow_1).before args s = true from hpre))
  obtain ⟨gc, g0⟩ := and_e hg
  obtain ⟨ga0, g1⟩ := and_e g0
  obtain ⟨ga1, g2⟩ := and_e g1
  obtain ⟨ga2, g3⟩ := and_e g2
  obtain ⟨ga3, g4⟩ := and_e g3
  obtain ⟨w0, w1, w2, w3, w4, rfl⟩ : ∃ w0 w1 w2 w3 w4 : Value, args = #[w0, w1, w2, w3, w4] := by
    have hs : args.size = 5 := by simpa [Cond.value, given_1] using gc
    obtain ⟨L⟩ := args
    match L, hs with
    | [w0, w1, w2, w3, w4], _ => exact ⟨w0, w1, w2, w3, w4, rfl⟩
  have hw := fun d (hd : d ∈ tables_1) => atoms_spec (ws := Jvm.Cond.code x code maxLocals ret :: tables_1) hat d (List.mem_cons_of_mem _ hd)
  have hfit : Fit s := fun {y c} hc i hi => by
    obtain ⟨ha, rfl⟩ := Array.getElem?_eq_some_iff.mp hc
    have q := List.all_eq_true.mp ((Array.all_eq_true_iff_forall_mem.mp hF) _ (Array.getElem_mem ha)) i (List.mem_range.mpr hi)
    simpa [Array.getElem?_eq_getElem hi] using q
  obtain ⟨i0, ei0⟩ := isL_v ga0
  obtain rfl : w0 = (.long i0) := Option.some.inj ei0
  obtain ⟨i1, ei1⟩ := isL_v ga1
  obtain rfl : w1 = (.long i1) := Option.some.inj ei1
  obtain ⟨i2, ei2⟩ := isL_v ga2
  obtain rfl : w2 = (.long i2) := Option.some.inj ei2
  obtain ⟨i3, ei3⟩ := is_v ga3
  obtain rfl : w3 = (.int i3) := Option.some.inj ei3
  obtain ⟨i4, ei4⟩ := is_v g4
  obtain rfl : w4 = (.int i4) := Option.some.inj ei4
  have hrest' : (jdkStatics_1.foldr Jvm.Cond.and restOwn_1).before #[Value.long i0, Value.long i1, Value.long i2, Value.int i3, Value.int i4] s = true := by rw [← rest_1_c_eq]; exact hrest
  obtain ⟨hsets, -⟩ := atoms_of jdkStatics_1 hrest'
  obtain ⟨xd, exd⟩ := arr_v (Cond.before_iff.mp (hsets _ (List.mem_of_getElem? (i := 6) rfl)))
  have Sd : Sta s s.heap "java/util/ArrayList" "DEFAULTCAPACITY_EMPTY_ELEMENTDATA" "[Ljava/lang/Object;" (.ref xd) := Sta.start exd (Or.inr ⟨(hw _ (List.mem_of_getElem? (i := 12) rfl)), (hsets _ (List.mem_of_getElem? (i := 2) rfl))⟩)
  obtain ⟨cld, Ard⟩ := Arr.start exd (Cond.before_iff.mp (hsets _ (List.mem_of_getElem? (i := 6) rfl)))
  have Ld := own_len (n := 0) exd (own_eqi (Cond.before_iff.mp (hsets _ (List.mem_of_getElem? (i := 8) rfl)))) Ard rfl
  obtain ⟨kd, Ad⟩ : ∃ k, own_A s s.heap xd k (.object "java/lang/Object") [] := ⟨_, own_A.of Ard Ld trivial⟩
  obtain ⟨n, o, h1, h2, h3, _, L, rfl, ⟨rfl, N⟩, hq⟩ := own_rL l s _ hw tables_1 i0 i1 i2 i3 i4 xd kd s.heap s.heap.size (Nat.le_refl _) Sd Ad p e ha hc hk s m _ below hf ((Spec.applies_iff_loose hf).mp happ).1 ⟨rfl, State.Warmed39.refl s, rfl⟩ trivial
  refine ⟨n, _, h1, h2, h3, hpost _ _ _ _ _ _ ⟨Cond.after_iff.mpr rfl, Cond.after_iff.mpr (eq_i res_at (Term.int_eval (1)) rfl), trivial⟩ ⟨hq.1, hq.2.1, (hq.2.2.sift fun y hy => Or.inr (N y hy)).mono (by decide) (by decide)⟩⟩
theorem main_1_1 : Claimed_1_1 := own_comes fun _ _ _ _ _ _ h hF => ⟨h.1, hF⟩
theorem main_1_2 : Claimed_1_2 := own_comes fun _ _ _ _ _ _ h hF => ⟨h.2.1, hF⟩
end Jvm.Pilot.@@N@@
namespace Jvm.Pilot.@@N@@
open Jvm Jvm.ClassFile Sem Op Lib Jvm.Free Jvm.Stand Jvm.Pilot.@@N@@.Jvm.D
/-! MADE BY PROGRAM (witnessworld.py) out of the Statement's table words and the real class files: 23 classes; the members and pool entries that the words name. The judged class is class 1, her method 5. -/
namespace start1
open Jvm.ClassFile
def u (s : String) : CpInfo := .utf8 (stringToUtf16 s)
/-- a pool by its gaps: so many unusable entries, then the entry; so many at the end -/
def gap : Nat → List CpInfo → List CpInfo
  | 0, r => r
  | n + 1, r => .unusable :: gap n r
def poolList (es : List (Nat × CpInfo)) (last : Nat) : List CpInfo := es.foldr (fun e r => gap e.1 (e.2 :: r)) (gap last [])
def pool (es : List (Nat × CpInfo)) (last : Nat) : Array CpInfo := ⟨poolList es last⟩
def fileOf (pool : Array CpInfo) (this : Nat) (attrs : Array Attribute := #[]) (ms : Array MethodInfo := #[]) (fl : Nat := 33) (sup : Nat := 0) (ifs : Array Nat := #[]) (fds : Array FieldInfo := #[]) : ClassFile where
  minorVersion := 0
  majorVersion := 65
  constantPool := pool
  accessFlags := fl
  thisClass := this
  superClass := sup
  interfaces := ifs
  fields := fds
  methods := ms
  attributes := attrs
def plain (name : String) (sup : Option ClassId) : Class where
  name := name
  kind := .ordinary
  loader := none
  accessFlags := 33
  super := sup
  interfaces := #[]
  cf := none
  fields := #[]
  methods := #[]
  instanceTypes := #[]
  staticTypes := #[]
  resolved := #[]
  callSites := []
  init := .initialized
  statics := none
  mirror := none

def pool0 : Array CpInfo := pool [(5, u "<init>"), (0, u "()V"), (1, .class_ 10), (1, u "java/lang/Object")] 113

def k0c0 : Code := { maxStack := 0, maxLocals := 1, code := object_method_1_code, exceptionTable := #[], attributes := #[] }
def k0m0 : Method := { name := "<init>", desc := "()V", sig := { parameters := [], returnType := none }, accessFlags := 1, code := some k0c0 }
/-- java/lang/Object -/
def k0 : Class := { plain "java/lang/Object" none with
  accessFlags := 33
  interfaces := #[]
  cf := some (fileOf pool0 8 #[] #[{ accessFlags := 1, nameIndex := 5, descriptorIndex := 6, attributes := #[] }] 33 0 #[] #[])
  fields := #[]
  methods := #[k0m0]
  instanceTypes := #[]
  staticTypes := #[]
  resolved := Array.replicate 124 none
  statics := none }

def pool1 : Array CpInfo := pool [(2, .class_ 4), (0, .nameAndType 5 6), (0, u "java/lang/Object"), (0, u "<init>"), (0, u "()V"), (0, .methodref 8 9), (0, .class_ 10), (0, .nameAndType 11 12), (0, u "com/example/benchlight/benchlight/BoundsSubscriptsPinLaw"), (0, u "lowerOf"), (0, u "(JI)I"), (0, .long 65535), (1, .integer 32768), (0, .methodref 17 18), (0, .class_ 19), (0, .nameAndType 20 21), (0, u "java/lang/Math"), (0, u "min"), (0, u "(JJ)J"), (0, .integer 2147483647), (0, .methodref 8 24), (0, .nameAndType 25 12), (0, u "lengthOf"), (0, .class_ 27), (0, u "java/util/ArrayList"), (0, .methodref 26 3), (0, .class_ 30), (0, u "com/example/benchlight/benchlight/Bounds$Dimension"), (0, .methodref 29 32), (0, .nameAndType 5 33), (0, u "(II)V"), (0, .methodref 26 35), (0, .nameAndType 36 37), (0, u "add"), (0, u "(Ljava/lang/Object;)Z"), (0, .long 2147483648), (1, .methodref 8 41), (0, .nameAndType 42 43), (0, u "mulCap"), (0, u "(JIJ)J"), (0, .long 2147483647), (1, .class_ 47), (0, u "com/example/benchlight/benchlight/Bounds"), (0, .methodref 46 49), (0, .nameAndType 5 50), (0, u "(Ljava/util/List;)V"), (0, .methodref 46 52), (0, .nameAndType 53 54), (0, u "subscripts"), (0, u "(I)[D"), (0, .long 4294967296), (1, .methodref 8 58), (0, .nameAndType 59 60), (0, u "digit"), (0, u "([DIIIIJJ)Z"), (3, u "law"), (0, u "(JJJII)Z")] 6

def k1m0 : Method := { name := "<init>", desc := "()V", sig := { parameters := [], returnType := none }, accessFlags := 1, code := none }
def k1c1 : Code := { maxStack := 3, maxLocals := 3, code := method_2_code, exceptionTable := #[], attributes := #[] }
def k1m1 : Method := { name := "lowerOf", desc := "(JI)I", sig := { parameters := [.long, .int], returnType := some .int }, accessFlags := 10, code := some k1c1 }
def k1c2 : Code := { maxStack := 4, maxLocals := 5, code := method_3_code, exceptionTable := #[], attributes := #[] }
def k1m2 : Method := { name := "lengthOf", desc := "(JI)I", sig := { parameters := [.long, .int], returnType := some .int }, accessFlags := 10, code := some k1c2 }
def k1c3 : Code := { maxStack := 4, maxLocals := 5, code := method_4_code, exceptionTable := #[], attributes := #[] }
def k1m3 : Method := { name := "mulCap", desc := "(JIJ)J", sig := { parameters := [.long, .int, .long], returnType := some .long }, accessFlags := 10, code := some k1c3 }
def k1c4 : Code := { maxStack := 8, maxLocals := 9, code := method_5_code, exceptionTable := #[], attributes := #[] }
def k1m4 : Method := { name := "digit", desc := "([DIIIIJJ)Z", sig := { parameters := [(.array .double), .int, .int, .int, .int, .long, .long], returnType := some .boolean }, accessFlags := 10, code := some k1c4 }
def k1c5 : Code := { maxStack := 9, maxLocals := 44, code := code, exceptionTable := #[], attributes := #[] }
def k1m5 : Method := { name := "law", desc := "(JJJII)Z", sig := { parameters := [.long, .long, .long, .int, .int], returnType := some .boolean }, accessFlags := 9, code := some k1c5 }
/-- com/example/benchlight/benchlight/BoundsSubscriptsPinLaw -/
def k1 : Class := { plain "com/example/benchlight/benchlight/BoundsSubscriptsPinLaw" (some 0) with
  accessFlags := 49
  interfaces := #[]
  cf := some (fileOf pool1 8 #[] #[{ accessFlags := 1, nameIndex := 5, descriptorIndex := 6, attributes := #[] }, { accessFlags := 10, nameIndex := 11, descriptorIndex := 12, attributes := #[] }, { accessFlags := 10, nameIndex := 25, descriptorIndex := 12, attributes := #[] }, { accessFlags := 10, nameIndex := 42, descriptorIndex := 43, attributes := #[] }, { accessFlags := 10, nameIndex := 59, descriptorIndex := 60, attributes := #[] }, { accessFlags := 9, nameIndex := 64, descriptorIndex := 65, attributes := #[] }] 49 2 #[] #[])
  fields := #[]
  methods := #[k1m0, k1m1, k1m2, k1m3, k1m4, k1m5]
  instanceTypes := #[]
  staticTypes := #[]
  resolved := Array.replicate 72 none
  statics := none }

def pool2 : Array CpInfo := pool [(8, .class_ 10), (1, u "java/lang/Iterable"), (24, .class_ 36), (0, u "java/lang/Object")] 25

/-- java/lang/Iterable -/
def k2 : Class := { plain "java/lang/Iterable" (some 0) with
  accessFlags := 1537
  interfaces := #[]
  cf := some (fileOf pool2 8 #[] #[] 1537 35 #[] #[])
  fields := #[]
  methods := #[]
  instanceTypes := #[]
  staticTypes := #[]
  resolved := Array.replicate 62 none
  statics := none }

def pool3 : Array CpInfo := pool [(10, .class_ 12), (1, u "java/util/Collection"), (47, .class_ 61), (0, u "java/lang/Object"), (0, .class_ 63), (0, u "java/lang/Iterable")] 51

/-- java/util/Collection -/
def k3 : Class := { plain "java/util/Collection" (some 0) with
  accessFlags := 1537
  interfaces := #[2]
  cf := some (fileOf pool3 10 #[] #[] 1537 60 #[62] #[])
  fields := #[]
  methods := #[]
  instanceTypes := #[]
  staticTypes := #[]
  resolved := Array.replicate 115 none
  statics := none }

def pool4 : Array CpInfo := pool [(1, .methodref 2 3), (0, .class_ 4), (0, .nameAndType 5 6), (0, u "java/lang/Object"), (0, u "<init>"), (0, u "()V"), (1, .class_ 10), (1, u "java/util/AbstractCollection"), (66, .class_ 78), (0, u "java/util/Collection")] 81

def k4c0 : Code := { maxStack := 1, maxLocals := 1, code := jdk_22_method_1_code, exceptionTable := #[], attributes := #[] }
def k4m0 : Method := { name := "<init>", desc := "()V", sig := { parameters := [], returnType := none }, accessFlags := 4, code := some k4c0 }
/-- java/util/AbstractCollection -/
def k4 : Class := { plain "java/util/AbstractCollection" (some 0) with
  accessFlags := 1057
  interfaces := #[3]
  cf := some (fileOf pool4 8 #[] #[{ accessFlags := 4, nameIndex := 5, descriptorIndex := 6, attributes := #[] }] 1057 2 #[77] #[])
  fields := #[]
  methods := #[k4m0]
  instanceTypes := #[]
  staticTypes := #[]
  resolved := Array.replicate 160 none
  statics := none }

def pool5 : Array CpInfo := pool [(8, .class_ 10), (1, u "java/util/SequencedCollection"), (15, .class_ 27), (0, u "java/lang/Object"), (0, .class_ 29), (0, u "java/util/Collection")] 27

/-- java/util/SequencedCollection -/
def k5 : Class := { plain "java/util/SequencedCollection" (some 0) with
  accessFlags := 1537
  interfaces := #[3]
  cf := some (fileOf pool5 8 #[] #[] 1537 26 #[28] #[])
  fields := #[]
  methods := #[]
  instanceTypes := #[]
  staticTypes := #[]
  resolved := Array.replicate 57 none
  statics := none }

def pool6 : Array CpInfo := pool [(8, .class_ 10), (1, u "java/util/List"), (64, u "get"), (0, u "(I)Ljava/lang/Object;"), (2, u "size"), (0, u "()I"), (22, .class_ 104), (0, u "java/lang/Object"), (15, .class_ 121), (0, u "java/util/SequencedCollection")] 129

def k6m0 : Method := { name := "size", desc := "()I", sig := { parameters := [], returnType := some .int }, accessFlags := 1025, code := none }
def k6m1 : Method := { name := "get", desc := "(I)Ljava/lang/Object;", sig := { parameters := [.int], returnType := some (.object "java/lang/Object") }, accessFlags := 1025, code := none }
/-- java/util/List -/
def k6 : Class := { plain "java/util/List" (some 0) with
  accessFlags := 1537
  interfaces := #[5]
  cf := some (fileOf pool6 8 #[] #[{ accessFlags := 1025, nameIndex := 79, descriptorIndex := 80, attributes := #[] }, { accessFlags := 1025, nameIndex := 75, descriptorIndex := 76, attributes := #[] }] 1537 103 #[120] #[])
  fields := #[]
  methods := #[k6m0, k6m1]
  instanceTypes := #[]
  staticTypes := #[]
  resolved := Array.replicate 251 none
  statics := none }

def pool7 : Array CpInfo := pool [(1, .methodref 2 3), (0, .class_ 4), (0, .nameAndType 5 6), (0, u "java/util/AbstractCollection"), (0, u "<init>"), (0, u "()V"), (0, .fieldref 8 9), (0, .class_ 10), (0, .nameAndType 11 12), (0, u "java/util/AbstractList"), (0, u "modCount"), (0, u "I"), (64, .class_ 78), (0, u "java/util/AbstractList$Itr"), (3, .class_ 83), (0, u "java/util/AbstractList$ListItr"), (9, .class_ 94), (0, u "java/util/AbstractList$RandomAccessSubList"), (3, .class_ 99), (0, u "java/util/AbstractList$SubList"), (33, .class_ 134), (0, u "java/util/List"), (73, .class_ 209), (0, u "java/util/AbstractList$SubList$1"), (0, .class_ 211), (0, u "java/util/AbstractList$RandomAccessSpliterator")] 6

def k7c0 : Code := { maxStack := 2, maxLocals := 1, code := jdk_39_method_1_code, exceptionTable := #[], attributes := #[] }
def k7m0 : Method := { name := "<init>", desc := "()V", sig := { parameters := [], returnType := none }, accessFlags := 4, code := some k7c0 }
/-- java/util/AbstractList -/
def k7 : Class := { plain "java/util/AbstractList" (some 4) with
  accessFlags := 1057
  interfaces := #[6]
  cf := some (fileOf pool7 8 #[.nestMembers #[93, 98, 208, 210, 82, 77]] #[{ accessFlags := 4, nameIndex := 5, descriptorIndex := 6, attributes := #[] }] 1057 2 #[133] #[{ accessFlags := 132, nameIndex := 11, descriptorIndex := 12, attributes := #[] }])
  fields := #[{ name := "modCount", type := .int, accessFlags := 132, slot := 0, constantValue := 0 }]
  methods := #[k7m0]
  instanceTypes := #[.int]
  staticTypes := #[]
  resolved := Array.replicate 218 none
  statics := none }

def pool8 : Array CpInfo := pool [(1, .class_ 2), (0, u "java/util/RandomAccess"), (0, .class_ 4), (0, u "java/lang/Object")] 2

/-- java/util/RandomAccess -/
def k8 : Class := { plain "java/util/RandomAccess" (some 0) with
  accessFlags := 1537
  interfaces := #[]
  cf := some (fileOf pool8 1 #[] #[] 1537 3 #[] #[])
  fields := #[]
  methods := #[]
  instanceTypes := #[]
  staticTypes := #[]
  resolved := Array.replicate 7 none
  statics := none }

def pool9 : Array CpInfo := pool [(1, .class_ 2), (0, u "java/lang/Cloneable"), (0, .class_ 4), (0, u "java/lang/Object")] 2

/-- java/lang/Cloneable -/
def k9 : Class := { plain "java/lang/Cloneable" (some 0) with
  accessFlags := 1537
  interfaces := #[]
  cf := some (fileOf pool9 1 #[] #[] 1537 3 #[] #[])
  fields := #[]
  methods := #[]
  instanceTypes := #[]
  staticTypes := #[]
  resolved := Array.replicate 7 none
  statics := none }

def pool10 : Array CpInfo := pool [(1, .class_ 2), (0, u "java/io/Serializable"), (0, .class_ 4), (0, u "java/lang/Object")] 2

/-- java/io/Serializable -/
def k10 : Class := { plain "java/io/Serializable" (some 0) with
  accessFlags := 1537
  interfaces := #[]
  cf := some (fileOf pool10 1 #[] #[] 1537 3 #[] #[])
  fields := #[]
  methods := #[]
  instanceTypes := #[]
  staticTypes := #[]
  resolved := Array.replicate 7 none
  statics := none }

def pool11 : Array CpInfo := pool [(1, .methodref 2 3), (0, .class_ 4), (0, .nameAndType 5 6), (0, u "java/util/AbstractList"), (0, u "<init>"), (0, u "()V"), (0, .class_ 8), (0, u "java/lang/Object"), (0, .fieldref 10 11), (0, .class_ 12), (0, .nameAndType 13 14), (0, u "java/util/ArrayList"), (0, u "elementData"), (0, u "[Ljava/lang/Object;"), (2, u "EMPTY_ELEMENTDATA"), (21, .fieldref 10 40), (0, .nameAndType 41 14), (0, u "DEFAULTCAPACITY_EMPTY_ELEMENTDATA"), (5, u "()[Ljava/lang/Object;"), (0, .fieldref 10 49), (0, .nameAndType 50 51), (0, u "size"), (0, u "I"), (11, .fieldref 10 64), (0, .nameAndType 65 51), (0, u "modCount"), (3, .methodref 10 70), (0, .nameAndType 71 72), (0, u "grow"), (0, u "(I)[Ljava/lang/Object;"), (6, .methodref 80 81), (0, .class_ 82), (0, .nameAndType 83 84), (0, u "java/lang/Math"), (0, u "max"), (0, u "(II)I"), (11, u "(Ljava/lang/Object;)Z"), (21, .methodref 119 120), (0, .class_ 121), (0, .nameAndType 122 84), (0, u "java/util/Objects"), (0, u "checkIndex"), (0, .methodref 10 124), (0, .nameAndType 13 125), (0, u "(I)Ljava/lang/Object;"), (3, .methodref 10 130), (0, .nameAndType 71 47), (0, .methodref 10 132), (0, .nameAndType 133 134), (0, u "add"), (0, u "(Ljava/lang/Object;[Ljava/lang/Object;I)V"), (13, .class_ 149), (0, u "java/util/List"), (36, u "()I"), (75, .class_ 263), (0, u "java/util/ArrayList$ListItr"), (3, .class_ 268), (0, u "java/util/ArrayList$Itr"), (7, .class_ 277), (0, u "java/util/ArrayList$SubList"), (12, .class_ 291), (0, u "java/util/ArrayList$ArrayListSpliterator"), (37, .class_ 330), (0, u "java/util/RandomAccess"), (0, .class_ 332), (0, u "java/lang/Cloneable"), (0, .class_ 334), (0, u "java/io/Serializable"), (0, u "serialVersionUID"), (0, u "J"), (3, u "DEFAULT_CAPACITY"), (40, u "get"), (118, .class_ 501), (0, u "java/util/ArrayList$SubList$2"), (0, .class_ 503), (0, u "java/util/ArrayList$SubList$1")] 5

def k11c0 : Code := { maxStack := 2, maxLocals := 1, code := jdk_38_method_2_code, exceptionTable := #[], attributes := #[] }
def k11m0 : Method := { name := "<init>", desc := "()V", sig := { parameters := [], returnType := none }, accessFlags := 1, code := some k11c0 }
def k11c1 : Code := { maxStack := 4, maxLocals := 4, code := jdk_38_method_6_code, exceptionTable := #[], attributes := #[] }
def k11m1 : Method := { name := "grow", desc := "(I)[Ljava/lang/Object;", sig := { parameters := [.int], returnType := some (.array (.object "java/lang/Object")) }, accessFlags := 2, code := some k11c1 }
def k11c2 : Code := { maxStack := 3, maxLocals := 1, code := jdk_38_method_7_code, exceptionTable := #[], attributes := #[] }
def k11m2 : Method := { name := "grow", desc := "()[Ljava/lang/Object;", sig := { parameters := [], returnType := some (.array (.object "java/lang/Object")) }, accessFlags := 2, code := some k11c2 }
def k11c3 : Code := { maxStack := 1, maxLocals := 1, code := jdk_38_method_8_code, exceptionTable := #[], attributes := #[] }
def k11m3 : Method := { name := "size", desc := "()I", sig := { parameters := [], returnType := some .int }, accessFlags := 1, code := some k11c3 }
def k11c4 : Code := { maxStack := 2, maxLocals := 2, code := jdk_38_method_18_code, exceptionTable := #[], attributes := #[] }
def k11m4 : Method := { name := "elementData", desc := "(I)Ljava/lang/Object;", sig := { parameters := [.int], returnType := some (.object "java/lang/Object") }, accessFlags := 0, code := some k11c4 }
def k11c5 : Code := { maxStack := 2, maxLocals := 2, code := jdk_38_method_20_code, exceptionTable := #[], attributes := #[] }
def k11m5 : Method := { name := "get", desc := "(I)Ljava/lang/Object;", sig := { parameters := [.int], returnType := some (.object "java/lang/Object") }, accessFlags := 1, code := some k11c5 }
def k11c6 : Code := { maxStack := 3, maxLocals := 4, code := jdk_38_method_24_code, exceptionTable := #[], attributes := #[] }
def k11m6 : Method := { name := "add", desc := "(Ljava/lang/Object;[Ljava/lang/Object;I)V", sig := { parameters := [(.object "java/lang/Object"), (.array (.object "java/lang/Object")), .int], returnType := none }, accessFlags := 2, code := some k11c6 }
def k11c7 : Code := { maxStack := 4, maxLocals := 2, code := jdk_38_method_25_code, exceptionTable := #[], attributes := #[] }
def k11m7 : Method := { name := "add", desc := "(Ljava/lang/Object;)Z", sig := { parameters := [(.object "java/lang/Object")], returnType := some .boolean }, accessFlags := 1, code := some k11c7 }
/-- java/util/ArrayList -/
def k11 : Class := { plain "java/util/ArrayList" (some 7) with
  accessFlags := 33
  interfaces := #[6, 8, 9, 10]
  cf := some (fileOf pool11 10 #[.nestMembers #[290, 276, 500, 502, 262, 267]] #[{ accessFlags := 1, nameIndex := 5, descriptorIndex := 6, attributes := #[] }, { accessFlags := 2, nameIndex := 71, descriptorIndex := 72, attributes := #[] }, { accessFlags := 2, nameIndex := 71, descriptorIndex := 47, attributes := #[] }, { accessFlags := 1, nameIndex := 50, descriptorIndex := 186, attributes := #[] }, { accessFlags := 0, nameIndex := 13, descriptorIndex := 125, attributes := #[] }, { accessFlags := 1, nameIndex := 381, descriptorIndex := 125, attributes := #[] }, { accessFlags := 2, nameIndex := 133, descriptorIndex := 134, attributes := #[] }, { accessFlags := 1, nameIndex := 133, descriptorIndex := 96, attributes := #[] }] 33 2 #[148, 329, 331, 333] #[{ accessFlags := 26, nameIndex := 335, descriptorIndex := 336, attributes := #[] }, { accessFlags := 26, nameIndex := 340, descriptorIndex := 51, attributes := #[] }, { accessFlags := 26, nameIndex := 17, descriptorIndex := 14, attributes := #[] }, { accessFlags := 26, nameIndex := 41, descriptorIndex := 14, attributes := #[] }, { accessFlags := 128, nameIndex := 13, descriptorIndex := 14, attributes := #[] }, { accessFlags := 2, nameIndex := 50, descriptorIndex := 51, attributes := #[] }])
  fields := #[{ name := "serialVersionUID", type := .long, accessFlags := 26, slot := 0, constantValue := 0 }, { name := "DEFAULT_CAPACITY", type := .int, accessFlags := 26, slot := 1, constantValue := 0 }, { name := "EMPTY_ELEMENTDATA", type := (.array (.object "java/lang/Object")), accessFlags := 26, slot := 2, constantValue := 0 }, { name := "DEFAULTCAPACITY_EMPTY_ELEMENTDATA", type := (.array (.object "java/lang/Object")), accessFlags := 26, slot := 3, constantValue := 0 }, { name := "elementData", type := (.array (.object "java/lang/Object")), accessFlags := 128, slot := 1, constantValue := 0 }, { name := "size", type := .int, accessFlags := 2, slot := 2, constantValue := 0 }]
  methods := #[k11m0, k11m1, k11m2, k11m3, k11m4, k11m5, k11m6, k11m7]
  instanceTypes := #[.int, (.array (.object "java/lang/Object")), .int]
  staticTypes := #[.long, .int, (.array (.object "java/lang/Object")), (.array (.object "java/lang/Object"))]
  resolved := Array.replicate 509 none
  statics := some 0 }

def pool12 : Array CpInfo := pool [(1, .methodref 2 3), (0, .class_ 4), (0, .nameAndType 5 6), (0, u "java/lang/Object"), (0, u "<init>"), (0, u "()V"), (0, .class_ 8), (0, u "java/lang/Record")] 13

def k12c0 : Code := { maxStack := 1, maxLocals := 1, code := jdk_30_method_1_code, exceptionTable := #[], attributes := #[] }
def k12m0 : Method := { name := "<init>", desc := "()V", sig := { parameters := [], returnType := none }, accessFlags := 4, code := some k12c0 }
/-- java/lang/Record -/
def k12 : Class := { plain "java/lang/Record" (some 0) with
  accessFlags := 1057
  interfaces := #[]
  cf := some (fileOf pool12 7 #[] #[{ accessFlags := 4, nameIndex := 5, descriptorIndex := 6, attributes := #[] }] 1057 2 #[] #[])
  fields := #[]
  methods := #[k12m0]
  instanceTypes := #[]
  staticTypes := #[]
  resolved := Array.replicate 22 none
  statics := none }

def pool13 : Array CpInfo := pool [(1, .methodref 2 3), (0, .class_ 4), (0, .nameAndType 5 6), (0, u "java/lang/Record"), (0, u "<init>"), (0, u "()V"), (0, .fieldref 8 9), (0, .class_ 10), (0, .nameAndType 11 12), (0, u "com/example/benchlight/benchlight/Bounds$Dimension"), (0, u "lower"), (0, u "I"), (0, .fieldref 8 14), (0, .nameAndType 15 12), (0, u "upper"), (12, u "(II)V"), (3, u "length"), (0, u "()I"), (5, .class_ 40), (0, u "com/example/benchlight/benchlight/Bounds")] 20

def k13c0 : Code := { maxStack := 2, maxLocals := 3, code := prog_9_method_1_code, exceptionTable := #[], attributes := #[] }
def k13m0 : Method := { name := "<init>", desc := "(II)V", sig := { parameters := [.int, .int], returnType := none }, accessFlags := 0, code := some k13c0 }
def k13c1 : Code := { maxStack := 2, maxLocals := 1, code := prog_9_method_2_code, exceptionTable := #[], attributes := #[] }
def k13m1 : Method := { name := "length", desc := "()I", sig := { parameters := [], returnType := some .int }, accessFlags := 0, code := some k13c1 }
def k13c2 : Code := { maxStack := 1, maxLocals := 1, code := prog_9_method_6_code, exceptionTable := #[], attributes := #[] }
def k13m2 : Method := { name := "lower", desc := "()I", sig := { parameters := [], returnType := some .int }, accessFlags := 1, code := some k13c2 }
/-- com/example/benchlight/benchlight/Bounds$Dimension -/
def k13 : Class := { plain "com/example/benchlight/benchlight/Bounds$Dimension" (some 12) with
  accessFlags := 48
  interfaces := #[]
  cf := some (fileOf pool13 8 #[.nestHost 39] #[{ accessFlags := 0, nameIndex := 5, descriptorIndex := 28, attributes := #[] }, { accessFlags := 0, nameIndex := 32, descriptorIndex := 33, attributes := #[] }, { accessFlags := 1, nameIndex := 11, descriptorIndex := 33, attributes := #[] }] 48 2 #[] #[{ accessFlags := 18, nameIndex := 11, descriptorIndex := 12, attributes := #[] }, { accessFlags := 18, nameIndex := 15, descriptorIndex := 12, attributes := #[] }])
  fields := #[{ name := "lower", type := .int, accessFlags := 18, slot := 0, constantValue := 0 }, { name := "upper", type := .int, accessFlags := 18, slot := 1, constantValue := 0 }]
  methods := #[k13m0, k13m1, k13m2]
  instanceTypes := #[.int, .int]
  staticTypes := #[]
  resolved := Array.replicate 61 none
  statics := none }

def pool14 : Array CpInfo := pool [(1, .class_ 2), (0, u "java/lang/Math"), (1, .class_ 6), (1, u "java/lang/Object"), (0, u "<init>"), (0, u "()V"), (89, .class_ 100), (1, u "java/lang/Math$RandomNumberGeneratorHolder"), (20, u "(JJ)J"), (50, u "negativeZeroFloatBits"), (0, u "J"), (2, u "negativeZeroDoubleBits"), (21, u "max"), (2, u "min"), (43, u "$assertionsDisabled"), (0, u "Z"), (88, u "(II)I"), (2, u "twoToTheDoubleScaleDown"), (0, u "D"), (4, u "twoToTheDoubleScaleUp"), (9, u "E"), (3, u "PI"), (2, u "TAU"), (2, u "DEGREES_TO_RADIANS"), (0, u "RADIANS_TO_DEGREES")] 94

def k14m0 : Method := { name := "<init>", desc := "()V", sig := { parameters := [], returnType := none }, accessFlags := 2, code := none }
def k14c1 : Code := { maxStack := 2, maxLocals := 2, code := jdk_29_method_65_code, exceptionTable := #[], attributes := #[] }
def k14m1 : Method := { name := "max", desc := "(II)I", sig := { parameters := [.int, .int], returnType := some .int }, accessFlags := 9, code := some k14c1 }
def k14c2 : Code := { maxStack := 4, maxLocals := 4, code := jdk_29_method_70_code, exceptionTable := #[], attributes := #[] }
def k14m2 : Method := { name := "min", desc := "(JJ)J", sig := { parameters := [.long, .long], returnType := some .long }, accessFlags := 9, code := some k14c2 }
/-- java/lang/Math -/
def k14 : Class := { plain "java/lang/Math" (some 0) with
  accessFlags := 49
  interfaces := #[]
  cf := some (fileOf pool14 1 #[.nestMembers #[98]] #[{ accessFlags := 2, nameIndex := 7, descriptorIndex := 8, attributes := #[] }, { accessFlags := 9, nameIndex := 198, descriptorIndex := 335, attributes := #[] }, { accessFlags := 9, nameIndex := 201, descriptorIndex := 121, attributes := #[] }] 49 4 #[] #[{ accessFlags := 25, nameIndex := 354, descriptorIndex := 339, attributes := #[] }, { accessFlags := 25, nameIndex := 358, descriptorIndex := 339, attributes := #[] }, { accessFlags := 25, nameIndex := 361, descriptorIndex := 339, attributes := #[] }, { accessFlags := 26, nameIndex := 364, descriptorIndex := 339, attributes := #[] }, { accessFlags := 26, nameIndex := 365, descriptorIndex := 339, attributes := #[] }, { accessFlags := 26, nameIndex := 172, descriptorIndex := 173, attributes := #[] }, { accessFlags := 26, nameIndex := 176, descriptorIndex := 173, attributes := #[] }, { accessFlags := 8, nameIndex := 344, descriptorIndex := 339, attributes := #[] }, { accessFlags := 8, nameIndex := 338, descriptorIndex := 339, attributes := #[] }, { accessFlags := 4120, nameIndex := 245, descriptorIndex := 246, attributes := #[] }])
  fields := #[{ name := "E", type := .double, accessFlags := 25, slot := 0, constantValue := 0 }, { name := "PI", type := .double, accessFlags := 25, slot := 1, constantValue := 0 }, { name := "TAU", type := .double, accessFlags := 25, slot := 2, constantValue := 0 }, { name := "DEGREES_TO_RADIANS", type := .double, accessFlags := 26, slot := 3, constantValue := 0 }, { name := "RADIANS_TO_DEGREES", type := .double, accessFlags := 26, slot := 4, constantValue := 0 }, { name := "negativeZeroFloatBits", type := .long, accessFlags := 26, slot := 5, constantValue := 0 }, { name := "negativeZeroDoubleBits", type := .long, accessFlags := 26, slot := 6, constantValue := 0 }, { name := "twoToTheDoubleScaleUp", type := .double, accessFlags := 8, slot := 7, constantValue := 0 }, { name := "twoToTheDoubleScaleDown", type := .double, accessFlags := 8, slot := 8, constantValue := 0 }, { name := "$assertionsDisabled", type := .boolean, accessFlags := 4120, slot := 9, constantValue := 0 }]
  methods := #[k14m0, k14m1, k14m2]
  instanceTypes := #[]
  staticTypes := #[.double, .double, .double, .double, .double, .long, .long, .double, .double, .boolean]
  resolved := Array.replicate 460 none
  statics := none }

def pool15 : Array CpInfo := pool [(5, .methodref 6 7), (0, .class_ 8), (0, .nameAndType 9 10), (0, u "java/lang/Object"), (0, u "<init>"), (0, u "()V"), (0, .interfaceMethodref 12 13), (0, .class_ 14), (0, .nameAndType 15 16), (0, u "java/util/List"), (0, u "size"), (0, u "()I"), (0, .fieldref 18 19), (0, .class_ 20), (0, .nameAndType 21 22), (0, u "com/example/benchlight/benchlight/Bounds"), (0, u "lower"), (0, u "[I"), (0, .fieldref 18 24), (0, .nameAndType 25 22), (0, u "length"), (0, .interfaceMethodref 12 27), (0, .nameAndType 28 29), (0, u "get"), (0, u "(I)Ljava/lang/Object;"), (0, .class_ 31), (0, u "com/example/benchlight/benchlight/Bounds$Dimension"), (0, .methodref 30 33), (0, .nameAndType 21 16), (0, .methodref 30 35), (0, .nameAndType 25 16), (0, .long 2147483648), (1, .methodref 39 40), (0, .class_ 41), (0, .nameAndType 42 43), (0, u "java/lang/Math"), (0, u "min"), (0, u "(JJ)J"), (0, .fieldref 18 45), (0, .nameAndType 46 47), (0, u "count"), (0, u "J"), (0, .fieldref 18 49), (0, .nameAndType 50 51), (0, u "firstLower"), (0, u "I"), (0, .fieldref 18 53), (0, .nameAndType 54 51), (0, u "firstLength"), (14, u "MAX_DIMENSIONS"), (2, u "MAX_LENGTH"), (1, u "PAST_ANY_COUNT"), (0, u "(Ljava/util/List;)V"), (10, u "subscripts"), (0, u "(I)[D")] 7

def k15c0 : Code := { maxStack := 4, maxLocals := 5, code := prog_8_method_1_code, exceptionTable := #[], attributes := #[] }
def k15m0 : Method := { name := "<init>", desc := "(Ljava/util/List;)V", sig := { parameters := [(.object "java/util/List")], returnType := none }, accessFlags := 0, code := some k15c0 }
def k15c1 : Code := { maxStack := 6, maxLocals := 5, code := prog_8_method_7_code, exceptionTable := #[], attributes := #[] }
def k15m1 : Method := { name := "subscripts", desc := "(I)[D", sig := { parameters := [.int], returnType := some (.array .double) }, accessFlags := 0, code := some k15c1 }
/-- com/example/benchlight/benchlight/Bounds -/
def k15 : Class := { plain "com/example/benchlight/benchlight/Bounds" (some 0) with
  accessFlags := 48
  interfaces := #[]
  cf := some (fileOf pool15 18 #[.nestMembers #[30]] #[{ accessFlags := 0, nameIndex := 9, descriptorIndex := 75, attributes := #[] }, { accessFlags := 0, nameIndex := 86, descriptorIndex := 87, attributes := #[] }] 48 6 #[] #[{ accessFlags := 24, nameIndex := 69, descriptorIndex := 51, attributes := #[] }, { accessFlags := 24, nameIndex := 72, descriptorIndex := 51, attributes := #[] }, { accessFlags := 26, nameIndex := 74, descriptorIndex := 47, attributes := #[] }, { accessFlags := 18, nameIndex := 21, descriptorIndex := 22, attributes := #[] }, { accessFlags := 18, nameIndex := 25, descriptorIndex := 22, attributes := #[] }, { accessFlags := 18, nameIndex := 46, descriptorIndex := 47, attributes := #[] }, { accessFlags := 18, nameIndex := 50, descriptorIndex := 51, attributes := #[] }, { accessFlags := 18, nameIndex := 54, descriptorIndex := 51, attributes := #[] }])
  fields := #[{ name := "MAX_DIMENSIONS", type := .int, accessFlags := 24, slot := 0, constantValue := 0 }, { name := "MAX_LENGTH", type := .int, accessFlags := 24, slot := 1, constantValue := 0 }, { name := "PAST_ANY_COUNT", type := .long, accessFlags := 26, slot := 2, constantValue := 0 }, { name := "lower", type := (.array .int), accessFlags := 18, slot := 0, constantValue := 0 }, { name := "length", type := (.array .int), accessFlags := 18, slot := 1, constantValue := 0 }, { name := "count", type := .long, accessFlags := 18, slot := 2, constantValue := 0 }, { name := "firstLower", type := .int, accessFlags := 18, slot := 3, constantValue := 0 }, { name := "firstLength", type := .int, accessFlags := 18, slot := 4, constantValue := 0 }]
  methods := #[k15m0, k15m1]
  instanceTypes := #[(.array .int), (.array .int), .long, .int, .int]
  staticTypes := #[.int, .int, .long]
  resolved := Array.replicate 95 none
  statics := none }

def pool16 : Array CpInfo := pool [(2, .class_ 4), (1, u "java/lang/Object"), (0, u "<init>"), (0, u "()V"), (35, .class_ 44), (1, u "java/util/Objects"), (60, .methodref 106 107), (0, .class_ 108), (0, .nameAndType 109 110), (0, u "jdk/internal/util/Preconditions"), (0, u "checkIndex"), (0, u "(IILjava/util/function/BiFunction;)I"), (60, u "(II)I")] 12

def k16m0 : Method := { name := "<init>", desc := "()V", sig := { parameters := [], returnType := none }, accessFlags := 2, code := none }
def k16c1 : Code := { maxStack := 3, maxLocals := 2, code := jdk_31_method_17_code, exceptionTable := #[], attributes := #[] }
def k16m1 : Method := { name := "checkIndex", desc := "(II)I", sig := { parameters := [.int, .int], returnType := some .int }, accessFlags := 9, code := some k16c1 }
/-- java/util/Objects -/
def k16 : Class := { plain "java/util/Objects" (some 0) with
  accessFlags := 49
  interfaces := #[]
  cf := some (fileOf pool16 42 #[] #[{ accessFlags := 2, nameIndex := 5, descriptorIndex := 6, attributes := #[] }, { accessFlags := 9, nameIndex := 109, descriptorIndex := 171, attributes := #[] }] 49 2 #[] #[])
  fields := #[]
  methods := #[k16m0, k16m1]
  instanceTypes := #[]
  staticTypes := #[]
  resolved := Array.replicate 184 none
  statics := none }

def pool17 : Array CpInfo := pool [(2, .class_ 4), (1, u "java/lang/Object"), (0, u "<init>"), (0, u "()V"), (17, .class_ 26), (1, u "jdk/internal/util/Preconditions"), (6, u "checkIndex"), (21, .class_ 56), (0, u "jdk/internal/util/Preconditions$4"), (57, .class_ 115), (0, u "jdk/internal/util/Preconditions$1"), (7, u "SIOOBE_FORMATTER"), (0, u "Ljava/util/function/BiFunction;"), (0, .class_ 126), (0, u "jdk/internal/util/Preconditions$2"), (3, u "AIOOBE_FORMATTER"), (0, .class_ 132), (0, u "jdk/internal/util/Preconditions$3"), (3, u "IOOBE_FORMATTER"), (41, u "(IILjava/util/function/BiFunction;)I")] 15

def k17m0 : Method := { name := "<init>", desc := "()V", sig := { parameters := [], returnType := none }, accessFlags := 1, code := none }
def k17c1 : Code := { maxStack := 3, maxLocals := 3, code := jdk_41_method_11_code, exceptionTable := #[], attributes := #[] }
def k17m1 : Method := { name := "checkIndex", desc := "(IILjava/util/function/BiFunction;)I", sig := { parameters := [.int, .int, (.object "java/util/function/BiFunction")], returnType := some .int }, accessFlags := 9, code := some k17c1 }
/-- jdk/internal/util/Preconditions -/
def k17 : Class := { plain "jdk/internal/util/Preconditions" (some 0) with
  accessFlags := 33
  interfaces := #[]
  cf := some (fileOf pool17 24 #[.nestMembers #[55, 131, 125, 114]] #[{ accessFlags := 1, nameIndex := 5, descriptorIndex := 6, attributes := #[] }, { accessFlags := 9, nameIndex := 33, descriptorIndex := 178, attributes := #[] }] 33 2 #[] #[{ accessFlags := 25, nameIndex := 123, descriptorIndex := 124, attributes := #[] }, { accessFlags := 25, nameIndex := 130, descriptorIndex := 124, attributes := #[] }, { accessFlags := 25, nameIndex := 136, descriptorIndex := 124, attributes := #[] }])
  fields := #[{ name := "SIOOBE_FORMATTER", type := (.object "java/util/function/BiFunction"), accessFlags := 25, slot := 0, constantValue := 0 }, { name := "AIOOBE_FORMATTER", type := (.object "java/util/function/BiFunction"), accessFlags := 25, slot := 1, constantValue := 0 }, { name := "IOOBE_FORMATTER", type := (.object "java/util/function/BiFunction"), accessFlags := 25, slot := 2, constantValue := 0 }]
  methods := #[k17m0, k17m1]
  instanceTypes := #[]
  staticTypes := #[(.object "java/util/function/BiFunction"), (.object "java/util/function/BiFunction"), (.object "java/util/function/BiFunction")]
  resolved := Array.replicate 194 none
  statics := none }

/-- the primitive double -/
def k18 : Class := { plain "double" none with kind := .primitive 'D', accessFlags := 0x411 }
/-- [D -/
def k19 : Class := { plain "[D" (some 0) with kind := .array 18 .double, interfaces := #[9, 10], accessFlags := 1041 }

/-- the primitive int -/
def k20 : Class := { plain "int" none with kind := .primitive 'I', accessFlags := 0x411 }
/-- [I -/
def k21 : Class := { plain "[I" (some 0) with kind := .array 20 .int, interfaces := #[9, 10], accessFlags := 1041 }

/-- [Ljava/lang/Object; -/
def k22 : Class := { plain "[Ljava/lang/Object;" (some 0) with kind := .array 0 (.object "java/lang/Object"), interfaces := #[9, 10], accessFlags := 1041 }

def heap : Heap := #[{ cls := 11, slots := #[.long 0, .int 0, .ref 1, .ref 2], vm := .statics 11 },
  { cls := 22, slots := #[], vm := .none },
  { cls := 22, slots := #[], vm := .none }]
def classes : Array Class := #[k0, k1, k2, k3, k4, k5, k6, k7, k8, k9, k10, k11, k12, k13, k14, k15, k16, k17, k18, k19, k20, k21, k22]
def interned : List (Array UInt16 × Addr) := []
def slotsUsed : Nat := 4
def theMethod : MethodId := ⟨1, 5⟩
def args0 : Array Value := #[.long 5, .long 7, .long 9, .int 3, .int 11]
def aboutOver (below : List Frame) : State where
  vm := { classes := classes, interned := interned.toArray }
  heap := heap
  slotsUsed := slotsUsed
  threads := #[{ frames := .invoking theMethod args0 :: below }]
def below0 : List Frame := [.native { method := ⟨0, 0⟩, args := #[] }]
def about1 : State := aboutOver below0
def p0 : Program := .bare "" "" ""
def e0 : Env := launch0.env 0 0 0
theorem w_frames : about1.frames = Frame.invoking theMethod args0 :: below0 := rfl
set_option maxRecDepth 65536 in
theorem w_args : argsFit about1.vm theMethod args0 = true := by decide +kernel
set_option maxRecDepth 65536 in
theorem w_heap : heapFits about1 = true := by decide +kernel
set_option maxRecDepth 65536 in
theorem w_runnable : about1.curStatus? = some .runnable := by decide +kernel
set_option maxRecDepth 65536 in
theorem w_alone : about1.alone = true := by decide +kernel
set_option maxRecDepth 65536 in
theorem w_named : about1.methodNamed? x = some theMethod := by decide +kernel
set_option maxRecDepth 65536 in
theorem w_hears : about1.hears theMethod below0 = true := by decide +kernel
set_option maxRecDepth 65536 in
theorem w_ripe : about1.ripe theMethod args0 below0 = true := by decide +kernel
theorem w_running : about1.status = .running := rfl
set_option maxRecDepth 65536 in
theorem w_room : about1.hasRoom e0.platform room_1 = true :=
  launch0.hasRoom_least _ room_1 (by decide +kernel) (by decide +kernel) (by decide +kernel) (by decide +kernel) (by decide +kernel) (by decide +kernel)
theorem allAtoms_all (ts : List Jvm.Cond) (a : Array Jvm.Value) (st : Jvm.State) : (allAtoms ts).before a st = ts.all (fun c => c.before a st) := by
  induction ts with
  | nil => rfl
  | cons c t ih =>
    show (Jvm.Cond.and c (allAtoms t)).before a st = _
    rw [Jvm.Cond.before_and, ih, List.all_cons]
def words1 : List Jvm.Cond := Jvm.Cond.code x code maxLocals ret :: tables_1
/-- a 'code' word, met by the world's own term for the bytes: nothing is compared byte by byte -/
theorem code_word {y : MethodName} {bytes : ByteArray} {mx : Nat} {rt : Option FieldType} {a : Array Value} {s : State} {m : MethodId} {meth : Method} {c : Code} (h1 : s.methodNamed? y = some m) (h2 : s.vm.method? m = some meth) (h3 : meth.code = some c) (h4 : c.code = bytes)
    (h5 : (c.maxLocals == mx && c.exceptionTable.isEmpty && decide (c.maxStack ≤ mostOperands) && decide (meth.sig.returnType = rt) && !meth.locks && decide (parseMethodDescriptor y.desc = some meth.sig)) = true) : (Jvm.Cond.code y bytes mx rt).before a s = true := by
  simp only [Bool.and_eq_true, beq_iff_eq, Bool.not_eq_true', decide_eq_true_eq] at h5
  obtain ⟨⟨⟨⟨⟨g1, g2⟩, g3⟩, g4⟩, g5⟩, g6⟩ := h5
  simp [Cond.before, Cond.holds, Cond.value, h1, h2, h3, h4, g1, g2, g3, g4, g5, g6]
def isCode : Jvm.Cond → Bool
  | .code _ _ _ _ => true
  | _ => false
theorem all_split {L : List Jvm.Cond} {P : Jvm.Cond → Bool} (h1 : L.all (fun c => isCode c || P c) = true) (h2 : ∀ c ∈ L.filter isCode, P c = true) : L.all P = true := by
  refine List.all_eq_true.mpr fun c hc => ?_
  have h := List.all_eq_true.mp h1 c hc
  rcases Bool.eq_false_or_eq_true (isCode c) with hi | hi
  · exact h2 c (List.mem_filter.mpr ⟨hc, hi⟩)
  · simpa [hi] using h
set_option maxRecDepth 65536 in
theorem w_c0 : (Jvm.Cond.code x code maxLocals ret).before args0 about1 = true := code_word (m := ⟨1, 5⟩) (meth := k1m5) (c := k1c5) (by decide +kernel) rfl rfl rfl (by decide +kernel)
set_option maxRecDepth 65536 in
theorem w_c1 : (Jvm.Cond.code ({ cls := "com/example/benchlight/benchlight/BoundsSubscriptsPinLaw", name := "lowerOf", desc := "(JI)I" } : Jvm.MethodName) method_2_code (3 : Nat) (Option.some Jvm.ClassFile.FieldType.int)).before args0 about1 = true := code_word (m := ⟨1, 1⟩) (meth := k1m1) (c := k1c1) (by decide +kernel) rfl rfl rfl (by decide +kernel)
set_option maxRecDepth 65536 in
theorem w_c2 : (Jvm.Cond.code ({ cls := "com/example/benchlight/benchlight/BoundsSubscriptsPinLaw", name := "lengthOf", desc := "(JI)I" } : Jvm.MethodName) method_3_code (5 : Nat) (Option.some Jvm.ClassFile.FieldType.int)).before args0 about1 = true := code_word (m := ⟨1, 2⟩) (meth := k1m2) (c := k1c2) (by decide +kernel) rfl rfl rfl (by decide +kernel)
set_option maxRecDepth 65536 in
theorem w_c3 : (Jvm.Cond.code ({ cls := "java/util/ArrayList", name := "<init>", desc := "()V" } : Jvm.MethodName) jdk_38_method_2_code (1 : Nat) (Option.none : Option Jvm.ClassFile.FieldType)).before args0 about1 = true := code_word (m := ⟨11, 0⟩) (meth := k11m0) (c := k11c0) (by decide +kernel) rfl rfl rfl (by decide +kernel)
set_option maxRecDepth 65536 in
theorem w_c4 : (Jvm.Cond.code ({ cls := "java/util/AbstractList", name := "<init>", desc := "()V" } : Jvm.MethodName) jdk_39_method_1_code (1 : Nat) (Option.none : Option Jvm.ClassFile.FieldType)).before args0 about1 = true := code_word (m := ⟨7, 0⟩) (meth := k7m0) (c := k7c0) (by decide +kernel) rfl rfl rfl (by decide +kernel)
set_option maxRecDepth 65536 in
theorem w_c5 : (Jvm.Cond.code ({ cls := "java/util/AbstractCollection", name := "<init>", desc := "()V" } : Jvm.MethodName) jdk_22_method_1_code (1 : Nat) (Option.none : Option Jvm.ClassFile.FieldType)).before args0 about1 = true := code_word (m := ⟨4, 0⟩) (meth := k4m0) (c := k4c0) (by decide +kernel) rfl rfl rfl (by decide +kernel)
set_option maxRecDepth 65536 in
theorem w_c6 : (Jvm.Cond.code ({ cls := "java/lang/Object", name := "<init>", desc := "()V" } : Jvm.MethodName) object_method_1_code (1 : Nat) (Option.none : Option Jvm.ClassFile.FieldType)).before args0 about1 = true := code_word (m := ⟨0, 0⟩) (meth := k0m0) (c := k0c0) (by decide +kernel) rfl rfl rfl (by decide +kernel)
set_option maxRecDepth 65536 in
theorem w_c7 : (Jvm.Cond.code ({ cls := "com/example/benchlight/benchlight/Bounds$Dimension", name := "<init>", desc := "(II)V" } : Jvm.MethodName) prog_9_method_1_code (3 : Nat) (Option.none : Option Jvm.ClassFile.FieldType)).before args0 about1 = true := code_word (m := ⟨13, 0⟩) (meth := k13m0) (c := k13c0) (by decide +kernel) rfl rfl rfl (by decide +kernel)
set_option maxRecDepth 65536 in
theorem w_c8 : (Jvm.Cond.code ({ cls := "java/lang/Record", name := "<init>", desc := "()V" } : Jvm.MethodName) jdk_30_method_1_code (1 : Nat) (Option.none : Option Jvm.ClassFile.FieldType)).before args0 about1 = true := code_word (m := ⟨12, 0⟩) (meth := k12m0) (c := k12c0) (by decide +kernel) rfl rfl rfl (by decide +kernel)
set_option maxRecDepth 65536 in
theorem w_c9 : (Jvm.Cond.code ({ cls := "java/util/ArrayList", name := "add", desc := "(Ljava/lang/Object;)Z" } : Jvm.MethodName) jdk_38_method_25_code (2 : Nat) (Option.some Jvm.ClassFile.FieldType.boolean)).before args0 about1 = true := code_word (m := ⟨11, 7⟩) (meth := k11m7) (c := k11c7) (by decide +kernel) rfl rfl rfl (by decide +kernel)
set_option maxRecDepth 65536 in
theorem w_c10 : (Jvm.Cond.code ({ cls := "java/util/ArrayList", name := "add", desc := "(Ljava/lang/Object;[Ljava/lang/Object;I)V" } : Jvm.MethodName) jdk_38_method_24_code (4 : Nat) (Option.none : Option Jvm.ClassFile.FieldType)).before args0 about1 = true := code_word (m := ⟨11, 6⟩) (meth := k11m6) (c := k11c6) (by decide +kernel) rfl rfl rfl (by decide +kernel)
set_option maxRecDepth 65536 in
theorem w_c11 : (Jvm.Cond.code ({ cls := "java/util/ArrayList", name := "grow", desc := "()[Ljava/lang/Object;" } : Jvm.MethodName) jdk_38_method_7_code (1 : Nat) (Option.some (Jvm.ClassFile.FieldType.array (Jvm.ClassFile.FieldType.object "java/lang/Object")))).before args0 about1 = true := code_word (m := ⟨11, 2⟩) (meth := k11m2) (c := k11c2) (by decide +kernel) rfl rfl rfl (by decide +kernel)
set_option maxRecDepth 65536 in
theorem w_c12 : (Jvm.Cond.code ({ cls := "java/util/ArrayList", name := "grow", desc := "(I)[Ljava/lang/Object;" } : Jvm.MethodName) jdk_38_method_6_code (4 : Nat) (Option.some (Jvm.ClassFile.FieldType.array (Jvm.ClassFile.FieldType.object "java/lang/Object")))).before args0 about1 = true := code_word (m := ⟨11, 1⟩) (meth := k11m1) (c := k11c1) (by decide +kernel) rfl rfl rfl (by decide +kernel)
set_option maxRecDepth 65536 in
theorem w_c13 : (Jvm.Cond.code ({ cls := "java/lang/Math", name := "max", desc := "(II)I" } : Jvm.MethodName) jdk_29_method_65_code (2 : Nat) (Option.some Jvm.ClassFile.FieldType.int)).before args0 about1 = true := code_word (m := ⟨14, 1⟩) (meth := k14m1) (c := k14c1) (by decide +kernel) rfl rfl rfl (by decide +kernel)
set_option maxRecDepth 65536 in
theorem w_c14 : (Jvm.Cond.code ({ cls := "com/example/benchlight/benchlight/BoundsSubscriptsPinLaw", name := "mulCap", desc := "(JIJ)J" } : Jvm.MethodName) method_4_code (5 : Nat) (Option.some Jvm.ClassFile.FieldType.long)).before args0 about1 = true := code_word (m := ⟨1, 3⟩) (meth := k1m3) (c := k1c3) (by decide +kernel) rfl rfl rfl (by decide +kernel)
set_option maxRecDepth 65536 in
theorem w_c15 : (Jvm.Cond.code ({ cls := "java/lang/Math", name := "min", desc := "(JJ)J" } : Jvm.MethodName) jdk_29_method_70_code (4 : Nat) (Option.some Jvm.ClassFile.FieldType.long)).before args0 about1 = true := code_word (m := ⟨14, 2⟩) (meth := k14m2) (c := k14c2) (by decide +kernel) rfl rfl rfl (by decide +kernel)
set_option maxRecDepth 65536 in
theorem w_c16 : (Jvm.Cond.code ({ cls := "com/example/benchlight/benchlight/Bounds", name := "<init>", desc := "(Ljava/util/List;)V" } : Jvm.MethodName) prog_8_method_1_code (5 : Nat) (Option.none : Option Jvm.ClassFile.FieldType)).before args0 about1 = true := code_word (m := ⟨15, 0⟩) (meth := k15m0) (c := k15c0) (by decide +kernel) rfl rfl rfl (by decide +kernel)
set_option maxRecDepth 65536 in
theorem w_c17 : (Jvm.Cond.code ({ cls := "java/util/ArrayList", name := "size", desc := "()I" } : Jvm.MethodName) jdk_38_method_8_code (1 : Nat) (Option.some Jvm.ClassFile.FieldType.int)).before args0 about1 = true := code_word (m := ⟨11, 3⟩) (meth := k11m3) (c := k11c3) (by decide +kernel) rfl rfl rfl (by decide +kernel)
set_option maxRecDepth 65536 in
theorem w_c18 : (Jvm.Cond.code ({ cls := "java/util/ArrayList", name := "get", desc := "(I)Ljava/lang/Object;" } : Jvm.MethodName) jdk_38_method_20_code (2 : Nat) (Option.some (Jvm.ClassFile.FieldType.object "java/lang/Object"))).before args0 about1 = true := code_word (m := ⟨11, 5⟩) (meth := k11m5) (c := k11c5) (by decide +kernel) rfl rfl rfl (by decide +kernel)
set_option maxRecDepth 65536 in
theorem w_c19 : (Jvm.Cond.code ({ cls := "java/util/Objects", name := "checkIndex", desc := "(II)I" } : Jvm.MethodName) jdk_31_method_17_code (2 : Nat) (Option.some Jvm.ClassFile.FieldType.int)).before args0 about1 = true := code_word (m := ⟨16, 1⟩) (meth := k16m1) (c := k16c1) (by decide +kernel) rfl rfl rfl (by decide +kernel)
set_option maxRecDepth 65536 in
theorem w_c20 : (Jvm.Cond.code ({ cls := "jdk/internal/util/Preconditions", name := "checkIndex", desc := "(IILjava/util/function/BiFunction;)I" } : Jvm.MethodName) jdk_41_method_11_code (3 : Nat) (Option.some Jvm.ClassFile.FieldType.int)).before args0 about1 = true := code_word (m := ⟨17, 1⟩) (meth := k17m1) (c := k17c1) (by decide +kernel) rfl rfl rfl (by decide +kernel)
set_option maxRecDepth 65536 in
theorem w_c21 : (Jvm.Cond.code ({ cls := "java/util/ArrayList", name := "elementData", desc := "(I)Ljava/lang/Object;" } : Jvm.MethodName) jdk_38_method_18_code (2 : Nat) (Option.some (Jvm.ClassFile.FieldType.object "java/lang/Object"))).before args0 about1 = true := code_word (m := ⟨11, 4⟩) (meth := k11m4) (c := k11c4) (by decide +kernel) rfl rfl rfl (by decide +kernel)
set_option maxRecDepth 65536 in
theorem w_c22 : (Jvm.Cond.code ({ cls := "com/example/benchlight/benchlight/Bounds$Dimension", name := "lower", desc := "()I" } : Jvm.MethodName) prog_9_method_6_code (1 : Nat) (Option.some Jvm.ClassFile.FieldType.int)).before args0 about1 = true := code_word (m := ⟨13, 2⟩) (meth := k13m2) (c := k13c2) (by decide +kernel) rfl rfl rfl (by decide +kernel)
set_option maxRecDepth 65536 in
theorem w_c23 : (Jvm.Cond.code ({ cls := "com/example/benchlight/benchlight/Bounds$Dimension", name := "length", desc := "()I" } : Jvm.MethodName) prog_9_method_2_code (1 : Nat) (Option.some Jvm.ClassFile.FieldType.int)).before args0 about1 = true := code_word (m := ⟨13, 1⟩) (meth := k13m1) (c := k13c1) (by decide +kernel) rfl rfl rfl (by decide +kernel)
set_option maxRecDepth 65536 in
theorem w_c24 : (Jvm.Cond.code ({ cls := "com/example/benchlight/benchlight/Bounds", name := "subscripts", desc := "(I)[D" } : Jvm.MethodName) prog_8_method_7_code (5 : Nat) (Option.some (Jvm.ClassFile.FieldType.array Jvm.ClassFile.FieldType.double))).before args0 about1 = true := code_word (m := ⟨15, 1⟩) (meth := k15m1) (c := k15c1) (by decide +kernel) rfl rfl rfl (by decide +kernel)
set_option maxRecDepth 65536 in
theorem w_c25 : (Jvm.Cond.code ({ cls := "com/example/benchlight/benchlight/BoundsSubscriptsPinLaw", name := "digit", desc := "([DIIIIJJ)Z" } : Jvm.MethodName) method_5_code (9 : Nat) (Option.some Jvm.ClassFile.FieldType.boolean)).before args0 about1 = true := code_word (m := ⟨1, 4⟩) (meth := k1m4) (c := k1c4) (by decide +kernel) rfl rfl rfl (by decide +kernel)
def codes1 : List Jvm.Cond := [Jvm.Cond.code x code maxLocals ret, Jvm.Cond.code ({ cls := "com/example/benchlight/benchlight/BoundsSubscriptsPinLaw", name := "lowerOf", desc := "(JI)I" } : Jvm.MethodName) method_2_code (3 : Nat) (Option.some Jvm.ClassFile.FieldType.int), Jvm.Cond.code ({ cls := "com/example/benchlight/benchlight/BoundsSubscriptsPinLaw", name := "lengthOf", desc := "(JI)I" } : Jvm.MethodName) method_3_code (5 : Nat) (Option.some Jvm.ClassFile.FieldType.int), Jvm.Cond.code ({ cls := "java/util/ArrayList", name := "<init>", desc := "()V" } : Jvm.MethodName) jdk_38_method_2_code (1 : Nat) (Option.none : Option Jvm.ClassFile.FieldType), Jvm.Cond.code ({ cls := "java/util/AbstractList", name := "<init>", desc := "()V" } : Jvm.MethodName) jdk_39_method_1_code (1 : Nat) (Option.none : Option Jvm.ClassFile.FieldType), Jvm.Cond.code ({ cls := "java/util/AbstractCollection", name := "<init>", desc := "()V" } : Jvm.MethodName) jdk_22_method_1_code (1 : Nat) (Option.none : Option Jvm.ClassFile.FieldType), Jvm.Cond.code ({ cls := "java/lang/Object", name := "<init>", desc := "()V" } : Jvm.MethodName) object_method_1_code (1 : Nat) (Option.none : Option Jvm.ClassFile.FieldType), Jvm.Cond.code ({ cls := "com/example/benchlight/benchlight/Bounds$Dimension", name := "<init>", desc := "(II)V" } : Jvm.MethodName) prog_9_method_1_code (3 : Nat) (Option.none : Option Jvm.ClassFile.FieldType), Jvm.Cond.code ({ cls := "java/lang/Record", name := "<init>", desc := "()V" } : Jvm.MethodName) jdk_30_method_1_code (1 : Nat) (Option.none : Option Jvm.ClassFile.FieldType), Jvm.Cond.code ({ cls := "java/util/ArrayList", name := "add", desc := "(Ljava/lang/Object;)Z" } : Jvm.MethodName) jdk_38_method_25_code (2 : Nat) (Option.some Jvm.ClassFile.FieldType.boolean), Jvm.Cond.code ({ cls := "java/util/ArrayList", name := "add", desc := "(Ljava/lang/Object;[Ljava/lang/Object;I)V" } : Jvm.MethodName) jdk_38_method_24_code (4 : Nat) (Option.none : Option Jvm.ClassFile.FieldType), Jvm.Cond.code ({ cls := "java/util/ArrayList", name := "grow", desc := "()[Ljava/lang/Object;" } : Jvm.MethodName) jdk_38_method_7_code (1 : Nat) (Option.some (Jvm.ClassFile.FieldType.array (Jvm.ClassFile.FieldType.object "java/lang/Object"))), Jvm.Cond.code ({ cls := "java/util/ArrayList", name := "grow", desc := "(I)[Ljava/lang/Object;" } : Jvm.MethodName) jdk_38_method_6_code (4 : Nat) (Option.some (Jvm.ClassFile.FieldType.array (Jvm.ClassFile.FieldType.object "java/lang/Object"))), Jvm.Cond.code ({ cls := "java/lang/Math", name := "max", desc := "(II)I" } : Jvm.MethodName) jdk_29_method_65_code (2 : Nat) (Option.some Jvm.ClassFile.FieldType.int), Jvm.Cond.code ({ cls := "com/example/benchlight/benchlight/BoundsSubscriptsPinLaw", name := "mulCap", desc := "(JIJ)J" } : Jvm.MethodName) method_4_code (5 : Nat) (Option.some Jvm.ClassFile.FieldType.long), Jvm.Cond.code ({ cls := "java/lang/Math", name := "min", desc := "(JJ)J" } : Jvm.MethodName) jdk_29_method_70_code (4 : Nat) (Option.some Jvm.ClassFile.FieldType.long), Jvm.Cond.code ({ cls := "com/example/benchlight/benchlight/Bounds", name := "<init>", desc := "(Ljava/util/List;)V" } : Jvm.MethodName) prog_8_method_1_code (5 : Nat) (Option.none : Option Jvm.ClassFile.FieldType), Jvm.Cond.code ({ cls := "java/util/ArrayList", name := "size", desc := "()I" } : Jvm.MethodName) jdk_38_method_8_code (1 : Nat) (Option.some Jvm.ClassFile.FieldType.int), Jvm.Cond.code ({ cls := "java/util/ArrayList", name := "get", desc := "(I)Ljava/lang/Object;" } : Jvm.MethodName) jdk_38_method_20_code (2 : Nat) (Option.some (Jvm.ClassFile.FieldType.object "java/lang/Object")), Jvm.Cond.code ({ cls := "java/util/Objects", name := "checkIndex", desc := "(II)I" } : Jvm.MethodName) jdk_31_method_17_code (2 : Nat) (Option.some Jvm.ClassFile.FieldType.int), Jvm.Cond.code ({ cls := "jdk/internal/util/Preconditions", name := "checkIndex", desc := "(IILjava/util/function/BiFunction;)I" } : Jvm.MethodName) jdk_41_method_11_code (3 : Nat) (Option.some Jvm.ClassFile.FieldType.int), Jvm.Cond.code ({ cls := "java/util/ArrayList", name := "elementData", desc := "(I)Ljava/lang/Object;" } : Jvm.MethodName) jdk_38_method_18_code (2 : Nat) (Option.some (Jvm.ClassFile.FieldType.object "java/lang/Object")), Jvm.Cond.code ({ cls := "com/example/benchlight/benchlight/Bounds$Dimension", name := "lower", desc := "()I" } : Jvm.MethodName) prog_9_method_6_code (1 : Nat) (Option.some Jvm.ClassFile.FieldType.int), Jvm.Cond.code ({ cls := "com/example/benchlight/benchlight/Bounds$Dimension", name := "length", desc := "()I" } : Jvm.MethodName) prog_9_method_2_code (1 : Nat) (Option.some Jvm.ClassFile.FieldType.int), Jvm.Cond.code ({ cls := "com/example/benchlight/benchlight/Bounds", name := "subscripts", desc := "(I)[D" } : Jvm.MethodName) prog_8_method_7_code (5 : Nat) (Option.some (Jvm.ClassFile.FieldType.array Jvm.ClassFile.FieldType.double)), Jvm.Cond.code ({ cls := "com/example/benchlight/benchlight/BoundsSubscriptsPinLaw", name := "digit", desc := "([DIIIIJJ)Z" } : Jvm.MethodName) method_5_code (9 : Nat) (Option.some Jvm.ClassFile.FieldType.boolean)]
set_option maxRecDepth 65536 in
theorem codes_eq : words1.filter isCode = codes1 := rfl
theorem w_codes : ∀ c ∈ words1.filter isCode, c.before args0 about1 = true := by
  rw [codes_eq]
  intro c hc
  simp only [codes1, List.mem_cons, List.not_mem_nil, or_false] at hc
  rcases hc with rfl | rfl | rfl | rfl | rfl | rfl | rfl | rfl | rfl | rfl | rfl | rfl | rfl | rfl | rfl | rfl | rfl | rfl | rfl | rfl | rfl | rfl | rfl | rfl | rfl | rfl
  · exact w_c0
  · exact w_c1
  · exact w_c2
  · exact w_c3
  · exact w_c4
  · exact w_c5
  · exact w_c6
  · exact w_c7
  · exact w_c8
  · exact w_c9
  · exact w_c10
  · exact w_c11
  · exact w_c12
  · exact w_c13
  · exact w_c14
  · exact w_c15
  · exact w_c16
  · exact w_c17
  · exact w_c18
  · exact w_c19
  · exact w_c20
  · exact w_c21
  · exact w_c22
  · exact w_c23
  · exact w_c24
  · exact w_c25
set_option maxRecDepth 65536 in
theorem w_t1 : (words1.take 24).all (fun c => isCode c || c.before args0 about1) = true := by decide +kernel
set_option maxRecDepth 65536 in
theorem w_t2 : ((words1.drop 24).take 24).all (fun c => isCode c || c.before args0 about1) = true := by decide +kernel
set_option maxRecDepth 65536 in
theorem w_t3 : (((words1.drop 24).drop 24).take 24).all (fun c => isCode c || c.before args0 about1) = true := by decide +kernel
set_option maxRecDepth 65536 in
theorem w_t4 : ((((words1.drop 24).drop 24).drop 24).take 24).all (fun c => isCode c || c.before args0 about1) = true := by decide +kernel
set_option maxRecDepth 65536 in
theorem w_t5 : (((((words1.drop 24).drop 24).drop 24).drop 24).take 24).all (fun c => isCode c || c.before args0 about1) = true := by decide +kernel
set_option maxRecDepth 65536 in
theorem w_t6 : ((((((words1.drop 24).drop 24).drop 24).drop 24).drop 24).take 24).all (fun c => isCode c || c.before args0 about1) = true := by decide +kernel
set_option maxRecDepth 65536 in
theorem w_t7 : ((((((words1.drop 24).drop 24).drop 24).drop 24).drop 24).drop 24).all (fun c => isCode c || c.before args0 about1) = true := by decide +kernel
theorem w_tables : (allAtoms (Jvm.Cond.code x code maxLocals ret :: tables_1)).before args0 about1 = true := by
  rw [allAtoms_all]
  show words1.all (fun c => c.before args0 about1) = true
  refine all_split ?_ w_codes
  rw [← List.take_append_drop 24 words1, List.all_append, w_t1, ← List.take_append_drop 24 (words1.drop 24), List.all_append, w_t2, ← List.take_append_drop 24 ((words1.drop 24).drop 24), List.all_append, w_t3, ← List.take_append_drop 24 (((words1.drop 24).drop 24).drop 24), List.all_append, w_t4, ← List.take_append_drop 24 ((((words1.drop 24).drop 24).drop 24).drop 24), List.all_append, w_t5, ← List.take_append_drop 24 (((((words1.drop 24).drop 24).drop 24).drop 24).drop 24), List.all_append, w_t6, w_t7]
  rfl
set_option maxRecDepth 65536 in
theorem w_rest : rest_1_c.before args0 about1 = true := by decide +kernel
set_option maxRecDepth 65536 in
theorem w_case : (Jvm.Cond.and given_1 narrow_1).before args0 about1 = true := by decide +kernel
theorem w_applies : (headSpec (Jvm.Cond.code x code maxLocals ret :: tables_1) room_1).applies x e0.platform about1 = true :=
  (Spec.applies_iff w_frames).mpr ⟨w_running, w_runnable, w_alone, w_named, w_hears, w_ripe, w_room, w_tables⟩
theorem atStart : AtStart classFile x code maxLocals ret World_1 tables_1 room_1 Calls_1 rest_1 Pre_1 launch0 p0 e0 about1 theMethod args0 below0 :=
  ⟨lists_1, trivial, launch0.admits_env _ _ _, launch0.least_env, fairChoices_fair.cas, fairChoices_fair.clock, w_frames, w_args, w_heap, w_applies, trivial, w_rest, w_case⟩
end start1
theorem witness_1 : WitnessClaimed_1 := ⟨start1.p0, start1.e0, start1.about1, start1.theMethod, start1.args0, start1.below0, start1.atStart⟩
end Jvm.Pilot.@@N@@
