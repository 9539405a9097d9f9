import JvmDerived
import JvmDerived.Pilot.@@N@@Statement
import JvmDerived.Pilot.@@N@@Code
set_option linter.unusedVariables false
set_option linter.unusedSimpArgs false
@@BLOCK:NumsL.lean.txt@@
namespace Jvm.Pilot.@@N@@
open Jvm Jvm.ClassFile Sem Op Lib Jvm.Free Jvm.Stand Jvm.LawKit Jvm.RoadKit Bundle Jvm.Pilot.@@N@@.Jvm.D
/-! the run from a frame on: it ends, and what it leaves -/
def own_F (p : Program) (e : Env) (below : List Frame) (Q : Outcome → State → Prop) (T : State) (g : JFrame) : Prop :=
  ∃ s₂ o, Steps p.tables e below (T.setTop g) s₂ ∧ s₂.status = .running ∧ Ended s₂ below o ∧ Q o s₂
theorem own_go {p : Program} {e : Env} {below : List Frame} {Q : Outcome → State → Prop} {T T' : State} {g g' : JFrame} (st : ∀ target, Steps p.tables e below (T'.setTop g') target → Steps p.tables e below (T.setTop g) target) (k : own_F p e below Q T' g') : own_F p e below Q T g := by
  obtain ⟨s₂, o, h1, h2, h3, h4⟩ := k
  exact ⟨s₂, o, st _ h1, h2, h3, h4⟩
theorem own_goT {p : Program} {e : Env} {below : List Frame} {Q : Outcome → State → Prop} {T T' : State} {g g' : JFrame} (st : Steps p.tables e below (T.setTop g) (T'.setTop g')) (k : own_F p e below Q T' g') : own_F p e below Q T g := by
  obtain ⟨s₂, o, h1, h2, h3, h4⟩ := k
  exact ⟨s₂, o, st.trans h1, h2, h3, h4⟩
theorem own_end {p : Program} {e : Env} {below : List Frame} {Q : Outcome → State → Prop} {T s₂ : State} {g : JFrame} {o : Outcome} (st : Steps p.tables e below (T.setTop g) s₂) (h1 : s₂.status = .running) (h2 : Ended s₂ below o) (h3 : Q o s₂) : own_F p e below Q T g := ⟨s₂, o, st, h1, h2, h3⟩
theorem own_ext_tr {h0 h h' : Heap} (E : Ext h0 h) (E' : Ext h h') : Ext h0 h' := ⟨Nat.le_trans E.1 E'.1, fun a c q => E'.2 a c (E.2 a c q)⟩
theorem own_ext_rf (h : Heap) : Ext h h := ⟨Nat.le_refl _, fun _ _ q => q⟩
theorem own_ext_keep {h0 h h' : Heap} {ws : List Addr} (E : Ext h0 h) (K : Keep h h' ws) (q : ∀ x ∈ ws, h0.size ≤ x) : Ext h0 h' :=
  ⟨Nat.le_trans E.1 K.1, fun a c ha => K.2.1 a c (E.2 a c ha) fun k => absurd (Array.getElem?_eq_some_iff.mp ha).1 (Nat.not_lt.mpr (q a k))⟩
theorem own_ext_wr {h0 h h' : Heap} {a : Addr} {sl : Nat} {v : Value} (E : Ext h0 h) (W : Wr h h' a sl v) (q : h0.size ≤ a) : Ext h0 h' :=
  own_ext_keep E (Keep.of_wr W) fun x hx => by cases List.mem_singleton.mp hx; exact q
theorem own_two {a b d : Addr} (h : a ≠ b) (h2 : a ≠ d) : a ∉ [b, d] := fun q => by rcases List.mem_cons.mp q with e | e; exact h e; exact h2 (List.mem_singleton.mp e)
theorem own_all2 {n : Nat} {b d : Addr} (h : n ≤ b) (h2 : n ≤ d) : ∀ x ∈ [b, d], n ≤ x := fun x hx => by rcases List.mem_cons.mp hx with e | e; exact e ▸ h; exact List.mem_singleton.mp e ▸ h2
theorem own_or1 {P : Addr → Prop} {b : Addr} (h : P b) : ∀ x ∈ [b], P x := fun x hx => by cases List.mem_singleton.mp hx; exact h
theorem own_or2 {P : Addr → Prop} {b d : Addr} (h : P b) (h2 : P d) : ∀ x ∈ [b, d], P x := fun x hx => by rcases List.mem_cons.mp hx with e | e; exact e ▸ h; exact List.mem_singleton.mp e ▸ h2
def own_SK (Z : State) (h h' : Heap) : Prop := ∀ (C n d : String) (v : Value), Sta Z h C n d v → Sta Z h' C n d v
theorem own_SK.rf (Z : State) (h : Heap) : own_SK Z h h := fun _ _ _ _ q => q
theorem own_SK.ext {Z : State} {h h1 h2 : Heap} (S : own_SK Z h h1) (E : Ext h1 h2) : own_SK Z h h2 := fun C n d v q => (S C n d v q).ext E
theorem own_SK.wr {Z : State} {h h1 h2 : Heap} {a : Addr} {sl : Nat} {w : Value} (S : own_SK Z h h1) (W : Wr h1 h2 a sl w) : own_SK Z h h2 := fun C n d v q => (S C n d v q).wr W
theorem own_SK.tr {Z : State} {h h1 h2 : Heap} (S : own_SK Z h h1) (S' : own_SK Z h1 h2) : own_SK Z h h2 := fun C n d v q => S' C n d v (S C n d v q)
theorem own_mvMN {Z s : State} {a0 args : Array Value} {own host : String} {y : MethodName} {index : Nat} (hZ : Z.Warmed39 s.vm) (w : (Jvm.Cond.methodLinkNest own index y host).before a0 Z = true) : (Jvm.Cond.methodLinkNest own index y host).before args s = true := (Cond.methodLinkNest_wide hZ w :)
theorem own_frc {n k : Nat} {L : List Loc} (h : n = k) (N : Fr n L) : Fr k L := h ▸ N
theorem own_one {a b : Addr} (h : a ≠ b) : a ∉ [b] := fun q => h (List.mem_singleton.mp q)
theorem own_all1 {n : Nat} {b : Addr} (h : n ≤ b) : ∀ x ∈ [b], n ≤ x := fun x hx => by cases List.mem_singleton.mp hx; exact h
theorem own_all0 {n : Nat} : ∀ x ∈ ([] : List Addr), n ≤ x := fun x hx => nomatch hx
theorem own_lt_t {x y : Int64} (h : x < y) : lcmpW x y < 0 := by rw [lcW]; exact (lc_lt _ _).mpr h
theorem own_lt_f {x y : Int64} (h : ¬ x < y) : ¬ lcmpW x y < 0 := by rw [lcW]; exact fun k => h ((lc_lt _ _).mp k)
theorem own_gt_t {x y : Int64} (h : y < x) : 0 < lcmpW x y := by rw [lcW]; exact (lc_gt _ _).mpr h
theorem own_gt_f {x y : Int64} (h : ¬ y < x) : ¬ 0 < lcmpW x y := by rw [lcW]; exact fun k => h ((lc_gt _ _).mp k)
theorem own_eq_t {x y : Int64} (h : x = y) : lcmpW x y = 0 := by rw [lcW]; exact (lc_eq _ _).mpr h
theorem own_eq_f {x y : Int64} (h : ¬ x = y) : ¬ lcmpW x y = 0 := by rw [lcW]; exact fun k => h ((lc_eq _ _).mp k)
section OwnWords
variable {args : Array Value} {s : State} {t u : Term}
theorem own_eqi {k : Int32} (h : (Jvm.Cond.eq t (.int k)).value args s none s [] = some true) : t.eval args s none [] s = some (.int k) := by
  simp only [Cond.value, Term.eval] at h
  cases ht : t.eval args s none [] s with
  | none => simp [ht] at h
  | some x => cases x <;> simp [ht] at h ⊢; exact h
theorem own_eqr {b : Addr} (h : (Jvm.Cond.eq t u).value args s none s [] = some true) (hu : u.eval args s none [] s = some (.ref b)) : t.eval args s none [] s = some (.ref b) := by
  simp only [Cond.value, hu] at h
  cases ht : t.eval args s none [] s with
  | none => simp [ht] at h
  | some x => cases x <;> simp [ht] at h ⊢; exact h
theorem own_len {a : Addr} {k : Int32} {n : Nat} {cl : Cell} {ty : FieldType} (ht : t.eval args s none [] s = some (.ref a)) (h : (Term.length t).eval args s none [] s = some (.int k)) (A : RoadKit.Arr s s.heap a cl ty) (hk : k.toNatClampNeg = n) : cl.slots.size = n := by
  have ha : s.arrayAt? a = some cl := A.fin (Vm.Alike.refl _)
  by_cases hn : cl.slots.size < 2 ^ 31
  · rw [len_f ht ha hn] at h
    have e := Value.int.inj (Option.some.inj h)
    have q : cl.slots.size.toInt32.toInt = cl.slots.size := len_toInt hn
    rw [← hk, ← e]
    show _ = cl.slots.size.toInt32.toInt.toNat
    rw [q]; rfl
  · simp [Term.eval, ht, ha, hn] at h
theorem own_elem {a : Addr} {j : Int32} {v : Value} {cl : Cell} (ht : t.eval args s none [] s = some (.ref a)) (h : (Term.elem t (.int j)).eval args s none [] s = some v) (hc : s.heap[a]? = some cl) : cl.slots[j.toNatClampNeg]? = some v := (elem_in h ht (Term.int_eval j) hc).2
end OwnWords
theorem own_fne {Z : State} {h : Heap} {a b : Addr} {C n d : String} {x y : Value} (F : Fld Z h a C n d x) (G : Fld Z h b C n d y) (hn : x ≠ y) : a ≠ b := fun e => by
  subst e
  obtain ⟨c1, cf1, k1, i1, f1, h1, h2, -, -, -, -, h7⟩ := F
  obtain ⟨c2, cf2, k2, i2, f2, g1, g2, -, -, -, -, g7⟩ := G
  cases h1.symm.trans g1
  cases h2.symm.trans g2
  exact hn (Option.some.inj (h7.symm.trans g7))
/-! an array whose elements are all known -/
def own_A (Z : State) (h : Heap) (a : Addr) (k : ClassId) (ty : FieldType) (vs : List Value) : Prop := ∃ c : Cell, RoadKit.Arr Z h a c ty ∧ c.cls = k ∧ c.slots = vs.toArray
section OwnArrays
variable {Z : State} {h h' : Heap} {a b : Addr} {k : ClassId} {ty : FieldType} {vs : List Value} {sl : Nat} {v : Value} {ws : List Addr}
theorem own_A.lt (F : own_A Z h a k ty vs) : a < h.size := by obtain ⟨c, A, -⟩ := F; exact A.lt
theorem own_A.ext (F : own_A Z h a k ty vs) (E : Ext h h') : own_A Z h' a k ty vs := by obtain ⟨c, A, r⟩ := F; exact ⟨c, A.ext E, r⟩
theorem own_A.other (F : own_A Z h b k ty vs) (W : Wr h h' a sl v) (q : b ≠ a) : own_A Z h' b k ty vs := by obtain ⟨c, A, r⟩ := F; exact ⟨c, A.other W q, r⟩
theorem own_A.keep (F : own_A Z h a k ty vs) (K : Keep h h' ws) (q : a ∉ ws) : own_A Z h' a k ty vs := by obtain ⟨c, A, r⟩ := F; exact ⟨c, ⟨K.2.1 a c A.1 q, A.2⟩, r⟩
theorem own_A.new {n : Int32} {N : Nat} (A : RoadKit.Arr Z h a (newA k ty n) ty) (hN : n.toNatClampNeg = N) : own_A Z h a k ty (List.replicate N (defaultValue ty)) := ⟨_, A, rfl, by subst hN; simp [newA]⟩
theorem own_A.set (F : own_A Z h a k ty vs) (W : Wr h h' a sl v) : own_A Z h' a k ty (vs.set sl v) := by
  obtain ⟨c, A, q, e⟩ := F
  exact ⟨c.setSlot sl v, A.same W, q, by simp [Cell.setSlot, e]⟩
def own_el (c : Cell) : Nat → List Value → Prop
  | _, [] => True
  | i, v :: vs => c.slots[i]? = some v ∧ own_el c (i + 1) vs
theorem own_el_get {c : Cell} : ∀ (vs : List Value) (i : Nat), own_el c i vs → ∀ j, j < vs.length → c.slots[i + j]? = vs[j]?
  | [], _, _, j, hj => by simp at hj
  | v :: vs, i, H, 0, _ => by simpa using H.1
  | v :: vs, i, H, j + 1, hj => by
    have := own_el_get vs (i + 1) H.2 j (by simpa using hj)
    rw [show i + (j + 1) = i + 1 + j by omega, this]; simp
theorem own_A.of {c : Cell} (A : RoadKit.Arr Z h a c ty) (hs : c.slots.size = vs.length) (H : own_el c 0 vs) : own_A Z h a c.cls ty vs := by
  refine ⟨c, A, rfl, ?_⟩
  apply Array.ext_getElem?
  intro i
  by_cases hi : i < vs.length
  · have := own_el_get vs 0 H i hi
    rw [Nat.zero_add] at this
    rw [this]; simp
  · rw [Array.getElem?_eq_none (by omega), Array.getElem?_eq_none (by simp; omega)]
theorem own_getD {α : Type} (xs : List α) {i : Nat} (d : α) (hi : i < xs.length) : xs.getD i d = xs[i] := by simp [List.getD, hi]
theorem own_A.arv {z : Int32} {d : Value} (F : own_A Z h a k ty vs) (hz : ¬ z < 0) (hl : vs.length = z.toNatClampNeg) (hf : ∀ v ∈ vs, fits ty v = true) : Arv Z h a k ty z vs d := by
  obtain ⟨c, A, q, e⟩ := F
  refine ⟨c, A, q, by rw [e, List.size_toArray]; exact hl, hz, fun i hi => ?_, fun i hi => ?_⟩
  · rw [e, List.size_toArray] at hi
    rw [e, List.getElem?_toArray, List.getElem?_eq_getElem hi, own_getD _ _ hi]
  · rw [e, List.size_toArray] at hi
    rw [own_getD _ _ hi]; exact hf _ (List.getElem_mem hi)
theorem own_A.of_arv {z : Int32} {d : Value} (F : Arv Z h a k ty z vs d) (hl : vs.length = z.toNatClampNeg) : own_A Z h a k ty vs := by
  obtain ⟨c, A, q, S, -, H, -⟩ := F
  refine ⟨c, A, q, ?_⟩
  apply Array.ext_getElem?
  intro i
  by_cases hi : i < vs.length
  · rw [H i (by omega), List.getElem?_toArray, List.getElem?_eq_getElem hi, own_getD _ _ hi]
  · rw [Array.getElem?_eq_none (by omega), Array.getElem?_eq_none (by simp; omega)]
theorem own_A.sto {C : String} {y : Addr} (F : own_A Z h a k (.object C) vs) (O : Ovr Z k C) (I : Ins Z h y C true) : Sto Z h a (.ref y) := by
  obtain ⟨c, A, q, -⟩ := F
  exact Sto.ofV A q O I
variable {p : Program} {l : Launch} {e : Env} {R : Room} {s : State} {m : MethodId} {args : Array Value} {below : List Frame} {meth : Method} {c : Code} {T : State} {locs : List Loc} {cells slots : Nat}
theorem own_alen (X : Stand p l e R s m args below meth c T locs cells slots) (hx : p.tables.exec = Jvm.exec) (hZ : Z.Warmed39 s.vm) (eT : T.heap = h) (A : own_A Z h a k ty vs) {g : JFrame} (hg : g.method = m) {rest : List Value} (hs : g.stack = .ref a :: rest) (hd : decode c.code g.pc = .ok (.arraylength, 1)) {n : Int32} (hn : vs.length.toInt32 = n) {target : State}
    (hr : Steps p.tables e below (T.setTop { g with pc := g.pc + 1, stack := .int n :: rest }) target) : Steps p.tables e below (T.setTop g) target := by
  obtain ⟨c', A, -, e'⟩ := A
  refine X.arraylength hx (by rw [eT]; exact A.1) (State.isArrayOf_alike hZ.alike A.2.1) hg hs hd _ ?_
  rw [show c'.slots.size.toInt32 = n by rw [e', List.size_toArray]; exact hn]
  exact hr
theorem own_in {c' : Cell} {j : Int32} (e' : c'.slots = vs.toArray) (hj : ¬ j < 0) (hv : vs[j.toNatClampNeg]? = some v) : c'.slots[j.toNatClampNeg]? = some v ∧ ¬ (j < 0 ∨ c'.slots.size ≤ j.toNatClampNeg) := by
  have hv' : c'.slots[j.toNatClampNeg]? = some v := by rw [e', List.getElem?_toArray]; exact hv
  exact ⟨hv', fun q => q.elim hj fun z => absurd (Array.getElem?_eq_some_iff.mp hv').1 (Nat.not_lt.mpr z)⟩
theorem own_baload (X : Stand p l e R s m args below meth c T locs cells slots) (hx : p.tables.exec = Jvm.exec) (hZ : Z.Warmed39 s.vm) (eT : T.heap = h) (A : own_A Z h a k .byte vs) {j : Int32} (hj : ¬ j < 0) (hv : vs[j.toNatClampNeg]? = some v) {g : JFrame} (hg : g.method = m) {rest : List Value} (hs : g.stack = .int j :: .ref a :: rest) (hd : decode c.code g.pc = .ok (.baload, 1)) {target : State}
    (hr : Steps p.tables e below (T.setTop { g with pc := g.pc + 1, stack := v :: rest }) target) : Steps p.tables e below (T.setTop g) target := by
  obtain ⟨c', A, -, e'⟩ := A
  obtain ⟨hv', hin⟩ := own_in e' hj hv
  exact X.baloadBytes hx (by rw [eT]; exact A.1) (State.isArrayOf_alike hZ.alike A.2.1) A.2.2 hin hv' hg hs hd _ hr
theorem own_laload (X : Stand p l e R s m args below meth c T locs cells slots) (hx : p.tables.exec = Jvm.exec) (hZ : Z.Warmed39 s.vm) (eT : T.heap = h) (A : own_A Z h a k .long vs) {j : Int32} (hj : ¬ j < 0) (hv : vs[j.toNatClampNeg]? = some v) {g : JFrame} (hg : g.method = m) {rest : List Value} (hs : g.stack = .int j :: .ref a :: rest) (hd : decode c.code g.pc = .ok (.laload, 1)) {target : State}
    (hr : Steps p.tables e below (T.setTop { g with pc := g.pc + 1, stack := v :: rest }) target) : Steps p.tables e below (T.setTop g) target := by
  obtain ⟨c', A, -, e'⟩ := A
  obtain ⟨hv', hin⟩ := own_in e' hj hv
  exact X.laload hx (by rw [eT]; exact A.1) (State.isArrayOf_alike hZ.alike A.2.1) A.2.2 hin hv' hg hs hd _ hr
theorem own_iaload (X : Stand p l e R s m args below meth c T locs cells slots) (hx : p.tables.exec = Jvm.exec) (hZ : Z.Warmed39 s.vm) (eT : T.heap = h) (A : own_A Z h a k .int vs) {j : Int32} (hj : ¬ j < 0) (hv : vs[j.toNatClampNeg]? = some v) {g : JFrame} (hg : g.method = m) {rest : List Value} (hs : g.stack = .int j :: .ref a :: rest) (hd : decode c.code g.pc = .ok (.iaload, 1)) {target : State}
    (hr : Steps p.tables e below (T.setTop { g with pc := g.pc + 1, stack := v :: rest }) target) : Steps p.tables e below (T.setTop g) target := by
  obtain ⟨c', A, -, e'⟩ := A
  obtain ⟨hv', hin⟩ := own_in e' hj hv
  exact X.iaload hx (by rw [eT]; exact A.1) (State.isArrayOf_alike hZ.alike A.2.1) A.2.2 hin hv' hg hs hd _ hr
theorem own_caload (X : Stand p l e R s m args below meth c T locs cells slots) (hx : p.tables.exec = Jvm.exec) (hZ : Z.Warmed39 s.vm) (eT : T.heap = h) (A : own_A Z h a k .char vs) {j : Int32} (hj : ¬ j < 0) (hv : vs[j.toNatClampNeg]? = some v) {g : JFrame} (hg : g.method = m) {rest : List Value} (hs : g.stack = .int j :: .ref a :: rest) (hd : decode c.code g.pc = .ok (.caload, 1)) {target : State}
    (hr : Steps p.tables e below (T.setTop { g with pc := g.pc + 1, stack := v :: rest }) target) : Steps p.tables e below (T.setTop g) target := by
  obtain ⟨c', A, -, e'⟩ := A
  obtain ⟨hv', hin⟩ := own_in e' hj hv
  exact X.caload hx (by rw [eT]; exact A.1) (State.isArrayOf_alike hZ.alike A.2.1) A.2.2 hin hv' hg hs hd _ hr
theorem own_aaload (X : Stand p l e R s m args below meth c T locs cells slots) (hx : p.tables.exec = Jvm.exec) (hZ : Z.Warmed39 s.vm) (eT : T.heap = h) (A : own_A Z h a k ty vs) {j : Int32} (hj : ¬ j < 0) (hv : vs[j.toNatClampNeg]? = some v) (ht : ty.isReference = true) {g : JFrame} (hg : g.method = m) {rest : List Value} (hs : g.stack = .int j :: .ref a :: rest) (hd : decode c.code g.pc = .ok (.aaload, 1)) {target : State}
    (hr : Steps p.tables e below (T.setTop { g with pc := g.pc + 1, stack := v :: rest }) target) : Steps p.tables e below (T.setTop g) target := by
  obtain ⟨c', A, -, e'⟩ := A
  obtain ⟨hv', hin⟩ := own_in e' hj hv
  exact X.aaload hx (by rw [eT]; exact A.1) (State.isArrayOf_alike hZ.alike A.2.1) ht A.2.2 hin hv' hg hs hd _ hr
theorem own_inb {c' : Cell} {j : Int32} {i : Nat} (e' : c'.slots = vs.toArray) (hi : j.toNatClampNeg = i) (hj : ¬ j < 0) (hl : i < vs.length) : ¬ (j < 0 ∨ c'.slots.size ≤ j.toNatClampNeg) := fun q => q.elim hj fun z => by
  rw [e', List.size_toArray, hi] at z; omega
theorem own_bastore (X : Stand p l e R s m args below meth c T locs cells slots) (hx : p.tables.exec = Jvm.exec) (hZ : Z.Warmed39 s.vm) (eT : T.heap = h) (A : own_A Z h a k .byte vs) {j x : Int32} {i : Nat} (hi : j.toNatClampNeg = i) (hj : ¬ j < 0) (hl : i < vs.length) {g : JFrame} (hg : g.method = m) {rest : List Value} (hs : g.stack = .int x :: .int j :: .ref a :: rest) (hd : decode c.code g.pc = .ok (.bastore, 1)) :
    ∃ T' h', Stand p l e R s m args below meth c T' (locs ++ [⟨a, i⟩]) cells slots ∧ T'.heap = h' ∧ own_A Z h' a k .byte (vs.set i (.int (nar .byte x))) ∧ Wr h h' a i (.int (nar .byte x)) ∧ ∀ target, Steps p.tables e below (T'.setTop { g with pc := g.pc + 1, stack := rest }) target → Steps p.tables e below (T.setTop g) target := by
  obtain ⟨c', A', q, e'⟩ := A
  obtain ⟨T', h', X', e1, W, st⟩ := stB X hx hZ eT A' (own_inb e' hi hj hl) hg hs hd
  subst hi
  exact ⟨T', h', X', e1, own_A.set ⟨c', A', q, e'⟩ W, W, st⟩
theorem own_lastore (X : Stand p l e R s m args below meth c T locs cells slots) (hx : p.tables.exec = Jvm.exec) (hZ : Z.Warmed39 s.vm) (eT : T.heap = h) (A : own_A Z h a k .long vs) {j : Int32} {x : Int64} {i : Nat} (hi : j.toNatClampNeg = i) (hj : ¬ j < 0) (hl : i < vs.length) {g : JFrame} (hg : g.method = m) {rest : List Value} (hs : g.stack = .long x :: .int j :: .ref a :: rest) (hd : decode c.code g.pc = .ok (.lastore, 1)) :
    ∃ T' h', Stand p l e R s m args below meth c T' (locs ++ [⟨a, i⟩]) cells slots ∧ T'.heap = h' ∧ own_A Z h' a k .long (vs.set i (.long x)) ∧ Wr h h' a i (.long x) ∧ ∀ target, Steps p.tables e below (T'.setTop { g with pc := g.pc + 1, stack := rest }) target → Steps p.tables e below (T.setTop g) target := by
  obtain ⟨c', A', q, e'⟩ := A
  obtain ⟨T', h', X', e1, W, st⟩ := stJ X hx hZ eT A' (own_inb e' hi hj hl) hg hs hd
  subst hi
  exact ⟨T', h', X', e1, own_A.set ⟨c', A', q, e'⟩ W, W, st⟩
theorem own_aastore (X : Stand p l e R s m args below meth c T locs cells slots) (hx : p.tables.exec = Jvm.exec) (hZ : Z.Warmed39 s.vm) (eT : T.heap = h) (A : own_A Z h a k ty vs) {j : Int32} {i : Nat} (hi : j.toNatClampNeg = i) (hj : ¬ j < 0) (hl : i < vs.length) (ht : ty.isReference = true) (F : Sto Z h a v) {g : JFrame} (hg : g.method = m) {rest : List Value} (hs : g.stack = v :: .int j :: .ref a :: rest) (hd : decode c.code g.pc = .ok (.aastore, 1)) :
    ∃ T' h', Stand p l e R s m args below meth c T' (locs ++ [⟨a, i⟩]) cells slots ∧ T'.heap = h' ∧ own_A Z h' a k ty (vs.set i v) ∧ Wr h h' a i v ∧ ∀ target, Steps p.tables e below (T'.setTop { g with pc := g.pc + 1, stack := rest }) target → Steps p.tables e below (T.setTop g) target := by
  obtain ⟨c', A', q, e'⟩ := A
  obtain ⟨T', h', X', e1, W, st⟩ := stR X hx hZ eT A' (own_inb e' hi hj hl) ht F hg hs hd
  subst hi
  exact ⟨T', h', X', e1, own_A.set ⟨c', A', q, e'⟩ W, W, st⟩
end OwnArrays
theorem own_neA {Z : State} {h : Heap} {x b : Addr} {C : String} {k : ClassId} {ty : FieldType} {vs : List Value} {a0 : Array Value} {n : Nat} (E : Exa Z h x C) (w : (Jvm.Cond.instantiable C n).before a0 Z = true) (F : own_A Z h b k ty vs) : x ≠ b := by
  obtain ⟨c, A, -⟩ := F
  exact ne_arr E w A
theorem own_m31 (x : Int32) : (x &&& 2147483647).toInt = x.toInt % 2 ^ 31 := Jvm.Kit.i32_mask x 2147483647 (k := 31) (by decide) (by decide)
theorem own_numI (x : Int32) : 1 ≤ ((1 : Int32) + ((x &&& (2147483647 : Int32)) % (2147483647 : Int32))).toInt := by
  have h1 := own_m31 x
  have h2 : ((x &&& 2147483647) % 2147483647).toInt = (x &&& 2147483647).toInt % (2147483647 : Int32).toInt := Jvm.Kit.i32_rem_nonneg (by omega)
  have h3 : (2147483647 : Int32).toInt = 2147483647 := rfl
  have h4 : (1 : Int32).toInt = 1 := rfl
  rw [h3] at h2
  rw [Jvm.Kit.i32_add (by omega) (by omega)]; omega
theorem own_and3 (x : Int32) : (x &&& (3 : Int32)) = 0 ∨ (x &&& (3 : Int32)) = 1 ∨ (x &&& (3 : Int32)) = 2 ∨ (x &&& (3 : Int32)) = 3 := by
  have h : (x &&& 3).toInt = x.toInt % 2 ^ 2 := Jvm.Kit.i32_mask x 3 (k := 2) (by decide) (by decide)
  have z : (x &&& 3).toInt = 0 ∨ (x &&& 3).toInt = 1 ∨ (x &&& 3).toInt = 2 ∨ (x &&& 3).toInt = 3 := by omega
  rcases z with z | z | z | z
  · exact Or.inl (Int32.toInt_inj.mp z)
  · exact Or.inr (Or.inl (Int32.toInt_inj.mp z))
  · exact Or.inr (Or.inr (Or.inl (Int32.toInt_inj.mp z)))
  · exact Or.inr (Or.inr (Or.inr (Int32.toInt_inj.mp z)))
theorem own_num0 (xn : Int32) : (0 : Int32) < ((1 : Int32) + ((xn &&& (2147483647 : Int32)) % (2147483647 : Int32))) := by
  have h := own_numI xn
  generalize ((1 : Int32) + ((xn &&& (2147483647 : Int32)) % (2147483647 : Int32))) = u at h ⊢
  rw [Int32.lt_iff_toInt_lt]; have : (0 : Int32).toInt = 0 := rfl; omega
theorem own_num1 (xn : Int32) : (1 : Int32) < ((1 : Int32) + ((xn &&& (2147483647 : Int32)) % (2147483647 : Int32))) ∨ ((1 : Int32) + ((xn &&& (2147483647 : Int32)) % (2147483647 : Int32))) = 1 := by
  have h := own_numI xn
  generalize ((1 : Int32) + ((xn &&& (2147483647 : Int32)) % (2147483647 : Int32))) = u at h ⊢
  have hc : (1 : Int32).toInt = 1 := rfl
  by_cases q : (1 : Int32) < u
  · exact Or.inl q
  · rw [Int32.lt_iff_toInt_lt, hc] at q
    have z : u.toInt = 1 := by omega
    refine Or.inr ?_
    rcases z with z
    · exact (Int32.toInt_inj.mp z)
theorem own_num2 (xn : Int32) : (2 : Int32) < ((1 : Int32) + ((xn &&& (2147483647 : Int32)) % (2147483647 : Int32))) ∨ ((1 : Int32) + ((xn &&& (2147483647 : Int32)) % (2147483647 : Int32))) = 1 ∨ ((1 : Int32) + ((xn &&& (2147483647 : Int32)) % (2147483647 : Int32))) = 2 := by
  have h := own_numI xn
  generalize ((1 : Int32) + ((xn &&& (2147483647 : Int32)) % (2147483647 : Int32))) = u at h ⊢
  have hc : (2 : Int32).toInt = 2 := rfl
  by_cases q : (2 : Int32) < u
  · exact Or.inl q
  · rw [Int32.lt_iff_toInt_lt, hc] at q
    have z : u.toInt = 1 ∨ u.toInt = 2 := by omega
    refine Or.inr ?_
    rcases z with z | z
    · exact Or.inl (Int32.toInt_inj.mp z)
    · exact Or.inr ((Int32.toInt_inj.mp z))
theorem own_num3 (xn : Int32) : (3 : Int32) < ((1 : Int32) + ((xn &&& (2147483647 : Int32)) % (2147483647 : Int32))) ∨ ((1 : Int32) + ((xn &&& (2147483647 : Int32)) % (2147483647 : Int32))) = 1 ∨ ((1 : Int32) + ((xn &&& (2147483647 : Int32)) % (2147483647 : Int32))) = 2 ∨ ((1 : Int32) + ((xn &&& (2147483647 : Int32)) % (2147483647 : Int32))) = 3 := by
  have h := own_numI xn
  generalize ((1 : Int32) + ((xn &&& (2147483647 : Int32)) % (2147483647 : Int32))) = u at h ⊢
  have hc : (3 : Int32).toInt = 3 := rfl
  by_cases q : (3 : Int32) < u
  · exact Or.inl q
  · rw [Int32.lt_iff_toInt_lt, hc] at q
    have z : u.toInt = 1 ∨ u.toInt = 2 ∨ u.toInt = 3 := by omega
    refine Or.inr ?_
    rcases z with z | z | z
    · exact Or.inl (Int32.toInt_inj.mp z)
    · exact Or.inr (Or.inl (Int32.toInt_inj.mp z))
    · exact Or.inr (Or.inr ((Int32.toInt_inj.mp z)))
theorem own_skeep {Z : State} {h h' : Heap} {b : Addr} {k : ClassId} {ty : FieldType} {vs : List Value} (K : Keep h h' [b]) (A : own_A Z h b k ty vs) : own_SK Z h h' := fun C n d v F => by
  obtain ⟨cf, i, kk, f, st, cell, h1, h2, h3, h4, h5, h6, h7⟩ := F
  obtain ⟨c, Ar, -⟩ := A
  refine ⟨cf, i, kk, f, st, cell, h1, h2, h3, h4, K.2.1 st cell h5 (own_one fun e => ?_), h6, h7⟩
  subst e
  cases h5.symm.trans Ar.1
  rw [Ar.plain] at h6; cases h6
theorem own_nsR {Z : State} {a0 : Array Value} {O K : String} {n : Nat} (w : (Jvm.Cond.noSuperclass O).before a0 Z = true) (wk : (Jvm.Cond.instantiable K n).before a0 Z = true) (hn : O ≠ K) : NS Z O K := by
  obtain ⟨c, k, h1, h2, h3, -, -⟩ := Cond.noSuperclass_spec w
  obtain ⟨t, kt, g1, -⟩ := Cond.instantiable_spec wk
  have ne := ids_ne h1 g1 hn
  refine ⟨c, t, h1, g1, fun fuel => ?_⟩
  cases fuel with
  | zero => rfl
  | succ f => simp [Vm.isSubclassAux, ne, h2, h3]
theorem own_nsN {Z : State} {a0 : Array Value} {C S K : String} {n : Nat} (w : (Jvm.Cond.superclass C S).before a0 Z = true) (wk : (Jvm.Cond.instantiable K n).before a0 Z = true) (N : NS Z C K) (hn : C ≠ K) : ∃ c t, Z.vm.findClass C = some c ∧ Z.vm.findClass K = some t ∧ Z.vm.assignable c t = false := by
  obtain ⟨c, t, h0, g0, n3⟩ := N
  obtain ⟨p, k, kp, h1, h2, h3, h4, h5, -, h7⟩ := Cond.superclass_spec h0 w
  obtain ⟨t', kq, g1, g2, g5, g6, -⟩ := Cond.instantiable_spec wk
  cases g0.symm.trans g1
  have ne := ids_ne h0 g0 hn
  have g7 : kq.isInterface = false := by cases q : kq.isInterface <;> simp [q] at g6 ⊢
  refine ⟨c, t, h0, g0, ?_⟩
  show Z.vm.assignableAux (255 + 1) c t = false
  simp [Vm.assignableAux, ne, h2, g2, h5, g5, g7, Vm.isSubclass, n3]
def own_Mir (Z : State) (C : String) (m : Addr) : Prop := ∃ (c : ClassId) (k : Class), Z.vm.findClass C = some c ∧ Z.vm.classes[c]? = some k ∧ k.mirror = some m
theorem own_mirS {Z s : State} {args : Array Value} {C : String} {m : Addr} (hZ : Z.Warmed39 s.vm) (M : own_Mir Z C m) : (Term.mirror C).eval args s none [] s = some (.ref m) := by
  obtain ⟨c, k, m1, m2, m3⟩ := M
  obtain ⟨k', q, ek⟩ := hZ.alike.2.2 _ _ m2
  have f : s.vm.findClass C = some c := by rw [hZ.alike.findClass]; exact m1
  have g : k'.mirror = some m := by rw [ek]; exact m3
  simp [Term.eval, f, q, g]
section OwnMirror
variable {p : Program} {l : Launch} {e : Env} {R : Room} {s : State} {m : MethodId} {args : Array Value} {below : List Frame} {meth : Method} {c : Code} {T : State} {locs : List Loc} {cells slots : Nat} {Z : State} {a0 : Array Value} {h : Heap} {a : Addr}
theorem own_gcls (X : Stand p l e R s m args below meth c T locs cells slots) (hx : p.tables.exec = Jvm.exec) (hZ : Z.Warmed39 s.vm) {own C : String} {index : Nat} (hown : s.vm.findClass own = some m.cls)
    (w1 : (Jvm.Cond.methodLink own index ⟨"java/lang/Object", "getClass", "()Ljava/lang/Class;"⟩).before a0 Z = true) (w2 : (Jvm.Cond.declares ⟨"java/lang/Object", "getClass", "()Ljava/lang/Class;"⟩).before a0 Z = true) (w3 : (Jvm.Cond.noSuperclass "java/lang/Object").before a0 Z = true) (w4 : (Jvm.Cond.selects C ⟨"java/lang/Object", "getClass", "()Ljava/lang/Class;"⟩ ⟨"java/lang/Object", "getClass", "()Ljava/lang/Class;"⟩).before a0 Z = true)
    (w5 : (Jvm.Cond.instanceMethod ⟨"java/lang/Object", "getClass", "()Ljava/lang/Class;"⟩).before a0 Z = true) (w6 : (Jvm.Cond.native ⟨"java/lang/Object", "getClass", "()Ljava/lang/Class;"⟩).before a0 Z = true) (eT : T.heap = h) (E : Exa Z h a C) {mr : Addr} (M : own_Mir Z C mr)
    {g : JFrame} (hg : g.method = m) (hsize : g.locals.size = c.maxLocals) {rest : List Value} (hs : g.stack = .ref a :: rest) (hd : decode c.code g.pc = .ok (.invokevirtual index, 3)) (hf : 1 ≤ R.frames) {W : Nat} (hW : 2 * g.monitorRoom + (rest.map fun v => v.category).sum ≤ W) (hl : W + (nativeFrameWords "java/lang/Object" "getClass" 1 + 11) ≤ R.locals) :
    ∃ T', Stand p l e R s m args below meth c T' locs cells slots ∧ T'.heap = h ∧ ∀ target, Steps p.tables e below (T'.setTop { g with pc := g.pc + 3, stack := .ref mr :: rest }) target → Steps p.tables e below (T.setTop g) target := by
  obtain ⟨cB, kB, i1, i2, i3⟩ := isOf hZ eT E
  have hm := own_mirS (args := args) hZ M
  obtain ⟨c2, k2, a2, f1, f2, f3, f4⟩ := Term.mirror_spec hm
  cases f4
  cases i1.symm.trans f1
  obtain ⟨vm', X', st⟩ := X.getClassOf hx hown (mvT hZ w1) (mvT hZ w2) (nf_top (args := #[]) (mvT hZ w3)) (mvT hZ w4) (mvT hZ w5) (mvT hZ w6) i1 i3 f2 f3 hg hsize hs hd hf (by omega)
  exact ⟨_, X', eT, st⟩
end OwnMirror
theorem own_dAc_0 : decode jdk_22_method_1_code 0 = .ok (.aload_n 0, 1) := by decide +kernel
theorem own_dAc_1 : decode jdk_22_method_1_code 1 = .ok (.invokespecial 1, 3) := by decide +kernel
theorem own_dAc_4 : decode jdk_22_method_1_code 4 = .ok (.return_, 1) := by decide +kernel
theorem own_efAc (m : MethodId) (xo : Addr) : entryFrame m #[(.ref xo)] 1 = mkF m 0 #[.val (.ref xo)] [] := by first | (simp [entryFrame, mkF, argsToLocals, Value.category]; done) | rfl
def own_QAc (Z : State) (xo : Addr)  (h0 : Heap) (n0 : Nat) (v : Option Value) (h : Heap) (L : List Loc) : Prop := v = none ∧ Fr n0 L ∧ h = h0
theorem own_pn0 : plainName "java/util/AbstractCollection" = true := by first | (simp [plainName, overriddenIn]; done) | decide +kernel
set_option maxRecDepth 65536 in
set_option maxHeartbeats 40000000 in
theorem own_rAc (l : Launch) (Z : State) (a0 : Array Value) (hw : ∀ d ∈ tables_1, d.before a0 Z = true) (ws : List Jvm.Cond) (xo : Addr)  (h0 : Heap) (n0 : Nat) (Z0 : n0 ≤ h0.size) :
    MetFree l (⟨"java/util/AbstractCollection", "<init>", "()V"⟩ : MethodName) (head1 (Jvm.Cond.code (⟨"java/util/AbstractCollection", "<init>", "()V"⟩ : MethodName) jdk_22_method_1_code 1 none :: ws) ({ frames := 1, cells := 0, slots := 0, locals := 12 } : Room)) (fun a U => a = #[(.ref xo)] ∧ Z.Warmed39 U.vm ∧ U.heap = h0) (fun _ _ _ _ _ => True) (fun _ U o U' => ∃ v L, o = .returned v ∧ own_QAc Z xo h0 n0 v U'.heap L ∧ FrameEnd U o U' L ({ frames := 1, cells := 0, slots := 0, locals := 12 } : Room).cells ({ frames := 1, cells := 0, slots := 0, locals := 12 } : Room).slots) := by
  refine MetFree.of_bodySF (plainFor_of_name own_pn0) hisR ?_
  intro p e s m args below meth c s₁ Bd hml0 hP hK
  obtain ⟨rfl, hZ, hh⟩ := hP
  have hx := Bd.exec
  have hby := Bd.bytes
  have hml : c.maxLocals = 1 := hml0
  have hown : s.vm.findClass "java/util/AbstractCollection" = some m.cls := findClass_of_methodNamed Bd.named
  have hnm := (name_of_methodNamed Bd.named Bd.method).1
  have X0 : Stand p l e ({ frames := 1, cells := 0, slots := 0, locals := 12 } : Room) s m #[(.ref xo)] below meth c s₁ [] 0 0 := Stand.of_body Bd
  have e0 : s₁.heap = h0 := by rw [← hh, Bd.state]; rfl
  have N0 := Fr.nil n0
  show own_F p e below (fun o U' => ∃ v L, o = .returned v ∧ own_QAc Z xo h0 n0 v U'.heap L ∧ FrameEnd s o U' L ({ frames := 1, cells := 0, slots := 0, locals := 12 } : Room).cells ({ frames := 1, cells := 0, slots := 0, locals := 12 } : Room).slots) s₁ (entryFrame m #[(.ref xo)] 1)
  rw [own_efAc m xo]
  refine own_go (T' := s₁) (g' := (mkF m 1 #[.val (.ref xo)] [(.ref xo)])) (fun _ k => XS.aloadN X0.here hx rfl (hb hby own_dAc_0) rfl rfl k) ?_
  obtain ⟨T1, X1, e1, st1⟩ := initO X0 hx hZ hown (hw _ (List.mem_of_getElem? (i := 38) rfl)) (hw _ (List.mem_of_getElem? (i := 14) rfl)) (hw _ (List.mem_of_getElem? (i := 15) rfl)) e0 (g := (mkF m 1 #[.val (.ref xo)] [(.ref xo)])) rfl (by rw [hml]; rfl) rfl (hb hby own_dAc_1) (by decide) (W := 0) (by show 2 * 0 + _ ≤ _; exact Nat.le_of_eq rfl) (by decide)
  refine own_go (T' := T1) (g' := (mkF m 4 #[.val (.ref xo)] [])) (fun _ k => st1 _ k) ?_
  obtain ⟨fs, hr, hrun, hended, hW, hsame⟩ := X1.leave (v := none) (fun _ => rfl)
  refine own_end (X1.returnOut hx Bd.returns (hb hby own_dAc_4) hr) hrun hended ⟨_, _, rfl, (?_ : own_QAc Z xo h0 n0 _ T1.heap _), ⟨_, rfl⟩, hW, hsame.mono (by decide) (by decide)⟩
  rw [e1]
  exact ⟨rfl, N0, rfl⟩
theorem own_pd0 : parseMethodDescriptor "()V" = some ⟨[], none⟩ := by decide +kernel
theorem own_dAbl_0 : decode jdk_39_method_1_code 0 = .ok (.aload_n 0, 1) := by decide +kernel
theorem own_dAbl_1 : decode jdk_39_method_1_code 1 = .ok (.invokespecial 1, 3) := by decide +kernel
theorem own_dAbl_4 : decode jdk_39_method_1_code 4 = .ok (.aload_n 0, 1) := by decide +kernel
theorem own_dAbl_5 : decode jdk_39_method_1_code 5 = .ok (.iconst 0, 1) := by decide +kernel
theorem own_dAbl_6 : decode jdk_39_method_1_code 6 = .ok (.putfield 7, 3) := by decide +kernel
theorem own_dAbl_9 : decode jdk_39_method_1_code 9 = .ok (.return_, 1) := by decide +kernel
theorem own_efAbl (m : MethodId) (xo : Addr) : entryFrame m #[(.ref xo)] 1 = mkF m 0 #[.val (.ref xo)] [] := by first | (simp [entryFrame, mkF, argsToLocals, Value.category]; done) | rfl
def own_QAbl (Z : State) (xo : Addr)  (h0 : Heap) (n0 : Nat) (v : Option Value) (h : Heap) (L : List Loc) : Prop := v = none ∧ Fr n0 L ∧ Keep h0 h [xo] ∧ own_SK Z h0 h ∧ Exa Z h xo "java/util/ArrayList" ∧ Fld Z h xo "java/util/AbstractList" "modCount" "I" (.int (0 : Int32)) ∧ Fld Z h xo "java/util/ArrayList" "elementData" "[Ljava/lang/Object;" .null ∧ Fld Z h xo "java/util/ArrayList" "size" "I" (.int (0 : Int32))
theorem own_pn1 : plainName "java/util/AbstractList" = true := by first | (simp [plainName, overriddenIn]; done) | decide +kernel
set_option maxRecDepth 65536 in
set_option maxHeartbeats 40000000 in
theorem own_rAbl (l : Launch) (Z : State) (a0 : Array Value) (hw : ∀ d ∈ tables_1, d.before a0 Z = true) (ws : List Jvm.Cond) (xo : Addr)  (h0 : Heap) (n0 : Nat) (Z0 : n0 ≤ h0.size) (E1 : Exa Z h0 xo "java/util/ArrayList") (Fm : Fld Z h0 xo "java/util/AbstractList" "modCount" "I" (.int (0 : Int32))) (Fe : Fld Z h0 xo "java/util/ArrayList" "elementData" "[Ljava/lang/Object;" .null) (Fs : Fld Z h0 xo "java/util/ArrayList" "size" "I" (.int (0 : Int32))) (gz : n0 ≤ xo) :
    MetFree l (⟨"java/util/AbstractList", "<init>", "()V"⟩ : MethodName) (head1 (Jvm.Cond.code (⟨"java/util/AbstractList", "<init>", "()V"⟩ : MethodName) jdk_39_method_1_code 1 none :: ws) ({ frames := 2, cells := 0, slots := 0, locals := 24 } : Room)) (fun a U => a = #[(.ref xo)] ∧ Z.Warmed39 U.vm ∧ U.heap = h0) (fun _ _ _ _ _ => True) (fun _ U o U' => ∃ v L, o = .returned v ∧ own_QAbl Z xo h0 n0 v U'.heap L ∧ FrameEnd U o U' L ({ frames := 2, cells := 0, slots := 0, locals := 24 } : Room).cells ({ frames := 2, cells := 0, slots := 0, locals := 24 } : Room).slots) := by
  refine MetFree.of_bodySF (plainFor_of_name own_pn1) hisR ?_
  intro p e s m args below meth c s₁ Bd hml0 hP hK
  obtain ⟨rfl, hZ, hh⟩ := hP
  have hx := Bd.exec
  have hby := Bd.bytes
  have hml : c.maxLocals = 1 := hml0
  have hown : s.vm.findClass "java/util/AbstractList" = some m.cls := findClass_of_methodNamed Bd.named
  have hnm := (name_of_methodNamed Bd.named Bd.method).1
  have X0 : Stand p l e ({ frames := 2, cells := 0, slots := 0, locals := 24 } : Room) s m #[(.ref xo)] below meth c s₁ [] 0 0 := Stand.of_body Bd
  have e0 : s₁.heap = h0 := by rw [← hh, Bd.state]; rfl
  have N0 := Fr.nil n0
  show own_F p e below (fun o U' => ∃ v L, o = .returned v ∧ own_QAbl Z xo h0 n0 v U'.heap L ∧ FrameEnd s o U' L ({ frames := 2, cells := 0, slots := 0, locals := 24 } : Room).cells ({ frames := 2, cells := 0, slots := 0, locals := 24 } : Room).slots) s₁ (entryFrame m #[(.ref xo)] 1)
  rw [own_efAbl m xo]
  refine own_go (T' := s₁) (g' := (mkF m 1 #[.val (.ref xo)] [(.ref xo)])) (fun _ k => XS.aloadN X0.here hx rfl (hb hby own_dAbl_0) rfl rfl k) ?_
  obtain ⟨_, _, ⟨T1, L1, k1, n1⟩, -, X1, ⟨Lc1, hQ1, l1, y1, z1⟩, st1⟩ := X0.specialBack hx (y := (⟨"java/util/AbstractCollection", "<init>", "()V"⟩ : MethodName)) rfl hown (mvT hZ (hw _ (List.mem_of_getElem? (i := 32) rfl))) (mvT hZ (hw _ (List.mem_of_getElem? (i := 33) rfl))) (mvT hZ (hw _ (List.mem_of_getElem? (i := 37) rfl))) (by decide) (backOf (W := 0) (own_rAc l Z a0 hw [] xo h0 n0 Z0 ) hZ (hw _ (List.mem_of_getElem? (i := 37) rfl)) (hw _ (List.mem_of_getElem? (i := 36) rfl)) (by decide) (by decide)) (g := (mkF m 1 #[.val (.ref xo)] [(.ref xo)])) rfl (by rw [hml]; rfl) (Steps.refl _) (a := xo) (argsL := []) (rest := []) (lenOf own_pd0 rfl) rfl (by show 2 * 0 + _ ≤ _; exact Nat.le_of_eq rfl) (hb hby own_dAbl_1) (fun _ _ => ⟨rfl, e0, (by decide : 0 + 0 ≤ _), (by decide : 0 + 0 ≤ _)⟩)
  dsimp only [Pt.U, Pt.locs, Pt.cells, Pt.slots] at X1 l1 y1 z1 st1 hQ1
  subst l1 y1 z1
  obtain ⟨rfl, N1q, e1⟩ := hQ1
  have N1 := Fr.app N0 N1q
  refine own_goT (T' := T1) (g' := (mkF m 4 #[.val (.ref xo)] [])) st1 ?_
  refine own_go (T' := T1) (g' := (mkF m 5 #[.val (.ref xo)] [(.ref xo)])) (fun _ k => XS.aloadN X1.here hx rfl (hb hby own_dAbl_4) rfl rfl k) ?_
  refine own_go (T' := T1) (g' := (mkF m 6 #[.val (.ref xo)] [(.int (0 : Int32)), (.ref xo)])) (fun _ k => XS.iconst X1.here hx rfl (hb hby own_dAbl_5) k) ?_
  obtain ⟨T2, h2, X2, e2, W2, st2⟩ := putF X1 hx hZ hown (host := "") (Or.inl (hw _ (List.mem_of_getElem? (i := 39) rfl))) Via.refl e1 Fm E1 (Or.inl (hw _ (List.mem_of_getElem? (i := 40) rfl))) (hw _ (List.mem_of_getElem? (i := 21) rfl)) (ty := .int) (by decide) rfl rfl (g := (mkF m 6 #[.val (.ref xo)] [(.int (0 : Int32)), (.ref xo)])) rfl rfl (hb hby own_dAbl_6)
  have Fw2 := Fm.same W2
  have Ek3 := E1.wr W2
  have Fk4 := Fe.other W2 (Or.inr (slot_ne (Or.inl (hw _ (List.mem_of_getElem? (i := 43) rfl))) (Or.inl (hw _ (List.mem_of_getElem? (i := 40) rfl))) (by decide) (t := (.array (.object "java/lang/Object"))) (t' := .int) (by decide) (by decide)))
  have Fk5 := Fs.other W2 (Or.inr (slot_ne (Or.inl (hw _ (List.mem_of_getElem? (i := 80) rfl))) (Or.inl (hw _ (List.mem_of_getElem? (i := 40) rfl))) (by decide) (t := .int) (t' := .int) (by decide) (by decide)))
  have Z2 : n0 ≤ h2.size := Nat.le_trans Z0 (Keep.of_wr W2).1
  have K2 : Keep h0 h2 [xo] := (Keep.refl h0 [xo]).wr W2 (Or.inl (List.mem_of_getElem? (i := 0) rfl))
  have N2 := Fr.snoc X2 N1 gz
  have SK2 : own_SK Z h0 h2 := (own_SK.rf Z h0).wr W2
  refine own_go (T' := T2) (g' := (mkF m 9 #[.val (.ref xo)] [])) (fun _ k => st2 _ k) ?_
  obtain ⟨fs, hr, hrun, hended, hW, hsame⟩ := X2.leave (v := none) (fun _ => rfl)
  refine own_end (X2.returnOut hx Bd.returns (hb hby own_dAbl_9) hr) hrun hended ⟨_, _, rfl, (?_ : own_QAbl Z xo h0 n0 _ T2.heap _), ⟨_, rfl⟩, hW, hsame.mono (by decide) (by decide)⟩
  rw [e2]
  exact ⟨rfl, N2, K2, SK2, Ek3, Fw2, Fk4, Fk5⟩
theorem own_dAli_0 : decode jdk_38_method_2_code 0 = .ok (.aload_n 0, 1) := by decide +kernel
theorem own_dAli_1 : decode jdk_38_method_2_code 1 = .ok (.invokespecial 1, 3) := by decide +kernel
theorem own_dAli_4 : decode jdk_38_method_2_code 4 = .ok (.aload_n 0, 1) := by decide +kernel
theorem own_dAli_5 : decode jdk_38_method_2_code 5 = .ok (.getstatic 39, 3) := by decide +kernel
theorem own_dAli_8 : decode jdk_38_method_2_code 8 = .ok (.putfield 9, 3) := by decide +kernel
theorem own_dAli_11 : decode jdk_38_method_2_code 11 = .ok (.return_, 1) := by decide +kernel
theorem own_efAli (m : MethodId) (xo : Addr) : entryFrame m #[(.ref xo)] 1 = mkF m 0 #[.val (.ref xo)] [] := by first | (simp [entryFrame, mkF, argsToLocals, Value.category]; done) | rfl
def own_QAli (Z : State) (xo : Addr) (xd : Addr) (h0 : Heap) (n0 : Nat) (v : Option Value) (h : Heap) (L : List Loc) : Prop := v = none ∧ Fr n0 L ∧ Keep h0 h [xo] ∧ own_SK Z h0 h ∧ Exa Z h xo "java/util/ArrayList" ∧ Fld Z h xo "java/util/AbstractList" "modCount" "I" (.int (0 : Int32)) ∧ Fld Z h xo "java/util/ArrayList" "elementData" "[Ljava/lang/Object;" (.ref xd) ∧ Fld Z h xo "java/util/ArrayList" "size" "I" (.int (0 : Int32))
theorem own_pn2 : plainName "java/util/ArrayList" = true := by first | (simp [plainName, overriddenIn]; done) | decide +kernel
set_option maxRecDepth 65536 in
set_option maxHeartbeats 40000000 in
theorem own_rAli (l : Launch) (Z : State) (a0 : Array Value) (hw : ∀ d ∈ tables_1, d.before a0 Z = true) (ws : List Jvm.Cond) (xo : Addr) (xd : Addr) (h0 : Heap) (n0 : Nat) (Z0 : n0 ≤ h0.size) (E1 : Exa Z h0 xo "java/util/ArrayList") (Fm : Fld Z h0 xo "java/util/AbstractList" "modCount" "I" (.int (0 : Int32))) (Fe : Fld Z h0 xo "java/util/ArrayList" "elementData" "[Ljava/lang/Object;" .null) (Fs : Fld Z h0 xo "java/util/ArrayList" "size" "I" (.int (0 : Int32))) (gz : n0 ≤ xo) (Sd : Sta Z h0 "java/util/ArrayList" "DEFAULTCAPACITY_EMPTY_ELEMENTDATA" "[Ljava/lang/Object;" (.ref xd)) :
    MetFree l (⟨"java/util/ArrayList", "<init>", "()V"⟩ : MethodName) (head1 (Jvm.Cond.code (⟨"java/util/ArrayList", "<init>", "()V"⟩ : MethodName) jdk_38_method_2_code 1 none :: ws) ({ frames := 3, cells := 0, slots := 0, locals := 36 } : Room)) (fun a U => a = #[(.ref xo)] ∧ Z.Warmed39 U.vm ∧ U.heap = h0) (fun _ _ _ _ _ => True) (fun _ U o U' => ∃ v L, o = .returned v ∧ own_QAli Z xo xd h0 n0 v U'.heap L ∧ FrameEnd U o U' L ({ frames := 3, cells := 0, slots := 0, locals := 36 } : Room).cells ({ frames := 3, cells := 0, slots := 0, locals := 36 } : Room).slots) := by
  refine MetFree.of_bodySF (plainFor_of_name own_pn2) hisR ?_
  intro p e s m args below meth c s₁ Bd hml0 hP hK
  obtain ⟨rfl, hZ, hh⟩ := hP
  have hx := Bd.exec
  have hby := Bd.bytes
  have hml : c.maxLocals = 1 := hml0
  have hown : s.vm.findClass "java/util/ArrayList" = some m.cls := findClass_of_methodNamed Bd.named
  have hnm := (name_of_methodNamed Bd.named Bd.method).1
  have X0 : Stand p l e ({ frames := 3, cells := 0, slots := 0, locals := 36 } : Room) s m #[(.ref xo)] below meth c s₁ [] 0 0 := Stand.of_body Bd
  have e0 : s₁.heap = h0 := by rw [← hh, Bd.state]; rfl
  have N0 := Fr.nil n0
  show own_F p e below (fun o U' => ∃ v L, o = .returned v ∧ own_QAli Z xo xd h0 n0 v U'.heap L ∧ FrameEnd s o U' L ({ frames := 3, cells := 0, slots := 0, locals := 36 } : Room).cells ({ frames := 3, cells := 0, slots := 0, locals := 36 } : Room).slots) s₁ (entryFrame m #[(.ref xo)] 1)
  rw [own_efAli m xo]
  refine own_go (T' := s₁) (g' := (mkF m 1 #[.val (.ref xo)] [(.ref xo)])) (fun _ k => XS.aloadN X0.here hx rfl (hb hby own_dAli_0) rfl rfl k) ?_
  obtain ⟨_, _, ⟨T1, L1, k1, n1⟩, -, X1, ⟨Lc1, hQ1, l1, y1, z1⟩, st1⟩ := X0.specialBack hx (y := (⟨"java/util/AbstractList", "<init>", "()V"⟩ : MethodName)) rfl hown (mvT hZ (hw _ (List.mem_of_getElem? (i := 26) rfl))) (mvT hZ (hw _ (List.mem_of_getElem? (i := 27) rfl))) (mvT hZ (hw _ (List.mem_of_getElem? (i := 31) rfl))) (by decide) (backOf (W := 0) (own_rAbl l Z a0 hw [] xo h0 n0 Z0 E1 Fm Fe Fs gz) hZ (hw _ (List.mem_of_getElem? (i := 31) rfl)) (hw _ (List.mem_of_getElem? (i := 30) rfl)) (by decide) (by decide)) (g := (mkF m 1 #[.val (.ref xo)] [(.ref xo)])) rfl (by rw [hml]; rfl) (Steps.refl _) (a := xo) (argsL := []) (rest := []) (lenOf own_pd0 rfl) rfl (by show 2 * 0 + _ ≤ _; exact Nat.le_of_eq rfl) (hb hby own_dAli_1) (fun _ _ => ⟨rfl, e0, (by decide : 0 + 0 ≤ _), (by decide : 0 + 0 ≤ _)⟩)
  dsimp only [Pt.U, Pt.locs, Pt.cells, Pt.slots] at X1 l1 y1 z1 st1 hQ1
  subst l1 y1 z1
  obtain ⟨rfl, N1q, Kc1, SKc1, Ec1, Fmc1, Fec1, Fsc1⟩ := hQ1
  have N1 := Fr.app N0 N1q
  have Z1 : n0 ≤ T1.heap.size := Nat.le_trans Z0 Kc1.1
  have SK1 : own_SK Z h0 T1.heap := (own_SK.rf Z h0).tr SKc1
  have K1 : Keep h0 T1.heap [xo] := (Keep.refl h0 [xo]).trans Kc1 (own_or1 (Or.inl (List.mem_of_getElem? (i := 0) rfl)))
  refine own_goT (T' := T1) (g' := (mkF m 4 #[.val (.ref xo)] [])) st1 ?_
  refine own_go (T' := T1) (g' := (mkF m 5 #[.val (.ref xo)] [(.ref xo)])) (fun _ k => XS.aloadN X1.here hx rfl (hb hby own_dAli_4) rfl rfl k) ?_
  obtain ⟨T2, X2, e2, st2⟩ := getS X1 hx hZ (host := "") hown (hw _ (List.mem_of_getElem? (i := 41) rfl)) Via.refl rfl (SK1 _ _ _ _ Sd) (g := (mkF m 5 #[.val (.ref xo)] [(.ref xo)])) rfl (hb hby own_dAli_5)
  refine own_go (T' := T2) (g' := (mkF m 8 #[.val (.ref xo)] [(.ref xd), (.ref xo)])) (fun _ k => st2 _ k) ?_
  obtain ⟨T3, h3, X3, e3, W3, st3⟩ := putF X2 hx hZ hown (host := "") (Or.inl (hw _ (List.mem_of_getElem? (i := 42) rfl))) Via.refl e2 Fec1 Ec1 (Or.inl (hw _ (List.mem_of_getElem? (i := 43) rfl))) (hw _ (List.mem_of_getElem? (i := 21) rfl)) (ty := (.array (.object "java/lang/Object"))) (by decide) rfl rfl (g := (mkF m 8 #[.val (.ref xo)] [(.ref xd), (.ref xo)])) rfl rfl (hb hby own_dAli_8)
  have Fw3 := Fec1.same W3
  have Ek4 := Ec1.wr W3
  have Fk5 := Fmc1.other W3 (Or.inr (slot_ne (Or.inl (hw _ (List.mem_of_getElem? (i := 40) rfl))) (Or.inl (hw _ (List.mem_of_getElem? (i := 43) rfl))) (by decide) (t := .int) (t' := (.array (.object "java/lang/Object"))) (by decide) (by decide)))
  have Fk6 := Fsc1.other W3 (Or.inr (slot_ne (Or.inl (hw _ (List.mem_of_getElem? (i := 80) rfl))) (Or.inl (hw _ (List.mem_of_getElem? (i := 43) rfl))) (by decide) (t := .int) (t' := (.array (.object "java/lang/Object"))) (by decide) (by decide)))
  have Z3 : n0 ≤ h3.size := Nat.le_trans Z1 (Keep.of_wr W3).1
  have K3 : Keep h0 h3 [xo] := K1.wr W3 (Or.inl (List.mem_of_getElem? (i := 0) rfl))
  have N3 := Fr.snoc X3 N1 gz
  have SK3 : own_SK Z h0 h3 := SK1.wr W3
  refine own_go (T' := T3) (g' := (mkF m 11 #[.val (.ref xo)] [])) (fun _ k => st3 _ k) ?_
  obtain ⟨fs, hr, hrun, hended, hW, hsame⟩ := X3.leave (v := none) (fun _ => rfl)
  refine own_end (X3.returnOut hx Bd.returns (hb hby own_dAli_11) hr) hrun hended ⟨_, _, rfl, (?_ : own_QAli Z xo xd h0 n0 _ T3.heap _), ⟨_, rfl⟩, hW, hsame.mono (by decide) (by decide)⟩
  rw [e3]
  exact ⟨rfl, N3, K3, SK3, Ek4, Fk5, Fw3, Fk6⟩
theorem own_dMx_0 : decode jdk_29_method_65_code 0 = .ok (.iload_n 0, 1) := by decide +kernel
theorem own_dMx_1 : decode jdk_29_method_65_code 1 = .ok (.iload_n 1, 1) := by decide +kernel
theorem own_dMx_2 : decode jdk_29_method_65_code 2 = .ok (.if_icmp .lt 7, 3) := by decide +kernel
theorem own_dMx_5 : decode jdk_29_method_65_code 5 = .ok (.iload_n 0, 1) := by decide +kernel
theorem own_dMx_6 : decode jdk_29_method_65_code 6 = .ok (.goto 4, 3) := by decide +kernel
theorem own_dMx_10 : decode jdk_29_method_65_code 10 = .ok (.ireturn, 1) := by decide +kernel
theorem own_efMx (m : MethodId)  : entryFrame m #[(.int (10 : Int32)), (.int (1 : Int32))] 2 = mkF m 0 #[.val (.int (10 : Int32)), .val (.int (1 : Int32))] [] := by first | (simp [entryFrame, mkF, argsToLocals, Value.category]; done) | rfl
def own_QMx (Z : State)   (h0 : Heap) (n0 : Nat) (v : Option Value) (h : Heap) (L : List Loc) : Prop := v = some (.int (10 : Int32)) ∧ Fr n0 L ∧ h = h0
set_option maxRecDepth 65536 in
set_option maxHeartbeats 40000000 in
theorem own_rMx (l : Launch) (Z : State) (a0 : Array Value) (hw : ∀ d ∈ tables_1, d.before a0 Z = true) (ws : List Jvm.Cond)   (h0 : Heap) (n0 : Nat) (Z0 : n0 ≤ h0.size) :
    MetFree l (⟨"java/lang/Math", "max", "(II)I"⟩ : MethodName) (head1 (Jvm.Cond.code (⟨"java/lang/Math", "max", "(II)I"⟩ : MethodName) jdk_29_method_65_code 2 (some .int) :: ws) ({ frames := 0, cells := 0, slots := 0, locals := 0 } : Room)) (fun a U => a = #[(.int (10 : Int32)), (.int (1 : Int32))] ∧ Z.Warmed39 U.vm ∧ U.heap = h0) (fun _ _ _ _ _ => True) (fun _ U o U' => ∃ v L, o = .returned v ∧ own_QMx Z  h0 n0 v U'.heap L ∧ FrameEnd U o U' L ({ frames := 0, cells := 0, slots := 0, locals := 0 } : Room).cells ({ frames := 0, cells := 0, slots := 0, locals := 0 } : Room).slots) := by
  refine MetFree.of_bodySF (Jvm.Free.JP.mathPlain rfl (by decide +kernel)) hisR ?_
  intro p e s m args below meth c s₁ Bd hml0 hP hK
  obtain ⟨rfl, hZ, hh⟩ := hP
  have hx := Bd.exec
  have hby := Bd.bytes
  have hml : c.maxLocals = 2 := hml0
  have hown : s.vm.findClass "java/lang/Math" = some m.cls := findClass_of_methodNamed Bd.named
  have hnm := (name_of_methodNamed Bd.named Bd.method).1
  have X0 : Stand p l e ({ frames := 0, cells := 0, slots := 0, locals := 0 } : Room) s m #[(.int (10 : Int32)), (.int (1 : Int32))] below meth c s₁ [] 0 0 := Stand.of_body Bd
  have e0 : s₁.heap = h0 := by rw [← hh, Bd.state]; rfl
  have N0 := Fr.nil n0
  show own_F p e below (fun o U' => ∃ v L, o = .returned v ∧ own_QMx Z  h0 n0 v U'.heap L ∧ FrameEnd s o U' L ({ frames := 0, cells := 0, slots := 0, locals := 0 } : Room).cells ({ frames := 0, cells := 0, slots := 0, locals := 0 } : Room).slots) s₁ (entryFrame m #[(.int (10 : Int32)), (.int (1 : Int32))] 2)
  rw [own_efMx m ]
  refine own_go (T' := s₁) (g' := (mkF m 1 #[.val (.int (10 : Int32)), .val (.int (1 : Int32))] [(.int (10 : Int32))])) (fun _ k => XS.iloadN X0.here hx rfl (hb hby own_dMx_0) rfl k) ?_
  refine own_go (T' := s₁) (g' := (mkF m 2 #[.val (.int (10 : Int32)), .val (.int (1 : Int32))] [(.int (1 : Int32)), (.int (10 : Int32))])) (fun _ k => XS.iloadN X0.here hx rfl (hb hby own_dMx_1) rfl k) ?_
  refine own_go (T' := s₁) (g' := (mkF m 5 #[.val (.int (10 : Int32)), .val (.int (1 : Int32))] [])) (fun _ k => XS.icmpNo X0.here hx rfl (hb hby own_dMx_2) rfl (flt ((by decide) : ¬ ((10 : Int32) < (1 : Int32)))).1 k) ?_
  refine own_go (T' := s₁) (g' := (mkF m 6 #[.val (.int (10 : Int32)), .val (.int (1 : Int32))] [(.int (10 : Int32))])) (fun _ k => XS.iloadN X0.here hx rfl (hb hby own_dMx_5) rfl k) ?_
  refine own_go (T' := s₁) (g' := (mkF m 10 #[.val (.int (10 : Int32)), .val (.int (1 : Int32))] [(.int (10 : Int32))])) (fun _ k => XS.goto X0.here hx rfl (pc0 := 6) (pc' := 10) rfl (hb hby own_dMx_6) (by decide) (by decide) k) ?_
  obtain ⟨fs, hr, hrun, hended, hW, hsame⟩ := X0.leave (v := some (.int (10 : Int32))) (fun h => by rw [Bd.returns] at h; cases h)
  refine own_end (retOut X0 hx Bd.returns rfl (Or.inl ⟨rfl, Or.inl rfl, _, rfl⟩) (hb hby own_dMx_10) hr) hrun hended ⟨_, _, rfl, (?_ : own_QMx Z  h0 n0 _ s₁.heap _), ⟨_, rfl⟩, hW, hsame.mono (by decide) (by decide)⟩
  rw [e0]
  exact ⟨rfl, N0, rfl⟩
theorem own_pd1 : parseMethodDescriptor "(II)I" = some ⟨[.int, .int], some .int⟩ := by decide +kernel
theorem own_dGi_0 : decode jdk_38_method_6_code 0 = .ok (.aload_n 0, 1) := by decide +kernel
theorem own_dGi_1 : decode jdk_38_method_6_code 1 = .ok (.getfield 9, 3) := by decide +kernel
theorem own_dGi_4 : decode jdk_38_method_6_code 4 = .ok (.arraylength, 1) := by decide +kernel
theorem own_dGi_5 : decode jdk_38_method_6_code 5 = .ok (.istore_n 2, 1) := by decide +kernel
theorem own_dGi_6 : decode jdk_38_method_6_code 6 = .ok (.iload_n 2, 1) := by decide +kernel
theorem own_dGi_7 : decode jdk_38_method_6_code 7 = .ok (.ifCond .gt 13, 3) := by decide +kernel
theorem own_dGi_10 : decode jdk_38_method_6_code 10 = .ok (.aload_n 0, 1) := by decide +kernel
theorem own_dGi_11 : decode jdk_38_method_6_code 11 = .ok (.getfield 9, 3) := by decide +kernel
theorem own_dGi_14 : decode jdk_38_method_6_code 14 = .ok (.getstatic 39, 3) := by decide +kernel
theorem own_dGi_17 : decode jdk_38_method_6_code 17 = .ok (.if_acmp .eq 28, 3) := by decide +kernel
theorem own_dGi_45 : decode jdk_38_method_6_code 45 = .ok (.aload_n 0, 1) := by decide +kernel
theorem own_dGi_46 : decode jdk_38_method_6_code 46 = .ok (.bipush 10, 2) := by decide +kernel
theorem own_dGi_48 : decode jdk_38_method_6_code 48 = .ok (.iload_n 1, 1) := by decide +kernel
theorem own_dGi_49 : decode jdk_38_method_6_code 49 = .ok (.invokestatic 79, 3) := by decide +kernel
theorem own_dGi_52 : decode jdk_38_method_6_code 52 = .ok (.anewarray 7, 3) := by decide +kernel
theorem own_dGi_55 : decode jdk_38_method_6_code 55 = .ok (.dup_x1, 1) := by decide +kernel
theorem own_dGi_56 : decode jdk_38_method_6_code 56 = .ok (.putfield 9, 3) := by decide +kernel
theorem own_dGi_59 : decode jdk_38_method_6_code 59 = .ok (.areturn, 1) := by decide +kernel
theorem own_efGi (m : MethodId) (xo : Addr) : entryFrame m #[(.ref xo), (.int (1 : Int32))] 4 = mkF m 0 #[.val (.ref xo), .val (.int (1 : Int32)), .unset, .unset] [] := by first | (simp [entryFrame, mkF, argsToLocals, Value.category]; done) | rfl
def own_QGi (Z : State) (xo : Addr) (xm : Int32) (xd : Addr) (kd : ClassId) (h0 : Heap) (n0 : Nat) (v : Option Value) (h : Heap) (L : List Loc) : Prop := v = v ∧ Fr n0 L ∧ Keep h0 h [xo] ∧ own_SK Z h0 h ∧ ∃ r ka, v = some (.ref r) ∧ h0.size ≤ r ∧ Exa Z h xo "java/util/ArrayList" ∧ Fld Z h xo "java/util/AbstractList" "modCount" "I" (.int xm) ∧ Fld Z h xo "java/util/ArrayList" "elementData" "[Ljava/lang/Object;" (.ref r) ∧ Fld Z h xo "java/util/ArrayList" "size" "I" (.int (0 : Int32)) ∧ own_A Z h r ka (.object "java/lang/Object") [.null, .null, .null, .null, .null, .null, .null, .null, .null, .null] ∧ Ovr Z ka "java/lang/Object" ∧ Exa Z h r "[Ljava/lang/Object;"
set_option maxRecDepth 65536 in
set_option maxHeartbeats 40000000 in
theorem own_rGi (l : Launch) (Z : State) (a0 : Array Value) (hw : ∀ d ∈ tables_1, d.before a0 Z = true) (ws : List Jvm.Cond) (xo : Addr) (xm : Int32) (xd : Addr) (kd : ClassId) (h0 : Heap) (n0 : Nat) (Z0 : n0 ≤ h0.size) (E1 : Exa Z h0 xo "java/util/ArrayList") (Fm : Fld Z h0 xo "java/util/AbstractList" "modCount" "I" (.int xm)) (Fe : Fld Z h0 xo "java/util/ArrayList" "elementData" "[Ljava/lang/Object;" (.ref xd)) (Fs : Fld Z h0 xo "java/util/ArrayList" "size" "I" (.int (0 : Int32))) (gz : n0 ≤ xo) (Sd : Sta Z h0 "java/util/ArrayList" "DEFAULTCAPACITY_EMPTY_ELEMENTDATA" "[Ljava/lang/Object;" (.ref xd)) (Ad : own_A Z h0 xd kd (.object "java/lang/Object") []) :
    MetFree l (⟨"java/util/ArrayList", "grow", "(I)[Ljava/lang/Object;"⟩ : MethodName) (head1 (Jvm.Cond.code (⟨"java/util/ArrayList", "grow", "(I)[Ljava/lang/Object;"⟩ : MethodName) jdk_38_method_6_code 4 (some (.array (.object "java/lang/Object"))) :: ws) ({ frames := 1, cells := 1, slots := 10, locals := 14 } : Room)) (fun a U => a = #[(.ref xo), (.int (1 : Int32))] ∧ Z.Warmed39 U.vm ∧ U.heap = h0) (fun _ _ _ _ _ => True) (fun _ U o U' => ∃ v L, o = .returned v ∧ own_QGi Z xo xm xd kd h0 n0 v U'.heap L ∧ FrameEnd U o U' L ({ frames := 1, cells := 1, slots := 10, locals := 14 } : Room).cells ({ frames := 1, cells := 1, slots := 10, locals := 14 } : Room).slots) := by
  refine MetFree.of_bodySF (plainFor_of_name own_pn2) hisR ?_
  intro p e s m args below meth c s₁ Bd hml0 hP hK
  obtain ⟨rfl, hZ, hh⟩ := hP
  have hx := Bd.exec
  have hby := Bd.bytes
  have hml : c.maxLocals = 4 := hml0
  have hown : s.vm.findClass "java/util/ArrayList" = some m.cls := findClass_of_methodNamed Bd.named
  have hnm := (name_of_methodNamed Bd.named Bd.method).1
  have X0 : Stand p l e ({ frames := 1, cells := 1, slots := 10, locals := 14 } : Room) s m #[(.ref xo), (.int (1 : Int32))] below meth c s₁ [] 0 0 := Stand.of_body Bd
  have e0 : s₁.heap = h0 := by rw [← hh, Bd.state]; rfl
  have N0 := Fr.nil n0
  show own_F p e below (fun o U' => ∃ v L, o = .returned v ∧ own_QGi Z xo xm xd kd h0 n0 v U'.heap L ∧ FrameEnd s o U' L ({ frames := 1, cells := 1, slots := 10, locals := 14 } : Room).cells ({ frames := 1, cells := 1, slots := 10, locals := 14 } : Room).slots) s₁ (entryFrame m #[(.ref xo), (.int (1 : Int32))] 4)
  rw [own_efGi m xo]
  have nod : xo ≠ xd := own_neA E1 (hw _ (List.mem_of_getElem? (i := 21) rfl)) Ad
  refine own_go (T' := s₁) (g' := (mkF m 1 #[.val (.ref xo), .val (.int (1 : Int32)), .unset, .unset] [(.ref xo)])) (fun _ k => XS.aloadN X0.here hx rfl (hb hby own_dGi_0) rfl rfl k) ?_
  obtain ⟨T1, X1, e1, st1⟩ := getF X0 hx hZ hown (host := "") (Or.inl (hw _ (List.mem_of_getElem? (i := 42) rfl))) Via.refl e0 Fe (g := (mkF m 1 #[.val (.ref xo), .val (.int (1 : Int32)), .unset, .unset] [(.ref xo)])) rfl rfl (hb hby own_dGi_1)
  refine own_go (T' := T1) (g' := (mkF m 4 #[.val (.ref xo), .val (.int (1 : Int32)), .unset, .unset] [(.ref xd)])) (fun _ k => st1 _ k) ?_
  refine own_go (T' := T1) (g' := (mkF m 5 #[.val (.ref xo), .val (.int (1 : Int32)), .unset, .unset] [(.int (0 : Int32))])) (fun _ k => own_alen X1 hx hZ e1 Ad (g := (mkF m 4 #[.val (.ref xo), .val (.int (1 : Int32)), .unset, .unset] [(.ref xd)])) rfl rfl (hb hby own_dGi_4) (n := (0 : Int32)) rfl k) ?_
  refine own_go (T' := T1) (g' := (mkF m 6 #[.val (.ref xo), .val (.int (1 : Int32)), .val (.int (0 : Int32)), .unset] [])) (fun _ k => XS.istoreN X1.here hx rfl (hb hby own_dGi_5) rfl (l' := #[.val (.ref xo), .val (.int (1 : Int32)), .val (.int (0 : Int32)), .unset]) rfl k) ?_
  refine own_go (T' := T1) (g' := (mkF m 7 #[.val (.ref xo), .val (.int (1 : Int32)), .val (.int (0 : Int32)), .unset] [(.int (0 : Int32))])) (fun _ k => XS.iloadN X1.here hx rfl (hb hby own_dGi_6) rfl k) ?_
  refine own_go (T' := T1) (g' := (mkF m 10 #[.val (.ref xo), .val (.int (1 : Int32)), .val (.int (0 : Int32)), .unset] [])) (fun _ k => XS.ifNo X1.here hx rfl (hb hby own_dGi_7) rfl ((if0 _ _).trans (flt ((by decide) : ¬ ((0 : Int32) < (0 : Int32)))).2.2.1) k) ?_
  refine own_go (T' := T1) (g' := (mkF m 11 #[.val (.ref xo), .val (.int (1 : Int32)), .val (.int (0 : Int32)), .unset] [(.ref xo)])) (fun _ k => XS.aloadN X1.here hx rfl (hb hby own_dGi_10) rfl rfl k) ?_
  obtain ⟨T2, X2, e2, st2⟩ := getF X1 hx hZ hown (host := "") (Or.inl (hw _ (List.mem_of_getElem? (i := 42) rfl))) Via.refl e1 Fe (g := (mkF m 11 #[.val (.ref xo), .val (.int (1 : Int32)), .val (.int (0 : Int32)), .unset] [(.ref xo)])) rfl rfl (hb hby own_dGi_11)
  refine own_go (T' := T2) (g' := (mkF m 14 #[.val (.ref xo), .val (.int (1 : Int32)), .val (.int (0 : Int32)), .unset] [(.ref xd)])) (fun _ k => st2 _ k) ?_
  obtain ⟨T3, X3, e3, st3⟩ := getS X2 hx hZ (host := "") hown (hw _ (List.mem_of_getElem? (i := 41) rfl)) Via.refl e2 ((own_SK.rf Z h0) _ _ _ _ Sd) (g := (mkF m 14 #[.val (.ref xo), .val (.int (1 : Int32)), .val (.int (0 : Int32)), .unset] [(.ref xd)])) rfl (hb hby own_dGi_14)
  refine own_go (T' := T3) (g' := (mkF m 17 #[.val (.ref xo), .val (.int (1 : Int32)), .val (.int (0 : Int32)), .unset] [(.ref xd), (.ref xd)])) (fun _ k => st3 _ k) ?_
  refine own_go (T' := T3) (g' := (mkF m 45 #[.val (.ref xo), .val (.int (1 : Int32)), .val (.int (0 : Int32)), .unset] [])) (fun _ k => Jvm.RoadKit.acmp (g := (mkF m 17 #[.val (.ref xo), .val (.int (1 : Int32)), .val (.int (0 : Int32)), .unset] [(.ref xd), (.ref xd)])) X3 hx rfl rfl rfl (pc0 := 17) (pc' := 45) (same := true) rfl (hb hby own_dGi_17) rfl (decide_eq_true rfl) (by decide) (by decide) k) ?_
  refine own_go (T' := T3) (g' := (mkF m 46 #[.val (.ref xo), .val (.int (1 : Int32)), .val (.int (0 : Int32)), .unset] [(.ref xo)])) (fun _ k => XS.aloadN X3.here hx rfl (hb hby own_dGi_45) rfl rfl k) ?_
  refine own_go (T' := T3) (g' := (mkF m 48 #[.val (.ref xo), .val (.int (1 : Int32)), .val (.int (0 : Int32)), .unset] [(.int (10 : Int32)), (.ref xo)])) (fun _ k => XS.bipush X3.here hx rfl (hb hby own_dGi_46) k) ?_
  refine own_go (T' := T3) (g' := (mkF m 49 #[.val (.ref xo), .val (.int (1 : Int32)), .val (.int (0 : Int32)), .unset] [(.int (1 : Int32)), (.int (10 : Int32)), (.ref xo)])) (fun _ k => XS.iloadN X3.here hx rfl (hb hby own_dGi_48) rfl k) ?_
  obtain ⟨_, _, ⟨T4, L4, k4, n4⟩, -, X4, ⟨Lc4, hQ4, l4, y4, z4⟩, st4⟩ := Jvm.LawKit.callS X3 hx (y := (⟨"java/lang/Math", "max", "(II)I"⟩ : MethodName)) hown (mvT hZ (hw _ (List.mem_of_getElem? (i := 127) rfl))) (mvT hZ (hw _ (List.mem_of_getElem? (i := 128) rfl))) (mvT hZ (hw _ (List.mem_of_getElem? (i := 129) rfl))) (mvT hZ (hw _ (List.mem_of_getElem? (i := 130) rfl))) (by decide) (backOf (W := 1) (own_rMx l Z a0 hw []  h0 n0 Z0 ) hZ (hw _ (List.mem_of_getElem? (i := 130) rfl)) (hw _ (List.mem_of_getElem? (i := 129) rfl)) (by decide) (by decide)) (g := (mkF m 49 #[.val (.ref xo), .val (.int (1 : Int32)), .val (.int (0 : Int32)), .unset] [(.int (1 : Int32)), (.int (10 : Int32)), (.ref xo)])) rfl (by rw [hml]; rfl) (argsL := [(.int (10 : Int32)), (.int (1 : Int32))]) (rest := [(.ref xo)]) (lenOf own_pd1 rfl) rfl (by show 2 * 0 + _ ≤ _; exact Nat.le_of_eq rfl) (hb hby own_dGi_49) (fun _ _ => ⟨rfl, e3, (by decide : 0 + 0 ≤ _), (by decide : 0 + 0 ≤ _)⟩)
  dsimp only [Pt.U, Pt.locs, Pt.cells, Pt.slots] at X4 l4 y4 z4 st4 hQ4
  subst l4 y4 z4
  obtain ⟨rfl, N4q, e4⟩ := hQ4
  have N4 := Fr.app N0 N4q
  refine own_go (T' := T4) (g' := (mkF m 52 #[.val (.ref xo), .val (.int (1 : Int32)), .val (.int (0 : Int32)), .unset] [(.int (10 : Int32)), (.ref xo)])) (fun _ k => st4 _ k) ?_
  obtain ⟨T5, h5, k5, X5, e5, E5, A5, Ea5, Ov5, st5⟩ := newRE X4 hx hZ hown (hw _ (List.mem_of_getElem? (i := 131) rfl)) (hw _ (List.mem_of_getElem? (i := 132) rfl)) e4 (g := (mkF m 52 #[.val (.ref xo), .val (.int (1 : Int32)), .val (.int (0 : Int32)), .unset] [(.int (10 : Int32)), (.ref xo)])) rfl (hb hby own_dGi_52) rfl (by decide) (cap := 10) (by decide) (by decide) (by decide) (by decide) (ad := "[Ljava/lang/Object;") rfl
  obtain ⟨b5, g5⟩ : ∃ z, z = h0.size := ⟨_, rfl⟩
  rw [← g5] at A5 Ea5 st5
  have ne_xo_b5 : xo ≠ b5 := Nat.ne_of_lt (Nat.lt_of_lt_of_le E1.lt (Nat.le_of_eq g5.symm))
  have ne_xd_b5 : xd ≠ b5 := Nat.ne_of_lt (Nat.lt_of_lt_of_le Ad.lt (Nat.le_of_eq g5.symm))
  have gz_b5 : n0 ≤ b5 := Nat.le_trans Z0 (Nat.le_of_eq g5.symm)
  have hz_b5 : h0.size ≤ b5 := Nat.le_trans (Keep.refl h0 [xo]).1 (Nat.le_of_eq g5.symm)
  have Ek6 := E1.ext E5
  have Fk7 := Fm.ext E5
  have Fk8 := Fe.ext E5
  have Fk9 := Fs.ext E5
  have Vk10 := Ad.ext E5
  have Z5 : n0 ≤ h5.size := Nat.le_trans Z0 E5.1
  have K5 : Keep h0 h5 [xo] := (Keep.refl h0 [xo]).ext E5
  have SK5 : own_SK Z h0 h5 := (own_SK.rf Z h0).ext E5
  have V5 : own_A Z h5 b5 k5 (.object "java/lang/Object") [.null, .null, .null, .null, .null, .null, .null, .null, .null, .null] := own_A.new A5 (N := 10) rfl
  refine own_go (T' := T5) (g' := (mkF m 55 #[.val (.ref xo), .val (.int (1 : Int32)), .val (.int (0 : Int32)), .unset] [(.ref b5), (.ref xo)])) (fun _ k => st5 _ k) ?_
  refine own_go (T' := T5) (g' := (mkF m 56 #[.val (.ref xo), .val (.int (1 : Int32)), .val (.int (0 : Int32)), .unset] [(.ref b5), (.ref xo), (.ref b5)])) (fun _ k => XS.dupX1 X5.here hx rfl (hb hby own_dGi_55) rfl rfl rfl k) ?_
  obtain ⟨T11, h11, X11, e11, W11, st11⟩ := putF X5 hx hZ hown (host := "") (Or.inl (hw _ (List.mem_of_getElem? (i := 42) rfl))) Via.refl e5 Fk8 Ek6 (Or.inl (hw _ (List.mem_of_getElem? (i := 43) rfl))) (hw _ (List.mem_of_getElem? (i := 21) rfl)) (ty := (.array (.object "java/lang/Object"))) (by decide) rfl rfl (g := (mkF m 56 #[.val (.ref xo), .val (.int (1 : Int32)), .val (.int (0 : Int32)), .unset] [(.ref b5), (.ref xo), (.ref b5)])) rfl rfl (hb hby own_dGi_56)
  have Fw11 := Fk8.same W11
  have Ek12 := Ek6.wr W11
  have Fk13 := Fk7.other W11 (Or.inr (slot_ne (Or.inl (hw _ (List.mem_of_getElem? (i := 40) rfl))) (Or.inl (hw _ (List.mem_of_getElem? (i := 43) rfl))) (by decide) (t := .int) (t' := (.array (.object "java/lang/Object"))) (by decide) (by decide)))
  have Fk14 := Fk9.other W11 (Or.inr (slot_ne (Or.inl (hw _ (List.mem_of_getElem? (i := 80) rfl))) (Or.inl (hw _ (List.mem_of_getElem? (i := 43) rfl))) (by decide) (t := .int) (t' := (.array (.object "java/lang/Object"))) (by decide) (by decide)))
  have Vk15 := Vk10.other W11 (Ne.symm nod)
  have Ek16 := Ea5.wr W11
  have Vk17 := V5.other W11 (Ne.symm ne_xo_b5)
  have Z11 : n0 ≤ h11.size := Nat.le_trans Z5 (Keep.of_wr W11).1
  have K11 : Keep h0 h11 [xo] := K5.wr W11 (Or.inl (List.mem_of_getElem? (i := 0) rfl))
  have N11 := Fr.snoc X11 N4 gz
  have SK11 : own_SK Z h0 h11 := SK5.wr W11
  refine own_go (T' := T11) (g' := (mkF m 59 #[.val (.ref xo), .val (.int (1 : Int32)), .val (.int (0 : Int32)), .unset] [(.ref b5)])) (fun _ k => st11 _ k) ?_
  obtain ⟨fs, hr, hrun, hended, hW, hsame⟩ := X11.leave (v := some (.ref b5)) (fun h => by rw [Bd.returns] at h; cases h)
  refine own_end (retOut X11 hx Bd.returns rfl (Or.inr (Or.inr (Or.inr (Or.inr ⟨rfl, rfl, rfl⟩)))) (hb hby own_dGi_59) hr) hrun hended ⟨_, _, rfl, (?_ : own_QGi Z xo xm xd kd h0 n0 _ T11.heap _), ⟨_, rfl⟩, hW, hsame.mono (by decide) (by decide)⟩
  rw [e11]
  exact ⟨rfl, N11, K11, SK11, b5, k5, rfl, hz_b5, Ek12, Fk13, Fw11, Fk14, Vk17, Ov5, Ek16⟩
theorem own_pd2 : parseMethodDescriptor "(I)[Ljava/lang/Object;" = some ⟨[.int], some (.array (.object "java/lang/Object"))⟩ := by decide +kernel
theorem own_dG0_0 : decode jdk_38_method_7_code 0 = .ok (.aload_n 0, 1) := by decide +kernel
theorem own_dG0_1 : decode jdk_38_method_7_code 1 = .ok (.aload_n 0, 1) := by decide +kernel
theorem own_dG0_2 : decode jdk_38_method_7_code 2 = .ok (.getfield 48, 3) := by decide +kernel
theorem own_dG0_5 : decode jdk_38_method_7_code 5 = .ok (.iconst 1, 1) := by decide +kernel
theorem own_dG0_6 : decode jdk_38_method_7_code 6 = .ok (.iadd, 1) := by decide +kernel
theorem own_dG0_7 : decode jdk_38_method_7_code 7 = .ok (.invokevirtual 69, 3) := by decide +kernel
theorem own_dG0_10 : decode jdk_38_method_7_code 10 = .ok (.areturn, 1) := by decide +kernel
theorem own_efG0 (m : MethodId) (xo : Addr) : entryFrame m #[(.ref xo)] 1 = mkF m 0 #[.val (.ref xo)] [] := by first | (simp [entryFrame, mkF, argsToLocals, Value.category]; done) | rfl
def own_QG0 (Z : State) (xo : Addr) (xm : Int32) (xd : Addr) (kd : ClassId) (h0 : Heap) (n0 : Nat) (v : Option Value) (h : Heap) (L : List Loc) : Prop := v = v ∧ Fr n0 L ∧ Keep h0 h [xo] ∧ own_SK Z h0 h ∧ ∃ r ka, v = some (.ref r) ∧ h0.size ≤ r ∧ Exa Z h xo "java/util/ArrayList" ∧ Fld Z h xo "java/util/AbstractList" "modCount" "I" (.int xm) ∧ Fld Z h xo "java/util/ArrayList" "elementData" "[Ljava/lang/Object;" (.ref r) ∧ Fld Z h xo "java/util/ArrayList" "size" "I" (.int (0 : Int32)) ∧ own_A Z h r ka (.object "java/lang/Object") [.null, .null, .null, .null, .null, .null, .null, .null, .null, .null] ∧ Ovr Z ka "java/lang/Object" ∧ Exa Z h r "[Ljava/lang/Object;"
set_option maxRecDepth 65536 in
set_option maxHeartbeats 40000000 in
theorem own_rG0 (l : Launch) (Z : State) (a0 : Array Value) (hw : ∀ d ∈ tables_1, d.before a0 Z = true) (ws : List Jvm.Cond) (xo : Addr) (xm : Int32) (xd : Addr) (kd : ClassId) (h0 : Heap) (n0 : Nat) (Z0 : n0 ≤ h0.size) (E1 : Exa Z h0 xo "java/util/ArrayList") (Fm : Fld Z h0 xo "java/util/AbstractList" "modCount" "I" (.int xm)) (Fe : Fld Z h0 xo "java/util/ArrayList" "elementData" "[Ljava/lang/Object;" (.ref xd)) (Fs : Fld Z h0 xo "java/util/ArrayList" "size" "I" (.int (0 : Int32))) (gz : n0 ≤ xo) (Sd : Sta Z h0 "java/util/ArrayList" "DEFAULTCAPACITY_EMPTY_ELEMENTDATA" "[Ljava/lang/Object;" (.ref xd)) (Ad : own_A Z h0 xd kd (.object "java/lang/Object") []) :
    MetFree l (⟨"java/util/ArrayList", "grow", "()[Ljava/lang/Object;"⟩ : MethodName) (head1 (Jvm.Cond.code (⟨"java/util/ArrayList", "grow", "()[Ljava/lang/Object;"⟩ : MethodName) jdk_38_method_7_code 1 (some (.array (.object "java/lang/Object"))) :: ws) ({ frames := 2, cells := 1, slots := 10, locals := 29 } : Room)) (fun a U => a = #[(.ref xo)] ∧ Z.Warmed39 U.vm ∧ U.heap = h0) (fun _ _ _ _ _ => True) (fun _ U o U' => ∃ v L, o = .returned v ∧ own_QG0 Z xo xm xd kd h0 n0 v U'.heap L ∧ FrameEnd U o U' L ({ frames := 2, cells := 1, slots := 10, locals := 29 } : Room).cells ({ frames := 2, cells := 1, slots := 10, locals := 29 } : Room).slots) := by
  refine MetFree.of_bodySF (plainFor_of_name own_pn2) hisR ?_
  intro p e s m args below meth c s₁ Bd hml0 hP hK
  obtain ⟨rfl, hZ, hh⟩ := hP
  have hx := Bd.exec
  have hby := Bd.bytes
  have hml : c.maxLocals = 1 := hml0
  have hown : s.vm.findClass "java/util/ArrayList" = some m.cls := findClass_of_methodNamed Bd.named
  have hnm := (name_of_methodNamed Bd.named Bd.method).1
  have X0 : Stand p l e ({ frames := 2, cells := 1, slots := 10, locals := 29 } : Room) s m #[(.ref xo)] below meth c s₁ [] 0 0 := Stand.of_body Bd
  have e0 : s₁.heap = h0 := by rw [← hh, Bd.state]; rfl
  have N0 := Fr.nil n0
  show own_F p e below (fun o U' => ∃ v L, o = .returned v ∧ own_QG0 Z xo xm xd kd h0 n0 v U'.heap L ∧ FrameEnd s o U' L ({ frames := 2, cells := 1, slots := 10, locals := 29 } : Room).cells ({ frames := 2, cells := 1, slots := 10, locals := 29 } : Room).slots) s₁ (entryFrame m #[(.ref xo)] 1)
  rw [own_efG0 m xo]
  have nod : xo ≠ xd := own_neA E1 (hw _ (List.mem_of_getElem? (i := 21) rfl)) Ad
  refine own_go (T' := s₁) (g' := (mkF m 1 #[.val (.ref xo)] [(.ref xo)])) (fun _ k => XS.aloadN X0.here hx rfl (hb hby own_dG0_0) rfl rfl k) ?_
  refine own_go (T' := s₁) (g' := (mkF m 2 #[.val (.ref xo)] [(.ref xo), (.ref xo)])) (fun _ k => XS.aloadN X0.here hx rfl (hb hby own_dG0_1) rfl rfl k) ?_
  obtain ⟨T1, X1, e1, st1⟩ := getF X0 hx hZ hown (host := "") (Or.inl (hw _ (List.mem_of_getElem? (i := 79) rfl))) Via.refl e0 Fs (g := (mkF m 2 #[.val (.ref xo)] [(.ref xo), (.ref xo)])) rfl rfl (hb hby own_dG0_2)
  refine own_go (T' := T1) (g' := (mkF m 5 #[.val (.ref xo)] [(.int (0 : Int32)), (.ref xo)])) (fun _ k => st1 _ k) ?_
  refine own_go (T' := T1) (g' := (mkF m 6 #[.val (.ref xo)] [(.int (1 : Int32)), (.int (0 : Int32)), (.ref xo)])) (fun _ k => XS.iconst X1.here hx rfl (hb hby own_dG0_5) k) ?_
  refine own_go (T' := T1) (g' := (mkF m 7 #[.val (.ref xo)] [(.int (1 : Int32)), (.ref xo)])) (fun _ k => XS.iadd X1.here hx rfl (hb hby own_dG0_6) rfl k) ?_
  obtain ⟨cq2, q2, q2'⟩ := E1.cell
  obtain ⟨_, _, ⟨T2, L2, k2, n2⟩, -, X2, ⟨Lc2, hQ2, l2, y2, z2⟩, st2⟩ := X1.privateBack hx (y := (⟨"java/util/ArrayList", "grow", "(I)[Ljava/lang/Object;"⟩ : MethodName)) hown (mvT hZ (hw _ (List.mem_of_getElem? (i := 122) rfl))) (mvT hZ (hw _ (List.mem_of_getElem? (i := 123) rfl))) (mvT hZ (hw _ (List.mem_of_getElem? (i := 125) rfl))) (Cond.privateMethod_at (mvP hZ (hw _ (List.mem_of_getElem? (i := 124) rfl)) (args := #[]))) (mvT hZ (hw _ (List.mem_of_getElem? (i := 126) rfl))) (by decide) (backOf (W := 0) (own_rGi l Z a0 hw [] xo xm xd kd h0 n0 Z0 E1 Fm Fe Fs gz Sd Ad) hZ (hw _ (List.mem_of_getElem? (i := 126) rfl)) (hw _ (List.mem_of_getElem? (i := 22) rfl)) (by decide) (by decide)) (g := (mkF m 7 #[.val (.ref xo)] [(.int (1 : Int32)), (.ref xo)])) rfl (by rw [hml]; rfl) (Steps.refl _) (a := xo) (by rw [e1]; exact q2) q2' (argsL := [(.int (1 : Int32))]) (rest := []) (lenOf own_pd2 rfl) rfl (by show 2 * 0 + _ ≤ _; exact Nat.le_of_eq rfl) (hb hby own_dG0_7) (fun _ _ => ⟨rfl, e1, (by decide : 0 + 1 ≤ _), (by decide : 0 + 10 ≤ _)⟩)
  dsimp only [Pt.U, Pt.locs, Pt.cells, Pt.slots] at X2 l2 y2 z2 st2 hQ2
  subst l2 y2 z2
  obtain ⟨-, N2q, Kc2, SKc2, r2, ka2, rfl, hzr2, Ec2, Fmc2, Fec2, Fsc2, Vc2, Ov2, Er2⟩ := hQ2
  have N2 := Fr.app N0 N2q
  have ne_xo_r2 : xo ≠ r2 := Nat.ne_of_lt (Nat.lt_of_lt_of_le E1.lt hzr2)
  have ne_xd_r2 : xd ≠ r2 := Nat.ne_of_lt (Nat.lt_of_lt_of_le Ad.lt hzr2)
  have gz_r2 : n0 ≤ r2 := Nat.le_trans Z0 hzr2
  have hz_r2 : h0.size ≤ r2 := Nat.le_trans (Keep.refl h0 [xo]).1 hzr2
  have Vk3 := Ad.keep Kc2 (own_one (Ne.symm nod))
  have Z2 : n0 ≤ T2.heap.size := Nat.le_trans Z0 Kc2.1
  have SK2 : own_SK Z h0 T2.heap := (own_SK.rf Z h0).tr SKc2
  have K2 : Keep h0 T2.heap [xo] := (Keep.refl h0 [xo]).trans Kc2 (own_or1 (Or.inl (List.mem_of_getElem? (i := 0) rfl)))
  refine own_goT (T' := T2) (g' := (mkF m 10 #[.val (.ref xo)] [(.ref r2)])) st2 ?_
  obtain ⟨fs, hr, hrun, hended, hW, hsame⟩ := X2.leave (v := some (.ref r2)) (fun h => by rw [Bd.returns] at h; cases h)
  refine own_end (retOut X2 hx Bd.returns rfl (Or.inr (Or.inr (Or.inr (Or.inr ⟨rfl, rfl, rfl⟩)))) (hb hby own_dG0_10) hr) hrun hended ⟨_, _, rfl, (?_ : own_QG0 Z xo xm xd kd h0 n0 _ T2.heap _), ⟨_, rfl⟩, hW, hsame.mono (by decide) (by decide)⟩
  exact ⟨rfl, N2, K2, SK2, r2, ka2, rfl, hz_r2, Ec2, Fmc2, Fec2, Fsc2, Vc2, Ov2, Er2⟩
theorem own_pd3 : parseMethodDescriptor "()[Ljava/lang/Object;" = some ⟨[], some (.array (.object "java/lang/Object"))⟩ := by decide +kernel
theorem own_dAd0_0 : decode jdk_38_method_24_code 0 = .ok (.iload_n 3, 1) := by decide +kernel
theorem own_dAd0_1 : decode jdk_38_method_24_code 1 = .ok (.aload_n 2, 1) := by decide +kernel
theorem own_dAd0_2 : decode jdk_38_method_24_code 2 = .ok (.arraylength, 1) := by decide +kernel
theorem own_dAd0_3 : decode jdk_38_method_24_code 3 = .ok (.if_icmp .ne 8, 3) := by decide +kernel
theorem own_dAd0_6 : decode jdk_38_method_24_code 6 = .ok (.aload_n 0, 1) := by decide +kernel
theorem own_dAd0_7 : decode jdk_38_method_24_code 7 = .ok (.invokevirtual 129, 3) := by decide +kernel
theorem own_dAd0_10 : decode jdk_38_method_24_code 10 = .ok (.astore_n 2, 1) := by decide +kernel
theorem own_dAd0_11 : decode jdk_38_method_24_code 11 = .ok (.aload_n 2, 1) := by decide +kernel
theorem own_dAd0_12 : decode jdk_38_method_24_code 12 = .ok (.iload_n 3, 1) := by decide +kernel
theorem own_dAd0_13 : decode jdk_38_method_24_code 13 = .ok (.aload_n 1, 1) := by decide +kernel
theorem own_dAd0_14 : decode jdk_38_method_24_code 14 = .ok (.aastore, 1) := by decide +kernel
theorem own_dAd0_15 : decode jdk_38_method_24_code 15 = .ok (.aload_n 0, 1) := by decide +kernel
theorem own_dAd0_16 : decode jdk_38_method_24_code 16 = .ok (.iload_n 3, 1) := by decide +kernel
theorem own_dAd0_17 : decode jdk_38_method_24_code 17 = .ok (.iconst 1, 1) := by decide +kernel
theorem own_dAd0_18 : decode jdk_38_method_24_code 18 = .ok (.iadd, 1) := by decide +kernel
theorem own_dAd0_19 : decode jdk_38_method_24_code 19 = .ok (.putfield 48, 3) := by decide +kernel
theorem own_dAd0_22 : decode jdk_38_method_24_code 22 = .ok (.return_, 1) := by decide +kernel
theorem own_efAd0 (m : MethodId) (xo : Addr) (xe : Addr) (xd : Addr) : entryFrame m #[(.ref xo), (.ref xe), (.ref xd), (.int (0 : Int32))] 4 = mkF m 0 #[.val (.ref xo), .val (.ref xe), .val (.ref xd), .val (.int (0 : Int32))] [] := by first | (simp [entryFrame, mkF, argsToLocals, Value.category]; done) | rfl
def own_QAd0 (Z : State) (xo : Addr) (xe : Addr) (xd : Addr) (xm : Int32) (kd : ClassId) (h0 : Heap) (n0 : Nat) (v : Option Value) (h : Heap) (L : List Loc) : Prop := v = none ∧ Fr n0 L ∧ Keep h0 h [xo] ∧ own_SK Z h0 h ∧ ∃ r ka, h0.size ≤ r ∧ Exa Z h xo "java/util/ArrayList" ∧ Fld Z h xo "java/util/AbstractList" "modCount" "I" (.int xm) ∧ Fld Z h xo "java/util/ArrayList" "elementData" "[Ljava/lang/Object;" (.ref r) ∧ Fld Z h xo "java/util/ArrayList" "size" "I" (.int (1 : Int32)) ∧ own_A Z h r ka (.object "java/lang/Object") [(.ref xe), .null, .null, .null, .null, .null, .null, .null, .null, .null] ∧ Ovr Z ka "java/lang/Object" ∧ Exa Z h r "[Ljava/lang/Object;"
set_option maxRecDepth 65536 in
set_option maxHeartbeats 40000000 in
theorem own_rAd0 (l : Launch) (Z : State) (a0 : Array Value) (hw : ∀ d ∈ tables_1, d.before a0 Z = true) (ws : List Jvm.Cond) (xo : Addr) (xe : Addr) (xd : Addr) (xm : Int32) (kd : ClassId) (h0 : Heap) (n0 : Nat) (Z0 : n0 ≤ h0.size) (E1 : Exa Z h0 xo "java/util/ArrayList") (Fm : Fld Z h0 xo "java/util/AbstractList" "modCount" "I" (.int xm)) (Fe : Fld Z h0 xo "java/util/ArrayList" "elementData" "[Ljava/lang/Object;" (.ref xd)) (Fs : Fld Z h0 xo "java/util/ArrayList" "size" "I" (.int (0 : Int32))) (gz : n0 ≤ xo) (Sd : Sta Z h0 "java/util/ArrayList" "DEFAULTCAPACITY_EMPTY_ELEMENTDATA" "[Ljava/lang/Object;" (.ref xd)) (Ad : own_A Z h0 xd kd (.object "java/lang/Object") []) (Ee : Exa Z h0 xe "java/time/Duration") :
    MetFree l (⟨"java/util/ArrayList", "add", "(Ljava/lang/Object;[Ljava/lang/Object;I)V"⟩ : MethodName) (head1 (Jvm.Cond.code (⟨"java/util/ArrayList", "add", "(Ljava/lang/Object;[Ljava/lang/Object;I)V"⟩ : MethodName) jdk_38_method_24_code 4 none :: ws) ({ frames := 3, cells := 1, slots := 10, locals := 41 } : Room)) (fun a U => a = #[(.ref xo), (.ref xe), (.ref xd), (.int (0 : Int32))] ∧ Z.Warmed39 U.vm ∧ U.heap = h0) (fun _ _ _ _ _ => True) (fun _ U o U' => ∃ v L, o = .returned v ∧ own_QAd0 Z xo xe xd xm kd h0 n0 v U'.heap L ∧ FrameEnd U o U' L ({ frames := 3, cells := 1, slots := 10, locals := 41 } : Room).cells ({ frames := 3, cells := 1, slots := 10, locals := 41 } : Room).slots) := by
  refine MetFree.of_bodySF (plainFor_of_name own_pn2) hisR ?_
  intro p e s m args below meth c s₁ Bd hml0 hP hK
  obtain ⟨rfl, hZ, hh⟩ := hP
  have hx := Bd.exec
  have hby := Bd.bytes
  have hml : c.maxLocals = 4 := hml0
  have hown : s.vm.findClass "java/util/ArrayList" = some m.cls := findClass_of_methodNamed Bd.named
  have hnm := (name_of_methodNamed Bd.named Bd.method).1
  have X0 : Stand p l e ({ frames := 3, cells := 1, slots := 10, locals := 41 } : Room) s m #[(.ref xo), (.ref xe), (.ref xd), (.int (0 : Int32))] below meth c s₁ [] 0 0 := Stand.of_body Bd
  have e0 : s₁.heap = h0 := by rw [← hh, Bd.state]; rfl
  have N0 := Fr.nil n0
  show own_F p e below (fun o U' => ∃ v L, o = .returned v ∧ own_QAd0 Z xo xe xd xm kd h0 n0 v U'.heap L ∧ FrameEnd s o U' L ({ frames := 3, cells := 1, slots := 10, locals := 41 } : Room).cells ({ frames := 3, cells := 1, slots := 10, locals := 41 } : Room).slots) s₁ (entryFrame m #[(.ref xo), (.ref xe), (.ref xd), (.int (0 : Int32))] 4)
  rw [own_efAd0 m xo xe xd]
  have nod : xo ≠ xd := own_neA E1 (hw _ (List.mem_of_getElem? (i := 21) rfl)) Ad
  refine own_go (T' := s₁) (g' := (mkF m 1 #[.val (.ref xo), .val (.ref xe), .val (.ref xd), .val (.int (0 : Int32))] [(.int (0 : Int32))])) (fun _ k => XS.iloadN X0.here hx rfl (hb hby own_dAd0_0) rfl k) ?_
  refine own_go (T' := s₁) (g' := (mkF m 2 #[.val (.ref xo), .val (.ref xe), .val (.ref xd), .val (.int (0 : Int32))] [(.ref xd), (.int (0 : Int32))])) (fun _ k => XS.aloadN X0.here hx rfl (hb hby own_dAd0_1) rfl rfl k) ?_
  refine own_go (T' := s₁) (g' := (mkF m 3 #[.val (.ref xo), .val (.ref xe), .val (.ref xd), .val (.int (0 : Int32))] [(.int (0 : Int32)), (.int (0 : Int32))])) (fun _ k => own_alen X0 hx hZ e0 Ad (g := (mkF m 2 #[.val (.ref xo), .val (.ref xe), .val (.ref xd), .val (.int (0 : Int32))] [(.ref xd), (.int (0 : Int32))])) rfl rfl (hb hby own_dAd0_2) (n := (0 : Int32)) rfl k) ?_
  refine own_go (T' := s₁) (g' := (mkF m 6 #[.val (.ref xo), .val (.ref xe), .val (.ref xd), .val (.int (0 : Int32))] [])) (fun _ k => XS.icmpNo X0.here hx rfl (hb hby own_dAd0_3) rfl (teq ((by decide) : (0 : Int32) = (0 : Int32))).2 k) ?_
  refine own_go (T' := s₁) (g' := (mkF m 7 #[.val (.ref xo), .val (.ref xe), .val (.ref xd), .val (.int (0 : Int32))] [(.ref xo)])) (fun _ k => XS.aloadN X0.here hx rfl (hb hby own_dAd0_6) rfl rfl k) ?_
  obtain ⟨cq1, q1, q1'⟩ := E1.cell
  obtain ⟨_, _, ⟨T1, L1, k1, n1⟩, -, X1, ⟨Lc1, hQ1, l1, y1, z1⟩, st1⟩ := X0.privateBack hx (y := (⟨"java/util/ArrayList", "grow", "()[Ljava/lang/Object;"⟩ : MethodName)) hown (mvT hZ (hw _ (List.mem_of_getElem? (i := 117) rfl))) (mvT hZ (hw _ (List.mem_of_getElem? (i := 118) rfl))) (mvT hZ (hw _ (List.mem_of_getElem? (i := 120) rfl))) (Cond.privateMethod_at (mvP hZ (hw _ (List.mem_of_getElem? (i := 119) rfl)) (args := #[]))) (mvT hZ (hw _ (List.mem_of_getElem? (i := 121) rfl))) (by decide) (backOf (W := 0) (own_rG0 l Z a0 hw [] xo xm xd kd h0 n0 Z0 E1 Fm Fe Fs gz Sd Ad) hZ (hw _ (List.mem_of_getElem? (i := 121) rfl)) (hw _ (List.mem_of_getElem? (i := 22) rfl)) (by decide) (by decide)) (g := (mkF m 7 #[.val (.ref xo), .val (.ref xe), .val (.ref xd), .val (.int (0 : Int32))] [(.ref xo)])) rfl (by rw [hml]; rfl) (Steps.refl _) (a := xo) (by rw [e0]; exact q1) q1' (argsL := []) (rest := []) (lenOf own_pd3 rfl) rfl (by show 2 * 0 + _ ≤ _; exact Nat.le_of_eq rfl) (hb hby own_dAd0_7) (fun _ _ => ⟨rfl, e0, (by decide : 0 + 1 ≤ _), (by decide : 0 + 10 ≤ _)⟩)
  dsimp only [Pt.U, Pt.locs, Pt.cells, Pt.slots] at X1 l1 y1 z1 st1 hQ1
  subst l1 y1 z1
  obtain ⟨-, N1q, Kc1, SKc1, r1, ka1, rfl, hzr1, Ec1, Fmc1, Fec1, Fsc1, Vc1, Ov1, Er1⟩ := hQ1
  have N1 := Fr.app N0 N1q
  have ne_xo_r1 : xo ≠ r1 := Nat.ne_of_lt (Nat.lt_of_lt_of_le E1.lt hzr1)
  have ne_xd_r1 : xd ≠ r1 := Nat.ne_of_lt (Nat.lt_of_lt_of_le Ad.lt hzr1)
  have ne_xe_r1 : xe ≠ r1 := Nat.ne_of_lt (Nat.lt_of_lt_of_le Ee.lt hzr1)
  have gz_r1 : n0 ≤ r1 := Nat.le_trans Z0 hzr1
  have hz_r1 : h0.size ≤ r1 := Nat.le_trans (Keep.refl h0 [xo]).1 hzr1
  have Vk2 := Ad.keep Kc1 (own_one (Ne.symm nod))
  have Ek3 := Ee.keep Kc1
  have Z1 : n0 ≤ T1.heap.size := Nat.le_trans Z0 Kc1.1
  have SK1 : own_SK Z h0 T1.heap := (own_SK.rf Z h0).tr SKc1
  have K1 : Keep h0 T1.heap [xo] := (Keep.refl h0 [xo]).trans Kc1 (own_or1 (Or.inl (List.mem_of_getElem? (i := 0) rfl)))
  refine own_goT (T' := T1) (g' := (mkF m 10 #[.val (.ref xo), .val (.ref xe), .val (.ref xd), .val (.int (0 : Int32))] [(.ref r1)])) st1 ?_
  refine own_go (T' := T1) (g' := (mkF m 11 #[.val (.ref xo), .val (.ref xe), .val (.ref r1), .val (.int (0 : Int32))] [])) (fun _ k => XS.astoreN X1.here hx rfl (hb hby own_dAd0_10) rfl rfl (l' := #[.val (.ref xo), .val (.ref xe), .val (.ref r1), .val (.int (0 : Int32))]) rfl k) ?_
  refine own_go (T' := T1) (g' := (mkF m 12 #[.val (.ref xo), .val (.ref xe), .val (.ref r1), .val (.int (0 : Int32))] [(.ref r1)])) (fun _ k => XS.aloadN X1.here hx rfl (hb hby own_dAd0_11) rfl rfl k) ?_
  refine own_go (T' := T1) (g' := (mkF m 13 #[.val (.ref xo), .val (.ref xe), .val (.ref r1), .val (.int (0 : Int32))] [(.int (0 : Int32)), (.ref r1)])) (fun _ k => XS.iloadN X1.here hx rfl (hb hby own_dAd0_12) rfl k) ?_
  refine own_go (T' := T1) (g' := (mkF m 14 #[.val (.ref xo), .val (.ref xe), .val (.ref r1), .val (.int (0 : Int32))] [(.ref xe), (.int (0 : Int32)), (.ref r1)])) (fun _ k => XS.aloadN X1.here hx rfl (hb hby own_dAd0_13) rfl rfl k) ?_
  obtain ⟨T4, h4, X4, e4, V4, W4, st4⟩ := own_aastore X1 hx hZ rfl Vc1 (j := (0 : Int32)) (i := 0) rfl (by decide) (Nat.le_of_ble_eq_true rfl) rfl (own_A.sto Vc1 Ov1 (Ins.of_exa Ek3 (hw _ (List.mem_of_getElem? (i := 133) rfl)))) (g := (mkF m 14 #[.val (.ref xo), .val (.ref xe), .val (.ref r1), .val (.int (0 : Int32))] [(.ref xe), (.int (0 : Int32)), (.ref r1)])) rfl rfl (hb hby own_dAd0_14)
  have Va4 : own_A Z h4 r1 ka1 (.object "java/lang/Object") [(.ref xe), .null, .null, .null, .null, .null, .null, .null, .null, .null] := V4
  have Vk5 := Vk2.other W4 ne_xd_r1
  have Ek6 := Ek3.wr W4
  have Ek7 := Ec1.wr W4
  have Fk8 := Fmc1.other W4 (Or.inl ne_xo_r1)
  have Fk9 := Fec1.other W4 (Or.inl ne_xo_r1)
  have Fk10 := Fsc1.other W4 (Or.inl ne_xo_r1)
  have Ek11 := Er1.wr W4
  have Z4 : n0 ≤ h4.size := Nat.le_trans Z1 (Keep.of_wr W4).1
  have K4 : Keep h0 h4 [xo] := K1.wr W4 (Or.inr hz_r1)
  have N4 := Fr.snoc X4 N1 gz_r1
  have SK4 : own_SK Z h0 h4 := SK1.wr W4
  refine own_go (T' := T4) (g' := (mkF m 15 #[.val (.ref xo), .val (.ref xe), .val (.ref r1), .val (.int (0 : Int32))] [])) (fun _ k => st4 _ k) ?_
  refine own_go (T' := T4) (g' := (mkF m 16 #[.val (.ref xo), .val (.ref xe), .val (.ref r1), .val (.int (0 : Int32))] [(.ref xo)])) (fun _ k => XS.aloadN X4.here hx rfl (hb hby own_dAd0_15) rfl rfl k) ?_
  refine own_go (T' := T4) (g' := (mkF m 17 #[.val (.ref xo), .val (.ref xe), .val (.ref r1), .val (.int (0 : Int32))] [(.int (0 : Int32)), (.ref xo)])) (fun _ k => XS.iloadN X4.here hx rfl (hb hby own_dAd0_16) rfl k) ?_
  refine own_go (T' := T4) (g' := (mkF m 18 #[.val (.ref xo), .val (.ref xe), .val (.ref r1), .val (.int (0 : Int32))] [(.int (1 : Int32)), (.int (0 : Int32)), (.ref xo)])) (fun _ k => XS.iconst X4.here hx rfl (hb hby own_dAd0_17) k) ?_
  refine own_go (T' := T4) (g' := (mkF m 19 #[.val (.ref xo), .val (.ref xe), .val (.ref r1), .val (.int (0 : Int32))] [(.int (1 : Int32)), (.ref xo)])) (fun _ k => XS.iadd X4.here hx rfl (hb hby own_dAd0_18) rfl k) ?_
  obtain ⟨T12, h12, X12, e12, W12, st12⟩ := putF X4 hx hZ hown (host := "") (Or.inl (hw _ (List.mem_of_getElem? (i := 79) rfl))) Via.refl e4 Fk10 Ek7 (Or.inl (hw _ (List.mem_of_getElem? (i := 80) rfl))) (hw _ (List.mem_of_getElem? (i := 21) rfl)) (ty := .int) (by decide) rfl rfl (g := (mkF m 19 #[.val (.ref xo), .val (.ref xe), .val (.ref r1), .val (.int (0 : Int32))] [(.int (1 : Int32)), (.ref xo)])) rfl rfl (hb hby own_dAd0_19)
  have Fw12 := Fk10.same W12
  have Vk13 := Vk5.other W12 (Ne.symm nod)
  have Ek14 := Ek6.wr W12
  have Ek15 := Ek7.wr W12
  have Fk16 := Fk8.other W12 (Or.inr (slot_ne (Or.inl (hw _ (List.mem_of_getElem? (i := 40) rfl))) (Or.inl (hw _ (List.mem_of_getElem? (i := 80) rfl))) (by decide) (t := .int) (t' := .int) (by decide) (by decide)))
  have Fk17 := Fk9.other W12 (Or.inr (slot_ne (Or.inl (hw _ (List.mem_of_getElem? (i := 43) rfl))) (Or.inl (hw _ (List.mem_of_getElem? (i := 80) rfl))) (by decide) (t := (.array (.object "java/lang/Object"))) (t' := .int) (by decide) (by decide)))
  have Ek18 := Ek11.wr W12
  have Vk19 := Va4.other W12 (Ne.symm ne_xo_r1)
  have Z12 : n0 ≤ h12.size := Nat.le_trans Z4 (Keep.of_wr W12).1
  have K12 : Keep h0 h12 [xo] := K4.wr W12 (Or.inl (List.mem_of_getElem? (i := 0) rfl))
  have N12 := Fr.snoc X12 N4 gz
  have SK12 : own_SK Z h0 h12 := SK4.wr W12
  refine own_go (T' := T12) (g' := (mkF m 22 #[.val (.ref xo), .val (.ref xe), .val (.ref r1), .val (.int (0 : Int32))] [])) (fun _ k => st12 _ k) ?_
  obtain ⟨fs, hr, hrun, hended, hW, hsame⟩ := X12.leave (v := none) (fun _ => rfl)
  refine own_end (X12.returnOut hx Bd.returns (hb hby own_dAd0_22) hr) hrun hended ⟨_, _, rfl, (?_ : own_QAd0 Z xo xe xd xm kd h0 n0 _ T12.heap _), ⟨_, rfl⟩, hW, hsame.mono (by decide) (by decide)⟩
  rw [e12]
  exact ⟨rfl, N12, K12, SK12, r1, ka1, hz_r1, Ek15, Fk16, Fk17, Fw12, Vk19, Ov1, Ek18⟩
theorem own_pd4 : parseMethodDescriptor "(Ljava/lang/Object;[Ljava/lang/Object;I)V" = some ⟨[(.object "java/lang/Object"), (.array (.object "java/lang/Object")), .int], none⟩ := by decide +kernel
theorem own_dA0_0 : decode jdk_38_method_25_code 0 = .ok (.aload_n 0, 1) := by decide +kernel
theorem own_dA0_1 : decode jdk_38_method_25_code 1 = .ok (.dup, 1) := by decide +kernel
theorem own_dA0_2 : decode jdk_38_method_25_code 2 = .ok (.getfield 63, 3) := by decide +kernel
theorem own_dA0_5 : decode jdk_38_method_25_code 5 = .ok (.iconst 1, 1) := by decide +kernel
theorem own_dA0_6 : decode jdk_38_method_25_code 6 = .ok (.iadd, 1) := by decide +kernel
theorem own_dA0_7 : decode jdk_38_method_25_code 7 = .ok (.putfield 63, 3) := by decide +kernel
theorem own_dA0_10 : decode jdk_38_method_25_code 10 = .ok (.aload_n 0, 1) := by decide +kernel
theorem own_dA0_11 : decode jdk_38_method_25_code 11 = .ok (.aload_n 1, 1) := by decide +kernel
theorem own_dA0_12 : decode jdk_38_method_25_code 12 = .ok (.aload_n 0, 1) := by decide +kernel
theorem own_dA0_13 : decode jdk_38_method_25_code 13 = .ok (.getfield 9, 3) := by decide +kernel
theorem own_dA0_16 : decode jdk_38_method_25_code 16 = .ok (.aload_n 0, 1) := by decide +kernel
theorem own_dA0_17 : decode jdk_38_method_25_code 17 = .ok (.getfield 48, 3) := by decide +kernel
theorem own_dA0_20 : decode jdk_38_method_25_code 20 = .ok (.invokevirtual 131, 3) := by decide +kernel
theorem own_dA0_23 : decode jdk_38_method_25_code 23 = .ok (.iconst 1, 1) := by decide +kernel
theorem own_dA0_24 : decode jdk_38_method_25_code 24 = .ok (.ireturn, 1) := by decide +kernel
theorem own_efA0 (m : MethodId) (xo : Addr) (xe : Addr) : entryFrame m #[(.ref xo), (.ref xe)] 2 = mkF m 0 #[.val (.ref xo), .val (.ref xe)] [] := by first | (simp [entryFrame, mkF, argsToLocals, Value.category]; done) | rfl
def own_QA0 (Z : State) (xo : Addr) (xe : Addr) (xm : Int32) (xd : Addr) (kd : ClassId) (h0 : Heap) (n0 : Nat) (v : Option Value) (h : Heap) (L : List Loc) : Prop := v = some (.int (1 : Int32)) ∧ Fr n0 L ∧ Keep h0 h [xo] ∧ own_SK Z h0 h ∧ ∃ r ka, h0.size ≤ r ∧ Exa Z h xo "java/util/ArrayList" ∧ Fld Z h xo "java/util/AbstractList" "modCount" "I" (.int (xm + (1 : Int32))) ∧ Fld Z h xo "java/util/ArrayList" "elementData" "[Ljava/lang/Object;" (.ref r) ∧ Fld Z h xo "java/util/ArrayList" "size" "I" (.int (1 : Int32)) ∧ own_A Z h r ka (.object "java/lang/Object") [(.ref xe), .null, .null, .null, .null, .null, .null, .null, .null, .null] ∧ Ovr Z ka "java/lang/Object" ∧ Exa Z h r "[Ljava/lang/Object;"
set_option maxRecDepth 65536 in
set_option maxHeartbeats 40000000 in
theorem own_rA0 (l : Launch) (Z : State) (a0 : Array Value) (hw : ∀ d ∈ tables_1, d.before a0 Z = true) (ws : List Jvm.Cond) (xo : Addr) (xe : Addr) (xm : Int32) (xd : Addr) (kd : ClassId) (h0 : Heap) (n0 : Nat) (Z0 : n0 ≤ h0.size) (E1 : Exa Z h0 xo "java/util/ArrayList") (Fm : Fld Z h0 xo "java/util/AbstractList" "modCount" "I" (.int xm)) (Fe : Fld Z h0 xo "java/util/ArrayList" "elementData" "[Ljava/lang/Object;" (.ref xd)) (Fs : Fld Z h0 xo "java/util/ArrayList" "size" "I" (.int (0 : Int32))) (gz : n0 ≤ xo) (Sd : Sta Z h0 "java/util/ArrayList" "DEFAULTCAPACITY_EMPTY_ELEMENTDATA" "[Ljava/lang/Object;" (.ref xd)) (Ad : own_A Z h0 xd kd (.object "java/lang/Object") []) (Ee : Exa Z h0 xe "java/time/Duration") :
    MetFree l (⟨"java/util/ArrayList", "add", "(Ljava/lang/Object;)Z"⟩ : MethodName) (head1 (Jvm.Cond.code (⟨"java/util/ArrayList", "add", "(Ljava/lang/Object;)Z"⟩ : MethodName) jdk_38_method_25_code 2 (some .boolean) :: ws) ({ frames := 4, cells := 1, slots := 10, locals := 56 } : Room)) (fun a U => a = #[(.ref xo), (.ref xe)] ∧ Z.Warmed39 U.vm ∧ U.heap = h0) (fun _ _ _ _ _ => True) (fun _ U o U' => ∃ v L, o = .returned v ∧ own_QA0 Z xo xe xm xd kd h0 n0 v U'.heap L ∧ FrameEnd U o U' L ({ frames := 4, cells := 1, slots := 10, locals := 56 } : Room).cells ({ frames := 4, cells := 1, slots := 10, locals := 56 } : Room).slots) := by
  refine MetFree.of_bodySF (plainFor_of_name own_pn2) hisR ?_
  intro p e s m args below meth c s₁ Bd hml0 hP hK
  obtain ⟨rfl, hZ, hh⟩ := hP
  have hx := Bd.exec
  have hby := Bd.bytes
  have hml : c.maxLocals = 2 := hml0
  have hown : s.vm.findClass "java/util/ArrayList" = some m.cls := findClass_of_methodNamed Bd.named
  have hnm := (name_of_methodNamed Bd.named Bd.method).1
  have X0 : Stand p l e ({ frames := 4, cells := 1, slots := 10, locals := 56 } : Room) s m #[(.ref xo), (.ref xe)] below meth c s₁ [] 0 0 := Stand.of_body Bd
  have e0 : s₁.heap = h0 := by rw [← hh, Bd.state]; rfl
  have N0 := Fr.nil n0
  show own_F p e below (fun o U' => ∃ v L, o = .returned v ∧ own_QA0 Z xo xe xm xd kd h0 n0 v U'.heap L ∧ FrameEnd s o U' L ({ frames := 4, cells := 1, slots := 10, locals := 56 } : Room).cells ({ frames := 4, cells := 1, slots := 10, locals := 56 } : Room).slots) s₁ (entryFrame m #[(.ref xo), (.ref xe)] 2)
  rw [own_efA0 m xo xe]
  have nod : xo ≠ xd := own_neA E1 (hw _ (List.mem_of_getElem? (i := 21) rfl)) Ad
  refine own_go (T' := s₁) (g' := (mkF m 1 #[.val (.ref xo), .val (.ref xe)] [(.ref xo)])) (fun _ k => XS.aloadN X0.here hx rfl (hb hby own_dA0_0) rfl rfl k) ?_
  refine own_go (T' := s₁) (g' := (mkF m 2 #[.val (.ref xo), .val (.ref xe)] [(.ref xo), (.ref xo)])) (fun _ k => XS.dup X0.here hx rfl (hb hby own_dA0_1) rfl rfl k) ?_
  obtain ⟨T1, X1, e1, st1⟩ := getF X0 hx hZ hown (host := "") (Or.inl (hw _ (List.mem_of_getElem? (i := 110) rfl))) (Via.of (hw _ (List.mem_of_getElem? (i := 111) rfl))) e0 Fm (g := (mkF m 2 #[.val (.ref xo), .val (.ref xe)] [(.ref xo), (.ref xo)])) rfl rfl (hb hby own_dA0_2)
  refine own_go (T' := T1) (g' := (mkF m 5 #[.val (.ref xo), .val (.ref xe)] [(.int xm), (.ref xo)])) (fun _ k => st1 _ k) ?_
  refine own_go (T' := T1) (g' := (mkF m 6 #[.val (.ref xo), .val (.ref xe)] [(.int (1 : Int32)), (.int xm), (.ref xo)])) (fun _ k => XS.iconst X1.here hx rfl (hb hby own_dA0_5) k) ?_
  refine own_go (T' := T1) (g' := (mkF m 7 #[.val (.ref xo), .val (.ref xe)] [(.int (xm + (1 : Int32))), (.ref xo)])) (fun _ k => XS.iadd X1.here hx rfl (hb hby own_dA0_6) rfl k) ?_
  obtain ⟨T2, h2, X2, e2, W2, st2⟩ := putF X1 hx hZ hown (host := "") (Or.inl (hw _ (List.mem_of_getElem? (i := 110) rfl))) (Via.of (hw _ (List.mem_of_getElem? (i := 111) rfl))) e1 Fm E1 (Or.inl (hw _ (List.mem_of_getElem? (i := 40) rfl))) (hw _ (List.mem_of_getElem? (i := 21) rfl)) (ty := .int) (by decide) rfl rfl (g := (mkF m 7 #[.val (.ref xo), .val (.ref xe)] [(.int (xm + (1 : Int32))), (.ref xo)])) rfl rfl (hb hby own_dA0_7)
  have Fw2 := Fm.same W2
  have Ek3 := E1.wr W2
  have Fk4 := Fe.other W2 (Or.inr (slot_ne (Or.inl (hw _ (List.mem_of_getElem? (i := 43) rfl))) (Or.inl (hw _ (List.mem_of_getElem? (i := 40) rfl))) (by decide) (t := (.array (.object "java/lang/Object"))) (t' := .int) (by decide) (by decide)))
  have Fk5 := Fs.other W2 (Or.inr (slot_ne (Or.inl (hw _ (List.mem_of_getElem? (i := 80) rfl))) (Or.inl (hw _ (List.mem_of_getElem? (i := 40) rfl))) (by decide) (t := .int) (t' := .int) (by decide) (by decide)))
  have Vk6 := Ad.other W2 (Ne.symm nod)
  have Ek7 := Ee.wr W2
  have Z2 : n0 ≤ h2.size := Nat.le_trans Z0 (Keep.of_wr W2).1
  have K2 : Keep h0 h2 [xo] := (Keep.refl h0 [xo]).wr W2 (Or.inl (List.mem_of_getElem? (i := 0) rfl))
  have N2 := Fr.snoc X2 N0 gz
  have SK2 : own_SK Z h0 h2 := (own_SK.rf Z h0).wr W2
  refine own_go (T' := T2) (g' := (mkF m 10 #[.val (.ref xo), .val (.ref xe)] [])) (fun _ k => st2 _ k) ?_
  refine own_go (T' := T2) (g' := (mkF m 11 #[.val (.ref xo), .val (.ref xe)] [(.ref xo)])) (fun _ k => XS.aloadN X2.here hx rfl (hb hby own_dA0_10) rfl rfl k) ?_
  refine own_go (T' := T2) (g' := (mkF m 12 #[.val (.ref xo), .val (.ref xe)] [(.ref xe), (.ref xo)])) (fun _ k => XS.aloadN X2.here hx rfl (hb hby own_dA0_11) rfl rfl k) ?_
  refine own_go (T' := T2) (g' := (mkF m 13 #[.val (.ref xo), .val (.ref xe)] [(.ref xo), (.ref xe), (.ref xo)])) (fun _ k => XS.aloadN X2.here hx rfl (hb hby own_dA0_12) rfl rfl k) ?_
  obtain ⟨T8, X8, e8, st8⟩ := getF X2 hx hZ hown (host := "") (Or.inl (hw _ (List.mem_of_getElem? (i := 42) rfl))) Via.refl e2 Fk4 (g := (mkF m 13 #[.val (.ref xo), .val (.ref xe)] [(.ref xo), (.ref xe), (.ref xo)])) rfl rfl (hb hby own_dA0_13)
  refine own_go (T' := T8) (g' := (mkF m 16 #[.val (.ref xo), .val (.ref xe)] [(.ref xd), (.ref xe), (.ref xo)])) (fun _ k => st8 _ k) ?_
  refine own_go (T' := T8) (g' := (mkF m 17 #[.val (.ref xo), .val (.ref xe)] [(.ref xo), (.ref xd), (.ref xe), (.ref xo)])) (fun _ k => XS.aloadN X8.here hx rfl (hb hby own_dA0_16) rfl rfl k) ?_
  obtain ⟨T9, X9, e9, st9⟩ := getF X8 hx hZ hown (host := "") (Or.inl (hw _ (List.mem_of_getElem? (i := 79) rfl))) Via.refl e8 Fk5 (g := (mkF m 17 #[.val (.ref xo), .val (.ref xe)] [(.ref xo), (.ref xd), (.ref xe), (.ref xo)])) rfl rfl (hb hby own_dA0_17)
  refine own_go (T' := T9) (g' := (mkF m 20 #[.val (.ref xo), .val (.ref xe)] [(.int (0 : Int32)), (.ref xd), (.ref xe), (.ref xo)])) (fun _ k => st9 _ k) ?_
  obtain ⟨cq10, q10, q10'⟩ := Ek3.cell
  obtain ⟨_, _, ⟨T10, L10, k10, n10⟩, -, X10, ⟨Lc10, hQ10, l10, y10, z10⟩, st10⟩ := X9.privateBack hx (y := (⟨"java/util/ArrayList", "add", "(Ljava/lang/Object;[Ljava/lang/Object;I)V"⟩ : MethodName)) hown (mvT hZ (hw _ (List.mem_of_getElem? (i := 112) rfl))) (mvT hZ (hw _ (List.mem_of_getElem? (i := 113) rfl))) (mvT hZ (hw _ (List.mem_of_getElem? (i := 115) rfl))) (Cond.privateMethod_at (mvP hZ (hw _ (List.mem_of_getElem? (i := 114) rfl)) (args := #[]))) (mvT hZ (hw _ (List.mem_of_getElem? (i := 116) rfl))) (by decide) (backOf (W := 0) (own_rAd0 l Z a0 hw [] xo xe xd (xm + (1 : Int32)) kd h2 n0 Z2 Ek3 Fw2 Fk4 Fk5 gz (SK2 _ _ _ _ Sd) Vk6 Ek7) hZ (hw _ (List.mem_of_getElem? (i := 116) rfl)) (hw _ (List.mem_of_getElem? (i := 22) rfl)) (by decide) (by decide)) (g := (mkF m 20 #[.val (.ref xo), .val (.ref xe)] [(.int (0 : Int32)), (.ref xd), (.ref xe), (.ref xo)])) rfl (by rw [hml]; rfl) (Steps.refl _) (a := xo) (by rw [e9]; exact q10) q10' (argsL := [(.ref xe), (.ref xd), (.int (0 : Int32))]) (rest := []) (lenOf own_pd4 rfl) rfl (by show 2 * 0 + _ ≤ _; exact Nat.le_of_eq rfl) (hb hby own_dA0_20) (fun _ _ => ⟨rfl, e9, (by decide : 0 + 1 ≤ _), (by decide : 0 + 10 ≤ _)⟩)
  dsimp only [Pt.U, Pt.locs, Pt.cells, Pt.slots] at X10 l10 y10 z10 st10 hQ10
  subst l10 y10 z10
  obtain ⟨rfl, N10q, Kc10, SKc10, r10, ka10, hzr10, Ec10, Fmc10, Fec10, Fsc10, Vc10, Ov10, Er10⟩ := hQ10
  have N10 := Fr.app N2 N10q
  have ne_xo_r10 : xo ≠ r10 := Nat.ne_of_lt (Nat.lt_of_lt_of_le Ek3.lt hzr10)
  have ne_xd_r10 : xd ≠ r10 := Nat.ne_of_lt (Nat.lt_of_lt_of_le Vk6.lt hzr10)
  have ne_xe_r10 : xe ≠ r10 := Nat.ne_of_lt (Nat.lt_of_lt_of_le Ek7.lt hzr10)
  have gz_r10 : n0 ≤ r10 := Nat.le_trans Z2 hzr10
  have hz_r10 : h0.size ≤ r10 := Nat.le_trans K2.1 hzr10
  have Ek11 := Ek7.keep Kc10
  have Z10 : n0 ≤ T10.heap.size := Nat.le_trans Z2 Kc10.1
  have SK10 : own_SK Z h0 T10.heap := SK2.tr SKc10
  have K10 : Keep h0 T10.heap [xo] := K2.trans Kc10 (own_or1 (Or.inl (List.mem_of_getElem? (i := 0) rfl)))
  refine own_goT (T' := T10) (g' := (mkF m 23 #[.val (.ref xo), .val (.ref xe)] [])) st10 ?_
  refine own_go (T' := T10) (g' := (mkF m 24 #[.val (.ref xo), .val (.ref xe)] [(.int (1 : Int32))])) (fun _ k => XS.iconst X10.here hx rfl (hb hby own_dA0_23) k) ?_
  obtain ⟨fs, hr, hrun, hended, hW, hsame⟩ := X10.leave (v := some (.int (1 : Int32))) (fun h => by rw [Bd.returns] at h; cases h)
  refine own_end (retN X10 hx (t := .boolean) Bd.returns (by simp) (hb hby own_dA0_24) hr) hrun hended ⟨_, _, rfl, (?_ : own_QA0 Z xo xe xm xd kd h0 n0 _ T10.heap _), ⟨_, rfl⟩, hW, hsame.mono (by decide) (by decide)⟩
  exact ⟨rfl, N10, K10, SK10, r10, ka10, hz_r10, Ec10, Fmc10, Fec10, Fsc10, Vc10, Ov10, Er10⟩
theorem own_dAd1_0 : decode jdk_38_method_24_code 0 = .ok (.iload_n 3, 1) := by decide +kernel
theorem own_dAd1_1 : decode jdk_38_method_24_code 1 = .ok (.aload_n 2, 1) := by decide +kernel
theorem own_dAd1_2 : decode jdk_38_method_24_code 2 = .ok (.arraylength, 1) := by decide +kernel
theorem own_dAd1_3 : decode jdk_38_method_24_code 3 = .ok (.if_icmp .ne 8, 3) := by decide +kernel
theorem own_dAd1_11 : decode jdk_38_method_24_code 11 = .ok (.aload_n 2, 1) := by decide +kernel
theorem own_dAd1_12 : decode jdk_38_method_24_code 12 = .ok (.iload_n 3, 1) := by decide +kernel
theorem own_dAd1_13 : decode jdk_38_method_24_code 13 = .ok (.aload_n 1, 1) := by decide +kernel
theorem own_dAd1_14 : decode jdk_38_method_24_code 14 = .ok (.aastore, 1) := by decide +kernel
theorem own_dAd1_15 : decode jdk_38_method_24_code 15 = .ok (.aload_n 0, 1) := by decide +kernel
theorem own_dAd1_16 : decode jdk_38_method_24_code 16 = .ok (.iload_n 3, 1) := by decide +kernel
theorem own_dAd1_17 : decode jdk_38_method_24_code 17 = .ok (.iconst 1, 1) := by decide +kernel
theorem own_dAd1_18 : decode jdk_38_method_24_code 18 = .ok (.iadd, 1) := by decide +kernel
theorem own_dAd1_19 : decode jdk_38_method_24_code 19 = .ok (.putfield 48, 3) := by decide +kernel
theorem own_dAd1_22 : decode jdk_38_method_24_code 22 = .ok (.return_, 1) := by decide +kernel
theorem own_efAd1 (m : MethodId) (xo : Addr) (xe : Addr) (xa : Addr) : entryFrame m #[(.ref xo), (.ref xe), (.ref xa), (.int (1 : Int32))] 4 = mkF m 0 #[.val (.ref xo), .val (.ref xe), .val (.ref xa), .val (.int (1 : Int32))] [] := by first | (simp [entryFrame, mkF, argsToLocals, Value.category]; done) | rfl
def own_QAd1 (Z : State) (xo : Addr) (xe : Addr) (xa : Addr) (xm : Int32) (ka : ClassId) (y0 : Addr) (h0 : Heap) (n0 : Nat) (v : Option Value) (h : Heap) (L : List Loc) : Prop := v = none ∧ Fr n0 L ∧ Keep h0 h [xo, xa] ∧ own_SK Z h0 h ∧ Exa Z h xo "java/util/ArrayList" ∧ Fld Z h xo "java/util/AbstractList" "modCount" "I" (.int xm) ∧ Fld Z h xo "java/util/ArrayList" "elementData" "[Ljava/lang/Object;" (.ref xa) ∧ Fld Z h xo "java/util/ArrayList" "size" "I" (.int (2 : Int32)) ∧ own_A Z h xa ka (.object "java/lang/Object") [(.ref y0), (.ref xe), .null, .null, .null, .null, .null, .null, .null, .null]
set_option maxRecDepth 65536 in
set_option maxHeartbeats 40000000 in
theorem own_rAd1 (l : Launch) (Z : State) (a0 : Array Value) (hw : ∀ d ∈ tables_1, d.before a0 Z = true) (ws : List Jvm.Cond) (xo : Addr) (xe : Addr) (xa : Addr) (xm : Int32) (ka : ClassId) (y0 : Addr) (h0 : Heap) (n0 : Nat) (Z0 : n0 ≤ h0.size) (E1 : Exa Z h0 xo "java/util/ArrayList") (Fm : Fld Z h0 xo "java/util/AbstractList" "modCount" "I" (.int xm)) (Fe : Fld Z h0 xo "java/util/ArrayList" "elementData" "[Ljava/lang/Object;" (.ref xa)) (Fs : Fld Z h0 xo "java/util/ArrayList" "size" "I" (.int (1 : Int32))) (gz : n0 ≤ xo) (ga : n0 ≤ xa) (noa : xo ≠ xa) (Va : own_A Z h0 xa ka (.object "java/lang/Object") [(.ref y0), .null, .null, .null, .null, .null, .null, .null, .null, .null]) (Ov : Ovr Z ka "java/lang/Object") (Ee : Exa Z h0 xe "java/time/Duration") :
    MetFree l (⟨"java/util/ArrayList", "add", "(Ljava/lang/Object;[Ljava/lang/Object;I)V"⟩ : MethodName) (head1 (Jvm.Cond.code (⟨"java/util/ArrayList", "add", "(Ljava/lang/Object;[Ljava/lang/Object;I)V"⟩ : MethodName) jdk_38_method_24_code 4 none :: ws) ({ frames := 0, cells := 0, slots := 0, locals := 0 } : Room)) (fun a U => a = #[(.ref xo), (.ref xe), (.ref xa), (.int (1 : Int32))] ∧ Z.Warmed39 U.vm ∧ U.heap = h0) (fun _ _ _ _ _ => True) (fun _ U o U' => ∃ v L, o = .returned v ∧ own_QAd1 Z xo xe xa xm ka y0 h0 n0 v U'.heap L ∧ FrameEnd U o U' L ({ frames := 0, cells := 0, slots := 0, locals := 0 } : Room).cells ({ frames := 0, cells := 0, slots := 0, locals := 0 } : Room).slots) := by
  refine MetFree.of_bodySF (plainFor_of_name own_pn2) hisR ?_
  intro p e s m args below meth c s₁ Bd hml0 hP hK
  obtain ⟨rfl, hZ, hh⟩ := hP
  have hx := Bd.exec
  have hby := Bd.bytes
  have hml : c.maxLocals = 4 := hml0
  have hown : s.vm.findClass "java/util/ArrayList" = some m.cls := findClass_of_methodNamed Bd.named
  have hnm := (name_of_methodNamed Bd.named Bd.method).1
  have X0 : Stand p l e ({ frames := 0, cells := 0, slots := 0, locals := 0 } : Room) s m #[(.ref xo), (.ref xe), (.ref xa), (.int (1 : Int32))] below meth c s₁ [] 0 0 := Stand.of_body Bd
  have e0 : s₁.heap = h0 := by rw [← hh, Bd.state]; rfl
  have N0 := Fr.nil n0
  show own_F p e below (fun o U' => ∃ v L, o = .returned v ∧ own_QAd1 Z xo xe xa xm ka y0 h0 n0 v U'.heap L ∧ FrameEnd s o U' L ({ frames := 0, cells := 0, slots := 0, locals := 0 } : Room).cells ({ frames := 0, cells := 0, slots := 0, locals := 0 } : Room).slots) s₁ (entryFrame m #[(.ref xo), (.ref xe), (.ref xa), (.int (1 : Int32))] 4)
  rw [own_efAd1 m xo xe xa]
  refine own_go (T' := s₁) (g' := (mkF m 1 #[.val (.ref xo), .val (.ref xe), .val (.ref xa), .val (.int (1 : Int32))] [(.int (1 : Int32))])) (fun _ k => XS.iloadN X0.here hx rfl (hb hby own_dAd1_0) rfl k) ?_
  refine own_go (T' := s₁) (g' := (mkF m 2 #[.val (.ref xo), .val (.ref xe), .val (.ref xa), .val (.int (1 : Int32))] [(.ref xa), (.int (1 : Int32))])) (fun _ k => XS.aloadN X0.here hx rfl (hb hby own_dAd1_1) rfl rfl k) ?_
  refine own_go (T' := s₁) (g' := (mkF m 3 #[.val (.ref xo), .val (.ref xe), .val (.ref xa), .val (.int (1 : Int32))] [(.int (10 : Int32)), (.int (1 : Int32))])) (fun _ k => own_alen X0 hx hZ e0 Va (g := (mkF m 2 #[.val (.ref xo), .val (.ref xe), .val (.ref xa), .val (.int (1 : Int32))] [(.ref xa), (.int (1 : Int32))])) rfl rfl (hb hby own_dAd1_2) (n := (10 : Int32)) rfl k) ?_
  refine own_go (T' := s₁) (g' := (mkF m 11 #[.val (.ref xo), .val (.ref xe), .val (.ref xa), .val (.int (1 : Int32))] [])) (fun _ k => XS.icmpYes X0.here hx rfl (pc0 := 3) (pc' := 11) rfl (hb hby own_dAd1_3) rfl (feq ((by decide) : ¬ ((1 : Int32) = (10 : Int32)))).2 (by decide) (by decide) k) ?_
  refine own_go (T' := s₁) (g' := (mkF m 12 #[.val (.ref xo), .val (.ref xe), .val (.ref xa), .val (.int (1 : Int32))] [(.ref xa)])) (fun _ k => XS.aloadN X0.here hx rfl (hb hby own_dAd1_11) rfl rfl k) ?_
  refine own_go (T' := s₁) (g' := (mkF m 13 #[.val (.ref xo), .val (.ref xe), .val (.ref xa), .val (.int (1 : Int32))] [(.int (1 : Int32)), (.ref xa)])) (fun _ k => XS.iloadN X0.here hx rfl (hb hby own_dAd1_12) rfl k) ?_
  refine own_go (T' := s₁) (g' := (mkF m 14 #[.val (.ref xo), .val (.ref xe), .val (.ref xa), .val (.int (1 : Int32))] [(.ref xe), (.int (1 : Int32)), (.ref xa)])) (fun _ k => XS.aloadN X0.here hx rfl (hb hby own_dAd1_13) rfl rfl k) ?_
  obtain ⟨T1, h1, X1, e1, V1, W1, st1⟩ := own_aastore X0 hx hZ e0 Va (j := (1 : Int32)) (i := 1) rfl (by decide) (Nat.le_of_ble_eq_true rfl) rfl (own_A.sto Va Ov (Ins.of_exa Ee (hw _ (List.mem_of_getElem? (i := 133) rfl)))) (g := (mkF m 14 #[.val (.ref xo), .val (.ref xe), .val (.ref xa), .val (.int (1 : Int32))] [(.ref xe), (.int (1 : Int32)), (.ref xa)])) rfl rfl (hb hby own_dAd1_14)
  have Va1 : own_A Z h1 xa ka (.object "java/lang/Object") [(.ref y0), (.ref xe), .null, .null, .null, .null, .null, .null, .null, .null] := V1
  have Ek2 := E1.wr W1
  have Fk3 := Fm.other W1 (Or.inl noa)
  have Fk4 := Fe.other W1 (Or.inl noa)
  have Fk5 := Fs.other W1 (Or.inl noa)
  have Ek6 := Ee.wr W1
  have Z1 : n0 ≤ h1.size := Nat.le_trans Z0 (Keep.of_wr W1).1
  have K1 : Keep h0 h1 [xo, xa] := (Keep.refl h0 [xo, xa]).wr W1 (Or.inl (List.mem_of_getElem? (i := 1) rfl))
  have N1 := Fr.snoc X1 N0 ga
  have SK1 : own_SK Z h0 h1 := (own_SK.rf Z h0).wr W1
  refine own_go (T' := T1) (g' := (mkF m 15 #[.val (.ref xo), .val (.ref xe), .val (.ref xa), .val (.int (1 : Int32))] [])) (fun _ k => st1 _ k) ?_
  refine own_go (T' := T1) (g' := (mkF m 16 #[.val (.ref xo), .val (.ref xe), .val (.ref xa), .val (.int (1 : Int32))] [(.ref xo)])) (fun _ k => XS.aloadN X1.here hx rfl (hb hby own_dAd1_15) rfl rfl k) ?_
  refine own_go (T' := T1) (g' := (mkF m 17 #[.val (.ref xo), .val (.ref xe), .val (.ref xa), .val (.int (1 : Int32))] [(.int (1 : Int32)), (.ref xo)])) (fun _ k => XS.iloadN X1.here hx rfl (hb hby own_dAd1_16) rfl k) ?_
  refine own_go (T' := T1) (g' := (mkF m 18 #[.val (.ref xo), .val (.ref xe), .val (.ref xa), .val (.int (1 : Int32))] [(.int (1 : Int32)), (.int (1 : Int32)), (.ref xo)])) (fun _ k => XS.iconst X1.here hx rfl (hb hby own_dAd1_17) k) ?_
  refine own_go (T' := T1) (g' := (mkF m 19 #[.val (.ref xo), .val (.ref xe), .val (.ref xa), .val (.int (1 : Int32))] [(.int (2 : Int32)), (.ref xo)])) (fun _ k => XS.iadd X1.here hx rfl (hb hby own_dAd1_18) rfl k) ?_
  obtain ⟨T7, h7, X7, e7, W7, st7⟩ := putF X1 hx hZ hown (host := "") (Or.inl (hw _ (List.mem_of_getElem? (i := 79) rfl))) Via.refl e1 Fk5 Ek2 (Or.inl (hw _ (List.mem_of_getElem? (i := 80) rfl))) (hw _ (List.mem_of_getElem? (i := 21) rfl)) (ty := .int) (by decide) rfl rfl (g := (mkF m 19 #[.val (.ref xo), .val (.ref xe), .val (.ref xa), .val (.int (1 : Int32))] [(.int (2 : Int32)), (.ref xo)])) rfl rfl (hb hby own_dAd1_19)
  have Fw7 := Fk5.same W7
  have Ek8 := Ek2.wr W7
  have Fk9 := Fk3.other W7 (Or.inr (slot_ne (Or.inl (hw _ (List.mem_of_getElem? (i := 40) rfl))) (Or.inl (hw _ (List.mem_of_getElem? (i := 80) rfl))) (by decide) (t := .int) (t' := .int) (by decide) (by decide)))
  have Fk10 := Fk4.other W7 (Or.inr (slot_ne (Or.inl (hw _ (List.mem_of_getElem? (i := 43) rfl))) (Or.inl (hw _ (List.mem_of_getElem? (i := 80) rfl))) (by decide) (t := (.array (.object "java/lang/Object"))) (t' := .int) (by decide) (by decide)))
  have Ek11 := Ek6.wr W7
  have Vk12 := Va1.other W7 (Ne.symm noa)
  have Z7 : n0 ≤ h7.size := Nat.le_trans Z1 (Keep.of_wr W7).1
  have K7 : Keep h0 h7 [xo, xa] := K1.wr W7 (Or.inl (List.mem_of_getElem? (i := 0) rfl))
  have N7 := Fr.snoc X7 N1 gz
  have SK7 : own_SK Z h0 h7 := SK1.wr W7
  refine own_go (T' := T7) (g' := (mkF m 22 #[.val (.ref xo), .val (.ref xe), .val (.ref xa), .val (.int (1 : Int32))] [])) (fun _ k => st7 _ k) ?_
  obtain ⟨fs, hr, hrun, hended, hW, hsame⟩ := X7.leave (v := none) (fun _ => rfl)
  refine own_end (X7.returnOut hx Bd.returns (hb hby own_dAd1_22) hr) hrun hended ⟨_, _, rfl, (?_ : own_QAd1 Z xo xe xa xm ka y0 h0 n0 _ T7.heap _), ⟨_, rfl⟩, hW, hsame.mono (by decide) (by decide)⟩
  rw [e7]
  exact ⟨rfl, N7, K7, SK7, Ek8, Fk9, Fk10, Fw7, Vk12⟩
theorem own_dA1_0 : decode jdk_38_method_25_code 0 = .ok (.aload_n 0, 1) := by decide +kernel
theorem own_dA1_1 : decode jdk_38_method_25_code 1 = .ok (.dup, 1) := by decide +kernel
theorem own_dA1_2 : decode jdk_38_method_25_code 2 = .ok (.getfield 63, 3) := by decide +kernel
theorem own_dA1_5 : decode jdk_38_method_25_code 5 = .ok (.iconst 1, 1) := by decide +kernel
theorem own_dA1_6 : decode jdk_38_method_25_code 6 = .ok (.iadd, 1) := by decide +kernel
theorem own_dA1_7 : decode jdk_38_method_25_code 7 = .ok (.putfield 63, 3) := by decide +kernel
theorem own_dA1_10 : decode jdk_38_method_25_code 10 = .ok (.aload_n 0, 1) := by decide +kernel
theorem own_dA1_11 : decode jdk_38_method_25_code 11 = .ok (.aload_n 1, 1) := by decide +kernel
theorem own_dA1_12 : decode jdk_38_method_25_code 12 = .ok (.aload_n 0, 1) := by decide +kernel
theorem own_dA1_13 : decode jdk_38_method_25_code 13 = .ok (.getfield 9, 3) := by decide +kernel
theorem own_dA1_16 : decode jdk_38_method_25_code 16 = .ok (.aload_n 0, 1) := by decide +kernel
theorem own_dA1_17 : decode jdk_38_method_25_code 17 = .ok (.getfield 48, 3) := by decide +kernel
theorem own_dA1_20 : decode jdk_38_method_25_code 20 = .ok (.invokevirtual 131, 3) := by decide +kernel
theorem own_dA1_23 : decode jdk_38_method_25_code 23 = .ok (.iconst 1, 1) := by decide +kernel
theorem own_dA1_24 : decode jdk_38_method_25_code 24 = .ok (.ireturn, 1) := by decide +kernel
theorem own_efA1 (m : MethodId) (xo : Addr) (xe : Addr) : entryFrame m #[(.ref xo), (.ref xe)] 2 = mkF m 0 #[.val (.ref xo), .val (.ref xe)] [] := by first | (simp [entryFrame, mkF, argsToLocals, Value.category]; done) | rfl
def own_QA1 (Z : State) (xo : Addr) (xe : Addr) (xm : Int32) (xa : Addr) (ka : ClassId) (y0 : Addr) (h0 : Heap) (n0 : Nat) (v : Option Value) (h : Heap) (L : List Loc) : Prop := v = some (.int (1 : Int32)) ∧ Fr n0 L ∧ Keep h0 h [xo, xa] ∧ own_SK Z h0 h ∧ Exa Z h xo "java/util/ArrayList" ∧ Fld Z h xo "java/util/AbstractList" "modCount" "I" (.int (xm + (1 : Int32))) ∧ Fld Z h xo "java/util/ArrayList" "elementData" "[Ljava/lang/Object;" (.ref xa) ∧ Fld Z h xo "java/util/ArrayList" "size" "I" (.int (2 : Int32)) ∧ own_A Z h xa ka (.object "java/lang/Object") [(.ref y0), (.ref xe), .null, .null, .null, .null, .null, .null, .null, .null]
set_option maxRecDepth 65536 in
set_option maxHeartbeats 40000000 in
theorem own_rA1 (l : Launch) (Z : State) (a0 : Array Value) (hw : ∀ d ∈ tables_1, d.before a0 Z = true) (ws : List Jvm.Cond) (xo : Addr) (xe : Addr) (xm : Int32) (xa : Addr) (ka : ClassId) (y0 : Addr) (h0 : Heap) (n0 : Nat) (Z0 : n0 ≤ h0.size) (E1 : Exa Z h0 xo "java/util/ArrayList") (Fm : Fld Z h0 xo "java/util/AbstractList" "modCount" "I" (.int xm)) (Fe : Fld Z h0 xo "java/util/ArrayList" "elementData" "[Ljava/lang/Object;" (.ref xa)) (Fs : Fld Z h0 xo "java/util/ArrayList" "size" "I" (.int (1 : Int32))) (gz : n0 ≤ xo) (ga : n0 ≤ xa) (noa : xo ≠ xa) (Va : own_A Z h0 xa ka (.object "java/lang/Object") [(.ref y0), .null, .null, .null, .null, .null, .null, .null, .null, .null]) (Ov : Ovr Z ka "java/lang/Object") (Ee : Exa Z h0 xe "java/time/Duration") :
    MetFree l (⟨"java/util/ArrayList", "add", "(Ljava/lang/Object;)Z"⟩ : MethodName) (head1 (Jvm.Cond.code (⟨"java/util/ArrayList", "add", "(Ljava/lang/Object;)Z"⟩ : MethodName) jdk_38_method_25_code 2 (some .boolean) :: ws) ({ frames := 1, cells := 0, slots := 0, locals := 15 } : Room)) (fun a U => a = #[(.ref xo), (.ref xe)] ∧ Z.Warmed39 U.vm ∧ U.heap = h0) (fun _ _ _ _ _ => True) (fun _ U o U' => ∃ v L, o = .returned v ∧ own_QA1 Z xo xe xm xa ka y0 h0 n0 v U'.heap L ∧ FrameEnd U o U' L ({ frames := 1, cells := 0, slots := 0, locals := 15 } : Room).cells ({ frames := 1, cells := 0, slots := 0, locals := 15 } : Room).slots) := by
  refine MetFree.of_bodySF (plainFor_of_name own_pn2) hisR ?_
  intro p e s m args below meth c s₁ Bd hml0 hP hK
  obtain ⟨rfl, hZ, hh⟩ := hP
  have hx := Bd.exec
  have hby := Bd.bytes
  have hml : c.maxLocals = 2 := hml0
  have hown : s.vm.findClass "java/util/ArrayList" = some m.cls := findClass_of_methodNamed Bd.named
  have hnm := (name_of_methodNamed Bd.named Bd.method).1
  have X0 : Stand p l e ({ frames := 1, cells := 0, slots := 0, locals := 15 } : Room) s m #[(.ref xo), (.ref xe)] below meth c s₁ [] 0 0 := Stand.of_body Bd
  have e0 : s₁.heap = h0 := by rw [← hh, Bd.state]; rfl
  have N0 := Fr.nil n0
  show own_F p e below (fun o U' => ∃ v L, o = .returned v ∧ own_QA1 Z xo xe xm xa ka y0 h0 n0 v U'.heap L ∧ FrameEnd s o U' L ({ frames := 1, cells := 0, slots := 0, locals := 15 } : Room).cells ({ frames := 1, cells := 0, slots := 0, locals := 15 } : Room).slots) s₁ (entryFrame m #[(.ref xo), (.ref xe)] 2)
  rw [own_efA1 m xo xe]
  refine own_go (T' := s₁) (g' := (mkF m 1 #[.val (.ref xo), .val (.ref xe)] [(.ref xo)])) (fun _ k => XS.aloadN X0.here hx rfl (hb hby own_dA1_0) rfl rfl k) ?_
  refine own_go (T' := s₁) (g' := (mkF m 2 #[.val (.ref xo), .val (.ref xe)] [(.ref xo), (.ref xo)])) (fun _ k => XS.dup X0.here hx rfl (hb hby own_dA1_1) rfl rfl k) ?_
  obtain ⟨T1, X1, e1, st1⟩ := getF X0 hx hZ hown (host := "") (Or.inl (hw _ (List.mem_of_getElem? (i := 110) rfl))) (Via.of (hw _ (List.mem_of_getElem? (i := 111) rfl))) e0 Fm (g := (mkF m 2 #[.val (.ref xo), .val (.ref xe)] [(.ref xo), (.ref xo)])) rfl rfl (hb hby own_dA1_2)
  refine own_go (T' := T1) (g' := (mkF m 5 #[.val (.ref xo), .val (.ref xe)] [(.int xm), (.ref xo)])) (fun _ k => st1 _ k) ?_
  refine own_go (T' := T1) (g' := (mkF m 6 #[.val (.ref xo), .val (.ref xe)] [(.int (1 : Int32)), (.int xm), (.ref xo)])) (fun _ k => XS.iconst X1.here hx rfl (hb hby own_dA1_5) k) ?_
  refine own_go (T' := T1) (g' := (mkF m 7 #[.val (.ref xo), .val (.ref xe)] [(.int (xm + (1 : Int32))), (.ref xo)])) (fun _ k => XS.iadd X1.here hx rfl (hb hby own_dA1_6) rfl k) ?_
  obtain ⟨T2, h2, X2, e2, W2, st2⟩ := putF X1 hx hZ hown (host := "") (Or.inl (hw _ (List.mem_of_getElem? (i := 110) rfl))) (Via.of (hw _ (List.mem_of_getElem? (i := 111) rfl))) e1 Fm E1 (Or.inl (hw _ (List.mem_of_getElem? (i := 40) rfl))) (hw _ (List.mem_of_getElem? (i := 21) rfl)) (ty := .int) (by decide) rfl rfl (g := (mkF m 7 #[.val (.ref xo), .val (.ref xe)] [(.int (xm + (1 : Int32))), (.ref xo)])) rfl rfl (hb hby own_dA1_7)
  have Fw2 := Fm.same W2
  have Ek3 := E1.wr W2
  have Fk4 := Fe.other W2 (Or.inr (slot_ne (Or.inl (hw _ (List.mem_of_getElem? (i := 43) rfl))) (Or.inl (hw _ (List.mem_of_getElem? (i := 40) rfl))) (by decide) (t := (.array (.object "java/lang/Object"))) (t' := .int) (by decide) (by decide)))
  have Fk5 := Fs.other W2 (Or.inr (slot_ne (Or.inl (hw _ (List.mem_of_getElem? (i := 80) rfl))) (Or.inl (hw _ (List.mem_of_getElem? (i := 40) rfl))) (by decide) (t := .int) (t' := .int) (by decide) (by decide)))
  have Vk6 := Va.other W2 (Ne.symm noa)
  have Ek7 := Ee.wr W2
  have Z2 : n0 ≤ h2.size := Nat.le_trans Z0 (Keep.of_wr W2).1
  have K2 : Keep h0 h2 [xo, xa] := (Keep.refl h0 [xo, xa]).wr W2 (Or.inl (List.mem_of_getElem? (i := 0) rfl))
  have N2 := Fr.snoc X2 N0 gz
  have SK2 : own_SK Z h0 h2 := (own_SK.rf Z h0).wr W2
  refine own_go (T' := T2) (g' := (mkF m 10 #[.val (.ref xo), .val (.ref xe)] [])) (fun _ k => st2 _ k) ?_
  refine own_go (T' := T2) (g' := (mkF m 11 #[.val (.ref xo), .val (.ref xe)] [(.ref xo)])) (fun _ k => XS.aloadN X2.here hx rfl (hb hby own_dA1_10) rfl rfl k) ?_
  refine own_go (T' := T2) (g' := (mkF m 12 #[.val (.ref xo), .val (.ref xe)] [(.ref xe), (.ref xo)])) (fun _ k => XS.aloadN X2.here hx rfl (hb hby own_dA1_11) rfl rfl k) ?_
  refine own_go (T' := T2) (g' := (mkF m 13 #[.val (.ref xo), .val (.ref xe)] [(.ref xo), (.ref xe), (.ref xo)])) (fun _ k => XS.aloadN X2.here hx rfl (hb hby own_dA1_12) rfl rfl k) ?_
  obtain ⟨T8, X8, e8, st8⟩ := getF X2 hx hZ hown (host := "") (Or.inl (hw _ (List.mem_of_getElem? (i := 42) rfl))) Via.refl e2 Fk4 (g := (mkF m 13 #[.val (.ref xo), .val (.ref xe)] [(.ref xo), (.ref xe), (.ref xo)])) rfl rfl (hb hby own_dA1_13)
  refine own_go (T' := T8) (g' := (mkF m 16 #[.val (.ref xo), .val (.ref xe)] [(.ref xa), (.ref xe), (.ref xo)])) (fun _ k => st8 _ k) ?_
  refine own_go (T' := T8) (g' := (mkF m 17 #[.val (.ref xo), .val (.ref xe)] [(.ref xo), (.ref xa), (.ref xe), (.ref xo)])) (fun _ k => XS.aloadN X8.here hx rfl (hb hby own_dA1_16) rfl rfl k) ?_
  obtain ⟨T9, X9, e9, st9⟩ := getF X8 hx hZ hown (host := "") (Or.inl (hw _ (List.mem_of_getElem? (i := 79) rfl))) Via.refl e8 Fk5 (g := (mkF m 17 #[.val (.ref xo), .val (.ref xe)] [(.ref xo), (.ref xa), (.ref xe), (.ref xo)])) rfl rfl (hb hby own_dA1_17)
  refine own_go (T' := T9) (g' := (mkF m 20 #[.val (.ref xo), .val (.ref xe)] [(.int (1 : Int32)), (.ref xa), (.ref xe), (.ref xo)])) (fun _ k => st9 _ k) ?_
  obtain ⟨cq10, q10, q10'⟩ := Ek3.cell
  obtain ⟨_, _, ⟨T10, L10, k10, n10⟩, -, X10, ⟨Lc10, hQ10, l10, y10, z10⟩, st10⟩ := X9.privateBack hx (y := (⟨"java/util/ArrayList", "add", "(Ljava/lang/Object;[Ljava/lang/Object;I)V"⟩ : MethodName)) hown (mvT hZ (hw _ (List.mem_of_getElem? (i := 112) rfl))) (mvT hZ (hw _ (List.mem_of_getElem? (i := 113) rfl))) (mvT hZ (hw _ (List.mem_of_getElem? (i := 115) rfl))) (Cond.privateMethod_at (mvP hZ (hw _ (List.mem_of_getElem? (i := 114) rfl)) (args := #[]))) (mvT hZ (hw _ (List.mem_of_getElem? (i := 116) rfl))) (by decide) (backOf (W := 0) (own_rAd1 l Z a0 hw [] xo xe xa (xm + (1 : Int32)) ka y0 h2 n0 Z2 Ek3 Fw2 Fk4 Fk5 gz ga noa Vk6 Ov Ek7) hZ (hw _ (List.mem_of_getElem? (i := 116) rfl)) (hw _ (List.mem_of_getElem? (i := 22) rfl)) (by decide) (by decide)) (g := (mkF m 20 #[.val (.ref xo), .val (.ref xe)] [(.int (1 : Int32)), (.ref xa), (.ref xe), (.ref xo)])) rfl (by rw [hml]; rfl) (Steps.refl _) (a := xo) (by rw [e9]; exact q10) q10' (argsL := [(.ref xe), (.ref xa), (.int (1 : Int32))]) (rest := []) (lenOf own_pd4 rfl) rfl (by show 2 * 0 + _ ≤ _; exact Nat.le_of_eq rfl) (hb hby own_dA1_20) (fun _ _ => ⟨rfl, e9, (by decide : 0 + 0 ≤ _), (by decide : 0 + 0 ≤ _)⟩)
  dsimp only [Pt.U, Pt.locs, Pt.cells, Pt.slots] at X10 l10 y10 z10 st10 hQ10
  subst l10 y10 z10
  obtain ⟨rfl, N10q, Kc10, SKc10, Ec10, Fmc10, Fec10, Fsc10, Vc10⟩ := hQ10
  have N10 := Fr.app N2 N10q
  have Ek11 := Ek7.keep Kc10
  have Z10 : n0 ≤ T10.heap.size := Nat.le_trans Z2 Kc10.1
  have SK10 : own_SK Z h0 T10.heap := SK2.tr SKc10
  have K10 : Keep h0 T10.heap [xo, xa] := K2.trans Kc10 (own_or2 (Or.inl (List.mem_of_getElem? (i := 0) rfl)) (Or.inl (List.mem_of_getElem? (i := 1) rfl)))
  refine own_goT (T' := T10) (g' := (mkF m 23 #[.val (.ref xo), .val (.ref xe)] [])) st10 ?_
  refine own_go (T' := T10) (g' := (mkF m 24 #[.val (.ref xo), .val (.ref xe)] [(.int (1 : Int32))])) (fun _ k => XS.iconst X10.here hx rfl (hb hby own_dA1_23) k) ?_
  obtain ⟨fs, hr, hrun, hended, hW, hsame⟩ := X10.leave (v := some (.int (1 : Int32))) (fun h => by rw [Bd.returns] at h; cases h)
  refine own_end (retN X10 hx (t := .boolean) Bd.returns (by simp) (hb hby own_dA1_24) hr) hrun hended ⟨_, _, rfl, (?_ : own_QA1 Z xo xe xm xa ka y0 h0 n0 _ T10.heap _), ⟨_, rfl⟩, hW, hsame.mono (by decide) (by decide)⟩
  exact ⟨rfl, N10, K10, SK10, Ec10, Fmc10, Fec10, Fsc10, Vc10⟩
theorem own_dAd2_0 : decode jdk_38_method_24_code 0 = .ok (.iload_n 3, 1) := by decide +kernel
theorem own_dAd2_1 : decode jdk_38_method_24_code 1 = .ok (.aload_n 2, 1) := by decide +kernel
theorem own_dAd2_2 : decode jdk_38_method_24_code 2 = .ok (.arraylength, 1) := by decide +kernel
theorem own_dAd2_3 : decode jdk_38_method_24_code 3 = .ok (.if_icmp .ne 8, 3) := by decide +kernel
theorem own_dAd2_11 : decode jdk_38_method_24_code 11 = .ok (.aload_n 2, 1) := by decide +kernel
theorem own_dAd2_12 : decode jdk_38_method_24_code 12 = .ok (.iload_n 3, 1) := by decide +kernel
theorem own_dAd2_13 : decode jdk_38_method_24_code 13 = .ok (.aload_n 1, 1) := by decide +kernel
theorem own_dAd2_14 : decode jdk_38_method_24_code 14 = .ok (.aastore, 1) := by decide +kernel
theorem own_dAd2_15 : decode jdk_38_method_24_code 15 = .ok (.aload_n 0, 1) := by decide +kernel
theorem own_dAd2_16 : decode jdk_38_method_24_code 16 = .ok (.iload_n 3, 1) := by decide +kernel
theorem own_dAd2_17 : decode jdk_38_method_24_code 17 = .ok (.iconst 1, 1) := by decide +kernel
theorem own_dAd2_18 : decode jdk_38_method_24_code 18 = .ok (.iadd, 1) := by decide +kernel
theorem own_dAd2_19 : decode jdk_38_method_24_code 19 = .ok (.putfield 48, 3) := by decide +kernel
theorem own_dAd2_22 : decode jdk_38_method_24_code 22 = .ok (.return_, 1) := by decide +kernel
theorem own_efAd2 (m : MethodId) (xo : Addr) (xe : Addr) (xa : Addr) : entryFrame m #[(.ref xo), (.ref xe), (.ref xa), (.int (2 : Int32))] 4 = mkF m 0 #[.val (.ref xo), .val (.ref xe), .val (.ref xa), .val (.int (2 : Int32))] [] := by first | (simp [entryFrame, mkF, argsToLocals, Value.category]; done) | rfl
def own_QAd2 (Z : State) (xo : Addr) (xe : Addr) (xa : Addr) (xm : Int32) (ka : ClassId) (y0 : Addr) (y1 : Addr) (h0 : Heap) (n0 : Nat) (v : Option Value) (h : Heap) (L : List Loc) : Prop := v = none ∧ Fr n0 L ∧ Keep h0 h [xo, xa] ∧ own_SK Z h0 h ∧ Exa Z h xo "java/util/ArrayList" ∧ Fld Z h xo "java/util/AbstractList" "modCount" "I" (.int xm) ∧ Fld Z h xo "java/util/ArrayList" "elementData" "[Ljava/lang/Object;" (.ref xa) ∧ Fld Z h xo "java/util/ArrayList" "size" "I" (.int (3 : Int32)) ∧ own_A Z h xa ka (.object "java/lang/Object") [(.ref y0), (.ref y1), (.ref xe), .null, .null, .null, .null, .null, .null, .null]
set_option maxRecDepth 65536 in
set_option maxHeartbeats 40000000 in
theorem own_rAd2 (l : Launch) (Z : State) (a0 : Array Value) (hw : ∀ d ∈ tables_1, d.before a0 Z = true) (ws : List Jvm.Cond) (xo : Addr) (xe : Addr) (xa : Addr) (xm : Int32) (ka : ClassId) (y0 : Addr) (y1 : Addr) (h0 : Heap) (n0 : Nat) (Z0 : n0 ≤ h0.size) (E1 : Exa Z h0 xo "java/util/ArrayList") (Fm : Fld Z h0 xo "java/util/AbstractList" "modCount" "I" (.int xm)) (Fe : Fld Z h0 xo "java/util/ArrayList" "elementData" "[Ljava/lang/Object;" (.ref xa)) (Fs : Fld Z h0 xo "java/util/ArrayList" "size" "I" (.int (2 : Int32))) (gz : n0 ≤ xo) (ga : n0 ≤ xa) (noa : xo ≠ xa) (Va : own_A Z h0 xa ka (.object "java/lang/Object") [(.ref y0), (.ref y1), .null, .null, .null, .null, .null, .null, .null, .null]) (Ov : Ovr Z ka "java/lang/Object") (Ee : Exa Z h0 xe "java/time/Duration") :
    MetFree l (⟨"java/util/ArrayList", "add", "(Ljava/lang/Object;[Ljava/lang/Object;I)V"⟩ : MethodName) (head1 (Jvm.Cond.code (⟨"java/util/ArrayList", "add", "(Ljava/lang/Object;[Ljava/lang/Object;I)V"⟩ : MethodName) jdk_38_method_24_code 4 none :: ws) ({ frames := 0, cells := 0, slots := 0, locals := 0 } : Room)) (fun a U => a = #[(.ref xo), (.ref xe), (.ref xa), (.int (2 : Int32))] ∧ Z.Warmed39 U.vm ∧ U.heap = h0) (fun _ _ _ _ _ => True) (fun _ U o U' => ∃ v L, o = .returned v ∧ own_QAd2 Z xo xe xa xm ka y0 y1 h0 n0 v U'.heap L ∧ FrameEnd U o U' L ({ frames := 0, cells := 0, slots := 0, locals := 0 } : Room).cells ({ frames := 0, cells := 0, slots := 0, locals := 0 } : Room).slots) := by
  refine MetFree.of_bodySF (plainFor_of_name own_pn2) hisR ?_
  intro p e s m args below meth c s₁ Bd hml0 hP hK
  obtain ⟨rfl, hZ, hh⟩ := hP
  have hx := Bd.exec
  have hby := Bd.bytes
  have hml : c.maxLocals = 4 := hml0
  have hown : s.vm.findClass "java/util/ArrayList" = some m.cls := findClass_of_methodNamed Bd.named
  have hnm := (name_of_methodNamed Bd.named Bd.method).1
  have X0 : Stand p l e ({ frames := 0, cells := 0, slots := 0, locals := 0 } : Room) s m #[(.ref xo), (.ref xe), (.ref xa), (.int (2 : Int32))] below meth c s₁ [] 0 0 := Stand.of_body Bd
  have e0 : s₁.heap = h0 := by rw [← hh, Bd.state]; rfl
  have N0 := Fr.nil n0
  show own_F p e below (fun o U' => ∃ v L, o = .returned v ∧ own_QAd2 Z xo xe xa xm ka y0 y1 h0 n0 v U'.heap L ∧ FrameEnd s o U' L ({ frames := 0, cells := 0, slots := 0, locals := 0 } : Room).cells ({ frames := 0, cells := 0, slots := 0, locals := 0 } : Room).slots) s₁ (entryFrame m #[(.ref xo), (.ref xe), (.ref xa), (.int (2 : Int32))] 4)
  rw [own_efAd2 m xo xe xa]
  refine own_go (T' := s₁) (g' := (mkF m 1 #[.val (.ref xo), .val (.ref xe), .val (.ref xa), .val (.int (2 : Int32))] [(.int (2 : Int32))])) (fun _ k => XS.iloadN X0.here hx rfl (hb hby own_dAd2_0) rfl k) ?_
  refine own_go (T' := s₁) (g' := (mkF m 2 #[.val (.ref xo), .val (.ref xe), .val (.ref xa), .val (.int (2 : Int32))] [(.ref xa), (.int (2 : Int32))])) (fun _ k => XS.aloadN X0.here hx rfl (hb hby own_dAd2_1) rfl rfl k) ?_
  refine own_go (T' := s₁) (g' := (mkF m 3 #[.val (.ref xo), .val (.ref xe), .val (.ref xa), .val (.int (2 : Int32))] [(.int (10 : Int32)), (.int (2 : Int32))])) (fun _ k => own_alen X0 hx hZ e0 Va (g := (mkF m 2 #[.val (.ref xo), .val (.ref xe), .val (.ref xa), .val (.int (2 : Int32))] [(.ref xa), (.int (2 : Int32))])) rfl rfl (hb hby own_dAd2_2) (n := (10 : Int32)) rfl k) ?_
  refine own_go (T' := s₁) (g' := (mkF m 11 #[.val (.ref xo), .val (.ref xe), .val (.ref xa), .val (.int (2 : Int32))] [])) (fun _ k => XS.icmpYes X0.here hx rfl (pc0 := 3) (pc' := 11) rfl (hb hby own_dAd2_3) rfl (feq ((by decide) : ¬ ((2 : Int32) = (10 : Int32)))).2 (by decide) (by decide) k) ?_
  refine own_go (T' := s₁) (g' := (mkF m 12 #[.val (.ref xo), .val (.ref xe), .val (.ref xa), .val (.int (2 : Int32))] [(.ref xa)])) (fun _ k => XS.aloadN X0.here hx rfl (hb hby own_dAd2_11) rfl rfl k) ?_
  refine own_go (T' := s₁) (g' := (mkF m 13 #[.val (.ref xo), .val (.ref xe), .val (.ref xa), .val (.int (2 : Int32))] [(.int (2 : Int32)), (.ref xa)])) (fun _ k => XS.iloadN X0.here hx rfl (hb hby own_dAd2_12) rfl k) ?_
  refine own_go (T' := s₁) (g' := (mkF m 14 #[.val (.ref xo), .val (.ref xe), .val (.ref xa), .val (.int (2 : Int32))] [(.ref xe), (.int (2 : Int32)), (.ref xa)])) (fun _ k => XS.aloadN X0.here hx rfl (hb hby own_dAd2_13) rfl rfl k) ?_
  obtain ⟨T1, h1, X1, e1, V1, W1, st1⟩ := own_aastore X0 hx hZ e0 Va (j := (2 : Int32)) (i := 2) rfl (by decide) (Nat.le_of_ble_eq_true rfl) rfl (own_A.sto Va Ov (Ins.of_exa Ee (hw _ (List.mem_of_getElem? (i := 133) rfl)))) (g := (mkF m 14 #[.val (.ref xo), .val (.ref xe), .val (.ref xa), .val (.int (2 : Int32))] [(.ref xe), (.int (2 : Int32)), (.ref xa)])) rfl rfl (hb hby own_dAd2_14)
  have Va1 : own_A Z h1 xa ka (.object "java/lang/Object") [(.ref y0), (.ref y1), (.ref xe), .null, .null, .null, .null, .null, .null, .null] := V1
  have Ek2 := E1.wr W1
  have Fk3 := Fm.other W1 (Or.inl noa)
  have Fk4 := Fe.other W1 (Or.inl noa)
  have Fk5 := Fs.other W1 (Or.inl noa)
  have Ek6 := Ee.wr W1
  have Z1 : n0 ≤ h1.size := Nat.le_trans Z0 (Keep.of_wr W1).1
  have K1 : Keep h0 h1 [xo, xa] := (Keep.refl h0 [xo, xa]).wr W1 (Or.inl (List.mem_of_getElem? (i := 1) rfl))
  have N1 := Fr.snoc X1 N0 ga
  have SK1 : own_SK Z h0 h1 := (own_SK.rf Z h0).wr W1
  refine own_go (T' := T1) (g' := (mkF m 15 #[.val (.ref xo), .val (.ref xe), .val (.ref xa), .val (.int (2 : Int32))] [])) (fun _ k => st1 _ k) ?_
  refine own_go (T' := T1) (g' := (mkF m 16 #[.val (.ref xo), .val (.ref xe), .val (.ref xa), .val (.int (2 : Int32))] [(.ref xo)])) (fun _ k => XS.aloadN X1.here hx rfl (hb hby own_dAd2_15) rfl rfl k) ?_
  refine own_go (T' := T1) (g' := (mkF m 17 #[.val (.ref xo), .val (.ref xe), .val (.ref xa), .val (.int (2 : Int32))] [(.int (2 : Int32)), (.ref xo)])) (fun _ k => XS.iloadN X1.here hx rfl (hb hby own_dAd2_16) rfl k) ?_
  refine own_go (T' := T1) (g' := (mkF m 18 #[.val (.ref xo), .val (.ref xe), .val (.ref xa), .val (.int (2 : Int32))] [(.int (1 : Int32)), (.int (2 : Int32)), (.ref xo)])) (fun _ k => XS.iconst X1.here hx rfl (hb hby own_dAd2_17) k) ?_
  refine own_go (T' := T1) (g' := (mkF m 19 #[.val (.ref xo), .val (.ref xe), .val (.ref xa), .val (.int (2 : Int32))] [(.int (3 : Int32)), (.ref xo)])) (fun _ k => XS.iadd X1.here hx rfl (hb hby own_dAd2_18) rfl k) ?_
  obtain ⟨T7, h7, X7, e7, W7, st7⟩ := putF X1 hx hZ hown (host := "") (Or.inl (hw _ (List.mem_of_getElem? (i := 79) rfl))) Via.refl e1 Fk5 Ek2 (Or.inl (hw _ (List.mem_of_getElem? (i := 80) rfl))) (hw _ (List.mem_of_getElem? (i := 21) rfl)) (ty := .int) (by decide) rfl rfl (g := (mkF m 19 #[.val (.ref xo), .val (.ref xe), .val (.ref xa), .val (.int (2 : Int32))] [(.int (3 : Int32)), (.ref xo)])) rfl rfl (hb hby own_dAd2_19)
  have Fw7 := Fk5.same W7
  have Ek8 := Ek2.wr W7
  have Fk9 := Fk3.other W7 (Or.inr (slot_ne (Or.inl (hw _ (List.mem_of_getElem? (i := 40) rfl))) (Or.inl (hw _ (List.mem_of_getElem? (i := 80) rfl))) (by decide) (t := .int) (t' := .int) (by decide) (by decide)))
  have Fk10 := Fk4.other W7 (Or.inr (slot_ne (Or.inl (hw _ (List.mem_of_getElem? (i := 43) rfl))) (Or.inl (hw _ (List.mem_of_getElem? (i := 80) rfl))) (by decide) (t := (.array (.object "java/lang/Object"))) (t' := .int) (by decide) (by decide)))
  have Ek11 := Ek6.wr W7
  have Vk12 := Va1.other W7 (Ne.symm noa)
  have Z7 : n0 ≤ h7.size := Nat.le_trans Z1 (Keep.of_wr W7).1
  have K7 : Keep h0 h7 [xo, xa] := K1.wr W7 (Or.inl (List.mem_of_getElem? (i := 0) rfl))
  have N7 := Fr.snoc X7 N1 gz
  have SK7 : own_SK Z h0 h7 := SK1.wr W7
  refine own_go (T' := T7) (g' := (mkF m 22 #[.val (.ref xo), .val (.ref xe), .val (.ref xa), .val (.int (2 : Int32))] [])) (fun _ k => st7 _ k) ?_
  obtain ⟨fs, hr, hrun, hended, hW, hsame⟩ := X7.leave (v := none) (fun _ => rfl)
  refine own_end (X7.returnOut hx Bd.returns (hb hby own_dAd2_22) hr) hrun hended ⟨_, _, rfl, (?_ : own_QAd2 Z xo xe xa xm ka y0 y1 h0 n0 _ T7.heap _), ⟨_, rfl⟩, hW, hsame.mono (by decide) (by decide)⟩
  rw [e7]
  exact ⟨rfl, N7, K7, SK7, Ek8, Fk9, Fk10, Fw7, Vk12⟩
theorem own_dA2_0 : decode jdk_38_method_25_code 0 = .ok (.aload_n 0, 1) := by decide +kernel
theorem own_dA2_1 : decode jdk_38_method_25_code 1 = .ok (.dup, 1) := by decide +kernel
theorem own_dA2_2 : decode jdk_38_method_25_code 2 = .ok (.getfield 63, 3) := by decide +kernel
theorem own_dA2_5 : decode jdk_38_method_25_code 5 = .ok (.iconst 1, 1) := by decide +kernel
theorem own_dA2_6 : decode jdk_38_method_25_code 6 = .ok (.iadd, 1) := by decide +kernel
theorem own_dA2_7 : decode jdk_38_method_25_code 7 = .ok (.putfield 63, 3) := by decide +kernel
theorem own_dA2_10 : decode jdk_38_method_25_code 10 = .ok (.aload_n 0, 1) := by decide +kernel
theorem own_dA2_11 : decode jdk_38_method_25_code 11 = .ok (.aload_n 1, 1) := by decide +kernel
theorem own_dA2_12 : decode jdk_38_method_25_code 12 = .ok (.aload_n 0, 1) := by decide +kernel
theorem own_dA2_13 : decode jdk_38_method_25_code 13 = .ok (.getfield 9, 3) := by decide +kernel
theorem own_dA2_16 : decode jdk_38_method_25_code 16 = .ok (.aload_n 0, 1) := by decide +kernel
theorem own_dA2_17 : decode jdk_38_method_25_code 17 = .ok (.getfield 48, 3) := by decide +kernel
theorem own_dA2_20 : decode jdk_38_method_25_code 20 = .ok (.invokevirtual 131, 3) := by decide +kernel
theorem own_dA2_23 : decode jdk_38_method_25_code 23 = .ok (.iconst 1, 1) := by decide +kernel
theorem own_dA2_24 : decode jdk_38_method_25_code 24 = .ok (.ireturn, 1) := by decide +kernel
theorem own_efA2 (m : MethodId) (xo : Addr) (xe : Addr) : entryFrame m #[(.ref xo), (.ref xe)] 2 = mkF m 0 #[.val (.ref xo), .val (.ref xe)] [] := by first | (simp [entryFrame, mkF, argsToLocals, Value.category]; done) | rfl
def own_QA2 (Z : State) (xo : Addr) (xe : Addr) (xm : Int32) (xa : Addr) (ka : ClassId) (y0 : Addr) (y1 : Addr) (h0 : Heap) (n0 : Nat) (v : Option Value) (h : Heap) (L : List Loc) : Prop := v = some (.int (1 : Int32)) ∧ Fr n0 L ∧ Keep h0 h [xo, xa] ∧ own_SK Z h0 h ∧ Exa Z h xo "java/util/ArrayList" ∧ Fld Z h xo "java/util/AbstractList" "modCount" "I" (.int (xm + (1 : Int32))) ∧ Fld Z h xo "java/util/ArrayList" "elementData" "[Ljava/lang/Object;" (.ref xa) ∧ Fld Z h xo "java/util/ArrayList" "size" "I" (.int (3 : Int32)) ∧ own_A Z h xa ka (.object "java/lang/Object") [(.ref y0), (.ref y1), (.ref xe), .null, .null, .null, .null, .null, .null, .null]
set_option maxRecDepth 65536 in
set_option maxHeartbeats 40000000 in
theorem own_rA2 (l : Launch) (Z : State) (a0 : Array Value) (hw : ∀ d ∈ tables_1, d.before a0 Z = true) (ws : List Jvm.Cond) (xo : Addr) (xe : Addr) (xm : Int32) (xa : Addr) (ka : ClassId) (y0 : Addr) (y1 : Addr) (h0 : Heap) (n0 : Nat) (Z0 : n0 ≤ h0.size) (E1 : Exa Z h0 xo "java/util/ArrayList") (Fm : Fld Z h0 xo "java/util/AbstractList" "modCount" "I" (.int xm)) (Fe : Fld Z h0 xo "java/util/ArrayList" "elementData" "[Ljava/lang/Object;" (.ref xa)) (Fs : Fld Z h0 xo "java/util/ArrayList" "size" "I" (.int (2 : Int32))) (gz : n0 ≤ xo) (ga : n0 ≤ xa) (noa : xo ≠ xa) (Va : own_A Z h0 xa ka (.object "java/lang/Object") [(.ref y0), (.ref y1), .null, .null, .null, .null, .null, .null, .null, .null]) (Ov : Ovr Z ka "java/lang/Object") (Ee : Exa Z h0 xe "java/time/Duration") :
    MetFree l (⟨"java/util/ArrayList", "add", "(Ljava/lang/Object;)Z"⟩ : MethodName) (head1 (Jvm.Cond.code (⟨"java/util/ArrayList", "add", "(Ljava/lang/Object;)Z"⟩ : MethodName) jdk_38_method_25_code 2 (some .boolean) :: ws) ({ frames := 1, cells := 0, slots := 0, locals := 15 } : Room)) (fun a U => a = #[(.ref xo), (.ref xe)] ∧ Z.Warmed39 U.vm ∧ U.heap = h0) (fun _ _ _ _ _ => True) (fun _ U o U' => ∃ v L, o = .returned v ∧ own_QA2 Z xo xe xm xa ka y0 y1 h0 n0 v U'.heap L ∧ FrameEnd U o U' L ({ frames := 1, cells := 0, slots := 0, locals := 15 } : Room).cells ({ frames := 1, cells := 0, slots := 0, locals := 15 } : Room).slots) := by
  refine MetFree.of_bodySF (plainFor_of_name own_pn2) hisR ?_
  intro p e s m args below meth c s₁ Bd hml0 hP hK
  obtain ⟨rfl, hZ, hh⟩ := hP
  have hx := Bd.exec
  have hby := Bd.bytes
  have hml : c.maxLocals = 2 := hml0
  have hown : s.vm.findClass "java/util/ArrayList" = some m.cls := findClass_of_methodNamed Bd.named
  have hnm := (name_of_methodNamed Bd.named Bd.method).1
  have X0 : Stand p l e ({ frames := 1, cells := 0, slots := 0, locals := 15 } : Room) s m #[(.ref xo), (.ref xe)] below meth c s₁ [] 0 0 := Stand.of_body Bd
  have e0 : s₁.heap = h0 := by rw [← hh, Bd.state]; rfl
  have N0 := Fr.nil n0
  show own_F p e below (fun o U' => ∃ v L, o = .returned v ∧ own_QA2 Z xo xe xm xa ka y0 y1 h0 n0 v U'.heap L ∧ FrameEnd s o U' L ({ frames := 1, cells := 0, slots := 0, locals := 15 } : Room).cells ({ frames := 1, cells := 0, slots := 0, locals := 15 } : Room).slots) s₁ (entryFrame m #[(.ref xo), (.ref xe)] 2)
  rw [own_efA2 m xo xe]
  refine own_go (T' := s₁) (g' := (mkF m 1 #[.val (.ref xo), .val (.ref xe)] [(.ref xo)])) (fun _ k => XS.aloadN X0.here hx rfl (hb hby own_dA2_0) rfl rfl k) ?_
  refine own_go (T' := s₁) (g' := (mkF m 2 #[.val (.ref xo), .val (.ref xe)] [(.ref xo), (.ref xo)])) (fun _ k => XS.dup X0.here hx rfl (hb hby own_dA2_1) rfl rfl k) ?_
  obtain ⟨T1, X1, e1, st1⟩ := getF X0 hx hZ hown (host := "") (Or.inl (hw _ (List.mem_of_getElem? (i := 110) rfl))) (Via.of (hw _ (List.mem_of_getElem? (i := 111) rfl))) e0 Fm (g := (mkF m 2 #[.val (.ref xo), .val (.ref xe)] [(.ref xo), (.ref xo)])) rfl rfl (hb hby own_dA2_2)
  refine own_go (T' := T1) (g' := (mkF m 5 #[.val (.ref xo), .val (.ref xe)] [(.int xm), (.ref xo)])) (fun _ k => st1 _ k) ?_
  refine own_go (T' := T1) (g' := (mkF m 6 #[.val (.ref xo), .val (.ref xe)] [(.int (1 : Int32)), (.int xm), (.ref xo)])) (fun _ k => XS.iconst X1.here hx rfl (hb hby own_dA2_5) k) ?_
  refine own_go (T' := T1) (g' := (mkF m 7 #[.val (.ref xo), .val (.ref xe)] [(.int (xm + (1 : Int32))), (.ref xo)])) (fun _ k => XS.iadd X1.here hx rfl (hb hby own_dA2_6) rfl k) ?_
  obtain ⟨T2, h2, X2, e2, W2, st2⟩ := putF X1 hx hZ hown (host := "") (Or.inl (hw _ (List.mem_of_getElem? (i := 110) rfl))) (Via.of (hw _ (List.mem_of_getElem? (i := 111) rfl))) e1 Fm E1 (Or.inl (hw _ (List.mem_of_getElem? (i := 40) rfl))) (hw _ (List.mem_of_getElem? (i := 21) rfl)) (ty := .int) (by decide) rfl rfl (g := (mkF m 7 #[.val (.ref xo), .val (.ref xe)] [(.int (xm + (1 : Int32))), (.ref xo)])) rfl rfl (hb hby own_dA2_7)
  have Fw2 := Fm.same W2
  have Ek3 := E1.wr W2
  have Fk4 := Fe.other W2 (Or.inr (slot_ne (Or.inl (hw _ (List.mem_of_getElem? (i := 43) rfl))) (Or.inl (hw _ (List.mem_of_getElem? (i := 40) rfl))) (by decide) (t := (.array (.object "java/lang/Object"))) (t' := .int) (by decide) (by decide)))
  have Fk5 := Fs.other W2 (Or.inr (slot_ne (Or.inl (hw _ (List.mem_of_getElem? (i := 80) rfl))) (Or.inl (hw _ (List.mem_of_getElem? (i := 40) rfl))) (by decide) (t := .int) (t' := .int) (by decide) (by decide)))
  have Vk6 := Va.other W2 (Ne.symm noa)
  have Ek7 := Ee.wr W2
  have Z2 : n0 ≤ h2.size := Nat.le_trans Z0 (Keep.of_wr W2).1
  have K2 : Keep h0 h2 [xo, xa] := (Keep.refl h0 [xo, xa]).wr W2 (Or.inl (List.mem_of_getElem? (i := 0) rfl))
  have N2 := Fr.snoc X2 N0 gz
  have SK2 : own_SK Z h0 h2 := (own_SK.rf Z h0).wr W2
  refine own_go (T' := T2) (g' := (mkF m 10 #[.val (.ref xo), .val (.ref xe)] [])) (fun _ k => st2 _ k) ?_
  refine own_go (T' := T2) (g' := (mkF m 11 #[.val (.ref xo), .val (.ref xe)] [(.ref xo)])) (fun _ k => XS.aloadN X2.here hx rfl (hb hby own_dA2_10) rfl rfl k) ?_
  refine own_go (T' := T2) (g' := (mkF m 12 #[.val (.ref xo), .val (.ref xe)] [(.ref xe), (.ref xo)])) (fun _ k => XS.aloadN X2.here hx rfl (hb hby own_dA2_11) rfl rfl k) ?_
  refine own_go (T' := T2) (g' := (mkF m 13 #[.val (.ref xo), .val (.ref xe)] [(.ref xo), (.ref xe), (.ref xo)])) (fun _ k => XS.aloadN X2.here hx rfl (hb hby own_dA2_12) rfl rfl k) ?_
  obtain ⟨T8, X8, e8, st8⟩ := getF X2 hx hZ hown (host := "") (Or.inl (hw _ (List.mem_of_getElem? (i := 42) rfl))) Via.refl e2 Fk4 (g := (mkF m 13 #[.val (.ref xo), .val (.ref xe)] [(.ref xo), (.ref xe), (.ref xo)])) rfl rfl (hb hby own_dA2_13)
  refine own_go (T' := T8) (g' := (mkF m 16 #[.val (.ref xo), .val (.ref xe)] [(.ref xa), (.ref xe), (.ref xo)])) (fun _ k => st8 _ k) ?_
  refine own_go (T' := T8) (g' := (mkF m 17 #[.val (.ref xo), .val (.ref xe)] [(.ref xo), (.ref xa), (.ref xe), (.ref xo)])) (fun _ k => XS.aloadN X8.here hx rfl (hb hby own_dA2_16) rfl rfl k) ?_
  obtain ⟨T9, X9, e9, st9⟩ := getF X8 hx hZ hown (host := "") (Or.inl (hw _ (List.mem_of_getElem? (i := 79) rfl))) Via.refl e8 Fk5 (g := (mkF m 17 #[.val (.ref xo), .val (.ref xe)] [(.ref xo), (.ref xa), (.ref xe), (.ref xo)])) rfl rfl (hb hby own_dA2_17)
  refine own_go (T' := T9) (g' := (mkF m 20 #[.val (.ref xo), .val (.ref xe)] [(.int (2 : Int32)), (.ref xa), (.ref xe), (.ref xo)])) (fun _ k => st9 _ k) ?_
  obtain ⟨cq10, q10, q10'⟩ := Ek3.cell
  obtain ⟨_, _, ⟨T10, L10, k10, n10⟩, -, X10, ⟨Lc10, hQ10, l10, y10, z10⟩, st10⟩ := X9.privateBack hx (y := (⟨"java/util/ArrayList", "add", "(Ljava/lang/Object;[Ljava/lang/Object;I)V"⟩ : MethodName)) hown (mvT hZ (hw _ (List.mem_of_getElem? (i := 112) rfl))) (mvT hZ (hw _ (List.mem_of_getElem? (i := 113) rfl))) (mvT hZ (hw _ (List.mem_of_getElem? (i := 115) rfl))) (Cond.privateMethod_at (mvP hZ (hw _ (List.mem_of_getElem? (i := 114) rfl)) (args := #[]))) (mvT hZ (hw _ (List.mem_of_getElem? (i := 116) rfl))) (by decide) (backOf (W := 0) (own_rAd2 l Z a0 hw [] xo xe xa (xm + (1 : Int32)) ka y0 y1 h2 n0 Z2 Ek3 Fw2 Fk4 Fk5 gz ga noa Vk6 Ov Ek7) hZ (hw _ (List.mem_of_getElem? (i := 116) rfl)) (hw _ (List.mem_of_getElem? (i := 22) rfl)) (by decide) (by decide)) (g := (mkF m 20 #[.val (.ref xo), .val (.ref xe)] [(.int (2 : Int32)), (.ref xa), (.ref xe), (.ref xo)])) rfl (by rw [hml]; rfl) (Steps.refl _) (a := xo) (by rw [e9]; exact q10) q10' (argsL := [(.ref xe), (.ref xa), (.int (2 : Int32))]) (rest := []) (lenOf own_pd4 rfl) rfl (by show 2 * 0 + _ ≤ _; exact Nat.le_of_eq rfl) (hb hby own_dA2_20) (fun _ _ => ⟨rfl, e9, (by decide : 0 + 0 ≤ _), (by decide : 0 + 0 ≤ _)⟩)
  dsimp only [Pt.U, Pt.locs, Pt.cells, Pt.slots] at X10 l10 y10 z10 st10 hQ10
  subst l10 y10 z10
  obtain ⟨rfl, N10q, Kc10, SKc10, Ec10, Fmc10, Fec10, Fsc10, Vc10⟩ := hQ10
  have N10 := Fr.app N2 N10q
  have Ek11 := Ek7.keep Kc10
  have Z10 : n0 ≤ T10.heap.size := Nat.le_trans Z2 Kc10.1
  have SK10 : own_SK Z h0 T10.heap := SK2.tr SKc10
  have K10 : Keep h0 T10.heap [xo, xa] := K2.trans Kc10 (own_or2 (Or.inl (List.mem_of_getElem? (i := 0) rfl)) (Or.inl (List.mem_of_getElem? (i := 1) rfl)))
  refine own_goT (T' := T10) (g' := (mkF m 23 #[.val (.ref xo), .val (.ref xe)] [])) st10 ?_
  refine own_go (T' := T10) (g' := (mkF m 24 #[.val (.ref xo), .val (.ref xe)] [(.int (1 : Int32))])) (fun _ k => XS.iconst X10.here hx rfl (hb hby own_dA2_23) k) ?_
  obtain ⟨fs, hr, hrun, hended, hW, hsame⟩ := X10.leave (v := some (.int (1 : Int32))) (fun h => by rw [Bd.returns] at h; cases h)
  refine own_end (retN X10 hx (t := .boolean) Bd.returns (by simp) (hb hby own_dA2_24) hr) hrun hended ⟨_, _, rfl, (?_ : own_QA2 Z xo xe xm xa ka y0 y1 h0 n0 _ T10.heap _), ⟨_, rfl⟩, hW, hsame.mono (by decide) (by decide)⟩
  exact ⟨rfl, N10, K10, SK10, Ec10, Fmc10, Fec10, Fsc10, Vc10⟩
theorem own_dDi_0 : decode jdk_2316_method_17_code 0 = .ok (.aload_n 0, 1) := by decide +kernel
theorem own_dDi_1 : decode jdk_2316_method_17_code 1 = .ok (.invokespecial 218, 3) := by decide +kernel
theorem own_dDi_4 : decode jdk_2316_method_17_code 4 = .ok (.aload_n 0, 1) := by decide +kernel
theorem own_dDi_5 : decode jdk_2316_method_17_code 5 = .ok (.lload_n 1, 1) := by decide +kernel
theorem own_dDi_6 : decode jdk_2316_method_17_code 6 = .ok (.putfield 221, 3) := by decide +kernel
theorem own_dDi_9 : decode jdk_2316_method_17_code 9 = .ok (.aload_n 0, 1) := by decide +kernel
theorem own_dDi_10 : decode jdk_2316_method_17_code 10 = .ok (.iload_n 3, 1) := by decide +kernel
theorem own_dDi_11 : decode jdk_2316_method_17_code 11 = .ok (.putfield 224, 3) := by decide +kernel
theorem own_dDi_14 : decode jdk_2316_method_17_code 14 = .ok (.return_, 1) := by decide +kernel
theorem own_efDi (m : MethodId) (xo : Addr) (xs : Int64) : entryFrame m #[(.ref xo), (.long xs), (.int (0 : Int32))] 4 = mkF m 0 #[.val (.ref xo), .val (.long xs), .second, .val (.int (0 : Int32))] [] := by first | (simp [entryFrame, mkF, argsToLocals, Value.category]; done) | rfl
def own_QDi (Z : State) (xo : Addr) (xs : Int64)  (h0 : Heap) (n0 : Nat) (v : Option Value) (h : Heap) (L : List Loc) : Prop := v = none ∧ Fr n0 L ∧ Keep h0 h [xo] ∧ own_SK Z h0 h ∧ Exa Z h xo "java/time/Duration"
theorem own_pn3 : plainName "java/time/Duration" = true := by first | (simp [plainName, overriddenIn]; done) | decide +kernel
set_option maxRecDepth 65536 in
set_option maxHeartbeats 40000000 in
theorem own_rDi (l : Launch) (Z : State) (a0 : Array Value) (hw : ∀ d ∈ tables_1, d.before a0 Z = true) (ws : List Jvm.Cond) (xo : Addr) (xs : Int64)  (h0 : Heap) (n0 : Nat) (Z0 : n0 ≤ h0.size) (E1 : Exa Z h0 xo "java/time/Duration") (F1 : Fld Z h0 xo "java/time/Duration" "seconds" "J" (.long (0 : Int64))) (F2 : Fld Z h0 xo "java/time/Duration" "nanos" "I" (.int (0 : Int32))) (gz : n0 ≤ xo) :
    MetFree l (⟨"java/time/Duration", "<init>", "(JI)V"⟩ : MethodName) (head1 (Jvm.Cond.code (⟨"java/time/Duration", "<init>", "(JI)V"⟩ : MethodName) jdk_2316_method_17_code 4 none :: ws) ({ frames := 1, cells := 0, slots := 0, locals := 12 } : Room)) (fun a U => a = #[(.ref xo), (.long xs), (.int (0 : Int32))] ∧ Z.Warmed39 U.vm ∧ U.heap = h0) (fun _ _ _ _ _ => True) (fun _ U o U' => ∃ v L, o = .returned v ∧ own_QDi Z xo xs h0 n0 v U'.heap L ∧ FrameEnd U o U' L ({ frames := 1, cells := 0, slots := 0, locals := 12 } : Room).cells ({ frames := 1, cells := 0, slots := 0, locals := 12 } : Room).slots) := by
  refine MetFree.of_bodySF (plainFor_of_name own_pn3) hisR ?_
  intro p e s m args below meth c s₁ Bd hml0 hP hK
  obtain ⟨rfl, hZ, hh⟩ := hP
  have hx := Bd.exec
  have hby := Bd.bytes
  have hml : c.maxLocals = 4 := hml0
  have hown : s.vm.findClass "java/time/Duration" = some m.cls := findClass_of_methodNamed Bd.named
  have hnm := (name_of_methodNamed Bd.named Bd.method).1
  have X0 : Stand p l e ({ frames := 1, cells := 0, slots := 0, locals := 12 } : Room) s m #[(.ref xo), (.long xs), (.int (0 : Int32))] below meth c s₁ [] 0 0 := Stand.of_body Bd
  have e0 : s₁.heap = h0 := by rw [← hh, Bd.state]; rfl
  have N0 := Fr.nil n0
  show own_F p e below (fun o U' => ∃ v L, o = .returned v ∧ own_QDi Z xo xs h0 n0 v U'.heap L ∧ FrameEnd s o U' L ({ frames := 1, cells := 0, slots := 0, locals := 12 } : Room).cells ({ frames := 1, cells := 0, slots := 0, locals := 12 } : Room).slots) s₁ (entryFrame m #[(.ref xo), (.long xs), (.int (0 : Int32))] 4)
  rw [own_efDi m xo xs]
  refine own_go (T' := s₁) (g' := (mkF m 1 #[.val (.ref xo), .val (.long xs), .second, .val (.int (0 : Int32))] [(.ref xo)])) (fun _ k => XS.aloadN X0.here hx rfl (hb hby own_dDi_0) rfl rfl k) ?_
  obtain ⟨T1, X1, e1, st1⟩ := initO X0 hx hZ hown (hw _ (List.mem_of_getElem? (i := 13) rfl)) (hw _ (List.mem_of_getElem? (i := 14) rfl)) (hw _ (List.mem_of_getElem? (i := 15) rfl)) e0 (g := (mkF m 1 #[.val (.ref xo), .val (.long xs), .second, .val (.int (0 : Int32))] [(.ref xo)])) rfl (by rw [hml]; rfl) rfl (hb hby own_dDi_1) (by decide) (W := 0) (by show 2 * 0 + _ ≤ _; exact Nat.le_of_eq rfl) (by decide)
  refine own_go (T' := T1) (g' := (mkF m 4 #[.val (.ref xo), .val (.long xs), .second, .val (.int (0 : Int32))] [])) (fun _ k => st1 _ k) ?_
  refine own_go (T' := T1) (g' := (mkF m 5 #[.val (.ref xo), .val (.long xs), .second, .val (.int (0 : Int32))] [(.ref xo)])) (fun _ k => XS.aloadN X1.here hx rfl (hb hby own_dDi_4) rfl rfl k) ?_
  refine own_go (T' := T1) (g' := (mkF m 6 #[.val (.ref xo), .val (.long xs), .second, .val (.int (0 : Int32))] [(.long xs), (.ref xo)])) (fun _ k => XS.lloadN X1.here hx rfl (hb hby own_dDi_5) rfl k) ?_
  obtain ⟨T2, h2, X2, e2, W2, st2⟩ := putF X1 hx hZ hown (host := "") (Or.inl (hw _ (List.mem_of_getElem? (i := 16) rfl))) Via.refl e1 F1 E1 (Or.inr ⟨(hw _ (List.mem_of_getElem? (i := 17) rfl)), rfl, hnm⟩) (hw _ (List.mem_of_getElem? (i := 8) rfl)) (ty := .long) (by decide) rfl rfl (g := (mkF m 6 #[.val (.ref xo), .val (.long xs), .second, .val (.int (0 : Int32))] [(.long xs), (.ref xo)])) rfl rfl (hb hby own_dDi_6)
  have Fw2 := F1.same W2
  have Ek3 := E1.wr W2
  have Fk4 := F2.other W2 (Or.inr (slot_ne (Or.inr (hw _ (List.mem_of_getElem? (i := 19) rfl))) (Or.inr (hw _ (List.mem_of_getElem? (i := 17) rfl))) (by decide) (t := .int) (t' := .long) (by decide) (by decide)))
  have Z2 : n0 ≤ h2.size := Nat.le_trans Z0 (Keep.of_wr W2).1
  have K2 : Keep h0 h2 [xo] := (Keep.refl h0 [xo]).wr W2 (Or.inl (List.mem_of_getElem? (i := 0) rfl))
  have N2 := Fr.snoc X2 N0 gz
  have SK2 : own_SK Z h0 h2 := (own_SK.rf Z h0).wr W2
  refine own_go (T' := T2) (g' := (mkF m 9 #[.val (.ref xo), .val (.long xs), .second, .val (.int (0 : Int32))] [])) (fun _ k => st2 _ k) ?_
  refine own_go (T' := T2) (g' := (mkF m 10 #[.val (.ref xo), .val (.long xs), .second, .val (.int (0 : Int32))] [(.ref xo)])) (fun _ k => XS.aloadN X2.here hx rfl (hb hby own_dDi_9) rfl rfl k) ?_
  refine own_go (T' := T2) (g' := (mkF m 11 #[.val (.ref xo), .val (.long xs), .second, .val (.int (0 : Int32))] [(.int (0 : Int32)), (.ref xo)])) (fun _ k => XS.iloadN X2.here hx rfl (hb hby own_dDi_10) rfl k) ?_
  obtain ⟨T5, h5, X5, e5, W5, st5⟩ := putF X2 hx hZ hown (host := "") (Or.inl (hw _ (List.mem_of_getElem? (i := 18) rfl))) Via.refl e2 Fk4 Ek3 (Or.inr ⟨(hw _ (List.mem_of_getElem? (i := 19) rfl)), rfl, hnm⟩) (hw _ (List.mem_of_getElem? (i := 8) rfl)) (ty := .int) (by decide) rfl rfl (g := (mkF m 11 #[.val (.ref xo), .val (.long xs), .second, .val (.int (0 : Int32))] [(.int (0 : Int32)), (.ref xo)])) rfl rfl (hb hby own_dDi_11)
  have Fw5 := Fk4.same W5
  have Ek6 := Ek3.wr W5
  have Fk7 := Fw2.other W5 (Or.inr (slot_ne (Or.inr (hw _ (List.mem_of_getElem? (i := 17) rfl))) (Or.inr (hw _ (List.mem_of_getElem? (i := 19) rfl))) (by decide) (t := .long) (t' := .int) (by decide) (by decide)))
  have Z5 : n0 ≤ h5.size := Nat.le_trans Z2 (Keep.of_wr W5).1
  have K5 : Keep h0 h5 [xo] := K2.wr W5 (Or.inl (List.mem_of_getElem? (i := 0) rfl))
  have N5 := Fr.snoc X5 N2 gz
  have SK5 : own_SK Z h0 h5 := SK2.wr W5
  refine own_go (T' := T5) (g' := (mkF m 14 #[.val (.ref xo), .val (.long xs), .second, .val (.int (0 : Int32))] [])) (fun _ k => st5 _ k) ?_
  obtain ⟨fs, hr, hrun, hended, hW, hsame⟩ := X5.leave (v := none) (fun _ => rfl)
  refine own_end (X5.returnOut hx Bd.returns (hb hby own_dDi_14) hr) hrun hended ⟨_, _, rfl, (?_ : own_QDi Z xo xs h0 n0 _ T5.heap _), ⟨_, rfl⟩, hW, hsame.mono (by decide) (by decide)⟩
  rw [e5]
  exact ⟨rfl, N5, K5, SK5, Ek6⟩
theorem own_pd5 : parseMethodDescriptor "(JI)V" = some ⟨[.long, .int], none⟩ := by decide +kernel
theorem own_dCr_0 : decode jdk_2316_method_16_code 0 = .ok (.lload_n 0, 1) := by decide +kernel
theorem own_dCr_1 : decode jdk_2316_method_16_code 1 = .ok (.iload_n 2, 1) := by decide +kernel
theorem own_dCr_2 : decode jdk_2316_method_16_code 2 = .ok (.i2l, 1) := by decide +kernel
theorem own_dCr_3 : decode jdk_2316_method_16_code 3 = .ok (.lor, 1) := by decide +kernel
theorem own_dCr_4 : decode jdk_2316_method_16_code 4 = .ok (.lconst 0, 1) := by decide +kernel
theorem own_dCr_5 : decode jdk_2316_method_16_code 5 = .ok (.lcmp, 1) := by decide +kernel
theorem own_dCr_6 : decode jdk_2316_method_16_code 6 = .ok (.ifCond .ne 7, 3) := by decide +kernel
theorem own_dCr_9 : decode jdk_2316_method_16_code 9 = .ok (.getstatic 32, 3) := by decide +kernel
theorem own_dCr_12 : decode jdk_2316_method_16_code 12 = .ok (.areturn, 1) := by decide +kernel
theorem own_dCr_13 : decode jdk_2316_method_16_code 13 = .ok (.new 11, 3) := by decide +kernel
theorem own_dCr_16 : decode jdk_2316_method_16_code 16 = .ok (.dup, 1) := by decide +kernel
theorem own_dCr_17 : decode jdk_2316_method_16_code 17 = .ok (.lload_n 0, 1) := by decide +kernel
theorem own_dCr_18 : decode jdk_2316_method_16_code 18 = .ok (.iload_n 2, 1) := by decide +kernel
theorem own_dCr_19 : decode jdk_2316_method_16_code 19 = .ok (.invokespecial 215, 3) := by decide +kernel
theorem own_dCr_22 : decode jdk_2316_method_16_code 22 = .ok (.areturn, 1) := by decide +kernel
theorem own_efCr (m : MethodId) (xs : Int64) : entryFrame m #[(.long xs), (.int (0 : Int32))] 3 = mkF m 0 #[.val (.long xs), .second, .val (.int (0 : Int32))] [] := by first | (simp [entryFrame, mkF, argsToLocals, Value.category]; done) | rfl
def own_QCr (Z : State) (xs : Int64) (xz : Addr) (h0 : Heap) (n0 : Nat) (v : Option Value) (h : Heap) (L : List Loc) : Prop := v = v ∧ Fr n0 L ∧ Keep h0 h [] ∧ own_SK Z h0 h ∧ ∃ r, v = some (.ref r) ∧ Exa Z h r "java/time/Duration"
set_option maxRecDepth 65536 in
set_option maxHeartbeats 40000000 in
theorem own_rCr (l : Launch) (Z : State) (a0 : Array Value) (hw : ∀ d ∈ tables_1, d.before a0 Z = true) (ws : List Jvm.Cond) (xs : Int64) (xz : Addr) (h0 : Heap) (n0 : Nat) (Z0 : n0 ≤ h0.size) (Sz : Sta Z h0 "java/time/Duration" "ZERO" "Ljava/time/Duration;" (.ref xz)) (Ez : Exa Z h0 xz "java/time/Duration") :
    MetFree l (⟨"java/time/Duration", "create", "(JI)Ljava/time/Duration;"⟩ : MethodName) (head1 (Jvm.Cond.code (⟨"java/time/Duration", "create", "(JI)Ljava/time/Duration;"⟩ : MethodName) jdk_2316_method_16_code 3 (some (.object "java/time/Duration")) :: ws) ({ frames := 2, cells := 1, slots := 2, locals := 28 } : Room)) (fun a U => a = #[(.long xs), (.int (0 : Int32))] ∧ Z.Warmed39 U.vm ∧ U.heap = h0) (fun _ _ _ _ _ => True) (fun _ U o U' => ∃ v L, o = .returned v ∧ own_QCr Z xs xz h0 n0 v U'.heap L ∧ FrameEnd U o U' L ({ frames := 2, cells := 1, slots := 2, locals := 28 } : Room).cells ({ frames := 2, cells := 1, slots := 2, locals := 28 } : Room).slots) := by
  refine MetFree.of_bodySF (plainFor_of_name own_pn3) hisR ?_
  intro p e s m args below meth c s₁ Bd hml0 hP hK
  obtain ⟨rfl, hZ, hh⟩ := hP
  have hx := Bd.exec
  have hby := Bd.bytes
  have hml : c.maxLocals = 3 := hml0
  have hown : s.vm.findClass "java/time/Duration" = some m.cls := findClass_of_methodNamed Bd.named
  have hnm := (name_of_methodNamed Bd.named Bd.method).1
  have X0 : Stand p l e ({ frames := 2, cells := 1, slots := 2, locals := 28 } : Room) s m #[(.long xs), (.int (0 : Int32))] below meth c s₁ [] 0 0 := Stand.of_body Bd
  have e0 : s₁.heap = h0 := by rw [← hh, Bd.state]; rfl
  have N0 := Fr.nil n0
  show own_F p e below (fun o U' => ∃ v L, o = .returned v ∧ own_QCr Z xs xz h0 n0 v U'.heap L ∧ FrameEnd s o U' L ({ frames := 2, cells := 1, slots := 2, locals := 28 } : Room).cells ({ frames := 2, cells := 1, slots := 2, locals := 28 } : Room).slots) s₁ (entryFrame m #[(.long xs), (.int (0 : Int32))] 3)
  rw [own_efCr m xs]
  refine own_go (T' := s₁) (g' := (mkF m 1 #[.val (.long xs), .second, .val (.int (0 : Int32))] [(.long xs)])) (fun _ k => XS.lloadN X0.here hx rfl (hb hby own_dCr_0) rfl k) ?_
  refine own_go (T' := s₁) (g' := (mkF m 2 #[.val (.long xs), .second, .val (.int (0 : Int32))] [(.int (0 : Int32)), (.long xs)])) (fun _ k => XS.iloadN X0.here hx rfl (hb hby own_dCr_1) rfl k) ?_
  refine own_go (T' := s₁) (g' := (mkF m 3 #[.val (.long xs), .second, .val (.int (0 : Int32))] [(.long ((0 : Int32).toInt64)), (.long xs)])) (fun _ k => XS.i2l X0.here hx rfl (hb hby own_dCr_2) rfl k) ?_
  refine own_go (T' := s₁) (g' := (mkF m 4 #[.val (.long xs), .second, .val (.int (0 : Int32))] [(.long (xs ||| ((0 : Int32).toInt64)))])) (fun _ k => XS.lor X0.here hx rfl (hb hby own_dCr_3) rfl k) ?_
  refine own_go (T' := s₁) (g' := (mkF m 5 #[.val (.long xs), .second, .val (.int (0 : Int32))] [(.long (0 : Int64)), (.long (xs ||| ((0 : Int32).toInt64)))])) (fun _ k => XS.lconst X0.here hx rfl (hb hby own_dCr_4) k) ?_
  refine own_go (T' := s₁) (g' := (mkF m 6 #[.val (.long xs), .second, .val (.int (0 : Int32))] [(.int (lcmpW (xs ||| ((0 : Int32).toInt64)) (0 : Int64)))])) (fun _ k => XS.lcmp X0.here hx rfl (hb hby own_dCr_5) rfl k) ?_
  by_cases hc6 : (xs ||| ((0 : Int32).toInt64)) = (0 : Int64)
  · refine own_go (T' := s₁) (g' := (mkF m 9 #[.val (.long xs), .second, .val (.int (0 : Int32))] [])) (fun _ k => XS.ifNo X0.here hx rfl (hb hby own_dCr_6) rfl ((if0 _ _).trans (teq ((own_eq_t (hc6)) : (lcmpW (xs ||| ((0 : Int32).toInt64)) (0 : Int64)) = (0 : Int32))).2) k) ?_
    obtain ⟨T1, X1, e1, st1⟩ := getS X0 hx hZ (host := "") hown (hw _ (List.mem_of_getElem? (i := 222) rfl)) Via.refl e0 Sz (g := (mkF m 9 #[.val (.long xs), .second, .val (.int (0 : Int32))] [])) rfl (hb hby own_dCr_9)
    refine own_go (T' := T1) (g' := (mkF m 12 #[.val (.long xs), .second, .val (.int (0 : Int32))] [(.ref xz)])) (fun _ k => st1 _ k) ?_
    obtain ⟨fs, hr, hrun, hended, hW, hsame⟩ := X1.leave (v := some (.ref xz)) (fun h => by rw [Bd.returns] at h; cases h)
    refine own_end (retOut X1 hx Bd.returns rfl (Or.inr (Or.inr (Or.inr (Or.inr ⟨rfl, rfl, rfl⟩)))) (hb hby own_dCr_12) hr) hrun hended ⟨_, _, rfl, (?_ : own_QCr Z xs xz h0 n0 _ T1.heap _), ⟨_, rfl⟩, hW, hsame.mono (by decide) (by decide)⟩
    rw [e1]
    exact ⟨rfl, N0, (Keep.refl h0 []), (own_SK.rf Z h0), xz, rfl, Ez⟩
  · refine own_go (T' := s₁) (g' := (mkF m 13 #[.val (.long xs), .second, .val (.int (0 : Int32))] [])) (fun _ k => XS.ifYes X0.here hx rfl (pc0 := 6) (pc' := 13) rfl (hb hby own_dCr_6) rfl ((if0 _ _).trans (feq ((own_eq_f (hc6)) : ¬ ((lcmpW (xs ||| ((0 : Int32).toInt64)) (0 : Int64)) = (0 : Int32)))).2) (by decide) (by decide) k) ?_
    obtain ⟨T2, h2, X2, e2, E2, A2, D2, -, st2⟩ := newO X0 hx hZ hown (hw _ (List.mem_of_getElem? (i := 7) rfl)) (hw _ (List.mem_of_getElem? (i := 8) rfl)) (hw _ (List.mem_of_getElem? (i := 2) rfl)) e0 (g := (mkF m 13 #[.val (.long xs), .second, .val (.int (0 : Int32))] [])) rfl (hb hby own_dCr_13) (by decide) (by decide)
    obtain ⟨b2, g2⟩ : ∃ z, z = h0.size := ⟨_, rfl⟩
    rw [← g2] at A2 D2 st2
    have gz_b2 : n0 ≤ b2 := Nat.le_trans Z0 (Nat.le_of_eq g2.symm)
    have hz_b2 : h0.size ≤ b2 := Nat.le_trans (Keep.refl h0 []).1 (Nat.le_of_eq g2.symm)
    have Z2 : n0 ≤ h2.size := Nat.le_trans Z0 E2.1
    have K2 : Keep h0 h2 [] := (Keep.refl h0 []).ext E2
    have SK2 : own_SK Z h0 h2 := (own_SK.rf Z h0).ext E2
    have Fseconds_b2 : Fld Z h2 b2 "java/time/Duration" "seconds" "J" (.long (0 : Int64)) := D2 (Or.inr (hw _ (List.mem_of_getElem? (i := 17) rfl))) (ty := .long) (by decide)
    have Fnanos_b2 : Fld Z h2 b2 "java/time/Duration" "nanos" "I" (.int (0 : Int32)) := D2 (Or.inr (hw _ (List.mem_of_getElem? (i := 19) rfl))) (ty := .int) (by decide)
    refine own_go (T' := T2) (g' := (mkF m 16 #[.val (.long xs), .second, .val (.int (0 : Int32))] [(.ref b2)])) (fun _ k => st2 _ k) ?_
    refine own_go (T' := T2) (g' := (mkF m 17 #[.val (.long xs), .second, .val (.int (0 : Int32))] [(.ref b2), (.ref b2)])) (fun _ k => XS.dup X2.here hx rfl (hb hby own_dCr_16) rfl rfl k) ?_
    refine own_go (T' := T2) (g' := (mkF m 18 #[.val (.long xs), .second, .val (.int (0 : Int32))] [(.long xs), (.ref b2), (.ref b2)])) (fun _ k => XS.lloadN X2.here hx rfl (hb hby own_dCr_17) rfl k) ?_
    refine own_go (T' := T2) (g' := (mkF m 19 #[.val (.long xs), .second, .val (.int (0 : Int32))] [(.int (0 : Int32)), (.long xs), (.ref b2), (.ref b2)])) (fun _ k => XS.iloadN X2.here hx rfl (hb hby own_dCr_18) rfl k) ?_
    obtain ⟨_, _, ⟨T3, L3, k3, n3⟩, -, X3, ⟨Lc3, hQ3, l3, y3, z3⟩, st3⟩ := X2.specialBack hx (y := (⟨"java/time/Duration", "<init>", "(JI)V"⟩ : MethodName)) rfl hown (mvT hZ (hw _ (List.mem_of_getElem? (i := 9) rfl))) (mvT hZ (hw _ (List.mem_of_getElem? (i := 10) rfl))) (mvT hZ (hw _ (List.mem_of_getElem? (i := 12) rfl))) (by decide) (backOf (W := 1) (own_rDi l Z a0 hw [] b2 xs h2 n0 Z2 A2 Fseconds_b2 Fnanos_b2 gz_b2) hZ (hw _ (List.mem_of_getElem? (i := 12) rfl)) (hw _ (List.mem_of_getElem? (i := 2) rfl)) (by decide) (by decide)) (g := (mkF m 19 #[.val (.long xs), .second, .val (.int (0 : Int32))] [(.int (0 : Int32)), (.long xs), (.ref b2), (.ref b2)])) rfl (by rw [hml]; rfl) (Steps.refl _) (a := b2) (argsL := [(.long xs), (.int (0 : Int32))]) (rest := [(.ref b2)]) (lenOf own_pd5 rfl) rfl (by show 2 * 0 + _ ≤ _; exact Nat.le_of_eq rfl) (hb hby own_dCr_19) (fun _ _ => ⟨rfl, e2, (by decide : 1 + 0 ≤ _), (by decide : 2 + 0 ≤ _)⟩)
    dsimp only [Pt.U, Pt.locs, Pt.cells, Pt.slots] at X3 l3 y3 z3 st3 hQ3
    subst l3 y3 z3
    obtain ⟨rfl, N3q, Kc3, SKc3, Ec3⟩ := hQ3
    have N3 := Fr.app N0 N3q
    have Z3 : n0 ≤ T3.heap.size := Nat.le_trans Z2 Kc3.1
    have SK3 : own_SK Z h0 T3.heap := SK2.tr SKc3
    have K3 : Keep h0 T3.heap [] := K2.trans Kc3 (own_or1 (Or.inr hz_b2))
    refine own_goT (T' := T3) (g' := (mkF m 22 #[.val (.long xs), .second, .val (.int (0 : Int32))] [(.ref b2)])) st3 ?_
    obtain ⟨fs, hr, hrun, hended, hW, hsame⟩ := X3.leave (v := some (.ref b2)) (fun h => by rw [Bd.returns] at h; cases h)
    refine own_end (retOut X3 hx Bd.returns rfl (Or.inr (Or.inr (Or.inr (Or.inr ⟨rfl, rfl, rfl⟩)))) (hb hby own_dCr_22) hr) hrun hended ⟨_, _, rfl, (?_ : own_QCr Z xs xz h0 n0 _ T3.heap _), ⟨_, rfl⟩, hW, hsame.mono (by decide) (by decide)⟩
    exact ⟨rfl, N3, K3, SK3, b2, rfl, Ec3⟩
theorem own_pd6 : parseMethodDescriptor "(JI)Ljava/time/Duration;" = some ⟨[.long, .int], some (.object "java/time/Duration")⟩ := by decide +kernel
theorem own_dOs_0 : decode jdk_2316_method_4_code 0 = .ok (.lload_n 0, 1) := by decide +kernel
theorem own_dOs_1 : decode jdk_2316_method_4_code 1 = .ok (.iconst 0, 1) := by decide +kernel
theorem own_dOs_2 : decode jdk_2316_method_4_code 2 = .ok (.invokestatic 10, 3) := by decide +kernel
theorem own_dOs_5 : decode jdk_2316_method_4_code 5 = .ok (.areturn, 1) := by decide +kernel
theorem own_efOs (m : MethodId) (xs : Int64) : entryFrame m #[(.long xs)] 2 = mkF m 0 #[.val (.long xs), .second] [] := by first | (simp [entryFrame, mkF, argsToLocals, Value.category]; done) | rfl
def own_QOs (Z : State) (xs : Int64) (xz : Addr) (h0 : Heap) (n0 : Nat) (v : Option Value) (h : Heap) (L : List Loc) : Prop := v = v ∧ Fr n0 L ∧ Keep h0 h [] ∧ own_SK Z h0 h ∧ ∃ r, v = some (.ref r) ∧ Exa Z h r "java/time/Duration"
set_option maxRecDepth 65536 in
set_option maxHeartbeats 40000000 in
theorem own_rOs (l : Launch) (Z : State) (a0 : Array Value) (hw : ∀ d ∈ tables_1, d.before a0 Z = true) (ws : List Jvm.Cond) (xs : Int64) (xz : Addr) (h0 : Heap) (n0 : Nat) (Z0 : n0 ≤ h0.size) (Sz : Sta Z h0 "java/time/Duration" "ZERO" "Ljava/time/Duration;" (.ref xz)) (Ez : Exa Z h0 xz "java/time/Duration") :
    MetFree l (⟨"java/time/Duration", "ofSeconds", "(J)Ljava/time/Duration;"⟩ : MethodName) (head1 (Jvm.Cond.code (⟨"java/time/Duration", "ofSeconds", "(J)Ljava/time/Duration;"⟩ : MethodName) jdk_2316_method_4_code 2 (some (.object "java/time/Duration")) :: ws) ({ frames := 3, cells := 1, slots := 2, locals := 42 } : Room)) (fun a U => a = #[(.long xs)] ∧ Z.Warmed39 U.vm ∧ U.heap = h0) (fun _ _ _ _ _ => True) (fun _ U o U' => ∃ v L, o = .returned v ∧ own_QOs Z xs xz h0 n0 v U'.heap L ∧ FrameEnd U o U' L ({ frames := 3, cells := 1, slots := 2, locals := 42 } : Room).cells ({ frames := 3, cells := 1, slots := 2, locals := 42 } : Room).slots) := by
  refine MetFree.of_bodySF (plainFor_of_name own_pn3) hisR ?_
  intro p e s m args below meth c s₁ Bd hml0 hP hK
  obtain ⟨rfl, hZ, hh⟩ := hP
  have hx := Bd.exec
  have hby := Bd.bytes
  have hml : c.maxLocals = 2 := hml0
  have hown : s.vm.findClass "java/time/Duration" = some m.cls := findClass_of_methodNamed Bd.named
  have hnm := (name_of_methodNamed Bd.named Bd.method).1
  have X0 : Stand p l e ({ frames := 3, cells := 1, slots := 2, locals := 42 } : Room) s m #[(.long xs)] below meth c s₁ [] 0 0 := Stand.of_body Bd
  have e0 : s₁.heap = h0 := by rw [← hh, Bd.state]; rfl
  have N0 := Fr.nil n0
  show own_F p e below (fun o U' => ∃ v L, o = .returned v ∧ own_QOs Z xs xz h0 n0 v U'.heap L ∧ FrameEnd s o U' L ({ frames := 3, cells := 1, slots := 2, locals := 42 } : Room).cells ({ frames := 3, cells := 1, slots := 2, locals := 42 } : Room).slots) s₁ (entryFrame m #[(.long xs)] 2)
  rw [own_efOs m xs]
  refine own_go (T' := s₁) (g' := (mkF m 1 #[.val (.long xs), .second] [(.long xs)])) (fun _ k => XS.lloadN X0.here hx rfl (hb hby own_dOs_0) rfl k) ?_
  refine own_go (T' := s₁) (g' := (mkF m 2 #[.val (.long xs), .second] [(.int (0 : Int32)), (.long xs)])) (fun _ k => XS.iconst X0.here hx rfl (hb hby own_dOs_1) k) ?_
  obtain ⟨_, _, ⟨T1, L1, k1, n1⟩, -, X1, ⟨Lc1, hQ1, l1, y1, z1⟩, st1⟩ := Jvm.LawKit.callS X0 hx (y := (⟨"java/time/Duration", "create", "(JI)Ljava/time/Duration;"⟩ : MethodName)) hown (mvT hZ (hw _ (List.mem_of_getElem? (i := 4) rfl))) (mvT hZ (hw _ (List.mem_of_getElem? (i := 5) rfl))) (mvT hZ (hw _ (List.mem_of_getElem? (i := 2) rfl))) (mvT hZ (hw _ (List.mem_of_getElem? (i := 6) rfl))) (by decide) (backOf (W := 0) (own_rCr l Z a0 hw [] xs xz h0 n0 Z0 Sz Ez) hZ (hw _ (List.mem_of_getElem? (i := 6) rfl)) (hw _ (List.mem_of_getElem? (i := 2) rfl)) (by decide) (by decide)) (g := (mkF m 2 #[.val (.long xs), .second] [(.int (0 : Int32)), (.long xs)])) rfl (by rw [hml]; rfl) (argsL := [(.long xs), (.int (0 : Int32))]) (rest := []) (lenOf own_pd6 rfl) rfl (by show 2 * 0 + _ ≤ _; exact Nat.le_of_eq rfl) (hb hby own_dOs_2) (fun _ _ => ⟨rfl, e0, (by decide : 0 + 1 ≤ _), (by decide : 0 + 2 ≤ _)⟩)
  dsimp only [Pt.U, Pt.locs, Pt.cells, Pt.slots] at X1 l1 y1 z1 st1 hQ1
  subst l1 y1 z1
  obtain ⟨-, N1q, Kc1, SKc1, r1, rfl, Ec1⟩ := hQ1
  have N1 := Fr.app N0 N1q
  have Z1 : n0 ≤ T1.heap.size := Nat.le_trans Z0 Kc1.1
  have SK1 : own_SK Z h0 T1.heap := (own_SK.rf Z h0).tr SKc1
  have K1 : Keep h0 T1.heap [] := (Keep.refl h0 []).trans Kc1 (fun x hx => nomatch hx)
  refine own_go (T' := T1) (g' := (mkF m 5 #[.val (.long xs), .second] [(.ref r1)])) (fun _ k => st1 _ k) ?_
  obtain ⟨fs, hr, hrun, hended, hW, hsame⟩ := X1.leave (v := some (.ref r1)) (fun h => by rw [Bd.returns] at h; cases h)
  refine own_end (retOut X1 hx Bd.returns rfl (Or.inr (Or.inr (Or.inr (Or.inr ⟨rfl, rfl, rfl⟩)))) (hb hby own_dOs_5) hr) hrun hended ⟨_, _, rfl, (?_ : own_QOs Z xs xz h0 n0 _ T1.heap _), ⟨_, rfl⟩, hW, hsame.mono (by decide) (by decide)⟩
  exact ⟨rfl, N1, K1, SK1, r1, rfl, Ec1⟩
theorem own_dRec_0 : decode jdk_30_method_1_code 0 = .ok (.aload_n 0, 1) := by decide +kernel
theorem own_dRec_1 : decode jdk_30_method_1_code 1 = .ok (.invokespecial 1, 3) := by decide +kernel
theorem own_dRec_4 : decode jdk_30_method_1_code 4 = .ok (.return_, 1) := by decide +kernel
theorem own_efRec (m : MethodId) (xo : Addr) : entryFrame m #[(.ref xo)] 1 = mkF m 0 #[.val (.ref xo)] [] := by first | (simp [entryFrame, mkF, argsToLocals, Value.category]; done) | rfl
def own_QRec (Z : State) (xo : Addr)  (h0 : Heap) (n0 : Nat) (v : Option Value) (h : Heap) (L : List Loc) : Prop := v = none ∧ Fr n0 L ∧ h = h0
theorem own_pn4 : plainName "java/lang/Record" = true := by first | (simp [plainName, overriddenIn]; done) | decide +kernel
set_option maxRecDepth 65536 in
set_option maxHeartbeats 40000000 in
theorem own_rRec (l : Launch) (Z : State) (a0 : Array Value) (hw : ∀ d ∈ tables_1, d.before a0 Z = true) (ws : List Jvm.Cond) (xo : Addr)  (h0 : Heap) (n0 : Nat) (Z0 : n0 ≤ h0.size) :
    MetFree l (⟨"java/lang/Record", "<init>", "()V"⟩ : MethodName) (head1 (Jvm.Cond.code (⟨"java/lang/Record", "<init>", "()V"⟩ : MethodName) jdk_30_method_1_code 1 none :: ws) ({ frames := 1, cells := 0, slots := 0, locals := 12 } : Room)) (fun a U => a = #[(.ref xo)] ∧ Z.Warmed39 U.vm ∧ U.heap = h0) (fun _ _ _ _ _ => True) (fun _ U o U' => ∃ v L, o = .returned v ∧ own_QRec Z xo h0 n0 v U'.heap L ∧ FrameEnd U o U' L ({ frames := 1, cells := 0, slots := 0, locals := 12 } : Room).cells ({ frames := 1, cells := 0, slots := 0, locals := 12 } : Room).slots) := by
  refine MetFree.of_bodySF (plainFor_of_name own_pn4) hisR ?_
  intro p e s m args below meth c s₁ Bd hml0 hP hK
  obtain ⟨rfl, hZ, hh⟩ := hP
  have hx := Bd.exec
  have hby := Bd.bytes
  have hml : c.maxLocals = 1 := hml0
  have hown : s.vm.findClass "java/lang/Record" = some m.cls := findClass_of_methodNamed Bd.named
  have hnm := (name_of_methodNamed Bd.named Bd.method).1
  have X0 : Stand p l e ({ frames := 1, cells := 0, slots := 0, locals := 12 } : Room) s m #[(.ref xo)] below meth c s₁ [] 0 0 := Stand.of_body Bd
  have e0 : s₁.heap = h0 := by rw [← hh, Bd.state]; rfl
  have N0 := Fr.nil n0
  show own_F p e below (fun o U' => ∃ v L, o = .returned v ∧ own_QRec Z xo h0 n0 v U'.heap L ∧ FrameEnd s o U' L ({ frames := 1, cells := 0, slots := 0, locals := 12 } : Room).cells ({ frames := 1, cells := 0, slots := 0, locals := 12 } : Room).slots) s₁ (entryFrame m #[(.ref xo)] 1)
  rw [own_efRec m xo]
  refine own_go (T' := s₁) (g' := (mkF m 1 #[.val (.ref xo)] [(.ref xo)])) (fun _ k => XS.aloadN X0.here hx rfl (hb hby own_dRec_0) rfl rfl k) ?_
  obtain ⟨T1, X1, e1, st1⟩ := initO X0 hx hZ hown (hw _ (List.mem_of_getElem? (i := 55) rfl)) (hw _ (List.mem_of_getElem? (i := 14) rfl)) (hw _ (List.mem_of_getElem? (i := 15) rfl)) e0 (g := (mkF m 1 #[.val (.ref xo)] [(.ref xo)])) rfl (by rw [hml]; rfl) rfl (hb hby own_dRec_1) (by decide) (W := 0) (by show 2 * 0 + _ ≤ _; exact Nat.le_of_eq rfl) (by decide)
  refine own_go (T' := T1) (g' := (mkF m 4 #[.val (.ref xo)] [])) (fun _ k => st1 _ k) ?_
  obtain ⟨fs, hr, hrun, hended, hW, hsame⟩ := X1.leave (v := none) (fun _ => rfl)
  refine own_end (X1.returnOut hx Bd.returns (hb hby own_dRec_4) hr) hrun hended ⟨_, _, rfl, (?_ : own_QRec Z xo h0 n0 _ T1.heap _), ⟨_, rfl⟩, hW, hsame.mono (by decide) (by decide)⟩
  rw [e1]
  exact ⟨rfl, N0, rfl⟩
theorem own_dAic_0 : decode jdk_47_method_1_code 0 = .ok (.aload_n 0, 1) := by decide +kernel
theorem own_dAic_1 : decode jdk_47_method_1_code 1 = .ok (.invokespecial 1, 3) := by decide +kernel
theorem own_dAic_4 : decode jdk_47_method_1_code 4 = .ok (.return_, 1) := by decide +kernel
theorem own_efAic (m : MethodId) (xo : Addr) : entryFrame m #[(.ref xo)] 1 = mkF m 0 #[.val (.ref xo)] [] := by first | (simp [entryFrame, mkF, argsToLocals, Value.category]; done) | rfl
def own_QAic (Z : State) (xo : Addr)  (h0 : Heap) (n0 : Nat) (v : Option Value) (h : Heap) (L : List Loc) : Prop := v = none ∧ Fr n0 L ∧ h = h0
theorem own_pn5 : plainName "java/util/ImmutableCollections$AbstractImmutableCollection" = true := by first | (simp [plainName, overriddenIn]; done) | decide +kernel
set_option maxRecDepth 65536 in
set_option maxHeartbeats 40000000 in
theorem own_rAic (l : Launch) (Z : State) (a0 : Array Value) (hw : ∀ d ∈ tables_1, d.before a0 Z = true) (ws : List Jvm.Cond) (xo : Addr)  (h0 : Heap) (n0 : Nat) (Z0 : n0 ≤ h0.size) :
    MetFree l (⟨"java/util/ImmutableCollections$AbstractImmutableCollection", "<init>", "()V"⟩ : MethodName) (head1 (Jvm.Cond.code (⟨"java/util/ImmutableCollections$AbstractImmutableCollection", "<init>", "()V"⟩ : MethodName) jdk_47_method_1_code 1 none :: ws) ({ frames := 2, cells := 0, slots := 0, locals := 24 } : Room)) (fun a U => a = #[(.ref xo)] ∧ Z.Warmed39 U.vm ∧ U.heap = h0) (fun _ _ _ _ _ => True) (fun _ U o U' => ∃ v L, o = .returned v ∧ own_QAic Z xo h0 n0 v U'.heap L ∧ FrameEnd U o U' L ({ frames := 2, cells := 0, slots := 0, locals := 24 } : Room).cells ({ frames := 2, cells := 0, slots := 0, locals := 24 } : Room).slots) := by
  refine MetFree.of_bodySF (plainFor_of_name own_pn5) hisR ?_
  intro p e s m args below meth c s₁ Bd hml0 hP hK
  obtain ⟨rfl, hZ, hh⟩ := hP
  have hx := Bd.exec
  have hby := Bd.bytes
  have hml : c.maxLocals = 1 := hml0
  have hown : s.vm.findClass "java/util/ImmutableCollections$AbstractImmutableCollection" = some m.cls := findClass_of_methodNamed Bd.named
  have hnm := (name_of_methodNamed Bd.named Bd.method).1
  have X0 : Stand p l e ({ frames := 2, cells := 0, slots := 0, locals := 24 } : Room) s m #[(.ref xo)] below meth c s₁ [] 0 0 := Stand.of_body Bd
  have e0 : s₁.heap = h0 := by rw [← hh, Bd.state]; rfl
  have N0 := Fr.nil n0
  show own_F p e below (fun o U' => ∃ v L, o = .returned v ∧ own_QAic Z xo h0 n0 v U'.heap L ∧ FrameEnd s o U' L ({ frames := 2, cells := 0, slots := 0, locals := 24 } : Room).cells ({ frames := 2, cells := 0, slots := 0, locals := 24 } : Room).slots) s₁ (entryFrame m #[(.ref xo)] 1)
  rw [own_efAic m xo]
  refine own_go (T' := s₁) (g' := (mkF m 1 #[.val (.ref xo)] [(.ref xo)])) (fun _ k => XS.aloadN X0.here hx rfl (hb hby own_dAic_0) rfl rfl k) ?_
  obtain ⟨_, _, ⟨T1, L1, k1, n1⟩, -, X1, ⟨Lc1, hQ1, l1, y1, z1⟩, st1⟩ := X0.specialBack hx (y := (⟨"java/util/AbstractCollection", "<init>", "()V"⟩ : MethodName)) rfl hown (mvT hZ (hw _ (List.mem_of_getElem? (i := 192) rfl))) (mvT hZ (hw _ (List.mem_of_getElem? (i := 33) rfl))) (mvT hZ (hw _ (List.mem_of_getElem? (i := 37) rfl))) (by decide) (backOf (W := 0) (own_rAc l Z a0 hw [] xo h0 n0 Z0 ) hZ (hw _ (List.mem_of_getElem? (i := 37) rfl)) (hw _ (List.mem_of_getElem? (i := 36) rfl)) (by decide) (by decide)) (g := (mkF m 1 #[.val (.ref xo)] [(.ref xo)])) rfl (by rw [hml]; rfl) (Steps.refl _) (a := xo) (argsL := []) (rest := []) (lenOf own_pd0 rfl) rfl (by show 2 * 0 + _ ≤ _; exact Nat.le_of_eq rfl) (hb hby own_dAic_1) (fun _ _ => ⟨rfl, e0, (by decide : 0 + 0 ≤ _), (by decide : 0 + 0 ≤ _)⟩)
  dsimp only [Pt.U, Pt.locs, Pt.cells, Pt.slots] at X1 l1 y1 z1 st1 hQ1
  subst l1 y1 z1
  obtain ⟨rfl, N1q, e1⟩ := hQ1
  have N1 := Fr.app N0 N1q
  refine own_goT (T' := T1) (g' := (mkF m 4 #[.val (.ref xo)] [])) st1 ?_
  obtain ⟨fs, hr, hrun, hended, hW, hsame⟩ := X1.leave (v := none) (fun _ => rfl)
  refine own_end (X1.returnOut hx Bd.returns (hb hby own_dAic_4) hr) hrun hended ⟨_, _, rfl, (?_ : own_QAic Z xo h0 n0 _ T1.heap _), ⟨_, rfl⟩, hW, hsame.mono (by decide) (by decide)⟩
  rw [e1]
  exact ⟨rfl, N1, rfl⟩
theorem own_dAil_0 : decode jdk_46_method_1_code 0 = .ok (.aload_n 0, 1) := by decide +kernel
theorem own_dAil_1 : decode jdk_46_method_1_code 1 = .ok (.invokespecial 1, 3) := by decide +kernel
theorem own_dAil_4 : decode jdk_46_method_1_code 4 = .ok (.return_, 1) := by decide +kernel
theorem own_efAil (m : MethodId) (xo : Addr) : entryFrame m #[(.ref xo)] 1 = mkF m 0 #[.val (.ref xo)] [] := by first | (simp [entryFrame, mkF, argsToLocals, Value.category]; done) | rfl
def own_QAil (Z : State) (xo : Addr)  (h0 : Heap) (n0 : Nat) (v : Option Value) (h : Heap) (L : List Loc) : Prop := v = none ∧ Fr n0 L ∧ h = h0
theorem own_pn6 : plainName "java/util/ImmutableCollections$AbstractImmutableList" = true := by first | (simp [plainName, overriddenIn]; done) | decide +kernel
set_option maxRecDepth 65536 in
set_option maxHeartbeats 40000000 in
theorem own_rAil (l : Launch) (Z : State) (a0 : Array Value) (hw : ∀ d ∈ tables_1, d.before a0 Z = true) (ws : List Jvm.Cond) (xo : Addr)  (h0 : Heap) (n0 : Nat) (Z0 : n0 ≤ h0.size) :
    MetFree l (⟨"java/util/ImmutableCollections$AbstractImmutableList", "<init>", "()V"⟩ : MethodName) (head1 (Jvm.Cond.code (⟨"java/util/ImmutableCollections$AbstractImmutableList", "<init>", "()V"⟩ : MethodName) jdk_46_method_1_code 1 none :: ws) ({ frames := 3, cells := 0, slots := 0, locals := 36 } : Room)) (fun a U => a = #[(.ref xo)] ∧ Z.Warmed39 U.vm ∧ U.heap = h0) (fun _ _ _ _ _ => True) (fun _ U o U' => ∃ v L, o = .returned v ∧ own_QAil Z xo h0 n0 v U'.heap L ∧ FrameEnd U o U' L ({ frames := 3, cells := 0, slots := 0, locals := 36 } : Room).cells ({ frames := 3, cells := 0, slots := 0, locals := 36 } : Room).slots) := by
  refine MetFree.of_bodySF (plainFor_of_name own_pn6) hisR ?_
  intro p e s m args below meth c s₁ Bd hml0 hP hK
  obtain ⟨rfl, hZ, hh⟩ := hP
  have hx := Bd.exec
  have hby := Bd.bytes
  have hml : c.maxLocals = 1 := hml0
  have hown : s.vm.findClass "java/util/ImmutableCollections$AbstractImmutableList" = some m.cls := findClass_of_methodNamed Bd.named
  have hnm := (name_of_methodNamed Bd.named Bd.method).1
  have X0 : Stand p l e ({ frames := 3, cells := 0, slots := 0, locals := 36 } : Room) s m #[(.ref xo)] below meth c s₁ [] 0 0 := Stand.of_body Bd
  have e0 : s₁.heap = h0 := by rw [← hh, Bd.state]; rfl
  have N0 := Fr.nil n0
  show own_F p e below (fun o U' => ∃ v L, o = .returned v ∧ own_QAil Z xo h0 n0 v U'.heap L ∧ FrameEnd s o U' L ({ frames := 3, cells := 0, slots := 0, locals := 36 } : Room).cells ({ frames := 3, cells := 0, slots := 0, locals := 36 } : Room).slots) s₁ (entryFrame m #[(.ref xo)] 1)
  rw [own_efAil m xo]
  refine own_go (T' := s₁) (g' := (mkF m 1 #[.val (.ref xo)] [(.ref xo)])) (fun _ k => XS.aloadN X0.here hx rfl (hb hby own_dAil_0) rfl rfl k) ?_
  obtain ⟨_, _, ⟨T1, L1, k1, n1⟩, -, X1, ⟨Lc1, hQ1, l1, y1, z1⟩, st1⟩ := X0.specialBack hx (y := (⟨"java/util/ImmutableCollections$AbstractImmutableCollection", "<init>", "()V"⟩ : MethodName)) rfl hown (mvT hZ (hw _ (List.mem_of_getElem? (i := 186) rfl))) (mvT hZ (hw _ (List.mem_of_getElem? (i := 187) rfl))) (mvT hZ (hw _ (List.mem_of_getElem? (i := 191) rfl))) (by decide) (backOf (W := 0) (own_rAic l Z a0 hw [] xo h0 n0 Z0 ) hZ (hw _ (List.mem_of_getElem? (i := 191) rfl)) (hw _ (List.mem_of_getElem? (i := 190) rfl)) (by decide) (by decide)) (g := (mkF m 1 #[.val (.ref xo)] [(.ref xo)])) rfl (by rw [hml]; rfl) (Steps.refl _) (a := xo) (argsL := []) (rest := []) (lenOf own_pd0 rfl) rfl (by show 2 * 0 + _ ≤ _; exact Nat.le_of_eq rfl) (hb hby own_dAil_1) (fun _ _ => ⟨rfl, e0, (by decide : 0 + 0 ≤ _), (by decide : 0 + 0 ≤ _)⟩)
  dsimp only [Pt.U, Pt.locs, Pt.cells, Pt.slots] at X1 l1 y1 z1 st1 hQ1
  subst l1 y1 z1
  obtain ⟨rfl, N1q, e1⟩ := hQ1
  have N1 := Fr.app N0 N1q
  refine own_goT (T' := T1) (g' := (mkF m 4 #[.val (.ref xo)] [])) st1 ?_
  obtain ⟨fs, hr, hrun, hended, hW, hsame⟩ := X1.leave (v := none) (fun _ => rfl)
  refine own_end (X1.returnOut hx Bd.returns (hb hby own_dAil_4) hr) hrun hended ⟨_, _, rfl, (?_ : own_QAil Z xo h0 n0 _ T1.heap _), ⟨_, rfl⟩, hW, hsame.mono (by decide) (by decide)⟩
  rw [e1]
  exact ⟨rfl, N1, rfl⟩
theorem own_dRnn_0 : decode jdk_31_method_10_code 0 = .ok (.aload_n 0, 1) := by decide +kernel
theorem own_dRnn_1 : decode jdk_31_method_10_code 1 = .ok (.ifnonnull 11, 3) := by decide +kernel
theorem own_dRnn_12 : decode jdk_31_method_10_code 12 = .ok (.aload_n 0, 1) := by decide +kernel
theorem own_dRnn_13 : decode jdk_31_method_10_code 13 = .ok (.areturn, 1) := by decide +kernel
theorem own_efRnn (m : MethodId) (xo : Addr) : entryFrame m #[(.ref xo)] 1 = mkF m 0 #[.val (.ref xo)] [] := by first | (simp [entryFrame, mkF, argsToLocals, Value.category]; done) | rfl
def own_QRnn (Z : State) (xo : Addr)  (h0 : Heap) (n0 : Nat) (v : Option Value) (h : Heap) (L : List Loc) : Prop := v = some (.ref xo) ∧ Fr n0 L ∧ h = h0
theorem own_pn7 : plainName "java/util/Objects" = true := by first | (simp [plainName, overriddenIn]; done) | decide +kernel
set_option maxRecDepth 65536 in
set_option maxHeartbeats 40000000 in
theorem own_rRnn (l : Launch) (Z : State) (a0 : Array Value) (hw : ∀ d ∈ tables_1, d.before a0 Z = true) (ws : List Jvm.Cond) (xo : Addr)  (h0 : Heap) (n0 : Nat) (Z0 : n0 ≤ h0.size) :
    MetFree l (⟨"java/util/Objects", "requireNonNull", "(Ljava/lang/Object;)Ljava/lang/Object;"⟩ : MethodName) (head1 (Jvm.Cond.code (⟨"java/util/Objects", "requireNonNull", "(Ljava/lang/Object;)Ljava/lang/Object;"⟩ : MethodName) jdk_31_method_10_code 1 (some (.object "java/lang/Object")) :: ws) ({ frames := 0, cells := 0, slots := 0, locals := 0 } : Room)) (fun a U => a = #[(.ref xo)] ∧ Z.Warmed39 U.vm ∧ U.heap = h0) (fun _ _ _ _ _ => True) (fun _ U o U' => ∃ v L, o = .returned v ∧ own_QRnn Z xo h0 n0 v U'.heap L ∧ FrameEnd U o U' L ({ frames := 0, cells := 0, slots := 0, locals := 0 } : Room).cells ({ frames := 0, cells := 0, slots := 0, locals := 0 } : Room).slots) := by
  refine MetFree.of_bodySF (plainFor_of_name own_pn7) hisR ?_
  intro p e s m args below meth c s₁ Bd hml0 hP hK
  obtain ⟨rfl, hZ, hh⟩ := hP
  have hx := Bd.exec
  have hby := Bd.bytes
  have hml : c.maxLocals = 1 := hml0
  have hown : s.vm.findClass "java/util/Objects" = some m.cls := findClass_of_methodNamed Bd.named
  have hnm := (name_of_methodNamed Bd.named Bd.method).1
  have X0 : Stand p l e ({ frames := 0, cells := 0, slots := 0, locals := 0 } : Room) s m #[(.ref xo)] below meth c s₁ [] 0 0 := Stand.of_body Bd
  have e0 : s₁.heap = h0 := by rw [← hh, Bd.state]; rfl
  have N0 := Fr.nil n0
  show own_F p e below (fun o U' => ∃ v L, o = .returned v ∧ own_QRnn Z xo h0 n0 v U'.heap L ∧ FrameEnd s o U' L ({ frames := 0, cells := 0, slots := 0, locals := 0 } : Room).cells ({ frames := 0, cells := 0, slots := 0, locals := 0 } : Room).slots) s₁ (entryFrame m #[(.ref xo)] 1)
  rw [own_efRnn m xo]
  refine own_go (T' := s₁) (g' := (mkF m 1 #[.val (.ref xo)] [(.ref xo)])) (fun _ k => XS.aloadN X0.here hx rfl (hb hby own_dRnn_0) rfl rfl k) ?_
  refine own_go (T' := s₁) (g' := (mkF m 12 #[.val (.ref xo)] [])) (fun _ k => XS.ifnonnullYes X0.here hx rfl (pc0 := 1) (pc' := 12) rfl (hb hby own_dRnn_1) rfl (by decide) (by decide) k) ?_
  refine own_go (T' := s₁) (g' := (mkF m 13 #[.val (.ref xo)] [(.ref xo)])) (fun _ k => XS.aloadN X0.here hx rfl (hb hby own_dRnn_12) rfl rfl k) ?_
  obtain ⟨fs, hr, hrun, hended, hW, hsame⟩ := X0.leave (v := some (.ref xo)) (fun h => by rw [Bd.returns] at h; cases h)
  refine own_end (retOut X0 hx Bd.returns rfl (Or.inr (Or.inr (Or.inr (Or.inr ⟨rfl, rfl, rfl⟩)))) (hb hby own_dRnn_13) hr) hrun hended ⟨_, _, rfl, (?_ : own_QRnn Z xo h0 n0 _ s₁.heap _), ⟨_, rfl⟩, hW, hsame.mono (by decide) (by decide)⟩
  rw [e0]
  exact ⟨rfl, N0, rfl⟩
theorem own_pd7 : parseMethodDescriptor "(Ljava/lang/Object;)Ljava/lang/Object;" = some ⟨[(.object "java/lang/Object")], some (.object "java/lang/Object")⟩ := by decide +kernel
theorem own_dLi1_0 : decode jdk_44_method_1_code 0 = .ok (.aload_n 0, 1) := by decide +kernel
theorem own_dLi1_1 : decode jdk_44_method_1_code 1 = .ok (.invokespecial 1, 3) := by decide +kernel
theorem own_dLi1_4 : decode jdk_44_method_1_code 4 = .ok (.aload_n 0, 1) := by decide +kernel
theorem own_dLi1_5 : decode jdk_44_method_1_code 5 = .ok (.aload_n 1, 1) := by decide +kernel
theorem own_dLi1_6 : decode jdk_44_method_1_code 6 = .ok (.invokestatic 7, 3) := by decide +kernel
theorem own_dLi1_9 : decode jdk_44_method_1_code 9 = .ok (.putfield 13, 3) := by decide +kernel
theorem own_dLi1_12 : decode jdk_44_method_1_code 12 = .ok (.aload_n 0, 1) := by decide +kernel
theorem own_dLi1_13 : decode jdk_44_method_1_code 13 = .ok (.getstatic 19, 3) := by decide +kernel
theorem own_dLi1_16 : decode jdk_44_method_1_code 16 = .ok (.putfield 24, 3) := by decide +kernel
theorem own_dLi1_19 : decode jdk_44_method_1_code 19 = .ok (.return_, 1) := by decide +kernel
theorem own_efLi1 (m : MethodId) (xo : Addr) (y0 : Addr) : entryFrame m #[(.ref xo), (.ref y0)] 2 = mkF m 0 #[.val (.ref xo), .val (.ref y0)] [] := by first | (simp [entryFrame, mkF, argsToLocals, Value.category]; done) | rfl
def own_QLi1 (Z : State) (xo : Addr) (y0 : Addr) (xq : Addr) (h0 : Heap) (n0 : Nat) (v : Option Value) (h : Heap) (L : List Loc) : Prop := v = none ∧ Fr n0 L ∧ Keep h0 h [xo] ∧ own_SK Z h0 h ∧ Exa Z h xo "java/util/ImmutableCollections$List12" ∧ Fld Z h xo "java/util/ImmutableCollections$List12" "e0" "Ljava/lang/Object;" (.ref y0) ∧ Fld Z h xo "java/util/ImmutableCollections$List12" "e1" "Ljava/lang/Object;" (.ref xq)
theorem own_pn8 : plainName "java/util/ImmutableCollections$List12" = true := by first | (simp [plainName, overriddenIn]; done) | decide +kernel
set_option maxRecDepth 65536 in
set_option maxHeartbeats 40000000 in
theorem own_rLi1 (l : Launch) (Z : State) (a0 : Array Value) (hw : ∀ d ∈ tables_1, d.before a0 Z = true) (ws : List Jvm.Cond) (xo : Addr) (y0 : Addr) (xq : Addr) (h0 : Heap) (n0 : Nat) (Z0 : n0 ≤ h0.size) (E1 : Exa Z h0 xo "java/util/ImmutableCollections$List12") (F1 : Fld Z h0 xo "java/util/ImmutableCollections$List12" "e0" "Ljava/lang/Object;" .null) (F2 : Fld Z h0 xo "java/util/ImmutableCollections$List12" "e1" "Ljava/lang/Object;" .null) (gz : n0 ≤ xo) (Sq : Sta Z h0 "java/util/ImmutableCollections" "EMPTY" "Ljava/lang/Object;" (.ref xq)) :
    MetFree l (⟨"java/util/ImmutableCollections$List12", "<init>", "(Ljava/lang/Object;)V"⟩ : MethodName) (head1 (Jvm.Cond.code (⟨"java/util/ImmutableCollections$List12", "<init>", "(Ljava/lang/Object;)V"⟩ : MethodName) jdk_44_method_1_code 2 none :: ws) ({ frames := 4, cells := 0, slots := 0, locals := 48 } : Room)) (fun a U => a = #[(.ref xo), (.ref y0)] ∧ Z.Warmed39 U.vm ∧ U.heap = h0) (fun _ _ _ _ _ => True) (fun _ U o U' => ∃ v L, o = .returned v ∧ own_QLi1 Z xo y0 xq h0 n0 v U'.heap L ∧ FrameEnd U o U' L ({ frames := 4, cells := 0, slots := 0, locals := 48 } : Room).cells ({ frames := 4, cells := 0, slots := 0, locals := 48 } : Room).slots) := by
  refine MetFree.of_bodySF (plainFor_of_name own_pn8) hisR ?_
  intro p e s m args below meth c s₁ Bd hml0 hP hK
  obtain ⟨rfl, hZ, hh⟩ := hP
  have hx := Bd.exec
  have hby := Bd.bytes
  have hml : c.maxLocals = 2 := hml0
  have hown : s.vm.findClass "java/util/ImmutableCollections$List12" = some m.cls := findClass_of_methodNamed Bd.named
  have hnm := (name_of_methodNamed Bd.named Bd.method).1
  have X0 : Stand p l e ({ frames := 4, cells := 0, slots := 0, locals := 48 } : Room) s m #[(.ref xo), (.ref y0)] below meth c s₁ [] 0 0 := Stand.of_body Bd
  have e0 : s₁.heap = h0 := by rw [← hh, Bd.state]; rfl
  have N0 := Fr.nil n0
  show own_F p e below (fun o U' => ∃ v L, o = .returned v ∧ own_QLi1 Z xo y0 xq h0 n0 v U'.heap L ∧ FrameEnd s o U' L ({ frames := 4, cells := 0, slots := 0, locals := 48 } : Room).cells ({ frames := 4, cells := 0, slots := 0, locals := 48 } : Room).slots) s₁ (entryFrame m #[(.ref xo), (.ref y0)] 2)
  rw [own_efLi1 m xo y0]
  refine own_go (T' := s₁) (g' := (mkF m 1 #[.val (.ref xo), .val (.ref y0)] [(.ref xo)])) (fun _ k => XS.aloadN X0.here hx rfl (hb hby own_dLi1_0) rfl rfl k) ?_
  obtain ⟨_, _, ⟨T1, L1, k1, n1⟩, -, X1, ⟨Lc1, hQ1, l1, y1, z1⟩, st1⟩ := X0.specialBack hx (y := (⟨"java/util/ImmutableCollections$AbstractImmutableList", "<init>", "()V"⟩ : MethodName)) rfl hown (mvT hZ (hw _ (List.mem_of_getElem? (i := 203) rfl))) (mvT hZ (hw _ (List.mem_of_getElem? (i := 181) rfl))) (mvT hZ (hw _ (List.mem_of_getElem? (i := 185) rfl))) (by decide) (backOf (W := 0) (own_rAil l Z a0 hw [] xo h0 n0 Z0 ) hZ (hw _ (List.mem_of_getElem? (i := 185) rfl)) (hw _ (List.mem_of_getElem? (i := 184) rfl)) (by decide) (by decide)) (g := (mkF m 1 #[.val (.ref xo), .val (.ref y0)] [(.ref xo)])) rfl (by rw [hml]; rfl) (Steps.refl _) (a := xo) (argsL := []) (rest := []) (lenOf own_pd0 rfl) rfl (by show 2 * 0 + _ ≤ _; exact Nat.le_of_eq rfl) (hb hby own_dLi1_1) (fun _ _ => ⟨rfl, e0, (by decide : 0 + 0 ≤ _), (by decide : 0 + 0 ≤ _)⟩)
  dsimp only [Pt.U, Pt.locs, Pt.cells, Pt.slots] at X1 l1 y1 z1 st1 hQ1
  subst l1 y1 z1
  obtain ⟨rfl, N1q, e1⟩ := hQ1
  have N1 := Fr.app N0 N1q
  refine own_goT (T' := T1) (g' := (mkF m 4 #[.val (.ref xo), .val (.ref y0)] [])) st1 ?_
  refine own_go (T' := T1) (g' := (mkF m 5 #[.val (.ref xo), .val (.ref y0)] [(.ref xo)])) (fun _ k => XS.aloadN X1.here hx rfl (hb hby own_dLi1_4) rfl rfl k) ?_
  refine own_go (T' := T1) (g' := (mkF m 6 #[.val (.ref xo), .val (.ref y0)] [(.ref y0), (.ref xo)])) (fun _ k => XS.aloadN X1.here hx rfl (hb hby own_dLi1_5) rfl rfl k) ?_
  obtain ⟨_, _, ⟨T2, L2, k2, n2⟩, -, X2, ⟨Lc2, hQ2, l2, y2, z2⟩, st2⟩ := Jvm.LawKit.callS X1 hx (y := (⟨"java/util/Objects", "requireNonNull", "(Ljava/lang/Object;)Ljava/lang/Object;"⟩ : MethodName)) hown (mvT hZ (hw _ (List.mem_of_getElem? (i := 207) rfl))) (mvT hZ (hw _ (List.mem_of_getElem? (i := 172) rfl))) (mvT hZ (hw _ (List.mem_of_getElem? (i := 173) rfl))) (mvT hZ (hw _ (List.mem_of_getElem? (i := 174) rfl))) (by decide) (backOf (W := 1) (own_rRnn l Z a0 hw [] y0 h0 n0 Z0 ) hZ (hw _ (List.mem_of_getElem? (i := 174) rfl)) (hw _ (List.mem_of_getElem? (i := 173) rfl)) (by decide) (by decide)) (g := (mkF m 6 #[.val (.ref xo), .val (.ref y0)] [(.ref y0), (.ref xo)])) rfl (by rw [hml]; rfl) (argsL := [(.ref y0)]) (rest := [(.ref xo)]) (lenOf own_pd7 rfl) rfl (by show 2 * 0 + _ ≤ _; exact Nat.le_of_eq rfl) (hb hby own_dLi1_6) (fun _ _ => ⟨rfl, e1, (by decide : 0 + 0 ≤ _), (by decide : 0 + 0 ≤ _)⟩)
  dsimp only [Pt.U, Pt.locs, Pt.cells, Pt.slots] at X2 l2 y2 z2 st2 hQ2
  subst l2 y2 z2
  obtain ⟨rfl, N2q, e2⟩ := hQ2
  have N2 := Fr.app N1 N2q
  refine own_go (T' := T2) (g' := (mkF m 9 #[.val (.ref xo), .val (.ref y0)] [(.ref y0), (.ref xo)])) (fun _ k => st2 _ k) ?_
  obtain ⟨T3, h3, X3, e3, W3, st3⟩ := putF X2 hx hZ hown (host := "") (Or.inl (hw _ (List.mem_of_getElem? (i := 208) rfl))) Via.refl e2 F1 E1 (Or.inr ⟨(hw _ (List.mem_of_getElem? (i := 209) rfl)), rfl, hnm⟩) (hw _ (List.mem_of_getElem? (i := 197) rfl)) (ty := (.object "java/lang/Object")) (by decide) rfl rfl (g := (mkF m 9 #[.val (.ref xo), .val (.ref y0)] [(.ref y0), (.ref xo)])) rfl rfl (hb hby own_dLi1_9)
  have Fw3 := F1.same W3
  have Ek4 := E1.wr W3
  have Fk5 := F2.other W3 (Or.inr (slot_ne (Or.inr (hw _ (List.mem_of_getElem? (i := 212) rfl))) (Or.inr (hw _ (List.mem_of_getElem? (i := 209) rfl))) (by decide) (t := (.object "java/lang/Object")) (t' := (.object "java/lang/Object")) (by decide) (by decide)))
  have Z3 : n0 ≤ h3.size := Nat.le_trans Z0 (Keep.of_wr W3).1
  have K3 : Keep h0 h3 [xo] := (Keep.refl h0 [xo]).wr W3 (Or.inl (List.mem_of_getElem? (i := 0) rfl))
  have N3 := Fr.snoc X3 N2 gz
  have SK3 : own_SK Z h0 h3 := (own_SK.rf Z h0).wr W3
  refine own_go (T' := T3) (g' := (mkF m 12 #[.val (.ref xo), .val (.ref y0)] [])) (fun _ k => st3 _ k) ?_
  refine own_go (T' := T3) (g' := (mkF m 13 #[.val (.ref xo), .val (.ref y0)] [(.ref xo)])) (fun _ k => XS.aloadN X3.here hx rfl (hb hby own_dLi1_12) rfl rfl k) ?_
  obtain ⟨T6, X6, e6, st6⟩ := getS2 X3 hx hZ hown (Or.inr (hw _ (List.mem_of_getElem? (i := 210) rfl))) Via.refl e3 (SK3 _ _ _ _ Sq) (g := (mkF m 13 #[.val (.ref xo), .val (.ref y0)] [(.ref xo)])) rfl (hb hby own_dLi1_13)
  refine own_go (T' := T6) (g' := (mkF m 16 #[.val (.ref xo), .val (.ref y0)] [(.ref xq), (.ref xo)])) (fun _ k => st6 _ k) ?_
  obtain ⟨T7, h7, X7, e7, W7, st7⟩ := putF X6 hx hZ hown (host := "") (Or.inl (hw _ (List.mem_of_getElem? (i := 211) rfl))) Via.refl e6 Fk5 Ek4 (Or.inr ⟨(hw _ (List.mem_of_getElem? (i := 212) rfl)), rfl, hnm⟩) (hw _ (List.mem_of_getElem? (i := 197) rfl)) (ty := (.object "java/lang/Object")) (by decide) rfl rfl (g := (mkF m 16 #[.val (.ref xo), .val (.ref y0)] [(.ref xq), (.ref xo)])) rfl rfl (hb hby own_dLi1_16)
  have Fw7 := Fk5.same W7
  have Ek8 := Ek4.wr W7
  have Fk9 := Fw3.other W7 (Or.inr (slot_ne (Or.inr (hw _ (List.mem_of_getElem? (i := 209) rfl))) (Or.inr (hw _ (List.mem_of_getElem? (i := 212) rfl))) (by decide) (t := (.object "java/lang/Object")) (t' := (.object "java/lang/Object")) (by decide) (by decide)))
  have Z7 : n0 ≤ h7.size := Nat.le_trans Z3 (Keep.of_wr W7).1
  have K7 : Keep h0 h7 [xo] := K3.wr W7 (Or.inl (List.mem_of_getElem? (i := 0) rfl))
  have N7 := Fr.snoc X7 N3 gz
  have SK7 : own_SK Z h0 h7 := SK3.wr W7
  refine own_go (T' := T7) (g' := (mkF m 19 #[.val (.ref xo), .val (.ref y0)] [])) (fun _ k => st7 _ k) ?_
  obtain ⟨fs, hr, hrun, hended, hW, hsame⟩ := X7.leave (v := none) (fun _ => rfl)
  refine own_end (X7.returnOut hx Bd.returns (hb hby own_dLi1_19) hr) hrun hended ⟨_, _, rfl, (?_ : own_QLi1 Z xo y0 xq h0 n0 _ T7.heap _), ⟨_, rfl⟩, hW, hsame.mono (by decide) (by decide)⟩
  rw [e7]
  exact ⟨rfl, N7, K7, SK7, Ek8, Fk9, Fw7⟩
theorem own_dLi2_0 : decode jdk_44_method_2_code 0 = .ok (.aload_n 0, 1) := by decide +kernel
theorem own_dLi2_1 : decode jdk_44_method_2_code 1 = .ok (.invokespecial 1, 3) := by decide +kernel
theorem own_dLi2_4 : decode jdk_44_method_2_code 4 = .ok (.aload_n 0, 1) := by decide +kernel
theorem own_dLi2_5 : decode jdk_44_method_2_code 5 = .ok (.aload_n 1, 1) := by decide +kernel
theorem own_dLi2_6 : decode jdk_44_method_2_code 6 = .ok (.invokestatic 7, 3) := by decide +kernel
theorem own_dLi2_9 : decode jdk_44_method_2_code 9 = .ok (.putfield 13, 3) := by decide +kernel
theorem own_dLi2_12 : decode jdk_44_method_2_code 12 = .ok (.aload_n 0, 1) := by decide +kernel
theorem own_dLi2_13 : decode jdk_44_method_2_code 13 = .ok (.aload_n 2, 1) := by decide +kernel
theorem own_dLi2_14 : decode jdk_44_method_2_code 14 = .ok (.invokestatic 7, 3) := by decide +kernel
theorem own_dLi2_17 : decode jdk_44_method_2_code 17 = .ok (.putfield 24, 3) := by decide +kernel
theorem own_dLi2_20 : decode jdk_44_method_2_code 20 = .ok (.return_, 1) := by decide +kernel
theorem own_efLi2 (m : MethodId) (xo : Addr) (y0 : Addr) (y1 : Addr) : entryFrame m #[(.ref xo), (.ref y0), (.ref y1)] 3 = mkF m 0 #[.val (.ref xo), .val (.ref y0), .val (.ref y1)] [] := by first | (simp [entryFrame, mkF, argsToLocals, Value.category]; done) | rfl
def own_QLi2 (Z : State) (xo : Addr) (y0 : Addr) (y1 : Addr)  (h0 : Heap) (n0 : Nat) (v : Option Value) (h : Heap) (L : List Loc) : Prop := v = none ∧ Fr n0 L ∧ Keep h0 h [xo] ∧ own_SK Z h0 h ∧ Exa Z h xo "java/util/ImmutableCollections$List12" ∧ Fld Z h xo "java/util/ImmutableCollections$List12" "e0" "Ljava/lang/Object;" (.ref y0) ∧ Fld Z h xo "java/util/ImmutableCollections$List12" "e1" "Ljava/lang/Object;" (.ref y1)
set_option maxRecDepth 65536 in
set_option maxHeartbeats 40000000 in
theorem own_rLi2 (l : Launch) (Z : State) (a0 : Array Value) (hw : ∀ d ∈ tables_1, d.before a0 Z = true) (ws : List Jvm.Cond) (xo : Addr) (y0 : Addr) (y1 : Addr)  (h0 : Heap) (n0 : Nat) (Z0 : n0 ≤ h0.size) (E1 : Exa Z h0 xo "java/util/ImmutableCollections$List12") (F1 : Fld Z h0 xo "java/util/ImmutableCollections$List12" "e0" "Ljava/lang/Object;" .null) (F2 : Fld Z h0 xo "java/util/ImmutableCollections$List12" "e1" "Ljava/lang/Object;" .null) (gz : n0 ≤ xo) :
    MetFree l (⟨"java/util/ImmutableCollections$List12", "<init>", "(Ljava/lang/Object;Ljava/lang/Object;)V"⟩ : MethodName) (head1 (Jvm.Cond.code (⟨"java/util/ImmutableCollections$List12", "<init>", "(Ljava/lang/Object;Ljava/lang/Object;)V"⟩ : MethodName) jdk_44_method_2_code 3 none :: ws) ({ frames := 4, cells := 0, slots := 0, locals := 48 } : Room)) (fun a U => a = #[(.ref xo), (.ref y0), (.ref y1)] ∧ Z.Warmed39 U.vm ∧ U.heap = h0) (fun _ _ _ _ _ => True) (fun _ U o U' => ∃ v L, o = .returned v ∧ own_QLi2 Z xo y0 y1 h0 n0 v U'.heap L ∧ FrameEnd U o U' L ({ frames := 4, cells := 0, slots := 0, locals := 48 } : Room).cells ({ frames := 4, cells := 0, slots := 0, locals := 48 } : Room).slots) := by
  refine MetFree.of_bodySF (plainFor_of_name own_pn8) hisR ?_
  intro p e s m args below meth c s₁ Bd hml0 hP hK
  obtain ⟨rfl, hZ, hh⟩ := hP
  have hx := Bd.exec
  have hby := Bd.bytes
  have hml : c.maxLocals = 3 := hml0
  have hown : s.vm.findClass "java/util/ImmutableCollections$List12" = some m.cls := findClass_of_methodNamed Bd.named
  have hnm := (name_of_methodNamed Bd.named Bd.method).1
  have X0 : Stand p l e ({ frames := 4, cells := 0, slots := 0, locals := 48 } : Room) s m #[(.ref xo), (.ref y0), (.ref y1)] below meth c s₁ [] 0 0 := Stand.of_body Bd
  have e0 : s₁.heap = h0 := by rw [← hh, Bd.state]; rfl
  have N0 := Fr.nil n0
  show own_F p e below (fun o U' => ∃ v L, o = .returned v ∧ own_QLi2 Z xo y0 y1 h0 n0 v U'.heap L ∧ FrameEnd s o U' L ({ frames := 4, cells := 0, slots := 0, locals := 48 } : Room).cells ({ frames := 4, cells := 0, slots := 0, locals := 48 } : Room).slots) s₁ (entryFrame m #[(.ref xo), (.ref y0), (.ref y1)] 3)
  rw [own_efLi2 m xo y0 y1]
  refine own_go (T' := s₁) (g' := (mkF m 1 #[.val (.ref xo), .val (.ref y0), .val (.ref y1)] [(.ref xo)])) (fun _ k => XS.aloadN X0.here hx rfl (hb hby own_dLi2_0) rfl rfl k) ?_
  obtain ⟨_, _, ⟨T1, L1, k1, n1⟩, -, X1, ⟨Lc1, hQ1, l1, y1, z1⟩, st1⟩ := X0.specialBack hx (y := (⟨"java/util/ImmutableCollections$AbstractImmutableList", "<init>", "()V"⟩ : MethodName)) rfl hown (mvT hZ (hw _ (List.mem_of_getElem? (i := 203) rfl))) (mvT hZ (hw _ (List.mem_of_getElem? (i := 181) rfl))) (mvT hZ (hw _ (List.mem_of_getElem? (i := 185) rfl))) (by decide) (backOf (W := 0) (own_rAil l Z a0 hw [] xo h0 n0 Z0 ) hZ (hw _ (List.mem_of_getElem? (i := 185) rfl)) (hw _ (List.mem_of_getElem? (i := 184) rfl)) (by decide) (by decide)) (g := (mkF m 1 #[.val (.ref xo), .val (.ref y0), .val (.ref y1)] [(.ref xo)])) rfl (by rw [hml]; rfl) (Steps.refl _) (a := xo) (argsL := []) (rest := []) (lenOf own_pd0 rfl) rfl (by show 2 * 0 + _ ≤ _; exact Nat.le_of_eq rfl) (hb hby own_dLi2_1) (fun _ _ => ⟨rfl, e0, (by decide : 0 + 0 ≤ _), (by decide : 0 + 0 ≤ _)⟩)
  dsimp only [Pt.U, Pt.locs, Pt.cells, Pt.slots] at X1 l1 y1 z1 st1 hQ1
  subst l1 y1 z1
  obtain ⟨rfl, N1q, e1⟩ := hQ1
  have N1 := Fr.app N0 N1q
  refine own_goT (T' := T1) (g' := (mkF m 4 #[.val (.ref xo), .val (.ref y0), .val (.ref y1)] [])) st1 ?_
  refine own_go (T' := T1) (g' := (mkF m 5 #[.val (.ref xo), .val (.ref y0), .val (.ref y1)] [(.ref xo)])) (fun _ k => XS.aloadN X1.here hx rfl (hb hby own_dLi2_4) rfl rfl k) ?_
  refine own_go (T' := T1) (g' := (mkF m 6 #[.val (.ref xo), .val (.ref y0), .val (.ref y1)] [(.ref y0), (.ref xo)])) (fun _ k => XS.aloadN X1.here hx rfl (hb hby own_dLi2_5) rfl rfl k) ?_
  obtain ⟨_, _, ⟨T2, L2, k2, n2⟩, -, X2, ⟨Lc2, hQ2, l2, y2, z2⟩, st2⟩ := Jvm.LawKit.callS X1 hx (y := (⟨"java/util/Objects", "requireNonNull", "(Ljava/lang/Object;)Ljava/lang/Object;"⟩ : MethodName)) hown (mvT hZ (hw _ (List.mem_of_getElem? (i := 207) rfl))) (mvT hZ (hw _ (List.mem_of_getElem? (i := 172) rfl))) (mvT hZ (hw _ (List.mem_of_getElem? (i := 173) rfl))) (mvT hZ (hw _ (List.mem_of_getElem? (i := 174) rfl))) (by decide) (backOf (W := 1) (own_rRnn l Z a0 hw [] y0 h0 n0 Z0 ) hZ (hw _ (List.mem_of_getElem? (i := 174) rfl)) (hw _ (List.mem_of_getElem? (i := 173) rfl)) (by decide) (by decide)) (g := (mkF m 6 #[.val (.ref xo), .val (.ref y0), .val (.ref y1)] [(.ref y0), (.ref xo)])) rfl (by rw [hml]; rfl) (argsL := [(.ref y0)]) (rest := [(.ref xo)]) (lenOf own_pd7 rfl) rfl (by show 2 * 0 + _ ≤ _; exact Nat.le_of_eq rfl) (hb hby own_dLi2_6) (fun _ _ => ⟨rfl, e1, (by decide : 0 + 0 ≤ _), (by decide : 0 + 0 ≤ _)⟩)
  dsimp only [Pt.U, Pt.locs, Pt.cells, Pt.slots] at X2 l2 y2 z2 st2 hQ2
  subst l2 y2 z2
  obtain ⟨rfl, N2q, e2⟩ := hQ2
  have N2 := Fr.app N1 N2q
  refine own_go (T' := T2) (g' := (mkF m 9 #[.val (.ref xo), .val (.ref y0), .val (.ref y1)] [(.ref y0), (.ref xo)])) (fun _ k => st2 _ k) ?_
  obtain ⟨T3, h3, X3, e3, W3, st3⟩ := putF X2 hx hZ hown (host := "") (Or.inl (hw _ (List.mem_of_getElem? (i := 208) rfl))) Via.refl e2 F1 E1 (Or.inr ⟨(hw _ (List.mem_of_getElem? (i := 209) rfl)), rfl, hnm⟩) (hw _ (List.mem_of_getElem? (i := 197) rfl)) (ty := (.object "java/lang/Object")) (by decide) rfl rfl (g := (mkF m 9 #[.val (.ref xo), .val (.ref y0), .val (.ref y1)] [(.ref y0), (.ref xo)])) rfl rfl (hb hby own_dLi2_9)
  have Fw3 := F1.same W3
  have Ek4 := E1.wr W3
  have Fk5 := F2.other W3 (Or.inr (slot_ne (Or.inr (hw _ (List.mem_of_getElem? (i := 212) rfl))) (Or.inr (hw _ (List.mem_of_getElem? (i := 209) rfl))) (by decide) (t := (.object "java/lang/Object")) (t' := (.object "java/lang/Object")) (by decide) (by decide)))
  have Z3 : n0 ≤ h3.size := Nat.le_trans Z0 (Keep.of_wr W3).1
  have K3 : Keep h0 h3 [xo] := (Keep.refl h0 [xo]).wr W3 (Or.inl (List.mem_of_getElem? (i := 0) rfl))
  have N3 := Fr.snoc X3 N2 gz
  have SK3 : own_SK Z h0 h3 := (own_SK.rf Z h0).wr W3
  refine own_go (T' := T3) (g' := (mkF m 12 #[.val (.ref xo), .val (.ref y0), .val (.ref y1)] [])) (fun _ k => st3 _ k) ?_
  refine own_go (T' := T3) (g' := (mkF m 13 #[.val (.ref xo), .val (.ref y0), .val (.ref y1)] [(.ref xo)])) (fun _ k => XS.aloadN X3.here hx rfl (hb hby own_dLi2_12) rfl rfl k) ?_
  refine own_go (T' := T3) (g' := (mkF m 14 #[.val (.ref xo), .val (.ref y0), .val (.ref y1)] [(.ref y1), (.ref xo)])) (fun _ k => XS.aloadN X3.here hx rfl (hb hby own_dLi2_13) rfl rfl k) ?_
  obtain ⟨_, _, ⟨T6, L6, k6, n6⟩, -, X6, ⟨Lc6, hQ6, l6, y6, z6⟩, st6⟩ := Jvm.LawKit.callS X3 hx (y := (⟨"java/util/Objects", "requireNonNull", "(Ljava/lang/Object;)Ljava/lang/Object;"⟩ : MethodName)) hown (mvT hZ (hw _ (List.mem_of_getElem? (i := 207) rfl))) (mvT hZ (hw _ (List.mem_of_getElem? (i := 172) rfl))) (mvT hZ (hw _ (List.mem_of_getElem? (i := 173) rfl))) (mvT hZ (hw _ (List.mem_of_getElem? (i := 174) rfl))) (by decide) (backOf (W := 1) (own_rRnn l Z a0 hw [] y1 h3 n0 Z3 ) hZ (hw _ (List.mem_of_getElem? (i := 174) rfl)) (hw _ (List.mem_of_getElem? (i := 173) rfl)) (by decide) (by decide)) (g := (mkF m 14 #[.val (.ref xo), .val (.ref y0), .val (.ref y1)] [(.ref y1), (.ref xo)])) rfl (by rw [hml]; rfl) (argsL := [(.ref y1)]) (rest := [(.ref xo)]) (lenOf own_pd7 rfl) rfl (by show 2 * 0 + _ ≤ _; exact Nat.le_of_eq rfl) (hb hby own_dLi2_14) (fun _ _ => ⟨rfl, e3, (by decide : 0 + 0 ≤ _), (by decide : 0 + 0 ≤ _)⟩)
  dsimp only [Pt.U, Pt.locs, Pt.cells, Pt.slots] at X6 l6 y6 z6 st6 hQ6
  subst l6 y6 z6
  obtain ⟨rfl, N6q, e6⟩ := hQ6
  have N6 := Fr.app N3 N6q
  refine own_go (T' := T6) (g' := (mkF m 17 #[.val (.ref xo), .val (.ref y0), .val (.ref y1)] [(.ref y1), (.ref xo)])) (fun _ k => st6 _ k) ?_
  obtain ⟨T7, h7, X7, e7, W7, st7⟩ := putF X6 hx hZ hown (host := "") (Or.inl (hw _ (List.mem_of_getElem? (i := 211) rfl))) Via.refl e6 Fk5 Ek4 (Or.inr ⟨(hw _ (List.mem_of_getElem? (i := 212) rfl)), rfl, hnm⟩) (hw _ (List.mem_of_getElem? (i := 197) rfl)) (ty := (.object "java/lang/Object")) (by decide) rfl rfl (g := (mkF m 17 #[.val (.ref xo), .val (.ref y0), .val (.ref y1)] [(.ref y1), (.ref xo)])) rfl rfl (hb hby own_dLi2_17)
  have Fw7 := Fk5.same W7
  have Ek8 := Ek4.wr W7
  have Fk9 := Fw3.other W7 (Or.inr (slot_ne (Or.inr (hw _ (List.mem_of_getElem? (i := 209) rfl))) (Or.inr (hw _ (List.mem_of_getElem? (i := 212) rfl))) (by decide) (t := (.object "java/lang/Object")) (t' := (.object "java/lang/Object")) (by decide) (by decide)))
  have Z7 : n0 ≤ h7.size := Nat.le_trans Z3 (Keep.of_wr W7).1
  have K7 : Keep h0 h7 [xo] := K3.wr W7 (Or.inl (List.mem_of_getElem? (i := 0) rfl))
  have N7 := Fr.snoc X7 N6 gz
  have SK7 : own_SK Z h0 h7 := SK3.wr W7
  refine own_go (T' := T7) (g' := (mkF m 20 #[.val (.ref xo), .val (.ref y0), .val (.ref y1)] [])) (fun _ k => st7 _ k) ?_
  obtain ⟨fs, hr, hrun, hended, hW, hsame⟩ := X7.leave (v := none) (fun _ => rfl)
  refine own_end (X7.returnOut hx Bd.returns (hb hby own_dLi2_20) hr) hrun hended ⟨_, _, rfl, (?_ : own_QLi2 Z xo y0 y1 h0 n0 _ T7.heap _), ⟨_, rfl⟩, hW, hsame.mono (by decide) (by decide)⟩
  rw [e7]
  exact ⟨rfl, N7, K7, SK7, Ek8, Fk9, Fw7⟩
theorem own_dLni_0 : decode jdk_45_method_1_code 0 = .ok (.aload_n 0, 1) := by decide +kernel
theorem own_dLni_1 : decode jdk_45_method_1_code 1 = .ok (.invokespecial 1, 3) := by decide +kernel
theorem own_dLni_4 : decode jdk_45_method_1_code 4 = .ok (.aload_n 0, 1) := by decide +kernel
theorem own_dLni_5 : decode jdk_45_method_1_code 5 = .ok (.aload_n 1, 1) := by decide +kernel
theorem own_dLni_6 : decode jdk_45_method_1_code 6 = .ok (.putfield 7, 3) := by decide +kernel
theorem own_dLni_9 : decode jdk_45_method_1_code 9 = .ok (.aload_n 0, 1) := by decide +kernel
theorem own_dLni_10 : decode jdk_45_method_1_code 10 = .ok (.iload_n 2, 1) := by decide +kernel
theorem own_dLni_11 : decode jdk_45_method_1_code 11 = .ok (.putfield 13, 3) := by decide +kernel
theorem own_dLni_14 : decode jdk_45_method_1_code 14 = .ok (.return_, 1) := by decide +kernel
theorem own_efLni (m : MethodId) (xo : Addr) (xa : Addr) : entryFrame m #[(.ref xo), (.ref xa), (.int (0 : Int32))] 3 = mkF m 0 #[.val (.ref xo), .val (.ref xa), .val (.int (0 : Int32))] [] := by first | (simp [entryFrame, mkF, argsToLocals, Value.category]; done) | rfl
def own_QLni (Z : State) (xo : Addr) (xa : Addr)  (h0 : Heap) (n0 : Nat) (v : Option Value) (h : Heap) (L : List Loc) : Prop := v = none ∧ Fr n0 L ∧ Keep h0 h [xo] ∧ own_SK Z h0 h ∧ Exa Z h xo "java/util/ImmutableCollections$ListN" ∧ Fld Z h xo "java/util/ImmutableCollections$ListN" "elements" "[Ljava/lang/Object;" (.ref xa)
theorem own_pn9 : plainName "java/util/ImmutableCollections$ListN" = true := by first | (simp [plainName, overriddenIn]; done) | decide +kernel
set_option maxRecDepth 65536 in
set_option maxHeartbeats 40000000 in
theorem own_rLni (l : Launch) (Z : State) (a0 : Array Value) (hw : ∀ d ∈ tables_1, d.before a0 Z = true) (ws : List Jvm.Cond) (xo : Addr) (xa : Addr)  (h0 : Heap) (n0 : Nat) (Z0 : n0 ≤ h0.size) (E1 : Exa Z h0 xo "java/util/ImmutableCollections$ListN") (F1 : Fld Z h0 xo "java/util/ImmutableCollections$ListN" "elements" "[Ljava/lang/Object;" .null) (F2 : Fld Z h0 xo "java/util/ImmutableCollections$ListN" "allowNulls" "Z" (.int (0 : Int32))) (gz : n0 ≤ xo) :
    MetFree l (⟨"java/util/ImmutableCollections$ListN", "<init>", "([Ljava/lang/Object;Z)V"⟩ : MethodName) (head1 (Jvm.Cond.code (⟨"java/util/ImmutableCollections$ListN", "<init>", "([Ljava/lang/Object;Z)V"⟩ : MethodName) jdk_45_method_1_code 3 none :: ws) ({ frames := 4, cells := 0, slots := 0, locals := 48 } : Room)) (fun a U => a = #[(.ref xo), (.ref xa), (.int (0 : Int32))] ∧ Z.Warmed39 U.vm ∧ U.heap = h0) (fun _ _ _ _ _ => True) (fun _ U o U' => ∃ v L, o = .returned v ∧ own_QLni Z xo xa h0 n0 v U'.heap L ∧ FrameEnd U o U' L ({ frames := 4, cells := 0, slots := 0, locals := 48 } : Room).cells ({ frames := 4, cells := 0, slots := 0, locals := 48 } : Room).slots) := by
  refine MetFree.of_bodySF (plainFor_of_name own_pn9) hisR ?_
  intro p e s m args below meth c s₁ Bd hml0 hP hK
  obtain ⟨rfl, hZ, hh⟩ := hP
  have hx := Bd.exec
  have hby := Bd.bytes
  have hml : c.maxLocals = 3 := hml0
  have hown : s.vm.findClass "java/util/ImmutableCollections$ListN" = some m.cls := findClass_of_methodNamed Bd.named
  have hnm := (name_of_methodNamed Bd.named Bd.method).1
  have X0 : Stand p l e ({ frames := 4, cells := 0, slots := 0, locals := 48 } : Room) s m #[(.ref xo), (.ref xa), (.int (0 : Int32))] below meth c s₁ [] 0 0 := Stand.of_body Bd
  have e0 : s₁.heap = h0 := by rw [← hh, Bd.state]; rfl
  have N0 := Fr.nil n0
  show own_F p e below (fun o U' => ∃ v L, o = .returned v ∧ own_QLni Z xo xa h0 n0 v U'.heap L ∧ FrameEnd s o U' L ({ frames := 4, cells := 0, slots := 0, locals := 48 } : Room).cells ({ frames := 4, cells := 0, slots := 0, locals := 48 } : Room).slots) s₁ (entryFrame m #[(.ref xo), (.ref xa), (.int (0 : Int32))] 3)
  rw [own_efLni m xo xa]
  refine own_go (T' := s₁) (g' := (mkF m 1 #[.val (.ref xo), .val (.ref xa), .val (.int (0 : Int32))] [(.ref xo)])) (fun _ k => XS.aloadN X0.here hx rfl (hb hby own_dLni_0) rfl rfl k) ?_
  obtain ⟨_, _, ⟨T1, L1, k1, n1⟩, -, X1, ⟨Lc1, hQ1, l1, y1, z1⟩, st1⟩ := X0.specialBack hx (y := (⟨"java/util/ImmutableCollections$AbstractImmutableList", "<init>", "()V"⟩ : MethodName)) rfl hown (mvT hZ (hw _ (List.mem_of_getElem? (i := 180) rfl))) (mvT hZ (hw _ (List.mem_of_getElem? (i := 181) rfl))) (mvT hZ (hw _ (List.mem_of_getElem? (i := 185) rfl))) (by decide) (backOf (W := 0) (own_rAil l Z a0 hw [] xo h0 n0 Z0 ) hZ (hw _ (List.mem_of_getElem? (i := 185) rfl)) (hw _ (List.mem_of_getElem? (i := 184) rfl)) (by decide) (by decide)) (g := (mkF m 1 #[.val (.ref xo), .val (.ref xa), .val (.int (0 : Int32))] [(.ref xo)])) rfl (by rw [hml]; rfl) (Steps.refl _) (a := xo) (argsL := []) (rest := []) (lenOf own_pd0 rfl) rfl (by show 2 * 0 + _ ≤ _; exact Nat.le_of_eq rfl) (hb hby own_dLni_1) (fun _ _ => ⟨rfl, e0, (by decide : 0 + 0 ≤ _), (by decide : 0 + 0 ≤ _)⟩)
  dsimp only [Pt.U, Pt.locs, Pt.cells, Pt.slots] at X1 l1 y1 z1 st1 hQ1
  subst l1 y1 z1
  obtain ⟨rfl, N1q, e1⟩ := hQ1
  have N1 := Fr.app N0 N1q
  refine own_goT (T' := T1) (g' := (mkF m 4 #[.val (.ref xo), .val (.ref xa), .val (.int (0 : Int32))] [])) st1 ?_
  refine own_go (T' := T1) (g' := (mkF m 5 #[.val (.ref xo), .val (.ref xa), .val (.int (0 : Int32))] [(.ref xo)])) (fun _ k => XS.aloadN X1.here hx rfl (hb hby own_dLni_4) rfl rfl k) ?_
  refine own_go (T' := T1) (g' := (mkF m 6 #[.val (.ref xo), .val (.ref xa), .val (.int (0 : Int32))] [(.ref xa), (.ref xo)])) (fun _ k => XS.aloadN X1.here hx rfl (hb hby own_dLni_5) rfl rfl k) ?_
  obtain ⟨T2, h2, X2, e2, W2, st2⟩ := putF X1 hx hZ hown (host := "") (Or.inl (hw _ (List.mem_of_getElem? (i := 103) rfl))) Via.refl e1 F1 E1 (Or.inr ⟨(hw _ (List.mem_of_getElem? (i := 104) rfl)), rfl, hnm⟩) (hw _ (List.mem_of_getElem? (i := 175) rfl)) (ty := (.array (.object "java/lang/Object"))) (by decide) rfl rfl (g := (mkF m 6 #[.val (.ref xo), .val (.ref xa), .val (.int (0 : Int32))] [(.ref xa), (.ref xo)])) rfl rfl (hb hby own_dLni_6)
  have Fw2 := F1.same W2
  have Ek3 := E1.wr W2
  have Fk4 := F2.other W2 (Or.inr (slot_ne (Or.inr (hw _ (List.mem_of_getElem? (i := 195) rfl))) (Or.inr (hw _ (List.mem_of_getElem? (i := 104) rfl))) (by decide) (t := .boolean) (t' := (.array (.object "java/lang/Object"))) (by decide) (by decide)))
  have Z2 : n0 ≤ h2.size := Nat.le_trans Z0 (Keep.of_wr W2).1
  have K2 : Keep h0 h2 [xo] := (Keep.refl h0 [xo]).wr W2 (Or.inl (List.mem_of_getElem? (i := 0) rfl))
  have N2 := Fr.snoc X2 N1 gz
  have SK2 : own_SK Z h0 h2 := (own_SK.rf Z h0).wr W2
  refine own_go (T' := T2) (g' := (mkF m 9 #[.val (.ref xo), .val (.ref xa), .val (.int (0 : Int32))] [])) (fun _ k => st2 _ k) ?_
  refine own_go (T' := T2) (g' := (mkF m 10 #[.val (.ref xo), .val (.ref xa), .val (.int (0 : Int32))] [(.ref xo)])) (fun _ k => XS.aloadN X2.here hx rfl (hb hby own_dLni_9) rfl rfl k) ?_
  refine own_go (T' := T2) (g' := (mkF m 11 #[.val (.ref xo), .val (.ref xa), .val (.int (0 : Int32))] [(.int (0 : Int32)), (.ref xo)])) (fun _ k => XS.iloadN X2.here hx rfl (hb hby own_dLni_10) rfl k) ?_
  obtain ⟨T5, h5, X5, e5, W5, st5⟩ := putF X2 hx hZ hown (host := "") (Or.inl (hw _ (List.mem_of_getElem? (i := 194) rfl))) Via.refl e2 Fk4 Ek3 (Or.inr ⟨(hw _ (List.mem_of_getElem? (i := 195) rfl)), rfl, hnm⟩) (hw _ (List.mem_of_getElem? (i := 175) rfl)) (ty := .boolean) (by decide) rfl rfl (g := (mkF m 11 #[.val (.ref xo), .val (.ref xa), .val (.int (0 : Int32))] [(.int (0 : Int32)), (.ref xo)])) rfl rfl (hb hby own_dLni_11)
  have Fw5 := Fk4.same W5
  have Ek6 := Ek3.wr W5
  have Fk7 := Fw2.other W5 (Or.inr (slot_ne (Or.inr (hw _ (List.mem_of_getElem? (i := 104) rfl))) (Or.inr (hw _ (List.mem_of_getElem? (i := 195) rfl))) (by decide) (t := (.array (.object "java/lang/Object"))) (t' := .boolean) (by decide) (by decide)))
  have Z5 : n0 ≤ h5.size := Nat.le_trans Z2 (Keep.of_wr W5).1
  have K5 : Keep h0 h5 [xo] := K2.wr W5 (Or.inl (List.mem_of_getElem? (i := 0) rfl))
  have N5 := Fr.snoc X5 N2 gz
  have SK5 : own_SK Z h0 h5 := SK2.wr W5
  refine own_go (T' := T5) (g' := (mkF m 14 #[.val (.ref xo), .val (.ref xa), .val (.int (0 : Int32))] [])) (fun _ k => st5 _ k) ?_
  obtain ⟨fs, hr, hrun, hended, hW, hsame⟩ := X5.leave (v := none) (fun _ => rfl)
  refine own_end (X5.returnOut hx Bd.returns (hb hby own_dLni_14) hr) hrun hended ⟨_, _, rfl, (?_ : own_QLni Z xo xa h0 n0 _ T5.heap _), ⟨_, rfl⟩, hW, hsame.mono (by decide) (by decide)⟩
  rw [e5]
  exact ⟨rfl, N5, K5, SK5, Ek6, Fk7⟩
theorem own_dMn1_0 : decode jdk_29_method_69_code 0 = .ok (.iload_n 0, 1) := by decide +kernel
theorem own_dMn1_1 : decode jdk_29_method_69_code 1 = .ok (.iload_n 1, 1) := by decide +kernel
theorem own_dMn1_2 : decode jdk_29_method_69_code 2 = .ok (.if_icmp .gt 7, 3) := by decide +kernel
theorem own_dMn1_9 : decode jdk_29_method_69_code 9 = .ok (.iload_n 1, 1) := by decide +kernel
theorem own_dMn1_10 : decode jdk_29_method_69_code 10 = .ok (.ireturn, 1) := by decide +kernel
theorem own_efMn1 (m : MethodId)  : entryFrame m #[(.int (10 : Int32)), (.int (1 : Int32))] 2 = mkF m 0 #[.val (.int (10 : Int32)), .val (.int (1 : Int32))] [] := by first | (simp [entryFrame, mkF, argsToLocals, Value.category]; done) | rfl
def own_QMn1 (Z : State)   (h0 : Heap) (n0 : Nat) (v : Option Value) (h : Heap) (L : List Loc) : Prop := v = some (.int (1 : Int32)) ∧ Fr n0 L ∧ h = h0
set_option maxRecDepth 65536 in
set_option maxHeartbeats 40000000 in
theorem own_rMn1 (l : Launch) (Z : State) (a0 : Array Value) (hw : ∀ d ∈ tables_1, d.before a0 Z = true) (ws : List Jvm.Cond)   (h0 : Heap) (n0 : Nat) (Z0 : n0 ≤ h0.size) :
    MetFree l (⟨"java/lang/Math", "min", "(II)I"⟩ : MethodName) (head1 (Jvm.Cond.code (⟨"java/lang/Math", "min", "(II)I"⟩ : MethodName) jdk_29_method_69_code 2 (some .int) :: ws) ({ frames := 0, cells := 0, slots := 0, locals := 0 } : Room)) (fun a U => a = #[(.int (10 : Int32)), (.int (1 : Int32))] ∧ Z.Warmed39 U.vm ∧ U.heap = h0) (fun _ _ _ _ _ => True) (fun _ U o U' => ∃ v L, o = .returned v ∧ own_QMn1 Z  h0 n0 v U'.heap L ∧ FrameEnd U o U' L ({ frames := 0, cells := 0, slots := 0, locals := 0 } : Room).cells ({ frames := 0, cells := 0, slots := 0, locals := 0 } : Room).slots) := by
  refine MetFree.of_bodySF (Jvm.Free.JP.mathPlain rfl (by decide +kernel)) hisR ?_
  intro p e s m args below meth c s₁ Bd hml0 hP hK
  obtain ⟨rfl, hZ, hh⟩ := hP
  have hx := Bd.exec
  have hby := Bd.bytes
  have hml : c.maxLocals = 2 := hml0
  have hown : s.vm.findClass "java/lang/Math" = some m.cls := findClass_of_methodNamed Bd.named
  have hnm := (name_of_methodNamed Bd.named Bd.method).1
  have X0 : Stand p l e ({ frames := 0, cells := 0, slots := 0, locals := 0 } : Room) s m #[(.int (10 : Int32)), (.int (1 : Int32))] below meth c s₁ [] 0 0 := Stand.of_body Bd
  have e0 : s₁.heap = h0 := by rw [← hh, Bd.state]; rfl
  have N0 := Fr.nil n0
  show own_F p e below (fun o U' => ∃ v L, o = .returned v ∧ own_QMn1 Z  h0 n0 v U'.heap L ∧ FrameEnd s o U' L ({ frames := 0, cells := 0, slots := 0, locals := 0 } : Room).cells ({ frames := 0, cells := 0, slots := 0, locals := 0 } : Room).slots) s₁ (entryFrame m #[(.int (10 : Int32)), (.int (1 : Int32))] 2)
  rw [own_efMn1 m ]
  refine own_go (T' := s₁) (g' := (mkF m 1 #[.val (.int (10 : Int32)), .val (.int (1 : Int32))] [(.int (10 : Int32))])) (fun _ k => XS.iloadN X0.here hx rfl (hb hby own_dMn1_0) rfl k) ?_
  refine own_go (T' := s₁) (g' := (mkF m 2 #[.val (.int (10 : Int32)), .val (.int (1 : Int32))] [(.int (1 : Int32)), (.int (10 : Int32))])) (fun _ k => XS.iloadN X0.here hx rfl (hb hby own_dMn1_1) rfl k) ?_
  refine own_go (T' := s₁) (g' := (mkF m 9 #[.val (.int (10 : Int32)), .val (.int (1 : Int32))] [])) (fun _ k => XS.icmpYes X0.here hx rfl (pc0 := 2) (pc' := 9) rfl (hb hby own_dMn1_2) rfl (tlt ((by decide) : (1 : Int32) < (10 : Int32))).2.2.1 (by decide) (by decide) k) ?_
  refine own_go (T' := s₁) (g' := (mkF m 10 #[.val (.int (10 : Int32)), .val (.int (1 : Int32))] [(.int (1 : Int32))])) (fun _ k => XS.iloadN X0.here hx rfl (hb hby own_dMn1_9) rfl k) ?_
  obtain ⟨fs, hr, hrun, hended, hW, hsame⟩ := X0.leave (v := some (.int (1 : Int32))) (fun h => by rw [Bd.returns] at h; cases h)
  refine own_end (retOut X0 hx Bd.returns rfl (Or.inl ⟨rfl, Or.inl rfl, _, rfl⟩) (hb hby own_dMn1_10) hr) hrun hended ⟨_, _, rfl, (?_ : own_QMn1 Z  h0 n0 _ s₁.heap _), ⟨_, rfl⟩, hW, hsame.mono (by decide) (by decide)⟩
  rw [e0]
  exact ⟨rfl, N0, rfl⟩
theorem own_dMn2_0 : decode jdk_29_method_69_code 0 = .ok (.iload_n 0, 1) := by decide +kernel
theorem own_dMn2_1 : decode jdk_29_method_69_code 1 = .ok (.iload_n 1, 1) := by decide +kernel
theorem own_dMn2_2 : decode jdk_29_method_69_code 2 = .ok (.if_icmp .gt 7, 3) := by decide +kernel
theorem own_dMn2_9 : decode jdk_29_method_69_code 9 = .ok (.iload_n 1, 1) := by decide +kernel
theorem own_dMn2_10 : decode jdk_29_method_69_code 10 = .ok (.ireturn, 1) := by decide +kernel
theorem own_efMn2 (m : MethodId)  : entryFrame m #[(.int (10 : Int32)), (.int (2 : Int32))] 2 = mkF m 0 #[.val (.int (10 : Int32)), .val (.int (2 : Int32))] [] := by first | (simp [entryFrame, mkF, argsToLocals, Value.category]; done) | rfl
def own_QMn2 (Z : State)   (h0 : Heap) (n0 : Nat) (v : Option Value) (h : Heap) (L : List Loc) : Prop := v = some (.int (2 : Int32)) ∧ Fr n0 L ∧ h = h0
set_option maxRecDepth 65536 in
set_option maxHeartbeats 40000000 in
theorem own_rMn2 (l : Launch) (Z : State) (a0 : Array Value) (hw : ∀ d ∈ tables_1, d.before a0 Z = true) (ws : List Jvm.Cond)   (h0 : Heap) (n0 : Nat) (Z0 : n0 ≤ h0.size) :
    MetFree l (⟨"java/lang/Math", "min", "(II)I"⟩ : MethodName) (head1 (Jvm.Cond.code (⟨"java/lang/Math", "min", "(II)I"⟩ : MethodName) jdk_29_method_69_code 2 (some .int) :: ws) ({ frames := 0, cells := 0, slots := 0, locals := 0 } : Room)) (fun a U => a = #[(.int (10 : Int32)), (.int (2 : Int32))] ∧ Z.Warmed39 U.vm ∧ U.heap = h0) (fun _ _ _ _ _ => True) (fun _ U o U' => ∃ v L, o = .returned v ∧ own_QMn2 Z  h0 n0 v U'.heap L ∧ FrameEnd U o U' L ({ frames := 0, cells := 0, slots := 0, locals := 0 } : Room).cells ({ frames := 0, cells := 0, slots := 0, locals := 0 } : Room).slots) := by
  refine MetFree.of_bodySF (Jvm.Free.JP.mathPlain rfl (by decide +kernel)) hisR ?_
  intro p e s m args below meth c s₁ Bd hml0 hP hK
  obtain ⟨rfl, hZ, hh⟩ := hP
  have hx := Bd.exec
  have hby := Bd.bytes
  have hml : c.maxLocals = 2 := hml0
  have hown : s.vm.findClass "java/lang/Math" = some m.cls := findClass_of_methodNamed Bd.named
  have hnm := (name_of_methodNamed Bd.named Bd.method).1
  have X0 : Stand p l e ({ frames := 0, cells := 0, slots := 0, locals := 0 } : Room) s m #[(.int (10 : Int32)), (.int (2 : Int32))] below meth c s₁ [] 0 0 := Stand.of_body Bd
  have e0 : s₁.heap = h0 := by rw [← hh, Bd.state]; rfl
  have N0 := Fr.nil n0
  show own_F p e below (fun o U' => ∃ v L, o = .returned v ∧ own_QMn2 Z  h0 n0 v U'.heap L ∧ FrameEnd s o U' L ({ frames := 0, cells := 0, slots := 0, locals := 0 } : Room).cells ({ frames := 0, cells := 0, slots := 0, locals := 0 } : Room).slots) s₁ (entryFrame m #[(.int (10 : Int32)), (.int (2 : Int32))] 2)
  rw [own_efMn2 m ]
  refine own_go (T' := s₁) (g' := (mkF m 1 #[.val (.int (10 : Int32)), .val (.int (2 : Int32))] [(.int (10 : Int32))])) (fun _ k => XS.iloadN X0.here hx rfl (hb hby own_dMn2_0) rfl k) ?_
  refine own_go (T' := s₁) (g' := (mkF m 2 #[.val (.int (10 : Int32)), .val (.int (2 : Int32))] [(.int (2 : Int32)), (.int (10 : Int32))])) (fun _ k => XS.iloadN X0.here hx rfl (hb hby own_dMn2_1) rfl k) ?_
  refine own_go (T' := s₁) (g' := (mkF m 9 #[.val (.int (10 : Int32)), .val (.int (2 : Int32))] [])) (fun _ k => XS.icmpYes X0.here hx rfl (pc0 := 2) (pc' := 9) rfl (hb hby own_dMn2_2) rfl (tlt ((by decide) : (2 : Int32) < (10 : Int32))).2.2.1 (by decide) (by decide) k) ?_
  refine own_go (T' := s₁) (g' := (mkF m 10 #[.val (.int (10 : Int32)), .val (.int (2 : Int32))] [(.int (2 : Int32))])) (fun _ k => XS.iloadN X0.here hx rfl (hb hby own_dMn2_9) rfl k) ?_
  obtain ⟨fs, hr, hrun, hended, hW, hsame⟩ := X0.leave (v := some (.int (2 : Int32))) (fun h => by rw [Bd.returns] at h; cases h)
  refine own_end (retOut X0 hx Bd.returns rfl (Or.inl ⟨rfl, Or.inl rfl, _, rfl⟩) (hb hby own_dMn2_10) hr) hrun hended ⟨_, _, rfl, (?_ : own_QMn2 Z  h0 n0 _ s₁.heap _), ⟨_, rfl⟩, hW, hsame.mono (by decide) (by decide)⟩
  rw [e0]
  exact ⟨rfl, N0, rfl⟩
theorem own_dMn3_0 : decode jdk_29_method_69_code 0 = .ok (.iload_n 0, 1) := by decide +kernel
theorem own_dMn3_1 : decode jdk_29_method_69_code 1 = .ok (.iload_n 1, 1) := by decide +kernel
theorem own_dMn3_2 : decode jdk_29_method_69_code 2 = .ok (.if_icmp .gt 7, 3) := by decide +kernel
theorem own_dMn3_9 : decode jdk_29_method_69_code 9 = .ok (.iload_n 1, 1) := by decide +kernel
theorem own_dMn3_10 : decode jdk_29_method_69_code 10 = .ok (.ireturn, 1) := by decide +kernel
theorem own_efMn3 (m : MethodId)  : entryFrame m #[(.int (10 : Int32)), (.int (3 : Int32))] 2 = mkF m 0 #[.val (.int (10 : Int32)), .val (.int (3 : Int32))] [] := by first | (simp [entryFrame, mkF, argsToLocals, Value.category]; done) | rfl
def own_QMn3 (Z : State)   (h0 : Heap) (n0 : Nat) (v : Option Value) (h : Heap) (L : List Loc) : Prop := v = some (.int (3 : Int32)) ∧ Fr n0 L ∧ h = h0
set_option maxRecDepth 65536 in
set_option maxHeartbeats 40000000 in
theorem own_rMn3 (l : Launch) (Z : State) (a0 : Array Value) (hw : ∀ d ∈ tables_1, d.before a0 Z = true) (ws : List Jvm.Cond)   (h0 : Heap) (n0 : Nat) (Z0 : n0 ≤ h0.size) :
    MetFree l (⟨"java/lang/Math", "min", "(II)I"⟩ : MethodName) (head1 (Jvm.Cond.code (⟨"java/lang/Math", "min", "(II)I"⟩ : MethodName) jdk_29_method_69_code 2 (some .int) :: ws) ({ frames := 0, cells := 0, slots := 0, locals := 0 } : Room)) (fun a U => a = #[(.int (10 : Int32)), (.int (3 : Int32))] ∧ Z.Warmed39 U.vm ∧ U.heap = h0) (fun _ _ _ _ _ => True) (fun _ U o U' => ∃ v L, o = .returned v ∧ own_QMn3 Z  h0 n0 v U'.heap L ∧ FrameEnd U o U' L ({ frames := 0, cells := 0, slots := 0, locals := 0 } : Room).cells ({ frames := 0, cells := 0, slots := 0, locals := 0 } : Room).slots) := by
  refine MetFree.of_bodySF (Jvm.Free.JP.mathPlain rfl (by decide +kernel)) hisR ?_
  intro p e s m args below meth c s₁ Bd hml0 hP hK
  obtain ⟨rfl, hZ, hh⟩ := hP
  have hx := Bd.exec
  have hby := Bd.bytes
  have hml : c.maxLocals = 2 := hml0
  have hown : s.vm.findClass "java/lang/Math" = some m.cls := findClass_of_methodNamed Bd.named
  have hnm := (name_of_methodNamed Bd.named Bd.method).1
  have X0 : Stand p l e ({ frames := 0, cells := 0, slots := 0, locals := 0 } : Room) s m #[(.int (10 : Int32)), (.int (3 : Int32))] below meth c s₁ [] 0 0 := Stand.of_body Bd
  have e0 : s₁.heap = h0 := by rw [← hh, Bd.state]; rfl
  have N0 := Fr.nil n0
  show own_F p e below (fun o U' => ∃ v L, o = .returned v ∧ own_QMn3 Z  h0 n0 v U'.heap L ∧ FrameEnd s o U' L ({ frames := 0, cells := 0, slots := 0, locals := 0 } : Room).cells ({ frames := 0, cells := 0, slots := 0, locals := 0 } : Room).slots) s₁ (entryFrame m #[(.int (10 : Int32)), (.int (3 : Int32))] 2)
  rw [own_efMn3 m ]
  refine own_go (T' := s₁) (g' := (mkF m 1 #[.val (.int (10 : Int32)), .val (.int (3 : Int32))] [(.int (10 : Int32))])) (fun _ k => XS.iloadN X0.here hx rfl (hb hby own_dMn3_0) rfl k) ?_
  refine own_go (T' := s₁) (g' := (mkF m 2 #[.val (.int (10 : Int32)), .val (.int (3 : Int32))] [(.int (3 : Int32)), (.int (10 : Int32))])) (fun _ k => XS.iloadN X0.here hx rfl (hb hby own_dMn3_1) rfl k) ?_
  refine own_go (T' := s₁) (g' := (mkF m 9 #[.val (.int (10 : Int32)), .val (.int (3 : Int32))] [])) (fun _ k => XS.icmpYes X0.here hx rfl (pc0 := 2) (pc' := 9) rfl (hb hby own_dMn3_2) rfl (tlt ((by decide) : (3 : Int32) < (10 : Int32))).2.2.1 (by decide) (by decide) k) ?_
  refine own_go (T' := s₁) (g' := (mkF m 10 #[.val (.int (10 : Int32)), .val (.int (3 : Int32))] [(.int (3 : Int32))])) (fun _ k => XS.iloadN X0.here hx rfl (hb hby own_dMn3_9) rfl k) ?_
  obtain ⟨fs, hr, hrun, hended, hW, hsame⟩ := X0.leave (v := some (.int (3 : Int32))) (fun h => by rw [Bd.returns] at h; cases h)
  refine own_end (retOut X0 hx Bd.returns rfl (Or.inl ⟨rfl, Or.inl rfl, _, rfl⟩) (hb hby own_dMn3_10) hr) hrun hended ⟨_, _, rfl, (?_ : own_QMn3 Z  h0 n0 _ s₁.heap _), ⟨_, rfl⟩, hW, hsame.mono (by decide) (by decide)⟩
  rw [e0]
  exact ⟨rfl, N0, rfl⟩
theorem own_dC31_0 : decode jdk_65_method_120_code 0 = .ok (.aload_n 2, 1) := by decide +kernel
theorem own_dC31_1 : decode jdk_65_method_120_code 1 = .ok (.ldc 110, 2) := by decide +kernel
theorem own_dC31_3 : decode jdk_65_method_120_code 3 = .ok (.if_acmp .ne 10, 3) := by decide +kernel
theorem own_dC31_6 : decode jdk_65_method_120_code 6 = .ok (.iload_n 1, 1) := by decide +kernel
theorem own_dC31_7 : decode jdk_65_method_120_code 7 = .ok (.anewarray 2, 3) := by decide +kernel
theorem own_dC31_10 : decode jdk_65_method_120_code 10 = .ok (.goto 14, 3) := by decide +kernel
theorem own_dC31_24 : decode jdk_65_method_120_code 24 = .ok (.astore_n 3, 1) := by decide +kernel
theorem own_dC31_25 : decode jdk_65_method_120_code 25 = .ok (.aload_n 0, 1) := by decide +kernel
theorem own_dC31_26 : decode jdk_65_method_120_code 26 = .ok (.iconst 0, 1) := by decide +kernel
theorem own_dC31_27 : decode jdk_65_method_120_code 27 = .ok (.aload_n 3, 1) := by decide +kernel
theorem own_dC31_28 : decode jdk_65_method_120_code 28 = .ok (.iconst 0, 1) := by decide +kernel
theorem own_dC31_29 : decode jdk_65_method_120_code 29 = .ok (.aload_n 0, 1) := by decide +kernel
theorem own_dC31_30 : decode jdk_65_method_120_code 30 = .ok (.arraylength, 1) := by decide +kernel
theorem own_dC31_31 : decode jdk_65_method_120_code 31 = .ok (.iload_n 1, 1) := by decide +kernel
theorem own_dC31_32 : decode jdk_65_method_120_code 32 = .ok (.invokestatic 304, 3) := by decide +kernel
theorem own_dC31_35 : decode jdk_65_method_120_code 35 = .ok (.invokestatic 150, 3) := by decide +kernel
theorem own_dC31_38 : decode jdk_65_method_120_code 38 = .ok (.aload_n 3, 1) := by decide +kernel
theorem own_dC31_39 : decode jdk_65_method_120_code 39 = .ok (.areturn, 1) := by decide +kernel
theorem own_efC31 (m : MethodId) (xa : Addr) (xm : Addr) : entryFrame m #[(.ref xa), (.int (1 : Int32)), (.ref xm)] 4 = mkF m 0 #[.val (.ref xa), .val (.int (1 : Int32)), .val (.ref xm), .unset] [] := by first | (simp [entryFrame, mkF, argsToLocals, Value.category]; done) | rfl
def own_QC31 (Z : State) (xa : Addr) (xm : Addr) (ka : ClassId) (y0 : Addr) (h0 : Heap) (n0 : Nat) (v : Option Value) (h : Heap) (L : List Loc) : Prop := v = v ∧ Fr n0 L ∧ Keep h0 h [] ∧ own_SK Z h0 h ∧ ∃ r kr, v = some (.ref r) ∧ h0.size ≤ r ∧ own_A Z h r kr (.object "java/lang/Object") [(.ref y0)]
theorem own_pn10 : plainName "java/util/Arrays" = true := by first | (simp [plainName, overriddenIn]; done) | decide +kernel
set_option maxRecDepth 65536 in
set_option maxHeartbeats 40000000 in
theorem own_rC31 (l : Launch) (Z : State) (a0 : Array Value) (hw : ∀ d ∈ tables_1, d.before a0 Z = true) (ws : List Jvm.Cond) (xa : Addr) (xm : Addr) (ka : ClassId) (y0 : Addr) (h0 : Heap) (n0 : Nat) (Z0 : n0 ≤ h0.size) (Va : own_A Z h0 xa ka (.object "java/lang/Object") [(.ref y0), .null, .null, .null, .null, .null, .null, .null, .null, .null]) (M : own_Mir Z "[Ljava/lang/Object;" xm) (Ey0 : Exa Z h0 y0 "java/time/Duration") :
    MetFree l (⟨"java/util/Arrays", "copyOf", "([Ljava/lang/Object;ILjava/lang/Class;)[Ljava/lang/Object;"⟩ : MethodName) (head1 (Jvm.Cond.code (⟨"java/util/Arrays", "copyOf", "([Ljava/lang/Object;ILjava/lang/Class;)[Ljava/lang/Object;"⟩ : MethodName) jdk_65_method_120_code 4 (some (.array (.object "java/lang/Object"))) :: ws) ({ frames := 1, cells := 1, slots := 1, locals := 60 } : Room)) (fun a U => a = #[(.ref xa), (.int (1 : Int32)), (.ref xm)] ∧ Z.Warmed39 U.vm ∧ U.heap = h0) (fun _ _ _ _ _ => True) (fun _ U o U' => ∃ v L, o = .returned v ∧ own_QC31 Z xa xm ka y0 h0 n0 v U'.heap L ∧ FrameEnd U o U' L ({ frames := 1, cells := 1, slots := 1, locals := 60 } : Room).cells ({ frames := 1, cells := 1, slots := 1, locals := 60 } : Room).slots) := by
  refine MetFree.of_bodySF (plainFor_of_name own_pn10) hisR ?_
  intro p e s m args below meth c s₁ Bd hml0 hP hK
  obtain ⟨rfl, hZ, hh⟩ := hP
  have hx := Bd.exec
  have hby := Bd.bytes
  have hml : c.maxLocals = 4 := hml0
  have hown : s.vm.findClass "java/util/Arrays" = some m.cls := findClass_of_methodNamed Bd.named
  have hnm := (name_of_methodNamed Bd.named Bd.method).1
  have X0 : Stand p l e ({ frames := 1, cells := 1, slots := 1, locals := 60 } : Room) s m #[(.ref xa), (.int (1 : Int32)), (.ref xm)] below meth c s₁ [] 0 0 := Stand.of_body Bd
  have e0 : s₁.heap = h0 := by rw [← hh, Bd.state]; rfl
  have N0 := Fr.nil n0
  show own_F p e below (fun o U' => ∃ v L, o = .returned v ∧ own_QC31 Z xa xm ka y0 h0 n0 v U'.heap L ∧ FrameEnd s o U' L ({ frames := 1, cells := 1, slots := 1, locals := 60 } : Room).cells ({ frames := 1, cells := 1, slots := 1, locals := 60 } : Room).slots) s₁ (entryFrame m #[(.ref xa), (.int (1 : Int32)), (.ref xm)] 4)
  rw [own_efC31 m xa xm]
  refine own_go (T' := s₁) (g' := (mkF m 1 #[.val (.ref xa), .val (.int (1 : Int32)), .val (.ref xm), .unset] [(.ref xm)])) (fun _ k => XS.aloadN X0.here hx rfl (hb hby own_dC31_0) rfl rfl k) ?_
  obtain ⟨vm1, X1, st1⟩ := X0.ldcMirror hx hown (mvT hZ (hw _ (List.mem_of_getElem? (i := 155) rfl))) (own_mirS hZ M) (g := (mkF m 1 #[.val (.ref xa), .val (.int (1 : Int32)), .val (.ref xm), .unset] [(.ref xm)])) rfl (hb hby own_dC31_1)
  have e1 : (s₁.setVm vm1).heap = h0 := e0
  refine own_go (T' := (s₁.setVm vm1)) (g' := (mkF m 3 #[.val (.ref xa), .val (.int (1 : Int32)), .val (.ref xm), .unset] [(.ref xm), (.ref xm)])) (fun _ k => st1 _ k) ?_
  refine own_go (T' := (s₁.setVm vm1)) (g' := (mkF m 6 #[.val (.ref xa), .val (.int (1 : Int32)), .val (.ref xm), .unset] [])) (fun _ k => Jvm.RoadKit.acmp (g := (mkF m 3 #[.val (.ref xa), .val (.int (1 : Int32)), .val (.ref xm), .unset] [(.ref xm), (.ref xm)])) X1 hx rfl rfl rfl (pc0 := 3) (pc' := 6) (same := true) rfl (hb hby own_dC31_3) rfl (decide_eq_true rfl) (by decide) (by decide) k) ?_
  refine own_go (T' := (s₁.setVm vm1)) (g' := (mkF m 7 #[.val (.ref xa), .val (.int (1 : Int32)), .val (.ref xm), .unset] [(.int (1 : Int32))])) (fun _ k => XS.iloadN X1.here hx rfl (hb hby own_dC31_6) rfl k) ?_
  obtain ⟨T2, h2, k2, X2, e2, E2, A2, Ea2, Ov2, st2⟩ := newRE X1 hx hZ hown (hw _ (List.mem_of_getElem? (i := 156) rfl)) (hw _ (List.mem_of_getElem? (i := 132) rfl)) e1 (g := (mkF m 7 #[.val (.ref xa), .val (.int (1 : Int32)), .val (.ref xm), .unset] [(.int (1 : Int32))])) rfl (hb hby own_dC31_7) rfl (by decide) (cap := 1) (by decide) (by decide) (by decide) (by decide) (ad := "[Ljava/lang/Object;") rfl
  obtain ⟨b2, g2⟩ : ∃ z, z = h0.size := ⟨_, rfl⟩
  rw [← g2] at A2 Ea2 st2
  have ne_xa_b2 : xa ≠ b2 := Nat.ne_of_lt (Nat.lt_of_lt_of_le Va.lt (Nat.le_of_eq g2.symm))
  have ne_y0_b2 : y0 ≠ b2 := Nat.ne_of_lt (Nat.lt_of_lt_of_le Ey0.lt (Nat.le_of_eq g2.symm))
  have gz_b2 : n0 ≤ b2 := Nat.le_trans Z0 (Nat.le_of_eq g2.symm)
  have hz_b2 : h0.size ≤ b2 := Nat.le_trans (Keep.refl h0 []).1 (Nat.le_of_eq g2.symm)
  have Vk3 := Va.ext E2
  have Ek4 := Ey0.ext E2
  have Z2 : n0 ≤ h2.size := Nat.le_trans Z0 E2.1
  have K2 : Keep h0 h2 [] := (Keep.refl h0 []).ext E2
  have SK2 : own_SK Z h0 h2 := (own_SK.rf Z h0).ext E2
  have V2 : own_A Z h2 b2 k2 (.object "java/lang/Object") [.null] := own_A.new A2 (N := 1) rfl
  refine own_go (T' := T2) (g' := (mkF m 10 #[.val (.ref xa), .val (.int (1 : Int32)), .val (.ref xm), .unset] [(.ref b2)])) (fun _ k => st2 _ k) ?_
  refine own_go (T' := T2) (g' := (mkF m 24 #[.val (.ref xa), .val (.int (1 : Int32)), .val (.ref xm), .unset] [(.ref b2)])) (fun _ k => XS.goto X2.here hx rfl (pc0 := 10) (pc' := 24) rfl (hb hby own_dC31_10) (by decide) (by decide) k) ?_
  refine own_go (T' := T2) (g' := (mkF m 25 #[.val (.ref xa), .val (.int (1 : Int32)), .val (.ref xm), .val (.ref b2)] [])) (fun _ k => XS.astoreN X2.here hx rfl (hb hby own_dC31_24) rfl rfl (l' := #[.val (.ref xa), .val (.int (1 : Int32)), .val (.ref xm), .val (.ref b2)]) rfl k) ?_
  refine own_go (T' := T2) (g' := (mkF m 26 #[.val (.ref xa), .val (.int (1 : Int32)), .val (.ref xm), .val (.ref b2)] [(.ref xa)])) (fun _ k => XS.aloadN X2.here hx rfl (hb hby own_dC31_25) rfl rfl k) ?_
  refine own_go (T' := T2) (g' := (mkF m 27 #[.val (.ref xa), .val (.int (1 : Int32)), .val (.ref xm), .val (.ref b2)] [(.int (0 : Int32)), (.ref xa)])) (fun _ k => XS.iconst X2.here hx rfl (hb hby own_dC31_26) k) ?_
  refine own_go (T' := T2) (g' := (mkF m 28 #[.val (.ref xa), .val (.int (1 : Int32)), .val (.ref xm), .val (.ref b2)] [(.ref b2), (.int (0 : Int32)), (.ref xa)])) (fun _ k => XS.aloadN X2.here hx rfl (hb hby own_dC31_27) rfl rfl k) ?_
  refine own_go (T' := T2) (g' := (mkF m 29 #[.val (.ref xa), .val (.int (1 : Int32)), .val (.ref xm), .val (.ref b2)] [(.int (0 : Int32)), (.ref b2), (.int (0 : Int32)), (.ref xa)])) (fun _ k => XS.iconst X2.here hx rfl (hb hby own_dC31_28) k) ?_
  refine own_go (T' := T2) (g' := (mkF m 30 #[.val (.ref xa), .val (.int (1 : Int32)), .val (.ref xm), .val (.ref b2)] [(.ref xa), (.int (0 : Int32)), (.ref b2), (.int (0 : Int32)), (.ref xa)])) (fun _ k => XS.aloadN X2.here hx rfl (hb hby own_dC31_29) rfl rfl k) ?_
  refine own_go (T' := T2) (g' := (mkF m 31 #[.val (.ref xa), .val (.int (1 : Int32)), .val (.ref xm), .val (.ref b2)] [(.int (10 : Int32)), (.int (0 : Int32)), (.ref b2), (.int (0 : Int32)), (.ref xa)])) (fun _ k => own_alen X2 hx hZ e2 Vk3 (g := (mkF m 30 #[.val (.ref xa), .val (.int (1 : Int32)), .val (.ref xm), .val (.ref b2)] [(.ref xa), (.int (0 : Int32)), (.ref b2), (.int (0 : Int32)), (.ref xa)])) rfl rfl (hb hby own_dC31_30) (n := (10 : Int32)) rfl k) ?_
  refine own_go (T' := T2) (g' := (mkF m 32 #[.val (.ref xa), .val (.int (1 : Int32)), .val (.ref xm), .val (.ref b2)] [(.int (1 : Int32)), (.int (10 : Int32)), (.int (0 : Int32)), (.ref b2), (.int (0 : Int32)), (.ref xa)])) (fun _ k => XS.iloadN X2.here hx rfl (hb hby own_dC31_31) rfl k) ?_
  obtain ⟨_, _, ⟨T5, L5, k5, n5⟩, -, X5, ⟨Lc5, hQ5, l5, y5, z5⟩, st5⟩ := Jvm.LawKit.callS X2 hx (y := (⟨"java/lang/Math", "min", "(II)I"⟩ : MethodName)) hown (mvT hZ (hw _ (List.mem_of_getElem? (i := 157) rfl))) (mvT hZ (hw _ (List.mem_of_getElem? (i := 158) rfl))) (mvT hZ (hw _ (List.mem_of_getElem? (i := 129) rfl))) (mvT hZ (hw _ (List.mem_of_getElem? (i := 159) rfl))) (by decide) (backOf (W := 4) (own_rMn1 l Z a0 hw []  h2 n0 Z2 ) hZ (hw _ (List.mem_of_getElem? (i := 159) rfl)) (hw _ (List.mem_of_getElem? (i := 129) rfl)) (by decide) (by decide)) (g := (mkF m 32 #[.val (.ref xa), .val (.int (1 : Int32)), .val (.ref xm), .val (.ref b2)] [(.int (1 : Int32)), (.int (10 : Int32)), (.int (0 : Int32)), (.ref b2), (.int (0 : Int32)), (.ref xa)])) rfl (by rw [hml]; rfl) (argsL := [(.int (10 : Int32)), (.int (1 : Int32))]) (rest := [(.int (0 : Int32)), (.ref b2), (.int (0 : Int32)), (.ref xa)]) (lenOf own_pd1 rfl) rfl (by show 2 * 0 + _ ≤ _; exact Nat.le_of_eq rfl) (hb hby own_dC31_32) (fun _ _ => ⟨rfl, e2, (by decide : 1 + 0 ≤ _), (by decide : 1 + 0 ≤ _)⟩)
  dsimp only [Pt.U, Pt.locs, Pt.cells, Pt.slots] at X5 l5 y5 z5 st5 hQ5
  subst l5 y5 z5
  obtain ⟨rfl, N5q, e5⟩ := hQ5
  have N5 := Fr.app N0 N5q
  refine own_go (T' := T5) (g' := (mkF m 35 #[.val (.ref xa), .val (.int (1 : Int32)), .val (.ref xm), .val (.ref b2)] [(.int (1 : Int32)), (.int (0 : Int32)), (.ref b2), (.int (0 : Int32)), (.ref xa)])) (fun _ k => st5 _ k) ?_
  obtain ⟨T6, h6, L6, X6, e6, N6, Kc6, V6, st6⟩ := cpA X5 hx hZ hown (hw _ (List.mem_of_getElem? (i := 160) rfl)) (hw _ (List.mem_of_getElem? (i := 163) rfl)) (hw _ (List.mem_of_getElem? (i := 161) rfl)) (hw _ (List.mem_of_getElem? (i := 162) rfl)) e5 (own_A.arv (z := 10) (d := .null) Vk3 (by decide) rfl (by intro v hv; simp only [List.mem_cons, List.not_mem_nil, or_false] at hv; rcases hv with rfl | rfl | rfl | rfl | rfl | rfl | rfl | rfl | rfl | rfl <;> rfl)) (own_A.arv (z := 1) (d := .null) V2 (by decide) rfl (by intro v hv; simp only [List.mem_cons, List.not_mem_nil, or_false] at hv; rcases hv with rfl <;> rfl)) (us := [(.ref y0)]) (Or.inr ⟨rfl, rfl, ⟨own_A.sto V2 Ov2 (Ins.of_exa Ek4 (hw _ (List.mem_of_getElem? (i := 133) rfl))), trivial⟩⟩) (sp := 0) (dp := 0) (nn := 1) (by decide) (by decide) (by decide) (by decide) (by decide) rfl (Nat.le_of_ble_eq_true rfl) N5 gz_b2 (g := (mkF m 35 #[.val (.ref xa), .val (.int (1 : Int32)), .val (.ref xm), .val (.ref b2)] [(.int (1 : Int32)), (.int (0 : Int32)), (.ref b2), (.int (0 : Int32)), (.ref xa)])) rfl (by rw [hml]; rfl) (rest := []) rfl (hb hby own_dC31_35) (by decide) (W := 0) (by show 2 * 0 + _ ≤ _; exact Nat.le_of_eq rfl) (by decide)
  have Va6 : own_A Z h6 b2 k2 (.object "java/lang/Object") [(.ref y0)] := own_A.of_arv V6 rfl
  have SKc6 : own_SK Z h2 h6 := own_skeep Kc6 V2
  have Vk7 := Vk3.keep Kc6 (own_one ne_xa_b2)
  have Ek8 := Ek4.keep Kc6
  have K6 : Keep h0 h6 [] := K2.trans Kc6 (own_or1 (Or.inr hz_b2))
  have SK6 := SK2.tr SKc6
  refine own_go (T' := T6) (g' := (mkF m 38 #[.val (.ref xa), .val (.int (1 : Int32)), .val (.ref xm), .val (.ref b2)] [])) (fun _ k => st6 _ k) ?_
  refine own_go (T' := T6) (g' := (mkF m 39 #[.val (.ref xa), .val (.int (1 : Int32)), .val (.ref xm), .val (.ref b2)] [(.ref b2)])) (fun _ k => XS.aloadN X6.here hx rfl (hb hby own_dC31_38) rfl rfl k) ?_
  obtain ⟨fs, hr, hrun, hended, hW, hsame⟩ := X6.leave (v := some (.ref b2)) (fun h => by rw [Bd.returns] at h; cases h)
  refine own_end (retOut X6 hx Bd.returns rfl (Or.inr (Or.inr (Or.inr (Or.inr ⟨rfl, rfl, rfl⟩)))) (hb hby own_dC31_39) hr) hrun hended ⟨_, _, rfl, (?_ : own_QC31 Z xa xm ka y0 h0 n0 _ T6.heap _), ⟨_, rfl⟩, hW, hsame.mono (by decide) (by decide)⟩
  rw [e6]
  exact ⟨rfl, N6, K6, SK6, b2, k2, rfl, hz_b2, Va6⟩
theorem own_pd8 : parseMethodDescriptor "([Ljava/lang/Object;ILjava/lang/Class;)[Ljava/lang/Object;" = some ⟨[(.array (.object "java/lang/Object")), .int, (.object "java/lang/Class")], some (.array (.object "java/lang/Object"))⟩ := by decide +kernel
theorem own_dC21_0 : decode jdk_65_method_119_code 0 = .ok (.aload_n 0, 1) := by decide +kernel
theorem own_dC21_1 : decode jdk_65_method_119_code 1 = .ok (.iload_n 1, 1) := by decide +kernel
theorem own_dC21_2 : decode jdk_65_method_119_code 2 = .ok (.aload_n 0, 1) := by decide +kernel
theorem own_dC21_3 : decode jdk_65_method_119_code 3 = .ok (.invokevirtual 86, 3) := by decide +kernel
theorem own_dC21_6 : decode jdk_65_method_119_code 6 = .ok (.invokestatic 300, 3) := by decide +kernel
theorem own_dC21_9 : decode jdk_65_method_119_code 9 = .ok (.areturn, 1) := by decide +kernel
theorem own_efC21 (m : MethodId) (xa : Addr) : entryFrame m #[(.ref xa), (.int (1 : Int32))] 2 = mkF m 0 #[.val (.ref xa), .val (.int (1 : Int32))] [] := by first | (simp [entryFrame, mkF, argsToLocals, Value.category]; done) | rfl
def own_QC21 (Z : State) (xa : Addr) (ka : ClassId) (xm : Addr) (y0 : Addr) (h0 : Heap) (n0 : Nat) (v : Option Value) (h : Heap) (L : List Loc) : Prop := v = v ∧ Fr n0 L ∧ Keep h0 h [] ∧ own_SK Z h0 h ∧ ∃ r kr, v = some (.ref r) ∧ h0.size ≤ r ∧ own_A Z h r kr (.object "java/lang/Object") [(.ref y0)]
set_option maxRecDepth 65536 in
set_option maxHeartbeats 40000000 in
theorem own_rC21 (l : Launch) (Z : State) (a0 : Array Value) (hw : ∀ d ∈ tables_1, d.before a0 Z = true) (ws : List Jvm.Cond) (xa : Addr) (ka : ClassId) (xm : Addr) (y0 : Addr) (h0 : Heap) (n0 : Nat) (Z0 : n0 ≤ h0.size) (Va : own_A Z h0 xa ka (.object "java/lang/Object") [(.ref y0), .null, .null, .null, .null, .null, .null, .null, .null, .null]) (M : own_Mir Z "[Ljava/lang/Object;" xm) (Eo : Exa Z h0 xa "[Ljava/lang/Object;") (Ey0 : Exa Z h0 y0 "java/time/Duration") :
    MetFree l (⟨"java/util/Arrays", "copyOf", "([Ljava/lang/Object;I)[Ljava/lang/Object;"⟩ : MethodName) (head1 (Jvm.Cond.code (⟨"java/util/Arrays", "copyOf", "([Ljava/lang/Object;I)[Ljava/lang/Object;"⟩ : MethodName) jdk_65_method_119_code 2 (some (.array (.object "java/lang/Object"))) :: ws) ({ frames := 2, cells := 1, slots := 1, locals := 90 } : Room)) (fun a U => a = #[(.ref xa), (.int (1 : Int32))] ∧ Z.Warmed39 U.vm ∧ U.heap = h0) (fun _ _ _ _ _ => True) (fun _ U o U' => ∃ v L, o = .returned v ∧ own_QC21 Z xa ka xm y0 h0 n0 v U'.heap L ∧ FrameEnd U o U' L ({ frames := 2, cells := 1, slots := 1, locals := 90 } : Room).cells ({ frames := 2, cells := 1, slots := 1, locals := 90 } : Room).slots) := by
  refine MetFree.of_bodySF (plainFor_of_name own_pn10) hisR ?_
  intro p e s m args below meth c s₁ Bd hml0 hP hK
  obtain ⟨rfl, hZ, hh⟩ := hP
  have hx := Bd.exec
  have hby := Bd.bytes
  have hml : c.maxLocals = 2 := hml0
  have hown : s.vm.findClass "java/util/Arrays" = some m.cls := findClass_of_methodNamed Bd.named
  have hnm := (name_of_methodNamed Bd.named Bd.method).1
  have X0 : Stand p l e ({ frames := 2, cells := 1, slots := 1, locals := 90 } : Room) s m #[(.ref xa), (.int (1 : Int32))] below meth c s₁ [] 0 0 := Stand.of_body Bd
  have e0 : s₁.heap = h0 := by rw [← hh, Bd.state]; rfl
  have N0 := Fr.nil n0
  show own_F p e below (fun o U' => ∃ v L, o = .returned v ∧ own_QC21 Z xa ka xm y0 h0 n0 v U'.heap L ∧ FrameEnd s o U' L ({ frames := 2, cells := 1, slots := 1, locals := 90 } : Room).cells ({ frames := 2, cells := 1, slots := 1, locals := 90 } : Room).slots) s₁ (entryFrame m #[(.ref xa), (.int (1 : Int32))] 2)
  rw [own_efC21 m xa]
  refine own_go (T' := s₁) (g' := (mkF m 1 #[.val (.ref xa), .val (.int (1 : Int32))] [(.ref xa)])) (fun _ k => XS.aloadN X0.here hx rfl (hb hby own_dC21_0) rfl rfl k) ?_
  refine own_go (T' := s₁) (g' := (mkF m 2 #[.val (.ref xa), .val (.int (1 : Int32))] [(.int (1 : Int32)), (.ref xa)])) (fun _ k => XS.iloadN X0.here hx rfl (hb hby own_dC21_1) rfl k) ?_
  refine own_go (T' := s₁) (g' := (mkF m 3 #[.val (.ref xa), .val (.int (1 : Int32))] [(.ref xa), (.int (1 : Int32)), (.ref xa)])) (fun _ k => XS.aloadN X0.here hx rfl (hb hby own_dC21_2) rfl rfl k) ?_
  obtain ⟨T1, X1, e1, st1⟩ := own_gcls X0 hx hZ hown (hw _ (List.mem_of_getElem? (i := 146) rfl)) (hw _ (List.mem_of_getElem? (i := 147) rfl)) (hw _ (List.mem_of_getElem? (i := 68) rfl)) (hw _ (List.mem_of_getElem? (i := 149) rfl)) (hw _ (List.mem_of_getElem? (i := 148) rfl)) (hw _ (List.mem_of_getElem? (i := 150) rfl)) e0 Eo M (g := (mkF m 3 #[.val (.ref xa), .val (.int (1 : Int32))] [(.ref xa), (.int (1 : Int32)), (.ref xa)])) rfl (by rw [hml]; rfl) (rest := [(.int (1 : Int32)), (.ref xa)]) rfl (hb hby own_dC21_3) (by decide) (W := 2) (by show 2 * 0 + _ ≤ _; exact Nat.le_of_eq rfl) (by decide)
  refine own_go (T' := T1) (g' := (mkF m 6 #[.val (.ref xa), .val (.int (1 : Int32))] [(.ref xm), (.int (1 : Int32)), (.ref xa)])) (fun _ k => st1 _ k) ?_
  obtain ⟨_, _, ⟨T2, L2, k2, n2⟩, -, X2, ⟨Lc2, hQ2, l2, y2, z2⟩, st2⟩ := Jvm.LawKit.callS X1 hx (y := (⟨"java/util/Arrays", "copyOf", "([Ljava/lang/Object;ILjava/lang/Class;)[Ljava/lang/Object;"⟩ : MethodName)) hown (mvT hZ (hw _ (List.mem_of_getElem? (i := 152) rfl))) (mvT hZ (hw _ (List.mem_of_getElem? (i := 153) rfl))) (mvT hZ (hw _ (List.mem_of_getElem? (i := 144) rfl))) (mvT hZ (hw _ (List.mem_of_getElem? (i := 154) rfl))) (by decide) (backOf (W := 0) (own_rC31 l Z a0 hw [] xa xm ka y0 h0 n0 Z0 Va M Ey0) hZ (hw _ (List.mem_of_getElem? (i := 154) rfl)) (hw _ (List.mem_of_getElem? (i := 144) rfl)) (by decide) (by decide)) (g := (mkF m 6 #[.val (.ref xa), .val (.int (1 : Int32))] [(.ref xm), (.int (1 : Int32)), (.ref xa)])) rfl (by rw [hml]; rfl) (argsL := [(.ref xa), (.int (1 : Int32)), (.ref xm)]) (rest := []) (lenOf own_pd8 rfl) rfl (by show 2 * 0 + _ ≤ _; exact Nat.le_of_eq rfl) (hb hby own_dC21_6) (fun _ _ => ⟨rfl, e1, (by decide : 0 + 1 ≤ _), (by decide : 0 + 1 ≤ _)⟩)
  dsimp only [Pt.U, Pt.locs, Pt.cells, Pt.slots] at X2 l2 y2 z2 st2 hQ2
  subst l2 y2 z2
  obtain ⟨-, N2q, Kc2, SKc2, r2, kr2, rfl, hzr2, Vc2⟩ := hQ2
  have N2 := Fr.app N0 N2q
  have gz_r2 : n0 ≤ r2 := Nat.le_trans Z0 hzr2
  have hz_r2 : h0.size ≤ r2 := Nat.le_trans (Keep.refl h0 []).1 hzr2
  have Z2 : n0 ≤ T2.heap.size := Nat.le_trans Z0 Kc2.1
  have SK2 : own_SK Z h0 T2.heap := (own_SK.rf Z h0).tr SKc2
  have K2 : Keep h0 T2.heap [] := (Keep.refl h0 []).trans Kc2 (fun x hx => nomatch hx)
  refine own_go (T' := T2) (g' := (mkF m 9 #[.val (.ref xa), .val (.int (1 : Int32))] [(.ref r2)])) (fun _ k => st2 _ k) ?_
  obtain ⟨fs, hr, hrun, hended, hW, hsame⟩ := X2.leave (v := some (.ref r2)) (fun h => by rw [Bd.returns] at h; cases h)
  refine own_end (retOut X2 hx Bd.returns rfl (Or.inr (Or.inr (Or.inr (Or.inr ⟨rfl, rfl, rfl⟩)))) (hb hby own_dC21_9) hr) hrun hended ⟨_, _, rfl, (?_ : own_QC21 Z xa ka xm y0 h0 n0 _ T2.heap _), ⟨_, rfl⟩, hW, hsame.mono (by decide) (by decide)⟩
  exact ⟨rfl, N2, K2, SK2, r2, kr2, rfl, hz_r2, Vc2⟩
theorem own_pd9 : parseMethodDescriptor "([Ljava/lang/Object;I)[Ljava/lang/Object;" = some ⟨[(.array (.object "java/lang/Object")), .int], some (.array (.object "java/lang/Object"))⟩ := by decide +kernel
theorem own_dTa1_0 : decode jdk_38_method_16_code 0 = .ok (.aload_n 0, 1) := by decide +kernel
theorem own_dTa1_1 : decode jdk_38_method_16_code 1 = .ok (.getfield 9, 3) := by decide +kernel
theorem own_dTa1_4 : decode jdk_38_method_16_code 4 = .ok (.aload_n 0, 1) := by decide +kernel
theorem own_dTa1_5 : decode jdk_38_method_16_code 5 = .ok (.getfield 48, 3) := by decide +kernel
theorem own_dTa1_8 : decode jdk_38_method_16_code 8 = .ok (.invokestatic 66, 3) := by decide +kernel
theorem own_dTa1_11 : decode jdk_38_method_16_code 11 = .ok (.areturn, 1) := by decide +kernel
theorem own_efTa1 (m : MethodId) (xo : Addr) : entryFrame m #[(.ref xo)] 1 = mkF m 0 #[.val (.ref xo)] [] := by first | (simp [entryFrame, mkF, argsToLocals, Value.category]; done) | rfl
def own_QTa1 (Z : State) (xo : Addr) (xa : Addr) (ka : ClassId) (xm : Addr) (y0 : Addr) (h0 : Heap) (n0 : Nat) (v : Option Value) (h : Heap) (L : List Loc) : Prop := v = v ∧ Fr n0 L ∧ Keep h0 h [] ∧ own_SK Z h0 h ∧ ∃ r kr, v = some (.ref r) ∧ h0.size ≤ r ∧ own_A Z h r kr (.object "java/lang/Object") [(.ref y0)]
set_option maxRecDepth 65536 in
set_option maxHeartbeats 40000000 in
theorem own_rTa1 (l : Launch) (Z : State) (a0 : Array Value) (hw : ∀ d ∈ tables_1, d.before a0 Z = true) (ws : List Jvm.Cond) (xo : Addr) (xa : Addr) (ka : ClassId) (xm : Addr) (y0 : Addr) (h0 : Heap) (n0 : Nat) (Z0 : n0 ≤ h0.size) (Fe : Fld Z h0 xo "java/util/ArrayList" "elementData" "[Ljava/lang/Object;" (.ref xa)) (Fs : Fld Z h0 xo "java/util/ArrayList" "size" "I" (.int (1 : Int32))) (Va : own_A Z h0 xa ka (.object "java/lang/Object") [(.ref y0), .null, .null, .null, .null, .null, .null, .null, .null, .null]) (M : own_Mir Z "[Ljava/lang/Object;" xm) (Eo : Exa Z h0 xa "[Ljava/lang/Object;") (Ey0 : Exa Z h0 y0 "java/time/Duration") :
    MetFree l (⟨"java/util/ArrayList", "toArray", "()[Ljava/lang/Object;"⟩ : MethodName) (head1 (Jvm.Cond.code (⟨"java/util/ArrayList", "toArray", "()[Ljava/lang/Object;"⟩ : MethodName) jdk_38_method_16_code 1 (some (.array (.object "java/lang/Object"))) :: ws) ({ frames := 3, cells := 1, slots := 1, locals := 103 } : Room)) (fun a U => a = #[(.ref xo)] ∧ Z.Warmed39 U.vm ∧ U.heap = h0) (fun _ _ _ _ _ => True) (fun _ U o U' => ∃ v L, o = .returned v ∧ own_QTa1 Z xo xa ka xm y0 h0 n0 v U'.heap L ∧ FrameEnd U o U' L ({ frames := 3, cells := 1, slots := 1, locals := 103 } : Room).cells ({ frames := 3, cells := 1, slots := 1, locals := 103 } : Room).slots) := by
  refine MetFree.of_bodySF (plainFor_of_name own_pn2) hisR ?_
  intro p e s m args below meth c s₁ Bd hml0 hP hK
  obtain ⟨rfl, hZ, hh⟩ := hP
  have hx := Bd.exec
  have hby := Bd.bytes
  have hml : c.maxLocals = 1 := hml0
  have hown : s.vm.findClass "java/util/ArrayList" = some m.cls := findClass_of_methodNamed Bd.named
  have hnm := (name_of_methodNamed Bd.named Bd.method).1
  have X0 : Stand p l e ({ frames := 3, cells := 1, slots := 1, locals := 103 } : Room) s m #[(.ref xo)] below meth c s₁ [] 0 0 := Stand.of_body Bd
  have e0 : s₁.heap = h0 := by rw [← hh, Bd.state]; rfl
  have N0 := Fr.nil n0
  show own_F p e below (fun o U' => ∃ v L, o = .returned v ∧ own_QTa1 Z xo xa ka xm y0 h0 n0 v U'.heap L ∧ FrameEnd s o U' L ({ frames := 3, cells := 1, slots := 1, locals := 103 } : Room).cells ({ frames := 3, cells := 1, slots := 1, locals := 103 } : Room).slots) s₁ (entryFrame m #[(.ref xo)] 1)
  rw [own_efTa1 m xo]
  refine own_go (T' := s₁) (g' := (mkF m 1 #[.val (.ref xo)] [(.ref xo)])) (fun _ k => XS.aloadN X0.here hx rfl (hb hby own_dTa1_0) rfl rfl k) ?_
  obtain ⟨T1, X1, e1, st1⟩ := getF X0 hx hZ hown (host := "") (Or.inl (hw _ (List.mem_of_getElem? (i := 42) rfl))) Via.refl e0 Fe (g := (mkF m 1 #[.val (.ref xo)] [(.ref xo)])) rfl rfl (hb hby own_dTa1_1)
  refine own_go (T' := T1) (g' := (mkF m 4 #[.val (.ref xo)] [(.ref xa)])) (fun _ k => st1 _ k) ?_
  refine own_go (T' := T1) (g' := (mkF m 5 #[.val (.ref xo)] [(.ref xo), (.ref xa)])) (fun _ k => XS.aloadN X1.here hx rfl (hb hby own_dTa1_4) rfl rfl k) ?_
  obtain ⟨T2, X2, e2, st2⟩ := getF X1 hx hZ hown (host := "") (Or.inl (hw _ (List.mem_of_getElem? (i := 79) rfl))) Via.refl e1 Fs (g := (mkF m 5 #[.val (.ref xo)] [(.ref xo), (.ref xa)])) rfl rfl (hb hby own_dTa1_5)
  refine own_go (T' := T2) (g' := (mkF m 8 #[.val (.ref xo)] [(.int (1 : Int32)), (.ref xa)])) (fun _ k => st2 _ k) ?_
  obtain ⟨_, _, ⟨T3, L3, k3, n3⟩, -, X3, ⟨Lc3, hQ3, l3, y3, z3⟩, st3⟩ := Jvm.LawKit.callS X2 hx (y := (⟨"java/util/Arrays", "copyOf", "([Ljava/lang/Object;I)[Ljava/lang/Object;"⟩ : MethodName)) hown (mvT hZ (hw _ (List.mem_of_getElem? (i := 142) rfl))) (mvT hZ (hw _ (List.mem_of_getElem? (i := 143) rfl))) (mvT hZ (hw _ (List.mem_of_getElem? (i := 144) rfl))) (mvT hZ (hw _ (List.mem_of_getElem? (i := 145) rfl))) (by decide) (backOf (W := 0) (own_rC21 l Z a0 hw [] xa ka xm y0 h0 n0 Z0 Va M Eo Ey0) hZ (hw _ (List.mem_of_getElem? (i := 145) rfl)) (hw _ (List.mem_of_getElem? (i := 144) rfl)) (by decide) (by decide)) (g := (mkF m 8 #[.val (.ref xo)] [(.int (1 : Int32)), (.ref xa)])) rfl (by rw [hml]; rfl) (argsL := [(.ref xa), (.int (1 : Int32))]) (rest := []) (lenOf own_pd9 rfl) rfl (by show 2 * 0 + _ ≤ _; exact Nat.le_of_eq rfl) (hb hby own_dTa1_8) (fun _ _ => ⟨rfl, e2, (by decide : 0 + 1 ≤ _), (by decide : 0 + 1 ≤ _)⟩)
  dsimp only [Pt.U, Pt.locs, Pt.cells, Pt.slots] at X3 l3 y3 z3 st3 hQ3
  subst l3 y3 z3
  obtain ⟨-, N3q, Kc3, SKc3, r3, kr3, rfl, hzr3, Vc3⟩ := hQ3
  have N3 := Fr.app N0 N3q
  have gz_r3 : n0 ≤ r3 := Nat.le_trans Z0 hzr3
  have hz_r3 : h0.size ≤ r3 := Nat.le_trans (Keep.refl h0 []).1 hzr3
  have Z3 : n0 ≤ T3.heap.size := Nat.le_trans Z0 Kc3.1
  have SK3 : own_SK Z h0 T3.heap := (own_SK.rf Z h0).tr SKc3
  have K3 : Keep h0 T3.heap [] := (Keep.refl h0 []).trans Kc3 (fun x hx => nomatch hx)
  refine own_go (T' := T3) (g' := (mkF m 11 #[.val (.ref xo)] [(.ref r3)])) (fun _ k => st3 _ k) ?_
  obtain ⟨fs, hr, hrun, hended, hW, hsame⟩ := X3.leave (v := some (.ref r3)) (fun h => by rw [Bd.returns] at h; cases h)
  refine own_end (retOut X3 hx Bd.returns rfl (Or.inr (Or.inr (Or.inr (Or.inr ⟨rfl, rfl, rfl⟩)))) (hb hby own_dTa1_11) hr) hrun hended ⟨_, _, rfl, (?_ : own_QTa1 Z xo xa ka xm y0 h0 n0 _ T3.heap _), ⟨_, rfl⟩, hW, hsame.mono (by decide) (by decide)⟩
  exact ⟨rfl, N3, K3, SK3, r3, kr3, rfl, hz_r3, Vc3⟩
theorem own_dC32_0 : decode jdk_65_method_120_code 0 = .ok (.aload_n 2, 1) := by decide +kernel
theorem own_dC32_1 : decode jdk_65_method_120_code 1 = .ok (.ldc 110, 2) := by decide +kernel
theorem own_dC32_3 : decode jdk_65_method_120_code 3 = .ok (.if_acmp .ne 10, 3) := by decide +kernel
theorem own_dC32_6 : decode jdk_65_method_120_code 6 = .ok (.iload_n 1, 1) := by decide +kernel
theorem own_dC32_7 : decode jdk_65_method_120_code 7 = .ok (.anewarray 2, 3) := by decide +kernel
theorem own_dC32_10 : decode jdk_65_method_120_code 10 = .ok (.goto 14, 3) := by decide +kernel
theorem own_dC32_24 : decode jdk_65_method_120_code 24 = .ok (.astore_n 3, 1) := by decide +kernel
theorem own_dC32_25 : decode jdk_65_method_120_code 25 = .ok (.aload_n 0, 1) := by decide +kernel
theorem own_dC32_26 : decode jdk_65_method_120_code 26 = .ok (.iconst 0, 1) := by decide +kernel
theorem own_dC32_27 : decode jdk_65_method_120_code 27 = .ok (.aload_n 3, 1) := by decide +kernel
theorem own_dC32_28 : decode jdk_65_method_120_code 28 = .ok (.iconst 0, 1) := by decide +kernel
theorem own_dC32_29 : decode jdk_65_method_120_code 29 = .ok (.aload_n 0, 1) := by decide +kernel
theorem own_dC32_30 : decode jdk_65_method_120_code 30 = .ok (.arraylength, 1) := by decide +kernel
theorem own_dC32_31 : decode jdk_65_method_120_code 31 = .ok (.iload_n 1, 1) := by decide +kernel
theorem own_dC32_32 : decode jdk_65_method_120_code 32 = .ok (.invokestatic 304, 3) := by decide +kernel
theorem own_dC32_35 : decode jdk_65_method_120_code 35 = .ok (.invokestatic 150, 3) := by decide +kernel
theorem own_dC32_38 : decode jdk_65_method_120_code 38 = .ok (.aload_n 3, 1) := by decide +kernel
theorem own_dC32_39 : decode jdk_65_method_120_code 39 = .ok (.areturn, 1) := by decide +kernel
theorem own_efC32 (m : MethodId) (xa : Addr) (xm : Addr) : entryFrame m #[(.ref xa), (.int (2 : Int32)), (.ref xm)] 4 = mkF m 0 #[.val (.ref xa), .val (.int (2 : Int32)), .val (.ref xm), .unset] [] := by first | (simp [entryFrame, mkF, argsToLocals, Value.category]; done) | rfl
def own_QC32 (Z : State) (xa : Addr) (xm : Addr) (ka : ClassId) (y0 : Addr) (y1 : Addr) (h0 : Heap) (n0 : Nat) (v : Option Value) (h : Heap) (L : List Loc) : Prop := v = v ∧ Fr n0 L ∧ Keep h0 h [] ∧ own_SK Z h0 h ∧ ∃ r kr, v = some (.ref r) ∧ h0.size ≤ r ∧ own_A Z h r kr (.object "java/lang/Object") [(.ref y0), (.ref y1)]
set_option maxRecDepth 65536 in
set_option maxHeartbeats 40000000 in
theorem own_rC32 (l : Launch) (Z : State) (a0 : Array Value) (hw : ∀ d ∈ tables_1, d.before a0 Z = true) (ws : List Jvm.Cond) (xa : Addr) (xm : Addr) (ka : ClassId) (y0 : Addr) (y1 : Addr) (h0 : Heap) (n0 : Nat) (Z0 : n0 ≤ h0.size) (Va : own_A Z h0 xa ka (.object "java/lang/Object") [(.ref y0), (.ref y1), .null, .null, .null, .null, .null, .null, .null, .null]) (M : own_Mir Z "[Ljava/lang/Object;" xm) (Ey0 : Exa Z h0 y0 "java/time/Duration") (Ey1 : Exa Z h0 y1 "java/time/Duration") :
    MetFree l (⟨"java/util/Arrays", "copyOf", "([Ljava/lang/Object;ILjava/lang/Class;)[Ljava/lang/Object;"⟩ : MethodName) (head1 (Jvm.Cond.code (⟨"java/util/Arrays", "copyOf", "([Ljava/lang/Object;ILjava/lang/Class;)[Ljava/lang/Object;"⟩ : MethodName) jdk_65_method_120_code 4 (some (.array (.object "java/lang/Object"))) :: ws) ({ frames := 1, cells := 1, slots := 2, locals := 60 } : Room)) (fun a U => a = #[(.ref xa), (.int (2 : Int32)), (.ref xm)] ∧ Z.Warmed39 U.vm ∧ U.heap = h0) (fun _ _ _ _ _ => True) (fun _ U o U' => ∃ v L, o = .returned v ∧ own_QC32 Z xa xm ka y0 y1 h0 n0 v U'.heap L ∧ FrameEnd U o U' L ({ frames := 1, cells := 1, slots := 2, locals := 60 } : Room).cells ({ frames := 1, cells := 1, slots := 2, locals := 60 } : Room).slots) := by
  refine MetFree.of_bodySF (plainFor_of_name own_pn10) hisR ?_
  intro p e s m args below meth c s₁ Bd hml0 hP hK
  obtain ⟨rfl, hZ, hh⟩ := hP
  have hx := Bd.exec
  have hby := Bd.bytes
  have hml : c.maxLocals = 4 := hml0
  have hown : s.vm.findClass "java/util/Arrays" = some m.cls := findClass_of_methodNamed Bd.named
  have hnm := (name_of_methodNamed Bd.named Bd.method).1
  have X0 : Stand p l e ({ frames := 1, cells := 1, slots := 2, locals := 60 } : Room) s m #[(.ref xa), (.int (2 : Int32)), (.ref xm)] below meth c s₁ [] 0 0 := Stand.of_body Bd
  have e0 : s₁.heap = h0 := by rw [← hh, Bd.state]; rfl
  have N0 := Fr.nil n0
  show own_F p e below (fun o U' => ∃ v L, o = .returned v ∧ own_QC32 Z xa xm ka y0 y1 h0 n0 v U'.heap L ∧ FrameEnd s o U' L ({ frames := 1, cells := 1, slots := 2, locals := 60 } : Room).cells ({ frames := 1, cells := 1, slots := 2, locals := 60 } : Room).slots) s₁ (entryFrame m #[(.ref xa), (.int (2 : Int32)), (.ref xm)] 4)
  rw [own_efC32 m xa xm]
  refine own_go (T' := s₁) (g' := (mkF m 1 #[.val (.ref xa), .val (.int (2 : Int32)), .val (.ref xm), .unset] [(.ref xm)])) (fun _ k => XS.aloadN X0.here hx rfl (hb hby own_dC32_0) rfl rfl k) ?_
  obtain ⟨vm1, X1, st1⟩ := X0.ldcMirror hx hown (mvT hZ (hw _ (List.mem_of_getElem? (i := 155) rfl))) (own_mirS hZ M) (g := (mkF m 1 #[.val (.ref xa), .val (.int (2 : Int32)), .val (.ref xm), .unset] [(.ref xm)])) rfl (hb hby own_dC32_1)
  have e1 : (s₁.setVm vm1).heap = h0 := e0
  refine own_go (T' := (s₁.setVm vm1)) (g' := (mkF m 3 #[.val (.ref xa), .val (.int (2 : Int32)), .val (.ref xm), .unset] [(.ref xm), (.ref xm)])) (fun _ k => st1 _ k) ?_
  refine own_go (T' := (s₁.setVm vm1)) (g' := (mkF m 6 #[.val (.ref xa), .val (.int (2 : Int32)), .val (.ref xm), .unset] [])) (fun _ k => Jvm.RoadKit.acmp (g := (mkF m 3 #[.val (.ref xa), .val (.int (2 : Int32)), .val (.ref xm), .unset] [(.ref xm), (.ref xm)])) X1 hx rfl rfl rfl (pc0 := 3) (pc' := 6) (same := true) rfl (hb hby own_dC32_3) rfl (decide_eq_true rfl) (by decide) (by decide) k) ?_
  refine own_go (T' := (s₁.setVm vm1)) (g' := (mkF m 7 #[.val (.ref xa), .val (.int (2 : Int32)), .val (.ref xm), .unset] [(.int (2 : Int32))])) (fun _ k => XS.iloadN X1.here hx rfl (hb hby own_dC32_6) rfl k) ?_
  obtain ⟨T2, h2, k2, X2, e2, E2, A2, Ea2, Ov2, st2⟩ := newRE X1 hx hZ hown (hw _ (List.mem_of_getElem? (i := 156) rfl)) (hw _ (List.mem_of_getElem? (i := 132) rfl)) e1 (g := (mkF m 7 #[.val (.ref xa), .val (.int (2 : Int32)), .val (.ref xm), .unset] [(.int (2 : Int32))])) rfl (hb hby own_dC32_7) rfl (by decide) (cap := 2) (by decide) (by decide) (by decide) (by decide) (ad := "[Ljava/lang/Object;") rfl
  obtain ⟨b2, g2⟩ : ∃ z, z = h0.size := ⟨_, rfl⟩
  rw [← g2] at A2 Ea2 st2
  have ne_xa_b2 : xa ≠ b2 := Nat.ne_of_lt (Nat.lt_of_lt_of_le Va.lt (Nat.le_of_eq g2.symm))
  have ne_y0_b2 : y0 ≠ b2 := Nat.ne_of_lt (Nat.lt_of_lt_of_le Ey0.lt (Nat.le_of_eq g2.symm))
  have ne_y1_b2 : y1 ≠ b2 := Nat.ne_of_lt (Nat.lt_of_lt_of_le Ey1.lt (Nat.le_of_eq g2.symm))
  have gz_b2 : n0 ≤ b2 := Nat.le_trans Z0 (Nat.le_of_eq g2.symm)
  have hz_b2 : h0.size ≤ b2 := Nat.le_trans (Keep.refl h0 []).1 (Nat.le_of_eq g2.symm)
  have Vk3 := Va.ext E2
  have Ek4 := Ey0.ext E2
  have Ek5 := Ey1.ext E2
  have Z2 : n0 ≤ h2.size := Nat.le_trans Z0 E2.1
  have K2 : Keep h0 h2 [] := (Keep.refl h0 []).ext E2
  have SK2 : own_SK Z h0 h2 := (own_SK.rf Z h0).ext E2
  have V2 : own_A Z h2 b2 k2 (.object "java/lang/Object") [.null, .null] := own_A.new A2 (N := 2) rfl
  refine own_go (T' := T2) (g' := (mkF m 10 #[.val (.ref xa), .val (.int (2 : Int32)), .val (.ref xm), .unset] [(.ref b2)])) (fun _ k => st2 _ k) ?_
  refine own_go (T' := T2) (g' := (mkF m 24 #[.val (.ref xa), .val (.int (2 : Int32)), .val (.ref xm), .unset] [(.ref b2)])) (fun _ k => XS.goto X2.here hx rfl (pc0 := 10) (pc' := 24) rfl (hb hby own_dC32_10) (by decide) (by decide) k) ?_
  refine own_go (T' := T2) (g' := (mkF m 25 #[.val (.ref xa), .val (.int (2 : Int32)), .val (.ref xm), .val (.ref b2)] [])) (fun _ k => XS.astoreN X2.here hx rfl (hb hby own_dC32_24) rfl rfl (l' := #[.val (.ref xa), .val (.int (2 : Int32)), .val (.ref xm), .val (.ref b2)]) rfl k) ?_
  refine own_go (T' := T2) (g' := (mkF m 26 #[.val (.ref xa), .val (.int (2 : Int32)), .val (.ref xm), .val (.ref b2)] [(.ref xa)])) (fun _ k => XS.aloadN X2.here hx rfl (hb hby own_dC32_25) rfl rfl k) ?_
  refine own_go (T' := T2) (g' := (mkF m 27 #[.val (.ref xa), .val (.int (2 : Int32)), .val (.ref xm), .val (.ref b2)] [(.int (0 : Int32)), (.ref xa)])) (fun _ k => XS.iconst X2.here hx rfl (hb hby own_dC32_26) k) ?_
  refine own_go (T' := T2) (g' := (mkF m 28 #[.val (.ref xa), .val (.int (2 : Int32)), .val (.ref xm), .val (.ref b2)] [(.ref b2), (.int (0 : Int32)), (.ref xa)])) (fun _ k => XS.aloadN X2.here hx rfl (hb hby own_dC32_27) rfl rfl k) ?_
  refine own_go (T' := T2) (g' := (mkF m 29 #[.val (.ref xa), .val (.int (2 : Int32)), .val (.ref xm), .val (.ref b2)] [(.int (0 : Int32)), (.ref b2), (.int (0 : Int32)), (.ref xa)])) (fun _ k => XS.iconst X2.here hx rfl (hb hby own_dC32_28) k) ?_
  refine own_go (T' := T2) (g' := (mkF m 30 #[.val (.ref xa), .val (.int (2 : Int32)), .val (.ref xm), .val (.ref b2)] [(.ref xa), (.int (0 : Int32)), (.ref b2), (.int (0 : Int32)), (.ref xa)])) (fun _ k => XS.aloadN X2.here hx rfl (hb hby own_dC32_29) rfl rfl k) ?_
  refine own_go (T' := T2) (g' := (mkF m 31 #[.val (.ref xa), .val (.int (2 : Int32)), .val (.ref xm), .val (.ref b2)] [(.int (10 : Int32)), (.int (0 : Int32)), (.ref b2), (.int (0 : Int32)), (.ref xa)])) (fun _ k => own_alen X2 hx hZ e2 Vk3 (g := (mkF m 30 #[.val (.ref xa), .val (.int (2 : Int32)), .val (.ref xm), .val (.ref b2)] [(.ref xa), (.int (0 : Int32)), (.ref b2), (.int (0 : Int32)), (.ref xa)])) rfl rfl (hb hby own_dC32_30) (n := (10 : Int32)) rfl k) ?_
  refine own_go (T' := T2) (g' := (mkF m 32 #[.val (.ref xa), .val (.int (2 : Int32)), .val (.ref xm), .val (.ref b2)] [(.int (2 : Int32)), (.int (10 : Int32)), (.int (0 : Int32)), (.ref b2), (.int (0 : Int32)), (.ref xa)])) (fun _ k => XS.iloadN X2.here hx rfl (hb hby own_dC32_31) rfl k) ?_
  obtain ⟨_, _, ⟨T6, L6, k6, n6⟩, -, X6, ⟨Lc6, hQ6, l6, y6, z6⟩, st6⟩ := Jvm.LawKit.callS X2 hx (y := (⟨"java/lang/Math", "min", "(II)I"⟩ : MethodName)) hown (mvT hZ (hw _ (List.mem_of_getElem? (i := 157) rfl))) (mvT hZ (hw _ (List.mem_of_getElem? (i := 158) rfl))) (mvT hZ (hw _ (List.mem_of_getElem? (i := 129) rfl))) (mvT hZ (hw _ (List.mem_of_getElem? (i := 159) rfl))) (by decide) (backOf (W := 4) (own_rMn2 l Z a0 hw []  h2 n0 Z2 ) hZ (hw _ (List.mem_of_getElem? (i := 159) rfl)) (hw _ (List.mem_of_getElem? (i := 129) rfl)) (by decide) (by decide)) (g := (mkF m 32 #[.val (.ref xa), .val (.int (2 : Int32)), .val (.ref xm), .val (.ref b2)] [(.int (2 : Int32)), (.int (10 : Int32)), (.int (0 : Int32)), (.ref b2), (.int (0 : Int32)), (.ref xa)])) rfl (by rw [hml]; rfl) (argsL := [(.int (10 : Int32)), (.int (2 : Int32))]) (rest := [(.int (0 : Int32)), (.ref b2), (.int (0 : Int32)), (.ref xa)]) (lenOf own_pd1 rfl) rfl (by show 2 * 0 + _ ≤ _; exact Nat.le_of_eq rfl) (hb hby own_dC32_32) (fun _ _ => ⟨rfl, e2, (by decide : 1 + 0 ≤ _), (by decide : 2 + 0 ≤ _)⟩)
  dsimp only [Pt.U, Pt.locs, Pt.cells, Pt.slots] at X6 l6 y6 z6 st6 hQ6
  subst l6 y6 z6
  obtain ⟨rfl, N6q, e6⟩ := hQ6
  have N6 := Fr.app N0 N6q
  refine own_go (T' := T6) (g' := (mkF m 35 #[.val (.ref xa), .val (.int (2 : Int32)), .val (.ref xm), .val (.ref b2)] [(.int (2 : Int32)), (.int (0 : Int32)), (.ref b2), (.int (0 : Int32)), (.ref xa)])) (fun _ k => st6 _ k) ?_
  obtain ⟨T7, h7, L7, X7, e7, N7, Kc7, V7, st7⟩ := cpA X6 hx hZ hown (hw _ (List.mem_of_getElem? (i := 160) rfl)) (hw _ (List.mem_of_getElem? (i := 163) rfl)) (hw _ (List.mem_of_getElem? (i := 161) rfl)) (hw _ (List.mem_of_getElem? (i := 162) rfl)) e6 (own_A.arv (z := 10) (d := .null) Vk3 (by decide) rfl (by intro v hv; simp only [List.mem_cons, List.not_mem_nil, or_false] at hv; rcases hv with rfl | rfl | rfl | rfl | rfl | rfl | rfl | rfl | rfl | rfl <;> rfl)) (own_A.arv (z := 2) (d := .null) V2 (by decide) rfl (by intro v hv; simp only [List.mem_cons, List.not_mem_nil, or_false] at hv; rcases hv with rfl | rfl <;> rfl)) (us := [(.ref y0), (.ref y1)]) (Or.inr ⟨rfl, rfl, ⟨own_A.sto V2 Ov2 (Ins.of_exa Ek4 (hw _ (List.mem_of_getElem? (i := 133) rfl))), ⟨own_A.sto V2 Ov2 (Ins.of_exa Ek5 (hw _ (List.mem_of_getElem? (i := 133) rfl))), trivial⟩⟩⟩) (sp := 0) (dp := 0) (nn := 2) (by decide) (by decide) (by decide) (by decide) (by decide) rfl (Nat.le_of_ble_eq_true rfl) N6 gz_b2 (g := (mkF m 35 #[.val (.ref xa), .val (.int (2 : Int32)), .val (.ref xm), .val (.ref b2)] [(.int (2 : Int32)), (.int (0 : Int32)), (.ref b2), (.int (0 : Int32)), (.ref xa)])) rfl (by rw [hml]; rfl) (rest := []) rfl (hb hby own_dC32_35) (by decide) (W := 0) (by show 2 * 0 + _ ≤ _; exact Nat.le_of_eq rfl) (by decide)
  have Va7 : own_A Z h7 b2 k2 (.object "java/lang/Object") [(.ref y0), (.ref y1)] := own_A.of_arv V7 rfl
  have SKc7 : own_SK Z h2 h7 := own_skeep Kc7 V2
  have Vk8 := Vk3.keep Kc7 (own_one ne_xa_b2)
  have Ek9 := Ek4.keep Kc7
  have Ek10 := Ek5.keep Kc7
  have K7 : Keep h0 h7 [] := K2.trans Kc7 (own_or1 (Or.inr hz_b2))
  have SK7 := SK2.tr SKc7
  refine own_go (T' := T7) (g' := (mkF m 38 #[.val (.ref xa), .val (.int (2 : Int32)), .val (.ref xm), .val (.ref b2)] [])) (fun _ k => st7 _ k) ?_
  refine own_go (T' := T7) (g' := (mkF m 39 #[.val (.ref xa), .val (.int (2 : Int32)), .val (.ref xm), .val (.ref b2)] [(.ref b2)])) (fun _ k => XS.aloadN X7.here hx rfl (hb hby own_dC32_38) rfl rfl k) ?_
  obtain ⟨fs, hr, hrun, hended, hW, hsame⟩ := X7.leave (v := some (.ref b2)) (fun h => by rw [Bd.returns] at h; cases h)
  refine own_end (retOut X7 hx Bd.returns rfl (Or.inr (Or.inr (Or.inr (Or.inr ⟨rfl, rfl, rfl⟩)))) (hb hby own_dC32_39) hr) hrun hended ⟨_, _, rfl, (?_ : own_QC32 Z xa xm ka y0 y1 h0 n0 _ T7.heap _), ⟨_, rfl⟩, hW, hsame.mono (by decide) (by decide)⟩
  rw [e7]
  exact ⟨rfl, N7, K7, SK7, b2, k2, rfl, hz_b2, Va7⟩
theorem own_dC22_0 : decode jdk_65_method_119_code 0 = .ok (.aload_n 0, 1) := by decide +kernel
theorem own_dC22_1 : decode jdk_65_method_119_code 1 = .ok (.iload_n 1, 1) := by decide +kernel
theorem own_dC22_2 : decode jdk_65_method_119_code 2 = .ok (.aload_n 0, 1) := by decide +kernel
theorem own_dC22_3 : decode jdk_65_method_119_code 3 = .ok (.invokevirtual 86, 3) := by decide +kernel
theorem own_dC22_6 : decode jdk_65_method_119_code 6 = .ok (.invokestatic 300, 3) := by decide +kernel
theorem own_dC22_9 : decode jdk_65_method_119_code 9 = .ok (.areturn, 1) := by decide +kernel
theorem own_efC22 (m : MethodId) (xa : Addr) : entryFrame m #[(.ref xa), (.int (2 : Int32))] 2 = mkF m 0 #[.val (.ref xa), .val (.int (2 : Int32))] [] := by first | (simp [entryFrame, mkF, argsToLocals, Value.category]; done) | rfl
def own_QC22 (Z : State) (xa : Addr) (ka : ClassId) (xm : Addr) (y0 : Addr) (y1 : Addr) (h0 : Heap) (n0 : Nat) (v : Option Value) (h : Heap) (L : List Loc) : Prop := v = v ∧ Fr n0 L ∧ Keep h0 h [] ∧ own_SK Z h0 h ∧ ∃ r kr, v = some (.ref r) ∧ h0.size ≤ r ∧ own_A Z h r kr (.object "java/lang/Object") [(.ref y0), (.ref y1)]
set_option maxRecDepth 65536 in
set_option maxHeartbeats 40000000 in
theorem own_rC22 (l : Launch) (Z : State) (a0 : Array Value) (hw : ∀ d ∈ tables_1, d.before a0 Z = true) (ws : List Jvm.Cond) (xa : Addr) (ka : ClassId) (xm : Addr) (y0 : Addr) (y1 : Addr) (h0 : Heap) (n0 : Nat) (Z0 : n0 ≤ h0.size) (Va : own_A Z h0 xa ka (.object "java/lang/Object") [(.ref y0), (.ref y1), .null, .null, .null, .null, .null, .null, .null, .null]) (M : own_Mir Z "[Ljava/lang/Object;" xm) (Eo : Exa Z h0 xa "[Ljava/lang/Object;") (Ey0 : Exa Z h0 y0 "java/time/Duration") (Ey1 : Exa Z h0 y1 "java/time/Duration") :
    MetFree l (⟨"java/util/Arrays", "copyOf", "([Ljava/lang/Object;I)[Ljava/lang/Object;"⟩ : MethodName) (head1 (Jvm.Cond.code (⟨"java/util/Arrays", "copyOf", "([Ljava/lang/Object;I)[Ljava/lang/Object;"⟩ : MethodName) jdk_65_method_119_code 2 (some (.array (.object "java/lang/Object"))) :: ws) ({ frames := 2, cells := 1, slots := 2, locals := 90 } : Room)) (fun a U => a = #[(.ref xa), (.int (2 : Int32))] ∧ Z.Warmed39 U.vm ∧ U.heap = h0) (fun _ _ _ _ _ => True) (fun _ U o U' => ∃ v L, o = .returned v ∧ own_QC22 Z xa ka xm y0 y1 h0 n0 v U'.heap L ∧ FrameEnd U o U' L ({ frames := 2, cells := 1, slots := 2, locals := 90 } : Room).cells ({ frames := 2, cells := 1, slots := 2, locals := 90 } : Room).slots) := by
  refine MetFree.of_bodySF (plainFor_of_name own_pn10) hisR ?_
  intro p e s m args below meth c s₁ Bd hml0 hP hK
  obtain ⟨rfl, hZ, hh⟩ := hP
  have hx := Bd.exec
  have hby := Bd.bytes
  have hml : c.maxLocals = 2 := hml0
  have hown : s.vm.findClass "java/util/Arrays" = some m.cls := findClass_of_methodNamed Bd.named
  have hnm := (name_of_methodNamed Bd.named Bd.method).1
  have X0 : Stand p l e ({ frames := 2, cells := 1, slots := 2, locals := 90 } : Room) s m #[(.ref xa), (.int (2 : Int32))] below meth c s₁ [] 0 0 := Stand.of_body Bd
  have e0 : s₁.heap = h0 := by rw [← hh, Bd.state]; rfl
  have N0 := Fr.nil n0
  show own_F p e below (fun o U' => ∃ v L, o = .returned v ∧ own_QC22 Z xa ka xm y0 y1 h0 n0 v U'.heap L ∧ FrameEnd s o U' L ({ frames := 2, cells := 1, slots := 2, locals := 90 } : Room).cells ({ frames := 2, cells := 1, slots := 2, locals := 90 } : Room).slots) s₁ (entryFrame m #[(.ref xa), (.int (2 : Int32))] 2)
  rw [own_efC22 m xa]
  refine own_go (T' := s₁) (g' := (mkF m 1 #[.val (.ref xa), .val (.int (2 : Int32))] [(.ref xa)])) (fun _ k => XS.aloadN X0.here hx rfl (hb hby own_dC22_0) rfl rfl k) ?_
  refine own_go (T' := s₁) (g' := (mkF m 2 #[.val (.ref xa), .val (.int (2 : Int32))] [(.int (2 : Int32)), (.ref xa)])) (fun _ k => XS.iloadN X0.here hx rfl (hb hby own_dC22_1) rfl k) ?_
  refine own_go (T' := s₁) (g' := (mkF m 3 #[.val (.ref xa), .val (.int (2 : Int32))] [(.ref xa), (.int (2 : Int32)), (.ref xa)])) (fun _ k => XS.aloadN X0.here hx rfl (hb hby own_dC22_2) rfl rfl k) ?_
  obtain ⟨T1, X1, e1, st1⟩ := own_gcls X0 hx hZ hown (hw _ (List.mem_of_getElem? (i := 146) rfl)) (hw _ (List.mem_of_getElem? (i := 147) rfl)) (hw _ (List.mem_of_getElem? (i := 68) rfl)) (hw _ (List.mem_of_getElem? (i := 149) rfl)) (hw _ (List.mem_of_getElem? (i := 148) rfl)) (hw _ (List.mem_of_getElem? (i := 150) rfl)) e0 Eo M (g := (mkF m 3 #[.val (.ref xa), .val (.int (2 : Int32))] [(.ref xa), (.int (2 : Int32)), (.ref xa)])) rfl (by rw [hml]; rfl) (rest := [(.int (2 : Int32)), (.ref xa)]) rfl (hb hby own_dC22_3) (by decide) (W := 2) (by show 2 * 0 + _ ≤ _; exact Nat.le_of_eq rfl) (by decide)
  refine own_go (T' := T1) (g' := (mkF m 6 #[.val (.ref xa), .val (.int (2 : Int32))] [(.ref xm), (.int (2 : Int32)), (.ref xa)])) (fun _ k => st1 _ k) ?_
  obtain ⟨_, _, ⟨T2, L2, k2, n2⟩, -, X2, ⟨Lc2, hQ2, l2, y2, z2⟩, st2⟩ := Jvm.LawKit.callS X1 hx (y := (⟨"java/util/Arrays", "copyOf", "([Ljava/lang/Object;ILjava/lang/Class;)[Ljava/lang/Object;"⟩ : MethodName)) hown (mvT hZ (hw _ (List.mem_of_getElem? (i := 152) rfl))) (mvT hZ (hw _ (List.mem_of_getElem? (i := 153) rfl))) (mvT hZ (hw _ (List.mem_of_getElem? (i := 144) rfl))) (mvT hZ (hw _ (List.mem_of_getElem? (i := 154) rfl))) (by decide) (backOf (W := 0) (own_rC32 l Z a0 hw [] xa xm ka y0 y1 h0 n0 Z0 Va M Ey0 Ey1) hZ (hw _ (List.mem_of_getElem? (i := 154) rfl)) (hw _ (List.mem_of_getElem? (i := 144) rfl)) (by decide) (by decide)) (g := (mkF m 6 #[.val (.ref xa), .val (.int (2 : Int32))] [(.ref xm), (.int (2 : Int32)), (.ref xa)])) rfl (by rw [hml]; rfl) (argsL := [(.ref xa), (.int (2 : Int32)), (.ref xm)]) (rest := []) (lenOf own_pd8 rfl) rfl (by show 2 * 0 + _ ≤ _; exact Nat.le_of_eq rfl) (hb hby own_dC22_6) (fun _ _ => ⟨rfl, e1, (by decide : 0 + 1 ≤ _), (by decide : 0 + 2 ≤ _)⟩)
  dsimp only [Pt.U, Pt.locs, Pt.cells, Pt.slots] at X2 l2 y2 z2 st2 hQ2
  subst l2 y2 z2
  obtain ⟨-, N2q, Kc2, SKc2, r2, kr2, rfl, hzr2, Vc2⟩ := hQ2
  have N2 := Fr.app N0 N2q
  have gz_r2 : n0 ≤ r2 := Nat.le_trans Z0 hzr2
  have hz_r2 : h0.size ≤ r2 := Nat.le_trans (Keep.refl h0 []).1 hzr2
  have Z2 : n0 ≤ T2.heap.size := Nat.le_trans Z0 Kc2.1
  have SK2 : own_SK Z h0 T2.heap := (own_SK.rf Z h0).tr SKc2
  have K2 : Keep h0 T2.heap [] := (Keep.refl h0 []).trans Kc2 (fun x hx => nomatch hx)
  refine own_go (T' := T2) (g' := (mkF m 9 #[.val (.ref xa), .val (.int (2 : Int32))] [(.ref r2)])) (fun _ k => st2 _ k) ?_
  obtain ⟨fs, hr, hrun, hended, hW, hsame⟩ := X2.leave (v := some (.ref r2)) (fun h => by rw [Bd.returns] at h; cases h)
  refine own_end (retOut X2 hx Bd.returns rfl (Or.inr (Or.inr (Or.inr (Or.inr ⟨rfl, rfl, rfl⟩)))) (hb hby own_dC22_9) hr) hrun hended ⟨_, _, rfl, (?_ : own_QC22 Z xa ka xm y0 y1 h0 n0 _ T2.heap _), ⟨_, rfl⟩, hW, hsame.mono (by decide) (by decide)⟩
  exact ⟨rfl, N2, K2, SK2, r2, kr2, rfl, hz_r2, Vc2⟩
theorem own_dTa2_0 : decode jdk_38_method_16_code 0 = .ok (.aload_n 0, 1) := by decide +kernel
theorem own_dTa2_1 : decode jdk_38_method_16_code 1 = .ok (.getfield 9, 3) := by decide +kernel
theorem own_dTa2_4 : decode jdk_38_method_16_code 4 = .ok (.aload_n 0, 1) := by decide +kernel
theorem own_dTa2_5 : decode jdk_38_method_16_code 5 = .ok (.getfield 48, 3) := by decide +kernel
theorem own_dTa2_8 : decode jdk_38_method_16_code 8 = .ok (.invokestatic 66, 3) := by decide +kernel
theorem own_dTa2_11 : decode jdk_38_method_16_code 11 = .ok (.areturn, 1) := by decide +kernel
theorem own_efTa2 (m : MethodId) (xo : Addr) : entryFrame m #[(.ref xo)] 1 = mkF m 0 #[.val (.ref xo)] [] := by first | (simp [entryFrame, mkF, argsToLocals, Value.category]; done) | rfl
def own_QTa2 (Z : State) (xo : Addr) (xa : Addr) (ka : ClassId) (xm : Addr) (y0 : Addr) (y1 : Addr) (h0 : Heap) (n0 : Nat) (v : Option Value) (h : Heap) (L : List Loc) : Prop := v = v ∧ Fr n0 L ∧ Keep h0 h [] ∧ own_SK Z h0 h ∧ ∃ r kr, v = some (.ref r) ∧ h0.size ≤ r ∧ own_A Z h r kr (.object "java/lang/Object") [(.ref y0), (.ref y1)]
set_option maxRecDepth 65536 in
set_option maxHeartbeats 40000000 in
theorem own_rTa2 (l : Launch) (Z : State) (a0 : Array Value) (hw : ∀ d ∈ tables_1, d.before a0 Z = true) (ws : List Jvm.Cond) (xo : Addr) (xa : Addr) (ka : ClassId) (xm : Addr) (y0 : Addr) (y1 : Addr) (h0 : Heap) (n0 : Nat) (Z0 : n0 ≤ h0.size) (Fe : Fld Z h0 xo "java/util/ArrayList" "elementData" "[Ljava/lang/Object;" (.ref xa)) (Fs : Fld Z h0 xo "java/util/ArrayList" "size" "I" (.int (2 : Int32))) (Va : own_A Z h0 xa ka (.object "java/lang/Object") [(.ref y0), (.ref y1), .null, .null, .null, .null, .null, .null, .null, .null]) (M : own_Mir Z "[Ljava/lang/Object;" xm) (Eo : Exa Z h0 xa "[Ljava/lang/Object;") (Ey0 : Exa Z h0 y0 "java/time/Duration") (Ey1 : Exa Z h0 y1 "java/time/Duration") :
    MetFree l (⟨"java/util/ArrayList", "toArray", "()[Ljava/lang/Object;"⟩ : MethodName) (head1 (Jvm.Cond.code (⟨"java/util/ArrayList", "toArray", "()[Ljava/lang/Object;"⟩ : MethodName) jdk_38_method_16_code 1 (some (.array (.object "java/lang/Object"))) :: ws) ({ frames := 3, cells := 1, slots := 2, locals := 103 } : Room)) (fun a U => a = #[(.ref xo)] ∧ Z.Warmed39 U.vm ∧ U.heap = h0) (fun _ _ _ _ _ => True) (fun _ U o U' => ∃ v L, o = .returned v ∧ own_QTa2 Z xo xa ka xm y0 y1 h0 n0 v U'.heap L ∧ FrameEnd U o U' L ({ frames := 3, cells := 1, slots := 2, locals := 103 } : Room).cells ({ frames := 3, cells := 1, slots := 2, locals := 103 } : Room).slots) := by
  refine MetFree.of_bodySF (plainFor_of_name own_pn2) hisR ?_
  intro p e s m args below meth c s₁ Bd hml0 hP hK
  obtain ⟨rfl, hZ, hh⟩ := hP
  have hx := Bd.exec
  have hby := Bd.bytes
  have hml : c.maxLocals = 1 := hml0
  have hown : s.vm.findClass "java/util/ArrayList" = some m.cls := findClass_of_methodNamed Bd.named
  have hnm := (name_of_methodNamed Bd.named Bd.method).1
  have X0 : Stand p l e ({ frames := 3, cells := 1, slots := 2, locals := 103 } : Room) s m #[(.ref xo)] below meth c s₁ [] 0 0 := Stand.of_body Bd
  have e0 : s₁.heap = h0 := by rw [← hh, Bd.state]; rfl
  have N0 := Fr.nil n0
  show own_F p e below (fun o U' => ∃ v L, o = .returned v ∧ own_QTa2 Z xo xa ka xm y0 y1 h0 n0 v U'.heap L ∧ FrameEnd s o U' L ({ frames := 3, cells := 1, slots := 2, locals := 103 } : Room).cells ({ frames := 3, cells := 1, slots := 2, locals := 103 } : Room).slots) s₁ (entryFrame m #[(.ref xo)] 1)
  rw [own_efTa2 m xo]
  refine own_go (T' := s₁) (g' := (mkF m 1 #[.val (.ref xo)] [(.ref xo)])) (fun _ k => XS.aloadN X0.here hx rfl (hb hby own_dTa2_0) rfl rfl k) ?_
  obtain ⟨T1, X1, e1, st1⟩ := getF X0 hx hZ hown (host := "") (Or.inl (hw _ (List.mem_of_getElem? (i := 42) rfl))) Via.refl e0 Fe (g := (mkF m 1 #[.val (.ref xo)] [(.ref xo)])) rfl rfl (hb hby own_dTa2_1)
  refine own_go (T' := T1) (g' := (mkF m 4 #[.val (.ref xo)] [(.ref xa)])) (fun _ k => st1 _ k) ?_
  refine own_go (T' := T1) (g' := (mkF m 5 #[.val (.ref xo)] [(.ref xo), (.ref xa)])) (fun _ k => XS.aloadN X1.here hx rfl (hb hby own_dTa2_4) rfl rfl k) ?_
  obtain ⟨T2, X2, e2, st2⟩ := getF X1 hx hZ hown (host := "") (Or.inl (hw _ (List.mem_of_getElem? (i := 79) rfl))) Via.refl e1 Fs (g := (mkF m 5 #[.val (.ref xo)] [(.ref xo), (.ref xa)])) rfl rfl (hb hby own_dTa2_5)
  refine own_go (T' := T2) (g' := (mkF m 8 #[.val (.ref xo)] [(.int (2 : Int32)), (.ref xa)])) (fun _ k => st2 _ k) ?_
  obtain ⟨_, _, ⟨T3, L3, k3, n3⟩, -, X3, ⟨Lc3, hQ3, l3, y3, z3⟩, st3⟩ := Jvm.LawKit.callS X2 hx (y := (⟨"java/util/Arrays", "copyOf", "([Ljava/lang/Object;I)[Ljava/lang/Object;"⟩ : MethodName)) hown (mvT hZ (hw _ (List.mem_of_getElem? (i := 142) rfl))) (mvT hZ (hw _ (List.mem_of_getElem? (i := 143) rfl))) (mvT hZ (hw _ (List.mem_of_getElem? (i := 144) rfl))) (mvT hZ (hw _ (List.mem_of_getElem? (i := 145) rfl))) (by decide) (backOf (W := 0) (own_rC22 l Z a0 hw [] xa ka xm y0 y1 h0 n0 Z0 Va M Eo Ey0 Ey1) hZ (hw _ (List.mem_of_getElem? (i := 145) rfl)) (hw _ (List.mem_of_getElem? (i := 144) rfl)) (by decide) (by decide)) (g := (mkF m 8 #[.val (.ref xo)] [(.int (2 : Int32)), (.ref xa)])) rfl (by rw [hml]; rfl) (argsL := [(.ref xa), (.int (2 : Int32))]) (rest := []) (lenOf own_pd9 rfl) rfl (by show 2 * 0 + _ ≤ _; exact Nat.le_of_eq rfl) (hb hby own_dTa2_8) (fun _ _ => ⟨rfl, e2, (by decide : 0 + 1 ≤ _), (by decide : 0 + 2 ≤ _)⟩)
  dsimp only [Pt.U, Pt.locs, Pt.cells, Pt.slots] at X3 l3 y3 z3 st3 hQ3
  subst l3 y3 z3
  obtain ⟨-, N3q, Kc3, SKc3, r3, kr3, rfl, hzr3, Vc3⟩ := hQ3
  have N3 := Fr.app N0 N3q
  have gz_r3 : n0 ≤ r3 := Nat.le_trans Z0 hzr3
  have hz_r3 : h0.size ≤ r3 := Nat.le_trans (Keep.refl h0 []).1 hzr3
  have Z3 : n0 ≤ T3.heap.size := Nat.le_trans Z0 Kc3.1
  have SK3 : own_SK Z h0 T3.heap := (own_SK.rf Z h0).tr SKc3
  have K3 : Keep h0 T3.heap [] := (Keep.refl h0 []).trans Kc3 (fun x hx => nomatch hx)
  refine own_go (T' := T3) (g' := (mkF m 11 #[.val (.ref xo)] [(.ref r3)])) (fun _ k => st3 _ k) ?_
  obtain ⟨fs, hr, hrun, hended, hW, hsame⟩ := X3.leave (v := some (.ref r3)) (fun h => by rw [Bd.returns] at h; cases h)
  refine own_end (retOut X3 hx Bd.returns rfl (Or.inr (Or.inr (Or.inr (Or.inr ⟨rfl, rfl, rfl⟩)))) (hb hby own_dTa2_11) hr) hrun hended ⟨_, _, rfl, (?_ : own_QTa2 Z xo xa ka xm y0 y1 h0 n0 _ T3.heap _), ⟨_, rfl⟩, hW, hsame.mono (by decide) (by decide)⟩
  exact ⟨rfl, N3, K3, SK3, r3, kr3, rfl, hz_r3, Vc3⟩
theorem own_dC33_0 : decode jdk_65_method_120_code 0 = .ok (.aload_n 2, 1) := by decide +kernel
theorem own_dC33_1 : decode jdk_65_method_120_code 1 = .ok (.ldc 110, 2) := by decide +kernel
theorem own_dC33_3 : decode jdk_65_method_120_code 3 = .ok (.if_acmp .ne 10, 3) := by decide +kernel
theorem own_dC33_6 : decode jdk_65_method_120_code 6 = .ok (.iload_n 1, 1) := by decide +kernel
theorem own_dC33_7 : decode jdk_65_method_120_code 7 = .ok (.anewarray 2, 3) := by decide +kernel
theorem own_dC33_10 : decode jdk_65_method_120_code 10 = .ok (.goto 14, 3) := by decide +kernel
theorem own_dC33_24 : decode jdk_65_method_120_code 24 = .ok (.astore_n 3, 1) := by decide +kernel
theorem own_dC33_25 : decode jdk_65_method_120_code 25 = .ok (.aload_n 0, 1) := by decide +kernel
theorem own_dC33_26 : decode jdk_65_method_120_code 26 = .ok (.iconst 0, 1) := by decide +kernel
theorem own_dC33_27 : decode jdk_65_method_120_code 27 = .ok (.aload_n 3, 1) := by decide +kernel
theorem own_dC33_28 : decode jdk_65_method_120_code 28 = .ok (.iconst 0, 1) := by decide +kernel
theorem own_dC33_29 : decode jdk_65_method_120_code 29 = .ok (.aload_n 0, 1) := by decide +kernel
theorem own_dC33_30 : decode jdk_65_method_120_code 30 = .ok (.arraylength, 1) := by decide +kernel
theorem own_dC33_31 : decode jdk_65_method_120_code 31 = .ok (.iload_n 1, 1) := by decide +kernel
theorem own_dC33_32 : decode jdk_65_method_120_code 32 = .ok (.invokestatic 304, 3) := by decide +kernel
theorem own_dC33_35 : decode jdk_65_method_120_code 35 = .ok (.invokestatic 150, 3) := by decide +kernel
theorem own_dC33_38 : decode jdk_65_method_120_code 38 = .ok (.aload_n 3, 1) := by decide +kernel
theorem own_dC33_39 : decode jdk_65_method_120_code 39 = .ok (.areturn, 1) := by decide +kernel
theorem own_efC33 (m : MethodId) (xa : Addr) (xm : Addr) : entryFrame m #[(.ref xa), (.int (3 : Int32)), (.ref xm)] 4 = mkF m 0 #[.val (.ref xa), .val (.int (3 : Int32)), .val (.ref xm), .unset] [] := by first | (simp [entryFrame, mkF, argsToLocals, Value.category]; done) | rfl
def own_QC33 (Z : State) (xa : Addr) (xm : Addr) (ka : ClassId) (y0 : Addr) (y1 : Addr) (y2 : Addr) (h0 : Heap) (n0 : Nat) (v : Option Value) (h : Heap) (L : List Loc) : Prop := v = v ∧ Fr n0 L ∧ Keep h0 h [] ∧ own_SK Z h0 h ∧ ∃ r kr, v = some (.ref r) ∧ h0.size ≤ r ∧ own_A Z h r kr (.object "java/lang/Object") [(.ref y0), (.ref y1), (.ref y2)]
set_option maxRecDepth 65536 in
set_option maxHeartbeats 40000000 in
theorem own_rC33 (l : Launch) (Z : State) (a0 : Array Value) (hw : ∀ d ∈ tables_1, d.before a0 Z = true) (ws : List Jvm.Cond) (xa : Addr) (xm : Addr) (ka : ClassId) (y0 : Addr) (y1 : Addr) (y2 : Addr) (h0 : Heap) (n0 : Nat) (Z0 : n0 ≤ h0.size) (Va : own_A Z h0 xa ka (.object "java/lang/Object") [(.ref y0), (.ref y1), (.ref y2), .null, .null, .null, .null, .null, .null, .null]) (M : own_Mir Z "[Ljava/lang/Object;" xm) (Ey0 : Exa Z h0 y0 "java/time/Duration") (Ey1 : Exa Z h0 y1 "java/time/Duration") (Ey2 : Exa Z h0 y2 "java/time/Duration") :
    MetFree l (⟨"java/util/Arrays", "copyOf", "([Ljava/lang/Object;ILjava/lang/Class;)[Ljava/lang/Object;"⟩ : MethodName) (head1 (Jvm.Cond.code (⟨"java/util/Arrays", "copyOf", "([Ljava/lang/Object;ILjava/lang/Class;)[Ljava/lang/Object;"⟩ : MethodName) jdk_65_method_120_code 4 (some (.array (.object "java/lang/Object"))) :: ws) ({ frames := 1, cells := 1, slots := 3, locals := 60 } : Room)) (fun a U => a = #[(.ref xa), (.int (3 : Int32)), (.ref xm)] ∧ Z.Warmed39 U.vm ∧ U.heap = h0) (fun _ _ _ _ _ => True) (fun _ U o U' => ∃ v L, o = .returned v ∧ own_QC33 Z xa xm ka y0 y1 y2 h0 n0 v U'.heap L ∧ FrameEnd U o U' L ({ frames := 1, cells := 1, slots := 3, locals := 60 } : Room).cells ({ frames := 1, cells := 1, slots := 3, locals := 60 } : Room).slots) := by
  refine MetFree.of_bodySF (plainFor_of_name own_pn10) hisR ?_
  intro p e s m args below meth c s₁ Bd hml0 hP hK
  obtain ⟨rfl, hZ, hh⟩ := hP
  have hx := Bd.exec
  have hby := Bd.bytes
  have hml : c.maxLocals = 4 := hml0
  have hown : s.vm.findClass "java/util/Arrays" = some m.cls := findClass_of_methodNamed Bd.named
  have hnm := (name_of_methodNamed Bd.named Bd.method).1
  have X0 : Stand p l e ({ frames := 1, cells := 1, slots := 3, locals := 60 } : Room) s m #[(.ref xa), (.int (3 : Int32)), (.ref xm)] below meth c s₁ [] 0 0 := Stand.of_body Bd
  have e0 : s₁.heap = h0 := by rw [← hh, Bd.state]; rfl
  have N0 := Fr.nil n0
  show own_F p e below (fun o U' => ∃ v L, o = .returned v ∧ own_QC33 Z xa xm ka y0 y1 y2 h0 n0 v U'.heap L ∧ FrameEnd s o U' L ({ frames := 1, cells := 1, slots := 3, locals := 60 } : Room).cells ({ frames := 1, cells := 1, slots := 3, locals := 60 } : Room).slots) s₁ (entryFrame m #[(.ref xa), (.int (3 : Int32)), (.ref xm)] 4)
  rw [own_efC33 m xa xm]
  refine own_go (T' := s₁) (g' := (mkF m 1 #[.val (.ref xa), .val (.int (3 : Int32)), .val (.ref xm), .unset] [(.ref xm)])) (fun _ k => XS.aloadN X0.here hx rfl (hb hby own_dC33_0) rfl rfl k) ?_
  obtain ⟨vm1, X1, st1⟩ := X0.ldcMirror hx hown (mvT hZ (hw _ (List.mem_of_getElem? (i := 155) rfl))) (own_mirS hZ M) (g := (mkF m 1 #[.val (.ref xa), .val (.int (3 : Int32)), .val (.ref xm), .unset] [(.ref xm)])) rfl (hb hby own_dC33_1)
  have e1 : (s₁.setVm vm1).heap = h0 := e0
  refine own_go (T' := (s₁.setVm vm1)) (g' := (mkF m 3 #[.val (.ref xa), .val (.int (3 : Int32)), .val (.ref xm), .unset] [(.ref xm), (.ref xm)])) (fun _ k => st1 _ k) ?_
  refine own_go (T' := (s₁.setVm vm1)) (g' := (mkF m 6 #[.val (.ref xa), .val (.int (3 : Int32)), .val (.ref xm), .unset] [])) (fun _ k => Jvm.RoadKit.acmp (g := (mkF m 3 #[.val (.ref xa), .val (.int (3 : Int32)), .val (.ref xm), .unset] [(.ref xm), (.ref xm)])) X1 hx rfl rfl rfl (pc0 := 3) (pc' := 6) (same := true) rfl (hb hby own_dC33_3) rfl (decide_eq_true rfl) (by decide) (by decide) k) ?_
  refine own_go (T' := (s₁.setVm vm1)) (g' := (mkF m 7 #[.val (.ref xa), .val (.int (3 : Int32)), .val (.ref xm), .unset] [(.int (3 : Int32))])) (fun _ k => XS.iloadN X1.here hx rfl (hb hby own_dC33_6) rfl k) ?_
  obtain ⟨T2, h2, k2, X2, e2, E2, A2, Ea2, Ov2, st2⟩ := newRE X1 hx hZ hown (hw _ (List.mem_of_getElem? (i := 156) rfl)) (hw _ (List.mem_of_getElem? (i := 132) rfl)) e1 (g := (mkF m 7 #[.val (.ref xa), .val (.int (3 : Int32)), .val (.ref xm), .unset] [(.int (3 : Int32))])) rfl (hb hby own_dC33_7) rfl (by decide) (cap := 3) (by decide) (by decide) (by decide) (by decide) (ad := "[Ljava/lang/Object;") rfl
  obtain ⟨b2, g2⟩ : ∃ z, z = h0.size := ⟨_, rfl⟩
  rw [← g2] at A2 Ea2 st2
  have ne_xa_b2 : xa ≠ b2 := Nat.ne_of_lt (Nat.lt_of_lt_of_le Va.lt (Nat.le_of_eq g2.symm))
  have ne_y0_b2 : y0 ≠ b2 := Nat.ne_of_lt (Nat.lt_of_lt_of_le Ey0.lt (Nat.le_of_eq g2.symm))
  have ne_y1_b2 : y1 ≠ b2 := Nat.ne_of_lt (Nat.lt_of_lt_of_le Ey1.lt (Nat.le_of_eq g2.symm))
  have ne_y2_b2 : y2 ≠ b2 := Nat.ne_of_lt (Nat.lt_of_lt_of_le Ey2.lt (Nat.le_of_eq g2.symm))
  have gz_b2 : n0 ≤ b2 := Nat.le_trans Z0 (Nat.le_of_eq g2.symm)
  have hz_b2 : h0.size ≤ b2 := Nat.le_trans (Keep.refl h0 []).1 (Nat.le_of_eq g2.symm)
  have Vk3 := Va.ext E2
  have Ek4 := Ey0.ext E2
  have Ek5 := Ey1.ext E2
  have Ek6 := Ey2.ext E2
  have Z2 : n0 ≤ h2.size := Nat.le_trans Z0 E2.1
  have K2 : Keep h0 h2 [] := (Keep.refl h0 []).ext E2
  have SK2 : own_SK Z h0 h2 := (own_SK.rf Z h0).ext E2
  have V2 : own_A Z h2 b2 k2 (.object "java/lang/Object") [.null, .null, .null] := own_A.new A2 (N := 3) rfl
  refine own_go (T' := T2) (g' := (mkF m 10 #[.val (.ref xa), .val (.int (3 : Int32)), .val (.ref xm), .unset] [(.ref b2)])) (fun _ k => st2 _ k) ?_
  refine own_go (T' := T2) (g' := (mkF m 24 #[.val (.ref xa), .val (.int (3 : Int32)), .val (.ref xm), .unset] [(.ref b2)])) (fun _ k => XS.goto X2.here hx rfl (pc0 := 10) (pc' := 24) rfl (hb hby own_dC33_10) (by decide) (by decide) k) ?_
  refine own_go (T' := T2) (g' := (mkF m 25 #[.val (.ref xa), .val (.int (3 : Int32)), .val (.ref xm), .val (.ref b2)] [])) (fun _ k => XS.astoreN X2.here hx rfl (hb hby own_dC33_24) rfl rfl (l' := #[.val (.ref xa), .val (.int (3 : Int32)), .val (.ref xm), .val (.ref b2)]) rfl k) ?_
  refine own_go (T' := T2) (g' := (mkF m 26 #[.val (.ref xa), .val (.int (3 : Int32)), .val (.ref xm), .val (.ref b2)] [(.ref xa)])) (fun _ k => XS.aloadN X2.here hx rfl (hb hby own_dC33_25) rfl rfl k) ?_
  refine own_go (T' := T2) (g' := (mkF m 27 #[.val (.ref xa), .val (.int (3 : Int32)), .val (.ref xm), .val (.ref b2)] [(.int (0 : Int32)), (.ref xa)])) (fun _ k => XS.iconst X2.here hx rfl (hb hby own_dC33_26) k) ?_
  refine own_go (T' := T2) (g' := (mkF m 28 #[.val (.ref xa), .val (.int (3 : Int32)), .val (.ref xm), .val (.ref b2)] [(.ref b2), (.int (0 : Int32)), (.ref xa)])) (fun _ k => XS.aloadN X2.here hx rfl (hb hby own_dC33_27) rfl rfl k) ?_
  refine own_go (T' := T2) (g' := (mkF m 29 #[.val (.ref xa), .val (.int (3 : Int32)), .val (.ref xm), .val (.ref b2)] [(.int (0 : Int32)), (.ref b2), (.int (0 : Int32)), (.ref xa)])) (fun _ k => XS.iconst X2.here hx rfl (hb hby own_dC33_28) k) ?_
  refine own_go (T' := T2) (g' := (mkF m 30 #[.val (.ref xa), .val (.int (3 : Int32)), .val (.ref xm), .val (.ref b2)] [(.ref xa), (.int (0 : Int32)), (.ref b2), (.int (0 : Int32)), (.ref xa)])) (fun _ k => XS.aloadN X2.here hx rfl (hb hby own_dC33_29) rfl rfl k) ?_
  refine own_go (T' := T2) (g' := (mkF m 31 #[.val (.ref xa), .val (.int (3 : Int32)), .val (.ref xm), .val (.ref b2)] [(.int (10 : Int32)), (.int (0 : Int32)), (.ref b2), (.int (0 : Int32)), (.ref xa)])) (fun _ k => own_alen X2 hx hZ e2 Vk3 (g := (mkF m 30 #[.val (.ref xa), .val (.int (3 : Int32)), .val (.ref xm), .val (.ref b2)] [(.ref xa), (.int (0 : Int32)), (.ref b2), (.int (0 : Int32)), (.ref xa)])) rfl rfl (hb hby own_dC33_30) (n := (10 : Int32)) rfl k) ?_
  refine own_go (T' := T2) (g' := (mkF m 32 #[.val (.ref xa), .val (.int (3 : Int32)), .val (.ref xm), .val (.ref b2)] [(.int (3 : Int32)), (.int (10 : Int32)), (.int (0 : Int32)), (.ref b2), (.int (0 : Int32)), (.ref xa)])) (fun _ k => XS.iloadN X2.here hx rfl (hb hby own_dC33_31) rfl k) ?_
  obtain ⟨_, _, ⟨T7, L7, k7, n7⟩, -, X7, ⟨Lc7, hQ7, l7, y7, z7⟩, st7⟩ := Jvm.LawKit.callS X2 hx (y := (⟨"java/lang/Math", "min", "(II)I"⟩ : MethodName)) hown (mvT hZ (hw _ (List.mem_of_getElem? (i := 157) rfl))) (mvT hZ (hw _ (List.mem_of_getElem? (i := 158) rfl))) (mvT hZ (hw _ (List.mem_of_getElem? (i := 129) rfl))) (mvT hZ (hw _ (List.mem_of_getElem? (i := 159) rfl))) (by decide) (backOf (W := 4) (own_rMn3 l Z a0 hw []  h2 n0 Z2 ) hZ (hw _ (List.mem_of_getElem? (i := 159) rfl)) (hw _ (List.mem_of_getElem? (i := 129) rfl)) (by decide) (by decide)) (g := (mkF m 32 #[.val (.ref xa), .val (.int (3 : Int32)), .val (.ref xm), .val (.ref b2)] [(.int (3 : Int32)), (.int (10 : Int32)), (.int (0 : Int32)), (.ref b2), (.int (0 : Int32)), (.ref xa)])) rfl (by rw [hml]; rfl) (argsL := [(.int (10 : Int32)), (.int (3 : Int32))]) (rest := [(.int (0 : Int32)), (.ref b2), (.int (0 : Int32)), (.ref xa)]) (lenOf own_pd1 rfl) rfl (by show 2 * 0 + _ ≤ _; exact Nat.le_of_eq rfl) (hb hby own_dC33_32) (fun _ _ => ⟨rfl, e2, (by decide : 1 + 0 ≤ _), (by decide : 3 + 0 ≤ _)⟩)
  dsimp only [Pt.U, Pt.locs, Pt.cells, Pt.slots] at X7 l7 y7 z7 st7 hQ7
  subst l7 y7 z7
  obtain ⟨rfl, N7q, e7⟩ := hQ7
  have N7 := Fr.app N0 N7q
  refine own_go (T' := T7) (g' := (mkF m 35 #[.val (.ref xa), .val (.int (3 : Int32)), .val (.ref xm), .val (.ref b2)] [(.int (3 : Int32)), (.int (0 : Int32)), (.ref b2), (.int (0 : Int32)), (.ref xa)])) (fun _ k => st7 _ k) ?_
  obtain ⟨T8, h8, L8, X8, e8, N8, Kc8, V8, st8⟩ := cpA X7 hx hZ hown (hw _ (List.mem_of_getElem? (i := 160) rfl)) (hw _ (List.mem_of_getElem? (i := 163) rfl)) (hw _ (List.mem_of_getElem? (i := 161) rfl)) (hw _ (List.mem_of_getElem? (i := 162) rfl)) e7 (own_A.arv (z := 10) (d := .null) Vk3 (by decide) rfl (by intro v hv; simp only [List.mem_cons, List.not_mem_nil, or_false] at hv; rcases hv with rfl | rfl | rfl | rfl | rfl | rfl | rfl | rfl | rfl | rfl <;> rfl)) (own_A.arv (z := 3) (d := .null) V2 (by decide) rfl (by intro v hv; simp only [List.mem_cons, List.not_mem_nil, or_false] at hv; rcases hv with rfl | rfl | rfl <;> rfl)) (us := [(.ref y0), (.ref y1), (.ref y2)]) (Or.inr ⟨rfl, rfl, ⟨own_A.sto V2 Ov2 (Ins.of_exa Ek4 (hw _ (List.mem_of_getElem? (i := 133) rfl))), ⟨own_A.sto V2 Ov2 (Ins.of_exa Ek5 (hw _ (List.mem_of_getElem? (i := 133) rfl))), ⟨own_A.sto V2 Ov2 (Ins.of_exa Ek6 (hw _ (List.mem_of_getElem? (i := 133) rfl))), trivial⟩⟩⟩⟩) (sp := 0) (dp := 0) (nn := 3) (by decide) (by decide) (by decide) (by decide) (by decide) rfl (Nat.le_of_ble_eq_true rfl) N7 gz_b2 (g := (mkF m 35 #[.val (.ref xa), .val (.int (3 : Int32)), .val (.ref xm), .val (.ref b2)] [(.int (3 : Int32)), (.int (0 : Int32)), (.ref b2), (.int (0 : Int32)), (.ref xa)])) rfl (by rw [hml]; rfl) (rest := []) rfl (hb hby own_dC33_35) (by decide) (W := 0) (by show 2 * 0 + _ ≤ _; exact Nat.le_of_eq rfl) (by decide)
  have Va8 : own_A Z h8 b2 k2 (.object "java/lang/Object") [(.ref y0), (.ref y1), (.ref y2)] := own_A.of_arv V8 rfl
  have SKc8 : own_SK Z h2 h8 := own_skeep Kc8 V2
  have Vk9 := Vk3.keep Kc8 (own_one ne_xa_b2)
  have Ek10 := Ek4.keep Kc8
  have Ek11 := Ek5.keep Kc8
  have Ek12 := Ek6.keep Kc8
  have K8 : Keep h0 h8 [] := K2.trans Kc8 (own_or1 (Or.inr hz_b2))
  have SK8 := SK2.tr SKc8
  refine own_go (T' := T8) (g' := (mkF m 38 #[.val (.ref xa), .val (.int (3 : Int32)), .val (.ref xm), .val (.ref b2)] [])) (fun _ k => st8 _ k) ?_
  refine own_go (T' := T8) (g' := (mkF m 39 #[.val (.ref xa), .val (.int (3 : Int32)), .val (.ref xm), .val (.ref b2)] [(.ref b2)])) (fun _ k => XS.aloadN X8.here hx rfl (hb hby own_dC33_38) rfl rfl k) ?_
  obtain ⟨fs, hr, hrun, hended, hW, hsame⟩ := X8.leave (v := some (.ref b2)) (fun h => by rw [Bd.returns] at h; cases h)
  refine own_end (retOut X8 hx Bd.returns rfl (Or.inr (Or.inr (Or.inr (Or.inr ⟨rfl, rfl, rfl⟩)))) (hb hby own_dC33_39) hr) hrun hended ⟨_, _, rfl, (?_ : own_QC33 Z xa xm ka y0 y1 y2 h0 n0 _ T8.heap _), ⟨_, rfl⟩, hW, hsame.mono (by decide) (by decide)⟩
  rw [e8]
  exact ⟨rfl, N8, K8, SK8, b2, k2, rfl, hz_b2, Va8⟩
theorem own_dC23_0 : decode jdk_65_method_119_code 0 = .ok (.aload_n 0, 1) := by decide +kernel
theorem own_dC23_1 : decode jdk_65_method_119_code 1 = .ok (.iload_n 1, 1) := by decide +kernel
theorem own_dC23_2 : decode jdk_65_method_119_code 2 = .ok (.aload_n 0, 1) := by decide +kernel
theorem own_dC23_3 : decode jdk_65_method_119_code 3 = .ok (.invokevirtual 86, 3) := by decide +kernel
theorem own_dC23_6 : decode jdk_65_method_119_code 6 = .ok (.invokestatic 300, 3) := by decide +kernel
theorem own_dC23_9 : decode jdk_65_method_119_code 9 = .ok (.areturn, 1) := by decide +kernel
theorem own_efC23 (m : MethodId) (xa : Addr) : entryFrame m #[(.ref xa), (.int (3 : Int32))] 2 = mkF m 0 #[.val (.ref xa), .val (.int (3 : Int32))] [] := by first | (simp [entryFrame, mkF, argsToLocals, Value.category]; done) | rfl
def own_QC23 (Z : State) (xa : Addr) (ka : ClassId) (xm : Addr) (y0 : Addr) (y1 : Addr) (y2 : Addr) (h0 : Heap) (n0 : Nat) (v : Option Value) (h : Heap) (L : List Loc) : Prop := v = v ∧ Fr n0 L ∧ Keep h0 h [] ∧ own_SK Z h0 h ∧ ∃ r kr, v = some (.ref r) ∧ h0.size ≤ r ∧ own_A Z h r kr (.object "java/lang/Object") [(.ref y0), (.ref y1), (.ref y2)]
set_option maxRecDepth 65536 in
set_option maxHeartbeats 40000000 in
theorem own_rC23 (l : Launch) (Z : State) (a0 : Array Value) (hw : ∀ d ∈ tables_1, d.before a0 Z = true) (ws : List Jvm.Cond) (xa : Addr) (ka : ClassId) (xm : Addr) (y0 : Addr) (y1 : Addr) (y2 : Addr) (h0 : Heap) (n0 : Nat) (Z0 : n0 ≤ h0.size) (Va : own_A Z h0 xa ka (.object "java/lang/Object") [(.ref y0), (.ref y1), (.ref y2), .null, .null, .null, .null, .null, .null, .null]) (M : own_Mir Z "[Ljava/lang/Object;" xm) (Eo : Exa Z h0 xa "[Ljava/lang/Object;") (Ey0 : Exa Z h0 y0 "java/time/Duration") (Ey1 : Exa Z h0 y1 "java/time/Duration") (Ey2 : Exa Z h0 y2 "java/time/Duration") :
    MetFree l (⟨"java/util/Arrays", "copyOf", "([Ljava/lang/Object;I)[Ljava/lang/Object;"⟩ : MethodName) (head1 (Jvm.Cond.code (⟨"java/util/Arrays", "copyOf", "([Ljava/lang/Object;I)[Ljava/lang/Object;"⟩ : MethodName) jdk_65_method_119_code 2 (some (.array (.object "java/lang/Object"))) :: ws) ({ frames := 2, cells := 1, slots := 3, locals := 90 } : Room)) (fun a U => a = #[(.ref xa), (.int (3 : Int32))] ∧ Z.Warmed39 U.vm ∧ U.heap = h0) (fun _ _ _ _ _ => True) (fun _ U o U' => ∃ v L, o = .returned v ∧ own_QC23 Z xa ka xm y0 y1 y2 h0 n0 v U'.heap L ∧ FrameEnd U o U' L ({ frames := 2, cells := 1, slots := 3, locals := 90 } : Room).cells ({ frames := 2, cells := 1, slots := 3, locals := 90 } : Room).slots) := by
  refine MetFree.of_bodySF (plainFor_of_name own_pn10) hisR ?_
  intro p e s m args below meth c s₁ Bd hml0 hP hK
  obtain ⟨rfl, hZ, hh⟩ := hP
  have hx := Bd.exec
  have hby := Bd.bytes
  have hml : c.maxLocals = 2 := hml0
  have hown : s.vm.findClass "java/util/Arrays" = some m.cls := findClass_of_methodNamed Bd.named
  have hnm := (name_of_methodNamed Bd.named Bd.method).1
  have X0 : Stand p l e ({ frames := 2, cells := 1, slots := 3, locals := 90 } : Room) s m #[(.ref xa), (.int (3 : Int32))] below meth c s₁ [] 0 0 := Stand.of_body Bd
  have e0 : s₁.heap = h0 := by rw [← hh, Bd.state]; rfl
  have N0 := Fr.nil n0
  show own_F p e below (fun o U' => ∃ v L, o = .returned v ∧ own_QC23 Z xa ka xm y0 y1 y2 h0 n0 v U'.heap L ∧ FrameEnd s o U' L ({ frames := 2, cells := 1, slots := 3, locals := 90 } : Room).cells ({ frames := 2, cells := 1, slots := 3, locals := 90 } : Room).slots) s₁ (entryFrame m #[(.ref xa), (.int (3 : Int32))] 2)
  rw [own_efC23 m xa]
  refine own_go (T' := s₁) (g' := (mkF m 1 #[.val (.ref xa), .val (.int (3 : Int32))] [(.ref xa)])) (fun _ k => XS.aloadN X0.here hx rfl (hb hby own_dC23_0) rfl rfl k) ?_
  refine own_go (T' := s₁) (g' := (mkF m 2 #[.val (.ref xa), .val (.int (3 : Int32))] [(.int (3 : Int32)), (.ref xa)])) (fun _ k => XS.iloadN X0.here hx rfl (hb hby own_dC23_1) rfl k) ?_
  refine own_go (T' := s₁) (g' := (mkF m 3 #[.val (.ref xa), .val (.int (3 : Int32))] [(.ref xa), (.int (3 : Int32)), (.ref xa)])) (fun _ k => XS.aloadN X0.here hx rfl (hb hby own_dC23_2) rfl rfl k) ?_
  obtain ⟨T1, X1, e1, st1⟩ := own_gcls X0 hx hZ hown (hw _ (List.mem_of_getElem? (i := 146) rfl)) (hw _ (List.mem_of_getElem? (i := 147) rfl)) (hw _ (List.mem_of_getElem? (i := 68) rfl)) (hw _ (List.mem_of_getElem? (i := 149) rfl)) (hw _ (List.mem_of_getElem? (i := 148) rfl)) (hw _ (List.mem_of_getElem? (i := 150) rfl)) e0 Eo M (g := (mkF m 3 #[.val (.ref xa), .val (.int (3 : Int32))] [(.ref xa), (.int (3 : Int32)), (.ref xa)])) rfl (by rw [hml]; rfl) (rest := [(.int (3 : Int32)), (.ref xa)]) rfl (hb hby own_dC23_3) (by decide) (W := 2) (by show 2 * 0 + _ ≤ _; exact Nat.le_of_eq rfl) (by decide)
  refine own_go (T' := T1) (g' := (mkF m 6 #[.val (.ref xa), .val (.int (3 : Int32))] [(.ref xm), (.int (3 : Int32)), (.ref xa)])) (fun _ k => st1 _ k) ?_
  obtain ⟨_, _, ⟨T2, L2, k2, n2⟩, -, X2, ⟨Lc2, hQ2, l2, y2, z2⟩, st2⟩ := Jvm.LawKit.callS X1 hx (y := (⟨"java/util/Arrays", "copyOf", "([Ljava/lang/Object;ILjava/lang/Class;)[Ljava/lang/Object;"⟩ : MethodName)) hown (mvT hZ (hw _ (List.mem_of_getElem? (i := 152) rfl))) (mvT hZ (hw _ (List.mem_of_getElem? (i := 153) rfl))) (mvT hZ (hw _ (List.mem_of_getElem? (i := 144) rfl))) (mvT hZ (hw _ (List.mem_of_getElem? (i := 154) rfl))) (by decide) (backOf (W := 0) (own_rC33 l Z a0 hw [] xa xm ka y0 y1 y2 h0 n0 Z0 Va M Ey0 Ey1 Ey2) hZ (hw _ (List.mem_of_getElem? (i := 154) rfl)) (hw _ (List.mem_of_getElem? (i := 144) rfl)) (by decide) (by decide)) (g := (mkF m 6 #[.val (.ref xa), .val (.int (3 : Int32))] [(.ref xm), (.int (3 : Int32)), (.ref xa)])) rfl (by rw [hml]; rfl) (argsL := [(.ref xa), (.int (3 : Int32)), (.ref xm)]) (rest := []) (lenOf own_pd8 rfl) rfl (by show 2 * 0 + _ ≤ _; exact Nat.le_of_eq rfl) (hb hby own_dC23_6) (fun _ _ => ⟨rfl, e1, (by decide : 0 + 1 ≤ _), (by decide : 0 + 3 ≤ _)⟩)
  dsimp only [Pt.U, Pt.locs, Pt.cells, Pt.slots] at X2 l2 y2 z2 st2 hQ2
  subst l2 y2 z2
  obtain ⟨-, N2q, Kc2, SKc2, r2, kr2, rfl, hzr2, Vc2⟩ := hQ2
  have N2 := Fr.app N0 N2q
  have gz_r2 : n0 ≤ r2 := Nat.le_trans Z0 hzr2
  have hz_r2 : h0.size ≤ r2 := Nat.le_trans (Keep.refl h0 []).1 hzr2
  have Z2 : n0 ≤ T2.heap.size := Nat.le_trans Z0 Kc2.1
  have SK2 : own_SK Z h0 T2.heap := (own_SK.rf Z h0).tr SKc2
  have K2 : Keep h0 T2.heap [] := (Keep.refl h0 []).trans Kc2 (fun x hx => nomatch hx)
  refine own_go (T' := T2) (g' := (mkF m 9 #[.val (.ref xa), .val (.int (3 : Int32))] [(.ref r2)])) (fun _ k => st2 _ k) ?_
  obtain ⟨fs, hr, hrun, hended, hW, hsame⟩ := X2.leave (v := some (.ref r2)) (fun h => by rw [Bd.returns] at h; cases h)
  refine own_end (retOut X2 hx Bd.returns rfl (Or.inr (Or.inr (Or.inr (Or.inr ⟨rfl, rfl, rfl⟩)))) (hb hby own_dC23_9) hr) hrun hended ⟨_, _, rfl, (?_ : own_QC23 Z xa ka xm y0 y1 y2 h0 n0 _ T2.heap _), ⟨_, rfl⟩, hW, hsame.mono (by decide) (by decide)⟩
  exact ⟨rfl, N2, K2, SK2, r2, kr2, rfl, hz_r2, Vc2⟩
theorem own_dTa3_0 : decode jdk_38_method_16_code 0 = .ok (.aload_n 0, 1) := by decide +kernel
theorem own_dTa3_1 : decode jdk_38_method_16_code 1 = .ok (.getfield 9, 3) := by decide +kernel
theorem own_dTa3_4 : decode jdk_38_method_16_code 4 = .ok (.aload_n 0, 1) := by decide +kernel
theorem own_dTa3_5 : decode jdk_38_method_16_code 5 = .ok (.getfield 48, 3) := by decide +kernel
theorem own_dTa3_8 : decode jdk_38_method_16_code 8 = .ok (.invokestatic 66, 3) := by decide +kernel
theorem own_dTa3_11 : decode jdk_38_method_16_code 11 = .ok (.areturn, 1) := by decide +kernel
theorem own_efTa3 (m : MethodId) (xo : Addr) : entryFrame m #[(.ref xo)] 1 = mkF m 0 #[.val (.ref xo)] [] := by first | (simp [entryFrame, mkF, argsToLocals, Value.category]; done) | rfl
def own_QTa3 (Z : State) (xo : Addr) (xa : Addr) (ka : ClassId) (xm : Addr) (y0 : Addr) (y1 : Addr) (y2 : Addr) (h0 : Heap) (n0 : Nat) (v : Option Value) (h : Heap) (L : List Loc) : Prop := v = v ∧ Fr n0 L ∧ Keep h0 h [] ∧ own_SK Z h0 h ∧ ∃ r kr, v = some (.ref r) ∧ h0.size ≤ r ∧ own_A Z h r kr (.object "java/lang/Object") [(.ref y0), (.ref y1), (.ref y2)]
set_option maxRecDepth 65536 in
set_option maxHeartbeats 40000000 in
theorem own_rTa3 (l : Launch) (Z : State) (a0 : Array Value) (hw : ∀ d ∈ tables_1, d.before a0 Z = true) (ws : List Jvm.Cond) (xo : Addr) (xa : Addr) (ka : ClassId) (xm : Addr) (y0 : Addr) (y1 : Addr) (y2 : Addr) (h0 : Heap) (n0 : Nat) (Z0 : n0 ≤ h0.size) (Fe : Fld Z h0 xo "java/util/ArrayList" "elementData" "[Ljava/lang/Object;" (.ref xa)) (Fs : Fld Z h0 xo "java/util/ArrayList" "size" "I" (.int (3 : Int32))) (Va : own_A Z h0 xa ka (.object "java/lang/Object") [(.ref y0), (.ref y1), (.ref y2), .null, .null, .null, .null, .null, .null, .null]) (M : own_Mir Z "[Ljava/lang/Object;" xm) (Eo : Exa Z h0 xa "[Ljava/lang/Object;") (Ey0 : Exa Z h0 y0 "java/time/Duration") (Ey1 : Exa Z h0 y1 "java/time/Duration") (Ey2 : Exa Z h0 y2 "java/time/Duration") :
    MetFree l (⟨"java/util/ArrayList", "toArray", "()[Ljava/lang/Object;"⟩ : MethodName) (head1 (Jvm.Cond.code (⟨"java/util/ArrayList", "toArray", "()[Ljava/lang/Object;"⟩ : MethodName) jdk_38_method_16_code 1 (some (.array (.object "java/lang/Object"))) :: ws) ({ frames := 3, cells := 1, slots := 3, locals := 103 } : Room)) (fun a U => a = #[(.ref xo)] ∧ Z.Warmed39 U.vm ∧ U.heap = h0) (fun _ _ _ _ _ => True) (fun _ U o U' => ∃ v L, o = .returned v ∧ own_QTa3 Z xo xa ka xm y0 y1 y2 h0 n0 v U'.heap L ∧ FrameEnd U o U' L ({ frames := 3, cells := 1, slots := 3, locals := 103 } : Room).cells ({ frames := 3, cells := 1, slots := 3, locals := 103 } : Room).slots) := by
  refine MetFree.of_bodySF (plainFor_of_name own_pn2) hisR ?_
  intro p e s m args below meth c s₁ Bd hml0 hP hK
  obtain ⟨rfl, hZ, hh⟩ := hP
  have hx := Bd.exec
  have hby := Bd.bytes
  have hml : c.maxLocals = 1 := hml0
  have hown : s.vm.findClass "java/util/ArrayList" = some m.cls := findClass_of_methodNamed Bd.named
  have hnm := (name_of_methodNamed Bd.named Bd.method).1
  have X0 : Stand p l e ({ frames := 3, cells := 1, slots := 3, locals := 103 } : Room) s m #[(.ref xo)] below meth c s₁ [] 0 0 := Stand.of_body Bd
  have e0 : s₁.heap = h0 := by rw [← hh, Bd.state]; rfl
  have N0 := Fr.nil n0
  show own_F p e below (fun o U' => ∃ v L, o = .returned v ∧ own_QTa3 Z xo xa ka xm y0 y1 y2 h0 n0 v U'.heap L ∧ FrameEnd s o U' L ({ frames := 3, cells := 1, slots := 3, locals := 103 } : Room).cells ({ frames := 3, cells := 1, slots := 3, locals := 103 } : Room).slots) s₁ (entryFrame m #[(.ref xo)] 1)
  rw [own_efTa3 m xo]
  refine own_go (T' := s₁) (g' := (mkF m 1 #[.val (.ref xo)] [(.ref xo)])) (fun _ k => XS.aloadN X0.here hx rfl (hb hby own_dTa3_0) rfl rfl k) ?_
  obtain ⟨T1, X1, e1, st1⟩ := getF X0 hx hZ hown (host := "") (Or.inl (hw _ (List.mem_of_getElem? (i := 42) rfl))) Via.refl e0 Fe (g := (mkF m 1 #[.val (.ref xo)] [(.ref xo)])) rfl rfl (hb hby own_dTa3_1)
  refine own_go (T' := T1) (g' := (mkF m 4 #[.val (.ref xo)] [(.ref xa)])) (fun _ k => st1 _ k) ?_
  refine own_go (T' := T1) (g' := (mkF m 5 #[.val (.ref xo)] [(.ref xo), (.ref xa)])) (fun _ k => XS.aloadN X1.here hx rfl (hb hby own_dTa3_4) rfl rfl k) ?_
  obtain ⟨T2, X2, e2, st2⟩ := getF X1 hx hZ hown (host := "") (Or.inl (hw _ (List.mem_of_getElem? (i := 79) rfl))) Via.refl e1 Fs (g := (mkF m 5 #[.val (.ref xo)] [(.ref xo), (.ref xa)])) rfl rfl (hb hby own_dTa3_5)
  refine own_go (T' := T2) (g' := (mkF m 8 #[.val (.ref xo)] [(.int (3 : Int32)), (.ref xa)])) (fun _ k => st2 _ k) ?_
  obtain ⟨_, _, ⟨T3, L3, k3, n3⟩, -, X3, ⟨Lc3, hQ3, l3, y3, z3⟩, st3⟩ := Jvm.LawKit.callS X2 hx (y := (⟨"java/util/Arrays", "copyOf", "([Ljava/lang/Object;I)[Ljava/lang/Object;"⟩ : MethodName)) hown (mvT hZ (hw _ (List.mem_of_getElem? (i := 142) rfl))) (mvT hZ (hw _ (List.mem_of_getElem? (i := 143) rfl))) (mvT hZ (hw _ (List.mem_of_getElem? (i := 144) rfl))) (mvT hZ (hw _ (List.mem_of_getElem? (i := 145) rfl))) (by decide) (backOf (W := 0) (own_rC23 l Z a0 hw [] xa ka xm y0 y1 y2 h0 n0 Z0 Va M Eo Ey0 Ey1 Ey2) hZ (hw _ (List.mem_of_getElem? (i := 145) rfl)) (hw _ (List.mem_of_getElem? (i := 144) rfl)) (by decide) (by decide)) (g := (mkF m 8 #[.val (.ref xo)] [(.int (3 : Int32)), (.ref xa)])) rfl (by rw [hml]; rfl) (argsL := [(.ref xa), (.int (3 : Int32))]) (rest := []) (lenOf own_pd9 rfl) rfl (by show 2 * 0 + _ ≤ _; exact Nat.le_of_eq rfl) (hb hby own_dTa3_8) (fun _ _ => ⟨rfl, e2, (by decide : 0 + 1 ≤ _), (by decide : 0 + 3 ≤ _)⟩)
  dsimp only [Pt.U, Pt.locs, Pt.cells, Pt.slots] at X3 l3 y3 z3 st3 hQ3
  subst l3 y3 z3
  obtain ⟨-, N3q, Kc3, SKc3, r3, kr3, rfl, hzr3, Vc3⟩ := hQ3
  have N3 := Fr.app N0 N3q
  have gz_r3 : n0 ≤ r3 := Nat.le_trans Z0 hzr3
  have hz_r3 : h0.size ≤ r3 := Nat.le_trans (Keep.refl h0 []).1 hzr3
  have Z3 : n0 ≤ T3.heap.size := Nat.le_trans Z0 Kc3.1
  have SK3 : own_SK Z h0 T3.heap := (own_SK.rf Z h0).tr SKc3
  have K3 : Keep h0 T3.heap [] := (Keep.refl h0 []).trans Kc3 (fun x hx => nomatch hx)
  refine own_go (T' := T3) (g' := (mkF m 11 #[.val (.ref xo)] [(.ref r3)])) (fun _ k => st3 _ k) ?_
  obtain ⟨fs, hr, hrun, hended, hW, hsame⟩ := X3.leave (v := some (.ref r3)) (fun h => by rw [Bd.returns] at h; cases h)
  refine own_end (retOut X3 hx Bd.returns rfl (Or.inr (Or.inr (Or.inr (Or.inr ⟨rfl, rfl, rfl⟩)))) (hb hby own_dTa3_11) hr) hrun hended ⟨_, _, rfl, (?_ : own_QTa3 Z xo xa ka xm y0 y1 y2 h0 n0 _ T3.heap _), ⟨_, rfl⟩, hW, hsame.mono (by decide) (by decide)⟩
  exact ⟨rfl, N3, K3, SK3, r3, kr3, rfl, hz_r3, Vc3⟩
theorem own_dIe0_0 : decode jdk_38_method_9_code 0 = .ok (.aload_n 0, 1) := by decide +kernel
theorem own_dIe0_1 : decode jdk_38_method_9_code 1 = .ok (.getfield 48, 3) := by decide +kernel
theorem own_dIe0_4 : decode jdk_38_method_9_code 4 = .ok (.ifCond .ne 7, 3) := by decide +kernel
theorem own_dIe0_7 : decode jdk_38_method_9_code 7 = .ok (.iconst 1, 1) := by decide +kernel
theorem own_dIe0_8 : decode jdk_38_method_9_code 8 = .ok (.goto 4, 3) := by decide +kernel
theorem own_dIe0_12 : decode jdk_38_method_9_code 12 = .ok (.ireturn, 1) := by decide +kernel
theorem own_efIe0 (m : MethodId) (xo : Addr) : entryFrame m #[(.ref xo)] 1 = mkF m 0 #[.val (.ref xo)] [] := by first | (simp [entryFrame, mkF, argsToLocals, Value.category]; done) | rfl
def own_QIe0 (Z : State) (xo : Addr)  (h0 : Heap) (n0 : Nat) (v : Option Value) (h : Heap) (L : List Loc) : Prop := v = some (.int (1 : Int32)) ∧ Fr n0 L ∧ h = h0
set_option maxRecDepth 65536 in
set_option maxHeartbeats 40000000 in
theorem own_rIe0 (l : Launch) (Z : State) (a0 : Array Value) (hw : ∀ d ∈ tables_1, d.before a0 Z = true) (ws : List Jvm.Cond) (xo : Addr)  (h0 : Heap) (n0 : Nat) (Z0 : n0 ≤ h0.size) (Fs : Fld Z h0 xo "java/util/ArrayList" "size" "I" (.int (0 : Int32))) :
    MetFree l (⟨"java/util/ArrayList", "isEmpty", "()Z"⟩ : MethodName) (head1 (Jvm.Cond.code (⟨"java/util/ArrayList", "isEmpty", "()Z"⟩ : MethodName) jdk_38_method_9_code 1 (some .boolean) :: ws) ({ frames := 0, cells := 0, slots := 0, locals := 0 } : Room)) (fun a U => a = #[(.ref xo)] ∧ Z.Warmed39 U.vm ∧ U.heap = h0) (fun _ _ _ _ _ => True) (fun _ U o U' => ∃ v L, o = .returned v ∧ own_QIe0 Z xo h0 n0 v U'.heap L ∧ FrameEnd U o U' L ({ frames := 0, cells := 0, slots := 0, locals := 0 } : Room).cells ({ frames := 0, cells := 0, slots := 0, locals := 0 } : Room).slots) := by
  refine MetFree.of_bodySF (plainFor_of_name own_pn2) hisR ?_
  intro p e s m args below meth c s₁ Bd hml0 hP hK
  obtain ⟨rfl, hZ, hh⟩ := hP
  have hx := Bd.exec
  have hby := Bd.bytes
  have hml : c.maxLocals = 1 := hml0
  have hown : s.vm.findClass "java/util/ArrayList" = some m.cls := findClass_of_methodNamed Bd.named
  have hnm := (name_of_methodNamed Bd.named Bd.method).1
  have X0 : Stand p l e ({ frames := 0, cells := 0, slots := 0, locals := 0 } : Room) s m #[(.ref xo)] below meth c s₁ [] 0 0 := Stand.of_body Bd
  have e0 : s₁.heap = h0 := by rw [← hh, Bd.state]; rfl
  have N0 := Fr.nil n0
  show own_F p e below (fun o U' => ∃ v L, o = .returned v ∧ own_QIe0 Z xo h0 n0 v U'.heap L ∧ FrameEnd s o U' L ({ frames := 0, cells := 0, slots := 0, locals := 0 } : Room).cells ({ frames := 0, cells := 0, slots := 0, locals := 0 } : Room).slots) s₁ (entryFrame m #[(.ref xo)] 1)
  rw [own_efIe0 m xo]
  refine own_go (T' := s₁) (g' := (mkF m 1 #[.val (.ref xo)] [(.ref xo)])) (fun _ k => XS.aloadN X0.here hx rfl (hb hby own_dIe0_0) rfl rfl k) ?_
  obtain ⟨T1, X1, e1, st1⟩ := getF X0 hx hZ hown (host := "") (Or.inl (hw _ (List.mem_of_getElem? (i := 79) rfl))) Via.refl e0 Fs (g := (mkF m 1 #[.val (.ref xo)] [(.ref xo)])) rfl rfl (hb hby own_dIe0_1)
  refine own_go (T' := T1) (g' := (mkF m 4 #[.val (.ref xo)] [(.int (0 : Int32))])) (fun _ k => st1 _ k) ?_
  refine own_go (T' := T1) (g' := (mkF m 7 #[.val (.ref xo)] [])) (fun _ k => XS.ifNo X1.here hx rfl (hb hby own_dIe0_4) rfl ((if0 _ _).trans (teq ((by decide) : (0 : Int32) = (0 : Int32))).2) k) ?_
  refine own_go (T' := T1) (g' := (mkF m 8 #[.val (.ref xo)] [(.int (1 : Int32))])) (fun _ k => XS.iconst X1.here hx rfl (hb hby own_dIe0_7) k) ?_
  refine own_go (T' := T1) (g' := (mkF m 12 #[.val (.ref xo)] [(.int (1 : Int32))])) (fun _ k => XS.goto X1.here hx rfl (pc0 := 8) (pc' := 12) rfl (hb hby own_dIe0_8) (by decide) (by decide) k) ?_
  obtain ⟨fs, hr, hrun, hended, hW, hsame⟩ := X1.leave (v := some (.int (1 : Int32))) (fun h => by rw [Bd.returns] at h; cases h)
  refine own_end (retN X1 hx (t := .boolean) Bd.returns (by simp) (hb hby own_dIe0_12) hr) hrun hended ⟨_, _, rfl, (?_ : own_QIe0 Z xo h0 n0 _ T1.heap _), ⟨_, rfl⟩, hW, hsame.mono (by decide) (by decide)⟩
  rw [e1]
  exact ⟨rfl, N0, rfl⟩
theorem own_dIe1_0 : decode jdk_38_method_9_code 0 = .ok (.aload_n 0, 1) := by decide +kernel
theorem own_dIe1_1 : decode jdk_38_method_9_code 1 = .ok (.getfield 48, 3) := by decide +kernel
theorem own_dIe1_4 : decode jdk_38_method_9_code 4 = .ok (.ifCond .ne 7, 3) := by decide +kernel
theorem own_dIe1_11 : decode jdk_38_method_9_code 11 = .ok (.iconst 0, 1) := by decide +kernel
theorem own_dIe1_12 : decode jdk_38_method_9_code 12 = .ok (.ireturn, 1) := by decide +kernel
theorem own_efIe1 (m : MethodId) (xo : Addr) : entryFrame m #[(.ref xo)] 1 = mkF m 0 #[.val (.ref xo)] [] := by first | (simp [entryFrame, mkF, argsToLocals, Value.category]; done) | rfl
def own_QIe1 (Z : State) (xo : Addr)  (h0 : Heap) (n0 : Nat) (v : Option Value) (h : Heap) (L : List Loc) : Prop := v = some (.int (0 : Int32)) ∧ Fr n0 L ∧ h = h0
set_option maxRecDepth 65536 in
set_option maxHeartbeats 40000000 in
theorem own_rIe1 (l : Launch) (Z : State) (a0 : Array Value) (hw : ∀ d ∈ tables_1, d.before a0 Z = true) (ws : List Jvm.Cond) (xo : Addr)  (h0 : Heap) (n0 : Nat) (Z0 : n0 ≤ h0.size) (Fs : Fld Z h0 xo "java/util/ArrayList" "size" "I" (.int (1 : Int32))) :
    MetFree l (⟨"java/util/ArrayList", "isEmpty", "()Z"⟩ : MethodName) (head1 (Jvm.Cond.code (⟨"java/util/ArrayList", "isEmpty", "()Z"⟩ : MethodName) jdk_38_method_9_code 1 (some .boolean) :: ws) ({ frames := 0, cells := 0, slots := 0, locals := 0 } : Room)) (fun a U => a = #[(.ref xo)] ∧ Z.Warmed39 U.vm ∧ U.heap = h0) (fun _ _ _ _ _ => True) (fun _ U o U' => ∃ v L, o = .returned v ∧ own_QIe1 Z xo h0 n0 v U'.heap L ∧ FrameEnd U o U' L ({ frames := 0, cells := 0, slots := 0, locals := 0 } : Room).cells ({ frames := 0, cells := 0, slots := 0, locals := 0 } : Room).slots) := by
  refine MetFree.of_bodySF (plainFor_of_name own_pn2) hisR ?_
  intro p e s m args below meth c s₁ Bd hml0 hP hK
  obtain ⟨rfl, hZ, hh⟩ := hP
  have hx := Bd.exec
  have hby := Bd.bytes
  have hml : c.maxLocals = 1 := hml0
  have hown : s.vm.findClass "java/util/ArrayList" = some m.cls := findClass_of_methodNamed Bd.named
  have hnm := (name_of_methodNamed Bd.named Bd.method).1
  have X0 : Stand p l e ({ frames := 0, cells := 0, slots := 0, locals := 0 } : Room) s m #[(.ref xo)] below meth c s₁ [] 0 0 := Stand.of_body Bd
  have e0 : s₁.heap = h0 := by rw [← hh, Bd.state]; rfl
  have N0 := Fr.nil n0
  show own_F p e below (fun o U' => ∃ v L, o = .returned v ∧ own_QIe1 Z xo h0 n0 v U'.heap L ∧ FrameEnd s o U' L ({ frames := 0, cells := 0, slots := 0, locals := 0 } : Room).cells ({ frames := 0, cells := 0, slots := 0, locals := 0 } : Room).slots) s₁ (entryFrame m #[(.ref xo)] 1)
  rw [own_efIe1 m xo]
  refine own_go (T' := s₁) (g' := (mkF m 1 #[.val (.ref xo)] [(.ref xo)])) (fun _ k => XS.aloadN X0.here hx rfl (hb hby own_dIe1_0) rfl rfl k) ?_
  obtain ⟨T1, X1, e1, st1⟩ := getF X0 hx hZ hown (host := "") (Or.inl (hw _ (List.mem_of_getElem? (i := 79) rfl))) Via.refl e0 Fs (g := (mkF m 1 #[.val (.ref xo)] [(.ref xo)])) rfl rfl (hb hby own_dIe1_1)
  refine own_go (T' := T1) (g' := (mkF m 4 #[.val (.ref xo)] [(.int (1 : Int32))])) (fun _ k => st1 _ k) ?_
  refine own_go (T' := T1) (g' := (mkF m 11 #[.val (.ref xo)] [])) (fun _ k => XS.ifYes X1.here hx rfl (pc0 := 4) (pc' := 11) rfl (hb hby own_dIe1_4) rfl ((if0 _ _).trans (feq ((by decide) : ¬ ((1 : Int32) = (0 : Int32)))).2) (by decide) (by decide) k) ?_
  refine own_go (T' := T1) (g' := (mkF m 12 #[.val (.ref xo)] [(.int (0 : Int32))])) (fun _ k => XS.iconst X1.here hx rfl (hb hby own_dIe1_11) k) ?_
  obtain ⟨fs, hr, hrun, hended, hW, hsame⟩ := X1.leave (v := some (.int (0 : Int32))) (fun h => by rw [Bd.returns] at h; cases h)
  refine own_end (retN X1 hx (t := .boolean) Bd.returns (by simp) (hb hby own_dIe1_12) hr) hrun hended ⟨_, _, rfl, (?_ : own_QIe1 Z xo h0 n0 _ T1.heap _), ⟨_, rfl⟩, hW, hsame.mono (by decide) (by decide)⟩
  rw [e1]
  exact ⟨rfl, N0, rfl⟩
theorem own_dIe2_0 : decode jdk_38_method_9_code 0 = .ok (.aload_n 0, 1) := by decide +kernel
theorem own_dIe2_1 : decode jdk_38_method_9_code 1 = .ok (.getfield 48, 3) := by decide +kernel
theorem own_dIe2_4 : decode jdk_38_method_9_code 4 = .ok (.ifCond .ne 7, 3) := by decide +kernel
theorem own_dIe2_11 : decode jdk_38_method_9_code 11 = .ok (.iconst 0, 1) := by decide +kernel
theorem own_dIe2_12 : decode jdk_38_method_9_code 12 = .ok (.ireturn, 1) := by decide +kernel
theorem own_efIe2 (m : MethodId) (xo : Addr) : entryFrame m #[(.ref xo)] 1 = mkF m 0 #[.val (.ref xo)] [] := by first | (simp [entryFrame, mkF, argsToLocals, Value.category]; done) | rfl
def own_QIe2 (Z : State) (xo : Addr)  (h0 : Heap) (n0 : Nat) (v : Option Value) (h : Heap) (L : List Loc) : Prop := v = some (.int (0 : Int32)) ∧ Fr n0 L ∧ h = h0
set_option maxRecDepth 65536 in
set_option maxHeartbeats 40000000 in
theorem own_rIe2 (l : Launch) (Z : State) (a0 : Array Value) (hw : ∀ d ∈ tables_1, d.before a0 Z = true) (ws : List Jvm.Cond) (xo : Addr)  (h0 : Heap) (n0 : Nat) (Z0 : n0 ≤ h0.size) (Fs : Fld Z h0 xo "java/util/ArrayList" "size" "I" (.int (2 : Int32))) :
    MetFree l (⟨"java/util/ArrayList", "isEmpty", "()Z"⟩ : MethodName) (head1 (Jvm.Cond.code (⟨"java/util/ArrayList", "isEmpty", "()Z"⟩ : MethodName) jdk_38_method_9_code 1 (some .boolean) :: ws) ({ frames := 0, cells := 0, slots := 0, locals := 0 } : Room)) (fun a U => a = #[(.ref xo)] ∧ Z.Warmed39 U.vm ∧ U.heap = h0) (fun _ _ _ _ _ => True) (fun _ U o U' => ∃ v L, o = .returned v ∧ own_QIe2 Z xo h0 n0 v U'.heap L ∧ FrameEnd U o U' L ({ frames := 0, cells := 0, slots := 0, locals := 0 } : Room).cells ({ frames := 0, cells := 0, slots := 0, locals := 0 } : Room).slots) := by
  refine MetFree.of_bodySF (plainFor_of_name own_pn2) hisR ?_
  intro p e s m args below meth c s₁ Bd hml0 hP hK
  obtain ⟨rfl, hZ, hh⟩ := hP
  have hx := Bd.exec
  have hby := Bd.bytes
  have hml : c.maxLocals = 1 := hml0
  have hown : s.vm.findClass "java/util/ArrayList" = some m.cls := findClass_of_methodNamed Bd.named
  have hnm := (name_of_methodNamed Bd.named Bd.method).1
  have X0 : Stand p l e ({ frames := 0, cells := 0, slots := 0, locals := 0 } : Room) s m #[(.ref xo)] below meth c s₁ [] 0 0 := Stand.of_body Bd
  have e0 : s₁.heap = h0 := by rw [← hh, Bd.state]; rfl
  have N0 := Fr.nil n0
  show own_F p e below (fun o U' => ∃ v L, o = .returned v ∧ own_QIe2 Z xo h0 n0 v U'.heap L ∧ FrameEnd s o U' L ({ frames := 0, cells := 0, slots := 0, locals := 0 } : Room).cells ({ frames := 0, cells := 0, slots := 0, locals := 0 } : Room).slots) s₁ (entryFrame m #[(.ref xo)] 1)
  rw [own_efIe2 m xo]
  refine own_go (T' := s₁) (g' := (mkF m 1 #[.val (.ref xo)] [(.ref xo)])) (fun _ k => XS.aloadN X0.here hx rfl (hb hby own_dIe2_0) rfl rfl k) ?_
  obtain ⟨T1, X1, e1, st1⟩ := getF X0 hx hZ hown (host := "") (Or.inl (hw _ (List.mem_of_getElem? (i := 79) rfl))) Via.refl e0 Fs (g := (mkF m 1 #[.val (.ref xo)] [(.ref xo)])) rfl rfl (hb hby own_dIe2_1)
  refine own_go (T' := T1) (g' := (mkF m 4 #[.val (.ref xo)] [(.int (2 : Int32))])) (fun _ k => st1 _ k) ?_
  refine own_go (T' := T1) (g' := (mkF m 11 #[.val (.ref xo)] [])) (fun _ k => XS.ifYes X1.here hx rfl (pc0 := 4) (pc' := 11) rfl (hb hby own_dIe2_4) rfl ((if0 _ _).trans (feq ((by decide) : ¬ ((2 : Int32) = (0 : Int32)))).2) (by decide) (by decide) k) ?_
  refine own_go (T' := T1) (g' := (mkF m 12 #[.val (.ref xo)] [(.int (0 : Int32))])) (fun _ k => XS.iconst X1.here hx rfl (hb hby own_dIe2_11) k) ?_
  obtain ⟨fs, hr, hrun, hended, hW, hsame⟩ := X1.leave (v := some (.int (0 : Int32))) (fun h => by rw [Bd.returns] at h; cases h)
  refine own_end (retN X1 hx (t := .boolean) Bd.returns (by simp) (hb hby own_dIe2_12) hr) hrun hended ⟨_, _, rfl, (?_ : own_QIe2 Z xo h0 n0 _ T1.heap _), ⟨_, rfl⟩, hW, hsame.mono (by decide) (by decide)⟩
  rw [e1]
  exact ⟨rfl, N0, rfl⟩
theorem own_dIe3_0 : decode jdk_38_method_9_code 0 = .ok (.aload_n 0, 1) := by decide +kernel
theorem own_dIe3_1 : decode jdk_38_method_9_code 1 = .ok (.getfield 48, 3) := by decide +kernel
theorem own_dIe3_4 : decode jdk_38_method_9_code 4 = .ok (.ifCond .ne 7, 3) := by decide +kernel
theorem own_dIe3_11 : decode jdk_38_method_9_code 11 = .ok (.iconst 0, 1) := by decide +kernel
theorem own_dIe3_12 : decode jdk_38_method_9_code 12 = .ok (.ireturn, 1) := by decide +kernel
theorem own_efIe3 (m : MethodId) (xo : Addr) : entryFrame m #[(.ref xo)] 1 = mkF m 0 #[.val (.ref xo)] [] := by first | (simp [entryFrame, mkF, argsToLocals, Value.category]; done) | rfl
def own_QIe3 (Z : State) (xo : Addr)  (h0 : Heap) (n0 : Nat) (v : Option Value) (h : Heap) (L : List Loc) : Prop := v = some (.int (0 : Int32)) ∧ Fr n0 L ∧ h = h0
set_option maxRecDepth 65536 in
set_option maxHeartbeats 40000000 in
theorem own_rIe3 (l : Launch) (Z : State) (a0 : Array Value) (hw : ∀ d ∈ tables_1, d.before a0 Z = true) (ws : List Jvm.Cond) (xo : Addr)  (h0 : Heap) (n0 : Nat) (Z0 : n0 ≤ h0.size) (Fs : Fld Z h0 xo "java/util/ArrayList" "size" "I" (.int (3 : Int32))) :
    MetFree l (⟨"java/util/ArrayList", "isEmpty", "()Z"⟩ : MethodName) (head1 (Jvm.Cond.code (⟨"java/util/ArrayList", "isEmpty", "()Z"⟩ : MethodName) jdk_38_method_9_code 1 (some .boolean) :: ws) ({ frames := 0, cells := 0, slots := 0, locals := 0 } : Room)) (fun a U => a = #[(.ref xo)] ∧ Z.Warmed39 U.vm ∧ U.heap = h0) (fun _ _ _ _ _ => True) (fun _ U o U' => ∃ v L, o = .returned v ∧ own_QIe3 Z xo h0 n0 v U'.heap L ∧ FrameEnd U o U' L ({ frames := 0, cells := 0, slots := 0, locals := 0 } : Room).cells ({ frames := 0, cells := 0, slots := 0, locals := 0 } : Room).slots) := by
  refine MetFree.of_bodySF (plainFor_of_name own_pn2) hisR ?_
  intro p e s m args below meth c s₁ Bd hml0 hP hK
  obtain ⟨rfl, hZ, hh⟩ := hP
  have hx := Bd.exec
  have hby := Bd.bytes
  have hml : c.maxLocals = 1 := hml0
  have hown : s.vm.findClass "java/util/ArrayList" = some m.cls := findClass_of_methodNamed Bd.named
  have hnm := (name_of_methodNamed Bd.named Bd.method).1
  have X0 : Stand p l e ({ frames := 0, cells := 0, slots := 0, locals := 0 } : Room) s m #[(.ref xo)] below meth c s₁ [] 0 0 := Stand.of_body Bd
  have e0 : s₁.heap = h0 := by rw [← hh, Bd.state]; rfl
  have N0 := Fr.nil n0
  show own_F p e below (fun o U' => ∃ v L, o = .returned v ∧ own_QIe3 Z xo h0 n0 v U'.heap L ∧ FrameEnd s o U' L ({ frames := 0, cells := 0, slots := 0, locals := 0 } : Room).cells ({ frames := 0, cells := 0, slots := 0, locals := 0 } : Room).slots) s₁ (entryFrame m #[(.ref xo)] 1)
  rw [own_efIe3 m xo]
  refine own_go (T' := s₁) (g' := (mkF m 1 #[.val (.ref xo)] [(.ref xo)])) (fun _ k => XS.aloadN X0.here hx rfl (hb hby own_dIe3_0) rfl rfl k) ?_
  obtain ⟨T1, X1, e1, st1⟩ := getF X0 hx hZ hown (host := "") (Or.inl (hw _ (List.mem_of_getElem? (i := 79) rfl))) Via.refl e0 Fs (g := (mkF m 1 #[.val (.ref xo)] [(.ref xo)])) rfl rfl (hb hby own_dIe3_1)
  refine own_go (T' := T1) (g' := (mkF m 4 #[.val (.ref xo)] [(.int (3 : Int32))])) (fun _ k => st1 _ k) ?_
  refine own_go (T' := T1) (g' := (mkF m 11 #[.val (.ref xo)] [])) (fun _ k => XS.ifYes X1.here hx rfl (pc0 := 4) (pc' := 11) rfl (hb hby own_dIe3_4) rfl ((if0 _ _).trans (feq ((by decide) : ¬ ((3 : Int32) = (0 : Int32)))).2) (by decide) (by decide) k) ?_
  refine own_go (T' := T1) (g' := (mkF m 12 #[.val (.ref xo)] [(.int (0 : Int32))])) (fun _ k => XS.iconst X1.here hx rfl (hb hby own_dIe3_11) k) ?_
  obtain ⟨fs, hr, hrun, hended, hW, hsame⟩ := X1.leave (v := some (.int (0 : Int32))) (fun h => by rw [Bd.returns] at h; cases h)
  refine own_end (retN X1 hx (t := .boolean) Bd.returns (by simp) (hb hby own_dIe3_12) hr) hrun hended ⟨_, _, rfl, (?_ : own_QIe3 Z xo h0 n0 _ T1.heap _), ⟨_, rfl⟩, hW, hsame.mono (by decide) (by decide)⟩
  rw [e1]
  exact ⟨rfl, N0, rfl⟩
theorem own_pd10 : parseMethodDescriptor "([Ljava/lang/Object;Z)V" = some ⟨[(.array (.object "java/lang/Object")), .boolean], none⟩ := by decide +kernel
theorem own_dLfa_0 : decode jdk_56_method_4_code 0 = .ok (.aload_n 0, 1) := by decide +kernel
theorem own_dLfa_1 : decode jdk_56_method_4_code 1 = .ok (.arraylength, 1) := by decide +kernel
theorem own_dLfa_2 : decode jdk_56_method_4_code 2 = .ok (.anewarray 2, 3) := by decide +kernel
theorem own_dLfa_5 : decode jdk_56_method_4_code 5 = .ok (.astore_n 1, 1) := by decide +kernel
theorem own_dLfa_6 : decode jdk_56_method_4_code 6 = .ok (.iconst 0, 1) := by decide +kernel
theorem own_dLfa_7 : decode jdk_56_method_4_code 7 = .ok (.istore_n 2, 1) := by decide +kernel
theorem own_dLfa_8 : decode jdk_56_method_4_code 8 = .ok (.iload_n 2, 1) := by decide +kernel
theorem own_dLfa_9 : decode jdk_56_method_4_code 9 = .ok (.aload_n 0, 1) := by decide +kernel
theorem own_dLfa_10 : decode jdk_56_method_4_code 10 = .ok (.arraylength, 1) := by decide +kernel
theorem own_dLfa_11 : decode jdk_56_method_4_code 11 = .ok (.if_icmp .ge 18, 3) := by decide +kernel
theorem own_dLfa_14 : decode jdk_56_method_4_code 14 = .ok (.aload_n 1, 1) := by decide +kernel
theorem own_dLfa_15 : decode jdk_56_method_4_code 15 = .ok (.iload_n 2, 1) := by decide +kernel
theorem own_dLfa_16 : decode jdk_56_method_4_code 16 = .ok (.aload_n 0, 1) := by decide +kernel
theorem own_dLfa_17 : decode jdk_56_method_4_code 17 = .ok (.iload_n 2, 1) := by decide +kernel
theorem own_dLfa_18 : decode jdk_56_method_4_code 18 = .ok (.aaload, 1) := by decide +kernel
theorem own_dLfa_19 : decode jdk_56_method_4_code 19 = .ok (.invokestatic 37, 3) := by decide +kernel
theorem own_dLfa_22 : decode jdk_56_method_4_code 22 = .ok (.aastore, 1) := by decide +kernel
theorem own_dLfa_23 : decode jdk_56_method_4_code 23 = .ok (.iinc 2 1, 3) := by decide +kernel
theorem own_dLfa_26 : decode jdk_56_method_4_code 26 = .ok (.goto (-18), 3) := by decide +kernel
theorem own_dLfa_29 : decode jdk_56_method_4_code 29 = .ok (.new 12, 3) := by decide +kernel
theorem own_dLfa_32 : decode jdk_56_method_4_code 32 = .ok (.dup, 1) := by decide +kernel
theorem own_dLfa_33 : decode jdk_56_method_4_code 33 = .ok (.aload_n 1, 1) := by decide +kernel
theorem own_dLfa_34 : decode jdk_56_method_4_code 34 = .ok (.iconst 0, 1) := by decide +kernel
theorem own_dLfa_35 : decode jdk_56_method_4_code 35 = .ok (.invokespecial 43, 3) := by decide +kernel
theorem own_dLfa_38 : decode jdk_56_method_4_code 38 = .ok (.areturn, 1) := by decide +kernel
theorem own_efLfa (m : MethodId) (xa : Addr) : entryFrame m #[(.ref xa)] 3 = mkF m 0 #[.val (.ref xa), .unset, .unset] [] := by first | (simp [entryFrame, mkF, argsToLocals, Value.category]; done) | rfl
def own_QLfa (Z : State) (xa : Addr) (ka : ClassId) (y0 : Addr) (y1 : Addr) (y2 : Addr) (h0 : Heap) (n0 : Nat) (v : Option Value) (h : Heap) (L : List Loc) : Prop := v = v ∧ Fr n0 L ∧ Keep h0 h [] ∧ own_SK Z h0 h ∧ ∃ r ra kr, v = some (.ref r) ∧ h0.size ≤ r ∧ Exa Z h r "java/util/ImmutableCollections$ListN" ∧ Fld Z h r "java/util/ImmutableCollections$ListN" "elements" "[Ljava/lang/Object;" (.ref ra) ∧ own_A Z h ra kr (.object "java/lang/Object") [(.ref y0), (.ref y1), (.ref y2)]
theorem own_pn11 : plainName "java/util/ImmutableCollections" = true := by first | (simp [plainName, overriddenIn]; done) | decide +kernel
set_option maxRecDepth 65536 in
set_option maxHeartbeats 40000000 in
theorem own_rLfa (l : Launch) (Z : State) (a0 : Array Value) (hw : ∀ d ∈ tables_1, d.before a0 Z = true) (ws : List Jvm.Cond) (xa : Addr) (ka : ClassId) (y0 : Addr) (y1 : Addr) (y2 : Addr) (h0 : Heap) (n0 : Nat) (Z0 : n0 ≤ h0.size) (Va : own_A Z h0 xa ka (.object "java/lang/Object") [(.ref y0), (.ref y1), (.ref y2)]) (Ey0 : Exa Z h0 y0 "java/time/Duration") (Ey1 : Exa Z h0 y1 "java/time/Duration") (Ey2 : Exa Z h0 y2 "java/time/Duration") :
    MetFree l (⟨"java/util/ImmutableCollections", "listFromArray", "([Ljava/lang/Object;)Ljava/util/List;"⟩ : MethodName) (head1 (Jvm.Cond.code (⟨"java/util/ImmutableCollections", "listFromArray", "([Ljava/lang/Object;)Ljava/util/List;"⟩ : MethodName) jdk_56_method_4_code 3 (some (.object "java/util/List")) :: ws) ({ frames := 5, cells := 2, slots := 5, locals := 63 } : Room)) (fun a U => a = #[(.ref xa)] ∧ Z.Warmed39 U.vm ∧ U.heap = h0) (fun _ _ _ _ _ => True) (fun _ U o U' => ∃ v L, o = .returned v ∧ own_QLfa Z xa ka y0 y1 y2 h0 n0 v U'.heap L ∧ FrameEnd U o U' L ({ frames := 5, cells := 2, slots := 5, locals := 63 } : Room).cells ({ frames := 5, cells := 2, slots := 5, locals := 63 } : Room).slots) := by
  refine MetFree.of_bodySF (plainFor_of_name own_pn11) hisR ?_
  intro p e s m args below meth c s₁ Bd hml0 hP hK
  obtain ⟨rfl, hZ, hh⟩ := hP
  have hx := Bd.exec
  have hby := Bd.bytes
  have hml : c.maxLocals = 3 := hml0
  have hown : s.vm.findClass "java/util/ImmutableCollections" = some m.cls := findClass_of_methodNamed Bd.named
  have hnm := (name_of_methodNamed Bd.named Bd.method).1
  have X0 : Stand p l e ({ frames := 5, cells := 2, slots := 5, locals := 63 } : Room) s m #[(.ref xa)] below meth c s₁ [] 0 0 := Stand.of_body Bd
  have e0 : s₁.heap = h0 := by rw [← hh, Bd.state]; rfl
  have N0 := Fr.nil n0
  show own_F p e below (fun o U' => ∃ v L, o = .returned v ∧ own_QLfa Z xa ka y0 y1 y2 h0 n0 v U'.heap L ∧ FrameEnd s o U' L ({ frames := 5, cells := 2, slots := 5, locals := 63 } : Room).cells ({ frames := 5, cells := 2, slots := 5, locals := 63 } : Room).slots) s₁ (entryFrame m #[(.ref xa)] 3)
  rw [own_efLfa m xa]
  refine own_go (T' := s₁) (g' := (mkF m 1 #[.val (.ref xa), .unset, .unset] [(.ref xa)])) (fun _ k => XS.aloadN X0.here hx rfl (hb hby own_dLfa_0) rfl rfl k) ?_
  refine own_go (T' := s₁) (g' := (mkF m 2 #[.val (.ref xa), .unset, .unset] [(.int (3 : Int32))])) (fun _ k => own_alen X0 hx hZ e0 Va (g := (mkF m 1 #[.val (.ref xa), .unset, .unset] [(.ref xa)])) rfl rfl (hb hby own_dLfa_1) (n := (3 : Int32)) rfl k) ?_
  obtain ⟨T1, h1, k1, X1, e1, E1, A1, Ea1, Ov1, st1⟩ := newRE X0 hx hZ hown (hw _ (List.mem_of_getElem? (i := 170) rfl)) (hw _ (List.mem_of_getElem? (i := 132) rfl)) e0 (g := (mkF m 2 #[.val (.ref xa), .unset, .unset] [(.int (3 : Int32))])) rfl (hb hby own_dLfa_2) rfl (by decide) (cap := 3) (by decide) (by decide) (by decide) (by decide) (ad := "[Ljava/lang/Object;") rfl
  obtain ⟨b1, g1⟩ : ∃ z, z = h0.size := ⟨_, rfl⟩
  rw [← g1] at A1 Ea1 st1
  have ne_xa_b1 : xa ≠ b1 := Nat.ne_of_lt (Nat.lt_of_lt_of_le Va.lt (Nat.le_of_eq g1.symm))
  have ne_y0_b1 : y0 ≠ b1 := Nat.ne_of_lt (Nat.lt_of_lt_of_le Ey0.lt (Nat.le_of_eq g1.symm))
  have ne_y1_b1 : y1 ≠ b1 := Nat.ne_of_lt (Nat.lt_of_lt_of_le Ey1.lt (Nat.le_of_eq g1.symm))
  have ne_y2_b1 : y2 ≠ b1 := Nat.ne_of_lt (Nat.lt_of_lt_of_le Ey2.lt (Nat.le_of_eq g1.symm))
  have gz_b1 : n0 ≤ b1 := Nat.le_trans Z0 (Nat.le_of_eq g1.symm)
  have hz_b1 : h0.size ≤ b1 := Nat.le_trans (Keep.refl h0 []).1 (Nat.le_of_eq g1.symm)
  have Vk2 := Va.ext E1
  have Ek3 := Ey0.ext E1
  have Ek4 := Ey1.ext E1
  have Ek5 := Ey2.ext E1
  have Z1 : n0 ≤ h1.size := Nat.le_trans Z0 E1.1
  have K1 : Keep h0 h1 [] := (Keep.refl h0 []).ext E1
  have SK1 : own_SK Z h0 h1 := (own_SK.rf Z h0).ext E1
  have V1 : own_A Z h1 b1 k1 (.object "java/lang/Object") [.null, .null, .null] := own_A.new A1 (N := 3) rfl
  refine own_go (T' := T1) (g' := (mkF m 5 #[.val (.ref xa), .unset, .unset] [(.ref b1)])) (fun _ k => st1 _ k) ?_
  refine own_go (T' := T1) (g' := (mkF m 6 #[.val (.ref xa), .val (.ref b1), .unset] [])) (fun _ k => XS.astoreN X1.here hx rfl (hb hby own_dLfa_5) rfl rfl (l' := #[.val (.ref xa), .val (.ref b1), .unset]) rfl k) ?_
  refine own_go (T' := T1) (g' := (mkF m 7 #[.val (.ref xa), .val (.ref b1), .unset] [(.int (0 : Int32))])) (fun _ k => XS.iconst X1.here hx rfl (hb hby own_dLfa_6) k) ?_
  refine own_go (T' := T1) (g' := (mkF m 8 #[.val (.ref xa), .val (.ref b1), .val (.int (0 : Int32))] [])) (fun _ k => XS.istoreN X1.here hx rfl (hb hby own_dLfa_7) rfl (l' := #[.val (.ref xa), .val (.ref b1), .val (.int (0 : Int32))]) rfl k) ?_
  refine own_go (T' := T1) (g' := (mkF m 9 #[.val (.ref xa), .val (.ref b1), .val (.int (0 : Int32))] [(.int (0 : Int32))])) (fun _ k => XS.iloadN X1.here hx rfl (hb hby own_dLfa_8) rfl k) ?_
  refine own_go (T' := T1) (g' := (mkF m 10 #[.val (.ref xa), .val (.ref b1), .val (.int (0 : Int32))] [(.ref xa), (.int (0 : Int32))])) (fun _ k => XS.aloadN X1.here hx rfl (hb hby own_dLfa_9) rfl rfl k) ?_
  refine own_go (T' := T1) (g' := (mkF m 11 #[.val (.ref xa), .val (.ref b1), .val (.int (0 : Int32))] [(.int (3 : Int32)), (.int (0 : Int32))])) (fun _ k => own_alen X1 hx hZ e1 Vk2 (g := (mkF m 10 #[.val (.ref xa), .val (.ref b1), .val (.int (0 : Int32))] [(.ref xa), (.int (0 : Int32))])) rfl rfl (hb hby own_dLfa_10) (n := (3 : Int32)) rfl k) ?_
  refine own_go (T' := T1) (g' := (mkF m 14 #[.val (.ref xa), .val (.ref b1), .val (.int (0 : Int32))] [])) (fun _ k => XS.icmpNo X1.here hx rfl (hb hby own_dLfa_11) rfl (tlt ((by decide) : (0 : Int32) < (3 : Int32))).2.1 k) ?_
  refine own_go (T' := T1) (g' := (mkF m 15 #[.val (.ref xa), .val (.ref b1), .val (.int (0 : Int32))] [(.ref b1)])) (fun _ k => XS.aloadN X1.here hx rfl (hb hby own_dLfa_14) rfl rfl k) ?_
  refine own_go (T' := T1) (g' := (mkF m 16 #[.val (.ref xa), .val (.ref b1), .val (.int (0 : Int32))] [(.int (0 : Int32)), (.ref b1)])) (fun _ k => XS.iloadN X1.here hx rfl (hb hby own_dLfa_15) rfl k) ?_
  refine own_go (T' := T1) (g' := (mkF m 17 #[.val (.ref xa), .val (.ref b1), .val (.int (0 : Int32))] [(.ref xa), (.int (0 : Int32)), (.ref b1)])) (fun _ k => XS.aloadN X1.here hx rfl (hb hby own_dLfa_16) rfl rfl k) ?_
  refine own_go (T' := T1) (g' := (mkF m 18 #[.val (.ref xa), .val (.ref b1), .val (.int (0 : Int32))] [(.int (0 : Int32)), (.ref xa), (.int (0 : Int32)), (.ref b1)])) (fun _ k => XS.iloadN X1.here hx rfl (hb hby own_dLfa_17) rfl k) ?_
  refine own_go (T' := T1) (g' := (mkF m 19 #[.val (.ref xa), .val (.ref b1), .val (.int (0 : Int32))] [(.ref y0), (.int (0 : Int32)), (.ref b1)])) (fun _ k => own_aaload X1 hx hZ e1 Vk2 (j := (0 : Int32)) (v := (.ref y0)) (by decide) rfl rfl (g := (mkF m 18 #[.val (.ref xa), .val (.ref b1), .val (.int (0 : Int32))] [(.int (0 : Int32)), (.ref xa), (.int (0 : Int32)), (.ref b1)])) rfl rfl (hb hby own_dLfa_18) k) ?_
  obtain ⟨_, _, ⟨T6, L6, k6, n6⟩, -, X6, ⟨Lc6, hQ6, l6, y6, z6⟩, st6⟩ := Jvm.LawKit.callS X1 hx (y := (⟨"java/util/Objects", "requireNonNull", "(Ljava/lang/Object;)Ljava/lang/Object;"⟩ : MethodName)) hown (mvT hZ (hw _ (List.mem_of_getElem? (i := 171) rfl))) (mvT hZ (hw _ (List.mem_of_getElem? (i := 172) rfl))) (mvT hZ (hw _ (List.mem_of_getElem? (i := 173) rfl))) (mvT hZ (hw _ (List.mem_of_getElem? (i := 174) rfl))) (by decide) (backOf (W := 2) (own_rRnn l Z a0 hw [] y0 h1 n0 Z1 ) hZ (hw _ (List.mem_of_getElem? (i := 174) rfl)) (hw _ (List.mem_of_getElem? (i := 173) rfl)) (by decide) (by decide)) (g := (mkF m 19 #[.val (.ref xa), .val (.ref b1), .val (.int (0 : Int32))] [(.ref y0), (.int (0 : Int32)), (.ref b1)])) rfl (by rw [hml]; rfl) (argsL := [(.ref y0)]) (rest := [(.int (0 : Int32)), (.ref b1)]) (lenOf own_pd7 rfl) rfl (by show 2 * 0 + _ ≤ _; exact Nat.le_of_eq rfl) (hb hby own_dLfa_19) (fun _ _ => ⟨rfl, e1, (by decide : 1 + 0 ≤ _), (by decide : 3 + 0 ≤ _)⟩)
  dsimp only [Pt.U, Pt.locs, Pt.cells, Pt.slots] at X6 l6 y6 z6 st6 hQ6
  subst l6 y6 z6
  obtain ⟨rfl, N6q, e6⟩ := hQ6
  have N6 := Fr.app N0 N6q
  refine own_go (T' := T6) (g' := (mkF m 22 #[.val (.ref xa), .val (.ref b1), .val (.int (0 : Int32))] [(.ref y0), (.int (0 : Int32)), (.ref b1)])) (fun _ k => st6 _ k) ?_
  obtain ⟨T7, h7, X7, e7, V7, W7, st7⟩ := own_aastore X6 hx hZ e6 V1 (j := (0 : Int32)) (i := 0) rfl (by decide) (Nat.le_of_ble_eq_true rfl) rfl (own_A.sto V1 Ov1 (Ins.of_exa Ek3 (hw _ (List.mem_of_getElem? (i := 133) rfl)))) (g := (mkF m 22 #[.val (.ref xa), .val (.ref b1), .val (.int (0 : Int32))] [(.ref y0), (.int (0 : Int32)), (.ref b1)])) rfl rfl (hb hby own_dLfa_22)
  have Va7 : own_A Z h7 b1 k1 (.object "java/lang/Object") [(.ref y0), .null, .null] := V7
  have Vk8 := Vk2.other W7 ne_xa_b1
  have Ek9 := Ek3.wr W7
  have Ek10 := Ek4.wr W7
  have Ek11 := Ek5.wr W7
  have Z7 : n0 ≤ h7.size := Nat.le_trans Z1 (Keep.of_wr W7).1
  have K7 : Keep h0 h7 [] := K1.wr W7 (Or.inr hz_b1)
  have N7 := Fr.snoc X7 N6 gz_b1
  have SK7 : own_SK Z h0 h7 := SK1.wr W7
  refine own_go (T' := T7) (g' := (mkF m 23 #[.val (.ref xa), .val (.ref b1), .val (.int (0 : Int32))] [])) (fun _ k => st7 _ k) ?_
  refine own_go (T' := T7) (g' := (mkF m 26 #[.val (.ref xa), .val (.ref b1), .val (.int (1 : Int32))] [])) (fun _ k => XS.iinc X7.here hx rfl (hb hby own_dLfa_23) rfl (l' := #[.val (.ref xa), .val (.ref b1), .val (.int (1 : Int32))]) rfl k) ?_
  refine own_go (T' := T7) (g' := (mkF m 8 #[.val (.ref xa), .val (.ref b1), .val (.int (1 : Int32))] [])) (fun _ k => XS.goto X7.here hx rfl (pc0 := 26) (pc' := 8) rfl (hb hby own_dLfa_26) (by decide) (by decide) k) ?_
  refine own_go (T' := T7) (g' := (mkF m 9 #[.val (.ref xa), .val (.ref b1), .val (.int (1 : Int32))] [(.int (1 : Int32))])) (fun _ k => XS.iloadN X7.here hx rfl (hb hby own_dLfa_8) rfl k) ?_
  refine own_go (T' := T7) (g' := (mkF m 10 #[.val (.ref xa), .val (.ref b1), .val (.int (1 : Int32))] [(.ref xa), (.int (1 : Int32))])) (fun _ k => XS.aloadN X7.here hx rfl (hb hby own_dLfa_9) rfl rfl k) ?_
  refine own_go (T' := T7) (g' := (mkF m 11 #[.val (.ref xa), .val (.ref b1), .val (.int (1 : Int32))] [(.int (3 : Int32)), (.int (1 : Int32))])) (fun _ k => own_alen X7 hx hZ e7 Vk8 (g := (mkF m 10 #[.val (.ref xa), .val (.ref b1), .val (.int (1 : Int32))] [(.ref xa), (.int (1 : Int32))])) rfl rfl (hb hby own_dLfa_10) (n := (3 : Int32)) rfl k) ?_
  refine own_go (T' := T7) (g' := (mkF m 14 #[.val (.ref xa), .val (.ref b1), .val (.int (1 : Int32))] [])) (fun _ k => XS.icmpNo X7.here hx rfl (hb hby own_dLfa_11) rfl (tlt ((by decide) : (1 : Int32) < (3 : Int32))).2.1 k) ?_
  refine own_go (T' := T7) (g' := (mkF m 15 #[.val (.ref xa), .val (.ref b1), .val (.int (1 : Int32))] [(.ref b1)])) (fun _ k => XS.aloadN X7.here hx rfl (hb hby own_dLfa_14) rfl rfl k) ?_
  refine own_go (T' := T7) (g' := (mkF m 16 #[.val (.ref xa), .val (.ref b1), .val (.int (1 : Int32))] [(.int (1 : Int32)), (.ref b1)])) (fun _ k => XS.iloadN X7.here hx rfl (hb hby own_dLfa_15) rfl k) ?_
  refine own_go (T' := T7) (g' := (mkF m 17 #[.val (.ref xa), .val (.ref b1), .val (.int (1 : Int32))] [(.ref xa), (.int (1 : Int32)), (.ref b1)])) (fun _ k => XS.aloadN X7.here hx rfl (hb hby own_dLfa_16) rfl rfl k) ?_
  refine own_go (T' := T7) (g' := (mkF m 18 #[.val (.ref xa), .val (.ref b1), .val (.int (1 : Int32))] [(.int (1 : Int32)), (.ref xa), (.int (1 : Int32)), (.ref b1)])) (fun _ k => XS.iloadN X7.here hx rfl (hb hby own_dLfa_17) rfl k) ?_
  refine own_go (T' := T7) (g' := (mkF m 19 #[.val (.ref xa), .val (.ref b1), .val (.int (1 : Int32))] [(.ref y1), (.int (1 : Int32)), (.ref b1)])) (fun _ k => own_aaload X7 hx hZ e7 Vk8 (j := (1 : Int32)) (v := (.ref y1)) (by decide) rfl rfl (g := (mkF m 18 #[.val (.ref xa), .val (.ref b1), .val (.int (1 : Int32))] [(.int (1 : Int32)), (.ref xa), (.int (1 : Int32)), (.ref b1)])) rfl rfl (hb hby own_dLfa_18) k) ?_
  obtain ⟨_, _, ⟨T12, L12, k12, n12⟩, -, X12, ⟨Lc12, hQ12, l12, y12, z12⟩, st12⟩ := Jvm.LawKit.callS X7 hx (y := (⟨"java/util/Objects", "requireNonNull", "(Ljava/lang/Object;)Ljava/lang/Object;"⟩ : MethodName)) hown (mvT hZ (hw _ (List.mem_of_getElem? (i := 171) rfl))) (mvT hZ (hw _ (List.mem_of_getElem? (i := 172) rfl))) (mvT hZ (hw _ (List.mem_of_getElem? (i := 173) rfl))) (mvT hZ (hw _ (List.mem_of_getElem? (i := 174) rfl))) (by decide) (backOf (W := 2) (own_rRnn l Z a0 hw [] y1 h7 n0 Z7 ) hZ (hw _ (List.mem_of_getElem? (i := 174) rfl)) (hw _ (List.mem_of_getElem? (i := 173) rfl)) (by decide) (by decide)) (g := (mkF m 19 #[.val (.ref xa), .val (.ref b1), .val (.int (1 : Int32))] [(.ref y1), (.int (1 : Int32)), (.ref b1)])) rfl (by rw [hml]; rfl) (argsL := [(.ref y1)]) (rest := [(.int (1 : Int32)), (.ref b1)]) (lenOf own_pd7 rfl) rfl (by show 2 * 0 + _ ≤ _; exact Nat.le_of_eq rfl) (hb hby own_dLfa_19) (fun _ _ => ⟨rfl, e7, (by decide : 1 + 0 ≤ _), (by decide : 3 + 0 ≤ _)⟩)
  dsimp only [Pt.U, Pt.locs, Pt.cells, Pt.slots] at X12 l12 y12 z12 st12 hQ12
  subst l12 y12 z12
  obtain ⟨rfl, N12q, e12⟩ := hQ12
  have N12 := Fr.app N7 N12q
  refine own_go (T' := T12) (g' := (mkF m 22 #[.val (.ref xa), .val (.ref b1), .val (.int (1 : Int32))] [(.ref y1), (.int (1 : Int32)), (.ref b1)])) (fun _ k => st12 _ k) ?_
  obtain ⟨T13, h13, X13, e13, V13, W13, st13⟩ := own_aastore X12 hx hZ e12 Va7 (j := (1 : Int32)) (i := 1) rfl (by decide) (Nat.le_of_ble_eq_true rfl) rfl (own_A.sto Va7 Ov1 (Ins.of_exa Ek10 (hw _ (List.mem_of_getElem? (i := 133) rfl)))) (g := (mkF m 22 #[.val (.ref xa), .val (.ref b1), .val (.int (1 : Int32))] [(.ref y1), (.int (1 : Int32)), (.ref b1)])) rfl rfl (hb hby own_dLfa_22)
  have Va13 : own_A Z h13 b1 k1 (.object "java/lang/Object") [(.ref y0), (.ref y1), .null] := V13
  have Vk14 := Vk8.other W13 ne_xa_b1
  have Ek15 := Ek9.wr W13
  have Ek16 := Ek10.wr W13
  have Ek17 := Ek11.wr W13
  have Z13 : n0 ≤ h13.size := Nat.le_trans Z7 (Keep.of_wr W13).1
  have K13 : Keep h0 h13 [] := K7.wr W13 (Or.inr hz_b1)
  have N13 := Fr.snoc X13 N12 gz_b1
  have SK13 : own_SK Z h0 h13 := SK7.wr W13
  refine own_go (T' := T13) (g' := (mkF m 23 #[.val (.ref xa), .val (.ref b1), .val (.int (1 : Int32))] [])) (fun _ k => st13 _ k) ?_
  refine own_go (T' := T13) (g' := (mkF m 26 #[.val (.ref xa), .val (.ref b1), .val (.int (2 : Int32))] [])) (fun _ k => XS.iinc X13.here hx rfl (hb hby own_dLfa_23) rfl (l' := #[.val (.ref xa), .val (.ref b1), .val (.int (2 : Int32))]) rfl k) ?_
  refine own_go (T' := T13) (g' := (mkF m 8 #[.val (.ref xa), .val (.ref b1), .val (.int (2 : Int32))] [])) (fun _ k => XS.goto X13.here hx rfl (pc0 := 26) (pc' := 8) rfl (hb hby own_dLfa_26) (by decide) (by decide) k) ?_
  refine own_go (T' := T13) (g' := (mkF m 9 #[.val (.ref xa), .val (.ref b1), .val (.int (2 : Int32))] [(.int (2 : Int32))])) (fun _ k => XS.iloadN X13.here hx rfl (hb hby own_dLfa_8) rfl k) ?_
  refine own_go (T' := T13) (g' := (mkF m 10 #[.val (.ref xa), .val (.ref b1), .val (.int (2 : Int32))] [(.ref xa), (.int (2 : Int32))])) (fun _ k => XS.aloadN X13.here hx rfl (hb hby own_dLfa_9) rfl rfl k) ?_
  refine own_go (T' := T13) (g' := (mkF m 11 #[.val (.ref xa), .val (.ref b1), .val (.int (2 : Int32))] [(.int (3 : Int32)), (.int (2 : Int32))])) (fun _ k => own_alen X13 hx hZ e13 Vk14 (g := (mkF m 10 #[.val (.ref xa), .val (.ref b1), .val (.int (2 : Int32))] [(.ref xa), (.int (2 : Int32))])) rfl rfl (hb hby own_dLfa_10) (n := (3 : Int32)) rfl k) ?_
  refine own_go (T' := T13) (g' := (mkF m 14 #[.val (.ref xa), .val (.ref b1), .val (.int (2 : Int32))] [])) (fun _ k => XS.icmpNo X13.here hx rfl (hb hby own_dLfa_11) rfl (tlt ((by decide) : (2 : Int32) < (3 : Int32))).2.1 k) ?_
  refine own_go (T' := T13) (g' := (mkF m 15 #[.val (.ref xa), .val (.ref b1), .val (.int (2 : Int32))] [(.ref b1)])) (fun _ k => XS.aloadN X13.here hx rfl (hb hby own_dLfa_14) rfl rfl k) ?_
  refine own_go (T' := T13) (g' := (mkF m 16 #[.val (.ref xa), .val (.ref b1), .val (.int (2 : Int32))] [(.int (2 : Int32)), (.ref b1)])) (fun _ k => XS.iloadN X13.here hx rfl (hb hby own_dLfa_15) rfl k) ?_
  refine own_go (T' := T13) (g' := (mkF m 17 #[.val (.ref xa), .val (.ref b1), .val (.int (2 : Int32))] [(.ref xa), (.int (2 : Int32)), (.ref b1)])) (fun _ k => XS.aloadN X13.here hx rfl (hb hby own_dLfa_16) rfl rfl k) ?_
  refine own_go (T' := T13) (g' := (mkF m 18 #[.val (.ref xa), .val (.ref b1), .val (.int (2 : Int32))] [(.int (2 : Int32)), (.ref xa), (.int (2 : Int32)), (.ref b1)])) (fun _ k => XS.iloadN X13.here hx rfl (hb hby own_dLfa_17) rfl k) ?_
  refine own_go (T' := T13) (g' := (mkF m 19 #[.val (.ref xa), .val (.ref b1), .val (.int (2 : Int32))] [(.ref y2), (.int (2 : Int32)), (.ref b1)])) (fun _ k => own_aaload X13 hx hZ e13 Vk14 (j := (2 : Int32)) (v := (.ref y2)) (by decide) rfl rfl (g := (mkF m 18 #[.val (.ref xa), .val (.ref b1), .val (.int (2 : Int32))] [(.int (2 : Int32)), (.ref xa), (.int (2 : Int32)), (.ref b1)])) rfl rfl (hb hby own_dLfa_18) k) ?_
  obtain ⟨_, _, ⟨T18, L18, k18, n18⟩, -, X18, ⟨Lc18, hQ18, l18, y18, z18⟩, st18⟩ := Jvm.LawKit.callS X13 hx (y := (⟨"java/util/Objects", "requireNonNull", "(Ljava/lang/Object;)Ljava/lang/Object;"⟩ : MethodName)) hown (mvT hZ (hw _ (List.mem_of_getElem? (i := 171) rfl))) (mvT hZ (hw _ (List.mem_of_getElem? (i := 172) rfl))) (mvT hZ (hw _ (List.mem_of_getElem? (i := 173) rfl))) (mvT hZ (hw _ (List.mem_of_getElem? (i := 174) rfl))) (by decide) (backOf (W := 2) (own_rRnn l Z a0 hw [] y2 h13 n0 Z13 ) hZ (hw _ (List.mem_of_getElem? (i := 174) rfl)) (hw _ (List.mem_of_getElem? (i := 173) rfl)) (by decide) (by decide)) (g := (mkF m 19 #[.val (.ref xa), .val (.ref b1), .val (.int (2 : Int32))] [(.ref y2), (.int (2 : Int32)), (.ref b1)])) rfl (by rw [hml]; rfl) (argsL := [(.ref y2)]) (rest := [(.int (2 : Int32)), (.ref b1)]) (lenOf own_pd7 rfl) rfl (by show 2 * 0 + _ ≤ _; exact Nat.le_of_eq rfl) (hb hby own_dLfa_19) (fun _ _ => ⟨rfl, e13, (by decide : 1 + 0 ≤ _), (by decide : 3 + 0 ≤ _)⟩)
  dsimp only [Pt.U, Pt.locs, Pt.cells, Pt.slots] at X18 l18 y18 z18 st18 hQ18
  subst l18 y18 z18
  obtain ⟨rfl, N18q, e18⟩ := hQ18
  have N18 := Fr.app N13 N18q
  refine own_go (T' := T18) (g' := (mkF m 22 #[.val (.ref xa), .val (.ref b1), .val (.int (2 : Int32))] [(.ref y2), (.int (2 : Int32)), (.ref b1)])) (fun _ k => st18 _ k) ?_
  obtain ⟨T19, h19, X19, e19, V19, W19, st19⟩ := own_aastore X18 hx hZ e18 Va13 (j := (2 : Int32)) (i := 2) rfl (by decide) (Nat.le_of_ble_eq_true rfl) rfl (own_A.sto Va13 Ov1 (Ins.of_exa Ek17 (hw _ (List.mem_of_getElem? (i := 133) rfl)))) (g := (mkF m 22 #[.val (.ref xa), .val (.ref b1), .val (.int (2 : Int32))] [(.ref y2), (.int (2 : Int32)), (.ref b1)])) rfl rfl (hb hby own_dLfa_22)
  have Va19 : own_A Z h19 b1 k1 (.object "java/lang/Object") [(.ref y0), (.ref y1), (.ref y2)] := V19
  have Vk20 := Vk14.other W19 ne_xa_b1
  have Ek21 := Ek15.wr W19
  have Ek22 := Ek16.wr W19
  have Ek23 := Ek17.wr W19
  have Z19 : n0 ≤ h19.size := Nat.le_trans Z13 (Keep.of_wr W19).1
  have K19 : Keep h0 h19 [] := K13.wr W19 (Or.inr hz_b1)
  have N19 := Fr.snoc X19 N18 gz_b1
  have SK19 : own_SK Z h0 h19 := SK13.wr W19
  refine own_go (T' := T19) (g' := (mkF m 23 #[.val (.ref xa), .val (.ref b1), .val (.int (2 : Int32))] [])) (fun _ k => st19 _ k) ?_
  refine own_go (T' := T19) (g' := (mkF m 26 #[.val (.ref xa), .val (.ref b1), .val (.int (3 : Int32))] [])) (fun _ k => XS.iinc X19.here hx rfl (hb hby own_dLfa_23) rfl (l' := #[.val (.ref xa), .val (.ref b1), .val (.int (3 : Int32))]) rfl k) ?_
  refine own_go (T' := T19) (g' := (mkF m 8 #[.val (.ref xa), .val (.ref b1), .val (.int (3 : Int32))] [])) (fun _ k => XS.goto X19.here hx rfl (pc0 := 26) (pc' := 8) rfl (hb hby own_dLfa_26) (by decide) (by decide) k) ?_
  refine own_go (T' := T19) (g' := (mkF m 9 #[.val (.ref xa), .val (.ref b1), .val (.int (3 : Int32))] [(.int (3 : Int32))])) (fun _ k => XS.iloadN X19.here hx rfl (hb hby own_dLfa_8) rfl k) ?_
  refine own_go (T' := T19) (g' := (mkF m 10 #[.val (.ref xa), .val (.ref b1), .val (.int (3 : Int32))] [(.ref xa), (.int (3 : Int32))])) (fun _ k => XS.aloadN X19.here hx rfl (hb hby own_dLfa_9) rfl rfl k) ?_
  refine own_go (T' := T19) (g' := (mkF m 11 #[.val (.ref xa), .val (.ref b1), .val (.int (3 : Int32))] [(.int (3 : Int32)), (.int (3 : Int32))])) (fun _ k => own_alen X19 hx hZ e19 Vk20 (g := (mkF m 10 #[.val (.ref xa), .val (.ref b1), .val (.int (3 : Int32))] [(.ref xa), (.int (3 : Int32))])) rfl rfl (hb hby own_dLfa_10) (n := (3 : Int32)) rfl k) ?_
  refine own_go (T' := T19) (g' := (mkF m 29 #[.val (.ref xa), .val (.ref b1), .val (.int (3 : Int32))] [])) (fun _ k => XS.icmpYes X19.here hx rfl (pc0 := 11) (pc' := 29) rfl (hb hby own_dLfa_11) rfl (flt ((by decide) : ¬ ((3 : Int32) < (3 : Int32)))).2.1 (by decide) (by decide) k) ?_
  obtain ⟨T24, h24, X24, e24, E24, A24, D24, -, st24⟩ := newO X19 hx hZ hown (hw _ (List.mem_of_getElem? (i := 69) rfl)) (hw _ (List.mem_of_getElem? (i := 175) rfl)) (hw _ (List.mem_of_getElem? (i := 101) rfl)) e19 (g := (mkF m 29 #[.val (.ref xa), .val (.ref b1), .val (.int (3 : Int32))] [])) rfl (hb hby own_dLfa_29) (by decide) (by decide)
  obtain ⟨b24, g24⟩ : ∃ z, z = h19.size := ⟨_, rfl⟩
  rw [← g24] at A24 D24 st24
  have ne_xa_b24 : xa ≠ b24 := Nat.ne_of_lt (Nat.lt_of_lt_of_le Vk20.lt (Nat.le_of_eq g24.symm))
  have ne_y0_b24 : y0 ≠ b24 := Nat.ne_of_lt (Nat.lt_of_lt_of_le Ek21.lt (Nat.le_of_eq g24.symm))
  have ne_y1_b24 : y1 ≠ b24 := Nat.ne_of_lt (Nat.lt_of_lt_of_le Ek22.lt (Nat.le_of_eq g24.symm))
  have ne_y2_b24 : y2 ≠ b24 := Nat.ne_of_lt (Nat.lt_of_lt_of_le Ek23.lt (Nat.le_of_eq g24.symm))
  have ne_b1_b24 : b1 ≠ b24 := Nat.ne_of_lt (Nat.lt_of_lt_of_le Va19.lt (Nat.le_of_eq g24.symm))
  have gz_b24 : n0 ≤ b24 := Nat.le_trans Z19 (Nat.le_of_eq g24.symm)
  have hz_b24 : h0.size ≤ b24 := Nat.le_trans K19.1 (Nat.le_of_eq g24.symm)
  have Vk25 := Vk20.ext E24
  have Ek26 := Ek21.ext E24
  have Ek27 := Ek22.ext E24
  have Ek28 := Ek23.ext E24
  have Vk29 := Va19.ext E24
  have Z24 : n0 ≤ h24.size := Nat.le_trans Z19 E24.1
  have K24 : Keep h0 h24 [] := K19.ext E24
  have SK24 : own_SK Z h0 h24 := SK19.ext E24
  have Felements_b24 : Fld Z h24 b24 "java/util/ImmutableCollections$ListN" "elements" "[Ljava/lang/Object;" .null := D24 (Or.inr (hw _ (List.mem_of_getElem? (i := 104) rfl))) (ty := (.array (.object "java/lang/Object"))) (by decide)
  have FallowNulls_b24 : Fld Z h24 b24 "java/util/ImmutableCollections$ListN" "allowNulls" "Z" (.int (0 : Int32)) := D24 (Or.inr (hw _ (List.mem_of_getElem? (i := 195) rfl))) (ty := .boolean) (by decide)
  refine own_go (T' := T24) (g' := (mkF m 32 #[.val (.ref xa), .val (.ref b1), .val (.int (3 : Int32))] [(.ref b24)])) (fun _ k => st24 _ k) ?_
  refine own_go (T' := T24) (g' := (mkF m 33 #[.val (.ref xa), .val (.ref b1), .val (.int (3 : Int32))] [(.ref b24), (.ref b24)])) (fun _ k => XS.dup X24.here hx rfl (hb hby own_dLfa_32) rfl rfl k) ?_
  refine own_go (T' := T24) (g' := (mkF m 34 #[.val (.ref xa), .val (.ref b1), .val (.int (3 : Int32))] [(.ref b1), (.ref b24), (.ref b24)])) (fun _ k => XS.aloadN X24.here hx rfl (hb hby own_dLfa_33) rfl rfl k) ?_
  refine own_go (T' := T24) (g' := (mkF m 35 #[.val (.ref xa), .val (.ref b1), .val (.int (3 : Int32))] [(.int (0 : Int32)), (.ref b1), (.ref b24), (.ref b24)])) (fun _ k => XS.iconst X24.here hx rfl (hb hby own_dLfa_34) k) ?_
  obtain ⟨_, _, ⟨T30, L30, k30, n30⟩, -, X30, ⟨Lc30, hQ30, l30, y30, z30⟩, st30⟩ := X24.specialBackNest hx (y := (⟨"java/util/ImmutableCollections$ListN", "<init>", "([Ljava/lang/Object;Z)V"⟩ : MethodName)) rfl hown (own_mvMN hZ (hw _ (List.mem_of_getElem? (i := 176) rfl))) (mvT hZ (hw _ (List.mem_of_getElem? (i := 177) rfl))) (mvT hZ (hw _ (List.mem_of_getElem? (i := 179) rfl))) (by decide) (backOf (W := 1) (own_rLni l Z a0 hw [] b24 b1 h24 n0 Z24 A24 Felements_b24 FallowNulls_b24 gz_b24) hZ (hw _ (List.mem_of_getElem? (i := 179) rfl)) (hw _ (List.mem_of_getElem? (i := 101) rfl)) (by decide) (by decide)) (g := (mkF m 35 #[.val (.ref xa), .val (.ref b1), .val (.int (3 : Int32))] [(.int (0 : Int32)), (.ref b1), (.ref b24), (.ref b24)])) rfl (by rw [hml]; rfl) (Steps.refl _) (a := b24) (argsL := [(.ref b1), (.int (0 : Int32))]) (rest := [(.ref b24)]) (lenOf own_pd10 rfl) rfl (by show 2 * 0 + _ ≤ _; exact Nat.le_of_eq rfl) (hb hby own_dLfa_35) (fun _ _ => ⟨rfl, e24, (by decide : 2 + 0 ≤ _), (by decide : 5 + 0 ≤ _)⟩)
  dsimp only [Pt.U, Pt.locs, Pt.cells, Pt.slots] at X30 l30 y30 z30 st30 hQ30
  subst l30 y30 z30
  obtain ⟨rfl, N30q, Kc30, SKc30, Ec30, F0c30⟩ := hQ30
  have N30 := Fr.app N19 N30q
  have Vk31 := Vk25.keep Kc30 (own_one ne_xa_b24)
  have Ek32 := Ek26.keep Kc30
  have Ek33 := Ek27.keep Kc30
  have Ek34 := Ek28.keep Kc30
  have Vk35 := Vk29.keep Kc30 (own_one ne_b1_b24)
  have Z30 : n0 ≤ T30.heap.size := Nat.le_trans Z24 Kc30.1
  have SK30 : own_SK Z h0 T30.heap := SK24.tr SKc30
  have K30 : Keep h0 T30.heap [] := K24.trans Kc30 (own_or1 (Or.inr hz_b24))
  refine own_goT (T' := T30) (g' := (mkF m 38 #[.val (.ref xa), .val (.ref b1), .val (.int (3 : Int32))] [(.ref b24)])) st30 ?_
  obtain ⟨fs, hr, hrun, hended, hW, hsame⟩ := X30.leave (v := some (.ref b24)) (fun h => by rw [Bd.returns] at h; cases h)
  refine own_end (retOut X30 hx Bd.returns rfl (Or.inr (Or.inr (Or.inr (Or.inr ⟨rfl, rfl, rfl⟩)))) (hb hby own_dLfa_38) hr) hrun hended ⟨_, _, rfl, (?_ : own_QLfa Z xa ka y0 y1 y2 h0 n0 _ T30.heap _), ⟨_, rfl⟩, hW, hsame.mono (by decide) (by decide)⟩
  exact ⟨rfl, N30, K30, SK30, b24, b1, k1, rfl, hz_b24, Ec30, F0c30, Vk35⟩
theorem own_pd11 : parseMethodDescriptor "(Ljava/lang/Object;)V" = some ⟨[(.object "java/lang/Object")], none⟩ := by decide +kernel
theorem own_dLo1_0 : decode jdk_40_method_47_code 0 = .ok (.aload_n 0, 1) := by decide +kernel
theorem own_dLo1_1 : decode jdk_40_method_47_code 1 = .ok (.arraylength, 1) := by decide +kernel
theorem own_dLo1_2 : decode jdk_40_method_47_code 2 = .ok (.tableswitch 57 0 2 #[26, 32, 43], 26) := by decide +kernel
theorem own_dLo1_34 : decode jdk_40_method_47_code 34 = .ok (.new 96, 3) := by decide +kernel
theorem own_dLo1_37 : decode jdk_40_method_47_code 37 = .ok (.dup, 1) := by decide +kernel
theorem own_dLo1_38 : decode jdk_40_method_47_code 38 = .ok (.aload_n 0, 1) := by decide +kernel
theorem own_dLo1_39 : decode jdk_40_method_47_code 39 = .ok (.iconst 0, 1) := by decide +kernel
theorem own_dLo1_40 : decode jdk_40_method_47_code 40 = .ok (.aaload, 1) := by decide +kernel
theorem own_dLo1_41 : decode jdk_40_method_47_code 41 = .ok (.invokespecial 98, 3) := by decide +kernel
theorem own_dLo1_44 : decode jdk_40_method_47_code 44 = .ok (.areturn, 1) := by decide +kernel
theorem own_efLo1 (m : MethodId) (xa : Addr) : entryFrame m #[(.ref xa)] 2 = mkF m 0 #[.val (.ref xa), .unset] [] := by first | (simp [entryFrame, mkF, argsToLocals, Value.category]; done) | rfl
def own_QLo1 (Z : State) (xa : Addr) (ka : ClassId) (xq : Addr) (y0 : Addr) (h0 : Heap) (n0 : Nat) (v : Option Value) (h : Heap) (L : List Loc) : Prop := v = v ∧ Fr n0 L ∧ Keep h0 h [] ∧ own_SK Z h0 h ∧ ∃ r, v = some (.ref r) ∧ h0.size ≤ r ∧ Exa Z h r "java/util/ImmutableCollections$List12" ∧ Fld Z h r "java/util/ImmutableCollections$List12" "e0" "Ljava/lang/Object;" (.ref y0) ∧ Fld Z h r "java/util/ImmutableCollections$List12" "e1" "Ljava/lang/Object;" (.ref xq)
theorem own_pn12 : plainName "java/util/List" = true := by first | (simp [plainName, overriddenIn]; done) | decide +kernel
set_option maxRecDepth 65536 in
set_option maxHeartbeats 40000000 in
theorem own_rLo1 (l : Launch) (Z : State) (a0 : Array Value) (hw : ∀ d ∈ tables_1, d.before a0 Z = true) (ws : List Jvm.Cond) (xa : Addr) (ka : ClassId) (xq : Addr) (y0 : Addr) (h0 : Heap) (n0 : Nat) (Z0 : n0 ≤ h0.size) (Va : own_A Z h0 xa ka (.object "java/lang/Object") [(.ref y0)]) (Sq : Sta Z h0 "java/util/ImmutableCollections" "EMPTY" "Ljava/lang/Object;" (.ref xq)) (Ey0 : Exa Z h0 y0 "java/time/Duration") :
    MetFree l (⟨"java/util/List", "of", "([Ljava/lang/Object;)Ljava/util/List;"⟩ : MethodName) (head1 (Jvm.Cond.code (⟨"java/util/List", "of", "([Ljava/lang/Object;)Ljava/util/List;"⟩ : MethodName) jdk_40_method_47_code 2 (some (.object "java/util/List")) :: ws) ({ frames := 5, cells := 1, slots := 2, locals := 62 } : Room)) (fun a U => a = #[(.ref xa)] ∧ Z.Warmed39 U.vm ∧ U.heap = h0) (fun _ _ _ _ _ => True) (fun _ U o U' => ∃ v L, o = .returned v ∧ own_QLo1 Z xa ka xq y0 h0 n0 v U'.heap L ∧ FrameEnd U o U' L ({ frames := 5, cells := 1, slots := 2, locals := 62 } : Room).cells ({ frames := 5, cells := 1, slots := 2, locals := 62 } : Room).slots) := by
  refine MetFree.of_bodySF (plainFor_of_name own_pn12) hisR ?_
  intro p e s m args below meth c s₁ Bd hml0 hP hK
  obtain ⟨rfl, hZ, hh⟩ := hP
  have hx := Bd.exec
  have hby := Bd.bytes
  have hml : c.maxLocals = 2 := hml0
  have hown : s.vm.findClass "java/util/List" = some m.cls := findClass_of_methodNamed Bd.named
  have hnm := (name_of_methodNamed Bd.named Bd.method).1
  have X0 : Stand p l e ({ frames := 5, cells := 1, slots := 2, locals := 62 } : Room) s m #[(.ref xa)] below meth c s₁ [] 0 0 := Stand.of_body Bd
  have e0 : s₁.heap = h0 := by rw [← hh, Bd.state]; rfl
  have N0 := Fr.nil n0
  show own_F p e below (fun o U' => ∃ v L, o = .returned v ∧ own_QLo1 Z xa ka xq y0 h0 n0 v U'.heap L ∧ FrameEnd s o U' L ({ frames := 5, cells := 1, slots := 2, locals := 62 } : Room).cells ({ frames := 5, cells := 1, slots := 2, locals := 62 } : Room).slots) s₁ (entryFrame m #[(.ref xa)] 2)
  rw [own_efLo1 m xa]
  refine own_go (T' := s₁) (g' := (mkF m 1 #[.val (.ref xa), .unset] [(.ref xa)])) (fun _ k => XS.aloadN X0.here hx rfl (hb hby own_dLo1_0) rfl rfl k) ?_
  refine own_go (T' := s₁) (g' := (mkF m 2 #[.val (.ref xa), .unset] [(.int (1 : Int32))])) (fun _ k => own_alen X0 hx hZ e0 Va (g := (mkF m 1 #[.val (.ref xa), .unset] [(.ref xa)])) rfl rfl (hb hby own_dLo1_1) (n := (1 : Int32)) rfl k) ?_
  refine own_go (T' := s₁) (g' := (mkF m 34 #[.val (.ref xa), .unset] [])) (fun _ k => XS.tswIn X0.here hx rfl (pc0 := 2) (pc' := 34) (o := 32) rfl (hb hby own_dLo1_2) rfl (by decide) rfl (by decide) (by decide) k) ?_
  obtain ⟨T1, h1, X1, e1, E1, A1, D1, -, st1⟩ := newO X0 hx hZ hown (hw _ (List.mem_of_getElem? (i := 196) rfl)) (hw _ (List.mem_of_getElem? (i := 197) rfl)) (hw _ (List.mem_of_getElem? (i := 198) rfl)) e0 (g := (mkF m 34 #[.val (.ref xa), .unset] [])) rfl (hb hby own_dLo1_34) (by decide) (by decide)
  obtain ⟨b1, g1⟩ : ∃ z, z = h0.size := ⟨_, rfl⟩
  rw [← g1] at A1 D1 st1
  have ne_xa_b1 : xa ≠ b1 := Nat.ne_of_lt (Nat.lt_of_lt_of_le Va.lt (Nat.le_of_eq g1.symm))
  have ne_y0_b1 : y0 ≠ b1 := Nat.ne_of_lt (Nat.lt_of_lt_of_le Ey0.lt (Nat.le_of_eq g1.symm))
  have gz_b1 : n0 ≤ b1 := Nat.le_trans Z0 (Nat.le_of_eq g1.symm)
  have hz_b1 : h0.size ≤ b1 := Nat.le_trans (Keep.refl h0 []).1 (Nat.le_of_eq g1.symm)
  have Vk2 := Va.ext E1
  have Ek3 := Ey0.ext E1
  have Z1 : n0 ≤ h1.size := Nat.le_trans Z0 E1.1
  have K1 : Keep h0 h1 [] := (Keep.refl h0 []).ext E1
  have SK1 : own_SK Z h0 h1 := (own_SK.rf Z h0).ext E1
  have Fe0_b1 : Fld Z h1 b1 "java/util/ImmutableCollections$List12" "e0" "Ljava/lang/Object;" .null := D1 (Or.inr (hw _ (List.mem_of_getElem? (i := 209) rfl))) (ty := (.object "java/lang/Object")) (by decide)
  have Fe1_b1 : Fld Z h1 b1 "java/util/ImmutableCollections$List12" "e1" "Ljava/lang/Object;" .null := D1 (Or.inr (hw _ (List.mem_of_getElem? (i := 212) rfl))) (ty := (.object "java/lang/Object")) (by decide)
  refine own_go (T' := T1) (g' := (mkF m 37 #[.val (.ref xa), .unset] [(.ref b1)])) (fun _ k => st1 _ k) ?_
  refine own_go (T' := T1) (g' := (mkF m 38 #[.val (.ref xa), .unset] [(.ref b1), (.ref b1)])) (fun _ k => XS.dup X1.here hx rfl (hb hby own_dLo1_37) rfl rfl k) ?_
  refine own_go (T' := T1) (g' := (mkF m 39 #[.val (.ref xa), .unset] [(.ref xa), (.ref b1), (.ref b1)])) (fun _ k => XS.aloadN X1.here hx rfl (hb hby own_dLo1_38) rfl rfl k) ?_
  refine own_go (T' := T1) (g' := (mkF m 40 #[.val (.ref xa), .unset] [(.int (0 : Int32)), (.ref xa), (.ref b1), (.ref b1)])) (fun _ k => XS.iconst X1.here hx rfl (hb hby own_dLo1_39) k) ?_
  refine own_go (T' := T1) (g' := (mkF m 41 #[.val (.ref xa), .unset] [(.ref y0), (.ref b1), (.ref b1)])) (fun _ k => own_aaload X1 hx hZ e1 Vk2 (j := (0 : Int32)) (v := (.ref y0)) (by decide) rfl rfl (g := (mkF m 40 #[.val (.ref xa), .unset] [(.int (0 : Int32)), (.ref xa), (.ref b1), (.ref b1)])) rfl rfl (hb hby own_dLo1_40) k) ?_
  obtain ⟨_, _, ⟨T4, L4, k4, n4⟩, -, X4, ⟨Lc4, hQ4, l4, y4, z4⟩, st4⟩ := X1.specialBack hx (y := (⟨"java/util/ImmutableCollections$List12", "<init>", "(Ljava/lang/Object;)V"⟩ : MethodName)) rfl hown (mvT hZ (hw _ (List.mem_of_getElem? (i := 199) rfl))) (mvT hZ (hw _ (List.mem_of_getElem? (i := 200) rfl))) (mvT hZ (hw _ (List.mem_of_getElem? (i := 202) rfl))) (by decide) (backOf (W := 1) (own_rLi1 l Z a0 hw [] b1 y0 xq h1 n0 Z1 A1 Fe0_b1 Fe1_b1 gz_b1 (SK1 _ _ _ _ Sq)) hZ (hw _ (List.mem_of_getElem? (i := 202) rfl)) (hw _ (List.mem_of_getElem? (i := 198) rfl)) (by decide) (by decide)) (g := (mkF m 41 #[.val (.ref xa), .unset] [(.ref y0), (.ref b1), (.ref b1)])) rfl (by rw [hml]; rfl) (Steps.refl _) (a := b1) (argsL := [(.ref y0)]) (rest := [(.ref b1)]) (lenOf own_pd11 rfl) rfl (by show 2 * 0 + _ ≤ _; exact Nat.le_of_eq rfl) (hb hby own_dLo1_41) (fun _ _ => ⟨rfl, e1, (by decide : 1 + 0 ≤ _), (by decide : 2 + 0 ≤ _)⟩)
  dsimp only [Pt.U, Pt.locs, Pt.cells, Pt.slots] at X4 l4 y4 z4 st4 hQ4
  subst l4 y4 z4
  obtain ⟨rfl, N4q, Kc4, SKc4, Ec4, F0c4, F1c4⟩ := hQ4
  have N4 := Fr.app N0 N4q
  have Vk5 := Vk2.keep Kc4 (own_one ne_xa_b1)
  have Ek6 := Ek3.keep Kc4
  have Z4 : n0 ≤ T4.heap.size := Nat.le_trans Z1 Kc4.1
  have SK4 : own_SK Z h0 T4.heap := SK1.tr SKc4
  have K4 : Keep h0 T4.heap [] := K1.trans Kc4 (own_or1 (Or.inr hz_b1))
  refine own_goT (T' := T4) (g' := (mkF m 44 #[.val (.ref xa), .unset] [(.ref b1)])) st4 ?_
  obtain ⟨fs, hr, hrun, hended, hW, hsame⟩ := X4.leave (v := some (.ref b1)) (fun h => by rw [Bd.returns] at h; cases h)
  refine own_end (retOut X4 hx Bd.returns rfl (Or.inr (Or.inr (Or.inr (Or.inr ⟨rfl, rfl, rfl⟩)))) (hb hby own_dLo1_44) hr) hrun hended ⟨_, _, rfl, (?_ : own_QLo1 Z xa ka xq y0 h0 n0 _ T4.heap _), ⟨_, rfl⟩, hW, hsame.mono (by decide) (by decide)⟩
  exact ⟨rfl, N4, K4, SK4, b1, rfl, hz_b1, Ec4, F0c4, F1c4⟩
theorem own_pd12 : parseMethodDescriptor "(Ljava/lang/Object;Ljava/lang/Object;)V" = some ⟨[(.object "java/lang/Object"), (.object "java/lang/Object")], none⟩ := by decide +kernel
theorem own_dLo2_0 : decode jdk_40_method_47_code 0 = .ok (.aload_n 0, 1) := by decide +kernel
theorem own_dLo2_1 : decode jdk_40_method_47_code 1 = .ok (.arraylength, 1) := by decide +kernel
theorem own_dLo2_2 : decode jdk_40_method_47_code 2 = .ok (.tableswitch 57 0 2 #[26, 32, 43], 26) := by decide +kernel
theorem own_dLo2_45 : decode jdk_40_method_47_code 45 = .ok (.new 96, 3) := by decide +kernel
theorem own_dLo2_48 : decode jdk_40_method_47_code 48 = .ok (.dup, 1) := by decide +kernel
theorem own_dLo2_49 : decode jdk_40_method_47_code 49 = .ok (.aload_n 0, 1) := by decide +kernel
theorem own_dLo2_50 : decode jdk_40_method_47_code 50 = .ok (.iconst 0, 1) := by decide +kernel
theorem own_dLo2_51 : decode jdk_40_method_47_code 51 = .ok (.aaload, 1) := by decide +kernel
theorem own_dLo2_52 : decode jdk_40_method_47_code 52 = .ok (.aload_n 0, 1) := by decide +kernel
theorem own_dLo2_53 : decode jdk_40_method_47_code 53 = .ok (.iconst 1, 1) := by decide +kernel
theorem own_dLo2_54 : decode jdk_40_method_47_code 54 = .ok (.aaload, 1) := by decide +kernel
theorem own_dLo2_55 : decode jdk_40_method_47_code 55 = .ok (.invokespecial 100, 3) := by decide +kernel
theorem own_dLo2_58 : decode jdk_40_method_47_code 58 = .ok (.areturn, 1) := by decide +kernel
theorem own_efLo2 (m : MethodId) (xa : Addr) : entryFrame m #[(.ref xa)] 2 = mkF m 0 #[.val (.ref xa), .unset] [] := by first | (simp [entryFrame, mkF, argsToLocals, Value.category]; done) | rfl
def own_QLo2 (Z : State) (xa : Addr) (ka : ClassId) (y0 : Addr) (y1 : Addr) (h0 : Heap) (n0 : Nat) (v : Option Value) (h : Heap) (L : List Loc) : Prop := v = v ∧ Fr n0 L ∧ Keep h0 h [] ∧ own_SK Z h0 h ∧ ∃ r, v = some (.ref r) ∧ h0.size ≤ r ∧ Exa Z h r "java/util/ImmutableCollections$List12" ∧ Fld Z h r "java/util/ImmutableCollections$List12" "e0" "Ljava/lang/Object;" (.ref y0) ∧ Fld Z h r "java/util/ImmutableCollections$List12" "e1" "Ljava/lang/Object;" (.ref y1)
set_option maxRecDepth 65536 in
set_option maxHeartbeats 40000000 in
theorem own_rLo2 (l : Launch) (Z : State) (a0 : Array Value) (hw : ∀ d ∈ tables_1, d.before a0 Z = true) (ws : List Jvm.Cond) (xa : Addr) (ka : ClassId) (y0 : Addr) (y1 : Addr) (h0 : Heap) (n0 : Nat) (Z0 : n0 ≤ h0.size) (Va : own_A Z h0 xa ka (.object "java/lang/Object") [(.ref y0), (.ref y1)]) (Ey0 : Exa Z h0 y0 "java/time/Duration") (Ey1 : Exa Z h0 y1 "java/time/Duration") :
    MetFree l (⟨"java/util/List", "of", "([Ljava/lang/Object;)Ljava/util/List;"⟩ : MethodName) (head1 (Jvm.Cond.code (⟨"java/util/List", "of", "([Ljava/lang/Object;)Ljava/util/List;"⟩ : MethodName) jdk_40_method_47_code 2 (some (.object "java/util/List")) :: ws) ({ frames := 5, cells := 1, slots := 2, locals := 63 } : Room)) (fun a U => a = #[(.ref xa)] ∧ Z.Warmed39 U.vm ∧ U.heap = h0) (fun _ _ _ _ _ => True) (fun _ U o U' => ∃ v L, o = .returned v ∧ own_QLo2 Z xa ka y0 y1 h0 n0 v U'.heap L ∧ FrameEnd U o U' L ({ frames := 5, cells := 1, slots := 2, locals := 63 } : Room).cells ({ frames := 5, cells := 1, slots := 2, locals := 63 } : Room).slots) := by
  refine MetFree.of_bodySF (plainFor_of_name own_pn12) hisR ?_
  intro p e s m args below meth c s₁ Bd hml0 hP hK
  obtain ⟨rfl, hZ, hh⟩ := hP
  have hx := Bd.exec
  have hby := Bd.bytes
  have hml : c.maxLocals = 2 := hml0
  have hown : s.vm.findClass "java/util/List" = some m.cls := findClass_of_methodNamed Bd.named
  have hnm := (name_of_methodNamed Bd.named Bd.method).1
  have X0 : Stand p l e ({ frames := 5, cells := 1, slots := 2, locals := 63 } : Room) s m #[(.ref xa)] below meth c s₁ [] 0 0 := Stand.of_body Bd
  have e0 : s₁.heap = h0 := by rw [← hh, Bd.state]; rfl
  have N0 := Fr.nil n0
  show own_F p e below (fun o U' => ∃ v L, o = .returned v ∧ own_QLo2 Z xa ka y0 y1 h0 n0 v U'.heap L ∧ FrameEnd s o U' L ({ frames := 5, cells := 1, slots := 2, locals := 63 } : Room).cells ({ frames := 5, cells := 1, slots := 2, locals := 63 } : Room).slots) s₁ (entryFrame m #[(.ref xa)] 2)
  rw [own_efLo2 m xa]
  refine own_go (T' := s₁) (g' := (mkF m 1 #[.val (.ref xa), .unset] [(.ref xa)])) (fun _ k => XS.aloadN X0.here hx rfl (hb hby own_dLo2_0) rfl rfl k) ?_
  refine own_go (T' := s₁) (g' := (mkF m 2 #[.val (.ref xa), .unset] [(.int (2 : Int32))])) (fun _ k => own_alen X0 hx hZ e0 Va (g := (mkF m 1 #[.val (.ref xa), .unset] [(.ref xa)])) rfl rfl (hb hby own_dLo2_1) (n := (2 : Int32)) rfl k) ?_
  refine own_go (T' := s₁) (g' := (mkF m 45 #[.val (.ref xa), .unset] [])) (fun _ k => XS.tswIn X0.here hx rfl (pc0 := 2) (pc' := 45) (o := 43) rfl (hb hby own_dLo2_2) rfl (by decide) rfl (by decide) (by decide) k) ?_
  obtain ⟨T1, h1, X1, e1, E1, A1, D1, -, st1⟩ := newO X0 hx hZ hown (hw _ (List.mem_of_getElem? (i := 196) rfl)) (hw _ (List.mem_of_getElem? (i := 197) rfl)) (hw _ (List.mem_of_getElem? (i := 198) rfl)) e0 (g := (mkF m 45 #[.val (.ref xa), .unset] [])) rfl (hb hby own_dLo2_45) (by decide) (by decide)
  obtain ⟨b1, g1⟩ : ∃ z, z = h0.size := ⟨_, rfl⟩
  rw [← g1] at A1 D1 st1
  have ne_xa_b1 : xa ≠ b1 := Nat.ne_of_lt (Nat.lt_of_lt_of_le Va.lt (Nat.le_of_eq g1.symm))
  have ne_y0_b1 : y0 ≠ b1 := Nat.ne_of_lt (Nat.lt_of_lt_of_le Ey0.lt (Nat.le_of_eq g1.symm))
  have ne_y1_b1 : y1 ≠ b1 := Nat.ne_of_lt (Nat.lt_of_lt_of_le Ey1.lt (Nat.le_of_eq g1.symm))
  have gz_b1 : n0 ≤ b1 := Nat.le_trans Z0 (Nat.le_of_eq g1.symm)
  have hz_b1 : h0.size ≤ b1 := Nat.le_trans (Keep.refl h0 []).1 (Nat.le_of_eq g1.symm)
  have Vk2 := Va.ext E1
  have Ek3 := Ey0.ext E1
  have Ek4 := Ey1.ext E1
  have Z1 : n0 ≤ h1.size := Nat.le_trans Z0 E1.1
  have K1 : Keep h0 h1 [] := (Keep.refl h0 []).ext E1
  have SK1 : own_SK Z h0 h1 := (own_SK.rf Z h0).ext E1
  have Fe0_b1 : Fld Z h1 b1 "java/util/ImmutableCollections$List12" "e0" "Ljava/lang/Object;" .null := D1 (Or.inr (hw _ (List.mem_of_getElem? (i := 209) rfl))) (ty := (.object "java/lang/Object")) (by decide)
  have Fe1_b1 : Fld Z h1 b1 "java/util/ImmutableCollections$List12" "e1" "Ljava/lang/Object;" .null := D1 (Or.inr (hw _ (List.mem_of_getElem? (i := 212) rfl))) (ty := (.object "java/lang/Object")) (by decide)
  refine own_go (T' := T1) (g' := (mkF m 48 #[.val (.ref xa), .unset] [(.ref b1)])) (fun _ k => st1 _ k) ?_
  refine own_go (T' := T1) (g' := (mkF m 49 #[.val (.ref xa), .unset] [(.ref b1), (.ref b1)])) (fun _ k => XS.dup X1.here hx rfl (hb hby own_dLo2_48) rfl rfl k) ?_
  refine own_go (T' := T1) (g' := (mkF m 50 #[.val (.ref xa), .unset] [(.ref xa), (.ref b1), (.ref b1)])) (fun _ k => XS.aloadN X1.here hx rfl (hb hby own_dLo2_49) rfl rfl k) ?_
  refine own_go (T' := T1) (g' := (mkF m 51 #[.val (.ref xa), .unset] [(.int (0 : Int32)), (.ref xa), (.ref b1), (.ref b1)])) (fun _ k => XS.iconst X1.here hx rfl (hb hby own_dLo2_50) k) ?_
  refine own_go (T' := T1) (g' := (mkF m 52 #[.val (.ref xa), .unset] [(.ref y0), (.ref b1), (.ref b1)])) (fun _ k => own_aaload X1 hx hZ e1 Vk2 (j := (0 : Int32)) (v := (.ref y0)) (by decide) rfl rfl (g := (mkF m 51 #[.val (.ref xa), .unset] [(.int (0 : Int32)), (.ref xa), (.ref b1), (.ref b1)])) rfl rfl (hb hby own_dLo2_51) k) ?_
  refine own_go (T' := T1) (g' := (mkF m 53 #[.val (.ref xa), .unset] [(.ref xa), (.ref y0), (.ref b1), (.ref b1)])) (fun _ k => XS.aloadN X1.here hx rfl (hb hby own_dLo2_52) rfl rfl k) ?_
  refine own_go (T' := T1) (g' := (mkF m 54 #[.val (.ref xa), .unset] [(.int (1 : Int32)), (.ref xa), (.ref y0), (.ref b1), (.ref b1)])) (fun _ k => XS.iconst X1.here hx rfl (hb hby own_dLo2_53) k) ?_
  refine own_go (T' := T1) (g' := (mkF m 55 #[.val (.ref xa), .unset] [(.ref y1), (.ref y0), (.ref b1), (.ref b1)])) (fun _ k => own_aaload X1 hx hZ e1 Vk2 (j := (1 : Int32)) (v := (.ref y1)) (by decide) rfl rfl (g := (mkF m 54 #[.val (.ref xa), .unset] [(.int (1 : Int32)), (.ref xa), (.ref y0), (.ref b1), (.ref b1)])) rfl rfl (hb hby own_dLo2_54) k) ?_
  obtain ⟨_, _, ⟨T5, L5, k5, n5⟩, -, X5, ⟨Lc5, hQ5, l5, y5, z5⟩, st5⟩ := X1.specialBack hx (y := (⟨"java/util/ImmutableCollections$List12", "<init>", "(Ljava/lang/Object;Ljava/lang/Object;)V"⟩ : MethodName)) rfl hown (mvT hZ (hw _ (List.mem_of_getElem? (i := 219) rfl))) (mvT hZ (hw _ (List.mem_of_getElem? (i := 220) rfl))) (mvT hZ (hw _ (List.mem_of_getElem? (i := 221) rfl))) (by decide) (backOf (W := 1) (own_rLi2 l Z a0 hw [] b1 y0 y1 h1 n0 Z1 A1 Fe0_b1 Fe1_b1 gz_b1) hZ (hw _ (List.mem_of_getElem? (i := 221) rfl)) (hw _ (List.mem_of_getElem? (i := 198) rfl)) (by decide) (by decide)) (g := (mkF m 55 #[.val (.ref xa), .unset] [(.ref y1), (.ref y0), (.ref b1), (.ref b1)])) rfl (by rw [hml]; rfl) (Steps.refl _) (a := b1) (argsL := [(.ref y0), (.ref y1)]) (rest := [(.ref b1)]) (lenOf own_pd12 rfl) rfl (by show 2 * 0 + _ ≤ _; exact Nat.le_of_eq rfl) (hb hby own_dLo2_55) (fun _ _ => ⟨rfl, e1, (by decide : 1 + 0 ≤ _), (by decide : 2 + 0 ≤ _)⟩)
  dsimp only [Pt.U, Pt.locs, Pt.cells, Pt.slots] at X5 l5 y5 z5 st5 hQ5
  subst l5 y5 z5
  obtain ⟨rfl, N5q, Kc5, SKc5, Ec5, F0c5, F1c5⟩ := hQ5
  have N5 := Fr.app N0 N5q
  have Vk6 := Vk2.keep Kc5 (own_one ne_xa_b1)
  have Ek7 := Ek3.keep Kc5
  have Ek8 := Ek4.keep Kc5
  have Z5 : n0 ≤ T5.heap.size := Nat.le_trans Z1 Kc5.1
  have SK5 : own_SK Z h0 T5.heap := SK1.tr SKc5
  have K5 : Keep h0 T5.heap [] := K1.trans Kc5 (own_or1 (Or.inr hz_b1))
  refine own_goT (T' := T5) (g' := (mkF m 58 #[.val (.ref xa), .unset] [(.ref b1)])) st5 ?_
  obtain ⟨fs, hr, hrun, hended, hW, hsame⟩ := X5.leave (v := some (.ref b1)) (fun h => by rw [Bd.returns] at h; cases h)
  refine own_end (retOut X5 hx Bd.returns rfl (Or.inr (Or.inr (Or.inr (Or.inr ⟨rfl, rfl, rfl⟩)))) (hb hby own_dLo2_58) hr) hrun hended ⟨_, _, rfl, (?_ : own_QLo2 Z xa ka y0 y1 h0 n0 _ T5.heap _), ⟨_, rfl⟩, hW, hsame.mono (by decide) (by decide)⟩
  exact ⟨rfl, N5, K5, SK5, b1, rfl, hz_b1, Ec5, F0c5, F1c5⟩
theorem own_pd13 : parseMethodDescriptor "([Ljava/lang/Object;)Ljava/util/List;" = some ⟨[(.array (.object "java/lang/Object"))], some (.object "java/util/List")⟩ := by decide +kernel
theorem own_dLo3_0 : decode jdk_40_method_47_code 0 = .ok (.aload_n 0, 1) := by decide +kernel
theorem own_dLo3_1 : decode jdk_40_method_47_code 1 = .ok (.arraylength, 1) := by decide +kernel
theorem own_dLo3_2 : decode jdk_40_method_47_code 2 = .ok (.tableswitch 57 0 2 #[26, 32, 43], 26) := by decide +kernel
theorem own_dLo3_59 : decode jdk_40_method_47_code 59 = .ok (.aload_n 0, 1) := by decide +kernel
theorem own_dLo3_60 : decode jdk_40_method_47_code 60 = .ok (.invokestatic 109, 3) := by decide +kernel
theorem own_dLo3_63 : decode jdk_40_method_47_code 63 = .ok (.areturn, 1) := by decide +kernel
theorem own_efLo3 (m : MethodId) (xa : Addr) : entryFrame m #[(.ref xa)] 2 = mkF m 0 #[.val (.ref xa), .unset] [] := by first | (simp [entryFrame, mkF, argsToLocals, Value.category]; done) | rfl
def own_QLo3 (Z : State) (xa : Addr) (ka : ClassId) (y0 : Addr) (y1 : Addr) (y2 : Addr) (h0 : Heap) (n0 : Nat) (v : Option Value) (h : Heap) (L : List Loc) : Prop := v = v ∧ Fr n0 L ∧ Keep h0 h [] ∧ own_SK Z h0 h ∧ ∃ r ra kr, v = some (.ref r) ∧ h0.size ≤ r ∧ Exa Z h r "java/util/ImmutableCollections$ListN" ∧ Fld Z h r "java/util/ImmutableCollections$ListN" "elements" "[Ljava/lang/Object;" (.ref ra) ∧ own_A Z h ra kr (.object "java/lang/Object") [(.ref y0), (.ref y1), (.ref y2)]
set_option maxRecDepth 65536 in
set_option maxHeartbeats 40000000 in
theorem own_rLo3 (l : Launch) (Z : State) (a0 : Array Value) (hw : ∀ d ∈ tables_1, d.before a0 Z = true) (ws : List Jvm.Cond) (xa : Addr) (ka : ClassId) (y0 : Addr) (y1 : Addr) (y2 : Addr) (h0 : Heap) (n0 : Nat) (Z0 : n0 ≤ h0.size) (Va : own_A Z h0 xa ka (.object "java/lang/Object") [(.ref y0), (.ref y1), (.ref y2)]) (Ey0 : Exa Z h0 y0 "java/time/Duration") (Ey1 : Exa Z h0 y1 "java/time/Duration") (Ey2 : Exa Z h0 y2 "java/time/Duration") :
    MetFree l (⟨"java/util/List", "of", "([Ljava/lang/Object;)Ljava/util/List;"⟩ : MethodName) (head1 (Jvm.Cond.code (⟨"java/util/List", "of", "([Ljava/lang/Object;)Ljava/util/List;"⟩ : MethodName) jdk_40_method_47_code 2 (some (.object "java/util/List")) :: ws) ({ frames := 6, cells := 2, slots := 5, locals := 77 } : Room)) (fun a U => a = #[(.ref xa)] ∧ Z.Warmed39 U.vm ∧ U.heap = h0) (fun _ _ _ _ _ => True) (fun _ U o U' => ∃ v L, o = .returned v ∧ own_QLo3 Z xa ka y0 y1 y2 h0 n0 v U'.heap L ∧ FrameEnd U o U' L ({ frames := 6, cells := 2, slots := 5, locals := 77 } : Room).cells ({ frames := 6, cells := 2, slots := 5, locals := 77 } : Room).slots) := by
  refine MetFree.of_bodySF (plainFor_of_name own_pn12) hisR ?_
  intro p e s m args below meth c s₁ Bd hml0 hP hK
  obtain ⟨rfl, hZ, hh⟩ := hP
  have hx := Bd.exec
  have hby := Bd.bytes
  have hml : c.maxLocals = 2 := hml0
  have hown : s.vm.findClass "java/util/List" = some m.cls := findClass_of_methodNamed Bd.named
  have hnm := (name_of_methodNamed Bd.named Bd.method).1
  have X0 : Stand p l e ({ frames := 6, cells := 2, slots := 5, locals := 77 } : Room) s m #[(.ref xa)] below meth c s₁ [] 0 0 := Stand.of_body Bd
  have e0 : s₁.heap = h0 := by rw [← hh, Bd.state]; rfl
  have N0 := Fr.nil n0
  show own_F p e below (fun o U' => ∃ v L, o = .returned v ∧ own_QLo3 Z xa ka y0 y1 y2 h0 n0 v U'.heap L ∧ FrameEnd s o U' L ({ frames := 6, cells := 2, slots := 5, locals := 77 } : Room).cells ({ frames := 6, cells := 2, slots := 5, locals := 77 } : Room).slots) s₁ (entryFrame m #[(.ref xa)] 2)
  rw [own_efLo3 m xa]
  refine own_go (T' := s₁) (g' := (mkF m 1 #[.val (.ref xa), .unset] [(.ref xa)])) (fun _ k => XS.aloadN X0.here hx rfl (hb hby own_dLo3_0) rfl rfl k) ?_
  refine own_go (T' := s₁) (g' := (mkF m 2 #[.val (.ref xa), .unset] [(.int (3 : Int32))])) (fun _ k => own_alen X0 hx hZ e0 Va (g := (mkF m 1 #[.val (.ref xa), .unset] [(.ref xa)])) rfl rfl (hb hby own_dLo3_1) (n := (3 : Int32)) rfl k) ?_
  refine own_go (T' := s₁) (g' := (mkF m 59 #[.val (.ref xa), .unset] [])) (fun _ k => XS.tswOut X0.here hx rfl (pc0 := 2) (pc' := 59) rfl (hb hby own_dLo3_2) rfl (by decide) (by decide) (by decide) k) ?_
  refine own_go (T' := s₁) (g' := (mkF m 60 #[.val (.ref xa), .unset] [(.ref xa)])) (fun _ k => XS.aloadN X0.here hx rfl (hb hby own_dLo3_59) rfl rfl k) ?_
  obtain ⟨_, _, ⟨T1, L1, k1, n1⟩, -, X1, ⟨Lc1, hQ1, l1, y1, z1⟩, st1⟩ := Jvm.LawKit.callS X0 hx (y := (⟨"java/util/ImmutableCollections", "listFromArray", "([Ljava/lang/Object;)Ljava/util/List;"⟩ : MethodName)) hown (mvT hZ (hw _ (List.mem_of_getElem? (i := 167) rfl))) (mvT hZ (hw _ (List.mem_of_getElem? (i := 168) rfl))) (mvT hZ (hw _ (List.mem_of_getElem? (i := 62) rfl))) (mvT hZ (hw _ (List.mem_of_getElem? (i := 169) rfl))) (by decide) (backOf (W := 0) (own_rLfa l Z a0 hw [] xa ka y0 y1 y2 h0 n0 Z0 Va Ey0 Ey1 Ey2) hZ (hw _ (List.mem_of_getElem? (i := 169) rfl)) (hw _ (List.mem_of_getElem? (i := 62) rfl)) (by decide) (by decide)) (g := (mkF m 60 #[.val (.ref xa), .unset] [(.ref xa)])) rfl (by rw [hml]; rfl) (argsL := [(.ref xa)]) (rest := []) (lenOf own_pd13 rfl) rfl (by show 2 * 0 + _ ≤ _; exact Nat.le_of_eq rfl) (hb hby own_dLo3_60) (fun _ _ => ⟨rfl, e0, (by decide : 0 + 2 ≤ _), (by decide : 0 + 5 ≤ _)⟩)
  dsimp only [Pt.U, Pt.locs, Pt.cells, Pt.slots] at X1 l1 y1 z1 st1 hQ1
  subst l1 y1 z1
  obtain ⟨-, N1q, Kc1, SKc1, r1, ra1, kr1, rfl, hzr1, Ec1, F0c1, Vc1⟩ := hQ1
  have N1 := Fr.app N0 N1q
  have ne_xa_r1 : xa ≠ r1 := Nat.ne_of_lt (Nat.lt_of_lt_of_le Va.lt hzr1)
  have ne_y0_r1 : y0 ≠ r1 := Nat.ne_of_lt (Nat.lt_of_lt_of_le Ey0.lt hzr1)
  have ne_y1_r1 : y1 ≠ r1 := Nat.ne_of_lt (Nat.lt_of_lt_of_le Ey1.lt hzr1)
  have ne_y2_r1 : y2 ≠ r1 := Nat.ne_of_lt (Nat.lt_of_lt_of_le Ey2.lt hzr1)
  have gz_r1 : n0 ≤ r1 := Nat.le_trans Z0 hzr1
  have hz_r1 : h0.size ≤ r1 := Nat.le_trans (Keep.refl h0 []).1 hzr1
  have Vk2 := Va.keep Kc1 (fun q => nomatch q)
  have Ek3 := Ey0.keep Kc1
  have Ek4 := Ey1.keep Kc1
  have Ek5 := Ey2.keep Kc1
  have Z1 : n0 ≤ T1.heap.size := Nat.le_trans Z0 Kc1.1
  have SK1 : own_SK Z h0 T1.heap := (own_SK.rf Z h0).tr SKc1
  have K1 : Keep h0 T1.heap [] := (Keep.refl h0 []).trans Kc1 (fun x hx => nomatch hx)
  refine own_go (T' := T1) (g' := (mkF m 63 #[.val (.ref xa), .unset] [(.ref r1)])) (fun _ k => st1 _ k) ?_
  obtain ⟨fs, hr, hrun, hended, hW, hsame⟩ := X1.leave (v := some (.ref r1)) (fun h => by rw [Bd.returns] at h; cases h)
  refine own_end (retOut X1 hx Bd.returns rfl (Or.inr (Or.inr (Or.inr (Or.inr ⟨rfl, rfl, rfl⟩)))) (hb hby own_dLo3_63) hr) hrun hended ⟨_, _, rfl, (?_ : own_QLo3 Z xa ka y0 y1 y2 h0 n0 _ T1.heap _), ⟨_, rfl⟩, hW, hsame.mono (by decide) (by decide)⟩
  exact ⟨rfl, N1, K1, SK1, r1, ra1, kr1, rfl, hz_r1, Ec1, F0c1, Vc1⟩
theorem own_dLo0_0 : decode jdk_40_method_36_code 0 = .ok (.getstatic 90, 3) := by decide +kernel
theorem own_dLo0_3 : decode jdk_40_method_36_code 3 = .ok (.areturn, 1) := by decide +kernel
theorem own_efLo0 (m : MethodId)  : entryFrame m #[] 0 = mkF m 0 #[] [] := by first | (simp [entryFrame, mkF, argsToLocals, Value.category]; done) | rfl
def own_QLo0 (Z : State)  (xE : Addr) (h0 : Heap) (n0 : Nat) (v : Option Value) (h : Heap) (L : List Loc) : Prop := v = some (.ref xE) ∧ Fr n0 L ∧ h = h0
set_option maxRecDepth 65536 in
set_option maxHeartbeats 40000000 in
theorem own_rLo0 (l : Launch) (Z : State) (a0 : Array Value) (hw : ∀ d ∈ tables_1, d.before a0 Z = true) (ws : List Jvm.Cond)  (xE : Addr) (h0 : Heap) (n0 : Nat) (Z0 : n0 ≤ h0.size) (Se : Sta Z h0 "java/util/ImmutableCollections" "EMPTY_LIST" "Ljava/util/ImmutableCollections$ListN;" (.ref xE)) :
    MetFree l (⟨"java/util/List", "of", "()Ljava/util/List;"⟩ : MethodName) (head1 (Jvm.Cond.code (⟨"java/util/List", "of", "()Ljava/util/List;"⟩ : MethodName) jdk_40_method_36_code 0 (some (.object "java/util/List")) :: ws) ({ frames := 0, cells := 0, slots := 0, locals := 0 } : Room)) (fun a U => a = #[] ∧ Z.Warmed39 U.vm ∧ U.heap = h0) (fun _ _ _ _ _ => True) (fun _ U o U' => ∃ v L, o = .returned v ∧ own_QLo0 Z xE h0 n0 v U'.heap L ∧ FrameEnd U o U' L ({ frames := 0, cells := 0, slots := 0, locals := 0 } : Room).cells ({ frames := 0, cells := 0, slots := 0, locals := 0 } : Room).slots) := by
  refine MetFree.of_bodySF (plainFor_of_name own_pn12) hisR ?_
  intro p e s m args below meth c s₁ Bd hml0 hP hK
  obtain ⟨rfl, hZ, hh⟩ := hP
  have hx := Bd.exec
  have hby := Bd.bytes
  have hml : c.maxLocals = 0 := hml0
  have hown : s.vm.findClass "java/util/List" = some m.cls := findClass_of_methodNamed Bd.named
  have hnm := (name_of_methodNamed Bd.named Bd.method).1
  have X0 : Stand p l e ({ frames := 0, cells := 0, slots := 0, locals := 0 } : Room) s m #[] below meth c s₁ [] 0 0 := Stand.of_body Bd
  have e0 : s₁.heap = h0 := by rw [← hh, Bd.state]; rfl
  have N0 := Fr.nil n0
  show own_F p e below (fun o U' => ∃ v L, o = .returned v ∧ own_QLo0 Z xE h0 n0 v U'.heap L ∧ FrameEnd s o U' L ({ frames := 0, cells := 0, slots := 0, locals := 0 } : Room).cells ({ frames := 0, cells := 0, slots := 0, locals := 0 } : Room).slots) s₁ (entryFrame m #[] 0)
  rw [own_efLo0 m ]
  obtain ⟨T1, X1, e1, st1⟩ := getS X0 hx hZ (host := "") hown (hw _ (List.mem_of_getElem? (i := 84) rfl)) Via.refl e0 Se (g := (mkF m 0 #[] [])) rfl (hb hby own_dLo0_0)
  refine own_go (T' := T1) (g' := (mkF m 3 #[] [(.ref xE)])) (fun _ k => st1 _ k) ?_
  obtain ⟨fs, hr, hrun, hended, hW, hsame⟩ := X1.leave (v := some (.ref xE)) (fun h => by rw [Bd.returns] at h; cases h)
  refine own_end (retOut X1 hx Bd.returns rfl (Or.inr (Or.inr (Or.inr (Or.inr ⟨rfl, rfl, rfl⟩)))) (hb hby own_dLo0_3) hr) hrun hended ⟨_, _, rfl, (?_ : own_QLo0 Z xE h0 n0 _ T1.heap _), ⟨_, rfl⟩, hW, hsame.mono (by decide) (by decide)⟩
  rw [e1]
  exact ⟨rfl, N0, rfl⟩
theorem own_pd14 : parseMethodDescriptor "()Z" = some ⟨[], some .boolean⟩ := by decide +kernel
theorem own_pd15 : parseMethodDescriptor "()Ljava/util/List;" = some ⟨[], some (.object "java/util/List")⟩ := by decide +kernel
theorem own_dLc0_0 : decode jdk_56_method_3_code 0 = .ok (.aload_n 0, 1) := by decide +kernel
theorem own_dLc0_1 : decode jdk_56_method_3_code 1 = .ok (.instanceof 10, 3) := by decide +kernel
theorem own_dLc0_4 : decode jdk_56_method_3_code 4 = .ok (.ifCond .ne 22, 3) := by decide +kernel
theorem own_dLc0_7 : decode jdk_56_method_3_code 7 = .ok (.aload_n 0, 1) := by decide +kernel
theorem own_dLc0_8 : decode jdk_56_method_3_code 8 = .ok (.instanceof 12, 3) := by decide +kernel
theorem own_dLc0_11 : decode jdk_56_method_3_code 11 = .ok (.ifCond .eq 20, 3) := by decide +kernel
theorem own_dLc0_31 : decode jdk_56_method_3_code 31 = .ok (.aload_n 0, 1) := by decide +kernel
theorem own_dLc0_32 : decode jdk_56_method_3_code 32 = .ok (.invokeinterface 20 1, 5) := by decide +kernel
theorem own_dLc0_37 : decode jdk_56_method_3_code 37 = .ok (.ifCond .eq 7, 3) := by decide +kernel
theorem own_dLc0_40 : decode jdk_56_method_3_code 40 = .ok (.invokestatic 26, 3) := by decide +kernel
theorem own_dLc0_43 : decode jdk_56_method_3_code 43 = .ok (.areturn, 1) := by decide +kernel
theorem own_efLc0 (m : MethodId) (xl : Addr) : entryFrame m #[(.ref xl)] 2 = mkF m 0 #[.val (.ref xl), .unset] [] := by first | (simp [entryFrame, mkF, argsToLocals, Value.category]; done) | rfl
def own_QLc0 (Z : State) (xl : Addr) (xE : Addr) (h0 : Heap) (n0 : Nat) (v : Option Value) (h : Heap) (L : List Loc) : Prop := v = some (.ref xE) ∧ Fr n0 L ∧ h = h0
set_option maxRecDepth 65536 in
set_option maxHeartbeats 40000000 in
theorem own_rLc0 (l : Launch) (Z : State) (a0 : Array Value) (hw : ∀ d ∈ tables_1, d.before a0 Z = true) (ws : List Jvm.Cond) (xl : Addr) (xE : Addr) (h0 : Heap) (n0 : Nat) (Z0 : n0 ≤ h0.size) (E1 : Exa Z h0 xl "java/util/ArrayList") (Fs : Fld Z h0 xl "java/util/ArrayList" "size" "I" (.int (0 : Int32))) (Se : Sta Z h0 "java/util/ImmutableCollections" "EMPTY_LIST" "Ljava/util/ImmutableCollections$ListN;" (.ref xE)) :
    MetFree l (⟨"java/util/ImmutableCollections", "listCopy", "(Ljava/util/Collection;)Ljava/util/List;"⟩ : MethodName) (head1 (Jvm.Cond.code (⟨"java/util/ImmutableCollections", "listCopy", "(Ljava/util/Collection;)Ljava/util/List;"⟩ : MethodName) jdk_56_method_3_code 2 (some (.object "java/util/List")) :: ws) ({ frames := 1, cells := 0, slots := 0, locals := 12 } : Room)) (fun a U => a = #[(.ref xl)] ∧ Z.Warmed39 U.vm ∧ U.heap = h0) (fun _ _ _ _ _ => True) (fun _ U o U' => ∃ v L, o = .returned v ∧ own_QLc0 Z xl xE h0 n0 v U'.heap L ∧ FrameEnd U o U' L ({ frames := 1, cells := 0, slots := 0, locals := 12 } : Room).cells ({ frames := 1, cells := 0, slots := 0, locals := 12 } : Room).slots) := by
  refine MetFree.of_bodySF (plainFor_of_name own_pn11) hisR ?_
  intro p e s m args below meth c s₁ Bd hml0 hP hK
  obtain ⟨rfl, hZ, hh⟩ := hP
  have hx := Bd.exec
  have hby := Bd.bytes
  have hml : c.maxLocals = 2 := hml0
  have hown : s.vm.findClass "java/util/ImmutableCollections" = some m.cls := findClass_of_methodNamed Bd.named
  have hnm := (name_of_methodNamed Bd.named Bd.method).1
  have X0 : Stand p l e ({ frames := 1, cells := 0, slots := 0, locals := 12 } : Room) s m #[(.ref xl)] below meth c s₁ [] 0 0 := Stand.of_body Bd
  have e0 : s₁.heap = h0 := by rw [← hh, Bd.state]; rfl
  have N0 := Fr.nil n0
  show own_F p e below (fun o U' => ∃ v L, o = .returned v ∧ own_QLc0 Z xl xE h0 n0 v U'.heap L ∧ FrameEnd s o U' L ({ frames := 1, cells := 0, slots := 0, locals := 12 } : Room).cells ({ frames := 1, cells := 0, slots := 0, locals := 12 } : Room).slots) s₁ (entryFrame m #[(.ref xl)] 2)
  rw [own_efLc0 m xl]
  refine own_go (T' := s₁) (g' := (mkF m 1 #[.val (.ref xl), .unset] [(.ref xl)])) (fun _ k => XS.aloadN X0.here hx rfl (hb hby own_dLc0_0) rfl rfl k) ?_
  obtain ⟨T1, X1, e1, st1⟩ := instNo X0 hx hZ hown (hw _ (List.mem_of_getElem? (i := 64) rfl)) e0 E1 (own_nsN (hw _ (List.mem_of_getElem? (i := 65) rfl)) (hw _ (List.mem_of_getElem? (i := 197) rfl)) (NS.step (hw _ (List.mem_of_getElem? (i := 65) rfl)) (NS.step (hw _ (List.mem_of_getElem? (i := 66) rfl)) (NS.step (hw _ (List.mem_of_getElem? (i := 67) rfl)) (own_nsR (hw _ (List.mem_of_getElem? (i := 68) rfl)) (hw _ (List.mem_of_getElem? (i := 197) rfl)) (by decide)) (by decide)) (by decide)) (by decide)) (by decide)) (g := (mkF m 1 #[.val (.ref xl), .unset] [(.ref xl)])) rfl rfl (hb hby own_dLc0_1)
  refine own_go (T' := T1) (g' := (mkF m 4 #[.val (.ref xl), .unset] [(.int (0 : Int32))])) (fun _ k => st1 _ k) ?_
  refine own_go (T' := T1) (g' := (mkF m 7 #[.val (.ref xl), .unset] [])) (fun _ k => XS.ifNo X1.here hx rfl (hb hby own_dLc0_4) rfl ((if0 _ _).trans (teq ((by decide) : (0 : Int32) = (0 : Int32))).2) k) ?_
  refine own_go (T' := T1) (g' := (mkF m 8 #[.val (.ref xl), .unset] [(.ref xl)])) (fun _ k => XS.aloadN X1.here hx rfl (hb hby own_dLc0_7) rfl rfl k) ?_
  obtain ⟨T2, X2, e2, st2⟩ := instNo X1 hx hZ hown (hw _ (List.mem_of_getElem? (i := 69) rfl)) e1 E1 (own_nsN (hw _ (List.mem_of_getElem? (i := 65) rfl)) (hw _ (List.mem_of_getElem? (i := 175) rfl)) (NS.step (hw _ (List.mem_of_getElem? (i := 65) rfl)) (NS.step (hw _ (List.mem_of_getElem? (i := 66) rfl)) (NS.step (hw _ (List.mem_of_getElem? (i := 67) rfl)) (own_nsR (hw _ (List.mem_of_getElem? (i := 68) rfl)) (hw _ (List.mem_of_getElem? (i := 175) rfl)) (by decide)) (by decide)) (by decide)) (by decide)) (by decide)) (g := (mkF m 8 #[.val (.ref xl), .unset] [(.ref xl)])) rfl rfl (hb hby own_dLc0_8)
  refine own_go (T' := T2) (g' := (mkF m 11 #[.val (.ref xl), .unset] [(.int (0 : Int32))])) (fun _ k => st2 _ k) ?_
  refine own_go (T' := T2) (g' := (mkF m 31 #[.val (.ref xl), .unset] [])) (fun _ k => XS.ifYes X2.here hx rfl (pc0 := 11) (pc' := 31) rfl (hb hby own_dLc0_11) rfl ((if0 _ _).trans (teq ((by decide) : (0 : Int32) = (0 : Int32))).1) (by decide) (by decide) k) ?_
  refine own_go (T' := T2) (g' := (mkF m 32 #[.val (.ref xl), .unset] [(.ref xl)])) (fun _ k => XS.aloadN X2.here hx rfl (hb hby own_dLc0_31) rfl rfl k) ?_
  obtain ⟨cq3, kq3, q3a, q3b, q3c⟩ := isOf hZ e2 E1
  obtain ⟨_, _, ⟨T3, L3, k3, n3⟩, -, X3, ⟨Lc3, hQ3, l3, y3, z3⟩, st3⟩ := X2.interfaceBack hx (xi := (⟨"java/util/Collection", "isEmpty", "()Z"⟩ : MethodName)) (y := (⟨"java/util/ArrayList", "isEmpty", "()Z"⟩ : MethodName)) hown (mvT hZ (hw _ (List.mem_of_getElem? (i := 70) rfl))) (mvT hZ (hw _ (List.mem_of_getElem? (i := 71) rfl))) (mvT hZ (hw _ (List.mem_of_getElem? (i := 72) rfl))) (mvT hZ (hw _ (List.mem_of_getElem? (i := 73) rfl))) (mvT hZ (hw _ (List.mem_of_getElem? (i := 74) rfl))) (mvT hZ (hw _ (List.mem_of_getElem? (i := 75) rfl))) (mvT hZ (hw _ (List.mem_of_getElem? (i := 76) rfl))) (mvT hZ (hw _ (List.mem_of_getElem? (i := 77) rfl))) (by decide) (backOf (W := 0) (own_rIe0 l Z a0 hw [] xl h0 n0 Z0 Fs) hZ (hw _ (List.mem_of_getElem? (i := 78) rfl)) (hw _ (List.mem_of_getElem? (i := 22) rfl)) (by decide) (by decide)) q3a q3b q3c (g := (mkF m 32 #[.val (.ref xl), .unset] [(.ref xl)])) rfl (by rw [hml]; rfl) (Steps.refl _) (argsL := []) (rest := []) (lenOf own_pd14 rfl) rfl (by show 2 * 0 + _ ≤ _; exact Nat.le_of_eq rfl) (hb hby own_dLc0_32) (fun _ _ => ⟨rfl, e2, (by decide : 0 + 0 ≤ _), (by decide : 0 + 0 ≤ _)⟩)
  dsimp only [Pt.U, Pt.locs, Pt.cells, Pt.slots] at X3 l3 y3 z3 st3 hQ3
  subst l3 y3 z3
  obtain ⟨rfl, N3q, e3⟩ := hQ3
  have N3 := Fr.app N0 N3q
  refine own_goT (T' := T3) (g' := (mkF m 37 #[.val (.ref xl), .unset] [(.int (1 : Int32))])) st3 ?_
  refine own_go (T' := T3) (g' := (mkF m 40 #[.val (.ref xl), .unset] [])) (fun _ k => XS.ifNo X3.here hx rfl (hb hby own_dLc0_37) rfl ((if0 _ _).trans (feq ((by decide) : ¬ ((1 : Int32) = (0 : Int32)))).1) k) ?_
  obtain ⟨_, _, ⟨T4, L4, k4, n4⟩, -, X4, ⟨Lc4, hQ4, l4, y4, z4⟩, st4⟩ := Jvm.LawKit.callS X3 hx (y := (⟨"java/util/List", "of", "()Ljava/util/List;"⟩ : MethodName)) hown (mvT hZ (hw _ (List.mem_of_getElem? (i := 81) rfl))) (mvT hZ (hw _ (List.mem_of_getElem? (i := 82) rfl))) (mvT hZ (hw _ (List.mem_of_getElem? (i := 58) rfl))) (mvT hZ (hw _ (List.mem_of_getElem? (i := 83) rfl))) (by decide) (backOf (W := 0) (own_rLo0 l Z a0 hw [] xE h0 n0 Z0 Se) hZ (hw _ (List.mem_of_getElem? (i := 83) rfl)) (hw _ (List.mem_of_getElem? (i := 58) rfl)) (by decide) (by decide)) (g := (mkF m 40 #[.val (.ref xl), .unset] [])) rfl (by rw [hml]; rfl) (argsL := []) (rest := []) (lenOf own_pd15 rfl) rfl (by show 2 * 0 + _ ≤ _; exact Nat.le_of_eq rfl) (hb hby own_dLc0_40) (fun _ _ => ⟨rfl, e3, (by decide : 0 + 0 ≤ _), (by decide : 0 + 0 ≤ _)⟩)
  dsimp only [Pt.U, Pt.locs, Pt.cells, Pt.slots] at X4 l4 y4 z4 st4 hQ4
  subst l4 y4 z4
  obtain ⟨rfl, N4q, e4⟩ := hQ4
  have N4 := Fr.app N3 N4q
  refine own_go (T' := T4) (g' := (mkF m 43 #[.val (.ref xl), .unset] [(.ref xE)])) (fun _ k => st4 _ k) ?_
  obtain ⟨fs, hr, hrun, hended, hW, hsame⟩ := X4.leave (v := some (.ref xE)) (fun h => by rw [Bd.returns] at h; cases h)
  refine own_end (retOut X4 hx Bd.returns rfl (Or.inr (Or.inr (Or.inr (Or.inr ⟨rfl, rfl, rfl⟩)))) (hb hby own_dLc0_43) hr) hrun hended ⟨_, _, rfl, (?_ : own_QLc0 Z xl xE h0 n0 _ T4.heap _), ⟨_, rfl⟩, hW, hsame.mono (by decide) (by decide)⟩
  rw [e4]
  exact ⟨rfl, N4, rfl⟩
theorem own_pd16 : parseMethodDescriptor "(Ljava/util/Collection;)Ljava/util/List;" = some ⟨[(.object "java/util/Collection")], some (.object "java/util/List")⟩ := by decide +kernel
theorem own_dCo0_0 : decode jdk_40_method_48_code 0 = .ok (.aload_n 0, 1) := by decide +kernel
theorem own_dCo0_1 : decode jdk_40_method_48_code 1 = .ok (.invokestatic 112, 3) := by decide +kernel
theorem own_dCo0_4 : decode jdk_40_method_48_code 4 = .ok (.areturn, 1) := by decide +kernel
theorem own_efCo0 (m : MethodId) (xl : Addr) : entryFrame m #[(.ref xl)] 1 = mkF m 0 #[.val (.ref xl)] [] := by first | (simp [entryFrame, mkF, argsToLocals, Value.category]; done) | rfl
def own_QCo0 (Z : State) (xl : Addr) (xE : Addr) (h0 : Heap) (n0 : Nat) (v : Option Value) (h : Heap) (L : List Loc) : Prop := v = some (.ref xE) ∧ Fr n0 L ∧ h = h0
set_option maxRecDepth 65536 in
set_option maxHeartbeats 40000000 in
theorem own_rCo0 (l : Launch) (Z : State) (a0 : Array Value) (hw : ∀ d ∈ tables_1, d.before a0 Z = true) (ws : List Jvm.Cond) (xl : Addr) (xE : Addr) (h0 : Heap) (n0 : Nat) (Z0 : n0 ≤ h0.size) (E1 : Exa Z h0 xl "java/util/ArrayList") (Fs : Fld Z h0 xl "java/util/ArrayList" "size" "I" (.int (0 : Int32))) (Se : Sta Z h0 "java/util/ImmutableCollections" "EMPTY_LIST" "Ljava/util/ImmutableCollections$ListN;" (.ref xE)) :
    MetFree l (⟨"java/util/List", "copyOf", "(Ljava/util/Collection;)Ljava/util/List;"⟩ : MethodName) (head1 (Jvm.Cond.code (⟨"java/util/List", "copyOf", "(Ljava/util/Collection;)Ljava/util/List;"⟩ : MethodName) jdk_40_method_48_code 1 (some (.object "java/util/List")) :: ws) ({ frames := 2, cells := 0, slots := 0, locals := 25 } : Room)) (fun a U => a = #[(.ref xl)] ∧ Z.Warmed39 U.vm ∧ U.heap = h0) (fun _ _ _ _ _ => True) (fun _ U o U' => ∃ v L, o = .returned v ∧ own_QCo0 Z xl xE h0 n0 v U'.heap L ∧ FrameEnd U o U' L ({ frames := 2, cells := 0, slots := 0, locals := 25 } : Room).cells ({ frames := 2, cells := 0, slots := 0, locals := 25 } : Room).slots) := by
  refine MetFree.of_bodySF (plainFor_of_name own_pn12) hisR ?_
  intro p e s m args below meth c s₁ Bd hml0 hP hK
  obtain ⟨rfl, hZ, hh⟩ := hP
  have hx := Bd.exec
  have hby := Bd.bytes
  have hml : c.maxLocals = 1 := hml0
  have hown : s.vm.findClass "java/util/List" = some m.cls := findClass_of_methodNamed Bd.named
  have hnm := (name_of_methodNamed Bd.named Bd.method).1
  have X0 : Stand p l e ({ frames := 2, cells := 0, slots := 0, locals := 25 } : Room) s m #[(.ref xl)] below meth c s₁ [] 0 0 := Stand.of_body Bd
  have e0 : s₁.heap = h0 := by rw [← hh, Bd.state]; rfl
  have N0 := Fr.nil n0
  show own_F p e below (fun o U' => ∃ v L, o = .returned v ∧ own_QCo0 Z xl xE h0 n0 v U'.heap L ∧ FrameEnd s o U' L ({ frames := 2, cells := 0, slots := 0, locals := 25 } : Room).cells ({ frames := 2, cells := 0, slots := 0, locals := 25 } : Room).slots) s₁ (entryFrame m #[(.ref xl)] 1)
  rw [own_efCo0 m xl]
  refine own_go (T' := s₁) (g' := (mkF m 1 #[.val (.ref xl)] [(.ref xl)])) (fun _ k => XS.aloadN X0.here hx rfl (hb hby own_dCo0_0) rfl rfl k) ?_
  obtain ⟨_, _, ⟨T1, L1, k1, n1⟩, -, X1, ⟨Lc1, hQ1, l1, y1, z1⟩, st1⟩ := Jvm.LawKit.callS X0 hx (y := (⟨"java/util/ImmutableCollections", "listCopy", "(Ljava/util/Collection;)Ljava/util/List;"⟩ : MethodName)) hown (mvT hZ (hw _ (List.mem_of_getElem? (i := 60) rfl))) (mvT hZ (hw _ (List.mem_of_getElem? (i := 61) rfl))) (mvT hZ (hw _ (List.mem_of_getElem? (i := 62) rfl))) (mvT hZ (hw _ (List.mem_of_getElem? (i := 63) rfl))) (by decide) (backOf (W := 0) (own_rLc0 l Z a0 hw [] xl xE h0 n0 Z0 E1 Fs Se) hZ (hw _ (List.mem_of_getElem? (i := 63) rfl)) (hw _ (List.mem_of_getElem? (i := 62) rfl)) (by decide) (by decide)) (g := (mkF m 1 #[.val (.ref xl)] [(.ref xl)])) rfl (by rw [hml]; rfl) (argsL := [(.ref xl)]) (rest := []) (lenOf own_pd16 rfl) rfl (by show 2 * 0 + _ ≤ _; exact Nat.le_of_eq rfl) (hb hby own_dCo0_1) (fun _ _ => ⟨rfl, e0, (by decide : 0 + 0 ≤ _), (by decide : 0 + 0 ≤ _)⟩)
  dsimp only [Pt.U, Pt.locs, Pt.cells, Pt.slots] at X1 l1 y1 z1 st1 hQ1
  subst l1 y1 z1
  obtain ⟨rfl, N1q, e1⟩ := hQ1
  have N1 := Fr.app N0 N1q
  refine own_go (T' := T1) (g' := (mkF m 4 #[.val (.ref xl)] [(.ref xE)])) (fun _ k => st1 _ k) ?_
  obtain ⟨fs, hr, hrun, hended, hW, hsame⟩ := X1.leave (v := some (.ref xE)) (fun h => by rw [Bd.returns] at h; cases h)
  refine own_end (retOut X1 hx Bd.returns rfl (Or.inr (Or.inr (Or.inr (Or.inr ⟨rfl, rfl, rfl⟩)))) (hb hby own_dCo0_4) hr) hrun hended ⟨_, _, rfl, (?_ : own_QCo0 Z xl xE h0 n0 _ T1.heap _), ⟨_, rfl⟩, hW, hsame.mono (by decide) (by decide)⟩
  rw [e1]
  exact ⟨rfl, N1, rfl⟩
theorem own_dLc1_0 : decode jdk_56_method_3_code 0 = .ok (.aload_n 0, 1) := by decide +kernel
theorem own_dLc1_1 : decode jdk_56_method_3_code 1 = .ok (.instanceof 10, 3) := by decide +kernel
theorem own_dLc1_4 : decode jdk_56_method_3_code 4 = .ok (.ifCond .ne 22, 3) := by decide +kernel
theorem own_dLc1_7 : decode jdk_56_method_3_code 7 = .ok (.aload_n 0, 1) := by decide +kernel
theorem own_dLc1_8 : decode jdk_56_method_3_code 8 = .ok (.instanceof 12, 3) := by decide +kernel
theorem own_dLc1_11 : decode jdk_56_method_3_code 11 = .ok (.ifCond .eq 20, 3) := by decide +kernel
theorem own_dLc1_31 : decode jdk_56_method_3_code 31 = .ok (.aload_n 0, 1) := by decide +kernel
theorem own_dLc1_32 : decode jdk_56_method_3_code 32 = .ok (.invokeinterface 20 1, 5) := by decide +kernel
theorem own_dLc1_37 : decode jdk_56_method_3_code 37 = .ok (.ifCond .eq 7, 3) := by decide +kernel
theorem own_dLc1_44 : decode jdk_56_method_3_code 44 = .ok (.aload_n 0, 1) := by decide +kernel
theorem own_dLc1_45 : decode jdk_56_method_3_code 45 = .ok (.invokeinterface 30 1, 5) := by decide +kernel
theorem own_dLc1_50 : decode jdk_56_method_3_code 50 = .ok (.invokestatic 34, 3) := by decide +kernel
theorem own_dLc1_53 : decode jdk_56_method_3_code 53 = .ok (.areturn, 1) := by decide +kernel
theorem own_efLc1 (m : MethodId) (xl : Addr) : entryFrame m #[(.ref xl)] 2 = mkF m 0 #[.val (.ref xl), .unset] [] := by first | (simp [entryFrame, mkF, argsToLocals, Value.category]; done) | rfl
def own_QLc1 (Z : State) (xl : Addr) (xa : Addr) (ka : ClassId) (xm : Addr) (xq : Addr) (y0 : Addr) (h0 : Heap) (n0 : Nat) (v : Option Value) (h : Heap) (L : List Loc) : Prop := v = v ∧ Fr n0 L ∧ Keep h0 h [] ∧ own_SK Z h0 h ∧ ∃ r, v = some (.ref r) ∧ h0.size ≤ r ∧ Exa Z h r "java/util/ImmutableCollections$List12" ∧ Fld Z h r "java/util/ImmutableCollections$List12" "e0" "Ljava/lang/Object;" (.ref y0) ∧ Fld Z h r "java/util/ImmutableCollections$List12" "e1" "Ljava/lang/Object;" (.ref xq)
set_option maxRecDepth 65536 in
set_option maxHeartbeats 40000000 in
theorem own_rLc1 (l : Launch) (Z : State) (a0 : Array Value) (hw : ∀ d ∈ tables_1, d.before a0 Z = true) (ws : List Jvm.Cond) (xl : Addr) (xa : Addr) (ka : ClassId) (xm : Addr) (xq : Addr) (y0 : Addr) (h0 : Heap) (n0 : Nat) (Z0 : n0 ≤ h0.size) (E1 : Exa Z h0 xl "java/util/ArrayList") (Fs : Fld Z h0 xl "java/util/ArrayList" "size" "I" (.int (1 : Int32))) (Fe : Fld Z h0 xl "java/util/ArrayList" "elementData" "[Ljava/lang/Object;" (.ref xa)) (Va : own_A Z h0 xa ka (.object "java/lang/Object") [(.ref y0), .null, .null, .null, .null, .null, .null, .null, .null, .null]) (M : own_Mir Z "[Ljava/lang/Object;" xm) (Eo : Exa Z h0 xa "[Ljava/lang/Object;") (Sq : Sta Z h0 "java/util/ImmutableCollections" "EMPTY" "Ljava/lang/Object;" (.ref xq)) (Ey0 : Exa Z h0 y0 "java/time/Duration") :
    MetFree l (⟨"java/util/ImmutableCollections", "listCopy", "(Ljava/util/Collection;)Ljava/util/List;"⟩ : MethodName) (head1 (Jvm.Cond.code (⟨"java/util/ImmutableCollections", "listCopy", "(Ljava/util/Collection;)Ljava/util/List;"⟩ : MethodName) jdk_56_method_3_code 2 (some (.object "java/util/List")) :: ws) ({ frames := 6, cells := 2, slots := 3, locals := 115 } : Room)) (fun a U => a = #[(.ref xl)] ∧ Z.Warmed39 U.vm ∧ U.heap = h0) (fun _ _ _ _ _ => True) (fun _ U o U' => ∃ v L, o = .returned v ∧ own_QLc1 Z xl xa ka xm xq y0 h0 n0 v U'.heap L ∧ FrameEnd U o U' L ({ frames := 6, cells := 2, slots := 3, locals := 115 } : Room).cells ({ frames := 6, cells := 2, slots := 3, locals := 115 } : Room).slots) := by
  refine MetFree.of_bodySF (plainFor_of_name own_pn11) hisR ?_
  intro p e s m args below meth c s₁ Bd hml0 hP hK
  obtain ⟨rfl, hZ, hh⟩ := hP
  have hx := Bd.exec
  have hby := Bd.bytes
  have hml : c.maxLocals = 2 := hml0
  have hown : s.vm.findClass "java/util/ImmutableCollections" = some m.cls := findClass_of_methodNamed Bd.named
  have hnm := (name_of_methodNamed Bd.named Bd.method).1
  have X0 : Stand p l e ({ frames := 6, cells := 2, slots := 3, locals := 115 } : Room) s m #[(.ref xl)] below meth c s₁ [] 0 0 := Stand.of_body Bd
  have e0 : s₁.heap = h0 := by rw [← hh, Bd.state]; rfl
  have N0 := Fr.nil n0
  show own_F p e below (fun o U' => ∃ v L, o = .returned v ∧ own_QLc1 Z xl xa ka xm xq y0 h0 n0 v U'.heap L ∧ FrameEnd s o U' L ({ frames := 6, cells := 2, slots := 3, locals := 115 } : Room).cells ({ frames := 6, cells := 2, slots := 3, locals := 115 } : Room).slots) s₁ (entryFrame m #[(.ref xl)] 2)
  rw [own_efLc1 m xl]
  refine own_go (T' := s₁) (g' := (mkF m 1 #[.val (.ref xl), .unset] [(.ref xl)])) (fun _ k => XS.aloadN X0.here hx rfl (hb hby own_dLc1_0) rfl rfl k) ?_
  obtain ⟨T1, X1, e1, st1⟩ := instNo X0 hx hZ hown (hw _ (List.mem_of_getElem? (i := 64) rfl)) e0 E1 (own_nsN (hw _ (List.mem_of_getElem? (i := 65) rfl)) (hw _ (List.mem_of_getElem? (i := 197) rfl)) (NS.step (hw _ (List.mem_of_getElem? (i := 65) rfl)) (NS.step (hw _ (List.mem_of_getElem? (i := 66) rfl)) (NS.step (hw _ (List.mem_of_getElem? (i := 67) rfl)) (own_nsR (hw _ (List.mem_of_getElem? (i := 68) rfl)) (hw _ (List.mem_of_getElem? (i := 197) rfl)) (by decide)) (by decide)) (by decide)) (by decide)) (by decide)) (g := (mkF m 1 #[.val (.ref xl), .unset] [(.ref xl)])) rfl rfl (hb hby own_dLc1_1)
  refine own_go (T' := T1) (g' := (mkF m 4 #[.val (.ref xl), .unset] [(.int (0 : Int32))])) (fun _ k => st1 _ k) ?_
  refine own_go (T' := T1) (g' := (mkF m 7 #[.val (.ref xl), .unset] [])) (fun _ k => XS.ifNo X1.here hx rfl (hb hby own_dLc1_4) rfl ((if0 _ _).trans (teq ((by decide) : (0 : Int32) = (0 : Int32))).2) k) ?_
  refine own_go (T' := T1) (g' := (mkF m 8 #[.val (.ref xl), .unset] [(.ref xl)])) (fun _ k => XS.aloadN X1.here hx rfl (hb hby own_dLc1_7) rfl rfl k) ?_
  obtain ⟨T2, X2, e2, st2⟩ := instNo X1 hx hZ hown (hw _ (List.mem_of_getElem? (i := 69) rfl)) e1 E1 (own_nsN (hw _ (List.mem_of_getElem? (i := 65) rfl)) (hw _ (List.mem_of_getElem? (i := 175) rfl)) (NS.step (hw _ (List.mem_of_getElem? (i := 65) rfl)) (NS.step (hw _ (List.mem_of_getElem? (i := 66) rfl)) (NS.step (hw _ (List.mem_of_getElem? (i := 67) rfl)) (own_nsR (hw _ (List.mem_of_getElem? (i := 68) rfl)) (hw _ (List.mem_of_getElem? (i := 175) rfl)) (by decide)) (by decide)) (by decide)) (by decide)) (by decide)) (g := (mkF m 8 #[.val (.ref xl), .unset] [(.ref xl)])) rfl rfl (hb hby own_dLc1_8)
  refine own_go (T' := T2) (g' := (mkF m 11 #[.val (.ref xl), .unset] [(.int (0 : Int32))])) (fun _ k => st2 _ k) ?_
  refine own_go (T' := T2) (g' := (mkF m 31 #[.val (.ref xl), .unset] [])) (fun _ k => XS.ifYes X2.here hx rfl (pc0 := 11) (pc' := 31) rfl (hb hby own_dLc1_11) rfl ((if0 _ _).trans (teq ((by decide) : (0 : Int32) = (0 : Int32))).1) (by decide) (by decide) k) ?_
  refine own_go (T' := T2) (g' := (mkF m 32 #[.val (.ref xl), .unset] [(.ref xl)])) (fun _ k => XS.aloadN X2.here hx rfl (hb hby own_dLc1_31) rfl rfl k) ?_
  obtain ⟨cq3, kq3, q3a, q3b, q3c⟩ := isOf hZ e2 E1
  obtain ⟨_, _, ⟨T3, L3, k3, n3⟩, -, X3, ⟨Lc3, hQ3, l3, y3, z3⟩, st3⟩ := X2.interfaceBack hx (xi := (⟨"java/util/Collection", "isEmpty", "()Z"⟩ : MethodName)) (y := (⟨"java/util/ArrayList", "isEmpty", "()Z"⟩ : MethodName)) hown (mvT hZ (hw _ (List.mem_of_getElem? (i := 70) rfl))) (mvT hZ (hw _ (List.mem_of_getElem? (i := 71) rfl))) (mvT hZ (hw _ (List.mem_of_getElem? (i := 72) rfl))) (mvT hZ (hw _ (List.mem_of_getElem? (i := 73) rfl))) (mvT hZ (hw _ (List.mem_of_getElem? (i := 74) rfl))) (mvT hZ (hw _ (List.mem_of_getElem? (i := 75) rfl))) (mvT hZ (hw _ (List.mem_of_getElem? (i := 76) rfl))) (mvT hZ (hw _ (List.mem_of_getElem? (i := 77) rfl))) (by decide) (backOf (W := 0) (own_rIe1 l Z a0 hw [] xl h0 n0 Z0 Fs) hZ (hw _ (List.mem_of_getElem? (i := 78) rfl)) (hw _ (List.mem_of_getElem? (i := 22) rfl)) (by decide) (by decide)) q3a q3b q3c (g := (mkF m 32 #[.val (.ref xl), .unset] [(.ref xl)])) rfl (by rw [hml]; rfl) (Steps.refl _) (argsL := []) (rest := []) (lenOf own_pd14 rfl) rfl (by show 2 * 0 + _ ≤ _; exact Nat.le_of_eq rfl) (hb hby own_dLc1_32) (fun _ _ => ⟨rfl, e2, (by decide : 0 + 0 ≤ _), (by decide : 0 + 0 ≤ _)⟩)
  dsimp only [Pt.U, Pt.locs, Pt.cells, Pt.slots] at X3 l3 y3 z3 st3 hQ3
  subst l3 y3 z3
  obtain ⟨rfl, N3q, e3⟩ := hQ3
  have N3 := Fr.app N0 N3q
  refine own_goT (T' := T3) (g' := (mkF m 37 #[.val (.ref xl), .unset] [(.int (0 : Int32))])) st3 ?_
  refine own_go (T' := T3) (g' := (mkF m 44 #[.val (.ref xl), .unset] [])) (fun _ k => XS.ifYes X3.here hx rfl (pc0 := 37) (pc' := 44) rfl (hb hby own_dLc1_37) rfl ((if0 _ _).trans (teq ((by decide) : (0 : Int32) = (0 : Int32))).1) (by decide) (by decide) k) ?_
  refine own_go (T' := T3) (g' := (mkF m 45 #[.val (.ref xl), .unset] [(.ref xl)])) (fun _ k => XS.aloadN X3.here hx rfl (hb hby own_dLc1_44) rfl rfl k) ?_
  obtain ⟨cq4, kq4, q4a, q4b, q4c⟩ := isOf hZ e3 E1
  obtain ⟨_, _, ⟨T4, L4, k4, n4⟩, -, X4, ⟨Lc4, hQ4, l4, y4, z4⟩, st4⟩ := X3.interfaceBack hx (xi := (⟨"java/util/Collection", "toArray", "()[Ljava/lang/Object;"⟩ : MethodName)) (y := (⟨"java/util/ArrayList", "toArray", "()[Ljava/lang/Object;"⟩ : MethodName)) hown (mvT hZ (hw _ (List.mem_of_getElem? (i := 134) rfl))) (mvT hZ (hw _ (List.mem_of_getElem? (i := 135) rfl))) (mvT hZ (hw _ (List.mem_of_getElem? (i := 136) rfl))) (mvT hZ (hw _ (List.mem_of_getElem? (i := 137) rfl))) (mvT hZ (hw _ (List.mem_of_getElem? (i := 138) rfl))) (mvT hZ (hw _ (List.mem_of_getElem? (i := 139) rfl))) (mvT hZ (hw _ (List.mem_of_getElem? (i := 140) rfl))) (mvT hZ (hw _ (List.mem_of_getElem? (i := 77) rfl))) (by decide) (backOf (W := 0) (own_rTa1 l Z a0 hw [] xl xa ka xm y0 h0 n0 Z0 Fe Fs Va M Eo Ey0) hZ (hw _ (List.mem_of_getElem? (i := 141) rfl)) (hw _ (List.mem_of_getElem? (i := 22) rfl)) (by decide) (by decide)) q4a q4b q4c (g := (mkF m 45 #[.val (.ref xl), .unset] [(.ref xl)])) rfl (by rw [hml]; rfl) (Steps.refl _) (argsL := []) (rest := []) (lenOf own_pd3 rfl) rfl (by show 2 * 0 + _ ≤ _; exact Nat.le_of_eq rfl) (hb hby own_dLc1_45) (fun _ _ => ⟨rfl, e3, (by decide : 0 + 1 ≤ _), (by decide : 0 + 1 ≤ _)⟩)
  dsimp only [Pt.U, Pt.locs, Pt.cells, Pt.slots] at X4 l4 y4 z4 st4 hQ4
  subst l4 y4 z4
  obtain ⟨-, N4q, Kc4, SKc4, r4, kr4, rfl, hzr4, Vc4⟩ := hQ4
  have N4 := Fr.app N3 N4q
  have ne_y0_r4 : y0 ≠ r4 := Nat.ne_of_lt (Nat.lt_of_lt_of_le Ey0.lt hzr4)
  have gz_r4 : n0 ≤ r4 := Nat.le_trans Z0 hzr4
  have hz_r4 : h0.size ≤ r4 := Nat.le_trans (Keep.refl h0 []).1 hzr4
  have Ek5 := Ey0.keep Kc4
  have Z4 : n0 ≤ T4.heap.size := Nat.le_trans Z0 Kc4.1
  have SK4 : own_SK Z h0 T4.heap := (own_SK.rf Z h0).tr SKc4
  have K4 : Keep h0 T4.heap [] := (Keep.refl h0 []).trans Kc4 (fun x hx => nomatch hx)
  refine own_goT (T' := T4) (g' := (mkF m 50 #[.val (.ref xl), .unset] [(.ref r4)])) st4 ?_
  obtain ⟨_, _, ⟨T6, L6, k6, n6⟩, -, X6, ⟨Lc6, hQ6, l6, y6, z6⟩, st6⟩ := Jvm.LawKit.callS X4 hx (y := (⟨"java/util/List", "of", "([Ljava/lang/Object;)Ljava/util/List;"⟩ : MethodName)) hown (mvT hZ (hw _ (List.mem_of_getElem? (i := 164) rfl))) (mvT hZ (hw _ (List.mem_of_getElem? (i := 165) rfl))) (mvT hZ (hw _ (List.mem_of_getElem? (i := 58) rfl))) (mvT hZ (hw _ (List.mem_of_getElem? (i := 166) rfl))) (by decide) (backOf (W := 0) (own_rLo1 l Z a0 hw [] r4 kr4 xq y0 T4.heap n0 Z4 Vc4 (SK4 _ _ _ _ Sq) Ek5) hZ (hw _ (List.mem_of_getElem? (i := 166) rfl)) (hw _ (List.mem_of_getElem? (i := 58) rfl)) (by decide) (by decide)) (g := (mkF m 50 #[.val (.ref xl), .unset] [(.ref r4)])) rfl (by rw [hml]; rfl) (argsL := [(.ref r4)]) (rest := []) (lenOf own_pd13 rfl) rfl (by show 2 * 0 + _ ≤ _; exact Nat.le_of_eq rfl) (hb hby own_dLc1_50) (fun _ _ => ⟨rfl, rfl, (by decide : 1 + 1 ≤ _), (by decide : 1 + 2 ≤ _)⟩)
  dsimp only [Pt.U, Pt.locs, Pt.cells, Pt.slots] at X6 l6 y6 z6 st6 hQ6
  subst l6 y6 z6
  obtain ⟨-, N6q, Kc6, SKc6, r6, rfl, hzr6, Ec6, F0c6, F1c6⟩ := hQ6
  have N6 := Fr.app N4 N6q
  have ne_y0_r6 : y0 ≠ r6 := Nat.ne_of_lt (Nat.lt_of_lt_of_le Ek5.lt hzr6)
  have ne_r4_r6 : r4 ≠ r6 := Nat.ne_of_lt (Nat.lt_of_lt_of_le Vc4.lt hzr6)
  have gz_r6 : n0 ≤ r6 := Nat.le_trans Z4 hzr6
  have hz_r6 : h0.size ≤ r6 := Nat.le_trans K4.1 hzr6
  have Ek7 := Ek5.keep Kc6
  have Vk8 := Vc4.keep Kc6 (fun q => nomatch q)
  have Z6 : n0 ≤ T6.heap.size := Nat.le_trans Z4 Kc6.1
  have SK6 : own_SK Z h0 T6.heap := SK4.tr SKc6
  have K6 : Keep h0 T6.heap [] := K4.trans Kc6 (fun x hx => nomatch hx)
  refine own_go (T' := T6) (g' := (mkF m 53 #[.val (.ref xl), .unset] [(.ref r6)])) (fun _ k => st6 _ k) ?_
  obtain ⟨fs, hr, hrun, hended, hW, hsame⟩ := X6.leave (v := some (.ref r6)) (fun h => by rw [Bd.returns] at h; cases h)
  refine own_end (retOut X6 hx Bd.returns rfl (Or.inr (Or.inr (Or.inr (Or.inr ⟨rfl, rfl, rfl⟩)))) (hb hby own_dLc1_53) hr) hrun hended ⟨_, _, rfl, (?_ : own_QLc1 Z xl xa ka xm xq y0 h0 n0 _ T6.heap _), ⟨_, rfl⟩, hW, hsame.mono (by decide) (by decide)⟩
  exact ⟨rfl, N6, K6, SK6, r6, rfl, hz_r6, Ec6, F0c6, F1c6⟩
theorem own_dCo1_0 : decode jdk_40_method_48_code 0 = .ok (.aload_n 0, 1) := by decide +kernel
theorem own_dCo1_1 : decode jdk_40_method_48_code 1 = .ok (.invokestatic 112, 3) := by decide +kernel
theorem own_dCo1_4 : decode jdk_40_method_48_code 4 = .ok (.areturn, 1) := by decide +kernel
theorem own_efCo1 (m : MethodId) (xl : Addr) : entryFrame m #[(.ref xl)] 1 = mkF m 0 #[.val (.ref xl)] [] := by first | (simp [entryFrame, mkF, argsToLocals, Value.category]; done) | rfl
def own_QCo1 (Z : State) (xl : Addr) (xa : Addr) (ka : ClassId) (xm : Addr) (xq : Addr) (y0 : Addr) (h0 : Heap) (n0 : Nat) (v : Option Value) (h : Heap) (L : List Loc) : Prop := v = v ∧ Fr n0 L ∧ Keep h0 h [] ∧ own_SK Z h0 h ∧ ∃ r, v = some (.ref r) ∧ h0.size ≤ r ∧ Exa Z h r "java/util/ImmutableCollections$List12" ∧ Fld Z h r "java/util/ImmutableCollections$List12" "e0" "Ljava/lang/Object;" (.ref y0) ∧ Fld Z h r "java/util/ImmutableCollections$List12" "e1" "Ljava/lang/Object;" (.ref xq)
set_option maxRecDepth 65536 in
set_option maxHeartbeats 40000000 in
theorem own_rCo1 (l : Launch) (Z : State) (a0 : Array Value) (hw : ∀ d ∈ tables_1, d.before a0 Z = true) (ws : List Jvm.Cond) (xl : Addr) (xa : Addr) (ka : ClassId) (xm : Addr) (xq : Addr) (y0 : Addr) (h0 : Heap) (n0 : Nat) (Z0 : n0 ≤ h0.size) (E1 : Exa Z h0 xl "java/util/ArrayList") (Fs : Fld Z h0 xl "java/util/ArrayList" "size" "I" (.int (1 : Int32))) (Fe : Fld Z h0 xl "java/util/ArrayList" "elementData" "[Ljava/lang/Object;" (.ref xa)) (Va : own_A Z h0 xa ka (.object "java/lang/Object") [(.ref y0), .null, .null, .null, .null, .null, .null, .null, .null, .null]) (M : own_Mir Z "[Ljava/lang/Object;" xm) (Eo : Exa Z h0 xa "[Ljava/lang/Object;") (Sq : Sta Z h0 "java/util/ImmutableCollections" "EMPTY" "Ljava/lang/Object;" (.ref xq)) (Ey0 : Exa Z h0 y0 "java/time/Duration") :
    MetFree l (⟨"java/util/List", "copyOf", "(Ljava/util/Collection;)Ljava/util/List;"⟩ : MethodName) (head1 (Jvm.Cond.code (⟨"java/util/List", "copyOf", "(Ljava/util/Collection;)Ljava/util/List;"⟩ : MethodName) jdk_40_method_48_code 1 (some (.object "java/util/List")) :: ws) ({ frames := 7, cells := 2, slots := 3, locals := 128 } : Room)) (fun a U => a = #[(.ref xl)] ∧ Z.Warmed39 U.vm ∧ U.heap = h0) (fun _ _ _ _ _ => True) (fun _ U o U' => ∃ v L, o = .returned v ∧ own_QCo1 Z xl xa ka xm xq y0 h0 n0 v U'.heap L ∧ FrameEnd U o U' L ({ frames := 7, cells := 2, slots := 3, locals := 128 } : Room).cells ({ frames := 7, cells := 2, slots := 3, locals := 128 } : Room).slots) := by
  refine MetFree.of_bodySF (plainFor_of_name own_pn12) hisR ?_
  intro p e s m args below meth c s₁ Bd hml0 hP hK
  obtain ⟨rfl, hZ, hh⟩ := hP
  have hx := Bd.exec
  have hby := Bd.bytes
  have hml : c.maxLocals = 1 := hml0
  have hown : s.vm.findClass "java/util/List" = some m.cls := findClass_of_methodNamed Bd.named
  have hnm := (name_of_methodNamed Bd.named Bd.method).1
  have X0 : Stand p l e ({ frames := 7, cells := 2, slots := 3, locals := 128 } : Room) s m #[(.ref xl)] below meth c s₁ [] 0 0 := Stand.of_body Bd
  have e0 : s₁.heap = h0 := by rw [← hh, Bd.state]; rfl
  have N0 := Fr.nil n0
  show own_F p e below (fun o U' => ∃ v L, o = .returned v ∧ own_QCo1 Z xl xa ka xm xq y0 h0 n0 v U'.heap L ∧ FrameEnd s o U' L ({ frames := 7, cells := 2, slots := 3, locals := 128 } : Room).cells ({ frames := 7, cells := 2, slots := 3, locals := 128 } : Room).slots) s₁ (entryFrame m #[(.ref xl)] 1)
  rw [own_efCo1 m xl]
  refine own_go (T' := s₁) (g' := (mkF m 1 #[.val (.ref xl)] [(.ref xl)])) (fun _ k => XS.aloadN X0.here hx rfl (hb hby own_dCo1_0) rfl rfl k) ?_
  obtain ⟨_, _, ⟨T1, L1, k1, n1⟩, -, X1, ⟨Lc1, hQ1, l1, y1, z1⟩, st1⟩ := Jvm.LawKit.callS X0 hx (y := (⟨"java/util/ImmutableCollections", "listCopy", "(Ljava/util/Collection;)Ljava/util/List;"⟩ : MethodName)) hown (mvT hZ (hw _ (List.mem_of_getElem? (i := 60) rfl))) (mvT hZ (hw _ (List.mem_of_getElem? (i := 61) rfl))) (mvT hZ (hw _ (List.mem_of_getElem? (i := 62) rfl))) (mvT hZ (hw _ (List.mem_of_getElem? (i := 63) rfl))) (by decide) (backOf (W := 0) (own_rLc1 l Z a0 hw [] xl xa ka xm xq y0 h0 n0 Z0 E1 Fs Fe Va M Eo Sq Ey0) hZ (hw _ (List.mem_of_getElem? (i := 63) rfl)) (hw _ (List.mem_of_getElem? (i := 62) rfl)) (by decide) (by decide)) (g := (mkF m 1 #[.val (.ref xl)] [(.ref xl)])) rfl (by rw [hml]; rfl) (argsL := [(.ref xl)]) (rest := []) (lenOf own_pd16 rfl) rfl (by show 2 * 0 + _ ≤ _; exact Nat.le_of_eq rfl) (hb hby own_dCo1_1) (fun _ _ => ⟨rfl, e0, (by decide : 0 + 2 ≤ _), (by decide : 0 + 3 ≤ _)⟩)
  dsimp only [Pt.U, Pt.locs, Pt.cells, Pt.slots] at X1 l1 y1 z1 st1 hQ1
  subst l1 y1 z1
  obtain ⟨-, N1q, Kc1, SKc1, r1, rfl, hzr1, Ec1, F0c1, F1c1⟩ := hQ1
  have N1 := Fr.app N0 N1q
  have gz_r1 : n0 ≤ r1 := Nat.le_trans Z0 hzr1
  have hz_r1 : h0.size ≤ r1 := Nat.le_trans (Keep.refl h0 []).1 hzr1
  have Z1 : n0 ≤ T1.heap.size := Nat.le_trans Z0 Kc1.1
  have SK1 : own_SK Z h0 T1.heap := (own_SK.rf Z h0).tr SKc1
  have K1 : Keep h0 T1.heap [] := (Keep.refl h0 []).trans Kc1 (fun x hx => nomatch hx)
  refine own_go (T' := T1) (g' := (mkF m 4 #[.val (.ref xl)] [(.ref r1)])) (fun _ k => st1 _ k) ?_
  obtain ⟨fs, hr, hrun, hended, hW, hsame⟩ := X1.leave (v := some (.ref r1)) (fun h => by rw [Bd.returns] at h; cases h)
  refine own_end (retOut X1 hx Bd.returns rfl (Or.inr (Or.inr (Or.inr (Or.inr ⟨rfl, rfl, rfl⟩)))) (hb hby own_dCo1_4) hr) hrun hended ⟨_, _, rfl, (?_ : own_QCo1 Z xl xa ka xm xq y0 h0 n0 _ T1.heap _), ⟨_, rfl⟩, hW, hsame.mono (by decide) (by decide)⟩
  exact ⟨rfl, N1, K1, SK1, r1, rfl, hz_r1, Ec1, F0c1, F1c1⟩
theorem own_dLc2_0 : decode jdk_56_method_3_code 0 = .ok (.aload_n 0, 1) := by decide +kernel
theorem own_dLc2_1 : decode jdk_56_method_3_code 1 = .ok (.instanceof 10, 3) := by decide +kernel
theorem own_dLc2_4 : decode jdk_56_method_3_code 4 = .ok (.ifCond .ne 22, 3) := by decide +kernel
theorem own_dLc2_7 : decode jdk_56_method_3_code 7 = .ok (.aload_n 0, 1) := by decide +kernel
theorem own_dLc2_8 : decode jdk_56_method_3_code 8 = .ok (.instanceof 12, 3) := by decide +kernel
theorem own_dLc2_11 : decode jdk_56_method_3_code 11 = .ok (.ifCond .eq 20, 3) := by decide +kernel
theorem own_dLc2_31 : decode jdk_56_method_3_code 31 = .ok (.aload_n 0, 1) := by decide +kernel
theorem own_dLc2_32 : decode jdk_56_method_3_code 32 = .ok (.invokeinterface 20 1, 5) := by decide +kernel
theorem own_dLc2_37 : decode jdk_56_method_3_code 37 = .ok (.ifCond .eq 7, 3) := by decide +kernel
theorem own_dLc2_44 : decode jdk_56_method_3_code 44 = .ok (.aload_n 0, 1) := by decide +kernel
theorem own_dLc2_45 : decode jdk_56_method_3_code 45 = .ok (.invokeinterface 30 1, 5) := by decide +kernel
theorem own_dLc2_50 : decode jdk_56_method_3_code 50 = .ok (.invokestatic 34, 3) := by decide +kernel
theorem own_dLc2_53 : decode jdk_56_method_3_code 53 = .ok (.areturn, 1) := by decide +kernel
theorem own_efLc2 (m : MethodId) (xl : Addr) : entryFrame m #[(.ref xl)] 2 = mkF m 0 #[.val (.ref xl), .unset] [] := by first | (simp [entryFrame, mkF, argsToLocals, Value.category]; done) | rfl
def own_QLc2 (Z : State) (xl : Addr) (xa : Addr) (ka : ClassId) (xm : Addr) (y0 : Addr) (y1 : Addr) (h0 : Heap) (n0 : Nat) (v : Option Value) (h : Heap) (L : List Loc) : Prop := v = v ∧ Fr n0 L ∧ Keep h0 h [] ∧ own_SK Z h0 h ∧ ∃ r, v = some (.ref r) ∧ h0.size ≤ r ∧ Exa Z h r "java/util/ImmutableCollections$List12" ∧ Fld Z h r "java/util/ImmutableCollections$List12" "e0" "Ljava/lang/Object;" (.ref y0) ∧ Fld Z h r "java/util/ImmutableCollections$List12" "e1" "Ljava/lang/Object;" (.ref y1)
set_option maxRecDepth 65536 in
set_option maxHeartbeats 40000000 in
theorem own_rLc2 (l : Launch) (Z : State) (a0 : Array Value) (hw : ∀ d ∈ tables_1, d.before a0 Z = true) (ws : List Jvm.Cond) (xl : Addr) (xa : Addr) (ka : ClassId) (xm : Addr) (y0 : Addr) (y1 : Addr) (h0 : Heap) (n0 : Nat) (Z0 : n0 ≤ h0.size) (E1 : Exa Z h0 xl "java/util/ArrayList") (Fs : Fld Z h0 xl "java/util/ArrayList" "size" "I" (.int (2 : Int32))) (Fe : Fld Z h0 xl "java/util/ArrayList" "elementData" "[Ljava/lang/Object;" (.ref xa)) (Va : own_A Z h0 xa ka (.object "java/lang/Object") [(.ref y0), (.ref y1), .null, .null, .null, .null, .null, .null, .null, .null]) (M : own_Mir Z "[Ljava/lang/Object;" xm) (Eo : Exa Z h0 xa "[Ljava/lang/Object;") (Ey0 : Exa Z h0 y0 "java/time/Duration") (Ey1 : Exa Z h0 y1 "java/time/Duration") :
    MetFree l (⟨"java/util/ImmutableCollections", "listCopy", "(Ljava/util/Collection;)Ljava/util/List;"⟩ : MethodName) (head1 (Jvm.Cond.code (⟨"java/util/ImmutableCollections", "listCopy", "(Ljava/util/Collection;)Ljava/util/List;"⟩ : MethodName) jdk_56_method_3_code 2 (some (.object "java/util/List")) :: ws) ({ frames := 6, cells := 2, slots := 4, locals := 115 } : Room)) (fun a U => a = #[(.ref xl)] ∧ Z.Warmed39 U.vm ∧ U.heap = h0) (fun _ _ _ _ _ => True) (fun _ U o U' => ∃ v L, o = .returned v ∧ own_QLc2 Z xl xa ka xm y0 y1 h0 n0 v U'.heap L ∧ FrameEnd U o U' L ({ frames := 6, cells := 2, slots := 4, locals := 115 } : Room).cells ({ frames := 6, cells := 2, slots := 4, locals := 115 } : Room).slots) := by
  refine MetFree.of_bodySF (plainFor_of_name own_pn11) hisR ?_
  intro p e s m args below meth c s₁ Bd hml0 hP hK
  obtain ⟨rfl, hZ, hh⟩ := hP
  have hx := Bd.exec
  have hby := Bd.bytes
  have hml : c.maxLocals = 2 := hml0
  have hown : s.vm.findClass "java/util/ImmutableCollections" = some m.cls := findClass_of_methodNamed Bd.named
  have hnm := (name_of_methodNamed Bd.named Bd.method).1
  have X0 : Stand p l e ({ frames := 6, cells := 2, slots := 4, locals := 115 } : Room) s m #[(.ref xl)] below meth c s₁ [] 0 0 := Stand.of_body Bd
  have e0 : s₁.heap = h0 := by rw [← hh, Bd.state]; rfl
  have N0 := Fr.nil n0
  show own_F p e below (fun o U' => ∃ v L, o = .returned v ∧ own_QLc2 Z xl xa ka xm y0 y1 h0 n0 v U'.heap L ∧ FrameEnd s o U' L ({ frames := 6, cells := 2, slots := 4, locals := 115 } : Room).cells ({ frames := 6, cells := 2, slots := 4, locals := 115 } : Room).slots) s₁ (entryFrame m #[(.ref xl)] 2)
  rw [own_efLc2 m xl]
  refine own_go (T' := s₁) (g' := (mkF m 1 #[.val (.ref xl), .unset] [(.ref xl)])) (fun _ k => XS.aloadN X0.here hx rfl (hb hby own_dLc2_0) rfl rfl k) ?_
  obtain ⟨T1, X1, e1, st1⟩ := instNo X0 hx hZ hown (hw _ (List.mem_of_getElem? (i := 64) rfl)) e0 E1 (own_nsN (hw _ (List.mem_of_getElem? (i := 65) rfl)) (hw _ (List.mem_of_getElem? (i := 197) rfl)) (NS.step (hw _ (List.mem_of_getElem? (i := 65) rfl)) (NS.step (hw _ (List.mem_of_getElem? (i := 66) rfl)) (NS.step (hw _ (List.mem_of_getElem? (i := 67) rfl)) (own_nsR (hw _ (List.mem_of_getElem? (i := 68) rfl)) (hw _ (List.mem_of_getElem? (i := 197) rfl)) (by decide)) (by decide)) (by decide)) (by decide)) (by decide)) (g := (mkF m 1 #[.val (.ref xl), .unset] [(.ref xl)])) rfl rfl (hb hby own_dLc2_1)
  refine own_go (T' := T1) (g' := (mkF m 4 #[.val (.ref xl), .unset] [(.int (0 : Int32))])) (fun _ k => st1 _ k) ?_
  refine own_go (T' := T1) (g' := (mkF m 7 #[.val (.ref xl), .unset] [])) (fun _ k => XS.ifNo X1.here hx rfl (hb hby own_dLc2_4) rfl ((if0 _ _).trans (teq ((by decide) : (0 : Int32) = (0 : Int32))).2) k) ?_
  refine own_go (T' := T1) (g' := (mkF m 8 #[.val (.ref xl), .unset] [(.ref xl)])) (fun _ k => XS.aloadN X1.here hx rfl (hb hby own_dLc2_7) rfl rfl k) ?_
  obtain ⟨T2, X2, e2, st2⟩ := instNo X1 hx hZ hown (hw _ (List.mem_of_getElem? (i := 69) rfl)) e1 E1 (own_nsN (hw _ (List.mem_of_getElem? (i := 65) rfl)) (hw _ (List.mem_of_getElem? (i := 175) rfl)) (NS.step (hw _ (List.mem_of_getElem? (i := 65) rfl)) (NS.step (hw _ (List.mem_of_getElem? (i := 66) rfl)) (NS.step (hw _ (List.mem_of_getElem? (i := 67) rfl)) (own_nsR (hw _ (List.mem_of_getElem? (i := 68) rfl)) (hw _ (List.mem_of_getElem? (i := 175) rfl)) (by decide)) (by decide)) (by decide)) (by decide)) (by decide)) (g := (mkF m 8 #[.val (.ref xl), .unset] [(.ref xl)])) rfl rfl (hb hby own_dLc2_8)
  refine own_go (T' := T2) (g' := (mkF m 11 #[.val (.ref xl), .unset] [(.int (0 : Int32))])) (fun _ k => st2 _ k) ?_
  refine own_go (T' := T2) (g' := (mkF m 31 #[.val (.ref xl), .unset] [])) (fun _ k => XS.ifYes X2.here hx rfl (pc0 := 11) (pc' := 31) rfl (hb hby own_dLc2_11) rfl ((if0 _ _).trans (teq ((by decide) : (0 : Int32) = (0 : Int32))).1) (by decide) (by decide) k) ?_
  refine own_go (T' := T2) (g' := (mkF m 32 #[.val (.ref xl), .unset] [(.ref xl)])) (fun _ k => XS.aloadN X2.here hx rfl (hb hby own_dLc2_31) rfl rfl k) ?_
  obtain ⟨cq3, kq3, q3a, q3b, q3c⟩ := isOf hZ e2 E1
  obtain ⟨_, _, ⟨T3, L3, k3, n3⟩, -, X3, ⟨Lc3, hQ3, l3, y3, z3⟩, st3⟩ := X2.interfaceBack hx (xi := (⟨"java/util/Collection", "isEmpty", "()Z"⟩ : MethodName)) (y := (⟨"java/util/ArrayList", "isEmpty", "()Z"⟩ : MethodName)) hown (mvT hZ (hw _ (List.mem_of_getElem? (i := 70) rfl))) (mvT hZ (hw _ (List.mem_of_getElem? (i := 71) rfl))) (mvT hZ (hw _ (List.mem_of_getElem? (i := 72) rfl))) (mvT hZ (hw _ (List.mem_of_getElem? (i := 73) rfl))) (mvT hZ (hw _ (List.mem_of_getElem? (i := 74) rfl))) (mvT hZ (hw _ (List.mem_of_getElem? (i := 75) rfl))) (mvT hZ (hw _ (List.mem_of_getElem? (i := 76) rfl))) (mvT hZ (hw _ (List.mem_of_getElem? (i := 77) rfl))) (by decide) (backOf (W := 0) (own_rIe2 l Z a0 hw [] xl h0 n0 Z0 Fs) hZ (hw _ (List.mem_of_getElem? (i := 78) rfl)) (hw _ (List.mem_of_getElem? (i := 22) rfl)) (by decide) (by decide)) q3a q3b q3c (g := (mkF m 32 #[.val (.ref xl), .unset] [(.ref xl)])) rfl (by rw [hml]; rfl) (Steps.refl _) (argsL := []) (rest := []) (lenOf own_pd14 rfl) rfl (by show 2 * 0 + _ ≤ _; exact Nat.le_of_eq rfl) (hb hby own_dLc2_32) (fun _ _ => ⟨rfl, e2, (by decide : 0 + 0 ≤ _), (by decide : 0 + 0 ≤ _)⟩)
  dsimp only [Pt.U, Pt.locs, Pt.cells, Pt.slots] at X3 l3 y3 z3 st3 hQ3
  subst l3 y3 z3
  obtain ⟨rfl, N3q, e3⟩ := hQ3
  have N3 := Fr.app N0 N3q
  refine own_goT (T' := T3) (g' := (mkF m 37 #[.val (.ref xl), .unset] [(.int (0 : Int32))])) st3 ?_
  refine own_go (T' := T3) (g' := (mkF m 44 #[.val (.ref xl), .unset] [])) (fun _ k => XS.ifYes X3.here hx rfl (pc0 := 37) (pc' := 44) rfl (hb hby own_dLc2_37) rfl ((if0 _ _).trans (teq ((by decide) : (0 : Int32) = (0 : Int32))).1) (by decide) (by decide) k) ?_
  refine own_go (T' := T3) (g' := (mkF m 45 #[.val (.ref xl), .unset] [(.ref xl)])) (fun _ k => XS.aloadN X3.here hx rfl (hb hby own_dLc2_44) rfl rfl k) ?_
  obtain ⟨cq4, kq4, q4a, q4b, q4c⟩ := isOf hZ e3 E1
  obtain ⟨_, _, ⟨T4, L4, k4, n4⟩, -, X4, ⟨Lc4, hQ4, l4, y4, z4⟩, st4⟩ := X3.interfaceBack hx (xi := (⟨"java/util/Collection", "toArray", "()[Ljava/lang/Object;"⟩ : MethodName)) (y := (⟨"java/util/ArrayList", "toArray", "()[Ljava/lang/Object;"⟩ : MethodName)) hown (mvT hZ (hw _ (List.mem_of_getElem? (i := 134) rfl))) (mvT hZ (hw _ (List.mem_of_getElem? (i := 135) rfl))) (mvT hZ (hw _ (List.mem_of_getElem? (i := 136) rfl))) (mvT hZ (hw _ (List.mem_of_getElem? (i := 137) rfl))) (mvT hZ (hw _ (List.mem_of_getElem? (i := 138) rfl))) (mvT hZ (hw _ (List.mem_of_getElem? (i := 139) rfl))) (mvT hZ (hw _ (List.mem_of_getElem? (i := 140) rfl))) (mvT hZ (hw _ (List.mem_of_getElem? (i := 77) rfl))) (by decide) (backOf (W := 0) (own_rTa2 l Z a0 hw [] xl xa ka xm y0 y1 h0 n0 Z0 Fe Fs Va M Eo Ey0 Ey1) hZ (hw _ (List.mem_of_getElem? (i := 141) rfl)) (hw _ (List.mem_of_getElem? (i := 22) rfl)) (by decide) (by decide)) q4a q4b q4c (g := (mkF m 45 #[.val (.ref xl), .unset] [(.ref xl)])) rfl (by rw [hml]; rfl) (Steps.refl _) (argsL := []) (rest := []) (lenOf own_pd3 rfl) rfl (by show 2 * 0 + _ ≤ _; exact Nat.le_of_eq rfl) (hb hby own_dLc2_45) (fun _ _ => ⟨rfl, e3, (by decide : 0 + 1 ≤ _), (by decide : 0 + 2 ≤ _)⟩)
  dsimp only [Pt.U, Pt.locs, Pt.cells, Pt.slots] at X4 l4 y4 z4 st4 hQ4
  subst l4 y4 z4
  obtain ⟨-, N4q, Kc4, SKc4, r4, kr4, rfl, hzr4, Vc4⟩ := hQ4
  have N4 := Fr.app N3 N4q
  have ne_y0_r4 : y0 ≠ r4 := Nat.ne_of_lt (Nat.lt_of_lt_of_le Ey0.lt hzr4)
  have ne_y1_r4 : y1 ≠ r4 := Nat.ne_of_lt (Nat.lt_of_lt_of_le Ey1.lt hzr4)
  have gz_r4 : n0 ≤ r4 := Nat.le_trans Z0 hzr4
  have hz_r4 : h0.size ≤ r4 := Nat.le_trans (Keep.refl h0 []).1 hzr4
  have Ek5 := Ey0.keep Kc4
  have Ek6 := Ey1.keep Kc4
  have Z4 : n0 ≤ T4.heap.size := Nat.le_trans Z0 Kc4.1
  have SK4 : own_SK Z h0 T4.heap := (own_SK.rf Z h0).tr SKc4
  have K4 : Keep h0 T4.heap [] := (Keep.refl h0 []).trans Kc4 (fun x hx => nomatch hx)
  refine own_goT (T' := T4) (g' := (mkF m 50 #[.val (.ref xl), .unset] [(.ref r4)])) st4 ?_
  obtain ⟨_, _, ⟨T7, L7, k7, n7⟩, -, X7, ⟨Lc7, hQ7, l7, y7, z7⟩, st7⟩ := Jvm.LawKit.callS X4 hx (y := (⟨"java/util/List", "of", "([Ljava/lang/Object;)Ljava/util/List;"⟩ : MethodName)) hown (mvT hZ (hw _ (List.mem_of_getElem? (i := 164) rfl))) (mvT hZ (hw _ (List.mem_of_getElem? (i := 165) rfl))) (mvT hZ (hw _ (List.mem_of_getElem? (i := 58) rfl))) (mvT hZ (hw _ (List.mem_of_getElem? (i := 166) rfl))) (by decide) (backOf (W := 0) (own_rLo2 l Z a0 hw [] r4 kr4 y0 y1 T4.heap n0 Z4 Vc4 Ek5 Ek6) hZ (hw _ (List.mem_of_getElem? (i := 166) rfl)) (hw _ (List.mem_of_getElem? (i := 58) rfl)) (by decide) (by decide)) (g := (mkF m 50 #[.val (.ref xl), .unset] [(.ref r4)])) rfl (by rw [hml]; rfl) (argsL := [(.ref r4)]) (rest := []) (lenOf own_pd13 rfl) rfl (by show 2 * 0 + _ ≤ _; exact Nat.le_of_eq rfl) (hb hby own_dLc2_50) (fun _ _ => ⟨rfl, rfl, (by decide : 1 + 1 ≤ _), (by decide : 2 + 2 ≤ _)⟩)
  dsimp only [Pt.U, Pt.locs, Pt.cells, Pt.slots] at X7 l7 y7 z7 st7 hQ7
  subst l7 y7 z7
  obtain ⟨-, N7q, Kc7, SKc7, r7, rfl, hzr7, Ec7, F0c7, F1c7⟩ := hQ7
  have N7 := Fr.app N4 N7q
  have ne_y0_r7 : y0 ≠ r7 := Nat.ne_of_lt (Nat.lt_of_lt_of_le Ek5.lt hzr7)
  have ne_y1_r7 : y1 ≠ r7 := Nat.ne_of_lt (Nat.lt_of_lt_of_le Ek6.lt hzr7)
  have ne_r4_r7 : r4 ≠ r7 := Nat.ne_of_lt (Nat.lt_of_lt_of_le Vc4.lt hzr7)
  have gz_r7 : n0 ≤ r7 := Nat.le_trans Z4 hzr7
  have hz_r7 : h0.size ≤ r7 := Nat.le_trans K4.1 hzr7
  have Ek8 := Ek5.keep Kc7
  have Ek9 := Ek6.keep Kc7
  have Vk10 := Vc4.keep Kc7 (fun q => nomatch q)
  have Z7 : n0 ≤ T7.heap.size := Nat.le_trans Z4 Kc7.1
  have SK7 : own_SK Z h0 T7.heap := SK4.tr SKc7
  have K7 : Keep h0 T7.heap [] := K4.trans Kc7 (fun x hx => nomatch hx)
  refine own_go (T' := T7) (g' := (mkF m 53 #[.val (.ref xl), .unset] [(.ref r7)])) (fun _ k => st7 _ k) ?_
  obtain ⟨fs, hr, hrun, hended, hW, hsame⟩ := X7.leave (v := some (.ref r7)) (fun h => by rw [Bd.returns] at h; cases h)
  refine own_end (retOut X7 hx Bd.returns rfl (Or.inr (Or.inr (Or.inr (Or.inr ⟨rfl, rfl, rfl⟩)))) (hb hby own_dLc2_53) hr) hrun hended ⟨_, _, rfl, (?_ : own_QLc2 Z xl xa ka xm y0 y1 h0 n0 _ T7.heap _), ⟨_, rfl⟩, hW, hsame.mono (by decide) (by decide)⟩
  exact ⟨rfl, N7, K7, SK7, r7, rfl, hz_r7, Ec7, F0c7, F1c7⟩
theorem own_dCo2_0 : decode jdk_40_method_48_code 0 = .ok (.aload_n 0, 1) := by decide +kernel
theorem own_dCo2_1 : decode jdk_40_method_48_code 1 = .ok (.invokestatic 112, 3) := by decide +kernel
theorem own_dCo2_4 : decode jdk_40_method_48_code 4 = .ok (.areturn, 1) := by decide +kernel
theorem own_efCo2 (m : MethodId) (xl : Addr) : entryFrame m #[(.ref xl)] 1 = mkF m 0 #[.val (.ref xl)] [] := by first | (simp [entryFrame, mkF, argsToLocals, Value.category]; done) | rfl
def own_QCo2 (Z : State) (xl : Addr) (xa : Addr) (ka : ClassId) (xm : Addr) (y0 : Addr) (y1 : Addr) (h0 : Heap) (n0 : Nat) (v : Option Value) (h : Heap) (L : List Loc) : Prop := v = v ∧ Fr n0 L ∧ Keep h0 h [] ∧ own_SK Z h0 h ∧ ∃ r, v = some (.ref r) ∧ h0.size ≤ r ∧ Exa Z h r "java/util/ImmutableCollections$List12" ∧ Fld Z h r "java/util/ImmutableCollections$List12" "e0" "Ljava/lang/Object;" (.ref y0) ∧ Fld Z h r "java/util/ImmutableCollections$List12" "e1" "Ljava/lang/Object;" (.ref y1)
set_option maxRecDepth 65536 in
set_option maxHeartbeats 40000000 in
theorem own_rCo2 (l : Launch) (Z : State) (a0 : Array Value) (hw : ∀ d ∈ tables_1, d.before a0 Z = true) (ws : List Jvm.Cond) (xl : Addr) (xa : Addr) (ka : ClassId) (xm : Addr) (y0 : Addr) (y1 : Addr) (h0 : Heap) (n0 : Nat) (Z0 : n0 ≤ h0.size) (E1 : Exa Z h0 xl "java/util/ArrayList") (Fs : Fld Z h0 xl "java/util/ArrayList" "size" "I" (.int (2 : Int32))) (Fe : Fld Z h0 xl "java/util/ArrayList" "elementData" "[Ljava/lang/Object;" (.ref xa)) (Va : own_A Z h0 xa ka (.object "java/lang/Object") [(.ref y0), (.ref y1), .null, .null, .null, .null, .null, .null, .null, .null]) (M : own_Mir Z "[Ljava/lang/Object;" xm) (Eo : Exa Z h0 xa "[Ljava/lang/Object;") (Ey0 : Exa Z h0 y0 "java/time/Duration") (Ey1 : Exa Z h0 y1 "java/time/Duration") :
    MetFree l (⟨"java/util/List", "copyOf", "(Ljava/util/Collection;)Ljava/util/List;"⟩ : MethodName) (head1 (Jvm.Cond.code (⟨"java/util/List", "copyOf", "(Ljava/util/Collection;)Ljava/util/List;"⟩ : MethodName) jdk_40_method_48_code 1 (some (.object "java/util/List")) :: ws) ({ frames := 7, cells := 2, slots := 4, locals := 128 } : Room)) (fun a U => a = #[(.ref xl)] ∧ Z.Warmed39 U.vm ∧ U.heap = h0) (fun _ _ _ _ _ => True) (fun _ U o U' => ∃ v L, o = .returned v ∧ own_QCo2 Z xl xa ka xm y0 y1 h0 n0 v U'.heap L ∧ FrameEnd U o U' L ({ frames := 7, cells := 2, slots := 4, locals := 128 } : Room).cells ({ frames := 7, cells := 2, slots := 4, locals := 128 } : Room).slots) := by
  refine MetFree.of_bodySF (plainFor_of_name own_pn12) hisR ?_
  intro p e s m args below meth c s₁ Bd hml0 hP hK
  obtain ⟨rfl, hZ, hh⟩ := hP
  have hx := Bd.exec
  have hby := Bd.bytes
  have hml : c.maxLocals = 1 := hml0
  have hown : s.vm.findClass "java/util/List" = some m.cls := findClass_of_methodNamed Bd.named
  have hnm := (name_of_methodNamed Bd.named Bd.method).1
  have X0 : Stand p l e ({ frames := 7, cells := 2, slots := 4, locals := 128 } : Room) s m #[(.ref xl)] below meth c s₁ [] 0 0 := Stand.of_body Bd
  have e0 : s₁.heap = h0 := by rw [← hh, Bd.state]; rfl
  have N0 := Fr.nil n0
  show own_F p e below (fun o U' => ∃ v L, o = .returned v ∧ own_QCo2 Z xl xa ka xm y0 y1 h0 n0 v U'.heap L ∧ FrameEnd s o U' L ({ frames := 7, cells := 2, slots := 4, locals := 128 } : Room).cells ({ frames := 7, cells := 2, slots := 4, locals := 128 } : Room).slots) s₁ (entryFrame m #[(.ref xl)] 1)
  rw [own_efCo2 m xl]
  refine own_go (T' := s₁) (g' := (mkF m 1 #[.val (.ref xl)] [(.ref xl)])) (fun _ k => XS.aloadN X0.here hx rfl (hb hby own_dCo2_0) rfl rfl k) ?_
  obtain ⟨_, _, ⟨T1, L1, k1, n1⟩, -, X1, ⟨Lc1, hQ1, l1, y1, z1⟩, st1⟩ := Jvm.LawKit.callS X0 hx (y := (⟨"java/util/ImmutableCollections", "listCopy", "(Ljava/util/Collection;)Ljava/util/List;"⟩ : MethodName)) hown (mvT hZ (hw _ (List.mem_of_getElem? (i := 60) rfl))) (mvT hZ (hw _ (List.mem_of_getElem? (i := 61) rfl))) (mvT hZ (hw _ (List.mem_of_getElem? (i := 62) rfl))) (mvT hZ (hw _ (List.mem_of_getElem? (i := 63) rfl))) (by decide) (backOf (W := 0) (own_rLc2 l Z a0 hw [] xl xa ka xm y0 y1 h0 n0 Z0 E1 Fs Fe Va M Eo Ey0 Ey1) hZ (hw _ (List.mem_of_getElem? (i := 63) rfl)) (hw _ (List.mem_of_getElem? (i := 62) rfl)) (by decide) (by decide)) (g := (mkF m 1 #[.val (.ref xl)] [(.ref xl)])) rfl (by rw [hml]; rfl) (argsL := [(.ref xl)]) (rest := []) (lenOf own_pd16 rfl) rfl (by show 2 * 0 + _ ≤ _; exact Nat.le_of_eq rfl) (hb hby own_dCo2_1) (fun _ _ => ⟨rfl, e0, (by decide : 0 + 2 ≤ _), (by decide : 0 + 4 ≤ _)⟩)
  dsimp only [Pt.U, Pt.locs, Pt.cells, Pt.slots] at X1 l1 y1 z1 st1 hQ1
  subst l1 y1 z1
  obtain ⟨-, N1q, Kc1, SKc1, r1, rfl, hzr1, Ec1, F0c1, F1c1⟩ := hQ1
  have N1 := Fr.app N0 N1q
  have gz_r1 : n0 ≤ r1 := Nat.le_trans Z0 hzr1
  have hz_r1 : h0.size ≤ r1 := Nat.le_trans (Keep.refl h0 []).1 hzr1
  have Z1 : n0 ≤ T1.heap.size := Nat.le_trans Z0 Kc1.1
  have SK1 : own_SK Z h0 T1.heap := (own_SK.rf Z h0).tr SKc1
  have K1 : Keep h0 T1.heap [] := (Keep.refl h0 []).trans Kc1 (fun x hx => nomatch hx)
  refine own_go (T' := T1) (g' := (mkF m 4 #[.val (.ref xl)] [(.ref r1)])) (fun _ k => st1 _ k) ?_
  obtain ⟨fs, hr, hrun, hended, hW, hsame⟩ := X1.leave (v := some (.ref r1)) (fun h => by rw [Bd.returns] at h; cases h)
  refine own_end (retOut X1 hx Bd.returns rfl (Or.inr (Or.inr (Or.inr (Or.inr ⟨rfl, rfl, rfl⟩)))) (hb hby own_dCo2_4) hr) hrun hended ⟨_, _, rfl, (?_ : own_QCo2 Z xl xa ka xm y0 y1 h0 n0 _ T1.heap _), ⟨_, rfl⟩, hW, hsame.mono (by decide) (by decide)⟩
  exact ⟨rfl, N1, K1, SK1, r1, rfl, hz_r1, Ec1, F0c1, F1c1⟩
theorem own_dLc3_0 : decode jdk_56_method_3_code 0 = .ok (.aload_n 0, 1) := by decide +kernel
theorem own_dLc3_1 : decode jdk_56_method_3_code 1 = .ok (.instanceof 10, 3) := by decide +kernel
theorem own_dLc3_4 : decode jdk_56_method_3_code 4 = .ok (.ifCond .ne 22, 3) := by decide +kernel
theorem own_dLc3_7 : decode jdk_56_method_3_code 7 = .ok (.aload_n 0, 1) := by decide +kernel
theorem own_dLc3_8 : decode jdk_56_method_3_code 8 = .ok (.instanceof 12, 3) := by decide +kernel
theorem own_dLc3_11 : decode jdk_56_method_3_code 11 = .ok (.ifCond .eq 20, 3) := by decide +kernel
theorem own_dLc3_31 : decode jdk_56_method_3_code 31 = .ok (.aload_n 0, 1) := by decide +kernel
theorem own_dLc3_32 : decode jdk_56_method_3_code 32 = .ok (.invokeinterface 20 1, 5) := by decide +kernel
theorem own_dLc3_37 : decode jdk_56_method_3_code 37 = .ok (.ifCond .eq 7, 3) := by decide +kernel
theorem own_dLc3_44 : decode jdk_56_method_3_code 44 = .ok (.aload_n 0, 1) := by decide +kernel
theorem own_dLc3_45 : decode jdk_56_method_3_code 45 = .ok (.invokeinterface 30 1, 5) := by decide +kernel
theorem own_dLc3_50 : decode jdk_56_method_3_code 50 = .ok (.invokestatic 34, 3) := by decide +kernel
theorem own_dLc3_53 : decode jdk_56_method_3_code 53 = .ok (.areturn, 1) := by decide +kernel
theorem own_efLc3 (m : MethodId) (xl : Addr) : entryFrame m #[(.ref xl)] 2 = mkF m 0 #[.val (.ref xl), .unset] [] := by first | (simp [entryFrame, mkF, argsToLocals, Value.category]; done) | rfl
def own_QLc3 (Z : State) (xl : Addr) (xa : Addr) (ka : ClassId) (xm : Addr) (y0 : Addr) (y1 : Addr) (y2 : Addr) (h0 : Heap) (n0 : Nat) (v : Option Value) (h : Heap) (L : List Loc) : Prop := v = v ∧ Fr n0 L ∧ Keep h0 h [] ∧ own_SK Z h0 h ∧ ∃ r ra kr, v = some (.ref r) ∧ h0.size ≤ r ∧ Exa Z h r "java/util/ImmutableCollections$ListN" ∧ Fld Z h r "java/util/ImmutableCollections$ListN" "elements" "[Ljava/lang/Object;" (.ref ra) ∧ own_A Z h ra kr (.object "java/lang/Object") [(.ref y0), (.ref y1), (.ref y2)]
set_option maxRecDepth 65536 in
set_option maxHeartbeats 40000000 in
theorem own_rLc3 (l : Launch) (Z : State) (a0 : Array Value) (hw : ∀ d ∈ tables_1, d.before a0 Z = true) (ws : List Jvm.Cond) (xl : Addr) (xa : Addr) (ka : ClassId) (xm : Addr) (y0 : Addr) (y1 : Addr) (y2 : Addr) (h0 : Heap) (n0 : Nat) (Z0 : n0 ≤ h0.size) (E1 : Exa Z h0 xl "java/util/ArrayList") (Fs : Fld Z h0 xl "java/util/ArrayList" "size" "I" (.int (3 : Int32))) (Fe : Fld Z h0 xl "java/util/ArrayList" "elementData" "[Ljava/lang/Object;" (.ref xa)) (Va : own_A Z h0 xa ka (.object "java/lang/Object") [(.ref y0), (.ref y1), (.ref y2), .null, .null, .null, .null, .null, .null, .null]) (M : own_Mir Z "[Ljava/lang/Object;" xm) (Eo : Exa Z h0 xa "[Ljava/lang/Object;") (Ey0 : Exa Z h0 y0 "java/time/Duration") (Ey1 : Exa Z h0 y1 "java/time/Duration") (Ey2 : Exa Z h0 y2 "java/time/Duration") :
    MetFree l (⟨"java/util/ImmutableCollections", "listCopy", "(Ljava/util/Collection;)Ljava/util/List;"⟩ : MethodName) (head1 (Jvm.Cond.code (⟨"java/util/ImmutableCollections", "listCopy", "(Ljava/util/Collection;)Ljava/util/List;"⟩ : MethodName) jdk_56_method_3_code 2 (some (.object "java/util/List")) :: ws) ({ frames := 7, cells := 3, slots := 8, locals := 115 } : Room)) (fun a U => a = #[(.ref xl)] ∧ Z.Warmed39 U.vm ∧ U.heap = h0) (fun _ _ _ _ _ => True) (fun _ U o U' => ∃ v L, o = .returned v ∧ own_QLc3 Z xl xa ka xm y0 y1 y2 h0 n0 v U'.heap L ∧ FrameEnd U o U' L ({ frames := 7, cells := 3, slots := 8, locals := 115 } : Room).cells ({ frames := 7, cells := 3, slots := 8, locals := 115 } : Room).slots) := by
  refine MetFree.of_bodySF (plainFor_of_name own_pn11) hisR ?_
  intro p e s m args below meth c s₁ Bd hml0 hP hK
  obtain ⟨rfl, hZ, hh⟩ := hP
  have hx := Bd.exec
  have hby := Bd.bytes
  have hml : c.maxLocals = 2 := hml0
  have hown : s.vm.findClass "java/util/ImmutableCollections" = some m.cls := findClass_of_methodNamed Bd.named
  have hnm := (name_of_methodNamed Bd.named Bd.method).1
  have X0 : Stand p l e ({ frames := 7, cells := 3, slots := 8, locals := 115 } : Room) s m #[(.ref xl)] below meth c s₁ [] 0 0 := Stand.of_body Bd
  have e0 : s₁.heap = h0 := by rw [← hh, Bd.state]; rfl
  have N0 := Fr.nil n0
  show own_F p e below (fun o U' => ∃ v L, o = .returned v ∧ own_QLc3 Z xl xa ka xm y0 y1 y2 h0 n0 v U'.heap L ∧ FrameEnd s o U' L ({ frames := 7, cells := 3, slots := 8, locals := 115 } : Room).cells ({ frames := 7, cells := 3, slots := 8, locals := 115 } : Room).slots) s₁ (entryFrame m #[(.ref xl)] 2)
  rw [own_efLc3 m xl]
  refine own_go (T' := s₁) (g' := (mkF m 1 #[.val (.ref xl), .unset] [(.ref xl)])) (fun _ k => XS.aloadN X0.here hx rfl (hb hby own_dLc3_0) rfl rfl k) ?_
  obtain ⟨T1, X1, e1, st1⟩ := instNo X0 hx hZ hown (hw _ (List.mem_of_getElem? (i := 64) rfl)) e0 E1 (own_nsN (hw _ (List.mem_of_getElem? (i := 65) rfl)) (hw _ (List.mem_of_getElem? (i := 197) rfl)) (NS.step (hw _ (List.mem_of_getElem? (i := 65) rfl)) (NS.step (hw _ (List.mem_of_getElem? (i := 66) rfl)) (NS.step (hw _ (List.mem_of_getElem? (i := 67) rfl)) (own_nsR (hw _ (List.mem_of_getElem? (i := 68) rfl)) (hw _ (List.mem_of_getElem? (i := 197) rfl)) (by decide)) (by decide)) (by decide)) (by decide)) (by decide)) (g := (mkF m 1 #[.val (.ref xl), .unset] [(.ref xl)])) rfl rfl (hb hby own_dLc3_1)
  refine own_go (T' := T1) (g' := (mkF m 4 #[.val (.ref xl), .unset] [(.int (0 : Int32))])) (fun _ k => st1 _ k) ?_
  refine own_go (T' := T1) (g' := (mkF m 7 #[.val (.ref xl), .unset] [])) (fun _ k => XS.ifNo X1.here hx rfl (hb hby own_dLc3_4) rfl ((if0 _ _).trans (teq ((by decide) : (0 : Int32) = (0 : Int32))).2) k) ?_
  refine own_go (T' := T1) (g' := (mkF m 8 #[.val (.ref xl), .unset] [(.ref xl)])) (fun _ k => XS.aloadN X1.here hx rfl (hb hby own_dLc3_7) rfl rfl k) ?_
  obtain ⟨T2, X2, e2, st2⟩ := instNo X1 hx hZ hown (hw _ (List.mem_of_getElem? (i := 69) rfl)) e1 E1 (own_nsN (hw _ (List.mem_of_getElem? (i := 65) rfl)) (hw _ (List.mem_of_getElem? (i := 175) rfl)) (NS.step (hw _ (List.mem_of_getElem? (i := 65) rfl)) (NS.step (hw _ (List.mem_of_getElem? (i := 66) rfl)) (NS.step (hw _ (List.mem_of_getElem? (i := 67) rfl)) (own_nsR (hw _ (List.mem_of_getElem? (i := 68) rfl)) (hw _ (List.mem_of_getElem? (i := 175) rfl)) (by decide)) (by decide)) (by decide)) (by decide)) (by decide)) (g := (mkF m 8 #[.val (.ref xl), .unset] [(.ref xl)])) rfl rfl (hb hby own_dLc3_8)
  refine own_go (T' := T2) (g' := (mkF m 11 #[.val (.ref xl), .unset] [(.int (0 : Int32))])) (fun _ k => st2 _ k) ?_
  refine own_go (T' := T2) (g' := (mkF m 31 #[.val (.ref xl), .unset] [])) (fun _ k => XS.ifYes X2.here hx rfl (pc0 := 11) (pc' := 31) rfl (hb hby own_dLc3_11) rfl ((if0 _ _).trans (teq ((by decide) : (0 : Int32) = (0 : Int32))).1) (by decide) (by decide) k) ?_
  refine own_go (T' := T2) (g' := (mkF m 32 #[.val (.ref xl), .unset] [(.ref xl)])) (fun _ k => XS.aloadN X2.here hx rfl (hb hby own_dLc3_31) rfl rfl k) ?_
  obtain ⟨cq3, kq3, q3a, q3b, q3c⟩ := isOf hZ e2 E1
  obtain ⟨_, _, ⟨T3, L3, k3, n3⟩, -, X3, ⟨Lc3, hQ3, l3, y3, z3⟩, st3⟩ := X2.interfaceBack hx (xi := (⟨"java/util/Collection", "isEmpty", "()Z"⟩ : MethodName)) (y := (⟨"java/util/ArrayList", "isEmpty", "()Z"⟩ : MethodName)) hown (mvT hZ (hw _ (List.mem_of_getElem? (i := 70) rfl))) (mvT hZ (hw _ (List.mem_of_getElem? (i := 71) rfl))) (mvT hZ (hw _ (List.mem_of_getElem? (i := 72) rfl))) (mvT hZ (hw _ (List.mem_of_getElem? (i := 73) rfl))) (mvT hZ (hw _ (List.mem_of_getElem? (i := 74) rfl))) (mvT hZ (hw _ (List.mem_of_getElem? (i := 75) rfl))) (mvT hZ (hw _ (List.mem_of_getElem? (i := 76) rfl))) (mvT hZ (hw _ (List.mem_of_getElem? (i := 77) rfl))) (by decide) (backOf (W := 0) (own_rIe3 l Z a0 hw [] xl h0 n0 Z0 Fs) hZ (hw _ (List.mem_of_getElem? (i := 78) rfl)) (hw _ (List.mem_of_getElem? (i := 22) rfl)) (by decide) (by decide)) q3a q3b q3c (g := (mkF m 32 #[.val (.ref xl), .unset] [(.ref xl)])) rfl (by rw [hml]; rfl) (Steps.refl _) (argsL := []) (rest := []) (lenOf own_pd14 rfl) rfl (by show 2 * 0 + _ ≤ _; exact Nat.le_of_eq rfl) (hb hby own_dLc3_32) (fun _ _ => ⟨rfl, e2, (by decide : 0 + 0 ≤ _), (by decide : 0 + 0 ≤ _)⟩)
  dsimp only [Pt.U, Pt.locs, Pt.cells, Pt.slots] at X3 l3 y3 z3 st3 hQ3
  subst l3 y3 z3
  obtain ⟨rfl, N3q, e3⟩ := hQ3
  have N3 := Fr.app N0 N3q
  refine own_goT (T' := T3) (g' := (mkF m 37 #[.val (.ref xl), .unset] [(.int (0 : Int32))])) st3 ?_
  refine own_go (T' := T3) (g' := (mkF m 44 #[.val (.ref xl), .unset] [])) (fun _ k => XS.ifYes X3.here hx rfl (pc0 := 37) (pc' := 44) rfl (hb hby own_dLc3_37) rfl ((if0 _ _).trans (teq ((by decide) : (0 : Int32) = (0 : Int32))).1) (by decide) (by decide) k) ?_
  refine own_go (T' := T3) (g' := (mkF m 45 #[.val (.ref xl), .unset] [(.ref xl)])) (fun _ k => XS.aloadN X3.here hx rfl (hb hby own_dLc3_44) rfl rfl k) ?_
  obtain ⟨cq4, kq4, q4a, q4b, q4c⟩ := isOf hZ e3 E1
  obtain ⟨_, _, ⟨T4, L4, k4, n4⟩, -, X4, ⟨Lc4, hQ4, l4, y4, z4⟩, st4⟩ := X3.interfaceBack hx (xi := (⟨"java/util/Collection", "toArray", "()[Ljava/lang/Object;"⟩ : MethodName)) (y := (⟨"java/util/ArrayList", "toArray", "()[Ljava/lang/Object;"⟩ : MethodName)) hown (mvT hZ (hw _ (List.mem_of_getElem? (i := 134) rfl))) (mvT hZ (hw _ (List.mem_of_getElem? (i := 135) rfl))) (mvT hZ (hw _ (List.mem_of_getElem? (i := 136) rfl))) (mvT hZ (hw _ (List.mem_of_getElem? (i := 137) rfl))) (mvT hZ (hw _ (List.mem_of_getElem? (i := 138) rfl))) (mvT hZ (hw _ (List.mem_of_getElem? (i := 139) rfl))) (mvT hZ (hw _ (List.mem_of_getElem? (i := 140) rfl))) (mvT hZ (hw _ (List.mem_of_getElem? (i := 77) rfl))) (by decide) (backOf (W := 0) (own_rTa3 l Z a0 hw [] xl xa ka xm y0 y1 y2 h0 n0 Z0 Fe Fs Va M Eo Ey0 Ey1 Ey2) hZ (hw _ (List.mem_of_getElem? (i := 141) rfl)) (hw _ (List.mem_of_getElem? (i := 22) rfl)) (by decide) (by decide)) q4a q4b q4c (g := (mkF m 45 #[.val (.ref xl), .unset] [(.ref xl)])) rfl (by rw [hml]; rfl) (Steps.refl _) (argsL := []) (rest := []) (lenOf own_pd3 rfl) rfl (by show 2 * 0 + _ ≤ _; exact Nat.le_of_eq rfl) (hb hby own_dLc3_45) (fun _ _ => ⟨rfl, e3, (by decide : 0 + 1 ≤ _), (by decide : 0 + 3 ≤ _)⟩)
  dsimp only [Pt.U, Pt.locs, Pt.cells, Pt.slots] at X4 l4 y4 z4 st4 hQ4
  subst l4 y4 z4
  obtain ⟨-, N4q, Kc4, SKc4, r4, kr4, rfl, hzr4, Vc4⟩ := hQ4
  have N4 := Fr.app N3 N4q
  have ne_y0_r4 : y0 ≠ r4 := Nat.ne_of_lt (Nat.lt_of_lt_of_le Ey0.lt hzr4)
  have ne_y1_r4 : y1 ≠ r4 := Nat.ne_of_lt (Nat.lt_of_lt_of_le Ey1.lt hzr4)
  have ne_y2_r4 : y2 ≠ r4 := Nat.ne_of_lt (Nat.lt_of_lt_of_le Ey2.lt hzr4)
  have gz_r4 : n0 ≤ r4 := Nat.le_trans Z0 hzr4
  have hz_r4 : h0.size ≤ r4 := Nat.le_trans (Keep.refl h0 []).1 hzr4
  have Ek5 := Ey0.keep Kc4
  have Ek6 := Ey1.keep Kc4
  have Ek7 := Ey2.keep Kc4
  have Z4 : n0 ≤ T4.heap.size := Nat.le_trans Z0 Kc4.1
  have SK4 : own_SK Z h0 T4.heap := (own_SK.rf Z h0).tr SKc4
  have K4 : Keep h0 T4.heap [] := (Keep.refl h0 []).trans Kc4 (fun x hx => nomatch hx)
  refine own_goT (T' := T4) (g' := (mkF m 50 #[.val (.ref xl), .unset] [(.ref r4)])) st4 ?_
  obtain ⟨_, _, ⟨T8, L8, k8, n8⟩, -, X8, ⟨Lc8, hQ8, l8, y8, z8⟩, st8⟩ := Jvm.LawKit.callS X4 hx (y := (⟨"java/util/List", "of", "([Ljava/lang/Object;)Ljava/util/List;"⟩ : MethodName)) hown (mvT hZ (hw _ (List.mem_of_getElem? (i := 164) rfl))) (mvT hZ (hw _ (List.mem_of_getElem? (i := 165) rfl))) (mvT hZ (hw _ (List.mem_of_getElem? (i := 58) rfl))) (mvT hZ (hw _ (List.mem_of_getElem? (i := 166) rfl))) (by decide) (backOf (W := 0) (own_rLo3 l Z a0 hw [] r4 kr4 y0 y1 y2 T4.heap n0 Z4 Vc4 Ek5 Ek6 Ek7) hZ (hw _ (List.mem_of_getElem? (i := 166) rfl)) (hw _ (List.mem_of_getElem? (i := 58) rfl)) (by decide) (by decide)) (g := (mkF m 50 #[.val (.ref xl), .unset] [(.ref r4)])) rfl (by rw [hml]; rfl) (argsL := [(.ref r4)]) (rest := []) (lenOf own_pd13 rfl) rfl (by show 2 * 0 + _ ≤ _; exact Nat.le_of_eq rfl) (hb hby own_dLc3_50) (fun _ _ => ⟨rfl, rfl, (by decide : 1 + 2 ≤ _), (by decide : 3 + 5 ≤ _)⟩)
  dsimp only [Pt.U, Pt.locs, Pt.cells, Pt.slots] at X8 l8 y8 z8 st8 hQ8
  subst l8 y8 z8
  obtain ⟨-, N8q, Kc8, SKc8, r8, ra8, kr8, rfl, hzr8, Ec8, F0c8, Vc8⟩ := hQ8
  have N8 := Fr.app N4 N8q
  have ne_y0_r8 : y0 ≠ r8 := Nat.ne_of_lt (Nat.lt_of_lt_of_le Ek5.lt hzr8)
  have ne_y1_r8 : y1 ≠ r8 := Nat.ne_of_lt (Nat.lt_of_lt_of_le Ek6.lt hzr8)
  have ne_y2_r8 : y2 ≠ r8 := Nat.ne_of_lt (Nat.lt_of_lt_of_le Ek7.lt hzr8)
  have ne_r4_r8 : r4 ≠ r8 := Nat.ne_of_lt (Nat.lt_of_lt_of_le Vc4.lt hzr8)
  have gz_r8 : n0 ≤ r8 := Nat.le_trans Z4 hzr8
  have hz_r8 : h0.size ≤ r8 := Nat.le_trans K4.1 hzr8
  have Ek9 := Ek5.keep Kc8
  have Ek10 := Ek6.keep Kc8
  have Ek11 := Ek7.keep Kc8
  have Vk12 := Vc4.keep Kc8 (fun q => nomatch q)
  have Z8 : n0 ≤ T8.heap.size := Nat.le_trans Z4 Kc8.1
  have SK8 : own_SK Z h0 T8.heap := SK4.tr SKc8
  have K8 : Keep h0 T8.heap [] := K4.trans Kc8 (fun x hx => nomatch hx)
  refine own_go (T' := T8) (g' := (mkF m 53 #[.val (.ref xl), .unset] [(.ref r8)])) (fun _ k => st8 _ k) ?_
  obtain ⟨fs, hr, hrun, hended, hW, hsame⟩ := X8.leave (v := some (.ref r8)) (fun h => by rw [Bd.returns] at h; cases h)
  refine own_end (retOut X8 hx Bd.returns rfl (Or.inr (Or.inr (Or.inr (Or.inr ⟨rfl, rfl, rfl⟩)))) (hb hby own_dLc3_53) hr) hrun hended ⟨_, _, rfl, (?_ : own_QLc3 Z xl xa ka xm y0 y1 y2 h0 n0 _ T8.heap _), ⟨_, rfl⟩, hW, hsame.mono (by decide) (by decide)⟩
  exact ⟨rfl, N8, K8, SK8, r8, ra8, kr8, rfl, hz_r8, Ec8, F0c8, Vc8⟩
theorem own_dCo3_0 : decode jdk_40_method_48_code 0 = .ok (.aload_n 0, 1) := by decide +kernel
theorem own_dCo3_1 : decode jdk_40_method_48_code 1 = .ok (.invokestatic 112, 3) := by decide +kernel
theorem own_dCo3_4 : decode jdk_40_method_48_code 4 = .ok (.areturn, 1) := by decide +kernel
theorem own_efCo3 (m : MethodId) (xl : Addr) : entryFrame m #[(.ref xl)] 1 = mkF m 0 #[.val (.ref xl)] [] := by first | (simp [entryFrame, mkF, argsToLocals, Value.category]; done) | rfl
def own_QCo3 (Z : State) (xl : Addr) (xa : Addr) (ka : ClassId) (xm : Addr) (y0 : Addr) (y1 : Addr) (y2 : Addr) (h0 : Heap) (n0 : Nat) (v : Option Value) (h : Heap) (L : List Loc) : Prop := v = v ∧ Fr n0 L ∧ Keep h0 h [] ∧ own_SK Z h0 h ∧ ∃ r ra kr, v = some (.ref r) ∧ h0.size ≤ r ∧ Exa Z h r "java/util/ImmutableCollections$ListN" ∧ Fld Z h r "java/util/ImmutableCollections$ListN" "elements" "[Ljava/lang/Object;" (.ref ra) ∧ own_A Z h ra kr (.object "java/lang/Object") [(.ref y0), (.ref y1), (.ref y2)]
set_option maxRecDepth 65536 in
set_option maxHeartbeats 40000000 in
theorem own_rCo3 (l : Launch) (Z : State) (a0 : Array Value) (hw : ∀ d ∈ tables_1, d.before a0 Z = true) (ws : List Jvm.Cond) (xl : Addr) (xa : Addr) (ka : ClassId) (xm : Addr) (y0 : Addr) (y1 : Addr) (y2 : Addr) (h0 : Heap) (n0 : Nat) (Z0 : n0 ≤ h0.size) (E1 : Exa Z h0 xl "java/util/ArrayList") (Fs : Fld Z h0 xl "java/util/ArrayList" "size" "I" (.int (3 : Int32))) (Fe : Fld Z h0 xl "java/util/ArrayList" "elementData" "[Ljava/lang/Object;" (.ref xa)) (Va : own_A Z h0 xa ka (.object "java/lang/Object") [(.ref y0), (.ref y1), (.ref y2), .null, .null, .null, .null, .null, .null, .null]) (M : own_Mir Z "[Ljava/lang/Object;" xm) (Eo : Exa Z h0 xa "[Ljava/lang/Object;") (Ey0 : Exa Z h0 y0 "java/time/Duration") (Ey1 : Exa Z h0 y1 "java/time/Duration") (Ey2 : Exa Z h0 y2 "java/time/Duration") :
    MetFree l (⟨"java/util/List", "copyOf", "(Ljava/util/Collection;)Ljava/util/List;"⟩ : MethodName) (head1 (Jvm.Cond.code (⟨"java/util/List", "copyOf", "(Ljava/util/Collection;)Ljava/util/List;"⟩ : MethodName) jdk_40_method_48_code 1 (some (.object "java/util/List")) :: ws) ({ frames := 8, cells := 3, slots := 8, locals := 128 } : Room)) (fun a U => a = #[(.ref xl)] ∧ Z.Warmed39 U.vm ∧ U.heap = h0) (fun _ _ _ _ _ => True) (fun _ U o U' => ∃ v L, o = .returned v ∧ own_QCo3 Z xl xa ka xm y0 y1 y2 h0 n0 v U'.heap L ∧ FrameEnd U o U' L ({ frames := 8, cells := 3, slots := 8, locals := 128 } : Room).cells ({ frames := 8, cells := 3, slots := 8, locals := 128 } : Room).slots) := by
  refine MetFree.of_bodySF (plainFor_of_name own_pn12) hisR ?_
  intro p e s m args below meth c s₁ Bd hml0 hP hK
  obtain ⟨rfl, hZ, hh⟩ := hP
  have hx := Bd.exec
  have hby := Bd.bytes
  have hml : c.maxLocals = 1 := hml0
  have hown : s.vm.findClass "java/util/List" = some m.cls := findClass_of_methodNamed Bd.named
  have hnm := (name_of_methodNamed Bd.named Bd.method).1
  have X0 : Stand p l e ({ frames := 8, cells := 3, slots := 8, locals := 128 } : Room) s m #[(.ref xl)] below meth c s₁ [] 0 0 := Stand.of_body Bd
  have e0 : s₁.heap = h0 := by rw [← hh, Bd.state]; rfl
  have N0 := Fr.nil n0
  show own_F p e below (fun o U' => ∃ v L, o = .returned v ∧ own_QCo3 Z xl xa ka xm y0 y1 y2 h0 n0 v U'.heap L ∧ FrameEnd s o U' L ({ frames := 8, cells := 3, slots := 8, locals := 128 } : Room).cells ({ frames := 8, cells := 3, slots := 8, locals := 128 } : Room).slots) s₁ (entryFrame m #[(.ref xl)] 1)
  rw [own_efCo3 m xl]
  refine own_go (T' := s₁) (g' := (mkF m 1 #[.val (.ref xl)] [(.ref xl)])) (fun _ k => XS.aloadN X0.here hx rfl (hb hby own_dCo3_0) rfl rfl k) ?_
  obtain ⟨_, _, ⟨T1, L1, k1, n1⟩, -, X1, ⟨Lc1, hQ1, l1, y1, z1⟩, st1⟩ := Jvm.LawKit.callS X0 hx (y := (⟨"java/util/ImmutableCollections", "listCopy", "(Ljava/util/Collection;)Ljava/util/List;"⟩ : MethodName)) hown (mvT hZ (hw _ (List.mem_of_getElem? (i := 60) rfl))) (mvT hZ (hw _ (List.mem_of_getElem? (i := 61) rfl))) (mvT hZ (hw _ (List.mem_of_getElem? (i := 62) rfl))) (mvT hZ (hw _ (List.mem_of_getElem? (i := 63) rfl))) (by decide) (backOf (W := 0) (own_rLc3 l Z a0 hw [] xl xa ka xm y0 y1 y2 h0 n0 Z0 E1 Fs Fe Va M Eo Ey0 Ey1 Ey2) hZ (hw _ (List.mem_of_getElem? (i := 63) rfl)) (hw _ (List.mem_of_getElem? (i := 62) rfl)) (by decide) (by decide)) (g := (mkF m 1 #[.val (.ref xl)] [(.ref xl)])) rfl (by rw [hml]; rfl) (argsL := [(.ref xl)]) (rest := []) (lenOf own_pd16 rfl) rfl (by show 2 * 0 + _ ≤ _; exact Nat.le_of_eq rfl) (hb hby own_dCo3_1) (fun _ _ => ⟨rfl, e0, (by decide : 0 + 3 ≤ _), (by decide : 0 + 8 ≤ _)⟩)
  dsimp only [Pt.U, Pt.locs, Pt.cells, Pt.slots] at X1 l1 y1 z1 st1 hQ1
  subst l1 y1 z1
  obtain ⟨-, N1q, Kc1, SKc1, r1, ra1, kr1, rfl, hzr1, Ec1, F0c1, Vc1⟩ := hQ1
  have N1 := Fr.app N0 N1q
  have gz_r1 : n0 ≤ r1 := Nat.le_trans Z0 hzr1
  have hz_r1 : h0.size ≤ r1 := Nat.le_trans (Keep.refl h0 []).1 hzr1
  have Z1 : n0 ≤ T1.heap.size := Nat.le_trans Z0 Kc1.1
  have SK1 : own_SK Z h0 T1.heap := (own_SK.rf Z h0).tr SKc1
  have K1 : Keep h0 T1.heap [] := (Keep.refl h0 []).trans Kc1 (fun x hx => nomatch hx)
  refine own_go (T' := T1) (g' := (mkF m 4 #[.val (.ref xl)] [(.ref r1)])) (fun _ k => st1 _ k) ?_
  obtain ⟨fs, hr, hrun, hended, hW, hsame⟩ := X1.leave (v := some (.ref r1)) (fun h => by rw [Bd.returns] at h; cases h)
  refine own_end (retOut X1 hx Bd.returns rfl (Or.inr (Or.inr (Or.inr (Or.inr ⟨rfl, rfl, rfl⟩)))) (hb hby own_dCo3_4) hr) hrun hended ⟨_, _, rfl, (?_ : own_QCo3 Z xl xa ka xm y0 y1 y2 h0 n0 _ T1.heap _), ⟨_, rfl⟩, hW, hsame.mono (by decide) (by decide)⟩
  exact ⟨rfl, N1, K1, SK1, r1, ra1, kr1, rfl, hz_r1, Ec1, F0c1, Vc1⟩
theorem own_dRs0_0 : decode prog_14_method_1_code 0 = .ok (.aload_n 0, 1) := by decide +kernel
theorem own_dRs0_1 : decode prog_14_method_1_code 1 = .ok (.invokespecial 1, 3) := by decide +kernel
theorem own_dRs0_4 : decode prog_14_method_1_code 4 = .ok (.aload_n 1, 1) := by decide +kernel
theorem own_dRs0_5 : decode prog_14_method_1_code 5 = .ok (.invokestatic 7, 3) := by decide +kernel
theorem own_dRs0_8 : decode prog_14_method_1_code 8 = .ok (.astore_n 1, 1) := by decide +kernel
theorem own_dRs0_9 : decode prog_14_method_1_code 9 = .ok (.aload_n 0, 1) := by decide +kernel
theorem own_dRs0_10 : decode prog_14_method_1_code 10 = .ok (.aload_n 1, 1) := by decide +kernel
theorem own_dRs0_11 : decode prog_14_method_1_code 11 = .ok (.putfield 13, 3) := by decide +kernel
theorem own_dRs0_14 : decode prog_14_method_1_code 14 = .ok (.return_, 1) := by decide +kernel
theorem own_efRs0 (m : MethodId) (xo : Addr) (xl : Addr) : entryFrame m #[(.ref xo), (.ref xl)] 2 = mkF m 0 #[.val (.ref xo), .val (.ref xl)] [] := by first | (simp [entryFrame, mkF, argsToLocals, Value.category]; done) | rfl
def own_QRs0 (Z : State) (xo : Addr) (xl : Addr) (xE : Addr) (h0 : Heap) (n0 : Nat) (v : Option Value) (h : Heap) (L : List Loc) : Prop := v = none ∧ Fr n0 L ∧ Keep h0 h [xo] ∧ own_SK Z h0 h ∧ Exa Z h xo "com/example/entrega/entrega/RetrySchedule" ∧ Fld Z h xo "com/example/entrega/entrega/RetrySchedule" "waits" "Ljava/util/List;" (.ref xE)
theorem own_pn13 : plainName "com/example/entrega/entrega/RetrySchedule" = true := by first | (simp [plainName, overriddenIn]; done) | decide +kernel
set_option maxRecDepth 65536 in
set_option maxHeartbeats 40000000 in
theorem own_rRs0 (l : Launch) (Z : State) (a0 : Array Value) (hw : ∀ d ∈ tables_1, d.before a0 Z = true) (ws : List Jvm.Cond) (xo : Addr) (xl : Addr) (xE : Addr) (h0 : Heap) (n0 : Nat) (Z0 : n0 ≤ h0.size) (R1 : Exa Z h0 xo "com/example/entrega/entrega/RetrySchedule") (Rw : Fld Z h0 xo "com/example/entrega/entrega/RetrySchedule" "waits" "Ljava/util/List;" .null) (gz : n0 ≤ xo) (E1 : Exa Z h0 xl "java/util/ArrayList") (Fs : Fld Z h0 xl "java/util/ArrayList" "size" "I" (.int (0 : Int32))) (Se : Sta Z h0 "java/util/ImmutableCollections" "EMPTY_LIST" "Ljava/util/ImmutableCollections$ListN;" (.ref xE)) :
    MetFree l (⟨"com/example/entrega/entrega/RetrySchedule", "<init>", "(Ljava/util/List;)V"⟩ : MethodName) (head1 (Jvm.Cond.code (⟨"com/example/entrega/entrega/RetrySchedule", "<init>", "(Ljava/util/List;)V"⟩ : MethodName) prog_14_method_1_code 2 none :: ws) ({ frames := 3, cells := 0, slots := 0, locals := 37 } : Room)) (fun a U => a = #[(.ref xo), (.ref xl)] ∧ Z.Warmed39 U.vm ∧ U.heap = h0) (fun _ _ _ _ _ => True) (fun _ U o U' => ∃ v L, o = .returned v ∧ own_QRs0 Z xo xl xE h0 n0 v U'.heap L ∧ FrameEnd U o U' L ({ frames := 3, cells := 0, slots := 0, locals := 37 } : Room).cells ({ frames := 3, cells := 0, slots := 0, locals := 37 } : Room).slots) := by
  refine MetFree.of_bodySF (plainFor_of_name own_pn13) hisR ?_
  intro p e s m args below meth c s₁ Bd hml0 hP hK
  obtain ⟨rfl, hZ, hh⟩ := hP
  have hx := Bd.exec
  have hby := Bd.bytes
  have hml : c.maxLocals = 2 := hml0
  have hown : s.vm.findClass "com/example/entrega/entrega/RetrySchedule" = some m.cls := findClass_of_methodNamed Bd.named
  have hnm := (name_of_methodNamed Bd.named Bd.method).1
  have X0 : Stand p l e ({ frames := 3, cells := 0, slots := 0, locals := 37 } : Room) s m #[(.ref xo), (.ref xl)] below meth c s₁ [] 0 0 := Stand.of_body Bd
  have e0 : s₁.heap = h0 := by rw [← hh, Bd.state]; rfl
  have N0 := Fr.nil n0
  show own_F p e below (fun o U' => ∃ v L, o = .returned v ∧ own_QRs0 Z xo xl xE h0 n0 v U'.heap L ∧ FrameEnd s o U' L ({ frames := 3, cells := 0, slots := 0, locals := 37 } : Room).cells ({ frames := 3, cells := 0, slots := 0, locals := 37 } : Room).slots) s₁ (entryFrame m #[(.ref xo), (.ref xl)] 2)
  rw [own_efRs0 m xo xl]
  refine own_go (T' := s₁) (g' := (mkF m 1 #[.val (.ref xo), .val (.ref xl)] [(.ref xo)])) (fun _ k => XS.aloadN X0.here hx rfl (hb hby own_dRs0_0) rfl rfl k) ?_
  obtain ⟨_, _, ⟨T1, L1, k1, n1⟩, -, X1, ⟨Lc1, hQ1, l1, y1, z1⟩, st1⟩ := X0.specialBack hx (y := (⟨"java/lang/Record", "<init>", "()V"⟩ : MethodName)) rfl hown (mvT hZ (hw _ (List.mem_of_getElem? (i := 50) rfl))) (mvT hZ (hw _ (List.mem_of_getElem? (i := 51) rfl))) (mvT hZ (hw _ (List.mem_of_getElem? (i := 54) rfl))) (by decide) (backOf (W := 0) (own_rRec l Z a0 hw [] xo h0 n0 Z0 ) hZ (hw _ (List.mem_of_getElem? (i := 54) rfl)) (hw _ (List.mem_of_getElem? (i := 53) rfl)) (by decide) (by decide)) (g := (mkF m 1 #[.val (.ref xo), .val (.ref xl)] [(.ref xo)])) rfl (by rw [hml]; rfl) (Steps.refl _) (a := xo) (argsL := []) (rest := []) (lenOf own_pd0 rfl) rfl (by show 2 * 0 + _ ≤ _; exact Nat.le_of_eq rfl) (hb hby own_dRs0_1) (fun _ _ => ⟨rfl, e0, (by decide : 0 + 0 ≤ _), (by decide : 0 + 0 ≤ _)⟩)
  dsimp only [Pt.U, Pt.locs, Pt.cells, Pt.slots] at X1 l1 y1 z1 st1 hQ1
  subst l1 y1 z1
  obtain ⟨rfl, N1q, e1⟩ := hQ1
  have N1 := Fr.app N0 N1q
  refine own_goT (T' := T1) (g' := (mkF m 4 #[.val (.ref xo), .val (.ref xl)] [])) st1 ?_
  refine own_go (T' := T1) (g' := (mkF m 5 #[.val (.ref xo), .val (.ref xl)] [(.ref xl)])) (fun _ k => XS.aloadN X1.here hx rfl (hb hby own_dRs0_4) rfl rfl k) ?_
  obtain ⟨_, _, ⟨T2, L2, k2, n2⟩, -, X2, ⟨Lc2, hQ2, l2, y2, z2⟩, st2⟩ := Jvm.LawKit.callS X1 hx (y := (⟨"java/util/List", "copyOf", "(Ljava/util/Collection;)Ljava/util/List;"⟩ : MethodName)) hown (mvT hZ (hw _ (List.mem_of_getElem? (i := 56) rfl))) (mvT hZ (hw _ (List.mem_of_getElem? (i := 57) rfl))) (mvT hZ (hw _ (List.mem_of_getElem? (i := 58) rfl))) (mvT hZ (hw _ (List.mem_of_getElem? (i := 59) rfl))) (by decide) (backOf (W := 0) (own_rCo0 l Z a0 hw [] xl xE h0 n0 Z0 E1 Fs Se) hZ (hw _ (List.mem_of_getElem? (i := 59) rfl)) (hw _ (List.mem_of_getElem? (i := 58) rfl)) (by decide) (by decide)) (g := (mkF m 5 #[.val (.ref xo), .val (.ref xl)] [(.ref xl)])) rfl (by rw [hml]; rfl) (argsL := [(.ref xl)]) (rest := []) (lenOf own_pd16 rfl) rfl (by show 2 * 0 + _ ≤ _; exact Nat.le_of_eq rfl) (hb hby own_dRs0_5) (fun _ _ => ⟨rfl, e1, (by decide : 0 + 0 ≤ _), (by decide : 0 + 0 ≤ _)⟩)
  dsimp only [Pt.U, Pt.locs, Pt.cells, Pt.slots] at X2 l2 y2 z2 st2 hQ2
  subst l2 y2 z2
  obtain ⟨rfl, N2q, e2⟩ := hQ2
  have N2 := Fr.app N1 N2q
  refine own_go (T' := T2) (g' := (mkF m 8 #[.val (.ref xo), .val (.ref xl)] [(.ref xE)])) (fun _ k => st2 _ k) ?_
  refine own_go (T' := T2) (g' := (mkF m 9 #[.val (.ref xo), .val (.ref xE)] [])) (fun _ k => XS.astoreN X2.here hx rfl (hb hby own_dRs0_8) rfl rfl (l' := #[.val (.ref xo), .val (.ref xE)]) rfl k) ?_
  refine own_go (T' := T2) (g' := (mkF m 10 #[.val (.ref xo), .val (.ref xE)] [(.ref xo)])) (fun _ k => XS.aloadN X2.here hx rfl (hb hby own_dRs0_9) rfl rfl k) ?_
  refine own_go (T' := T2) (g' := (mkF m 11 #[.val (.ref xo), .val (.ref xE)] [(.ref xE), (.ref xo)])) (fun _ k => XS.aloadN X2.here hx rfl (hb hby own_dRs0_10) rfl rfl k) ?_
  obtain ⟨T3, h3, X3, e3, W3, st3⟩ := putF X2 hx hZ hown (host := "") (Or.inl (hw _ (List.mem_of_getElem? (i := 85) rfl))) Via.refl e2 Rw R1 (Or.inr ⟨(hw _ (List.mem_of_getElem? (i := 86) rfl)), rfl, hnm⟩) (hw _ (List.mem_of_getElem? (i := 45) rfl)) (ty := (.object "java/util/List")) (by decide) rfl rfl (g := (mkF m 11 #[.val (.ref xo), .val (.ref xE)] [(.ref xE), (.ref xo)])) rfl rfl (hb hby own_dRs0_11)
  have Fw3 := Rw.same W3
  have Ek4 := R1.wr W3
  have Z3 : n0 ≤ h3.size := Nat.le_trans Z0 (Keep.of_wr W3).1
  have K3 : Keep h0 h3 [xo] := (Keep.refl h0 [xo]).wr W3 (Or.inl (List.mem_of_getElem? (i := 0) rfl))
  have N3 := Fr.snoc X3 N2 gz
  have SK3 : own_SK Z h0 h3 := (own_SK.rf Z h0).wr W3
  refine own_go (T' := T3) (g' := (mkF m 14 #[.val (.ref xo), .val (.ref xE)] [])) (fun _ k => st3 _ k) ?_
  obtain ⟨fs, hr, hrun, hended, hW, hsame⟩ := X3.leave (v := none) (fun _ => rfl)
  refine own_end (X3.returnOut hx Bd.returns (hb hby own_dRs0_14) hr) hrun hended ⟨_, _, rfl, (?_ : own_QRs0 Z xo xl xE h0 n0 _ T3.heap _), ⟨_, rfl⟩, hW, hsame.mono (by decide) (by decide)⟩
  rw [e3]
  exact ⟨rfl, N3, K3, SK3, Ek4, Fw3⟩
theorem own_dRs1_0 : decode prog_14_method_1_code 0 = .ok (.aload_n 0, 1) := by decide +kernel
theorem own_dRs1_1 : decode prog_14_method_1_code 1 = .ok (.invokespecial 1, 3) := by decide +kernel
theorem own_dRs1_4 : decode prog_14_method_1_code 4 = .ok (.aload_n 1, 1) := by decide +kernel
theorem own_dRs1_5 : decode prog_14_method_1_code 5 = .ok (.invokestatic 7, 3) := by decide +kernel
theorem own_dRs1_8 : decode prog_14_method_1_code 8 = .ok (.astore_n 1, 1) := by decide +kernel
theorem own_dRs1_9 : decode prog_14_method_1_code 9 = .ok (.aload_n 0, 1) := by decide +kernel
theorem own_dRs1_10 : decode prog_14_method_1_code 10 = .ok (.aload_n 1, 1) := by decide +kernel
theorem own_dRs1_11 : decode prog_14_method_1_code 11 = .ok (.putfield 13, 3) := by decide +kernel
theorem own_dRs1_14 : decode prog_14_method_1_code 14 = .ok (.return_, 1) := by decide +kernel
theorem own_efRs1 (m : MethodId) (xo : Addr) (xl : Addr) : entryFrame m #[(.ref xo), (.ref xl)] 2 = mkF m 0 #[.val (.ref xo), .val (.ref xl)] [] := by first | (simp [entryFrame, mkF, argsToLocals, Value.category]; done) | rfl
def own_QRs1 (Z : State) (xo : Addr) (xl : Addr) (xa : Addr) (ka : ClassId) (xm : Addr) (xq : Addr) (y0 : Addr) (h0 : Heap) (n0 : Nat) (v : Option Value) (h : Heap) (L : List Loc) : Prop := v = none ∧ Fr n0 L ∧ Keep h0 h [xo] ∧ own_SK Z h0 h ∧ Exa Z h xo "com/example/entrega/entrega/RetrySchedule" ∧ ∃ r, h0.size ≤ r ∧ Fld Z h xo "com/example/entrega/entrega/RetrySchedule" "waits" "Ljava/util/List;" (.ref r) ∧ Exa Z h r "java/util/ImmutableCollections$List12" ∧ Fld Z h r "java/util/ImmutableCollections$List12" "e0" "Ljava/lang/Object;" (.ref y0) ∧ Fld Z h r "java/util/ImmutableCollections$List12" "e1" "Ljava/lang/Object;" (.ref xq)
set_option maxRecDepth 65536 in
set_option maxHeartbeats 40000000 in
theorem own_rRs1 (l : Launch) (Z : State) (a0 : Array Value) (hw : ∀ d ∈ tables_1, d.before a0 Z = true) (ws : List Jvm.Cond) (xo : Addr) (xl : Addr) (xa : Addr) (ka : ClassId) (xm : Addr) (xq : Addr) (y0 : Addr) (h0 : Heap) (n0 : Nat) (Z0 : n0 ≤ h0.size) (R1 : Exa Z h0 xo "com/example/entrega/entrega/RetrySchedule") (Rw : Fld Z h0 xo "com/example/entrega/entrega/RetrySchedule" "waits" "Ljava/util/List;" .null) (gz : n0 ≤ xo) (E1 : Exa Z h0 xl "java/util/ArrayList") (Fs : Fld Z h0 xl "java/util/ArrayList" "size" "I" (.int (1 : Int32))) (Fe : Fld Z h0 xl "java/util/ArrayList" "elementData" "[Ljava/lang/Object;" (.ref xa)) (Va : own_A Z h0 xa ka (.object "java/lang/Object") [(.ref y0), .null, .null, .null, .null, .null, .null, .null, .null, .null]) (M : own_Mir Z "[Ljava/lang/Object;" xm) (Eo : Exa Z h0 xa "[Ljava/lang/Object;") (Sq : Sta Z h0 "java/util/ImmutableCollections" "EMPTY" "Ljava/lang/Object;" (.ref xq)) (Ey0 : Exa Z h0 y0 "java/time/Duration") :
    MetFree l (⟨"com/example/entrega/entrega/RetrySchedule", "<init>", "(Ljava/util/List;)V"⟩ : MethodName) (head1 (Jvm.Cond.code (⟨"com/example/entrega/entrega/RetrySchedule", "<init>", "(Ljava/util/List;)V"⟩ : MethodName) prog_14_method_1_code 2 none :: ws) ({ frames := 8, cells := 2, slots := 3, locals := 140 } : Room)) (fun a U => a = #[(.ref xo), (.ref xl)] ∧ Z.Warmed39 U.vm ∧ U.heap = h0) (fun _ _ _ _ _ => True) (fun _ U o U' => ∃ v L, o = .returned v ∧ own_QRs1 Z xo xl xa ka xm xq y0 h0 n0 v U'.heap L ∧ FrameEnd U o U' L ({ frames := 8, cells := 2, slots := 3, locals := 140 } : Room).cells ({ frames := 8, cells := 2, slots := 3, locals := 140 } : Room).slots) := by
  refine MetFree.of_bodySF (plainFor_of_name own_pn13) hisR ?_
  intro p e s m args below meth c s₁ Bd hml0 hP hK
  obtain ⟨rfl, hZ, hh⟩ := hP
  have hx := Bd.exec
  have hby := Bd.bytes
  have hml : c.maxLocals = 2 := hml0
  have hown : s.vm.findClass "com/example/entrega/entrega/RetrySchedule" = some m.cls := findClass_of_methodNamed Bd.named
  have hnm := (name_of_methodNamed Bd.named Bd.method).1
  have X0 : Stand p l e ({ frames := 8, cells := 2, slots := 3, locals := 140 } : Room) s m #[(.ref xo), (.ref xl)] below meth c s₁ [] 0 0 := Stand.of_body Bd
  have e0 : s₁.heap = h0 := by rw [← hh, Bd.state]; rfl
  have N0 := Fr.nil n0
  show own_F p e below (fun o U' => ∃ v L, o = .returned v ∧ own_QRs1 Z xo xl xa ka xm xq y0 h0 n0 v U'.heap L ∧ FrameEnd s o U' L ({ frames := 8, cells := 2, slots := 3, locals := 140 } : Room).cells ({ frames := 8, cells := 2, slots := 3, locals := 140 } : Room).slots) s₁ (entryFrame m #[(.ref xo), (.ref xl)] 2)
  rw [own_efRs1 m xo xl]
  refine own_go (T' := s₁) (g' := (mkF m 1 #[.val (.ref xo), .val (.ref xl)] [(.ref xo)])) (fun _ k => XS.aloadN X0.here hx rfl (hb hby own_dRs1_0) rfl rfl k) ?_
  obtain ⟨_, _, ⟨T1, L1, k1, n1⟩, -, X1, ⟨Lc1, hQ1, l1, y1, z1⟩, st1⟩ := X0.specialBack hx (y := (⟨"java/lang/Record", "<init>", "()V"⟩ : MethodName)) rfl hown (mvT hZ (hw _ (List.mem_of_getElem? (i := 50) rfl))) (mvT hZ (hw _ (List.mem_of_getElem? (i := 51) rfl))) (mvT hZ (hw _ (List.mem_of_getElem? (i := 54) rfl))) (by decide) (backOf (W := 0) (own_rRec l Z a0 hw [] xo h0 n0 Z0 ) hZ (hw _ (List.mem_of_getElem? (i := 54) rfl)) (hw _ (List.mem_of_getElem? (i := 53) rfl)) (by decide) (by decide)) (g := (mkF m 1 #[.val (.ref xo), .val (.ref xl)] [(.ref xo)])) rfl (by rw [hml]; rfl) (Steps.refl _) (a := xo) (argsL := []) (rest := []) (lenOf own_pd0 rfl) rfl (by show 2 * 0 + _ ≤ _; exact Nat.le_of_eq rfl) (hb hby own_dRs1_1) (fun _ _ => ⟨rfl, e0, (by decide : 0 + 0 ≤ _), (by decide : 0 + 0 ≤ _)⟩)
  dsimp only [Pt.U, Pt.locs, Pt.cells, Pt.slots] at X1 l1 y1 z1 st1 hQ1
  subst l1 y1 z1
  obtain ⟨rfl, N1q, e1⟩ := hQ1
  have N1 := Fr.app N0 N1q
  refine own_goT (T' := T1) (g' := (mkF m 4 #[.val (.ref xo), .val (.ref xl)] [])) st1 ?_
  refine own_go (T' := T1) (g' := (mkF m 5 #[.val (.ref xo), .val (.ref xl)] [(.ref xl)])) (fun _ k => XS.aloadN X1.here hx rfl (hb hby own_dRs1_4) rfl rfl k) ?_
  obtain ⟨_, _, ⟨T2, L2, k2, n2⟩, -, X2, ⟨Lc2, hQ2, l2, y2, z2⟩, st2⟩ := Jvm.LawKit.callS X1 hx (y := (⟨"java/util/List", "copyOf", "(Ljava/util/Collection;)Ljava/util/List;"⟩ : MethodName)) hown (mvT hZ (hw _ (List.mem_of_getElem? (i := 56) rfl))) (mvT hZ (hw _ (List.mem_of_getElem? (i := 57) rfl))) (mvT hZ (hw _ (List.mem_of_getElem? (i := 58) rfl))) (mvT hZ (hw _ (List.mem_of_getElem? (i := 59) rfl))) (by decide) (backOf (W := 0) (own_rCo1 l Z a0 hw [] xl xa ka xm xq y0 h0 n0 Z0 E1 Fs Fe Va M Eo Sq Ey0) hZ (hw _ (List.mem_of_getElem? (i := 59) rfl)) (hw _ (List.mem_of_getElem? (i := 58) rfl)) (by decide) (by decide)) (g := (mkF m 5 #[.val (.ref xo), .val (.ref xl)] [(.ref xl)])) rfl (by rw [hml]; rfl) (argsL := [(.ref xl)]) (rest := []) (lenOf own_pd16 rfl) rfl (by show 2 * 0 + _ ≤ _; exact Nat.le_of_eq rfl) (hb hby own_dRs1_5) (fun _ _ => ⟨rfl, e1, (by decide : 0 + 2 ≤ _), (by decide : 0 + 3 ≤ _)⟩)
  dsimp only [Pt.U, Pt.locs, Pt.cells, Pt.slots] at X2 l2 y2 z2 st2 hQ2
  subst l2 y2 z2
  obtain ⟨-, N2q, Kc2, SKc2, r2, rfl, hzr2, Ec2, F0c2, F1c2⟩ := hQ2
  have N2 := Fr.app N1 N2q
  have ne_xo_r2 : xo ≠ r2 := Nat.ne_of_lt (Nat.lt_of_lt_of_le R1.lt hzr2)
  have gz_r2 : n0 ≤ r2 := Nat.le_trans Z0 hzr2
  have hz_r2 : h0.size ≤ r2 := Nat.le_trans (Keep.refl h0 [xo]).1 hzr2
  have Ek3 := R1.keep Kc2
  have Fk4 := Rw.keep Kc2 (fun q => nomatch q)
  have Z2 : n0 ≤ T2.heap.size := Nat.le_trans Z0 Kc2.1
  have SK2 : own_SK Z h0 T2.heap := (own_SK.rf Z h0).tr SKc2
  have K2 : Keep h0 T2.heap [xo] := (Keep.refl h0 [xo]).trans Kc2 (fun x hx => nomatch hx)
  refine own_go (T' := T2) (g' := (mkF m 8 #[.val (.ref xo), .val (.ref xl)] [(.ref r2)])) (fun _ k => st2 _ k) ?_
  refine own_go (T' := T2) (g' := (mkF m 9 #[.val (.ref xo), .val (.ref r2)] [])) (fun _ k => XS.astoreN X2.here hx rfl (hb hby own_dRs1_8) rfl rfl (l' := #[.val (.ref xo), .val (.ref r2)]) rfl k) ?_
  refine own_go (T' := T2) (g' := (mkF m 10 #[.val (.ref xo), .val (.ref r2)] [(.ref xo)])) (fun _ k => XS.aloadN X2.here hx rfl (hb hby own_dRs1_9) rfl rfl k) ?_
  refine own_go (T' := T2) (g' := (mkF m 11 #[.val (.ref xo), .val (.ref r2)] [(.ref r2), (.ref xo)])) (fun _ k => XS.aloadN X2.here hx rfl (hb hby own_dRs1_10) rfl rfl k) ?_
  obtain ⟨T5, h5, X5, e5, W5, st5⟩ := putF X2 hx hZ hown (host := "") (Or.inl (hw _ (List.mem_of_getElem? (i := 85) rfl))) Via.refl rfl Fk4 Ek3 (Or.inr ⟨(hw _ (List.mem_of_getElem? (i := 86) rfl)), rfl, hnm⟩) (hw _ (List.mem_of_getElem? (i := 45) rfl)) (ty := (.object "java/util/List")) (by decide) rfl rfl (g := (mkF m 11 #[.val (.ref xo), .val (.ref r2)] [(.ref r2), (.ref xo)])) rfl rfl (hb hby own_dRs1_11)
  have Fw5 := Fk4.same W5
  have Ek6 := Ek3.wr W5
  have Ek7 := Ec2.wr W5
  have Fk8 := F0c2.other W5 (Or.inl (Ne.symm ne_xo_r2))
  have Fk9 := F1c2.other W5 (Or.inl (Ne.symm ne_xo_r2))
  have Z5 : n0 ≤ h5.size := Nat.le_trans Z2 (Keep.of_wr W5).1
  have K5 : Keep h0 h5 [xo] := K2.wr W5 (Or.inl (List.mem_of_getElem? (i := 0) rfl))
  have N5 := Fr.snoc X5 N2 gz
  have SK5 : own_SK Z h0 h5 := SK2.wr W5
  refine own_go (T' := T5) (g' := (mkF m 14 #[.val (.ref xo), .val (.ref r2)] [])) (fun _ k => st5 _ k) ?_
  obtain ⟨fs, hr, hrun, hended, hW, hsame⟩ := X5.leave (v := none) (fun _ => rfl)
  refine own_end (X5.returnOut hx Bd.returns (hb hby own_dRs1_14) hr) hrun hended ⟨_, _, rfl, (?_ : own_QRs1 Z xo xl xa ka xm xq y0 h0 n0 _ T5.heap _), ⟨_, rfl⟩, hW, hsame.mono (by decide) (by decide)⟩
  rw [e5]
  exact ⟨rfl, N5, K5, SK5, Ek6, r2, hz_r2, Fw5, Ek7, Fk8, Fk9⟩
theorem own_dRs2_0 : decode prog_14_method_1_code 0 = .ok (.aload_n 0, 1) := by decide +kernel
theorem own_dRs2_1 : decode prog_14_method_1_code 1 = .ok (.invokespecial 1, 3) := by decide +kernel
theorem own_dRs2_4 : decode prog_14_method_1_code 4 = .ok (.aload_n 1, 1) := by decide +kernel
theorem own_dRs2_5 : decode prog_14_method_1_code 5 = .ok (.invokestatic 7, 3) := by decide +kernel
theorem own_dRs2_8 : decode prog_14_method_1_code 8 = .ok (.astore_n 1, 1) := by decide +kernel
theorem own_dRs2_9 : decode prog_14_method_1_code 9 = .ok (.aload_n 0, 1) := by decide +kernel
theorem own_dRs2_10 : decode prog_14_method_1_code 10 = .ok (.aload_n 1, 1) := by decide +kernel
theorem own_dRs2_11 : decode prog_14_method_1_code 11 = .ok (.putfield 13, 3) := by decide +kernel
theorem own_dRs2_14 : decode prog_14_method_1_code 14 = .ok (.return_, 1) := by decide +kernel
theorem own_efRs2 (m : MethodId) (xo : Addr) (xl : Addr) : entryFrame m #[(.ref xo), (.ref xl)] 2 = mkF m 0 #[.val (.ref xo), .val (.ref xl)] [] := by first | (simp [entryFrame, mkF, argsToLocals, Value.category]; done) | rfl
def own_QRs2 (Z : State) (xo : Addr) (xl : Addr) (xa : Addr) (ka : ClassId) (xm : Addr) (y0 : Addr) (y1 : Addr) (h0 : Heap) (n0 : Nat) (v : Option Value) (h : Heap) (L : List Loc) : Prop := v = none ∧ Fr n0 L ∧ Keep h0 h [xo] ∧ own_SK Z h0 h ∧ Exa Z h xo "com/example/entrega/entrega/RetrySchedule" ∧ ∃ r, h0.size ≤ r ∧ Fld Z h xo "com/example/entrega/entrega/RetrySchedule" "waits" "Ljava/util/List;" (.ref r) ∧ Exa Z h r "java/util/ImmutableCollections$List12" ∧ Fld Z h r "java/util/ImmutableCollections$List12" "e0" "Ljava/lang/Object;" (.ref y0) ∧ Fld Z h r "java/util/ImmutableCollections$List12" "e1" "Ljava/lang/Object;" (.ref y1)
set_option maxRecDepth 65536 in
set_option maxHeartbeats 40000000 in
theorem own_rRs2 (l : Launch) (Z : State) (a0 : Array Value) (hw : ∀ d ∈ tables_1, d.before a0 Z = true) (ws : List Jvm.Cond) (xo : Addr) (xl : Addr) (xa : Addr) (ka : ClassId) (xm : Addr) (y0 : Addr) (y1 : Addr) (h0 : Heap) (n0 : Nat) (Z0 : n0 ≤ h0.size) (R1 : Exa Z h0 xo "com/example/entrega/entrega/RetrySchedule") (Rw : Fld Z h0 xo "com/example/entrega/entrega/RetrySchedule" "waits" "Ljava/util/List;" .null) (gz : n0 ≤ xo) (E1 : Exa Z h0 xl "java/util/ArrayList") (Fs : Fld Z h0 xl "java/util/ArrayList" "size" "I" (.int (2 : Int32))) (Fe : Fld Z h0 xl "java/util/ArrayList" "elementData" "[Ljava/lang/Object;" (.ref xa)) (Va : own_A Z h0 xa ka (.object "java/lang/Object") [(.ref y0), (.ref y1), .null, .null, .null, .null, .null, .null, .null, .null]) (M : own_Mir Z "[Ljava/lang/Object;" xm) (Eo : Exa Z h0 xa "[Ljava/lang/Object;") (Ey0 : Exa Z h0 y0 "java/time/Duration") (Ey1 : Exa Z h0 y1 "java/time/Duration") :
    MetFree l (⟨"com/example/entrega/entrega/RetrySchedule", "<init>", "(Ljava/util/List;)V"⟩ : MethodName) (head1 (Jvm.Cond.code (⟨"com/example/entrega/entrega/RetrySchedule", "<init>", "(Ljava/util/List;)V"⟩ : MethodName) prog_14_method_1_code 2 none :: ws) ({ frames := 8, cells := 2, slots := 4, locals := 140 } : Room)) (fun a U => a = #[(.ref xo), (.ref xl)] ∧ Z.Warmed39 U.vm ∧ U.heap = h0) (fun _ _ _ _ _ => True) (fun _ U o U' => ∃ v L, o = .returned v ∧ own_QRs2 Z xo xl xa ka xm y0 y1 h0 n0 v U'.heap L ∧ FrameEnd U o U' L ({ frames := 8, cells := 2, slots := 4, locals := 140 } : Room).cells ({ frames := 8, cells := 2, slots := 4, locals := 140 } : Room).slots) := by
  refine MetFree.of_bodySF (plainFor_of_name own_pn13) hisR ?_
  intro p e s m args below meth c s₁ Bd hml0 hP hK
  obtain ⟨rfl, hZ, hh⟩ := hP
  have hx := Bd.exec
  have hby := Bd.bytes
  have hml : c.maxLocals = 2 := hml0
  have hown : s.vm.findClass "com/example/entrega/entrega/RetrySchedule" = some m.cls := findClass_of_methodNamed Bd.named
  have hnm := (name_of_methodNamed Bd.named Bd.method).1
  have X0 : Stand p l e ({ frames := 8, cells := 2, slots := 4, locals := 140 } : Room) s m #[(.ref xo), (.ref xl)] below meth c s₁ [] 0 0 := Stand.of_body Bd
  have e0 : s₁.heap = h0 := by rw [← hh, Bd.state]; rfl
  have N0 := Fr.nil n0
  show own_F p e below (fun o U' => ∃ v L, o = .returned v ∧ own_QRs2 Z xo xl xa ka xm y0 y1 h0 n0 v U'.heap L ∧ FrameEnd s o U' L ({ frames := 8, cells := 2, slots := 4, locals := 140 } : Room).cells ({ frames := 8, cells := 2, slots := 4, locals := 140 } : Room).slots) s₁ (entryFrame m #[(.ref xo), (.ref xl)] 2)
  rw [own_efRs2 m xo xl]
  refine own_go (T' := s₁) (g' := (mkF m 1 #[.val (.ref xo), .val (.ref xl)] [(.ref xo)])) (fun _ k => XS.aloadN X0.here hx rfl (hb hby own_dRs2_0) rfl rfl k) ?_
  obtain ⟨_, _, ⟨T1, L1, k1, n1⟩, -, X1, ⟨Lc1, hQ1, l1, y1, z1⟩, st1⟩ := X0.specialBack hx (y := (⟨"java/lang/Record", "<init>", "()V"⟩ : MethodName)) rfl hown (mvT hZ (hw _ (List.mem_of_getElem? (i := 50) rfl))) (mvT hZ (hw _ (List.mem_of_getElem? (i := 51) rfl))) (mvT hZ (hw _ (List.mem_of_getElem? (i := 54) rfl))) (by decide) (backOf (W := 0) (own_rRec l Z a0 hw [] xo h0 n0 Z0 ) hZ (hw _ (List.mem_of_getElem? (i := 54) rfl)) (hw _ (List.mem_of_getElem? (i := 53) rfl)) (by decide) (by decide)) (g := (mkF m 1 #[.val (.ref xo), .val (.ref xl)] [(.ref xo)])) rfl (by rw [hml]; rfl) (Steps.refl _) (a := xo) (argsL := []) (rest := []) (lenOf own_pd0 rfl) rfl (by show 2 * 0 + _ ≤ _; exact Nat.le_of_eq rfl) (hb hby own_dRs2_1) (fun _ _ => ⟨rfl, e0, (by decide : 0 + 0 ≤ _), (by decide : 0 + 0 ≤ _)⟩)
  dsimp only [Pt.U, Pt.locs, Pt.cells, Pt.slots] at X1 l1 y1 z1 st1 hQ1
  subst l1 y1 z1
  obtain ⟨rfl, N1q, e1⟩ := hQ1
  have N1 := Fr.app N0 N1q
  refine own_goT (T' := T1) (g' := (mkF m 4 #[.val (.ref xo), .val (.ref xl)] [])) st1 ?_
  refine own_go (T' := T1) (g' := (mkF m 5 #[.val (.ref xo), .val (.ref xl)] [(.ref xl)])) (fun _ k => XS.aloadN X1.here hx rfl (hb hby own_dRs2_4) rfl rfl k) ?_
  obtain ⟨_, _, ⟨T2, L2, k2, n2⟩, -, X2, ⟨Lc2, hQ2, l2, y2, z2⟩, st2⟩ := Jvm.LawKit.callS X1 hx (y := (⟨"java/util/List", "copyOf", "(Ljava/util/Collection;)Ljava/util/List;"⟩ : MethodName)) hown (mvT hZ (hw _ (List.mem_of_getElem? (i := 56) rfl))) (mvT hZ (hw _ (List.mem_of_getElem? (i := 57) rfl))) (mvT hZ (hw _ (List.mem_of_getElem? (i := 58) rfl))) (mvT hZ (hw _ (List.mem_of_getElem? (i := 59) rfl))) (by decide) (backOf (W := 0) (own_rCo2 l Z a0 hw [] xl xa ka xm y0 y1 h0 n0 Z0 E1 Fs Fe Va M Eo Ey0 Ey1) hZ (hw _ (List.mem_of_getElem? (i := 59) rfl)) (hw _ (List.mem_of_getElem? (i := 58) rfl)) (by decide) (by decide)) (g := (mkF m 5 #[.val (.ref xo), .val (.ref xl)] [(.ref xl)])) rfl (by rw [hml]; rfl) (argsL := [(.ref xl)]) (rest := []) (lenOf own_pd16 rfl) rfl (by show 2 * 0 + _ ≤ _; exact Nat.le_of_eq rfl) (hb hby own_dRs2_5) (fun _ _ => ⟨rfl, e1, (by decide : 0 + 2 ≤ _), (by decide : 0 + 4 ≤ _)⟩)
  dsimp only [Pt.U, Pt.locs, Pt.cells, Pt.slots] at X2 l2 y2 z2 st2 hQ2
  subst l2 y2 z2
  obtain ⟨-, N2q, Kc2, SKc2, r2, rfl, hzr2, Ec2, F0c2, F1c2⟩ := hQ2
  have N2 := Fr.app N1 N2q
  have ne_xo_r2 : xo ≠ r2 := Nat.ne_of_lt (Nat.lt_of_lt_of_le R1.lt hzr2)
  have gz_r2 : n0 ≤ r2 := Nat.le_trans Z0 hzr2
  have hz_r2 : h0.size ≤ r2 := Nat.le_trans (Keep.refl h0 [xo]).1 hzr2
  have Ek3 := R1.keep Kc2
  have Fk4 := Rw.keep Kc2 (fun q => nomatch q)
  have Z2 : n0 ≤ T2.heap.size := Nat.le_trans Z0 Kc2.1
  have SK2 : own_SK Z h0 T2.heap := (own_SK.rf Z h0).tr SKc2
  have K2 : Keep h0 T2.heap [xo] := (Keep.refl h0 [xo]).trans Kc2 (fun x hx => nomatch hx)
  refine own_go (T' := T2) (g' := (mkF m 8 #[.val (.ref xo), .val (.ref xl)] [(.ref r2)])) (fun _ k => st2 _ k) ?_
  refine own_go (T' := T2) (g' := (mkF m 9 #[.val (.ref xo), .val (.ref r2)] [])) (fun _ k => XS.astoreN X2.here hx rfl (hb hby own_dRs2_8) rfl rfl (l' := #[.val (.ref xo), .val (.ref r2)]) rfl k) ?_
  refine own_go (T' := T2) (g' := (mkF m 10 #[.val (.ref xo), .val (.ref r2)] [(.ref xo)])) (fun _ k => XS.aloadN X2.here hx rfl (hb hby own_dRs2_9) rfl rfl k) ?_
  refine own_go (T' := T2) (g' := (mkF m 11 #[.val (.ref xo), .val (.ref r2)] [(.ref r2), (.ref xo)])) (fun _ k => XS.aloadN X2.here hx rfl (hb hby own_dRs2_10) rfl rfl k) ?_
  obtain ⟨T5, h5, X5, e5, W5, st5⟩ := putF X2 hx hZ hown (host := "") (Or.inl (hw _ (List.mem_of_getElem? (i := 85) rfl))) Via.refl rfl Fk4 Ek3 (Or.inr ⟨(hw _ (List.mem_of_getElem? (i := 86) rfl)), rfl, hnm⟩) (hw _ (List.mem_of_getElem? (i := 45) rfl)) (ty := (.object "java/util/List")) (by decide) rfl rfl (g := (mkF m 11 #[.val (.ref xo), .val (.ref r2)] [(.ref r2), (.ref xo)])) rfl rfl (hb hby own_dRs2_11)
  have Fw5 := Fk4.same W5
  have Ek6 := Ek3.wr W5
  have Ek7 := Ec2.wr W5
  have Fk8 := F0c2.other W5 (Or.inl (Ne.symm ne_xo_r2))
  have Fk9 := F1c2.other W5 (Or.inl (Ne.symm ne_xo_r2))
  have Z5 : n0 ≤ h5.size := Nat.le_trans Z2 (Keep.of_wr W5).1
  have K5 : Keep h0 h5 [xo] := K2.wr W5 (Or.inl (List.mem_of_getElem? (i := 0) rfl))
  have N5 := Fr.snoc X5 N2 gz
  have SK5 : own_SK Z h0 h5 := SK2.wr W5
  refine own_go (T' := T5) (g' := (mkF m 14 #[.val (.ref xo), .val (.ref r2)] [])) (fun _ k => st5 _ k) ?_
  obtain ⟨fs, hr, hrun, hended, hW, hsame⟩ := X5.leave (v := none) (fun _ => rfl)
  refine own_end (X5.returnOut hx Bd.returns (hb hby own_dRs2_14) hr) hrun hended ⟨_, _, rfl, (?_ : own_QRs2 Z xo xl xa ka xm y0 y1 h0 n0 _ T5.heap _), ⟨_, rfl⟩, hW, hsame.mono (by decide) (by decide)⟩
  rw [e5]
  exact ⟨rfl, N5, K5, SK5, Ek6, r2, hz_r2, Fw5, Ek7, Fk8, Fk9⟩
theorem own_dRs3_0 : decode prog_14_method_1_code 0 = .ok (.aload_n 0, 1) := by decide +kernel
theorem own_dRs3_1 : decode prog_14_method_1_code 1 = .ok (.invokespecial 1, 3) := by decide +kernel
theorem own_dRs3_4 : decode prog_14_method_1_code 4 = .ok (.aload_n 1, 1) := by decide +kernel
theorem own_dRs3_5 : decode prog_14_method_1_code 5 = .ok (.invokestatic 7, 3) := by decide +kernel
theorem own_dRs3_8 : decode prog_14_method_1_code 8 = .ok (.astore_n 1, 1) := by decide +kernel
theorem own_dRs3_9 : decode prog_14_method_1_code 9 = .ok (.aload_n 0, 1) := by decide +kernel
theorem own_dRs3_10 : decode prog_14_method_1_code 10 = .ok (.aload_n 1, 1) := by decide +kernel
theorem own_dRs3_11 : decode prog_14_method_1_code 11 = .ok (.putfield 13, 3) := by decide +kernel
theorem own_dRs3_14 : decode prog_14_method_1_code 14 = .ok (.return_, 1) := by decide +kernel
theorem own_efRs3 (m : MethodId) (xo : Addr) (xl : Addr) : entryFrame m #[(.ref xo), (.ref xl)] 2 = mkF m 0 #[.val (.ref xo), .val (.ref xl)] [] := by first | (simp [entryFrame, mkF, argsToLocals, Value.category]; done) | rfl
def own_QRs3 (Z : State) (xo : Addr) (xl : Addr) (xa : Addr) (ka : ClassId) (xm : Addr) (y0 : Addr) (y1 : Addr) (y2 : Addr) (h0 : Heap) (n0 : Nat) (v : Option Value) (h : Heap) (L : List Loc) : Prop := v = none ∧ Fr n0 L ∧ Keep h0 h [xo] ∧ own_SK Z h0 h ∧ Exa Z h xo "com/example/entrega/entrega/RetrySchedule" ∧ ∃ r ra kr, h0.size ≤ r ∧ Fld Z h xo "com/example/entrega/entrega/RetrySchedule" "waits" "Ljava/util/List;" (.ref r) ∧ Exa Z h r "java/util/ImmutableCollections$ListN" ∧ Fld Z h r "java/util/ImmutableCollections$ListN" "elements" "[Ljava/lang/Object;" (.ref ra) ∧ own_A Z h ra kr (.object "java/lang/Object") [(.ref y0), (.ref y1), (.ref y2)]
set_option maxRecDepth 65536 in
set_option maxHeartbeats 40000000 in
theorem own_rRs3 (l : Launch) (Z : State) (a0 : Array Value) (hw : ∀ d ∈ tables_1, d.before a0 Z = true) (ws : List Jvm.Cond) (xo : Addr) (xl : Addr) (xa : Addr) (ka : ClassId) (xm : Addr) (y0 : Addr) (y1 : Addr) (y2 : Addr) (h0 : Heap) (n0 : Nat) (Z0 : n0 ≤ h0.size) (R1 : Exa Z h0 xo "com/example/entrega/entrega/RetrySchedule") (Rw : Fld Z h0 xo "com/example/entrega/entrega/RetrySchedule" "waits" "Ljava/util/List;" .null) (gz : n0 ≤ xo) (E1 : Exa Z h0 xl "java/util/ArrayList") (Fs : Fld Z h0 xl "java/util/ArrayList" "size" "I" (.int (3 : Int32))) (Fe : Fld Z h0 xl "java/util/ArrayList" "elementData" "[Ljava/lang/Object;" (.ref xa)) (Va : own_A Z h0 xa ka (.object "java/lang/Object") [(.ref y0), (.ref y1), (.ref y2), .null, .null, .null, .null, .null, .null, .null]) (M : own_Mir Z "[Ljava/lang/Object;" xm) (Eo : Exa Z h0 xa "[Ljava/lang/Object;") (Ey0 : Exa Z h0 y0 "java/time/Duration") (Ey1 : Exa Z h0 y1 "java/time/Duration") (Ey2 : Exa Z h0 y2 "java/time/Duration") :
    MetFree l (⟨"com/example/entrega/entrega/RetrySchedule", "<init>", "(Ljava/util/List;)V"⟩ : MethodName) (head1 (Jvm.Cond.code (⟨"com/example/entrega/entrega/RetrySchedule", "<init>", "(Ljava/util/List;)V"⟩ : MethodName) prog_14_method_1_code 2 none :: ws) ({ frames := 9, cells := 3, slots := 8, locals := 140 } : Room)) (fun a U => a = #[(.ref xo), (.ref xl)] ∧ Z.Warmed39 U.vm ∧ U.heap = h0) (fun _ _ _ _ _ => True) (fun _ U o U' => ∃ v L, o = .returned v ∧ own_QRs3 Z xo xl xa ka xm y0 y1 y2 h0 n0 v U'.heap L ∧ FrameEnd U o U' L ({ frames := 9, cells := 3, slots := 8, locals := 140 } : Room).cells ({ frames := 9, cells := 3, slots := 8, locals := 140 } : Room).slots) := by
  refine MetFree.of_bodySF (plainFor_of_name own_pn13) hisR ?_
  intro p e s m args below meth c s₁ Bd hml0 hP hK
  obtain ⟨rfl, hZ, hh⟩ := hP
  have hx := Bd.exec
  have hby := Bd.bytes
  have hml : c.maxLocals = 2 := hml0
  have hown : s.vm.findClass "com/example/entrega/entrega/RetrySchedule" = some m.cls := findClass_of_methodNamed Bd.named
  have hnm := (name_of_methodNamed Bd.named Bd.method).1
  have X0 : Stand p l e ({ frames := 9, cells := 3, slots := 8, locals := 140 } : Room) s m #[(.ref xo), (.ref xl)] below meth c s₁ [] 0 0 := Stand.of_body Bd
  have e0 : s₁.heap = h0 := by rw [← hh, Bd.state]; rfl
  have N0 := Fr.nil n0
  show own_F p e below (fun o U' => ∃ v L, o = .returned v ∧ own_QRs3 Z xo xl xa ka xm y0 y1 y2 h0 n0 v U'.heap L ∧ FrameEnd s o U' L ({ frames := 9, cells := 3, slots := 8, locals := 140 } : Room).cells ({ frames := 9, cells := 3, slots := 8, locals := 140 } : Room).slots) s₁ (entryFrame m #[(.ref xo), (.ref xl)] 2)
  rw [own_efRs3 m xo xl]
  refine own_go (T' := s₁) (g' := (mkF m 1 #[.val (.ref xo), .val (.ref xl)] [(.ref xo)])) (fun _ k => XS.aloadN X0.here hx rfl (hb hby own_dRs3_0) rfl rfl k) ?_
  obtain ⟨_, _, ⟨T1, L1, k1, n1⟩, -, X1, ⟨Lc1, hQ1, l1, y1, z1⟩, st1⟩ := X0.specialBack hx (y := (⟨"java/lang/Record", "<init>", "()V"⟩ : MethodName)) rfl hown (mvT hZ (hw _ (List.mem_of_getElem? (i := 50) rfl))) (mvT hZ (hw _ (List.mem_of_getElem? (i := 51) rfl))) (mvT hZ (hw _ (List.mem_of_getElem? (i := 54) rfl))) (by decide) (backOf (W := 0) (own_rRec l Z a0 hw [] xo h0 n0 Z0 ) hZ (hw _ (List.mem_of_getElem? (i := 54) rfl)) (hw _ (List.mem_of_getElem? (i := 53) rfl)) (by decide) (by decide)) (g := (mkF m 1 #[.val (.ref xo), .val (.ref xl)] [(.ref xo)])) rfl (by rw [hml]; rfl) (Steps.refl _) (a := xo) (argsL := []) (rest := []) (lenOf own_pd0 rfl) rfl (by show 2 * 0 + _ ≤ _; exact Nat.le_of_eq rfl) (hb hby own_dRs3_1) (fun _ _ => ⟨rfl, e0, (by decide : 0 + 0 ≤ _), (by decide : 0 + 0 ≤ _)⟩)
  dsimp only [Pt.U, Pt.locs, Pt.cells, Pt.slots] at X1 l1 y1 z1 st1 hQ1
  subst l1 y1 z1
  obtain ⟨rfl, N1q, e1⟩ := hQ1
  have N1 := Fr.app N0 N1q
  refine own_goT (T' := T1) (g' := (mkF m 4 #[.val (.ref xo), .val (.ref xl)] [])) st1 ?_
  refine own_go (T' := T1) (g' := (mkF m 5 #[.val (.ref xo), .val (.ref xl)] [(.ref xl)])) (fun _ k => XS.aloadN X1.here hx rfl (hb hby own_dRs3_4) rfl rfl k) ?_
  obtain ⟨_, _, ⟨T2, L2, k2, n2⟩, -, X2, ⟨Lc2, hQ2, l2, y2, z2⟩, st2⟩ := Jvm.LawKit.callS X1 hx (y := (⟨"java/util/List", "copyOf", "(Ljava/util/Collection;)Ljava/util/List;"⟩ : MethodName)) hown (mvT hZ (hw _ (List.mem_of_getElem? (i := 56) rfl))) (mvT hZ (hw _ (List.mem_of_getElem? (i := 57) rfl))) (mvT hZ (hw _ (List.mem_of_getElem? (i := 58) rfl))) (mvT hZ (hw _ (List.mem_of_getElem? (i := 59) rfl))) (by decide) (backOf (W := 0) (own_rCo3 l Z a0 hw [] xl xa ka xm y0 y1 y2 h0 n0 Z0 E1 Fs Fe Va M Eo Ey0 Ey1 Ey2) hZ (hw _ (List.mem_of_getElem? (i := 59) rfl)) (hw _ (List.mem_of_getElem? (i := 58) rfl)) (by decide) (by decide)) (g := (mkF m 5 #[.val (.ref xo), .val (.ref xl)] [(.ref xl)])) rfl (by rw [hml]; rfl) (argsL := [(.ref xl)]) (rest := []) (lenOf own_pd16 rfl) rfl (by show 2 * 0 + _ ≤ _; exact Nat.le_of_eq rfl) (hb hby own_dRs3_5) (fun _ _ => ⟨rfl, e1, (by decide : 0 + 3 ≤ _), (by decide : 0 + 8 ≤ _)⟩)
  dsimp only [Pt.U, Pt.locs, Pt.cells, Pt.slots] at X2 l2 y2 z2 st2 hQ2
  subst l2 y2 z2
  obtain ⟨-, N2q, Kc2, SKc2, r2, ra2, kr2, rfl, hzr2, Ec2, F0c2, Vc2⟩ := hQ2
  have N2 := Fr.app N1 N2q
  have ne_xo_r2 : xo ≠ r2 := Nat.ne_of_lt (Nat.lt_of_lt_of_le R1.lt hzr2)
  have gz_r2 : n0 ≤ r2 := Nat.le_trans Z0 hzr2
  have hz_r2 : h0.size ≤ r2 := Nat.le_trans (Keep.refl h0 [xo]).1 hzr2
  have Ek3 := R1.keep Kc2
  have Fk4 := Rw.keep Kc2 (fun q => nomatch q)
  have Z2 : n0 ≤ T2.heap.size := Nat.le_trans Z0 Kc2.1
  have SK2 : own_SK Z h0 T2.heap := (own_SK.rf Z h0).tr SKc2
  have K2 : Keep h0 T2.heap [xo] := (Keep.refl h0 [xo]).trans Kc2 (fun x hx => nomatch hx)
  refine own_go (T' := T2) (g' := (mkF m 8 #[.val (.ref xo), .val (.ref xl)] [(.ref r2)])) (fun _ k => st2 _ k) ?_
  refine own_go (T' := T2) (g' := (mkF m 9 #[.val (.ref xo), .val (.ref r2)] [])) (fun _ k => XS.astoreN X2.here hx rfl (hb hby own_dRs3_8) rfl rfl (l' := #[.val (.ref xo), .val (.ref r2)]) rfl k) ?_
  refine own_go (T' := T2) (g' := (mkF m 10 #[.val (.ref xo), .val (.ref r2)] [(.ref xo)])) (fun _ k => XS.aloadN X2.here hx rfl (hb hby own_dRs3_9) rfl rfl k) ?_
  refine own_go (T' := T2) (g' := (mkF m 11 #[.val (.ref xo), .val (.ref r2)] [(.ref r2), (.ref xo)])) (fun _ k => XS.aloadN X2.here hx rfl (hb hby own_dRs3_10) rfl rfl k) ?_
  have neo_ra2 : xo ≠ ra2 := own_neA Ek3 (hw _ (List.mem_of_getElem? (i := 45) rfl)) Vc2
  obtain ⟨T5, h5, X5, e5, W5, st5⟩ := putF X2 hx hZ hown (host := "") (Or.inl (hw _ (List.mem_of_getElem? (i := 85) rfl))) Via.refl rfl Fk4 Ek3 (Or.inr ⟨(hw _ (List.mem_of_getElem? (i := 86) rfl)), rfl, hnm⟩) (hw _ (List.mem_of_getElem? (i := 45) rfl)) (ty := (.object "java/util/List")) (by decide) rfl rfl (g := (mkF m 11 #[.val (.ref xo), .val (.ref r2)] [(.ref r2), (.ref xo)])) rfl rfl (hb hby own_dRs3_11)
  have Fw5 := Fk4.same W5
  have Ek6 := Ek3.wr W5
  have Ek7 := Ec2.wr W5
  have Fk8 := F0c2.other W5 (Or.inl (Ne.symm ne_xo_r2))
  have Vk9 := Vc2.other W5 (Ne.symm neo_ra2)
  have Z5 : n0 ≤ h5.size := Nat.le_trans Z2 (Keep.of_wr W5).1
  have K5 : Keep h0 h5 [xo] := K2.wr W5 (Or.inl (List.mem_of_getElem? (i := 0) rfl))
  have N5 := Fr.snoc X5 N2 gz
  have SK5 : own_SK Z h0 h5 := SK2.wr W5
  refine own_go (T' := T5) (g' := (mkF m 14 #[.val (.ref xo), .val (.ref r2)] [])) (fun _ k => st5 _ k) ?_
  obtain ⟨fs, hr, hrun, hended, hW, hsame⟩ := X5.leave (v := none) (fun _ => rfl)
  refine own_end (X5.returnOut hx Bd.returns (hb hby own_dRs3_14) hr) hrun hended ⟨_, _, rfl, (?_ : own_QRs3 Z xo xl xa ka xm y0 y1 y2 h0 n0 _ T5.heap _), ⟨_, rfl⟩, hW, hsame.mono (by decide) (by decide)⟩
  rw [e5]
  exact ⟨rfl, N5, K5, SK5, Ek6, r2, ra2, kr2, hz_r2, Fw5, Ek7, Fk8, Vk9⟩
theorem own_dSz1_0 : decode jdk_44_method_3_code 0 = .ok (.aload_n 0, 1) := by decide +kernel
theorem own_dSz1_1 : decode jdk_44_method_3_code 1 = .ok (.getfield 24, 3) := by decide +kernel
theorem own_dSz1_4 : decode jdk_44_method_3_code 4 = .ok (.getstatic 19, 3) := by decide +kernel
theorem own_dSz1_7 : decode jdk_44_method_3_code 7 = .ok (.if_acmp .eq 7, 3) := by decide +kernel
theorem own_dSz1_14 : decode jdk_44_method_3_code 14 = .ok (.iconst 1, 1) := by decide +kernel
theorem own_dSz1_15 : decode jdk_44_method_3_code 15 = .ok (.ireturn, 1) := by decide +kernel
theorem own_efSz1 (m : MethodId) (xo : Addr) : entryFrame m #[(.ref xo)] 1 = mkF m 0 #[.val (.ref xo)] [] := by first | (simp [entryFrame, mkF, argsToLocals, Value.category]; done) | rfl
def own_QSz1 (Z : State) (xo : Addr) (xq : Addr) (x1 : Addr) (h0 : Heap) (n0 : Nat) (v : Option Value) (h : Heap) (L : List Loc) : Prop := v = some (.int (1 : Int32)) ∧ Fr n0 L ∧ h = h0
set_option maxRecDepth 65536 in
set_option maxHeartbeats 40000000 in
theorem own_rSz1 (l : Launch) (Z : State) (a0 : Array Value) (hw : ∀ d ∈ tables_1, d.before a0 Z = true) (ws : List Jvm.Cond) (xo : Addr) (xq : Addr) (x1 : Addr) (h0 : Heap) (n0 : Nat) (Z0 : n0 ≤ h0.size) (F1 : Fld Z h0 xo "java/util/ImmutableCollections$List12" "e1" "Ljava/lang/Object;" (.ref x1)) (Sq : Sta Z h0 "java/util/ImmutableCollections" "EMPTY" "Ljava/lang/Object;" (.ref xq)) (hq : x1 = xq) :
    MetFree l (⟨"java/util/ImmutableCollections$List12", "size", "()I"⟩ : MethodName) (head1 (Jvm.Cond.code (⟨"java/util/ImmutableCollections$List12", "size", "()I"⟩ : MethodName) jdk_44_method_3_code 1 (some .int) :: ws) ({ frames := 0, cells := 0, slots := 0, locals := 0 } : Room)) (fun a U => a = #[(.ref xo)] ∧ Z.Warmed39 U.vm ∧ U.heap = h0) (fun _ _ _ _ _ => True) (fun _ U o U' => ∃ v L, o = .returned v ∧ own_QSz1 Z xo xq x1 h0 n0 v U'.heap L ∧ FrameEnd U o U' L ({ frames := 0, cells := 0, slots := 0, locals := 0 } : Room).cells ({ frames := 0, cells := 0, slots := 0, locals := 0 } : Room).slots) := by
  refine MetFree.of_bodySF (plainFor_of_name own_pn8) hisR ?_
  intro p e s m args below meth c s₁ Bd hml0 hP hK
  obtain ⟨rfl, hZ, hh⟩ := hP
  have hx := Bd.exec
  have hby := Bd.bytes
  have hml : c.maxLocals = 1 := hml0
  have hown : s.vm.findClass "java/util/ImmutableCollections$List12" = some m.cls := findClass_of_methodNamed Bd.named
  have hnm := (name_of_methodNamed Bd.named Bd.method).1
  have X0 : Stand p l e ({ frames := 0, cells := 0, slots := 0, locals := 0 } : Room) s m #[(.ref xo)] below meth c s₁ [] 0 0 := Stand.of_body Bd
  have e0 : s₁.heap = h0 := by rw [← hh, Bd.state]; rfl
  have N0 := Fr.nil n0
  show own_F p e below (fun o U' => ∃ v L, o = .returned v ∧ own_QSz1 Z xo xq x1 h0 n0 v U'.heap L ∧ FrameEnd s o U' L ({ frames := 0, cells := 0, slots := 0, locals := 0 } : Room).cells ({ frames := 0, cells := 0, slots := 0, locals := 0 } : Room).slots) s₁ (entryFrame m #[(.ref xo)] 1)
  rw [own_efSz1 m xo]
  refine own_go (T' := s₁) (g' := (mkF m 1 #[.val (.ref xo)] [(.ref xo)])) (fun _ k => XS.aloadN X0.here hx rfl (hb hby own_dSz1_0) rfl rfl k) ?_
  obtain ⟨T1, X1, e1, st1⟩ := getF X0 hx hZ hown (host := "") (Or.inl (hw _ (List.mem_of_getElem? (i := 211) rfl))) Via.refl e0 F1 (g := (mkF m 1 #[.val (.ref xo)] [(.ref xo)])) rfl rfl (hb hby own_dSz1_1)
  refine own_go (T' := T1) (g' := (mkF m 4 #[.val (.ref xo)] [(.ref x1)])) (fun _ k => st1 _ k) ?_
  obtain ⟨T2, X2, e2, st2⟩ := getS2 X1 hx hZ hown (Or.inr (hw _ (List.mem_of_getElem? (i := 210) rfl))) Via.refl e1 Sq (g := (mkF m 4 #[.val (.ref xo)] [(.ref x1)])) rfl (hb hby own_dSz1_4)
  refine own_go (T' := T2) (g' := (mkF m 7 #[.val (.ref xo)] [(.ref xq), (.ref x1)])) (fun _ k => st2 _ k) ?_
  refine own_go (T' := T2) (g' := (mkF m 14 #[.val (.ref xo)] [])) (fun _ k => Jvm.RoadKit.acmp (g := (mkF m 7 #[.val (.ref xo)] [(.ref xq), (.ref x1)])) X2 hx rfl rfl rfl (pc0 := 7) (pc' := 14) (same := true) rfl (hb hby own_dSz1_7) rfl (decide_eq_true (congrArg Value.ref hq)) (by decide) (by decide) k) ?_
  refine own_go (T' := T2) (g' := (mkF m 15 #[.val (.ref xo)] [(.int (1 : Int32))])) (fun _ k => XS.iconst X2.here hx rfl (hb hby own_dSz1_14) k) ?_
  obtain ⟨fs, hr, hrun, hended, hW, hsame⟩ := X2.leave (v := some (.int (1 : Int32))) (fun h => by rw [Bd.returns] at h; cases h)
  refine own_end (retOut X2 hx Bd.returns rfl (Or.inl ⟨rfl, Or.inl rfl, _, rfl⟩) (hb hby own_dSz1_15) hr) hrun hended ⟨_, _, rfl, (?_ : own_QSz1 Z xo xq x1 h0 n0 _ T2.heap _), ⟨_, rfl⟩, hW, hsame.mono (by decide) (by decide)⟩
  rw [e2]
  exact ⟨rfl, N0, rfl⟩
theorem own_dSz2_0 : decode jdk_44_method_3_code 0 = .ok (.aload_n 0, 1) := by decide +kernel
theorem own_dSz2_1 : decode jdk_44_method_3_code 1 = .ok (.getfield 24, 3) := by decide +kernel
theorem own_dSz2_4 : decode jdk_44_method_3_code 4 = .ok (.getstatic 19, 3) := by decide +kernel
theorem own_dSz2_7 : decode jdk_44_method_3_code 7 = .ok (.if_acmp .eq 7, 3) := by decide +kernel
theorem own_dSz2_10 : decode jdk_44_method_3_code 10 = .ok (.iconst 2, 1) := by decide +kernel
theorem own_dSz2_11 : decode jdk_44_method_3_code 11 = .ok (.goto 4, 3) := by decide +kernel
theorem own_dSz2_15 : decode jdk_44_method_3_code 15 = .ok (.ireturn, 1) := by decide +kernel
theorem own_efSz2 (m : MethodId) (xo : Addr) : entryFrame m #[(.ref xo)] 1 = mkF m 0 #[.val (.ref xo)] [] := by first | (simp [entryFrame, mkF, argsToLocals, Value.category]; done) | rfl
def own_QSz2 (Z : State) (xo : Addr) (xq : Addr) (x1 : Addr) (h0 : Heap) (n0 : Nat) (v : Option Value) (h : Heap) (L : List Loc) : Prop := v = some (.int (2 : Int32)) ∧ Fr n0 L ∧ h = h0
set_option maxRecDepth 65536 in
set_option maxHeartbeats 40000000 in
theorem own_rSz2 (l : Launch) (Z : State) (a0 : Array Value) (hw : ∀ d ∈ tables_1, d.before a0 Z = true) (ws : List Jvm.Cond) (xo : Addr) (xq : Addr) (x1 : Addr) (h0 : Heap) (n0 : Nat) (Z0 : n0 ≤ h0.size) (F1 : Fld Z h0 xo "java/util/ImmutableCollections$List12" "e1" "Ljava/lang/Object;" (.ref x1)) (Sq : Sta Z h0 "java/util/ImmutableCollections" "EMPTY" "Ljava/lang/Object;" (.ref xq)) (hq : ¬ x1 = xq) :
    MetFree l (⟨"java/util/ImmutableCollections$List12", "size", "()I"⟩ : MethodName) (head1 (Jvm.Cond.code (⟨"java/util/ImmutableCollections$List12", "size", "()I"⟩ : MethodName) jdk_44_method_3_code 1 (some .int) :: ws) ({ frames := 0, cells := 0, slots := 0, locals := 0 } : Room)) (fun a U => a = #[(.ref xo)] ∧ Z.Warmed39 U.vm ∧ U.heap = h0) (fun _ _ _ _ _ => True) (fun _ U o U' => ∃ v L, o = .returned v ∧ own_QSz2 Z xo xq x1 h0 n0 v U'.heap L ∧ FrameEnd U o U' L ({ frames := 0, cells := 0, slots := 0, locals := 0 } : Room).cells ({ frames := 0, cells := 0, slots := 0, locals := 0 } : Room).slots) := by
  refine MetFree.of_bodySF (plainFor_of_name own_pn8) hisR ?_
  intro p e s m args below meth c s₁ Bd hml0 hP hK
  obtain ⟨rfl, hZ, hh⟩ := hP
  have hx := Bd.exec
  have hby := Bd.bytes
  have hml : c.maxLocals = 1 := hml0
  have hown : s.vm.findClass "java/util/ImmutableCollections$List12" = some m.cls := findClass_of_methodNamed Bd.named
  have hnm := (name_of_methodNamed Bd.named Bd.method).1
  have X0 : Stand p l e ({ frames := 0, cells := 0, slots := 0, locals := 0 } : Room) s m #[(.ref xo)] below meth c s₁ [] 0 0 := Stand.of_body Bd
  have e0 : s₁.heap = h0 := by rw [← hh, Bd.state]; rfl
  have N0 := Fr.nil n0
  show own_F p e below (fun o U' => ∃ v L, o = .returned v ∧ own_QSz2 Z xo xq x1 h0 n0 v U'.heap L ∧ FrameEnd s o U' L ({ frames := 0, cells := 0, slots := 0, locals := 0 } : Room).cells ({ frames := 0, cells := 0, slots := 0, locals := 0 } : Room).slots) s₁ (entryFrame m #[(.ref xo)] 1)
  rw [own_efSz2 m xo]
  refine own_go (T' := s₁) (g' := (mkF m 1 #[.val (.ref xo)] [(.ref xo)])) (fun _ k => XS.aloadN X0.here hx rfl (hb hby own_dSz2_0) rfl rfl k) ?_
  obtain ⟨T1, X1, e1, st1⟩ := getF X0 hx hZ hown (host := "") (Or.inl (hw _ (List.mem_of_getElem? (i := 211) rfl))) Via.refl e0 F1 (g := (mkF m 1 #[.val (.ref xo)] [(.ref xo)])) rfl rfl (hb hby own_dSz2_1)
  refine own_go (T' := T1) (g' := (mkF m 4 #[.val (.ref xo)] [(.ref x1)])) (fun _ k => st1 _ k) ?_
  obtain ⟨T2, X2, e2, st2⟩ := getS2 X1 hx hZ hown (Or.inr (hw _ (List.mem_of_getElem? (i := 210) rfl))) Via.refl e1 Sq (g := (mkF m 4 #[.val (.ref xo)] [(.ref x1)])) rfl (hb hby own_dSz2_4)
  refine own_go (T' := T2) (g' := (mkF m 7 #[.val (.ref xo)] [(.ref xq), (.ref x1)])) (fun _ k => st2 _ k) ?_
  refine own_go (T' := T2) (g' := (mkF m 10 #[.val (.ref xo)] [])) (fun _ k => Jvm.RoadKit.acmp (g := (mkF m 7 #[.val (.ref xo)] [(.ref xq), (.ref x1)])) X2 hx rfl rfl rfl (pc0 := 7) (pc' := 10) (same := false) rfl (hb hby own_dSz2_7) rfl (decide_eq_false fun q => hq (Value.ref.inj q)) (by decide) (by decide) k) ?_
  refine own_go (T' := T2) (g' := (mkF m 11 #[.val (.ref xo)] [(.int (2 : Int32))])) (fun _ k => XS.iconst X2.here hx rfl (hb hby own_dSz2_10) k) ?_
  refine own_go (T' := T2) (g' := (mkF m 15 #[.val (.ref xo)] [(.int (2 : Int32))])) (fun _ k => XS.goto X2.here hx rfl (pc0 := 11) (pc' := 15) rfl (hb hby own_dSz2_11) (by decide) (by decide) k) ?_
  obtain ⟨fs, hr, hrun, hended, hW, hsame⟩ := X2.leave (v := some (.int (2 : Int32))) (fun h => by rw [Bd.returns] at h; cases h)
  refine own_end (retOut X2 hx Bd.returns rfl (Or.inl ⟨rfl, Or.inl rfl, _, rfl⟩) (hb hby own_dSz2_15) hr) hrun hended ⟨_, _, rfl, (?_ : own_QSz2 Z xo xq x1 h0 n0 _ T2.heap _), ⟨_, rfl⟩, hW, hsame.mono (by decide) (by decide)⟩
  rw [e2]
  exact ⟨rfl, N0, rfl⟩
theorem own_dSzn0_0 : decode jdk_45_method_3_code 0 = .ok (.aload_n 0, 1) := by decide +kernel
theorem own_dSzn0_1 : decode jdk_45_method_3_code 1 = .ok (.getfield 7, 3) := by decide +kernel
theorem own_dSzn0_4 : decode jdk_45_method_3_code 4 = .ok (.arraylength, 1) := by decide +kernel
theorem own_dSzn0_5 : decode jdk_45_method_3_code 5 = .ok (.ireturn, 1) := by decide +kernel
theorem own_efSzn0 (m : MethodId) (xo : Addr) : entryFrame m #[(.ref xo)] 1 = mkF m 0 #[.val (.ref xo)] [] := by first | (simp [entryFrame, mkF, argsToLocals, Value.category]; done) | rfl
def own_QSzn0 (Z : State) (xo : Addr) (xa : Addr) (ka : ClassId) (h0 : Heap) (n0 : Nat) (v : Option Value) (h : Heap) (L : List Loc) : Prop := v = some (.int (0 : Int32)) ∧ Fr n0 L ∧ h = h0
set_option maxRecDepth 65536 in
set_option maxHeartbeats 40000000 in
theorem own_rSzn0 (l : Launch) (Z : State) (a0 : Array Value) (hw : ∀ d ∈ tables_1, d.before a0 Z = true) (ws : List Jvm.Cond) (xo : Addr) (xa : Addr) (ka : ClassId) (h0 : Heap) (n0 : Nat) (Z0 : n0 ≤ h0.size) (F1 : Fld Z h0 xo "java/util/ImmutableCollections$ListN" "elements" "[Ljava/lang/Object;" (.ref xa)) (Va : own_A Z h0 xa ka (.object "java/lang/Object") []) :
    MetFree l (⟨"java/util/ImmutableCollections$ListN", "size", "()I"⟩ : MethodName) (head1 (Jvm.Cond.code (⟨"java/util/ImmutableCollections$ListN", "size", "()I"⟩ : MethodName) jdk_45_method_3_code 1 (some .int) :: ws) ({ frames := 0, cells := 0, slots := 0, locals := 0 } : Room)) (fun a U => a = #[(.ref xo)] ∧ Z.Warmed39 U.vm ∧ U.heap = h0) (fun _ _ _ _ _ => True) (fun _ U o U' => ∃ v L, o = .returned v ∧ own_QSzn0 Z xo xa ka h0 n0 v U'.heap L ∧ FrameEnd U o U' L ({ frames := 0, cells := 0, slots := 0, locals := 0 } : Room).cells ({ frames := 0, cells := 0, slots := 0, locals := 0 } : Room).slots) := by
  refine MetFree.of_bodySF (plainFor_of_name own_pn9) hisR ?_
  intro p e s m args below meth c s₁ Bd hml0 hP hK
  obtain ⟨rfl, hZ, hh⟩ := hP
  have hx := Bd.exec
  have hby := Bd.bytes
  have hml : c.maxLocals = 1 := hml0
  have hown : s.vm.findClass "java/util/ImmutableCollections$ListN" = some m.cls := findClass_of_methodNamed Bd.named
  have hnm := (name_of_methodNamed Bd.named Bd.method).1
  have X0 : Stand p l e ({ frames := 0, cells := 0, slots := 0, locals := 0 } : Room) s m #[(.ref xo)] below meth c s₁ [] 0 0 := Stand.of_body Bd
  have e0 : s₁.heap = h0 := by rw [← hh, Bd.state]; rfl
  have N0 := Fr.nil n0
  show own_F p e below (fun o U' => ∃ v L, o = .returned v ∧ own_QSzn0 Z xo xa ka h0 n0 v U'.heap L ∧ FrameEnd s o U' L ({ frames := 0, cells := 0, slots := 0, locals := 0 } : Room).cells ({ frames := 0, cells := 0, slots := 0, locals := 0 } : Room).slots) s₁ (entryFrame m #[(.ref xo)] 1)
  rw [own_efSzn0 m xo]
  refine own_go (T' := s₁) (g' := (mkF m 1 #[.val (.ref xo)] [(.ref xo)])) (fun _ k => XS.aloadN X0.here hx rfl (hb hby own_dSzn0_0) rfl rfl k) ?_
  obtain ⟨T1, X1, e1, st1⟩ := getF X0 hx hZ hown (host := "") (Or.inl (hw _ (List.mem_of_getElem? (i := 103) rfl))) Via.refl e0 F1 (g := (mkF m 1 #[.val (.ref xo)] [(.ref xo)])) rfl rfl (hb hby own_dSzn0_1)
  refine own_go (T' := T1) (g' := (mkF m 4 #[.val (.ref xo)] [(.ref xa)])) (fun _ k => st1 _ k) ?_
  refine own_go (T' := T1) (g' := (mkF m 5 #[.val (.ref xo)] [(.int (0 : Int32))])) (fun _ k => own_alen X1 hx hZ e1 Va (g := (mkF m 4 #[.val (.ref xo)] [(.ref xa)])) rfl rfl (hb hby own_dSzn0_4) (n := (0 : Int32)) rfl k) ?_
  obtain ⟨fs, hr, hrun, hended, hW, hsame⟩ := X1.leave (v := some (.int (0 : Int32))) (fun h => by rw [Bd.returns] at h; cases h)
  refine own_end (retOut X1 hx Bd.returns rfl (Or.inl ⟨rfl, Or.inl rfl, _, rfl⟩) (hb hby own_dSzn0_5) hr) hrun hended ⟨_, _, rfl, (?_ : own_QSzn0 Z xo xa ka h0 n0 _ T1.heap _), ⟨_, rfl⟩, hW, hsame.mono (by decide) (by decide)⟩
  rw [e1]
  exact ⟨rfl, N0, rfl⟩
theorem own_dSzn3_0 : decode jdk_45_method_3_code 0 = .ok (.aload_n 0, 1) := by decide +kernel
theorem own_dSzn3_1 : decode jdk_45_method_3_code 1 = .ok (.getfield 7, 3) := by decide +kernel
theorem own_dSzn3_4 : decode jdk_45_method_3_code 4 = .ok (.arraylength, 1) := by decide +kernel
theorem own_dSzn3_5 : decode jdk_45_method_3_code 5 = .ok (.ireturn, 1) := by decide +kernel
theorem own_efSzn3 (m : MethodId) (xo : Addr) : entryFrame m #[(.ref xo)] 1 = mkF m 0 #[.val (.ref xo)] [] := by first | (simp [entryFrame, mkF, argsToLocals, Value.category]; done) | rfl
def own_QSzn3 (Z : State) (xo : Addr) (xa : Addr) (ka : ClassId) (y0 : Addr) (y1 : Addr) (y2 : Addr) (h0 : Heap) (n0 : Nat) (v : Option Value) (h : Heap) (L : List Loc) : Prop := v = some (.int (3 : Int32)) ∧ Fr n0 L ∧ h = h0
set_option maxRecDepth 65536 in
set_option maxHeartbeats 40000000 in
theorem own_rSzn3 (l : Launch) (Z : State) (a0 : Array Value) (hw : ∀ d ∈ tables_1, d.before a0 Z = true) (ws : List Jvm.Cond) (xo : Addr) (xa : Addr) (ka : ClassId) (y0 : Addr) (y1 : Addr) (y2 : Addr) (h0 : Heap) (n0 : Nat) (Z0 : n0 ≤ h0.size) (F1 : Fld Z h0 xo "java/util/ImmutableCollections$ListN" "elements" "[Ljava/lang/Object;" (.ref xa)) (Va : own_A Z h0 xa ka (.object "java/lang/Object") [(.ref y0), (.ref y1), (.ref y2)]) :
    MetFree l (⟨"java/util/ImmutableCollections$ListN", "size", "()I"⟩ : MethodName) (head1 (Jvm.Cond.code (⟨"java/util/ImmutableCollections$ListN", "size", "()I"⟩ : MethodName) jdk_45_method_3_code 1 (some .int) :: ws) ({ frames := 0, cells := 0, slots := 0, locals := 0 } : Room)) (fun a U => a = #[(.ref xo)] ∧ Z.Warmed39 U.vm ∧ U.heap = h0) (fun _ _ _ _ _ => True) (fun _ U o U' => ∃ v L, o = .returned v ∧ own_QSzn3 Z xo xa ka y0 y1 y2 h0 n0 v U'.heap L ∧ FrameEnd U o U' L ({ frames := 0, cells := 0, slots := 0, locals := 0 } : Room).cells ({ frames := 0, cells := 0, slots := 0, locals := 0 } : Room).slots) := by
  refine MetFree.of_bodySF (plainFor_of_name own_pn9) hisR ?_
  intro p e s m args below meth c s₁ Bd hml0 hP hK
  obtain ⟨rfl, hZ, hh⟩ := hP
  have hx := Bd.exec
  have hby := Bd.bytes
  have hml : c.maxLocals = 1 := hml0
  have hown : s.vm.findClass "java/util/ImmutableCollections$ListN" = some m.cls := findClass_of_methodNamed Bd.named
  have hnm := (name_of_methodNamed Bd.named Bd.method).1
  have X0 : Stand p l e ({ frames := 0, cells := 0, slots := 0, locals := 0 } : Room) s m #[(.ref xo)] below meth c s₁ [] 0 0 := Stand.of_body Bd
  have e0 : s₁.heap = h0 := by rw [← hh, Bd.state]; rfl
  have N0 := Fr.nil n0
  show own_F p e below (fun o U' => ∃ v L, o = .returned v ∧ own_QSzn3 Z xo xa ka y0 y1 y2 h0 n0 v U'.heap L ∧ FrameEnd s o U' L ({ frames := 0, cells := 0, slots := 0, locals := 0 } : Room).cells ({ frames := 0, cells := 0, slots := 0, locals := 0 } : Room).slots) s₁ (entryFrame m #[(.ref xo)] 1)
  rw [own_efSzn3 m xo]
  refine own_go (T' := s₁) (g' := (mkF m 1 #[.val (.ref xo)] [(.ref xo)])) (fun _ k => XS.aloadN X0.here hx rfl (hb hby own_dSzn3_0) rfl rfl k) ?_
  obtain ⟨T1, X1, e1, st1⟩ := getF X0 hx hZ hown (host := "") (Or.inl (hw _ (List.mem_of_getElem? (i := 103) rfl))) Via.refl e0 F1 (g := (mkF m 1 #[.val (.ref xo)] [(.ref xo)])) rfl rfl (hb hby own_dSzn3_1)
  refine own_go (T' := T1) (g' := (mkF m 4 #[.val (.ref xo)] [(.ref xa)])) (fun _ k => st1 _ k) ?_
  refine own_go (T' := T1) (g' := (mkF m 5 #[.val (.ref xo)] [(.int (3 : Int32))])) (fun _ k => own_alen X1 hx hZ e1 Va (g := (mkF m 4 #[.val (.ref xo)] [(.ref xa)])) rfl rfl (hb hby own_dSzn3_4) (n := (3 : Int32)) rfl k) ?_
  obtain ⟨fs, hr, hrun, hended, hW, hsame⟩ := X1.leave (v := some (.int (3 : Int32))) (fun h => by rw [Bd.returns] at h; cases h)
  refine own_end (retOut X1 hx Bd.returns rfl (Or.inl ⟨rfl, Or.inl rfl, _, rfl⟩) (hb hby own_dSzn3_5) hr) hrun hended ⟨_, _, rfl, (?_ : own_QSzn3 Z xo xa ka y0 y1 y2 h0 n0 _ T1.heap _), ⟨_, rfl⟩, hW, hsame.mono (by decide) (by decide)⟩
  rw [e1]
  exact ⟨rfl, N0, rfl⟩
theorem own_dGt0_0 : decode jdk_44_method_5_code 0 = .ok (.iload_n 1, 1) := by decide +kernel
theorem own_dGt0_1 : decode jdk_44_method_5_code 1 = .ok (.ifCond .ne 8, 3) := by decide +kernel
theorem own_dGt0_4 : decode jdk_44_method_5_code 4 = .ok (.aload_n 0, 1) := by decide +kernel
theorem own_dGt0_5 : decode jdk_44_method_5_code 5 = .ok (.getfield 13, 3) := by decide +kernel
theorem own_dGt0_8 : decode jdk_44_method_5_code 8 = .ok (.areturn, 1) := by decide +kernel
theorem own_efGt0 (m : MethodId) (xo : Addr) : entryFrame m #[(.ref xo), (.int (0 : Int32))] 2 = mkF m 0 #[.val (.ref xo), .val (.int (0 : Int32))] [] := by first | (simp [entryFrame, mkF, argsToLocals, Value.category]; done) | rfl
def own_QGt0 (Z : State) (xo : Addr) (y0 : Addr) (h0 : Heap) (n0 : Nat) (v : Option Value) (h : Heap) (L : List Loc) : Prop := v = some (.ref y0) ∧ Fr n0 L ∧ h = h0
set_option maxRecDepth 65536 in
set_option maxHeartbeats 40000000 in
theorem own_rGt0 (l : Launch) (Z : State) (a0 : Array Value) (hw : ∀ d ∈ tables_1, d.before a0 Z = true) (ws : List Jvm.Cond) (xo : Addr) (y0 : Addr) (h0 : Heap) (n0 : Nat) (Z0 : n0 ≤ h0.size) (F0 : Fld Z h0 xo "java/util/ImmutableCollections$List12" "e0" "Ljava/lang/Object;" (.ref y0)) :
    MetFree l (⟨"java/util/ImmutableCollections$List12", "get", "(I)Ljava/lang/Object;"⟩ : MethodName) (head1 (Jvm.Cond.code (⟨"java/util/ImmutableCollections$List12", "get", "(I)Ljava/lang/Object;"⟩ : MethodName) jdk_44_method_5_code 2 (some (.object "java/lang/Object")) :: ws) ({ frames := 0, cells := 0, slots := 0, locals := 0 } : Room)) (fun a U => a = #[(.ref xo), (.int (0 : Int32))] ∧ Z.Warmed39 U.vm ∧ U.heap = h0) (fun _ _ _ _ _ => True) (fun _ U o U' => ∃ v L, o = .returned v ∧ own_QGt0 Z xo y0 h0 n0 v U'.heap L ∧ FrameEnd U o U' L ({ frames := 0, cells := 0, slots := 0, locals := 0 } : Room).cells ({ frames := 0, cells := 0, slots := 0, locals := 0 } : Room).slots) := by
  refine MetFree.of_bodySF (plainFor_of_name own_pn8) hisR ?_
  intro p e s m args below meth c s₁ Bd hml0 hP hK
  obtain ⟨rfl, hZ, hh⟩ := hP
  have hx := Bd.exec
  have hby := Bd.bytes
  have hml : c.maxLocals = 2 := hml0
  have hown : s.vm.findClass "java/util/ImmutableCollections$List12" = some m.cls := findClass_of_methodNamed Bd.named
  have hnm := (name_of_methodNamed Bd.named Bd.method).1
  have X0 : Stand p l e ({ frames := 0, cells := 0, slots := 0, locals := 0 } : Room) s m #[(.ref xo), (.int (0 : Int32))] below meth c s₁ [] 0 0 := Stand.of_body Bd
  have e0 : s₁.heap = h0 := by rw [← hh, Bd.state]; rfl
  have N0 := Fr.nil n0
  show own_F p e below (fun o U' => ∃ v L, o = .returned v ∧ own_QGt0 Z xo y0 h0 n0 v U'.heap L ∧ FrameEnd s o U' L ({ frames := 0, cells := 0, slots := 0, locals := 0 } : Room).cells ({ frames := 0, cells := 0, slots := 0, locals := 0 } : Room).slots) s₁ (entryFrame m #[(.ref xo), (.int (0 : Int32))] 2)
  rw [own_efGt0 m xo]
  refine own_go (T' := s₁) (g' := (mkF m 1 #[.val (.ref xo), .val (.int (0 : Int32))] [(.int (0 : Int32))])) (fun _ k => XS.iloadN X0.here hx rfl (hb hby own_dGt0_0) rfl k) ?_
  refine own_go (T' := s₁) (g' := (mkF m 4 #[.val (.ref xo), .val (.int (0 : Int32))] [])) (fun _ k => XS.ifNo X0.here hx rfl (hb hby own_dGt0_1) rfl ((if0 _ _).trans (teq ((by decide) : (0 : Int32) = (0 : Int32))).2) k) ?_
  refine own_go (T' := s₁) (g' := (mkF m 5 #[.val (.ref xo), .val (.int (0 : Int32))] [(.ref xo)])) (fun _ k => XS.aloadN X0.here hx rfl (hb hby own_dGt0_4) rfl rfl k) ?_
  obtain ⟨T1, X1, e1, st1⟩ := getF X0 hx hZ hown (host := "") (Or.inl (hw _ (List.mem_of_getElem? (i := 208) rfl))) Via.refl e0 F0 (g := (mkF m 5 #[.val (.ref xo), .val (.int (0 : Int32))] [(.ref xo)])) rfl rfl (hb hby own_dGt0_5)
  refine own_go (T' := T1) (g' := (mkF m 8 #[.val (.ref xo), .val (.int (0 : Int32))] [(.ref y0)])) (fun _ k => st1 _ k) ?_
  obtain ⟨fs, hr, hrun, hended, hW, hsame⟩ := X1.leave (v := some (.ref y0)) (fun h => by rw [Bd.returns] at h; cases h)
  refine own_end (retOut X1 hx Bd.returns rfl (Or.inr (Or.inr (Or.inr (Or.inr ⟨rfl, rfl, rfl⟩)))) (hb hby own_dGt0_8) hr) hrun hended ⟨_, _, rfl, (?_ : own_QGt0 Z xo y0 h0 n0 _ T1.heap _), ⟨_, rfl⟩, hW, hsame.mono (by decide) (by decide)⟩
  rw [e1]
  exact ⟨rfl, N0, rfl⟩
theorem own_dGt1_0 : decode jdk_44_method_5_code 0 = .ok (.iload_n 1, 1) := by decide +kernel
theorem own_dGt1_1 : decode jdk_44_method_5_code 1 = .ok (.ifCond .ne 8, 3) := by decide +kernel
theorem own_dGt1_9 : decode jdk_44_method_5_code 9 = .ok (.iload_n 1, 1) := by decide +kernel
theorem own_dGt1_10 : decode jdk_44_method_5_code 10 = .ok (.iconst 1, 1) := by decide +kernel
theorem own_dGt1_11 : decode jdk_44_method_5_code 11 = .ok (.if_icmp .ne 18, 3) := by decide +kernel
theorem own_dGt1_14 : decode jdk_44_method_5_code 14 = .ok (.aload_n 0, 1) := by decide +kernel
theorem own_dGt1_15 : decode jdk_44_method_5_code 15 = .ok (.getfield 24, 3) := by decide +kernel
theorem own_dGt1_18 : decode jdk_44_method_5_code 18 = .ok (.getstatic 19, 3) := by decide +kernel
theorem own_dGt1_21 : decode jdk_44_method_5_code 21 = .ok (.if_acmp .eq 8, 3) := by decide +kernel
theorem own_dGt1_24 : decode jdk_44_method_5_code 24 = .ok (.aload_n 0, 1) := by decide +kernel
theorem own_dGt1_25 : decode jdk_44_method_5_code 25 = .ok (.getfield 24, 3) := by decide +kernel
theorem own_dGt1_28 : decode jdk_44_method_5_code 28 = .ok (.areturn, 1) := by decide +kernel
theorem own_efGt1 (m : MethodId) (xo : Addr) : entryFrame m #[(.ref xo), (.int (1 : Int32))] 2 = mkF m 0 #[.val (.ref xo), .val (.int (1 : Int32))] [] := by first | (simp [entryFrame, mkF, argsToLocals, Value.category]; done) | rfl
def own_QGt1 (Z : State) (xo : Addr) (xq : Addr) (x1 : Addr) (h0 : Heap) (n0 : Nat) (v : Option Value) (h : Heap) (L : List Loc) : Prop := v = some (.ref x1) ∧ Fr n0 L ∧ h = h0
set_option maxRecDepth 65536 in
set_option maxHeartbeats 40000000 in
theorem own_rGt1 (l : Launch) (Z : State) (a0 : Array Value) (hw : ∀ d ∈ tables_1, d.before a0 Z = true) (ws : List Jvm.Cond) (xo : Addr) (xq : Addr) (x1 : Addr) (h0 : Heap) (n0 : Nat) (Z0 : n0 ≤ h0.size) (F1 : Fld Z h0 xo "java/util/ImmutableCollections$List12" "e1" "Ljava/lang/Object;" (.ref x1)) (Sq : Sta Z h0 "java/util/ImmutableCollections" "EMPTY" "Ljava/lang/Object;" (.ref xq)) (hq : ¬ x1 = xq) :
    MetFree l (⟨"java/util/ImmutableCollections$List12", "get", "(I)Ljava/lang/Object;"⟩ : MethodName) (head1 (Jvm.Cond.code (⟨"java/util/ImmutableCollections$List12", "get", "(I)Ljava/lang/Object;"⟩ : MethodName) jdk_44_method_5_code 2 (some (.object "java/lang/Object")) :: ws) ({ frames := 0, cells := 0, slots := 0, locals := 0 } : Room)) (fun a U => a = #[(.ref xo), (.int (1 : Int32))] ∧ Z.Warmed39 U.vm ∧ U.heap = h0) (fun _ _ _ _ _ => True) (fun _ U o U' => ∃ v L, o = .returned v ∧ own_QGt1 Z xo xq x1 h0 n0 v U'.heap L ∧ FrameEnd U o U' L ({ frames := 0, cells := 0, slots := 0, locals := 0 } : Room).cells ({ frames := 0, cells := 0, slots := 0, locals := 0 } : Room).slots) := by
  refine MetFree.of_bodySF (plainFor_of_name own_pn8) hisR ?_
  intro p e s m args below meth c s₁ Bd hml0 hP hK
  obtain ⟨rfl, hZ, hh⟩ := hP
  have hx := Bd.exec
  have hby := Bd.bytes
  have hml : c.maxLocals = 2 := hml0
  have hown : s.vm.findClass "java/util/ImmutableCollections$List12" = some m.cls := findClass_of_methodNamed Bd.named
  have hnm := (name_of_methodNamed Bd.named Bd.method).1
  have X0 : Stand p l e ({ frames := 0, cells := 0, slots := 0, locals := 0 } : Room) s m #[(.ref xo), (.int (1 : Int32))] below meth c s₁ [] 0 0 := Stand.of_body Bd
  have e0 : s₁.heap = h0 := by rw [← hh, Bd.state]; rfl
  have N0 := Fr.nil n0
  show own_F p e below (fun o U' => ∃ v L, o = .returned v ∧ own_QGt1 Z xo xq x1 h0 n0 v U'.heap L ∧ FrameEnd s o U' L ({ frames := 0, cells := 0, slots := 0, locals := 0 } : Room).cells ({ frames := 0, cells := 0, slots := 0, locals := 0 } : Room).slots) s₁ (entryFrame m #[(.ref xo), (.int (1 : Int32))] 2)
  rw [own_efGt1 m xo]
  refine own_go (T' := s₁) (g' := (mkF m 1 #[.val (.ref xo), .val (.int (1 : Int32))] [(.int (1 : Int32))])) (fun _ k => XS.iloadN X0.here hx rfl (hb hby own_dGt1_0) rfl k) ?_
  refine own_go (T' := s₁) (g' := (mkF m 9 #[.val (.ref xo), .val (.int (1 : Int32))] [])) (fun _ k => XS.ifYes X0.here hx rfl (pc0 := 1) (pc' := 9) rfl (hb hby own_dGt1_1) rfl ((if0 _ _).trans (feq ((by decide) : ¬ ((1 : Int32) = (0 : Int32)))).2) (by decide) (by decide) k) ?_
  refine own_go (T' := s₁) (g' := (mkF m 10 #[.val (.ref xo), .val (.int (1 : Int32))] [(.int (1 : Int32))])) (fun _ k => XS.iloadN X0.here hx rfl (hb hby own_dGt1_9) rfl k) ?_
  refine own_go (T' := s₁) (g' := (mkF m 11 #[.val (.ref xo), .val (.int (1 : Int32))] [(.int (1 : Int32)), (.int (1 : Int32))])) (fun _ k => XS.iconst X0.here hx rfl (hb hby own_dGt1_10) k) ?_
  refine own_go (T' := s₁) (g' := (mkF m 14 #[.val (.ref xo), .val (.int (1 : Int32))] [])) (fun _ k => XS.icmpNo X0.here hx rfl (hb hby own_dGt1_11) rfl (teq ((by decide) : (1 : Int32) = (1 : Int32))).2 k) ?_
  refine own_go (T' := s₁) (g' := (mkF m 15 #[.val (.ref xo), .val (.int (1 : Int32))] [(.ref xo)])) (fun _ k => XS.aloadN X0.here hx rfl (hb hby own_dGt1_14) rfl rfl k) ?_
  obtain ⟨T1, X1, e1, st1⟩ := getF X0 hx hZ hown (host := "") (Or.inl (hw _ (List.mem_of_getElem? (i := 211) rfl))) Via.refl e0 F1 (g := (mkF m 15 #[.val (.ref xo), .val (.int (1 : Int32))] [(.ref xo)])) rfl rfl (hb hby own_dGt1_15)
  refine own_go (T' := T1) (g' := (mkF m 18 #[.val (.ref xo), .val (.int (1 : Int32))] [(.ref x1)])) (fun _ k => st1 _ k) ?_
  obtain ⟨T2, X2, e2, st2⟩ := getS2 X1 hx hZ hown (Or.inr (hw _ (List.mem_of_getElem? (i := 210) rfl))) Via.refl e1 Sq (g := (mkF m 18 #[.val (.ref xo), .val (.int (1 : Int32))] [(.ref x1)])) rfl (hb hby own_dGt1_18)
  refine own_go (T' := T2) (g' := (mkF m 21 #[.val (.ref xo), .val (.int (1 : Int32))] [(.ref xq), (.ref x1)])) (fun _ k => st2 _ k) ?_
  refine own_go (T' := T2) (g' := (mkF m 24 #[.val (.ref xo), .val (.int (1 : Int32))] [])) (fun _ k => Jvm.RoadKit.acmp (g := (mkF m 21 #[.val (.ref xo), .val (.int (1 : Int32))] [(.ref xq), (.ref x1)])) X2 hx rfl rfl rfl (pc0 := 21) (pc' := 24) (same := false) rfl (hb hby own_dGt1_21) rfl (decide_eq_false fun q => hq (Value.ref.inj q)) (by decide) (by decide) k) ?_
  refine own_go (T' := T2) (g' := (mkF m 25 #[.val (.ref xo), .val (.int (1 : Int32))] [(.ref xo)])) (fun _ k => XS.aloadN X2.here hx rfl (hb hby own_dGt1_24) rfl rfl k) ?_
  obtain ⟨T3, X3, e3, st3⟩ := getF X2 hx hZ hown (host := "") (Or.inl (hw _ (List.mem_of_getElem? (i := 211) rfl))) Via.refl e2 F1 (g := (mkF m 25 #[.val (.ref xo), .val (.int (1 : Int32))] [(.ref xo)])) rfl rfl (hb hby own_dGt1_25)
  refine own_go (T' := T3) (g' := (mkF m 28 #[.val (.ref xo), .val (.int (1 : Int32))] [(.ref x1)])) (fun _ k => st3 _ k) ?_
  obtain ⟨fs, hr, hrun, hended, hW, hsame⟩ := X3.leave (v := some (.ref x1)) (fun h => by rw [Bd.returns] at h; cases h)
  refine own_end (retOut X3 hx Bd.returns rfl (Or.inr (Or.inr (Or.inr (Or.inr ⟨rfl, rfl, rfl⟩)))) (hb hby own_dGt1_28) hr) hrun hended ⟨_, _, rfl, (?_ : own_QGt1 Z xo xq x1 h0 n0 _ T3.heap _), ⟨_, rfl⟩, hW, hsame.mono (by decide) (by decide)⟩
  rw [e3]
  exact ⟨rfl, N0, rfl⟩
theorem own_dGn0_0 : decode jdk_45_method_4_code 0 = .ok (.aload_n 0, 1) := by decide +kernel
theorem own_dGn0_1 : decode jdk_45_method_4_code 1 = .ok (.getfield 7, 3) := by decide +kernel
theorem own_dGn0_4 : decode jdk_45_method_4_code 4 = .ok (.iload_n 1, 1) := by decide +kernel
theorem own_dGn0_5 : decode jdk_45_method_4_code 5 = .ok (.aaload, 1) := by decide +kernel
theorem own_dGn0_6 : decode jdk_45_method_4_code 6 = .ok (.areturn, 1) := by decide +kernel
theorem own_efGn0 (m : MethodId) (xo : Addr) : entryFrame m #[(.ref xo), (.int (0 : Int32))] 2 = mkF m 0 #[.val (.ref xo), .val (.int (0 : Int32))] [] := by first | (simp [entryFrame, mkF, argsToLocals, Value.category]; done) | rfl
def own_QGn0 (Z : State) (xo : Addr) (xa : Addr) (ka : ClassId) (y0 : Addr) (y1 : Addr) (y2 : Addr) (h0 : Heap) (n0 : Nat) (v : Option Value) (h : Heap) (L : List Loc) : Prop := v = some (.ref y0) ∧ Fr n0 L ∧ h = h0
set_option maxRecDepth 65536 in
set_option maxHeartbeats 40000000 in
theorem own_rGn0 (l : Launch) (Z : State) (a0 : Array Value) (hw : ∀ d ∈ tables_1, d.before a0 Z = true) (ws : List Jvm.Cond) (xo : Addr) (xa : Addr) (ka : ClassId) (y0 : Addr) (y1 : Addr) (y2 : Addr) (h0 : Heap) (n0 : Nat) (Z0 : n0 ≤ h0.size) (F1 : Fld Z h0 xo "java/util/ImmutableCollections$ListN" "elements" "[Ljava/lang/Object;" (.ref xa)) (Va : own_A Z h0 xa ka (.object "java/lang/Object") [(.ref y0), (.ref y1), (.ref y2)]) :
    MetFree l (⟨"java/util/ImmutableCollections$ListN", "get", "(I)Ljava/lang/Object;"⟩ : MethodName) (head1 (Jvm.Cond.code (⟨"java/util/ImmutableCollections$ListN", "get", "(I)Ljava/lang/Object;"⟩ : MethodName) jdk_45_method_4_code 2 (some (.object "java/lang/Object")) :: ws) ({ frames := 0, cells := 0, slots := 0, locals := 0 } : Room)) (fun a U => a = #[(.ref xo), (.int (0 : Int32))] ∧ Z.Warmed39 U.vm ∧ U.heap = h0) (fun _ _ _ _ _ => True) (fun _ U o U' => ∃ v L, o = .returned v ∧ own_QGn0 Z xo xa ka y0 y1 y2 h0 n0 v U'.heap L ∧ FrameEnd U o U' L ({ frames := 0, cells := 0, slots := 0, locals := 0 } : Room).cells ({ frames := 0, cells := 0, slots := 0, locals := 0 } : Room).slots) := by
  refine MetFree.of_bodySF (plainFor_of_name own_pn9) hisR ?_
  intro p e s m args below meth c s₁ Bd hml0 hP hK
  obtain ⟨rfl, hZ, hh⟩ := hP
  have hx := Bd.exec
  have hby := Bd.bytes
  have hml : c.maxLocals = 2 := hml0
  have hown : s.vm.findClass "java/util/ImmutableCollections$ListN" = some m.cls := findClass_of_methodNamed Bd.named
  have hnm := (name_of_methodNamed Bd.named Bd.method).1
  have X0 : Stand p l e ({ frames := 0, cells := 0, slots := 0, locals := 0 } : Room) s m #[(.ref xo), (.int (0 : Int32))] below meth c s₁ [] 0 0 := Stand.of_body Bd
  have e0 : s₁.heap = h0 := by rw [← hh, Bd.state]; rfl
  have N0 := Fr.nil n0
  show own_F p e below (fun o U' => ∃ v L, o = .returned v ∧ own_QGn0 Z xo xa ka y0 y1 y2 h0 n0 v U'.heap L ∧ FrameEnd s o U' L ({ frames := 0, cells := 0, slots := 0, locals := 0 } : Room).cells ({ frames := 0, cells := 0, slots := 0, locals := 0 } : Room).slots) s₁ (entryFrame m #[(.ref xo), (.int (0 : Int32))] 2)
  rw [own_efGn0 m xo]
  refine own_go (T' := s₁) (g' := (mkF m 1 #[.val (.ref xo), .val (.int (0 : Int32))] [(.ref xo)])) (fun _ k => XS.aloadN X0.here hx rfl (hb hby own_dGn0_0) rfl rfl k) ?_
  obtain ⟨T1, X1, e1, st1⟩ := getF X0 hx hZ hown (host := "") (Or.inl (hw _ (List.mem_of_getElem? (i := 103) rfl))) Via.refl e0 F1 (g := (mkF m 1 #[.val (.ref xo), .val (.int (0 : Int32))] [(.ref xo)])) rfl rfl (hb hby own_dGn0_1)
  refine own_go (T' := T1) (g' := (mkF m 4 #[.val (.ref xo), .val (.int (0 : Int32))] [(.ref xa)])) (fun _ k => st1 _ k) ?_
  refine own_go (T' := T1) (g' := (mkF m 5 #[.val (.ref xo), .val (.int (0 : Int32))] [(.int (0 : Int32)), (.ref xa)])) (fun _ k => XS.iloadN X1.here hx rfl (hb hby own_dGn0_4) rfl k) ?_
  refine own_go (T' := T1) (g' := (mkF m 6 #[.val (.ref xo), .val (.int (0 : Int32))] [(.ref y0)])) (fun _ k => own_aaload X1 hx hZ e1 Va (j := (0 : Int32)) (v := (.ref y0)) (by decide) rfl rfl (g := (mkF m 5 #[.val (.ref xo), .val (.int (0 : Int32))] [(.int (0 : Int32)), (.ref xa)])) rfl rfl (hb hby own_dGn0_5) k) ?_
  obtain ⟨fs, hr, hrun, hended, hW, hsame⟩ := X1.leave (v := some (.ref y0)) (fun h => by rw [Bd.returns] at h; cases h)
  refine own_end (retOut X1 hx Bd.returns rfl (Or.inr (Or.inr (Or.inr (Or.inr ⟨rfl, rfl, rfl⟩)))) (hb hby own_dGn0_6) hr) hrun hended ⟨_, _, rfl, (?_ : own_QGn0 Z xo xa ka y0 y1 y2 h0 n0 _ T1.heap _), ⟨_, rfl⟩, hW, hsame.mono (by decide) (by decide)⟩
  rw [e1]
  exact ⟨rfl, N0, rfl⟩
theorem own_dGn1_0 : decode jdk_45_method_4_code 0 = .ok (.aload_n 0, 1) := by decide +kernel
theorem own_dGn1_1 : decode jdk_45_method_4_code 1 = .ok (.getfield 7, 3) := by decide +kernel
theorem own_dGn1_4 : decode jdk_45_method_4_code 4 = .ok (.iload_n 1, 1) := by decide +kernel
theorem own_dGn1_5 : decode jdk_45_method_4_code 5 = .ok (.aaload, 1) := by decide +kernel
theorem own_dGn1_6 : decode jdk_45_method_4_code 6 = .ok (.areturn, 1) := by decide +kernel
theorem own_efGn1 (m : MethodId) (xo : Addr) : entryFrame m #[(.ref xo), (.int (1 : Int32))] 2 = mkF m 0 #[.val (.ref xo), .val (.int (1 : Int32))] [] := by first | (simp [entryFrame, mkF, argsToLocals, Value.category]; done) | rfl
def own_QGn1 (Z : State) (xo : Addr) (xa : Addr) (ka : ClassId) (y0 : Addr) (y1 : Addr) (y2 : Addr) (h0 : Heap) (n0 : Nat) (v : Option Value) (h : Heap) (L : List Loc) : Prop := v = some (.ref y1) ∧ Fr n0 L ∧ h = h0
set_option maxRecDepth 65536 in
set_option maxHeartbeats 40000000 in
theorem own_rGn1 (l : Launch) (Z : State) (a0 : Array Value) (hw : ∀ d ∈ tables_1, d.before a0 Z = true) (ws : List Jvm.Cond) (xo : Addr) (xa : Addr) (ka : ClassId) (y0 : Addr) (y1 : Addr) (y2 : Addr) (h0 : Heap) (n0 : Nat) (Z0 : n0 ≤ h0.size) (F1 : Fld Z h0 xo "java/util/ImmutableCollections$ListN" "elements" "[Ljava/lang/Object;" (.ref xa)) (Va : own_A Z h0 xa ka (.object "java/lang/Object") [(.ref y0), (.ref y1), (.ref y2)]) :
    MetFree l (⟨"java/util/ImmutableCollections$ListN", "get", "(I)Ljava/lang/Object;"⟩ : MethodName) (head1 (Jvm.Cond.code (⟨"java/util/ImmutableCollections$ListN", "get", "(I)Ljava/lang/Object;"⟩ : MethodName) jdk_45_method_4_code 2 (some (.object "java/lang/Object")) :: ws) ({ frames := 0, cells := 0, slots := 0, locals := 0 } : Room)) (fun a U => a = #[(.ref xo), (.int (1 : Int32))] ∧ Z.Warmed39 U.vm ∧ U.heap = h0) (fun _ _ _ _ _ => True) (fun _ U o U' => ∃ v L, o = .returned v ∧ own_QGn1 Z xo xa ka y0 y1 y2 h0 n0 v U'.heap L ∧ FrameEnd U o U' L ({ frames := 0, cells := 0, slots := 0, locals := 0 } : Room).cells ({ frames := 0, cells := 0, slots := 0, locals := 0 } : Room).slots) := by
  refine MetFree.of_bodySF (plainFor_of_name own_pn9) hisR ?_
  intro p e s m args below meth c s₁ Bd hml0 hP hK
  obtain ⟨rfl, hZ, hh⟩ := hP
  have hx := Bd.exec
  have hby := Bd.bytes
  have hml : c.maxLocals = 2 := hml0
  have hown : s.vm.findClass "java/util/ImmutableCollections$ListN" = some m.cls := findClass_of_methodNamed Bd.named
  have hnm := (name_of_methodNamed Bd.named Bd.method).1
  have X0 : Stand p l e ({ frames := 0, cells := 0, slots := 0, locals := 0 } : Room) s m #[(.ref xo), (.int (1 : Int32))] below meth c s₁ [] 0 0 := Stand.of_body Bd
  have e0 : s₁.heap = h0 := by rw [← hh, Bd.state]; rfl
  have N0 := Fr.nil n0
  show own_F p e below (fun o U' => ∃ v L, o = .returned v ∧ own_QGn1 Z xo xa ka y0 y1 y2 h0 n0 v U'.heap L ∧ FrameEnd s o U' L ({ frames := 0, cells := 0, slots := 0, locals := 0 } : Room).cells ({ frames := 0, cells := 0, slots := 0, locals := 0 } : Room).slots) s₁ (entryFrame m #[(.ref xo), (.int (1 : Int32))] 2)
  rw [own_efGn1 m xo]
  refine own_go (T' := s₁) (g' := (mkF m 1 #[.val (.ref xo), .val (.int (1 : Int32))] [(.ref xo)])) (fun _ k => XS.aloadN X0.here hx rfl (hb hby own_dGn1_0) rfl rfl k) ?_
  obtain ⟨T1, X1, e1, st1⟩ := getF X0 hx hZ hown (host := "") (Or.inl (hw _ (List.mem_of_getElem? (i := 103) rfl))) Via.refl e0 F1 (g := (mkF m 1 #[.val (.ref xo), .val (.int (1 : Int32))] [(.ref xo)])) rfl rfl (hb hby own_dGn1_1)
  refine own_go (T' := T1) (g' := (mkF m 4 #[.val (.ref xo), .val (.int (1 : Int32))] [(.ref xa)])) (fun _ k => st1 _ k) ?_
  refine own_go (T' := T1) (g' := (mkF m 5 #[.val (.ref xo), .val (.int (1 : Int32))] [(.int (1 : Int32)), (.ref xa)])) (fun _ k => XS.iloadN X1.here hx rfl (hb hby own_dGn1_4) rfl k) ?_
  refine own_go (T' := T1) (g' := (mkF m 6 #[.val (.ref xo), .val (.int (1 : Int32))] [(.ref y1)])) (fun _ k => own_aaload X1 hx hZ e1 Va (j := (1 : Int32)) (v := (.ref y1)) (by decide) rfl rfl (g := (mkF m 5 #[.val (.ref xo), .val (.int (1 : Int32))] [(.int (1 : Int32)), (.ref xa)])) rfl rfl (hb hby own_dGn1_5) k) ?_
  obtain ⟨fs, hr, hrun, hended, hW, hsame⟩ := X1.leave (v := some (.ref y1)) (fun h => by rw [Bd.returns] at h; cases h)
  refine own_end (retOut X1 hx Bd.returns rfl (Or.inr (Or.inr (Or.inr (Or.inr ⟨rfl, rfl, rfl⟩)))) (hb hby own_dGn1_6) hr) hrun hended ⟨_, _, rfl, (?_ : own_QGn1 Z xo xa ka y0 y1 y2 h0 n0 _ T1.heap _), ⟨_, rfl⟩, hW, hsame.mono (by decide) (by decide)⟩
  rw [e1]
  exact ⟨rfl, N0, rfl⟩
theorem own_dGn2_0 : decode jdk_45_method_4_code 0 = .ok (.aload_n 0, 1) := by decide +kernel
theorem own_dGn2_1 : decode jdk_45_method_4_code 1 = .ok (.getfield 7, 3) := by decide +kernel
theorem own_dGn2_4 : decode jdk_45_method_4_code 4 = .ok (.iload_n 1, 1) := by decide +kernel
theorem own_dGn2_5 : decode jdk_45_method_4_code 5 = .ok (.aaload, 1) := by decide +kernel
theorem own_dGn2_6 : decode jdk_45_method_4_code 6 = .ok (.areturn, 1) := by decide +kernel
theorem own_efGn2 (m : MethodId) (xo : Addr) : entryFrame m #[(.ref xo), (.int (2 : Int32))] 2 = mkF m 0 #[.val (.ref xo), .val (.int (2 : Int32))] [] := by first | (simp [entryFrame, mkF, argsToLocals, Value.category]; done) | rfl
def own_QGn2 (Z : State) (xo : Addr) (xa : Addr) (ka : ClassId) (y0 : Addr) (y1 : Addr) (y2 : Addr) (h0 : Heap) (n0 : Nat) (v : Option Value) (h : Heap) (L : List Loc) : Prop := v = some (.ref y2) ∧ Fr n0 L ∧ h = h0
set_option maxRecDepth 65536 in
set_option maxHeartbeats 40000000 in
theorem own_rGn2 (l : Launch) (Z : State) (a0 : Array Value) (hw : ∀ d ∈ tables_1, d.before a0 Z = true) (ws : List Jvm.Cond) (xo : Addr) (xa : Addr) (ka : ClassId) (y0 : Addr) (y1 : Addr) (y2 : Addr) (h0 : Heap) (n0 : Nat) (Z0 : n0 ≤ h0.size) (F1 : Fld Z h0 xo "java/util/ImmutableCollections$ListN" "elements" "[Ljava/lang/Object;" (.ref xa)) (Va : own_A Z h0 xa ka (.object "java/lang/Object") [(.ref y0), (.ref y1), (.ref y2)]) :
    MetFree l (⟨"java/util/ImmutableCollections$ListN", "get", "(I)Ljava/lang/Object;"⟩ : MethodName) (head1 (Jvm.Cond.code (⟨"java/util/ImmutableCollections$ListN", "get", "(I)Ljava/lang/Object;"⟩ : MethodName) jdk_45_method_4_code 2 (some (.object "java/lang/Object")) :: ws) ({ frames := 0, cells := 0, slots := 0, locals := 0 } : Room)) (fun a U => a = #[(.ref xo), (.int (2 : Int32))] ∧ Z.Warmed39 U.vm ∧ U.heap = h0) (fun _ _ _ _ _ => True) (fun _ U o U' => ∃ v L, o = .returned v ∧ own_QGn2 Z xo xa ka y0 y1 y2 h0 n0 v U'.heap L ∧ FrameEnd U o U' L ({ frames := 0, cells := 0, slots := 0, locals := 0 } : Room).cells ({ frames := 0, cells := 0, slots := 0, locals := 0 } : Room).slots) := by
  refine MetFree.of_bodySF (plainFor_of_name own_pn9) hisR ?_
  intro p e s m args below meth c s₁ Bd hml0 hP hK
  obtain ⟨rfl, hZ, hh⟩ := hP
  have hx := Bd.exec
  have hby := Bd.bytes
  have hml : c.maxLocals = 2 := hml0
  have hown : s.vm.findClass "java/util/ImmutableCollections$ListN" = some m.cls := findClass_of_methodNamed Bd.named
  have hnm := (name_of_methodNamed Bd.named Bd.method).1
  have X0 : Stand p l e ({ frames := 0, cells := 0, slots := 0, locals := 0 } : Room) s m #[(.ref xo), (.int (2 : Int32))] below meth c s₁ [] 0 0 := Stand.of_body Bd
  have e0 : s₁.heap = h0 := by rw [← hh, Bd.state]; rfl
  have N0 := Fr.nil n0
  show own_F p e below (fun o U' => ∃ v L, o = .returned v ∧ own_QGn2 Z xo xa ka y0 y1 y2 h0 n0 v U'.heap L ∧ FrameEnd s o U' L ({ frames := 0, cells := 0, slots := 0, locals := 0 } : Room).cells ({ frames := 0, cells := 0, slots := 0, locals := 0 } : Room).slots) s₁ (entryFrame m #[(.ref xo), (.int (2 : Int32))] 2)
  rw [own_efGn2 m xo]
  refine own_go (T' := s₁) (g' := (mkF m 1 #[.val (.ref xo), .val (.int (2 : Int32))] [(.ref xo)])) (fun _ k => XS.aloadN X0.here hx rfl (hb hby own_dGn2_0) rfl rfl k) ?_
  obtain ⟨T1, X1, e1, st1⟩ := getF X0 hx hZ hown (host := "") (Or.inl (hw _ (List.mem_of_getElem? (i := 103) rfl))) Via.refl e0 F1 (g := (mkF m 1 #[.val (.ref xo), .val (.int (2 : Int32))] [(.ref xo)])) rfl rfl (hb hby own_dGn2_1)
  refine own_go (T' := T1) (g' := (mkF m 4 #[.val (.ref xo), .val (.int (2 : Int32))] [(.ref xa)])) (fun _ k => st1 _ k) ?_
  refine own_go (T' := T1) (g' := (mkF m 5 #[.val (.ref xo), .val (.int (2 : Int32))] [(.int (2 : Int32)), (.ref xa)])) (fun _ k => XS.iloadN X1.here hx rfl (hb hby own_dGn2_4) rfl k) ?_
  refine own_go (T' := T1) (g' := (mkF m 6 #[.val (.ref xo), .val (.int (2 : Int32))] [(.ref y2)])) (fun _ k => own_aaload X1 hx hZ e1 Va (j := (2 : Int32)) (v := (.ref y2)) (by decide) rfl rfl (g := (mkF m 5 #[.val (.ref xo), .val (.int (2 : Int32))] [(.int (2 : Int32)), (.ref xa)])) rfl rfl (hb hby own_dGn2_5) k) ?_
  obtain ⟨fs, hr, hrun, hended, hW, hsame⟩ := X1.leave (v := some (.ref y2)) (fun h => by rw [Bd.returns] at h; cases h)
  refine own_end (retOut X1 hx Bd.returns rfl (Or.inr (Or.inr (Or.inr (Or.inr ⟨rfl, rfl, rfl⟩)))) (hb hby own_dGn2_6) hr) hrun hended ⟨_, _, rfl, (?_ : own_QGn2 Z xo xa ka y0 y1 y2 h0 n0 _ T1.heap _), ⟨_, rfl⟩, hW, hsame.mono (by decide) (by decide)⟩
  rw [e1]
  exact ⟨rfl, N0, rfl⟩
theorem own_pd17 : parseMethodDescriptor "()I" = some ⟨[], some .int⟩ := by decide +kernel
theorem own_dW0g_0 : decode prog_14_method_2_code 0 = .ok (.iload_n 1, 1) := by decide +kernel
theorem own_dW0g_1 : decode prog_14_method_2_code 1 = .ok (.aload_n 0, 1) := by decide +kernel
theorem own_dW0g_2 : decode prog_14_method_2_code 2 = .ok (.getfield 13, 3) := by decide +kernel
theorem own_dW0g_5 : decode prog_14_method_2_code 5 = .ok (.invokeinterface 19 1, 5) := by decide +kernel
theorem own_dW0g_10 : decode prog_14_method_2_code 10 = .ok (.if_icmp .gt 21, 3) := by decide +kernel
theorem own_dW0g_31 : decode prog_14_method_2_code 31 = .ok (.aconst_null, 1) := by decide +kernel
theorem own_dW0g_32 : decode prog_14_method_2_code 32 = .ok (.areturn, 1) := by decide +kernel
theorem own_efW0g (m : MethodId) (xo : Addr) (xn : Int32) : entryFrame m #[(.ref xo), (.int xn)] 2 = mkF m 0 #[.val (.ref xo), .val (.int xn)] [] := by first | (simp [entryFrame, mkF, argsToLocals, Value.category]; done) | rfl
def own_QW0g (Z : State) (xo : Addr) (xn : Int32) (xw : Addr) (xa : Addr) (ka : ClassId) (h0 : Heap) (n0 : Nat) (v : Option Value) (h : Heap) (L : List Loc) : Prop := v = some .null ∧ Fr n0 L ∧ h = h0
set_option maxRecDepth 65536 in
set_option maxHeartbeats 40000000 in
theorem own_rW0g (l : Launch) (Z : State) (a0 : Array Value) (hw : ∀ d ∈ tables_1, d.before a0 Z = true) (ws : List Jvm.Cond) (xo : Addr) (xn : Int32) (xw : Addr) (xa : Addr) (ka : ClassId) (h0 : Heap) (n0 : Nat) (Z0 : n0 ≤ h0.size) (Fw : Fld Z h0 xo "com/example/entrega/entrega/RetrySchedule" "waits" "Ljava/util/List;" (.ref xw)) (Ew : Exa Z h0 xw "java/util/ImmutableCollections$ListN") (F1 : Fld Z h0 xw "java/util/ImmutableCollections$ListN" "elements" "[Ljava/lang/Object;" (.ref xa)) (Va : own_A Z h0 xa ka (.object "java/lang/Object") []) (hgt : (0 : Int32) < xn) :
    MetFree l (⟨"com/example/entrega/entrega/RetrySchedule", "waitAfter", "(I)Ljava/time/Duration;"⟩ : MethodName) (head1 (Jvm.Cond.code (⟨"com/example/entrega/entrega/RetrySchedule", "waitAfter", "(I)Ljava/time/Duration;"⟩ : MethodName) prog_14_method_2_code 2 (some (.object "java/time/Duration")) :: ws) ({ frames := 1, cells := 0, slots := 0, locals := 13 } : Room)) (fun a U => a = #[(.ref xo), (.int xn)] ∧ Z.Warmed39 U.vm ∧ U.heap = h0) (fun _ _ _ _ _ => True) (fun _ U o U' => ∃ v L, o = .returned v ∧ own_QW0g Z xo xn xw xa ka h0 n0 v U'.heap L ∧ FrameEnd U o U' L ({ frames := 1, cells := 0, slots := 0, locals := 13 } : Room).cells ({ frames := 1, cells := 0, slots := 0, locals := 13 } : Room).slots) := by
  refine MetFree.of_bodySF (plainFor_of_name own_pn13) hisR ?_
  intro p e s m args below meth c s₁ Bd hml0 hP hK
  obtain ⟨rfl, hZ, hh⟩ := hP
  have hx := Bd.exec
  have hby := Bd.bytes
  have hml : c.maxLocals = 2 := hml0
  have hown : s.vm.findClass "com/example/entrega/entrega/RetrySchedule" = some m.cls := findClass_of_methodNamed Bd.named
  have hnm := (name_of_methodNamed Bd.named Bd.method).1
  have X0 : Stand p l e ({ frames := 1, cells := 0, slots := 0, locals := 13 } : Room) s m #[(.ref xo), (.int xn)] below meth c s₁ [] 0 0 := Stand.of_body Bd
  have e0 : s₁.heap = h0 := by rw [← hh, Bd.state]; rfl
  have N0 := Fr.nil n0
  show own_F p e below (fun o U' => ∃ v L, o = .returned v ∧ own_QW0g Z xo xn xw xa ka h0 n0 v U'.heap L ∧ FrameEnd s o U' L ({ frames := 1, cells := 0, slots := 0, locals := 13 } : Room).cells ({ frames := 1, cells := 0, slots := 0, locals := 13 } : Room).slots) s₁ (entryFrame m #[(.ref xo), (.int xn)] 2)
  rw [own_efW0g m xo xn]
  refine own_go (T' := s₁) (g' := (mkF m 1 #[.val (.ref xo), .val (.int xn)] [(.int xn)])) (fun _ k => XS.iloadN X0.here hx rfl (hb hby own_dW0g_0) rfl k) ?_
  refine own_go (T' := s₁) (g' := (mkF m 2 #[.val (.ref xo), .val (.int xn)] [(.ref xo), (.int xn)])) (fun _ k => XS.aloadN X0.here hx rfl (hb hby own_dW0g_1) rfl rfl k) ?_
  obtain ⟨T1, X1, e1, st1⟩ := getF X0 hx hZ hown (host := "") (Or.inl (hw _ (List.mem_of_getElem? (i := 85) rfl))) Via.refl e0 Fw (g := (mkF m 2 #[.val (.ref xo), .val (.int xn)] [(.ref xo), (.int xn)])) rfl rfl (hb hby own_dW0g_2)
  refine own_go (T' := T1) (g' := (mkF m 5 #[.val (.ref xo), .val (.int xn)] [(.ref xw), (.int xn)])) (fun _ k => st1 _ k) ?_
  obtain ⟨cq2, kq2, q2a, q2b, q2c⟩ := isOf hZ e1 Ew
  obtain ⟨_, _, ⟨T2, L2, k2, n2⟩, -, X2, ⟨Lc2, hQ2, l2, y2, z2⟩, st2⟩ := X1.interfaceBack hx (xi := (⟨"java/util/List", "size", "()I"⟩ : MethodName)) (y := (⟨"java/util/ImmutableCollections$ListN", "size", "()I"⟩ : MethodName)) hown (mvT hZ (hw _ (List.mem_of_getElem? (i := 93) rfl))) (mvT hZ (hw _ (List.mem_of_getElem? (i := 94) rfl))) (mvT hZ (hw _ (List.mem_of_getElem? (i := 95) rfl))) (mvT hZ (hw _ (List.mem_of_getElem? (i := 96) rfl))) (mvT hZ (hw _ (List.mem_of_getElem? (i := 97) rfl))) (mvT hZ (hw _ (List.mem_of_getElem? (i := 98) rfl))) (mvT hZ (hw _ (List.mem_of_getElem? (i := 99) rfl))) (mvT hZ (hw _ (List.mem_of_getElem? (i := 100) rfl))) (by decide) (backOf (W := 1) (own_rSzn0 l Z a0 hw [] xw xa ka h0 n0 Z0 F1 Va) hZ (hw _ (List.mem_of_getElem? (i := 102) rfl)) (hw _ (List.mem_of_getElem? (i := 101) rfl)) (by decide) (by decide)) q2a q2b q2c (g := (mkF m 5 #[.val (.ref xo), .val (.int xn)] [(.ref xw), (.int xn)])) rfl (by rw [hml]; rfl) (Steps.refl _) (argsL := []) (rest := [(.int xn)]) (lenOf own_pd17 rfl) rfl (by show 2 * 0 + _ ≤ _; exact Nat.le_of_eq rfl) (hb hby own_dW0g_5) (fun _ _ => ⟨rfl, e1, (by decide : 0 + 0 ≤ _), (by decide : 0 + 0 ≤ _)⟩)
  dsimp only [Pt.U, Pt.locs, Pt.cells, Pt.slots] at X2 l2 y2 z2 st2 hQ2
  subst l2 y2 z2
  obtain ⟨rfl, N2q, e2⟩ := hQ2
  have N2 := Fr.app N0 N2q
  refine own_goT (T' := T2) (g' := (mkF m 10 #[.val (.ref xo), .val (.int xn)] [(.int (0 : Int32)), (.int xn)])) st2 ?_
  refine own_go (T' := T2) (g' := (mkF m 31 #[.val (.ref xo), .val (.int xn)] [])) (fun _ k => XS.icmpYes X2.here hx rfl (pc0 := 10) (pc' := 31) rfl (hb hby own_dW0g_10) rfl (tlt (hgt : (0 : Int32) < xn)).2.2.1 (by decide) (by decide) k) ?_
  refine own_go (T' := T2) (g' := (mkF m 32 #[.val (.ref xo), .val (.int xn)] [.null])) (fun _ k => XS.aconstNull X2.here hx rfl (hb hby own_dW0g_31) k) ?_
  obtain ⟨fs, hr, hrun, hended, hW, hsame⟩ := X2.leave (v := some .null) (fun h => by rw [Bd.returns] at h; cases h)
  refine own_end (retOut X2 hx Bd.returns rfl (Or.inr (Or.inr (Or.inr (Or.inr ⟨rfl, rfl, rfl⟩)))) (hb hby own_dW0g_32) hr) hrun hended ⟨_, _, rfl, (?_ : own_QW0g Z xo xn xw xa ka h0 n0 _ T2.heap _), ⟨_, rfl⟩, hW, hsame.mono (by decide) (by decide)⟩
  rw [e2]
  exact ⟨rfl, N2, rfl⟩
theorem own_dW1g_0 : decode prog_14_method_2_code 0 = .ok (.iload_n 1, 1) := by decide +kernel
theorem own_dW1g_1 : decode prog_14_method_2_code 1 = .ok (.aload_n 0, 1) := by decide +kernel
theorem own_dW1g_2 : decode prog_14_method_2_code 2 = .ok (.getfield 13, 3) := by decide +kernel
theorem own_dW1g_5 : decode prog_14_method_2_code 5 = .ok (.invokeinterface 19 1, 5) := by decide +kernel
theorem own_dW1g_10 : decode prog_14_method_2_code 10 = .ok (.if_icmp .gt 21, 3) := by decide +kernel
theorem own_dW1g_31 : decode prog_14_method_2_code 31 = .ok (.aconst_null, 1) := by decide +kernel
theorem own_dW1g_32 : decode prog_14_method_2_code 32 = .ok (.areturn, 1) := by decide +kernel
theorem own_efW1g (m : MethodId) (xo : Addr) (xn : Int32) : entryFrame m #[(.ref xo), (.int xn)] 2 = mkF m 0 #[.val (.ref xo), .val (.int xn)] [] := by first | (simp [entryFrame, mkF, argsToLocals, Value.category]; done) | rfl
def own_QW1g (Z : State) (xo : Addr) (xn : Int32) (xw : Addr) (xq : Addr) (x1 : Addr) (y0 : Addr) (h0 : Heap) (n0 : Nat) (v : Option Value) (h : Heap) (L : List Loc) : Prop := v = some .null ∧ Fr n0 L ∧ h = h0
set_option maxRecDepth 65536 in
set_option maxHeartbeats 40000000 in
theorem own_rW1g (l : Launch) (Z : State) (a0 : Array Value) (hw : ∀ d ∈ tables_1, d.before a0 Z = true) (ws : List Jvm.Cond) (xo : Addr) (xn : Int32) (xw : Addr) (xq : Addr) (x1 : Addr) (y0 : Addr) (h0 : Heap) (n0 : Nat) (Z0 : n0 ≤ h0.size) (Fw : Fld Z h0 xo "com/example/entrega/entrega/RetrySchedule" "waits" "Ljava/util/List;" (.ref xw)) (Ew : Exa Z h0 xw "java/util/ImmutableCollections$List12") (F0 : Fld Z h0 xw "java/util/ImmutableCollections$List12" "e0" "Ljava/lang/Object;" (.ref y0)) (F1 : Fld Z h0 xw "java/util/ImmutableCollections$List12" "e1" "Ljava/lang/Object;" (.ref x1)) (Sq : Sta Z h0 "java/util/ImmutableCollections" "EMPTY" "Ljava/lang/Object;" (.ref xq)) (hq : x1 = xq) (Ey0 : Exa Z h0 y0 "java/time/Duration") (hgt : (1 : Int32) < xn) :
    MetFree l (⟨"com/example/entrega/entrega/RetrySchedule", "waitAfter", "(I)Ljava/time/Duration;"⟩ : MethodName) (head1 (Jvm.Cond.code (⟨"com/example/entrega/entrega/RetrySchedule", "waitAfter", "(I)Ljava/time/Duration;"⟩ : MethodName) prog_14_method_2_code 2 (some (.object "java/time/Duration")) :: ws) ({ frames := 1, cells := 0, slots := 0, locals := 13 } : Room)) (fun a U => a = #[(.ref xo), (.int xn)] ∧ Z.Warmed39 U.vm ∧ U.heap = h0) (fun _ _ _ _ _ => True) (fun _ U o U' => ∃ v L, o = .returned v ∧ own_QW1g Z xo xn xw xq x1 y0 h0 n0 v U'.heap L ∧ FrameEnd U o U' L ({ frames := 1, cells := 0, slots := 0, locals := 13 } : Room).cells ({ frames := 1, cells := 0, slots := 0, locals := 13 } : Room).slots) := by
  refine MetFree.of_bodySF (plainFor_of_name own_pn13) hisR ?_
  intro p e s m args below meth c s₁ Bd hml0 hP hK
  obtain ⟨rfl, hZ, hh⟩ := hP
  have hx := Bd.exec
  have hby := Bd.bytes
  have hml : c.maxLocals = 2 := hml0
  have hown : s.vm.findClass "com/example/entrega/entrega/RetrySchedule" = some m.cls := findClass_of_methodNamed Bd.named
  have hnm := (name_of_methodNamed Bd.named Bd.method).1
  have X0 : Stand p l e ({ frames := 1, cells := 0, slots := 0, locals := 13 } : Room) s m #[(.ref xo), (.int xn)] below meth c s₁ [] 0 0 := Stand.of_body Bd
  have e0 : s₁.heap = h0 := by rw [← hh, Bd.state]; rfl
  have N0 := Fr.nil n0
  show own_F p e below (fun o U' => ∃ v L, o = .returned v ∧ own_QW1g Z xo xn xw xq x1 y0 h0 n0 v U'.heap L ∧ FrameEnd s o U' L ({ frames := 1, cells := 0, slots := 0, locals := 13 } : Room).cells ({ frames := 1, cells := 0, slots := 0, locals := 13 } : Room).slots) s₁ (entryFrame m #[(.ref xo), (.int xn)] 2)
  rw [own_efW1g m xo xn]
  refine own_go (T' := s₁) (g' := (mkF m 1 #[.val (.ref xo), .val (.int xn)] [(.int xn)])) (fun _ k => XS.iloadN X0.here hx rfl (hb hby own_dW1g_0) rfl k) ?_
  refine own_go (T' := s₁) (g' := (mkF m 2 #[.val (.ref xo), .val (.int xn)] [(.ref xo), (.int xn)])) (fun _ k => XS.aloadN X0.here hx rfl (hb hby own_dW1g_1) rfl rfl k) ?_
  obtain ⟨T1, X1, e1, st1⟩ := getF X0 hx hZ hown (host := "") (Or.inl (hw _ (List.mem_of_getElem? (i := 85) rfl))) Via.refl e0 Fw (g := (mkF m 2 #[.val (.ref xo), .val (.int xn)] [(.ref xo), (.int xn)])) rfl rfl (hb hby own_dW1g_2)
  refine own_go (T' := T1) (g' := (mkF m 5 #[.val (.ref xo), .val (.int xn)] [(.ref xw), (.int xn)])) (fun _ k => st1 _ k) ?_
  obtain ⟨cq2, kq2, q2a, q2b, q2c⟩ := isOf hZ e1 Ew
  obtain ⟨_, _, ⟨T2, L2, k2, n2⟩, -, X2, ⟨Lc2, hQ2, l2, y2, z2⟩, st2⟩ := X1.interfaceBack hx (xi := (⟨"java/util/List", "size", "()I"⟩ : MethodName)) (y := (⟨"java/util/ImmutableCollections$List12", "size", "()I"⟩ : MethodName)) hown (mvT hZ (hw _ (List.mem_of_getElem? (i := 93) rfl))) (mvT hZ (hw _ (List.mem_of_getElem? (i := 94) rfl))) (mvT hZ (hw _ (List.mem_of_getElem? (i := 95) rfl))) (mvT hZ (hw _ (List.mem_of_getElem? (i := 213) rfl))) (mvT hZ (hw _ (List.mem_of_getElem? (i := 214) rfl))) (mvT hZ (hw _ (List.mem_of_getElem? (i := 215) rfl))) (mvT hZ (hw _ (List.mem_of_getElem? (i := 216) rfl))) (mvT hZ (hw _ (List.mem_of_getElem? (i := 217) rfl))) (by decide) (backOf (W := 1) (own_rSz1 l Z a0 hw [] xw xq x1 h0 n0 Z0 F1 Sq hq) hZ (hw _ (List.mem_of_getElem? (i := 218) rfl)) (hw _ (List.mem_of_getElem? (i := 198) rfl)) (by decide) (by decide)) q2a q2b q2c (g := (mkF m 5 #[.val (.ref xo), .val (.int xn)] [(.ref xw), (.int xn)])) rfl (by rw [hml]; rfl) (Steps.refl _) (argsL := []) (rest := [(.int xn)]) (lenOf own_pd17 rfl) rfl (by show 2 * 0 + _ ≤ _; exact Nat.le_of_eq rfl) (hb hby own_dW1g_5) (fun _ _ => ⟨rfl, e1, (by decide : 0 + 0 ≤ _), (by decide : 0 + 0 ≤ _)⟩)
  dsimp only [Pt.U, Pt.locs, Pt.cells, Pt.slots] at X2 l2 y2 z2 st2 hQ2
  subst l2 y2 z2
  obtain ⟨rfl, N2q, e2⟩ := hQ2
  have N2 := Fr.app N0 N2q
  refine own_goT (T' := T2) (g' := (mkF m 10 #[.val (.ref xo), .val (.int xn)] [(.int (1 : Int32)), (.int xn)])) st2 ?_
  refine own_go (T' := T2) (g' := (mkF m 31 #[.val (.ref xo), .val (.int xn)] [])) (fun _ k => XS.icmpYes X2.here hx rfl (pc0 := 10) (pc' := 31) rfl (hb hby own_dW1g_10) rfl (tlt (hgt : (1 : Int32) < xn)).2.2.1 (by decide) (by decide) k) ?_
  refine own_go (T' := T2) (g' := (mkF m 32 #[.val (.ref xo), .val (.int xn)] [.null])) (fun _ k => XS.aconstNull X2.here hx rfl (hb hby own_dW1g_31) k) ?_
  obtain ⟨fs, hr, hrun, hended, hW, hsame⟩ := X2.leave (v := some .null) (fun h => by rw [Bd.returns] at h; cases h)
  refine own_end (retOut X2 hx Bd.returns rfl (Or.inr (Or.inr (Or.inr (Or.inr ⟨rfl, rfl, rfl⟩)))) (hb hby own_dW1g_32) hr) hrun hended ⟨_, _, rfl, (?_ : own_QW1g Z xo xn xw xq x1 y0 h0 n0 _ T2.heap _), ⟨_, rfl⟩, hW, hsame.mono (by decide) (by decide)⟩
  rw [e2]
  exact ⟨rfl, N2, rfl⟩
theorem own_pd18 : parseMethodDescriptor "(I)Ljava/lang/Object;" = some ⟨[.int], some (.object "java/lang/Object")⟩ := by decide +kernel
theorem own_dW11_0 : decode prog_14_method_2_code 0 = .ok (.iload_n 1, 1) := by decide +kernel
theorem own_dW11_1 : decode prog_14_method_2_code 1 = .ok (.aload_n 0, 1) := by decide +kernel
theorem own_dW11_2 : decode prog_14_method_2_code 2 = .ok (.getfield 13, 3) := by decide +kernel
theorem own_dW11_5 : decode prog_14_method_2_code 5 = .ok (.invokeinterface 19 1, 5) := by decide +kernel
theorem own_dW11_10 : decode prog_14_method_2_code 10 = .ok (.if_icmp .gt 21, 3) := by decide +kernel
theorem own_dW11_13 : decode prog_14_method_2_code 13 = .ok (.aload_n 0, 1) := by decide +kernel
theorem own_dW11_14 : decode prog_14_method_2_code 14 = .ok (.getfield 13, 3) := by decide +kernel
theorem own_dW11_17 : decode prog_14_method_2_code 17 = .ok (.iload_n 1, 1) := by decide +kernel
theorem own_dW11_18 : decode prog_14_method_2_code 18 = .ok (.iconst 1, 1) := by decide +kernel
theorem own_dW11_19 : decode prog_14_method_2_code 19 = .ok (.isub, 1) := by decide +kernel
theorem own_dW11_20 : decode prog_14_method_2_code 20 = .ok (.invokeinterface 23 2, 5) := by decide +kernel
theorem own_dW11_25 : decode prog_14_method_2_code 25 = .ok (.checkcast 27, 3) := by decide +kernel
theorem own_dW11_28 : decode prog_14_method_2_code 28 = .ok (.goto 4, 3) := by decide +kernel
theorem own_dW11_32 : decode prog_14_method_2_code 32 = .ok (.areturn, 1) := by decide +kernel
theorem own_efW11 (m : MethodId) (xo : Addr) : entryFrame m #[(.ref xo), (.int (1 : Int32))] 2 = mkF m 0 #[.val (.ref xo), .val (.int (1 : Int32))] [] := by first | (simp [entryFrame, mkF, argsToLocals, Value.category]; done) | rfl
def own_QW11 (Z : State) (xo : Addr) (xw : Addr) (xq : Addr) (x1 : Addr) (y0 : Addr) (h0 : Heap) (n0 : Nat) (v : Option Value) (h : Heap) (L : List Loc) : Prop := v = some (.ref y0) ∧ Fr n0 L ∧ h = h0
set_option maxRecDepth 65536 in
set_option maxHeartbeats 40000000 in
theorem own_rW11 (l : Launch) (Z : State) (a0 : Array Value) (hw : ∀ d ∈ tables_1, d.before a0 Z = true) (ws : List Jvm.Cond) (xo : Addr) (xw : Addr) (xq : Addr) (x1 : Addr) (y0 : Addr) (h0 : Heap) (n0 : Nat) (Z0 : n0 ≤ h0.size) (Fw : Fld Z h0 xo "com/example/entrega/entrega/RetrySchedule" "waits" "Ljava/util/List;" (.ref xw)) (Ew : Exa Z h0 xw "java/util/ImmutableCollections$List12") (F0 : Fld Z h0 xw "java/util/ImmutableCollections$List12" "e0" "Ljava/lang/Object;" (.ref y0)) (F1 : Fld Z h0 xw "java/util/ImmutableCollections$List12" "e1" "Ljava/lang/Object;" (.ref x1)) (Sq : Sta Z h0 "java/util/ImmutableCollections" "EMPTY" "Ljava/lang/Object;" (.ref xq)) (hq : x1 = xq) (Ey0 : Exa Z h0 y0 "java/time/Duration") :
    MetFree l (⟨"com/example/entrega/entrega/RetrySchedule", "waitAfter", "(I)Ljava/time/Duration;"⟩ : MethodName) (head1 (Jvm.Cond.code (⟨"com/example/entrega/entrega/RetrySchedule", "waitAfter", "(I)Ljava/time/Duration;"⟩ : MethodName) prog_14_method_2_code 2 (some (.object "java/time/Duration")) :: ws) ({ frames := 1, cells := 0, slots := 0, locals := 13 } : Room)) (fun a U => a = #[(.ref xo), (.int (1 : Int32))] ∧ Z.Warmed39 U.vm ∧ U.heap = h0) (fun _ _ _ _ _ => True) (fun _ U o U' => ∃ v L, o = .returned v ∧ own_QW11 Z xo xw xq x1 y0 h0 n0 v U'.heap L ∧ FrameEnd U o U' L ({ frames := 1, cells := 0, slots := 0, locals := 13 } : Room).cells ({ frames := 1, cells := 0, slots := 0, locals := 13 } : Room).slots) := by
  refine MetFree.of_bodySF (plainFor_of_name own_pn13) hisR ?_
  intro p e s m args below meth c s₁ Bd hml0 hP hK
  obtain ⟨rfl, hZ, hh⟩ := hP
  have hx := Bd.exec
  have hby := Bd.bytes
  have hml : c.maxLocals = 2 := hml0
  have hown : s.vm.findClass "com/example/entrega/entrega/RetrySchedule" = some m.cls := findClass_of_methodNamed Bd.named
  have hnm := (name_of_methodNamed Bd.named Bd.method).1
  have X0 : Stand p l e ({ frames := 1, cells := 0, slots := 0, locals := 13 } : Room) s m #[(.ref xo), (.int (1 : Int32))] below meth c s₁ [] 0 0 := Stand.of_body Bd
  have e0 : s₁.heap = h0 := by rw [← hh, Bd.state]; rfl
  have N0 := Fr.nil n0
  show own_F p e below (fun o U' => ∃ v L, o = .returned v ∧ own_QW11 Z xo xw xq x1 y0 h0 n0 v U'.heap L ∧ FrameEnd s o U' L ({ frames := 1, cells := 0, slots := 0, locals := 13 } : Room).cells ({ frames := 1, cells := 0, slots := 0, locals := 13 } : Room).slots) s₁ (entryFrame m #[(.ref xo), (.int (1 : Int32))] 2)
  rw [own_efW11 m xo]
  refine own_go (T' := s₁) (g' := (mkF m 1 #[.val (.ref xo), .val (.int (1 : Int32))] [(.int (1 : Int32))])) (fun _ k => XS.iloadN X0.here hx rfl (hb hby own_dW11_0) rfl k) ?_
  refine own_go (T' := s₁) (g' := (mkF m 2 #[.val (.ref xo), .val (.int (1 : Int32))] [(.ref xo), (.int (1 : Int32))])) (fun _ k => XS.aloadN X0.here hx rfl (hb hby own_dW11_1) rfl rfl k) ?_
  obtain ⟨T1, X1, e1, st1⟩ := getF X0 hx hZ hown (host := "") (Or.inl (hw _ (List.mem_of_getElem? (i := 85) rfl))) Via.refl e0 Fw (g := (mkF m 2 #[.val (.ref xo), .val (.int (1 : Int32))] [(.ref xo), (.int (1 : Int32))])) rfl rfl (hb hby own_dW11_2)
  refine own_go (T' := T1) (g' := (mkF m 5 #[.val (.ref xo), .val (.int (1 : Int32))] [(.ref xw), (.int (1 : Int32))])) (fun _ k => st1 _ k) ?_
  obtain ⟨cq2, kq2, q2a, q2b, q2c⟩ := isOf hZ e1 Ew
  obtain ⟨_, _, ⟨T2, L2, k2, n2⟩, -, X2, ⟨Lc2, hQ2, l2, y2, z2⟩, st2⟩ := X1.interfaceBack hx (xi := (⟨"java/util/List", "size", "()I"⟩ : MethodName)) (y := (⟨"java/util/ImmutableCollections$List12", "size", "()I"⟩ : MethodName)) hown (mvT hZ (hw _ (List.mem_of_getElem? (i := 93) rfl))) (mvT hZ (hw _ (List.mem_of_getElem? (i := 94) rfl))) (mvT hZ (hw _ (List.mem_of_getElem? (i := 95) rfl))) (mvT hZ (hw _ (List.mem_of_getElem? (i := 213) rfl))) (mvT hZ (hw _ (List.mem_of_getElem? (i := 214) rfl))) (mvT hZ (hw _ (List.mem_of_getElem? (i := 215) rfl))) (mvT hZ (hw _ (List.mem_of_getElem? (i := 216) rfl))) (mvT hZ (hw _ (List.mem_of_getElem? (i := 217) rfl))) (by decide) (backOf (W := 1) (own_rSz1 l Z a0 hw [] xw xq x1 h0 n0 Z0 F1 Sq hq) hZ (hw _ (List.mem_of_getElem? (i := 218) rfl)) (hw _ (List.mem_of_getElem? (i := 198) rfl)) (by decide) (by decide)) q2a q2b q2c (g := (mkF m 5 #[.val (.ref xo), .val (.int (1 : Int32))] [(.ref xw), (.int (1 : Int32))])) rfl (by rw [hml]; rfl) (Steps.refl _) (argsL := []) (rest := [(.int (1 : Int32))]) (lenOf own_pd17 rfl) rfl (by show 2 * 0 + _ ≤ _; exact Nat.le_of_eq rfl) (hb hby own_dW11_5) (fun _ _ => ⟨rfl, e1, (by decide : 0 + 0 ≤ _), (by decide : 0 + 0 ≤ _)⟩)
  dsimp only [Pt.U, Pt.locs, Pt.cells, Pt.slots] at X2 l2 y2 z2 st2 hQ2
  subst l2 y2 z2
  obtain ⟨rfl, N2q, e2⟩ := hQ2
  have N2 := Fr.app N0 N2q
  refine own_goT (T' := T2) (g' := (mkF m 10 #[.val (.ref xo), .val (.int (1 : Int32))] [(.int (1 : Int32)), (.int (1 : Int32))])) st2 ?_
  refine own_go (T' := T2) (g' := (mkF m 13 #[.val (.ref xo), .val (.int (1 : Int32))] [])) (fun _ k => XS.icmpNo X2.here hx rfl (hb hby own_dW11_10) rfl (flt ((by decide) : ¬ ((1 : Int32) < (1 : Int32)))).2.2.1 k) ?_
  refine own_go (T' := T2) (g' := (mkF m 14 #[.val (.ref xo), .val (.int (1 : Int32))] [(.ref xo)])) (fun _ k => XS.aloadN X2.here hx rfl (hb hby own_dW11_13) rfl rfl k) ?_
  obtain ⟨T3, X3, e3, st3⟩ := getF X2 hx hZ hown (host := "") (Or.inl (hw _ (List.mem_of_getElem? (i := 85) rfl))) Via.refl e2 Fw (g := (mkF m 14 #[.val (.ref xo), .val (.int (1 : Int32))] [(.ref xo)])) rfl rfl (hb hby own_dW11_14)
  refine own_go (T' := T3) (g' := (mkF m 17 #[.val (.ref xo), .val (.int (1 : Int32))] [(.ref xw)])) (fun _ k => st3 _ k) ?_
  refine own_go (T' := T3) (g' := (mkF m 18 #[.val (.ref xo), .val (.int (1 : Int32))] [(.int (1 : Int32)), (.ref xw)])) (fun _ k => XS.iloadN X3.here hx rfl (hb hby own_dW11_17) rfl k) ?_
  refine own_go (T' := T3) (g' := (mkF m 19 #[.val (.ref xo), .val (.int (1 : Int32))] [(.int (1 : Int32)), (.int (1 : Int32)), (.ref xw)])) (fun _ k => XS.iconst X3.here hx rfl (hb hby own_dW11_18) k) ?_
  refine own_go (T' := T3) (g' := (mkF m 20 #[.val (.ref xo), .val (.int (1 : Int32))] [(.int (0 : Int32)), (.ref xw)])) (fun _ k => XS.isub X3.here hx rfl (hb hby own_dW11_19) rfl k) ?_
  obtain ⟨cq4, kq4, q4a, q4b, q4c⟩ := isOf hZ e3 Ew
  obtain ⟨_, _, ⟨T4, L4, k4, n4⟩, -, X4, ⟨Lc4, hQ4, l4, y4, z4⟩, st4⟩ := X3.interfaceBack hx (xi := (⟨"java/util/List", "get", "(I)Ljava/lang/Object;"⟩ : MethodName)) (y := (⟨"java/util/ImmutableCollections$List12", "get", "(I)Ljava/lang/Object;"⟩ : MethodName)) hown (mvT hZ (hw _ (List.mem_of_getElem? (i := 223) rfl))) (mvT hZ (hw _ (List.mem_of_getElem? (i := 224) rfl))) (mvT hZ (hw _ (List.mem_of_getElem? (i := 225) rfl))) (mvT hZ (hw _ (List.mem_of_getElem? (i := 226) rfl))) (mvT hZ (hw _ (List.mem_of_getElem? (i := 227) rfl))) (mvT hZ (hw _ (List.mem_of_getElem? (i := 228) rfl))) (mvT hZ (hw _ (List.mem_of_getElem? (i := 229) rfl))) (mvT hZ (hw _ (List.mem_of_getElem? (i := 217) rfl))) (by decide) (backOf (W := 0) (own_rGt0 l Z a0 hw [] xw y0 h0 n0 Z0 F0) hZ (hw _ (List.mem_of_getElem? (i := 230) rfl)) (hw _ (List.mem_of_getElem? (i := 198) rfl)) (by decide) (by decide)) q4a q4b q4c (g := (mkF m 20 #[.val (.ref xo), .val (.int (1 : Int32))] [(.int (0 : Int32)), (.ref xw)])) rfl (by rw [hml]; rfl) (Steps.refl _) (argsL := [(.int (0 : Int32))]) (rest := []) (lenOf own_pd18 rfl) rfl (by show 2 * 0 + _ ≤ _; exact Nat.le_of_eq rfl) (hb hby own_dW11_20) (fun _ _ => ⟨rfl, e3, (by decide : 0 + 0 ≤ _), (by decide : 0 + 0 ≤ _)⟩)
  dsimp only [Pt.U, Pt.locs, Pt.cells, Pt.slots] at X4 l4 y4 z4 st4 hQ4
  subst l4 y4 z4
  obtain ⟨rfl, N4q, e4⟩ := hQ4
  have N4 := Fr.app N2 N4q
  refine own_goT (T' := T4) (g' := (mkF m 25 #[.val (.ref xo), .val (.int (1 : Int32))] [(.ref y0)])) st4 ?_
  obtain ⟨T5, X5, e5, st5⟩ := castY X4 hx hZ hown (hw _ (List.mem_of_getElem? (i := 231) rfl)) e4 (Ins.self Ey0) (g := (mkF m 25 #[.val (.ref xo), .val (.int (1 : Int32))] [(.ref y0)])) rfl rfl (hb hby own_dW11_25)
  refine own_go (T' := T5) (g' := (mkF m 28 #[.val (.ref xo), .val (.int (1 : Int32))] [(.ref y0)])) (fun _ k => st5 _ k) ?_
  refine own_go (T' := T5) (g' := (mkF m 32 #[.val (.ref xo), .val (.int (1 : Int32))] [(.ref y0)])) (fun _ k => XS.goto X5.here hx rfl (pc0 := 28) (pc' := 32) rfl (hb hby own_dW11_28) (by decide) (by decide) k) ?_
  obtain ⟨fs, hr, hrun, hended, hW, hsame⟩ := X5.leave (v := some (.ref y0)) (fun h => by rw [Bd.returns] at h; cases h)
  refine own_end (retOut X5 hx Bd.returns rfl (Or.inr (Or.inr (Or.inr (Or.inr ⟨rfl, rfl, rfl⟩)))) (hb hby own_dW11_32) hr) hrun hended ⟨_, _, rfl, (?_ : own_QW11 Z xo xw xq x1 y0 h0 n0 _ T5.heap _), ⟨_, rfl⟩, hW, hsame.mono (by decide) (by decide)⟩
  rw [e5]
  exact ⟨rfl, N4, rfl⟩
theorem own_dW2g_0 : decode prog_14_method_2_code 0 = .ok (.iload_n 1, 1) := by decide +kernel
theorem own_dW2g_1 : decode prog_14_method_2_code 1 = .ok (.aload_n 0, 1) := by decide +kernel
theorem own_dW2g_2 : decode prog_14_method_2_code 2 = .ok (.getfield 13, 3) := by decide +kernel
theorem own_dW2g_5 : decode prog_14_method_2_code 5 = .ok (.invokeinterface 19 1, 5) := by decide +kernel
theorem own_dW2g_10 : decode prog_14_method_2_code 10 = .ok (.if_icmp .gt 21, 3) := by decide +kernel
theorem own_dW2g_31 : decode prog_14_method_2_code 31 = .ok (.aconst_null, 1) := by decide +kernel
theorem own_dW2g_32 : decode prog_14_method_2_code 32 = .ok (.areturn, 1) := by decide +kernel
theorem own_efW2g (m : MethodId) (xo : Addr) (xn : Int32) : entryFrame m #[(.ref xo), (.int xn)] 2 = mkF m 0 #[.val (.ref xo), .val (.int xn)] [] := by first | (simp [entryFrame, mkF, argsToLocals, Value.category]; done) | rfl
def own_QW2g (Z : State) (xo : Addr) (xn : Int32) (xw : Addr) (xq : Addr) (y0 : Addr) (y1 : Addr) (h0 : Heap) (n0 : Nat) (v : Option Value) (h : Heap) (L : List Loc) : Prop := v = some .null ∧ Fr n0 L ∧ h = h0
set_option maxRecDepth 65536 in
set_option maxHeartbeats 40000000 in
theorem own_rW2g (l : Launch) (Z : State) (a0 : Array Value) (hw : ∀ d ∈ tables_1, d.before a0 Z = true) (ws : List Jvm.Cond) (xo : Addr) (xn : Int32) (xw : Addr) (xq : Addr) (y0 : Addr) (y1 : Addr) (h0 : Heap) (n0 : Nat) (Z0 : n0 ≤ h0.size) (Fw : Fld Z h0 xo "com/example/entrega/entrega/RetrySchedule" "waits" "Ljava/util/List;" (.ref xw)) (Ew : Exa Z h0 xw "java/util/ImmutableCollections$List12") (F0 : Fld Z h0 xw "java/util/ImmutableCollections$List12" "e0" "Ljava/lang/Object;" (.ref y0)) (F1 : Fld Z h0 xw "java/util/ImmutableCollections$List12" "e1" "Ljava/lang/Object;" (.ref y1)) (Sq : Sta Z h0 "java/util/ImmutableCollections" "EMPTY" "Ljava/lang/Object;" (.ref xq)) (hq : ¬ y1 = xq) (Ey0 : Exa Z h0 y0 "java/time/Duration") (Ey1 : Exa Z h0 y1 "java/time/Duration") (hgt : (2 : Int32) < xn) :
    MetFree l (⟨"com/example/entrega/entrega/RetrySchedule", "waitAfter", "(I)Ljava/time/Duration;"⟩ : MethodName) (head1 (Jvm.Cond.code (⟨"com/example/entrega/entrega/RetrySchedule", "waitAfter", "(I)Ljava/time/Duration;"⟩ : MethodName) prog_14_method_2_code 2 (some (.object "java/time/Duration")) :: ws) ({ frames := 1, cells := 0, slots := 0, locals := 13 } : Room)) (fun a U => a = #[(.ref xo), (.int xn)] ∧ Z.Warmed39 U.vm ∧ U.heap = h0) (fun _ _ _ _ _ => True) (fun _ U o U' => ∃ v L, o = .returned v ∧ own_QW2g Z xo xn xw xq y0 y1 h0 n0 v U'.heap L ∧ FrameEnd U o U' L ({ frames := 1, cells := 0, slots := 0, locals := 13 } : Room).cells ({ frames := 1, cells := 0, slots := 0, locals := 13 } : Room).slots) := by
  refine MetFree.of_bodySF (plainFor_of_name own_pn13) hisR ?_
  intro p e s m args below meth c s₁ Bd hml0 hP hK
  obtain ⟨rfl, hZ, hh⟩ := hP
  have hx := Bd.exec
  have hby := Bd.bytes
  have hml : c.maxLocals = 2 := hml0
  have hown : s.vm.findClass "com/example/entrega/entrega/RetrySchedule" = some m.cls := findClass_of_methodNamed Bd.named
  have hnm := (name_of_methodNamed Bd.named Bd.method).1
  have X0 : Stand p l e ({ frames := 1, cells := 0, slots := 0, locals := 13 } : Room) s m #[(.ref xo), (.int xn)] below meth c s₁ [] 0 0 := Stand.of_body Bd
  have e0 : s₁.heap = h0 := by rw [← hh, Bd.state]; rfl
  have N0 := Fr.nil n0
  show own_F p e below (fun o U' => ∃ v L, o = .returned v ∧ own_QW2g Z xo xn xw xq y0 y1 h0 n0 v U'.heap L ∧ FrameEnd s o U' L ({ frames := 1, cells := 0, slots := 0, locals := 13 } : Room).cells ({ frames := 1, cells := 0, slots := 0, locals := 13 } : Room).slots) s₁ (entryFrame m #[(.ref xo), (.int xn)] 2)
  rw [own_efW2g m xo xn]
  refine own_go (T' := s₁) (g' := (mkF m 1 #[.val (.ref xo), .val (.int xn)] [(.int xn)])) (fun _ k => XS.iloadN X0.here hx rfl (hb hby own_dW2g_0) rfl k) ?_
  refine own_go (T' := s₁) (g' := (mkF m 2 #[.val (.ref xo), .val (.int xn)] [(.ref xo), (.int xn)])) (fun _ k => XS.aloadN X0.here hx rfl (hb hby own_dW2g_1) rfl rfl k) ?_
  obtain ⟨T1, X1, e1, st1⟩ := getF X0 hx hZ hown (host := "") (Or.inl (hw _ (List.mem_of_getElem? (i := 85) rfl))) Via.refl e0 Fw (g := (mkF m 2 #[.val (.ref xo), .val (.int xn)] [(.ref xo), (.int xn)])) rfl rfl (hb hby own_dW2g_2)
  refine own_go (T' := T1) (g' := (mkF m 5 #[.val (.ref xo), .val (.int xn)] [(.ref xw), (.int xn)])) (fun _ k => st1 _ k) ?_
  obtain ⟨cq2, kq2, q2a, q2b, q2c⟩ := isOf hZ e1 Ew
  obtain ⟨_, _, ⟨T2, L2, k2, n2⟩, -, X2, ⟨Lc2, hQ2, l2, y2, z2⟩, st2⟩ := X1.interfaceBack hx (xi := (⟨"java/util/List", "size", "()I"⟩ : MethodName)) (y := (⟨"java/util/ImmutableCollections$List12", "size", "()I"⟩ : MethodName)) hown (mvT hZ (hw _ (List.mem_of_getElem? (i := 93) rfl))) (mvT hZ (hw _ (List.mem_of_getElem? (i := 94) rfl))) (mvT hZ (hw _ (List.mem_of_getElem? (i := 95) rfl))) (mvT hZ (hw _ (List.mem_of_getElem? (i := 213) rfl))) (mvT hZ (hw _ (List.mem_of_getElem? (i := 214) rfl))) (mvT hZ (hw _ (List.mem_of_getElem? (i := 215) rfl))) (mvT hZ (hw _ (List.mem_of_getElem? (i := 216) rfl))) (mvT hZ (hw _ (List.mem_of_getElem? (i := 217) rfl))) (by decide) (backOf (W := 1) (own_rSz2 l Z a0 hw [] xw xq y1 h0 n0 Z0 F1 Sq hq) hZ (hw _ (List.mem_of_getElem? (i := 218) rfl)) (hw _ (List.mem_of_getElem? (i := 198) rfl)) (by decide) (by decide)) q2a q2b q2c (g := (mkF m 5 #[.val (.ref xo), .val (.int xn)] [(.ref xw), (.int xn)])) rfl (by rw [hml]; rfl) (Steps.refl _) (argsL := []) (rest := [(.int xn)]) (lenOf own_pd17 rfl) rfl (by show 2 * 0 + _ ≤ _; exact Nat.le_of_eq rfl) (hb hby own_dW2g_5) (fun _ _ => ⟨rfl, e1, (by decide : 0 + 0 ≤ _), (by decide : 0 + 0 ≤ _)⟩)
  dsimp only [Pt.U, Pt.locs, Pt.cells, Pt.slots] at X2 l2 y2 z2 st2 hQ2
  subst l2 y2 z2
  obtain ⟨rfl, N2q, e2⟩ := hQ2
  have N2 := Fr.app N0 N2q
  refine own_goT (T' := T2) (g' := (mkF m 10 #[.val (.ref xo), .val (.int xn)] [(.int (2 : Int32)), (.int xn)])) st2 ?_
  refine own_go (T' := T2) (g' := (mkF m 31 #[.val (.ref xo), .val (.int xn)] [])) (fun _ k => XS.icmpYes X2.here hx rfl (pc0 := 10) (pc' := 31) rfl (hb hby own_dW2g_10) rfl (tlt (hgt : (2 : Int32) < xn)).2.2.1 (by decide) (by decide) k) ?_
  refine own_go (T' := T2) (g' := (mkF m 32 #[.val (.ref xo), .val (.int xn)] [.null])) (fun _ k => XS.aconstNull X2.here hx rfl (hb hby own_dW2g_31) k) ?_
  obtain ⟨fs, hr, hrun, hended, hW, hsame⟩ := X2.leave (v := some .null) (fun h => by rw [Bd.returns] at h; cases h)
  refine own_end (retOut X2 hx Bd.returns rfl (Or.inr (Or.inr (Or.inr (Or.inr ⟨rfl, rfl, rfl⟩)))) (hb hby own_dW2g_32) hr) hrun hended ⟨_, _, rfl, (?_ : own_QW2g Z xo xn xw xq y0 y1 h0 n0 _ T2.heap _), ⟨_, rfl⟩, hW, hsame.mono (by decide) (by decide)⟩
  rw [e2]
  exact ⟨rfl, N2, rfl⟩
theorem own_dW21_0 : decode prog_14_method_2_code 0 = .ok (.iload_n 1, 1) := by decide +kernel
theorem own_dW21_1 : decode prog_14_method_2_code 1 = .ok (.aload_n 0, 1) := by decide +kernel
theorem own_dW21_2 : decode prog_14_method_2_code 2 = .ok (.getfield 13, 3) := by decide +kernel
theorem own_dW21_5 : decode prog_14_method_2_code 5 = .ok (.invokeinterface 19 1, 5) := by decide +kernel
theorem own_dW21_10 : decode prog_14_method_2_code 10 = .ok (.if_icmp .gt 21, 3) := by decide +kernel
theorem own_dW21_13 : decode prog_14_method_2_code 13 = .ok (.aload_n 0, 1) := by decide +kernel
theorem own_dW21_14 : decode prog_14_method_2_code 14 = .ok (.getfield 13, 3) := by decide +kernel
theorem own_dW21_17 : decode prog_14_method_2_code 17 = .ok (.iload_n 1, 1) := by decide +kernel
theorem own_dW21_18 : decode prog_14_method_2_code 18 = .ok (.iconst 1, 1) := by decide +kernel
theorem own_dW21_19 : decode prog_14_method_2_code 19 = .ok (.isub, 1) := by decide +kernel
theorem own_dW21_20 : decode prog_14_method_2_code 20 = .ok (.invokeinterface 23 2, 5) := by decide +kernel
theorem own_dW21_25 : decode prog_14_method_2_code 25 = .ok (.checkcast 27, 3) := by decide +kernel
theorem own_dW21_28 : decode prog_14_method_2_code 28 = .ok (.goto 4, 3) := by decide +kernel
theorem own_dW21_32 : decode prog_14_method_2_code 32 = .ok (.areturn, 1) := by decide +kernel
theorem own_efW21 (m : MethodId) (xo : Addr) : entryFrame m #[(.ref xo), (.int (1 : Int32))] 2 = mkF m 0 #[.val (.ref xo), .val (.int (1 : Int32))] [] := by first | (simp [entryFrame, mkF, argsToLocals, Value.category]; done) | rfl
def own_QW21 (Z : State) (xo : Addr) (xw : Addr) (xq : Addr) (y0 : Addr) (y1 : Addr) (h0 : Heap) (n0 : Nat) (v : Option Value) (h : Heap) (L : List Loc) : Prop := v = some (.ref y0) ∧ Fr n0 L ∧ h = h0
set_option maxRecDepth 65536 in
set_option maxHeartbeats 40000000 in
theorem own_rW21 (l : Launch) (Z : State) (a0 : Array Value) (hw : ∀ d ∈ tables_1, d.before a0 Z = true) (ws : List Jvm.Cond) (xo : Addr) (xw : Addr) (xq : Addr) (y0 : Addr) (y1 : Addr) (h0 : Heap) (n0 : Nat) (Z0 : n0 ≤ h0.size) (Fw : Fld Z h0 xo "com/example/entrega/entrega/RetrySchedule" "waits" "Ljava/util/List;" (.ref xw)) (Ew : Exa Z h0 xw "java/util/ImmutableCollections$List12") (F0 : Fld Z h0 xw "java/util/ImmutableCollections$List12" "e0" "Ljava/lang/Object;" (.ref y0)) (F1 : Fld Z h0 xw "java/util/ImmutableCollections$List12" "e1" "Ljava/lang/Object;" (.ref y1)) (Sq : Sta Z h0 "java/util/ImmutableCollections" "EMPTY" "Ljava/lang/Object;" (.ref xq)) (hq : ¬ y1 = xq) (Ey0 : Exa Z h0 y0 "java/time/Duration") (Ey1 : Exa Z h0 y1 "java/time/Duration") :
    MetFree l (⟨"com/example/entrega/entrega/RetrySchedule", "waitAfter", "(I)Ljava/time/Duration;"⟩ : MethodName) (head1 (Jvm.Cond.code (⟨"com/example/entrega/entrega/RetrySchedule", "waitAfter", "(I)Ljava/time/Duration;"⟩ : MethodName) prog_14_method_2_code 2 (some (.object "java/time/Duration")) :: ws) ({ frames := 1, cells := 0, slots := 0, locals := 13 } : Room)) (fun a U => a = #[(.ref xo), (.int (1 : Int32))] ∧ Z.Warmed39 U.vm ∧ U.heap = h0) (fun _ _ _ _ _ => True) (fun _ U o U' => ∃ v L, o = .returned v ∧ own_QW21 Z xo xw xq y0 y1 h0 n0 v U'.heap L ∧ FrameEnd U o U' L ({ frames := 1, cells := 0, slots := 0, locals := 13 } : Room).cells ({ frames := 1, cells := 0, slots := 0, locals := 13 } : Room).slots) := by
  refine MetFree.of_bodySF (plainFor_of_name own_pn13) hisR ?_
  intro p e s m args below meth c s₁ Bd hml0 hP hK
  obtain ⟨rfl, hZ, hh⟩ := hP
  have hx := Bd.exec
  have hby := Bd.bytes
  have hml : c.maxLocals = 2 := hml0
  have hown : s.vm.findClass "com/example/entrega/entrega/RetrySchedule" = some m.cls := findClass_of_methodNamed Bd.named
  have hnm := (name_of_methodNamed Bd.named Bd.method).1
  have X0 : Stand p l e ({ frames := 1, cells := 0, slots := 0, locals := 13 } : Room) s m #[(.ref xo), (.int (1 : Int32))] below meth c s₁ [] 0 0 := Stand.of_body Bd
  have e0 : s₁.heap = h0 := by rw [← hh, Bd.state]; rfl
  have N0 := Fr.nil n0
  show own_F p e below (fun o U' => ∃ v L, o = .returned v ∧ own_QW21 Z xo xw xq y0 y1 h0 n0 v U'.heap L ∧ FrameEnd s o U' L ({ frames := 1, cells := 0, slots := 0, locals := 13 } : Room).cells ({ frames := 1, cells := 0, slots := 0, locals := 13 } : Room).slots) s₁ (entryFrame m #[(.ref xo), (.int (1 : Int32))] 2)
  rw [own_efW21 m xo]
  refine own_go (T' := s₁) (g' := (mkF m 1 #[.val (.ref xo), .val (.int (1 : Int32))] [(.int (1 : Int32))])) (fun _ k => XS.iloadN X0.here hx rfl (hb hby own_dW21_0) rfl k) ?_
  refine own_go (T' := s₁) (g' := (mkF m 2 #[.val (.ref xo), .val (.int (1 : Int32))] [(.ref xo), (.int (1 : Int32))])) (fun _ k => XS.aloadN X0.here hx rfl (hb hby own_dW21_1) rfl rfl k) ?_
  obtain ⟨T1, X1, e1, st1⟩ := getF X0 hx hZ hown (host := "") (Or.inl (hw _ (List.mem_of_getElem? (i := 85) rfl))) Via.refl e0 Fw (g := (mkF m 2 #[.val (.ref xo), .val (.int (1 : Int32))] [(.ref xo), (.int (1 : Int32))])) rfl rfl (hb hby own_dW21_2)
  refine own_go (T' := T1) (g' := (mkF m 5 #[.val (.ref xo), .val (.int (1 : Int32))] [(.ref xw), (.int (1 : Int32))])) (fun _ k => st1 _ k) ?_
  obtain ⟨cq2, kq2, q2a, q2b, q2c⟩ := isOf hZ e1 Ew
  obtain ⟨_, _, ⟨T2, L2, k2, n2⟩, -, X2, ⟨Lc2, hQ2, l2, y2, z2⟩, st2⟩ := X1.interfaceBack hx (xi := (⟨"java/util/List", "size", "()I"⟩ : MethodName)) (y := (⟨"java/util/ImmutableCollections$List12", "size", "()I"⟩ : MethodName)) hown (mvT hZ (hw _ (List.mem_of_getElem? (i := 93) rfl))) (mvT hZ (hw _ (List.mem_of_getElem? (i := 94) rfl))) (mvT hZ (hw _ (List.mem_of_getElem? (i := 95) rfl))) (mvT hZ (hw _ (List.mem_of_getElem? (i := 213) rfl))) (mvT hZ (hw _ (List.mem_of_getElem? (i := 214) rfl))) (mvT hZ (hw _ (List.mem_of_getElem? (i := 215) rfl))) (mvT hZ (hw _ (List.mem_of_getElem? (i := 216) rfl))) (mvT hZ (hw _ (List.mem_of_getElem? (i := 217) rfl))) (by decide) (backOf (W := 1) (own_rSz2 l Z a0 hw [] xw xq y1 h0 n0 Z0 F1 Sq hq) hZ (hw _ (List.mem_of_getElem? (i := 218) rfl)) (hw _ (List.mem_of_getElem? (i := 198) rfl)) (by decide) (by decide)) q2a q2b q2c (g := (mkF m 5 #[.val (.ref xo), .val (.int (1 : Int32))] [(.ref xw), (.int (1 : Int32))])) rfl (by rw [hml]; rfl) (Steps.refl _) (argsL := []) (rest := [(.int (1 : Int32))]) (lenOf own_pd17 rfl) rfl (by show 2 * 0 + _ ≤ _; exact Nat.le_of_eq rfl) (hb hby own_dW21_5) (fun _ _ => ⟨rfl, e1, (by decide : 0 + 0 ≤ _), (by decide : 0 + 0 ≤ _)⟩)
  dsimp only [Pt.U, Pt.locs, Pt.cells, Pt.slots] at X2 l2 y2 z2 st2 hQ2
  subst l2 y2 z2
  obtain ⟨rfl, N2q, e2⟩ := hQ2
  have N2 := Fr.app N0 N2q
  refine own_goT (T' := T2) (g' := (mkF m 10 #[.val (.ref xo), .val (.int (1 : Int32))] [(.int (2 : Int32)), (.int (1 : Int32))])) st2 ?_
  refine own_go (T' := T2) (g' := (mkF m 13 #[.val (.ref xo), .val (.int (1 : Int32))] [])) (fun _ k => XS.icmpNo X2.here hx rfl (hb hby own_dW21_10) rfl (flt ((by decide) : ¬ ((2 : Int32) < (1 : Int32)))).2.2.1 k) ?_
  refine own_go (T' := T2) (g' := (mkF m 14 #[.val (.ref xo), .val (.int (1 : Int32))] [(.ref xo)])) (fun _ k => XS.aloadN X2.here hx rfl (hb hby own_dW21_13) rfl rfl k) ?_
  obtain ⟨T3, X3, e3, st3⟩ := getF X2 hx hZ hown (host := "") (Or.inl (hw _ (List.mem_of_getElem? (i := 85) rfl))) Via.refl e2 Fw (g := (mkF m 14 #[.val (.ref xo), .val (.int (1 : Int32))] [(.ref xo)])) rfl rfl (hb hby own_dW21_14)
  refine own_go (T' := T3) (g' := (mkF m 17 #[.val (.ref xo), .val (.int (1 : Int32))] [(.ref xw)])) (fun _ k => st3 _ k) ?_
  refine own_go (T' := T3) (g' := (mkF m 18 #[.val (.ref xo), .val (.int (1 : Int32))] [(.int (1 : Int32)), (.ref xw)])) (fun _ k => XS.iloadN X3.here hx rfl (hb hby own_dW21_17) rfl k) ?_
  refine own_go (T' := T3) (g' := (mkF m 19 #[.val (.ref xo), .val (.int (1 : Int32))] [(.int (1 : Int32)), (.int (1 : Int32)), (.ref xw)])) (fun _ k => XS.iconst X3.here hx rfl (hb hby own_dW21_18) k) ?_
  refine own_go (T' := T3) (g' := (mkF m 20 #[.val (.ref xo), .val (.int (1 : Int32))] [(.int (0 : Int32)), (.ref xw)])) (fun _ k => XS.isub X3.here hx rfl (hb hby own_dW21_19) rfl k) ?_
  obtain ⟨cq4, kq4, q4a, q4b, q4c⟩ := isOf hZ e3 Ew
  obtain ⟨_, _, ⟨T4, L4, k4, n4⟩, -, X4, ⟨Lc4, hQ4, l4, y4, z4⟩, st4⟩ := X3.interfaceBack hx (xi := (⟨"java/util/List", "get", "(I)Ljava/lang/Object;"⟩ : MethodName)) (y := (⟨"java/util/ImmutableCollections$List12", "get", "(I)Ljava/lang/Object;"⟩ : MethodName)) hown (mvT hZ (hw _ (List.mem_of_getElem? (i := 223) rfl))) (mvT hZ (hw _ (List.mem_of_getElem? (i := 224) rfl))) (mvT hZ (hw _ (List.mem_of_getElem? (i := 225) rfl))) (mvT hZ (hw _ (List.mem_of_getElem? (i := 226) rfl))) (mvT hZ (hw _ (List.mem_of_getElem? (i := 227) rfl))) (mvT hZ (hw _ (List.mem_of_getElem? (i := 228) rfl))) (mvT hZ (hw _ (List.mem_of_getElem? (i := 229) rfl))) (mvT hZ (hw _ (List.mem_of_getElem? (i := 217) rfl))) (by decide) (backOf (W := 0) (own_rGt0 l Z a0 hw [] xw y0 h0 n0 Z0 F0) hZ (hw _ (List.mem_of_getElem? (i := 230) rfl)) (hw _ (List.mem_of_getElem? (i := 198) rfl)) (by decide) (by decide)) q4a q4b q4c (g := (mkF m 20 #[.val (.ref xo), .val (.int (1 : Int32))] [(.int (0 : Int32)), (.ref xw)])) rfl (by rw [hml]; rfl) (Steps.refl _) (argsL := [(.int (0 : Int32))]) (rest := []) (lenOf own_pd18 rfl) rfl (by show 2 * 0 + _ ≤ _; exact Nat.le_of_eq rfl) (hb hby own_dW21_20) (fun _ _ => ⟨rfl, e3, (by decide : 0 + 0 ≤ _), (by decide : 0 + 0 ≤ _)⟩)
  dsimp only [Pt.U, Pt.locs, Pt.cells, Pt.slots] at X4 l4 y4 z4 st4 hQ4
  subst l4 y4 z4
  obtain ⟨rfl, N4q, e4⟩ := hQ4
  have N4 := Fr.app N2 N4q
  refine own_goT (T' := T4) (g' := (mkF m 25 #[.val (.ref xo), .val (.int (1 : Int32))] [(.ref y0)])) st4 ?_
  obtain ⟨T5, X5, e5, st5⟩ := castY X4 hx hZ hown (hw _ (List.mem_of_getElem? (i := 231) rfl)) e4 (Ins.self Ey0) (g := (mkF m 25 #[.val (.ref xo), .val (.int (1 : Int32))] [(.ref y0)])) rfl rfl (hb hby own_dW21_25)
  refine own_go (T' := T5) (g' := (mkF m 28 #[.val (.ref xo), .val (.int (1 : Int32))] [(.ref y0)])) (fun _ k => st5 _ k) ?_
  refine own_go (T' := T5) (g' := (mkF m 32 #[.val (.ref xo), .val (.int (1 : Int32))] [(.ref y0)])) (fun _ k => XS.goto X5.here hx rfl (pc0 := 28) (pc' := 32) rfl (hb hby own_dW21_28) (by decide) (by decide) k) ?_
  obtain ⟨fs, hr, hrun, hended, hW, hsame⟩ := X5.leave (v := some (.ref y0)) (fun h => by rw [Bd.returns] at h; cases h)
  refine own_end (retOut X5 hx Bd.returns rfl (Or.inr (Or.inr (Or.inr (Or.inr ⟨rfl, rfl, rfl⟩)))) (hb hby own_dW21_32) hr) hrun hended ⟨_, _, rfl, (?_ : own_QW21 Z xo xw xq y0 y1 h0 n0 _ T5.heap _), ⟨_, rfl⟩, hW, hsame.mono (by decide) (by decide)⟩
  rw [e5]
  exact ⟨rfl, N4, rfl⟩
theorem own_dW22_0 : decode prog_14_method_2_code 0 = .ok (.iload_n 1, 1) := by decide +kernel
theorem own_dW22_1 : decode prog_14_method_2_code 1 = .ok (.aload_n 0, 1) := by decide +kernel
theorem own_dW22_2 : decode prog_14_method_2_code 2 = .ok (.getfield 13, 3) := by decide +kernel
theorem own_dW22_5 : decode prog_14_method_2_code 5 = .ok (.invokeinterface 19 1, 5) := by decide +kernel
theorem own_dW22_10 : decode prog_14_method_2_code 10 = .ok (.if_icmp .gt 21, 3) := by decide +kernel
theorem own_dW22_13 : decode prog_14_method_2_code 13 = .ok (.aload_n 0, 1) := by decide +kernel
theorem own_dW22_14 : decode prog_14_method_2_code 14 = .ok (.getfield 13, 3) := by decide +kernel
theorem own_dW22_17 : decode prog_14_method_2_code 17 = .ok (.iload_n 1, 1) := by decide +kernel
theorem own_dW22_18 : decode prog_14_method_2_code 18 = .ok (.iconst 1, 1) := by decide +kernel
theorem own_dW22_19 : decode prog_14_method_2_code 19 = .ok (.isub, 1) := by decide +kernel
theorem own_dW22_20 : decode prog_14_method_2_code 20 = .ok (.invokeinterface 23 2, 5) := by decide +kernel
theorem own_dW22_25 : decode prog_14_method_2_code 25 = .ok (.checkcast 27, 3) := by decide +kernel
theorem own_dW22_28 : decode prog_14_method_2_code 28 = .ok (.goto 4, 3) := by decide +kernel
theorem own_dW22_32 : decode prog_14_method_2_code 32 = .ok (.areturn, 1) := by decide +kernel
theorem own_efW22 (m : MethodId) (xo : Addr) : entryFrame m #[(.ref xo), (.int (2 : Int32))] 2 = mkF m 0 #[.val (.ref xo), .val (.int (2 : Int32))] [] := by first | (simp [entryFrame, mkF, argsToLocals, Value.category]; done) | rfl
def own_QW22 (Z : State) (xo : Addr) (xw : Addr) (xq : Addr) (y0 : Addr) (y1 : Addr) (h0 : Heap) (n0 : Nat) (v : Option Value) (h : Heap) (L : List Loc) : Prop := v = some (.ref y1) ∧ Fr n0 L ∧ h = h0
set_option maxRecDepth 65536 in
set_option maxHeartbeats 40000000 in
theorem own_rW22 (l : Launch) (Z : State) (a0 : Array Value) (hw : ∀ d ∈ tables_1, d.before a0 Z = true) (ws : List Jvm.Cond) (xo : Addr) (xw : Addr) (xq : Addr) (y0 : Addr) (y1 : Addr) (h0 : Heap) (n0 : Nat) (Z0 : n0 ≤ h0.size) (Fw : Fld Z h0 xo "com/example/entrega/entrega/RetrySchedule" "waits" "Ljava/util/List;" (.ref xw)) (Ew : Exa Z h0 xw "java/util/ImmutableCollections$List12") (F0 : Fld Z h0 xw "java/util/ImmutableCollections$List12" "e0" "Ljava/lang/Object;" (.ref y0)) (F1 : Fld Z h0 xw "java/util/ImmutableCollections$List12" "e1" "Ljava/lang/Object;" (.ref y1)) (Sq : Sta Z h0 "java/util/ImmutableCollections" "EMPTY" "Ljava/lang/Object;" (.ref xq)) (hq : ¬ y1 = xq) (Ey0 : Exa Z h0 y0 "java/time/Duration") (Ey1 : Exa Z h0 y1 "java/time/Duration") :
    MetFree l (⟨"com/example/entrega/entrega/RetrySchedule", "waitAfter", "(I)Ljava/time/Duration;"⟩ : MethodName) (head1 (Jvm.Cond.code (⟨"com/example/entrega/entrega/RetrySchedule", "waitAfter", "(I)Ljava/time/Duration;"⟩ : MethodName) prog_14_method_2_code 2 (some (.object "java/time/Duration")) :: ws) ({ frames := 1, cells := 0, slots := 0, locals := 13 } : Room)) (fun a U => a = #[(.ref xo), (.int (2 : Int32))] ∧ Z.Warmed39 U.vm ∧ U.heap = h0) (fun _ _ _ _ _ => True) (fun _ U o U' => ∃ v L, o = .returned v ∧ own_QW22 Z xo xw xq y0 y1 h0 n0 v U'.heap L ∧ FrameEnd U o U' L ({ frames := 1, cells := 0, slots := 0, locals := 13 } : Room).cells ({ frames := 1, cells := 0, slots := 0, locals := 13 } : Room).slots) := by
  refine MetFree.of_bodySF (plainFor_of_name own_pn13) hisR ?_
  intro p e s m args below meth c s₁ Bd hml0 hP hK
  obtain ⟨rfl, hZ, hh⟩ := hP
  have hx := Bd.exec
  have hby := Bd.bytes
  have hml : c.maxLocals = 2 := hml0
  have hown : s.vm.findClass "com/example/entrega/entrega/RetrySchedule" = some m.cls := findClass_of_methodNamed Bd.named
  have hnm := (name_of_methodNamed Bd.named Bd.method).1
  have X0 : Stand p l e ({ frames := 1, cells := 0, slots := 0, locals := 13 } : Room) s m #[(.ref xo), (.int (2 : Int32))] below meth c s₁ [] 0 0 := Stand.of_body Bd
  have e0 : s₁.heap = h0 := by rw [← hh, Bd.state]; rfl
  have N0 := Fr.nil n0
  show own_F p e below (fun o U' => ∃ v L, o = .returned v ∧ own_QW22 Z xo xw xq y0 y1 h0 n0 v U'.heap L ∧ FrameEnd s o U' L ({ frames := 1, cells := 0, slots := 0, locals := 13 } : Room).cells ({ frames := 1, cells := 0, slots := 0, locals := 13 } : Room).slots) s₁ (entryFrame m #[(.ref xo), (.int (2 : Int32))] 2)
  rw [own_efW22 m xo]
  refine own_go (T' := s₁) (g' := (mkF m 1 #[.val (.ref xo), .val (.int (2 : Int32))] [(.int (2 : Int32))])) (fun _ k => XS.iloadN X0.here hx rfl (hb hby own_dW22_0) rfl k) ?_
  refine own_go (T' := s₁) (g' := (mkF m 2 #[.val (.ref xo), .val (.int (2 : Int32))] [(.ref xo), (.int (2 : Int32))])) (fun _ k => XS.aloadN X0.here hx rfl (hb hby own_dW22_1) rfl rfl k) ?_
  obtain ⟨T1, X1, e1, st1⟩ := getF X0 hx hZ hown (host := "") (Or.inl (hw _ (List.mem_of_getElem? (i := 85) rfl))) Via.refl e0 Fw (g := (mkF m 2 #[.val (.ref xo), .val (.int (2 : Int32))] [(.ref xo), (.int (2 : Int32))])) rfl rfl (hb hby own_dW22_2)
  refine own_go (T' := T1) (g' := (mkF m 5 #[.val (.ref xo), .val (.int (2 : Int32))] [(.ref xw), (.int (2 : Int32))])) (fun _ k => st1 _ k) ?_
  obtain ⟨cq2, kq2, q2a, q2b, q2c⟩ := isOf hZ e1 Ew
  obtain ⟨_, _, ⟨T2, L2, k2, n2⟩, -, X2, ⟨Lc2, hQ2, l2, y2, z2⟩, st2⟩ := X1.interfaceBack hx (xi := (⟨"java/util/List", "size", "()I"⟩ : MethodName)) (y := (⟨"java/util/ImmutableCollections$List12", "size", "()I"⟩ : MethodName)) hown (mvT hZ (hw _ (List.mem_of_getElem? (i := 93) rfl))) (mvT hZ (hw _ (List.mem_of_getElem? (i := 94) rfl))) (mvT hZ (hw _ (List.mem_of_getElem? (i := 95) rfl))) (mvT hZ (hw _ (List.mem_of_getElem? (i := 213) rfl))) (mvT hZ (hw _ (List.mem_of_getElem? (i := 214) rfl))) (mvT hZ (hw _ (List.mem_of_getElem? (i := 215) rfl))) (mvT hZ (hw _ (List.mem_of_getElem? (i := 216) rfl))) (mvT hZ (hw _ (List.mem_of_getElem? (i := 217) rfl))) (by decide) (backOf (W := 1) (own_rSz2 l Z a0 hw [] xw xq y1 h0 n0 Z0 F1 Sq hq) hZ (hw _ (List.mem_of_getElem? (i := 218) rfl)) (hw _ (List.mem_of_getElem? (i := 198) rfl)) (by decide) (by decide)) q2a q2b q2c (g := (mkF m 5 #[.val (.ref xo), .val (.int (2 : Int32))] [(.ref xw), (.int (2 : Int32))])) rfl (by rw [hml]; rfl) (Steps.refl _) (argsL := []) (rest := [(.int (2 : Int32))]) (lenOf own_pd17 rfl) rfl (by show 2 * 0 + _ ≤ _; exact Nat.le_of_eq rfl) (hb hby own_dW22_5) (fun _ _ => ⟨rfl, e1, (by decide : 0 + 0 ≤ _), (by decide : 0 + 0 ≤ _)⟩)
  dsimp only [Pt.U, Pt.locs, Pt.cells, Pt.slots] at X2 l2 y2 z2 st2 hQ2
  subst l2 y2 z2
  obtain ⟨rfl, N2q, e2⟩ := hQ2
  have N2 := Fr.app N0 N2q
  refine own_goT (T' := T2) (g' := (mkF m 10 #[.val (.ref xo), .val (.int (2 : Int32))] [(.int (2 : Int32)), (.int (2 : Int32))])) st2 ?_
  refine own_go (T' := T2) (g' := (mkF m 13 #[.val (.ref xo), .val (.int (2 : Int32))] [])) (fun _ k => XS.icmpNo X2.here hx rfl (hb hby own_dW22_10) rfl (flt ((by decide) : ¬ ((2 : Int32) < (2 : Int32)))).2.2.1 k) ?_
  refine own_go (T' := T2) (g' := (mkF m 14 #[.val (.ref xo), .val (.int (2 : Int32))] [(.ref xo)])) (fun _ k => XS.aloadN X2.here hx rfl (hb hby own_dW22_13) rfl rfl k) ?_
  obtain ⟨T3, X3, e3, st3⟩ := getF X2 hx hZ hown (host := "") (Or.inl (hw _ (List.mem_of_getElem? (i := 85) rfl))) Via.refl e2 Fw (g := (mkF m 14 #[.val (.ref xo), .val (.int (2 : Int32))] [(.ref xo)])) rfl rfl (hb hby own_dW22_14)
  refine own_go (T' := T3) (g' := (mkF m 17 #[.val (.ref xo), .val (.int (2 : Int32))] [(.ref xw)])) (fun _ k => st3 _ k) ?_
  refine own_go (T' := T3) (g' := (mkF m 18 #[.val (.ref xo), .val (.int (2 : Int32))] [(.int (2 : Int32)), (.ref xw)])) (fun _ k => XS.iloadN X3.here hx rfl (hb hby own_dW22_17) rfl k) ?_
  refine own_go (T' := T3) (g' := (mkF m 19 #[.val (.ref xo), .val (.int (2 : Int32))] [(.int (1 : Int32)), (.int (2 : Int32)), (.ref xw)])) (fun _ k => XS.iconst X3.here hx rfl (hb hby own_dW22_18) k) ?_
  refine own_go (T' := T3) (g' := (mkF m 20 #[.val (.ref xo), .val (.int (2 : Int32))] [(.int (1 : Int32)), (.ref xw)])) (fun _ k => XS.isub X3.here hx rfl (hb hby own_dW22_19) rfl k) ?_
  obtain ⟨cq4, kq4, q4a, q4b, q4c⟩ := isOf hZ e3 Ew
  obtain ⟨_, _, ⟨T4, L4, k4, n4⟩, -, X4, ⟨Lc4, hQ4, l4, y4, z4⟩, st4⟩ := X3.interfaceBack hx (xi := (⟨"java/util/List", "get", "(I)Ljava/lang/Object;"⟩ : MethodName)) (y := (⟨"java/util/ImmutableCollections$List12", "get", "(I)Ljava/lang/Object;"⟩ : MethodName)) hown (mvT hZ (hw _ (List.mem_of_getElem? (i := 223) rfl))) (mvT hZ (hw _ (List.mem_of_getElem? (i := 224) rfl))) (mvT hZ (hw _ (List.mem_of_getElem? (i := 225) rfl))) (mvT hZ (hw _ (List.mem_of_getElem? (i := 226) rfl))) (mvT hZ (hw _ (List.mem_of_getElem? (i := 227) rfl))) (mvT hZ (hw _ (List.mem_of_getElem? (i := 228) rfl))) (mvT hZ (hw _ (List.mem_of_getElem? (i := 229) rfl))) (mvT hZ (hw _ (List.mem_of_getElem? (i := 217) rfl))) (by decide) (backOf (W := 0) (own_rGt1 l Z a0 hw [] xw xq y1 h0 n0 Z0 F1 Sq hq) hZ (hw _ (List.mem_of_getElem? (i := 230) rfl)) (hw _ (List.mem_of_getElem? (i := 198) rfl)) (by decide) (by decide)) q4a q4b q4c (g := (mkF m 20 #[.val (.ref xo), .val (.int (2 : Int32))] [(.int (1 : Int32)), (.ref xw)])) rfl (by rw [hml]; rfl) (Steps.refl _) (argsL := [(.int (1 : Int32))]) (rest := []) (lenOf own_pd18 rfl) rfl (by show 2 * 0 + _ ≤ _; exact Nat.le_of_eq rfl) (hb hby own_dW22_20) (fun _ _ => ⟨rfl, e3, (by decide : 0 + 0 ≤ _), (by decide : 0 + 0 ≤ _)⟩)
  dsimp only [Pt.U, Pt.locs, Pt.cells, Pt.slots] at X4 l4 y4 z4 st4 hQ4
  subst l4 y4 z4
  obtain ⟨rfl, N4q, e4⟩ := hQ4
  have N4 := Fr.app N2 N4q
  refine own_goT (T' := T4) (g' := (mkF m 25 #[.val (.ref xo), .val (.int (2 : Int32))] [(.ref y1)])) st4 ?_
  obtain ⟨T5, X5, e5, st5⟩ := castY X4 hx hZ hown (hw _ (List.mem_of_getElem? (i := 231) rfl)) e4 (Ins.self Ey1) (g := (mkF m 25 #[.val (.ref xo), .val (.int (2 : Int32))] [(.ref y1)])) rfl rfl (hb hby own_dW22_25)
  refine own_go (T' := T5) (g' := (mkF m 28 #[.val (.ref xo), .val (.int (2 : Int32))] [(.ref y1)])) (fun _ k => st5 _ k) ?_
  refine own_go (T' := T5) (g' := (mkF m 32 #[.val (.ref xo), .val (.int (2 : Int32))] [(.ref y1)])) (fun _ k => XS.goto X5.here hx rfl (pc0 := 28) (pc' := 32) rfl (hb hby own_dW22_28) (by decide) (by decide) k) ?_
  obtain ⟨fs, hr, hrun, hended, hW, hsame⟩ := X5.leave (v := some (.ref y1)) (fun h => by rw [Bd.returns] at h; cases h)
  refine own_end (retOut X5 hx Bd.returns rfl (Or.inr (Or.inr (Or.inr (Or.inr ⟨rfl, rfl, rfl⟩)))) (hb hby own_dW22_32) hr) hrun hended ⟨_, _, rfl, (?_ : own_QW22 Z xo xw xq y0 y1 h0 n0 _ T5.heap _), ⟨_, rfl⟩, hW, hsame.mono (by decide) (by decide)⟩
  rw [e5]
  exact ⟨rfl, N4, rfl⟩
theorem own_dW3g_0 : decode prog_14_method_2_code 0 = .ok (.iload_n 1, 1) := by decide +kernel
theorem own_dW3g_1 : decode prog_14_method_2_code 1 = .ok (.aload_n 0, 1) := by decide +kernel
theorem own_dW3g_2 : decode prog_14_method_2_code 2 = .ok (.getfield 13, 3) := by decide +kernel
theorem own_dW3g_5 : decode prog_14_method_2_code 5 = .ok (.invokeinterface 19 1, 5) := by decide +kernel
theorem own_dW3g_10 : decode prog_14_method_2_code 10 = .ok (.if_icmp .gt 21, 3) := by decide +kernel
theorem own_dW3g_31 : decode prog_14_method_2_code 31 = .ok (.aconst_null, 1) := by decide +kernel
theorem own_dW3g_32 : decode prog_14_method_2_code 32 = .ok (.areturn, 1) := by decide +kernel
theorem own_efW3g (m : MethodId) (xo : Addr) (xn : Int32) : entryFrame m #[(.ref xo), (.int xn)] 2 = mkF m 0 #[.val (.ref xo), .val (.int xn)] [] := by first | (simp [entryFrame, mkF, argsToLocals, Value.category]; done) | rfl
def own_QW3g (Z : State) (xo : Addr) (xn : Int32) (xw : Addr) (xa : Addr) (ka : ClassId) (y0 : Addr) (y1 : Addr) (y2 : Addr) (h0 : Heap) (n0 : Nat) (v : Option Value) (h : Heap) (L : List Loc) : Prop := v = some .null ∧ Fr n0 L ∧ h = h0
set_option maxRecDepth 65536 in
set_option maxHeartbeats 40000000 in
theorem own_rW3g (l : Launch) (Z : State) (a0 : Array Value) (hw : ∀ d ∈ tables_1, d.before a0 Z = true) (ws : List Jvm.Cond) (xo : Addr) (xn : Int32) (xw : Addr) (xa : Addr) (ka : ClassId) (y0 : Addr) (y1 : Addr) (y2 : Addr) (h0 : Heap) (n0 : Nat) (Z0 : n0 ≤ h0.size) (Fw : Fld Z h0 xo "com/example/entrega/entrega/RetrySchedule" "waits" "Ljava/util/List;" (.ref xw)) (Ew : Exa Z h0 xw "java/util/ImmutableCollections$ListN") (F1 : Fld Z h0 xw "java/util/ImmutableCollections$ListN" "elements" "[Ljava/lang/Object;" (.ref xa)) (Va : own_A Z h0 xa ka (.object "java/lang/Object") [(.ref y0), (.ref y1), (.ref y2)]) (Ey0 : Exa Z h0 y0 "java/time/Duration") (Ey1 : Exa Z h0 y1 "java/time/Duration") (Ey2 : Exa Z h0 y2 "java/time/Duration") (hgt : (3 : Int32) < xn) :
    MetFree l (⟨"com/example/entrega/entrega/RetrySchedule", "waitAfter", "(I)Ljava/time/Duration;"⟩ : MethodName) (head1 (Jvm.Cond.code (⟨"com/example/entrega/entrega/RetrySchedule", "waitAfter", "(I)Ljava/time/Duration;"⟩ : MethodName) prog_14_method_2_code 2 (some (.object "java/time/Duration")) :: ws) ({ frames := 1, cells := 0, slots := 0, locals := 13 } : Room)) (fun a U => a = #[(.ref xo), (.int xn)] ∧ Z.Warmed39 U.vm ∧ U.heap = h0) (fun _ _ _ _ _ => True) (fun _ U o U' => ∃ v L, o = .returned v ∧ own_QW3g Z xo xn xw xa ka y0 y1 y2 h0 n0 v U'.heap L ∧ FrameEnd U o U' L ({ frames := 1, cells := 0, slots := 0, locals := 13 } : Room).cells ({ frames := 1, cells := 0, slots := 0, locals := 13 } : Room).slots) := by
  refine MetFree.of_bodySF (plainFor_of_name own_pn13) hisR ?_
  intro p e s m args below meth c s₁ Bd hml0 hP hK
  obtain ⟨rfl, hZ, hh⟩ := hP
  have hx := Bd.exec
  have hby := Bd.bytes
  have hml : c.maxLocals = 2 := hml0
  have hown : s.vm.findClass "com/example/entrega/entrega/RetrySchedule" = some m.cls := findClass_of_methodNamed Bd.named
  have hnm := (name_of_methodNamed Bd.named Bd.method).1
  have X0 : Stand p l e ({ frames := 1, cells := 0, slots := 0, locals := 13 } : Room) s m #[(.ref xo), (.int xn)] below meth c s₁ [] 0 0 := Stand.of_body Bd
  have e0 : s₁.heap = h0 := by rw [← hh, Bd.state]; rfl
  have N0 := Fr.nil n0
  show own_F p e below (fun o U' => ∃ v L, o = .returned v ∧ own_QW3g Z xo xn xw xa ka y0 y1 y2 h0 n0 v U'.heap L ∧ FrameEnd s o U' L ({ frames := 1, cells := 0, slots := 0, locals := 13 } : Room).cells ({ frames := 1, cells := 0, slots := 0, locals := 13 } : Room).slots) s₁ (entryFrame m #[(.ref xo), (.int xn)] 2)
  rw [own_efW3g m xo xn]
  refine own_go (T' := s₁) (g' := (mkF m 1 #[.val (.ref xo), .val (.int xn)] [(.int xn)])) (fun _ k => XS.iloadN X0.here hx rfl (hb hby own_dW3g_0) rfl k) ?_
  refine own_go (T' := s₁) (g' := (mkF m 2 #[.val (.ref xo), .val (.int xn)] [(.ref xo), (.int xn)])) (fun _ k => XS.aloadN X0.here hx rfl (hb hby own_dW3g_1) rfl rfl k) ?_
  obtain ⟨T1, X1, e1, st1⟩ := getF X0 hx hZ hown (host := "") (Or.inl (hw _ (List.mem_of_getElem? (i := 85) rfl))) Via.refl e0 Fw (g := (mkF m 2 #[.val (.ref xo), .val (.int xn)] [(.ref xo), (.int xn)])) rfl rfl (hb hby own_dW3g_2)
  refine own_go (T' := T1) (g' := (mkF m 5 #[.val (.ref xo), .val (.int xn)] [(.ref xw), (.int xn)])) (fun _ k => st1 _ k) ?_
  obtain ⟨cq2, kq2, q2a, q2b, q2c⟩ := isOf hZ e1 Ew
  obtain ⟨_, _, ⟨T2, L2, k2, n2⟩, -, X2, ⟨Lc2, hQ2, l2, y2, z2⟩, st2⟩ := X1.interfaceBack hx (xi := (⟨"java/util/List", "size", "()I"⟩ : MethodName)) (y := (⟨"java/util/ImmutableCollections$ListN", "size", "()I"⟩ : MethodName)) hown (mvT hZ (hw _ (List.mem_of_getElem? (i := 93) rfl))) (mvT hZ (hw _ (List.mem_of_getElem? (i := 94) rfl))) (mvT hZ (hw _ (List.mem_of_getElem? (i := 95) rfl))) (mvT hZ (hw _ (List.mem_of_getElem? (i := 96) rfl))) (mvT hZ (hw _ (List.mem_of_getElem? (i := 97) rfl))) (mvT hZ (hw _ (List.mem_of_getElem? (i := 98) rfl))) (mvT hZ (hw _ (List.mem_of_getElem? (i := 99) rfl))) (mvT hZ (hw _ (List.mem_of_getElem? (i := 100) rfl))) (by decide) (backOf (W := 1) (own_rSzn3 l Z a0 hw [] xw xa ka y0 y1 y2 h0 n0 Z0 F1 Va) hZ (hw _ (List.mem_of_getElem? (i := 102) rfl)) (hw _ (List.mem_of_getElem? (i := 101) rfl)) (by decide) (by decide)) q2a q2b q2c (g := (mkF m 5 #[.val (.ref xo), .val (.int xn)] [(.ref xw), (.int xn)])) rfl (by rw [hml]; rfl) (Steps.refl _) (argsL := []) (rest := [(.int xn)]) (lenOf own_pd17 rfl) rfl (by show 2 * 0 + _ ≤ _; exact Nat.le_of_eq rfl) (hb hby own_dW3g_5) (fun _ _ => ⟨rfl, e1, (by decide : 0 + 0 ≤ _), (by decide : 0 + 0 ≤ _)⟩)
  dsimp only [Pt.U, Pt.locs, Pt.cells, Pt.slots] at X2 l2 y2 z2 st2 hQ2
  subst l2 y2 z2
  obtain ⟨rfl, N2q, e2⟩ := hQ2
  have N2 := Fr.app N0 N2q
  refine own_goT (T' := T2) (g' := (mkF m 10 #[.val (.ref xo), .val (.int xn)] [(.int (3 : Int32)), (.int xn)])) st2 ?_
  refine own_go (T' := T2) (g' := (mkF m 31 #[.val (.ref xo), .val (.int xn)] [])) (fun _ k => XS.icmpYes X2.here hx rfl (pc0 := 10) (pc' := 31) rfl (hb hby own_dW3g_10) rfl (tlt (hgt : (3 : Int32) < xn)).2.2.1 (by decide) (by decide) k) ?_
  refine own_go (T' := T2) (g' := (mkF m 32 #[.val (.ref xo), .val (.int xn)] [.null])) (fun _ k => XS.aconstNull X2.here hx rfl (hb hby own_dW3g_31) k) ?_
  obtain ⟨fs, hr, hrun, hended, hW, hsame⟩ := X2.leave (v := some .null) (fun h => by rw [Bd.returns] at h; cases h)
  refine own_end (retOut X2 hx Bd.returns rfl (Or.inr (Or.inr (Or.inr (Or.inr ⟨rfl, rfl, rfl⟩)))) (hb hby own_dW3g_32) hr) hrun hended ⟨_, _, rfl, (?_ : own_QW3g Z xo xn xw xa ka y0 y1 y2 h0 n0 _ T2.heap _), ⟨_, rfl⟩, hW, hsame.mono (by decide) (by decide)⟩
  rw [e2]
  exact ⟨rfl, N2, rfl⟩
theorem own_dW31_0 : decode prog_14_method_2_code 0 = .ok (.iload_n 1, 1) := by decide +kernel
theorem own_dW31_1 : decode prog_14_method_2_code 1 = .ok (.aload_n 0, 1) := by decide +kernel
theorem own_dW31_2 : decode prog_14_method_2_code 2 = .ok (.getfield 13, 3) := by decide +kernel
theorem own_dW31_5 : decode prog_14_method_2_code 5 = .ok (.invokeinterface 19 1, 5) := by decide +kernel
theorem own_dW31_10 : decode prog_14_method_2_code 10 = .ok (.if_icmp .gt 21, 3) := by decide +kernel
theorem own_dW31_13 : decode prog_14_method_2_code 13 = .ok (.aload_n 0, 1) := by decide +kernel
theorem own_dW31_14 : decode prog_14_method_2_code 14 = .ok (.getfield 13, 3) := by decide +kernel
theorem own_dW31_17 : decode prog_14_method_2_code 17 = .ok (.iload_n 1, 1) := by decide +kernel
theorem own_dW31_18 : decode prog_14_method_2_code 18 = .ok (.iconst 1, 1) := by decide +kernel
theorem own_dW31_19 : decode prog_14_method_2_code 19 = .ok (.isub, 1) := by decide +kernel
theorem own_dW31_20 : decode prog_14_method_2_code 20 = .ok (.invokeinterface 23 2, 5) := by decide +kernel
theorem own_dW31_25 : decode prog_14_method_2_code 25 = .ok (.checkcast 27, 3) := by decide +kernel
theorem own_dW31_28 : decode prog_14_method_2_code 28 = .ok (.goto 4, 3) := by decide +kernel
theorem own_dW31_32 : decode prog_14_method_2_code 32 = .ok (.areturn, 1) := by decide +kernel
theorem own_efW31 (m : MethodId) (xo : Addr) : entryFrame m #[(.ref xo), (.int (1 : Int32))] 2 = mkF m 0 #[.val (.ref xo), .val (.int (1 : Int32))] [] := by first | (simp [entryFrame, mkF, argsToLocals, Value.category]; done) | rfl
def own_QW31 (Z : State) (xo : Addr) (xw : Addr) (xa : Addr) (ka : ClassId) (y0 : Addr) (y1 : Addr) (y2 : Addr) (h0 : Heap) (n0 : Nat) (v : Option Value) (h : Heap) (L : List Loc) : Prop := v = some (.ref y0) ∧ Fr n0 L ∧ h = h0
set_option maxRecDepth 65536 in
set_option maxHeartbeats 40000000 in
theorem own_rW31 (l : Launch) (Z : State) (a0 : Array Value) (hw : ∀ d ∈ tables_1, d.before a0 Z = true) (ws : List Jvm.Cond) (xo : Addr) (xw : Addr) (xa : Addr) (ka : ClassId) (y0 : Addr) (y1 : Addr) (y2 : Addr) (h0 : Heap) (n0 : Nat) (Z0 : n0 ≤ h0.size) (Fw : Fld Z h0 xo "com/example/entrega/entrega/RetrySchedule" "waits" "Ljava/util/List;" (.ref xw)) (Ew : Exa Z h0 xw "java/util/ImmutableCollections$ListN") (F1 : Fld Z h0 xw "java/util/ImmutableCollections$ListN" "elements" "[Ljava/lang/Object;" (.ref xa)) (Va : own_A Z h0 xa ka (.object "java/lang/Object") [(.ref y0), (.ref y1), (.ref y2)]) (Ey0 : Exa Z h0 y0 "java/time/Duration") (Ey1 : Exa Z h0 y1 "java/time/Duration") (Ey2 : Exa Z h0 y2 "java/time/Duration") :
    MetFree l (⟨"com/example/entrega/entrega/RetrySchedule", "waitAfter", "(I)Ljava/time/Duration;"⟩ : MethodName) (head1 (Jvm.Cond.code (⟨"com/example/entrega/entrega/RetrySchedule", "waitAfter", "(I)Ljava/time/Duration;"⟩ : MethodName) prog_14_method_2_code 2 (some (.object "java/time/Duration")) :: ws) ({ frames := 1, cells := 0, slots := 0, locals := 13 } : Room)) (fun a U => a = #[(.ref xo), (.int (1 : Int32))] ∧ Z.Warmed39 U.vm ∧ U.heap = h0) (fun _ _ _ _ _ => True) (fun _ U o U' => ∃ v L, o = .returned v ∧ own_QW31 Z xo xw xa ka y0 y1 y2 h0 n0 v U'.heap L ∧ FrameEnd U o U' L ({ frames := 1, cells := 0, slots := 0, locals := 13 } : Room).cells ({ frames := 1, cells := 0, slots := 0, locals := 13 } : Room).slots) := by
  refine MetFree.of_bodySF (plainFor_of_name own_pn13) hisR ?_
  intro p e s m args below meth c s₁ Bd hml0 hP hK
  obtain ⟨rfl, hZ, hh⟩ := hP
  have hx := Bd.exec
  have hby := Bd.bytes
  have hml : c.maxLocals = 2 := hml0
  have hown : s.vm.findClass "com/example/entrega/entrega/RetrySchedule" = some m.cls := findClass_of_methodNamed Bd.named
  have hnm := (name_of_methodNamed Bd.named Bd.method).1
  have X0 : Stand p l e ({ frames := 1, cells := 0, slots := 0, locals := 13 } : Room) s m #[(.ref xo), (.int (1 : Int32))] below meth c s₁ [] 0 0 := Stand.of_body Bd
  have e0 : s₁.heap = h0 := by rw [← hh, Bd.state]; rfl
  have N0 := Fr.nil n0
  show own_F p e below (fun o U' => ∃ v L, o = .returned v ∧ own_QW31 Z xo xw xa ka y0 y1 y2 h0 n0 v U'.heap L ∧ FrameEnd s o U' L ({ frames := 1, cells := 0, slots := 0, locals := 13 } : Room).cells ({ frames := 1, cells := 0, slots := 0, locals := 13 } : Room).slots) s₁ (entryFrame m #[(.ref xo), (.int (1 : Int32))] 2)
  rw [own_efW31 m xo]
  refine own_go (T' := s₁) (g' := (mkF m 1 #[.val (.ref xo), .val (.int (1 : Int32))] [(.int (1 : Int32))])) (fun _ k => XS.iloadN X0.here hx rfl (hb hby own_dW31_0) rfl k) ?_
  refine own_go (T' := s₁) (g' := (mkF m 2 #[.val (.ref xo), .val (.int (1 : Int32))] [(.ref xo), (.int (1 : Int32))])) (fun _ k => XS.aloadN X0.here hx rfl (hb hby own_dW31_1) rfl rfl k) ?_
  obtain ⟨T1, X1, e1, st1⟩ := getF X0 hx hZ hown (host := "") (Or.inl (hw _ (List.mem_of_getElem? (i := 85) rfl))) Via.refl e0 Fw (g := (mkF m 2 #[.val (.ref xo), .val (.int (1 : Int32))] [(.ref xo), (.int (1 : Int32))])) rfl rfl (hb hby own_dW31_2)
  refine own_go (T' := T1) (g' := (mkF m 5 #[.val (.ref xo), .val (.int (1 : Int32))] [(.ref xw), (.int (1 : Int32))])) (fun _ k => st1 _ k) ?_
  obtain ⟨cq2, kq2, q2a, q2b, q2c⟩ := isOf hZ e1 Ew
  obtain ⟨_, _, ⟨T2, L2, k2, n2⟩, -, X2, ⟨Lc2, hQ2, l2, y2, z2⟩, st2⟩ := X1.interfaceBack hx (xi := (⟨"java/util/List", "size", "()I"⟩ : MethodName)) (y := (⟨"java/util/ImmutableCollections$ListN", "size", "()I"⟩ : MethodName)) hown (mvT hZ (hw _ (List.mem_of_getElem? (i := 93) rfl))) (mvT hZ (hw _ (List.mem_of_getElem? (i := 94) rfl))) (mvT hZ (hw _ (List.mem_of_getElem? (i := 95) rfl))) (mvT hZ (hw _ (List.mem_of_getElem? (i := 96) rfl))) (mvT hZ (hw _ (List.mem_of_getElem? (i := 97) rfl))) (mvT hZ (hw _ (List.mem_of_getElem? (i := 98) rfl))) (mvT hZ (hw _ (List.mem_of_getElem? (i := 99) rfl))) (mvT hZ (hw _ (List.mem_of_getElem? (i := 100) rfl))) (by decide) (backOf (W := 1) (own_rSzn3 l Z a0 hw [] xw xa ka y0 y1 y2 h0 n0 Z0 F1 Va) hZ (hw _ (List.mem_of_getElem? (i := 102) rfl)) (hw _ (List.mem_of_getElem? (i := 101) rfl)) (by decide) (by decide)) q2a q2b q2c (g := (mkF m 5 #[.val (.ref xo), .val (.int (1 : Int32))] [(.ref xw), (.int (1 : Int32))])) rfl (by rw [hml]; rfl) (Steps.refl _) (argsL := []) (rest := [(.int (1 : Int32))]) (lenOf own_pd17 rfl) rfl (by show 2 * 0 + _ ≤ _; exact Nat.le_of_eq rfl) (hb hby own_dW31_5) (fun _ _ => ⟨rfl, e1, (by decide : 0 + 0 ≤ _), (by decide : 0 + 0 ≤ _)⟩)
  dsimp only [Pt.U, Pt.locs, Pt.cells, Pt.slots] at X2 l2 y2 z2 st2 hQ2
  subst l2 y2 z2
  obtain ⟨rfl, N2q, e2⟩ := hQ2
  have N2 := Fr.app N0 N2q
  refine own_goT (T' := T2) (g' := (mkF m 10 #[.val (.ref xo), .val (.int (1 : Int32))] [(.int (3 : Int32)), (.int (1 : Int32))])) st2 ?_
  refine own_go (T' := T2) (g' := (mkF m 13 #[.val (.ref xo), .val (.int (1 : Int32))] [])) (fun _ k => XS.icmpNo X2.here hx rfl (hb hby own_dW31_10) rfl (flt ((by decide) : ¬ ((3 : Int32) < (1 : Int32)))).2.2.1 k) ?_
  refine own_go (T' := T2) (g' := (mkF m 14 #[.val (.ref xo), .val (.int (1 : Int32))] [(.ref xo)])) (fun _ k => XS.aloadN X2.here hx rfl (hb hby own_dW31_13) rfl rfl k) ?_
  obtain ⟨T3, X3, e3, st3⟩ := getF X2 hx hZ hown (host := "") (Or.inl (hw _ (List.mem_of_getElem? (i := 85) rfl))) Via.refl e2 Fw (g := (mkF m 14 #[.val (.ref xo), .val (.int (1 : Int32))] [(.ref xo)])) rfl rfl (hb hby own_dW31_14)
  refine own_go (T' := T3) (g' := (mkF m 17 #[.val (.ref xo), .val (.int (1 : Int32))] [(.ref xw)])) (fun _ k => st3 _ k) ?_
  refine own_go (T' := T3) (g' := (mkF m 18 #[.val (.ref xo), .val (.int (1 : Int32))] [(.int (1 : Int32)), (.ref xw)])) (fun _ k => XS.iloadN X3.here hx rfl (hb hby own_dW31_17) rfl k) ?_
  refine own_go (T' := T3) (g' := (mkF m 19 #[.val (.ref xo), .val (.int (1 : Int32))] [(.int (1 : Int32)), (.int (1 : Int32)), (.ref xw)])) (fun _ k => XS.iconst X3.here hx rfl (hb hby own_dW31_18) k) ?_
  refine own_go (T' := T3) (g' := (mkF m 20 #[.val (.ref xo), .val (.int (1 : Int32))] [(.int (0 : Int32)), (.ref xw)])) (fun _ k => XS.isub X3.here hx rfl (hb hby own_dW31_19) rfl k) ?_
  obtain ⟨cq4, kq4, q4a, q4b, q4c⟩ := isOf hZ e3 Ew
  obtain ⟨_, _, ⟨T4, L4, k4, n4⟩, -, X4, ⟨Lc4, hQ4, l4, y4, z4⟩, st4⟩ := X3.interfaceBack hx (xi := (⟨"java/util/List", "get", "(I)Ljava/lang/Object;"⟩ : MethodName)) (y := (⟨"java/util/ImmutableCollections$ListN", "get", "(I)Ljava/lang/Object;"⟩ : MethodName)) hown (mvT hZ (hw _ (List.mem_of_getElem? (i := 223) rfl))) (mvT hZ (hw _ (List.mem_of_getElem? (i := 224) rfl))) (mvT hZ (hw _ (List.mem_of_getElem? (i := 225) rfl))) (mvT hZ (hw _ (List.mem_of_getElem? (i := 232) rfl))) (mvT hZ (hw _ (List.mem_of_getElem? (i := 233) rfl))) (mvT hZ (hw _ (List.mem_of_getElem? (i := 234) rfl))) (mvT hZ (hw _ (List.mem_of_getElem? (i := 235) rfl))) (mvT hZ (hw _ (List.mem_of_getElem? (i := 100) rfl))) (by decide) (backOf (W := 0) (own_rGn0 l Z a0 hw [] xw xa ka y0 y1 y2 h0 n0 Z0 F1 Va) hZ (hw _ (List.mem_of_getElem? (i := 236) rfl)) (hw _ (List.mem_of_getElem? (i := 101) rfl)) (by decide) (by decide)) q4a q4b q4c (g := (mkF m 20 #[.val (.ref xo), .val (.int (1 : Int32))] [(.int (0 : Int32)), (.ref xw)])) rfl (by rw [hml]; rfl) (Steps.refl _) (argsL := [(.int (0 : Int32))]) (rest := []) (lenOf own_pd18 rfl) rfl (by show 2 * 0 + _ ≤ _; exact Nat.le_of_eq rfl) (hb hby own_dW31_20) (fun _ _ => ⟨rfl, e3, (by decide : 0 + 0 ≤ _), (by decide : 0 + 0 ≤ _)⟩)
  dsimp only [Pt.U, Pt.locs, Pt.cells, Pt.slots] at X4 l4 y4 z4 st4 hQ4
  subst l4 y4 z4
  obtain ⟨rfl, N4q, e4⟩ := hQ4
  have N4 := Fr.app N2 N4q
  refine own_goT (T' := T4) (g' := (mkF m 25 #[.val (.ref xo), .val (.int (1 : Int32))] [(.ref y0)])) st4 ?_
  obtain ⟨T5, X5, e5, st5⟩ := castY X4 hx hZ hown (hw _ (List.mem_of_getElem? (i := 231) rfl)) e4 (Ins.self Ey0) (g := (mkF m 25 #[.val (.ref xo), .val (.int (1 : Int32))] [(.ref y0)])) rfl rfl (hb hby own_dW31_25)
  refine own_go (T' := T5) (g' := (mkF m 28 #[.val (.ref xo), .val (.int (1 : Int32))] [(.ref y0)])) (fun _ k => st5 _ k) ?_
  refine own_go (T' := T5) (g' := (mkF m 32 #[.val (.ref xo), .val (.int (1 : Int32))] [(.ref y0)])) (fun _ k => XS.goto X5.here hx rfl (pc0 := 28) (pc' := 32) rfl (hb hby own_dW31_28) (by decide) (by decide) k) ?_
  obtain ⟨fs, hr, hrun, hended, hW, hsame⟩ := X5.leave (v := some (.ref y0)) (fun h => by rw [Bd.returns] at h; cases h)
  refine own_end (retOut X5 hx Bd.returns rfl (Or.inr (Or.inr (Or.inr (Or.inr ⟨rfl, rfl, rfl⟩)))) (hb hby own_dW31_32) hr) hrun hended ⟨_, _, rfl, (?_ : own_QW31 Z xo xw xa ka y0 y1 y2 h0 n0 _ T5.heap _), ⟨_, rfl⟩, hW, hsame.mono (by decide) (by decide)⟩
  rw [e5]
  exact ⟨rfl, N4, rfl⟩
theorem own_dW32_0 : decode prog_14_method_2_code 0 = .ok (.iload_n 1, 1) := by decide +kernel
theorem own_dW32_1 : decode prog_14_method_2_code 1 = .ok (.aload_n 0, 1) := by decide +kernel
theorem own_dW32_2 : decode prog_14_method_2_code 2 = .ok (.getfield 13, 3) := by decide +kernel
theorem own_dW32_5 : decode prog_14_method_2_code 5 = .ok (.invokeinterface 19 1, 5) := by decide +kernel
theorem own_dW32_10 : decode prog_14_method_2_code 10 = .ok (.if_icmp .gt 21, 3) := by decide +kernel
theorem own_dW32_13 : decode prog_14_method_2_code 13 = .ok (.aload_n 0, 1) := by decide +kernel
theorem own_dW32_14 : decode prog_14_method_2_code 14 = .ok (.getfield 13, 3) := by decide +kernel
theorem own_dW32_17 : decode prog_14_method_2_code 17 = .ok (.iload_n 1, 1) := by decide +kernel
theorem own_dW32_18 : decode prog_14_method_2_code 18 = .ok (.iconst 1, 1) := by decide +kernel
theorem own_dW32_19 : decode prog_14_method_2_code 19 = .ok (.isub, 1) := by decide +kernel
theorem own_dW32_20 : decode prog_14_method_2_code 20 = .ok (.invokeinterface 23 2, 5) := by decide +kernel
theorem own_dW32_25 : decode prog_14_method_2_code 25 = .ok (.checkcast 27, 3) := by decide +kernel
theorem own_dW32_28 : decode prog_14_method_2_code 28 = .ok (.goto 4, 3) := by decide +kernel
theorem own_dW32_32 : decode prog_14_method_2_code 32 = .ok (.areturn, 1) := by decide +kernel
theorem own_efW32 (m : MethodId) (xo : Addr) : entryFrame m #[(.ref xo), (.int (2 : Int32))] 2 = mkF m 0 #[.val (.ref xo), .val (.int (2 : Int32))] [] := by first | (simp [entryFrame, mkF, argsToLocals, Value.category]; done) | rfl
def own_QW32 (Z : State) (xo : Addr) (xw : Addr) (xa : Addr) (ka : ClassId) (y0 : Addr) (y1 : Addr) (y2 : Addr) (h0 : Heap) (n0 : Nat) (v : Option Value) (h : Heap) (L : List Loc) : Prop := v = some (.ref y1) ∧ Fr n0 L ∧ h = h0
set_option maxRecDepth 65536 in
set_option maxHeartbeats 40000000 in
theorem own_rW32 (l : Launch) (Z : State) (a0 : Array Value) (hw : ∀ d ∈ tables_1, d.before a0 Z = true) (ws : List Jvm.Cond) (xo : Addr) (xw : Addr) (xa : Addr) (ka : ClassId) (y0 : Addr) (y1 : Addr) (y2 : Addr) (h0 : Heap) (n0 : Nat) (Z0 : n0 ≤ h0.size) (Fw : Fld Z h0 xo "com/example/entrega/entrega/RetrySchedule" "waits" "Ljava/util/List;" (.ref xw)) (Ew : Exa Z h0 xw "java/util/ImmutableCollections$ListN") (F1 : Fld Z h0 xw "java/util/ImmutableCollections$ListN" "elements" "[Ljava/lang/Object;" (.ref xa)) (Va : own_A Z h0 xa ka (.object "java/lang/Object") [(.ref y0), (.ref y1), (.ref y2)]) (Ey0 : Exa Z h0 y0 "java/time/Duration") (Ey1 : Exa Z h0 y1 "java/time/Duration") (Ey2 : Exa Z h0 y2 "java/time/Duration") :
    MetFree l (⟨"com/example/entrega/entrega/RetrySchedule", "waitAfter", "(I)Ljava/time/Duration;"⟩ : MethodName) (head1 (Jvm.Cond.code (⟨"com/example/entrega/entrega/RetrySchedule", "waitAfter", "(I)Ljava/time/Duration;"⟩ : MethodName) prog_14_method_2_code 2 (some (.object "java/time/Duration")) :: ws) ({ frames := 1, cells := 0, slots := 0, locals := 13 } : Room)) (fun a U => a = #[(.ref xo), (.int (2 : Int32))] ∧ Z.Warmed39 U.vm ∧ U.heap = h0) (fun _ _ _ _ _ => True) (fun _ U o U' => ∃ v L, o = .returned v ∧ own_QW32 Z xo xw xa ka y0 y1 y2 h0 n0 v U'.heap L ∧ FrameEnd U o U' L ({ frames := 1, cells := 0, slots := 0, locals := 13 } : Room).cells ({ frames := 1, cells := 0, slots := 0, locals := 13 } : Room).slots) := by
  refine MetFree.of_bodySF (plainFor_of_name own_pn13) hisR ?_
  intro p e s m args below meth c s₁ Bd hml0 hP hK
  obtain ⟨rfl, hZ, hh⟩ := hP
  have hx := Bd.exec
  have hby := Bd.bytes
  have hml : c.maxLocals = 2 := hml0
  have hown : s.vm.findClass "com/example/entrega/entrega/RetrySchedule" = some m.cls := findClass_of_methodNamed Bd.named
  have hnm := (name_of_methodNamed Bd.named Bd.method).1
  have X0 : Stand p l e ({ frames := 1, cells := 0, slots := 0, locals := 13 } : Room) s m #[(.ref xo), (.int (2 : Int32))] below meth c s₁ [] 0 0 := Stand.of_body Bd
  have e0 : s₁.heap = h0 := by rw [← hh, Bd.state]; rfl
  have N0 := Fr.nil n0
  show own_F p e below (fun o U' => ∃ v L, o = .returned v ∧ own_QW32 Z xo xw xa ka y0 y1 y2 h0 n0 v U'.heap L ∧ FrameEnd s o U' L ({ frames := 1, cells := 0, slots := 0, locals := 13 } : Room).cells ({ frames := 1, cells := 0, slots := 0, locals := 13 } : Room).slots) s₁ (entryFrame m #[(.ref xo), (.int (2 : Int32))] 2)
  rw [own_efW32 m xo]
  refine own_go (T' := s₁) (g' := (mkF m 1 #[.val (.ref xo), .val (.int (2 : Int32))] [(.int (2 : Int32))])) (fun _ k => XS.iloadN X0.here hx rfl (hb hby own_dW32_0) rfl k) ?_
  refine own_go (T' := s₁) (g' := (mkF m 2 #[.val (.ref xo), .val (.int (2 : Int32))] [(.ref xo), (.int (2 : Int32))])) (fun _ k => XS.aloadN X0.here hx rfl (hb hby own_dW32_1) rfl rfl k) ?_
  obtain ⟨T1, X1, e1, st1⟩ := getF X0 hx hZ hown (host := "") (Or.inl (hw _ (List.mem_of_getElem? (i := 85) rfl))) Via.refl e0 Fw (g := (mkF m 2 #[.val (.ref xo), .val (.int (2 : Int32))] [(.ref xo), (.int (2 : Int32))])) rfl rfl (hb hby own_dW32_2)
  refine own_go (T' := T1) (g' := (mkF m 5 #[.val (.ref xo), .val (.int (2 : Int32))] [(.ref xw), (.int (2 : Int32))])) (fun _ k => st1 _ k) ?_
  obtain ⟨cq2, kq2, q2a, q2b, q2c⟩ := isOf hZ e1 Ew
  obtain ⟨_, _, ⟨T2, L2, k2, n2⟩, -, X2, ⟨Lc2, hQ2, l2, y2, z2⟩, st2⟩ := X1.interfaceBack hx (xi := (⟨"java/util/List", "size", "()I"⟩ : MethodName)) (y := (⟨"java/util/ImmutableCollections$ListN", "size", "()I"⟩ : MethodName)) hown (mvT hZ (hw _ (List.mem_of_getElem? (i := 93) rfl))) (mvT hZ (hw _ (List.mem_of_getElem? (i := 94) rfl))) (mvT hZ (hw _ (List.mem_of_getElem? (i := 95) rfl))) (mvT hZ (hw _ (List.mem_of_getElem? (i := 96) rfl))) (mvT hZ (hw _ (List.mem_of_getElem? (i := 97) rfl))) (mvT hZ (hw _ (List.mem_of_getElem? (i := 98) rfl))) (mvT hZ (hw _ (List.mem_of_getElem? (i := 99) rfl))) (mvT hZ (hw _ (List.mem_of_getElem? (i := 100) rfl))) (by decide) (backOf (W := 1) (own_rSzn3 l Z a0 hw [] xw xa ka y0 y1 y2 h0 n0 Z0 F1 Va) hZ (hw _ (List.mem_of_getElem? (i := 102) rfl)) (hw _ (List.mem_of_getElem? (i := 101) rfl)) (by decide) (by decide)) q2a q2b q2c (g := (mkF m 5 #[.val (.ref xo), .val (.int (2 : Int32))] [(.ref xw), (.int (2 : Int32))])) rfl (by rw [hml]; rfl) (Steps.refl _) (argsL := []) (rest := [(.int (2 : Int32))]) (lenOf own_pd17 rfl) rfl (by show 2 * 0 + _ ≤ _; exact Nat.le_of_eq rfl) (hb hby own_dW32_5) (fun _ _ => ⟨rfl, e1, (by decide : 0 + 0 ≤ _), (by decide : 0 + 0 ≤ _)⟩)
  dsimp only [Pt.U, Pt.locs, Pt.cells, Pt.slots] at X2 l2 y2 z2 st2 hQ2
  subst l2 y2 z2
  obtain ⟨rfl, N2q, e2⟩ := hQ2
  have N2 := Fr.app N0 N2q
  refine own_goT (T' := T2) (g' := (mkF m 10 #[.val (.ref xo), .val (.int (2 : Int32))] [(.int (3 : Int32)), (.int (2 : Int32))])) st2 ?_
  refine own_go (T' := T2) (g' := (mkF m 13 #[.val (.ref xo), .val (.int (2 : Int32))] [])) (fun _ k => XS.icmpNo X2.here hx rfl (hb hby own_dW32_10) rfl (flt ((by decide) : ¬ ((3 : Int32) < (2 : Int32)))).2.2.1 k) ?_
  refine own_go (T' := T2) (g' := (mkF m 14 #[.val (.ref xo), .val (.int (2 : Int32))] [(.ref xo)])) (fun _ k => XS.aloadN X2.here hx rfl (hb hby own_dW32_13) rfl rfl k) ?_
  obtain ⟨T3, X3, e3, st3⟩ := getF X2 hx hZ hown (host := "") (Or.inl (hw _ (List.mem_of_getElem? (i := 85) rfl))) Via.refl e2 Fw (g := (mkF m 14 #[.val (.ref xo), .val (.int (2 : Int32))] [(.ref xo)])) rfl rfl (hb hby own_dW32_14)
  refine own_go (T' := T3) (g' := (mkF m 17 #[.val (.ref xo), .val (.int (2 : Int32))] [(.ref xw)])) (fun _ k => st3 _ k) ?_
  refine own_go (T' := T3) (g' := (mkF m 18 #[.val (.ref xo), .val (.int (2 : Int32))] [(.int (2 : Int32)), (.ref xw)])) (fun _ k => XS.iloadN X3.here hx rfl (hb hby own_dW32_17) rfl k) ?_
  refine own_go (T' := T3) (g' := (mkF m 19 #[.val (.ref xo), .val (.int (2 : Int32))] [(.int (1 : Int32)), (.int (2 : Int32)), (.ref xw)])) (fun _ k => XS.iconst X3.here hx rfl (hb hby own_dW32_18) k) ?_
  refine own_go (T' := T3) (g' := (mkF m 20 #[.val (.ref xo), .val (.int (2 : Int32))] [(.int (1 : Int32)), (.ref xw)])) (fun _ k => XS.isub X3.here hx rfl (hb hby own_dW32_19) rfl k) ?_
  obtain ⟨cq4, kq4, q4a, q4b, q4c⟩ := isOf hZ e3 Ew
  obtain ⟨_, _, ⟨T4, L4, k4, n4⟩, -, X4, ⟨Lc4, hQ4, l4, y4, z4⟩, st4⟩ := X3.interfaceBack hx (xi := (⟨"java/util/List", "get", "(I)Ljava/lang/Object;"⟩ : MethodName)) (y := (⟨"java/util/ImmutableCollections$ListN", "get", "(I)Ljava/lang/Object;"⟩ : MethodName)) hown (mvT hZ (hw _ (List.mem_of_getElem? (i := 223) rfl))) (mvT hZ (hw _ (List.mem_of_getElem? (i := 224) rfl))) (mvT hZ (hw _ (List.mem_of_getElem? (i := 225) rfl))) (mvT hZ (hw _ (List.mem_of_getElem? (i := 232) rfl))) (mvT hZ (hw _ (List.mem_of_getElem? (i := 233) rfl))) (mvT hZ (hw _ (List.mem_of_getElem? (i := 234) rfl))) (mvT hZ (hw _ (List.mem_of_getElem? (i := 235) rfl))) (mvT hZ (hw _ (List.mem_of_getElem? (i := 100) rfl))) (by decide) (backOf (W := 0) (own_rGn1 l Z a0 hw [] xw xa ka y0 y1 y2 h0 n0 Z0 F1 Va) hZ (hw _ (List.mem_of_getElem? (i := 236) rfl)) (hw _ (List.mem_of_getElem? (i := 101) rfl)) (by decide) (by decide)) q4a q4b q4c (g := (mkF m 20 #[.val (.ref xo), .val (.int (2 : Int32))] [(.int (1 : Int32)), (.ref xw)])) rfl (by rw [hml]; rfl) (Steps.refl _) (argsL := [(.int (1 : Int32))]) (rest := []) (lenOf own_pd18 rfl) rfl (by show 2 * 0 + _ ≤ _; exact Nat.le_of_eq rfl) (hb hby own_dW32_20) (fun _ _ => ⟨rfl, e3, (by decide : 0 + 0 ≤ _), (by decide : 0 + 0 ≤ _)⟩)
  dsimp only [Pt.U, Pt.locs, Pt.cells, Pt.slots] at X4 l4 y4 z4 st4 hQ4
  subst l4 y4 z4
  obtain ⟨rfl, N4q, e4⟩ := hQ4
  have N4 := Fr.app N2 N4q
  refine own_goT (T' := T4) (g' := (mkF m 25 #[.val (.ref xo), .val (.int (2 : Int32))] [(.ref y1)])) st4 ?_
  obtain ⟨T5, X5, e5, st5⟩ := castY X4 hx hZ hown (hw _ (List.mem_of_getElem? (i := 231) rfl)) e4 (Ins.self Ey1) (g := (mkF m 25 #[.val (.ref xo), .val (.int (2 : Int32))] [(.ref y1)])) rfl rfl (hb hby own_dW32_25)
  refine own_go (T' := T5) (g' := (mkF m 28 #[.val (.ref xo), .val (.int (2 : Int32))] [(.ref y1)])) (fun _ k => st5 _ k) ?_
  refine own_go (T' := T5) (g' := (mkF m 32 #[.val (.ref xo), .val (.int (2 : Int32))] [(.ref y1)])) (fun _ k => XS.goto X5.here hx rfl (pc0 := 28) (pc' := 32) rfl (hb hby own_dW32_28) (by decide) (by decide) k) ?_
  obtain ⟨fs, hr, hrun, hended, hW, hsame⟩ := X5.leave (v := some (.ref y1)) (fun h => by rw [Bd.returns] at h; cases h)
  refine own_end (retOut X5 hx Bd.returns rfl (Or.inr (Or.inr (Or.inr (Or.inr ⟨rfl, rfl, rfl⟩)))) (hb hby own_dW32_32) hr) hrun hended ⟨_, _, rfl, (?_ : own_QW32 Z xo xw xa ka y0 y1 y2 h0 n0 _ T5.heap _), ⟨_, rfl⟩, hW, hsame.mono (by decide) (by decide)⟩
  rw [e5]
  exact ⟨rfl, N4, rfl⟩
theorem own_dW33_0 : decode prog_14_method_2_code 0 = .ok (.iload_n 1, 1) := by decide +kernel
theorem own_dW33_1 : decode prog_14_method_2_code 1 = .ok (.aload_n 0, 1) := by decide +kernel
theorem own_dW33_2 : decode prog_14_method_2_code 2 = .ok (.getfield 13, 3) := by decide +kernel
theorem own_dW33_5 : decode prog_14_method_2_code 5 = .ok (.invokeinterface 19 1, 5) := by decide +kernel
theorem own_dW33_10 : decode prog_14_method_2_code 10 = .ok (.if_icmp .gt 21, 3) := by decide +kernel
theorem own_dW33_13 : decode prog_14_method_2_code 13 = .ok (.aload_n 0, 1) := by decide +kernel
theorem own_dW33_14 : decode prog_14_method_2_code 14 = .ok (.getfield 13, 3) := by decide +kernel
theorem own_dW33_17 : decode prog_14_method_2_code 17 = .ok (.iload_n 1, 1) := by decide +kernel
theorem own_dW33_18 : decode prog_14_method_2_code 18 = .ok (.iconst 1, 1) := by decide +kernel
theorem own_dW33_19 : decode prog_14_method_2_code 19 = .ok (.isub, 1) := by decide +kernel
theorem own_dW33_20 : decode prog_14_method_2_code 20 = .ok (.invokeinterface 23 2, 5) := by decide +kernel
theorem own_dW33_25 : decode prog_14_method_2_code 25 = .ok (.checkcast 27, 3) := by decide +kernel
theorem own_dW33_28 : decode prog_14_method_2_code 28 = .ok (.goto 4, 3) := by decide +kernel
theorem own_dW33_32 : decode prog_14_method_2_code 32 = .ok (.areturn, 1) := by decide +kernel
theorem own_efW33 (m : MethodId) (xo : Addr) : entryFrame m #[(.ref xo), (.int (3 : Int32))] 2 = mkF m 0 #[.val (.ref xo), .val (.int (3 : Int32))] [] := by first | (simp [entryFrame, mkF, argsToLocals, Value.category]; done) | rfl
def own_QW33 (Z : State) (xo : Addr) (xw : Addr) (xa : Addr) (ka : ClassId) (y0 : Addr) (y1 : Addr) (y2 : Addr) (h0 : Heap) (n0 : Nat) (v : Option Value) (h : Heap) (L : List Loc) : Prop := v = some (.ref y2) ∧ Fr n0 L ∧ h = h0
set_option maxRecDepth 65536 in
set_option maxHeartbeats 40000000 in
theorem own_rW33 (l : Launch) (Z : State) (a0 : Array Value) (hw : ∀ d ∈ tables_1, d.before a0 Z = true) (ws : List Jvm.Cond) (xo : Addr) (xw : Addr) (xa : Addr) (ka : ClassId) (y0 : Addr) (y1 : Addr) (y2 : Addr) (h0 : Heap) (n0 : Nat) (Z0 : n0 ≤ h0.size) (Fw : Fld Z h0 xo "com/example/entrega/entrega/RetrySchedule" "waits" "Ljava/util/List;" (.ref xw)) (Ew : Exa Z h0 xw "java/util/ImmutableCollections$ListN") (F1 : Fld Z h0 xw "java/util/ImmutableCollections$ListN" "elements" "[Ljava/lang/Object;" (.ref xa)) (Va : own_A Z h0 xa ka (.object "java/lang/Object") [(.ref y0), (.ref y1), (.ref y2)]) (Ey0 : Exa Z h0 y0 "java/time/Duration") (Ey1 : Exa Z h0 y1 "java/time/Duration") (Ey2 : Exa Z h0 y2 "java/time/Duration") :
    MetFree l (⟨"com/example/entrega/entrega/RetrySchedule", "waitAfter", "(I)Ljava/time/Duration;"⟩ : MethodName) (head1 (Jvm.Cond.code (⟨"com/example/entrega/entrega/RetrySchedule", "waitAfter", "(I)Ljava/time/Duration;"⟩ : MethodName) prog_14_method_2_code 2 (some (.object "java/time/Duration")) :: ws) ({ frames := 1, cells := 0, slots := 0, locals := 13 } : Room)) (fun a U => a = #[(.ref xo), (.int (3 : Int32))] ∧ Z.Warmed39 U.vm ∧ U.heap = h0) (fun _ _ _ _ _ => True) (fun _ U o U' => ∃ v L, o = .returned v ∧ own_QW33 Z xo xw xa ka y0 y1 y2 h0 n0 v U'.heap L ∧ FrameEnd U o U' L ({ frames := 1, cells := 0, slots := 0, locals := 13 } : Room).cells ({ frames := 1, cells := 0, slots := 0, locals := 13 } : Room).slots) := by
  refine MetFree.of_bodySF (plainFor_of_name own_pn13) hisR ?_
  intro p e s m args below meth c s₁ Bd hml0 hP hK
  obtain ⟨rfl, hZ, hh⟩ := hP
  have hx := Bd.exec
  have hby := Bd.bytes
  have hml : c.maxLocals = 2 := hml0
  have hown : s.vm.findClass "com/example/entrega/entrega/RetrySchedule" = some m.cls := findClass_of_methodNamed Bd.named
  have hnm := (name_of_methodNamed Bd.named Bd.method).1
  have X0 : Stand p l e ({ frames := 1, cells := 0, slots := 0, locals := 13 } : Room) s m #[(.ref xo), (.int (3 : Int32))] below meth c s₁ [] 0 0 := Stand.of_body Bd
  have e0 : s₁.heap = h0 := by rw [← hh, Bd.state]; rfl
  have N0 := Fr.nil n0
  show own_F p e below (fun o U' => ∃ v L, o = .returned v ∧ own_QW33 Z xo xw xa ka y0 y1 y2 h0 n0 v U'.heap L ∧ FrameEnd s o U' L ({ frames := 1, cells := 0, slots := 0, locals := 13 } : Room).cells ({ frames := 1, cells := 0, slots := 0, locals := 13 } : Room).slots) s₁ (entryFrame m #[(.ref xo), (.int (3 : Int32))] 2)
  rw [own_efW33 m xo]
  refine own_go (T' := s₁) (g' := (mkF m 1 #[.val (.ref xo), .val (.int (3 : Int32))] [(.int (3 : Int32))])) (fun _ k => XS.iloadN X0.here hx rfl (hb hby own_dW33_0) rfl k) ?_
  refine own_go (T' := s₁) (g' := (mkF m 2 #[.val (.ref xo), .val (.int (3 : Int32))] [(.ref xo), (.int (3 : Int32))])) (fun _ k => XS.aloadN X0.here hx rfl (hb hby own_dW33_1) rfl rfl k) ?_
  obtain ⟨T1, X1, e1, st1⟩ := getF X0 hx hZ hown (host := "") (Or.inl (hw _ (List.mem_of_getElem? (i := 85) rfl))) Via.refl e0 Fw (g := (mkF m 2 #[.val (.ref xo), .val (.int (3 : Int32))] [(.ref xo), (.int (3 : Int32))])) rfl rfl (hb hby own_dW33_2)
  refine own_go (T' := T1) (g' := (mkF m 5 #[.val (.ref xo), .val (.int (3 : Int32))] [(.ref xw), (.int (3 : Int32))])) (fun _ k => st1 _ k) ?_
  obtain ⟨cq2, kq2, q2a, q2b, q2c⟩ := isOf hZ e1 Ew
  obtain ⟨_, _, ⟨T2, L2, k2, n2⟩, -, X2, ⟨Lc2, hQ2, l2, y2, z2⟩, st2⟩ := X1.interfaceBack hx (xi := (⟨"java/util/List", "size", "()I"⟩ : MethodName)) (y := (⟨"java/util/ImmutableCollections$ListN", "size", "()I"⟩ : MethodName)) hown (mvT hZ (hw _ (List.mem_of_getElem? (i := 93) rfl))) (mvT hZ (hw _ (List.mem_of_getElem? (i := 94) rfl))) (mvT hZ (hw _ (List.mem_of_getElem? (i := 95) rfl))) (mvT hZ (hw _ (List.mem_of_getElem? (i := 96) rfl))) (mvT hZ (hw _ (List.mem_of_getElem? (i := 97) rfl))) (mvT hZ (hw _ (List.mem_of_getElem? (i := 98) rfl))) (mvT hZ (hw _ (List.mem_of_getElem? (i := 99) rfl))) (mvT hZ (hw _ (List.mem_of_getElem? (i := 100) rfl))) (by decide) (backOf (W := 1) (own_rSzn3 l Z a0 hw [] xw xa ka y0 y1 y2 h0 n0 Z0 F1 Va) hZ (hw _ (List.mem_of_getElem? (i := 102) rfl)) (hw _ (List.mem_of_getElem? (i := 101) rfl)) (by decide) (by decide)) q2a q2b q2c (g := (mkF m 5 #[.val (.ref xo), .val (.int (3 : Int32))] [(.ref xw), (.int (3 : Int32))])) rfl (by rw [hml]; rfl) (Steps.refl _) (argsL := []) (rest := [(.int (3 : Int32))]) (lenOf own_pd17 rfl) rfl (by show 2 * 0 + _ ≤ _; exact Nat.le_of_eq rfl) (hb hby own_dW33_5) (fun _ _ => ⟨rfl, e1, (by decide : 0 + 0 ≤ _), (by decide : 0 + 0 ≤ _)⟩)
  dsimp only [Pt.U, Pt.locs, Pt.cells, Pt.slots] at X2 l2 y2 z2 st2 hQ2
  subst l2 y2 z2
  obtain ⟨rfl, N2q, e2⟩ := hQ2
  have N2 := Fr.app N0 N2q
  refine own_goT (T' := T2) (g' := (mkF m 10 #[.val (.ref xo), .val (.int (3 : Int32))] [(.int (3 : Int32)), (.int (3 : Int32))])) st2 ?_
  refine own_go (T' := T2) (g' := (mkF m 13 #[.val (.ref xo), .val (.int (3 : Int32))] [])) (fun _ k => XS.icmpNo X2.here hx rfl (hb hby own_dW33_10) rfl (flt ((by decide) : ¬ ((3 : Int32) < (3 : Int32)))).2.2.1 k) ?_
  refine own_go (T' := T2) (g' := (mkF m 14 #[.val (.ref xo), .val (.int (3 : Int32))] [(.ref xo)])) (fun _ k => XS.aloadN X2.here hx rfl (hb hby own_dW33_13) rfl rfl k) ?_
  obtain ⟨T3, X3, e3, st3⟩ := getF X2 hx hZ hown (host := "") (Or.inl (hw _ (List.mem_of_getElem? (i := 85) rfl))) Via.refl e2 Fw (g := (mkF m 14 #[.val (.ref xo), .val (.int (3 : Int32))] [(.ref xo)])) rfl rfl (hb hby own_dW33_14)
  refine own_go (T' := T3) (g' := (mkF m 17 #[.val (.ref xo), .val (.int (3 : Int32))] [(.ref xw)])) (fun _ k => st3 _ k) ?_
  refine own_go (T' := T3) (g' := (mkF m 18 #[.val (.ref xo), .val (.int (3 : Int32))] [(.int (3 : Int32)), (.ref xw)])) (fun _ k => XS.iloadN X3.here hx rfl (hb hby own_dW33_17) rfl k) ?_
  refine own_go (T' := T3) (g' := (mkF m 19 #[.val (.ref xo), .val (.int (3 : Int32))] [(.int (1 : Int32)), (.int (3 : Int32)), (.ref xw)])) (fun _ k => XS.iconst X3.here hx rfl (hb hby own_dW33_18) k) ?_
  refine own_go (T' := T3) (g' := (mkF m 20 #[.val (.ref xo), .val (.int (3 : Int32))] [(.int (2 : Int32)), (.ref xw)])) (fun _ k => XS.isub X3.here hx rfl (hb hby own_dW33_19) rfl k) ?_
  obtain ⟨cq4, kq4, q4a, q4b, q4c⟩ := isOf hZ e3 Ew
  obtain ⟨_, _, ⟨T4, L4, k4, n4⟩, -, X4, ⟨Lc4, hQ4, l4, y4, z4⟩, st4⟩ := X3.interfaceBack hx (xi := (⟨"java/util/List", "get", "(I)Ljava/lang/Object;"⟩ : MethodName)) (y := (⟨"java/util/ImmutableCollections$ListN", "get", "(I)Ljava/lang/Object;"⟩ : MethodName)) hown (mvT hZ (hw _ (List.mem_of_getElem? (i := 223) rfl))) (mvT hZ (hw _ (List.mem_of_getElem? (i := 224) rfl))) (mvT hZ (hw _ (List.mem_of_getElem? (i := 225) rfl))) (mvT hZ (hw _ (List.mem_of_getElem? (i := 232) rfl))) (mvT hZ (hw _ (List.mem_of_getElem? (i := 233) rfl))) (mvT hZ (hw _ (List.mem_of_getElem? (i := 234) rfl))) (mvT hZ (hw _ (List.mem_of_getElem? (i := 235) rfl))) (mvT hZ (hw _ (List.mem_of_getElem? (i := 100) rfl))) (by decide) (backOf (W := 0) (own_rGn2 l Z a0 hw [] xw xa ka y0 y1 y2 h0 n0 Z0 F1 Va) hZ (hw _ (List.mem_of_getElem? (i := 236) rfl)) (hw _ (List.mem_of_getElem? (i := 101) rfl)) (by decide) (by decide)) q4a q4b q4c (g := (mkF m 20 #[.val (.ref xo), .val (.int (3 : Int32))] [(.int (2 : Int32)), (.ref xw)])) rfl (by rw [hml]; rfl) (Steps.refl _) (argsL := [(.int (2 : Int32))]) (rest := []) (lenOf own_pd18 rfl) rfl (by show 2 * 0 + _ ≤ _; exact Nat.le_of_eq rfl) (hb hby own_dW33_20) (fun _ _ => ⟨rfl, e3, (by decide : 0 + 0 ≤ _), (by decide : 0 + 0 ≤ _)⟩)
  dsimp only [Pt.U, Pt.locs, Pt.cells, Pt.slots] at X4 l4 y4 z4 st4 hQ4
  subst l4 y4 z4
  obtain ⟨rfl, N4q, e4⟩ := hQ4
  have N4 := Fr.app N2 N4q
  refine own_goT (T' := T4) (g' := (mkF m 25 #[.val (.ref xo), .val (.int (3 : Int32))] [(.ref y2)])) st4 ?_
  obtain ⟨T5, X5, e5, st5⟩ := castY X4 hx hZ hown (hw _ (List.mem_of_getElem? (i := 231) rfl)) e4 (Ins.self Ey2) (g := (mkF m 25 #[.val (.ref xo), .val (.int (3 : Int32))] [(.ref y2)])) rfl rfl (hb hby own_dW33_25)
  refine own_go (T' := T5) (g' := (mkF m 28 #[.val (.ref xo), .val (.int (3 : Int32))] [(.ref y2)])) (fun _ k => st5 _ k) ?_
  refine own_go (T' := T5) (g' := (mkF m 32 #[.val (.ref xo), .val (.int (3 : Int32))] [(.ref y2)])) (fun _ k => XS.goto X5.here hx rfl (pc0 := 28) (pc' := 32) rfl (hb hby own_dW33_28) (by decide) (by decide) k) ?_
  obtain ⟨fs, hr, hrun, hended, hW, hsame⟩ := X5.leave (v := some (.ref y2)) (fun h => by rw [Bd.returns] at h; cases h)
  refine own_end (retOut X5 hx Bd.returns rfl (Or.inr (Or.inr (Or.inr (Or.inr ⟨rfl, rfl, rfl⟩)))) (hb hby own_dW33_32) hr) hrun hended ⟨_, _, rfl, (?_ : own_QW33 Z xo xw xa ka y0 y1 y2 h0 n0 _ T5.heap _), ⟨_, rfl⟩, hW, hsame.mono (by decide) (by decide)⟩
  rw [e5]
  exact ⟨rfl, N4, rfl⟩
theorem own_pd19 : parseMethodDescriptor "(J)Ljava/time/Duration;" = some ⟨[.long], some (.object "java/time/Duration")⟩ := by decide +kernel
theorem own_pd20 : parseMethodDescriptor "(Ljava/util/List;)V" = some ⟨[(.object "java/util/List")], none⟩ := by decide +kernel
theorem own_pd21 : parseMethodDescriptor "(I)Ljava/time/Duration;" = some ⟨[.int], some (.object "java/time/Duration")⟩ := by decide +kernel
theorem own_pd22 : parseMethodDescriptor "(Ljava/lang/Object;)Z" = some ⟨[(.object "java/lang/Object")], some .boolean⟩ := by decide +kernel
theorem own_efL (m : MethodId) (xs : Int32) (xn : Int32) (xa : Int64) (xb : Int64) (xc : Int64) : entryFrame m #[(.int xs), (.int xn), (.long xa), (.long xb), (.long xc)] maxLocals = mkF m 0 #[.val (.int xs), .val (.int xn), .val (.long xa), .second, .val (.long xb), .second, .val (.long xc), .second, .unset, .unset, .unset, .unset, .unset, .unset, .unset, .unset, .unset] [] := by first | (simp [entryFrame, mkF, argsToLocals, Value.category, maxLocals]; done) | rfl
def own_QL (Z : State) (xs : Int32) (xn : Int32) (xa : Int64) (xb : Int64) (xc : Int64) (xz : Addr) (xd : Addr) (kd : ClassId) (xE : Addr) (xee : Addr) (kee : ClassId) (xq : Addr) (xm : Addr) (h0 : Heap) (n0 : Nat) (v : Option Value) (h : Heap) (L : List Loc) : Prop := v = some (.int (1 : Int32)) ∧ Fr n0 L
theorem own_pn14 : plainName "com/example/entrega/entrega/RetryScheduleWaitAfterPinLaw" = true := by first | (simp [plainName, overriddenIn]; done) | decide +kernel
set_option maxRecDepth 65536 in
set_option maxHeartbeats 40000000 in
theorem own_rL (l : Launch) (Z : State) (a0 : Array Value) (hw : ∀ d ∈ tables_1, d.before a0 Z = true) (ws : List Jvm.Cond) (xs : Int32) (xn : Int32) (xa : Int64) (xb : Int64) (xc : Int64) (xz : Addr) (xd : Addr) (kd : ClassId) (xE : Addr) (xee : Addr) (kee : ClassId) (xq : Addr) (xm : Addr) (h0 : Heap) (n0 : Nat) (Z0 : n0 ≤ h0.size) (Sz : Sta Z h0 "java/time/Duration" "ZERO" "Ljava/time/Duration;" (.ref xz)) (Ez : Exa Z h0 xz "java/time/Duration") (Sd : Sta Z h0 "java/util/ArrayList" "DEFAULTCAPACITY_EMPTY_ELEMENTDATA" "[Ljava/lang/Object;" (.ref xd)) (Ad : own_A Z h0 xd kd (.object "java/lang/Object") []) (Se : Sta Z h0 "java/util/ImmutableCollections" "EMPTY_LIST" "Ljava/util/ImmutableCollections$ListN;" (.ref xE)) (EE : Exa Z h0 xE "java/util/ImmutableCollections$ListN") (Fee : Fld Z h0 xE "java/util/ImmutableCollections$ListN" "elements" "[Ljava/lang/Object;" (.ref xee)) (Aee : own_A Z h0 xee kee (.object "java/lang/Object") []) (Sq : Sta Z h0 "java/util/ImmutableCollections" "EMPTY" "Ljava/lang/Object;" (.ref xq)) (Eq : Exa Z h0 xq "java/lang/Object") (M : own_Mir Z "[Ljava/lang/Object;" xm) :
    MetFree l x (head1 (Jvm.Cond.code x code maxLocals ret :: ws) room_1) (fun a U => a = #[(.int xs), (.int xn), (.long xa), (.long xb), (.long xc)] ∧ Z.Warmed39 U.vm ∧ U.heap = h0) (fun _ _ _ _ _ => True) (fun _ U o U' => ∃ v L, o = .returned v ∧ own_QL Z xs xn xa xb xc xz xd kd xE xee kee xq xm h0 n0 v U'.heap L ∧ FrameEnd U o U' L room_1.cells room_1.slots) := by
  refine MetFree.of_bodySF (plainFor_of_name own_pn14) hisR ?_
  intro p e s m args below meth c s₁ Bd hml0 hP hK
  obtain ⟨rfl, hZ, hh⟩ := hP
  have hx := Bd.exec
  have hby := Bd.bytes
  have hml : c.maxLocals = 17 := hml0
  have hown : s.vm.findClass "com/example/entrega/entrega/RetryScheduleWaitAfterPinLaw" = some m.cls := findClass_of_methodNamed Bd.named
  have hnm := (name_of_methodNamed Bd.named Bd.method).1
  have X0 : Stand p l e room_1 s m #[(.int xs), (.int xn), (.long xa), (.long xb), (.long xc)] below meth c s₁ [] 0 0 := Stand.of_body Bd
  have e0 : s₁.heap = h0 := by rw [← hh, Bd.state]; rfl
  have N0 := Fr.nil n0
  show own_F p e below (fun o U' => ∃ v L, o = .returned v ∧ own_QL Z xs xn xa xb xc xz xd kd xE xee kee xq xm h0 n0 v U'.heap L ∧ FrameEnd s o U' L room_1.cells room_1.slots) s₁ (entryFrame m #[(.int xs), (.int xn), (.long xa), (.long xb), (.long xc)] maxLocals)
  rw [own_efL m xs xn xa xb xc]
  refine own_go (T' := s₁) (g' := (mkF m 1 #[.val (.int xs), .val (.int xn), .val (.long xa), .second, .val (.long xb), .second, .val (.long xc), .second, .unset, .unset, .unset, .unset, .unset, .unset, .unset, .unset, .unset] [(.int xs)])) (fun _ k => XS.iloadN X0.here hx rfl (hb hby at_0) rfl k) ?_
  refine own_go (T' := s₁) (g' := (mkF m 2 #[.val (.int xs), .val (.int xn), .val (.long xa), .second, .val (.long xb), .second, .val (.long xc), .second, .unset, .unset, .unset, .unset, .unset, .unset, .unset, .unset, .unset] [(.int (3 : Int32)), (.int xs)])) (fun _ k => XS.iconst X0.here hx rfl (hb hby at_1) k) ?_
  refine own_go (T' := s₁) (g' := (mkF m 3 #[.val (.int xs), .val (.int xn), .val (.long xa), .second, .val (.long xb), .second, .val (.long xc), .second, .unset, .unset, .unset, .unset, .unset, .unset, .unset, .unset, .unset] [(.int (xs &&& (3 : Int32)))])) (fun _ k => XS.iand X0.here hx rfl (hb hby at_2) rfl k) ?_
  refine own_go (T' := s₁) (g' := (mkF m 5 #[.val (.int xs), .val (.int xn), .val (.long xa), .second, .val (.long xb), .second, .val (.long xc), .second, .val (.int (xs &&& (3 : Int32))), .unset, .unset, .unset, .unset, .unset, .unset, .unset, .unset] [])) (fun _ k => XS.istore X0.here hx rfl (hb hby at_3) rfl (l' := #[.val (.int xs), .val (.int xn), .val (.long xa), .second, .val (.long xb), .second, .val (.long xc), .second, .val (.int (xs &&& (3 : Int32))), .unset, .unset, .unset, .unset, .unset, .unset, .unset, .unset]) rfl k) ?_
  rcases own_and3 xs with hk | hk | hk | hk
  · rw [hk]
    refine own_go (T' := s₁) (g' := (mkF m 6 #[.val (.int xs), .val (.int xn), .val (.long xa), .second, .val (.long xb), .second, .val (.long xc), .second, .val (.int (0 : Int32)), .unset, .unset, .unset, .unset, .unset, .unset, .unset, .unset] [(.long xa)])) (fun _ k => XS.lloadN X0.here hx rfl (hb hby at_5) rfl k) ?_
    obtain ⟨_, _, ⟨T1, L1, k1, n1⟩, -, X1, ⟨Lc1, hQ1, l1, y1, z1⟩, st1⟩ := Jvm.LawKit.callS X0 hx (y := (⟨"java/time/Duration", "ofSeconds", "(J)Ljava/time/Duration;"⟩ : MethodName)) hown (mvT hZ (hw _ (List.mem_of_getElem? (i := 0) rfl))) (mvT hZ (hw _ (List.mem_of_getElem? (i := 1) rfl))) (mvT hZ (hw _ (List.mem_of_getElem? (i := 2) rfl))) (mvT hZ (hw _ (List.mem_of_getElem? (i := 3) rfl))) (by decide) (backOf (W := 0) (own_rOs l Z a0 hw [] xa xz h0 n0 Z0 (Sz.ext (own_ext_rf h0)) (Ez.ext (own_ext_rf h0))) hZ (hw _ (List.mem_of_getElem? (i := 3) rfl)) (hw _ (List.mem_of_getElem? (i := 2) rfl)) (by decide) (by decide)) (g := (mkF m 6 #[.val (.int xs), .val (.int xn), .val (.long xa), .second, .val (.long xb), .second, .val (.long xc), .second, .val (.int (0 : Int32)), .unset, .unset, .unset, .unset, .unset, .unset, .unset, .unset] [(.long xa)])) rfl (by rw [hml]; rfl) (argsL := [(.long xa)]) (rest := []) (lenOf own_pd19 rfl) rfl (by show 2 * 0 + _ ≤ _; exact Nat.le_of_eq rfl) (hb hby at_6) (fun _ _ => ⟨rfl, e0, (by decide : 0 + 1 ≤ _), (by decide : 0 + 2 ≤ _)⟩)
    dsimp only [Pt.U, Pt.locs, Pt.cells, Pt.slots] at X1 l1 y1 z1 st1 hQ1
    subst l1 y1 z1
    obtain ⟨-, N1q, Kc1, -, d1, rfl, Ec1⟩ := hQ1
    have N1 := Fr.app N0 N1q
    have Z1 : n0 ≤ T1.heap.size := Nat.le_trans Z0 Kc1.1
    have O1 : Ext h0 T1.heap := own_ext_keep (own_ext_rf h0) Kc1 own_all0
    have K1 : Keep h0 T1.heap [] := (Keep.refl h0 []).trans Kc1 (fun x hx => nomatch hx)
    refine own_go (T' := T1) (g' := (mkF m 9 #[.val (.int xs), .val (.int xn), .val (.long xa), .second, .val (.long xb), .second, .val (.long xc), .second, .val (.int (0 : Int32)), .unset, .unset, .unset, .unset, .unset, .unset, .unset, .unset] [(.ref d1)])) (fun _ k => st1 _ k) ?_
    refine own_go (T' := T1) (g' := (mkF m 11 #[.val (.int xs), .val (.int xn), .val (.long xa), .second, .val (.long xb), .second, .val (.long xc), .second, .val (.int (0 : Int32)), .val (.ref d1), .unset, .unset, .unset, .unset, .unset, .unset, .unset] [])) (fun _ k => XS.astore X1.here hx rfl (hb hby at_9) rfl rfl (l' := #[.val (.int xs), .val (.int xn), .val (.long xa), .second, .val (.long xb), .second, .val (.long xc), .second, .val (.int (0 : Int32)), .val (.ref d1), .unset, .unset, .unset, .unset, .unset, .unset, .unset]) rfl k) ?_
    refine own_go (T' := T1) (g' := (mkF m 13 #[.val (.int xs), .val (.int xn), .val (.long xa), .second, .val (.long xb), .second, .val (.long xc), .second, .val (.int (0 : Int32)), .val (.ref d1), .unset, .unset, .unset, .unset, .unset, .unset, .unset] [(.long xb)])) (fun _ k => XS.lload X1.here hx rfl (hb hby at_11) rfl k) ?_
    obtain ⟨_, _, ⟨T2, L2, k2, n2⟩, -, X2, ⟨Lc2, hQ2, l2, y2, z2⟩, st2⟩ := Jvm.LawKit.callS X1 hx (y := (⟨"java/time/Duration", "ofSeconds", "(J)Ljava/time/Duration;"⟩ : MethodName)) hown (mvT hZ (hw _ (List.mem_of_getElem? (i := 0) rfl))) (mvT hZ (hw _ (List.mem_of_getElem? (i := 1) rfl))) (mvT hZ (hw _ (List.mem_of_getElem? (i := 2) rfl))) (mvT hZ (hw _ (List.mem_of_getElem? (i := 3) rfl))) (by decide) (backOf (W := 0) (own_rOs l Z a0 hw [] xb xz T1.heap n0 Z1 (Sz.ext O1) (Ez.ext O1)) hZ (hw _ (List.mem_of_getElem? (i := 3) rfl)) (hw _ (List.mem_of_getElem? (i := 2) rfl)) (by decide) (by decide)) (g := (mkF m 13 #[.val (.int xs), .val (.int xn), .val (.long xa), .second, .val (.long xb), .second, .val (.long xc), .second, .val (.int (0 : Int32)), .val (.ref d1), .unset, .unset, .unset, .unset, .unset, .unset, .unset] [(.long xb)])) rfl (by rw [hml]; rfl) (argsL := [(.long xb)]) (rest := []) (lenOf own_pd19 rfl) rfl (by show 2 * 0 + _ ≤ _; exact Nat.le_of_eq rfl) (hb hby at_13) (fun _ _ => ⟨rfl, rfl, (by decide : 1 + 1 ≤ _), (by decide : 2 + 2 ≤ _)⟩)
    dsimp only [Pt.U, Pt.locs, Pt.cells, Pt.slots] at X2 l2 y2 z2 st2 hQ2
    subst l2 y2 z2
    obtain ⟨-, N2q, Kc2, -, d2, rfl, Ec2⟩ := hQ2
    have N2 := Fr.app N1 N2q
    have Ek3 := Ec1.keep Kc2
    have Z2 : n0 ≤ T2.heap.size := Nat.le_trans Z1 Kc2.1
    have O2 : Ext h0 T2.heap := own_ext_keep O1 Kc2 own_all0
    have K2 : Keep h0 T2.heap [] := K1.trans Kc2 (fun x hx => nomatch hx)
    refine own_go (T' := T2) (g' := (mkF m 16 #[.val (.int xs), .val (.int xn), .val (.long xa), .second, .val (.long xb), .second, .val (.long xc), .second, .val (.int (0 : Int32)), .val (.ref d1), .unset, .unset, .unset, .unset, .unset, .unset, .unset] [(.ref d2)])) (fun _ k => st2 _ k) ?_
    refine own_go (T' := T2) (g' := (mkF m 18 #[.val (.int xs), .val (.int xn), .val (.long xa), .second, .val (.long xb), .second, .val (.long xc), .second, .val (.int (0 : Int32)), .val (.ref d1), .val (.ref d2), .unset, .unset, .unset, .unset, .unset, .unset] [])) (fun _ k => XS.astore X2.here hx rfl (hb hby at_16) rfl rfl (l' := #[.val (.int xs), .val (.int xn), .val (.long xa), .second, .val (.long xb), .second, .val (.long xc), .second, .val (.int (0 : Int32)), .val (.ref d1), .val (.ref d2), .unset, .unset, .unset, .unset, .unset, .unset]) rfl k) ?_
    refine own_go (T' := T2) (g' := (mkF m 20 #[.val (.int xs), .val (.int xn), .val (.long xa), .second, .val (.long xb), .second, .val (.long xc), .second, .val (.int (0 : Int32)), .val (.ref d1), .val (.ref d2), .unset, .unset, .unset, .unset, .unset, .unset] [(.long xc)])) (fun _ k => XS.lload X2.here hx rfl (hb hby at_18) rfl k) ?_
    obtain ⟨_, _, ⟨T4, L4, k4, n4⟩, -, X4, ⟨Lc4, hQ4, l4, y4, z4⟩, st4⟩ := Jvm.LawKit.callS X2 hx (y := (⟨"java/time/Duration", "ofSeconds", "(J)Ljava/time/Duration;"⟩ : MethodName)) hown (mvT hZ (hw _ (List.mem_of_getElem? (i := 0) rfl))) (mvT hZ (hw _ (List.mem_of_getElem? (i := 1) rfl))) (mvT hZ (hw _ (List.mem_of_getElem? (i := 2) rfl))) (mvT hZ (hw _ (List.mem_of_getElem? (i := 3) rfl))) (by decide) (backOf (W := 0) (own_rOs l Z a0 hw [] xc xz T2.heap n0 Z2 (Sz.ext O2) (Ez.ext O2)) hZ (hw _ (List.mem_of_getElem? (i := 3) rfl)) (hw _ (List.mem_of_getElem? (i := 2) rfl)) (by decide) (by decide)) (g := (mkF m 20 #[.val (.int xs), .val (.int xn), .val (.long xa), .second, .val (.long xb), .second, .val (.long xc), .second, .val (.int (0 : Int32)), .val (.ref d1), .val (.ref d2), .unset, .unset, .unset, .unset, .unset, .unset] [(.long xc)])) rfl (by rw [hml]; rfl) (argsL := [(.long xc)]) (rest := []) (lenOf own_pd19 rfl) rfl (by show 2 * 0 + _ ≤ _; exact Nat.le_of_eq rfl) (hb hby at_20) (fun _ _ => ⟨rfl, rfl, (by decide : 2 + 1 ≤ _), (by decide : 4 + 2 ≤ _)⟩)
    dsimp only [Pt.U, Pt.locs, Pt.cells, Pt.slots] at X4 l4 y4 z4 st4 hQ4
    subst l4 y4 z4
    obtain ⟨-, N4q, Kc4, -, d4, rfl, Ec4⟩ := hQ4
    have N4 := Fr.app N2 N4q
    have Ek5 := Ek3.keep Kc4
    have Ek6 := Ec2.keep Kc4
    have Z4 : n0 ≤ T4.heap.size := Nat.le_trans Z2 Kc4.1
    have O4 : Ext h0 T4.heap := own_ext_keep O2 Kc4 own_all0
    have K4 : Keep h0 T4.heap [] := K2.trans Kc4 (fun x hx => nomatch hx)
    refine own_go (T' := T4) (g' := (mkF m 23 #[.val (.int xs), .val (.int xn), .val (.long xa), .second, .val (.long xb), .second, .val (.long xc), .second, .val (.int (0 : Int32)), .val (.ref d1), .val (.ref d2), .unset, .unset, .unset, .unset, .unset, .unset] [(.ref d4)])) (fun _ k => st4 _ k) ?_
    refine own_go (T' := T4) (g' := (mkF m 25 #[.val (.int xs), .val (.int xn), .val (.long xa), .second, .val (.long xb), .second, .val (.long xc), .second, .val (.int (0 : Int32)), .val (.ref d1), .val (.ref d2), .val (.ref d4), .unset, .unset, .unset, .unset, .unset] [])) (fun _ k => XS.astore X4.here hx rfl (hb hby at_23) rfl rfl (l' := #[.val (.int xs), .val (.int xn), .val (.long xa), .second, .val (.long xb), .second, .val (.long xc), .second, .val (.int (0 : Int32)), .val (.ref d1), .val (.ref d2), .val (.ref d4), .unset, .unset, .unset, .unset, .unset]) rfl k) ?_
    obtain ⟨T7, h7, X7, e7, E7, A7, D7, -, st7⟩ := newO X4 hx hZ hown (hw _ (List.mem_of_getElem? (i := 20) rfl)) (hw _ (List.mem_of_getElem? (i := 21) rfl)) (hw _ (List.mem_of_getElem? (i := 22) rfl)) rfl (g := (mkF m 25 #[.val (.int xs), .val (.int xn), .val (.long xa), .second, .val (.long xb), .second, .val (.long xc), .second, .val (.int (0 : Int32)), .val (.ref d1), .val (.ref d2), .val (.ref d4), .unset, .unset, .unset, .unset, .unset] [])) rfl (hb hby at_25) (by decide) (by decide)
    obtain ⟨b7, g7⟩ : ∃ z, z = T4.heap.size := ⟨_, rfl⟩
    rw [← g7] at A7 D7 st7
    have ne_d1_b7 : d1 ≠ b7 := Nat.ne_of_lt (Nat.lt_of_lt_of_le Ek5.lt (Nat.le_of_eq g7.symm))
    have ne_d2_b7 : d2 ≠ b7 := Nat.ne_of_lt (Nat.lt_of_lt_of_le Ek6.lt (Nat.le_of_eq g7.symm))
    have ne_d4_b7 : d4 ≠ b7 := Nat.ne_of_lt (Nat.lt_of_lt_of_le Ec4.lt (Nat.le_of_eq g7.symm))
    have gz_b7 : n0 ≤ b7 := Nat.le_trans Z4 (Nat.le_of_eq g7.symm)
    have hz_b7 : h0.size ≤ b7 := Nat.le_trans K4.1 (Nat.le_of_eq g7.symm)
    have Ek8 := Ek5.ext E7
    have Ek9 := Ek6.ext E7
    have Ek10 := Ec4.ext E7
    have Z7 : n0 ≤ h7.size := Nat.le_trans Z4 E7.1
    have O7 : Ext h0 h7 := own_ext_tr O4 E7
    have K7 : Keep h0 h7 [] := K4.ext E7
    have FmodCount_b7 : Fld Z h7 b7 "java/util/AbstractList" "modCount" "I" (.int (0 : Int32)) := D7 (Or.inl (hw _ (List.mem_of_getElem? (i := 40) rfl))) (ty := .int) (by decide)
    have FelementData_b7 : Fld Z h7 b7 "java/util/ArrayList" "elementData" "[Ljava/lang/Object;" .null := D7 (Or.inl (hw _ (List.mem_of_getElem? (i := 43) rfl))) (ty := (.array (.object "java/lang/Object"))) (by decide)
    have Fsize_b7 : Fld Z h7 b7 "java/util/ArrayList" "size" "I" (.int (0 : Int32)) := D7 (Or.inl (hw _ (List.mem_of_getElem? (i := 80) rfl))) (ty := .int) (by decide)
    refine own_go (T' := T7) (g' := (mkF m 28 #[.val (.int xs), .val (.int xn), .val (.long xa), .second, .val (.long xb), .second, .val (.long xc), .second, .val (.int (0 : Int32)), .val (.ref d1), .val (.ref d2), .val (.ref d4), .unset, .unset, .unset, .unset, .unset] [(.ref b7)])) (fun _ k => st7 _ k) ?_
    refine own_go (T' := T7) (g' := (mkF m 29 #[.val (.int xs), .val (.int xn), .val (.long xa), .second, .val (.long xb), .second, .val (.long xc), .second, .val (.int (0 : Int32)), .val (.ref d1), .val (.ref d2), .val (.ref d4), .unset, .unset, .unset, .unset, .unset] [(.ref b7), (.ref b7)])) (fun _ k => XS.dup X7.here hx rfl (hb hby at_28) rfl rfl k) ?_
    obtain ⟨_, _, ⟨T11, L11, k11, n11⟩, -, X11, ⟨Lc11, hQ11, l11, y11, z11⟩, st11⟩ := X7.specialBack hx (y := (⟨"java/util/ArrayList", "<init>", "()V"⟩ : MethodName)) rfl hown (mvT hZ (hw _ (List.mem_of_getElem? (i := 23) rfl))) (mvT hZ (hw _ (List.mem_of_getElem? (i := 24) rfl))) (mvT hZ (hw _ (List.mem_of_getElem? (i := 25) rfl))) (by decide) (backOf (W := 1) (own_rAli l Z a0 hw [] b7 xd h7 n0 Z7 A7 FmodCount_b7 FelementData_b7 Fsize_b7 gz_b7 (Sd.ext O7)) hZ (hw _ (List.mem_of_getElem? (i := 25) rfl)) (hw _ (List.mem_of_getElem? (i := 22) rfl)) (by decide) (by decide)) (g := (mkF m 29 #[.val (.int xs), .val (.int xn), .val (.long xa), .second, .val (.long xb), .second, .val (.long xc), .second, .val (.int (0 : Int32)), .val (.ref d1), .val (.ref d2), .val (.ref d4), .unset, .unset, .unset, .unset, .unset] [(.ref b7), (.ref b7)])) rfl (by rw [hml]; rfl) (Steps.refl _) (a := b7) (argsL := []) (rest := [(.ref b7)]) (lenOf own_pd0 rfl) rfl (by show 2 * 0 + _ ≤ _; exact Nat.le_of_eq rfl) (hb hby at_29) (fun _ _ => ⟨rfl, e7, (by decide : 4 + 0 ≤ _), (by decide : 9 + 0 ≤ _)⟩)
    dsimp only [Pt.U, Pt.locs, Pt.cells, Pt.slots] at X11 l11 y11 z11 st11 hQ11
    subst l11 y11 z11
    obtain ⟨rfl, N11q, Kc11, -, Ec11, Fmc11, Fec11, Fsc11⟩ := hQ11
    have N11 := Fr.app N4 N11q
    have Ek12 := Ek8.keep Kc11
    have Ek13 := Ek9.keep Kc11
    have Ek14 := Ek10.keep Kc11
    have Z11 : n0 ≤ T11.heap.size := Nat.le_trans Z7 Kc11.1
    have O11 : Ext h0 T11.heap := own_ext_keep O7 Kc11 (own_all1 hz_b7)
    have K11 : Keep h0 T11.heap [] := K7.trans Kc11 (own_or1 (Or.inr hz_b7))
    refine own_goT (T' := T11) (g' := (mkF m 32 #[.val (.int xs), .val (.int xn), .val (.long xa), .second, .val (.long xb), .second, .val (.long xc), .second, .val (.int (0 : Int32)), .val (.ref d1), .val (.ref d2), .val (.ref d4), .unset, .unset, .unset, .unset, .unset] [(.ref b7)])) st11 ?_
    refine own_go (T' := T11) (g' := (mkF m 34 #[.val (.int xs), .val (.int xn), .val (.long xa), .second, .val (.long xb), .second, .val (.long xc), .second, .val (.int (0 : Int32)), .val (.ref d1), .val (.ref d2), .val (.ref d4), .val (.ref b7), .unset, .unset, .unset, .unset] [])) (fun _ k => XS.astore X11.here hx rfl (hb hby at_32) rfl rfl (l' := #[.val (.int xs), .val (.int xn), .val (.long xa), .second, .val (.long xb), .second, .val (.long xc), .second, .val (.int (0 : Int32)), .val (.ref d1), .val (.ref d2), .val (.ref d4), .val (.ref b7), .unset, .unset, .unset, .unset]) rfl k) ?_
    refine own_go (T' := T11) (g' := (mkF m 36 #[.val (.int xs), .val (.int xn), .val (.long xa), .second, .val (.long xb), .second, .val (.long xc), .second, .val (.int (0 : Int32)), .val (.ref d1), .val (.ref d2), .val (.ref d4), .val (.ref b7), .unset, .unset, .unset, .unset] [(.int (0 : Int32))])) (fun _ k => XS.iload X11.here hx rfl (hb hby at_34) rfl k) ?_
    refine own_go (T' := T11) (g' := (mkF m 37 #[.val (.int xs), .val (.int xn), .val (.long xa), .second, .val (.long xb), .second, .val (.long xc), .second, .val (.int (0 : Int32)), .val (.ref d1), .val (.ref d2), .val (.ref d4), .val (.ref b7), .unset, .unset, .unset, .unset] [(.int (1 : Int32)), (.int (0 : Int32))])) (fun _ k => XS.iconst X11.here hx rfl (hb hby at_36) k) ?_
    refine own_go (T' := T11) (g' := (mkF m 48 #[.val (.int xs), .val (.int xn), .val (.long xa), .second, .val (.long xb), .second, .val (.long xc), .second, .val (.int (0 : Int32)), .val (.ref d1), .val (.ref d2), .val (.ref d4), .val (.ref b7), .unset, .unset, .unset, .unset] [])) (fun _ k => XS.icmpYes X11.here hx rfl (pc0 := 37) (pc' := 48) rfl (hb hby at_37) rfl (tlt ((by decide) : (0 : Int32) < (1 : Int32))).1 (by decide) (by decide) k) ?_
    refine own_go (T' := T11) (g' := (mkF m 50 #[.val (.int xs), .val (.int xn), .val (.long xa), .second, .val (.long xb), .second, .val (.long xc), .second, .val (.int (0 : Int32)), .val (.ref d1), .val (.ref d2), .val (.ref d4), .val (.ref b7), .unset, .unset, .unset, .unset] [(.int (0 : Int32))])) (fun _ k => XS.iload X11.here hx rfl (hb hby at_48) rfl k) ?_
    refine own_go (T' := T11) (g' := (mkF m 51 #[.val (.int xs), .val (.int xn), .val (.long xa), .second, .val (.long xb), .second, .val (.long xc), .second, .val (.int (0 : Int32)), .val (.ref d1), .val (.ref d2), .val (.ref d4), .val (.ref b7), .unset, .unset, .unset, .unset] [(.int (2 : Int32)), (.int (0 : Int32))])) (fun _ k => XS.iconst X11.here hx rfl (hb hby at_50) k) ?_
    refine own_go (T' := T11) (g' := (mkF m 62 #[.val (.int xs), .val (.int xn), .val (.long xa), .second, .val (.long xb), .second, .val (.long xc), .second, .val (.int (0 : Int32)), .val (.ref d1), .val (.ref d2), .val (.ref d4), .val (.ref b7), .unset, .unset, .unset, .unset] [])) (fun _ k => XS.icmpYes X11.here hx rfl (pc0 := 51) (pc' := 62) rfl (hb hby at_51) rfl (tlt ((by decide) : (0 : Int32) < (2 : Int32))).1 (by decide) (by decide) k) ?_
    refine own_go (T' := T11) (g' := (mkF m 64 #[.val (.int xs), .val (.int xn), .val (.long xa), .second, .val (.long xb), .second, .val (.long xc), .second, .val (.int (0 : Int32)), .val (.ref d1), .val (.ref d2), .val (.ref d4), .val (.ref b7), .unset, .unset, .unset, .unset] [(.int (0 : Int32))])) (fun _ k => XS.iload X11.here hx rfl (hb hby at_62) rfl k) ?_
    refine own_go (T' := T11) (g' := (mkF m 65 #[.val (.int xs), .val (.int xn), .val (.long xa), .second, .val (.long xb), .second, .val (.long xc), .second, .val (.int (0 : Int32)), .val (.ref d1), .val (.ref d2), .val (.ref d4), .val (.ref b7), .unset, .unset, .unset, .unset] [(.int (3 : Int32)), (.int (0 : Int32))])) (fun _ k => XS.iconst X11.here hx rfl (hb hby at_64) k) ?_
    refine own_go (T' := T11) (g' := (mkF m 76 #[.val (.int xs), .val (.int xn), .val (.long xa), .second, .val (.long xb), .second, .val (.long xc), .second, .val (.int (0 : Int32)), .val (.ref d1), .val (.ref d2), .val (.ref d4), .val (.ref b7), .unset, .unset, .unset, .unset] [])) (fun _ k => XS.icmpYes X11.here hx rfl (pc0 := 65) (pc' := 76) rfl (hb hby at_65) rfl (tlt ((by decide) : (0 : Int32) < (3 : Int32))).1 (by decide) (by decide) k) ?_
    obtain ⟨T15, h15, X15, e15, E15, A15, D15, -, st15⟩ := newO X11 hx hZ hown (hw _ (List.mem_of_getElem? (i := 44) rfl)) (hw _ (List.mem_of_getElem? (i := 45) rfl)) (hw _ (List.mem_of_getElem? (i := 46) rfl)) rfl (g := (mkF m 76 #[.val (.int xs), .val (.int xn), .val (.long xa), .second, .val (.long xb), .second, .val (.long xc), .second, .val (.int (0 : Int32)), .val (.ref d1), .val (.ref d2), .val (.ref d4), .val (.ref b7), .unset, .unset, .unset, .unset] [])) rfl (hb hby at_76) (by decide) (by decide)
    obtain ⟨b15, g15⟩ : ∃ z, z = T11.heap.size := ⟨_, rfl⟩
    rw [← g15] at A15 D15 st15
    have ne_d1_b15 : d1 ≠ b15 := Nat.ne_of_lt (Nat.lt_of_lt_of_le Ek12.lt (Nat.le_of_eq g15.symm))
    have ne_d2_b15 : d2 ≠ b15 := Nat.ne_of_lt (Nat.lt_of_lt_of_le Ek13.lt (Nat.le_of_eq g15.symm))
    have ne_d4_b15 : d4 ≠ b15 := Nat.ne_of_lt (Nat.lt_of_lt_of_le Ek14.lt (Nat.le_of_eq g15.symm))
    have ne_b7_b15 : b7 ≠ b15 := Nat.ne_of_lt (Nat.lt_of_lt_of_le Ec11.lt (Nat.le_of_eq g15.symm))
    have gz_b15 : n0 ≤ b15 := Nat.le_trans Z11 (Nat.le_of_eq g15.symm)
    have hz_b15 : h0.size ≤ b15 := Nat.le_trans K11.1 (Nat.le_of_eq g15.symm)
    have Ek16 := Ek12.ext E15
    have Ek17 := Ek13.ext E15
    have Ek18 := Ek14.ext E15
    have Ek19 := Ec11.ext E15
    have Fk20 := Fmc11.ext E15
    have Fk21 := Fec11.ext E15
    have Fk22 := Fsc11.ext E15
    have Z15 : n0 ≤ h15.size := Nat.le_trans Z11 E15.1
    have O15 : Ext h0 h15 := own_ext_tr O11 E15
    have K15 : Keep h0 h15 [] := K11.ext E15
    have Fwaits_b15 : Fld Z h15 b15 "com/example/entrega/entrega/RetrySchedule" "waits" "Ljava/util/List;" .null := D15 (Or.inr (hw _ (List.mem_of_getElem? (i := 86) rfl))) (ty := (.object "java/util/List")) (by decide)
    refine own_go (T' := T15) (g' := (mkF m 79 #[.val (.int xs), .val (.int xn), .val (.long xa), .second, .val (.long xb), .second, .val (.long xc), .second, .val (.int (0 : Int32)), .val (.ref d1), .val (.ref d2), .val (.ref d4), .val (.ref b7), .unset, .unset, .unset, .unset] [(.ref b15)])) (fun _ k => st15 _ k) ?_
    refine own_go (T' := T15) (g' := (mkF m 80 #[.val (.int xs), .val (.int xn), .val (.long xa), .second, .val (.long xb), .second, .val (.long xc), .second, .val (.int (0 : Int32)), .val (.ref d1), .val (.ref d2), .val (.ref d4), .val (.ref b7), .unset, .unset, .unset, .unset] [(.ref b15), (.ref b15)])) (fun _ k => XS.dup X15.here hx rfl (hb hby at_79) rfl rfl k) ?_
    refine own_go (T' := T15) (g' := (mkF m 82 #[.val (.int xs), .val (.int xn), .val (.long xa), .second, .val (.long xb), .second, .val (.long xc), .second, .val (.int (0 : Int32)), .val (.ref d1), .val (.ref d2), .val (.ref d4), .val (.ref b7), .unset, .unset, .unset, .unset] [(.ref b7), (.ref b15), (.ref b15)])) (fun _ k => XS.aload X15.here hx rfl (hb hby at_80) rfl rfl k) ?_
    obtain ⟨_, _, ⟨T23, L23, k23, n23⟩, -, X23, ⟨Lc23, hQ23, l23, y23, z23⟩, st23⟩ := X15.specialBack hx (y := (⟨"com/example/entrega/entrega/RetrySchedule", "<init>", "(Ljava/util/List;)V"⟩ : MethodName)) rfl hown (mvT hZ (hw _ (List.mem_of_getElem? (i := 47) rfl))) (mvT hZ (hw _ (List.mem_of_getElem? (i := 48) rfl))) (mvT hZ (hw _ (List.mem_of_getElem? (i := 49) rfl))) (by decide) (backOf (W := 1) (own_rRs0 l Z a0 hw [] b15 b7 xE h15 n0 Z15 A15 Fwaits_b15 gz_b15 Ek19 Fk22 (Se.ext O15)) hZ (hw _ (List.mem_of_getElem? (i := 49) rfl)) (hw _ (List.mem_of_getElem? (i := 46) rfl)) (by decide) (by decide)) (g := (mkF m 82 #[.val (.int xs), .val (.int xn), .val (.long xa), .second, .val (.long xb), .second, .val (.long xc), .second, .val (.int (0 : Int32)), .val (.ref d1), .val (.ref d2), .val (.ref d4), .val (.ref b7), .unset, .unset, .unset, .unset] [(.ref b7), (.ref b15), (.ref b15)])) rfl (by rw [hml]; rfl) (Steps.refl _) (a := b15) (argsL := [(.ref b7)]) (rest := [(.ref b15)]) (lenOf own_pd20 rfl) rfl (by show 2 * 0 + _ ≤ _; exact Nat.le_of_eq rfl) (hb hby at_82) (fun _ _ => ⟨rfl, e15, (by decide : 5 + 0 ≤ _), (by decide : 10 + 0 ≤ _)⟩)
    dsimp only [Pt.U, Pt.locs, Pt.cells, Pt.slots] at X23 l23 y23 z23 st23 hQ23
    subst l23 y23 z23
    obtain ⟨rfl, N23q, Kc23, -, Ec23, Fwc23⟩ := hQ23
    have N23 := Fr.app N11 N23q
    have Ek24 := Ek16.keep Kc23
    have Ek25 := Ek17.keep Kc23
    have Ek26 := Ek18.keep Kc23
    have Ek27 := Ek19.keep Kc23
    have Fk28 := Fk20.keep Kc23 (own_one ne_b7_b15)
    have Fk29 := Fk21.keep Kc23 (own_one ne_b7_b15)
    have Fk30 := Fk22.keep Kc23 (own_one ne_b7_b15)
    have Z23 : n0 ≤ T23.heap.size := Nat.le_trans Z15 Kc23.1
    have O23 : Ext h0 T23.heap := own_ext_keep O15 Kc23 (own_all1 hz_b15)
    have K23 : Keep h0 T23.heap [] := K15.trans Kc23 (own_or1 (Or.inr hz_b15))
    refine own_goT (T' := T23) (g' := (mkF m 85 #[.val (.int xs), .val (.int xn), .val (.long xa), .second, .val (.long xb), .second, .val (.long xc), .second, .val (.int (0 : Int32)), .val (.ref d1), .val (.ref d2), .val (.ref d4), .val (.ref b7), .unset, .unset, .unset, .unset] [(.ref b15)])) st23 ?_
    refine own_go (T' := T23) (g' := (mkF m 87 #[.val (.int xs), .val (.int xn), .val (.long xa), .second, .val (.long xb), .second, .val (.long xc), .second, .val (.int (0 : Int32)), .val (.ref d1), .val (.ref d2), .val (.ref d4), .val (.ref b7), .val (.ref b15), .unset, .unset, .unset] [])) (fun _ k => XS.astore X23.here hx rfl (hb hby at_85) rfl rfl (l' := #[.val (.int xs), .val (.int xn), .val (.long xa), .second, .val (.long xb), .second, .val (.long xc), .second, .val (.int (0 : Int32)), .val (.ref d1), .val (.ref d2), .val (.ref d4), .val (.ref b7), .val (.ref b15), .unset, .unset, .unset]) rfl k) ?_
    refine own_go (T' := T23) (g' := (mkF m 88 #[.val (.int xs), .val (.int xn), .val (.long xa), .second, .val (.long xb), .second, .val (.long xc), .second, .val (.int (0 : Int32)), .val (.ref d1), .val (.ref d2), .val (.ref d4), .val (.ref b7), .val (.ref b15), .unset, .unset, .unset] [(.int (1 : Int32))])) (fun _ k => XS.iconst X23.here hx rfl (hb hby at_87) k) ?_
    refine own_go (T' := T23) (g' := (mkF m 89 #[.val (.int xs), .val (.int xn), .val (.long xa), .second, .val (.long xb), .second, .val (.long xc), .second, .val (.int (0 : Int32)), .val (.ref d1), .val (.ref d2), .val (.ref d4), .val (.ref b7), .val (.ref b15), .unset, .unset, .unset] [(.int xn), (.int (1 : Int32))])) (fun _ k => XS.iloadN X23.here hx rfl (hb hby at_88) rfl k) ?_
    refine own_go (T' := T23) (g' := (mkF m 91 #[.val (.int xs), .val (.int xn), .val (.long xa), .second, .val (.long xb), .second, .val (.long xc), .second, .val (.int (0 : Int32)), .val (.ref d1), .val (.ref d2), .val (.ref d4), .val (.ref b7), .val (.ref b15), .unset, .unset, .unset] [(.int (2147483647 : Int32)), (.int xn), (.int (1 : Int32))])) (fun _ k => X23.ldcInt hx hown (mvT hZ (hw _ (List.mem_of_getElem? (i := 87) rfl))) (g := (mkF m 89 #[.val (.int xs), .val (.int xn), .val (.long xa), .second, .val (.long xb), .second, .val (.long xc), .second, .val (.int (0 : Int32)), .val (.ref d1), .val (.ref d2), .val (.ref d4), .val (.ref b7), .val (.ref b15), .unset, .unset, .unset] [(.int xn), (.int (1 : Int32))])) rfl (hb hby at_89) _ k) ?_
    refine own_go (T' := T23) (g' := (mkF m 92 #[.val (.int xs), .val (.int xn), .val (.long xa), .second, .val (.long xb), .second, .val (.long xc), .second, .val (.int (0 : Int32)), .val (.ref d1), .val (.ref d2), .val (.ref d4), .val (.ref b7), .val (.ref b15), .unset, .unset, .unset] [(.int (xn &&& (2147483647 : Int32))), (.int (1 : Int32))])) (fun _ k => XS.iand X23.here hx rfl (hb hby at_91) rfl k) ?_
    refine own_go (T' := T23) (g' := (mkF m 94 #[.val (.int xs), .val (.int xn), .val (.long xa), .second, .val (.long xb), .second, .val (.long xc), .second, .val (.int (0 : Int32)), .val (.ref d1), .val (.ref d2), .val (.ref d4), .val (.ref b7), .val (.ref b15), .unset, .unset, .unset] [(.int (2147483647 : Int32)), (.int (xn &&& (2147483647 : Int32))), (.int (1 : Int32))])) (fun _ k => X23.ldcInt hx hown (mvT hZ (hw _ (List.mem_of_getElem? (i := 87) rfl))) (g := (mkF m 92 #[.val (.int xs), .val (.int xn), .val (.long xa), .second, .val (.long xb), .second, .val (.long xc), .second, .val (.int (0 : Int32)), .val (.ref d1), .val (.ref d2), .val (.ref d4), .val (.ref b7), .val (.ref b15), .unset, .unset, .unset] [(.int (xn &&& (2147483647 : Int32))), (.int (1 : Int32))])) rfl (hb hby at_92) _ k) ?_
    refine own_go (T' := T23) (g' := (mkF m 95 #[.val (.int xs), .val (.int xn), .val (.long xa), .second, .val (.long xb), .second, .val (.long xc), .second, .val (.int (0 : Int32)), .val (.ref d1), .val (.ref d2), .val (.ref d4), .val (.ref b7), .val (.ref b15), .unset, .unset, .unset] [(.int ((xn &&& (2147483647 : Int32)) % (2147483647 : Int32))), (.int (1 : Int32))])) (fun _ k => iremM X23 hx rfl (hb hby at_94) rfl (by decide) k) ?_
    refine own_go (T' := T23) (g' := (mkF m 96 #[.val (.int xs), .val (.int xn), .val (.long xa), .second, .val (.long xb), .second, .val (.long xc), .second, .val (.int (0 : Int32)), .val (.ref d1), .val (.ref d2), .val (.ref d4), .val (.ref b7), .val (.ref b15), .unset, .unset, .unset] [(.int ((1 : Int32) + ((xn &&& (2147483647 : Int32)) % (2147483647 : Int32))))])) (fun _ k => XS.iadd X23.here hx rfl (hb hby at_95) rfl k) ?_
    refine own_go (T' := T23) (g' := (mkF m 98 #[.val (.int xs), .val (.int xn), .val (.long xa), .second, .val (.long xb), .second, .val (.long xc), .second, .val (.int (0 : Int32)), .val (.ref d1), .val (.ref d2), .val (.ref d4), .val (.ref b7), .val (.ref b15), .val (.int ((1 : Int32) + ((xn &&& (2147483647 : Int32)) % (2147483647 : Int32)))), .unset, .unset] [])) (fun _ k => XS.istore X23.here hx rfl (hb hby at_96) rfl (l' := #[.val (.int xs), .val (.int xn), .val (.long xa), .second, .val (.long xb), .second, .val (.long xc), .second, .val (.int (0 : Int32)), .val (.ref d1), .val (.ref d2), .val (.ref d4), .val (.ref b7), .val (.ref b15), .val (.int ((1 : Int32) + ((xn &&& (2147483647 : Int32)) % (2147483647 : Int32)))), .unset, .unset]) rfl k) ?_
    rcases own_num0 xn with hnum
    · refine own_go (T' := T23) (g' := (mkF m 100 #[.val (.int xs), .val (.int xn), .val (.long xa), .second, .val (.long xb), .second, .val (.long xc), .second, .val (.int (0 : Int32)), .val (.ref d1), .val (.ref d2), .val (.ref d4), .val (.ref b7), .val (.ref b15), .val (.int ((1 : Int32) + ((xn &&& (2147483647 : Int32)) % (2147483647 : Int32)))), .unset, .unset] [(.ref b15)])) (fun _ k => XS.aload X23.here hx rfl (hb hby at_98) rfl rfl k) ?_
      refine own_go (T' := T23) (g' := (mkF m 102 #[.val (.int xs), .val (.int xn), .val (.long xa), .second, .val (.long xb), .second, .val (.long xc), .second, .val (.int (0 : Int32)), .val (.ref d1), .val (.ref d2), .val (.ref d4), .val (.ref b7), .val (.ref b15), .val (.int ((1 : Int32) + ((xn &&& (2147483647 : Int32)) % (2147483647 : Int32)))), .unset, .unset] [(.int ((1 : Int32) + ((xn &&& (2147483647 : Int32)) % (2147483647 : Int32)))), (.ref b15)])) (fun _ k => XS.iload X23.here hx rfl (hb hby at_100) rfl k) ?_
      obtain ⟨cq31, kq31, q31a, q31b, q31c⟩ := isOf hZ rfl Ec23
      obtain ⟨_, _, ⟨T31, L31, k31, n31⟩, -, X31, ⟨Lc31, hQ31, l31, y31, z31⟩, st31⟩ := X23.virtualBack hx (y := (⟨"com/example/entrega/entrega/RetrySchedule", "waitAfter", "(I)Ljava/time/Duration;"⟩ : MethodName)) (z := (⟨"com/example/entrega/entrega/RetrySchedule", "waitAfter", "(I)Ljava/time/Duration;"⟩ : MethodName)) hown (mvT hZ (hw _ (List.mem_of_getElem? (i := 88) rfl))) (mvT hZ (hw _ (List.mem_of_getElem? (i := 89) rfl))) (notFace_of_selects (args := #[]) (mvT hZ (hw _ (List.mem_of_getElem? (i := 91) rfl)))) (mvT hZ (hw _ (List.mem_of_getElem? (i := 91) rfl))) (mvT hZ (hw _ (List.mem_of_getElem? (i := 90) rfl))) (by decide) (backOf (W := 0) (own_rW0g l Z a0 hw [] b15 ((1 : Int32) + ((xn &&& (2147483647 : Int32)) % (2147483647 : Int32))) xE xee kee T23.heap n0 Z23 Fwc23 (EE.ext O23) (Fee.ext O23) (Aee.ext O23) hnum) hZ (hw _ (List.mem_of_getElem? (i := 92) rfl)) (hw _ (List.mem_of_getElem? (i := 46) rfl)) (by decide) (by decide)) q31a q31c (g := (mkF m 102 #[.val (.int xs), .val (.int xn), .val (.long xa), .second, .val (.long xb), .second, .val (.long xc), .second, .val (.int (0 : Int32)), .val (.ref d1), .val (.ref d2), .val (.ref d4), .val (.ref b7), .val (.ref b15), .val (.int ((1 : Int32) + ((xn &&& (2147483647 : Int32)) % (2147483647 : Int32)))), .unset, .unset] [(.int ((1 : Int32) + ((xn &&& (2147483647 : Int32)) % (2147483647 : Int32)))), (.ref b15)])) rfl (by rw [hml]; rfl) (Steps.refl _) (argsL := [(.int ((1 : Int32) + ((xn &&& (2147483647 : Int32)) % (2147483647 : Int32))))]) (rest := []) (lenOf own_pd21 rfl) rfl (by show 2 * 0 + _ ≤ _; exact Nat.le_of_eq rfl) (hb hby at_102) (fun _ _ => ⟨rfl, rfl, (by decide : 5 + 0 ≤ _), (by decide : 10 + 0 ≤ _)⟩)
      dsimp only [Pt.U, Pt.locs, Pt.cells, Pt.slots] at X31 l31 y31 z31 st31 hQ31
      subst l31 y31 z31
      obtain ⟨rfl, N31q, e31⟩ := hQ31
      have N31 := Fr.app N23 N31q
      refine own_goT (T' := T31) (g' := (mkF m 105 #[.val (.int xs), .val (.int xn), .val (.long xa), .second, .val (.long xb), .second, .val (.long xc), .second, .val (.int (0 : Int32)), .val (.ref d1), .val (.ref d2), .val (.ref d4), .val (.ref b7), .val (.ref b15), .val (.int ((1 : Int32) + ((xn &&& (2147483647 : Int32)) % (2147483647 : Int32)))), .unset, .unset] [.null])) st31 ?_
      refine own_go (T' := T31) (g' := (mkF m 107 #[.val (.int xs), .val (.int xn), .val (.long xa), .second, .val (.long xb), .second, .val (.long xc), .second, .val (.int (0 : Int32)), .val (.ref d1), .val (.ref d2), .val (.ref d4), .val (.ref b7), .val (.ref b15), .val (.int ((1 : Int32) + ((xn &&& (2147483647 : Int32)) % (2147483647 : Int32)))), .val .null, .unset] [])) (fun _ k => XS.astore X31.here hx rfl (hb hby at_105) rfl rfl (l' := #[.val (.int xs), .val (.int xn), .val (.long xa), .second, .val (.long xb), .second, .val (.long xc), .second, .val (.int (0 : Int32)), .val (.ref d1), .val (.ref d2), .val (.ref d4), .val (.ref b7), .val (.ref b15), .val (.int ((1 : Int32) + ((xn &&& (2147483647 : Int32)) % (2147483647 : Int32)))), .val .null, .unset]) rfl k) ?_
      refine own_go (T' := T31) (g' := (mkF m 108 #[.val (.int xs), .val (.int xn), .val (.long xa), .second, .val (.long xb), .second, .val (.long xc), .second, .val (.int (0 : Int32)), .val (.ref d1), .val (.ref d2), .val (.ref d4), .val (.ref b7), .val (.ref b15), .val (.int ((1 : Int32) + ((xn &&& (2147483647 : Int32)) % (2147483647 : Int32)))), .val .null, .unset] [.null])) (fun _ k => XS.aconstNull X31.here hx rfl (hb hby at_107) k) ?_
      refine own_go (T' := T31) (g' := (mkF m 110 #[.val (.int xs), .val (.int xn), .val (.long xa), .second, .val (.long xb), .second, .val (.long xc), .second, .val (.int (0 : Int32)), .val (.ref d1), .val (.ref d2), .val (.ref d4), .val (.ref b7), .val (.ref b15), .val (.int ((1 : Int32) + ((xn &&& (2147483647 : Int32)) % (2147483647 : Int32)))), .val .null, .val .null] [])) (fun _ k => XS.astore X31.here hx rfl (hb hby at_108) rfl rfl (l' := #[.val (.int xs), .val (.int xn), .val (.long xa), .second, .val (.long xb), .second, .val (.long xc), .second, .val (.int (0 : Int32)), .val (.ref d1), .val (.ref d2), .val (.ref d4), .val (.ref b7), .val (.ref b15), .val (.int ((1 : Int32) + ((xn &&& (2147483647 : Int32)) % (2147483647 : Int32)))), .val .null, .val .null]) rfl k) ?_
      refine own_go (T' := T31) (g' := (mkF m 112 #[.val (.int xs), .val (.int xn), .val (.long xa), .second, .val (.long xb), .second, .val (.long xc), .second, .val (.int (0 : Int32)), .val (.ref d1), .val (.ref d2), .val (.ref d4), .val (.ref b7), .val (.ref b15), .val (.int ((1 : Int32) + ((xn &&& (2147483647 : Int32)) % (2147483647 : Int32)))), .val .null, .val .null] [(.int ((1 : Int32) + ((xn &&& (2147483647 : Int32)) % (2147483647 : Int32))))])) (fun _ k => XS.iload X31.here hx rfl (hb hby at_110) rfl k) ?_
      refine own_go (T' := T31) (g' := (mkF m 114 #[.val (.int xs), .val (.int xn), .val (.long xa), .second, .val (.long xb), .second, .val (.long xc), .second, .val (.int (0 : Int32)), .val (.ref d1), .val (.ref d2), .val (.ref d4), .val (.ref b7), .val (.ref b15), .val (.int ((1 : Int32) + ((xn &&& (2147483647 : Int32)) % (2147483647 : Int32)))), .val .null, .val .null] [(.int (0 : Int32)), (.int ((1 : Int32) + ((xn &&& (2147483647 : Int32)) % (2147483647 : Int32))))])) (fun _ k => XS.iload X31.here hx rfl (hb hby at_112) rfl k) ?_
      refine own_go (T' := T31) (g' := (mkF m 147 #[.val (.int xs), .val (.int xn), .val (.long xa), .second, .val (.long xb), .second, .val (.long xc), .second, .val (.int (0 : Int32)), .val (.ref d1), .val (.ref d2), .val (.ref d4), .val (.ref b7), .val (.ref b15), .val (.int ((1 : Int32) + ((xn &&& (2147483647 : Int32)) % (2147483647 : Int32)))), .val .null, .val .null] [])) (fun _ k => XS.icmpYes X31.here hx rfl (pc0 := 114) (pc' := 147) rfl (hb hby at_114) rfl (tlt (hnum : (0 : Int32) < ((1 : Int32) + ((xn &&& (2147483647 : Int32)) % (2147483647 : Int32))))).2.2.1 (by decide) (by decide) k) ?_
      refine own_go (T' := T31) (g' := (mkF m 149 #[.val (.int xs), .val (.int xn), .val (.long xa), .second, .val (.long xb), .second, .val (.long xc), .second, .val (.int (0 : Int32)), .val (.ref d1), .val (.ref d2), .val (.ref d4), .val (.ref b7), .val (.ref b15), .val (.int ((1 : Int32) + ((xn &&& (2147483647 : Int32)) % (2147483647 : Int32)))), .val .null, .val .null] [.null])) (fun _ k => XS.aload X31.here hx rfl (hb hby at_147) rfl rfl k) ?_
      refine own_go (T' := T31) (g' := (mkF m 151 #[.val (.int xs), .val (.int xn), .val (.long xa), .second, .val (.long xb), .second, .val (.long xc), .second, .val (.int (0 : Int32)), .val (.ref d1), .val (.ref d2), .val (.ref d4), .val (.ref b7), .val (.ref b15), .val (.int ((1 : Int32) + ((xn &&& (2147483647 : Int32)) % (2147483647 : Int32)))), .val .null, .val .null] [.null, .null])) (fun _ k => XS.aload X31.here hx rfl (hb hby at_149) rfl rfl k) ?_
      refine own_go (T' := T31) (g' := (mkF m 154 #[.val (.int xs), .val (.int xn), .val (.long xa), .second, .val (.long xb), .second, .val (.long xc), .second, .val (.int (0 : Int32)), .val (.ref d1), .val (.ref d2), .val (.ref d4), .val (.ref b7), .val (.ref b15), .val (.int ((1 : Int32) + ((xn &&& (2147483647 : Int32)) % (2147483647 : Int32)))), .val .null, .val .null] [])) (fun _ k => Jvm.RoadKit.acmp (g := (mkF m 151 #[.val (.int xs), .val (.int xn), .val (.long xa), .second, .val (.long xb), .second, .val (.long xc), .second, .val (.int (0 : Int32)), .val (.ref d1), .val (.ref d2), .val (.ref d4), .val (.ref b7), .val (.ref b15), .val (.int ((1 : Int32) + ((xn &&& (2147483647 : Int32)) % (2147483647 : Int32)))), .val .null, .val .null] [.null, .null])) X31 hx rfl rfl rfl (pc0 := 151) (pc' := 154) (same := true) rfl (hb hby at_151) rfl (decide_eq_true rfl) (by decide) (by decide) k) ?_
      refine own_go (T' := T31) (g' := (mkF m 155 #[.val (.int xs), .val (.int xn), .val (.long xa), .second, .val (.long xb), .second, .val (.long xc), .second, .val (.int (0 : Int32)), .val (.ref d1), .val (.ref d2), .val (.ref d4), .val (.ref b7), .val (.ref b15), .val (.int ((1 : Int32) + ((xn &&& (2147483647 : Int32)) % (2147483647 : Int32)))), .val .null, .val .null] [(.int (1 : Int32))])) (fun _ k => XS.iconst X31.here hx rfl (hb hby at_154) k) ?_
      refine own_go (T' := T31) (g' := (mkF m 159 #[.val (.int xs), .val (.int xn), .val (.long xa), .second, .val (.long xb), .second, .val (.long xc), .second, .val (.int (0 : Int32)), .val (.ref d1), .val (.ref d2), .val (.ref d4), .val (.ref b7), .val (.ref b15), .val (.int ((1 : Int32) + ((xn &&& (2147483647 : Int32)) % (2147483647 : Int32)))), .val .null, .val .null] [(.int (1 : Int32))])) (fun _ k => XS.goto X31.here hx rfl (pc0 := 155) (pc' := 159) rfl (hb hby at_155) (by decide) (by decide) k) ?_
      obtain ⟨fs, hr, hrun, hended, hW, hsame⟩ := X31.leave (v := some (.int (1 : Int32))) (fun h => by rw [Bd.returns] at h; cases h)
      refine own_end (retN X31 hx (t := .boolean) Bd.returns (by simp) (hb hby at_159) hr) hrun hended ⟨_, _, rfl, (?_ : own_QL Z xs xn xa xb xc xz xd kd xE xee kee xq xm h0 n0 _ T31.heap _), ⟨_, rfl⟩, hW, hsame.mono (by decide) (by decide)⟩
      rw [e31]
      exact ⟨rfl, N31⟩
  · rw [hk]
    refine own_go (T' := s₁) (g' := (mkF m 6 #[.val (.int xs), .val (.int xn), .val (.long xa), .second, .val (.long xb), .second, .val (.long xc), .second, .val (.int (1 : Int32)), .unset, .unset, .unset, .unset, .unset, .unset, .unset, .unset] [(.long xa)])) (fun _ k => XS.lloadN X0.here hx rfl (hb hby at_5) rfl k) ?_
    obtain ⟨_, _, ⟨T32, L32, k32, n32⟩, -, X32, ⟨Lc32, hQ32, l32, y32, z32⟩, st32⟩ := Jvm.LawKit.callS X0 hx (y := (⟨"java/time/Duration", "ofSeconds", "(J)Ljava/time/Duration;"⟩ : MethodName)) hown (mvT hZ (hw _ (List.mem_of_getElem? (i := 0) rfl))) (mvT hZ (hw _ (List.mem_of_getElem? (i := 1) rfl))) (mvT hZ (hw _ (List.mem_of_getElem? (i := 2) rfl))) (mvT hZ (hw _ (List.mem_of_getElem? (i := 3) rfl))) (by decide) (backOf (W := 0) (own_rOs l Z a0 hw [] xa xz h0 n0 Z0 (Sz.ext (own_ext_rf h0)) (Ez.ext (own_ext_rf h0))) hZ (hw _ (List.mem_of_getElem? (i := 3) rfl)) (hw _ (List.mem_of_getElem? (i := 2) rfl)) (by decide) (by decide)) (g := (mkF m 6 #[.val (.int xs), .val (.int xn), .val (.long xa), .second, .val (.long xb), .second, .val (.long xc), .second, .val (.int (1 : Int32)), .unset, .unset, .unset, .unset, .unset, .unset, .unset, .unset] [(.long xa)])) rfl (by rw [hml]; rfl) (argsL := [(.long xa)]) (rest := []) (lenOf own_pd19 rfl) rfl (by show 2 * 0 + _ ≤ _; exact Nat.le_of_eq rfl) (hb hby at_6) (fun _ _ => ⟨rfl, e0, (by decide : 0 + 1 ≤ _), (by decide : 0 + 2 ≤ _)⟩)
    dsimp only [Pt.U, Pt.locs, Pt.cells, Pt.slots] at X32 l32 y32 z32 st32 hQ32
    subst l32 y32 z32
    obtain ⟨-, N32q, Kc32, -, d32, rfl, Ec32⟩ := hQ32
    have N32 := Fr.app N0 N32q
    have Z32 : n0 ≤ T32.heap.size := Nat.le_trans Z0 Kc32.1
    have O32 : Ext h0 T32.heap := own_ext_keep (own_ext_rf h0) Kc32 own_all0
    have K32 : Keep h0 T32.heap [] := (Keep.refl h0 []).trans Kc32 (fun x hx => nomatch hx)
    refine own_go (T' := T32) (g' := (mkF m 9 #[.val (.int xs), .val (.int xn), .val (.long xa), .second, .val (.long xb), .second, .val (.long xc), .second, .val (.int (1 : Int32)), .unset, .unset, .unset, .unset, .unset, .unset, .unset, .unset] [(.ref d32)])) (fun _ k => st32 _ k) ?_
    refine own_go (T' := T32) (g' := (mkF m 11 #[.val (.int xs), .val (.int xn), .val (.long xa), .second, .val (.long xb), .second, .val (.long xc), .second, .val (.int (1 : Int32)), .val (.ref d32), .unset, .unset, .unset, .unset, .unset, .unset, .unset] [])) (fun _ k => XS.astore X32.here hx rfl (hb hby at_9) rfl rfl (l' := #[.val (.int xs), .val (.int xn), .val (.long xa), .second, .val (.long xb), .second, .val (.long xc), .second, .val (.int (1 : Int32)), .val (.ref d32), .unset, .unset, .unset, .unset, .unset, .unset, .unset]) rfl k) ?_
    refine own_go (T' := T32) (g' := (mkF m 13 #[.val (.int xs), .val (.int xn), .val (.long xa), .second, .val (.long xb), .second, .val (.long xc), .second, .val (.int (1 : Int32)), .val (.ref d32), .unset, .unset, .unset, .unset, .unset, .unset, .unset] [(.long xb)])) (fun _ k => XS.lload X32.here hx rfl (hb hby at_11) rfl k) ?_
    obtain ⟨_, _, ⟨T33, L33, k33, n33⟩, -, X33, ⟨Lc33, hQ33, l33, y33, z33⟩, st33⟩ := Jvm.LawKit.callS X32 hx (y := (⟨"java/time/Duration", "ofSeconds", "(J)Ljava/time/Duration;"⟩ : MethodName)) hown (mvT hZ (hw _ (List.mem_of_getElem? (i := 0) rfl))) (mvT hZ (hw _ (List.mem_of_getElem? (i := 1) rfl))) (mvT hZ (hw _ (List.mem_of_getElem? (i := 2) rfl))) (mvT hZ (hw _ (List.mem_of_getElem? (i := 3) rfl))) (by decide) (backOf (W := 0) (own_rOs l Z a0 hw [] xb xz T32.heap n0 Z32 (Sz.ext O32) (Ez.ext O32)) hZ (hw _ (List.mem_of_getElem? (i := 3) rfl)) (hw _ (List.mem_of_getElem? (i := 2) rfl)) (by decide) (by decide)) (g := (mkF m 13 #[.val (.int xs), .val (.int xn), .val (.long xa), .second, .val (.long xb), .second, .val (.long xc), .second, .val (.int (1 : Int32)), .val (.ref d32), .unset, .unset, .unset, .unset, .unset, .unset, .unset] [(.long xb)])) rfl (by rw [hml]; rfl) (argsL := [(.long xb)]) (rest := []) (lenOf own_pd19 rfl) rfl (by show 2 * 0 + _ ≤ _; exact Nat.le_of_eq rfl) (hb hby at_13) (fun _ _ => ⟨rfl, rfl, (by decide : 1 + 1 ≤ _), (by decide : 2 + 2 ≤ _)⟩)
    dsimp only [Pt.U, Pt.locs, Pt.cells, Pt.slots] at X33 l33 y33 z33 st33 hQ33
    subst l33 y33 z33
    obtain ⟨-, N33q, Kc33, -, d33, rfl, Ec33⟩ := hQ33
    have N33 := Fr.app N32 N33q
    have Ek34 := Ec32.keep Kc33
    have Z33 : n0 ≤ T33.heap.size := Nat.le_trans Z32 Kc33.1
    have O33 : Ext h0 T33.heap := own_ext_keep O32 Kc33 own_all0
    have K33 : Keep h0 T33.heap [] := K32.trans Kc33 (fun x hx => nomatch hx)
    refine own_go (T' := T33) (g' := (mkF m 16 #[.val (.int xs), .val (.int xn), .val (.long xa), .second, .val (.long xb), .second, .val (.long xc), .second, .val (.int (1 : Int32)), .val (.ref d32), .unset, .unset, .unset, .unset, .unset, .unset, .unset] [(.ref d33)])) (fun _ k => st33 _ k) ?_
    refine own_go (T' := T33) (g' := (mkF m 18 #[.val (.int xs), .val (.int xn), .val (.long xa), .second, .val (.long xb), .second, .val (.long xc), .second, .val (.int (1 : Int32)), .val (.ref d32), .val (.ref d33), .unset, .unset, .unset, .unset, .unset, .unset] [])) (fun _ k => XS.astore X33.here hx rfl (hb hby at_16) rfl rfl (l' := #[.val (.int xs), .val (.int xn), .val (.long xa), .second, .val (.long xb), .second, .val (.long xc), .second, .val (.int (1 : Int32)), .val (.ref d32), .val (.ref d33), .unset, .unset, .unset, .unset, .unset, .unset]) rfl k) ?_
    refine own_go (T' := T33) (g' := (mkF m 20 #[.val (.int xs), .val (.int xn), .val (.long xa), .second, .val (.long xb), .second, .val (.long xc), .second, .val (.int (1 : Int32)), .val (.ref d32), .val (.ref d33), .unset, .unset, .unset, .unset, .unset, .unset] [(.long xc)])) (fun _ k => XS.lload X33.here hx rfl (hb hby at_18) rfl k) ?_
    obtain ⟨_, _, ⟨T35, L35, k35, n35⟩, -, X35, ⟨Lc35, hQ35, l35, y35, z35⟩, st35⟩ := Jvm.LawKit.callS X33 hx (y := (⟨"java/time/Duration", "ofSeconds", "(J)Ljava/time/Duration;"⟩ : MethodName)) hown (mvT hZ (hw _ (List.mem_of_getElem? (i := 0) rfl))) (mvT hZ (hw _ (List.mem_of_getElem? (i := 1) rfl))) (mvT hZ (hw _ (List.mem_of_getElem? (i := 2) rfl))) (mvT hZ (hw _ (List.mem_of_getElem? (i := 3) rfl))) (by decide) (backOf (W := 0) (own_rOs l Z a0 hw [] xc xz T33.heap n0 Z33 (Sz.ext O33) (Ez.ext O33)) hZ (hw _ (List.mem_of_getElem? (i := 3) rfl)) (hw _ (List.mem_of_getElem? (i := 2) rfl)) (by decide) (by decide)) (g := (mkF m 20 #[.val (.int xs), .val (.int xn), .val (.long xa), .second, .val (.long xb), .second, .val (.long xc), .second, .val (.int (1 : Int32)), .val (.ref d32), .val (.ref d33), .unset, .unset, .unset, .unset, .unset, .unset] [(.long xc)])) rfl (by rw [hml]; rfl) (argsL := [(.long xc)]) (rest := []) (lenOf own_pd19 rfl) rfl (by show 2 * 0 + _ ≤ _; exact Nat.le_of_eq rfl) (hb hby at_20) (fun _ _ => ⟨rfl, rfl, (by decide : 2 + 1 ≤ _), (by decide : 4 + 2 ≤ _)⟩)
    dsimp only [Pt.U, Pt.locs, Pt.cells, Pt.slots] at X35 l35 y35 z35 st35 hQ35
    subst l35 y35 z35
    obtain ⟨-, N35q, Kc35, -, d35, rfl, Ec35⟩ := hQ35
    have N35 := Fr.app N33 N35q
    have Ek36 := Ek34.keep Kc35
    have Ek37 := Ec33.keep Kc35
    have Z35 : n0 ≤ T35.heap.size := Nat.le_trans Z33 Kc35.1
    have O35 : Ext h0 T35.heap := own_ext_keep O33 Kc35 own_all0
    have K35 : Keep h0 T35.heap [] := K33.trans Kc35 (fun x hx => nomatch hx)
    refine own_go (T' := T35) (g' := (mkF m 23 #[.val (.int xs), .val (.int xn), .val (.long xa), .second, .val (.long xb), .second, .val (.long xc), .second, .val (.int (1 : Int32)), .val (.ref d32), .val (.ref d33), .unset, .unset, .unset, .unset, .unset, .unset] [(.ref d35)])) (fun _ k => st35 _ k) ?_
    refine own_go (T' := T35) (g' := (mkF m 25 #[.val (.int xs), .val (.int xn), .val (.long xa), .second, .val (.long xb), .second, .val (.long xc), .second, .val (.int (1 : Int32)), .val (.ref d32), .val (.ref d33), .val (.ref d35), .unset, .unset, .unset, .unset, .unset] [])) (fun _ k => XS.astore X35.here hx rfl (hb hby at_23) rfl rfl (l' := #[.val (.int xs), .val (.int xn), .val (.long xa), .second, .val (.long xb), .second, .val (.long xc), .second, .val (.int (1 : Int32)), .val (.ref d32), .val (.ref d33), .val (.ref d35), .unset, .unset, .unset, .unset, .unset]) rfl k) ?_
    obtain ⟨T38, h38, X38, e38, E38, A38, D38, -, st38⟩ := newO X35 hx hZ hown (hw _ (List.mem_of_getElem? (i := 20) rfl)) (hw _ (List.mem_of_getElem? (i := 21) rfl)) (hw _ (List.mem_of_getElem? (i := 22) rfl)) rfl (g := (mkF m 25 #[.val (.int xs), .val (.int xn), .val (.long xa), .second, .val (.long xb), .second, .val (.long xc), .second, .val (.int (1 : Int32)), .val (.ref d32), .val (.ref d33), .val (.ref d35), .unset, .unset, .unset, .unset, .unset] [])) rfl (hb hby at_25) (by decide) (by decide)
    obtain ⟨b38, g38⟩ : ∃ z, z = T35.heap.size := ⟨_, rfl⟩
    rw [← g38] at A38 D38 st38
    have ne_d32_b38 : d32 ≠ b38 := Nat.ne_of_lt (Nat.lt_of_lt_of_le Ek36.lt (Nat.le_of_eq g38.symm))
    have ne_d33_b38 : d33 ≠ b38 := Nat.ne_of_lt (Nat.lt_of_lt_of_le Ek37.lt (Nat.le_of_eq g38.symm))
    have ne_d35_b38 : d35 ≠ b38 := Nat.ne_of_lt (Nat.lt_of_lt_of_le Ec35.lt (Nat.le_of_eq g38.symm))
    have gz_b38 : n0 ≤ b38 := Nat.le_trans Z35 (Nat.le_of_eq g38.symm)
    have hz_b38 : h0.size ≤ b38 := Nat.le_trans K35.1 (Nat.le_of_eq g38.symm)
    have Ek39 := Ek36.ext E38
    have Ek40 := Ek37.ext E38
    have Ek41 := Ec35.ext E38
    have Z38 : n0 ≤ h38.size := Nat.le_trans Z35 E38.1
    have O38 : Ext h0 h38 := own_ext_tr O35 E38
    have K38 : Keep h0 h38 [] := K35.ext E38
    have FmodCount_b38 : Fld Z h38 b38 "java/util/AbstractList" "modCount" "I" (.int (0 : Int32)) := D38 (Or.inl (hw _ (List.mem_of_getElem? (i := 40) rfl))) (ty := .int) (by decide)
    have FelementData_b38 : Fld Z h38 b38 "java/util/ArrayList" "elementData" "[Ljava/lang/Object;" .null := D38 (Or.inl (hw _ (List.mem_of_getElem? (i := 43) rfl))) (ty := (.array (.object "java/lang/Object"))) (by decide)
    have Fsize_b38 : Fld Z h38 b38 "java/util/ArrayList" "size" "I" (.int (0 : Int32)) := D38 (Or.inl (hw _ (List.mem_of_getElem? (i := 80) rfl))) (ty := .int) (by decide)
    refine own_go (T' := T38) (g' := (mkF m 28 #[.val (.int xs), .val (.int xn), .val (.long xa), .second, .val (.long xb), .second, .val (.long xc), .second, .val (.int (1 : Int32)), .val (.ref d32), .val (.ref d33), .val (.ref d35), .unset, .unset, .unset, .unset, .unset] [(.ref b38)])) (fun _ k => st38 _ k) ?_
    refine own_go (T' := T38) (g' := (mkF m 29 #[.val (.int xs), .val (.int xn), .val (.long xa), .second, .val (.long xb), .second, .val (.long xc), .second, .val (.int (1 : Int32)), .val (.ref d32), .val (.ref d33), .val (.ref d35), .unset, .unset, .unset, .unset, .unset] [(.ref b38), (.ref b38)])) (fun _ k => XS.dup X38.here hx rfl (hb hby at_28) rfl rfl k) ?_
    obtain ⟨_, _, ⟨T42, L42, k42, n42⟩, -, X42, ⟨Lc42, hQ42, l42, y42, z42⟩, st42⟩ := X38.specialBack hx (y := (⟨"java/util/ArrayList", "<init>", "()V"⟩ : MethodName)) rfl hown (mvT hZ (hw _ (List.mem_of_getElem? (i := 23) rfl))) (mvT hZ (hw _ (List.mem_of_getElem? (i := 24) rfl))) (mvT hZ (hw _ (List.mem_of_getElem? (i := 25) rfl))) (by decide) (backOf (W := 1) (own_rAli l Z a0 hw [] b38 xd h38 n0 Z38 A38 FmodCount_b38 FelementData_b38 Fsize_b38 gz_b38 (Sd.ext O38)) hZ (hw _ (List.mem_of_getElem? (i := 25) rfl)) (hw _ (List.mem_of_getElem? (i := 22) rfl)) (by decide) (by decide)) (g := (mkF m 29 #[.val (.int xs), .val (.int xn), .val (.long xa), .second, .val (.long xb), .second, .val (.long xc), .second, .val (.int (1 : Int32)), .val (.ref d32), .val (.ref d33), .val (.ref d35), .unset, .unset, .unset, .unset, .unset] [(.ref b38), (.ref b38)])) rfl (by rw [hml]; rfl) (Steps.refl _) (a := b38) (argsL := []) (rest := [(.ref b38)]) (lenOf own_pd0 rfl) rfl (by show 2 * 0 + _ ≤ _; exact Nat.le_of_eq rfl) (hb hby at_29) (fun _ _ => ⟨rfl, e38, (by decide : 4 + 0 ≤ _), (by decide : 9 + 0 ≤ _)⟩)
    dsimp only [Pt.U, Pt.locs, Pt.cells, Pt.slots] at X42 l42 y42 z42 st42 hQ42
    subst l42 y42 z42
    obtain ⟨rfl, N42q, Kc42, -, Ec42, Fmc42, Fec42, Fsc42⟩ := hQ42
    have N42 := Fr.app N35 N42q
    have Ek43 := Ek39.keep Kc42
    have Ek44 := Ek40.keep Kc42
    have Ek45 := Ek41.keep Kc42
    have Z42 : n0 ≤ T42.heap.size := Nat.le_trans Z38 Kc42.1
    have O42 : Ext h0 T42.heap := own_ext_keep O38 Kc42 (own_all1 hz_b38)
    have K42 : Keep h0 T42.heap [] := K38.trans Kc42 (own_or1 (Or.inr hz_b38))
    refine own_goT (T' := T42) (g' := (mkF m 32 #[.val (.int xs), .val (.int xn), .val (.long xa), .second, .val (.long xb), .second, .val (.long xc), .second, .val (.int (1 : Int32)), .val (.ref d32), .val (.ref d33), .val (.ref d35), .unset, .unset, .unset, .unset, .unset] [(.ref b38)])) st42 ?_
    refine own_go (T' := T42) (g' := (mkF m 34 #[.val (.int xs), .val (.int xn), .val (.long xa), .second, .val (.long xb), .second, .val (.long xc), .second, .val (.int (1 : Int32)), .val (.ref d32), .val (.ref d33), .val (.ref d35), .val (.ref b38), .unset, .unset, .unset, .unset] [])) (fun _ k => XS.astore X42.here hx rfl (hb hby at_32) rfl rfl (l' := #[.val (.int xs), .val (.int xn), .val (.long xa), .second, .val (.long xb), .second, .val (.long xc), .second, .val (.int (1 : Int32)), .val (.ref d32), .val (.ref d33), .val (.ref d35), .val (.ref b38), .unset, .unset, .unset, .unset]) rfl k) ?_
    refine own_go (T' := T42) (g' := (mkF m 36 #[.val (.int xs), .val (.int xn), .val (.long xa), .second, .val (.long xb), .second, .val (.long xc), .second, .val (.int (1 : Int32)), .val (.ref d32), .val (.ref d33), .val (.ref d35), .val (.ref b38), .unset, .unset, .unset, .unset] [(.int (1 : Int32))])) (fun _ k => XS.iload X42.here hx rfl (hb hby at_34) rfl k) ?_
    refine own_go (T' := T42) (g' := (mkF m 37 #[.val (.int xs), .val (.int xn), .val (.long xa), .second, .val (.long xb), .second, .val (.long xc), .second, .val (.int (1 : Int32)), .val (.ref d32), .val (.ref d33), .val (.ref d35), .val (.ref b38), .unset, .unset, .unset, .unset] [(.int (1 : Int32)), (.int (1 : Int32))])) (fun _ k => XS.iconst X42.here hx rfl (hb hby at_36) k) ?_
    refine own_go (T' := T42) (g' := (mkF m 40 #[.val (.int xs), .val (.int xn), .val (.long xa), .second, .val (.long xb), .second, .val (.long xc), .second, .val (.int (1 : Int32)), .val (.ref d32), .val (.ref d33), .val (.ref d35), .val (.ref b38), .unset, .unset, .unset, .unset] [])) (fun _ k => XS.icmpNo X42.here hx rfl (hb hby at_37) rfl (flt ((by decide) : ¬ ((1 : Int32) < (1 : Int32)))).1 k) ?_
    refine own_go (T' := T42) (g' := (mkF m 42 #[.val (.int xs), .val (.int xn), .val (.long xa), .second, .val (.long xb), .second, .val (.long xc), .second, .val (.int (1 : Int32)), .val (.ref d32), .val (.ref d33), .val (.ref d35), .val (.ref b38), .unset, .unset, .unset, .unset] [(.ref b38)])) (fun _ k => XS.aload X42.here hx rfl (hb hby at_40) rfl rfl k) ?_
    refine own_go (T' := T42) (g' := (mkF m 44 #[.val (.int xs), .val (.int xn), .val (.long xa), .second, .val (.long xb), .second, .val (.long xc), .second, .val (.int (1 : Int32)), .val (.ref d32), .val (.ref d33), .val (.ref d35), .val (.ref b38), .unset, .unset, .unset, .unset] [(.ref d32), (.ref b38)])) (fun _ k => XS.aload X42.here hx rfl (hb hby at_42) rfl rfl k) ?_
    obtain ⟨cq46, kq46, q46a, q46b, q46c⟩ := isOf hZ rfl Ec42
    obtain ⟨_, _, ⟨T46, L46, k46, n46⟩, -, X46, ⟨Lc46, hQ46, l46, y46, z46⟩, st46⟩ := X42.virtualBack hx (y := (⟨"java/util/ArrayList", "add", "(Ljava/lang/Object;)Z"⟩ : MethodName)) (z := (⟨"java/util/ArrayList", "add", "(Ljava/lang/Object;)Z"⟩ : MethodName)) hown (mvT hZ (hw _ (List.mem_of_getElem? (i := 105) rfl))) (mvT hZ (hw _ (List.mem_of_getElem? (i := 106) rfl))) (notFace_of_selects (args := #[]) (mvT hZ (hw _ (List.mem_of_getElem? (i := 108) rfl)))) (mvT hZ (hw _ (List.mem_of_getElem? (i := 108) rfl))) (mvT hZ (hw _ (List.mem_of_getElem? (i := 107) rfl))) (by decide) (backOf (W := 0) (own_rA0 l Z a0 hw [] b38 d32 (0 : Int32) xd kd T42.heap n0 Z42 Ec42 Fmc42 Fec42 Fsc42 gz_b38 (Sd.ext O42) (Ad.ext O42) Ek43) hZ (hw _ (List.mem_of_getElem? (i := 109) rfl)) (hw _ (List.mem_of_getElem? (i := 22) rfl)) (by decide) (by decide)) q46a q46c (g := (mkF m 44 #[.val (.int xs), .val (.int xn), .val (.long xa), .second, .val (.long xb), .second, .val (.long xc), .second, .val (.int (1 : Int32)), .val (.ref d32), .val (.ref d33), .val (.ref d35), .val (.ref b38), .unset, .unset, .unset, .unset] [(.ref d32), (.ref b38)])) rfl (by rw [hml]; rfl) (Steps.refl _) (argsL := [(.ref d32)]) (rest := []) (lenOf own_pd22 rfl) rfl (by show 2 * 0 + _ ≤ _; exact Nat.le_of_eq rfl) (hb hby at_44) (fun _ _ => ⟨rfl, rfl, (by decide : 4 + 1 ≤ _), (by decide : 9 + 10 ≤ _)⟩)
    dsimp only [Pt.U, Pt.locs, Pt.cells, Pt.slots] at X46 l46 y46 z46 st46 hQ46
    subst l46 y46 z46
    obtain ⟨rfl, N46q, Kc46, -, r46, ka46, hzr46, Ec46, Fmc46, Fec46, Fsc46, Vc46, Ov46, Er46⟩ := hQ46
    have N46 := Fr.app N42 N46q
    have ne_d32_r46 : d32 ≠ r46 := Nat.ne_of_lt (Nat.lt_of_lt_of_le Ek43.lt hzr46)
    have ne_d33_r46 : d33 ≠ r46 := Nat.ne_of_lt (Nat.lt_of_lt_of_le Ek44.lt hzr46)
    have ne_d35_r46 : d35 ≠ r46 := Nat.ne_of_lt (Nat.lt_of_lt_of_le Ek45.lt hzr46)
    have ne_b38_r46 : b38 ≠ r46 := Nat.ne_of_lt (Nat.lt_of_lt_of_le Ec42.lt hzr46)
    have gz_r46 : n0 ≤ r46 := Nat.le_trans Z42 hzr46
    have hz_r46 : h0.size ≤ r46 := Nat.le_trans K42.1 hzr46
    have Ek47 := Ek43.keep Kc46
    have Ek48 := Ek44.keep Kc46
    have Ek49 := Ek45.keep Kc46
    have Z46 : n0 ≤ T46.heap.size := Nat.le_trans Z42 Kc46.1
    have O46 : Ext h0 T46.heap := own_ext_keep O42 Kc46 (own_all1 hz_b38)
    have K46 : Keep h0 T46.heap [] := K42.trans Kc46 (own_or1 (Or.inr hz_b38))
    refine own_goT (T' := T46) (g' := (mkF m 47 #[.val (.int xs), .val (.int xn), .val (.long xa), .second, .val (.long xb), .second, .val (.long xc), .second, .val (.int (1 : Int32)), .val (.ref d32), .val (.ref d33), .val (.ref d35), .val (.ref b38), .unset, .unset, .unset, .unset] [(.int (1 : Int32))])) st46 ?_
    refine own_go (T' := T46) (g' := (mkF m 48 #[.val (.int xs), .val (.int xn), .val (.long xa), .second, .val (.long xb), .second, .val (.long xc), .second, .val (.int (1 : Int32)), .val (.ref d32), .val (.ref d33), .val (.ref d35), .val (.ref b38), .unset, .unset, .unset, .unset] [])) (fun _ k => XS.pop X46.here hx rfl (hb hby at_47) rfl rfl k) ?_
    refine own_go (T' := T46) (g' := (mkF m 50 #[.val (.int xs), .val (.int xn), .val (.long xa), .second, .val (.long xb), .second, .val (.long xc), .second, .val (.int (1 : Int32)), .val (.ref d32), .val (.ref d33), .val (.ref d35), .val (.ref b38), .unset, .unset, .unset, .unset] [(.int (1 : Int32))])) (fun _ k => XS.iload X46.here hx rfl (hb hby at_48) rfl k) ?_
    refine own_go (T' := T46) (g' := (mkF m 51 #[.val (.int xs), .val (.int xn), .val (.long xa), .second, .val (.long xb), .second, .val (.long xc), .second, .val (.int (1 : Int32)), .val (.ref d32), .val (.ref d33), .val (.ref d35), .val (.ref b38), .unset, .unset, .unset, .unset] [(.int (2 : Int32)), (.int (1 : Int32))])) (fun _ k => XS.iconst X46.here hx rfl (hb hby at_50) k) ?_
    refine own_go (T' := T46) (g' := (mkF m 62 #[.val (.int xs), .val (.int xn), .val (.long xa), .second, .val (.long xb), .second, .val (.long xc), .second, .val (.int (1 : Int32)), .val (.ref d32), .val (.ref d33), .val (.ref d35), .val (.ref b38), .unset, .unset, .unset, .unset] [])) (fun _ k => XS.icmpYes X46.here hx rfl (pc0 := 51) (pc' := 62) rfl (hb hby at_51) rfl (tlt ((by decide) : (1 : Int32) < (2 : Int32))).1 (by decide) (by decide) k) ?_
    refine own_go (T' := T46) (g' := (mkF m 64 #[.val (.int xs), .val (.int xn), .val (.long xa), .second, .val (.long xb), .second, .val (.long xc), .second, .val (.int (1 : Int32)), .val (.ref d32), .val (.ref d33), .val (.ref d35), .val (.ref b38), .unset, .unset, .unset, .unset] [(.int (1 : Int32))])) (fun _ k => XS.iload X46.here hx rfl (hb hby at_62) rfl k) ?_
    refine own_go (T' := T46) (g' := (mkF m 65 #[.val (.int xs), .val (.int xn), .val (.long xa), .second, .val (.long xb), .second, .val (.long xc), .second, .val (.int (1 : Int32)), .val (.ref d32), .val (.ref d33), .val (.ref d35), .val (.ref b38), .unset, .unset, .unset, .unset] [(.int (3 : Int32)), (.int (1 : Int32))])) (fun _ k => XS.iconst X46.here hx rfl (hb hby at_64) k) ?_
    refine own_go (T' := T46) (g' := (mkF m 76 #[.val (.int xs), .val (.int xn), .val (.long xa), .second, .val (.long xb), .second, .val (.long xc), .second, .val (.int (1 : Int32)), .val (.ref d32), .val (.ref d33), .val (.ref d35), .val (.ref b38), .unset, .unset, .unset, .unset] [])) (fun _ k => XS.icmpYes X46.here hx rfl (pc0 := 65) (pc' := 76) rfl (hb hby at_65) rfl (tlt ((by decide) : (1 : Int32) < (3 : Int32))).1 (by decide) (by decide) k) ?_
    obtain ⟨T50, h50, X50, e50, E50, A50, D50, -, st50⟩ := newO X46 hx hZ hown (hw _ (List.mem_of_getElem? (i := 44) rfl)) (hw _ (List.mem_of_getElem? (i := 45) rfl)) (hw _ (List.mem_of_getElem? (i := 46) rfl)) rfl (g := (mkF m 76 #[.val (.int xs), .val (.int xn), .val (.long xa), .second, .val (.long xb), .second, .val (.long xc), .second, .val (.int (1 : Int32)), .val (.ref d32), .val (.ref d33), .val (.ref d35), .val (.ref b38), .unset, .unset, .unset, .unset] [])) rfl (hb hby at_76) (by decide) (by decide)
    obtain ⟨b50, g50⟩ : ∃ z, z = T46.heap.size := ⟨_, rfl⟩
    rw [← g50] at A50 D50 st50
    have ne_d32_b50 : d32 ≠ b50 := Nat.ne_of_lt (Nat.lt_of_lt_of_le Ek47.lt (Nat.le_of_eq g50.symm))
    have ne_d33_b50 : d33 ≠ b50 := Nat.ne_of_lt (Nat.lt_of_lt_of_le Ek48.lt (Nat.le_of_eq g50.symm))
    have ne_d35_b50 : d35 ≠ b50 := Nat.ne_of_lt (Nat.lt_of_lt_of_le Ek49.lt (Nat.le_of_eq g50.symm))
    have ne_b38_b50 : b38 ≠ b50 := Nat.ne_of_lt (Nat.lt_of_lt_of_le Ec46.lt (Nat.le_of_eq g50.symm))
    have ne_r46_b50 : r46 ≠ b50 := Nat.ne_of_lt (Nat.lt_of_lt_of_le Vc46.lt (Nat.le_of_eq g50.symm))
    have gz_b50 : n0 ≤ b50 := Nat.le_trans Z46 (Nat.le_of_eq g50.symm)
    have hz_b50 : h0.size ≤ b50 := Nat.le_trans K46.1 (Nat.le_of_eq g50.symm)
    have Ek51 := Ek47.ext E50
    have Ek52 := Ek48.ext E50
    have Ek53 := Ek49.ext E50
    have Ek54 := Ec46.ext E50
    have Fk55 := Fmc46.ext E50
    have Fk56 := Fec46.ext E50
    have Fk57 := Fsc46.ext E50
    have Vk58 := Vc46.ext E50
    have Ek59 := Er46.ext E50
    have Z50 : n0 ≤ h50.size := Nat.le_trans Z46 E50.1
    have O50 : Ext h0 h50 := own_ext_tr O46 E50
    have K50 : Keep h0 h50 [] := K46.ext E50
    have Fwaits_b50 : Fld Z h50 b50 "com/example/entrega/entrega/RetrySchedule" "waits" "Ljava/util/List;" .null := D50 (Or.inr (hw _ (List.mem_of_getElem? (i := 86) rfl))) (ty := (.object "java/util/List")) (by decide)
    refine own_go (T' := T50) (g' := (mkF m 79 #[.val (.int xs), .val (.int xn), .val (.long xa), .second, .val (.long xb), .second, .val (.long xc), .second, .val (.int (1 : Int32)), .val (.ref d32), .val (.ref d33), .val (.ref d35), .val (.ref b38), .unset, .unset, .unset, .unset] [(.ref b50)])) (fun _ k => st50 _ k) ?_
    refine own_go (T' := T50) (g' := (mkF m 80 #[.val (.int xs), .val (.int xn), .val (.long xa), .second, .val (.long xb), .second, .val (.long xc), .second, .val (.int (1 : Int32)), .val (.ref d32), .val (.ref d33), .val (.ref d35), .val (.ref b38), .unset, .unset, .unset, .unset] [(.ref b50), (.ref b50)])) (fun _ k => XS.dup X50.here hx rfl (hb hby at_79) rfl rfl k) ?_
    refine own_go (T' := T50) (g' := (mkF m 82 #[.val (.int xs), .val (.int xn), .val (.long xa), .second, .val (.long xb), .second, .val (.long xc), .second, .val (.int (1 : Int32)), .val (.ref d32), .val (.ref d33), .val (.ref d35), .val (.ref b38), .unset, .unset, .unset, .unset] [(.ref b38), (.ref b50), (.ref b50)])) (fun _ k => XS.aload X50.here hx rfl (hb hby at_80) rfl rfl k) ?_
    obtain ⟨_, _, ⟨T60, L60, k60, n60⟩, -, X60, ⟨Lc60, hQ60, l60, y60, z60⟩, st60⟩ := X50.specialBack hx (y := (⟨"com/example/entrega/entrega/RetrySchedule", "<init>", "(Ljava/util/List;)V"⟩ : MethodName)) rfl hown (mvT hZ (hw _ (List.mem_of_getElem? (i := 47) rfl))) (mvT hZ (hw _ (List.mem_of_getElem? (i := 48) rfl))) (mvT hZ (hw _ (List.mem_of_getElem? (i := 49) rfl))) (by decide) (backOf (W := 1) (own_rRs1 l Z a0 hw [] b50 b38 r46 ka46 xm xq d32 h50 n0 Z50 A50 Fwaits_b50 gz_b50 Ek54 Fk57 Fk56 Vk58 M Ek59 (Sq.ext O50) Ek51) hZ (hw _ (List.mem_of_getElem? (i := 49) rfl)) (hw _ (List.mem_of_getElem? (i := 46) rfl)) (by decide) (by decide)) (g := (mkF m 82 #[.val (.int xs), .val (.int xn), .val (.long xa), .second, .val (.long xb), .second, .val (.long xc), .second, .val (.int (1 : Int32)), .val (.ref d32), .val (.ref d33), .val (.ref d35), .val (.ref b38), .unset, .unset, .unset, .unset] [(.ref b38), (.ref b50), (.ref b50)])) rfl (by rw [hml]; rfl) (Steps.refl _) (a := b50) (argsL := [(.ref b38)]) (rest := [(.ref b50)]) (lenOf own_pd20 rfl) rfl (by show 2 * 0 + _ ≤ _; exact Nat.le_of_eq rfl) (hb hby at_82) (fun _ _ => ⟨rfl, e50, (by decide : 6 + 2 ≤ _), (by decide : 20 + 3 ≤ _)⟩)
    dsimp only [Pt.U, Pt.locs, Pt.cells, Pt.slots] at X60 l60 y60 z60 st60 hQ60
    subst l60 y60 z60
    obtain ⟨rfl, N60q, Kc60, -, Ec60, r60, hzr60, Fwc60, Elc60, F0c60, F1c60⟩ := hQ60
    have N60 := Fr.app N46 N60q
    have ne_d32_r60 : d32 ≠ r60 := Nat.ne_of_lt (Nat.lt_of_lt_of_le Ek51.lt hzr60)
    have ne_d33_r60 : d33 ≠ r60 := Nat.ne_of_lt (Nat.lt_of_lt_of_le Ek52.lt hzr60)
    have ne_d35_r60 : d35 ≠ r60 := Nat.ne_of_lt (Nat.lt_of_lt_of_le Ek53.lt hzr60)
    have ne_b38_r60 : b38 ≠ r60 := Nat.ne_of_lt (Nat.lt_of_lt_of_le Ek54.lt hzr60)
    have ne_r46_r60 : r46 ≠ r60 := Nat.ne_of_lt (Nat.lt_of_lt_of_le Vk58.lt hzr60)
    have ne_b50_r60 : b50 ≠ r60 := Nat.ne_of_lt (Nat.lt_of_lt_of_le A50.lt hzr60)
    have gz_r60 : n0 ≤ r60 := Nat.le_trans Z50 hzr60
    have hz_r60 : h0.size ≤ r60 := Nat.le_trans K50.1 hzr60
    have Ek61 := Ek51.keep Kc60
    have Ek62 := Ek52.keep Kc60
    have Ek63 := Ek53.keep Kc60
    have Ek64 := Ek54.keep Kc60
    have Fk65 := Fk55.keep Kc60 (own_one ne_b38_b50)
    have Fk66 := Fk56.keep Kc60 (own_one ne_b38_b50)
    have Fk67 := Fk57.keep Kc60 (own_one ne_b38_b50)
    have Vk68 := Vk58.keep Kc60 (own_one ne_r46_b50)
    have Ek69 := Ek59.keep Kc60
    have Z60 : n0 ≤ T60.heap.size := Nat.le_trans Z50 Kc60.1
    have O60 : Ext h0 T60.heap := own_ext_keep O50 Kc60 (own_all1 hz_b50)
    have K60 : Keep h0 T60.heap [] := K50.trans Kc60 (own_or1 (Or.inr hz_b50))
    refine own_goT (T' := T60) (g' := (mkF m 85 #[.val (.int xs), .val (.int xn), .val (.long xa), .second, .val (.long xb), .second, .val (.long xc), .second, .val (.int (1 : Int32)), .val (.ref d32), .val (.ref d33), .val (.ref d35), .val (.ref b38), .unset, .unset, .unset, .unset] [(.ref b50)])) st60 ?_
    refine own_go (T' := T60) (g' := (mkF m 87 #[.val (.int xs), .val (.int xn), .val (.long xa), .second, .val (.long xb), .second, .val (.long xc), .second, .val (.int (1 : Int32)), .val (.ref d32), .val (.ref d33), .val (.ref d35), .val (.ref b38), .val (.ref b50), .unset, .unset, .unset] [])) (fun _ k => XS.astore X60.here hx rfl (hb hby at_85) rfl rfl (l' := #[.val (.int xs), .val (.int xn), .val (.long xa), .second, .val (.long xb), .second, .val (.long xc), .second, .val (.int (1 : Int32)), .val (.ref d32), .val (.ref d33), .val (.ref d35), .val (.ref b38), .val (.ref b50), .unset, .unset, .unset]) rfl k) ?_
    refine own_go (T' := T60) (g' := (mkF m 88 #[.val (.int xs), .val (.int xn), .val (.long xa), .second, .val (.long xb), .second, .val (.long xc), .second, .val (.int (1 : Int32)), .val (.ref d32), .val (.ref d33), .val (.ref d35), .val (.ref b38), .val (.ref b50), .unset, .unset, .unset] [(.int (1 : Int32))])) (fun _ k => XS.iconst X60.here hx rfl (hb hby at_87) k) ?_
    refine own_go (T' := T60) (g' := (mkF m 89 #[.val (.int xs), .val (.int xn), .val (.long xa), .second, .val (.long xb), .second, .val (.long xc), .second, .val (.int (1 : Int32)), .val (.ref d32), .val (.ref d33), .val (.ref d35), .val (.ref b38), .val (.ref b50), .unset, .unset, .unset] [(.int xn), (.int (1 : Int32))])) (fun _ k => XS.iloadN X60.here hx rfl (hb hby at_88) rfl k) ?_
    refine own_go (T' := T60) (g' := (mkF m 91 #[.val (.int xs), .val (.int xn), .val (.long xa), .second, .val (.long xb), .second, .val (.long xc), .second, .val (.int (1 : Int32)), .val (.ref d32), .val (.ref d33), .val (.ref d35), .val (.ref b38), .val (.ref b50), .unset, .unset, .unset] [(.int (2147483647 : Int32)), (.int xn), (.int (1 : Int32))])) (fun _ k => X60.ldcInt hx hown (mvT hZ (hw _ (List.mem_of_getElem? (i := 87) rfl))) (g := (mkF m 89 #[.val (.int xs), .val (.int xn), .val (.long xa), .second, .val (.long xb), .second, .val (.long xc), .second, .val (.int (1 : Int32)), .val (.ref d32), .val (.ref d33), .val (.ref d35), .val (.ref b38), .val (.ref b50), .unset, .unset, .unset] [(.int xn), (.int (1 : Int32))])) rfl (hb hby at_89) _ k) ?_
    refine own_go (T' := T60) (g' := (mkF m 92 #[.val (.int xs), .val (.int xn), .val (.long xa), .second, .val (.long xb), .second, .val (.long xc), .second, .val (.int (1 : Int32)), .val (.ref d32), .val (.ref d33), .val (.ref d35), .val (.ref b38), .val (.ref b50), .unset, .unset, .unset] [(.int (xn &&& (2147483647 : Int32))), (.int (1 : Int32))])) (fun _ k => XS.iand X60.here hx rfl (hb hby at_91) rfl k) ?_
    refine own_go (T' := T60) (g' := (mkF m 94 #[.val (.int xs), .val (.int xn), .val (.long xa), .second, .val (.long xb), .second, .val (.long xc), .second, .val (.int (1 : Int32)), .val (.ref d32), .val (.ref d33), .val (.ref d35), .val (.ref b38), .val (.ref b50), .unset, .unset, .unset] [(.int (2147483647 : Int32)), (.int (xn &&& (2147483647 : Int32))), (.int (1 : Int32))])) (fun _ k => X60.ldcInt hx hown (mvT hZ (hw _ (List.mem_of_getElem? (i := 87) rfl))) (g := (mkF m 92 #[.val (.int xs), .val (.int xn), .val (.long xa), .second, .val (.long xb), .second, .val (.long xc), .second, .val (.int (1 : Int32)), .val (.ref d32), .val (.ref d33), .val (.ref d35), .val (.ref b38), .val (.ref b50), .unset, .unset, .unset] [(.int (xn &&& (2147483647 : Int32))), (.int (1 : Int32))])) rfl (hb hby at_92) _ k) ?_
    refine own_go (T' := T60) (g' := (mkF m 95 #[.val (.int xs), .val (.int xn), .val (.long xa), .second, .val (.long xb), .second, .val (.long xc), .second, .val (.int (1 : Int32)), .val (.ref d32), .val (.ref d33), .val (.ref d35), .val (.ref b38), .val (.ref b50), .unset, .unset, .unset] [(.int ((xn &&& (2147483647 : Int32)) % (2147483647 : Int32))), (.int (1 : Int32))])) (fun _ k => iremM X60 hx rfl (hb hby at_94) rfl (by decide) k) ?_
    refine own_go (T' := T60) (g' := (mkF m 96 #[.val (.int xs), .val (.int xn), .val (.long xa), .second, .val (.long xb), .second, .val (.long xc), .second, .val (.int (1 : Int32)), .val (.ref d32), .val (.ref d33), .val (.ref d35), .val (.ref b38), .val (.ref b50), .unset, .unset, .unset] [(.int ((1 : Int32) + ((xn &&& (2147483647 : Int32)) % (2147483647 : Int32))))])) (fun _ k => XS.iadd X60.here hx rfl (hb hby at_95) rfl k) ?_
    refine own_go (T' := T60) (g' := (mkF m 98 #[.val (.int xs), .val (.int xn), .val (.long xa), .second, .val (.long xb), .second, .val (.long xc), .second, .val (.int (1 : Int32)), .val (.ref d32), .val (.ref d33), .val (.ref d35), .val (.ref b38), .val (.ref b50), .val (.int ((1 : Int32) + ((xn &&& (2147483647 : Int32)) % (2147483647 : Int32)))), .unset, .unset] [])) (fun _ k => XS.istore X60.here hx rfl (hb hby at_96) rfl (l' := #[.val (.int xs), .val (.int xn), .val (.long xa), .second, .val (.long xb), .second, .val (.long xc), .second, .val (.int (1 : Int32)), .val (.ref d32), .val (.ref d33), .val (.ref d35), .val (.ref b38), .val (.ref b50), .val (.int ((1 : Int32) + ((xn &&& (2147483647 : Int32)) % (2147483647 : Int32)))), .unset, .unset]) rfl k) ?_
    rcases own_num1 xn with hnum | hnum
    · refine own_go (T' := T60) (g' := (mkF m 100 #[.val (.int xs), .val (.int xn), .val (.long xa), .second, .val (.long xb), .second, .val (.long xc), .second, .val (.int (1 : Int32)), .val (.ref d32), .val (.ref d33), .val (.ref d35), .val (.ref b38), .val (.ref b50), .val (.int ((1 : Int32) + ((xn &&& (2147483647 : Int32)) % (2147483647 : Int32)))), .unset, .unset] [(.ref b50)])) (fun _ k => XS.aload X60.here hx rfl (hb hby at_98) rfl rfl k) ?_
      refine own_go (T' := T60) (g' := (mkF m 102 #[.val (.int xs), .val (.int xn), .val (.long xa), .second, .val (.long xb), .second, .val (.long xc), .second, .val (.int (1 : Int32)), .val (.ref d32), .val (.ref d33), .val (.ref d35), .val (.ref b38), .val (.ref b50), .val (.int ((1 : Int32) + ((xn &&& (2147483647 : Int32)) % (2147483647 : Int32)))), .unset, .unset] [(.int ((1 : Int32) + ((xn &&& (2147483647 : Int32)) % (2147483647 : Int32)))), (.ref b50)])) (fun _ k => XS.iload X60.here hx rfl (hb hby at_100) rfl k) ?_
      obtain ⟨cq70, kq70, q70a, q70b, q70c⟩ := isOf hZ rfl Ec60
      obtain ⟨_, _, ⟨T70, L70, k70, n70⟩, -, X70, ⟨Lc70, hQ70, l70, y70, z70⟩, st70⟩ := X60.virtualBack hx (y := (⟨"com/example/entrega/entrega/RetrySchedule", "waitAfter", "(I)Ljava/time/Duration;"⟩ : MethodName)) (z := (⟨"com/example/entrega/entrega/RetrySchedule", "waitAfter", "(I)Ljava/time/Duration;"⟩ : MethodName)) hown (mvT hZ (hw _ (List.mem_of_getElem? (i := 88) rfl))) (mvT hZ (hw _ (List.mem_of_getElem? (i := 89) rfl))) (notFace_of_selects (args := #[]) (mvT hZ (hw _ (List.mem_of_getElem? (i := 91) rfl)))) (mvT hZ (hw _ (List.mem_of_getElem? (i := 91) rfl))) (mvT hZ (hw _ (List.mem_of_getElem? (i := 90) rfl))) (by decide) (backOf (W := 0) (own_rW1g l Z a0 hw [] b50 ((1 : Int32) + ((xn &&& (2147483647 : Int32)) % (2147483647 : Int32))) r60 xq xq d32 T60.heap n0 Z60 Fwc60 Elc60 F0c60 F1c60 (Sq.ext O60) rfl Ek61 hnum) hZ (hw _ (List.mem_of_getElem? (i := 92) rfl)) (hw _ (List.mem_of_getElem? (i := 46) rfl)) (by decide) (by decide)) q70a q70c (g := (mkF m 102 #[.val (.int xs), .val (.int xn), .val (.long xa), .second, .val (.long xb), .second, .val (.long xc), .second, .val (.int (1 : Int32)), .val (.ref d32), .val (.ref d33), .val (.ref d35), .val (.ref b38), .val (.ref b50), .val (.int ((1 : Int32) + ((xn &&& (2147483647 : Int32)) % (2147483647 : Int32)))), .unset, .unset] [(.int ((1 : Int32) + ((xn &&& (2147483647 : Int32)) % (2147483647 : Int32)))), (.ref b50)])) rfl (by rw [hml]; rfl) (Steps.refl _) (argsL := [(.int ((1 : Int32) + ((xn &&& (2147483647 : Int32)) % (2147483647 : Int32))))]) (rest := []) (lenOf own_pd21 rfl) rfl (by show 2 * 0 + _ ≤ _; exact Nat.le_of_eq rfl) (hb hby at_102) (fun _ _ => ⟨rfl, rfl, (by decide : 8 + 0 ≤ _), (by decide : 23 + 0 ≤ _)⟩)
      dsimp only [Pt.U, Pt.locs, Pt.cells, Pt.slots] at X70 l70 y70 z70 st70 hQ70
      subst l70 y70 z70
      obtain ⟨rfl, N70q, e70⟩ := hQ70
      have N70 := Fr.app N60 N70q
      refine own_goT (T' := T70) (g' := (mkF m 105 #[.val (.int xs), .val (.int xn), .val (.long xa), .second, .val (.long xb), .second, .val (.long xc), .second, .val (.int (1 : Int32)), .val (.ref d32), .val (.ref d33), .val (.ref d35), .val (.ref b38), .val (.ref b50), .val (.int ((1 : Int32) + ((xn &&& (2147483647 : Int32)) % (2147483647 : Int32)))), .unset, .unset] [.null])) st70 ?_
      refine own_go (T' := T70) (g' := (mkF m 107 #[.val (.int xs), .val (.int xn), .val (.long xa), .second, .val (.long xb), .second, .val (.long xc), .second, .val (.int (1 : Int32)), .val (.ref d32), .val (.ref d33), .val (.ref d35), .val (.ref b38), .val (.ref b50), .val (.int ((1 : Int32) + ((xn &&& (2147483647 : Int32)) % (2147483647 : Int32)))), .val .null, .unset] [])) (fun _ k => XS.astore X70.here hx rfl (hb hby at_105) rfl rfl (l' := #[.val (.int xs), .val (.int xn), .val (.long xa), .second, .val (.long xb), .second, .val (.long xc), .second, .val (.int (1 : Int32)), .val (.ref d32), .val (.ref d33), .val (.ref d35), .val (.ref b38), .val (.ref b50), .val (.int ((1 : Int32) + ((xn &&& (2147483647 : Int32)) % (2147483647 : Int32)))), .val .null, .unset]) rfl k) ?_
      refine own_go (T' := T70) (g' := (mkF m 108 #[.val (.int xs), .val (.int xn), .val (.long xa), .second, .val (.long xb), .second, .val (.long xc), .second, .val (.int (1 : Int32)), .val (.ref d32), .val (.ref d33), .val (.ref d35), .val (.ref b38), .val (.ref b50), .val (.int ((1 : Int32) + ((xn &&& (2147483647 : Int32)) % (2147483647 : Int32)))), .val .null, .unset] [.null])) (fun _ k => XS.aconstNull X70.here hx rfl (hb hby at_107) k) ?_
      refine own_go (T' := T70) (g' := (mkF m 110 #[.val (.int xs), .val (.int xn), .val (.long xa), .second, .val (.long xb), .second, .val (.long xc), .second, .val (.int (1 : Int32)), .val (.ref d32), .val (.ref d33), .val (.ref d35), .val (.ref b38), .val (.ref b50), .val (.int ((1 : Int32) + ((xn &&& (2147483647 : Int32)) % (2147483647 : Int32)))), .val .null, .val .null] [])) (fun _ k => XS.astore X70.here hx rfl (hb hby at_108) rfl rfl (l' := #[.val (.int xs), .val (.int xn), .val (.long xa), .second, .val (.long xb), .second, .val (.long xc), .second, .val (.int (1 : Int32)), .val (.ref d32), .val (.ref d33), .val (.ref d35), .val (.ref b38), .val (.ref b50), .val (.int ((1 : Int32) + ((xn &&& (2147483647 : Int32)) % (2147483647 : Int32)))), .val .null, .val .null]) rfl k) ?_
      refine own_go (T' := T70) (g' := (mkF m 112 #[.val (.int xs), .val (.int xn), .val (.long xa), .second, .val (.long xb), .second, .val (.long xc), .second, .val (.int (1 : Int32)), .val (.ref d32), .val (.ref d33), .val (.ref d35), .val (.ref b38), .val (.ref b50), .val (.int ((1 : Int32) + ((xn &&& (2147483647 : Int32)) % (2147483647 : Int32)))), .val .null, .val .null] [(.int ((1 : Int32) + ((xn &&& (2147483647 : Int32)) % (2147483647 : Int32))))])) (fun _ k => XS.iload X70.here hx rfl (hb hby at_110) rfl k) ?_
      refine own_go (T' := T70) (g' := (mkF m 114 #[.val (.int xs), .val (.int xn), .val (.long xa), .second, .val (.long xb), .second, .val (.long xc), .second, .val (.int (1 : Int32)), .val (.ref d32), .val (.ref d33), .val (.ref d35), .val (.ref b38), .val (.ref b50), .val (.int ((1 : Int32) + ((xn &&& (2147483647 : Int32)) % (2147483647 : Int32)))), .val .null, .val .null] [(.int (1 : Int32)), (.int ((1 : Int32) + ((xn &&& (2147483647 : Int32)) % (2147483647 : Int32))))])) (fun _ k => XS.iload X70.here hx rfl (hb hby at_112) rfl k) ?_
      refine own_go (T' := T70) (g' := (mkF m 147 #[.val (.int xs), .val (.int xn), .val (.long xa), .second, .val (.long xb), .second, .val (.long xc), .second, .val (.int (1 : Int32)), .val (.ref d32), .val (.ref d33), .val (.ref d35), .val (.ref b38), .val (.ref b50), .val (.int ((1 : Int32) + ((xn &&& (2147483647 : Int32)) % (2147483647 : Int32)))), .val .null, .val .null] [])) (fun _ k => XS.icmpYes X70.here hx rfl (pc0 := 114) (pc' := 147) rfl (hb hby at_114) rfl (tlt (hnum : (1 : Int32) < ((1 : Int32) + ((xn &&& (2147483647 : Int32)) % (2147483647 : Int32))))).2.2.1 (by decide) (by decide) k) ?_
      refine own_go (T' := T70) (g' := (mkF m 149 #[.val (.int xs), .val (.int xn), .val (.long xa), .second, .val (.long xb), .second, .val (.long xc), .second, .val (.int (1 : Int32)), .val (.ref d32), .val (.ref d33), .val (.ref d35), .val (.ref b38), .val (.ref b50), .val (.int ((1 : Int32) + ((xn &&& (2147483647 : Int32)) % (2147483647 : Int32)))), .val .null, .val .null] [.null])) (fun _ k => XS.aload X70.here hx rfl (hb hby at_147) rfl rfl k) ?_
      refine own_go (T' := T70) (g' := (mkF m 151 #[.val (.int xs), .val (.int xn), .val (.long xa), .second, .val (.long xb), .second, .val (.long xc), .second, .val (.int (1 : Int32)), .val (.ref d32), .val (.ref d33), .val (.ref d35), .val (.ref b38), .val (.ref b50), .val (.int ((1 : Int32) + ((xn &&& (2147483647 : Int32)) % (2147483647 : Int32)))), .val .null, .val .null] [.null, .null])) (fun _ k => XS.aload X70.here hx rfl (hb hby at_149) rfl rfl k) ?_
      refine own_go (T' := T70) (g' := (mkF m 154 #[.val (.int xs), .val (.int xn), .val (.long xa), .second, .val (.long xb), .second, .val (.long xc), .second, .val (.int (1 : Int32)), .val (.ref d32), .val (.ref d33), .val (.ref d35), .val (.ref b38), .val (.ref b50), .val (.int ((1 : Int32) + ((xn &&& (2147483647 : Int32)) % (2147483647 : Int32)))), .val .null, .val .null] [])) (fun _ k => Jvm.RoadKit.acmp (g := (mkF m 151 #[.val (.int xs), .val (.int xn), .val (.long xa), .second, .val (.long xb), .second, .val (.long xc), .second, .val (.int (1 : Int32)), .val (.ref d32), .val (.ref d33), .val (.ref d35), .val (.ref b38), .val (.ref b50), .val (.int ((1 : Int32) + ((xn &&& (2147483647 : Int32)) % (2147483647 : Int32)))), .val .null, .val .null] [.null, .null])) X70 hx rfl rfl rfl (pc0 := 151) (pc' := 154) (same := true) rfl (hb hby at_151) rfl (decide_eq_true rfl) (by decide) (by decide) k) ?_
      refine own_go (T' := T70) (g' := (mkF m 155 #[.val (.int xs), .val (.int xn), .val (.long xa), .second, .val (.long xb), .second, .val (.long xc), .second, .val (.int (1 : Int32)), .val (.ref d32), .val (.ref d33), .val (.ref d35), .val (.ref b38), .val (.ref b50), .val (.int ((1 : Int32) + ((xn &&& (2147483647 : Int32)) % (2147483647 : Int32)))), .val .null, .val .null] [(.int (1 : Int32))])) (fun _ k => XS.iconst X70.here hx rfl (hb hby at_154) k) ?_
      refine own_go (T' := T70) (g' := (mkF m 159 #[.val (.int xs), .val (.int xn), .val (.long xa), .second, .val (.long xb), .second, .val (.long xc), .second, .val (.int (1 : Int32)), .val (.ref d32), .val (.ref d33), .val (.ref d35), .val (.ref b38), .val (.ref b50), .val (.int ((1 : Int32) + ((xn &&& (2147483647 : Int32)) % (2147483647 : Int32)))), .val .null, .val .null] [(.int (1 : Int32))])) (fun _ k => XS.goto X70.here hx rfl (pc0 := 155) (pc' := 159) rfl (hb hby at_155) (by decide) (by decide) k) ?_
      obtain ⟨fs, hr, hrun, hended, hW, hsame⟩ := X70.leave (v := some (.int (1 : Int32))) (fun h => by rw [Bd.returns] at h; cases h)
      refine own_end (retN X70 hx (t := .boolean) Bd.returns (by simp) (hb hby at_159) hr) hrun hended ⟨_, _, rfl, (?_ : own_QL Z xs xn xa xb xc xz xd kd xE xee kee xq xm h0 n0 _ T70.heap _), ⟨_, rfl⟩, hW, hsame.mono (by decide) (by decide)⟩
      rw [e70]
      exact ⟨rfl, N70⟩
    · rw [hnum]
      refine own_go (T' := T60) (g' := (mkF m 100 #[.val (.int xs), .val (.int xn), .val (.long xa), .second, .val (.long xb), .second, .val (.long xc), .second, .val (.int (1 : Int32)), .val (.ref d32), .val (.ref d33), .val (.ref d35), .val (.ref b38), .val (.ref b50), .val (.int (1 : Int32)), .unset, .unset] [(.ref b50)])) (fun _ k => XS.aload X60.here hx rfl (hb hby at_98) rfl rfl k) ?_
      refine own_go (T' := T60) (g' := (mkF m 102 #[.val (.int xs), .val (.int xn), .val (.long xa), .second, .val (.long xb), .second, .val (.long xc), .second, .val (.int (1 : Int32)), .val (.ref d32), .val (.ref d33), .val (.ref d35), .val (.ref b38), .val (.ref b50), .val (.int (1 : Int32)), .unset, .unset] [(.int (1 : Int32)), (.ref b50)])) (fun _ k => XS.iload X60.here hx rfl (hb hby at_100) rfl k) ?_
      obtain ⟨cq71, kq71, q71a, q71b, q71c⟩ := isOf hZ rfl Ec60
      obtain ⟨_, _, ⟨T71, L71, k71, n71⟩, -, X71, ⟨Lc71, hQ71, l71, y71, z71⟩, st71⟩ := X60.virtualBack hx (y := (⟨"com/example/entrega/entrega/RetrySchedule", "waitAfter", "(I)Ljava/time/Duration;"⟩ : MethodName)) (z := (⟨"com/example/entrega/entrega/RetrySchedule", "waitAfter", "(I)Ljava/time/Duration;"⟩ : MethodName)) hown (mvT hZ (hw _ (List.mem_of_getElem? (i := 88) rfl))) (mvT hZ (hw _ (List.mem_of_getElem? (i := 89) rfl))) (notFace_of_selects (args := #[]) (mvT hZ (hw _ (List.mem_of_getElem? (i := 91) rfl)))) (mvT hZ (hw _ (List.mem_of_getElem? (i := 91) rfl))) (mvT hZ (hw _ (List.mem_of_getElem? (i := 90) rfl))) (by decide) (backOf (W := 0) (own_rW11 l Z a0 hw [] b50 r60 xq xq d32 T60.heap n0 Z60 Fwc60 Elc60 F0c60 F1c60 (Sq.ext O60) rfl Ek61) hZ (hw _ (List.mem_of_getElem? (i := 92) rfl)) (hw _ (List.mem_of_getElem? (i := 46) rfl)) (by decide) (by decide)) q71a q71c (g := (mkF m 102 #[.val (.int xs), .val (.int xn), .val (.long xa), .second, .val (.long xb), .second, .val (.long xc), .second, .val (.int (1 : Int32)), .val (.ref d32), .val (.ref d33), .val (.ref d35), .val (.ref b38), .val (.ref b50), .val (.int (1 : Int32)), .unset, .unset] [(.int (1 : Int32)), (.ref b50)])) rfl (by rw [hml]; rfl) (Steps.refl _) (argsL := [(.int (1 : Int32))]) (rest := []) (lenOf own_pd21 rfl) rfl (by show 2 * 0 + _ ≤ _; exact Nat.le_of_eq rfl) (hb hby at_102) (fun _ _ => ⟨rfl, rfl, (by decide : 8 + 0 ≤ _), (by decide : 23 + 0 ≤ _)⟩)
      dsimp only [Pt.U, Pt.locs, Pt.cells, Pt.slots] at X71 l71 y71 z71 st71 hQ71
      subst l71 y71 z71
      obtain ⟨rfl, N71q, e71⟩ := hQ71
      have N71 := Fr.app N60 N71q
      refine own_goT (T' := T71) (g' := (mkF m 105 #[.val (.int xs), .val (.int xn), .val (.long xa), .second, .val (.long xb), .second, .val (.long xc), .second, .val (.int (1 : Int32)), .val (.ref d32), .val (.ref d33), .val (.ref d35), .val (.ref b38), .val (.ref b50), .val (.int (1 : Int32)), .unset, .unset] [(.ref d32)])) st71 ?_
      refine own_go (T' := T71) (g' := (mkF m 107 #[.val (.int xs), .val (.int xn), .val (.long xa), .second, .val (.long xb), .second, .val (.long xc), .second, .val (.int (1 : Int32)), .val (.ref d32), .val (.ref d33), .val (.ref d35), .val (.ref b38), .val (.ref b50), .val (.int (1 : Int32)), .val (.ref d32), .unset] [])) (fun _ k => XS.astore X71.here hx rfl (hb hby at_105) rfl rfl (l' := #[.val (.int xs), .val (.int xn), .val (.long xa), .second, .val (.long xb), .second, .val (.long xc), .second, .val (.int (1 : Int32)), .val (.ref d32), .val (.ref d33), .val (.ref d35), .val (.ref b38), .val (.ref b50), .val (.int (1 : Int32)), .val (.ref d32), .unset]) rfl k) ?_
      refine own_go (T' := T71) (g' := (mkF m 108 #[.val (.int xs), .val (.int xn), .val (.long xa), .second, .val (.long xb), .second, .val (.long xc), .second, .val (.int (1 : Int32)), .val (.ref d32), .val (.ref d33), .val (.ref d35), .val (.ref b38), .val (.ref b50), .val (.int (1 : Int32)), .val (.ref d32), .unset] [.null])) (fun _ k => XS.aconstNull X71.here hx rfl (hb hby at_107) k) ?_
      refine own_go (T' := T71) (g' := (mkF m 110 #[.val (.int xs), .val (.int xn), .val (.long xa), .second, .val (.long xb), .second, .val (.long xc), .second, .val (.int (1 : Int32)), .val (.ref d32), .val (.ref d33), .val (.ref d35), .val (.ref b38), .val (.ref b50), .val (.int (1 : Int32)), .val (.ref d32), .val .null] [])) (fun _ k => XS.astore X71.here hx rfl (hb hby at_108) rfl rfl (l' := #[.val (.int xs), .val (.int xn), .val (.long xa), .second, .val (.long xb), .second, .val (.long xc), .second, .val (.int (1 : Int32)), .val (.ref d32), .val (.ref d33), .val (.ref d35), .val (.ref b38), .val (.ref b50), .val (.int (1 : Int32)), .val (.ref d32), .val .null]) rfl k) ?_
      refine own_go (T' := T71) (g' := (mkF m 112 #[.val (.int xs), .val (.int xn), .val (.long xa), .second, .val (.long xb), .second, .val (.long xc), .second, .val (.int (1 : Int32)), .val (.ref d32), .val (.ref d33), .val (.ref d35), .val (.ref b38), .val (.ref b50), .val (.int (1 : Int32)), .val (.ref d32), .val .null] [(.int (1 : Int32))])) (fun _ k => XS.iload X71.here hx rfl (hb hby at_110) rfl k) ?_
      refine own_go (T' := T71) (g' := (mkF m 114 #[.val (.int xs), .val (.int xn), .val (.long xa), .second, .val (.long xb), .second, .val (.long xc), .second, .val (.int (1 : Int32)), .val (.ref d32), .val (.ref d33), .val (.ref d35), .val (.ref b38), .val (.ref b50), .val (.int (1 : Int32)), .val (.ref d32), .val .null] [(.int (1 : Int32)), (.int (1 : Int32))])) (fun _ k => XS.iload X71.here hx rfl (hb hby at_112) rfl k) ?_
      refine own_go (T' := T71) (g' := (mkF m 117 #[.val (.int xs), .val (.int xn), .val (.long xa), .second, .val (.long xb), .second, .val (.long xc), .second, .val (.int (1 : Int32)), .val (.ref d32), .val (.ref d33), .val (.ref d35), .val (.ref b38), .val (.ref b50), .val (.int (1 : Int32)), .val (.ref d32), .val .null] [])) (fun _ k => XS.icmpNo X71.here hx rfl (hb hby at_114) rfl (flt ((by decide) : ¬ ((1 : Int32) < (1 : Int32)))).2.2.1 k) ?_
      refine own_go (T' := T71) (g' := (mkF m 119 #[.val (.int xs), .val (.int xn), .val (.long xa), .second, .val (.long xb), .second, .val (.long xc), .second, .val (.int (1 : Int32)), .val (.ref d32), .val (.ref d33), .val (.ref d35), .val (.ref b38), .val (.ref b50), .val (.int (1 : Int32)), .val (.ref d32), .val .null] [(.int (1 : Int32))])) (fun _ k => XS.iload X71.here hx rfl (hb hby at_117) rfl k) ?_
      refine own_go (T' := T71) (g' := (mkF m 120 #[.val (.int xs), .val (.int xn), .val (.long xa), .second, .val (.long xb), .second, .val (.long xc), .second, .val (.int (1 : Int32)), .val (.ref d32), .val (.ref d33), .val (.ref d35), .val (.ref b38), .val (.ref b50), .val (.int (1 : Int32)), .val (.ref d32), .val .null] [(.int (1 : Int32)), (.int (1 : Int32))])) (fun _ k => XS.iconst X71.here hx rfl (hb hby at_119) k) ?_
      refine own_go (T' := T71) (g' := (mkF m 123 #[.val (.int xs), .val (.int xn), .val (.long xa), .second, .val (.long xb), .second, .val (.long xc), .second, .val (.int (1 : Int32)), .val (.ref d32), .val (.ref d33), .val (.ref d35), .val (.ref b38), .val (.ref b50), .val (.int (1 : Int32)), .val (.ref d32), .val .null] [])) (fun _ k => XS.icmpNo X71.here hx rfl (hb hby at_120) rfl (teq ((by decide) : (1 : Int32) = (1 : Int32))).2 k) ?_
      refine own_go (T' := T71) (g' := (mkF m 125 #[.val (.int xs), .val (.int xn), .val (.long xa), .second, .val (.long xb), .second, .val (.long xc), .second, .val (.int (1 : Int32)), .val (.ref d32), .val (.ref d33), .val (.ref d35), .val (.ref b38), .val (.ref b50), .val (.int (1 : Int32)), .val (.ref d32), .val .null] [(.ref d32)])) (fun _ k => XS.aload X71.here hx rfl (hb hby at_123) rfl rfl k) ?_
      refine own_go (T' := T71) (g' := (mkF m 127 #[.val (.int xs), .val (.int xn), .val (.long xa), .second, .val (.long xb), .second, .val (.long xc), .second, .val (.int (1 : Int32)), .val (.ref d32), .val (.ref d33), .val (.ref d35), .val (.ref b38), .val (.ref b50), .val (.int (1 : Int32)), .val (.ref d32), .val (.ref d32)] [])) (fun _ k => XS.astore X71.here hx rfl (hb hby at_125) rfl rfl (l' := #[.val (.int xs), .val (.int xn), .val (.long xa), .second, .val (.long xb), .second, .val (.long xc), .second, .val (.int (1 : Int32)), .val (.ref d32), .val (.ref d33), .val (.ref d35), .val (.ref b38), .val (.ref b50), .val (.int (1 : Int32)), .val (.ref d32), .val (.ref d32)]) rfl k) ?_
      refine own_go (T' := T71) (g' := (mkF m 147 #[.val (.int xs), .val (.int xn), .val (.long xa), .second, .val (.long xb), .second, .val (.long xc), .second, .val (.int (1 : Int32)), .val (.ref d32), .val (.ref d33), .val (.ref d35), .val (.ref b38), .val (.ref b50), .val (.int (1 : Int32)), .val (.ref d32), .val (.ref d32)] [])) (fun _ k => XS.goto X71.here hx rfl (pc0 := 127) (pc' := 147) rfl (hb hby at_127) (by decide) (by decide) k) ?_
      refine own_go (T' := T71) (g' := (mkF m 149 #[.val (.int xs), .val (.int xn), .val (.long xa), .second, .val (.long xb), .second, .val (.long xc), .second, .val (.int (1 : Int32)), .val (.ref d32), .val (.ref d33), .val (.ref d35), .val (.ref b38), .val (.ref b50), .val (.int (1 : Int32)), .val (.ref d32), .val (.ref d32)] [(.ref d32)])) (fun _ k => XS.aload X71.here hx rfl (hb hby at_147) rfl rfl k) ?_
      refine own_go (T' := T71) (g' := (mkF m 151 #[.val (.int xs), .val (.int xn), .val (.long xa), .second, .val (.long xb), .second, .val (.long xc), .second, .val (.int (1 : Int32)), .val (.ref d32), .val (.ref d33), .val (.ref d35), .val (.ref b38), .val (.ref b50), .val (.int (1 : Int32)), .val (.ref d32), .val (.ref d32)] [(.ref d32), (.ref d32)])) (fun _ k => XS.aload X71.here hx rfl (hb hby at_149) rfl rfl k) ?_
      refine own_go (T' := T71) (g' := (mkF m 154 #[.val (.int xs), .val (.int xn), .val (.long xa), .second, .val (.long xb), .second, .val (.long xc), .second, .val (.int (1 : Int32)), .val (.ref d32), .val (.ref d33), .val (.ref d35), .val (.ref b38), .val (.ref b50), .val (.int (1 : Int32)), .val (.ref d32), .val (.ref d32)] [])) (fun _ k => Jvm.RoadKit.acmp (g := (mkF m 151 #[.val (.int xs), .val (.int xn), .val (.long xa), .second, .val (.long xb), .second, .val (.long xc), .second, .val (.int (1 : Int32)), .val (.ref d32), .val (.ref d33), .val (.ref d35), .val (.ref b38), .val (.ref b50), .val (.int (1 : Int32)), .val (.ref d32), .val (.ref d32)] [(.ref d32), (.ref d32)])) X71 hx rfl rfl rfl (pc0 := 151) (pc' := 154) (same := true) rfl (hb hby at_151) rfl (decide_eq_true rfl) (by decide) (by decide) k) ?_
      refine own_go (T' := T71) (g' := (mkF m 155 #[.val (.int xs), .val (.int xn), .val (.long xa), .second, .val (.long xb), .second, .val (.long xc), .second, .val (.int (1 : Int32)), .val (.ref d32), .val (.ref d33), .val (.ref d35), .val (.ref b38), .val (.ref b50), .val (.int (1 : Int32)), .val (.ref d32), .val (.ref d32)] [(.int (1 : Int32))])) (fun _ k => XS.iconst X71.here hx rfl (hb hby at_154) k) ?_
      refine own_go (T' := T71) (g' := (mkF m 159 #[.val (.int xs), .val (.int xn), .val (.long xa), .second, .val (.long xb), .second, .val (.long xc), .second, .val (.int (1 : Int32)), .val (.ref d32), .val (.ref d33), .val (.ref d35), .val (.ref b38), .val (.ref b50), .val (.int (1 : Int32)), .val (.ref d32), .val (.ref d32)] [(.int (1 : Int32))])) (fun _ k => XS.goto X71.here hx rfl (pc0 := 155) (pc' := 159) rfl (hb hby at_155) (by decide) (by decide) k) ?_
      obtain ⟨fs, hr, hrun, hended, hW, hsame⟩ := X71.leave (v := some (.int (1 : Int32))) (fun h => by rw [Bd.returns] at h; cases h)
      refine own_end (retN X71 hx (t := .boolean) Bd.returns (by simp) (hb hby at_159) hr) hrun hended ⟨_, _, rfl, (?_ : own_QL Z xs xn xa xb xc xz xd kd xE xee kee xq xm h0 n0 _ T71.heap _), ⟨_, rfl⟩, hW, hsame.mono (by decide) (by decide)⟩
      rw [e71]
      exact ⟨rfl, N71⟩
  · rw [hk]
    refine own_go (T' := s₁) (g' := (mkF m 6 #[.val (.int xs), .val (.int xn), .val (.long xa), .second, .val (.long xb), .second, .val (.long xc), .second, .val (.int (2 : Int32)), .unset, .unset, .unset, .unset, .unset, .unset, .unset, .unset] [(.long xa)])) (fun _ k => XS.lloadN X0.here hx rfl (hb hby at_5) rfl k) ?_
    obtain ⟨_, _, ⟨T72, L72, k72, n72⟩, -, X72, ⟨Lc72, hQ72, l72, y72, z72⟩, st72⟩ := Jvm.LawKit.callS X0 hx (y := (⟨"java/time/Duration", "ofSeconds", "(J)Ljava/time/Duration;"⟩ : MethodName)) hown (mvT hZ (hw _ (List.mem_of_getElem? (i := 0) rfl))) (mvT hZ (hw _ (List.mem_of_getElem? (i := 1) rfl))) (mvT hZ (hw _ (List.mem_of_getElem? (i := 2) rfl))) (mvT hZ (hw _ (List.mem_of_getElem? (i := 3) rfl))) (by decide) (backOf (W := 0) (own_rOs l Z a0 hw [] xa xz h0 n0 Z0 (Sz.ext (own_ext_rf h0)) (Ez.ext (own_ext_rf h0))) hZ (hw _ (List.mem_of_getElem? (i := 3) rfl)) (hw _ (List.mem_of_getElem? (i := 2) rfl)) (by decide) (by decide)) (g := (mkF m 6 #[.val (.int xs), .val (.int xn), .val (.long xa), .second, .val (.long xb), .second, .val (.long xc), .second, .val (.int (2 : Int32)), .unset, .unset, .unset, .unset, .unset, .unset, .unset, .unset] [(.long xa)])) rfl (by rw [hml]; rfl) (argsL := [(.long xa)]) (rest := []) (lenOf own_pd19 rfl) rfl (by show 2 * 0 + _ ≤ _; exact Nat.le_of_eq rfl) (hb hby at_6) (fun _ _ => ⟨rfl, e0, (by decide : 0 + 1 ≤ _), (by decide : 0 + 2 ≤ _)⟩)
    dsimp only [Pt.U, Pt.locs, Pt.cells, Pt.slots] at X72 l72 y72 z72 st72 hQ72
    subst l72 y72 z72
    obtain ⟨-, N72q, Kc72, -, d72, rfl, Ec72⟩ := hQ72
    have N72 := Fr.app N0 N72q
    have Z72 : n0 ≤ T72.heap.size := Nat.le_trans Z0 Kc72.1
    have O72 : Ext h0 T72.heap := own_ext_keep (own_ext_rf h0) Kc72 own_all0
    have K72 : Keep h0 T72.heap [] := (Keep.refl h0 []).trans Kc72 (fun x hx => nomatch hx)
    refine own_go (T' := T72) (g' := (mkF m 9 #[.val (.int xs), .val (.int xn), .val (.long xa), .second, .val (.long xb), .second, .val (.long xc), .second, .val (.int (2 : Int32)), .unset, .unset, .unset, .unset, .unset, .unset, .unset, .unset] [(.ref d72)])) (fun _ k => st72 _ k) ?_
    refine own_go (T' := T72) (g' := (mkF m 11 #[.val (.int xs), .val (.int xn), .val (.long xa), .second, .val (.long xb), .second, .val (.long xc), .second, .val (.int (2 : Int32)), .val (.ref d72), .unset, .unset, .unset, .unset, .unset, .unset, .unset] [])) (fun _ k => XS.astore X72.here hx rfl (hb hby at_9) rfl rfl (l' := #[.val (.int xs), .val (.int xn), .val (.long xa), .second, .val (.long xb), .second, .val (.long xc), .second, .val (.int (2 : Int32)), .val (.ref d72), .unset, .unset, .unset, .unset, .unset, .unset, .unset]) rfl k) ?_
    refine own_go (T' := T72) (g' := (mkF m 13 #[.val (.int xs), .val (.int xn), .val (.long xa), .second, .val (.long xb), .second, .val (.long xc), .second, .val (.int (2 : Int32)), .val (.ref d72), .unset, .unset, .unset, .unset, .unset, .unset, .unset] [(.long xb)])) (fun _ k => XS.lload X72.here hx rfl (hb hby at_11) rfl k) ?_
    obtain ⟨_, _, ⟨T73, L73, k73, n73⟩, -, X73, ⟨Lc73, hQ73, l73, y73, z73⟩, st73⟩ := Jvm.LawKit.callS X72 hx (y := (⟨"java/time/Duration", "ofSeconds", "(J)Ljava/time/Duration;"⟩ : MethodName)) hown (mvT hZ (hw _ (List.mem_of_getElem? (i := 0) rfl))) (mvT hZ (hw _ (List.mem_of_getElem? (i := 1) rfl))) (mvT hZ (hw _ (List.mem_of_getElem? (i := 2) rfl))) (mvT hZ (hw _ (List.mem_of_getElem? (i := 3) rfl))) (by decide) (backOf (W := 0) (own_rOs l Z a0 hw [] xb xz T72.heap n0 Z72 (Sz.ext O72) (Ez.ext O72)) hZ (hw _ (List.mem_of_getElem? (i := 3) rfl)) (hw _ (List.mem_of_getElem? (i := 2) rfl)) (by decide) (by decide)) (g := (mkF m 13 #[.val (.int xs), .val (.int xn), .val (.long xa), .second, .val (.long xb), .second, .val (.long xc), .second, .val (.int (2 : Int32)), .val (.ref d72), .unset, .unset, .unset, .unset, .unset, .unset, .unset] [(.long xb)])) rfl (by rw [hml]; rfl) (argsL := [(.long xb)]) (rest := []) (lenOf own_pd19 rfl) rfl (by show 2 * 0 + _ ≤ _; exact Nat.le_of_eq rfl) (hb hby at_13) (fun _ _ => ⟨rfl, rfl, (by decide : 1 + 1 ≤ _), (by decide : 2 + 2 ≤ _)⟩)
    dsimp only [Pt.U, Pt.locs, Pt.cells, Pt.slots] at X73 l73 y73 z73 st73 hQ73
    subst l73 y73 z73
    obtain ⟨-, N73q, Kc73, -, d73, rfl, Ec73⟩ := hQ73
    have N73 := Fr.app N72 N73q
    have Ek74 := Ec72.keep Kc73
    have Z73 : n0 ≤ T73.heap.size := Nat.le_trans Z72 Kc73.1
    have O73 : Ext h0 T73.heap := own_ext_keep O72 Kc73 own_all0
    have K73 : Keep h0 T73.heap [] := K72.trans Kc73 (fun x hx => nomatch hx)
    refine own_go (T' := T73) (g' := (mkF m 16 #[.val (.int xs), .val (.int xn), .val (.long xa), .second, .val (.long xb), .second, .val (.long xc), .second, .val (.int (2 : Int32)), .val (.ref d72), .unset, .unset, .unset, .unset, .unset, .unset, .unset] [(.ref d73)])) (fun _ k => st73 _ k) ?_
    refine own_go (T' := T73) (g' := (mkF m 18 #[.val (.int xs), .val (.int xn), .val (.long xa), .second, .val (.long xb), .second, .val (.long xc), .second, .val (.int (2 : Int32)), .val (.ref d72), .val (.ref d73), .unset, .unset, .unset, .unset, .unset, .unset] [])) (fun _ k => XS.astore X73.here hx rfl (hb hby at_16) rfl rfl (l' := #[.val (.int xs), .val (.int xn), .val (.long xa), .second, .val (.long xb), .second, .val (.long xc), .second, .val (.int (2 : Int32)), .val (.ref d72), .val (.ref d73), .unset, .unset, .unset, .unset, .unset, .unset]) rfl k) ?_
    refine own_go (T' := T73) (g' := (mkF m 20 #[.val (.int xs), .val (.int xn), .val (.long xa), .second, .val (.long xb), .second, .val (.long xc), .second, .val (.int (2 : Int32)), .val (.ref d72), .val (.ref d73), .unset, .unset, .unset, .unset, .unset, .unset] [(.long xc)])) (fun _ k => XS.lload X73.here hx rfl (hb hby at_18) rfl k) ?_
    obtain ⟨_, _, ⟨T75, L75, k75, n75⟩, -, X75, ⟨Lc75, hQ75, l75, y75, z75⟩, st75⟩ := Jvm.LawKit.callS X73 hx (y := (⟨"java/time/Duration", "ofSeconds", "(J)Ljava/time/Duration;"⟩ : MethodName)) hown (mvT hZ (hw _ (List.mem_of_getElem? (i := 0) rfl))) (mvT hZ (hw _ (List.mem_of_getElem? (i := 1) rfl))) (mvT hZ (hw _ (List.mem_of_getElem? (i := 2) rfl))) (mvT hZ (hw _ (List.mem_of_getElem? (i := 3) rfl))) (by decide) (backOf (W := 0) (own_rOs l Z a0 hw [] xc xz T73.heap n0 Z73 (Sz.ext O73) (Ez.ext O73)) hZ (hw _ (List.mem_of_getElem? (i := 3) rfl)) (hw _ (List.mem_of_getElem? (i := 2) rfl)) (by decide) (by decide)) (g := (mkF m 20 #[.val (.int xs), .val (.int xn), .val (.long xa), .second, .val (.long xb), .second, .val (.long xc), .second, .val (.int (2 : Int32)), .val (.ref d72), .val (.ref d73), .unset, .unset, .unset, .unset, .unset, .unset] [(.long xc)])) rfl (by rw [hml]; rfl) (argsL := [(.long xc)]) (rest := []) (lenOf own_pd19 rfl) rfl (by show 2 * 0 + _ ≤ _; exact Nat.le_of_eq rfl) (hb hby at_20) (fun _ _ => ⟨rfl, rfl, (by decide : 2 + 1 ≤ _), (by decide : 4 + 2 ≤ _)⟩)
    dsimp only [Pt.U, Pt.locs, Pt.cells, Pt.slots] at X75 l75 y75 z75 st75 hQ75
    subst l75 y75 z75
    obtain ⟨-, N75q, Kc75, -, d75, rfl, Ec75⟩ := hQ75
    have N75 := Fr.app N73 N75q
    have Ek76 := Ek74.keep Kc75
    have Ek77 := Ec73.keep Kc75
    have Z75 : n0 ≤ T75.heap.size := Nat.le_trans Z73 Kc75.1
    have O75 : Ext h0 T75.heap := own_ext_keep O73 Kc75 own_all0
    have K75 : Keep h0 T75.heap [] := K73.trans Kc75 (fun x hx => nomatch hx)
    refine own_go (T' := T75) (g' := (mkF m 23 #[.val (.int xs), .val (.int xn), .val (.long xa), .second, .val (.long xb), .second, .val (.long xc), .second, .val (.int (2 : Int32)), .val (.ref d72), .val (.ref d73), .unset, .unset, .unset, .unset, .unset, .unset] [(.ref d75)])) (fun _ k => st75 _ k) ?_
    refine own_go (T' := T75) (g' := (mkF m 25 #[.val (.int xs), .val (.int xn), .val (.long xa), .second, .val (.long xb), .second, .val (.long xc), .second, .val (.int (2 : Int32)), .val (.ref d72), .val (.ref d73), .val (.ref d75), .unset, .unset, .unset, .unset, .unset] [])) (fun _ k => XS.astore X75.here hx rfl (hb hby at_23) rfl rfl (l' := #[.val (.int xs), .val (.int xn), .val (.long xa), .second, .val (.long xb), .second, .val (.long xc), .second, .val (.int (2 : Int32)), .val (.ref d72), .val (.ref d73), .val (.ref d75), .unset, .unset, .unset, .unset, .unset]) rfl k) ?_
    obtain ⟨T78, h78, X78, e78, E78, A78, D78, -, st78⟩ := newO X75 hx hZ hown (hw _ (List.mem_of_getElem? (i := 20) rfl)) (hw _ (List.mem_of_getElem? (i := 21) rfl)) (hw _ (List.mem_of_getElem? (i := 22) rfl)) rfl (g := (mkF m 25 #[.val (.int xs), .val (.int xn), .val (.long xa), .second, .val (.long xb), .second, .val (.long xc), .second, .val (.int (2 : Int32)), .val (.ref d72), .val (.ref d73), .val (.ref d75), .unset, .unset, .unset, .unset, .unset] [])) rfl (hb hby at_25) (by decide) (by decide)
    obtain ⟨b78, g78⟩ : ∃ z, z = T75.heap.size := ⟨_, rfl⟩
    rw [← g78] at A78 D78 st78
    have ne_d72_b78 : d72 ≠ b78 := Nat.ne_of_lt (Nat.lt_of_lt_of_le Ek76.lt (Nat.le_of_eq g78.symm))
    have ne_d73_b78 : d73 ≠ b78 := Nat.ne_of_lt (Nat.lt_of_lt_of_le Ek77.lt (Nat.le_of_eq g78.symm))
    have ne_d75_b78 : d75 ≠ b78 := Nat.ne_of_lt (Nat.lt_of_lt_of_le Ec75.lt (Nat.le_of_eq g78.symm))
    have gz_b78 : n0 ≤ b78 := Nat.le_trans Z75 (Nat.le_of_eq g78.symm)
    have hz_b78 : h0.size ≤ b78 := Nat.le_trans K75.1 (Nat.le_of_eq g78.symm)
    have Ek79 := Ek76.ext E78
    have Ek80 := Ek77.ext E78
    have Ek81 := Ec75.ext E78
    have Z78 : n0 ≤ h78.size := Nat.le_trans Z75 E78.1
    have O78 : Ext h0 h78 := own_ext_tr O75 E78
    have K78 : Keep h0 h78 [] := K75.ext E78
    have FmodCount_b78 : Fld Z h78 b78 "java/util/AbstractList" "modCount" "I" (.int (0 : Int32)) := D78 (Or.inl (hw _ (List.mem_of_getElem? (i := 40) rfl))) (ty := .int) (by decide)
    have FelementData_b78 : Fld Z h78 b78 "java/util/ArrayList" "elementData" "[Ljava/lang/Object;" .null := D78 (Or.inl (hw _ (List.mem_of_getElem? (i := 43) rfl))) (ty := (.array (.object "java/lang/Object"))) (by decide)
    have Fsize_b78 : Fld Z h78 b78 "java/util/ArrayList" "size" "I" (.int (0 : Int32)) := D78 (Or.inl (hw _ (List.mem_of_getElem? (i := 80) rfl))) (ty := .int) (by decide)
    refine own_go (T' := T78) (g' := (mkF m 28 #[.val (.int xs), .val (.int xn), .val (.long xa), .second, .val (.long xb), .second, .val (.long xc), .second, .val (.int (2 : Int32)), .val (.ref d72), .val (.ref d73), .val (.ref d75), .unset, .unset, .unset, .unset, .unset] [(.ref b78)])) (fun _ k => st78 _ k) ?_
    refine own_go (T' := T78) (g' := (mkF m 29 #[.val (.int xs), .val (.int xn), .val (.long xa), .second, .val (.long xb), .second, .val (.long xc), .second, .val (.int (2 : Int32)), .val (.ref d72), .val (.ref d73), .val (.ref d75), .unset, .unset, .unset, .unset, .unset] [(.ref b78), (.ref b78)])) (fun _ k => XS.dup X78.here hx rfl (hb hby at_28) rfl rfl k) ?_
    obtain ⟨_, _, ⟨T82, L82, k82, n82⟩, -, X82, ⟨Lc82, hQ82, l82, y82, z82⟩, st82⟩ := X78.specialBack hx (y := (⟨"java/util/ArrayList", "<init>", "()V"⟩ : MethodName)) rfl hown (mvT hZ (hw _ (List.mem_of_getElem? (i := 23) rfl))) (mvT hZ (hw _ (List.mem_of_getElem? (i := 24) rfl))) (mvT hZ (hw _ (List.mem_of_getElem? (i := 25) rfl))) (by decide) (backOf (W := 1) (own_rAli l Z a0 hw [] b78 xd h78 n0 Z78 A78 FmodCount_b78 FelementData_b78 Fsize_b78 gz_b78 (Sd.ext O78)) hZ (hw _ (List.mem_of_getElem? (i := 25) rfl)) (hw _ (List.mem_of_getElem? (i := 22) rfl)) (by decide) (by decide)) (g := (mkF m 29 #[.val (.int xs), .val (.int xn), .val (.long xa), .second, .val (.long xb), .second, .val (.long xc), .second, .val (.int (2 : Int32)), .val (.ref d72), .val (.ref d73), .val (.ref d75), .unset, .unset, .unset, .unset, .unset] [(.ref b78), (.ref b78)])) rfl (by rw [hml]; rfl) (Steps.refl _) (a := b78) (argsL := []) (rest := [(.ref b78)]) (lenOf own_pd0 rfl) rfl (by show 2 * 0 + _ ≤ _; exact Nat.le_of_eq rfl) (hb hby at_29) (fun _ _ => ⟨rfl, e78, (by decide : 4 + 0 ≤ _), (by decide : 9 + 0 ≤ _)⟩)
    dsimp only [Pt.U, Pt.locs, Pt.cells, Pt.slots] at X82 l82 y82 z82 st82 hQ82
    subst l82 y82 z82
    obtain ⟨rfl, N82q, Kc82, -, Ec82, Fmc82, Fec82, Fsc82⟩ := hQ82
    have N82 := Fr.app N75 N82q
    have Ek83 := Ek79.keep Kc82
    have Ek84 := Ek80.keep Kc82
    have Ek85 := Ek81.keep Kc82
    have Z82 : n0 ≤ T82.heap.size := Nat.le_trans Z78 Kc82.1
    have O82 : Ext h0 T82.heap := own_ext_keep O78 Kc82 (own_all1 hz_b78)
    have K82 : Keep h0 T82.heap [] := K78.trans Kc82 (own_or1 (Or.inr hz_b78))
    refine own_goT (T' := T82) (g' := (mkF m 32 #[.val (.int xs), .val (.int xn), .val (.long xa), .second, .val (.long xb), .second, .val (.long xc), .second, .val (.int (2 : Int32)), .val (.ref d72), .val (.ref d73), .val (.ref d75), .unset, .unset, .unset, .unset, .unset] [(.ref b78)])) st82 ?_
    refine own_go (T' := T82) (g' := (mkF m 34 #[.val (.int xs), .val (.int xn), .val (.long xa), .second, .val (.long xb), .second, .val (.long xc), .second, .val (.int (2 : Int32)), .val (.ref d72), .val (.ref d73), .val (.ref d75), .val (.ref b78), .unset, .unset, .unset, .unset] [])) (fun _ k => XS.astore X82.here hx rfl (hb hby at_32) rfl rfl (l' := #[.val (.int xs), .val (.int xn), .val (.long xa), .second, .val (.long xb), .second, .val (.long xc), .second, .val (.int (2 : Int32)), .val (.ref d72), .val (.ref d73), .val (.ref d75), .val (.ref b78), .unset, .unset, .unset, .unset]) rfl k) ?_
    refine own_go (T' := T82) (g' := (mkF m 36 #[.val (.int xs), .val (.int xn), .val (.long xa), .second, .val (.long xb), .second, .val (.long xc), .second, .val (.int (2 : Int32)), .val (.ref d72), .val (.ref d73), .val (.ref d75), .val (.ref b78), .unset, .unset, .unset, .unset] [(.int (2 : Int32))])) (fun _ k => XS.iload X82.here hx rfl (hb hby at_34) rfl k) ?_
    refine own_go (T' := T82) (g' := (mkF m 37 #[.val (.int xs), .val (.int xn), .val (.long xa), .second, .val (.long xb), .second, .val (.long xc), .second, .val (.int (2 : Int32)), .val (.ref d72), .val (.ref d73), .val (.ref d75), .val (.ref b78), .unset, .unset, .unset, .unset] [(.int (1 : Int32)), (.int (2 : Int32))])) (fun _ k => XS.iconst X82.here hx rfl (hb hby at_36) k) ?_
    refine own_go (T' := T82) (g' := (mkF m 40 #[.val (.int xs), .val (.int xn), .val (.long xa), .second, .val (.long xb), .second, .val (.long xc), .second, .val (.int (2 : Int32)), .val (.ref d72), .val (.ref d73), .val (.ref d75), .val (.ref b78), .unset, .unset, .unset, .unset] [])) (fun _ k => XS.icmpNo X82.here hx rfl (hb hby at_37) rfl (flt ((by decide) : ¬ ((2 : Int32) < (1 : Int32)))).1 k) ?_
    refine own_go (T' := T82) (g' := (mkF m 42 #[.val (.int xs), .val (.int xn), .val (.long xa), .second, .val (.long xb), .second, .val (.long xc), .second, .val (.int (2 : Int32)), .val (.ref d72), .val (.ref d73), .val (.ref d75), .val (.ref b78), .unset, .unset, .unset, .unset] [(.ref b78)])) (fun _ k => XS.aload X82.here hx rfl (hb hby at_40) rfl rfl k) ?_
    refine own_go (T' := T82) (g' := (mkF m 44 #[.val (.int xs), .val (.int xn), .val (.long xa), .second, .val (.long xb), .second, .val (.long xc), .second, .val (.int (2 : Int32)), .val (.ref d72), .val (.ref d73), .val (.ref d75), .val (.ref b78), .unset, .unset, .unset, .unset] [(.ref d72), (.ref b78)])) (fun _ k => XS.aload X82.here hx rfl (hb hby at_42) rfl rfl k) ?_
    obtain ⟨cq86, kq86, q86a, q86b, q86c⟩ := isOf hZ rfl Ec82
    obtain ⟨_, _, ⟨T86, L86, k86, n86⟩, -, X86, ⟨Lc86, hQ86, l86, y86, z86⟩, st86⟩ := X82.virtualBack hx (y := (⟨"java/util/ArrayList", "add", "(Ljava/lang/Object;)Z"⟩ : MethodName)) (z := (⟨"java/util/ArrayList", "add", "(Ljava/lang/Object;)Z"⟩ : MethodName)) hown (mvT hZ (hw _ (List.mem_of_getElem? (i := 105) rfl))) (mvT hZ (hw _ (List.mem_of_getElem? (i := 106) rfl))) (notFace_of_selects (args := #[]) (mvT hZ (hw _ (List.mem_of_getElem? (i := 108) rfl)))) (mvT hZ (hw _ (List.mem_of_getElem? (i := 108) rfl))) (mvT hZ (hw _ (List.mem_of_getElem? (i := 107) rfl))) (by decide) (backOf (W := 0) (own_rA0 l Z a0 hw [] b78 d72 (0 : Int32) xd kd T82.heap n0 Z82 Ec82 Fmc82 Fec82 Fsc82 gz_b78 (Sd.ext O82) (Ad.ext O82) Ek83) hZ (hw _ (List.mem_of_getElem? (i := 109) rfl)) (hw _ (List.mem_of_getElem? (i := 22) rfl)) (by decide) (by decide)) q86a q86c (g := (mkF m 44 #[.val (.int xs), .val (.int xn), .val (.long xa), .second, .val (.long xb), .second, .val (.long xc), .second, .val (.int (2 : Int32)), .val (.ref d72), .val (.ref d73), .val (.ref d75), .val (.ref b78), .unset, .unset, .unset, .unset] [(.ref d72), (.ref b78)])) rfl (by rw [hml]; rfl) (Steps.refl _) (argsL := [(.ref d72)]) (rest := []) (lenOf own_pd22 rfl) rfl (by show 2 * 0 + _ ≤ _; exact Nat.le_of_eq rfl) (hb hby at_44) (fun _ _ => ⟨rfl, rfl, (by decide : 4 + 1 ≤ _), (by decide : 9 + 10 ≤ _)⟩)
    dsimp only [Pt.U, Pt.locs, Pt.cells, Pt.slots] at X86 l86 y86 z86 st86 hQ86
    subst l86 y86 z86
    obtain ⟨rfl, N86q, Kc86, -, r86, ka86, hzr86, Ec86, Fmc86, Fec86, Fsc86, Vc86, Ov86, Er86⟩ := hQ86
    have N86 := Fr.app N82 N86q
    have ne_d72_r86 : d72 ≠ r86 := Nat.ne_of_lt (Nat.lt_of_lt_of_le Ek83.lt hzr86)
    have ne_d73_r86 : d73 ≠ r86 := Nat.ne_of_lt (Nat.lt_of_lt_of_le Ek84.lt hzr86)
    have ne_d75_r86 : d75 ≠ r86 := Nat.ne_of_lt (Nat.lt_of_lt_of_le Ek85.lt hzr86)
    have ne_b78_r86 : b78 ≠ r86 := Nat.ne_of_lt (Nat.lt_of_lt_of_le Ec82.lt hzr86)
    have gz_r86 : n0 ≤ r86 := Nat.le_trans Z82 hzr86
    have hz_r86 : h0.size ≤ r86 := Nat.le_trans K82.1 hzr86
    have Ek87 := Ek83.keep Kc86
    have Ek88 := Ek84.keep Kc86
    have Ek89 := Ek85.keep Kc86
    have Z86 : n0 ≤ T86.heap.size := Nat.le_trans Z82 Kc86.1
    have O86 : Ext h0 T86.heap := own_ext_keep O82 Kc86 (own_all1 hz_b78)
    have K86 : Keep h0 T86.heap [] := K82.trans Kc86 (own_or1 (Or.inr hz_b78))
    refine own_goT (T' := T86) (g' := (mkF m 47 #[.val (.int xs), .val (.int xn), .val (.long xa), .second, .val (.long xb), .second, .val (.long xc), .second, .val (.int (2 : Int32)), .val (.ref d72), .val (.ref d73), .val (.ref d75), .val (.ref b78), .unset, .unset, .unset, .unset] [(.int (1 : Int32))])) st86 ?_
    refine own_go (T' := T86) (g' := (mkF m 48 #[.val (.int xs), .val (.int xn), .val (.long xa), .second, .val (.long xb), .second, .val (.long xc), .second, .val (.int (2 : Int32)), .val (.ref d72), .val (.ref d73), .val (.ref d75), .val (.ref b78), .unset, .unset, .unset, .unset] [])) (fun _ k => XS.pop X86.here hx rfl (hb hby at_47) rfl rfl k) ?_
    refine own_go (T' := T86) (g' := (mkF m 50 #[.val (.int xs), .val (.int xn), .val (.long xa), .second, .val (.long xb), .second, .val (.long xc), .second, .val (.int (2 : Int32)), .val (.ref d72), .val (.ref d73), .val (.ref d75), .val (.ref b78), .unset, .unset, .unset, .unset] [(.int (2 : Int32))])) (fun _ k => XS.iload X86.here hx rfl (hb hby at_48) rfl k) ?_
    refine own_go (T' := T86) (g' := (mkF m 51 #[.val (.int xs), .val (.int xn), .val (.long xa), .second, .val (.long xb), .second, .val (.long xc), .second, .val (.int (2 : Int32)), .val (.ref d72), .val (.ref d73), .val (.ref d75), .val (.ref b78), .unset, .unset, .unset, .unset] [(.int (2 : Int32)), (.int (2 : Int32))])) (fun _ k => XS.iconst X86.here hx rfl (hb hby at_50) k) ?_
    refine own_go (T' := T86) (g' := (mkF m 54 #[.val (.int xs), .val (.int xn), .val (.long xa), .second, .val (.long xb), .second, .val (.long xc), .second, .val (.int (2 : Int32)), .val (.ref d72), .val (.ref d73), .val (.ref d75), .val (.ref b78), .unset, .unset, .unset, .unset] [])) (fun _ k => XS.icmpNo X86.here hx rfl (hb hby at_51) rfl (flt ((by decide) : ¬ ((2 : Int32) < (2 : Int32)))).1 k) ?_
    refine own_go (T' := T86) (g' := (mkF m 56 #[.val (.int xs), .val (.int xn), .val (.long xa), .second, .val (.long xb), .second, .val (.long xc), .second, .val (.int (2 : Int32)), .val (.ref d72), .val (.ref d73), .val (.ref d75), .val (.ref b78), .unset, .unset, .unset, .unset] [(.ref b78)])) (fun _ k => XS.aload X86.here hx rfl (hb hby at_54) rfl rfl k) ?_
    refine own_go (T' := T86) (g' := (mkF m 58 #[.val (.int xs), .val (.int xn), .val (.long xa), .second, .val (.long xb), .second, .val (.long xc), .second, .val (.int (2 : Int32)), .val (.ref d72), .val (.ref d73), .val (.ref d75), .val (.ref b78), .unset, .unset, .unset, .unset] [(.ref d73), (.ref b78)])) (fun _ k => XS.aload X86.here hx rfl (hb hby at_56) rfl rfl k) ?_
    obtain ⟨cq90, kq90, q90a, q90b, q90c⟩ := isOf hZ rfl Ec86
    obtain ⟨_, _, ⟨T90, L90, k90, n90⟩, -, X90, ⟨Lc90, hQ90, l90, y90, z90⟩, st90⟩ := X86.virtualBack hx (y := (⟨"java/util/ArrayList", "add", "(Ljava/lang/Object;)Z"⟩ : MethodName)) (z := (⟨"java/util/ArrayList", "add", "(Ljava/lang/Object;)Z"⟩ : MethodName)) hown (mvT hZ (hw _ (List.mem_of_getElem? (i := 105) rfl))) (mvT hZ (hw _ (List.mem_of_getElem? (i := 106) rfl))) (notFace_of_selects (args := #[]) (mvT hZ (hw _ (List.mem_of_getElem? (i := 108) rfl)))) (mvT hZ (hw _ (List.mem_of_getElem? (i := 108) rfl))) (mvT hZ (hw _ (List.mem_of_getElem? (i := 107) rfl))) (by decide) (backOf (W := 0) (own_rA1 l Z a0 hw [] b78 d73 ((0 : Int32) + (1 : Int32)) r86 ka86 d72 T86.heap n0 Z86 Ec86 Fmc86 Fec86 Fsc86 gz_b78 gz_r86 ne_b78_r86 Vc86 Ov86 Ek88) hZ (hw _ (List.mem_of_getElem? (i := 109) rfl)) (hw _ (List.mem_of_getElem? (i := 22) rfl)) (by decide) (by decide)) q90a q90c (g := (mkF m 58 #[.val (.int xs), .val (.int xn), .val (.long xa), .second, .val (.long xb), .second, .val (.long xc), .second, .val (.int (2 : Int32)), .val (.ref d72), .val (.ref d73), .val (.ref d75), .val (.ref b78), .unset, .unset, .unset, .unset] [(.ref d73), (.ref b78)])) rfl (by rw [hml]; rfl) (Steps.refl _) (argsL := [(.ref d73)]) (rest := []) (lenOf own_pd22 rfl) rfl (by show 2 * 0 + _ ≤ _; exact Nat.le_of_eq rfl) (hb hby at_58) (fun _ _ => ⟨rfl, rfl, (by decide : 5 + 0 ≤ _), (by decide : 19 + 0 ≤ _)⟩)
    dsimp only [Pt.U, Pt.locs, Pt.cells, Pt.slots] at X90 l90 y90 z90 st90 hQ90
    subst l90 y90 z90
    obtain ⟨rfl, N90q, Kc90, -, Ec90, Fmc90, Fec90, Fsc90, Vc90⟩ := hQ90
    have N90 := Fr.app N86 N90q
    have Ek91 := Ek87.keep Kc90
    have Ek92 := Ek88.keep Kc90
    have Ek93 := Ek89.keep Kc90
    have Ek94 := Er86.keep Kc90
    have Z90 : n0 ≤ T90.heap.size := Nat.le_trans Z86 Kc90.1
    have O90 : Ext h0 T90.heap := own_ext_keep O86 Kc90 (own_all2 hz_b78 hz_r86)
    have K90 : Keep h0 T90.heap [] := K86.trans Kc90 (own_or2 (Or.inr hz_b78) (Or.inr hz_r86))
    refine own_goT (T' := T90) (g' := (mkF m 61 #[.val (.int xs), .val (.int xn), .val (.long xa), .second, .val (.long xb), .second, .val (.long xc), .second, .val (.int (2 : Int32)), .val (.ref d72), .val (.ref d73), .val (.ref d75), .val (.ref b78), .unset, .unset, .unset, .unset] [(.int (1 : Int32))])) st90 ?_
    refine own_go (T' := T90) (g' := (mkF m 62 #[.val (.int xs), .val (.int xn), .val (.long xa), .second, .val (.long xb), .second, .val (.long xc), .second, .val (.int (2 : Int32)), .val (.ref d72), .val (.ref d73), .val (.ref d75), .val (.ref b78), .unset, .unset, .unset, .unset] [])) (fun _ k => XS.pop X90.here hx rfl (hb hby at_61) rfl rfl k) ?_
    refine own_go (T' := T90) (g' := (mkF m 64 #[.val (.int xs), .val (.int xn), .val (.long xa), .second, .val (.long xb), .second, .val (.long xc), .second, .val (.int (2 : Int32)), .val (.ref d72), .val (.ref d73), .val (.ref d75), .val (.ref b78), .unset, .unset, .unset, .unset] [(.int (2 : Int32))])) (fun _ k => XS.iload X90.here hx rfl (hb hby at_62) rfl k) ?_
    refine own_go (T' := T90) (g' := (mkF m 65 #[.val (.int xs), .val (.int xn), .val (.long xa), .second, .val (.long xb), .second, .val (.long xc), .second, .val (.int (2 : Int32)), .val (.ref d72), .val (.ref d73), .val (.ref d75), .val (.ref b78), .unset, .unset, .unset, .unset] [(.int (3 : Int32)), (.int (2 : Int32))])) (fun _ k => XS.iconst X90.here hx rfl (hb hby at_64) k) ?_
    refine own_go (T' := T90) (g' := (mkF m 76 #[.val (.int xs), .val (.int xn), .val (.long xa), .second, .val (.long xb), .second, .val (.long xc), .second, .val (.int (2 : Int32)), .val (.ref d72), .val (.ref d73), .val (.ref d75), .val (.ref b78), .unset, .unset, .unset, .unset] [])) (fun _ k => XS.icmpYes X90.here hx rfl (pc0 := 65) (pc' := 76) rfl (hb hby at_65) rfl (tlt ((by decide) : (2 : Int32) < (3 : Int32))).1 (by decide) (by decide) k) ?_
    obtain ⟨T95, h95, X95, e95, E95, A95, D95, -, st95⟩ := newO X90 hx hZ hown (hw _ (List.mem_of_getElem? (i := 44) rfl)) (hw _ (List.mem_of_getElem? (i := 45) rfl)) (hw _ (List.mem_of_getElem? (i := 46) rfl)) rfl (g := (mkF m 76 #[.val (.int xs), .val (.int xn), .val (.long xa), .second, .val (.long xb), .second, .val (.long xc), .second, .val (.int (2 : Int32)), .val (.ref d72), .val (.ref d73), .val (.ref d75), .val (.ref b78), .unset, .unset, .unset, .unset] [])) rfl (hb hby at_76) (by decide) (by decide)
    obtain ⟨b95, g95⟩ : ∃ z, z = T90.heap.size := ⟨_, rfl⟩
    rw [← g95] at A95 D95 st95
    have ne_d72_b95 : d72 ≠ b95 := Nat.ne_of_lt (Nat.lt_of_lt_of_le Ek91.lt (Nat.le_of_eq g95.symm))
    have ne_d73_b95 : d73 ≠ b95 := Nat.ne_of_lt (Nat.lt_of_lt_of_le Ek92.lt (Nat.le_of_eq g95.symm))
    have ne_d75_b95 : d75 ≠ b95 := Nat.ne_of_lt (Nat.lt_of_lt_of_le Ek93.lt (Nat.le_of_eq g95.symm))
    have ne_r86_b95 : r86 ≠ b95 := Nat.ne_of_lt (Nat.lt_of_lt_of_le Ek94.lt (Nat.le_of_eq g95.symm))
    have ne_b78_b95 : b78 ≠ b95 := Nat.ne_of_lt (Nat.lt_of_lt_of_le Ec90.lt (Nat.le_of_eq g95.symm))
    have gz_b95 : n0 ≤ b95 := Nat.le_trans Z90 (Nat.le_of_eq g95.symm)
    have hz_b95 : h0.size ≤ b95 := Nat.le_trans K90.1 (Nat.le_of_eq g95.symm)
    have Ek96 := Ek91.ext E95
    have Ek97 := Ek92.ext E95
    have Ek98 := Ek93.ext E95
    have Ek99 := Ek94.ext E95
    have Ek100 := Ec90.ext E95
    have Fk101 := Fmc90.ext E95
    have Fk102 := Fec90.ext E95
    have Fk103 := Fsc90.ext E95
    have Vk104 := Vc90.ext E95
    have Z95 : n0 ≤ h95.size := Nat.le_trans Z90 E95.1
    have O95 : Ext h0 h95 := own_ext_tr O90 E95
    have K95 : Keep h0 h95 [] := K90.ext E95
    have Fwaits_b95 : Fld Z h95 b95 "com/example/entrega/entrega/RetrySchedule" "waits" "Ljava/util/List;" .null := D95 (Or.inr (hw _ (List.mem_of_getElem? (i := 86) rfl))) (ty := (.object "java/util/List")) (by decide)
    refine own_go (T' := T95) (g' := (mkF m 79 #[.val (.int xs), .val (.int xn), .val (.long xa), .second, .val (.long xb), .second, .val (.long xc), .second, .val (.int (2 : Int32)), .val (.ref d72), .val (.ref d73), .val (.ref d75), .val (.ref b78), .unset, .unset, .unset, .unset] [(.ref b95)])) (fun _ k => st95 _ k) ?_
    refine own_go (T' := T95) (g' := (mkF m 80 #[.val (.int xs), .val (.int xn), .val (.long xa), .second, .val (.long xb), .second, .val (.long xc), .second, .val (.int (2 : Int32)), .val (.ref d72), .val (.ref d73), .val (.ref d75), .val (.ref b78), .unset, .unset, .unset, .unset] [(.ref b95), (.ref b95)])) (fun _ k => XS.dup X95.here hx rfl (hb hby at_79) rfl rfl k) ?_
    refine own_go (T' := T95) (g' := (mkF m 82 #[.val (.int xs), .val (.int xn), .val (.long xa), .second, .val (.long xb), .second, .val (.long xc), .second, .val (.int (2 : Int32)), .val (.ref d72), .val (.ref d73), .val (.ref d75), .val (.ref b78), .unset, .unset, .unset, .unset] [(.ref b78), (.ref b95), (.ref b95)])) (fun _ k => XS.aload X95.here hx rfl (hb hby at_80) rfl rfl k) ?_
    obtain ⟨_, _, ⟨T105, L105, k105, n105⟩, -, X105, ⟨Lc105, hQ105, l105, y105, z105⟩, st105⟩ := X95.specialBack hx (y := (⟨"com/example/entrega/entrega/RetrySchedule", "<init>", "(Ljava/util/List;)V"⟩ : MethodName)) rfl hown (mvT hZ (hw _ (List.mem_of_getElem? (i := 47) rfl))) (mvT hZ (hw _ (List.mem_of_getElem? (i := 48) rfl))) (mvT hZ (hw _ (List.mem_of_getElem? (i := 49) rfl))) (by decide) (backOf (W := 1) (own_rRs2 l Z a0 hw [] b95 b78 r86 ka86 xm d72 d73 h95 n0 Z95 A95 Fwaits_b95 gz_b95 Ek100 Fk103 Fk102 Vk104 M Ek99 Ek96 Ek97) hZ (hw _ (List.mem_of_getElem? (i := 49) rfl)) (hw _ (List.mem_of_getElem? (i := 46) rfl)) (by decide) (by decide)) (g := (mkF m 82 #[.val (.int xs), .val (.int xn), .val (.long xa), .second, .val (.long xb), .second, .val (.long xc), .second, .val (.int (2 : Int32)), .val (.ref d72), .val (.ref d73), .val (.ref d75), .val (.ref b78), .unset, .unset, .unset, .unset] [(.ref b78), (.ref b95), (.ref b95)])) rfl (by rw [hml]; rfl) (Steps.refl _) (a := b95) (argsL := [(.ref b78)]) (rest := [(.ref b95)]) (lenOf own_pd20 rfl) rfl (by show 2 * 0 + _ ≤ _; exact Nat.le_of_eq rfl) (hb hby at_82) (fun _ _ => ⟨rfl, e95, (by decide : 6 + 2 ≤ _), (by decide : 20 + 4 ≤ _)⟩)
    dsimp only [Pt.U, Pt.locs, Pt.cells, Pt.slots] at X105 l105 y105 z105 st105 hQ105
    subst l105 y105 z105
    obtain ⟨rfl, N105q, Kc105, -, Ec105, r105, hzr105, Fwc105, Elc105, F0c105, F1c105⟩ := hQ105
    have N105 := Fr.app N90 N105q
    have ne_d72_r105 : d72 ≠ r105 := Nat.ne_of_lt (Nat.lt_of_lt_of_le Ek96.lt hzr105)
    have ne_d73_r105 : d73 ≠ r105 := Nat.ne_of_lt (Nat.lt_of_lt_of_le Ek97.lt hzr105)
    have ne_d75_r105 : d75 ≠ r105 := Nat.ne_of_lt (Nat.lt_of_lt_of_le Ek98.lt hzr105)
    have ne_r86_r105 : r86 ≠ r105 := Nat.ne_of_lt (Nat.lt_of_lt_of_le Ek99.lt hzr105)
    have ne_b78_r105 : b78 ≠ r105 := Nat.ne_of_lt (Nat.lt_of_lt_of_le Ek100.lt hzr105)
    have ne_b95_r105 : b95 ≠ r105 := Nat.ne_of_lt (Nat.lt_of_lt_of_le A95.lt hzr105)
    have gz_r105 : n0 ≤ r105 := Nat.le_trans Z95 hzr105
    have hz_r105 : h0.size ≤ r105 := Nat.le_trans K95.1 hzr105
    have Ek106 := Ek96.keep Kc105
    have Ek107 := Ek97.keep Kc105
    have Ek108 := Ek98.keep Kc105
    have Ek109 := Ek99.keep Kc105
    have Ek110 := Ek100.keep Kc105
    have Fk111 := Fk101.keep Kc105 (own_one ne_b78_b95)
    have Fk112 := Fk102.keep Kc105 (own_one ne_b78_b95)
    have Fk113 := Fk103.keep Kc105 (own_one ne_b78_b95)
    have Vk114 := Vk104.keep Kc105 (own_one ne_r86_b95)
    have Z105 : n0 ≤ T105.heap.size := Nat.le_trans Z95 Kc105.1
    have O105 : Ext h0 T105.heap := own_ext_keep O95 Kc105 (own_all1 hz_b95)
    have K105 : Keep h0 T105.heap [] := K95.trans Kc105 (own_or1 (Or.inr hz_b95))
    refine own_goT (T' := T105) (g' := (mkF m 85 #[.val (.int xs), .val (.int xn), .val (.long xa), .second, .val (.long xb), .second, .val (.long xc), .second, .val (.int (2 : Int32)), .val (.ref d72), .val (.ref d73), .val (.ref d75), .val (.ref b78), .unset, .unset, .unset, .unset] [(.ref b95)])) st105 ?_
    refine own_go (T' := T105) (g' := (mkF m 87 #[.val (.int xs), .val (.int xn), .val (.long xa), .second, .val (.long xb), .second, .val (.long xc), .second, .val (.int (2 : Int32)), .val (.ref d72), .val (.ref d73), .val (.ref d75), .val (.ref b78), .val (.ref b95), .unset, .unset, .unset] [])) (fun _ k => XS.astore X105.here hx rfl (hb hby at_85) rfl rfl (l' := #[.val (.int xs), .val (.int xn), .val (.long xa), .second, .val (.long xb), .second, .val (.long xc), .second, .val (.int (2 : Int32)), .val (.ref d72), .val (.ref d73), .val (.ref d75), .val (.ref b78), .val (.ref b95), .unset, .unset, .unset]) rfl k) ?_
    refine own_go (T' := T105) (g' := (mkF m 88 #[.val (.int xs), .val (.int xn), .val (.long xa), .second, .val (.long xb), .second, .val (.long xc), .second, .val (.int (2 : Int32)), .val (.ref d72), .val (.ref d73), .val (.ref d75), .val (.ref b78), .val (.ref b95), .unset, .unset, .unset] [(.int (1 : Int32))])) (fun _ k => XS.iconst X105.here hx rfl (hb hby at_87) k) ?_
    refine own_go (T' := T105) (g' := (mkF m 89 #[.val (.int xs), .val (.int xn), .val (.long xa), .second, .val (.long xb), .second, .val (.long xc), .second, .val (.int (2 : Int32)), .val (.ref d72), .val (.ref d73), .val (.ref d75), .val (.ref b78), .val (.ref b95), .unset, .unset, .unset] [(.int xn), (.int (1 : Int32))])) (fun _ k => XS.iloadN X105.here hx rfl (hb hby at_88) rfl k) ?_
    refine own_go (T' := T105) (g' := (mkF m 91 #[.val (.int xs), .val (.int xn), .val (.long xa), .second, .val (.long xb), .second, .val (.long xc), .second, .val (.int (2 : Int32)), .val (.ref d72), .val (.ref d73), .val (.ref d75), .val (.ref b78), .val (.ref b95), .unset, .unset, .unset] [(.int (2147483647 : Int32)), (.int xn), (.int (1 : Int32))])) (fun _ k => X105.ldcInt hx hown (mvT hZ (hw _ (List.mem_of_getElem? (i := 87) rfl))) (g := (mkF m 89 #[.val (.int xs), .val (.int xn), .val (.long xa), .second, .val (.long xb), .second, .val (.long xc), .second, .val (.int (2 : Int32)), .val (.ref d72), .val (.ref d73), .val (.ref d75), .val (.ref b78), .val (.ref b95), .unset, .unset, .unset] [(.int xn), (.int (1 : Int32))])) rfl (hb hby at_89) _ k) ?_
    refine own_go (T' := T105) (g' := (mkF m 92 #[.val (.int xs), .val (.int xn), .val (.long xa), .second, .val (.long xb), .second, .val (.long xc), .second, .val (.int (2 : Int32)), .val (.ref d72), .val (.ref d73), .val (.ref d75), .val (.ref b78), .val (.ref b95), .unset, .unset, .unset] [(.int (xn &&& (2147483647 : Int32))), (.int (1 : Int32))])) (fun _ k => XS.iand X105.here hx rfl (hb hby at_91) rfl k) ?_
    refine own_go (T' := T105) (g' := (mkF m 94 #[.val (.int xs), .val (.int xn), .val (.long xa), .second, .val (.long xb), .second, .val (.long xc), .second, .val (.int (2 : Int32)), .val (.ref d72), .val (.ref d73), .val (.ref d75), .val (.ref b78), .val (.ref b95), .unset, .unset, .unset] [(.int (2147483647 : Int32)), (.int (xn &&& (2147483647 : Int32))), (.int (1 : Int32))])) (fun _ k => X105.ldcInt hx hown (mvT hZ (hw _ (List.mem_of_getElem? (i := 87) rfl))) (g := (mkF m 92 #[.val (.int xs), .val (.int xn), .val (.long xa), .second, .val (.long xb), .second, .val (.long xc), .second, .val (.int (2 : Int32)), .val (.ref d72), .val (.ref d73), .val (.ref d75), .val (.ref b78), .val (.ref b95), .unset, .unset, .unset] [(.int (xn &&& (2147483647 : Int32))), (.int (1 : Int32))])) rfl (hb hby at_92) _ k) ?_
    refine own_go (T' := T105) (g' := (mkF m 95 #[.val (.int xs), .val (.int xn), .val (.long xa), .second, .val (.long xb), .second, .val (.long xc), .second, .val (.int (2 : Int32)), .val (.ref d72), .val (.ref d73), .val (.ref d75), .val (.ref b78), .val (.ref b95), .unset, .unset, .unset] [(.int ((xn &&& (2147483647 : Int32)) % (2147483647 : Int32))), (.int (1 : Int32))])) (fun _ k => iremM X105 hx rfl (hb hby at_94) rfl (by decide) k) ?_
    refine own_go (T' := T105) (g' := (mkF m 96 #[.val (.int xs), .val (.int xn), .val (.long xa), .second, .val (.long xb), .second, .val (.long xc), .second, .val (.int (2 : Int32)), .val (.ref d72), .val (.ref d73), .val (.ref d75), .val (.ref b78), .val (.ref b95), .unset, .unset, .unset] [(.int ((1 : Int32) + ((xn &&& (2147483647 : Int32)) % (2147483647 : Int32))))])) (fun _ k => XS.iadd X105.here hx rfl (hb hby at_95) rfl k) ?_
    refine own_go (T' := T105) (g' := (mkF m 98 #[.val (.int xs), .val (.int xn), .val (.long xa), .second, .val (.long xb), .second, .val (.long xc), .second, .val (.int (2 : Int32)), .val (.ref d72), .val (.ref d73), .val (.ref d75), .val (.ref b78), .val (.ref b95), .val (.int ((1 : Int32) + ((xn &&& (2147483647 : Int32)) % (2147483647 : Int32)))), .unset, .unset] [])) (fun _ k => XS.istore X105.here hx rfl (hb hby at_96) rfl (l' := #[.val (.int xs), .val (.int xn), .val (.long xa), .second, .val (.long xb), .second, .val (.long xc), .second, .val (.int (2 : Int32)), .val (.ref d72), .val (.ref d73), .val (.ref d75), .val (.ref b78), .val (.ref b95), .val (.int ((1 : Int32) + ((xn &&& (2147483647 : Int32)) % (2147483647 : Int32)))), .unset, .unset]) rfl k) ?_
    rcases own_num2 xn with hnum | hnum | hnum
    · refine own_go (T' := T105) (g' := (mkF m 100 #[.val (.int xs), .val (.int xn), .val (.long xa), .second, .val (.long xb), .second, .val (.long xc), .second, .val (.int (2 : Int32)), .val (.ref d72), .val (.ref d73), .val (.ref d75), .val (.ref b78), .val (.ref b95), .val (.int ((1 : Int32) + ((xn &&& (2147483647 : Int32)) % (2147483647 : Int32)))), .unset, .unset] [(.ref b95)])) (fun _ k => XS.aload X105.here hx rfl (hb hby at_98) rfl rfl k) ?_
      refine own_go (T' := T105) (g' := (mkF m 102 #[.val (.int xs), .val (.int xn), .val (.long xa), .second, .val (.long xb), .second, .val (.long xc), .second, .val (.int (2 : Int32)), .val (.ref d72), .val (.ref d73), .val (.ref d75), .val (.ref b78), .val (.ref b95), .val (.int ((1 : Int32) + ((xn &&& (2147483647 : Int32)) % (2147483647 : Int32)))), .unset, .unset] [(.int ((1 : Int32) + ((xn &&& (2147483647 : Int32)) % (2147483647 : Int32)))), (.ref b95)])) (fun _ k => XS.iload X105.here hx rfl (hb hby at_100) rfl k) ?_
      obtain ⟨cq115, kq115, q115a, q115b, q115c⟩ := isOf hZ rfl Ec105
      obtain ⟨_, _, ⟨T115, L115, k115, n115⟩, -, X115, ⟨Lc115, hQ115, l115, y115, z115⟩, st115⟩ := X105.virtualBack hx (y := (⟨"com/example/entrega/entrega/RetrySchedule", "waitAfter", "(I)Ljava/time/Duration;"⟩ : MethodName)) (z := (⟨"com/example/entrega/entrega/RetrySchedule", "waitAfter", "(I)Ljava/time/Duration;"⟩ : MethodName)) hown (mvT hZ (hw _ (List.mem_of_getElem? (i := 88) rfl))) (mvT hZ (hw _ (List.mem_of_getElem? (i := 89) rfl))) (notFace_of_selects (args := #[]) (mvT hZ (hw _ (List.mem_of_getElem? (i := 91) rfl)))) (mvT hZ (hw _ (List.mem_of_getElem? (i := 91) rfl))) (mvT hZ (hw _ (List.mem_of_getElem? (i := 90) rfl))) (by decide) (backOf (W := 0) (own_rW2g l Z a0 hw [] b95 ((1 : Int32) + ((xn &&& (2147483647 : Int32)) % (2147483647 : Int32))) r105 xq d72 d73 T105.heap n0 Z105 Fwc105 Elc105 F0c105 F1c105 (Sq.ext O105) (Exa.ne Ek107 (Eq.ext O105) (by decide)) Ek106 Ek107 hnum) hZ (hw _ (List.mem_of_getElem? (i := 92) rfl)) (hw _ (List.mem_of_getElem? (i := 46) rfl)) (by decide) (by decide)) q115a q115c (g := (mkF m 102 #[.val (.int xs), .val (.int xn), .val (.long xa), .second, .val (.long xb), .second, .val (.long xc), .second, .val (.int (2 : Int32)), .val (.ref d72), .val (.ref d73), .val (.ref d75), .val (.ref b78), .val (.ref b95), .val (.int ((1 : Int32) + ((xn &&& (2147483647 : Int32)) % (2147483647 : Int32)))), .unset, .unset] [(.int ((1 : Int32) + ((xn &&& (2147483647 : Int32)) % (2147483647 : Int32)))), (.ref b95)])) rfl (by rw [hml]; rfl) (Steps.refl _) (argsL := [(.int ((1 : Int32) + ((xn &&& (2147483647 : Int32)) % (2147483647 : Int32))))]) (rest := []) (lenOf own_pd21 rfl) rfl (by show 2 * 0 + _ ≤ _; exact Nat.le_of_eq rfl) (hb hby at_102) (fun _ _ => ⟨rfl, rfl, (by decide : 8 + 0 ≤ _), (by decide : 24 + 0 ≤ _)⟩)
      dsimp only [Pt.U, Pt.locs, Pt.cells, Pt.slots] at X115 l115 y115 z115 st115 hQ115
      subst l115 y115 z115
      obtain ⟨rfl, N115q, e115⟩ := hQ115
      have N115 := Fr.app N105 N115q
      refine own_goT (T' := T115) (g' := (mkF m 105 #[.val (.int xs), .val (.int xn), .val (.long xa), .second, .val (.long xb), .second, .val (.long xc), .second, .val (.int (2 : Int32)), .val (.ref d72), .val (.ref d73), .val (.ref d75), .val (.ref b78), .val (.ref b95), .val (.int ((1 : Int32) + ((xn &&& (2147483647 : Int32)) % (2147483647 : Int32)))), .unset, .unset] [.null])) st115 ?_
      refine own_go (T' := T115) (g' := (mkF m 107 #[.val (.int xs), .val (.int xn), .val (.long xa), .second, .val (.long xb), .second, .val (.long xc), .second, .val (.int (2 : Int32)), .val (.ref d72), .val (.ref d73), .val (.ref d75), .val (.ref b78), .val (.ref b95), .val (.int ((1 : Int32) + ((xn &&& (2147483647 : Int32)) % (2147483647 : Int32)))), .val .null, .unset] [])) (fun _ k => XS.astore X115.here hx rfl (hb hby at_105) rfl rfl (l' := #[.val (.int xs), .val (.int xn), .val (.long xa), .second, .val (.long xb), .second, .val (.long xc), .second, .val (.int (2 : Int32)), .val (.ref d72), .val (.ref d73), .val (.ref d75), .val (.ref b78), .val (.ref b95), .val (.int ((1 : Int32) + ((xn &&& (2147483647 : Int32)) % (2147483647 : Int32)))), .val .null, .unset]) rfl k) ?_
      refine own_go (T' := T115) (g' := (mkF m 108 #[.val (.int xs), .val (.int xn), .val (.long xa), .second, .val (.long xb), .second, .val (.long xc), .second, .val (.int (2 : Int32)), .val (.ref d72), .val (.ref d73), .val (.ref d75), .val (.ref b78), .val (.ref b95), .val (.int ((1 : Int32) + ((xn &&& (2147483647 : Int32)) % (2147483647 : Int32)))), .val .null, .unset] [.null])) (fun _ k => XS.aconstNull X115.here hx rfl (hb hby at_107) k) ?_
      refine own_go (T' := T115) (g' := (mkF m 110 #[.val (.int xs), .val (.int xn), .val (.long xa), .second, .val (.long xb), .second, .val (.long xc), .second, .val (.int (2 : Int32)), .val (.ref d72), .val (.ref d73), .val (.ref d75), .val (.ref b78), .val (.ref b95), .val (.int ((1 : Int32) + ((xn &&& (2147483647 : Int32)) % (2147483647 : Int32)))), .val .null, .val .null] [])) (fun _ k => XS.astore X115.here hx rfl (hb hby at_108) rfl rfl (l' := #[.val (.int xs), .val (.int xn), .val (.long xa), .second, .val (.long xb), .second, .val (.long xc), .second, .val (.int (2 : Int32)), .val (.ref d72), .val (.ref d73), .val (.ref d75), .val (.ref b78), .val (.ref b95), .val (.int ((1 : Int32) + ((xn &&& (2147483647 : Int32)) % (2147483647 : Int32)))), .val .null, .val .null]) rfl k) ?_
      refine own_go (T' := T115) (g' := (mkF m 112 #[.val (.int xs), .val (.int xn), .val (.long xa), .second, .val (.long xb), .second, .val (.long xc), .second, .val (.int (2 : Int32)), .val (.ref d72), .val (.ref d73), .val (.ref d75), .val (.ref b78), .val (.ref b95), .val (.int ((1 : Int32) + ((xn &&& (2147483647 : Int32)) % (2147483647 : Int32)))), .val .null, .val .null] [(.int ((1 : Int32) + ((xn &&& (2147483647 : Int32)) % (2147483647 : Int32))))])) (fun _ k => XS.iload X115.here hx rfl (hb hby at_110) rfl k) ?_
      refine own_go (T' := T115) (g' := (mkF m 114 #[.val (.int xs), .val (.int xn), .val (.long xa), .second, .val (.long xb), .second, .val (.long xc), .second, .val (.int (2 : Int32)), .val (.ref d72), .val (.ref d73), .val (.ref d75), .val (.ref b78), .val (.ref b95), .val (.int ((1 : Int32) + ((xn &&& (2147483647 : Int32)) % (2147483647 : Int32)))), .val .null, .val .null] [(.int (2 : Int32)), (.int ((1 : Int32) + ((xn &&& (2147483647 : Int32)) % (2147483647 : Int32))))])) (fun _ k => XS.iload X115.here hx rfl (hb hby at_112) rfl k) ?_
      refine own_go (T' := T115) (g' := (mkF m 147 #[.val (.int xs), .val (.int xn), .val (.long xa), .second, .val (.long xb), .second, .val (.long xc), .second, .val (.int (2 : Int32)), .val (.ref d72), .val (.ref d73), .val (.ref d75), .val (.ref b78), .val (.ref b95), .val (.int ((1 : Int32) + ((xn &&& (2147483647 : Int32)) % (2147483647 : Int32)))), .val .null, .val .null] [])) (fun _ k => XS.icmpYes X115.here hx rfl (pc0 := 114) (pc' := 147) rfl (hb hby at_114) rfl (tlt (hnum : (2 : Int32) < ((1 : Int32) + ((xn &&& (2147483647 : Int32)) % (2147483647 : Int32))))).2.2.1 (by decide) (by decide) k) ?_
      refine own_go (T' := T115) (g' := (mkF m 149 #[.val (.int xs), .val (.int xn), .val (.long xa), .second, .val (.long xb), .second, .val (.long xc), .second, .val (.int (2 : Int32)), .val (.ref d72), .val (.ref d73), .val (.ref d75), .val (.ref b78), .val (.ref b95), .val (.int ((1 : Int32) + ((xn &&& (2147483647 : Int32)) % (2147483647 : Int32)))), .val .null, .val .null] [.null])) (fun _ k => XS.aload X115.here hx rfl (hb hby at_147) rfl rfl k) ?_
      refine own_go (T' := T115) (g' := (mkF m 151 #[.val (.int xs), .val (.int xn), .val (.long xa), .second, .val (.long xb), .second, .val (.long xc), .second, .val (.int (2 : Int32)), .val (.ref d72), .val (.ref d73), .val (.ref d75), .val (.ref b78), .val (.ref b95), .val (.int ((1 : Int32) + ((xn &&& (2147483647 : Int32)) % (2147483647 : Int32)))), .val .null, .val .null] [.null, .null])) (fun _ k => XS.aload X115.here hx rfl (hb hby at_149) rfl rfl k) ?_
      refine own_go (T' := T115) (g' := (mkF m 154 #[.val (.int xs), .val (.int xn), .val (.long xa), .second, .val (.long xb), .second, .val (.long xc), .second, .val (.int (2 : Int32)), .val (.ref d72), .val (.ref d73), .val (.ref d75), .val (.ref b78), .val (.ref b95), .val (.int ((1 : Int32) + ((xn &&& (2147483647 : Int32)) % (2147483647 : Int32)))), .val .null, .val .null] [])) (fun _ k => Jvm.RoadKit.acmp (g := (mkF m 151 #[.val (.int xs), .val (.int xn), .val (.long xa), .second, .val (.long xb), .second, .val (.long xc), .second, .val (.int (2 : Int32)), .val (.ref d72), .val (.ref d73), .val (.ref d75), .val (.ref b78), .val (.ref b95), .val (.int ((1 : Int32) + ((xn &&& (2147483647 : Int32)) % (2147483647 : Int32)))), .val .null, .val .null] [.null, .null])) X115 hx rfl rfl rfl (pc0 := 151) (pc' := 154) (same := true) rfl (hb hby at_151) rfl (decide_eq_true rfl) (by decide) (by decide) k) ?_
      refine own_go (T' := T115) (g' := (mkF m 155 #[.val (.int xs), .val (.int xn), .val (.long xa), .second, .val (.long xb), .second, .val (.long xc), .second, .val (.int (2 : Int32)), .val (.ref d72), .val (.ref d73), .val (.ref d75), .val (.ref b78), .val (.ref b95), .val (.int ((1 : Int32) + ((xn &&& (2147483647 : Int32)) % (2147483647 : Int32)))), .val .null, .val .null] [(.int (1 : Int32))])) (fun _ k => XS.iconst X115.here hx rfl (hb hby at_154) k) ?_
      refine own_go (T' := T115) (g' := (mkF m 159 #[.val (.int xs), .val (.int xn), .val (.long xa), .second, .val (.long xb), .second, .val (.long xc), .second, .val (.int (2 : Int32)), .val (.ref d72), .val (.ref d73), .val (.ref d75), .val (.ref b78), .val (.ref b95), .val (.int ((1 : Int32) + ((xn &&& (2147483647 : Int32)) % (2147483647 : Int32)))), .val .null, .val .null] [(.int (1 : Int32))])) (fun _ k => XS.goto X115.here hx rfl (pc0 := 155) (pc' := 159) rfl (hb hby at_155) (by decide) (by decide) k) ?_
      obtain ⟨fs, hr, hrun, hended, hW, hsame⟩ := X115.leave (v := some (.int (1 : Int32))) (fun h => by rw [Bd.returns] at h; cases h)
      refine own_end (retN X115 hx (t := .boolean) Bd.returns (by simp) (hb hby at_159) hr) hrun hended ⟨_, _, rfl, (?_ : own_QL Z xs xn xa xb xc xz xd kd xE xee kee xq xm h0 n0 _ T115.heap _), ⟨_, rfl⟩, hW, hsame.mono (by decide) (by decide)⟩
      rw [e115]
      exact ⟨rfl, N115⟩
    · rw [hnum]
      refine own_go (T' := T105) (g' := (mkF m 100 #[.val (.int xs), .val (.int xn), .val (.long xa), .second, .val (.long xb), .second, .val (.long xc), .second, .val (.int (2 : Int32)), .val (.ref d72), .val (.ref d73), .val (.ref d75), .val (.ref b78), .val (.ref b95), .val (.int (1 : Int32)), .unset, .unset] [(.ref b95)])) (fun _ k => XS.aload X105.here hx rfl (hb hby at_98) rfl rfl k) ?_
      refine own_go (T' := T105) (g' := (mkF m 102 #[.val (.int xs), .val (.int xn), .val (.long xa), .second, .val (.long xb), .second, .val (.long xc), .second, .val (.int (2 : Int32)), .val (.ref d72), .val (.ref d73), .val (.ref d75), .val (.ref b78), .val (.ref b95), .val (.int (1 : Int32)), .unset, .unset] [(.int (1 : Int32)), (.ref b95)])) (fun _ k => XS.iload X105.here hx rfl (hb hby at_100) rfl k) ?_
      obtain ⟨cq116, kq116, q116a, q116b, q116c⟩ := isOf hZ rfl Ec105
      obtain ⟨_, _, ⟨T116, L116, k116, n116⟩, -, X116, ⟨Lc116, hQ116, l116, y116, z116⟩, st116⟩ := X105.virtualBack hx (y := (⟨"com/example/entrega/entrega/RetrySchedule", "waitAfter", "(I)Ljava/time/Duration;"⟩ : MethodName)) (z := (⟨"com/example/entrega/entrega/RetrySchedule", "waitAfter", "(I)Ljava/time/Duration;"⟩ : MethodName)) hown (mvT hZ (hw _ (List.mem_of_getElem? (i := 88) rfl))) (mvT hZ (hw _ (List.mem_of_getElem? (i := 89) rfl))) (notFace_of_selects (args := #[]) (mvT hZ (hw _ (List.mem_of_getElem? (i := 91) rfl)))) (mvT hZ (hw _ (List.mem_of_getElem? (i := 91) rfl))) (mvT hZ (hw _ (List.mem_of_getElem? (i := 90) rfl))) (by decide) (backOf (W := 0) (own_rW21 l Z a0 hw [] b95 r105 xq d72 d73 T105.heap n0 Z105 Fwc105 Elc105 F0c105 F1c105 (Sq.ext O105) (Exa.ne Ek107 (Eq.ext O105) (by decide)) Ek106 Ek107) hZ (hw _ (List.mem_of_getElem? (i := 92) rfl)) (hw _ (List.mem_of_getElem? (i := 46) rfl)) (by decide) (by decide)) q116a q116c (g := (mkF m 102 #[.val (.int xs), .val (.int xn), .val (.long xa), .second, .val (.long xb), .second, .val (.long xc), .second, .val (.int (2 : Int32)), .val (.ref d72), .val (.ref d73), .val (.ref d75), .val (.ref b78), .val (.ref b95), .val (.int (1 : Int32)), .unset, .unset] [(.int (1 : Int32)), (.ref b95)])) rfl (by rw [hml]; rfl) (Steps.refl _) (argsL := [(.int (1 : Int32))]) (rest := []) (lenOf own_pd21 rfl) rfl (by show 2 * 0 + _ ≤ _; exact Nat.le_of_eq rfl) (hb hby at_102) (fun _ _ => ⟨rfl, rfl, (by decide : 8 + 0 ≤ _), (by decide : 24 + 0 ≤ _)⟩)
      dsimp only [Pt.U, Pt.locs, Pt.cells, Pt.slots] at X116 l116 y116 z116 st116 hQ116
      subst l116 y116 z116
      obtain ⟨rfl, N116q, e116⟩ := hQ116
      have N116 := Fr.app N105 N116q
      refine own_goT (T' := T116) (g' := (mkF m 105 #[.val (.int xs), .val (.int xn), .val (.long xa), .second, .val (.long xb), .second, .val (.long xc), .second, .val (.int (2 : Int32)), .val (.ref d72), .val (.ref d73), .val (.ref d75), .val (.ref b78), .val (.ref b95), .val (.int (1 : Int32)), .unset, .unset] [(.ref d72)])) st116 ?_
      refine own_go (T' := T116) (g' := (mkF m 107 #[.val (.int xs), .val (.int xn), .val (.long xa), .second, .val (.long xb), .second, .val (.long xc), .second, .val (.int (2 : Int32)), .val (.ref d72), .val (.ref d73), .val (.ref d75), .val (.ref b78), .val (.ref b95), .val (.int (1 : Int32)), .val (.ref d72), .unset] [])) (fun _ k => XS.astore X116.here hx rfl (hb hby at_105) rfl rfl (l' := #[.val (.int xs), .val (.int xn), .val (.long xa), .second, .val (.long xb), .second, .val (.long xc), .second, .val (.int (2 : Int32)), .val (.ref d72), .val (.ref d73), .val (.ref d75), .val (.ref b78), .val (.ref b95), .val (.int (1 : Int32)), .val (.ref d72), .unset]) rfl k) ?_
      refine own_go (T' := T116) (g' := (mkF m 108 #[.val (.int xs), .val (.int xn), .val (.long xa), .second, .val (.long xb), .second, .val (.long xc), .second, .val (.int (2 : Int32)), .val (.ref d72), .val (.ref d73), .val (.ref d75), .val (.ref b78), .val (.ref b95), .val (.int (1 : Int32)), .val (.ref d72), .unset] [.null])) (fun _ k => XS.aconstNull X116.here hx rfl (hb hby at_107) k) ?_
      refine own_go (T' := T116) (g' := (mkF m 110 #[.val (.int xs), .val (.int xn), .val (.long xa), .second, .val (.long xb), .second, .val (.long xc), .second, .val (.int (2 : Int32)), .val (.ref d72), .val (.ref d73), .val (.ref d75), .val (.ref b78), .val (.ref b95), .val (.int (1 : Int32)), .val (.ref d72), .val .null] [])) (fun _ k => XS.astore X116.here hx rfl (hb hby at_108) rfl rfl (l' := #[.val (.int xs), .val (.int xn), .val (.long xa), .second, .val (.long xb), .second, .val (.long xc), .second, .val (.int (2 : Int32)), .val (.ref d72), .val (.ref d73), .val (.ref d75), .val (.ref b78), .val (.ref b95), .val (.int (1 : Int32)), .val (.ref d72), .val .null]) rfl k) ?_
      refine own_go (T' := T116) (g' := (mkF m 112 #[.val (.int xs), .val (.int xn), .val (.long xa), .second, .val (.long xb), .second, .val (.long xc), .second, .val (.int (2 : Int32)), .val (.ref d72), .val (.ref d73), .val (.ref d75), .val (.ref b78), .val (.ref b95), .val (.int (1 : Int32)), .val (.ref d72), .val .null] [(.int (1 : Int32))])) (fun _ k => XS.iload X116.here hx rfl (hb hby at_110) rfl k) ?_
      refine own_go (T' := T116) (g' := (mkF m 114 #[.val (.int xs), .val (.int xn), .val (.long xa), .second, .val (.long xb), .second, .val (.long xc), .second, .val (.int (2 : Int32)), .val (.ref d72), .val (.ref d73), .val (.ref d75), .val (.ref b78), .val (.ref b95), .val (.int (1 : Int32)), .val (.ref d72), .val .null] [(.int (2 : Int32)), (.int (1 : Int32))])) (fun _ k => XS.iload X116.here hx rfl (hb hby at_112) rfl k) ?_
      refine own_go (T' := T116) (g' := (mkF m 117 #[.val (.int xs), .val (.int xn), .val (.long xa), .second, .val (.long xb), .second, .val (.long xc), .second, .val (.int (2 : Int32)), .val (.ref d72), .val (.ref d73), .val (.ref d75), .val (.ref b78), .val (.ref b95), .val (.int (1 : Int32)), .val (.ref d72), .val .null] [])) (fun _ k => XS.icmpNo X116.here hx rfl (hb hby at_114) rfl (flt ((by decide) : ¬ ((2 : Int32) < (1 : Int32)))).2.2.1 k) ?_
      refine own_go (T' := T116) (g' := (mkF m 119 #[.val (.int xs), .val (.int xn), .val (.long xa), .second, .val (.long xb), .second, .val (.long xc), .second, .val (.int (2 : Int32)), .val (.ref d72), .val (.ref d73), .val (.ref d75), .val (.ref b78), .val (.ref b95), .val (.int (1 : Int32)), .val (.ref d72), .val .null] [(.int (1 : Int32))])) (fun _ k => XS.iload X116.here hx rfl (hb hby at_117) rfl k) ?_
      refine own_go (T' := T116) (g' := (mkF m 120 #[.val (.int xs), .val (.int xn), .val (.long xa), .second, .val (.long xb), .second, .val (.long xc), .second, .val (.int (2 : Int32)), .val (.ref d72), .val (.ref d73), .val (.ref d75), .val (.ref b78), .val (.ref b95), .val (.int (1 : Int32)), .val (.ref d72), .val .null] [(.int (1 : Int32)), (.int (1 : Int32))])) (fun _ k => XS.iconst X116.here hx rfl (hb hby at_119) k) ?_
      refine own_go (T' := T116) (g' := (mkF m 123 #[.val (.int xs), .val (.int xn), .val (.long xa), .second, .val (.long xb), .second, .val (.long xc), .second, .val (.int (2 : Int32)), .val (.ref d72), .val (.ref d73), .val (.ref d75), .val (.ref b78), .val (.ref b95), .val (.int (1 : Int32)), .val (.ref d72), .val .null] [])) (fun _ k => XS.icmpNo X116.here hx rfl (hb hby at_120) rfl (teq ((by decide) : (1 : Int32) = (1 : Int32))).2 k) ?_
      refine own_go (T' := T116) (g' := (mkF m 125 #[.val (.int xs), .val (.int xn), .val (.long xa), .second, .val (.long xb), .second, .val (.long xc), .second, .val (.int (2 : Int32)), .val (.ref d72), .val (.ref d73), .val (.ref d75), .val (.ref b78), .val (.ref b95), .val (.int (1 : Int32)), .val (.ref d72), .val .null] [(.ref d72)])) (fun _ k => XS.aload X116.here hx rfl (hb hby at_123) rfl rfl k) ?_
      refine own_go (T' := T116) (g' := (mkF m 127 #[.val (.int xs), .val (.int xn), .val (.long xa), .second, .val (.long xb), .second, .val (.long xc), .second, .val (.int (2 : Int32)), .val (.ref d72), .val (.ref d73), .val (.ref d75), .val (.ref b78), .val (.ref b95), .val (.int (1 : Int32)), .val (.ref d72), .val (.ref d72)] [])) (fun _ k => XS.astore X116.here hx rfl (hb hby at_125) rfl rfl (l' := #[.val (.int xs), .val (.int xn), .val (.long xa), .second, .val (.long xb), .second, .val (.long xc), .second, .val (.int (2 : Int32)), .val (.ref d72), .val (.ref d73), .val (.ref d75), .val (.ref b78), .val (.ref b95), .val (.int (1 : Int32)), .val (.ref d72), .val (.ref d72)]) rfl k) ?_
      refine own_go (T' := T116) (g' := (mkF m 147 #[.val (.int xs), .val (.int xn), .val (.long xa), .second, .val (.long xb), .second, .val (.long xc), .second, .val (.int (2 : Int32)), .val (.ref d72), .val (.ref d73), .val (.ref d75), .val (.ref b78), .val (.ref b95), .val (.int (1 : Int32)), .val (.ref d72), .val (.ref d72)] [])) (fun _ k => XS.goto X116.here hx rfl (pc0 := 127) (pc' := 147) rfl (hb hby at_127) (by decide) (by decide) k) ?_
      refine own_go (T' := T116) (g' := (mkF m 149 #[.val (.int xs), .val (.int xn), .val (.long xa), .second, .val (.long xb), .second, .val (.long xc), .second, .val (.int (2 : Int32)), .val (.ref d72), .val (.ref d73), .val (.ref d75), .val (.ref b78), .val (.ref b95), .val (.int (1 : Int32)), .val (.ref d72), .val (.ref d72)] [(.ref d72)])) (fun _ k => XS.aload X116.here hx rfl (hb hby at_147) rfl rfl k) ?_
      refine own_go (T' := T116) (g' := (mkF m 151 #[.val (.int xs), .val (.int xn), .val (.long xa), .second, .val (.long xb), .second, .val (.long xc), .second, .val (.int (2 : Int32)), .val (.ref d72), .val (.ref d73), .val (.ref d75), .val (.ref b78), .val (.ref b95), .val (.int (1 : Int32)), .val (.ref d72), .val (.ref d72)] [(.ref d72), (.ref d72)])) (fun _ k => XS.aload X116.here hx rfl (hb hby at_149) rfl rfl k) ?_
      refine own_go (T' := T116) (g' := (mkF m 154 #[.val (.int xs), .val (.int xn), .val (.long xa), .second, .val (.long xb), .second, .val (.long xc), .second, .val (.int (2 : Int32)), .val (.ref d72), .val (.ref d73), .val (.ref d75), .val (.ref b78), .val (.ref b95), .val (.int (1 : Int32)), .val (.ref d72), .val (.ref d72)] [])) (fun _ k => Jvm.RoadKit.acmp (g := (mkF m 151 #[.val (.int xs), .val (.int xn), .val (.long xa), .second, .val (.long xb), .second, .val (.long xc), .second, .val (.int (2 : Int32)), .val (.ref d72), .val (.ref d73), .val (.ref d75), .val (.ref b78), .val (.ref b95), .val (.int (1 : Int32)), .val (.ref d72), .val (.ref d72)] [(.ref d72), (.ref d72)])) X116 hx rfl rfl rfl (pc0 := 151) (pc' := 154) (same := true) rfl (hb hby at_151) rfl (decide_eq_true rfl) (by decide) (by decide) k) ?_
      refine own_go (T' := T116) (g' := (mkF m 155 #[.val (.int xs), .val (.int xn), .val (.long xa), .second, .val (.long xb), .second, .val (.long xc), .second, .val (.int (2 : Int32)), .val (.ref d72), .val (.ref d73), .val (.ref d75), .val (.ref b78), .val (.ref b95), .val (.int (1 : Int32)), .val (.ref d72), .val (.ref d72)] [(.int (1 : Int32))])) (fun _ k => XS.iconst X116.here hx rfl (hb hby at_154) k) ?_
      refine own_go (T' := T116) (g' := (mkF m 159 #[.val (.int xs), .val (.int xn), .val (.long xa), .second, .val (.long xb), .second, .val (.long xc), .second, .val (.int (2 : Int32)), .val (.ref d72), .val (.ref d73), .val (.ref d75), .val (.ref b78), .val (.ref b95), .val (.int (1 : Int32)), .val (.ref d72), .val (.ref d72)] [(.int (1 : Int32))])) (fun _ k => XS.goto X116.here hx rfl (pc0 := 155) (pc' := 159) rfl (hb hby at_155) (by decide) (by decide) k) ?_
      obtain ⟨fs, hr, hrun, hended, hW, hsame⟩ := X116.leave (v := some (.int (1 : Int32))) (fun h => by rw [Bd.returns] at h; cases h)
      refine own_end (retN X116 hx (t := .boolean) Bd.returns (by simp) (hb hby at_159) hr) hrun hended ⟨_, _, rfl, (?_ : own_QL Z xs xn xa xb xc xz xd kd xE xee kee xq xm h0 n0 _ T116.heap _), ⟨_, rfl⟩, hW, hsame.mono (by decide) (by decide)⟩
      rw [e116]
      exact ⟨rfl, N116⟩
    · rw [hnum]
      refine own_go (T' := T105) (g' := (mkF m 100 #[.val (.int xs), .val (.int xn), .val (.long xa), .second, .val (.long xb), .second, .val (.long xc), .second, .val (.int (2 : Int32)), .val (.ref d72), .val (.ref d73), .val (.ref d75), .val (.ref b78), .val (.ref b95), .val (.int (2 : Int32)), .unset, .unset] [(.ref b95)])) (fun _ k => XS.aload X105.here hx rfl (hb hby at_98) rfl rfl k) ?_
      refine own_go (T' := T105) (g' := (mkF m 102 #[.val (.int xs), .val (.int xn), .val (.long xa), .second, .val (.long xb), .second, .val (.long xc), .second, .val (.int (2 : Int32)), .val (.ref d72), .val (.ref d73), .val (.ref d75), .val (.ref b78), .val (.ref b95), .val (.int (2 : Int32)), .unset, .unset] [(.int (2 : Int32)), (.ref b95)])) (fun _ k => XS.iload X105.here hx rfl (hb hby at_100) rfl k) ?_
      obtain ⟨cq117, kq117, q117a, q117b, q117c⟩ := isOf hZ rfl Ec105
      obtain ⟨_, _, ⟨T117, L117, k117, n117⟩, -, X117, ⟨Lc117, hQ117, l117, y117, z117⟩, st117⟩ := X105.virtualBack hx (y := (⟨"com/example/entrega/entrega/RetrySchedule", "waitAfter", "(I)Ljava/time/Duration;"⟩ : MethodName)) (z := (⟨"com/example/entrega/entrega/RetrySchedule", "waitAfter", "(I)Ljava/time/Duration;"⟩ : MethodName)) hown (mvT hZ (hw _ (List.mem_of_getElem? (i := 88) rfl))) (mvT hZ (hw _ (List.mem_of_getElem? (i := 89) rfl))) (notFace_of_selects (args := #[]) (mvT hZ (hw _ (List.mem_of_getElem? (i := 91) rfl)))) (mvT hZ (hw _ (List.mem_of_getElem? (i := 91) rfl))) (mvT hZ (hw _ (List.mem_of_getElem? (i := 90) rfl))) (by decide) (backOf (W := 0) (own_rW22 l Z a0 hw [] b95 r105 xq d72 d73 T105.heap n0 Z105 Fwc105 Elc105 F0c105 F1c105 (Sq.ext O105) (Exa.ne Ek107 (Eq.ext O105) (by decide)) Ek106 Ek107) hZ (hw _ (List.mem_of_getElem? (i := 92) rfl)) (hw _ (List.mem_of_getElem? (i := 46) rfl)) (by decide) (by decide)) q117a q117c (g := (mkF m 102 #[.val (.int xs), .val (.int xn), .val (.long xa), .second, .val (.long xb), .second, .val (.long xc), .second, .val (.int (2 : Int32)), .val (.ref d72), .val (.ref d73), .val (.ref d75), .val (.ref b78), .val (.ref b95), .val (.int (2 : Int32)), .unset, .unset] [(.int (2 : Int32)), (.ref b95)])) rfl (by rw [hml]; rfl) (Steps.refl _) (argsL := [(.int (2 : Int32))]) (rest := []) (lenOf own_pd21 rfl) rfl (by show 2 * 0 + _ ≤ _; exact Nat.le_of_eq rfl) (hb hby at_102) (fun _ _ => ⟨rfl, rfl, (by decide : 8 + 0 ≤ _), (by decide : 24 + 0 ≤ _)⟩)
      dsimp only [Pt.U, Pt.locs, Pt.cells, Pt.slots] at X117 l117 y117 z117 st117 hQ117
      subst l117 y117 z117
      obtain ⟨rfl, N117q, e117⟩ := hQ117
      have N117 := Fr.app N105 N117q
      refine own_goT (T' := T117) (g' := (mkF m 105 #[.val (.int xs), .val (.int xn), .val (.long xa), .second, .val (.long xb), .second, .val (.long xc), .second, .val (.int (2 : Int32)), .val (.ref d72), .val (.ref d73), .val (.ref d75), .val (.ref b78), .val (.ref b95), .val (.int (2 : Int32)), .unset, .unset] [(.ref d73)])) st117 ?_
      refine own_go (T' := T117) (g' := (mkF m 107 #[.val (.int xs), .val (.int xn), .val (.long xa), .second, .val (.long xb), .second, .val (.long xc), .second, .val (.int (2 : Int32)), .val (.ref d72), .val (.ref d73), .val (.ref d75), .val (.ref b78), .val (.ref b95), .val (.int (2 : Int32)), .val (.ref d73), .unset] [])) (fun _ k => XS.astore X117.here hx rfl (hb hby at_105) rfl rfl (l' := #[.val (.int xs), .val (.int xn), .val (.long xa), .second, .val (.long xb), .second, .val (.long xc), .second, .val (.int (2 : Int32)), .val (.ref d72), .val (.ref d73), .val (.ref d75), .val (.ref b78), .val (.ref b95), .val (.int (2 : Int32)), .val (.ref d73), .unset]) rfl k) ?_
      refine own_go (T' := T117) (g' := (mkF m 108 #[.val (.int xs), .val (.int xn), .val (.long xa), .second, .val (.long xb), .second, .val (.long xc), .second, .val (.int (2 : Int32)), .val (.ref d72), .val (.ref d73), .val (.ref d75), .val (.ref b78), .val (.ref b95), .val (.int (2 : Int32)), .val (.ref d73), .unset] [.null])) (fun _ k => XS.aconstNull X117.here hx rfl (hb hby at_107) k) ?_
      refine own_go (T' := T117) (g' := (mkF m 110 #[.val (.int xs), .val (.int xn), .val (.long xa), .second, .val (.long xb), .second, .val (.long xc), .second, .val (.int (2 : Int32)), .val (.ref d72), .val (.ref d73), .val (.ref d75), .val (.ref b78), .val (.ref b95), .val (.int (2 : Int32)), .val (.ref d73), .val .null] [])) (fun _ k => XS.astore X117.here hx rfl (hb hby at_108) rfl rfl (l' := #[.val (.int xs), .val (.int xn), .val (.long xa), .second, .val (.long xb), .second, .val (.long xc), .second, .val (.int (2 : Int32)), .val (.ref d72), .val (.ref d73), .val (.ref d75), .val (.ref b78), .val (.ref b95), .val (.int (2 : Int32)), .val (.ref d73), .val .null]) rfl k) ?_
      refine own_go (T' := T117) (g' := (mkF m 112 #[.val (.int xs), .val (.int xn), .val (.long xa), .second, .val (.long xb), .second, .val (.long xc), .second, .val (.int (2 : Int32)), .val (.ref d72), .val (.ref d73), .val (.ref d75), .val (.ref b78), .val (.ref b95), .val (.int (2 : Int32)), .val (.ref d73), .val .null] [(.int (2 : Int32))])) (fun _ k => XS.iload X117.here hx rfl (hb hby at_110) rfl k) ?_
      refine own_go (T' := T117) (g' := (mkF m 114 #[.val (.int xs), .val (.int xn), .val (.long xa), .second, .val (.long xb), .second, .val (.long xc), .second, .val (.int (2 : Int32)), .val (.ref d72), .val (.ref d73), .val (.ref d75), .val (.ref b78), .val (.ref b95), .val (.int (2 : Int32)), .val (.ref d73), .val .null] [(.int (2 : Int32)), (.int (2 : Int32))])) (fun _ k => XS.iload X117.here hx rfl (hb hby at_112) rfl k) ?_
      refine own_go (T' := T117) (g' := (mkF m 117 #[.val (.int xs), .val (.int xn), .val (.long xa), .second, .val (.long xb), .second, .val (.long xc), .second, .val (.int (2 : Int32)), .val (.ref d72), .val (.ref d73), .val (.ref d75), .val (.ref b78), .val (.ref b95), .val (.int (2 : Int32)), .val (.ref d73), .val .null] [])) (fun _ k => XS.icmpNo X117.here hx rfl (hb hby at_114) rfl (flt ((by decide) : ¬ ((2 : Int32) < (2 : Int32)))).2.2.1 k) ?_
      refine own_go (T' := T117) (g' := (mkF m 119 #[.val (.int xs), .val (.int xn), .val (.long xa), .second, .val (.long xb), .second, .val (.long xc), .second, .val (.int (2 : Int32)), .val (.ref d72), .val (.ref d73), .val (.ref d75), .val (.ref b78), .val (.ref b95), .val (.int (2 : Int32)), .val (.ref d73), .val .null] [(.int (2 : Int32))])) (fun _ k => XS.iload X117.here hx rfl (hb hby at_117) rfl k) ?_
      refine own_go (T' := T117) (g' := (mkF m 120 #[.val (.int xs), .val (.int xn), .val (.long xa), .second, .val (.long xb), .second, .val (.long xc), .second, .val (.int (2 : Int32)), .val (.ref d72), .val (.ref d73), .val (.ref d75), .val (.ref b78), .val (.ref b95), .val (.int (2 : Int32)), .val (.ref d73), .val .null] [(.int (1 : Int32)), (.int (2 : Int32))])) (fun _ k => XS.iconst X117.here hx rfl (hb hby at_119) k) ?_
      refine own_go (T' := T117) (g' := (mkF m 130 #[.val (.int xs), .val (.int xn), .val (.long xa), .second, .val (.long xb), .second, .val (.long xc), .second, .val (.int (2 : Int32)), .val (.ref d72), .val (.ref d73), .val (.ref d75), .val (.ref b78), .val (.ref b95), .val (.int (2 : Int32)), .val (.ref d73), .val .null] [])) (fun _ k => XS.icmpYes X117.here hx rfl (pc0 := 120) (pc' := 130) rfl (hb hby at_120) rfl (feq ((by decide) : ¬ ((2 : Int32) = (1 : Int32)))).2 (by decide) (by decide) k) ?_
      refine own_go (T' := T117) (g' := (mkF m 132 #[.val (.int xs), .val (.int xn), .val (.long xa), .second, .val (.long xb), .second, .val (.long xc), .second, .val (.int (2 : Int32)), .val (.ref d72), .val (.ref d73), .val (.ref d75), .val (.ref b78), .val (.ref b95), .val (.int (2 : Int32)), .val (.ref d73), .val .null] [(.int (2 : Int32))])) (fun _ k => XS.iload X117.here hx rfl (hb hby at_130) rfl k) ?_
      refine own_go (T' := T117) (g' := (mkF m 133 #[.val (.int xs), .val (.int xn), .val (.long xa), .second, .val (.long xb), .second, .val (.long xc), .second, .val (.int (2 : Int32)), .val (.ref d72), .val (.ref d73), .val (.ref d75), .val (.ref b78), .val (.ref b95), .val (.int (2 : Int32)), .val (.ref d73), .val .null] [(.int (2 : Int32)), (.int (2 : Int32))])) (fun _ k => XS.iconst X117.here hx rfl (hb hby at_132) k) ?_
      refine own_go (T' := T117) (g' := (mkF m 136 #[.val (.int xs), .val (.int xn), .val (.long xa), .second, .val (.long xb), .second, .val (.long xc), .second, .val (.int (2 : Int32)), .val (.ref d72), .val (.ref d73), .val (.ref d75), .val (.ref b78), .val (.ref b95), .val (.int (2 : Int32)), .val (.ref d73), .val .null] [])) (fun _ k => XS.icmpNo X117.here hx rfl (hb hby at_133) rfl (teq ((by decide) : (2 : Int32) = (2 : Int32))).2 k) ?_
      refine own_go (T' := T117) (g' := (mkF m 138 #[.val (.int xs), .val (.int xn), .val (.long xa), .second, .val (.long xb), .second, .val (.long xc), .second, .val (.int (2 : Int32)), .val (.ref d72), .val (.ref d73), .val (.ref d75), .val (.ref b78), .val (.ref b95), .val (.int (2 : Int32)), .val (.ref d73), .val .null] [(.ref d73)])) (fun _ k => XS.aload X117.here hx rfl (hb hby at_136) rfl rfl k) ?_
      refine own_go (T' := T117) (g' := (mkF m 140 #[.val (.int xs), .val (.int xn), .val (.long xa), .second, .val (.long xb), .second, .val (.long xc), .second, .val (.int (2 : Int32)), .val (.ref d72), .val (.ref d73), .val (.ref d75), .val (.ref b78), .val (.ref b95), .val (.int (2 : Int32)), .val (.ref d73), .val (.ref d73)] [])) (fun _ k => XS.astore X117.here hx rfl (hb hby at_138) rfl rfl (l' := #[.val (.int xs), .val (.int xn), .val (.long xa), .second, .val (.long xb), .second, .val (.long xc), .second, .val (.int (2 : Int32)), .val (.ref d72), .val (.ref d73), .val (.ref d75), .val (.ref b78), .val (.ref b95), .val (.int (2 : Int32)), .val (.ref d73), .val (.ref d73)]) rfl k) ?_
      refine own_go (T' := T117) (g' := (mkF m 147 #[.val (.int xs), .val (.int xn), .val (.long xa), .second, .val (.long xb), .second, .val (.long xc), .second, .val (.int (2 : Int32)), .val (.ref d72), .val (.ref d73), .val (.ref d75), .val (.ref b78), .val (.ref b95), .val (.int (2 : Int32)), .val (.ref d73), .val (.ref d73)] [])) (fun _ k => XS.goto X117.here hx rfl (pc0 := 140) (pc' := 147) rfl (hb hby at_140) (by decide) (by decide) k) ?_
      refine own_go (T' := T117) (g' := (mkF m 149 #[.val (.int xs), .val (.int xn), .val (.long xa), .second, .val (.long xb), .second, .val (.long xc), .second, .val (.int (2 : Int32)), .val (.ref d72), .val (.ref d73), .val (.ref d75), .val (.ref b78), .val (.ref b95), .val (.int (2 : Int32)), .val (.ref d73), .val (.ref d73)] [(.ref d73)])) (fun _ k => XS.aload X117.here hx rfl (hb hby at_147) rfl rfl k) ?_
      refine own_go (T' := T117) (g' := (mkF m 151 #[.val (.int xs), .val (.int xn), .val (.long xa), .second, .val (.long xb), .second, .val (.long xc), .second, .val (.int (2 : Int32)), .val (.ref d72), .val (.ref d73), .val (.ref d75), .val (.ref b78), .val (.ref b95), .val (.int (2 : Int32)), .val (.ref d73), .val (.ref d73)] [(.ref d73), (.ref d73)])) (fun _ k => XS.aload X117.here hx rfl (hb hby at_149) rfl rfl k) ?_
      refine own_go (T' := T117) (g' := (mkF m 154 #[.val (.int xs), .val (.int xn), .val (.long xa), .second, .val (.long xb), .second, .val (.long xc), .second, .val (.int (2 : Int32)), .val (.ref d72), .val (.ref d73), .val (.ref d75), .val (.ref b78), .val (.ref b95), .val (.int (2 : Int32)), .val (.ref d73), .val (.ref d73)] [])) (fun _ k => Jvm.RoadKit.acmp (g := (mkF m 151 #[.val (.int xs), .val (.int xn), .val (.long xa), .second, .val (.long xb), .second, .val (.long xc), .second, .val (.int (2 : Int32)), .val (.ref d72), .val (.ref d73), .val (.ref d75), .val (.ref b78), .val (.ref b95), .val (.int (2 : Int32)), .val (.ref d73), .val (.ref d73)] [(.ref d73), (.ref d73)])) X117 hx rfl rfl rfl (pc0 := 151) (pc' := 154) (same := true) rfl (hb hby at_151) rfl (decide_eq_true rfl) (by decide) (by decide) k) ?_
      refine own_go (T' := T117) (g' := (mkF m 155 #[.val (.int xs), .val (.int xn), .val (.long xa), .second, .val (.long xb), .second, .val (.long xc), .second, .val (.int (2 : Int32)), .val (.ref d72), .val (.ref d73), .val (.ref d75), .val (.ref b78), .val (.ref b95), .val (.int (2 : Int32)), .val (.ref d73), .val (.ref d73)] [(.int (1 : Int32))])) (fun _ k => XS.iconst X117.here hx rfl (hb hby at_154) k) ?_
      refine own_go (T' := T117) (g' := (mkF m 159 #[.val (.int xs), .val (.int xn), .val (.long xa), .second, .val (.long xb), .second, .val (.long xc), .second, .val (.int (2 : Int32)), .val (.ref d72), .val (.ref d73), .val (.ref d75), .val (.ref b78), .val (.ref b95), .val (.int (2 : Int32)), .val (.ref d73), .val (.ref d73)] [(.int (1 : Int32))])) (fun _ k => XS.goto X117.here hx rfl (pc0 := 155) (pc' := 159) rfl (hb hby at_155) (by decide) (by decide) k) ?_
      obtain ⟨fs, hr, hrun, hended, hW, hsame⟩ := X117.leave (v := some (.int (1 : Int32))) (fun h => by rw [Bd.returns] at h; cases h)
      refine own_end (retN X117 hx (t := .boolean) Bd.returns (by simp) (hb hby at_159) hr) hrun hended ⟨_, _, rfl, (?_ : own_QL Z xs xn xa xb xc xz xd kd xE xee kee xq xm h0 n0 _ T117.heap _), ⟨_, rfl⟩, hW, hsame.mono (by decide) (by decide)⟩
      rw [e117]
      exact ⟨rfl, N117⟩
  · rw [hk]
    refine own_go (T' := s₁) (g' := (mkF m 6 #[.val (.int xs), .val (.int xn), .val (.long xa), .second, .val (.long xb), .second, .val (.long xc), .second, .val (.int (3 : Int32)), .unset, .unset, .unset, .unset, .unset, .unset, .unset, .unset] [(.long xa)])) (fun _ k => XS.lloadN X0.here hx rfl (hb hby at_5) rfl k) ?_
    obtain ⟨_, _, ⟨T118, L118, k118, n118⟩, -, X118, ⟨Lc118, hQ118, l118, y118, z118⟩, st118⟩ := Jvm.LawKit.callS X0 hx (y := (⟨"java/time/Duration", "ofSeconds", "(J)Ljava/time/Duration;"⟩ : MethodName)) hown (mvT hZ (hw _ (List.mem_of_getElem? (i := 0) rfl))) (mvT hZ (hw _ (List.mem_of_getElem? (i := 1) rfl))) (mvT hZ (hw _ (List.mem_of_getElem? (i := 2) rfl))) (mvT hZ (hw _ (List.mem_of_getElem? (i := 3) rfl))) (by decide) (backOf (W := 0) (own_rOs l Z a0 hw [] xa xz h0 n0 Z0 (Sz.ext (own_ext_rf h0)) (Ez.ext (own_ext_rf h0))) hZ (hw _ (List.mem_of_getElem? (i := 3) rfl)) (hw _ (List.mem_of_getElem? (i := 2) rfl)) (by decide) (by decide)) (g := (mkF m 6 #[.val (.int xs), .val (.int xn), .val (.long xa), .second, .val (.long xb), .second, .val (.long xc), .second, .val (.int (3 : Int32)), .unset, .unset, .unset, .unset, .unset, .unset, .unset, .unset] [(.long xa)])) rfl (by rw [hml]; rfl) (argsL := [(.long xa)]) (rest := []) (lenOf own_pd19 rfl) rfl (by show 2 * 0 + _ ≤ _; exact Nat.le_of_eq rfl) (hb hby at_6) (fun _ _ => ⟨rfl, e0, (by decide : 0 + 1 ≤ _), (by decide : 0 + 2 ≤ _)⟩)
    dsimp only [Pt.U, Pt.locs, Pt.cells, Pt.slots] at X118 l118 y118 z118 st118 hQ118
    subst l118 y118 z118
    obtain ⟨-, N118q, Kc118, -, d118, rfl, Ec118⟩ := hQ118
    have N118 := Fr.app N0 N118q
    have Z118 : n0 ≤ T118.heap.size := Nat.le_trans Z0 Kc118.1
    have O118 : Ext h0 T118.heap := own_ext_keep (own_ext_rf h0) Kc118 own_all0
    have K118 : Keep h0 T118.heap [] := (Keep.refl h0 []).trans Kc118 (fun x hx => nomatch hx)
    refine own_go (T' := T118) (g' := (mkF m 9 #[.val (.int xs), .val (.int xn), .val (.long xa), .second, .val (.long xb), .second, .val (.long xc), .second, .val (.int (3 : Int32)), .unset, .unset, .unset, .unset, .unset, .unset, .unset, .unset] [(.ref d118)])) (fun _ k => st118 _ k) ?_
    refine own_go (T' := T118) (g' := (mkF m 11 #[.val (.int xs), .val (.int xn), .val (.long xa), .second, .val (.long xb), .second, .val (.long xc), .second, .val (.int (3 : Int32)), .val (.ref d118), .unset, .unset, .unset, .unset, .unset, .unset, .unset] [])) (fun _ k => XS.astore X118.here hx rfl (hb hby at_9) rfl rfl (l' := #[.val (.int xs), .val (.int xn), .val (.long xa), .second, .val (.long xb), .second, .val (.long xc), .second, .val (.int (3 : Int32)), .val (.ref d118), .unset, .unset, .unset, .unset, .unset, .unset, .unset]) rfl k) ?_
    refine own_go (T' := T118) (g' := (mkF m 13 #[.val (.int xs), .val (.int xn), .val (.long xa), .second, .val (.long xb), .second, .val (.long xc), .second, .val (.int (3 : Int32)), .val (.ref d118), .unset, .unset, .unset, .unset, .unset, .unset, .unset] [(.long xb)])) (fun _ k => XS.lload X118.here hx rfl (hb hby at_11) rfl k) ?_
    obtain ⟨_, _, ⟨T119, L119, k119, n119⟩, -, X119, ⟨Lc119, hQ119, l119, y119, z119⟩, st119⟩ := Jvm.LawKit.callS X118 hx (y := (⟨"java/time/Duration", "ofSeconds", "(J)Ljava/time/Duration;"⟩ : MethodName)) hown (mvT hZ (hw _ (List.mem_of_getElem? (i := 0) rfl))) (mvT hZ (hw _ (List.mem_of_getElem? (i := 1) rfl))) (mvT hZ (hw _ (List.mem_of_getElem? (i := 2) rfl))) (mvT hZ (hw _ (List.mem_of_getElem? (i := 3) rfl))) (by decide) (backOf (W := 0) (own_rOs l Z a0 hw [] xb xz T118.heap n0 Z118 (Sz.ext O118) (Ez.ext O118)) hZ (hw _ (List.mem_of_getElem? (i := 3) rfl)) (hw _ (List.mem_of_getElem? (i := 2) rfl)) (by decide) (by decide)) (g := (mkF m 13 #[.val (.int xs), .val (.int xn), .val (.long xa), .second, .val (.long xb), .second, .val (.long xc), .second, .val (.int (3 : Int32)), .val (.ref d118), .unset, .unset, .unset, .unset, .unset, .unset, .unset] [(.long xb)])) rfl (by rw [hml]; rfl) (argsL := [(.long xb)]) (rest := []) (lenOf own_pd19 rfl) rfl (by show 2 * 0 + _ ≤ _; exact Nat.le_of_eq rfl) (hb hby at_13) (fun _ _ => ⟨rfl, rfl, (by decide : 1 + 1 ≤ _), (by decide : 2 + 2 ≤ _)⟩)
    dsimp only [Pt.U, Pt.locs, Pt.cells, Pt.slots] at X119 l119 y119 z119 st119 hQ119
    subst l119 y119 z119
    obtain ⟨-, N119q, Kc119, -, d119, rfl, Ec119⟩ := hQ119
    have N119 := Fr.app N118 N119q
    have Ek120 := Ec118.keep Kc119
    have Z119 : n0 ≤ T119.heap.size := Nat.le_trans Z118 Kc119.1
    have O119 : Ext h0 T119.heap := own_ext_keep O118 Kc119 own_all0
    have K119 : Keep h0 T119.heap [] := K118.trans Kc119 (fun x hx => nomatch hx)
    refine own_go (T' := T119) (g' := (mkF m 16 #[.val (.int xs), .val (.int xn), .val (.long xa), .second, .val (.long xb), .second, .val (.long xc), .second, .val (.int (3 : Int32)), .val (.ref d118), .unset, .unset, .unset, .unset, .unset, .unset, .unset] [(.ref d119)])) (fun _ k => st119 _ k) ?_
    refine own_go (T' := T119) (g' := (mkF m 18 #[.val (.int xs), .val (.int xn), .val (.long xa), .second, .val (.long xb), .second, .val (.long xc), .second, .val (.int (3 : Int32)), .val (.ref d118), .val (.ref d119), .unset, .unset, .unset, .unset, .unset, .unset] [])) (fun _ k => XS.astore X119.here hx rfl (hb hby at_16) rfl rfl (l' := #[.val (.int xs), .val (.int xn), .val (.long xa), .second, .val (.long xb), .second, .val (.long xc), .second, .val (.int (3 : Int32)), .val (.ref d118), .val (.ref d119), .unset, .unset, .unset, .unset, .unset, .unset]) rfl k) ?_
    refine own_go (T' := T119) (g' := (mkF m 20 #[.val (.int xs), .val (.int xn), .val (.long xa), .second, .val (.long xb), .second, .val (.long xc), .second, .val (.int (3 : Int32)), .val (.ref d118), .val (.ref d119), .unset, .unset, .unset, .unset, .unset, .unset] [(.long xc)])) (fun _ k => XS.lload X119.here hx rfl (hb hby at_18) rfl k) ?_
    obtain ⟨_, _, ⟨T121, L121, k121, n121⟩, -, X121, ⟨Lc121, hQ121, l121, y121, z121⟩, st121⟩ := Jvm.LawKit.callS X119 hx (y := (⟨"java/time/Duration", "ofSeconds", "(J)Ljava/time/Duration;"⟩ : MethodName)) hown (mvT hZ (hw _ (List.mem_of_getElem? (i := 0) rfl))) (mvT hZ (hw _ (List.mem_of_getElem? (i := 1) rfl))) (mvT hZ (hw _ (List.mem_of_getElem? (i := 2) rfl))) (mvT hZ (hw _ (List.mem_of_getElem? (i := 3) rfl))) (by decide) (backOf (W := 0) (own_rOs l Z a0 hw [] xc xz T119.heap n0 Z119 (Sz.ext O119) (Ez.ext O119)) hZ (hw _ (List.mem_of_getElem? (i := 3) rfl)) (hw _ (List.mem_of_getElem? (i := 2) rfl)) (by decide) (by decide)) (g := (mkF m 20 #[.val (.int xs), .val (.int xn), .val (.long xa), .second, .val (.long xb), .second, .val (.long xc), .second, .val (.int (3 : Int32)), .val (.ref d118), .val (.ref d119), .unset, .unset, .unset, .unset, .unset, .unset] [(.long xc)])) rfl (by rw [hml]; rfl) (argsL := [(.long xc)]) (rest := []) (lenOf own_pd19 rfl) rfl (by show 2 * 0 + _ ≤ _; exact Nat.le_of_eq rfl) (hb hby at_20) (fun _ _ => ⟨rfl, rfl, (by decide : 2 + 1 ≤ _), (by decide : 4 + 2 ≤ _)⟩)
    dsimp only [Pt.U, Pt.locs, Pt.cells, Pt.slots] at X121 l121 y121 z121 st121 hQ121
    subst l121 y121 z121
    obtain ⟨-, N121q, Kc121, -, d121, rfl, Ec121⟩ := hQ121
    have N121 := Fr.app N119 N121q
    have Ek122 := Ek120.keep Kc121
    have Ek123 := Ec119.keep Kc121
    have Z121 : n0 ≤ T121.heap.size := Nat.le_trans Z119 Kc121.1
    have O121 : Ext h0 T121.heap := own_ext_keep O119 Kc121 own_all0
    have K121 : Keep h0 T121.heap [] := K119.trans Kc121 (fun x hx => nomatch hx)
    refine own_go (T' := T121) (g' := (mkF m 23 #[.val (.int xs), .val (.int xn), .val (.long xa), .second, .val (.long xb), .second, .val (.long xc), .second, .val (.int (3 : Int32)), .val (.ref d118), .val (.ref d119), .unset, .unset, .unset, .unset, .unset, .unset] [(.ref d121)])) (fun _ k => st121 _ k) ?_
    refine own_go (T' := T121) (g' := (mkF m 25 #[.val (.int xs), .val (.int xn), .val (.long xa), .second, .val (.long xb), .second, .val (.long xc), .second, .val (.int (3 : Int32)), .val (.ref d118), .val (.ref d119), .val (.ref d121), .unset, .unset, .unset, .unset, .unset] [])) (fun _ k => XS.astore X121.here hx rfl (hb hby at_23) rfl rfl (l' := #[.val (.int xs), .val (.int xn), .val (.long xa), .second, .val (.long xb), .second, .val (.long xc), .second, .val (.int (3 : Int32)), .val (.ref d118), .val (.ref d119), .val (.ref d121), .unset, .unset, .unset, .unset, .unset]) rfl k) ?_
    obtain ⟨T124, h124, X124, e124, E124, A124, D124, -, st124⟩ := newO X121 hx hZ hown (hw _ (List.mem_of_getElem? (i := 20) rfl)) (hw _ (List.mem_of_getElem? (i := 21) rfl)) (hw _ (List.mem_of_getElem? (i := 22) rfl)) rfl (g := (mkF m 25 #[.val (.int xs), .val (.int xn), .val (.long xa), .second, .val (.long xb), .second, .val (.long xc), .second, .val (.int (3 : Int32)), .val (.ref d118), .val (.ref d119), .val (.ref d121), .unset, .unset, .unset, .unset, .unset] [])) rfl (hb hby at_25) (by decide) (by decide)
    obtain ⟨b124, g124⟩ : ∃ z, z = T121.heap.size := ⟨_, rfl⟩
    rw [← g124] at A124 D124 st124
    have ne_d118_b124 : d118 ≠ b124 := Nat.ne_of_lt (Nat.lt_of_lt_of_le Ek122.lt (Nat.le_of_eq g124.symm))
    have ne_d119_b124 : d119 ≠ b124 := Nat.ne_of_lt (Nat.lt_of_lt_of_le Ek123.lt (Nat.le_of_eq g124.symm))
    have ne_d121_b124 : d121 ≠ b124 := Nat.ne_of_lt (Nat.lt_of_lt_of_le Ec121.lt (Nat.le_of_eq g124.symm))
    have gz_b124 : n0 ≤ b124 := Nat.le_trans Z121 (Nat.le_of_eq g124.symm)
    have hz_b124 : h0.size ≤ b124 := Nat.le_trans K121.1 (Nat.le_of_eq g124.symm)
    have Ek125 := Ek122.ext E124
    have Ek126 := Ek123.ext E124
    have Ek127 := Ec121.ext E124
    have Z124 : n0 ≤ h124.size := Nat.le_trans Z121 E124.1
    have O124 : Ext h0 h124 := own_ext_tr O121 E124
    have K124 : Keep h0 h124 [] := K121.ext E124
    have FmodCount_b124 : Fld Z h124 b124 "java/util/AbstractList" "modCount" "I" (.int (0 : Int32)) := D124 (Or.inl (hw _ (List.mem_of_getElem? (i := 40) rfl))) (ty := .int) (by decide)
    have FelementData_b124 : Fld Z h124 b124 "java/util/ArrayList" "elementData" "[Ljava/lang/Object;" .null := D124 (Or.inl (hw _ (List.mem_of_getElem? (i := 43) rfl))) (ty := (.array (.object "java/lang/Object"))) (by decide)
    have Fsize_b124 : Fld Z h124 b124 "java/util/ArrayList" "size" "I" (.int (0 : Int32)) := D124 (Or.inl (hw _ (List.mem_of_getElem? (i := 80) rfl))) (ty := .int) (by decide)
    refine own_go (T' := T124) (g' := (mkF m 28 #[.val (.int xs), .val (.int xn), .val (.long xa), .second, .val (.long xb), .second, .val (.long xc), .second, .val (.int (3 : Int32)), .val (.ref d118), .val (.ref d119), .val (.ref d121), .unset, .unset, .unset, .unset, .unset] [(.ref b124)])) (fun _ k => st124 _ k) ?_
    refine own_go (T' := T124) (g' := (mkF m 29 #[.val (.int xs), .val (.int xn), .val (.long xa), .second, .val (.long xb), .second, .val (.long xc), .second, .val (.int (3 : Int32)), .val (.ref d118), .val (.ref d119), .val (.ref d121), .unset, .unset, .unset, .unset, .unset] [(.ref b124), (.ref b124)])) (fun _ k => XS.dup X124.here hx rfl (hb hby at_28) rfl rfl k) ?_
    obtain ⟨_, _, ⟨T128, L128, k128, n128⟩, -, X128, ⟨Lc128, hQ128, l128, y128, z128⟩, st128⟩ := X124.specialBack hx (y := (⟨"java/util/ArrayList", "<init>", "()V"⟩ : MethodName)) rfl hown (mvT hZ (hw _ (List.mem_of_getElem? (i := 23) rfl))) (mvT hZ (hw _ (List.mem_of_getElem? (i := 24) rfl))) (mvT hZ (hw _ (List.mem_of_getElem? (i := 25) rfl))) (by decide) (backOf (W := 1) (own_rAli l Z a0 hw [] b124 xd h124 n0 Z124 A124 FmodCount_b124 FelementData_b124 Fsize_b124 gz_b124 (Sd.ext O124)) hZ (hw _ (List.mem_of_getElem? (i := 25) rfl)) (hw _ (List.mem_of_getElem? (i := 22) rfl)) (by decide) (by decide)) (g := (mkF m 29 #[.val (.int xs), .val (.int xn), .val (.long xa), .second, .val (.long xb), .second, .val (.long xc), .second, .val (.int (3 : Int32)), .val (.ref d118), .val (.ref d119), .val (.ref d121), .unset, .unset, .unset, .unset, .unset] [(.ref b124), (.ref b124)])) rfl (by rw [hml]; rfl) (Steps.refl _) (a := b124) (argsL := []) (rest := [(.ref b124)]) (lenOf own_pd0 rfl) rfl (by show 2 * 0 + _ ≤ _; exact Nat.le_of_eq rfl) (hb hby at_29) (fun _ _ => ⟨rfl, e124, (by decide : 4 + 0 ≤ _), (by decide : 9 + 0 ≤ _)⟩)
    dsimp only [Pt.U, Pt.locs, Pt.cells, Pt.slots] at X128 l128 y128 z128 st128 hQ128
    subst l128 y128 z128
    obtain ⟨rfl, N128q, Kc128, -, Ec128, Fmc128, Fec128, Fsc128⟩ := hQ128
    have N128 := Fr.app N121 N128q
    have Ek129 := Ek125.keep Kc128
    have Ek130 := Ek126.keep Kc128
    have Ek131 := Ek127.keep Kc128
    have Z128 : n0 ≤ T128.heap.size := Nat.le_trans Z124 Kc128.1
    have O128 : Ext h0 T128.heap := own_ext_keep O124 Kc128 (own_all1 hz_b124)
    have K128 : Keep h0 T128.heap [] := K124.trans Kc128 (own_or1 (Or.inr hz_b124))
    refine own_goT (T' := T128) (g' := (mkF m 32 #[.val (.int xs), .val (.int xn), .val (.long xa), .second, .val (.long xb), .second, .val (.long xc), .second, .val (.int (3 : Int32)), .val (.ref d118), .val (.ref d119), .val (.ref d121), .unset, .unset, .unset, .unset, .unset] [(.ref b124)])) st128 ?_
    refine own_go (T' := T128) (g' := (mkF m 34 #[.val (.int xs), .val (.int xn), .val (.long xa), .second, .val (.long xb), .second, .val (.long xc), .second, .val (.int (3 : Int32)), .val (.ref d118), .val (.ref d119), .val (.ref d121), .val (.ref b124), .unset, .unset, .unset, .unset] [])) (fun _ k => XS.astore X128.here hx rfl (hb hby at_32) rfl rfl (l' := #[.val (.int xs), .val (.int xn), .val (.long xa), .second, .val (.long xb), .second, .val (.long xc), .second, .val (.int (3 : Int32)), .val (.ref d118), .val (.ref d119), .val (.ref d121), .val (.ref b124), .unset, .unset, .unset, .unset]) rfl k) ?_
    refine own_go (T' := T128) (g' := (mkF m 36 #[.val (.int xs), .val (.int xn), .val (.long xa), .second, .val (.long xb), .second, .val (.long xc), .second, .val (.int (3 : Int32)), .val (.ref d118), .val (.ref d119), .val (.ref d121), .val (.ref b124), .unset, .unset, .unset, .unset] [(.int (3 : Int32))])) (fun _ k => XS.iload X128.here hx rfl (hb hby at_34) rfl k) ?_
    refine own_go (T' := T128) (g' := (mkF m 37 #[.val (.int xs), .val (.int xn), .val (.long xa), .second, .val (.long xb), .second, .val (.long xc), .second, .val (.int (3 : Int32)), .val (.ref d118), .val (.ref d119), .val (.ref d121), .val (.ref b124), .unset, .unset, .unset, .unset] [(.int (1 : Int32)), (.int (3 : Int32))])) (fun _ k => XS.iconst X128.here hx rfl (hb hby at_36) k) ?_
    refine own_go (T' := T128) (g' := (mkF m 40 #[.val (.int xs), .val (.int xn), .val (.long xa), .second, .val (.long xb), .second, .val (.long xc), .second, .val (.int (3 : Int32)), .val (.ref d118), .val (.ref d119), .val (.ref d121), .val (.ref b124), .unset, .unset, .unset, .unset] [])) (fun _ k => XS.icmpNo X128.here hx rfl (hb hby at_37) rfl (flt ((by decide) : ¬ ((3 : Int32) < (1 : Int32)))).1 k) ?_
    refine own_go (T' := T128) (g' := (mkF m 42 #[.val (.int xs), .val (.int xn), .val (.long xa), .second, .val (.long xb), .second, .val (.long xc), .second, .val (.int (3 : Int32)), .val (.ref d118), .val (.ref d119), .val (.ref d121), .val (.ref b124), .unset, .unset, .unset, .unset] [(.ref b124)])) (fun _ k => XS.aload X128.here hx rfl (hb hby at_40) rfl rfl k) ?_
    refine own_go (T' := T128) (g' := (mkF m 44 #[.val (.int xs), .val (.int xn), .val (.long xa), .second, .val (.long xb), .second, .val (.long xc), .second, .val (.int (3 : Int32)), .val (.ref d118), .val (.ref d119), .val (.ref d121), .val (.ref b124), .unset, .unset, .unset, .unset] [(.ref d118), (.ref b124)])) (fun _ k => XS.aload X128.here hx rfl (hb hby at_42) rfl rfl k) ?_
    obtain ⟨cq132, kq132, q132a, q132b, q132c⟩ := isOf hZ rfl Ec128
    obtain ⟨_, _, ⟨T132, L132, k132, n132⟩, -, X132, ⟨Lc132, hQ132, l132, y132, z132⟩, st132⟩ := X128.virtualBack hx (y := (⟨"java/util/ArrayList", "add", "(Ljava/lang/Object;)Z"⟩ : MethodName)) (z := (⟨"java/util/ArrayList", "add", "(Ljava/lang/Object;)Z"⟩ : MethodName)) hown (mvT hZ (hw _ (List.mem_of_getElem? (i := 105) rfl))) (mvT hZ (hw _ (List.mem_of_getElem? (i := 106) rfl))) (notFace_of_selects (args := #[]) (mvT hZ (hw _ (List.mem_of_getElem? (i := 108) rfl)))) (mvT hZ (hw _ (List.mem_of_getElem? (i := 108) rfl))) (mvT hZ (hw _ (List.mem_of_getElem? (i := 107) rfl))) (by decide) (backOf (W := 0) (own_rA0 l Z a0 hw [] b124 d118 (0 : Int32) xd kd T128.heap n0 Z128 Ec128 Fmc128 Fec128 Fsc128 gz_b124 (Sd.ext O128) (Ad.ext O128) Ek129) hZ (hw _ (List.mem_of_getElem? (i := 109) rfl)) (hw _ (List.mem_of_getElem? (i := 22) rfl)) (by decide) (by decide)) q132a q132c (g := (mkF m 44 #[.val (.int xs), .val (.int xn), .val (.long xa), .second, .val (.long xb), .second, .val (.long xc), .second, .val (.int (3 : Int32)), .val (.ref d118), .val (.ref d119), .val (.ref d121), .val (.ref b124), .unset, .unset, .unset, .unset] [(.ref d118), (.ref b124)])) rfl (by rw [hml]; rfl) (Steps.refl _) (argsL := [(.ref d118)]) (rest := []) (lenOf own_pd22 rfl) rfl (by show 2 * 0 + _ ≤ _; exact Nat.le_of_eq rfl) (hb hby at_44) (fun _ _ => ⟨rfl, rfl, (by decide : 4 + 1 ≤ _), (by decide : 9 + 10 ≤ _)⟩)
    dsimp only [Pt.U, Pt.locs, Pt.cells, Pt.slots] at X132 l132 y132 z132 st132 hQ132
    subst l132 y132 z132
    obtain ⟨rfl, N132q, Kc132, -, r132, ka132, hzr132, Ec132, Fmc132, Fec132, Fsc132, Vc132, Ov132, Er132⟩ := hQ132
    have N132 := Fr.app N128 N132q
    have ne_d118_r132 : d118 ≠ r132 := Nat.ne_of_lt (Nat.lt_of_lt_of_le Ek129.lt hzr132)
    have ne_d119_r132 : d119 ≠ r132 := Nat.ne_of_lt (Nat.lt_of_lt_of_le Ek130.lt hzr132)
    have ne_d121_r132 : d121 ≠ r132 := Nat.ne_of_lt (Nat.lt_of_lt_of_le Ek131.lt hzr132)
    have ne_b124_r132 : b124 ≠ r132 := Nat.ne_of_lt (Nat.lt_of_lt_of_le Ec128.lt hzr132)
    have gz_r132 : n0 ≤ r132 := Nat.le_trans Z128 hzr132
    have hz_r132 : h0.size ≤ r132 := Nat.le_trans K128.1 hzr132
    have Ek133 := Ek129.keep Kc132
    have Ek134 := Ek130.keep Kc132
    have Ek135 := Ek131.keep Kc132
    have Z132 : n0 ≤ T132.heap.size := Nat.le_trans Z128 Kc132.1
    have O132 : Ext h0 T132.heap := own_ext_keep O128 Kc132 (own_all1 hz_b124)
    have K132 : Keep h0 T132.heap [] := K128.trans Kc132 (own_or1 (Or.inr hz_b124))
    refine own_goT (T' := T132) (g' := (mkF m 47 #[.val (.int xs), .val (.int xn), .val (.long xa), .second, .val (.long xb), .second, .val (.long xc), .second, .val (.int (3 : Int32)), .val (.ref d118), .val (.ref d119), .val (.ref d121), .val (.ref b124), .unset, .unset, .unset, .unset] [(.int (1 : Int32))])) st132 ?_
    refine own_go (T' := T132) (g' := (mkF m 48 #[.val (.int xs), .val (.int xn), .val (.long xa), .second, .val (.long xb), .second, .val (.long xc), .second, .val (.int (3 : Int32)), .val (.ref d118), .val (.ref d119), .val (.ref d121), .val (.ref b124), .unset, .unset, .unset, .unset] [])) (fun _ k => XS.pop X132.here hx rfl (hb hby at_47) rfl rfl k) ?_
    refine own_go (T' := T132) (g' := (mkF m 50 #[.val (.int xs), .val (.int xn), .val (.long xa), .second, .val (.long xb), .second, .val (.long xc), .second, .val (.int (3 : Int32)), .val (.ref d118), .val (.ref d119), .val (.ref d121), .val (.ref b124), .unset, .unset, .unset, .unset] [(.int (3 : Int32))])) (fun _ k => XS.iload X132.here hx rfl (hb hby at_48) rfl k) ?_
    refine own_go (T' := T132) (g' := (mkF m 51 #[.val (.int xs), .val (.int xn), .val (.long xa), .second, .val (.long xb), .second, .val (.long xc), .second, .val (.int (3 : Int32)), .val (.ref d118), .val (.ref d119), .val (.ref d121), .val (.ref b124), .unset, .unset, .unset, .unset] [(.int (2 : Int32)), (.int (3 : Int32))])) (fun _ k => XS.iconst X132.here hx rfl (hb hby at_50) k) ?_
    refine own_go (T' := T132) (g' := (mkF m 54 #[.val (.int xs), .val (.int xn), .val (.long xa), .second, .val (.long xb), .second, .val (.long xc), .second, .val (.int (3 : Int32)), .val (.ref d118), .val (.ref d119), .val (.ref d121), .val (.ref b124), .unset, .unset, .unset, .unset] [])) (fun _ k => XS.icmpNo X132.here hx rfl (hb hby at_51) rfl (flt ((by decide) : ¬ ((3 : Int32) < (2 : Int32)))).1 k) ?_
    refine own_go (T' := T132) (g' := (mkF m 56 #[.val (.int xs), .val (.int xn), .val (.long xa), .second, .val (.long xb), .second, .val (.long xc), .second, .val (.int (3 : Int32)), .val (.ref d118), .val (.ref d119), .val (.ref d121), .val (.ref b124), .unset, .unset, .unset, .unset] [(.ref b124)])) (fun _ k => XS.aload X132.here hx rfl (hb hby at_54) rfl rfl k) ?_
    refine own_go (T' := T132) (g' := (mkF m 58 #[.val (.int xs), .val (.int xn), .val (.long xa), .second, .val (.long xb), .second, .val (.long xc), .second, .val (.int (3 : Int32)), .val (.ref d118), .val (.ref d119), .val (.ref d121), .val (.ref b124), .unset, .unset, .unset, .unset] [(.ref d119), (.ref b124)])) (fun _ k => XS.aload X132.here hx rfl (hb hby at_56) rfl rfl k) ?_
    obtain ⟨cq136, kq136, q136a, q136b, q136c⟩ := isOf hZ rfl Ec132
    obtain ⟨_, _, ⟨T136, L136, k136, n136⟩, -, X136, ⟨Lc136, hQ136, l136, y136, z136⟩, st136⟩ := X132.virtualBack hx (y := (⟨"java/util/ArrayList", "add", "(Ljava/lang/Object;)Z"⟩ : MethodName)) (z := (⟨"java/util/ArrayList", "add", "(Ljava/lang/Object;)Z"⟩ : MethodName)) hown (mvT hZ (hw _ (List.mem_of_getElem? (i := 105) rfl))) (mvT hZ (hw _ (List.mem_of_getElem? (i := 106) rfl))) (notFace_of_selects (args := #[]) (mvT hZ (hw _ (List.mem_of_getElem? (i := 108) rfl)))) (mvT hZ (hw _ (List.mem_of_getElem? (i := 108) rfl))) (mvT hZ (hw _ (List.mem_of_getElem? (i := 107) rfl))) (by decide) (backOf (W := 0) (own_rA1 l Z a0 hw [] b124 d119 ((0 : Int32) + (1 : Int32)) r132 ka132 d118 T132.heap n0 Z132 Ec132 Fmc132 Fec132 Fsc132 gz_b124 gz_r132 ne_b124_r132 Vc132 Ov132 Ek134) hZ (hw _ (List.mem_of_getElem? (i := 109) rfl)) (hw _ (List.mem_of_getElem? (i := 22) rfl)) (by decide) (by decide)) q136a q136c (g := (mkF m 58 #[.val (.int xs), .val (.int xn), .val (.long xa), .second, .val (.long xb), .second, .val (.long xc), .second, .val (.int (3 : Int32)), .val (.ref d118), .val (.ref d119), .val (.ref d121), .val (.ref b124), .unset, .unset, .unset, .unset] [(.ref d119), (.ref b124)])) rfl (by rw [hml]; rfl) (Steps.refl _) (argsL := [(.ref d119)]) (rest := []) (lenOf own_pd22 rfl) rfl (by show 2 * 0 + _ ≤ _; exact Nat.le_of_eq rfl) (hb hby at_58) (fun _ _ => ⟨rfl, rfl, (by decide : 5 + 0 ≤ _), (by decide : 19 + 0 ≤ _)⟩)
    dsimp only [Pt.U, Pt.locs, Pt.cells, Pt.slots] at X136 l136 y136 z136 st136 hQ136
    subst l136 y136 z136
    obtain ⟨rfl, N136q, Kc136, -, Ec136, Fmc136, Fec136, Fsc136, Vc136⟩ := hQ136
    have N136 := Fr.app N132 N136q
    have Ek137 := Ek133.keep Kc136
    have Ek138 := Ek134.keep Kc136
    have Ek139 := Ek135.keep Kc136
    have Ek140 := Er132.keep Kc136
    have Z136 : n0 ≤ T136.heap.size := Nat.le_trans Z132 Kc136.1
    have O136 : Ext h0 T136.heap := own_ext_keep O132 Kc136 (own_all2 hz_b124 hz_r132)
    have K136 : Keep h0 T136.heap [] := K132.trans Kc136 (own_or2 (Or.inr hz_b124) (Or.inr hz_r132))
    refine own_goT (T' := T136) (g' := (mkF m 61 #[.val (.int xs), .val (.int xn), .val (.long xa), .second, .val (.long xb), .second, .val (.long xc), .second, .val (.int (3 : Int32)), .val (.ref d118), .val (.ref d119), .val (.ref d121), .val (.ref b124), .unset, .unset, .unset, .unset] [(.int (1 : Int32))])) st136 ?_
    refine own_go (T' := T136) (g' := (mkF m 62 #[.val (.int xs), .val (.int xn), .val (.long xa), .second, .val (.long xb), .second, .val (.long xc), .second, .val (.int (3 : Int32)), .val (.ref d118), .val (.ref d119), .val (.ref d121), .val (.ref b124), .unset, .unset, .unset, .unset] [])) (fun _ k => XS.pop X136.here hx rfl (hb hby at_61) rfl rfl k) ?_
    refine own_go (T' := T136) (g' := (mkF m 64 #[.val (.int xs), .val (.int xn), .val (.long xa), .second, .val (.long xb), .second, .val (.long xc), .second, .val (.int (3 : Int32)), .val (.ref d118), .val (.ref d119), .val (.ref d121), .val (.ref b124), .unset, .unset, .unset, .unset] [(.int (3 : Int32))])) (fun _ k => XS.iload X136.here hx rfl (hb hby at_62) rfl k) ?_
    refine own_go (T' := T136) (g' := (mkF m 65 #[.val (.int xs), .val (.int xn), .val (.long xa), .second, .val (.long xb), .second, .val (.long xc), .second, .val (.int (3 : Int32)), .val (.ref d118), .val (.ref d119), .val (.ref d121), .val (.ref b124), .unset, .unset, .unset, .unset] [(.int (3 : Int32)), (.int (3 : Int32))])) (fun _ k => XS.iconst X136.here hx rfl (hb hby at_64) k) ?_
    refine own_go (T' := T136) (g' := (mkF m 68 #[.val (.int xs), .val (.int xn), .val (.long xa), .second, .val (.long xb), .second, .val (.long xc), .second, .val (.int (3 : Int32)), .val (.ref d118), .val (.ref d119), .val (.ref d121), .val (.ref b124), .unset, .unset, .unset, .unset] [])) (fun _ k => XS.icmpNo X136.here hx rfl (hb hby at_65) rfl (flt ((by decide) : ¬ ((3 : Int32) < (3 : Int32)))).1 k) ?_
    refine own_go (T' := T136) (g' := (mkF m 70 #[.val (.int xs), .val (.int xn), .val (.long xa), .second, .val (.long xb), .second, .val (.long xc), .second, .val (.int (3 : Int32)), .val (.ref d118), .val (.ref d119), .val (.ref d121), .val (.ref b124), .unset, .unset, .unset, .unset] [(.ref b124)])) (fun _ k => XS.aload X136.here hx rfl (hb hby at_68) rfl rfl k) ?_
    refine own_go (T' := T136) (g' := (mkF m 72 #[.val (.int xs), .val (.int xn), .val (.long xa), .second, .val (.long xb), .second, .val (.long xc), .second, .val (.int (3 : Int32)), .val (.ref d118), .val (.ref d119), .val (.ref d121), .val (.ref b124), .unset, .unset, .unset, .unset] [(.ref d121), (.ref b124)])) (fun _ k => XS.aload X136.here hx rfl (hb hby at_70) rfl rfl k) ?_
    obtain ⟨cq141, kq141, q141a, q141b, q141c⟩ := isOf hZ rfl Ec136
    obtain ⟨_, _, ⟨T141, L141, k141, n141⟩, -, X141, ⟨Lc141, hQ141, l141, y141, z141⟩, st141⟩ := X136.virtualBack hx (y := (⟨"java/util/ArrayList", "add", "(Ljava/lang/Object;)Z"⟩ : MethodName)) (z := (⟨"java/util/ArrayList", "add", "(Ljava/lang/Object;)Z"⟩ : MethodName)) hown (mvT hZ (hw _ (List.mem_of_getElem? (i := 105) rfl))) (mvT hZ (hw _ (List.mem_of_getElem? (i := 106) rfl))) (notFace_of_selects (args := #[]) (mvT hZ (hw _ (List.mem_of_getElem? (i := 108) rfl)))) (mvT hZ (hw _ (List.mem_of_getElem? (i := 108) rfl))) (mvT hZ (hw _ (List.mem_of_getElem? (i := 107) rfl))) (by decide) (backOf (W := 0) (own_rA2 l Z a0 hw [] b124 d121 (((0 : Int32) + (1 : Int32)) + (1 : Int32)) r132 ka132 d118 d119 T136.heap n0 Z136 Ec136 Fmc136 Fec136 Fsc136 gz_b124 gz_r132 ne_b124_r132 Vc136 Ov132 Ek139) hZ (hw _ (List.mem_of_getElem? (i := 109) rfl)) (hw _ (List.mem_of_getElem? (i := 22) rfl)) (by decide) (by decide)) q141a q141c (g := (mkF m 72 #[.val (.int xs), .val (.int xn), .val (.long xa), .second, .val (.long xb), .second, .val (.long xc), .second, .val (.int (3 : Int32)), .val (.ref d118), .val (.ref d119), .val (.ref d121), .val (.ref b124), .unset, .unset, .unset, .unset] [(.ref d121), (.ref b124)])) rfl (by rw [hml]; rfl) (Steps.refl _) (argsL := [(.ref d121)]) (rest := []) (lenOf own_pd22 rfl) rfl (by show 2 * 0 + _ ≤ _; exact Nat.le_of_eq rfl) (hb hby at_72) (fun _ _ => ⟨rfl, rfl, (by decide : 5 + 0 ≤ _), (by decide : 19 + 0 ≤ _)⟩)
    dsimp only [Pt.U, Pt.locs, Pt.cells, Pt.slots] at X141 l141 y141 z141 st141 hQ141
    subst l141 y141 z141
    obtain ⟨rfl, N141q, Kc141, -, Ec141, Fmc141, Fec141, Fsc141, Vc141⟩ := hQ141
    have N141 := Fr.app N136 N141q
    have Ek142 := Ek137.keep Kc141
    have Ek143 := Ek138.keep Kc141
    have Ek144 := Ek139.keep Kc141
    have Ek145 := Ek140.keep Kc141
    have Z141 : n0 ≤ T141.heap.size := Nat.le_trans Z136 Kc141.1
    have O141 : Ext h0 T141.heap := own_ext_keep O136 Kc141 (own_all2 hz_b124 hz_r132)
    have K141 : Keep h0 T141.heap [] := K136.trans Kc141 (own_or2 (Or.inr hz_b124) (Or.inr hz_r132))
    refine own_goT (T' := T141) (g' := (mkF m 75 #[.val (.int xs), .val (.int xn), .val (.long xa), .second, .val (.long xb), .second, .val (.long xc), .second, .val (.int (3 : Int32)), .val (.ref d118), .val (.ref d119), .val (.ref d121), .val (.ref b124), .unset, .unset, .unset, .unset] [(.int (1 : Int32))])) st141 ?_
    refine own_go (T' := T141) (g' := (mkF m 76 #[.val (.int xs), .val (.int xn), .val (.long xa), .second, .val (.long xb), .second, .val (.long xc), .second, .val (.int (3 : Int32)), .val (.ref d118), .val (.ref d119), .val (.ref d121), .val (.ref b124), .unset, .unset, .unset, .unset] [])) (fun _ k => XS.pop X141.here hx rfl (hb hby at_75) rfl rfl k) ?_
    obtain ⟨T146, h146, X146, e146, E146, A146, D146, -, st146⟩ := newO X141 hx hZ hown (hw _ (List.mem_of_getElem? (i := 44) rfl)) (hw _ (List.mem_of_getElem? (i := 45) rfl)) (hw _ (List.mem_of_getElem? (i := 46) rfl)) rfl (g := (mkF m 76 #[.val (.int xs), .val (.int xn), .val (.long xa), .second, .val (.long xb), .second, .val (.long xc), .second, .val (.int (3 : Int32)), .val (.ref d118), .val (.ref d119), .val (.ref d121), .val (.ref b124), .unset, .unset, .unset, .unset] [])) rfl (hb hby at_76) (by decide) (by decide)
    obtain ⟨b146, g146⟩ : ∃ z, z = T141.heap.size := ⟨_, rfl⟩
    rw [← g146] at A146 D146 st146
    have ne_d118_b146 : d118 ≠ b146 := Nat.ne_of_lt (Nat.lt_of_lt_of_le Ek142.lt (Nat.le_of_eq g146.symm))
    have ne_d119_b146 : d119 ≠ b146 := Nat.ne_of_lt (Nat.lt_of_lt_of_le Ek143.lt (Nat.le_of_eq g146.symm))
    have ne_d121_b146 : d121 ≠ b146 := Nat.ne_of_lt (Nat.lt_of_lt_of_le Ek144.lt (Nat.le_of_eq g146.symm))
    have ne_r132_b146 : r132 ≠ b146 := Nat.ne_of_lt (Nat.lt_of_lt_of_le Ek145.lt (Nat.le_of_eq g146.symm))
    have ne_b124_b146 : b124 ≠ b146 := Nat.ne_of_lt (Nat.lt_of_lt_of_le Ec141.lt (Nat.le_of_eq g146.symm))
    have gz_b146 : n0 ≤ b146 := Nat.le_trans Z141 (Nat.le_of_eq g146.symm)
    have hz_b146 : h0.size ≤ b146 := Nat.le_trans K141.1 (Nat.le_of_eq g146.symm)
    have Ek147 := Ek142.ext E146
    have Ek148 := Ek143.ext E146
    have Ek149 := Ek144.ext E146
    have Ek150 := Ek145.ext E146
    have Ek151 := Ec141.ext E146
    have Fk152 := Fmc141.ext E146
    have Fk153 := Fec141.ext E146
    have Fk154 := Fsc141.ext E146
    have Vk155 := Vc141.ext E146
    have Z146 : n0 ≤ h146.size := Nat.le_trans Z141 E146.1
    have O146 : Ext h0 h146 := own_ext_tr O141 E146
    have K146 : Keep h0 h146 [] := K141.ext E146
    have Fwaits_b146 : Fld Z h146 b146 "com/example/entrega/entrega/RetrySchedule" "waits" "Ljava/util/List;" .null := D146 (Or.inr (hw _ (List.mem_of_getElem? (i := 86) rfl))) (ty := (.object "java/util/List")) (by decide)
    refine own_go (T' := T146) (g' := (mkF m 79 #[.val (.int xs), .val (.int xn), .val (.long xa), .second, .val (.long xb), .second, .val (.long xc), .second, .val (.int (3 : Int32)), .val (.ref d118), .val (.ref d119), .val (.ref d121), .val (.ref b124), .unset, .unset, .unset, .unset] [(.ref b146)])) (fun _ k => st146 _ k) ?_
    refine own_go (T' := T146) (g' := (mkF m 80 #[.val (.int xs), .val (.int xn), .val (.long xa), .second, .val (.long xb), .second, .val (.long xc), .second, .val (.int (3 : Int32)), .val (.ref d118), .val (.ref d119), .val (.ref d121), .val (.ref b124), .unset, .unset, .unset, .unset] [(.ref b146), (.ref b146)])) (fun _ k => XS.dup X146.here hx rfl (hb hby at_79) rfl rfl k) ?_
    refine own_go (T' := T146) (g' := (mkF m 82 #[.val (.int xs), .val (.int xn), .val (.long xa), .second, .val (.long xb), .second, .val (.long xc), .second, .val (.int (3 : Int32)), .val (.ref d118), .val (.ref d119), .val (.ref d121), .val (.ref b124), .unset, .unset, .unset, .unset] [(.ref b124), (.ref b146), (.ref b146)])) (fun _ k => XS.aload X146.here hx rfl (hb hby at_80) rfl rfl k) ?_
    obtain ⟨_, _, ⟨T156, L156, k156, n156⟩, -, X156, ⟨Lc156, hQ156, l156, y156, z156⟩, st156⟩ := X146.specialBack hx (y := (⟨"com/example/entrega/entrega/RetrySchedule", "<init>", "(Ljava/util/List;)V"⟩ : MethodName)) rfl hown (mvT hZ (hw _ (List.mem_of_getElem? (i := 47) rfl))) (mvT hZ (hw _ (List.mem_of_getElem? (i := 48) rfl))) (mvT hZ (hw _ (List.mem_of_getElem? (i := 49) rfl))) (by decide) (backOf (W := 1) (own_rRs3 l Z a0 hw [] b146 b124 r132 ka132 xm d118 d119 d121 h146 n0 Z146 A146 Fwaits_b146 gz_b146 Ek151 Fk154 Fk153 Vk155 M Ek150 Ek147 Ek148 Ek149) hZ (hw _ (List.mem_of_getElem? (i := 49) rfl)) (hw _ (List.mem_of_getElem? (i := 46) rfl)) (by decide) (by decide)) (g := (mkF m 82 #[.val (.int xs), .val (.int xn), .val (.long xa), .second, .val (.long xb), .second, .val (.long xc), .second, .val (.int (3 : Int32)), .val (.ref d118), .val (.ref d119), .val (.ref d121), .val (.ref b124), .unset, .unset, .unset, .unset] [(.ref b124), (.ref b146), (.ref b146)])) rfl (by rw [hml]; rfl) (Steps.refl _) (a := b146) (argsL := [(.ref b124)]) (rest := [(.ref b146)]) (lenOf own_pd20 rfl) rfl (by show 2 * 0 + _ ≤ _; exact Nat.le_of_eq rfl) (hb hby at_82) (fun _ _ => ⟨rfl, e146, (by decide : 6 + 3 ≤ _), (by decide : 20 + 8 ≤ _)⟩)
    dsimp only [Pt.U, Pt.locs, Pt.cells, Pt.slots] at X156 l156 y156 z156 st156 hQ156
    subst l156 y156 z156
    obtain ⟨rfl, N156q, Kc156, -, Ec156, r156, ra156, kr156, hzr156, Fwc156, Elc156, F0c156, Vc156⟩ := hQ156
    have N156 := Fr.app N141 N156q
    have ne_d118_r156 : d118 ≠ r156 := Nat.ne_of_lt (Nat.lt_of_lt_of_le Ek147.lt hzr156)
    have ne_d119_r156 : d119 ≠ r156 := Nat.ne_of_lt (Nat.lt_of_lt_of_le Ek148.lt hzr156)
    have ne_d121_r156 : d121 ≠ r156 := Nat.ne_of_lt (Nat.lt_of_lt_of_le Ek149.lt hzr156)
    have ne_r132_r156 : r132 ≠ r156 := Nat.ne_of_lt (Nat.lt_of_lt_of_le Ek150.lt hzr156)
    have ne_b124_r156 : b124 ≠ r156 := Nat.ne_of_lt (Nat.lt_of_lt_of_le Ek151.lt hzr156)
    have ne_b146_r156 : b146 ≠ r156 := Nat.ne_of_lt (Nat.lt_of_lt_of_le A146.lt hzr156)
    have gz_r156 : n0 ≤ r156 := Nat.le_trans Z146 hzr156
    have hz_r156 : h0.size ≤ r156 := Nat.le_trans K146.1 hzr156
    have Ek157 := Ek147.keep Kc156
    have Ek158 := Ek148.keep Kc156
    have Ek159 := Ek149.keep Kc156
    have Ek160 := Ek150.keep Kc156
    have Ek161 := Ek151.keep Kc156
    have Fk162 := Fk152.keep Kc156 (own_one ne_b124_b146)
    have Fk163 := Fk153.keep Kc156 (own_one ne_b124_b146)
    have Fk164 := Fk154.keep Kc156 (own_one ne_b124_b146)
    have Vk165 := Vk155.keep Kc156 (own_one ne_r132_b146)
    have Z156 : n0 ≤ T156.heap.size := Nat.le_trans Z146 Kc156.1
    have O156 : Ext h0 T156.heap := own_ext_keep O146 Kc156 (own_all1 hz_b146)
    have K156 : Keep h0 T156.heap [] := K146.trans Kc156 (own_or1 (Or.inr hz_b146))
    refine own_goT (T' := T156) (g' := (mkF m 85 #[.val (.int xs), .val (.int xn), .val (.long xa), .second, .val (.long xb), .second, .val (.long xc), .second, .val (.int (3 : Int32)), .val (.ref d118), .val (.ref d119), .val (.ref d121), .val (.ref b124), .unset, .unset, .unset, .unset] [(.ref b146)])) st156 ?_
    refine own_go (T' := T156) (g' := (mkF m 87 #[.val (.int xs), .val (.int xn), .val (.long xa), .second, .val (.long xb), .second, .val (.long xc), .second, .val (.int (3 : Int32)), .val (.ref d118), .val (.ref d119), .val (.ref d121), .val (.ref b124), .val (.ref b146), .unset, .unset, .unset] [])) (fun _ k => XS.astore X156.here hx rfl (hb hby at_85) rfl rfl (l' := #[.val (.int xs), .val (.int xn), .val (.long xa), .second, .val (.long xb), .second, .val (.long xc), .second, .val (.int (3 : Int32)), .val (.ref d118), .val (.ref d119), .val (.ref d121), .val (.ref b124), .val (.ref b146), .unset, .unset, .unset]) rfl k) ?_
    refine own_go (T' := T156) (g' := (mkF m 88 #[.val (.int xs), .val (.int xn), .val (.long xa), .second, .val (.long xb), .second, .val (.long xc), .second, .val (.int (3 : Int32)), .val (.ref d118), .val (.ref d119), .val (.ref d121), .val (.ref b124), .val (.ref b146), .unset, .unset, .unset] [(.int (1 : Int32))])) (fun _ k => XS.iconst X156.here hx rfl (hb hby at_87) k) ?_
    refine own_go (T' := T156) (g' := (mkF m 89 #[.val (.int xs), .val (.int xn), .val (.long xa), .second, .val (.long xb), .second, .val (.long xc), .second, .val (.int (3 : Int32)), .val (.ref d118), .val (.ref d119), .val (.ref d121), .val (.ref b124), .val (.ref b146), .unset, .unset, .unset] [(.int xn), (.int (1 : Int32))])) (fun _ k => XS.iloadN X156.here hx rfl (hb hby at_88) rfl k) ?_
    refine own_go (T' := T156) (g' := (mkF m 91 #[.val (.int xs), .val (.int xn), .val (.long xa), .second, .val (.long xb), .second, .val (.long xc), .second, .val (.int (3 : Int32)), .val (.ref d118), .val (.ref d119), .val (.ref d121), .val (.ref b124), .val (.ref b146), .unset, .unset, .unset] [(.int (2147483647 : Int32)), (.int xn), (.int (1 : Int32))])) (fun _ k => X156.ldcInt hx hown (mvT hZ (hw _ (List.mem_of_getElem? (i := 87) rfl))) (g := (mkF m 89 #[.val (.int xs), .val (.int xn), .val (.long xa), .second, .val (.long xb), .second, .val (.long xc), .second, .val (.int (3 : Int32)), .val (.ref d118), .val (.ref d119), .val (.ref d121), .val (.ref b124), .val (.ref b146), .unset, .unset, .unset] [(.int xn), (.int (1 : Int32))])) rfl (hb hby at_89) _ k) ?_
    refine own_go (T' := T156) (g' := (mkF m 92 #[.val (.int xs), .val (.int xn), .val (.long xa), .second, .val (.long xb), .second, .val (.long xc), .second, .val (.int (3 : Int32)), .val (.ref d118), .val (.ref d119), .val (.ref d121), .val (.ref b124), .val (.ref b146), .unset, .unset, .unset] [(.int (xn &&& (2147483647 : Int32))), (.int (1 : Int32))])) (fun _ k => XS.iand X156.here hx rfl (hb hby at_91) rfl k) ?_
    refine own_go (T' := T156) (g' := (mkF m 94 #[.val (.int xs), .val (.int xn), .val (.long xa), .second, .val (.long xb), .second, .val (.long xc), .second, .val (.int (3 : Int32)), .val (.ref d118), .val (.ref d119), .val (.ref d121), .val (.ref b124), .val (.ref b146), .unset, .unset, .unset] [(.int (2147483647 : Int32)), (.int (xn &&& (2147483647 : Int32))), (.int (1 : Int32))])) (fun _ k => X156.ldcInt hx hown (mvT hZ (hw _ (List.mem_of_getElem? (i := 87) rfl))) (g := (mkF m 92 #[.val (.int xs), .val (.int xn), .val (.long xa), .second, .val (.long xb), .second, .val (.long xc), .second, .val (.int (3 : Int32)), .val (.ref d118), .val (.ref d119), .val (.ref d121), .val (.ref b124), .val (.ref b146), .unset, .unset, .unset] [(.int (xn &&& (2147483647 : Int32))), (.int (1 : Int32))])) rfl (hb hby at_92) _ k) ?_
    refine own_go (T' := T156) (g' := (mkF m 95 #[.val (.int xs), .val (.int xn), .val (.long xa), .second, .val (.long xb), .second, .val (.long xc), .second, .val (.int (3 : Int32)), .val (.ref d118), .val (.ref d119), .val (.ref d121), .val (.ref b124), .val (.ref b146), .unset, .unset, .unset] [(.int ((xn &&& (2147483647 : Int32)) % (2147483647 : Int32))), (.int (1 : Int32))])) (fun _ k => iremM X156 hx rfl (hb hby at_94) rfl (by decide) k) ?_
    refine own_go (T' := T156) (g' := (mkF m 96 #[.val (.int xs), .val (.int xn), .val (.long xa), .second, .val (.long xb), .second, .val (.long xc), .second, .val (.int (3 : Int32)), .val (.ref d118), .val (.ref d119), .val (.ref d121), .val (.ref b124), .val (.ref b146), .unset, .unset, .unset] [(.int ((1 : Int32) + ((xn &&& (2147483647 : Int32)) % (2147483647 : Int32))))])) (fun _ k => XS.iadd X156.here hx rfl (hb hby at_95) rfl k) ?_
    refine own_go (T' := T156) (g' := (mkF m 98 #[.val (.int xs), .val (.int xn), .val (.long xa), .second, .val (.long xb), .second, .val (.long xc), .second, .val (.int (3 : Int32)), .val (.ref d118), .val (.ref d119), .val (.ref d121), .val (.ref b124), .val (.ref b146), .val (.int ((1 : Int32) + ((xn &&& (2147483647 : Int32)) % (2147483647 : Int32)))), .unset, .unset] [])) (fun _ k => XS.istore X156.here hx rfl (hb hby at_96) rfl (l' := #[.val (.int xs), .val (.int xn), .val (.long xa), .second, .val (.long xb), .second, .val (.long xc), .second, .val (.int (3 : Int32)), .val (.ref d118), .val (.ref d119), .val (.ref d121), .val (.ref b124), .val (.ref b146), .val (.int ((1 : Int32) + ((xn &&& (2147483647 : Int32)) % (2147483647 : Int32)))), .unset, .unset]) rfl k) ?_
    rcases own_num3 xn with hnum | hnum | hnum | hnum
    · refine own_go (T' := T156) (g' := (mkF m 100 #[.val (.int xs), .val (.int xn), .val (.long xa), .second, .val (.long xb), .second, .val (.long xc), .second, .val (.int (3 : Int32)), .val (.ref d118), .val (.ref d119), .val (.ref d121), .val (.ref b124), .val (.ref b146), .val (.int ((1 : Int32) + ((xn &&& (2147483647 : Int32)) % (2147483647 : Int32)))), .unset, .unset] [(.ref b146)])) (fun _ k => XS.aload X156.here hx rfl (hb hby at_98) rfl rfl k) ?_
      refine own_go (T' := T156) (g' := (mkF m 102 #[.val (.int xs), .val (.int xn), .val (.long xa), .second, .val (.long xb), .second, .val (.long xc), .second, .val (.int (3 : Int32)), .val (.ref d118), .val (.ref d119), .val (.ref d121), .val (.ref b124), .val (.ref b146), .val (.int ((1 : Int32) + ((xn &&& (2147483647 : Int32)) % (2147483647 : Int32)))), .unset, .unset] [(.int ((1 : Int32) + ((xn &&& (2147483647 : Int32)) % (2147483647 : Int32)))), (.ref b146)])) (fun _ k => XS.iload X156.here hx rfl (hb hby at_100) rfl k) ?_
      obtain ⟨cq166, kq166, q166a, q166b, q166c⟩ := isOf hZ rfl Ec156
      obtain ⟨_, _, ⟨T166, L166, k166, n166⟩, -, X166, ⟨Lc166, hQ166, l166, y166, z166⟩, st166⟩ := X156.virtualBack hx (y := (⟨"com/example/entrega/entrega/RetrySchedule", "waitAfter", "(I)Ljava/time/Duration;"⟩ : MethodName)) (z := (⟨"com/example/entrega/entrega/RetrySchedule", "waitAfter", "(I)Ljava/time/Duration;"⟩ : MethodName)) hown (mvT hZ (hw _ (List.mem_of_getElem? (i := 88) rfl))) (mvT hZ (hw _ (List.mem_of_getElem? (i := 89) rfl))) (notFace_of_selects (args := #[]) (mvT hZ (hw _ (List.mem_of_getElem? (i := 91) rfl)))) (mvT hZ (hw _ (List.mem_of_getElem? (i := 91) rfl))) (mvT hZ (hw _ (List.mem_of_getElem? (i := 90) rfl))) (by decide) (backOf (W := 0) (own_rW3g l Z a0 hw [] b146 ((1 : Int32) + ((xn &&& (2147483647 : Int32)) % (2147483647 : Int32))) r156 ra156 kr156 d118 d119 d121 T156.heap n0 Z156 Fwc156 Elc156 F0c156 Vc156 Ek157 Ek158 Ek159 hnum) hZ (hw _ (List.mem_of_getElem? (i := 92) rfl)) (hw _ (List.mem_of_getElem? (i := 46) rfl)) (by decide) (by decide)) q166a q166c (g := (mkF m 102 #[.val (.int xs), .val (.int xn), .val (.long xa), .second, .val (.long xb), .second, .val (.long xc), .second, .val (.int (3 : Int32)), .val (.ref d118), .val (.ref d119), .val (.ref d121), .val (.ref b124), .val (.ref b146), .val (.int ((1 : Int32) + ((xn &&& (2147483647 : Int32)) % (2147483647 : Int32)))), .unset, .unset] [(.int ((1 : Int32) + ((xn &&& (2147483647 : Int32)) % (2147483647 : Int32)))), (.ref b146)])) rfl (by rw [hml]; rfl) (Steps.refl _) (argsL := [(.int ((1 : Int32) + ((xn &&& (2147483647 : Int32)) % (2147483647 : Int32))))]) (rest := []) (lenOf own_pd21 rfl) rfl (by show 2 * 0 + _ ≤ _; exact Nat.le_of_eq rfl) (hb hby at_102) (fun _ _ => ⟨rfl, rfl, (by decide : 9 + 0 ≤ _), (by decide : 28 + 0 ≤ _)⟩)
      dsimp only [Pt.U, Pt.locs, Pt.cells, Pt.slots] at X166 l166 y166 z166 st166 hQ166
      subst l166 y166 z166
      obtain ⟨rfl, N166q, e166⟩ := hQ166
      have N166 := Fr.app N156 N166q
      refine own_goT (T' := T166) (g' := (mkF m 105 #[.val (.int xs), .val (.int xn), .val (.long xa), .second, .val (.long xb), .second, .val (.long xc), .second, .val (.int (3 : Int32)), .val (.ref d118), .val (.ref d119), .val (.ref d121), .val (.ref b124), .val (.ref b146), .val (.int ((1 : Int32) + ((xn &&& (2147483647 : Int32)) % (2147483647 : Int32)))), .unset, .unset] [.null])) st166 ?_
      refine own_go (T' := T166) (g' := (mkF m 107 #[.val (.int xs), .val (.int xn), .val (.long xa), .second, .val (.long xb), .second, .val (.long xc), .second, .val (.int (3 : Int32)), .val (.ref d118), .val (.ref d119), .val (.ref d121), .val (.ref b124), .val (.ref b146), .val (.int ((1 : Int32) + ((xn &&& (2147483647 : Int32)) % (2147483647 : Int32)))), .val .null, .unset] [])) (fun _ k => XS.astore X166.here hx rfl (hb hby at_105) rfl rfl (l' := #[.val (.int xs), .val (.int xn), .val (.long xa), .second, .val (.long xb), .second, .val (.long xc), .second, .val (.int (3 : Int32)), .val (.ref d118), .val (.ref d119), .val (.ref d121), .val (.ref b124), .val (.ref b146), .val (.int ((1 : Int32) + ((xn &&& (2147483647 : Int32)) % (2147483647 : Int32)))), .val .null, .unset]) rfl k) ?_
      refine own_go (T' := T166) (g' := (mkF m 108 #[.val (.int xs), .val (.int xn), .val (.long xa), .second, .val (.long xb), .second, .val (.long xc), .second, .val (.int (3 : Int32)), .val (.ref d118), .val (.ref d119), .val (.ref d121), .val (.ref b124), .val (.ref b146), .val (.int ((1 : Int32) + ((xn &&& (2147483647 : Int32)) % (2147483647 : Int32)))), .val .null, .unset] [.null])) (fun _ k => XS.aconstNull X166.here hx rfl (hb hby at_107) k) ?_
      refine own_go (T' := T166) (g' := (mkF m 110 #[.val (.int xs), .val (.int xn), .val (.long xa), .second, .val (.long xb), .second, .val (.long xc), .second, .val (.int (3 : Int32)), .val (.ref d118), .val (.ref d119), .val (.ref d121), .val (.ref b124), .val (.ref b146), .val (.int ((1 : Int32) + ((xn &&& (2147483647 : Int32)) % (2147483647 : Int32)))), .val .null, .val .null] [])) (fun _ k => XS.astore X166.here hx rfl (hb hby at_108) rfl rfl (l' := #[.val (.int xs), .val (.int xn), .val (.long xa), .second, .val (.long xb), .second, .val (.long xc), .second, .val (.int (3 : Int32)), .val (.ref d118), .val (.ref d119), .val (.ref d121), .val (.ref b124), .val (.ref b146), .val (.int ((1 : Int32) + ((xn &&& (2147483647 : Int32)) % (2147483647 : Int32)))), .val .null, .val .null]) rfl k) ?_
      refine own_go (T' := T166) (g' := (mkF m 112 #[.val (.int xs), .val (.int xn), .val (.long xa), .second, .val (.long xb), .second, .val (.long xc), .second, .val (.int (3 : Int32)), .val (.ref d118), .val (.ref d119), .val (.ref d121), .val (.ref b124), .val (.ref b146), .val (.int ((1 : Int32) + ((xn &&& (2147483647 : Int32)) % (2147483647 : Int32)))), .val .null, .val .null] [(.int ((1 : Int32) + ((xn &&& (2147483647 : Int32)) % (2147483647 : Int32))))])) (fun _ k => XS.iload X166.here hx rfl (hb hby at_110) rfl k) ?_
      refine own_go (T' := T166) (g' := (mkF m 114 #[.val (.int xs), .val (.int xn), .val (.long xa), .second, .val (.long xb), .second, .val (.long xc), .second, .val (.int (3 : Int32)), .val (.ref d118), .val (.ref d119), .val (.ref d121), .val (.ref b124), .val (.ref b146), .val (.int ((1 : Int32) + ((xn &&& (2147483647 : Int32)) % (2147483647 : Int32)))), .val .null, .val .null] [(.int (3 : Int32)), (.int ((1 : Int32) + ((xn &&& (2147483647 : Int32)) % (2147483647 : Int32))))])) (fun _ k => XS.iload X166.here hx rfl (hb hby at_112) rfl k) ?_
      refine own_go (T' := T166) (g' := (mkF m 147 #[.val (.int xs), .val (.int xn), .val (.long xa), .second, .val (.long xb), .second, .val (.long xc), .second, .val (.int (3 : Int32)), .val (.ref d118), .val (.ref d119), .val (.ref d121), .val (.ref b124), .val (.ref b146), .val (.int ((1 : Int32) + ((xn &&& (2147483647 : Int32)) % (2147483647 : Int32)))), .val .null, .val .null] [])) (fun _ k => XS.icmpYes X166.here hx rfl (pc0 := 114) (pc' := 147) rfl (hb hby at_114) rfl (tlt (hnum : (3 : Int32) < ((1 : Int32) + ((xn &&& (2147483647 : Int32)) % (2147483647 : Int32))))).2.2.1 (by decide) (by decide) k) ?_
      refine own_go (T' := T166) (g' := (mkF m 149 #[.val (.int xs), .val (.int xn), .val (.long xa), .second, .val (.long xb), .second, .val (.long xc), .second, .val (.int (3 : Int32)), .val (.ref d118), .val (.ref d119), .val (.ref d121), .val (.ref b124), .val (.ref b146), .val (.int ((1 : Int32) + ((xn &&& (2147483647 : Int32)) % (2147483647 : Int32)))), .val .null, .val .null] [.null])) (fun _ k => XS.aload X166.here hx rfl (hb hby at_147) rfl rfl k) ?_
      refine own_go (T' := T166) (g' := (mkF m 151 #[.val (.int xs), .val (.int xn), .val (.long xa), .second, .val (.long xb), .second, .val (.long xc), .second, .val (.int (3 : Int32)), .val (.ref d118), .val (.ref d119), .val (.ref d121), .val (.ref b124), .val (.ref b146), .val (.int ((1 : Int32) + ((xn &&& (2147483647 : Int32)) % (2147483647 : Int32)))), .val .null, .val .null] [.null, .null])) (fun _ k => XS.aload X166.here hx rfl (hb hby at_149) rfl rfl k) ?_
      refine own_go (T' := T166) (g' := (mkF m 154 #[.val (.int xs), .val (.int xn), .val (.long xa), .second, .val (.long xb), .second, .val (.long xc), .second, .val (.int (3 : Int32)), .val (.ref d118), .val (.ref d119), .val (.ref d121), .val (.ref b124), .val (.ref b146), .val (.int ((1 : Int32) + ((xn &&& (2147483647 : Int32)) % (2147483647 : Int32)))), .val .null, .val .null] [])) (fun _ k => Jvm.RoadKit.acmp (g := (mkF m 151 #[.val (.int xs), .val (.int xn), .val (.long xa), .second, .val (.long xb), .second, .val (.long xc), .second, .val (.int (3 : Int32)), .val (.ref d118), .val (.ref d119), .val (.ref d121), .val (.ref b124), .val (.ref b146), .val (.int ((1 : Int32) + ((xn &&& (2147483647 : Int32)) % (2147483647 : Int32)))), .val .null, .val .null] [.null, .null])) X166 hx rfl rfl rfl (pc0 := 151) (pc' := 154) (same := true) rfl (hb hby at_151) rfl (decide_eq_true rfl) (by decide) (by decide) k) ?_
      refine own_go (T' := T166) (g' := (mkF m 155 #[.val (.int xs), .val (.int xn), .val (.long xa), .second, .val (.long xb), .second, .val (.long xc), .second, .val (.int (3 : Int32)), .val (.ref d118), .val (.ref d119), .val (.ref d121), .val (.ref b124), .val (.ref b146), .val (.int ((1 : Int32) + ((xn &&& (2147483647 : Int32)) % (2147483647 : Int32)))), .val .null, .val .null] [(.int (1 : Int32))])) (fun _ k => XS.iconst X166.here hx rfl (hb hby at_154) k) ?_
      refine own_go (T' := T166) (g' := (mkF m 159 #[.val (.int xs), .val (.int xn), .val (.long xa), .second, .val (.long xb), .second, .val (.long xc), .second, .val (.int (3 : Int32)), .val (.ref d118), .val (.ref d119), .val (.ref d121), .val (.ref b124), .val (.ref b146), .val (.int ((1 : Int32) + ((xn &&& (2147483647 : Int32)) % (2147483647 : Int32)))), .val .null, .val .null] [(.int (1 : Int32))])) (fun _ k => XS.goto X166.here hx rfl (pc0 := 155) (pc' := 159) rfl (hb hby at_155) (by decide) (by decide) k) ?_
      obtain ⟨fs, hr, hrun, hended, hW, hsame⟩ := X166.leave (v := some (.int (1 : Int32))) (fun h => by rw [Bd.returns] at h; cases h)
      refine own_end (retN X166 hx (t := .boolean) Bd.returns (by simp) (hb hby at_159) hr) hrun hended ⟨_, _, rfl, (?_ : own_QL Z xs xn xa xb xc xz xd kd xE xee kee xq xm h0 n0 _ T166.heap _), ⟨_, rfl⟩, hW, hsame.mono (by decide) (by decide)⟩
      rw [e166]
      exact ⟨rfl, N166⟩
    · rw [hnum]
      refine own_go (T' := T156) (g' := (mkF m 100 #[.val (.int xs), .val (.int xn), .val (.long xa), .second, .val (.long xb), .second, .val (.long xc), .second, .val (.int (3 : Int32)), .val (.ref d118), .val (.ref d119), .val (.ref d121), .val (.ref b124), .val (.ref b146), .val (.int (1 : Int32)), .unset, .unset] [(.ref b146)])) (fun _ k => XS.aload X156.here hx rfl (hb hby at_98) rfl rfl k) ?_
      refine own_go (T' := T156) (g' := (mkF m 102 #[.val (.int xs), .val (.int xn), .val (.long xa), .second, .val (.long xb), .second, .val (.long xc), .second, .val (.int (3 : Int32)), .val (.ref d118), .val (.ref d119), .val (.ref d121), .val (.ref b124), .val (.ref b146), .val (.int (1 : Int32)), .unset, .unset] [(.int (1 : Int32)), (.ref b146)])) (fun _ k => XS.iload X156.here hx rfl (hb hby at_100) rfl k) ?_
      obtain ⟨cq167, kq167, q167a, q167b, q167c⟩ := isOf hZ rfl Ec156
      obtain ⟨_, _, ⟨T167, L167, k167, n167⟩, -, X167, ⟨Lc167, hQ167, l167, y167, z167⟩, st167⟩ := X156.virtualBack hx (y := (⟨"com/example/entrega/entrega/RetrySchedule", "waitAfter", "(I)Ljava/time/Duration;"⟩ : MethodName)) (z := (⟨"com/example/entrega/entrega/RetrySchedule", "waitAfter", "(I)Ljava/time/Duration;"⟩ : MethodName)) hown (mvT hZ (hw _ (List.mem_of_getElem? (i := 88) rfl))) (mvT hZ (hw _ (List.mem_of_getElem? (i := 89) rfl))) (notFace_of_selects (args := #[]) (mvT hZ (hw _ (List.mem_of_getElem? (i := 91) rfl)))) (mvT hZ (hw _ (List.mem_of_getElem? (i := 91) rfl))) (mvT hZ (hw _ (List.mem_of_getElem? (i := 90) rfl))) (by decide) (backOf (W := 0) (own_rW31 l Z a0 hw [] b146 r156 ra156 kr156 d118 d119 d121 T156.heap n0 Z156 Fwc156 Elc156 F0c156 Vc156 Ek157 Ek158 Ek159) hZ (hw _ (List.mem_of_getElem? (i := 92) rfl)) (hw _ (List.mem_of_getElem? (i := 46) rfl)) (by decide) (by decide)) q167a q167c (g := (mkF m 102 #[.val (.int xs), .val (.int xn), .val (.long xa), .second, .val (.long xb), .second, .val (.long xc), .second, .val (.int (3 : Int32)), .val (.ref d118), .val (.ref d119), .val (.ref d121), .val (.ref b124), .val (.ref b146), .val (.int (1 : Int32)), .unset, .unset] [(.int (1 : Int32)), (.ref b146)])) rfl (by rw [hml]; rfl) (Steps.refl _) (argsL := [(.int (1 : Int32))]) (rest := []) (lenOf own_pd21 rfl) rfl (by show 2 * 0 + _ ≤ _; exact Nat.le_of_eq rfl) (hb hby at_102) (fun _ _ => ⟨rfl, rfl, (by decide : 9 + 0 ≤ _), (by decide : 28 + 0 ≤ _)⟩)
      dsimp only [Pt.U, Pt.locs, Pt.cells, Pt.slots] at X167 l167 y167 z167 st167 hQ167
      subst l167 y167 z167
      obtain ⟨rfl, N167q, e167⟩ := hQ167
      have N167 := Fr.app N156 N167q
      refine own_goT (T' := T167) (g' := (mkF m 105 #[.val (.int xs), .val (.int xn), .val (.long xa), .second, .val (.long xb), .second, .val (.long xc), .second, .val (.int (3 : Int32)), .val (.ref d118), .val (.ref d119), .val (.ref d121), .val (.ref b124), .val (.ref b146), .val (.int (1 : Int32)), .unset, .unset] [(.ref d118)])) st167 ?_
      refine own_go (T' := T167) (g' := (mkF m 107 #[.val (.int xs), .val (.int xn), .val (.long xa), .second, .val (.long xb), .second, .val (.long xc), .second, .val (.int (3 : Int32)), .val (.ref d118), .val (.ref d119), .val (.ref d121), .val (.ref b124), .val (.ref b146), .val (.int (1 : Int32)), .val (.ref d118), .unset] [])) (fun _ k => XS.astore X167.here hx rfl (hb hby at_105) rfl rfl (l' := #[.val (.int xs), .val (.int xn), .val (.long xa), .second, .val (.long xb), .second, .val (.long xc), .second, .val (.int (3 : Int32)), .val (.ref d118), .val (.ref d119), .val (.ref d121), .val (.ref b124), .val (.ref b146), .val (.int (1 : Int32)), .val (.ref d118), .unset]) rfl k) ?_
      refine own_go (T' := T167) (g' := (mkF m 108 #[.val (.int xs), .val (.int xn), .val (.long xa), .second, .val (.long xb), .second, .val (.long xc), .second, .val (.int (3 : Int32)), .val (.ref d118), .val (.ref d119), .val (.ref d121), .val (.ref b124), .val (.ref b146), .val (.int (1 : Int32)), .val (.ref d118), .unset] [.null])) (fun _ k => XS.aconstNull X167.here hx rfl (hb hby at_107) k) ?_
      refine own_go (T' := T167) (g' := (mkF m 110 #[.val (.int xs), .val (.int xn), .val (.long xa), .second, .val (.long xb), .second, .val (.long xc), .second, .val (.int (3 : Int32)), .val (.ref d118), .val (.ref d119), .val (.ref d121), .val (.ref b124), .val (.ref b146), .val (.int (1 : Int32)), .val (.ref d118), .val .null] [])) (fun _ k => XS.astore X167.here hx rfl (hb hby at_108) rfl rfl (l' := #[.val (.int xs), .val (.int xn), .val (.long xa), .second, .val (.long xb), .second, .val (.long xc), .second, .val (.int (3 : Int32)), .val (.ref d118), .val (.ref d119), .val (.ref d121), .val (.ref b124), .val (.ref b146), .val (.int (1 : Int32)), .val (.ref d118), .val .null]) rfl k) ?_
      refine own_go (T' := T167) (g' := (mkF m 112 #[.val (.int xs), .val (.int xn), .val (.long xa), .second, .val (.long xb), .second, .val (.long xc), .second, .val (.int (3 : Int32)), .val (.ref d118), .val (.ref d119), .val (.ref d121), .val (.ref b124), .val (.ref b146), .val (.int (1 : Int32)), .val (.ref d118), .val .null] [(.int (1 : Int32))])) (fun _ k => XS.iload X167.here hx rfl (hb hby at_110) rfl k) ?_
      refine own_go (T' := T167) (g' := (mkF m 114 #[.val (.int xs), .val (.int xn), .val (.long xa), .second, .val (.long xb), .second, .val (.long xc), .second, .val (.int (3 : Int32)), .val (.ref d118), .val (.ref d119), .val (.ref d121), .val (.ref b124), .val (.ref b146), .val (.int (1 : Int32)), .val (.ref d118), .val .null] [(.int (3 : Int32)), (.int (1 : Int32))])) (fun _ k => XS.iload X167.here hx rfl (hb hby at_112) rfl k) ?_
      refine own_go (T' := T167) (g' := (mkF m 117 #[.val (.int xs), .val (.int xn), .val (.long xa), .second, .val (.long xb), .second, .val (.long xc), .second, .val (.int (3 : Int32)), .val (.ref d118), .val (.ref d119), .val (.ref d121), .val (.ref b124), .val (.ref b146), .val (.int (1 : Int32)), .val (.ref d118), .val .null] [])) (fun _ k => XS.icmpNo X167.here hx rfl (hb hby at_114) rfl (flt ((by decide) : ¬ ((3 : Int32) < (1 : Int32)))).2.2.1 k) ?_
      refine own_go (T' := T167) (g' := (mkF m 119 #[.val (.int xs), .val (.int xn), .val (.long xa), .second, .val (.long xb), .second, .val (.long xc), .second, .val (.int (3 : Int32)), .val (.ref d118), .val (.ref d119), .val (.ref d121), .val (.ref b124), .val (.ref b146), .val (.int (1 : Int32)), .val (.ref d118), .val .null] [(.int (1 : Int32))])) (fun _ k => XS.iload X167.here hx rfl (hb hby at_117) rfl k) ?_
      refine own_go (T' := T167) (g' := (mkF m 120 #[.val (.int xs), .val (.int xn), .val (.long xa), .second, .val (.long xb), .second, .val (.long xc), .second, .val (.int (3 : Int32)), .val (.ref d118), .val (.ref d119), .val (.ref d121), .val (.ref b124), .val (.ref b146), .val (.int (1 : Int32)), .val (.ref d118), .val .null] [(.int (1 : Int32)), (.int (1 : Int32))])) (fun _ k => XS.iconst X167.here hx rfl (hb hby at_119) k) ?_
      refine own_go (T' := T167) (g' := (mkF m 123 #[.val (.int xs), .val (.int xn), .val (.long xa), .second, .val (.long xb), .second, .val (.long xc), .second, .val (.int (3 : Int32)), .val (.ref d118), .val (.ref d119), .val (.ref d121), .val (.ref b124), .val (.ref b146), .val (.int (1 : Int32)), .val (.ref d118), .val .null] [])) (fun _ k => XS.icmpNo X167.here hx rfl (hb hby at_120) rfl (teq ((by decide) : (1 : Int32) = (1 : Int32))).2 k) ?_
      refine own_go (T' := T167) (g' := (mkF m 125 #[.val (.int xs), .val (.int xn), .val (.long xa), .second, .val (.long xb), .second, .val (.long xc), .second, .val (.int (3 : Int32)), .val (.ref d118), .val (.ref d119), .val (.ref d121), .val (.ref b124), .val (.ref b146), .val (.int (1 : Int32)), .val (.ref d118), .val .null] [(.ref d118)])) (fun _ k => XS.aload X167.here hx rfl (hb hby at_123) rfl rfl k) ?_
      refine own_go (T' := T167) (g' := (mkF m 127 #[.val (.int xs), .val (.int xn), .val (.long xa), .second, .val (.long xb), .second, .val (.long xc), .second, .val (.int (3 : Int32)), .val (.ref d118), .val (.ref d119), .val (.ref d121), .val (.ref b124), .val (.ref b146), .val (.int (1 : Int32)), .val (.ref d118), .val (.ref d118)] [])) (fun _ k => XS.astore X167.here hx rfl (hb hby at_125) rfl rfl (l' := #[.val (.int xs), .val (.int xn), .val (.long xa), .second, .val (.long xb), .second, .val (.long xc), .second, .val (.int (3 : Int32)), .val (.ref d118), .val (.ref d119), .val (.ref d121), .val (.ref b124), .val (.ref b146), .val (.int (1 : Int32)), .val (.ref d118), .val (.ref d118)]) rfl k) ?_
      refine own_go (T' := T167) (g' := (mkF m 147 #[.val (.int xs), .val (.int xn), .val (.long xa), .second, .val (.long xb), .second, .val (.long xc), .second, .val (.int (3 : Int32)), .val (.ref d118), .val (.ref d119), .val (.ref d121), .val (.ref b124), .val (.ref b146), .val (.int (1 : Int32)), .val (.ref d118), .val (.ref d118)] [])) (fun _ k => XS.goto X167.here hx rfl (pc0 := 127) (pc' := 147) rfl (hb hby at_127) (by decide) (by decide) k) ?_
      refine own_go (T' := T167) (g' := (mkF m 149 #[.val (.int xs), .val (.int xn), .val (.long xa), .second, .val (.long xb), .second, .val (.long xc), .second, .val (.int (3 : Int32)), .val (.ref d118), .val (.ref d119), .val (.ref d121), .val (.ref b124), .val (.ref b146), .val (.int (1 : Int32)), .val (.ref d118), .val (.ref d118)] [(.ref d118)])) (fun _ k => XS.aload X167.here hx rfl (hb hby at_147) rfl rfl k) ?_
      refine own_go (T' := T167) (g' := (mkF m 151 #[.val (.int xs), .val (.int xn), .val (.long xa), .second, .val (.long xb), .second, .val (.long xc), .second, .val (.int (3 : Int32)), .val (.ref d118), .val (.ref d119), .val (.ref d121), .val (.ref b124), .val (.ref b146), .val (.int (1 : Int32)), .val (.ref d118), .val (.ref d118)] [(.ref d118), (.ref d118)])) (fun _ k => XS.aload X167.here hx rfl (hb hby at_149) rfl rfl k) ?_
      refine own_go (T' := T167) (g' := (mkF m 154 #[.val (.int xs), .val (.int xn), .val (.long xa), .second, .val (.long xb), .second, .val (.long xc), .second, .val (.int (3 : Int32)), .val (.ref d118), .val (.ref d119), .val (.ref d121), .val (.ref b124), .val (.ref b146), .val (.int (1 : Int32)), .val (.ref d118), .val (.ref d118)] [])) (fun _ k => Jvm.RoadKit.acmp (g := (mkF m 151 #[.val (.int xs), .val (.int xn), .val (.long xa), .second, .val (.long xb), .second, .val (.long xc), .second, .val (.int (3 : Int32)), .val (.ref d118), .val (.ref d119), .val (.ref d121), .val (.ref b124), .val (.ref b146), .val (.int (1 : Int32)), .val (.ref d118), .val (.ref d118)] [(.ref d118), (.ref d118)])) X167 hx rfl rfl rfl (pc0 := 151) (pc' := 154) (same := true) rfl (hb hby at_151) rfl (decide_eq_true rfl) (by decide) (by decide) k) ?_
      refine own_go (T' := T167) (g' := (mkF m 155 #[.val (.int xs), .val (.int xn), .val (.long xa), .second, .val (.long xb), .second, .val (.long xc), .second, .val (.int (3 : Int32)), .val (.ref d118), .val (.ref d119), .val (.ref d121), .val (.ref b124), .val (.ref b146), .val (.int (1 : Int32)), .val (.ref d118), .val (.ref d118)] [(.int (1 : Int32))])) (fun _ k => XS.iconst X167.here hx rfl (hb hby at_154) k) ?_
      refine own_go (T' := T167) (g' := (mkF m 159 #[.val (.int xs), .val (.int xn), .val (.long xa), .second, .val (.long xb), .second, .val (.long xc), .second, .val (.int (3 : Int32)), .val (.ref d118), .val (.ref d119), .val (.ref d121), .val (.ref b124), .val (.ref b146), .val (.int (1 : Int32)), .val (.ref d118), .val (.ref d118)] [(.int (1 : Int32))])) (fun _ k => XS.goto X167.here hx rfl (pc0 := 155) (pc' := 159) rfl (hb hby at_155) (by decide) (by decide) k) ?_
      obtain ⟨fs, hr, hrun, hended, hW, hsame⟩ := X167.leave (v := some (.int (1 : Int32))) (fun h => by rw [Bd.returns] at h; cases h)
      refine own_end (retN X167 hx (t := .boolean) Bd.returns (by simp) (hb hby at_159) hr) hrun hended ⟨_, _, rfl, (?_ : own_QL Z xs xn xa xb xc xz xd kd xE xee kee xq xm h0 n0 _ T167.heap _), ⟨_, rfl⟩, hW, hsame.mono (by decide) (by decide)⟩
      rw [e167]
      exact ⟨rfl, N167⟩
    · rw [hnum]
      refine own_go (T' := T156) (g' := (mkF m 100 #[.val (.int xs), .val (.int xn), .val (.long xa), .second, .val (.long xb), .second, .val (.long xc), .second, .val (.int (3 : Int32)), .val (.ref d118), .val (.ref d119), .val (.ref d121), .val (.ref b124), .val (.ref b146), .val (.int (2 : Int32)), .unset, .unset] [(.ref b146)])) (fun _ k => XS.aload X156.here hx rfl (hb hby at_98) rfl rfl k) ?_
      refine own_go (T' := T156) (g' := (mkF m 102 #[.val (.int xs), .val (.int xn), .val (.long xa), .second, .val (.long xb), .second, .val (.long xc), .second, .val (.int (3 : Int32)), .val (.ref d118), .val (.ref d119), .val (.ref d121), .val (.ref b124), .val (.ref b146), .val (.int (2 : Int32)), .unset, .unset] [(.int (2 : Int32)), (.ref b146)])) (fun _ k => XS.iload X156.here hx rfl (hb hby at_100) rfl k) ?_
      obtain ⟨cq168, kq168, q168a, q168b, q168c⟩ := isOf hZ rfl Ec156
      obtain ⟨_, _, ⟨T168, L168, k168, n168⟩, -, X168, ⟨Lc168, hQ168, l168, y168, z168⟩, st168⟩ := X156.virtualBack hx (y := (⟨"com/example/entrega/entrega/RetrySchedule", "waitAfter", "(I)Ljava/time/Duration;"⟩ : MethodName)) (z := (⟨"com/example/entrega/entrega/RetrySchedule", "waitAfter", "(I)Ljava/time/Duration;"⟩ : MethodName)) hown (mvT hZ (hw _ (List.mem_of_getElem? (i := 88) rfl))) (mvT hZ (hw _ (List.mem_of_getElem? (i := 89) rfl))) (notFace_of_selects (args := #[]) (mvT hZ (hw _ (List.mem_of_getElem? (i := 91) rfl)))) (mvT hZ (hw _ (List.mem_of_getElem? (i := 91) rfl))) (mvT hZ (hw _ (List.mem_of_getElem? (i := 90) rfl))) (by decide) (backOf (W := 0) (own_rW32 l Z a0 hw [] b146 r156 ra156 kr156 d118 d119 d121 T156.heap n0 Z156 Fwc156 Elc156 F0c156 Vc156 Ek157 Ek158 Ek159) hZ (hw _ (List.mem_of_getElem? (i := 92) rfl)) (hw _ (List.mem_of_getElem? (i := 46) rfl)) (by decide) (by decide)) q168a q168c (g := (mkF m 102 #[.val (.int xs), .val (.int xn), .val (.long xa), .second, .val (.long xb), .second, .val (.long xc), .second, .val (.int (3 : Int32)), .val (.ref d118), .val (.ref d119), .val (.ref d121), .val (.ref b124), .val (.ref b146), .val (.int (2 : Int32)), .unset, .unset] [(.int (2 : Int32)), (.ref b146)])) rfl (by rw [hml]; rfl) (Steps.refl _) (argsL := [(.int (2 : Int32))]) (rest := []) (lenOf own_pd21 rfl) rfl (by show 2 * 0 + _ ≤ _; exact Nat.le_of_eq rfl) (hb hby at_102) (fun _ _ => ⟨rfl, rfl, (by decide : 9 + 0 ≤ _), (by decide : 28 + 0 ≤ _)⟩)
      dsimp only [Pt.U, Pt.locs, Pt.cells, Pt.slots] at X168 l168 y168 z168 st168 hQ168
      subst l168 y168 z168
      obtain ⟨rfl, N168q, e168⟩ := hQ168
      have N168 := Fr.app N156 N168q
      refine own_goT (T' := T168) (g' := (mkF m 105 #[.val (.int xs), .val (.int xn), .val (.long xa), .second, .val (.long xb), .second, .val (.long xc), .second, .val (.int (3 : Int32)), .val (.ref d118), .val (.ref d119), .val (.ref d121), .val (.ref b124), .val (.ref b146), .val (.int (2 : Int32)), .unset, .unset] [(.ref d119)])) st168 ?_
      refine own_go (T' := T168) (g' := (mkF m 107 #[.val (.int xs), .val (.int xn), .val (.long xa), .second, .val (.long xb), .second, .val (.long xc), .second, .val (.int (3 : Int32)), .val (.ref d118), .val (.ref d119), .val (.ref d121), .val (.ref b124), .val (.ref b146), .val (.int (2 : Int32)), .val (.ref d119), .unset] [])) (fun _ k => XS.astore X168.here hx rfl (hb hby at_105) rfl rfl (l' := #[.val (.int xs), .val (.int xn), .val (.long xa), .second, .val (.long xb), .second, .val (.long xc), .second, .val (.int (3 : Int32)), .val (.ref d118), .val (.ref d119), .val (.ref d121), .val (.ref b124), .val (.ref b146), .val (.int (2 : Int32)), .val (.ref d119), .unset]) rfl k) ?_
      refine own_go (T' := T168) (g' := (mkF m 108 #[.val (.int xs), .val (.int xn), .val (.long xa), .second, .val (.long xb), .second, .val (.long xc), .second, .val (.int (3 : Int32)), .val (.ref d118), .val (.ref d119), .val (.ref d121), .val (.ref b124), .val (.ref b146), .val (.int (2 : Int32)), .val (.ref d119), .unset] [.null])) (fun _ k => XS.aconstNull X168.here hx rfl (hb hby at_107) k) ?_
      refine own_go (T' := T168) (g' := (mkF m 110 #[.val (.int xs), .val (.int xn), .val (.long xa), .second, .val (.long xb), .second, .val (.long xc), .second, .val (.int (3 : Int32)), .val (.ref d118), .val (.ref d119), .val (.ref d121), .val (.ref b124), .val (.ref b146), .val (.int (2 : Int32)), .val (.ref d119), .val .null] [])) (fun _ k => XS.astore X168.here hx rfl (hb hby at_108) rfl rfl (l' := #[.val (.int xs), .val (.int xn), .val (.long xa), .second, .val (.long xb), .second, .val (.long xc), .second, .val (.int (3 : Int32)), .val (.ref d118), .val (.ref d119), .val (.ref d121), .val (.ref b124), .val (.ref b146), .val (.int (2 : Int32)), .val (.ref d119), .val .null]) rfl k) ?_
      refine own_go (T' := T168) (g' := (mkF m 112 #[.val (.int xs), .val (.int xn), .val (.long xa), .second, .val (.long xb), .second, .val (.long xc), .second, .val (.int (3 : Int32)), .val (.ref d118), .val (.ref d119), .val (.ref d121), .val (.ref b124), .val (.ref b146), .val (.int (2 : Int32)), .val (.ref d119), .val .null] [(.int (2 : Int32))])) (fun _ k => XS.iload X168.here hx rfl (hb hby at_110) rfl k) ?_
      refine own_go (T' := T168) (g' := (mkF m 114 #[.val (.int xs), .val (.int xn), .val (.long xa), .second, .val (.long xb), .second, .val (.long xc), .second, .val (.int (3 : Int32)), .val (.ref d118), .val (.ref d119), .val (.ref d121), .val (.ref b124), .val (.ref b146), .val (.int (2 : Int32)), .val (.ref d119), .val .null] [(.int (3 : Int32)), (.int (2 : Int32))])) (fun _ k => XS.iload X168.here hx rfl (hb hby at_112) rfl k) ?_
      refine own_go (T' := T168) (g' := (mkF m 117 #[.val (.int xs), .val (.int xn), .val (.long xa), .second, .val (.long xb), .second, .val (.long xc), .second, .val (.int (3 : Int32)), .val (.ref d118), .val (.ref d119), .val (.ref d121), .val (.ref b124), .val (.ref b146), .val (.int (2 : Int32)), .val (.ref d119), .val .null] [])) (fun _ k => XS.icmpNo X168.here hx rfl (hb hby at_114) rfl (flt ((by decide) : ¬ ((3 : Int32) < (2 : Int32)))).2.2.1 k) ?_
      refine own_go (T' := T168) (g' := (mkF m 119 #[.val (.int xs), .val (.int xn), .val (.long xa), .second, .val (.long xb), .second, .val (.long xc), .second, .val (.int (3 : Int32)), .val (.ref d118), .val (.ref d119), .val (.ref d121), .val (.ref b124), .val (.ref b146), .val (.int (2 : Int32)), .val (.ref d119), .val .null] [(.int (2 : Int32))])) (fun _ k => XS.iload X168.here hx rfl (hb hby at_117) rfl k) ?_
      refine own_go (T' := T168) (g' := (mkF m 120 #[.val (.int xs), .val (.int xn), .val (.long xa), .second, .val (.long xb), .second, .val (.long xc), .second, .val (.int (3 : Int32)), .val (.ref d118), .val (.ref d119), .val (.ref d121), .val (.ref b124), .val (.ref b146), .val (.int (2 : Int32)), .val (.ref d119), .val .null] [(.int (1 : Int32)), (.int (2 : Int32))])) (fun _ k => XS.iconst X168.here hx rfl (hb hby at_119) k) ?_
      refine own_go (T' := T168) (g' := (mkF m 130 #[.val (.int xs), .val (.int xn), .val (.long xa), .second, .val (.long xb), .second, .val (.long xc), .second, .val (.int (3 : Int32)), .val (.ref d118), .val (.ref d119), .val (.ref d121), .val (.ref b124), .val (.ref b146), .val (.int (2 : Int32)), .val (.ref d119), .val .null] [])) (fun _ k => XS.icmpYes X168.here hx rfl (pc0 := 120) (pc' := 130) rfl (hb hby at_120) rfl (feq ((by decide) : ¬ ((2 : Int32) = (1 : Int32)))).2 (by decide) (by decide) k) ?_
      refine own_go (T' := T168) (g' := (mkF m 132 #[.val (.int xs), .val (.int xn), .val (.long xa), .second, .val (.long xb), .second, .val (.long xc), .second, .val (.int (3 : Int32)), .val (.ref d118), .val (.ref d119), .val (.ref d121), .val (.ref b124), .val (.ref b146), .val (.int (2 : Int32)), .val (.ref d119), .val .null] [(.int (2 : Int32))])) (fun _ k => XS.iload X168.here hx rfl (hb hby at_130) rfl k) ?_
      refine own_go (T' := T168) (g' := (mkF m 133 #[.val (.int xs), .val (.int xn), .val (.long xa), .second, .val (.long xb), .second, .val (.long xc), .second, .val (.int (3 : Int32)), .val (.ref d118), .val (.ref d119), .val (.ref d121), .val (.ref b124), .val (.ref b146), .val (.int (2 : Int32)), .val (.ref d119), .val .null] [(.int (2 : Int32)), (.int (2 : Int32))])) (fun _ k => XS.iconst X168.here hx rfl (hb hby at_132) k) ?_
      refine own_go (T' := T168) (g' := (mkF m 136 #[.val (.int xs), .val (.int xn), .val (.long xa), .second, .val (.long xb), .second, .val (.long xc), .second, .val (.int (3 : Int32)), .val (.ref d118), .val (.ref d119), .val (.ref d121), .val (.ref b124), .val (.ref b146), .val (.int (2 : Int32)), .val (.ref d119), .val .null] [])) (fun _ k => XS.icmpNo X168.here hx rfl (hb hby at_133) rfl (teq ((by decide) : (2 : Int32) = (2 : Int32))).2 k) ?_
      refine own_go (T' := T168) (g' := (mkF m 138 #[.val (.int xs), .val (.int xn), .val (.long xa), .second, .val (.long xb), .second, .val (.long xc), .second, .val (.int (3 : Int32)), .val (.ref d118), .val (.ref d119), .val (.ref d121), .val (.ref b124), .val (.ref b146), .val (.int (2 : Int32)), .val (.ref d119), .val .null] [(.ref d119)])) (fun _ k => XS.aload X168.here hx rfl (hb hby at_136) rfl rfl k) ?_
      refine own_go (T' := T168) (g' := (mkF m 140 #[.val (.int xs), .val (.int xn), .val (.long xa), .second, .val (.long xb), .second, .val (.long xc), .second, .val (.int (3 : Int32)), .val (.ref d118), .val (.ref d119), .val (.ref d121), .val (.ref b124), .val (.ref b146), .val (.int (2 : Int32)), .val (.ref d119), .val (.ref d119)] [])) (fun _ k => XS.astore X168.here hx rfl (hb hby at_138) rfl rfl (l' := #[.val (.int xs), .val (.int xn), .val (.long xa), .second, .val (.long xb), .second, .val (.long xc), .second, .val (.int (3 : Int32)), .val (.ref d118), .val (.ref d119), .val (.ref d121), .val (.ref b124), .val (.ref b146), .val (.int (2 : Int32)), .val (.ref d119), .val (.ref d119)]) rfl k) ?_
      refine own_go (T' := T168) (g' := (mkF m 147 #[.val (.int xs), .val (.int xn), .val (.long xa), .second, .val (.long xb), .second, .val (.long xc), .second, .val (.int (3 : Int32)), .val (.ref d118), .val (.ref d119), .val (.ref d121), .val (.ref b124), .val (.ref b146), .val (.int (2 : Int32)), .val (.ref d119), .val (.ref d119)] [])) (fun _ k => XS.goto X168.here hx rfl (pc0 := 140) (pc' := 147) rfl (hb hby at_140) (by decide) (by decide) k) ?_
      refine own_go (T' := T168) (g' := (mkF m 149 #[.val (.int xs), .val (.int xn), .val (.long xa), .second, .val (.long xb), .second, .val (.long xc), .second, .val (.int (3 : Int32)), .val (.ref d118), .val (.ref d119), .val (.ref d121), .val (.ref b124), .val (.ref b146), .val (.int (2 : Int32)), .val (.ref d119), .val (.ref d119)] [(.ref d119)])) (fun _ k => XS.aload X168.here hx rfl (hb hby at_147) rfl rfl k) ?_
      refine own_go (T' := T168) (g' := (mkF m 151 #[.val (.int xs), .val (.int xn), .val (.long xa), .second, .val (.long xb), .second, .val (.long xc), .second, .val (.int (3 : Int32)), .val (.ref d118), .val (.ref d119), .val (.ref d121), .val (.ref b124), .val (.ref b146), .val (.int (2 : Int32)), .val (.ref d119), .val (.ref d119)] [(.ref d119), (.ref d119)])) (fun _ k => XS.aload X168.here hx rfl (hb hby at_149) rfl rfl k) ?_
      refine own_go (T' := T168) (g' := (mkF m 154 #[.val (.int xs), .val (.int xn), .val (.long xa), .second, .val (.long xb), .second, .val (.long xc), .second, .val (.int (3 : Int32)), .val (.ref d118), .val (.ref d119), .val (.ref d121), .val (.ref b124), .val (.ref b146), .val (.int (2 : Int32)), .val (.ref d119), .val (.ref d119)] [])) (fun _ k => Jvm.RoadKit.acmp (g := (mkF m 151 #[.val (.int xs), .val (.int xn), .val (.long xa), .second, .val (.long xb), .second, .val (.long xc), .second, .val (.int (3 : Int32)), .val (.ref d118), .val (.ref d119), .val (.ref d121), .val (.ref b124), .val (.ref b146), .val (.int (2 : Int32)), .val (.ref d119), .val (.ref d119)] [(.ref d119), (.ref d119)])) X168 hx rfl rfl rfl (pc0 := 151) (pc' := 154) (same := true) rfl (hb hby at_151) rfl (decide_eq_true rfl) (by decide) (by decide) k) ?_
      refine own_go (T' := T168) (g' := (mkF m 155 #[.val (.int xs), .val (.int xn), .val (.long xa), .second, .val (.long xb), .second, .val (.long xc), .second, .val (.int (3 : Int32)), .val (.ref d118), .val (.ref d119), .val (.ref d121), .val (.ref b124), .val (.ref b146), .val (.int (2 : Int32)), .val (.ref d119), .val (.ref d119)] [(.int (1 : Int32))])) (fun _ k => XS.iconst X168.here hx rfl (hb hby at_154) k) ?_
      refine own_go (T' := T168) (g' := (mkF m 159 #[.val (.int xs), .val (.int xn), .val (.long xa), .second, .val (.long xb), .second, .val (.long xc), .second, .val (.int (3 : Int32)), .val (.ref d118), .val (.ref d119), .val (.ref d121), .val (.ref b124), .val (.ref b146), .val (.int (2 : Int32)), .val (.ref d119), .val (.ref d119)] [(.int (1 : Int32))])) (fun _ k => XS.goto X168.here hx rfl (pc0 := 155) (pc' := 159) rfl (hb hby at_155) (by decide) (by decide) k) ?_
      obtain ⟨fs, hr, hrun, hended, hW, hsame⟩ := X168.leave (v := some (.int (1 : Int32))) (fun h => by rw [Bd.returns] at h; cases h)
      refine own_end (retN X168 hx (t := .boolean) Bd.returns (by simp) (hb hby at_159) hr) hrun hended ⟨_, _, rfl, (?_ : own_QL Z xs xn xa xb xc xz xd kd xE xee kee xq xm h0 n0 _ T168.heap _), ⟨_, rfl⟩, hW, hsame.mono (by decide) (by decide)⟩
      rw [e168]
      exact ⟨rfl, N168⟩
    · rw [hnum]
      refine own_go (T' := T156) (g' := (mkF m 100 #[.val (.int xs), .val (.int xn), .val (.long xa), .second, .val (.long xb), .second, .val (.long xc), .second, .val (.int (3 : Int32)), .val (.ref d118), .val (.ref d119), .val (.ref d121), .val (.ref b124), .val (.ref b146), .val (.int (3 : Int32)), .unset, .unset] [(.ref b146)])) (fun _ k => XS.aload X156.here hx rfl (hb hby at_98) rfl rfl k) ?_
      refine own_go (T' := T156) (g' := (mkF m 102 #[.val (.int xs), .val (.int xn), .val (.long xa), .second, .val (.long xb), .second, .val (.long xc), .second, .val (.int (3 : Int32)), .val (.ref d118), .val (.ref d119), .val (.ref d121), .val (.ref b124), .val (.ref b146), .val (.int (3 : Int32)), .unset, .unset] [(.int (3 : Int32)), (.ref b146)])) (fun _ k => XS.iload X156.here hx rfl (hb hby at_100) rfl k) ?_
      obtain ⟨cq169, kq169, q169a, q169b, q169c⟩ := isOf hZ rfl Ec156
      obtain ⟨_, _, ⟨T169, L169, k169, n169⟩, -, X169, ⟨Lc169, hQ169, l169, y169, z169⟩, st169⟩ := X156.virtualBack hx (y := (⟨"com/example/entrega/entrega/RetrySchedule", "waitAfter", "(I)Ljava/time/Duration;"⟩ : MethodName)) (z := (⟨"com/example/entrega/entrega/RetrySchedule", "waitAfter", "(I)Ljava/time/Duration;"⟩ : MethodName)) hown (mvT hZ (hw _ (List.mem_of_getElem? (i := 88) rfl))) (mvT hZ (hw _ (List.mem_of_getElem? (i := 89) rfl))) (notFace_of_selects (args := #[]) (mvT hZ (hw _ (List.mem_of_getElem? (i := 91) rfl)))) (mvT hZ (hw _ (List.mem_of_getElem? (i := 91) rfl))) (mvT hZ (hw _ (List.mem_of_getElem? (i := 90) rfl))) (by decide) (backOf (W := 0) (own_rW33 l Z a0 hw [] b146 r156 ra156 kr156 d118 d119 d121 T156.heap n0 Z156 Fwc156 Elc156 F0c156 Vc156 Ek157 Ek158 Ek159) hZ (hw _ (List.mem_of_getElem? (i := 92) rfl)) (hw _ (List.mem_of_getElem? (i := 46) rfl)) (by decide) (by decide)) q169a q169c (g := (mkF m 102 #[.val (.int xs), .val (.int xn), .val (.long xa), .second, .val (.long xb), .second, .val (.long xc), .second, .val (.int (3 : Int32)), .val (.ref d118), .val (.ref d119), .val (.ref d121), .val (.ref b124), .val (.ref b146), .val (.int (3 : Int32)), .unset, .unset] [(.int (3 : Int32)), (.ref b146)])) rfl (by rw [hml]; rfl) (Steps.refl _) (argsL := [(.int (3 : Int32))]) (rest := []) (lenOf own_pd21 rfl) rfl (by show 2 * 0 + _ ≤ _; exact Nat.le_of_eq rfl) (hb hby at_102) (fun _ _ => ⟨rfl, rfl, (by decide : 9 + 0 ≤ _), (by decide : 28 + 0 ≤ _)⟩)
      dsimp only [Pt.U, Pt.locs, Pt.cells, Pt.slots] at X169 l169 y169 z169 st169 hQ169
      subst l169 y169 z169
      obtain ⟨rfl, N169q, e169⟩ := hQ169
      have N169 := Fr.app N156 N169q
      refine own_goT (T' := T169) (g' := (mkF m 105 #[.val (.int xs), .val (.int xn), .val (.long xa), .second, .val (.long xb), .second, .val (.long xc), .second, .val (.int (3 : Int32)), .val (.ref d118), .val (.ref d119), .val (.ref d121), .val (.ref b124), .val (.ref b146), .val (.int (3 : Int32)), .unset, .unset] [(.ref d121)])) st169 ?_
      refine own_go (T' := T169) (g' := (mkF m 107 #[.val (.int xs), .val (.int xn), .val (.long xa), .second, .val (.long xb), .second, .val (.long xc), .second, .val (.int (3 : Int32)), .val (.ref d118), .val (.ref d119), .val (.ref d121), .val (.ref b124), .val (.ref b146), .val (.int (3 : Int32)), .val (.ref d121), .unset] [])) (fun _ k => XS.astore X169.here hx rfl (hb hby at_105) rfl rfl (l' := #[.val (.int xs), .val (.int xn), .val (.long xa), .second, .val (.long xb), .second, .val (.long xc), .second, .val (.int (3 : Int32)), .val (.ref d118), .val (.ref d119), .val (.ref d121), .val (.ref b124), .val (.ref b146), .val (.int (3 : Int32)), .val (.ref d121), .unset]) rfl k) ?_
      refine own_go (T' := T169) (g' := (mkF m 108 #[.val (.int xs), .val (.int xn), .val (.long xa), .second, .val (.long xb), .second, .val (.long xc), .second, .val (.int (3 : Int32)), .val (.ref d118), .val (.ref d119), .val (.ref d121), .val (.ref b124), .val (.ref b146), .val (.int (3 : Int32)), .val (.ref d121), .unset] [.null])) (fun _ k => XS.aconstNull X169.here hx rfl (hb hby at_107) k) ?_
      refine own_go (T' := T169) (g' := (mkF m 110 #[.val (.int xs), .val (.int xn), .val (.long xa), .second, .val (.long xb), .second, .val (.long xc), .second, .val (.int (3 : Int32)), .val (.ref d118), .val (.ref d119), .val (.ref d121), .val (.ref b124), .val (.ref b146), .val (.int (3 : Int32)), .val (.ref d121), .val .null] [])) (fun _ k => XS.astore X169.here hx rfl (hb hby at_108) rfl rfl (l' := #[.val (.int xs), .val (.int xn), .val (.long xa), .second, .val (.long xb), .second, .val (.long xc), .second, .val (.int (3 : Int32)), .val (.ref d118), .val (.ref d119), .val (.ref d121), .val (.ref b124), .val (.ref b146), .val (.int (3 : Int32)), .val (.ref d121), .val .null]) rfl k) ?_
      refine own_go (T' := T169) (g' := (mkF m 112 #[.val (.int xs), .val (.int xn), .val (.long xa), .second, .val (.long xb), .second, .val (.long xc), .second, .val (.int (3 : Int32)), .val (.ref d118), .val (.ref d119), .val (.ref d121), .val (.ref b124), .val (.ref b146), .val (.int (3 : Int32)), .val (.ref d121), .val .null] [(.int (3 : Int32))])) (fun _ k => XS.iload X169.here hx rfl (hb hby at_110) rfl k) ?_
      refine own_go (T' := T169) (g' := (mkF m 114 #[.val (.int xs), .val (.int xn), .val (.long xa), .second, .val (.long xb), .second, .val (.long xc), .second, .val (.int (3 : Int32)), .val (.ref d118), .val (.ref d119), .val (.ref d121), .val (.ref b124), .val (.ref b146), .val (.int (3 : Int32)), .val (.ref d121), .val .null] [(.int (3 : Int32)), (.int (3 : Int32))])) (fun _ k => XS.iload X169.here hx rfl (hb hby at_112) rfl k) ?_
      refine own_go (T' := T169) (g' := (mkF m 117 #[.val (.int xs), .val (.int xn), .val (.long xa), .second, .val (.long xb), .second, .val (.long xc), .second, .val (.int (3 : Int32)), .val (.ref d118), .val (.ref d119), .val (.ref d121), .val (.ref b124), .val (.ref b146), .val (.int (3 : Int32)), .val (.ref d121), .val .null] [])) (fun _ k => XS.icmpNo X169.here hx rfl (hb hby at_114) rfl (flt ((by decide) : ¬ ((3 : Int32) < (3 : Int32)))).2.2.1 k) ?_
      refine own_go (T' := T169) (g' := (mkF m 119 #[.val (.int xs), .val (.int xn), .val (.long xa), .second, .val (.long xb), .second, .val (.long xc), .second, .val (.int (3 : Int32)), .val (.ref d118), .val (.ref d119), .val (.ref d121), .val (.ref b124), .val (.ref b146), .val (.int (3 : Int32)), .val (.ref d121), .val .null] [(.int (3 : Int32))])) (fun _ k => XS.iload X169.here hx rfl (hb hby at_117) rfl k) ?_
      refine own_go (T' := T169) (g' := (mkF m 120 #[.val (.int xs), .val (.int xn), .val (.long xa), .second, .val (.long xb), .second, .val (.long xc), .second, .val (.int (3 : Int32)), .val (.ref d118), .val (.ref d119), .val (.ref d121), .val (.ref b124), .val (.ref b146), .val (.int (3 : Int32)), .val (.ref d121), .val .null] [(.int (1 : Int32)), (.int (3 : Int32))])) (fun _ k => XS.iconst X169.here hx rfl (hb hby at_119) k) ?_
      refine own_go (T' := T169) (g' := (mkF m 130 #[.val (.int xs), .val (.int xn), .val (.long xa), .second, .val (.long xb), .second, .val (.long xc), .second, .val (.int (3 : Int32)), .val (.ref d118), .val (.ref d119), .val (.ref d121), .val (.ref b124), .val (.ref b146), .val (.int (3 : Int32)), .val (.ref d121), .val .null] [])) (fun _ k => XS.icmpYes X169.here hx rfl (pc0 := 120) (pc' := 130) rfl (hb hby at_120) rfl (feq ((by decide) : ¬ ((3 : Int32) = (1 : Int32)))).2 (by decide) (by decide) k) ?_
      refine own_go (T' := T169) (g' := (mkF m 132 #[.val (.int xs), .val (.int xn), .val (.long xa), .second, .val (.long xb), .second, .val (.long xc), .second, .val (.int (3 : Int32)), .val (.ref d118), .val (.ref d119), .val (.ref d121), .val (.ref b124), .val (.ref b146), .val (.int (3 : Int32)), .val (.ref d121), .val .null] [(.int (3 : Int32))])) (fun _ k => XS.iload X169.here hx rfl (hb hby at_130) rfl k) ?_
      refine own_go (T' := T169) (g' := (mkF m 133 #[.val (.int xs), .val (.int xn), .val (.long xa), .second, .val (.long xb), .second, .val (.long xc), .second, .val (.int (3 : Int32)), .val (.ref d118), .val (.ref d119), .val (.ref d121), .val (.ref b124), .val (.ref b146), .val (.int (3 : Int32)), .val (.ref d121), .val .null] [(.int (2 : Int32)), (.int (3 : Int32))])) (fun _ k => XS.iconst X169.here hx rfl (hb hby at_132) k) ?_
      refine own_go (T' := T169) (g' := (mkF m 143 #[.val (.int xs), .val (.int xn), .val (.long xa), .second, .val (.long xb), .second, .val (.long xc), .second, .val (.int (3 : Int32)), .val (.ref d118), .val (.ref d119), .val (.ref d121), .val (.ref b124), .val (.ref b146), .val (.int (3 : Int32)), .val (.ref d121), .val .null] [])) (fun _ k => XS.icmpYes X169.here hx rfl (pc0 := 133) (pc' := 143) rfl (hb hby at_133) rfl (feq ((by decide) : ¬ ((3 : Int32) = (2 : Int32)))).2 (by decide) (by decide) k) ?_
      refine own_go (T' := T169) (g' := (mkF m 145 #[.val (.int xs), .val (.int xn), .val (.long xa), .second, .val (.long xb), .second, .val (.long xc), .second, .val (.int (3 : Int32)), .val (.ref d118), .val (.ref d119), .val (.ref d121), .val (.ref b124), .val (.ref b146), .val (.int (3 : Int32)), .val (.ref d121), .val .null] [(.ref d121)])) (fun _ k => XS.aload X169.here hx rfl (hb hby at_143) rfl rfl k) ?_
      refine own_go (T' := T169) (g' := (mkF m 147 #[.val (.int xs), .val (.int xn), .val (.long xa), .second, .val (.long xb), .second, .val (.long xc), .second, .val (.int (3 : Int32)), .val (.ref d118), .val (.ref d119), .val (.ref d121), .val (.ref b124), .val (.ref b146), .val (.int (3 : Int32)), .val (.ref d121), .val (.ref d121)] [])) (fun _ k => XS.astore X169.here hx rfl (hb hby at_145) rfl rfl (l' := #[.val (.int xs), .val (.int xn), .val (.long xa), .second, .val (.long xb), .second, .val (.long xc), .second, .val (.int (3 : Int32)), .val (.ref d118), .val (.ref d119), .val (.ref d121), .val (.ref b124), .val (.ref b146), .val (.int (3 : Int32)), .val (.ref d121), .val (.ref d121)]) rfl k) ?_
      refine own_go (T' := T169) (g' := (mkF m 149 #[.val (.int xs), .val (.int xn), .val (.long xa), .second, .val (.long xb), .second, .val (.long xc), .second, .val (.int (3 : Int32)), .val (.ref d118), .val (.ref d119), .val (.ref d121), .val (.ref b124), .val (.ref b146), .val (.int (3 : Int32)), .val (.ref d121), .val (.ref d121)] [(.ref d121)])) (fun _ k => XS.aload X169.here hx rfl (hb hby at_147) rfl rfl k) ?_
      refine own_go (T' := T169) (g' := (mkF m 151 #[.val (.int xs), .val (.int xn), .val (.long xa), .second, .val (.long xb), .second, .val (.long xc), .second, .val (.int (3 : Int32)), .val (.ref d118), .val (.ref d119), .val (.ref d121), .val (.ref b124), .val (.ref b146), .val (.int (3 : Int32)), .val (.ref d121), .val (.ref d121)] [(.ref d121), (.ref d121)])) (fun _ k => XS.aload X169.here hx rfl (hb hby at_149) rfl rfl k) ?_
      refine own_go (T' := T169) (g' := (mkF m 154 #[.val (.int xs), .val (.int xn), .val (.long xa), .second, .val (.long xb), .second, .val (.long xc), .second, .val (.int (3 : Int32)), .val (.ref d118), .val (.ref d119), .val (.ref d121), .val (.ref b124), .val (.ref b146), .val (.int (3 : Int32)), .val (.ref d121), .val (.ref d121)] [])) (fun _ k => Jvm.RoadKit.acmp (g := (mkF m 151 #[.val (.int xs), .val (.int xn), .val (.long xa), .second, .val (.long xb), .second, .val (.long xc), .second, .val (.int (3 : Int32)), .val (.ref d118), .val (.ref d119), .val (.ref d121), .val (.ref b124), .val (.ref b146), .val (.int (3 : Int32)), .val (.ref d121), .val (.ref d121)] [(.ref d121), (.ref d121)])) X169 hx rfl rfl rfl (pc0 := 151) (pc' := 154) (same := true) rfl (hb hby at_151) rfl (decide_eq_true rfl) (by decide) (by decide) k) ?_
      refine own_go (T' := T169) (g' := (mkF m 155 #[.val (.int xs), .val (.int xn), .val (.long xa), .second, .val (.long xb), .second, .val (.long xc), .second, .val (.int (3 : Int32)), .val (.ref d118), .val (.ref d119), .val (.ref d121), .val (.ref b124), .val (.ref b146), .val (.int (3 : Int32)), .val (.ref d121), .val (.ref d121)] [(.int (1 : Int32))])) (fun _ k => XS.iconst X169.here hx rfl (hb hby at_154) k) ?_
      refine own_go (T' := T169) (g' := (mkF m 159 #[.val (.int xs), .val (.int xn), .val (.long xa), .second, .val (.long xb), .second, .val (.long xc), .second, .val (.int (3 : Int32)), .val (.ref d118), .val (.ref d119), .val (.ref d121), .val (.ref b124), .val (.ref b146), .val (.int (3 : Int32)), .val (.ref d121), .val (.ref d121)] [(.int (1 : Int32))])) (fun _ k => XS.goto X169.here hx rfl (pc0 := 155) (pc' := 159) rfl (hb hby at_155) (by decide) (by decide) k) ?_
      obtain ⟨fs, hr, hrun, hended, hW, hsame⟩ := X169.leave (v := some (.int (1 : Int32))) (fun h => by rw [Bd.returns] at h; cases h)
      refine own_end (retN X169 hx (t := .boolean) Bd.returns (by simp) (hb hby at_159) hr) hrun hended ⟨_, _, rfl, (?_ : own_QL Z xs xn xa xb xc xz xd kd xE xee kee xq xm h0 n0 _ T169.heap _), ⟨_, rfl⟩, hW, hsame.mono (by decide) (by decide)⟩
      rw [e169]
      exact ⟨rfl, N169⟩
set_option maxRecDepth 65536 in
set_option maxHeartbeats 40000000 in
theorem own_comes {Post : Tables → Env → Array Value → State → Outcome → State → Prop} (hpost : ∀ tb e args s v u, (limb_1_1.after args s (.returned v) u = true ∧ limb_1_2.after args s (.returned v) u = true ∧ True) → FrameEnd s (.returned v) u (Jvm.fieldLocs frame_1_writes args s ++ Jvm.arrayLocs frame_1_arrays args s ++ Jvm.staticLocs frame_1_statics s) 32 128 → Post tb e args s (.returned v) u) :
    ArmFor flags0 classFile x code maxLocals ret World_1 tables_1 room_1 Calls_1 rest_1 Pre_1 Post := by
  intro l hfl _ _ p e ha hc hk s m args below hf hA hF happ hP
  obtain ⟨hcalls, hrest, hpre⟩ := hP
  obtain ⟨-, -, -, hnamed, -, -, -, hat⟩ := (Spec.applies_iff hf).mp happ
  obtain ⟨hg, hn⟩ := and_e (Cond.before_iff.mp (show (Jvm.Cond.and given_1 narrow_1).before args s = true from hpre))
  obtain ⟨gc, g0⟩ := and_e hg
  obtain ⟨ga0, g1⟩ := and_e g0
  obtain ⟨ga1, g2⟩ := and_e g1
  obtain ⟨ga2, g3⟩ := and_e g2
  obtain ⟨ga3, g4⟩ := and_e g3
  obtain ⟨w0, w1, w2, w3, w4, rfl⟩ : ∃ w0 w1 w2 w3 w4 : Value, args = #[w0, w1, w2, w3, w4] := by
    have hs : args.size = 5 := by simpa [Cond.value, given_1] using gc
    obtain ⟨L⟩ := args
    match L, hs with
    | [w0, w1, w2, w3, w4], _ => exact ⟨w0, w1, w2, w3, w4, rfl⟩
  have hw := fun d (hd : d ∈ tables_1) => atoms_spec (ws := Jvm.Cond.code x code maxLocals ret :: tables_1) hat d (List.mem_cons_of_mem _ hd)
  have hfit : Fit s := fun {y c} hc i hi => by
    obtain ⟨ha, rfl⟩ := Array.getElem?_eq_some_iff.mp hc
    have q := List.all_eq_true.mp ((Array.all_eq_true_iff_forall_mem.mp hF) _ (Array.getElem_mem ha)) i (List.mem_range.mpr hi)
    simpa [Array.getElem?_eq_getElem hi] using q
  obtain ⟨i0, ei0⟩ := is_v ga0
  obtain rfl : w0 = (.int i0) := Option.some.inj ei0
  obtain ⟨i1, ei1⟩ := is_v ga1
  obtain rfl : w1 = (.int i1) := Option.some.inj ei1
  obtain ⟨i2, ei2⟩ := isL_v ga2
  obtain rfl : w2 = (.long i2) := Option.some.inj ei2
  obtain ⟨i3, ei3⟩ := isL_v ga3
  obtain rfl : w3 = (.long i3) := Option.some.inj ei3
  obtain ⟨i4, ei4⟩ := isL_v g4
  obtain rfl : w4 = (.long i4) := Option.some.inj ei4
  have hrest' : (jdkStatics_1.foldr Jvm.Cond.and restOwn_1).before #[Value.int i0, Value.int i1, Value.long i2, Value.long i3, Value.long i4] s = true := by rw [← rest_1_c_eq]; exact hrest
  obtain ⟨hsets, -⟩ := atoms_of jdkStatics_1 hrest'
  obtain ⟨xd, exd⟩ := arr_v (Cond.before_iff.mp (hsets _ (List.mem_of_getElem? (i := 6) rfl)))
  have Sd : Sta s s.heap "java/util/ArrayList" "DEFAULTCAPACITY_EMPTY_ELEMENTDATA" "[Ljava/lang/Object;" (.ref xd) := Sta.start exd (Or.inr ⟨(hw _ (List.mem_of_getElem? (i := 22) rfl)), (hsets _ (List.mem_of_getElem? (i := 2) rfl))⟩)
  obtain ⟨cld, Ard⟩ := Arr.start exd (Cond.before_iff.mp (hsets _ (List.mem_of_getElem? (i := 6) rfl)))
  have Ld := own_len (n := 0) exd (own_eqi (Cond.before_iff.mp (hsets _ (List.mem_of_getElem? (i := 8) rfl)))) Ard rfl
  obtain ⟨kd, Ad⟩ : ∃ k, own_A s s.heap xd k (.object "java/lang/Object") [] := ⟨_, own_A.of Ard Ld trivial⟩
  obtain ⟨xE, exE⟩ := exa_v (Cond.before_iff.mp (hsets _ (List.mem_of_getElem? (i := 11) rfl)))
  have Se : Sta s s.heap "java/util/ImmutableCollections" "EMPTY_LIST" "Ljava/util/ImmutableCollections$ListN;" (.ref xE) := Sta.start exE (Or.inl (hsets _ (List.mem_of_getElem? (i := 10) rfl)))
  have EE := Exa.start exE (Cond.before_iff.mp (hsets _ (List.mem_of_getElem? (i := 11) rfl)))
  obtain ⟨xee, exee⟩ := arr_v (Cond.before_iff.mp (hsets _ (List.mem_of_getElem? (i := 12) rfl)))
  have Fee : Fld s s.heap xE "java/util/ImmutableCollections$ListN" "elements" "[Ljava/lang/Object;" (.ref xee) := Fld.start ((fld_at exE).symm.trans exee)
  obtain ⟨cle, Are⟩ := Arr.start exee (Cond.before_iff.mp (hsets _ (List.mem_of_getElem? (i := 12) rfl)))
  have Le := own_len (n := 0) exee (own_eqi (Cond.before_iff.mp (hsets _ (List.mem_of_getElem? (i := 14) rfl)))) Are rfl
  obtain ⟨kee, Aee⟩ : ∃ k, own_A s s.heap xee k (.object "java/lang/Object") [] := ⟨_, own_A.of Are Le trivial⟩
  obtain ⟨xq, exq⟩ := exa_v (Cond.before_iff.mp (hsets _ (List.mem_of_getElem? (i := 18) rfl)))
  have Sq : Sta s s.heap "java/util/ImmutableCollections" "EMPTY" "Ljava/lang/Object;" (.ref xq) := Sta.start exq (Or.inl (hsets _ (List.mem_of_getElem? (i := 17) rfl)))
  have Eq := Exa.start exq (Cond.before_iff.mp (hsets _ (List.mem_of_getElem? (i := 18) rfl)))
  obtain ⟨xz, exz⟩ := exa_v (Cond.before_iff.mp (hsets _ (List.mem_of_getElem? (i := 27) rfl)))
  have Sz : Sta s s.heap "java/time/Duration" "ZERO" "Ljava/time/Duration;" (.ref xz) := Sta.start exz (Or.inl (hsets _ (List.mem_of_getElem? (i := 26) rfl)))
  have Ez := Exa.start exz (Cond.before_iff.mp (hsets _ (List.mem_of_getElem? (i := 27) rfl)))
  obtain ⟨xm, M⟩ : ∃ xm, own_Mir s "[Ljava/lang/Object;" xm := by
    obtain ⟨c1, k1, m1, q1, q2, q3⟩ := hcalls.1
    exact ⟨m1, c1, k1, q1, q2, q3.1⟩
  obtain ⟨n, o, h1, h2, h3, _, L, rfl, ⟨rfl, N⟩, hq⟩ := own_rL l s _ hw tables_1 i0 i1 i2 i3 i4 xz xd kd xE xee kee xq xm s.heap s.heap.size (Nat.le_refl _) Sz Ez Sd Ad Se EE Fee Aee Sq Eq M p e ha hc hk s m _ below hf ((Spec.applies_iff_loose hf).mp happ).1 ⟨rfl, State.Warmed39.refl s, rfl⟩ trivial
  refine ⟨n, _, h1, h2, h3, hpost _ _ _ _ _ _ ⟨Cond.after_iff.mpr rfl, Cond.after_iff.mpr (eq_i res_at (Term.int_eval (1)) rfl), trivial⟩ ⟨hq.1, hq.2.1, (hq.2.2.sift fun y hy => Or.inr (N y hy)).mono (by decide) (by decide)⟩⟩
theorem main_1_1 : Claimed_1_1 := own_comes fun _ _ _ _ _ _ h hF => ⟨h.1, hF⟩
theorem main_1_2 : Claimed_1_2 := own_comes fun _ _ _ _ _ _ h hF => ⟨h.2.1, hF⟩
end Jvm.Pilot.@@N@@
namespace Jvm.Pilot.@@N@@
open Jvm Jvm.ClassFile Sem Op Lib Jvm.Free Jvm.Stand Jvm.Pilot.@@N@@.Jvm.D
/-! MADE BY PROGRAM (witnessworld.py) out of the Statement's table words and the real class files: 32 classes; the members and pool entries that the words name. The judged class is class 1, her method 1. -/
namespace start1
open Jvm.ClassFile
def u (s : String) : CpInfo := .utf8 (stringToUtf16 s)
/-- a pool by its gaps: so many unusable entries, then the entry; so many at the end -/
def gap : Nat → List CpInfo → List CpInfo
  | 0, r => r
  | n + 1, r => .unusable :: gap n r
def poolList (es : List (Nat × CpInfo)) (last : Nat) : List CpInfo := es.foldr (fun e r => gap e.1 (e.2 :: r)) (gap last [])
def pool (es : List (Nat × CpInfo)) (last : Nat) : Array CpInfo := ⟨poolList es last⟩
def fileOf (pool : Array CpInfo) (this : Nat) (attrs : Array Attribute := #[]) (ms : Array MethodInfo := #[]) (fl : Nat := 33) (sup : Nat := 0) (ifs : Array Nat := #[]) (fds : Array FieldInfo := #[]) : ClassFile where
  minorVersion := 0
  majorVersion := 65
  constantPool := pool
  accessFlags := fl
  thisClass := this
  superClass := sup
  interfaces := ifs
  fields := fds
  methods := ms
  attributes := attrs
def plain (name : String) (sup : Option ClassId) : Class where
  name := name
  kind := .ordinary
  loader := none
  accessFlags := 33
  super := sup
  interfaces := #[]
  cf := none
  fields := #[]
  methods := #[]
  instanceTypes := #[]
  staticTypes := #[]
  resolved := #[]
  callSites := []
  init := .initialized
  statics := none
  mirror := none

def pool0 : Array CpInfo := pool [(5, u "<init>"), (0, u "()V"), (1, .class_ 10), (1, u "java/lang/Object"), (0, u "getClass"), (0, u "()Ljava/lang/Class;")] 111

def k0c0 : Code := { maxStack := 0, maxLocals := 1, code := object_method_1_code, exceptionTable := #[], attributes := #[] }
def k0m0 : Method := { name := "<init>", desc := "()V", sig := { parameters := [], returnType := none }, accessFlags := 1, code := some k0c0 }
def k0m1 : Method := { name := "getClass", desc := "()Ljava/lang/Class;", sig := { parameters := [], returnType := some (.object "java/lang/Class") }, accessFlags := 273, code := none }
/-- java/lang/Object -/
def k0 : Class := { plain "java/lang/Object" none with
  accessFlags := 33
  interfaces := #[]
  cf := some (fileOf pool0 8 #[] #[{ accessFlags := 1, nameIndex := 5, descriptorIndex := 6, attributes := #[] }, { accessFlags := 273, nameIndex := 11, descriptorIndex := 12, attributes := #[] }] 33 0 #[] #[])
  fields := #[]
  methods := #[k0m0, k0m1]
  instanceTypes := #[]
  staticTypes := #[]
  resolved := Array.replicate 124 none
  statics := none }

def pool1 : Array CpInfo := pool [(2, .class_ 4), (0, .nameAndType 5 6), (0, u "java/lang/Object"), (0, u "<init>"), (0, u "()V"), (0, .methodref 8 9), (0, .class_ 10), (0, .nameAndType 11 12), (0, u "java/time/Duration"), (0, u "ofSeconds"), (0, u "(J)Ljava/time/Duration;"), (0, .class_ 14), (0, u "java/util/ArrayList"), (0, .methodref 13 3), (0, .methodref 13 17), (0, .nameAndType 18 19), (0, u "add"), (0, u "(Ljava/lang/Object;)Z"), (0, .class_ 21), (0, u "com/example/entrega/entrega/RetrySchedule"), (0, .methodref 20 23), (0, .nameAndType 5 24), (0, u "(Ljava/util/List;)V"), (0, .integer 2147483647), (0, .methodref 20 27), (0, .nameAndType 28 29), (0, u "waitAfter"), (0, u "(I)Ljava/time/Duration;"), (0, .class_ 31), (0, u "com/example/entrega/entrega/RetryScheduleWaitAfterPinLaw"), (2, u "law"), (0, u "(IIJJJ)Z")] 3

def k1m0 : Method := { name := "<init>", desc := "()V", sig := { parameters := [], returnType := none }, accessFlags := 1, code := none }
def k1c1 : Code := { maxStack := 3, maxLocals := 17, code := code, exceptionTable := #[], attributes := #[] }
def k1m1 : Method := { name := "law", desc := "(IIJJJ)Z", sig := { parameters := [.int, .int, .long, .long, .long], returnType := some .boolean }, accessFlags := 9, code := some k1c1 }
/-- com/example/entrega/entrega/RetryScheduleWaitAfterPinLaw -/
def k1 : Class := { plain "com/example/entrega/entrega/RetryScheduleWaitAfterPinLaw" (some 0) with
  accessFlags := 49
  interfaces := #[]
  cf := some (fileOf pool1 30 #[] #[{ accessFlags := 1, nameIndex := 5, descriptorIndex := 6, attributes := #[] }, { accessFlags := 9, nameIndex := 34, descriptorIndex := 35, attributes := #[] }] 49 2 #[] #[])
  fields := #[]
  methods := #[k1m0, k1m1]
  instanceTypes := #[]
  staticTypes := #[]
  resolved := Array.replicate 39 none
  statics := none }

def pool2 : Array CpInfo := pool [(1, .class_ 2), (0, u "java/time/temporal/TemporalAmount"), (0, .class_ 4), (0, u "java/lang/Object")] 11

/-- java/time/temporal/TemporalAmount -/
def k2 : Class := { plain "java/time/temporal/TemporalAmount" (some 0) with
  accessFlags := 1537
  interfaces := #[]
  cf := some (fileOf pool2 1 #[] #[] 1537 3 #[] #[])
  fields := #[]
  methods := #[]
  instanceTypes := #[]
  staticTypes := #[]
  resolved := Array.replicate 16 none
  statics := none }

def pool3 : Array CpInfo := pool [(1, .class_ 2), (0, u "java/lang/Comparable"), (0, .class_ 4), (0, u "java/lang/Object")] 7

/-- java/lang/Comparable -/
def k3 : Class := { plain "java/lang/Comparable" (some 0) with
  accessFlags := 1537
  interfaces := #[]
  cf := some (fileOf pool3 1 #[] #[] 1537 3 #[] #[])
  fields := #[]
  methods := #[]
  instanceTypes := #[]
  staticTypes := #[]
  resolved := Array.replicate 12 none
  statics := none }

def pool4 : Array CpInfo := pool [(1, .class_ 2), (0, u "java/io/Serializable"), (0, .class_ 4), (0, u "java/lang/Object")] 2

/-- java/io/Serializable -/
def k4 : Class := { plain "java/io/Serializable" (some 0) with
  accessFlags := 1537
  interfaces := #[]
  cf := some (fileOf pool4 1 #[] #[] 1537 3 #[] #[])
  fields := #[]
  methods := #[]
  instanceTypes := #[]
  staticTypes := #[]
  resolved := Array.replicate 7 none
  statics := none }

def pool5 : Array CpInfo := pool [(10, .methodref 11 12), (0, .class_ 13), (0, .nameAndType 14 15), (0, u "java/time/Duration"), (0, u "create"), (0, u "(JI)Ljava/time/Duration;"), (16, .fieldref 11 33), (0, .nameAndType 34 35), (0, u "ZERO"), (0, u "Ljava/time/Duration;"), (13, .class_ 51), (1, u "java/time/temporal/TemporalAmount"), (27, .class_ 81), (1, u "java/time/Duration$Lazy"), (35, u "seconds"), (21, u "<init>"), (17, .nameAndType 139 158), (0, u "()V"), (19, u "ofSeconds"), (20, u "(J)Ljava/time/Duration;"), (15, .methodref 11 216), (0, .nameAndType 139 217), (0, u "(JI)V"), (0, .methodref 219 157), (0, .class_ 220), (0, u "java/lang/Object"), (0, .fieldref 11 222), (0, .nameAndType 117 223), (0, u "J"), (0, .fieldref 11 225), (0, .nameAndType 226 227), (0, u "nanos"), (0, u "I"), (11, .class_ 241), (1, u "java/time/Duration$DurationUnits"), (27, .class_ 271), (1, u "java/time/Duration$1"), (91, u "BI_NANOS_PER_SECOND"), (0, u "Ljava/math/BigInteger;"), (120, .class_ 486), (0, u "java/lang/Comparable"), (0, .class_ 488), (0, u "java/io/Serializable"), (0, u "serialVersionUID")] 166

def k5c0 : Code := { maxStack := 3, maxLocals := 2, code := jdk_2316_method_4_code, exceptionTable := #[], attributes := #[] }
def k5m0 : Method := { name := "ofSeconds", desc := "(J)Ljava/time/Duration;", sig := { parameters := [.long], returnType := some (.object "java/time/Duration") }, accessFlags := 9, code := some k5c0 }
def k5c1 : Code := { maxStack := 5, maxLocals := 3, code := jdk_2316_method_16_code, exceptionTable := #[], attributes := #[] }
def k5m1 : Method := { name := "create", desc := "(JI)Ljava/time/Duration;", sig := { parameters := [.long, .int], returnType := some (.object "java/time/Duration") }, accessFlags := 10, code := some k5c1 }
def k5c2 : Code := { maxStack := 3, maxLocals := 4, code := jdk_2316_method_17_code, exceptionTable := #[], attributes := #[] }
def k5m2 : Method := { name := "<init>", desc := "(JI)V", sig := { parameters := [.long, .int], returnType := none }, accessFlags := 2, code := some k5c2 }
/-- java/time/Duration -/
def k5 : Class := { plain "java/time/Duration" (some 0) with
  accessFlags := 49
  interfaces := #[2, 3, 4]
  cf := some (fileOf pool5 11 #[.nestMembers #[269, 239, 79]] #[{ accessFlags := 9, nameIndex := 178, descriptorIndex := 199, attributes := #[] }, { accessFlags := 10, nameIndex := 14, descriptorIndex := 15, attributes := #[] }, { accessFlags := 2, nameIndex := 139, descriptorIndex := 217, attributes := #[] }] 49 219 #[49, 485, 487] #[{ accessFlags := 25, nameIndex := 34, descriptorIndex := 35, attributes := #[] }, { accessFlags := 26, nameIndex := 489, descriptorIndex := 223, attributes := #[] }, { accessFlags := 26, nameIndex := 363, descriptorIndex := 364, attributes := #[] }, { accessFlags := 18, nameIndex := 117, descriptorIndex := 223, attributes := #[] }, { accessFlags := 18, nameIndex := 226, descriptorIndex := 227, attributes := #[] }])
  fields := #[{ name := "ZERO", type := (.object "java/time/Duration"), accessFlags := 25, slot := 0, constantValue := 0 }, { name := "serialVersionUID", type := .long, accessFlags := 26, slot := 1, constantValue := 0 }, { name := "BI_NANOS_PER_SECOND", type := (.object "java/math/BigInteger"), accessFlags := 26, slot := 2, constantValue := 0 }, { name := "seconds", type := .long, accessFlags := 18, slot := 0, constantValue := 0 }, { name := "nanos", type := .int, accessFlags := 18, slot := 1, constantValue := 0 }]
  methods := #[k5m0, k5m1, k5m2]
  instanceTypes := #[.long, .int]
  staticTypes := #[(.object "java/time/Duration"), .long, (.object "java/math/BigInteger")]
  resolved := Array.replicate 656 none
  statics := some 0 }

def pool6 : Array CpInfo := pool [(8, .class_ 10), (1, u "java/lang/Iterable"), (24, .class_ 36), (0, u "java/lang/Object")] 25

/-- java/lang/Iterable -/
def k6 : Class := { plain "java/lang/Iterable" (some 0) with
  accessFlags := 1537
  interfaces := #[]
  cf := some (fileOf pool6 8 #[] #[] 1537 35 #[] #[])
  fields := #[]
  methods := #[]
  instanceTypes := #[]
  staticTypes := #[]
  resolved := Array.replicate 62 none
  statics := none }

def pool7 : Array CpInfo := pool [(10, .class_ 12), (1, u "java/util/Collection"), (0, u "toArray"), (16, u "()Z"), (29, .class_ 61), (0, u "java/lang/Object"), (0, .class_ 63), (0, u "java/lang/Iterable"), (2, u "isEmpty"), (3, u "()[Ljava/lang/Object;")] 44

def k7m0 : Method := { name := "isEmpty", desc := "()Z", sig := { parameters := [], returnType := some .boolean }, accessFlags := 1025, code := none }
def k7m1 : Method := { name := "toArray", desc := "()[Ljava/lang/Object;", sig := { parameters := [], returnType := some (.array (.object "java/lang/Object")) }, accessFlags := 1025, code := none }
/-- java/util/Collection -/
def k7 : Class := { plain "java/util/Collection" (some 0) with
  accessFlags := 1537
  interfaces := #[6]
  cf := some (fileOf pool7 10 #[] #[{ accessFlags := 1025, nameIndex := 66, descriptorIndex := 30, attributes := #[] }, { accessFlags := 1025, nameIndex := 13, descriptorIndex := 70, attributes := #[] }] 1537 60 #[62] #[])
  fields := #[]
  methods := #[k7m0, k7m1]
  instanceTypes := #[]
  staticTypes := #[]
  resolved := Array.replicate 115 none
  statics := none }

def pool8 : Array CpInfo := pool [(1, .methodref 2 3), (0, .class_ 4), (0, .nameAndType 5 6), (0, u "java/lang/Object"), (0, u "<init>"), (0, u "()V"), (1, .class_ 10), (1, u "java/util/AbstractCollection"), (66, .class_ 78), (0, u "java/util/Collection")] 81

def k8c0 : Code := { maxStack := 1, maxLocals := 1, code := jdk_22_method_1_code, exceptionTable := #[], attributes := #[] }
def k8m0 : Method := { name := "<init>", desc := "()V", sig := { parameters := [], returnType := none }, accessFlags := 4, code := some k8c0 }
/-- java/util/AbstractCollection -/
def k8 : Class := { plain "java/util/AbstractCollection" (some 0) with
  accessFlags := 1057
  interfaces := #[7]
  cf := some (fileOf pool8 8 #[] #[{ accessFlags := 4, nameIndex := 5, descriptorIndex := 6, attributes := #[] }] 1057 2 #[77] #[])
  fields := #[]
  methods := #[k8m0]
  instanceTypes := #[]
  staticTypes := #[]
  resolved := Array.replicate 160 none
  statics := none }

def pool9 : Array CpInfo := pool [(8, .class_ 10), (1, u "java/util/SequencedCollection"), (15, .class_ 27), (0, u "java/lang/Object"), (0, .class_ 29), (0, u "java/util/Collection")] 27

/-- java/util/SequencedCollection -/
def k9 : Class := { plain "java/util/SequencedCollection" (some 0) with
  accessFlags := 1537
  interfaces := #[7]
  cf := some (fileOf pool9 8 #[] #[] 1537 26 #[28] #[])
  fields := #[]
  methods := #[]
  instanceTypes := #[]
  staticTypes := #[]
  resolved := Array.replicate 57 none
  statics := none }

def pool10 : Array CpInfo := pool [(8, .class_ 10), (1, u "java/util/List"), (20, u "(Ljava/lang/Object;)V"), (16, u "<init>"), (26, u "get"), (0, u "(I)Ljava/lang/Object;"), (2, u "size"), (0, u "()I"), (7, u "of"), (1, .fieldref 91 92), (0, .class_ 93), (0, .nameAndType 94 95), (0, u "java/util/ImmutableCollections"), (0, u "EMPTY_LIST"), (0, u "Ljava/util/ImmutableCollections$ListN;"), (0, .class_ 97), (0, u "java/util/ImmutableCollections$List12"), (0, .methodref 96 99), (0, .nameAndType 48 31), (0, .methodref 96 101), (0, .nameAndType 48 102), (0, u "(Ljava/lang/Object;Ljava/lang/Object;)V"), (0, .class_ 104), (0, u "java/lang/Object"), (3, u "([Ljava/lang/Object;)Ljava/util/List;"), (0, .methodref 91 110), (0, .nameAndType 111 108), (0, u "listFromArray"), (0, .methodref 91 113), (0, .nameAndType 114 115), (0, u "listCopy"), (0, u "(Ljava/util/Collection;)Ljava/util/List;"), (3, u "()Ljava/util/List;"), (0, .class_ 121), (0, u "java/util/SequencedCollection"), (112, u "copyOf")] 16

def k10m0 : Method := { name := "size", desc := "()I", sig := { parameters := [], returnType := some .int }, accessFlags := 1025, code := none }
def k10m1 : Method := { name := "get", desc := "(I)Ljava/lang/Object;", sig := { parameters := [.int], returnType := some (.object "java/lang/Object") }, accessFlags := 1025, code := none }
def k10c2 : Code := { maxStack := 1, maxLocals := 0, code := jdk_40_method_36_code, exceptionTable := #[], attributes := #[] }
def k10m2 : Method := { name := "of", desc := "()Ljava/util/List;", sig := { parameters := [], returnType := some (.object "java/util/List") }, accessFlags := 9, code := some k10c2 }
def k10c3 : Code := { maxStack := 5, maxLocals := 2, code := jdk_40_method_47_code, exceptionTable := #[], attributes := #[] }
def k10m3 : Method := { name := "of", desc := "([Ljava/lang/Object;)Ljava/util/List;", sig := { parameters := [(.array (.object "java/lang/Object"))], returnType := some (.object "java/util/List") }, accessFlags := 137, code := some k10c3 }
def k10c4 : Code := { maxStack := 1, maxLocals := 1, code := jdk_40_method_48_code, exceptionTable := #[], attributes := #[] }
def k10m4 : Method := { name := "copyOf", desc := "(Ljava/util/Collection;)Ljava/util/List;", sig := { parameters := [(.object "java/util/Collection")], returnType := some (.object "java/util/List") }, accessFlags := 9, code := some k10c4 }
/-- java/util/List -/
def k10 : Class := { plain "java/util/List" (some 0) with
  accessFlags := 1537
  interfaces := #[9]
  cf := some (fileOf pool10 8 #[] #[{ accessFlags := 1025, nameIndex := 79, descriptorIndex := 80, attributes := #[] }, { accessFlags := 1025, nameIndex := 75, descriptorIndex := 76, attributes := #[] }, { accessFlags := 9, nameIndex := 88, descriptorIndex := 119, attributes := #[] }, { accessFlags := 137, nameIndex := 88, descriptorIndex := 108, attributes := #[] }, { accessFlags := 9, nameIndex := 234, descriptorIndex := 115, attributes := #[] }] 1537 103 #[120] #[])
  fields := #[]
  methods := #[k10m0, k10m1, k10m2, k10m3, k10m4]
  instanceTypes := #[]
  staticTypes := #[]
  resolved := Array.replicate 251 none
  statics := none }

def pool11 : Array CpInfo := pool [(1, .methodref 2 3), (0, .class_ 4), (0, .nameAndType 5 6), (0, u "java/util/AbstractCollection"), (0, u "<init>"), (0, u "()V"), (0, .fieldref 8 9), (0, .class_ 10), (0, .nameAndType 11 12), (0, u "java/util/AbstractList"), (0, u "modCount"), (0, u "I"), (64, .class_ 78), (0, u "java/util/AbstractList$Itr"), (3, .class_ 83), (0, u "java/util/AbstractList$ListItr"), (9, .class_ 94), (0, u "java/util/AbstractList$RandomAccessSubList"), (3, .class_ 99), (0, u "java/util/AbstractList$SubList"), (33, .class_ 134), (0, u "java/util/List"), (73, .class_ 209), (0, u "java/util/AbstractList$SubList$1"), (0, .class_ 211), (0, u "java/util/AbstractList$RandomAccessSpliterator")] 6

def k11c0 : Code := { maxStack := 2, maxLocals := 1, code := jdk_39_method_1_code, exceptionTable := #[], attributes := #[] }
def k11m0 : Method := { name := "<init>", desc := "()V", sig := { parameters := [], returnType := none }, accessFlags := 4, code := some k11c0 }
/-- java/util/AbstractList -/
def k11 : Class := { plain "java/util/AbstractList" (some 8) with
  accessFlags := 1057
  interfaces := #[10]
  cf := some (fileOf pool11 8 #[.nestMembers #[93, 98, 208, 210, 82, 77]] #[{ accessFlags := 4, nameIndex := 5, descriptorIndex := 6, attributes := #[] }] 1057 2 #[133] #[{ accessFlags := 132, nameIndex := 11, descriptorIndex := 12, attributes := #[] }])
  fields := #[{ name := "modCount", type := .int, accessFlags := 132, slot := 0, constantValue := 0 }]
  methods := #[k11m0]
  instanceTypes := #[.int]
  staticTypes := #[]
  resolved := Array.replicate 218 none
  statics := none }

def pool12 : Array CpInfo := pool [(1, .class_ 2), (0, u "java/util/RandomAccess"), (0, .class_ 4), (0, u "java/lang/Object")] 2

/-- java/util/RandomAccess -/
def k12 : Class := { plain "java/util/RandomAccess" (some 0) with
  accessFlags := 1537
  interfaces := #[]
  cf := some (fileOf pool12 1 #[] #[] 1537 3 #[] #[])
  fields := #[]
  methods := #[]
  instanceTypes := #[]
  staticTypes := #[]
  resolved := Array.replicate 7 none
  statics := none }

def pool13 : Array CpInfo := pool [(1, .class_ 2), (0, u "java/lang/Cloneable"), (0, .class_ 4), (0, u "java/lang/Object")] 2

/-- java/lang/Cloneable -/
def k13 : Class := { plain "java/lang/Cloneable" (some 0) with
  accessFlags := 1537
  interfaces := #[]
  cf := some (fileOf pool13 1 #[] #[] 1537 3 #[] #[])
  fields := #[]
  methods := #[]
  instanceTypes := #[]
  staticTypes := #[]
  resolved := Array.replicate 7 none
  statics := none }

def pool14 : Array CpInfo := pool [(1, .methodref 2 3), (0, .class_ 4), (0, .nameAndType 5 6), (0, u "java/util/AbstractList"), (0, u "<init>"), (0, u "()V"), (0, .class_ 8), (0, u "java/lang/Object"), (0, .fieldref 10 11), (0, .class_ 12), (0, .nameAndType 13 14), (0, u "java/util/ArrayList"), (0, u "elementData"), (0, u "[Ljava/lang/Object;"), (2, u "EMPTY_ELEMENTDATA"), (21, .fieldref 10 40), (0, .nameAndType 41 14), (0, u "DEFAULTCAPACITY_EMPTY_ELEMENTDATA"), (4, u "toArray"), (0, u "()[Ljava/lang/Object;"), (0, .fieldref 10 49), (0, .nameAndType 50 51), (0, u "size"), (0, u "I"), (6, .class_ 60), (1, u "java/util/Arrays"), (0, u "copyOf"), (1, .fieldref 10 64), (0, .nameAndType 65 51), (0, u "modCount"), (0, .methodref 58 67), (0, .nameAndType 61 68), (0, u "([Ljava/lang/Object;I)[Ljava/lang/Object;"), (0, .methodref 10 70), (0, .nameAndType 71 72), (0, u "grow"), (0, u "(I)[Ljava/lang/Object;"), (6, .methodref 80 81), (0, .class_ 82), (0, .nameAndType 83 84), (0, u "java/lang/Math"), (0, u "max"), (0, u "(II)I"), (11, u "(Ljava/lang/Object;)Z"), (32, .methodref 10 130), (0, .nameAndType 71 47), (0, .methodref 10 132), (0, .nameAndType 133 134), (0, u "add"), (0, u "(Ljava/lang/Object;[Ljava/lang/Object;I)V"), (13, .class_ 149), (0, u "java/util/List"), (23, u "()Z"), (88, .class_ 263), (0, u "java/util/ArrayList$ListItr"), (3, .class_ 268), (0, u "java/util/ArrayList$Itr"), (7, .class_ 277), (0, u "java/util/ArrayList$SubList"), (12, .class_ 291), (0, u "java/util/ArrayList$ArrayListSpliterator"), (37, .class_ 330), (0, u "java/util/RandomAccess"), (0, .class_ 332), (0, u "java/lang/Cloneable"), (0, .class_ 334), (0, u "java/io/Serializable"), (0, u "serialVersionUID"), (0, u "J"), (3, u "DEFAULT_CAPACITY"), (22, u "isEmpty"), (136, .class_ 501), (0, u "java/util/ArrayList$SubList$2"), (0, .class_ 503), (0, u "java/util/ArrayList$SubList$1")] 5

def k14c0 : Code := { maxStack := 2, maxLocals := 1, code := jdk_38_method_2_code, exceptionTable := #[], attributes := #[] }
def k14m0 : Method := { name := "<init>", desc := "()V", sig := { parameters := [], returnType := none }, accessFlags := 1, code := some k14c0 }
def k14c1 : Code := { maxStack := 4, maxLocals := 4, code := jdk_38_method_6_code, exceptionTable := #[], attributes := #[] }
def k14m1 : Method := { name := "grow", desc := "(I)[Ljava/lang/Object;", sig := { parameters := [.int], returnType := some (.array (.object "java/lang/Object")) }, accessFlags := 2, code := some k14c1 }
def k14c2 : Code := { maxStack := 3, maxLocals := 1, code := jdk_38_method_7_code, exceptionTable := #[], attributes := #[] }
def k14m2 : Method := { name := "grow", desc := "()[Ljava/lang/Object;", sig := { parameters := [], returnType := some (.array (.object "java/lang/Object")) }, accessFlags := 2, code := some k14c2 }
def k14c3 : Code := { maxStack := 1, maxLocals := 1, code := jdk_38_method_9_code, exceptionTable := #[], attributes := #[] }
def k14m3 : Method := { name := "isEmpty", desc := "()Z", sig := { parameters := [], returnType := some .boolean }, accessFlags := 1, code := some k14c3 }
def k14c4 : Code := { maxStack := 2, maxLocals := 1, code := jdk_38_method_16_code, exceptionTable := #[], attributes := #[] }
def k14m4 : Method := { name := "toArray", desc := "()[Ljava/lang/Object;", sig := { parameters := [], returnType := some (.array (.object "java/lang/Object")) }, accessFlags := 1, code := some k14c4 }
def k14c5 : Code := { maxStack := 3, maxLocals := 4, code := jdk_38_method_24_code, exceptionTable := #[], attributes := #[] }
def k14m5 : Method := { name := "add", desc := "(Ljava/lang/Object;[Ljava/lang/Object;I)V", sig := { parameters := [(.object "java/lang/Object"), (.array (.object "java/lang/Object")), .int], returnType := none }, accessFlags := 2, code := some k14c5 }
def k14c6 : Code := { maxStack := 4, maxLocals := 2, code := jdk_38_method_25_code, exceptionTable := #[], attributes := #[] }
def k14m6 : Method := { name := "add", desc := "(Ljava/lang/Object;)Z", sig := { parameters := [(.object "java/lang/Object")], returnType := some .boolean }, accessFlags := 1, code := some k14c6 }
/-- java/util/ArrayList -/
def k14 : Class := { plain "java/util/ArrayList" (some 11) with
  accessFlags := 33
  interfaces := #[10, 12, 13, 4]
  cf := some (fileOf pool14 10 #[.nestMembers #[290, 276, 500, 502, 262, 267]] #[{ accessFlags := 1, nameIndex := 5, descriptorIndex := 6, attributes := #[] }, { accessFlags := 2, nameIndex := 71, descriptorIndex := 72, attributes := #[] }, { accessFlags := 2, nameIndex := 71, descriptorIndex := 47, attributes := #[] }, { accessFlags := 1, nameIndex := 363, descriptorIndex := 173, attributes := #[] }, { accessFlags := 1, nameIndex := 46, descriptorIndex := 47, attributes := #[] }, { accessFlags := 2, nameIndex := 133, descriptorIndex := 134, attributes := #[] }, { accessFlags := 1, nameIndex := 133, descriptorIndex := 96, attributes := #[] }] 33 2 #[148, 329, 331, 333] #[{ accessFlags := 26, nameIndex := 335, descriptorIndex := 336, attributes := #[] }, { accessFlags := 26, nameIndex := 340, descriptorIndex := 51, attributes := #[] }, { accessFlags := 26, nameIndex := 17, descriptorIndex := 14, attributes := #[] }, { accessFlags := 26, nameIndex := 41, descriptorIndex := 14, attributes := #[] }, { accessFlags := 128, nameIndex := 13, descriptorIndex := 14, attributes := #[] }, { accessFlags := 2, nameIndex := 50, descriptorIndex := 51, attributes := #[] }])
  fields := #[{ name := "serialVersionUID", type := .long, accessFlags := 26, slot := 0, constantValue := 0 }, { name := "DEFAULT_CAPACITY", type := .int, accessFlags := 26, slot := 1, constantValue := 0 }, { name := "EMPTY_ELEMENTDATA", type := (.array (.object "java/lang/Object")), accessFlags := 26, slot := 2, constantValue := 0 }, { name := "DEFAULTCAPACITY_EMPTY_ELEMENTDATA", type := (.array (.object "java/lang/Object")), accessFlags := 26, slot := 3, constantValue := 0 }, { name := "elementData", type := (.array (.object "java/lang/Object")), accessFlags := 128, slot := 1, constantValue := 0 }, { name := "size", type := .int, accessFlags := 2, slot := 2, constantValue := 0 }]
  methods := #[k14m0, k14m1, k14m2, k14m3, k14m4, k14m5, k14m6]
  instanceTypes := #[.int, (.array (.object "java/lang/Object")), .int]
  staticTypes := #[.long, .int, (.array (.object "java/lang/Object")), (.array (.object "java/lang/Object"))]
  resolved := Array.replicate 509 none
  statics := some 1 }

def pool15 : Array CpInfo := pool [(1, .methodref 2 3), (0, .class_ 4), (0, .nameAndType 5 6), (0, u "java/lang/Object"), (0, u "<init>"), (0, u "()V"), (0, .class_ 8), (0, u "java/lang/Record")] 13

def k15c0 : Code := { maxStack := 1, maxLocals := 1, code := jdk_30_method_1_code, exceptionTable := #[], attributes := #[] }
def k15m0 : Method := { name := "<init>", desc := "()V", sig := { parameters := [], returnType := none }, accessFlags := 4, code := some k15c0 }
/-- java/lang/Record -/
def k15 : Class := { plain "java/lang/Record" (some 0) with
  accessFlags := 1057
  interfaces := #[]
  cf := some (fileOf pool15 7 #[] #[{ accessFlags := 4, nameIndex := 5, descriptorIndex := 6, attributes := #[] }] 1057 2 #[] #[])
  fields := #[]
  methods := #[k15m0]
  instanceTypes := #[]
  staticTypes := #[]
  resolved := Array.replicate 22 none
  statics := none }

def pool16 : Array CpInfo := pool [(1, .methodref 2 3), (0, .class_ 4), (0, .nameAndType 5 6), (0, u "java/lang/Record"), (0, u "<init>"), (0, u "()V"), (0, .interfaceMethodref 8 9), (0, .class_ 10), (0, .nameAndType 11 12), (0, u "java/util/List"), (0, u "copyOf"), (0, u "(Ljava/util/Collection;)Ljava/util/List;"), (0, .fieldref 14 15), (0, .class_ 16), (0, .nameAndType 17 18), (0, u "com/example/entrega/entrega/RetrySchedule"), (0, u "waits"), (0, u "Ljava/util/List;"), (0, .interfaceMethodref 8 20), (0, .nameAndType 21 22), (0, u "size"), (0, u "()I"), (0, .interfaceMethodref 8 24), (0, .nameAndType 25 26), (0, u "get"), (0, u "(I)Ljava/lang/Object;"), (0, .class_ 28), (0, u "java/time/Duration"), (18, u "(Ljava/util/List;)V"), (2, u "SINGLE_ATTEMPT"), (0, u "Lcom/example/entrega/entrega/RetrySchedule;"), (6, u "waitAfter"), (0, u "(I)Ljava/time/Duration;")] 24

def k16c0 : Code := { maxStack := 2, maxLocals := 2, code := prog_14_method_1_code, exceptionTable := #[], attributes := #[] }
def k16m0 : Method := { name := "<init>", desc := "(Ljava/util/List;)V", sig := { parameters := [(.object "java/util/List")], returnType := none }, accessFlags := 1, code := some k16c0 }
def k16c1 : Code := { maxStack := 3, maxLocals := 2, code := prog_14_method_2_code, exceptionTable := #[], attributes := #[] }
def k16m1 : Method := { name := "waitAfter", desc := "(I)Ljava/time/Duration;", sig := { parameters := [.int], returnType := some (.object "java/time/Duration") }, accessFlags := 0, code := some k16c1 }
/-- com/example/entrega/entrega/RetrySchedule -/
def k16 : Class := { plain "com/example/entrega/entrega/RetrySchedule" (some 15) with
  accessFlags := 49
  interfaces := #[]
  cf := some (fileOf pool16 14 #[] #[{ accessFlags := 1, nameIndex := 5, descriptorIndex := 47, attributes := #[] }, { accessFlags := 0, nameIndex := 58, descriptorIndex := 59, attributes := #[] }] 49 2 #[] #[{ accessFlags := 18, nameIndex := 17, descriptorIndex := 18, attributes := #[] }, { accessFlags := 24, nameIndex := 50, descriptorIndex := 51, attributes := #[] }])
  fields := #[{ name := "waits", type := (.object "java/util/List"), accessFlags := 18, slot := 0, constantValue := 0 }, { name := "SINGLE_ATTEMPT", type := (.object "com/example/entrega/entrega/RetrySchedule"), accessFlags := 24, slot := 0, constantValue := 0 }]
  methods := #[k16m0, k16m1]
  instanceTypes := #[(.object "java/util/List")]
  staticTypes := #[(.object "com/example/entrega/entrega/RetrySchedule")]
  resolved := Array.replicate 84 none
  statics := none }

def pool17 : Array CpInfo := pool [(2, .class_ 4), (1, u "java/lang/Object"), (0, u "<init>"), (0, u "()V"), (3, .class_ 11), (0, u "java/util/ImmutableCollections$List12"), (0, .class_ 13), (0, u "java/util/ImmutableCollections$ListN"), (3, u "Z"), (0, .class_ 19), (0, u "java/util/List"), (0, .interfaceMethodref 21 22), (0, .class_ 23), (0, .nameAndType 24 25), (0, u "java/util/Collection"), (0, u "isEmpty"), (0, u "()Z"), (0, .interfaceMethodref 18 27), (0, .nameAndType 28 29), (0, u "of"), (0, u "()Ljava/util/List;"), (0, .interfaceMethodref 21 31), (0, .nameAndType 32 33), (0, u "toArray"), (0, u "()[Ljava/lang/Object;"), (0, .interfaceMethodref 18 35), (0, .nameAndType 28 36), (0, u "([Ljava/lang/Object;)Ljava/util/List;"), (0, .methodref 38 39), (0, .class_ 40), (0, .nameAndType 41 42), (0, u "java/util/Objects"), (0, u "requireNonNull"), (0, u "(Ljava/lang/Object;)Ljava/lang/Object;"), (0, .methodref 12 44), (0, .nameAndType 5 45), (0, u "([Ljava/lang/Object;Z)V"), (1, .class_ 49), (1, u "java/util/ImmutableCollections"), (0, u "$assertionsDisabled"), (5, u "[Ljava/lang/Object;"), (5, u "EMPTY_LIST"), (0, u "Ljava/util/ImmutableCollections$ListN;"), (8, u "EMPTY_LIST_NULLS"), (22, u "SALT32L"), (0, u "J"), (2, u "REVERSE"), (6, u "archivedObjects"), (2, u "EMPTY"), (0, u "Ljava/lang/Object;"), (0, .class_ 112), (0, u "java/util/ImmutableCollections$SetN"), (5, u "EMPTY_SET"), (0, u "Ljava/util/ImmutableCollections$SetN;"), (0, .class_ 121), (0, u "java/util/ImmutableCollections$MapN"), (3, u "EMPTY_MAP"), (0, u "Ljava/util/ImmutableCollections$MapN;"), (4, u "EXPAND_FACTOR"), (0, u "I"), (9, u "listCopy"), (0, u "(Ljava/util/Collection;)Ljava/util/List;"), (7, u "listFromArray"), (17, .class_ 170), (0, u "java/util/ImmutableCollections$MapN$MapNIterator"), (0, .class_ 172), (0, u "java/util/ImmutableCollections$MapN$1"), (0, .class_ 174), (0, u "java/util/ImmutableCollections$Map1"), (0, .class_ 176), (0, u "java/util/ImmutableCollections$AbstractImmutableMap"), (0, .class_ 178), (0, u "java/util/ImmutableCollections$SetN$SetNIterator"), (0, .class_ 180), (0, u "java/util/ImmutableCollections$Set12"), (0, .class_ 182), (0, u "java/util/ImmutableCollections$Set12$1"), (0, .class_ 184), (0, u "java/util/ImmutableCollections$AbstractImmutableSet"), (0, .class_ 186), (0, u "java/util/ImmutableCollections$SubList"), (0, .class_ 188), (0, u "java/util/ImmutableCollections$ListItr"), (0, .class_ 190), (0, u "java/util/ImmutableCollections$AbstractImmutableList"), (0, .class_ 192), (0, u "java/util/ImmutableCollections$AbstractImmutableCollection"), (0, .class_ 194), (0, u "java/util/ImmutableCollections$Access"), (0, .class_ 196), (0, u "java/util/ImmutableCollections$Access$1")] 16

def k17m0 : Method := { name := "<init>", desc := "()V", sig := { parameters := [], returnType := none }, accessFlags := 2, code := none }
def k17c1 : Code := { maxStack := 1, maxLocals := 2, code := jdk_56_method_3_code, exceptionTable := #[], attributes := #[] }
def k17m1 : Method := { name := "listCopy", desc := "(Ljava/util/Collection;)Ljava/util/List;", sig := { parameters := [(.object "java/util/Collection")], returnType := some (.object "java/util/List") }, accessFlags := 8, code := some k17c1 }
def k17c2 : Code := { maxStack := 4, maxLocals := 3, code := jdk_56_method_4_code, exceptionTable := #[], attributes := #[] }
def k17m2 : Method := { name := "listFromArray", desc := "([Ljava/lang/Object;)Ljava/util/List;", sig := { parameters := [(.array (.object "java/lang/Object"))], returnType := some (.object "java/util/List") }, accessFlags := 136, code := some k17c2 }
/-- java/util/ImmutableCollections -/
def k17 : Class := { plain "java/util/ImmutableCollections" (some 0) with
  accessFlags := 32
  interfaces := #[]
  cf := some (fileOf pool17 47 #[.nestMembers #[120, 169, 171, 173, 175, 111, 177, 179, 181, 183, 12, 10, 185, 187, 189, 191, 193, 195]] #[{ accessFlags := 2, nameIndex := 5, descriptorIndex := 6, attributes := #[] }, { accessFlags := 8, nameIndex := 142, descriptorIndex := 143, attributes := #[] }, { accessFlags := 136, nameIndex := 151, descriptorIndex := 36, attributes := #[] }] 32 2 #[] #[{ accessFlags := 26, nameIndex := 95, descriptorIndex := 96, attributes := #[] }, { accessFlags := 26, nameIndex := 99, descriptorIndex := 17, attributes := #[] }, { accessFlags := 10, nameIndex := 106, descriptorIndex := 56, attributes := #[] }, { accessFlags := 26, nameIndex := 109, descriptorIndex := 110, attributes := #[] }, { accessFlags := 24, nameIndex := 62, descriptorIndex := 63, attributes := #[] }, { accessFlags := 24, nameIndex := 72, descriptorIndex := 63, attributes := #[] }, { accessFlags := 24, nameIndex := 118, descriptorIndex := 119, attributes := #[] }, { accessFlags := 24, nameIndex := 125, descriptorIndex := 126, attributes := #[] }, { accessFlags := 24, nameIndex := 131, descriptorIndex := 132, attributes := #[] }, { accessFlags := 4120, nameIndex := 50, descriptorIndex := 17, attributes := #[] }])
  fields := #[{ name := "SALT32L", type := .long, accessFlags := 26, slot := 0, constantValue := 0 }, { name := "REVERSE", type := .boolean, accessFlags := 26, slot := 1, constantValue := 0 }, { name := "archivedObjects", type := (.array (.object "java/lang/Object")), accessFlags := 10, slot := 2, constantValue := 0 }, { name := "EMPTY", type := (.object "java/lang/Object"), accessFlags := 26, slot := 3, constantValue := 0 }, { name := "EMPTY_LIST", type := (.object "java/util/ImmutableCollections$ListN"), accessFlags := 24, slot := 4, constantValue := 0 }, { name := "EMPTY_LIST_NULLS", type := (.object "java/util/ImmutableCollections$ListN"), accessFlags := 24, slot := 5, constantValue := 0 }, { name := "EMPTY_SET", type := (.object "java/util/ImmutableCollections$SetN"), accessFlags := 24, slot := 6, constantValue := 0 }, { name := "EMPTY_MAP", type := (.object "java/util/ImmutableCollections$MapN"), accessFlags := 24, slot := 7, constantValue := 0 }, { name := "EXPAND_FACTOR", type := .int, accessFlags := 24, slot := 8, constantValue := 0 }, { name := "$assertionsDisabled", type := .boolean, accessFlags := 4120, slot := 9, constantValue := 0 }]
  methods := #[k17m0, k17m1, k17m2]
  instanceTypes := #[]
  staticTypes := #[.long, .boolean, (.array (.object "java/lang/Object")), (.object "java/lang/Object"), (.object "java/util/ImmutableCollections$ListN"), (.object "java/util/ImmutableCollections$ListN"), (.object "java/util/ImmutableCollections$SetN"), (.object "java/util/ImmutableCollections$MapN"), .int, .boolean]
  resolved := Array.replicate 213 none
  statics := some 2 }

def pool18 : Array CpInfo := pool [(1, .methodref 2 3), (0, .class_ 4), (0, .nameAndType 5 6), (0, u "java/util/AbstractCollection"), (0, u "<init>"), (0, u "()V"), (1, .class_ 10), (1, u "java/util/ImmutableCollections"), (2, .class_ 14), (0, u "java/util/ImmutableCollections$AbstractImmutableCollection")] 41

def k18c0 : Code := { maxStack := 1, maxLocals := 1, code := jdk_47_method_1_code, exceptionTable := #[], attributes := #[] }
def k18m0 : Method := { name := "<init>", desc := "()V", sig := { parameters := [], returnType := none }, accessFlags := 0, code := some k18c0 }
/-- java/util/ImmutableCollections$AbstractImmutableCollection -/
def k18 : Class := { plain "java/util/ImmutableCollections$AbstractImmutableCollection" (some 8) with
  accessFlags := 1056
  interfaces := #[]
  cf := some (fileOf pool18 13 #[.nestHost 8] #[{ accessFlags := 0, nameIndex := 5, descriptorIndex := 6, attributes := #[] }] 1056 2 #[] #[])
  fields := #[]
  methods := #[k18m0]
  instanceTypes := #[]
  staticTypes := #[]
  resolved := Array.replicate 56 none
  statics := none }

def pool19 : Array CpInfo := pool [(1, .methodref 2 3), (0, .class_ 4), (0, .nameAndType 5 6), (0, u "java/util/ImmutableCollections$AbstractImmutableCollection"), (0, u "<init>"), (0, u "()V"), (1, .class_ 10), (1, u "java/util/ImmutableCollections"), (3, .class_ 16), (1, u "java/util/ImmutableCollections$AbstractImmutableList"), (60, .class_ 78), (0, u "java/util/List"), (45, .class_ 125), (0, u "java/util/RandomAccess")] 70

def k19c0 : Code := { maxStack := 1, maxLocals := 1, code := jdk_46_method_1_code, exceptionTable := #[], attributes := #[] }
def k19m0 : Method := { name := "<init>", desc := "()V", sig := { parameters := [], returnType := none }, accessFlags := 0, code := some k19c0 }
/-- java/util/ImmutableCollections$AbstractImmutableList -/
def k19 : Class := { plain "java/util/ImmutableCollections$AbstractImmutableList" (some 18) with
  accessFlags := 1056
  interfaces := #[10, 12]
  cf := some (fileOf pool19 14 #[.nestHost 8] #[{ accessFlags := 0, nameIndex := 5, descriptorIndex := 6, attributes := #[] }] 1056 2 #[77, 124] #[])
  fields := #[]
  methods := #[k19m0]
  instanceTypes := #[]
  staticTypes := #[]
  resolved := Array.replicate 196 none
  statics := none }

def pool20 : Array CpInfo := pool [(1, .methodref 2 3), (0, .class_ 4), (0, .nameAndType 5 6), (0, u "java/util/ImmutableCollections$AbstractImmutableList"), (0, u "<init>"), (0, u "()V"), (0, .methodref 8 9), (0, .class_ 10), (0, .nameAndType 11 12), (0, u "java/util/Objects"), (0, u "requireNonNull"), (0, u "(Ljava/lang/Object;)Ljava/lang/Object;"), (0, .fieldref 14 15), (0, .class_ 16), (0, .nameAndType 17 18), (0, u "java/util/ImmutableCollections$List12"), (0, u "e0"), (0, u "Ljava/lang/Object;"), (0, .fieldref 20 21), (0, .class_ 22), (0, .nameAndType 23 18), (0, u "java/util/ImmutableCollections"), (0, u "EMPTY"), (0, .fieldref 14 25), (0, .nameAndType 26 18), (0, u "e1"), (24, u "size"), (0, u "()I"), (17, .class_ 71), (0, u "java/io/Serializable"), (4, u "(Ljava/lang/Object;)V"), (8, u "(Ljava/lang/Object;Ljava/lang/Object;)V"), (4, u "get"), (0, u "(I)Ljava/lang/Object;")] 33

def k20c0 : Code := { maxStack := 2, maxLocals := 2, code := jdk_44_method_1_code, exceptionTable := #[], attributes := #[] }
def k20m0 : Method := { name := "<init>", desc := "(Ljava/lang/Object;)V", sig := { parameters := [(.object "java/lang/Object")], returnType := none }, accessFlags := 0, code := some k20c0 }
def k20c1 : Code := { maxStack := 2, maxLocals := 3, code := jdk_44_method_2_code, exceptionTable := #[], attributes := #[] }
def k20m1 : Method := { name := "<init>", desc := "(Ljava/lang/Object;Ljava/lang/Object;)V", sig := { parameters := [(.object "java/lang/Object"), (.object "java/lang/Object")], returnType := none }, accessFlags := 0, code := some k20c1 }
def k20c2 : Code := { maxStack := 2, maxLocals := 1, code := jdk_44_method_3_code, exceptionTable := #[], attributes := #[] }
def k20m2 : Method := { name := "size", desc := "()I", sig := { parameters := [], returnType := some .int }, accessFlags := 1, code := some k20c2 }
def k20c3 : Code := { maxStack := 2, maxLocals := 2, code := jdk_44_method_5_code, exceptionTable := #[], attributes := #[] }
def k20m3 : Method := { name := "get", desc := "(I)Ljava/lang/Object;", sig := { parameters := [.int], returnType := some (.object "java/lang/Object") }, accessFlags := 1, code := some k20c3 }
/-- java/util/ImmutableCollections$List12 -/
def k20 : Class := { plain "java/util/ImmutableCollections$List12" (some 19) with
  accessFlags := 48
  interfaces := #[4]
  cf := some (fileOf pool20 14 #[.nestHost 20] #[{ accessFlags := 0, nameIndex := 5, descriptorIndex := 76, attributes := #[] }, { accessFlags := 0, nameIndex := 5, descriptorIndex := 85, attributes := #[] }, { accessFlags := 1, nameIndex := 51, descriptorIndex := 52, attributes := #[] }, { accessFlags := 1, nameIndex := 90, descriptorIndex := 91, attributes := #[] }] 48 2 #[70] #[{ accessFlags := 18, nameIndex := 17, descriptorIndex := 18, attributes := #[] }, { accessFlags := 18, nameIndex := 26, descriptorIndex := 18, attributes := #[] }])
  fields := #[{ name := "e0", type := (.object "java/lang/Object"), accessFlags := 18, slot := 0, constantValue := 0 }, { name := "e1", type := (.object "java/lang/Object"), accessFlags := 18, slot := 1, constantValue := 0 }]
  methods := #[k20m0, k20m1, k20m2, k20m3]
  instanceTypes := #[(.object "java/lang/Object"), (.object "java/lang/Object")]
  staticTypes := #[]
  resolved := Array.replicate 125 none
  statics := none }

def pool21 : Array CpInfo := pool [(1, .methodref 2 3), (0, .class_ 4), (0, .nameAndType 5 6), (0, u "java/util/ImmutableCollections$AbstractImmutableList"), (0, u "<init>"), (0, u "()V"), (0, .fieldref 8 9), (0, .class_ 10), (0, .nameAndType 11 12), (0, u "java/util/ImmutableCollections$ListN"), (0, u "elements"), (0, u "[Ljava/lang/Object;"), (0, .fieldref 8 14), (0, .nameAndType 15 16), (0, u "allowNulls"), (0, u "Z"), (42, .class_ 60), (0, u "java/io/Serializable"), (4, u "([Ljava/lang/Object;Z)V"), (11, u "size"), (0, u "()I"), (0, u "get"), (0, u "(I)Ljava/lang/Object;"), (33, .class_ 115), (0, u "java/util/ImmutableCollections")] 3

def k21c0 : Code := { maxStack := 2, maxLocals := 3, code := jdk_45_method_1_code, exceptionTable := #[], attributes := #[] }
def k21m0 : Method := { name := "<init>", desc := "([Ljava/lang/Object;Z)V", sig := { parameters := [(.array (.object "java/lang/Object")), .boolean], returnType := none }, accessFlags := 2, code := some k21c0 }
def k21c1 : Code := { maxStack := 1, maxLocals := 1, code := jdk_45_method_3_code, exceptionTable := #[], attributes := #[] }
def k21m1 : Method := { name := "size", desc := "()I", sig := { parameters := [], returnType := some .int }, accessFlags := 1, code := some k21c1 }
def k21c2 : Code := { maxStack := 2, maxLocals := 2, code := jdk_45_method_4_code, exceptionTable := #[], attributes := #[] }
def k21m2 : Method := { name := "get", desc := "(I)Ljava/lang/Object;", sig := { parameters := [.int], returnType := some (.object "java/lang/Object") }, accessFlags := 1, code := some k21c2 }
/-- java/util/ImmutableCollections$ListN -/
def k21 : Class := { plain "java/util/ImmutableCollections$ListN" (some 19) with
  accessFlags := 48
  interfaces := #[4]
  cf := some (fileOf pool21 8 #[.nestHost 114] #[{ accessFlags := 2, nameIndex := 5, descriptorIndex := 65, attributes := #[] }, { accessFlags := 1, nameIndex := 77, descriptorIndex := 78, attributes := #[] }, { accessFlags := 1, nameIndex := 79, descriptorIndex := 80, attributes := #[] }] 48 2 #[59] #[{ accessFlags := 18, nameIndex := 11, descriptorIndex := 12, attributes := #[] }, { accessFlags := 18, nameIndex := 15, descriptorIndex := 16, attributes := #[] }])
  fields := #[{ name := "elements", type := (.array (.object "java/lang/Object")), accessFlags := 18, slot := 0, constantValue := 0 }, { name := "allowNulls", type := .boolean, accessFlags := 18, slot := 1, constantValue := 0 }]
  methods := #[k21m0, k21m1, k21m2]
  instanceTypes := #[(.array (.object "java/lang/Object")), .boolean]
  staticTypes := #[]
  resolved := Array.replicate 119 none
  statics := none }

def pool22 : Array CpInfo := pool [(1, .class_ 2), (0, u "java/lang/Math"), (1, .class_ 6), (1, u "java/lang/Object"), (0, u "<init>"), (0, u "()V"), (89, .class_ 100), (1, u "java/lang/Math$RandomNumberGeneratorHolder"), (71, u "negativeZeroFloatBits"), (0, u "J"), (2, u "negativeZeroDoubleBits"), (21, u "max"), (2, u "min"), (43, u "$assertionsDisabled"), (0, u "Z"), (88, u "(II)I"), (2, u "twoToTheDoubleScaleDown"), (0, u "D"), (4, u "twoToTheDoubleScaleUp"), (9, u "E"), (3, u "PI"), (2, u "TAU"), (2, u "DEGREES_TO_RADIANS"), (0, u "RADIANS_TO_DEGREES")] 94

def k22m0 : Method := { name := "<init>", desc := "()V", sig := { parameters := [], returnType := none }, accessFlags := 2, code := none }
def k22c1 : Code := { maxStack := 2, maxLocals := 2, code := jdk_29_method_65_code, exceptionTable := #[], attributes := #[] }
def k22m1 : Method := { name := "max", desc := "(II)I", sig := { parameters := [.int, .int], returnType := some .int }, accessFlags := 9, code := some k22c1 }
def k22c2 : Code := { maxStack := 2, maxLocals := 2, code := jdk_29_method_69_code, exceptionTable := #[], attributes := #[] }
def k22m2 : Method := { name := "min", desc := "(II)I", sig := { parameters := [.int, .int], returnType := some .int }, accessFlags := 9, code := some k22c2 }
/-- java/lang/Math -/
def k22 : Class := { plain "java/lang/Math" (some 0) with
  accessFlags := 49
  interfaces := #[]
  cf := some (fileOf pool22 1 #[.nestMembers #[98]] #[{ accessFlags := 2, nameIndex := 7, descriptorIndex := 8, attributes := #[] }, { accessFlags := 9, nameIndex := 198, descriptorIndex := 335, attributes := #[] }, { accessFlags := 9, nameIndex := 201, descriptorIndex := 335, attributes := #[] }] 49 4 #[] #[{ accessFlags := 25, nameIndex := 354, descriptorIndex := 339, attributes := #[] }, { accessFlags := 25, nameIndex := 358, descriptorIndex := 339, attributes := #[] }, { accessFlags := 25, nameIndex := 361, descriptorIndex := 339, attributes := #[] }, { accessFlags := 26, nameIndex := 364, descriptorIndex := 339, attributes := #[] }, { accessFlags := 26, nameIndex := 365, descriptorIndex := 339, attributes := #[] }, { accessFlags := 26, nameIndex := 172, descriptorIndex := 173, attributes := #[] }, { accessFlags := 26, nameIndex := 176, descriptorIndex := 173, attributes := #[] }, { accessFlags := 8, nameIndex := 344, descriptorIndex := 339, attributes := #[] }, { accessFlags := 8, nameIndex := 338, descriptorIndex := 339, attributes := #[] }, { accessFlags := 4120, nameIndex := 245, descriptorIndex := 246, attributes := #[] }])
  fields := #[{ name := "E", type := .double, accessFlags := 25, slot := 0, constantValue := 0 }, { name := "PI", type := .double, accessFlags := 25, slot := 1, constantValue := 0 }, { name := "TAU", type := .double, accessFlags := 25, slot := 2, constantValue := 0 }, { name := "DEGREES_TO_RADIANS", type := .double, accessFlags := 26, slot := 3, constantValue := 0 }, { name := "RADIANS_TO_DEGREES", type := .double, accessFlags := 26, slot := 4, constantValue := 0 }, { name := "negativeZeroFloatBits", type := .long, accessFlags := 26, slot := 5, constantValue := 0 }, { name := "negativeZeroDoubleBits", type := .long, accessFlags := 26, slot := 6, constantValue := 0 }, { name := "twoToTheDoubleScaleUp", type := .double, accessFlags := 8, slot := 7, constantValue := 0 }, { name := "twoToTheDoubleScaleDown", type := .double, accessFlags := 8, slot := 8, constantValue := 0 }, { name := "$assertionsDisabled", type := .boolean, accessFlags := 4120, slot := 9, constantValue := 0 }]
  methods := #[k22m0, k22m1, k22m2]
  instanceTypes := #[]
  staticTypes := #[.double, .double, .double, .double, .double, .long, .long, .double, .double, .boolean]
  resolved := Array.replicate 460 none
  statics := none }

def pool23 : Array CpInfo := pool [(2, .class_ 4), (1, u "java/lang/Object"), (0, u "<init>"), (0, u "()V"), (7, .class_ 16), (1, u "java/util/Arrays"), (57, .class_ 76), (1, u "java/util/Arrays$NaturalOrder"), (9, .methodref 2 87), (0, .nameAndType 88 89), (0, u "getClass"), (0, u "()Ljava/lang/Class;"), (20, .class_ 111), (0, u "[Ljava/lang/Object;"), (1, .class_ 115), (1, u "java/util/Arrays$LegacyMergeSort"), (1, u "Z"), (32, .methodref 151 152), (0, .class_ 153), (0, .nameAndType 154 155), (0, u "java/lang/System"), (0, u "arraycopy"), (0, u "(Ljava/lang/Object;ILjava/lang/Object;II)V"), (144, .methodref 14 301), (0, .nameAndType 302 303), (0, u "copyOf"), (0, u "([Ljava/lang/Object;ILjava/lang/Class;)[Ljava/lang/Object;"), (0, .methodref 305 306), (0, .class_ 307), (0, .nameAndType 308 309), (0, u "java/lang/Math"), (0, u "min"), (0, u "(II)I"), (65, .class_ 376), (0, u "java/util/Arrays$ArrayList"), (68, u "$assertionsDisabled"), (269, u "MIN_ARRAY_SORT_GRAN"), (0, u "I"), (2, u "INSERTIONSORT_THRESHOLD"), (140, u "([Ljava/lang/Object;I)[Ljava/lang/Object;"), (114, .class_ 976), (0, u "java/util/Arrays$ArrayItr")] 52

def k23m0 : Method := { name := "<init>", desc := "()V", sig := { parameters := [], returnType := none }, accessFlags := 2, code := none }
def k23c1 : Code := { maxStack := 3, maxLocals := 2, code := jdk_65_method_119_code, exceptionTable := #[], attributes := #[] }
def k23m1 : Method := { name := "copyOf", desc := "([Ljava/lang/Object;I)[Ljava/lang/Object;", sig := { parameters := [(.array (.object "java/lang/Object")), .int], returnType := some (.array (.object "java/lang/Object")) }, accessFlags := 9, code := some k23c1 }
def k23c2 : Code := { maxStack := 6, maxLocals := 4, code := jdk_65_method_120_code, exceptionTable := #[], attributes := #[] }
def k23m2 : Method := { name := "copyOf", desc := "([Ljava/lang/Object;ILjava/lang/Class;)[Ljava/lang/Object;", sig := { parameters := [(.array (.object "java/lang/Object")), .int, (.object "java/lang/Class")], returnType := some (.array (.object "java/lang/Object")) }, accessFlags := 9, code := some k23c2 }
/-- java/util/Arrays -/
def k23 : Class := { plain "java/util/Arrays" (some 0) with
  accessFlags := 49
  interfaces := #[]
  cf := some (fileOf pool23 14 #[.nestMembers #[975, 375, 113, 74]] #[{ accessFlags := 2, nameIndex := 5, descriptorIndex := 6, attributes := #[] }, { accessFlags := 9, nameIndex := 302, descriptorIndex := 860, attributes := #[] }, { accessFlags := 9, nameIndex := 302, descriptorIndex := 303, attributes := #[] }] 49 2 #[] #[{ accessFlags := 26, nameIndex := 715, descriptorIndex := 716, attributes := #[] }, { accessFlags := 26, nameIndex := 719, descriptorIndex := 716, attributes := #[] }, { accessFlags := 4120, nameIndex := 445, descriptorIndex := 117, attributes := #[] }])
  fields := #[{ name := "MIN_ARRAY_SORT_GRAN", type := .int, accessFlags := 26, slot := 0, constantValue := 0 }, { name := "INSERTIONSORT_THRESHOLD", type := .int, accessFlags := 26, slot := 1, constantValue := 0 }, { name := "$assertionsDisabled", type := .boolean, accessFlags := 4120, slot := 2, constantValue := 0 }]
  methods := #[k23m0, k23m1, k23m2]
  instanceTypes := #[]
  staticTypes := #[.int, .int, .boolean]
  resolved := Array.replicate 1029 none
  statics := none }

def pool24 : Array CpInfo := pool [(2, .class_ 4), (1, u "java/lang/Object"), (0, u "<init>"), (0, u "()V"), (1, .class_ 10), (1, u "java/lang/System"), (0, u "allowSecurityManager"), (0, u "I"), (16, u "cons"), (0, u "Ljava/io/Console;"), (77, .class_ 110), (1, u "java/lang/System$CallersHolder"), (43, u "initialErrStream"), (0, u "Ljava/io/PrintStream;"), (19, u "security"), (0, u "Ljava/lang/SecurityManager;"), (31, .class_ 209), (0, u "java/lang/System$1"), (7, u "props"), (0, u "Ljava/util/Properties;"), (2, u "lineSeparator"), (0, u "Ljava/lang/String;"), (96, .class_ 321), (1, u "java/lang/System$LoggerFinder"), (5, .class_ 328), (0, u "java/lang/System$Logger"), (67, u "err"), (2, u "out"), (91, u "notSupportedJnuEncoding"), (15, u "in"), (17, u "initialIn"), (0, u "Ljava/io/InputStream;"), (35, u "bootLayer"), (0, u "Ljava/lang/ModuleLayer;"), (99, .class_ 664), (0, u "java/lang/System$2"), (9, u "NEVER"), (2, u "MAYBE"), (49, u "arraycopy"), (0, u "(Ljava/lang/Object;ILjava/lang/Object;II)V"), (72, .class_ 802), (0, u "java/lang/System$Logger$Level")] 31

def k24m0 : Method := { name := "<init>", desc := "()V", sig := { parameters := [], returnType := none }, accessFlags := 2, code := none }
def k24m1 : Method := { name := "arraycopy", desc := "(Ljava/lang/Object;ILjava/lang/Object;II)V", sig := { parameters := [(.object "java/lang/Object"), .int, (.object "java/lang/Object"), .int, .int], returnType := none }, accessFlags := 265, code := none }
/-- java/lang/System -/
def k24 : Class := { plain "java/lang/System" (some 0) with
  accessFlags := 49
  interfaces := #[]
  cf := some (fileOf pool24 8 #[.nestMembers #[319, 327, 801, 108, 663, 208]] #[{ accessFlags := 2, nameIndex := 5, descriptorIndex := 6, attributes := #[] }, { accessFlags := 265, nameIndex := 727, descriptorIndex := 728, attributes := #[] }] 49 2 #[] #[{ accessFlags := 25, nameIndex := 507, descriptorIndex := 526, attributes := #[] }, { accessFlags := 25, nameIndex := 399, descriptorIndex := 155, attributes := #[] }, { accessFlags := 25, nameIndex := 396, descriptorIndex := 155, attributes := #[] }, { accessFlags := 10, nameIndex := 525, descriptorIndex := 526, attributes := #[] }, { accessFlags := 26, nameIndex := 674, descriptorIndex := 12, attributes := #[] }, { accessFlags := 26, nameIndex := 677, descriptorIndex := 12, attributes := #[] }, { accessFlags := 10, nameIndex := 11, descriptorIndex := 12, attributes := #[] }, { accessFlags := 74, nameIndex := 175, descriptorIndex := 176, attributes := #[] }, { accessFlags := 10, nameIndex := 491, descriptorIndex := 222, attributes := #[] }, { accessFlags := 74, nameIndex := 29, descriptorIndex := 30, attributes := #[] }, { accessFlags := 74, nameIndex := 154, descriptorIndex := 155, attributes := #[] }, { accessFlags := 10, nameIndex := 217, descriptorIndex := 218, attributes := #[] }, { accessFlags := 10, nameIndex := 221, descriptorIndex := 222, attributes := #[] }, { accessFlags := 8, nameIndex := 562, descriptorIndex := 563, attributes := #[] }])
  fields := #[{ name := "in", type := (.object "java/io/InputStream"), accessFlags := 25, slot := 0, constantValue := 0 }, { name := "out", type := (.object "java/io/PrintStream"), accessFlags := 25, slot := 1, constantValue := 0 }, { name := "err", type := (.object "java/io/PrintStream"), accessFlags := 25, slot := 2, constantValue := 0 }, { name := "initialIn", type := (.object "java/io/InputStream"), accessFlags := 10, slot := 3, constantValue := 0 }, { name := "NEVER", type := .int, accessFlags := 26, slot := 4, constantValue := 0 }, { name := "MAYBE", type := .int, accessFlags := 26, slot := 5, constantValue := 0 }, { name := "allowSecurityManager", type := .int, accessFlags := 10, slot := 6, constantValue := 0 }, { name := "security", type := (.object "java/lang/SecurityManager"), accessFlags := 74, slot := 7, constantValue := 0 }, { name := "notSupportedJnuEncoding", type := (.object "java/lang/String"), accessFlags := 10, slot := 8, constantValue := 0 }, { name := "cons", type := (.object "java/io/Console"), accessFlags := 74, slot := 9, constantValue := 0 }, { name := "initialErrStream", type := (.object "java/io/PrintStream"), accessFlags := 74, slot := 10, constantValue := 0 }, { name := "props", type := (.object "java/util/Properties"), accessFlags := 10, slot := 11, constantValue := 0 }, { name := "lineSeparator", type := (.object "java/lang/String"), accessFlags := 10, slot := 12, constantValue := 0 }, { name := "bootLayer", type := (.object "java/lang/ModuleLayer"), accessFlags := 8, slot := 13, constantValue := 0 }]
  methods := #[k24m0, k24m1]
  instanceTypes := #[]
  staticTypes := #[(.object "java/io/InputStream"), (.object "java/io/PrintStream"), (.object "java/io/PrintStream"), (.object "java/io/InputStream"), .int, .int, .int, (.object "java/lang/SecurityManager"), (.object "java/lang/String"), (.object "java/io/Console"), (.object "java/io/PrintStream"), (.object "java/util/Properties"), (.object "java/lang/String"), (.object "java/lang/ModuleLayer")]
  resolved := Array.replicate 834 none
  statics := none }

def pool25 : Array CpInfo := pool [(2, .class_ 4), (1, u "java/lang/Object"), (0, u "<init>"), (0, u "()V"), (35, .class_ 44), (1, u "java/util/Objects"), (0, u "requireNonNull"), (0, u "(Ljava/lang/Object;)Ljava/lang/Object;")] 137

def k25m0 : Method := { name := "<init>", desc := "()V", sig := { parameters := [], returnType := none }, accessFlags := 2, code := none }
def k25c1 : Code := { maxStack := 2, maxLocals := 1, code := jdk_31_method_10_code, exceptionTable := #[], attributes := #[] }
def k25m1 : Method := { name := "requireNonNull", desc := "(Ljava/lang/Object;)Ljava/lang/Object;", sig := { parameters := [(.object "java/lang/Object")], returnType := some (.object "java/lang/Object") }, accessFlags := 9, code := some k25c1 }
/-- java/util/Objects -/
def k25 : Class := { plain "java/util/Objects" (some 0) with
  accessFlags := 49
  interfaces := #[]
  cf := some (fileOf pool25 42 #[] #[{ accessFlags := 2, nameIndex := 5, descriptorIndex := 6, attributes := #[] }, { accessFlags := 9, nameIndex := 45, descriptorIndex := 46, attributes := #[] }] 49 2 #[] #[])
  fields := #[]
  methods := #[k25m0, k25m1]
  instanceTypes := #[]
  staticTypes := #[]
  resolved := Array.replicate 184 none
  statics := none }

def pool26 : Array CpInfo := pool [(1, u "java/lang/Class"), (0, .class_ 1), (0, u "java/lang/Object"), (0, .class_ 3)] 3

/-- java/lang/Class -/
def k26 : Class := { plain "java/lang/Class" (some 0) with
  accessFlags := 49
  interfaces := #[]
  cf := some (fileOf pool26 2 #[] #[] 49 4 #[] #[])
  fields := #[]
  methods := #[]
  instanceTypes := #[]
  staticTypes := #[]
  resolved := Array.replicate 8 none
  statics := none }

/-- the primitive byte -/
def k27 : Class := { plain "byte" none with kind := .primitive 'B', accessFlags := 0x411 }
/-- [B -/
def k28 : Class := { plain "[B" (some 0) with kind := .array 27 .byte, interfaces := #[13, 4], accessFlags := 1041 }

/-- the primitive int -/
def k29 : Class := { plain "int" none with kind := .primitive 'I', accessFlags := 0x411 }
/-- [I -/
def k30 : Class := { plain "[I" (some 0) with kind := .array 29 .int, interfaces := #[13, 4], accessFlags := 1041 }

/-- [Ljava/lang/Object; -/
def k31 : Class := { plain "[Ljava/lang/Object;" (some 0) with kind := .array 0 (.object "java/lang/Object"), interfaces := #[13, 4], accessFlags := 1041, mirror := some 3 }

def heap : Heap := #[{ cls := 5, slots := #[.ref 8, .long 0, .null], vm := .statics 5 },
  { cls := 14, slots := #[.long 0, .int 0, .ref 4, .ref 5], vm := .statics 14 },
  { cls := 17, slots := #[.long 0, .int 0, .null, .ref 7, .ref 6, .null, .null, .null, .int 0, .int 1], vm := .statics 17 },
  { cls := 26, slots := #[], vm := .mirror 31 },
  { cls := 31, slots := #[], vm := .none },
  { cls := 31, slots := #[], vm := .none },
  { cls := 21, slots := #[.ref 4, .int 0], vm := .none },
  { cls := 0, slots := #[], vm := .none },
  { cls := 5, slots := #[.long 0, .int 0], vm := .none }]
def classes : Array Class := #[k0, k1, k2, k3, k4, k5, k6, k7, k8, k9, k10, k11, k12, k13, k14, k15, k16, k17, k18, k19, k20, k21, k22, k23, k24, k25, k26, k27, k28, k29, k30, k31]
def interned : List (Array UInt16 × Addr) := []
def slotsUsed : Nat := 21
def theMethod : MethodId := ⟨1, 1⟩
def args0 : Array Value := #[.int 3, .int 1, .long 5, .long 0, .long 7]
def aboutOver (below : List Frame) : State where
  vm := { classes := classes, interned := interned.toArray }
  heap := heap
  slotsUsed := slotsUsed
  threads := #[{ frames := .invoking theMethod args0 :: below }]
def below0 : List Frame := [.native { method := ⟨0, 0⟩, args := #[] }]
def about1 : State := aboutOver below0
def p0 : Program := .bare "" "" ""
def e0 : Env := launch0.env 0 0 0
theorem w_frames : about1.frames = Frame.invoking theMethod args0 :: below0 := rfl
set_option maxRecDepth 65536 in
theorem w_args : argsFit about1.vm theMethod args0 = true := by decide +kernel
set_option maxRecDepth 65536 in
theorem w_heap : heapFits about1 = true := by decide +kernel
set_option maxRecDepth 65536 in
theorem w_runnable : about1.curStatus? = some .runnable := by decide +kernel
set_option maxRecDepth 65536 in
theorem w_alone : about1.alone = true := by decide +kernel
set_option maxRecDepth 65536 in
theorem w_named : about1.methodNamed? x = some theMethod := by decide +kernel
set_option maxRecDepth 65536 in
theorem w_hears : about1.hears theMethod below0 = true := by decide +kernel
set_option maxRecDepth 65536 in
theorem w_ripe : about1.ripe theMethod args0 below0 = true := by decide +kernel
theorem w_running : about1.status = .running := rfl
set_option maxRecDepth 65536 in
theorem w_room : about1.hasRoom e0.platform room_1 = true :=
  launch0.hasRoom_least _ room_1 (by decide +kernel) (by decide +kernel) (by decide +kernel) (by decide +kernel) (by decide +kernel) (by decide +kernel)
theorem allAtoms_all (ts : List Jvm.Cond) (a : Array Jvm.Value) (st : Jvm.State) : (allAtoms ts).before a st = ts.all (fun c => c.before a st) := by
  induction ts with
  | nil => rfl
  | cons c t ih =>
    show (Jvm.Cond.and c (allAtoms t)).before a st = _
    rw [Jvm.Cond.before_and, ih, List.all_cons]
def words1 : List Jvm.Cond := Jvm.Cond.code x code maxLocals ret :: tables_1
/-- a 'code' word, met by the world's own term for the bytes: nothing is compared byte by byte -/
theorem code_word {y : MethodName} {bytes : ByteArray} {mx : Nat} {rt : Option FieldType} {a : Array Value} {s : State} {m : MethodId} {meth : Method} {c : Code} (h1 : s.methodNamed? y = some m) (h2 : s.vm.method? m = some meth) (h3 : meth.code = some c) (h4 : c.code = bytes)
    (h5 : (c.maxLocals == mx && c.exceptionTable.isEmpty && decide (c.maxStack ≤ mostOperands) && decide (meth.sig.returnType = rt) && !meth.locks && decide (parseMethodDescriptor y.desc = some meth.sig)) = true) : (Jvm.Cond.code y bytes mx rt).before a s = true := by
  simp only [Bool.and_eq_true, beq_iff_eq, Bool.not_eq_true', decide_eq_true_eq] at h5
  obtain ⟨⟨⟨⟨⟨g1, g2⟩, g3⟩, g4⟩, g5⟩, g6⟩ := h5
  simp [Cond.before, Cond.holds, Cond.value, h1, h2, h3, h4, g1, g2, g3, g4, g5, g6]
def isCode : Jvm.Cond → Bool
  | .code _ _ _ _ => true
  | _ => false
theorem all_split {L : List Jvm.Cond} {P : Jvm.Cond → Bool} (h1 : L.all (fun c => isCode c || P c) = true) (h2 : ∀ c ∈ L.filter isCode, P c = true) : L.all P = true := by
  refine List.all_eq_true.mpr fun c hc => ?_
  have h := List.all_eq_true.mp h1 c hc
  rcases Bool.eq_false_or_eq_true (isCode c) with hi | hi
  · exact h2 c (List.mem_filter.mpr ⟨hc, hi⟩)
  · simpa [hi] using h
set_option maxRecDepth 65536 in
theorem w_c0 : (Jvm.Cond.code x code maxLocals ret).before args0 about1 = true := code_word (m := ⟨1, 1⟩) (meth := k1m1) (c := k1c1) (by decide +kernel) rfl rfl rfl (by decide +kernel)
set_option maxRecDepth 65536 in
theorem w_c1 : (Jvm.Cond.code ({ cls := "java/time/Duration", name := "ofSeconds", desc := "(J)Ljava/time/Duration;" } : Jvm.MethodName) jdk_2316_method_4_code (2 : Nat) (Option.some (Jvm.ClassFile.FieldType.object "java/time/Duration"))).before args0 about1 = true := code_word (m := ⟨5, 0⟩) (meth := k5m0) (c := k5c0) (by decide +kernel) rfl rfl rfl (by decide +kernel)
set_option maxRecDepth 65536 in
theorem w_c2 : (Jvm.Cond.code ({ cls := "java/time/Duration", name := "create", desc := "(JI)Ljava/time/Duration;" } : Jvm.MethodName) jdk_2316_method_16_code (3 : Nat) (Option.some (Jvm.ClassFile.FieldType.object "java/time/Duration"))).before args0 about1 = true := code_word (m := ⟨5, 1⟩) (meth := k5m1) (c := k5c1) (by decide +kernel) rfl rfl rfl (by decide +kernel)
set_option maxRecDepth 65536 in
theorem w_c3 : (Jvm.Cond.code ({ cls := "java/time/Duration", name := "<init>", desc := "(JI)V" } : Jvm.MethodName) jdk_2316_method_17_code (4 : Nat) (Option.none : Option Jvm.ClassFile.FieldType)).before args0 about1 = true := code_word (m := ⟨5, 2⟩) (meth := k5m2) (c := k5c2) (by decide +kernel) rfl rfl rfl (by decide +kernel)
set_option maxRecDepth 65536 in
theorem w_c4 : (Jvm.Cond.code ({ cls := "java/lang/Object", name := "<init>", desc := "()V" } : Jvm.MethodName) object_method_1_code (1 : Nat) (Option.none : Option Jvm.ClassFile.FieldType)).before args0 about1 = true := code_word (m := ⟨0, 0⟩) (meth := k0m0) (c := k0c0) (by decide +kernel) rfl rfl rfl (by decide +kernel)
set_option maxRecDepth 65536 in
theorem w_c5 : (Jvm.Cond.code ({ cls := "java/util/ArrayList", name := "<init>", desc := "()V" } : Jvm.MethodName) jdk_38_method_2_code (1 : Nat) (Option.none : Option Jvm.ClassFile.FieldType)).before args0 about1 = true := code_word (m := ⟨14, 0⟩) (meth := k14m0) (c := k14c0) (by decide +kernel) rfl rfl rfl (by decide +kernel)
set_option maxRecDepth 65536 in
theorem w_c6 : (Jvm.Cond.code ({ cls := "java/util/AbstractList", name := "<init>", desc := "()V" } : Jvm.MethodName) jdk_39_method_1_code (1 : Nat) (Option.none : Option Jvm.ClassFile.FieldType)).before args0 about1 = true := code_word (m := ⟨11, 0⟩) (meth := k11m0) (c := k11c0) (by decide +kernel) rfl rfl rfl (by decide +kernel)
set_option maxRecDepth 65536 in
theorem w_c7 : (Jvm.Cond.code ({ cls := "java/util/AbstractCollection", name := "<init>", desc := "()V" } : Jvm.MethodName) jdk_22_method_1_code (1 : Nat) (Option.none : Option Jvm.ClassFile.FieldType)).before args0 about1 = true := code_word (m := ⟨8, 0⟩) (meth := k8m0) (c := k8c0) (by decide +kernel) rfl rfl rfl (by decide +kernel)
set_option maxRecDepth 65536 in
theorem w_c8 : (Jvm.Cond.code ({ cls := "com/example/entrega/entrega/RetrySchedule", name := "<init>", desc := "(Ljava/util/List;)V" } : Jvm.MethodName) prog_14_method_1_code (2 : Nat) (Option.none : Option Jvm.ClassFile.FieldType)).before args0 about1 = true := code_word (m := ⟨16, 0⟩) (meth := k16m0) (c := k16c0) (by decide +kernel) rfl rfl rfl (by decide +kernel)
set_option maxRecDepth 65536 in
theorem w_c9 : (Jvm.Cond.code ({ cls := "java/lang/Record", name := "<init>", desc := "()V" } : Jvm.MethodName) jdk_30_method_1_code (1 : Nat) (Option.none : Option Jvm.ClassFile.FieldType)).before args0 about1 = true := code_word (m := ⟨15, 0⟩) (meth := k15m0) (c := k15c0) (by decide +kernel) rfl rfl rfl (by decide +kernel)
set_option maxRecDepth 65536 in
theorem w_c10 : (Jvm.Cond.code ({ cls := "java/util/List", name := "copyOf", desc := "(Ljava/util/Collection;)Ljava/util/List;" } : Jvm.MethodName) jdk_40_method_48_code (1 : Nat) (Option.some (Jvm.ClassFile.FieldType.object "java/util/List"))).before args0 about1 = true := code_word (m := ⟨10, 4⟩) (meth := k10m4) (c := k10c4) (by decide +kernel) rfl rfl rfl (by decide +kernel)
set_option maxRecDepth 65536 in
theorem w_c11 : (Jvm.Cond.code ({ cls := "java/util/ImmutableCollections", name := "listCopy", desc := "(Ljava/util/Collection;)Ljava/util/List;" } : Jvm.MethodName) jdk_56_method_3_code (2 : Nat) (Option.some (Jvm.ClassFile.FieldType.object "java/util/List"))).before args0 about1 = true := code_word (m := ⟨17, 1⟩) (meth := k17m1) (c := k17c1) (by decide +kernel) rfl rfl rfl (by decide +kernel)
set_option maxRecDepth 65536 in
theorem w_c12 : (Jvm.Cond.code ({ cls := "java/util/ArrayList", name := "isEmpty", desc := "()Z" } : Jvm.MethodName) jdk_38_method_9_code (1 : Nat) (Option.some Jvm.ClassFile.FieldType.boolean)).before args0 about1 = true := code_word (m := ⟨14, 3⟩) (meth := k14m3) (c := k14c3) (by decide +kernel) rfl rfl rfl (by decide +kernel)
set_option maxRecDepth 65536 in
theorem w_c13 : (Jvm.Cond.code ({ cls := "java/util/List", name := "of", desc := "()Ljava/util/List;" } : Jvm.MethodName) jdk_40_method_36_code (0 : Nat) (Option.some (Jvm.ClassFile.FieldType.object "java/util/List"))).before args0 about1 = true := code_word (m := ⟨10, 2⟩) (meth := k10m2) (c := k10c2) (by decide +kernel) rfl rfl rfl (by decide +kernel)
set_option maxRecDepth 65536 in
theorem w_c14 : (Jvm.Cond.code ({ cls := "com/example/entrega/entrega/RetrySchedule", name := "waitAfter", desc := "(I)Ljava/time/Duration;" } : Jvm.MethodName) prog_14_method_2_code (2 : Nat) (Option.some (Jvm.ClassFile.FieldType.object "java/time/Duration"))).before args0 about1 = true := code_word (m := ⟨16, 1⟩) (meth := k16m1) (c := k16c1) (by decide +kernel) rfl rfl rfl (by decide +kernel)
set_option maxRecDepth 65536 in
theorem w_c15 : (Jvm.Cond.code ({ cls := "java/util/ImmutableCollections$ListN", name := "size", desc := "()I" } : Jvm.MethodName) jdk_45_method_3_code (1 : Nat) (Option.some Jvm.ClassFile.FieldType.int)).before args0 about1 = true := code_word (m := ⟨21, 1⟩) (meth := k21m1) (c := k21c1) (by decide +kernel) rfl rfl rfl (by decide +kernel)
set_option maxRecDepth 65536 in
theorem w_c16 : (Jvm.Cond.code ({ cls := "java/util/ArrayList", name := "add", desc := "(Ljava/lang/Object;)Z" } : Jvm.MethodName) jdk_38_method_25_code (2 : Nat) (Option.some Jvm.ClassFile.FieldType.boolean)).before args0 about1 = true := code_word (m := ⟨14, 6⟩) (meth := k14m6) (c := k14c6) (by decide +kernel) rfl rfl rfl (by decide +kernel)
set_option maxRecDepth 65536 in
theorem w_c17 : (Jvm.Cond.code ({ cls := "java/util/ArrayList", name := "add", desc := "(Ljava/lang/Object;[Ljava/lang/Object;I)V" } : Jvm.MethodName) jdk_38_method_24_code (4 : Nat) (Option.none : Option Jvm.ClassFile.FieldType)).before args0 about1 = true := code_word (m := ⟨14, 5⟩) (meth := k14m5) (c := k14c5) (by decide +kernel) rfl rfl rfl (by decide +kernel)
set_option maxRecDepth 65536 in
theorem w_c18 : (Jvm.Cond.code ({ cls := "java/util/ArrayList", name := "grow", desc := "()[Ljava/lang/Object;" } : Jvm.MethodName) jdk_38_method_7_code (1 : Nat) (Option.some (Jvm.ClassFile.FieldType.array (Jvm.ClassFile.FieldType.object "java/lang/Object")))).before args0 about1 = true := code_word (m := ⟨14, 2⟩) (meth := k14m2) (c := k14c2) (by decide +kernel) rfl rfl rfl (by decide +kernel)
set_option maxRecDepth 65536 in
theorem w_c19 : (Jvm.Cond.code ({ cls := "java/util/ArrayList", name := "grow", desc := "(I)[Ljava/lang/Object;" } : Jvm.MethodName) jdk_38_method_6_code (4 : Nat) (Option.some (Jvm.ClassFile.FieldType.array (Jvm.ClassFile.FieldType.object "java/lang/Object")))).before args0 about1 = true := code_word (m := ⟨14, 1⟩) (meth := k14m1) (c := k14c1) (by decide +kernel) rfl rfl rfl (by decide +kernel)
set_option maxRecDepth 65536 in
theorem w_c20 : (Jvm.Cond.code ({ cls := "java/lang/Math", name := "max", desc := "(II)I" } : Jvm.MethodName) jdk_29_method_65_code (2 : Nat) (Option.some Jvm.ClassFile.FieldType.int)).before args0 about1 = true := code_word (m := ⟨22, 1⟩) (meth := k22m1) (c := k22c1) (by decide +kernel) rfl rfl rfl (by decide +kernel)
set_option maxRecDepth 65536 in
theorem w_c21 : (Jvm.Cond.code ({ cls := "java/util/ArrayList", name := "toArray", desc := "()[Ljava/lang/Object;" } : Jvm.MethodName) jdk_38_method_16_code (1 : Nat) (Option.some (Jvm.ClassFile.FieldType.array (Jvm.ClassFile.FieldType.object "java/lang/Object")))).before args0 about1 = true := code_word (m := ⟨14, 4⟩) (meth := k14m4) (c := k14c4) (by decide +kernel) rfl rfl rfl (by decide +kernel)
set_option maxRecDepth 65536 in
theorem w_c22 : (Jvm.Cond.code ({ cls := "java/util/Arrays", name := "copyOf", desc := "([Ljava/lang/Object;I)[Ljava/lang/Object;" } : Jvm.MethodName) jdk_65_method_119_code (2 : Nat) (Option.some (Jvm.ClassFile.FieldType.array (Jvm.ClassFile.FieldType.object "java/lang/Object")))).before args0 about1 = true := code_word (m := ⟨23, 1⟩) (meth := k23m1) (c := k23c1) (by decide +kernel) rfl rfl rfl (by decide +kernel)
set_option maxRecDepth 65536 in
theorem w_c23 : (Jvm.Cond.code ({ cls := "java/util/Arrays", name := "copyOf", desc := "([Ljava/lang/Object;ILjava/lang/Class;)[Ljava/lang/Object;" } : Jvm.MethodName) jdk_65_method_120_code (4 : Nat) (Option.some (Jvm.ClassFile.FieldType.array (Jvm.ClassFile.FieldType.object "java/lang/Object")))).before args0 about1 = true := code_word (m := ⟨23, 2⟩) (meth := k23m2) (c := k23c2) (by decide +kernel) rfl rfl rfl (by decide +kernel)
set_option maxRecDepth 65536 in
theorem w_c24 : (Jvm.Cond.code ({ cls := "java/lang/Math", name := "min", desc := "(II)I" } : Jvm.MethodName) jdk_29_method_69_code (2 : Nat) (Option.some Jvm.ClassFile.FieldType.int)).before args0 about1 = true := code_word (m := ⟨22, 2⟩) (meth := k22m2) (c := k22c2) (by decide +kernel) rfl rfl rfl (by decide +kernel)
set_option maxRecDepth 65536 in
theorem w_c25 : (Jvm.Cond.code ({ cls := "java/util/List", name := "of", desc := "([Ljava/lang/Object;)Ljava/util/List;" } : Jvm.MethodName) jdk_40_method_47_code (2 : Nat) (Option.some (Jvm.ClassFile.FieldType.object "java/util/List"))).before args0 about1 = true := code_word (m := ⟨10, 3⟩) (meth := k10m3) (c := k10c3) (by decide +kernel) rfl rfl rfl (by decide +kernel)
set_option maxRecDepth 65536 in
theorem w_c26 : (Jvm.Cond.code ({ cls := "java/util/ImmutableCollections", name := "listFromArray", desc := "([Ljava/lang/Object;)Ljava/util/List;" } : Jvm.MethodName) jdk_56_method_4_code (3 : Nat) (Option.some (Jvm.ClassFile.FieldType.object "java/util/List"))).before args0 about1 = true := code_word (m := ⟨17, 2⟩) (meth := k17m2) (c := k17c2) (by decide +kernel) rfl rfl rfl (by decide +kernel)
set_option maxRecDepth 65536 in
theorem w_c27 : (Jvm.Cond.code ({ cls := "java/util/Objects", name := "requireNonNull", desc := "(Ljava/lang/Object;)Ljava/lang/Object;" } : Jvm.MethodName) jdk_31_method_10_code (1 : Nat) (Option.some (Jvm.ClassFile.FieldType.object "java/lang/Object"))).before args0 about1 = true := code_word (m := ⟨25, 1⟩) (meth := k25m1) (c := k25c1) (by decide +kernel) rfl rfl rfl (by decide +kernel)
set_option maxRecDepth 65536 in
theorem w_c28 : (Jvm.Cond.code ({ cls := "java/util/ImmutableCollections$ListN", name := "<init>", desc := "([Ljava/lang/Object;Z)V" } : Jvm.MethodName) jdk_45_method_1_code (3 : Nat) (Option.none : Option Jvm.ClassFile.FieldType)).before args0 about1 = true := code_word (m := ⟨21, 0⟩) (meth := k21m0) (c := k21c0) (by decide +kernel) rfl rfl rfl (by decide +kernel)
set_option maxRecDepth 65536 in
theorem w_c29 : (Jvm.Cond.code ({ cls := "java/util/ImmutableCollections$AbstractImmutableList", name := "<init>", desc := "()V" } : Jvm.MethodName) jdk_46_method_1_code (1 : Nat) (Option.none : Option Jvm.ClassFile.FieldType)).before args0 about1 = true := code_word (m := ⟨19, 0⟩) (meth := k19m0) (c := k19c0) (by decide +kernel) rfl rfl rfl (by decide +kernel)
set_option maxRecDepth 65536 in
theorem w_c30 : (Jvm.Cond.code ({ cls := "java/util/ImmutableCollections$AbstractImmutableCollection", name := "<init>", desc := "()V" } : Jvm.MethodName) jdk_47_method_1_code (1 : Nat) (Option.none : Option Jvm.ClassFile.FieldType)).before args0 about1 = true := code_word (m := ⟨18, 0⟩) (meth := k18m0) (c := k18c0) (by decide +kernel) rfl rfl rfl (by decide +kernel)
set_option maxRecDepth 65536 in
theorem w_c31 : (Jvm.Cond.code ({ cls := "java/util/ImmutableCollections$List12", name := "<init>", desc := "(Ljava/lang/Object;)V" } : Jvm.MethodName) jdk_44_method_1_code (2 : Nat) (Option.none : Option Jvm.ClassFile.FieldType)).before args0 about1 = true := code_word (m := ⟨20, 0⟩) (meth := k20m0) (c := k20c0) (by decide +kernel) rfl rfl rfl (by decide +kernel)
set_option maxRecDepth 65536 in
theorem w_c32 : (Jvm.Cond.code ({ cls := "java/util/ImmutableCollections$List12", name := "size", desc := "()I" } : Jvm.MethodName) jdk_44_method_3_code (1 : Nat) (Option.some Jvm.ClassFile.FieldType.int)).before args0 about1 = true := code_word (m := ⟨20, 2⟩) (meth := k20m2) (c := k20c2) (by decide +kernel) rfl rfl rfl (by decide +kernel)
set_option maxRecDepth 65536 in
theorem w_c33 : (Jvm.Cond.code ({ cls := "java/util/ImmutableCollections$List12", name := "<init>", desc := "(Ljava/lang/Object;Ljava/lang/Object;)V" } : Jvm.MethodName) jdk_44_method_2_code (3 : Nat) (Option.none : Option Jvm.ClassFile.FieldType)).before args0 about1 = true := code_word (m := ⟨20, 1⟩) (meth := k20m1) (c := k20c1) (by decide +kernel) rfl rfl rfl (by decide +kernel)
set_option maxRecDepth 65536 in
theorem w_c34 : (Jvm.Cond.code ({ cls := "java/util/ImmutableCollections$List12", name := "get", desc := "(I)Ljava/lang/Object;" } : Jvm.MethodName) jdk_44_method_5_code (2 : Nat) (Option.some (Jvm.ClassFile.FieldType.object "java/lang/Object"))).before args0 about1 = true := code_word (m := ⟨20, 3⟩) (meth := k20m3) (c := k20c3) (by decide +kernel) rfl rfl rfl (by decide +kernel)
set_option maxRecDepth 65536 in
theorem w_c35 : (Jvm.Cond.code ({ cls := "java/util/ImmutableCollections$ListN", name := "get", desc := "(I)Ljava/lang/Object;" } : Jvm.MethodName) jdk_45_method_4_code (2 : Nat) (Option.some (Jvm.ClassFile.FieldType.object "java/lang/Object"))).before args0 about1 = true := code_word (m := ⟨21, 2⟩) (meth := k21m2) (c := k21c2) (by decide +kernel) rfl rfl rfl (by decide +kernel)
def codes1 : List Jvm.Cond := [Jvm.Cond.code x code maxLocals ret, Jvm.Cond.code ({ cls := "java/time/Duration", name := "ofSeconds", desc := "(J)Ljava/time/Duration;" } : Jvm.MethodName) jdk_2316_method_4_code (2 : Nat) (Option.some (Jvm.ClassFile.FieldType.object "java/time/Duration")), Jvm.Cond.code ({ cls := "java/time/Duration", name := "create", desc := "(JI)Ljava/time/Duration;" } : Jvm.MethodName) jdk_2316_method_16_code (3 : Nat) (Option.some (Jvm.ClassFile.FieldType.object "java/time/Duration")), Jvm.Cond.code ({ cls := "java/time/Duration", name := "<init>", desc := "(JI)V" } : Jvm.MethodName) jdk_2316_method_17_code (4 : Nat) (Option.none : Option Jvm.ClassFile.FieldType), Jvm.Cond.code ({ cls := "java/lang/Object", name := "<init>", desc := "()V" } : Jvm.MethodName) object_method_1_code (1 : Nat) (Option.none : Option Jvm.ClassFile.FieldType), Jvm.Cond.code ({ cls := "java/util/ArrayList", name := "<init>", desc := "()V" } : Jvm.MethodName) jdk_38_method_2_code (1 : Nat) (Option.none : Option Jvm.ClassFile.FieldType), Jvm.Cond.code ({ cls := "java/util/AbstractList", name := "<init>", desc := "()V" } : Jvm.MethodName) jdk_39_method_1_code (1 : Nat) (Option.none : Option Jvm.ClassFile.FieldType), Jvm.Cond.code ({ cls := "java/util/AbstractCollection", name := "<init>", desc := "()V" } : Jvm.MethodName) jdk_22_method_1_code (1 : Nat) (Option.none : Option Jvm.ClassFile.FieldType), Jvm.Cond.code ({ cls := "com/example/entrega/entrega/RetrySchedule", name := "<init>", desc := "(Ljava/util/List;)V" } : Jvm.MethodName) prog_14_method_1_code (2 : Nat) (Option.none : Option Jvm.ClassFile.FieldType), Jvm.Cond.code ({ cls := "java/lang/Record", name := "<init>", desc := "()V" } : Jvm.MethodName) jdk_30_method_1_code (1 : Nat) (Option.none : Option Jvm.ClassFile.FieldType), Jvm.Cond.code ({ cls := "java/util/List", name := "copyOf", desc := "(Ljava/util/Collection;)Ljava/util/List;" } : Jvm.MethodName) jdk_40_method_48_code (1 : Nat) (Option.some (Jvm.ClassFile.FieldType.object "java/util/List")), Jvm.Cond.code ({ cls := "java/util/ImmutableCollections", name := "listCopy", desc := "(Ljava/util/Collection;)Ljava/util/List;" } : Jvm.MethodName) jdk_56_method_3_code (2 : Nat) (Option.some (Jvm.ClassFile.FieldType.object "java/util/List")), Jvm.Cond.code ({ cls := "java/util/ArrayList", name := "isEmpty", desc := "()Z" } : Jvm.MethodName) jdk_38_method_9_code (1 : Nat) (Option.some Jvm.ClassFile.FieldType.boolean), Jvm.Cond.code ({ cls := "java/util/List", name := "of", desc := "()Ljava/util/List;" } : Jvm.MethodName) jdk_40_method_36_code (0 : Nat) (Option.some (Jvm.ClassFile.FieldType.object "java/util/List")), Jvm.Cond.code ({ cls := "com/example/entrega/entrega/RetrySchedule", name := "waitAfter", desc := "(I)Ljava/time/Duration;" } : Jvm.MethodName) prog_14_method_2_code (2 : Nat) (Option.some (Jvm.ClassFile.FieldType.object "java/time/Duration")), Jvm.Cond.code ({ cls := "java/util/ImmutableCollections$ListN", name := "size", desc := "()I" } : Jvm.MethodName) jdk_45_method_3_code (1 : Nat) (Option.some Jvm.ClassFile.FieldType.int), Jvm.Cond.code ({ cls := "java/util/ArrayList", name := "add", desc := "(Ljava/lang/Object;)Z" } : Jvm.MethodName) jdk_38_method_25_code (2 : Nat) (Option.some Jvm.ClassFile.FieldType.boolean), Jvm.Cond.code ({ cls := "java/util/ArrayList", name := "add", desc := "(Ljava/lang/Object;[Ljava/lang/Object;I)V" } : Jvm.MethodName) jdk_38_method_24_code (4 : Nat) (Option.none : Option Jvm.ClassFile.FieldType), Jvm.Cond.code ({ cls := "java/util/ArrayList", name := "grow", desc := "()[Ljava/lang/Object;" } : Jvm.MethodName) jdk_38_method_7_code (1 : Nat) (Option.some (Jvm.ClassFile.FieldType.array (Jvm.ClassFile.FieldType.object "java/lang/Object"))), Jvm.Cond.code ({ cls := "java/util/ArrayList", name := "grow", desc := "(I)[Ljava/lang/Object;" } : Jvm.MethodName) jdk_38_method_6_code (4 : Nat) (Option.some (Jvm.ClassFile.FieldType.array (Jvm.ClassFile.FieldType.object "java/lang/Object"))), Jvm.Cond.code ({ cls := "java/lang/Math", name := "max", desc := "(II)I" } : Jvm.MethodName) jdk_29_method_65_code (2 : Nat) (Option.some Jvm.ClassFile.FieldType.int), Jvm.Cond.code ({ cls := "java/util/ArrayList", name := "toArray", desc := "()[Ljava/lang/Object;" } : Jvm.MethodName) jdk_38_method_16_code (1 : Nat) (Option.some (Jvm.ClassFile.FieldType.array (Jvm.ClassFile.FieldType.object "java/lang/Object"))), Jvm.Cond.code ({ cls := "java/util/Arrays", name := "copyOf", desc := "([Ljava/lang/Object;I)[Ljava/lang/Object;" } : Jvm.MethodName) jdk_65_method_119_code (2 : Nat) (Option.some (Jvm.ClassFile.FieldType.array (Jvm.ClassFile.FieldType.object "java/lang/Object"))), Jvm.Cond.code ({ cls := "java/util/Arrays", name := "copyOf", desc := "([Ljava/lang/Object;ILjava/lang/Class;)[Ljava/lang/Object;" } : Jvm.MethodName) jdk_65_method_120_code (4 : Nat) (Option.some (Jvm.ClassFile.FieldType.array (Jvm.ClassFile.FieldType.object "java/lang/Object"))), Jvm.Cond.code ({ cls := "java/lang/Math", name := "min", desc := "(II)I" } : Jvm.MethodName) jdk_29_method_69_code (2 : Nat) (Option.some Jvm.ClassFile.FieldType.int), Jvm.Cond.code ({ cls := "java/util/List", name := "of", desc := "([Ljava/lang/Object;)Ljava/util/List;" } : Jvm.MethodName) jdk_40_method_47_code (2 : Nat) (Option.some (Jvm.ClassFile.FieldType.object "java/util/List")), Jvm.Cond.code ({ cls := "java/util/ImmutableCollections", name := "listFromArray", desc := "([Ljava/lang/Object;)Ljava/util/List;" } : Jvm.MethodName) jdk_56_method_4_code (3 : Nat) (Option.some (Jvm.ClassFile.FieldType.object "java/util/List")), Jvm.Cond.code ({ cls := "java/util/Objects", name := "requireNonNull", desc := "(Ljava/lang/Object;)Ljava/lang/Object;" } : Jvm.MethodName) jdk_31_method_10_code (1 : Nat) (Option.some (Jvm.ClassFile.FieldType.object "java/lang/Object")), Jvm.Cond.code ({ cls := "java/util/ImmutableCollections$ListN", name := "<init>", desc := "([Ljava/lang/Object;Z)V" } : Jvm.MethodName) jdk_45_method_1_code (3 : Nat) (Option.none : Option Jvm.ClassFile.FieldType), Jvm.Cond.code ({ cls := "java/util/ImmutableCollections$AbstractImmutableList", name := "<init>", desc := "()V" } : Jvm.MethodName) jdk_46_method_1_code (1 : Nat) (Option.none : Option Jvm.ClassFile.FieldType), Jvm.Cond.code ({ cls := "java/util/ImmutableCollections$AbstractImmutableCollection", name := "<init>", desc := "()V" } : Jvm.MethodName) jdk_47_method_1_code (1 : Nat) (Option.none : Option Jvm.ClassFile.FieldType), Jvm.Cond.code ({ cls := "java/util/ImmutableCollections$List12", name := "<init>", desc := "(Ljava/lang/Object;)V" } : Jvm.MethodName) jdk_44_method_1_code (2 : Nat) (Option.none : Option Jvm.ClassFile.FieldType), Jvm.Cond.code ({ cls := "java/util/ImmutableCollections$List12", name := "size", desc := "()I" } : Jvm.MethodName) jdk_44_method_3_code (1 : Nat) (Option.some Jvm.ClassFile.FieldType.int), Jvm.Cond.code ({ cls := "java/util/ImmutableCollections$List12", name := "<init>", desc := "(Ljava/lang/Object;Ljava/lang/Object;)V" } : Jvm.MethodName) jdk_44_method_2_code (3 : Nat) (Option.none : Option Jvm.ClassFile.FieldType), Jvm.Cond.code ({ cls := "java/util/ImmutableCollections$List12", name := "get", desc := "(I)Ljava/lang/Object;" } : Jvm.MethodName) jdk_44_method_5_code (2 : Nat) (Option.some (Jvm.ClassFile.FieldType.object "java/lang/Object")), Jvm.Cond.code ({ cls := "java/util/ImmutableCollections$ListN", name := "get", desc := "(I)Ljava/lang/Object;" } : Jvm.MethodName) jdk_45_method_4_code (2 : Nat) (Option.some (Jvm.ClassFile.FieldType.object "java/lang/Object"))]
set_option maxRecDepth 65536 in
theorem codes_eq : words1.filter isCode = codes1 := rfl
theorem w_codes : ∀ c ∈ words1.filter isCode, c.before args0 about1 = true := by
  rw [codes_eq]
  intro c hc
  simp only [codes1, List.mem_cons, List.not_mem_nil, or_false] at hc
  rcases hc with rfl | rfl | rfl | rfl | rfl | rfl | rfl | rfl | rfl | rfl | rfl | rfl | rfl | rfl | rfl | rfl | rfl | rfl | rfl | rfl | rfl | rfl | rfl | rfl | rfl | rfl | rfl | rfl | rfl | rfl | rfl | rfl | rfl | rfl | rfl | rfl
  · exact w_c0
  · exact w_c1
  · exact w_c2
  · exact w_c3
  · exact w_c4
  · exact w_c5
  · exact w_c6
  · exact w_c7
  · exact w_c8
  · exact w_c9
  · exact w_c10
  · exact w_c11
  · exact w_c12
  · exact w_c13
  · exact w_c14
  · exact w_c15
  · exact w_c16
  · exact w_c17
  · exact w_c18
  · exact w_c19
  · exact w_c20
  · exact w_c21
  · exact w_c22
  · exact w_c23
  · exact w_c24
  · exact w_c25
  · exact w_c26
  · exact w_c27
  · exact w_c28
  · exact w_c29
  · exact w_c30
  · exact w_c31
  · exact w_c32
  · exact w_c33
  · exact w_c34
  · exact w_c35
set_option maxRecDepth 65536 in
theorem w_t1 : (words1.take 24).all (fun c => isCode c || c.before args0 about1) = true := by decide +kernel
set_option maxRecDepth 65536 in
theorem w_t2 : ((words1.drop 24).take 24).all (fun c => isCode c || c.before args0 about1) = true := by decide +kernel
set_option maxRecDepth 65536 in
theorem w_t3 : (((words1.drop 24).drop 24).take 24).all (fun c => isCode c || c.before args0 about1) = true := by decide +kernel
set_option maxRecDepth 65536 in
theorem w_t4 : ((((words1.drop 24).drop 24).drop 24).take 24).all (fun c => isCode c || c.before args0 about1) = true := by decide +kernel
set_option maxRecDepth 65536 in
theorem w_t5 : (((((words1.drop 24).drop 24).drop 24).drop 24).take 24).all (fun c => isCode c || c.before args0 about1) = true := by decide +kernel
set_option maxRecDepth 65536 in
theorem w_t6 : ((((((words1.drop 24).drop 24).drop 24).drop 24).drop 24).take 24).all (fun c => isCode c || c.before args0 about1) = true := by decide +kernel
set_option maxRecDepth 65536 in
theorem w_t7 : (((((((words1.drop 24).drop 24).drop 24).drop 24).drop 24).drop 24).take 24).all (fun c => isCode c || c.before args0 about1) = true := by decide +kernel
set_option maxRecDepth 65536 in
theorem w_t8 : ((((((((words1.drop 24).drop 24).drop 24).drop 24).drop 24).drop 24).drop 24).take 24).all (fun c => isCode c || c.before args0 about1) = true := by decide +kernel
set_option maxRecDepth 65536 in
theorem w_t9 : (((((((((words1.drop 24).drop 24).drop 24).drop 24).drop 24).drop 24).drop 24).drop 24).take 24).all (fun c => isCode c || c.before args0 about1) = true := by decide +kernel
set_option maxRecDepth 65536 in
theorem w_t10 : (((((((((words1.drop 24).drop 24).drop 24).drop 24).drop 24).drop 24).drop 24).drop 24).drop 24).all (fun c => isCode c || c.before args0 about1) = true := by decide +kernel
theorem w_tables : (allAtoms (Jvm.Cond.code x code maxLocals ret :: tables_1)).before args0 about1 = true := by
  rw [allAtoms_all]
  show words1.all (fun c => c.before args0 about1) = true
  refine all_split ?_ w_codes
  rw [← List.take_append_drop 24 words1, List.all_append, w_t1, ← List.take_append_drop 24 (words1.drop 24), List.all_append, w_t2, ← List.take_append_drop 24 ((words1.drop 24).drop 24), List.all_append, w_t3, ← List.take_append_drop 24 (((words1.drop 24).drop 24).drop 24), List.all_append, w_t4, ← List.take_append_drop 24 ((((words1.drop 24).drop 24).drop 24).drop 24), List.all_append, w_t5, ← List.take_append_drop 24 (((((words1.drop 24).drop 24).drop 24).drop 24).drop 24), List.all_append, w_t6, ← List.take_append_drop 24 ((((((words1.drop 24).drop 24).drop 24).drop 24).drop 24).drop 24), List.all_append, w_t7, ← List.take_append_drop 24 (((((((words1.drop 24).drop 24).drop 24).drop 24).drop 24).drop 24).drop 24), List.all_append, w_t8, ← List.take_append_drop 24 ((((((((words1.drop 24).drop 24).drop 24).drop 24).drop 24).drop 24).drop 24).drop 24), List.all_append, w_t9, w_t10]
  rfl
set_option maxRecDepth 65536 in
theorem w_rest : rest_1_c.before args0 about1 = true := by decide +kernel
set_option maxRecDepth 65536 in
theorem w_case : (Jvm.Cond.and given_1 narrow_1).before args0 about1 = true := by decide +kernel
theorem w_applies : (headSpec (Jvm.Cond.code x code maxLocals ret :: tables_1) room_1).applies x e0.platform about1 = true :=
  (Spec.applies_iff w_frames).mpr ⟨w_running, w_runnable, w_alone, w_named, w_hears, w_ripe, w_room, w_tables⟩
theorem atStart : AtStart classFile x code maxLocals ret World_1 tables_1 room_1 Calls_1 rest_1 Pre_1 launch0 p0 e0 about1 theMethod args0 below0 :=
  ⟨lists_1, trivial, launch0.admits_env _ _ _, launch0.least_env, fairChoices_fair.cas, fairChoices_fair.clock, w_frames, w_args, w_heap, w_applies, ⟨⟨31, k31, 3, by decide +kernel, rfl, rfl, _, rfl, rfl⟩, trivial⟩, w_rest, w_case⟩
end start1
theorem witness_1 : WitnessClaimed_1 := ⟨start1.p0, start1.e0, start1.about1, start1.theMethod, start1.args0, start1.below0, start1.atStart⟩
end Jvm.Pilot.@@N@@
