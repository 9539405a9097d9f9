import JvmDerived
import JvmDerived.Pilot.@@N@@Statement
import JvmDerived.Pilot.@@N@@Code
set_option linter.unusedVariables false
set_option linter.unusedSimpArgs false
@@BLOCK:NumsL.lean.txt@@
namespace Jvm.Pilot.@@N@@
open Jvm Jvm.ClassFile Sem Op Lib Jvm.Free Jvm.Stand Jvm.LawKit Jvm.RoadKit Bundle Jvm.Pilot.@@N@@.Jvm.D
/-! the run from a frame on: it ends, and what it leaves -/
def own_F (p : Program) (e : Env) (below : List Frame) (Q : Outcome → State → Prop) (T : State) (g : JFrame) : Prop :=
  ∃ s₂ o, Steps p.tables e below (T.setTop g) s₂ ∧ s₂.status = .running ∧ Ended s₂ below o ∧ Q o s₂
theorem own_go {p : Program} {e : Env} {below : List Frame} {Q : Outcome → State → Prop} {T T' : State} {g g' : JFrame} (st : ∀ target, Steps p.tables e below (T'.setTop g') target → Steps p.tables e below (T.setTop g) target) (k : own_F p e below Q T' g') : own_F p e below Q T g := by
  obtain ⟨s₂, o, h1, h2, h3, h4⟩ := k
  exact ⟨s₂, o, st _ h1, h2, h3, h4⟩
theorem own_goT {p : Program} {e : Env} {below : List Frame} {Q : Outcome → State → Prop} {T T' : State} {g g' : JFrame} (st : Steps p.tables e below (T.setTop g) (T'.setTop g')) (k : own_F p e below Q T' g') : own_F p e below Q T g := by
  obtain ⟨s₂, o, h1, h2, h3, h4⟩ := k
  exact ⟨s₂, o, st.trans h1, h2, h3, h4⟩
theorem own_end {p : Program} {e : Env} {below : List Frame} {Q : Outcome → State → Prop} {T s₂ : State} {g : JFrame} {o : Outcome} (st : Steps p.tables e below (T.setTop g) s₂) (h1 : s₂.status = .running) (h2 : Ended s₂ below o) (h3 : Q o s₂) : own_F p e below Q T g := ⟨s₂, o, st, h1, h2, h3⟩
theorem own_ext_tr {h0 h h' : Heap} (E : Ext h0 h) (E' : Ext h h') : Ext h0 h' := ⟨Nat.le_trans E.1 E'.1, fun a c q => E'.2 a c (E.2 a c q)⟩
theorem own_ext_rf (h : Heap) : Ext h h := ⟨Nat.le_refl _, fun _ _ q => q⟩
theorem own_ext_keep {h0 h h' : Heap} {ws : List Addr} (E : Ext h0 h) (K : Keep h h' ws) (q : ∀ x ∈ ws, h0.size ≤ x) : Ext h0 h' :=
  ⟨Nat.le_trans E.1 K.1, fun a c ha => K.2.1 a c (E.2 a c ha) fun k => absurd (Array.getElem?_eq_some_iff.mp ha).1 (Nat.not_lt.mpr (q a k))⟩
theorem own_ext_wr {h0 h h' : Heap} {a : Addr} {sl : Nat} {v : Value} (E : Ext h0 h) (W : Wr h h' a sl v) (q : h0.size ≤ a) : Ext h0 h' :=
  own_ext_keep E (Keep.of_wr W) fun x hx => by cases List.mem_singleton.mp hx; exact q
theorem own_one {a b : Addr} (h : a ≠ b) : a ∉ [b] := fun q => h (List.mem_singleton.mp q)
theorem own_all1 {n : Nat} {b : Addr} (h : n ≤ b) : ∀ x ∈ [b], n ≤ x := fun x hx => by cases List.mem_singleton.mp hx; exact h
theorem own_all0 {n : Nat} : ∀ x ∈ ([] : List Addr), n ≤ x := fun x hx => nomatch hx
theorem own_lt_t {x y : Int64} (h : x < y) : lcmpW x y < 0 := by rw [lcW]; exact (lc_lt _ _).mpr h
theorem own_lt_f {x y : Int64} (h : ¬ x < y) : ¬ lcmpW x y < 0 := by rw [lcW]; exact fun k => h ((lc_lt _ _).mp k)
theorem own_gt_t {x y : Int64} (h : y < x) : 0 < lcmpW x y := by rw [lcW]; exact (lc_gt _ _).mpr h
theorem own_gt_f {x y : Int64} (h : ¬ y < x) : ¬ 0 < lcmpW x y := by rw [lcW]; exact fun k => h ((lc_gt _ _).mp k)
theorem own_eq_t {x y : Int64} (h : x = y) : lcmpW x y = 0 := by rw [lcW]; exact (lc_eq _ _).mpr h
theorem own_eq_f {x y : Int64} (h : ¬ x = y) : ¬ lcmpW x y = 0 := by rw [lcW]; exact fun k => h ((lc_eq _ _).mp k)
def own_reads (i d v : Int32) : Int32 := if v < i then 0 else if d = 0 then 1 else if v < d then 1 else 0
theorem own_m30 (x : Int32) : (x &&& 1073741823).toInt = x.toInt % 2 ^ 30 := Jvm.Kit.i32_mask x 1073741823 (k := 30) (by decide) (by decide)
theorem own_c1 : (1 : Int32).toInt = 1 := rfl
theorem own_c0 : (0 : Int32).toInt = 0 := rfl
theorem own_cM : (2147483647 : Int32).toInt = 2147483647 := rfl
theorem own_d (x y : Int32) : ((x &&& 1073741823) + 1 + (y &&& 1073741823)).toInt = (x &&& 1073741823).toInt + 1 + (y &&& 1073741823).toInt := by
  have h1 := own_m30 x
  have h2 := own_m30 y
  have h3 : ((x &&& 1073741823) + 1).toInt = (x &&& 1073741823).toInt + 1 := Jvm.Kit.i32_add (by rw [own_c1]; omega) (by rw [own_c1]; omega)
  rw [Jvm.Kit.i32_add (by omega) (by omega), h3]
theorem own_s1 (x y : Int32) : own_reads (x &&& 1073741823) ((x &&& 1073741823) + 1 + (y &&& 1073741823)) (x &&& 1073741823) = 1 := by
  have h1 := own_m30 x
  have h2 := own_m30 y
  have h3 := own_d x y
  generalize (x &&& 1073741823) + 1 + (y &&& 1073741823) = d at *
  generalize x &&& 1073741823 = i at *
  rw [own_reads, if_neg (by rw [Int32.lt_iff_toInt_lt]; omega), if_neg (by rw [← Int32.toInt_inj, own_c0]; omega), if_pos (by rw [Int32.lt_iff_toInt_lt]; omega)]
theorem own_s2 (x y : Int32) : own_reads (x &&& 1073741823) ((x &&& 1073741823) + 1 + (y &&& 1073741823)) ((x &&& 1073741823) - 1) = 0 := by
  have h1 := own_m30 x
  have h3 : ((x &&& 1073741823) - 1).toInt = (x &&& 1073741823).toInt - 1 := Jvm.Kit.i32_sub (by rw [own_c1]; omega) (by rw [own_c1]; omega)
  rw [own_reads, if_pos (by rw [Int32.lt_iff_toInt_lt]; omega)]
theorem own_s3 (x y : Int32) : own_reads (x &&& 1073741823) ((x &&& 1073741823) + 1 + (y &&& 1073741823)) (((x &&& 1073741823) + 1 + (y &&& 1073741823)) - 1) = 1 := by
  have h1 := own_m30 x
  have h2 := own_m30 y
  have h3 := own_d x y
  generalize (x &&& 1073741823) + 1 + (y &&& 1073741823) = d at *
  generalize x &&& 1073741823 = i at *
  have h4 : (d - 1).toInt = d.toInt - 1 := Jvm.Kit.i32_sub (by rw [own_c1]; omega) (by rw [own_c1]; omega)
  rw [own_reads, if_neg (by rw [Int32.lt_iff_toInt_lt]; omega), if_neg (by rw [← Int32.toInt_inj, own_c0]; omega), if_pos (by rw [Int32.lt_iff_toInt_lt]; omega)]
theorem own_s4 (x y : Int32) : own_reads (x &&& 1073741823) ((x &&& 1073741823) + 1 + (y &&& 1073741823)) ((x &&& 1073741823) + 1 + (y &&& 1073741823)) = 0 := by
  have h1 := own_m30 x
  have h2 := own_m30 y
  have h3 := own_d x y
  generalize (x &&& 1073741823) + 1 + (y &&& 1073741823) = d at *
  generalize x &&& 1073741823 = i at *
  rw [own_reads, if_neg (by rw [Int32.lt_iff_toInt_lt]; omega), if_neg (by rw [← Int32.toInt_inj, own_c0]; omega), if_neg (by rw [Int32.lt_iff_toInt_lt]; omega)]
theorem own_s5 (x : Int32) : own_reads (x &&& 1073741823) 0 (x &&& 1073741823) = 1 := by
  rw [own_reads, if_neg (by rw [Int32.lt_iff_toInt_lt]; omega), if_pos rfl]
theorem own_s6 (x : Int32) : own_reads (x &&& 1073741823) 0 2147483647 = 1 := by
  have h1 := own_m30 x
  rw [own_reads, if_neg (by rw [Int32.lt_iff_toInt_lt, own_cM]; omega), if_pos rfl]
theorem own_dI_0 : decode prog_84_method_1_code 0 = .ok (.aload_n 0, 1) := by decide +kernel
theorem own_dI_1 : decode prog_84_method_1_code 1 = .ok (.invokespecial 1, 3) := by decide +kernel
theorem own_dI_4 : decode prog_84_method_1_code 4 = .ok (.aload_n 0, 1) := by decide +kernel
theorem own_dI_5 : decode prog_84_method_1_code 5 = .ok (.iload_n 1, 1) := by decide +kernel
theorem own_dI_6 : decode prog_84_method_1_code 6 = .ok (.putfield 7, 3) := by decide +kernel
theorem own_dI_9 : decode prog_84_method_1_code 9 = .ok (.aload_n 0, 1) := by decide +kernel
theorem own_dI_10 : decode prog_84_method_1_code 10 = .ok (.iload_n 2, 1) := by decide +kernel
theorem own_dI_11 : decode prog_84_method_1_code 11 = .ok (.putfield 13, 3) := by decide +kernel
theorem own_dI_14 : decode prog_84_method_1_code 14 = .ok (.return_, 1) := by decide +kernel
theorem own_efI (m : MethodId) (xo : Addr) (xi : Int32) (xd : Int32) : entryFrame m #[(.ref xo), (.int xi), (.int xd)] 3 = mkF m 0 #[.val (.ref xo), .val (.int xi), .val (.int xd)] [] := by first | (simp [entryFrame, mkF, argsToLocals, Value.category]; done) | rfl
def own_QI (Z : State) (xo : Addr) (xi : Int32) (xd : Int32)  (h0 : Heap) (n0 : Nat) (v : Option Value) (h : Heap) (L : List Loc) : Prop := v = none ∧ Fr n0 L ∧ Keep h0 h [xo] ∧ Exa Z h xo "com/example/restate/restate/model/Redline$Mark" ∧ Fld Z h xo "com/example/restate/restate/model/Redline$Mark" "inserted" "I" (.int xi) ∧ Fld Z h xo "com/example/restate/restate/model/Redline$Mark" "deleted" "I" (.int xd)
theorem own_pn0 : plainName "com/example/restate/restate/model/Redline$Mark" = true := by first | (simp [plainName, overriddenIn]; done) | decide +kernel
set_option maxRecDepth 65536 in
set_option maxHeartbeats 40000000 in
theorem own_rI (l : Launch) (Z : State) (a0 : Array Value) (hw : ∀ d ∈ tables_1, d.before a0 Z = true) (ws : List Jvm.Cond) (xo : Addr) (xi : Int32) (xd : Int32)  (h0 : Heap) (n0 : Nat) (Z0 : n0 ≤ h0.size) (F1 : Fld Z h0 xo "com/example/restate/restate/model/Redline$Mark" "inserted" "I" (.int 0)) (F2 : Fld Z h0 xo "com/example/restate/restate/model/Redline$Mark" "deleted" "I" (.int 0)) (E1 : Exa Z h0 xo "com/example/restate/restate/model/Redline$Mark") (gz : n0 ≤ xo) :
    MetFree l (⟨"com/example/restate/restate/model/Redline$Mark", "<init>", "(II)V"⟩ : MethodName) (head1 (Jvm.Cond.code (⟨"com/example/restate/restate/model/Redline$Mark", "<init>", "(II)V"⟩ : MethodName) prog_84_method_1_code 3 none :: ws) ({ frames := 1, cells := 0, slots := 0, locals := 12 } : Room)) (fun a U => a = #[(.ref xo), (.int xi), (.int xd)] ∧ Z.Warmed39 U.vm ∧ U.heap = h0) (fun _ _ _ _ _ => True) (fun _ U o U' => ∃ v L, o = .returned v ∧ own_QI Z xo xi xd h0 n0 v U'.heap L ∧ FrameEnd U o U' L ({ frames := 1, cells := 0, slots := 0, locals := 12 } : Room).cells ({ frames := 1, cells := 0, slots := 0, locals := 12 } : Room).slots) := by
  refine MetFree.of_bodySF (plainFor_of_name own_pn0) hisR ?_
  intro p e s m args below meth c s₁ Bd hml0 hP hK
  obtain ⟨rfl, hZ, hh⟩ := hP
  have hx := Bd.exec
  have hby := Bd.bytes
  have hml : c.maxLocals = 3 := hml0
  have hown : s.vm.findClass "com/example/restate/restate/model/Redline$Mark" = some m.cls := findClass_of_methodNamed Bd.named
  have hnm := (name_of_methodNamed Bd.named Bd.method).1
  have X0 : Stand p l e ({ frames := 1, cells := 0, slots := 0, locals := 12 } : Room) s m #[(.ref xo), (.int xi), (.int xd)] below meth c s₁ [] 0 0 := Stand.of_body Bd
  have e0 : s₁.heap = h0 := by rw [← hh, Bd.state]; rfl
  have N0 := Fr.nil n0
  show own_F p e below (fun o U' => ∃ v L, o = .returned v ∧ own_QI Z xo xi xd h0 n0 v U'.heap L ∧ FrameEnd s o U' L ({ frames := 1, cells := 0, slots := 0, locals := 12 } : Room).cells ({ frames := 1, cells := 0, slots := 0, locals := 12 } : Room).slots) s₁ (entryFrame m #[(.ref xo), (.int xi), (.int xd)] 3)
  rw [own_efI m xo xi xd]
  refine own_go (T' := s₁) (g' := (mkF m 1 #[.val (.ref xo), .val (.int xi), .val (.int xd)] [(.ref xo)])) (fun _ k => XS.aloadN X0.here hx rfl (hb hby own_dI_0) rfl rfl k) ?_
  obtain ⟨T1, X1, e1, st1⟩ := initO X0 hx hZ hown (hw _ (List.mem_of_getElem? (i := 6) rfl)) (hw _ (List.mem_of_getElem? (i := 7) rfl)) (hw _ (List.mem_of_getElem? (i := 8) rfl)) e0 (g := (mkF m 1 #[.val (.ref xo), .val (.int xi), .val (.int xd)] [(.ref xo)])) rfl (by rw [hml]; rfl) rfl (hb hby own_dI_1) (by decide) (W := 0) (by show 2 * 0 + _ ≤ _; exact Nat.le_of_eq rfl) (by decide)
  refine own_go (T' := T1) (g' := (mkF m 4 #[.val (.ref xo), .val (.int xi), .val (.int xd)] [])) (fun _ k => st1 _ k) ?_
  refine own_go (T' := T1) (g' := (mkF m 5 #[.val (.ref xo), .val (.int xi), .val (.int xd)] [(.ref xo)])) (fun _ k => XS.aloadN X1.here hx rfl (hb hby own_dI_4) rfl rfl k) ?_
  refine own_go (T' := T1) (g' := (mkF m 6 #[.val (.ref xo), .val (.int xi), .val (.int xd)] [(.int xi), (.ref xo)])) (fun _ k => XS.iloadN X1.here hx rfl (hb hby own_dI_5) rfl k) ?_
  obtain ⟨T2, h2, X2, e2, W2, st2⟩ := putF X1 hx hZ hown (host := "") (Or.inl (hw _ (List.mem_of_getElem? (i := 9) rfl))) Via.refl e1 F1 E1 (Or.inr ⟨(hw _ (List.mem_of_getElem? (i := 10) rfl)), rfl, hnm⟩) (hw _ (List.mem_of_getElem? (i := 1) rfl)) (ty := .int) (by decide) rfl rfl (g := (mkF m 6 #[.val (.ref xo), .val (.int xi), .val (.int xd)] [(.int xi), (.ref xo)])) rfl rfl (hb hby own_dI_6)
  have Fw2 := F1.same W2
  have Ek3 := E1.wr W2
  have Fk4 := F2.other W2 (Or.inr (slot_ne (Or.inr (hw _ (List.mem_of_getElem? (i := 12) rfl))) (Or.inr (hw _ (List.mem_of_getElem? (i := 10) rfl))) (by decide) (t := .int) (t' := .int) (by decide) (by decide)))
  have Z2 : n0 ≤ h2.size := Nat.le_trans Z0 (Keep.of_wr W2).1
  have K2 : Keep h0 h2 [xo] := (Keep.refl h0 [xo]).wr W2 (Or.inl (List.mem_of_getElem? (i := 0) rfl))
  have N2 := Fr.snoc X2 N0 gz
  refine own_go (T' := T2) (g' := (mkF m 9 #[.val (.ref xo), .val (.int xi), .val (.int xd)] [])) (fun _ k => st2 _ k) ?_
  refine own_go (T' := T2) (g' := (mkF m 10 #[.val (.ref xo), .val (.int xi), .val (.int xd)] [(.ref xo)])) (fun _ k => XS.aloadN X2.here hx rfl (hb hby own_dI_9) rfl rfl k) ?_
  refine own_go (T' := T2) (g' := (mkF m 11 #[.val (.ref xo), .val (.int xi), .val (.int xd)] [(.int xd), (.ref xo)])) (fun _ k => XS.iloadN X2.here hx rfl (hb hby own_dI_10) rfl k) ?_
  obtain ⟨T5, h5, X5, e5, W5, st5⟩ := putF X2 hx hZ hown (host := "") (Or.inl (hw _ (List.mem_of_getElem? (i := 11) rfl))) Via.refl e2 Fk4 Ek3 (Or.inr ⟨(hw _ (List.mem_of_getElem? (i := 12) rfl)), rfl, hnm⟩) (hw _ (List.mem_of_getElem? (i := 1) rfl)) (ty := .int) (by decide) rfl rfl (g := (mkF m 11 #[.val (.ref xo), .val (.int xi), .val (.int xd)] [(.int xd), (.ref xo)])) rfl rfl (hb hby own_dI_11)
  have Fw5 := Fk4.same W5
  have Ek6 := Ek3.wr W5
  have Fk7 := Fw2.other W5 (Or.inr (slot_ne (Or.inr (hw _ (List.mem_of_getElem? (i := 10) rfl))) (Or.inr (hw _ (List.mem_of_getElem? (i := 12) rfl))) (by decide) (t := .int) (t' := .int) (by decide) (by decide)))
  have Z5 : n0 ≤ h5.size := Nat.le_trans Z2 (Keep.of_wr W5).1
  have K5 : Keep h0 h5 [xo] := K2.wr W5 (Or.inl (List.mem_of_getElem? (i := 0) rfl))
  have N5 := Fr.snoc X5 N2 gz
  refine own_go (T' := T5) (g' := (mkF m 14 #[.val (.ref xo), .val (.int xi), .val (.int xd)] [])) (fun _ k => st5 _ k) ?_
  obtain ⟨fs, hr, hrun, hended, hW, hsame⟩ := X5.leave (v := none) (fun _ => rfl)
  refine own_end (X5.returnOut hx Bd.returns (hb hby own_dI_14) hr) hrun hended ⟨_, _, rfl, (?_ : own_QI Z xo xi xd h0 n0 _ T5.heap _), ⟨_, rfl⟩, hW, hsame.mono (by decide) (by decide)⟩
  rw [e5]
  exact ⟨rfl, N5, K5, Ek6, Fk7, Fw5⟩
theorem own_dS_0 : decode prog_84_method_6_code 0 = .ok (.aload_n 0, 1) := by decide +kernel
theorem own_dS_1 : decode prog_84_method_6_code 1 = .ok (.getfield 7, 3) := by decide +kernel
theorem own_dS_4 : decode prog_84_method_6_code 4 = .ok (.iload_n 1, 1) := by decide +kernel
theorem own_dS_5 : decode prog_84_method_6_code 5 = .ok (.if_icmp .gt 22, 3) := by decide +kernel
theorem own_dS_8 : decode prog_84_method_6_code 8 = .ok (.aload_n 0, 1) := by decide +kernel
theorem own_dS_9 : decode prog_84_method_6_code 9 = .ok (.getfield 13, 3) := by decide +kernel
theorem own_dS_12 : decode prog_84_method_6_code 12 = .ok (.ifCond .eq 11, 3) := by decide +kernel
theorem own_dS_15 : decode prog_84_method_6_code 15 = .ok (.iload_n 1, 1) := by decide +kernel
theorem own_dS_16 : decode prog_84_method_6_code 16 = .ok (.aload_n 0, 1) := by decide +kernel
theorem own_dS_17 : decode prog_84_method_6_code 17 = .ok (.getfield 13, 3) := by decide +kernel
theorem own_dS_20 : decode prog_84_method_6_code 20 = .ok (.if_icmp .ge 7, 3) := by decide +kernel
theorem own_dS_23 : decode prog_84_method_6_code 23 = .ok (.iconst 1, 1) := by decide +kernel
theorem own_dS_24 : decode prog_84_method_6_code 24 = .ok (.goto 4, 3) := by decide +kernel
theorem own_dS_27 : decode prog_84_method_6_code 27 = .ok (.iconst 0, 1) := by decide +kernel
theorem own_dS_28 : decode prog_84_method_6_code 28 = .ok (.ireturn, 1) := by decide +kernel
theorem own_efS (m : MethodId) (xo : Addr) (xv : Int32) : entryFrame m #[(.ref xo), (.int xv)] 2 = mkF m 0 #[.val (.ref xo), .val (.int xv)] [] := by first | (simp [entryFrame, mkF, argsToLocals, Value.category]; done) | rfl
def own_QS (Z : State) (xo : Addr) (xv : Int32) (xi : Int32) (xd : Int32) (xr : Int32) (h0 : Heap) (n0 : Nat) (v : Option Value) (h : Heap) (L : List Loc) : Prop := v = some (.int xr) ∧ Fr n0 L ∧ h = h0
set_option maxRecDepth 65536 in
set_option maxHeartbeats 40000000 in
theorem own_rS (l : Launch) (Z : State) (a0 : Array Value) (hw : ∀ d ∈ tables_1, d.before a0 Z = true) (ws : List Jvm.Cond) (xo : Addr) (xv : Int32) (xi : Int32) (xd : Int32) (xr : Int32) (h0 : Heap) (n0 : Nat) (Z0 : n0 ≤ h0.size) (F1 : Fld Z h0 xo "com/example/restate/restate/model/Redline$Mark" "inserted" "I" (.int xi)) (F2 : Fld Z h0 xo "com/example/restate/restate/model/Redline$Mark" "deleted" "I" (.int xd)) (hv : own_reads xi xd xv = xr) :
    MetFree l (⟨"com/example/restate/restate/model/Redline$Mark", "shownIn", "(I)Z"⟩ : MethodName) (head1 (Jvm.Cond.code (⟨"com/example/restate/restate/model/Redline$Mark", "shownIn", "(I)Z"⟩ : MethodName) prog_84_method_6_code 2 (some .boolean) :: ws) ({ frames := 0, cells := 0, slots := 0, locals := 0 } : Room)) (fun a U => a = #[(.ref xo), (.int xv)] ∧ Z.Warmed39 U.vm ∧ U.heap = h0) (fun _ _ _ _ _ => True) (fun _ U o U' => ∃ v L, o = .returned v ∧ own_QS Z xo xv xi xd xr h0 n0 v U'.heap L ∧ FrameEnd U o U' L ({ frames := 0, cells := 0, slots := 0, locals := 0 } : Room).cells ({ frames := 0, cells := 0, slots := 0, locals := 0 } : Room).slots) := by
  refine MetFree.of_bodySF (plainFor_of_name own_pn0) hisR ?_
  intro p e s m args below meth c s₁ Bd hml0 hP hK
  obtain ⟨rfl, hZ, hh⟩ := hP
  have hx := Bd.exec
  have hby := Bd.bytes
  have hml : c.maxLocals = 2 := hml0
  have hown : s.vm.findClass "com/example/restate/restate/model/Redline$Mark" = some m.cls := findClass_of_methodNamed Bd.named
  have hnm := (name_of_methodNamed Bd.named Bd.method).1
  have X0 : Stand p l e ({ frames := 0, cells := 0, slots := 0, locals := 0 } : Room) s m #[(.ref xo), (.int xv)] below meth c s₁ [] 0 0 := Stand.of_body Bd
  have e0 : s₁.heap = h0 := by rw [← hh, Bd.state]; rfl
  have N0 := Fr.nil n0
  show own_F p e below (fun o U' => ∃ v L, o = .returned v ∧ own_QS Z xo xv xi xd xr h0 n0 v U'.heap L ∧ FrameEnd s o U' L ({ frames := 0, cells := 0, slots := 0, locals := 0 } : Room).cells ({ frames := 0, cells := 0, slots := 0, locals := 0 } : Room).slots) s₁ (entryFrame m #[(.ref xo), (.int xv)] 2)
  rw [own_efS m xo xv]
  refine own_go (T' := s₁) (g' := (mkF m 1 #[.val (.ref xo), .val (.int xv)] [(.ref xo)])) (fun _ k => XS.aloadN X0.here hx rfl (hb hby own_dS_0) rfl rfl k) ?_
  obtain ⟨T1, X1, e1, st1⟩ := getF X0 hx hZ hown (host := "") (Or.inl (hw _ (List.mem_of_getElem? (i := 9) rfl))) Via.refl e0 F1 (g := (mkF m 1 #[.val (.ref xo), .val (.int xv)] [(.ref xo)])) rfl rfl (hb hby own_dS_1)
  refine own_go (T' := T1) (g' := (mkF m 4 #[.val (.ref xo), .val (.int xv)] [(.int xi)])) (fun _ k => st1 _ k) ?_
  refine own_go (T' := T1) (g' := (mkF m 5 #[.val (.ref xo), .val (.int xv)] [(.int xv), (.int xi)])) (fun _ k => XS.iloadN X1.here hx rfl (hb hby own_dS_4) rfl k) ?_
  by_cases hc5 : xv < xi
  · refine own_go (T' := T1) (g' := (mkF m 27 #[.val (.ref xo), .val (.int xv)] [])) (fun _ k => XS.icmpYes X1.here hx rfl (pc0 := 5) (pc' := 27) rfl (hb hby own_dS_5) rfl (tlt (hc5 : xv < xi)).2.2.1 (by decide) (by decide) k) ?_
    refine own_go (T' := T1) (g' := (mkF m 28 #[.val (.ref xo), .val (.int xv)] [(.int (0 : Int32))])) (fun _ k => XS.iconst X1.here hx rfl (hb hby own_dS_27) k) ?_
    obtain ⟨fs, hr, hrun, hended, hW, hsame⟩ := X1.leave (v := some (.int (0 : Int32))) (fun h => by rw [Bd.returns] at h; cases h)
    refine own_end (retN X1 hx (t := .boolean) Bd.returns (by simp) (hb hby own_dS_28) hr) hrun hended ⟨_, _, rfl, (?_ : own_QS Z xo xv xi xd xr h0 n0 _ T1.heap _), ⟨_, rfl⟩, hW, hsame.mono (by decide) (by decide)⟩
    rw [e1]
    exact ⟨by rw [← hv]; simp [own_reads, hc5], N0, rfl⟩
  · refine own_go (T' := T1) (g' := (mkF m 8 #[.val (.ref xo), .val (.int xv)] [])) (fun _ k => XS.icmpNo X1.here hx rfl (hb hby own_dS_5) rfl (flt (hc5 : ¬ (xv < xi))).2.2.1 k) ?_
    refine own_go (T' := T1) (g' := (mkF m 9 #[.val (.ref xo), .val (.int xv)] [(.ref xo)])) (fun _ k => XS.aloadN X1.here hx rfl (hb hby own_dS_8) rfl rfl k) ?_
    obtain ⟨T2, X2, e2, st2⟩ := getF X1 hx hZ hown (host := "") (Or.inl (hw _ (List.mem_of_getElem? (i := 11) rfl))) Via.refl e1 F2 (g := (mkF m 9 #[.val (.ref xo), .val (.int xv)] [(.ref xo)])) rfl rfl (hb hby own_dS_9)
    refine own_go (T' := T2) (g' := (mkF m 12 #[.val (.ref xo), .val (.int xv)] [(.int xd)])) (fun _ k => st2 _ k) ?_
    by_cases hc12 : xd = (0 : Int32)
    · refine own_go (T' := T2) (g' := (mkF m 23 #[.val (.ref xo), .val (.int xv)] [])) (fun _ k => XS.ifYes X2.here hx rfl (pc0 := 12) (pc' := 23) rfl (hb hby own_dS_12) rfl ((if0 _ _).trans (teq (hc12 : xd = (0 : Int32))).1) (by decide) (by decide) k) ?_
      refine own_go (T' := T2) (g' := (mkF m 24 #[.val (.ref xo), .val (.int xv)] [(.int (1 : Int32))])) (fun _ k => XS.iconst X2.here hx rfl (hb hby own_dS_23) k) ?_
      refine own_go (T' := T2) (g' := (mkF m 28 #[.val (.ref xo), .val (.int xv)] [(.int (1 : Int32))])) (fun _ k => XS.goto X2.here hx rfl (pc0 := 24) (pc' := 28) rfl (hb hby own_dS_24) (by decide) (by decide) k) ?_
      obtain ⟨fs, hr, hrun, hended, hW, hsame⟩ := X2.leave (v := some (.int (1 : Int32))) (fun h => by rw [Bd.returns] at h; cases h)
      refine own_end (retN X2 hx (t := .boolean) Bd.returns (by simp) (hb hby own_dS_28) hr) hrun hended ⟨_, _, rfl, (?_ : own_QS Z xo xv xi xd xr h0 n0 _ T2.heap _), ⟨_, rfl⟩, hW, hsame.mono (by decide) (by decide)⟩
      rw [e2]
      exact ⟨by rw [← hv]; simp [own_reads, hc5, hc12], N0, rfl⟩
    · refine own_go (T' := T2) (g' := (mkF m 15 #[.val (.ref xo), .val (.int xv)] [])) (fun _ k => XS.ifNo X2.here hx rfl (hb hby own_dS_12) rfl ((if0 _ _).trans (feq (hc12 : ¬ (xd = (0 : Int32)))).1) k) ?_
      refine own_go (T' := T2) (g' := (mkF m 16 #[.val (.ref xo), .val (.int xv)] [(.int xv)])) (fun _ k => XS.iloadN X2.here hx rfl (hb hby own_dS_15) rfl k) ?_
      refine own_go (T' := T2) (g' := (mkF m 17 #[.val (.ref xo), .val (.int xv)] [(.ref xo), (.int xv)])) (fun _ k => XS.aloadN X2.here hx rfl (hb hby own_dS_16) rfl rfl k) ?_
      obtain ⟨T3, X3, e3, st3⟩ := getF X2 hx hZ hown (host := "") (Or.inl (hw _ (List.mem_of_getElem? (i := 11) rfl))) Via.refl e2 F2 (g := (mkF m 17 #[.val (.ref xo), .val (.int xv)] [(.ref xo), (.int xv)])) rfl rfl (hb hby own_dS_17)
      refine own_go (T' := T3) (g' := (mkF m 20 #[.val (.ref xo), .val (.int xv)] [(.int xd), (.int xv)])) (fun _ k => st3 _ k) ?_
      by_cases hc20 : xv < xd
      · refine own_go (T' := T3) (g' := (mkF m 23 #[.val (.ref xo), .val (.int xv)] [])) (fun _ k => XS.icmpNo X3.here hx rfl (hb hby own_dS_20) rfl (tlt (hc20 : xv < xd)).2.1 k) ?_
        refine own_go (T' := T3) (g' := (mkF m 24 #[.val (.ref xo), .val (.int xv)] [(.int (1 : Int32))])) (fun _ k => XS.iconst X3.here hx rfl (hb hby own_dS_23) k) ?_
        refine own_go (T' := T3) (g' := (mkF m 28 #[.val (.ref xo), .val (.int xv)] [(.int (1 : Int32))])) (fun _ k => XS.goto X3.here hx rfl (pc0 := 24) (pc' := 28) rfl (hb hby own_dS_24) (by decide) (by decide) k) ?_
        obtain ⟨fs, hr, hrun, hended, hW, hsame⟩ := X3.leave (v := some (.int (1 : Int32))) (fun h => by rw [Bd.returns] at h; cases h)
        refine own_end (retN X3 hx (t := .boolean) Bd.returns (by simp) (hb hby own_dS_28) hr) hrun hended ⟨_, _, rfl, (?_ : own_QS Z xo xv xi xd xr h0 n0 _ T3.heap _), ⟨_, rfl⟩, hW, hsame.mono (by decide) (by decide)⟩
        rw [e3]
        exact ⟨by rw [← hv]; simp [own_reads, hc5, hc12, hc20], N0, rfl⟩
      · refine own_go (T' := T3) (g' := (mkF m 27 #[.val (.ref xo), .val (.int xv)] [])) (fun _ k => XS.icmpYes X3.here hx rfl (pc0 := 20) (pc' := 27) rfl (hb hby own_dS_20) rfl (flt (hc20 : ¬ (xv < xd))).2.1 (by decide) (by decide) k) ?_
        refine own_go (T' := T3) (g' := (mkF m 28 #[.val (.ref xo), .val (.int xv)] [(.int (0 : Int32))])) (fun _ k => XS.iconst X3.here hx rfl (hb hby own_dS_27) k) ?_
        obtain ⟨fs, hr, hrun, hended, hW, hsame⟩ := X3.leave (v := some (.int (0 : Int32))) (fun h => by rw [Bd.returns] at h; cases h)
        refine own_end (retN X3 hx (t := .boolean) Bd.returns (by simp) (hb hby own_dS_28) hr) hrun hended ⟨_, _, rfl, (?_ : own_QS Z xo xv xi xd xr h0 n0 _ T3.heap _), ⟨_, rfl⟩, hW, hsame.mono (by decide) (by decide)⟩
        rw [e3]
        exact ⟨by rw [← hv]; simp [own_reads, hc5, hc12, hc20], N0, rfl⟩
theorem own_dR_0 : decode method_2_code 0 = .ok (.iload_n 2, 1) := by decide +kernel
theorem own_dR_1 : decode method_2_code 1 = .ok (.iload_n 0, 1) := by decide +kernel
theorem own_dR_2 : decode method_2_code 2 = .ok (.if_icmp .ge 5, 3) := by decide +kernel
theorem own_dR_5 : decode method_2_code 5 = .ok (.iconst 0, 1) := by decide +kernel
theorem own_dR_6 : decode method_2_code 6 = .ok (.ireturn, 1) := by decide +kernel
theorem own_dR_7 : decode method_2_code 7 = .ok (.iload_n 1, 1) := by decide +kernel
theorem own_dR_8 : decode method_2_code 8 = .ok (.ifCond .ne 5, 3) := by decide +kernel
theorem own_dR_11 : decode method_2_code 11 = .ok (.iconst 1, 1) := by decide +kernel
theorem own_dR_12 : decode method_2_code 12 = .ok (.ireturn, 1) := by decide +kernel
theorem own_dR_13 : decode method_2_code 13 = .ok (.iload_n 2, 1) := by decide +kernel
theorem own_dR_14 : decode method_2_code 14 = .ok (.iload_n 1, 1) := by decide +kernel
theorem own_dR_15 : decode method_2_code 15 = .ok (.if_icmp .ge 7, 3) := by decide +kernel
theorem own_dR_18 : decode method_2_code 18 = .ok (.iconst 1, 1) := by decide +kernel
theorem own_dR_19 : decode method_2_code 19 = .ok (.goto 4, 3) := by decide +kernel
theorem own_dR_22 : decode method_2_code 22 = .ok (.iconst 0, 1) := by decide +kernel
theorem own_dR_23 : decode method_2_code 23 = .ok (.ireturn, 1) := by decide +kernel
theorem own_efR (m : MethodId) (xi : Int32) (xd : Int32) (xv : Int32) : entryFrame m #[(.int xi), (.int xd), (.int xv)] 3 = mkF m 0 #[.val (.int xi), .val (.int xd), .val (.int xv)] [] := by first | (simp [entryFrame, mkF, argsToLocals, Value.category]; done) | rfl
def own_QR (Z : State) (xi : Int32) (xd : Int32) (xv : Int32)  (h0 : Heap) (n0 : Nat) (v : Option Value) (h : Heap) (L : List Loc) : Prop := v = some (.int (own_reads xi xd xv)) ∧ Fr n0 L ∧ h = h0
theorem own_pn1 : plainName "com/example/restate/restate/model/MarkShownInPinLaw" = true := by first | (simp [plainName, overriddenIn]; done) | decide +kernel
set_option maxRecDepth 65536 in
set_option maxHeartbeats 40000000 in
theorem own_rR (l : Launch) (Z : State) (a0 : Array Value) (hw : ∀ d ∈ tables_1, d.before a0 Z = true) (ws : List Jvm.Cond) (xi : Int32) (xd : Int32) (xv : Int32)  (h0 : Heap) (n0 : Nat) (Z0 : n0 ≤ h0.size) :
    MetFree l (⟨"com/example/restate/restate/model/MarkShownInPinLaw", "reads", "(III)Z"⟩ : MethodName) (head1 (Jvm.Cond.code (⟨"com/example/restate/restate/model/MarkShownInPinLaw", "reads", "(III)Z"⟩ : MethodName) method_2_code 3 (some .boolean) :: ws) ({ frames := 0, cells := 0, slots := 0, locals := 0 } : Room)) (fun a U => a = #[(.int xi), (.int xd), (.int xv)] ∧ Z.Warmed39 U.vm ∧ U.heap = h0) (fun _ _ _ _ _ => True) (fun _ U o U' => ∃ v L, o = .returned v ∧ own_QR Z xi xd xv h0 n0 v U'.heap L ∧ FrameEnd U o U' L ({ frames := 0, cells := 0, slots := 0, locals := 0 } : Room).cells ({ frames := 0, cells := 0, slots := 0, locals := 0 } : Room).slots) := by
  refine MetFree.of_bodySF (plainFor_of_name own_pn1) hisR ?_
  intro p e s m args below meth c s₁ Bd hml0 hP hK
  obtain ⟨rfl, hZ, hh⟩ := hP
  have hx := Bd.exec
  have hby := Bd.bytes
  have hml : c.maxLocals = 3 := hml0
  have hown : s.vm.findClass "com/example/restate/restate/model/MarkShownInPinLaw" = some m.cls := findClass_of_methodNamed Bd.named
  have hnm := (name_of_methodNamed Bd.named Bd.method).1
  have X0 : Stand p l e ({ frames := 0, cells := 0, slots := 0, locals := 0 } : Room) s m #[(.int xi), (.int xd), (.int xv)] below meth c s₁ [] 0 0 := Stand.of_body Bd
  have e0 : s₁.heap = h0 := by rw [← hh, Bd.state]; rfl
  have N0 := Fr.nil n0
  show own_F p e below (fun o U' => ∃ v L, o = .returned v ∧ own_QR Z xi xd xv h0 n0 v U'.heap L ∧ FrameEnd s o U' L ({ frames := 0, cells := 0, slots := 0, locals := 0 } : Room).cells ({ frames := 0, cells := 0, slots := 0, locals := 0 } : Room).slots) s₁ (entryFrame m #[(.int xi), (.int xd), (.int xv)] 3)
  rw [own_efR m xi xd xv]
  refine own_go (T' := s₁) (g' := (mkF m 1 #[.val (.int xi), .val (.int xd), .val (.int xv)] [(.int xv)])) (fun _ k => XS.iloadN X0.here hx rfl (hb hby own_dR_0) rfl k) ?_
  refine own_go (T' := s₁) (g' := (mkF m 2 #[.val (.int xi), .val (.int xd), .val (.int xv)] [(.int xi), (.int xv)])) (fun _ k => XS.iloadN X0.here hx rfl (hb hby own_dR_1) rfl k) ?_
  by_cases hc2 : xv < xi
  · refine own_go (T' := s₁) (g' := (mkF m 5 #[.val (.int xi), .val (.int xd), .val (.int xv)] [])) (fun _ k => XS.icmpNo X0.here hx rfl (hb hby own_dR_2) rfl (tlt (hc2 : xv < xi)).2.1 k) ?_
    refine own_go (T' := s₁) (g' := (mkF m 6 #[.val (.int xi), .val (.int xd), .val (.int xv)] [(.int (0 : Int32))])) (fun _ k => XS.iconst X0.here hx rfl (hb hby own_dR_5) k) ?_
    obtain ⟨fs, hr, hrun, hended, hW, hsame⟩ := X0.leave (v := some (.int (0 : Int32))) (fun h => by rw [Bd.returns] at h; cases h)
    refine own_end (retN X0 hx (t := .boolean) Bd.returns (by simp) (hb hby own_dR_6) hr) hrun hended ⟨_, _, rfl, (?_ : own_QR Z xi xd xv h0 n0 _ s₁.heap _), ⟨_, rfl⟩, hW, hsame.mono (by decide) (by decide)⟩
    rw [e0]
    exact ⟨by simp [own_reads, hc2], N0, rfl⟩
  · refine own_go (T' := s₁) (g' := (mkF m 7 #[.val (.int xi), .val (.int xd), .val (.int xv)] [])) (fun _ k => XS.icmpYes X0.here hx rfl (pc0 := 2) (pc' := 7) rfl (hb hby own_dR_2) rfl (flt (hc2 : ¬ (xv < xi))).2.1 (by decide) (by decide) k) ?_
    refine own_go (T' := s₁) (g' := (mkF m 8 #[.val (.int xi), .val (.int xd), .val (.int xv)] [(.int xd)])) (fun _ k => XS.iloadN X0.here hx rfl (hb hby own_dR_7) rfl k) ?_
    by_cases hc8 : xd = (0 : Int32)
    · refine own_go (T' := s₁) (g' := (mkF m 11 #[.val (.int xi), .val (.int xd), .val (.int xv)] [])) (fun _ k => XS.ifNo X0.here hx rfl (hb hby own_dR_8) rfl ((if0 _ _).trans (teq (hc8 : xd = (0 : Int32))).2) k) ?_
      refine own_go (T' := s₁) (g' := (mkF m 12 #[.val (.int xi), .val (.int xd), .val (.int xv)] [(.int (1 : Int32))])) (fun _ k => XS.iconst X0.here hx rfl (hb hby own_dR_11) k) ?_
      obtain ⟨fs, hr, hrun, hended, hW, hsame⟩ := X0.leave (v := some (.int (1 : Int32))) (fun h => by rw [Bd.returns] at h; cases h)
      refine own_end (retN X0 hx (t := .boolean) Bd.returns (by simp) (hb hby own_dR_12) hr) hrun hended ⟨_, _, rfl, (?_ : own_QR Z xi xd xv h0 n0 _ s₁.heap _), ⟨_, rfl⟩, hW, hsame.mono (by decide) (by decide)⟩
      rw [e0]
      exact ⟨by simp [own_reads, hc2, hc8], N0, rfl⟩
    · refine own_go (T' := s₁) (g' := (mkF m 13 #[.val (.int xi), .val (.int xd), .val (.int xv)] [])) (fun _ k => XS.ifYes X0.here hx rfl (pc0 := 8) (pc' := 13) rfl (hb hby own_dR_8) rfl ((if0 _ _).trans (feq (hc8 : ¬ (xd = (0 : Int32)))).2) (by decide) (by decide) k) ?_
      refine own_go (T' := s₁) (g' := (mkF m 14 #[.val (.int xi), .val (.int xd), .val (.int xv)] [(.int xv)])) (fun _ k => XS.iloadN X0.here hx rfl (hb hby own_dR_13) rfl k) ?_
      refine own_go (T' := s₁) (g' := (mkF m 15 #[.val (.int xi), .val (.int xd), .val (.int xv)] [(.int xd), (.int xv)])) (fun _ k => XS.iloadN X0.here hx rfl (hb hby own_dR_14) rfl k) ?_
      by_cases hc15 : xv < xd
      · refine own_go (T' := s₁) (g' := (mkF m 18 #[.val (.int xi), .val (.int xd), .val (.int xv)] [])) (fun _ k => XS.icmpNo X0.here hx rfl (hb hby own_dR_15) rfl (tlt (hc15 : xv < xd)).2.1 k) ?_
        refine own_go (T' := s₁) (g' := (mkF m 19 #[.val (.int xi), .val (.int xd), .val (.int xv)] [(.int (1 : Int32))])) (fun _ k => XS.iconst X0.here hx rfl (hb hby own_dR_18) k) ?_
        refine own_go (T' := s₁) (g' := (mkF m 23 #[.val (.int xi), .val (.int xd), .val (.int xv)] [(.int (1 : Int32))])) (fun _ k => XS.goto X0.here hx rfl (pc0 := 19) (pc' := 23) rfl (hb hby own_dR_19) (by decide) (by decide) k) ?_
        obtain ⟨fs, hr, hrun, hended, hW, hsame⟩ := X0.leave (v := some (.int (1 : Int32))) (fun h => by rw [Bd.returns] at h; cases h)
        refine own_end (retN X0 hx (t := .boolean) Bd.returns (by simp) (hb hby own_dR_23) hr) hrun hended ⟨_, _, rfl, (?_ : own_QR Z xi xd xv h0 n0 _ s₁.heap _), ⟨_, rfl⟩, hW, hsame.mono (by decide) (by decide)⟩
        rw [e0]
        exact ⟨by simp [own_reads, hc2, hc8, hc15], N0, rfl⟩
      · refine own_go (T' := s₁) (g' := (mkF m 22 #[.val (.int xi), .val (.int xd), .val (.int xv)] [])) (fun _ k => XS.icmpYes X0.here hx rfl (pc0 := 15) (pc' := 22) rfl (hb hby own_dR_15) rfl (flt (hc15 : ¬ (xv < xd))).2.1 (by decide) (by decide) k) ?_
        refine own_go (T' := s₁) (g' := (mkF m 23 #[.val (.int xi), .val (.int xd), .val (.int xv)] [(.int (0 : Int32))])) (fun _ k => XS.iconst X0.here hx rfl (hb hby own_dR_22) k) ?_
        obtain ⟨fs, hr, hrun, hended, hW, hsame⟩ := X0.leave (v := some (.int (0 : Int32))) (fun h => by rw [Bd.returns] at h; cases h)
        refine own_end (retN X0 hx (t := .boolean) Bd.returns (by simp) (hb hby own_dR_23) hr) hrun hended ⟨_, _, rfl, (?_ : own_QR Z xi xd xv h0 n0 _ s₁.heap _), ⟨_, rfl⟩, hW, hsame.mono (by decide) (by decide)⟩
        rw [e0]
        exact ⟨by simp [own_reads, hc2, hc8, hc15], N0, rfl⟩
theorem own_pd0 : parseMethodDescriptor "(II)V" = some ⟨[.int, .int], none⟩ := by decide +kernel
theorem own_pd1 : parseMethodDescriptor "(I)Z" = some ⟨[.int], some .boolean⟩ := by decide +kernel
theorem own_pd2 : parseMethodDescriptor "(III)Z" = some ⟨[.int, .int, .int], some .boolean⟩ := by decide +kernel
theorem own_efL (m : MethodId) (xi : Int32) (xd : Int32) (xv : Int32) (xs : Int32) : entryFrame m #[(.int xi), (.int xd), (.int xv), (.int xs)] maxLocals = mkF m 0 #[.val (.int xi), .val (.int xd), .val (.int xv), .val (.int xs), .unset, .unset, .unset, .unset, .unset, .unset, .unset, .unset, .unset, .unset, .unset, .unset] [] := by first | (simp [entryFrame, mkF, argsToLocals, Value.category, maxLocals]; done) | rfl
def own_QL (Z : State) (xi : Int32) (xd : Int32) (xv : Int32) (xs : Int32)  (h0 : Heap) (n0 : Nat) (v : Option Value) (h : Heap) (L : List Loc) : Prop := v = some (.int (1 : Int32)) ∧ Fr n0 L
set_option maxRecDepth 65536 in
set_option maxHeartbeats 40000000 in
theorem own_rL (l : Launch) (Z : State) (a0 : Array Value) (hw : ∀ d ∈ tables_1, d.before a0 Z = true) (ws : List Jvm.Cond) (xi : Int32) (xd : Int32) (xv : Int32) (xs : Int32)  (h0 : Heap) (n0 : Nat) (Z0 : n0 ≤ h0.size) :
    MetFree l x (head1 (Jvm.Cond.code x code maxLocals ret :: ws) room_1) (fun a U => a = #[(.int xi), (.int xd), (.int xv), (.int xs)] ∧ Z.Warmed39 U.vm ∧ U.heap = h0) (fun _ _ _ _ _ => True) (fun _ U o U' => ∃ v L, o = .returned v ∧ own_QL Z xi xd xv xs h0 n0 v U'.heap L ∧ FrameEnd U o U' L room_1.cells room_1.slots) := by
  refine MetFree.of_bodySF (plainFor_of_name own_pn1) hisR ?_
  intro p e s m args below meth c s₁ Bd hml0 hP hK
  obtain ⟨rfl, hZ, hh⟩ := hP
  have hx := Bd.exec
  have hby := Bd.bytes
  have hml : c.maxLocals = 16 := hml0
  have hown : s.vm.findClass "com/example/restate/restate/model/MarkShownInPinLaw" = some m.cls := findClass_of_methodNamed Bd.named
  have hnm := (name_of_methodNamed Bd.named Bd.method).1
  have X0 : Stand p l e room_1 s m #[(.int xi), (.int xd), (.int xv), (.int xs)] below meth c s₁ [] 0 0 := Stand.of_body Bd
  have e0 : s₁.heap = h0 := by rw [← hh, Bd.state]; rfl
  have N0 := Fr.nil n0
  show own_F p e below (fun o U' => ∃ v L, o = .returned v ∧ own_QL Z xi xd xv xs h0 n0 v U'.heap L ∧ FrameEnd s o U' L room_1.cells room_1.slots) s₁ (entryFrame m #[(.int xi), (.int xd), (.int xv), (.int xs)] maxLocals)
  rw [own_efL m xi xd xv xs]
  obtain ⟨T1, h1, X1, e1, E1, A1, D1, -, st1⟩ := newO X0 hx hZ hown (hw _ (List.mem_of_getElem? (i := 0) rfl)) (hw _ (List.mem_of_getElem? (i := 1) rfl)) (hw _ (List.mem_of_getElem? (i := 2) rfl)) e0 (g := (mkF m 0 #[.val (.int xi), .val (.int xd), .val (.int xv), .val (.int xs), .unset, .unset, .unset, .unset, .unset, .unset, .unset, .unset, .unset, .unset, .unset, .unset] [])) rfl (hb hby at_0) (by decide) (by decide)
  obtain ⟨b1, g1⟩ : ∃ z, z = h0.size := ⟨_, rfl⟩
  rw [← g1] at A1 D1 st1
  have gz_b1 : n0 ≤ b1 := Nat.le_trans Z0 (Nat.le_of_eq g1.symm)
  have hz_b1 : h0.size ≤ b1 := Nat.le_trans (Keep.refl h0 []).1 (Nat.le_of_eq g1.symm)
  have Z1 : n0 ≤ h1.size := Nat.le_trans Z0 E1.1
  have O1 : Ext h0 h1 := own_ext_tr (own_ext_rf h0) E1
  have K1 : Keep h0 h1 [] := (Keep.refl h0 []).ext E1
  have Finserted_b1 : Fld Z h1 b1 "com/example/restate/restate/model/Redline$Mark" "inserted" "I" (.int (0 : Int32)) := D1 (Or.inr (hw _ (List.mem_of_getElem? (i := 10) rfl))) (ty := .int) (by decide)
  have Fdeleted_b1 : Fld Z h1 b1 "com/example/restate/restate/model/Redline$Mark" "deleted" "I" (.int (0 : Int32)) := D1 (Or.inr (hw _ (List.mem_of_getElem? (i := 12) rfl))) (ty := .int) (by decide)
  refine own_go (T' := T1) (g' := (mkF m 3 #[.val (.int xi), .val (.int xd), .val (.int xv), .val (.int xs), .unset, .unset, .unset, .unset, .unset, .unset, .unset, .unset, .unset, .unset, .unset, .unset] [(.ref b1)])) (fun _ k => st1 _ k) ?_
  refine own_go (T' := T1) (g' := (mkF m 4 #[.val (.int xi), .val (.int xd), .val (.int xv), .val (.int xs), .unset, .unset, .unset, .unset, .unset, .unset, .unset, .unset, .unset, .unset, .unset, .unset] [(.ref b1), (.ref b1)])) (fun _ k => XS.dup X1.here hx rfl (hb hby at_3) rfl rfl k) ?_
  refine own_go (T' := T1) (g' := (mkF m 5 #[.val (.int xi), .val (.int xd), .val (.int xv), .val (.int xs), .unset, .unset, .unset, .unset, .unset, .unset, .unset, .unset, .unset, .unset, .unset, .unset] [(.int xi), (.ref b1), (.ref b1)])) (fun _ k => XS.iloadN X1.here hx rfl (hb hby at_4) rfl k) ?_
  refine own_go (T' := T1) (g' := (mkF m 6 #[.val (.int xi), .val (.int xd), .val (.int xv), .val (.int xs), .unset, .unset, .unset, .unset, .unset, .unset, .unset, .unset, .unset, .unset, .unset, .unset] [(.int xd), (.int xi), (.ref b1), (.ref b1)])) (fun _ k => XS.iloadN X1.here hx rfl (hb hby at_5) rfl k) ?_
  obtain ⟨_, _, ⟨T2, L2, k2, n2⟩, -, X2, ⟨Lc2, hQ2, l2, y2, z2⟩, st2⟩ := X1.specialBack hx (y := (⟨"com/example/restate/restate/model/Redline$Mark", "<init>", "(II)V"⟩ : MethodName)) rfl hown (mvT hZ (hw _ (List.mem_of_getElem? (i := 3) rfl))) (mvT hZ (hw _ (List.mem_of_getElem? (i := 4) rfl))) (mvT hZ (hw _ (List.mem_of_getElem? (i := 5) rfl))) (by decide) (backOf (W := 1) (own_rI l Z a0 hw [] b1 xi xd h1 n0 Z1 Finserted_b1 Fdeleted_b1 A1 gz_b1) hZ (hw _ (List.mem_of_getElem? (i := 5) rfl)) (hw _ (List.mem_of_getElem? (i := 2) rfl)) (by decide) (by decide)) (g := (mkF m 6 #[.val (.int xi), .val (.int xd), .val (.int xv), .val (.int xs), .unset, .unset, .unset, .unset, .unset, .unset, .unset, .unset, .unset, .unset, .unset, .unset] [(.int xd), (.int xi), (.ref b1), (.ref b1)])) rfl (by rw [hml]; rfl) (Steps.refl _) (a := b1) (argsL := [(.int xi), (.int xd)]) (rest := [(.ref b1)]) (lenOf own_pd0 rfl) rfl (by show 2 * 0 + _ ≤ _; exact Nat.le_of_eq rfl) (hb hby at_6) (fun _ _ => ⟨rfl, e1, (by decide : 1 + 0 ≤ _), (by decide : 2 + 0 ≤ _)⟩)
  dsimp only [Pt.U, Pt.locs, Pt.cells, Pt.slots] at X2 l2 y2 z2 st2 hQ2
  subst l2 y2 z2
  obtain ⟨rfl, N2q, Kc2, Ec2, Fi2, Fd2⟩ := hQ2
  have N2 := Fr.app N0 N2q
  have Z2 : n0 ≤ T2.heap.size := Nat.le_trans Z1 Kc2.1
  have O2 : Ext h0 T2.heap := own_ext_keep O1 Kc2 (own_all1 hz_b1)
  have K2 : Keep h0 T2.heap [] := K1.trans Kc2 fun x hx => Or.inr ((own_all1 hz_b1) x hx)
  refine own_goT (T' := T2) (g' := (mkF m 9 #[.val (.int xi), .val (.int xd), .val (.int xv), .val (.int xs), .unset, .unset, .unset, .unset, .unset, .unset, .unset, .unset, .unset, .unset, .unset, .unset] [(.ref b1)])) st2 ?_
  refine own_go (T' := T2) (g' := (mkF m 11 #[.val (.int xi), .val (.int xd), .val (.int xv), .val (.int xs), .val (.ref b1), .unset, .unset, .unset, .unset, .unset, .unset, .unset, .unset, .unset, .unset, .unset] [])) (fun _ k => XS.astore X2.here hx rfl (hb hby at_9) rfl rfl (l' := #[.val (.int xi), .val (.int xd), .val (.int xv), .val (.int xs), .val (.ref b1), .unset, .unset, .unset, .unset, .unset, .unset, .unset, .unset, .unset, .unset, .unset]) rfl k) ?_
  refine own_go (T' := T2) (g' := (mkF m 13 #[.val (.int xi), .val (.int xd), .val (.int xv), .val (.int xs), .val (.ref b1), .unset, .unset, .unset, .unset, .unset, .unset, .unset, .unset, .unset, .unset, .unset] [(.ref b1)])) (fun _ k => XS.aload X2.here hx rfl (hb hby at_11) rfl rfl k) ?_
  refine own_go (T' := T2) (g' := (mkF m 14 #[.val (.int xi), .val (.int xd), .val (.int xv), .val (.int xs), .val (.ref b1), .unset, .unset, .unset, .unset, .unset, .unset, .unset, .unset, .unset, .unset, .unset] [(.int xv), (.ref b1)])) (fun _ k => XS.iloadN X2.here hx rfl (hb hby at_13) rfl k) ?_
  obtain ⟨cq3, kq3, q3a, q3b, q3c⟩ := isOf hZ rfl Ec2
  obtain ⟨_, _, ⟨T3, L3, k3, n3⟩, -, X3, ⟨Lc3, hQ3, l3, y3, z3⟩, st3⟩ := X2.virtualBack hx (y := (⟨"com/example/restate/restate/model/Redline$Mark", "shownIn", "(I)Z"⟩ : MethodName)) (z := (⟨"com/example/restate/restate/model/Redline$Mark", "shownIn", "(I)Z"⟩ : MethodName)) hown (mvT hZ (hw _ (List.mem_of_getElem? (i := 13) rfl))) (mvT hZ (hw _ (List.mem_of_getElem? (i := 14) rfl))) (notFace_of_selects (args := #[]) (mvT hZ (hw _ (List.mem_of_getElem? (i := 16) rfl)))) (mvT hZ (hw _ (List.mem_of_getElem? (i := 16) rfl))) (mvT hZ (hw _ (List.mem_of_getElem? (i := 15) rfl))) (by decide) (backOf (W := 0) (own_rS l Z a0 hw [] b1 xv xi xd (own_reads xi xd xv) T2.heap n0 Z2 Fi2 Fd2 rfl) hZ (hw _ (List.mem_of_getElem? (i := 17) rfl)) (hw _ (List.mem_of_getElem? (i := 2) rfl)) (by decide) (by decide)) q3a q3c (g := (mkF m 14 #[.val (.int xi), .val (.int xd), .val (.int xv), .val (.int xs), .val (.ref b1), .unset, .unset, .unset, .unset, .unset, .unset, .unset, .unset, .unset, .unset, .unset] [(.int xv), (.ref b1)])) rfl (by rw [hml]; rfl) (Steps.refl _) (argsL := [(.int xv)]) (rest := []) (lenOf own_pd1 rfl) rfl (by show 2 * 0 + _ ≤ _; exact Nat.le_of_eq rfl) (hb hby at_14) (fun _ _ => ⟨rfl, rfl, (by decide : 1 + 0 ≤ _), (by decide : 2 + 0 ≤ _)⟩)
  dsimp only [Pt.U, Pt.locs, Pt.cells, Pt.slots] at X3 l3 y3 z3 st3 hQ3
  subst l3 y3 z3
  obtain ⟨rfl, N3q, e3⟩ := hQ3
  have N3 := Fr.app N2 N3q
  refine own_goT (T' := T3) (g' := (mkF m 17 #[.val (.int xi), .val (.int xd), .val (.int xv), .val (.int xs), .val (.ref b1), .unset, .unset, .unset, .unset, .unset, .unset, .unset, .unset, .unset, .unset, .unset] [(.int (own_reads xi xd xv))])) st3 ?_
  refine own_go (T' := T3) (g' := (mkF m 18 #[.val (.int xi), .val (.int xd), .val (.int xv), .val (.int xs), .val (.ref b1), .unset, .unset, .unset, .unset, .unset, .unset, .unset, .unset, .unset, .unset, .unset] [(.int xi), (.int (own_reads xi xd xv))])) (fun _ k => XS.iloadN X3.here hx rfl (hb hby at_17) rfl k) ?_
  refine own_go (T' := T3) (g' := (mkF m 19 #[.val (.int xi), .val (.int xd), .val (.int xv), .val (.int xs), .val (.ref b1), .unset, .unset, .unset, .unset, .unset, .unset, .unset, .unset, .unset, .unset, .unset] [(.int xd), (.int xi), (.int (own_reads xi xd xv))])) (fun _ k => XS.iloadN X3.here hx rfl (hb hby at_18) rfl k) ?_
  refine own_go (T' := T3) (g' := (mkF m 20 #[.val (.int xi), .val (.int xd), .val (.int xv), .val (.int xs), .val (.ref b1), .unset, .unset, .unset, .unset, .unset, .unset, .unset, .unset, .unset, .unset, .unset] [(.int xv), (.int xd), (.int xi), (.int (own_reads xi xd xv))])) (fun _ k => XS.iloadN X3.here hx rfl (hb hby at_19) rfl k) ?_
  obtain ⟨_, _, ⟨T4, L4, k4, n4⟩, -, X4, ⟨Lc4, hQ4, l4, y4, z4⟩, st4⟩ := Jvm.LawKit.callS X3 hx (y := (⟨"com/example/restate/restate/model/MarkShownInPinLaw", "reads", "(III)Z"⟩ : MethodName)) hown (mvT hZ (hw _ (List.mem_of_getElem? (i := 18) rfl))) (mvT hZ (hw _ (List.mem_of_getElem? (i := 19) rfl))) (mvT hZ (hw _ (List.mem_of_getElem? (i := 20) rfl))) (mvT hZ (hw _ (List.mem_of_getElem? (i := 21) rfl))) (by decide) (backOf (W := 1) (own_rR l Z a0 hw [] xi xd xv T2.heap n0 Z2 ) hZ (hw _ (List.mem_of_getElem? (i := 21) rfl)) (hw _ (List.mem_of_getElem? (i := 20) rfl)) (by decide) (by decide)) (g := (mkF m 20 #[.val (.int xi), .val (.int xd), .val (.int xv), .val (.int xs), .val (.ref b1), .unset, .unset, .unset, .unset, .unset, .unset, .unset, .unset, .unset, .unset, .unset] [(.int xv), (.int xd), (.int xi), (.int (own_reads xi xd xv))])) rfl (by rw [hml]; rfl) (argsL := [(.int xi), (.int xd), (.int xv)]) (rest := [(.int (own_reads xi xd xv))]) (lenOf own_pd2 rfl) rfl (by show 2 * 0 + _ ≤ _; exact Nat.le_of_eq rfl) (hb hby at_20) (fun _ _ => ⟨rfl, e3, (by decide : 1 + 0 ≤ _), (by decide : 2 + 0 ≤ _)⟩)
  dsimp only [Pt.U, Pt.locs, Pt.cells, Pt.slots] at X4 l4 y4 z4 st4 hQ4
  subst l4 y4 z4
  obtain ⟨rfl, N4q, e4⟩ := hQ4
  have N4 := Fr.app N3 N4q
  refine own_go (T' := T4) (g' := (mkF m 23 #[.val (.int xi), .val (.int xd), .val (.int xv), .val (.int xs), .val (.ref b1), .unset, .unset, .unset, .unset, .unset, .unset, .unset, .unset, .unset, .unset, .unset] [(.int (own_reads xi xd xv)), (.int (own_reads xi xd xv))])) (fun _ k => st4 _ k) ?_
  refine own_go (T' := T4) (g' := (mkF m 26 #[.val (.int xi), .val (.int xd), .val (.int xv), .val (.int xs), .val (.ref b1), .unset, .unset, .unset, .unset, .unset, .unset, .unset, .unset, .unset, .unset, .unset] [])) (fun _ k => XS.icmpNo X4.here hx rfl (hb hby at_23) rfl (teq (rfl : (own_reads xi xd xv) = (own_reads xi xd xv))).2 k) ?_
  refine own_go (T' := T4) (g' := (mkF m 27 #[.val (.int xi), .val (.int xd), .val (.int xv), .val (.int xs), .val (.ref b1), .unset, .unset, .unset, .unset, .unset, .unset, .unset, .unset, .unset, .unset, .unset] [(.int (1 : Int32))])) (fun _ k => XS.iconst X4.here hx rfl (hb hby at_26) k) ?_
  refine own_go (T' := T4) (g' := (mkF m 31 #[.val (.int xi), .val (.int xd), .val (.int xv), .val (.int xs), .val (.ref b1), .unset, .unset, .unset, .unset, .unset, .unset, .unset, .unset, .unset, .unset, .unset] [(.int (1 : Int32))])) (fun _ k => XS.goto X4.here hx rfl (pc0 := 27) (pc' := 31) rfl (hb hby at_27) (by decide) (by decide) k) ?_
  refine own_go (T' := T4) (g' := (mkF m 33 #[.val (.int xi), .val (.int xd), .val (.int xv), .val (.int xs), .val (.ref b1), .val (.int (1 : Int32)), .unset, .unset, .unset, .unset, .unset, .unset, .unset, .unset, .unset, .unset] [])) (fun _ k => XS.istore X4.here hx rfl (hb hby at_31) rfl (l' := #[.val (.int xi), .val (.int xd), .val (.int xv), .val (.int xs), .val (.ref b1), .val (.int (1 : Int32)), .unset, .unset, .unset, .unset, .unset, .unset, .unset, .unset, .unset, .unset]) rfl k) ?_
  refine own_go (T' := T4) (g' := (mkF m 34 #[.val (.int xi), .val (.int xd), .val (.int xv), .val (.int xs), .val (.ref b1), .val (.int (1 : Int32)), .unset, .unset, .unset, .unset, .unset, .unset, .unset, .unset, .unset, .unset] [(.int xi)])) (fun _ k => XS.iloadN X4.here hx rfl (hb hby at_33) rfl k) ?_
  refine own_go (T' := T4) (g' := (mkF m 36 #[.val (.int xi), .val (.int xd), .val (.int xv), .val (.int xs), .val (.ref b1), .val (.int (1 : Int32)), .unset, .unset, .unset, .unset, .unset, .unset, .unset, .unset, .unset, .unset] [(.int (1073741823 : Int32)), (.int xi)])) (fun _ k => X4.ldcInt hx hown (mvT hZ (hw _ (List.mem_of_getElem? (i := 22) rfl))) (g := (mkF m 34 #[.val (.int xi), .val (.int xd), .val (.int xv), .val (.int xs), .val (.ref b1), .val (.int (1 : Int32)), .unset, .unset, .unset, .unset, .unset, .unset, .unset, .unset, .unset, .unset] [(.int xi)])) rfl (hb hby at_34) _ k) ?_
  refine own_go (T' := T4) (g' := (mkF m 37 #[.val (.int xi), .val (.int xd), .val (.int xv), .val (.int xs), .val (.ref b1), .val (.int (1 : Int32)), .unset, .unset, .unset, .unset, .unset, .unset, .unset, .unset, .unset, .unset] [(.int (xi &&& (1073741823 : Int32)))])) (fun _ k => XS.iand X4.here hx rfl (hb hby at_36) rfl k) ?_
  refine own_go (T' := T4) (g' := (mkF m 39 #[.val (.int xi), .val (.int xd), .val (.int xv), .val (.int xs), .val (.ref b1), .val (.int (1 : Int32)), .val (.int (xi &&& (1073741823 : Int32))), .unset, .unset, .unset, .unset, .unset, .unset, .unset, .unset, .unset] [])) (fun _ k => XS.istore X4.here hx rfl (hb hby at_37) rfl (l' := #[.val (.int xi), .val (.int xd), .val (.int xv), .val (.int xs), .val (.ref b1), .val (.int (1 : Int32)), .val (.int (xi &&& (1073741823 : Int32))), .unset, .unset, .unset, .unset, .unset, .unset, .unset, .unset, .unset]) rfl k) ?_
  refine own_go (T' := T4) (g' := (mkF m 41 #[.val (.int xi), .val (.int xd), .val (.int xv), .val (.int xs), .val (.ref b1), .val (.int (1 : Int32)), .val (.int (xi &&& (1073741823 : Int32))), .unset, .unset, .unset, .unset, .unset, .unset, .unset, .unset, .unset] [(.int (xi &&& (1073741823 : Int32)))])) (fun _ k => XS.iload X4.here hx rfl (hb hby at_39) rfl k) ?_
  refine own_go (T' := T4) (g' := (mkF m 42 #[.val (.int xi), .val (.int xd), .val (.int xv), .val (.int xs), .val (.ref b1), .val (.int (1 : Int32)), .val (.int (xi &&& (1073741823 : Int32))), .unset, .unset, .unset, .unset, .unset, .unset, .unset, .unset, .unset] [(.int (1 : Int32)), (.int (xi &&& (1073741823 : Int32)))])) (fun _ k => XS.iconst X4.here hx rfl (hb hby at_41) k) ?_
  refine own_go (T' := T4) (g' := (mkF m 43 #[.val (.int xi), .val (.int xd), .val (.int xv), .val (.int xs), .val (.ref b1), .val (.int (1 : Int32)), .val (.int (xi &&& (1073741823 : Int32))), .unset, .unset, .unset, .unset, .unset, .unset, .unset, .unset, .unset] [(.int ((xi &&& (1073741823 : Int32)) + (1 : Int32)))])) (fun _ k => XS.iadd X4.here hx rfl (hb hby at_42) rfl k) ?_
  refine own_go (T' := T4) (g' := (mkF m 44 #[.val (.int xi), .val (.int xd), .val (.int xv), .val (.int xs), .val (.ref b1), .val (.int (1 : Int32)), .val (.int (xi &&& (1073741823 : Int32))), .unset, .unset, .unset, .unset, .unset, .unset, .unset, .unset, .unset] [(.int xs), (.int ((xi &&& (1073741823 : Int32)) + (1 : Int32)))])) (fun _ k => XS.iloadN X4.here hx rfl (hb hby at_43) rfl k) ?_
  refine own_go (T' := T4) (g' := (mkF m 46 #[.val (.int xi), .val (.int xd), .val (.int xv), .val (.int xs), .val (.ref b1), .val (.int (1 : Int32)), .val (.int (xi &&& (1073741823 : Int32))), .unset, .unset, .unset, .unset, .unset, .unset, .unset, .unset, .unset] [(.int (1073741823 : Int32)), (.int xs), (.int ((xi &&& (1073741823 : Int32)) + (1 : Int32)))])) (fun _ k => X4.ldcInt hx hown (mvT hZ (hw _ (List.mem_of_getElem? (i := 22) rfl))) (g := (mkF m 44 #[.val (.int xi), .val (.int xd), .val (.int xv), .val (.int xs), .val (.ref b1), .val (.int (1 : Int32)), .val (.int (xi &&& (1073741823 : Int32))), .unset, .unset, .unset, .unset, .unset, .unset, .unset, .unset, .unset] [(.int xs), (.int ((xi &&& (1073741823 : Int32)) + (1 : Int32)))])) rfl (hb hby at_44) _ k) ?_
  refine own_go (T' := T4) (g' := (mkF m 47 #[.val (.int xi), .val (.int xd), .val (.int xv), .val (.int xs), .val (.ref b1), .val (.int (1 : Int32)), .val (.int (xi &&& (1073741823 : Int32))), .unset, .unset, .unset, .unset, .unset, .unset, .unset, .unset, .unset] [(.int (xs &&& (1073741823 : Int32))), (.int ((xi &&& (1073741823 : Int32)) + (1 : Int32)))])) (fun _ k => XS.iand X4.here hx rfl (hb hby at_46) rfl k) ?_
  refine own_go (T' := T4) (g' := (mkF m 48 #[.val (.int xi), .val (.int xd), .val (.int xv), .val (.int xs), .val (.ref b1), .val (.int (1 : Int32)), .val (.int (xi &&& (1073741823 : Int32))), .unset, .unset, .unset, .unset, .unset, .unset, .unset, .unset, .unset] [(.int (((xi &&& (1073741823 : Int32)) + (1 : Int32)) + (xs &&& (1073741823 : Int32))))])) (fun _ k => XS.iadd X4.here hx rfl (hb hby at_47) rfl k) ?_
  refine own_go (T' := T4) (g' := (mkF m 50 #[.val (.int xi), .val (.int xd), .val (.int xv), .val (.int xs), .val (.ref b1), .val (.int (1 : Int32)), .val (.int (xi &&& (1073741823 : Int32))), .val (.int (((xi &&& (1073741823 : Int32)) + (1 : Int32)) + (xs &&& (1073741823 : Int32)))), .unset, .unset, .unset, .unset, .unset, .unset, .unset, .unset] [])) (fun _ k => XS.istore X4.here hx rfl (hb hby at_48) rfl (l' := #[.val (.int xi), .val (.int xd), .val (.int xv), .val (.int xs), .val (.ref b1), .val (.int (1 : Int32)), .val (.int (xi &&& (1073741823 : Int32))), .val (.int (((xi &&& (1073741823 : Int32)) + (1 : Int32)) + (xs &&& (1073741823 : Int32)))), .unset, .unset, .unset, .unset, .unset, .unset, .unset, .unset]) rfl k) ?_
  obtain ⟨T5, h5, X5, e5, E5, A5, D5, -, st5⟩ := newO X4 hx hZ hown (hw _ (List.mem_of_getElem? (i := 0) rfl)) (hw _ (List.mem_of_getElem? (i := 1) rfl)) (hw _ (List.mem_of_getElem? (i := 2) rfl)) e4 (g := (mkF m 50 #[.val (.int xi), .val (.int xd), .val (.int xv), .val (.int xs), .val (.ref b1), .val (.int (1 : Int32)), .val (.int (xi &&& (1073741823 : Int32))), .val (.int (((xi &&& (1073741823 : Int32)) + (1 : Int32)) + (xs &&& (1073741823 : Int32)))), .unset, .unset, .unset, .unset, .unset, .unset, .unset, .unset] [])) rfl (hb hby at_50) (by decide) (by decide)
  obtain ⟨b5, g5⟩ : ∃ z, z = T2.heap.size := ⟨_, rfl⟩
  rw [← g5] at A5 D5 st5
  have ne_b1_b5 : b1 ≠ b5 := Nat.ne_of_lt (Nat.lt_of_lt_of_le Ec2.lt (Nat.le_of_eq g5.symm))
  have gz_b5 : n0 ≤ b5 := Nat.le_trans Z2 (Nat.le_of_eq g5.symm)
  have hz_b5 : h0.size ≤ b5 := Nat.le_trans K2.1 (Nat.le_of_eq g5.symm)
  have Ek6 := Ec2.ext E5
  have Fk7 := Fi2.ext E5
  have Fk8 := Fd2.ext E5
  have Z5 : n0 ≤ h5.size := Nat.le_trans Z2 E5.1
  have O5 : Ext h0 h5 := own_ext_tr O2 E5
  have K5 : Keep h0 h5 [] := K2.ext E5
  have Finserted_b5 : Fld Z h5 b5 "com/example/restate/restate/model/Redline$Mark" "inserted" "I" (.int (0 : Int32)) := D5 (Or.inr (hw _ (List.mem_of_getElem? (i := 10) rfl))) (ty := .int) (by decide)
  have Fdeleted_b5 : Fld Z h5 b5 "com/example/restate/restate/model/Redline$Mark" "deleted" "I" (.int (0 : Int32)) := D5 (Or.inr (hw _ (List.mem_of_getElem? (i := 12) rfl))) (ty := .int) (by decide)
  refine own_go (T' := T5) (g' := (mkF m 53 #[.val (.int xi), .val (.int xd), .val (.int xv), .val (.int xs), .val (.ref b1), .val (.int (1 : Int32)), .val (.int (xi &&& (1073741823 : Int32))), .val (.int (((xi &&& (1073741823 : Int32)) + (1 : Int32)) + (xs &&& (1073741823 : Int32)))), .unset, .unset, .unset, .unset, .unset, .unset, .unset, .unset] [(.ref b5)])) (fun _ k => st5 _ k) ?_
  refine own_go (T' := T5) (g' := (mkF m 54 #[.val (.int xi), .val (.int xd), .val (.int xv), .val (.int xs), .val (.ref b1), .val (.int (1 : Int32)), .val (.int (xi &&& (1073741823 : Int32))), .val (.int (((xi &&& (1073741823 : Int32)) + (1 : Int32)) + (xs &&& (1073741823 : Int32)))), .unset, .unset, .unset, .unset, .unset, .unset, .unset, .unset] [(.ref b5), (.ref b5)])) (fun _ k => XS.dup X5.here hx rfl (hb hby at_53) rfl rfl k) ?_
  refine own_go (T' := T5) (g' := (mkF m 56 #[.val (.int xi), .val (.int xd), .val (.int xv), .val (.int xs), .val (.ref b1), .val (.int (1 : Int32)), .val (.int (xi &&& (1073741823 : Int32))), .val (.int (((xi &&& (1073741823 : Int32)) + (1 : Int32)) + (xs &&& (1073741823 : Int32)))), .unset, .unset, .unset, .unset, .unset, .unset, .unset, .unset] [(.int (xi &&& (1073741823 : Int32))), (.ref b5), (.ref b5)])) (fun _ k => XS.iload X5.here hx rfl (hb hby at_54) rfl k) ?_
  refine own_go (T' := T5) (g' := (mkF m 58 #[.val (.int xi), .val (.int xd), .val (.int xv), .val (.int xs), .val (.ref b1), .val (.int (1 : Int32)), .val (.int (xi &&& (1073741823 : Int32))), .val (.int (((xi &&& (1073741823 : Int32)) + (1 : Int32)) + (xs &&& (1073741823 : Int32)))), .unset, .unset, .unset, .unset, .unset, .unset, .unset, .unset] [(.int (((xi &&& (1073741823 : Int32)) + (1 : Int32)) + (xs &&& (1073741823 : Int32)))), (.int (xi &&& (1073741823 : Int32))), (.ref b5), (.ref b5)])) (fun _ k => XS.iload X5.here hx rfl (hb hby at_56) rfl k) ?_
  obtain ⟨_, _, ⟨T9, L9, k9, n9⟩, -, X9, ⟨Lc9, hQ9, l9, y9, z9⟩, st9⟩ := X5.specialBack hx (y := (⟨"com/example/restate/restate/model/Redline$Mark", "<init>", "(II)V"⟩ : MethodName)) rfl hown (mvT hZ (hw _ (List.mem_of_getElem? (i := 3) rfl))) (mvT hZ (hw _ (List.mem_of_getElem? (i := 4) rfl))) (mvT hZ (hw _ (List.mem_of_getElem? (i := 5) rfl))) (by decide) (backOf (W := 1) (own_rI l Z a0 hw [] b5 (xi &&& (1073741823 : Int32)) (((xi &&& (1073741823 : Int32)) + (1 : Int32)) + (xs &&& (1073741823 : Int32))) h5 n0 Z5 Finserted_b5 Fdeleted_b5 A5 gz_b5) hZ (hw _ (List.mem_of_getElem? (i := 5) rfl)) (hw _ (List.mem_of_getElem? (i := 2) rfl)) (by decide) (by decide)) (g := (mkF m 58 #[.val (.int xi), .val (.int xd), .val (.int xv), .val (.int xs), .val (.ref b1), .val (.int (1 : Int32)), .val (.int (xi &&& (1073741823 : Int32))), .val (.int (((xi &&& (1073741823 : Int32)) + (1 : Int32)) + (xs &&& (1073741823 : Int32)))), .unset, .unset, .unset, .unset, .unset, .unset, .unset, .unset] [(.int (((xi &&& (1073741823 : Int32)) + (1 : Int32)) + (xs &&& (1073741823 : Int32)))), (.int (xi &&& (1073741823 : Int32))), (.ref b5), (.ref b5)])) rfl (by rw [hml]; rfl) (Steps.refl _) (a := b5) (argsL := [(.int (xi &&& (1073741823 : Int32))), (.int (((xi &&& (1073741823 : Int32)) + (1 : Int32)) + (xs &&& (1073741823 : Int32))))]) (rest := [(.ref b5)]) (lenOf own_pd0 rfl) rfl (by show 2 * 0 + _ ≤ _; exact Nat.le_of_eq rfl) (hb hby at_58) (fun _ _ => ⟨rfl, e5, (by decide : 2 + 0 ≤ _), (by decide : 4 + 0 ≤ _)⟩)
  dsimp only [Pt.U, Pt.locs, Pt.cells, Pt.slots] at X9 l9 y9 z9 st9 hQ9
  subst l9 y9 z9
  obtain ⟨rfl, N9q, Kc9, Ec9, Fi9, Fd9⟩ := hQ9
  have N9 := Fr.app N4 N9q
  have Ek10 := Ek6.keep Kc9
  have Fk11 := Fk7.keep Kc9 (own_one ne_b1_b5)
  have Fk12 := Fk8.keep Kc9 (own_one ne_b1_b5)
  have Z9 : n0 ≤ T9.heap.size := Nat.le_trans Z5 Kc9.1
  have O9 : Ext h0 T9.heap := own_ext_keep O5 Kc9 (own_all1 hz_b5)
  have K9 : Keep h0 T9.heap [] := K5.trans Kc9 fun x hx => Or.inr ((own_all1 hz_b5) x hx)
  refine own_goT (T' := T9) (g' := (mkF m 61 #[.val (.int xi), .val (.int xd), .val (.int xv), .val (.int xs), .val (.ref b1), .val (.int (1 : Int32)), .val (.int (xi &&& (1073741823 : Int32))), .val (.int (((xi &&& (1073741823 : Int32)) + (1 : Int32)) + (xs &&& (1073741823 : Int32)))), .unset, .unset, .unset, .unset, .unset, .unset, .unset, .unset] [(.ref b5)])) st9 ?_
  refine own_go (T' := T9) (g' := (mkF m 63 #[.val (.int xi), .val (.int xd), .val (.int xv), .val (.int xs), .val (.ref b1), .val (.int (1 : Int32)), .val (.int (xi &&& (1073741823 : Int32))), .val (.int (((xi &&& (1073741823 : Int32)) + (1 : Int32)) + (xs &&& (1073741823 : Int32)))), .val (.ref b5), .unset, .unset, .unset, .unset, .unset, .unset, .unset] [])) (fun _ k => XS.astore X9.here hx rfl (hb hby at_61) rfl rfl (l' := #[.val (.int xi), .val (.int xd), .val (.int xv), .val (.int xs), .val (.ref b1), .val (.int (1 : Int32)), .val (.int (xi &&& (1073741823 : Int32))), .val (.int (((xi &&& (1073741823 : Int32)) + (1 : Int32)) + (xs &&& (1073741823 : Int32)))), .val (.ref b5), .unset, .unset, .unset, .unset, .unset, .unset, .unset]) rfl k) ?_
  refine own_go (T' := T9) (g' := (mkF m 65 #[.val (.int xi), .val (.int xd), .val (.int xv), .val (.int xs), .val (.ref b1), .val (.int (1 : Int32)), .val (.int (xi &&& (1073741823 : Int32))), .val (.int (((xi &&& (1073741823 : Int32)) + (1 : Int32)) + (xs &&& (1073741823 : Int32)))), .val (.ref b5), .unset, .unset, .unset, .unset, .unset, .unset, .unset] [(.ref b5)])) (fun _ k => XS.aload X9.here hx rfl (hb hby at_63) rfl rfl k) ?_
  refine own_go (T' := T9) (g' := (mkF m 67 #[.val (.int xi), .val (.int xd), .val (.int xv), .val (.int xs), .val (.ref b1), .val (.int (1 : Int32)), .val (.int (xi &&& (1073741823 : Int32))), .val (.int (((xi &&& (1073741823 : Int32)) + (1 : Int32)) + (xs &&& (1073741823 : Int32)))), .val (.ref b5), .unset, .unset, .unset, .unset, .unset, .unset, .unset] [(.int (xi &&& (1073741823 : Int32))), (.ref b5)])) (fun _ k => XS.iload X9.here hx rfl (hb hby at_65) rfl k) ?_
  obtain ⟨cq13, kq13, q13a, q13b, q13c⟩ := isOf hZ rfl Ec9
  obtain ⟨_, _, ⟨T13, L13, k13, n13⟩, -, X13, ⟨Lc13, hQ13, l13, y13, z13⟩, st13⟩ := X9.virtualBack hx (y := (⟨"com/example/restate/restate/model/Redline$Mark", "shownIn", "(I)Z"⟩ : MethodName)) (z := (⟨"com/example/restate/restate/model/Redline$Mark", "shownIn", "(I)Z"⟩ : MethodName)) hown (mvT hZ (hw _ (List.mem_of_getElem? (i := 13) rfl))) (mvT hZ (hw _ (List.mem_of_getElem? (i := 14) rfl))) (notFace_of_selects (args := #[]) (mvT hZ (hw _ (List.mem_of_getElem? (i := 16) rfl)))) (mvT hZ (hw _ (List.mem_of_getElem? (i := 16) rfl))) (mvT hZ (hw _ (List.mem_of_getElem? (i := 15) rfl))) (by decide) (backOf (W := 0) (own_rS l Z a0 hw [] b5 (xi &&& (1073741823 : Int32)) (xi &&& (1073741823 : Int32)) (((xi &&& (1073741823 : Int32)) + (1 : Int32)) + (xs &&& (1073741823 : Int32))) (1 : Int32) T9.heap n0 Z9 Fi9 Fd9 (own_s1 xi xs)) hZ (hw _ (List.mem_of_getElem? (i := 17) rfl)) (hw _ (List.mem_of_getElem? (i := 2) rfl)) (by decide) (by decide)) q13a q13c (g := (mkF m 67 #[.val (.int xi), .val (.int xd), .val (.int xv), .val (.int xs), .val (.ref b1), .val (.int (1 : Int32)), .val (.int (xi &&& (1073741823 : Int32))), .val (.int (((xi &&& (1073741823 : Int32)) + (1 : Int32)) + (xs &&& (1073741823 : Int32)))), .val (.ref b5), .unset, .unset, .unset, .unset, .unset, .unset, .unset] [(.int (xi &&& (1073741823 : Int32))), (.ref b5)])) rfl (by rw [hml]; rfl) (Steps.refl _) (argsL := [(.int (xi &&& (1073741823 : Int32)))]) (rest := []) (lenOf own_pd1 rfl) rfl (by show 2 * 0 + _ ≤ _; exact Nat.le_of_eq rfl) (hb hby at_67) (fun _ _ => ⟨rfl, rfl, (by decide : 2 + 0 ≤ _), (by decide : 4 + 0 ≤ _)⟩)
  dsimp only [Pt.U, Pt.locs, Pt.cells, Pt.slots] at X13 l13 y13 z13 st13 hQ13
  subst l13 y13 z13
  obtain ⟨rfl, N13q, e13⟩ := hQ13
  have N13 := Fr.app N9 N13q
  refine own_goT (T' := T13) (g' := (mkF m 70 #[.val (.int xi), .val (.int xd), .val (.int xv), .val (.int xs), .val (.ref b1), .val (.int (1 : Int32)), .val (.int (xi &&& (1073741823 : Int32))), .val (.int (((xi &&& (1073741823 : Int32)) + (1 : Int32)) + (xs &&& (1073741823 : Int32)))), .val (.ref b5), .unset, .unset, .unset, .unset, .unset, .unset, .unset] [(.int (1 : Int32))])) st13 ?_
  refine own_go (T' := T13) (g' := (mkF m 72 #[.val (.int xi), .val (.int xd), .val (.int xv), .val (.int xs), .val (.ref b1), .val (.int (1 : Int32)), .val (.int (xi &&& (1073741823 : Int32))), .val (.int (((xi &&& (1073741823 : Int32)) + (1 : Int32)) + (xs &&& (1073741823 : Int32)))), .val (.ref b5), .val (.int (1 : Int32)), .unset, .unset, .unset, .unset, .unset, .unset] [])) (fun _ k => XS.istore X13.here hx rfl (hb hby at_70) rfl (l' := #[.val (.int xi), .val (.int xd), .val (.int xv), .val (.int xs), .val (.ref b1), .val (.int (1 : Int32)), .val (.int (xi &&& (1073741823 : Int32))), .val (.int (((xi &&& (1073741823 : Int32)) + (1 : Int32)) + (xs &&& (1073741823 : Int32)))), .val (.ref b5), .val (.int (1 : Int32)), .unset, .unset, .unset, .unset, .unset, .unset]) rfl k) ?_
  refine own_go (T' := T13) (g' := (mkF m 74 #[.val (.int xi), .val (.int xd), .val (.int xv), .val (.int xs), .val (.ref b1), .val (.int (1 : Int32)), .val (.int (xi &&& (1073741823 : Int32))), .val (.int (((xi &&& (1073741823 : Int32)) + (1 : Int32)) + (xs &&& (1073741823 : Int32)))), .val (.ref b5), .val (.int (1 : Int32)), .unset, .unset, .unset, .unset, .unset, .unset] [(.ref b5)])) (fun _ k => XS.aload X13.here hx rfl (hb hby at_72) rfl rfl k) ?_
  refine own_go (T' := T13) (g' := (mkF m 76 #[.val (.int xi), .val (.int xd), .val (.int xv), .val (.int xs), .val (.ref b1), .val (.int (1 : Int32)), .val (.int (xi &&& (1073741823 : Int32))), .val (.int (((xi &&& (1073741823 : Int32)) + (1 : Int32)) + (xs &&& (1073741823 : Int32)))), .val (.ref b5), .val (.int (1 : Int32)), .unset, .unset, .unset, .unset, .unset, .unset] [(.int (xi &&& (1073741823 : Int32))), (.ref b5)])) (fun _ k => XS.iload X13.here hx rfl (hb hby at_74) rfl k) ?_
  refine own_go (T' := T13) (g' := (mkF m 77 #[.val (.int xi), .val (.int xd), .val (.int xv), .val (.int xs), .val (.ref b1), .val (.int (1 : Int32)), .val (.int (xi &&& (1073741823 : Int32))), .val (.int (((xi &&& (1073741823 : Int32)) + (1 : Int32)) + (xs &&& (1073741823 : Int32)))), .val (.ref b5), .val (.int (1 : Int32)), .unset, .unset, .unset, .unset, .unset, .unset] [(.int (1 : Int32)), (.int (xi &&& (1073741823 : Int32))), (.ref b5)])) (fun _ k => XS.iconst X13.here hx rfl (hb hby at_76) k) ?_
  refine own_go (T' := T13) (g' := (mkF m 78 #[.val (.int xi), .val (.int xd), .val (.int xv), .val (.int xs), .val (.ref b1), .val (.int (1 : Int32)), .val (.int (xi &&& (1073741823 : Int32))), .val (.int (((xi &&& (1073741823 : Int32)) + (1 : Int32)) + (xs &&& (1073741823 : Int32)))), .val (.ref b5), .val (.int (1 : Int32)), .unset, .unset, .unset, .unset, .unset, .unset] [(.int ((xi &&& (1073741823 : Int32)) - (1 : Int32))), (.ref b5)])) (fun _ k => XS.isub X13.here hx rfl (hb hby at_77) rfl k) ?_
  obtain ⟨cq14, kq14, q14a, q14b, q14c⟩ := isOf hZ e13 Ec9
  obtain ⟨_, _, ⟨T14, L14, k14, n14⟩, -, X14, ⟨Lc14, hQ14, l14, y14, z14⟩, st14⟩ := X13.virtualBack hx (y := (⟨"com/example/restate/restate/model/Redline$Mark", "shownIn", "(I)Z"⟩ : MethodName)) (z := (⟨"com/example/restate/restate/model/Redline$Mark", "shownIn", "(I)Z"⟩ : MethodName)) hown (mvT hZ (hw _ (List.mem_of_getElem? (i := 13) rfl))) (mvT hZ (hw _ (List.mem_of_getElem? (i := 14) rfl))) (notFace_of_selects (args := #[]) (mvT hZ (hw _ (List.mem_of_getElem? (i := 16) rfl)))) (mvT hZ (hw _ (List.mem_of_getElem? (i := 16) rfl))) (mvT hZ (hw _ (List.mem_of_getElem? (i := 15) rfl))) (by decide) (backOf (W := 0) (own_rS l Z a0 hw [] b5 ((xi &&& (1073741823 : Int32)) - (1 : Int32)) (xi &&& (1073741823 : Int32)) (((xi &&& (1073741823 : Int32)) + (1 : Int32)) + (xs &&& (1073741823 : Int32))) (0 : Int32) T9.heap n0 Z9 Fi9 Fd9 (own_s2 xi xs)) hZ (hw _ (List.mem_of_getElem? (i := 17) rfl)) (hw _ (List.mem_of_getElem? (i := 2) rfl)) (by decide) (by decide)) q14a q14c (g := (mkF m 78 #[.val (.int xi), .val (.int xd), .val (.int xv), .val (.int xs), .val (.ref b1), .val (.int (1 : Int32)), .val (.int (xi &&& (1073741823 : Int32))), .val (.int (((xi &&& (1073741823 : Int32)) + (1 : Int32)) + (xs &&& (1073741823 : Int32)))), .val (.ref b5), .val (.int (1 : Int32)), .unset, .unset, .unset, .unset, .unset, .unset] [(.int ((xi &&& (1073741823 : Int32)) - (1 : Int32))), (.ref b5)])) rfl (by rw [hml]; rfl) (Steps.refl _) (argsL := [(.int ((xi &&& (1073741823 : Int32)) - (1 : Int32)))]) (rest := []) (lenOf own_pd1 rfl) rfl (by show 2 * 0 + _ ≤ _; exact Nat.le_of_eq rfl) (hb hby at_78) (fun _ _ => ⟨rfl, e13, (by decide : 2 + 0 ≤ _), (by decide : 4 + 0 ≤ _)⟩)
  dsimp only [Pt.U, Pt.locs, Pt.cells, Pt.slots] at X14 l14 y14 z14 st14 hQ14
  subst l14 y14 z14
  obtain ⟨rfl, N14q, e14⟩ := hQ14
  have N14 := Fr.app N13 N14q
  refine own_goT (T' := T14) (g' := (mkF m 81 #[.val (.int xi), .val (.int xd), .val (.int xv), .val (.int xs), .val (.ref b1), .val (.int (1 : Int32)), .val (.int (xi &&& (1073741823 : Int32))), .val (.int (((xi &&& (1073741823 : Int32)) + (1 : Int32)) + (xs &&& (1073741823 : Int32)))), .val (.ref b5), .val (.int (1 : Int32)), .unset, .unset, .unset, .unset, .unset, .unset] [(.int (0 : Int32))])) st14 ?_
  refine own_go (T' := T14) (g' := (mkF m 84 #[.val (.int xi), .val (.int xd), .val (.int xv), .val (.int xs), .val (.ref b1), .val (.int (1 : Int32)), .val (.int (xi &&& (1073741823 : Int32))), .val (.int (((xi &&& (1073741823 : Int32)) + (1 : Int32)) + (xs &&& (1073741823 : Int32)))), .val (.ref b5), .val (.int (1 : Int32)), .unset, .unset, .unset, .unset, .unset, .unset] [])) (fun _ k => XS.ifNo X14.here hx rfl (hb hby at_81) rfl ((if0 _ _).trans (teq ((by decide) : (0 : Int32) = (0 : Int32))).2) k) ?_
  refine own_go (T' := T14) (g' := (mkF m 85 #[.val (.int xi), .val (.int xd), .val (.int xv), .val (.int xs), .val (.ref b1), .val (.int (1 : Int32)), .val (.int (xi &&& (1073741823 : Int32))), .val (.int (((xi &&& (1073741823 : Int32)) + (1 : Int32)) + (xs &&& (1073741823 : Int32)))), .val (.ref b5), .val (.int (1 : Int32)), .unset, .unset, .unset, .unset, .unset, .unset] [(.int (1 : Int32))])) (fun _ k => XS.iconst X14.here hx rfl (hb hby at_84) k) ?_
  refine own_go (T' := T14) (g' := (mkF m 89 #[.val (.int xi), .val (.int xd), .val (.int xv), .val (.int xs), .val (.ref b1), .val (.int (1 : Int32)), .val (.int (xi &&& (1073741823 : Int32))), .val (.int (((xi &&& (1073741823 : Int32)) + (1 : Int32)) + (xs &&& (1073741823 : Int32)))), .val (.ref b5), .val (.int (1 : Int32)), .unset, .unset, .unset, .unset, .unset, .unset] [(.int (1 : Int32))])) (fun _ k => XS.goto X14.here hx rfl (pc0 := 85) (pc' := 89) rfl (hb hby at_85) (by decide) (by decide) k) ?_
  refine own_go (T' := T14) (g' := (mkF m 91 #[.val (.int xi), .val (.int xd), .val (.int xv), .val (.int xs), .val (.ref b1), .val (.int (1 : Int32)), .val (.int (xi &&& (1073741823 : Int32))), .val (.int (((xi &&& (1073741823 : Int32)) + (1 : Int32)) + (xs &&& (1073741823 : Int32)))), .val (.ref b5), .val (.int (1 : Int32)), .val (.int (1 : Int32)), .unset, .unset, .unset, .unset, .unset] [])) (fun _ k => XS.istore X14.here hx rfl (hb hby at_89) rfl (l' := #[.val (.int xi), .val (.int xd), .val (.int xv), .val (.int xs), .val (.ref b1), .val (.int (1 : Int32)), .val (.int (xi &&& (1073741823 : Int32))), .val (.int (((xi &&& (1073741823 : Int32)) + (1 : Int32)) + (xs &&& (1073741823 : Int32)))), .val (.ref b5), .val (.int (1 : Int32)), .val (.int (1 : Int32)), .unset, .unset, .unset, .unset, .unset]) rfl k) ?_
  refine own_go (T' := T14) (g' := (mkF m 93 #[.val (.int xi), .val (.int xd), .val (.int xv), .val (.int xs), .val (.ref b1), .val (.int (1 : Int32)), .val (.int (xi &&& (1073741823 : Int32))), .val (.int (((xi &&& (1073741823 : Int32)) + (1 : Int32)) + (xs &&& (1073741823 : Int32)))), .val (.ref b5), .val (.int (1 : Int32)), .val (.int (1 : Int32)), .unset, .unset, .unset, .unset, .unset] [(.ref b5)])) (fun _ k => XS.aload X14.here hx rfl (hb hby at_91) rfl rfl k) ?_
  refine own_go (T' := T14) (g' := (mkF m 95 #[.val (.int xi), .val (.int xd), .val (.int xv), .val (.int xs), .val (.ref b1), .val (.int (1 : Int32)), .val (.int (xi &&& (1073741823 : Int32))), .val (.int (((xi &&& (1073741823 : Int32)) + (1 : Int32)) + (xs &&& (1073741823 : Int32)))), .val (.ref b5), .val (.int (1 : Int32)), .val (.int (1 : Int32)), .unset, .unset, .unset, .unset, .unset] [(.int (((xi &&& (1073741823 : Int32)) + (1 : Int32)) + (xs &&& (1073741823 : Int32)))), (.ref b5)])) (fun _ k => XS.iload X14.here hx rfl (hb hby at_93) rfl k) ?_
  refine own_go (T' := T14) (g' := (mkF m 96 #[.val (.int xi), .val (.int xd), .val (.int xv), .val (.int xs), .val (.ref b1), .val (.int (1 : Int32)), .val (.int (xi &&& (1073741823 : Int32))), .val (.int (((xi &&& (1073741823 : Int32)) + (1 : Int32)) + (xs &&& (1073741823 : Int32)))), .val (.ref b5), .val (.int (1 : Int32)), .val (.int (1 : Int32)), .unset, .unset, .unset, .unset, .unset] [(.int (1 : Int32)), (.int (((xi &&& (1073741823 : Int32)) + (1 : Int32)) + (xs &&& (1073741823 : Int32)))), (.ref b5)])) (fun _ k => XS.iconst X14.here hx rfl (hb hby at_95) k) ?_
  refine own_go (T' := T14) (g' := (mkF m 97 #[.val (.int xi), .val (.int xd), .val (.int xv), .val (.int xs), .val (.ref b1), .val (.int (1 : Int32)), .val (.int (xi &&& (1073741823 : Int32))), .val (.int (((xi &&& (1073741823 : Int32)) + (1 : Int32)) + (xs &&& (1073741823 : Int32)))), .val (.ref b5), .val (.int (1 : Int32)), .val (.int (1 : Int32)), .unset, .unset, .unset, .unset, .unset] [(.int ((((xi &&& (1073741823 : Int32)) + (1 : Int32)) + (xs &&& (1073741823 : Int32))) - (1 : Int32))), (.ref b5)])) (fun _ k => XS.isub X14.here hx rfl (hb hby at_96) rfl k) ?_
  obtain ⟨cq15, kq15, q15a, q15b, q15c⟩ := isOf hZ e14 Ec9
  obtain ⟨_, _, ⟨T15, L15, k15, n15⟩, -, X15, ⟨Lc15, hQ15, l15, y15, z15⟩, st15⟩ := X14.virtualBack hx (y := (⟨"com/example/restate/restate/model/Redline$Mark", "shownIn", "(I)Z"⟩ : MethodName)) (z := (⟨"com/example/restate/restate/model/Redline$Mark", "shownIn", "(I)Z"⟩ : MethodName)) hown (mvT hZ (hw _ (List.mem_of_getElem? (i := 13) rfl))) (mvT hZ (hw _ (List.mem_of_getElem? (i := 14) rfl))) (notFace_of_selects (args := #[]) (mvT hZ (hw _ (List.mem_of_getElem? (i := 16) rfl)))) (mvT hZ (hw _ (List.mem_of_getElem? (i := 16) rfl))) (mvT hZ (hw _ (List.mem_of_getElem? (i := 15) rfl))) (by decide) (backOf (W := 0) (own_rS l Z a0 hw [] b5 ((((xi &&& (1073741823 : Int32)) + (1 : Int32)) + (xs &&& (1073741823 : Int32))) - (1 : Int32)) (xi &&& (1073741823 : Int32)) (((xi &&& (1073741823 : Int32)) + (1 : Int32)) + (xs &&& (1073741823 : Int32))) (1 : Int32) T9.heap n0 Z9 Fi9 Fd9 (own_s3 xi xs)) hZ (hw _ (List.mem_of_getElem? (i := 17) rfl)) (hw _ (List.mem_of_getElem? (i := 2) rfl)) (by decide) (by decide)) q15a q15c (g := (mkF m 97 #[.val (.int xi), .val (.int xd), .val (.int xv), .val (.int xs), .val (.ref b1), .val (.int (1 : Int32)), .val (.int (xi &&& (1073741823 : Int32))), .val (.int (((xi &&& (1073741823 : Int32)) + (1 : Int32)) + (xs &&& (1073741823 : Int32)))), .val (.ref b5), .val (.int (1 : Int32)), .val (.int (1 : Int32)), .unset, .unset, .unset, .unset, .unset] [(.int ((((xi &&& (1073741823 : Int32)) + (1 : Int32)) + (xs &&& (1073741823 : Int32))) - (1 : Int32))), (.ref b5)])) rfl (by rw [hml]; rfl) (Steps.refl _) (argsL := [(.int ((((xi &&& (1073741823 : Int32)) + (1 : Int32)) + (xs &&& (1073741823 : Int32))) - (1 : Int32)))]) (rest := []) (lenOf own_pd1 rfl) rfl (by show 2 * 0 + _ ≤ _; exact Nat.le_of_eq rfl) (hb hby at_97) (fun _ _ => ⟨rfl, e14, (by decide : 2 + 0 ≤ _), (by decide : 4 + 0 ≤ _)⟩)
  dsimp only [Pt.U, Pt.locs, Pt.cells, Pt.slots] at X15 l15 y15 z15 st15 hQ15
  subst l15 y15 z15
  obtain ⟨rfl, N15q, e15⟩ := hQ15
  have N15 := Fr.app N14 N15q
  refine own_goT (T' := T15) (g' := (mkF m 100 #[.val (.int xi), .val (.int xd), .val (.int xv), .val (.int xs), .val (.ref b1), .val (.int (1 : Int32)), .val (.int (xi &&& (1073741823 : Int32))), .val (.int (((xi &&& (1073741823 : Int32)) + (1 : Int32)) + (xs &&& (1073741823 : Int32)))), .val (.ref b5), .val (.int (1 : Int32)), .val (.int (1 : Int32)), .unset, .unset, .unset, .unset, .unset] [(.int (1 : Int32))])) st15 ?_
  refine own_go (T' := T15) (g' := (mkF m 102 #[.val (.int xi), .val (.int xd), .val (.int xv), .val (.int xs), .val (.ref b1), .val (.int (1 : Int32)), .val (.int (xi &&& (1073741823 : Int32))), .val (.int (((xi &&& (1073741823 : Int32)) + (1 : Int32)) + (xs &&& (1073741823 : Int32)))), .val (.ref b5), .val (.int (1 : Int32)), .val (.int (1 : Int32)), .val (.int (1 : Int32)), .unset, .unset, .unset, .unset] [])) (fun _ k => XS.istore X15.here hx rfl (hb hby at_100) rfl (l' := #[.val (.int xi), .val (.int xd), .val (.int xv), .val (.int xs), .val (.ref b1), .val (.int (1 : Int32)), .val (.int (xi &&& (1073741823 : Int32))), .val (.int (((xi &&& (1073741823 : Int32)) + (1 : Int32)) + (xs &&& (1073741823 : Int32)))), .val (.ref b5), .val (.int (1 : Int32)), .val (.int (1 : Int32)), .val (.int (1 : Int32)), .unset, .unset, .unset, .unset]) rfl k) ?_
  refine own_go (T' := T15) (g' := (mkF m 104 #[.val (.int xi), .val (.int xd), .val (.int xv), .val (.int xs), .val (.ref b1), .val (.int (1 : Int32)), .val (.int (xi &&& (1073741823 : Int32))), .val (.int (((xi &&& (1073741823 : Int32)) + (1 : Int32)) + (xs &&& (1073741823 : Int32)))), .val (.ref b5), .val (.int (1 : Int32)), .val (.int (1 : Int32)), .val (.int (1 : Int32)), .unset, .unset, .unset, .unset] [(.ref b5)])) (fun _ k => XS.aload X15.here hx rfl (hb hby at_102) rfl rfl k) ?_
  refine own_go (T' := T15) (g' := (mkF m 106 #[.val (.int xi), .val (.int xd), .val (.int xv), .val (.int xs), .val (.ref b1), .val (.int (1 : Int32)), .val (.int (xi &&& (1073741823 : Int32))), .val (.int (((xi &&& (1073741823 : Int32)) + (1 : Int32)) + (xs &&& (1073741823 : Int32)))), .val (.ref b5), .val (.int (1 : Int32)), .val (.int (1 : Int32)), .val (.int (1 : Int32)), .unset, .unset, .unset, .unset] [(.int (((xi &&& (1073741823 : Int32)) + (1 : Int32)) + (xs &&& (1073741823 : Int32)))), (.ref b5)])) (fun _ k => XS.iload X15.here hx rfl (hb hby at_104) rfl k) ?_
  obtain ⟨cq16, kq16, q16a, q16b, q16c⟩ := isOf hZ e15 Ec9
  obtain ⟨_, _, ⟨T16, L16, k16, n16⟩, -, X16, ⟨Lc16, hQ16, l16, y16, z16⟩, st16⟩ := X15.virtualBack hx (y := (⟨"com/example/restate/restate/model/Redline$Mark", "shownIn", "(I)Z"⟩ : MethodName)) (z := (⟨"com/example/restate/restate/model/Redline$Mark", "shownIn", "(I)Z"⟩ : MethodName)) hown (mvT hZ (hw _ (List.mem_of_getElem? (i := 13) rfl))) (mvT hZ (hw _ (List.mem_of_getElem? (i := 14) rfl))) (notFace_of_selects (args := #[]) (mvT hZ (hw _ (List.mem_of_getElem? (i := 16) rfl)))) (mvT hZ (hw _ (List.mem_of_getElem? (i := 16) rfl))) (mvT hZ (hw _ (List.mem_of_getElem? (i := 15) rfl))) (by decide) (backOf (W := 0) (own_rS l Z a0 hw [] b5 (((xi &&& (1073741823 : Int32)) + (1 : Int32)) + (xs &&& (1073741823 : Int32))) (xi &&& (1073741823 : Int32)) (((xi &&& (1073741823 : Int32)) + (1 : Int32)) + (xs &&& (1073741823 : Int32))) (0 : Int32) T9.heap n0 Z9 Fi9 Fd9 (own_s4 xi xs)) hZ (hw _ (List.mem_of_getElem? (i := 17) rfl)) (hw _ (List.mem_of_getElem? (i := 2) rfl)) (by decide) (by decide)) q16a q16c (g := (mkF m 106 #[.val (.int xi), .val (.int xd), .val (.int xv), .val (.int xs), .val (.ref b1), .val (.int (1 : Int32)), .val (.int (xi &&& (1073741823 : Int32))), .val (.int (((xi &&& (1073741823 : Int32)) + (1 : Int32)) + (xs &&& (1073741823 : Int32)))), .val (.ref b5), .val (.int (1 : Int32)), .val (.int (1 : Int32)), .val (.int (1 : Int32)), .unset, .unset, .unset, .unset] [(.int (((xi &&& (1073741823 : Int32)) + (1 : Int32)) + (xs &&& (1073741823 : Int32)))), (.ref b5)])) rfl (by rw [hml]; rfl) (Steps.refl _) (argsL := [(.int (((xi &&& (1073741823 : Int32)) + (1 : Int32)) + (xs &&& (1073741823 : Int32))))]) (rest := []) (lenOf own_pd1 rfl) rfl (by show 2 * 0 + _ ≤ _; exact Nat.le_of_eq rfl) (hb hby at_106) (fun _ _ => ⟨rfl, e15, (by decide : 2 + 0 ≤ _), (by decide : 4 + 0 ≤ _)⟩)
  dsimp only [Pt.U, Pt.locs, Pt.cells, Pt.slots] at X16 l16 y16 z16 st16 hQ16
  subst l16 y16 z16
  obtain ⟨rfl, N16q, e16⟩ := hQ16
  have N16 := Fr.app N15 N16q
  refine own_goT (T' := T16) (g' := (mkF m 109 #[.val (.int xi), .val (.int xd), .val (.int xv), .val (.int xs), .val (.ref b1), .val (.int (1 : Int32)), .val (.int (xi &&& (1073741823 : Int32))), .val (.int (((xi &&& (1073741823 : Int32)) + (1 : Int32)) + (xs &&& (1073741823 : Int32)))), .val (.ref b5), .val (.int (1 : Int32)), .val (.int (1 : Int32)), .val (.int (1 : Int32)), .unset, .unset, .unset, .unset] [(.int (0 : Int32))])) st16 ?_
  refine own_go (T' := T16) (g' := (mkF m 112 #[.val (.int xi), .val (.int xd), .val (.int xv), .val (.int xs), .val (.ref b1), .val (.int (1 : Int32)), .val (.int (xi &&& (1073741823 : Int32))), .val (.int (((xi &&& (1073741823 : Int32)) + (1 : Int32)) + (xs &&& (1073741823 : Int32)))), .val (.ref b5), .val (.int (1 : Int32)), .val (.int (1 : Int32)), .val (.int (1 : Int32)), .unset, .unset, .unset, .unset] [])) (fun _ k => XS.ifNo X16.here hx rfl (hb hby at_109) rfl ((if0 _ _).trans (teq ((by decide) : (0 : Int32) = (0 : Int32))).2) k) ?_
  refine own_go (T' := T16) (g' := (mkF m 113 #[.val (.int xi), .val (.int xd), .val (.int xv), .val (.int xs), .val (.ref b1), .val (.int (1 : Int32)), .val (.int (xi &&& (1073741823 : Int32))), .val (.int (((xi &&& (1073741823 : Int32)) + (1 : Int32)) + (xs &&& (1073741823 : Int32)))), .val (.ref b5), .val (.int (1 : Int32)), .val (.int (1 : Int32)), .val (.int (1 : Int32)), .unset, .unset, .unset, .unset] [(.int (1 : Int32))])) (fun _ k => XS.iconst X16.here hx rfl (hb hby at_112) k) ?_
  refine own_go (T' := T16) (g' := (mkF m 117 #[.val (.int xi), .val (.int xd), .val (.int xv), .val (.int xs), .val (.ref b1), .val (.int (1 : Int32)), .val (.int (xi &&& (1073741823 : Int32))), .val (.int (((xi &&& (1073741823 : Int32)) + (1 : Int32)) + (xs &&& (1073741823 : Int32)))), .val (.ref b5), .val (.int (1 : Int32)), .val (.int (1 : Int32)), .val (.int (1 : Int32)), .unset, .unset, .unset, .unset] [(.int (1 : Int32))])) (fun _ k => XS.goto X16.here hx rfl (pc0 := 113) (pc' := 117) rfl (hb hby at_113) (by decide) (by decide) k) ?_
  refine own_go (T' := T16) (g' := (mkF m 119 #[.val (.int xi), .val (.int xd), .val (.int xv), .val (.int xs), .val (.ref b1), .val (.int (1 : Int32)), .val (.int (xi &&& (1073741823 : Int32))), .val (.int (((xi &&& (1073741823 : Int32)) + (1 : Int32)) + (xs &&& (1073741823 : Int32)))), .val (.ref b5), .val (.int (1 : Int32)), .val (.int (1 : Int32)), .val (.int (1 : Int32)), .val (.int (1 : Int32)), .unset, .unset, .unset] [])) (fun _ k => XS.istore X16.here hx rfl (hb hby at_117) rfl (l' := #[.val (.int xi), .val (.int xd), .val (.int xv), .val (.int xs), .val (.ref b1), .val (.int (1 : Int32)), .val (.int (xi &&& (1073741823 : Int32))), .val (.int (((xi &&& (1073741823 : Int32)) + (1 : Int32)) + (xs &&& (1073741823 : Int32)))), .val (.ref b5), .val (.int (1 : Int32)), .val (.int (1 : Int32)), .val (.int (1 : Int32)), .val (.int (1 : Int32)), .unset, .unset, .unset]) rfl k) ?_
  obtain ⟨T17, h17, X17, e17, E17, A17, D17, -, st17⟩ := newO X16 hx hZ hown (hw _ (List.mem_of_getElem? (i := 0) rfl)) (hw _ (List.mem_of_getElem? (i := 1) rfl)) (hw _ (List.mem_of_getElem? (i := 2) rfl)) e16 (g := (mkF m 119 #[.val (.int xi), .val (.int xd), .val (.int xv), .val (.int xs), .val (.ref b1), .val (.int (1 : Int32)), .val (.int (xi &&& (1073741823 : Int32))), .val (.int (((xi &&& (1073741823 : Int32)) + (1 : Int32)) + (xs &&& (1073741823 : Int32)))), .val (.ref b5), .val (.int (1 : Int32)), .val (.int (1 : Int32)), .val (.int (1 : Int32)), .val (.int (1 : Int32)), .unset, .unset, .unset] [])) rfl (hb hby at_119) (by decide) (by decide)
  obtain ⟨b17, g17⟩ : ∃ z, z = T9.heap.size := ⟨_, rfl⟩
  rw [← g17] at A17 D17 st17
  have ne_b1_b17 : b1 ≠ b17 := Nat.ne_of_lt (Nat.lt_of_lt_of_le Ek10.lt (Nat.le_of_eq g17.symm))
  have ne_b5_b17 : b5 ≠ b17 := Nat.ne_of_lt (Nat.lt_of_lt_of_le Ec9.lt (Nat.le_of_eq g17.symm))
  have gz_b17 : n0 ≤ b17 := Nat.le_trans Z9 (Nat.le_of_eq g17.symm)
  have hz_b17 : h0.size ≤ b17 := Nat.le_trans K9.1 (Nat.le_of_eq g17.symm)
  have Ek18 := Ek10.ext E17
  have Fk19 := Fk11.ext E17
  have Fk20 := Fk12.ext E17
  have Ek21 := Ec9.ext E17
  have Fk22 := Fi9.ext E17
  have Fk23 := Fd9.ext E17
  have Z17 : n0 ≤ h17.size := Nat.le_trans Z9 E17.1
  have O17 : Ext h0 h17 := own_ext_tr O9 E17
  have K17 : Keep h0 h17 [] := K9.ext E17
  have Finserted_b17 : Fld Z h17 b17 "com/example/restate/restate/model/Redline$Mark" "inserted" "I" (.int (0 : Int32)) := D17 (Or.inr (hw _ (List.mem_of_getElem? (i := 10) rfl))) (ty := .int) (by decide)
  have Fdeleted_b17 : Fld Z h17 b17 "com/example/restate/restate/model/Redline$Mark" "deleted" "I" (.int (0 : Int32)) := D17 (Or.inr (hw _ (List.mem_of_getElem? (i := 12) rfl))) (ty := .int) (by decide)
  refine own_go (T' := T17) (g' := (mkF m 122 #[.val (.int xi), .val (.int xd), .val (.int xv), .val (.int xs), .val (.ref b1), .val (.int (1 : Int32)), .val (.int (xi &&& (1073741823 : Int32))), .val (.int (((xi &&& (1073741823 : Int32)) + (1 : Int32)) + (xs &&& (1073741823 : Int32)))), .val (.ref b5), .val (.int (1 : Int32)), .val (.int (1 : Int32)), .val (.int (1 : Int32)), .val (.int (1 : Int32)), .unset, .unset, .unset] [(.ref b17)])) (fun _ k => st17 _ k) ?_
  refine own_go (T' := T17) (g' := (mkF m 123 #[.val (.int xi), .val (.int xd), .val (.int xv), .val (.int xs), .val (.ref b1), .val (.int (1 : Int32)), .val (.int (xi &&& (1073741823 : Int32))), .val (.int (((xi &&& (1073741823 : Int32)) + (1 : Int32)) + (xs &&& (1073741823 : Int32)))), .val (.ref b5), .val (.int (1 : Int32)), .val (.int (1 : Int32)), .val (.int (1 : Int32)), .val (.int (1 : Int32)), .unset, .unset, .unset] [(.ref b17), (.ref b17)])) (fun _ k => XS.dup X17.here hx rfl (hb hby at_122) rfl rfl k) ?_
  refine own_go (T' := T17) (g' := (mkF m 125 #[.val (.int xi), .val (.int xd), .val (.int xv), .val (.int xs), .val (.ref b1), .val (.int (1 : Int32)), .val (.int (xi &&& (1073741823 : Int32))), .val (.int (((xi &&& (1073741823 : Int32)) + (1 : Int32)) + (xs &&& (1073741823 : Int32)))), .val (.ref b5), .val (.int (1 : Int32)), .val (.int (1 : Int32)), .val (.int (1 : Int32)), .val (.int (1 : Int32)), .unset, .unset, .unset] [(.int (xi &&& (1073741823 : Int32))), (.ref b17), (.ref b17)])) (fun _ k => XS.iload X17.here hx rfl (hb hby at_123) rfl k) ?_
  refine own_go (T' := T17) (g' := (mkF m 126 #[.val (.int xi), .val (.int xd), .val (.int xv), .val (.int xs), .val (.ref b1), .val (.int (1 : Int32)), .val (.int (xi &&& (1073741823 : Int32))), .val (.int (((xi &&& (1073741823 : Int32)) + (1 : Int32)) + (xs &&& (1073741823 : Int32)))), .val (.ref b5), .val (.int (1 : Int32)), .val (.int (1 : Int32)), .val (.int (1 : Int32)), .val (.int (1 : Int32)), .unset, .unset, .unset] [(.int (0 : Int32)), (.int (xi &&& (1073741823 : Int32))), (.ref b17), (.ref b17)])) (fun _ k => XS.iconst X17.here hx rfl (hb hby at_125) k) ?_
  obtain ⟨_, _, ⟨T24, L24, k24, n24⟩, -, X24, ⟨Lc24, hQ24, l24, y24, z24⟩, st24⟩ := X17.specialBack hx (y := (⟨"com/example/restate/restate/model/Redline$Mark", "<init>", "(II)V"⟩ : MethodName)) rfl hown (mvT hZ (hw _ (List.mem_of_getElem? (i := 3) rfl))) (mvT hZ (hw _ (List.mem_of_getElem? (i := 4) rfl))) (mvT hZ (hw _ (List.mem_of_getElem? (i := 5) rfl))) (by decide) (backOf (W := 1) (own_rI l Z a0 hw [] b17 (xi &&& (1073741823 : Int32)) (0 : Int32) h17 n0 Z17 Finserted_b17 Fdeleted_b17 A17 gz_b17) hZ (hw _ (List.mem_of_getElem? (i := 5) rfl)) (hw _ (List.mem_of_getElem? (i := 2) rfl)) (by decide) (by decide)) (g := (mkF m 126 #[.val (.int xi), .val (.int xd), .val (.int xv), .val (.int xs), .val (.ref b1), .val (.int (1 : Int32)), .val (.int (xi &&& (1073741823 : Int32))), .val (.int (((xi &&& (1073741823 : Int32)) + (1 : Int32)) + (xs &&& (1073741823 : Int32)))), .val (.ref b5), .val (.int (1 : Int32)), .val (.int (1 : Int32)), .val (.int (1 : Int32)), .val (.int (1 : Int32)), .unset, .unset, .unset] [(.int (0 : Int32)), (.int (xi &&& (1073741823 : Int32))), (.ref b17), (.ref b17)])) rfl (by rw [hml]; rfl) (Steps.refl _) (a := b17) (argsL := [(.int (xi &&& (1073741823 : Int32))), (.int (0 : Int32))]) (rest := [(.ref b17)]) (lenOf own_pd0 rfl) rfl (by show 2 * 0 + _ ≤ _; exact Nat.le_of_eq rfl) (hb hby at_126) (fun _ _ => ⟨rfl, e17, (by decide : 3 + 0 ≤ _), (by decide : 6 + 0 ≤ _)⟩)
  dsimp only [Pt.U, Pt.locs, Pt.cells, Pt.slots] at X24 l24 y24 z24 st24 hQ24
  subst l24 y24 z24
  obtain ⟨rfl, N24q, Kc24, Ec24, Fi24, Fd24⟩ := hQ24
  have N24 := Fr.app N16 N24q
  have Ek25 := Ek18.keep Kc24
  have Fk26 := Fk19.keep Kc24 (own_one ne_b1_b17)
  have Fk27 := Fk20.keep Kc24 (own_one ne_b1_b17)
  have Ek28 := Ek21.keep Kc24
  have Fk29 := Fk22.keep Kc24 (own_one ne_b5_b17)
  have Fk30 := Fk23.keep Kc24 (own_one ne_b5_b17)
  have Z24 : n0 ≤ T24.heap.size := Nat.le_trans Z17 Kc24.1
  have O24 : Ext h0 T24.heap := own_ext_keep O17 Kc24 (own_all1 hz_b17)
  have K24 : Keep h0 T24.heap [] := K17.trans Kc24 fun x hx => Or.inr ((own_all1 hz_b17) x hx)
  refine own_goT (T' := T24) (g' := (mkF m 129 #[.val (.int xi), .val (.int xd), .val (.int xv), .val (.int xs), .val (.ref b1), .val (.int (1 : Int32)), .val (.int (xi &&& (1073741823 : Int32))), .val (.int (((xi &&& (1073741823 : Int32)) + (1 : Int32)) + (xs &&& (1073741823 : Int32)))), .val (.ref b5), .val (.int (1 : Int32)), .val (.int (1 : Int32)), .val (.int (1 : Int32)), .val (.int (1 : Int32)), .unset, .unset, .unset] [(.ref b17)])) st24 ?_
  refine own_go (T' := T24) (g' := (mkF m 131 #[.val (.int xi), .val (.int xd), .val (.int xv), .val (.int xs), .val (.ref b1), .val (.int (1 : Int32)), .val (.int (xi &&& (1073741823 : Int32))), .val (.int (((xi &&& (1073741823 : Int32)) + (1 : Int32)) + (xs &&& (1073741823 : Int32)))), .val (.ref b5), .val (.int (1 : Int32)), .val (.int (1 : Int32)), .val (.int (1 : Int32)), .val (.int (1 : Int32)), .val (.ref b17), .unset, .unset] [])) (fun _ k => XS.astore X24.here hx rfl (hb hby at_129) rfl rfl (l' := #[.val (.int xi), .val (.int xd), .val (.int xv), .val (.int xs), .val (.ref b1), .val (.int (1 : Int32)), .val (.int (xi &&& (1073741823 : Int32))), .val (.int (((xi &&& (1073741823 : Int32)) + (1 : Int32)) + (xs &&& (1073741823 : Int32)))), .val (.ref b5), .val (.int (1 : Int32)), .val (.int (1 : Int32)), .val (.int (1 : Int32)), .val (.int (1 : Int32)), .val (.ref b17), .unset, .unset]) rfl k) ?_
  refine own_go (T' := T24) (g' := (mkF m 133 #[.val (.int xi), .val (.int xd), .val (.int xv), .val (.int xs), .val (.ref b1), .val (.int (1 : Int32)), .val (.int (xi &&& (1073741823 : Int32))), .val (.int (((xi &&& (1073741823 : Int32)) + (1 : Int32)) + (xs &&& (1073741823 : Int32)))), .val (.ref b5), .val (.int (1 : Int32)), .val (.int (1 : Int32)), .val (.int (1 : Int32)), .val (.int (1 : Int32)), .val (.ref b17), .unset, .unset] [(.ref b17)])) (fun _ k => XS.aload X24.here hx rfl (hb hby at_131) rfl rfl k) ?_
  refine own_go (T' := T24) (g' := (mkF m 135 #[.val (.int xi), .val (.int xd), .val (.int xv), .val (.int xs), .val (.ref b1), .val (.int (1 : Int32)), .val (.int (xi &&& (1073741823 : Int32))), .val (.int (((xi &&& (1073741823 : Int32)) + (1 : Int32)) + (xs &&& (1073741823 : Int32)))), .val (.ref b5), .val (.int (1 : Int32)), .val (.int (1 : Int32)), .val (.int (1 : Int32)), .val (.int (1 : Int32)), .val (.ref b17), .unset, .unset] [(.int (xi &&& (1073741823 : Int32))), (.ref b17)])) (fun _ k => XS.iload X24.here hx rfl (hb hby at_133) rfl k) ?_
  obtain ⟨cq31, kq31, q31a, q31b, q31c⟩ := isOf hZ rfl Ec24
  obtain ⟨_, _, ⟨T31, L31, k31, n31⟩, -, X31, ⟨Lc31, hQ31, l31, y31, z31⟩, st31⟩ := X24.virtualBack hx (y := (⟨"com/example/restate/restate/model/Redline$Mark", "shownIn", "(I)Z"⟩ : MethodName)) (z := (⟨"com/example/restate/restate/model/Redline$Mark", "shownIn", "(I)Z"⟩ : MethodName)) hown (mvT hZ (hw _ (List.mem_of_getElem? (i := 13) rfl))) (mvT hZ (hw _ (List.mem_of_getElem? (i := 14) rfl))) (notFace_of_selects (args := #[]) (mvT hZ (hw _ (List.mem_of_getElem? (i := 16) rfl)))) (mvT hZ (hw _ (List.mem_of_getElem? (i := 16) rfl))) (mvT hZ (hw _ (List.mem_of_getElem? (i := 15) rfl))) (by decide) (backOf (W := 0) (own_rS l Z a0 hw [] b17 (xi &&& (1073741823 : Int32)) (xi &&& (1073741823 : Int32)) (0 : Int32) (1 : Int32) T24.heap n0 Z24 Fi24 Fd24 (own_s5 xi)) hZ (hw _ (List.mem_of_getElem? (i := 17) rfl)) (hw _ (List.mem_of_getElem? (i := 2) rfl)) (by decide) (by decide)) q31a q31c (g := (mkF m 135 #[.val (.int xi), .val (.int xd), .val (.int xv), .val (.int xs), .val (.ref b1), .val (.int (1 : Int32)), .val (.int (xi &&& (1073741823 : Int32))), .val (.int (((xi &&& (1073741823 : Int32)) + (1 : Int32)) + (xs &&& (1073741823 : Int32)))), .val (.ref b5), .val (.int (1 : Int32)), .val (.int (1 : Int32)), .val (.int (1 : Int32)), .val (.int (1 : Int32)), .val (.ref b17), .unset, .unset] [(.int (xi &&& (1073741823 : Int32))), (.ref b17)])) rfl (by rw [hml]; rfl) (Steps.refl _) (argsL := [(.int (xi &&& (1073741823 : Int32)))]) (rest := []) (lenOf own_pd1 rfl) rfl (by show 2 * 0 + _ ≤ _; exact Nat.le_of_eq rfl) (hb hby at_135) (fun _ _ => ⟨rfl, rfl, (by decide : 3 + 0 ≤ _), (by decide : 6 + 0 ≤ _)⟩)
  dsimp only [Pt.U, Pt.locs, Pt.cells, Pt.slots] at X31 l31 y31 z31 st31 hQ31
  subst l31 y31 z31
  obtain ⟨rfl, N31q, e31⟩ := hQ31
  have N31 := Fr.app N24 N31q
  refine own_goT (T' := T31) (g' := (mkF m 138 #[.val (.int xi), .val (.int xd), .val (.int xv), .val (.int xs), .val (.ref b1), .val (.int (1 : Int32)), .val (.int (xi &&& (1073741823 : Int32))), .val (.int (((xi &&& (1073741823 : Int32)) + (1 : Int32)) + (xs &&& (1073741823 : Int32)))), .val (.ref b5), .val (.int (1 : Int32)), .val (.int (1 : Int32)), .val (.int (1 : Int32)), .val (.int (1 : Int32)), .val (.ref b17), .unset, .unset] [(.int (1 : Int32))])) st31 ?_
  refine own_go (T' := T31) (g' := (mkF m 140 #[.val (.int xi), .val (.int xd), .val (.int xv), .val (.int xs), .val (.ref b1), .val (.int (1 : Int32)), .val (.int (xi &&& (1073741823 : Int32))), .val (.int (((xi &&& (1073741823 : Int32)) + (1 : Int32)) + (xs &&& (1073741823 : Int32)))), .val (.ref b5), .val (.int (1 : Int32)), .val (.int (1 : Int32)), .val (.int (1 : Int32)), .val (.int (1 : Int32)), .val (.ref b17), .val (.int (1 : Int32)), .unset] [])) (fun _ k => XS.istore X31.here hx rfl (hb hby at_138) rfl (l' := #[.val (.int xi), .val (.int xd), .val (.int xv), .val (.int xs), .val (.ref b1), .val (.int (1 : Int32)), .val (.int (xi &&& (1073741823 : Int32))), .val (.int (((xi &&& (1073741823 : Int32)) + (1 : Int32)) + (xs &&& (1073741823 : Int32)))), .val (.ref b5), .val (.int (1 : Int32)), .val (.int (1 : Int32)), .val (.int (1 : Int32)), .val (.int (1 : Int32)), .val (.ref b17), .val (.int (1 : Int32)), .unset]) rfl k) ?_
  refine own_go (T' := T31) (g' := (mkF m 142 #[.val (.int xi), .val (.int xd), .val (.int xv), .val (.int xs), .val (.ref b1), .val (.int (1 : Int32)), .val (.int (xi &&& (1073741823 : Int32))), .val (.int (((xi &&& (1073741823 : Int32)) + (1 : Int32)) + (xs &&& (1073741823 : Int32)))), .val (.ref b5), .val (.int (1 : Int32)), .val (.int (1 : Int32)), .val (.int (1 : Int32)), .val (.int (1 : Int32)), .val (.ref b17), .val (.int (1 : Int32)), .unset] [(.ref b17)])) (fun _ k => XS.aload X31.here hx rfl (hb hby at_140) rfl rfl k) ?_
  refine own_go (T' := T31) (g' := (mkF m 144 #[.val (.int xi), .val (.int xd), .val (.int xv), .val (.int xs), .val (.ref b1), .val (.int (1 : Int32)), .val (.int (xi &&& (1073741823 : Int32))), .val (.int (((xi &&& (1073741823 : Int32)) + (1 : Int32)) + (xs &&& (1073741823 : Int32)))), .val (.ref b5), .val (.int (1 : Int32)), .val (.int (1 : Int32)), .val (.int (1 : Int32)), .val (.int (1 : Int32)), .val (.ref b17), .val (.int (1 : Int32)), .unset] [(.int (2147483647 : Int32)), (.ref b17)])) (fun _ k => X31.ldcInt hx hown (mvT hZ (hw _ (List.mem_of_getElem? (i := 23) rfl))) (g := (mkF m 142 #[.val (.int xi), .val (.int xd), .val (.int xv), .val (.int xs), .val (.ref b1), .val (.int (1 : Int32)), .val (.int (xi &&& (1073741823 : Int32))), .val (.int (((xi &&& (1073741823 : Int32)) + (1 : Int32)) + (xs &&& (1073741823 : Int32)))), .val (.ref b5), .val (.int (1 : Int32)), .val (.int (1 : Int32)), .val (.int (1 : Int32)), .val (.int (1 : Int32)), .val (.ref b17), .val (.int (1 : Int32)), .unset] [(.ref b17)])) rfl (hb hby at_142) _ k) ?_
  obtain ⟨cq32, kq32, q32a, q32b, q32c⟩ := isOf hZ e31 Ec24
  obtain ⟨_, _, ⟨T32, L32, k32, n32⟩, -, X32, ⟨Lc32, hQ32, l32, y32, z32⟩, st32⟩ := X31.virtualBack hx (y := (⟨"com/example/restate/restate/model/Redline$Mark", "shownIn", "(I)Z"⟩ : MethodName)) (z := (⟨"com/example/restate/restate/model/Redline$Mark", "shownIn", "(I)Z"⟩ : MethodName)) hown (mvT hZ (hw _ (List.mem_of_getElem? (i := 13) rfl))) (mvT hZ (hw _ (List.mem_of_getElem? (i := 14) rfl))) (notFace_of_selects (args := #[]) (mvT hZ (hw _ (List.mem_of_getElem? (i := 16) rfl)))) (mvT hZ (hw _ (List.mem_of_getElem? (i := 16) rfl))) (mvT hZ (hw _ (List.mem_of_getElem? (i := 15) rfl))) (by decide) (backOf (W := 0) (own_rS l Z a0 hw [] b17 (2147483647 : Int32) (xi &&& (1073741823 : Int32)) (0 : Int32) (1 : Int32) T24.heap n0 Z24 Fi24 Fd24 (own_s6 xi)) hZ (hw _ (List.mem_of_getElem? (i := 17) rfl)) (hw _ (List.mem_of_getElem? (i := 2) rfl)) (by decide) (by decide)) q32a q32c (g := (mkF m 144 #[.val (.int xi), .val (.int xd), .val (.int xv), .val (.int xs), .val (.ref b1), .val (.int (1 : Int32)), .val (.int (xi &&& (1073741823 : Int32))), .val (.int (((xi &&& (1073741823 : Int32)) + (1 : Int32)) + (xs &&& (1073741823 : Int32)))), .val (.ref b5), .val (.int (1 : Int32)), .val (.int (1 : Int32)), .val (.int (1 : Int32)), .val (.int (1 : Int32)), .val (.ref b17), .val (.int (1 : Int32)), .unset] [(.int (2147483647 : Int32)), (.ref b17)])) rfl (by rw [hml]; rfl) (Steps.refl _) (argsL := [(.int (2147483647 : Int32))]) (rest := []) (lenOf own_pd1 rfl) rfl (by show 2 * 0 + _ ≤ _; exact Nat.le_of_eq rfl) (hb hby at_144) (fun _ _ => ⟨rfl, e31, (by decide : 3 + 0 ≤ _), (by decide : 6 + 0 ≤ _)⟩)
  dsimp only [Pt.U, Pt.locs, Pt.cells, Pt.slots] at X32 l32 y32 z32 st32 hQ32
  subst l32 y32 z32
  obtain ⟨rfl, N32q, e32⟩ := hQ32
  have N32 := Fr.app N31 N32q
  refine own_goT (T' := T32) (g' := (mkF m 147 #[.val (.int xi), .val (.int xd), .val (.int xv), .val (.int xs), .val (.ref b1), .val (.int (1 : Int32)), .val (.int (xi &&& (1073741823 : Int32))), .val (.int (((xi &&& (1073741823 : Int32)) + (1 : Int32)) + (xs &&& (1073741823 : Int32)))), .val (.ref b5), .val (.int (1 : Int32)), .val (.int (1 : Int32)), .val (.int (1 : Int32)), .val (.int (1 : Int32)), .val (.ref b17), .val (.int (1 : Int32)), .unset] [(.int (1 : Int32))])) st32 ?_
  refine own_go (T' := T32) (g' := (mkF m 149 #[.val (.int xi), .val (.int xd), .val (.int xv), .val (.int xs), .val (.ref b1), .val (.int (1 : Int32)), .val (.int (xi &&& (1073741823 : Int32))), .val (.int (((xi &&& (1073741823 : Int32)) + (1 : Int32)) + (xs &&& (1073741823 : Int32)))), .val (.ref b5), .val (.int (1 : Int32)), .val (.int (1 : Int32)), .val (.int (1 : Int32)), .val (.int (1 : Int32)), .val (.ref b17), .val (.int (1 : Int32)), .val (.int (1 : Int32))] [])) (fun _ k => XS.istore X32.here hx rfl (hb hby at_147) rfl (l' := #[.val (.int xi), .val (.int xd), .val (.int xv), .val (.int xs), .val (.ref b1), .val (.int (1 : Int32)), .val (.int (xi &&& (1073741823 : Int32))), .val (.int (((xi &&& (1073741823 : Int32)) + (1 : Int32)) + (xs &&& (1073741823 : Int32)))), .val (.ref b5), .val (.int (1 : Int32)), .val (.int (1 : Int32)), .val (.int (1 : Int32)), .val (.int (1 : Int32)), .val (.ref b17), .val (.int (1 : Int32)), .val (.int (1 : Int32))]) rfl k) ?_
  refine own_go (T' := T32) (g' := (mkF m 151 #[.val (.int xi), .val (.int xd), .val (.int xv), .val (.int xs), .val (.ref b1), .val (.int (1 : Int32)), .val (.int (xi &&& (1073741823 : Int32))), .val (.int (((xi &&& (1073741823 : Int32)) + (1 : Int32)) + (xs &&& (1073741823 : Int32)))), .val (.ref b5), .val (.int (1 : Int32)), .val (.int (1 : Int32)), .val (.int (1 : Int32)), .val (.int (1 : Int32)), .val (.ref b17), .val (.int (1 : Int32)), .val (.int (1 : Int32))] [(.int (1 : Int32))])) (fun _ k => XS.iload X32.here hx rfl (hb hby at_149) rfl k) ?_
  refine own_go (T' := T32) (g' := (mkF m 154 #[.val (.int xi), .val (.int xd), .val (.int xv), .val (.int xs), .val (.ref b1), .val (.int (1 : Int32)), .val (.int (xi &&& (1073741823 : Int32))), .val (.int (((xi &&& (1073741823 : Int32)) + (1 : Int32)) + (xs &&& (1073741823 : Int32)))), .val (.ref b5), .val (.int (1 : Int32)), .val (.int (1 : Int32)), .val (.int (1 : Int32)), .val (.int (1 : Int32)), .val (.ref b17), .val (.int (1 : Int32)), .val (.int (1 : Int32))] [])) (fun _ k => XS.ifNo X32.here hx rfl (hb hby at_151) rfl ((if0 _ _).trans (feq ((by decide) : ¬ ((1 : Int32) = (0 : Int32)))).1) k) ?_
  refine own_go (T' := T32) (g' := (mkF m 156 #[.val (.int xi), .val (.int xd), .val (.int xv), .val (.int xs), .val (.ref b1), .val (.int (1 : Int32)), .val (.int (xi &&& (1073741823 : Int32))), .val (.int (((xi &&& (1073741823 : Int32)) + (1 : Int32)) + (xs &&& (1073741823 : Int32)))), .val (.ref b5), .val (.int (1 : Int32)), .val (.int (1 : Int32)), .val (.int (1 : Int32)), .val (.int (1 : Int32)), .val (.ref b17), .val (.int (1 : Int32)), .val (.int (1 : Int32))] [(.int (1 : Int32))])) (fun _ k => XS.iload X32.here hx rfl (hb hby at_154) rfl k) ?_
  refine own_go (T' := T32) (g' := (mkF m 159 #[.val (.int xi), .val (.int xd), .val (.int xv), .val (.int xs), .val (.ref b1), .val (.int (1 : Int32)), .val (.int (xi &&& (1073741823 : Int32))), .val (.int (((xi &&& (1073741823 : Int32)) + (1 : Int32)) + (xs &&& (1073741823 : Int32)))), .val (.ref b5), .val (.int (1 : Int32)), .val (.int (1 : Int32)), .val (.int (1 : Int32)), .val (.int (1 : Int32)), .val (.ref b17), .val (.int (1 : Int32)), .val (.int (1 : Int32))] [])) (fun _ k => XS.ifNo X32.here hx rfl (hb hby at_156) rfl ((if0 _ _).trans (feq ((by decide) : ¬ ((1 : Int32) = (0 : Int32)))).1) k) ?_
  refine own_go (T' := T32) (g' := (mkF m 161 #[.val (.int xi), .val (.int xd), .val (.int xv), .val (.int xs), .val (.ref b1), .val (.int (1 : Int32)), .val (.int (xi &&& (1073741823 : Int32))), .val (.int (((xi &&& (1073741823 : Int32)) + (1 : Int32)) + (xs &&& (1073741823 : Int32)))), .val (.ref b5), .val (.int (1 : Int32)), .val (.int (1 : Int32)), .val (.int (1 : Int32)), .val (.int (1 : Int32)), .val (.ref b17), .val (.int (1 : Int32)), .val (.int (1 : Int32))] [(.int (1 : Int32))])) (fun _ k => XS.iload X32.here hx rfl (hb hby at_159) rfl k) ?_
  refine own_go (T' := T32) (g' := (mkF m 164 #[.val (.int xi), .val (.int xd), .val (.int xv), .val (.int xs), .val (.ref b1), .val (.int (1 : Int32)), .val (.int (xi &&& (1073741823 : Int32))), .val (.int (((xi &&& (1073741823 : Int32)) + (1 : Int32)) + (xs &&& (1073741823 : Int32)))), .val (.ref b5), .val (.int (1 : Int32)), .val (.int (1 : Int32)), .val (.int (1 : Int32)), .val (.int (1 : Int32)), .val (.ref b17), .val (.int (1 : Int32)), .val (.int (1 : Int32))] [])) (fun _ k => XS.ifNo X32.here hx rfl (hb hby at_161) rfl ((if0 _ _).trans (feq ((by decide) : ¬ ((1 : Int32) = (0 : Int32)))).1) k) ?_
  refine own_go (T' := T32) (g' := (mkF m 166 #[.val (.int xi), .val (.int xd), .val (.int xv), .val (.int xs), .val (.ref b1), .val (.int (1 : Int32)), .val (.int (xi &&& (1073741823 : Int32))), .val (.int (((xi &&& (1073741823 : Int32)) + (1 : Int32)) + (xs &&& (1073741823 : Int32)))), .val (.ref b5), .val (.int (1 : Int32)), .val (.int (1 : Int32)), .val (.int (1 : Int32)), .val (.int (1 : Int32)), .val (.ref b17), .val (.int (1 : Int32)), .val (.int (1 : Int32))] [(.int (1 : Int32))])) (fun _ k => XS.iload X32.here hx rfl (hb hby at_164) rfl k) ?_
  refine own_go (T' := T32) (g' := (mkF m 169 #[.val (.int xi), .val (.int xd), .val (.int xv), .val (.int xs), .val (.ref b1), .val (.int (1 : Int32)), .val (.int (xi &&& (1073741823 : Int32))), .val (.int (((xi &&& (1073741823 : Int32)) + (1 : Int32)) + (xs &&& (1073741823 : Int32)))), .val (.ref b5), .val (.int (1 : Int32)), .val (.int (1 : Int32)), .val (.int (1 : Int32)), .val (.int (1 : Int32)), .val (.ref b17), .val (.int (1 : Int32)), .val (.int (1 : Int32))] [])) (fun _ k => XS.ifNo X32.here hx rfl (hb hby at_166) rfl ((if0 _ _).trans (feq ((by decide) : ¬ ((1 : Int32) = (0 : Int32)))).1) k) ?_
  refine own_go (T' := T32) (g' := (mkF m 171 #[.val (.int xi), .val (.int xd), .val (.int xv), .val (.int xs), .val (.ref b1), .val (.int (1 : Int32)), .val (.int (xi &&& (1073741823 : Int32))), .val (.int (((xi &&& (1073741823 : Int32)) + (1 : Int32)) + (xs &&& (1073741823 : Int32)))), .val (.ref b5), .val (.int (1 : Int32)), .val (.int (1 : Int32)), .val (.int (1 : Int32)), .val (.int (1 : Int32)), .val (.ref b17), .val (.int (1 : Int32)), .val (.int (1 : Int32))] [(.int (1 : Int32))])) (fun _ k => XS.iload X32.here hx rfl (hb hby at_169) rfl k) ?_
  refine own_go (T' := T32) (g' := (mkF m 174 #[.val (.int xi), .val (.int xd), .val (.int xv), .val (.int xs), .val (.ref b1), .val (.int (1 : Int32)), .val (.int (xi &&& (1073741823 : Int32))), .val (.int (((xi &&& (1073741823 : Int32)) + (1 : Int32)) + (xs &&& (1073741823 : Int32)))), .val (.ref b5), .val (.int (1 : Int32)), .val (.int (1 : Int32)), .val (.int (1 : Int32)), .val (.int (1 : Int32)), .val (.ref b17), .val (.int (1 : Int32)), .val (.int (1 : Int32))] [])) (fun _ k => XS.ifNo X32.here hx rfl (hb hby at_171) rfl ((if0 _ _).trans (feq ((by decide) : ¬ ((1 : Int32) = (0 : Int32)))).1) k) ?_
  refine own_go (T' := T32) (g' := (mkF m 176 #[.val (.int xi), .val (.int xd), .val (.int xv), .val (.int xs), .val (.ref b1), .val (.int (1 : Int32)), .val (.int (xi &&& (1073741823 : Int32))), .val (.int (((xi &&& (1073741823 : Int32)) + (1 : Int32)) + (xs &&& (1073741823 : Int32)))), .val (.ref b5), .val (.int (1 : Int32)), .val (.int (1 : Int32)), .val (.int (1 : Int32)), .val (.int (1 : Int32)), .val (.ref b17), .val (.int (1 : Int32)), .val (.int (1 : Int32))] [(.int (1 : Int32))])) (fun _ k => XS.iload X32.here hx rfl (hb hby at_174) rfl k) ?_
  refine own_go (T' := T32) (g' := (mkF m 179 #[.val (.int xi), .val (.int xd), .val (.int xv), .val (.int xs), .val (.ref b1), .val (.int (1 : Int32)), .val (.int (xi &&& (1073741823 : Int32))), .val (.int (((xi &&& (1073741823 : Int32)) + (1 : Int32)) + (xs &&& (1073741823 : Int32)))), .val (.ref b5), .val (.int (1 : Int32)), .val (.int (1 : Int32)), .val (.int (1 : Int32)), .val (.int (1 : Int32)), .val (.ref b17), .val (.int (1 : Int32)), .val (.int (1 : Int32))] [])) (fun _ k => XS.ifNo X32.here hx rfl (hb hby at_176) rfl ((if0 _ _).trans (feq ((by decide) : ¬ ((1 : Int32) = (0 : Int32)))).1) k) ?_
  refine own_go (T' := T32) (g' := (mkF m 181 #[.val (.int xi), .val (.int xd), .val (.int xv), .val (.int xs), .val (.ref b1), .val (.int (1 : Int32)), .val (.int (xi &&& (1073741823 : Int32))), .val (.int (((xi &&& (1073741823 : Int32)) + (1 : Int32)) + (xs &&& (1073741823 : Int32)))), .val (.ref b5), .val (.int (1 : Int32)), .val (.int (1 : Int32)), .val (.int (1 : Int32)), .val (.int (1 : Int32)), .val (.ref b17), .val (.int (1 : Int32)), .val (.int (1 : Int32))] [(.int (1 : Int32))])) (fun _ k => XS.iload X32.here hx rfl (hb hby at_179) rfl k) ?_
  refine own_go (T' := T32) (g' := (mkF m 184 #[.val (.int xi), .val (.int xd), .val (.int xv), .val (.int xs), .val (.ref b1), .val (.int (1 : Int32)), .val (.int (xi &&& (1073741823 : Int32))), .val (.int (((xi &&& (1073741823 : Int32)) + (1 : Int32)) + (xs &&& (1073741823 : Int32)))), .val (.ref b5), .val (.int (1 : Int32)), .val (.int (1 : Int32)), .val (.int (1 : Int32)), .val (.int (1 : Int32)), .val (.ref b17), .val (.int (1 : Int32)), .val (.int (1 : Int32))] [])) (fun _ k => XS.ifNo X32.here hx rfl (hb hby at_181) rfl ((if0 _ _).trans (feq ((by decide) : ¬ ((1 : Int32) = (0 : Int32)))).1) k) ?_
  refine own_go (T' := T32) (g' := (mkF m 185 #[.val (.int xi), .val (.int xd), .val (.int xv), .val (.int xs), .val (.ref b1), .val (.int (1 : Int32)), .val (.int (xi &&& (1073741823 : Int32))), .val (.int (((xi &&& (1073741823 : Int32)) + (1 : Int32)) + (xs &&& (1073741823 : Int32)))), .val (.ref b5), .val (.int (1 : Int32)), .val (.int (1 : Int32)), .val (.int (1 : Int32)), .val (.int (1 : Int32)), .val (.ref b17), .val (.int (1 : Int32)), .val (.int (1 : Int32))] [(.int (1 : Int32))])) (fun _ k => XS.iconst X32.here hx rfl (hb hby at_184) k) ?_
  refine own_go (T' := T32) (g' := (mkF m 189 #[.val (.int xi), .val (.int xd), .val (.int xv), .val (.int xs), .val (.ref b1), .val (.int (1 : Int32)), .val (.int (xi &&& (1073741823 : Int32))), .val (.int (((xi &&& (1073741823 : Int32)) + (1 : Int32)) + (xs &&& (1073741823 : Int32)))), .val (.ref b5), .val (.int (1 : Int32)), .val (.int (1 : Int32)), .val (.int (1 : Int32)), .val (.int (1 : Int32)), .val (.ref b17), .val (.int (1 : Int32)), .val (.int (1 : Int32))] [(.int (1 : Int32))])) (fun _ k => XS.goto X32.here hx rfl (pc0 := 185) (pc' := 189) rfl (hb hby at_185) (by decide) (by decide) k) ?_
  obtain ⟨fs, hr, hrun, hended, hW, hsame⟩ := X32.leave (v := some (.int (1 : Int32))) (fun h => by rw [Bd.returns] at h; cases h)
  refine own_end (retN X32 hx (t := .boolean) Bd.returns (by simp) (hb hby at_189) hr) hrun hended ⟨_, _, rfl, (?_ : own_QL Z xi xd xv xs h0 n0 _ T32.heap _), ⟨_, rfl⟩, hW, hsame.mono (by decide) (by decide)⟩
  rw [e32]
  exact ⟨rfl, N32⟩
set_option maxRecDepth 65536 in
set_option maxHeartbeats 40000000 in
theorem own_comes {Post : Tables → Env → Array Value → State → Outcome → State → Prop} (hpost : ∀ tb e args s v u, (limb_1_1.after args s (.returned v) u = true ∧ limb_1_2.after args s (.returned v) u = true ∧ True) → FrameEnd s (.returned v) u (Jvm.fieldLocs frame_1_writes args s ++ Jvm.arrayLocs frame_1_arrays args s ++ Jvm.staticLocs frame_1_statics s) 16 128 → Post tb e args s (.returned v) u) :
    ArmFor flags0 classFile x code maxLocals ret World_1 tables_1 room_1 Calls_1 rest_1 Pre_1 Post := by
  intro l hfl _ _ p e ha hc hk s m args below hf hA hF happ hP
  obtain ⟨hcalls, hrest, hpre⟩ := hP
  obtain ⟨-, -, -, hnamed, -, -, -, hat⟩ := (Spec.applies_iff hf).mp happ
  obtain ⟨hg, hn⟩ := and_e (Cond.before_iff.mp (show (Jvm.Cond.and given_1 narrow_1).before args s = true from hpre))
  obtain ⟨gc, g0⟩ := and_e hg
  obtain ⟨ga0, g1⟩ := and_e g0
  obtain ⟨ga1, g2⟩ := and_e g1
  obtain ⟨ga2, g3⟩ := and_e g2
  obtain ⟨w0, w1, w2, w3, rfl⟩ : ∃ w0 w1 w2 w3 : Value, args = #[w0, w1, w2, w3] := by
    have hs : args.size = 4 := by simpa [Cond.value, given_1] using gc
    obtain ⟨L⟩ := args
    match L, hs with
    | [w0, w1, w2, w3], _ => exact ⟨w0, w1, w2, w3, rfl⟩
  have hw := fun d (hd : d ∈ tables_1) => atoms_spec (ws := Jvm.Cond.code x code maxLocals ret :: tables_1) hat d (List.mem_cons_of_mem _ hd)
  have hfit : Fit s := fun {y c} hc i hi => by
    obtain ⟨ha, rfl⟩ := Array.getElem?_eq_some_iff.mp hc
    have q := List.all_eq_true.mp ((Array.all_eq_true_iff_forall_mem.mp hF) _ (Array.getElem_mem ha)) i (List.mem_range.mpr hi)
    simpa [Array.getElem?_eq_getElem hi] using q
  obtain ⟨i0, ei0⟩ := is_v ga0
  obtain rfl : w0 = (.int i0) := Option.some.inj ei0
  obtain ⟨i1, ei1⟩ := is_v ga1
  obtain rfl : w1 = (.int i1) := Option.some.inj ei1
  obtain ⟨i2, ei2⟩ := is_v ga2
  obtain rfl : w2 = (.int i2) := Option.some.inj ei2
  obtain ⟨i3, ei3⟩ := is_v g3
  obtain rfl : w3 = (.int i3) := Option.some.inj ei3
  obtain ⟨n, o, h1, h2, h3, _, L, rfl, ⟨rfl, N⟩, hq⟩ := own_rL l s _ hw tables_1 i0 i1 i2 i3  s.heap s.heap.size (Nat.le_refl _)  p e ha hc hk s m _ below hf ((Spec.applies_iff_loose hf).mp happ).1 ⟨rfl, State.Warmed39.refl s, rfl⟩ trivial
  refine ⟨n, _, h1, h2, h3, hpost _ _ _ _ _ _ ⟨Cond.after_iff.mpr rfl, Cond.after_iff.mpr (eq_i res_at (Term.int_eval (1)) rfl), trivial⟩ ⟨hq.1, hq.2.1, (hq.2.2.sift fun y hy => Or.inr (N y hy)).mono (by decide) (by decide)⟩⟩
theorem main_1_1 : Claimed_1_1 := own_comes fun _ _ _ _ _ _ h hF => ⟨h.1, hF⟩
theorem main_1_2 : Claimed_1_2 := own_comes fun _ _ _ _ _ _ h hF => ⟨h.2.1, hF⟩
end Jvm.Pilot.@@N@@
namespace Jvm.Pilot.@@N@@
open Jvm Jvm.ClassFile Sem Op Lib Jvm.Free Jvm.Stand Jvm.Pilot.@@N@@.Jvm.D
/-! MADE BY PROGRAM (witnessworld.py) out of the Statement's table words and the real class files: 9 classes; the members and pool entries that the words name. The judged class is class 1, her method 2. -/
namespace start1
open Jvm.ClassFile
def u (s : String) : CpInfo := .utf8 (stringToUtf16 s)
/-- a pool by its gaps: so many unusable entries, then the entry; so many at the end -/
def gap : Nat → List CpInfo → List CpInfo
  | 0, r => r
  | n + 1, r => .unusable :: gap n r
def poolList (es : List (Nat × CpInfo)) (last : Nat) : List CpInfo := es.foldr (fun e r => gap e.1 (e.2 :: r)) (gap last [])
def pool (es : List (Nat × CpInfo)) (last : Nat) : Array CpInfo := ⟨poolList es last⟩
def fileOf (pool : Array CpInfo) (this : Nat) (attrs : Array Attribute := #[]) (ms : Array MethodInfo := #[]) (fl : Nat := 33) (sup : Nat := 0) (ifs : Array Nat := #[]) (fds : Array FieldInfo := #[]) : ClassFile where
  minorVersion := 0
  majorVersion := 65
  constantPool := pool
  accessFlags := fl
  thisClass := this
  superClass := sup
  interfaces := ifs
  fields := fds
  methods := ms
  attributes := attrs
def plain (name : String) (sup : Option ClassId) : Class where
  name := name
  kind := .ordinary
  loader := none
  accessFlags := 33
  super := sup
  interfaces := #[]
  cf := none
  fields := #[]
  methods := #[]
  instanceTypes := #[]
  staticTypes := #[]
  resolved := #[]
  callSites := []
  init := .initialized
  statics := none
  mirror := none

def pool0 : Array CpInfo := pool [(5, u "<init>"), (0, u "()V"), (1, .class_ 10), (1, u "java/lang/Object")] 113

def k0c0 : Code := { maxStack := 0, maxLocals := 1, code := object_method_1_code, exceptionTable := #[], attributes := #[] }
def k0m0 : Method := { name := "<init>", desc := "()V", sig := { parameters := [], returnType := none }, accessFlags := 1, code := some k0c0 }
/-- java/lang/Object -/
def k0 : Class := { plain "java/lang/Object" none with
  accessFlags := 33
  interfaces := #[]
  cf := some (fileOf pool0 8 #[] #[{ accessFlags := 1, nameIndex := 5, descriptorIndex := 6, attributes := #[] }] 33 0 #[] #[])
  fields := #[]
  methods := #[k0m0]
  instanceTypes := #[]
  staticTypes := #[]
  resolved := Array.replicate 124 none
  statics := none }

def pool1 : Array CpInfo := pool [(2, .class_ 4), (1, u "java/lang/Object"), (0, u "<init>"), (0, u "()V"), (0, .class_ 8), (0, u "com/example/restate/restate/model/Redline$Mark"), (0, .methodref 7 10), (0, .nameAndType 5 11), (0, u "(II)V"), (0, .methodref 7 13), (0, .nameAndType 14 15), (0, u "shownIn"), (0, u "(I)Z"), (0, .methodref 17 18), (0, .class_ 19), (0, .nameAndType 20 21), (0, u "com/example/restate/restate/model/MarkShownInPinLaw"), (0, u "reads"), (0, u "(III)Z"), (0, .integer 1073741823), (2, .integer 2147483647), (3, u "law"), (0, u "(IIII)Z")] 6

def k1m0 : Method := { name := "<init>", desc := "()V", sig := { parameters := [], returnType := none }, accessFlags := 2, code := none }
def k1c1 : Code := { maxStack := 2, maxLocals := 3, code := method_2_code, exceptionTable := #[], attributes := #[] }
def k1m1 : Method := { name := "reads", desc := "(III)Z", sig := { parameters := [.int, .int, .int], returnType := some .boolean }, accessFlags := 10, code := some k1c1 }
def k1c2 : Code := { maxStack := 4, maxLocals := 16, code := code, exceptionTable := #[], attributes := #[] }
def k1m2 : Method := { name := "law", desc := "(IIII)Z", sig := { parameters := [.int, .int, .int, .int], returnType := some .boolean }, accessFlags := 9, code := some k1c2 }
/-- com/example/restate/restate/model/MarkShownInPinLaw -/
def k1 : Class := { plain "com/example/restate/restate/model/MarkShownInPinLaw" (some 0) with
  accessFlags := 49
  interfaces := #[]
  cf := some (fileOf pool1 17 #[] #[{ accessFlags := 2, nameIndex := 5, descriptorIndex := 6, attributes := #[] }, { accessFlags := 10, nameIndex := 20, descriptorIndex := 21, attributes := #[] }, { accessFlags := 9, nameIndex := 29, descriptorIndex := 30, attributes := #[] }] 49 2 #[] #[])
  fields := #[]
  methods := #[k1m0, k1m1, k1m2]
  instanceTypes := #[]
  staticTypes := #[]
  resolved := Array.replicate 37 none
  statics := none }

def pool2 : Array CpInfo := pool [(1, .methodref 2 3), (0, .class_ 4), (0, .nameAndType 5 6), (0, u "java/lang/Object"), (0, u "<init>"), (0, u "()V"), (0, .fieldref 8 9), (0, .class_ 10), (0, .nameAndType 11 12), (0, u "com/example/restate/restate/model/Redline$Mark"), (0, u "inserted"), (0, u "I"), (0, .fieldref 8 14), (0, .nameAndType 15 12), (0, u "deleted"), (2, u "KEPT"), (0, u "Lcom/example/restate/restate/model/Redline$Mark;"), (2, u "(II)V"), (22, u "shownIn"), (0, u "(I)Z"), (7, .class_ 55), (0, u "com/example/restate/restate/model/Redline")] 2

def k2c0 : Code := { maxStack := 2, maxLocals := 3, code := prog_84_method_1_code, exceptionTable := #[], attributes := #[] }
def k2m0 : Method := { name := "<init>", desc := "(II)V", sig := { parameters := [.int, .int], returnType := none }, accessFlags := 0, code := some k2c0 }
def k2c1 : Code := { maxStack := 2, maxLocals := 2, code := prog_84_method_6_code, exceptionTable := #[], attributes := #[] }
def k2m1 : Method := { name := "shownIn", desc := "(I)Z", sig := { parameters := [.int], returnType := some .boolean }, accessFlags := 1, code := some k2c1 }
/-- com/example/restate/restate/model/Redline$Mark -/
def k2 : Class := { plain "com/example/restate/restate/model/Redline$Mark" (some 0) with
  accessFlags := 49
  interfaces := #[]
  cf := some (fileOf pool2 8 #[.nestHost 54] #[{ accessFlags := 0, nameIndex := 5, descriptorIndex := 22, attributes := #[] }, { accessFlags := 1, nameIndex := 45, descriptorIndex := 46, attributes := #[] }] 49 2 #[] #[{ accessFlags := 24, nameIndex := 18, descriptorIndex := 19, attributes := #[] }, { accessFlags := 18, nameIndex := 11, descriptorIndex := 12, attributes := #[] }, { accessFlags := 18, nameIndex := 15, descriptorIndex := 12, attributes := #[] }])
  fields := #[{ name := "KEPT", type := (.object "com/example/restate/restate/model/Redline$Mark"), accessFlags := 24, slot := 0, constantValue := 0 }, { name := "inserted", type := .int, accessFlags := 18, slot := 0, constantValue := 0 }, { name := "deleted", type := .int, accessFlags := 18, slot := 1, constantValue := 0 }]
  methods := #[k2m0, k2m1]
  instanceTypes := #[.int, .int]
  staticTypes := #[(.object "com/example/restate/restate/model/Redline$Mark")]
  resolved := Array.replicate 58 none
  statics := none }

def pool3 : Array CpInfo := pool [(1, u "java/lang/Cloneable"), (0, .class_ 1), (0, u "java/lang/Object"), (0, .class_ 3)] 3

/-- java/lang/Cloneable -/
def k3 : Class := { plain "java/lang/Cloneable" (some 0) with
  accessFlags := 1537
  interfaces := #[]
  cf := some (fileOf pool3 2 #[] #[] 1537 4 #[] #[])
  fields := #[]
  methods := #[]
  instanceTypes := #[]
  staticTypes := #[]
  resolved := Array.replicate 8 none
  statics := none }

def pool4 : Array CpInfo := pool [(1, u "java/io/Serializable"), (0, .class_ 1), (0, u "java/lang/Object"), (0, .class_ 3)] 3

/-- java/io/Serializable -/
def k4 : Class := { plain "java/io/Serializable" (some 0) with
  accessFlags := 1537
  interfaces := #[]
  cf := some (fileOf pool4 2 #[] #[] 1537 4 #[] #[])
  fields := #[]
  methods := #[]
  instanceTypes := #[]
  staticTypes := #[]
  resolved := Array.replicate 8 none
  statics := none }

/-- the primitive byte -/
def k5 : Class := { plain "byte" none with kind := .primitive 'B', accessFlags := 0x411 }
/-- [B -/
def k6 : Class := { plain "[B" (some 0) with kind := .array 5 .byte, interfaces := #[3, 4], accessFlags := 1041 }

/-- the primitive int -/
def k7 : Class := { plain "int" none with kind := .primitive 'I', accessFlags := 0x411 }
/-- [I -/
def k8 : Class := { plain "[I" (some 0) with kind := .array 7 .int, interfaces := #[3, 4], accessFlags := 1041 }

def heap : Heap := #[]
def classes : Array Class := #[k0, k1, k2, k3, k4, k5, k6, k7, k8]
def interned : List (Array UInt16 × Addr) := []
def slotsUsed : Nat := 0
def theMethod : MethodId := ⟨1, 2⟩
def args0 : Array Value := #[.int 5, .int 7, .int 6, .int 3]
def aboutOver (below : List Frame) : State where
  vm := { classes := classes, interned := interned.toArray }
  heap := heap
  slotsUsed := slotsUsed
  threads := #[{ frames := .invoking theMethod args0 :: below }]
def below0 : List Frame := [.native { method := ⟨0, 0⟩, args := #[] }]
def about1 : State := aboutOver below0
def p0 : Program := .bare "" "" ""
def e0 : Env := launch0.env 0 0 0
theorem w_frames : about1.frames = Frame.invoking theMethod args0 :: below0 := rfl
set_option maxRecDepth 65536 in
theorem w_args : argsFit about1.vm theMethod args0 = true := by decide +kernel
set_option maxRecDepth 65536 in
theorem w_heap : heapFits about1 = true := by decide +kernel
set_option maxRecDepth 65536 in
theorem w_runnable : about1.curStatus? = some .runnable := by decide +kernel
set_option maxRecDepth 65536 in
theorem w_alone : about1.alone = true := by decide +kernel
set_option maxRecDepth 65536 in
theorem w_named : about1.methodNamed? x = some theMethod := by decide +kernel
set_option maxRecDepth 65536 in
theorem w_hears : about1.hears theMethod below0 = true := by decide +kernel
set_option maxRecDepth 65536 in
theorem w_ripe : about1.ripe theMethod args0 below0 = true := by decide +kernel
theorem w_running : about1.status = .running := rfl
set_option maxRecDepth 65536 in
theorem w_room : about1.hasRoom e0.platform room_1 = true :=
  launch0.hasRoom_least _ room_1 (by decide +kernel) (by decide +kernel) (by decide +kernel) (by decide +kernel) (by decide +kernel) (by decide +kernel)
theorem allAtoms_all (ts : List Jvm.Cond) (a : Array Jvm.Value) (st : Jvm.State) : (allAtoms ts).before a st = ts.all (fun c => c.before a st) := by
  induction ts with
  | nil => rfl
  | cons c t ih =>
    show (Jvm.Cond.and c (allAtoms t)).before a st = _
    rw [Jvm.Cond.before_and, ih, List.all_cons]
def words1 : List Jvm.Cond := Jvm.Cond.code x code maxLocals ret :: tables_1
/-- a 'code' word, met by the world's own term for the bytes: nothing is compared byte by byte -/
theorem code_word {y : MethodName} {bytes : ByteArray} {mx : Nat} {rt : Option FieldType} {a : Array Value} {s : State} {m : MethodId} {meth : Method} {c : Code} (h1 : s.methodNamed? y = some m) (h2 : s.vm.method? m = some meth) (h3 : meth.code = some c) (h4 : c.code = bytes)
    (h5 : (c.maxLocals == mx && c.exceptionTable.isEmpty && decide (c.maxStack ≤ mostOperands) && decide (meth.sig.returnType = rt) && !meth.locks && decide (parseMethodDescriptor y.desc = some meth.sig)) = true) : (Jvm.Cond.code y bytes mx rt).before a s = true := by
  simp only [Bool.and_eq_true, beq_iff_eq, Bool.not_eq_true', decide_eq_true_eq] at h5
  obtain ⟨⟨⟨⟨⟨g1, g2⟩, g3⟩, g4⟩, g5⟩, g6⟩ := h5
  simp [Cond.before, Cond.holds, Cond.value, h1, h2, h3, h4, g1, g2, g3, g4, g5, g6]
def isCode : Jvm.Cond → Bool
  | .code _ _ _ _ => true
  | _ => false
theorem all_split {L : List Jvm.Cond} {P : Jvm.Cond → Bool} (h1 : L.all (fun c => isCode c || P c) = true) (h2 : ∀ c ∈ L.filter isCode, P c = true) : L.all P = true := by
  refine List.all_eq_true.mpr fun c hc => ?_
  have h := List.all_eq_true.mp h1 c hc
  rcases Bool.eq_false_or_eq_true (isCode c) with hi | hi
  · exact h2 c (List.mem_filter.mpr ⟨hc, hi⟩)
  · simpa [hi] using h
set_option maxRecDepth 65536 in
theorem w_c0 : (Jvm.Cond.code x code maxLocals ret).before args0 about1 = true := code_word (m := ⟨1, 2⟩) (meth := k1m2) (c := k1c2) (by decide +kernel) rfl rfl rfl (by decide +kernel)
set_option maxRecDepth 65536 in
theorem w_c1 : (Jvm.Cond.code ({ cls := "com/example/restate/restate/model/Redline$Mark", name := "<init>", desc := "(II)V" } : Jvm.MethodName) prog_84_method_1_code (3 : Nat) (Option.none : Option Jvm.ClassFile.FieldType)).before args0 about1 = true := code_word (m := ⟨2, 0⟩) (meth := k2m0) (c := k2c0) (by decide +kernel) rfl rfl rfl (by decide +kernel)
set_option maxRecDepth 65536 in
theorem w_c2 : (Jvm.Cond.code ({ cls := "java/lang/Object", name := "<init>", desc := "()V" } : Jvm.MethodName) object_method_1_code (1 : Nat) (Option.none : Option Jvm.ClassFile.FieldType)).before args0 about1 = true := code_word (m := ⟨0, 0⟩) (meth := k0m0) (c := k0c0) (by decide +kernel) rfl rfl rfl (by decide +kernel)
set_option maxRecDepth 65536 in
theorem w_c3 : (Jvm.Cond.code ({ cls := "com/example/restate/restate/model/Redline$Mark", name := "shownIn", desc := "(I)Z" } : Jvm.MethodName) prog_84_method_6_code (2 : Nat) (Option.some Jvm.ClassFile.FieldType.boolean)).before args0 about1 = true := code_word (m := ⟨2, 1⟩) (meth := k2m1) (c := k2c1) (by decide +kernel) rfl rfl rfl (by decide +kernel)
set_option maxRecDepth 65536 in
theorem w_c4 : (Jvm.Cond.code ({ cls := "com/example/restate/restate/model/MarkShownInPinLaw", name := "reads", desc := "(III)Z" } : Jvm.MethodName) method_2_code (3 : Nat) (Option.some Jvm.ClassFile.FieldType.boolean)).before args0 about1 = true := code_word (m := ⟨1, 1⟩) (meth := k1m1) (c := k1c1) (by decide +kernel) rfl rfl rfl (by decide +kernel)
def codes1 : List Jvm.Cond := [Jvm.Cond.code x code maxLocals ret, Jvm.Cond.code ({ cls := "com/example/restate/restate/model/Redline$Mark", name := "<init>", desc := "(II)V" } : Jvm.MethodName) prog_84_method_1_code (3 : Nat) (Option.none : Option Jvm.ClassFile.FieldType), Jvm.Cond.code ({ cls := "java/lang/Object", name := "<init>", desc := "()V" } : Jvm.MethodName) object_method_1_code (1 : Nat) (Option.none : Option Jvm.ClassFile.FieldType), Jvm.Cond.code ({ cls := "com/example/restate/restate/model/Redline$Mark", name := "shownIn", desc := "(I)Z" } : Jvm.MethodName) prog_84_method_6_code (2 : Nat) (Option.some Jvm.ClassFile.FieldType.boolean), Jvm.Cond.code ({ cls := "com/example/restate/restate/model/MarkShownInPinLaw", name := "reads", desc := "(III)Z" } : Jvm.MethodName) method_2_code (3 : Nat) (Option.some Jvm.ClassFile.FieldType.boolean)]
set_option maxRecDepth 65536 in
theorem codes_eq : words1.filter isCode = codes1 := rfl
theorem w_codes : ∀ c ∈ words1.filter isCode, c.before args0 about1 = true := by
  rw [codes_eq]
  intro c hc
  simp only [codes1, List.mem_cons, List.not_mem_nil, or_false] at hc
  rcases hc with rfl | rfl | rfl | rfl | rfl
  · exact w_c0
  · exact w_c1
  · exact w_c2
  · exact w_c3
  · exact w_c4
set_option maxRecDepth 65536 in
theorem w_t1 : (words1.take 24).all (fun c => isCode c || c.before args0 about1) = true := by decide +kernel
set_option maxRecDepth 65536 in
theorem w_t2 : (words1.drop 24).all (fun c => isCode c || c.before args0 about1) = true := by decide +kernel
theorem w_tables : (allAtoms (Jvm.Cond.code x code maxLocals ret :: tables_1)).before args0 about1 = true := by
  rw [allAtoms_all]
  show words1.all (fun c => c.before args0 about1) = true
  refine all_split ?_ w_codes
  rw [← List.take_append_drop 24 words1, List.all_append, w_t1, w_t2]
  rfl
set_option maxRecDepth 65536 in
theorem w_case : (Jvm.Cond.and given_1 narrow_1).before args0 about1 = true := by decide +kernel
theorem w_applies : (headSpec (Jvm.Cond.code x code maxLocals ret :: tables_1) room_1).applies x e0.platform about1 = true :=
  (Spec.applies_iff w_frames).mpr ⟨w_running, w_runnable, w_alone, w_named, w_hears, w_ripe, w_room, w_tables⟩
theorem atStart : AtStart classFile x code maxLocals ret World_1 tables_1 room_1 Calls_1 rest_1 Pre_1 launch0 p0 e0 about1 theMethod args0 below0 :=
  ⟨lists_1, trivial, launch0.admits_env _ _ _, launch0.least_env, fairChoices_fair.cas, fairChoices_fair.clock, w_frames, w_args, w_heap, w_applies, trivial, trivial, w_case⟩
end start1
theorem witness_1 : WitnessClaimed_1 := ⟨start1.p0, start1.e0, start1.about1, start1.theMethod, start1.args0, start1.below0, start1.atStart⟩
end Jvm.Pilot.@@N@@
