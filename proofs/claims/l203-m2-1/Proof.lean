import JvmDerived
import JvmDerived.Pilot.@@N@@Statement
import JvmDerived.Pilot.@@N@@Code
set_option linter.unusedVariables false
set_option linter.unusedSimpArgs false
@@BLOCK:NumsL.lean.txt@@
namespace Jvm.Pilot.@@N@@
open Jvm Jvm.ClassFile Sem Op Lib Jvm.Free Jvm.Stand Jvm.LawKit Jvm.RoadKit Bundle Jvm.Pilot.@@N@@.Jvm.D
/-! the run from a frame on: it ends, and what it leaves -/
def own_F (p : Program) (e : Env) (below : List Frame) (Q : Outcome → State → Prop) (T : State) (g : JFrame) : Prop :=
  ∃ s₂ o, Steps p.tables e below (T.setTop g) s₂ ∧ s₂.status = .running ∧ Ended s₂ below o ∧ Q o s₂
theorem own_go {p : Program} {e : Env} {below : List Frame} {Q : Outcome → State → Prop} {T T' : State} {g g' : JFrame} (st : ∀ target, Steps p.tables e below (T'.setTop g') target → Steps p.tables e below (T.setTop g) target) (k : own_F p e below Q T' g') : own_F p e below Q T g := by
  obtain ⟨s₂, o, h1, h2, h3, h4⟩ := k
  exact ⟨s₂, o, st _ h1, h2, h3, h4⟩
theorem own_goT {p : Program} {e : Env} {below : List Frame} {Q : Outcome → State → Prop} {T T' : State} {g g' : JFrame} (st : Steps p.tables e below (T.setTop g) (T'.setTop g')) (k : own_F p e below Q T' g') : own_F p e below Q T g := by
  obtain ⟨s₂, o, h1, h2, h3, h4⟩ := k
  exact ⟨s₂, o, st.trans h1, h2, h3, h4⟩
theorem own_end {p : Program} {e : Env} {below : List Frame} {Q : Outcome → State → Prop} {T s₂ : State} {g : JFrame} {o : Outcome} (st : Steps p.tables e below (T.setTop g) s₂) (h1 : s₂.status = .running) (h2 : Ended s₂ below o) (h3 : Q o s₂) : own_F p e below Q T g := ⟨s₂, o, st, h1, h2, h3⟩
theorem own_ext_tr {h0 h h' : Heap} (E : Ext h0 h) (E' : Ext h h') : Ext h0 h' := ⟨Nat.le_trans E.1 E'.1, fun a c q => E'.2 a c (E.2 a c q)⟩
theorem own_ext_rf (h : Heap) : Ext h h := ⟨Nat.le_refl _, fun _ _ q => q⟩
theorem own_ext_keep {h0 h h' : Heap} {ws : List Addr} (E : Ext h0 h) (K : Keep h h' ws) (q : ∀ x ∈ ws, h0.size ≤ x) : Ext h0 h' :=
  ⟨Nat.le_trans E.1 K.1, fun a c ha => K.2.1 a c (E.2 a c ha) fun k => absurd (Array.getElem?_eq_some_iff.mp ha).1 (Nat.not_lt.mpr (q a k))⟩
theorem own_ext_wr {h0 h h' : Heap} {a : Addr} {sl : Nat} {v : Value} (E : Ext h0 h) (W : Wr h h' a sl v) (q : h0.size ≤ a) : Ext h0 h' :=
  own_ext_keep E (Keep.of_wr W) fun x hx => by cases List.mem_singleton.mp hx; exact q
theorem own_one {a b : Addr} (h : a ≠ b) : a ∉ [b] := fun q => h (List.mem_singleton.mp q)
theorem own_all1 {n : Nat} {b : Addr} (h : n ≤ b) : ∀ x ∈ [b], n ≤ x := fun x hx => by cases List.mem_singleton.mp hx; exact h
theorem own_all0 {n : Nat} : ∀ x ∈ ([] : List Addr), n ≤ x := fun x hx => nomatch hx
theorem own_lt_t {x y : Int64} (h : x < y) : lcmpW x y < 0 := by rw [lcW]; exact (lc_lt _ _).mpr h
theorem own_lt_f {x y : Int64} (h : ¬ x < y) : ¬ lcmpW x y < 0 := by rw [lcW]; exact fun k => h ((lc_lt _ _).mp k)
theorem own_gt_t {x y : Int64} (h : y < x) : 0 < lcmpW x y := by rw [lcW]; exact (lc_gt _ _).mpr h
theorem own_gt_f {x y : Int64} (h : ¬ y < x) : ¬ 0 < lcmpW x y := by rw [lcW]; exact fun k => h ((lc_gt _ _).mp k)
theorem own_eq_t {x y : Int64} (h : x = y) : lcmpW x y = 0 := by rw [lcW]; exact (lc_eq _ _).mpr h
theorem own_eq_f {x y : Int64} (h : ¬ x = y) : ¬ lcmpW x y = 0 := by rw [lcW]; exact fun k => h ((lc_eq _ _).mp k)
def own_max (u w : Int32) : Int32 := if u < w then w else u
def own_tag (i n : Int32) : Int32 := if n = 1 then 3 else if i = 0 then 0 else if i = n - 1 then 2 else 1
theorem own_mod1 (x : Int32) : x % 1 = 0 := by
  apply Int32.toInt_inj.mp
  rw [Int32.toInt_mod]; show Int.tmod _ 1 = 0; simp
theorem own_nz1 (a : Int32) : (1 : Int32) + (a &&& 3) ≠ 0 := fun h => by
  have h1 : (a &&& 3).toInt = a.toInt % 2 ^ 2 := Jvm.Kit.i32_mask a 3 (k := 2) (by decide) (by decide)
  have h2 : ((1 : Int32) + (a &&& 3)).toInt = (1 : Int32).toInt + (a &&& 3).toInt := Jvm.Kit.i32_add (by show -2 ^ 31 ≤ 1 + _; omega) (by show 1 + _ < 2 ^ 31; omega)
  rw [h] at h2
  have h3 : (0 : Int32).toInt = 0 := rfl
  have h4 : (1 : Int32).toInt = 1 := rfl
  omega
theorem own_nz2 (a : Int32) : own_max 1 (a &&& 2147483647) ≠ 0 := by
  unfold own_max
  split
  · intro h; rename_i h1; rw [h] at h1; exact absurd h1 (by decide)
  · decide
theorem own_end1 {i n : Int32} : i + 1 = n ↔ i = n - 1 := by
  constructor
  · rintro rfl; rw [Int32.add_sub_cancel]
  · rintro rfl; rw [Int32.sub_add_cancel]
theorem own_tag3 {i n : Int32} (hq : n = 1 → i = 0) (h1 : i = 0) (h2 : i + 1 = n) : own_tag i n = 3 := by
  subst h1; have : n = 1 := by rw [← h2]; rfl
  simp [own_tag, this]
theorem own_tag0 {i n : Int32} (hq : n = 1 → i = 0) (h1 : i = 0) (h2 : ¬ i + 1 = n) : own_tag i n = 0 := by
  subst h1; have : ¬ n = 1 := fun h => h2 (by rw [h]; rfl)
  simp [own_tag, this]
theorem own_tag2 {i n : Int32} (hq : n = 1 → i = 0) (h1 : ¬ i = 0) (h2 : i + 1 = n) : own_tag i n = 2 := by
  have : ¬ n = 1 := fun h => h1 (hq h)
  have h3 := own_end1.mp h2
  rw [own_tag, if_neg this, if_neg h1, if_pos h3]
theorem own_tag1 {i n : Int32} (hq : n = 1 → i = 0) (h1 : ¬ i = 0) (h2 : ¬ i + 1 = n) : own_tag i n = 1 := by
  have : ¬ n = 1 := fun h => h1 (hq h)
  have h3 : ¬ i = n - 1 := fun h => h2 (own_end1.mpr h)
  rw [own_tag, if_neg this, if_neg h1, if_neg h3]
theorem own_dM_0 : decode jdk_29_method_65_code 0 = .ok (.iload_n 0, 1) := by decide +kernel
theorem own_dM_1 : decode jdk_29_method_65_code 1 = .ok (.iload_n 1, 1) := by decide +kernel
theorem own_dM_2 : decode jdk_29_method_65_code 2 = .ok (.if_icmp .lt 7, 3) := by decide +kernel
theorem own_dM_5 : decode jdk_29_method_65_code 5 = .ok (.iload_n 0, 1) := by decide +kernel
theorem own_dM_6 : decode jdk_29_method_65_code 6 = .ok (.goto 4, 3) := by decide +kernel
theorem own_dM_9 : decode jdk_29_method_65_code 9 = .ok (.iload_n 1, 1) := by decide +kernel
theorem own_dM_10 : decode jdk_29_method_65_code 10 = .ok (.ireturn, 1) := by decide +kernel
theorem own_efM (m : MethodId) (u : Int32) (w : Int32) : entryFrame m #[(.int u), (.int w)] 2 = mkF m 0 #[.val (.int u), .val (.int w)] [] := by first | (simp [entryFrame, mkF, argsToLocals, Value.category]; done) | rfl
def own_QM (Z : State) (u : Int32) (w : Int32)  (h0 : Heap) (n0 : Nat) (v : Option Value) (h : Heap) (L : List Loc) : Prop := v = some (.int (own_max u w)) ∧ Fr n0 L ∧ h = h0
set_option maxRecDepth 65536 in
set_option maxHeartbeats 40000000 in
theorem own_rM (l : Launch) (Z : State) (a0 : Array Value) (hw : ∀ d ∈ tables_1, d.before a0 Z = true) (ws : List Jvm.Cond) (u : Int32) (w : Int32)  (h0 : Heap) (n0 : Nat) (Z0 : n0 ≤ h0.size) :
    MetFree l (⟨"java/lang/Math", "max", "(II)I"⟩ : MethodName) (head1 (Jvm.Cond.code (⟨"java/lang/Math", "max", "(II)I"⟩ : MethodName) jdk_29_method_65_code 2 (some .int) :: ws) ({ frames := 0, cells := 0, slots := 0, locals := 0 } : Room)) (fun a U => a = #[(.int u), (.int w)] ∧ Z.Warmed39 U.vm ∧ U.heap = h0) (fun _ _ _ _ _ => True) (fun _ U o U' => ∃ v L, o = .returned v ∧ own_QM Z u w h0 n0 v U'.heap L ∧ FrameEnd U o U' L ({ frames := 0, cells := 0, slots := 0, locals := 0 } : Room).cells ({ frames := 0, cells := 0, slots := 0, locals := 0 } : Room).slots) := by
  refine MetFree.of_bodySF (Jvm.Free.JP.mathPlain rfl (by decide +kernel)) hisR ?_
  intro p e s m args below meth c s₁ Bd hml0 hP hK
  obtain ⟨rfl, hZ, hh⟩ := hP
  have hx := Bd.exec
  have hby := Bd.bytes
  have hml : c.maxLocals = 2 := hml0
  have hown : s.vm.findClass "java/lang/Math" = some m.cls := findClass_of_methodNamed Bd.named
  have hnm := (name_of_methodNamed Bd.named Bd.method).1
  have X0 : Stand p l e ({ frames := 0, cells := 0, slots := 0, locals := 0 } : Room) s m #[(.int u), (.int w)] below meth c s₁ [] 0 0 := Stand.of_body Bd
  have e0 : s₁.heap = h0 := by rw [← hh, Bd.state]; rfl
  have N0 := Fr.nil n0
  show own_F p e below (fun o U' => ∃ v L, o = .returned v ∧ own_QM Z u w h0 n0 v U'.heap L ∧ FrameEnd s o U' L ({ frames := 0, cells := 0, slots := 0, locals := 0 } : Room).cells ({ frames := 0, cells := 0, slots := 0, locals := 0 } : Room).slots) s₁ (entryFrame m #[(.int u), (.int w)] 2)
  rw [own_efM m u w]
  refine own_go (T' := s₁) (g' := (mkF m 1 #[.val (.int u), .val (.int w)] [(.int u)])) (fun _ k => XS.iloadN X0.here hx rfl (hb hby own_dM_0) rfl k) ?_
  refine own_go (T' := s₁) (g' := (mkF m 2 #[.val (.int u), .val (.int w)] [(.int w), (.int u)])) (fun _ k => XS.iloadN X0.here hx rfl (hb hby own_dM_1) rfl k) ?_
  by_cases hc2 : u < w
  · refine own_go (T' := s₁) (g' := (mkF m 9 #[.val (.int u), .val (.int w)] [])) (fun _ k => XS.icmpYes X0.here hx rfl (pc0 := 2) (pc' := 9) rfl (hb hby own_dM_2) rfl (tlt (hc2 : u < w)).1 (by decide) (by decide) k) ?_
    refine own_go (T' := s₁) (g' := (mkF m 10 #[.val (.int u), .val (.int w)] [(.int w)])) (fun _ k => XS.iloadN X0.here hx rfl (hb hby own_dM_9) rfl k) ?_
    obtain ⟨fs, hr, hrun, hended, hW, hsame⟩ := X0.leave (v := some (.int w)) (fun h => by rw [Bd.returns] at h; cases h)
    refine own_end (retOut X0 hx Bd.returns rfl (Or.inl ⟨rfl, Or.inl rfl, _, rfl⟩) (hb hby own_dM_10) hr) hrun hended ⟨_, _, rfl, (?_ : own_QM Z u w h0 n0 _ s₁.heap _), ⟨_, rfl⟩, hW, hsame.mono (by decide) (by decide)⟩
    rw [e0]
    exact ⟨by simp [own_max, hc2], N0, rfl⟩
  · refine own_go (T' := s₁) (g' := (mkF m 5 #[.val (.int u), .val (.int w)] [])) (fun _ k => XS.icmpNo X0.here hx rfl (hb hby own_dM_2) rfl (flt (hc2 : ¬ (u < w))).1 k) ?_
    refine own_go (T' := s₁) (g' := (mkF m 6 #[.val (.int u), .val (.int w)] [(.int u)])) (fun _ k => XS.iloadN X0.here hx rfl (hb hby own_dM_5) rfl k) ?_
    refine own_go (T' := s₁) (g' := (mkF m 10 #[.val (.int u), .val (.int w)] [(.int u)])) (fun _ k => XS.goto X0.here hx rfl (pc0 := 6) (pc' := 10) rfl (hb hby own_dM_6) (by decide) (by decide) k) ?_
    obtain ⟨fs, hr, hrun, hended, hW, hsame⟩ := X0.leave (v := some (.int u)) (fun h => by rw [Bd.returns] at h; cases h)
    refine own_end (retOut X0 hx Bd.returns rfl (Or.inl ⟨rfl, Or.inl rfl, _, rfl⟩) (hb hby own_dM_10) hr) hrun hended ⟨_, _, rfl, (?_ : own_QM Z u w h0 n0 _ s₁.heap _), ⟨_, rfl⟩, hW, hsame.mono (by decide) (by decide)⟩
    rw [e0]
    exact ⟨by simp [own_max, hc2], N0, rfl⟩
theorem own_dT_0 : decode prog_19_method_2_code 0 = .ok (.iconst 1, 1) := by decide +kernel
theorem own_dT_1 : decode prog_19_method_2_code 1 = .ok (.istore_n 2, 1) := by decide +kernel
theorem own_dT_2 : decode prog_19_method_2_code 2 = .ok (.iload_n 1, 1) := by decide +kernel
theorem own_dT_3 : decode prog_19_method_2_code 3 = .ok (.iconst 1, 1) := by decide +kernel
theorem own_dT_4 : decode prog_19_method_2_code 4 = .ok (.if_icmp .ne 8, 3) := by decide +kernel
theorem own_dT_7 : decode prog_19_method_2_code 7 = .ok (.iconst 3, 1) := by decide +kernel
theorem own_dT_8 : decode prog_19_method_2_code 8 = .ok (.istore_n 2, 1) := by decide +kernel
theorem own_dT_9 : decode prog_19_method_2_code 9 = .ok (.goto 21, 3) := by decide +kernel
theorem own_dT_12 : decode prog_19_method_2_code 12 = .ok (.iload_n 0, 1) := by decide +kernel
theorem own_dT_13 : decode prog_19_method_2_code 13 = .ok (.ifCond .ne 8, 3) := by decide +kernel
theorem own_dT_16 : decode prog_19_method_2_code 16 = .ok (.iconst 0, 1) := by decide +kernel
theorem own_dT_17 : decode prog_19_method_2_code 17 = .ok (.istore_n 2, 1) := by decide +kernel
theorem own_dT_18 : decode prog_19_method_2_code 18 = .ok (.goto 12, 3) := by decide +kernel
theorem own_dT_21 : decode prog_19_method_2_code 21 = .ok (.iload_n 0, 1) := by decide +kernel
theorem own_dT_22 : decode prog_19_method_2_code 22 = .ok (.iload_n 1, 1) := by decide +kernel
theorem own_dT_23 : decode prog_19_method_2_code 23 = .ok (.iconst 1, 1) := by decide +kernel
theorem own_dT_24 : decode prog_19_method_2_code 24 = .ok (.isub, 1) := by decide +kernel
theorem own_dT_25 : decode prog_19_method_2_code 25 = .ok (.if_icmp .ne 5, 3) := by decide +kernel
theorem own_dT_28 : decode prog_19_method_2_code 28 = .ok (.iconst 2, 1) := by decide +kernel
theorem own_dT_29 : decode prog_19_method_2_code 29 = .ok (.istore_n 2, 1) := by decide +kernel
theorem own_dT_30 : decode prog_19_method_2_code 30 = .ok (.iload_n 2, 1) := by decide +kernel
theorem own_dT_31 : decode prog_19_method_2_code 31 = .ok (.ireturn, 1) := by decide +kernel
theorem own_efT (m : MethodId) (xi : Int32) (xn : Int32) : entryFrame m #[(.int xi), (.int xn)] 3 = mkF m 0 #[.val (.int xi), .val (.int xn), .unset] [] := by first | (simp [entryFrame, mkF, argsToLocals, Value.category]; done) | rfl
def own_QT (Z : State) (xi : Int32) (xn : Int32) (xr : Int32) (h0 : Heap) (n0 : Nat) (v : Option Value) (h : Heap) (L : List Loc) : Prop := v = some (.int xr) ∧ Fr n0 L ∧ h = h0
theorem own_pn0 : plainName "com/example/cilu/cilu/model/CharacterTags" = true := by first | (simp [plainName, overriddenIn]; done) | decide +kernel
set_option maxRecDepth 65536 in
set_option maxHeartbeats 40000000 in
theorem own_rT (l : Launch) (Z : State) (a0 : Array Value) (hw : ∀ d ∈ tables_1, d.before a0 Z = true) (ws : List Jvm.Cond) (xi : Int32) (xn : Int32) (xr : Int32) (h0 : Heap) (n0 : Nat) (Z0 : n0 ≤ h0.size) (hv : own_tag xi xn = xr) :
    MetFree l (⟨"com/example/cilu/cilu/model/CharacterTags", "tag", "(II)I"⟩ : MethodName) (head1 (Jvm.Cond.code (⟨"com/example/cilu/cilu/model/CharacterTags", "tag", "(II)I"⟩ : MethodName) prog_19_method_2_code 3 (some .int) :: ws) ({ frames := 0, cells := 0, slots := 0, locals := 0 } : Room)) (fun a U => a = #[(.int xi), (.int xn)] ∧ Z.Warmed39 U.vm ∧ U.heap = h0) (fun _ _ _ _ _ => True) (fun _ U o U' => ∃ v L, o = .returned v ∧ own_QT Z xi xn xr h0 n0 v U'.heap L ∧ FrameEnd U o U' L ({ frames := 0, cells := 0, slots := 0, locals := 0 } : Room).cells ({ frames := 0, cells := 0, slots := 0, locals := 0 } : Room).slots) := by
  refine MetFree.of_bodySF (plainFor_of_name own_pn0) hisR ?_
  intro p e s m args below meth c s₁ Bd hml0 hP hK
  obtain ⟨rfl, hZ, hh⟩ := hP
  have hx := Bd.exec
  have hby := Bd.bytes
  have hml : c.maxLocals = 3 := hml0
  have hown : s.vm.findClass "com/example/cilu/cilu/model/CharacterTags" = some m.cls := findClass_of_methodNamed Bd.named
  have hnm := (name_of_methodNamed Bd.named Bd.method).1
  have X0 : Stand p l e ({ frames := 0, cells := 0, slots := 0, locals := 0 } : Room) s m #[(.int xi), (.int xn)] below meth c s₁ [] 0 0 := Stand.of_body Bd
  have e0 : s₁.heap = h0 := by rw [← hh, Bd.state]; rfl
  have N0 := Fr.nil n0
  show own_F p e below (fun o U' => ∃ v L, o = .returned v ∧ own_QT Z xi xn xr h0 n0 v U'.heap L ∧ FrameEnd s o U' L ({ frames := 0, cells := 0, slots := 0, locals := 0 } : Room).cells ({ frames := 0, cells := 0, slots := 0, locals := 0 } : Room).slots) s₁ (entryFrame m #[(.int xi), (.int xn)] 3)
  rw [own_efT m xi xn]
  refine own_go (T' := s₁) (g' := (mkF m 1 #[.val (.int xi), .val (.int xn), .unset] [(.int (1 : Int32))])) (fun _ k => XS.iconst X0.here hx rfl (hb hby own_dT_0) k) ?_
  refine own_go (T' := s₁) (g' := (mkF m 2 #[.val (.int xi), .val (.int xn), .val (.int (1 : Int32))] [])) (fun _ k => XS.istoreN X0.here hx rfl (hb hby own_dT_1) rfl (l' := #[.val (.int xi), .val (.int xn), .val (.int (1 : Int32))]) rfl k) ?_
  refine own_go (T' := s₁) (g' := (mkF m 3 #[.val (.int xi), .val (.int xn), .val (.int (1 : Int32))] [(.int xn)])) (fun _ k => XS.iloadN X0.here hx rfl (hb hby own_dT_2) rfl k) ?_
  refine own_go (T' := s₁) (g' := (mkF m 4 #[.val (.int xi), .val (.int xn), .val (.int (1 : Int32))] [(.int (1 : Int32)), (.int xn)])) (fun _ k => XS.iconst X0.here hx rfl (hb hby own_dT_3) k) ?_
  by_cases hc4 : xn = (1 : Int32)
  · refine own_go (T' := s₁) (g' := (mkF m 7 #[.val (.int xi), .val (.int xn), .val (.int (1 : Int32))] [])) (fun _ k => XS.icmpNo X0.here hx rfl (hb hby own_dT_4) rfl (teq (hc4 : xn = (1 : Int32))).2 k) ?_
    refine own_go (T' := s₁) (g' := (mkF m 8 #[.val (.int xi), .val (.int xn), .val (.int (1 : Int32))] [(.int (3 : Int32))])) (fun _ k => XS.iconst X0.here hx rfl (hb hby own_dT_7) k) ?_
    refine own_go (T' := s₁) (g' := (mkF m 9 #[.val (.int xi), .val (.int xn), .val (.int (3 : Int32))] [])) (fun _ k => XS.istoreN X0.here hx rfl (hb hby own_dT_8) rfl (l' := #[.val (.int xi), .val (.int xn), .val (.int (3 : Int32))]) rfl k) ?_
    refine own_go (T' := s₁) (g' := (mkF m 30 #[.val (.int xi), .val (.int xn), .val (.int (3 : Int32))] [])) (fun _ k => XS.goto X0.here hx rfl (pc0 := 9) (pc' := 30) rfl (hb hby own_dT_9) (by decide) (by decide) k) ?_
    refine own_go (T' := s₁) (g' := (mkF m 31 #[.val (.int xi), .val (.int xn), .val (.int (3 : Int32))] [(.int (3 : Int32))])) (fun _ k => XS.iloadN X0.here hx rfl (hb hby own_dT_30) rfl k) ?_
    obtain ⟨fs, hr, hrun, hended, hW, hsame⟩ := X0.leave (v := some (.int (3 : Int32))) (fun h => by rw [Bd.returns] at h; cases h)
    refine own_end (retOut X0 hx Bd.returns rfl (Or.inl ⟨rfl, Or.inl rfl, _, rfl⟩) (hb hby own_dT_31) hr) hrun hended ⟨_, _, rfl, (?_ : own_QT Z xi xn xr h0 n0 _ s₁.heap _), ⟨_, rfl⟩, hW, hsame.mono (by decide) (by decide)⟩
    rw [e0]
    exact ⟨by rw [← hv, own_tag, if_pos hc4], N0, rfl⟩
  · refine own_go (T' := s₁) (g' := (mkF m 12 #[.val (.int xi), .val (.int xn), .val (.int (1 : Int32))] [])) (fun _ k => XS.icmpYes X0.here hx rfl (pc0 := 4) (pc' := 12) rfl (hb hby own_dT_4) rfl (feq (hc4 : ¬ (xn = (1 : Int32)))).2 (by decide) (by decide) k) ?_
    refine own_go (T' := s₁) (g' := (mkF m 13 #[.val (.int xi), .val (.int xn), .val (.int (1 : Int32))] [(.int xi)])) (fun _ k => XS.iloadN X0.here hx rfl (hb hby own_dT_12) rfl k) ?_
    by_cases hc13 : xi = (0 : Int32)
    · refine own_go (T' := s₁) (g' := (mkF m 16 #[.val (.int xi), .val (.int xn), .val (.int (1 : Int32))] [])) (fun _ k => XS.ifNo X0.here hx rfl (hb hby own_dT_13) rfl ((if0 _ _).trans (teq (hc13 : xi = (0 : Int32))).2) k) ?_
      refine own_go (T' := s₁) (g' := (mkF m 17 #[.val (.int xi), .val (.int xn), .val (.int (1 : Int32))] [(.int (0 : Int32))])) (fun _ k => XS.iconst X0.here hx rfl (hb hby own_dT_16) k) ?_
      refine own_go (T' := s₁) (g' := (mkF m 18 #[.val (.int xi), .val (.int xn), .val (.int (0 : Int32))] [])) (fun _ k => XS.istoreN X0.here hx rfl (hb hby own_dT_17) rfl (l' := #[.val (.int xi), .val (.int xn), .val (.int (0 : Int32))]) rfl k) ?_
      refine own_go (T' := s₁) (g' := (mkF m 30 #[.val (.int xi), .val (.int xn), .val (.int (0 : Int32))] [])) (fun _ k => XS.goto X0.here hx rfl (pc0 := 18) (pc' := 30) rfl (hb hby own_dT_18) (by decide) (by decide) k) ?_
      refine own_go (T' := s₁) (g' := (mkF m 31 #[.val (.int xi), .val (.int xn), .val (.int (0 : Int32))] [(.int (0 : Int32))])) (fun _ k => XS.iloadN X0.here hx rfl (hb hby own_dT_30) rfl k) ?_
      obtain ⟨fs, hr, hrun, hended, hW, hsame⟩ := X0.leave (v := some (.int (0 : Int32))) (fun h => by rw [Bd.returns] at h; cases h)
      refine own_end (retOut X0 hx Bd.returns rfl (Or.inl ⟨rfl, Or.inl rfl, _, rfl⟩) (hb hby own_dT_31) hr) hrun hended ⟨_, _, rfl, (?_ : own_QT Z xi xn xr h0 n0 _ s₁.heap _), ⟨_, rfl⟩, hW, hsame.mono (by decide) (by decide)⟩
      rw [e0]
      exact ⟨by rw [← hv, own_tag, if_neg hc4, if_pos hc13], N0, rfl⟩
    · refine own_go (T' := s₁) (g' := (mkF m 21 #[.val (.int xi), .val (.int xn), .val (.int (1 : Int32))] [])) (fun _ k => XS.ifYes X0.here hx rfl (pc0 := 13) (pc' := 21) rfl (hb hby own_dT_13) rfl ((if0 _ _).trans (feq (hc13 : ¬ (xi = (0 : Int32)))).2) (by decide) (by decide) k) ?_
      refine own_go (T' := s₁) (g' := (mkF m 22 #[.val (.int xi), .val (.int xn), .val (.int (1 : Int32))] [(.int xi)])) (fun _ k => XS.iloadN X0.here hx rfl (hb hby own_dT_21) rfl k) ?_
      refine own_go (T' := s₁) (g' := (mkF m 23 #[.val (.int xi), .val (.int xn), .val (.int (1 : Int32))] [(.int xn), (.int xi)])) (fun _ k => XS.iloadN X0.here hx rfl (hb hby own_dT_22) rfl k) ?_
      refine own_go (T' := s₁) (g' := (mkF m 24 #[.val (.int xi), .val (.int xn), .val (.int (1 : Int32))] [(.int (1 : Int32)), (.int xn), (.int xi)])) (fun _ k => XS.iconst X0.here hx rfl (hb hby own_dT_23) k) ?_
      refine own_go (T' := s₁) (g' := (mkF m 25 #[.val (.int xi), .val (.int xn), .val (.int (1 : Int32))] [(.int (xn - (1 : Int32))), (.int xi)])) (fun _ k => XS.isub X0.here hx rfl (hb hby own_dT_24) rfl k) ?_
      by_cases hc25 : xi = (xn - (1 : Int32))
      · refine own_go (T' := s₁) (g' := (mkF m 28 #[.val (.int xi), .val (.int xn), .val (.int (1 : Int32))] [])) (fun _ k => XS.icmpNo X0.here hx rfl (hb hby own_dT_25) rfl (teq (hc25 : xi = (xn - (1 : Int32)))).2 k) ?_
        refine own_go (T' := s₁) (g' := (mkF m 29 #[.val (.int xi), .val (.int xn), .val (.int (1 : Int32))] [(.int (2 : Int32))])) (fun _ k => XS.iconst X0.here hx rfl (hb hby own_dT_28) k) ?_
        refine own_go (T' := s₁) (g' := (mkF m 30 #[.val (.int xi), .val (.int xn), .val (.int (2 : Int32))] [])) (fun _ k => XS.istoreN X0.here hx rfl (hb hby own_dT_29) rfl (l' := #[.val (.int xi), .val (.int xn), .val (.int (2 : Int32))]) rfl k) ?_
        refine own_go (T' := s₁) (g' := (mkF m 31 #[.val (.int xi), .val (.int xn), .val (.int (2 : Int32))] [(.int (2 : Int32))])) (fun _ k => XS.iloadN X0.here hx rfl (hb hby own_dT_30) rfl k) ?_
        obtain ⟨fs, hr, hrun, hended, hW, hsame⟩ := X0.leave (v := some (.int (2 : Int32))) (fun h => by rw [Bd.returns] at h; cases h)
        refine own_end (retOut X0 hx Bd.returns rfl (Or.inl ⟨rfl, Or.inl rfl, _, rfl⟩) (hb hby own_dT_31) hr) hrun hended ⟨_, _, rfl, (?_ : own_QT Z xi xn xr h0 n0 _ s₁.heap _), ⟨_, rfl⟩, hW, hsame.mono (by decide) (by decide)⟩
        rw [e0]
        exact ⟨by rw [← hv, own_tag, if_neg hc4, if_neg hc13, if_pos hc25], N0, rfl⟩
      · refine own_go (T' := s₁) (g' := (mkF m 30 #[.val (.int xi), .val (.int xn), .val (.int (1 : Int32))] [])) (fun _ k => XS.icmpYes X0.here hx rfl (pc0 := 25) (pc' := 30) rfl (hb hby own_dT_25) rfl (feq (hc25 : ¬ (xi = (xn - (1 : Int32))))).2 (by decide) (by decide) k) ?_
        refine own_go (T' := s₁) (g' := (mkF m 31 #[.val (.int xi), .val (.int xn), .val (.int (1 : Int32))] [(.int (1 : Int32))])) (fun _ k => XS.iloadN X0.here hx rfl (hb hby own_dT_30) rfl k) ?_
        obtain ⟨fs, hr, hrun, hended, hW, hsame⟩ := X0.leave (v := some (.int (1 : Int32))) (fun h => by rw [Bd.returns] at h; cases h)
        refine own_end (retOut X0 hx Bd.returns rfl (Or.inl ⟨rfl, Or.inl rfl, _, rfl⟩) (hb hby own_dT_31) hr) hrun hended ⟨_, _, rfl, (?_ : own_QT Z xi xn xr h0 n0 _ s₁.heap _), ⟨_, rfl⟩, hW, hsame.mono (by decide) (by decide)⟩
        rw [e0]
        exact ⟨by rw [← hv, own_tag, if_neg hc4, if_neg hc13, if_neg hc25], N0, rfl⟩
theorem own_pd0 : parseMethodDescriptor "(II)I" = some ⟨[.int, .int], some .int⟩ := by decide +kernel
theorem own_efL (m : MethodId) (xa : Int32) (xb : Int32) (xc : Int32) : entryFrame m #[(.int xa), (.int xb), (.int xc)] maxLocals = mkF m 0 #[.val (.int xa), .val (.int xb), .val (.int xc), .unset, .unset, .unset, .unset, .unset, .unset] [] := by first | (simp [entryFrame, mkF, argsToLocals, Value.category, maxLocals]; done) | rfl
def own_QL (Z : State) (xa : Int32) (xb : Int32) (xc : Int32)  (h0 : Heap) (n0 : Nat) (v : Option Value) (h : Heap) (L : List Loc) : Prop := v = some (.int (1 : Int32)) ∧ Fr n0 L
theorem own_pn1 : plainName "com/example/cilu/cilu/model/CharacterTagsTagPinLaw" = true := by first | (simp [plainName, overriddenIn]; done) | decide +kernel
set_option maxRecDepth 65536 in
set_option maxHeartbeats 40000000 in
theorem own_rL (l : Launch) (Z : State) (a0 : Array Value) (hw : ∀ d ∈ tables_1, d.before a0 Z = true) (ws : List Jvm.Cond) (xa : Int32) (xb : Int32) (xc : Int32)  (h0 : Heap) (n0 : Nat) (Z0 : n0 ≤ h0.size) :
    MetFree l x (head1 (Jvm.Cond.code x code maxLocals ret :: ws) room_1) (fun a U => a = #[(.int xa), (.int xb), (.int xc)] ∧ Z.Warmed39 U.vm ∧ U.heap = h0) (fun _ _ _ _ _ => True) (fun _ U o U' => ∃ v L, o = .returned v ∧ own_QL Z xa xb xc h0 n0 v U'.heap L ∧ FrameEnd U o U' L room_1.cells room_1.slots) := by
  refine MetFree.of_bodySF (plainFor_of_name own_pn1) hisR ?_
  intro p e s m args below meth c s₁ Bd hml0 hP hK
  obtain ⟨rfl, hZ, hh⟩ := hP
  have hx := Bd.exec
  have hby := Bd.bytes
  have hml : c.maxLocals = 9 := hml0
  have hown : s.vm.findClass "com/example/cilu/cilu/model/CharacterTagsTagPinLaw" = some m.cls := findClass_of_methodNamed Bd.named
  have hnm := (name_of_methodNamed Bd.named Bd.method).1
  have X0 : Stand p l e room_1 s m #[(.int xa), (.int xb), (.int xc)] below meth c s₁ [] 0 0 := Stand.of_body Bd
  have e0 : s₁.heap = h0 := by rw [← hh, Bd.state]; rfl
  have N0 := Fr.nil n0
  show own_F p e below (fun o U' => ∃ v L, o = .returned v ∧ own_QL Z xa xb xc h0 n0 v U'.heap L ∧ FrameEnd s o U' L room_1.cells room_1.slots) s₁ (entryFrame m #[(.int xa), (.int xb), (.int xc)] maxLocals)
  rw [own_efL m xa xb xc]
  have tail62 : ∀ (xn : Int32) (xi : Int32) (Tt62 : State) (Lt62 : List Loc) (Xt62 : Stand p l e room_1 s m #[(.int xa), (.int xb), (.int xc)] below meth c Tt62 Lt62 0 0) (et62 : Tt62.heap = h0) (Nt62 : Fr n0 Lt62) (hq : xn = 1 → xi = 0), own_F p e below (fun o U' => ∃ v L, o = .returned v ∧ own_QL Z xa xb xc h0 n0 v U'.heap L ∧ FrameEnd s o U' L room_1.cells room_1.slots) Tt62 (mkF m 62 #[.val (.int xa), .val (.int xb), .val (.int xc), .val (.int xn), .val (.int (xc &&& (3 : Int32))), .val (.int xi), .unset, .unset, .unset] []) := by
    intro xn xi Tt62 Lt62 Xt62 et62 Nt62 hq
    refine own_go (T' := Tt62) (g' := (mkF m 64 #[.val (.int xa), .val (.int xb), .val (.int xc), .val (.int xn), .val (.int (xc &&& (3 : Int32))), .val (.int xi), .unset, .unset, .unset] [(.int xi)])) (fun _ k => XS.iload Xt62.here hx rfl (hb hby at_62) rfl k) ?_
    by_cases hc64 : xi = (0 : Int32)
    · refine own_go (T' := Tt62) (g' := (mkF m 67 #[.val (.int xa), .val (.int xb), .val (.int xc), .val (.int xn), .val (.int (xc &&& (3 : Int32))), .val (.int xi), .unset, .unset, .unset] [])) (fun _ k => XS.ifNo Xt62.here hx rfl (hb hby at_64) rfl ((if0 _ _).trans (teq (hc64 : xi = (0 : Int32))).2) k) ?_
      refine own_go (T' := Tt62) (g' := (mkF m 68 #[.val (.int xa), .val (.int xb), .val (.int xc), .val (.int xn), .val (.int (xc &&& (3 : Int32))), .val (.int xi), .unset, .unset, .unset] [(.int (1 : Int32))])) (fun _ k => XS.iconst Xt62.here hx rfl (hb hby at_67) k) ?_
      refine own_go (T' := Tt62) (g' := (mkF m 72 #[.val (.int xa), .val (.int xb), .val (.int xc), .val (.int xn), .val (.int (xc &&& (3 : Int32))), .val (.int xi), .unset, .unset, .unset] [(.int (1 : Int32))])) (fun _ k => XS.goto Xt62.here hx rfl (pc0 := 68) (pc' := 72) rfl (hb hby at_68) (by decide) (by decide) k) ?_
      refine own_go (T' := Tt62) (g' := (mkF m 74 #[.val (.int xa), .val (.int xb), .val (.int xc), .val (.int xn), .val (.int (xc &&& (3 : Int32))), .val (.int xi), .val (.int (1 : Int32)), .unset, .unset] [])) (fun _ k => XS.istore Xt62.here hx rfl (hb hby at_72) rfl (l' := #[.val (.int xa), .val (.int xb), .val (.int xc), .val (.int xn), .val (.int (xc &&& (3 : Int32))), .val (.int xi), .val (.int (1 : Int32)), .unset, .unset]) rfl k) ?_
      refine own_go (T' := Tt62) (g' := (mkF m 76 #[.val (.int xa), .val (.int xb), .val (.int xc), .val (.int xn), .val (.int (xc &&& (3 : Int32))), .val (.int xi), .val (.int (1 : Int32)), .unset, .unset] [(.int xi)])) (fun _ k => XS.iload Xt62.here hx rfl (hb hby at_74) rfl k) ?_
      refine own_go (T' := Tt62) (g' := (mkF m 77 #[.val (.int xa), .val (.int xb), .val (.int xc), .val (.int xn), .val (.int (xc &&& (3 : Int32))), .val (.int xi), .val (.int (1 : Int32)), .unset, .unset] [(.int (1 : Int32)), (.int xi)])) (fun _ k => XS.iconst Xt62.here hx rfl (hb hby at_76) k) ?_
      refine own_go (T' := Tt62) (g' := (mkF m 78 #[.val (.int xa), .val (.int xb), .val (.int xc), .val (.int xn), .val (.int (xc &&& (3 : Int32))), .val (.int xi), .val (.int (1 : Int32)), .unset, .unset] [(.int (xi + (1 : Int32)))])) (fun _ k => XS.iadd Xt62.here hx rfl (hb hby at_77) rfl k) ?_
      refine own_go (T' := Tt62) (g' := (mkF m 79 #[.val (.int xa), .val (.int xb), .val (.int xc), .val (.int xn), .val (.int (xc &&& (3 : Int32))), .val (.int xi), .val (.int (1 : Int32)), .unset, .unset] [(.int xn), (.int (xi + (1 : Int32)))])) (fun _ k => XS.iloadN Xt62.here hx rfl (hb hby at_78) rfl k) ?_
      by_cases hc79 : (xi + (1 : Int32)) = xn
      · refine own_go (T' := Tt62) (g' := (mkF m 82 #[.val (.int xa), .val (.int xb), .val (.int xc), .val (.int xn), .val (.int (xc &&& (3 : Int32))), .val (.int xi), .val (.int (1 : Int32)), .unset, .unset] [])) (fun _ k => XS.icmpNo Xt62.here hx rfl (hb hby at_79) rfl (teq (hc79 : (xi + (1 : Int32)) = xn)).2 k) ?_
        refine own_go (T' := Tt62) (g' := (mkF m 83 #[.val (.int xa), .val (.int xb), .val (.int xc), .val (.int xn), .val (.int (xc &&& (3 : Int32))), .val (.int xi), .val (.int (1 : Int32)), .unset, .unset] [(.int (1 : Int32))])) (fun _ k => XS.iconst Xt62.here hx rfl (hb hby at_82) k) ?_
        refine own_go (T' := Tt62) (g' := (mkF m 87 #[.val (.int xa), .val (.int xb), .val (.int xc), .val (.int xn), .val (.int (xc &&& (3 : Int32))), .val (.int xi), .val (.int (1 : Int32)), .unset, .unset] [(.int (1 : Int32))])) (fun _ k => XS.goto Xt62.here hx rfl (pc0 := 83) (pc' := 87) rfl (hb hby at_83) (by decide) (by decide) k) ?_
        refine own_go (T' := Tt62) (g' := (mkF m 89 #[.val (.int xa), .val (.int xb), .val (.int xc), .val (.int xn), .val (.int (xc &&& (3 : Int32))), .val (.int xi), .val (.int (1 : Int32)), .val (.int (1 : Int32)), .unset] [])) (fun _ k => XS.istore Xt62.here hx rfl (hb hby at_87) rfl (l' := #[.val (.int xa), .val (.int xb), .val (.int xc), .val (.int xn), .val (.int (xc &&& (3 : Int32))), .val (.int xi), .val (.int (1 : Int32)), .val (.int (1 : Int32)), .unset]) rfl k) ?_
        refine own_go (T' := Tt62) (g' := (mkF m 91 #[.val (.int xa), .val (.int xb), .val (.int xc), .val (.int xn), .val (.int (xc &&& (3 : Int32))), .val (.int xi), .val (.int (1 : Int32)), .val (.int (1 : Int32)), .unset] [(.int (1 : Int32))])) (fun _ k => XS.iload Xt62.here hx rfl (hb hby at_89) rfl k) ?_
        refine own_go (T' := Tt62) (g' := (mkF m 94 #[.val (.int xa), .val (.int xb), .val (.int xc), .val (.int xn), .val (.int (xc &&& (3 : Int32))), .val (.int xi), .val (.int (1 : Int32)), .val (.int (1 : Int32)), .unset] [])) (fun _ k => XS.ifNo Xt62.here hx rfl (hb hby at_91) rfl ((if0 _ _).trans (feq ((by decide) : ¬ ((1 : Int32) = (0 : Int32)))).1) k) ?_
        refine own_go (T' := Tt62) (g' := (mkF m 96 #[.val (.int xa), .val (.int xb), .val (.int xc), .val (.int xn), .val (.int (xc &&& (3 : Int32))), .val (.int xi), .val (.int (1 : Int32)), .val (.int (1 : Int32)), .unset] [(.int (1 : Int32))])) (fun _ k => XS.iload Xt62.here hx rfl (hb hby at_94) rfl k) ?_
        refine own_go (T' := Tt62) (g' := (mkF m 99 #[.val (.int xa), .val (.int xb), .val (.int xc), .val (.int xn), .val (.int (xc &&& (3 : Int32))), .val (.int xi), .val (.int (1 : Int32)), .val (.int (1 : Int32)), .unset] [])) (fun _ k => XS.ifNo Xt62.here hx rfl (hb hby at_96) rfl ((if0 _ _).trans (feq ((by decide) : ¬ ((1 : Int32) = (0 : Int32)))).1) k) ?_
        refine own_go (T' := Tt62) (g' := (mkF m 100 #[.val (.int xa), .val (.int xb), .val (.int xc), .val (.int xn), .val (.int (xc &&& (3 : Int32))), .val (.int xi), .val (.int (1 : Int32)), .val (.int (1 : Int32)), .unset] [(.int (3 : Int32))])) (fun _ k => XS.iconst Xt62.here hx rfl (hb hby at_99) k) ?_
        refine own_go (T' := Tt62) (g' := (mkF m 102 #[.val (.int xa), .val (.int xb), .val (.int xc), .val (.int xn), .val (.int (xc &&& (3 : Int32))), .val (.int xi), .val (.int (1 : Int32)), .val (.int (1 : Int32)), .val (.int (3 : Int32))] [])) (fun _ k => XS.istore Xt62.here hx rfl (hb hby at_100) rfl (l' := #[.val (.int xa), .val (.int xb), .val (.int xc), .val (.int xn), .val (.int (xc &&& (3 : Int32))), .val (.int xi), .val (.int (1 : Int32)), .val (.int (1 : Int32)), .val (.int (3 : Int32))]) rfl k) ?_
        refine own_go (T' := Tt62) (g' := (mkF m 125 #[.val (.int xa), .val (.int xb), .val (.int xc), .val (.int xn), .val (.int (xc &&& (3 : Int32))), .val (.int xi), .val (.int (1 : Int32)), .val (.int (1 : Int32)), .val (.int (3 : Int32))] [])) (fun _ k => XS.goto Xt62.here hx rfl (pc0 := 102) (pc' := 125) rfl (hb hby at_102) (by decide) (by decide) k) ?_
        refine own_go (T' := Tt62) (g' := (mkF m 127 #[.val (.int xa), .val (.int xb), .val (.int xc), .val (.int xn), .val (.int (xc &&& (3 : Int32))), .val (.int xi), .val (.int (1 : Int32)), .val (.int (1 : Int32)), .val (.int (3 : Int32))] [(.int xi)])) (fun _ k => XS.iload Xt62.here hx rfl (hb hby at_125) rfl k) ?_
        refine own_go (T' := Tt62) (g' := (mkF m 128 #[.val (.int xa), .val (.int xb), .val (.int xc), .val (.int xn), .val (.int (xc &&& (3 : Int32))), .val (.int xi), .val (.int (1 : Int32)), .val (.int (1 : Int32)), .val (.int (3 : Int32))] [(.int xn), (.int xi)])) (fun _ k => XS.iloadN Xt62.here hx rfl (hb hby at_127) rfl k) ?_
        obtain ⟨_, _, ⟨T1, L1, k1, n1⟩, -, X1, ⟨Lc1, hQ1, l1, y1, z1⟩, st1⟩ := Jvm.LawKit.callS Xt62 hx (y := (⟨"com/example/cilu/cilu/model/CharacterTags", "tag", "(II)I"⟩ : MethodName)) hown (mvT hZ (hw _ (List.mem_of_getElem? (i := 5) rfl))) (mvT hZ (hw _ (List.mem_of_getElem? (i := 6) rfl))) (mvT hZ (hw _ (List.mem_of_getElem? (i := 7) rfl))) (mvT hZ (hw _ (List.mem_of_getElem? (i := 8) rfl))) (by decide) (backOf (W := 0) (own_rT l Z a0 hw [] xi xn (3 : Int32) h0 n0 Z0 (own_tag3 hq hc64 hc79)) hZ (hw _ (List.mem_of_getElem? (i := 8) rfl)) (hw _ (List.mem_of_getElem? (i := 7) rfl)) (by decide) (by decide)) (g := (mkF m 128 #[.val (.int xa), .val (.int xb), .val (.int xc), .val (.int xn), .val (.int (xc &&& (3 : Int32))), .val (.int xi), .val (.int (1 : Int32)), .val (.int (1 : Int32)), .val (.int (3 : Int32))] [(.int xn), (.int xi)])) rfl (by rw [hml]; rfl) (argsL := [(.int xi), (.int xn)]) (rest := []) (lenOf own_pd0 rfl) rfl (by show 2 * 0 + _ ≤ _; exact Nat.le_of_eq rfl) (hb hby at_128) (fun _ _ => ⟨rfl, et62, (by decide : 0 + 0 ≤ _), (by decide : 0 + 0 ≤ _)⟩)
        dsimp only [Pt.U, Pt.locs, Pt.cells, Pt.slots] at X1 l1 y1 z1 st1 hQ1
        subst l1 y1 z1
        obtain ⟨rfl, N1q, e1⟩ := hQ1
        have N1 := Fr.app Nt62 N1q
        refine own_go (T' := T1) (g' := (mkF m 131 #[.val (.int xa), .val (.int xb), .val (.int xc), .val (.int xn), .val (.int (xc &&& (3 : Int32))), .val (.int xi), .val (.int (1 : Int32)), .val (.int (1 : Int32)), .val (.int (3 : Int32))] [(.int (3 : Int32))])) (fun _ k => st1 _ k) ?_
        refine own_go (T' := T1) (g' := (mkF m 133 #[.val (.int xa), .val (.int xb), .val (.int xc), .val (.int xn), .val (.int (xc &&& (3 : Int32))), .val (.int xi), .val (.int (1 : Int32)), .val (.int (1 : Int32)), .val (.int (3 : Int32))] [(.int (3 : Int32)), (.int (3 : Int32))])) (fun _ k => XS.iload X1.here hx rfl (hb hby at_131) rfl k) ?_
        refine own_go (T' := T1) (g' := (mkF m 136 #[.val (.int xa), .val (.int xb), .val (.int xc), .val (.int xn), .val (.int (xc &&& (3 : Int32))), .val (.int xi), .val (.int (1 : Int32)), .val (.int (1 : Int32)), .val (.int (3 : Int32))] [])) (fun _ k => XS.icmpNo X1.here hx rfl (hb hby at_133) rfl (teq ((by decide) : (3 : Int32) = (3 : Int32))).2 k) ?_
        refine own_go (T' := T1) (g' := (mkF m 137 #[.val (.int xa), .val (.int xb), .val (.int xc), .val (.int xn), .val (.int (xc &&& (3 : Int32))), .val (.int xi), .val (.int (1 : Int32)), .val (.int (1 : Int32)), .val (.int (3 : Int32))] [(.int (1 : Int32))])) (fun _ k => XS.iconst X1.here hx rfl (hb hby at_136) k) ?_
        refine own_go (T' := T1) (g' := (mkF m 141 #[.val (.int xa), .val (.int xb), .val (.int xc), .val (.int xn), .val (.int (xc &&& (3 : Int32))), .val (.int xi), .val (.int (1 : Int32)), .val (.int (1 : Int32)), .val (.int (3 : Int32))] [(.int (1 : Int32))])) (fun _ k => XS.goto X1.here hx rfl (pc0 := 137) (pc' := 141) rfl (hb hby at_137) (by decide) (by decide) k) ?_
        obtain ⟨fs, hr, hrun, hended, hW, hsame⟩ := X1.leave (v := some (.int (1 : Int32))) (fun h => by rw [Bd.returns] at h; cases h)
        refine own_end (retN X1 hx (t := .boolean) Bd.returns (by simp) (hb hby at_141) hr) hrun hended ⟨_, _, rfl, (?_ : own_QL Z xa xb xc h0 n0 _ T1.heap _), ⟨_, rfl⟩, hW, hsame.mono (by decide) (by decide)⟩
        rw [e1]
        exact ⟨rfl, N1⟩
      · refine own_go (T' := Tt62) (g' := (mkF m 86 #[.val (.int xa), .val (.int xb), .val (.int xc), .val (.int xn), .val (.int (xc &&& (3 : Int32))), .val (.int xi), .val (.int (1 : Int32)), .unset, .unset] [])) (fun _ k => XS.icmpYes Xt62.here hx rfl (pc0 := 79) (pc' := 86) rfl (hb hby at_79) rfl (feq (hc79 : ¬ ((xi + (1 : Int32)) = xn))).2 (by decide) (by decide) k) ?_
        refine own_go (T' := Tt62) (g' := (mkF m 87 #[.val (.int xa), .val (.int xb), .val (.int xc), .val (.int xn), .val (.int (xc &&& (3 : Int32))), .val (.int xi), .val (.int (1 : Int32)), .unset, .unset] [(.int (0 : Int32))])) (fun _ k => XS.iconst Xt62.here hx rfl (hb hby at_86) k) ?_
        refine own_go (T' := Tt62) (g' := (mkF m 89 #[.val (.int xa), .val (.int xb), .val (.int xc), .val (.int xn), .val (.int (xc &&& (3 : Int32))), .val (.int xi), .val (.int (1 : Int32)), .val (.int (0 : Int32)), .unset] [])) (fun _ k => XS.istore Xt62.here hx rfl (hb hby at_87) rfl (l' := #[.val (.int xa), .val (.int xb), .val (.int xc), .val (.int xn), .val (.int (xc &&& (3 : Int32))), .val (.int xi), .val (.int (1 : Int32)), .val (.int (0 : Int32)), .unset]) rfl k) ?_
        refine own_go (T' := Tt62) (g' := (mkF m 91 #[.val (.int xa), .val (.int xb), .val (.int xc), .val (.int xn), .val (.int (xc &&& (3 : Int32))), .val (.int xi), .val (.int (1 : Int32)), .val (.int (0 : Int32)), .unset] [(.int (1 : Int32))])) (fun _ k => XS.iload Xt62.here hx rfl (hb hby at_89) rfl k) ?_
        refine own_go (T' := Tt62) (g' := (mkF m 94 #[.val (.int xa), .val (.int xb), .val (.int xc), .val (.int xn), .val (.int (xc &&& (3 : Int32))), .val (.int xi), .val (.int (1 : Int32)), .val (.int (0 : Int32)), .unset] [])) (fun _ k => XS.ifNo Xt62.here hx rfl (hb hby at_91) rfl ((if0 _ _).trans (feq ((by decide) : ¬ ((1 : Int32) = (0 : Int32)))).1) k) ?_
        refine own_go (T' := Tt62) (g' := (mkF m 96 #[.val (.int xa), .val (.int xb), .val (.int xc), .val (.int xn), .val (.int (xc &&& (3 : Int32))), .val (.int xi), .val (.int (1 : Int32)), .val (.int (0 : Int32)), .unset] [(.int (0 : Int32))])) (fun _ k => XS.iload Xt62.here hx rfl (hb hby at_94) rfl k) ?_
        refine own_go (T' := Tt62) (g' := (mkF m 105 #[.val (.int xa), .val (.int xb), .val (.int xc), .val (.int xn), .val (.int (xc &&& (3 : Int32))), .val (.int xi), .val (.int (1 : Int32)), .val (.int (0 : Int32)), .unset] [])) (fun _ k => XS.ifYes Xt62.here hx rfl (pc0 := 96) (pc' := 105) rfl (hb hby at_96) rfl ((if0 _ _).trans (teq ((by decide) : (0 : Int32) = (0 : Int32))).1) (by decide) (by decide) k) ?_
        refine own_go (T' := Tt62) (g' := (mkF m 106 #[.val (.int xa), .val (.int xb), .val (.int xc), .val (.int xn), .val (.int (xc &&& (3 : Int32))), .val (.int xi), .val (.int (1 : Int32)), .val (.int (0 : Int32)), .unset] [(.int (0 : Int32))])) (fun _ k => XS.iconst Xt62.here hx rfl (hb hby at_105) k) ?_
        refine own_go (T' := Tt62) (g' := (mkF m 108 #[.val (.int xa), .val (.int xb), .val (.int xc), .val (.int xn), .val (.int (xc &&& (3 : Int32))), .val (.int xi), .val (.int (1 : Int32)), .val (.int (0 : Int32)), .val (.int (0 : Int32))] [])) (fun _ k => XS.istore Xt62.here hx rfl (hb hby at_106) rfl (l' := #[.val (.int xa), .val (.int xb), .val (.int xc), .val (.int xn), .val (.int (xc &&& (3 : Int32))), .val (.int xi), .val (.int (1 : Int32)), .val (.int (0 : Int32)), .val (.int (0 : Int32))]) rfl k) ?_
        refine own_go (T' := Tt62) (g' := (mkF m 125 #[.val (.int xa), .val (.int xb), .val (.int xc), .val (.int xn), .val (.int (xc &&& (3 : Int32))), .val (.int xi), .val (.int (1 : Int32)), .val (.int (0 : Int32)), .val (.int (0 : Int32))] [])) (fun _ k => XS.goto Xt62.here hx rfl (pc0 := 108) (pc' := 125) rfl (hb hby at_108) (by decide) (by decide) k) ?_
        refine own_go (T' := Tt62) (g' := (mkF m 127 #[.val (.int xa), .val (.int xb), .val (.int xc), .val (.int xn), .val (.int (xc &&& (3 : Int32))), .val (.int xi), .val (.int (1 : Int32)), .val (.int (0 : Int32)), .val (.int (0 : Int32))] [(.int xi)])) (fun _ k => XS.iload Xt62.here hx rfl (hb hby at_125) rfl k) ?_
        refine own_go (T' := Tt62) (g' := (mkF m 128 #[.val (.int xa), .val (.int xb), .val (.int xc), .val (.int xn), .val (.int (xc &&& (3 : Int32))), .val (.int xi), .val (.int (1 : Int32)), .val (.int (0 : Int32)), .val (.int (0 : Int32))] [(.int xn), (.int xi)])) (fun _ k => XS.iloadN Xt62.here hx rfl (hb hby at_127) rfl k) ?_
        obtain ⟨_, _, ⟨T2, L2, k2, n2⟩, -, X2, ⟨Lc2, hQ2, l2, y2, z2⟩, st2⟩ := Jvm.LawKit.callS Xt62 hx (y := (⟨"com/example/cilu/cilu/model/CharacterTags", "tag", "(II)I"⟩ : MethodName)) hown (mvT hZ (hw _ (List.mem_of_getElem? (i := 5) rfl))) (mvT hZ (hw _ (List.mem_of_getElem? (i := 6) rfl))) (mvT hZ (hw _ (List.mem_of_getElem? (i := 7) rfl))) (mvT hZ (hw _ (List.mem_of_getElem? (i := 8) rfl))) (by decide) (backOf (W := 0) (own_rT l Z a0 hw [] xi xn (0 : Int32) h0 n0 Z0 (own_tag0 hq hc64 hc79)) hZ (hw _ (List.mem_of_getElem? (i := 8) rfl)) (hw _ (List.mem_of_getElem? (i := 7) rfl)) (by decide) (by decide)) (g := (mkF m 128 #[.val (.int xa), .val (.int xb), .val (.int xc), .val (.int xn), .val (.int (xc &&& (3 : Int32))), .val (.int xi), .val (.int (1 : Int32)), .val (.int (0 : Int32)), .val (.int (0 : Int32))] [(.int xn), (.int xi)])) rfl (by rw [hml]; rfl) (argsL := [(.int xi), (.int xn)]) (rest := []) (lenOf own_pd0 rfl) rfl (by show 2 * 0 + _ ≤ _; exact Nat.le_of_eq rfl) (hb hby at_128) (fun _ _ => ⟨rfl, et62, (by decide : 0 + 0 ≤ _), (by decide : 0 + 0 ≤ _)⟩)
        dsimp only [Pt.U, Pt.locs, Pt.cells, Pt.slots] at X2 l2 y2 z2 st2 hQ2
        subst l2 y2 z2
        obtain ⟨rfl, N2q, e2⟩ := hQ2
        have N2 := Fr.app Nt62 N2q
        refine own_go (T' := T2) (g' := (mkF m 131 #[.val (.int xa), .val (.int xb), .val (.int xc), .val (.int xn), .val (.int (xc &&& (3 : Int32))), .val (.int xi), .val (.int (1 : Int32)), .val (.int (0 : Int32)), .val (.int (0 : Int32))] [(.int (0 : Int32))])) (fun _ k => st2 _ k) ?_
        refine own_go (T' := T2) (g' := (mkF m 133 #[.val (.int xa), .val (.int xb), .val (.int xc), .val (.int xn), .val (.int (xc &&& (3 : Int32))), .val (.int xi), .val (.int (1 : Int32)), .val (.int (0 : Int32)), .val (.int (0 : Int32))] [(.int (0 : Int32)), (.int (0 : Int32))])) (fun _ k => XS.iload X2.here hx rfl (hb hby at_131) rfl k) ?_
        refine own_go (T' := T2) (g' := (mkF m 136 #[.val (.int xa), .val (.int xb), .val (.int xc), .val (.int xn), .val (.int (xc &&& (3 : Int32))), .val (.int xi), .val (.int (1 : Int32)), .val (.int (0 : Int32)), .val (.int (0 : Int32))] [])) (fun _ k => XS.icmpNo X2.here hx rfl (hb hby at_133) rfl (teq ((by decide) : (0 : Int32) = (0 : Int32))).2 k) ?_
        refine own_go (T' := T2) (g' := (mkF m 137 #[.val (.int xa), .val (.int xb), .val (.int xc), .val (.int xn), .val (.int (xc &&& (3 : Int32))), .val (.int xi), .val (.int (1 : Int32)), .val (.int (0 : Int32)), .val (.int (0 : Int32))] [(.int (1 : Int32))])) (fun _ k => XS.iconst X2.here hx rfl (hb hby at_136) k) ?_
        refine own_go (T' := T2) (g' := (mkF m 141 #[.val (.int xa), .val (.int xb), .val (.int xc), .val (.int xn), .val (.int (xc &&& (3 : Int32))), .val (.int xi), .val (.int (1 : Int32)), .val (.int (0 : Int32)), .val (.int (0 : Int32))] [(.int (1 : Int32))])) (fun _ k => XS.goto X2.here hx rfl (pc0 := 137) (pc' := 141) rfl (hb hby at_137) (by decide) (by decide) k) ?_
        obtain ⟨fs, hr, hrun, hended, hW, hsame⟩ := X2.leave (v := some (.int (1 : Int32))) (fun h => by rw [Bd.returns] at h; cases h)
        refine own_end (retN X2 hx (t := .boolean) Bd.returns (by simp) (hb hby at_141) hr) hrun hended ⟨_, _, rfl, (?_ : own_QL Z xa xb xc h0 n0 _ T2.heap _), ⟨_, rfl⟩, hW, hsame.mono (by decide) (by decide)⟩
        rw [e2]
        exact ⟨rfl, N2⟩
    · refine own_go (T' := Tt62) (g' := (mkF m 71 #[.val (.int xa), .val (.int xb), .val (.int xc), .val (.int xn), .val (.int (xc &&& (3 : Int32))), .val (.int xi), .unset, .unset, .unset] [])) (fun _ k => XS.ifYes Xt62.here hx rfl (pc0 := 64) (pc' := 71) rfl (hb hby at_64) rfl ((if0 _ _).trans (feq (hc64 : ¬ (xi = (0 : Int32)))).2) (by decide) (by decide) k) ?_
      refine own_go (T' := Tt62) (g' := (mkF m 72 #[.val (.int xa), .val (.int xb), .val (.int xc), .val (.int xn), .val (.int (xc &&& (3 : Int32))), .val (.int xi), .unset, .unset, .unset] [(.int (0 : Int32))])) (fun _ k => XS.iconst Xt62.here hx rfl (hb hby at_71) k) ?_
      refine own_go (T' := Tt62) (g' := (mkF m 74 #[.val (.int xa), .val (.int xb), .val (.int xc), .val (.int xn), .val (.int (xc &&& (3 : Int32))), .val (.int xi), .val (.int (0 : Int32)), .unset, .unset] [])) (fun _ k => XS.istore Xt62.here hx rfl (hb hby at_72) rfl (l' := #[.val (.int xa), .val (.int xb), .val (.int xc), .val (.int xn), .val (.int (xc &&& (3 : Int32))), .val (.int xi), .val (.int (0 : Int32)), .unset, .unset]) rfl k) ?_
      refine own_go (T' := Tt62) (g' := (mkF m 76 #[.val (.int xa), .val (.int xb), .val (.int xc), .val (.int xn), .val (.int (xc &&& (3 : Int32))), .val (.int xi), .val (.int (0 : Int32)), .unset, .unset] [(.int xi)])) (fun _ k => XS.iload Xt62.here hx rfl (hb hby at_74) rfl k) ?_
      refine own_go (T' := Tt62) (g' := (mkF m 77 #[.val (.int xa), .val (.int xb), .val (.int xc), .val (.int xn), .val (.int (xc &&& (3 : Int32))), .val (.int xi), .val (.int (0 : Int32)), .unset, .unset] [(.int (1 : Int32)), (.int xi)])) (fun _ k => XS.iconst Xt62.here hx rfl (hb hby at_76) k) ?_
      refine own_go (T' := Tt62) (g' := (mkF m 78 #[.val (.int xa), .val (.int xb), .val (.int xc), .val (.int xn), .val (.int (xc &&& (3 : Int32))), .val (.int xi), .val (.int (0 : Int32)), .unset, .unset] [(.int (xi + (1 : Int32)))])) (fun _ k => XS.iadd Xt62.here hx rfl (hb hby at_77) rfl k) ?_
      refine own_go (T' := Tt62) (g' := (mkF m 79 #[.val (.int xa), .val (.int xb), .val (.int xc), .val (.int xn), .val (.int (xc &&& (3 : Int32))), .val (.int xi), .val (.int (0 : Int32)), .unset, .unset] [(.int xn), (.int (xi + (1 : Int32)))])) (fun _ k => XS.iloadN Xt62.here hx rfl (hb hby at_78) rfl k) ?_
      by_cases hc79 : (xi + (1 : Int32)) = xn
      · refine own_go (T' := Tt62) (g' := (mkF m 82 #[.val (.int xa), .val (.int xb), .val (.int xc), .val (.int xn), .val (.int (xc &&& (3 : Int32))), .val (.int xi), .val (.int (0 : Int32)), .unset, .unset] [])) (fun _ k => XS.icmpNo Xt62.here hx rfl (hb hby at_79) rfl (teq (hc79 : (xi + (1 : Int32)) = xn)).2 k) ?_
        refine own_go (T' := Tt62) (g' := (mkF m 83 #[.val (.int xa), .val (.int xb), .val (.int xc), .val (.int xn), .val (.int (xc &&& (3 : Int32))), .val (.int xi), .val (.int (0 : Int32)), .unset, .unset] [(.int (1 : Int32))])) (fun _ k => XS.iconst Xt62.here hx rfl (hb hby at_82) k) ?_
        refine own_go (T' := Tt62) (g' := (mkF m 87 #[.val (.int xa), .val (.int xb), .val (.int xc), .val (.int xn), .val (.int (xc &&& (3 : Int32))), .val (.int xi), .val (.int (0 : Int32)), .unset, .unset] [(.int (1 : Int32))])) (fun _ k => XS.goto Xt62.here hx rfl (pc0 := 83) (pc' := 87) rfl (hb hby at_83) (by decide) (by decide) k) ?_
        refine own_go (T' := Tt62) (g' := (mkF m 89 #[.val (.int xa), .val (.int xb), .val (.int xc), .val (.int xn), .val (.int (xc &&& (3 : Int32))), .val (.int xi), .val (.int (0 : Int32)), .val (.int (1 : Int32)), .unset] [])) (fun _ k => XS.istore Xt62.here hx rfl (hb hby at_87) rfl (l' := #[.val (.int xa), .val (.int xb), .val (.int xc), .val (.int xn), .val (.int (xc &&& (3 : Int32))), .val (.int xi), .val (.int (0 : Int32)), .val (.int (1 : Int32)), .unset]) rfl k) ?_
        refine own_go (T' := Tt62) (g' := (mkF m 91 #[.val (.int xa), .val (.int xb), .val (.int xc), .val (.int xn), .val (.int (xc &&& (3 : Int32))), .val (.int xi), .val (.int (0 : Int32)), .val (.int (1 : Int32)), .unset] [(.int (0 : Int32))])) (fun _ k => XS.iload Xt62.here hx rfl (hb hby at_89) rfl k) ?_
        refine own_go (T' := Tt62) (g' := (mkF m 111 #[.val (.int xa), .val (.int xb), .val (.int xc), .val (.int xn), .val (.int (xc &&& (3 : Int32))), .val (.int xi), .val (.int (0 : Int32)), .val (.int (1 : Int32)), .unset] [])) (fun _ k => XS.ifYes Xt62.here hx rfl (pc0 := 91) (pc' := 111) rfl (hb hby at_91) rfl ((if0 _ _).trans (teq ((by decide) : (0 : Int32) = (0 : Int32))).1) (by decide) (by decide) k) ?_
        refine own_go (T' := Tt62) (g' := (mkF m 113 #[.val (.int xa), .val (.int xb), .val (.int xc), .val (.int xn), .val (.int (xc &&& (3 : Int32))), .val (.int xi), .val (.int (0 : Int32)), .val (.int (1 : Int32)), .unset] [(.int (1 : Int32))])) (fun _ k => XS.iload Xt62.here hx rfl (hb hby at_111) rfl k) ?_
        refine own_go (T' := Tt62) (g' := (mkF m 116 #[.val (.int xa), .val (.int xb), .val (.int xc), .val (.int xn), .val (.int (xc &&& (3 : Int32))), .val (.int xi), .val (.int (0 : Int32)), .val (.int (1 : Int32)), .unset] [])) (fun _ k => XS.ifNo Xt62.here hx rfl (hb hby at_113) rfl ((if0 _ _).trans (feq ((by decide) : ¬ ((1 : Int32) = (0 : Int32)))).1) k) ?_
        refine own_go (T' := Tt62) (g' := (mkF m 117 #[.val (.int xa), .val (.int xb), .val (.int xc), .val (.int xn), .val (.int (xc &&& (3 : Int32))), .val (.int xi), .val (.int (0 : Int32)), .val (.int (1 : Int32)), .unset] [(.int (2 : Int32))])) (fun _ k => XS.iconst Xt62.here hx rfl (hb hby at_116) k) ?_
        refine own_go (T' := Tt62) (g' := (mkF m 119 #[.val (.int xa), .val (.int xb), .val (.int xc), .val (.int xn), .val (.int (xc &&& (3 : Int32))), .val (.int xi), .val (.int (0 : Int32)), .val (.int (1 : Int32)), .val (.int (2 : Int32))] [])) (fun _ k => XS.istore Xt62.here hx rfl (hb hby at_117) rfl (l' := #[.val (.int xa), .val (.int xb), .val (.int xc), .val (.int xn), .val (.int (xc &&& (3 : Int32))), .val (.int xi), .val (.int (0 : Int32)), .val (.int (1 : Int32)), .val (.int (2 : Int32))]) rfl k) ?_
        refine own_go (T' := Tt62) (g' := (mkF m 125 #[.val (.int xa), .val (.int xb), .val (.int xc), .val (.int xn), .val (.int (xc &&& (3 : Int32))), .val (.int xi), .val (.int (0 : Int32)), .val (.int (1 : Int32)), .val (.int (2 : Int32))] [])) (fun _ k => XS.goto Xt62.here hx rfl (pc0 := 119) (pc' := 125) rfl (hb hby at_119) (by decide) (by decide) k) ?_
        refine own_go (T' := Tt62) (g' := (mkF m 127 #[.val (.int xa), .val (.int xb), .val (.int xc), .val (.int xn), .val (.int (xc &&& (3 : Int32))), .val (.int xi), .val (.int (0 : Int32)), .val (.int (1 : Int32)), .val (.int (2 : Int32))] [(.int xi)])) (fun _ k => XS.iload Xt62.here hx rfl (hb hby at_125) rfl k) ?_
        refine own_go (T' := Tt62) (g' := (mkF m 128 #[.val (.int xa), .val (.int xb), .val (.int xc), .val (.int xn), .val (.int (xc &&& (3 : Int32))), .val (.int xi), .val (.int (0 : Int32)), .val (.int (1 : Int32)), .val (.int (2 : Int32))] [(.int xn), (.int xi)])) (fun _ k => XS.iloadN Xt62.here hx rfl (hb hby at_127) rfl k) ?_
        obtain ⟨_, _, ⟨T3, L3, k3, n3⟩, -, X3, ⟨Lc3, hQ3, l3, y3, z3⟩, st3⟩ := Jvm.LawKit.callS Xt62 hx (y := (⟨"com/example/cilu/cilu/model/CharacterTags", "tag", "(II)I"⟩ : MethodName)) hown (mvT hZ (hw _ (List.mem_of_getElem? (i := 5) rfl))) (mvT hZ (hw _ (List.mem_of_getElem? (i := 6) rfl))) (mvT hZ (hw _ (List.mem_of_getElem? (i := 7) rfl))) (mvT hZ (hw _ (List.mem_of_getElem? (i := 8) rfl))) (by decide) (backOf (W := 0) (own_rT l Z a0 hw [] xi xn (2 : Int32) h0 n0 Z0 (own_tag2 hq hc64 hc79)) hZ (hw _ (List.mem_of_getElem? (i := 8) rfl)) (hw _ (List.mem_of_getElem? (i := 7) rfl)) (by decide) (by decide)) (g := (mkF m 128 #[.val (.int xa), .val (.int xb), .val (.int xc), .val (.int xn), .val (.int (xc &&& (3 : Int32))), .val (.int xi), .val (.int (0 : Int32)), .val (.int (1 : Int32)), .val (.int (2 : Int32))] [(.int xn), (.int xi)])) rfl (by rw [hml]; rfl) (argsL := [(.int xi), (.int xn)]) (rest := []) (lenOf own_pd0 rfl) rfl (by show 2 * 0 + _ ≤ _; exact Nat.le_of_eq rfl) (hb hby at_128) (fun _ _ => ⟨rfl, et62, (by decide : 0 + 0 ≤ _), (by decide : 0 + 0 ≤ _)⟩)
        dsimp only [Pt.U, Pt.locs, Pt.cells, Pt.slots] at X3 l3 y3 z3 st3 hQ3
        subst l3 y3 z3
        obtain ⟨rfl, N3q, e3⟩ := hQ3
        have N3 := Fr.app Nt62 N3q
        refine own_go (T' := T3) (g' := (mkF m 131 #[.val (.int xa), .val (.int xb), .val (.int xc), .val (.int xn), .val (.int (xc &&& (3 : Int32))), .val (.int xi), .val (.int (0 : Int32)), .val (.int (1 : Int32)), .val (.int (2 : Int32))] [(.int (2 : Int32))])) (fun _ k => st3 _ k) ?_
        refine own_go (T' := T3) (g' := (mkF m 133 #[.val (.int xa), .val (.int xb), .val (.int xc), .val (.int xn), .val (.int (xc &&& (3 : Int32))), .val (.int xi), .val (.int (0 : Int32)), .val (.int (1 : Int32)), .val (.int (2 : Int32))] [(.int (2 : Int32)), (.int (2 : Int32))])) (fun _ k => XS.iload X3.here hx rfl (hb hby at_131) rfl k) ?_
        refine own_go (T' := T3) (g' := (mkF m 136 #[.val (.int xa), .val (.int xb), .val (.int xc), .val (.int xn), .val (.int (xc &&& (3 : Int32))), .val (.int xi), .val (.int (0 : Int32)), .val (.int (1 : Int32)), .val (.int (2 : Int32))] [])) (fun _ k => XS.icmpNo X3.here hx rfl (hb hby at_133) rfl (teq ((by decide) : (2 : Int32) = (2 : Int32))).2 k) ?_
        refine own_go (T' := T3) (g' := (mkF m 137 #[.val (.int xa), .val (.int xb), .val (.int xc), .val (.int xn), .val (.int (xc &&& (3 : Int32))), .val (.int xi), .val (.int (0 : Int32)), .val (.int (1 : Int32)), .val (.int (2 : Int32))] [(.int (1 : Int32))])) (fun _ k => XS.iconst X3.here hx rfl (hb hby at_136) k) ?_
        refine own_go (T' := T3) (g' := (mkF m 141 #[.val (.int xa), .val (.int xb), .val (.int xc), .val (.int xn), .val (.int (xc &&& (3 : Int32))), .val (.int xi), .val (.int (0 : Int32)), .val (.int (1 : Int32)), .val (.int (2 : Int32))] [(.int (1 : Int32))])) (fun _ k => XS.goto X3.here hx rfl (pc0 := 137) (pc' := 141) rfl (hb hby at_137) (by decide) (by decide) k) ?_
        obtain ⟨fs, hr, hrun, hended, hW, hsame⟩ := X3.leave (v := some (.int (1 : Int32))) (fun h => by rw [Bd.returns] at h; cases h)
        refine own_end (retN X3 hx (t := .boolean) Bd.returns (by simp) (hb hby at_141) hr) hrun hended ⟨_, _, rfl, (?_ : own_QL Z xa xb xc h0 n0 _ T3.heap _), ⟨_, rfl⟩, hW, hsame.mono (by decide) (by decide)⟩
        rw [e3]
        exact ⟨rfl, N3⟩
      · refine own_go (T' := Tt62) (g' := (mkF m 86 #[.val (.int xa), .val (.int xb), .val (.int xc), .val (.int xn), .val (.int (xc &&& (3 : Int32))), .val (.int xi), .val (.int (0 : Int32)), .unset, .unset] [])) (fun _ k => XS.icmpYes Xt62.here hx rfl (pc0 := 79) (pc' := 86) rfl (hb hby at_79) rfl (feq (hc79 : ¬ ((xi + (1 : Int32)) = xn))).2 (by decide) (by decide) k) ?_
        refine own_go (T' := Tt62) (g' := (mkF m 87 #[.val (.int xa), .val (.int xb), .val (.int xc), .val (.int xn), .val (.int (xc &&& (3 : Int32))), .val (.int xi), .val (.int (0 : Int32)), .unset, .unset] [(.int (0 : Int32))])) (fun _ k => XS.iconst Xt62.here hx rfl (hb hby at_86) k) ?_
        refine own_go (T' := Tt62) (g' := (mkF m 89 #[.val (.int xa), .val (.int xb), .val (.int xc), .val (.int xn), .val (.int (xc &&& (3 : Int32))), .val (.int xi), .val (.int (0 : Int32)), .val (.int (0 : Int32)), .unset] [])) (fun _ k => XS.istore Xt62.here hx rfl (hb hby at_87) rfl (l' := #[.val (.int xa), .val (.int xb), .val (.int xc), .val (.int xn), .val (.int (xc &&& (3 : Int32))), .val (.int xi), .val (.int (0 : Int32)), .val (.int (0 : Int32)), .unset]) rfl k) ?_
        refine own_go (T' := Tt62) (g' := (mkF m 91 #[.val (.int xa), .val (.int xb), .val (.int xc), .val (.int xn), .val (.int (xc &&& (3 : Int32))), .val (.int xi), .val (.int (0 : Int32)), .val (.int (0 : Int32)), .unset] [(.int (0 : Int32))])) (fun _ k => XS.iload Xt62.here hx rfl (hb hby at_89) rfl k) ?_
        refine own_go (T' := Tt62) (g' := (mkF m 111 #[.val (.int xa), .val (.int xb), .val (.int xc), .val (.int xn), .val (.int (xc &&& (3 : Int32))), .val (.int xi), .val (.int (0 : Int32)), .val (.int (0 : Int32)), .unset] [])) (fun _ k => XS.ifYes Xt62.here hx rfl (pc0 := 91) (pc' := 111) rfl (hb hby at_91) rfl ((if0 _ _).trans (teq ((by decide) : (0 : Int32) = (0 : Int32))).1) (by decide) (by decide) k) ?_
        refine own_go (T' := Tt62) (g' := (mkF m 113 #[.val (.int xa), .val (.int xb), .val (.int xc), .val (.int xn), .val (.int (xc &&& (3 : Int32))), .val (.int xi), .val (.int (0 : Int32)), .val (.int (0 : Int32)), .unset] [(.int (0 : Int32))])) (fun _ k => XS.iload Xt62.here hx rfl (hb hby at_111) rfl k) ?_
        refine own_go (T' := Tt62) (g' := (mkF m 122 #[.val (.int xa), .val (.int xb), .val (.int xc), .val (.int xn), .val (.int (xc &&& (3 : Int32))), .val (.int xi), .val (.int (0 : Int32)), .val (.int (0 : Int32)), .unset] [])) (fun _ k => XS.ifYes Xt62.here hx rfl (pc0 := 113) (pc' := 122) rfl (hb hby at_113) rfl ((if0 _ _).trans (teq ((by decide) : (0 : Int32) = (0 : Int32))).1) (by decide) (by decide) k) ?_
        refine own_go (T' := Tt62) (g' := (mkF m 123 #[.val (.int xa), .val (.int xb), .val (.int xc), .val (.int xn), .val (.int (xc &&& (3 : Int32))), .val (.int xi), .val (.int (0 : Int32)), .val (.int (0 : Int32)), .unset] [(.int (1 : Int32))])) (fun _ k => XS.iconst Xt62.here hx rfl (hb hby at_122) k) ?_
        refine own_go (T' := Tt62) (g' := (mkF m 125 #[.val (.int xa), .val (.int xb), .val (.int xc), .val (.int xn), .val (.int (xc &&& (3 : Int32))), .val (.int xi), .val (.int (0 : Int32)), .val (.int (0 : Int32)), .val (.int (1 : Int32))] [])) (fun _ k => XS.istore Xt62.here hx rfl (hb hby at_123) rfl (l' := #[.val (.int xa), .val (.int xb), .val (.int xc), .val (.int xn), .val (.int (xc &&& (3 : Int32))), .val (.int xi), .val (.int (0 : Int32)), .val (.int (0 : Int32)), .val (.int (1 : Int32))]) rfl k) ?_
        refine own_go (T' := Tt62) (g' := (mkF m 127 #[.val (.int xa), .val (.int xb), .val (.int xc), .val (.int xn), .val (.int (xc &&& (3 : Int32))), .val (.int xi), .val (.int (0 : Int32)), .val (.int (0 : Int32)), .val (.int (1 : Int32))] [(.int xi)])) (fun _ k => XS.iload Xt62.here hx rfl (hb hby at_125) rfl k) ?_
        refine own_go (T' := Tt62) (g' := (mkF m 128 #[.val (.int xa), .val (.int xb), .val (.int xc), .val (.int xn), .val (.int (xc &&& (3 : Int32))), .val (.int xi), .val (.int (0 : Int32)), .val (.int (0 : Int32)), .val (.int (1 : Int32))] [(.int xn), (.int xi)])) (fun _ k => XS.iloadN Xt62.here hx rfl (hb hby at_127) rfl k) ?_
        obtain ⟨_, _, ⟨T4, L4, k4, n4⟩, -, X4, ⟨Lc4, hQ4, l4, y4, z4⟩, st4⟩ := Jvm.LawKit.callS Xt62 hx (y := (⟨"com/example/cilu/cilu/model/CharacterTags", "tag", "(II)I"⟩ : MethodName)) hown (mvT hZ (hw _ (List.mem_of_getElem? (i := 5) rfl))) (mvT hZ (hw _ (List.mem_of_getElem? (i := 6) rfl))) (mvT hZ (hw _ (List.mem_of_getElem? (i := 7) rfl))) (mvT hZ (hw _ (List.mem_of_getElem? (i := 8) rfl))) (by decide) (backOf (W := 0) (own_rT l Z a0 hw [] xi xn (1 : Int32) h0 n0 Z0 (own_tag1 hq hc64 hc79)) hZ (hw _ (List.mem_of_getElem? (i := 8) rfl)) (hw _ (List.mem_of_getElem? (i := 7) rfl)) (by decide) (by decide)) (g := (mkF m 128 #[.val (.int xa), .val (.int xb), .val (.int xc), .val (.int xn), .val (.int (xc &&& (3 : Int32))), .val (.int xi), .val (.int (0 : Int32)), .val (.int (0 : Int32)), .val (.int (1 : Int32))] [(.int xn), (.int xi)])) rfl (by rw [hml]; rfl) (argsL := [(.int xi), (.int xn)]) (rest := []) (lenOf own_pd0 rfl) rfl (by show 2 * 0 + _ ≤ _; exact Nat.le_of_eq rfl) (hb hby at_128) (fun _ _ => ⟨rfl, et62, (by decide : 0 + 0 ≤ _), (by decide : 0 + 0 ≤ _)⟩)
        dsimp only [Pt.U, Pt.locs, Pt.cells, Pt.slots] at X4 l4 y4 z4 st4 hQ4
        subst l4 y4 z4
        obtain ⟨rfl, N4q, e4⟩ := hQ4
        have N4 := Fr.app Nt62 N4q
        refine own_go (T' := T4) (g' := (mkF m 131 #[.val (.int xa), .val (.int xb), .val (.int xc), .val (.int xn), .val (.int (xc &&& (3 : Int32))), .val (.int xi), .val (.int (0 : Int32)), .val (.int (0 : Int32)), .val (.int (1 : Int32))] [(.int (1 : Int32))])) (fun _ k => st4 _ k) ?_
        refine own_go (T' := T4) (g' := (mkF m 133 #[.val (.int xa), .val (.int xb), .val (.int xc), .val (.int xn), .val (.int (xc &&& (3 : Int32))), .val (.int xi), .val (.int (0 : Int32)), .val (.int (0 : Int32)), .val (.int (1 : Int32))] [(.int (1 : Int32)), (.int (1 : Int32))])) (fun _ k => XS.iload X4.here hx rfl (hb hby at_131) rfl k) ?_
        refine own_go (T' := T4) (g' := (mkF m 136 #[.val (.int xa), .val (.int xb), .val (.int xc), .val (.int xn), .val (.int (xc &&& (3 : Int32))), .val (.int xi), .val (.int (0 : Int32)), .val (.int (0 : Int32)), .val (.int (1 : Int32))] [])) (fun _ k => XS.icmpNo X4.here hx rfl (hb hby at_133) rfl (teq ((by decide) : (1 : Int32) = (1 : Int32))).2 k) ?_
        refine own_go (T' := T4) (g' := (mkF m 137 #[.val (.int xa), .val (.int xb), .val (.int xc), .val (.int xn), .val (.int (xc &&& (3 : Int32))), .val (.int xi), .val (.int (0 : Int32)), .val (.int (0 : Int32)), .val (.int (1 : Int32))] [(.int (1 : Int32))])) (fun _ k => XS.iconst X4.here hx rfl (hb hby at_136) k) ?_
        refine own_go (T' := T4) (g' := (mkF m 141 #[.val (.int xa), .val (.int xb), .val (.int xc), .val (.int xn), .val (.int (xc &&& (3 : Int32))), .val (.int xi), .val (.int (0 : Int32)), .val (.int (0 : Int32)), .val (.int (1 : Int32))] [(.int (1 : Int32))])) (fun _ k => XS.goto X4.here hx rfl (pc0 := 137) (pc' := 141) rfl (hb hby at_137) (by decide) (by decide) k) ?_
        obtain ⟨fs, hr, hrun, hended, hW, hsame⟩ := X4.leave (v := some (.int (1 : Int32))) (fun h => by rw [Bd.returns] at h; cases h)
        refine own_end (retN X4 hx (t := .boolean) Bd.returns (by simp) (hb hby at_141) hr) hrun hended ⟨_, _, rfl, (?_ : own_QL Z xa xb xc h0 n0 _ T4.heap _), ⟨_, rfl⟩, hW, hsame.mono (by decide) (by decide)⟩
        rw [e4]
        exact ⟨rfl, N4⟩
  refine own_go (T' := s₁) (g' := (mkF m 1 #[.val (.int xa), .val (.int xb), .val (.int xc), .unset, .unset, .unset, .unset, .unset, .unset] [(.int xc)])) (fun _ k => XS.iloadN X0.here hx rfl (hb hby at_0) rfl k) ?_
  refine own_go (T' := s₁) (g' := (mkF m 2 #[.val (.int xa), .val (.int xb), .val (.int xc), .unset, .unset, .unset, .unset, .unset, .unset] [(.int (4 : Int32)), (.int xc)])) (fun _ k => XS.iconst X0.here hx rfl (hb hby at_1) k) ?_
  refine own_go (T' := s₁) (g' := (mkF m 3 #[.val (.int xa), .val (.int xb), .val (.int xc), .unset, .unset, .unset, .unset, .unset, .unset] [(.int (xc &&& (4 : Int32)))])) (fun _ k => XS.iand X0.here hx rfl (hb hby at_2) rfl k) ?_
  by_cases hc3 : (xc &&& (4 : Int32)) = (0 : Int32)
  · refine own_go (T' := s₁) (g' := (mkF m 15 #[.val (.int xa), .val (.int xb), .val (.int xc), .unset, .unset, .unset, .unset, .unset, .unset] [])) (fun _ k => XS.ifYes X0.here hx rfl (pc0 := 3) (pc' := 15) rfl (hb hby at_3) rfl ((if0 _ _).trans (teq (hc3 : (xc &&& (4 : Int32)) = (0 : Int32))).1) (by decide) (by decide) k) ?_
    refine own_go (T' := s₁) (g' := (mkF m 16 #[.val (.int xa), .val (.int xb), .val (.int xc), .unset, .unset, .unset, .unset, .unset, .unset] [(.int (1 : Int32))])) (fun _ k => XS.iconst X0.here hx rfl (hb hby at_15) k) ?_
    refine own_go (T' := s₁) (g' := (mkF m 17 #[.val (.int xa), .val (.int xb), .val (.int xc), .unset, .unset, .unset, .unset, .unset, .unset] [(.int xa), (.int (1 : Int32))])) (fun _ k => XS.iloadN X0.here hx rfl (hb hby at_16) rfl k) ?_
    refine own_go (T' := s₁) (g' := (mkF m 19 #[.val (.int xa), .val (.int xb), .val (.int xc), .unset, .unset, .unset, .unset, .unset, .unset] [(.int (2147483647 : Int32)), (.int xa), (.int (1 : Int32))])) (fun _ k => X0.ldcInt hx hown (mvT hZ (hw _ (List.mem_of_getElem? (i := 0) rfl))) (g := (mkF m 17 #[.val (.int xa), .val (.int xb), .val (.int xc), .unset, .unset, .unset, .unset, .unset, .unset] [(.int xa), (.int (1 : Int32))])) rfl (hb hby at_17) _ k) ?_
    refine own_go (T' := s₁) (g' := (mkF m 20 #[.val (.int xa), .val (.int xb), .val (.int xc), .unset, .unset, .unset, .unset, .unset, .unset] [(.int (xa &&& (2147483647 : Int32))), (.int (1 : Int32))])) (fun _ k => XS.iand X0.here hx rfl (hb hby at_19) rfl k) ?_
    obtain ⟨_, _, ⟨T5, L5, k5, n5⟩, -, X5, ⟨Lc5, hQ5, l5, y5, z5⟩, st5⟩ := Jvm.LawKit.callS X0 hx (y := (⟨"java/lang/Math", "max", "(II)I"⟩ : MethodName)) hown (mvT hZ (hw _ (List.mem_of_getElem? (i := 1) rfl))) (mvT hZ (hw _ (List.mem_of_getElem? (i := 2) rfl))) (mvT hZ (hw _ (List.mem_of_getElem? (i := 3) rfl))) (mvT hZ (hw _ (List.mem_of_getElem? (i := 4) rfl))) (by decide) (backOf (W := 0) (own_rM l Z a0 hw [] (1 : Int32) (xa &&& (2147483647 : Int32)) h0 n0 Z0 ) hZ (hw _ (List.mem_of_getElem? (i := 4) rfl)) (hw _ (List.mem_of_getElem? (i := 3) rfl)) (by decide) (by decide)) (g := (mkF m 20 #[.val (.int xa), .val (.int xb), .val (.int xc), .unset, .unset, .unset, .unset, .unset, .unset] [(.int (xa &&& (2147483647 : Int32))), (.int (1 : Int32))])) rfl (by rw [hml]; rfl) (argsL := [(.int (1 : Int32)), (.int (xa &&& (2147483647 : Int32)))]) (rest := []) (lenOf own_pd0 rfl) rfl (by show 2 * 0 + _ ≤ _; exact Nat.le_of_eq rfl) (hb hby at_20) (fun _ _ => ⟨rfl, e0, (by decide : 0 + 0 ≤ _), (by decide : 0 + 0 ≤ _)⟩)
    dsimp only [Pt.U, Pt.locs, Pt.cells, Pt.slots] at X5 l5 y5 z5 st5 hQ5
    subst l5 y5 z5
    obtain ⟨rfl, N5q, e5⟩ := hQ5
    have N5 := Fr.app N0 N5q
    refine own_go (T' := T5) (g' := (mkF m 23 #[.val (.int xa), .val (.int xb), .val (.int xc), .unset, .unset, .unset, .unset, .unset, .unset] [(.int (own_max (1 : Int32) (xa &&& (2147483647 : Int32))))])) (fun _ k => st5 _ k) ?_
    refine own_go (T' := T5) (g' := (mkF m 24 #[.val (.int xa), .val (.int xb), .val (.int xc), .val (.int (own_max (1 : Int32) (xa &&& (2147483647 : Int32)))), .unset, .unset, .unset, .unset, .unset] [])) (fun _ k => XS.istoreN X5.here hx rfl (hb hby at_23) rfl (l' := #[.val (.int xa), .val (.int xb), .val (.int xc), .val (.int (own_max (1 : Int32) (xa &&& (2147483647 : Int32)))), .unset, .unset, .unset, .unset, .unset]) rfl k) ?_
    refine own_go (T' := T5) (g' := (mkF m 25 #[.val (.int xa), .val (.int xb), .val (.int xc), .val (.int (own_max (1 : Int32) (xa &&& (2147483647 : Int32)))), .unset, .unset, .unset, .unset, .unset] [(.int xc)])) (fun _ k => XS.iloadN X5.here hx rfl (hb hby at_24) rfl k) ?_
    refine own_go (T' := T5) (g' := (mkF m 26 #[.val (.int xa), .val (.int xb), .val (.int xc), .val (.int (own_max (1 : Int32) (xa &&& (2147483647 : Int32)))), .unset, .unset, .unset, .unset, .unset] [(.int (3 : Int32)), (.int xc)])) (fun _ k => XS.iconst X5.here hx rfl (hb hby at_25) k) ?_
    refine own_go (T' := T5) (g' := (mkF m 27 #[.val (.int xa), .val (.int xb), .val (.int xc), .val (.int (own_max (1 : Int32) (xa &&& (2147483647 : Int32)))), .unset, .unset, .unset, .unset, .unset] [(.int (xc &&& (3 : Int32)))])) (fun _ k => XS.iand X5.here hx rfl (hb hby at_26) rfl k) ?_
    refine own_go (T' := T5) (g' := (mkF m 29 #[.val (.int xa), .val (.int xb), .val (.int xc), .val (.int (own_max (1 : Int32) (xa &&& (2147483647 : Int32)))), .val (.int (xc &&& (3 : Int32))), .unset, .unset, .unset, .unset] [])) (fun _ k => XS.istore X5.here hx rfl (hb hby at_27) rfl (l' := #[.val (.int xa), .val (.int xb), .val (.int xc), .val (.int (own_max (1 : Int32) (xa &&& (2147483647 : Int32)))), .val (.int (xc &&& (3 : Int32))), .unset, .unset, .unset, .unset]) rfl k) ?_
    refine own_go (T' := T5) (g' := (mkF m 31 #[.val (.int xa), .val (.int xb), .val (.int xc), .val (.int (own_max (1 : Int32) (xa &&& (2147483647 : Int32)))), .val (.int (xc &&& (3 : Int32))), .unset, .unset, .unset, .unset] [(.int (xc &&& (3 : Int32)))])) (fun _ k => XS.iload X5.here hx rfl (hb hby at_29) rfl k) ?_
    by_cases hc31 : (xc &&& (3 : Int32)) = (0 : Int32)
    · refine own_go (T' := T5) (g' := (mkF m 34 #[.val (.int xa), .val (.int xb), .val (.int xc), .val (.int (own_max (1 : Int32) (xa &&& (2147483647 : Int32)))), .val (.int (xc &&& (3 : Int32))), .unset, .unset, .unset, .unset] [])) (fun _ k => XS.ifNo X5.here hx rfl (hb hby at_31) rfl ((if0 _ _).trans (teq (hc31 : (xc &&& (3 : Int32)) = (0 : Int32))).2) k) ?_
      refine own_go (T' := T5) (g' := (mkF m 35 #[.val (.int xa), .val (.int xb), .val (.int xc), .val (.int (own_max (1 : Int32) (xa &&& (2147483647 : Int32)))), .val (.int (xc &&& (3 : Int32))), .unset, .unset, .unset, .unset] [(.int (0 : Int32))])) (fun _ k => XS.iconst X5.here hx rfl (hb hby at_34) k) ?_
      refine own_go (T' := T5) (g' := (mkF m 37 #[.val (.int xa), .val (.int xb), .val (.int xc), .val (.int (own_max (1 : Int32) (xa &&& (2147483647 : Int32)))), .val (.int (xc &&& (3 : Int32))), .val (.int (0 : Int32)), .unset, .unset, .unset] [])) (fun _ k => XS.istore X5.here hx rfl (hb hby at_35) rfl (l' := #[.val (.int xa), .val (.int xb), .val (.int xc), .val (.int (own_max (1 : Int32) (xa &&& (2147483647 : Int32)))), .val (.int (xc &&& (3 : Int32))), .val (.int (0 : Int32)), .unset, .unset, .unset]) rfl k) ?_
      refine own_go (T' := T5) (g' := (mkF m 62 #[.val (.int xa), .val (.int xb), .val (.int xc), .val (.int (own_max (1 : Int32) (xa &&& (2147483647 : Int32)))), .val (.int (xc &&& (3 : Int32))), .val (.int (0 : Int32)), .unset, .unset, .unset] [])) (fun _ k => XS.goto X5.here hx rfl (pc0 := 37) (pc' := 62) rfl (hb hby at_37) (by decide) (by decide) k) ?_
      exact tail62 (own_max (1 : Int32) (xa &&& (2147483647 : Int32))) (0 : Int32) T5 _ X5 e5 N5 (fun _ => rfl)
    · refine own_go (T' := T5) (g' := (mkF m 40 #[.val (.int xa), .val (.int xb), .val (.int xc), .val (.int (own_max (1 : Int32) (xa &&& (2147483647 : Int32)))), .val (.int (xc &&& (3 : Int32))), .unset, .unset, .unset, .unset] [])) (fun _ k => XS.ifYes X5.here hx rfl (pc0 := 31) (pc' := 40) rfl (hb hby at_31) rfl ((if0 _ _).trans (feq (hc31 : ¬ ((xc &&& (3 : Int32)) = (0 : Int32)))).2) (by decide) (by decide) k) ?_
      refine own_go (T' := T5) (g' := (mkF m 42 #[.val (.int xa), .val (.int xb), .val (.int xc), .val (.int (own_max (1 : Int32) (xa &&& (2147483647 : Int32)))), .val (.int (xc &&& (3 : Int32))), .unset, .unset, .unset, .unset] [(.int (xc &&& (3 : Int32)))])) (fun _ k => XS.iload X5.here hx rfl (hb hby at_40) rfl k) ?_
      refine own_go (T' := T5) (g' := (mkF m 43 #[.val (.int xa), .val (.int xb), .val (.int xc), .val (.int (own_max (1 : Int32) (xa &&& (2147483647 : Int32)))), .val (.int (xc &&& (3 : Int32))), .unset, .unset, .unset, .unset] [(.int (1 : Int32)), (.int (xc &&& (3 : Int32)))])) (fun _ k => XS.iconst X5.here hx rfl (hb hby at_42) k) ?_
      by_cases hc43 : (xc &&& (3 : Int32)) = (1 : Int32)
      · refine own_go (T' := T5) (g' := (mkF m 46 #[.val (.int xa), .val (.int xb), .val (.int xc), .val (.int (own_max (1 : Int32) (xa &&& (2147483647 : Int32)))), .val (.int (xc &&& (3 : Int32))), .unset, .unset, .unset, .unset] [])) (fun _ k => XS.icmpNo X5.here hx rfl (hb hby at_43) rfl (teq (hc43 : (xc &&& (3 : Int32)) = (1 : Int32))).2 k) ?_
        refine own_go (T' := T5) (g' := (mkF m 47 #[.val (.int xa), .val (.int xb), .val (.int xc), .val (.int (own_max (1 : Int32) (xa &&& (2147483647 : Int32)))), .val (.int (xc &&& (3 : Int32))), .unset, .unset, .unset, .unset] [(.int (own_max (1 : Int32) (xa &&& (2147483647 : Int32))))])) (fun _ k => XS.iloadN X5.here hx rfl (hb hby at_46) rfl k) ?_
        refine own_go (T' := T5) (g' := (mkF m 48 #[.val (.int xa), .val (.int xb), .val (.int xc), .val (.int (own_max (1 : Int32) (xa &&& (2147483647 : Int32)))), .val (.int (xc &&& (3 : Int32))), .unset, .unset, .unset, .unset] [(.int (1 : Int32)), (.int (own_max (1 : Int32) (xa &&& (2147483647 : Int32))))])) (fun _ k => XS.iconst X5.here hx rfl (hb hby at_47) k) ?_
        refine own_go (T' := T5) (g' := (mkF m 49 #[.val (.int xa), .val (.int xb), .val (.int xc), .val (.int (own_max (1 : Int32) (xa &&& (2147483647 : Int32)))), .val (.int (xc &&& (3 : Int32))), .unset, .unset, .unset, .unset] [(.int ((own_max (1 : Int32) (xa &&& (2147483647 : Int32))) - (1 : Int32)))])) (fun _ k => XS.isub X5.here hx rfl (hb hby at_48) rfl k) ?_
        refine own_go (T' := T5) (g' := (mkF m 51 #[.val (.int xa), .val (.int xb), .val (.int xc), .val (.int (own_max (1 : Int32) (xa &&& (2147483647 : Int32)))), .val (.int (xc &&& (3 : Int32))), .val (.int ((own_max (1 : Int32) (xa &&& (2147483647 : Int32))) - (1 : Int32))), .unset, .unset, .unset] [])) (fun _ k => XS.istore X5.here hx rfl (hb hby at_49) rfl (l' := #[.val (.int xa), .val (.int xb), .val (.int xc), .val (.int (own_max (1 : Int32) (xa &&& (2147483647 : Int32)))), .val (.int (xc &&& (3 : Int32))), .val (.int ((own_max (1 : Int32) (xa &&& (2147483647 : Int32))) - (1 : Int32))), .unset, .unset, .unset]) rfl k) ?_
        refine own_go (T' := T5) (g' := (mkF m 62 #[.val (.int xa), .val (.int xb), .val (.int xc), .val (.int (own_max (1 : Int32) (xa &&& (2147483647 : Int32)))), .val (.int (xc &&& (3 : Int32))), .val (.int ((own_max (1 : Int32) (xa &&& (2147483647 : Int32))) - (1 : Int32))), .unset, .unset, .unset] [])) (fun _ k => XS.goto X5.here hx rfl (pc0 := 51) (pc' := 62) rfl (hb hby at_51) (by decide) (by decide) k) ?_
        exact tail62 (own_max (1 : Int32) (xa &&& (2147483647 : Int32))) ((own_max (1 : Int32) (xa &&& (2147483647 : Int32))) - (1 : Int32)) T5 _ X5 e5 N5 (fun h => by rw [h]; rfl)
      · refine own_go (T' := T5) (g' := (mkF m 54 #[.val (.int xa), .val (.int xb), .val (.int xc), .val (.int (own_max (1 : Int32) (xa &&& (2147483647 : Int32)))), .val (.int (xc &&& (3 : Int32))), .unset, .unset, .unset, .unset] [])) (fun _ k => XS.icmpYes X5.here hx rfl (pc0 := 43) (pc' := 54) rfl (hb hby at_43) rfl (feq (hc43 : ¬ ((xc &&& (3 : Int32)) = (1 : Int32)))).2 (by decide) (by decide) k) ?_
        refine own_go (T' := T5) (g' := (mkF m 55 #[.val (.int xa), .val (.int xb), .val (.int xc), .val (.int (own_max (1 : Int32) (xa &&& (2147483647 : Int32)))), .val (.int (xc &&& (3 : Int32))), .unset, .unset, .unset, .unset] [(.int xb)])) (fun _ k => XS.iloadN X5.here hx rfl (hb hby at_54) rfl k) ?_
        refine own_go (T' := T5) (g' := (mkF m 57 #[.val (.int xa), .val (.int xb), .val (.int xc), .val (.int (own_max (1 : Int32) (xa &&& (2147483647 : Int32)))), .val (.int (xc &&& (3 : Int32))), .unset, .unset, .unset, .unset] [(.int (2147483647 : Int32)), (.int xb)])) (fun _ k => X5.ldcInt hx hown (mvT hZ (hw _ (List.mem_of_getElem? (i := 0) rfl))) (g := (mkF m 55 #[.val (.int xa), .val (.int xb), .val (.int xc), .val (.int (own_max (1 : Int32) (xa &&& (2147483647 : Int32)))), .val (.int (xc &&& (3 : Int32))), .unset, .unset, .unset, .unset] [(.int xb)])) rfl (hb hby at_55) _ k) ?_
        refine own_go (T' := T5) (g' := (mkF m 58 #[.val (.int xa), .val (.int xb), .val (.int xc), .val (.int (own_max (1 : Int32) (xa &&& (2147483647 : Int32)))), .val (.int (xc &&& (3 : Int32))), .unset, .unset, .unset, .unset] [(.int (xb &&& (2147483647 : Int32)))])) (fun _ k => XS.iand X5.here hx rfl (hb hby at_57) rfl k) ?_
        refine own_go (T' := T5) (g' := (mkF m 59 #[.val (.int xa), .val (.int xb), .val (.int xc), .val (.int (own_max (1 : Int32) (xa &&& (2147483647 : Int32)))), .val (.int (xc &&& (3 : Int32))), .unset, .unset, .unset, .unset] [(.int (own_max (1 : Int32) (xa &&& (2147483647 : Int32)))), (.int (xb &&& (2147483647 : Int32)))])) (fun _ k => XS.iloadN X5.here hx rfl (hb hby at_58) rfl k) ?_
        refine own_go (T' := T5) (g' := (mkF m 60 #[.val (.int xa), .val (.int xb), .val (.int xc), .val (.int (own_max (1 : Int32) (xa &&& (2147483647 : Int32)))), .val (.int (xc &&& (3 : Int32))), .unset, .unset, .unset, .unset] [(.int ((xb &&& (2147483647 : Int32)) % (own_max (1 : Int32) (xa &&& (2147483647 : Int32)))))])) (fun _ k => iremM X5 hx rfl (hb hby at_59) rfl (own_nz2 xa) k) ?_
        refine own_go (T' := T5) (g' := (mkF m 62 #[.val (.int xa), .val (.int xb), .val (.int xc), .val (.int (own_max (1 : Int32) (xa &&& (2147483647 : Int32)))), .val (.int (xc &&& (3 : Int32))), .val (.int ((xb &&& (2147483647 : Int32)) % (own_max (1 : Int32) (xa &&& (2147483647 : Int32))))), .unset, .unset, .unset] [])) (fun _ k => XS.istore X5.here hx rfl (hb hby at_60) rfl (l' := #[.val (.int xa), .val (.int xb), .val (.int xc), .val (.int (own_max (1 : Int32) (xa &&& (2147483647 : Int32)))), .val (.int (xc &&& (3 : Int32))), .val (.int ((xb &&& (2147483647 : Int32)) % (own_max (1 : Int32) (xa &&& (2147483647 : Int32))))), .unset, .unset, .unset]) rfl k) ?_
        exact tail62 (own_max (1 : Int32) (xa &&& (2147483647 : Int32))) ((xb &&& (2147483647 : Int32)) % (own_max (1 : Int32) (xa &&& (2147483647 : Int32)))) T5 _ X5 e5 N5 (fun h => by rw [h]; exact own_mod1 _)
  · refine own_go (T' := s₁) (g' := (mkF m 6 #[.val (.int xa), .val (.int xb), .val (.int xc), .unset, .unset, .unset, .unset, .unset, .unset] [])) (fun _ k => XS.ifNo X0.here hx rfl (hb hby at_3) rfl ((if0 _ _).trans (feq (hc3 : ¬ ((xc &&& (4 : Int32)) = (0 : Int32)))).1) k) ?_
    refine own_go (T' := s₁) (g' := (mkF m 7 #[.val (.int xa), .val (.int xb), .val (.int xc), .unset, .unset, .unset, .unset, .unset, .unset] [(.int (1 : Int32))])) (fun _ k => XS.iconst X0.here hx rfl (hb hby at_6) k) ?_
    refine own_go (T' := s₁) (g' := (mkF m 8 #[.val (.int xa), .val (.int xb), .val (.int xc), .unset, .unset, .unset, .unset, .unset, .unset] [(.int xa), (.int (1 : Int32))])) (fun _ k => XS.iloadN X0.here hx rfl (hb hby at_7) rfl k) ?_
    refine own_go (T' := s₁) (g' := (mkF m 9 #[.val (.int xa), .val (.int xb), .val (.int xc), .unset, .unset, .unset, .unset, .unset, .unset] [(.int (3 : Int32)), (.int xa), (.int (1 : Int32))])) (fun _ k => XS.iconst X0.here hx rfl (hb hby at_8) k) ?_
    refine own_go (T' := s₁) (g' := (mkF m 10 #[.val (.int xa), .val (.int xb), .val (.int xc), .unset, .unset, .unset, .unset, .unset, .unset] [(.int (xa &&& (3 : Int32))), (.int (1 : Int32))])) (fun _ k => XS.iand X0.here hx rfl (hb hby at_9) rfl k) ?_
    refine own_go (T' := s₁) (g' := (mkF m 11 #[.val (.int xa), .val (.int xb), .val (.int xc), .unset, .unset, .unset, .unset, .unset, .unset] [(.int ((1 : Int32) + (xa &&& (3 : Int32))))])) (fun _ k => XS.iadd X0.here hx rfl (hb hby at_10) rfl k) ?_
    refine own_go (T' := s₁) (g' := (mkF m 12 #[.val (.int xa), .val (.int xb), .val (.int xc), .val (.int ((1 : Int32) + (xa &&& (3 : Int32)))), .unset, .unset, .unset, .unset, .unset] [])) (fun _ k => XS.istoreN X0.here hx rfl (hb hby at_11) rfl (l' := #[.val (.int xa), .val (.int xb), .val (.int xc), .val (.int ((1 : Int32) + (xa &&& (3 : Int32)))), .unset, .unset, .unset, .unset, .unset]) rfl k) ?_
    refine own_go (T' := s₁) (g' := (mkF m 24 #[.val (.int xa), .val (.int xb), .val (.int xc), .val (.int ((1 : Int32) + (xa &&& (3 : Int32)))), .unset, .unset, .unset, .unset, .unset] [])) (fun _ k => XS.goto X0.here hx rfl (pc0 := 12) (pc' := 24) rfl (hb hby at_12) (by decide) (by decide) k) ?_
    refine own_go (T' := s₁) (g' := (mkF m 25 #[.val (.int xa), .val (.int xb), .val (.int xc), .val (.int ((1 : Int32) + (xa &&& (3 : Int32)))), .unset, .unset, .unset, .unset, .unset] [(.int xc)])) (fun _ k => XS.iloadN X0.here hx rfl (hb hby at_24) rfl k) ?_
    refine own_go (T' := s₁) (g' := (mkF m 26 #[.val (.int xa), .val (.int xb), .val (.int xc), .val (.int ((1 : Int32) + (xa &&& (3 : Int32)))), .unset, .unset, .unset, .unset, .unset] [(.int (3 : Int32)), (.int xc)])) (fun _ k => XS.iconst X0.here hx rfl (hb hby at_25) k) ?_
    refine own_go (T' := s₁) (g' := (mkF m 27 #[.val (.int xa), .val (.int xb), .val (.int xc), .val (.int ((1 : Int32) + (xa &&& (3 : Int32)))), .unset, .unset, .unset, .unset, .unset] [(.int (xc &&& (3 : Int32)))])) (fun _ k => XS.iand X0.here hx rfl (hb hby at_26) rfl k) ?_
    refine own_go (T' := s₁) (g' := (mkF m 29 #[.val (.int xa), .val (.int xb), .val (.int xc), .val (.int ((1 : Int32) + (xa &&& (3 : Int32)))), .val (.int (xc &&& (3 : Int32))), .unset, .unset, .unset, .unset] [])) (fun _ k => XS.istore X0.here hx rfl (hb hby at_27) rfl (l' := #[.val (.int xa), .val (.int xb), .val (.int xc), .val (.int ((1 : Int32) + (xa &&& (3 : Int32)))), .val (.int (xc &&& (3 : Int32))), .unset, .unset, .unset, .unset]) rfl k) ?_
    refine own_go (T' := s₁) (g' := (mkF m 31 #[.val (.int xa), .val (.int xb), .val (.int xc), .val (.int ((1 : Int32) + (xa &&& (3 : Int32)))), .val (.int (xc &&& (3 : Int32))), .unset, .unset, .unset, .unset] [(.int (xc &&& (3 : Int32)))])) (fun _ k => XS.iload X0.here hx rfl (hb hby at_29) rfl k) ?_
    by_cases hc31 : (xc &&& (3 : Int32)) = (0 : Int32)
    · refine own_go (T' := s₁) (g' := (mkF m 34 #[.val (.int xa), .val (.int xb), .val (.int xc), .val (.int ((1 : Int32) + (xa &&& (3 : Int32)))), .val (.int (xc &&& (3 : Int32))), .unset, .unset, .unset, .unset] [])) (fun _ k => XS.ifNo X0.here hx rfl (hb hby at_31) rfl ((if0 _ _).trans (teq (hc31 : (xc &&& (3 : Int32)) = (0 : Int32))).2) k) ?_
      refine own_go (T' := s₁) (g' := (mkF m 35 #[.val (.int xa), .val (.int xb), .val (.int xc), .val (.int ((1 : Int32) + (xa &&& (3 : Int32)))), .val (.int (xc &&& (3 : Int32))), .unset, .unset, .unset, .unset] [(.int (0 : Int32))])) (fun _ k => XS.iconst X0.here hx rfl (hb hby at_34) k) ?_
      refine own_go (T' := s₁) (g' := (mkF m 37 #[.val (.int xa), .val (.int xb), .val (.int xc), .val (.int ((1 : Int32) + (xa &&& (3 : Int32)))), .val (.int (xc &&& (3 : Int32))), .val (.int (0 : Int32)), .unset, .unset, .unset] [])) (fun _ k => XS.istore X0.here hx rfl (hb hby at_35) rfl (l' := #[.val (.int xa), .val (.int xb), .val (.int xc), .val (.int ((1 : Int32) + (xa &&& (3 : Int32)))), .val (.int (xc &&& (3 : Int32))), .val (.int (0 : Int32)), .unset, .unset, .unset]) rfl k) ?_
      refine own_go (T' := s₁) (g' := (mkF m 62 #[.val (.int xa), .val (.int xb), .val (.int xc), .val (.int ((1 : Int32) + (xa &&& (3 : Int32)))), .val (.int (xc &&& (3 : Int32))), .val (.int (0 : Int32)), .unset, .unset, .unset] [])) (fun _ k => XS.goto X0.here hx rfl (pc0 := 37) (pc' := 62) rfl (hb hby at_37) (by decide) (by decide) k) ?_
      exact tail62 ((1 : Int32) + (xa &&& (3 : Int32))) (0 : Int32) s₁ _ X0 e0 N0 (fun _ => rfl)
    · refine own_go (T' := s₁) (g' := (mkF m 40 #[.val (.int xa), .val (.int xb), .val (.int xc), .val (.int ((1 : Int32) + (xa &&& (3 : Int32)))), .val (.int (xc &&& (3 : Int32))), .unset, .unset, .unset, .unset] [])) (fun _ k => XS.ifYes X0.here hx rfl (pc0 := 31) (pc' := 40) rfl (hb hby at_31) rfl ((if0 _ _).trans (feq (hc31 : ¬ ((xc &&& (3 : Int32)) = (0 : Int32)))).2) (by decide) (by decide) k) ?_
      refine own_go (T' := s₁) (g' := (mkF m 42 #[.val (.int xa), .val (.int xb), .val (.int xc), .val (.int ((1 : Int32) + (xa &&& (3 : Int32)))), .val (.int (xc &&& (3 : Int32))), .unset, .unset, .unset, .unset] [(.int (xc &&& (3 : Int32)))])) (fun _ k => XS.iload X0.here hx rfl (hb hby at_40) rfl k) ?_
      refine own_go (T' := s₁) (g' := (mkF m 43 #[.val (.int xa), .val (.int xb), .val (.int xc), .val (.int ((1 : Int32) + (xa &&& (3 : Int32)))), .val (.int (xc &&& (3 : Int32))), .unset, .unset, .unset, .unset] [(.int (1 : Int32)), (.int (xc &&& (3 : Int32)))])) (fun _ k => XS.iconst X0.here hx rfl (hb hby at_42) k) ?_
      by_cases hc43 : (xc &&& (3 : Int32)) = (1 : Int32)
      · refine own_go (T' := s₁) (g' := (mkF m 46 #[.val (.int xa), .val (.int xb), .val (.int xc), .val (.int ((1 : Int32) + (xa &&& (3 : Int32)))), .val (.int (xc &&& (3 : Int32))), .unset, .unset, .unset, .unset] [])) (fun _ k => XS.icmpNo X0.here hx rfl (hb hby at_43) rfl (teq (hc43 : (xc &&& (3 : Int32)) = (1 : Int32))).2 k) ?_
        refine own_go (T' := s₁) (g' := (mkF m 47 #[.val (.int xa), .val (.int xb), .val (.int xc), .val (.int ((1 : Int32) + (xa &&& (3 : Int32)))), .val (.int (xc &&& (3 : Int32))), .unset, .unset, .unset, .unset] [(.int ((1 : Int32) + (xa &&& (3 : Int32))))])) (fun _ k => XS.iloadN X0.here hx rfl (hb hby at_46) rfl k) ?_
        refine own_go (T' := s₁) (g' := (mkF m 48 #[.val (.int xa), .val (.int xb), .val (.int xc), .val (.int ((1 : Int32) + (xa &&& (3 : Int32)))), .val (.int (xc &&& (3 : Int32))), .unset, .unset, .unset, .unset] [(.int (1 : Int32)), (.int ((1 : Int32) + (xa &&& (3 : Int32))))])) (fun _ k => XS.iconst X0.here hx rfl (hb hby at_47) k) ?_
        refine own_go (T' := s₁) (g' := (mkF m 49 #[.val (.int xa), .val (.int xb), .val (.int xc), .val (.int ((1 : Int32) + (xa &&& (3 : Int32)))), .val (.int (xc &&& (3 : Int32))), .unset, .unset, .unset, .unset] [(.int (((1 : Int32) + (xa &&& (3 : Int32))) - (1 : Int32)))])) (fun _ k => XS.isub X0.here hx rfl (hb hby at_48) rfl k) ?_
        refine own_go (T' := s₁) (g' := (mkF m 51 #[.val (.int xa), .val (.int xb), .val (.int xc), .val (.int ((1 : Int32) + (xa &&& (3 : Int32)))), .val (.int (xc &&& (3 : Int32))), .val (.int (((1 : Int32) + (xa &&& (3 : Int32))) - (1 : Int32))), .unset, .unset, .unset] [])) (fun _ k => XS.istore X0.here hx rfl (hb hby at_49) rfl (l' := #[.val (.int xa), .val (.int xb), .val (.int xc), .val (.int ((1 : Int32) + (xa &&& (3 : Int32)))), .val (.int (xc &&& (3 : Int32))), .val (.int (((1 : Int32) + (xa &&& (3 : Int32))) - (1 : Int32))), .unset, .unset, .unset]) rfl k) ?_
        refine own_go (T' := s₁) (g' := (mkF m 62 #[.val (.int xa), .val (.int xb), .val (.int xc), .val (.int ((1 : Int32) + (xa &&& (3 : Int32)))), .val (.int (xc &&& (3 : Int32))), .val (.int (((1 : Int32) + (xa &&& (3 : Int32))) - (1 : Int32))), .unset, .unset, .unset] [])) (fun _ k => XS.goto X0.here hx rfl (pc0 := 51) (pc' := 62) rfl (hb hby at_51) (by decide) (by decide) k) ?_
        exact tail62 ((1 : Int32) + (xa &&& (3 : Int32))) (((1 : Int32) + (xa &&& (3 : Int32))) - (1 : Int32)) s₁ _ X0 e0 N0 (fun h => by rw [h]; rfl)
      · refine own_go (T' := s₁) (g' := (mkF m 54 #[.val (.int xa), .val (.int xb), .val (.int xc), .val (.int ((1 : Int32) + (xa &&& (3 : Int32)))), .val (.int (xc &&& (3 : Int32))), .unset, .unset, .unset, .unset] [])) (fun _ k => XS.icmpYes X0.here hx rfl (pc0 := 43) (pc' := 54) rfl (hb hby at_43) rfl (feq (hc43 : ¬ ((xc &&& (3 : Int32)) = (1 : Int32)))).2 (by decide) (by decide) k) ?_
        refine own_go (T' := s₁) (g' := (mkF m 55 #[.val (.int xa), .val (.int xb), .val (.int xc), .val (.int ((1 : Int32) + (xa &&& (3 : Int32)))), .val (.int (xc &&& (3 : Int32))), .unset, .unset, .unset, .unset] [(.int xb)])) (fun _ k => XS.iloadN X0.here hx rfl (hb hby at_54) rfl k) ?_
        refine own_go (T' := s₁) (g' := (mkF m 57 #[.val (.int xa), .val (.int xb), .val (.int xc), .val (.int ((1 : Int32) + (xa &&& (3 : Int32)))), .val (.int (xc &&& (3 : Int32))), .unset, .unset, .unset, .unset] [(.int (2147483647 : Int32)), (.int xb)])) (fun _ k => X0.ldcInt hx hown (mvT hZ (hw _ (List.mem_of_getElem? (i := 0) rfl))) (g := (mkF m 55 #[.val (.int xa), .val (.int xb), .val (.int xc), .val (.int ((1 : Int32) + (xa &&& (3 : Int32)))), .val (.int (xc &&& (3 : Int32))), .unset, .unset, .unset, .unset] [(.int xb)])) rfl (hb hby at_55) _ k) ?_
        refine own_go (T' := s₁) (g' := (mkF m 58 #[.val (.int xa), .val (.int xb), .val (.int xc), .val (.int ((1 : Int32) + (xa &&& (3 : Int32)))), .val (.int (xc &&& (3 : Int32))), .unset, .unset, .unset, .unset] [(.int (xb &&& (2147483647 : Int32)))])) (fun _ k => XS.iand X0.here hx rfl (hb hby at_57) rfl k) ?_
        refine own_go (T' := s₁) (g' := (mkF m 59 #[.val (.int xa), .val (.int xb), .val (.int xc), .val (.int ((1 : Int32) + (xa &&& (3 : Int32)))), .val (.int (xc &&& (3 : Int32))), .unset, .unset, .unset, .unset] [(.int ((1 : Int32) + (xa &&& (3 : Int32)))), (.int (xb &&& (2147483647 : Int32)))])) (fun _ k => XS.iloadN X0.here hx rfl (hb hby at_58) rfl k) ?_
        refine own_go (T' := s₁) (g' := (mkF m 60 #[.val (.int xa), .val (.int xb), .val (.int xc), .val (.int ((1 : Int32) + (xa &&& (3 : Int32)))), .val (.int (xc &&& (3 : Int32))), .unset, .unset, .unset, .unset] [(.int ((xb &&& (2147483647 : Int32)) % ((1 : Int32) + (xa &&& (3 : Int32)))))])) (fun _ k => iremM X0 hx rfl (hb hby at_59) rfl (own_nz1 xa) k) ?_
        refine own_go (T' := s₁) (g' := (mkF m 62 #[.val (.int xa), .val (.int xb), .val (.int xc), .val (.int ((1 : Int32) + (xa &&& (3 : Int32)))), .val (.int (xc &&& (3 : Int32))), .val (.int ((xb &&& (2147483647 : Int32)) % ((1 : Int32) + (xa &&& (3 : Int32))))), .unset, .unset, .unset] [])) (fun _ k => XS.istore X0.here hx rfl (hb hby at_60) rfl (l' := #[.val (.int xa), .val (.int xb), .val (.int xc), .val (.int ((1 : Int32) + (xa &&& (3 : Int32)))), .val (.int (xc &&& (3 : Int32))), .val (.int ((xb &&& (2147483647 : Int32)) % ((1 : Int32) + (xa &&& (3 : Int32))))), .unset, .unset, .unset]) rfl k) ?_
        exact tail62 ((1 : Int32) + (xa &&& (3 : Int32))) ((xb &&& (2147483647 : Int32)) % ((1 : Int32) + (xa &&& (3 : Int32)))) s₁ _ X0 e0 N0 (fun h => by rw [h]; exact own_mod1 _)
set_option maxRecDepth 65536 in
set_option maxHeartbeats 40000000 in
theorem own_comes {Post : Tables → Env → Array Value → State → Outcome → State → Prop} (hpost : ∀ tb e args s v u, (limb_1_1.after args s (.returned v) u = true ∧ limb_1_2.after args s (.returned v) u = true ∧ True) → FrameEnd s (.returned v) u (Jvm.fieldLocs frame_1_writes args s ++ Jvm.arrayLocs frame_1_arrays args s ++ Jvm.staticLocs frame_1_statics s) 0 0 → Post tb e args s (.returned v) u) :
    ArmFor flags0 classFile x code maxLocals ret World_1 tables_1 room_1 Calls_1 rest_1 Pre_1 Post := by
  intro l hfl _ _ p e ha hc hk s m args below hf hA hF happ hP
  obtain ⟨hcalls, hrest, hpre⟩ := hP
  obtain ⟨-, -, -, hnamed, -, -, -, hat⟩ := (Spec.applies_iff hf).mp happ
  obtain ⟨hg, hn⟩ := and_e (Cond.before_iff.mp (show (Jvm.Cond.and given_1 narrow_1).before args s = true from hpre))
  obtain ⟨gc, g0⟩ := and_e hg
  obtain ⟨ga0, g1⟩ := and_e g0
  obtain ⟨ga1, g2⟩ := and_e g1
  obtain ⟨w0, w1, w2, rfl⟩ : ∃ w0 w1 w2 : Value, args = #[w0, w1, w2] := by
    have hs : args.size = 3 := by simpa [Cond.value, given_1] using gc
    obtain ⟨L⟩ := args
    match L, hs with
    | [w0, w1, w2], _ => exact ⟨w0, w1, w2, rfl⟩
  have hw := fun d (hd : d ∈ tables_1) => atoms_spec (ws := Jvm.Cond.code x code maxLocals ret :: tables_1) hat d (List.mem_cons_of_mem _ hd)
  have hfit : Fit s := fun {y c} hc i hi => by
    obtain ⟨ha, rfl⟩ := Array.getElem?_eq_some_iff.mp hc
    have q := List.all_eq_true.mp ((Array.all_eq_true_iff_forall_mem.mp hF) _ (Array.getElem_mem ha)) i (List.mem_range.mpr hi)
    simpa [Array.getElem?_eq_getElem hi] using q
  obtain ⟨i0, ei0⟩ := is_v ga0
  obtain rfl : w0 = (.int i0) := Option.some.inj ei0
  obtain ⟨i1, ei1⟩ := is_v ga1
  obtain rfl : w1 = (.int i1) := Option.some.inj ei1
  obtain ⟨i2, ei2⟩ := is_v g2
  obtain rfl : w2 = (.int i2) := Option.some.inj ei2
  obtain ⟨n, o, h1, h2, h3, _, L, rfl, ⟨rfl, N⟩, hq⟩ := own_rL l s _ hw tables_1 i0 i1 i2  s.heap s.heap.size (Nat.le_refl _)  p e ha hc hk s m _ below hf ((Spec.applies_iff_loose hf).mp happ).1 ⟨rfl, State.Warmed39.refl s, rfl⟩ trivial
  refine ⟨n, _, h1, h2, h3, hpost _ _ _ _ _ _ ⟨Cond.after_iff.mpr rfl, Cond.after_iff.mpr (eq_i res_at (Term.int_eval (1)) rfl), trivial⟩ ⟨hq.1, hq.2.1, (hq.2.2.sift fun y hy => Or.inr (N y hy)).mono (by decide) (by decide)⟩⟩
theorem main_1_1 : Claimed_1_1 := own_comes fun _ _ _ _ _ _ h hF => ⟨h.1, hF⟩
theorem main_1_2 : Claimed_1_2 := own_comes fun _ _ _ _ _ _ h hF => ⟨h.2.1, hF⟩
end Jvm.Pilot.@@N@@
namespace Jvm.Pilot.@@N@@
open Jvm Jvm.ClassFile Sem Op Lib Jvm.Free Jvm.Stand Jvm.Pilot.@@N@@.Jvm.D
/-! MADE BY PROGRAM (witnessworld.py) out of the Statement's table words and the real class files: 10 classes; the members and pool entries that the words name. The judged class is class 1, her method 1. -/
namespace start1
open Jvm.ClassFile
def u (s : String) : CpInfo := .utf8 (stringToUtf16 s)
/-- a pool by its gaps: so many unusable entries, then the entry; so many at the end -/
def gap : Nat → List CpInfo → List CpInfo
  | 0, r => r
  | n + 1, r => .unusable :: gap n r
def poolList (es : List (Nat × CpInfo)) (last : Nat) : List CpInfo := es.foldr (fun e r => gap e.1 (e.2 :: r)) (gap last [])
def pool (es : List (Nat × CpInfo)) (last : Nat) : Array CpInfo := ⟨poolList es last⟩
def fileOf (pool : Array CpInfo) (this : Nat) (attrs : Array Attribute := #[]) (ms : Array MethodInfo := #[]) (fl : Nat := 33) (sup : Nat := 0) (ifs : Array Nat := #[]) (fds : Array FieldInfo := #[]) : ClassFile where
  minorVersion := 0
  majorVersion := 65
  constantPool := pool
  accessFlags := fl
  thisClass := this
  superClass := sup
  interfaces := ifs
  fields := fds
  methods := ms
  attributes := attrs
def plain (name : String) (sup : Option ClassId) : Class where
  name := name
  kind := .ordinary
  loader := none
  accessFlags := 33
  super := sup
  interfaces := #[]
  cf := none
  fields := #[]
  methods := #[]
  instanceTypes := #[]
  staticTypes := #[]
  resolved := #[]
  callSites := []
  init := .initialized
  statics := none
  mirror := none

def pool0 : Array CpInfo := pool [(5, u "<init>"), (0, u "()V"), (1, .class_ 10), (1, u "java/lang/Object")] 113

def k0m0 : Method := { name := "<init>", desc := "()V", sig := { parameters := [], returnType := none }, accessFlags := 1, code := none }
/-- java/lang/Object -/
def k0 : Class := { plain "java/lang/Object" none with
  accessFlags := 33
  interfaces := #[]
  cf := some (fileOf pool0 8 #[] #[{ accessFlags := 1, nameIndex := 5, descriptorIndex := 6, attributes := #[] }] 33 0 #[] #[])
  fields := #[]
  methods := #[k0m0]
  instanceTypes := #[]
  staticTypes := #[]
  resolved := Array.replicate 124 none
  statics := none }

def pool1 : Array CpInfo := pool [(2, .class_ 4), (1, u "java/lang/Object"), (0, u "<init>"), (0, u "()V"), (0, .integer 2147483647), (0, .methodref 9 10), (0, .class_ 11), (0, .nameAndType 12 13), (0, u "java/lang/Math"), (0, u "max"), (0, u "(II)I"), (0, .methodref 15 16), (0, .class_ 17), (0, .nameAndType 18 13), (0, u "com/example/cilu/cilu/model/CharacterTags"), (0, u "tag"), (0, .class_ 20), (0, u "com/example/cilu/cilu/model/CharacterTagsTagPinLaw"), (2, u "law"), (0, u "(III)Z")] 3

def k1m0 : Method := { name := "<init>", desc := "()V", sig := { parameters := [], returnType := none }, accessFlags := 1, code := none }
def k1c1 : Code := { maxStack := 3, maxLocals := 9, code := code, exceptionTable := #[], attributes := #[] }
def k1m1 : Method := { name := "law", desc := "(III)Z", sig := { parameters := [.int, .int, .int], returnType := some .boolean }, accessFlags := 9, code := some k1c1 }
/-- com/example/cilu/cilu/model/CharacterTagsTagPinLaw -/
def k1 : Class := { plain "com/example/cilu/cilu/model/CharacterTagsTagPinLaw" (some 0) with
  accessFlags := 49
  interfaces := #[]
  cf := some (fileOf pool1 19 #[] #[{ accessFlags := 1, nameIndex := 5, descriptorIndex := 6, attributes := #[] }, { accessFlags := 9, nameIndex := 23, descriptorIndex := 24, attributes := #[] }] 49 2 #[] #[])
  fields := #[]
  methods := #[k1m0, k1m1]
  instanceTypes := #[]
  staticTypes := #[]
  resolved := Array.replicate 28 none
  statics := none }

def pool2 : Array CpInfo := pool [(1, .class_ 2), (0, u "java/lang/Math"), (1, .class_ 6), (1, u "java/lang/Object"), (0, u "<init>"), (0, u "()V"), (89, .class_ 100), (1, u "java/lang/Math$RandomNumberGeneratorHolder"), (71, u "negativeZeroFloatBits"), (0, u "J"), (2, u "negativeZeroDoubleBits"), (21, u "max"), (46, u "$assertionsDisabled"), (0, u "Z"), (88, u "(II)I"), (2, u "twoToTheDoubleScaleDown"), (0, u "D"), (4, u "twoToTheDoubleScaleUp"), (9, u "E"), (3, u "PI"), (2, u "TAU"), (2, u "DEGREES_TO_RADIANS"), (0, u "RADIANS_TO_DEGREES")] 94

def k2m0 : Method := { name := "<init>", desc := "()V", sig := { parameters := [], returnType := none }, accessFlags := 2, code := none }
def k2c1 : Code := { maxStack := 2, maxLocals := 2, code := jdk_29_method_65_code, exceptionTable := #[], attributes := #[] }
def k2m1 : Method := { name := "max", desc := "(II)I", sig := { parameters := [.int, .int], returnType := some .int }, accessFlags := 9, code := some k2c1 }
/-- java/lang/Math -/
def k2 : Class := { plain "java/lang/Math" (some 0) with
  accessFlags := 49
  interfaces := #[]
  cf := some (fileOf pool2 1 #[.nestMembers #[98]] #[{ accessFlags := 2, nameIndex := 7, descriptorIndex := 8, attributes := #[] }, { accessFlags := 9, nameIndex := 198, descriptorIndex := 335, attributes := #[] }] 49 4 #[] #[{ accessFlags := 25, nameIndex := 354, descriptorIndex := 339, attributes := #[] }, { accessFlags := 25, nameIndex := 358, descriptorIndex := 339, attributes := #[] }, { accessFlags := 25, nameIndex := 361, descriptorIndex := 339, attributes := #[] }, { accessFlags := 26, nameIndex := 364, descriptorIndex := 339, attributes := #[] }, { accessFlags := 26, nameIndex := 365, descriptorIndex := 339, attributes := #[] }, { accessFlags := 26, nameIndex := 172, descriptorIndex := 173, attributes := #[] }, { accessFlags := 26, nameIndex := 176, descriptorIndex := 173, attributes := #[] }, { accessFlags := 8, nameIndex := 344, descriptorIndex := 339, attributes := #[] }, { accessFlags := 8, nameIndex := 338, descriptorIndex := 339, attributes := #[] }, { accessFlags := 4120, nameIndex := 245, descriptorIndex := 246, attributes := #[] }])
  fields := #[{ name := "E", type := .double, accessFlags := 25, slot := 0, constantValue := 0 }, { name := "PI", type := .double, accessFlags := 25, slot := 1, constantValue := 0 }, { name := "TAU", type := .double, accessFlags := 25, slot := 2, constantValue := 0 }, { name := "DEGREES_TO_RADIANS", type := .double, accessFlags := 26, slot := 3, constantValue := 0 }, { name := "RADIANS_TO_DEGREES", type := .double, accessFlags := 26, slot := 4, constantValue := 0 }, { name := "negativeZeroFloatBits", type := .long, accessFlags := 26, slot := 5, constantValue := 0 }, { name := "negativeZeroDoubleBits", type := .long, accessFlags := 26, slot := 6, constantValue := 0 }, { name := "twoToTheDoubleScaleUp", type := .double, accessFlags := 8, slot := 7, constantValue := 0 }, { name := "twoToTheDoubleScaleDown", type := .double, accessFlags := 8, slot := 8, constantValue := 0 }, { name := "$assertionsDisabled", type := .boolean, accessFlags := 4120, slot := 9, constantValue := 0 }]
  methods := #[k2m0, k2m1]
  instanceTypes := #[]
  staticTypes := #[.double, .double, .double, .double, .double, .long, .long, .double, .double, .boolean]
  resolved := Array.replicate 460 none
  statics := none }

def pool3 : Array CpInfo := pool [(4, .class_ 6), (1, u "java/lang/Object"), (3, .class_ 12), (1, u "com/example/cilu/cilu/model/CharacterTags"), (0, u "steps"), (0, u "J"), (2, u "features"), (0, u "[J"), (2, u "sums"), (2, u "transitionSums"), (2, u "transitions"), (0, u "[D"), (2, u "PLACES"), (0, u "[[I"), (94, u "(II)I"), (29, u "BEFORE_TAG"), (2, u "START"), (0, u "I"), (2, u "TAGS"), (0, u "Ljava/lang/String;"), (1, u "FIRST"), (1, u "INNER"), (1, u "LAST"), (1, u "ALONE"), (1, u "TEMPLATES"), (1, u "KINDS"), (1, u "KIND_LETTERS"), (0, u "BEFORE"), (0, u "AFTER"), (0, u "NOWHERE"), (0, u "CODE_BITS"), (6, u "tag")] 52

def k3c0 : Code := { maxStack := 3, maxLocals := 3, code := prog_19_method_2_code, exceptionTable := #[], attributes := #[] }
def k3m0 : Method := { name := "tag", desc := "(II)I", sig := { parameters := [.int, .int], returnType := some .int }, accessFlags := 9, code := some k3c0 }
/-- com/example/cilu/cilu/model/CharacterTags -/
def k3 : Class := { plain "com/example/cilu/cilu/model/CharacterTags" (some 0) with
  accessFlags := 49
  interfaces := #[]
  cf := some (fileOf pool3 10 #[] #[{ accessFlags := 9, nameIndex := 190, descriptorIndex := 127, attributes := #[] }] 49 4 #[] #[{ accessFlags := 24, nameIndex := 164, descriptorIndex := 165, attributes := #[] }, { accessFlags := 25, nameIndex := 167, descriptorIndex := 161, attributes := #[] }, { accessFlags := 25, nameIndex := 169, descriptorIndex := 161, attributes := #[] }, { accessFlags := 25, nameIndex := 171, descriptorIndex := 161, attributes := #[] }, { accessFlags := 25, nameIndex := 173, descriptorIndex := 161, attributes := #[] }, { accessFlags := 24, nameIndex := 160, descriptorIndex := 161, attributes := #[] }, { accessFlags := 24, nameIndex := 175, descriptorIndex := 161, attributes := #[] }, { accessFlags := 26, nameIndex := 177, descriptorIndex := 161, attributes := #[] }, { accessFlags := 26, nameIndex := 179, descriptorIndex := 165, attributes := #[] }, { accessFlags := 26, nameIndex := 180, descriptorIndex := 161, attributes := #[] }, { accessFlags := 26, nameIndex := 181, descriptorIndex := 161, attributes := #[] }, { accessFlags := 26, nameIndex := 182, descriptorIndex := 161, attributes := #[] }, { accessFlags := 26, nameIndex := 183, descriptorIndex := 161, attributes := #[] }, { accessFlags := 26, nameIndex := 31, descriptorIndex := 32, attributes := #[] }, { accessFlags := 26, nameIndex := 157, descriptorIndex := 32, attributes := #[] }, { accessFlags := 18, nameIndex := 13, descriptorIndex := 14, attributes := #[] }, { accessFlags := 18, nameIndex := 17, descriptorIndex := 18, attributes := #[] }, { accessFlags := 18, nameIndex := 21, descriptorIndex := 18, attributes := #[] }, { accessFlags := 18, nameIndex := 24, descriptorIndex := 18, attributes := #[] }, { accessFlags := 18, nameIndex := 27, descriptorIndex := 28, attributes := #[] }])
  fields := #[{ name := "TAGS", type := (.object "java/lang/String"), accessFlags := 24, slot := 0, constantValue := 0 }, { name := "FIRST", type := .int, accessFlags := 25, slot := 1, constantValue := 0 }, { name := "INNER", type := .int, accessFlags := 25, slot := 2, constantValue := 0 }, { name := "LAST", type := .int, accessFlags := 25, slot := 3, constantValue := 0 }, { name := "ALONE", type := .int, accessFlags := 25, slot := 4, constantValue := 0 }, { name := "START", type := .int, accessFlags := 24, slot := 5, constantValue := 0 }, { name := "TEMPLATES", type := .int, accessFlags := 24, slot := 6, constantValue := 0 }, { name := "KINDS", type := .int, accessFlags := 26, slot := 7, constantValue := 0 }, { name := "KIND_LETTERS", type := (.object "java/lang/String"), accessFlags := 26, slot := 8, constantValue := 0 }, { name := "BEFORE", type := .int, accessFlags := 26, slot := 9, constantValue := 0 }, { name := "AFTER", type := .int, accessFlags := 26, slot := 10, constantValue := 0 }, { name := "NOWHERE", type := .int, accessFlags := 26, slot := 11, constantValue := 0 }, { name := "CODE_BITS", type := .int, accessFlags := 26, slot := 12, constantValue := 0 }, { name := "PLACES", type := (.array (.array .int)), accessFlags := 26, slot := 13, constantValue := 0 }, { name := "BEFORE_TAG", type := (.array (.array .int)), accessFlags := 26, slot := 14, constantValue := 0 }, { name := "steps", type := .long, accessFlags := 18, slot := 0, constantValue := 0 }, { name := "features", type := (.array .long), accessFlags := 18, slot := 1, constantValue := 0 }, { name := "sums", type := (.array .long), accessFlags := 18, slot := 2, constantValue := 0 }, { name := "transitionSums", type := (.array .long), accessFlags := 18, slot := 3, constantValue := 0 }, { name := "transitions", type := (.array .double), accessFlags := 18, slot := 4, constantValue := 0 }]
  methods := #[k3m0]
  instanceTypes := #[.long, (.array .long), (.array .long), (.array .long), (.array .double)]
  staticTypes := #[(.object "java/lang/String"), .int, .int, .int, .int, .int, .int, .int, (.object "java/lang/String"), .int, .int, .int, .int, (.array (.array .int)), (.array (.array .int))]
  resolved := Array.replicate 243 none
  statics := none }

def pool4 : Array CpInfo := pool [(1, u "java/lang/Cloneable"), (0, .class_ 1), (0, u "java/lang/Object"), (0, .class_ 3)] 3

/-- java/lang/Cloneable -/
def k4 : Class := { plain "java/lang/Cloneable" (some 0) with
  accessFlags := 1537
  interfaces := #[]
  cf := some (fileOf pool4 2 #[] #[] 1537 4 #[] #[])
  fields := #[]
  methods := #[]
  instanceTypes := #[]
  staticTypes := #[]
  resolved := Array.replicate 8 none
  statics := none }

def pool5 : Array CpInfo := pool [(1, u "java/io/Serializable"), (0, .class_ 1), (0, u "java/lang/Object"), (0, .class_ 3)] 3

/-- java/io/Serializable -/
def k5 : Class := { plain "java/io/Serializable" (some 0) with
  accessFlags := 1537
  interfaces := #[]
  cf := some (fileOf pool5 2 #[] #[] 1537 4 #[] #[])
  fields := #[]
  methods := #[]
  instanceTypes := #[]
  staticTypes := #[]
  resolved := Array.replicate 8 none
  statics := none }

/-- the primitive byte -/
def k6 : Class := { plain "byte" none with kind := .primitive 'B', accessFlags := 0x411 }
/-- [B -/
def k7 : Class := { plain "[B" (some 0) with kind := .array 6 .byte, interfaces := #[4, 5], accessFlags := 1041 }

/-- the primitive int -/
def k8 : Class := { plain "int" none with kind := .primitive 'I', accessFlags := 0x411 }
/-- [I -/
def k9 : Class := { plain "[I" (some 0) with kind := .array 8 .int, interfaces := #[4, 5], accessFlags := 1041 }

def heap : Heap := #[]
def classes : Array Class := #[k0, k1, k2, k3, k4, k5, k6, k7, k8, k9]
def interned : List (Array UInt16 × Addr) := []
def slotsUsed : Nat := 0
def theMethod : MethodId := ⟨1, 1⟩
def args0 : Array Value := #[.int 5, .int 7, .int 3]
def aboutOver (below : List Frame) : State where
  vm := { classes := classes, interned := interned.toArray }
  heap := heap
  slotsUsed := slotsUsed
  threads := #[{ frames := .invoking theMethod args0 :: below }]
def below0 : List Frame := [.native { method := ⟨0, 0⟩, args := #[] }]
def about1 : State := aboutOver below0
def p0 : Program := .bare "" "" ""
def e0 : Env := launch0.env 0 0 0
theorem w_frames : about1.frames = Frame.invoking theMethod args0 :: below0 := rfl
set_option maxRecDepth 65536 in
theorem w_args : argsFit about1.vm theMethod args0 = true := by decide +kernel
set_option maxRecDepth 65536 in
theorem w_heap : heapFits about1 = true := by decide +kernel
set_option maxRecDepth 65536 in
theorem w_runnable : about1.curStatus? = some .runnable := by decide +kernel
set_option maxRecDepth 65536 in
theorem w_alone : about1.alone = true := by decide +kernel
set_option maxRecDepth 65536 in
theorem w_named : about1.methodNamed? x = some theMethod := by decide +kernel
set_option maxRecDepth 65536 in
theorem w_hears : about1.hears theMethod below0 = true := by decide +kernel
set_option maxRecDepth 65536 in
theorem w_ripe : about1.ripe theMethod args0 below0 = true := by decide +kernel
theorem w_running : about1.status = .running := rfl
set_option maxRecDepth 65536 in
theorem w_room : about1.hasRoom e0.platform room_1 = true :=
  launch0.hasRoom_least _ room_1 (by decide +kernel) (by decide +kernel) (by decide +kernel) (by decide +kernel) (by decide +kernel) (by decide +kernel)
theorem allAtoms_all (ts : List Jvm.Cond) (a : Array Jvm.Value) (st : Jvm.State) : (allAtoms ts).before a st = ts.all (fun c => c.before a st) := by
  induction ts with
  | nil => rfl
  | cons c t ih =>
    show (Jvm.Cond.and c (allAtoms t)).before a st = _
    rw [Jvm.Cond.before_and, ih, List.all_cons]
def words1 : List Jvm.Cond := Jvm.Cond.code x code maxLocals ret :: tables_1
/-- a 'code' word, met by the world's own term for the bytes: nothing is compared byte by byte -/
theorem code_word {y : MethodName} {bytes : ByteArray} {mx : Nat} {rt : Option FieldType} {a : Array Value} {s : State} {m : MethodId} {meth : Method} {c : Code} (h1 : s.methodNamed? y = some m) (h2 : s.vm.method? m = some meth) (h3 : meth.code = some c) (h4 : c.code = bytes)
    (h5 : (c.maxLocals == mx && c.exceptionTable.isEmpty && decide (c.maxStack ≤ mostOperands) && decide (meth.sig.returnType = rt) && !meth.locks && decide (parseMethodDescriptor y.desc = some meth.sig)) = true) : (Jvm.Cond.code y bytes mx rt).before a s = true := by
  simp only [Bool.and_eq_true, beq_iff_eq, Bool.not_eq_true', decide_eq_true_eq] at h5
  obtain ⟨⟨⟨⟨⟨g1, g2⟩, g3⟩, g4⟩, g5⟩, g6⟩ := h5
  simp [Cond.before, Cond.holds, Cond.value, h1, h2, h3, h4, g1, g2, g3, g4, g5, g6]
def isCode : Jvm.Cond → Bool
  | .code _ _ _ _ => true
  | _ => false
theorem all_split {L : List Jvm.Cond} {P : Jvm.Cond → Bool} (h1 : L.all (fun c => isCode c || P c) = true) (h2 : ∀ c ∈ L.filter isCode, P c = true) : L.all P = true := by
  refine List.all_eq_true.mpr fun c hc => ?_
  have h := List.all_eq_true.mp h1 c hc
  rcases Bool.eq_false_or_eq_true (isCode c) with hi | hi
  · exact h2 c (List.mem_filter.mpr ⟨hc, hi⟩)
  · simpa [hi] using h
set_option maxRecDepth 65536 in
theorem w_c0 : (Jvm.Cond.code x code maxLocals ret).before args0 about1 = true := code_word (m := ⟨1, 1⟩) (meth := k1m1) (c := k1c1) (by decide +kernel) rfl rfl rfl (by decide +kernel)
set_option maxRecDepth 65536 in
theorem w_c1 : (Jvm.Cond.code ({ cls := "java/lang/Math", name := "max", desc := "(II)I" } : Jvm.MethodName) jdk_29_method_65_code (2 : Nat) (Option.some Jvm.ClassFile.FieldType.int)).before args0 about1 = true := code_word (m := ⟨2, 1⟩) (meth := k2m1) (c := k2c1) (by decide +kernel) rfl rfl rfl (by decide +kernel)
set_option maxRecDepth 65536 in
theorem w_c2 : (Jvm.Cond.code ({ cls := "com/example/cilu/cilu/model/CharacterTags", name := "tag", desc := "(II)I" } : Jvm.MethodName) prog_19_method_2_code (3 : Nat) (Option.some Jvm.ClassFile.FieldType.int)).before args0 about1 = true := code_word (m := ⟨3, 0⟩) (meth := k3m0) (c := k3c0) (by decide +kernel) rfl rfl rfl (by decide +kernel)
def codes1 : List Jvm.Cond := [Jvm.Cond.code x code maxLocals ret, Jvm.Cond.code ({ cls := "java/lang/Math", name := "max", desc := "(II)I" } : Jvm.MethodName) jdk_29_method_65_code (2 : Nat) (Option.some Jvm.ClassFile.FieldType.int), Jvm.Cond.code ({ cls := "com/example/cilu/cilu/model/CharacterTags", name := "tag", desc := "(II)I" } : Jvm.MethodName) prog_19_method_2_code (3 : Nat) (Option.some Jvm.ClassFile.FieldType.int)]
set_option maxRecDepth 65536 in
theorem codes_eq : words1.filter isCode = codes1 := rfl
theorem w_codes : ∀ c ∈ words1.filter isCode, c.before args0 about1 = true := by
  rw [codes_eq]
  intro c hc
  simp only [codes1, List.mem_cons, List.not_mem_nil, or_false] at hc
  rcases hc with rfl | rfl | rfl
  · exact w_c0
  · exact w_c1
  · exact w_c2
set_option maxRecDepth 65536 in
theorem w_t1 : words1.all (fun c => isCode c || c.before args0 about1) = true := by decide +kernel
theorem w_tables : (allAtoms (Jvm.Cond.code x code maxLocals ret :: tables_1)).before args0 about1 = true := by
  rw [allAtoms_all]
  show words1.all (fun c => c.before args0 about1) = true
  refine all_split ?_ w_codes
  rw [w_t1]
set_option maxRecDepth 65536 in
theorem w_case : (Jvm.Cond.and given_1 narrow_1).before args0 about1 = true := by decide +kernel
theorem w_applies : (headSpec (Jvm.Cond.code x code maxLocals ret :: tables_1) room_1).applies x e0.platform about1 = true :=
  (Spec.applies_iff w_frames).mpr ⟨w_running, w_runnable, w_alone, w_named, w_hears, w_ripe, w_room, w_tables⟩
theorem atStart : AtStart classFile x code maxLocals ret World_1 tables_1 room_1 Calls_1 rest_1 Pre_1 launch0 p0 e0 about1 theMethod args0 below0 :=
  ⟨lists_1, trivial, launch0.admits_env _ _ _, launch0.least_env, fairChoices_fair.cas, fairChoices_fair.clock, w_frames, w_args, w_heap, w_applies, trivial, trivial, w_case⟩
end start1
theorem witness_1 : WitnessClaimed_1 := ⟨start1.p0, start1.e0, start1.about1, start1.theMethod, start1.args0, start1.below0, start1.atStart⟩
end Jvm.Pilot.@@N@@
