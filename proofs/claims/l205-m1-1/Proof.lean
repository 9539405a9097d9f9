import JvmDerived
import JvmDerived.Pilot.@@N@@Statement
import JvmDerived.Pilot.@@N@@Code
set_option linter.unusedVariables false
set_option linter.unusedSimpArgs false
namespace Jvm.Pilot.@@N@@
open Jvm Jvm.ClassFile Sem Op Lib Jvm.Free Jvm.Stand Jvm.LawKit Jvm.RoadKit Bundle Jvm.Pilot.@@N@@.Jvm.D
/-! the run from a frame on: it ends, and what it leaves -/
def own_F (p : Program) (e : Env) (below : List Frame) (Q : Outcome → State → Prop) (T : State) (g : JFrame) : Prop :=
  ∃ s₂ o, Steps p.tables e below (T.setTop g) s₂ ∧ s₂.status = .running ∧ Ended s₂ below o ∧ Q o s₂
theorem own_go {p : Program} {e : Env} {below : List Frame} {Q : Outcome → State → Prop} {T T' : State} {g g' : JFrame} (st : ∀ target, Steps p.tables e below (T'.setTop g') target → Steps p.tables e below (T.setTop g) target) (k : own_F p e below Q T' g') : own_F p e below Q T g := by
  obtain ⟨s₂, o, h1, h2, h3, h4⟩ := k
  exact ⟨s₂, o, st _ h1, h2, h3, h4⟩
theorem own_goT {p : Program} {e : Env} {below : List Frame} {Q : Outcome → State → Prop} {T T' : State} {g g' : JFrame} (st : Steps p.tables e below (T.setTop g) (T'.setTop g')) (k : own_F p e below Q T' g') : own_F p e below Q T g := by
  obtain ⟨s₂, o, h1, h2, h3, h4⟩ := k
  exact ⟨s₂, o, st.trans h1, h2, h3, h4⟩
theorem own_end {p : Program} {e : Env} {below : List Frame} {Q : Outcome → State → Prop} {T s₂ : State} {g : JFrame} {o : Outcome} (st : Steps p.tables e below (T.setTop g) s₂) (h1 : s₂.status = .running) (h2 : Ended s₂ below o) (h3 : Q o s₂) : own_F p e below Q T g := ⟨s₂, o, st, h1, h2, h3⟩
theorem own_ext_tr {h0 h h' : Heap} (E : Ext h0 h) (E' : Ext h h') : Ext h0 h' := ⟨Nat.le_trans E.1 E'.1, fun a c q => E'.2 a c (E.2 a c q)⟩
theorem own_ext_rf (h : Heap) : Ext h h := ⟨Nat.le_refl _, fun _ _ q => q⟩
theorem own_ext_keep {h0 h h' : Heap} {ws : List Addr} (E : Ext h0 h) (K : Keep h h' ws) (q : ∀ x ∈ ws, h0.size ≤ x) : Ext h0 h' :=
  ⟨Nat.le_trans E.1 K.1, fun a c ha => K.2.1 a c (E.2 a c ha) fun k => absurd (Array.getElem?_eq_some_iff.mp ha).1 (Nat.not_lt.mpr (q a k))⟩
theorem own_ext_wr {h0 h h' : Heap} {a : Addr} {sl : Nat} {v : Value} (E : Ext h0 h) (W : Wr h h' a sl v) (q : h0.size ≤ a) : Ext h0 h' :=
  own_ext_keep E (Keep.of_wr W) fun x hx => by cases List.mem_singleton.mp hx; exact q
theorem own_one {a b : Addr} (h : a ≠ b) : a ∉ [b] := fun q => h (List.mem_singleton.mp q)
theorem own_all1 {n : Nat} {b : Addr} (h : n ≤ b) : ∀ x ∈ [b], n ≤ x := fun x hx => by cases List.mem_singleton.mp hx; exact h
theorem own_all0 {n : Nat} : ∀ x ∈ ([] : List Addr), n ≤ x := fun x hx => nomatch hx
theorem own_lt_t {x y : Int64} (h : x < y) : lcmpW x y < 0 := by rw [lcW]; exact (lc_lt _ _).mpr h
theorem own_lt_f {x y : Int64} (h : ¬ x < y) : ¬ lcmpW x y < 0 := by rw [lcW]; exact fun k => h ((lc_lt _ _).mp k)
theorem own_gt_t {x y : Int64} (h : y < x) : 0 < lcmpW x y := by rw [lcW]; exact (lc_gt _ _).mpr h
theorem own_gt_f {x y : Int64} (h : ¬ y < x) : ¬ 0 < lcmpW x y := by rw [lcW]; exact fun k => h ((lc_gt _ _).mp k)
theorem own_eq_t {x y : Int64} (h : x = y) : lcmpW x y = 0 := by rw [lcW]; exact (lc_eq _ _).mpr h
theorem own_eq_f {x y : Int64} (h : ¬ x = y) : ¬ lcmpW x y = 0 := by rw [lcW]; exact fun k => h ((lc_eq _ _).mp k)
theorem own_sub_self (x : Int64) : ¬ (0 : Int64) < x - x := by rw [Int64.sub_self]; decide
theorem own_not_gt {d : Int64} (h : d < 0) : ¬ 0 < d := by rw [Int64.lt_iff_toInt_lt] at *; omega
theorem own_not_min {d : Int64} (h : ¬ d < 0) : ¬ d = -9223372036854775808 := fun e => h (by rw [e]; decide)
theorem own_flip {a b : Int64} (h : ¬ a - b < 0) : ¬ 0 < b - a := by
  rw [Int64.lt_iff_toInt_lt, Int64.toInt_sub, Int64.toInt_zero, Int.bmod_def] at *
  split at h <;> split <;> omega
theorem own_dE_0 : decode prog_25_method_2_code 0 = .ok (.lload_n 0, 1) := by decide +kernel
theorem own_dE_1 : decode prog_25_method_2_code 1 = .ok (.lload_n 2, 1) := by decide +kernel
theorem own_dE_2 : decode prog_25_method_2_code 2 = .ok (.lsub, 1) := by decide +kernel
theorem own_dE_3 : decode prog_25_method_2_code 3 = .ok (.lconst 0, 1) := by decide +kernel
theorem own_dE_4 : decode prog_25_method_2_code 4 = .ok (.lcmp, 1) := by decide +kernel
theorem own_dE_5 : decode prog_25_method_2_code 5 = .ok (.ifCond .ge 7, 3) := by decide +kernel
theorem own_dE_8 : decode prog_25_method_2_code 8 = .ok (.lload_n 0, 1) := by decide +kernel
theorem own_dE_9 : decode prog_25_method_2_code 9 = .ok (.goto 4, 3) := by decide +kernel
theorem own_dE_12 : decode prog_25_method_2_code 12 = .ok (.lload_n 2, 1) := by decide +kernel
theorem own_dE_13 : decode prog_25_method_2_code 13 = .ok (.lreturn, 1) := by decide +kernel
theorem own_efE (m : MethodId) (xa : Int64) (xb : Int64) : entryFrame m #[(.long xa), (.long xb)] 4 = mkF m 0 #[.val (.long xa), .second, .val (.long xb), .second] [] := by first | (simp [entryFrame, mkF, argsToLocals, Value.category]; done) | rfl
def own_QE (Z : State) (xa : Int64) (xb : Int64) (xr : Int64) (h0 : Heap) (n0 : Nat) (v : Option Value) (h : Heap) (L : List Loc) : Prop := v = some (.long xr) ∧ Fr n0 L ∧ h = h0
theorem own_pn0 : plainName "com/example/leased/leased/Waits" = true := by first | (simp [plainName, overriddenIn]; done) | decide +kernel
set_option maxRecDepth 65536 in
set_option maxHeartbeats 40000000 in
theorem own_rE (l : Launch) (Z : State) (a0 : Array Value) (hw : ∀ d ∈ tables_1, d.before a0 Z = true) (ws : List Jvm.Cond) (xa : Int64) (xb : Int64) (xr : Int64) (h0 : Heap) (n0 : Nat) (Z0 : n0 ≤ h0.size) (hv : (if xa - xb < 0 then xa else xb) = xr) :
    MetFree l (⟨"com/example/leased/leased/Waits", "earlier", "(JJ)J"⟩ : MethodName) (head1 (Jvm.Cond.code (⟨"com/example/leased/leased/Waits", "earlier", "(JJ)J"⟩ : MethodName) prog_25_method_2_code 4 (some .long) :: ws) ({ frames := 0, cells := 0, slots := 0, locals := 0 } : Room)) (fun a U => a = #[(.long xa), (.long xb)] ∧ Z.Warmed39 U.vm ∧ U.heap = h0) (fun _ _ _ _ _ => True) (fun _ U o U' => ∃ v L, o = .returned v ∧ own_QE Z xa xb xr h0 n0 v U'.heap L ∧ FrameEnd U o U' L ({ frames := 0, cells := 0, slots := 0, locals := 0 } : Room).cells ({ frames := 0, cells := 0, slots := 0, locals := 0 } : Room).slots) := by
  refine MetFree.of_bodySF (plainFor_of_name own_pn0) hisR ?_
  intro p e s m args below meth c s₁ Bd hml0 hP hK
  obtain ⟨rfl, hZ, hh⟩ := hP
  have hx := Bd.exec
  have hby := Bd.bytes
  have hml : c.maxLocals = 4 := hml0
  have hown : s.vm.findClass "com/example/leased/leased/Waits" = some m.cls := findClass_of_methodNamed Bd.named
  have hnm := (name_of_methodNamed Bd.named Bd.method).1
  have X0 : Stand p l e ({ frames := 0, cells := 0, slots := 0, locals := 0 } : Room) s m #[(.long xa), (.long xb)] below meth c s₁ [] 0 0 := Stand.of_body Bd
  have e0 : s₁.heap = h0 := by rw [← hh, Bd.state]; rfl
  have N0 := Fr.nil n0
  show own_F p e below (fun o U' => ∃ v L, o = .returned v ∧ own_QE Z xa xb xr h0 n0 v U'.heap L ∧ FrameEnd s o U' L ({ frames := 0, cells := 0, slots := 0, locals := 0 } : Room).cells ({ frames := 0, cells := 0, slots := 0, locals := 0 } : Room).slots) s₁ (entryFrame m #[(.long xa), (.long xb)] 4)
  rw [own_efE m xa xb]
  refine own_go (T' := s₁) (g' := (mkF m 1 #[.val (.long xa), .second, .val (.long xb), .second] [(.long xa)])) (fun _ k => XS.lloadN X0.here hx rfl (hb hby own_dE_0) rfl k) ?_
  refine own_go (T' := s₁) (g' := (mkF m 2 #[.val (.long xa), .second, .val (.long xb), .second] [(.long xb), (.long xa)])) (fun _ k => XS.lloadN X0.here hx rfl (hb hby own_dE_1) rfl k) ?_
  refine own_go (T' := s₁) (g' := (mkF m 3 #[.val (.long xa), .second, .val (.long xb), .second] [(.long (xa - xb))])) (fun _ k => XS.lsub X0.here hx rfl (hb hby own_dE_2) rfl k) ?_
  refine own_go (T' := s₁) (g' := (mkF m 4 #[.val (.long xa), .second, .val (.long xb), .second] [(.long (0 : Int64)), (.long (xa - xb))])) (fun _ k => XS.lconst X0.here hx rfl (hb hby own_dE_3) k) ?_
  refine own_go (T' := s₁) (g' := (mkF m 5 #[.val (.long xa), .second, .val (.long xb), .second] [(.int (lcmpW (xa - xb) (0 : Int64)))])) (fun _ k => XS.lcmp X0.here hx rfl (hb hby own_dE_4) rfl k) ?_
  by_cases hc5 : (xa - xb) < (0 : Int64)
  · refine own_go (T' := s₁) (g' := (mkF m 8 #[.val (.long xa), .second, .val (.long xb), .second] [])) (fun _ k => XS.ifNo X0.here hx rfl (hb hby own_dE_5) rfl ((if0 _ _).trans (tlt ((own_lt_t (hc5)) : (lcmpW (xa - xb) (0 : Int64)) < (0 : Int32))).2.1) k) ?_
    refine own_go (T' := s₁) (g' := (mkF m 9 #[.val (.long xa), .second, .val (.long xb), .second] [(.long xa)])) (fun _ k => XS.lloadN X0.here hx rfl (hb hby own_dE_8) rfl k) ?_
    refine own_go (T' := s₁) (g' := (mkF m 13 #[.val (.long xa), .second, .val (.long xb), .second] [(.long xa)])) (fun _ k => XS.goto X0.here hx rfl (pc0 := 9) (pc' := 13) rfl (hb hby own_dE_9) (by decide) (by decide) k) ?_
    obtain ⟨fs, hr, hrun, hended, hW, hsame⟩ := X0.leave (v := some (.long xa)) (fun h => by rw [Bd.returns] at h; cases h)
    refine own_end (retOut X0 hx Bd.returns rfl (Or.inr (Or.inl ⟨rfl, rfl, _, rfl⟩)) (hb hby own_dE_13) hr) hrun hended ⟨_, _, rfl, (?_ : own_QE Z xa xb xr h0 n0 _ s₁.heap _), ⟨_, rfl⟩, hW, hsame.mono (by decide) (by decide)⟩
    rw [e0]
    exact ⟨by rw [← hv, if_pos hc5], N0, rfl⟩
  · refine own_go (T' := s₁) (g' := (mkF m 12 #[.val (.long xa), .second, .val (.long xb), .second] [])) (fun _ k => XS.ifYes X0.here hx rfl (pc0 := 5) (pc' := 12) rfl (hb hby own_dE_5) rfl ((if0 _ _).trans (flt ((own_lt_f (hc5)) : ¬ ((lcmpW (xa - xb) (0 : Int64)) < (0 : Int32)))).2.1) (by decide) (by decide) k) ?_
    refine own_go (T' := s₁) (g' := (mkF m 13 #[.val (.long xa), .second, .val (.long xb), .second] [(.long xb)])) (fun _ k => XS.lloadN X0.here hx rfl (hb hby own_dE_12) rfl k) ?_
    obtain ⟨fs, hr, hrun, hended, hW, hsame⟩ := X0.leave (v := some (.long xb)) (fun h => by rw [Bd.returns] at h; cases h)
    refine own_end (retOut X0 hx Bd.returns rfl (Or.inr (Or.inl ⟨rfl, rfl, _, rfl⟩)) (hb hby own_dE_13) hr) hrun hended ⟨_, _, rfl, (?_ : own_QE Z xa xb xr h0 n0 _ s₁.heap _), ⟨_, rfl⟩, hW, hsame.mono (by decide) (by decide)⟩
    rw [e0]
    exact ⟨by rw [← hv, if_neg hc5], N0, rfl⟩
theorem own_pd0 : parseMethodDescriptor "(JJ)J" = some ⟨[.long, .long], some .long⟩ := by decide +kernel
theorem own_efL (m : MethodId) (xa : Int64) (xb : Int64) : entryFrame m #[(.long xa), (.long xb)] maxLocals = mkF m 0 #[.val (.long xa), .second, .val (.long xb), .second, .unset, .unset, .unset, .unset, .unset, .unset] [] := by first | (simp [entryFrame, mkF, argsToLocals, Value.category, maxLocals]; done) | rfl
def own_QL (Z : State) (xa : Int64) (xb : Int64)  (h0 : Heap) (n0 : Nat) (v : Option Value) (h : Heap) (L : List Loc) : Prop := v = some (.int (1 : Int32)) ∧ Fr n0 L
theorem own_pn1 : plainName "com/example/leased/leased/WaitsEarlierPinLaw" = true := by first | (simp [plainName, overriddenIn]; done) | decide +kernel
set_option maxRecDepth 65536 in
set_option maxHeartbeats 40000000 in
theorem own_rL (l : Launch) (Z : State) (a0 : Array Value) (hw : ∀ d ∈ tables_1, d.before a0 Z = true) (ws : List Jvm.Cond) (xa : Int64) (xb : Int64)  (h0 : Heap) (n0 : Nat) (Z0 : n0 ≤ h0.size) :
    MetFree l x (head1 (Jvm.Cond.code x code maxLocals ret :: ws) room_1) (fun a U => a = #[(.long xa), (.long xb)] ∧ Z.Warmed39 U.vm ∧ U.heap = h0) (fun _ _ _ _ _ => True) (fun _ U o U' => ∃ v L, o = .returned v ∧ own_QL Z xa xb h0 n0 v U'.heap L ∧ FrameEnd U o U' L room_1.cells room_1.slots) := by
  refine MetFree.of_bodySF (plainFor_of_name own_pn1) hisR ?_
  intro p e s m args below meth c s₁ Bd hml0 hP hK
  obtain ⟨rfl, hZ, hh⟩ := hP
  have hx := Bd.exec
  have hby := Bd.bytes
  have hml : c.maxLocals = 10 := hml0
  have hown : s.vm.findClass "com/example/leased/leased/WaitsEarlierPinLaw" = some m.cls := findClass_of_methodNamed Bd.named
  have hnm := (name_of_methodNamed Bd.named Bd.method).1
  have X0 : Stand p l e room_1 s m #[(.long xa), (.long xb)] below meth c s₁ [] 0 0 := Stand.of_body Bd
  have e0 : s₁.heap = h0 := by rw [← hh, Bd.state]; rfl
  have N0 := Fr.nil n0
  show own_F p e below (fun o U' => ∃ v L, o = .returned v ∧ own_QL Z xa xb h0 n0 v U'.heap L ∧ FrameEnd s o U' L room_1.cells room_1.slots) s₁ (entryFrame m #[(.long xa), (.long xb)] maxLocals)
  rw [own_efL m xa xb]
  by_cases hd : xa - xb < 0
  · refine own_go (T' := s₁) (g' := (mkF m 1 #[.val (.long xa), .second, .val (.long xb), .second, .unset, .unset, .unset, .unset, .unset, .unset] [(.long xa)])) (fun _ k => XS.lloadN X0.here hx rfl (hb hby at_0) rfl k) ?_
    refine own_go (T' := s₁) (g' := (mkF m 2 #[.val (.long xa), .second, .val (.long xb), .second, .unset, .unset, .unset, .unset, .unset, .unset] [(.long xb), (.long xa)])) (fun _ k => XS.lloadN X0.here hx rfl (hb hby at_1) rfl k) ?_
    obtain ⟨_, _, ⟨T1, L1, k1, n1⟩, -, X1, ⟨Lc1, hQ1, l1, y1, z1⟩, st1⟩ := Jvm.LawKit.callS X0 hx (y := (⟨"com/example/leased/leased/Waits", "earlier", "(JJ)J"⟩ : MethodName)) hown (mvT hZ (hw _ (List.mem_of_getElem? (i := 0) rfl))) (mvT hZ (hw _ (List.mem_of_getElem? (i := 1) rfl))) (mvT hZ (hw _ (List.mem_of_getElem? (i := 2) rfl))) (mvT hZ (hw _ (List.mem_of_getElem? (i := 3) rfl))) (by decide) (backOf (W := 0) (own_rE l Z a0 hw [] xa xb xa h0 n0 Z0 (if_pos hd)) hZ (hw _ (List.mem_of_getElem? (i := 3) rfl)) (hw _ (List.mem_of_getElem? (i := 2) rfl)) (by decide) (by decide)) (g := (mkF m 2 #[.val (.long xa), .second, .val (.long xb), .second, .unset, .unset, .unset, .unset, .unset, .unset] [(.long xb), (.long xa)])) rfl (by rw [hml]; rfl) (argsL := [(.long xa), (.long xb)]) (rest := []) (lenOf own_pd0 rfl) rfl (by show 2 * 0 + _ ≤ _; exact Nat.le_of_eq rfl) (hb hby at_2) (fun _ _ => ⟨rfl, e0, (by decide : 0 + 0 ≤ _), (by decide : 0 + 0 ≤ _)⟩)
    dsimp only [Pt.U, Pt.locs, Pt.cells, Pt.slots] at X1 l1 y1 z1 st1 hQ1
    subst l1 y1 z1
    obtain ⟨rfl, N1q, e1⟩ := hQ1
    have N1 := Fr.app N0 N1q
    refine own_go (T' := T1) (g' := (mkF m 5 #[.val (.long xa), .second, .val (.long xb), .second, .unset, .unset, .unset, .unset, .unset, .unset] [(.long xa)])) (fun _ k => st1 _ k) ?_
    refine own_go (T' := T1) (g' := (mkF m 7 #[.val (.long xa), .second, .val (.long xb), .second, .val (.long xa), .second, .unset, .unset, .unset, .unset] [])) (fun _ k => XS.lstore X1.here hx rfl (hb hby at_5) rfl (l' := #[.val (.long xa), .second, .val (.long xb), .second, .val (.long xa), .second, .unset, .unset, .unset, .unset]) rfl k) ?_
    refine own_go (T' := T1) (g' := (mkF m 9 #[.val (.long xa), .second, .val (.long xb), .second, .val (.long xa), .second, .unset, .unset, .unset, .unset] [(.long xa)])) (fun _ k => XS.lload X1.here hx rfl (hb hby at_7) rfl k) ?_
    refine own_go (T' := T1) (g' := (mkF m 10 #[.val (.long xa), .second, .val (.long xb), .second, .val (.long xa), .second, .unset, .unset, .unset, .unset] [(.long xa), (.long xa)])) (fun _ k => XS.lloadN X1.here hx rfl (hb hby at_9) rfl k) ?_
    refine own_go (T' := T1) (g' := (mkF m 11 #[.val (.long xa), .second, .val (.long xb), .second, .val (.long xa), .second, .unset, .unset, .unset, .unset] [(.int (lcmpW xa xa))])) (fun _ k => XS.lcmp X1.here hx rfl (hb hby at_10) rfl k) ?_
    refine own_go (T' := T1) (g' := (mkF m 21 #[.val (.long xa), .second, .val (.long xb), .second, .val (.long xa), .second, .unset, .unset, .unset, .unset] [])) (fun _ k => XS.ifYes X1.here hx rfl (pc0 := 11) (pc' := 21) rfl (hb hby at_11) rfl ((if0 _ _).trans (teq ((own_eq_t (rfl)) : (lcmpW xa xa) = (0 : Int32))).1) (by decide) (by decide) k) ?_
    refine own_go (T' := T1) (g' := (mkF m 22 #[.val (.long xa), .second, .val (.long xb), .second, .val (.long xa), .second, .unset, .unset, .unset, .unset] [(.int (1 : Int32))])) (fun _ k => XS.iconst X1.here hx rfl (hb hby at_21) k) ?_
    refine own_go (T' := T1) (g' := (mkF m 26 #[.val (.long xa), .second, .val (.long xb), .second, .val (.long xa), .second, .unset, .unset, .unset, .unset] [(.int (1 : Int32))])) (fun _ k => XS.goto X1.here hx rfl (pc0 := 22) (pc' := 26) rfl (hb hby at_22) (by decide) (by decide) k) ?_
    refine own_go (T' := T1) (g' := (mkF m 28 #[.val (.long xa), .second, .val (.long xb), .second, .val (.long xa), .second, .val (.int (1 : Int32)), .unset, .unset, .unset] [])) (fun _ k => XS.istore X1.here hx rfl (hb hby at_26) rfl (l' := #[.val (.long xa), .second, .val (.long xb), .second, .val (.long xa), .second, .val (.int (1 : Int32)), .unset, .unset, .unset]) rfl k) ?_
    refine own_go (T' := T1) (g' := (mkF m 30 #[.val (.long xa), .second, .val (.long xb), .second, .val (.long xa), .second, .val (.int (1 : Int32)), .unset, .unset, .unset] [(.long xa)])) (fun _ k => XS.lload X1.here hx rfl (hb hby at_28) rfl k) ?_
    refine own_go (T' := T1) (g' := (mkF m 31 #[.val (.long xa), .second, .val (.long xb), .second, .val (.long xa), .second, .val (.int (1 : Int32)), .unset, .unset, .unset] [(.long xa), (.long xa)])) (fun _ k => XS.lloadN X1.here hx rfl (hb hby at_30) rfl k) ?_
    refine own_go (T' := T1) (g' := (mkF m 32 #[.val (.long xa), .second, .val (.long xb), .second, .val (.long xa), .second, .val (.int (1 : Int32)), .unset, .unset, .unset] [(.long (xa - xa))])) (fun _ k => XS.lsub X1.here hx rfl (hb hby at_31) rfl k) ?_
    refine own_go (T' := T1) (g' := (mkF m 33 #[.val (.long xa), .second, .val (.long xb), .second, .val (.long xa), .second, .val (.int (1 : Int32)), .unset, .unset, .unset] [(.long (0 : Int64)), (.long (xa - xa))])) (fun _ k => XS.lconst X1.here hx rfl (hb hby at_32) k) ?_
    refine own_go (T' := T1) (g' := (mkF m 34 #[.val (.long xa), .second, .val (.long xb), .second, .val (.long xa), .second, .val (.int (1 : Int32)), .unset, .unset, .unset] [(.int (lcmpW (xa - xa) (0 : Int64)))])) (fun _ k => XS.lcmp X1.here hx rfl (hb hby at_33) rfl k) ?_
    refine own_go (T' := T1) (g' := (mkF m 37 #[.val (.long xa), .second, .val (.long xb), .second, .val (.long xa), .second, .val (.int (1 : Int32)), .unset, .unset, .unset] [])) (fun _ k => XS.ifNo X1.here hx rfl (hb hby at_34) rfl ((if0 _ _).trans (flt ((own_gt_f (own_sub_self xa)) : ¬ ((0 : Int32) < (lcmpW (xa - xa) (0 : Int64))))).2.2.1) k) ?_
    refine own_go (T' := T1) (g' := (mkF m 38 #[.val (.long xa), .second, .val (.long xb), .second, .val (.long xa), .second, .val (.int (1 : Int32)), .unset, .unset, .unset] [(.int (1 : Int32))])) (fun _ k => XS.iconst X1.here hx rfl (hb hby at_37) k) ?_
    refine own_go (T' := T1) (g' := (mkF m 42 #[.val (.long xa), .second, .val (.long xb), .second, .val (.long xa), .second, .val (.int (1 : Int32)), .unset, .unset, .unset] [(.int (1 : Int32))])) (fun _ k => XS.goto X1.here hx rfl (pc0 := 38) (pc' := 42) rfl (hb hby at_38) (by decide) (by decide) k) ?_
    refine own_go (T' := T1) (g' := (mkF m 44 #[.val (.long xa), .second, .val (.long xb), .second, .val (.long xa), .second, .val (.int (1 : Int32)), .val (.int (1 : Int32)), .unset, .unset] [])) (fun _ k => XS.istore X1.here hx rfl (hb hby at_42) rfl (l' := #[.val (.long xa), .second, .val (.long xb), .second, .val (.long xa), .second, .val (.int (1 : Int32)), .val (.int (1 : Int32)), .unset, .unset]) rfl k) ?_
    refine own_go (T' := T1) (g' := (mkF m 46 #[.val (.long xa), .second, .val (.long xb), .second, .val (.long xa), .second, .val (.int (1 : Int32)), .val (.int (1 : Int32)), .unset, .unset] [(.long xa)])) (fun _ k => XS.lload X1.here hx rfl (hb hby at_44) rfl k) ?_
    refine own_go (T' := T1) (g' := (mkF m 47 #[.val (.long xa), .second, .val (.long xb), .second, .val (.long xa), .second, .val (.int (1 : Int32)), .val (.int (1 : Int32)), .unset, .unset] [(.long xb), (.long xa)])) (fun _ k => XS.lloadN X1.here hx rfl (hb hby at_46) rfl k) ?_
    refine own_go (T' := T1) (g' := (mkF m 48 #[.val (.long xa), .second, .val (.long xb), .second, .val (.long xa), .second, .val (.int (1 : Int32)), .val (.int (1 : Int32)), .unset, .unset] [(.long (xa - xb))])) (fun _ k => XS.lsub X1.here hx rfl (hb hby at_47) rfl k) ?_
    refine own_go (T' := T1) (g' := (mkF m 49 #[.val (.long xa), .second, .val (.long xb), .second, .val (.long xa), .second, .val (.int (1 : Int32)), .val (.int (1 : Int32)), .unset, .unset] [(.long (0 : Int64)), (.long (xa - xb))])) (fun _ k => XS.lconst X1.here hx rfl (hb hby at_48) k) ?_
    refine own_go (T' := T1) (g' := (mkF m 50 #[.val (.long xa), .second, .val (.long xb), .second, .val (.long xa), .second, .val (.int (1 : Int32)), .val (.int (1 : Int32)), .unset, .unset] [(.int (lcmpW (xa - xb) (0 : Int64)))])) (fun _ k => XS.lcmp X1.here hx rfl (hb hby at_49) rfl k) ?_
    refine own_go (T' := T1) (g' := (mkF m 53 #[.val (.long xa), .second, .val (.long xb), .second, .val (.long xa), .second, .val (.int (1 : Int32)), .val (.int (1 : Int32)), .unset, .unset] [])) (fun _ k => XS.ifNo X1.here hx rfl (hb hby at_50) rfl ((if0 _ _).trans (flt ((own_gt_f (own_not_gt hd)) : ¬ ((0 : Int32) < (lcmpW (xa - xb) (0 : Int64))))).2.2.1) k) ?_
    refine own_go (T' := T1) (g' := (mkF m 54 #[.val (.long xa), .second, .val (.long xb), .second, .val (.long xa), .second, .val (.int (1 : Int32)), .val (.int (1 : Int32)), .unset, .unset] [(.int (1 : Int32))])) (fun _ k => XS.iconst X1.here hx rfl (hb hby at_53) k) ?_
    refine own_go (T' := T1) (g' := (mkF m 58 #[.val (.long xa), .second, .val (.long xb), .second, .val (.long xa), .second, .val (.int (1 : Int32)), .val (.int (1 : Int32)), .unset, .unset] [(.int (1 : Int32))])) (fun _ k => XS.goto X1.here hx rfl (pc0 := 54) (pc' := 58) rfl (hb hby at_54) (by decide) (by decide) k) ?_
    refine own_go (T' := T1) (g' := (mkF m 60 #[.val (.long xa), .second, .val (.long xb), .second, .val (.long xa), .second, .val (.int (1 : Int32)), .val (.int (1 : Int32)), .val (.int (1 : Int32)), .unset] [])) (fun _ k => XS.istore X1.here hx rfl (hb hby at_58) rfl (l' := #[.val (.long xa), .second, .val (.long xb), .second, .val (.long xa), .second, .val (.int (1 : Int32)), .val (.int (1 : Int32)), .val (.int (1 : Int32)), .unset]) rfl k) ?_
    refine own_go (T' := T1) (g' := (mkF m 61 #[.val (.long xa), .second, .val (.long xb), .second, .val (.long xa), .second, .val (.int (1 : Int32)), .val (.int (1 : Int32)), .val (.int (1 : Int32)), .unset] [(.long xa)])) (fun _ k => XS.lloadN X1.here hx rfl (hb hby at_60) rfl k) ?_
    refine own_go (T' := T1) (g' := (mkF m 62 #[.val (.long xa), .second, .val (.long xb), .second, .val (.long xa), .second, .val (.int (1 : Int32)), .val (.int (1 : Int32)), .val (.int (1 : Int32)), .unset] [(.long xb), (.long xa)])) (fun _ k => XS.lloadN X1.here hx rfl (hb hby at_61) rfl k) ?_
    refine own_go (T' := T1) (g' := (mkF m 63 #[.val (.long xa), .second, .val (.long xb), .second, .val (.long xa), .second, .val (.int (1 : Int32)), .val (.int (1 : Int32)), .val (.int (1 : Int32)), .unset] [(.long (xa - xb))])) (fun _ k => XS.lsub X1.here hx rfl (hb hby at_62) rfl k) ?_
    refine own_go (T' := T1) (g' := (mkF m 66 #[.val (.long xa), .second, .val (.long xb), .second, .val (.long xa), .second, .val (.int (1 : Int32)), .val (.int (1 : Int32)), .val (.int (1 : Int32)), .unset] [(.long (-9223372036854775808 : Int64)), (.long (xa - xb))])) (fun _ k => X1.ldc2Long hx hown (mvT hZ (hw _ (List.mem_of_getElem? (i := 4) rfl))) (g := (mkF m 63 #[.val (.long xa), .second, .val (.long xb), .second, .val (.long xa), .second, .val (.int (1 : Int32)), .val (.int (1 : Int32)), .val (.int (1 : Int32)), .unset] [(.long (xa - xb))])) rfl (hb hby at_63) _ k) ?_
    refine own_go (T' := T1) (g' := (mkF m 67 #[.val (.long xa), .second, .val (.long xb), .second, .val (.long xa), .second, .val (.int (1 : Int32)), .val (.int (1 : Int32)), .val (.int (1 : Int32)), .unset] [(.int (lcmpW (xa - xb) (-9223372036854775808 : Int64)))])) (fun _ k => XS.lcmp X1.here hx rfl (hb hby at_66) rfl k) ?_
    by_cases hc67 : (xa - xb) = (-9223372036854775808 : Int64)
    · refine own_go (T' := T1) (g' := (mkF m 70 #[.val (.long xa), .second, .val (.long xb), .second, .val (.long xa), .second, .val (.int (1 : Int32)), .val (.int (1 : Int32)), .val (.int (1 : Int32)), .unset] [])) (fun _ k => XS.ifNo X1.here hx rfl (hb hby at_67) rfl ((if0 _ _).trans (teq ((own_eq_t (hc67)) : (lcmpW (xa - xb) (-9223372036854775808 : Int64)) = (0 : Int32))).2) k) ?_
      refine own_go (T' := T1) (g' := (mkF m 72 #[.val (.long xa), .second, .val (.long xb), .second, .val (.long xa), .second, .val (.int (1 : Int32)), .val (.int (1 : Int32)), .val (.int (1 : Int32)), .unset] [(.long xa)])) (fun _ k => XS.lload X1.here hx rfl (hb hby at_70) rfl k) ?_
      refine own_go (T' := T1) (g' := (mkF m 73 #[.val (.long xa), .second, .val (.long xb), .second, .val (.long xa), .second, .val (.int (1 : Int32)), .val (.int (1 : Int32)), .val (.int (1 : Int32)), .unset] [(.long xa), (.long xa)])) (fun _ k => XS.lloadN X1.here hx rfl (hb hby at_72) rfl k) ?_
      refine own_go (T' := T1) (g' := (mkF m 74 #[.val (.long xa), .second, .val (.long xb), .second, .val (.long xa), .second, .val (.int (1 : Int32)), .val (.int (1 : Int32)), .val (.int (1 : Int32)), .unset] [(.int (lcmpW xa xa))])) (fun _ k => XS.lcmp X1.here hx rfl (hb hby at_73) rfl k) ?_
      refine own_go (T' := T1) (g' := (mkF m 77 #[.val (.long xa), .second, .val (.long xb), .second, .val (.long xa), .second, .val (.int (1 : Int32)), .val (.int (1 : Int32)), .val (.int (1 : Int32)), .unset] [])) (fun _ k => XS.ifNo X1.here hx rfl (hb hby at_74) rfl ((if0 _ _).trans (teq ((own_eq_t (rfl)) : (lcmpW xa xa) = (0 : Int32))).2) k) ?_
      refine own_go (T' := T1) (g' := (mkF m 78 #[.val (.long xa), .second, .val (.long xb), .second, .val (.long xa), .second, .val (.int (1 : Int32)), .val (.int (1 : Int32)), .val (.int (1 : Int32)), .unset] [(.int (1 : Int32))])) (fun _ k => XS.iconst X1.here hx rfl (hb hby at_77) k) ?_
      refine own_go (T' := T1) (g' := (mkF m 82 #[.val (.long xa), .second, .val (.long xb), .second, .val (.long xa), .second, .val (.int (1 : Int32)), .val (.int (1 : Int32)), .val (.int (1 : Int32)), .unset] [(.int (1 : Int32))])) (fun _ k => XS.goto X1.here hx rfl (pc0 := 78) (pc' := 82) rfl (hb hby at_78) (by decide) (by decide) k) ?_
      refine own_go (T' := T1) (g' := (mkF m 84 #[.val (.long xa), .second, .val (.long xb), .second, .val (.long xa), .second, .val (.int (1 : Int32)), .val (.int (1 : Int32)), .val (.int (1 : Int32)), .val (.int (1 : Int32))] [])) (fun _ k => XS.istore X1.here hx rfl (hb hby at_82) rfl (l' := #[.val (.long xa), .second, .val (.long xb), .second, .val (.long xa), .second, .val (.int (1 : Int32)), .val (.int (1 : Int32)), .val (.int (1 : Int32)), .val (.int (1 : Int32))]) rfl k) ?_
      refine own_go (T' := T1) (g' := (mkF m 86 #[.val (.long xa), .second, .val (.long xb), .second, .val (.long xa), .second, .val (.int (1 : Int32)), .val (.int (1 : Int32)), .val (.int (1 : Int32)), .val (.int (1 : Int32))] [(.int (1 : Int32))])) (fun _ k => XS.iload X1.here hx rfl (hb hby at_84) rfl k) ?_
      refine own_go (T' := T1) (g' := (mkF m 89 #[.val (.long xa), .second, .val (.long xb), .second, .val (.long xa), .second, .val (.int (1 : Int32)), .val (.int (1 : Int32)), .val (.int (1 : Int32)), .val (.int (1 : Int32))] [])) (fun _ k => XS.ifNo X1.here hx rfl (hb hby at_86) rfl ((if0 _ _).trans (feq ((by decide) : ¬ ((1 : Int32) = (0 : Int32)))).1) k) ?_
      refine own_go (T' := T1) (g' := (mkF m 91 #[.val (.long xa), .second, .val (.long xb), .second, .val (.long xa), .second, .val (.int (1 : Int32)), .val (.int (1 : Int32)), .val (.int (1 : Int32)), .val (.int (1 : Int32))] [(.int (1 : Int32))])) (fun _ k => XS.iload X1.here hx rfl (hb hby at_89) rfl k) ?_
      refine own_go (T' := T1) (g' := (mkF m 94 #[.val (.long xa), .second, .val (.long xb), .second, .val (.long xa), .second, .val (.int (1 : Int32)), .val (.int (1 : Int32)), .val (.int (1 : Int32)), .val (.int (1 : Int32))] [])) (fun _ k => XS.ifNo X1.here hx rfl (hb hby at_91) rfl ((if0 _ _).trans (feq ((by decide) : ¬ ((1 : Int32) = (0 : Int32)))).1) k) ?_
      refine own_go (T' := T1) (g' := (mkF m 96 #[.val (.long xa), .second, .val (.long xb), .second, .val (.long xa), .second, .val (.int (1 : Int32)), .val (.int (1 : Int32)), .val (.int (1 : Int32)), .val (.int (1 : Int32))] [(.int (1 : Int32))])) (fun _ k => XS.iload X1.here hx rfl (hb hby at_94) rfl k) ?_
      refine own_go (T' := T1) (g' := (mkF m 99 #[.val (.long xa), .second, .val (.long xb), .second, .val (.long xa), .second, .val (.int (1 : Int32)), .val (.int (1 : Int32)), .val (.int (1 : Int32)), .val (.int (1 : Int32))] [])) (fun _ k => XS.ifNo X1.here hx rfl (hb hby at_96) rfl ((if0 _ _).trans (feq ((by decide) : ¬ ((1 : Int32) = (0 : Int32)))).1) k) ?_
      refine own_go (T' := T1) (g' := (mkF m 101 #[.val (.long xa), .second, .val (.long xb), .second, .val (.long xa), .second, .val (.int (1 : Int32)), .val (.int (1 : Int32)), .val (.int (1 : Int32)), .val (.int (1 : Int32))] [(.int (1 : Int32))])) (fun _ k => XS.iload X1.here hx rfl (hb hby at_99) rfl k) ?_
      refine own_go (T' := T1) (g' := (mkF m 104 #[.val (.long xa), .second, .val (.long xb), .second, .val (.long xa), .second, .val (.int (1 : Int32)), .val (.int (1 : Int32)), .val (.int (1 : Int32)), .val (.int (1 : Int32))] [])) (fun _ k => XS.ifNo X1.here hx rfl (hb hby at_101) rfl ((if0 _ _).trans (feq ((by decide) : ¬ ((1 : Int32) = (0 : Int32)))).1) k) ?_
      refine own_go (T' := T1) (g' := (mkF m 105 #[.val (.long xa), .second, .val (.long xb), .second, .val (.long xa), .second, .val (.int (1 : Int32)), .val (.int (1 : Int32)), .val (.int (1 : Int32)), .val (.int (1 : Int32))] [(.int (1 : Int32))])) (fun _ k => XS.iconst X1.here hx rfl (hb hby at_104) k) ?_
      refine own_go (T' := T1) (g' := (mkF m 109 #[.val (.long xa), .second, .val (.long xb), .second, .val (.long xa), .second, .val (.int (1 : Int32)), .val (.int (1 : Int32)), .val (.int (1 : Int32)), .val (.int (1 : Int32))] [(.int (1 : Int32))])) (fun _ k => XS.goto X1.here hx rfl (pc0 := 105) (pc' := 109) rfl (hb hby at_105) (by decide) (by decide) k) ?_
      obtain ⟨fs, hr, hrun, hended, hW, hsame⟩ := X1.leave (v := some (.int (1 : Int32))) (fun h => by rw [Bd.returns] at h; cases h)
      refine own_end (retN X1 hx (t := .boolean) Bd.returns (by simp) (hb hby at_109) hr) hrun hended ⟨_, _, rfl, (?_ : own_QL Z xa xb h0 n0 _ T1.heap _), ⟨_, rfl⟩, hW, hsame.mono (by decide) (by decide)⟩
      rw [e1]
      exact ⟨rfl, N1⟩
    · refine own_go (T' := T1) (g' := (mkF m 77 #[.val (.long xa), .second, .val (.long xb), .second, .val (.long xa), .second, .val (.int (1 : Int32)), .val (.int (1 : Int32)), .val (.int (1 : Int32)), .unset] [])) (fun _ k => XS.ifYes X1.here hx rfl (pc0 := 67) (pc' := 77) rfl (hb hby at_67) rfl ((if0 _ _).trans (feq ((own_eq_f (hc67)) : ¬ ((lcmpW (xa - xb) (-9223372036854775808 : Int64)) = (0 : Int32)))).2) (by decide) (by decide) k) ?_
      refine own_go (T' := T1) (g' := (mkF m 78 #[.val (.long xa), .second, .val (.long xb), .second, .val (.long xa), .second, .val (.int (1 : Int32)), .val (.int (1 : Int32)), .val (.int (1 : Int32)), .unset] [(.int (1 : Int32))])) (fun _ k => XS.iconst X1.here hx rfl (hb hby at_77) k) ?_
      refine own_go (T' := T1) (g' := (mkF m 82 #[.val (.long xa), .second, .val (.long xb), .second, .val (.long xa), .second, .val (.int (1 : Int32)), .val (.int (1 : Int32)), .val (.int (1 : Int32)), .unset] [(.int (1 : Int32))])) (fun _ k => XS.goto X1.here hx rfl (pc0 := 78) (pc' := 82) rfl (hb hby at_78) (by decide) (by decide) k) ?_
      refine own_go (T' := T1) (g' := (mkF m 84 #[.val (.long xa), .second, .val (.long xb), .second, .val (.long xa), .second, .val (.int (1 : Int32)), .val (.int (1 : Int32)), .val (.int (1 : Int32)), .val (.int (1 : Int32))] [])) (fun _ k => XS.istore X1.here hx rfl (hb hby at_82) rfl (l' := #[.val (.long xa), .second, .val (.long xb), .second, .val (.long xa), .second, .val (.int (1 : Int32)), .val (.int (1 : Int32)), .val (.int (1 : Int32)), .val (.int (1 : Int32))]) rfl k) ?_
      refine own_go (T' := T1) (g' := (mkF m 86 #[.val (.long xa), .second, .val (.long xb), .second, .val (.long xa), .second, .val (.int (1 : Int32)), .val (.int (1 : Int32)), .val (.int (1 : Int32)), .val (.int (1 : Int32))] [(.int (1 : Int32))])) (fun _ k => XS.iload X1.here hx rfl (hb hby at_84) rfl k) ?_
      refine own_go (T' := T1) (g' := (mkF m 89 #[.val (.long xa), .second, .val (.long xb), .second, .val (.long xa), .second, .val (.int (1 : Int32)), .val (.int (1 : Int32)), .val (.int (1 : Int32)), .val (.int (1 : Int32))] [])) (fun _ k => XS.ifNo X1.here hx rfl (hb hby at_86) rfl ((if0 _ _).trans (feq ((by decide) : ¬ ((1 : Int32) = (0 : Int32)))).1) k) ?_
      refine own_go (T' := T1) (g' := (mkF m 91 #[.val (.long xa), .second, .val (.long xb), .second, .val (.long xa), .second, .val (.int (1 : Int32)), .val (.int (1 : Int32)), .val (.int (1 : Int32)), .val (.int (1 : Int32))] [(.int (1 : Int32))])) (fun _ k => XS.iload X1.here hx rfl (hb hby at_89) rfl k) ?_
      refine own_go (T' := T1) (g' := (mkF m 94 #[.val (.long xa), .second, .val (.long xb), .second, .val (.long xa), .second, .val (.int (1 : Int32)), .val (.int (1 : Int32)), .val (.int (1 : Int32)), .val (.int (1 : Int32))] [])) (fun _ k => XS.ifNo X1.here hx rfl (hb hby at_91) rfl ((if0 _ _).trans (feq ((by decide) : ¬ ((1 : Int32) = (0 : Int32)))).1) k) ?_
      refine own_go (T' := T1) (g' := (mkF m 96 #[.val (.long xa), .second, .val (.long xb), .second, .val (.long xa), .second, .val (.int (1 : Int32)), .val (.int (1 : Int32)), .val (.int (1 : Int32)), .val (.int (1 : Int32))] [(.int (1 : Int32))])) (fun _ k => XS.iload X1.here hx rfl (hb hby at_94) rfl k) ?_
      refine own_go (T' := T1) (g' := (mkF m 99 #[.val (.long xa), .second, .val (.long xb), .second, .val (.long xa), .second, .val (.int (1 : Int32)), .val (.int (1 : Int32)), .val (.int (1 : Int32)), .val (.int (1 : Int32))] [])) (fun _ k => XS.ifNo X1.here hx rfl (hb hby at_96) rfl ((if0 _ _).trans (feq ((by decide) : ¬ ((1 : Int32) = (0 : Int32)))).1) k) ?_
      refine own_go (T' := T1) (g' := (mkF m 101 #[.val (.long xa), .second, .val (.long xb), .second, .val (.long xa), .second, .val (.int (1 : Int32)), .val (.int (1 : Int32)), .val (.int (1 : Int32)), .val (.int (1 : Int32))] [(.int (1 : Int32))])) (fun _ k => XS.iload X1.here hx rfl (hb hby at_99) rfl k) ?_
      refine own_go (T' := T1) (g' := (mkF m 104 #[.val (.long xa), .second, .val (.long xb), .second, .val (.long xa), .second, .val (.int (1 : Int32)), .val (.int (1 : Int32)), .val (.int (1 : Int32)), .val (.int (1 : Int32))] [])) (fun _ k => XS.ifNo X1.here hx rfl (hb hby at_101) rfl ((if0 _ _).trans (feq ((by decide) : ¬ ((1 : Int32) = (0 : Int32)))).1) k) ?_
      refine own_go (T' := T1) (g' := (mkF m 105 #[.val (.long xa), .second, .val (.long xb), .second, .val (.long xa), .second, .val (.int (1 : Int32)), .val (.int (1 : Int32)), .val (.int (1 : Int32)), .val (.int (1 : Int32))] [(.int (1 : Int32))])) (fun _ k => XS.iconst X1.here hx rfl (hb hby at_104) k) ?_
      refine own_go (T' := T1) (g' := (mkF m 109 #[.val (.long xa), .second, .val (.long xb), .second, .val (.long xa), .second, .val (.int (1 : Int32)), .val (.int (1 : Int32)), .val (.int (1 : Int32)), .val (.int (1 : Int32))] [(.int (1 : Int32))])) (fun _ k => XS.goto X1.here hx rfl (pc0 := 105) (pc' := 109) rfl (hb hby at_105) (by decide) (by decide) k) ?_
      obtain ⟨fs, hr, hrun, hended, hW, hsame⟩ := X1.leave (v := some (.int (1 : Int32))) (fun h => by rw [Bd.returns] at h; cases h)
      refine own_end (retN X1 hx (t := .boolean) Bd.returns (by simp) (hb hby at_109) hr) hrun hended ⟨_, _, rfl, (?_ : own_QL Z xa xb h0 n0 _ T1.heap _), ⟨_, rfl⟩, hW, hsame.mono (by decide) (by decide)⟩
      rw [e1]
      exact ⟨rfl, N1⟩
  · refine own_go (T' := s₁) (g' := (mkF m 1 #[.val (.long xa), .second, .val (.long xb), .second, .unset, .unset, .unset, .unset, .unset, .unset] [(.long xa)])) (fun _ k => XS.lloadN X0.here hx rfl (hb hby at_0) rfl k) ?_
    refine own_go (T' := s₁) (g' := (mkF m 2 #[.val (.long xa), .second, .val (.long xb), .second, .unset, .unset, .unset, .unset, .unset, .unset] [(.long xb), (.long xa)])) (fun _ k => XS.lloadN X0.here hx rfl (hb hby at_1) rfl k) ?_
    obtain ⟨_, _, ⟨T2, L2, k2, n2⟩, -, X2, ⟨Lc2, hQ2, l2, y2, z2⟩, st2⟩ := Jvm.LawKit.callS X0 hx (y := (⟨"com/example/leased/leased/Waits", "earlier", "(JJ)J"⟩ : MethodName)) hown (mvT hZ (hw _ (List.mem_of_getElem? (i := 0) rfl))) (mvT hZ (hw _ (List.mem_of_getElem? (i := 1) rfl))) (mvT hZ (hw _ (List.mem_of_getElem? (i := 2) rfl))) (mvT hZ (hw _ (List.mem_of_getElem? (i := 3) rfl))) (by decide) (backOf (W := 0) (own_rE l Z a0 hw [] xa xb xb h0 n0 Z0 (if_neg hd)) hZ (hw _ (List.mem_of_getElem? (i := 3) rfl)) (hw _ (List.mem_of_getElem? (i := 2) rfl)) (by decide) (by decide)) (g := (mkF m 2 #[.val (.long xa), .second, .val (.long xb), .second, .unset, .unset, .unset, .unset, .unset, .unset] [(.long xb), (.long xa)])) rfl (by rw [hml]; rfl) (argsL := [(.long xa), (.long xb)]) (rest := []) (lenOf own_pd0 rfl) rfl (by show 2 * 0 + _ ≤ _; exact Nat.le_of_eq rfl) (hb hby at_2) (fun _ _ => ⟨rfl, e0, (by decide : 0 + 0 ≤ _), (by decide : 0 + 0 ≤ _)⟩)
    dsimp only [Pt.U, Pt.locs, Pt.cells, Pt.slots] at X2 l2 y2 z2 st2 hQ2
    subst l2 y2 z2
    obtain ⟨rfl, N2q, e2⟩ := hQ2
    have N2 := Fr.app N0 N2q
    refine own_go (T' := T2) (g' := (mkF m 5 #[.val (.long xa), .second, .val (.long xb), .second, .unset, .unset, .unset, .unset, .unset, .unset] [(.long xb)])) (fun _ k => st2 _ k) ?_
    refine own_go (T' := T2) (g' := (mkF m 7 #[.val (.long xa), .second, .val (.long xb), .second, .val (.long xb), .second, .unset, .unset, .unset, .unset] [])) (fun _ k => XS.lstore X2.here hx rfl (hb hby at_5) rfl (l' := #[.val (.long xa), .second, .val (.long xb), .second, .val (.long xb), .second, .unset, .unset, .unset, .unset]) rfl k) ?_
    refine own_go (T' := T2) (g' := (mkF m 9 #[.val (.long xa), .second, .val (.long xb), .second, .val (.long xb), .second, .unset, .unset, .unset, .unset] [(.long xb)])) (fun _ k => XS.lload X2.here hx rfl (hb hby at_7) rfl k) ?_
    refine own_go (T' := T2) (g' := (mkF m 10 #[.val (.long xa), .second, .val (.long xb), .second, .val (.long xb), .second, .unset, .unset, .unset, .unset] [(.long xa), (.long xb)])) (fun _ k => XS.lloadN X2.here hx rfl (hb hby at_9) rfl k) ?_
    refine own_go (T' := T2) (g' := (mkF m 11 #[.val (.long xa), .second, .val (.long xb), .second, .val (.long xb), .second, .unset, .unset, .unset, .unset] [(.int (lcmpW xb xa))])) (fun _ k => XS.lcmp X2.here hx rfl (hb hby at_10) rfl k) ?_
    by_cases hc11 : xb = xa
    · refine own_go (T' := T2) (g' := (mkF m 21 #[.val (.long xa), .second, .val (.long xb), .second, .val (.long xb), .second, .unset, .unset, .unset, .unset] [])) (fun _ k => XS.ifYes X2.here hx rfl (pc0 := 11) (pc' := 21) rfl (hb hby at_11) rfl ((if0 _ _).trans (teq ((own_eq_t (hc11)) : (lcmpW xb xa) = (0 : Int32))).1) (by decide) (by decide) k) ?_
      refine own_go (T' := T2) (g' := (mkF m 22 #[.val (.long xa), .second, .val (.long xb), .second, .val (.long xb), .second, .unset, .unset, .unset, .unset] [(.int (1 : Int32))])) (fun _ k => XS.iconst X2.here hx rfl (hb hby at_21) k) ?_
      refine own_go (T' := T2) (g' := (mkF m 26 #[.val (.long xa), .second, .val (.long xb), .second, .val (.long xb), .second, .unset, .unset, .unset, .unset] [(.int (1 : Int32))])) (fun _ k => XS.goto X2.here hx rfl (pc0 := 22) (pc' := 26) rfl (hb hby at_22) (by decide) (by decide) k) ?_
      refine own_go (T' := T2) (g' := (mkF m 28 #[.val (.long xa), .second, .val (.long xb), .second, .val (.long xb), .second, .val (.int (1 : Int32)), .unset, .unset, .unset] [])) (fun _ k => XS.istore X2.here hx rfl (hb hby at_26) rfl (l' := #[.val (.long xa), .second, .val (.long xb), .second, .val (.long xb), .second, .val (.int (1 : Int32)), .unset, .unset, .unset]) rfl k) ?_
      refine own_go (T' := T2) (g' := (mkF m 30 #[.val (.long xa), .second, .val (.long xb), .second, .val (.long xb), .second, .val (.int (1 : Int32)), .unset, .unset, .unset] [(.long xb)])) (fun _ k => XS.lload X2.here hx rfl (hb hby at_28) rfl k) ?_
      refine own_go (T' := T2) (g' := (mkF m 31 #[.val (.long xa), .second, .val (.long xb), .second, .val (.long xb), .second, .val (.int (1 : Int32)), .unset, .unset, .unset] [(.long xa), (.long xb)])) (fun _ k => XS.lloadN X2.here hx rfl (hb hby at_30) rfl k) ?_
      refine own_go (T' := T2) (g' := (mkF m 32 #[.val (.long xa), .second, .val (.long xb), .second, .val (.long xb), .second, .val (.int (1 : Int32)), .unset, .unset, .unset] [(.long (xb - xa))])) (fun _ k => XS.lsub X2.here hx rfl (hb hby at_31) rfl k) ?_
      refine own_go (T' := T2) (g' := (mkF m 33 #[.val (.long xa), .second, .val (.long xb), .second, .val (.long xb), .second, .val (.int (1 : Int32)), .unset, .unset, .unset] [(.long (0 : Int64)), (.long (xb - xa))])) (fun _ k => XS.lconst X2.here hx rfl (hb hby at_32) k) ?_
      refine own_go (T' := T2) (g' := (mkF m 34 #[.val (.long xa), .second, .val (.long xb), .second, .val (.long xb), .second, .val (.int (1 : Int32)), .unset, .unset, .unset] [(.int (lcmpW (xb - xa) (0 : Int64)))])) (fun _ k => XS.lcmp X2.here hx rfl (hb hby at_33) rfl k) ?_
      refine own_go (T' := T2) (g' := (mkF m 37 #[.val (.long xa), .second, .val (.long xb), .second, .val (.long xb), .second, .val (.int (1 : Int32)), .unset, .unset, .unset] [])) (fun _ k => XS.ifNo X2.here hx rfl (hb hby at_34) rfl ((if0 _ _).trans (flt ((own_gt_f (own_flip hd)) : ¬ ((0 : Int32) < (lcmpW (xb - xa) (0 : Int64))))).2.2.1) k) ?_
      refine own_go (T' := T2) (g' := (mkF m 38 #[.val (.long xa), .second, .val (.long xb), .second, .val (.long xb), .second, .val (.int (1 : Int32)), .unset, .unset, .unset] [(.int (1 : Int32))])) (fun _ k => XS.iconst X2.here hx rfl (hb hby at_37) k) ?_
      refine own_go (T' := T2) (g' := (mkF m 42 #[.val (.long xa), .second, .val (.long xb), .second, .val (.long xb), .second, .val (.int (1 : Int32)), .unset, .unset, .unset] [(.int (1 : Int32))])) (fun _ k => XS.goto X2.here hx rfl (pc0 := 38) (pc' := 42) rfl (hb hby at_38) (by decide) (by decide) k) ?_
      refine own_go (T' := T2) (g' := (mkF m 44 #[.val (.long xa), .second, .val (.long xb), .second, .val (.long xb), .second, .val (.int (1 : Int32)), .val (.int (1 : Int32)), .unset, .unset] [])) (fun _ k => XS.istore X2.here hx rfl (hb hby at_42) rfl (l' := #[.val (.long xa), .second, .val (.long xb), .second, .val (.long xb), .second, .val (.int (1 : Int32)), .val (.int (1 : Int32)), .unset, .unset]) rfl k) ?_
      refine own_go (T' := T2) (g' := (mkF m 46 #[.val (.long xa), .second, .val (.long xb), .second, .val (.long xb), .second, .val (.int (1 : Int32)), .val (.int (1 : Int32)), .unset, .unset] [(.long xb)])) (fun _ k => XS.lload X2.here hx rfl (hb hby at_44) rfl k) ?_
      refine own_go (T' := T2) (g' := (mkF m 47 #[.val (.long xa), .second, .val (.long xb), .second, .val (.long xb), .second, .val (.int (1 : Int32)), .val (.int (1 : Int32)), .unset, .unset] [(.long xb), (.long xb)])) (fun _ k => XS.lloadN X2.here hx rfl (hb hby at_46) rfl k) ?_
      refine own_go (T' := T2) (g' := (mkF m 48 #[.val (.long xa), .second, .val (.long xb), .second, .val (.long xb), .second, .val (.int (1 : Int32)), .val (.int (1 : Int32)), .unset, .unset] [(.long (xb - xb))])) (fun _ k => XS.lsub X2.here hx rfl (hb hby at_47) rfl k) ?_
      refine own_go (T' := T2) (g' := (mkF m 49 #[.val (.long xa), .second, .val (.long xb), .second, .val (.long xb), .second, .val (.int (1 : Int32)), .val (.int (1 : Int32)), .unset, .unset] [(.long (0 : Int64)), (.long (xb - xb))])) (fun _ k => XS.lconst X2.here hx rfl (hb hby at_48) k) ?_
      refine own_go (T' := T2) (g' := (mkF m 50 #[.val (.long xa), .second, .val (.long xb), .second, .val (.long xb), .second, .val (.int (1 : Int32)), .val (.int (1 : Int32)), .unset, .unset] [(.int (lcmpW (xb - xb) (0 : Int64)))])) (fun _ k => XS.lcmp X2.here hx rfl (hb hby at_49) rfl k) ?_
      refine own_go (T' := T2) (g' := (mkF m 53 #[.val (.long xa), .second, .val (.long xb), .second, .val (.long xb), .second, .val (.int (1 : Int32)), .val (.int (1 : Int32)), .unset, .unset] [])) (fun _ k => XS.ifNo X2.here hx rfl (hb hby at_50) rfl ((if0 _ _).trans (flt ((own_gt_f (own_sub_self xb)) : ¬ ((0 : Int32) < (lcmpW (xb - xb) (0 : Int64))))).2.2.1) k) ?_
      refine own_go (T' := T2) (g' := (mkF m 54 #[.val (.long xa), .second, .val (.long xb), .second, .val (.long xb), .second, .val (.int (1 : Int32)), .val (.int (1 : Int32)), .unset, .unset] [(.int (1 : Int32))])) (fun _ k => XS.iconst X2.here hx rfl (hb hby at_53) k) ?_
      refine own_go (T' := T2) (g' := (mkF m 58 #[.val (.long xa), .second, .val (.long xb), .second, .val (.long xb), .second, .val (.int (1 : Int32)), .val (.int (1 : Int32)), .unset, .unset] [(.int (1 : Int32))])) (fun _ k => XS.goto X2.here hx rfl (pc0 := 54) (pc' := 58) rfl (hb hby at_54) (by decide) (by decide) k) ?_
      refine own_go (T' := T2) (g' := (mkF m 60 #[.val (.long xa), .second, .val (.long xb), .second, .val (.long xb), .second, .val (.int (1 : Int32)), .val (.int (1 : Int32)), .val (.int (1 : Int32)), .unset] [])) (fun _ k => XS.istore X2.here hx rfl (hb hby at_58) rfl (l' := #[.val (.long xa), .second, .val (.long xb), .second, .val (.long xb), .second, .val (.int (1 : Int32)), .val (.int (1 : Int32)), .val (.int (1 : Int32)), .unset]) rfl k) ?_
      refine own_go (T' := T2) (g' := (mkF m 61 #[.val (.long xa), .second, .val (.long xb), .second, .val (.long xb), .second, .val (.int (1 : Int32)), .val (.int (1 : Int32)), .val (.int (1 : Int32)), .unset] [(.long xa)])) (fun _ k => XS.lloadN X2.here hx rfl (hb hby at_60) rfl k) ?_
      refine own_go (T' := T2) (g' := (mkF m 62 #[.val (.long xa), .second, .val (.long xb), .second, .val (.long xb), .second, .val (.int (1 : Int32)), .val (.int (1 : Int32)), .val (.int (1 : Int32)), .unset] [(.long xb), (.long xa)])) (fun _ k => XS.lloadN X2.here hx rfl (hb hby at_61) rfl k) ?_
      refine own_go (T' := T2) (g' := (mkF m 63 #[.val (.long xa), .second, .val (.long xb), .second, .val (.long xb), .second, .val (.int (1 : Int32)), .val (.int (1 : Int32)), .val (.int (1 : Int32)), .unset] [(.long (xa - xb))])) (fun _ k => XS.lsub X2.here hx rfl (hb hby at_62) rfl k) ?_
      refine own_go (T' := T2) (g' := (mkF m 66 #[.val (.long xa), .second, .val (.long xb), .second, .val (.long xb), .second, .val (.int (1 : Int32)), .val (.int (1 : Int32)), .val (.int (1 : Int32)), .unset] [(.long (-9223372036854775808 : Int64)), (.long (xa - xb))])) (fun _ k => X2.ldc2Long hx hown (mvT hZ (hw _ (List.mem_of_getElem? (i := 4) rfl))) (g := (mkF m 63 #[.val (.long xa), .second, .val (.long xb), .second, .val (.long xb), .second, .val (.int (1 : Int32)), .val (.int (1 : Int32)), .val (.int (1 : Int32)), .unset] [(.long (xa - xb))])) rfl (hb hby at_63) _ k) ?_
      refine own_go (T' := T2) (g' := (mkF m 67 #[.val (.long xa), .second, .val (.long xb), .second, .val (.long xb), .second, .val (.int (1 : Int32)), .val (.int (1 : Int32)), .val (.int (1 : Int32)), .unset] [(.int (lcmpW (xa - xb) (-9223372036854775808 : Int64)))])) (fun _ k => XS.lcmp X2.here hx rfl (hb hby at_66) rfl k) ?_
      refine own_go (T' := T2) (g' := (mkF m 77 #[.val (.long xa), .second, .val (.long xb), .second, .val (.long xb), .second, .val (.int (1 : Int32)), .val (.int (1 : Int32)), .val (.int (1 : Int32)), .unset] [])) (fun _ k => XS.ifYes X2.here hx rfl (pc0 := 67) (pc' := 77) rfl (hb hby at_67) rfl ((if0 _ _).trans (feq ((own_eq_f (own_not_min hd)) : ¬ ((lcmpW (xa - xb) (-9223372036854775808 : Int64)) = (0 : Int32)))).2) (by decide) (by decide) k) ?_
      refine own_go (T' := T2) (g' := (mkF m 78 #[.val (.long xa), .second, .val (.long xb), .second, .val (.long xb), .second, .val (.int (1 : Int32)), .val (.int (1 : Int32)), .val (.int (1 : Int32)), .unset] [(.int (1 : Int32))])) (fun _ k => XS.iconst X2.here hx rfl (hb hby at_77) k) ?_
      refine own_go (T' := T2) (g' := (mkF m 82 #[.val (.long xa), .second, .val (.long xb), .second, .val (.long xb), .second, .val (.int (1 : Int32)), .val (.int (1 : Int32)), .val (.int (1 : Int32)), .unset] [(.int (1 : Int32))])) (fun _ k => XS.goto X2.here hx rfl (pc0 := 78) (pc' := 82) rfl (hb hby at_78) (by decide) (by decide) k) ?_
      refine own_go (T' := T2) (g' := (mkF m 84 #[.val (.long xa), .second, .val (.long xb), .second, .val (.long xb), .second, .val (.int (1 : Int32)), .val (.int (1 : Int32)), .val (.int (1 : Int32)), .val (.int (1 : Int32))] [])) (fun _ k => XS.istore X2.here hx rfl (hb hby at_82) rfl (l' := #[.val (.long xa), .second, .val (.long xb), .second, .val (.long xb), .second, .val (.int (1 : Int32)), .val (.int (1 : Int32)), .val (.int (1 : Int32)), .val (.int (1 : Int32))]) rfl k) ?_
      refine own_go (T' := T2) (g' := (mkF m 86 #[.val (.long xa), .second, .val (.long xb), .second, .val (.long xb), .second, .val (.int (1 : Int32)), .val (.int (1 : Int32)), .val (.int (1 : Int32)), .val (.int (1 : Int32))] [(.int (1 : Int32))])) (fun _ k => XS.iload X2.here hx rfl (hb hby at_84) rfl k) ?_
      refine own_go (T' := T2) (g' := (mkF m 89 #[.val (.long xa), .second, .val (.long xb), .second, .val (.long xb), .second, .val (.int (1 : Int32)), .val (.int (1 : Int32)), .val (.int (1 : Int32)), .val (.int (1 : Int32))] [])) (fun _ k => XS.ifNo X2.here hx rfl (hb hby at_86) rfl ((if0 _ _).trans (feq ((by decide) : ¬ ((1 : Int32) = (0 : Int32)))).1) k) ?_
      refine own_go (T' := T2) (g' := (mkF m 91 #[.val (.long xa), .second, .val (.long xb), .second, .val (.long xb), .second, .val (.int (1 : Int32)), .val (.int (1 : Int32)), .val (.int (1 : Int32)), .val (.int (1 : Int32))] [(.int (1 : Int32))])) (fun _ k => XS.iload X2.here hx rfl (hb hby at_89) rfl k) ?_
      refine own_go (T' := T2) (g' := (mkF m 94 #[.val (.long xa), .second, .val (.long xb), .second, .val (.long xb), .second, .val (.int (1 : Int32)), .val (.int (1 : Int32)), .val (.int (1 : Int32)), .val (.int (1 : Int32))] [])) (fun _ k => XS.ifNo X2.here hx rfl (hb hby at_91) rfl ((if0 _ _).trans (feq ((by decide) : ¬ ((1 : Int32) = (0 : Int32)))).1) k) ?_
      refine own_go (T' := T2) (g' := (mkF m 96 #[.val (.long xa), .second, .val (.long xb), .second, .val (.long xb), .second, .val (.int (1 : Int32)), .val (.int (1 : Int32)), .val (.int (1 : Int32)), .val (.int (1 : Int32))] [(.int (1 : Int32))])) (fun _ k => XS.iload X2.here hx rfl (hb hby at_94) rfl k) ?_
      refine own_go (T' := T2) (g' := (mkF m 99 #[.val (.long xa), .second, .val (.long xb), .second, .val (.long xb), .second, .val (.int (1 : Int32)), .val (.int (1 : Int32)), .val (.int (1 : Int32)), .val (.int (1 : Int32))] [])) (fun _ k => XS.ifNo X2.here hx rfl (hb hby at_96) rfl ((if0 _ _).trans (feq ((by decide) : ¬ ((1 : Int32) = (0 : Int32)))).1) k) ?_
      refine own_go (T' := T2) (g' := (mkF m 101 #[.val (.long xa), .second, .val (.long xb), .second, .val (.long xb), .second, .val (.int (1 : Int32)), .val (.int (1 : Int32)), .val (.int (1 : Int32)), .val (.int (1 : Int32))] [(.int (1 : Int32))])) (fun _ k => XS.iload X2.here hx rfl (hb hby at_99) rfl k) ?_
      refine own_go (T' := T2) (g' := (mkF m 104 #[.val (.long xa), .second, .val (.long xb), .second, .val (.long xb), .second, .val (.int (1 : Int32)), .val (.int (1 : Int32)), .val (.int (1 : Int32)), .val (.int (1 : Int32))] [])) (fun _ k => XS.ifNo X2.here hx rfl (hb hby at_101) rfl ((if0 _ _).trans (feq ((by decide) : ¬ ((1 : Int32) = (0 : Int32)))).1) k) ?_
      refine own_go (T' := T2) (g' := (mkF m 105 #[.val (.long xa), .second, .val (.long xb), .second, .val (.long xb), .second, .val (.int (1 : Int32)), .val (.int (1 : Int32)), .val (.int (1 : Int32)), .val (.int (1 : Int32))] [(.int (1 : Int32))])) (fun _ k => XS.iconst X2.here hx rfl (hb hby at_104) k) ?_
      refine own_go (T' := T2) (g' := (mkF m 109 #[.val (.long xa), .second, .val (.long xb), .second, .val (.long xb), .second, .val (.int (1 : Int32)), .val (.int (1 : Int32)), .val (.int (1 : Int32)), .val (.int (1 : Int32))] [(.int (1 : Int32))])) (fun _ k => XS.goto X2.here hx rfl (pc0 := 105) (pc' := 109) rfl (hb hby at_105) (by decide) (by decide) k) ?_
      obtain ⟨fs, hr, hrun, hended, hW, hsame⟩ := X2.leave (v := some (.int (1 : Int32))) (fun h => by rw [Bd.returns] at h; cases h)
      refine own_end (retN X2 hx (t := .boolean) Bd.returns (by simp) (hb hby at_109) hr) hrun hended ⟨_, _, rfl, (?_ : own_QL Z xa xb h0 n0 _ T2.heap _), ⟨_, rfl⟩, hW, hsame.mono (by decide) (by decide)⟩
      rw [e2]
      exact ⟨rfl, N2⟩
    · refine own_go (T' := T2) (g' := (mkF m 14 #[.val (.long xa), .second, .val (.long xb), .second, .val (.long xb), .second, .unset, .unset, .unset, .unset] [])) (fun _ k => XS.ifNo X2.here hx rfl (hb hby at_11) rfl ((if0 _ _).trans (feq ((own_eq_f (hc11)) : ¬ ((lcmpW xb xa) = (0 : Int32)))).1) k) ?_
      refine own_go (T' := T2) (g' := (mkF m 16 #[.val (.long xa), .second, .val (.long xb), .second, .val (.long xb), .second, .unset, .unset, .unset, .unset] [(.long xb)])) (fun _ k => XS.lload X2.here hx rfl (hb hby at_14) rfl k) ?_
      refine own_go (T' := T2) (g' := (mkF m 17 #[.val (.long xa), .second, .val (.long xb), .second, .val (.long xb), .second, .unset, .unset, .unset, .unset] [(.long xb), (.long xb)])) (fun _ k => XS.lloadN X2.here hx rfl (hb hby at_16) rfl k) ?_
      refine own_go (T' := T2) (g' := (mkF m 18 #[.val (.long xa), .second, .val (.long xb), .second, .val (.long xb), .second, .unset, .unset, .unset, .unset] [(.int (lcmpW xb xb))])) (fun _ k => XS.lcmp X2.here hx rfl (hb hby at_17) rfl k) ?_
      refine own_go (T' := T2) (g' := (mkF m 21 #[.val (.long xa), .second, .val (.long xb), .second, .val (.long xb), .second, .unset, .unset, .unset, .unset] [])) (fun _ k => XS.ifNo X2.here hx rfl (hb hby at_18) rfl ((if0 _ _).trans (teq ((own_eq_t (rfl)) : (lcmpW xb xb) = (0 : Int32))).2) k) ?_
      refine own_go (T' := T2) (g' := (mkF m 22 #[.val (.long xa), .second, .val (.long xb), .second, .val (.long xb), .second, .unset, .unset, .unset, .unset] [(.int (1 : Int32))])) (fun _ k => XS.iconst X2.here hx rfl (hb hby at_21) k) ?_
      refine own_go (T' := T2) (g' := (mkF m 26 #[.val (.long xa), .second, .val (.long xb), .second, .val (.long xb), .second, .unset, .unset, .unset, .unset] [(.int (1 : Int32))])) (fun _ k => XS.goto X2.here hx rfl (pc0 := 22) (pc' := 26) rfl (hb hby at_22) (by decide) (by decide) k) ?_
      refine own_go (T' := T2) (g' := (mkF m 28 #[.val (.long xa), .second, .val (.long xb), .second, .val (.long xb), .second, .val (.int (1 : Int32)), .unset, .unset, .unset] [])) (fun _ k => XS.istore X2.here hx rfl (hb hby at_26) rfl (l' := #[.val (.long xa), .second, .val (.long xb), .second, .val (.long xb), .second, .val (.int (1 : Int32)), .unset, .unset, .unset]) rfl k) ?_
      refine own_go (T' := T2) (g' := (mkF m 30 #[.val (.long xa), .second, .val (.long xb), .second, .val (.long xb), .second, .val (.int (1 : Int32)), .unset, .unset, .unset] [(.long xb)])) (fun _ k => XS.lload X2.here hx rfl (hb hby at_28) rfl k) ?_
      refine own_go (T' := T2) (g' := (mkF m 31 #[.val (.long xa), .second, .val (.long xb), .second, .val (.long xb), .second, .val (.int (1 : Int32)), .unset, .unset, .unset] [(.long xa), (.long xb)])) (fun _ k => XS.lloadN X2.here hx rfl (hb hby at_30) rfl k) ?_
      refine own_go (T' := T2) (g' := (mkF m 32 #[.val (.long xa), .second, .val (.long xb), .second, .val (.long xb), .second, .val (.int (1 : Int32)), .unset, .unset, .unset] [(.long (xb - xa))])) (fun _ k => XS.lsub X2.here hx rfl (hb hby at_31) rfl k) ?_
      refine own_go (T' := T2) (g' := (mkF m 33 #[.val (.long xa), .second, .val (.long xb), .second, .val (.long xb), .second, .val (.int (1 : Int32)), .unset, .unset, .unset] [(.long (0 : Int64)), (.long (xb - xa))])) (fun _ k => XS.lconst X2.here hx rfl (hb hby at_32) k) ?_
      refine own_go (T' := T2) (g' := (mkF m 34 #[.val (.long xa), .second, .val (.long xb), .second, .val (.long xb), .second, .val (.int (1 : Int32)), .unset, .unset, .unset] [(.int (lcmpW (xb - xa) (0 : Int64)))])) (fun _ k => XS.lcmp X2.here hx rfl (hb hby at_33) rfl k) ?_
      refine own_go (T' := T2) (g' := (mkF m 37 #[.val (.long xa), .second, .val (.long xb), .second, .val (.long xb), .second, .val (.int (1 : Int32)), .unset, .unset, .unset] [])) (fun _ k => XS.ifNo X2.here hx rfl (hb hby at_34) rfl ((if0 _ _).trans (flt ((own_gt_f (own_flip hd)) : ¬ ((0 : Int32) < (lcmpW (xb - xa) (0 : Int64))))).2.2.1) k) ?_
      refine own_go (T' := T2) (g' := (mkF m 38 #[.val (.long xa), .second, .val (.long xb), .second, .val (.long xb), .second, .val (.int (1 : Int32)), .unset, .unset, .unset] [(.int (1 : Int32))])) (fun _ k => XS.iconst X2.here hx rfl (hb hby at_37) k) ?_
      refine own_go (T' := T2) (g' := (mkF m 42 #[.val (.long xa), .second, .val (.long xb), .second, .val (.long xb), .second, .val (.int (1 : Int32)), .unset, .unset, .unset] [(.int (1 : Int32))])) (fun _ k => XS.goto X2.here hx rfl (pc0 := 38) (pc' := 42) rfl (hb hby at_38) (by decide) (by decide) k) ?_
      refine own_go (T' := T2) (g' := (mkF m 44 #[.val (.long xa), .second, .val (.long xb), .second, .val (.long xb), .second, .val (.int (1 : Int32)), .val (.int (1 : Int32)), .unset, .unset] [])) (fun _ k => XS.istore X2.here hx rfl (hb hby at_42) rfl (l' := #[.val (.long xa), .second, .val (.long xb), .second, .val (.long xb), .second, .val (.int (1 : Int32)), .val (.int (1 : Int32)), .unset, .unset]) rfl k) ?_
      refine own_go (T' := T2) (g' := (mkF m 46 #[.val (.long xa), .second, .val (.long xb), .second, .val (.long xb), .second, .val (.int (1 : Int32)), .val (.int (1 : Int32)), .unset, .unset] [(.long xb)])) (fun _ k => XS.lload X2.here hx rfl (hb hby at_44) rfl k) ?_
      refine own_go (T' := T2) (g' := (mkF m 47 #[.val (.long xa), .second, .val (.long xb), .second, .val (.long xb), .second, .val (.int (1 : Int32)), .val (.int (1 : Int32)), .unset, .unset] [(.long xb), (.long xb)])) (fun _ k => XS.lloadN X2.here hx rfl (hb hby at_46) rfl k) ?_
      refine own_go (T' := T2) (g' := (mkF m 48 #[.val (.long xa), .second, .val (.long xb), .second, .val (.long xb), .second, .val (.int (1 : Int32)), .val (.int (1 : Int32)), .unset, .unset] [(.long (xb - xb))])) (fun _ k => XS.lsub X2.here hx rfl (hb hby at_47) rfl k) ?_
      refine own_go (T' := T2) (g' := (mkF m 49 #[.val (.long xa), .second, .val (.long xb), .second, .val (.long xb), .second, .val (.int (1 : Int32)), .val (.int (1 : Int32)), .unset, .unset] [(.long (0 : Int64)), (.long (xb - xb))])) (fun _ k => XS.lconst X2.here hx rfl (hb hby at_48) k) ?_
      refine own_go (T' := T2) (g' := (mkF m 50 #[.val (.long xa), .second, .val (.long xb), .second, .val (.long xb), .second, .val (.int (1 : Int32)), .val (.int (1 : Int32)), .unset, .unset] [(.int (lcmpW (xb - xb) (0 : Int64)))])) (fun _ k => XS.lcmp X2.here hx rfl (hb hby at_49) rfl k) ?_
      refine own_go (T' := T2) (g' := (mkF m 53 #[.val (.long xa), .second, .val (.long xb), .second, .val (.long xb), .second, .val (.int (1 : Int32)), .val (.int (1 : Int32)), .unset, .unset] [])) (fun _ k => XS.ifNo X2.here hx rfl (hb hby at_50) rfl ((if0 _ _).trans (flt ((own_gt_f (own_sub_self xb)) : ¬ ((0 : Int32) < (lcmpW (xb - xb) (0 : Int64))))).2.2.1) k) ?_
      refine own_go (T' := T2) (g' := (mkF m 54 #[.val (.long xa), .second, .val (.long xb), .second, .val (.long xb), .second, .val (.int (1 : Int32)), .val (.int (1 : Int32)), .unset, .unset] [(.int (1 : Int32))])) (fun _ k => XS.iconst X2.here hx rfl (hb hby at_53) k) ?_
      refine own_go (T' := T2) (g' := (mkF m 58 #[.val (.long xa), .second, .val (.long xb), .second, .val (.long xb), .second, .val (.int (1 : Int32)), .val (.int (1 : Int32)), .unset, .unset] [(.int (1 : Int32))])) (fun _ k => XS.goto X2.here hx rfl (pc0 := 54) (pc' := 58) rfl (hb hby at_54) (by decide) (by decide) k) ?_
      refine own_go (T' := T2) (g' := (mkF m 60 #[.val (.long xa), .second, .val (.long xb), .second, .val (.long xb), .second, .val (.int (1 : Int32)), .val (.int (1 : Int32)), .val (.int (1 : Int32)), .unset] [])) (fun _ k => XS.istore X2.here hx rfl (hb hby at_58) rfl (l' := #[.val (.long xa), .second, .val (.long xb), .second, .val (.long xb), .second, .val (.int (1 : Int32)), .val (.int (1 : Int32)), .val (.int (1 : Int32)), .unset]) rfl k) ?_
      refine own_go (T' := T2) (g' := (mkF m 61 #[.val (.long xa), .second, .val (.long xb), .second, .val (.long xb), .second, .val (.int (1 : Int32)), .val (.int (1 : Int32)), .val (.int (1 : Int32)), .unset] [(.long xa)])) (fun _ k => XS.lloadN X2.here hx rfl (hb hby at_60) rfl k) ?_
      refine own_go (T' := T2) (g' := (mkF m 62 #[.val (.long xa), .second, .val (.long xb), .second, .val (.long xb), .second, .val (.int (1 : Int32)), .val (.int (1 : Int32)), .val (.int (1 : Int32)), .unset] [(.long xb), (.long xa)])) (fun _ k => XS.lloadN X2.here hx rfl (hb hby at_61) rfl k) ?_
      refine own_go (T' := T2) (g' := (mkF m 63 #[.val (.long xa), .second, .val (.long xb), .second, .val (.long xb), .second, .val (.int (1 : Int32)), .val (.int (1 : Int32)), .val (.int (1 : Int32)), .unset] [(.long (xa - xb))])) (fun _ k => XS.lsub X2.here hx rfl (hb hby at_62) rfl k) ?_
      refine own_go (T' := T2) (g' := (mkF m 66 #[.val (.long xa), .second, .val (.long xb), .second, .val (.long xb), .second, .val (.int (1 : Int32)), .val (.int (1 : Int32)), .val (.int (1 : Int32)), .unset] [(.long (-9223372036854775808 : Int64)), (.long (xa - xb))])) (fun _ k => X2.ldc2Long hx hown (mvT hZ (hw _ (List.mem_of_getElem? (i := 4) rfl))) (g := (mkF m 63 #[.val (.long xa), .second, .val (.long xb), .second, .val (.long xb), .second, .val (.int (1 : Int32)), .val (.int (1 : Int32)), .val (.int (1 : Int32)), .unset] [(.long (xa - xb))])) rfl (hb hby at_63) _ k) ?_
      refine own_go (T' := T2) (g' := (mkF m 67 #[.val (.long xa), .second, .val (.long xb), .second, .val (.long xb), .second, .val (.int (1 : Int32)), .val (.int (1 : Int32)), .val (.int (1 : Int32)), .unset] [(.int (lcmpW (xa - xb) (-9223372036854775808 : Int64)))])) (fun _ k => XS.lcmp X2.here hx rfl (hb hby at_66) rfl k) ?_
      refine own_go (T' := T2) (g' := (mkF m 77 #[.val (.long xa), .second, .val (.long xb), .second, .val (.long xb), .second, .val (.int (1 : Int32)), .val (.int (1 : Int32)), .val (.int (1 : Int32)), .unset] [])) (fun _ k => XS.ifYes X2.here hx rfl (pc0 := 67) (pc' := 77) rfl (hb hby at_67) rfl ((if0 _ _).trans (feq ((own_eq_f (own_not_min hd)) : ¬ ((lcmpW (xa - xb) (-9223372036854775808 : Int64)) = (0 : Int32)))).2) (by decide) (by decide) k) ?_
      refine own_go (T' := T2) (g' := (mkF m 78 #[.val (.long xa), .second, .val (.long xb), .second, .val (.long xb), .second, .val (.int (1 : Int32)), .val (.int (1 : Int32)), .val (.int (1 : Int32)), .unset] [(.int (1 : Int32))])) (fun _ k => XS.iconst X2.here hx rfl (hb hby at_77) k) ?_
      refine own_go (T' := T2) (g' := (mkF m 82 #[.val (.long xa), .second, .val (.long xb), .second, .val (.long xb), .second, .val (.int (1 : Int32)), .val (.int (1 : Int32)), .val (.int (1 : Int32)), .unset] [(.int (1 : Int32))])) (fun _ k => XS.goto X2.here hx rfl (pc0 := 78) (pc' := 82) rfl (hb hby at_78) (by decide) (by decide) k) ?_
      refine own_go (T' := T2) (g' := (mkF m 84 #[.val (.long xa), .second, .val (.long xb), .second, .val (.long xb), .second, .val (.int (1 : Int32)), .val (.int (1 : Int32)), .val (.int (1 : Int32)), .val (.int (1 : Int32))] [])) (fun _ k => XS.istore X2.here hx rfl (hb hby at_82) rfl (l' := #[.val (.long xa), .second, .val (.long xb), .second, .val (.long xb), .second, .val (.int (1 : Int32)), .val (.int (1 : Int32)), .val (.int (1 : Int32)), .val (.int (1 : Int32))]) rfl k) ?_
      refine own_go (T' := T2) (g' := (mkF m 86 #[.val (.long xa), .second, .val (.long xb), .second, .val (.long xb), .second, .val (.int (1 : Int32)), .val (.int (1 : Int32)), .val (.int (1 : Int32)), .val (.int (1 : Int32))] [(.int (1 : Int32))])) (fun _ k => XS.iload X2.here hx rfl (hb hby at_84) rfl k) ?_
      refine own_go (T' := T2) (g' := (mkF m 89 #[.val (.long xa), .second, .val (.long xb), .second, .val (.long xb), .second, .val (.int (1 : Int32)), .val (.int (1 : Int32)), .val (.int (1 : Int32)), .val (.int (1 : Int32))] [])) (fun _ k => XS.ifNo X2.here hx rfl (hb hby at_86) rfl ((if0 _ _).trans (feq ((by decide) : ¬ ((1 : Int32) = (0 : Int32)))).1) k) ?_
      refine own_go (T' := T2) (g' := (mkF m 91 #[.val (.long xa), .second, .val (.long xb), .second, .val (.long xb), .second, .val (.int (1 : Int32)), .val (.int (1 : Int32)), .val (.int (1 : Int32)), .val (.int (1 : Int32))] [(.int (1 : Int32))])) (fun _ k => XS.iload X2.here hx rfl (hb hby at_89) rfl k) ?_
      refine own_go (T' := T2) (g' := (mkF m 94 #[.val (.long xa), .second, .val (.long xb), .second, .val (.long xb), .second, .val (.int (1 : Int32)), .val (.int (1 : Int32)), .val (.int (1 : Int32)), .val (.int (1 : Int32))] [])) (fun _ k => XS.ifNo X2.here hx rfl (hb hby at_91) rfl ((if0 _ _).trans (feq ((by decide) : ¬ ((1 : Int32) = (0 : Int32)))).1) k) ?_
      refine own_go (T' := T2) (g' := (mkF m 96 #[.val (.long xa), .second, .val (.long xb), .second, .val (.long xb), .second, .val (.int (1 : Int32)), .val (.int (1 : Int32)), .val (.int (1 : Int32)), .val (.int (1 : Int32))] [(.int (1 : Int32))])) (fun _ k => XS.iload X2.here hx rfl (hb hby at_94) rfl k) ?_
      refine own_go (T' := T2) (g' := (mkF m 99 #[.val (.long xa), .second, .val (.long xb), .second, .val (.long xb), .second, .val (.int (1 : Int32)), .val (.int (1 : Int32)), .val (.int (1 : Int32)), .val (.int (1 : Int32))] [])) (fun _ k => XS.ifNo X2.here hx rfl (hb hby at_96) rfl ((if0 _ _).trans (feq ((by decide) : ¬ ((1 : Int32) = (0 : Int32)))).1) k) ?_
      refine own_go (T' := T2) (g' := (mkF m 101 #[.val (.long xa), .second, .val (.long xb), .second, .val (.long xb), .second, .val (.int (1 : Int32)), .val (.int (1 : Int32)), .val (.int (1 : Int32)), .val (.int (1 : Int32))] [(.int (1 : Int32))])) (fun _ k => XS.iload X2.here hx rfl (hb hby at_99) rfl k) ?_
      refine own_go (T' := T2) (g' := (mkF m 104 #[.val (.long xa), .second, .val (.long xb), .second, .val (.long xb), .second, .val (.int (1 : Int32)), .val (.int (1 : Int32)), .val (.int (1 : Int32)), .val (.int (1 : Int32))] [])) (fun _ k => XS.ifNo X2.here hx rfl (hb hby at_101) rfl ((if0 _ _).trans (feq ((by decide) : ¬ ((1 : Int32) = (0 : Int32)))).1) k) ?_
      refine own_go (T' := T2) (g' := (mkF m 105 #[.val (.long xa), .second, .val (.long xb), .second, .val (.long xb), .second, .val (.int (1 : Int32)), .val (.int (1 : Int32)), .val (.int (1 : Int32)), .val (.int (1 : Int32))] [(.int (1 : Int32))])) (fun _ k => XS.iconst X2.here hx rfl (hb hby at_104) k) ?_
      refine own_go (T' := T2) (g' := (mkF m 109 #[.val (.long xa), .second, .val (.long xb), .second, .val (.long xb), .second, .val (.int (1 : Int32)), .val (.int (1 : Int32)), .val (.int (1 : Int32)), .val (.int (1 : Int32))] [(.int (1 : Int32))])) (fun _ k => XS.goto X2.here hx rfl (pc0 := 105) (pc' := 109) rfl (hb hby at_105) (by decide) (by decide) k) ?_
      obtain ⟨fs, hr, hrun, hended, hW, hsame⟩ := X2.leave (v := some (.int (1 : Int32))) (fun h => by rw [Bd.returns] at h; cases h)
      refine own_end (retN X2 hx (t := .boolean) Bd.returns (by simp) (hb hby at_109) hr) hrun hended ⟨_, _, rfl, (?_ : own_QL Z xa xb h0 n0 _ T2.heap _), ⟨_, rfl⟩, hW, hsame.mono (by decide) (by decide)⟩
      rw [e2]
      exact ⟨rfl, N2⟩
set_option maxRecDepth 65536 in
set_option maxHeartbeats 40000000 in
theorem own_comes {Post : Tables → Env → Array Value → State → Outcome → State → Prop} (hpost : ∀ tb e args s v u, (limb_1_1.after args s (.returned v) u = true ∧ limb_1_2.after args s (.returned v) u = true ∧ True) → FrameEnd s (.returned v) u (Jvm.fieldLocs frame_1_writes args s ++ Jvm.arrayLocs frame_1_arrays args s ++ Jvm.staticLocs frame_1_statics s) 0 0 → Post tb e args s (.returned v) u) :
    ArmFor flags0 classFile x code maxLocals ret World_1 tables_1 room_1 Calls_1 rest_1 Pre_1 Post := by
  intro l hfl _ _ p e ha hc hk s m args below hf hA hF happ hP
  obtain ⟨hcalls, hrest, hpre⟩ := hP
  obtain ⟨-, -, -, hnamed, -, -, -, hat⟩ := (Spec.applies_iff hf).mp happ
  obtain ⟨hg, hn⟩ := and_e (Cond.before_iff.mp (show (Jvm.Cond.and given_1 narrow_1).before args s = true from hpre))
  obtain ⟨gc, g0⟩ := and_e hg
  obtain ⟨ga0, g1⟩ := and_e g0
  obtain ⟨w0, w1, rfl⟩ : ∃ w0 w1 : Value, args = #[w0, w1] := by
    have hs : args.size = 2 := by simpa [Cond.value, given_1] using gc
    obtain ⟨L⟩ := args
    match L, hs with
    | [w0, w1], _ => exact ⟨w0, w1, rfl⟩
  have hw := fun d (hd : d ∈ tables_1) => atoms_spec (ws := Jvm.Cond.code x code maxLocals ret :: tables_1) hat d (List.mem_cons_of_mem _ hd)
  have hfit : Fit s := fun {y c} hc i hi => by
    obtain ⟨ha, rfl⟩ := Array.getElem?_eq_some_iff.mp hc
    have q := List.all_eq_true.mp ((Array.all_eq_true_iff_forall_mem.mp hF) _ (Array.getElem_mem ha)) i (List.mem_range.mpr hi)
    simpa [Array.getElem?_eq_getElem hi] using q
  obtain ⟨i0, ei0⟩ := isL_v ga0
  obtain rfl : w0 = (.long i0) := Option.some.inj ei0
  obtain ⟨i1, ei1⟩ := isL_v g1
  obtain rfl : w1 = (.long i1) := Option.some.inj ei1
  obtain ⟨n, o, h1, h2, h3, _, L, rfl, ⟨rfl, N⟩, hq⟩ := own_rL l s _ hw tables_1 i0 i1  s.heap s.heap.size (Nat.le_refl _)  p e ha hc hk s m _ below hf ((Spec.applies_iff_loose hf).mp happ).1 ⟨rfl, State.Warmed39.refl s, rfl⟩ trivial
  refine ⟨n, _, h1, h2, h3, hpost _ _ _ _ _ _ ⟨Cond.after_iff.mpr rfl, Cond.after_iff.mpr (eq_i res_at (Term.int_eval (1)) rfl), trivial⟩ ⟨hq.1, hq.2.1, (hq.2.2.sift fun y hy => Or.inr (N y hy)).mono (by decide) (by decide)⟩⟩
theorem main_1_1 : Claimed_1_1 := own_comes fun _ _ _ _ _ _ h hF => ⟨h.1, hF⟩
theorem main_1_2 : Claimed_1_2 := own_comes fun _ _ _ _ _ _ h hF => ⟨h.2.1, hF⟩
end Jvm.Pilot.@@N@@
namespace Jvm.Pilot.@@N@@
open Jvm Jvm.ClassFile Sem Op Lib Jvm.Free Jvm.Stand Jvm.Pilot.@@N@@.Jvm.D
/-! MADE BY PROGRAM (witnessworld.py) out of the Statement's table words and the real class files: 9 classes; the members and pool entries that the words name. The judged class is class 1, her method 1. -/
namespace start1
open Jvm.ClassFile
def u (s : String) : CpInfo := .utf8 (stringToUtf16 s)
/-- a pool by its gaps: so many unusable entries, then the entry; so many at the end -/
def gap : Nat → List CpInfo → List CpInfo
  | 0, r => r
  | n + 1, r => .unusable :: gap n r
def poolList (es : List (Nat × CpInfo)) (last : Nat) : List CpInfo := es.foldr (fun e r => gap e.1 (e.2 :: r)) (gap last [])
def pool (es : List (Nat × CpInfo)) (last : Nat) : Array CpInfo := ⟨poolList es last⟩
def fileOf (pool : Array CpInfo) (this : Nat) (attrs : Array Attribute := #[]) (ms : Array MethodInfo := #[]) (fl : Nat := 33) (sup : Nat := 0) (ifs : Array Nat := #[]) (fds : Array FieldInfo := #[]) : ClassFile where
  minorVersion := 0
  majorVersion := 65
  constantPool := pool
  accessFlags := fl
  thisClass := this
  superClass := sup
  interfaces := ifs
  fields := fds
  methods := ms
  attributes := attrs
def plain (name : String) (sup : Option ClassId) : Class where
  name := name
  kind := .ordinary
  loader := none
  accessFlags := 33
  super := sup
  interfaces := #[]
  cf := none
  fields := #[]
  methods := #[]
  instanceTypes := #[]
  staticTypes := #[]
  resolved := #[]
  callSites := []
  init := .initialized
  statics := none
  mirror := none

def pool0 : Array CpInfo := pool [(5, u "<init>"), (0, u "()V"), (1, .class_ 10), (1, u "java/lang/Object")] 113

def k0m0 : Method := { name := "<init>", desc := "()V", sig := { parameters := [], returnType := none }, accessFlags := 1, code := none }
/-- java/lang/Object -/
def k0 : Class := { plain "java/lang/Object" none with
  accessFlags := 33
  interfaces := #[]
  cf := some (fileOf pool0 8 #[] #[{ accessFlags := 1, nameIndex := 5, descriptorIndex := 6, attributes := #[] }] 33 0 #[] #[])
  fields := #[]
  methods := #[k0m0]
  instanceTypes := #[]
  staticTypes := #[]
  resolved := Array.replicate 124 none
  statics := none }

def pool1 : Array CpInfo := pool [(2, .class_ 4), (1, u "java/lang/Object"), (0, u "<init>"), (0, u "()V"), (0, .methodref 8 9), (0, .class_ 10), (0, .nameAndType 11 12), (0, u "com/example/leased/leased/Waits"), (0, u "earlier"), (0, u "(JJ)J"), (2, .long 9223372036854775808), (1, .class_ 18), (0, u "com/example/leased/leased/WaitsEarlierPinLaw"), (2, u "law"), (0, u "(JJ)Z")] 3

def k1m0 : Method := { name := "<init>", desc := "()V", sig := { parameters := [], returnType := none }, accessFlags := 1, code := none }
def k1c1 : Code := { maxStack := 4, maxLocals := 10, code := code, exceptionTable := #[], attributes := #[] }
def k1m1 : Method := { name := "law", desc := "(JJ)Z", sig := { parameters := [.long, .long], returnType := some .boolean }, accessFlags := 9, code := some k1c1 }
/-- com/example/leased/leased/WaitsEarlierPinLaw -/
def k1 : Class := { plain "com/example/leased/leased/WaitsEarlierPinLaw" (some 0) with
  accessFlags := 49
  interfaces := #[]
  cf := some (fileOf pool1 17 #[] #[{ accessFlags := 1, nameIndex := 5, descriptorIndex := 6, attributes := #[] }, { accessFlags := 9, nameIndex := 21, descriptorIndex := 22, attributes := #[] }] 49 2 #[] #[])
  fields := #[]
  methods := #[k1m0, k1m1]
  instanceTypes := #[]
  staticTypes := #[]
  resolved := Array.replicate 26 none
  statics := none }

def pool2 : Array CpInfo := pool [(2, .class_ 4), (1, u "java/lang/Object"), (3, .class_ 10), (1, u "com/example/leased/leased/Waits"), (0, u "closing"), (0, u "Ljava/util/concurrent/CompletableFuture;"), (2, u "cuts"), (0, u "Lcom/example/leased/leased/Waits$Cuts;"), (1, .class_ 20), (1, u "com/example/leased/leased/Waits$Cuts"), (26, u "(JJ)J"), (35, u "earlier")] 12

def k2c0 : Code := { maxStack := 4, maxLocals := 4, code := prog_25_method_2_code, exceptionTable := #[], attributes := #[] }
def k2m0 : Method := { name := "earlier", desc := "(JJ)J", sig := { parameters := [.long, .long], returnType := some .long }, accessFlags := 8, code := some k2c0 }
/-- com/example/leased/leased/Waits -/
def k2 : Class := { plain "com/example/leased/leased/Waits" (some 0) with
  accessFlags := 32
  interfaces := #[]
  cf := some (fileOf pool2 8 #[.nestMembers #[18]] #[{ accessFlags := 8, nameIndex := 83, descriptorIndex := 47, attributes := #[] }] 32 2 #[] #[{ accessFlags := 18, nameIndex := 11, descriptorIndex := 12, attributes := #[] }, { accessFlags := 18, nameIndex := 15, descriptorIndex := 16, attributes := #[] }])
  fields := #[{ name := "closing", type := (.object "java/util/concurrent/CompletableFuture"), accessFlags := 18, slot := 0, constantValue := 0 }, { name := "cuts", type := (.object "com/example/leased/leased/Waits$Cuts"), accessFlags := 18, slot := 1, constantValue := 0 }]
  methods := #[k2m0]
  instanceTypes := #[(.object "java/util/concurrent/CompletableFuture"), (.object "com/example/leased/leased/Waits$Cuts")]
  staticTypes := #[]
  resolved := Array.replicate 96 none
  statics := none }

def pool3 : Array CpInfo := pool [(1, u "java/lang/Cloneable"), (0, .class_ 1), (0, u "java/lang/Object"), (0, .class_ 3)] 3

/-- java/lang/Cloneable -/
def k3 : Class := { plain "java/lang/Cloneable" (some 0) with
  accessFlags := 1537
  interfaces := #[]
  cf := some (fileOf pool3 2 #[] #[] 1537 4 #[] #[])
  fields := #[]
  methods := #[]
  instanceTypes := #[]
  staticTypes := #[]
  resolved := Array.replicate 8 none
  statics := none }

def pool4 : Array CpInfo := pool [(1, u "java/io/Serializable"), (0, .class_ 1), (0, u "java/lang/Object"), (0, .class_ 3)] 3

/-- java/io/Serializable -/
def k4 : Class := { plain "java/io/Serializable" (some 0) with
  accessFlags := 1537
  interfaces := #[]
  cf := some (fileOf pool4 2 #[] #[] 1537 4 #[] #[])
  fields := #[]
  methods := #[]
  instanceTypes := #[]
  staticTypes := #[]
  resolved := Array.replicate 8 none
  statics := none }

/-- the primitive byte -/
def k5 : Class := { plain "byte" none with kind := .primitive 'B', accessFlags := 0x411 }
/-- [B -/
def k6 : Class := { plain "[B" (some 0) with kind := .array 5 .byte, interfaces := #[3, 4], accessFlags := 1041 }

/-- the primitive int -/
def k7 : Class := { plain "int" none with kind := .primitive 'I', accessFlags := 0x411 }
/-- [I -/
def k8 : Class := { plain "[I" (some 0) with kind := .array 7 .int, interfaces := #[3, 4], accessFlags := 1041 }

def heap : Heap := #[]
def classes : Array Class := #[k0, k1, k2, k3, k4, k5, k6, k7, k8]
def interned : List (Array UInt16 × Addr) := []
def slotsUsed : Nat := 0
def theMethod : MethodId := ⟨1, 1⟩
def args0 : Array Value := #[.long 5, .long 7]
def aboutOver (below : List Frame) : State where
  vm := { classes := classes, interned := interned.toArray }
  heap := heap
  slotsUsed := slotsUsed
  threads := #[{ frames := .invoking theMethod args0 :: below }]
def below0 : List Frame := [.native { method := ⟨0, 0⟩, args := #[] }]
def about1 : State := aboutOver below0
def p0 : Program := .bare "" "" ""
def e0 : Env := launch0.env 0 0 0
theorem w_frames : about1.frames = Frame.invoking theMethod args0 :: below0 := rfl
set_option maxRecDepth 65536 in
theorem w_args : argsFit about1.vm theMethod args0 = true := by decide +kernel
set_option maxRecDepth 65536 in
theorem w_heap : heapFits about1 = true := by decide +kernel
set_option maxRecDepth 65536 in
theorem w_runnable : about1.curStatus? = some .runnable := by decide +kernel
set_option maxRecDepth 65536 in
theorem w_alone : about1.alone = true := by decide +kernel
set_option maxRecDepth 65536 in
theorem w_named : about1.methodNamed? x = some theMethod := by decide +kernel
set_option maxRecDepth 65536 in
theorem w_hears : about1.hears theMethod below0 = true := by decide +kernel
set_option maxRecDepth 65536 in
theorem w_ripe : about1.ripe theMethod args0 below0 = true := by decide +kernel
theorem w_running : about1.status = .running := rfl
set_option maxRecDepth 65536 in
theorem w_room : about1.hasRoom e0.platform room_1 = true :=
  launch0.hasRoom_least _ room_1 (by decide +kernel) (by decide +kernel) (by decide +kernel) (by decide +kernel) (by decide +kernel) (by decide +kernel)
theorem allAtoms_all (ts : List Jvm.Cond) (a : Array Jvm.Value) (st : Jvm.State) : (allAtoms ts).before a st = ts.all (fun c => c.before a st) := by
  induction ts with
  | nil => rfl
  | cons c t ih =>
    show (Jvm.Cond.and c (allAtoms t)).before a st = _
    rw [Jvm.Cond.before_and, ih, List.all_cons]
def words1 : List Jvm.Cond := Jvm.Cond.code x code maxLocals ret :: tables_1
/-- a 'code' word, met by the world's own term for the bytes: nothing is compared byte by byte -/
theorem code_word {y : MethodName} {bytes : ByteArray} {mx : Nat} {rt : Option FieldType} {a : Array Value} {s : State} {m : MethodId} {meth : Method} {c : Code} (h1 : s.methodNamed? y = some m) (h2 : s.vm.method? m = some meth) (h3 : meth.code = some c) (h4 : c.code = bytes)
    (h5 : (c.maxLocals == mx && c.exceptionTable.isEmpty && decide (c.maxStack ≤ mostOperands) && decide (meth.sig.returnType = rt) && !meth.locks && decide (parseMethodDescriptor y.desc = some meth.sig)) = true) : (Jvm.Cond.code y bytes mx rt).before a s = true := by
  simp only [Bool.and_eq_true, beq_iff_eq, Bool.not_eq_true', decide_eq_true_eq] at h5
  obtain ⟨⟨⟨⟨⟨g1, g2⟩, g3⟩, g4⟩, g5⟩, g6⟩ := h5
  simp [Cond.before, Cond.holds, Cond.value, h1, h2, h3, h4, g1, g2, g3, g4, g5, g6]
def isCode : Jvm.Cond → Bool
  | .code _ _ _ _ => true
  | _ => false
theorem all_split {L : List Jvm.Cond} {P : Jvm.Cond → Bool} (h1 : L.all (fun c => isCode c || P c) = true) (h2 : ∀ c ∈ L.filter isCode, P c = true) : L.all P = true := by
  refine List.all_eq_true.mpr fun c hc => ?_
  have h := List.all_eq_true.mp h1 c hc
  rcases Bool.eq_false_or_eq_true (isCode c) with hi | hi
  · exact h2 c (List.mem_filter.mpr ⟨hc, hi⟩)
  · simpa [hi] using h
set_option maxRecDepth 65536 in
theorem w_c0 : (Jvm.Cond.code x code maxLocals ret).before args0 about1 = true := code_word (m := ⟨1, 1⟩) (meth := k1m1) (c := k1c1) (by decide +kernel) rfl rfl rfl (by decide +kernel)
set_option maxRecDepth 65536 in
theorem w_c1 : (Jvm.Cond.code ({ cls := "com/example/leased/leased/Waits", name := "earlier", desc := "(JJ)J" } : Jvm.MethodName) prog_25_method_2_code (4 : Nat) (Option.some Jvm.ClassFile.FieldType.long)).before args0 about1 = true := code_word (m := ⟨2, 0⟩) (meth := k2m0) (c := k2c0) (by decide +kernel) rfl rfl rfl (by decide +kernel)
def codes1 : List Jvm.Cond := [Jvm.Cond.code x code maxLocals ret, Jvm.Cond.code ({ cls := "com/example/leased/leased/Waits", name := "earlier", desc := "(JJ)J" } : Jvm.MethodName) prog_25_method_2_code (4 : Nat) (Option.some Jvm.ClassFile.FieldType.long)]
set_option maxRecDepth 65536 in
theorem codes_eq : words1.filter isCode = codes1 := rfl
theorem w_codes : ∀ c ∈ words1.filter isCode, c.before args0 about1 = true := by
  rw [codes_eq]
  intro c hc
  simp only [codes1, List.mem_cons, List.not_mem_nil, or_false] at hc
  rcases hc with rfl | rfl
  · exact w_c0
  · exact w_c1
set_option maxRecDepth 65536 in
theorem w_t1 : words1.all (fun c => isCode c || c.before args0 about1) = true := by decide +kernel
theorem w_tables : (allAtoms (Jvm.Cond.code x code maxLocals ret :: tables_1)).before args0 about1 = true := by
  rw [allAtoms_all]
  show words1.all (fun c => c.before args0 about1) = true
  refine all_split ?_ w_codes
  rw [w_t1]
set_option maxRecDepth 65536 in
theorem w_case : (Jvm.Cond.and given_1 narrow_1).before args0 about1 = true := by decide +kernel
theorem w_applies : (headSpec (Jvm.Cond.code x code maxLocals ret :: tables_1) room_1).applies x e0.platform about1 = true :=
  (Spec.applies_iff w_frames).mpr ⟨w_running, w_runnable, w_alone, w_named, w_hears, w_ripe, w_room, w_tables⟩
theorem atStart : AtStart classFile x code maxLocals ret World_1 tables_1 room_1 Calls_1 rest_1 Pre_1 launch0 p0 e0 about1 theMethod args0 below0 :=
  ⟨lists_1, trivial, launch0.admits_env _ _ _, launch0.least_env, fairChoices_fair.cas, fairChoices_fair.clock, w_frames, w_args, w_heap, w_applies, trivial, trivial, w_case⟩
end start1
theorem witness_1 : WitnessClaimed_1 := ⟨start1.p0, start1.e0, start1.about1, start1.theMethod, start1.args0, start1.below0, start1.atStart⟩
end Jvm.Pilot.@@N@@
