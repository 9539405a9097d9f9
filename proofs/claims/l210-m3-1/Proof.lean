import JvmDerived
import JvmDerived.Pilot.@@N@@Statement
import JvmDerived.Pilot.@@N@@Code
set_option linter.unusedVariables false
set_option linter.unusedSimpArgs false
namespace Jvm.Pilot.@@N@@
open Jvm Jvm.ClassFile Sem Op Lib Jvm.Free Jvm.Stand Jvm.LawKit Jvm.RoadKit Bundle Jvm.Pilot.@@N@@.Jvm.D
/-! the run from a frame on: it ends, and what it leaves -/
def own_F (p : Program) (e : Env) (below : List Frame) (Q : Outcome → State → Prop) (T : State) (g : JFrame) : Prop :=
  ∃ s₂ o, Steps p.tables e below (T.setTop g) s₂ ∧ s₂.status = .running ∧ Ended s₂ below o ∧ Q o s₂
theorem own_go {p : Program} {e : Env} {below : List Frame} {Q : Outcome → State → Prop} {T T' : State} {g g' : JFrame} (st : ∀ target, Steps p.tables e below (T'.setTop g') target → Steps p.tables e below (T.setTop g) target) (k : own_F p e below Q T' g') : own_F p e below Q T g := by
  obtain ⟨s₂, o, h1, h2, h3, h4⟩ := k
  exact ⟨s₂, o, st _ h1, h2, h3, h4⟩
theorem own_goT {p : Program} {e : Env} {below : List Frame} {Q : Outcome → State → Prop} {T T' : State} {g g' : JFrame} (st : Steps p.tables e below (T.setTop g) (T'.setTop g')) (k : own_F p e below Q T' g') : own_F p e below Q T g := by
  obtain ⟨s₂, o, h1, h2, h3, h4⟩ := k
  exact ⟨s₂, o, st.trans h1, h2, h3, h4⟩
theorem own_end {p : Program} {e : Env} {below : List Frame} {Q : Outcome → State → Prop} {T s₂ : State} {g : JFrame} {o : Outcome} (st : Steps p.tables e below (T.setTop g) s₂) (h1 : s₂.status = .running) (h2 : Ended s₂ below o) (h3 : Q o s₂) : own_F p e below Q T g := ⟨s₂, o, st, h1, h2, h3⟩
theorem own_ext_tr {h0 h h' : Heap} (E : Ext h0 h) (E' : Ext h h') : Ext h0 h' := ⟨Nat.le_trans E.1 E'.1, fun a c q => E'.2 a c (E.2 a c q)⟩
theorem own_ext_rf (h : Heap) : Ext h h := ⟨Nat.le_refl _, fun _ _ q => q⟩
theorem own_ext_keep {h0 h h' : Heap} {ws : List Addr} (E : Ext h0 h) (K : Keep h h' ws) (q : ∀ x ∈ ws, h0.size ≤ x) : Ext h0 h' :=
  ⟨Nat.le_trans E.1 K.1, fun a c ha => K.2.1 a c (E.2 a c ha) fun k => absurd (Array.getElem?_eq_some_iff.mp ha).1 (Nat.not_lt.mpr (q a k))⟩
theorem own_ext_wr {h0 h h' : Heap} {a : Addr} {sl : Nat} {v : Value} (E : Ext h0 h) (W : Wr h h' a sl v) (q : h0.size ≤ a) : Ext h0 h' :=
  own_ext_keep E (Keep.of_wr W) fun x hx => by cases List.mem_singleton.mp hx; exact q
theorem own_one {a b : Addr} (h : a ≠ b) : a ∉ [b] := fun q => h (List.mem_singleton.mp q)
theorem own_all1 {n : Nat} {b : Addr} (h : n ≤ b) : ∀ x ∈ [b], n ≤ x := fun x hx => by cases List.mem_singleton.mp hx; exact h
theorem own_all0 {n : Nat} : ∀ x ∈ ([] : List Addr), n ≤ x := fun x hx => nomatch hx
theorem own_lt_t {x y : Int64} (h : x < y) : lcmpW x y < 0 := by rw [lcW]; exact (lc_lt _ _).mpr h
theorem own_lt_f {x y : Int64} (h : ¬ x < y) : ¬ lcmpW x y < 0 := by rw [lcW]; exact fun k => h ((lc_lt _ _).mp k)
theorem own_gt_t {x y : Int64} (h : y < x) : 0 < lcmpW x y := by rw [lcW]; exact (lc_gt _ _).mpr h
theorem own_gt_f {x y : Int64} (h : ¬ y < x) : ¬ 0 < lcmpW x y := by rw [lcW]; exact fun k => h ((lc_gt _ _).mp k)
theorem own_eq_t {x y : Int64} (h : x = y) : lcmpW x y = 0 := by rw [lcW]; exact (lc_eq _ _).mpr h
theorem own_eq_f {x y : Int64} (h : ¬ x = y) : ¬ lcmpW x y = 0 := by rw [lcW]; exact fun k => h ((lc_eq _ _).mp k)
def own_dig (u : Int32) : Int32 := if u < 48 then 0 else if 57 < u then 0 else 1
def own_ref (u : Int32) : Int32 := if u ^^^ 48 < 10 then 1 else 0
theorem own_nat (n : Nat) (h : n < 65536) : n ^^^ 48 < 10 ↔ 48 ≤ n ∧ n ≤ 57 := by
  have h1 : (n ^^^ 48) / 64 = n / 64 := by
    have := @Nat.xor_div_two_pow n 48 6
    simpa using this
  have h2 : (n ^^^ 48) % 64 = (n % 64) ^^^ 48 := by
    have := @Nat.xor_mod_two_pow n 48 6
    simpa using this
  have h3 : ∀ k, k < 64 → (k ^^^ 48 < 10 ↔ 48 ≤ k ∧ k ≤ 57) := by decide
  have h4 := h3 (n % 64) (Nat.mod_lt _ (by decide))
  have h5 : (n % 64) ^^^ 48 < 64 := by
    have := @Nat.xor_lt_two_pow (n % 64) 48 6 (Nat.mod_lt _ (by decide)) (by decide)
    simpa using this
  omega
theorem own_small {y : Int32} (h : 2 * y.toBitVec.toNat < 2 ^ 32) : y.toInt = (y.toBitVec.toNat : Int) := by
  show y.toBitVec.toInt = _
  exact BitVec.toInt_eq_toNat_of_lt h
theorem own_same16 (u : UInt16) : own_dig u.toUInt32.toInt32 = own_ref u.toUInt32.toInt32 := by
  have hu : u.toNat < 65536 := u.toNat_lt
  have hb : u.toUInt32.toInt32.toBitVec.toNat = u.toNat := by
    show u.toUInt32.toBitVec.toNat = _
    rw [UInt32.toNat_toBitVec]; simp
  have hx : (u.toUInt32.toInt32 ^^^ 48).toBitVec.toNat = u.toNat ^^^ 48 := by
    rw [Int32.toBitVec_xor, BitVec.toNat_xor, hb]; rfl
  have hl : u.toNat ^^^ 48 < 65536 := @Nat.xor_lt_two_pow u.toNat 48 16 hu (by decide)
  have e1 : u.toUInt32.toInt32.toInt = (u.toNat : Int) := by rw [own_small (by omega), hb]
  have e2 : (u.toUInt32.toInt32 ^^^ 48).toInt = ((u.toNat ^^^ 48 : Nat) : Int) := by rw [own_small (by omega), hx]
  have k := own_nat u.toNat hu
  have c48 : (48 : Int32).toInt = 48 := rfl
  have c57 : (57 : Int32).toInt = 57 := rfl
  have c10 : (10 : Int32).toInt = 10 := rfl
  unfold own_dig own_ref
  simp only [Int32.lt_iff_toInt_lt, e1, e2, c48, c57, c10]
  by_cases q : u.toNat ^^^ 48 < 10
  · have := k.mp q
    rw [if_neg (by omega), if_neg (by omega), if_pos (by omega)]
  · have : ¬ (48 ≤ u.toNat ∧ u.toNat ≤ 57) := fun z => q (k.mpr z)
    by_cases q2 : u.toNat < 48
    · rw [if_pos (by omega), if_neg (by omega)]
    · rw [if_neg (by omega), if_pos (by omega), if_neg (by omega)]
theorem own_same (v : Int32) : own_dig (v.toUInt32.toUInt16.toUInt32.toInt32) = own_ref (v.toUInt32.toUInt16.toUInt32.toInt32) := own_same16 _
theorem own_dD_0 : decode prog_153_method_11_code 0 = .ok (.iload_n 0, 1) := by decide +kernel
theorem own_dD_1 : decode prog_153_method_11_code 1 = .ok (.bipush 48, 2) := by decide +kernel
theorem own_dD_3 : decode prog_153_method_11_code 3 = .ok (.if_icmp .lt 13, 3) := by decide +kernel
theorem own_dD_6 : decode prog_153_method_11_code 6 = .ok (.iload_n 0, 1) := by decide +kernel
theorem own_dD_7 : decode prog_153_method_11_code 7 = .ok (.bipush 57, 2) := by decide +kernel
theorem own_dD_9 : decode prog_153_method_11_code 9 = .ok (.if_icmp .gt 7, 3) := by decide +kernel
theorem own_dD_12 : decode prog_153_method_11_code 12 = .ok (.iconst 1, 1) := by decide +kernel
theorem own_dD_13 : decode prog_153_method_11_code 13 = .ok (.goto 4, 3) := by decide +kernel
theorem own_dD_16 : decode prog_153_method_11_code 16 = .ok (.iconst 0, 1) := by decide +kernel
theorem own_dD_17 : decode prog_153_method_11_code 17 = .ok (.ireturn, 1) := by decide +kernel
theorem own_efD (m : MethodId) (u : Int32) : entryFrame m #[(.int u)] 1 = mkF m 0 #[.val (.int u)] [] := by first | (simp [entryFrame, mkF, argsToLocals, Value.category]; done) | rfl
def own_QD (Z : State) (u : Int32)  (h0 : Heap) (n0 : Nat) (v : Option Value) (h : Heap) (L : List Loc) : Prop := v = some (.int (own_dig u)) ∧ Fr n0 L ∧ h = h0
theorem own_pn0 : plainName "com/example/benchlight/benchlight/Tokenizer" = true := by first | (simp [plainName, overriddenIn]; done) | decide +kernel
set_option maxRecDepth 65536 in
set_option maxHeartbeats 40000000 in
theorem own_rD (l : Launch) (Z : State) (a0 : Array Value) (hw : ∀ d ∈ tables_1, d.before a0 Z = true) (ws : List Jvm.Cond) (u : Int32)  (h0 : Heap) (n0 : Nat) (Z0 : n0 ≤ h0.size) :
    MetFree l (⟨"com/example/benchlight/benchlight/Tokenizer", "isDigit", "(C)Z"⟩ : MethodName) (head1 (Jvm.Cond.code (⟨"com/example/benchlight/benchlight/Tokenizer", "isDigit", "(C)Z"⟩ : MethodName) prog_153_method_11_code 1 (some .boolean) :: ws) ({ frames := 0, cells := 0, slots := 0, locals := 0 } : Room)) (fun a U => a = #[(.int u)] ∧ Z.Warmed39 U.vm ∧ U.heap = h0) (fun _ _ _ _ _ => True) (fun _ U o U' => ∃ v L, o = .returned v ∧ own_QD Z u h0 n0 v U'.heap L ∧ FrameEnd U o U' L ({ frames := 0, cells := 0, slots := 0, locals := 0 } : Room).cells ({ frames := 0, cells := 0, slots := 0, locals := 0 } : Room).slots) := by
  refine MetFree.of_bodySF (plainFor_of_name own_pn0) hisR ?_
  intro p e s m args below meth c s₁ Bd hml0 hP hK
  obtain ⟨rfl, hZ, hh⟩ := hP
  have hx := Bd.exec
  have hby := Bd.bytes
  have hml : c.maxLocals = 1 := hml0
  have hown : s.vm.findClass "com/example/benchlight/benchlight/Tokenizer" = some m.cls := findClass_of_methodNamed Bd.named
  have hnm := (name_of_methodNamed Bd.named Bd.method).1
  have X0 : Stand p l e ({ frames := 0, cells := 0, slots := 0, locals := 0 } : Room) s m #[(.int u)] below meth c s₁ [] 0 0 := Stand.of_body Bd
  have e0 : s₁.heap = h0 := by rw [← hh, Bd.state]; rfl
  have N0 := Fr.nil n0
  show own_F p e below (fun o U' => ∃ v L, o = .returned v ∧ own_QD Z u h0 n0 v U'.heap L ∧ FrameEnd s o U' L ({ frames := 0, cells := 0, slots := 0, locals := 0 } : Room).cells ({ frames := 0, cells := 0, slots := 0, locals := 0 } : Room).slots) s₁ (entryFrame m #[(.int u)] 1)
  rw [own_efD m u]
  refine own_go (T' := s₁) (g' := (mkF m 1 #[.val (.int u)] [(.int u)])) (fun _ k => XS.iloadN X0.here hx rfl (hb hby own_dD_0) rfl k) ?_
  refine own_go (T' := s₁) (g' := (mkF m 3 #[.val (.int u)] [(.int (48 : Int32)), (.int u)])) (fun _ k => XS.bipush X0.here hx rfl (hb hby own_dD_1) k) ?_
  by_cases hc3 : u < (48 : Int32)
  · refine own_go (T' := s₁) (g' := (mkF m 16 #[.val (.int u)] [])) (fun _ k => XS.icmpYes X0.here hx rfl (pc0 := 3) (pc' := 16) rfl (hb hby own_dD_3) rfl (tlt (hc3 : u < (48 : Int32))).1 (by decide) (by decide) k) ?_
    refine own_go (T' := s₁) (g' := (mkF m 17 #[.val (.int u)] [(.int (0 : Int32))])) (fun _ k => XS.iconst X0.here hx rfl (hb hby own_dD_16) k) ?_
    obtain ⟨fs, hr, hrun, hended, hW, hsame⟩ := X0.leave (v := some (.int (0 : Int32))) (fun h => by rw [Bd.returns] at h; cases h)
    refine own_end (retN X0 hx (t := .boolean) Bd.returns (by simp) (hb hby own_dD_17) hr) hrun hended ⟨_, _, rfl, (?_ : own_QD Z u h0 n0 _ s₁.heap _), ⟨_, rfl⟩, hW, hsame.mono (by decide) (by decide)⟩
    rw [e0]
    exact ⟨by simp [own_dig, hc3], N0, rfl⟩
  · refine own_go (T' := s₁) (g' := (mkF m 6 #[.val (.int u)] [])) (fun _ k => XS.icmpNo X0.here hx rfl (hb hby own_dD_3) rfl (flt (hc3 : ¬ (u < (48 : Int32)))).1 k) ?_
    refine own_go (T' := s₁) (g' := (mkF m 7 #[.val (.int u)] [(.int u)])) (fun _ k => XS.iloadN X0.here hx rfl (hb hby own_dD_6) rfl k) ?_
    refine own_go (T' := s₁) (g' := (mkF m 9 #[.val (.int u)] [(.int (57 : Int32)), (.int u)])) (fun _ k => XS.bipush X0.here hx rfl (hb hby own_dD_7) k) ?_
    by_cases hc9 : (57 : Int32) < u
    · refine own_go (T' := s₁) (g' := (mkF m 16 #[.val (.int u)] [])) (fun _ k => XS.icmpYes X0.here hx rfl (pc0 := 9) (pc' := 16) rfl (hb hby own_dD_9) rfl (tlt (hc9 : (57 : Int32) < u)).2.2.1 (by decide) (by decide) k) ?_
      refine own_go (T' := s₁) (g' := (mkF m 17 #[.val (.int u)] [(.int (0 : Int32))])) (fun _ k => XS.iconst X0.here hx rfl (hb hby own_dD_16) k) ?_
      obtain ⟨fs, hr, hrun, hended, hW, hsame⟩ := X0.leave (v := some (.int (0 : Int32))) (fun h => by rw [Bd.returns] at h; cases h)
      refine own_end (retN X0 hx (t := .boolean) Bd.returns (by simp) (hb hby own_dD_17) hr) hrun hended ⟨_, _, rfl, (?_ : own_QD Z u h0 n0 _ s₁.heap _), ⟨_, rfl⟩, hW, hsame.mono (by decide) (by decide)⟩
      rw [e0]
      exact ⟨by simp [own_dig, hc3, hc9], N0, rfl⟩
    · refine own_go (T' := s₁) (g' := (mkF m 12 #[.val (.int u)] [])) (fun _ k => XS.icmpNo X0.here hx rfl (hb hby own_dD_9) rfl (flt (hc9 : ¬ ((57 : Int32) < u))).2.2.1 k) ?_
      refine own_go (T' := s₁) (g' := (mkF m 13 #[.val (.int u)] [(.int (1 : Int32))])) (fun _ k => XS.iconst X0.here hx rfl (hb hby own_dD_12) k) ?_
      refine own_go (T' := s₁) (g' := (mkF m 17 #[.val (.int u)] [(.int (1 : Int32))])) (fun _ k => XS.goto X0.here hx rfl (pc0 := 13) (pc' := 17) rfl (hb hby own_dD_13) (by decide) (by decide) k) ?_
      obtain ⟨fs, hr, hrun, hended, hW, hsame⟩ := X0.leave (v := some (.int (1 : Int32))) (fun h => by rw [Bd.returns] at h; cases h)
      refine own_end (retN X0 hx (t := .boolean) Bd.returns (by simp) (hb hby own_dD_17) hr) hrun hended ⟨_, _, rfl, (?_ : own_QD Z u h0 n0 _ s₁.heap _), ⟨_, rfl⟩, hW, hsame.mono (by decide) (by decide)⟩
      rw [e0]
      exact ⟨by simp [own_dig, hc3, hc9], N0, rfl⟩
theorem own_dR_0 : decode method_2_code 0 = .ok (.iload_n 0, 1) := by decide +kernel
theorem own_dR_1 : decode method_2_code 1 = .ok (.istore_n 1, 1) := by decide +kernel
theorem own_dR_2 : decode method_2_code 2 = .ok (.iload_n 1, 1) := by decide +kernel
theorem own_dR_3 : decode method_2_code 3 = .ok (.bipush 48, 2) := by decide +kernel
theorem own_dR_5 : decode method_2_code 5 = .ok (.ixor, 1) := by decide +kernel
theorem own_dR_6 : decode method_2_code 6 = .ok (.bipush 10, 2) := by decide +kernel
theorem own_dR_8 : decode method_2_code 8 = .ok (.if_icmp .ge 7, 3) := by decide +kernel
theorem own_dR_11 : decode method_2_code 11 = .ok (.iconst 1, 1) := by decide +kernel
theorem own_dR_12 : decode method_2_code 12 = .ok (.goto 4, 3) := by decide +kernel
theorem own_dR_15 : decode method_2_code 15 = .ok (.iconst 0, 1) := by decide +kernel
theorem own_dR_16 : decode method_2_code 16 = .ok (.ireturn, 1) := by decide +kernel
theorem own_efR (m : MethodId) (u : Int32) : entryFrame m #[(.int u)] 2 = mkF m 0 #[.val (.int u), .unset] [] := by first | (simp [entryFrame, mkF, argsToLocals, Value.category]; done) | rfl
def own_QR (Z : State) (u : Int32)  (h0 : Heap) (n0 : Nat) (v : Option Value) (h : Heap) (L : List Loc) : Prop := v = some (.int (own_ref u)) ∧ Fr n0 L ∧ h = h0
theorem own_pn1 : plainName "com/example/benchlight/benchlight/TokenizerIsDigitPinLaw" = true := by first | (simp [plainName, overriddenIn]; done) | decide +kernel
set_option maxRecDepth 65536 in
set_option maxHeartbeats 40000000 in
theorem own_rR (l : Launch) (Z : State) (a0 : Array Value) (hw : ∀ d ∈ tables_1, d.before a0 Z = true) (ws : List Jvm.Cond) (u : Int32)  (h0 : Heap) (n0 : Nat) (Z0 : n0 ≤ h0.size) :
    MetFree l (⟨"com/example/benchlight/benchlight/TokenizerIsDigitPinLaw", "reference", "(C)Z"⟩ : MethodName) (head1 (Jvm.Cond.code (⟨"com/example/benchlight/benchlight/TokenizerIsDigitPinLaw", "reference", "(C)Z"⟩ : MethodName) method_2_code 2 (some .boolean) :: ws) ({ frames := 0, cells := 0, slots := 0, locals := 0 } : Room)) (fun a U => a = #[(.int u)] ∧ Z.Warmed39 U.vm ∧ U.heap = h0) (fun _ _ _ _ _ => True) (fun _ U o U' => ∃ v L, o = .returned v ∧ own_QR Z u h0 n0 v U'.heap L ∧ FrameEnd U o U' L ({ frames := 0, cells := 0, slots := 0, locals := 0 } : Room).cells ({ frames := 0, cells := 0, slots := 0, locals := 0 } : Room).slots) := by
  refine MetFree.of_bodySF (plainFor_of_name own_pn1) hisR ?_
  intro p e s m args below meth c s₁ Bd hml0 hP hK
  obtain ⟨rfl, hZ, hh⟩ := hP
  have hx := Bd.exec
  have hby := Bd.bytes
  have hml : c.maxLocals = 2 := hml0
  have hown : s.vm.findClass "com/example/benchlight/benchlight/TokenizerIsDigitPinLaw" = some m.cls := findClass_of_methodNamed Bd.named
  have hnm := (name_of_methodNamed Bd.named Bd.method).1
  have X0 : Stand p l e ({ frames := 0, cells := 0, slots := 0, locals := 0 } : Room) s m #[(.int u)] below meth c s₁ [] 0 0 := Stand.of_body Bd
  have e0 : s₁.heap = h0 := by rw [← hh, Bd.state]; rfl
  have N0 := Fr.nil n0
  show own_F p e below (fun o U' => ∃ v L, o = .returned v ∧ own_QR Z u h0 n0 v U'.heap L ∧ FrameEnd s o U' L ({ frames := 0, cells := 0, slots := 0, locals := 0 } : Room).cells ({ frames := 0, cells := 0, slots := 0, locals := 0 } : Room).slots) s₁ (entryFrame m #[(.int u)] 2)
  rw [own_efR m u]
  refine own_go (T' := s₁) (g' := (mkF m 1 #[.val (.int u), .unset] [(.int u)])) (fun _ k => XS.iloadN X0.here hx rfl (hb hby own_dR_0) rfl k) ?_
  refine own_go (T' := s₁) (g' := (mkF m 2 #[.val (.int u), .val (.int u)] [])) (fun _ k => XS.istoreN X0.here hx rfl (hb hby own_dR_1) rfl (l' := #[.val (.int u), .val (.int u)]) rfl k) ?_
  refine own_go (T' := s₁) (g' := (mkF m 3 #[.val (.int u), .val (.int u)] [(.int u)])) (fun _ k => XS.iloadN X0.here hx rfl (hb hby own_dR_2) rfl k) ?_
  refine own_go (T' := s₁) (g' := (mkF m 5 #[.val (.int u), .val (.int u)] [(.int (48 : Int32)), (.int u)])) (fun _ k => XS.bipush X0.here hx rfl (hb hby own_dR_3) k) ?_
  refine own_go (T' := s₁) (g' := (mkF m 6 #[.val (.int u), .val (.int u)] [(.int (u ^^^ (48 : Int32)))])) (fun _ k => XS.ixor X0.here hx rfl (hb hby own_dR_5) rfl k) ?_
  refine own_go (T' := s₁) (g' := (mkF m 8 #[.val (.int u), .val (.int u)] [(.int (10 : Int32)), (.int (u ^^^ (48 : Int32)))])) (fun _ k => XS.bipush X0.here hx rfl (hb hby own_dR_6) k) ?_
  by_cases hc8 : (u ^^^ (48 : Int32)) < (10 : Int32)
  · refine own_go (T' := s₁) (g' := (mkF m 11 #[.val (.int u), .val (.int u)] [])) (fun _ k => XS.icmpNo X0.here hx rfl (hb hby own_dR_8) rfl (tlt (hc8 : (u ^^^ (48 : Int32)) < (10 : Int32))).2.1 k) ?_
    refine own_go (T' := s₁) (g' := (mkF m 12 #[.val (.int u), .val (.int u)] [(.int (1 : Int32))])) (fun _ k => XS.iconst X0.here hx rfl (hb hby own_dR_11) k) ?_
    refine own_go (T' := s₁) (g' := (mkF m 16 #[.val (.int u), .val (.int u)] [(.int (1 : Int32))])) (fun _ k => XS.goto X0.here hx rfl (pc0 := 12) (pc' := 16) rfl (hb hby own_dR_12) (by decide) (by decide) k) ?_
    obtain ⟨fs, hr, hrun, hended, hW, hsame⟩ := X0.leave (v := some (.int (1 : Int32))) (fun h => by rw [Bd.returns] at h; cases h)
    refine own_end (retN X0 hx (t := .boolean) Bd.returns (by simp) (hb hby own_dR_16) hr) hrun hended ⟨_, _, rfl, (?_ : own_QR Z u h0 n0 _ s₁.heap _), ⟨_, rfl⟩, hW, hsame.mono (by decide) (by decide)⟩
    rw [e0]
    exact ⟨by simp [own_ref, hc8], N0, rfl⟩
  · refine own_go (T' := s₁) (g' := (mkF m 15 #[.val (.int u), .val (.int u)] [])) (fun _ k => XS.icmpYes X0.here hx rfl (pc0 := 8) (pc' := 15) rfl (hb hby own_dR_8) rfl (flt (hc8 : ¬ ((u ^^^ (48 : Int32)) < (10 : Int32)))).2.1 (by decide) (by decide) k) ?_
    refine own_go (T' := s₁) (g' := (mkF m 16 #[.val (.int u), .val (.int u)] [(.int (0 : Int32))])) (fun _ k => XS.iconst X0.here hx rfl (hb hby own_dR_15) k) ?_
    obtain ⟨fs, hr, hrun, hended, hW, hsame⟩ := X0.leave (v := some (.int (0 : Int32))) (fun h => by rw [Bd.returns] at h; cases h)
    refine own_end (retN X0 hx (t := .boolean) Bd.returns (by simp) (hb hby own_dR_16) hr) hrun hended ⟨_, _, rfl, (?_ : own_QR Z u h0 n0 _ s₁.heap _), ⟨_, rfl⟩, hW, hsame.mono (by decide) (by decide)⟩
    rw [e0]
    exact ⟨by simp [own_ref, hc8], N0, rfl⟩
theorem own_pd0 : parseMethodDescriptor "(C)Z" = some ⟨[.char], some .boolean⟩ := by decide +kernel
theorem own_efL (m : MethodId) (u : Int32) : entryFrame m #[(.int u)] maxLocals = mkF m 0 #[.val (.int u), .unset] [] := by first | (simp [entryFrame, mkF, argsToLocals, Value.category, maxLocals]; done) | rfl
def own_QL (Z : State) (u : Int32)  (h0 : Heap) (n0 : Nat) (v : Option Value) (h : Heap) (L : List Loc) : Prop := v = some (.int (1 : Int32)) ∧ Fr n0 L
set_option maxRecDepth 65536 in
set_option maxHeartbeats 40000000 in
theorem own_rL (l : Launch) (Z : State) (a0 : Array Value) (hw : ∀ d ∈ tables_1, d.before a0 Z = true) (ws : List Jvm.Cond) (u : Int32)  (h0 : Heap) (n0 : Nat) (Z0 : n0 ≤ h0.size) :
    MetFree l x (head1 (Jvm.Cond.code x code maxLocals ret :: ws) room_1) (fun a U => a = #[(.int u)] ∧ Z.Warmed39 U.vm ∧ U.heap = h0) (fun _ _ _ _ _ => True) (fun _ U o U' => ∃ v L, o = .returned v ∧ own_QL Z u h0 n0 v U'.heap L ∧ FrameEnd U o U' L room_1.cells room_1.slots) := by
  refine MetFree.of_bodySF (plainFor_of_name own_pn1) hisR ?_
  intro p e s m args below meth c s₁ Bd hml0 hP hK
  obtain ⟨rfl, hZ, hh⟩ := hP
  have hx := Bd.exec
  have hby := Bd.bytes
  have hml : c.maxLocals = 2 := hml0
  have hown : s.vm.findClass "com/example/benchlight/benchlight/TokenizerIsDigitPinLaw" = some m.cls := findClass_of_methodNamed Bd.named
  have hnm := (name_of_methodNamed Bd.named Bd.method).1
  have X0 : Stand p l e room_1 s m #[(.int u)] below meth c s₁ [] 0 0 := Stand.of_body Bd
  have e0 : s₁.heap = h0 := by rw [← hh, Bd.state]; rfl
  have N0 := Fr.nil n0
  show own_F p e below (fun o U' => ∃ v L, o = .returned v ∧ own_QL Z u h0 n0 v U'.heap L ∧ FrameEnd s o U' L room_1.cells room_1.slots) s₁ (entryFrame m #[(.int u)] maxLocals)
  rw [own_efL m u]
  refine own_go (T' := s₁) (g' := (mkF m 1 #[.val (.int u), .unset] [(.int u)])) (fun _ k => XS.iloadN X0.here hx rfl (hb hby at_0) rfl k) ?_
  refine own_go (T' := s₁) (g' := (mkF m 3 #[.val (.int u), .unset] [(.int (65535 : Int32)), (.int u)])) (fun _ k => X0.ldcInt hx hown (mvT hZ (hw _ (List.mem_of_getElem? (i := 0) rfl))) (g := (mkF m 1 #[.val (.int u), .unset] [(.int u)])) rfl (hb hby at_1) _ k) ?_
  refine own_go (T' := s₁) (g' := (mkF m 4 #[.val (.int u), .unset] [(.int (u &&& (65535 : Int32)))])) (fun _ k => XS.iand X0.here hx rfl (hb hby at_3) rfl k) ?_
  refine own_go (T' := s₁) (g' := (mkF m 5 #[.val (.int u), .unset] [(.int ((u &&& (65535 : Int32)).toUInt32.toUInt16.toUInt32.toInt32))])) (fun _ k => XS.i2c X0.here hx rfl (hb hby at_4) rfl k) ?_
  refine own_go (T' := s₁) (g' := (mkF m 6 #[.val (.int u), .val (.int ((u &&& (65535 : Int32)).toUInt32.toUInt16.toUInt32.toInt32))] [])) (fun _ k => XS.istoreN X0.here hx rfl (hb hby at_5) rfl (l' := #[.val (.int u), .val (.int ((u &&& (65535 : Int32)).toUInt32.toUInt16.toUInt32.toInt32))]) rfl k) ?_
  refine own_go (T' := s₁) (g' := (mkF m 7 #[.val (.int u), .val (.int ((u &&& (65535 : Int32)).toUInt32.toUInt16.toUInt32.toInt32))] [(.int ((u &&& (65535 : Int32)).toUInt32.toUInt16.toUInt32.toInt32))])) (fun _ k => XS.iloadN X0.here hx rfl (hb hby at_6) rfl k) ?_
  obtain ⟨_, _, ⟨T1, L1, k1, n1⟩, -, X1, ⟨Lc1, hQ1, l1, y1, z1⟩, st1⟩ := Jvm.LawKit.callS X0 hx (y := (⟨"com/example/benchlight/benchlight/Tokenizer", "isDigit", "(C)Z"⟩ : MethodName)) hown (mvT hZ (hw _ (List.mem_of_getElem? (i := 1) rfl))) (mvT hZ (hw _ (List.mem_of_getElem? (i := 2) rfl))) (mvT hZ (hw _ (List.mem_of_getElem? (i := 3) rfl))) (mvT hZ (hw _ (List.mem_of_getElem? (i := 4) rfl))) (by decide) (backOf (W := 0) (own_rD l Z a0 hw [] ((u &&& (65535 : Int32)).toUInt32.toUInt16.toUInt32.toInt32) h0 n0 Z0 ) hZ (hw _ (List.mem_of_getElem? (i := 4) rfl)) (hw _ (List.mem_of_getElem? (i := 3) rfl)) (by decide) (by decide)) (g := (mkF m 7 #[.val (.int u), .val (.int ((u &&& (65535 : Int32)).toUInt32.toUInt16.toUInt32.toInt32))] [(.int ((u &&& (65535 : Int32)).toUInt32.toUInt16.toUInt32.toInt32))])) rfl (by rw [hml]; rfl) (argsL := [(.int ((u &&& (65535 : Int32)).toUInt32.toUInt16.toUInt32.toInt32))]) (rest := []) (lenOf own_pd0 rfl) rfl (by show 2 * 0 + _ ≤ _; exact Nat.le_of_eq rfl) (hb hby at_7) (fun _ _ => ⟨rfl, e0, (by decide : 0 + 0 ≤ _), (by decide : 0 + 0 ≤ _)⟩)
  dsimp only [Pt.U, Pt.locs, Pt.cells, Pt.slots] at X1 l1 y1 z1 st1 hQ1
  subst l1 y1 z1
  obtain ⟨rfl, N1q, e1⟩ := hQ1
  have N1 := Fr.app N0 N1q
  refine own_go (T' := T1) (g' := (mkF m 10 #[.val (.int u), .val (.int ((u &&& (65535 : Int32)).toUInt32.toUInt16.toUInt32.toInt32))] [(.int (own_dig ((u &&& (65535 : Int32)).toUInt32.toUInt16.toUInt32.toInt32)))])) (fun _ k => st1 _ k) ?_
  refine own_go (T' := T1) (g' := (mkF m 11 #[.val (.int u), .val (.int ((u &&& (65535 : Int32)).toUInt32.toUInt16.toUInt32.toInt32))] [(.int ((u &&& (65535 : Int32)).toUInt32.toUInt16.toUInt32.toInt32)), (.int (own_dig ((u &&& (65535 : Int32)).toUInt32.toUInt16.toUInt32.toInt32)))])) (fun _ k => XS.iloadN X1.here hx rfl (hb hby at_10) rfl k) ?_
  obtain ⟨_, _, ⟨T2, L2, k2, n2⟩, -, X2, ⟨Lc2, hQ2, l2, y2, z2⟩, st2⟩ := Jvm.LawKit.callS X1 hx (y := (⟨"com/example/benchlight/benchlight/TokenizerIsDigitPinLaw", "reference", "(C)Z"⟩ : MethodName)) hown (mvT hZ (hw _ (List.mem_of_getElem? (i := 5) rfl))) (mvT hZ (hw _ (List.mem_of_getElem? (i := 6) rfl))) (mvT hZ (hw _ (List.mem_of_getElem? (i := 7) rfl))) (mvT hZ (hw _ (List.mem_of_getElem? (i := 8) rfl))) (by decide) (backOf (W := 1) (own_rR l Z a0 hw [] ((u &&& (65535 : Int32)).toUInt32.toUInt16.toUInt32.toInt32) h0 n0 Z0 ) hZ (hw _ (List.mem_of_getElem? (i := 8) rfl)) (hw _ (List.mem_of_getElem? (i := 7) rfl)) (by decide) (by decide)) (g := (mkF m 11 #[.val (.int u), .val (.int ((u &&& (65535 : Int32)).toUInt32.toUInt16.toUInt32.toInt32))] [(.int ((u &&& (65535 : Int32)).toUInt32.toUInt16.toUInt32.toInt32)), (.int (own_dig ((u &&& (65535 : Int32)).toUInt32.toUInt16.toUInt32.toInt32)))])) rfl (by rw [hml]; rfl) (argsL := [(.int ((u &&& (65535 : Int32)).toUInt32.toUInt16.toUInt32.toInt32))]) (rest := [(.int (own_dig ((u &&& (65535 : Int32)).toUInt32.toUInt16.toUInt32.toInt32)))]) (lenOf own_pd0 rfl) rfl (by show 2 * 0 + _ ≤ _; exact Nat.le_of_eq rfl) (hb hby at_11) (fun _ _ => ⟨rfl, e1, (by decide : 0 + 0 ≤ _), (by decide : 0 + 0 ≤ _)⟩)
  dsimp only [Pt.U, Pt.locs, Pt.cells, Pt.slots] at X2 l2 y2 z2 st2 hQ2
  subst l2 y2 z2
  obtain ⟨rfl, N2q, e2⟩ := hQ2
  have N2 := Fr.app N1 N2q
  refine own_go (T' := T2) (g' := (mkF m 14 #[.val (.int u), .val (.int ((u &&& (65535 : Int32)).toUInt32.toUInt16.toUInt32.toInt32))] [(.int (own_ref ((u &&& (65535 : Int32)).toUInt32.toUInt16.toUInt32.toInt32))), (.int (own_dig ((u &&& (65535 : Int32)).toUInt32.toUInt16.toUInt32.toInt32)))])) (fun _ k => st2 _ k) ?_
  refine own_go (T' := T2) (g' := (mkF m 17 #[.val (.int u), .val (.int ((u &&& (65535 : Int32)).toUInt32.toUInt16.toUInt32.toInt32))] [])) (fun _ k => XS.icmpNo X2.here hx rfl (hb hby at_14) rfl (teq (own_same _ : (own_dig ((u &&& (65535 : Int32)).toUInt32.toUInt16.toUInt32.toInt32)) = (own_ref ((u &&& (65535 : Int32)).toUInt32.toUInt16.toUInt32.toInt32)))).2 k) ?_
  refine own_go (T' := T2) (g' := (mkF m 18 #[.val (.int u), .val (.int ((u &&& (65535 : Int32)).toUInt32.toUInt16.toUInt32.toInt32))] [(.int (1 : Int32))])) (fun _ k => XS.iconst X2.here hx rfl (hb hby at_17) k) ?_
  refine own_go (T' := T2) (g' := (mkF m 22 #[.val (.int u), .val (.int ((u &&& (65535 : Int32)).toUInt32.toUInt16.toUInt32.toInt32))] [(.int (1 : Int32))])) (fun _ k => XS.goto X2.here hx rfl (pc0 := 18) (pc' := 22) rfl (hb hby at_18) (by decide) (by decide) k) ?_
  obtain ⟨fs, hr, hrun, hended, hW, hsame⟩ := X2.leave (v := some (.int (1 : Int32))) (fun h => by rw [Bd.returns] at h; cases h)
  refine own_end (retN X2 hx (t := .boolean) Bd.returns (by simp) (hb hby at_22) hr) hrun hended ⟨_, _, rfl, (?_ : own_QL Z u h0 n0 _ T2.heap _), ⟨_, rfl⟩, hW, hsame.mono (by decide) (by decide)⟩
  rw [e2]
  exact ⟨rfl, N2⟩
set_option maxRecDepth 65536 in
set_option maxHeartbeats 40000000 in
theorem own_comes {Post : Tables → Env → Array Value → State → Outcome → State → Prop} (hpost : ∀ tb e args s v u, (limb_1_1.after args s (.returned v) u = true ∧ limb_1_2.after args s (.returned v) u = true ∧ True) → FrameEnd s (.returned v) u (Jvm.fieldLocs frame_1_writes args s ++ Jvm.arrayLocs frame_1_arrays args s ++ Jvm.staticLocs frame_1_statics s) 0 0 → Post tb e args s (.returned v) u) :
    ArmFor flags0 classFile x code maxLocals ret World_1 tables_1 room_1 Calls_1 rest_1 Pre_1 Post := by
  intro l hfl _ _ p e ha hc hk s m args below hf hA hF happ hP
  obtain ⟨hcalls, hrest, hpre⟩ := hP
  obtain ⟨-, -, -, hnamed, -, -, -, hat⟩ := (Spec.applies_iff hf).mp happ
  obtain ⟨hg, hn⟩ := and_e (Cond.before_iff.mp (show (Jvm.Cond.and given_1 narrow_1).before args s = true from hpre))
  obtain ⟨gc, g0⟩ := and_e hg
  obtain ⟨w0, rfl⟩ : ∃ w0 : Value, args = #[w0] := by
    have hs : args.size = 1 := by simpa [Cond.value, given_1] using gc
    obtain ⟨L⟩ := args
    match L, hs with
    | [w0], _ => exact ⟨w0, rfl⟩
  have hw := fun d (hd : d ∈ tables_1) => atoms_spec (ws := Jvm.Cond.code x code maxLocals ret :: tables_1) hat d (List.mem_cons_of_mem _ hd)
  have hfit : Fit s := fun {y c} hc i hi => by
    obtain ⟨ha, rfl⟩ := Array.getElem?_eq_some_iff.mp hc
    have q := List.all_eq_true.mp ((Array.all_eq_true_iff_forall_mem.mp hF) _ (Array.getElem_mem ha)) i (List.mem_range.mpr hi)
    simpa [Array.getElem?_eq_getElem hi] using q
  obtain ⟨i0, ei0⟩ := is_v g0
  obtain rfl : w0 = (.int i0) := Option.some.inj ei0
  obtain ⟨n, o, h1, h2, h3, _, L, rfl, ⟨rfl, N⟩, hq⟩ := own_rL l s _ hw tables_1 i0  s.heap s.heap.size (Nat.le_refl _)  p e ha hc hk s m _ below hf ((Spec.applies_iff_loose hf).mp happ).1 ⟨rfl, State.Warmed39.refl s, rfl⟩ trivial
  refine ⟨n, _, h1, h2, h3, hpost _ _ _ _ _ _ ⟨Cond.after_iff.mpr rfl, Cond.after_iff.mpr (eq_i res_at (Term.int_eval (1)) rfl), trivial⟩ ⟨hq.1, hq.2.1, (hq.2.2.sift fun y hy => Or.inr (N y hy)).mono (by decide) (by decide)⟩⟩
theorem main_1_1 : Claimed_1_1 := own_comes fun _ _ _ _ _ _ h hF => ⟨h.1, hF⟩
theorem main_1_2 : Claimed_1_2 := own_comes fun _ _ _ _ _ _ h hF => ⟨h.2.1, hF⟩
end Jvm.Pilot.@@N@@
namespace Jvm.Pilot.@@N@@
open Jvm Jvm.ClassFile Sem Op Lib Jvm.Free Jvm.Stand Jvm.Pilot.@@N@@.Jvm.D
/-! MADE BY PROGRAM (witnessworld.py) out of the Statement's table words and the real class files: 9 classes; the members and pool entries that the words name. The judged class is class 1, her method 2. -/
namespace start1
open Jvm.ClassFile
def u (s : String) : CpInfo := .utf8 (stringToUtf16 s)
/-- a pool by its gaps: so many unusable entries, then the entry; so many at the end -/
def gap : Nat → List CpInfo → List CpInfo
  | 0, r => r
  | n + 1, r => .unusable :: gap n r
def poolList (es : List (Nat × CpInfo)) (last : Nat) : List CpInfo := es.foldr (fun e r => gap e.1 (e.2 :: r)) (gap last [])
def pool (es : List (Nat × CpInfo)) (last : Nat) : Array CpInfo := ⟨poolList es last⟩
def fileOf (pool : Array CpInfo) (this : Nat) (attrs : Array Attribute := #[]) (ms : Array MethodInfo := #[]) (fl : Nat := 33) (sup : Nat := 0) (ifs : Array Nat := #[]) (fds : Array FieldInfo := #[]) : ClassFile where
  minorVersion := 0
  majorVersion := 65
  constantPool := pool
  accessFlags := fl
  thisClass := this
  superClass := sup
  interfaces := ifs
  fields := fds
  methods := ms
  attributes := attrs
def plain (name : String) (sup : Option ClassId) : Class where
  name := name
  kind := .ordinary
  loader := none
  accessFlags := 33
  super := sup
  interfaces := #[]
  cf := none
  fields := #[]
  methods := #[]
  instanceTypes := #[]
  staticTypes := #[]
  resolved := #[]
  callSites := []
  init := .initialized
  statics := none
  mirror := none

def pool0 : Array CpInfo := pool [(5, u "<init>"), (0, u "()V"), (1, .class_ 10), (1, u "java/lang/Object")] 113

def k0m0 : Method := { name := "<init>", desc := "()V", sig := { parameters := [], returnType := none }, accessFlags := 1, code := none }
/-- java/lang/Object -/
def k0 : Class := { plain "java/lang/Object" none with
  accessFlags := 33
  interfaces := #[]
  cf := some (fileOf pool0 8 #[] #[{ accessFlags := 1, nameIndex := 5, descriptorIndex := 6, attributes := #[] }] 33 0 #[] #[])
  fields := #[]
  methods := #[k0m0]
  instanceTypes := #[]
  staticTypes := #[]
  resolved := Array.replicate 124 none
  statics := none }

def pool1 : Array CpInfo := pool [(2, .class_ 4), (1, u "java/lang/Object"), (0, u "<init>"), (0, u "()V"), (0, .integer 65535), (0, .methodref 9 10), (0, .class_ 11), (0, .nameAndType 12 13), (0, u "com/example/benchlight/benchlight/Tokenizer"), (0, u "isDigit"), (0, u "(C)Z"), (0, .methodref 15 16), (0, .class_ 17), (0, .nameAndType 18 13), (0, u "com/example/benchlight/benchlight/TokenizerIsDigitPinLaw"), (0, u "reference"), (3, u "law"), (0, u "(I)Z")] 2

def k1m0 : Method := { name := "<init>", desc := "()V", sig := { parameters := [], returnType := none }, accessFlags := 2, code := none }
def k1c1 : Code := { maxStack := 2, maxLocals := 2, code := method_2_code, exceptionTable := #[], attributes := #[] }
def k1m1 : Method := { name := "reference", desc := "(C)Z", sig := { parameters := [.char], returnType := some .boolean }, accessFlags := 10, code := some k1c1 }
def k1c2 : Code := { maxStack := 2, maxLocals := 2, code := code, exceptionTable := #[], attributes := #[] }
def k1m2 : Method := { name := "law", desc := "(I)Z", sig := { parameters := [.int], returnType := some .boolean }, accessFlags := 9, code := some k1c2 }
/-- com/example/benchlight/benchlight/TokenizerIsDigitPinLaw -/
def k1 : Class := { plain "com/example/benchlight/benchlight/TokenizerIsDigitPinLaw" (some 0) with
  accessFlags := 49
  interfaces := #[]
  cf := some (fileOf pool1 15 #[] #[{ accessFlags := 2, nameIndex := 5, descriptorIndex := 6, attributes := #[] }, { accessFlags := 10, nameIndex := 18, descriptorIndex := 13, attributes := #[] }, { accessFlags := 9, nameIndex := 22, descriptorIndex := 23, attributes := #[] }] 49 2 #[] #[])
  fields := #[]
  methods := #[k1m0, k1m1, k1m2]
  instanceTypes := #[]
  staticTypes := #[]
  resolved := Array.replicate 26 none
  statics := none }

def pool2 : Array CpInfo := pool [(2, .class_ 4), (1, u "java/lang/Object"), (3, .class_ 10), (1, u "com/example/benchlight/benchlight/Tokenizer"), (0, u "textLine"), (0, u "I"), (2, u "text"), (0, u "Ljava/lang/String;"), (2, u "position"), (40, u "imageFollows"), (0, u "Z"), (15, u "(C)Z"), (10, u "isDigit"), (14, u "PAIRS"), (0, u "Ljava/util/List;"), (136, u "MAX_TOKENS"), (2, u "MAX_NAME"), (1, u "SYMBOLS")] 47

def k2c0 : Code := { maxStack := 2, maxLocals := 1, code := prog_153_method_11_code, exceptionTable := #[], attributes := #[] }
def k2m0 : Method := { name := "isDigit", desc := "(C)Z", sig := { parameters := [.char], returnType := some .boolean }, accessFlags := 8, code := some k2c0 }
/-- com/example/benchlight/benchlight/Tokenizer -/
def k2 : Class := { plain "com/example/benchlight/benchlight/Tokenizer" (some 0) with
  accessFlags := 48
  interfaces := #[]
  cf := some (fileOf pool2 8 #[] #[{ accessFlags := 8, nameIndex := 88, descriptorIndex := 77, attributes := #[] }] 48 2 #[] #[{ accessFlags := 24, nameIndex := 241, descriptorIndex := 12, attributes := #[] }, { accessFlags := 26, nameIndex := 244, descriptorIndex := 12, attributes := #[] }, { accessFlags := 26, nameIndex := 246, descriptorIndex := 16, attributes := #[] }, { accessFlags := 26, nameIndex := 103, descriptorIndex := 104, attributes := #[] }, { accessFlags := 18, nameIndex := 11, descriptorIndex := 12, attributes := #[] }, { accessFlags := 18, nameIndex := 15, descriptorIndex := 16, attributes := #[] }, { accessFlags := 2, nameIndex := 19, descriptorIndex := 12, attributes := #[] }, { accessFlags := 2, nameIndex := 60, descriptorIndex := 61, attributes := #[] }])
  fields := #[{ name := "MAX_TOKENS", type := .int, accessFlags := 24, slot := 0, constantValue := 0 }, { name := "MAX_NAME", type := .int, accessFlags := 26, slot := 1, constantValue := 0 }, { name := "SYMBOLS", type := (.object "java/lang/String"), accessFlags := 26, slot := 2, constantValue := 0 }, { name := "PAIRS", type := (.object "java/util/List"), accessFlags := 26, slot := 3, constantValue := 0 }, { name := "textLine", type := .int, accessFlags := 18, slot := 0, constantValue := 0 }, { name := "text", type := (.object "java/lang/String"), accessFlags := 18, slot := 1, constantValue := 0 }, { name := "position", type := .int, accessFlags := 2, slot := 2, constantValue := 0 }, { name := "imageFollows", type := .boolean, accessFlags := 2, slot := 3, constantValue := 0 }]
  methods := #[k2m0]
  instanceTypes := #[.int, (.object "java/lang/String"), .int, .boolean]
  staticTypes := #[.int, .int, (.object "java/lang/String"), (.object "java/util/List")]
  resolved := Array.replicate 294 none
  statics := none }

def pool3 : Array CpInfo := pool [(1, u "java/lang/Cloneable"), (0, .class_ 1), (0, u "java/lang/Object"), (0, .class_ 3)] 3

/-- java/lang/Cloneable -/
def k3 : Class := { plain "java/lang/Cloneable" (some 0) with
  accessFlags := 1537
  interfaces := #[]
  cf := some (fileOf pool3 2 #[] #[] 1537 4 #[] #[])
  fields := #[]
  methods := #[]
  instanceTypes := #[]
  staticTypes := #[]
  resolved := Array.replicate 8 none
  statics := none }

def pool4 : Array CpInfo := pool [(1, u "java/io/Serializable"), (0, .class_ 1), (0, u "java/lang/Object"), (0, .class_ 3)] 3

/-- java/io/Serializable -/
def k4 : Class := { plain "java/io/Serializable" (some 0) with
  accessFlags := 1537
  interfaces := #[]
  cf := some (fileOf pool4 2 #[] #[] 1537 4 #[] #[])
  fields := #[]
  methods := #[]
  instanceTypes := #[]
  staticTypes := #[]
  resolved := Array.replicate 8 none
  statics := none }

/-- the primitive byte -/
def k5 : Class := { plain "byte" none with kind := .primitive 'B', accessFlags := 0x411 }
/-- [B -/
def k6 : Class := { plain "[B" (some 0) with kind := .array 5 .byte, interfaces := #[3, 4], accessFlags := 1041 }

/-- the primitive int -/
def k7 : Class := { plain "int" none with kind := .primitive 'I', accessFlags := 0x411 }
/-- [I -/
def k8 : Class := { plain "[I" (some 0) with kind := .array 7 .int, interfaces := #[3, 4], accessFlags := 1041 }

def heap : Heap := #[]
def classes : Array Class := #[k0, k1, k2, k3, k4, k5, k6, k7, k8]
def interned : List (Array UInt16 × Addr) := []
def slotsUsed : Nat := 0
def theMethod : MethodId := ⟨1, 2⟩
def args0 : Array Value := #[.int 5]
def aboutOver (below : List Frame) : State where
  vm := { classes := classes, interned := interned.toArray }
  heap := heap
  slotsUsed := slotsUsed
  threads := #[{ frames := .invoking theMethod args0 :: below }]
def below0 : List Frame := [.native { method := ⟨0, 0⟩, args := #[] }]
def about1 : State := aboutOver below0
def p0 : Program := .bare "" "" ""
def e0 : Env := launch0.env 0 0 0
theorem w_frames : about1.frames = Frame.invoking theMethod args0 :: below0 := rfl
set_option maxRecDepth 65536 in
theorem w_args : argsFit about1.vm theMethod args0 = true := by decide +kernel
set_option maxRecDepth 65536 in
theorem w_heap : heapFits about1 = true := by decide +kernel
set_option maxRecDepth 65536 in
theorem w_runnable : about1.curStatus? = some .runnable := by decide +kernel
set_option maxRecDepth 65536 in
theorem w_alone : about1.alone = true := by decide +kernel
set_option maxRecDepth 65536 in
theorem w_named : about1.methodNamed? x = some theMethod := by decide +kernel
set_option maxRecDepth 65536 in
theorem w_hears : about1.hears theMethod below0 = true := by decide +kernel
set_option maxRecDepth 65536 in
theorem w_ripe : about1.ripe theMethod args0 below0 = true := by decide +kernel
theorem w_running : about1.status = .running := rfl
set_option maxRecDepth 65536 in
theorem w_room : about1.hasRoom e0.platform room_1 = true :=
  launch0.hasRoom_least _ room_1 (by decide +kernel) (by decide +kernel) (by decide +kernel) (by decide +kernel) (by decide +kernel) (by decide +kernel)
theorem allAtoms_all (ts : List Jvm.Cond) (a : Array Jvm.Value) (st : Jvm.State) : (allAtoms ts).before a st = ts.all (fun c => c.before a st) := by
  induction ts with
  | nil => rfl
  | cons c t ih =>
    show (Jvm.Cond.and c (allAtoms t)).before a st = _
    rw [Jvm.Cond.before_and, ih, List.all_cons]
def words1 : List Jvm.Cond := Jvm.Cond.code x code maxLocals ret :: tables_1
/-- a 'code' word, met by the world's own term for the bytes: nothing is compared byte by byte -/
theorem code_word {y : MethodName} {bytes : ByteArray} {mx : Nat} {rt : Option FieldType} {a : Array Value} {s : State} {m : MethodId} {meth : Method} {c : Code} (h1 : s.methodNamed? y = some m) (h2 : s.vm.method? m = some meth) (h3 : meth.code = some c) (h4 : c.code = bytes)
    (h5 : (c.maxLocals == mx && c.exceptionTable.isEmpty && decide (c.maxStack ≤ mostOperands) && decide (meth.sig.returnType = rt) && !meth.locks && decide (parseMethodDescriptor y.desc = some meth.sig)) = true) : (Jvm.Cond.code y bytes mx rt).before a s = true := by
  simp only [Bool.and_eq_true, beq_iff_eq, Bool.not_eq_true', decide_eq_true_eq] at h5
  obtain ⟨⟨⟨⟨⟨g1, g2⟩, g3⟩, g4⟩, g5⟩, g6⟩ := h5
  simp [Cond.before, Cond.holds, Cond.value, h1, h2, h3, h4, g1, g2, g3, g4, g5, g6]
def isCode : Jvm.Cond → Bool
  | .code _ _ _ _ => true
  | _ => false
theorem all_split {L : List Jvm.Cond} {P : Jvm.Cond → Bool} (h1 : L.all (fun c => isCode c || P c) = true) (h2 : ∀ c ∈ L.filter isCode, P c = true) : L.all P = true := by
  refine List.all_eq_true.mpr fun c hc => ?_
  have h := List.all_eq_true.mp h1 c hc
  rcases Bool.eq_false_or_eq_true (isCode c) with hi | hi
  · exact h2 c (List.mem_filter.mpr ⟨hc, hi⟩)
  · simpa [hi] using h
set_option maxRecDepth 65536 in
theorem w_c0 : (Jvm.Cond.code x code maxLocals ret).before args0 about1 = true := code_word (m := ⟨1, 2⟩) (meth := k1m2) (c := k1c2) (by decide +kernel) rfl rfl rfl (by decide +kernel)
set_option maxRecDepth 65536 in
theorem w_c1 : (Jvm.Cond.code ({ cls := "com/example/benchlight/benchlight/Tokenizer", name := "isDigit", desc := "(C)Z" } : Jvm.MethodName) prog_153_method_11_code (1 : Nat) (Option.some Jvm.ClassFile.FieldType.boolean)).before args0 about1 = true := code_word (m := ⟨2, 0⟩) (meth := k2m0) (c := k2c0) (by decide +kernel) rfl rfl rfl (by decide +kernel)
set_option maxRecDepth 65536 in
theorem w_c2 : (Jvm.Cond.code ({ cls := "com/example/benchlight/benchlight/TokenizerIsDigitPinLaw", name := "reference", desc := "(C)Z" } : Jvm.MethodName) method_2_code (2 : Nat) (Option.some Jvm.ClassFile.FieldType.boolean)).before args0 about1 = true := code_word (m := ⟨1, 1⟩) (meth := k1m1) (c := k1c1) (by decide +kernel) rfl rfl rfl (by decide +kernel)
def codes1 : List Jvm.Cond := [Jvm.Cond.code x code maxLocals ret, Jvm.Cond.code ({ cls := "com/example/benchlight/benchlight/Tokenizer", name := "isDigit", desc := "(C)Z" } : Jvm.MethodName) prog_153_method_11_code (1 : Nat) (Option.some Jvm.ClassFile.FieldType.boolean), Jvm.Cond.code ({ cls := "com/example/benchlight/benchlight/TokenizerIsDigitPinLaw", name := "reference", desc := "(C)Z" } : Jvm.MethodName) method_2_code (2 : Nat) (Option.some Jvm.ClassFile.FieldType.boolean)]
set_option maxRecDepth 65536 in
theorem codes_eq : words1.filter isCode = codes1 := rfl
theorem w_codes : ∀ c ∈ words1.filter isCode, c.before args0 about1 = true := by
  rw [codes_eq]
  intro c hc
  simp only [codes1, List.mem_cons, List.not_mem_nil, or_false] at hc
  rcases hc with rfl | rfl | rfl
  · exact w_c0
  · exact w_c1
  · exact w_c2
set_option maxRecDepth 65536 in
theorem w_t1 : words1.all (fun c => isCode c || c.before args0 about1) = true := by decide +kernel
theorem w_tables : (allAtoms (Jvm.Cond.code x code maxLocals ret :: tables_1)).before args0 about1 = true := by
  rw [allAtoms_all]
  show words1.all (fun c => c.before args0 about1) = true
  refine all_split ?_ w_codes
  rw [w_t1]
set_option maxRecDepth 65536 in
theorem w_case : (Jvm.Cond.and given_1 narrow_1).before args0 about1 = true := by decide +kernel
theorem w_applies : (headSpec (Jvm.Cond.code x code maxLocals ret :: tables_1) room_1).applies x e0.platform about1 = true :=
  (Spec.applies_iff w_frames).mpr ⟨w_running, w_runnable, w_alone, w_named, w_hears, w_ripe, w_room, w_tables⟩
theorem atStart : AtStart classFile x code maxLocals ret World_1 tables_1 room_1 Calls_1 rest_1 Pre_1 launch0 p0 e0 about1 theMethod args0 below0 :=
  ⟨lists_1, trivial, launch0.admits_env _ _ _, launch0.least_env, fairChoices_fair.cas, fairChoices_fair.clock, w_frames, w_args, w_heap, w_applies, trivial, trivial, w_case⟩
end start1
theorem witness_1 : WitnessClaimed_1 := ⟨start1.p0, start1.e0, start1.about1, start1.theMethod, start1.args0, start1.below0, start1.atStart⟩
end Jvm.Pilot.@@N@@
