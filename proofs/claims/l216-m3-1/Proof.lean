import JvmDerived
import JvmDerived.Pilot.@@N@@Statement
import JvmDerived.Pilot.@@N@@Code
set_option linter.unusedVariables false
set_option linter.unusedSimpArgs false
namespace Jvm.Pilot.@@N@@
open Jvm Jvm.ClassFile Sem Op Lib Jvm.Free Jvm.Stand Jvm.LawKit Jvm.RoadKit Bundle Jvm.Pilot.@@N@@.Jvm.D
/-! the run from a frame on: it ends, and what it leaves -/
def own_F (p : Program) (e : Env) (below : List Frame) (Q : Outcome → State → Prop) (T : State) (g : JFrame) : Prop :=
  ∃ s₂ o, Steps p.tables e below (T.setTop g) s₂ ∧ s₂.status = .running ∧ Ended s₂ below o ∧ Q o s₂
theorem own_go {p : Program} {e : Env} {below : List Frame} {Q : Outcome → State → Prop} {T T' : State} {g g' : JFrame} (st : ∀ target, Steps p.tables e below (T'.setTop g') target → Steps p.tables e below (T.setTop g) target) (k : own_F p e below Q T' g') : own_F p e below Q T g := by
  obtain ⟨s₂, o, h1, h2, h3, h4⟩ := k
  exact ⟨s₂, o, st _ h1, h2, h3, h4⟩
theorem own_goT {p : Program} {e : Env} {below : List Frame} {Q : Outcome → State → Prop} {T T' : State} {g g' : JFrame} (st : Steps p.tables e below (T.setTop g) (T'.setTop g')) (k : own_F p e below Q T' g') : own_F p e below Q T g := by
  obtain ⟨s₂, o, h1, h2, h3, h4⟩ := k
  exact ⟨s₂, o, st.trans h1, h2, h3, h4⟩
theorem own_end {p : Program} {e : Env} {below : List Frame} {Q : Outcome → State → Prop} {T s₂ : State} {g : JFrame} {o : Outcome} (st : Steps p.tables e below (T.setTop g) s₂) (h1 : s₂.status = .running) (h2 : Ended s₂ below o) (h3 : Q o s₂) : own_F p e below Q T g := ⟨s₂, o, st, h1, h2, h3⟩
theorem own_ext_tr {h0 h h' : Heap} (E : Ext h0 h) (E' : Ext h h') : Ext h0 h' := ⟨Nat.le_trans E.1 E'.1, fun a c q => E'.2 a c (E.2 a c q)⟩
theorem own_ext_rf (h : Heap) : Ext h h := ⟨Nat.le_refl _, fun _ _ q => q⟩
theorem own_ext_keep {h0 h h' : Heap} {ws : List Addr} (E : Ext h0 h) (K : Keep h h' ws) (q : ∀ x ∈ ws, h0.size ≤ x) : Ext h0 h' :=
  ⟨Nat.le_trans E.1 K.1, fun a c ha => K.2.1 a c (E.2 a c ha) fun k => absurd (Array.getElem?_eq_some_iff.mp ha).1 (Nat.not_lt.mpr (q a k))⟩
theorem own_ext_wr {h0 h h' : Heap} {a : Addr} {sl : Nat} {v : Value} (E : Ext h0 h) (W : Wr h h' a sl v) (q : h0.size ≤ a) : Ext h0 h' :=
  own_ext_keep E (Keep.of_wr W) fun x hx => by cases List.mem_singleton.mp hx; exact q
theorem own_one {a b : Addr} (h : a ≠ b) : a ∉ [b] := fun q => h (List.mem_singleton.mp q)
theorem own_all1 {n : Nat} {b : Addr} (h : n ≤ b) : ∀ x ∈ [b], n ≤ x := fun x hx => by cases List.mem_singleton.mp hx; exact h
theorem own_all0 {n : Nat} : ∀ x ∈ ([] : List Addr), n ≤ x := fun x hx => nomatch hx
theorem own_lt_t {x y : Int64} (h : x < y) : lcmpW x y < 0 := by rw [lcW]; exact (lc_lt _ _).mpr h
theorem own_lt_f {x y : Int64} (h : ¬ x < y) : ¬ lcmpW x y < 0 := by rw [lcW]; exact fun k => h ((lc_lt _ _).mp k)
theorem own_gt_t {x y : Int64} (h : y < x) : 0 < lcmpW x y := by rw [lcW]; exact (lc_gt _ _).mpr h
theorem own_gt_f {x y : Int64} (h : ¬ y < x) : ¬ 0 < lcmpW x y := by rw [lcW]; exact fun k => h ((lc_gt _ _).mp k)
theorem own_eq_t {x y : Int64} (h : x = y) : lcmpW x y = 0 := by rw [lcW]; exact (lc_eq _ _).mpr h
theorem own_eq_f {x y : Int64} (h : ¬ x = y) : ¬ lcmpW x y = 0 := by rw [lcW]; exact fun k => h ((lc_eq _ _).mp k)
def own_len (xb xw xn : Int32) : Int64 := (4 : Int64) * xb.toInt64 + xn.toInt64 * (xw / 8).toInt64
theorem own_shl (x : Int64) (k : Nat) (hk : k < 64) : x <<< (Int64.ofNat k) = x * Int64.ofNat (2 ^ k) := by
  apply Int64.toBitVec_inj.mp
  rw [Int64.toBitVec_shiftLeft, Int64.toBitVec_mul]
  have h1 : ((Int64.ofNat k).toBitVec.smod 64) = BitVec.ofNat 64 k := by
    revert k; decide
  rw [h1, BitVec.shiftLeft_eq', BitVec.shiftLeft_eq_mul_twoPow]
  congr 1
  have : (BitVec.ofNat 64 k).toNat = k := by simp; omega
  rw [this]
  revert k; decide
theorem own_sh2 (x : Int64) : x <<< ((2 : Int32) &&& 0x3f).toInt64 = x * 4 := own_shl x 2 (by decide)
theorem own_sh1 (x : Int64) : x <<< ((1 : Int32) &&& 0x3f).toInt64 = x * 2 := own_shl x 1 (by decide)
theorem own_q2 : ((16 : Int32) / 8).toInt64 = 2 := by decide
theorem own_q4 : ((32 : Int32) / 8).toInt64 = 4 := by decide
theorem own_l16 (xb xn : Int32) : own_len xb 16 xn = (xb.toInt64 <<< ((2 : Int32) &&& 0x3f).toInt64) + (xn.toInt64 <<< ((1 : Int32) &&& 0x3f).toInt64) := by
  rw [own_len, own_sh2, own_sh1, own_q2, Int64.mul_comm]
theorem own_l32 (xb xn : Int32) : own_len xb 32 xn = ((xb.toInt64 + xn.toInt64) <<< ((2 : Int32) &&& 0x3f).toInt64) := by
  rw [own_len, own_sh2, own_q4, Int64.mul_comm, Int64.add_mul]
theorem own_dS_0 : decode prog_38_method_5_code 0 = .ok (.ldc2_w 90, 3) := by decide +kernel
theorem own_dS_3 : decode prog_38_method_5_code 3 = .ok (.iload_n 0, 1) := by decide +kernel
theorem own_dS_4 : decode prog_38_method_5_code 4 = .ok (.i2l, 1) := by decide +kernel
theorem own_dS_5 : decode prog_38_method_5_code 5 = .ok (.lmul, 1) := by decide +kernel
theorem own_dS_6 : decode prog_38_method_5_code 6 = .ok (.iload_n 2, 1) := by decide +kernel
theorem own_dS_7 : decode prog_38_method_5_code 7 = .ok (.i2l, 1) := by decide +kernel
theorem own_dS_8 : decode prog_38_method_5_code 8 = .ok (.iload_n 1, 1) := by decide +kernel
theorem own_dS_9 : decode prog_38_method_5_code 9 = .ok (.bipush 8, 2) := by decide +kernel
theorem own_dS_11 : decode prog_38_method_5_code 11 = .ok (.idiv, 1) := by decide +kernel
theorem own_dS_12 : decode prog_38_method_5_code 12 = .ok (.i2l, 1) := by decide +kernel
theorem own_dS_13 : decode prog_38_method_5_code 13 = .ok (.lmul, 1) := by decide +kernel
theorem own_dS_14 : decode prog_38_method_5_code 14 = .ok (.ladd, 1) := by decide +kernel
theorem own_dS_15 : decode prog_38_method_5_code 15 = .ok (.lreturn, 1) := by decide +kernel
theorem own_efS (m : MethodId) (xb : Int32) (xw : Int32) (xn : Int32) : entryFrame m #[(.int xb), (.int xw), (.int xn)] 3 = mkF m 0 #[.val (.int xb), .val (.int xw), .val (.int xn)] [] := by first | (simp [entryFrame, mkF, argsToLocals, Value.category]; done) | rfl
def own_QS (Z : State) (xb : Int32) (xw : Int32) (xn : Int32)  (h0 : Heap) (n0 : Nat) (v : Option Value) (h : Heap) (L : List Loc) : Prop := v = some (.long (own_len xb xw xn)) ∧ Fr n0 L ∧ h = h0
theorem own_pn0 : plainName "com/example/urn2/urn2/summary/Saht" = true := by first | (simp [plainName, overriddenIn]; done) | decide +kernel
set_option maxRecDepth 65536 in
set_option maxHeartbeats 40000000 in
theorem own_rS (l : Launch) (Z : State) (a0 : Array Value) (hw : ∀ d ∈ tables_1, d.before a0 Z = true) (ws : List Jvm.Cond) (xb : Int32) (xw : Int32) (xn : Int32)  (h0 : Heap) (n0 : Nat) (Z0 : n0 ≤ h0.size) :
    MetFree l (⟨"com/example/urn2/urn2/summary/Saht", "bodyLength", "(III)J"⟩ : MethodName) (head1 (Jvm.Cond.code (⟨"com/example/urn2/urn2/summary/Saht", "bodyLength", "(III)J"⟩ : MethodName) prog_38_method_5_code 3 (some .long) :: ws) ({ frames := 0, cells := 0, slots := 0, locals := 0 } : Room)) (fun a U => a = #[(.int xb), (.int xw), (.int xn)] ∧ Z.Warmed39 U.vm ∧ U.heap = h0) (fun _ _ _ _ _ => True) (fun _ U o U' => ∃ v L, o = .returned v ∧ own_QS Z xb xw xn h0 n0 v U'.heap L ∧ FrameEnd U o U' L ({ frames := 0, cells := 0, slots := 0, locals := 0 } : Room).cells ({ frames := 0, cells := 0, slots := 0, locals := 0 } : Room).slots) := by
  refine MetFree.of_bodySF (plainFor_of_name own_pn0) hisR ?_
  intro p e s m args below meth c s₁ Bd hml0 hP hK
  obtain ⟨rfl, hZ, hh⟩ := hP
  have hx := Bd.exec
  have hby := Bd.bytes
  have hml : c.maxLocals = 3 := hml0
  have hown : s.vm.findClass "com/example/urn2/urn2/summary/Saht" = some m.cls := findClass_of_methodNamed Bd.named
  have hnm := (name_of_methodNamed Bd.named Bd.method).1
  have X0 : Stand p l e ({ frames := 0, cells := 0, slots := 0, locals := 0 } : Room) s m #[(.int xb), (.int xw), (.int xn)] below meth c s₁ [] 0 0 := Stand.of_body Bd
  have e0 : s₁.heap = h0 := by rw [← hh, Bd.state]; rfl
  have N0 := Fr.nil n0
  show own_F p e below (fun o U' => ∃ v L, o = .returned v ∧ own_QS Z xb xw xn h0 n0 v U'.heap L ∧ FrameEnd s o U' L ({ frames := 0, cells := 0, slots := 0, locals := 0 } : Room).cells ({ frames := 0, cells := 0, slots := 0, locals := 0 } : Room).slots) s₁ (entryFrame m #[(.int xb), (.int xw), (.int xn)] 3)
  rw [own_efS m xb xw xn]
  refine own_go (T' := s₁) (g' := (mkF m 3 #[.val (.int xb), .val (.int xw), .val (.int xn)] [(.long (4 : Int64))])) (fun _ k => X0.ldc2Long hx hown (mvT hZ (hw _ (List.mem_of_getElem? (i := 4) rfl))) (g := (mkF m 0 #[.val (.int xb), .val (.int xw), .val (.int xn)] [])) rfl (hb hby own_dS_0) _ k) ?_
  refine own_go (T' := s₁) (g' := (mkF m 4 #[.val (.int xb), .val (.int xw), .val (.int xn)] [(.int xb), (.long (4 : Int64))])) (fun _ k => XS.iloadN X0.here hx rfl (hb hby own_dS_3) rfl k) ?_
  refine own_go (T' := s₁) (g' := (mkF m 5 #[.val (.int xb), .val (.int xw), .val (.int xn)] [(.long (xb.toInt64)), (.long (4 : Int64))])) (fun _ k => XS.i2l X0.here hx rfl (hb hby own_dS_4) rfl k) ?_
  refine own_go (T' := s₁) (g' := (mkF m 6 #[.val (.int xb), .val (.int xw), .val (.int xn)] [(.long ((4 : Int64) * (xb.toInt64)))])) (fun _ k => XS.lmul X0.here hx rfl (hb hby own_dS_5) rfl k) ?_
  refine own_go (T' := s₁) (g' := (mkF m 7 #[.val (.int xb), .val (.int xw), .val (.int xn)] [(.int xn), (.long ((4 : Int64) * (xb.toInt64)))])) (fun _ k => XS.iloadN X0.here hx rfl (hb hby own_dS_6) rfl k) ?_
  refine own_go (T' := s₁) (g' := (mkF m 8 #[.val (.int xb), .val (.int xw), .val (.int xn)] [(.long (xn.toInt64)), (.long ((4 : Int64) * (xb.toInt64)))])) (fun _ k => XS.i2l X0.here hx rfl (hb hby own_dS_7) rfl k) ?_
  refine own_go (T' := s₁) (g' := (mkF m 9 #[.val (.int xb), .val (.int xw), .val (.int xn)] [(.int xw), (.long (xn.toInt64)), (.long ((4 : Int64) * (xb.toInt64)))])) (fun _ k => XS.iloadN X0.here hx rfl (hb hby own_dS_8) rfl k) ?_
  refine own_go (T' := s₁) (g' := (mkF m 11 #[.val (.int xb), .val (.int xw), .val (.int xn)] [(.int (8 : Int32)), (.int xw), (.long (xn.toInt64)), (.long ((4 : Int64) * (xb.toInt64)))])) (fun _ k => XS.bipush X0.here hx rfl (hb hby own_dS_9) k) ?_
  refine own_go (T' := s₁) (g' := (mkF m 12 #[.val (.int xb), .val (.int xw), .val (.int xn)] [(.int (xw / (8 : Int32))), (.long (xn.toInt64)), (.long ((4 : Int64) * (xb.toInt64)))])) (fun _ k => XS.idiv X0.here hx rfl (hb hby own_dS_11) rfl (by decide) k) ?_
  refine own_go (T' := s₁) (g' := (mkF m 13 #[.val (.int xb), .val (.int xw), .val (.int xn)] [(.long ((xw / (8 : Int32)).toInt64)), (.long (xn.toInt64)), (.long ((4 : Int64) * (xb.toInt64)))])) (fun _ k => XS.i2l X0.here hx rfl (hb hby own_dS_12) rfl k) ?_
  refine own_go (T' := s₁) (g' := (mkF m 14 #[.val (.int xb), .val (.int xw), .val (.int xn)] [(.long ((xn.toInt64) * ((xw / (8 : Int32)).toInt64))), (.long ((4 : Int64) * (xb.toInt64)))])) (fun _ k => XS.lmul X0.here hx rfl (hb hby own_dS_13) rfl k) ?_
  refine own_go (T' := s₁) (g' := (mkF m 15 #[.val (.int xb), .val (.int xw), .val (.int xn)] [(.long (((4 : Int64) * (xb.toInt64)) + ((xn.toInt64) * ((xw / (8 : Int32)).toInt64))))])) (fun _ k => XS.ladd X0.here hx rfl (hb hby own_dS_14) rfl k) ?_
  obtain ⟨fs, hr, hrun, hended, hW, hsame⟩ := X0.leave (v := some (.long (((4 : Int64) * (xb.toInt64)) + ((xn.toInt64) * ((xw / (8 : Int32)).toInt64))))) (fun h => by rw [Bd.returns] at h; cases h)
  refine own_end (retOut X0 hx Bd.returns rfl (Or.inr (Or.inl ⟨rfl, rfl, _, rfl⟩)) (hb hby own_dS_15) hr) hrun hended ⟨_, _, rfl, (?_ : own_QS Z xb xw xn h0 n0 _ s₁.heap _), ⟨_, rfl⟩, hW, hsame.mono (by decide) (by decide)⟩
  rw [e0]
  exact ⟨by simp [own_len], N0, rfl⟩
theorem own_pd0 : parseMethodDescriptor "(III)J" = some ⟨[.int, .int, .int], some .long⟩ := by decide +kernel
theorem own_efL (m : MethodId) (xb : Int32) (xn : Int32) : entryFrame m #[(.int xb), (.int xn)] maxLocals = mkF m 0 #[.val (.int xb), .val (.int xn), .unset, .unset, .unset, .unset, .unset, .unset, .unset, .unset, .unset, .unset, .unset, .unset] [] := by first | (simp [entryFrame, mkF, argsToLocals, Value.category, maxLocals]; done) | rfl
def own_QL (Z : State) (xb : Int32) (xn : Int32)  (h0 : Heap) (n0 : Nat) (v : Option Value) (h : Heap) (L : List Loc) : Prop := v = some (.int (1 : Int32)) ∧ Fr n0 L
theorem own_pn1 : plainName "com/example/urn2/urn2/summary/SahtBodyLengthPinLaw" = true := by first | (simp [plainName, overriddenIn]; done) | decide +kernel
set_option maxRecDepth 65536 in
set_option maxHeartbeats 40000000 in
theorem own_rL (l : Launch) (Z : State) (a0 : Array Value) (hw : ∀ d ∈ tables_1, d.before a0 Z = true) (ws : List Jvm.Cond) (xb : Int32) (xn : Int32)  (h0 : Heap) (n0 : Nat) (Z0 : n0 ≤ h0.size) :
    MetFree l x (head1 (Jvm.Cond.code x code maxLocals ret :: ws) room_1) (fun a U => a = #[(.int xb), (.int xn)] ∧ Z.Warmed39 U.vm ∧ U.heap = h0) (fun _ _ _ _ _ => True) (fun _ U o U' => ∃ v L, o = .returned v ∧ own_QL Z xb xn h0 n0 v U'.heap L ∧ FrameEnd U o U' L room_1.cells room_1.slots) := by
  refine MetFree.of_bodySF (plainFor_of_name own_pn1) hisR ?_
  intro p e s m args below meth c s₁ Bd hml0 hP hK
  obtain ⟨rfl, hZ, hh⟩ := hP
  have hx := Bd.exec
  have hby := Bd.bytes
  have hml : c.maxLocals = 14 := hml0
  have hown : s.vm.findClass "com/example/urn2/urn2/summary/SahtBodyLengthPinLaw" = some m.cls := findClass_of_methodNamed Bd.named
  have hnm := (name_of_methodNamed Bd.named Bd.method).1
  have X0 : Stand p l e room_1 s m #[(.int xb), (.int xn)] below meth c s₁ [] 0 0 := Stand.of_body Bd
  have e0 : s₁.heap = h0 := by rw [← hh, Bd.state]; rfl
  have N0 := Fr.nil n0
  show own_F p e below (fun o U' => ∃ v L, o = .returned v ∧ own_QL Z xb xn h0 n0 v U'.heap L ∧ FrameEnd s o U' L room_1.cells room_1.slots) s₁ (entryFrame m #[(.int xb), (.int xn)] maxLocals)
  rw [own_efL m xb xn]
  refine own_go (T' := s₁) (g' := (mkF m 1 #[.val (.int xb), .val (.int xn), .unset, .unset, .unset, .unset, .unset, .unset, .unset, .unset, .unset, .unset, .unset, .unset] [(.int xb)])) (fun _ k => XS.iloadN X0.here hx rfl (hb hby at_0) rfl k) ?_
  refine own_go (T' := s₁) (g' := (mkF m 2 #[.val (.int xb), .val (.int xn), .unset, .unset, .unset, .unset, .unset, .unset, .unset, .unset, .unset, .unset, .unset, .unset] [(.long (xb.toInt64))])) (fun _ k => XS.i2l X0.here hx rfl (hb hby at_1) rfl k) ?_
  refine own_go (T' := s₁) (g' := (mkF m 3 #[.val (.int xb), .val (.int xn), .val (.long (xb.toInt64)), .second, .unset, .unset, .unset, .unset, .unset, .unset, .unset, .unset, .unset, .unset] [])) (fun _ k => XS.lstoreN X0.here hx rfl (hb hby at_2) rfl (l' := #[.val (.int xb), .val (.int xn), .val (.long (xb.toInt64)), .second, .unset, .unset, .unset, .unset, .unset, .unset, .unset, .unset, .unset, .unset]) rfl k) ?_
  refine own_go (T' := s₁) (g' := (mkF m 4 #[.val (.int xb), .val (.int xn), .val (.long (xb.toInt64)), .second, .unset, .unset, .unset, .unset, .unset, .unset, .unset, .unset, .unset, .unset] [(.int xn)])) (fun _ k => XS.iloadN X0.here hx rfl (hb hby at_3) rfl k) ?_
  refine own_go (T' := s₁) (g' := (mkF m 5 #[.val (.int xb), .val (.int xn), .val (.long (xb.toInt64)), .second, .unset, .unset, .unset, .unset, .unset, .unset, .unset, .unset, .unset, .unset] [(.long (xn.toInt64))])) (fun _ k => XS.i2l X0.here hx rfl (hb hby at_4) rfl k) ?_
  refine own_go (T' := s₁) (g' := (mkF m 7 #[.val (.int xb), .val (.int xn), .val (.long (xb.toInt64)), .second, .val (.long (xn.toInt64)), .second, .unset, .unset, .unset, .unset, .unset, .unset, .unset, .unset] [])) (fun _ k => XS.lstore X0.here hx rfl (hb hby at_5) rfl (l' := #[.val (.int xb), .val (.int xn), .val (.long (xb.toInt64)), .second, .val (.long (xn.toInt64)), .second, .unset, .unset, .unset, .unset, .unset, .unset, .unset, .unset]) rfl k) ?_
  refine own_go (T' := s₁) (g' := (mkF m 8 #[.val (.int xb), .val (.int xn), .val (.long (xb.toInt64)), .second, .val (.long (xn.toInt64)), .second, .unset, .unset, .unset, .unset, .unset, .unset, .unset, .unset] [(.long (xb.toInt64))])) (fun _ k => XS.lloadN X0.here hx rfl (hb hby at_7) rfl k) ?_
  refine own_go (T' := s₁) (g' := (mkF m 9 #[.val (.int xb), .val (.int xn), .val (.long (xb.toInt64)), .second, .val (.long (xn.toInt64)), .second, .unset, .unset, .unset, .unset, .unset, .unset, .unset, .unset] [(.int (2 : Int32)), (.long (xb.toInt64))])) (fun _ k => XS.iconst X0.here hx rfl (hb hby at_8) k) ?_
  refine own_go (T' := s₁) (g' := (mkF m 10 #[.val (.int xb), .val (.int xn), .val (.long (xb.toInt64)), .second, .val (.long (xn.toInt64)), .second, .unset, .unset, .unset, .unset, .unset, .unset, .unset, .unset] [(.long ((xb.toInt64) <<< ((2 : Int32) &&& 0x3f).toInt64))])) (fun _ k => XS.lshl X0.here hx rfl (hb hby at_9) rfl k) ?_
  refine own_go (T' := s₁) (g' := (mkF m 12 #[.val (.int xb), .val (.int xn), .val (.long (xb.toInt64)), .second, .val (.long (xn.toInt64)), .second, .unset, .unset, .unset, .unset, .unset, .unset, .unset, .unset] [(.long (xn.toInt64)), (.long ((xb.toInt64) <<< ((2 : Int32) &&& 0x3f).toInt64))])) (fun _ k => XS.lload X0.here hx rfl (hb hby at_10) rfl k) ?_
  refine own_go (T' := s₁) (g' := (mkF m 13 #[.val (.int xb), .val (.int xn), .val (.long (xb.toInt64)), .second, .val (.long (xn.toInt64)), .second, .unset, .unset, .unset, .unset, .unset, .unset, .unset, .unset] [(.int (1 : Int32)), (.long (xn.toInt64)), (.long ((xb.toInt64) <<< ((2 : Int32) &&& 0x3f).toInt64))])) (fun _ k => XS.iconst X0.here hx rfl (hb hby at_12) k) ?_
  refine own_go (T' := s₁) (g' := (mkF m 14 #[.val (.int xb), .val (.int xn), .val (.long (xb.toInt64)), .second, .val (.long (xn.toInt64)), .second, .unset, .unset, .unset, .unset, .unset, .unset, .unset, .unset] [(.long ((xn.toInt64) <<< ((1 : Int32) &&& 0x3f).toInt64)), (.long ((xb.toInt64) <<< ((2 : Int32) &&& 0x3f).toInt64))])) (fun _ k => XS.lshl X0.here hx rfl (hb hby at_13) rfl k) ?_
  refine own_go (T' := s₁) (g' := (mkF m 15 #[.val (.int xb), .val (.int xn), .val (.long (xb.toInt64)), .second, .val (.long (xn.toInt64)), .second, .unset, .unset, .unset, .unset, .unset, .unset, .unset, .unset] [(.long (((xb.toInt64) <<< ((2 : Int32) &&& 0x3f).toInt64) + ((xn.toInt64) <<< ((1 : Int32) &&& 0x3f).toInt64)))])) (fun _ k => XS.ladd X0.here hx rfl (hb hby at_14) rfl k) ?_
  refine own_go (T' := s₁) (g' := (mkF m 17 #[.val (.int xb), .val (.int xn), .val (.long (xb.toInt64)), .second, .val (.long (xn.toInt64)), .second, .val (.long (((xb.toInt64) <<< ((2 : Int32) &&& 0x3f).toInt64) + ((xn.toInt64) <<< ((1 : Int32) &&& 0x3f).toInt64))), .second, .unset, .unset, .unset, .unset, .unset, .unset] [])) (fun _ k => XS.lstore X0.here hx rfl (hb hby at_15) rfl (l' := #[.val (.int xb), .val (.int xn), .val (.long (xb.toInt64)), .second, .val (.long (xn.toInt64)), .second, .val (.long (((xb.toInt64) <<< ((2 : Int32) &&& 0x3f).toInt64) + ((xn.toInt64) <<< ((1 : Int32) &&& 0x3f).toInt64))), .second, .unset, .unset, .unset, .unset, .unset, .unset]) rfl k) ?_
  refine own_go (T' := s₁) (g' := (mkF m 18 #[.val (.int xb), .val (.int xn), .val (.long (xb.toInt64)), .second, .val (.long (xn.toInt64)), .second, .val (.long (((xb.toInt64) <<< ((2 : Int32) &&& 0x3f).toInt64) + ((xn.toInt64) <<< ((1 : Int32) &&& 0x3f).toInt64))), .second, .unset, .unset, .unset, .unset, .unset, .unset] [(.long (xb.toInt64))])) (fun _ k => XS.lloadN X0.here hx rfl (hb hby at_17) rfl k) ?_
  refine own_go (T' := s₁) (g' := (mkF m 20 #[.val (.int xb), .val (.int xn), .val (.long (xb.toInt64)), .second, .val (.long (xn.toInt64)), .second, .val (.long (((xb.toInt64) <<< ((2 : Int32) &&& 0x3f).toInt64) + ((xn.toInt64) <<< ((1 : Int32) &&& 0x3f).toInt64))), .second, .unset, .unset, .unset, .unset, .unset, .unset] [(.long (xn.toInt64)), (.long (xb.toInt64))])) (fun _ k => XS.lload X0.here hx rfl (hb hby at_18) rfl k) ?_
  refine own_go (T' := s₁) (g' := (mkF m 21 #[.val (.int xb), .val (.int xn), .val (.long (xb.toInt64)), .second, .val (.long (xn.toInt64)), .second, .val (.long (((xb.toInt64) <<< ((2 : Int32) &&& 0x3f).toInt64) + ((xn.toInt64) <<< ((1 : Int32) &&& 0x3f).toInt64))), .second, .unset, .unset, .unset, .unset, .unset, .unset] [(.long ((xb.toInt64) + (xn.toInt64)))])) (fun _ k => XS.ladd X0.here hx rfl (hb hby at_20) rfl k) ?_
  refine own_go (T' := s₁) (g' := (mkF m 22 #[.val (.int xb), .val (.int xn), .val (.long (xb.toInt64)), .second, .val (.long (xn.toInt64)), .second, .val (.long (((xb.toInt64) <<< ((2 : Int32) &&& 0x3f).toInt64) + ((xn.toInt64) <<< ((1 : Int32) &&& 0x3f).toInt64))), .second, .unset, .unset, .unset, .unset, .unset, .unset] [(.int (2 : Int32)), (.long ((xb.toInt64) + (xn.toInt64)))])) (fun _ k => XS.iconst X0.here hx rfl (hb hby at_21) k) ?_
  refine own_go (T' := s₁) (g' := (mkF m 23 #[.val (.int xb), .val (.int xn), .val (.long (xb.toInt64)), .second, .val (.long (xn.toInt64)), .second, .val (.long (((xb.toInt64) <<< ((2 : Int32) &&& 0x3f).toInt64) + ((xn.toInt64) <<< ((1 : Int32) &&& 0x3f).toInt64))), .second, .unset, .unset, .unset, .unset, .unset, .unset] [(.long (((xb.toInt64) + (xn.toInt64)) <<< ((2 : Int32) &&& 0x3f).toInt64))])) (fun _ k => XS.lshl X0.here hx rfl (hb hby at_22) rfl k) ?_
  refine own_go (T' := s₁) (g' := (mkF m 25 #[.val (.int xb), .val (.int xn), .val (.long (xb.toInt64)), .second, .val (.long (xn.toInt64)), .second, .val (.long (((xb.toInt64) <<< ((2 : Int32) &&& 0x3f).toInt64) + ((xn.toInt64) <<< ((1 : Int32) &&& 0x3f).toInt64))), .second, .val (.long (((xb.toInt64) + (xn.toInt64)) <<< ((2 : Int32) &&& 0x3f).toInt64)), .second, .unset, .unset, .unset, .unset] [])) (fun _ k => XS.lstore X0.here hx rfl (hb hby at_23) rfl (l' := #[.val (.int xb), .val (.int xn), .val (.long (xb.toInt64)), .second, .val (.long (xn.toInt64)), .second, .val (.long (((xb.toInt64) <<< ((2 : Int32) &&& 0x3f).toInt64) + ((xn.toInt64) <<< ((1 : Int32) &&& 0x3f).toInt64))), .second, .val (.long (((xb.toInt64) + (xn.toInt64)) <<< ((2 : Int32) &&& 0x3f).toInt64)), .second, .unset, .unset, .unset, .unset]) rfl k) ?_
  refine own_go (T' := s₁) (g' := (mkF m 26 #[.val (.int xb), .val (.int xn), .val (.long (xb.toInt64)), .second, .val (.long (xn.toInt64)), .second, .val (.long (((xb.toInt64) <<< ((2 : Int32) &&& 0x3f).toInt64) + ((xn.toInt64) <<< ((1 : Int32) &&& 0x3f).toInt64))), .second, .val (.long (((xb.toInt64) + (xn.toInt64)) <<< ((2 : Int32) &&& 0x3f).toInt64)), .second, .unset, .unset, .unset, .unset] [(.int xb)])) (fun _ k => XS.iloadN X0.here hx rfl (hb hby at_25) rfl k) ?_
  refine own_go (T' := s₁) (g' := (mkF m 28 #[.val (.int xb), .val (.int xn), .val (.long (xb.toInt64)), .second, .val (.long (xn.toInt64)), .second, .val (.long (((xb.toInt64) <<< ((2 : Int32) &&& 0x3f).toInt64) + ((xn.toInt64) <<< ((1 : Int32) &&& 0x3f).toInt64))), .second, .val (.long (((xb.toInt64) + (xn.toInt64)) <<< ((2 : Int32) &&& 0x3f).toInt64)), .second, .unset, .unset, .unset, .unset] [(.int (16 : Int32)), (.int xb)])) (fun _ k => XS.bipush X0.here hx rfl (hb hby at_26) k) ?_
  refine own_go (T' := s₁) (g' := (mkF m 29 #[.val (.int xb), .val (.int xn), .val (.long (xb.toInt64)), .second, .val (.long (xn.toInt64)), .second, .val (.long (((xb.toInt64) <<< ((2 : Int32) &&& 0x3f).toInt64) + ((xn.toInt64) <<< ((1 : Int32) &&& 0x3f).toInt64))), .second, .val (.long (((xb.toInt64) + (xn.toInt64)) <<< ((2 : Int32) &&& 0x3f).toInt64)), .second, .unset, .unset, .unset, .unset] [(.int xn), (.int (16 : Int32)), (.int xb)])) (fun _ k => XS.iloadN X0.here hx rfl (hb hby at_28) rfl k) ?_
  obtain ⟨_, _, ⟨T1, L1, k1, n1⟩, -, X1, ⟨Lc1, hQ1, l1, y1, z1⟩, st1⟩ := Jvm.LawKit.callS X0 hx (y := (⟨"com/example/urn2/urn2/summary/Saht", "bodyLength", "(III)J"⟩ : MethodName)) hown (mvT hZ (hw _ (List.mem_of_getElem? (i := 0) rfl))) (mvT hZ (hw _ (List.mem_of_getElem? (i := 1) rfl))) (mvT hZ (hw _ (List.mem_of_getElem? (i := 2) rfl))) (mvT hZ (hw _ (List.mem_of_getElem? (i := 3) rfl))) (by decide) (backOf (W := 0) (own_rS l Z a0 hw [] xb (16 : Int32) xn h0 n0 Z0 ) hZ (hw _ (List.mem_of_getElem? (i := 3) rfl)) (hw _ (List.mem_of_getElem? (i := 2) rfl)) (by decide) (by decide)) (g := (mkF m 29 #[.val (.int xb), .val (.int xn), .val (.long (xb.toInt64)), .second, .val (.long (xn.toInt64)), .second, .val (.long (((xb.toInt64) <<< ((2 : Int32) &&& 0x3f).toInt64) + ((xn.toInt64) <<< ((1 : Int32) &&& 0x3f).toInt64))), .second, .val (.long (((xb.toInt64) + (xn.toInt64)) <<< ((2 : Int32) &&& 0x3f).toInt64)), .second, .unset, .unset, .unset, .unset] [(.int xn), (.int (16 : Int32)), (.int xb)])) rfl (by rw [hml]; rfl) (argsL := [(.int xb), (.int (16 : Int32)), (.int xn)]) (rest := []) (lenOf own_pd0 rfl) rfl (by show 2 * 0 + _ ≤ _; exact Nat.le_of_eq rfl) (hb hby at_29) (fun _ _ => ⟨rfl, e0, (by decide : 0 + 0 ≤ _), (by decide : 0 + 0 ≤ _)⟩)
  dsimp only [Pt.U, Pt.locs, Pt.cells, Pt.slots] at X1 l1 y1 z1 st1 hQ1
  subst l1 y1 z1
  obtain ⟨rfl, N1q, e1⟩ := hQ1
  have N1 := Fr.app N0 N1q
  refine own_go (T' := T1) (g' := (mkF m 32 #[.val (.int xb), .val (.int xn), .val (.long (xb.toInt64)), .second, .val (.long (xn.toInt64)), .second, .val (.long (((xb.toInt64) <<< ((2 : Int32) &&& 0x3f).toInt64) + ((xn.toInt64) <<< ((1 : Int32) &&& 0x3f).toInt64))), .second, .val (.long (((xb.toInt64) + (xn.toInt64)) <<< ((2 : Int32) &&& 0x3f).toInt64)), .second, .unset, .unset, .unset, .unset] [(.long (own_len xb (16 : Int32) xn))])) (fun _ k => st1 _ k) ?_
  refine own_go (T' := T1) (g' := (mkF m 34 #[.val (.int xb), .val (.int xn), .val (.long (xb.toInt64)), .second, .val (.long (xn.toInt64)), .second, .val (.long (((xb.toInt64) <<< ((2 : Int32) &&& 0x3f).toInt64) + ((xn.toInt64) <<< ((1 : Int32) &&& 0x3f).toInt64))), .second, .val (.long (((xb.toInt64) + (xn.toInt64)) <<< ((2 : Int32) &&& 0x3f).toInt64)), .second, .val (.long (own_len xb (16 : Int32) xn)), .second, .unset, .unset] [])) (fun _ k => XS.lstore X1.here hx rfl (hb hby at_32) rfl (l' := #[.val (.int xb), .val (.int xn), .val (.long (xb.toInt64)), .second, .val (.long (xn.toInt64)), .second, .val (.long (((xb.toInt64) <<< ((2 : Int32) &&& 0x3f).toInt64) + ((xn.toInt64) <<< ((1 : Int32) &&& 0x3f).toInt64))), .second, .val (.long (((xb.toInt64) + (xn.toInt64)) <<< ((2 : Int32) &&& 0x3f).toInt64)), .second, .val (.long (own_len xb (16 : Int32) xn)), .second, .unset, .unset]) rfl k) ?_
  refine own_go (T' := T1) (g' := (mkF m 35 #[.val (.int xb), .val (.int xn), .val (.long (xb.toInt64)), .second, .val (.long (xn.toInt64)), .second, .val (.long (((xb.toInt64) <<< ((2 : Int32) &&& 0x3f).toInt64) + ((xn.toInt64) <<< ((1 : Int32) &&& 0x3f).toInt64))), .second, .val (.long (((xb.toInt64) + (xn.toInt64)) <<< ((2 : Int32) &&& 0x3f).toInt64)), .second, .val (.long (own_len xb (16 : Int32) xn)), .second, .unset, .unset] [(.int xb)])) (fun _ k => XS.iloadN X1.here hx rfl (hb hby at_34) rfl k) ?_
  refine own_go (T' := T1) (g' := (mkF m 37 #[.val (.int xb), .val (.int xn), .val (.long (xb.toInt64)), .second, .val (.long (xn.toInt64)), .second, .val (.long (((xb.toInt64) <<< ((2 : Int32) &&& 0x3f).toInt64) + ((xn.toInt64) <<< ((1 : Int32) &&& 0x3f).toInt64))), .second, .val (.long (((xb.toInt64) + (xn.toInt64)) <<< ((2 : Int32) &&& 0x3f).toInt64)), .second, .val (.long (own_len xb (16 : Int32) xn)), .second, .unset, .unset] [(.int (32 : Int32)), (.int xb)])) (fun _ k => XS.bipush X1.here hx rfl (hb hby at_35) k) ?_
  refine own_go (T' := T1) (g' := (mkF m 38 #[.val (.int xb), .val (.int xn), .val (.long (xb.toInt64)), .second, .val (.long (xn.toInt64)), .second, .val (.long (((xb.toInt64) <<< ((2 : Int32) &&& 0x3f).toInt64) + ((xn.toInt64) <<< ((1 : Int32) &&& 0x3f).toInt64))), .second, .val (.long (((xb.toInt64) + (xn.toInt64)) <<< ((2 : Int32) &&& 0x3f).toInt64)), .second, .val (.long (own_len xb (16 : Int32) xn)), .second, .unset, .unset] [(.int xn), (.int (32 : Int32)), (.int xb)])) (fun _ k => XS.iloadN X1.here hx rfl (hb hby at_37) rfl k) ?_
  obtain ⟨_, _, ⟨T2, L2, k2, n2⟩, -, X2, ⟨Lc2, hQ2, l2, y2, z2⟩, st2⟩ := Jvm.LawKit.callS X1 hx (y := (⟨"com/example/urn2/urn2/summary/Saht", "bodyLength", "(III)J"⟩ : MethodName)) hown (mvT hZ (hw _ (List.mem_of_getElem? (i := 0) rfl))) (mvT hZ (hw _ (List.mem_of_getElem? (i := 1) rfl))) (mvT hZ (hw _ (List.mem_of_getElem? (i := 2) rfl))) (mvT hZ (hw _ (List.mem_of_getElem? (i := 3) rfl))) (by decide) (backOf (W := 0) (own_rS l Z a0 hw [] xb (32 : Int32) xn h0 n0 Z0 ) hZ (hw _ (List.mem_of_getElem? (i := 3) rfl)) (hw _ (List.mem_of_getElem? (i := 2) rfl)) (by decide) (by decide)) (g := (mkF m 38 #[.val (.int xb), .val (.int xn), .val (.long (xb.toInt64)), .second, .val (.long (xn.toInt64)), .second, .val (.long (((xb.toInt64) <<< ((2 : Int32) &&& 0x3f).toInt64) + ((xn.toInt64) <<< ((1 : Int32) &&& 0x3f).toInt64))), .second, .val (.long (((xb.toInt64) + (xn.toInt64)) <<< ((2 : Int32) &&& 0x3f).toInt64)), .second, .val (.long (own_len xb (16 : Int32) xn)), .second, .unset, .unset] [(.int xn), (.int (32 : Int32)), (.int xb)])) rfl (by rw [hml]; rfl) (argsL := [(.int xb), (.int (32 : Int32)), (.int xn)]) (rest := []) (lenOf own_pd0 rfl) rfl (by show 2 * 0 + _ ≤ _; exact Nat.le_of_eq rfl) (hb hby at_38) (fun _ _ => ⟨rfl, e1, (by decide : 0 + 0 ≤ _), (by decide : 0 + 0 ≤ _)⟩)
  dsimp only [Pt.U, Pt.locs, Pt.cells, Pt.slots] at X2 l2 y2 z2 st2 hQ2
  subst l2 y2 z2
  obtain ⟨rfl, N2q, e2⟩ := hQ2
  have N2 := Fr.app N1 N2q
  refine own_go (T' := T2) (g' := (mkF m 41 #[.val (.int xb), .val (.int xn), .val (.long (xb.toInt64)), .second, .val (.long (xn.toInt64)), .second, .val (.long (((xb.toInt64) <<< ((2 : Int32) &&& 0x3f).toInt64) + ((xn.toInt64) <<< ((1 : Int32) &&& 0x3f).toInt64))), .second, .val (.long (((xb.toInt64) + (xn.toInt64)) <<< ((2 : Int32) &&& 0x3f).toInt64)), .second, .val (.long (own_len xb (16 : Int32) xn)), .second, .unset, .unset] [(.long (own_len xb (32 : Int32) xn))])) (fun _ k => st2 _ k) ?_
  refine own_go (T' := T2) (g' := (mkF m 43 #[.val (.int xb), .val (.int xn), .val (.long (xb.toInt64)), .second, .val (.long (xn.toInt64)), .second, .val (.long (((xb.toInt64) <<< ((2 : Int32) &&& 0x3f).toInt64) + ((xn.toInt64) <<< ((1 : Int32) &&& 0x3f).toInt64))), .second, .val (.long (((xb.toInt64) + (xn.toInt64)) <<< ((2 : Int32) &&& 0x3f).toInt64)), .second, .val (.long (own_len xb (16 : Int32) xn)), .second, .val (.long (own_len xb (32 : Int32) xn)), .second] [])) (fun _ k => XS.lstore X2.here hx rfl (hb hby at_41) rfl (l' := #[.val (.int xb), .val (.int xn), .val (.long (xb.toInt64)), .second, .val (.long (xn.toInt64)), .second, .val (.long (((xb.toInt64) <<< ((2 : Int32) &&& 0x3f).toInt64) + ((xn.toInt64) <<< ((1 : Int32) &&& 0x3f).toInt64))), .second, .val (.long (((xb.toInt64) + (xn.toInt64)) <<< ((2 : Int32) &&& 0x3f).toInt64)), .second, .val (.long (own_len xb (16 : Int32) xn)), .second, .val (.long (own_len xb (32 : Int32) xn)), .second]) rfl k) ?_
  refine own_go (T' := T2) (g' := (mkF m 45 #[.val (.int xb), .val (.int xn), .val (.long (xb.toInt64)), .second, .val (.long (xn.toInt64)), .second, .val (.long (((xb.toInt64) <<< ((2 : Int32) &&& 0x3f).toInt64) + ((xn.toInt64) <<< ((1 : Int32) &&& 0x3f).toInt64))), .second, .val (.long (((xb.toInt64) + (xn.toInt64)) <<< ((2 : Int32) &&& 0x3f).toInt64)), .second, .val (.long (own_len xb (16 : Int32) xn)), .second, .val (.long (own_len xb (32 : Int32) xn)), .second] [(.long (own_len xb (16 : Int32) xn))])) (fun _ k => XS.lload X2.here hx rfl (hb hby at_43) rfl k) ?_
  refine own_go (T' := T2) (g' := (mkF m 47 #[.val (.int xb), .val (.int xn), .val (.long (xb.toInt64)), .second, .val (.long (xn.toInt64)), .second, .val (.long (((xb.toInt64) <<< ((2 : Int32) &&& 0x3f).toInt64) + ((xn.toInt64) <<< ((1 : Int32) &&& 0x3f).toInt64))), .second, .val (.long (((xb.toInt64) + (xn.toInt64)) <<< ((2 : Int32) &&& 0x3f).toInt64)), .second, .val (.long (own_len xb (16 : Int32) xn)), .second, .val (.long (own_len xb (32 : Int32) xn)), .second] [(.long (((xb.toInt64) <<< ((2 : Int32) &&& 0x3f).toInt64) + ((xn.toInt64) <<< ((1 : Int32) &&& 0x3f).toInt64))), (.long (own_len xb (16 : Int32) xn))])) (fun _ k => XS.lload X2.here hx rfl (hb hby at_45) rfl k) ?_
  refine own_go (T' := T2) (g' := (mkF m 48 #[.val (.int xb), .val (.int xn), .val (.long (xb.toInt64)), .second, .val (.long (xn.toInt64)), .second, .val (.long (((xb.toInt64) <<< ((2 : Int32) &&& 0x3f).toInt64) + ((xn.toInt64) <<< ((1 : Int32) &&& 0x3f).toInt64))), .second, .val (.long (((xb.toInt64) + (xn.toInt64)) <<< ((2 : Int32) &&& 0x3f).toInt64)), .second, .val (.long (own_len xb (16 : Int32) xn)), .second, .val (.long (own_len xb (32 : Int32) xn)), .second] [(.int (lcmpW (own_len xb (16 : Int32) xn) (((xb.toInt64) <<< ((2 : Int32) &&& 0x3f).toInt64) + ((xn.toInt64) <<< ((1 : Int32) &&& 0x3f).toInt64))))])) (fun _ k => XS.lcmp X2.here hx rfl (hb hby at_47) rfl k) ?_
  refine own_go (T' := T2) (g' := (mkF m 51 #[.val (.int xb), .val (.int xn), .val (.long (xb.toInt64)), .second, .val (.long (xn.toInt64)), .second, .val (.long (((xb.toInt64) <<< ((2 : Int32) &&& 0x3f).toInt64) + ((xn.toInt64) <<< ((1 : Int32) &&& 0x3f).toInt64))), .second, .val (.long (((xb.toInt64) + (xn.toInt64)) <<< ((2 : Int32) &&& 0x3f).toInt64)), .second, .val (.long (own_len xb (16 : Int32) xn)), .second, .val (.long (own_len xb (32 : Int32) xn)), .second] [])) (fun _ k => XS.ifNo X2.here hx rfl (hb hby at_48) rfl ((if0 _ _).trans (teq ((own_eq_t ((own_l16 xb xn))) : (lcmpW (own_len xb (16 : Int32) xn) (((xb.toInt64) <<< ((2 : Int32) &&& 0x3f).toInt64) + ((xn.toInt64) <<< ((1 : Int32) &&& 0x3f).toInt64))) = (0 : Int32))).2) k) ?_
  refine own_go (T' := T2) (g' := (mkF m 53 #[.val (.int xb), .val (.int xn), .val (.long (xb.toInt64)), .second, .val (.long (xn.toInt64)), .second, .val (.long (((xb.toInt64) <<< ((2 : Int32) &&& 0x3f).toInt64) + ((xn.toInt64) <<< ((1 : Int32) &&& 0x3f).toInt64))), .second, .val (.long (((xb.toInt64) + (xn.toInt64)) <<< ((2 : Int32) &&& 0x3f).toInt64)), .second, .val (.long (own_len xb (16 : Int32) xn)), .second, .val (.long (own_len xb (32 : Int32) xn)), .second] [(.long (own_len xb (32 : Int32) xn))])) (fun _ k => XS.lload X2.here hx rfl (hb hby at_51) rfl k) ?_
  refine own_go (T' := T2) (g' := (mkF m 55 #[.val (.int xb), .val (.int xn), .val (.long (xb.toInt64)), .second, .val (.long (xn.toInt64)), .second, .val (.long (((xb.toInt64) <<< ((2 : Int32) &&& 0x3f).toInt64) + ((xn.toInt64) <<< ((1 : Int32) &&& 0x3f).toInt64))), .second, .val (.long (((xb.toInt64) + (xn.toInt64)) <<< ((2 : Int32) &&& 0x3f).toInt64)), .second, .val (.long (own_len xb (16 : Int32) xn)), .second, .val (.long (own_len xb (32 : Int32) xn)), .second] [(.long (((xb.toInt64) + (xn.toInt64)) <<< ((2 : Int32) &&& 0x3f).toInt64)), (.long (own_len xb (32 : Int32) xn))])) (fun _ k => XS.lload X2.here hx rfl (hb hby at_53) rfl k) ?_
  refine own_go (T' := T2) (g' := (mkF m 56 #[.val (.int xb), .val (.int xn), .val (.long (xb.toInt64)), .second, .val (.long (xn.toInt64)), .second, .val (.long (((xb.toInt64) <<< ((2 : Int32) &&& 0x3f).toInt64) + ((xn.toInt64) <<< ((1 : Int32) &&& 0x3f).toInt64))), .second, .val (.long (((xb.toInt64) + (xn.toInt64)) <<< ((2 : Int32) &&& 0x3f).toInt64)), .second, .val (.long (own_len xb (16 : Int32) xn)), .second, .val (.long (own_len xb (32 : Int32) xn)), .second] [(.int (lcmpW (own_len xb (32 : Int32) xn) (((xb.toInt64) + (xn.toInt64)) <<< ((2 : Int32) &&& 0x3f).toInt64)))])) (fun _ k => XS.lcmp X2.here hx rfl (hb hby at_55) rfl k) ?_
  refine own_go (T' := T2) (g' := (mkF m 59 #[.val (.int xb), .val (.int xn), .val (.long (xb.toInt64)), .second, .val (.long (xn.toInt64)), .second, .val (.long (((xb.toInt64) <<< ((2 : Int32) &&& 0x3f).toInt64) + ((xn.toInt64) <<< ((1 : Int32) &&& 0x3f).toInt64))), .second, .val (.long (((xb.toInt64) + (xn.toInt64)) <<< ((2 : Int32) &&& 0x3f).toInt64)), .second, .val (.long (own_len xb (16 : Int32) xn)), .second, .val (.long (own_len xb (32 : Int32) xn)), .second] [])) (fun _ k => XS.ifNo X2.here hx rfl (hb hby at_56) rfl ((if0 _ _).trans (teq ((own_eq_t ((own_l32 xb xn))) : (lcmpW (own_len xb (32 : Int32) xn) (((xb.toInt64) + (xn.toInt64)) <<< ((2 : Int32) &&& 0x3f).toInt64)) = (0 : Int32))).2) k) ?_
  refine own_go (T' := T2) (g' := (mkF m 60 #[.val (.int xb), .val (.int xn), .val (.long (xb.toInt64)), .second, .val (.long (xn.toInt64)), .second, .val (.long (((xb.toInt64) <<< ((2 : Int32) &&& 0x3f).toInt64) + ((xn.toInt64) <<< ((1 : Int32) &&& 0x3f).toInt64))), .second, .val (.long (((xb.toInt64) + (xn.toInt64)) <<< ((2 : Int32) &&& 0x3f).toInt64)), .second, .val (.long (own_len xb (16 : Int32) xn)), .second, .val (.long (own_len xb (32 : Int32) xn)), .second] [(.int (1 : Int32))])) (fun _ k => XS.iconst X2.here hx rfl (hb hby at_59) k) ?_
  refine own_go (T' := T2) (g' := (mkF m 64 #[.val (.int xb), .val (.int xn), .val (.long (xb.toInt64)), .second, .val (.long (xn.toInt64)), .second, .val (.long (((xb.toInt64) <<< ((2 : Int32) &&& 0x3f).toInt64) + ((xn.toInt64) <<< ((1 : Int32) &&& 0x3f).toInt64))), .second, .val (.long (((xb.toInt64) + (xn.toInt64)) <<< ((2 : Int32) &&& 0x3f).toInt64)), .second, .val (.long (own_len xb (16 : Int32) xn)), .second, .val (.long (own_len xb (32 : Int32) xn)), .second] [(.int (1 : Int32))])) (fun _ k => XS.goto X2.here hx rfl (pc0 := 60) (pc' := 64) rfl (hb hby at_60) (by decide) (by decide) k) ?_
  obtain ⟨fs, hr, hrun, hended, hW, hsame⟩ := X2.leave (v := some (.int (1 : Int32))) (fun h => by rw [Bd.returns] at h; cases h)
  refine own_end (retN X2 hx (t := .boolean) Bd.returns (by simp) (hb hby at_64) hr) hrun hended ⟨_, _, rfl, (?_ : own_QL Z xb xn h0 n0 _ T2.heap _), ⟨_, rfl⟩, hW, hsame.mono (by decide) (by decide)⟩
  rw [e2]
  exact ⟨rfl, N2⟩
set_option maxRecDepth 65536 in
set_option maxHeartbeats 40000000 in
theorem own_comes {Post : Tables → Env → Array Value → State → Outcome → State → Prop} (hpost : ∀ tb e args s v u, (limb_1_1.after args s (.returned v) u = true ∧ limb_1_2.after args s (.returned v) u = true ∧ True) → FrameEnd s (.returned v) u (Jvm.fieldLocs frame_1_writes args s ++ Jvm.arrayLocs frame_1_arrays args s ++ Jvm.staticLocs frame_1_statics s) 0 0 → Post tb e args s (.returned v) u) :
    ArmFor flags0 classFile x code maxLocals ret World_1 tables_1 room_1 Calls_1 rest_1 Pre_1 Post := by
  intro l hfl _ _ p e ha hc hk s m args below hf hA hF happ hP
  obtain ⟨hcalls, hrest, hpre⟩ := hP
  obtain ⟨-, -, -, hnamed, -, -, -, hat⟩ := (Spec.applies_iff hf).mp happ
  obtain ⟨hg, hn⟩ := and_e (Cond.before_iff.mp (show (Jvm.Cond.and given_1 narrow_1).before args s = true from hpre))
  obtain ⟨gc, g0⟩ := and_e hg
  obtain ⟨ga0, g1⟩ := and_e g0
  obtain ⟨w0, w1, rfl⟩ : ∃ w0 w1 : Value, args = #[w0, w1] := by
    have hs : args.size = 2 := by simpa [Cond.value, given_1] using gc
    obtain ⟨L⟩ := args
    match L, hs with
    | [w0, w1], _ => exact ⟨w0, w1, rfl⟩
  have hw := fun d (hd : d ∈ tables_1) => atoms_spec (ws := Jvm.Cond.code x code maxLocals ret :: tables_1) hat d (List.mem_cons_of_mem _ hd)
  have hfit : Fit s := fun {y c} hc i hi => by
    obtain ⟨ha, rfl⟩ := Array.getElem?_eq_some_iff.mp hc
    have q := List.all_eq_true.mp ((Array.all_eq_true_iff_forall_mem.mp hF) _ (Array.getElem_mem ha)) i (List.mem_range.mpr hi)
    simpa [Array.getElem?_eq_getElem hi] using q
  obtain ⟨i0, ei0⟩ := is_v ga0
  obtain rfl : w0 = (.int i0) := Option.some.inj ei0
  obtain ⟨i1, ei1⟩ := is_v g1
  obtain rfl : w1 = (.int i1) := Option.some.inj ei1
  obtain ⟨n, o, h1, h2, h3, _, L, rfl, ⟨rfl, N⟩, hq⟩ := own_rL l s _ hw tables_1 i0 i1  s.heap s.heap.size (Nat.le_refl _)  p e ha hc hk s m _ below hf ((Spec.applies_iff_loose hf).mp happ).1 ⟨rfl, State.Warmed39.refl s, rfl⟩ trivial
  refine ⟨n, _, h1, h2, h3, hpost _ _ _ _ _ _ ⟨Cond.after_iff.mpr rfl, Cond.after_iff.mpr (eq_i res_at (Term.int_eval (1)) rfl), trivial⟩ ⟨hq.1, hq.2.1, (hq.2.2.sift fun y hy => Or.inr (N y hy)).mono (by decide) (by decide)⟩⟩
theorem main_1_1 : Claimed_1_1 := own_comes fun _ _ _ _ _ _ h hF => ⟨h.1, hF⟩
theorem main_1_2 : Claimed_1_2 := own_comes fun _ _ _ _ _ _ h hF => ⟨h.2.1, hF⟩
end Jvm.Pilot.@@N@@
namespace Jvm.Pilot.@@N@@
open Jvm Jvm.ClassFile Sem Op Lib Jvm.Free Jvm.Stand Jvm.Pilot.@@N@@.Jvm.D
/-! MADE BY PROGRAM (witnessworld.py) out of the Statement's table words and the real class files: 10 classes; the members and pool entries that the words name. The judged class is class 1, her method 1. -/
namespace start1
open Jvm.ClassFile
def u (s : String) : CpInfo := .utf8 (stringToUtf16 s)
/-- a pool by its gaps: so many unusable entries, then the entry; so many at the end -/
def gap : Nat → List CpInfo → List CpInfo
  | 0, r => r
  | n + 1, r => .unusable :: gap n r
def poolList (es : List (Nat × CpInfo)) (last : Nat) : List CpInfo := es.foldr (fun e r => gap e.1 (e.2 :: r)) (gap last [])
def pool (es : List (Nat × CpInfo)) (last : Nat) : Array CpInfo := ⟨poolList es last⟩
def fileOf (pool : Array CpInfo) (this : Nat) (attrs : Array Attribute := #[]) (ms : Array MethodInfo := #[]) (fl : Nat := 33) (sup : Nat := 0) (ifs : Array Nat := #[]) (fds : Array FieldInfo := #[]) : ClassFile where
  minorVersion := 0
  majorVersion := 65
  constantPool := pool
  accessFlags := fl
  thisClass := this
  superClass := sup
  interfaces := ifs
  fields := fds
  methods := ms
  attributes := attrs
def plain (name : String) (sup : Option ClassId) : Class where
  name := name
  kind := .ordinary
  loader := none
  accessFlags := 33
  super := sup
  interfaces := #[]
  cf := none
  fields := #[]
  methods := #[]
  instanceTypes := #[]
  staticTypes := #[]
  resolved := #[]
  callSites := []
  init := .initialized
  statics := none
  mirror := none

def pool0 : Array CpInfo := pool [(5, u "<init>"), (0, u "()V"), (1, .class_ 10), (1, u "java/lang/Object")] 113

def k0m0 : Method := { name := "<init>", desc := "()V", sig := { parameters := [], returnType := none }, accessFlags := 1, code := none }
/-- java/lang/Object -/
def k0 : Class := { plain "java/lang/Object" none with
  accessFlags := 33
  interfaces := #[]
  cf := some (fileOf pool0 8 #[] #[{ accessFlags := 1, nameIndex := 5, descriptorIndex := 6, attributes := #[] }] 33 0 #[] #[])
  fields := #[]
  methods := #[k0m0]
  instanceTypes := #[]
  staticTypes := #[]
  resolved := Array.replicate 124 none
  statics := none }

def pool1 : Array CpInfo := pool [(2, .class_ 4), (1, u "java/lang/Object"), (0, u "<init>"), (0, u "()V"), (0, .methodref 8 9), (0, .class_ 10), (0, .nameAndType 11 12), (0, u "com/example/urn2/urn2/summary/Saht"), (0, u "bodyLength"), (0, u "(III)J"), (0, .class_ 14), (0, u "com/example/urn2/urn2/summary/SahtBodyLengthPinLaw"), (2, u "law"), (0, u "(II)Z")] 3

def k1m0 : Method := { name := "<init>", desc := "()V", sig := { parameters := [], returnType := none }, accessFlags := 2, code := none }
def k1c1 : Code := { maxStack := 5, maxLocals := 14, code := code, exceptionTable := #[], attributes := #[] }
def k1m1 : Method := { name := "law", desc := "(II)Z", sig := { parameters := [.int, .int], returnType := some .boolean }, accessFlags := 9, code := some k1c1 }
/-- com/example/urn2/urn2/summary/SahtBodyLengthPinLaw -/
def k1 : Class := { plain "com/example/urn2/urn2/summary/SahtBodyLengthPinLaw" (some 0) with
  accessFlags := 49
  interfaces := #[]
  cf := some (fileOf pool1 13 #[] #[{ accessFlags := 2, nameIndex := 5, descriptorIndex := 6, attributes := #[] }, { accessFlags := 9, nameIndex := 17, descriptorIndex := 18, attributes := #[] }] 49 2 #[] #[])
  fields := #[]
  methods := #[k1m0, k1m1]
  instanceTypes := #[]
  staticTypes := #[]
  resolved := Array.replicate 22 none
  statics := none }

def pool2 : Array CpInfo := pool [(14, .class_ 16), (1, u "com/example/urn2/urn2/summary/Summary"), (2, .class_ 20), (0, u "java/lang/Object")] 9

/-- com/example/urn2/urn2/summary/Summary -/
def k2 : Class := { plain "com/example/urn2/urn2/summary/Summary" (some 0) with
  accessFlags := 1537
  interfaces := #[]
  cf := some (fileOf pool2 14 #[] #[] 1537 19 #[] #[])
  fields := #[]
  methods := #[]
  instanceTypes := #[]
  staticTypes := #[]
  resolved := Array.replicate 30 none
  statics := none }

def pool3 : Array CpInfo := pool [(2, .class_ 4), (1, u "java/lang/Object"), (3, .class_ 10), (1, u "com/example/urn2/urn2/summary/Saht"), (0, u "blocks"), (0, u "I"), (2, u "signatureBits"), (2, u "names"), (2, u "body"), (0, u "[B"), (2, u "groupStarts"), (0, u "[I"), (2, u "namesPerBlock"), (0, u "J"), (6, u "bodyLength"), (0, u "(III)J"), (51, .long 4), (7, u "SIGNATURE_BITS"), (0, u "Ljava/util/List;"), (58, u "INT_LE"), (0, u "Ljava/lang/invoke/VarHandle;"), (27, u "SHORT_LE"), (24, .class_ 213), (0, u "com/example/urn2/urn2/summary/Saht$Counter"), (12, .class_ 228), (1, u "com/example/urn2/urn2/summary/Saht$Keys"), (51, .class_ 281), (0, u "com/example/urn2/urn2/summary/Summary"), (0, u "MAX_NAMES"), (1, u "MAX_BLOCK_LENGTH"), (1, u "MAX_BLOCKS"), (2, u "SEED"), (2, u "ENTRY_BYTES"), (1, u "OFFSET_MASK"), (0, u "GROUP_BLOCKS"), (35, .class_ 332), (0, u "com/example/urn2/urn2/summary/Saht$Editor"), (0, .class_ 334), (0, u "com/example/urn2/urn2/summary/Saht$Builder")] 54

def k3c0 : Code := { maxStack := 6, maxLocals := 3, code := prog_38_method_5_code, exceptionTable := #[], attributes := #[] }
def k3m0 : Method := { name := "bodyLength", desc := "(III)J", sig := { parameters := [.int, .int, .int], returnType := some .long }, accessFlags := 9, code := some k3c0 }
/-- com/example/urn2/urn2/summary/Saht -/
def k3 : Class := { plain "com/example/urn2/urn2/summary/Saht" (some 0) with
  accessFlags := 49
  interfaces := #[2]
  cf := some (fileOf pool3 8 #[.nestMembers #[331, 333, 212, 226]] #[{ accessFlags := 9, nameIndex := 37, descriptorIndex := 38, attributes := #[] }] 49 2 #[280] #[{ accessFlags := 25, nameIndex := 282, descriptorIndex := 12, attributes := #[] }, { accessFlags := 25, nameIndex := 284, descriptorIndex := 12, attributes := #[] }, { accessFlags := 25, nameIndex := 286, descriptorIndex := 12, attributes := #[] }, { accessFlags := 25, nameIndex := 98, descriptorIndex := 99, attributes := #[] }, { accessFlags := 26, nameIndex := 289, descriptorIndex := 30, attributes := #[] }, { accessFlags := 26, nameIndex := 292, descriptorIndex := 12, attributes := #[] }, { accessFlags := 26, nameIndex := 294, descriptorIndex := 12, attributes := #[] }, { accessFlags := 26, nameIndex := 295, descriptorIndex := 12, attributes := #[] }, { accessFlags := 26, nameIndex := 187, descriptorIndex := 159, attributes := #[] }, { accessFlags := 26, nameIndex := 158, descriptorIndex := 159, attributes := #[] }, { accessFlags := 18, nameIndex := 11, descriptorIndex := 12, attributes := #[] }, { accessFlags := 18, nameIndex := 15, descriptorIndex := 12, attributes := #[] }, { accessFlags := 18, nameIndex := 18, descriptorIndex := 12, attributes := #[] }, { accessFlags := 18, nameIndex := 21, descriptorIndex := 22, attributes := #[] }, { accessFlags := 18, nameIndex := 25, descriptorIndex := 26, attributes := #[] }, { accessFlags := 18, nameIndex := 29, descriptorIndex := 30, attributes := #[] }])
  fields := #[{ name := "MAX_NAMES", type := .int, accessFlags := 25, slot := 0, constantValue := 0 }, { name := "MAX_BLOCK_LENGTH", type := .int, accessFlags := 25, slot := 1, constantValue := 0 }, { name := "MAX_BLOCKS", type := .int, accessFlags := 25, slot := 2, constantValue := 0 }, { name := "SIGNATURE_BITS", type := (.object "java/util/List"), accessFlags := 25, slot := 3, constantValue := 0 }, { name := "SEED", type := .long, accessFlags := 26, slot := 4, constantValue := 0 }, { name := "ENTRY_BYTES", type := .int, accessFlags := 26, slot := 5, constantValue := 0 }, { name := "OFFSET_MASK", type := .int, accessFlags := 26, slot := 6, constantValue := 0 }, { name := "GROUP_BLOCKS", type := .int, accessFlags := 26, slot := 7, constantValue := 0 }, { name := "SHORT_LE", type := (.object "java/lang/invoke/VarHandle"), accessFlags := 26, slot := 8, constantValue := 0 }, { name := "INT_LE", type := (.object "java/lang/invoke/VarHandle"), accessFlags := 26, slot := 9, constantValue := 0 }, { name := "blocks", type := .int, accessFlags := 18, slot := 0, constantValue := 0 }, { name := "signatureBits", type := .int, accessFlags := 18, slot := 1, constantValue := 0 }, { name := "names", type := .int, accessFlags := 18, slot := 2, constantValue := 0 }, { name := "body", type := (.array .byte), accessFlags := 18, slot := 3, constantValue := 0 }, { name := "groupStarts", type := (.array .int), accessFlags := 18, slot := 4, constantValue := 0 }, { name := "namesPerBlock", type := .long, accessFlags := 18, slot := 5, constantValue := 0 }]
  methods := #[k3m0]
  instanceTypes := #[.int, .int, .int, (.array .byte), (.array .int), .long]
  staticTypes := #[.int, .int, .int, (.object "java/util/List"), .long, .int, .int, .int, (.object "java/lang/invoke/VarHandle"), (.object "java/lang/invoke/VarHandle")]
  resolved := Array.replicate 389 none
  statics := none }

def pool4 : Array CpInfo := pool [(1, u "java/lang/Cloneable"), (0, .class_ 1), (0, u "java/lang/Object"), (0, .class_ 3)] 3

/-- java/lang/Cloneable -/
def k4 : Class := { plain "java/lang/Cloneable" (some 0) with
  accessFlags := 1537
  interfaces := #[]
  cf := some (fileOf pool4 2 #[] #[] 1537 4 #[] #[])
  fields := #[]
  methods := #[]
  instanceTypes := #[]
  staticTypes := #[]
  resolved := Array.replicate 8 none
  statics := none }

def pool5 : Array CpInfo := pool [(1, u "java/io/Serializable"), (0, .class_ 1), (0, u "java/lang/Object"), (0, .class_ 3)] 3

/-- java/io/Serializable -/
def k5 : Class := { plain "java/io/Serializable" (some 0) with
  accessFlags := 1537
  interfaces := #[]
  cf := some (fileOf pool5 2 #[] #[] 1537 4 #[] #[])
  fields := #[]
  methods := #[]
  instanceTypes := #[]
  staticTypes := #[]
  resolved := Array.replicate 8 none
  statics := none }

/-- the primitive byte -/
def k6 : Class := { plain "byte" none with kind := .primitive 'B', accessFlags := 0x411 }
/-- [B -/
def k7 : Class := { plain "[B" (some 0) with kind := .array 6 .byte, interfaces := #[4, 5], accessFlags := 1041 }

/-- the primitive int -/
def k8 : Class := { plain "int" none with kind := .primitive 'I', accessFlags := 0x411 }
/-- [I -/
def k9 : Class := { plain "[I" (some 0) with kind := .array 8 .int, interfaces := #[4, 5], accessFlags := 1041 }

def heap : Heap := #[]
def classes : Array Class := #[k0, k1, k2, k3, k4, k5, k6, k7, k8, k9]
def interned : List (Array UInt16 × Addr) := []
def slotsUsed : Nat := 0
def theMethod : MethodId := ⟨1, 1⟩
def args0 : Array Value := #[.int 5, .int 7]
def aboutOver (below : List Frame) : State where
  vm := { classes := classes, interned := interned.toArray }
  heap := heap
  slotsUsed := slotsUsed
  threads := #[{ frames := .invoking theMethod args0 :: below }]
def below0 : List Frame := [.native { method := ⟨0, 0⟩, args := #[] }]
def about1 : State := aboutOver below0
def p0 : Program := .bare "" "" ""
def e0 : Env := launch0.env 0 0 0
theorem w_frames : about1.frames = Frame.invoking theMethod args0 :: below0 := rfl
set_option maxRecDepth 65536 in
theorem w_args : argsFit about1.vm theMethod args0 = true := by decide +kernel
set_option maxRecDepth 65536 in
theorem w_heap : heapFits about1 = true := by decide +kernel
set_option maxRecDepth 65536 in
theorem w_runnable : about1.curStatus? = some .runnable := by decide +kernel
set_option maxRecDepth 65536 in
theorem w_alone : about1.alone = true := by decide +kernel
set_option maxRecDepth 65536 in
theorem w_named : about1.methodNamed? x = some theMethod := by decide +kernel
set_option maxRecDepth 65536 in
theorem w_hears : about1.hears theMethod below0 = true := by decide +kernel
set_option maxRecDepth 65536 in
theorem w_ripe : about1.ripe theMethod args0 below0 = true := by decide +kernel
theorem w_running : about1.status = .running := rfl
set_option maxRecDepth 65536 in
theorem w_room : about1.hasRoom e0.platform room_1 = true :=
  launch0.hasRoom_least _ room_1 (by decide +kernel) (by decide +kernel) (by decide +kernel) (by decide +kernel) (by decide +kernel) (by decide +kernel)
theorem allAtoms_all (ts : List Jvm.Cond) (a : Array Jvm.Value) (st : Jvm.State) : (allAtoms ts).before a st = ts.all (fun c => c.before a st) := by
  induction ts with
  | nil => rfl
  | cons c t ih =>
    show (Jvm.Cond.and c (allAtoms t)).before a st = _
    rw [Jvm.Cond.before_and, ih, List.all_cons]
def words1 : List Jvm.Cond := Jvm.Cond.code x code maxLocals ret :: tables_1
/-- a 'code' word, met by the world's own term for the bytes: nothing is compared byte by byte -/
theorem code_word {y : MethodName} {bytes : ByteArray} {mx : Nat} {rt : Option FieldType} {a : Array Value} {s : State} {m : MethodId} {meth : Method} {c : Code} (h1 : s.methodNamed? y = some m) (h2 : s.vm.method? m = some meth) (h3 : meth.code = some c) (h4 : c.code = bytes)
    (h5 : (c.maxLocals == mx && c.exceptionTable.isEmpty && decide (c.maxStack ≤ mostOperands) && decide (meth.sig.returnType = rt) && !meth.locks && decide (parseMethodDescriptor y.desc = some meth.sig)) = true) : (Jvm.Cond.code y bytes mx rt).before a s = true := by
  simp only [Bool.and_eq_true, beq_iff_eq, Bool.not_eq_true', decide_eq_true_eq] at h5
  obtain ⟨⟨⟨⟨⟨g1, g2⟩, g3⟩, g4⟩, g5⟩, g6⟩ := h5
  simp [Cond.before, Cond.holds, Cond.value, h1, h2, h3, h4, g1, g2, g3, g4, g5, g6]
def isCode : Jvm.Cond → Bool
  | .code _ _ _ _ => true
  | _ => false
theorem all_split {L : List Jvm.Cond} {P : Jvm.Cond → Bool} (h1 : L.all (fun c => isCode c || P c) = true) (h2 : ∀ c ∈ L.filter isCode, P c = true) : L.all P = true := by
  refine List.all_eq_true.mpr fun c hc => ?_
  have h := List.all_eq_true.mp h1 c hc
  rcases Bool.eq_false_or_eq_true (isCode c) with hi | hi
  · exact h2 c (List.mem_filter.mpr ⟨hc, hi⟩)
  · simpa [hi] using h
set_option maxRecDepth 65536 in
theorem w_c0 : (Jvm.Cond.code x code maxLocals ret).before args0 about1 = true := code_word (m := ⟨1, 1⟩) (meth := k1m1) (c := k1c1) (by decide +kernel) rfl rfl rfl (by decide +kernel)
set_option maxRecDepth 65536 in
theorem w_c1 : (Jvm.Cond.code ({ cls := "com/example/urn2/urn2/summary/Saht", name := "bodyLength", desc := "(III)J" } : Jvm.MethodName) prog_38_method_5_code (3 : Nat) (Option.some Jvm.ClassFile.FieldType.long)).before args0 about1 = true := code_word (m := ⟨3, 0⟩) (meth := k3m0) (c := k3c0) (by decide +kernel) rfl rfl rfl (by decide +kernel)
def codes1 : List Jvm.Cond := [Jvm.Cond.code x code maxLocals ret, Jvm.Cond.code ({ cls := "com/example/urn2/urn2/summary/Saht", name := "bodyLength", desc := "(III)J" } : Jvm.MethodName) prog_38_method_5_code (3 : Nat) (Option.some Jvm.ClassFile.FieldType.long)]
set_option maxRecDepth 65536 in
theorem codes_eq : words1.filter isCode = codes1 := rfl
theorem w_codes : ∀ c ∈ words1.filter isCode, c.before args0 about1 = true := by
  rw [codes_eq]
  intro c hc
  simp only [codes1, List.mem_cons, List.not_mem_nil, or_false] at hc
  rcases hc with rfl | rfl
  · exact w_c0
  · exact w_c1
set_option maxRecDepth 65536 in
theorem w_t1 : words1.all (fun c => isCode c || c.before args0 about1) = true := by decide +kernel
theorem w_tables : (allAtoms (Jvm.Cond.code x code maxLocals ret :: tables_1)).before args0 about1 = true := by
  rw [allAtoms_all]
  show words1.all (fun c => c.before args0 about1) = true
  refine all_split ?_ w_codes
  rw [w_t1]
set_option maxRecDepth 65536 in
theorem w_case : (Jvm.Cond.and given_1 narrow_1).before args0 about1 = true := by decide +kernel
theorem w_applies : (headSpec (Jvm.Cond.code x code maxLocals ret :: tables_1) room_1).applies x e0.platform about1 = true :=
  (Spec.applies_iff w_frames).mpr ⟨w_running, w_runnable, w_alone, w_named, w_hears, w_ripe, w_room, w_tables⟩
theorem atStart : AtStart classFile x code maxLocals ret World_1 tables_1 room_1 Calls_1 rest_1 Pre_1 launch0 p0 e0 about1 theMethod args0 below0 :=
  ⟨lists_1, trivial, launch0.admits_env _ _ _, launch0.least_env, fairChoices_fair.cas, fairChoices_fair.clock, w_frames, w_args, w_heap, w_applies, trivial, trivial, w_case⟩
end start1
theorem witness_1 : WitnessClaimed_1 := ⟨start1.p0, start1.e0, start1.about1, start1.theMethod, start1.args0, start1.below0, start1.atStart⟩
end Jvm.Pilot.@@N@@
