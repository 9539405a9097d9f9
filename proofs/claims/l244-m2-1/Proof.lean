import JvmDerived
import JvmDerived.Pilot.@@N@@Statement
import JvmDerived.Pilot.@@N@@Code
set_option linter.unusedVariables false
set_option linter.unusedSimpArgs false
@@BLOCK:NumsL.lean.txt@@
namespace Jvm.Pilot.@@N@@
open Jvm Jvm.ClassFile Sem Op Lib Jvm.Free Jvm.Stand Jvm.LawKit Jvm.RoadKit Bundle Jvm.Pilot.@@N@@.Jvm.D
/-! the run from a frame on: it ends, and what it leaves -/
def own_F (p : Program) (e : Env) (below : List Frame) (Q : Outcome → State → Prop) (T : State) (g : JFrame) : Prop :=
  ∃ s₂ o, Steps p.tables e below (T.setTop g) s₂ ∧ s₂.status = .running ∧ Ended s₂ below o ∧ Q o s₂
theorem own_go {p : Program} {e : Env} {below : List Frame} {Q : Outcome → State → Prop} {T T' : State} {g g' : JFrame} (st : ∀ target, Steps p.tables e below (T'.setTop g') target → Steps p.tables e below (T.setTop g) target) (k : own_F p e below Q T' g') : own_F p e below Q T g := by
  obtain ⟨s₂, o, h1, h2, h3, h4⟩ := k
  exact ⟨s₂, o, st _ h1, h2, h3, h4⟩
theorem own_goT {p : Program} {e : Env} {below : List Frame} {Q : Outcome → State → Prop} {T T' : State} {g g' : JFrame} (st : Steps p.tables e below (T.setTop g) (T'.setTop g')) (k : own_F p e below Q T' g') : own_F p e below Q T g := by
  obtain ⟨s₂, o, h1, h2, h3, h4⟩ := k
  exact ⟨s₂, o, st.trans h1, h2, h3, h4⟩
theorem own_end {p : Program} {e : Env} {below : List Frame} {Q : Outcome → State → Prop} {T s₂ : State} {g : JFrame} {o : Outcome} (st : Steps p.tables e below (T.setTop g) s₂) (h1 : s₂.status = .running) (h2 : Ended s₂ below o) (h3 : Q o s₂) : own_F p e below Q T g := ⟨s₂, o, st, h1, h2, h3⟩
theorem own_ext_tr {h0 h h' : Heap} (E : Ext h0 h) (E' : Ext h h') : Ext h0 h' := ⟨Nat.le_trans E.1 E'.1, fun a c q => E'.2 a c (E.2 a c q)⟩
theorem own_ext_rf (h : Heap) : Ext h h := ⟨Nat.le_refl _, fun _ _ q => q⟩
theorem own_ext_keep {h0 h h' : Heap} {ws : List Addr} (E : Ext h0 h) (K : Keep h h' ws) (q : ∀ x ∈ ws, h0.size ≤ x) : Ext h0 h' :=
  ⟨Nat.le_trans E.1 K.1, fun a c ha => K.2.1 a c (E.2 a c ha) fun k => absurd (Array.getElem?_eq_some_iff.mp ha).1 (Nat.not_lt.mpr (q a k))⟩
theorem own_ext_wr {h0 h h' : Heap} {a : Addr} {sl : Nat} {v : Value} (E : Ext h0 h) (W : Wr h h' a sl v) (q : h0.size ≤ a) : Ext h0 h' :=
  own_ext_keep E (Keep.of_wr W) fun x hx => by cases List.mem_singleton.mp hx; exact q
theorem own_one {a b : Addr} (h : a ≠ b) : a ∉ [b] := fun q => h (List.mem_singleton.mp q)
theorem own_all1 {n : Nat} {b : Addr} (h : n ≤ b) : ∀ x ∈ [b], n ≤ x := fun x hx => by cases List.mem_singleton.mp hx; exact h
theorem own_all0 {n : Nat} : ∀ x ∈ ([] : List Addr), n ≤ x := fun x hx => nomatch hx
theorem own_lt_t {x y : Int64} (h : x < y) : lcmpW x y < 0 := by rw [lcW]; exact (lc_lt _ _).mpr h
theorem own_lt_f {x y : Int64} (h : ¬ x < y) : ¬ lcmpW x y < 0 := by rw [lcW]; exact fun k => h ((lc_lt _ _).mp k)
theorem own_gt_t {x y : Int64} (h : y < x) : 0 < lcmpW x y := by rw [lcW]; exact (lc_gt _ _).mpr h
theorem own_gt_f {x y : Int64} (h : ¬ y < x) : ¬ 0 < lcmpW x y := by rw [lcW]; exact fun k => h ((lc_gt _ _).mp k)
theorem own_eq_t {x y : Int64} (h : x = y) : lcmpW x y = 0 := by rw [lcW]; exact (lc_eq _ _).mpr h
theorem own_eq_f {x y : Int64} (h : ¬ x = y) : ¬ lcmpW x y = 0 := by rw [lcW]; exact fun k => h ((lc_eq _ _).mp k)
section OwnWords
variable {args : Array Value} {s : State} {t u : Term}
theorem own_eqi {k : Int32} (h : (Jvm.Cond.eq t (.int k)).value args s none s [] = some true) : t.eval args s none [] s = some (.int k) := by
  simp only [Cond.value, Term.eval] at h
  cases ht : t.eval args s none [] s with
  | none => simp [ht] at h
  | some x => cases x <;> simp [ht] at h ⊢; exact h
theorem own_eqr {b : Addr} (h : (Jvm.Cond.eq t u).value args s none s [] = some true) (hu : u.eval args s none [] s = some (.ref b)) : t.eval args s none [] s = some (.ref b) := by
  simp only [Cond.value, hu] at h
  cases ht : t.eval args s none [] s with
  | none => simp [ht] at h
  | some x => cases x <;> simp [ht] at h ⊢; exact h
theorem own_len {a : Addr} {k : Int32} {n : Nat} {cl : Cell} {ty : FieldType} (ht : t.eval args s none [] s = some (.ref a)) (h : (Term.length t).eval args s none [] s = some (.int k)) (A : RoadKit.Arr s s.heap a cl ty) (hk : k.toNatClampNeg = n) : cl.slots.size = n := by
  have ha : s.arrayAt? a = some cl := A.fin (Vm.Alike.refl _)
  by_cases hn : cl.slots.size < 2 ^ 31
  · rw [len_f ht ha hn] at h
    have e := Value.int.inj (Option.some.inj h)
    have q : cl.slots.size.toInt32.toInt = cl.slots.size := len_toInt hn
    rw [← hk, ← e]
    show _ = cl.slots.size.toInt32.toInt.toNat
    rw [q]; rfl
  · simp [Term.eval, ht, ha, hn] at h
theorem own_elem {a : Addr} {j : Int32} {v : Value} {cl : Cell} (ht : t.eval args s none [] s = some (.ref a)) (h : (Term.elem t (.int j)).eval args s none [] s = some v) (hc : s.heap[a]? = some cl) : cl.slots[j.toNatClampNeg]? = some v := (elem_in h ht (Term.int_eval j) hc).2
end OwnWords
theorem own_fne {Z : State} {h : Heap} {a b : Addr} {C n d : String} {x y : Value} (F : Fld Z h a C n d x) (G : Fld Z h b C n d y) (hn : x ≠ y) : a ≠ b := fun e => by
  subst e
  obtain ⟨c1, cf1, k1, i1, f1, h1, h2, -, -, -, -, h7⟩ := F
  obtain ⟨c2, cf2, k2, i2, f2, g1, g2, -, -, -, -, g7⟩ := G
  cases h1.symm.trans g1
  cases h2.symm.trans g2
  exact hn (Option.some.inj (h7.symm.trans g7))
theorem own_m31 (x : Int32) : (x &&& 2147483647).toInt = x.toInt % 2 ^ 31 := Jvm.Kit.i32_mask x 2147483647 (k := 31) (by decide) (by decide)
theorem own_mod7 (x : Int32) : (x &&& 2147483647) % 7 = 0 ∨ (x &&& 2147483647) % 7 = 1 ∨ (x &&& 2147483647) % 7 = 2 ∨ (x &&& 2147483647) % 7 = 3 ∨ (x &&& 2147483647) % 7 = 4 ∨ (x &&& 2147483647) % 7 = 5 ∨ (x &&& 2147483647) % 7 = 6 := by
  have h1 := own_m31 x
  have h2 : ((x &&& 2147483647) % 7).toInt = (x &&& 2147483647).toInt % (7 : Int32).toInt := Jvm.Kit.i32_rem_nonneg (by omega)
  have h3 : (7 : Int32).toInt = 7 := rfl
  have h4 : ((x &&& 2147483647) % 7).toInt = 0 ∨ ((x &&& 2147483647) % 7).toInt = 1 ∨ ((x &&& 2147483647) % 7).toInt = 2 ∨ ((x &&& 2147483647) % 7).toInt = 3 ∨ ((x &&& 2147483647) % 7).toInt = 4 ∨ ((x &&& 2147483647) % 7).toInt = 5 ∨ ((x &&& 2147483647) % 7).toInt = 6 := by rw [h2, h3]; omega
  rcases h4 with h | h | h | h | h | h | h
  · exact Or.inl (Int32.toInt_inj.mp h)
  · exact Or.inr (Or.inl (Int32.toInt_inj.mp h))
  · exact Or.inr (Or.inr (Or.inl (Int32.toInt_inj.mp h)))
  · exact Or.inr (Or.inr (Or.inr (Or.inl (Int32.toInt_inj.mp h))))
  · exact Or.inr (Or.inr (Or.inr (Or.inr (Or.inl (Int32.toInt_inj.mp h)))))
  · exact Or.inr (Or.inr (Or.inr (Or.inr (Or.inr (Or.inl (Int32.toInt_inj.mp h))))))
  · exact Or.inr (Or.inr (Or.inr (Or.inr (Or.inr (Or.inr ((Int32.toInt_inj.mp h)))))))
def own_kind (k : Int32) (a_TOKEN a_MULTIWORD_TOKEN a_EMPTY_NODE a_COVERED_WORD a_BLANK a_COMMENT a_DOCUMENT_START : Addr) : Addr := if k = 0 then a_TOKEN else if k = 1 then a_MULTIWORD_TOKEN else if k = 2 then a_EMPTY_NODE else if k = 3 then a_COVERED_WORD else if k = 4 then a_BLANK else if k = 5 then a_COMMENT else a_DOCUMENT_START
def own_car (o a b d : Addr) : Int32 := if o = a then 1 else if o = b then 1 else if o = d then 1 else 0
theorem own_dK_0 : decode method_3_code 0 = .ok (.iload_n 0, 1) := by decide +kernel
theorem own_dK_1 : decode method_3_code 1 = .ok (.ifCond .ne 7, 3) := by decide +kernel
theorem own_dK_4 : decode method_3_code 4 = .ok (.getstatic 23, 3) := by decide +kernel
theorem own_dK_7 : decode method_3_code 7 = .ok (.areturn, 1) := by decide +kernel
theorem own_dK_8 : decode method_3_code 8 = .ok (.iload_n 0, 1) := by decide +kernel
theorem own_dK_9 : decode method_3_code 9 = .ok (.iconst 1, 1) := by decide +kernel
theorem own_dK_10 : decode method_3_code 10 = .ok (.if_icmp .ne 7, 3) := by decide +kernel
theorem own_dK_13 : decode method_3_code 13 = .ok (.getstatic 27, 3) := by decide +kernel
theorem own_dK_16 : decode method_3_code 16 = .ok (.areturn, 1) := by decide +kernel
theorem own_dK_17 : decode method_3_code 17 = .ok (.iload_n 0, 1) := by decide +kernel
theorem own_dK_18 : decode method_3_code 18 = .ok (.iconst 2, 1) := by decide +kernel
theorem own_dK_19 : decode method_3_code 19 = .ok (.if_icmp .ne 7, 3) := by decide +kernel
theorem own_dK_22 : decode method_3_code 22 = .ok (.getstatic 30, 3) := by decide +kernel
theorem own_dK_25 : decode method_3_code 25 = .ok (.areturn, 1) := by decide +kernel
theorem own_dK_26 : decode method_3_code 26 = .ok (.iload_n 0, 1) := by decide +kernel
theorem own_dK_27 : decode method_3_code 27 = .ok (.iconst 3, 1) := by decide +kernel
theorem own_dK_28 : decode method_3_code 28 = .ok (.if_icmp .ne 7, 3) := by decide +kernel
theorem own_dK_31 : decode method_3_code 31 = .ok (.getstatic 33, 3) := by decide +kernel
theorem own_dK_34 : decode method_3_code 34 = .ok (.areturn, 1) := by decide +kernel
theorem own_dK_35 : decode method_3_code 35 = .ok (.iload_n 0, 1) := by decide +kernel
theorem own_dK_36 : decode method_3_code 36 = .ok (.iconst 4, 1) := by decide +kernel
theorem own_dK_37 : decode method_3_code 37 = .ok (.if_icmp .ne 7, 3) := by decide +kernel
theorem own_dK_40 : decode method_3_code 40 = .ok (.getstatic 36, 3) := by decide +kernel
theorem own_dK_43 : decode method_3_code 43 = .ok (.areturn, 1) := by decide +kernel
theorem own_dK_44 : decode method_3_code 44 = .ok (.iload_n 0, 1) := by decide +kernel
theorem own_dK_45 : decode method_3_code 45 = .ok (.iconst 5, 1) := by decide +kernel
theorem own_dK_46 : decode method_3_code 46 = .ok (.if_icmp .ne 7, 3) := by decide +kernel
theorem own_dK_49 : decode method_3_code 49 = .ok (.getstatic 39, 3) := by decide +kernel
theorem own_dK_52 : decode method_3_code 52 = .ok (.areturn, 1) := by decide +kernel
theorem own_dK_53 : decode method_3_code 53 = .ok (.getstatic 42, 3) := by decide +kernel
theorem own_dK_56 : decode method_3_code 56 = .ok (.areturn, 1) := by decide +kernel
theorem own_efK (m : MethodId) (xk : Int32) : entryFrame m #[(.int xk)] 1 = mkF m 0 #[.val (.int xk)] [] := by first | (simp [entryFrame, mkF, argsToLocals, Value.category]; done) | rfl
def own_QK (Z : State) (xk : Int32) (a_TOKEN : Addr) (a_MULTIWORD_TOKEN : Addr) (a_EMPTY_NODE : Addr) (a_COVERED_WORD : Addr) (a_BLANK : Addr) (a_COMMENT : Addr) (a_DOCUMENT_START : Addr) (xr : Addr) (h0 : Heap) (n0 : Nat) (v : Option Value) (h : Heap) (L : List Loc) : Prop := v = some (.ref xr) ∧ Fr n0 L ∧ h = h0
theorem own_pn0 : plainName "com/example/tokenweave/tokenweave/model/LineKindIsCarriedPinLaw" = true := by first | (simp [plainName, overriddenIn]; done) | decide +kernel
set_option maxRecDepth 65536 in
set_option maxHeartbeats 40000000 in
theorem own_rK (l : Launch) (Z : State) (a0 : Array Value) (hw : ∀ d ∈ tables_1, d.before a0 Z = true) (ws : List Jvm.Cond) (xk : Int32) (a_TOKEN : Addr) (a_MULTIWORD_TOKEN : Addr) (a_EMPTY_NODE : Addr) (a_COVERED_WORD : Addr) (a_BLANK : Addr) (a_COMMENT : Addr) (a_DOCUMENT_START : Addr) (xr : Addr) (h0 : Heap) (n0 : Nat) (Z0 : n0 ≤ h0.size) (S_TOKEN : Sta Z h0 "com/example/tokenweave/tokenweave/model/LineKind" "TOKEN" "Lcom/example/tokenweave/tokenweave/model/LineKind;" (.ref a_TOKEN)) (S_MULTIWORD_TOKEN : Sta Z h0 "com/example/tokenweave/tokenweave/model/LineKind" "MULTIWORD_TOKEN" "Lcom/example/tokenweave/tokenweave/model/LineKind;" (.ref a_MULTIWORD_TOKEN)) (S_EMPTY_NODE : Sta Z h0 "com/example/tokenweave/tokenweave/model/LineKind" "EMPTY_NODE" "Lcom/example/tokenweave/tokenweave/model/LineKind;" (.ref a_EMPTY_NODE)) (S_COVERED_WORD : Sta Z h0 "com/example/tokenweave/tokenweave/model/LineKind" "COVERED_WORD" "Lcom/example/tokenweave/tokenweave/model/LineKind;" (.ref a_COVERED_WORD)) (S_BLANK : Sta Z h0 "com/example/tokenweave/tokenweave/model/LineKind" "BLANK" "Lcom/example/tokenweave/tokenweave/model/LineKind;" (.ref a_BLANK)) (S_COMMENT : Sta Z h0 "com/example/tokenweave/tokenweave/model/LineKind" "COMMENT" "Lcom/example/tokenweave/tokenweave/model/LineKind;" (.ref a_COMMENT)) (S_DOCUMENT_START : Sta Z h0 "com/example/tokenweave/tokenweave/model/LineKind" "DOCUMENT_START" "Lcom/example/tokenweave/tokenweave/model/LineKind;" (.ref a_DOCUMENT_START)) (hv : own_kind xk a_TOKEN a_MULTIWORD_TOKEN a_EMPTY_NODE a_COVERED_WORD a_BLANK a_COMMENT a_DOCUMENT_START = xr) :
    MetFree l (⟨"com/example/tokenweave/tokenweave/model/LineKindIsCarriedPinLaw", "kindAt", "(I)Lcom/example/tokenweave/tokenweave/model/LineKind;"⟩ : MethodName) (head1 (Jvm.Cond.code (⟨"com/example/tokenweave/tokenweave/model/LineKindIsCarriedPinLaw", "kindAt", "(I)Lcom/example/tokenweave/tokenweave/model/LineKind;"⟩ : MethodName) method_3_code 1 (some (.object "com/example/tokenweave/tokenweave/model/LineKind")) :: ws) ({ frames := 0, cells := 0, slots := 0, locals := 0 } : Room)) (fun a U => a = #[(.int xk)] ∧ Z.Warmed39 U.vm ∧ U.heap = h0) (fun _ _ _ _ _ => True) (fun _ U o U' => ∃ v L, o = .returned v ∧ own_QK Z xk a_TOKEN a_MULTIWORD_TOKEN a_EMPTY_NODE a_COVERED_WORD a_BLANK a_COMMENT a_DOCUMENT_START xr h0 n0 v U'.heap L ∧ FrameEnd U o U' L ({ frames := 0, cells := 0, slots := 0, locals := 0 } : Room).cells ({ frames := 0, cells := 0, slots := 0, locals := 0 } : Room).slots) := by
  refine MetFree.of_bodySF (plainFor_of_name own_pn0) hisR ?_
  intro p e s m args below meth c s₁ Bd hml0 hP hK
  obtain ⟨rfl, hZ, hh⟩ := hP
  have hx := Bd.exec
  have hby := Bd.bytes
  have hml : c.maxLocals = 1 := hml0
  have hown : s.vm.findClass "com/example/tokenweave/tokenweave/model/LineKindIsCarriedPinLaw" = some m.cls := findClass_of_methodNamed Bd.named
  have hnm := (name_of_methodNamed Bd.named Bd.method).1
  have X0 : Stand p l e ({ frames := 0, cells := 0, slots := 0, locals := 0 } : Room) s m #[(.int xk)] below meth c s₁ [] 0 0 := Stand.of_body Bd
  have e0 : s₁.heap = h0 := by rw [← hh, Bd.state]; rfl
  have N0 := Fr.nil n0
  show own_F p e below (fun o U' => ∃ v L, o = .returned v ∧ own_QK Z xk a_TOKEN a_MULTIWORD_TOKEN a_EMPTY_NODE a_COVERED_WORD a_BLANK a_COMMENT a_DOCUMENT_START xr h0 n0 v U'.heap L ∧ FrameEnd s o U' L ({ frames := 0, cells := 0, slots := 0, locals := 0 } : Room).cells ({ frames := 0, cells := 0, slots := 0, locals := 0 } : Room).slots) s₁ (entryFrame m #[(.int xk)] 1)
  rw [own_efK m xk]
  refine own_go (T' := s₁) (g' := (mkF m 1 #[.val (.int xk)] [(.int xk)])) (fun _ k => XS.iloadN X0.here hx rfl (hb hby own_dK_0) rfl k) ?_
  by_cases hc1 : xk = (0 : Int32)
  · refine own_go (T' := s₁) (g' := (mkF m 4 #[.val (.int xk)] [])) (fun _ k => XS.ifNo X0.here hx rfl (hb hby own_dK_1) rfl ((if0 _ _).trans (teq (hc1 : xk = (0 : Int32))).2) k) ?_
    obtain ⟨T1, X1, e1, st1⟩ := getS X0 hx hZ (host := "") hown (hw _ (List.mem_of_getElem? (i := 5) rfl)) Via.refl e0 S_TOKEN (g := (mkF m 4 #[.val (.int xk)] [])) rfl (hb hby own_dK_4)
    refine own_go (T' := T1) (g' := (mkF m 7 #[.val (.int xk)] [(.ref a_TOKEN)])) (fun _ k => st1 _ k) ?_
    obtain ⟨fs, hr, hrun, hended, hW, hsame⟩ := X1.leave (v := some (.ref a_TOKEN)) (fun h => by rw [Bd.returns] at h; cases h)
    refine own_end (retOut X1 hx Bd.returns rfl (Or.inr (Or.inr (Or.inr (Or.inr ⟨rfl, rfl, rfl⟩)))) (hb hby own_dK_7) hr) hrun hended ⟨_, _, rfl, (?_ : own_QK Z xk a_TOKEN a_MULTIWORD_TOKEN a_EMPTY_NODE a_COVERED_WORD a_BLANK a_COMMENT a_DOCUMENT_START xr h0 n0 _ T1.heap _), ⟨_, rfl⟩, hW, hsame.mono (by decide) (by decide)⟩
    rw [e1]
    exact ⟨by rw [← hv]; simp [own_kind, hc1], N0, rfl⟩
  · refine own_go (T' := s₁) (g' := (mkF m 8 #[.val (.int xk)] [])) (fun _ k => XS.ifYes X0.here hx rfl (pc0 := 1) (pc' := 8) rfl (hb hby own_dK_1) rfl ((if0 _ _).trans (feq (hc1 : ¬ (xk = (0 : Int32)))).2) (by decide) (by decide) k) ?_
    refine own_go (T' := s₁) (g' := (mkF m 9 #[.val (.int xk)] [(.int xk)])) (fun _ k => XS.iloadN X0.here hx rfl (hb hby own_dK_8) rfl k) ?_
    refine own_go (T' := s₁) (g' := (mkF m 10 #[.val (.int xk)] [(.int (1 : Int32)), (.int xk)])) (fun _ k => XS.iconst X0.here hx rfl (hb hby own_dK_9) k) ?_
    by_cases hc10 : xk = (1 : Int32)
    · refine own_go (T' := s₁) (g' := (mkF m 13 #[.val (.int xk)] [])) (fun _ k => XS.icmpNo X0.here hx rfl (hb hby own_dK_10) rfl (teq (hc10 : xk = (1 : Int32))).2 k) ?_
      obtain ⟨T2, X2, e2, st2⟩ := getS X0 hx hZ (host := "") hown (hw _ (List.mem_of_getElem? (i := 34) rfl)) Via.refl e0 S_MULTIWORD_TOKEN (g := (mkF m 13 #[.val (.int xk)] [])) rfl (hb hby own_dK_13)
      refine own_go (T' := T2) (g' := (mkF m 16 #[.val (.int xk)] [(.ref a_MULTIWORD_TOKEN)])) (fun _ k => st2 _ k) ?_
      obtain ⟨fs, hr, hrun, hended, hW, hsame⟩ := X2.leave (v := some (.ref a_MULTIWORD_TOKEN)) (fun h => by rw [Bd.returns] at h; cases h)
      refine own_end (retOut X2 hx Bd.returns rfl (Or.inr (Or.inr (Or.inr (Or.inr ⟨rfl, rfl, rfl⟩)))) (hb hby own_dK_16) hr) hrun hended ⟨_, _, rfl, (?_ : own_QK Z xk a_TOKEN a_MULTIWORD_TOKEN a_EMPTY_NODE a_COVERED_WORD a_BLANK a_COMMENT a_DOCUMENT_START xr h0 n0 _ T2.heap _), ⟨_, rfl⟩, hW, hsame.mono (by decide) (by decide)⟩
      rw [e2]
      exact ⟨by rw [← hv]; simp [own_kind, hc1, hc10], N0, rfl⟩
    · refine own_go (T' := s₁) (g' := (mkF m 17 #[.val (.int xk)] [])) (fun _ k => XS.icmpYes X0.here hx rfl (pc0 := 10) (pc' := 17) rfl (hb hby own_dK_10) rfl (feq (hc10 : ¬ (xk = (1 : Int32)))).2 (by decide) (by decide) k) ?_
      refine own_go (T' := s₁) (g' := (mkF m 18 #[.val (.int xk)] [(.int xk)])) (fun _ k => XS.iloadN X0.here hx rfl (hb hby own_dK_17) rfl k) ?_
      refine own_go (T' := s₁) (g' := (mkF m 19 #[.val (.int xk)] [(.int (2 : Int32)), (.int xk)])) (fun _ k => XS.iconst X0.here hx rfl (hb hby own_dK_18) k) ?_
      by_cases hc19 : xk = (2 : Int32)
      · refine own_go (T' := s₁) (g' := (mkF m 22 #[.val (.int xk)] [])) (fun _ k => XS.icmpNo X0.here hx rfl (hb hby own_dK_19) rfl (teq (hc19 : xk = (2 : Int32))).2 k) ?_
        obtain ⟨T3, X3, e3, st3⟩ := getS X0 hx hZ (host := "") hown (hw _ (List.mem_of_getElem? (i := 33) rfl)) Via.refl e0 S_EMPTY_NODE (g := (mkF m 22 #[.val (.int xk)] [])) rfl (hb hby own_dK_22)
        refine own_go (T' := T3) (g' := (mkF m 25 #[.val (.int xk)] [(.ref a_EMPTY_NODE)])) (fun _ k => st3 _ k) ?_
        obtain ⟨fs, hr, hrun, hended, hW, hsame⟩ := X3.leave (v := some (.ref a_EMPTY_NODE)) (fun h => by rw [Bd.returns] at h; cases h)
        refine own_end (retOut X3 hx Bd.returns rfl (Or.inr (Or.inr (Or.inr (Or.inr ⟨rfl, rfl, rfl⟩)))) (hb hby own_dK_25) hr) hrun hended ⟨_, _, rfl, (?_ : own_QK Z xk a_TOKEN a_MULTIWORD_TOKEN a_EMPTY_NODE a_COVERED_WORD a_BLANK a_COMMENT a_DOCUMENT_START xr h0 n0 _ T3.heap _), ⟨_, rfl⟩, hW, hsame.mono (by decide) (by decide)⟩
        rw [e3]
        exact ⟨by rw [← hv]; simp [own_kind, hc1, hc10, hc19], N0, rfl⟩
      · refine own_go (T' := s₁) (g' := (mkF m 26 #[.val (.int xk)] [])) (fun _ k => XS.icmpYes X0.here hx rfl (pc0 := 19) (pc' := 26) rfl (hb hby own_dK_19) rfl (feq (hc19 : ¬ (xk = (2 : Int32)))).2 (by decide) (by decide) k) ?_
        refine own_go (T' := s₁) (g' := (mkF m 27 #[.val (.int xk)] [(.int xk)])) (fun _ k => XS.iloadN X0.here hx rfl (hb hby own_dK_26) rfl k) ?_
        refine own_go (T' := s₁) (g' := (mkF m 28 #[.val (.int xk)] [(.int (3 : Int32)), (.int xk)])) (fun _ k => XS.iconst X0.here hx rfl (hb hby own_dK_27) k) ?_
        by_cases hc28 : xk = (3 : Int32)
        · refine own_go (T' := s₁) (g' := (mkF m 31 #[.val (.int xk)] [])) (fun _ k => XS.icmpNo X0.here hx rfl (hb hby own_dK_28) rfl (teq (hc28 : xk = (3 : Int32))).2 k) ?_
          obtain ⟨T4, X4, e4, st4⟩ := getS X0 hx hZ (host := "") hown (hw _ (List.mem_of_getElem? (i := 19) rfl)) Via.refl e0 S_COVERED_WORD (g := (mkF m 31 #[.val (.int xk)] [])) rfl (hb hby own_dK_31)
          refine own_go (T' := T4) (g' := (mkF m 34 #[.val (.int xk)] [(.ref a_COVERED_WORD)])) (fun _ k => st4 _ k) ?_
          obtain ⟨fs, hr, hrun, hended, hW, hsame⟩ := X4.leave (v := some (.ref a_COVERED_WORD)) (fun h => by rw [Bd.returns] at h; cases h)
          refine own_end (retOut X4 hx Bd.returns rfl (Or.inr (Or.inr (Or.inr (Or.inr ⟨rfl, rfl, rfl⟩)))) (hb hby own_dK_34) hr) hrun hended ⟨_, _, rfl, (?_ : own_QK Z xk a_TOKEN a_MULTIWORD_TOKEN a_EMPTY_NODE a_COVERED_WORD a_BLANK a_COMMENT a_DOCUMENT_START xr h0 n0 _ T4.heap _), ⟨_, rfl⟩, hW, hsame.mono (by decide) (by decide)⟩
          rw [e4]
          exact ⟨by rw [← hv]; simp [own_kind, hc1, hc10, hc19, hc28], N0, rfl⟩
        · refine own_go (T' := s₁) (g' := (mkF m 35 #[.val (.int xk)] [])) (fun _ k => XS.icmpYes X0.here hx rfl (pc0 := 28) (pc' := 35) rfl (hb hby own_dK_28) rfl (feq (hc28 : ¬ (xk = (3 : Int32)))).2 (by decide) (by decide) k) ?_
          refine own_go (T' := s₁) (g' := (mkF m 36 #[.val (.int xk)] [(.int xk)])) (fun _ k => XS.iloadN X0.here hx rfl (hb hby own_dK_35) rfl k) ?_
          refine own_go (T' := s₁) (g' := (mkF m 37 #[.val (.int xk)] [(.int (4 : Int32)), (.int xk)])) (fun _ k => XS.iconst X0.here hx rfl (hb hby own_dK_36) k) ?_
          by_cases hc37 : xk = (4 : Int32)
          · refine own_go (T' := s₁) (g' := (mkF m 40 #[.val (.int xk)] [])) (fun _ k => XS.icmpNo X0.here hx rfl (hb hby own_dK_37) rfl (teq (hc37 : xk = (4 : Int32))).2 k) ?_
            obtain ⟨T5, X5, e5, st5⟩ := getS X0 hx hZ (host := "") hown (hw _ (List.mem_of_getElem? (i := 31) rfl)) Via.refl e0 S_BLANK (g := (mkF m 40 #[.val (.int xk)] [])) rfl (hb hby own_dK_40)
            refine own_go (T' := T5) (g' := (mkF m 43 #[.val (.int xk)] [(.ref a_BLANK)])) (fun _ k => st5 _ k) ?_
            obtain ⟨fs, hr, hrun, hended, hW, hsame⟩ := X5.leave (v := some (.ref a_BLANK)) (fun h => by rw [Bd.returns] at h; cases h)
            refine own_end (retOut X5 hx Bd.returns rfl (Or.inr (Or.inr (Or.inr (Or.inr ⟨rfl, rfl, rfl⟩)))) (hb hby own_dK_43) hr) hrun hended ⟨_, _, rfl, (?_ : own_QK Z xk a_TOKEN a_MULTIWORD_TOKEN a_EMPTY_NODE a_COVERED_WORD a_BLANK a_COMMENT a_DOCUMENT_START xr h0 n0 _ T5.heap _), ⟨_, rfl⟩, hW, hsame.mono (by decide) (by decide)⟩
            rw [e5]
            exact ⟨by rw [← hv]; simp [own_kind, hc1, hc10, hc19, hc28, hc37], N0, rfl⟩
          · refine own_go (T' := s₁) (g' := (mkF m 44 #[.val (.int xk)] [])) (fun _ k => XS.icmpYes X0.here hx rfl (pc0 := 37) (pc' := 44) rfl (hb hby own_dK_37) rfl (feq (hc37 : ¬ (xk = (4 : Int32)))).2 (by decide) (by decide) k) ?_
            refine own_go (T' := s₁) (g' := (mkF m 45 #[.val (.int xk)] [(.int xk)])) (fun _ k => XS.iloadN X0.here hx rfl (hb hby own_dK_44) rfl k) ?_
            refine own_go (T' := s₁) (g' := (mkF m 46 #[.val (.int xk)] [(.int (5 : Int32)), (.int xk)])) (fun _ k => XS.iconst X0.here hx rfl (hb hby own_dK_45) k) ?_
            by_cases hc46 : xk = (5 : Int32)
            · refine own_go (T' := s₁) (g' := (mkF m 49 #[.val (.int xk)] [])) (fun _ k => XS.icmpNo X0.here hx rfl (hb hby own_dK_46) rfl (teq (hc46 : xk = (5 : Int32))).2 k) ?_
              obtain ⟨T6, X6, e6, st6⟩ := getS X0 hx hZ (host := "") hown (hw _ (List.mem_of_getElem? (i := 27) rfl)) Via.refl e0 S_COMMENT (g := (mkF m 49 #[.val (.int xk)] [])) rfl (hb hby own_dK_49)
              refine own_go (T' := T6) (g' := (mkF m 52 #[.val (.int xk)] [(.ref a_COMMENT)])) (fun _ k => st6 _ k) ?_
              obtain ⟨fs, hr, hrun, hended, hW, hsame⟩ := X6.leave (v := some (.ref a_COMMENT)) (fun h => by rw [Bd.returns] at h; cases h)
              refine own_end (retOut X6 hx Bd.returns rfl (Or.inr (Or.inr (Or.inr (Or.inr ⟨rfl, rfl, rfl⟩)))) (hb hby own_dK_52) hr) hrun hended ⟨_, _, rfl, (?_ : own_QK Z xk a_TOKEN a_MULTIWORD_TOKEN a_EMPTY_NODE a_COVERED_WORD a_BLANK a_COMMENT a_DOCUMENT_START xr h0 n0 _ T6.heap _), ⟨_, rfl⟩, hW, hsame.mono (by decide) (by decide)⟩
              rw [e6]
              exact ⟨by rw [← hv]; simp [own_kind, hc1, hc10, hc19, hc28, hc37, hc46], N0, rfl⟩
            · refine own_go (T' := s₁) (g' := (mkF m 53 #[.val (.int xk)] [])) (fun _ k => XS.icmpYes X0.here hx rfl (pc0 := 46) (pc' := 53) rfl (hb hby own_dK_46) rfl (feq (hc46 : ¬ (xk = (5 : Int32)))).2 (by decide) (by decide) k) ?_
              obtain ⟨T7, X7, e7, st7⟩ := getS X0 hx hZ (host := "") hown (hw _ (List.mem_of_getElem? (i := 29) rfl)) Via.refl e0 S_DOCUMENT_START (g := (mkF m 53 #[.val (.int xk)] [])) rfl (hb hby own_dK_53)
              refine own_go (T' := T7) (g' := (mkF m 56 #[.val (.int xk)] [(.ref a_DOCUMENT_START)])) (fun _ k => st7 _ k) ?_
              obtain ⟨fs, hr, hrun, hended, hW, hsame⟩ := X7.leave (v := some (.ref a_DOCUMENT_START)) (fun h => by rw [Bd.returns] at h; cases h)
              refine own_end (retOut X7 hx Bd.returns rfl (Or.inr (Or.inr (Or.inr (Or.inr ⟨rfl, rfl, rfl⟩)))) (hb hby own_dK_56) hr) hrun hended ⟨_, _, rfl, (?_ : own_QK Z xk a_TOKEN a_MULTIWORD_TOKEN a_EMPTY_NODE a_COVERED_WORD a_BLANK a_COMMENT a_DOCUMENT_START xr h0 n0 _ T7.heap _), ⟨_, rfl⟩, hW, hsame.mono (by decide) (by decide)⟩
              rw [e7]
              exact ⟨by rw [← hv]; simp [own_kind, hc1, hc10, hc19, hc28, hc37, hc46], N0, rfl⟩
theorem own_dC_0 : decode prog_46_method_7_code 0 = .ok (.aload_n 0, 1) := by decide +kernel
theorem own_dC_1 : decode prog_46_method_7_code 1 = .ok (.getstatic 7, 3) := by decide +kernel
theorem own_dC_4 : decode prog_46_method_7_code 4 = .ok (.if_acmp .eq 17, 3) := by decide +kernel
theorem own_dC_7 : decode prog_46_method_7_code 7 = .ok (.aload_n 0, 1) := by decide +kernel
theorem own_dC_8 : decode prog_46_method_7_code 8 = .ok (.getstatic 10, 3) := by decide +kernel
theorem own_dC_11 : decode prog_46_method_7_code 11 = .ok (.if_acmp .eq 10, 3) := by decide +kernel
theorem own_dC_14 : decode prog_46_method_7_code 14 = .ok (.aload_n 0, 1) := by decide +kernel
theorem own_dC_15 : decode prog_46_method_7_code 15 = .ok (.getstatic 13, 3) := by decide +kernel
theorem own_dC_18 : decode prog_46_method_7_code 18 = .ok (.if_acmp .ne 7, 3) := by decide +kernel
theorem own_dC_21 : decode prog_46_method_7_code 21 = .ok (.iconst 1, 1) := by decide +kernel
theorem own_dC_22 : decode prog_46_method_7_code 22 = .ok (.goto 4, 3) := by decide +kernel
theorem own_dC_25 : decode prog_46_method_7_code 25 = .ok (.iconst 0, 1) := by decide +kernel
theorem own_dC_26 : decode prog_46_method_7_code 26 = .ok (.ireturn, 1) := by decide +kernel
theorem own_efC (m : MethodId) (xo : Addr) : entryFrame m #[(.ref xo)] 1 = mkF m 0 #[.val (.ref xo)] [] := by first | (simp [entryFrame, mkF, argsToLocals, Value.category]; done) | rfl
def own_QC (Z : State) (xo : Addr) (a_MULTIWORD_TOKEN : Addr) (a_EMPTY_NODE : Addr) (a_COVERED_WORD : Addr) (xr : Int32) (h0 : Heap) (n0 : Nat) (v : Option Value) (h : Heap) (L : List Loc) : Prop := v = some (.int xr) ∧ Fr n0 L ∧ h = h0
theorem own_pn1 : plainName "com/example/tokenweave/tokenweave/model/LineKind" = true := by first | (simp [plainName, overriddenIn]; done) | decide +kernel
set_option maxRecDepth 65536 in
set_option maxHeartbeats 40000000 in
theorem own_rC (l : Launch) (Z : State) (a0 : Array Value) (hw : ∀ d ∈ tables_1, d.before a0 Z = true) (ws : List Jvm.Cond) (xo : Addr) (a_MULTIWORD_TOKEN : Addr) (a_EMPTY_NODE : Addr) (a_COVERED_WORD : Addr) (xr : Int32) (h0 : Heap) (n0 : Nat) (Z0 : n0 ≤ h0.size) (S_MULTIWORD_TOKEN : Sta Z h0 "com/example/tokenweave/tokenweave/model/LineKind" "MULTIWORD_TOKEN" "Lcom/example/tokenweave/tokenweave/model/LineKind;" (.ref a_MULTIWORD_TOKEN)) (S_EMPTY_NODE : Sta Z h0 "com/example/tokenweave/tokenweave/model/LineKind" "EMPTY_NODE" "Lcom/example/tokenweave/tokenweave/model/LineKind;" (.ref a_EMPTY_NODE)) (S_COVERED_WORD : Sta Z h0 "com/example/tokenweave/tokenweave/model/LineKind" "COVERED_WORD" "Lcom/example/tokenweave/tokenweave/model/LineKind;" (.ref a_COVERED_WORD)) (hv : own_car xo a_MULTIWORD_TOKEN a_EMPTY_NODE a_COVERED_WORD = xr) :
    MetFree l (⟨"com/example/tokenweave/tokenweave/model/LineKind", "isCarried", "()Z"⟩ : MethodName) (head1 (Jvm.Cond.code (⟨"com/example/tokenweave/tokenweave/model/LineKind", "isCarried", "()Z"⟩ : MethodName) prog_46_method_7_code 1 (some .boolean) :: ws) ({ frames := 0, cells := 0, slots := 0, locals := 0 } : Room)) (fun a U => a = #[(.ref xo)] ∧ Z.Warmed39 U.vm ∧ U.heap = h0) (fun _ _ _ _ _ => True) (fun _ U o U' => ∃ v L, o = .returned v ∧ own_QC Z xo a_MULTIWORD_TOKEN a_EMPTY_NODE a_COVERED_WORD xr h0 n0 v U'.heap L ∧ FrameEnd U o U' L ({ frames := 0, cells := 0, slots := 0, locals := 0 } : Room).cells ({ frames := 0, cells := 0, slots := 0, locals := 0 } : Room).slots) := by
  refine MetFree.of_bodySF (plainFor_of_name own_pn1) hisR ?_
  intro p e s m args below meth c s₁ Bd hml0 hP hK
  obtain ⟨rfl, hZ, hh⟩ := hP
  have hx := Bd.exec
  have hby := Bd.bytes
  have hml : c.maxLocals = 1 := hml0
  have hown : s.vm.findClass "com/example/tokenweave/tokenweave/model/LineKind" = some m.cls := findClass_of_methodNamed Bd.named
  have hnm := (name_of_methodNamed Bd.named Bd.method).1
  have X0 : Stand p l e ({ frames := 0, cells := 0, slots := 0, locals := 0 } : Room) s m #[(.ref xo)] below meth c s₁ [] 0 0 := Stand.of_body Bd
  have e0 : s₁.heap = h0 := by rw [← hh, Bd.state]; rfl
  have N0 := Fr.nil n0
  show own_F p e below (fun o U' => ∃ v L, o = .returned v ∧ own_QC Z xo a_MULTIWORD_TOKEN a_EMPTY_NODE a_COVERED_WORD xr h0 n0 v U'.heap L ∧ FrameEnd s o U' L ({ frames := 0, cells := 0, slots := 0, locals := 0 } : Room).cells ({ frames := 0, cells := 0, slots := 0, locals := 0 } : Room).slots) s₁ (entryFrame m #[(.ref xo)] 1)
  rw [own_efC m xo]
  refine own_go (T' := s₁) (g' := (mkF m 1 #[.val (.ref xo)] [(.ref xo)])) (fun _ k => XS.aloadN X0.here hx rfl (hb hby own_dC_0) rfl rfl k) ?_
  obtain ⟨T1, X1, e1, st1⟩ := getS X0 hx hZ (host := "") hown (hw _ (List.mem_of_getElem? (i := 13) rfl)) Via.refl e0 S_MULTIWORD_TOKEN (g := (mkF m 1 #[.val (.ref xo)] [(.ref xo)])) rfl (hb hby own_dC_1)
  refine own_go (T' := T1) (g' := (mkF m 4 #[.val (.ref xo)] [(.ref a_MULTIWORD_TOKEN), (.ref xo)])) (fun _ k => st1 _ k) ?_
  by_cases hc4 : xo = a_MULTIWORD_TOKEN
  · refine own_go (T' := T1) (g' := (mkF m 21 #[.val (.ref xo)] [])) (fun _ k => Jvm.RoadKit.acmp (g := (mkF m 4 #[.val (.ref xo)] [(.ref a_MULTIWORD_TOKEN), (.ref xo)])) X1 hx rfl rfl rfl (pc0 := 4) (pc' := 21) (same := true) rfl (hb hby own_dC_4) rfl (decide_eq_true (congrArg Value.ref hc4)) (by decide) (by decide) k) ?_
    refine own_go (T' := T1) (g' := (mkF m 22 #[.val (.ref xo)] [(.int (1 : Int32))])) (fun _ k => XS.iconst X1.here hx rfl (hb hby own_dC_21) k) ?_
    refine own_go (T' := T1) (g' := (mkF m 26 #[.val (.ref xo)] [(.int (1 : Int32))])) (fun _ k => XS.goto X1.here hx rfl (pc0 := 22) (pc' := 26) rfl (hb hby own_dC_22) (by decide) (by decide) k) ?_
    obtain ⟨fs, hr, hrun, hended, hW, hsame⟩ := X1.leave (v := some (.int (1 : Int32))) (fun h => by rw [Bd.returns] at h; cases h)
    refine own_end (retN X1 hx (t := .boolean) Bd.returns (by simp) (hb hby own_dC_26) hr) hrun hended ⟨_, _, rfl, (?_ : own_QC Z xo a_MULTIWORD_TOKEN a_EMPTY_NODE a_COVERED_WORD xr h0 n0 _ T1.heap _), ⟨_, rfl⟩, hW, hsame.mono (by decide) (by decide)⟩
    rw [e1]
    exact ⟨by rw [← hv]; simp [own_car, hc4], N0, rfl⟩
  · refine own_go (T' := T1) (g' := (mkF m 7 #[.val (.ref xo)] [])) (fun _ k => Jvm.RoadKit.acmp (g := (mkF m 4 #[.val (.ref xo)] [(.ref a_MULTIWORD_TOKEN), (.ref xo)])) X1 hx rfl rfl rfl (pc0 := 4) (pc' := 7) (same := false) rfl (hb hby own_dC_4) rfl (decide_eq_false fun q => hc4 (Value.ref.inj q)) (by decide) (by decide) k) ?_
    refine own_go (T' := T1) (g' := (mkF m 8 #[.val (.ref xo)] [(.ref xo)])) (fun _ k => XS.aloadN X1.here hx rfl (hb hby own_dC_7) rfl rfl k) ?_
    obtain ⟨T2, X2, e2, st2⟩ := getS X1 hx hZ (host := "") hown (hw _ (List.mem_of_getElem? (i := 15) rfl)) Via.refl e1 S_EMPTY_NODE (g := (mkF m 8 #[.val (.ref xo)] [(.ref xo)])) rfl (hb hby own_dC_8)
    refine own_go (T' := T2) (g' := (mkF m 11 #[.val (.ref xo)] [(.ref a_EMPTY_NODE), (.ref xo)])) (fun _ k => st2 _ k) ?_
    by_cases hc11 : xo = a_EMPTY_NODE
    · refine own_go (T' := T2) (g' := (mkF m 21 #[.val (.ref xo)] [])) (fun _ k => Jvm.RoadKit.acmp (g := (mkF m 11 #[.val (.ref xo)] [(.ref a_EMPTY_NODE), (.ref xo)])) X2 hx rfl rfl rfl (pc0 := 11) (pc' := 21) (same := true) rfl (hb hby own_dC_11) rfl (decide_eq_true (congrArg Value.ref hc11)) (by decide) (by decide) k) ?_
      refine own_go (T' := T2) (g' := (mkF m 22 #[.val (.ref xo)] [(.int (1 : Int32))])) (fun _ k => XS.iconst X2.here hx rfl (hb hby own_dC_21) k) ?_
      refine own_go (T' := T2) (g' := (mkF m 26 #[.val (.ref xo)] [(.int (1 : Int32))])) (fun _ k => XS.goto X2.here hx rfl (pc0 := 22) (pc' := 26) rfl (hb hby own_dC_22) (by decide) (by decide) k) ?_
      obtain ⟨fs, hr, hrun, hended, hW, hsame⟩ := X2.leave (v := some (.int (1 : Int32))) (fun h => by rw [Bd.returns] at h; cases h)
      refine own_end (retN X2 hx (t := .boolean) Bd.returns (by simp) (hb hby own_dC_26) hr) hrun hended ⟨_, _, rfl, (?_ : own_QC Z xo a_MULTIWORD_TOKEN a_EMPTY_NODE a_COVERED_WORD xr h0 n0 _ T2.heap _), ⟨_, rfl⟩, hW, hsame.mono (by decide) (by decide)⟩
      rw [e2]
      exact ⟨by rw [← hv]; simp [own_car, hc4, hc11], N0, rfl⟩
    · refine own_go (T' := T2) (g' := (mkF m 14 #[.val (.ref xo)] [])) (fun _ k => Jvm.RoadKit.acmp (g := (mkF m 11 #[.val (.ref xo)] [(.ref a_EMPTY_NODE), (.ref xo)])) X2 hx rfl rfl rfl (pc0 := 11) (pc' := 14) (same := false) rfl (hb hby own_dC_11) rfl (decide_eq_false fun q => hc11 (Value.ref.inj q)) (by decide) (by decide) k) ?_
      refine own_go (T' := T2) (g' := (mkF m 15 #[.val (.ref xo)] [(.ref xo)])) (fun _ k => XS.aloadN X2.here hx rfl (hb hby own_dC_14) rfl rfl k) ?_
      obtain ⟨T3, X3, e3, st3⟩ := getS X2 hx hZ (host := "") hown (hw _ (List.mem_of_getElem? (i := 17) rfl)) Via.refl e2 S_COVERED_WORD (g := (mkF m 15 #[.val (.ref xo)] [(.ref xo)])) rfl (hb hby own_dC_15)
      refine own_go (T' := T3) (g' := (mkF m 18 #[.val (.ref xo)] [(.ref a_COVERED_WORD), (.ref xo)])) (fun _ k => st3 _ k) ?_
      by_cases hc18 : xo = a_COVERED_WORD
      · refine own_go (T' := T3) (g' := (mkF m 21 #[.val (.ref xo)] [])) (fun _ k => Jvm.RoadKit.acmp (g := (mkF m 18 #[.val (.ref xo)] [(.ref a_COVERED_WORD), (.ref xo)])) X3 hx rfl rfl rfl (pc0 := 18) (pc' := 21) (same := true) rfl (hb hby own_dC_18) rfl (decide_eq_true (congrArg Value.ref hc18)) (by decide) (by decide) k) ?_
        refine own_go (T' := T3) (g' := (mkF m 22 #[.val (.ref xo)] [(.int (1 : Int32))])) (fun _ k => XS.iconst X3.here hx rfl (hb hby own_dC_21) k) ?_
        refine own_go (T' := T3) (g' := (mkF m 26 #[.val (.ref xo)] [(.int (1 : Int32))])) (fun _ k => XS.goto X3.here hx rfl (pc0 := 22) (pc' := 26) rfl (hb hby own_dC_22) (by decide) (by decide) k) ?_
        obtain ⟨fs, hr, hrun, hended, hW, hsame⟩ := X3.leave (v := some (.int (1 : Int32))) (fun h => by rw [Bd.returns] at h; cases h)
        refine own_end (retN X3 hx (t := .boolean) Bd.returns (by simp) (hb hby own_dC_26) hr) hrun hended ⟨_, _, rfl, (?_ : own_QC Z xo a_MULTIWORD_TOKEN a_EMPTY_NODE a_COVERED_WORD xr h0 n0 _ T3.heap _), ⟨_, rfl⟩, hW, hsame.mono (by decide) (by decide)⟩
        rw [e3]
        exact ⟨by rw [← hv]; simp [own_car, hc4, hc11, hc18], N0, rfl⟩
      · refine own_go (T' := T3) (g' := (mkF m 25 #[.val (.ref xo)] [])) (fun _ k => Jvm.RoadKit.acmp (g := (mkF m 18 #[.val (.ref xo)] [(.ref a_COVERED_WORD), (.ref xo)])) X3 hx rfl rfl rfl (pc0 := 18) (pc' := 25) (same := false) rfl (hb hby own_dC_18) rfl (decide_eq_false fun q => hc18 (Value.ref.inj q)) (by decide) (by decide) k) ?_
        refine own_go (T' := T3) (g' := (mkF m 26 #[.val (.ref xo)] [(.int (0 : Int32))])) (fun _ k => XS.iconst X3.here hx rfl (hb hby own_dC_25) k) ?_
        obtain ⟨fs, hr, hrun, hended, hW, hsame⟩ := X3.leave (v := some (.int (0 : Int32))) (fun h => by rw [Bd.returns] at h; cases h)
        refine own_end (retN X3 hx (t := .boolean) Bd.returns (by simp) (hb hby own_dC_26) hr) hrun hended ⟨_, _, rfl, (?_ : own_QC Z xo a_MULTIWORD_TOKEN a_EMPTY_NODE a_COVERED_WORD xr h0 n0 _ T3.heap _), ⟨_, rfl⟩, hW, hsame.mono (by decide) (by decide)⟩
        rw [e3]
        exact ⟨by rw [← hv]; simp [own_car, hc4, hc11, hc18], N0, rfl⟩
theorem own_pd0 : parseMethodDescriptor "()Z" = some ⟨[], some .boolean⟩ := by decide +kernel
theorem own_dH_0 : decode prog_46_method_8_code 0 = .ok (.aload_n 0, 1) := by decide +kernel
theorem own_dH_1 : decode prog_46_method_8_code 1 = .ok (.getstatic 3, 3) := by decide +kernel
theorem own_dH_4 : decode prog_46_method_8_code 4 = .ok (.if_acmp .eq 10, 3) := by decide +kernel
theorem own_dH_7 : decode prog_46_method_8_code 7 = .ok (.aload_n 0, 1) := by decide +kernel
theorem own_dH_8 : decode prog_46_method_8_code 8 = .ok (.invokevirtual 76, 3) := by decide +kernel
theorem own_dH_11 : decode prog_46_method_8_code 11 = .ok (.ifCond .eq 7, 3) := by decide +kernel
theorem own_dH_14 : decode prog_46_method_8_code 14 = .ok (.iconst 1, 1) := by decide +kernel
theorem own_dH_15 : decode prog_46_method_8_code 15 = .ok (.goto 4, 3) := by decide +kernel
theorem own_dH_19 : decode prog_46_method_8_code 19 = .ok (.ireturn, 1) := by decide +kernel
theorem own_efH (m : MethodId) (xo : Addr) : entryFrame m #[(.ref xo)] 1 = mkF m 0 #[.val (.ref xo)] [] := by first | (simp [entryFrame, mkF, argsToLocals, Value.category]; done) | rfl
def own_QH (Z : State) (xo : Addr) (a_TOKEN : Addr) (a_MULTIWORD_TOKEN : Addr) (a_EMPTY_NODE : Addr) (a_COVERED_WORD : Addr) (h0 : Heap) (n0 : Nat) (v : Option Value) (h : Heap) (L : List Loc) : Prop := v = some (.int 1) ∧ Fr n0 L ∧ h = h0
set_option maxRecDepth 65536 in
set_option maxHeartbeats 40000000 in
theorem own_rH (l : Launch) (Z : State) (a0 : Array Value) (hw : ∀ d ∈ tables_1, d.before a0 Z = true) (ws : List Jvm.Cond) (xo : Addr) (a_TOKEN : Addr) (a_MULTIWORD_TOKEN : Addr) (a_EMPTY_NODE : Addr) (a_COVERED_WORD : Addr) (h0 : Heap) (n0 : Nat) (Z0 : n0 ≤ h0.size) (S_TOKEN : Sta Z h0 "com/example/tokenweave/tokenweave/model/LineKind" "TOKEN" "Lcom/example/tokenweave/tokenweave/model/LineKind;" (.ref a_TOKEN)) (S_MULTIWORD_TOKEN : Sta Z h0 "com/example/tokenweave/tokenweave/model/LineKind" "MULTIWORD_TOKEN" "Lcom/example/tokenweave/tokenweave/model/LineKind;" (.ref a_MULTIWORD_TOKEN)) (S_EMPTY_NODE : Sta Z h0 "com/example/tokenweave/tokenweave/model/LineKind" "EMPTY_NODE" "Lcom/example/tokenweave/tokenweave/model/LineKind;" (.ref a_EMPTY_NODE)) (S_COVERED_WORD : Sta Z h0 "com/example/tokenweave/tokenweave/model/LineKind" "COVERED_WORD" "Lcom/example/tokenweave/tokenweave/model/LineKind;" (.ref a_COVERED_WORD)) (E_o : Exa Z h0 xo "com/example/tokenweave/tokenweave/model/LineKind") (hne : ¬ xo = a_TOKEN) (hv : own_car xo a_MULTIWORD_TOKEN a_EMPTY_NODE a_COVERED_WORD = 1) :
    MetFree l (⟨"com/example/tokenweave/tokenweave/model/LineKind", "hasFields", "()Z"⟩ : MethodName) (head1 (Jvm.Cond.code (⟨"com/example/tokenweave/tokenweave/model/LineKind", "hasFields", "()Z"⟩ : MethodName) prog_46_method_8_code 1 (some .boolean) :: ws) ({ frames := 1, cells := 0, slots := 0, locals := 12 } : Room)) (fun a U => a = #[(.ref xo)] ∧ Z.Warmed39 U.vm ∧ U.heap = h0) (fun _ _ _ _ _ => True) (fun _ U o U' => ∃ v L, o = .returned v ∧ own_QH Z xo a_TOKEN a_MULTIWORD_TOKEN a_EMPTY_NODE a_COVERED_WORD h0 n0 v U'.heap L ∧ FrameEnd U o U' L ({ frames := 1, cells := 0, slots := 0, locals := 12 } : Room).cells ({ frames := 1, cells := 0, slots := 0, locals := 12 } : Room).slots) := by
  refine MetFree.of_bodySF (plainFor_of_name own_pn1) hisR ?_
  intro p e s m args below meth c s₁ Bd hml0 hP hK
  obtain ⟨rfl, hZ, hh⟩ := hP
  have hx := Bd.exec
  have hby := Bd.bytes
  have hml : c.maxLocals = 1 := hml0
  have hown : s.vm.findClass "com/example/tokenweave/tokenweave/model/LineKind" = some m.cls := findClass_of_methodNamed Bd.named
  have hnm := (name_of_methodNamed Bd.named Bd.method).1
  have X0 : Stand p l e ({ frames := 1, cells := 0, slots := 0, locals := 12 } : Room) s m #[(.ref xo)] below meth c s₁ [] 0 0 := Stand.of_body Bd
  have e0 : s₁.heap = h0 := by rw [← hh, Bd.state]; rfl
  have N0 := Fr.nil n0
  show own_F p e below (fun o U' => ∃ v L, o = .returned v ∧ own_QH Z xo a_TOKEN a_MULTIWORD_TOKEN a_EMPTY_NODE a_COVERED_WORD h0 n0 v U'.heap L ∧ FrameEnd s o U' L ({ frames := 1, cells := 0, slots := 0, locals := 12 } : Room).cells ({ frames := 1, cells := 0, slots := 0, locals := 12 } : Room).slots) s₁ (entryFrame m #[(.ref xo)] 1)
  rw [own_efH m xo]
  refine own_go (T' := s₁) (g' := (mkF m 1 #[.val (.ref xo)] [(.ref xo)])) (fun _ k => XS.aloadN X0.here hx rfl (hb hby own_dH_0) rfl rfl k) ?_
  obtain ⟨T1, X1, e1, st1⟩ := getS X0 hx hZ (host := "") hown (hw _ (List.mem_of_getElem? (i := 25) rfl)) Via.refl e0 S_TOKEN (g := (mkF m 1 #[.val (.ref xo)] [(.ref xo)])) rfl (hb hby own_dH_1)
  refine own_go (T' := T1) (g' := (mkF m 4 #[.val (.ref xo)] [(.ref a_TOKEN), (.ref xo)])) (fun _ k => st1 _ k) ?_
  refine own_go (T' := T1) (g' := (mkF m 7 #[.val (.ref xo)] [])) (fun _ k => Jvm.RoadKit.acmp (g := (mkF m 4 #[.val (.ref xo)] [(.ref a_TOKEN), (.ref xo)])) X1 hx rfl rfl rfl (pc0 := 4) (pc' := 7) (same := false) rfl (hb hby own_dH_4) rfl (decide_eq_false fun q => hne (Value.ref.inj q)) (by decide) (by decide) k) ?_
  refine own_go (T' := T1) (g' := (mkF m 8 #[.val (.ref xo)] [(.ref xo)])) (fun _ k => XS.aloadN X1.here hx rfl (hb hby own_dH_7) rfl rfl k) ?_
  obtain ⟨cq2, kq2, q2a, q2b, q2c⟩ := isOf hZ e1 E_o
  obtain ⟨_, _, ⟨T2, L2, k2, n2⟩, -, X2, ⟨Lc2, hQ2, l2, y2, z2⟩, st2⟩ := X1.virtualBack hx (y := (⟨"com/example/tokenweave/tokenweave/model/LineKind", "isCarried", "()Z"⟩ : MethodName)) (z := (⟨"com/example/tokenweave/tokenweave/model/LineKind", "isCarried", "()Z"⟩ : MethodName)) hown (mvT hZ (hw _ (List.mem_of_getElem? (i := 26) rfl))) (mvT hZ (hw _ (List.mem_of_getElem? (i := 9) rfl))) (notFace_of_selects (args := #[]) (mvT hZ (hw _ (List.mem_of_getElem? (i := 11) rfl)))) (mvT hZ (hw _ (List.mem_of_getElem? (i := 11) rfl))) (mvT hZ (hw _ (List.mem_of_getElem? (i := 10) rfl))) (by decide) (backOf (W := 0) (own_rC l Z a0 hw [] xo a_MULTIWORD_TOKEN a_EMPTY_NODE a_COVERED_WORD (1 : Int32) h0 n0 Z0 S_MULTIWORD_TOKEN S_EMPTY_NODE S_COVERED_WORD hv) hZ (hw _ (List.mem_of_getElem? (i := 12) rfl)) (hw _ (List.mem_of_getElem? (i := 6) rfl)) (by decide) (by decide)) q2a q2c (g := (mkF m 8 #[.val (.ref xo)] [(.ref xo)])) rfl (by rw [hml]; rfl) (Steps.refl _) (argsL := []) (rest := []) (lenOf own_pd0 rfl) rfl (by show 2 * 0 + _ ≤ _; exact Nat.le_of_eq rfl) (hb hby own_dH_8) (fun _ _ => ⟨rfl, e1, (by decide : 0 + 0 ≤ _), (by decide : 0 + 0 ≤ _)⟩)
  dsimp only [Pt.U, Pt.locs, Pt.cells, Pt.slots] at X2 l2 y2 z2 st2 hQ2
  subst l2 y2 z2
  obtain ⟨rfl, N2q, e2⟩ := hQ2
  have N2 := Fr.app N0 N2q
  refine own_goT (T' := T2) (g' := (mkF m 11 #[.val (.ref xo)] [(.int (1 : Int32))])) st2 ?_
  refine own_go (T' := T2) (g' := (mkF m 14 #[.val (.ref xo)] [])) (fun _ k => XS.ifNo X2.here hx rfl (hb hby own_dH_11) rfl ((if0 _ _).trans (feq ((by decide) : ¬ ((1 : Int32) = (0 : Int32)))).1) k) ?_
  refine own_go (T' := T2) (g' := (mkF m 15 #[.val (.ref xo)] [(.int (1 : Int32))])) (fun _ k => XS.iconst X2.here hx rfl (hb hby own_dH_14) k) ?_
  refine own_go (T' := T2) (g' := (mkF m 19 #[.val (.ref xo)] [(.int (1 : Int32))])) (fun _ k => XS.goto X2.here hx rfl (pc0 := 15) (pc' := 19) rfl (hb hby own_dH_15) (by decide) (by decide) k) ?_
  obtain ⟨fs, hr, hrun, hended, hW, hsame⟩ := X2.leave (v := some (.int (1 : Int32))) (fun h => by rw [Bd.returns] at h; cases h)
  refine own_end (retN X2 hx (t := .boolean) Bd.returns (by simp) (hb hby own_dH_19) hr) hrun hended ⟨_, _, rfl, (?_ : own_QH Z xo a_TOKEN a_MULTIWORD_TOKEN a_EMPTY_NODE a_COVERED_WORD h0 n0 _ T2.heap _), ⟨_, rfl⟩, hW, hsame.mono (by decide) (by decide)⟩
  rw [e2]
  exact ⟨rfl, N2, rfl⟩
theorem own_pd1 : parseMethodDescriptor "(I)Lcom/example/tokenweave/tokenweave/model/LineKind;" = some ⟨[.int], some (.object "com/example/tokenweave/tokenweave/model/LineKind")⟩ := by decide +kernel
theorem own_efL (m : MethodId) (xp : Int32) : entryFrame m #[(.int xp)] maxLocals = mkF m 0 #[.val (.int xp), .unset, .unset, .unset, .unset] [] := by first | (simp [entryFrame, mkF, argsToLocals, Value.category, maxLocals]; done) | rfl
def own_QL (Z : State) (xp : Int32) (a_TOKEN : Addr) (a_MULTIWORD_TOKEN : Addr) (a_EMPTY_NODE : Addr) (a_COVERED_WORD : Addr) (a_COMMENT : Addr) (a_DOCUMENT_START : Addr) (a_BLANK : Addr) (h0 : Heap) (n0 : Nat) (v : Option Value) (h : Heap) (L : List Loc) : Prop := v = some (.int (1 : Int32)) ∧ Fr n0 L
set_option maxRecDepth 65536 in
set_option maxHeartbeats 40000000 in
theorem own_rL (l : Launch) (Z : State) (a0 : Array Value) (hw : ∀ d ∈ tables_1, d.before a0 Z = true) (ws : List Jvm.Cond) (xp : Int32) (a_TOKEN : Addr) (a_MULTIWORD_TOKEN : Addr) (a_EMPTY_NODE : Addr) (a_COVERED_WORD : Addr) (a_COMMENT : Addr) (a_DOCUMENT_START : Addr) (a_BLANK : Addr) (h0 : Heap) (n0 : Nat) (Z0 : n0 ≤ h0.size) (S_TOKEN : Sta Z h0 "com/example/tokenweave/tokenweave/model/LineKind" "TOKEN" "Lcom/example/tokenweave/tokenweave/model/LineKind;" (.ref a_TOKEN)) (E_TOKEN : Exa Z h0 a_TOKEN "com/example/tokenweave/tokenweave/model/LineKind") (S_MULTIWORD_TOKEN : Sta Z h0 "com/example/tokenweave/tokenweave/model/LineKind" "MULTIWORD_TOKEN" "Lcom/example/tokenweave/tokenweave/model/LineKind;" (.ref a_MULTIWORD_TOKEN)) (E_MULTIWORD_TOKEN : Exa Z h0 a_MULTIWORD_TOKEN "com/example/tokenweave/tokenweave/model/LineKind") (F_TOKEN_ordinal : Fld Z h0 a_TOKEN "java/lang/Enum" "ordinal" "I" (.int (0 : Int32))) (F_MULTIWORD_TOKEN_ordinal : Fld Z h0 a_MULTIWORD_TOKEN "java/lang/Enum" "ordinal" "I" (.int (1 : Int32))) (S_EMPTY_NODE : Sta Z h0 "com/example/tokenweave/tokenweave/model/LineKind" "EMPTY_NODE" "Lcom/example/tokenweave/tokenweave/model/LineKind;" (.ref a_EMPTY_NODE)) (E_EMPTY_NODE : Exa Z h0 a_EMPTY_NODE "com/example/tokenweave/tokenweave/model/LineKind") (F_EMPTY_NODE_ordinal : Fld Z h0 a_EMPTY_NODE "java/lang/Enum" "ordinal" "I" (.int (2 : Int32))) (S_COVERED_WORD : Sta Z h0 "com/example/tokenweave/tokenweave/model/LineKind" "COVERED_WORD" "Lcom/example/tokenweave/tokenweave/model/LineKind;" (.ref a_COVERED_WORD)) (E_COVERED_WORD : Exa Z h0 a_COVERED_WORD "com/example/tokenweave/tokenweave/model/LineKind") (F_COVERED_WORD_ordinal : Fld Z h0 a_COVERED_WORD "java/lang/Enum" "ordinal" "I" (.int (3 : Int32))) (S_COMMENT : Sta Z h0 "com/example/tokenweave/tokenweave/model/LineKind" "COMMENT" "Lcom/example/tokenweave/tokenweave/model/LineKind;" (.ref a_COMMENT)) (E_COMMENT : Exa Z h0 a_COMMENT "com/example/tokenweave/tokenweave/model/LineKind") (F_COMMENT_ordinal : Fld Z h0 a_COMMENT "java/lang/Enum" "ordinal" "I" (.int (5 : Int32))) (S_DOCUMENT_START : Sta Z h0 "com/example/tokenweave/tokenweave/model/LineKind" "DOCUMENT_START" "Lcom/example/tokenweave/tokenweave/model/LineKind;" (.ref a_DOCUMENT_START)) (E_DOCUMENT_START : Exa Z h0 a_DOCUMENT_START "com/example/tokenweave/tokenweave/model/LineKind") (F_DOCUMENT_START_ordinal : Fld Z h0 a_DOCUMENT_START "java/lang/Enum" "ordinal" "I" (.int (6 : Int32))) (S_BLANK : Sta Z h0 "com/example/tokenweave/tokenweave/model/LineKind" "BLANK" "Lcom/example/tokenweave/tokenweave/model/LineKind;" (.ref a_BLANK)) (E_BLANK : Exa Z h0 a_BLANK "com/example/tokenweave/tokenweave/model/LineKind") (F_BLANK_ordinal : Fld Z h0 a_BLANK "java/lang/Enum" "ordinal" "I" (.int (4 : Int32))) :
    MetFree l x (head1 (Jvm.Cond.code x code maxLocals ret :: ws) room_1) (fun a U => a = #[(.int xp)] ∧ Z.Warmed39 U.vm ∧ U.heap = h0) (fun _ _ _ _ _ => True) (fun _ U o U' => ∃ v L, o = .returned v ∧ own_QL Z xp a_TOKEN a_MULTIWORD_TOKEN a_EMPTY_NODE a_COVERED_WORD a_COMMENT a_DOCUMENT_START a_BLANK h0 n0 v U'.heap L ∧ FrameEnd U o U' L room_1.cells room_1.slots) := by
  refine MetFree.of_bodySF (plainFor_of_name own_pn0) hisR ?_
  intro p e s m args below meth c s₁ Bd hml0 hP hK
  obtain ⟨rfl, hZ, hh⟩ := hP
  have hx := Bd.exec
  have hby := Bd.bytes
  have hml : c.maxLocals = 5 := hml0
  have hown : s.vm.findClass "com/example/tokenweave/tokenweave/model/LineKindIsCarriedPinLaw" = some m.cls := findClass_of_methodNamed Bd.named
  have hnm := (name_of_methodNamed Bd.named Bd.method).1
  have X0 : Stand p l e room_1 s m #[(.int xp)] below meth c s₁ [] 0 0 := Stand.of_body Bd
  have e0 : s₁.heap = h0 := by rw [← hh, Bd.state]; rfl
  have N0 := Fr.nil n0
  show own_F p e below (fun o U' => ∃ v L, o = .returned v ∧ own_QL Z xp a_TOKEN a_MULTIWORD_TOKEN a_EMPTY_NODE a_COVERED_WORD a_COMMENT a_DOCUMENT_START a_BLANK h0 n0 v U'.heap L ∧ FrameEnd s o U' L room_1.cells room_1.slots) s₁ (entryFrame m #[(.int xp)] maxLocals)
  rw [own_efL m xp]
  have ne_0_1 : ¬ a_TOKEN = a_MULTIWORD_TOKEN := own_fne F_TOKEN_ordinal F_MULTIWORD_TOKEN_ordinal (fun q => absurd (Value.int.inj q) (by decide))
  have ne_0_2 : ¬ a_TOKEN = a_EMPTY_NODE := own_fne F_TOKEN_ordinal F_EMPTY_NODE_ordinal (fun q => absurd (Value.int.inj q) (by decide))
  have ne_0_3 : ¬ a_TOKEN = a_COVERED_WORD := own_fne F_TOKEN_ordinal F_COVERED_WORD_ordinal (fun q => absurd (Value.int.inj q) (by decide))
  have ne_1_0 : ¬ a_MULTIWORD_TOKEN = a_TOKEN := own_fne F_MULTIWORD_TOKEN_ordinal F_TOKEN_ordinal (fun q => absurd (Value.int.inj q) (by decide))
  have ne_1_2 : ¬ a_MULTIWORD_TOKEN = a_EMPTY_NODE := own_fne F_MULTIWORD_TOKEN_ordinal F_EMPTY_NODE_ordinal (fun q => absurd (Value.int.inj q) (by decide))
  have ne_1_3 : ¬ a_MULTIWORD_TOKEN = a_COVERED_WORD := own_fne F_MULTIWORD_TOKEN_ordinal F_COVERED_WORD_ordinal (fun q => absurd (Value.int.inj q) (by decide))
  have ne_2_0 : ¬ a_EMPTY_NODE = a_TOKEN := own_fne F_EMPTY_NODE_ordinal F_TOKEN_ordinal (fun q => absurd (Value.int.inj q) (by decide))
  have ne_2_1 : ¬ a_EMPTY_NODE = a_MULTIWORD_TOKEN := own_fne F_EMPTY_NODE_ordinal F_MULTIWORD_TOKEN_ordinal (fun q => absurd (Value.int.inj q) (by decide))
  have ne_2_3 : ¬ a_EMPTY_NODE = a_COVERED_WORD := own_fne F_EMPTY_NODE_ordinal F_COVERED_WORD_ordinal (fun q => absurd (Value.int.inj q) (by decide))
  have ne_3_0 : ¬ a_COVERED_WORD = a_TOKEN := own_fne F_COVERED_WORD_ordinal F_TOKEN_ordinal (fun q => absurd (Value.int.inj q) (by decide))
  have ne_3_1 : ¬ a_COVERED_WORD = a_MULTIWORD_TOKEN := own_fne F_COVERED_WORD_ordinal F_MULTIWORD_TOKEN_ordinal (fun q => absurd (Value.int.inj q) (by decide))
  have ne_3_2 : ¬ a_COVERED_WORD = a_EMPTY_NODE := own_fne F_COVERED_WORD_ordinal F_EMPTY_NODE_ordinal (fun q => absurd (Value.int.inj q) (by decide))
  have ne_4_0 : ¬ a_BLANK = a_TOKEN := own_fne F_BLANK_ordinal F_TOKEN_ordinal (fun q => absurd (Value.int.inj q) (by decide))
  have ne_4_1 : ¬ a_BLANK = a_MULTIWORD_TOKEN := own_fne F_BLANK_ordinal F_MULTIWORD_TOKEN_ordinal (fun q => absurd (Value.int.inj q) (by decide))
  have ne_4_2 : ¬ a_BLANK = a_EMPTY_NODE := own_fne F_BLANK_ordinal F_EMPTY_NODE_ordinal (fun q => absurd (Value.int.inj q) (by decide))
  have ne_4_3 : ¬ a_BLANK = a_COVERED_WORD := own_fne F_BLANK_ordinal F_COVERED_WORD_ordinal (fun q => absurd (Value.int.inj q) (by decide))
  have ne_5_0 : ¬ a_COMMENT = a_TOKEN := own_fne F_COMMENT_ordinal F_TOKEN_ordinal (fun q => absurd (Value.int.inj q) (by decide))
  have ne_5_1 : ¬ a_COMMENT = a_MULTIWORD_TOKEN := own_fne F_COMMENT_ordinal F_MULTIWORD_TOKEN_ordinal (fun q => absurd (Value.int.inj q) (by decide))
  have ne_5_2 : ¬ a_COMMENT = a_EMPTY_NODE := own_fne F_COMMENT_ordinal F_EMPTY_NODE_ordinal (fun q => absurd (Value.int.inj q) (by decide))
  have ne_5_3 : ¬ a_COMMENT = a_COVERED_WORD := own_fne F_COMMENT_ordinal F_COVERED_WORD_ordinal (fun q => absurd (Value.int.inj q) (by decide))
  have ne_6_0 : ¬ a_DOCUMENT_START = a_TOKEN := own_fne F_DOCUMENT_START_ordinal F_TOKEN_ordinal (fun q => absurd (Value.int.inj q) (by decide))
  have ne_6_1 : ¬ a_DOCUMENT_START = a_MULTIWORD_TOKEN := own_fne F_DOCUMENT_START_ordinal F_MULTIWORD_TOKEN_ordinal (fun q => absurd (Value.int.inj q) (by decide))
  have ne_6_2 : ¬ a_DOCUMENT_START = a_EMPTY_NODE := own_fne F_DOCUMENT_START_ordinal F_EMPTY_NODE_ordinal (fun q => absurd (Value.int.inj q) (by decide))
  have ne_6_3 : ¬ a_DOCUMENT_START = a_COVERED_WORD := own_fne F_DOCUMENT_START_ordinal F_COVERED_WORD_ordinal (fun q => absurd (Value.int.inj q) (by decide))
  refine own_go (T' := s₁) (g' := (mkF m 1 #[.val (.int xp), .unset, .unset, .unset, .unset] [(.int xp)])) (fun _ k => XS.iloadN X0.here hx rfl (hb hby at_0) rfl k) ?_
  refine own_go (T' := s₁) (g' := (mkF m 3 #[.val (.int xp), .unset, .unset, .unset, .unset] [(.int (2147483647 : Int32)), (.int xp)])) (fun _ k => X0.ldcInt hx hown (mvT hZ (hw _ (List.mem_of_getElem? (i := 0) rfl))) (g := (mkF m 1 #[.val (.int xp), .unset, .unset, .unset, .unset] [(.int xp)])) rfl (hb hby at_1) _ k) ?_
  refine own_go (T' := s₁) (g' := (mkF m 4 #[.val (.int xp), .unset, .unset, .unset, .unset] [(.int (xp &&& (2147483647 : Int32)))])) (fun _ k => XS.iand X0.here hx rfl (hb hby at_3) rfl k) ?_
  refine own_go (T' := s₁) (g' := (mkF m 6 #[.val (.int xp), .unset, .unset, .unset, .unset] [(.int (7 : Int32)), (.int (xp &&& (2147483647 : Int32)))])) (fun _ k => XS.bipush X0.here hx rfl (hb hby at_4) k) ?_
  refine own_go (T' := s₁) (g' := (mkF m 7 #[.val (.int xp), .unset, .unset, .unset, .unset] [(.int ((xp &&& (2147483647 : Int32)) % (7 : Int32)))])) (fun _ k => iremM X0 hx rfl (hb hby at_6) rfl (by decide) k) ?_
  refine own_go (T' := s₁) (g' := (mkF m 8 #[.val (.int xp), .val (.int ((xp &&& (2147483647 : Int32)) % (7 : Int32))), .unset, .unset, .unset] [])) (fun _ k => XS.istoreN X0.here hx rfl (hb hby at_7) rfl (l' := #[.val (.int xp), .val (.int ((xp &&& (2147483647 : Int32)) % (7 : Int32))), .unset, .unset, .unset]) rfl k) ?_
  rcases own_mod7 xp with hk | hk | hk | hk | hk | hk | hk
  · rw [hk]
    refine own_go (T' := s₁) (g' := (mkF m 9 #[.val (.int xp), .val (.int (0 : Int32)), .unset, .unset, .unset] [(.int (0 : Int32))])) (fun _ k => XS.iloadN X0.here hx rfl (hb hby at_8) rfl k) ?_
    obtain ⟨_, _, ⟨T1, L1, k1, n1⟩, -, X1, ⟨Lc1, hQ1, l1, y1, z1⟩, st1⟩ := Jvm.LawKit.callS X0 hx (y := (⟨"com/example/tokenweave/tokenweave/model/LineKindIsCarriedPinLaw", "kindAt", "(I)Lcom/example/tokenweave/tokenweave/model/LineKind;"⟩ : MethodName)) hown (mvT hZ (hw _ (List.mem_of_getElem? (i := 1) rfl))) (mvT hZ (hw _ (List.mem_of_getElem? (i := 2) rfl))) (mvT hZ (hw _ (List.mem_of_getElem? (i := 3) rfl))) (mvT hZ (hw _ (List.mem_of_getElem? (i := 4) rfl))) (by decide) (backOf (W := 0) (own_rK l Z a0 hw [] (0 : Int32) a_TOKEN a_MULTIWORD_TOKEN a_EMPTY_NODE a_COVERED_WORD a_BLANK a_COMMENT a_DOCUMENT_START a_TOKEN h0 n0 Z0 S_TOKEN S_MULTIWORD_TOKEN S_EMPTY_NODE S_COVERED_WORD S_BLANK S_COMMENT S_DOCUMENT_START (by simp [own_kind])) hZ (hw _ (List.mem_of_getElem? (i := 4) rfl)) (hw _ (List.mem_of_getElem? (i := 3) rfl)) (by decide) (by decide)) (g := (mkF m 9 #[.val (.int xp), .val (.int (0 : Int32)), .unset, .unset, .unset] [(.int (0 : Int32))])) rfl (by rw [hml]; rfl) (argsL := [(.int (0 : Int32))]) (rest := []) (lenOf own_pd1 rfl) rfl (by show 2 * 0 + _ ≤ _; exact Nat.le_of_eq rfl) (hb hby at_9) (fun _ _ => ⟨rfl, e0, (by decide : 0 + 0 ≤ _), (by decide : 0 + 0 ≤ _)⟩)
    dsimp only [Pt.U, Pt.locs, Pt.cells, Pt.slots] at X1 l1 y1 z1 st1 hQ1
    subst l1 y1 z1
    obtain ⟨rfl, N1q, e1⟩ := hQ1
    have N1 := Fr.app N0 N1q
    refine own_go (T' := T1) (g' := (mkF m 12 #[.val (.int xp), .val (.int (0 : Int32)), .unset, .unset, .unset] [(.ref a_TOKEN)])) (fun _ k => st1 _ k) ?_
    refine own_go (T' := T1) (g' := (mkF m 13 #[.val (.int xp), .val (.int (0 : Int32)), .val (.ref a_TOKEN), .unset, .unset] [])) (fun _ k => XS.astoreN X1.here hx rfl (hb hby at_12) rfl rfl (l' := #[.val (.int xp), .val (.int (0 : Int32)), .val (.ref a_TOKEN), .unset, .unset]) rfl k) ?_
    refine own_go (T' := T1) (g' := (mkF m 14 #[.val (.int xp), .val (.int (0 : Int32)), .val (.ref a_TOKEN), .unset, .unset] [(.int (0 : Int32))])) (fun _ k => XS.iloadN X1.here hx rfl (hb hby at_13) rfl k) ?_
    refine own_go (T' := T1) (g' := (mkF m 15 #[.val (.int xp), .val (.int (0 : Int32)), .val (.ref a_TOKEN), .unset, .unset] [(.int (1 : Int32)), (.int (0 : Int32))])) (fun _ k => XS.iconst X1.here hx rfl (hb hby at_14) k) ?_
    refine own_go (T' := T1) (g' := (mkF m 18 #[.val (.int xp), .val (.int (0 : Int32)), .val (.ref a_TOKEN), .unset, .unset] [])) (fun _ k => XS.icmpNo X1.here hx rfl (hb hby at_15) rfl (feq ((by decide) : ¬ ((0 : Int32) = (1 : Int32)))).1 k) ?_
    refine own_go (T' := T1) (g' := (mkF m 19 #[.val (.int xp), .val (.int (0 : Int32)), .val (.ref a_TOKEN), .unset, .unset] [(.int (0 : Int32))])) (fun _ k => XS.iloadN X1.here hx rfl (hb hby at_18) rfl k) ?_
    refine own_go (T' := T1) (g' := (mkF m 20 #[.val (.int xp), .val (.int (0 : Int32)), .val (.ref a_TOKEN), .unset, .unset] [(.int (2 : Int32)), (.int (0 : Int32))])) (fun _ k => XS.iconst X1.here hx rfl (hb hby at_19) k) ?_
    refine own_go (T' := T1) (g' := (mkF m 23 #[.val (.int xp), .val (.int (0 : Int32)), .val (.ref a_TOKEN), .unset, .unset] [])) (fun _ k => XS.icmpNo X1.here hx rfl (hb hby at_20) rfl (feq ((by decide) : ¬ ((0 : Int32) = (2 : Int32)))).1 k) ?_
    refine own_go (T' := T1) (g' := (mkF m 24 #[.val (.int xp), .val (.int (0 : Int32)), .val (.ref a_TOKEN), .unset, .unset] [(.int (0 : Int32))])) (fun _ k => XS.iloadN X1.here hx rfl (hb hby at_23) rfl k) ?_
    refine own_go (T' := T1) (g' := (mkF m 25 #[.val (.int xp), .val (.int (0 : Int32)), .val (.ref a_TOKEN), .unset, .unset] [(.int (3 : Int32)), (.int (0 : Int32))])) (fun _ k => XS.iconst X1.here hx rfl (hb hby at_24) k) ?_
    refine own_go (T' := T1) (g' := (mkF m 32 #[.val (.int xp), .val (.int (0 : Int32)), .val (.ref a_TOKEN), .unset, .unset] [])) (fun _ k => XS.icmpYes X1.here hx rfl (pc0 := 25) (pc' := 32) rfl (hb hby at_25) rfl (feq ((by decide) : ¬ ((0 : Int32) = (3 : Int32)))).2 (by decide) (by decide) k) ?_
    refine own_go (T' := T1) (g' := (mkF m 33 #[.val (.int xp), .val (.int (0 : Int32)), .val (.ref a_TOKEN), .unset, .unset] [(.int (0 : Int32))])) (fun _ k => XS.iconst X1.here hx rfl (hb hby at_32) k) ?_
    refine own_go (T' := T1) (g' := (mkF m 34 #[.val (.int xp), .val (.int (0 : Int32)), .val (.ref a_TOKEN), .val (.int (0 : Int32)), .unset] [])) (fun _ k => XS.istoreN X1.here hx rfl (hb hby at_33) rfl (l' := #[.val (.int xp), .val (.int (0 : Int32)), .val (.ref a_TOKEN), .val (.int (0 : Int32)), .unset]) rfl k) ?_
    refine own_go (T' := T1) (g' := (mkF m 35 #[.val (.int xp), .val (.int (0 : Int32)), .val (.ref a_TOKEN), .val (.int (0 : Int32)), .unset] [(.ref a_TOKEN)])) (fun _ k => XS.aloadN X1.here hx rfl (hb hby at_34) rfl rfl k) ?_
    obtain ⟨cq2, kq2, q2a, q2b, q2c⟩ := isOf hZ e1 E_TOKEN
    obtain ⟨_, _, ⟨T2, L2, k2, n2⟩, -, X2, ⟨Lc2, hQ2, l2, y2, z2⟩, st2⟩ := X1.virtualBack hx (y := (⟨"com/example/tokenweave/tokenweave/model/LineKind", "isCarried", "()Z"⟩ : MethodName)) (z := (⟨"com/example/tokenweave/tokenweave/model/LineKind", "isCarried", "()Z"⟩ : MethodName)) hown (mvT hZ (hw _ (List.mem_of_getElem? (i := 8) rfl))) (mvT hZ (hw _ (List.mem_of_getElem? (i := 9) rfl))) (notFace_of_selects (args := #[]) (mvT hZ (hw _ (List.mem_of_getElem? (i := 11) rfl)))) (mvT hZ (hw _ (List.mem_of_getElem? (i := 11) rfl))) (mvT hZ (hw _ (List.mem_of_getElem? (i := 10) rfl))) (by decide) (backOf (W := 0) (own_rC l Z a0 hw [] a_TOKEN a_MULTIWORD_TOKEN a_EMPTY_NODE a_COVERED_WORD (0 : Int32) h0 n0 Z0 S_MULTIWORD_TOKEN S_EMPTY_NODE S_COVERED_WORD (by simp [own_car, ne_0_1, ne_0_2, ne_0_3])) hZ (hw _ (List.mem_of_getElem? (i := 12) rfl)) (hw _ (List.mem_of_getElem? (i := 6) rfl)) (by decide) (by decide)) q2a q2c (g := (mkF m 35 #[.val (.int xp), .val (.int (0 : Int32)), .val (.ref a_TOKEN), .val (.int (0 : Int32)), .unset] [(.ref a_TOKEN)])) rfl (by rw [hml]; rfl) (Steps.refl _) (argsL := []) (rest := []) (lenOf own_pd0 rfl) rfl (by show 2 * 0 + _ ≤ _; exact Nat.le_of_eq rfl) (hb hby at_35) (fun _ _ => ⟨rfl, e1, (by decide : 0 + 0 ≤ _), (by decide : 0 + 0 ≤ _)⟩)
    dsimp only [Pt.U, Pt.locs, Pt.cells, Pt.slots] at X2 l2 y2 z2 st2 hQ2
    subst l2 y2 z2
    obtain ⟨rfl, N2q, e2⟩ := hQ2
    have N2 := Fr.app N1 N2q
    refine own_goT (T' := T2) (g' := (mkF m 38 #[.val (.int xp), .val (.int (0 : Int32)), .val (.ref a_TOKEN), .val (.int (0 : Int32)), .unset] [(.int (0 : Int32))])) st2 ?_
    refine own_go (T' := T2) (g' := (mkF m 40 #[.val (.int xp), .val (.int (0 : Int32)), .val (.ref a_TOKEN), .val (.int (0 : Int32)), .val (.int (0 : Int32))] [])) (fun _ k => XS.istore X2.here hx rfl (hb hby at_38) rfl (l' := #[.val (.int xp), .val (.int (0 : Int32)), .val (.ref a_TOKEN), .val (.int (0 : Int32)), .val (.int (0 : Int32))]) rfl k) ?_
    refine own_go (T' := T2) (g' := (mkF m 42 #[.val (.int xp), .val (.int (0 : Int32)), .val (.ref a_TOKEN), .val (.int (0 : Int32)), .val (.int (0 : Int32))] [(.int (0 : Int32))])) (fun _ k => XS.iload X2.here hx rfl (hb hby at_40) rfl k) ?_
    refine own_go (T' := T2) (g' := (mkF m 43 #[.val (.int xp), .val (.int (0 : Int32)), .val (.ref a_TOKEN), .val (.int (0 : Int32)), .val (.int (0 : Int32))] [(.int (0 : Int32)), (.int (0 : Int32))])) (fun _ k => XS.iloadN X2.here hx rfl (hb hby at_42) rfl k) ?_
    refine own_go (T' := T2) (g' := (mkF m 48 #[.val (.int xp), .val (.int (0 : Int32)), .val (.ref a_TOKEN), .val (.int (0 : Int32)), .val (.int (0 : Int32))] [])) (fun _ k => XS.icmpYes X2.here hx rfl (pc0 := 43) (pc' := 48) rfl (hb hby at_43) rfl (teq ((by decide) : (0 : Int32) = (0 : Int32))).1 (by decide) (by decide) k) ?_
    refine own_go (T' := T2) (g' := (mkF m 50 #[.val (.int xp), .val (.int (0 : Int32)), .val (.ref a_TOKEN), .val (.int (0 : Int32)), .val (.int (0 : Int32))] [(.int (0 : Int32))])) (fun _ k => XS.iload X2.here hx rfl (hb hby at_48) rfl k) ?_
    refine own_go (T' := T2) (g' := (mkF m 69 #[.val (.int xp), .val (.int (0 : Int32)), .val (.ref a_TOKEN), .val (.int (0 : Int32)), .val (.int (0 : Int32))] [])) (fun _ k => XS.ifYes X2.here hx rfl (pc0 := 50) (pc' := 69) rfl (hb hby at_50) rfl ((if0 _ _).trans (teq ((by decide) : (0 : Int32) = (0 : Int32))).1) (by decide) (by decide) k) ?_
    refine own_go (T' := T2) (g' := (mkF m 70 #[.val (.int xp), .val (.int (0 : Int32)), .val (.ref a_TOKEN), .val (.int (0 : Int32)), .val (.int (0 : Int32))] [(.int (1 : Int32))])) (fun _ k => XS.iconst X2.here hx rfl (hb hby at_69) k) ?_
    obtain ⟨fs, hr, hrun, hended, hW, hsame⟩ := X2.leave (v := some (.int (1 : Int32))) (fun h => by rw [Bd.returns] at h; cases h)
    refine own_end (retN X2 hx (t := .boolean) Bd.returns (by simp) (hb hby at_70) hr) hrun hended ⟨_, _, rfl, (?_ : own_QL Z xp a_TOKEN a_MULTIWORD_TOKEN a_EMPTY_NODE a_COVERED_WORD a_COMMENT a_DOCUMENT_START a_BLANK h0 n0 _ T2.heap _), ⟨_, rfl⟩, hW, hsame.mono (by decide) (by decide)⟩
    rw [e2]
    exact ⟨rfl, N2⟩
  · rw [hk]
    refine own_go (T' := s₁) (g' := (mkF m 9 #[.val (.int xp), .val (.int (1 : Int32)), .unset, .unset, .unset] [(.int (1 : Int32))])) (fun _ k => XS.iloadN X0.here hx rfl (hb hby at_8) rfl k) ?_
    obtain ⟨_, _, ⟨T3, L3, k3, n3⟩, -, X3, ⟨Lc3, hQ3, l3, y3, z3⟩, st3⟩ := Jvm.LawKit.callS X0 hx (y := (⟨"com/example/tokenweave/tokenweave/model/LineKindIsCarriedPinLaw", "kindAt", "(I)Lcom/example/tokenweave/tokenweave/model/LineKind;"⟩ : MethodName)) hown (mvT hZ (hw _ (List.mem_of_getElem? (i := 1) rfl))) (mvT hZ (hw _ (List.mem_of_getElem? (i := 2) rfl))) (mvT hZ (hw _ (List.mem_of_getElem? (i := 3) rfl))) (mvT hZ (hw _ (List.mem_of_getElem? (i := 4) rfl))) (by decide) (backOf (W := 0) (own_rK l Z a0 hw [] (1 : Int32) a_TOKEN a_MULTIWORD_TOKEN a_EMPTY_NODE a_COVERED_WORD a_BLANK a_COMMENT a_DOCUMENT_START a_MULTIWORD_TOKEN h0 n0 Z0 S_TOKEN S_MULTIWORD_TOKEN S_EMPTY_NODE S_COVERED_WORD S_BLANK S_COMMENT S_DOCUMENT_START (by simp [own_kind])) hZ (hw _ (List.mem_of_getElem? (i := 4) rfl)) (hw _ (List.mem_of_getElem? (i := 3) rfl)) (by decide) (by decide)) (g := (mkF m 9 #[.val (.int xp), .val (.int (1 : Int32)), .unset, .unset, .unset] [(.int (1 : Int32))])) rfl (by rw [hml]; rfl) (argsL := [(.int (1 : Int32))]) (rest := []) (lenOf own_pd1 rfl) rfl (by show 2 * 0 + _ ≤ _; exact Nat.le_of_eq rfl) (hb hby at_9) (fun _ _ => ⟨rfl, e0, (by decide : 0 + 0 ≤ _), (by decide : 0 + 0 ≤ _)⟩)
    dsimp only [Pt.U, Pt.locs, Pt.cells, Pt.slots] at X3 l3 y3 z3 st3 hQ3
    subst l3 y3 z3
    obtain ⟨rfl, N3q, e3⟩ := hQ3
    have N3 := Fr.app N0 N3q
    refine own_go (T' := T3) (g' := (mkF m 12 #[.val (.int xp), .val (.int (1 : Int32)), .unset, .unset, .unset] [(.ref a_MULTIWORD_TOKEN)])) (fun _ k => st3 _ k) ?_
    refine own_go (T' := T3) (g' := (mkF m 13 #[.val (.int xp), .val (.int (1 : Int32)), .val (.ref a_MULTIWORD_TOKEN), .unset, .unset] [])) (fun _ k => XS.astoreN X3.here hx rfl (hb hby at_12) rfl rfl (l' := #[.val (.int xp), .val (.int (1 : Int32)), .val (.ref a_MULTIWORD_TOKEN), .unset, .unset]) rfl k) ?_
    refine own_go (T' := T3) (g' := (mkF m 14 #[.val (.int xp), .val (.int (1 : Int32)), .val (.ref a_MULTIWORD_TOKEN), .unset, .unset] [(.int (1 : Int32))])) (fun _ k => XS.iloadN X3.here hx rfl (hb hby at_13) rfl k) ?_
    refine own_go (T' := T3) (g' := (mkF m 15 #[.val (.int xp), .val (.int (1 : Int32)), .val (.ref a_MULTIWORD_TOKEN), .unset, .unset] [(.int (1 : Int32)), (.int (1 : Int32))])) (fun _ k => XS.iconst X3.here hx rfl (hb hby at_14) k) ?_
    refine own_go (T' := T3) (g' := (mkF m 28 #[.val (.int xp), .val (.int (1 : Int32)), .val (.ref a_MULTIWORD_TOKEN), .unset, .unset] [])) (fun _ k => XS.icmpYes X3.here hx rfl (pc0 := 15) (pc' := 28) rfl (hb hby at_15) rfl (teq ((by decide) : (1 : Int32) = (1 : Int32))).1 (by decide) (by decide) k) ?_
    refine own_go (T' := T3) (g' := (mkF m 29 #[.val (.int xp), .val (.int (1 : Int32)), .val (.ref a_MULTIWORD_TOKEN), .unset, .unset] [(.int (1 : Int32))])) (fun _ k => XS.iconst X3.here hx rfl (hb hby at_28) k) ?_
    refine own_go (T' := T3) (g' := (mkF m 33 #[.val (.int xp), .val (.int (1 : Int32)), .val (.ref a_MULTIWORD_TOKEN), .unset, .unset] [(.int (1 : Int32))])) (fun _ k => XS.goto X3.here hx rfl (pc0 := 29) (pc' := 33) rfl (hb hby at_29) (by decide) (by decide) k) ?_
    refine own_go (T' := T3) (g' := (mkF m 34 #[.val (.int xp), .val (.int (1 : Int32)), .val (.ref a_MULTIWORD_TOKEN), .val (.int (1 : Int32)), .unset] [])) (fun _ k => XS.istoreN X3.here hx rfl (hb hby at_33) rfl (l' := #[.val (.int xp), .val (.int (1 : Int32)), .val (.ref a_MULTIWORD_TOKEN), .val (.int (1 : Int32)), .unset]) rfl k) ?_
    refine own_go (T' := T3) (g' := (mkF m 35 #[.val (.int xp), .val (.int (1 : Int32)), .val (.ref a_MULTIWORD_TOKEN), .val (.int (1 : Int32)), .unset] [(.ref a_MULTIWORD_TOKEN)])) (fun _ k => XS.aloadN X3.here hx rfl (hb hby at_34) rfl rfl k) ?_
    obtain ⟨cq4, kq4, q4a, q4b, q4c⟩ := isOf hZ e3 E_MULTIWORD_TOKEN
    obtain ⟨_, _, ⟨T4, L4, k4, n4⟩, -, X4, ⟨Lc4, hQ4, l4, y4, z4⟩, st4⟩ := X3.virtualBack hx (y := (⟨"com/example/tokenweave/tokenweave/model/LineKind", "isCarried", "()Z"⟩ : MethodName)) (z := (⟨"com/example/tokenweave/tokenweave/model/LineKind", "isCarried", "()Z"⟩ : MethodName)) hown (mvT hZ (hw _ (List.mem_of_getElem? (i := 8) rfl))) (mvT hZ (hw _ (List.mem_of_getElem? (i := 9) rfl))) (notFace_of_selects (args := #[]) (mvT hZ (hw _ (List.mem_of_getElem? (i := 11) rfl)))) (mvT hZ (hw _ (List.mem_of_getElem? (i := 11) rfl))) (mvT hZ (hw _ (List.mem_of_getElem? (i := 10) rfl))) (by decide) (backOf (W := 0) (own_rC l Z a0 hw [] a_MULTIWORD_TOKEN a_MULTIWORD_TOKEN a_EMPTY_NODE a_COVERED_WORD (1 : Int32) h0 n0 Z0 S_MULTIWORD_TOKEN S_EMPTY_NODE S_COVERED_WORD (by simp [own_car, ne_1_2, ne_1_3])) hZ (hw _ (List.mem_of_getElem? (i := 12) rfl)) (hw _ (List.mem_of_getElem? (i := 6) rfl)) (by decide) (by decide)) q4a q4c (g := (mkF m 35 #[.val (.int xp), .val (.int (1 : Int32)), .val (.ref a_MULTIWORD_TOKEN), .val (.int (1 : Int32)), .unset] [(.ref a_MULTIWORD_TOKEN)])) rfl (by rw [hml]; rfl) (Steps.refl _) (argsL := []) (rest := []) (lenOf own_pd0 rfl) rfl (by show 2 * 0 + _ ≤ _; exact Nat.le_of_eq rfl) (hb hby at_35) (fun _ _ => ⟨rfl, e3, (by decide : 0 + 0 ≤ _), (by decide : 0 + 0 ≤ _)⟩)
    dsimp only [Pt.U, Pt.locs, Pt.cells, Pt.slots] at X4 l4 y4 z4 st4 hQ4
    subst l4 y4 z4
    obtain ⟨rfl, N4q, e4⟩ := hQ4
    have N4 := Fr.app N3 N4q
    refine own_goT (T' := T4) (g' := (mkF m 38 #[.val (.int xp), .val (.int (1 : Int32)), .val (.ref a_MULTIWORD_TOKEN), .val (.int (1 : Int32)), .unset] [(.int (1 : Int32))])) st4 ?_
    refine own_go (T' := T4) (g' := (mkF m 40 #[.val (.int xp), .val (.int (1 : Int32)), .val (.ref a_MULTIWORD_TOKEN), .val (.int (1 : Int32)), .val (.int (1 : Int32))] [])) (fun _ k => XS.istore X4.here hx rfl (hb hby at_38) rfl (l' := #[.val (.int xp), .val (.int (1 : Int32)), .val (.ref a_MULTIWORD_TOKEN), .val (.int (1 : Int32)), .val (.int (1 : Int32))]) rfl k) ?_
    refine own_go (T' := T4) (g' := (mkF m 42 #[.val (.int xp), .val (.int (1 : Int32)), .val (.ref a_MULTIWORD_TOKEN), .val (.int (1 : Int32)), .val (.int (1 : Int32))] [(.int (1 : Int32))])) (fun _ k => XS.iload X4.here hx rfl (hb hby at_40) rfl k) ?_
    refine own_go (T' := T4) (g' := (mkF m 43 #[.val (.int xp), .val (.int (1 : Int32)), .val (.ref a_MULTIWORD_TOKEN), .val (.int (1 : Int32)), .val (.int (1 : Int32))] [(.int (1 : Int32)), (.int (1 : Int32))])) (fun _ k => XS.iloadN X4.here hx rfl (hb hby at_42) rfl k) ?_
    refine own_go (T' := T4) (g' := (mkF m 48 #[.val (.int xp), .val (.int (1 : Int32)), .val (.ref a_MULTIWORD_TOKEN), .val (.int (1 : Int32)), .val (.int (1 : Int32))] [])) (fun _ k => XS.icmpYes X4.here hx rfl (pc0 := 43) (pc' := 48) rfl (hb hby at_43) rfl (teq ((by decide) : (1 : Int32) = (1 : Int32))).1 (by decide) (by decide) k) ?_
    refine own_go (T' := T4) (g' := (mkF m 50 #[.val (.int xp), .val (.int (1 : Int32)), .val (.ref a_MULTIWORD_TOKEN), .val (.int (1 : Int32)), .val (.int (1 : Int32))] [(.int (1 : Int32))])) (fun _ k => XS.iload X4.here hx rfl (hb hby at_48) rfl k) ?_
    refine own_go (T' := T4) (g' := (mkF m 53 #[.val (.int xp), .val (.int (1 : Int32)), .val (.ref a_MULTIWORD_TOKEN), .val (.int (1 : Int32)), .val (.int (1 : Int32))] [])) (fun _ k => XS.ifNo X4.here hx rfl (hb hby at_50) rfl ((if0 _ _).trans (feq ((by decide) : ¬ ((1 : Int32) = (0 : Int32)))).1) k) ?_
    refine own_go (T' := T4) (g' := (mkF m 54 #[.val (.int xp), .val (.int (1 : Int32)), .val (.ref a_MULTIWORD_TOKEN), .val (.int (1 : Int32)), .val (.int (1 : Int32))] [(.ref a_MULTIWORD_TOKEN)])) (fun _ k => XS.aloadN X4.here hx rfl (hb hby at_53) rfl rfl k) ?_
    obtain ⟨cq5, kq5, q5a, q5b, q5c⟩ := isOf hZ e4 E_MULTIWORD_TOKEN
    obtain ⟨_, _, ⟨T5, L5, k5, n5⟩, -, X5, ⟨Lc5, hQ5, l5, y5, z5⟩, st5⟩ := X4.virtualBack hx (y := (⟨"com/example/tokenweave/tokenweave/model/LineKind", "hasFields", "()Z"⟩ : MethodName)) (z := (⟨"com/example/tokenweave/tokenweave/model/LineKind", "hasFields", "()Z"⟩ : MethodName)) hown (mvT hZ (hw _ (List.mem_of_getElem? (i := 20) rfl))) (mvT hZ (hw _ (List.mem_of_getElem? (i := 21) rfl))) (notFace_of_selects (args := #[]) (mvT hZ (hw _ (List.mem_of_getElem? (i := 23) rfl)))) (mvT hZ (hw _ (List.mem_of_getElem? (i := 23) rfl))) (mvT hZ (hw _ (List.mem_of_getElem? (i := 22) rfl))) (by decide) (backOf (W := 0) (own_rH l Z a0 hw [] a_MULTIWORD_TOKEN a_TOKEN a_MULTIWORD_TOKEN a_EMPTY_NODE a_COVERED_WORD h0 n0 Z0 S_TOKEN S_MULTIWORD_TOKEN S_EMPTY_NODE S_COVERED_WORD E_MULTIWORD_TOKEN ne_1_0 (by simp [own_car, ne_1_2, ne_1_3])) hZ (hw _ (List.mem_of_getElem? (i := 24) rfl)) (hw _ (List.mem_of_getElem? (i := 6) rfl)) (by decide) (by decide)) q5a q5c (g := (mkF m 54 #[.val (.int xp), .val (.int (1 : Int32)), .val (.ref a_MULTIWORD_TOKEN), .val (.int (1 : Int32)), .val (.int (1 : Int32))] [(.ref a_MULTIWORD_TOKEN)])) rfl (by rw [hml]; rfl) (Steps.refl _) (argsL := []) (rest := []) (lenOf own_pd0 rfl) rfl (by show 2 * 0 + _ ≤ _; exact Nat.le_of_eq rfl) (hb hby at_54) (fun _ _ => ⟨rfl, e4, (by decide : 0 + 0 ≤ _), (by decide : 0 + 0 ≤ _)⟩)
    dsimp only [Pt.U, Pt.locs, Pt.cells, Pt.slots] at X5 l5 y5 z5 st5 hQ5
    subst l5 y5 z5
    obtain ⟨rfl, N5q, e5⟩ := hQ5
    have N5 := Fr.app N4 N5q
    refine own_goT (T' := T5) (g' := (mkF m 57 #[.val (.int xp), .val (.int (1 : Int32)), .val (.ref a_MULTIWORD_TOKEN), .val (.int (1 : Int32)), .val (.int (1 : Int32))] [(.int (1 : Int32))])) st5 ?_
    refine own_go (T' := T5) (g' := (mkF m 60 #[.val (.int xp), .val (.int (1 : Int32)), .val (.ref a_MULTIWORD_TOKEN), .val (.int (1 : Int32)), .val (.int (1 : Int32))] [])) (fun _ k => XS.ifNo X5.here hx rfl (hb hby at_57) rfl ((if0 _ _).trans (feq ((by decide) : ¬ ((1 : Int32) = (0 : Int32)))).1) k) ?_
    refine own_go (T' := T5) (g' := (mkF m 61 #[.val (.int xp), .val (.int (1 : Int32)), .val (.ref a_MULTIWORD_TOKEN), .val (.int (1 : Int32)), .val (.int (1 : Int32))] [(.ref a_MULTIWORD_TOKEN)])) (fun _ k => XS.aloadN X5.here hx rfl (hb hby at_60) rfl rfl k) ?_
    obtain ⟨T6, X6, e6, st6⟩ := getS X5 hx hZ (host := "") hown (hw _ (List.mem_of_getElem? (i := 5) rfl)) Via.refl e5 S_TOKEN (g := (mkF m 61 #[.val (.int xp), .val (.int (1 : Int32)), .val (.ref a_MULTIWORD_TOKEN), .val (.int (1 : Int32)), .val (.int (1 : Int32))] [(.ref a_MULTIWORD_TOKEN)])) rfl (hb hby at_61)
    refine own_go (T' := T6) (g' := (mkF m 64 #[.val (.int xp), .val (.int (1 : Int32)), .val (.ref a_MULTIWORD_TOKEN), .val (.int (1 : Int32)), .val (.int (1 : Int32))] [(.ref a_TOKEN), (.ref a_MULTIWORD_TOKEN)])) (fun _ k => st6 _ k) ?_
    refine own_go (T' := T6) (g' := (mkF m 69 #[.val (.int xp), .val (.int (1 : Int32)), .val (.ref a_MULTIWORD_TOKEN), .val (.int (1 : Int32)), .val (.int (1 : Int32))] [])) (fun _ k => Jvm.RoadKit.acmp (g := (mkF m 64 #[.val (.int xp), .val (.int (1 : Int32)), .val (.ref a_MULTIWORD_TOKEN), .val (.int (1 : Int32)), .val (.int (1 : Int32))] [(.ref a_TOKEN), (.ref a_MULTIWORD_TOKEN)])) X6 hx rfl rfl rfl (pc0 := 64) (pc' := 69) (same := false) rfl (hb hby at_64) rfl (decide_eq_false fun q => ne_1_0 (Value.ref.inj q)) (by decide) (by decide) k) ?_
    refine own_go (T' := T6) (g' := (mkF m 70 #[.val (.int xp), .val (.int (1 : Int32)), .val (.ref a_MULTIWORD_TOKEN), .val (.int (1 : Int32)), .val (.int (1 : Int32))] [(.int (1 : Int32))])) (fun _ k => XS.iconst X6.here hx rfl (hb hby at_69) k) ?_
    obtain ⟨fs, hr, hrun, hended, hW, hsame⟩ := X6.leave (v := some (.int (1 : Int32))) (fun h => by rw [Bd.returns] at h; cases h)
    refine own_end (retN X6 hx (t := .boolean) Bd.returns (by simp) (hb hby at_70) hr) hrun hended ⟨_, _, rfl, (?_ : own_QL Z xp a_TOKEN a_MULTIWORD_TOKEN a_EMPTY_NODE a_COVERED_WORD a_COMMENT a_DOCUMENT_START a_BLANK h0 n0 _ T6.heap _), ⟨_, rfl⟩, hW, hsame.mono (by decide) (by decide)⟩
    rw [e6]
    exact ⟨rfl, N5⟩
  · rw [hk]
    refine own_go (T' := s₁) (g' := (mkF m 9 #[.val (.int xp), .val (.int (2 : Int32)), .unset, .unset, .unset] [(.int (2 : Int32))])) (fun _ k => XS.iloadN X0.here hx rfl (hb hby at_8) rfl k) ?_
    obtain ⟨_, _, ⟨T7, L7, k7, n7⟩, -, X7, ⟨Lc7, hQ7, l7, y7, z7⟩, st7⟩ := Jvm.LawKit.callS X0 hx (y := (⟨"com/example/tokenweave/tokenweave/model/LineKindIsCarriedPinLaw", "kindAt", "(I)Lcom/example/tokenweave/tokenweave/model/LineKind;"⟩ : MethodName)) hown (mvT hZ (hw _ (List.mem_of_getElem? (i := 1) rfl))) (mvT hZ (hw _ (List.mem_of_getElem? (i := 2) rfl))) (mvT hZ (hw _ (List.mem_of_getElem? (i := 3) rfl))) (mvT hZ (hw _ (List.mem_of_getElem? (i := 4) rfl))) (by decide) (backOf (W := 0) (own_rK l Z a0 hw [] (2 : Int32) a_TOKEN a_MULTIWORD_TOKEN a_EMPTY_NODE a_COVERED_WORD a_BLANK a_COMMENT a_DOCUMENT_START a_EMPTY_NODE h0 n0 Z0 S_TOKEN S_MULTIWORD_TOKEN S_EMPTY_NODE S_COVERED_WORD S_BLANK S_COMMENT S_DOCUMENT_START (by simp [own_kind])) hZ (hw _ (List.mem_of_getElem? (i := 4) rfl)) (hw _ (List.mem_of_getElem? (i := 3) rfl)) (by decide) (by decide)) (g := (mkF m 9 #[.val (.int xp), .val (.int (2 : Int32)), .unset, .unset, .unset] [(.int (2 : Int32))])) rfl (by rw [hml]; rfl) (argsL := [(.int (2 : Int32))]) (rest := []) (lenOf own_pd1 rfl) rfl (by show 2 * 0 + _ ≤ _; exact Nat.le_of_eq rfl) (hb hby at_9) (fun _ _ => ⟨rfl, e0, (by decide : 0 + 0 ≤ _), (by decide : 0 + 0 ≤ _)⟩)
    dsimp only [Pt.U, Pt.locs, Pt.cells, Pt.slots] at X7 l7 y7 z7 st7 hQ7
    subst l7 y7 z7
    obtain ⟨rfl, N7q, e7⟩ := hQ7
    have N7 := Fr.app N0 N7q
    refine own_go (T' := T7) (g' := (mkF m 12 #[.val (.int xp), .val (.int (2 : Int32)), .unset, .unset, .unset] [(.ref a_EMPTY_NODE)])) (fun _ k => st7 _ k) ?_
    refine own_go (T' := T7) (g' := (mkF m 13 #[.val (.int xp), .val (.int (2 : Int32)), .val (.ref a_EMPTY_NODE), .unset, .unset] [])) (fun _ k => XS.astoreN X7.here hx rfl (hb hby at_12) rfl rfl (l' := #[.val (.int xp), .val (.int (2 : Int32)), .val (.ref a_EMPTY_NODE), .unset, .unset]) rfl k) ?_
    refine own_go (T' := T7) (g' := (mkF m 14 #[.val (.int xp), .val (.int (2 : Int32)), .val (.ref a_EMPTY_NODE), .unset, .unset] [(.int (2 : Int32))])) (fun _ k => XS.iloadN X7.here hx rfl (hb hby at_13) rfl k) ?_
    refine own_go (T' := T7) (g' := (mkF m 15 #[.val (.int xp), .val (.int (2 : Int32)), .val (.ref a_EMPTY_NODE), .unset, .unset] [(.int (1 : Int32)), (.int (2 : Int32))])) (fun _ k => XS.iconst X7.here hx rfl (hb hby at_14) k) ?_
    refine own_go (T' := T7) (g' := (mkF m 18 #[.val (.int xp), .val (.int (2 : Int32)), .val (.ref a_EMPTY_NODE), .unset, .unset] [])) (fun _ k => XS.icmpNo X7.here hx rfl (hb hby at_15) rfl (feq ((by decide) : ¬ ((2 : Int32) = (1 : Int32)))).1 k) ?_
    refine own_go (T' := T7) (g' := (mkF m 19 #[.val (.int xp), .val (.int (2 : Int32)), .val (.ref a_EMPTY_NODE), .unset, .unset] [(.int (2 : Int32))])) (fun _ k => XS.iloadN X7.here hx rfl (hb hby at_18) rfl k) ?_
    refine own_go (T' := T7) (g' := (mkF m 20 #[.val (.int xp), .val (.int (2 : Int32)), .val (.ref a_EMPTY_NODE), .unset, .unset] [(.int (2 : Int32)), (.int (2 : Int32))])) (fun _ k => XS.iconst X7.here hx rfl (hb hby at_19) k) ?_
    refine own_go (T' := T7) (g' := (mkF m 28 #[.val (.int xp), .val (.int (2 : Int32)), .val (.ref a_EMPTY_NODE), .unset, .unset] [])) (fun _ k => XS.icmpYes X7.here hx rfl (pc0 := 20) (pc' := 28) rfl (hb hby at_20) rfl (teq ((by decide) : (2 : Int32) = (2 : Int32))).1 (by decide) (by decide) k) ?_
    refine own_go (T' := T7) (g' := (mkF m 29 #[.val (.int xp), .val (.int (2 : Int32)), .val (.ref a_EMPTY_NODE), .unset, .unset] [(.int (1 : Int32))])) (fun _ k => XS.iconst X7.here hx rfl (hb hby at_28) k) ?_
    refine own_go (T' := T7) (g' := (mkF m 33 #[.val (.int xp), .val (.int (2 : Int32)), .val (.ref a_EMPTY_NODE), .unset, .unset] [(.int (1 : Int32))])) (fun _ k => XS.goto X7.here hx rfl (pc0 := 29) (pc' := 33) rfl (hb hby at_29) (by decide) (by decide) k) ?_
    refine own_go (T' := T7) (g' := (mkF m 34 #[.val (.int xp), .val (.int (2 : Int32)), .val (.ref a_EMPTY_NODE), .val (.int (1 : Int32)), .unset] [])) (fun _ k => XS.istoreN X7.here hx rfl (hb hby at_33) rfl (l' := #[.val (.int xp), .val (.int (2 : Int32)), .val (.ref a_EMPTY_NODE), .val (.int (1 : Int32)), .unset]) rfl k) ?_
    refine own_go (T' := T7) (g' := (mkF m 35 #[.val (.int xp), .val (.int (2 : Int32)), .val (.ref a_EMPTY_NODE), .val (.int (1 : Int32)), .unset] [(.ref a_EMPTY_NODE)])) (fun _ k => XS.aloadN X7.here hx rfl (hb hby at_34) rfl rfl k) ?_
    obtain ⟨cq8, kq8, q8a, q8b, q8c⟩ := isOf hZ e7 E_EMPTY_NODE
    obtain ⟨_, _, ⟨T8, L8, k8, n8⟩, -, X8, ⟨Lc8, hQ8, l8, y8, z8⟩, st8⟩ := X7.virtualBack hx (y := (⟨"com/example/tokenweave/tokenweave/model/LineKind", "isCarried", "()Z"⟩ : MethodName)) (z := (⟨"com/example/tokenweave/tokenweave/model/LineKind", "isCarried", "()Z"⟩ : MethodName)) hown (mvT hZ (hw _ (List.mem_of_getElem? (i := 8) rfl))) (mvT hZ (hw _ (List.mem_of_getElem? (i := 9) rfl))) (notFace_of_selects (args := #[]) (mvT hZ (hw _ (List.mem_of_getElem? (i := 11) rfl)))) (mvT hZ (hw _ (List.mem_of_getElem? (i := 11) rfl))) (mvT hZ (hw _ (List.mem_of_getElem? (i := 10) rfl))) (by decide) (backOf (W := 0) (own_rC l Z a0 hw [] a_EMPTY_NODE a_MULTIWORD_TOKEN a_EMPTY_NODE a_COVERED_WORD (1 : Int32) h0 n0 Z0 S_MULTIWORD_TOKEN S_EMPTY_NODE S_COVERED_WORD (by simp [own_car, ne_2_1, ne_2_3])) hZ (hw _ (List.mem_of_getElem? (i := 12) rfl)) (hw _ (List.mem_of_getElem? (i := 6) rfl)) (by decide) (by decide)) q8a q8c (g := (mkF m 35 #[.val (.int xp), .val (.int (2 : Int32)), .val (.ref a_EMPTY_NODE), .val (.int (1 : Int32)), .unset] [(.ref a_EMPTY_NODE)])) rfl (by rw [hml]; rfl) (Steps.refl _) (argsL := []) (rest := []) (lenOf own_pd0 rfl) rfl (by show 2 * 0 + _ ≤ _; exact Nat.le_of_eq rfl) (hb hby at_35) (fun _ _ => ⟨rfl, e7, (by decide : 0 + 0 ≤ _), (by decide : 0 + 0 ≤ _)⟩)
    dsimp only [Pt.U, Pt.locs, Pt.cells, Pt.slots] at X8 l8 y8 z8 st8 hQ8
    subst l8 y8 z8
    obtain ⟨rfl, N8q, e8⟩ := hQ8
    have N8 := Fr.app N7 N8q
    refine own_goT (T' := T8) (g' := (mkF m 38 #[.val (.int xp), .val (.int (2 : Int32)), .val (.ref a_EMPTY_NODE), .val (.int (1 : Int32)), .unset] [(.int (1 : Int32))])) st8 ?_
    refine own_go (T' := T8) (g' := (mkF m 40 #[.val (.int xp), .val (.int (2 : Int32)), .val (.ref a_EMPTY_NODE), .val (.int (1 : Int32)), .val (.int (1 : Int32))] [])) (fun _ k => XS.istore X8.here hx rfl (hb hby at_38) rfl (l' := #[.val (.int xp), .val (.int (2 : Int32)), .val (.ref a_EMPTY_NODE), .val (.int (1 : Int32)), .val (.int (1 : Int32))]) rfl k) ?_
    refine own_go (T' := T8) (g' := (mkF m 42 #[.val (.int xp), .val (.int (2 : Int32)), .val (.ref a_EMPTY_NODE), .val (.int (1 : Int32)), .val (.int (1 : Int32))] [(.int (1 : Int32))])) (fun _ k => XS.iload X8.here hx rfl (hb hby at_40) rfl k) ?_
    refine own_go (T' := T8) (g' := (mkF m 43 #[.val (.int xp), .val (.int (2 : Int32)), .val (.ref a_EMPTY_NODE), .val (.int (1 : Int32)), .val (.int (1 : Int32))] [(.int (1 : Int32)), (.int (1 : Int32))])) (fun _ k => XS.iloadN X8.here hx rfl (hb hby at_42) rfl k) ?_
    refine own_go (T' := T8) (g' := (mkF m 48 #[.val (.int xp), .val (.int (2 : Int32)), .val (.ref a_EMPTY_NODE), .val (.int (1 : Int32)), .val (.int (1 : Int32))] [])) (fun _ k => XS.icmpYes X8.here hx rfl (pc0 := 43) (pc' := 48) rfl (hb hby at_43) rfl (teq ((by decide) : (1 : Int32) = (1 : Int32))).1 (by decide) (by decide) k) ?_
    refine own_go (T' := T8) (g' := (mkF m 50 #[.val (.int xp), .val (.int (2 : Int32)), .val (.ref a_EMPTY_NODE), .val (.int (1 : Int32)), .val (.int (1 : Int32))] [(.int (1 : Int32))])) (fun _ k => XS.iload X8.here hx rfl (hb hby at_48) rfl k) ?_
    refine own_go (T' := T8) (g' := (mkF m 53 #[.val (.int xp), .val (.int (2 : Int32)), .val (.ref a_EMPTY_NODE), .val (.int (1 : Int32)), .val (.int (1 : Int32))] [])) (fun _ k => XS.ifNo X8.here hx rfl (hb hby at_50) rfl ((if0 _ _).trans (feq ((by decide) : ¬ ((1 : Int32) = (0 : Int32)))).1) k) ?_
    refine own_go (T' := T8) (g' := (mkF m 54 #[.val (.int xp), .val (.int (2 : Int32)), .val (.ref a_EMPTY_NODE), .val (.int (1 : Int32)), .val (.int (1 : Int32))] [(.ref a_EMPTY_NODE)])) (fun _ k => XS.aloadN X8.here hx rfl (hb hby at_53) rfl rfl k) ?_
    obtain ⟨cq9, kq9, q9a, q9b, q9c⟩ := isOf hZ e8 E_EMPTY_NODE
    obtain ⟨_, _, ⟨T9, L9, k9, n9⟩, -, X9, ⟨Lc9, hQ9, l9, y9, z9⟩, st9⟩ := X8.virtualBack hx (y := (⟨"com/example/tokenweave/tokenweave/model/LineKind", "hasFields", "()Z"⟩ : MethodName)) (z := (⟨"com/example/tokenweave/tokenweave/model/LineKind", "hasFields", "()Z"⟩ : MethodName)) hown (mvT hZ (hw _ (List.mem_of_getElem? (i := 20) rfl))) (mvT hZ (hw _ (List.mem_of_getElem? (i := 21) rfl))) (notFace_of_selects (args := #[]) (mvT hZ (hw _ (List.mem_of_getElem? (i := 23) rfl)))) (mvT hZ (hw _ (List.mem_of_getElem? (i := 23) rfl))) (mvT hZ (hw _ (List.mem_of_getElem? (i := 22) rfl))) (by decide) (backOf (W := 0) (own_rH l Z a0 hw [] a_EMPTY_NODE a_TOKEN a_MULTIWORD_TOKEN a_EMPTY_NODE a_COVERED_WORD h0 n0 Z0 S_TOKEN S_MULTIWORD_TOKEN S_EMPTY_NODE S_COVERED_WORD E_EMPTY_NODE ne_2_0 (by simp [own_car, ne_2_1, ne_2_3])) hZ (hw _ (List.mem_of_getElem? (i := 24) rfl)) (hw _ (List.mem_of_getElem? (i := 6) rfl)) (by decide) (by decide)) q9a q9c (g := (mkF m 54 #[.val (.int xp), .val (.int (2 : Int32)), .val (.ref a_EMPTY_NODE), .val (.int (1 : Int32)), .val (.int (1 : Int32))] [(.ref a_EMPTY_NODE)])) rfl (by rw [hml]; rfl) (Steps.refl _) (argsL := []) (rest := []) (lenOf own_pd0 rfl) rfl (by show 2 * 0 + _ ≤ _; exact Nat.le_of_eq rfl) (hb hby at_54) (fun _ _ => ⟨rfl, e8, (by decide : 0 + 0 ≤ _), (by decide : 0 + 0 ≤ _)⟩)
    dsimp only [Pt.U, Pt.locs, Pt.cells, Pt.slots] at X9 l9 y9 z9 st9 hQ9
    subst l9 y9 z9
    obtain ⟨rfl, N9q, e9⟩ := hQ9
    have N9 := Fr.app N8 N9q
    refine own_goT (T' := T9) (g' := (mkF m 57 #[.val (.int xp), .val (.int (2 : Int32)), .val (.ref a_EMPTY_NODE), .val (.int (1 : Int32)), .val (.int (1 : Int32))] [(.int (1 : Int32))])) st9 ?_
    refine own_go (T' := T9) (g' := (mkF m 60 #[.val (.int xp), .val (.int (2 : Int32)), .val (.ref a_EMPTY_NODE), .val (.int (1 : Int32)), .val (.int (1 : Int32))] [])) (fun _ k => XS.ifNo X9.here hx rfl (hb hby at_57) rfl ((if0 _ _).trans (feq ((by decide) : ¬ ((1 : Int32) = (0 : Int32)))).1) k) ?_
    refine own_go (T' := T9) (g' := (mkF m 61 #[.val (.int xp), .val (.int (2 : Int32)), .val (.ref a_EMPTY_NODE), .val (.int (1 : Int32)), .val (.int (1 : Int32))] [(.ref a_EMPTY_NODE)])) (fun _ k => XS.aloadN X9.here hx rfl (hb hby at_60) rfl rfl k) ?_
    obtain ⟨T10, X10, e10, st10⟩ := getS X9 hx hZ (host := "") hown (hw _ (List.mem_of_getElem? (i := 5) rfl)) Via.refl e9 S_TOKEN (g := (mkF m 61 #[.val (.int xp), .val (.int (2 : Int32)), .val (.ref a_EMPTY_NODE), .val (.int (1 : Int32)), .val (.int (1 : Int32))] [(.ref a_EMPTY_NODE)])) rfl (hb hby at_61)
    refine own_go (T' := T10) (g' := (mkF m 64 #[.val (.int xp), .val (.int (2 : Int32)), .val (.ref a_EMPTY_NODE), .val (.int (1 : Int32)), .val (.int (1 : Int32))] [(.ref a_TOKEN), (.ref a_EMPTY_NODE)])) (fun _ k => st10 _ k) ?_
    refine own_go (T' := T10) (g' := (mkF m 69 #[.val (.int xp), .val (.int (2 : Int32)), .val (.ref a_EMPTY_NODE), .val (.int (1 : Int32)), .val (.int (1 : Int32))] [])) (fun _ k => Jvm.RoadKit.acmp (g := (mkF m 64 #[.val (.int xp), .val (.int (2 : Int32)), .val (.ref a_EMPTY_NODE), .val (.int (1 : Int32)), .val (.int (1 : Int32))] [(.ref a_TOKEN), (.ref a_EMPTY_NODE)])) X10 hx rfl rfl rfl (pc0 := 64) (pc' := 69) (same := false) rfl (hb hby at_64) rfl (decide_eq_false fun q => ne_2_0 (Value.ref.inj q)) (by decide) (by decide) k) ?_
    refine own_go (T' := T10) (g' := (mkF m 70 #[.val (.int xp), .val (.int (2 : Int32)), .val (.ref a_EMPTY_NODE), .val (.int (1 : Int32)), .val (.int (1 : Int32))] [(.int (1 : Int32))])) (fun _ k => XS.iconst X10.here hx rfl (hb hby at_69) k) ?_
    obtain ⟨fs, hr, hrun, hended, hW, hsame⟩ := X10.leave (v := some (.int (1 : Int32))) (fun h => by rw [Bd.returns] at h; cases h)
    refine own_end (retN X10 hx (t := .boolean) Bd.returns (by simp) (hb hby at_70) hr) hrun hended ⟨_, _, rfl, (?_ : own_QL Z xp a_TOKEN a_MULTIWORD_TOKEN a_EMPTY_NODE a_COVERED_WORD a_COMMENT a_DOCUMENT_START a_BLANK h0 n0 _ T10.heap _), ⟨_, rfl⟩, hW, hsame.mono (by decide) (by decide)⟩
    rw [e10]
    exact ⟨rfl, N9⟩
  · rw [hk]
    refine own_go (T' := s₁) (g' := (mkF m 9 #[.val (.int xp), .val (.int (3 : Int32)), .unset, .unset, .unset] [(.int (3 : Int32))])) (fun _ k => XS.iloadN X0.here hx rfl (hb hby at_8) rfl k) ?_
    obtain ⟨_, _, ⟨T11, L11, k11, n11⟩, -, X11, ⟨Lc11, hQ11, l11, y11, z11⟩, st11⟩ := Jvm.LawKit.callS X0 hx (y := (⟨"com/example/tokenweave/tokenweave/model/LineKindIsCarriedPinLaw", "kindAt", "(I)Lcom/example/tokenweave/tokenweave/model/LineKind;"⟩ : MethodName)) hown (mvT hZ (hw _ (List.mem_of_getElem? (i := 1) rfl))) (mvT hZ (hw _ (List.mem_of_getElem? (i := 2) rfl))) (mvT hZ (hw _ (List.mem_of_getElem? (i := 3) rfl))) (mvT hZ (hw _ (List.mem_of_getElem? (i := 4) rfl))) (by decide) (backOf (W := 0) (own_rK l Z a0 hw [] (3 : Int32) a_TOKEN a_MULTIWORD_TOKEN a_EMPTY_NODE a_COVERED_WORD a_BLANK a_COMMENT a_DOCUMENT_START a_COVERED_WORD h0 n0 Z0 S_TOKEN S_MULTIWORD_TOKEN S_EMPTY_NODE S_COVERED_WORD S_BLANK S_COMMENT S_DOCUMENT_START (by simp [own_kind])) hZ (hw _ (List.mem_of_getElem? (i := 4) rfl)) (hw _ (List.mem_of_getElem? (i := 3) rfl)) (by decide) (by decide)) (g := (mkF m 9 #[.val (.int xp), .val (.int (3 : Int32)), .unset, .unset, .unset] [(.int (3 : Int32))])) rfl (by rw [hml]; rfl) (argsL := [(.int (3 : Int32))]) (rest := []) (lenOf own_pd1 rfl) rfl (by show 2 * 0 + _ ≤ _; exact Nat.le_of_eq rfl) (hb hby at_9) (fun _ _ => ⟨rfl, e0, (by decide : 0 + 0 ≤ _), (by decide : 0 + 0 ≤ _)⟩)
    dsimp only [Pt.U, Pt.locs, Pt.cells, Pt.slots] at X11 l11 y11 z11 st11 hQ11
    subst l11 y11 z11
    obtain ⟨rfl, N11q, e11⟩ := hQ11
    have N11 := Fr.app N0 N11q
    refine own_go (T' := T11) (g' := (mkF m 12 #[.val (.int xp), .val (.int (3 : Int32)), .unset, .unset, .unset] [(.ref a_COVERED_WORD)])) (fun _ k => st11 _ k) ?_
    refine own_go (T' := T11) (g' := (mkF m 13 #[.val (.int xp), .val (.int (3 : Int32)), .val (.ref a_COVERED_WORD), .unset, .unset] [])) (fun _ k => XS.astoreN X11.here hx rfl (hb hby at_12) rfl rfl (l' := #[.val (.int xp), .val (.int (3 : Int32)), .val (.ref a_COVERED_WORD), .unset, .unset]) rfl k) ?_
    refine own_go (T' := T11) (g' := (mkF m 14 #[.val (.int xp), .val (.int (3 : Int32)), .val (.ref a_COVERED_WORD), .unset, .unset] [(.int (3 : Int32))])) (fun _ k => XS.iloadN X11.here hx rfl (hb hby at_13) rfl k) ?_
    refine own_go (T' := T11) (g' := (mkF m 15 #[.val (.int xp), .val (.int (3 : Int32)), .val (.ref a_COVERED_WORD), .unset, .unset] [(.int (1 : Int32)), (.int (3 : Int32))])) (fun _ k => XS.iconst X11.here hx rfl (hb hby at_14) k) ?_
    refine own_go (T' := T11) (g' := (mkF m 18 #[.val (.int xp), .val (.int (3 : Int32)), .val (.ref a_COVERED_WORD), .unset, .unset] [])) (fun _ k => XS.icmpNo X11.here hx rfl (hb hby at_15) rfl (feq ((by decide) : ¬ ((3 : Int32) = (1 : Int32)))).1 k) ?_
    refine own_go (T' := T11) (g' := (mkF m 19 #[.val (.int xp), .val (.int (3 : Int32)), .val (.ref a_COVERED_WORD), .unset, .unset] [(.int (3 : Int32))])) (fun _ k => XS.iloadN X11.here hx rfl (hb hby at_18) rfl k) ?_
    refine own_go (T' := T11) (g' := (mkF m 20 #[.val (.int xp), .val (.int (3 : Int32)), .val (.ref a_COVERED_WORD), .unset, .unset] [(.int (2 : Int32)), (.int (3 : Int32))])) (fun _ k => XS.iconst X11.here hx rfl (hb hby at_19) k) ?_
    refine own_go (T' := T11) (g' := (mkF m 23 #[.val (.int xp), .val (.int (3 : Int32)), .val (.ref a_COVERED_WORD), .unset, .unset] [])) (fun _ k => XS.icmpNo X11.here hx rfl (hb hby at_20) rfl (feq ((by decide) : ¬ ((3 : Int32) = (2 : Int32)))).1 k) ?_
    refine own_go (T' := T11) (g' := (mkF m 24 #[.val (.int xp), .val (.int (3 : Int32)), .val (.ref a_COVERED_WORD), .unset, .unset] [(.int (3 : Int32))])) (fun _ k => XS.iloadN X11.here hx rfl (hb hby at_23) rfl k) ?_
    refine own_go (T' := T11) (g' := (mkF m 25 #[.val (.int xp), .val (.int (3 : Int32)), .val (.ref a_COVERED_WORD), .unset, .unset] [(.int (3 : Int32)), (.int (3 : Int32))])) (fun _ k => XS.iconst X11.here hx rfl (hb hby at_24) k) ?_
    refine own_go (T' := T11) (g' := (mkF m 28 #[.val (.int xp), .val (.int (3 : Int32)), .val (.ref a_COVERED_WORD), .unset, .unset] [])) (fun _ k => XS.icmpNo X11.here hx rfl (hb hby at_25) rfl (teq ((by decide) : (3 : Int32) = (3 : Int32))).2 k) ?_
    refine own_go (T' := T11) (g' := (mkF m 29 #[.val (.int xp), .val (.int (3 : Int32)), .val (.ref a_COVERED_WORD), .unset, .unset] [(.int (1 : Int32))])) (fun _ k => XS.iconst X11.here hx rfl (hb hby at_28) k) ?_
    refine own_go (T' := T11) (g' := (mkF m 33 #[.val (.int xp), .val (.int (3 : Int32)), .val (.ref a_COVERED_WORD), .unset, .unset] [(.int (1 : Int32))])) (fun _ k => XS.goto X11.here hx rfl (pc0 := 29) (pc' := 33) rfl (hb hby at_29) (by decide) (by decide) k) ?_
    refine own_go (T' := T11) (g' := (mkF m 34 #[.val (.int xp), .val (.int (3 : Int32)), .val (.ref a_COVERED_WORD), .val (.int (1 : Int32)), .unset] [])) (fun _ k => XS.istoreN X11.here hx rfl (hb hby at_33) rfl (l' := #[.val (.int xp), .val (.int (3 : Int32)), .val (.ref a_COVERED_WORD), .val (.int (1 : Int32)), .unset]) rfl k) ?_
    refine own_go (T' := T11) (g' := (mkF m 35 #[.val (.int xp), .val (.int (3 : Int32)), .val (.ref a_COVERED_WORD), .val (.int (1 : Int32)), .unset] [(.ref a_COVERED_WORD)])) (fun _ k => XS.aloadN X11.here hx rfl (hb hby at_34) rfl rfl k) ?_
    obtain ⟨cq12, kq12, q12a, q12b, q12c⟩ := isOf hZ e11 E_COVERED_WORD
    obtain ⟨_, _, ⟨T12, L12, k12, n12⟩, -, X12, ⟨Lc12, hQ12, l12, y12, z12⟩, st12⟩ := X11.virtualBack hx (y := (⟨"com/example/tokenweave/tokenweave/model/LineKind", "isCarried", "()Z"⟩ : MethodName)) (z := (⟨"com/example/tokenweave/tokenweave/model/LineKind", "isCarried", "()Z"⟩ : MethodName)) hown (mvT hZ (hw _ (List.mem_of_getElem? (i := 8) rfl))) (mvT hZ (hw _ (List.mem_of_getElem? (i := 9) rfl))) (notFace_of_selects (args := #[]) (mvT hZ (hw _ (List.mem_of_getElem? (i := 11) rfl)))) (mvT hZ (hw _ (List.mem_of_getElem? (i := 11) rfl))) (mvT hZ (hw _ (List.mem_of_getElem? (i := 10) rfl))) (by decide) (backOf (W := 0) (own_rC l Z a0 hw [] a_COVERED_WORD a_MULTIWORD_TOKEN a_EMPTY_NODE a_COVERED_WORD (1 : Int32) h0 n0 Z0 S_MULTIWORD_TOKEN S_EMPTY_NODE S_COVERED_WORD (by simp [own_car, ne_3_1, ne_3_2])) hZ (hw _ (List.mem_of_getElem? (i := 12) rfl)) (hw _ (List.mem_of_getElem? (i := 6) rfl)) (by decide) (by decide)) q12a q12c (g := (mkF m 35 #[.val (.int xp), .val (.int (3 : Int32)), .val (.ref a_COVERED_WORD), .val (.int (1 : Int32)), .unset] [(.ref a_COVERED_WORD)])) rfl (by rw [hml]; rfl) (Steps.refl _) (argsL := []) (rest := []) (lenOf own_pd0 rfl) rfl (by show 2 * 0 + _ ≤ _; exact Nat.le_of_eq rfl) (hb hby at_35) (fun _ _ => ⟨rfl, e11, (by decide : 0 + 0 ≤ _), (by decide : 0 + 0 ≤ _)⟩)
    dsimp only [Pt.U, Pt.locs, Pt.cells, Pt.slots] at X12 l12 y12 z12 st12 hQ12
    subst l12 y12 z12
    obtain ⟨rfl, N12q, e12⟩ := hQ12
    have N12 := Fr.app N11 N12q
    refine own_goT (T' := T12) (g' := (mkF m 38 #[.val (.int xp), .val (.int (3 : Int32)), .val (.ref a_COVERED_WORD), .val (.int (1 : Int32)), .unset] [(.int (1 : Int32))])) st12 ?_
    refine own_go (T' := T12) (g' := (mkF m 40 #[.val (.int xp), .val (.int (3 : Int32)), .val (.ref a_COVERED_WORD), .val (.int (1 : Int32)), .val (.int (1 : Int32))] [])) (fun _ k => XS.istore X12.here hx rfl (hb hby at_38) rfl (l' := #[.val (.int xp), .val (.int (3 : Int32)), .val (.ref a_COVERED_WORD), .val (.int (1 : Int32)), .val (.int (1 : Int32))]) rfl k) ?_
    refine own_go (T' := T12) (g' := (mkF m 42 #[.val (.int xp), .val (.int (3 : Int32)), .val (.ref a_COVERED_WORD), .val (.int (1 : Int32)), .val (.int (1 : Int32))] [(.int (1 : Int32))])) (fun _ k => XS.iload X12.here hx rfl (hb hby at_40) rfl k) ?_
    refine own_go (T' := T12) (g' := (mkF m 43 #[.val (.int xp), .val (.int (3 : Int32)), .val (.ref a_COVERED_WORD), .val (.int (1 : Int32)), .val (.int (1 : Int32))] [(.int (1 : Int32)), (.int (1 : Int32))])) (fun _ k => XS.iloadN X12.here hx rfl (hb hby at_42) rfl k) ?_
    refine own_go (T' := T12) (g' := (mkF m 48 #[.val (.int xp), .val (.int (3 : Int32)), .val (.ref a_COVERED_WORD), .val (.int (1 : Int32)), .val (.int (1 : Int32))] [])) (fun _ k => XS.icmpYes X12.here hx rfl (pc0 := 43) (pc' := 48) rfl (hb hby at_43) rfl (teq ((by decide) : (1 : Int32) = (1 : Int32))).1 (by decide) (by decide) k) ?_
    refine own_go (T' := T12) (g' := (mkF m 50 #[.val (.int xp), .val (.int (3 : Int32)), .val (.ref a_COVERED_WORD), .val (.int (1 : Int32)), .val (.int (1 : Int32))] [(.int (1 : Int32))])) (fun _ k => XS.iload X12.here hx rfl (hb hby at_48) rfl k) ?_
    refine own_go (T' := T12) (g' := (mkF m 53 #[.val (.int xp), .val (.int (3 : Int32)), .val (.ref a_COVERED_WORD), .val (.int (1 : Int32)), .val (.int (1 : Int32))] [])) (fun _ k => XS.ifNo X12.here hx rfl (hb hby at_50) rfl ((if0 _ _).trans (feq ((by decide) : ¬ ((1 : Int32) = (0 : Int32)))).1) k) ?_
    refine own_go (T' := T12) (g' := (mkF m 54 #[.val (.int xp), .val (.int (3 : Int32)), .val (.ref a_COVERED_WORD), .val (.int (1 : Int32)), .val (.int (1 : Int32))] [(.ref a_COVERED_WORD)])) (fun _ k => XS.aloadN X12.here hx rfl (hb hby at_53) rfl rfl k) ?_
    obtain ⟨cq13, kq13, q13a, q13b, q13c⟩ := isOf hZ e12 E_COVERED_WORD
    obtain ⟨_, _, ⟨T13, L13, k13, n13⟩, -, X13, ⟨Lc13, hQ13, l13, y13, z13⟩, st13⟩ := X12.virtualBack hx (y := (⟨"com/example/tokenweave/tokenweave/model/LineKind", "hasFields", "()Z"⟩ : MethodName)) (z := (⟨"com/example/tokenweave/tokenweave/model/LineKind", "hasFields", "()Z"⟩ : MethodName)) hown (mvT hZ (hw _ (List.mem_of_getElem? (i := 20) rfl))) (mvT hZ (hw _ (List.mem_of_getElem? (i := 21) rfl))) (notFace_of_selects (args := #[]) (mvT hZ (hw _ (List.mem_of_getElem? (i := 23) rfl)))) (mvT hZ (hw _ (List.mem_of_getElem? (i := 23) rfl))) (mvT hZ (hw _ (List.mem_of_getElem? (i := 22) rfl))) (by decide) (backOf (W := 0) (own_rH l Z a0 hw [] a_COVERED_WORD a_TOKEN a_MULTIWORD_TOKEN a_EMPTY_NODE a_COVERED_WORD h0 n0 Z0 S_TOKEN S_MULTIWORD_TOKEN S_EMPTY_NODE S_COVERED_WORD E_COVERED_WORD ne_3_0 (by simp [own_car, ne_3_1, ne_3_2])) hZ (hw _ (List.mem_of_getElem? (i := 24) rfl)) (hw _ (List.mem_of_getElem? (i := 6) rfl)) (by decide) (by decide)) q13a q13c (g := (mkF m 54 #[.val (.int xp), .val (.int (3 : Int32)), .val (.ref a_COVERED_WORD), .val (.int (1 : Int32)), .val (.int (1 : Int32))] [(.ref a_COVERED_WORD)])) rfl (by rw [hml]; rfl) (Steps.refl _) (argsL := []) (rest := []) (lenOf own_pd0 rfl) rfl (by show 2 * 0 + _ ≤ _; exact Nat.le_of_eq rfl) (hb hby at_54) (fun _ _ => ⟨rfl, e12, (by decide : 0 + 0 ≤ _), (by decide : 0 + 0 ≤ _)⟩)
    dsimp only [Pt.U, Pt.locs, Pt.cells, Pt.slots] at X13 l13 y13 z13 st13 hQ13
    subst l13 y13 z13
    obtain ⟨rfl, N13q, e13⟩ := hQ13
    have N13 := Fr.app N12 N13q
    refine own_goT (T' := T13) (g' := (mkF m 57 #[.val (.int xp), .val (.int (3 : Int32)), .val (.ref a_COVERED_WORD), .val (.int (1 : Int32)), .val (.int (1 : Int32))] [(.int (1 : Int32))])) st13 ?_
    refine own_go (T' := T13) (g' := (mkF m 60 #[.val (.int xp), .val (.int (3 : Int32)), .val (.ref a_COVERED_WORD), .val (.int (1 : Int32)), .val (.int (1 : Int32))] [])) (fun _ k => XS.ifNo X13.here hx rfl (hb hby at_57) rfl ((if0 _ _).trans (feq ((by decide) : ¬ ((1 : Int32) = (0 : Int32)))).1) k) ?_
    refine own_go (T' := T13) (g' := (mkF m 61 #[.val (.int xp), .val (.int (3 : Int32)), .val (.ref a_COVERED_WORD), .val (.int (1 : Int32)), .val (.int (1 : Int32))] [(.ref a_COVERED_WORD)])) (fun _ k => XS.aloadN X13.here hx rfl (hb hby at_60) rfl rfl k) ?_
    obtain ⟨T14, X14, e14, st14⟩ := getS X13 hx hZ (host := "") hown (hw _ (List.mem_of_getElem? (i := 5) rfl)) Via.refl e13 S_TOKEN (g := (mkF m 61 #[.val (.int xp), .val (.int (3 : Int32)), .val (.ref a_COVERED_WORD), .val (.int (1 : Int32)), .val (.int (1 : Int32))] [(.ref a_COVERED_WORD)])) rfl (hb hby at_61)
    refine own_go (T' := T14) (g' := (mkF m 64 #[.val (.int xp), .val (.int (3 : Int32)), .val (.ref a_COVERED_WORD), .val (.int (1 : Int32)), .val (.int (1 : Int32))] [(.ref a_TOKEN), (.ref a_COVERED_WORD)])) (fun _ k => st14 _ k) ?_
    refine own_go (T' := T14) (g' := (mkF m 69 #[.val (.int xp), .val (.int (3 : Int32)), .val (.ref a_COVERED_WORD), .val (.int (1 : Int32)), .val (.int (1 : Int32))] [])) (fun _ k => Jvm.RoadKit.acmp (g := (mkF m 64 #[.val (.int xp), .val (.int (3 : Int32)), .val (.ref a_COVERED_WORD), .val (.int (1 : Int32)), .val (.int (1 : Int32))] [(.ref a_TOKEN), (.ref a_COVERED_WORD)])) X14 hx rfl rfl rfl (pc0 := 64) (pc' := 69) (same := false) rfl (hb hby at_64) rfl (decide_eq_false fun q => ne_3_0 (Value.ref.inj q)) (by decide) (by decide) k) ?_
    refine own_go (T' := T14) (g' := (mkF m 70 #[.val (.int xp), .val (.int (3 : Int32)), .val (.ref a_COVERED_WORD), .val (.int (1 : Int32)), .val (.int (1 : Int32))] [(.int (1 : Int32))])) (fun _ k => XS.iconst X14.here hx rfl (hb hby at_69) k) ?_
    obtain ⟨fs, hr, hrun, hended, hW, hsame⟩ := X14.leave (v := some (.int (1 : Int32))) (fun h => by rw [Bd.returns] at h; cases h)
    refine own_end (retN X14 hx (t := .boolean) Bd.returns (by simp) (hb hby at_70) hr) hrun hended ⟨_, _, rfl, (?_ : own_QL Z xp a_TOKEN a_MULTIWORD_TOKEN a_EMPTY_NODE a_COVERED_WORD a_COMMENT a_DOCUMENT_START a_BLANK h0 n0 _ T14.heap _), ⟨_, rfl⟩, hW, hsame.mono (by decide) (by decide)⟩
    rw [e14]
    exact ⟨rfl, N13⟩
  · rw [hk]
    refine own_go (T' := s₁) (g' := (mkF m 9 #[.val (.int xp), .val (.int (4 : Int32)), .unset, .unset, .unset] [(.int (4 : Int32))])) (fun _ k => XS.iloadN X0.here hx rfl (hb hby at_8) rfl k) ?_
    obtain ⟨_, _, ⟨T15, L15, k15, n15⟩, -, X15, ⟨Lc15, hQ15, l15, y15, z15⟩, st15⟩ := Jvm.LawKit.callS X0 hx (y := (⟨"com/example/tokenweave/tokenweave/model/LineKindIsCarriedPinLaw", "kindAt", "(I)Lcom/example/tokenweave/tokenweave/model/LineKind;"⟩ : MethodName)) hown (mvT hZ (hw _ (List.mem_of_getElem? (i := 1) rfl))) (mvT hZ (hw _ (List.mem_of_getElem? (i := 2) rfl))) (mvT hZ (hw _ (List.mem_of_getElem? (i := 3) rfl))) (mvT hZ (hw _ (List.mem_of_getElem? (i := 4) rfl))) (by decide) (backOf (W := 0) (own_rK l Z a0 hw [] (4 : Int32) a_TOKEN a_MULTIWORD_TOKEN a_EMPTY_NODE a_COVERED_WORD a_BLANK a_COMMENT a_DOCUMENT_START a_BLANK h0 n0 Z0 S_TOKEN S_MULTIWORD_TOKEN S_EMPTY_NODE S_COVERED_WORD S_BLANK S_COMMENT S_DOCUMENT_START (by simp [own_kind])) hZ (hw _ (List.mem_of_getElem? (i := 4) rfl)) (hw _ (List.mem_of_getElem? (i := 3) rfl)) (by decide) (by decide)) (g := (mkF m 9 #[.val (.int xp), .val (.int (4 : Int32)), .unset, .unset, .unset] [(.int (4 : Int32))])) rfl (by rw [hml]; rfl) (argsL := [(.int (4 : Int32))]) (rest := []) (lenOf own_pd1 rfl) rfl (by show 2 * 0 + _ ≤ _; exact Nat.le_of_eq rfl) (hb hby at_9) (fun _ _ => ⟨rfl, e0, (by decide : 0 + 0 ≤ _), (by decide : 0 + 0 ≤ _)⟩)
    dsimp only [Pt.U, Pt.locs, Pt.cells, Pt.slots] at X15 l15 y15 z15 st15 hQ15
    subst l15 y15 z15
    obtain ⟨rfl, N15q, e15⟩ := hQ15
    have N15 := Fr.app N0 N15q
    refine own_go (T' := T15) (g' := (mkF m 12 #[.val (.int xp), .val (.int (4 : Int32)), .unset, .unset, .unset] [(.ref a_BLANK)])) (fun _ k => st15 _ k) ?_
    refine own_go (T' := T15) (g' := (mkF m 13 #[.val (.int xp), .val (.int (4 : Int32)), .val (.ref a_BLANK), .unset, .unset] [])) (fun _ k => XS.astoreN X15.here hx rfl (hb hby at_12) rfl rfl (l' := #[.val (.int xp), .val (.int (4 : Int32)), .val (.ref a_BLANK), .unset, .unset]) rfl k) ?_
    refine own_go (T' := T15) (g' := (mkF m 14 #[.val (.int xp), .val (.int (4 : Int32)), .val (.ref a_BLANK), .unset, .unset] [(.int (4 : Int32))])) (fun _ k => XS.iloadN X15.here hx rfl (hb hby at_13) rfl k) ?_
    refine own_go (T' := T15) (g' := (mkF m 15 #[.val (.int xp), .val (.int (4 : Int32)), .val (.ref a_BLANK), .unset, .unset] [(.int (1 : Int32)), (.int (4 : Int32))])) (fun _ k => XS.iconst X15.here hx rfl (hb hby at_14) k) ?_
    refine own_go (T' := T15) (g' := (mkF m 18 #[.val (.int xp), .val (.int (4 : Int32)), .val (.ref a_BLANK), .unset, .unset] [])) (fun _ k => XS.icmpNo X15.here hx rfl (hb hby at_15) rfl (feq ((by decide) : ¬ ((4 : Int32) = (1 : Int32)))).1 k) ?_
    refine own_go (T' := T15) (g' := (mkF m 19 #[.val (.int xp), .val (.int (4 : Int32)), .val (.ref a_BLANK), .unset, .unset] [(.int (4 : Int32))])) (fun _ k => XS.iloadN X15.here hx rfl (hb hby at_18) rfl k) ?_
    refine own_go (T' := T15) (g' := (mkF m 20 #[.val (.int xp), .val (.int (4 : Int32)), .val (.ref a_BLANK), .unset, .unset] [(.int (2 : Int32)), (.int (4 : Int32))])) (fun _ k => XS.iconst X15.here hx rfl (hb hby at_19) k) ?_
    refine own_go (T' := T15) (g' := (mkF m 23 #[.val (.int xp), .val (.int (4 : Int32)), .val (.ref a_BLANK), .unset, .unset] [])) (fun _ k => XS.icmpNo X15.here hx rfl (hb hby at_20) rfl (feq ((by decide) : ¬ ((4 : Int32) = (2 : Int32)))).1 k) ?_
    refine own_go (T' := T15) (g' := (mkF m 24 #[.val (.int xp), .val (.int (4 : Int32)), .val (.ref a_BLANK), .unset, .unset] [(.int (4 : Int32))])) (fun _ k => XS.iloadN X15.here hx rfl (hb hby at_23) rfl k) ?_
    refine own_go (T' := T15) (g' := (mkF m 25 #[.val (.int xp), .val (.int (4 : Int32)), .val (.ref a_BLANK), .unset, .unset] [(.int (3 : Int32)), (.int (4 : Int32))])) (fun _ k => XS.iconst X15.here hx rfl (hb hby at_24) k) ?_
    refine own_go (T' := T15) (g' := (mkF m 32 #[.val (.int xp), .val (.int (4 : Int32)), .val (.ref a_BLANK), .unset, .unset] [])) (fun _ k => XS.icmpYes X15.here hx rfl (pc0 := 25) (pc' := 32) rfl (hb hby at_25) rfl (feq ((by decide) : ¬ ((4 : Int32) = (3 : Int32)))).2 (by decide) (by decide) k) ?_
    refine own_go (T' := T15) (g' := (mkF m 33 #[.val (.int xp), .val (.int (4 : Int32)), .val (.ref a_BLANK), .unset, .unset] [(.int (0 : Int32))])) (fun _ k => XS.iconst X15.here hx rfl (hb hby at_32) k) ?_
    refine own_go (T' := T15) (g' := (mkF m 34 #[.val (.int xp), .val (.int (4 : Int32)), .val (.ref a_BLANK), .val (.int (0 : Int32)), .unset] [])) (fun _ k => XS.istoreN X15.here hx rfl (hb hby at_33) rfl (l' := #[.val (.int xp), .val (.int (4 : Int32)), .val (.ref a_BLANK), .val (.int (0 : Int32)), .unset]) rfl k) ?_
    refine own_go (T' := T15) (g' := (mkF m 35 #[.val (.int xp), .val (.int (4 : Int32)), .val (.ref a_BLANK), .val (.int (0 : Int32)), .unset] [(.ref a_BLANK)])) (fun _ k => XS.aloadN X15.here hx rfl (hb hby at_34) rfl rfl k) ?_
    obtain ⟨cq16, kq16, q16a, q16b, q16c⟩ := isOf hZ e15 E_BLANK
    obtain ⟨_, _, ⟨T16, L16, k16, n16⟩, -, X16, ⟨Lc16, hQ16, l16, y16, z16⟩, st16⟩ := X15.virtualBack hx (y := (⟨"com/example/tokenweave/tokenweave/model/LineKind", "isCarried", "()Z"⟩ : MethodName)) (z := (⟨"com/example/tokenweave/tokenweave/model/LineKind", "isCarried", "()Z"⟩ : MethodName)) hown (mvT hZ (hw _ (List.mem_of_getElem? (i := 8) rfl))) (mvT hZ (hw _ (List.mem_of_getElem? (i := 9) rfl))) (notFace_of_selects (args := #[]) (mvT hZ (hw _ (List.mem_of_getElem? (i := 11) rfl)))) (mvT hZ (hw _ (List.mem_of_getElem? (i := 11) rfl))) (mvT hZ (hw _ (List.mem_of_getElem? (i := 10) rfl))) (by decide) (backOf (W := 0) (own_rC l Z a0 hw [] a_BLANK a_MULTIWORD_TOKEN a_EMPTY_NODE a_COVERED_WORD (0 : Int32) h0 n0 Z0 S_MULTIWORD_TOKEN S_EMPTY_NODE S_COVERED_WORD (by simp [own_car, ne_4_1, ne_4_2, ne_4_3])) hZ (hw _ (List.mem_of_getElem? (i := 12) rfl)) (hw _ (List.mem_of_getElem? (i := 6) rfl)) (by decide) (by decide)) q16a q16c (g := (mkF m 35 #[.val (.int xp), .val (.int (4 : Int32)), .val (.ref a_BLANK), .val (.int (0 : Int32)), .unset] [(.ref a_BLANK)])) rfl (by rw [hml]; rfl) (Steps.refl _) (argsL := []) (rest := []) (lenOf own_pd0 rfl) rfl (by show 2 * 0 + _ ≤ _; exact Nat.le_of_eq rfl) (hb hby at_35) (fun _ _ => ⟨rfl, e15, (by decide : 0 + 0 ≤ _), (by decide : 0 + 0 ≤ _)⟩)
    dsimp only [Pt.U, Pt.locs, Pt.cells, Pt.slots] at X16 l16 y16 z16 st16 hQ16
    subst l16 y16 z16
    obtain ⟨rfl, N16q, e16⟩ := hQ16
    have N16 := Fr.app N15 N16q
    refine own_goT (T' := T16) (g' := (mkF m 38 #[.val (.int xp), .val (.int (4 : Int32)), .val (.ref a_BLANK), .val (.int (0 : Int32)), .unset] [(.int (0 : Int32))])) st16 ?_
    refine own_go (T' := T16) (g' := (mkF m 40 #[.val (.int xp), .val (.int (4 : Int32)), .val (.ref a_BLANK), .val (.int (0 : Int32)), .val (.int (0 : Int32))] [])) (fun _ k => XS.istore X16.here hx rfl (hb hby at_38) rfl (l' := #[.val (.int xp), .val (.int (4 : Int32)), .val (.ref a_BLANK), .val (.int (0 : Int32)), .val (.int (0 : Int32))]) rfl k) ?_
    refine own_go (T' := T16) (g' := (mkF m 42 #[.val (.int xp), .val (.int (4 : Int32)), .val (.ref a_BLANK), .val (.int (0 : Int32)), .val (.int (0 : Int32))] [(.int (0 : Int32))])) (fun _ k => XS.iload X16.here hx rfl (hb hby at_40) rfl k) ?_
    refine own_go (T' := T16) (g' := (mkF m 43 #[.val (.int xp), .val (.int (4 : Int32)), .val (.ref a_BLANK), .val (.int (0 : Int32)), .val (.int (0 : Int32))] [(.int (0 : Int32)), (.int (0 : Int32))])) (fun _ k => XS.iloadN X16.here hx rfl (hb hby at_42) rfl k) ?_
    refine own_go (T' := T16) (g' := (mkF m 48 #[.val (.int xp), .val (.int (4 : Int32)), .val (.ref a_BLANK), .val (.int (0 : Int32)), .val (.int (0 : Int32))] [])) (fun _ k => XS.icmpYes X16.here hx rfl (pc0 := 43) (pc' := 48) rfl (hb hby at_43) rfl (teq ((by decide) : (0 : Int32) = (0 : Int32))).1 (by decide) (by decide) k) ?_
    refine own_go (T' := T16) (g' := (mkF m 50 #[.val (.int xp), .val (.int (4 : Int32)), .val (.ref a_BLANK), .val (.int (0 : Int32)), .val (.int (0 : Int32))] [(.int (0 : Int32))])) (fun _ k => XS.iload X16.here hx rfl (hb hby at_48) rfl k) ?_
    refine own_go (T' := T16) (g' := (mkF m 69 #[.val (.int xp), .val (.int (4 : Int32)), .val (.ref a_BLANK), .val (.int (0 : Int32)), .val (.int (0 : Int32))] [])) (fun _ k => XS.ifYes X16.here hx rfl (pc0 := 50) (pc' := 69) rfl (hb hby at_50) rfl ((if0 _ _).trans (teq ((by decide) : (0 : Int32) = (0 : Int32))).1) (by decide) (by decide) k) ?_
    refine own_go (T' := T16) (g' := (mkF m 70 #[.val (.int xp), .val (.int (4 : Int32)), .val (.ref a_BLANK), .val (.int (0 : Int32)), .val (.int (0 : Int32))] [(.int (1 : Int32))])) (fun _ k => XS.iconst X16.here hx rfl (hb hby at_69) k) ?_
    obtain ⟨fs, hr, hrun, hended, hW, hsame⟩ := X16.leave (v := some (.int (1 : Int32))) (fun h => by rw [Bd.returns] at h; cases h)
    refine own_end (retN X16 hx (t := .boolean) Bd.returns (by simp) (hb hby at_70) hr) hrun hended ⟨_, _, rfl, (?_ : own_QL Z xp a_TOKEN a_MULTIWORD_TOKEN a_EMPTY_NODE a_COVERED_WORD a_COMMENT a_DOCUMENT_START a_BLANK h0 n0 _ T16.heap _), ⟨_, rfl⟩, hW, hsame.mono (by decide) (by decide)⟩
    rw [e16]
    exact ⟨rfl, N16⟩
  · rw [hk]
    refine own_go (T' := s₁) (g' := (mkF m 9 #[.val (.int xp), .val (.int (5 : Int32)), .unset, .unset, .unset] [(.int (5 : Int32))])) (fun _ k => XS.iloadN X0.here hx rfl (hb hby at_8) rfl k) ?_
    obtain ⟨_, _, ⟨T17, L17, k17, n17⟩, -, X17, ⟨Lc17, hQ17, l17, y17, z17⟩, st17⟩ := Jvm.LawKit.callS X0 hx (y := (⟨"com/example/tokenweave/tokenweave/model/LineKindIsCarriedPinLaw", "kindAt", "(I)Lcom/example/tokenweave/tokenweave/model/LineKind;"⟩ : MethodName)) hown (mvT hZ (hw _ (List.mem_of_getElem? (i := 1) rfl))) (mvT hZ (hw _ (List.mem_of_getElem? (i := 2) rfl))) (mvT hZ (hw _ (List.mem_of_getElem? (i := 3) rfl))) (mvT hZ (hw _ (List.mem_of_getElem? (i := 4) rfl))) (by decide) (backOf (W := 0) (own_rK l Z a0 hw [] (5 : Int32) a_TOKEN a_MULTIWORD_TOKEN a_EMPTY_NODE a_COVERED_WORD a_BLANK a_COMMENT a_DOCUMENT_START a_COMMENT h0 n0 Z0 S_TOKEN S_MULTIWORD_TOKEN S_EMPTY_NODE S_COVERED_WORD S_BLANK S_COMMENT S_DOCUMENT_START (by simp [own_kind])) hZ (hw _ (List.mem_of_getElem? (i := 4) rfl)) (hw _ (List.mem_of_getElem? (i := 3) rfl)) (by decide) (by decide)) (g := (mkF m 9 #[.val (.int xp), .val (.int (5 : Int32)), .unset, .unset, .unset] [(.int (5 : Int32))])) rfl (by rw [hml]; rfl) (argsL := [(.int (5 : Int32))]) (rest := []) (lenOf own_pd1 rfl) rfl (by show 2 * 0 + _ ≤ _; exact Nat.le_of_eq rfl) (hb hby at_9) (fun _ _ => ⟨rfl, e0, (by decide : 0 + 0 ≤ _), (by decide : 0 + 0 ≤ _)⟩)
    dsimp only [Pt.U, Pt.locs, Pt.cells, Pt.slots] at X17 l17 y17 z17 st17 hQ17
    subst l17 y17 z17
    obtain ⟨rfl, N17q, e17⟩ := hQ17
    have N17 := Fr.app N0 N17q
    refine own_go (T' := T17) (g' := (mkF m 12 #[.val (.int xp), .val (.int (5 : Int32)), .unset, .unset, .unset] [(.ref a_COMMENT)])) (fun _ k => st17 _ k) ?_
    refine own_go (T' := T17) (g' := (mkF m 13 #[.val (.int xp), .val (.int (5 : Int32)), .val (.ref a_COMMENT), .unset, .unset] [])) (fun _ k => XS.astoreN X17.here hx rfl (hb hby at_12) rfl rfl (l' := #[.val (.int xp), .val (.int (5 : Int32)), .val (.ref a_COMMENT), .unset, .unset]) rfl k) ?_
    refine own_go (T' := T17) (g' := (mkF m 14 #[.val (.int xp), .val (.int (5 : Int32)), .val (.ref a_COMMENT), .unset, .unset] [(.int (5 : Int32))])) (fun _ k => XS.iloadN X17.here hx rfl (hb hby at_13) rfl k) ?_
    refine own_go (T' := T17) (g' := (mkF m 15 #[.val (.int xp), .val (.int (5 : Int32)), .val (.ref a_COMMENT), .unset, .unset] [(.int (1 : Int32)), (.int (5 : Int32))])) (fun _ k => XS.iconst X17.here hx rfl (hb hby at_14) k) ?_
    refine own_go (T' := T17) (g' := (mkF m 18 #[.val (.int xp), .val (.int (5 : Int32)), .val (.ref a_COMMENT), .unset, .unset] [])) (fun _ k => XS.icmpNo X17.here hx rfl (hb hby at_15) rfl (feq ((by decide) : ¬ ((5 : Int32) = (1 : Int32)))).1 k) ?_
    refine own_go (T' := T17) (g' := (mkF m 19 #[.val (.int xp), .val (.int (5 : Int32)), .val (.ref a_COMMENT), .unset, .unset] [(.int (5 : Int32))])) (fun _ k => XS.iloadN X17.here hx rfl (hb hby at_18) rfl k) ?_
    refine own_go (T' := T17) (g' := (mkF m 20 #[.val (.int xp), .val (.int (5 : Int32)), .val (.ref a_COMMENT), .unset, .unset] [(.int (2 : Int32)), (.int (5 : Int32))])) (fun _ k => XS.iconst X17.here hx rfl (hb hby at_19) k) ?_
    refine own_go (T' := T17) (g' := (mkF m 23 #[.val (.int xp), .val (.int (5 : Int32)), .val (.ref a_COMMENT), .unset, .unset] [])) (fun _ k => XS.icmpNo X17.here hx rfl (hb hby at_20) rfl (feq ((by decide) : ¬ ((5 : Int32) = (2 : Int32)))).1 k) ?_
    refine own_go (T' := T17) (g' := (mkF m 24 #[.val (.int xp), .val (.int (5 : Int32)), .val (.ref a_COMMENT), .unset, .unset] [(.int (5 : Int32))])) (fun _ k => XS.iloadN X17.here hx rfl (hb hby at_23) rfl k) ?_
    refine own_go (T' := T17) (g' := (mkF m 25 #[.val (.int xp), .val (.int (5 : Int32)), .val (.ref a_COMMENT), .unset, .unset] [(.int (3 : Int32)), (.int (5 : Int32))])) (fun _ k => XS.iconst X17.here hx rfl (hb hby at_24) k) ?_
    refine own_go (T' := T17) (g' := (mkF m 32 #[.val (.int xp), .val (.int (5 : Int32)), .val (.ref a_COMMENT), .unset, .unset] [])) (fun _ k => XS.icmpYes X17.here hx rfl (pc0 := 25) (pc' := 32) rfl (hb hby at_25) rfl (feq ((by decide) : ¬ ((5 : Int32) = (3 : Int32)))).2 (by decide) (by decide) k) ?_
    refine own_go (T' := T17) (g' := (mkF m 33 #[.val (.int xp), .val (.int (5 : Int32)), .val (.ref a_COMMENT), .unset, .unset] [(.int (0 : Int32))])) (fun _ k => XS.iconst X17.here hx rfl (hb hby at_32) k) ?_
    refine own_go (T' := T17) (g' := (mkF m 34 #[.val (.int xp), .val (.int (5 : Int32)), .val (.ref a_COMMENT), .val (.int (0 : Int32)), .unset] [])) (fun _ k => XS.istoreN X17.here hx rfl (hb hby at_33) rfl (l' := #[.val (.int xp), .val (.int (5 : Int32)), .val (.ref a_COMMENT), .val (.int (0 : Int32)), .unset]) rfl k) ?_
    refine own_go (T' := T17) (g' := (mkF m 35 #[.val (.int xp), .val (.int (5 : Int32)), .val (.ref a_COMMENT), .val (.int (0 : Int32)), .unset] [(.ref a_COMMENT)])) (fun _ k => XS.aloadN X17.here hx rfl (hb hby at_34) rfl rfl k) ?_
    obtain ⟨cq18, kq18, q18a, q18b, q18c⟩ := isOf hZ e17 E_COMMENT
    obtain ⟨_, _, ⟨T18, L18, k18, n18⟩, -, X18, ⟨Lc18, hQ18, l18, y18, z18⟩, st18⟩ := X17.virtualBack hx (y := (⟨"com/example/tokenweave/tokenweave/model/LineKind", "isCarried", "()Z"⟩ : MethodName)) (z := (⟨"com/example/tokenweave/tokenweave/model/LineKind", "isCarried", "()Z"⟩ : MethodName)) hown (mvT hZ (hw _ (List.mem_of_getElem? (i := 8) rfl))) (mvT hZ (hw _ (List.mem_of_getElem? (i := 9) rfl))) (notFace_of_selects (args := #[]) (mvT hZ (hw _ (List.mem_of_getElem? (i := 11) rfl)))) (mvT hZ (hw _ (List.mem_of_getElem? (i := 11) rfl))) (mvT hZ (hw _ (List.mem_of_getElem? (i := 10) rfl))) (by decide) (backOf (W := 0) (own_rC l Z a0 hw [] a_COMMENT a_MULTIWORD_TOKEN a_EMPTY_NODE a_COVERED_WORD (0 : Int32) h0 n0 Z0 S_MULTIWORD_TOKEN S_EMPTY_NODE S_COVERED_WORD (by simp [own_car, ne_5_1, ne_5_2, ne_5_3])) hZ (hw _ (List.mem_of_getElem? (i := 12) rfl)) (hw _ (List.mem_of_getElem? (i := 6) rfl)) (by decide) (by decide)) q18a q18c (g := (mkF m 35 #[.val (.int xp), .val (.int (5 : Int32)), .val (.ref a_COMMENT), .val (.int (0 : Int32)), .unset] [(.ref a_COMMENT)])) rfl (by rw [hml]; rfl) (Steps.refl _) (argsL := []) (rest := []) (lenOf own_pd0 rfl) rfl (by show 2 * 0 + _ ≤ _; exact Nat.le_of_eq rfl) (hb hby at_35) (fun _ _ => ⟨rfl, e17, (by decide : 0 + 0 ≤ _), (by decide : 0 + 0 ≤ _)⟩)
    dsimp only [Pt.U, Pt.locs, Pt.cells, Pt.slots] at X18 l18 y18 z18 st18 hQ18
    subst l18 y18 z18
    obtain ⟨rfl, N18q, e18⟩ := hQ18
    have N18 := Fr.app N17 N18q
    refine own_goT (T' := T18) (g' := (mkF m 38 #[.val (.int xp), .val (.int (5 : Int32)), .val (.ref a_COMMENT), .val (.int (0 : Int32)), .unset] [(.int (0 : Int32))])) st18 ?_
    refine own_go (T' := T18) (g' := (mkF m 40 #[.val (.int xp), .val (.int (5 : Int32)), .val (.ref a_COMMENT), .val (.int (0 : Int32)), .val (.int (0 : Int32))] [])) (fun _ k => XS.istore X18.here hx rfl (hb hby at_38) rfl (l' := #[.val (.int xp), .val (.int (5 : Int32)), .val (.ref a_COMMENT), .val (.int (0 : Int32)), .val (.int (0 : Int32))]) rfl k) ?_
    refine own_go (T' := T18) (g' := (mkF m 42 #[.val (.int xp), .val (.int (5 : Int32)), .val (.ref a_COMMENT), .val (.int (0 : Int32)), .val (.int (0 : Int32))] [(.int (0 : Int32))])) (fun _ k => XS.iload X18.here hx rfl (hb hby at_40) rfl k) ?_
    refine own_go (T' := T18) (g' := (mkF m 43 #[.val (.int xp), .val (.int (5 : Int32)), .val (.ref a_COMMENT), .val (.int (0 : Int32)), .val (.int (0 : Int32))] [(.int (0 : Int32)), (.int (0 : Int32))])) (fun _ k => XS.iloadN X18.here hx rfl (hb hby at_42) rfl k) ?_
    refine own_go (T' := T18) (g' := (mkF m 48 #[.val (.int xp), .val (.int (5 : Int32)), .val (.ref a_COMMENT), .val (.int (0 : Int32)), .val (.int (0 : Int32))] [])) (fun _ k => XS.icmpYes X18.here hx rfl (pc0 := 43) (pc' := 48) rfl (hb hby at_43) rfl (teq ((by decide) : (0 : Int32) = (0 : Int32))).1 (by decide) (by decide) k) ?_
    refine own_go (T' := T18) (g' := (mkF m 50 #[.val (.int xp), .val (.int (5 : Int32)), .val (.ref a_COMMENT), .val (.int (0 : Int32)), .val (.int (0 : Int32))] [(.int (0 : Int32))])) (fun _ k => XS.iload X18.here hx rfl (hb hby at_48) rfl k) ?_
    refine own_go (T' := T18) (g' := (mkF m 69 #[.val (.int xp), .val (.int (5 : Int32)), .val (.ref a_COMMENT), .val (.int (0 : Int32)), .val (.int (0 : Int32))] [])) (fun _ k => XS.ifYes X18.here hx rfl (pc0 := 50) (pc' := 69) rfl (hb hby at_50) rfl ((if0 _ _).trans (teq ((by decide) : (0 : Int32) = (0 : Int32))).1) (by decide) (by decide) k) ?_
    refine own_go (T' := T18) (g' := (mkF m 70 #[.val (.int xp), .val (.int (5 : Int32)), .val (.ref a_COMMENT), .val (.int (0 : Int32)), .val (.int (0 : Int32))] [(.int (1 : Int32))])) (fun _ k => XS.iconst X18.here hx rfl (hb hby at_69) k) ?_
    obtain ⟨fs, hr, hrun, hended, hW, hsame⟩ := X18.leave (v := some (.int (1 : Int32))) (fun h => by rw [Bd.returns] at h; cases h)
    refine own_end (retN X18 hx (t := .boolean) Bd.returns (by simp) (hb hby at_70) hr) hrun hended ⟨_, _, rfl, (?_ : own_QL Z xp a_TOKEN a_MULTIWORD_TOKEN a_EMPTY_NODE a_COVERED_WORD a_COMMENT a_DOCUMENT_START a_BLANK h0 n0 _ T18.heap _), ⟨_, rfl⟩, hW, hsame.mono (by decide) (by decide)⟩
    rw [e18]
    exact ⟨rfl, N18⟩
  · rw [hk]
    refine own_go (T' := s₁) (g' := (mkF m 9 #[.val (.int xp), .val (.int (6 : Int32)), .unset, .unset, .unset] [(.int (6 : Int32))])) (fun _ k => XS.iloadN X0.here hx rfl (hb hby at_8) rfl k) ?_
    obtain ⟨_, _, ⟨T19, L19, k19, n19⟩, -, X19, ⟨Lc19, hQ19, l19, y19, z19⟩, st19⟩ := Jvm.LawKit.callS X0 hx (y := (⟨"com/example/tokenweave/tokenweave/model/LineKindIsCarriedPinLaw", "kindAt", "(I)Lcom/example/tokenweave/tokenweave/model/LineKind;"⟩ : MethodName)) hown (mvT hZ (hw _ (List.mem_of_getElem? (i := 1) rfl))) (mvT hZ (hw _ (List.mem_of_getElem? (i := 2) rfl))) (mvT hZ (hw _ (List.mem_of_getElem? (i := 3) rfl))) (mvT hZ (hw _ (List.mem_of_getElem? (i := 4) rfl))) (by decide) (backOf (W := 0) (own_rK l Z a0 hw [] (6 : Int32) a_TOKEN a_MULTIWORD_TOKEN a_EMPTY_NODE a_COVERED_WORD a_BLANK a_COMMENT a_DOCUMENT_START a_DOCUMENT_START h0 n0 Z0 S_TOKEN S_MULTIWORD_TOKEN S_EMPTY_NODE S_COVERED_WORD S_BLANK S_COMMENT S_DOCUMENT_START (by simp [own_kind])) hZ (hw _ (List.mem_of_getElem? (i := 4) rfl)) (hw _ (List.mem_of_getElem? (i := 3) rfl)) (by decide) (by decide)) (g := (mkF m 9 #[.val (.int xp), .val (.int (6 : Int32)), .unset, .unset, .unset] [(.int (6 : Int32))])) rfl (by rw [hml]; rfl) (argsL := [(.int (6 : Int32))]) (rest := []) (lenOf own_pd1 rfl) rfl (by show 2 * 0 + _ ≤ _; exact Nat.le_of_eq rfl) (hb hby at_9) (fun _ _ => ⟨rfl, e0, (by decide : 0 + 0 ≤ _), (by decide : 0 + 0 ≤ _)⟩)
    dsimp only [Pt.U, Pt.locs, Pt.cells, Pt.slots] at X19 l19 y19 z19 st19 hQ19
    subst l19 y19 z19
    obtain ⟨rfl, N19q, e19⟩ := hQ19
    have N19 := Fr.app N0 N19q
    refine own_go (T' := T19) (g' := (mkF m 12 #[.val (.int xp), .val (.int (6 : Int32)), .unset, .unset, .unset] [(.ref a_DOCUMENT_START)])) (fun _ k => st19 _ k) ?_
    refine own_go (T' := T19) (g' := (mkF m 13 #[.val (.int xp), .val (.int (6 : Int32)), .val (.ref a_DOCUMENT_START), .unset, .unset] [])) (fun _ k => XS.astoreN X19.here hx rfl (hb hby at_12) rfl rfl (l' := #[.val (.int xp), .val (.int (6 : Int32)), .val (.ref a_DOCUMENT_START), .unset, .unset]) rfl k) ?_
    refine own_go (T' := T19) (g' := (mkF m 14 #[.val (.int xp), .val (.int (6 : Int32)), .val (.ref a_DOCUMENT_START), .unset, .unset] [(.int (6 : Int32))])) (fun _ k => XS.iloadN X19.here hx rfl (hb hby at_13) rfl k) ?_
    refine own_go (T' := T19) (g' := (mkF m 15 #[.val (.int xp), .val (.int (6 : Int32)), .val (.ref a_DOCUMENT_START), .unset, .unset] [(.int (1 : Int32)), (.int (6 : Int32))])) (fun _ k => XS.iconst X19.here hx rfl (hb hby at_14) k) ?_
    refine own_go (T' := T19) (g' := (mkF m 18 #[.val (.int xp), .val (.int (6 : Int32)), .val (.ref a_DOCUMENT_START), .unset, .unset] [])) (fun _ k => XS.icmpNo X19.here hx rfl (hb hby at_15) rfl (feq ((by decide) : ¬ ((6 : Int32) = (1 : Int32)))).1 k) ?_
    refine own_go (T' := T19) (g' := (mkF m 19 #[.val (.int xp), .val (.int (6 : Int32)), .val (.ref a_DOCUMENT_START), .unset, .unset] [(.int (6 : Int32))])) (fun _ k => XS.iloadN X19.here hx rfl (hb hby at_18) rfl k) ?_
    refine own_go (T' := T19) (g' := (mkF m 20 #[.val (.int xp), .val (.int (6 : Int32)), .val (.ref a_DOCUMENT_START), .unset, .unset] [(.int (2 : Int32)), (.int (6 : Int32))])) (fun _ k => XS.iconst X19.here hx rfl (hb hby at_19) k) ?_
    refine own_go (T' := T19) (g' := (mkF m 23 #[.val (.int xp), .val (.int (6 : Int32)), .val (.ref a_DOCUMENT_START), .unset, .unset] [])) (fun _ k => XS.icmpNo X19.here hx rfl (hb hby at_20) rfl (feq ((by decide) : ¬ ((6 : Int32) = (2 : Int32)))).1 k) ?_
    refine own_go (T' := T19) (g' := (mkF m 24 #[.val (.int xp), .val (.int (6 : Int32)), .val (.ref a_DOCUMENT_START), .unset, .unset] [(.int (6 : Int32))])) (fun _ k => XS.iloadN X19.here hx rfl (hb hby at_23) rfl k) ?_
    refine own_go (T' := T19) (g' := (mkF m 25 #[.val (.int xp), .val (.int (6 : Int32)), .val (.ref a_DOCUMENT_START), .unset, .unset] [(.int (3 : Int32)), (.int (6 : Int32))])) (fun _ k => XS.iconst X19.here hx rfl (hb hby at_24) k) ?_
    refine own_go (T' := T19) (g' := (mkF m 32 #[.val (.int xp), .val (.int (6 : Int32)), .val (.ref a_DOCUMENT_START), .unset, .unset] [])) (fun _ k => XS.icmpYes X19.here hx rfl (pc0 := 25) (pc' := 32) rfl (hb hby at_25) rfl (feq ((by decide) : ¬ ((6 : Int32) = (3 : Int32)))).2 (by decide) (by decide) k) ?_
    refine own_go (T' := T19) (g' := (mkF m 33 #[.val (.int xp), .val (.int (6 : Int32)), .val (.ref a_DOCUMENT_START), .unset, .unset] [(.int (0 : Int32))])) (fun _ k => XS.iconst X19.here hx rfl (hb hby at_32) k) ?_
    refine own_go (T' := T19) (g' := (mkF m 34 #[.val (.int xp), .val (.int (6 : Int32)), .val (.ref a_DOCUMENT_START), .val (.int (0 : Int32)), .unset] [])) (fun _ k => XS.istoreN X19.here hx rfl (hb hby at_33) rfl (l' := #[.val (.int xp), .val (.int (6 : Int32)), .val (.ref a_DOCUMENT_START), .val (.int (0 : Int32)), .unset]) rfl k) ?_
    refine own_go (T' := T19) (g' := (mkF m 35 #[.val (.int xp), .val (.int (6 : Int32)), .val (.ref a_DOCUMENT_START), .val (.int (0 : Int32)), .unset] [(.ref a_DOCUMENT_START)])) (fun _ k => XS.aloadN X19.here hx rfl (hb hby at_34) rfl rfl k) ?_
    obtain ⟨cq20, kq20, q20a, q20b, q20c⟩ := isOf hZ e19 E_DOCUMENT_START
    obtain ⟨_, _, ⟨T20, L20, k20, n20⟩, -, X20, ⟨Lc20, hQ20, l20, y20, z20⟩, st20⟩ := X19.virtualBack hx (y := (⟨"com/example/tokenweave/tokenweave/model/LineKind", "isCarried", "()Z"⟩ : MethodName)) (z := (⟨"com/example/tokenweave/tokenweave/model/LineKind", "isCarried", "()Z"⟩ : MethodName)) hown (mvT hZ (hw _ (List.mem_of_getElem? (i := 8) rfl))) (mvT hZ (hw _ (List.mem_of_getElem? (i := 9) rfl))) (notFace_of_selects (args := #[]) (mvT hZ (hw _ (List.mem_of_getElem? (i := 11) rfl)))) (mvT hZ (hw _ (List.mem_of_getElem? (i := 11) rfl))) (mvT hZ (hw _ (List.mem_of_getElem? (i := 10) rfl))) (by decide) (backOf (W := 0) (own_rC l Z a0 hw [] a_DOCUMENT_START a_MULTIWORD_TOKEN a_EMPTY_NODE a_COVERED_WORD (0 : Int32) h0 n0 Z0 S_MULTIWORD_TOKEN S_EMPTY_NODE S_COVERED_WORD (by simp [own_car, ne_6_1, ne_6_2, ne_6_3])) hZ (hw _ (List.mem_of_getElem? (i := 12) rfl)) (hw _ (List.mem_of_getElem? (i := 6) rfl)) (by decide) (by decide)) q20a q20c (g := (mkF m 35 #[.val (.int xp), .val (.int (6 : Int32)), .val (.ref a_DOCUMENT_START), .val (.int (0 : Int32)), .unset] [(.ref a_DOCUMENT_START)])) rfl (by rw [hml]; rfl) (Steps.refl _) (argsL := []) (rest := []) (lenOf own_pd0 rfl) rfl (by show 2 * 0 + _ ≤ _; exact Nat.le_of_eq rfl) (hb hby at_35) (fun _ _ => ⟨rfl, e19, (by decide : 0 + 0 ≤ _), (by decide : 0 + 0 ≤ _)⟩)
    dsimp only [Pt.U, Pt.locs, Pt.cells, Pt.slots] at X20 l20 y20 z20 st20 hQ20
    subst l20 y20 z20
    obtain ⟨rfl, N20q, e20⟩ := hQ20
    have N20 := Fr.app N19 N20q
    refine own_goT (T' := T20) (g' := (mkF m 38 #[.val (.int xp), .val (.int (6 : Int32)), .val (.ref a_DOCUMENT_START), .val (.int (0 : Int32)), .unset] [(.int (0 : Int32))])) st20 ?_
    refine own_go (T' := T20) (g' := (mkF m 40 #[.val (.int xp), .val (.int (6 : Int32)), .val (.ref a_DOCUMENT_START), .val (.int (0 : Int32)), .val (.int (0 : Int32))] [])) (fun _ k => XS.istore X20.here hx rfl (hb hby at_38) rfl (l' := #[.val (.int xp), .val (.int (6 : Int32)), .val (.ref a_DOCUMENT_START), .val (.int (0 : Int32)), .val (.int (0 : Int32))]) rfl k) ?_
    refine own_go (T' := T20) (g' := (mkF m 42 #[.val (.int xp), .val (.int (6 : Int32)), .val (.ref a_DOCUMENT_START), .val (.int (0 : Int32)), .val (.int (0 : Int32))] [(.int (0 : Int32))])) (fun _ k => XS.iload X20.here hx rfl (hb hby at_40) rfl k) ?_
    refine own_go (T' := T20) (g' := (mkF m 43 #[.val (.int xp), .val (.int (6 : Int32)), .val (.ref a_DOCUMENT_START), .val (.int (0 : Int32)), .val (.int (0 : Int32))] [(.int (0 : Int32)), (.int (0 : Int32))])) (fun _ k => XS.iloadN X20.here hx rfl (hb hby at_42) rfl k) ?_
    refine own_go (T' := T20) (g' := (mkF m 48 #[.val (.int xp), .val (.int (6 : Int32)), .val (.ref a_DOCUMENT_START), .val (.int (0 : Int32)), .val (.int (0 : Int32))] [])) (fun _ k => XS.icmpYes X20.here hx rfl (pc0 := 43) (pc' := 48) rfl (hb hby at_43) rfl (teq ((by decide) : (0 : Int32) = (0 : Int32))).1 (by decide) (by decide) k) ?_
    refine own_go (T' := T20) (g' := (mkF m 50 #[.val (.int xp), .val (.int (6 : Int32)), .val (.ref a_DOCUMENT_START), .val (.int (0 : Int32)), .val (.int (0 : Int32))] [(.int (0 : Int32))])) (fun _ k => XS.iload X20.here hx rfl (hb hby at_48) rfl k) ?_
    refine own_go (T' := T20) (g' := (mkF m 69 #[.val (.int xp), .val (.int (6 : Int32)), .val (.ref a_DOCUMENT_START), .val (.int (0 : Int32)), .val (.int (0 : Int32))] [])) (fun _ k => XS.ifYes X20.here hx rfl (pc0 := 50) (pc' := 69) rfl (hb hby at_50) rfl ((if0 _ _).trans (teq ((by decide) : (0 : Int32) = (0 : Int32))).1) (by decide) (by decide) k) ?_
    refine own_go (T' := T20) (g' := (mkF m 70 #[.val (.int xp), .val (.int (6 : Int32)), .val (.ref a_DOCUMENT_START), .val (.int (0 : Int32)), .val (.int (0 : Int32))] [(.int (1 : Int32))])) (fun _ k => XS.iconst X20.here hx rfl (hb hby at_69) k) ?_
    obtain ⟨fs, hr, hrun, hended, hW, hsame⟩ := X20.leave (v := some (.int (1 : Int32))) (fun h => by rw [Bd.returns] at h; cases h)
    refine own_end (retN X20 hx (t := .boolean) Bd.returns (by simp) (hb hby at_70) hr) hrun hended ⟨_, _, rfl, (?_ : own_QL Z xp a_TOKEN a_MULTIWORD_TOKEN a_EMPTY_NODE a_COVERED_WORD a_COMMENT a_DOCUMENT_START a_BLANK h0 n0 _ T20.heap _), ⟨_, rfl⟩, hW, hsame.mono (by decide) (by decide)⟩
    rw [e20]
    exact ⟨rfl, N20⟩
set_option maxRecDepth 65536 in
set_option maxHeartbeats 40000000 in
theorem own_comes {Post : Tables → Env → Array Value → State → Outcome → State → Prop} (hpost : ∀ tb e args s v u, (limb_1_1.after args s (.returned v) u = true ∧ limb_1_2.after args s (.returned v) u = true ∧ True) → FrameEnd s (.returned v) u (Jvm.fieldLocs frame_1_writes args s ++ Jvm.arrayLocs frame_1_arrays args s ++ Jvm.staticLocs frame_1_statics s) 0 0 → Post tb e args s (.returned v) u) :
    ArmFor flags0 classFile x code maxLocals ret World_1 tables_1 room_1 Calls_1 rest_1 Pre_1 Post := by
  intro l hfl _ _ p e ha hc hk s m args below hf hA hF happ hP
  obtain ⟨hcalls, hrest, hpre⟩ := hP
  obtain ⟨-, -, -, hnamed, -, -, -, hat⟩ := (Spec.applies_iff hf).mp happ
  obtain ⟨hg, hn⟩ := and_e (Cond.before_iff.mp (show (Jvm.Cond.and given_1 narrow_1).before args s = true from hpre))
  obtain ⟨gc, g0⟩ := and_e hg
  obtain ⟨w0, rfl⟩ : ∃ w0 : Value, args = #[w0] := by
    have hs : args.size = 1 := by simpa [Cond.value, given_1] using gc
    obtain ⟨L⟩ := args
    match L, hs with
    | [w0], _ => exact ⟨w0, rfl⟩
  have hw := fun d (hd : d ∈ tables_1) => atoms_spec (ws := Jvm.Cond.code x code maxLocals ret :: tables_1) hat d (List.mem_cons_of_mem _ hd)
  have hfit : Fit s := fun {y c} hc i hi => by
    obtain ⟨ha, rfl⟩ := Array.getElem?_eq_some_iff.mp hc
    have q := List.all_eq_true.mp ((Array.all_eq_true_iff_forall_mem.mp hF) _ (Array.getElem_mem ha)) i (List.mem_range.mpr hi)
    simpa [Array.getElem?_eq_getElem hi] using q
  obtain ⟨i0, ei0⟩ := is_v g0
  obtain rfl : w0 = (.int i0) := Option.some.inj ei0
  obtain ⟨k0, z0⟩ := and_e hn
  obtain ⟨a_TOKEN, e_TOKEN⟩ := exa_v k0
  have S_TOKEN : Sta s s.heap "com/example/tokenweave/tokenweave/model/LineKind" "TOKEN" "Lcom/example/tokenweave/tokenweave/model/LineKind;" (.ref a_TOKEN) := Sta.start e_TOKEN (Or.inr ⟨(hw _ (List.mem_of_getElem? (i := 6) rfl)), (hw _ (List.mem_of_getElem? (i := 7) rfl))⟩)
  have E_TOKEN : Exa s s.heap a_TOKEN "com/example/tokenweave/tokenweave/model/LineKind" := Exa.start e_TOKEN k0
  obtain ⟨k1, z1⟩ := and_e z0
  obtain ⟨a_MULTIWORD_TOKEN, e_MULTIWORD_TOKEN⟩ := exa_v k1
  have S_MULTIWORD_TOKEN : Sta s s.heap "com/example/tokenweave/tokenweave/model/LineKind" "MULTIWORD_TOKEN" "Lcom/example/tokenweave/tokenweave/model/LineKind;" (.ref a_MULTIWORD_TOKEN) := Sta.start e_MULTIWORD_TOKEN (Or.inr ⟨(hw _ (List.mem_of_getElem? (i := 6) rfl)), (hw _ (List.mem_of_getElem? (i := 14) rfl))⟩)
  have E_MULTIWORD_TOKEN : Exa s s.heap a_MULTIWORD_TOKEN "com/example/tokenweave/tokenweave/model/LineKind" := Exa.start e_MULTIWORD_TOKEN k1
  obtain ⟨k2, z2⟩ := and_e z1
  have e_TOKEN_ordinal := own_eqi k2
  have F_TOKEN_ordinal : Fld s s.heap a_TOKEN "java/lang/Enum" "ordinal" "I" (.int (0 : Int32)) := Fld.start ((fld_at e_TOKEN).symm.trans e_TOKEN_ordinal)
  obtain ⟨k3, z3⟩ := and_e z2
  have e_MULTIWORD_TOKEN_ordinal := own_eqi k3
  have F_MULTIWORD_TOKEN_ordinal : Fld s s.heap a_MULTIWORD_TOKEN "java/lang/Enum" "ordinal" "I" (.int (1 : Int32)) := Fld.start ((fld_at e_MULTIWORD_TOKEN).symm.trans e_MULTIWORD_TOKEN_ordinal)
  obtain ⟨k4, z4⟩ := and_e z3
  obtain ⟨a_EMPTY_NODE, e_EMPTY_NODE⟩ := exa_v k4
  have S_EMPTY_NODE : Sta s s.heap "com/example/tokenweave/tokenweave/model/LineKind" "EMPTY_NODE" "Lcom/example/tokenweave/tokenweave/model/LineKind;" (.ref a_EMPTY_NODE) := Sta.start e_EMPTY_NODE (Or.inr ⟨(hw _ (List.mem_of_getElem? (i := 6) rfl)), (hw _ (List.mem_of_getElem? (i := 16) rfl))⟩)
  have E_EMPTY_NODE : Exa s s.heap a_EMPTY_NODE "com/example/tokenweave/tokenweave/model/LineKind" := Exa.start e_EMPTY_NODE k4
  obtain ⟨k5, z5⟩ := and_e z4
  have e_EMPTY_NODE_ordinal := own_eqi k5
  have F_EMPTY_NODE_ordinal : Fld s s.heap a_EMPTY_NODE "java/lang/Enum" "ordinal" "I" (.int (2 : Int32)) := Fld.start ((fld_at e_EMPTY_NODE).symm.trans e_EMPTY_NODE_ordinal)
  obtain ⟨k6, z6⟩ := and_e z5
  obtain ⟨a_COVERED_WORD, e_COVERED_WORD⟩ := exa_v k6
  have S_COVERED_WORD : Sta s s.heap "com/example/tokenweave/tokenweave/model/LineKind" "COVERED_WORD" "Lcom/example/tokenweave/tokenweave/model/LineKind;" (.ref a_COVERED_WORD) := Sta.start e_COVERED_WORD (Or.inr ⟨(hw _ (List.mem_of_getElem? (i := 6) rfl)), (hw _ (List.mem_of_getElem? (i := 18) rfl))⟩)
  have E_COVERED_WORD : Exa s s.heap a_COVERED_WORD "com/example/tokenweave/tokenweave/model/LineKind" := Exa.start e_COVERED_WORD k6
  obtain ⟨k7, z7⟩ := and_e z6
  have e_COVERED_WORD_ordinal := own_eqi k7
  have F_COVERED_WORD_ordinal : Fld s s.heap a_COVERED_WORD "java/lang/Enum" "ordinal" "I" (.int (3 : Int32)) := Fld.start ((fld_at e_COVERED_WORD).symm.trans e_COVERED_WORD_ordinal)
  obtain ⟨k8, z8⟩ := and_e z7
  obtain ⟨a_COMMENT, e_COMMENT⟩ := exa_v k8
  have S_COMMENT : Sta s s.heap "com/example/tokenweave/tokenweave/model/LineKind" "COMMENT" "Lcom/example/tokenweave/tokenweave/model/LineKind;" (.ref a_COMMENT) := Sta.start e_COMMENT (Or.inr ⟨(hw _ (List.mem_of_getElem? (i := 6) rfl)), (hw _ (List.mem_of_getElem? (i := 28) rfl))⟩)
  have E_COMMENT : Exa s s.heap a_COMMENT "com/example/tokenweave/tokenweave/model/LineKind" := Exa.start e_COMMENT k8
  obtain ⟨k9, z9⟩ := and_e z8
  have e_COMMENT_ordinal := own_eqi k9
  have F_COMMENT_ordinal : Fld s s.heap a_COMMENT "java/lang/Enum" "ordinal" "I" (.int (5 : Int32)) := Fld.start ((fld_at e_COMMENT).symm.trans e_COMMENT_ordinal)
  obtain ⟨k10, z10⟩ := and_e z9
  obtain ⟨a_DOCUMENT_START, e_DOCUMENT_START⟩ := exa_v k10
  have S_DOCUMENT_START : Sta s s.heap "com/example/tokenweave/tokenweave/model/LineKind" "DOCUMENT_START" "Lcom/example/tokenweave/tokenweave/model/LineKind;" (.ref a_DOCUMENT_START) := Sta.start e_DOCUMENT_START (Or.inr ⟨(hw _ (List.mem_of_getElem? (i := 6) rfl)), (hw _ (List.mem_of_getElem? (i := 30) rfl))⟩)
  have E_DOCUMENT_START : Exa s s.heap a_DOCUMENT_START "com/example/tokenweave/tokenweave/model/LineKind" := Exa.start e_DOCUMENT_START k10
  obtain ⟨k11, z11⟩ := and_e z10
  have e_DOCUMENT_START_ordinal := own_eqi k11
  have F_DOCUMENT_START_ordinal : Fld s s.heap a_DOCUMENT_START "java/lang/Enum" "ordinal" "I" (.int (6 : Int32)) := Fld.start ((fld_at e_DOCUMENT_START).symm.trans e_DOCUMENT_START_ordinal)
  obtain ⟨k12, z12⟩ := and_e z11
  obtain ⟨a_BLANK, e_BLANK⟩ := exa_v k12
  have S_BLANK : Sta s s.heap "com/example/tokenweave/tokenweave/model/LineKind" "BLANK" "Lcom/example/tokenweave/tokenweave/model/LineKind;" (.ref a_BLANK) := Sta.start e_BLANK (Or.inr ⟨(hw _ (List.mem_of_getElem? (i := 6) rfl)), (hw _ (List.mem_of_getElem? (i := 32) rfl))⟩)
  have E_BLANK : Exa s s.heap a_BLANK "com/example/tokenweave/tokenweave/model/LineKind" := Exa.start e_BLANK k12
  have e_BLANK_ordinal := own_eqi z12
  have F_BLANK_ordinal : Fld s s.heap a_BLANK "java/lang/Enum" "ordinal" "I" (.int (4 : Int32)) := Fld.start ((fld_at e_BLANK).symm.trans e_BLANK_ordinal)
  obtain ⟨n, o, h1, h2, h3, _, L, rfl, ⟨rfl, N⟩, hq⟩ := own_rL l s _ hw tables_1 i0 a_TOKEN a_MULTIWORD_TOKEN a_EMPTY_NODE a_COVERED_WORD a_COMMENT a_DOCUMENT_START a_BLANK s.heap s.heap.size (Nat.le_refl _) S_TOKEN E_TOKEN S_MULTIWORD_TOKEN E_MULTIWORD_TOKEN F_TOKEN_ordinal F_MULTIWORD_TOKEN_ordinal S_EMPTY_NODE E_EMPTY_NODE F_EMPTY_NODE_ordinal S_COVERED_WORD E_COVERED_WORD F_COVERED_WORD_ordinal S_COMMENT E_COMMENT F_COMMENT_ordinal S_DOCUMENT_START E_DOCUMENT_START F_DOCUMENT_START_ordinal S_BLANK E_BLANK F_BLANK_ordinal p e ha hc hk s m _ below hf ((Spec.applies_iff_loose hf).mp happ).1 ⟨rfl, State.Warmed39.refl s, rfl⟩ trivial
  refine ⟨n, _, h1, h2, h3, hpost _ _ _ _ _ _ ⟨Cond.after_iff.mpr rfl, Cond.after_iff.mpr (eq_i res_at (Term.int_eval (1)) rfl), trivial⟩ ⟨hq.1, hq.2.1, (hq.2.2.sift fun y hy => Or.inr (N y hy)).mono (by decide) (by decide)⟩⟩
theorem main_1_1 : Claimed_1_1 := own_comes fun _ _ _ _ _ _ h hF => ⟨h.1, hF⟩
theorem main_1_2 : Claimed_1_2 := own_comes fun _ _ _ _ _ _ h hF => ⟨h.2.1, hF⟩
end Jvm.Pilot.@@N@@
namespace Jvm.Pilot.@@N@@
open Jvm Jvm.ClassFile Sem Op Lib Jvm.Free Jvm.Stand Jvm.Pilot.@@N@@.Jvm.D
/-! MADE BY PROGRAM (witnessworld.py) out of the Statement's table words and the real class files: 13 classes; the members and pool entries that the words name. The judged class is class 1, her method 1. -/
namespace start1
open Jvm.ClassFile
def u (s : String) : CpInfo := .utf8 (stringToUtf16 s)
/-- a pool by its gaps: so many unusable entries, then the entry; so many at the end -/
def gap : Nat → List CpInfo → List CpInfo
  | 0, r => r
  | n + 1, r => .unusable :: gap n r
def poolList (es : List (Nat × CpInfo)) (last : Nat) : List CpInfo := es.foldr (fun e r => gap e.1 (e.2 :: r)) (gap last [])
def pool (es : List (Nat × CpInfo)) (last : Nat) : Array CpInfo := ⟨poolList es last⟩
def fileOf (pool : Array CpInfo) (this : Nat) (attrs : Array Attribute := #[]) (ms : Array MethodInfo := #[]) (fl : Nat := 33) (sup : Nat := 0) (ifs : Array Nat := #[]) (fds : Array FieldInfo := #[]) : ClassFile where
  minorVersion := 0
  majorVersion := 65
  constantPool := pool
  accessFlags := fl
  thisClass := this
  superClass := sup
  interfaces := ifs
  fields := fds
  methods := ms
  attributes := attrs
def plain (name : String) (sup : Option ClassId) : Class where
  name := name
  kind := .ordinary
  loader := none
  accessFlags := 33
  super := sup
  interfaces := #[]
  cf := none
  fields := #[]
  methods := #[]
  instanceTypes := #[]
  staticTypes := #[]
  resolved := #[]
  callSites := []
  init := .initialized
  statics := none
  mirror := none

def pool0 : Array CpInfo := pool [(5, u "<init>"), (0, u "()V"), (1, .class_ 10), (1, u "java/lang/Object")] 113

def k0m0 : Method := { name := "<init>", desc := "()V", sig := { parameters := [], returnType := none }, accessFlags := 1, code := none }
/-- java/lang/Object -/
def k0 : Class := { plain "java/lang/Object" none with
  accessFlags := 33
  interfaces := #[]
  cf := some (fileOf pool0 8 #[] #[{ accessFlags := 1, nameIndex := 5, descriptorIndex := 6, attributes := #[] }] 33 0 #[] #[])
  fields := #[]
  methods := #[k0m0]
  instanceTypes := #[]
  staticTypes := #[]
  resolved := Array.replicate 124 none
  statics := none }

def pool1 : Array CpInfo := pool [(2, .class_ 4), (1, u "java/lang/Object"), (0, u "<init>"), (0, u "()V"), (0, .integer 2147483647), (0, .methodref 9 10), (0, .class_ 11), (0, .nameAndType 12 13), (0, u "com/example/tokenweave/tokenweave/model/LineKindIsCarriedPinLaw"), (0, u "kindAt"), (0, u "(I)Lcom/example/tokenweave/tokenweave/model/LineKind;"), (0, .methodref 15 16), (0, .class_ 17), (0, .nameAndType 18 19), (0, u "com/example/tokenweave/tokenweave/model/LineKind"), (0, u "isCarried"), (0, u "()Z"), (0, .methodref 15 21), (0, .nameAndType 22 19), (0, u "hasFields"), (0, .fieldref 15 24), (0, .nameAndType 25 26), (0, u "TOKEN"), (0, u "Lcom/example/tokenweave/tokenweave/model/LineKind;"), (0, .fieldref 15 28), (0, .nameAndType 29 26), (0, u "MULTIWORD_TOKEN"), (0, .fieldref 15 31), (0, .nameAndType 32 26), (0, u "EMPTY_NODE"), (0, .fieldref 15 34), (0, .nameAndType 35 26), (0, u "COVERED_WORD"), (0, .fieldref 15 37), (0, .nameAndType 38 26), (0, u "BLANK"), (0, .fieldref 15 40), (0, .nameAndType 41 26), (0, u "COMMENT"), (0, .fieldref 15 43), (0, .nameAndType 44 26), (0, u "DOCUMENT_START"), (2, u "law"), (0, u "(I)Z")] 3

def k1m0 : Method := { name := "<init>", desc := "()V", sig := { parameters := [], returnType := none }, accessFlags := 1, code := none }
def k1c1 : Code := { maxStack := 2, maxLocals := 5, code := code, exceptionTable := #[], attributes := #[] }
def k1m1 : Method := { name := "law", desc := "(I)Z", sig := { parameters := [.int], returnType := some .boolean }, accessFlags := 9, code := some k1c1 }
def k1c2 : Code := { maxStack := 2, maxLocals := 1, code := method_3_code, exceptionTable := #[], attributes := #[] }
def k1m2 : Method := { name := "kindAt", desc := "(I)Lcom/example/tokenweave/tokenweave/model/LineKind;", sig := { parameters := [.int], returnType := some (.object "com/example/tokenweave/tokenweave/model/LineKind") }, accessFlags := 10, code := some k1c2 }
/-- com/example/tokenweave/tokenweave/model/LineKindIsCarriedPinLaw -/
def k1 : Class := { plain "com/example/tokenweave/tokenweave/model/LineKindIsCarriedPinLaw" (some 0) with
  accessFlags := 49
  interfaces := #[]
  cf := some (fileOf pool1 9 #[] #[{ accessFlags := 1, nameIndex := 5, descriptorIndex := 6, attributes := #[] }, { accessFlags := 9, nameIndex := 47, descriptorIndex := 48, attributes := #[] }, { accessFlags := 10, nameIndex := 12, descriptorIndex := 13, attributes := #[] }] 49 2 #[] #[])
  fields := #[]
  methods := #[k1m0, k1m1, k1m2]
  instanceTypes := #[]
  staticTypes := #[]
  resolved := Array.replicate 52 none
  statics := none }

def pool2 : Array CpInfo := pool [(1, .class_ 2), (0, u "java/lang/constant/Constable"), (0, .class_ 4), (0, u "java/lang/Object")] 6

/-- java/lang/constant/Constable -/
def k2 : Class := { plain "java/lang/constant/Constable" (some 0) with
  accessFlags := 1537
  interfaces := #[]
  cf := some (fileOf pool2 1 #[] #[] 1537 3 #[] #[])
  fields := #[]
  methods := #[]
  instanceTypes := #[]
  staticTypes := #[]
  resolved := Array.replicate 11 none
  statics := none }

def pool3 : Array CpInfo := pool [(1, .class_ 2), (0, u "java/lang/Comparable"), (0, .class_ 4), (0, u "java/lang/Object")] 7

/-- java/lang/Comparable -/
def k3 : Class := { plain "java/lang/Comparable" (some 0) with
  accessFlags := 1537
  interfaces := #[]
  cf := some (fileOf pool3 1 #[] #[] 1537 3 #[] #[])
  fields := #[]
  methods := #[]
  instanceTypes := #[]
  staticTypes := #[]
  resolved := Array.replicate 12 none
  statics := none }

def pool4 : Array CpInfo := pool [(1, .class_ 2), (0, u "java/io/Serializable"), (0, .class_ 4), (0, u "java/lang/Object")] 2

/-- java/io/Serializable -/
def k4 : Class := { plain "java/io/Serializable" (some 0) with
  accessFlags := 1537
  interfaces := #[]
  cf := some (fileOf pool4 1 #[] #[] 1537 3 #[] #[])
  fields := #[]
  methods := #[]
  instanceTypes := #[]
  staticTypes := #[]
  resolved := Array.replicate 7 none
  statics := none }

def pool5 : Array CpInfo := pool [(2, .class_ 4), (1, u "java/lang/Enum"), (0, u "name"), (0, u "Ljava/lang/String;"), (2, u "ordinal"), (0, u "I"), (1, .class_ 14), (1, u "java/lang/Object"), (4, u "hash"), (86, .class_ 108), (1, u "java/lang/Enum$EnumDesc"), (2, .class_ 112), (0, u "java/lang/constant/Constable"), (0, .class_ 114), (0, u "java/lang/Comparable"), (0, .class_ 116), (0, u "java/io/Serializable")] 87

/-- java/lang/Enum -/
def k5 : Class := { plain "java/lang/Enum" (some 0) with
  accessFlags := 1057
  interfaces := #[2, 3, 4]
  cf := some (fileOf pool5 2 #[.nestMembers #[106]] #[] 1057 12 #[111, 113, 115] #[{ accessFlags := 18, nameIndex := 5, descriptorIndex := 6, attributes := #[] }, { accessFlags := 18, nameIndex := 9, descriptorIndex := 10, attributes := #[] }, { accessFlags := 2, nameIndex := 19, descriptorIndex := 10, attributes := #[] }])
  fields := #[{ name := "name", type := (.object "java/lang/String"), accessFlags := 18, slot := 0, constantValue := 0 }, { name := "ordinal", type := .int, accessFlags := 18, slot := 1, constantValue := 0 }, { name := "hash", type := .int, accessFlags := 2, slot := 2, constantValue := 0 }]
  methods := #[]
  instanceTypes := #[(.object "java/lang/String"), .int, .int]
  staticTypes := #[]
  resolved := Array.replicate 204 none
  statics := none }

def pool6 : Array CpInfo := pool [(2, .class_ 4), (1, u "com/example/tokenweave/tokenweave/model/Labelled"), (8, .class_ 14), (0, u "java/lang/Object")] 11

/-- com/example/tokenweave/tokenweave/model/Labelled -/
def k6 : Class := { plain "com/example/tokenweave/tokenweave/model/Labelled" (some 0) with
  accessFlags := 1537
  interfaces := #[]
  cf := some (fileOf pool6 2 #[] #[] 1537 13 #[] #[])
  fields := #[]
  methods := #[]
  instanceTypes := #[]
  staticTypes := #[]
  resolved := Array.replicate 26 none
  statics := none }

def pool7 : Array CpInfo := pool [(1, .class_ 2), (0, u "com/example/tokenweave/tokenweave/model/LineKind"), (0, .fieldref 1 4), (0, .nameAndType 5 6), (0, u "TOKEN"), (0, u "Lcom/example/tokenweave/tokenweave/model/LineKind;"), (0, .fieldref 1 8), (0, .nameAndType 9 6), (0, u "MULTIWORD_TOKEN"), (0, .fieldref 1 11), (0, .nameAndType 12 6), (0, u "EMPTY_NODE"), (0, .fieldref 1 14), (0, .nameAndType 15 6), (0, u "COVERED_WORD"), (2, u "BLANK"), (2, u "COMMENT"), (2, u "DOCUMENT_START"), (2, u "$VALUES"), (0, u "[Lcom/example/tokenweave/tokenweave/model/LineKind;"), (6, .class_ 37), (1, u "java/lang/Enum"), (8, u "label"), (0, u "Ljava/lang/String;"), (5, u "()Z"), (22, .methodref 1 77), (0, .nameAndType 78 53), (0, u "isCarried"), (28, .class_ 108), (0, u "com/example/tokenweave/tokenweave/model/Labelled"), (10, u "hasFields")] 5

def k7c0 : Code := { maxStack := 2, maxLocals := 1, code := prog_46_method_7_code, exceptionTable := #[], attributes := #[] }
def k7m0 : Method := { name := "isCarried", desc := "()Z", sig := { parameters := [], returnType := some .boolean }, accessFlags := 1, code := some k7c0 }
def k7c1 : Code := { maxStack := 2, maxLocals := 1, code := prog_46_method_8_code, exceptionTable := #[], attributes := #[] }
def k7m1 : Method := { name := "hasFields", desc := "()Z", sig := { parameters := [], returnType := some .boolean }, accessFlags := 1, code := some k7c1 }
/-- com/example/tokenweave/tokenweave/model/LineKind -/
def k7 : Class := { plain "com/example/tokenweave/tokenweave/model/LineKind" (some 5) with
  accessFlags := 16433
  interfaces := #[6]
  cf := some (fileOf pool7 1 #[] #[{ accessFlags := 1, nameIndex := 78, descriptorIndex := 53, attributes := #[] }, { accessFlags := 1, nameIndex := 119, descriptorIndex := 53, attributes := #[] }] 16433 35 #[107] #[{ accessFlags := 16409, nameIndex := 5, descriptorIndex := 6, attributes := #[] }, { accessFlags := 16409, nameIndex := 9, descriptorIndex := 6, attributes := #[] }, { accessFlags := 16409, nameIndex := 12, descriptorIndex := 6, attributes := #[] }, { accessFlags := 16409, nameIndex := 15, descriptorIndex := 6, attributes := #[] }, { accessFlags := 16409, nameIndex := 18, descriptorIndex := 6, attributes := #[] }, { accessFlags := 16409, nameIndex := 21, descriptorIndex := 6, attributes := #[] }, { accessFlags := 16409, nameIndex := 24, descriptorIndex := 6, attributes := #[] }, { accessFlags := 18, nameIndex := 46, descriptorIndex := 47, attributes := #[] }, { accessFlags := 4122, nameIndex := 27, descriptorIndex := 28, attributes := #[] }])
  fields := #[{ name := "TOKEN", type := (.object "com/example/tokenweave/tokenweave/model/LineKind"), accessFlags := 16409, slot := 0, constantValue := 0 }, { name := "MULTIWORD_TOKEN", type := (.object "com/example/tokenweave/tokenweave/model/LineKind"), accessFlags := 16409, slot := 1, constantValue := 0 }, { name := "EMPTY_NODE", type := (.object "com/example/tokenweave/tokenweave/model/LineKind"), accessFlags := 16409, slot := 2, constantValue := 0 }, { name := "COVERED_WORD", type := (.object "com/example/tokenweave/tokenweave/model/LineKind"), accessFlags := 16409, slot := 3, constantValue := 0 }, { name := "BLANK", type := (.object "com/example/tokenweave/tokenweave/model/LineKind"), accessFlags := 16409, slot := 4, constantValue := 0 }, { name := "COMMENT", type := (.object "com/example/tokenweave/tokenweave/model/LineKind"), accessFlags := 16409, slot := 5, constantValue := 0 }, { name := "DOCUMENT_START", type := (.object "com/example/tokenweave/tokenweave/model/LineKind"), accessFlags := 16409, slot := 6, constantValue := 0 }, { name := "label", type := (.object "java/lang/String"), accessFlags := 18, slot := 3, constantValue := 0 }, { name := "$VALUES", type := (.array (.object "com/example/tokenweave/tokenweave/model/LineKind")), accessFlags := 4122, slot := 7, constantValue := 0 }]
  methods := #[k7m0, k7m1]
  instanceTypes := #[(.object "java/lang/String"), .int, .int, (.object "java/lang/String")]
  staticTypes := #[(.object "com/example/tokenweave/tokenweave/model/LineKind"), (.object "com/example/tokenweave/tokenweave/model/LineKind"), (.object "com/example/tokenweave/tokenweave/model/LineKind"), (.object "com/example/tokenweave/tokenweave/model/LineKind"), (.object "com/example/tokenweave/tokenweave/model/LineKind"), (.object "com/example/tokenweave/tokenweave/model/LineKind"), (.object "com/example/tokenweave/tokenweave/model/LineKind"), (.array (.object "com/example/tokenweave/tokenweave/model/LineKind"))]
  resolved := Array.replicate 125 none
  statics := some 0 }

def pool8 : Array CpInfo := pool [(1, u "java/lang/Cloneable"), (0, .class_ 1), (0, u "java/lang/Object"), (0, .class_ 3)] 3

/-- java/lang/Cloneable -/
def k8 : Class := { plain "java/lang/Cloneable" (some 0) with
  accessFlags := 1537
  interfaces := #[]
  cf := some (fileOf pool8 2 #[] #[] 1537 4 #[] #[])
  fields := #[]
  methods := #[]
  instanceTypes := #[]
  staticTypes := #[]
  resolved := Array.replicate 8 none
  statics := none }

/-- the primitive byte -/
def k9 : Class := { plain "byte" none with kind := .primitive 'B', accessFlags := 0x411 }
/-- [B -/
def k10 : Class := { plain "[B" (some 0) with kind := .array 9 .byte, interfaces := #[8, 4], accessFlags := 1041 }

/-- the primitive int -/
def k11 : Class := { plain "int" none with kind := .primitive 'I', accessFlags := 0x411 }
/-- [I -/
def k12 : Class := { plain "[I" (some 0) with kind := .array 11 .int, interfaces := #[8, 4], accessFlags := 1041 }

def heap : Heap := #[{ cls := 7, slots := #[.ref 1, .ref 2, .ref 3, .ref 4, .ref 7, .ref 5, .ref 6, .null], vm := .statics 7 },
  { cls := 7, slots := #[.null, .int 0, .int 0, .null], vm := .none },
  { cls := 7, slots := #[.null, .int 1, .int 0, .null], vm := .none },
  { cls := 7, slots := #[.null, .int 2, .int 0, .null], vm := .none },
  { cls := 7, slots := #[.null, .int 3, .int 0, .null], vm := .none },
  { cls := 7, slots := #[.null, .int 5, .int 0, .null], vm := .none },
  { cls := 7, slots := #[.null, .int 6, .int 0, .null], vm := .none },
  { cls := 7, slots := #[.null, .int 4, .int 0, .null], vm := .none }]
def classes : Array Class := #[k0, k1, k2, k3, k4, k5, k6, k7, k8, k9, k10, k11, k12]
def interned : List (Array UInt16 × Addr) := []
def slotsUsed : Nat := 36
def theMethod : MethodId := ⟨1, 1⟩
def args0 : Array Value := #[.int 5]
def aboutOver (below : List Frame) : State where
  vm := { classes := classes, interned := interned.toArray }
  heap := heap
  slotsUsed := slotsUsed
  threads := #[{ frames := .invoking theMethod args0 :: below }]
def below0 : List Frame := [.native { method := ⟨0, 0⟩, args := #[] }]
def about1 : State := aboutOver below0
def p0 : Program := .bare "" "" ""
def e0 : Env := launch0.env 0 0 0
theorem w_frames : about1.frames = Frame.invoking theMethod args0 :: below0 := rfl
set_option maxRecDepth 65536 in
theorem w_args : argsFit about1.vm theMethod args0 = true := by decide +kernel
set_option maxRecDepth 65536 in
theorem w_heap : heapFits about1 = true := by decide +kernel
set_option maxRecDepth 65536 in
theorem w_runnable : about1.curStatus? = some .runnable := by decide +kernel
set_option maxRecDepth 65536 in
theorem w_alone : about1.alone = true := by decide +kernel
set_option maxRecDepth 65536 in
theorem w_named : about1.methodNamed? x = some theMethod := by decide +kernel
set_option maxRecDepth 65536 in
theorem w_hears : about1.hears theMethod below0 = true := by decide +kernel
set_option maxRecDepth 65536 in
theorem w_ripe : about1.ripe theMethod args0 below0 = true := by decide +kernel
theorem w_running : about1.status = .running := rfl
set_option maxRecDepth 65536 in
theorem w_room : about1.hasRoom e0.platform room_1 = true :=
  launch0.hasRoom_least _ room_1 (by decide +kernel) (by decide +kernel) (by decide +kernel) (by decide +kernel) (by decide +kernel) (by decide +kernel)
theorem allAtoms_all (ts : List Jvm.Cond) (a : Array Jvm.Value) (st : Jvm.State) : (allAtoms ts).before a st = ts.all (fun c => c.before a st) := by
  induction ts with
  | nil => rfl
  | cons c t ih =>
    show (Jvm.Cond.and c (allAtoms t)).before a st = _
    rw [Jvm.Cond.before_and, ih, List.all_cons]
def words1 : List Jvm.Cond := Jvm.Cond.code x code maxLocals ret :: tables_1
/-- a 'code' word, met by the world's own term for the bytes: nothing is compared byte by byte -/
theorem code_word {y : MethodName} {bytes : ByteArray} {mx : Nat} {rt : Option FieldType} {a : Array Value} {s : State} {m : MethodId} {meth : Method} {c : Code} (h1 : s.methodNamed? y = some m) (h2 : s.vm.method? m = some meth) (h3 : meth.code = some c) (h4 : c.code = bytes)
    (h5 : (c.maxLocals == mx && c.exceptionTable.isEmpty && decide (c.maxStack ≤ mostOperands) && decide (meth.sig.returnType = rt) && !meth.locks && decide (parseMethodDescriptor y.desc = some meth.sig)) = true) : (Jvm.Cond.code y bytes mx rt).before a s = true := by
  simp only [Bool.and_eq_true, beq_iff_eq, Bool.not_eq_true', decide_eq_true_eq] at h5
  obtain ⟨⟨⟨⟨⟨g1, g2⟩, g3⟩, g4⟩, g5⟩, g6⟩ := h5
  simp [Cond.before, Cond.holds, Cond.value, h1, h2, h3, h4, g1, g2, g3, g4, g5, g6]
def isCode : Jvm.Cond → Bool
  | .code _ _ _ _ => true
  | _ => false
theorem all_split {L : List Jvm.Cond} {P : Jvm.Cond → Bool} (h1 : L.all (fun c => isCode c || P c) = true) (h2 : ∀ c ∈ L.filter isCode, P c = true) : L.all P = true := by
  refine List.all_eq_true.mpr fun c hc => ?_
  have h := List.all_eq_true.mp h1 c hc
  rcases Bool.eq_false_or_eq_true (isCode c) with hi | hi
  · exact h2 c (List.mem_filter.mpr ⟨hc, hi⟩)
  · simpa [hi] using h
set_option maxRecDepth 65536 in
theorem w_c0 : (Jvm.Cond.code x code maxLocals ret).before args0 about1 = true := code_word (m := ⟨1, 1⟩) (meth := k1m1) (c := k1c1) (by decide +kernel) rfl rfl rfl (by decide +kernel)
set_option maxRecDepth 65536 in
theorem w_c1 : (Jvm.Cond.code ({ cls := "com/example/tokenweave/tokenweave/model/LineKindIsCarriedPinLaw", name := "kindAt", desc := "(I)Lcom/example/tokenweave/tokenweave/model/LineKind;" } : Jvm.MethodName) method_3_code (1 : Nat) (Option.some (Jvm.ClassFile.FieldType.object "com/example/tokenweave/tokenweave/model/LineKind"))).before args0 about1 = true := code_word (m := ⟨1, 2⟩) (meth := k1m2) (c := k1c2) (by decide +kernel) rfl rfl rfl (by decide +kernel)
set_option maxRecDepth 65536 in
theorem w_c2 : (Jvm.Cond.code ({ cls := "com/example/tokenweave/tokenweave/model/LineKind", name := "isCarried", desc := "()Z" } : Jvm.MethodName) prog_46_method_7_code (1 : Nat) (Option.some Jvm.ClassFile.FieldType.boolean)).before args0 about1 = true := code_word (m := ⟨7, 0⟩) (meth := k7m0) (c := k7c0) (by decide +kernel) rfl rfl rfl (by decide +kernel)
set_option maxRecDepth 65536 in
theorem w_c3 : (Jvm.Cond.code ({ cls := "com/example/tokenweave/tokenweave/model/LineKind", name := "hasFields", desc := "()Z" } : Jvm.MethodName) prog_46_method_8_code (1 : Nat) (Option.some Jvm.ClassFile.FieldType.boolean)).before args0 about1 = true := code_word (m := ⟨7, 1⟩) (meth := k7m1) (c := k7c1) (by decide +kernel) rfl rfl rfl (by decide +kernel)
def codes1 : List Jvm.Cond := [Jvm.Cond.code x code maxLocals ret, Jvm.Cond.code ({ cls := "com/example/tokenweave/tokenweave/model/LineKindIsCarriedPinLaw", name := "kindAt", desc := "(I)Lcom/example/tokenweave/tokenweave/model/LineKind;" } : Jvm.MethodName) method_3_code (1 : Nat) (Option.some (Jvm.ClassFile.FieldType.object "com/example/tokenweave/tokenweave/model/LineKind")), Jvm.Cond.code ({ cls := "com/example/tokenweave/tokenweave/model/LineKind", name := "isCarried", desc := "()Z" } : Jvm.MethodName) prog_46_method_7_code (1 : Nat) (Option.some Jvm.ClassFile.FieldType.boolean), Jvm.Cond.code ({ cls := "com/example/tokenweave/tokenweave/model/LineKind", name := "hasFields", desc := "()Z" } : Jvm.MethodName) prog_46_method_8_code (1 : Nat) (Option.some Jvm.ClassFile.FieldType.boolean)]
set_option maxRecDepth 65536 in
theorem codes_eq : words1.filter isCode = codes1 := rfl
theorem w_codes : ∀ c ∈ words1.filter isCode, c.before args0 about1 = true := by
  rw [codes_eq]
  intro c hc
  simp only [codes1, List.mem_cons, List.not_mem_nil, or_false] at hc
  rcases hc with rfl | rfl | rfl | rfl
  · exact w_c0
  · exact w_c1
  · exact w_c2
  · exact w_c3
set_option maxRecDepth 65536 in
theorem w_t1 : (words1.take 24).all (fun c => isCode c || c.before args0 about1) = true := by decide +kernel
set_option maxRecDepth 65536 in
theorem w_t2 : (words1.drop 24).all (fun c => isCode c || c.before args0 about1) = true := by decide +kernel
theorem w_tables : (allAtoms (Jvm.Cond.code x code maxLocals ret :: tables_1)).before args0 about1 = true := by
  rw [allAtoms_all]
  show words1.all (fun c => c.before args0 about1) = true
  refine all_split ?_ w_codes
  rw [← List.take_append_drop 24 words1, List.all_append, w_t1, w_t2]
  rfl
set_option maxRecDepth 65536 in
theorem w_case : (Jvm.Cond.and given_1 narrow_1).before args0 about1 = true := by decide +kernel
theorem w_applies : (headSpec (Jvm.Cond.code x code maxLocals ret :: tables_1) room_1).applies x e0.platform about1 = true :=
  (Spec.applies_iff w_frames).mpr ⟨w_running, w_runnable, w_alone, w_named, w_hears, w_ripe, w_room, w_tables⟩
theorem atStart : AtStart classFile x code maxLocals ret World_1 tables_1 room_1 Calls_1 rest_1 Pre_1 launch0 p0 e0 about1 theMethod args0 below0 :=
  ⟨lists_1, trivial, launch0.admits_env _ _ _, launch0.least_env, fairChoices_fair.cas, fairChoices_fair.clock, w_frames, w_args, w_heap, w_applies, trivial, trivial, w_case⟩
end start1
theorem witness_1 : WitnessClaimed_1 := ⟨start1.p0, start1.e0, start1.about1, start1.theMethod, start1.args0, start1.below0, start1.atStart⟩
end Jvm.Pilot.@@N@@
