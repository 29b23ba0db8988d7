import JvmDerived
import JvmDerived.Pilot.@@N@@Statement
import JvmDerived.Pilot.@@N@@Code
set_option linter.unusedVariables false
set_option linter.unusedSimpArgs false
namespace Jvm.Pilot.@@N@@
open Jvm Jvm.ClassFile Sem Op Lib Jvm.Free Jvm.Stand Jvm.LawKit Jvm.RoadKit Bundle Jvm.Pilot.@@N@@.Jvm.D
theorem own_ordinal {args : Array Value} {Z : State} {t : Term} {a : Addr} {C n d : String} {k : Int32} (ev : t.eval args Z none [] Z = some (.ref a)) (h : (Jvm.Cond.eq (Term.field t C n d) (Term.int k)).value args Z none Z [] = some true) : Fld Z Z.heap a C n d (.int k) := by
  apply Fld.start
  obtain ⟨x, y, ex, ey, hk, -⟩ := cmp_v (Or.inl h)
  have hf : Z.fieldOf? a C n d = some x := (fld_at ev).symm.trans ex
  have hy : y = .int k := Option.some.inj (ey.symm.trans (Term.int_eval k))
  subst hy
  cases x <;> simp [Kin, Value.isRef] at hk
  rename_i z
  have q := gotT (Cond.eq_ints ex ey) h
  rw [hf, q]
theorem own_and3 (x : Int32) : (x &&& (3 : Int32)) = (0 : Int32) ∨ (x &&& (3 : Int32)) = (1 : Int32) ∨ (x &&& (3 : Int32)) = (2 : Int32) ∨ (x &&& (3 : Int32)) = (3 : Int32) := by
  obtain ⟨a, b⟩ := c_and x (3 : Int32) (by decide)
  have e3 : ((3 : Int32)).toInt = 3 := rfl
  rw [e3] at b
  generalize (x &&& (3 : Int32)) = r at *
  have h : r.toInt = 0 ∨ r.toInt = 1 ∨ r.toInt = 2 ∨ r.toInt = 3 := by omega
  rcases h with h | h | h | h
  · exact Or.inl (Int32.toInt_inj.mp (h.trans (rfl : (0 : Int) = ((0 : Int32)).toInt)))
  · exact Or.inr (Or.inl (Int32.toInt_inj.mp (h.trans (rfl : (1 : Int) = ((1 : Int32)).toInt))))
  · exact Or.inr (Or.inr (Or.inl (Int32.toInt_inj.mp (h.trans (rfl : (2 : Int) = ((2 : Int32)).toInt)))))
  · exact Or.inr (Or.inr (Or.inr (Int32.toInt_inj.mp (h.trans (rfl : (3 : Int) = ((3 : Int32)).toInt)))))
def own_follows (a : Addr) (w_ACTIVE : Addr) : Int32 := if a = w_ACTIVE then (0 : Int32) else (1 : Int32)
def own_next (a : Addr) (s : Int32) (w_ACTIVE : Addr) (w_CLOSED : Addr) (w_REACTIVATED : Addr) : Addr := if a = w_ACTIVE then a else if s = (0 : Int32) then if a = w_CLOSED then w_REACTIVATED else a else w_CLOSED
theorem d1_0 : decode prog_30_method_6_code 0 = .ok (.aload_n 0, 1) := by decide +kernel
theorem d1_1 : decode prog_30_method_6_code 1 = .ok (.getstatic 3, 3) := by decide +kernel
theorem d1_4 : decode prog_30_method_6_code 4 = .ok (.if_acmp .eq 7, 3) := by decide +kernel
theorem d1_7 : decode prog_30_method_6_code 7 = .ok (.iconst 1, 1) := by decide +kernel
theorem d1_8 : decode prog_30_method_6_code 8 = .ok (.goto 4, 3) := by decide +kernel
theorem d1_11 : decode prog_30_method_6_code 11 = .ok (.iconst 0, 1) := by decide +kernel
theorem d1_12 : decode prog_30_method_6_code 12 = .ok (.ireturn, 1) := by decide +kernel
theorem pn_1 : plainName "com/example/millrate/millrate/ledger/ObligationStatus" = true := by first | (simp [plainName, overriddenIn]; done) | decide +kernel
theorem ef_1 (m : MethodId) (x0 : Addr) : entryFrame m #[(.ref x0)] 1 = mkF m 0 #[.val (.ref x0)] [] := by first | (simp [entryFrame, mkF, argsToLocals, Value.category]; done) | rfl
def Q1 (Z : State) (a : Addr) (w_ACTIVE : Addr) (r : Int32) (h0 : Heap) (n0 : Nat) (v : Option Value) (h : Heap) (L : List Loc) : Prop := v = some (.int r) ∧ Fr n0 L ∧ h = h0
set_option maxRecDepth 65536 in
set_option maxHeartbeats 40000000 in
theorem rm1 (l : Launch) (Z : State) (a0 : Array Value) (hw : ∀ d ∈ tables_1, d.before a0 Z = true) (ws : List Jvm.Cond) (a : Addr) (w_ACTIVE : Addr) (r : Int32) (h0 : Heap) (n0 : Nat) (S_ACTIVE : Sta Z h0 "com/example/millrate/millrate/ledger/ObligationStatus" "ACTIVE" "Lcom/example/millrate/millrate/ledger/ObligationStatus;" (.ref w_ACTIVE)) (hr : own_follows a w_ACTIVE = r) :
    MetFree l (⟨"com/example/millrate/millrate/ledger/ObligationStatus", "followsBalances", "()Z"⟩ : MethodName) (head1 (Jvm.Cond.code (⟨"com/example/millrate/millrate/ledger/ObligationStatus", "followsBalances", "()Z"⟩ : MethodName) prog_30_method_6_code 1 (some .boolean) :: ws) ({ frames := 0, cells := 0, slots := 0, locals := 0 } : Room)) (fun ar0 U => ar0 = #[(.ref a)] ∧ Z.Warmed39 U.vm ∧ U.heap = h0) (fun _ _ _ _ _ => True) (fun _ U o U' => ∃ v L, o = .returned v ∧ Q1 Z a w_ACTIVE r h0 n0 v U'.heap L ∧ FrameEnd U o U' L ({ frames := 0, cells := 0, slots := 0, locals := 0 } : Room).cells ({ frames := 0, cells := 0, slots := 0, locals := 0 } : Room).slots) := by
  refine MetFree.of_bodySF (plainFor_of_name pn_1) hisR ?_
  intro p e s m args below meth c s₁ Bd hml0 hP hK
  obtain ⟨rfl, hZ, hh⟩ := hP
  have hx := Bd.exec
  have hby := Bd.bytes
  have hml : c.maxLocals = 1 := hml0
  have hown : s.vm.findClass "com/example/millrate/millrate/ledger/ObligationStatus" = some m.cls := findClass_of_methodNamed Bd.named
  have X0 : Stand p l e ({ frames := 0, cells := 0, slots := 0, locals := 0 } : Room) s m #[(.ref a)] below meth c s₁ [] 0 0 := Stand.of_body Bd
  have e0 : s₁.heap = h0 := by rw [← hh, Bd.state]; rfl
  have N0 := Fr.nil n0
  have pre0 : ∀ t, Steps p.tables e below (s₁.setTop (mkF m 0 #[.val (.ref a)] [])) t → Steps p.tables e below (s₁.setTop (entryFrame m #[(.ref a)] 1)) t := fun t k => castTop (ef_1 m a) k
  obtain ⟨T1, X1, e1, st1⟩ := getS2 X0 hx hZ hown (host := "") (Or.inl (hw _ (List.mem_of_getElem? (i := 22) rfl))) Via.refl e0 S_ACTIVE (g := (mkF m 1 #[.val (.ref a)] [(.ref a)])) rfl (hb hby d1_1)
  have pre2 : ∀ t, Steps p.tables e below (T1.setTop (mkF m 4 #[.val (.ref a)] [(.ref w_ACTIVE), (.ref a)])) t → Steps p.tables e below (s₁.setTop (entryFrame m #[(.ref a)] 1)) t := by
    intro t k
    refine pre0 _ ?_
    show Steps p.tables e below (s₁.setTop (mkF m 0 #[.val (.ref a)] [])) _
    refine XS.aloadN X0.here hx rfl (hb hby d1_0) rfl rfl ?_
    show Steps p.tables e below (s₁.setTop (mkF m 1 #[.val (.ref a)] [(.ref a)])) _
    refine st1 _ ?_
    show Steps p.tables e below (T1.setTop (mkF m 4 #[.val (.ref a)] [(.ref w_ACTIVE), (.ref a)])) _
    exact k
  by_cases hc3 : a = w_ACTIVE
  ·
    have pre4 : ∀ t, Steps p.tables e below (T1.setTop (mkF m 11 #[.val (.ref a)] [])) t → Steps p.tables e below (s₁.setTop (entryFrame m #[(.ref a)] 1)) t := by
      intro t k
      refine pre2 _ ?_
      refine Jvm.RoadKit.acmp (g := (mkF m 4 #[.val (.ref a)] [(.ref w_ACTIVE), (.ref a)])) X1 hx rfl rfl rfl (pc0 := 4) (pc' := 11) (same := true) rfl (hb hby d1_4) rfl (decide_eq_true (congrArg Value.ref (hc3 : a = w_ACTIVE))) (by decide) (by decide) ?_
      exact k
    have hres : (0 : Int32) = r := (show (own_follows a w_ACTIVE) = (0 : Int32) from (by unfold own_follows; rw [if_pos (hc3 : a = w_ACTIVE)])).symm.trans hr
    obtain ⟨fs, hr5, hrun, hended, hW, hsame⟩ := X1.leave (v := some (.int (0 : Int32))) (fun h => by rw [Bd.returns] at h; cases h)
    refine ⟨_, _, pre4 _ ?_, hrun, hended, _, _, rfl, ?_, ⟨_, rfl⟩, hW, hsame.mono (by decide) (by decide)⟩
    · show Steps p.tables e below (T1.setTop (mkF m 11 #[.val (.ref a)] [])) _
      refine XT.iconstV X1.here hx rfl (0 : Int32) (hb hby d1_11) (by decide) ?_
      show Steps p.tables e below (T1.setTop (mkF m 12 #[.val (.ref a)] [(.int (0 : Int32))])) _
      exact retN X1 hx (t := .boolean) Bd.returns (by simp) (hb hby d1_12) hr5
    · show Q1 Z _ _ _ h0 n0 _ T1.heap _
      rw [e1]
      exact ⟨by rw [hres], N0, rfl⟩
  ·
    have pre6 : ∀ t, Steps p.tables e below (T1.setTop (mkF m 7 #[.val (.ref a)] [])) t → Steps p.tables e below (s₁.setTop (entryFrame m #[(.ref a)] 1)) t := by
      intro t k
      refine pre2 _ ?_
      refine Jvm.RoadKit.acmp (g := (mkF m 4 #[.val (.ref a)] [(.ref w_ACTIVE), (.ref a)])) X1 hx rfl rfl rfl (pc0 := 4) (pc' := 7) (same := false) rfl (hb hby d1_4) rfl (decide_eq_false fun q => (hc3 : ¬ (a = w_ACTIVE)) (Value.ref.inj q)) (by decide) (by decide) ?_
      exact k
    have hres : (1 : Int32) = r := (show (own_follows a w_ACTIVE) = (1 : Int32) from (by unfold own_follows; rw [if_neg (hc3 : ¬ (a = w_ACTIVE))])).symm.trans hr
    obtain ⟨fs, hr7, hrun, hended, hW, hsame⟩ := X1.leave (v := some (.int (1 : Int32))) (fun h => by rw [Bd.returns] at h; cases h)
    refine ⟨_, _, pre6 _ ?_, hrun, hended, _, _, rfl, ?_, ⟨_, rfl⟩, hW, hsame.mono (by decide) (by decide)⟩
    · show Steps p.tables e below (T1.setTop (mkF m 7 #[.val (.ref a)] [])) _
      refine XT.iconstV X1.here hx rfl (1 : Int32) (hb hby d1_7) (by decide) ?_
      show Steps p.tables e below (T1.setTop (mkF m 8 #[.val (.ref a)] [(.int (1 : Int32))])) _
      refine XS.goto X1.here hx rfl (pc0 := 8) (pc' := 12) rfl (hb hby d1_8) (by decide) (by decide) ?_
      show Steps p.tables e below (T1.setTop (mkF m 12 #[.val (.ref a)] [(.int (1 : Int32))])) _
      exact retN X1 hx (t := .boolean) Bd.returns (by simp) (hb hby d1_12) hr7
    · show Q1 Z _ _ _ h0 n0 _ T1.heap _
      rw [e1]
      exact ⟨by rw [hres], N0, rfl⟩
theorem d2_0 : decode prog_30_method_7_code 0 = .ok (.aload_n 0, 1) := by decide +kernel
theorem d2_1 : decode prog_30_method_7_code 1 = .ok (.invokevirtual 71, 3) := by decide +kernel
theorem d2_4 : decode prog_30_method_7_code 4 = .ok (.ifCond .ne 8, 3) := by decide +kernel
theorem d2_7 : decode prog_30_method_7_code 7 = .ok (.aload_n 0, 1) := by decide +kernel
theorem d2_8 : decode prog_30_method_7_code 8 = .ok (.astore_n 2, 1) := by decide +kernel
theorem d2_9 : decode prog_30_method_7_code 9 = .ok (.goto 30, 3) := by decide +kernel
theorem d2_12 : decode prog_30_method_7_code 12 = .ok (.iload_n 1, 1) := by decide +kernel
theorem d2_13 : decode prog_30_method_7_code 13 = .ok (.ifCond .eq 10, 3) := by decide +kernel
theorem d2_16 : decode prog_30_method_7_code 16 = .ok (.getstatic 10, 3) := by decide +kernel
theorem d2_19 : decode prog_30_method_7_code 19 = .ok (.astore_n 2, 1) := by decide +kernel
theorem d2_20 : decode prog_30_method_7_code 20 = .ok (.goto 19, 3) := by decide +kernel
theorem d2_23 : decode prog_30_method_7_code 23 = .ok (.aload_n 0, 1) := by decide +kernel
theorem d2_24 : decode prog_30_method_7_code 24 = .ok (.getstatic 10, 3) := by decide +kernel
theorem d2_27 : decode prog_30_method_7_code 27 = .ok (.if_acmp .ne 10, 3) := by decide +kernel
theorem d2_30 : decode prog_30_method_7_code 30 = .ok (.getstatic 13, 3) := by decide +kernel
theorem d2_33 : decode prog_30_method_7_code 33 = .ok (.astore_n 2, 1) := by decide +kernel
theorem d2_34 : decode prog_30_method_7_code 34 = .ok (.goto 5, 3) := by decide +kernel
theorem d2_37 : decode prog_30_method_7_code 37 = .ok (.aload_n 0, 1) := by decide +kernel
theorem d2_38 : decode prog_30_method_7_code 38 = .ok (.astore_n 2, 1) := by decide +kernel
theorem d2_39 : decode prog_30_method_7_code 39 = .ok (.aload_n 2, 1) := by decide +kernel
theorem d2_40 : decode prog_30_method_7_code 40 = .ok (.areturn, 1) := by decide +kernel
theorem pn_2 : plainName "com/example/millrate/millrate/ledger/ObligationStatus" = true := by first | (simp [plainName, overriddenIn]; done) | decide +kernel
theorem ef_2 (m : MethodId) (x0 : Addr) (x1 : Int32) : entryFrame m #[(.ref x0), (.int x1)] 3 = mkF m 0 #[.val (.ref x0), .val (.int x1), .unset] [] := by first | (simp [entryFrame, mkF, argsToLocals, Value.category]; done) | rfl
def Q2 (Z : State) (a : Addr) (s1 : Int32) (w_ACTIVE : Addr) (w_CLOSED : Addr) (w_REACTIVATED : Addr) (r : Addr) (h0 : Heap) (n0 : Nat) (v : Option Value) (h : Heap) (L : List Loc) : Prop := v = some (.ref r) ∧ Fr n0 L ∧ h = h0
set_option maxRecDepth 65536 in
set_option maxHeartbeats 40000000 in
theorem rm2 (l : Launch) (Z : State) (a0 : Array Value) (hw : ∀ d ∈ tables_1, d.before a0 Z = true) (ws : List Jvm.Cond) (a : Addr) (s1 : Int32) (w_ACTIVE : Addr) (w_CLOSED : Addr) (w_REACTIVATED : Addr) (r : Addr) (h0 : Heap) (n0 : Nat) (S_ACTIVE : Sta Z h0 "com/example/millrate/millrate/ledger/ObligationStatus" "ACTIVE" "Lcom/example/millrate/millrate/ledger/ObligationStatus;" (.ref w_ACTIVE)) (S_CLOSED : Sta Z h0 "com/example/millrate/millrate/ledger/ObligationStatus" "CLOSED" "Lcom/example/millrate/millrate/ledger/ObligationStatus;" (.ref w_CLOSED)) (S_REACTIVATED : Sta Z h0 "com/example/millrate/millrate/ledger/ObligationStatus" "REACTIVATED" "Lcom/example/millrate/millrate/ledger/ObligationStatus;" (.ref w_REACTIVATED)) (Ea : Exa Z h0 a "com/example/millrate/millrate/ledger/ObligationStatus") (hr : (own_next a s1 w_ACTIVE w_CLOSED w_REACTIVATED) = r) :
    MetFree l (⟨"com/example/millrate/millrate/ledger/ObligationStatus", "next", "(Z)Lcom/example/millrate/millrate/ledger/ObligationStatus;"⟩ : MethodName) (head1 (Jvm.Cond.code (⟨"com/example/millrate/millrate/ledger/ObligationStatus", "next", "(Z)Lcom/example/millrate/millrate/ledger/ObligationStatus;"⟩ : MethodName) prog_30_method_7_code 3 (some (.object "com/example/millrate/millrate/ledger/ObligationStatus")) :: ws) ({ frames := 1, cells := 0, slots := 0, locals := 12 } : Room)) (fun ar0 U => ar0 = #[(.ref a), (.int s1)] ∧ Z.Warmed39 U.vm ∧ U.heap = h0) (fun _ _ _ _ _ => True) (fun _ U o U' => ∃ v L, o = .returned v ∧ Q2 Z a s1 w_ACTIVE w_CLOSED w_REACTIVATED r h0 n0 v U'.heap L ∧ FrameEnd U o U' L ({ frames := 1, cells := 0, slots := 0, locals := 12 } : Room).cells ({ frames := 1, cells := 0, slots := 0, locals := 12 } : Room).slots) := by
  refine MetFree.of_bodySF (plainFor_of_name pn_2) hisR ?_
  intro p e s m args below meth c s₁ Bd hml0 hP hK
  obtain ⟨rfl, hZ, hh⟩ := hP
  have hx := Bd.exec
  have hby := Bd.bytes
  have hml : c.maxLocals = 3 := hml0
  have hown : s.vm.findClass "com/example/millrate/millrate/ledger/ObligationStatus" = some m.cls := findClass_of_methodNamed Bd.named
  have X0 : Stand p l e ({ frames := 1, cells := 0, slots := 0, locals := 12 } : Room) s m #[(.ref a), (.int s1)] below meth c s₁ [] 0 0 := Stand.of_body Bd
  have e0 : s₁.heap = h0 := by rw [← hh, Bd.state]; rfl
  have N0 := Fr.nil n0
  have pre0 : ∀ t, Steps p.tables e below (s₁.setTop (mkF m 0 #[.val (.ref a), .val (.int s1), .unset] [])) t → Steps p.tables e below (s₁.setTop (entryFrame m #[(.ref a), (.int s1)] 3)) t := fun t k => castTop (ef_2 m a s1) k
  by_cases hc1 : a = w_ACTIVE
  ·
    obtain ⟨cq3, kq3, q3a, q3b, q3c⟩ := isOf hZ e0 Ea
    obtain ⟨_, _, ⟨T2, L2, k2, n2⟩, -, X2, ⟨Lc2, hQ2, l2, y2, z2⟩, st2⟩ := X0.virtualBack hx (y := (⟨"com/example/millrate/millrate/ledger/ObligationStatus", "followsBalances", "()Z"⟩ : MethodName)) (z := (⟨"com/example/millrate/millrate/ledger/ObligationStatus", "followsBalances", "()Z"⟩ : MethodName)) hown (mvT hZ (hw _ (List.mem_of_getElem? (i := 17) rfl))) (mvT hZ (hw _ (List.mem_of_getElem? (i := 18) rfl))) (notFace_of_selects (args := #[]) (mvT hZ (hw _ (List.mem_of_getElem? (i := 20) rfl)))) (mvT hZ (hw _ (List.mem_of_getElem? (i := 20) rfl))) (mvT hZ (hw _ (List.mem_of_getElem? (i := 19) rfl))) (by decide) (backOf (W := 0) (rm1 l Z a0 hw [] a w_ACTIVE (0 : Int32) h0 n0 S_ACTIVE (by unfold own_follows; rw [if_pos (hc1 : a = w_ACTIVE)])) hZ (hw _ (List.mem_of_getElem? (i := 21) rfl)) (hw _ (List.mem_of_getElem? (i := 3) rfl)) (by decide) (by decide)) q3a q3c (g := (mkF m 1 #[.val (.ref a), .val (.int s1), .unset] [(.ref a)])) rfl (by rw [hml]; rfl) (Steps.refl _) (argsL := []) (rest := []) (lenOf (show parseMethodDescriptor "()Z" = some ⟨[], some .boolean⟩ by decide +kernel) rfl) rfl (by show 2 * 0 + _ ≤ _; exact Nat.le_of_eq rfl) (hb hby d2_1) (fun _ _ => ⟨rfl, e0, (by decide : 0 + 0 ≤ _), (by decide : 0 + 0 ≤ _)⟩)
    dsimp only [Pt.U, Pt.locs, Pt.cells, Pt.slots] at X2 l2 y2 z2 st2 hQ2
    subst l2 y2 z2
    obtain ⟨rfl, Nq2, e2⟩ := hQ2
    have N2 := Fr.app N0 Nq2
    have hres : a = r := (show (own_next a s1 w_ACTIVE w_CLOSED w_REACTIVATED) = a from (by unfold own_next; rw [if_pos (hc1 : a = w_ACTIVE)])).symm.trans hr
    obtain ⟨fs, hr4, hrun, hended, hW, hsame⟩ := X2.leave (v := some (.ref a)) (fun h => by rw [Bd.returns] at h; cases h)
    refine ⟨_, _, pre0 _ ?_, hrun, hended, _, _, rfl, ?_, ⟨_, rfl⟩, hW, hsame.mono (by decide) (by decide)⟩
    · show Steps p.tables e below (s₁.setTop (mkF m 0 #[.val (.ref a), .val (.int s1), .unset] [])) _
      refine XS.aloadN X0.here hx rfl (hb hby d2_0) rfl rfl ?_
      show Steps p.tables e below (s₁.setTop (mkF m 1 #[.val (.ref a), .val (.int s1), .unset] [(.ref a)])) _
      refine st2.trans ?_
      show Steps p.tables e below (T2.setTop (mkF m 4 #[.val (.ref a), .val (.int s1), .unset] [(.int (0 : Int32))])) _
      refine XS.ifNo X2.here hx rfl (hb hby d2_4) rfl ((if0 _ _).trans (teq (rfl : (0 : Int32) = (0 : Int32))).2) ?_
      show Steps p.tables e below (T2.setTop (mkF m 7 #[.val (.ref a), .val (.int s1), .unset] [])) _
      refine XS.aloadN X2.here hx rfl (hb hby d2_7) rfl rfl ?_
      show Steps p.tables e below (T2.setTop (mkF m 8 #[.val (.ref a), .val (.int s1), .unset] [(.ref a)])) _
      refine XS.astoreN X2.here hx rfl (hb hby d2_8) rfl rfl (l' := #[.val (.ref a), .val (.int s1), .val (.ref a)]) rfl ?_
      show Steps p.tables e below (T2.setTop (mkF m 9 #[.val (.ref a), .val (.int s1), .val (.ref a)] [])) _
      refine XS.goto X2.here hx rfl (pc0 := 9) (pc' := 39) rfl (hb hby d2_9) (by decide) (by decide) ?_
      show Steps p.tables e below (T2.setTop (mkF m 39 #[.val (.ref a), .val (.int s1), .val (.ref a)] [])) _
      refine XS.aloadN X2.here hx rfl (hb hby d2_39) rfl rfl ?_
      show Steps p.tables e below (T2.setTop (mkF m 40 #[.val (.ref a), .val (.int s1), .val (.ref a)] [(.ref a)])) _
      exact retOut X2 hx Bd.returns rfl (Or.inr (Or.inr (Or.inr (Or.inr ⟨rfl, rfl, rfl⟩)))) (hb hby d2_40) hr4
    · show Q2 Z _ _ _ _ _ _ h0 n0 _ T2.heap _
      rw [e2]
      exact ⟨by rw [hres], N2, rfl⟩
  ·
    obtain ⟨cq6, kq6, q6a, q6b, q6c⟩ := isOf hZ e0 Ea
    obtain ⟨_, _, ⟨T5, L5, k5, n5⟩, -, X5, ⟨Lc5, hQ5, l5, y5, z5⟩, st5⟩ := X0.virtualBack hx (y := (⟨"com/example/millrate/millrate/ledger/ObligationStatus", "followsBalances", "()Z"⟩ : MethodName)) (z := (⟨"com/example/millrate/millrate/ledger/ObligationStatus", "followsBalances", "()Z"⟩ : MethodName)) hown (mvT hZ (hw _ (List.mem_of_getElem? (i := 17) rfl))) (mvT hZ (hw _ (List.mem_of_getElem? (i := 18) rfl))) (notFace_of_selects (args := #[]) (mvT hZ (hw _ (List.mem_of_getElem? (i := 20) rfl)))) (mvT hZ (hw _ (List.mem_of_getElem? (i := 20) rfl))) (mvT hZ (hw _ (List.mem_of_getElem? (i := 19) rfl))) (by decide) (backOf (W := 0) (rm1 l Z a0 hw [] a w_ACTIVE (1 : Int32) h0 n0 S_ACTIVE (by unfold own_follows; rw [if_neg (hc1 : ¬ (a = w_ACTIVE))])) hZ (hw _ (List.mem_of_getElem? (i := 21) rfl)) (hw _ (List.mem_of_getElem? (i := 3) rfl)) (by decide) (by decide)) q6a q6c (g := (mkF m 1 #[.val (.ref a), .val (.int s1), .unset] [(.ref a)])) rfl (by rw [hml]; rfl) (Steps.refl _) (argsL := []) (rest := []) (lenOf (show parseMethodDescriptor "()Z" = some ⟨[], some .boolean⟩ by decide +kernel) rfl) rfl (by show 2 * 0 + _ ≤ _; exact Nat.le_of_eq rfl) (hb hby d2_1) (fun _ _ => ⟨rfl, e0, (by decide : 0 + 0 ≤ _), (by decide : 0 + 0 ≤ _)⟩)
    dsimp only [Pt.U, Pt.locs, Pt.cells, Pt.slots] at X5 l5 y5 z5 st5 hQ5
    subst l5 y5 z5
    obtain ⟨rfl, Nq5, e5⟩ := hQ5
    have N5 := Fr.app N0 Nq5
    have pre7 : ∀ t, Steps p.tables e below (T5.setTop (mkF m 13 #[.val (.ref a), .val (.int s1), .unset] [(.int s1)])) t → Steps p.tables e below (s₁.setTop (entryFrame m #[(.ref a), (.int s1)] 3)) t := by
      intro t k
      refine pre0 _ ?_
      show Steps p.tables e below (s₁.setTop (mkF m 0 #[.val (.ref a), .val (.int s1), .unset] [])) _
      refine XS.aloadN X0.here hx rfl (hb hby d2_0) rfl rfl ?_
      show Steps p.tables e below (s₁.setTop (mkF m 1 #[.val (.ref a), .val (.int s1), .unset] [(.ref a)])) _
      refine st5.trans ?_
      show Steps p.tables e below (T5.setTop (mkF m 4 #[.val (.ref a), .val (.int s1), .unset] [(.int (1 : Int32))])) _
      refine XS.ifYes X5.here hx rfl (pc0 := 4) (pc' := 12) rfl (hb hby d2_4) rfl ((if0 _ _).trans (feq ((by decide) : ¬ ((1 : Int32) = (0 : Int32)))).2) (by decide) (by decide) ?_
      show Steps p.tables e below (T5.setTop (mkF m 12 #[.val (.ref a), .val (.int s1), .unset] [])) _
      refine XS.iloadN X5.here hx rfl (hb hby d2_12) rfl ?_
      show Steps p.tables e below (T5.setTop (mkF m 13 #[.val (.ref a), .val (.int s1), .unset] [(.int s1)])) _
      exact k
    by_cases hc8 : s1 = (0 : Int32)
    ·
      have pre9 : ∀ t, Steps p.tables e below (T5.setTop (mkF m 23 #[.val (.ref a), .val (.int s1), .unset] [])) t → Steps p.tables e below (s₁.setTop (entryFrame m #[(.ref a), (.int s1)] 3)) t := by
        intro t k
        refine pre7 _ ?_
        refine XS.ifYes X5.here hx rfl (pc0 := 13) (pc' := 23) rfl (hb hby d2_13) rfl ((if0 _ _).trans (teq (hc8 : s1 = (0 : Int32))).1) (by decide) (by decide) ?_
        exact k
      obtain ⟨T10, X10, e10, st10⟩ := getS2 X5 hx hZ hown (host := "") (Or.inl (hw _ (List.mem_of_getElem? (i := 23) rfl))) Via.refl e5 S_CLOSED (g := (mkF m 24 #[.val (.ref a), .val (.int s1), .unset] [(.ref a)])) rfl (hb hby d2_24)
      have pre11 : ∀ t, Steps p.tables e below (T10.setTop (mkF m 27 #[.val (.ref a), .val (.int s1), .unset] [(.ref w_CLOSED), (.ref a)])) t → Steps p.tables e below (s₁.setTop (entryFrame m #[(.ref a), (.int s1)] 3)) t := by
        intro t k
        refine pre9 _ ?_
        show Steps p.tables e below (T5.setTop (mkF m 23 #[.val (.ref a), .val (.int s1), .unset] [])) _
        refine XS.aloadN X5.here hx rfl (hb hby d2_23) rfl rfl ?_
        show Steps p.tables e below (T5.setTop (mkF m 24 #[.val (.ref a), .val (.int s1), .unset] [(.ref a)])) _
        refine st10 _ ?_
        show Steps p.tables e below (T10.setTop (mkF m 27 #[.val (.ref a), .val (.int s1), .unset] [(.ref w_CLOSED), (.ref a)])) _
        exact k
      by_cases hc12 : a = w_CLOSED
      ·
        have pre13 : ∀ t, Steps p.tables e below (T10.setTop (mkF m 30 #[.val (.ref a), .val (.int s1), .unset] [])) t → Steps p.tables e below (s₁.setTop (entryFrame m #[(.ref a), (.int s1)] 3)) t := by
          intro t k
          refine pre11 _ ?_
          refine Jvm.RoadKit.acmp (g := (mkF m 27 #[.val (.ref a), .val (.int s1), .unset] [(.ref w_CLOSED), (.ref a)])) X10 hx rfl rfl rfl (pc0 := 27) (pc' := 30) (same := true) rfl (hb hby d2_27) rfl (decide_eq_true (congrArg Value.ref (hc12 : a = w_CLOSED))) (by decide) (by decide) ?_
          exact k
        obtain ⟨T14, X14, e14, st14⟩ := getS2 X10 hx hZ hown (host := "") (Or.inl (hw _ (List.mem_of_getElem? (i := 24) rfl))) Via.refl e10 S_REACTIVATED (g := (mkF m 30 #[.val (.ref a), .val (.int s1), .unset] [])) rfl (hb hby d2_30)
        have hres : w_REACTIVATED = r := (show (own_next a s1 w_ACTIVE w_CLOSED w_REACTIVATED) = w_REACTIVATED from (by unfold own_next; rw [if_neg (hc1 : ¬ (a = w_ACTIVE)), if_pos (hc8 : s1 = (0 : Int32)), if_pos (hc12 : a = w_CLOSED)])).symm.trans hr
        obtain ⟨fs, hr15, hrun, hended, hW, hsame⟩ := X14.leave (v := some (.ref w_REACTIVATED)) (fun h => by rw [Bd.returns] at h; cases h)
        refine ⟨_, _, pre13 _ ?_, hrun, hended, _, _, rfl, ?_, ⟨_, rfl⟩, hW, hsame.mono (by decide) (by decide)⟩
        · show Steps p.tables e below (T10.setTop (mkF m 30 #[.val (.ref a), .val (.int s1), .unset] [])) _
          refine st14 _ ?_
          show Steps p.tables e below (T14.setTop (mkF m 33 #[.val (.ref a), .val (.int s1), .unset] [(.ref w_REACTIVATED)])) _
          refine XS.astoreN X14.here hx rfl (hb hby d2_33) rfl rfl (l' := #[.val (.ref a), .val (.int s1), .val (.ref w_REACTIVATED)]) rfl ?_
          show Steps p.tables e below (T14.setTop (mkF m 34 #[.val (.ref a), .val (.int s1), .val (.ref w_REACTIVATED)] [])) _
          refine XS.goto X14.here hx rfl (pc0 := 34) (pc' := 39) rfl (hb hby d2_34) (by decide) (by decide) ?_
          show Steps p.tables e below (T14.setTop (mkF m 39 #[.val (.ref a), .val (.int s1), .val (.ref w_REACTIVATED)] [])) _
          refine XS.aloadN X14.here hx rfl (hb hby d2_39) rfl rfl ?_
          show Steps p.tables e below (T14.setTop (mkF m 40 #[.val (.ref a), .val (.int s1), .val (.ref w_REACTIVATED)] [(.ref w_REACTIVATED)])) _
          exact retOut X14 hx Bd.returns rfl (Or.inr (Or.inr (Or.inr (Or.inr ⟨rfl, rfl, rfl⟩)))) (hb hby d2_40) hr15
        · show Q2 Z _ _ _ _ _ _ h0 n0 _ T14.heap _
          rw [e14]
          exact ⟨by rw [hres], N5, rfl⟩
      ·
        have pre16 : ∀ t, Steps p.tables e below (T10.setTop (mkF m 37 #[.val (.ref a), .val (.int s1), .unset] [])) t → Steps p.tables e below (s₁.setTop (entryFrame m #[(.ref a), (.int s1)] 3)) t := by
          intro t k
          refine pre11 _ ?_
          refine Jvm.RoadKit.acmp (g := (mkF m 27 #[.val (.ref a), .val (.int s1), .unset] [(.ref w_CLOSED), (.ref a)])) X10 hx rfl rfl rfl (pc0 := 27) (pc' := 37) (same := false) rfl (hb hby d2_27) rfl (decide_eq_false fun q => (hc12 : ¬ (a = w_CLOSED)) (Value.ref.inj q)) (by decide) (by decide) ?_
          exact k
        have hres : a = r := (show (own_next a s1 w_ACTIVE w_CLOSED w_REACTIVATED) = a from (by unfold own_next; rw [if_neg (hc1 : ¬ (a = w_ACTIVE)), if_pos (hc8 : s1 = (0 : Int32)), if_neg (hc12 : ¬ (a = w_CLOSED))])).symm.trans hr
        obtain ⟨fs, hr17, hrun, hended, hW, hsame⟩ := X10.leave (v := some (.ref a)) (fun h => by rw [Bd.returns] at h; cases h)
        refine ⟨_, _, pre16 _ ?_, hrun, hended, _, _, rfl, ?_, ⟨_, rfl⟩, hW, hsame.mono (by decide) (by decide)⟩
        · show Steps p.tables e below (T10.setTop (mkF m 37 #[.val (.ref a), .val (.int s1), .unset] [])) _
          refine XS.aloadN X10.here hx rfl (hb hby d2_37) rfl rfl ?_
          show Steps p.tables e below (T10.setTop (mkF m 38 #[.val (.ref a), .val (.int s1), .unset] [(.ref a)])) _
          refine XS.astoreN X10.here hx rfl (hb hby d2_38) rfl rfl (l' := #[.val (.ref a), .val (.int s1), .val (.ref a)]) rfl ?_
          show Steps p.tables e below (T10.setTop (mkF m 39 #[.val (.ref a), .val (.int s1), .val (.ref a)] [])) _
          refine XS.aloadN X10.here hx rfl (hb hby d2_39) rfl rfl ?_
          show Steps p.tables e below (T10.setTop (mkF m 40 #[.val (.ref a), .val (.int s1), .val (.ref a)] [(.ref a)])) _
          exact retOut X10 hx Bd.returns rfl (Or.inr (Or.inr (Or.inr (Or.inr ⟨rfl, rfl, rfl⟩)))) (hb hby d2_40) hr17
        · show Q2 Z _ _ _ _ _ _ h0 n0 _ T10.heap _
          rw [e10]
          exact ⟨by rw [hres], N5, rfl⟩
    ·
      have pre18 : ∀ t, Steps p.tables e below (T5.setTop (mkF m 16 #[.val (.ref a), .val (.int s1), .unset] [])) t → Steps p.tables e below (s₁.setTop (entryFrame m #[(.ref a), (.int s1)] 3)) t := by
        intro t k
        refine pre7 _ ?_
        refine XS.ifNo X5.here hx rfl (hb hby d2_13) rfl ((if0 _ _).trans (feq (hc8 : ¬ (s1 = (0 : Int32)))).1) ?_
        exact k
      obtain ⟨T19, X19, e19, st19⟩ := getS2 X5 hx hZ hown (host := "") (Or.inl (hw _ (List.mem_of_getElem? (i := 23) rfl))) Via.refl e5 S_CLOSED (g := (mkF m 16 #[.val (.ref a), .val (.int s1), .unset] [])) rfl (hb hby d2_16)
      have hres : w_CLOSED = r := (show (own_next a s1 w_ACTIVE w_CLOSED w_REACTIVATED) = w_CLOSED from (by unfold own_next; rw [if_neg (hc1 : ¬ (a = w_ACTIVE)), if_neg (hc8 : ¬ (s1 = (0 : Int32)))])).symm.trans hr
      obtain ⟨fs, hr20, hrun, hended, hW, hsame⟩ := X19.leave (v := some (.ref w_CLOSED)) (fun h => by rw [Bd.returns] at h; cases h)
      refine ⟨_, _, pre18 _ ?_, hrun, hended, _, _, rfl, ?_, ⟨_, rfl⟩, hW, hsame.mono (by decide) (by decide)⟩
      · show Steps p.tables e below (T5.setTop (mkF m 16 #[.val (.ref a), .val (.int s1), .unset] [])) _
        refine st19 _ ?_
        show Steps p.tables e below (T19.setTop (mkF m 19 #[.val (.ref a), .val (.int s1), .unset] [(.ref w_CLOSED)])) _
        refine XS.astoreN X19.here hx rfl (hb hby d2_19) rfl rfl (l' := #[.val (.ref a), .val (.int s1), .val (.ref w_CLOSED)]) rfl ?_
        show Steps p.tables e below (T19.setTop (mkF m 20 #[.val (.ref a), .val (.int s1), .val (.ref w_CLOSED)] [])) _
        refine XS.goto X19.here hx rfl (pc0 := 20) (pc' := 39) rfl (hb hby d2_20) (by decide) (by decide) ?_
        show Steps p.tables e below (T19.setTop (mkF m 39 #[.val (.ref a), .val (.int s1), .val (.ref w_CLOSED)] [])) _
        refine XS.aloadN X19.here hx rfl (hb hby d2_39) rfl rfl ?_
        show Steps p.tables e below (T19.setTop (mkF m 40 #[.val (.ref a), .val (.int s1), .val (.ref w_CLOSED)] [(.ref w_CLOSED)])) _
        exact retOut X19 hx Bd.returns rfl (Or.inr (Or.inr (Or.inr (Or.inr ⟨rfl, rfl, rfl⟩)))) (hb hby d2_40) hr20
      · show Q2 Z _ _ _ _ _ _ h0 n0 _ T19.heap _
        rw [e19]
        exact ⟨by rw [hres], N5, rfl⟩
theorem pn_0 : plainName "com/example/millrate/millrate/ledger/ObligationStatusNextPinLaw" = true := by first | (simp [plainName, overriddenIn]; done) | decide +kernel
theorem ef_0 (m : MethodId) (x0 : Int32) (x1 : Int32) : entryFrame m #[(.int x0), (.int x1)] maxLocals = mkF m 0 #[.val (.int x0), .val (.int x1), .unset, .unset, .unset, .unset, .unset, .unset, .unset] [] := by first | (simp [entryFrame, mkF, argsToLocals, Value.category, maxLocals]; done) | rfl
def Q0 (Z : State) (p1 : Int32) (p2 : Int32) (w_ACTIVE : Addr) (w_STOPPED : Addr) (w_CLOSED : Addr) (w_REACTIVATED : Addr) (h0 : Heap) (n0 : Nat) (v : Option Value) (h : Heap) (L : List Loc) : Prop := v = some (.int (1 : Int32)) ∧ Fr n0 L
set_option maxRecDepth 65536 in
set_option maxHeartbeats 40000000 in
theorem rm0 (l : Launch) (Z : State) (a0 : Array Value) (hw : ∀ d ∈ tables_1, d.before a0 Z = true) (ws : List Jvm.Cond) (p1 : Int32) (p2 : Int32) (w_ACTIVE : Addr) (w_STOPPED : Addr) (w_CLOSED : Addr) (w_REACTIVATED : Addr) (h0 : Heap) (n0 : Nat) (Z0 : n0 ≤ h0.size) (S_ACTIVE : Sta Z h0 "com/example/millrate/millrate/ledger/ObligationStatus" "ACTIVE" "Lcom/example/millrate/millrate/ledger/ObligationStatus;" (.ref w_ACTIVE)) (S_STOPPED : Sta Z h0 "com/example/millrate/millrate/ledger/ObligationStatus" "STOPPED" "Lcom/example/millrate/millrate/ledger/ObligationStatus;" (.ref w_STOPPED)) (S_CLOSED : Sta Z h0 "com/example/millrate/millrate/ledger/ObligationStatus" "CLOSED" "Lcom/example/millrate/millrate/ledger/ObligationStatus;" (.ref w_CLOSED)) (S_REACTIVATED : Sta Z h0 "com/example/millrate/millrate/ledger/ObligationStatus" "REACTIVATED" "Lcom/example/millrate/millrate/ledger/ObligationStatus;" (.ref w_REACTIVATED)) (E_ACTIVE : Exa Z h0 w_ACTIVE "com/example/millrate/millrate/ledger/ObligationStatus") (E_STOPPED : Exa Z h0 w_STOPPED "com/example/millrate/millrate/ledger/ObligationStatus") (E_CLOSED : Exa Z h0 w_CLOSED "com/example/millrate/millrate/ledger/ObligationStatus") (E_REACTIVATED : Exa Z h0 w_REACTIVATED "com/example/millrate/millrate/ledger/ObligationStatus") (O_ACTIVE : Fld Z h0 w_ACTIVE "java/lang/Enum" "ordinal" "I" (.int (0 : Int32))) (O_STOPPED : Fld Z h0 w_STOPPED "java/lang/Enum" "ordinal" "I" (.int (1 : Int32))) (O_CLOSED : Fld Z h0 w_CLOSED "java/lang/Enum" "ordinal" "I" (.int (2 : Int32))) (O_REACTIVATED : Fld Z h0 w_REACTIVATED "java/lang/Enum" "ordinal" "I" (.int (3 : Int32))) :
    MetFree l x (head1 (Jvm.Cond.code x code maxLocals ret :: ws) room_1) (fun ar0 U => ar0 = #[(.int p1), (.int p2)] ∧ Z.Warmed39 U.vm ∧ U.heap = h0) (fun _ _ _ _ _ => True) (fun _ U o U' => ∃ v L, o = .returned v ∧ Q0 Z p1 p2 w_ACTIVE w_STOPPED w_CLOSED w_REACTIVATED h0 n0 v U'.heap L ∧ FrameEnd U o U' L room_1.cells room_1.slots) := by
  refine MetFree.of_bodySF (plainFor_of_name pn_0) hisR ?_
  intro p e s m args below meth c s₁ Bd hml0 hP hK
  obtain ⟨rfl, hZ, hh⟩ := hP
  have hx := Bd.exec
  have hby := Bd.bytes
  have hml : c.maxLocals = 9 := hml0
  have hown : s.vm.findClass "com/example/millrate/millrate/ledger/ObligationStatusNextPinLaw" = some m.cls := findClass_of_methodNamed Bd.named
  have X0 : Stand p l e room_1 s m #[(.int p1), (.int p2)] below meth c s₁ [] 0 0 := Stand.of_body Bd
  have e0 : s₁.heap = h0 := by rw [← hh, Bd.state]; rfl
  have N0 := Fr.nil n0
  have pre0 : ∀ t, Steps p.tables e below (s₁.setTop (mkF m 0 #[.val (.int p1), .val (.int p2), .unset, .unset, .unset, .unset, .unset, .unset, .unset] [])) t → Steps p.tables e below (s₁.setTop (entryFrame m #[(.int p1), (.int p2)] maxLocals)) t := fun t k => castTop (ef_0 m p1 p2) k
  obtain ⟨T1, h1, k1, X1, e1, E1, A1, O1, st1⟩ := newR X0 hx hZ hown (hw _ (List.mem_of_getElem? (i := 0) rfl)) (hw _ (List.mem_of_getElem? (i := 1) rfl)) e0 (g := (mkF m 1 #[.val (.int p1), .val (.int p2), .unset, .unset, .unset, .unset, .unset, .unset, .unset] [(.int (4 : Int32))])) rfl (hb hby at_1) rfl (by decide) (cap := 4) (by decide) (by decide) (by decide) (by decide)
  obtain ⟨b1, g1⟩ : ∃ z, z = h0.size := ⟨_, rfl⟩
  rw [← g1] at A1 st1
  have V1 : Arv Z h1 b1 k1 (.object "com/example/millrate/millrate/ledger/ObligationStatus") (4 : Int32) [.null, .null, .null, .null] .null := (Arv.new A1 (by decide)).pad (pad_rep [] .null 4)
  have sz_b1 : h0.size ≤ b1 := Nat.le_trans (Keep.refl h0 []).1 (Nat.le_of_eq g1.symm)
  have g_b1 : n0 ≤ b1 := Nat.le_trans Z0 sz_b1
  have K1 : Keep h0 h1 [] := (Keep.refl h0 []).ext E1
  obtain ⟨T2, X2, e2, st2⟩ := getS2 X1 hx hZ hown (host := "") (Or.inl (hw _ (List.mem_of_getElem? (i := 2) rfl))) Via.refl e1 (Sta.ext E1 S_ACTIVE) (g := (mkF m 6 #[.val (.int p1), .val (.int p2), .unset, .unset, .unset, .unset, .unset, .unset, .unset] [(.int (0 : Int32)), (.ref b1), (.ref b1)])) rfl (hb hby at_6)
  obtain ⟨cl3, Ar3, q3, S3, M3, H3, G3⟩ := V1
  have hin3 : ¬ ((0 : Int32) < 0 ∨ cl3.slots.size ≤ ((0 : Int32)).toNatClampNeg) := inb_of S3 ⟨by decide, by decide⟩
  obtain ⟨T3, h3, X3, e3, W3, st3⟩ := stR X2 hx hZ e2 Ar3 (j := (0 : Int32)) hin3 rfl (Sto.ofV Ar3 q3 O1 (Ins.self (Exa.keep E_ACTIVE K1))) (g := (mkF m 9 #[.val (.int p1), .val (.int p2), .unset, .unset, .unset, .unset, .unset, .unset, .unset] [(.ref w_ACTIVE), (.int (0 : Int32)), (.ref b1), (.ref b1)])) rfl rfl (hb hby at_9)
  have V4 : Arv Z h3 b1 k1 (.object "com/example/millrate/millrate/ledger/ObligationStatus") (4 : Int32) [(.ref w_ACTIVE), .null, .null, .null] .null := Arv.set Ar3 q3 S3 M3 H3 G3 rfl W3 0 rfl (Nat.le_of_ble_eq_true rfl)
  have K3 : Keep h0 h3 [] := K1.wr W3 (Or.inr sz_b1)
  have N3 := Fr.snoc X3 N0 g_b1
  obtain ⟨T5, X5, e5, st5⟩ := getS2 X3 hx hZ hown (host := "") (Or.inl (hw _ (List.mem_of_getElem? (i := 6) rfl))) Via.refl e3 (Sta.wr W3 (Sta.ext E1 S_STOPPED)) (g := (mkF m 12 #[.val (.int p1), .val (.int p2), .unset, .unset, .unset, .unset, .unset, .unset, .unset] [(.int (1 : Int32)), (.ref b1), (.ref b1)])) rfl (hb hby at_12)
  obtain ⟨cl6, Ar6, q6, S6, M6, H6, G6⟩ := V4
  have hin6 : ¬ ((1 : Int32) < 0 ∨ cl6.slots.size ≤ ((1 : Int32)).toNatClampNeg) := inb_of S6 ⟨by decide, by decide⟩
  obtain ⟨T6, h6, X6, e6, W6, st6⟩ := stR X5 hx hZ e5 Ar6 (j := (1 : Int32)) hin6 rfl (Sto.ofV Ar6 q6 O1 (Ins.self (Exa.keep E_STOPPED K3))) (g := (mkF m 15 #[.val (.int p1), .val (.int p2), .unset, .unset, .unset, .unset, .unset, .unset, .unset] [(.ref w_STOPPED), (.int (1 : Int32)), (.ref b1), (.ref b1)])) rfl rfl (hb hby at_15)
  have V7 : Arv Z h6 b1 k1 (.object "com/example/millrate/millrate/ledger/ObligationStatus") (4 : Int32) [(.ref w_ACTIVE), (.ref w_STOPPED), .null, .null] .null := Arv.set Ar6 q6 S6 M6 H6 G6 rfl W6 1 rfl (Nat.le_of_ble_eq_true rfl)
  have K6 : Keep h0 h6 [] := K3.wr W6 (Or.inr sz_b1)
  have N6 := Fr.snoc X6 N3 g_b1
  obtain ⟨T8, X8, e8, st8⟩ := getS2 X6 hx hZ hown (host := "") (Or.inl (hw _ (List.mem_of_getElem? (i := 8) rfl))) Via.refl e6 (Sta.wr W6 (Sta.wr W3 (Sta.ext E1 S_CLOSED))) (g := (mkF m 18 #[.val (.int p1), .val (.int p2), .unset, .unset, .unset, .unset, .unset, .unset, .unset] [(.int (2 : Int32)), (.ref b1), (.ref b1)])) rfl (hb hby at_18)
  obtain ⟨cl9, Ar9, q9, S9, M9, H9, G9⟩ := V7
  have hin9 : ¬ ((2 : Int32) < 0 ∨ cl9.slots.size ≤ ((2 : Int32)).toNatClampNeg) := inb_of S9 ⟨by decide, by decide⟩
  obtain ⟨T9, h9, X9, e9, W9, st9⟩ := stR X8 hx hZ e8 Ar9 (j := (2 : Int32)) hin9 rfl (Sto.ofV Ar9 q9 O1 (Ins.self (Exa.keep E_CLOSED K6))) (g := (mkF m 21 #[.val (.int p1), .val (.int p2), .unset, .unset, .unset, .unset, .unset, .unset, .unset] [(.ref w_CLOSED), (.int (2 : Int32)), (.ref b1), (.ref b1)])) rfl rfl (hb hby at_21)
  have V10 : Arv Z h9 b1 k1 (.object "com/example/millrate/millrate/ledger/ObligationStatus") (4 : Int32) [(.ref w_ACTIVE), (.ref w_STOPPED), (.ref w_CLOSED), .null] .null := Arv.set Ar9 q9 S9 M9 H9 G9 rfl W9 2 rfl (Nat.le_of_ble_eq_true rfl)
  have K9 : Keep h0 h9 [] := K6.wr W9 (Or.inr sz_b1)
  have N9 := Fr.snoc X9 N6 g_b1
  obtain ⟨T11, X11, e11, st11⟩ := getS2 X9 hx hZ hown (host := "") (Or.inl (hw _ (List.mem_of_getElem? (i := 10) rfl))) Via.refl e9 (Sta.wr W9 (Sta.wr W6 (Sta.wr W3 (Sta.ext E1 S_REACTIVATED)))) (g := (mkF m 24 #[.val (.int p1), .val (.int p2), .unset, .unset, .unset, .unset, .unset, .unset, .unset] [(.int (3 : Int32)), (.ref b1), (.ref b1)])) rfl (hb hby at_24)
  obtain ⟨cl12, Ar12, q12, S12, M12, H12, G12⟩ := V10
  have hin12 : ¬ ((3 : Int32) < 0 ∨ cl12.slots.size ≤ ((3 : Int32)).toNatClampNeg) := inb_of S12 ⟨by decide, by decide⟩
  obtain ⟨T12, h12, X12, e12, W12, st12⟩ := stR X11 hx hZ e11 Ar12 (j := (3 : Int32)) hin12 rfl (Sto.ofV Ar12 q12 O1 (Ins.self (Exa.keep E_REACTIVATED K9))) (g := (mkF m 27 #[.val (.int p1), .val (.int p2), .unset, .unset, .unset, .unset, .unset, .unset, .unset] [(.ref w_REACTIVATED), (.int (3 : Int32)), (.ref b1), (.ref b1)])) rfl rfl (hb hby at_27)
  have V13 : Arv Z h12 b1 k1 (.object "com/example/millrate/millrate/ledger/ObligationStatus") (4 : Int32) [(.ref w_ACTIVE), (.ref w_STOPPED), (.ref w_CLOSED), (.ref w_REACTIVATED)] .null := Arv.set Ar12 q12 S12 M12 H12 G12 rfl W12 3 rfl (Nat.le_of_ble_eq_true rfl)
  have K12 : Keep h0 h12 [] := K9.wr W12 (Or.inr sz_b1)
  have N12 := Fr.snoc X12 N9 g_b1
  obtain ⟨T14, h14, k14, X14, e14, E14, A14, O14, st14⟩ := newR X12 hx hZ hown (hw _ (List.mem_of_getElem? (i := 0) rfl)) (hw _ (List.mem_of_getElem? (i := 1) rfl)) e12 (g := (mkF m 30 #[.val (.int p1), .val (.int p2), .val (.ref b1), .unset, .unset, .unset, .unset, .unset, .unset] [(.int (4 : Int32))])) rfl (hb hby at_30) rfl (by decide) (cap := 4) (by decide) (by decide) (by decide) (by decide)
  obtain ⟨b14, g14⟩ : ∃ z, z = h12.size := ⟨_, rfl⟩
  rw [← g14] at A14 st14
  have V14 : Arv Z h14 b14 k14 (.object "com/example/millrate/millrate/ledger/ObligationStatus") (4 : Int32) [.null, .null, .null, .null] .null := (Arv.new A14 (by decide)).pad (pad_rep [] .null 4)
  have sz_b14 : h0.size ≤ b14 := Nat.le_trans K12.1 (Nat.le_of_eq g14.symm)
  have g_b14 : n0 ≤ b14 := Nat.le_trans Z0 sz_b14
  have ne_b1_b14 : b1 ≠ b14 := Nat.ne_of_lt (Nat.lt_of_lt_of_eq V13.lt g14.symm)
  have V15 := V13.ext E14
  have K14 : Keep h0 h14 [] := K12.ext E14
  obtain ⟨T16, X16, e16, st16⟩ := getS2 X14 hx hZ hown (host := "") (Or.inl (hw _ (List.mem_of_getElem? (i := 2) rfl))) Via.refl e14 (Sta.ext E14 (Sta.wr W12 (Sta.wr W9 (Sta.wr W6 (Sta.wr W3 (Sta.ext E1 S_ACTIVE)))))) (g := (mkF m 35 #[.val (.int p1), .val (.int p2), .val (.ref b1), .unset, .unset, .unset, .unset, .unset, .unset] [(.int (0 : Int32)), (.ref b14), (.ref b14)])) rfl (hb hby at_35)
  obtain ⟨cl17, Ar17, q17, S17, M17, H17, G17⟩ := V14
  have hin17 : ¬ ((0 : Int32) < 0 ∨ cl17.slots.size ≤ ((0 : Int32)).toNatClampNeg) := inb_of S17 ⟨by decide, by decide⟩
  obtain ⟨T17, h17, X17, e17, W17, st17⟩ := stR X16 hx hZ e16 Ar17 (j := (0 : Int32)) hin17 rfl (Sto.ofV Ar17 q17 O14 (Ins.self (Exa.keep E_ACTIVE K14))) (g := (mkF m 38 #[.val (.int p1), .val (.int p2), .val (.ref b1), .unset, .unset, .unset, .unset, .unset, .unset] [(.ref w_ACTIVE), (.int (0 : Int32)), (.ref b14), (.ref b14)])) rfl rfl (hb hby at_38)
  have V18 : Arv Z h17 b14 k14 (.object "com/example/millrate/millrate/ledger/ObligationStatus") (4 : Int32) [(.ref w_ACTIVE), .null, .null, .null] .null := Arv.set Ar17 q17 S17 M17 H17 G17 rfl W17 0 rfl (Nat.le_of_ble_eq_true rfl)
  have V19 := V15.other W17 ne_b1_b14
  have K17 : Keep h0 h17 [] := K14.wr W17 (Or.inr sz_b14)
  have N17 := Fr.snoc X17 N12 g_b14
  obtain ⟨T20, X20, e20, st20⟩ := getS2 X17 hx hZ hown (host := "") (Or.inl (hw _ (List.mem_of_getElem? (i := 8) rfl))) Via.refl e17 (Sta.wr W17 (Sta.ext E14 (Sta.wr W12 (Sta.wr W9 (Sta.wr W6 (Sta.wr W3 (Sta.ext E1 S_CLOSED))))))) (g := (mkF m 41 #[.val (.int p1), .val (.int p2), .val (.ref b1), .unset, .unset, .unset, .unset, .unset, .unset] [(.int (1 : Int32)), (.ref b14), (.ref b14)])) rfl (hb hby at_41)
  obtain ⟨cl21, Ar21, q21, S21, M21, H21, G21⟩ := V18
  have hin21 : ¬ ((1 : Int32) < 0 ∨ cl21.slots.size ≤ ((1 : Int32)).toNatClampNeg) := inb_of S21 ⟨by decide, by decide⟩
  obtain ⟨T21, h21, X21, e21, W21, st21⟩ := stR X20 hx hZ e20 Ar21 (j := (1 : Int32)) hin21 rfl (Sto.ofV Ar21 q21 O14 (Ins.self (Exa.keep E_CLOSED K17))) (g := (mkF m 44 #[.val (.int p1), .val (.int p2), .val (.ref b1), .unset, .unset, .unset, .unset, .unset, .unset] [(.ref w_CLOSED), (.int (1 : Int32)), (.ref b14), (.ref b14)])) rfl rfl (hb hby at_44)
  have V22 : Arv Z h21 b14 k14 (.object "com/example/millrate/millrate/ledger/ObligationStatus") (4 : Int32) [(.ref w_ACTIVE), (.ref w_CLOSED), .null, .null] .null := Arv.set Ar21 q21 S21 M21 H21 G21 rfl W21 1 rfl (Nat.le_of_ble_eq_true rfl)
  have V23 := V19.other W21 ne_b1_b14
  have K21 : Keep h0 h21 [] := K17.wr W21 (Or.inr sz_b14)
  have N21 := Fr.snoc X21 N17 g_b14
  obtain ⟨T24, X24, e24, st24⟩ := getS2 X21 hx hZ hown (host := "") (Or.inl (hw _ (List.mem_of_getElem? (i := 8) rfl))) Via.refl e21 (Sta.wr W21 (Sta.wr W17 (Sta.ext E14 (Sta.wr W12 (Sta.wr W9 (Sta.wr W6 (Sta.wr W3 (Sta.ext E1 S_CLOSED)))))))) (g := (mkF m 47 #[.val (.int p1), .val (.int p2), .val (.ref b1), .unset, .unset, .unset, .unset, .unset, .unset] [(.int (2 : Int32)), (.ref b14), (.ref b14)])) rfl (hb hby at_47)
  obtain ⟨cl25, Ar25, q25, S25, M25, H25, G25⟩ := V22
  have hin25 : ¬ ((2 : Int32) < 0 ∨ cl25.slots.size ≤ ((2 : Int32)).toNatClampNeg) := inb_of S25 ⟨by decide, by decide⟩
  obtain ⟨T25, h25, X25, e25, W25, st25⟩ := stR X24 hx hZ e24 Ar25 (j := (2 : Int32)) hin25 rfl (Sto.ofV Ar25 q25 O14 (Ins.self (Exa.keep E_CLOSED K21))) (g := (mkF m 50 #[.val (.int p1), .val (.int p2), .val (.ref b1), .unset, .unset, .unset, .unset, .unset, .unset] [(.ref w_CLOSED), (.int (2 : Int32)), (.ref b14), (.ref b14)])) rfl rfl (hb hby at_50)
  have V26 : Arv Z h25 b14 k14 (.object "com/example/millrate/millrate/ledger/ObligationStatus") (4 : Int32) [(.ref w_ACTIVE), (.ref w_CLOSED), (.ref w_CLOSED), .null] .null := Arv.set Ar25 q25 S25 M25 H25 G25 rfl W25 2 rfl (Nat.le_of_ble_eq_true rfl)
  have V27 := V23.other W25 ne_b1_b14
  have K25 : Keep h0 h25 [] := K21.wr W25 (Or.inr sz_b14)
  have N25 := Fr.snoc X25 N21 g_b14
  obtain ⟨T28, X28, e28, st28⟩ := getS2 X25 hx hZ hown (host := "") (Or.inl (hw _ (List.mem_of_getElem? (i := 8) rfl))) Via.refl e25 (Sta.wr W25 (Sta.wr W21 (Sta.wr W17 (Sta.ext E14 (Sta.wr W12 (Sta.wr W9 (Sta.wr W6 (Sta.wr W3 (Sta.ext E1 S_CLOSED))))))))) (g := (mkF m 53 #[.val (.int p1), .val (.int p2), .val (.ref b1), .unset, .unset, .unset, .unset, .unset, .unset] [(.int (3 : Int32)), (.ref b14), (.ref b14)])) rfl (hb hby at_53)
  obtain ⟨cl29, Ar29, q29, S29, M29, H29, G29⟩ := V26
  have hin29 : ¬ ((3 : Int32) < 0 ∨ cl29.slots.size ≤ ((3 : Int32)).toNatClampNeg) := inb_of S29 ⟨by decide, by decide⟩
  obtain ⟨T29, h29, X29, e29, W29, st29⟩ := stR X28 hx hZ e28 Ar29 (j := (3 : Int32)) hin29 rfl (Sto.ofV Ar29 q29 O14 (Ins.self (Exa.keep E_CLOSED K25))) (g := (mkF m 56 #[.val (.int p1), .val (.int p2), .val (.ref b1), .unset, .unset, .unset, .unset, .unset, .unset] [(.ref w_CLOSED), (.int (3 : Int32)), (.ref b14), (.ref b14)])) rfl rfl (hb hby at_56)
  have V30 : Arv Z h29 b14 k14 (.object "com/example/millrate/millrate/ledger/ObligationStatus") (4 : Int32) [(.ref w_ACTIVE), (.ref w_CLOSED), (.ref w_CLOSED), (.ref w_CLOSED)] .null := Arv.set Ar29 q29 S29 M29 H29 G29 rfl W29 3 rfl (Nat.le_of_ble_eq_true rfl)
  have V31 := V27.other W29 ne_b1_b14
  have K29 : Keep h0 h29 [] := K25.wr W29 (Or.inr sz_b14)
  have N29 := Fr.snoc X29 N25 g_b14
  obtain ⟨T32, h32, k32, X32, e32, E32, A32, O32, st32⟩ := newR X29 hx hZ hown (hw _ (List.mem_of_getElem? (i := 0) rfl)) (hw _ (List.mem_of_getElem? (i := 1) rfl)) e29 (g := (mkF m 59 #[.val (.int p1), .val (.int p2), .val (.ref b1), .val (.ref b14), .unset, .unset, .unset, .unset, .unset] [(.int (4 : Int32))])) rfl (hb hby at_59) rfl (by decide) (cap := 4) (by decide) (by decide) (by decide) (by decide)
  obtain ⟨b32, g32⟩ : ∃ z, z = h29.size := ⟨_, rfl⟩
  rw [← g32] at A32 st32
  have V32 : Arv Z h32 b32 k32 (.object "com/example/millrate/millrate/ledger/ObligationStatus") (4 : Int32) [.null, .null, .null, .null] .null := (Arv.new A32 (by decide)).pad (pad_rep [] .null 4)
  have sz_b32 : h0.size ≤ b32 := Nat.le_trans K29.1 (Nat.le_of_eq g32.symm)
  have g_b32 : n0 ≤ b32 := Nat.le_trans Z0 sz_b32
  have ne_b1_b32 : b1 ≠ b32 := Nat.ne_of_lt (Nat.lt_of_lt_of_eq V31.lt g32.symm)
  have V33 := V31.ext E32
  have ne_b14_b32 : b14 ≠ b32 := Nat.ne_of_lt (Nat.lt_of_lt_of_eq V30.lt g32.symm)
  have V34 := V30.ext E32
  have K32 : Keep h0 h32 [] := K29.ext E32
  obtain ⟨T35, X35, e35, st35⟩ := getS2 X32 hx hZ hown (host := "") (Or.inl (hw _ (List.mem_of_getElem? (i := 2) rfl))) Via.refl e32 (Sta.ext E32 (Sta.wr W29 (Sta.wr W25 (Sta.wr W21 (Sta.wr W17 (Sta.ext E14 (Sta.wr W12 (Sta.wr W9 (Sta.wr W6 (Sta.wr W3 (Sta.ext E1 S_ACTIVE))))))))))) (g := (mkF m 64 #[.val (.int p1), .val (.int p2), .val (.ref b1), .val (.ref b14), .unset, .unset, .unset, .unset, .unset] [(.int (0 : Int32)), (.ref b32), (.ref b32)])) rfl (hb hby at_64)
  obtain ⟨cl36, Ar36, q36, S36, M36, H36, G36⟩ := V32
  have hin36 : ¬ ((0 : Int32) < 0 ∨ cl36.slots.size ≤ ((0 : Int32)).toNatClampNeg) := inb_of S36 ⟨by decide, by decide⟩
  obtain ⟨T36, h36, X36, e36, W36, st36⟩ := stR X35 hx hZ e35 Ar36 (j := (0 : Int32)) hin36 rfl (Sto.ofV Ar36 q36 O32 (Ins.self (Exa.keep E_ACTIVE K32))) (g := (mkF m 67 #[.val (.int p1), .val (.int p2), .val (.ref b1), .val (.ref b14), .unset, .unset, .unset, .unset, .unset] [(.ref w_ACTIVE), (.int (0 : Int32)), (.ref b32), (.ref b32)])) rfl rfl (hb hby at_67)
  have V37 : Arv Z h36 b32 k32 (.object "com/example/millrate/millrate/ledger/ObligationStatus") (4 : Int32) [(.ref w_ACTIVE), .null, .null, .null] .null := Arv.set Ar36 q36 S36 M36 H36 G36 rfl W36 0 rfl (Nat.le_of_ble_eq_true rfl)
  have V38 := V33.other W36 ne_b1_b32
  have V39 := V34.other W36 ne_b14_b32
  have K36 : Keep h0 h36 [] := K32.wr W36 (Or.inr sz_b32)
  have N36 := Fr.snoc X36 N29 g_b32
  obtain ⟨T40, X40, e40, st40⟩ := getS2 X36 hx hZ hown (host := "") (Or.inl (hw _ (List.mem_of_getElem? (i := 6) rfl))) Via.refl e36 (Sta.wr W36 (Sta.ext E32 (Sta.wr W29 (Sta.wr W25 (Sta.wr W21 (Sta.wr W17 (Sta.ext E14 (Sta.wr W12 (Sta.wr W9 (Sta.wr W6 (Sta.wr W3 (Sta.ext E1 S_STOPPED)))))))))))) (g := (mkF m 70 #[.val (.int p1), .val (.int p2), .val (.ref b1), .val (.ref b14), .unset, .unset, .unset, .unset, .unset] [(.int (1 : Int32)), (.ref b32), (.ref b32)])) rfl (hb hby at_70)
  obtain ⟨cl41, Ar41, q41, S41, M41, H41, G41⟩ := V37
  have hin41 : ¬ ((1 : Int32) < 0 ∨ cl41.slots.size ≤ ((1 : Int32)).toNatClampNeg) := inb_of S41 ⟨by decide, by decide⟩
  obtain ⟨T41, h41, X41, e41, W41, st41⟩ := stR X40 hx hZ e40 Ar41 (j := (1 : Int32)) hin41 rfl (Sto.ofV Ar41 q41 O32 (Ins.self (Exa.keep E_STOPPED K36))) (g := (mkF m 73 #[.val (.int p1), .val (.int p2), .val (.ref b1), .val (.ref b14), .unset, .unset, .unset, .unset, .unset] [(.ref w_STOPPED), (.int (1 : Int32)), (.ref b32), (.ref b32)])) rfl rfl (hb hby at_73)
  have V42 : Arv Z h41 b32 k32 (.object "com/example/millrate/millrate/ledger/ObligationStatus") (4 : Int32) [(.ref w_ACTIVE), (.ref w_STOPPED), .null, .null] .null := Arv.set Ar41 q41 S41 M41 H41 G41 rfl W41 1 rfl (Nat.le_of_ble_eq_true rfl)
  have V43 := V38.other W41 ne_b1_b32
  have V44 := V39.other W41 ne_b14_b32
  have K41 : Keep h0 h41 [] := K36.wr W41 (Or.inr sz_b32)
  have N41 := Fr.snoc X41 N36 g_b32
  obtain ⟨T45, X45, e45, st45⟩ := getS2 X41 hx hZ hown (host := "") (Or.inl (hw _ (List.mem_of_getElem? (i := 10) rfl))) Via.refl e41 (Sta.wr W41 (Sta.wr W36 (Sta.ext E32 (Sta.wr W29 (Sta.wr W25 (Sta.wr W21 (Sta.wr W17 (Sta.ext E14 (Sta.wr W12 (Sta.wr W9 (Sta.wr W6 (Sta.wr W3 (Sta.ext E1 S_REACTIVATED))))))))))))) (g := (mkF m 76 #[.val (.int p1), .val (.int p2), .val (.ref b1), .val (.ref b14), .unset, .unset, .unset, .unset, .unset] [(.int (2 : Int32)), (.ref b32), (.ref b32)])) rfl (hb hby at_76)
  obtain ⟨cl46, Ar46, q46, S46, M46, H46, G46⟩ := V42
  have hin46 : ¬ ((2 : Int32) < 0 ∨ cl46.slots.size ≤ ((2 : Int32)).toNatClampNeg) := inb_of S46 ⟨by decide, by decide⟩
  obtain ⟨T46, h46, X46, e46, W46, st46⟩ := stR X45 hx hZ e45 Ar46 (j := (2 : Int32)) hin46 rfl (Sto.ofV Ar46 q46 O32 (Ins.self (Exa.keep E_REACTIVATED K41))) (g := (mkF m 79 #[.val (.int p1), .val (.int p2), .val (.ref b1), .val (.ref b14), .unset, .unset, .unset, .unset, .unset] [(.ref w_REACTIVATED), (.int (2 : Int32)), (.ref b32), (.ref b32)])) rfl rfl (hb hby at_79)
  have V47 : Arv Z h46 b32 k32 (.object "com/example/millrate/millrate/ledger/ObligationStatus") (4 : Int32) [(.ref w_ACTIVE), (.ref w_STOPPED), (.ref w_REACTIVATED), .null] .null := Arv.set Ar46 q46 S46 M46 H46 G46 rfl W46 2 rfl (Nat.le_of_ble_eq_true rfl)
  have V48 := V43.other W46 ne_b1_b32
  have V49 := V44.other W46 ne_b14_b32
  have K46 : Keep h0 h46 [] := K41.wr W46 (Or.inr sz_b32)
  have N46 := Fr.snoc X46 N41 g_b32
  obtain ⟨T50, X50, e50, st50⟩ := getS2 X46 hx hZ hown (host := "") (Or.inl (hw _ (List.mem_of_getElem? (i := 10) rfl))) Via.refl e46 (Sta.wr W46 (Sta.wr W41 (Sta.wr W36 (Sta.ext E32 (Sta.wr W29 (Sta.wr W25 (Sta.wr W21 (Sta.wr W17 (Sta.ext E14 (Sta.wr W12 (Sta.wr W9 (Sta.wr W6 (Sta.wr W3 (Sta.ext E1 S_REACTIVATED)))))))))))))) (g := (mkF m 82 #[.val (.int p1), .val (.int p2), .val (.ref b1), .val (.ref b14), .unset, .unset, .unset, .unset, .unset] [(.int (3 : Int32)), (.ref b32), (.ref b32)])) rfl (hb hby at_82)
  obtain ⟨cl51, Ar51, q51, S51, M51, H51, G51⟩ := V47
  have hin51 : ¬ ((3 : Int32) < 0 ∨ cl51.slots.size ≤ ((3 : Int32)).toNatClampNeg) := inb_of S51 ⟨by decide, by decide⟩
  obtain ⟨T51, h51, X51, e51, W51, st51⟩ := stR X50 hx hZ e50 Ar51 (j := (3 : Int32)) hin51 rfl (Sto.ofV Ar51 q51 O32 (Ins.self (Exa.keep E_REACTIVATED K46))) (g := (mkF m 85 #[.val (.int p1), .val (.int p2), .val (.ref b1), .val (.ref b14), .unset, .unset, .unset, .unset, .unset] [(.ref w_REACTIVATED), (.int (3 : Int32)), (.ref b32), (.ref b32)])) rfl rfl (hb hby at_85)
  have V52 : Arv Z h51 b32 k32 (.object "com/example/millrate/millrate/ledger/ObligationStatus") (4 : Int32) [(.ref w_ACTIVE), (.ref w_STOPPED), (.ref w_REACTIVATED), (.ref w_REACTIVATED)] .null := Arv.set Ar51 q51 S51 M51 H51 G51 rfl W51 3 rfl (Nat.le_of_ble_eq_true rfl)
  have V53 := V48.other W51 ne_b1_b32
  have V54 := V49.other W51 ne_b14_b32
  have K51 : Keep h0 h51 [] := K46.wr W51 (Or.inr sz_b32)
  have N51 := Fr.snoc X51 N46 g_b32
  have pre55 : ∀ t, Steps p.tables e below (T51.setTop (mkF m 93 #[.val (.int p1), .val (.int p2), .val (.ref b1), .val (.ref b14), .val (.ref b32), .val (.int (p1 &&& (3 : Int32))), .unset, .unset, .unset] [])) t → Steps p.tables e below (s₁.setTop (entryFrame m #[(.int p1), (.int p2)] maxLocals)) t := by
    intro t k
    refine pre0 _ ?_
    show Steps p.tables e below (s₁.setTop (mkF m 0 #[.val (.int p1), .val (.int p2), .unset, .unset, .unset, .unset, .unset, .unset, .unset] [])) _
    refine XT.iconstV X0.here hx rfl (4 : Int32) (hb hby at_0) (by decide) ?_
    show Steps p.tables e below (s₁.setTop (mkF m 1 #[.val (.int p1), .val (.int p2), .unset, .unset, .unset, .unset, .unset, .unset, .unset] [(.int (4 : Int32))])) _
    refine st1 _ ?_
    show Steps p.tables e below (T1.setTop (mkF m 4 #[.val (.int p1), .val (.int p2), .unset, .unset, .unset, .unset, .unset, .unset, .unset] [(.ref b1)])) _
    refine XS.dup X1.here hx rfl (hb hby at_4) rfl rfl ?_
    show Steps p.tables e below (T1.setTop (mkF m 5 #[.val (.int p1), .val (.int p2), .unset, .unset, .unset, .unset, .unset, .unset, .unset] [(.ref b1), (.ref b1)])) _
    refine XT.iconstV X1.here hx rfl (0 : Int32) (hb hby at_5) (by decide) ?_
    show Steps p.tables e below (T1.setTop (mkF m 6 #[.val (.int p1), .val (.int p2), .unset, .unset, .unset, .unset, .unset, .unset, .unset] [(.int (0 : Int32)), (.ref b1), (.ref b1)])) _
    refine st2 _ ?_
    show Steps p.tables e below (T2.setTop (mkF m 9 #[.val (.int p1), .val (.int p2), .unset, .unset, .unset, .unset, .unset, .unset, .unset] [(.ref w_ACTIVE), (.int (0 : Int32)), (.ref b1), (.ref b1)])) _
    refine st3 _ ?_
    show Steps p.tables e below (T3.setTop (mkF m 10 #[.val (.int p1), .val (.int p2), .unset, .unset, .unset, .unset, .unset, .unset, .unset] [(.ref b1)])) _
    refine XS.dup X3.here hx rfl (hb hby at_10) rfl rfl ?_
    show Steps p.tables e below (T3.setTop (mkF m 11 #[.val (.int p1), .val (.int p2), .unset, .unset, .unset, .unset, .unset, .unset, .unset] [(.ref b1), (.ref b1)])) _
    refine XT.iconstV X3.here hx rfl (1 : Int32) (hb hby at_11) (by decide) ?_
    show Steps p.tables e below (T3.setTop (mkF m 12 #[.val (.int p1), .val (.int p2), .unset, .unset, .unset, .unset, .unset, .unset, .unset] [(.int (1 : Int32)), (.ref b1), (.ref b1)])) _
    refine st5 _ ?_
    show Steps p.tables e below (T5.setTop (mkF m 15 #[.val (.int p1), .val (.int p2), .unset, .unset, .unset, .unset, .unset, .unset, .unset] [(.ref w_STOPPED), (.int (1 : Int32)), (.ref b1), (.ref b1)])) _
    refine st6 _ ?_
    show Steps p.tables e below (T6.setTop (mkF m 16 #[.val (.int p1), .val (.int p2), .unset, .unset, .unset, .unset, .unset, .unset, .unset] [(.ref b1)])) _
    refine XS.dup X6.here hx rfl (hb hby at_16) rfl rfl ?_
    show Steps p.tables e below (T6.setTop (mkF m 17 #[.val (.int p1), .val (.int p2), .unset, .unset, .unset, .unset, .unset, .unset, .unset] [(.ref b1), (.ref b1)])) _
    refine XT.iconstV X6.here hx rfl (2 : Int32) (hb hby at_17) (by decide) ?_
    show Steps p.tables e below (T6.setTop (mkF m 18 #[.val (.int p1), .val (.int p2), .unset, .unset, .unset, .unset, .unset, .unset, .unset] [(.int (2 : Int32)), (.ref b1), (.ref b1)])) _
    refine st8 _ ?_
    show Steps p.tables e below (T8.setTop (mkF m 21 #[.val (.int p1), .val (.int p2), .unset, .unset, .unset, .unset, .unset, .unset, .unset] [(.ref w_CLOSED), (.int (2 : Int32)), (.ref b1), (.ref b1)])) _
    refine st9 _ ?_
    show Steps p.tables e below (T9.setTop (mkF m 22 #[.val (.int p1), .val (.int p2), .unset, .unset, .unset, .unset, .unset, .unset, .unset] [(.ref b1)])) _
    refine XS.dup X9.here hx rfl (hb hby at_22) rfl rfl ?_
    show Steps p.tables e below (T9.setTop (mkF m 23 #[.val (.int p1), .val (.int p2), .unset, .unset, .unset, .unset, .unset, .unset, .unset] [(.ref b1), (.ref b1)])) _
    refine XT.iconstV X9.here hx rfl (3 : Int32) (hb hby at_23) (by decide) ?_
    show Steps p.tables e below (T9.setTop (mkF m 24 #[.val (.int p1), .val (.int p2), .unset, .unset, .unset, .unset, .unset, .unset, .unset] [(.int (3 : Int32)), (.ref b1), (.ref b1)])) _
    refine st11 _ ?_
    show Steps p.tables e below (T11.setTop (mkF m 27 #[.val (.int p1), .val (.int p2), .unset, .unset, .unset, .unset, .unset, .unset, .unset] [(.ref w_REACTIVATED), (.int (3 : Int32)), (.ref b1), (.ref b1)])) _
    refine st12 _ ?_
    show Steps p.tables e below (T12.setTop (mkF m 28 #[.val (.int p1), .val (.int p2), .unset, .unset, .unset, .unset, .unset, .unset, .unset] [(.ref b1)])) _
    refine XS.astoreN X12.here hx rfl (hb hby at_28) rfl rfl (l' := #[.val (.int p1), .val (.int p2), .val (.ref b1), .unset, .unset, .unset, .unset, .unset, .unset]) rfl ?_
    show Steps p.tables e below (T12.setTop (mkF m 29 #[.val (.int p1), .val (.int p2), .val (.ref b1), .unset, .unset, .unset, .unset, .unset, .unset] [])) _
    refine XT.iconstV X12.here hx rfl (4 : Int32) (hb hby at_29) (by decide) ?_
    show Steps p.tables e below (T12.setTop (mkF m 30 #[.val (.int p1), .val (.int p2), .val (.ref b1), .unset, .unset, .unset, .unset, .unset, .unset] [(.int (4 : Int32))])) _
    refine st14 _ ?_
    show Steps p.tables e below (T14.setTop (mkF m 33 #[.val (.int p1), .val (.int p2), .val (.ref b1), .unset, .unset, .unset, .unset, .unset, .unset] [(.ref b14)])) _
    refine XS.dup X14.here hx rfl (hb hby at_33) rfl rfl ?_
    show Steps p.tables e below (T14.setTop (mkF m 34 #[.val (.int p1), .val (.int p2), .val (.ref b1), .unset, .unset, .unset, .unset, .unset, .unset] [(.ref b14), (.ref b14)])) _
    refine XT.iconstV X14.here hx rfl (0 : Int32) (hb hby at_34) (by decide) ?_
    show Steps p.tables e below (T14.setTop (mkF m 35 #[.val (.int p1), .val (.int p2), .val (.ref b1), .unset, .unset, .unset, .unset, .unset, .unset] [(.int (0 : Int32)), (.ref b14), (.ref b14)])) _
    refine st16 _ ?_
    show Steps p.tables e below (T16.setTop (mkF m 38 #[.val (.int p1), .val (.int p2), .val (.ref b1), .unset, .unset, .unset, .unset, .unset, .unset] [(.ref w_ACTIVE), (.int (0 : Int32)), (.ref b14), (.ref b14)])) _
    refine st17 _ ?_
    show Steps p.tables e below (T17.setTop (mkF m 39 #[.val (.int p1), .val (.int p2), .val (.ref b1), .unset, .unset, .unset, .unset, .unset, .unset] [(.ref b14)])) _
    refine XS.dup X17.here hx rfl (hb hby at_39) rfl rfl ?_
    show Steps p.tables e below (T17.setTop (mkF m 40 #[.val (.int p1), .val (.int p2), .val (.ref b1), .unset, .unset, .unset, .unset, .unset, .unset] [(.ref b14), (.ref b14)])) _
    refine XT.iconstV X17.here hx rfl (1 : Int32) (hb hby at_40) (by decide) ?_
    show Steps p.tables e below (T17.setTop (mkF m 41 #[.val (.int p1), .val (.int p2), .val (.ref b1), .unset, .unset, .unset, .unset, .unset, .unset] [(.int (1 : Int32)), (.ref b14), (.ref b14)])) _
    refine st20 _ ?_
    show Steps p.tables e below (T20.setTop (mkF m 44 #[.val (.int p1), .val (.int p2), .val (.ref b1), .unset, .unset, .unset, .unset, .unset, .unset] [(.ref w_CLOSED), (.int (1 : Int32)), (.ref b14), (.ref b14)])) _
    refine st21 _ ?_
    show Steps p.tables e below (T21.setTop (mkF m 45 #[.val (.int p1), .val (.int p2), .val (.ref b1), .unset, .unset, .unset, .unset, .unset, .unset] [(.ref b14)])) _
    refine XS.dup X21.here hx rfl (hb hby at_45) rfl rfl ?_
    show Steps p.tables e below (T21.setTop (mkF m 46 #[.val (.int p1), .val (.int p2), .val (.ref b1), .unset, .unset, .unset, .unset, .unset, .unset] [(.ref b14), (.ref b14)])) _
    refine XT.iconstV X21.here hx rfl (2 : Int32) (hb hby at_46) (by decide) ?_
    show Steps p.tables e below (T21.setTop (mkF m 47 #[.val (.int p1), .val (.int p2), .val (.ref b1), .unset, .unset, .unset, .unset, .unset, .unset] [(.int (2 : Int32)), (.ref b14), (.ref b14)])) _
    refine st24 _ ?_
    show Steps p.tables e below (T24.setTop (mkF m 50 #[.val (.int p1), .val (.int p2), .val (.ref b1), .unset, .unset, .unset, .unset, .unset, .unset] [(.ref w_CLOSED), (.int (2 : Int32)), (.ref b14), (.ref b14)])) _
    refine st25 _ ?_
    show Steps p.tables e below (T25.setTop (mkF m 51 #[.val (.int p1), .val (.int p2), .val (.ref b1), .unset, .unset, .unset, .unset, .unset, .unset] [(.ref b14)])) _
    refine XS.dup X25.here hx rfl (hb hby at_51) rfl rfl ?_
    show Steps p.tables e below (T25.setTop (mkF m 52 #[.val (.int p1), .val (.int p2), .val (.ref b1), .unset, .unset, .unset, .unset, .unset, .unset] [(.ref b14), (.ref b14)])) _
    refine XT.iconstV X25.here hx rfl (3 : Int32) (hb hby at_52) (by decide) ?_
    show Steps p.tables e below (T25.setTop (mkF m 53 #[.val (.int p1), .val (.int p2), .val (.ref b1), .unset, .unset, .unset, .unset, .unset, .unset] [(.int (3 : Int32)), (.ref b14), (.ref b14)])) _
    refine st28 _ ?_
    show Steps p.tables e below (T28.setTop (mkF m 56 #[.val (.int p1), .val (.int p2), .val (.ref b1), .unset, .unset, .unset, .unset, .unset, .unset] [(.ref w_CLOSED), (.int (3 : Int32)), (.ref b14), (.ref b14)])) _
    refine st29 _ ?_
    show Steps p.tables e below (T29.setTop (mkF m 57 #[.val (.int p1), .val (.int p2), .val (.ref b1), .unset, .unset, .unset, .unset, .unset, .unset] [(.ref b14)])) _
    refine XS.astoreN X29.here hx rfl (hb hby at_57) rfl rfl (l' := #[.val (.int p1), .val (.int p2), .val (.ref b1), .val (.ref b14), .unset, .unset, .unset, .unset, .unset]) rfl ?_
    show Steps p.tables e below (T29.setTop (mkF m 58 #[.val (.int p1), .val (.int p2), .val (.ref b1), .val (.ref b14), .unset, .unset, .unset, .unset, .unset] [])) _
    refine XT.iconstV X29.here hx rfl (4 : Int32) (hb hby at_58) (by decide) ?_
    show Steps p.tables e below (T29.setTop (mkF m 59 #[.val (.int p1), .val (.int p2), .val (.ref b1), .val (.ref b14), .unset, .unset, .unset, .unset, .unset] [(.int (4 : Int32))])) _
    refine st32 _ ?_
    show Steps p.tables e below (T32.setTop (mkF m 62 #[.val (.int p1), .val (.int p2), .val (.ref b1), .val (.ref b14), .unset, .unset, .unset, .unset, .unset] [(.ref b32)])) _
    refine XS.dup X32.here hx rfl (hb hby at_62) rfl rfl ?_
    show Steps p.tables e below (T32.setTop (mkF m 63 #[.val (.int p1), .val (.int p2), .val (.ref b1), .val (.ref b14), .unset, .unset, .unset, .unset, .unset] [(.ref b32), (.ref b32)])) _
    refine XT.iconstV X32.here hx rfl (0 : Int32) (hb hby at_63) (by decide) ?_
    show Steps p.tables e below (T32.setTop (mkF m 64 #[.val (.int p1), .val (.int p2), .val (.ref b1), .val (.ref b14), .unset, .unset, .unset, .unset, .unset] [(.int (0 : Int32)), (.ref b32), (.ref b32)])) _
    refine st35 _ ?_
    show Steps p.tables e below (T35.setTop (mkF m 67 #[.val (.int p1), .val (.int p2), .val (.ref b1), .val (.ref b14), .unset, .unset, .unset, .unset, .unset] [(.ref w_ACTIVE), (.int (0 : Int32)), (.ref b32), (.ref b32)])) _
    refine st36 _ ?_
    show Steps p.tables e below (T36.setTop (mkF m 68 #[.val (.int p1), .val (.int p2), .val (.ref b1), .val (.ref b14), .unset, .unset, .unset, .unset, .unset] [(.ref b32)])) _
    refine XS.dup X36.here hx rfl (hb hby at_68) rfl rfl ?_
    show Steps p.tables e below (T36.setTop (mkF m 69 #[.val (.int p1), .val (.int p2), .val (.ref b1), .val (.ref b14), .unset, .unset, .unset, .unset, .unset] [(.ref b32), (.ref b32)])) _
    refine XT.iconstV X36.here hx rfl (1 : Int32) (hb hby at_69) (by decide) ?_
    show Steps p.tables e below (T36.setTop (mkF m 70 #[.val (.int p1), .val (.int p2), .val (.ref b1), .val (.ref b14), .unset, .unset, .unset, .unset, .unset] [(.int (1 : Int32)), (.ref b32), (.ref b32)])) _
    refine st40 _ ?_
    show Steps p.tables e below (T40.setTop (mkF m 73 #[.val (.int p1), .val (.int p2), .val (.ref b1), .val (.ref b14), .unset, .unset, .unset, .unset, .unset] [(.ref w_STOPPED), (.int (1 : Int32)), (.ref b32), (.ref b32)])) _
    refine st41 _ ?_
    show Steps p.tables e below (T41.setTop (mkF m 74 #[.val (.int p1), .val (.int p2), .val (.ref b1), .val (.ref b14), .unset, .unset, .unset, .unset, .unset] [(.ref b32)])) _
    refine XS.dup X41.here hx rfl (hb hby at_74) rfl rfl ?_
    show Steps p.tables e below (T41.setTop (mkF m 75 #[.val (.int p1), .val (.int p2), .val (.ref b1), .val (.ref b14), .unset, .unset, .unset, .unset, .unset] [(.ref b32), (.ref b32)])) _
    refine XT.iconstV X41.here hx rfl (2 : Int32) (hb hby at_75) (by decide) ?_
    show Steps p.tables e below (T41.setTop (mkF m 76 #[.val (.int p1), .val (.int p2), .val (.ref b1), .val (.ref b14), .unset, .unset, .unset, .unset, .unset] [(.int (2 : Int32)), (.ref b32), (.ref b32)])) _
    refine st45 _ ?_
    show Steps p.tables e below (T45.setTop (mkF m 79 #[.val (.int p1), .val (.int p2), .val (.ref b1), .val (.ref b14), .unset, .unset, .unset, .unset, .unset] [(.ref w_REACTIVATED), (.int (2 : Int32)), (.ref b32), (.ref b32)])) _
    refine st46 _ ?_
    show Steps p.tables e below (T46.setTop (mkF m 80 #[.val (.int p1), .val (.int p2), .val (.ref b1), .val (.ref b14), .unset, .unset, .unset, .unset, .unset] [(.ref b32)])) _
    refine XS.dup X46.here hx rfl (hb hby at_80) rfl rfl ?_
    show Steps p.tables e below (T46.setTop (mkF m 81 #[.val (.int p1), .val (.int p2), .val (.ref b1), .val (.ref b14), .unset, .unset, .unset, .unset, .unset] [(.ref b32), (.ref b32)])) _
    refine XT.iconstV X46.here hx rfl (3 : Int32) (hb hby at_81) (by decide) ?_
    show Steps p.tables e below (T46.setTop (mkF m 82 #[.val (.int p1), .val (.int p2), .val (.ref b1), .val (.ref b14), .unset, .unset, .unset, .unset, .unset] [(.int (3 : Int32)), (.ref b32), (.ref b32)])) _
    refine st50 _ ?_
    show Steps p.tables e below (T50.setTop (mkF m 85 #[.val (.int p1), .val (.int p2), .val (.ref b1), .val (.ref b14), .unset, .unset, .unset, .unset, .unset] [(.ref w_REACTIVATED), (.int (3 : Int32)), (.ref b32), (.ref b32)])) _
    refine st51 _ ?_
    show Steps p.tables e below (T51.setTop (mkF m 86 #[.val (.int p1), .val (.int p2), .val (.ref b1), .val (.ref b14), .unset, .unset, .unset, .unset, .unset] [(.ref b32)])) _
    refine XS.astore X51.here hx rfl (hb hby at_86) rfl rfl (l' := #[.val (.int p1), .val (.int p2), .val (.ref b1), .val (.ref b14), .val (.ref b32), .unset, .unset, .unset, .unset]) rfl ?_
    show Steps p.tables e below (T51.setTop (mkF m 88 #[.val (.int p1), .val (.int p2), .val (.ref b1), .val (.ref b14), .val (.ref b32), .unset, .unset, .unset, .unset] [])) _
    refine XS.iloadN X51.here hx rfl (hb hby at_88) rfl ?_
    show Steps p.tables e below (T51.setTop (mkF m 89 #[.val (.int p1), .val (.int p2), .val (.ref b1), .val (.ref b14), .val (.ref b32), .unset, .unset, .unset, .unset] [(.int p1)])) _
    refine XT.iconstV X51.here hx rfl (3 : Int32) (hb hby at_89) (by decide) ?_
    show Steps p.tables e below (T51.setTop (mkF m 90 #[.val (.int p1), .val (.int p2), .val (.ref b1), .val (.ref b14), .val (.ref b32), .unset, .unset, .unset, .unset] [(.int (3 : Int32)), (.int p1)])) _
    refine XS.iand X51.here hx rfl (hb hby at_90) rfl ?_
    show Steps p.tables e below (T51.setTop (mkF m 91 #[.val (.int p1), .val (.int p2), .val (.ref b1), .val (.ref b14), .val (.ref b32), .unset, .unset, .unset, .unset] [(.int (p1 &&& (3 : Int32)))])) _
    refine XS.istore X51.here hx rfl (hb hby at_91) rfl (l' := #[.val (.int p1), .val (.int p2), .val (.ref b1), .val (.ref b14), .val (.ref b32), .val (.int (p1 &&& (3 : Int32))), .unset, .unset, .unset]) rfl ?_
    show Steps p.tables e below (T51.setTop (mkF m 93 #[.val (.int p1), .val (.int p2), .val (.ref b1), .val (.ref b14), .val (.ref b32), .val (.int (p1 &&& (3 : Int32))), .unset, .unset, .unset] [])) _
    exact k
  rcases (own_and3 p1) with hv56 | hv56 | hv56 | hv56
  ·
    rw [hv56] at pre55
    have pre57 : ∀ t, Steps p.tables e below (T51.setTop (mkF m 96 #[.val (.int p1), .val (.int p2), .val (.ref b1), .val (.ref b14), .val (.ref b32), .val (.int (0 : Int32)), .unset, .unset, .unset] [(.int (p2 &&& (1 : Int32)))])) t → Steps p.tables e below (s₁.setTop (entryFrame m #[(.int p1), (.int p2)] maxLocals)) t := by
      intro t k
      refine pre55 _ ?_
      show Steps p.tables e below (T51.setTop (mkF m 93 #[.val (.int p1), .val (.int p2), .val (.ref b1), .val (.ref b14), .val (.ref b32), .val (.int (0 : Int32)), .unset, .unset, .unset] [])) _
      refine XS.iloadN X51.here hx rfl (hb hby at_93) rfl ?_
      show Steps p.tables e below (T51.setTop (mkF m 94 #[.val (.int p1), .val (.int p2), .val (.ref b1), .val (.ref b14), .val (.ref b32), .val (.int (0 : Int32)), .unset, .unset, .unset] [(.int p2)])) _
      refine XT.iconstV X51.here hx rfl (1 : Int32) (hb hby at_94) (by decide) ?_
      show Steps p.tables e below (T51.setTop (mkF m 95 #[.val (.int p1), .val (.int p2), .val (.ref b1), .val (.ref b14), .val (.ref b32), .val (.int (0 : Int32)), .unset, .unset, .unset] [(.int (1 : Int32)), (.int p2)])) _
      refine XS.iand X51.here hx rfl (hb hby at_95) rfl ?_
      show Steps p.tables e below (T51.setTop (mkF m 96 #[.val (.int p1), .val (.int p2), .val (.ref b1), .val (.ref b14), .val (.ref b32), .val (.int (0 : Int32)), .unset, .unset, .unset] [(.int (p2 &&& (1 : Int32)))])) _
      exact k
    by_cases hc58 : (p2 &&& (1 : Int32)) = (0 : Int32)
    ·
      have pre59 : ∀ t, Steps p.tables e below (T51.setTop (mkF m 103 #[.val (.int p1), .val (.int p2), .val (.ref b1), .val (.ref b14), .val (.ref b32), .val (.int (0 : Int32)), .unset, .unset, .unset] [])) t → Steps p.tables e below (s₁.setTop (entryFrame m #[(.int p1), (.int p2)] maxLocals)) t := by
        intro t k
        refine pre57 _ ?_
        refine XS.ifYes X51.here hx rfl (pc0 := 96) (pc' := 103) rfl (hb hby at_96) rfl ((if0 _ _).trans (teq (hc58 : (p2 &&& (1 : Int32)) = (0 : Int32))).1) (by decide) (by decide) ?_
        exact k
      obtain ⟨cl60, Ar60, q60, S60, M60, H60, G60⟩ := V52
      have hin60 : ¬ ((0 : Int32) < 0 ∨ cl60.slots.size ≤ ((0 : Int32)).toNatClampNeg) := inb_of S60 ⟨by decide, by decide⟩
      have hat60 : cl60.slots[((0 : Int32)).toNatClampNeg]? = some (.ref w_ACTIVE) := H60.at hin60 rfl
      have V61 : Arv Z h51 b32 k32 (.object "com/example/millrate/millrate/ledger/ObligationStatus") (4 : Int32) [(.ref w_ACTIVE), (.ref w_STOPPED), (.ref w_REACTIVATED), (.ref w_REACTIVATED)] .null := ⟨cl60, Ar60, q60, S60, M60, H60, G60⟩
      obtain ⟨cl62, Ar62, q62, S62, M62, H62, G62⟩ := V53
      have hin62 : ¬ ((0 : Int32) < 0 ∨ cl62.slots.size ≤ ((0 : Int32)).toNatClampNeg) := inb_of S62 ⟨by decide, by decide⟩
      have hat62 : cl62.slots[((0 : Int32)).toNatClampNeg]? = some (.ref w_ACTIVE) := H62.at hin62 rfl
      have V63 : Arv Z h51 b1 k1 (.object "com/example/millrate/millrate/ledger/ObligationStatus") (4 : Int32) [(.ref w_ACTIVE), (.ref w_STOPPED), (.ref w_CLOSED), (.ref w_REACTIVATED)] .null := ⟨cl62, Ar62, q62, S62, M62, H62, G62⟩
      obtain ⟨cq65, kq65, q65a, q65b, q65c⟩ := isOf hZ e51 (Exa.keep E_ACTIVE K51)
      obtain ⟨_, _, ⟨T64, L64, k64, n64⟩, -, X64, ⟨Lc64, hQ64, l64, y64, z64⟩, st64⟩ := X51.virtualBack hx (y := (⟨"com/example/millrate/millrate/ledger/ObligationStatus", "next", "(Z)Lcom/example/millrate/millrate/ledger/ObligationStatus;"⟩ : MethodName)) (z := (⟨"com/example/millrate/millrate/ledger/ObligationStatus", "next", "(Z)Lcom/example/millrate/millrate/ledger/ObligationStatus;"⟩ : MethodName)) hown (mvT hZ (hw _ (List.mem_of_getElem? (i := 12) rfl))) (mvT hZ (hw _ (List.mem_of_getElem? (i := 13) rfl))) (notFace_of_selects (args := #[]) (mvT hZ (hw _ (List.mem_of_getElem? (i := 15) rfl)))) (mvT hZ (hw _ (List.mem_of_getElem? (i := 15) rfl))) (mvT hZ (hw _ (List.mem_of_getElem? (i := 14) rfl))) (by decide) (backOf (W := 0) (rm2 l Z a0 hw [] w_ACTIVE (0 : Int32) w_ACTIVE w_CLOSED w_REACTIVATED w_ACTIVE h51 n0 (Sta.wr W51 (Sta.wr W46 (Sta.wr W41 (Sta.wr W36 (Sta.ext E32 (Sta.wr W29 (Sta.wr W25 (Sta.wr W21 (Sta.wr W17 (Sta.ext E14 (Sta.wr W12 (Sta.wr W9 (Sta.wr W6 (Sta.wr W3 (Sta.ext E1 S_ACTIVE))))))))))))))) (Sta.wr W51 (Sta.wr W46 (Sta.wr W41 (Sta.wr W36 (Sta.ext E32 (Sta.wr W29 (Sta.wr W25 (Sta.wr W21 (Sta.wr W17 (Sta.ext E14 (Sta.wr W12 (Sta.wr W9 (Sta.wr W6 (Sta.wr W3 (Sta.ext E1 S_CLOSED))))))))))))))) (Sta.wr W51 (Sta.wr W46 (Sta.wr W41 (Sta.wr W36 (Sta.ext E32 (Sta.wr W29 (Sta.wr W25 (Sta.wr W21 (Sta.wr W17 (Sta.ext E14 (Sta.wr W12 (Sta.wr W9 (Sta.wr W6 (Sta.wr W3 (Sta.ext E1 S_REACTIVATED))))))))))))))) (Exa.keep E_ACTIVE K51) (by unfold own_next; rw [if_pos (rfl : w_ACTIVE = w_ACTIVE)])) hZ (hw _ (List.mem_of_getElem? (i := 16) rfl)) (hw _ (List.mem_of_getElem? (i := 3) rfl)) (by decide) (by decide)) q65a q65c (g := (mkF m 131 #[.val (.int p1), .val (.int p2), .val (.ref b1), .val (.ref b14), .val (.ref b32), .val (.int (0 : Int32)), .val (.int (0 : Int32)), .val (.ref w_ACTIVE), .unset] [(.int (0 : Int32)), (.ref w_ACTIVE)])) rfl (by rw [hml]; rfl) (Steps.refl _) (argsL := [(.int (0 : Int32))]) (rest := []) (lenOf (show parseMethodDescriptor "(Z)Lcom/example/millrate/millrate/ledger/ObligationStatus;" = some ⟨[.boolean], some (.object "com/example/millrate/millrate/ledger/ObligationStatus")⟩ by decide +kernel) rfl) rfl (by show 2 * 0 + _ ≤ _; exact Nat.le_of_eq rfl) (hb hby at_131) (fun _ _ => ⟨rfl, e51, (by decide : 3 + 0 ≤ _), (by decide : 12 + 0 ≤ _)⟩)
      dsimp only [Pt.U, Pt.locs, Pt.cells, Pt.slots] at X64 l64 y64 z64 st64 hQ64
      subst l64 y64 z64
      obtain ⟨rfl, Nq64, e64⟩ := hQ64
      have N64 := Fr.app N51 Nq64
      obtain ⟨fs, hr66, hrun, hended, hW, hsame⟩ := X64.leave (v := some (.int (1 : Int32))) (fun h => by rw [Bd.returns] at h; cases h)
      refine ⟨_, _, pre59 _ ?_, hrun, hended, _, _, rfl, ?_, ⟨_, rfl⟩, hW, hsame.mono (by decide) (by decide)⟩
      · show Steps p.tables e below (T51.setTop (mkF m 103 #[.val (.int p1), .val (.int p2), .val (.ref b1), .val (.ref b14), .val (.ref b32), .val (.int (0 : Int32)), .unset, .unset, .unset] [])) _
        refine XT.iconstV X51.here hx rfl (0 : Int32) (hb hby at_103) (by decide) ?_
        show Steps p.tables e below (T51.setTop (mkF m 104 #[.val (.int p1), .val (.int p2), .val (.ref b1), .val (.ref b14), .val (.ref b32), .val (.int (0 : Int32)), .unset, .unset, .unset] [(.int (0 : Int32))])) _
        refine XS.istore X51.here hx rfl (hb hby at_104) rfl (l' := #[.val (.int p1), .val (.int p2), .val (.ref b1), .val (.ref b14), .val (.ref b32), .val (.int (0 : Int32)), .val (.int (0 : Int32)), .unset, .unset]) rfl ?_
        show Steps p.tables e below (T51.setTop (mkF m 106 #[.val (.int p1), .val (.int p2), .val (.ref b1), .val (.ref b14), .val (.ref b32), .val (.int (0 : Int32)), .val (.int (0 : Int32)), .unset, .unset] [])) _
        refine XS.iload X51.here hx rfl (hb hby at_106) rfl ?_
        show Steps p.tables e below (T51.setTop (mkF m 108 #[.val (.int p1), .val (.int p2), .val (.ref b1), .val (.ref b14), .val (.ref b32), .val (.int (0 : Int32)), .val (.int (0 : Int32)), .unset, .unset] [(.int (0 : Int32))])) _
        refine XS.ifYes X51.here hx rfl (pc0 := 108) (pc' := 118) rfl (hb hby at_108) rfl ((if0 _ _).trans (teq (rfl : (0 : Int32) = (0 : Int32))).1) (by decide) (by decide) ?_
        show Steps p.tables e below (T51.setTop (mkF m 118 #[.val (.int p1), .val (.int p2), .val (.ref b1), .val (.ref b14), .val (.ref b32), .val (.int (0 : Int32)), .val (.int (0 : Int32)), .unset, .unset] [])) _
        refine XS.aload X51.here hx rfl (hb hby at_118) rfl rfl ?_
        show Steps p.tables e below (T51.setTop (mkF m 120 #[.val (.int p1), .val (.int p2), .val (.ref b1), .val (.ref b14), .val (.ref b32), .val (.int (0 : Int32)), .val (.int (0 : Int32)), .unset, .unset] [(.ref b32)])) _
        refine XS.iload X51.here hx rfl (hb hby at_120) rfl ?_
        show Steps p.tables e below (T51.setTop (mkF m 122 #[.val (.int p1), .val (.int p2), .val (.ref b1), .val (.ref b14), .val (.ref b32), .val (.int (0 : Int32)), .val (.int (0 : Int32)), .unset, .unset] [(.int (0 : Int32)), (.ref b32)])) _
        refine X51.aaload hx (j := (0 : Int32)) (v := (.ref w_ACTIVE)) (by rw [e51]; exact Ar60.1) (State.isArrayOf_alike hZ.alike Ar60.2.1) rfl Ar60.2.2 hin60 hat60 (g := (mkF m 122 #[.val (.int p1), .val (.int p2), .val (.ref b1), .val (.ref b14), .val (.ref b32), .val (.int (0 : Int32)), .val (.int (0 : Int32)), .unset, .unset] [(.int (0 : Int32)), (.ref b32)])) rfl rfl (hb hby at_122) _ ?_
        show Steps p.tables e below (T51.setTop (mkF m 123 #[.val (.int p1), .val (.int p2), .val (.ref b1), .val (.ref b14), .val (.ref b32), .val (.int (0 : Int32)), .val (.int (0 : Int32)), .unset, .unset] [(.ref w_ACTIVE)])) _
        refine XS.astore X51.here hx rfl (hb hby at_123) rfl rfl (l' := #[.val (.int p1), .val (.int p2), .val (.ref b1), .val (.ref b14), .val (.ref b32), .val (.int (0 : Int32)), .val (.int (0 : Int32)), .val (.ref w_ACTIVE), .unset]) rfl ?_
        show Steps p.tables e below (T51.setTop (mkF m 125 #[.val (.int p1), .val (.int p2), .val (.ref b1), .val (.ref b14), .val (.ref b32), .val (.int (0 : Int32)), .val (.int (0 : Int32)), .val (.ref w_ACTIVE), .unset] [])) _
        refine XS.aloadN X51.here hx rfl (hb hby at_125) rfl rfl ?_
        show Steps p.tables e below (T51.setTop (mkF m 126 #[.val (.int p1), .val (.int p2), .val (.ref b1), .val (.ref b14), .val (.ref b32), .val (.int (0 : Int32)), .val (.int (0 : Int32)), .val (.ref w_ACTIVE), .unset] [(.ref b1)])) _
        refine XS.iload X51.here hx rfl (hb hby at_126) rfl ?_
        show Steps p.tables e below (T51.setTop (mkF m 128 #[.val (.int p1), .val (.int p2), .val (.ref b1), .val (.ref b14), .val (.ref b32), .val (.int (0 : Int32)), .val (.int (0 : Int32)), .val (.ref w_ACTIVE), .unset] [(.int (0 : Int32)), (.ref b1)])) _
        refine X51.aaload hx (j := (0 : Int32)) (v := (.ref w_ACTIVE)) (by rw [e51]; exact Ar62.1) (State.isArrayOf_alike hZ.alike Ar62.2.1) rfl Ar62.2.2 hin62 hat62 (g := (mkF m 128 #[.val (.int p1), .val (.int p2), .val (.ref b1), .val (.ref b14), .val (.ref b32), .val (.int (0 : Int32)), .val (.int (0 : Int32)), .val (.ref w_ACTIVE), .unset] [(.int (0 : Int32)), (.ref b1)])) rfl rfl (hb hby at_128) _ ?_
        show Steps p.tables e below (T51.setTop (mkF m 129 #[.val (.int p1), .val (.int p2), .val (.ref b1), .val (.ref b14), .val (.ref b32), .val (.int (0 : Int32)), .val (.int (0 : Int32)), .val (.ref w_ACTIVE), .unset] [(.ref w_ACTIVE)])) _
        refine XS.iload X51.here hx rfl (hb hby at_129) rfl ?_
        show Steps p.tables e below (T51.setTop (mkF m 131 #[.val (.int p1), .val (.int p2), .val (.ref b1), .val (.ref b14), .val (.ref b32), .val (.int (0 : Int32)), .val (.int (0 : Int32)), .val (.ref w_ACTIVE), .unset] [(.int (0 : Int32)), (.ref w_ACTIVE)])) _
        refine st64.trans ?_
        show Steps p.tables e below (T64.setTop (mkF m 134 #[.val (.int p1), .val (.int p2), .val (.ref b1), .val (.ref b14), .val (.ref b32), .val (.int (0 : Int32)), .val (.int (0 : Int32)), .val (.ref w_ACTIVE), .unset] [(.ref w_ACTIVE)])) _
        refine XS.astore X64.here hx rfl (hb hby at_134) rfl rfl (l' := #[.val (.int p1), .val (.int p2), .val (.ref b1), .val (.ref b14), .val (.ref b32), .val (.int (0 : Int32)), .val (.int (0 : Int32)), .val (.ref w_ACTIVE), .val (.ref w_ACTIVE)]) rfl ?_
        show Steps p.tables e below (T64.setTop (mkF m 136 #[.val (.int p1), .val (.int p2), .val (.ref b1), .val (.ref b14), .val (.ref b32), .val (.int (0 : Int32)), .val (.int (0 : Int32)), .val (.ref w_ACTIVE), .val (.ref w_ACTIVE)] [])) _
        refine XS.aload X64.here hx rfl (hb hby at_136) rfl rfl ?_
        show Steps p.tables e below (T64.setTop (mkF m 138 #[.val (.int p1), .val (.int p2), .val (.ref b1), .val (.ref b14), .val (.ref b32), .val (.int (0 : Int32)), .val (.int (0 : Int32)), .val (.ref w_ACTIVE), .val (.ref w_ACTIVE)] [(.ref w_ACTIVE)])) _
        refine XS.aload X64.here hx rfl (hb hby at_138) rfl rfl ?_
        show Steps p.tables e below (T64.setTop (mkF m 140 #[.val (.int p1), .val (.int p2), .val (.ref b1), .val (.ref b14), .val (.ref b32), .val (.int (0 : Int32)), .val (.int (0 : Int32)), .val (.ref w_ACTIVE), .val (.ref w_ACTIVE)] [(.ref w_ACTIVE), (.ref w_ACTIVE)])) _
        refine Jvm.RoadKit.acmp (g := (mkF m 140 #[.val (.int p1), .val (.int p2), .val (.ref b1), .val (.ref b14), .val (.ref b32), .val (.int (0 : Int32)), .val (.int (0 : Int32)), .val (.ref w_ACTIVE), .val (.ref w_ACTIVE)] [(.ref w_ACTIVE), (.ref w_ACTIVE)])) X64 hx rfl rfl rfl (pc0 := 140) (pc' := 143) (same := true) rfl (hb hby at_140) rfl (decide_eq_true (congrArg Value.ref (rfl : w_ACTIVE = w_ACTIVE))) (by decide) (by decide) ?_
        show Steps p.tables e below (T64.setTop (mkF m 143 #[.val (.int p1), .val (.int p2), .val (.ref b1), .val (.ref b14), .val (.ref b32), .val (.int (0 : Int32)), .val (.int (0 : Int32)), .val (.ref w_ACTIVE), .val (.ref w_ACTIVE)] [])) _
        refine XT.iconstV X64.here hx rfl (1 : Int32) (hb hby at_143) (by decide) ?_
        show Steps p.tables e below (T64.setTop (mkF m 144 #[.val (.int p1), .val (.int p2), .val (.ref b1), .val (.ref b14), .val (.ref b32), .val (.int (0 : Int32)), .val (.int (0 : Int32)), .val (.ref w_ACTIVE), .val (.ref w_ACTIVE)] [(.int (1 : Int32))])) _
        refine XS.goto X64.here hx rfl (pc0 := 144) (pc' := 148) rfl (hb hby at_144) (by decide) (by decide) ?_
        show Steps p.tables e below (T64.setTop (mkF m 148 #[.val (.int p1), .val (.int p2), .val (.ref b1), .val (.ref b14), .val (.ref b32), .val (.int (0 : Int32)), .val (.int (0 : Int32)), .val (.ref w_ACTIVE), .val (.ref w_ACTIVE)] [(.int (1 : Int32))])) _
        exact retN X64 hx (t := .boolean) Bd.returns (by simp) (hb hby at_148) hr66
      · show Q0 Z _ _ _ _ _ _ h0 n0 _ T64.heap _
        rw [e64]
        exact ⟨rfl, N64⟩
    ·
      have pre67 : ∀ t, Steps p.tables e below (T51.setTop (mkF m 99 #[.val (.int p1), .val (.int p2), .val (.ref b1), .val (.ref b14), .val (.ref b32), .val (.int (0 : Int32)), .unset, .unset, .unset] [])) t → Steps p.tables e below (s₁.setTop (entryFrame m #[(.int p1), (.int p2)] maxLocals)) t := by
        intro t k
        refine pre57 _ ?_
        refine XS.ifNo X51.here hx rfl (hb hby at_96) rfl ((if0 _ _).trans (feq (hc58 : ¬ ((p2 &&& (1 : Int32)) = (0 : Int32)))).1) ?_
        exact k
      obtain ⟨cl68, Ar68, q68, S68, M68, H68, G68⟩ := V54
      have hin68 : ¬ ((0 : Int32) < 0 ∨ cl68.slots.size ≤ ((0 : Int32)).toNatClampNeg) := inb_of S68 ⟨by decide, by decide⟩
      have hat68 : cl68.slots[((0 : Int32)).toNatClampNeg]? = some (.ref w_ACTIVE) := H68.at hin68 rfl
      have V69 : Arv Z h51 b14 k14 (.object "com/example/millrate/millrate/ledger/ObligationStatus") (4 : Int32) [(.ref w_ACTIVE), (.ref w_CLOSED), (.ref w_CLOSED), (.ref w_CLOSED)] .null := ⟨cl68, Ar68, q68, S68, M68, H68, G68⟩
      obtain ⟨cl70, Ar70, q70, S70, M70, H70, G70⟩ := V53
      have hin70 : ¬ ((0 : Int32) < 0 ∨ cl70.slots.size ≤ ((0 : Int32)).toNatClampNeg) := inb_of S70 ⟨by decide, by decide⟩
      have hat70 : cl70.slots[((0 : Int32)).toNatClampNeg]? = some (.ref w_ACTIVE) := H70.at hin70 rfl
      have V71 : Arv Z h51 b1 k1 (.object "com/example/millrate/millrate/ledger/ObligationStatus") (4 : Int32) [(.ref w_ACTIVE), (.ref w_STOPPED), (.ref w_CLOSED), (.ref w_REACTIVATED)] .null := ⟨cl70, Ar70, q70, S70, M70, H70, G70⟩
      obtain ⟨cq73, kq73, q73a, q73b, q73c⟩ := isOf hZ e51 (Exa.keep E_ACTIVE K51)
      obtain ⟨_, _, ⟨T72, L72, k72, n72⟩, -, X72, ⟨Lc72, hQ72, l72, y72, z72⟩, st72⟩ := X51.virtualBack hx (y := (⟨"com/example/millrate/millrate/ledger/ObligationStatus", "next", "(Z)Lcom/example/millrate/millrate/ledger/ObligationStatus;"⟩ : MethodName)) (z := (⟨"com/example/millrate/millrate/ledger/ObligationStatus", "next", "(Z)Lcom/example/millrate/millrate/ledger/ObligationStatus;"⟩ : MethodName)) hown (mvT hZ (hw _ (List.mem_of_getElem? (i := 12) rfl))) (mvT hZ (hw _ (List.mem_of_getElem? (i := 13) rfl))) (notFace_of_selects (args := #[]) (mvT hZ (hw _ (List.mem_of_getElem? (i := 15) rfl)))) (mvT hZ (hw _ (List.mem_of_getElem? (i := 15) rfl))) (mvT hZ (hw _ (List.mem_of_getElem? (i := 14) rfl))) (by decide) (backOf (W := 0) (rm2 l Z a0 hw [] w_ACTIVE (1 : Int32) w_ACTIVE w_CLOSED w_REACTIVATED w_ACTIVE h51 n0 (Sta.wr W51 (Sta.wr W46 (Sta.wr W41 (Sta.wr W36 (Sta.ext E32 (Sta.wr W29 (Sta.wr W25 (Sta.wr W21 (Sta.wr W17 (Sta.ext E14 (Sta.wr W12 (Sta.wr W9 (Sta.wr W6 (Sta.wr W3 (Sta.ext E1 S_ACTIVE))))))))))))))) (Sta.wr W51 (Sta.wr W46 (Sta.wr W41 (Sta.wr W36 (Sta.ext E32 (Sta.wr W29 (Sta.wr W25 (Sta.wr W21 (Sta.wr W17 (Sta.ext E14 (Sta.wr W12 (Sta.wr W9 (Sta.wr W6 (Sta.wr W3 (Sta.ext E1 S_CLOSED))))))))))))))) (Sta.wr W51 (Sta.wr W46 (Sta.wr W41 (Sta.wr W36 (Sta.ext E32 (Sta.wr W29 (Sta.wr W25 (Sta.wr W21 (Sta.wr W17 (Sta.ext E14 (Sta.wr W12 (Sta.wr W9 (Sta.wr W6 (Sta.wr W3 (Sta.ext E1 S_REACTIVATED))))))))))))))) (Exa.keep E_ACTIVE K51) (by unfold own_next; rw [if_pos (rfl : w_ACTIVE = w_ACTIVE)])) hZ (hw _ (List.mem_of_getElem? (i := 16) rfl)) (hw _ (List.mem_of_getElem? (i := 3) rfl)) (by decide) (by decide)) q73a q73c (g := (mkF m 131 #[.val (.int p1), .val (.int p2), .val (.ref b1), .val (.ref b14), .val (.ref b32), .val (.int (0 : Int32)), .val (.int (1 : Int32)), .val (.ref w_ACTIVE), .unset] [(.int (1 : Int32)), (.ref w_ACTIVE)])) rfl (by rw [hml]; rfl) (Steps.refl _) (argsL := [(.int (1 : Int32))]) (rest := []) (lenOf (show parseMethodDescriptor "(Z)Lcom/example/millrate/millrate/ledger/ObligationStatus;" = some ⟨[.boolean], some (.object "com/example/millrate/millrate/ledger/ObligationStatus")⟩ by decide +kernel) rfl) rfl (by show 2 * 0 + _ ≤ _; exact Nat.le_of_eq rfl) (hb hby at_131) (fun _ _ => ⟨rfl, e51, (by decide : 3 + 0 ≤ _), (by decide : 12 + 0 ≤ _)⟩)
      dsimp only [Pt.U, Pt.locs, Pt.cells, Pt.slots] at X72 l72 y72 z72 st72 hQ72
      subst l72 y72 z72
      obtain ⟨rfl, Nq72, e72⟩ := hQ72
      have N72 := Fr.app N51 Nq72
      obtain ⟨fs, hr74, hrun, hended, hW, hsame⟩ := X72.leave (v := some (.int (1 : Int32))) (fun h => by rw [Bd.returns] at h; cases h)
      refine ⟨_, _, pre67 _ ?_, hrun, hended, _, _, rfl, ?_, ⟨_, rfl⟩, hW, hsame.mono (by decide) (by decide)⟩
      · show Steps p.tables e below (T51.setTop (mkF m 99 #[.val (.int p1), .val (.int p2), .val (.ref b1), .val (.ref b14), .val (.ref b32), .val (.int (0 : Int32)), .unset, .unset, .unset] [])) _
        refine XT.iconstV X51.here hx rfl (1 : Int32) (hb hby at_99) (by decide) ?_
        show Steps p.tables e below (T51.setTop (mkF m 100 #[.val (.int p1), .val (.int p2), .val (.ref b1), .val (.ref b14), .val (.ref b32), .val (.int (0 : Int32)), .unset, .unset, .unset] [(.int (1 : Int32))])) _
        refine XS.goto X51.here hx rfl (pc0 := 100) (pc' := 104) rfl (hb hby at_100) (by decide) (by decide) ?_
        show Steps p.tables e below (T51.setTop (mkF m 104 #[.val (.int p1), .val (.int p2), .val (.ref b1), .val (.ref b14), .val (.ref b32), .val (.int (0 : Int32)), .unset, .unset, .unset] [(.int (1 : Int32))])) _
        refine XS.istore X51.here hx rfl (hb hby at_104) rfl (l' := #[.val (.int p1), .val (.int p2), .val (.ref b1), .val (.ref b14), .val (.ref b32), .val (.int (0 : Int32)), .val (.int (1 : Int32)), .unset, .unset]) rfl ?_
        show Steps p.tables e below (T51.setTop (mkF m 106 #[.val (.int p1), .val (.int p2), .val (.ref b1), .val (.ref b14), .val (.ref b32), .val (.int (0 : Int32)), .val (.int (1 : Int32)), .unset, .unset] [])) _
        refine XS.iload X51.here hx rfl (hb hby at_106) rfl ?_
        show Steps p.tables e below (T51.setTop (mkF m 108 #[.val (.int p1), .val (.int p2), .val (.ref b1), .val (.ref b14), .val (.ref b32), .val (.int (0 : Int32)), .val (.int (1 : Int32)), .unset, .unset] [(.int (1 : Int32))])) _
        refine XS.ifNo X51.here hx rfl (hb hby at_108) rfl ((if0 _ _).trans (feq ((by decide) : ¬ ((1 : Int32) = (0 : Int32)))).1) ?_
        show Steps p.tables e below (T51.setTop (mkF m 111 #[.val (.int p1), .val (.int p2), .val (.ref b1), .val (.ref b14), .val (.ref b32), .val (.int (0 : Int32)), .val (.int (1 : Int32)), .unset, .unset] [])) _
        refine XS.aloadN X51.here hx rfl (hb hby at_111) rfl rfl ?_
        show Steps p.tables e below (T51.setTop (mkF m 112 #[.val (.int p1), .val (.int p2), .val (.ref b1), .val (.ref b14), .val (.ref b32), .val (.int (0 : Int32)), .val (.int (1 : Int32)), .unset, .unset] [(.ref b14)])) _
        refine XS.iload X51.here hx rfl (hb hby at_112) rfl ?_
        show Steps p.tables e below (T51.setTop (mkF m 114 #[.val (.int p1), .val (.int p2), .val (.ref b1), .val (.ref b14), .val (.ref b32), .val (.int (0 : Int32)), .val (.int (1 : Int32)), .unset, .unset] [(.int (0 : Int32)), (.ref b14)])) _
        refine X51.aaload hx (j := (0 : Int32)) (v := (.ref w_ACTIVE)) (by rw [e51]; exact Ar68.1) (State.isArrayOf_alike hZ.alike Ar68.2.1) rfl Ar68.2.2 hin68 hat68 (g := (mkF m 114 #[.val (.int p1), .val (.int p2), .val (.ref b1), .val (.ref b14), .val (.ref b32), .val (.int (0 : Int32)), .val (.int (1 : Int32)), .unset, .unset] [(.int (0 : Int32)), (.ref b14)])) rfl rfl (hb hby at_114) _ ?_
        show Steps p.tables e below (T51.setTop (mkF m 115 #[.val (.int p1), .val (.int p2), .val (.ref b1), .val (.ref b14), .val (.ref b32), .val (.int (0 : Int32)), .val (.int (1 : Int32)), .unset, .unset] [(.ref w_ACTIVE)])) _
        refine XS.goto X51.here hx rfl (pc0 := 115) (pc' := 123) rfl (hb hby at_115) (by decide) (by decide) ?_
        show Steps p.tables e below (T51.setTop (mkF m 123 #[.val (.int p1), .val (.int p2), .val (.ref b1), .val (.ref b14), .val (.ref b32), .val (.int (0 : Int32)), .val (.int (1 : Int32)), .unset, .unset] [(.ref w_ACTIVE)])) _
        refine XS.astore X51.here hx rfl (hb hby at_123) rfl rfl (l' := #[.val (.int p1), .val (.int p2), .val (.ref b1), .val (.ref b14), .val (.ref b32), .val (.int (0 : Int32)), .val (.int (1 : Int32)), .val (.ref w_ACTIVE), .unset]) rfl ?_
        show Steps p.tables e below (T51.setTop (mkF m 125 #[.val (.int p1), .val (.int p2), .val (.ref b1), .val (.ref b14), .val (.ref b32), .val (.int (0 : Int32)), .val (.int (1 : Int32)), .val (.ref w_ACTIVE), .unset] [])) _
        refine XS.aloadN X51.here hx rfl (hb hby at_125) rfl rfl ?_
        show Steps p.tables e below (T51.setTop (mkF m 126 #[.val (.int p1), .val (.int p2), .val (.ref b1), .val (.ref b14), .val (.ref b32), .val (.int (0 : Int32)), .val (.int (1 : Int32)), .val (.ref w_ACTIVE), .unset] [(.ref b1)])) _
        refine XS.iload X51.here hx rfl (hb hby at_126) rfl ?_
        show Steps p.tables e below (T51.setTop (mkF m 128 #[.val (.int p1), .val (.int p2), .val (.ref b1), .val (.ref b14), .val (.ref b32), .val (.int (0 : Int32)), .val (.int (1 : Int32)), .val (.ref w_ACTIVE), .unset] [(.int (0 : Int32)), (.ref b1)])) _
        refine X51.aaload hx (j := (0 : Int32)) (v := (.ref w_ACTIVE)) (by rw [e51]; exact Ar70.1) (State.isArrayOf_alike hZ.alike Ar70.2.1) rfl Ar70.2.2 hin70 hat70 (g := (mkF m 128 #[.val (.int p1), .val (.int p2), .val (.ref b1), .val (.ref b14), .val (.ref b32), .val (.int (0 : Int32)), .val (.int (1 : Int32)), .val (.ref w_ACTIVE), .unset] [(.int (0 : Int32)), (.ref b1)])) rfl rfl (hb hby at_128) _ ?_
        show Steps p.tables e below (T51.setTop (mkF m 129 #[.val (.int p1), .val (.int p2), .val (.ref b1), .val (.ref b14), .val (.ref b32), .val (.int (0 : Int32)), .val (.int (1 : Int32)), .val (.ref w_ACTIVE), .unset] [(.ref w_ACTIVE)])) _
        refine XS.iload X51.here hx rfl (hb hby at_129) rfl ?_
        show Steps p.tables e below (T51.setTop (mkF m 131 #[.val (.int p1), .val (.int p2), .val (.ref b1), .val (.ref b14), .val (.ref b32), .val (.int (0 : Int32)), .val (.int (1 : Int32)), .val (.ref w_ACTIVE), .unset] [(.int (1 : Int32)), (.ref w_ACTIVE)])) _
        refine st72.trans ?_
        show Steps p.tables e below (T72.setTop (mkF m 134 #[.val (.int p1), .val (.int p2), .val (.ref b1), .val (.ref b14), .val (.ref b32), .val (.int (0 : Int32)), .val (.int (1 : Int32)), .val (.ref w_ACTIVE), .unset] [(.ref w_ACTIVE)])) _
        refine XS.astore X72.here hx rfl (hb hby at_134) rfl rfl (l' := #[.val (.int p1), .val (.int p2), .val (.ref b1), .val (.ref b14), .val (.ref b32), .val (.int (0 : Int32)), .val (.int (1 : Int32)), .val (.ref w_ACTIVE), .val (.ref w_ACTIVE)]) rfl ?_
        show Steps p.tables e below (T72.setTop (mkF m 136 #[.val (.int p1), .val (.int p2), .val (.ref b1), .val (.ref b14), .val (.ref b32), .val (.int (0 : Int32)), .val (.int (1 : Int32)), .val (.ref w_ACTIVE), .val (.ref w_ACTIVE)] [])) _
        refine XS.aload X72.here hx rfl (hb hby at_136) rfl rfl ?_
        show Steps p.tables e below (T72.setTop (mkF m 138 #[.val (.int p1), .val (.int p2), .val (.ref b1), .val (.ref b14), .val (.ref b32), .val (.int (0 : Int32)), .val (.int (1 : Int32)), .val (.ref w_ACTIVE), .val (.ref w_ACTIVE)] [(.ref w_ACTIVE)])) _
        refine XS.aload X72.here hx rfl (hb hby at_138) rfl rfl ?_
        show Steps p.tables e below (T72.setTop (mkF m 140 #[.val (.int p1), .val (.int p2), .val (.ref b1), .val (.ref b14), .val (.ref b32), .val (.int (0 : Int32)), .val (.int (1 : Int32)), .val (.ref w_ACTIVE), .val (.ref w_ACTIVE)] [(.ref w_ACTIVE), (.ref w_ACTIVE)])) _
        refine Jvm.RoadKit.acmp (g := (mkF m 140 #[.val (.int p1), .val (.int p2), .val (.ref b1), .val (.ref b14), .val (.ref b32), .val (.int (0 : Int32)), .val (.int (1 : Int32)), .val (.ref w_ACTIVE), .val (.ref w_ACTIVE)] [(.ref w_ACTIVE), (.ref w_ACTIVE)])) X72 hx rfl rfl rfl (pc0 := 140) (pc' := 143) (same := true) rfl (hb hby at_140) rfl (decide_eq_true (congrArg Value.ref (rfl : w_ACTIVE = w_ACTIVE))) (by decide) (by decide) ?_
        show Steps p.tables e below (T72.setTop (mkF m 143 #[.val (.int p1), .val (.int p2), .val (.ref b1), .val (.ref b14), .val (.ref b32), .val (.int (0 : Int32)), .val (.int (1 : Int32)), .val (.ref w_ACTIVE), .val (.ref w_ACTIVE)] [])) _
        refine XT.iconstV X72.here hx rfl (1 : Int32) (hb hby at_143) (by decide) ?_
        show Steps p.tables e below (T72.setTop (mkF m 144 #[.val (.int p1), .val (.int p2), .val (.ref b1), .val (.ref b14), .val (.ref b32), .val (.int (0 : Int32)), .val (.int (1 : Int32)), .val (.ref w_ACTIVE), .val (.ref w_ACTIVE)] [(.int (1 : Int32))])) _
        refine XS.goto X72.here hx rfl (pc0 := 144) (pc' := 148) rfl (hb hby at_144) (by decide) (by decide) ?_
        show Steps p.tables e below (T72.setTop (mkF m 148 #[.val (.int p1), .val (.int p2), .val (.ref b1), .val (.ref b14), .val (.ref b32), .val (.int (0 : Int32)), .val (.int (1 : Int32)), .val (.ref w_ACTIVE), .val (.ref w_ACTIVE)] [(.int (1 : Int32))])) _
        exact retN X72 hx (t := .boolean) Bd.returns (by simp) (hb hby at_148) hr74
      · show Q0 Z _ _ _ _ _ _ h0 n0 _ T72.heap _
        rw [e72]
        exact ⟨rfl, N72⟩
  ·
    rw [hv56] at pre55
    have pre75 : ∀ t, Steps p.tables e below (T51.setTop (mkF m 96 #[.val (.int p1), .val (.int p2), .val (.ref b1), .val (.ref b14), .val (.ref b32), .val (.int (1 : Int32)), .unset, .unset, .unset] [(.int (p2 &&& (1 : Int32)))])) t → Steps p.tables e below (s₁.setTop (entryFrame m #[(.int p1), (.int p2)] maxLocals)) t := by
      intro t k
      refine pre55 _ ?_
      show Steps p.tables e below (T51.setTop (mkF m 93 #[.val (.int p1), .val (.int p2), .val (.ref b1), .val (.ref b14), .val (.ref b32), .val (.int (1 : Int32)), .unset, .unset, .unset] [])) _
      refine XS.iloadN X51.here hx rfl (hb hby at_93) rfl ?_
      show Steps p.tables e below (T51.setTop (mkF m 94 #[.val (.int p1), .val (.int p2), .val (.ref b1), .val (.ref b14), .val (.ref b32), .val (.int (1 : Int32)), .unset, .unset, .unset] [(.int p2)])) _
      refine XT.iconstV X51.here hx rfl (1 : Int32) (hb hby at_94) (by decide) ?_
      show Steps p.tables e below (T51.setTop (mkF m 95 #[.val (.int p1), .val (.int p2), .val (.ref b1), .val (.ref b14), .val (.ref b32), .val (.int (1 : Int32)), .unset, .unset, .unset] [(.int (1 : Int32)), (.int p2)])) _
      refine XS.iand X51.here hx rfl (hb hby at_95) rfl ?_
      show Steps p.tables e below (T51.setTop (mkF m 96 #[.val (.int p1), .val (.int p2), .val (.ref b1), .val (.ref b14), .val (.ref b32), .val (.int (1 : Int32)), .unset, .unset, .unset] [(.int (p2 &&& (1 : Int32)))])) _
      exact k
    by_cases hc76 : (p2 &&& (1 : Int32)) = (0 : Int32)
    ·
      have pre77 : ∀ t, Steps p.tables e below (T51.setTop (mkF m 103 #[.val (.int p1), .val (.int p2), .val (.ref b1), .val (.ref b14), .val (.ref b32), .val (.int (1 : Int32)), .unset, .unset, .unset] [])) t → Steps p.tables e below (s₁.setTop (entryFrame m #[(.int p1), (.int p2)] maxLocals)) t := by
        intro t k
        refine pre75 _ ?_
        refine XS.ifYes X51.here hx rfl (pc0 := 96) (pc' := 103) rfl (hb hby at_96) rfl ((if0 _ _).trans (teq (hc76 : (p2 &&& (1 : Int32)) = (0 : Int32))).1) (by decide) (by decide) ?_
        exact k
      obtain ⟨cl78, Ar78, q78, S78, M78, H78, G78⟩ := V52
      have hin78 : ¬ ((1 : Int32) < 0 ∨ cl78.slots.size ≤ ((1 : Int32)).toNatClampNeg) := inb_of S78 ⟨by decide, by decide⟩
      have hat78 : cl78.slots[((1 : Int32)).toNatClampNeg]? = some (.ref w_STOPPED) := H78.at hin78 rfl
      have V79 : Arv Z h51 b32 k32 (.object "com/example/millrate/millrate/ledger/ObligationStatus") (4 : Int32) [(.ref w_ACTIVE), (.ref w_STOPPED), (.ref w_REACTIVATED), (.ref w_REACTIVATED)] .null := ⟨cl78, Ar78, q78, S78, M78, H78, G78⟩
      obtain ⟨cl80, Ar80, q80, S80, M80, H80, G80⟩ := V53
      have hin80 : ¬ ((1 : Int32) < 0 ∨ cl80.slots.size ≤ ((1 : Int32)).toNatClampNeg) := inb_of S80 ⟨by decide, by decide⟩
      have hat80 : cl80.slots[((1 : Int32)).toNatClampNeg]? = some (.ref w_STOPPED) := H80.at hin80 rfl
      have V81 : Arv Z h51 b1 k1 (.object "com/example/millrate/millrate/ledger/ObligationStatus") (4 : Int32) [(.ref w_ACTIVE), (.ref w_STOPPED), (.ref w_CLOSED), (.ref w_REACTIVATED)] .null := ⟨cl80, Ar80, q80, S80, M80, H80, G80⟩
      obtain ⟨cq83, kq83, q83a, q83b, q83c⟩ := isOf hZ e51 (Exa.keep E_STOPPED K51)
      obtain ⟨_, _, ⟨T82, L82, k82, n82⟩, -, X82, ⟨Lc82, hQ82, l82, y82, z82⟩, st82⟩ := X51.virtualBack hx (y := (⟨"com/example/millrate/millrate/ledger/ObligationStatus", "next", "(Z)Lcom/example/millrate/millrate/ledger/ObligationStatus;"⟩ : MethodName)) (z := (⟨"com/example/millrate/millrate/ledger/ObligationStatus", "next", "(Z)Lcom/example/millrate/millrate/ledger/ObligationStatus;"⟩ : MethodName)) hown (mvT hZ (hw _ (List.mem_of_getElem? (i := 12) rfl))) (mvT hZ (hw _ (List.mem_of_getElem? (i := 13) rfl))) (notFace_of_selects (args := #[]) (mvT hZ (hw _ (List.mem_of_getElem? (i := 15) rfl)))) (mvT hZ (hw _ (List.mem_of_getElem? (i := 15) rfl))) (mvT hZ (hw _ (List.mem_of_getElem? (i := 14) rfl))) (by decide) (backOf (W := 0) (rm2 l Z a0 hw [] w_STOPPED (0 : Int32) w_ACTIVE w_CLOSED w_REACTIVATED w_STOPPED h51 n0 (Sta.wr W51 (Sta.wr W46 (Sta.wr W41 (Sta.wr W36 (Sta.ext E32 (Sta.wr W29 (Sta.wr W25 (Sta.wr W21 (Sta.wr W17 (Sta.ext E14 (Sta.wr W12 (Sta.wr W9 (Sta.wr W6 (Sta.wr W3 (Sta.ext E1 S_ACTIVE))))))))))))))) (Sta.wr W51 (Sta.wr W46 (Sta.wr W41 (Sta.wr W36 (Sta.ext E32 (Sta.wr W29 (Sta.wr W25 (Sta.wr W21 (Sta.wr W17 (Sta.ext E14 (Sta.wr W12 (Sta.wr W9 (Sta.wr W6 (Sta.wr W3 (Sta.ext E1 S_CLOSED))))))))))))))) (Sta.wr W51 (Sta.wr W46 (Sta.wr W41 (Sta.wr W36 (Sta.ext E32 (Sta.wr W29 (Sta.wr W25 (Sta.wr W21 (Sta.wr W17 (Sta.ext E14 (Sta.wr W12 (Sta.wr W9 (Sta.wr W6 (Sta.wr W3 (Sta.ext E1 S_REACTIVATED))))))))))))))) (Exa.keep E_STOPPED K51) (by unfold own_next; rw [if_neg ((Fld.ne O_STOPPED O_ACTIVE (fun q => absurd (Value.int.inj q) (by decide))) : ¬ (w_STOPPED = w_ACTIVE)), if_pos (rfl : (0 : Int32) = (0 : Int32)), if_neg ((Fld.ne O_STOPPED O_CLOSED (fun q => absurd (Value.int.inj q) (by decide))) : ¬ (w_STOPPED = w_CLOSED))])) hZ (hw _ (List.mem_of_getElem? (i := 16) rfl)) (hw _ (List.mem_of_getElem? (i := 3) rfl)) (by decide) (by decide)) q83a q83c (g := (mkF m 131 #[.val (.int p1), .val (.int p2), .val (.ref b1), .val (.ref b14), .val (.ref b32), .val (.int (1 : Int32)), .val (.int (0 : Int32)), .val (.ref w_STOPPED), .unset] [(.int (0 : Int32)), (.ref w_STOPPED)])) rfl (by rw [hml]; rfl) (Steps.refl _) (argsL := [(.int (0 : Int32))]) (rest := []) (lenOf (show parseMethodDescriptor "(Z)Lcom/example/millrate/millrate/ledger/ObligationStatus;" = some ⟨[.boolean], some (.object "com/example/millrate/millrate/ledger/ObligationStatus")⟩ by decide +kernel) rfl) rfl (by show 2 * 0 + _ ≤ _; exact Nat.le_of_eq rfl) (hb hby at_131) (fun _ _ => ⟨rfl, e51, (by decide : 3 + 0 ≤ _), (by decide : 12 + 0 ≤ _)⟩)
      dsimp only [Pt.U, Pt.locs, Pt.cells, Pt.slots] at X82 l82 y82 z82 st82 hQ82
      subst l82 y82 z82
      obtain ⟨rfl, Nq82, e82⟩ := hQ82
      have N82 := Fr.app N51 Nq82
      obtain ⟨fs, hr84, hrun, hended, hW, hsame⟩ := X82.leave (v := some (.int (1 : Int32))) (fun h => by rw [Bd.returns] at h; cases h)
      refine ⟨_, _, pre77 _ ?_, hrun, hended, _, _, rfl, ?_, ⟨_, rfl⟩, hW, hsame.mono (by decide) (by decide)⟩
      · show Steps p.tables e below (T51.setTop (mkF m 103 #[.val (.int p1), .val (.int p2), .val (.ref b1), .val (.ref b14), .val (.ref b32), .val (.int (1 : Int32)), .unset, .unset, .unset] [])) _
        refine XT.iconstV X51.here hx rfl (0 : Int32) (hb hby at_103) (by decide) ?_
        show Steps p.tables e below (T51.setTop (mkF m 104 #[.val (.int p1), .val (.int p2), .val (.ref b1), .val (.ref b14), .val (.ref b32), .val (.int (1 : Int32)), .unset, .unset, .unset] [(.int (0 : Int32))])) _
        refine XS.istore X51.here hx rfl (hb hby at_104) rfl (l' := #[.val (.int p1), .val (.int p2), .val (.ref b1), .val (.ref b14), .val (.ref b32), .val (.int (1 : Int32)), .val (.int (0 : Int32)), .unset, .unset]) rfl ?_
        show Steps p.tables e below (T51.setTop (mkF m 106 #[.val (.int p1), .val (.int p2), .val (.ref b1), .val (.ref b14), .val (.ref b32), .val (.int (1 : Int32)), .val (.int (0 : Int32)), .unset, .unset] [])) _
        refine XS.iload X51.here hx rfl (hb hby at_106) rfl ?_
        show Steps p.tables e below (T51.setTop (mkF m 108 #[.val (.int p1), .val (.int p2), .val (.ref b1), .val (.ref b14), .val (.ref b32), .val (.int (1 : Int32)), .val (.int (0 : Int32)), .unset, .unset] [(.int (0 : Int32))])) _
        refine XS.ifYes X51.here hx rfl (pc0 := 108) (pc' := 118) rfl (hb hby at_108) rfl ((if0 _ _).trans (teq (rfl : (0 : Int32) = (0 : Int32))).1) (by decide) (by decide) ?_
        show Steps p.tables e below (T51.setTop (mkF m 118 #[.val (.int p1), .val (.int p2), .val (.ref b1), .val (.ref b14), .val (.ref b32), .val (.int (1 : Int32)), .val (.int (0 : Int32)), .unset, .unset] [])) _
        refine XS.aload X51.here hx rfl (hb hby at_118) rfl rfl ?_
        show Steps p.tables e below (T51.setTop (mkF m 120 #[.val (.int p1), .val (.int p2), .val (.ref b1), .val (.ref b14), .val (.ref b32), .val (.int (1 : Int32)), .val (.int (0 : Int32)), .unset, .unset] [(.ref b32)])) _
        refine XS.iload X51.here hx rfl (hb hby at_120) rfl ?_
        show Steps p.tables e below (T51.setTop (mkF m 122 #[.val (.int p1), .val (.int p2), .val (.ref b1), .val (.ref b14), .val (.ref b32), .val (.int (1 : Int32)), .val (.int (0 : Int32)), .unset, .unset] [(.int (1 : Int32)), (.ref b32)])) _
        refine X51.aaload hx (j := (1 : Int32)) (v := (.ref w_STOPPED)) (by rw [e51]; exact Ar78.1) (State.isArrayOf_alike hZ.alike Ar78.2.1) rfl Ar78.2.2 hin78 hat78 (g := (mkF m 122 #[.val (.int p1), .val (.int p2), .val (.ref b1), .val (.ref b14), .val (.ref b32), .val (.int (1 : Int32)), .val (.int (0 : Int32)), .unset, .unset] [(.int (1 : Int32)), (.ref b32)])) rfl rfl (hb hby at_122) _ ?_
        show Steps p.tables e below (T51.setTop (mkF m 123 #[.val (.int p1), .val (.int p2), .val (.ref b1), .val (.ref b14), .val (.ref b32), .val (.int (1 : Int32)), .val (.int (0 : Int32)), .unset, .unset] [(.ref w_STOPPED)])) _
        refine XS.astore X51.here hx rfl (hb hby at_123) rfl rfl (l' := #[.val (.int p1), .val (.int p2), .val (.ref b1), .val (.ref b14), .val (.ref b32), .val (.int (1 : Int32)), .val (.int (0 : Int32)), .val (.ref w_STOPPED), .unset]) rfl ?_
        show Steps p.tables e below (T51.setTop (mkF m 125 #[.val (.int p1), .val (.int p2), .val (.ref b1), .val (.ref b14), .val (.ref b32), .val (.int (1 : Int32)), .val (.int (0 : Int32)), .val (.ref w_STOPPED), .unset] [])) _
        refine XS.aloadN X51.here hx rfl (hb hby at_125) rfl rfl ?_
        show Steps p.tables e below (T51.setTop (mkF m 126 #[.val (.int p1), .val (.int p2), .val (.ref b1), .val (.ref b14), .val (.ref b32), .val (.int (1 : Int32)), .val (.int (0 : Int32)), .val (.ref w_STOPPED), .unset] [(.ref b1)])) _
        refine XS.iload X51.here hx rfl (hb hby at_126) rfl ?_
        show Steps p.tables e below (T51.setTop (mkF m 128 #[.val (.int p1), .val (.int p2), .val (.ref b1), .val (.ref b14), .val (.ref b32), .val (.int (1 : Int32)), .val (.int (0 : Int32)), .val (.ref w_STOPPED), .unset] [(.int (1 : Int32)), (.ref b1)])) _
        refine X51.aaload hx (j := (1 : Int32)) (v := (.ref w_STOPPED)) (by rw [e51]; exact Ar80.1) (State.isArrayOf_alike hZ.alike Ar80.2.1) rfl Ar80.2.2 hin80 hat80 (g := (mkF m 128 #[.val (.int p1), .val (.int p2), .val (.ref b1), .val (.ref b14), .val (.ref b32), .val (.int (1 : Int32)), .val (.int (0 : Int32)), .val (.ref w_STOPPED), .unset] [(.int (1 : Int32)), (.ref b1)])) rfl rfl (hb hby at_128) _ ?_
        show Steps p.tables e below (T51.setTop (mkF m 129 #[.val (.int p1), .val (.int p2), .val (.ref b1), .val (.ref b14), .val (.ref b32), .val (.int (1 : Int32)), .val (.int (0 : Int32)), .val (.ref w_STOPPED), .unset] [(.ref w_STOPPED)])) _
        refine XS.iload X51.here hx rfl (hb hby at_129) rfl ?_
        show Steps p.tables e below (T51.setTop (mkF m 131 #[.val (.int p1), .val (.int p2), .val (.ref b1), .val (.ref b14), .val (.ref b32), .val (.int (1 : Int32)), .val (.int (0 : Int32)), .val (.ref w_STOPPED), .unset] [(.int (0 : Int32)), (.ref w_STOPPED)])) _
        refine st82.trans ?_
        show Steps p.tables e below (T82.setTop (mkF m 134 #[.val (.int p1), .val (.int p2), .val (.ref b1), .val (.ref b14), .val (.ref b32), .val (.int (1 : Int32)), .val (.int (0 : Int32)), .val (.ref w_STOPPED), .unset] [(.ref w_STOPPED)])) _
        refine XS.astore X82.here hx rfl (hb hby at_134) rfl rfl (l' := #[.val (.int p1), .val (.int p2), .val (.ref b1), .val (.ref b14), .val (.ref b32), .val (.int (1 : Int32)), .val (.int (0 : Int32)), .val (.ref w_STOPPED), .val (.ref w_STOPPED)]) rfl ?_
        show Steps p.tables e below (T82.setTop (mkF m 136 #[.val (.int p1), .val (.int p2), .val (.ref b1), .val (.ref b14), .val (.ref b32), .val (.int (1 : Int32)), .val (.int (0 : Int32)), .val (.ref w_STOPPED), .val (.ref w_STOPPED)] [])) _
        refine XS.aload X82.here hx rfl (hb hby at_136) rfl rfl ?_
        show Steps p.tables e below (T82.setTop (mkF m 138 #[.val (.int p1), .val (.int p2), .val (.ref b1), .val (.ref b14), .val (.ref b32), .val (.int (1 : Int32)), .val (.int (0 : Int32)), .val (.ref w_STOPPED), .val (.ref w_STOPPED)] [(.ref w_STOPPED)])) _
        refine XS.aload X82.here hx rfl (hb hby at_138) rfl rfl ?_
        show Steps p.tables e below (T82.setTop (mkF m 140 #[.val (.int p1), .val (.int p2), .val (.ref b1), .val (.ref b14), .val (.ref b32), .val (.int (1 : Int32)), .val (.int (0 : Int32)), .val (.ref w_STOPPED), .val (.ref w_STOPPED)] [(.ref w_STOPPED), (.ref w_STOPPED)])) _
        refine Jvm.RoadKit.acmp (g := (mkF m 140 #[.val (.int p1), .val (.int p2), .val (.ref b1), .val (.ref b14), .val (.ref b32), .val (.int (1 : Int32)), .val (.int (0 : Int32)), .val (.ref w_STOPPED), .val (.ref w_STOPPED)] [(.ref w_STOPPED), (.ref w_STOPPED)])) X82 hx rfl rfl rfl (pc0 := 140) (pc' := 143) (same := true) rfl (hb hby at_140) rfl (decide_eq_true (congrArg Value.ref (rfl : w_STOPPED = w_STOPPED))) (by decide) (by decide) ?_
        show Steps p.tables e below (T82.setTop (mkF m 143 #[.val (.int p1), .val (.int p2), .val (.ref b1), .val (.ref b14), .val (.ref b32), .val (.int (1 : Int32)), .val (.int (0 : Int32)), .val (.ref w_STOPPED), .val (.ref w_STOPPED)] [])) _
        refine XT.iconstV X82.here hx rfl (1 : Int32) (hb hby at_143) (by decide) ?_
        show Steps p.tables e below (T82.setTop (mkF m 144 #[.val (.int p1), .val (.int p2), .val (.ref b1), .val (.ref b14), .val (.ref b32), .val (.int (1 : Int32)), .val (.int (0 : Int32)), .val (.ref w_STOPPED), .val (.ref w_STOPPED)] [(.int (1 : Int32))])) _
        refine XS.goto X82.here hx rfl (pc0 := 144) (pc' := 148) rfl (hb hby at_144) (by decide) (by decide) ?_
        show Steps p.tables e below (T82.setTop (mkF m 148 #[.val (.int p1), .val (.int p2), .val (.ref b1), .val (.ref b14), .val (.ref b32), .val (.int (1 : Int32)), .val (.int (0 : Int32)), .val (.ref w_STOPPED), .val (.ref w_STOPPED)] [(.int (1 : Int32))])) _
        exact retN X82 hx (t := .boolean) Bd.returns (by simp) (hb hby at_148) hr84
      · show Q0 Z _ _ _ _ _ _ h0 n0 _ T82.heap _
        rw [e82]
        exact ⟨rfl, N82⟩
    ·
      have pre85 : ∀ t, Steps p.tables e below (T51.setTop (mkF m 99 #[.val (.int p1), .val (.int p2), .val (.ref b1), .val (.ref b14), .val (.ref b32), .val (.int (1 : Int32)), .unset, .unset, .unset] [])) t → Steps p.tables e below (s₁.setTop (entryFrame m #[(.int p1), (.int p2)] maxLocals)) t := by
        intro t k
        refine pre75 _ ?_
        refine XS.ifNo X51.here hx rfl (hb hby at_96) rfl ((if0 _ _).trans (feq (hc76 : ¬ ((p2 &&& (1 : Int32)) = (0 : Int32)))).1) ?_
        exact k
      obtain ⟨cl86, Ar86, q86, S86, M86, H86, G86⟩ := V54
      have hin86 : ¬ ((1 : Int32) < 0 ∨ cl86.slots.size ≤ ((1 : Int32)).toNatClampNeg) := inb_of S86 ⟨by decide, by decide⟩
      have hat86 : cl86.slots[((1 : Int32)).toNatClampNeg]? = some (.ref w_CLOSED) := H86.at hin86 rfl
      have V87 : Arv Z h51 b14 k14 (.object "com/example/millrate/millrate/ledger/ObligationStatus") (4 : Int32) [(.ref w_ACTIVE), (.ref w_CLOSED), (.ref w_CLOSED), (.ref w_CLOSED)] .null := ⟨cl86, Ar86, q86, S86, M86, H86, G86⟩
      obtain ⟨cl88, Ar88, q88, S88, M88, H88, G88⟩ := V53
      have hin88 : ¬ ((1 : Int32) < 0 ∨ cl88.slots.size ≤ ((1 : Int32)).toNatClampNeg) := inb_of S88 ⟨by decide, by decide⟩
      have hat88 : cl88.slots[((1 : Int32)).toNatClampNeg]? = some (.ref w_STOPPED) := H88.at hin88 rfl
      have V89 : Arv Z h51 b1 k1 (.object "com/example/millrate/millrate/ledger/ObligationStatus") (4 : Int32) [(.ref w_ACTIVE), (.ref w_STOPPED), (.ref w_CLOSED), (.ref w_REACTIVATED)] .null := ⟨cl88, Ar88, q88, S88, M88, H88, G88⟩
      obtain ⟨cq91, kq91, q91a, q91b, q91c⟩ := isOf hZ e51 (Exa.keep E_STOPPED K51)
      obtain ⟨_, _, ⟨T90, L90, k90, n90⟩, -, X90, ⟨Lc90, hQ90, l90, y90, z90⟩, st90⟩ := X51.virtualBack hx (y := (⟨"com/example/millrate/millrate/ledger/ObligationStatus", "next", "(Z)Lcom/example/millrate/millrate/ledger/ObligationStatus;"⟩ : MethodName)) (z := (⟨"com/example/millrate/millrate/ledger/ObligationStatus", "next", "(Z)Lcom/example/millrate/millrate/ledger/ObligationStatus;"⟩ : MethodName)) hown (mvT hZ (hw _ (List.mem_of_getElem? (i := 12) rfl))) (mvT hZ (hw _ (List.mem_of_getElem? (i := 13) rfl))) (notFace_of_selects (args := #[]) (mvT hZ (hw _ (List.mem_of_getElem? (i := 15) rfl)))) (mvT hZ (hw _ (List.mem_of_getElem? (i := 15) rfl))) (mvT hZ (hw _ (List.mem_of_getElem? (i := 14) rfl))) (by decide) (backOf (W := 0) (rm2 l Z a0 hw [] w_STOPPED (1 : Int32) w_ACTIVE w_CLOSED w_REACTIVATED w_CLOSED h51 n0 (Sta.wr W51 (Sta.wr W46 (Sta.wr W41 (Sta.wr W36 (Sta.ext E32 (Sta.wr W29 (Sta.wr W25 (Sta.wr W21 (Sta.wr W17 (Sta.ext E14 (Sta.wr W12 (Sta.wr W9 (Sta.wr W6 (Sta.wr W3 (Sta.ext E1 S_ACTIVE))))))))))))))) (Sta.wr W51 (Sta.wr W46 (Sta.wr W41 (Sta.wr W36 (Sta.ext E32 (Sta.wr W29 (Sta.wr W25 (Sta.wr W21 (Sta.wr W17 (Sta.ext E14 (Sta.wr W12 (Sta.wr W9 (Sta.wr W6 (Sta.wr W3 (Sta.ext E1 S_CLOSED))))))))))))))) (Sta.wr W51 (Sta.wr W46 (Sta.wr W41 (Sta.wr W36 (Sta.ext E32 (Sta.wr W29 (Sta.wr W25 (Sta.wr W21 (Sta.wr W17 (Sta.ext E14 (Sta.wr W12 (Sta.wr W9 (Sta.wr W6 (Sta.wr W3 (Sta.ext E1 S_REACTIVATED))))))))))))))) (Exa.keep E_STOPPED K51) (by unfold own_next; rw [if_neg ((Fld.ne O_STOPPED O_ACTIVE (fun q => absurd (Value.int.inj q) (by decide))) : ¬ (w_STOPPED = w_ACTIVE)), if_neg ((by decide) : ¬ ((1 : Int32) = (0 : Int32)))])) hZ (hw _ (List.mem_of_getElem? (i := 16) rfl)) (hw _ (List.mem_of_getElem? (i := 3) rfl)) (by decide) (by decide)) q91a q91c (g := (mkF m 131 #[.val (.int p1), .val (.int p2), .val (.ref b1), .val (.ref b14), .val (.ref b32), .val (.int (1 : Int32)), .val (.int (1 : Int32)), .val (.ref w_CLOSED), .unset] [(.int (1 : Int32)), (.ref w_STOPPED)])) rfl (by rw [hml]; rfl) (Steps.refl _) (argsL := [(.int (1 : Int32))]) (rest := []) (lenOf (show parseMethodDescriptor "(Z)Lcom/example/millrate/millrate/ledger/ObligationStatus;" = some ⟨[.boolean], some (.object "com/example/millrate/millrate/ledger/ObligationStatus")⟩ by decide +kernel) rfl) rfl (by show 2 * 0 + _ ≤ _; exact Nat.le_of_eq rfl) (hb hby at_131) (fun _ _ => ⟨rfl, e51, (by decide : 3 + 0 ≤ _), (by decide : 12 + 0 ≤ _)⟩)
      dsimp only [Pt.U, Pt.locs, Pt.cells, Pt.slots] at X90 l90 y90 z90 st90 hQ90
      subst l90 y90 z90
      obtain ⟨rfl, Nq90, e90⟩ := hQ90
      have N90 := Fr.app N51 Nq90
      obtain ⟨fs, hr92, hrun, hended, hW, hsame⟩ := X90.leave (v := some (.int (1 : Int32))) (fun h => by rw [Bd.returns] at h; cases h)
      refine ⟨_, _, pre85 _ ?_, hrun, hended, _, _, rfl, ?_, ⟨_, rfl⟩, hW, hsame.mono (by decide) (by decide)⟩
      · show Steps p.tables e below (T51.setTop (mkF m 99 #[.val (.int p1), .val (.int p2), .val (.ref b1), .val (.ref b14), .val (.ref b32), .val (.int (1 : Int32)), .unset, .unset, .unset] [])) _
        refine XT.iconstV X51.here hx rfl (1 : Int32) (hb hby at_99) (by decide) ?_
        show Steps p.tables e below (T51.setTop (mkF m 100 #[.val (.int p1), .val (.int p2), .val (.ref b1), .val (.ref b14), .val (.ref b32), .val (.int (1 : Int32)), .unset, .unset, .unset] [(.int (1 : Int32))])) _
        refine XS.goto X51.here hx rfl (pc0 := 100) (pc' := 104) rfl (hb hby at_100) (by decide) (by decide) ?_
        show Steps p.tables e below (T51.setTop (mkF m 104 #[.val (.int p1), .val (.int p2), .val (.ref b1), .val (.ref b14), .val (.ref b32), .val (.int (1 : Int32)), .unset, .unset, .unset] [(.int (1 : Int32))])) _
        refine XS.istore X51.here hx rfl (hb hby at_104) rfl (l' := #[.val (.int p1), .val (.int p2), .val (.ref b1), .val (.ref b14), .val (.ref b32), .val (.int (1 : Int32)), .val (.int (1 : Int32)), .unset, .unset]) rfl ?_
        show Steps p.tables e below (T51.setTop (mkF m 106 #[.val (.int p1), .val (.int p2), .val (.ref b1), .val (.ref b14), .val (.ref b32), .val (.int (1 : Int32)), .val (.int (1 : Int32)), .unset, .unset] [])) _
        refine XS.iload X51.here hx rfl (hb hby at_106) rfl ?_
        show Steps p.tables e below (T51.setTop (mkF m 108 #[.val (.int p1), .val (.int p2), .val (.ref b1), .val (.ref b14), .val (.ref b32), .val (.int (1 : Int32)), .val (.int (1 : Int32)), .unset, .unset] [(.int (1 : Int32))])) _
        refine XS.ifNo X51.here hx rfl (hb hby at_108) rfl ((if0 _ _).trans (feq ((by decide) : ¬ ((1 : Int32) = (0 : Int32)))).1) ?_
        show Steps p.tables e below (T51.setTop (mkF m 111 #[.val (.int p1), .val (.int p2), .val (.ref b1), .val (.ref b14), .val (.ref b32), .val (.int (1 : Int32)), .val (.int (1 : Int32)), .unset, .unset] [])) _
        refine XS.aloadN X51.here hx rfl (hb hby at_111) rfl rfl ?_
        show Steps p.tables e below (T51.setTop (mkF m 112 #[.val (.int p1), .val (.int p2), .val (.ref b1), .val (.ref b14), .val (.ref b32), .val (.int (1 : Int32)), .val (.int (1 : Int32)), .unset, .unset] [(.ref b14)])) _
        refine XS.iload X51.here hx rfl (hb hby at_112) rfl ?_
        show Steps p.tables e below (T51.setTop (mkF m 114 #[.val (.int p1), .val (.int p2), .val (.ref b1), .val (.ref b14), .val (.ref b32), .val (.int (1 : Int32)), .val (.int (1 : Int32)), .unset, .unset] [(.int (1 : Int32)), (.ref b14)])) _
        refine X51.aaload hx (j := (1 : Int32)) (v := (.ref w_CLOSED)) (by rw [e51]; exact Ar86.1) (State.isArrayOf_alike hZ.alike Ar86.2.1) rfl Ar86.2.2 hin86 hat86 (g := (mkF m 114 #[.val (.int p1), .val (.int p2), .val (.ref b1), .val (.ref b14), .val (.ref b32), .val (.int (1 : Int32)), .val (.int (1 : Int32)), .unset, .unset] [(.int (1 : Int32)), (.ref b14)])) rfl rfl (hb hby at_114) _ ?_
        show Steps p.tables e below (T51.setTop (mkF m 115 #[.val (.int p1), .val (.int p2), .val (.ref b1), .val (.ref b14), .val (.ref b32), .val (.int (1 : Int32)), .val (.int (1 : Int32)), .unset, .unset] [(.ref w_CLOSED)])) _
        refine XS.goto X51.here hx rfl (pc0 := 115) (pc' := 123) rfl (hb hby at_115) (by decide) (by decide) ?_
        show Steps p.tables e below (T51.setTop (mkF m 123 #[.val (.int p1), .val (.int p2), .val (.ref b1), .val (.ref b14), .val (.ref b32), .val (.int (1 : Int32)), .val (.int (1 : Int32)), .unset, .unset] [(.ref w_CLOSED)])) _
        refine XS.astore X51.here hx rfl (hb hby at_123) rfl rfl (l' := #[.val (.int p1), .val (.int p2), .val (.ref b1), .val (.ref b14), .val (.ref b32), .val (.int (1 : Int32)), .val (.int (1 : Int32)), .val (.ref w_CLOSED), .unset]) rfl ?_
        show Steps p.tables e below (T51.setTop (mkF m 125 #[.val (.int p1), .val (.int p2), .val (.ref b1), .val (.ref b14), .val (.ref b32), .val (.int (1 : Int32)), .val (.int (1 : Int32)), .val (.ref w_CLOSED), .unset] [])) _
        refine XS.aloadN X51.here hx rfl (hb hby at_125) rfl rfl ?_
        show Steps p.tables e below (T51.setTop (mkF m 126 #[.val (.int p1), .val (.int p2), .val (.ref b1), .val (.ref b14), .val (.ref b32), .val (.int (1 : Int32)), .val (.int (1 : Int32)), .val (.ref w_CLOSED), .unset] [(.ref b1)])) _
        refine XS.iload X51.here hx rfl (hb hby at_126) rfl ?_
        show Steps p.tables e below (T51.setTop (mkF m 128 #[.val (.int p1), .val (.int p2), .val (.ref b1), .val (.ref b14), .val (.ref b32), .val (.int (1 : Int32)), .val (.int (1 : Int32)), .val (.ref w_CLOSED), .unset] [(.int (1 : Int32)), (.ref b1)])) _
        refine X51.aaload hx (j := (1 : Int32)) (v := (.ref w_STOPPED)) (by rw [e51]; exact Ar88.1) (State.isArrayOf_alike hZ.alike Ar88.2.1) rfl Ar88.2.2 hin88 hat88 (g := (mkF m 128 #[.val (.int p1), .val (.int p2), .val (.ref b1), .val (.ref b14), .val (.ref b32), .val (.int (1 : Int32)), .val (.int (1 : Int32)), .val (.ref w_CLOSED), .unset] [(.int (1 : Int32)), (.ref b1)])) rfl rfl (hb hby at_128) _ ?_
        show Steps p.tables e below (T51.setTop (mkF m 129 #[.val (.int p1), .val (.int p2), .val (.ref b1), .val (.ref b14), .val (.ref b32), .val (.int (1 : Int32)), .val (.int (1 : Int32)), .val (.ref w_CLOSED), .unset] [(.ref w_STOPPED)])) _
        refine XS.iload X51.here hx rfl (hb hby at_129) rfl ?_
        show Steps p.tables e below (T51.setTop (mkF m 131 #[.val (.int p1), .val (.int p2), .val (.ref b1), .val (.ref b14), .val (.ref b32), .val (.int (1 : Int32)), .val (.int (1 : Int32)), .val (.ref w_CLOSED), .unset] [(.int (1 : Int32)), (.ref w_STOPPED)])) _
        refine st90.trans ?_
        show Steps p.tables e below (T90.setTop (mkF m 134 #[.val (.int p1), .val (.int p2), .val (.ref b1), .val (.ref b14), .val (.ref b32), .val (.int (1 : Int32)), .val (.int (1 : Int32)), .val (.ref w_CLOSED), .unset] [(.ref w_CLOSED)])) _
        refine XS.astore X90.here hx rfl (hb hby at_134) rfl rfl (l' := #[.val (.int p1), .val (.int p2), .val (.ref b1), .val (.ref b14), .val (.ref b32), .val (.int (1 : Int32)), .val (.int (1 : Int32)), .val (.ref w_CLOSED), .val (.ref w_CLOSED)]) rfl ?_
        show Steps p.tables e below (T90.setTop (mkF m 136 #[.val (.int p1), .val (.int p2), .val (.ref b1), .val (.ref b14), .val (.ref b32), .val (.int (1 : Int32)), .val (.int (1 : Int32)), .val (.ref w_CLOSED), .val (.ref w_CLOSED)] [])) _
        refine XS.aload X90.here hx rfl (hb hby at_136) rfl rfl ?_
        show Steps p.tables e below (T90.setTop (mkF m 138 #[.val (.int p1), .val (.int p2), .val (.ref b1), .val (.ref b14), .val (.ref b32), .val (.int (1 : Int32)), .val (.int (1 : Int32)), .val (.ref w_CLOSED), .val (.ref w_CLOSED)] [(.ref w_CLOSED)])) _
        refine XS.aload X90.here hx rfl (hb hby at_138) rfl rfl ?_
        show Steps p.tables e below (T90.setTop (mkF m 140 #[.val (.int p1), .val (.int p2), .val (.ref b1), .val (.ref b14), .val (.ref b32), .val (.int (1 : Int32)), .val (.int (1 : Int32)), .val (.ref w_CLOSED), .val (.ref w_CLOSED)] [(.ref w_CLOSED), (.ref w_CLOSED)])) _
        refine Jvm.RoadKit.acmp (g := (mkF m 140 #[.val (.int p1), .val (.int p2), .val (.ref b1), .val (.ref b14), .val (.ref b32), .val (.int (1 : Int32)), .val (.int (1 : Int32)), .val (.ref w_CLOSED), .val (.ref w_CLOSED)] [(.ref w_CLOSED), (.ref w_CLOSED)])) X90 hx rfl rfl rfl (pc0 := 140) (pc' := 143) (same := true) rfl (hb hby at_140) rfl (decide_eq_true (congrArg Value.ref (rfl : w_CLOSED = w_CLOSED))) (by decide) (by decide) ?_
        show Steps p.tables e below (T90.setTop (mkF m 143 #[.val (.int p1), .val (.int p2), .val (.ref b1), .val (.ref b14), .val (.ref b32), .val (.int (1 : Int32)), .val (.int (1 : Int32)), .val (.ref w_CLOSED), .val (.ref w_CLOSED)] [])) _
        refine XT.iconstV X90.here hx rfl (1 : Int32) (hb hby at_143) (by decide) ?_
        show Steps p.tables e below (T90.setTop (mkF m 144 #[.val (.int p1), .val (.int p2), .val (.ref b1), .val (.ref b14), .val (.ref b32), .val (.int (1 : Int32)), .val (.int (1 : Int32)), .val (.ref w_CLOSED), .val (.ref w_CLOSED)] [(.int (1 : Int32))])) _
        refine XS.goto X90.here hx rfl (pc0 := 144) (pc' := 148) rfl (hb hby at_144) (by decide) (by decide) ?_
        show Steps p.tables e below (T90.setTop (mkF m 148 #[.val (.int p1), .val (.int p2), .val (.ref b1), .val (.ref b14), .val (.ref b32), .val (.int (1 : Int32)), .val (.int (1 : Int32)), .val (.ref w_CLOSED), .val (.ref w_CLOSED)] [(.int (1 : Int32))])) _
        exact retN X90 hx (t := .boolean) Bd.returns (by simp) (hb hby at_148) hr92
      · show Q0 Z _ _ _ _ _ _ h0 n0 _ T90.heap _
        rw [e90]
        exact ⟨rfl, N90⟩
  ·
    rw [hv56] at pre55
    have pre93 : ∀ t, Steps p.tables e below (T51.setTop (mkF m 96 #[.val (.int p1), .val (.int p2), .val (.ref b1), .val (.ref b14), .val (.ref b32), .val (.int (2 : Int32)), .unset, .unset, .unset] [(.int (p2 &&& (1 : Int32)))])) t → Steps p.tables e below (s₁.setTop (entryFrame m #[(.int p1), (.int p2)] maxLocals)) t := by
      intro t k
      refine pre55 _ ?_
      show Steps p.tables e below (T51.setTop (mkF m 93 #[.val (.int p1), .val (.int p2), .val (.ref b1), .val (.ref b14), .val (.ref b32), .val (.int (2 : Int32)), .unset, .unset, .unset] [])) _
      refine XS.iloadN X51.here hx rfl (hb hby at_93) rfl ?_
      show Steps p.tables e below (T51.setTop (mkF m 94 #[.val (.int p1), .val (.int p2), .val (.ref b1), .val (.ref b14), .val (.ref b32), .val (.int (2 : Int32)), .unset, .unset, .unset] [(.int p2)])) _
      refine XT.iconstV X51.here hx rfl (1 : Int32) (hb hby at_94) (by decide) ?_
      show Steps p.tables e below (T51.setTop (mkF m 95 #[.val (.int p1), .val (.int p2), .val (.ref b1), .val (.ref b14), .val (.ref b32), .val (.int (2 : Int32)), .unset, .unset, .unset] [(.int (1 : Int32)), (.int p2)])) _
      refine XS.iand X51.here hx rfl (hb hby at_95) rfl ?_
      show Steps p.tables e below (T51.setTop (mkF m 96 #[.val (.int p1), .val (.int p2), .val (.ref b1), .val (.ref b14), .val (.ref b32), .val (.int (2 : Int32)), .unset, .unset, .unset] [(.int (p2 &&& (1 : Int32)))])) _
      exact k
    by_cases hc94 : (p2 &&& (1 : Int32)) = (0 : Int32)
    ·
      have pre95 : ∀ t, Steps p.tables e below (T51.setTop (mkF m 103 #[.val (.int p1), .val (.int p2), .val (.ref b1), .val (.ref b14), .val (.ref b32), .val (.int (2 : Int32)), .unset, .unset, .unset] [])) t → Steps p.tables e below (s₁.setTop (entryFrame m #[(.int p1), (.int p2)] maxLocals)) t := by
        intro t k
        refine pre93 _ ?_
        refine XS.ifYes X51.here hx rfl (pc0 := 96) (pc' := 103) rfl (hb hby at_96) rfl ((if0 _ _).trans (teq (hc94 : (p2 &&& (1 : Int32)) = (0 : Int32))).1) (by decide) (by decide) ?_
        exact k
      obtain ⟨cl96, Ar96, q96, S96, M96, H96, G96⟩ := V52
      have hin96 : ¬ ((2 : Int32) < 0 ∨ cl96.slots.size ≤ ((2 : Int32)).toNatClampNeg) := inb_of S96 ⟨by decide, by decide⟩
      have hat96 : cl96.slots[((2 : Int32)).toNatClampNeg]? = some (.ref w_REACTIVATED) := H96.at hin96 rfl
      have V97 : Arv Z h51 b32 k32 (.object "com/example/millrate/millrate/ledger/ObligationStatus") (4 : Int32) [(.ref w_ACTIVE), (.ref w_STOPPED), (.ref w_REACTIVATED), (.ref w_REACTIVATED)] .null := ⟨cl96, Ar96, q96, S96, M96, H96, G96⟩
      obtain ⟨cl98, Ar98, q98, S98, M98, H98, G98⟩ := V53
      have hin98 : ¬ ((2 : Int32) < 0 ∨ cl98.slots.size ≤ ((2 : Int32)).toNatClampNeg) := inb_of S98 ⟨by decide, by decide⟩
      have hat98 : cl98.slots[((2 : Int32)).toNatClampNeg]? = some (.ref w_CLOSED) := H98.at hin98 rfl
      have V99 : Arv Z h51 b1 k1 (.object "com/example/millrate/millrate/ledger/ObligationStatus") (4 : Int32) [(.ref w_ACTIVE), (.ref w_STOPPED), (.ref w_CLOSED), (.ref w_REACTIVATED)] .null := ⟨cl98, Ar98, q98, S98, M98, H98, G98⟩
      obtain ⟨cq101, kq101, q101a, q101b, q101c⟩ := isOf hZ e51 (Exa.keep E_CLOSED K51)
      obtain ⟨_, _, ⟨T100, L100, k100, n100⟩, -, X100, ⟨Lc100, hQ100, l100, y100, z100⟩, st100⟩ := X51.virtualBack hx (y := (⟨"com/example/millrate/millrate/ledger/ObligationStatus", "next", "(Z)Lcom/example/millrate/millrate/ledger/ObligationStatus;"⟩ : MethodName)) (z := (⟨"com/example/millrate/millrate/ledger/ObligationStatus", "next", "(Z)Lcom/example/millrate/millrate/ledger/ObligationStatus;"⟩ : MethodName)) hown (mvT hZ (hw _ (List.mem_of_getElem? (i := 12) rfl))) (mvT hZ (hw _ (List.mem_of_getElem? (i := 13) rfl))) (notFace_of_selects (args := #[]) (mvT hZ (hw _ (List.mem_of_getElem? (i := 15) rfl)))) (mvT hZ (hw _ (List.mem_of_getElem? (i := 15) rfl))) (mvT hZ (hw _ (List.mem_of_getElem? (i := 14) rfl))) (by decide) (backOf (W := 0) (rm2 l Z a0 hw [] w_CLOSED (0 : Int32) w_ACTIVE w_CLOSED w_REACTIVATED w_REACTIVATED h51 n0 (Sta.wr W51 (Sta.wr W46 (Sta.wr W41 (Sta.wr W36 (Sta.ext E32 (Sta.wr W29 (Sta.wr W25 (Sta.wr W21 (Sta.wr W17 (Sta.ext E14 (Sta.wr W12 (Sta.wr W9 (Sta.wr W6 (Sta.wr W3 (Sta.ext E1 S_ACTIVE))))))))))))))) (Sta.wr W51 (Sta.wr W46 (Sta.wr W41 (Sta.wr W36 (Sta.ext E32 (Sta.wr W29 (Sta.wr W25 (Sta.wr W21 (Sta.wr W17 (Sta.ext E14 (Sta.wr W12 (Sta.wr W9 (Sta.wr W6 (Sta.wr W3 (Sta.ext E1 S_CLOSED))))))))))))))) (Sta.wr W51 (Sta.wr W46 (Sta.wr W41 (Sta.wr W36 (Sta.ext E32 (Sta.wr W29 (Sta.wr W25 (Sta.wr W21 (Sta.wr W17 (Sta.ext E14 (Sta.wr W12 (Sta.wr W9 (Sta.wr W6 (Sta.wr W3 (Sta.ext E1 S_REACTIVATED))))))))))))))) (Exa.keep E_CLOSED K51) (by unfold own_next; rw [if_neg ((Fld.ne O_CLOSED O_ACTIVE (fun q => absurd (Value.int.inj q) (by decide))) : ¬ (w_CLOSED = w_ACTIVE)), if_pos (rfl : (0 : Int32) = (0 : Int32)), if_pos (rfl : w_CLOSED = w_CLOSED)])) hZ (hw _ (List.mem_of_getElem? (i := 16) rfl)) (hw _ (List.mem_of_getElem? (i := 3) rfl)) (by decide) (by decide)) q101a q101c (g := (mkF m 131 #[.val (.int p1), .val (.int p2), .val (.ref b1), .val (.ref b14), .val (.ref b32), .val (.int (2 : Int32)), .val (.int (0 : Int32)), .val (.ref w_REACTIVATED), .unset] [(.int (0 : Int32)), (.ref w_CLOSED)])) rfl (by rw [hml]; rfl) (Steps.refl _) (argsL := [(.int (0 : Int32))]) (rest := []) (lenOf (show parseMethodDescriptor "(Z)Lcom/example/millrate/millrate/ledger/ObligationStatus;" = some ⟨[.boolean], some (.object "com/example/millrate/millrate/ledger/ObligationStatus")⟩ by decide +kernel) rfl) rfl (by show 2 * 0 + _ ≤ _; exact Nat.le_of_eq rfl) (hb hby at_131) (fun _ _ => ⟨rfl, e51, (by decide : 3 + 0 ≤ _), (by decide : 12 + 0 ≤ _)⟩)
      dsimp only [Pt.U, Pt.locs, Pt.cells, Pt.slots] at X100 l100 y100 z100 st100 hQ100
      subst l100 y100 z100
      obtain ⟨rfl, Nq100, e100⟩ := hQ100
      have N100 := Fr.app N51 Nq100
      obtain ⟨fs, hr102, hrun, hended, hW, hsame⟩ := X100.leave (v := some (.int (1 : Int32))) (fun h => by rw [Bd.returns] at h; cases h)
      refine ⟨_, _, pre95 _ ?_, hrun, hended, _, _, rfl, ?_, ⟨_, rfl⟩, hW, hsame.mono (by decide) (by decide)⟩
      · show Steps p.tables e below (T51.setTop (mkF m 103 #[.val (.int p1), .val (.int p2), .val (.ref b1), .val (.ref b14), .val (.ref b32), .val (.int (2 : Int32)), .unset, .unset, .unset] [])) _
        refine XT.iconstV X51.here hx rfl (0 : Int32) (hb hby at_103) (by decide) ?_
        show Steps p.tables e below (T51.setTop (mkF m 104 #[.val (.int p1), .val (.int p2), .val (.ref b1), .val (.ref b14), .val (.ref b32), .val (.int (2 : Int32)), .unset, .unset, .unset] [(.int (0 : Int32))])) _
        refine XS.istore X51.here hx rfl (hb hby at_104) rfl (l' := #[.val (.int p1), .val (.int p2), .val (.ref b1), .val (.ref b14), .val (.ref b32), .val (.int (2 : Int32)), .val (.int (0 : Int32)), .unset, .unset]) rfl ?_
        show Steps p.tables e below (T51.setTop (mkF m 106 #[.val (.int p1), .val (.int p2), .val (.ref b1), .val (.ref b14), .val (.ref b32), .val (.int (2 : Int32)), .val (.int (0 : Int32)), .unset, .unset] [])) _
        refine XS.iload X51.here hx rfl (hb hby at_106) rfl ?_
        show Steps p.tables e below (T51.setTop (mkF m 108 #[.val (.int p1), .val (.int p2), .val (.ref b1), .val (.ref b14), .val (.ref b32), .val (.int (2 : Int32)), .val (.int (0 : Int32)), .unset, .unset] [(.int (0 : Int32))])) _
        refine XS.ifYes X51.here hx rfl (pc0 := 108) (pc' := 118) rfl (hb hby at_108) rfl ((if0 _ _).trans (teq (rfl : (0 : Int32) = (0 : Int32))).1) (by decide) (by decide) ?_
        show Steps p.tables e below (T51.setTop (mkF m 118 #[.val (.int p1), .val (.int p2), .val (.ref b1), .val (.ref b14), .val (.ref b32), .val (.int (2 : Int32)), .val (.int (0 : Int32)), .unset, .unset] [])) _
        refine XS.aload X51.here hx rfl (hb hby at_118) rfl rfl ?_
        show Steps p.tables e below (T51.setTop (mkF m 120 #[.val (.int p1), .val (.int p2), .val (.ref b1), .val (.ref b14), .val (.ref b32), .val (.int (2 : Int32)), .val (.int (0 : Int32)), .unset, .unset] [(.ref b32)])) _
        refine XS.iload X51.here hx rfl (hb hby at_120) rfl ?_
        show Steps p.tables e below (T51.setTop (mkF m 122 #[.val (.int p1), .val (.int p2), .val (.ref b1), .val (.ref b14), .val (.ref b32), .val (.int (2 : Int32)), .val (.int (0 : Int32)), .unset, .unset] [(.int (2 : Int32)), (.ref b32)])) _
        refine X51.aaload hx (j := (2 : Int32)) (v := (.ref w_REACTIVATED)) (by rw [e51]; exact Ar96.1) (State.isArrayOf_alike hZ.alike Ar96.2.1) rfl Ar96.2.2 hin96 hat96 (g := (mkF m 122 #[.val (.int p1), .val (.int p2), .val (.ref b1), .val (.ref b14), .val (.ref b32), .val (.int (2 : Int32)), .val (.int (0 : Int32)), .unset, .unset] [(.int (2 : Int32)), (.ref b32)])) rfl rfl (hb hby at_122) _ ?_
        show Steps p.tables e below (T51.setTop (mkF m 123 #[.val (.int p1), .val (.int p2), .val (.ref b1), .val (.ref b14), .val (.ref b32), .val (.int (2 : Int32)), .val (.int (0 : Int32)), .unset, .unset] [(.ref w_REACTIVATED)])) _
        refine XS.astore X51.here hx rfl (hb hby at_123) rfl rfl (l' := #[.val (.int p1), .val (.int p2), .val (.ref b1), .val (.ref b14), .val (.ref b32), .val (.int (2 : Int32)), .val (.int (0 : Int32)), .val (.ref w_REACTIVATED), .unset]) rfl ?_
        show Steps p.tables e below (T51.setTop (mkF m 125 #[.val (.int p1), .val (.int p2), .val (.ref b1), .val (.ref b14), .val (.ref b32), .val (.int (2 : Int32)), .val (.int (0 : Int32)), .val (.ref w_REACTIVATED), .unset] [])) _
        refine XS.aloadN X51.here hx rfl (hb hby at_125) rfl rfl ?_
        show Steps p.tables e below (T51.setTop (mkF m 126 #[.val (.int p1), .val (.int p2), .val (.ref b1), .val (.ref b14), .val (.ref b32), .val (.int (2 : Int32)), .val (.int (0 : Int32)), .val (.ref w_REACTIVATED), .unset] [(.ref b1)])) _
        refine XS.iload X51.here hx rfl (hb hby at_126) rfl ?_
        show Steps p.tables e below (T51.setTop (mkF m 128 #[.val (.int p1), .val (.int p2), .val (.ref b1), .val (.ref b14), .val (.ref b32), .val (.int (2 : Int32)), .val (.int (0 : Int32)), .val (.ref w_REACTIVATED), .unset] [(.int (2 : Int32)), (.ref b1)])) _
        refine X51.aaload hx (j := (2 : Int32)) (v := (.ref w_CLOSED)) (by rw [e51]; exact Ar98.1) (State.isArrayOf_alike hZ.alike Ar98.2.1) rfl Ar98.2.2 hin98 hat98 (g := (mkF m 128 #[.val (.int p1), .val (.int p2), .val (.ref b1), .val (.ref b14), .val (.ref b32), .val (.int (2 : Int32)), .val (.int (0 : Int32)), .val (.ref w_REACTIVATED), .unset] [(.int (2 : Int32)), (.ref b1)])) rfl rfl (hb hby at_128) _ ?_
        show Steps p.tables e below (T51.setTop (mkF m 129 #[.val (.int p1), .val (.int p2), .val (.ref b1), .val (.ref b14), .val (.ref b32), .val (.int (2 : Int32)), .val (.int (0 : Int32)), .val (.ref w_REACTIVATED), .unset] [(.ref w_CLOSED)])) _
        refine XS.iload X51.here hx rfl (hb hby at_129) rfl ?_
        show Steps p.tables e below (T51.setTop (mkF m 131 #[.val (.int p1), .val (.int p2), .val (.ref b1), .val (.ref b14), .val (.ref b32), .val (.int (2 : Int32)), .val (.int (0 : Int32)), .val (.ref w_REACTIVATED), .unset] [(.int (0 : Int32)), (.ref w_CLOSED)])) _
        refine st100.trans ?_
        show Steps p.tables e below (T100.setTop (mkF m 134 #[.val (.int p1), .val (.int p2), .val (.ref b1), .val (.ref b14), .val (.ref b32), .val (.int (2 : Int32)), .val (.int (0 : Int32)), .val (.ref w_REACTIVATED), .unset] [(.ref w_REACTIVATED)])) _
        refine XS.astore X100.here hx rfl (hb hby at_134) rfl rfl (l' := #[.val (.int p1), .val (.int p2), .val (.ref b1), .val (.ref b14), .val (.ref b32), .val (.int (2 : Int32)), .val (.int (0 : Int32)), .val (.ref w_REACTIVATED), .val (.ref w_REACTIVATED)]) rfl ?_
        show Steps p.tables e below (T100.setTop (mkF m 136 #[.val (.int p1), .val (.int p2), .val (.ref b1), .val (.ref b14), .val (.ref b32), .val (.int (2 : Int32)), .val (.int (0 : Int32)), .val (.ref w_REACTIVATED), .val (.ref w_REACTIVATED)] [])) _
        refine XS.aload X100.here hx rfl (hb hby at_136) rfl rfl ?_
        show Steps p.tables e below (T100.setTop (mkF m 138 #[.val (.int p1), .val (.int p2), .val (.ref b1), .val (.ref b14), .val (.ref b32), .val (.int (2 : Int32)), .val (.int (0 : Int32)), .val (.ref w_REACTIVATED), .val (.ref w_REACTIVATED)] [(.ref w_REACTIVATED)])) _
        refine XS.aload X100.here hx rfl (hb hby at_138) rfl rfl ?_
        show Steps p.tables e below (T100.setTop (mkF m 140 #[.val (.int p1), .val (.int p2), .val (.ref b1), .val (.ref b14), .val (.ref b32), .val (.int (2 : Int32)), .val (.int (0 : Int32)), .val (.ref w_REACTIVATED), .val (.ref w_REACTIVATED)] [(.ref w_REACTIVATED), (.ref w_REACTIVATED)])) _
        refine Jvm.RoadKit.acmp (g := (mkF m 140 #[.val (.int p1), .val (.int p2), .val (.ref b1), .val (.ref b14), .val (.ref b32), .val (.int (2 : Int32)), .val (.int (0 : Int32)), .val (.ref w_REACTIVATED), .val (.ref w_REACTIVATED)] [(.ref w_REACTIVATED), (.ref w_REACTIVATED)])) X100 hx rfl rfl rfl (pc0 := 140) (pc' := 143) (same := true) rfl (hb hby at_140) rfl (decide_eq_true (congrArg Value.ref (rfl : w_REACTIVATED = w_REACTIVATED))) (by decide) (by decide) ?_
        show Steps p.tables e below (T100.setTop (mkF m 143 #[.val (.int p1), .val (.int p2), .val (.ref b1), .val (.ref b14), .val (.ref b32), .val (.int (2 : Int32)), .val (.int (0 : Int32)), .val (.ref w_REACTIVATED), .val (.ref w_REACTIVATED)] [])) _
        refine XT.iconstV X100.here hx rfl (1 : Int32) (hb hby at_143) (by decide) ?_
        show Steps p.tables e below (T100.setTop (mkF m 144 #[.val (.int p1), .val (.int p2), .val (.ref b1), .val (.ref b14), .val (.ref b32), .val (.int (2 : Int32)), .val (.int (0 : Int32)), .val (.ref w_REACTIVATED), .val (.ref w_REACTIVATED)] [(.int (1 : Int32))])) _
        refine XS.goto X100.here hx rfl (pc0 := 144) (pc' := 148) rfl (hb hby at_144) (by decide) (by decide) ?_
        show Steps p.tables e below (T100.setTop (mkF m 148 #[.val (.int p1), .val (.int p2), .val (.ref b1), .val (.ref b14), .val (.ref b32), .val (.int (2 : Int32)), .val (.int (0 : Int32)), .val (.ref w_REACTIVATED), .val (.ref w_REACTIVATED)] [(.int (1 : Int32))])) _
        exact retN X100 hx (t := .boolean) Bd.returns (by simp) (hb hby at_148) hr102
      · show Q0 Z _ _ _ _ _ _ h0 n0 _ T100.heap _
        rw [e100]
        exact ⟨rfl, N100⟩
    ·
      have pre103 : ∀ t, Steps p.tables e below (T51.setTop (mkF m 99 #[.val (.int p1), .val (.int p2), .val (.ref b1), .val (.ref b14), .val (.ref b32), .val (.int (2 : Int32)), .unset, .unset, .unset] [])) t → Steps p.tables e below (s₁.setTop (entryFrame m #[(.int p1), (.int p2)] maxLocals)) t := by
        intro t k
        refine pre93 _ ?_
        refine XS.ifNo X51.here hx rfl (hb hby at_96) rfl ((if0 _ _).trans (feq (hc94 : ¬ ((p2 &&& (1 : Int32)) = (0 : Int32)))).1) ?_
        exact k
      obtain ⟨cl104, Ar104, q104, S104, M104, H104, G104⟩ := V54
      have hin104 : ¬ ((2 : Int32) < 0 ∨ cl104.slots.size ≤ ((2 : Int32)).toNatClampNeg) := inb_of S104 ⟨by decide, by decide⟩
      have hat104 : cl104.slots[((2 : Int32)).toNatClampNeg]? = some (.ref w_CLOSED) := H104.at hin104 rfl
      have V105 : Arv Z h51 b14 k14 (.object "com/example/millrate/millrate/ledger/ObligationStatus") (4 : Int32) [(.ref w_ACTIVE), (.ref w_CLOSED), (.ref w_CLOSED), (.ref w_CLOSED)] .null := ⟨cl104, Ar104, q104, S104, M104, H104, G104⟩
      obtain ⟨cl106, Ar106, q106, S106, M106, H106, G106⟩ := V53
      have hin106 : ¬ ((2 : Int32) < 0 ∨ cl106.slots.size ≤ ((2 : Int32)).toNatClampNeg) := inb_of S106 ⟨by decide, by decide⟩
      have hat106 : cl106.slots[((2 : Int32)).toNatClampNeg]? = some (.ref w_CLOSED) := H106.at hin106 rfl
      have V107 : Arv Z h51 b1 k1 (.object "com/example/millrate/millrate/ledger/ObligationStatus") (4 : Int32) [(.ref w_ACTIVE), (.ref w_STOPPED), (.ref w_CLOSED), (.ref w_REACTIVATED)] .null := ⟨cl106, Ar106, q106, S106, M106, H106, G106⟩
      obtain ⟨cq109, kq109, q109a, q109b, q109c⟩ := isOf hZ e51 (Exa.keep E_CLOSED K51)
      obtain ⟨_, _, ⟨T108, L108, k108, n108⟩, -, X108, ⟨Lc108, hQ108, l108, y108, z108⟩, st108⟩ := X51.virtualBack hx (y := (⟨"com/example/millrate/millrate/ledger/ObligationStatus", "next", "(Z)Lcom/example/millrate/millrate/ledger/ObligationStatus;"⟩ : MethodName)) (z := (⟨"com/example/millrate/millrate/ledger/ObligationStatus", "next", "(Z)Lcom/example/millrate/millrate/ledger/ObligationStatus;"⟩ : MethodName)) hown (mvT hZ (hw _ (List.mem_of_getElem? (i := 12) rfl))) (mvT hZ (hw _ (List.mem_of_getElem? (i := 13) rfl))) (notFace_of_selects (args := #[]) (mvT hZ (hw _ (List.mem_of_getElem? (i := 15) rfl)))) (mvT hZ (hw _ (List.mem_of_getElem? (i := 15) rfl))) (mvT hZ (hw _ (List.mem_of_getElem? (i := 14) rfl))) (by decide) (backOf (W := 0) (rm2 l Z a0 hw [] w_CLOSED (1 : Int32) w_ACTIVE w_CLOSED w_REACTIVATED w_CLOSED h51 n0 (Sta.wr W51 (Sta.wr W46 (Sta.wr W41 (Sta.wr W36 (Sta.ext E32 (Sta.wr W29 (Sta.wr W25 (Sta.wr W21 (Sta.wr W17 (Sta.ext E14 (Sta.wr W12 (Sta.wr W9 (Sta.wr W6 (Sta.wr W3 (Sta.ext E1 S_ACTIVE))))))))))))))) (Sta.wr W51 (Sta.wr W46 (Sta.wr W41 (Sta.wr W36 (Sta.ext E32 (Sta.wr W29 (Sta.wr W25 (Sta.wr W21 (Sta.wr W17 (Sta.ext E14 (Sta.wr W12 (Sta.wr W9 (Sta.wr W6 (Sta.wr W3 (Sta.ext E1 S_CLOSED))))))))))))))) (Sta.wr W51 (Sta.wr W46 (Sta.wr W41 (Sta.wr W36 (Sta.ext E32 (Sta.wr W29 (Sta.wr W25 (Sta.wr W21 (Sta.wr W17 (Sta.ext E14 (Sta.wr W12 (Sta.wr W9 (Sta.wr W6 (Sta.wr W3 (Sta.ext E1 S_REACTIVATED))))))))))))))) (Exa.keep E_CLOSED K51) (by unfold own_next; rw [if_neg ((Fld.ne O_CLOSED O_ACTIVE (fun q => absurd (Value.int.inj q) (by decide))) : ¬ (w_CLOSED = w_ACTIVE)), if_neg ((by decide) : ¬ ((1 : Int32) = (0 : Int32)))])) hZ (hw _ (List.mem_of_getElem? (i := 16) rfl)) (hw _ (List.mem_of_getElem? (i := 3) rfl)) (by decide) (by decide)) q109a q109c (g := (mkF m 131 #[.val (.int p1), .val (.int p2), .val (.ref b1), .val (.ref b14), .val (.ref b32), .val (.int (2 : Int32)), .val (.int (1 : Int32)), .val (.ref w_CLOSED), .unset] [(.int (1 : Int32)), (.ref w_CLOSED)])) rfl (by rw [hml]; rfl) (Steps.refl _) (argsL := [(.int (1 : Int32))]) (rest := []) (lenOf (show parseMethodDescriptor "(Z)Lcom/example/millrate/millrate/ledger/ObligationStatus;" = some ⟨[.boolean], some (.object "com/example/millrate/millrate/ledger/ObligationStatus")⟩ by decide +kernel) rfl) rfl (by show 2 * 0 + _ ≤ _; exact Nat.le_of_eq rfl) (hb hby at_131) (fun _ _ => ⟨rfl, e51, (by decide : 3 + 0 ≤ _), (by decide : 12 + 0 ≤ _)⟩)
      dsimp only [Pt.U, Pt.locs, Pt.cells, Pt.slots] at X108 l108 y108 z108 st108 hQ108
      subst l108 y108 z108
      obtain ⟨rfl, Nq108, e108⟩ := hQ108
      have N108 := Fr.app N51 Nq108
      obtain ⟨fs, hr110, hrun, hended, hW, hsame⟩ := X108.leave (v := some (.int (1 : Int32))) (fun h => by rw [Bd.returns] at h; cases h)
      refine ⟨_, _, pre103 _ ?_, hrun, hended, _, _, rfl, ?_, ⟨_, rfl⟩, hW, hsame.mono (by decide) (by decide)⟩
      · show Steps p.tables e below (T51.setTop (mkF m 99 #[.val (.int p1), .val (.int p2), .val (.ref b1), .val (.ref b14), .val (.ref b32), .val (.int (2 : Int32)), .unset, .unset, .unset] [])) _
        refine XT.iconstV X51.here hx rfl (1 : Int32) (hb hby at_99) (by decide) ?_
        show Steps p.tables e below (T51.setTop (mkF m 100 #[.val (.int p1), .val (.int p2), .val (.ref b1), .val (.ref b14), .val (.ref b32), .val (.int (2 : Int32)), .unset, .unset, .unset] [(.int (1 : Int32))])) _
        refine XS.goto X51.here hx rfl (pc0 := 100) (pc' := 104) rfl (hb hby at_100) (by decide) (by decide) ?_
        show Steps p.tables e below (T51.setTop (mkF m 104 #[.val (.int p1), .val (.int p2), .val (.ref b1), .val (.ref b14), .val (.ref b32), .val (.int (2 : Int32)), .unset, .unset, .unset] [(.int (1 : Int32))])) _
        refine XS.istore X51.here hx rfl (hb hby at_104) rfl (l' := #[.val (.int p1), .val (.int p2), .val (.ref b1), .val (.ref b14), .val (.ref b32), .val (.int (2 : Int32)), .val (.int (1 : Int32)), .unset, .unset]) rfl ?_
        show Steps p.tables e below (T51.setTop (mkF m 106 #[.val (.int p1), .val (.int p2), .val (.ref b1), .val (.ref b14), .val (.ref b32), .val (.int (2 : Int32)), .val (.int (1 : Int32)), .unset, .unset] [])) _
        refine XS.iload X51.here hx rfl (hb hby at_106) rfl ?_
        show Steps p.tables e below (T51.setTop (mkF m 108 #[.val (.int p1), .val (.int p2), .val (.ref b1), .val (.ref b14), .val (.ref b32), .val (.int (2 : Int32)), .val (.int (1 : Int32)), .unset, .unset] [(.int (1 : Int32))])) _
        refine XS.ifNo X51.here hx rfl (hb hby at_108) rfl ((if0 _ _).trans (feq ((by decide) : ¬ ((1 : Int32) = (0 : Int32)))).1) ?_
        show Steps p.tables e below (T51.setTop (mkF m 111 #[.val (.int p1), .val (.int p2), .val (.ref b1), .val (.ref b14), .val (.ref b32), .val (.int (2 : Int32)), .val (.int (1 : Int32)), .unset, .unset] [])) _
        refine XS.aloadN X51.here hx rfl (hb hby at_111) rfl rfl ?_
        show Steps p.tables e below (T51.setTop (mkF m 112 #[.val (.int p1), .val (.int p2), .val (.ref b1), .val (.ref b14), .val (.ref b32), .val (.int (2 : Int32)), .val (.int (1 : Int32)), .unset, .unset] [(.ref b14)])) _
        refine XS.iload X51.here hx rfl (hb hby at_112) rfl ?_
        show Steps p.tables e below (T51.setTop (mkF m 114 #[.val (.int p1), .val (.int p2), .val (.ref b1), .val (.ref b14), .val (.ref b32), .val (.int (2 : Int32)), .val (.int (1 : Int32)), .unset, .unset] [(.int (2 : Int32)), (.ref b14)])) _
        refine X51.aaload hx (j := (2 : Int32)) (v := (.ref w_CLOSED)) (by rw [e51]; exact Ar104.1) (State.isArrayOf_alike hZ.alike Ar104.2.1) rfl Ar104.2.2 hin104 hat104 (g := (mkF m 114 #[.val (.int p1), .val (.int p2), .val (.ref b1), .val (.ref b14), .val (.ref b32), .val (.int (2 : Int32)), .val (.int (1 : Int32)), .unset, .unset] [(.int (2 : Int32)), (.ref b14)])) rfl rfl (hb hby at_114) _ ?_
        show Steps p.tables e below (T51.setTop (mkF m 115 #[.val (.int p1), .val (.int p2), .val (.ref b1), .val (.ref b14), .val (.ref b32), .val (.int (2 : Int32)), .val (.int (1 : Int32)), .unset, .unset] [(.ref w_CLOSED)])) _
        refine XS.goto X51.here hx rfl (pc0 := 115) (pc' := 123) rfl (hb hby at_115) (by decide) (by decide) ?_
        show Steps p.tables e below (T51.setTop (mkF m 123 #[.val (.int p1), .val (.int p2), .val (.ref b1), .val (.ref b14), .val (.ref b32), .val (.int (2 : Int32)), .val (.int (1 : Int32)), .unset, .unset] [(.ref w_CLOSED)])) _
        refine XS.astore X51.here hx rfl (hb hby at_123) rfl rfl (l' := #[.val (.int p1), .val (.int p2), .val (.ref b1), .val (.ref b14), .val (.ref b32), .val (.int (2 : Int32)), .val (.int (1 : Int32)), .val (.ref w_CLOSED), .unset]) rfl ?_
        show Steps p.tables e below (T51.setTop (mkF m 125 #[.val (.int p1), .val (.int p2), .val (.ref b1), .val (.ref b14), .val (.ref b32), .val (.int (2 : Int32)), .val (.int (1 : Int32)), .val (.ref w_CLOSED), .unset] [])) _
        refine XS.aloadN X51.here hx rfl (hb hby at_125) rfl rfl ?_
        show Steps p.tables e below (T51.setTop (mkF m 126 #[.val (.int p1), .val (.int p2), .val (.ref b1), .val (.ref b14), .val (.ref b32), .val (.int (2 : Int32)), .val (.int (1 : Int32)), .val (.ref w_CLOSED), .unset] [(.ref b1)])) _
        refine XS.iload X51.here hx rfl (hb hby at_126) rfl ?_
        show Steps p.tables e below (T51.setTop (mkF m 128 #[.val (.int p1), .val (.int p2), .val (.ref b1), .val (.ref b14), .val (.ref b32), .val (.int (2 : Int32)), .val (.int (1 : Int32)), .val (.ref w_CLOSED), .unset] [(.int (2 : Int32)), (.ref b1)])) _
        refine X51.aaload hx (j := (2 : Int32)) (v := (.ref w_CLOSED)) (by rw [e51]; exact Ar106.1) (State.isArrayOf_alike hZ.alike Ar106.2.1) rfl Ar106.2.2 hin106 hat106 (g := (mkF m 128 #[.val (.int p1), .val (.int p2), .val (.ref b1), .val (.ref b14), .val (.ref b32), .val (.int (2 : Int32)), .val (.int (1 : Int32)), .val (.ref w_CLOSED), .unset] [(.int (2 : Int32)), (.ref b1)])) rfl rfl (hb hby at_128) _ ?_
        show Steps p.tables e below (T51.setTop (mkF m 129 #[.val (.int p1), .val (.int p2), .val (.ref b1), .val (.ref b14), .val (.ref b32), .val (.int (2 : Int32)), .val (.int (1 : Int32)), .val (.ref w_CLOSED), .unset] [(.ref w_CLOSED)])) _
        refine XS.iload X51.here hx rfl (hb hby at_129) rfl ?_
        show Steps p.tables e below (T51.setTop (mkF m 131 #[.val (.int p1), .val (.int p2), .val (.ref b1), .val (.ref b14), .val (.ref b32), .val (.int (2 : Int32)), .val (.int (1 : Int32)), .val (.ref w_CLOSED), .unset] [(.int (1 : Int32)), (.ref w_CLOSED)])) _
        refine st108.trans ?_
        show Steps p.tables e below (T108.setTop (mkF m 134 #[.val (.int p1), .val (.int p2), .val (.ref b1), .val (.ref b14), .val (.ref b32), .val (.int (2 : Int32)), .val (.int (1 : Int32)), .val (.ref w_CLOSED), .unset] [(.ref w_CLOSED)])) _
        refine XS.astore X108.here hx rfl (hb hby at_134) rfl rfl (l' := #[.val (.int p1), .val (.int p2), .val (.ref b1), .val (.ref b14), .val (.ref b32), .val (.int (2 : Int32)), .val (.int (1 : Int32)), .val (.ref w_CLOSED), .val (.ref w_CLOSED)]) rfl ?_
        show Steps p.tables e below (T108.setTop (mkF m 136 #[.val (.int p1), .val (.int p2), .val (.ref b1), .val (.ref b14), .val (.ref b32), .val (.int (2 : Int32)), .val (.int (1 : Int32)), .val (.ref w_CLOSED), .val (.ref w_CLOSED)] [])) _
        refine XS.aload X108.here hx rfl (hb hby at_136) rfl rfl ?_
        show Steps p.tables e below (T108.setTop (mkF m 138 #[.val (.int p1), .val (.int p2), .val (.ref b1), .val (.ref b14), .val (.ref b32), .val (.int (2 : Int32)), .val (.int (1 : Int32)), .val (.ref w_CLOSED), .val (.ref w_CLOSED)] [(.ref w_CLOSED)])) _
        refine XS.aload X108.here hx rfl (hb hby at_138) rfl rfl ?_
        show Steps p.tables e below (T108.setTop (mkF m 140 #[.val (.int p1), .val (.int p2), .val (.ref b1), .val (.ref b14), .val (.ref b32), .val (.int (2 : Int32)), .val (.int (1 : Int32)), .val (.ref w_CLOSED), .val (.ref w_CLOSED)] [(.ref w_CLOSED), (.ref w_CLOSED)])) _
        refine Jvm.RoadKit.acmp (g := (mkF m 140 #[.val (.int p1), .val (.int p2), .val (.ref b1), .val (.ref b14), .val (.ref b32), .val (.int (2 : Int32)), .val (.int (1 : Int32)), .val (.ref w_CLOSED), .val (.ref w_CLOSED)] [(.ref w_CLOSED), (.ref w_CLOSED)])) X108 hx rfl rfl rfl (pc0 := 140) (pc' := 143) (same := true) rfl (hb hby at_140) rfl (decide_eq_true (congrArg Value.ref (rfl : w_CLOSED = w_CLOSED))) (by decide) (by decide) ?_
        show Steps p.tables e below (T108.setTop (mkF m 143 #[.val (.int p1), .val (.int p2), .val (.ref b1), .val (.ref b14), .val (.ref b32), .val (.int (2 : Int32)), .val (.int (1 : Int32)), .val (.ref w_CLOSED), .val (.ref w_CLOSED)] [])) _
        refine XT.iconstV X108.here hx rfl (1 : Int32) (hb hby at_143) (by decide) ?_
        show Steps p.tables e below (T108.setTop (mkF m 144 #[.val (.int p1), .val (.int p2), .val (.ref b1), .val (.ref b14), .val (.ref b32), .val (.int (2 : Int32)), .val (.int (1 : Int32)), .val (.ref w_CLOSED), .val (.ref w_CLOSED)] [(.int (1 : Int32))])) _
        refine XS.goto X108.here hx rfl (pc0 := 144) (pc' := 148) rfl (hb hby at_144) (by decide) (by decide) ?_
        show Steps p.tables e below (T108.setTop (mkF m 148 #[.val (.int p1), .val (.int p2), .val (.ref b1), .val (.ref b14), .val (.ref b32), .val (.int (2 : Int32)), .val (.int (1 : Int32)), .val (.ref w_CLOSED), .val (.ref w_CLOSED)] [(.int (1 : Int32))])) _
        exact retN X108 hx (t := .boolean) Bd.returns (by simp) (hb hby at_148) hr110
      · show Q0 Z _ _ _ _ _ _ h0 n0 _ T108.heap _
        rw [e108]
        exact ⟨rfl, N108⟩
  ·
    rw [hv56] at pre55
    have pre111 : ∀ t, Steps p.tables e below (T51.setTop (mkF m 96 #[.val (.int p1), .val (.int p2), .val (.ref b1), .val (.ref b14), .val (.ref b32), .val (.int (3 : Int32)), .unset, .unset, .unset] [(.int (p2 &&& (1 : Int32)))])) t → Steps p.tables e below (s₁.setTop (entryFrame m #[(.int p1), (.int p2)] maxLocals)) t := by
      intro t k
      refine pre55 _ ?_
      show Steps p.tables e below (T51.setTop (mkF m 93 #[.val (.int p1), .val (.int p2), .val (.ref b1), .val (.ref b14), .val (.ref b32), .val (.int (3 : Int32)), .unset, .unset, .unset] [])) _
      refine XS.iloadN X51.here hx rfl (hb hby at_93) rfl ?_
      show Steps p.tables e below (T51.setTop (mkF m 94 #[.val (.int p1), .val (.int p2), .val (.ref b1), .val (.ref b14), .val (.ref b32), .val (.int (3 : Int32)), .unset, .unset, .unset] [(.int p2)])) _
      refine XT.iconstV X51.here hx rfl (1 : Int32) (hb hby at_94) (by decide) ?_
      show Steps p.tables e below (T51.setTop (mkF m 95 #[.val (.int p1), .val (.int p2), .val (.ref b1), .val (.ref b14), .val (.ref b32), .val (.int (3 : Int32)), .unset, .unset, .unset] [(.int (1 : Int32)), (.int p2)])) _
      refine XS.iand X51.here hx rfl (hb hby at_95) rfl ?_
      show Steps p.tables e below (T51.setTop (mkF m 96 #[.val (.int p1), .val (.int p2), .val (.ref b1), .val (.ref b14), .val (.ref b32), .val (.int (3 : Int32)), .unset, .unset, .unset] [(.int (p2 &&& (1 : Int32)))])) _
      exact k
    by_cases hc112 : (p2 &&& (1 : Int32)) = (0 : Int32)
    ·
      have pre113 : ∀ t, Steps p.tables e below (T51.setTop (mkF m 103 #[.val (.int p1), .val (.int p2), .val (.ref b1), .val (.ref b14), .val (.ref b32), .val (.int (3 : Int32)), .unset, .unset, .unset] [])) t → Steps p.tables e below (s₁.setTop (entryFrame m #[(.int p1), (.int p2)] maxLocals)) t := by
        intro t k
        refine pre111 _ ?_
        refine XS.ifYes X51.here hx rfl (pc0 := 96) (pc' := 103) rfl (hb hby at_96) rfl ((if0 _ _).trans (teq (hc112 : (p2 &&& (1 : Int32)) = (0 : Int32))).1) (by decide) (by decide) ?_
        exact k
      obtain ⟨cl114, Ar114, q114, S114, M114, H114, G114⟩ := V52
      have hin114 : ¬ ((3 : Int32) < 0 ∨ cl114.slots.size ≤ ((3 : Int32)).toNatClampNeg) := inb_of S114 ⟨by decide, by decide⟩
      have hat114 : cl114.slots[((3 : Int32)).toNatClampNeg]? = some (.ref w_REACTIVATED) := H114.at hin114 rfl
      have V115 : Arv Z h51 b32 k32 (.object "com/example/millrate/millrate/ledger/ObligationStatus") (4 : Int32) [(.ref w_ACTIVE), (.ref w_STOPPED), (.ref w_REACTIVATED), (.ref w_REACTIVATED)] .null := ⟨cl114, Ar114, q114, S114, M114, H114, G114⟩
      obtain ⟨cl116, Ar116, q116, S116, M116, H116, G116⟩ := V53
      have hin116 : ¬ ((3 : Int32) < 0 ∨ cl116.slots.size ≤ ((3 : Int32)).toNatClampNeg) := inb_of S116 ⟨by decide, by decide⟩
      have hat116 : cl116.slots[((3 : Int32)).toNatClampNeg]? = some (.ref w_REACTIVATED) := H116.at hin116 rfl
      have V117 : Arv Z h51 b1 k1 (.object "com/example/millrate/millrate/ledger/ObligationStatus") (4 : Int32) [(.ref w_ACTIVE), (.ref w_STOPPED), (.ref w_CLOSED), (.ref w_REACTIVATED)] .null := ⟨cl116, Ar116, q116, S116, M116, H116, G116⟩
      obtain ⟨cq119, kq119, q119a, q119b, q119c⟩ := isOf hZ e51 (Exa.keep E_REACTIVATED K51)
      obtain ⟨_, _, ⟨T118, L118, k118, n118⟩, -, X118, ⟨Lc118, hQ118, l118, y118, z118⟩, st118⟩ := X51.virtualBack hx (y := (⟨"com/example/millrate/millrate/ledger/ObligationStatus", "next", "(Z)Lcom/example/millrate/millrate/ledger/ObligationStatus;"⟩ : MethodName)) (z := (⟨"com/example/millrate/millrate/ledger/ObligationStatus", "next", "(Z)Lcom/example/millrate/millrate/ledger/ObligationStatus;"⟩ : MethodName)) hown (mvT hZ (hw _ (List.mem_of_getElem? (i := 12) rfl))) (mvT hZ (hw _ (List.mem_of_getElem? (i := 13) rfl))) (notFace_of_selects (args := #[]) (mvT hZ (hw _ (List.mem_of_getElem? (i := 15) rfl)))) (mvT hZ (hw _ (List.mem_of_getElem? (i := 15) rfl))) (mvT hZ (hw _ (List.mem_of_getElem? (i := 14) rfl))) (by decide) (backOf (W := 0) (rm2 l Z a0 hw [] w_REACTIVATED (0 : Int32) w_ACTIVE w_CLOSED w_REACTIVATED w_REACTIVATED h51 n0 (Sta.wr W51 (Sta.wr W46 (Sta.wr W41 (Sta.wr W36 (Sta.ext E32 (Sta.wr W29 (Sta.wr W25 (Sta.wr W21 (Sta.wr W17 (Sta.ext E14 (Sta.wr W12 (Sta.wr W9 (Sta.wr W6 (Sta.wr W3 (Sta.ext E1 S_ACTIVE))))))))))))))) (Sta.wr W51 (Sta.wr W46 (Sta.wr W41 (Sta.wr W36 (Sta.ext E32 (Sta.wr W29 (Sta.wr W25 (Sta.wr W21 (Sta.wr W17 (Sta.ext E14 (Sta.wr W12 (Sta.wr W9 (Sta.wr W6 (Sta.wr W3 (Sta.ext E1 S_CLOSED))))))))))))))) (Sta.wr W51 (Sta.wr W46 (Sta.wr W41 (Sta.wr W36 (Sta.ext E32 (Sta.wr W29 (Sta.wr W25 (Sta.wr W21 (Sta.wr W17 (Sta.ext E14 (Sta.wr W12 (Sta.wr W9 (Sta.wr W6 (Sta.wr W3 (Sta.ext E1 S_REACTIVATED))))))))))))))) (Exa.keep E_REACTIVATED K51) (by unfold own_next; rw [if_neg ((Fld.ne O_REACTIVATED O_ACTIVE (fun q => absurd (Value.int.inj q) (by decide))) : ¬ (w_REACTIVATED = w_ACTIVE)), if_pos (rfl : (0 : Int32) = (0 : Int32)), if_neg ((Fld.ne O_REACTIVATED O_CLOSED (fun q => absurd (Value.int.inj q) (by decide))) : ¬ (w_REACTIVATED = w_CLOSED))])) hZ (hw _ (List.mem_of_getElem? (i := 16) rfl)) (hw _ (List.mem_of_getElem? (i := 3) rfl)) (by decide) (by decide)) q119a q119c (g := (mkF m 131 #[.val (.int p1), .val (.int p2), .val (.ref b1), .val (.ref b14), .val (.ref b32), .val (.int (3 : Int32)), .val (.int (0 : Int32)), .val (.ref w_REACTIVATED), .unset] [(.int (0 : Int32)), (.ref w_REACTIVATED)])) rfl (by rw [hml]; rfl) (Steps.refl _) (argsL := [(.int (0 : Int32))]) (rest := []) (lenOf (show parseMethodDescriptor "(Z)Lcom/example/millrate/millrate/ledger/ObligationStatus;" = some ⟨[.boolean], some (.object "com/example/millrate/millrate/ledger/ObligationStatus")⟩ by decide +kernel) rfl) rfl (by show 2 * 0 + _ ≤ _; exact Nat.le_of_eq rfl) (hb hby at_131) (fun _ _ => ⟨rfl, e51, (by decide : 3 + 0 ≤ _), (by decide : 12 + 0 ≤ _)⟩)
      dsimp only [Pt.U, Pt.locs, Pt.cells, Pt.slots] at X118 l118 y118 z118 st118 hQ118
      subst l118 y118 z118
      obtain ⟨rfl, Nq118, e118⟩ := hQ118
      have N118 := Fr.app N51 Nq118
      obtain ⟨fs, hr120, hrun, hended, hW, hsame⟩ := X118.leave (v := some (.int (1 : Int32))) (fun h => by rw [Bd.returns] at h; cases h)
      refine ⟨_, _, pre113 _ ?_, hrun, hended, _, _, rfl, ?_, ⟨_, rfl⟩, hW, hsame.mono (by decide) (by decide)⟩
      · show Steps p.tables e below (T51.setTop (mkF m 103 #[.val (.int p1), .val (.int p2), .val (.ref b1), .val (.ref b14), .val (.ref b32), .val (.int (3 : Int32)), .unset, .unset, .unset] [])) _
        refine XT.iconstV X51.here hx rfl (0 : Int32) (hb hby at_103) (by decide) ?_
        show Steps p.tables e below (T51.setTop (mkF m 104 #[.val (.int p1), .val (.int p2), .val (.ref b1), .val (.ref b14), .val (.ref b32), .val (.int (3 : Int32)), .unset, .unset, .unset] [(.int (0 : Int32))])) _
        refine XS.istore X51.here hx rfl (hb hby at_104) rfl (l' := #[.val (.int p1), .val (.int p2), .val (.ref b1), .val (.ref b14), .val (.ref b32), .val (.int (3 : Int32)), .val (.int (0 : Int32)), .unset, .unset]) rfl ?_
        show Steps p.tables e below (T51.setTop (mkF m 106 #[.val (.int p1), .val (.int p2), .val (.ref b1), .val (.ref b14), .val (.ref b32), .val (.int (3 : Int32)), .val (.int (0 : Int32)), .unset, .unset] [])) _
        refine XS.iload X51.here hx rfl (hb hby at_106) rfl ?_
        show Steps p.tables e below (T51.setTop (mkF m 108 #[.val (.int p1), .val (.int p2), .val (.ref b1), .val (.ref b14), .val (.ref b32), .val (.int (3 : Int32)), .val (.int (0 : Int32)), .unset, .unset] [(.int (0 : Int32))])) _
        refine XS.ifYes X51.here hx rfl (pc0 := 108) (pc' := 118) rfl (hb hby at_108) rfl ((if0 _ _).trans (teq (rfl : (0 : Int32) = (0 : Int32))).1) (by decide) (by decide) ?_
        show Steps p.tables e below (T51.setTop (mkF m 118 #[.val (.int p1), .val (.int p2), .val (.ref b1), .val (.ref b14), .val (.ref b32), .val (.int (3 : Int32)), .val (.int (0 : Int32)), .unset, .unset] [])) _
        refine XS.aload X51.here hx rfl (hb hby at_118) rfl rfl ?_
        show Steps p.tables e below (T51.setTop (mkF m 120 #[.val (.int p1), .val (.int p2), .val (.ref b1), .val (.ref b14), .val (.ref b32), .val (.int (3 : Int32)), .val (.int (0 : Int32)), .unset, .unset] [(.ref b32)])) _
        refine XS.iload X51.here hx rfl (hb hby at_120) rfl ?_
        show Steps p.tables e below (T51.setTop (mkF m 122 #[.val (.int p1), .val (.int p2), .val (.ref b1), .val (.ref b14), .val (.ref b32), .val (.int (3 : Int32)), .val (.int (0 : Int32)), .unset, .unset] [(.int (3 : Int32)), (.ref b32)])) _
        refine X51.aaload hx (j := (3 : Int32)) (v := (.ref w_REACTIVATED)) (by rw [e51]; exact Ar114.1) (State.isArrayOf_alike hZ.alike Ar114.2.1) rfl Ar114.2.2 hin114 hat114 (g := (mkF m 122 #[.val (.int p1), .val (.int p2), .val (.ref b1), .val (.ref b14), .val (.ref b32), .val (.int (3 : Int32)), .val (.int (0 : Int32)), .unset, .unset] [(.int (3 : Int32)), (.ref b32)])) rfl rfl (hb hby at_122) _ ?_
        show Steps p.tables e below (T51.setTop (mkF m 123 #[.val (.int p1), .val (.int p2), .val (.ref b1), .val (.ref b14), .val (.ref b32), .val (.int (3 : Int32)), .val (.int (0 : Int32)), .unset, .unset] [(.ref w_REACTIVATED)])) _
        refine XS.astore X51.here hx rfl (hb hby at_123) rfl rfl (l' := #[.val (.int p1), .val (.int p2), .val (.ref b1), .val (.ref b14), .val (.ref b32), .val (.int (3 : Int32)), .val (.int (0 : Int32)), .val (.ref w_REACTIVATED), .unset]) rfl ?_
        show Steps p.tables e below (T51.setTop (mkF m 125 #[.val (.int p1), .val (.int p2), .val (.ref b1), .val (.ref b14), .val (.ref b32), .val (.int (3 : Int32)), .val (.int (0 : Int32)), .val (.ref w_REACTIVATED), .unset] [])) _
        refine XS.aloadN X51.here hx rfl (hb hby at_125) rfl rfl ?_
        show Steps p.tables e below (T51.setTop (mkF m 126 #[.val (.int p1), .val (.int p2), .val (.ref b1), .val (.ref b14), .val (.ref b32), .val (.int (3 : Int32)), .val (.int (0 : Int32)), .val (.ref w_REACTIVATED), .unset] [(.ref b1)])) _
        refine XS.iload X51.here hx rfl (hb hby at_126) rfl ?_
        show Steps p.tables e below (T51.setTop (mkF m 128 #[.val (.int p1), .val (.int p2), .val (.ref b1), .val (.ref b14), .val (.ref b32), .val (.int (3 : Int32)), .val (.int (0 : Int32)), .val (.ref w_REACTIVATED), .unset] [(.int (3 : Int32)), (.ref b1)])) _
        refine X51.aaload hx (j := (3 : Int32)) (v := (.ref w_REACTIVATED)) (by rw [e51]; exact Ar116.1) (State.isArrayOf_alike hZ.alike Ar116.2.1) rfl Ar116.2.2 hin116 hat116 (g := (mkF m 128 #[.val (.int p1), .val (.int p2), .val (.ref b1), .val (.ref b14), .val (.ref b32), .val (.int (3 : Int32)), .val (.int (0 : Int32)), .val (.ref w_REACTIVATED), .unset] [(.int (3 : Int32)), (.ref b1)])) rfl rfl (hb hby at_128) _ ?_
        show Steps p.tables e below (T51.setTop (mkF m 129 #[.val (.int p1), .val (.int p2), .val (.ref b1), .val (.ref b14), .val (.ref b32), .val (.int (3 : Int32)), .val (.int (0 : Int32)), .val (.ref w_REACTIVATED), .unset] [(.ref w_REACTIVATED)])) _
        refine XS.iload X51.here hx rfl (hb hby at_129) rfl ?_
        show Steps p.tables e below (T51.setTop (mkF m 131 #[.val (.int p1), .val (.int p2), .val (.ref b1), .val (.ref b14), .val (.ref b32), .val (.int (3 : Int32)), .val (.int (0 : Int32)), .val (.ref w_REACTIVATED), .unset] [(.int (0 : Int32)), (.ref w_REACTIVATED)])) _
        refine st118.trans ?_
        show Steps p.tables e below (T118.setTop (mkF m 134 #[.val (.int p1), .val (.int p2), .val (.ref b1), .val (.ref b14), .val (.ref b32), .val (.int (3 : Int32)), .val (.int (0 : Int32)), .val (.ref w_REACTIVATED), .unset] [(.ref w_REACTIVATED)])) _
        refine XS.astore X118.here hx rfl (hb hby at_134) rfl rfl (l' := #[.val (.int p1), .val (.int p2), .val (.ref b1), .val (.ref b14), .val (.ref b32), .val (.int (3 : Int32)), .val (.int (0 : Int32)), .val (.ref w_REACTIVATED), .val (.ref w_REACTIVATED)]) rfl ?_
        show Steps p.tables e below (T118.setTop (mkF m 136 #[.val (.int p1), .val (.int p2), .val (.ref b1), .val (.ref b14), .val (.ref b32), .val (.int (3 : Int32)), .val (.int (0 : Int32)), .val (.ref w_REACTIVATED), .val (.ref w_REACTIVATED)] [])) _
        refine XS.aload X118.here hx rfl (hb hby at_136) rfl rfl ?_
        show Steps p.tables e below (T118.setTop (mkF m 138 #[.val (.int p1), .val (.int p2), .val (.ref b1), .val (.ref b14), .val (.ref b32), .val (.int (3 : Int32)), .val (.int (0 : Int32)), .val (.ref w_REACTIVATED), .val (.ref w_REACTIVATED)] [(.ref w_REACTIVATED)])) _
        refine XS.aload X118.here hx rfl (hb hby at_138) rfl rfl ?_
        show Steps p.tables e below (T118.setTop (mkF m 140 #[.val (.int p1), .val (.int p2), .val (.ref b1), .val (.ref b14), .val (.ref b32), .val (.int (3 : Int32)), .val (.int (0 : Int32)), .val (.ref w_REACTIVATED), .val (.ref w_REACTIVATED)] [(.ref w_REACTIVATED), (.ref w_REACTIVATED)])) _
        refine Jvm.RoadKit.acmp (g := (mkF m 140 #[.val (.int p1), .val (.int p2), .val (.ref b1), .val (.ref b14), .val (.ref b32), .val (.int (3 : Int32)), .val (.int (0 : Int32)), .val (.ref w_REACTIVATED), .val (.ref w_REACTIVATED)] [(.ref w_REACTIVATED), (.ref w_REACTIVATED)])) X118 hx rfl rfl rfl (pc0 := 140) (pc' := 143) (same := true) rfl (hb hby at_140) rfl (decide_eq_true (congrArg Value.ref (rfl : w_REACTIVATED = w_REACTIVATED))) (by decide) (by decide) ?_
        show Steps p.tables e below (T118.setTop (mkF m 143 #[.val (.int p1), .val (.int p2), .val (.ref b1), .val (.ref b14), .val (.ref b32), .val (.int (3 : Int32)), .val (.int (0 : Int32)), .val (.ref w_REACTIVATED), .val (.ref w_REACTIVATED)] [])) _
        refine XT.iconstV X118.here hx rfl (1 : Int32) (hb hby at_143) (by decide) ?_
        show Steps p.tables e below (T118.setTop (mkF m 144 #[.val (.int p1), .val (.int p2), .val (.ref b1), .val (.ref b14), .val (.ref b32), .val (.int (3 : Int32)), .val (.int (0 : Int32)), .val (.ref w_REACTIVATED), .val (.ref w_REACTIVATED)] [(.int (1 : Int32))])) _
        refine XS.goto X118.here hx rfl (pc0 := 144) (pc' := 148) rfl (hb hby at_144) (by decide) (by decide) ?_
        show Steps p.tables e below (T118.setTop (mkF m 148 #[.val (.int p1), .val (.int p2), .val (.ref b1), .val (.ref b14), .val (.ref b32), .val (.int (3 : Int32)), .val (.int (0 : Int32)), .val (.ref w_REACTIVATED), .val (.ref w_REACTIVATED)] [(.int (1 : Int32))])) _
        exact retN X118 hx (t := .boolean) Bd.returns (by simp) (hb hby at_148) hr120
      · show Q0 Z _ _ _ _ _ _ h0 n0 _ T118.heap _
        rw [e118]
        exact ⟨rfl, N118⟩
    ·
      have pre121 : ∀ t, Steps p.tables e below (T51.setTop (mkF m 99 #[.val (.int p1), .val (.int p2), .val (.ref b1), .val (.ref b14), .val (.ref b32), .val (.int (3 : Int32)), .unset, .unset, .unset] [])) t → Steps p.tables e below (s₁.setTop (entryFrame m #[(.int p1), (.int p2)] maxLocals)) t := by
        intro t k
        refine pre111 _ ?_
        refine XS.ifNo X51.here hx rfl (hb hby at_96) rfl ((if0 _ _).trans (feq (hc112 : ¬ ((p2 &&& (1 : Int32)) = (0 : Int32)))).1) ?_
        exact k
      obtain ⟨cl122, Ar122, q122, S122, M122, H122, G122⟩ := V54
      have hin122 : ¬ ((3 : Int32) < 0 ∨ cl122.slots.size ≤ ((3 : Int32)).toNatClampNeg) := inb_of S122 ⟨by decide, by decide⟩
      have hat122 : cl122.slots[((3 : Int32)).toNatClampNeg]? = some (.ref w_CLOSED) := H122.at hin122 rfl
      have V123 : Arv Z h51 b14 k14 (.object "com/example/millrate/millrate/ledger/ObligationStatus") (4 : Int32) [(.ref w_ACTIVE), (.ref w_CLOSED), (.ref w_CLOSED), (.ref w_CLOSED)] .null := ⟨cl122, Ar122, q122, S122, M122, H122, G122⟩
      obtain ⟨cl124, Ar124, q124, S124, M124, H124, G124⟩ := V53
      have hin124 : ¬ ((3 : Int32) < 0 ∨ cl124.slots.size ≤ ((3 : Int32)).toNatClampNeg) := inb_of S124 ⟨by decide, by decide⟩
      have hat124 : cl124.slots[((3 : Int32)).toNatClampNeg]? = some (.ref w_REACTIVATED) := H124.at hin124 rfl
      have V125 : Arv Z h51 b1 k1 (.object "com/example/millrate/millrate/ledger/ObligationStatus") (4 : Int32) [(.ref w_ACTIVE), (.ref w_STOPPED), (.ref w_CLOSED), (.ref w_REACTIVATED)] .null := ⟨cl124, Ar124, q124, S124, M124, H124, G124⟩
      obtain ⟨cq127, kq127, q127a, q127b, q127c⟩ := isOf hZ e51 (Exa.keep E_REACTIVATED K51)
      obtain ⟨_, _, ⟨T126, L126, k126, n126⟩, -, X126, ⟨Lc126, hQ126, l126, y126, z126⟩, st126⟩ := X51.virtualBack hx (y := (⟨"com/example/millrate/millrate/ledger/ObligationStatus", "next", "(Z)Lcom/example/millrate/millrate/ledger/ObligationStatus;"⟩ : MethodName)) (z := (⟨"com/example/millrate/millrate/ledger/ObligationStatus", "next", "(Z)Lcom/example/millrate/millrate/ledger/ObligationStatus;"⟩ : MethodName)) hown (mvT hZ (hw _ (List.mem_of_getElem? (i := 12) rfl))) (mvT hZ (hw _ (List.mem_of_getElem? (i := 13) rfl))) (notFace_of_selects (args := #[]) (mvT hZ (hw _ (List.mem_of_getElem? (i := 15) rfl)))) (mvT hZ (hw _ (List.mem_of_getElem? (i := 15) rfl))) (mvT hZ (hw _ (List.mem_of_getElem? (i := 14) rfl))) (by decide) (backOf (W := 0) (rm2 l Z a0 hw [] w_REACTIVATED (1 : Int32) w_ACTIVE w_CLOSED w_REACTIVATED w_CLOSED h51 n0 (Sta.wr W51 (Sta.wr W46 (Sta.wr W41 (Sta.wr W36 (Sta.ext E32 (Sta.wr W29 (Sta.wr W25 (Sta.wr W21 (Sta.wr W17 (Sta.ext E14 (Sta.wr W12 (Sta.wr W9 (Sta.wr W6 (Sta.wr W3 (Sta.ext E1 S_ACTIVE))))))))))))))) (Sta.wr W51 (Sta.wr W46 (Sta.wr W41 (Sta.wr W36 (Sta.ext E32 (Sta.wr W29 (Sta.wr W25 (Sta.wr W21 (Sta.wr W17 (Sta.ext E14 (Sta.wr W12 (Sta.wr W9 (Sta.wr W6 (Sta.wr W3 (Sta.ext E1 S_CLOSED))))))))))))))) (Sta.wr W51 (Sta.wr W46 (Sta.wr W41 (Sta.wr W36 (Sta.ext E32 (Sta.wr W29 (Sta.wr W25 (Sta.wr W21 (Sta.wr W17 (Sta.ext E14 (Sta.wr W12 (Sta.wr W9 (Sta.wr W6 (Sta.wr W3 (Sta.ext E1 S_REACTIVATED))))))))))))))) (Exa.keep E_REACTIVATED K51) (by unfold own_next; rw [if_neg ((Fld.ne O_REACTIVATED O_ACTIVE (fun q => absurd (Value.int.inj q) (by decide))) : ¬ (w_REACTIVATED = w_ACTIVE)), if_neg ((by decide) : ¬ ((1 : Int32) = (0 : Int32)))])) hZ (hw _ (List.mem_of_getElem? (i := 16) rfl)) (hw _ (List.mem_of_getElem? (i := 3) rfl)) (by decide) (by decide)) q127a q127c (g := (mkF m 131 #[.val (.int p1), .val (.int p2), .val (.ref b1), .val (.ref b14), .val (.ref b32), .val (.int (3 : Int32)), .val (.int (1 : Int32)), .val (.ref w_CLOSED), .unset] [(.int (1 : Int32)), (.ref w_REACTIVATED)])) rfl (by rw [hml]; rfl) (Steps.refl _) (argsL := [(.int (1 : Int32))]) (rest := []) (lenOf (show parseMethodDescriptor "(Z)Lcom/example/millrate/millrate/ledger/ObligationStatus;" = some ⟨[.boolean], some (.object "com/example/millrate/millrate/ledger/ObligationStatus")⟩ by decide +kernel) rfl) rfl (by show 2 * 0 + _ ≤ _; exact Nat.le_of_eq rfl) (hb hby at_131) (fun _ _ => ⟨rfl, e51, (by decide : 3 + 0 ≤ _), (by decide : 12 + 0 ≤ _)⟩)
      dsimp only [Pt.U, Pt.locs, Pt.cells, Pt.slots] at X126 l126 y126 z126 st126 hQ126
      subst l126 y126 z126
      obtain ⟨rfl, Nq126, e126⟩ := hQ126
      have N126 := Fr.app N51 Nq126
      obtain ⟨fs, hr128, hrun, hended, hW, hsame⟩ := X126.leave (v := some (.int (1 : Int32))) (fun h => by rw [Bd.returns] at h; cases h)
      refine ⟨_, _, pre121 _ ?_, hrun, hended, _, _, rfl, ?_, ⟨_, rfl⟩, hW, hsame.mono (by decide) (by decide)⟩
      · show Steps p.tables e below (T51.setTop (mkF m 99 #[.val (.int p1), .val (.int p2), .val (.ref b1), .val (.ref b14), .val (.ref b32), .val (.int (3 : Int32)), .unset, .unset, .unset] [])) _
        refine XT.iconstV X51.here hx rfl (1 : Int32) (hb hby at_99) (by decide) ?_
        show Steps p.tables e below (T51.setTop (mkF m 100 #[.val (.int p1), .val (.int p2), .val (.ref b1), .val (.ref b14), .val (.ref b32), .val (.int (3 : Int32)), .unset, .unset, .unset] [(.int (1 : Int32))])) _
        refine XS.goto X51.here hx rfl (pc0 := 100) (pc' := 104) rfl (hb hby at_100) (by decide) (by decide) ?_
        show Steps p.tables e below (T51.setTop (mkF m 104 #[.val (.int p1), .val (.int p2), .val (.ref b1), .val (.ref b14), .val (.ref b32), .val (.int (3 : Int32)), .unset, .unset, .unset] [(.int (1 : Int32))])) _
        refine XS.istore X51.here hx rfl (hb hby at_104) rfl (l' := #[.val (.int p1), .val (.int p2), .val (.ref b1), .val (.ref b14), .val (.ref b32), .val (.int (3 : Int32)), .val (.int (1 : Int32)), .unset, .unset]) rfl ?_
        show Steps p.tables e below (T51.setTop (mkF m 106 #[.val (.int p1), .val (.int p2), .val (.ref b1), .val (.ref b14), .val (.ref b32), .val (.int (3 : Int32)), .val (.int (1 : Int32)), .unset, .unset] [])) _
        refine XS.iload X51.here hx rfl (hb hby at_106) rfl ?_
        show Steps p.tables e below (T51.setTop (mkF m 108 #[.val (.int p1), .val (.int p2), .val (.ref b1), .val (.ref b14), .val (.ref b32), .val (.int (3 : Int32)), .val (.int (1 : Int32)), .unset, .unset] [(.int (1 : Int32))])) _
        refine XS.ifNo X51.here hx rfl (hb hby at_108) rfl ((if0 _ _).trans (feq ((by decide) : ¬ ((1 : Int32) = (0 : Int32)))).1) ?_
        show Steps p.tables e below (T51.setTop (mkF m 111 #[.val (.int p1), .val (.int p2), .val (.ref b1), .val (.ref b14), .val (.ref b32), .val (.int (3 : Int32)), .val (.int (1 : Int32)), .unset, .unset] [])) _
        refine XS.aloadN X51.here hx rfl (hb hby at_111) rfl rfl ?_
        show Steps p.tables e below (T51.setTop (mkF m 112 #[.val (.int p1), .val (.int p2), .val (.ref b1), .val (.ref b14), .val (.ref b32), .val (.int (3 : Int32)), .val (.int (1 : Int32)), .unset, .unset] [(.ref b14)])) _
        refine XS.iload X51.here hx rfl (hb hby at_112) rfl ?_
        show Steps p.tables e below (T51.setTop (mkF m 114 #[.val (.int p1), .val (.int p2), .val (.ref b1), .val (.ref b14), .val (.ref b32), .val (.int (3 : Int32)), .val (.int (1 : Int32)), .unset, .unset] [(.int (3 : Int32)), (.ref b14)])) _
        refine X51.aaload hx (j := (3 : Int32)) (v := (.ref w_CLOSED)) (by rw [e51]; exact Ar122.1) (State.isArrayOf_alike hZ.alike Ar122.2.1) rfl Ar122.2.2 hin122 hat122 (g := (mkF m 114 #[.val (.int p1), .val (.int p2), .val (.ref b1), .val (.ref b14), .val (.ref b32), .val (.int (3 : Int32)), .val (.int (1 : Int32)), .unset, .unset] [(.int (3 : Int32)), (.ref b14)])) rfl rfl (hb hby at_114) _ ?_
        show Steps p.tables e below (T51.setTop (mkF m 115 #[.val (.int p1), .val (.int p2), .val (.ref b1), .val (.ref b14), .val (.ref b32), .val (.int (3 : Int32)), .val (.int (1 : Int32)), .unset, .unset] [(.ref w_CLOSED)])) _
        refine XS.goto X51.here hx rfl (pc0 := 115) (pc' := 123) rfl (hb hby at_115) (by decide) (by decide) ?_
        show Steps p.tables e below (T51.setTop (mkF m 123 #[.val (.int p1), .val (.int p2), .val (.ref b1), .val (.ref b14), .val (.ref b32), .val (.int (3 : Int32)), .val (.int (1 : Int32)), .unset, .unset] [(.ref w_CLOSED)])) _
        refine XS.astore X51.here hx rfl (hb hby at_123) rfl rfl (l' := #[.val (.int p1), .val (.int p2), .val (.ref b1), .val (.ref b14), .val (.ref b32), .val (.int (3 : Int32)), .val (.int (1 : Int32)), .val (.ref w_CLOSED), .unset]) rfl ?_
        show Steps p.tables e below (T51.setTop (mkF m 125 #[.val (.int p1), .val (.int p2), .val (.ref b1), .val (.ref b14), .val (.ref b32), .val (.int (3 : Int32)), .val (.int (1 : Int32)), .val (.ref w_CLOSED), .unset] [])) _
        refine XS.aloadN X51.here hx rfl (hb hby at_125) rfl rfl ?_
        show Steps p.tables e below (T51.setTop (mkF m 126 #[.val (.int p1), .val (.int p2), .val (.ref b1), .val (.ref b14), .val (.ref b32), .val (.int (3 : Int32)), .val (.int (1 : Int32)), .val (.ref w_CLOSED), .unset] [(.ref b1)])) _
        refine XS.iload X51.here hx rfl (hb hby at_126) rfl ?_
        show Steps p.tables e below (T51.setTop (mkF m 128 #[.val (.int p1), .val (.int p2), .val (.ref b1), .val (.ref b14), .val (.ref b32), .val (.int (3 : Int32)), .val (.int (1 : Int32)), .val (.ref w_CLOSED), .unset] [(.int (3 : Int32)), (.ref b1)])) _
        refine X51.aaload hx (j := (3 : Int32)) (v := (.ref w_REACTIVATED)) (by rw [e51]; exact Ar124.1) (State.isArrayOf_alike hZ.alike Ar124.2.1) rfl Ar124.2.2 hin124 hat124 (g := (mkF m 128 #[.val (.int p1), .val (.int p2), .val (.ref b1), .val (.ref b14), .val (.ref b32), .val (.int (3 : Int32)), .val (.int (1 : Int32)), .val (.ref w_CLOSED), .unset] [(.int (3 : Int32)), (.ref b1)])) rfl rfl (hb hby at_128) _ ?_
        show Steps p.tables e below (T51.setTop (mkF m 129 #[.val (.int p1), .val (.int p2), .val (.ref b1), .val (.ref b14), .val (.ref b32), .val (.int (3 : Int32)), .val (.int (1 : Int32)), .val (.ref w_CLOSED), .unset] [(.ref w_REACTIVATED)])) _
        refine XS.iload X51.here hx rfl (hb hby at_129) rfl ?_
        show Steps p.tables e below (T51.setTop (mkF m 131 #[.val (.int p1), .val (.int p2), .val (.ref b1), .val (.ref b14), .val (.ref b32), .val (.int (3 : Int32)), .val (.int (1 : Int32)), .val (.ref w_CLOSED), .unset] [(.int (1 : Int32)), (.ref w_REACTIVATED)])) _
        refine st126.trans ?_
        show Steps p.tables e below (T126.setTop (mkF m 134 #[.val (.int p1), .val (.int p2), .val (.ref b1), .val (.ref b14), .val (.ref b32), .val (.int (3 : Int32)), .val (.int (1 : Int32)), .val (.ref w_CLOSED), .unset] [(.ref w_CLOSED)])) _
        refine XS.astore X126.here hx rfl (hb hby at_134) rfl rfl (l' := #[.val (.int p1), .val (.int p2), .val (.ref b1), .val (.ref b14), .val (.ref b32), .val (.int (3 : Int32)), .val (.int (1 : Int32)), .val (.ref w_CLOSED), .val (.ref w_CLOSED)]) rfl ?_
        show Steps p.tables e below (T126.setTop (mkF m 136 #[.val (.int p1), .val (.int p2), .val (.ref b1), .val (.ref b14), .val (.ref b32), .val (.int (3 : Int32)), .val (.int (1 : Int32)), .val (.ref w_CLOSED), .val (.ref w_CLOSED)] [])) _
        refine XS.aload X126.here hx rfl (hb hby at_136) rfl rfl ?_
        show Steps p.tables e below (T126.setTop (mkF m 138 #[.val (.int p1), .val (.int p2), .val (.ref b1), .val (.ref b14), .val (.ref b32), .val (.int (3 : Int32)), .val (.int (1 : Int32)), .val (.ref w_CLOSED), .val (.ref w_CLOSED)] [(.ref w_CLOSED)])) _
        refine XS.aload X126.here hx rfl (hb hby at_138) rfl rfl ?_
        show Steps p.tables e below (T126.setTop (mkF m 140 #[.val (.int p1), .val (.int p2), .val (.ref b1), .val (.ref b14), .val (.ref b32), .val (.int (3 : Int32)), .val (.int (1 : Int32)), .val (.ref w_CLOSED), .val (.ref w_CLOSED)] [(.ref w_CLOSED), (.ref w_CLOSED)])) _
        refine Jvm.RoadKit.acmp (g := (mkF m 140 #[.val (.int p1), .val (.int p2), .val (.ref b1), .val (.ref b14), .val (.ref b32), .val (.int (3 : Int32)), .val (.int (1 : Int32)), .val (.ref w_CLOSED), .val (.ref w_CLOSED)] [(.ref w_CLOSED), (.ref w_CLOSED)])) X126 hx rfl rfl rfl (pc0 := 140) (pc' := 143) (same := true) rfl (hb hby at_140) rfl (decide_eq_true (congrArg Value.ref (rfl : w_CLOSED = w_CLOSED))) (by decide) (by decide) ?_
        show Steps p.tables e below (T126.setTop (mkF m 143 #[.val (.int p1), .val (.int p2), .val (.ref b1), .val (.ref b14), .val (.ref b32), .val (.int (3 : Int32)), .val (.int (1 : Int32)), .val (.ref w_CLOSED), .val (.ref w_CLOSED)] [])) _
        refine XT.iconstV X126.here hx rfl (1 : Int32) (hb hby at_143) (by decide) ?_
        show Steps p.tables e below (T126.setTop (mkF m 144 #[.val (.int p1), .val (.int p2), .val (.ref b1), .val (.ref b14), .val (.ref b32), .val (.int (3 : Int32)), .val (.int (1 : Int32)), .val (.ref w_CLOSED), .val (.ref w_CLOSED)] [(.int (1 : Int32))])) _
        refine XS.goto X126.here hx rfl (pc0 := 144) (pc' := 148) rfl (hb hby at_144) (by decide) (by decide) ?_
        show Steps p.tables e below (T126.setTop (mkF m 148 #[.val (.int p1), .val (.int p2), .val (.ref b1), .val (.ref b14), .val (.ref b32), .val (.int (3 : Int32)), .val (.int (1 : Int32)), .val (.ref w_CLOSED), .val (.ref w_CLOSED)] [(.int (1 : Int32))])) _
        exact retN X126 hx (t := .boolean) Bd.returns (by simp) (hb hby at_148) hr128
      · show Q0 Z _ _ _ _ _ _ h0 n0 _ T126.heap _
        rw [e126]
        exact ⟨rfl, N126⟩
set_option maxRecDepth 65536 in
set_option maxHeartbeats 40000000 in
theorem comes_1 {Post : Tables → Env → Array Value → State → Outcome → State → Prop} (hpost : ∀ tb e args s v u, (limb_1_1.after args s (.returned v) u = true ∧ limb_1_2.after args s (.returned v) u = true ∧ True) → FrameEnd s (.returned v) u (Jvm.fieldLocs frame_1_writes args s ++ Jvm.arrayLocs frame_1_arrays args s ++ Jvm.staticLocs frame_1_statics s) 16 128 → Post tb e args s (.returned v) u) :
    ArmFor flags0 classFile x code maxLocals ret World_1 tables_1 room_1 Calls_1 rest_1 Pre_1 Post := by
  intro l hfl _ _ p e ha hc hk s m args below hf hA hF happ hP
  obtain ⟨hcalls, hrest, hpre⟩ := hP
  obtain ⟨-, -, -, hnamed, -, -, -, hat⟩ := (Spec.applies_iff hf).mp happ
  obtain ⟨hg, hn⟩ := and_e (Cond.before_iff.mp (show (Jvm.Cond.and given_1 narrow_1).before args s = true from hpre))
  obtain ⟨gc, t0⟩ := and_e hg
  obtain ⟨g0, t1⟩ := and_e t0
  have g1 := t1
  obtain ⟨w0, w1, rfl⟩ : ∃ w0 w1 : Value, args = #[w0, w1] := by
    have hs : args.size = 2 := by simpa [Cond.value, given_1] using gc
    obtain ⟨L⟩ := args
    match L, hs with
    | [w0, w1], _ => exact ⟨w0, w1, rfl⟩
  have hw := fun d (hd : d ∈ tables_1) => atoms_spec (ws := Jvm.Cond.code x code maxLocals ret :: tables_1) hat d (List.mem_cons_of_mem _ hd)
  have hfit : Fit s := fun {y c} hc i hi => by
    obtain ⟨ha, rfl⟩ := Array.getElem?_eq_some_iff.mp hc
    have q := List.all_eq_true.mp ((Array.all_eq_true_iff_forall_mem.mp hF) _ (Array.getElem_mem ha)) i (List.mem_range.mpr hi)
    simpa [Array.getElem?_eq_getElem hi] using q
  obtain ⟨i0, ei0⟩ := is_v g0
  obtain rfl : w0 = (.int i0) := Option.some.inj ei0
  obtain ⟨i1, ei1⟩ := is_v g1
  obtain rfl : w1 = (.int i1) := Option.some.inj ei1
  obtain ⟨c0, r0⟩ := and_e hn
  obtain ⟨c1, r1⟩ := and_e r0
  obtain ⟨c2, r2⟩ := and_e r1
  obtain ⟨c3, r3⟩ := and_e r2
  obtain ⟨c4, r4⟩ := and_e r3
  obtain ⟨c5, r5⟩ := and_e r4
  obtain ⟨c6, r6⟩ := and_e r5
  obtain ⟨w_ACTIVE, ev_ACTIVE⟩ := exa_v c0
  have E_ACTIVE := Exa.start ev_ACTIVE c0
  have S_ACTIVE := Sta.start ev_ACTIVE (Or.inr ⟨(hw _ (List.mem_of_getElem? (i := 3) rfl)), (hw _ (List.mem_of_getElem? (i := 4) rfl))⟩)
  obtain ⟨w_STOPPED, ev_STOPPED⟩ := exa_v c1
  have E_STOPPED := Exa.start ev_STOPPED c1
  have S_STOPPED := Sta.start ev_STOPPED (Or.inr ⟨(hw _ (List.mem_of_getElem? (i := 3) rfl)), (hw _ (List.mem_of_getElem? (i := 7) rfl))⟩)
  obtain ⟨w_CLOSED, ev_CLOSED⟩ := exa_v c2
  have E_CLOSED := Exa.start ev_CLOSED c2
  have S_CLOSED := Sta.start ev_CLOSED (Or.inr ⟨(hw _ (List.mem_of_getElem? (i := 3) rfl)), (hw _ (List.mem_of_getElem? (i := 9) rfl))⟩)
  obtain ⟨w_REACTIVATED, ev_REACTIVATED⟩ := exa_v c3
  have E_REACTIVATED := Exa.start ev_REACTIVATED c3
  have S_REACTIVATED := Sta.start ev_REACTIVATED (Or.inr ⟨(hw _ (List.mem_of_getElem? (i := 3) rfl)), (hw _ (List.mem_of_getElem? (i := 11) rfl))⟩)
  have O_CLOSED := own_ordinal ev_CLOSED c4
  have O_ACTIVE := own_ordinal ev_ACTIVE c5
  have O_STOPPED := own_ordinal ev_STOPPED c6
  have O_REACTIVATED := own_ordinal ev_REACTIVATED r6
  obtain ⟨n, o, h1, h2, h3, _, L, rfl, ⟨rfl, N⟩, hq⟩ := rm0 l s _ hw tables_1 i0 i1 w_ACTIVE w_STOPPED w_CLOSED w_REACTIVATED s.heap s.heap.size (Nat.le_refl _) S_ACTIVE S_STOPPED S_CLOSED S_REACTIVATED E_ACTIVE E_STOPPED E_CLOSED E_REACTIVATED O_ACTIVE O_STOPPED O_CLOSED O_REACTIVATED p e ha hc hk s m _ below hf ((Spec.applies_iff_loose hf).mp happ).1 ⟨rfl, State.Warmed39.refl s, rfl⟩ trivial
  refine ⟨n, _, h1, h2, h3, hpost _ _ _ _ _ _ ⟨Cond.after_iff.mpr rfl, Cond.after_iff.mpr (eq_i res_at (Term.int_eval (1)) rfl), trivial⟩ ⟨hq.1, hq.2.1, (hq.2.2.sift fun y hy => Or.inr (N y hy)).mono (by decide) (by decide)⟩⟩
theorem main_1_1 : Claimed_1_1 := comes_1 fun _ _ _ _ _ _ h hF => ⟨h.1, hF⟩
theorem main_1_2 : Claimed_1_2 := comes_1 fun _ _ _ _ _ _ h hF => ⟨h.2.1, hF⟩
end Jvm.Pilot.@@N@@
namespace Jvm.Pilot.@@N@@
open Jvm Jvm.ClassFile Sem Op Lib Jvm.Free Jvm.Stand Jvm.Pilot.@@N@@.Jvm.D
/-! MADE BY PROGRAM (witnessworld.py) out of the Statement's table words and the real class files: 13 classes; the members and pool entries that the words name. The judged class is class 1, her method 1. -/
namespace start1
open Jvm.ClassFile
def u (s : String) : CpInfo := .utf8 (stringToUtf16 s)
/-- a pool by its gaps: so many unusable entries, then the entry; so many at the end -/
def gap : Nat → List CpInfo → List CpInfo
  | 0, r => r
  | n + 1, r => .unusable :: gap n r
def poolList (es : List (Nat × CpInfo)) (last : Nat) : List CpInfo := es.foldr (fun e r => gap e.1 (e.2 :: r)) (gap last [])
def pool (es : List (Nat × CpInfo)) (last : Nat) : Array CpInfo := ⟨poolList es last⟩
def fileOf (pool : Array CpInfo) (this : Nat) (attrs : Array Attribute := #[]) (ms : Array MethodInfo := #[]) (fl : Nat := 33) (sup : Nat := 0) (ifs : Array Nat := #[]) (fds : Array FieldInfo := #[]) : ClassFile where
  minorVersion := 0
  majorVersion := 65
  constantPool := pool
  accessFlags := fl
  thisClass := this
  superClass := sup
  interfaces := ifs
  fields := fds
  methods := ms
  attributes := attrs
def plain (name : String) (sup : Option ClassId) : Class where
  name := name
  kind := .ordinary
  loader := none
  accessFlags := 33
  super := sup
  interfaces := #[]
  cf := none
  fields := #[]
  methods := #[]
  instanceTypes := #[]
  staticTypes := #[]
  resolved := #[]
  callSites := []
  init := .initialized
  statics := none
  mirror := none

def pool0 : Array CpInfo := pool [(5, u "<init>"), (0, u "()V"), (1, .class_ 10), (1, u "java/lang/Object")] 113

def k0m0 : Method := { name := "<init>", desc := "()V", sig := { parameters := [], returnType := none }, accessFlags := 1, code := none }
/-- java/lang/Object -/
def k0 : Class := { plain "java/lang/Object" none with
  accessFlags := 33
  interfaces := #[]
  cf := some (fileOf pool0 8 #[] #[{ accessFlags := 1, nameIndex := 5, descriptorIndex := 6, attributes := #[] }] 33 0 #[] #[])
  fields := #[]
  methods := #[k0m0]
  instanceTypes := #[]
  staticTypes := #[]
  resolved := Array.replicate 124 none
  statics := none }

def pool1 : Array CpInfo := pool [(2, .class_ 4), (1, u "java/lang/Object"), (0, u "<init>"), (0, u "()V"), (0, .class_ 8), (0, u "com/example/millrate/millrate/ledger/ObligationStatus"), (0, .fieldref 7 10), (0, .nameAndType 11 12), (0, u "ACTIVE"), (0, u "Lcom/example/millrate/millrate/ledger/ObligationStatus;"), (0, .fieldref 7 14), (0, .nameAndType 15 12), (0, u "STOPPED"), (0, .fieldref 7 17), (0, .nameAndType 18 12), (0, u "CLOSED"), (0, .fieldref 7 20), (0, .nameAndType 21 12), (0, u "REACTIVATED"), (0, .methodref 7 23), (0, .nameAndType 24 25), (0, u "next"), (0, u "(Z)Lcom/example/millrate/millrate/ledger/ObligationStatus;"), (0, .class_ 27), (0, u "com/example/millrate/millrate/ledger/ObligationStatusNextPinLaw"), (2, u "law"), (0, u "(II)Z")] 5

def k1m0 : Method := { name := "<init>", desc := "()V", sig := { parameters := [], returnType := none }, accessFlags := 1, code := none }
def k1c1 : Code := { maxStack := 4, maxLocals := 9, code := code, exceptionTable := #[], attributes := #[] }
def k1m1 : Method := { name := "law", desc := "(II)Z", sig := { parameters := [.int, .int], returnType := some .boolean }, accessFlags := 9, code := some k1c1 }
/-- com/example/millrate/millrate/ledger/ObligationStatusNextPinLaw -/
def k1 : Class := { plain "com/example/millrate/millrate/ledger/ObligationStatusNextPinLaw" (some 0) with
  accessFlags := 49
  interfaces := #[]
  cf := some (fileOf pool1 26 #[] #[{ accessFlags := 1, nameIndex := 5, descriptorIndex := 6, attributes := #[] }, { accessFlags := 9, nameIndex := 30, descriptorIndex := 31, attributes := #[] }] 49 2 #[] #[])
  fields := #[]
  methods := #[k1m0, k1m1]
  instanceTypes := #[]
  staticTypes := #[]
  resolved := Array.replicate 37 none
  statics := none }

def pool2 : Array CpInfo := pool [(1, .class_ 2), (0, u "java/lang/constant/Constable"), (0, .class_ 4), (0, u "java/lang/Object")] 6

/-- java/lang/constant/Constable -/
def k2 : Class := { plain "java/lang/constant/Constable" (some 0) with
  accessFlags := 1537
  interfaces := #[]
  cf := some (fileOf pool2 1 #[] #[] 1537 3 #[] #[])
  fields := #[]
  methods := #[]
  instanceTypes := #[]
  staticTypes := #[]
  resolved := Array.replicate 11 none
  statics := none }

def pool3 : Array CpInfo := pool [(1, .class_ 2), (0, u "java/lang/Comparable"), (0, .class_ 4), (0, u "java/lang/Object")] 7

/-- java/lang/Comparable -/
def k3 : Class := { plain "java/lang/Comparable" (some 0) with
  accessFlags := 1537
  interfaces := #[]
  cf := some (fileOf pool3 1 #[] #[] 1537 3 #[] #[])
  fields := #[]
  methods := #[]
  instanceTypes := #[]
  staticTypes := #[]
  resolved := Array.replicate 12 none
  statics := none }

def pool4 : Array CpInfo := pool [(1, .class_ 2), (0, u "java/io/Serializable"), (0, .class_ 4), (0, u "java/lang/Object")] 2

/-- java/io/Serializable -/
def k4 : Class := { plain "java/io/Serializable" (some 0) with
  accessFlags := 1537
  interfaces := #[]
  cf := some (fileOf pool4 1 #[] #[] 1537 3 #[] #[])
  fields := #[]
  methods := #[]
  instanceTypes := #[]
  staticTypes := #[]
  resolved := Array.replicate 7 none
  statics := none }

def pool5 : Array CpInfo := pool [(2, .class_ 4), (1, u "java/lang/Enum"), (0, u "name"), (0, u "Ljava/lang/String;"), (2, u "ordinal"), (0, u "I"), (1, .class_ 14), (1, u "java/lang/Object"), (4, u "hash"), (86, .class_ 108), (1, u "java/lang/Enum$EnumDesc"), (2, .class_ 112), (0, u "java/lang/constant/Constable"), (0, .class_ 114), (0, u "java/lang/Comparable"), (0, .class_ 116), (0, u "java/io/Serializable")] 87

/-- java/lang/Enum -/
def k5 : Class := { plain "java/lang/Enum" (some 0) with
  accessFlags := 1057
  interfaces := #[2, 3, 4]
  cf := some (fileOf pool5 2 #[.nestMembers #[106]] #[] 1057 12 #[111, 113, 115] #[{ accessFlags := 18, nameIndex := 5, descriptorIndex := 6, attributes := #[] }, { accessFlags := 18, nameIndex := 9, descriptorIndex := 10, attributes := #[] }, { accessFlags := 2, nameIndex := 19, descriptorIndex := 10, attributes := #[] }])
  fields := #[{ name := "name", type := (.object "java/lang/String"), accessFlags := 18, slot := 0, constantValue := 0 }, { name := "ordinal", type := .int, accessFlags := 18, slot := 1, constantValue := 0 }, { name := "hash", type := .int, accessFlags := 2, slot := 2, constantValue := 0 }]
  methods := #[]
  instanceTypes := #[(.object "java/lang/String"), .int, .int]
  staticTypes := #[]
  resolved := Array.replicate 204 none
  statics := none }

def pool6 : Array CpInfo := pool [(1, .class_ 2), (0, u "com/example/millrate/millrate/ledger/ObligationStatus"), (0, .fieldref 1 4), (0, .nameAndType 5 6), (0, u "ACTIVE"), (0, u "Lcom/example/millrate/millrate/ledger/ObligationStatus;"), (2, u "STOPPED"), (0, .fieldref 1 11), (0, .nameAndType 12 6), (0, u "CLOSED"), (0, .fieldref 1 14), (0, .nameAndType 15 6), (0, u "REACTIVATED"), (2, u "$VALUES"), (0, u "[Lcom/example/millrate/millrate/ledger/ObligationStatus;"), (6, .class_ 28), (1, u "java/lang/Enum"), (8, u "label"), (0, u "Ljava/lang/String;"), (32, .methodref 1 72), (0, .nameAndType 73 74), (0, u "followsBalances"), (0, u "()Z"), (2, u "next"), (0, u "(Z)Lcom/example/millrate/millrate/ledger/ObligationStatus;")] 85

def k6c0 : Code := { maxStack := 2, maxLocals := 1, code := prog_30_method_6_code, exceptionTable := #[], attributes := #[] }
def k6m0 : Method := { name := "followsBalances", desc := "()Z", sig := { parameters := [], returnType := some .boolean }, accessFlags := 0, code := some k6c0 }
def k6c1 : Code := { maxStack := 2, maxLocals := 3, code := prog_30_method_7_code, exceptionTable := #[], attributes := #[] }
def k6m1 : Method := { name := "next", desc := "(Z)Lcom/example/millrate/millrate/ledger/ObligationStatus;", sig := { parameters := [.boolean], returnType := some (.object "com/example/millrate/millrate/ledger/ObligationStatus") }, accessFlags := 0, code := some k6c1 }
/-- com/example/millrate/millrate/ledger/ObligationStatus -/
def k6 : Class := { plain "com/example/millrate/millrate/ledger/ObligationStatus" (some 5) with
  accessFlags := 16433
  interfaces := #[]
  cf := some (fileOf pool6 1 #[] #[{ accessFlags := 0, nameIndex := 73, descriptorIndex := 74, attributes := #[] }, { accessFlags := 0, nameIndex := 77, descriptorIndex := 78, attributes := #[] }] 16433 26 #[] #[{ accessFlags := 16409, nameIndex := 5, descriptorIndex := 6, attributes := #[] }, { accessFlags := 16409, nameIndex := 9, descriptorIndex := 6, attributes := #[] }, { accessFlags := 16409, nameIndex := 12, descriptorIndex := 6, attributes := #[] }, { accessFlags := 16409, nameIndex := 15, descriptorIndex := 6, attributes := #[] }, { accessFlags := 18, nameIndex := 37, descriptorIndex := 38, attributes := #[] }, { accessFlags := 4122, nameIndex := 18, descriptorIndex := 19, attributes := #[] }])
  fields := #[{ name := "ACTIVE", type := (.object "com/example/millrate/millrate/ledger/ObligationStatus"), accessFlags := 16409, slot := 0, constantValue := 0 }, { name := "STOPPED", type := (.object "com/example/millrate/millrate/ledger/ObligationStatus"), accessFlags := 16409, slot := 1, constantValue := 0 }, { name := "CLOSED", type := (.object "com/example/millrate/millrate/ledger/ObligationStatus"), accessFlags := 16409, slot := 2, constantValue := 0 }, { name := "REACTIVATED", type := (.object "com/example/millrate/millrate/ledger/ObligationStatus"), accessFlags := 16409, slot := 3, constantValue := 0 }, { name := "label", type := (.object "java/lang/String"), accessFlags := 18, slot := 3, constantValue := 0 }, { name := "$VALUES", type := (.array (.object "com/example/millrate/millrate/ledger/ObligationStatus")), accessFlags := 4122, slot := 4, constantValue := 0 }]
  methods := #[k6m0, k6m1]
  instanceTypes := #[(.object "java/lang/String"), .int, .int, (.object "java/lang/String")]
  staticTypes := #[(.object "com/example/millrate/millrate/ledger/ObligationStatus"), (.object "com/example/millrate/millrate/ledger/ObligationStatus"), (.object "com/example/millrate/millrate/ledger/ObligationStatus"), (.object "com/example/millrate/millrate/ledger/ObligationStatus"), (.array (.object "com/example/millrate/millrate/ledger/ObligationStatus"))]
  resolved := Array.replicate 164 none
  statics := some 0 }

def pool7 : Array CpInfo := pool [(1, u "java/lang/Cloneable"), (0, .class_ 1), (0, u "java/lang/Object"), (0, .class_ 3)] 3

/-- java/lang/Cloneable -/
def k7 : Class := { plain "java/lang/Cloneable" (some 0) with
  accessFlags := 1537
  interfaces := #[]
  cf := some (fileOf pool7 2 #[] #[] 1537 4 #[] #[])
  fields := #[]
  methods := #[]
  instanceTypes := #[]
  staticTypes := #[]
  resolved := Array.replicate 8 none
  statics := none }

/-- the primitive byte -/
def k8 : Class := { plain "byte" none with kind := .primitive 'B', accessFlags := 0x411 }
/-- [B -/
def k9 : Class := { plain "[B" (some 0) with kind := .array 8 .byte, interfaces := #[7, 4], accessFlags := 1041 }

/-- the primitive int -/
def k10 : Class := { plain "int" none with kind := .primitive 'I', accessFlags := 0x411 }
/-- [I -/
def k11 : Class := { plain "[I" (some 0) with kind := .array 10 .int, interfaces := #[7, 4], accessFlags := 1041 }

/-- [Lcom/example/millrate/millrate/ledger/ObligationStatus; -/
def k12 : Class := { plain "[Lcom/example/millrate/millrate/ledger/ObligationStatus;" (some 0) with kind := .array 6 (.object "com/example/millrate/millrate/ledger/ObligationStatus"), interfaces := #[7, 4], accessFlags := 1041 }

def heap : Heap := #[{ cls := 6, slots := #[.ref 1, .ref 2, .ref 3, .ref 4, .null], vm := .statics 6 },
  { cls := 6, slots := #[.null, .int 0, .int 0, .null], vm := .none },
  { cls := 6, slots := #[.null, .int 1, .int 0, .null], vm := .none },
  { cls := 6, slots := #[.null, .int 2, .int 0, .null], vm := .none },
  { cls := 6, slots := #[.null, .int 3, .int 0, .null], vm := .none }]
def classes : Array Class := #[k0, k1, k2, k3, k4, k5, k6, k7, k8, k9, k10, k11, k12]
def interned : List (Array UInt16 × Addr) := []
def slotsUsed : Nat := 21
def theMethod : MethodId := ⟨1, 1⟩
def args0 : Array Value := #[.int 5, .int 300]
def aboutOver (below : List Frame) : State where
  vm := { classes := classes, interned := interned.toArray }
  heap := heap
  slotsUsed := slotsUsed
  threads := #[{ frames := .invoking theMethod args0 :: below }]
def below0 : List Frame := [.native { method := ⟨0, 0⟩, args := #[] }]
def about1 : State := aboutOver below0
def p0 : Program := .bare "" "" ""
def e0 : Env := launch0.env 0 0 0
theorem w_frames : about1.frames = Frame.invoking theMethod args0 :: below0 := rfl
set_option maxRecDepth 65536 in
theorem w_args : argsFit about1.vm theMethod args0 = true := by decide +kernel
set_option maxRecDepth 65536 in
theorem w_heap : heapFits about1 = true := by decide +kernel
set_option maxRecDepth 65536 in
theorem w_runnable : about1.curStatus? = some .runnable := by decide +kernel
set_option maxRecDepth 65536 in
theorem w_alone : about1.alone = true := by decide +kernel
set_option maxRecDepth 65536 in
theorem w_named : about1.methodNamed? x = some theMethod := by decide +kernel
set_option maxRecDepth 65536 in
theorem w_hears : about1.hears theMethod below0 = true := by decide +kernel
set_option maxRecDepth 65536 in
theorem w_ripe : about1.ripe theMethod args0 below0 = true := by decide +kernel
theorem w_running : about1.status = .running := rfl
set_option maxRecDepth 65536 in
theorem w_room : about1.hasRoom e0.platform room_1 = true :=
  launch0.hasRoom_least _ room_1 (by decide +kernel) (by decide +kernel) (by decide +kernel) (by decide +kernel) (by decide +kernel) (by decide +kernel)
theorem allAtoms_all (ts : List Jvm.Cond) (a : Array Jvm.Value) (st : Jvm.State) : (allAtoms ts).before a st = ts.all (fun c => c.before a st) := by
  induction ts with
  | nil => rfl
  | cons c t ih =>
    show (Jvm.Cond.and c (allAtoms t)).before a st = _
    rw [Jvm.Cond.before_and, ih, List.all_cons]
def words1 : List Jvm.Cond := Jvm.Cond.code x code maxLocals ret :: tables_1
/-- a 'code' word, met by the world's own term for the bytes: nothing is compared byte by byte -/
theorem code_word {y : MethodName} {bytes : ByteArray} {mx : Nat} {rt : Option FieldType} {a : Array Value} {s : State} {m : MethodId} {meth : Method} {c : Code} (h1 : s.methodNamed? y = some m) (h2 : s.vm.method? m = some meth) (h3 : meth.code = some c) (h4 : c.code = bytes)
    (h5 : (c.maxLocals == mx && c.exceptionTable.isEmpty && decide (c.maxStack ≤ mostOperands) && decide (meth.sig.returnType = rt) && !meth.locks && decide (parseMethodDescriptor y.desc = some meth.sig)) = true) : (Jvm.Cond.code y bytes mx rt).before a s = true := by
  simp only [Bool.and_eq_true, beq_iff_eq, Bool.not_eq_true', decide_eq_true_eq] at h5
  obtain ⟨⟨⟨⟨⟨g1, g2⟩, g3⟩, g4⟩, g5⟩, g6⟩ := h5
  simp [Cond.before, Cond.holds, Cond.value, h1, h2, h3, h4, g1, g2, g3, g4, g5, g6]
def isCode : Jvm.Cond → Bool
  | .code _ _ _ _ => true
  | _ => false
theorem all_split {L : List Jvm.Cond} {P : Jvm.Cond → Bool} (h1 : L.all (fun c => isCode c || P c) = true) (h2 : ∀ c ∈ L.filter isCode, P c = true) : L.all P = true := by
  refine List.all_eq_true.mpr fun c hc => ?_
  have h := List.all_eq_true.mp h1 c hc
  rcases Bool.eq_false_or_eq_true (isCode c) with hi | hi
  · exact h2 c (List.mem_filter.mpr ⟨hc, hi⟩)
  · simpa [hi] using h
set_option maxRecDepth 65536 in
theorem w_c0 : (Jvm.Cond.code x code maxLocals ret).before args0 about1 = true := code_word (m := ⟨1, 1⟩) (meth := k1m1) (c := k1c1) (by decide +kernel) rfl rfl rfl (by decide +kernel)
set_option maxRecDepth 65536 in
theorem w_c1 : (Jvm.Cond.code ({ cls := "com/example/millrate/millrate/ledger/ObligationStatus", name := "next", desc := "(Z)Lcom/example/millrate/millrate/ledger/ObligationStatus;" } : Jvm.MethodName) prog_30_method_7_code (3 : Nat) (Option.some (Jvm.ClassFile.FieldType.object "com/example/millrate/millrate/ledger/ObligationStatus"))).before args0 about1 = true := code_word (m := ⟨6, 1⟩) (meth := k6m1) (c := k6c1) (by decide +kernel) rfl rfl rfl (by decide +kernel)
set_option maxRecDepth 65536 in
theorem w_c2 : (Jvm.Cond.code ({ cls := "com/example/millrate/millrate/ledger/ObligationStatus", name := "followsBalances", desc := "()Z" } : Jvm.MethodName) prog_30_method_6_code (1 : Nat) (Option.some Jvm.ClassFile.FieldType.boolean)).before args0 about1 = true := code_word (m := ⟨6, 0⟩) (meth := k6m0) (c := k6c0) (by decide +kernel) rfl rfl rfl (by decide +kernel)
def codes1 : List Jvm.Cond := [Jvm.Cond.code x code maxLocals ret, Jvm.Cond.code ({ cls := "com/example/millrate/millrate/ledger/ObligationStatus", name := "next", desc := "(Z)Lcom/example/millrate/millrate/ledger/ObligationStatus;" } : Jvm.MethodName) prog_30_method_7_code (3 : Nat) (Option.some (Jvm.ClassFile.FieldType.object "com/example/millrate/millrate/ledger/ObligationStatus")), Jvm.Cond.code ({ cls := "com/example/millrate/millrate/ledger/ObligationStatus", name := "followsBalances", desc := "()Z" } : Jvm.MethodName) prog_30_method_6_code (1 : Nat) (Option.some Jvm.ClassFile.FieldType.boolean)]
set_option maxRecDepth 65536 in
theorem codes_eq : words1.filter isCode = codes1 := rfl
theorem w_codes : ∀ c ∈ words1.filter isCode, c.before args0 about1 = true := by
  rw [codes_eq]
  intro c hc
  simp only [codes1, List.mem_cons, List.not_mem_nil, or_false] at hc
  rcases hc with rfl | rfl | rfl
  · exact w_c0
  · exact w_c1
  · exact w_c2
set_option maxRecDepth 65536 in
theorem w_t1 : (words1.take 24).all (fun c => isCode c || c.before args0 about1) = true := by decide +kernel
set_option maxRecDepth 65536 in
theorem w_t2 : (words1.drop 24).all (fun c => isCode c || c.before args0 about1) = true := by decide +kernel
theorem w_tables : (allAtoms (Jvm.Cond.code x code maxLocals ret :: tables_1)).before args0 about1 = true := by
  rw [allAtoms_all]
  show words1.all (fun c => c.before args0 about1) = true
  refine all_split ?_ w_codes
  rw [← List.take_append_drop 24 words1, List.all_append, w_t1, w_t2]
  rfl
set_option maxRecDepth 65536 in
theorem w_case : (Jvm.Cond.and given_1 narrow_1).before args0 about1 = true := by decide +kernel
theorem w_applies : (headSpec (Jvm.Cond.code x code maxLocals ret :: tables_1) room_1).applies x e0.platform about1 = true :=
  (Spec.applies_iff w_frames).mpr ⟨w_running, w_runnable, w_alone, w_named, w_hears, w_ripe, w_room, w_tables⟩
theorem atStart : AtStart classFile x code maxLocals ret World_1 tables_1 room_1 Calls_1 rest_1 Pre_1 launch0 p0 e0 about1 theMethod args0 below0 :=
  ⟨lists_1, trivial, launch0.admits_env _ _ _, launch0.least_env, fairChoices_fair.cas, fairChoices_fair.clock, w_frames, w_args, w_heap, w_applies, trivial, trivial, w_case⟩
end start1
theorem witness_1 : WitnessClaimed_1 := ⟨start1.p0, start1.e0, start1.about1, start1.theMethod, start1.args0, start1.below0, start1.atStart⟩
end Jvm.Pilot.@@N@@
