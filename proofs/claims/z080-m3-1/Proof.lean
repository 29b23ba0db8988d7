import JvmDerived
import JvmDerived.Pilot.@@N@@Statement
import JvmDerived.Pilot.@@N@@Code
set_option linter.unusedVariables false
set_option linter.unusedSimpArgs false
namespace Jvm.Pilot.@@N@@
open Jvm Jvm.ClassFile Sem Op Lib Jvm.Free Jvm.Stand Jvm.LawKit Jvm.RoadKit Bundle Jvm.Pilot.@@N@@.Jvm.D
theorem own_ordinal {args : Array Value} {Z : State} {t : Term} {a : Addr} {C n d : String} {k : Int32} (ev : t.eval args Z none [] Z = some (.ref a)) (h : (Jvm.Cond.eq (Term.field t C n d) (Term.int k)).value args Z none Z [] = some true) : Fld Z Z.heap a C n d (.int k) := by
  apply Fld.start
  obtain ⟨x, y, ex, ey, hk, -⟩ := cmp_v (Or.inl h)
  have hf : Z.fieldOf? a C n d = some x := (fld_at ev).symm.trans ex
  have hy : y = .int k := Option.some.inj (ey.symm.trans (Term.int_eval k))
  subst hy
  cases x <;> simp [Kin, Value.isRef] at hk
  rename_i z
  have q := gotT (Cond.eq_ints ex ey) h
  rw [hf, q]
theorem own_rem3 (x : Int32) : ((x &&& (2147483647 : Int32)) % (3 : Int32)) = (0 : Int32) ∨ ((x &&& (2147483647 : Int32)) % (3 : Int32)) = (1 : Int32) ∨ ((x &&& (2147483647 : Int32)) % (3 : Int32)) = (2 : Int32) := by
  have h1 := (c_and x (2147483647 : Int32) (by decide)).1
  obtain ⟨a, b, -⟩ := (c_iremV (x &&& (2147483647 : Int32)) (3 : Int32)).1 h1 (by decide)
  have e3 : ((3 : Int32)).toInt = 3 := rfl
  rw [e3] at b
  generalize ((x &&& (2147483647 : Int32)) % (3 : Int32)) = r at *
  have h : r.toInt = 0 ∨ r.toInt = 1 ∨ r.toInt = 2 := by omega
  rcases h with h | h | h
  · exact Or.inl (Int32.toInt_inj.mp (h.trans (rfl : (0 : Int) = ((0 : Int32)).toInt)))
  · exact Or.inr (Or.inl (Int32.toInt_inj.mp (h.trans (rfl : (1 : Int) = ((1 : Int32)).toInt))))
  · exact Or.inr (Or.inr (Int32.toInt_inj.mp (h.trans (rfl : (2 : Int) = ((2 : Int32)).toInt))))
def own_pick (p : Int32) (w_FALSE : Addr) (w_INCONCLUSIVE : Addr) (w_TRUE : Addr) : Addr := if p = (0 : Int32) then w_FALSE else if p = (1 : Int32) then w_INCONCLUSIVE else w_TRUE
def own_or (a : Addr) (b : Addr) (w_FALSE : Addr) (w_INCONCLUSIVE : Addr) (w_TRUE : Addr) : Addr := if a = w_TRUE then w_TRUE else if b = w_TRUE then w_TRUE else if a = w_INCONCLUSIVE then w_INCONCLUSIVE else if b = w_INCONCLUSIVE then w_INCONCLUSIVE else w_FALSE
def own_max (p : Int32) (q : Int32) : Int32 := if p < q then q else p
theorem d1_0 : decode method_2_code 0 = .ok (.iload_n 0, 1) := by decide +kernel
theorem d1_1 : decode method_2_code 1 = .ok (.ifCond .ne 7, 3) := by decide +kernel
theorem d1_4 : decode method_2_code 4 = .ok (.getstatic 7, 3) := by decide +kernel
theorem d1_7 : decode method_2_code 7 = .ok (.areturn, 1) := by decide +kernel
theorem d1_8 : decode method_2_code 8 = .ok (.iload_n 0, 1) := by decide +kernel
theorem d1_9 : decode method_2_code 9 = .ok (.iconst 1, 1) := by decide +kernel
theorem d1_10 : decode method_2_code 10 = .ok (.if_icmp .ne 7, 3) := by decide +kernel
theorem d1_13 : decode method_2_code 13 = .ok (.getstatic 13, 3) := by decide +kernel
theorem d1_16 : decode method_2_code 16 = .ok (.areturn, 1) := by decide +kernel
theorem d1_17 : decode method_2_code 17 = .ok (.getstatic 16, 3) := by decide +kernel
theorem d1_20 : decode method_2_code 20 = .ok (.areturn, 1) := by decide +kernel
theorem pn_1 : plainName "com/example/gatewarden/gatewarden/policy/TruthOrPinLaw" = true := by first | (simp [plainName, overriddenIn]; done) | decide +kernel
theorem ef_1 (m : MethodId) (x0 : Int32) : entryFrame m #[(.int x0)] 1 = mkF m 0 #[.val (.int x0)] [] := by first | (simp [entryFrame, mkF, argsToLocals, Value.category]; done) | rfl
def Q1 (Z : State) (p1 : Int32) (w_FALSE : Addr) (w_INCONCLUSIVE : Addr) (w_TRUE : Addr) (r : Addr) (h0 : Heap) (n0 : Nat) (v : Option Value) (h : Heap) (L : List Loc) : Prop := v = some (.ref r) ∧ Fr n0 L ∧ h = h0
set_option maxRecDepth 65536 in
set_option maxHeartbeats 40000000 in
theorem rm1 (l : Launch) (Z : State) (a0 : Array Value) (hw : ∀ d ∈ tables_1, d.before a0 Z = true) (ws : List Jvm.Cond) (p1 : Int32) (w_FALSE : Addr) (w_INCONCLUSIVE : Addr) (w_TRUE : Addr) (r : Addr) (h0 : Heap) (n0 : Nat) (S_FALSE : Sta Z h0 "com/example/gatewarden/gatewarden/policy/Truth" "FALSE" "Lcom/example/gatewarden/gatewarden/policy/Truth;" (.ref w_FALSE)) (S_INCONCLUSIVE : Sta Z h0 "com/example/gatewarden/gatewarden/policy/Truth" "INCONCLUSIVE" "Lcom/example/gatewarden/gatewarden/policy/Truth;" (.ref w_INCONCLUSIVE)) (S_TRUE : Sta Z h0 "com/example/gatewarden/gatewarden/policy/Truth" "TRUE" "Lcom/example/gatewarden/gatewarden/policy/Truth;" (.ref w_TRUE)) (hr : (own_pick p1 w_FALSE w_INCONCLUSIVE w_TRUE) = r) :
    MetFree l (⟨"com/example/gatewarden/gatewarden/policy/TruthOrPinLaw", "pick", "(I)Lcom/example/gatewarden/gatewarden/policy/Truth;"⟩ : MethodName) (head1 (Jvm.Cond.code (⟨"com/example/gatewarden/gatewarden/policy/TruthOrPinLaw", "pick", "(I)Lcom/example/gatewarden/gatewarden/policy/Truth;"⟩ : MethodName) method_2_code 1 (some (.object "com/example/gatewarden/gatewarden/policy/Truth")) :: ws) ({ frames := 0, cells := 0, slots := 0, locals := 0 } : Room)) (fun ar0 U => ar0 = #[(.int p1)] ∧ Z.Warmed39 U.vm ∧ U.heap = h0) (fun _ _ _ _ _ => True) (fun _ U o U' => ∃ v L, o = .returned v ∧ Q1 Z p1 w_FALSE w_INCONCLUSIVE w_TRUE r h0 n0 v U'.heap L ∧ FrameEnd U o U' L ({ frames := 0, cells := 0, slots := 0, locals := 0 } : Room).cells ({ frames := 0, cells := 0, slots := 0, locals := 0 } : Room).slots) := by
  refine MetFree.of_bodySF (plainFor_of_name pn_1) hisR ?_
  intro p e s m args below meth c s₁ Bd hml0 hP hK
  obtain ⟨rfl, hZ, hh⟩ := hP
  have hx := Bd.exec
  have hby := Bd.bytes
  have hml : c.maxLocals = 1 := hml0
  have hown : s.vm.findClass "com/example/gatewarden/gatewarden/policy/TruthOrPinLaw" = some m.cls := findClass_of_methodNamed Bd.named
  have X0 : Stand p l e ({ frames := 0, cells := 0, slots := 0, locals := 0 } : Room) s m #[(.int p1)] below meth c s₁ [] 0 0 := Stand.of_body Bd
  have e0 : s₁.heap = h0 := by rw [← hh, Bd.state]; rfl
  have N0 := Fr.nil n0
  have pre0 : ∀ t, Steps p.tables e below (s₁.setTop (mkF m 0 #[.val (.int p1)] [])) t → Steps p.tables e below (s₁.setTop (entryFrame m #[(.int p1)] 1)) t := fun t k => castTop (ef_1 m p1) k
  have pre1 : ∀ t, Steps p.tables e below (s₁.setTop (mkF m 1 #[.val (.int p1)] [(.int p1)])) t → Steps p.tables e below (s₁.setTop (entryFrame m #[(.int p1)] 1)) t := by
    intro t k
    refine pre0 _ ?_
    show Steps p.tables e below (s₁.setTop (mkF m 0 #[.val (.int p1)] [])) _
    refine XS.iloadN X0.here hx rfl (hb hby d1_0) rfl ?_
    show Steps p.tables e below (s₁.setTop (mkF m 1 #[.val (.int p1)] [(.int p1)])) _
    exact k
  by_cases hc2 : p1 = (0 : Int32)
  ·
    have pre3 : ∀ t, Steps p.tables e below (s₁.setTop (mkF m 4 #[.val (.int p1)] [])) t → Steps p.tables e below (s₁.setTop (entryFrame m #[(.int p1)] 1)) t := by
      intro t k
      refine pre1 _ ?_
      refine XS.ifNo X0.here hx rfl (hb hby d1_1) rfl ((if0 _ _).trans (teq (hc2 : p1 = (0 : Int32))).2) ?_
      exact k
    obtain ⟨T4, X4, e4, st4⟩ := getS2 X0 hx hZ hown (host := "") (Or.inl (hw _ (List.mem_of_getElem? (i := 5) rfl))) Via.refl e0 S_FALSE (g := (mkF m 4 #[.val (.int p1)] [])) rfl (hb hby d1_4)
    have hres : w_FALSE = r := (show (own_pick p1 w_FALSE w_INCONCLUSIVE w_TRUE) = w_FALSE from (by unfold own_pick; rw [if_pos (hc2 : p1 = (0 : Int32))])).symm.trans hr
    obtain ⟨fs, hr5, hrun, hended, hW, hsame⟩ := X4.leave (v := some (.ref w_FALSE)) (fun h => by rw [Bd.returns] at h; cases h)
    refine ⟨_, _, pre3 _ ?_, hrun, hended, _, _, rfl, ?_, ⟨_, rfl⟩, hW, hsame.mono (by decide) (by decide)⟩
    · show Steps p.tables e below (s₁.setTop (mkF m 4 #[.val (.int p1)] [])) _
      refine st4 _ ?_
      show Steps p.tables e below (T4.setTop (mkF m 7 #[.val (.int p1)] [(.ref w_FALSE)])) _
      exact retOut X4 hx Bd.returns rfl (Or.inr (Or.inr (Or.inr (Or.inr ⟨rfl, rfl, rfl⟩)))) (hb hby d1_7) hr5
    · show Q1 Z _ _ _ _ _ h0 n0 _ T4.heap _
      rw [e4]
      exact ⟨by rw [hres], N0, rfl⟩
  ·
    have pre6 : ∀ t, Steps p.tables e below (s₁.setTop (mkF m 8 #[.val (.int p1)] [])) t → Steps p.tables e below (s₁.setTop (entryFrame m #[(.int p1)] 1)) t := by
      intro t k
      refine pre1 _ ?_
      refine XS.ifYes X0.here hx rfl (pc0 := 1) (pc' := 8) rfl (hb hby d1_1) rfl ((if0 _ _).trans (feq (hc2 : ¬ (p1 = (0 : Int32)))).2) (by decide) (by decide) ?_
      exact k
    have pre7 : ∀ t, Steps p.tables e below (s₁.setTop (mkF m 10 #[.val (.int p1)] [(.int (1 : Int32)), (.int p1)])) t → Steps p.tables e below (s₁.setTop (entryFrame m #[(.int p1)] 1)) t := by
      intro t k
      refine pre6 _ ?_
      show Steps p.tables e below (s₁.setTop (mkF m 8 #[.val (.int p1)] [])) _
      refine XS.iloadN X0.here hx rfl (hb hby d1_8) rfl ?_
      show Steps p.tables e below (s₁.setTop (mkF m 9 #[.val (.int p1)] [(.int p1)])) _
      refine XT.iconstV X0.here hx rfl (1 : Int32) (hb hby d1_9) (by decide) ?_
      show Steps p.tables e below (s₁.setTop (mkF m 10 #[.val (.int p1)] [(.int (1 : Int32)), (.int p1)])) _
      exact k
    by_cases hc8 : p1 = (1 : Int32)
    ·
      have pre9 : ∀ t, Steps p.tables e below (s₁.setTop (mkF m 13 #[.val (.int p1)] [])) t → Steps p.tables e below (s₁.setTop (entryFrame m #[(.int p1)] 1)) t := by
        intro t k
        refine pre7 _ ?_
        refine XS.icmpNo X0.here hx rfl (hb hby d1_10) rfl (teq (hc8 : p1 = (1 : Int32))).2 ?_
        exact k
      obtain ⟨T10, X10, e10, st10⟩ := getS2 X0 hx hZ hown (host := "") (Or.inl (hw _ (List.mem_of_getElem? (i := 23) rfl))) Via.refl e0 S_INCONCLUSIVE (g := (mkF m 13 #[.val (.int p1)] [])) rfl (hb hby d1_13)
      have hres : w_INCONCLUSIVE = r := (show (own_pick p1 w_FALSE w_INCONCLUSIVE w_TRUE) = w_INCONCLUSIVE from (by unfold own_pick; rw [if_neg (hc2 : ¬ (p1 = (0 : Int32))), if_pos (hc8 : p1 = (1 : Int32))])).symm.trans hr
      obtain ⟨fs, hr11, hrun, hended, hW, hsame⟩ := X10.leave (v := some (.ref w_INCONCLUSIVE)) (fun h => by rw [Bd.returns] at h; cases h)
      refine ⟨_, _, pre9 _ ?_, hrun, hended, _, _, rfl, ?_, ⟨_, rfl⟩, hW, hsame.mono (by decide) (by decide)⟩
      · show Steps p.tables e below (s₁.setTop (mkF m 13 #[.val (.int p1)] [])) _
        refine st10 _ ?_
        show Steps p.tables e below (T10.setTop (mkF m 16 #[.val (.int p1)] [(.ref w_INCONCLUSIVE)])) _
        exact retOut X10 hx Bd.returns rfl (Or.inr (Or.inr (Or.inr (Or.inr ⟨rfl, rfl, rfl⟩)))) (hb hby d1_16) hr11
      · show Q1 Z _ _ _ _ _ h0 n0 _ T10.heap _
        rw [e10]
        exact ⟨by rw [hres], N0, rfl⟩
    ·
      have pre12 : ∀ t, Steps p.tables e below (s₁.setTop (mkF m 17 #[.val (.int p1)] [])) t → Steps p.tables e below (s₁.setTop (entryFrame m #[(.int p1)] 1)) t := by
        intro t k
        refine pre7 _ ?_
        refine XS.icmpYes X0.here hx rfl (pc0 := 10) (pc' := 17) rfl (hb hby d1_10) rfl (feq (hc8 : ¬ (p1 = (1 : Int32)))).2 (by decide) (by decide) ?_
        exact k
      obtain ⟨T13, X13, e13, st13⟩ := getS2 X0 hx hZ hown (host := "") (Or.inl (hw _ (List.mem_of_getElem? (i := 22) rfl))) Via.refl e0 S_TRUE (g := (mkF m 17 #[.val (.int p1)] [])) rfl (hb hby d1_17)
      have hres : w_TRUE = r := (show (own_pick p1 w_FALSE w_INCONCLUSIVE w_TRUE) = w_TRUE from (by unfold own_pick; rw [if_neg (hc2 : ¬ (p1 = (0 : Int32))), if_neg (hc8 : ¬ (p1 = (1 : Int32)))])).symm.trans hr
      obtain ⟨fs, hr14, hrun, hended, hW, hsame⟩ := X13.leave (v := some (.ref w_TRUE)) (fun h => by rw [Bd.returns] at h; cases h)
      refine ⟨_, _, pre12 _ ?_, hrun, hended, _, _, rfl, ?_, ⟨_, rfl⟩, hW, hsame.mono (by decide) (by decide)⟩
      · show Steps p.tables e below (s₁.setTop (mkF m 17 #[.val (.int p1)] [])) _
        refine st13 _ ?_
        show Steps p.tables e below (T13.setTop (mkF m 20 #[.val (.int p1)] [(.ref w_TRUE)])) _
        exact retOut X13 hx Bd.returns rfl (Or.inr (Or.inr (Or.inr (Or.inr ⟨rfl, rfl, rfl⟩)))) (hb hby d1_20) hr14
      · show Q1 Z _ _ _ _ _ h0 n0 _ T13.heap _
        rw [e13]
        exact ⟨by rw [hres], N0, rfl⟩
theorem d2_0 : decode prog_46_method_6_code 0 = .ok (.aload_n 0, 1) := by decide +kernel
theorem d2_1 : decode prog_46_method_6_code 1 = .ok (.getstatic 3, 3) := by decide +kernel
theorem d2_4 : decode prog_46_method_6_code 4 = .ok (.if_acmp .eq 10, 3) := by decide +kernel
theorem d2_7 : decode prog_46_method_6_code 7 = .ok (.aload_n 1, 1) := by decide +kernel
theorem d2_8 : decode prog_46_method_6_code 8 = .ok (.getstatic 3, 3) := by decide +kernel
theorem d2_11 : decode prog_46_method_6_code 11 = .ok (.if_acmp .ne 7, 3) := by decide +kernel
theorem d2_14 : decode prog_46_method_6_code 14 = .ok (.getstatic 3, 3) := by decide +kernel
theorem d2_17 : decode prog_46_method_6_code 17 = .ok (.areturn, 1) := by decide +kernel
theorem d2_18 : decode prog_46_method_6_code 18 = .ok (.aload_n 0, 1) := by decide +kernel
theorem d2_19 : decode prog_46_method_6_code 19 = .ok (.getstatic 10, 3) := by decide +kernel
theorem d2_22 : decode prog_46_method_6_code 22 = .ok (.if_acmp .eq 10, 3) := by decide +kernel
theorem d2_25 : decode prog_46_method_6_code 25 = .ok (.aload_n 1, 1) := by decide +kernel
theorem d2_26 : decode prog_46_method_6_code 26 = .ok (.getstatic 10, 3) := by decide +kernel
theorem d2_29 : decode prog_46_method_6_code 29 = .ok (.if_acmp .ne 9, 3) := by decide +kernel
theorem d2_32 : decode prog_46_method_6_code 32 = .ok (.getstatic 10, 3) := by decide +kernel
theorem d2_35 : decode prog_46_method_6_code 35 = .ok (.goto 6, 3) := by decide +kernel
theorem d2_38 : decode prog_46_method_6_code 38 = .ok (.getstatic 7, 3) := by decide +kernel
theorem d2_41 : decode prog_46_method_6_code 41 = .ok (.areturn, 1) := by decide +kernel
theorem pn_2 : plainName "com/example/gatewarden/gatewarden/policy/Truth" = true := by first | (simp [plainName, overriddenIn]; done) | decide +kernel
theorem ef_2 (m : MethodId) (x0 : Addr) (x1 : Addr) : entryFrame m #[(.ref x0), (.ref x1)] 2 = mkF m 0 #[.val (.ref x0), .val (.ref x1)] [] := by first | (simp [entryFrame, mkF, argsToLocals, Value.category]; done) | rfl
def Q2 (Z : State) (a : Addr) (b : Addr) (w_FALSE : Addr) (w_INCONCLUSIVE : Addr) (w_TRUE : Addr) (r : Addr) (h0 : Heap) (n0 : Nat) (v : Option Value) (h : Heap) (L : List Loc) : Prop := v = some (.ref r) ∧ Fr n0 L ∧ h = h0
set_option maxRecDepth 65536 in
set_option maxHeartbeats 40000000 in
theorem rm2 (l : Launch) (Z : State) (a0 : Array Value) (hw : ∀ d ∈ tables_1, d.before a0 Z = true) (ws : List Jvm.Cond) (a : Addr) (b : Addr) (w_FALSE : Addr) (w_INCONCLUSIVE : Addr) (w_TRUE : Addr) (r : Addr) (h0 : Heap) (n0 : Nat) (S_FALSE : Sta Z h0 "com/example/gatewarden/gatewarden/policy/Truth" "FALSE" "Lcom/example/gatewarden/gatewarden/policy/Truth;" (.ref w_FALSE)) (S_INCONCLUSIVE : Sta Z h0 "com/example/gatewarden/gatewarden/policy/Truth" "INCONCLUSIVE" "Lcom/example/gatewarden/gatewarden/policy/Truth;" (.ref w_INCONCLUSIVE)) (S_TRUE : Sta Z h0 "com/example/gatewarden/gatewarden/policy/Truth" "TRUE" "Lcom/example/gatewarden/gatewarden/policy/Truth;" (.ref w_TRUE)) (hr : (own_or a b w_FALSE w_INCONCLUSIVE w_TRUE) = r) :
    MetFree l (⟨"com/example/gatewarden/gatewarden/policy/Truth", "or", "(Lcom/example/gatewarden/gatewarden/policy/Truth;)Lcom/example/gatewarden/gatewarden/policy/Truth;"⟩ : MethodName) (head1 (Jvm.Cond.code (⟨"com/example/gatewarden/gatewarden/policy/Truth", "or", "(Lcom/example/gatewarden/gatewarden/policy/Truth;)Lcom/example/gatewarden/gatewarden/policy/Truth;"⟩ : MethodName) prog_46_method_6_code 2 (some (.object "com/example/gatewarden/gatewarden/policy/Truth")) :: ws) ({ frames := 0, cells := 0, slots := 0, locals := 0 } : Room)) (fun ar0 U => ar0 = #[(.ref a), (.ref b)] ∧ Z.Warmed39 U.vm ∧ U.heap = h0) (fun _ _ _ _ _ => True) (fun _ U o U' => ∃ v L, o = .returned v ∧ Q2 Z a b w_FALSE w_INCONCLUSIVE w_TRUE r h0 n0 v U'.heap L ∧ FrameEnd U o U' L ({ frames := 0, cells := 0, slots := 0, locals := 0 } : Room).cells ({ frames := 0, cells := 0, slots := 0, locals := 0 } : Room).slots) := by
  refine MetFree.of_bodySF (plainFor_of_name pn_2) hisR ?_
  intro p e s m args below meth c s₁ Bd hml0 hP hK
  obtain ⟨rfl, hZ, hh⟩ := hP
  have hx := Bd.exec
  have hby := Bd.bytes
  have hml : c.maxLocals = 2 := hml0
  have hown : s.vm.findClass "com/example/gatewarden/gatewarden/policy/Truth" = some m.cls := findClass_of_methodNamed Bd.named
  have X0 : Stand p l e ({ frames := 0, cells := 0, slots := 0, locals := 0 } : Room) s m #[(.ref a), (.ref b)] below meth c s₁ [] 0 0 := Stand.of_body Bd
  have e0 : s₁.heap = h0 := by rw [← hh, Bd.state]; rfl
  have N0 := Fr.nil n0
  have pre0 : ∀ t, Steps p.tables e below (s₁.setTop (mkF m 0 #[.val (.ref a), .val (.ref b)] [])) t → Steps p.tables e below (s₁.setTop (entryFrame m #[(.ref a), (.ref b)] 2)) t := fun t k => castTop (ef_2 m a b) k
  obtain ⟨T1, X1, e1, st1⟩ := getS2 X0 hx hZ hown (host := "") (Or.inl (hw _ (List.mem_of_getElem? (i := 13) rfl))) Via.refl e0 S_TRUE (g := (mkF m 1 #[.val (.ref a), .val (.ref b)] [(.ref a)])) rfl (hb hby d2_1)
  have pre2 : ∀ t, Steps p.tables e below (T1.setTop (mkF m 4 #[.val (.ref a), .val (.ref b)] [(.ref w_TRUE), (.ref a)])) t → Steps p.tables e below (s₁.setTop (entryFrame m #[(.ref a), (.ref b)] 2)) t := by
    intro t k
    refine pre0 _ ?_
    show Steps p.tables e below (s₁.setTop (mkF m 0 #[.val (.ref a), .val (.ref b)] [])) _
    refine XS.aloadN X0.here hx rfl (hb hby d2_0) rfl rfl ?_
    show Steps p.tables e below (s₁.setTop (mkF m 1 #[.val (.ref a), .val (.ref b)] [(.ref a)])) _
    refine st1 _ ?_
    show Steps p.tables e below (T1.setTop (mkF m 4 #[.val (.ref a), .val (.ref b)] [(.ref w_TRUE), (.ref a)])) _
    exact k
  by_cases hc3 : a = w_TRUE
  ·
    have pre4 : ∀ t, Steps p.tables e below (T1.setTop (mkF m 14 #[.val (.ref a), .val (.ref b)] [])) t → Steps p.tables e below (s₁.setTop (entryFrame m #[(.ref a), (.ref b)] 2)) t := by
      intro t k
      refine pre2 _ ?_
      refine Jvm.RoadKit.acmp (g := (mkF m 4 #[.val (.ref a), .val (.ref b)] [(.ref w_TRUE), (.ref a)])) X1 hx rfl rfl rfl (pc0 := 4) (pc' := 14) (same := true) rfl (hb hby d2_4) rfl (decide_eq_true (congrArg Value.ref (hc3 : a = w_TRUE))) (by decide) (by decide) ?_
      exact k
    obtain ⟨T5, X5, e5, st5⟩ := getS2 X1 hx hZ hown (host := "") (Or.inl (hw _ (List.mem_of_getElem? (i := 13) rfl))) Via.refl e1 S_TRUE (g := (mkF m 14 #[.val (.ref a), .val (.ref b)] [])) rfl (hb hby d2_14)
    have hres : w_TRUE = r := (show (own_or a b w_FALSE w_INCONCLUSIVE w_TRUE) = w_TRUE from (by unfold own_or; rw [if_pos (hc3 : a = w_TRUE)])).symm.trans hr
    obtain ⟨fs, hr6, hrun, hended, hW, hsame⟩ := X5.leave (v := some (.ref w_TRUE)) (fun h => by rw [Bd.returns] at h; cases h)
    refine ⟨_, _, pre4 _ ?_, hrun, hended, _, _, rfl, ?_, ⟨_, rfl⟩, hW, hsame.mono (by decide) (by decide)⟩
    · show Steps p.tables e below (T1.setTop (mkF m 14 #[.val (.ref a), .val (.ref b)] [])) _
      refine st5 _ ?_
      show Steps p.tables e below (T5.setTop (mkF m 17 #[.val (.ref a), .val (.ref b)] [(.ref w_TRUE)])) _
      exact retOut X5 hx Bd.returns rfl (Or.inr (Or.inr (Or.inr (Or.inr ⟨rfl, rfl, rfl⟩)))) (hb hby d2_17) hr6
    · show Q2 Z _ _ _ _ _ _ h0 n0 _ T5.heap _
      rw [e5]
      exact ⟨by rw [hres], N0, rfl⟩
  ·
    have pre7 : ∀ t, Steps p.tables e below (T1.setTop (mkF m 7 #[.val (.ref a), .val (.ref b)] [])) t → Steps p.tables e below (s₁.setTop (entryFrame m #[(.ref a), (.ref b)] 2)) t := by
      intro t k
      refine pre2 _ ?_
      refine Jvm.RoadKit.acmp (g := (mkF m 4 #[.val (.ref a), .val (.ref b)] [(.ref w_TRUE), (.ref a)])) X1 hx rfl rfl rfl (pc0 := 4) (pc' := 7) (same := false) rfl (hb hby d2_4) rfl (decide_eq_false fun q => (hc3 : ¬ (a = w_TRUE)) (Value.ref.inj q)) (by decide) (by decide) ?_
      exact k
    obtain ⟨T8, X8, e8, st8⟩ := getS2 X1 hx hZ hown (host := "") (Or.inl (hw _ (List.mem_of_getElem? (i := 13) rfl))) Via.refl e1 S_TRUE (g := (mkF m 8 #[.val (.ref a), .val (.ref b)] [(.ref b)])) rfl (hb hby d2_8)
    have pre9 : ∀ t, Steps p.tables e below (T8.setTop (mkF m 11 #[.val (.ref a), .val (.ref b)] [(.ref w_TRUE), (.ref b)])) t → Steps p.tables e below (s₁.setTop (entryFrame m #[(.ref a), (.ref b)] 2)) t := by
      intro t k
      refine pre7 _ ?_
      show Steps p.tables e below (T1.setTop (mkF m 7 #[.val (.ref a), .val (.ref b)] [])) _
      refine XS.aloadN X1.here hx rfl (hb hby d2_7) rfl rfl ?_
      show Steps p.tables e below (T1.setTop (mkF m 8 #[.val (.ref a), .val (.ref b)] [(.ref b)])) _
      refine st8 _ ?_
      show Steps p.tables e below (T8.setTop (mkF m 11 #[.val (.ref a), .val (.ref b)] [(.ref w_TRUE), (.ref b)])) _
      exact k
    by_cases hc10 : b = w_TRUE
    ·
      have pre11 : ∀ t, Steps p.tables e below (T8.setTop (mkF m 14 #[.val (.ref a), .val (.ref b)] [])) t → Steps p.tables e below (s₁.setTop (entryFrame m #[(.ref a), (.ref b)] 2)) t := by
        intro t k
        refine pre9 _ ?_
        refine Jvm.RoadKit.acmp (g := (mkF m 11 #[.val (.ref a), .val (.ref b)] [(.ref w_TRUE), (.ref b)])) X8 hx rfl rfl rfl (pc0 := 11) (pc' := 14) (same := true) rfl (hb hby d2_11) rfl (decide_eq_true (congrArg Value.ref (hc10 : b = w_TRUE))) (by decide) (by decide) ?_
        exact k
      obtain ⟨T12, X12, e12, st12⟩ := getS2 X8 hx hZ hown (host := "") (Or.inl (hw _ (List.mem_of_getElem? (i := 13) rfl))) Via.refl e8 S_TRUE (g := (mkF m 14 #[.val (.ref a), .val (.ref b)] [])) rfl (hb hby d2_14)
      have hres : w_TRUE = r := (show (own_or a b w_FALSE w_INCONCLUSIVE w_TRUE) = w_TRUE from (by unfold own_or; rw [if_neg (hc3 : ¬ (a = w_TRUE)), if_pos (hc10 : b = w_TRUE)])).symm.trans hr
      obtain ⟨fs, hr13, hrun, hended, hW, hsame⟩ := X12.leave (v := some (.ref w_TRUE)) (fun h => by rw [Bd.returns] at h; cases h)
      refine ⟨_, _, pre11 _ ?_, hrun, hended, _, _, rfl, ?_, ⟨_, rfl⟩, hW, hsame.mono (by decide) (by decide)⟩
      · show Steps p.tables e below (T8.setTop (mkF m 14 #[.val (.ref a), .val (.ref b)] [])) _
        refine st12 _ ?_
        show Steps p.tables e below (T12.setTop (mkF m 17 #[.val (.ref a), .val (.ref b)] [(.ref w_TRUE)])) _
        exact retOut X12 hx Bd.returns rfl (Or.inr (Or.inr (Or.inr (Or.inr ⟨rfl, rfl, rfl⟩)))) (hb hby d2_17) hr13
      · show Q2 Z _ _ _ _ _ _ h0 n0 _ T12.heap _
        rw [e12]
        exact ⟨by rw [hres], N0, rfl⟩
    ·
      have pre14 : ∀ t, Steps p.tables e below (T8.setTop (mkF m 18 #[.val (.ref a), .val (.ref b)] [])) t → Steps p.tables e below (s₁.setTop (entryFrame m #[(.ref a), (.ref b)] 2)) t := by
        intro t k
        refine pre9 _ ?_
        refine Jvm.RoadKit.acmp (g := (mkF m 11 #[.val (.ref a), .val (.ref b)] [(.ref w_TRUE), (.ref b)])) X8 hx rfl rfl rfl (pc0 := 11) (pc' := 18) (same := false) rfl (hb hby d2_11) rfl (decide_eq_false fun q => (hc10 : ¬ (b = w_TRUE)) (Value.ref.inj q)) (by decide) (by decide) ?_
        exact k
      obtain ⟨T15, X15, e15, st15⟩ := getS2 X8 hx hZ hown (host := "") (Or.inl (hw _ (List.mem_of_getElem? (i := 15) rfl))) Via.refl e8 S_INCONCLUSIVE (g := (mkF m 19 #[.val (.ref a), .val (.ref b)] [(.ref a)])) rfl (hb hby d2_19)
      have pre16 : ∀ t, Steps p.tables e below (T15.setTop (mkF m 22 #[.val (.ref a), .val (.ref b)] [(.ref w_INCONCLUSIVE), (.ref a)])) t → Steps p.tables e below (s₁.setTop (entryFrame m #[(.ref a), (.ref b)] 2)) t := by
        intro t k
        refine pre14 _ ?_
        show Steps p.tables e below (T8.setTop (mkF m 18 #[.val (.ref a), .val (.ref b)] [])) _
        refine XS.aloadN X8.here hx rfl (hb hby d2_18) rfl rfl ?_
        show Steps p.tables e below (T8.setTop (mkF m 19 #[.val (.ref a), .val (.ref b)] [(.ref a)])) _
        refine st15 _ ?_
        show Steps p.tables e below (T15.setTop (mkF m 22 #[.val (.ref a), .val (.ref b)] [(.ref w_INCONCLUSIVE), (.ref a)])) _
        exact k
      by_cases hc17 : a = w_INCONCLUSIVE
      ·
        have pre18 : ∀ t, Steps p.tables e below (T15.setTop (mkF m 32 #[.val (.ref a), .val (.ref b)] [])) t → Steps p.tables e below (s₁.setTop (entryFrame m #[(.ref a), (.ref b)] 2)) t := by
          intro t k
          refine pre16 _ ?_
          refine Jvm.RoadKit.acmp (g := (mkF m 22 #[.val (.ref a), .val (.ref b)] [(.ref w_INCONCLUSIVE), (.ref a)])) X15 hx rfl rfl rfl (pc0 := 22) (pc' := 32) (same := true) rfl (hb hby d2_22) rfl (decide_eq_true (congrArg Value.ref (hc17 : a = w_INCONCLUSIVE))) (by decide) (by decide) ?_
          exact k
        obtain ⟨T19, X19, e19, st19⟩ := getS2 X15 hx hZ hown (host := "") (Or.inl (hw _ (List.mem_of_getElem? (i := 15) rfl))) Via.refl e15 S_INCONCLUSIVE (g := (mkF m 32 #[.val (.ref a), .val (.ref b)] [])) rfl (hb hby d2_32)
        have hres : w_INCONCLUSIVE = r := (show (own_or a b w_FALSE w_INCONCLUSIVE w_TRUE) = w_INCONCLUSIVE from (by unfold own_or; rw [if_neg (hc3 : ¬ (a = w_TRUE)), if_neg (hc10 : ¬ (b = w_TRUE)), if_pos (hc17 : a = w_INCONCLUSIVE)])).symm.trans hr
        obtain ⟨fs, hr20, hrun, hended, hW, hsame⟩ := X19.leave (v := some (.ref w_INCONCLUSIVE)) (fun h => by rw [Bd.returns] at h; cases h)
        refine ⟨_, _, pre18 _ ?_, hrun, hended, _, _, rfl, ?_, ⟨_, rfl⟩, hW, hsame.mono (by decide) (by decide)⟩
        · show Steps p.tables e below (T15.setTop (mkF m 32 #[.val (.ref a), .val (.ref b)] [])) _
          refine st19 _ ?_
          show Steps p.tables e below (T19.setTop (mkF m 35 #[.val (.ref a), .val (.ref b)] [(.ref w_INCONCLUSIVE)])) _
          refine XS.goto X19.here hx rfl (pc0 := 35) (pc' := 41) rfl (hb hby d2_35) (by decide) (by decide) ?_
          show Steps p.tables e below (T19.setTop (mkF m 41 #[.val (.ref a), .val (.ref b)] [(.ref w_INCONCLUSIVE)])) _
          exact retOut X19 hx Bd.returns rfl (Or.inr (Or.inr (Or.inr (Or.inr ⟨rfl, rfl, rfl⟩)))) (hb hby d2_41) hr20
        · show Q2 Z _ _ _ _ _ _ h0 n0 _ T19.heap _
          rw [e19]
          exact ⟨by rw [hres], N0, rfl⟩
      ·
        have pre21 : ∀ t, Steps p.tables e below (T15.setTop (mkF m 25 #[.val (.ref a), .val (.ref b)] [])) t → Steps p.tables e below (s₁.setTop (entryFrame m #[(.ref a), (.ref b)] 2)) t := by
          intro t k
          refine pre16 _ ?_
          refine Jvm.RoadKit.acmp (g := (mkF m 22 #[.val (.ref a), .val (.ref b)] [(.ref w_INCONCLUSIVE), (.ref a)])) X15 hx rfl rfl rfl (pc0 := 22) (pc' := 25) (same := false) rfl (hb hby d2_22) rfl (decide_eq_false fun q => (hc17 : ¬ (a = w_INCONCLUSIVE)) (Value.ref.inj q)) (by decide) (by decide) ?_
          exact k
        obtain ⟨T22, X22, e22, st22⟩ := getS2 X15 hx hZ hown (host := "") (Or.inl (hw _ (List.mem_of_getElem? (i := 15) rfl))) Via.refl e15 S_INCONCLUSIVE (g := (mkF m 26 #[.val (.ref a), .val (.ref b)] [(.ref b)])) rfl (hb hby d2_26)
        have pre23 : ∀ t, Steps p.tables e below (T22.setTop (mkF m 29 #[.val (.ref a), .val (.ref b)] [(.ref w_INCONCLUSIVE), (.ref b)])) t → Steps p.tables e below (s₁.setTop (entryFrame m #[(.ref a), (.ref b)] 2)) t := by
          intro t k
          refine pre21 _ ?_
          show Steps p.tables e below (T15.setTop (mkF m 25 #[.val (.ref a), .val (.ref b)] [])) _
          refine XS.aloadN X15.here hx rfl (hb hby d2_25) rfl rfl ?_
          show Steps p.tables e below (T15.setTop (mkF m 26 #[.val (.ref a), .val (.ref b)] [(.ref b)])) _
          refine st22 _ ?_
          show Steps p.tables e below (T22.setTop (mkF m 29 #[.val (.ref a), .val (.ref b)] [(.ref w_INCONCLUSIVE), (.ref b)])) _
          exact k
        by_cases hc24 : b = w_INCONCLUSIVE
        ·
          have pre25 : ∀ t, Steps p.tables e below (T22.setTop (mkF m 32 #[.val (.ref a), .val (.ref b)] [])) t → Steps p.tables e below (s₁.setTop (entryFrame m #[(.ref a), (.ref b)] 2)) t := by
            intro t k
            refine pre23 _ ?_
            refine Jvm.RoadKit.acmp (g := (mkF m 29 #[.val (.ref a), .val (.ref b)] [(.ref w_INCONCLUSIVE), (.ref b)])) X22 hx rfl rfl rfl (pc0 := 29) (pc' := 32) (same := true) rfl (hb hby d2_29) rfl (decide_eq_true (congrArg Value.ref (hc24 : b = w_INCONCLUSIVE))) (by decide) (by decide) ?_
            exact k
          obtain ⟨T26, X26, e26, st26⟩ := getS2 X22 hx hZ hown (host := "") (Or.inl (hw _ (List.mem_of_getElem? (i := 15) rfl))) Via.refl e22 S_INCONCLUSIVE (g := (mkF m 32 #[.val (.ref a), .val (.ref b)] [])) rfl (hb hby d2_32)
          have hres : w_INCONCLUSIVE = r := (show (own_or a b w_FALSE w_INCONCLUSIVE w_TRUE) = w_INCONCLUSIVE from (by unfold own_or; rw [if_neg (hc3 : ¬ (a = w_TRUE)), if_neg (hc10 : ¬ (b = w_TRUE)), if_neg (hc17 : ¬ (a = w_INCONCLUSIVE)), if_pos (hc24 : b = w_INCONCLUSIVE)])).symm.trans hr
          obtain ⟨fs, hr27, hrun, hended, hW, hsame⟩ := X26.leave (v := some (.ref w_INCONCLUSIVE)) (fun h => by rw [Bd.returns] at h; cases h)
          refine ⟨_, _, pre25 _ ?_, hrun, hended, _, _, rfl, ?_, ⟨_, rfl⟩, hW, hsame.mono (by decide) (by decide)⟩
          · show Steps p.tables e below (T22.setTop (mkF m 32 #[.val (.ref a), .val (.ref b)] [])) _
            refine st26 _ ?_
            show Steps p.tables e below (T26.setTop (mkF m 35 #[.val (.ref a), .val (.ref b)] [(.ref w_INCONCLUSIVE)])) _
            refine XS.goto X26.here hx rfl (pc0 := 35) (pc' := 41) rfl (hb hby d2_35) (by decide) (by decide) ?_
            show Steps p.tables e below (T26.setTop (mkF m 41 #[.val (.ref a), .val (.ref b)] [(.ref w_INCONCLUSIVE)])) _
            exact retOut X26 hx Bd.returns rfl (Or.inr (Or.inr (Or.inr (Or.inr ⟨rfl, rfl, rfl⟩)))) (hb hby d2_41) hr27
          · show Q2 Z _ _ _ _ _ _ h0 n0 _ T26.heap _
            rw [e26]
            exact ⟨by rw [hres], N0, rfl⟩
        ·
          have pre28 : ∀ t, Steps p.tables e below (T22.setTop (mkF m 38 #[.val (.ref a), .val (.ref b)] [])) t → Steps p.tables e below (s₁.setTop (entryFrame m #[(.ref a), (.ref b)] 2)) t := by
            intro t k
            refine pre23 _ ?_
            refine Jvm.RoadKit.acmp (g := (mkF m 29 #[.val (.ref a), .val (.ref b)] [(.ref w_INCONCLUSIVE), (.ref b)])) X22 hx rfl rfl rfl (pc0 := 29) (pc' := 38) (same := false) rfl (hb hby d2_29) rfl (decide_eq_false fun q => (hc24 : ¬ (b = w_INCONCLUSIVE)) (Value.ref.inj q)) (by decide) (by decide) ?_
            exact k
          obtain ⟨T29, X29, e29, st29⟩ := getS2 X22 hx hZ hown (host := "") (Or.inl (hw _ (List.mem_of_getElem? (i := 17) rfl))) Via.refl e22 S_FALSE (g := (mkF m 38 #[.val (.ref a), .val (.ref b)] [])) rfl (hb hby d2_38)
          have hres : w_FALSE = r := (show (own_or a b w_FALSE w_INCONCLUSIVE w_TRUE) = w_FALSE from (by unfold own_or; rw [if_neg (hc3 : ¬ (a = w_TRUE)), if_neg (hc10 : ¬ (b = w_TRUE)), if_neg (hc17 : ¬ (a = w_INCONCLUSIVE)), if_neg (hc24 : ¬ (b = w_INCONCLUSIVE))])).symm.trans hr
          obtain ⟨fs, hr30, hrun, hended, hW, hsame⟩ := X29.leave (v := some (.ref w_FALSE)) (fun h => by rw [Bd.returns] at h; cases h)
          refine ⟨_, _, pre28 _ ?_, hrun, hended, _, _, rfl, ?_, ⟨_, rfl⟩, hW, hsame.mono (by decide) (by decide)⟩
          · show Steps p.tables e below (T22.setTop (mkF m 38 #[.val (.ref a), .val (.ref b)] [])) _
            refine st29 _ ?_
            show Steps p.tables e below (T29.setTop (mkF m 41 #[.val (.ref a), .val (.ref b)] [(.ref w_FALSE)])) _
            exact retOut X29 hx Bd.returns rfl (Or.inr (Or.inr (Or.inr (Or.inr ⟨rfl, rfl, rfl⟩)))) (hb hby d2_41) hr30
          · show Q2 Z _ _ _ _ _ _ h0 n0 _ T29.heap _
            rw [e29]
            exact ⟨by rw [hres], N0, rfl⟩
theorem d3_0 : decode jdk_29_method_65_code 0 = .ok (.iload_n 0, 1) := by decide +kernel
theorem d3_1 : decode jdk_29_method_65_code 1 = .ok (.iload_n 1, 1) := by decide +kernel
theorem d3_2 : decode jdk_29_method_65_code 2 = .ok (.if_icmp .lt 7, 3) := by decide +kernel
theorem d3_5 : decode jdk_29_method_65_code 5 = .ok (.iload_n 0, 1) := by decide +kernel
theorem d3_6 : decode jdk_29_method_65_code 6 = .ok (.goto 4, 3) := by decide +kernel
theorem d3_9 : decode jdk_29_method_65_code 9 = .ok (.iload_n 1, 1) := by decide +kernel
theorem d3_10 : decode jdk_29_method_65_code 10 = .ok (.ireturn, 1) := by decide +kernel
theorem ef_3 (m : MethodId) (x0 : Int32) (x1 : Int32) : entryFrame m #[(.int x0), (.int x1)] 2 = mkF m 0 #[.val (.int x0), .val (.int x1)] [] := by first | (simp [entryFrame, mkF, argsToLocals, Value.category]; done) | rfl
def Q3 (Z : State) (p1 : Int32) (p2 : Int32) (r : Int32) (h0 : Heap) (n0 : Nat) (v : Option Value) (h : Heap) (L : List Loc) : Prop := v = some (.int r) ∧ Fr n0 L ∧ h = h0
set_option maxRecDepth 65536 in
set_option maxHeartbeats 40000000 in
theorem rm3 (l : Launch) (Z : State) (a0 : Array Value) (hw : ∀ d ∈ tables_1, d.before a0 Z = true) (ws : List Jvm.Cond) (p1 : Int32) (p2 : Int32) (r : Int32) (h0 : Heap) (n0 : Nat) (hr : own_max p1 p2 = r) :
    MetFree l (⟨"java/lang/Math", "max", "(II)I"⟩ : MethodName) (head1 (Jvm.Cond.code (⟨"java/lang/Math", "max", "(II)I"⟩ : MethodName) jdk_29_method_65_code 2 (some .int) :: ws) ({ frames := 0, cells := 0, slots := 0, locals := 0 } : Room)) (fun ar0 U => ar0 = #[(.int p1), (.int p2)] ∧ Z.Warmed39 U.vm ∧ U.heap = h0) (fun _ _ _ _ _ => True) (fun _ U o U' => ∃ v L, o = .returned v ∧ Q3 Z p1 p2 r h0 n0 v U'.heap L ∧ FrameEnd U o U' L ({ frames := 0, cells := 0, slots := 0, locals := 0 } : Room).cells ({ frames := 0, cells := 0, slots := 0, locals := 0 } : Room).slots) := by
  refine MetFree.of_bodySF (Jvm.Free.JP.mathPlain rfl (by decide +kernel)) hisR ?_
  intro p e s m args below meth c s₁ Bd hml0 hP hK
  obtain ⟨rfl, hZ, hh⟩ := hP
  have hx := Bd.exec
  have hby := Bd.bytes
  have hml : c.maxLocals = 2 := hml0
  have hown : s.vm.findClass "java/lang/Math" = some m.cls := findClass_of_methodNamed Bd.named
  have X0 : Stand p l e ({ frames := 0, cells := 0, slots := 0, locals := 0 } : Room) s m #[(.int p1), (.int p2)] below meth c s₁ [] 0 0 := Stand.of_body Bd
  have e0 : s₁.heap = h0 := by rw [← hh, Bd.state]; rfl
  have N0 := Fr.nil n0
  have pre0 : ∀ t, Steps p.tables e below (s₁.setTop (mkF m 0 #[.val (.int p1), .val (.int p2)] [])) t → Steps p.tables e below (s₁.setTop (entryFrame m #[(.int p1), (.int p2)] 2)) t := fun t k => castTop (ef_3 m p1 p2) k
  have pre1 : ∀ t, Steps p.tables e below (s₁.setTop (mkF m 2 #[.val (.int p1), .val (.int p2)] [(.int p2), (.int p1)])) t → Steps p.tables e below (s₁.setTop (entryFrame m #[(.int p1), (.int p2)] 2)) t := by
    intro t k
    refine pre0 _ ?_
    show Steps p.tables e below (s₁.setTop (mkF m 0 #[.val (.int p1), .val (.int p2)] [])) _
    refine XS.iloadN X0.here hx rfl (hb hby d3_0) rfl ?_
    show Steps p.tables e below (s₁.setTop (mkF m 1 #[.val (.int p1), .val (.int p2)] [(.int p1)])) _
    refine XS.iloadN X0.here hx rfl (hb hby d3_1) rfl ?_
    show Steps p.tables e below (s₁.setTop (mkF m 2 #[.val (.int p1), .val (.int p2)] [(.int p2), (.int p1)])) _
    exact k
  by_cases hc2 : p1 < p2
  ·
    have pre3 : ∀ t, Steps p.tables e below (s₁.setTop (mkF m 9 #[.val (.int p1), .val (.int p2)] [])) t → Steps p.tables e below (s₁.setTop (entryFrame m #[(.int p1), (.int p2)] 2)) t := by
      intro t k
      refine pre1 _ ?_
      refine XS.icmpYes X0.here hx rfl (pc0 := 2) (pc' := 9) rfl (hb hby d3_2) rfl (tlt (hc2 : p1 < p2)).1 (by decide) (by decide) ?_
      exact k
    have hres : p2 = r := (show (own_max p1 p2) = p2 from (by unfold own_max; rw [if_pos (hc2 : p1 < p2)])).symm.trans hr
    obtain ⟨fs, hr4, hrun, hended, hW, hsame⟩ := X0.leave (v := some (.int p2)) (fun h => by rw [Bd.returns] at h; cases h)
    refine ⟨_, _, pre3 _ ?_, hrun, hended, _, _, rfl, ?_, ⟨_, rfl⟩, hW, hsame.mono (by decide) (by decide)⟩
    · show Steps p.tables e below (s₁.setTop (mkF m 9 #[.val (.int p1), .val (.int p2)] [])) _
      refine XS.iloadN X0.here hx rfl (hb hby d3_9) rfl ?_
      show Steps p.tables e below (s₁.setTop (mkF m 10 #[.val (.int p1), .val (.int p2)] [(.int p2)])) _
      exact retOut X0 hx Bd.returns rfl (Or.inl ⟨rfl, Or.inl rfl, _, rfl⟩) (hb hby d3_10) hr4
    · show Q3 Z _ _ _ h0 n0 _ s₁.heap _
      rw [e0]
      exact ⟨by rw [hres], N0, rfl⟩
  ·
    have pre5 : ∀ t, Steps p.tables e below (s₁.setTop (mkF m 5 #[.val (.int p1), .val (.int p2)] [])) t → Steps p.tables e below (s₁.setTop (entryFrame m #[(.int p1), (.int p2)] 2)) t := by
      intro t k
      refine pre1 _ ?_
      refine XS.icmpNo X0.here hx rfl (hb hby d3_2) rfl (flt (hc2 : ¬ (p1 < p2))).1 ?_
      exact k
    have hres : p1 = r := (show (own_max p1 p2) = p1 from (by unfold own_max; rw [if_neg (hc2 : ¬ (p1 < p2))])).symm.trans hr
    obtain ⟨fs, hr6, hrun, hended, hW, hsame⟩ := X0.leave (v := some (.int p1)) (fun h => by rw [Bd.returns] at h; cases h)
    refine ⟨_, _, pre5 _ ?_, hrun, hended, _, _, rfl, ?_, ⟨_, rfl⟩, hW, hsame.mono (by decide) (by decide)⟩
    · show Steps p.tables e below (s₁.setTop (mkF m 5 #[.val (.int p1), .val (.int p2)] [])) _
      refine XS.iloadN X0.here hx rfl (hb hby d3_5) rfl ?_
      show Steps p.tables e below (s₁.setTop (mkF m 6 #[.val (.int p1), .val (.int p2)] [(.int p1)])) _
      refine XS.goto X0.here hx rfl (pc0 := 6) (pc' := 10) rfl (hb hby d3_6) (by decide) (by decide) ?_
      show Steps p.tables e below (s₁.setTop (mkF m 10 #[.val (.int p1), .val (.int p2)] [(.int p1)])) _
      exact retOut X0 hx Bd.returns rfl (Or.inl ⟨rfl, Or.inl rfl, _, rfl⟩) (hb hby d3_10) hr6
    · show Q3 Z _ _ _ h0 n0 _ s₁.heap _
      rw [e0]
      exact ⟨by rw [hres], N0, rfl⟩
theorem pn_0 : plainName "com/example/gatewarden/gatewarden/policy/TruthOrPinLaw" = true := by first | (simp [plainName, overriddenIn]; done) | decide +kernel
theorem ef_0 (m : MethodId) (x0 : Int32) (x1 : Int32) : entryFrame m #[(.int x0), (.int x1)] maxLocals = mkF m 0 #[.val (.int x0), .val (.int x1), .unset, .unset, .unset, .unset, .unset] [] := by first | (simp [entryFrame, mkF, argsToLocals, Value.category, maxLocals]; done) | rfl
def Q0 (Z : State) (p1 : Int32) (p2 : Int32) (w_FALSE : Addr) (w_TRUE : Addr) (w_INCONCLUSIVE : Addr) (h0 : Heap) (n0 : Nat) (v : Option Value) (h : Heap) (L : List Loc) : Prop := v = some (.int (1 : Int32)) ∧ Fr n0 L
set_option maxRecDepth 65536 in
set_option maxHeartbeats 40000000 in
theorem rm0 (l : Launch) (Z : State) (a0 : Array Value) (hw : ∀ d ∈ tables_1, d.before a0 Z = true) (ws : List Jvm.Cond) (p1 : Int32) (p2 : Int32) (w_FALSE : Addr) (w_TRUE : Addr) (w_INCONCLUSIVE : Addr) (h0 : Heap) (n0 : Nat) (S_FALSE : Sta Z h0 "com/example/gatewarden/gatewarden/policy/Truth" "FALSE" "Lcom/example/gatewarden/gatewarden/policy/Truth;" (.ref w_FALSE)) (S_TRUE : Sta Z h0 "com/example/gatewarden/gatewarden/policy/Truth" "TRUE" "Lcom/example/gatewarden/gatewarden/policy/Truth;" (.ref w_TRUE)) (S_INCONCLUSIVE : Sta Z h0 "com/example/gatewarden/gatewarden/policy/Truth" "INCONCLUSIVE" "Lcom/example/gatewarden/gatewarden/policy/Truth;" (.ref w_INCONCLUSIVE)) (E_FALSE : Exa Z h0 w_FALSE "com/example/gatewarden/gatewarden/policy/Truth") (E_TRUE : Exa Z h0 w_TRUE "com/example/gatewarden/gatewarden/policy/Truth") (E_INCONCLUSIVE : Exa Z h0 w_INCONCLUSIVE "com/example/gatewarden/gatewarden/policy/Truth") (O_FALSE : Fld Z h0 w_FALSE "java/lang/Enum" "ordinal" "I" (.int (1 : Int32))) (O_TRUE : Fld Z h0 w_TRUE "java/lang/Enum" "ordinal" "I" (.int (0 : Int32))) (O_INCONCLUSIVE : Fld Z h0 w_INCONCLUSIVE "java/lang/Enum" "ordinal" "I" (.int (2 : Int32))) :
    MetFree l x (head1 (Jvm.Cond.code x code maxLocals ret :: ws) room_1) (fun ar0 U => ar0 = #[(.int p1), (.int p2)] ∧ Z.Warmed39 U.vm ∧ U.heap = h0) (fun _ _ _ _ _ => True) (fun _ U o U' => ∃ v L, o = .returned v ∧ Q0 Z p1 p2 w_FALSE w_TRUE w_INCONCLUSIVE h0 n0 v U'.heap L ∧ FrameEnd U o U' L room_1.cells room_1.slots) := by
  refine MetFree.of_bodySF (plainFor_of_name pn_0) hisR ?_
  intro p e s m args below meth c s₁ Bd hml0 hP hK
  obtain ⟨rfl, hZ, hh⟩ := hP
  have hx := Bd.exec
  have hby := Bd.bytes
  have hml : c.maxLocals = 7 := hml0
  have hown : s.vm.findClass "com/example/gatewarden/gatewarden/policy/TruthOrPinLaw" = some m.cls := findClass_of_methodNamed Bd.named
  have X0 : Stand p l e room_1 s m #[(.int p1), (.int p2)] below meth c s₁ [] 0 0 := Stand.of_body Bd
  have e0 : s₁.heap = h0 := by rw [← hh, Bd.state]; rfl
  have N0 := Fr.nil n0
  have pre0 : ∀ t, Steps p.tables e below (s₁.setTop (mkF m 0 #[.val (.int p1), .val (.int p2), .unset, .unset, .unset, .unset, .unset] [])) t → Steps p.tables e below (s₁.setTop (entryFrame m #[(.int p1), (.int p2)] maxLocals)) t := fun t k => castTop (ef_0 m p1 p2) k
  have pre1 : ∀ t, Steps p.tables e below (s₁.setTop (mkF m 14 #[.val (.int p1), .val (.int p2), .val (.int ((p1 &&& (2147483647 : Int32)) % (3 : Int32))), .val (.int ((p2 &&& (2147483647 : Int32)) % (3 : Int32))), .unset, .unset, .unset] [])) t → Steps p.tables e below (s₁.setTop (entryFrame m #[(.int p1), (.int p2)] maxLocals)) t := by
    intro t k
    refine pre0 _ ?_
    show Steps p.tables e below (s₁.setTop (mkF m 0 #[.val (.int p1), .val (.int p2), .unset, .unset, .unset, .unset, .unset] [])) _
    refine XS.iloadN X0.here hx rfl (hb hby at_0) rfl ?_
    show Steps p.tables e below (s₁.setTop (mkF m 1 #[.val (.int p1), .val (.int p2), .unset, .unset, .unset, .unset, .unset] [(.int p1)])) _
    refine X0.ldcI hx hown (mvT hZ (hw _ (List.mem_of_getElem? (i := 0) rfl))) rfl (hb hby at_1) ?_
    show Steps p.tables e below (s₁.setTop (mkF m 3 #[.val (.int p1), .val (.int p2), .unset, .unset, .unset, .unset, .unset] [(.int (2147483647 : Int32)), (.int p1)])) _
    refine XS.iand X0.here hx rfl (hb hby at_3) rfl ?_
    show Steps p.tables e below (s₁.setTop (mkF m 4 #[.val (.int p1), .val (.int p2), .unset, .unset, .unset, .unset, .unset] [(.int (p1 &&& (2147483647 : Int32)))])) _
    refine XT.iconstV X0.here hx rfl (3 : Int32) (hb hby at_4) (by decide) ?_
    show Steps p.tables e below (s₁.setTop (mkF m 5 #[.val (.int p1), .val (.int p2), .unset, .unset, .unset, .unset, .unset] [(.int (3 : Int32)), (.int (p1 &&& (2147483647 : Int32)))])) _
    refine iremM X0 hx rfl (hb hby at_5) rfl (by decide) ?_
    show Steps p.tables e below (s₁.setTop (mkF m 6 #[.val (.int p1), .val (.int p2), .unset, .unset, .unset, .unset, .unset] [(.int ((p1 &&& (2147483647 : Int32)) % (3 : Int32)))])) _
    refine XS.istoreN X0.here hx rfl (hb hby at_6) rfl (l' := #[.val (.int p1), .val (.int p2), .val (.int ((p1 &&& (2147483647 : Int32)) % (3 : Int32))), .unset, .unset, .unset, .unset]) rfl ?_
    show Steps p.tables e below (s₁.setTop (mkF m 7 #[.val (.int p1), .val (.int p2), .val (.int ((p1 &&& (2147483647 : Int32)) % (3 : Int32))), .unset, .unset, .unset, .unset] [])) _
    refine XS.iloadN X0.here hx rfl (hb hby at_7) rfl ?_
    show Steps p.tables e below (s₁.setTop (mkF m 8 #[.val (.int p1), .val (.int p2), .val (.int ((p1 &&& (2147483647 : Int32)) % (3 : Int32))), .unset, .unset, .unset, .unset] [(.int p2)])) _
    refine X0.ldcI hx hown (mvT hZ (hw _ (List.mem_of_getElem? (i := 0) rfl))) rfl (hb hby at_8) ?_
    show Steps p.tables e below (s₁.setTop (mkF m 10 #[.val (.int p1), .val (.int p2), .val (.int ((p1 &&& (2147483647 : Int32)) % (3 : Int32))), .unset, .unset, .unset, .unset] [(.int (2147483647 : Int32)), (.int p2)])) _
    refine XS.iand X0.here hx rfl (hb hby at_10) rfl ?_
    show Steps p.tables e below (s₁.setTop (mkF m 11 #[.val (.int p1), .val (.int p2), .val (.int ((p1 &&& (2147483647 : Int32)) % (3 : Int32))), .unset, .unset, .unset, .unset] [(.int (p2 &&& (2147483647 : Int32)))])) _
    refine XT.iconstV X0.here hx rfl (3 : Int32) (hb hby at_11) (by decide) ?_
    show Steps p.tables e below (s₁.setTop (mkF m 12 #[.val (.int p1), .val (.int p2), .val (.int ((p1 &&& (2147483647 : Int32)) % (3 : Int32))), .unset, .unset, .unset, .unset] [(.int (3 : Int32)), (.int (p2 &&& (2147483647 : Int32)))])) _
    refine iremM X0 hx rfl (hb hby at_12) rfl (by decide) ?_
    show Steps p.tables e below (s₁.setTop (mkF m 13 #[.val (.int p1), .val (.int p2), .val (.int ((p1 &&& (2147483647 : Int32)) % (3 : Int32))), .unset, .unset, .unset, .unset] [(.int ((p2 &&& (2147483647 : Int32)) % (3 : Int32)))])) _
    refine XS.istoreN X0.here hx rfl (hb hby at_13) rfl (l' := #[.val (.int p1), .val (.int p2), .val (.int ((p1 &&& (2147483647 : Int32)) % (3 : Int32))), .val (.int ((p2 &&& (2147483647 : Int32)) % (3 : Int32))), .unset, .unset, .unset]) rfl ?_
    show Steps p.tables e below (s₁.setTop (mkF m 14 #[.val (.int p1), .val (.int p2), .val (.int ((p1 &&& (2147483647 : Int32)) % (3 : Int32))), .val (.int ((p2 &&& (2147483647 : Int32)) % (3 : Int32))), .unset, .unset, .unset] [])) _
    exact k
  rcases (own_rem3 p1) with hv2 | hv2 | hv2
  ·
    rw [hv2] at pre1
    rcases (own_rem3 p2) with hv3 | hv3 | hv3
    ·
      rw [hv3] at pre1
      obtain ⟨_, _, ⟨T4, L4, k4, n4⟩, -, X4, ⟨Lc4, hQ4, l4, y4, z4⟩, st4⟩ := Jvm.LawKit.callS X0 hx (y := (⟨"com/example/gatewarden/gatewarden/policy/TruthOrPinLaw", "pick", "(I)Lcom/example/gatewarden/gatewarden/policy/Truth;"⟩ : MethodName)) hown (mvT hZ (hw _ (List.mem_of_getElem? (i := 1) rfl))) (mvT hZ (hw _ (List.mem_of_getElem? (i := 2) rfl))) (mvT hZ (hw _ (List.mem_of_getElem? (i := 3) rfl))) (mvT hZ (hw _ (List.mem_of_getElem? (i := 4) rfl))) (by decide) (backOf (W := 0) (rm1 l Z a0 hw [] (0 : Int32) w_FALSE w_INCONCLUSIVE w_TRUE w_FALSE h0 n0 S_FALSE S_INCONCLUSIVE S_TRUE (by unfold own_pick; rw [if_pos (rfl : (0 : Int32) = (0 : Int32))])) hZ (hw _ (List.mem_of_getElem? (i := 4) rfl)) (hw _ (List.mem_of_getElem? (i := 3) rfl)) (by decide) (by decide)) (g := (mkF m 15 #[.val (.int p1), .val (.int p2), .val (.int (0 : Int32)), .val (.int (0 : Int32)), .unset, .unset, .unset] [(.int (0 : Int32))])) rfl (by rw [hml]; rfl) (argsL := [(.int (0 : Int32))]) (rest := []) (lenOf (show parseMethodDescriptor "(I)Lcom/example/gatewarden/gatewarden/policy/Truth;" = some ⟨[.int], some (.object "com/example/gatewarden/gatewarden/policy/Truth")⟩ by decide +kernel) rfl) rfl (by show 2 * 0 + _ ≤ _; exact Nat.le_of_eq rfl) (hb hby at_15) (fun _ _ => ⟨rfl, e0, (by decide : 0 + 0 ≤ _), (by decide : 0 + 0 ≤ _)⟩)
      dsimp only [Pt.U, Pt.locs, Pt.cells, Pt.slots] at X4 l4 y4 z4 st4 hQ4
      subst l4 y4 z4
      obtain ⟨rfl, Nq4, e4⟩ := hQ4
      have N4 := Fr.app N0 Nq4
      obtain ⟨_, _, ⟨T5, L5, k5, n5⟩, -, X5, ⟨Lc5, hQ5, l5, y5, z5⟩, st5⟩ := Jvm.LawKit.callS X4 hx (y := (⟨"com/example/gatewarden/gatewarden/policy/TruthOrPinLaw", "pick", "(I)Lcom/example/gatewarden/gatewarden/policy/Truth;"⟩ : MethodName)) hown (mvT hZ (hw _ (List.mem_of_getElem? (i := 1) rfl))) (mvT hZ (hw _ (List.mem_of_getElem? (i := 2) rfl))) (mvT hZ (hw _ (List.mem_of_getElem? (i := 3) rfl))) (mvT hZ (hw _ (List.mem_of_getElem? (i := 4) rfl))) (by decide) (backOf (W := 0) (rm1 l Z a0 hw [] (0 : Int32) w_FALSE w_INCONCLUSIVE w_TRUE w_FALSE h0 n0 S_FALSE S_INCONCLUSIVE S_TRUE (by unfold own_pick; rw [if_pos (rfl : (0 : Int32) = (0 : Int32))])) hZ (hw _ (List.mem_of_getElem? (i := 4) rfl)) (hw _ (List.mem_of_getElem? (i := 3) rfl)) (by decide) (by decide)) (g := (mkF m 21 #[.val (.int p1), .val (.int p2), .val (.int (0 : Int32)), .val (.int (0 : Int32)), .val (.ref w_FALSE), .unset, .unset] [(.int (0 : Int32))])) rfl (by rw [hml]; rfl) (argsL := [(.int (0 : Int32))]) (rest := []) (lenOf (show parseMethodDescriptor "(I)Lcom/example/gatewarden/gatewarden/policy/Truth;" = some ⟨[.int], some (.object "com/example/gatewarden/gatewarden/policy/Truth")⟩ by decide +kernel) rfl) rfl (by show 2 * 0 + _ ≤ _; exact Nat.le_of_eq rfl) (hb hby at_21) (fun _ _ => ⟨rfl, e4, (by decide : 0 + 0 ≤ _), (by decide : 0 + 0 ≤ _)⟩)
      dsimp only [Pt.U, Pt.locs, Pt.cells, Pt.slots] at X5 l5 y5 z5 st5 hQ5
      subst l5 y5 z5
      obtain ⟨rfl, Nq5, e5⟩ := hQ5
      have N5 := Fr.app N4 Nq5
      obtain ⟨cq7, kq7, q7a, q7b, q7c⟩ := isOf hZ e5 E_FALSE
      obtain ⟨_, _, ⟨T6, L6, k6, n6⟩, -, X6, ⟨Lc6, hQ6, l6, y6, z6⟩, st6⟩ := X5.virtualBack hx (y := (⟨"com/example/gatewarden/gatewarden/policy/Truth", "or", "(Lcom/example/gatewarden/gatewarden/policy/Truth;)Lcom/example/gatewarden/gatewarden/policy/Truth;"⟩ : MethodName)) (z := (⟨"com/example/gatewarden/gatewarden/policy/Truth", "or", "(Lcom/example/gatewarden/gatewarden/policy/Truth;)Lcom/example/gatewarden/gatewarden/policy/Truth;"⟩ : MethodName)) hown (mvT hZ (hw _ (List.mem_of_getElem? (i := 8) rfl))) (mvT hZ (hw _ (List.mem_of_getElem? (i := 9) rfl))) (notFace_of_selects (args := #[]) (mvT hZ (hw _ (List.mem_of_getElem? (i := 11) rfl)))) (mvT hZ (hw _ (List.mem_of_getElem? (i := 11) rfl))) (mvT hZ (hw _ (List.mem_of_getElem? (i := 10) rfl))) (by decide) (backOf (W := 0) (rm2 l Z a0 hw [] w_FALSE w_FALSE w_FALSE w_INCONCLUSIVE w_TRUE w_FALSE h0 n0 S_FALSE S_INCONCLUSIVE S_TRUE (by unfold own_or; rw [if_neg ((Fld.ne O_FALSE O_TRUE (fun q => absurd (Value.int.inj q) (by decide))) : ¬ (w_FALSE = w_TRUE)), if_neg ((Fld.ne O_FALSE O_TRUE (fun q => absurd (Value.int.inj q) (by decide))) : ¬ (w_FALSE = w_TRUE)), if_neg ((Fld.ne O_FALSE O_INCONCLUSIVE (fun q => absurd (Value.int.inj q) (by decide))) : ¬ (w_FALSE = w_INCONCLUSIVE)), if_neg ((Fld.ne O_FALSE O_INCONCLUSIVE (fun q => absurd (Value.int.inj q) (by decide))) : ¬ (w_FALSE = w_INCONCLUSIVE))])) hZ (hw _ (List.mem_of_getElem? (i := 12) rfl)) (hw _ (List.mem_of_getElem? (i := 6) rfl)) (by decide) (by decide)) q7a q7c (g := (mkF m 30 #[.val (.int p1), .val (.int p2), .val (.int (0 : Int32)), .val (.int (0 : Int32)), .val (.ref w_FALSE), .val (.ref w_FALSE), .unset] [(.ref w_FALSE), (.ref w_FALSE)])) rfl (by rw [hml]; rfl) (Steps.refl _) (argsL := [(.ref w_FALSE)]) (rest := []) (lenOf (show parseMethodDescriptor "(Lcom/example/gatewarden/gatewarden/policy/Truth;)Lcom/example/gatewarden/gatewarden/policy/Truth;" = some ⟨[.object "com/example/gatewarden/gatewarden/policy/Truth"], some (.object "com/example/gatewarden/gatewarden/policy/Truth")⟩ by decide +kernel) rfl) rfl (by show 2 * 0 + _ ≤ _; exact Nat.le_of_eq rfl) (hb hby at_30) (fun _ _ => ⟨rfl, e5, (by decide : 0 + 0 ≤ _), (by decide : 0 + 0 ≤ _)⟩)
      dsimp only [Pt.U, Pt.locs, Pt.cells, Pt.slots] at X6 l6 y6 z6 st6 hQ6
      subst l6 y6 z6
      obtain ⟨rfl, Nq6, e6⟩ := hQ6
      have N6 := Fr.app N5 Nq6
      obtain ⟨_, _, ⟨T8, L8, k8, n8⟩, -, X8, ⟨Lc8, hQ8, l8, y8, z8⟩, st8⟩ := Jvm.LawKit.callS X6 hx (y := (⟨"java/lang/Math", "max", "(II)I"⟩ : MethodName)) hown (mvT hZ (hw _ (List.mem_of_getElem? (i := 18) rfl))) (mvT hZ (hw _ (List.mem_of_getElem? (i := 19) rfl))) (mvT hZ (hw _ (List.mem_of_getElem? (i := 20) rfl))) (mvT hZ (hw _ (List.mem_of_getElem? (i := 21) rfl))) (by decide) (backOf (W := 1) (rm3 l Z a0 hw [] (0 : Int32) (0 : Int32) (0 : Int32) h0 n0 (by unfold own_max; rw [if_neg ((by decide) : ¬ ((0 : Int32) < (0 : Int32)))])) hZ (hw _ (List.mem_of_getElem? (i := 21) rfl)) (hw _ (List.mem_of_getElem? (i := 20) rfl)) (by decide) (by decide)) (g := (mkF m 39 #[.val (.int p1), .val (.int p2), .val (.int (0 : Int32)), .val (.int (0 : Int32)), .val (.ref w_FALSE), .val (.ref w_FALSE), .val (.ref w_FALSE)] [(.int (0 : Int32)), (.int (0 : Int32)), (.ref w_FALSE)])) rfl (by rw [hml]; rfl) (argsL := [(.int (0 : Int32)), (.int (0 : Int32))]) (rest := [(.ref w_FALSE)]) (lenOf (show parseMethodDescriptor "(II)I" = some ⟨[.int, .int], some .int⟩ by decide +kernel) rfl) rfl (by show 2 * 0 + _ ≤ _; exact Nat.le_of_eq rfl) (hb hby at_39) (fun _ _ => ⟨rfl, e6, (by decide : 0 + 0 ≤ _), (by decide : 0 + 0 ≤ _)⟩)
      dsimp only [Pt.U, Pt.locs, Pt.cells, Pt.slots] at X8 l8 y8 z8 st8 hQ8
      subst l8 y8 z8
      obtain ⟨rfl, Nq8, e8⟩ := hQ8
      have N8 := Fr.app N6 Nq8
      obtain ⟨_, _, ⟨T9, L9, k9, n9⟩, -, X9, ⟨Lc9, hQ9, l9, y9, z9⟩, st9⟩ := Jvm.LawKit.callS X8 hx (y := (⟨"com/example/gatewarden/gatewarden/policy/TruthOrPinLaw", "pick", "(I)Lcom/example/gatewarden/gatewarden/policy/Truth;"⟩ : MethodName)) hown (mvT hZ (hw _ (List.mem_of_getElem? (i := 1) rfl))) (mvT hZ (hw _ (List.mem_of_getElem? (i := 2) rfl))) (mvT hZ (hw _ (List.mem_of_getElem? (i := 3) rfl))) (mvT hZ (hw _ (List.mem_of_getElem? (i := 4) rfl))) (by decide) (backOf (W := 1) (rm1 l Z a0 hw [] (0 : Int32) w_FALSE w_INCONCLUSIVE w_TRUE w_FALSE h0 n0 S_FALSE S_INCONCLUSIVE S_TRUE (by unfold own_pick; rw [if_pos (rfl : (0 : Int32) = (0 : Int32))])) hZ (hw _ (List.mem_of_getElem? (i := 4) rfl)) (hw _ (List.mem_of_getElem? (i := 3) rfl)) (by decide) (by decide)) (g := (mkF m 42 #[.val (.int p1), .val (.int p2), .val (.int (0 : Int32)), .val (.int (0 : Int32)), .val (.ref w_FALSE), .val (.ref w_FALSE), .val (.ref w_FALSE)] [(.int (0 : Int32)), (.ref w_FALSE)])) rfl (by rw [hml]; rfl) (argsL := [(.int (0 : Int32))]) (rest := [(.ref w_FALSE)]) (lenOf (show parseMethodDescriptor "(I)Lcom/example/gatewarden/gatewarden/policy/Truth;" = some ⟨[.int], some (.object "com/example/gatewarden/gatewarden/policy/Truth")⟩ by decide +kernel) rfl) rfl (by show 2 * 0 + _ ≤ _; exact Nat.le_of_eq rfl) (hb hby at_42) (fun _ _ => ⟨rfl, e8, (by decide : 0 + 0 ≤ _), (by decide : 0 + 0 ≤ _)⟩)
      dsimp only [Pt.U, Pt.locs, Pt.cells, Pt.slots] at X9 l9 y9 z9 st9 hQ9
      subst l9 y9 z9
      obtain ⟨rfl, Nq9, e9⟩ := hQ9
      have N9 := Fr.app N8 Nq9
      obtain ⟨fs, hr10, hrun, hended, hW, hsame⟩ := X9.leave (v := some (.int (1 : Int32))) (fun h => by rw [Bd.returns] at h; cases h)
      refine ⟨_, _, pre1 _ ?_, hrun, hended, _, _, rfl, ?_, ⟨_, rfl⟩, hW, hsame.mono (by decide) (by decide)⟩
      · show Steps p.tables e below (s₁.setTop (mkF m 14 #[.val (.int p1), .val (.int p2), .val (.int (0 : Int32)), .val (.int (0 : Int32)), .unset, .unset, .unset] [])) _
        refine XS.iloadN X0.here hx rfl (hb hby at_14) rfl ?_
        show Steps p.tables e below (s₁.setTop (mkF m 15 #[.val (.int p1), .val (.int p2), .val (.int (0 : Int32)), .val (.int (0 : Int32)), .unset, .unset, .unset] [(.int (0 : Int32))])) _
        refine st4 _ ?_
        show Steps p.tables e below (T4.setTop (mkF m 18 #[.val (.int p1), .val (.int p2), .val (.int (0 : Int32)), .val (.int (0 : Int32)), .unset, .unset, .unset] [(.ref w_FALSE)])) _
        refine XS.astore X4.here hx rfl (hb hby at_18) rfl rfl (l' := #[.val (.int p1), .val (.int p2), .val (.int (0 : Int32)), .val (.int (0 : Int32)), .val (.ref w_FALSE), .unset, .unset]) rfl ?_
        show Steps p.tables e below (T4.setTop (mkF m 20 #[.val (.int p1), .val (.int p2), .val (.int (0 : Int32)), .val (.int (0 : Int32)), .val (.ref w_FALSE), .unset, .unset] [])) _
        refine XS.iloadN X4.here hx rfl (hb hby at_20) rfl ?_
        show Steps p.tables e below (T4.setTop (mkF m 21 #[.val (.int p1), .val (.int p2), .val (.int (0 : Int32)), .val (.int (0 : Int32)), .val (.ref w_FALSE), .unset, .unset] [(.int (0 : Int32))])) _
        refine st5 _ ?_
        show Steps p.tables e below (T5.setTop (mkF m 24 #[.val (.int p1), .val (.int p2), .val (.int (0 : Int32)), .val (.int (0 : Int32)), .val (.ref w_FALSE), .unset, .unset] [(.ref w_FALSE)])) _
        refine XS.astore X5.here hx rfl (hb hby at_24) rfl rfl (l' := #[.val (.int p1), .val (.int p2), .val (.int (0 : Int32)), .val (.int (0 : Int32)), .val (.ref w_FALSE), .val (.ref w_FALSE), .unset]) rfl ?_
        show Steps p.tables e below (T5.setTop (mkF m 26 #[.val (.int p1), .val (.int p2), .val (.int (0 : Int32)), .val (.int (0 : Int32)), .val (.ref w_FALSE), .val (.ref w_FALSE), .unset] [])) _
        refine XS.aload X5.here hx rfl (hb hby at_26) rfl rfl ?_
        show Steps p.tables e below (T5.setTop (mkF m 28 #[.val (.int p1), .val (.int p2), .val (.int (0 : Int32)), .val (.int (0 : Int32)), .val (.ref w_FALSE), .val (.ref w_FALSE), .unset] [(.ref w_FALSE)])) _
        refine XS.aload X5.here hx rfl (hb hby at_28) rfl rfl ?_
        show Steps p.tables e below (T5.setTop (mkF m 30 #[.val (.int p1), .val (.int p2), .val (.int (0 : Int32)), .val (.int (0 : Int32)), .val (.ref w_FALSE), .val (.ref w_FALSE), .unset] [(.ref w_FALSE), (.ref w_FALSE)])) _
        refine st6.trans ?_
        show Steps p.tables e below (T6.setTop (mkF m 33 #[.val (.int p1), .val (.int p2), .val (.int (0 : Int32)), .val (.int (0 : Int32)), .val (.ref w_FALSE), .val (.ref w_FALSE), .unset] [(.ref w_FALSE)])) _
        refine XS.astore X6.here hx rfl (hb hby at_33) rfl rfl (l' := #[.val (.int p1), .val (.int p2), .val (.int (0 : Int32)), .val (.int (0 : Int32)), .val (.ref w_FALSE), .val (.ref w_FALSE), .val (.ref w_FALSE)]) rfl ?_
        show Steps p.tables e below (T6.setTop (mkF m 35 #[.val (.int p1), .val (.int p2), .val (.int (0 : Int32)), .val (.int (0 : Int32)), .val (.ref w_FALSE), .val (.ref w_FALSE), .val (.ref w_FALSE)] [])) _
        refine XS.aload X6.here hx rfl (hb hby at_35) rfl rfl ?_
        show Steps p.tables e below (T6.setTop (mkF m 37 #[.val (.int p1), .val (.int p2), .val (.int (0 : Int32)), .val (.int (0 : Int32)), .val (.ref w_FALSE), .val (.ref w_FALSE), .val (.ref w_FALSE)] [(.ref w_FALSE)])) _
        refine XS.iloadN X6.here hx rfl (hb hby at_37) rfl ?_
        show Steps p.tables e below (T6.setTop (mkF m 38 #[.val (.int p1), .val (.int p2), .val (.int (0 : Int32)), .val (.int (0 : Int32)), .val (.ref w_FALSE), .val (.ref w_FALSE), .val (.ref w_FALSE)] [(.int (0 : Int32)), (.ref w_FALSE)])) _
        refine XS.iloadN X6.here hx rfl (hb hby at_38) rfl ?_
        show Steps p.tables e below (T6.setTop (mkF m 39 #[.val (.int p1), .val (.int p2), .val (.int (0 : Int32)), .val (.int (0 : Int32)), .val (.ref w_FALSE), .val (.ref w_FALSE), .val (.ref w_FALSE)] [(.int (0 : Int32)), (.int (0 : Int32)), (.ref w_FALSE)])) _
        refine st8 _ ?_
        show Steps p.tables e below (T8.setTop (mkF m 42 #[.val (.int p1), .val (.int p2), .val (.int (0 : Int32)), .val (.int (0 : Int32)), .val (.ref w_FALSE), .val (.ref w_FALSE), .val (.ref w_FALSE)] [(.int (0 : Int32)), (.ref w_FALSE)])) _
        refine st9 _ ?_
        show Steps p.tables e below (T9.setTop (mkF m 45 #[.val (.int p1), .val (.int p2), .val (.int (0 : Int32)), .val (.int (0 : Int32)), .val (.ref w_FALSE), .val (.ref w_FALSE), .val (.ref w_FALSE)] [(.ref w_FALSE), (.ref w_FALSE)])) _
        refine Jvm.RoadKit.acmp (g := (mkF m 45 #[.val (.int p1), .val (.int p2), .val (.int (0 : Int32)), .val (.int (0 : Int32)), .val (.ref w_FALSE), .val (.ref w_FALSE), .val (.ref w_FALSE)] [(.ref w_FALSE), (.ref w_FALSE)])) X9 hx rfl rfl rfl (pc0 := 45) (pc' := 48) (same := true) rfl (hb hby at_45) rfl (decide_eq_true (congrArg Value.ref (rfl : w_FALSE = w_FALSE))) (by decide) (by decide) ?_
        show Steps p.tables e below (T9.setTop (mkF m 48 #[.val (.int p1), .val (.int p2), .val (.int (0 : Int32)), .val (.int (0 : Int32)), .val (.ref w_FALSE), .val (.ref w_FALSE), .val (.ref w_FALSE)] [])) _
        refine XT.iconstV X9.here hx rfl (1 : Int32) (hb hby at_48) (by decide) ?_
        show Steps p.tables e below (T9.setTop (mkF m 49 #[.val (.int p1), .val (.int p2), .val (.int (0 : Int32)), .val (.int (0 : Int32)), .val (.ref w_FALSE), .val (.ref w_FALSE), .val (.ref w_FALSE)] [(.int (1 : Int32))])) _
        refine XS.goto X9.here hx rfl (pc0 := 49) (pc' := 53) rfl (hb hby at_49) (by decide) (by decide) ?_
        show Steps p.tables e below (T9.setTop (mkF m 53 #[.val (.int p1), .val (.int p2), .val (.int (0 : Int32)), .val (.int (0 : Int32)), .val (.ref w_FALSE), .val (.ref w_FALSE), .val (.ref w_FALSE)] [(.int (1 : Int32))])) _
        exact retN X9 hx (t := .boolean) Bd.returns (by simp) (hb hby at_53) hr10
      · show Q0 Z _ _ _ _ _ h0 n0 _ T9.heap _
        rw [e9]
        exact ⟨rfl, N9⟩
    ·
      rw [hv3] at pre1
      obtain ⟨_, _, ⟨T11, L11, k11, n11⟩, -, X11, ⟨Lc11, hQ11, l11, y11, z11⟩, st11⟩ := Jvm.LawKit.callS X0 hx (y := (⟨"com/example/gatewarden/gatewarden/policy/TruthOrPinLaw", "pick", "(I)Lcom/example/gatewarden/gatewarden/policy/Truth;"⟩ : MethodName)) hown (mvT hZ (hw _ (List.mem_of_getElem? (i := 1) rfl))) (mvT hZ (hw _ (List.mem_of_getElem? (i := 2) rfl))) (mvT hZ (hw _ (List.mem_of_getElem? (i := 3) rfl))) (mvT hZ (hw _ (List.mem_of_getElem? (i := 4) rfl))) (by decide) (backOf (W := 0) (rm1 l Z a0 hw [] (0 : Int32) w_FALSE w_INCONCLUSIVE w_TRUE w_FALSE h0 n0 S_FALSE S_INCONCLUSIVE S_TRUE (by unfold own_pick; rw [if_pos (rfl : (0 : Int32) = (0 : Int32))])) hZ (hw _ (List.mem_of_getElem? (i := 4) rfl)) (hw _ (List.mem_of_getElem? (i := 3) rfl)) (by decide) (by decide)) (g := (mkF m 15 #[.val (.int p1), .val (.int p2), .val (.int (0 : Int32)), .val (.int (1 : Int32)), .unset, .unset, .unset] [(.int (0 : Int32))])) rfl (by rw [hml]; rfl) (argsL := [(.int (0 : Int32))]) (rest := []) (lenOf (show parseMethodDescriptor "(I)Lcom/example/gatewarden/gatewarden/policy/Truth;" = some ⟨[.int], some (.object "com/example/gatewarden/gatewarden/policy/Truth")⟩ by decide +kernel) rfl) rfl (by show 2 * 0 + _ ≤ _; exact Nat.le_of_eq rfl) (hb hby at_15) (fun _ _ => ⟨rfl, e0, (by decide : 0 + 0 ≤ _), (by decide : 0 + 0 ≤ _)⟩)
      dsimp only [Pt.U, Pt.locs, Pt.cells, Pt.slots] at X11 l11 y11 z11 st11 hQ11
      subst l11 y11 z11
      obtain ⟨rfl, Nq11, e11⟩ := hQ11
      have N11 := Fr.app N0 Nq11
      obtain ⟨_, _, ⟨T12, L12, k12, n12⟩, -, X12, ⟨Lc12, hQ12, l12, y12, z12⟩, st12⟩ := Jvm.LawKit.callS X11 hx (y := (⟨"com/example/gatewarden/gatewarden/policy/TruthOrPinLaw", "pick", "(I)Lcom/example/gatewarden/gatewarden/policy/Truth;"⟩ : MethodName)) hown (mvT hZ (hw _ (List.mem_of_getElem? (i := 1) rfl))) (mvT hZ (hw _ (List.mem_of_getElem? (i := 2) rfl))) (mvT hZ (hw _ (List.mem_of_getElem? (i := 3) rfl))) (mvT hZ (hw _ (List.mem_of_getElem? (i := 4) rfl))) (by decide) (backOf (W := 0) (rm1 l Z a0 hw [] (1 : Int32) w_FALSE w_INCONCLUSIVE w_TRUE w_INCONCLUSIVE h0 n0 S_FALSE S_INCONCLUSIVE S_TRUE (by unfold own_pick; rw [if_neg ((by decide) : ¬ ((1 : Int32) = (0 : Int32))), if_pos (rfl : (1 : Int32) = (1 : Int32))])) hZ (hw _ (List.mem_of_getElem? (i := 4) rfl)) (hw _ (List.mem_of_getElem? (i := 3) rfl)) (by decide) (by decide)) (g := (mkF m 21 #[.val (.int p1), .val (.int p2), .val (.int (0 : Int32)), .val (.int (1 : Int32)), .val (.ref w_FALSE), .unset, .unset] [(.int (1 : Int32))])) rfl (by rw [hml]; rfl) (argsL := [(.int (1 : Int32))]) (rest := []) (lenOf (show parseMethodDescriptor "(I)Lcom/example/gatewarden/gatewarden/policy/Truth;" = some ⟨[.int], some (.object "com/example/gatewarden/gatewarden/policy/Truth")⟩ by decide +kernel) rfl) rfl (by show 2 * 0 + _ ≤ _; exact Nat.le_of_eq rfl) (hb hby at_21) (fun _ _ => ⟨rfl, e11, (by decide : 0 + 0 ≤ _), (by decide : 0 + 0 ≤ _)⟩)
      dsimp only [Pt.U, Pt.locs, Pt.cells, Pt.slots] at X12 l12 y12 z12 st12 hQ12
      subst l12 y12 z12
      obtain ⟨rfl, Nq12, e12⟩ := hQ12
      have N12 := Fr.app N11 Nq12
      obtain ⟨cq14, kq14, q14a, q14b, q14c⟩ := isOf hZ e12 E_FALSE
      obtain ⟨_, _, ⟨T13, L13, k13, n13⟩, -, X13, ⟨Lc13, hQ13, l13, y13, z13⟩, st13⟩ := X12.virtualBack hx (y := (⟨"com/example/gatewarden/gatewarden/policy/Truth", "or", "(Lcom/example/gatewarden/gatewarden/policy/Truth;)Lcom/example/gatewarden/gatewarden/policy/Truth;"⟩ : MethodName)) (z := (⟨"com/example/gatewarden/gatewarden/policy/Truth", "or", "(Lcom/example/gatewarden/gatewarden/policy/Truth;)Lcom/example/gatewarden/gatewarden/policy/Truth;"⟩ : MethodName)) hown (mvT hZ (hw _ (List.mem_of_getElem? (i := 8) rfl))) (mvT hZ (hw _ (List.mem_of_getElem? (i := 9) rfl))) (notFace_of_selects (args := #[]) (mvT hZ (hw _ (List.mem_of_getElem? (i := 11) rfl)))) (mvT hZ (hw _ (List.mem_of_getElem? (i := 11) rfl))) (mvT hZ (hw _ (List.mem_of_getElem? (i := 10) rfl))) (by decide) (backOf (W := 0) (rm2 l Z a0 hw [] w_FALSE w_INCONCLUSIVE w_FALSE w_INCONCLUSIVE w_TRUE w_INCONCLUSIVE h0 n0 S_FALSE S_INCONCLUSIVE S_TRUE (by unfold own_or; rw [if_neg ((Fld.ne O_FALSE O_TRUE (fun q => absurd (Value.int.inj q) (by decide))) : ¬ (w_FALSE = w_TRUE)), if_neg ((Fld.ne O_INCONCLUSIVE O_TRUE (fun q => absurd (Value.int.inj q) (by decide))) : ¬ (w_INCONCLUSIVE = w_TRUE)), if_neg ((Fld.ne O_FALSE O_INCONCLUSIVE (fun q => absurd (Value.int.inj q) (by decide))) : ¬ (w_FALSE = w_INCONCLUSIVE)), if_pos (rfl : w_INCONCLUSIVE = w_INCONCLUSIVE)])) hZ (hw _ (List.mem_of_getElem? (i := 12) rfl)) (hw _ (List.mem_of_getElem? (i := 6) rfl)) (by decide) (by decide)) q14a q14c (g := (mkF m 30 #[.val (.int p1), .val (.int p2), .val (.int (0 : Int32)), .val (.int (1 : Int32)), .val (.ref w_FALSE), .val (.ref w_INCONCLUSIVE), .unset] [(.ref w_INCONCLUSIVE), (.ref w_FALSE)])) rfl (by rw [hml]; rfl) (Steps.refl _) (argsL := [(.ref w_INCONCLUSIVE)]) (rest := []) (lenOf (show parseMethodDescriptor "(Lcom/example/gatewarden/gatewarden/policy/Truth;)Lcom/example/gatewarden/gatewarden/policy/Truth;" = some ⟨[.object "com/example/gatewarden/gatewarden/policy/Truth"], some (.object "com/example/gatewarden/gatewarden/policy/Truth")⟩ by decide +kernel) rfl) rfl (by show 2 * 0 + _ ≤ _; exact Nat.le_of_eq rfl) (hb hby at_30) (fun _ _ => ⟨rfl, e12, (by decide : 0 + 0 ≤ _), (by decide : 0 + 0 ≤ _)⟩)
      dsimp only [Pt.U, Pt.locs, Pt.cells, Pt.slots] at X13 l13 y13 z13 st13 hQ13
      subst l13 y13 z13
      obtain ⟨rfl, Nq13, e13⟩ := hQ13
      have N13 := Fr.app N12 Nq13
      obtain ⟨_, _, ⟨T15, L15, k15, n15⟩, -, X15, ⟨Lc15, hQ15, l15, y15, z15⟩, st15⟩ := Jvm.LawKit.callS X13 hx (y := (⟨"java/lang/Math", "max", "(II)I"⟩ : MethodName)) hown (mvT hZ (hw _ (List.mem_of_getElem? (i := 18) rfl))) (mvT hZ (hw _ (List.mem_of_getElem? (i := 19) rfl))) (mvT hZ (hw _ (List.mem_of_getElem? (i := 20) rfl))) (mvT hZ (hw _ (List.mem_of_getElem? (i := 21) rfl))) (by decide) (backOf (W := 1) (rm3 l Z a0 hw [] (0 : Int32) (1 : Int32) (1 : Int32) h0 n0 (by unfold own_max; rw [if_pos ((by decide) : (0 : Int32) < (1 : Int32))])) hZ (hw _ (List.mem_of_getElem? (i := 21) rfl)) (hw _ (List.mem_of_getElem? (i := 20) rfl)) (by decide) (by decide)) (g := (mkF m 39 #[.val (.int p1), .val (.int p2), .val (.int (0 : Int32)), .val (.int (1 : Int32)), .val (.ref w_FALSE), .val (.ref w_INCONCLUSIVE), .val (.ref w_INCONCLUSIVE)] [(.int (1 : Int32)), (.int (0 : Int32)), (.ref w_INCONCLUSIVE)])) rfl (by rw [hml]; rfl) (argsL := [(.int (0 : Int32)), (.int (1 : Int32))]) (rest := [(.ref w_INCONCLUSIVE)]) (lenOf (show parseMethodDescriptor "(II)I" = some ⟨[.int, .int], some .int⟩ by decide +kernel) rfl) rfl (by show 2 * 0 + _ ≤ _; exact Nat.le_of_eq rfl) (hb hby at_39) (fun _ _ => ⟨rfl, e13, (by decide : 0 + 0 ≤ _), (by decide : 0 + 0 ≤ _)⟩)
      dsimp only [Pt.U, Pt.locs, Pt.cells, Pt.slots] at X15 l15 y15 z15 st15 hQ15
      subst l15 y15 z15
      obtain ⟨rfl, Nq15, e15⟩ := hQ15
      have N15 := Fr.app N13 Nq15
      obtain ⟨_, _, ⟨T16, L16, k16, n16⟩, -, X16, ⟨Lc16, hQ16, l16, y16, z16⟩, st16⟩ := Jvm.LawKit.callS X15 hx (y := (⟨"com/example/gatewarden/gatewarden/policy/TruthOrPinLaw", "pick", "(I)Lcom/example/gatewarden/gatewarden/policy/Truth;"⟩ : MethodName)) hown (mvT hZ (hw _ (List.mem_of_getElem? (i := 1) rfl))) (mvT hZ (hw _ (List.mem_of_getElem? (i := 2) rfl))) (mvT hZ (hw _ (List.mem_of_getElem? (i := 3) rfl))) (mvT hZ (hw _ (List.mem_of_getElem? (i := 4) rfl))) (by decide) (backOf (W := 1) (rm1 l Z a0 hw [] (1 : Int32) w_FALSE w_INCONCLUSIVE w_TRUE w_INCONCLUSIVE h0 n0 S_FALSE S_INCONCLUSIVE S_TRUE (by unfold own_pick; rw [if_neg ((by decide) : ¬ ((1 : Int32) = (0 : Int32))), if_pos (rfl : (1 : Int32) = (1 : Int32))])) hZ (hw _ (List.mem_of_getElem? (i := 4) rfl)) (hw _ (List.mem_of_getElem? (i := 3) rfl)) (by decide) (by decide)) (g := (mkF m 42 #[.val (.int p1), .val (.int p2), .val (.int (0 : Int32)), .val (.int (1 : Int32)), .val (.ref w_FALSE), .val (.ref w_INCONCLUSIVE), .val (.ref w_INCONCLUSIVE)] [(.int (1 : Int32)), (.ref w_INCONCLUSIVE)])) rfl (by rw [hml]; rfl) (argsL := [(.int (1 : Int32))]) (rest := [(.ref w_INCONCLUSIVE)]) (lenOf (show parseMethodDescriptor "(I)Lcom/example/gatewarden/gatewarden/policy/Truth;" = some ⟨[.int], some (.object "com/example/gatewarden/gatewarden/policy/Truth")⟩ by decide +kernel) rfl) rfl (by show 2 * 0 + _ ≤ _; exact Nat.le_of_eq rfl) (hb hby at_42) (fun _ _ => ⟨rfl, e15, (by decide : 0 + 0 ≤ _), (by decide : 0 + 0 ≤ _)⟩)
      dsimp only [Pt.U, Pt.locs, Pt.cells, Pt.slots] at X16 l16 y16 z16 st16 hQ16
      subst l16 y16 z16
      obtain ⟨rfl, Nq16, e16⟩ := hQ16
      have N16 := Fr.app N15 Nq16
      obtain ⟨fs, hr17, hrun, hended, hW, hsame⟩ := X16.leave (v := some (.int (1 : Int32))) (fun h => by rw [Bd.returns] at h; cases h)
      refine ⟨_, _, pre1 _ ?_, hrun, hended, _, _, rfl, ?_, ⟨_, rfl⟩, hW, hsame.mono (by decide) (by decide)⟩
      · show Steps p.tables e below (s₁.setTop (mkF m 14 #[.val (.int p1), .val (.int p2), .val (.int (0 : Int32)), .val (.int (1 : Int32)), .unset, .unset, .unset] [])) _
        refine XS.iloadN X0.here hx rfl (hb hby at_14) rfl ?_
        show Steps p.tables e below (s₁.setTop (mkF m 15 #[.val (.int p1), .val (.int p2), .val (.int (0 : Int32)), .val (.int (1 : Int32)), .unset, .unset, .unset] [(.int (0 : Int32))])) _
        refine st11 _ ?_
        show Steps p.tables e below (T11.setTop (mkF m 18 #[.val (.int p1), .val (.int p2), .val (.int (0 : Int32)), .val (.int (1 : Int32)), .unset, .unset, .unset] [(.ref w_FALSE)])) _
        refine XS.astore X11.here hx rfl (hb hby at_18) rfl rfl (l' := #[.val (.int p1), .val (.int p2), .val (.int (0 : Int32)), .val (.int (1 : Int32)), .val (.ref w_FALSE), .unset, .unset]) rfl ?_
        show Steps p.tables e below (T11.setTop (mkF m 20 #[.val (.int p1), .val (.int p2), .val (.int (0 : Int32)), .val (.int (1 : Int32)), .val (.ref w_FALSE), .unset, .unset] [])) _
        refine XS.iloadN X11.here hx rfl (hb hby at_20) rfl ?_
        show Steps p.tables e below (T11.setTop (mkF m 21 #[.val (.int p1), .val (.int p2), .val (.int (0 : Int32)), .val (.int (1 : Int32)), .val (.ref w_FALSE), .unset, .unset] [(.int (1 : Int32))])) _
        refine st12 _ ?_
        show Steps p.tables e below (T12.setTop (mkF m 24 #[.val (.int p1), .val (.int p2), .val (.int (0 : Int32)), .val (.int (1 : Int32)), .val (.ref w_FALSE), .unset, .unset] [(.ref w_INCONCLUSIVE)])) _
        refine XS.astore X12.here hx rfl (hb hby at_24) rfl rfl (l' := #[.val (.int p1), .val (.int p2), .val (.int (0 : Int32)), .val (.int (1 : Int32)), .val (.ref w_FALSE), .val (.ref w_INCONCLUSIVE), .unset]) rfl ?_
        show Steps p.tables e below (T12.setTop (mkF m 26 #[.val (.int p1), .val (.int p2), .val (.int (0 : Int32)), .val (.int (1 : Int32)), .val (.ref w_FALSE), .val (.ref w_INCONCLUSIVE), .unset] [])) _
        refine XS.aload X12.here hx rfl (hb hby at_26) rfl rfl ?_
        show Steps p.tables e below (T12.setTop (mkF m 28 #[.val (.int p1), .val (.int p2), .val (.int (0 : Int32)), .val (.int (1 : Int32)), .val (.ref w_FALSE), .val (.ref w_INCONCLUSIVE), .unset] [(.ref w_FALSE)])) _
        refine XS.aload X12.here hx rfl (hb hby at_28) rfl rfl ?_
        show Steps p.tables e below (T12.setTop (mkF m 30 #[.val (.int p1), .val (.int p2), .val (.int (0 : Int32)), .val (.int (1 : Int32)), .val (.ref w_FALSE), .val (.ref w_INCONCLUSIVE), .unset] [(.ref w_INCONCLUSIVE), (.ref w_FALSE)])) _
        refine st13.trans ?_
        show Steps p.tables e below (T13.setTop (mkF m 33 #[.val (.int p1), .val (.int p2), .val (.int (0 : Int32)), .val (.int (1 : Int32)), .val (.ref w_FALSE), .val (.ref w_INCONCLUSIVE), .unset] [(.ref w_INCONCLUSIVE)])) _
        refine XS.astore X13.here hx rfl (hb hby at_33) rfl rfl (l' := #[.val (.int p1), .val (.int p2), .val (.int (0 : Int32)), .val (.int (1 : Int32)), .val (.ref w_FALSE), .val (.ref w_INCONCLUSIVE), .val (.ref w_INCONCLUSIVE)]) rfl ?_
        show Steps p.tables e below (T13.setTop (mkF m 35 #[.val (.int p1), .val (.int p2), .val (.int (0 : Int32)), .val (.int (1 : Int32)), .val (.ref w_FALSE), .val (.ref w_INCONCLUSIVE), .val (.ref w_INCONCLUSIVE)] [])) _
        refine XS.aload X13.here hx rfl (hb hby at_35) rfl rfl ?_
        show Steps p.tables e below (T13.setTop (mkF m 37 #[.val (.int p1), .val (.int p2), .val (.int (0 : Int32)), .val (.int (1 : Int32)), .val (.ref w_FALSE), .val (.ref w_INCONCLUSIVE), .val (.ref w_INCONCLUSIVE)] [(.ref w_INCONCLUSIVE)])) _
        refine XS.iloadN X13.here hx rfl (hb hby at_37) rfl ?_
        show Steps p.tables e below (T13.setTop (mkF m 38 #[.val (.int p1), .val (.int p2), .val (.int (0 : Int32)), .val (.int (1 : Int32)), .val (.ref w_FALSE), .val (.ref w_INCONCLUSIVE), .val (.ref w_INCONCLUSIVE)] [(.int (0 : Int32)), (.ref w_INCONCLUSIVE)])) _
        refine XS.iloadN X13.here hx rfl (hb hby at_38) rfl ?_
        show Steps p.tables e below (T13.setTop (mkF m 39 #[.val (.int p1), .val (.int p2), .val (.int (0 : Int32)), .val (.int (1 : Int32)), .val (.ref w_FALSE), .val (.ref w_INCONCLUSIVE), .val (.ref w_INCONCLUSIVE)] [(.int (1 : Int32)), (.int (0 : Int32)), (.ref w_INCONCLUSIVE)])) _
        refine st15 _ ?_
        show Steps p.tables e below (T15.setTop (mkF m 42 #[.val (.int p1), .val (.int p2), .val (.int (0 : Int32)), .val (.int (1 : Int32)), .val (.ref w_FALSE), .val (.ref w_INCONCLUSIVE), .val (.ref w_INCONCLUSIVE)] [(.int (1 : Int32)), (.ref w_INCONCLUSIVE)])) _
        refine st16 _ ?_
        show Steps p.tables e below (T16.setTop (mkF m 45 #[.val (.int p1), .val (.int p2), .val (.int (0 : Int32)), .val (.int (1 : Int32)), .val (.ref w_FALSE), .val (.ref w_INCONCLUSIVE), .val (.ref w_INCONCLUSIVE)] [(.ref w_INCONCLUSIVE), (.ref w_INCONCLUSIVE)])) _
        refine Jvm.RoadKit.acmp (g := (mkF m 45 #[.val (.int p1), .val (.int p2), .val (.int (0 : Int32)), .val (.int (1 : Int32)), .val (.ref w_FALSE), .val (.ref w_INCONCLUSIVE), .val (.ref w_INCONCLUSIVE)] [(.ref w_INCONCLUSIVE), (.ref w_INCONCLUSIVE)])) X16 hx rfl rfl rfl (pc0 := 45) (pc' := 48) (same := true) rfl (hb hby at_45) rfl (decide_eq_true (congrArg Value.ref (rfl : w_INCONCLUSIVE = w_INCONCLUSIVE))) (by decide) (by decide) ?_
        show Steps p.tables e below (T16.setTop (mkF m 48 #[.val (.int p1), .val (.int p2), .val (.int (0 : Int32)), .val (.int (1 : Int32)), .val (.ref w_FALSE), .val (.ref w_INCONCLUSIVE), .val (.ref w_INCONCLUSIVE)] [])) _
        refine XT.iconstV X16.here hx rfl (1 : Int32) (hb hby at_48) (by decide) ?_
        show Steps p.tables e below (T16.setTop (mkF m 49 #[.val (.int p1), .val (.int p2), .val (.int (0 : Int32)), .val (.int (1 : Int32)), .val (.ref w_FALSE), .val (.ref w_INCONCLUSIVE), .val (.ref w_INCONCLUSIVE)] [(.int (1 : Int32))])) _
        refine XS.goto X16.here hx rfl (pc0 := 49) (pc' := 53) rfl (hb hby at_49) (by decide) (by decide) ?_
        show Steps p.tables e below (T16.setTop (mkF m 53 #[.val (.int p1), .val (.int p2), .val (.int (0 : Int32)), .val (.int (1 : Int32)), .val (.ref w_FALSE), .val (.ref w_INCONCLUSIVE), .val (.ref w_INCONCLUSIVE)] [(.int (1 : Int32))])) _
        exact retN X16 hx (t := .boolean) Bd.returns (by simp) (hb hby at_53) hr17
      · show Q0 Z _ _ _ _ _ h0 n0 _ T16.heap _
        rw [e16]
        exact ⟨rfl, N16⟩
    ·
      rw [hv3] at pre1
      obtain ⟨_, _, ⟨T18, L18, k18, n18⟩, -, X18, ⟨Lc18, hQ18, l18, y18, z18⟩, st18⟩ := Jvm.LawKit.callS X0 hx (y := (⟨"com/example/gatewarden/gatewarden/policy/TruthOrPinLaw", "pick", "(I)Lcom/example/gatewarden/gatewarden/policy/Truth;"⟩ : MethodName)) hown (mvT hZ (hw _ (List.mem_of_getElem? (i := 1) rfl))) (mvT hZ (hw _ (List.mem_of_getElem? (i := 2) rfl))) (mvT hZ (hw _ (List.mem_of_getElem? (i := 3) rfl))) (mvT hZ (hw _ (List.mem_of_getElem? (i := 4) rfl))) (by decide) (backOf (W := 0) (rm1 l Z a0 hw [] (0 : Int32) w_FALSE w_INCONCLUSIVE w_TRUE w_FALSE h0 n0 S_FALSE S_INCONCLUSIVE S_TRUE (by unfold own_pick; rw [if_pos (rfl : (0 : Int32) = (0 : Int32))])) hZ (hw _ (List.mem_of_getElem? (i := 4) rfl)) (hw _ (List.mem_of_getElem? (i := 3) rfl)) (by decide) (by decide)) (g := (mkF m 15 #[.val (.int p1), .val (.int p2), .val (.int (0 : Int32)), .val (.int (2 : Int32)), .unset, .unset, .unset] [(.int (0 : Int32))])) rfl (by rw [hml]; rfl) (argsL := [(.int (0 : Int32))]) (rest := []) (lenOf (show parseMethodDescriptor "(I)Lcom/example/gatewarden/gatewarden/policy/Truth;" = some ⟨[.int], some (.object "com/example/gatewarden/gatewarden/policy/Truth")⟩ by decide +kernel) rfl) rfl (by show 2 * 0 + _ ≤ _; exact Nat.le_of_eq rfl) (hb hby at_15) (fun _ _ => ⟨rfl, e0, (by decide : 0 + 0 ≤ _), (by decide : 0 + 0 ≤ _)⟩)
      dsimp only [Pt.U, Pt.locs, Pt.cells, Pt.slots] at X18 l18 y18 z18 st18 hQ18
      subst l18 y18 z18
      obtain ⟨rfl, Nq18, e18⟩ := hQ18
      have N18 := Fr.app N0 Nq18
      obtain ⟨_, _, ⟨T19, L19, k19, n19⟩, -, X19, ⟨Lc19, hQ19, l19, y19, z19⟩, st19⟩ := Jvm.LawKit.callS X18 hx (y := (⟨"com/example/gatewarden/gatewarden/policy/TruthOrPinLaw", "pick", "(I)Lcom/example/gatewarden/gatewarden/policy/Truth;"⟩ : MethodName)) hown (mvT hZ (hw _ (List.mem_of_getElem? (i := 1) rfl))) (mvT hZ (hw _ (List.mem_of_getElem? (i := 2) rfl))) (mvT hZ (hw _ (List.mem_of_getElem? (i := 3) rfl))) (mvT hZ (hw _ (List.mem_of_getElem? (i := 4) rfl))) (by decide) (backOf (W := 0) (rm1 l Z a0 hw [] (2 : Int32) w_FALSE w_INCONCLUSIVE w_TRUE w_TRUE h0 n0 S_FALSE S_INCONCLUSIVE S_TRUE (by unfold own_pick; rw [if_neg ((by decide) : ¬ ((2 : Int32) = (0 : Int32))), if_neg ((by decide) : ¬ ((2 : Int32) = (1 : Int32)))])) hZ (hw _ (List.mem_of_getElem? (i := 4) rfl)) (hw _ (List.mem_of_getElem? (i := 3) rfl)) (by decide) (by decide)) (g := (mkF m 21 #[.val (.int p1), .val (.int p2), .val (.int (0 : Int32)), .val (.int (2 : Int32)), .val (.ref w_FALSE), .unset, .unset] [(.int (2 : Int32))])) rfl (by rw [hml]; rfl) (argsL := [(.int (2 : Int32))]) (rest := []) (lenOf (show parseMethodDescriptor "(I)Lcom/example/gatewarden/gatewarden/policy/Truth;" = some ⟨[.int], some (.object "com/example/gatewarden/gatewarden/policy/Truth")⟩ by decide +kernel) rfl) rfl (by show 2 * 0 + _ ≤ _; exact Nat.le_of_eq rfl) (hb hby at_21) (fun _ _ => ⟨rfl, e18, (by decide : 0 + 0 ≤ _), (by decide : 0 + 0 ≤ _)⟩)
      dsimp only [Pt.U, Pt.locs, Pt.cells, Pt.slots] at X19 l19 y19 z19 st19 hQ19
      subst l19 y19 z19
      obtain ⟨rfl, Nq19, e19⟩ := hQ19
      have N19 := Fr.app N18 Nq19
      obtain ⟨cq21, kq21, q21a, q21b, q21c⟩ := isOf hZ e19 E_FALSE
      obtain ⟨_, _, ⟨T20, L20, k20, n20⟩, -, X20, ⟨Lc20, hQ20, l20, y20, z20⟩, st20⟩ := X19.virtualBack hx (y := (⟨"com/example/gatewarden/gatewarden/policy/Truth", "or", "(Lcom/example/gatewarden/gatewarden/policy/Truth;)Lcom/example/gatewarden/gatewarden/policy/Truth;"⟩ : MethodName)) (z := (⟨"com/example/gatewarden/gatewarden/policy/Truth", "or", "(Lcom/example/gatewarden/gatewarden/policy/Truth;)Lcom/example/gatewarden/gatewarden/policy/Truth;"⟩ : MethodName)) hown (mvT hZ (hw _ (List.mem_of_getElem? (i := 8) rfl))) (mvT hZ (hw _ (List.mem_of_getElem? (i := 9) rfl))) (notFace_of_selects (args := #[]) (mvT hZ (hw _ (List.mem_of_getElem? (i := 11) rfl)))) (mvT hZ (hw _ (List.mem_of_getElem? (i := 11) rfl))) (mvT hZ (hw _ (List.mem_of_getElem? (i := 10) rfl))) (by decide) (backOf (W := 0) (rm2 l Z a0 hw [] w_FALSE w_TRUE w_FALSE w_INCONCLUSIVE w_TRUE w_TRUE h0 n0 S_FALSE S_INCONCLUSIVE S_TRUE (by unfold own_or; rw [if_neg ((Fld.ne O_FALSE O_TRUE (fun q => absurd (Value.int.inj q) (by decide))) : ¬ (w_FALSE = w_TRUE)), if_pos (rfl : w_TRUE = w_TRUE)])) hZ (hw _ (List.mem_of_getElem? (i := 12) rfl)) (hw _ (List.mem_of_getElem? (i := 6) rfl)) (by decide) (by decide)) q21a q21c (g := (mkF m 30 #[.val (.int p1), .val (.int p2), .val (.int (0 : Int32)), .val (.int (2 : Int32)), .val (.ref w_FALSE), .val (.ref w_TRUE), .unset] [(.ref w_TRUE), (.ref w_FALSE)])) rfl (by rw [hml]; rfl) (Steps.refl _) (argsL := [(.ref w_TRUE)]) (rest := []) (lenOf (show parseMethodDescriptor "(Lcom/example/gatewarden/gatewarden/policy/Truth;)Lcom/example/gatewarden/gatewarden/policy/Truth;" = some ⟨[.object "com/example/gatewarden/gatewarden/policy/Truth"], some (.object "com/example/gatewarden/gatewarden/policy/Truth")⟩ by decide +kernel) rfl) rfl (by show 2 * 0 + _ ≤ _; exact Nat.le_of_eq rfl) (hb hby at_30) (fun _ _ => ⟨rfl, e19, (by decide : 0 + 0 ≤ _), (by decide : 0 + 0 ≤ _)⟩)
      dsimp only [Pt.U, Pt.locs, Pt.cells, Pt.slots] at X20 l20 y20 z20 st20 hQ20
      subst l20 y20 z20
      obtain ⟨rfl, Nq20, e20⟩ := hQ20
      have N20 := Fr.app N19 Nq20
      obtain ⟨_, _, ⟨T22, L22, k22, n22⟩, -, X22, ⟨Lc22, hQ22, l22, y22, z22⟩, st22⟩ := Jvm.LawKit.callS X20 hx (y := (⟨"java/lang/Math", "max", "(II)I"⟩ : MethodName)) hown (mvT hZ (hw _ (List.mem_of_getElem? (i := 18) rfl))) (mvT hZ (hw _ (List.mem_of_getElem? (i := 19) rfl))) (mvT hZ (hw _ (List.mem_of_getElem? (i := 20) rfl))) (mvT hZ (hw _ (List.mem_of_getElem? (i := 21) rfl))) (by decide) (backOf (W := 1) (rm3 l Z a0 hw [] (0 : Int32) (2 : Int32) (2 : Int32) h0 n0 (by unfold own_max; rw [if_pos ((by decide) : (0 : Int32) < (2 : Int32))])) hZ (hw _ (List.mem_of_getElem? (i := 21) rfl)) (hw _ (List.mem_of_getElem? (i := 20) rfl)) (by decide) (by decide)) (g := (mkF m 39 #[.val (.int p1), .val (.int p2), .val (.int (0 : Int32)), .val (.int (2 : Int32)), .val (.ref w_FALSE), .val (.ref w_TRUE), .val (.ref w_TRUE)] [(.int (2 : Int32)), (.int (0 : Int32)), (.ref w_TRUE)])) rfl (by rw [hml]; rfl) (argsL := [(.int (0 : Int32)), (.int (2 : Int32))]) (rest := [(.ref w_TRUE)]) (lenOf (show parseMethodDescriptor "(II)I" = some ⟨[.int, .int], some .int⟩ by decide +kernel) rfl) rfl (by show 2 * 0 + _ ≤ _; exact Nat.le_of_eq rfl) (hb hby at_39) (fun _ _ => ⟨rfl, e20, (by decide : 0 + 0 ≤ _), (by decide : 0 + 0 ≤ _)⟩)
      dsimp only [Pt.U, Pt.locs, Pt.cells, Pt.slots] at X22 l22 y22 z22 st22 hQ22
      subst l22 y22 z22
      obtain ⟨rfl, Nq22, e22⟩ := hQ22
      have N22 := Fr.app N20 Nq22
      obtain ⟨_, _, ⟨T23, L23, k23, n23⟩, -, X23, ⟨Lc23, hQ23, l23, y23, z23⟩, st23⟩ := Jvm.LawKit.callS X22 hx (y := (⟨"com/example/gatewarden/gatewarden/policy/TruthOrPinLaw", "pick", "(I)Lcom/example/gatewarden/gatewarden/policy/Truth;"⟩ : MethodName)) hown (mvT hZ (hw _ (List.mem_of_getElem? (i := 1) rfl))) (mvT hZ (hw _ (List.mem_of_getElem? (i := 2) rfl))) (mvT hZ (hw _ (List.mem_of_getElem? (i := 3) rfl))) (mvT hZ (hw _ (List.mem_of_getElem? (i := 4) rfl))) (by decide) (backOf (W := 1) (rm1 l Z a0 hw [] (2 : Int32) w_FALSE w_INCONCLUSIVE w_TRUE w_TRUE h0 n0 S_FALSE S_INCONCLUSIVE S_TRUE (by unfold own_pick; rw [if_neg ((by decide) : ¬ ((2 : Int32) = (0 : Int32))), if_neg ((by decide) : ¬ ((2 : Int32) = (1 : Int32)))])) hZ (hw _ (List.mem_of_getElem? (i := 4) rfl)) (hw _ (List.mem_of_getElem? (i := 3) rfl)) (by decide) (by decide)) (g := (mkF m 42 #[.val (.int p1), .val (.int p2), .val (.int (0 : Int32)), .val (.int (2 : Int32)), .val (.ref w_FALSE), .val (.ref w_TRUE), .val (.ref w_TRUE)] [(.int (2 : Int32)), (.ref w_TRUE)])) rfl (by rw [hml]; rfl) (argsL := [(.int (2 : Int32))]) (rest := [(.ref w_TRUE)]) (lenOf (show parseMethodDescriptor "(I)Lcom/example/gatewarden/gatewarden/policy/Truth;" = some ⟨[.int], some (.object "com/example/gatewarden/gatewarden/policy/Truth")⟩ by decide +kernel) rfl) rfl (by show 2 * 0 + _ ≤ _; exact Nat.le_of_eq rfl) (hb hby at_42) (fun _ _ => ⟨rfl, e22, (by decide : 0 + 0 ≤ _), (by decide : 0 + 0 ≤ _)⟩)
      dsimp only [Pt.U, Pt.locs, Pt.cells, Pt.slots] at X23 l23 y23 z23 st23 hQ23
      subst l23 y23 z23
      obtain ⟨rfl, Nq23, e23⟩ := hQ23
      have N23 := Fr.app N22 Nq23
      obtain ⟨fs, hr24, hrun, hended, hW, hsame⟩ := X23.leave (v := some (.int (1 : Int32))) (fun h => by rw [Bd.returns] at h; cases h)
      refine ⟨_, _, pre1 _ ?_, hrun, hended, _, _, rfl, ?_, ⟨_, rfl⟩, hW, hsame.mono (by decide) (by decide)⟩
      · show Steps p.tables e below (s₁.setTop (mkF m 14 #[.val (.int p1), .val (.int p2), .val (.int (0 : Int32)), .val (.int (2 : Int32)), .unset, .unset, .unset] [])) _
        refine XS.iloadN X0.here hx rfl (hb hby at_14) rfl ?_
        show Steps p.tables e below (s₁.setTop (mkF m 15 #[.val (.int p1), .val (.int p2), .val (.int (0 : Int32)), .val (.int (2 : Int32)), .unset, .unset, .unset] [(.int (0 : Int32))])) _
        refine st18 _ ?_
        show Steps p.tables e below (T18.setTop (mkF m 18 #[.val (.int p1), .val (.int p2), .val (.int (0 : Int32)), .val (.int (2 : Int32)), .unset, .unset, .unset] [(.ref w_FALSE)])) _
        refine XS.astore X18.here hx rfl (hb hby at_18) rfl rfl (l' := #[.val (.int p1), .val (.int p2), .val (.int (0 : Int32)), .val (.int (2 : Int32)), .val (.ref w_FALSE), .unset, .unset]) rfl ?_
        show Steps p.tables e below (T18.setTop (mkF m 20 #[.val (.int p1), .val (.int p2), .val (.int (0 : Int32)), .val (.int (2 : Int32)), .val (.ref w_FALSE), .unset, .unset] [])) _
        refine XS.iloadN X18.here hx rfl (hb hby at_20) rfl ?_
        show Steps p.tables e below (T18.setTop (mkF m 21 #[.val (.int p1), .val (.int p2), .val (.int (0 : Int32)), .val (.int (2 : Int32)), .val (.ref w_FALSE), .unset, .unset] [(.int (2 : Int32))])) _
        refine st19 _ ?_
        show Steps p.tables e below (T19.setTop (mkF m 24 #[.val (.int p1), .val (.int p2), .val (.int (0 : Int32)), .val (.int (2 : Int32)), .val (.ref w_FALSE), .unset, .unset] [(.ref w_TRUE)])) _
        refine XS.astore X19.here hx rfl (hb hby at_24) rfl rfl (l' := #[.val (.int p1), .val (.int p2), .val (.int (0 : Int32)), .val (.int (2 : Int32)), .val (.ref w_FALSE), .val (.ref w_TRUE), .unset]) rfl ?_
        show Steps p.tables e below (T19.setTop (mkF m 26 #[.val (.int p1), .val (.int p2), .val (.int (0 : Int32)), .val (.int (2 : Int32)), .val (.ref w_FALSE), .val (.ref w_TRUE), .unset] [])) _
        refine XS.aload X19.here hx rfl (hb hby at_26) rfl rfl ?_
        show Steps p.tables e below (T19.setTop (mkF m 28 #[.val (.int p1), .val (.int p2), .val (.int (0 : Int32)), .val (.int (2 : Int32)), .val (.ref w_FALSE), .val (.ref w_TRUE), .unset] [(.ref w_FALSE)])) _
        refine XS.aload X19.here hx rfl (hb hby at_28) rfl rfl ?_
        show Steps p.tables e below (T19.setTop (mkF m 30 #[.val (.int p1), .val (.int p2), .val (.int (0 : Int32)), .val (.int (2 : Int32)), .val (.ref w_FALSE), .val (.ref w_TRUE), .unset] [(.ref w_TRUE), (.ref w_FALSE)])) _
        refine st20.trans ?_
        show Steps p.tables e below (T20.setTop (mkF m 33 #[.val (.int p1), .val (.int p2), .val (.int (0 : Int32)), .val (.int (2 : Int32)), .val (.ref w_FALSE), .val (.ref w_TRUE), .unset] [(.ref w_TRUE)])) _
        refine XS.astore X20.here hx rfl (hb hby at_33) rfl rfl (l' := #[.val (.int p1), .val (.int p2), .val (.int (0 : Int32)), .val (.int (2 : Int32)), .val (.ref w_FALSE), .val (.ref w_TRUE), .val (.ref w_TRUE)]) rfl ?_
        show Steps p.tables e below (T20.setTop (mkF m 35 #[.val (.int p1), .val (.int p2), .val (.int (0 : Int32)), .val (.int (2 : Int32)), .val (.ref w_FALSE), .val (.ref w_TRUE), .val (.ref w_TRUE)] [])) _
        refine XS.aload X20.here hx rfl (hb hby at_35) rfl rfl ?_
        show Steps p.tables e below (T20.setTop (mkF m 37 #[.val (.int p1), .val (.int p2), .val (.int (0 : Int32)), .val (.int (2 : Int32)), .val (.ref w_FALSE), .val (.ref w_TRUE), .val (.ref w_TRUE)] [(.ref w_TRUE)])) _
        refine XS.iloadN X20.here hx rfl (hb hby at_37) rfl ?_
        show Steps p.tables e below (T20.setTop (mkF m 38 #[.val (.int p1), .val (.int p2), .val (.int (0 : Int32)), .val (.int (2 : Int32)), .val (.ref w_FALSE), .val (.ref w_TRUE), .val (.ref w_TRUE)] [(.int (0 : Int32)), (.ref w_TRUE)])) _
        refine XS.iloadN X20.here hx rfl (hb hby at_38) rfl ?_
        show Steps p.tables e below (T20.setTop (mkF m 39 #[.val (.int p1), .val (.int p2), .val (.int (0 : Int32)), .val (.int (2 : Int32)), .val (.ref w_FALSE), .val (.ref w_TRUE), .val (.ref w_TRUE)] [(.int (2 : Int32)), (.int (0 : Int32)), (.ref w_TRUE)])) _
        refine st22 _ ?_
        show Steps p.tables e below (T22.setTop (mkF m 42 #[.val (.int p1), .val (.int p2), .val (.int (0 : Int32)), .val (.int (2 : Int32)), .val (.ref w_FALSE), .val (.ref w_TRUE), .val (.ref w_TRUE)] [(.int (2 : Int32)), (.ref w_TRUE)])) _
        refine st23 _ ?_
        show Steps p.tables e below (T23.setTop (mkF m 45 #[.val (.int p1), .val (.int p2), .val (.int (0 : Int32)), .val (.int (2 : Int32)), .val (.ref w_FALSE), .val (.ref w_TRUE), .val (.ref w_TRUE)] [(.ref w_TRUE), (.ref w_TRUE)])) _
        refine Jvm.RoadKit.acmp (g := (mkF m 45 #[.val (.int p1), .val (.int p2), .val (.int (0 : Int32)), .val (.int (2 : Int32)), .val (.ref w_FALSE), .val (.ref w_TRUE), .val (.ref w_TRUE)] [(.ref w_TRUE), (.ref w_TRUE)])) X23 hx rfl rfl rfl (pc0 := 45) (pc' := 48) (same := true) rfl (hb hby at_45) rfl (decide_eq_true (congrArg Value.ref (rfl : w_TRUE = w_TRUE))) (by decide) (by decide) ?_
        show Steps p.tables e below (T23.setTop (mkF m 48 #[.val (.int p1), .val (.int p2), .val (.int (0 : Int32)), .val (.int (2 : Int32)), .val (.ref w_FALSE), .val (.ref w_TRUE), .val (.ref w_TRUE)] [])) _
        refine XT.iconstV X23.here hx rfl (1 : Int32) (hb hby at_48) (by decide) ?_
        show Steps p.tables e below (T23.setTop (mkF m 49 #[.val (.int p1), .val (.int p2), .val (.int (0 : Int32)), .val (.int (2 : Int32)), .val (.ref w_FALSE), .val (.ref w_TRUE), .val (.ref w_TRUE)] [(.int (1 : Int32))])) _
        refine XS.goto X23.here hx rfl (pc0 := 49) (pc' := 53) rfl (hb hby at_49) (by decide) (by decide) ?_
        show Steps p.tables e below (T23.setTop (mkF m 53 #[.val (.int p1), .val (.int p2), .val (.int (0 : Int32)), .val (.int (2 : Int32)), .val (.ref w_FALSE), .val (.ref w_TRUE), .val (.ref w_TRUE)] [(.int (1 : Int32))])) _
        exact retN X23 hx (t := .boolean) Bd.returns (by simp) (hb hby at_53) hr24
      · show Q0 Z _ _ _ _ _ h0 n0 _ T23.heap _
        rw [e23]
        exact ⟨rfl, N23⟩
  ·
    rw [hv2] at pre1
    rcases (own_rem3 p2) with hv25 | hv25 | hv25
    ·
      rw [hv25] at pre1
      obtain ⟨_, _, ⟨T26, L26, k26, n26⟩, -, X26, ⟨Lc26, hQ26, l26, y26, z26⟩, st26⟩ := Jvm.LawKit.callS X0 hx (y := (⟨"com/example/gatewarden/gatewarden/policy/TruthOrPinLaw", "pick", "(I)Lcom/example/gatewarden/gatewarden/policy/Truth;"⟩ : MethodName)) hown (mvT hZ (hw _ (List.mem_of_getElem? (i := 1) rfl))) (mvT hZ (hw _ (List.mem_of_getElem? (i := 2) rfl))) (mvT hZ (hw _ (List.mem_of_getElem? (i := 3) rfl))) (mvT hZ (hw _ (List.mem_of_getElem? (i := 4) rfl))) (by decide) (backOf (W := 0) (rm1 l Z a0 hw [] (1 : Int32) w_FALSE w_INCONCLUSIVE w_TRUE w_INCONCLUSIVE h0 n0 S_FALSE S_INCONCLUSIVE S_TRUE (by unfold own_pick; rw [if_neg ((by decide) : ¬ ((1 : Int32) = (0 : Int32))), if_pos (rfl : (1 : Int32) = (1 : Int32))])) hZ (hw _ (List.mem_of_getElem? (i := 4) rfl)) (hw _ (List.mem_of_getElem? (i := 3) rfl)) (by decide) (by decide)) (g := (mkF m 15 #[.val (.int p1), .val (.int p2), .val (.int (1 : Int32)), .val (.int (0 : Int32)), .unset, .unset, .unset] [(.int (1 : Int32))])) rfl (by rw [hml]; rfl) (argsL := [(.int (1 : Int32))]) (rest := []) (lenOf (show parseMethodDescriptor "(I)Lcom/example/gatewarden/gatewarden/policy/Truth;" = some ⟨[.int], some (.object "com/example/gatewarden/gatewarden/policy/Truth")⟩ by decide +kernel) rfl) rfl (by show 2 * 0 + _ ≤ _; exact Nat.le_of_eq rfl) (hb hby at_15) (fun _ _ => ⟨rfl, e0, (by decide : 0 + 0 ≤ _), (by decide : 0 + 0 ≤ _)⟩)
      dsimp only [Pt.U, Pt.locs, Pt.cells, Pt.slots] at X26 l26 y26 z26 st26 hQ26
      subst l26 y26 z26
      obtain ⟨rfl, Nq26, e26⟩ := hQ26
      have N26 := Fr.app N0 Nq26
      obtain ⟨_, _, ⟨T27, L27, k27, n27⟩, -, X27, ⟨Lc27, hQ27, l27, y27, z27⟩, st27⟩ := Jvm.LawKit.callS X26 hx (y := (⟨"com/example/gatewarden/gatewarden/policy/TruthOrPinLaw", "pick", "(I)Lcom/example/gatewarden/gatewarden/policy/Truth;"⟩ : MethodName)) hown (mvT hZ (hw _ (List.mem_of_getElem? (i := 1) rfl))) (mvT hZ (hw _ (List.mem_of_getElem? (i := 2) rfl))) (mvT hZ (hw _ (List.mem_of_getElem? (i := 3) rfl))) (mvT hZ (hw _ (List.mem_of_getElem? (i := 4) rfl))) (by decide) (backOf (W := 0) (rm1 l Z a0 hw [] (0 : Int32) w_FALSE w_INCONCLUSIVE w_TRUE w_FALSE h0 n0 S_FALSE S_INCONCLUSIVE S_TRUE (by unfold own_pick; rw [if_pos (rfl : (0 : Int32) = (0 : Int32))])) hZ (hw _ (List.mem_of_getElem? (i := 4) rfl)) (hw _ (List.mem_of_getElem? (i := 3) rfl)) (by decide) (by decide)) (g := (mkF m 21 #[.val (.int p1), .val (.int p2), .val (.int (1 : Int32)), .val (.int (0 : Int32)), .val (.ref w_INCONCLUSIVE), .unset, .unset] [(.int (0 : Int32))])) rfl (by rw [hml]; rfl) (argsL := [(.int (0 : Int32))]) (rest := []) (lenOf (show parseMethodDescriptor "(I)Lcom/example/gatewarden/gatewarden/policy/Truth;" = some ⟨[.int], some (.object "com/example/gatewarden/gatewarden/policy/Truth")⟩ by decide +kernel) rfl) rfl (by show 2 * 0 + _ ≤ _; exact Nat.le_of_eq rfl) (hb hby at_21) (fun _ _ => ⟨rfl, e26, (by decide : 0 + 0 ≤ _), (by decide : 0 + 0 ≤ _)⟩)
      dsimp only [Pt.U, Pt.locs, Pt.cells, Pt.slots] at X27 l27 y27 z27 st27 hQ27
      subst l27 y27 z27
      obtain ⟨rfl, Nq27, e27⟩ := hQ27
      have N27 := Fr.app N26 Nq27
      obtain ⟨cq29, kq29, q29a, q29b, q29c⟩ := isOf hZ e27 E_INCONCLUSIVE
      obtain ⟨_, _, ⟨T28, L28, k28, n28⟩, -, X28, ⟨Lc28, hQ28, l28, y28, z28⟩, st28⟩ := X27.virtualBack hx (y := (⟨"com/example/gatewarden/gatewarden/policy/Truth", "or", "(Lcom/example/gatewarden/gatewarden/policy/Truth;)Lcom/example/gatewarden/gatewarden/policy/Truth;"⟩ : MethodName)) (z := (⟨"com/example/gatewarden/gatewarden/policy/Truth", "or", "(Lcom/example/gatewarden/gatewarden/policy/Truth;)Lcom/example/gatewarden/gatewarden/policy/Truth;"⟩ : MethodName)) hown (mvT hZ (hw _ (List.mem_of_getElem? (i := 8) rfl))) (mvT hZ (hw _ (List.mem_of_getElem? (i := 9) rfl))) (notFace_of_selects (args := #[]) (mvT hZ (hw _ (List.mem_of_getElem? (i := 11) rfl)))) (mvT hZ (hw _ (List.mem_of_getElem? (i := 11) rfl))) (mvT hZ (hw _ (List.mem_of_getElem? (i := 10) rfl))) (by decide) (backOf (W := 0) (rm2 l Z a0 hw [] w_INCONCLUSIVE w_FALSE w_FALSE w_INCONCLUSIVE w_TRUE w_INCONCLUSIVE h0 n0 S_FALSE S_INCONCLUSIVE S_TRUE (by unfold own_or; rw [if_neg ((Fld.ne O_INCONCLUSIVE O_TRUE (fun q => absurd (Value.int.inj q) (by decide))) : ¬ (w_INCONCLUSIVE = w_TRUE)), if_neg ((Fld.ne O_FALSE O_TRUE (fun q => absurd (Value.int.inj q) (by decide))) : ¬ (w_FALSE = w_TRUE)), if_pos (rfl : w_INCONCLUSIVE = w_INCONCLUSIVE)])) hZ (hw _ (List.mem_of_getElem? (i := 12) rfl)) (hw _ (List.mem_of_getElem? (i := 6) rfl)) (by decide) (by decide)) q29a q29c (g := (mkF m 30 #[.val (.int p1), .val (.int p2), .val (.int (1 : Int32)), .val (.int (0 : Int32)), .val (.ref w_INCONCLUSIVE), .val (.ref w_FALSE), .unset] [(.ref w_FALSE), (.ref w_INCONCLUSIVE)])) rfl (by rw [hml]; rfl) (Steps.refl _) (argsL := [(.ref w_FALSE)]) (rest := []) (lenOf (show parseMethodDescriptor "(Lcom/example/gatewarden/gatewarden/policy/Truth;)Lcom/example/gatewarden/gatewarden/policy/Truth;" = some ⟨[.object "com/example/gatewarden/gatewarden/policy/Truth"], some (.object "com/example/gatewarden/gatewarden/policy/Truth")⟩ by decide +kernel) rfl) rfl (by show 2 * 0 + _ ≤ _; exact Nat.le_of_eq rfl) (hb hby at_30) (fun _ _ => ⟨rfl, e27, (by decide : 0 + 0 ≤ _), (by decide : 0 + 0 ≤ _)⟩)
      dsimp only [Pt.U, Pt.locs, Pt.cells, Pt.slots] at X28 l28 y28 z28 st28 hQ28
      subst l28 y28 z28
      obtain ⟨rfl, Nq28, e28⟩ := hQ28
      have N28 := Fr.app N27 Nq28
      obtain ⟨_, _, ⟨T30, L30, k30, n30⟩, -, X30, ⟨Lc30, hQ30, l30, y30, z30⟩, st30⟩ := Jvm.LawKit.callS X28 hx (y := (⟨"java/lang/Math", "max", "(II)I"⟩ : MethodName)) hown (mvT hZ (hw _ (List.mem_of_getElem? (i := 18) rfl))) (mvT hZ (hw _ (List.mem_of_getElem? (i := 19) rfl))) (mvT hZ (hw _ (List.mem_of_getElem? (i := 20) rfl))) (mvT hZ (hw _ (List.mem_of_getElem? (i := 21) rfl))) (by decide) (backOf (W := 1) (rm3 l Z a0 hw [] (1 : Int32) (0 : Int32) (1 : Int32) h0 n0 (by unfold own_max; rw [if_neg ((by decide) : ¬ ((1 : Int32) < (0 : Int32)))])) hZ (hw _ (List.mem_of_getElem? (i := 21) rfl)) (hw _ (List.mem_of_getElem? (i := 20) rfl)) (by decide) (by decide)) (g := (mkF m 39 #[.val (.int p1), .val (.int p2), .val (.int (1 : Int32)), .val (.int (0 : Int32)), .val (.ref w_INCONCLUSIVE), .val (.ref w_FALSE), .val (.ref w_INCONCLUSIVE)] [(.int (0 : Int32)), (.int (1 : Int32)), (.ref w_INCONCLUSIVE)])) rfl (by rw [hml]; rfl) (argsL := [(.int (1 : Int32)), (.int (0 : Int32))]) (rest := [(.ref w_INCONCLUSIVE)]) (lenOf (show parseMethodDescriptor "(II)I" = some ⟨[.int, .int], some .int⟩ by decide +kernel) rfl) rfl (by show 2 * 0 + _ ≤ _; exact Nat.le_of_eq rfl) (hb hby at_39) (fun _ _ => ⟨rfl, e28, (by decide : 0 + 0 ≤ _), (by decide : 0 + 0 ≤ _)⟩)
      dsimp only [Pt.U, Pt.locs, Pt.cells, Pt.slots] at X30 l30 y30 z30 st30 hQ30
      subst l30 y30 z30
      obtain ⟨rfl, Nq30, e30⟩ := hQ30
      have N30 := Fr.app N28 Nq30
      obtain ⟨_, _, ⟨T31, L31, k31, n31⟩, -, X31, ⟨Lc31, hQ31, l31, y31, z31⟩, st31⟩ := Jvm.LawKit.callS X30 hx (y := (⟨"com/example/gatewarden/gatewarden/policy/TruthOrPinLaw", "pick", "(I)Lcom/example/gatewarden/gatewarden/policy/Truth;"⟩ : MethodName)) hown (mvT hZ (hw _ (List.mem_of_getElem? (i := 1) rfl))) (mvT hZ (hw _ (List.mem_of_getElem? (i := 2) rfl))) (mvT hZ (hw _ (List.mem_of_getElem? (i := 3) rfl))) (mvT hZ (hw _ (List.mem_of_getElem? (i := 4) rfl))) (by decide) (backOf (W := 1) (rm1 l Z a0 hw [] (1 : Int32) w_FALSE w_INCONCLUSIVE w_TRUE w_INCONCLUSIVE h0 n0 S_FALSE S_INCONCLUSIVE S_TRUE (by unfold own_pick; rw [if_neg ((by decide) : ¬ ((1 : Int32) = (0 : Int32))), if_pos (rfl : (1 : Int32) = (1 : Int32))])) hZ (hw _ (List.mem_of_getElem? (i := 4) rfl)) (hw _ (List.mem_of_getElem? (i := 3) rfl)) (by decide) (by decide)) (g := (mkF m 42 #[.val (.int p1), .val (.int p2), .val (.int (1 : Int32)), .val (.int (0 : Int32)), .val (.ref w_INCONCLUSIVE), .val (.ref w_FALSE), .val (.ref w_INCONCLUSIVE)] [(.int (1 : Int32)), (.ref w_INCONCLUSIVE)])) rfl (by rw [hml]; rfl) (argsL := [(.int (1 : Int32))]) (rest := [(.ref w_INCONCLUSIVE)]) (lenOf (show parseMethodDescriptor "(I)Lcom/example/gatewarden/gatewarden/policy/Truth;" = some ⟨[.int], some (.object "com/example/gatewarden/gatewarden/policy/Truth")⟩ by decide +kernel) rfl) rfl (by show 2 * 0 + _ ≤ _; exact Nat.le_of_eq rfl) (hb hby at_42) (fun _ _ => ⟨rfl, e30, (by decide : 0 + 0 ≤ _), (by decide : 0 + 0 ≤ _)⟩)
      dsimp only [Pt.U, Pt.locs, Pt.cells, Pt.slots] at X31 l31 y31 z31 st31 hQ31
      subst l31 y31 z31
      obtain ⟨rfl, Nq31, e31⟩ := hQ31
      have N31 := Fr.app N30 Nq31
      obtain ⟨fs, hr32, hrun, hended, hW, hsame⟩ := X31.leave (v := some (.int (1 : Int32))) (fun h => by rw [Bd.returns] at h; cases h)
      refine ⟨_, _, pre1 _ ?_, hrun, hended, _, _, rfl, ?_, ⟨_, rfl⟩, hW, hsame.mono (by decide) (by decide)⟩
      · show Steps p.tables e below (s₁.setTop (mkF m 14 #[.val (.int p1), .val (.int p2), .val (.int (1 : Int32)), .val (.int (0 : Int32)), .unset, .unset, .unset] [])) _
        refine XS.iloadN X0.here hx rfl (hb hby at_14) rfl ?_
        show Steps p.tables e below (s₁.setTop (mkF m 15 #[.val (.int p1), .val (.int p2), .val (.int (1 : Int32)), .val (.int (0 : Int32)), .unset, .unset, .unset] [(.int (1 : Int32))])) _
        refine st26 _ ?_
        show Steps p.tables e below (T26.setTop (mkF m 18 #[.val (.int p1), .val (.int p2), .val (.int (1 : Int32)), .val (.int (0 : Int32)), .unset, .unset, .unset] [(.ref w_INCONCLUSIVE)])) _
        refine XS.astore X26.here hx rfl (hb hby at_18) rfl rfl (l' := #[.val (.int p1), .val (.int p2), .val (.int (1 : Int32)), .val (.int (0 : Int32)), .val (.ref w_INCONCLUSIVE), .unset, .unset]) rfl ?_
        show Steps p.tables e below (T26.setTop (mkF m 20 #[.val (.int p1), .val (.int p2), .val (.int (1 : Int32)), .val (.int (0 : Int32)), .val (.ref w_INCONCLUSIVE), .unset, .unset] [])) _
        refine XS.iloadN X26.here hx rfl (hb hby at_20) rfl ?_
        show Steps p.tables e below (T26.setTop (mkF m 21 #[.val (.int p1), .val (.int p2), .val (.int (1 : Int32)), .val (.int (0 : Int32)), .val (.ref w_INCONCLUSIVE), .unset, .unset] [(.int (0 : Int32))])) _
        refine st27 _ ?_
        show Steps p.tables e below (T27.setTop (mkF m 24 #[.val (.int p1), .val (.int p2), .val (.int (1 : Int32)), .val (.int (0 : Int32)), .val (.ref w_INCONCLUSIVE), .unset, .unset] [(.ref w_FALSE)])) _
        refine XS.astore X27.here hx rfl (hb hby at_24) rfl rfl (l' := #[.val (.int p1), .val (.int p2), .val (.int (1 : Int32)), .val (.int (0 : Int32)), .val (.ref w_INCONCLUSIVE), .val (.ref w_FALSE), .unset]) rfl ?_
        show Steps p.tables e below (T27.setTop (mkF m 26 #[.val (.int p1), .val (.int p2), .val (.int (1 : Int32)), .val (.int (0 : Int32)), .val (.ref w_INCONCLUSIVE), .val (.ref w_FALSE), .unset] [])) _
        refine XS.aload X27.here hx rfl (hb hby at_26) rfl rfl ?_
        show Steps p.tables e below (T27.setTop (mkF m 28 #[.val (.int p1), .val (.int p2), .val (.int (1 : Int32)), .val (.int (0 : Int32)), .val (.ref w_INCONCLUSIVE), .val (.ref w_FALSE), .unset] [(.ref w_INCONCLUSIVE)])) _
        refine XS.aload X27.here hx rfl (hb hby at_28) rfl rfl ?_
        show Steps p.tables e below (T27.setTop (mkF m 30 #[.val (.int p1), .val (.int p2), .val (.int (1 : Int32)), .val (.int (0 : Int32)), .val (.ref w_INCONCLUSIVE), .val (.ref w_FALSE), .unset] [(.ref w_FALSE), (.ref w_INCONCLUSIVE)])) _
        refine st28.trans ?_
        show Steps p.tables e below (T28.setTop (mkF m 33 #[.val (.int p1), .val (.int p2), .val (.int (1 : Int32)), .val (.int (0 : Int32)), .val (.ref w_INCONCLUSIVE), .val (.ref w_FALSE), .unset] [(.ref w_INCONCLUSIVE)])) _
        refine XS.astore X28.here hx rfl (hb hby at_33) rfl rfl (l' := #[.val (.int p1), .val (.int p2), .val (.int (1 : Int32)), .val (.int (0 : Int32)), .val (.ref w_INCONCLUSIVE), .val (.ref w_FALSE), .val (.ref w_INCONCLUSIVE)]) rfl ?_
        show Steps p.tables e below (T28.setTop (mkF m 35 #[.val (.int p1), .val (.int p2), .val (.int (1 : Int32)), .val (.int (0 : Int32)), .val (.ref w_INCONCLUSIVE), .val (.ref w_FALSE), .val (.ref w_INCONCLUSIVE)] [])) _
        refine XS.aload X28.here hx rfl (hb hby at_35) rfl rfl ?_
        show Steps p.tables e below (T28.setTop (mkF m 37 #[.val (.int p1), .val (.int p2), .val (.int (1 : Int32)), .val (.int (0 : Int32)), .val (.ref w_INCONCLUSIVE), .val (.ref w_FALSE), .val (.ref w_INCONCLUSIVE)] [(.ref w_INCONCLUSIVE)])) _
        refine XS.iloadN X28.here hx rfl (hb hby at_37) rfl ?_
        show Steps p.tables e below (T28.setTop (mkF m 38 #[.val (.int p1), .val (.int p2), .val (.int (1 : Int32)), .val (.int (0 : Int32)), .val (.ref w_INCONCLUSIVE), .val (.ref w_FALSE), .val (.ref w_INCONCLUSIVE)] [(.int (1 : Int32)), (.ref w_INCONCLUSIVE)])) _
        refine XS.iloadN X28.here hx rfl (hb hby at_38) rfl ?_
        show Steps p.tables e below (T28.setTop (mkF m 39 #[.val (.int p1), .val (.int p2), .val (.int (1 : Int32)), .val (.int (0 : Int32)), .val (.ref w_INCONCLUSIVE), .val (.ref w_FALSE), .val (.ref w_INCONCLUSIVE)] [(.int (0 : Int32)), (.int (1 : Int32)), (.ref w_INCONCLUSIVE)])) _
        refine st30 _ ?_
        show Steps p.tables e below (T30.setTop (mkF m 42 #[.val (.int p1), .val (.int p2), .val (.int (1 : Int32)), .val (.int (0 : Int32)), .val (.ref w_INCONCLUSIVE), .val (.ref w_FALSE), .val (.ref w_INCONCLUSIVE)] [(.int (1 : Int32)), (.ref w_INCONCLUSIVE)])) _
        refine st31 _ ?_
        show Steps p.tables e below (T31.setTop (mkF m 45 #[.val (.int p1), .val (.int p2), .val (.int (1 : Int32)), .val (.int (0 : Int32)), .val (.ref w_INCONCLUSIVE), .val (.ref w_FALSE), .val (.ref w_INCONCLUSIVE)] [(.ref w_INCONCLUSIVE), (.ref w_INCONCLUSIVE)])) _
        refine Jvm.RoadKit.acmp (g := (mkF m 45 #[.val (.int p1), .val (.int p2), .val (.int (1 : Int32)), .val (.int (0 : Int32)), .val (.ref w_INCONCLUSIVE), .val (.ref w_FALSE), .val (.ref w_INCONCLUSIVE)] [(.ref w_INCONCLUSIVE), (.ref w_INCONCLUSIVE)])) X31 hx rfl rfl rfl (pc0 := 45) (pc' := 48) (same := true) rfl (hb hby at_45) rfl (decide_eq_true (congrArg Value.ref (rfl : w_INCONCLUSIVE = w_INCONCLUSIVE))) (by decide) (by decide) ?_
        show Steps p.tables e below (T31.setTop (mkF m 48 #[.val (.int p1), .val (.int p2), .val (.int (1 : Int32)), .val (.int (0 : Int32)), .val (.ref w_INCONCLUSIVE), .val (.ref w_FALSE), .val (.ref w_INCONCLUSIVE)] [])) _
        refine XT.iconstV X31.here hx rfl (1 : Int32) (hb hby at_48) (by decide) ?_
        show Steps p.tables e below (T31.setTop (mkF m 49 #[.val (.int p1), .val (.int p2), .val (.int (1 : Int32)), .val (.int (0 : Int32)), .val (.ref w_INCONCLUSIVE), .val (.ref w_FALSE), .val (.ref w_INCONCLUSIVE)] [(.int (1 : Int32))])) _
        refine XS.goto X31.here hx rfl (pc0 := 49) (pc' := 53) rfl (hb hby at_49) (by decide) (by decide) ?_
        show Steps p.tables e below (T31.setTop (mkF m 53 #[.val (.int p1), .val (.int p2), .val (.int (1 : Int32)), .val (.int (0 : Int32)), .val (.ref w_INCONCLUSIVE), .val (.ref w_FALSE), .val (.ref w_INCONCLUSIVE)] [(.int (1 : Int32))])) _
        exact retN X31 hx (t := .boolean) Bd.returns (by simp) (hb hby at_53) hr32
      · show Q0 Z _ _ _ _ _ h0 n0 _ T31.heap _
        rw [e31]
        exact ⟨rfl, N31⟩
    ·
      rw [hv25] at pre1
      obtain ⟨_, _, ⟨T33, L33, k33, n33⟩, -, X33, ⟨Lc33, hQ33, l33, y33, z33⟩, st33⟩ := Jvm.LawKit.callS X0 hx (y := (⟨"com/example/gatewarden/gatewarden/policy/TruthOrPinLaw", "pick", "(I)Lcom/example/gatewarden/gatewarden/policy/Truth;"⟩ : MethodName)) hown (mvT hZ (hw _ (List.mem_of_getElem? (i := 1) rfl))) (mvT hZ (hw _ (List.mem_of_getElem? (i := 2) rfl))) (mvT hZ (hw _ (List.mem_of_getElem? (i := 3) rfl))) (mvT hZ (hw _ (List.mem_of_getElem? (i := 4) rfl))) (by decide) (backOf (W := 0) (rm1 l Z a0 hw [] (1 : Int32) w_FALSE w_INCONCLUSIVE w_TRUE w_INCONCLUSIVE h0 n0 S_FALSE S_INCONCLUSIVE S_TRUE (by unfold own_pick; rw [if_neg ((by decide) : ¬ ((1 : Int32) = (0 : Int32))), if_pos (rfl : (1 : Int32) = (1 : Int32))])) hZ (hw _ (List.mem_of_getElem? (i := 4) rfl)) (hw _ (List.mem_of_getElem? (i := 3) rfl)) (by decide) (by decide)) (g := (mkF m 15 #[.val (.int p1), .val (.int p2), .val (.int (1 : Int32)), .val (.int (1 : Int32)), .unset, .unset, .unset] [(.int (1 : Int32))])) rfl (by rw [hml]; rfl) (argsL := [(.int (1 : Int32))]) (rest := []) (lenOf (show parseMethodDescriptor "(I)Lcom/example/gatewarden/gatewarden/policy/Truth;" = some ⟨[.int], some (.object "com/example/gatewarden/gatewarden/policy/Truth")⟩ by decide +kernel) rfl) rfl (by show 2 * 0 + _ ≤ _; exact Nat.le_of_eq rfl) (hb hby at_15) (fun _ _ => ⟨rfl, e0, (by decide : 0 + 0 ≤ _), (by decide : 0 + 0 ≤ _)⟩)
      dsimp only [Pt.U, Pt.locs, Pt.cells, Pt.slots] at X33 l33 y33 z33 st33 hQ33
      subst l33 y33 z33
      obtain ⟨rfl, Nq33, e33⟩ := hQ33
      have N33 := Fr.app N0 Nq33
      obtain ⟨_, _, ⟨T34, L34, k34, n34⟩, -, X34, ⟨Lc34, hQ34, l34, y34, z34⟩, st34⟩ := Jvm.LawKit.callS X33 hx (y := (⟨"com/example/gatewarden/gatewarden/policy/TruthOrPinLaw", "pick", "(I)Lcom/example/gatewarden/gatewarden/policy/Truth;"⟩ : MethodName)) hown (mvT hZ (hw _ (List.mem_of_getElem? (i := 1) rfl))) (mvT hZ (hw _ (List.mem_of_getElem? (i := 2) rfl))) (mvT hZ (hw _ (List.mem_of_getElem? (i := 3) rfl))) (mvT hZ (hw _ (List.mem_of_getElem? (i := 4) rfl))) (by decide) (backOf (W := 0) (rm1 l Z a0 hw [] (1 : Int32) w_FALSE w_INCONCLUSIVE w_TRUE w_INCONCLUSIVE h0 n0 S_FALSE S_INCONCLUSIVE S_TRUE (by unfold own_pick; rw [if_neg ((by decide) : ¬ ((1 : Int32) = (0 : Int32))), if_pos (rfl : (1 : Int32) = (1 : Int32))])) hZ (hw _ (List.mem_of_getElem? (i := 4) rfl)) (hw _ (List.mem_of_getElem? (i := 3) rfl)) (by decide) (by decide)) (g := (mkF m 21 #[.val (.int p1), .val (.int p2), .val (.int (1 : Int32)), .val (.int (1 : Int32)), .val (.ref w_INCONCLUSIVE), .unset, .unset] [(.int (1 : Int32))])) rfl (by rw [hml]; rfl) (argsL := [(.int (1 : Int32))]) (rest := []) (lenOf (show parseMethodDescriptor "(I)Lcom/example/gatewarden/gatewarden/policy/Truth;" = some ⟨[.int], some (.object "com/example/gatewarden/gatewarden/policy/Truth")⟩ by decide +kernel) rfl) rfl (by show 2 * 0 + _ ≤ _; exact Nat.le_of_eq rfl) (hb hby at_21) (fun _ _ => ⟨rfl, e33, (by decide : 0 + 0 ≤ _), (by decide : 0 + 0 ≤ _)⟩)
      dsimp only [Pt.U, Pt.locs, Pt.cells, Pt.slots] at X34 l34 y34 z34 st34 hQ34
      subst l34 y34 z34
      obtain ⟨rfl, Nq34, e34⟩ := hQ34
      have N34 := Fr.app N33 Nq34
      obtain ⟨cq36, kq36, q36a, q36b, q36c⟩ := isOf hZ e34 E_INCONCLUSIVE
      obtain ⟨_, _, ⟨T35, L35, k35, n35⟩, -, X35, ⟨Lc35, hQ35, l35, y35, z35⟩, st35⟩ := X34.virtualBack hx (y := (⟨"com/example/gatewarden/gatewarden/policy/Truth", "or", "(Lcom/example/gatewarden/gatewarden/policy/Truth;)Lcom/example/gatewarden/gatewarden/policy/Truth;"⟩ : MethodName)) (z := (⟨"com/example/gatewarden/gatewarden/policy/Truth", "or", "(Lcom/example/gatewarden/gatewarden/policy/Truth;)Lcom/example/gatewarden/gatewarden/policy/Truth;"⟩ : MethodName)) hown (mvT hZ (hw _ (List.mem_of_getElem? (i := 8) rfl))) (mvT hZ (hw _ (List.mem_of_getElem? (i := 9) rfl))) (notFace_of_selects (args := #[]) (mvT hZ (hw _ (List.mem_of_getElem? (i := 11) rfl)))) (mvT hZ (hw _ (List.mem_of_getElem? (i := 11) rfl))) (mvT hZ (hw _ (List.mem_of_getElem? (i := 10) rfl))) (by decide) (backOf (W := 0) (rm2 l Z a0 hw [] w_INCONCLUSIVE w_INCONCLUSIVE w_FALSE w_INCONCLUSIVE w_TRUE w_INCONCLUSIVE h0 n0 S_FALSE S_INCONCLUSIVE S_TRUE (by unfold own_or; rw [if_neg ((Fld.ne O_INCONCLUSIVE O_TRUE (fun q => absurd (Value.int.inj q) (by decide))) : ¬ (w_INCONCLUSIVE = w_TRUE)), if_neg ((Fld.ne O_INCONCLUSIVE O_TRUE (fun q => absurd (Value.int.inj q) (by decide))) : ¬ (w_INCONCLUSIVE = w_TRUE)), if_pos (rfl : w_INCONCLUSIVE = w_INCONCLUSIVE)])) hZ (hw _ (List.mem_of_getElem? (i := 12) rfl)) (hw _ (List.mem_of_getElem? (i := 6) rfl)) (by decide) (by decide)) q36a q36c (g := (mkF m 30 #[.val (.int p1), .val (.int p2), .val (.int (1 : Int32)), .val (.int (1 : Int32)), .val (.ref w_INCONCLUSIVE), .val (.ref w_INCONCLUSIVE), .unset] [(.ref w_INCONCLUSIVE), (.ref w_INCONCLUSIVE)])) rfl (by rw [hml]; rfl) (Steps.refl _) (argsL := [(.ref w_INCONCLUSIVE)]) (rest := []) (lenOf (show parseMethodDescriptor "(Lcom/example/gatewarden/gatewarden/policy/Truth;)Lcom/example/gatewarden/gatewarden/policy/Truth;" = some ⟨[.object "com/example/gatewarden/gatewarden/policy/Truth"], some (.object "com/example/gatewarden/gatewarden/policy/Truth")⟩ by decide +kernel) rfl) rfl (by show 2 * 0 + _ ≤ _; exact Nat.le_of_eq rfl) (hb hby at_30) (fun _ _ => ⟨rfl, e34, (by decide : 0 + 0 ≤ _), (by decide : 0 + 0 ≤ _)⟩)
      dsimp only [Pt.U, Pt.locs, Pt.cells, Pt.slots] at X35 l35 y35 z35 st35 hQ35
      subst l35 y35 z35
      obtain ⟨rfl, Nq35, e35⟩ := hQ35
      have N35 := Fr.app N34 Nq35
      obtain ⟨_, _, ⟨T37, L37, k37, n37⟩, -, X37, ⟨Lc37, hQ37, l37, y37, z37⟩, st37⟩ := Jvm.LawKit.callS X35 hx (y := (⟨"java/lang/Math", "max", "(II)I"⟩ : MethodName)) hown (mvT hZ (hw _ (List.mem_of_getElem? (i := 18) rfl))) (mvT hZ (hw _ (List.mem_of_getElem? (i := 19) rfl))) (mvT hZ (hw _ (List.mem_of_getElem? (i := 20) rfl))) (mvT hZ (hw _ (List.mem_of_getElem? (i := 21) rfl))) (by decide) (backOf (W := 1) (rm3 l Z a0 hw [] (1 : Int32) (1 : Int32) (1 : Int32) h0 n0 (by unfold own_max; rw [if_neg ((by decide) : ¬ ((1 : Int32) < (1 : Int32)))])) hZ (hw _ (List.mem_of_getElem? (i := 21) rfl)) (hw _ (List.mem_of_getElem? (i := 20) rfl)) (by decide) (by decide)) (g := (mkF m 39 #[.val (.int p1), .val (.int p2), .val (.int (1 : Int32)), .val (.int (1 : Int32)), .val (.ref w_INCONCLUSIVE), .val (.ref w_INCONCLUSIVE), .val (.ref w_INCONCLUSIVE)] [(.int (1 : Int32)), (.int (1 : Int32)), (.ref w_INCONCLUSIVE)])) rfl (by rw [hml]; rfl) (argsL := [(.int (1 : Int32)), (.int (1 : Int32))]) (rest := [(.ref w_INCONCLUSIVE)]) (lenOf (show parseMethodDescriptor "(II)I" = some ⟨[.int, .int], some .int⟩ by decide +kernel) rfl) rfl (by show 2 * 0 + _ ≤ _; exact Nat.le_of_eq rfl) (hb hby at_39) (fun _ _ => ⟨rfl, e35, (by decide : 0 + 0 ≤ _), (by decide : 0 + 0 ≤ _)⟩)
      dsimp only [Pt.U, Pt.locs, Pt.cells, Pt.slots] at X37 l37 y37 z37 st37 hQ37
      subst l37 y37 z37
      obtain ⟨rfl, Nq37, e37⟩ := hQ37
      have N37 := Fr.app N35 Nq37
      obtain ⟨_, _, ⟨T38, L38, k38, n38⟩, -, X38, ⟨Lc38, hQ38, l38, y38, z38⟩, st38⟩ := Jvm.LawKit.callS X37 hx (y := (⟨"com/example/gatewarden/gatewarden/policy/TruthOrPinLaw", "pick", "(I)Lcom/example/gatewarden/gatewarden/policy/Truth;"⟩ : MethodName)) hown (mvT hZ (hw _ (List.mem_of_getElem? (i := 1) rfl))) (mvT hZ (hw _ (List.mem_of_getElem? (i := 2) rfl))) (mvT hZ (hw _ (List.mem_of_getElem? (i := 3) rfl))) (mvT hZ (hw _ (List.mem_of_getElem? (i := 4) rfl))) (by decide) (backOf (W := 1) (rm1 l Z a0 hw [] (1 : Int32) w_FALSE w_INCONCLUSIVE w_TRUE w_INCONCLUSIVE h0 n0 S_FALSE S_INCONCLUSIVE S_TRUE (by unfold own_pick; rw [if_neg ((by decide) : ¬ ((1 : Int32) = (0 : Int32))), if_pos (rfl : (1 : Int32) = (1 : Int32))])) hZ (hw _ (List.mem_of_getElem? (i := 4) rfl)) (hw _ (List.mem_of_getElem? (i := 3) rfl)) (by decide) (by decide)) (g := (mkF m 42 #[.val (.int p1), .val (.int p2), .val (.int (1 : Int32)), .val (.int (1 : Int32)), .val (.ref w_INCONCLUSIVE), .val (.ref w_INCONCLUSIVE), .val (.ref w_INCONCLUSIVE)] [(.int (1 : Int32)), (.ref w_INCONCLUSIVE)])) rfl (by rw [hml]; rfl) (argsL := [(.int (1 : Int32))]) (rest := [(.ref w_INCONCLUSIVE)]) (lenOf (show parseMethodDescriptor "(I)Lcom/example/gatewarden/gatewarden/policy/Truth;" = some ⟨[.int], some (.object "com/example/gatewarden/gatewarden/policy/Truth")⟩ by decide +kernel) rfl) rfl (by show 2 * 0 + _ ≤ _; exact Nat.le_of_eq rfl) (hb hby at_42) (fun _ _ => ⟨rfl, e37, (by decide : 0 + 0 ≤ _), (by decide : 0 + 0 ≤ _)⟩)
      dsimp only [Pt.U, Pt.locs, Pt.cells, Pt.slots] at X38 l38 y38 z38 st38 hQ38
      subst l38 y38 z38
      obtain ⟨rfl, Nq38, e38⟩ := hQ38
      have N38 := Fr.app N37 Nq38
      obtain ⟨fs, hr39, hrun, hended, hW, hsame⟩ := X38.leave (v := some (.int (1 : Int32))) (fun h => by rw [Bd.returns] at h; cases h)
      refine ⟨_, _, pre1 _ ?_, hrun, hended, _, _, rfl, ?_, ⟨_, rfl⟩, hW, hsame.mono (by decide) (by decide)⟩
      · show Steps p.tables e below (s₁.setTop (mkF m 14 #[.val (.int p1), .val (.int p2), .val (.int (1 : Int32)), .val (.int (1 : Int32)), .unset, .unset, .unset] [])) _
        refine XS.iloadN X0.here hx rfl (hb hby at_14) rfl ?_
        show Steps p.tables e below (s₁.setTop (mkF m 15 #[.val (.int p1), .val (.int p2), .val (.int (1 : Int32)), .val (.int (1 : Int32)), .unset, .unset, .unset] [(.int (1 : Int32))])) _
        refine st33 _ ?_
        show Steps p.tables e below (T33.setTop (mkF m 18 #[.val (.int p1), .val (.int p2), .val (.int (1 : Int32)), .val (.int (1 : Int32)), .unset, .unset, .unset] [(.ref w_INCONCLUSIVE)])) _
        refine XS.astore X33.here hx rfl (hb hby at_18) rfl rfl (l' := #[.val (.int p1), .val (.int p2), .val (.int (1 : Int32)), .val (.int (1 : Int32)), .val (.ref w_INCONCLUSIVE), .unset, .unset]) rfl ?_
        show Steps p.tables e below (T33.setTop (mkF m 20 #[.val (.int p1), .val (.int p2), .val (.int (1 : Int32)), .val (.int (1 : Int32)), .val (.ref w_INCONCLUSIVE), .unset, .unset] [])) _
        refine XS.iloadN X33.here hx rfl (hb hby at_20) rfl ?_
        show Steps p.tables e below (T33.setTop (mkF m 21 #[.val (.int p1), .val (.int p2), .val (.int (1 : Int32)), .val (.int (1 : Int32)), .val (.ref w_INCONCLUSIVE), .unset, .unset] [(.int (1 : Int32))])) _
        refine st34 _ ?_
        show Steps p.tables e below (T34.setTop (mkF m 24 #[.val (.int p1), .val (.int p2), .val (.int (1 : Int32)), .val (.int (1 : Int32)), .val (.ref w_INCONCLUSIVE), .unset, .unset] [(.ref w_INCONCLUSIVE)])) _
        refine XS.astore X34.here hx rfl (hb hby at_24) rfl rfl (l' := #[.val (.int p1), .val (.int p2), .val (.int (1 : Int32)), .val (.int (1 : Int32)), .val (.ref w_INCONCLUSIVE), .val (.ref w_INCONCLUSIVE), .unset]) rfl ?_
        show Steps p.tables e below (T34.setTop (mkF m 26 #[.val (.int p1), .val (.int p2), .val (.int (1 : Int32)), .val (.int (1 : Int32)), .val (.ref w_INCONCLUSIVE), .val (.ref w_INCONCLUSIVE), .unset] [])) _
        refine XS.aload X34.here hx rfl (hb hby at_26) rfl rfl ?_
        show Steps p.tables e below (T34.setTop (mkF m 28 #[.val (.int p1), .val (.int p2), .val (.int (1 : Int32)), .val (.int (1 : Int32)), .val (.ref w_INCONCLUSIVE), .val (.ref w_INCONCLUSIVE), .unset] [(.ref w_INCONCLUSIVE)])) _
        refine XS.aload X34.here hx rfl (hb hby at_28) rfl rfl ?_
        show Steps p.tables e below (T34.setTop (mkF m 30 #[.val (.int p1), .val (.int p2), .val (.int (1 : Int32)), .val (.int (1 : Int32)), .val (.ref w_INCONCLUSIVE), .val (.ref w_INCONCLUSIVE), .unset] [(.ref w_INCONCLUSIVE), (.ref w_INCONCLUSIVE)])) _
        refine st35.trans ?_
        show Steps p.tables e below (T35.setTop (mkF m 33 #[.val (.int p1), .val (.int p2), .val (.int (1 : Int32)), .val (.int (1 : Int32)), .val (.ref w_INCONCLUSIVE), .val (.ref w_INCONCLUSIVE), .unset] [(.ref w_INCONCLUSIVE)])) _
        refine XS.astore X35.here hx rfl (hb hby at_33) rfl rfl (l' := #[.val (.int p1), .val (.int p2), .val (.int (1 : Int32)), .val (.int (1 : Int32)), .val (.ref w_INCONCLUSIVE), .val (.ref w_INCONCLUSIVE), .val (.ref w_INCONCLUSIVE)]) rfl ?_
        show Steps p.tables e below (T35.setTop (mkF m 35 #[.val (.int p1), .val (.int p2), .val (.int (1 : Int32)), .val (.int (1 : Int32)), .val (.ref w_INCONCLUSIVE), .val (.ref w_INCONCLUSIVE), .val (.ref w_INCONCLUSIVE)] [])) _
        refine XS.aload X35.here hx rfl (hb hby at_35) rfl rfl ?_
        show Steps p.tables e below (T35.setTop (mkF m 37 #[.val (.int p1), .val (.int p2), .val (.int (1 : Int32)), .val (.int (1 : Int32)), .val (.ref w_INCONCLUSIVE), .val (.ref w_INCONCLUSIVE), .val (.ref w_INCONCLUSIVE)] [(.ref w_INCONCLUSIVE)])) _
        refine XS.iloadN X35.here hx rfl (hb hby at_37) rfl ?_
        show Steps p.tables e below (T35.setTop (mkF m 38 #[.val (.int p1), .val (.int p2), .val (.int (1 : Int32)), .val (.int (1 : Int32)), .val (.ref w_INCONCLUSIVE), .val (.ref w_INCONCLUSIVE), .val (.ref w_INCONCLUSIVE)] [(.int (1 : Int32)), (.ref w_INCONCLUSIVE)])) _
        refine XS.iloadN X35.here hx rfl (hb hby at_38) rfl ?_
        show Steps p.tables e below (T35.setTop (mkF m 39 #[.val (.int p1), .val (.int p2), .val (.int (1 : Int32)), .val (.int (1 : Int32)), .val (.ref w_INCONCLUSIVE), .val (.ref w_INCONCLUSIVE), .val (.ref w_INCONCLUSIVE)] [(.int (1 : Int32)), (.int (1 : Int32)), (.ref w_INCONCLUSIVE)])) _
        refine st37 _ ?_
        show Steps p.tables e below (T37.setTop (mkF m 42 #[.val (.int p1), .val (.int p2), .val (.int (1 : Int32)), .val (.int (1 : Int32)), .val (.ref w_INCONCLUSIVE), .val (.ref w_INCONCLUSIVE), .val (.ref w_INCONCLUSIVE)] [(.int (1 : Int32)), (.ref w_INCONCLUSIVE)])) _
        refine st38 _ ?_
        show Steps p.tables e below (T38.setTop (mkF m 45 #[.val (.int p1), .val (.int p2), .val (.int (1 : Int32)), .val (.int (1 : Int32)), .val (.ref w_INCONCLUSIVE), .val (.ref w_INCONCLUSIVE), .val (.ref w_INCONCLUSIVE)] [(.ref w_INCONCLUSIVE), (.ref w_INCONCLUSIVE)])) _
        refine Jvm.RoadKit.acmp (g := (mkF m 45 #[.val (.int p1), .val (.int p2), .val (.int (1 : Int32)), .val (.int (1 : Int32)), .val (.ref w_INCONCLUSIVE), .val (.ref w_INCONCLUSIVE), .val (.ref w_INCONCLUSIVE)] [(.ref w_INCONCLUSIVE), (.ref w_INCONCLUSIVE)])) X38 hx rfl rfl rfl (pc0 := 45) (pc' := 48) (same := true) rfl (hb hby at_45) rfl (decide_eq_true (congrArg Value.ref (rfl : w_INCONCLUSIVE = w_INCONCLUSIVE))) (by decide) (by decide) ?_
        show Steps p.tables e below (T38.setTop (mkF m 48 #[.val (.int p1), .val (.int p2), .val (.int (1 : Int32)), .val (.int (1 : Int32)), .val (.ref w_INCONCLUSIVE), .val (.ref w_INCONCLUSIVE), .val (.ref w_INCONCLUSIVE)] [])) _
        refine XT.iconstV X38.here hx rfl (1 : Int32) (hb hby at_48) (by decide) ?_
        show Steps p.tables e below (T38.setTop (mkF m 49 #[.val (.int p1), .val (.int p2), .val (.int (1 : Int32)), .val (.int (1 : Int32)), .val (.ref w_INCONCLUSIVE), .val (.ref w_INCONCLUSIVE), .val (.ref w_INCONCLUSIVE)] [(.int (1 : Int32))])) _
        refine XS.goto X38.here hx rfl (pc0 := 49) (pc' := 53) rfl (hb hby at_49) (by decide) (by decide) ?_
        show Steps p.tables e below (T38.setTop (mkF m 53 #[.val (.int p1), .val (.int p2), .val (.int (1 : Int32)), .val (.int (1 : Int32)), .val (.ref w_INCONCLUSIVE), .val (.ref w_INCONCLUSIVE), .val (.ref w_INCONCLUSIVE)] [(.int (1 : Int32))])) _
        exact retN X38 hx (t := .boolean) Bd.returns (by simp) (hb hby at_53) hr39
      · show Q0 Z _ _ _ _ _ h0 n0 _ T38.heap _
        rw [e38]
        exact ⟨rfl, N38⟩
    ·
      rw [hv25] at pre1
      obtain ⟨_, _, ⟨T40, L40, k40, n40⟩, -, X40, ⟨Lc40, hQ40, l40, y40, z40⟩, st40⟩ := Jvm.LawKit.callS X0 hx (y := (⟨"com/example/gatewarden/gatewarden/policy/TruthOrPinLaw", "pick", "(I)Lcom/example/gatewarden/gatewarden/policy/Truth;"⟩ : MethodName)) hown (mvT hZ (hw _ (List.mem_of_getElem? (i := 1) rfl))) (mvT hZ (hw _ (List.mem_of_getElem? (i := 2) rfl))) (mvT hZ (hw _ (List.mem_of_getElem? (i := 3) rfl))) (mvT hZ (hw _ (List.mem_of_getElem? (i := 4) rfl))) (by decide) (backOf (W := 0) (rm1 l Z a0 hw [] (1 : Int32) w_FALSE w_INCONCLUSIVE w_TRUE w_INCONCLUSIVE h0 n0 S_FALSE S_INCONCLUSIVE S_TRUE (by unfold own_pick; rw [if_neg ((by decide) : ¬ ((1 : Int32) = (0 : Int32))), if_pos (rfl : (1 : Int32) = (1 : Int32))])) hZ (hw _ (List.mem_of_getElem? (i := 4) rfl)) (hw _ (List.mem_of_getElem? (i := 3) rfl)) (by decide) (by decide)) (g := (mkF m 15 #[.val (.int p1), .val (.int p2), .val (.int (1 : Int32)), .val (.int (2 : Int32)), .unset, .unset, .unset] [(.int (1 : Int32))])) rfl (by rw [hml]; rfl) (argsL := [(.int (1 : Int32))]) (rest := []) (lenOf (show parseMethodDescriptor "(I)Lcom/example/gatewarden/gatewarden/policy/Truth;" = some ⟨[.int], some (.object "com/example/gatewarden/gatewarden/policy/Truth")⟩ by decide +kernel) rfl) rfl (by show 2 * 0 + _ ≤ _; exact Nat.le_of_eq rfl) (hb hby at_15) (fun _ _ => ⟨rfl, e0, (by decide : 0 + 0 ≤ _), (by decide : 0 + 0 ≤ _)⟩)
      dsimp only [Pt.U, Pt.locs, Pt.cells, Pt.slots] at X40 l40 y40 z40 st40 hQ40
      subst l40 y40 z40
      obtain ⟨rfl, Nq40, e40⟩ := hQ40
      have N40 := Fr.app N0 Nq40
      obtain ⟨_, _, ⟨T41, L41, k41, n41⟩, -, X41, ⟨Lc41, hQ41, l41, y41, z41⟩, st41⟩ := Jvm.LawKit.callS X40 hx (y := (⟨"com/example/gatewarden/gatewarden/policy/TruthOrPinLaw", "pick", "(I)Lcom/example/gatewarden/gatewarden/policy/Truth;"⟩ : MethodName)) hown (mvT hZ (hw _ (List.mem_of_getElem? (i := 1) rfl))) (mvT hZ (hw _ (List.mem_of_getElem? (i := 2) rfl))) (mvT hZ (hw _ (List.mem_of_getElem? (i := 3) rfl))) (mvT hZ (hw _ (List.mem_of_getElem? (i := 4) rfl))) (by decide) (backOf (W := 0) (rm1 l Z a0 hw [] (2 : Int32) w_FALSE w_INCONCLUSIVE w_TRUE w_TRUE h0 n0 S_FALSE S_INCONCLUSIVE S_TRUE (by unfold own_pick; rw [if_neg ((by decide) : ¬ ((2 : Int32) = (0 : Int32))), if_neg ((by decide) : ¬ ((2 : Int32) = (1 : Int32)))])) hZ (hw _ (List.mem_of_getElem? (i := 4) rfl)) (hw _ (List.mem_of_getElem? (i := 3) rfl)) (by decide) (by decide)) (g := (mkF m 21 #[.val (.int p1), .val (.int p2), .val (.int (1 : Int32)), .val (.int (2 : Int32)), .val (.ref w_INCONCLUSIVE), .unset, .unset] [(.int (2 : Int32))])) rfl (by rw [hml]; rfl) (argsL := [(.int (2 : Int32))]) (rest := []) (lenOf (show parseMethodDescriptor "(I)Lcom/example/gatewarden/gatewarden/policy/Truth;" = some ⟨[.int], some (.object "com/example/gatewarden/gatewarden/policy/Truth")⟩ by decide +kernel) rfl) rfl (by show 2 * 0 + _ ≤ _; exact Nat.le_of_eq rfl) (hb hby at_21) (fun _ _ => ⟨rfl, e40, (by decide : 0 + 0 ≤ _), (by decide : 0 + 0 ≤ _)⟩)
      dsimp only [Pt.U, Pt.locs, Pt.cells, Pt.slots] at X41 l41 y41 z41 st41 hQ41
      subst l41 y41 z41
      obtain ⟨rfl, Nq41, e41⟩ := hQ41
      have N41 := Fr.app N40 Nq41
      obtain ⟨cq43, kq43, q43a, q43b, q43c⟩ := isOf hZ e41 E_INCONCLUSIVE
      obtain ⟨_, _, ⟨T42, L42, k42, n42⟩, -, X42, ⟨Lc42, hQ42, l42, y42, z42⟩, st42⟩ := X41.virtualBack hx (y := (⟨"com/example/gatewarden/gatewarden/policy/Truth", "or", "(Lcom/example/gatewarden/gatewarden/policy/Truth;)Lcom/example/gatewarden/gatewarden/policy/Truth;"⟩ : MethodName)) (z := (⟨"com/example/gatewarden/gatewarden/policy/Truth", "or", "(Lcom/example/gatewarden/gatewarden/policy/Truth;)Lcom/example/gatewarden/gatewarden/policy/Truth;"⟩ : MethodName)) hown (mvT hZ (hw _ (List.mem_of_getElem? (i := 8) rfl))) (mvT hZ (hw _ (List.mem_of_getElem? (i := 9) rfl))) (notFace_of_selects (args := #[]) (mvT hZ (hw _ (List.mem_of_getElem? (i := 11) rfl)))) (mvT hZ (hw _ (List.mem_of_getElem? (i := 11) rfl))) (mvT hZ (hw _ (List.mem_of_getElem? (i := 10) rfl))) (by decide) (backOf (W := 0) (rm2 l Z a0 hw [] w_INCONCLUSIVE w_TRUE w_FALSE w_INCONCLUSIVE w_TRUE w_TRUE h0 n0 S_FALSE S_INCONCLUSIVE S_TRUE (by unfold own_or; rw [if_neg ((Fld.ne O_INCONCLUSIVE O_TRUE (fun q => absurd (Value.int.inj q) (by decide))) : ¬ (w_INCONCLUSIVE = w_TRUE)), if_pos (rfl : w_TRUE = w_TRUE)])) hZ (hw _ (List.mem_of_getElem? (i := 12) rfl)) (hw _ (List.mem_of_getElem? (i := 6) rfl)) (by decide) (by decide)) q43a q43c (g := (mkF m 30 #[.val (.int p1), .val (.int p2), .val (.int (1 : Int32)), .val (.int (2 : Int32)), .val (.ref w_INCONCLUSIVE), .val (.ref w_TRUE), .unset] [(.ref w_TRUE), (.ref w_INCONCLUSIVE)])) rfl (by rw [hml]; rfl) (Steps.refl _) (argsL := [(.ref w_TRUE)]) (rest := []) (lenOf (show parseMethodDescriptor "(Lcom/example/gatewarden/gatewarden/policy/Truth;)Lcom/example/gatewarden/gatewarden/policy/Truth;" = some ⟨[.object "com/example/gatewarden/gatewarden/policy/Truth"], some (.object "com/example/gatewarden/gatewarden/policy/Truth")⟩ by decide +kernel) rfl) rfl (by show 2 * 0 + _ ≤ _; exact Nat.le_of_eq rfl) (hb hby at_30) (fun _ _ => ⟨rfl, e41, (by decide : 0 + 0 ≤ _), (by decide : 0 + 0 ≤ _)⟩)
      dsimp only [Pt.U, Pt.locs, Pt.cells, Pt.slots] at X42 l42 y42 z42 st42 hQ42
      subst l42 y42 z42
      obtain ⟨rfl, Nq42, e42⟩ := hQ42
      have N42 := Fr.app N41 Nq42
      obtain ⟨_, _, ⟨T44, L44, k44, n44⟩, -, X44, ⟨Lc44, hQ44, l44, y44, z44⟩, st44⟩ := Jvm.LawKit.callS X42 hx (y := (⟨"java/lang/Math", "max", "(II)I"⟩ : MethodName)) hown (mvT hZ (hw _ (List.mem_of_getElem? (i := 18) rfl))) (mvT hZ (hw _ (List.mem_of_getElem? (i := 19) rfl))) (mvT hZ (hw _ (List.mem_of_getElem? (i := 20) rfl))) (mvT hZ (hw _ (List.mem_of_getElem? (i := 21) rfl))) (by decide) (backOf (W := 1) (rm3 l Z a0 hw [] (1 : Int32) (2 : Int32) (2 : Int32) h0 n0 (by unfold own_max; rw [if_pos ((by decide) : (1 : Int32) < (2 : Int32))])) hZ (hw _ (List.mem_of_getElem? (i := 21) rfl)) (hw _ (List.mem_of_getElem? (i := 20) rfl)) (by decide) (by decide)) (g := (mkF m 39 #[.val (.int p1), .val (.int p2), .val (.int (1 : Int32)), .val (.int (2 : Int32)), .val (.ref w_INCONCLUSIVE), .val (.ref w_TRUE), .val (.ref w_TRUE)] [(.int (2 : Int32)), (.int (1 : Int32)), (.ref w_TRUE)])) rfl (by rw [hml]; rfl) (argsL := [(.int (1 : Int32)), (.int (2 : Int32))]) (rest := [(.ref w_TRUE)]) (lenOf (show parseMethodDescriptor "(II)I" = some ⟨[.int, .int], some .int⟩ by decide +kernel) rfl) rfl (by show 2 * 0 + _ ≤ _; exact Nat.le_of_eq rfl) (hb hby at_39) (fun _ _ => ⟨rfl, e42, (by decide : 0 + 0 ≤ _), (by decide : 0 + 0 ≤ _)⟩)
      dsimp only [Pt.U, Pt.locs, Pt.cells, Pt.slots] at X44 l44 y44 z44 st44 hQ44
      subst l44 y44 z44
      obtain ⟨rfl, Nq44, e44⟩ := hQ44
      have N44 := Fr.app N42 Nq44
      obtain ⟨_, _, ⟨T45, L45, k45, n45⟩, -, X45, ⟨Lc45, hQ45, l45, y45, z45⟩, st45⟩ := Jvm.LawKit.callS X44 hx (y := (⟨"com/example/gatewarden/gatewarden/policy/TruthOrPinLaw", "pick", "(I)Lcom/example/gatewarden/gatewarden/policy/Truth;"⟩ : MethodName)) hown (mvT hZ (hw _ (List.mem_of_getElem? (i := 1) rfl))) (mvT hZ (hw _ (List.mem_of_getElem? (i := 2) rfl))) (mvT hZ (hw _ (List.mem_of_getElem? (i := 3) rfl))) (mvT hZ (hw _ (List.mem_of_getElem? (i := 4) rfl))) (by decide) (backOf (W := 1) (rm1 l Z a0 hw [] (2 : Int32) w_FALSE w_INCONCLUSIVE w_TRUE w_TRUE h0 n0 S_FALSE S_INCONCLUSIVE S_TRUE (by unfold own_pick; rw [if_neg ((by decide) : ¬ ((2 : Int32) = (0 : Int32))), if_neg ((by decide) : ¬ ((2 : Int32) = (1 : Int32)))])) hZ (hw _ (List.mem_of_getElem? (i := 4) rfl)) (hw _ (List.mem_of_getElem? (i := 3) rfl)) (by decide) (by decide)) (g := (mkF m 42 #[.val (.int p1), .val (.int p2), .val (.int (1 : Int32)), .val (.int (2 : Int32)), .val (.ref w_INCONCLUSIVE), .val (.ref w_TRUE), .val (.ref w_TRUE)] [(.int (2 : Int32)), (.ref w_TRUE)])) rfl (by rw [hml]; rfl) (argsL := [(.int (2 : Int32))]) (rest := [(.ref w_TRUE)]) (lenOf (show parseMethodDescriptor "(I)Lcom/example/gatewarden/gatewarden/policy/Truth;" = some ⟨[.int], some (.object "com/example/gatewarden/gatewarden/policy/Truth")⟩ by decide +kernel) rfl) rfl (by show 2 * 0 + _ ≤ _; exact Nat.le_of_eq rfl) (hb hby at_42) (fun _ _ => ⟨rfl, e44, (by decide : 0 + 0 ≤ _), (by decide : 0 + 0 ≤ _)⟩)
      dsimp only [Pt.U, Pt.locs, Pt.cells, Pt.slots] at X45 l45 y45 z45 st45 hQ45
      subst l45 y45 z45
      obtain ⟨rfl, Nq45, e45⟩ := hQ45
      have N45 := Fr.app N44 Nq45
      obtain ⟨fs, hr46, hrun, hended, hW, hsame⟩ := X45.leave (v := some (.int (1 : Int32))) (fun h => by rw [Bd.returns] at h; cases h)
      refine ⟨_, _, pre1 _ ?_, hrun, hended, _, _, rfl, ?_, ⟨_, rfl⟩, hW, hsame.mono (by decide) (by decide)⟩
      · show Steps p.tables e below (s₁.setTop (mkF m 14 #[.val (.int p1), .val (.int p2), .val (.int (1 : Int32)), .val (.int (2 : Int32)), .unset, .unset, .unset] [])) _
        refine XS.iloadN X0.here hx rfl (hb hby at_14) rfl ?_
        show Steps p.tables e below (s₁.setTop (mkF m 15 #[.val (.int p1), .val (.int p2), .val (.int (1 : Int32)), .val (.int (2 : Int32)), .unset, .unset, .unset] [(.int (1 : Int32))])) _
        refine st40 _ ?_
        show Steps p.tables e below (T40.setTop (mkF m 18 #[.val (.int p1), .val (.int p2), .val (.int (1 : Int32)), .val (.int (2 : Int32)), .unset, .unset, .unset] [(.ref w_INCONCLUSIVE)])) _
        refine XS.astore X40.here hx rfl (hb hby at_18) rfl rfl (l' := #[.val (.int p1), .val (.int p2), .val (.int (1 : Int32)), .val (.int (2 : Int32)), .val (.ref w_INCONCLUSIVE), .unset, .unset]) rfl ?_
        show Steps p.tables e below (T40.setTop (mkF m 20 #[.val (.int p1), .val (.int p2), .val (.int (1 : Int32)), .val (.int (2 : Int32)), .val (.ref w_INCONCLUSIVE), .unset, .unset] [])) _
        refine XS.iloadN X40.here hx rfl (hb hby at_20) rfl ?_
        show Steps p.tables e below (T40.setTop (mkF m 21 #[.val (.int p1), .val (.int p2), .val (.int (1 : Int32)), .val (.int (2 : Int32)), .val (.ref w_INCONCLUSIVE), .unset, .unset] [(.int (2 : Int32))])) _
        refine st41 _ ?_
        show Steps p.tables e below (T41.setTop (mkF m 24 #[.val (.int p1), .val (.int p2), .val (.int (1 : Int32)), .val (.int (2 : Int32)), .val (.ref w_INCONCLUSIVE), .unset, .unset] [(.ref w_TRUE)])) _
        refine XS.astore X41.here hx rfl (hb hby at_24) rfl rfl (l' := #[.val (.int p1), .val (.int p2), .val (.int (1 : Int32)), .val (.int (2 : Int32)), .val (.ref w_INCONCLUSIVE), .val (.ref w_TRUE), .unset]) rfl ?_
        show Steps p.tables e below (T41.setTop (mkF m 26 #[.val (.int p1), .val (.int p2), .val (.int (1 : Int32)), .val (.int (2 : Int32)), .val (.ref w_INCONCLUSIVE), .val (.ref w_TRUE), .unset] [])) _
        refine XS.aload X41.here hx rfl (hb hby at_26) rfl rfl ?_
        show Steps p.tables e below (T41.setTop (mkF m 28 #[.val (.int p1), .val (.int p2), .val (.int (1 : Int32)), .val (.int (2 : Int32)), .val (.ref w_INCONCLUSIVE), .val (.ref w_TRUE), .unset] [(.ref w_INCONCLUSIVE)])) _
        refine XS.aload X41.here hx rfl (hb hby at_28) rfl rfl ?_
        show Steps p.tables e below (T41.setTop (mkF m 30 #[.val (.int p1), .val (.int p2), .val (.int (1 : Int32)), .val (.int (2 : Int32)), .val (.ref w_INCONCLUSIVE), .val (.ref w_TRUE), .unset] [(.ref w_TRUE), (.ref w_INCONCLUSIVE)])) _
        refine st42.trans ?_
        show Steps p.tables e below (T42.setTop (mkF m 33 #[.val (.int p1), .val (.int p2), .val (.int (1 : Int32)), .val (.int (2 : Int32)), .val (.ref w_INCONCLUSIVE), .val (.ref w_TRUE), .unset] [(.ref w_TRUE)])) _
        refine XS.astore X42.here hx rfl (hb hby at_33) rfl rfl (l' := #[.val (.int p1), .val (.int p2), .val (.int (1 : Int32)), .val (.int (2 : Int32)), .val (.ref w_INCONCLUSIVE), .val (.ref w_TRUE), .val (.ref w_TRUE)]) rfl ?_
        show Steps p.tables e below (T42.setTop (mkF m 35 #[.val (.int p1), .val (.int p2), .val (.int (1 : Int32)), .val (.int (2 : Int32)), .val (.ref w_INCONCLUSIVE), .val (.ref w_TRUE), .val (.ref w_TRUE)] [])) _
        refine XS.aload X42.here hx rfl (hb hby at_35) rfl rfl ?_
        show Steps p.tables e below (T42.setTop (mkF m 37 #[.val (.int p1), .val (.int p2), .val (.int (1 : Int32)), .val (.int (2 : Int32)), .val (.ref w_INCONCLUSIVE), .val (.ref w_TRUE), .val (.ref w_TRUE)] [(.ref w_TRUE)])) _
        refine XS.iloadN X42.here hx rfl (hb hby at_37) rfl ?_
        show Steps p.tables e below (T42.setTop (mkF m 38 #[.val (.int p1), .val (.int p2), .val (.int (1 : Int32)), .val (.int (2 : Int32)), .val (.ref w_INCONCLUSIVE), .val (.ref w_TRUE), .val (.ref w_TRUE)] [(.int (1 : Int32)), (.ref w_TRUE)])) _
        refine XS.iloadN X42.here hx rfl (hb hby at_38) rfl ?_
        show Steps p.tables e below (T42.setTop (mkF m 39 #[.val (.int p1), .val (.int p2), .val (.int (1 : Int32)), .val (.int (2 : Int32)), .val (.ref w_INCONCLUSIVE), .val (.ref w_TRUE), .val (.ref w_TRUE)] [(.int (2 : Int32)), (.int (1 : Int32)), (.ref w_TRUE)])) _
        refine st44 _ ?_
        show Steps p.tables e below (T44.setTop (mkF m 42 #[.val (.int p1), .val (.int p2), .val (.int (1 : Int32)), .val (.int (2 : Int32)), .val (.ref w_INCONCLUSIVE), .val (.ref w_TRUE), .val (.ref w_TRUE)] [(.int (2 : Int32)), (.ref w_TRUE)])) _
        refine st45 _ ?_
        show Steps p.tables e below (T45.setTop (mkF m 45 #[.val (.int p1), .val (.int p2), .val (.int (1 : Int32)), .val (.int (2 : Int32)), .val (.ref w_INCONCLUSIVE), .val (.ref w_TRUE), .val (.ref w_TRUE)] [(.ref w_TRUE), (.ref w_TRUE)])) _
        refine Jvm.RoadKit.acmp (g := (mkF m 45 #[.val (.int p1), .val (.int p2), .val (.int (1 : Int32)), .val (.int (2 : Int32)), .val (.ref w_INCONCLUSIVE), .val (.ref w_TRUE), .val (.ref w_TRUE)] [(.ref w_TRUE), (.ref w_TRUE)])) X45 hx rfl rfl rfl (pc0 := 45) (pc' := 48) (same := true) rfl (hb hby at_45) rfl (decide_eq_true (congrArg Value.ref (rfl : w_TRUE = w_TRUE))) (by decide) (by decide) ?_
        show Steps p.tables e below (T45.setTop (mkF m 48 #[.val (.int p1), .val (.int p2), .val (.int (1 : Int32)), .val (.int (2 : Int32)), .val (.ref w_INCONCLUSIVE), .val (.ref w_TRUE), .val (.ref w_TRUE)] [])) _
        refine XT.iconstV X45.here hx rfl (1 : Int32) (hb hby at_48) (by decide) ?_
        show Steps p.tables e below (T45.setTop (mkF m 49 #[.val (.int p1), .val (.int p2), .val (.int (1 : Int32)), .val (.int (2 : Int32)), .val (.ref w_INCONCLUSIVE), .val (.ref w_TRUE), .val (.ref w_TRUE)] [(.int (1 : Int32))])) _
        refine XS.goto X45.here hx rfl (pc0 := 49) (pc' := 53) rfl (hb hby at_49) (by decide) (by decide) ?_
        show Steps p.tables e below (T45.setTop (mkF m 53 #[.val (.int p1), .val (.int p2), .val (.int (1 : Int32)), .val (.int (2 : Int32)), .val (.ref w_INCONCLUSIVE), .val (.ref w_TRUE), .val (.ref w_TRUE)] [(.int (1 : Int32))])) _
        exact retN X45 hx (t := .boolean) Bd.returns (by simp) (hb hby at_53) hr46
      · show Q0 Z _ _ _ _ _ h0 n0 _ T45.heap _
        rw [e45]
        exact ⟨rfl, N45⟩
  ·
    rw [hv2] at pre1
    rcases (own_rem3 p2) with hv47 | hv47 | hv47
    ·
      rw [hv47] at pre1
      obtain ⟨_, _, ⟨T48, L48, k48, n48⟩, -, X48, ⟨Lc48, hQ48, l48, y48, z48⟩, st48⟩ := Jvm.LawKit.callS X0 hx (y := (⟨"com/example/gatewarden/gatewarden/policy/TruthOrPinLaw", "pick", "(I)Lcom/example/gatewarden/gatewarden/policy/Truth;"⟩ : MethodName)) hown (mvT hZ (hw _ (List.mem_of_getElem? (i := 1) rfl))) (mvT hZ (hw _ (List.mem_of_getElem? (i := 2) rfl))) (mvT hZ (hw _ (List.mem_of_getElem? (i := 3) rfl))) (mvT hZ (hw _ (List.mem_of_getElem? (i := 4) rfl))) (by decide) (backOf (W := 0) (rm1 l Z a0 hw [] (2 : Int32) w_FALSE w_INCONCLUSIVE w_TRUE w_TRUE h0 n0 S_FALSE S_INCONCLUSIVE S_TRUE (by unfold own_pick; rw [if_neg ((by decide) : ¬ ((2 : Int32) = (0 : Int32))), if_neg ((by decide) : ¬ ((2 : Int32) = (1 : Int32)))])) hZ (hw _ (List.mem_of_getElem? (i := 4) rfl)) (hw _ (List.mem_of_getElem? (i := 3) rfl)) (by decide) (by decide)) (g := (mkF m 15 #[.val (.int p1), .val (.int p2), .val (.int (2 : Int32)), .val (.int (0 : Int32)), .unset, .unset, .unset] [(.int (2 : Int32))])) rfl (by rw [hml]; rfl) (argsL := [(.int (2 : Int32))]) (rest := []) (lenOf (show parseMethodDescriptor "(I)Lcom/example/gatewarden/gatewarden/policy/Truth;" = some ⟨[.int], some (.object "com/example/gatewarden/gatewarden/policy/Truth")⟩ by decide +kernel) rfl) rfl (by show 2 * 0 + _ ≤ _; exact Nat.le_of_eq rfl) (hb hby at_15) (fun _ _ => ⟨rfl, e0, (by decide : 0 + 0 ≤ _), (by decide : 0 + 0 ≤ _)⟩)
      dsimp only [Pt.U, Pt.locs, Pt.cells, Pt.slots] at X48 l48 y48 z48 st48 hQ48
      subst l48 y48 z48
      obtain ⟨rfl, Nq48, e48⟩ := hQ48
      have N48 := Fr.app N0 Nq48
      obtain ⟨_, _, ⟨T49, L49, k49, n49⟩, -, X49, ⟨Lc49, hQ49, l49, y49, z49⟩, st49⟩ := Jvm.LawKit.callS X48 hx (y := (⟨"com/example/gatewarden/gatewarden/policy/TruthOrPinLaw", "pick", "(I)Lcom/example/gatewarden/gatewarden/policy/Truth;"⟩ : MethodName)) hown (mvT hZ (hw _ (List.mem_of_getElem? (i := 1) rfl))) (mvT hZ (hw _ (List.mem_of_getElem? (i := 2) rfl))) (mvT hZ (hw _ (List.mem_of_getElem? (i := 3) rfl))) (mvT hZ (hw _ (List.mem_of_getElem? (i := 4) rfl))) (by decide) (backOf (W := 0) (rm1 l Z a0 hw [] (0 : Int32) w_FALSE w_INCONCLUSIVE w_TRUE w_FALSE h0 n0 S_FALSE S_INCONCLUSIVE S_TRUE (by unfold own_pick; rw [if_pos (rfl : (0 : Int32) = (0 : Int32))])) hZ (hw _ (List.mem_of_getElem? (i := 4) rfl)) (hw _ (List.mem_of_getElem? (i := 3) rfl)) (by decide) (by decide)) (g := (mkF m 21 #[.val (.int p1), .val (.int p2), .val (.int (2 : Int32)), .val (.int (0 : Int32)), .val (.ref w_TRUE), .unset, .unset] [(.int (0 : Int32))])) rfl (by rw [hml]; rfl) (argsL := [(.int (0 : Int32))]) (rest := []) (lenOf (show parseMethodDescriptor "(I)Lcom/example/gatewarden/gatewarden/policy/Truth;" = some ⟨[.int], some (.object "com/example/gatewarden/gatewarden/policy/Truth")⟩ by decide +kernel) rfl) rfl (by show 2 * 0 + _ ≤ _; exact Nat.le_of_eq rfl) (hb hby at_21) (fun _ _ => ⟨rfl, e48, (by decide : 0 + 0 ≤ _), (by decide : 0 + 0 ≤ _)⟩)
      dsimp only [Pt.U, Pt.locs, Pt.cells, Pt.slots] at X49 l49 y49 z49 st49 hQ49
      subst l49 y49 z49
      obtain ⟨rfl, Nq49, e49⟩ := hQ49
      have N49 := Fr.app N48 Nq49
      obtain ⟨cq51, kq51, q51a, q51b, q51c⟩ := isOf hZ e49 E_TRUE
      obtain ⟨_, _, ⟨T50, L50, k50, n50⟩, -, X50, ⟨Lc50, hQ50, l50, y50, z50⟩, st50⟩ := X49.virtualBack hx (y := (⟨"com/example/gatewarden/gatewarden/policy/Truth", "or", "(Lcom/example/gatewarden/gatewarden/policy/Truth;)Lcom/example/gatewarden/gatewarden/policy/Truth;"⟩ : MethodName)) (z := (⟨"com/example/gatewarden/gatewarden/policy/Truth", "or", "(Lcom/example/gatewarden/gatewarden/policy/Truth;)Lcom/example/gatewarden/gatewarden/policy/Truth;"⟩ : MethodName)) hown (mvT hZ (hw _ (List.mem_of_getElem? (i := 8) rfl))) (mvT hZ (hw _ (List.mem_of_getElem? (i := 9) rfl))) (notFace_of_selects (args := #[]) (mvT hZ (hw _ (List.mem_of_getElem? (i := 11) rfl)))) (mvT hZ (hw _ (List.mem_of_getElem? (i := 11) rfl))) (mvT hZ (hw _ (List.mem_of_getElem? (i := 10) rfl))) (by decide) (backOf (W := 0) (rm2 l Z a0 hw [] w_TRUE w_FALSE w_FALSE w_INCONCLUSIVE w_TRUE w_TRUE h0 n0 S_FALSE S_INCONCLUSIVE S_TRUE (by unfold own_or; rw [if_pos (rfl : w_TRUE = w_TRUE)])) hZ (hw _ (List.mem_of_getElem? (i := 12) rfl)) (hw _ (List.mem_of_getElem? (i := 6) rfl)) (by decide) (by decide)) q51a q51c (g := (mkF m 30 #[.val (.int p1), .val (.int p2), .val (.int (2 : Int32)), .val (.int (0 : Int32)), .val (.ref w_TRUE), .val (.ref w_FALSE), .unset] [(.ref w_FALSE), (.ref w_TRUE)])) rfl (by rw [hml]; rfl) (Steps.refl _) (argsL := [(.ref w_FALSE)]) (rest := []) (lenOf (show parseMethodDescriptor "(Lcom/example/gatewarden/gatewarden/policy/Truth;)Lcom/example/gatewarden/gatewarden/policy/Truth;" = some ⟨[.object "com/example/gatewarden/gatewarden/policy/Truth"], some (.object "com/example/gatewarden/gatewarden/policy/Truth")⟩ by decide +kernel) rfl) rfl (by show 2 * 0 + _ ≤ _; exact Nat.le_of_eq rfl) (hb hby at_30) (fun _ _ => ⟨rfl, e49, (by decide : 0 + 0 ≤ _), (by decide : 0 + 0 ≤ _)⟩)
      dsimp only [Pt.U, Pt.locs, Pt.cells, Pt.slots] at X50 l50 y50 z50 st50 hQ50
      subst l50 y50 z50
      obtain ⟨rfl, Nq50, e50⟩ := hQ50
      have N50 := Fr.app N49 Nq50
      obtain ⟨_, _, ⟨T52, L52, k52, n52⟩, -, X52, ⟨Lc52, hQ52, l52, y52, z52⟩, st52⟩ := Jvm.LawKit.callS X50 hx (y := (⟨"java/lang/Math", "max", "(II)I"⟩ : MethodName)) hown (mvT hZ (hw _ (List.mem_of_getElem? (i := 18) rfl))) (mvT hZ (hw _ (List.mem_of_getElem? (i := 19) rfl))) (mvT hZ (hw _ (List.mem_of_getElem? (i := 20) rfl))) (mvT hZ (hw _ (List.mem_of_getElem? (i := 21) rfl))) (by decide) (backOf (W := 1) (rm3 l Z a0 hw [] (2 : Int32) (0 : Int32) (2 : Int32) h0 n0 (by unfold own_max; rw [if_neg ((by decide) : ¬ ((2 : Int32) < (0 : Int32)))])) hZ (hw _ (List.mem_of_getElem? (i := 21) rfl)) (hw _ (List.mem_of_getElem? (i := 20) rfl)) (by decide) (by decide)) (g := (mkF m 39 #[.val (.int p1), .val (.int p2), .val (.int (2 : Int32)), .val (.int (0 : Int32)), .val (.ref w_TRUE), .val (.ref w_FALSE), .val (.ref w_TRUE)] [(.int (0 : Int32)), (.int (2 : Int32)), (.ref w_TRUE)])) rfl (by rw [hml]; rfl) (argsL := [(.int (2 : Int32)), (.int (0 : Int32))]) (rest := [(.ref w_TRUE)]) (lenOf (show parseMethodDescriptor "(II)I" = some ⟨[.int, .int], some .int⟩ by decide +kernel) rfl) rfl (by show 2 * 0 + _ ≤ _; exact Nat.le_of_eq rfl) (hb hby at_39) (fun _ _ => ⟨rfl, e50, (by decide : 0 + 0 ≤ _), (by decide : 0 + 0 ≤ _)⟩)
      dsimp only [Pt.U, Pt.locs, Pt.cells, Pt.slots] at X52 l52 y52 z52 st52 hQ52
      subst l52 y52 z52
      obtain ⟨rfl, Nq52, e52⟩ := hQ52
      have N52 := Fr.app N50 Nq52
      obtain ⟨_, _, ⟨T53, L53, k53, n53⟩, -, X53, ⟨Lc53, hQ53, l53, y53, z53⟩, st53⟩ := Jvm.LawKit.callS X52 hx (y := (⟨"com/example/gatewarden/gatewarden/policy/TruthOrPinLaw", "pick", "(I)Lcom/example/gatewarden/gatewarden/policy/Truth;"⟩ : MethodName)) hown (mvT hZ (hw _ (List.mem_of_getElem? (i := 1) rfl))) (mvT hZ (hw _ (List.mem_of_getElem? (i := 2) rfl))) (mvT hZ (hw _ (List.mem_of_getElem? (i := 3) rfl))) (mvT hZ (hw _ (List.mem_of_getElem? (i := 4) rfl))) (by decide) (backOf (W := 1) (rm1 l Z a0 hw [] (2 : Int32) w_FALSE w_INCONCLUSIVE w_TRUE w_TRUE h0 n0 S_FALSE S_INCONCLUSIVE S_TRUE (by unfold own_pick; rw [if_neg ((by decide) : ¬ ((2 : Int32) = (0 : Int32))), if_neg ((by decide) : ¬ ((2 : Int32) = (1 : Int32)))])) hZ (hw _ (List.mem_of_getElem? (i := 4) rfl)) (hw _ (List.mem_of_getElem? (i := 3) rfl)) (by decide) (by decide)) (g := (mkF m 42 #[.val (.int p1), .val (.int p2), .val (.int (2 : Int32)), .val (.int (0 : Int32)), .val (.ref w_TRUE), .val (.ref w_FALSE), .val (.ref w_TRUE)] [(.int (2 : Int32)), (.ref w_TRUE)])) rfl (by rw [hml]; rfl) (argsL := [(.int (2 : Int32))]) (rest := [(.ref w_TRUE)]) (lenOf (show parseMethodDescriptor "(I)Lcom/example/gatewarden/gatewarden/policy/Truth;" = some ⟨[.int], some (.object "com/example/gatewarden/gatewarden/policy/Truth")⟩ by decide +kernel) rfl) rfl (by show 2 * 0 + _ ≤ _; exact Nat.le_of_eq rfl) (hb hby at_42) (fun _ _ => ⟨rfl, e52, (by decide : 0 + 0 ≤ _), (by decide : 0 + 0 ≤ _)⟩)
      dsimp only [Pt.U, Pt.locs, Pt.cells, Pt.slots] at X53 l53 y53 z53 st53 hQ53
      subst l53 y53 z53
      obtain ⟨rfl, Nq53, e53⟩ := hQ53
      have N53 := Fr.app N52 Nq53
      obtain ⟨fs, hr54, hrun, hended, hW, hsame⟩ := X53.leave (v := some (.int (1 : Int32))) (fun h => by rw [Bd.returns] at h; cases h)
      refine ⟨_, _, pre1 _ ?_, hrun, hended, _, _, rfl, ?_, ⟨_, rfl⟩, hW, hsame.mono (by decide) (by decide)⟩
      · show Steps p.tables e below (s₁.setTop (mkF m 14 #[.val (.int p1), .val (.int p2), .val (.int (2 : Int32)), .val (.int (0 : Int32)), .unset, .unset, .unset] [])) _
        refine XS.iloadN X0.here hx rfl (hb hby at_14) rfl ?_
        show Steps p.tables e below (s₁.setTop (mkF m 15 #[.val (.int p1), .val (.int p2), .val (.int (2 : Int32)), .val (.int (0 : Int32)), .unset, .unset, .unset] [(.int (2 : Int32))])) _
        refine st48 _ ?_
        show Steps p.tables e below (T48.setTop (mkF m 18 #[.val (.int p1), .val (.int p2), .val (.int (2 : Int32)), .val (.int (0 : Int32)), .unset, .unset, .unset] [(.ref w_TRUE)])) _
        refine XS.astore X48.here hx rfl (hb hby at_18) rfl rfl (l' := #[.val (.int p1), .val (.int p2), .val (.int (2 : Int32)), .val (.int (0 : Int32)), .val (.ref w_TRUE), .unset, .unset]) rfl ?_
        show Steps p.tables e below (T48.setTop (mkF m 20 #[.val (.int p1), .val (.int p2), .val (.int (2 : Int32)), .val (.int (0 : Int32)), .val (.ref w_TRUE), .unset, .unset] [])) _
        refine XS.iloadN X48.here hx rfl (hb hby at_20) rfl ?_
        show Steps p.tables e below (T48.setTop (mkF m 21 #[.val (.int p1), .val (.int p2), .val (.int (2 : Int32)), .val (.int (0 : Int32)), .val (.ref w_TRUE), .unset, .unset] [(.int (0 : Int32))])) _
        refine st49 _ ?_
        show Steps p.tables e below (T49.setTop (mkF m 24 #[.val (.int p1), .val (.int p2), .val (.int (2 : Int32)), .val (.int (0 : Int32)), .val (.ref w_TRUE), .unset, .unset] [(.ref w_FALSE)])) _
        refine XS.astore X49.here hx rfl (hb hby at_24) rfl rfl (l' := #[.val (.int p1), .val (.int p2), .val (.int (2 : Int32)), .val (.int (0 : Int32)), .val (.ref w_TRUE), .val (.ref w_FALSE), .unset]) rfl ?_
        show Steps p.tables e below (T49.setTop (mkF m 26 #[.val (.int p1), .val (.int p2), .val (.int (2 : Int32)), .val (.int (0 : Int32)), .val (.ref w_TRUE), .val (.ref w_FALSE), .unset] [])) _
        refine XS.aload X49.here hx rfl (hb hby at_26) rfl rfl ?_
        show Steps p.tables e below (T49.setTop (mkF m 28 #[.val (.int p1), .val (.int p2), .val (.int (2 : Int32)), .val (.int (0 : Int32)), .val (.ref w_TRUE), .val (.ref w_FALSE), .unset] [(.ref w_TRUE)])) _
        refine XS.aload X49.here hx rfl (hb hby at_28) rfl rfl ?_
        show Steps p.tables e below (T49.setTop (mkF m 30 #[.val (.int p1), .val (.int p2), .val (.int (2 : Int32)), .val (.int (0 : Int32)), .val (.ref w_TRUE), .val (.ref w_FALSE), .unset] [(.ref w_FALSE), (.ref w_TRUE)])) _
        refine st50.trans ?_
        show Steps p.tables e below (T50.setTop (mkF m 33 #[.val (.int p1), .val (.int p2), .val (.int (2 : Int32)), .val (.int (0 : Int32)), .val (.ref w_TRUE), .val (.ref w_FALSE), .unset] [(.ref w_TRUE)])) _
        refine XS.astore X50.here hx rfl (hb hby at_33) rfl rfl (l' := #[.val (.int p1), .val (.int p2), .val (.int (2 : Int32)), .val (.int (0 : Int32)), .val (.ref w_TRUE), .val (.ref w_FALSE), .val (.ref w_TRUE)]) rfl ?_
        show Steps p.tables e below (T50.setTop (mkF m 35 #[.val (.int p1), .val (.int p2), .val (.int (2 : Int32)), .val (.int (0 : Int32)), .val (.ref w_TRUE), .val (.ref w_FALSE), .val (.ref w_TRUE)] [])) _
        refine XS.aload X50.here hx rfl (hb hby at_35) rfl rfl ?_
        show Steps p.tables e below (T50.setTop (mkF m 37 #[.val (.int p1), .val (.int p2), .val (.int (2 : Int32)), .val (.int (0 : Int32)), .val (.ref w_TRUE), .val (.ref w_FALSE), .val (.ref w_TRUE)] [(.ref w_TRUE)])) _
        refine XS.iloadN X50.here hx rfl (hb hby at_37) rfl ?_
        show Steps p.tables e below (T50.setTop (mkF m 38 #[.val (.int p1), .val (.int p2), .val (.int (2 : Int32)), .val (.int (0 : Int32)), .val (.ref w_TRUE), .val (.ref w_FALSE), .val (.ref w_TRUE)] [(.int (2 : Int32)), (.ref w_TRUE)])) _
        refine XS.iloadN X50.here hx rfl (hb hby at_38) rfl ?_
        show Steps p.tables e below (T50.setTop (mkF m 39 #[.val (.int p1), .val (.int p2), .val (.int (2 : Int32)), .val (.int (0 : Int32)), .val (.ref w_TRUE), .val (.ref w_FALSE), .val (.ref w_TRUE)] [(.int (0 : Int32)), (.int (2 : Int32)), (.ref w_TRUE)])) _
        refine st52 _ ?_
        show Steps p.tables e below (T52.setTop (mkF m 42 #[.val (.int p1), .val (.int p2), .val (.int (2 : Int32)), .val (.int (0 : Int32)), .val (.ref w_TRUE), .val (.ref w_FALSE), .val (.ref w_TRUE)] [(.int (2 : Int32)), (.ref w_TRUE)])) _
        refine st53 _ ?_
        show Steps p.tables e below (T53.setTop (mkF m 45 #[.val (.int p1), .val (.int p2), .val (.int (2 : Int32)), .val (.int (0 : Int32)), .val (.ref w_TRUE), .val (.ref w_FALSE), .val (.ref w_TRUE)] [(.ref w_TRUE), (.ref w_TRUE)])) _
        refine Jvm.RoadKit.acmp (g := (mkF m 45 #[.val (.int p1), .val (.int p2), .val (.int (2 : Int32)), .val (.int (0 : Int32)), .val (.ref w_TRUE), .val (.ref w_FALSE), .val (.ref w_TRUE)] [(.ref w_TRUE), (.ref w_TRUE)])) X53 hx rfl rfl rfl (pc0 := 45) (pc' := 48) (same := true) rfl (hb hby at_45) rfl (decide_eq_true (congrArg Value.ref (rfl : w_TRUE = w_TRUE))) (by decide) (by decide) ?_
        show Steps p.tables e below (T53.setTop (mkF m 48 #[.val (.int p1), .val (.int p2), .val (.int (2 : Int32)), .val (.int (0 : Int32)), .val (.ref w_TRUE), .val (.ref w_FALSE), .val (.ref w_TRUE)] [])) _
        refine XT.iconstV X53.here hx rfl (1 : Int32) (hb hby at_48) (by decide) ?_
        show Steps p.tables e below (T53.setTop (mkF m 49 #[.val (.int p1), .val (.int p2), .val (.int (2 : Int32)), .val (.int (0 : Int32)), .val (.ref w_TRUE), .val (.ref w_FALSE), .val (.ref w_TRUE)] [(.int (1 : Int32))])) _
        refine XS.goto X53.here hx rfl (pc0 := 49) (pc' := 53) rfl (hb hby at_49) (by decide) (by decide) ?_
        show Steps p.tables e below (T53.setTop (mkF m 53 #[.val (.int p1), .val (.int p2), .val (.int (2 : Int32)), .val (.int (0 : Int32)), .val (.ref w_TRUE), .val (.ref w_FALSE), .val (.ref w_TRUE)] [(.int (1 : Int32))])) _
        exact retN X53 hx (t := .boolean) Bd.returns (by simp) (hb hby at_53) hr54
      · show Q0 Z _ _ _ _ _ h0 n0 _ T53.heap _
        rw [e53]
        exact ⟨rfl, N53⟩
    ·
      rw [hv47] at pre1
      obtain ⟨_, _, ⟨T55, L55, k55, n55⟩, -, X55, ⟨Lc55, hQ55, l55, y55, z55⟩, st55⟩ := Jvm.LawKit.callS X0 hx (y := (⟨"com/example/gatewarden/gatewarden/policy/TruthOrPinLaw", "pick", "(I)Lcom/example/gatewarden/gatewarden/policy/Truth;"⟩ : MethodName)) hown (mvT hZ (hw _ (List.mem_of_getElem? (i := 1) rfl))) (mvT hZ (hw _ (List.mem_of_getElem? (i := 2) rfl))) (mvT hZ (hw _ (List.mem_of_getElem? (i := 3) rfl))) (mvT hZ (hw _ (List.mem_of_getElem? (i := 4) rfl))) (by decide) (backOf (W := 0) (rm1 l Z a0 hw [] (2 : Int32) w_FALSE w_INCONCLUSIVE w_TRUE w_TRUE h0 n0 S_FALSE S_INCONCLUSIVE S_TRUE (by unfold own_pick; rw [if_neg ((by decide) : ¬ ((2 : Int32) = (0 : Int32))), if_neg ((by decide) : ¬ ((2 : Int32) = (1 : Int32)))])) hZ (hw _ (List.mem_of_getElem? (i := 4) rfl)) (hw _ (List.mem_of_getElem? (i := 3) rfl)) (by decide) (by decide)) (g := (mkF m 15 #[.val (.int p1), .val (.int p2), .val (.int (2 : Int32)), .val (.int (1 : Int32)), .unset, .unset, .unset] [(.int (2 : Int32))])) rfl (by rw [hml]; rfl) (argsL := [(.int (2 : Int32))]) (rest := []) (lenOf (show parseMethodDescriptor "(I)Lcom/example/gatewarden/gatewarden/policy/Truth;" = some ⟨[.int], some (.object "com/example/gatewarden/gatewarden/policy/Truth")⟩ by decide +kernel) rfl) rfl (by show 2 * 0 + _ ≤ _; exact Nat.le_of_eq rfl) (hb hby at_15) (fun _ _ => ⟨rfl, e0, (by decide : 0 + 0 ≤ _), (by decide : 0 + 0 ≤ _)⟩)
      dsimp only [Pt.U, Pt.locs, Pt.cells, Pt.slots] at X55 l55 y55 z55 st55 hQ55
      subst l55 y55 z55
      obtain ⟨rfl, Nq55, e55⟩ := hQ55
      have N55 := Fr.app N0 Nq55
      obtain ⟨_, _, ⟨T56, L56, k56, n56⟩, -, X56, ⟨Lc56, hQ56, l56, y56, z56⟩, st56⟩ := Jvm.LawKit.callS X55 hx (y := (⟨"com/example/gatewarden/gatewarden/policy/TruthOrPinLaw", "pick", "(I)Lcom/example/gatewarden/gatewarden/policy/Truth;"⟩ : MethodName)) hown (mvT hZ (hw _ (List.mem_of_getElem? (i := 1) rfl))) (mvT hZ (hw _ (List.mem_of_getElem? (i := 2) rfl))) (mvT hZ (hw _ (List.mem_of_getElem? (i := 3) rfl))) (mvT hZ (hw _ (List.mem_of_getElem? (i := 4) rfl))) (by decide) (backOf (W := 0) (rm1 l Z a0 hw [] (1 : Int32) w_FALSE w_INCONCLUSIVE w_TRUE w_INCONCLUSIVE h0 n0 S_FALSE S_INCONCLUSIVE S_TRUE (by unfold own_pick; rw [if_neg ((by decide) : ¬ ((1 : Int32) = (0 : Int32))), if_pos (rfl : (1 : Int32) = (1 : Int32))])) hZ (hw _ (List.mem_of_getElem? (i := 4) rfl)) (hw _ (List.mem_of_getElem? (i := 3) rfl)) (by decide) (by decide)) (g := (mkF m 21 #[.val (.int p1), .val (.int p2), .val (.int (2 : Int32)), .val (.int (1 : Int32)), .val (.ref w_TRUE), .unset, .unset] [(.int (1 : Int32))])) rfl (by rw [hml]; rfl) (argsL := [(.int (1 : Int32))]) (rest := []) (lenOf (show parseMethodDescriptor "(I)Lcom/example/gatewarden/gatewarden/policy/Truth;" = some ⟨[.int], some (.object "com/example/gatewarden/gatewarden/policy/Truth")⟩ by decide +kernel) rfl) rfl (by show 2 * 0 + _ ≤ _; exact Nat.le_of_eq rfl) (hb hby at_21) (fun _ _ => ⟨rfl, e55, (by decide : 0 + 0 ≤ _), (by decide : 0 + 0 ≤ _)⟩)
      dsimp only [Pt.U, Pt.locs, Pt.cells, Pt.slots] at X56 l56 y56 z56 st56 hQ56
      subst l56 y56 z56
      obtain ⟨rfl, Nq56, e56⟩ := hQ56
      have N56 := Fr.app N55 Nq56
      obtain ⟨cq58, kq58, q58a, q58b, q58c⟩ := isOf hZ e56 E_TRUE
      obtain ⟨_, _, ⟨T57, L57, k57, n57⟩, -, X57, ⟨Lc57, hQ57, l57, y57, z57⟩, st57⟩ := X56.virtualBack hx (y := (⟨"com/example/gatewarden/gatewarden/policy/Truth", "or", "(Lcom/example/gatewarden/gatewarden/policy/Truth;)Lcom/example/gatewarden/gatewarden/policy/Truth;"⟩ : MethodName)) (z := (⟨"com/example/gatewarden/gatewarden/policy/Truth", "or", "(Lcom/example/gatewarden/gatewarden/policy/Truth;)Lcom/example/gatewarden/gatewarden/policy/Truth;"⟩ : MethodName)) hown (mvT hZ (hw _ (List.mem_of_getElem? (i := 8) rfl))) (mvT hZ (hw _ (List.mem_of_getElem? (i := 9) rfl))) (notFace_of_selects (args := #[]) (mvT hZ (hw _ (List.mem_of_getElem? (i := 11) rfl)))) (mvT hZ (hw _ (List.mem_of_getElem? (i := 11) rfl))) (mvT hZ (hw _ (List.mem_of_getElem? (i := 10) rfl))) (by decide) (backOf (W := 0) (rm2 l Z a0 hw [] w_TRUE w_INCONCLUSIVE w_FALSE w_INCONCLUSIVE w_TRUE w_TRUE h0 n0 S_FALSE S_INCONCLUSIVE S_TRUE (by unfold own_or; rw [if_pos (rfl : w_TRUE = w_TRUE)])) hZ (hw _ (List.mem_of_getElem? (i := 12) rfl)) (hw _ (List.mem_of_getElem? (i := 6) rfl)) (by decide) (by decide)) q58a q58c (g := (mkF m 30 #[.val (.int p1), .val (.int p2), .val (.int (2 : Int32)), .val (.int (1 : Int32)), .val (.ref w_TRUE), .val (.ref w_INCONCLUSIVE), .unset] [(.ref w_INCONCLUSIVE), (.ref w_TRUE)])) rfl (by rw [hml]; rfl) (Steps.refl _) (argsL := [(.ref w_INCONCLUSIVE)]) (rest := []) (lenOf (show parseMethodDescriptor "(Lcom/example/gatewarden/gatewarden/policy/Truth;)Lcom/example/gatewarden/gatewarden/policy/Truth;" = some ⟨[.object "com/example/gatewarden/gatewarden/policy/Truth"], some (.object "com/example/gatewarden/gatewarden/policy/Truth")⟩ by decide +kernel) rfl) rfl (by show 2 * 0 + _ ≤ _; exact Nat.le_of_eq rfl) (hb hby at_30) (fun _ _ => ⟨rfl, e56, (by decide : 0 + 0 ≤ _), (by decide : 0 + 0 ≤ _)⟩)
      dsimp only [Pt.U, Pt.locs, Pt.cells, Pt.slots] at X57 l57 y57 z57 st57 hQ57
      subst l57 y57 z57
      obtain ⟨rfl, Nq57, e57⟩ := hQ57
      have N57 := Fr.app N56 Nq57
      obtain ⟨_, _, ⟨T59, L59, k59, n59⟩, -, X59, ⟨Lc59, hQ59, l59, y59, z59⟩, st59⟩ := Jvm.LawKit.callS X57 hx (y := (⟨"java/lang/Math", "max", "(II)I"⟩ : MethodName)) hown (mvT hZ (hw _ (List.mem_of_getElem? (i := 18) rfl))) (mvT hZ (hw _ (List.mem_of_getElem? (i := 19) rfl))) (mvT hZ (hw _ (List.mem_of_getElem? (i := 20) rfl))) (mvT hZ (hw _ (List.mem_of_getElem? (i := 21) rfl))) (by decide) (backOf (W := 1) (rm3 l Z a0 hw [] (2 : Int32) (1 : Int32) (2 : Int32) h0 n0 (by unfold own_max; rw [if_neg ((by decide) : ¬ ((2 : Int32) < (1 : Int32)))])) hZ (hw _ (List.mem_of_getElem? (i := 21) rfl)) (hw _ (List.mem_of_getElem? (i := 20) rfl)) (by decide) (by decide)) (g := (mkF m 39 #[.val (.int p1), .val (.int p2), .val (.int (2 : Int32)), .val (.int (1 : Int32)), .val (.ref w_TRUE), .val (.ref w_INCONCLUSIVE), .val (.ref w_TRUE)] [(.int (1 : Int32)), (.int (2 : Int32)), (.ref w_TRUE)])) rfl (by rw [hml]; rfl) (argsL := [(.int (2 : Int32)), (.int (1 : Int32))]) (rest := [(.ref w_TRUE)]) (lenOf (show parseMethodDescriptor "(II)I" = some ⟨[.int, .int], some .int⟩ by decide +kernel) rfl) rfl (by show 2 * 0 + _ ≤ _; exact Nat.le_of_eq rfl) (hb hby at_39) (fun _ _ => ⟨rfl, e57, (by decide : 0 + 0 ≤ _), (by decide : 0 + 0 ≤ _)⟩)
      dsimp only [Pt.U, Pt.locs, Pt.cells, Pt.slots] at X59 l59 y59 z59 st59 hQ59
      subst l59 y59 z59
      obtain ⟨rfl, Nq59, e59⟩ := hQ59
      have N59 := Fr.app N57 Nq59
      obtain ⟨_, _, ⟨T60, L60, k60, n60⟩, -, X60, ⟨Lc60, hQ60, l60, y60, z60⟩, st60⟩ := Jvm.LawKit.callS X59 hx (y := (⟨"com/example/gatewarden/gatewarden/policy/TruthOrPinLaw", "pick", "(I)Lcom/example/gatewarden/gatewarden/policy/Truth;"⟩ : MethodName)) hown (mvT hZ (hw _ (List.mem_of_getElem? (i := 1) rfl))) (mvT hZ (hw _ (List.mem_of_getElem? (i := 2) rfl))) (mvT hZ (hw _ (List.mem_of_getElem? (i := 3) rfl))) (mvT hZ (hw _ (List.mem_of_getElem? (i := 4) rfl))) (by decide) (backOf (W := 1) (rm1 l Z a0 hw [] (2 : Int32) w_FALSE w_INCONCLUSIVE w_TRUE w_TRUE h0 n0 S_FALSE S_INCONCLUSIVE S_TRUE (by unfold own_pick; rw [if_neg ((by decide) : ¬ ((2 : Int32) = (0 : Int32))), if_neg ((by decide) : ¬ ((2 : Int32) = (1 : Int32)))])) hZ (hw _ (List.mem_of_getElem? (i := 4) rfl)) (hw _ (List.mem_of_getElem? (i := 3) rfl)) (by decide) (by decide)) (g := (mkF m 42 #[.val (.int p1), .val (.int p2), .val (.int (2 : Int32)), .val (.int (1 : Int32)), .val (.ref w_TRUE), .val (.ref w_INCONCLUSIVE), .val (.ref w_TRUE)] [(.int (2 : Int32)), (.ref w_TRUE)])) rfl (by rw [hml]; rfl) (argsL := [(.int (2 : Int32))]) (rest := [(.ref w_TRUE)]) (lenOf (show parseMethodDescriptor "(I)Lcom/example/gatewarden/gatewarden/policy/Truth;" = some ⟨[.int], some (.object "com/example/gatewarden/gatewarden/policy/Truth")⟩ by decide +kernel) rfl) rfl (by show 2 * 0 + _ ≤ _; exact Nat.le_of_eq rfl) (hb hby at_42) (fun _ _ => ⟨rfl, e59, (by decide : 0 + 0 ≤ _), (by decide : 0 + 0 ≤ _)⟩)
      dsimp only [Pt.U, Pt.locs, Pt.cells, Pt.slots] at X60 l60 y60 z60 st60 hQ60
      subst l60 y60 z60
      obtain ⟨rfl, Nq60, e60⟩ := hQ60
      have N60 := Fr.app N59 Nq60
      obtain ⟨fs, hr61, hrun, hended, hW, hsame⟩ := X60.leave (v := some (.int (1 : Int32))) (fun h => by rw [Bd.returns] at h; cases h)
      refine ⟨_, _, pre1 _ ?_, hrun, hended, _, _, rfl, ?_, ⟨_, rfl⟩, hW, hsame.mono (by decide) (by decide)⟩
      · show Steps p.tables e below (s₁.setTop (mkF m 14 #[.val (.int p1), .val (.int p2), .val (.int (2 : Int32)), .val (.int (1 : Int32)), .unset, .unset, .unset] [])) _
        refine XS.iloadN X0.here hx rfl (hb hby at_14) rfl ?_
        show Steps p.tables e below (s₁.setTop (mkF m 15 #[.val (.int p1), .val (.int p2), .val (.int (2 : Int32)), .val (.int (1 : Int32)), .unset, .unset, .unset] [(.int (2 : Int32))])) _
        refine st55 _ ?_
        show Steps p.tables e below (T55.setTop (mkF m 18 #[.val (.int p1), .val (.int p2), .val (.int (2 : Int32)), .val (.int (1 : Int32)), .unset, .unset, .unset] [(.ref w_TRUE)])) _
        refine XS.astore X55.here hx rfl (hb hby at_18) rfl rfl (l' := #[.val (.int p1), .val (.int p2), .val (.int (2 : Int32)), .val (.int (1 : Int32)), .val (.ref w_TRUE), .unset, .unset]) rfl ?_
        show Steps p.tables e below (T55.setTop (mkF m 20 #[.val (.int p1), .val (.int p2), .val (.int (2 : Int32)), .val (.int (1 : Int32)), .val (.ref w_TRUE), .unset, .unset] [])) _
        refine XS.iloadN X55.here hx rfl (hb hby at_20) rfl ?_
        show Steps p.tables e below (T55.setTop (mkF m 21 #[.val (.int p1), .val (.int p2), .val (.int (2 : Int32)), .val (.int (1 : Int32)), .val (.ref w_TRUE), .unset, .unset] [(.int (1 : Int32))])) _
        refine st56 _ ?_
        show Steps p.tables e below (T56.setTop (mkF m 24 #[.val (.int p1), .val (.int p2), .val (.int (2 : Int32)), .val (.int (1 : Int32)), .val (.ref w_TRUE), .unset, .unset] [(.ref w_INCONCLUSIVE)])) _
        refine XS.astore X56.here hx rfl (hb hby at_24) rfl rfl (l' := #[.val (.int p1), .val (.int p2), .val (.int (2 : Int32)), .val (.int (1 : Int32)), .val (.ref w_TRUE), .val (.ref w_INCONCLUSIVE), .unset]) rfl ?_
        show Steps p.tables e below (T56.setTop (mkF m 26 #[.val (.int p1), .val (.int p2), .val (.int (2 : Int32)), .val (.int (1 : Int32)), .val (.ref w_TRUE), .val (.ref w_INCONCLUSIVE), .unset] [])) _
        refine XS.aload X56.here hx rfl (hb hby at_26) rfl rfl ?_
        show Steps p.tables e below (T56.setTop (mkF m 28 #[.val (.int p1), .val (.int p2), .val (.int (2 : Int32)), .val (.int (1 : Int32)), .val (.ref w_TRUE), .val (.ref w_INCONCLUSIVE), .unset] [(.ref w_TRUE)])) _
        refine XS.aload X56.here hx rfl (hb hby at_28) rfl rfl ?_
        show Steps p.tables e below (T56.setTop (mkF m 30 #[.val (.int p1), .val (.int p2), .val (.int (2 : Int32)), .val (.int (1 : Int32)), .val (.ref w_TRUE), .val (.ref w_INCONCLUSIVE), .unset] [(.ref w_INCONCLUSIVE), (.ref w_TRUE)])) _
        refine st57.trans ?_
        show Steps p.tables e below (T57.setTop (mkF m 33 #[.val (.int p1), .val (.int p2), .val (.int (2 : Int32)), .val (.int (1 : Int32)), .val (.ref w_TRUE), .val (.ref w_INCONCLUSIVE), .unset] [(.ref w_TRUE)])) _
        refine XS.astore X57.here hx rfl (hb hby at_33) rfl rfl (l' := #[.val (.int p1), .val (.int p2), .val (.int (2 : Int32)), .val (.int (1 : Int32)), .val (.ref w_TRUE), .val (.ref w_INCONCLUSIVE), .val (.ref w_TRUE)]) rfl ?_
        show Steps p.tables e below (T57.setTop (mkF m 35 #[.val (.int p1), .val (.int p2), .val (.int (2 : Int32)), .val (.int (1 : Int32)), .val (.ref w_TRUE), .val (.ref w_INCONCLUSIVE), .val (.ref w_TRUE)] [])) _
        refine XS.aload X57.here hx rfl (hb hby at_35) rfl rfl ?_
        show Steps p.tables e below (T57.setTop (mkF m 37 #[.val (.int p1), .val (.int p2), .val (.int (2 : Int32)), .val (.int (1 : Int32)), .val (.ref w_TRUE), .val (.ref w_INCONCLUSIVE), .val (.ref w_TRUE)] [(.ref w_TRUE)])) _
        refine XS.iloadN X57.here hx rfl (hb hby at_37) rfl ?_
        show Steps p.tables e below (T57.setTop (mkF m 38 #[.val (.int p1), .val (.int p2), .val (.int (2 : Int32)), .val (.int (1 : Int32)), .val (.ref w_TRUE), .val (.ref w_INCONCLUSIVE), .val (.ref w_TRUE)] [(.int (2 : Int32)), (.ref w_TRUE)])) _
        refine XS.iloadN X57.here hx rfl (hb hby at_38) rfl ?_
        show Steps p.tables e below (T57.setTop (mkF m 39 #[.val (.int p1), .val (.int p2), .val (.int (2 : Int32)), .val (.int (1 : Int32)), .val (.ref w_TRUE), .val (.ref w_INCONCLUSIVE), .val (.ref w_TRUE)] [(.int (1 : Int32)), (.int (2 : Int32)), (.ref w_TRUE)])) _
        refine st59 _ ?_
        show Steps p.tables e below (T59.setTop (mkF m 42 #[.val (.int p1), .val (.int p2), .val (.int (2 : Int32)), .val (.int (1 : Int32)), .val (.ref w_TRUE), .val (.ref w_INCONCLUSIVE), .val (.ref w_TRUE)] [(.int (2 : Int32)), (.ref w_TRUE)])) _
        refine st60 _ ?_
        show Steps p.tables e below (T60.setTop (mkF m 45 #[.val (.int p1), .val (.int p2), .val (.int (2 : Int32)), .val (.int (1 : Int32)), .val (.ref w_TRUE), .val (.ref w_INCONCLUSIVE), .val (.ref w_TRUE)] [(.ref w_TRUE), (.ref w_TRUE)])) _
        refine Jvm.RoadKit.acmp (g := (mkF m 45 #[.val (.int p1), .val (.int p2), .val (.int (2 : Int32)), .val (.int (1 : Int32)), .val (.ref w_TRUE), .val (.ref w_INCONCLUSIVE), .val (.ref w_TRUE)] [(.ref w_TRUE), (.ref w_TRUE)])) X60 hx rfl rfl rfl (pc0 := 45) (pc' := 48) (same := true) rfl (hb hby at_45) rfl (decide_eq_true (congrArg Value.ref (rfl : w_TRUE = w_TRUE))) (by decide) (by decide) ?_
        show Steps p.tables e below (T60.setTop (mkF m 48 #[.val (.int p1), .val (.int p2), .val (.int (2 : Int32)), .val (.int (1 : Int32)), .val (.ref w_TRUE), .val (.ref w_INCONCLUSIVE), .val (.ref w_TRUE)] [])) _
        refine XT.iconstV X60.here hx rfl (1 : Int32) (hb hby at_48) (by decide) ?_
        show Steps p.tables e below (T60.setTop (mkF m 49 #[.val (.int p1), .val (.int p2), .val (.int (2 : Int32)), .val (.int (1 : Int32)), .val (.ref w_TRUE), .val (.ref w_INCONCLUSIVE), .val (.ref w_TRUE)] [(.int (1 : Int32))])) _
        refine XS.goto X60.here hx rfl (pc0 := 49) (pc' := 53) rfl (hb hby at_49) (by decide) (by decide) ?_
        show Steps p.tables e below (T60.setTop (mkF m 53 #[.val (.int p1), .val (.int p2), .val (.int (2 : Int32)), .val (.int (1 : Int32)), .val (.ref w_TRUE), .val (.ref w_INCONCLUSIVE), .val (.ref w_TRUE)] [(.int (1 : Int32))])) _
        exact retN X60 hx (t := .boolean) Bd.returns (by simp) (hb hby at_53) hr61
      · show Q0 Z _ _ _ _ _ h0 n0 _ T60.heap _
        rw [e60]
        exact ⟨rfl, N60⟩
    ·
      rw [hv47] at pre1
      obtain ⟨_, _, ⟨T62, L62, k62, n62⟩, -, X62, ⟨Lc62, hQ62, l62, y62, z62⟩, st62⟩ := Jvm.LawKit.callS X0 hx (y := (⟨"com/example/gatewarden/gatewarden/policy/TruthOrPinLaw", "pick", "(I)Lcom/example/gatewarden/gatewarden/policy/Truth;"⟩ : MethodName)) hown (mvT hZ (hw _ (List.mem_of_getElem? (i := 1) rfl))) (mvT hZ (hw _ (List.mem_of_getElem? (i := 2) rfl))) (mvT hZ (hw _ (List.mem_of_getElem? (i := 3) rfl))) (mvT hZ (hw _ (List.mem_of_getElem? (i := 4) rfl))) (by decide) (backOf (W := 0) (rm1 l Z a0 hw [] (2 : Int32) w_FALSE w_INCONCLUSIVE w_TRUE w_TRUE h0 n0 S_FALSE S_INCONCLUSIVE S_TRUE (by unfold own_pick; rw [if_neg ((by decide) : ¬ ((2 : Int32) = (0 : Int32))), if_neg ((by decide) : ¬ ((2 : Int32) = (1 : Int32)))])) hZ (hw _ (List.mem_of_getElem? (i := 4) rfl)) (hw _ (List.mem_of_getElem? (i := 3) rfl)) (by decide) (by decide)) (g := (mkF m 15 #[.val (.int p1), .val (.int p2), .val (.int (2 : Int32)), .val (.int (2 : Int32)), .unset, .unset, .unset] [(.int (2 : Int32))])) rfl (by rw [hml]; rfl) (argsL := [(.int (2 : Int32))]) (rest := []) (lenOf (show parseMethodDescriptor "(I)Lcom/example/gatewarden/gatewarden/policy/Truth;" = some ⟨[.int], some (.object "com/example/gatewarden/gatewarden/policy/Truth")⟩ by decide +kernel) rfl) rfl (by show 2 * 0 + _ ≤ _; exact Nat.le_of_eq rfl) (hb hby at_15) (fun _ _ => ⟨rfl, e0, (by decide : 0 + 0 ≤ _), (by decide : 0 + 0 ≤ _)⟩)
      dsimp only [Pt.U, Pt.locs, Pt.cells, Pt.slots] at X62 l62 y62 z62 st62 hQ62
      subst l62 y62 z62
      obtain ⟨rfl, Nq62, e62⟩ := hQ62
      have N62 := Fr.app N0 Nq62
      obtain ⟨_, _, ⟨T63, L63, k63, n63⟩, -, X63, ⟨Lc63, hQ63, l63, y63, z63⟩, st63⟩ := Jvm.LawKit.callS X62 hx (y := (⟨"com/example/gatewarden/gatewarden/policy/TruthOrPinLaw", "pick", "(I)Lcom/example/gatewarden/gatewarden/policy/Truth;"⟩ : MethodName)) hown (mvT hZ (hw _ (List.mem_of_getElem? (i := 1) rfl))) (mvT hZ (hw _ (List.mem_of_getElem? (i := 2) rfl))) (mvT hZ (hw _ (List.mem_of_getElem? (i := 3) rfl))) (mvT hZ (hw _ (List.mem_of_getElem? (i := 4) rfl))) (by decide) (backOf (W := 0) (rm1 l Z a0 hw [] (2 : Int32) w_FALSE w_INCONCLUSIVE w_TRUE w_TRUE h0 n0 S_FALSE S_INCONCLUSIVE S_TRUE (by unfold own_pick; rw [if_neg ((by decide) : ¬ ((2 : Int32) = (0 : Int32))), if_neg ((by decide) : ¬ ((2 : Int32) = (1 : Int32)))])) hZ (hw _ (List.mem_of_getElem? (i := 4) rfl)) (hw _ (List.mem_of_getElem? (i := 3) rfl)) (by decide) (by decide)) (g := (mkF m 21 #[.val (.int p1), .val (.int p2), .val (.int (2 : Int32)), .val (.int (2 : Int32)), .val (.ref w_TRUE), .unset, .unset] [(.int (2 : Int32))])) rfl (by rw [hml]; rfl) (argsL := [(.int (2 : Int32))]) (rest := []) (lenOf (show parseMethodDescriptor "(I)Lcom/example/gatewarden/gatewarden/policy/Truth;" = some ⟨[.int], some (.object "com/example/gatewarden/gatewarden/policy/Truth")⟩ by decide +kernel) rfl) rfl (by show 2 * 0 + _ ≤ _; exact Nat.le_of_eq rfl) (hb hby at_21) (fun _ _ => ⟨rfl, e62, (by decide : 0 + 0 ≤ _), (by decide : 0 + 0 ≤ _)⟩)
      dsimp only [Pt.U, Pt.locs, Pt.cells, Pt.slots] at X63 l63 y63 z63 st63 hQ63
      subst l63 y63 z63
      obtain ⟨rfl, Nq63, e63⟩ := hQ63
      have N63 := Fr.app N62 Nq63
      obtain ⟨cq65, kq65, q65a, q65b, q65c⟩ := isOf hZ e63 E_TRUE
      obtain ⟨_, _, ⟨T64, L64, k64, n64⟩, -, X64, ⟨Lc64, hQ64, l64, y64, z64⟩, st64⟩ := X63.virtualBack hx (y := (⟨"com/example/gatewarden/gatewarden/policy/Truth", "or", "(Lcom/example/gatewarden/gatewarden/policy/Truth;)Lcom/example/gatewarden/gatewarden/policy/Truth;"⟩ : MethodName)) (z := (⟨"com/example/gatewarden/gatewarden/policy/Truth", "or", "(Lcom/example/gatewarden/gatewarden/policy/Truth;)Lcom/example/gatewarden/gatewarden/policy/Truth;"⟩ : MethodName)) hown (mvT hZ (hw _ (List.mem_of_getElem? (i := 8) rfl))) (mvT hZ (hw _ (List.mem_of_getElem? (i := 9) rfl))) (notFace_of_selects (args := #[]) (mvT hZ (hw _ (List.mem_of_getElem? (i := 11) rfl)))) (mvT hZ (hw _ (List.mem_of_getElem? (i := 11) rfl))) (mvT hZ (hw _ (List.mem_of_getElem? (i := 10) rfl))) (by decide) (backOf (W := 0) (rm2 l Z a0 hw [] w_TRUE w_TRUE w_FALSE w_INCONCLUSIVE w_TRUE w_TRUE h0 n0 S_FALSE S_INCONCLUSIVE S_TRUE (by unfold own_or; rw [if_pos (rfl : w_TRUE = w_TRUE)])) hZ (hw _ (List.mem_of_getElem? (i := 12) rfl)) (hw _ (List.mem_of_getElem? (i := 6) rfl)) (by decide) (by decide)) q65a q65c (g := (mkF m 30 #[.val (.int p1), .val (.int p2), .val (.int (2 : Int32)), .val (.int (2 : Int32)), .val (.ref w_TRUE), .val (.ref w_TRUE), .unset] [(.ref w_TRUE), (.ref w_TRUE)])) rfl (by rw [hml]; rfl) (Steps.refl _) (argsL := [(.ref w_TRUE)]) (rest := []) (lenOf (show parseMethodDescriptor "(Lcom/example/gatewarden/gatewarden/policy/Truth;)Lcom/example/gatewarden/gatewarden/policy/Truth;" = some ⟨[.object "com/example/gatewarden/gatewarden/policy/Truth"], some (.object "com/example/gatewarden/gatewarden/policy/Truth")⟩ by decide +kernel) rfl) rfl (by show 2 * 0 + _ ≤ _; exact Nat.le_of_eq rfl) (hb hby at_30) (fun _ _ => ⟨rfl, e63, (by decide : 0 + 0 ≤ _), (by decide : 0 + 0 ≤ _)⟩)
      dsimp only [Pt.U, Pt.locs, Pt.cells, Pt.slots] at X64 l64 y64 z64 st64 hQ64
      subst l64 y64 z64
      obtain ⟨rfl, Nq64, e64⟩ := hQ64
      have N64 := Fr.app N63 Nq64
      obtain ⟨_, _, ⟨T66, L66, k66, n66⟩, -, X66, ⟨Lc66, hQ66, l66, y66, z66⟩, st66⟩ := Jvm.LawKit.callS X64 hx (y := (⟨"java/lang/Math", "max", "(II)I"⟩ : MethodName)) hown (mvT hZ (hw _ (List.mem_of_getElem? (i := 18) rfl))) (mvT hZ (hw _ (List.mem_of_getElem? (i := 19) rfl))) (mvT hZ (hw _ (List.mem_of_getElem? (i := 20) rfl))) (mvT hZ (hw _ (List.mem_of_getElem? (i := 21) rfl))) (by decide) (backOf (W := 1) (rm3 l Z a0 hw [] (2 : Int32) (2 : Int32) (2 : Int32) h0 n0 (by unfold own_max; rw [if_neg ((by decide) : ¬ ((2 : Int32) < (2 : Int32)))])) hZ (hw _ (List.mem_of_getElem? (i := 21) rfl)) (hw _ (List.mem_of_getElem? (i := 20) rfl)) (by decide) (by decide)) (g := (mkF m 39 #[.val (.int p1), .val (.int p2), .val (.int (2 : Int32)), .val (.int (2 : Int32)), .val (.ref w_TRUE), .val (.ref w_TRUE), .val (.ref w_TRUE)] [(.int (2 : Int32)), (.int (2 : Int32)), (.ref w_TRUE)])) rfl (by rw [hml]; rfl) (argsL := [(.int (2 : Int32)), (.int (2 : Int32))]) (rest := [(.ref w_TRUE)]) (lenOf (show parseMethodDescriptor "(II)I" = some ⟨[.int, .int], some .int⟩ by decide +kernel) rfl) rfl (by show 2 * 0 + _ ≤ _; exact Nat.le_of_eq rfl) (hb hby at_39) (fun _ _ => ⟨rfl, e64, (by decide : 0 + 0 ≤ _), (by decide : 0 + 0 ≤ _)⟩)
      dsimp only [Pt.U, Pt.locs, Pt.cells, Pt.slots] at X66 l66 y66 z66 st66 hQ66
      subst l66 y66 z66
      obtain ⟨rfl, Nq66, e66⟩ := hQ66
      have N66 := Fr.app N64 Nq66
      obtain ⟨_, _, ⟨T67, L67, k67, n67⟩, -, X67, ⟨Lc67, hQ67, l67, y67, z67⟩, st67⟩ := Jvm.LawKit.callS X66 hx (y := (⟨"com/example/gatewarden/gatewarden/policy/TruthOrPinLaw", "pick", "(I)Lcom/example/gatewarden/gatewarden/policy/Truth;"⟩ : MethodName)) hown (mvT hZ (hw _ (List.mem_of_getElem? (i := 1) rfl))) (mvT hZ (hw _ (List.mem_of_getElem? (i := 2) rfl))) (mvT hZ (hw _ (List.mem_of_getElem? (i := 3) rfl))) (mvT hZ (hw _ (List.mem_of_getElem? (i := 4) rfl))) (by decide) (backOf (W := 1) (rm1 l Z a0 hw [] (2 : Int32) w_FALSE w_INCONCLUSIVE w_TRUE w_TRUE h0 n0 S_FALSE S_INCONCLUSIVE S_TRUE (by unfold own_pick; rw [if_neg ((by decide) : ¬ ((2 : Int32) = (0 : Int32))), if_neg ((by decide) : ¬ ((2 : Int32) = (1 : Int32)))])) hZ (hw _ (List.mem_of_getElem? (i := 4) rfl)) (hw _ (List.mem_of_getElem? (i := 3) rfl)) (by decide) (by decide)) (g := (mkF m 42 #[.val (.int p1), .val (.int p2), .val (.int (2 : Int32)), .val (.int (2 : Int32)), .val (.ref w_TRUE), .val (.ref w_TRUE), .val (.ref w_TRUE)] [(.int (2 : Int32)), (.ref w_TRUE)])) rfl (by rw [hml]; rfl) (argsL := [(.int (2 : Int32))]) (rest := [(.ref w_TRUE)]) (lenOf (show parseMethodDescriptor "(I)Lcom/example/gatewarden/gatewarden/policy/Truth;" = some ⟨[.int], some (.object "com/example/gatewarden/gatewarden/policy/Truth")⟩ by decide +kernel) rfl) rfl (by show 2 * 0 + _ ≤ _; exact Nat.le_of_eq rfl) (hb hby at_42) (fun _ _ => ⟨rfl, e66, (by decide : 0 + 0 ≤ _), (by decide : 0 + 0 ≤ _)⟩)
      dsimp only [Pt.U, Pt.locs, Pt.cells, Pt.slots] at X67 l67 y67 z67 st67 hQ67
      subst l67 y67 z67
      obtain ⟨rfl, Nq67, e67⟩ := hQ67
      have N67 := Fr.app N66 Nq67
      obtain ⟨fs, hr68, hrun, hended, hW, hsame⟩ := X67.leave (v := some (.int (1 : Int32))) (fun h => by rw [Bd.returns] at h; cases h)
      refine ⟨_, _, pre1 _ ?_, hrun, hended, _, _, rfl, ?_, ⟨_, rfl⟩, hW, hsame.mono (by decide) (by decide)⟩
      · show Steps p.tables e below (s₁.setTop (mkF m 14 #[.val (.int p1), .val (.int p2), .val (.int (2 : Int32)), .val (.int (2 : Int32)), .unset, .unset, .unset] [])) _
        refine XS.iloadN X0.here hx rfl (hb hby at_14) rfl ?_
        show Steps p.tables e below (s₁.setTop (mkF m 15 #[.val (.int p1), .val (.int p2), .val (.int (2 : Int32)), .val (.int (2 : Int32)), .unset, .unset, .unset] [(.int (2 : Int32))])) _
        refine st62 _ ?_
        show Steps p.tables e below (T62.setTop (mkF m 18 #[.val (.int p1), .val (.int p2), .val (.int (2 : Int32)), .val (.int (2 : Int32)), .unset, .unset, .unset] [(.ref w_TRUE)])) _
        refine XS.astore X62.here hx rfl (hb hby at_18) rfl rfl (l' := #[.val (.int p1), .val (.int p2), .val (.int (2 : Int32)), .val (.int (2 : Int32)), .val (.ref w_TRUE), .unset, .unset]) rfl ?_
        show Steps p.tables e below (T62.setTop (mkF m 20 #[.val (.int p1), .val (.int p2), .val (.int (2 : Int32)), .val (.int (2 : Int32)), .val (.ref w_TRUE), .unset, .unset] [])) _
        refine XS.iloadN X62.here hx rfl (hb hby at_20) rfl ?_
        show Steps p.tables e below (T62.setTop (mkF m 21 #[.val (.int p1), .val (.int p2), .val (.int (2 : Int32)), .val (.int (2 : Int32)), .val (.ref w_TRUE), .unset, .unset] [(.int (2 : Int32))])) _
        refine st63 _ ?_
        show Steps p.tables e below (T63.setTop (mkF m 24 #[.val (.int p1), .val (.int p2), .val (.int (2 : Int32)), .val (.int (2 : Int32)), .val (.ref w_TRUE), .unset, .unset] [(.ref w_TRUE)])) _
        refine XS.astore X63.here hx rfl (hb hby at_24) rfl rfl (l' := #[.val (.int p1), .val (.int p2), .val (.int (2 : Int32)), .val (.int (2 : Int32)), .val (.ref w_TRUE), .val (.ref w_TRUE), .unset]) rfl ?_
        show Steps p.tables e below (T63.setTop (mkF m 26 #[.val (.int p1), .val (.int p2), .val (.int (2 : Int32)), .val (.int (2 : Int32)), .val (.ref w_TRUE), .val (.ref w_TRUE), .unset] [])) _
        refine XS.aload X63.here hx rfl (hb hby at_26) rfl rfl ?_
        show Steps p.tables e below (T63.setTop (mkF m 28 #[.val (.int p1), .val (.int p2), .val (.int (2 : Int32)), .val (.int (2 : Int32)), .val (.ref w_TRUE), .val (.ref w_TRUE), .unset] [(.ref w_TRUE)])) _
        refine XS.aload X63.here hx rfl (hb hby at_28) rfl rfl ?_
        show Steps p.tables e below (T63.setTop (mkF m 30 #[.val (.int p1), .val (.int p2), .val (.int (2 : Int32)), .val (.int (2 : Int32)), .val (.ref w_TRUE), .val (.ref w_TRUE), .unset] [(.ref w_TRUE), (.ref w_TRUE)])) _
        refine st64.trans ?_
        show Steps p.tables e below (T64.setTop (mkF m 33 #[.val (.int p1), .val (.int p2), .val (.int (2 : Int32)), .val (.int (2 : Int32)), .val (.ref w_TRUE), .val (.ref w_TRUE), .unset] [(.ref w_TRUE)])) _
        refine XS.astore X64.here hx rfl (hb hby at_33) rfl rfl (l' := #[.val (.int p1), .val (.int p2), .val (.int (2 : Int32)), .val (.int (2 : Int32)), .val (.ref w_TRUE), .val (.ref w_TRUE), .val (.ref w_TRUE)]) rfl ?_
        show Steps p.tables e below (T64.setTop (mkF m 35 #[.val (.int p1), .val (.int p2), .val (.int (2 : Int32)), .val (.int (2 : Int32)), .val (.ref w_TRUE), .val (.ref w_TRUE), .val (.ref w_TRUE)] [])) _
        refine XS.aload X64.here hx rfl (hb hby at_35) rfl rfl ?_
        show Steps p.tables e below (T64.setTop (mkF m 37 #[.val (.int p1), .val (.int p2), .val (.int (2 : Int32)), .val (.int (2 : Int32)), .val (.ref w_TRUE), .val (.ref w_TRUE), .val (.ref w_TRUE)] [(.ref w_TRUE)])) _
        refine XS.iloadN X64.here hx rfl (hb hby at_37) rfl ?_
        show Steps p.tables e below (T64.setTop (mkF m 38 #[.val (.int p1), .val (.int p2), .val (.int (2 : Int32)), .val (.int (2 : Int32)), .val (.ref w_TRUE), .val (.ref w_TRUE), .val (.ref w_TRUE)] [(.int (2 : Int32)), (.ref w_TRUE)])) _
        refine XS.iloadN X64.here hx rfl (hb hby at_38) rfl ?_
        show Steps p.tables e below (T64.setTop (mkF m 39 #[.val (.int p1), .val (.int p2), .val (.int (2 : Int32)), .val (.int (2 : Int32)), .val (.ref w_TRUE), .val (.ref w_TRUE), .val (.ref w_TRUE)] [(.int (2 : Int32)), (.int (2 : Int32)), (.ref w_TRUE)])) _
        refine st66 _ ?_
        show Steps p.tables e below (T66.setTop (mkF m 42 #[.val (.int p1), .val (.int p2), .val (.int (2 : Int32)), .val (.int (2 : Int32)), .val (.ref w_TRUE), .val (.ref w_TRUE), .val (.ref w_TRUE)] [(.int (2 : Int32)), (.ref w_TRUE)])) _
        refine st67 _ ?_
        show Steps p.tables e below (T67.setTop (mkF m 45 #[.val (.int p1), .val (.int p2), .val (.int (2 : Int32)), .val (.int (2 : Int32)), .val (.ref w_TRUE), .val (.ref w_TRUE), .val (.ref w_TRUE)] [(.ref w_TRUE), (.ref w_TRUE)])) _
        refine Jvm.RoadKit.acmp (g := (mkF m 45 #[.val (.int p1), .val (.int p2), .val (.int (2 : Int32)), .val (.int (2 : Int32)), .val (.ref w_TRUE), .val (.ref w_TRUE), .val (.ref w_TRUE)] [(.ref w_TRUE), (.ref w_TRUE)])) X67 hx rfl rfl rfl (pc0 := 45) (pc' := 48) (same := true) rfl (hb hby at_45) rfl (decide_eq_true (congrArg Value.ref (rfl : w_TRUE = w_TRUE))) (by decide) (by decide) ?_
        show Steps p.tables e below (T67.setTop (mkF m 48 #[.val (.int p1), .val (.int p2), .val (.int (2 : Int32)), .val (.int (2 : Int32)), .val (.ref w_TRUE), .val (.ref w_TRUE), .val (.ref w_TRUE)] [])) _
        refine XT.iconstV X67.here hx rfl (1 : Int32) (hb hby at_48) (by decide) ?_
        show Steps p.tables e below (T67.setTop (mkF m 49 #[.val (.int p1), .val (.int p2), .val (.int (2 : Int32)), .val (.int (2 : Int32)), .val (.ref w_TRUE), .val (.ref w_TRUE), .val (.ref w_TRUE)] [(.int (1 : Int32))])) _
        refine XS.goto X67.here hx rfl (pc0 := 49) (pc' := 53) rfl (hb hby at_49) (by decide) (by decide) ?_
        show Steps p.tables e below (T67.setTop (mkF m 53 #[.val (.int p1), .val (.int p2), .val (.int (2 : Int32)), .val (.int (2 : Int32)), .val (.ref w_TRUE), .val (.ref w_TRUE), .val (.ref w_TRUE)] [(.int (1 : Int32))])) _
        exact retN X67 hx (t := .boolean) Bd.returns (by simp) (hb hby at_53) hr68
      · show Q0 Z _ _ _ _ _ h0 n0 _ T67.heap _
        rw [e67]
        exact ⟨rfl, N67⟩
set_option maxRecDepth 65536 in
set_option maxHeartbeats 40000000 in
theorem comes_1 {Post : Tables → Env → Array Value → State → Outcome → State → Prop} (hpost : ∀ tb e args s v u, (limb_1_1.after args s (.returned v) u = true ∧ limb_1_2.after args s (.returned v) u = true ∧ True) → FrameEnd s (.returned v) u (Jvm.fieldLocs frame_1_writes args s ++ Jvm.arrayLocs frame_1_arrays args s ++ Jvm.staticLocs frame_1_statics s) 0 0 → Post tb e args s (.returned v) u) :
    ArmFor flags0 classFile x code maxLocals ret World_1 tables_1 room_1 Calls_1 rest_1 Pre_1 Post := by
  intro l hfl _ _ p e ha hc hk s m args below hf hA hF happ hP
  obtain ⟨hcalls, hrest, hpre⟩ := hP
  obtain ⟨-, -, -, hnamed, -, -, -, hat⟩ := (Spec.applies_iff hf).mp happ
  obtain ⟨hg, hn⟩ := and_e (Cond.before_iff.mp (show (Jvm.Cond.and given_1 narrow_1).before args s = true from hpre))
  obtain ⟨gc, t0⟩ := and_e hg
  obtain ⟨g0, t1⟩ := and_e t0
  have g1 := t1
  obtain ⟨w0, w1, rfl⟩ : ∃ w0 w1 : Value, args = #[w0, w1] := by
    have hs : args.size = 2 := by simpa [Cond.value, given_1] using gc
    obtain ⟨L⟩ := args
    match L, hs with
    | [w0, w1], _ => exact ⟨w0, w1, rfl⟩
  have hw := fun d (hd : d ∈ tables_1) => atoms_spec (ws := Jvm.Cond.code x code maxLocals ret :: tables_1) hat d (List.mem_cons_of_mem _ hd)
  have hfit : Fit s := fun {y c} hc i hi => by
    obtain ⟨ha, rfl⟩ := Array.getElem?_eq_some_iff.mp hc
    have q := List.all_eq_true.mp ((Array.all_eq_true_iff_forall_mem.mp hF) _ (Array.getElem_mem ha)) i (List.mem_range.mpr hi)
    simpa [Array.getElem?_eq_getElem hi] using q
  obtain ⟨i0, ei0⟩ := is_v g0
  obtain rfl : w0 = (.int i0) := Option.some.inj ei0
  obtain ⟨i1, ei1⟩ := is_v g1
  obtain rfl : w1 = (.int i1) := Option.some.inj ei1
  obtain ⟨c0, r0⟩ := and_e hn
  obtain ⟨c1, r1⟩ := and_e r0
  obtain ⟨c2, r2⟩ := and_e r1
  obtain ⟨c3, r3⟩ := and_e r2
  obtain ⟨c4, r4⟩ := and_e r3
  obtain ⟨w_FALSE, ev_FALSE⟩ := exa_v c0
  have E_FALSE := Exa.start ev_FALSE c0
  have S_FALSE := Sta.start ev_FALSE (Or.inr ⟨(hw _ (List.mem_of_getElem? (i := 6) rfl)), (hw _ (List.mem_of_getElem? (i := 7) rfl))⟩)
  obtain ⟨w_TRUE, ev_TRUE⟩ := exa_v c1
  have E_TRUE := Exa.start ev_TRUE c1
  have S_TRUE := Sta.start ev_TRUE (Or.inr ⟨(hw _ (List.mem_of_getElem? (i := 6) rfl)), (hw _ (List.mem_of_getElem? (i := 14) rfl))⟩)
  have O_FALSE := own_ordinal ev_FALSE c2
  have O_TRUE := own_ordinal ev_TRUE c3
  obtain ⟨w_INCONCLUSIVE, ev_INCONCLUSIVE⟩ := exa_v c4
  have E_INCONCLUSIVE := Exa.start ev_INCONCLUSIVE c4
  have S_INCONCLUSIVE := Sta.start ev_INCONCLUSIVE (Or.inr ⟨(hw _ (List.mem_of_getElem? (i := 6) rfl)), (hw _ (List.mem_of_getElem? (i := 16) rfl))⟩)
  have O_INCONCLUSIVE := own_ordinal ev_INCONCLUSIVE r4
  obtain ⟨n, o, h1, h2, h3, _, L, rfl, ⟨rfl, N⟩, hq⟩ := rm0 l s _ hw tables_1 i0 i1 w_FALSE w_TRUE w_INCONCLUSIVE s.heap s.heap.size S_FALSE S_TRUE S_INCONCLUSIVE E_FALSE E_TRUE E_INCONCLUSIVE O_FALSE O_TRUE O_INCONCLUSIVE p e ha hc hk s m _ below hf ((Spec.applies_iff_loose hf).mp happ).1 ⟨rfl, State.Warmed39.refl s, rfl⟩ trivial
  refine ⟨n, _, h1, h2, h3, hpost _ _ _ _ _ _ ⟨Cond.after_iff.mpr rfl, Cond.after_iff.mpr (eq_i res_at (Term.int_eval (1)) rfl), trivial⟩ ⟨hq.1, hq.2.1, (hq.2.2.sift fun y hy => Or.inr (N y hy)).mono (by decide) (by decide)⟩⟩
theorem main_1_1 : Claimed_1_1 := comes_1 fun _ _ _ _ _ _ h hF => ⟨h.1, hF⟩
theorem main_1_2 : Claimed_1_2 := comes_1 fun _ _ _ _ _ _ h hF => ⟨h.2.1, hF⟩
end Jvm.Pilot.@@N@@
namespace Jvm.Pilot.@@N@@
open Jvm Jvm.ClassFile Sem Op Lib Jvm.Free Jvm.Stand Jvm.Pilot.@@N@@.Jvm.D
/-! MADE BY PROGRAM (witnessworld.py) out of the Statement's table words and the real class files: 13 classes; the members and pool entries that the words name. The judged class is class 1, her method 2. -/
namespace start1
open Jvm.ClassFile
def u (s : String) : CpInfo := .utf8 (stringToUtf16 s)
/-- a pool by its gaps: so many unusable entries, then the entry; so many at the end -/
def gap : Nat → List CpInfo → List CpInfo
  | 0, r => r
  | n + 1, r => .unusable :: gap n r
def poolList (es : List (Nat × CpInfo)) (last : Nat) : List CpInfo := es.foldr (fun e r => gap e.1 (e.2 :: r)) (gap last [])
def pool (es : List (Nat × CpInfo)) (last : Nat) : Array CpInfo := ⟨poolList es last⟩
def fileOf (pool : Array CpInfo) (this : Nat) (attrs : Array Attribute := #[]) (ms : Array MethodInfo := #[]) (fl : Nat := 33) (sup : Nat := 0) (ifs : Array Nat := #[]) (fds : Array FieldInfo := #[]) : ClassFile where
  minorVersion := 0
  majorVersion := 65
  constantPool := pool
  accessFlags := fl
  thisClass := this
  superClass := sup
  interfaces := ifs
  fields := fds
  methods := ms
  attributes := attrs
def plain (name : String) (sup : Option ClassId) : Class where
  name := name
  kind := .ordinary
  loader := none
  accessFlags := 33
  super := sup
  interfaces := #[]
  cf := none
  fields := #[]
  methods := #[]
  instanceTypes := #[]
  staticTypes := #[]
  resolved := #[]
  callSites := []
  init := .initialized
  statics := none
  mirror := none

def pool0 : Array CpInfo := pool [(5, u "<init>"), (0, u "()V"), (1, .class_ 10), (1, u "java/lang/Object")] 113

def k0m0 : Method := { name := "<init>", desc := "()V", sig := { parameters := [], returnType := none }, accessFlags := 1, code := none }
/-- java/lang/Object -/
def k0 : Class := { plain "java/lang/Object" none with
  accessFlags := 33
  interfaces := #[]
  cf := some (fileOf pool0 8 #[] #[{ accessFlags := 1, nameIndex := 5, descriptorIndex := 6, attributes := #[] }] 33 0 #[] #[])
  fields := #[]
  methods := #[k0m0]
  instanceTypes := #[]
  staticTypes := #[]
  resolved := Array.replicate 124 none
  statics := none }

def pool1 : Array CpInfo := pool [(2, .class_ 4), (1, u "java/lang/Object"), (0, u "<init>"), (0, u "()V"), (0, .fieldref 8 9), (0, .class_ 10), (0, .nameAndType 11 12), (0, u "com/example/gatewarden/gatewarden/policy/Truth"), (0, u "FALSE"), (0, u "Lcom/example/gatewarden/gatewarden/policy/Truth;"), (0, .fieldref 8 14), (0, .nameAndType 15 12), (0, u "INCONCLUSIVE"), (0, .fieldref 8 17), (0, .nameAndType 18 12), (0, u "TRUE"), (0, .integer 2147483647), (0, .methodref 21 22), (0, .class_ 23), (0, .nameAndType 24 25), (0, u "com/example/gatewarden/gatewarden/policy/TruthOrPinLaw"), (0, u "pick"), (0, u "(I)Lcom/example/gatewarden/gatewarden/policy/Truth;"), (0, .methodref 8 27), (0, .nameAndType 28 29), (0, u "or"), (0, u "(Lcom/example/gatewarden/gatewarden/policy/Truth;)Lcom/example/gatewarden/gatewarden/policy/Truth;"), (0, .methodref 31 32), (0, .class_ 33), (0, .nameAndType 34 35), (0, u "java/lang/Math"), (0, u "max"), (0, u "(II)I"), (3, u "law"), (0, u "(II)Z")] 2

def k1m0 : Method := { name := "<init>", desc := "()V", sig := { parameters := [], returnType := none }, accessFlags := 2, code := none }
def k1c1 : Code := { maxStack := 2, maxLocals := 1, code := method_2_code, exceptionTable := #[], attributes := #[] }
def k1m1 : Method := { name := "pick", desc := "(I)Lcom/example/gatewarden/gatewarden/policy/Truth;", sig := { parameters := [.int], returnType := some (.object "com/example/gatewarden/gatewarden/policy/Truth") }, accessFlags := 10, code := some k1c1 }
def k1c2 : Code := { maxStack := 3, maxLocals := 7, code := code, exceptionTable := #[], attributes := #[] }
def k1m2 : Method := { name := "law", desc := "(II)Z", sig := { parameters := [.int, .int], returnType := some .boolean }, accessFlags := 9, code := some k1c2 }
/-- com/example/gatewarden/gatewarden/policy/TruthOrPinLaw -/
def k1 : Class := { plain "com/example/gatewarden/gatewarden/policy/TruthOrPinLaw" (some 0) with
  accessFlags := 49
  interfaces := #[]
  cf := some (fileOf pool1 21 #[] #[{ accessFlags := 2, nameIndex := 5, descriptorIndex := 6, attributes := #[] }, { accessFlags := 10, nameIndex := 24, descriptorIndex := 25, attributes := #[] }, { accessFlags := 9, nameIndex := 39, descriptorIndex := 40, attributes := #[] }] 49 2 #[] #[])
  fields := #[]
  methods := #[k1m0, k1m1, k1m2]
  instanceTypes := #[]
  staticTypes := #[]
  resolved := Array.replicate 43 none
  statics := none }

def pool2 : Array CpInfo := pool [(1, .class_ 2), (0, u "java/lang/constant/Constable"), (0, .class_ 4), (0, u "java/lang/Object")] 6

/-- java/lang/constant/Constable -/
def k2 : Class := { plain "java/lang/constant/Constable" (some 0) with
  accessFlags := 1537
  interfaces := #[]
  cf := some (fileOf pool2 1 #[] #[] 1537 3 #[] #[])
  fields := #[]
  methods := #[]
  instanceTypes := #[]
  staticTypes := #[]
  resolved := Array.replicate 11 none
  statics := none }

def pool3 : Array CpInfo := pool [(1, .class_ 2), (0, u "java/lang/Comparable"), (0, .class_ 4), (0, u "java/lang/Object")] 7

/-- java/lang/Comparable -/
def k3 : Class := { plain "java/lang/Comparable" (some 0) with
  accessFlags := 1537
  interfaces := #[]
  cf := some (fileOf pool3 1 #[] #[] 1537 3 #[] #[])
  fields := #[]
  methods := #[]
  instanceTypes := #[]
  staticTypes := #[]
  resolved := Array.replicate 12 none
  statics := none }

def pool4 : Array CpInfo := pool [(1, .class_ 2), (0, u "java/io/Serializable"), (0, .class_ 4), (0, u "java/lang/Object")] 2

/-- java/io/Serializable -/
def k4 : Class := { plain "java/io/Serializable" (some 0) with
  accessFlags := 1537
  interfaces := #[]
  cf := some (fileOf pool4 1 #[] #[] 1537 3 #[] #[])
  fields := #[]
  methods := #[]
  instanceTypes := #[]
  staticTypes := #[]
  resolved := Array.replicate 7 none
  statics := none }

def pool5 : Array CpInfo := pool [(2, .class_ 4), (1, u "java/lang/Enum"), (0, u "name"), (0, u "Ljava/lang/String;"), (2, u "ordinal"), (0, u "I"), (1, .class_ 14), (1, u "java/lang/Object"), (4, u "hash"), (86, .class_ 108), (1, u "java/lang/Enum$EnumDesc"), (2, .class_ 112), (0, u "java/lang/constant/Constable"), (0, .class_ 114), (0, u "java/lang/Comparable"), (0, .class_ 116), (0, u "java/io/Serializable")] 87

/-- java/lang/Enum -/
def k5 : Class := { plain "java/lang/Enum" (some 0) with
  accessFlags := 1057
  interfaces := #[2, 3, 4]
  cf := some (fileOf pool5 2 #[.nestMembers #[106]] #[] 1057 12 #[111, 113, 115] #[{ accessFlags := 18, nameIndex := 5, descriptorIndex := 6, attributes := #[] }, { accessFlags := 18, nameIndex := 9, descriptorIndex := 10, attributes := #[] }, { accessFlags := 2, nameIndex := 19, descriptorIndex := 10, attributes := #[] }])
  fields := #[{ name := "name", type := (.object "java/lang/String"), accessFlags := 18, slot := 0, constantValue := 0 }, { name := "ordinal", type := .int, accessFlags := 18, slot := 1, constantValue := 0 }, { name := "hash", type := .int, accessFlags := 2, slot := 2, constantValue := 0 }]
  methods := #[]
  instanceTypes := #[(.object "java/lang/String"), .int, .int]
  staticTypes := #[]
  resolved := Array.replicate 204 none
  statics := none }

def pool6 : Array CpInfo := pool [(1, .class_ 2), (0, u "com/example/gatewarden/gatewarden/policy/Truth"), (0, .fieldref 1 4), (0, .nameAndType 5 6), (0, u "TRUE"), (0, u "Lcom/example/gatewarden/gatewarden/policy/Truth;"), (0, .fieldref 1 8), (0, .nameAndType 9 6), (0, u "FALSE"), (0, .fieldref 1 11), (0, .nameAndType 12 6), (0, u "INCONCLUSIVE"), (2, u "$VALUES"), (0, u "[Lcom/example/gatewarden/gatewarden/policy/Truth;"), (6, .class_ 25), (1, u "java/lang/Enum"), (48, u "(Lcom/example/gatewarden/gatewarden/policy/Truth;)Lcom/example/gatewarden/gatewarden/policy/Truth;"), (1, u "or")] 6

def k6c0 : Code := { maxStack := 2, maxLocals := 2, code := prog_46_method_6_code, exceptionTable := #[], attributes := #[] }
def k6m0 : Method := { name := "or", desc := "(Lcom/example/gatewarden/gatewarden/policy/Truth;)Lcom/example/gatewarden/gatewarden/policy/Truth;", sig := { parameters := [(.object "com/example/gatewarden/gatewarden/policy/Truth")], returnType := some (.object "com/example/gatewarden/gatewarden/policy/Truth") }, accessFlags := 0, code := some k6c0 }
/-- com/example/gatewarden/gatewarden/policy/Truth -/
def k6 : Class := { plain "com/example/gatewarden/gatewarden/policy/Truth" (some 5) with
  accessFlags := 16433
  interfaces := #[]
  cf := some (fileOf pool6 1 #[] #[{ accessFlags := 0, nameIndex := 76, descriptorIndex := 74, attributes := #[] }] 16433 23 #[] #[{ accessFlags := 16409, nameIndex := 5, descriptorIndex := 6, attributes := #[] }, { accessFlags := 16409, nameIndex := 9, descriptorIndex := 6, attributes := #[] }, { accessFlags := 16409, nameIndex := 12, descriptorIndex := 6, attributes := #[] }, { accessFlags := 4122, nameIndex := 15, descriptorIndex := 16, attributes := #[] }])
  fields := #[{ name := "TRUE", type := (.object "com/example/gatewarden/gatewarden/policy/Truth"), accessFlags := 16409, slot := 0, constantValue := 0 }, { name := "FALSE", type := (.object "com/example/gatewarden/gatewarden/policy/Truth"), accessFlags := 16409, slot := 1, constantValue := 0 }, { name := "INCONCLUSIVE", type := (.object "com/example/gatewarden/gatewarden/policy/Truth"), accessFlags := 16409, slot := 2, constantValue := 0 }, { name := "$VALUES", type := (.array (.object "com/example/gatewarden/gatewarden/policy/Truth")), accessFlags := 4122, slot := 3, constantValue := 0 }]
  methods := #[k6m0]
  instanceTypes := #[(.object "java/lang/String"), .int, .int]
  staticTypes := #[(.object "com/example/gatewarden/gatewarden/policy/Truth"), (.object "com/example/gatewarden/gatewarden/policy/Truth"), (.object "com/example/gatewarden/gatewarden/policy/Truth"), (.array (.object "com/example/gatewarden/gatewarden/policy/Truth"))]
  resolved := Array.replicate 83 none
  statics := some 0 }

def pool7 : Array CpInfo := pool [(1, .class_ 2), (0, u "java/lang/Math"), (1, .class_ 6), (1, u "java/lang/Object"), (0, u "<init>"), (0, u "()V"), (89, .class_ 100), (1, u "java/lang/Math$RandomNumberGeneratorHolder"), (71, u "negativeZeroFloatBits"), (0, u "J"), (2, u "negativeZeroDoubleBits"), (21, u "max"), (46, u "$assertionsDisabled"), (0, u "Z"), (88, u "(II)I"), (2, u "twoToTheDoubleScaleDown"), (0, u "D"), (4, u "twoToTheDoubleScaleUp"), (9, u "E"), (3, u "PI"), (2, u "TAU"), (2, u "DEGREES_TO_RADIANS"), (0, u "RADIANS_TO_DEGREES")] 94

def k7m0 : Method := { name := "<init>", desc := "()V", sig := { parameters := [], returnType := none }, accessFlags := 2, code := none }
def k7c1 : Code := { maxStack := 2, maxLocals := 2, code := jdk_29_method_65_code, exceptionTable := #[], attributes := #[] }
def k7m1 : Method := { name := "max", desc := "(II)I", sig := { parameters := [.int, .int], returnType := some .int }, accessFlags := 9, code := some k7c1 }
/-- java/lang/Math -/
def k7 : Class := { plain "java/lang/Math" (some 0) with
  accessFlags := 49
  interfaces := #[]
  cf := some (fileOf pool7 1 #[.nestMembers #[98]] #[{ accessFlags := 2, nameIndex := 7, descriptorIndex := 8, attributes := #[] }, { accessFlags := 9, nameIndex := 198, descriptorIndex := 335, attributes := #[] }] 49 4 #[] #[{ accessFlags := 25, nameIndex := 354, descriptorIndex := 339, attributes := #[] }, { accessFlags := 25, nameIndex := 358, descriptorIndex := 339, attributes := #[] }, { accessFlags := 25, nameIndex := 361, descriptorIndex := 339, attributes := #[] }, { accessFlags := 26, nameIndex := 364, descriptorIndex := 339, attributes := #[] }, { accessFlags := 26, nameIndex := 365, descriptorIndex := 339, attributes := #[] }, { accessFlags := 26, nameIndex := 172, descriptorIndex := 173, attributes := #[] }, { accessFlags := 26, nameIndex := 176, descriptorIndex := 173, attributes := #[] }, { accessFlags := 8, nameIndex := 344, descriptorIndex := 339, attributes := #[] }, { accessFlags := 8, nameIndex := 338, descriptorIndex := 339, attributes := #[] }, { accessFlags := 4120, nameIndex := 245, descriptorIndex := 246, attributes := #[] }])
  fields := #[{ name := "E", type := .double, accessFlags := 25, slot := 0, constantValue := 0 }, { name := "PI", type := .double, accessFlags := 25, slot := 1, constantValue := 0 }, { name := "TAU", type := .double, accessFlags := 25, slot := 2, constantValue := 0 }, { name := "DEGREES_TO_RADIANS", type := .double, accessFlags := 26, slot := 3, constantValue := 0 }, { name := "RADIANS_TO_DEGREES", type := .double, accessFlags := 26, slot := 4, constantValue := 0 }, { name := "negativeZeroFloatBits", type := .long, accessFlags := 26, slot := 5, constantValue := 0 }, { name := "negativeZeroDoubleBits", type := .long, accessFlags := 26, slot := 6, constantValue := 0 }, { name := "twoToTheDoubleScaleUp", type := .double, accessFlags := 8, slot := 7, constantValue := 0 }, { name := "twoToTheDoubleScaleDown", type := .double, accessFlags := 8, slot := 8, constantValue := 0 }, { name := "$assertionsDisabled", type := .boolean, accessFlags := 4120, slot := 9, constantValue := 0 }]
  methods := #[k7m0, k7m1]
  instanceTypes := #[]
  staticTypes := #[.double, .double, .double, .double, .double, .long, .long, .double, .double, .boolean]
  resolved := Array.replicate 460 none
  statics := none }

def pool8 : Array CpInfo := pool [(1, u "java/lang/Cloneable"), (0, .class_ 1), (0, u "java/lang/Object"), (0, .class_ 3)] 3

/-- java/lang/Cloneable -/
def k8 : Class := { plain "java/lang/Cloneable" (some 0) with
  accessFlags := 1537
  interfaces := #[]
  cf := some (fileOf pool8 2 #[] #[] 1537 4 #[] #[])
  fields := #[]
  methods := #[]
  instanceTypes := #[]
  staticTypes := #[]
  resolved := Array.replicate 8 none
  statics := none }

/-- the primitive byte -/
def k9 : Class := { plain "byte" none with kind := .primitive 'B', accessFlags := 0x411 }
/-- [B -/
def k10 : Class := { plain "[B" (some 0) with kind := .array 9 .byte, interfaces := #[8, 4], accessFlags := 1041 }

/-- the primitive int -/
def k11 : Class := { plain "int" none with kind := .primitive 'I', accessFlags := 0x411 }
/-- [I -/
def k12 : Class := { plain "[I" (some 0) with kind := .array 11 .int, interfaces := #[8, 4], accessFlags := 1041 }

def heap : Heap := #[{ cls := 6, slots := #[.ref 2, .ref 1, .ref 3, .null], vm := .statics 6 },
  { cls := 6, slots := #[.null, .int 1, .int 0], vm := .none },
  { cls := 6, slots := #[.null, .int 0, .int 0], vm := .none },
  { cls := 6, slots := #[.null, .int 2, .int 0], vm := .none }]
def classes : Array Class := #[k0, k1, k2, k3, k4, k5, k6, k7, k8, k9, k10, k11, k12]
def interned : List (Array UInt16 × Addr) := []
def slotsUsed : Nat := 13
def theMethod : MethodId := ⟨1, 2⟩
def args0 : Array Value := #[.int 5, .int 300]
def aboutOver (below : List Frame) : State where
  vm := { classes := classes, interned := interned.toArray }
  heap := heap
  slotsUsed := slotsUsed
  threads := #[{ frames := .invoking theMethod args0 :: below }]
def below0 : List Frame := [.native { method := ⟨0, 0⟩, args := #[] }]
def about1 : State := aboutOver below0
def p0 : Program := .bare "" "" ""
def e0 : Env := launch0.env 0 0 0
theorem w_frames : about1.frames = Frame.invoking theMethod args0 :: below0 := rfl
set_option maxRecDepth 65536 in
theorem w_args : argsFit about1.vm theMethod args0 = true := by decide +kernel
set_option maxRecDepth 65536 in
theorem w_heap : heapFits about1 = true := by decide +kernel
set_option maxRecDepth 65536 in
theorem w_runnable : about1.curStatus? = some .runnable := by decide +kernel
set_option maxRecDepth 65536 in
theorem w_alone : about1.alone = true := by decide +kernel
set_option maxRecDepth 65536 in
theorem w_named : about1.methodNamed? x = some theMethod := by decide +kernel
set_option maxRecDepth 65536 in
theorem w_hears : about1.hears theMethod below0 = true := by decide +kernel
set_option maxRecDepth 65536 in
theorem w_ripe : about1.ripe theMethod args0 below0 = true := by decide +kernel
theorem w_running : about1.status = .running := rfl
set_option maxRecDepth 65536 in
theorem w_room : about1.hasRoom e0.platform room_1 = true :=
  launch0.hasRoom_least _ room_1 (by decide +kernel) (by decide +kernel) (by decide +kernel) (by decide +kernel) (by decide +kernel) (by decide +kernel)
theorem allAtoms_all (ts : List Jvm.Cond) (a : Array Jvm.Value) (st : Jvm.State) : (allAtoms ts).before a st = ts.all (fun c => c.before a st) := by
  induction ts with
  | nil => rfl
  | cons c t ih =>
    show (Jvm.Cond.and c (allAtoms t)).before a st = _
    rw [Jvm.Cond.before_and, ih, List.all_cons]
def words1 : List Jvm.Cond := Jvm.Cond.code x code maxLocals ret :: tables_1
/-- a 'code' word, met by the world's own term for the bytes: nothing is compared byte by byte -/
theorem code_word {y : MethodName} {bytes : ByteArray} {mx : Nat} {rt : Option FieldType} {a : Array Value} {s : State} {m : MethodId} {meth : Method} {c : Code} (h1 : s.methodNamed? y = some m) (h2 : s.vm.method? m = some meth) (h3 : meth.code = some c) (h4 : c.code = bytes)
    (h5 : (c.maxLocals == mx && c.exceptionTable.isEmpty && decide (c.maxStack ≤ mostOperands) && decide (meth.sig.returnType = rt) && !meth.locks && decide (parseMethodDescriptor y.desc = some meth.sig)) = true) : (Jvm.Cond.code y bytes mx rt).before a s = true := by
  simp only [Bool.and_eq_true, beq_iff_eq, Bool.not_eq_true', decide_eq_true_eq] at h5
  obtain ⟨⟨⟨⟨⟨g1, g2⟩, g3⟩, g4⟩, g5⟩, g6⟩ := h5
  simp [Cond.before, Cond.holds, Cond.value, h1, h2, h3, h4, g1, g2, g3, g4, g5, g6]
def isCode : Jvm.Cond → Bool
  | .code _ _ _ _ => true
  | _ => false
theorem all_split {L : List Jvm.Cond} {P : Jvm.Cond → Bool} (h1 : L.all (fun c => isCode c || P c) = true) (h2 : ∀ c ∈ L.filter isCode, P c = true) : L.all P = true := by
  refine List.all_eq_true.mpr fun c hc => ?_
  have h := List.all_eq_true.mp h1 c hc
  rcases Bool.eq_false_or_eq_true (isCode c) with hi | hi
  · exact h2 c (List.mem_filter.mpr ⟨hc, hi⟩)
  · simpa [hi] using h
set_option maxRecDepth 65536 in
theorem w_c0 : (Jvm.Cond.code x code maxLocals ret).before args0 about1 = true := code_word (m := ⟨1, 2⟩) (meth := k1m2) (c := k1c2) (by decide +kernel) rfl rfl rfl (by decide +kernel)
set_option maxRecDepth 65536 in
theorem w_c1 : (Jvm.Cond.code ({ cls := "com/example/gatewarden/gatewarden/policy/TruthOrPinLaw", name := "pick", desc := "(I)Lcom/example/gatewarden/gatewarden/policy/Truth;" } : Jvm.MethodName) method_2_code (1 : Nat) (Option.some (Jvm.ClassFile.FieldType.object "com/example/gatewarden/gatewarden/policy/Truth"))).before args0 about1 = true := code_word (m := ⟨1, 1⟩) (meth := k1m1) (c := k1c1) (by decide +kernel) rfl rfl rfl (by decide +kernel)
set_option maxRecDepth 65536 in
theorem w_c2 : (Jvm.Cond.code ({ cls := "com/example/gatewarden/gatewarden/policy/Truth", name := "or", desc := "(Lcom/example/gatewarden/gatewarden/policy/Truth;)Lcom/example/gatewarden/gatewarden/policy/Truth;" } : Jvm.MethodName) prog_46_method_6_code (2 : Nat) (Option.some (Jvm.ClassFile.FieldType.object "com/example/gatewarden/gatewarden/policy/Truth"))).before args0 about1 = true := code_word (m := ⟨6, 0⟩) (meth := k6m0) (c := k6c0) (by decide +kernel) rfl rfl rfl (by decide +kernel)
set_option maxRecDepth 65536 in
theorem w_c3 : (Jvm.Cond.code ({ cls := "java/lang/Math", name := "max", desc := "(II)I" } : Jvm.MethodName) jdk_29_method_65_code (2 : Nat) (Option.some Jvm.ClassFile.FieldType.int)).before args0 about1 = true := code_word (m := ⟨7, 1⟩) (meth := k7m1) (c := k7c1) (by decide +kernel) rfl rfl rfl (by decide +kernel)
def codes1 : List Jvm.Cond := [Jvm.Cond.code x code maxLocals ret, Jvm.Cond.code ({ cls := "com/example/gatewarden/gatewarden/policy/TruthOrPinLaw", name := "pick", desc := "(I)Lcom/example/gatewarden/gatewarden/policy/Truth;" } : Jvm.MethodName) method_2_code (1 : Nat) (Option.some (Jvm.ClassFile.FieldType.object "com/example/gatewarden/gatewarden/policy/Truth")), Jvm.Cond.code ({ cls := "com/example/gatewarden/gatewarden/policy/Truth", name := "or", desc := "(Lcom/example/gatewarden/gatewarden/policy/Truth;)Lcom/example/gatewarden/gatewarden/policy/Truth;" } : Jvm.MethodName) prog_46_method_6_code (2 : Nat) (Option.some (Jvm.ClassFile.FieldType.object "com/example/gatewarden/gatewarden/policy/Truth")), Jvm.Cond.code ({ cls := "java/lang/Math", name := "max", desc := "(II)I" } : Jvm.MethodName) jdk_29_method_65_code (2 : Nat) (Option.some Jvm.ClassFile.FieldType.int)]
set_option maxRecDepth 65536 in
theorem codes_eq : words1.filter isCode = codes1 := rfl
theorem w_codes : ∀ c ∈ words1.filter isCode, c.before args0 about1 = true := by
  rw [codes_eq]
  intro c hc
  simp only [codes1, List.mem_cons, List.not_mem_nil, or_false] at hc
  rcases hc with rfl | rfl | rfl | rfl
  · exact w_c0
  · exact w_c1
  · exact w_c2
  · exact w_c3
set_option maxRecDepth 65536 in
theorem w_t1 : (words1.take 24).all (fun c => isCode c || c.before args0 about1) = true := by decide +kernel
set_option maxRecDepth 65536 in
theorem w_t2 : (words1.drop 24).all (fun c => isCode c || c.before args0 about1) = true := by decide +kernel
theorem w_tables : (allAtoms (Jvm.Cond.code x code maxLocals ret :: tables_1)).before args0 about1 = true := by
  rw [allAtoms_all]
  show words1.all (fun c => c.before args0 about1) = true
  refine all_split ?_ w_codes
  rw [← List.take_append_drop 24 words1, List.all_append, w_t1, w_t2]
  rfl
set_option maxRecDepth 65536 in
theorem w_case : (Jvm.Cond.and given_1 narrow_1).before args0 about1 = true := by decide +kernel
theorem w_applies : (headSpec (Jvm.Cond.code x code maxLocals ret :: tables_1) room_1).applies x e0.platform about1 = true :=
  (Spec.applies_iff w_frames).mpr ⟨w_running, w_runnable, w_alone, w_named, w_hears, w_ripe, w_room, w_tables⟩
theorem atStart : AtStart classFile x code maxLocals ret World_1 tables_1 room_1 Calls_1 rest_1 Pre_1 launch0 p0 e0 about1 theMethod args0 below0 :=
  ⟨lists_1, trivial, launch0.admits_env _ _ _, launch0.least_env, fairChoices_fair.cas, fairChoices_fair.clock, w_frames, w_args, w_heap, w_applies, trivial, trivial, w_case⟩
end start1
theorem witness_1 : WitnessClaimed_1 := ⟨start1.p0, start1.e0, start1.about1, start1.theMethod, start1.args0, start1.below0, start1.atStart⟩
end Jvm.Pilot.@@N@@
