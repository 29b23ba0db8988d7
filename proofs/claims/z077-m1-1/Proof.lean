import JvmDerived
import JvmDerived.Pilot.@@N@@Statement
import JvmDerived.Pilot.@@N@@Code
set_option linter.unusedVariables false
set_option linter.unusedSimpArgs false
namespace Jvm.Pilot.@@N@@
open Jvm Jvm.ClassFile Sem Op Lib Jvm.Free Jvm.Stand Jvm.LawKit Jvm.RoadKit Bundle Jvm.Pilot.@@N@@.Jvm.D
theorem own_ordinal {args : Array Value} {Z : State} {t : Term} {a : Addr} {C n d : String} {k : Int32} (ev : t.eval args Z none [] Z = some (.ref a)) (h : (Jvm.Cond.eq (Term.field t C n d) (Term.int k)).value args Z none Z [] = some true) : Fld Z Z.heap a C n d (.int k) := by
  apply Fld.start
  obtain ⟨x, y, ex, ey, hk, -⟩ := cmp_v (Or.inl h)
  have hf : Z.fieldOf? a C n d = some x := (fld_at ev).symm.trans ex
  have hy : y = .int k := Option.some.inj (ey.symm.trans (Term.int_eval k))
  subst hy
  cases x <;> simp [Kin, Value.isRef] at hk
  rename_i z
  have q := gotT (Cond.eq_ints ex ey) h
  rw [hf, q]
theorem own_rem9 (x : Int32) : ((x &&& (2147483647 : Int32)) % (9 : Int32)) = (0 : Int32) ∨ ((x &&& (2147483647 : Int32)) % (9 : Int32)) = (1 : Int32) ∨ ((x &&& (2147483647 : Int32)) % (9 : Int32)) = (2 : Int32) ∨ ((x &&& (2147483647 : Int32)) % (9 : Int32)) = (3 : Int32) ∨ ((x &&& (2147483647 : Int32)) % (9 : Int32)) = (4 : Int32) ∨ ((x &&& (2147483647 : Int32)) % (9 : Int32)) = (5 : Int32) ∨ ((x &&& (2147483647 : Int32)) % (9 : Int32)) = (6 : Int32) ∨ ((x &&& (2147483647 : Int32)) % (9 : Int32)) = (7 : Int32) ∨ ((x &&& (2147483647 : Int32)) % (9 : Int32)) = (8 : Int32) := by
  have h1 := (c_and x (2147483647 : Int32) (by decide)).1
  obtain ⟨a, b, -⟩ := (c_iremV (x &&& (2147483647 : Int32)) (9 : Int32)).1 h1 (by decide)
  have e3 : ((9 : Int32)).toInt = 9 := rfl
  rw [e3] at b
  generalize ((x &&& (2147483647 : Int32)) % (9 : Int32)) = r at *
  have h : r.toInt = 0 ∨ r.toInt = 1 ∨ r.toInt = 2 ∨ r.toInt = 3 ∨ r.toInt = 4 ∨ r.toInt = 5 ∨ r.toInt = 6 ∨ r.toInt = 7 ∨ r.toInt = 8 := by omega
  rcases h with h | h | h | h | h | h | h | h | h
  · exact Or.inl (Int32.toInt_inj.mp (h.trans (rfl : (0 : Int) = ((0 : Int32)).toInt)))
  · exact Or.inr (Or.inl (Int32.toInt_inj.mp (h.trans (rfl : (1 : Int) = ((1 : Int32)).toInt))))
  · exact Or.inr (Or.inr (Or.inl (Int32.toInt_inj.mp (h.trans (rfl : (2 : Int) = ((2 : Int32)).toInt)))))
  · exact Or.inr (Or.inr (Or.inr (Or.inl (Int32.toInt_inj.mp (h.trans (rfl : (3 : Int) = ((3 : Int32)).toInt))))))
  · exact Or.inr (Or.inr (Or.inr (Or.inr (Or.inl (Int32.toInt_inj.mp (h.trans (rfl : (4 : Int) = ((4 : Int32)).toInt)))))))
  · exact Or.inr (Or.inr (Or.inr (Or.inr (Or.inr (Or.inl (Int32.toInt_inj.mp (h.trans (rfl : (5 : Int) = ((5 : Int32)).toInt))))))))
  · exact Or.inr (Or.inr (Or.inr (Or.inr (Or.inr (Or.inr (Or.inl (Int32.toInt_inj.mp (h.trans (rfl : (6 : Int) = ((6 : Int32)).toInt)))))))))
  · exact Or.inr (Or.inr (Or.inr (Or.inr (Or.inr (Or.inr (Or.inr (Or.inl (Int32.toInt_inj.mp (h.trans (rfl : (7 : Int) = ((7 : Int32)).toInt))))))))))
  · exact Or.inr (Or.inr (Or.inr (Or.inr (Or.inr (Or.inr (Or.inr (Or.inr (Int32.toInt_inj.mp (h.trans (rfl : (8 : Int) = ((8 : Int32)).toInt))))))))))
def own_shows (a : Addr) (w_COUNTDOWN : Addr) (w_PLAYING : Addr) (w_PAUSED : Addr) : Int32 := if a = w_COUNTDOWN then (1 : Int32) else if a = w_PLAYING then (1 : Int32) else if a = w_PAUSED then (1 : Int32) else (0 : Int32)
theorem d1_0 : decode prog_34_method_4_code 0 = .ok (.aload_n 0, 1) := by decide +kernel
theorem d1_1 : decode prog_34_method_4_code 1 = .ok (.getstatic 13, 3) := by decide +kernel
theorem d1_4 : decode prog_34_method_4_code 4 = .ok (.if_acmp .eq 17, 3) := by decide +kernel
theorem d1_7 : decode prog_34_method_4_code 7 = .ok (.aload_n 0, 1) := by decide +kernel
theorem d1_8 : decode prog_34_method_4_code 8 = .ok (.getstatic 16, 3) := by decide +kernel
theorem d1_11 : decode prog_34_method_4_code 11 = .ok (.if_acmp .eq 10, 3) := by decide +kernel
theorem d1_14 : decode prog_34_method_4_code 14 = .ok (.aload_n 0, 1) := by decide +kernel
theorem d1_15 : decode prog_34_method_4_code 15 = .ok (.getstatic 19, 3) := by decide +kernel
theorem d1_18 : decode prog_34_method_4_code 18 = .ok (.if_acmp .ne 7, 3) := by decide +kernel
theorem d1_21 : decode prog_34_method_4_code 21 = .ok (.iconst 1, 1) := by decide +kernel
theorem d1_22 : decode prog_34_method_4_code 22 = .ok (.goto 4, 3) := by decide +kernel
theorem d1_25 : decode prog_34_method_4_code 25 = .ok (.iconst 0, 1) := by decide +kernel
theorem d1_26 : decode prog_34_method_4_code 26 = .ok (.ireturn, 1) := by decide +kernel
theorem pn_1 : plainName "com/example/paddlewick/paddlewick/engine/Screen" = true := by first | (simp [plainName, overriddenIn]; done) | decide +kernel
theorem ef_1 (m : MethodId) (x0 : Addr) : entryFrame m #[(.ref x0)] 1 = mkF m 0 #[.val (.ref x0)] [] := by first | (simp [entryFrame, mkF, argsToLocals, Value.category]; done) | rfl
def Q1 (Z : State) (a : Addr) (w_COUNTDOWN : Addr) (w_PLAYING : Addr) (w_PAUSED : Addr) (r : Int32) (h0 : Heap) (n0 : Nat) (v : Option Value) (h : Heap) (L : List Loc) : Prop := v = some (.int r) ∧ Fr n0 L ∧ h = h0
set_option maxRecDepth 65536 in
set_option maxHeartbeats 40000000 in
theorem rm1 (l : Launch) (Z : State) (a0 : Array Value) (hw : ∀ d ∈ tables_1, d.before a0 Z = true) (ws : List Jvm.Cond) (a : Addr) (w_COUNTDOWN : Addr) (w_PLAYING : Addr) (w_PAUSED : Addr) (r : Int32) (h0 : Heap) (n0 : Nat) (S_COUNTDOWN : Sta Z h0 "com/example/paddlewick/paddlewick/engine/Screen" "COUNTDOWN" "Lcom/example/paddlewick/paddlewick/engine/Screen;" (.ref w_COUNTDOWN)) (S_PLAYING : Sta Z h0 "com/example/paddlewick/paddlewick/engine/Screen" "PLAYING" "Lcom/example/paddlewick/paddlewick/engine/Screen;" (.ref w_PLAYING)) (S_PAUSED : Sta Z h0 "com/example/paddlewick/paddlewick/engine/Screen" "PAUSED" "Lcom/example/paddlewick/paddlewick/engine/Screen;" (.ref w_PAUSED)) (hr : (own_shows a w_COUNTDOWN w_PLAYING w_PAUSED) = r) :
    MetFree l (⟨"com/example/paddlewick/paddlewick/engine/Screen", "showsLevel", "()Z"⟩ : MethodName) (head1 (Jvm.Cond.code (⟨"com/example/paddlewick/paddlewick/engine/Screen", "showsLevel", "()Z"⟩ : MethodName) prog_34_method_4_code 1 (some .boolean) :: ws) ({ frames := 0, cells := 0, slots := 0, locals := 0 } : Room)) (fun ar0 U => ar0 = #[(.ref a)] ∧ Z.Warmed39 U.vm ∧ U.heap = h0) (fun _ _ _ _ _ => True) (fun _ U o U' => ∃ v L, o = .returned v ∧ Q1 Z a w_COUNTDOWN w_PLAYING w_PAUSED r h0 n0 v U'.heap L ∧ FrameEnd U o U' L ({ frames := 0, cells := 0, slots := 0, locals := 0 } : Room).cells ({ frames := 0, cells := 0, slots := 0, locals := 0 } : Room).slots) := by
  refine MetFree.of_bodySF (plainFor_of_name pn_1) hisR ?_
  intro p e s m args below meth c s₁ Bd hml0 hP hK
  obtain ⟨rfl, hZ, hh⟩ := hP
  have hx := Bd.exec
  have hby := Bd.bytes
  have hml : c.maxLocals = 1 := hml0
  have hown : s.vm.findClass "com/example/paddlewick/paddlewick/engine/Screen" = some m.cls := findClass_of_methodNamed Bd.named
  have X0 : Stand p l e ({ frames := 0, cells := 0, slots := 0, locals := 0 } : Room) s m #[(.ref a)] below meth c s₁ [] 0 0 := Stand.of_body Bd
  have e0 : s₁.heap = h0 := by rw [← hh, Bd.state]; rfl
  have N0 := Fr.nil n0
  have pre0 : ∀ t, Steps p.tables e below (s₁.setTop (mkF m 0 #[.val (.ref a)] [])) t → Steps p.tables e below (s₁.setTop (entryFrame m #[(.ref a)] 1)) t := fun t k => castTop (ef_1 m a) k
  obtain ⟨T1, X1, e1, st1⟩ := getS2 X0 hx hZ hown (host := "") (Or.inl (hw _ (List.mem_of_getElem? (i := 28) rfl))) Via.refl e0 S_COUNTDOWN (g := (mkF m 1 #[.val (.ref a)] [(.ref a)])) rfl (hb hby d1_1)
  have pre2 : ∀ t, Steps p.tables e below (T1.setTop (mkF m 4 #[.val (.ref a)] [(.ref w_COUNTDOWN), (.ref a)])) t → Steps p.tables e below (s₁.setTop (entryFrame m #[(.ref a)] 1)) t := by
    intro t k
    refine pre0 _ ?_
    show Steps p.tables e below (s₁.setTop (mkF m 0 #[.val (.ref a)] [])) _
    refine XS.aloadN X0.here hx rfl (hb hby d1_0) rfl rfl ?_
    show Steps p.tables e below (s₁.setTop (mkF m 1 #[.val (.ref a)] [(.ref a)])) _
    refine st1 _ ?_
    show Steps p.tables e below (T1.setTop (mkF m 4 #[.val (.ref a)] [(.ref w_COUNTDOWN), (.ref a)])) _
    exact k
  by_cases hc3 : a = w_COUNTDOWN
  ·
    have pre4 : ∀ t, Steps p.tables e below (T1.setTop (mkF m 21 #[.val (.ref a)] [])) t → Steps p.tables e below (s₁.setTop (entryFrame m #[(.ref a)] 1)) t := by
      intro t k
      refine pre2 _ ?_
      refine Jvm.RoadKit.acmp (g := (mkF m 4 #[.val (.ref a)] [(.ref w_COUNTDOWN), (.ref a)])) X1 hx rfl rfl rfl (pc0 := 4) (pc' := 21) (same := true) rfl (hb hby d1_4) rfl (decide_eq_true (congrArg Value.ref (hc3 : a = w_COUNTDOWN))) (by decide) (by decide) ?_
      exact k
    have hres : (1 : Int32) = r := (show (own_shows a w_COUNTDOWN w_PLAYING w_PAUSED) = (1 : Int32) from (by unfold own_shows; rw [if_pos (hc3 : a = w_COUNTDOWN)])).symm.trans hr
    obtain ⟨fs, hr5, hrun, hended, hW, hsame⟩ := X1.leave (v := some (.int (1 : Int32))) (fun h => by rw [Bd.returns] at h; cases h)
    refine ⟨_, _, pre4 _ ?_, hrun, hended, _, _, rfl, ?_, ⟨_, rfl⟩, hW, hsame.mono (by decide) (by decide)⟩
    · show Steps p.tables e below (T1.setTop (mkF m 21 #[.val (.ref a)] [])) _
      refine XT.iconstV X1.here hx rfl (1 : Int32) (hb hby d1_21) (by decide) ?_
      show Steps p.tables e below (T1.setTop (mkF m 22 #[.val (.ref a)] [(.int (1 : Int32))])) _
      refine XS.goto X1.here hx rfl (pc0 := 22) (pc' := 26) rfl (hb hby d1_22) (by decide) (by decide) ?_
      show Steps p.tables e below (T1.setTop (mkF m 26 #[.val (.ref a)] [(.int (1 : Int32))])) _
      exact retN X1 hx (t := .boolean) Bd.returns (by simp) (hb hby d1_26) hr5
    · show Q1 Z _ _ _ _ _ h0 n0 _ T1.heap _
      rw [e1]
      exact ⟨by rw [hres], N0, rfl⟩
  ·
    have pre6 : ∀ t, Steps p.tables e below (T1.setTop (mkF m 7 #[.val (.ref a)] [])) t → Steps p.tables e below (s₁.setTop (entryFrame m #[(.ref a)] 1)) t := by
      intro t k
      refine pre2 _ ?_
      refine Jvm.RoadKit.acmp (g := (mkF m 4 #[.val (.ref a)] [(.ref w_COUNTDOWN), (.ref a)])) X1 hx rfl rfl rfl (pc0 := 4) (pc' := 7) (same := false) rfl (hb hby d1_4) rfl (decide_eq_false fun q => (hc3 : ¬ (a = w_COUNTDOWN)) (Value.ref.inj q)) (by decide) (by decide) ?_
      exact k
    obtain ⟨T7, X7, e7, st7⟩ := getS2 X1 hx hZ hown (host := "") (Or.inl (hw _ (List.mem_of_getElem? (i := 29) rfl))) Via.refl e1 S_PLAYING (g := (mkF m 8 #[.val (.ref a)] [(.ref a)])) rfl (hb hby d1_8)
    have pre8 : ∀ t, Steps p.tables e below (T7.setTop (mkF m 11 #[.val (.ref a)] [(.ref w_PLAYING), (.ref a)])) t → Steps p.tables e below (s₁.setTop (entryFrame m #[(.ref a)] 1)) t := by
      intro t k
      refine pre6 _ ?_
      show Steps p.tables e below (T1.setTop (mkF m 7 #[.val (.ref a)] [])) _
      refine XS.aloadN X1.here hx rfl (hb hby d1_7) rfl rfl ?_
      show Steps p.tables e below (T1.setTop (mkF m 8 #[.val (.ref a)] [(.ref a)])) _
      refine st7 _ ?_
      show Steps p.tables e below (T7.setTop (mkF m 11 #[.val (.ref a)] [(.ref w_PLAYING), (.ref a)])) _
      exact k
    by_cases hc9 : a = w_PLAYING
    ·
      have pre10 : ∀ t, Steps p.tables e below (T7.setTop (mkF m 21 #[.val (.ref a)] [])) t → Steps p.tables e below (s₁.setTop (entryFrame m #[(.ref a)] 1)) t := by
        intro t k
        refine pre8 _ ?_
        refine Jvm.RoadKit.acmp (g := (mkF m 11 #[.val (.ref a)] [(.ref w_PLAYING), (.ref a)])) X7 hx rfl rfl rfl (pc0 := 11) (pc' := 21) (same := true) rfl (hb hby d1_11) rfl (decide_eq_true (congrArg Value.ref (hc9 : a = w_PLAYING))) (by decide) (by decide) ?_
        exact k
      have hres : (1 : Int32) = r := (show (own_shows a w_COUNTDOWN w_PLAYING w_PAUSED) = (1 : Int32) from (by unfold own_shows; rw [if_neg (hc3 : ¬ (a = w_COUNTDOWN)), if_pos (hc9 : a = w_PLAYING)])).symm.trans hr
      obtain ⟨fs, hr11, hrun, hended, hW, hsame⟩ := X7.leave (v := some (.int (1 : Int32))) (fun h => by rw [Bd.returns] at h; cases h)
      refine ⟨_, _, pre10 _ ?_, hrun, hended, _, _, rfl, ?_, ⟨_, rfl⟩, hW, hsame.mono (by decide) (by decide)⟩
      · show Steps p.tables e below (T7.setTop (mkF m 21 #[.val (.ref a)] [])) _
        refine XT.iconstV X7.here hx rfl (1 : Int32) (hb hby d1_21) (by decide) ?_
        show Steps p.tables e below (T7.setTop (mkF m 22 #[.val (.ref a)] [(.int (1 : Int32))])) _
        refine XS.goto X7.here hx rfl (pc0 := 22) (pc' := 26) rfl (hb hby d1_22) (by decide) (by decide) ?_
        show Steps p.tables e below (T7.setTop (mkF m 26 #[.val (.ref a)] [(.int (1 : Int32))])) _
        exact retN X7 hx (t := .boolean) Bd.returns (by simp) (hb hby d1_26) hr11
      · show Q1 Z _ _ _ _ _ h0 n0 _ T7.heap _
        rw [e7]
        exact ⟨by rw [hres], N0, rfl⟩
    ·
      have pre12 : ∀ t, Steps p.tables e below (T7.setTop (mkF m 14 #[.val (.ref a)] [])) t → Steps p.tables e below (s₁.setTop (entryFrame m #[(.ref a)] 1)) t := by
        intro t k
        refine pre8 _ ?_
        refine Jvm.RoadKit.acmp (g := (mkF m 11 #[.val (.ref a)] [(.ref w_PLAYING), (.ref a)])) X7 hx rfl rfl rfl (pc0 := 11) (pc' := 14) (same := false) rfl (hb hby d1_11) rfl (decide_eq_false fun q => (hc9 : ¬ (a = w_PLAYING)) (Value.ref.inj q)) (by decide) (by decide) ?_
        exact k
      obtain ⟨T13, X13, e13, st13⟩ := getS2 X7 hx hZ hown (host := "") (Or.inl (hw _ (List.mem_of_getElem? (i := 30) rfl))) Via.refl e7 S_PAUSED (g := (mkF m 15 #[.val (.ref a)] [(.ref a)])) rfl (hb hby d1_15)
      have pre14 : ∀ t, Steps p.tables e below (T13.setTop (mkF m 18 #[.val (.ref a)] [(.ref w_PAUSED), (.ref a)])) t → Steps p.tables e below (s₁.setTop (entryFrame m #[(.ref a)] 1)) t := by
        intro t k
        refine pre12 _ ?_
        show Steps p.tables e below (T7.setTop (mkF m 14 #[.val (.ref a)] [])) _
        refine XS.aloadN X7.here hx rfl (hb hby d1_14) rfl rfl ?_
        show Steps p.tables e below (T7.setTop (mkF m 15 #[.val (.ref a)] [(.ref a)])) _
        refine st13 _ ?_
        show Steps p.tables e below (T13.setTop (mkF m 18 #[.val (.ref a)] [(.ref w_PAUSED), (.ref a)])) _
        exact k
      by_cases hc15 : a = w_PAUSED
      ·
        have pre16 : ∀ t, Steps p.tables e below (T13.setTop (mkF m 21 #[.val (.ref a)] [])) t → Steps p.tables e below (s₁.setTop (entryFrame m #[(.ref a)] 1)) t := by
          intro t k
          refine pre14 _ ?_
          refine Jvm.RoadKit.acmp (g := (mkF m 18 #[.val (.ref a)] [(.ref w_PAUSED), (.ref a)])) X13 hx rfl rfl rfl (pc0 := 18) (pc' := 21) (same := true) rfl (hb hby d1_18) rfl (decide_eq_true (congrArg Value.ref (hc15 : a = w_PAUSED))) (by decide) (by decide) ?_
          exact k
        have hres : (1 : Int32) = r := (show (own_shows a w_COUNTDOWN w_PLAYING w_PAUSED) = (1 : Int32) from (by unfold own_shows; rw [if_neg (hc3 : ¬ (a = w_COUNTDOWN)), if_neg (hc9 : ¬ (a = w_PLAYING)), if_pos (hc15 : a = w_PAUSED)])).symm.trans hr
        obtain ⟨fs, hr17, hrun, hended, hW, hsame⟩ := X13.leave (v := some (.int (1 : Int32))) (fun h => by rw [Bd.returns] at h; cases h)
        refine ⟨_, _, pre16 _ ?_, hrun, hended, _, _, rfl, ?_, ⟨_, rfl⟩, hW, hsame.mono (by decide) (by decide)⟩
        · show Steps p.tables e below (T13.setTop (mkF m 21 #[.val (.ref a)] [])) _
          refine XT.iconstV X13.here hx rfl (1 : Int32) (hb hby d1_21) (by decide) ?_
          show Steps p.tables e below (T13.setTop (mkF m 22 #[.val (.ref a)] [(.int (1 : Int32))])) _
          refine XS.goto X13.here hx rfl (pc0 := 22) (pc' := 26) rfl (hb hby d1_22) (by decide) (by decide) ?_
          show Steps p.tables e below (T13.setTop (mkF m 26 #[.val (.ref a)] [(.int (1 : Int32))])) _
          exact retN X13 hx (t := .boolean) Bd.returns (by simp) (hb hby d1_26) hr17
        · show Q1 Z _ _ _ _ _ h0 n0 _ T13.heap _
          rw [e13]
          exact ⟨by rw [hres], N0, rfl⟩
      ·
        have pre18 : ∀ t, Steps p.tables e below (T13.setTop (mkF m 25 #[.val (.ref a)] [])) t → Steps p.tables e below (s₁.setTop (entryFrame m #[(.ref a)] 1)) t := by
          intro t k
          refine pre14 _ ?_
          refine Jvm.RoadKit.acmp (g := (mkF m 18 #[.val (.ref a)] [(.ref w_PAUSED), (.ref a)])) X13 hx rfl rfl rfl (pc0 := 18) (pc' := 25) (same := false) rfl (hb hby d1_18) rfl (decide_eq_false fun q => (hc15 : ¬ (a = w_PAUSED)) (Value.ref.inj q)) (by decide) (by decide) ?_
          exact k
        have hres : (0 : Int32) = r := (show (own_shows a w_COUNTDOWN w_PLAYING w_PAUSED) = (0 : Int32) from (by unfold own_shows; rw [if_neg (hc3 : ¬ (a = w_COUNTDOWN)), if_neg (hc9 : ¬ (a = w_PLAYING)), if_neg (hc15 : ¬ (a = w_PAUSED))])).symm.trans hr
        obtain ⟨fs, hr19, hrun, hended, hW, hsame⟩ := X13.leave (v := some (.int (0 : Int32))) (fun h => by rw [Bd.returns] at h; cases h)
        refine ⟨_, _, pre18 _ ?_, hrun, hended, _, _, rfl, ?_, ⟨_, rfl⟩, hW, hsame.mono (by decide) (by decide)⟩
        · show Steps p.tables e below (T13.setTop (mkF m 25 #[.val (.ref a)] [])) _
          refine XT.iconstV X13.here hx rfl (0 : Int32) (hb hby d1_25) (by decide) ?_
          show Steps p.tables e below (T13.setTop (mkF m 26 #[.val (.ref a)] [(.int (0 : Int32))])) _
          exact retN X13 hx (t := .boolean) Bd.returns (by simp) (hb hby d1_26) hr19
        · show Q1 Z _ _ _ _ _ h0 n0 _ T13.heap _
          rw [e13]
          exact ⟨by rw [hres], N0, rfl⟩
theorem pn_0 : plainName "com/example/paddlewick/paddlewick/engine/ScreenShowsLevelPinLaw" = true := by first | (simp [plainName, overriddenIn]; done) | decide +kernel
theorem ef_0 (m : MethodId) (x0 : Int32) : entryFrame m #[(.int x0)] maxLocals = mkF m 0 #[.val (.int x0), .unset, .unset, .unset] [] := by first | (simp [entryFrame, mkF, argsToLocals, Value.category, maxLocals]; done) | rfl
def Q0 (Z : State) (p1 : Int32) (w_MENU : Addr) (w_LEVEL_SETS : Addr) (w_HIGH_SCORES : Addr) (w_COUNTDOWN : Addr) (w_PLAYING : Addr) (w_PAUSED : Addr) (w_GAME_OVER : Addr) (w_YOU_WIN : Addr) (w_NAME_ENTRY : Addr) (h0 : Heap) (n0 : Nat) (v : Option Value) (h : Heap) (L : List Loc) : Prop := v = some (.int (1 : Int32)) ∧ Fr n0 L
set_option maxRecDepth 65536 in
set_option maxHeartbeats 40000000 in
theorem rm0 (l : Launch) (Z : State) (a0 : Array Value) (hw : ∀ d ∈ tables_1, d.before a0 Z = true) (ws : List Jvm.Cond) (p1 : Int32) (w_MENU : Addr) (w_LEVEL_SETS : Addr) (w_HIGH_SCORES : Addr) (w_COUNTDOWN : Addr) (w_PLAYING : Addr) (w_PAUSED : Addr) (w_GAME_OVER : Addr) (w_YOU_WIN : Addr) (w_NAME_ENTRY : Addr) (h0 : Heap) (n0 : Nat) (Z0 : n0 ≤ h0.size) (S_MENU : Sta Z h0 "com/example/paddlewick/paddlewick/engine/Screen" "MENU" "Lcom/example/paddlewick/paddlewick/engine/Screen;" (.ref w_MENU)) (S_LEVEL_SETS : Sta Z h0 "com/example/paddlewick/paddlewick/engine/Screen" "LEVEL_SETS" "Lcom/example/paddlewick/paddlewick/engine/Screen;" (.ref w_LEVEL_SETS)) (S_HIGH_SCORES : Sta Z h0 "com/example/paddlewick/paddlewick/engine/Screen" "HIGH_SCORES" "Lcom/example/paddlewick/paddlewick/engine/Screen;" (.ref w_HIGH_SCORES)) (S_COUNTDOWN : Sta Z h0 "com/example/paddlewick/paddlewick/engine/Screen" "COUNTDOWN" "Lcom/example/paddlewick/paddlewick/engine/Screen;" (.ref w_COUNTDOWN)) (S_PLAYING : Sta Z h0 "com/example/paddlewick/paddlewick/engine/Screen" "PLAYING" "Lcom/example/paddlewick/paddlewick/engine/Screen;" (.ref w_PLAYING)) (S_PAUSED : Sta Z h0 "com/example/paddlewick/paddlewick/engine/Screen" "PAUSED" "Lcom/example/paddlewick/paddlewick/engine/Screen;" (.ref w_PAUSED)) (S_GAME_OVER : Sta Z h0 "com/example/paddlewick/paddlewick/engine/Screen" "GAME_OVER" "Lcom/example/paddlewick/paddlewick/engine/Screen;" (.ref w_GAME_OVER)) (S_YOU_WIN : Sta Z h0 "com/example/paddlewick/paddlewick/engine/Screen" "YOU_WIN" "Lcom/example/paddlewick/paddlewick/engine/Screen;" (.ref w_YOU_WIN)) (S_NAME_ENTRY : Sta Z h0 "com/example/paddlewick/paddlewick/engine/Screen" "NAME_ENTRY" "Lcom/example/paddlewick/paddlewick/engine/Screen;" (.ref w_NAME_ENTRY)) (E_MENU : Exa Z h0 w_MENU "com/example/paddlewick/paddlewick/engine/Screen") (E_LEVEL_SETS : Exa Z h0 w_LEVEL_SETS "com/example/paddlewick/paddlewick/engine/Screen") (E_HIGH_SCORES : Exa Z h0 w_HIGH_SCORES "com/example/paddlewick/paddlewick/engine/Screen") (E_COUNTDOWN : Exa Z h0 w_COUNTDOWN "com/example/paddlewick/paddlewick/engine/Screen") (E_PLAYING : Exa Z h0 w_PLAYING "com/example/paddlewick/paddlewick/engine/Screen") (E_PAUSED : Exa Z h0 w_PAUSED "com/example/paddlewick/paddlewick/engine/Screen") (E_GAME_OVER : Exa Z h0 w_GAME_OVER "com/example/paddlewick/paddlewick/engine/Screen") (E_YOU_WIN : Exa Z h0 w_YOU_WIN "com/example/paddlewick/paddlewick/engine/Screen") (E_NAME_ENTRY : Exa Z h0 w_NAME_ENTRY "com/example/paddlewick/paddlewick/engine/Screen") (O_MENU : Fld Z h0 w_MENU "java/lang/Enum" "ordinal" "I" (.int (0 : Int32))) (O_LEVEL_SETS : Fld Z h0 w_LEVEL_SETS "java/lang/Enum" "ordinal" "I" (.int (1 : Int32))) (O_HIGH_SCORES : Fld Z h0 w_HIGH_SCORES "java/lang/Enum" "ordinal" "I" (.int (2 : Int32))) (O_COUNTDOWN : Fld Z h0 w_COUNTDOWN "java/lang/Enum" "ordinal" "I" (.int (3 : Int32))) (O_PLAYING : Fld Z h0 w_PLAYING "java/lang/Enum" "ordinal" "I" (.int (4 : Int32))) (O_PAUSED : Fld Z h0 w_PAUSED "java/lang/Enum" "ordinal" "I" (.int (5 : Int32))) (O_GAME_OVER : Fld Z h0 w_GAME_OVER "java/lang/Enum" "ordinal" "I" (.int (6 : Int32))) (O_YOU_WIN : Fld Z h0 w_YOU_WIN "java/lang/Enum" "ordinal" "I" (.int (7 : Int32))) (O_NAME_ENTRY : Fld Z h0 w_NAME_ENTRY "java/lang/Enum" "ordinal" "I" (.int (8 : Int32))) :
    MetFree l x (head1 (Jvm.Cond.code x code maxLocals ret :: ws) room_1) (fun ar0 U => ar0 = #[(.int p1)] ∧ Z.Warmed39 U.vm ∧ U.heap = h0) (fun _ _ _ _ _ => True) (fun _ U o U' => ∃ v L, o = .returned v ∧ Q0 Z p1 w_MENU w_LEVEL_SETS w_HIGH_SCORES w_COUNTDOWN w_PLAYING w_PAUSED w_GAME_OVER w_YOU_WIN w_NAME_ENTRY h0 n0 v U'.heap L ∧ FrameEnd U o U' L room_1.cells room_1.slots) := by
  refine MetFree.of_bodySF (plainFor_of_name pn_0) hisR ?_
  intro p e s m args below meth c s₁ Bd hml0 hP hK
  obtain ⟨rfl, hZ, hh⟩ := hP
  have hx := Bd.exec
  have hby := Bd.bytes
  have hml : c.maxLocals = 4 := hml0
  have hown : s.vm.findClass "com/example/paddlewick/paddlewick/engine/ScreenShowsLevelPinLaw" = some m.cls := findClass_of_methodNamed Bd.named
  have X0 : Stand p l e room_1 s m #[(.int p1)] below meth c s₁ [] 0 0 := Stand.of_body Bd
  have e0 : s₁.heap = h0 := by rw [← hh, Bd.state]; rfl
  have N0 := Fr.nil n0
  have pre0 : ∀ t, Steps p.tables e below (s₁.setTop (mkF m 0 #[.val (.int p1), .unset, .unset, .unset] [])) t → Steps p.tables e below (s₁.setTop (entryFrame m #[(.int p1)] maxLocals)) t := fun t k => castTop (ef_0 m p1) k
  obtain ⟨T1, h1, k1, X1, e1, E1, A1, O1, st1⟩ := newR X0 hx hZ hown (hw _ (List.mem_of_getElem? (i := 0) rfl)) (hw _ (List.mem_of_getElem? (i := 1) rfl)) e0 (g := (mkF m 2 #[.val (.int p1), .unset, .unset, .unset] [(.int (9 : Int32))])) rfl (hb hby at_2) rfl (by decide) (cap := 9) (by decide) (by decide) (by decide) (by decide)
  obtain ⟨b1, g1⟩ : ∃ z, z = h0.size := ⟨_, rfl⟩
  rw [← g1] at A1 st1
  have V1 : Arv Z h1 b1 k1 (.object "com/example/paddlewick/paddlewick/engine/Screen") (9 : Int32) [.null, .null, .null, .null, .null, .null, .null, .null, .null] .null := (Arv.new A1 (by decide)).pad (pad_rep [] .null 9)
  have sz_b1 : h0.size ≤ b1 := Nat.le_trans (Keep.refl h0 []).1 (Nat.le_of_eq g1.symm)
  have g_b1 : n0 ≤ b1 := Nat.le_trans Z0 sz_b1
  have K1 : Keep h0 h1 [] := (Keep.refl h0 []).ext E1
  obtain ⟨T2, X2, e2, st2⟩ := getS2 X1 hx hZ hown (host := "") (Or.inl (hw _ (List.mem_of_getElem? (i := 2) rfl))) Via.refl e1 (Sta.ext E1 S_MENU) (g := (mkF m 7 #[.val (.int p1), .unset, .unset, .unset] [(.int (0 : Int32)), (.ref b1), (.ref b1)])) rfl (hb hby at_7)
  obtain ⟨cl3, Ar3, q3, S3, M3, H3, G3⟩ := V1
  have hin3 : ¬ ((0 : Int32) < 0 ∨ cl3.slots.size ≤ ((0 : Int32)).toNatClampNeg) := inb_of S3 ⟨by decide, by decide⟩
  obtain ⟨T3, h3, X3, e3, W3, st3⟩ := stR X2 hx hZ e2 Ar3 (j := (0 : Int32)) hin3 rfl (Sto.ofV Ar3 q3 O1 (Ins.self (Exa.keep E_MENU K1))) (g := (mkF m 10 #[.val (.int p1), .unset, .unset, .unset] [(.ref w_MENU), (.int (0 : Int32)), (.ref b1), (.ref b1)])) rfl rfl (hb hby at_10)
  have V4 : Arv Z h3 b1 k1 (.object "com/example/paddlewick/paddlewick/engine/Screen") (9 : Int32) [(.ref w_MENU), .null, .null, .null, .null, .null, .null, .null, .null] .null := Arv.set Ar3 q3 S3 M3 H3 G3 rfl W3 0 rfl (Nat.le_of_ble_eq_true rfl)
  have K3 : Keep h0 h3 [] := K1.wr W3 (Or.inr sz_b1)
  have N3 := Fr.snoc X3 N0 g_b1
  obtain ⟨T5, X5, e5, st5⟩ := getS2 X3 hx hZ hown (host := "") (Or.inl (hw _ (List.mem_of_getElem? (i := 6) rfl))) Via.refl e3 (Sta.wr W3 (Sta.ext E1 S_LEVEL_SETS)) (g := (mkF m 13 #[.val (.int p1), .unset, .unset, .unset] [(.int (1 : Int32)), (.ref b1), (.ref b1)])) rfl (hb hby at_13)
  obtain ⟨cl6, Ar6, q6, S6, M6, H6, G6⟩ := V4
  have hin6 : ¬ ((1 : Int32) < 0 ∨ cl6.slots.size ≤ ((1 : Int32)).toNatClampNeg) := inb_of S6 ⟨by decide, by decide⟩
  obtain ⟨T6, h6, X6, e6, W6, st6⟩ := stR X5 hx hZ e5 Ar6 (j := (1 : Int32)) hin6 rfl (Sto.ofV Ar6 q6 O1 (Ins.self (Exa.keep E_LEVEL_SETS K3))) (g := (mkF m 16 #[.val (.int p1), .unset, .unset, .unset] [(.ref w_LEVEL_SETS), (.int (1 : Int32)), (.ref b1), (.ref b1)])) rfl rfl (hb hby at_16)
  have V7 : Arv Z h6 b1 k1 (.object "com/example/paddlewick/paddlewick/engine/Screen") (9 : Int32) [(.ref w_MENU), (.ref w_LEVEL_SETS), .null, .null, .null, .null, .null, .null, .null] .null := Arv.set Ar6 q6 S6 M6 H6 G6 rfl W6 1 rfl (Nat.le_of_ble_eq_true rfl)
  have K6 : Keep h0 h6 [] := K3.wr W6 (Or.inr sz_b1)
  have N6 := Fr.snoc X6 N3 g_b1
  obtain ⟨T8, X8, e8, st8⟩ := getS2 X6 hx hZ hown (host := "") (Or.inl (hw _ (List.mem_of_getElem? (i := 8) rfl))) Via.refl e6 (Sta.wr W6 (Sta.wr W3 (Sta.ext E1 S_HIGH_SCORES))) (g := (mkF m 19 #[.val (.int p1), .unset, .unset, .unset] [(.int (2 : Int32)), (.ref b1), (.ref b1)])) rfl (hb hby at_19)
  obtain ⟨cl9, Ar9, q9, S9, M9, H9, G9⟩ := V7
  have hin9 : ¬ ((2 : Int32) < 0 ∨ cl9.slots.size ≤ ((2 : Int32)).toNatClampNeg) := inb_of S9 ⟨by decide, by decide⟩
  obtain ⟨T9, h9, X9, e9, W9, st9⟩ := stR X8 hx hZ e8 Ar9 (j := (2 : Int32)) hin9 rfl (Sto.ofV Ar9 q9 O1 (Ins.self (Exa.keep E_HIGH_SCORES K6))) (g := (mkF m 22 #[.val (.int p1), .unset, .unset, .unset] [(.ref w_HIGH_SCORES), (.int (2 : Int32)), (.ref b1), (.ref b1)])) rfl rfl (hb hby at_22)
  have V10 : Arv Z h9 b1 k1 (.object "com/example/paddlewick/paddlewick/engine/Screen") (9 : Int32) [(.ref w_MENU), (.ref w_LEVEL_SETS), (.ref w_HIGH_SCORES), .null, .null, .null, .null, .null, .null] .null := Arv.set Ar9 q9 S9 M9 H9 G9 rfl W9 2 rfl (Nat.le_of_ble_eq_true rfl)
  have K9 : Keep h0 h9 [] := K6.wr W9 (Or.inr sz_b1)
  have N9 := Fr.snoc X9 N6 g_b1
  obtain ⟨T11, X11, e11, st11⟩ := getS2 X9 hx hZ hown (host := "") (Or.inl (hw _ (List.mem_of_getElem? (i := 10) rfl))) Via.refl e9 (Sta.wr W9 (Sta.wr W6 (Sta.wr W3 (Sta.ext E1 S_COUNTDOWN)))) (g := (mkF m 25 #[.val (.int p1), .unset, .unset, .unset] [(.int (3 : Int32)), (.ref b1), (.ref b1)])) rfl (hb hby at_25)
  obtain ⟨cl12, Ar12, q12, S12, M12, H12, G12⟩ := V10
  have hin12 : ¬ ((3 : Int32) < 0 ∨ cl12.slots.size ≤ ((3 : Int32)).toNatClampNeg) := inb_of S12 ⟨by decide, by decide⟩
  obtain ⟨T12, h12, X12, e12, W12, st12⟩ := stR X11 hx hZ e11 Ar12 (j := (3 : Int32)) hin12 rfl (Sto.ofV Ar12 q12 O1 (Ins.self (Exa.keep E_COUNTDOWN K9))) (g := (mkF m 28 #[.val (.int p1), .unset, .unset, .unset] [(.ref w_COUNTDOWN), (.int (3 : Int32)), (.ref b1), (.ref b1)])) rfl rfl (hb hby at_28)
  have V13 : Arv Z h12 b1 k1 (.object "com/example/paddlewick/paddlewick/engine/Screen") (9 : Int32) [(.ref w_MENU), (.ref w_LEVEL_SETS), (.ref w_HIGH_SCORES), (.ref w_COUNTDOWN), .null, .null, .null, .null, .null] .null := Arv.set Ar12 q12 S12 M12 H12 G12 rfl W12 3 rfl (Nat.le_of_ble_eq_true rfl)
  have K12 : Keep h0 h12 [] := K9.wr W12 (Or.inr sz_b1)
  have N12 := Fr.snoc X12 N9 g_b1
  obtain ⟨T14, X14, e14, st14⟩ := getS2 X12 hx hZ hown (host := "") (Or.inl (hw _ (List.mem_of_getElem? (i := 12) rfl))) Via.refl e12 (Sta.wr W12 (Sta.wr W9 (Sta.wr W6 (Sta.wr W3 (Sta.ext E1 S_PLAYING))))) (g := (mkF m 31 #[.val (.int p1), .unset, .unset, .unset] [(.int (4 : Int32)), (.ref b1), (.ref b1)])) rfl (hb hby at_31)
  obtain ⟨cl15, Ar15, q15, S15, M15, H15, G15⟩ := V13
  have hin15 : ¬ ((4 : Int32) < 0 ∨ cl15.slots.size ≤ ((4 : Int32)).toNatClampNeg) := inb_of S15 ⟨by decide, by decide⟩
  obtain ⟨T15, h15, X15, e15, W15, st15⟩ := stR X14 hx hZ e14 Ar15 (j := (4 : Int32)) hin15 rfl (Sto.ofV Ar15 q15 O1 (Ins.self (Exa.keep E_PLAYING K12))) (g := (mkF m 34 #[.val (.int p1), .unset, .unset, .unset] [(.ref w_PLAYING), (.int (4 : Int32)), (.ref b1), (.ref b1)])) rfl rfl (hb hby at_34)
  have V16 : Arv Z h15 b1 k1 (.object "com/example/paddlewick/paddlewick/engine/Screen") (9 : Int32) [(.ref w_MENU), (.ref w_LEVEL_SETS), (.ref w_HIGH_SCORES), (.ref w_COUNTDOWN), (.ref w_PLAYING), .null, .null, .null, .null] .null := Arv.set Ar15 q15 S15 M15 H15 G15 rfl W15 4 rfl (Nat.le_of_ble_eq_true rfl)
  have K15 : Keep h0 h15 [] := K12.wr W15 (Or.inr sz_b1)
  have N15 := Fr.snoc X15 N12 g_b1
  obtain ⟨T17, X17, e17, st17⟩ := getS2 X15 hx hZ hown (host := "") (Or.inl (hw _ (List.mem_of_getElem? (i := 14) rfl))) Via.refl e15 (Sta.wr W15 (Sta.wr W12 (Sta.wr W9 (Sta.wr W6 (Sta.wr W3 (Sta.ext E1 S_PAUSED)))))) (g := (mkF m 37 #[.val (.int p1), .unset, .unset, .unset] [(.int (5 : Int32)), (.ref b1), (.ref b1)])) rfl (hb hby at_37)
  obtain ⟨cl18, Ar18, q18, S18, M18, H18, G18⟩ := V16
  have hin18 : ¬ ((5 : Int32) < 0 ∨ cl18.slots.size ≤ ((5 : Int32)).toNatClampNeg) := inb_of S18 ⟨by decide, by decide⟩
  obtain ⟨T18, h18, X18, e18, W18, st18⟩ := stR X17 hx hZ e17 Ar18 (j := (5 : Int32)) hin18 rfl (Sto.ofV Ar18 q18 O1 (Ins.self (Exa.keep E_PAUSED K15))) (g := (mkF m 40 #[.val (.int p1), .unset, .unset, .unset] [(.ref w_PAUSED), (.int (5 : Int32)), (.ref b1), (.ref b1)])) rfl rfl (hb hby at_40)
  have V19 : Arv Z h18 b1 k1 (.object "com/example/paddlewick/paddlewick/engine/Screen") (9 : Int32) [(.ref w_MENU), (.ref w_LEVEL_SETS), (.ref w_HIGH_SCORES), (.ref w_COUNTDOWN), (.ref w_PLAYING), (.ref w_PAUSED), .null, .null, .null] .null := Arv.set Ar18 q18 S18 M18 H18 G18 rfl W18 5 rfl (Nat.le_of_ble_eq_true rfl)
  have K18 : Keep h0 h18 [] := K15.wr W18 (Or.inr sz_b1)
  have N18 := Fr.snoc X18 N15 g_b1
  obtain ⟨T20, X20, e20, st20⟩ := getS2 X18 hx hZ hown (host := "") (Or.inl (hw _ (List.mem_of_getElem? (i := 16) rfl))) Via.refl e18 (Sta.wr W18 (Sta.wr W15 (Sta.wr W12 (Sta.wr W9 (Sta.wr W6 (Sta.wr W3 (Sta.ext E1 S_GAME_OVER))))))) (g := (mkF m 44 #[.val (.int p1), .unset, .unset, .unset] [(.int (6 : Int32)), (.ref b1), (.ref b1)])) rfl (hb hby at_44)
  obtain ⟨cl21, Ar21, q21, S21, M21, H21, G21⟩ := V19
  have hin21 : ¬ ((6 : Int32) < 0 ∨ cl21.slots.size ≤ ((6 : Int32)).toNatClampNeg) := inb_of S21 ⟨by decide, by decide⟩
  obtain ⟨T21, h21, X21, e21, W21, st21⟩ := stR X20 hx hZ e20 Ar21 (j := (6 : Int32)) hin21 rfl (Sto.ofV Ar21 q21 O1 (Ins.self (Exa.keep E_GAME_OVER K18))) (g := (mkF m 47 #[.val (.int p1), .unset, .unset, .unset] [(.ref w_GAME_OVER), (.int (6 : Int32)), (.ref b1), (.ref b1)])) rfl rfl (hb hby at_47)
  have V22 : Arv Z h21 b1 k1 (.object "com/example/paddlewick/paddlewick/engine/Screen") (9 : Int32) [(.ref w_MENU), (.ref w_LEVEL_SETS), (.ref w_HIGH_SCORES), (.ref w_COUNTDOWN), (.ref w_PLAYING), (.ref w_PAUSED), (.ref w_GAME_OVER), .null, .null] .null := Arv.set Ar21 q21 S21 M21 H21 G21 rfl W21 6 rfl (Nat.le_of_ble_eq_true rfl)
  have K21 : Keep h0 h21 [] := K18.wr W21 (Or.inr sz_b1)
  have N21 := Fr.snoc X21 N18 g_b1
  obtain ⟨T23, X23, e23, st23⟩ := getS2 X21 hx hZ hown (host := "") (Or.inl (hw _ (List.mem_of_getElem? (i := 18) rfl))) Via.refl e21 (Sta.wr W21 (Sta.wr W18 (Sta.wr W15 (Sta.wr W12 (Sta.wr W9 (Sta.wr W6 (Sta.wr W3 (Sta.ext E1 S_YOU_WIN)))))))) (g := (mkF m 51 #[.val (.int p1), .unset, .unset, .unset] [(.int (7 : Int32)), (.ref b1), (.ref b1)])) rfl (hb hby at_51)
  obtain ⟨cl24, Ar24, q24, S24, M24, H24, G24⟩ := V22
  have hin24 : ¬ ((7 : Int32) < 0 ∨ cl24.slots.size ≤ ((7 : Int32)).toNatClampNeg) := inb_of S24 ⟨by decide, by decide⟩
  obtain ⟨T24, h24, X24, e24, W24, st24⟩ := stR X23 hx hZ e23 Ar24 (j := (7 : Int32)) hin24 rfl (Sto.ofV Ar24 q24 O1 (Ins.self (Exa.keep E_YOU_WIN K21))) (g := (mkF m 54 #[.val (.int p1), .unset, .unset, .unset] [(.ref w_YOU_WIN), (.int (7 : Int32)), (.ref b1), (.ref b1)])) rfl rfl (hb hby at_54)
  have V25 : Arv Z h24 b1 k1 (.object "com/example/paddlewick/paddlewick/engine/Screen") (9 : Int32) [(.ref w_MENU), (.ref w_LEVEL_SETS), (.ref w_HIGH_SCORES), (.ref w_COUNTDOWN), (.ref w_PLAYING), (.ref w_PAUSED), (.ref w_GAME_OVER), (.ref w_YOU_WIN), .null] .null := Arv.set Ar24 q24 S24 M24 H24 G24 rfl W24 7 rfl (Nat.le_of_ble_eq_true rfl)
  have K24 : Keep h0 h24 [] := K21.wr W24 (Or.inr sz_b1)
  have N24 := Fr.snoc X24 N21 g_b1
  obtain ⟨T26, X26, e26, st26⟩ := getS2 X24 hx hZ hown (host := "") (Or.inl (hw _ (List.mem_of_getElem? (i := 20) rfl))) Via.refl e24 (Sta.wr W24 (Sta.wr W21 (Sta.wr W18 (Sta.wr W15 (Sta.wr W12 (Sta.wr W9 (Sta.wr W6 (Sta.wr W3 (Sta.ext E1 S_NAME_ENTRY))))))))) (g := (mkF m 58 #[.val (.int p1), .unset, .unset, .unset] [(.int (8 : Int32)), (.ref b1), (.ref b1)])) rfl (hb hby at_58)
  obtain ⟨cl27, Ar27, q27, S27, M27, H27, G27⟩ := V25
  have hin27 : ¬ ((8 : Int32) < 0 ∨ cl27.slots.size ≤ ((8 : Int32)).toNatClampNeg) := inb_of S27 ⟨by decide, by decide⟩
  obtain ⟨T27, h27, X27, e27, W27, st27⟩ := stR X26 hx hZ e26 Ar27 (j := (8 : Int32)) hin27 rfl (Sto.ofV Ar27 q27 O1 (Ins.self (Exa.keep E_NAME_ENTRY K24))) (g := (mkF m 61 #[.val (.int p1), .unset, .unset, .unset] [(.ref w_NAME_ENTRY), (.int (8 : Int32)), (.ref b1), (.ref b1)])) rfl rfl (hb hby at_61)
  have V28 : Arv Z h27 b1 k1 (.object "com/example/paddlewick/paddlewick/engine/Screen") (9 : Int32) [(.ref w_MENU), (.ref w_LEVEL_SETS), (.ref w_HIGH_SCORES), (.ref w_COUNTDOWN), (.ref w_PLAYING), (.ref w_PAUSED), (.ref w_GAME_OVER), (.ref w_YOU_WIN), (.ref w_NAME_ENTRY)] .null := Arv.set Ar27 q27 S27 M27 H27 G27 rfl W27 8 rfl (Nat.le_of_ble_eq_true rfl)
  have K27 : Keep h0 h27 [] := K24.wr W27 (Or.inr sz_b1)
  have N27 := Fr.snoc X27 N24 g_b1
  have pre29 : ∀ t, Steps p.tables e below (T27.setTop (mkF m 71 #[.val (.int p1), .val (.ref b1), .val (.int ((p1 &&& (2147483647 : Int32)) % (9 : Int32))), .unset] [])) t → Steps p.tables e below (s₁.setTop (entryFrame m #[(.int p1)] maxLocals)) t := by
    intro t k
    refine pre0 _ ?_
    show Steps p.tables e below (s₁.setTop (mkF m 0 #[.val (.int p1), .unset, .unset, .unset] [])) _
    refine XT.bipushV X0.here hx rfl (9 : Int32) (hb hby at_0) (by decide) ?_
    show Steps p.tables e below (s₁.setTop (mkF m 2 #[.val (.int p1), .unset, .unset, .unset] [(.int (9 : Int32))])) _
    refine st1 _ ?_
    show Steps p.tables e below (T1.setTop (mkF m 5 #[.val (.int p1), .unset, .unset, .unset] [(.ref b1)])) _
    refine XS.dup X1.here hx rfl (hb hby at_5) rfl rfl ?_
    show Steps p.tables e below (T1.setTop (mkF m 6 #[.val (.int p1), .unset, .unset, .unset] [(.ref b1), (.ref b1)])) _
    refine XT.iconstV X1.here hx rfl (0 : Int32) (hb hby at_6) (by decide) ?_
    show Steps p.tables e below (T1.setTop (mkF m 7 #[.val (.int p1), .unset, .unset, .unset] [(.int (0 : Int32)), (.ref b1), (.ref b1)])) _
    refine st2 _ ?_
    show Steps p.tables e below (T2.setTop (mkF m 10 #[.val (.int p1), .unset, .unset, .unset] [(.ref w_MENU), (.int (0 : Int32)), (.ref b1), (.ref b1)])) _
    refine st3 _ ?_
    show Steps p.tables e below (T3.setTop (mkF m 11 #[.val (.int p1), .unset, .unset, .unset] [(.ref b1)])) _
    refine XS.dup X3.here hx rfl (hb hby at_11) rfl rfl ?_
    show Steps p.tables e below (T3.setTop (mkF m 12 #[.val (.int p1), .unset, .unset, .unset] [(.ref b1), (.ref b1)])) _
    refine XT.iconstV X3.here hx rfl (1 : Int32) (hb hby at_12) (by decide) ?_
    show Steps p.tables e below (T3.setTop (mkF m 13 #[.val (.int p1), .unset, .unset, .unset] [(.int (1 : Int32)), (.ref b1), (.ref b1)])) _
    refine st5 _ ?_
    show Steps p.tables e below (T5.setTop (mkF m 16 #[.val (.int p1), .unset, .unset, .unset] [(.ref w_LEVEL_SETS), (.int (1 : Int32)), (.ref b1), (.ref b1)])) _
    refine st6 _ ?_
    show Steps p.tables e below (T6.setTop (mkF m 17 #[.val (.int p1), .unset, .unset, .unset] [(.ref b1)])) _
    refine XS.dup X6.here hx rfl (hb hby at_17) rfl rfl ?_
    show Steps p.tables e below (T6.setTop (mkF m 18 #[.val (.int p1), .unset, .unset, .unset] [(.ref b1), (.ref b1)])) _
    refine XT.iconstV X6.here hx rfl (2 : Int32) (hb hby at_18) (by decide) ?_
    show Steps p.tables e below (T6.setTop (mkF m 19 #[.val (.int p1), .unset, .unset, .unset] [(.int (2 : Int32)), (.ref b1), (.ref b1)])) _
    refine st8 _ ?_
    show Steps p.tables e below (T8.setTop (mkF m 22 #[.val (.int p1), .unset, .unset, .unset] [(.ref w_HIGH_SCORES), (.int (2 : Int32)), (.ref b1), (.ref b1)])) _
    refine st9 _ ?_
    show Steps p.tables e below (T9.setTop (mkF m 23 #[.val (.int p1), .unset, .unset, .unset] [(.ref b1)])) _
    refine XS.dup X9.here hx rfl (hb hby at_23) rfl rfl ?_
    show Steps p.tables e below (T9.setTop (mkF m 24 #[.val (.int p1), .unset, .unset, .unset] [(.ref b1), (.ref b1)])) _
    refine XT.iconstV X9.here hx rfl (3 : Int32) (hb hby at_24) (by decide) ?_
    show Steps p.tables e below (T9.setTop (mkF m 25 #[.val (.int p1), .unset, .unset, .unset] [(.int (3 : Int32)), (.ref b1), (.ref b1)])) _
    refine st11 _ ?_
    show Steps p.tables e below (T11.setTop (mkF m 28 #[.val (.int p1), .unset, .unset, .unset] [(.ref w_COUNTDOWN), (.int (3 : Int32)), (.ref b1), (.ref b1)])) _
    refine st12 _ ?_
    show Steps p.tables e below (T12.setTop (mkF m 29 #[.val (.int p1), .unset, .unset, .unset] [(.ref b1)])) _
    refine XS.dup X12.here hx rfl (hb hby at_29) rfl rfl ?_
    show Steps p.tables e below (T12.setTop (mkF m 30 #[.val (.int p1), .unset, .unset, .unset] [(.ref b1), (.ref b1)])) _
    refine XT.iconstV X12.here hx rfl (4 : Int32) (hb hby at_30) (by decide) ?_
    show Steps p.tables e below (T12.setTop (mkF m 31 #[.val (.int p1), .unset, .unset, .unset] [(.int (4 : Int32)), (.ref b1), (.ref b1)])) _
    refine st14 _ ?_
    show Steps p.tables e below (T14.setTop (mkF m 34 #[.val (.int p1), .unset, .unset, .unset] [(.ref w_PLAYING), (.int (4 : Int32)), (.ref b1), (.ref b1)])) _
    refine st15 _ ?_
    show Steps p.tables e below (T15.setTop (mkF m 35 #[.val (.int p1), .unset, .unset, .unset] [(.ref b1)])) _
    refine XS.dup X15.here hx rfl (hb hby at_35) rfl rfl ?_
    show Steps p.tables e below (T15.setTop (mkF m 36 #[.val (.int p1), .unset, .unset, .unset] [(.ref b1), (.ref b1)])) _
    refine XT.iconstV X15.here hx rfl (5 : Int32) (hb hby at_36) (by decide) ?_
    show Steps p.tables e below (T15.setTop (mkF m 37 #[.val (.int p1), .unset, .unset, .unset] [(.int (5 : Int32)), (.ref b1), (.ref b1)])) _
    refine st17 _ ?_
    show Steps p.tables e below (T17.setTop (mkF m 40 #[.val (.int p1), .unset, .unset, .unset] [(.ref w_PAUSED), (.int (5 : Int32)), (.ref b1), (.ref b1)])) _
    refine st18 _ ?_
    show Steps p.tables e below (T18.setTop (mkF m 41 #[.val (.int p1), .unset, .unset, .unset] [(.ref b1)])) _
    refine XS.dup X18.here hx rfl (hb hby at_41) rfl rfl ?_
    show Steps p.tables e below (T18.setTop (mkF m 42 #[.val (.int p1), .unset, .unset, .unset] [(.ref b1), (.ref b1)])) _
    refine XT.bipushV X18.here hx rfl (6 : Int32) (hb hby at_42) (by decide) ?_
    show Steps p.tables e below (T18.setTop (mkF m 44 #[.val (.int p1), .unset, .unset, .unset] [(.int (6 : Int32)), (.ref b1), (.ref b1)])) _
    refine st20 _ ?_
    show Steps p.tables e below (T20.setTop (mkF m 47 #[.val (.int p1), .unset, .unset, .unset] [(.ref w_GAME_OVER), (.int (6 : Int32)), (.ref b1), (.ref b1)])) _
    refine st21 _ ?_
    show Steps p.tables e below (T21.setTop (mkF m 48 #[.val (.int p1), .unset, .unset, .unset] [(.ref b1)])) _
    refine XS.dup X21.here hx rfl (hb hby at_48) rfl rfl ?_
    show Steps p.tables e below (T21.setTop (mkF m 49 #[.val (.int p1), .unset, .unset, .unset] [(.ref b1), (.ref b1)])) _
    refine XT.bipushV X21.here hx rfl (7 : Int32) (hb hby at_49) (by decide) ?_
    show Steps p.tables e below (T21.setTop (mkF m 51 #[.val (.int p1), .unset, .unset, .unset] [(.int (7 : Int32)), (.ref b1), (.ref b1)])) _
    refine st23 _ ?_
    show Steps p.tables e below (T23.setTop (mkF m 54 #[.val (.int p1), .unset, .unset, .unset] [(.ref w_YOU_WIN), (.int (7 : Int32)), (.ref b1), (.ref b1)])) _
    refine st24 _ ?_
    show Steps p.tables e below (T24.setTop (mkF m 55 #[.val (.int p1), .unset, .unset, .unset] [(.ref b1)])) _
    refine XS.dup X24.here hx rfl (hb hby at_55) rfl rfl ?_
    show Steps p.tables e below (T24.setTop (mkF m 56 #[.val (.int p1), .unset, .unset, .unset] [(.ref b1), (.ref b1)])) _
    refine XT.bipushV X24.here hx rfl (8 : Int32) (hb hby at_56) (by decide) ?_
    show Steps p.tables e below (T24.setTop (mkF m 58 #[.val (.int p1), .unset, .unset, .unset] [(.int (8 : Int32)), (.ref b1), (.ref b1)])) _
    refine st26 _ ?_
    show Steps p.tables e below (T26.setTop (mkF m 61 #[.val (.int p1), .unset, .unset, .unset] [(.ref w_NAME_ENTRY), (.int (8 : Int32)), (.ref b1), (.ref b1)])) _
    refine st27 _ ?_
    show Steps p.tables e below (T27.setTop (mkF m 62 #[.val (.int p1), .unset, .unset, .unset] [(.ref b1)])) _
    refine XS.astoreN X27.here hx rfl (hb hby at_62) rfl rfl (l' := #[.val (.int p1), .val (.ref b1), .unset, .unset]) rfl ?_
    show Steps p.tables e below (T27.setTop (mkF m 63 #[.val (.int p1), .val (.ref b1), .unset, .unset] [])) _
    refine XS.iloadN X27.here hx rfl (hb hby at_63) rfl ?_
    show Steps p.tables e below (T27.setTop (mkF m 64 #[.val (.int p1), .val (.ref b1), .unset, .unset] [(.int p1)])) _
    refine X27.ldcI hx hown (mvT hZ (hw _ (List.mem_of_getElem? (i := 22) rfl))) rfl (hb hby at_64) ?_
    show Steps p.tables e below (T27.setTop (mkF m 66 #[.val (.int p1), .val (.ref b1), .unset, .unset] [(.int (2147483647 : Int32)), (.int p1)])) _
    refine XS.iand X27.here hx rfl (hb hby at_66) rfl ?_
    show Steps p.tables e below (T27.setTop (mkF m 67 #[.val (.int p1), .val (.ref b1), .unset, .unset] [(.int (p1 &&& (2147483647 : Int32)))])) _
    refine XT.bipushV X27.here hx rfl (9 : Int32) (hb hby at_67) (by decide) ?_
    show Steps p.tables e below (T27.setTop (mkF m 69 #[.val (.int p1), .val (.ref b1), .unset, .unset] [(.int (9 : Int32)), (.int (p1 &&& (2147483647 : Int32)))])) _
    refine iremM X27 hx rfl (hb hby at_69) rfl (by decide) ?_
    show Steps p.tables e below (T27.setTop (mkF m 70 #[.val (.int p1), .val (.ref b1), .unset, .unset] [(.int ((p1 &&& (2147483647 : Int32)) % (9 : Int32)))])) _
    refine XS.istoreN X27.here hx rfl (hb hby at_70) rfl (l' := #[.val (.int p1), .val (.ref b1), .val (.int ((p1 &&& (2147483647 : Int32)) % (9 : Int32))), .unset]) rfl ?_
    show Steps p.tables e below (T27.setTop (mkF m 71 #[.val (.int p1), .val (.ref b1), .val (.int ((p1 &&& (2147483647 : Int32)) % (9 : Int32))), .unset] [])) _
    exact k
  rcases (own_rem9 p1) with hv30 | hv30 | hv30 | hv30 | hv30 | hv30 | hv30 | hv30 | hv30
  ·
    rw [hv30] at pre29
    obtain ⟨cl31, Ar31, q31, S31, M31, H31, G31⟩ := V28
    have hin31 : ¬ ((0 : Int32) < 0 ∨ cl31.slots.size ≤ ((0 : Int32)).toNatClampNeg) := inb_of S31 ⟨by decide, by decide⟩
    have hat31 : cl31.slots[((0 : Int32)).toNatClampNeg]? = some (.ref w_MENU) := H31.at hin31 rfl
    have V32 : Arv Z h27 b1 k1 (.object "com/example/paddlewick/paddlewick/engine/Screen") (9 : Int32) [(.ref w_MENU), (.ref w_LEVEL_SETS), (.ref w_HIGH_SCORES), (.ref w_COUNTDOWN), (.ref w_PLAYING), (.ref w_PAUSED), (.ref w_GAME_OVER), (.ref w_YOU_WIN), (.ref w_NAME_ENTRY)] .null := ⟨cl31, Ar31, q31, S31, M31, H31, G31⟩
    obtain ⟨cq34, kq34, q34a, q34b, q34c⟩ := isOf hZ e27 (Exa.keep E_MENU K27)
    obtain ⟨_, _, ⟨T33, L33, k33, n33⟩, -, X33, ⟨Lc33, hQ33, l33, y33, z33⟩, st33⟩ := X27.virtualBack hx (y := (⟨"com/example/paddlewick/paddlewick/engine/Screen", "showsLevel", "()Z"⟩ : MethodName)) (z := (⟨"com/example/paddlewick/paddlewick/engine/Screen", "showsLevel", "()Z"⟩ : MethodName)) hown (mvT hZ (hw _ (List.mem_of_getElem? (i := 23) rfl))) (mvT hZ (hw _ (List.mem_of_getElem? (i := 24) rfl))) (notFace_of_selects (args := #[]) (mvT hZ (hw _ (List.mem_of_getElem? (i := 26) rfl)))) (mvT hZ (hw _ (List.mem_of_getElem? (i := 26) rfl))) (mvT hZ (hw _ (List.mem_of_getElem? (i := 25) rfl))) (by decide) (backOf (W := 0) (rm1 l Z a0 hw [] w_MENU w_COUNTDOWN w_PLAYING w_PAUSED (0 : Int32) h27 n0 (Sta.wr W27 (Sta.wr W24 (Sta.wr W21 (Sta.wr W18 (Sta.wr W15 (Sta.wr W12 (Sta.wr W9 (Sta.wr W6 (Sta.wr W3 (Sta.ext E1 S_COUNTDOWN)))))))))) (Sta.wr W27 (Sta.wr W24 (Sta.wr W21 (Sta.wr W18 (Sta.wr W15 (Sta.wr W12 (Sta.wr W9 (Sta.wr W6 (Sta.wr W3 (Sta.ext E1 S_PLAYING)))))))))) (Sta.wr W27 (Sta.wr W24 (Sta.wr W21 (Sta.wr W18 (Sta.wr W15 (Sta.wr W12 (Sta.wr W9 (Sta.wr W6 (Sta.wr W3 (Sta.ext E1 S_PAUSED)))))))))) (by unfold own_shows; rw [if_neg ((Fld.ne O_MENU O_COUNTDOWN (fun q => absurd (Value.int.inj q) (by decide))) : ¬ (w_MENU = w_COUNTDOWN)), if_neg ((Fld.ne O_MENU O_PLAYING (fun q => absurd (Value.int.inj q) (by decide))) : ¬ (w_MENU = w_PLAYING)), if_neg ((Fld.ne O_MENU O_PAUSED (fun q => absurd (Value.int.inj q) (by decide))) : ¬ (w_MENU = w_PAUSED))])) hZ (hw _ (List.mem_of_getElem? (i := 27) rfl)) (hw _ (List.mem_of_getElem? (i := 3) rfl)) (by decide) (by decide)) q34a q34c (g := (mkF m 90 #[.val (.int p1), .val (.ref b1), .val (.int (0 : Int32)), .val (.int (0 : Int32))] [(.ref w_MENU)])) rfl (by rw [hml]; rfl) (Steps.refl _) (argsL := []) (rest := []) (lenOf (show parseMethodDescriptor "()Z" = some ⟨[], some .boolean⟩ by decide +kernel) rfl) rfl (by show 2 * 0 + _ ≤ _; exact Nat.le_of_eq rfl) (hb hby at_90) (fun _ _ => ⟨rfl, e27, (by decide : 1 + 0 ≤ _), (by decide : 9 + 0 ≤ _)⟩)
    dsimp only [Pt.U, Pt.locs, Pt.cells, Pt.slots] at X33 l33 y33 z33 st33 hQ33
    subst l33 y33 z33
    obtain ⟨rfl, Nq33, e33⟩ := hQ33
    have N33 := Fr.app N27 Nq33
    obtain ⟨fs, hr35, hrun, hended, hW, hsame⟩ := X33.leave (v := some (.int (1 : Int32))) (fun h => by rw [Bd.returns] at h; cases h)
    refine ⟨_, _, pre29 _ ?_, hrun, hended, _, _, rfl, ?_, ⟨_, rfl⟩, hW, hsame.mono (by decide) (by decide)⟩
    · show Steps p.tables e below (T27.setTop (mkF m 71 #[.val (.int p1), .val (.ref b1), .val (.int (0 : Int32)), .unset] [])) _
      refine XS.iloadN X27.here hx rfl (hb hby at_71) rfl ?_
      show Steps p.tables e below (T27.setTop (mkF m 72 #[.val (.int p1), .val (.ref b1), .val (.int (0 : Int32)), .unset] [(.int (0 : Int32))])) _
      refine XT.iconstV X27.here hx rfl (3 : Int32) (hb hby at_72) (by decide) ?_
      show Steps p.tables e below (T27.setTop (mkF m 73 #[.val (.int p1), .val (.ref b1), .val (.int (0 : Int32)), .unset] [(.int (3 : Int32)), (.int (0 : Int32))])) _
      refine XS.icmpYes X27.here hx rfl (pc0 := 73) (pc' := 85) rfl (hb hby at_73) rfl (tlt ((by decide) : (0 : Int32) < (3 : Int32))).1 (by decide) (by decide) ?_
      show Steps p.tables e below (T27.setTop (mkF m 85 #[.val (.int p1), .val (.ref b1), .val (.int (0 : Int32)), .unset] [])) _
      refine XT.iconstV X27.here hx rfl (0 : Int32) (hb hby at_85) (by decide) ?_
      show Steps p.tables e below (T27.setTop (mkF m 86 #[.val (.int p1), .val (.ref b1), .val (.int (0 : Int32)), .unset] [(.int (0 : Int32))])) _
      refine XS.istoreN X27.here hx rfl (hb hby at_86) rfl (l' := #[.val (.int p1), .val (.ref b1), .val (.int (0 : Int32)), .val (.int (0 : Int32))]) rfl ?_
      show Steps p.tables e below (T27.setTop (mkF m 87 #[.val (.int p1), .val (.ref b1), .val (.int (0 : Int32)), .val (.int (0 : Int32))] [])) _
      refine XS.aloadN X27.here hx rfl (hb hby at_87) rfl rfl ?_
      show Steps p.tables e below (T27.setTop (mkF m 88 #[.val (.int p1), .val (.ref b1), .val (.int (0 : Int32)), .val (.int (0 : Int32))] [(.ref b1)])) _
      refine XS.iloadN X27.here hx rfl (hb hby at_88) rfl ?_
      show Steps p.tables e below (T27.setTop (mkF m 89 #[.val (.int p1), .val (.ref b1), .val (.int (0 : Int32)), .val (.int (0 : Int32))] [(.int (0 : Int32)), (.ref b1)])) _
      refine X27.aaload hx (j := (0 : Int32)) (v := (.ref w_MENU)) (by rw [e27]; exact Ar31.1) (State.isArrayOf_alike hZ.alike Ar31.2.1) rfl Ar31.2.2 hin31 hat31 (g := (mkF m 89 #[.val (.int p1), .val (.ref b1), .val (.int (0 : Int32)), .val (.int (0 : Int32))] [(.int (0 : Int32)), (.ref b1)])) rfl rfl (hb hby at_89) _ ?_
      show Steps p.tables e below (T27.setTop (mkF m 90 #[.val (.int p1), .val (.ref b1), .val (.int (0 : Int32)), .val (.int (0 : Int32))] [(.ref w_MENU)])) _
      refine st33.trans ?_
      show Steps p.tables e below (T33.setTop (mkF m 93 #[.val (.int p1), .val (.ref b1), .val (.int (0 : Int32)), .val (.int (0 : Int32))] [(.int (0 : Int32))])) _
      refine XS.iloadN X33.here hx rfl (hb hby at_93) rfl ?_
      show Steps p.tables e below (T33.setTop (mkF m 94 #[.val (.int p1), .val (.ref b1), .val (.int (0 : Int32)), .val (.int (0 : Int32))] [(.int (0 : Int32)), (.int (0 : Int32))])) _
      refine XS.icmpNo X33.here hx rfl (hb hby at_94) rfl (teq (rfl : (0 : Int32) = (0 : Int32))).2 ?_
      show Steps p.tables e below (T33.setTop (mkF m 97 #[.val (.int p1), .val (.ref b1), .val (.int (0 : Int32)), .val (.int (0 : Int32))] [])) _
      refine XT.iconstV X33.here hx rfl (1 : Int32) (hb hby at_97) (by decide) ?_
      show Steps p.tables e below (T33.setTop (mkF m 98 #[.val (.int p1), .val (.ref b1), .val (.int (0 : Int32)), .val (.int (0 : Int32))] [(.int (1 : Int32))])) _
      refine XS.goto X33.here hx rfl (pc0 := 98) (pc' := 102) rfl (hb hby at_98) (by decide) (by decide) ?_
      show Steps p.tables e below (T33.setTop (mkF m 102 #[.val (.int p1), .val (.ref b1), .val (.int (0 : Int32)), .val (.int (0 : Int32))] [(.int (1 : Int32))])) _
      exact retN X33 hx (t := .boolean) Bd.returns (by simp) (hb hby at_102) hr35
    · show Q0 Z _ _ _ _ _ _ _ _ _ _ h0 n0 _ T33.heap _
      rw [e33]
      exact ⟨rfl, N33⟩
  ·
    rw [hv30] at pre29
    obtain ⟨cl36, Ar36, q36, S36, M36, H36, G36⟩ := V28
    have hin36 : ¬ ((1 : Int32) < 0 ∨ cl36.slots.size ≤ ((1 : Int32)).toNatClampNeg) := inb_of S36 ⟨by decide, by decide⟩
    have hat36 : cl36.slots[((1 : Int32)).toNatClampNeg]? = some (.ref w_LEVEL_SETS) := H36.at hin36 rfl
    have V37 : Arv Z h27 b1 k1 (.object "com/example/paddlewick/paddlewick/engine/Screen") (9 : Int32) [(.ref w_MENU), (.ref w_LEVEL_SETS), (.ref w_HIGH_SCORES), (.ref w_COUNTDOWN), (.ref w_PLAYING), (.ref w_PAUSED), (.ref w_GAME_OVER), (.ref w_YOU_WIN), (.ref w_NAME_ENTRY)] .null := ⟨cl36, Ar36, q36, S36, M36, H36, G36⟩
    obtain ⟨cq39, kq39, q39a, q39b, q39c⟩ := isOf hZ e27 (Exa.keep E_LEVEL_SETS K27)
    obtain ⟨_, _, ⟨T38, L38, k38, n38⟩, -, X38, ⟨Lc38, hQ38, l38, y38, z38⟩, st38⟩ := X27.virtualBack hx (y := (⟨"com/example/paddlewick/paddlewick/engine/Screen", "showsLevel", "()Z"⟩ : MethodName)) (z := (⟨"com/example/paddlewick/paddlewick/engine/Screen", "showsLevel", "()Z"⟩ : MethodName)) hown (mvT hZ (hw _ (List.mem_of_getElem? (i := 23) rfl))) (mvT hZ (hw _ (List.mem_of_getElem? (i := 24) rfl))) (notFace_of_selects (args := #[]) (mvT hZ (hw _ (List.mem_of_getElem? (i := 26) rfl)))) (mvT hZ (hw _ (List.mem_of_getElem? (i := 26) rfl))) (mvT hZ (hw _ (List.mem_of_getElem? (i := 25) rfl))) (by decide) (backOf (W := 0) (rm1 l Z a0 hw [] w_LEVEL_SETS w_COUNTDOWN w_PLAYING w_PAUSED (0 : Int32) h27 n0 (Sta.wr W27 (Sta.wr W24 (Sta.wr W21 (Sta.wr W18 (Sta.wr W15 (Sta.wr W12 (Sta.wr W9 (Sta.wr W6 (Sta.wr W3 (Sta.ext E1 S_COUNTDOWN)))))))))) (Sta.wr W27 (Sta.wr W24 (Sta.wr W21 (Sta.wr W18 (Sta.wr W15 (Sta.wr W12 (Sta.wr W9 (Sta.wr W6 (Sta.wr W3 (Sta.ext E1 S_PLAYING)))))))))) (Sta.wr W27 (Sta.wr W24 (Sta.wr W21 (Sta.wr W18 (Sta.wr W15 (Sta.wr W12 (Sta.wr W9 (Sta.wr W6 (Sta.wr W3 (Sta.ext E1 S_PAUSED)))))))))) (by unfold own_shows; rw [if_neg ((Fld.ne O_LEVEL_SETS O_COUNTDOWN (fun q => absurd (Value.int.inj q) (by decide))) : ¬ (w_LEVEL_SETS = w_COUNTDOWN)), if_neg ((Fld.ne O_LEVEL_SETS O_PLAYING (fun q => absurd (Value.int.inj q) (by decide))) : ¬ (w_LEVEL_SETS = w_PLAYING)), if_neg ((Fld.ne O_LEVEL_SETS O_PAUSED (fun q => absurd (Value.int.inj q) (by decide))) : ¬ (w_LEVEL_SETS = w_PAUSED))])) hZ (hw _ (List.mem_of_getElem? (i := 27) rfl)) (hw _ (List.mem_of_getElem? (i := 3) rfl)) (by decide) (by decide)) q39a q39c (g := (mkF m 90 #[.val (.int p1), .val (.ref b1), .val (.int (1 : Int32)), .val (.int (0 : Int32))] [(.ref w_LEVEL_SETS)])) rfl (by rw [hml]; rfl) (Steps.refl _) (argsL := []) (rest := []) (lenOf (show parseMethodDescriptor "()Z" = some ⟨[], some .boolean⟩ by decide +kernel) rfl) rfl (by show 2 * 0 + _ ≤ _; exact Nat.le_of_eq rfl) (hb hby at_90) (fun _ _ => ⟨rfl, e27, (by decide : 1 + 0 ≤ _), (by decide : 9 + 0 ≤ _)⟩)
    dsimp only [Pt.U, Pt.locs, Pt.cells, Pt.slots] at X38 l38 y38 z38 st38 hQ38
    subst l38 y38 z38
    obtain ⟨rfl, Nq38, e38⟩ := hQ38
    have N38 := Fr.app N27 Nq38
    obtain ⟨fs, hr40, hrun, hended, hW, hsame⟩ := X38.leave (v := some (.int (1 : Int32))) (fun h => by rw [Bd.returns] at h; cases h)
    refine ⟨_, _, pre29 _ ?_, hrun, hended, _, _, rfl, ?_, ⟨_, rfl⟩, hW, hsame.mono (by decide) (by decide)⟩
    · show Steps p.tables e below (T27.setTop (mkF m 71 #[.val (.int p1), .val (.ref b1), .val (.int (1 : Int32)), .unset] [])) _
      refine XS.iloadN X27.here hx rfl (hb hby at_71) rfl ?_
      show Steps p.tables e below (T27.setTop (mkF m 72 #[.val (.int p1), .val (.ref b1), .val (.int (1 : Int32)), .unset] [(.int (1 : Int32))])) _
      refine XT.iconstV X27.here hx rfl (3 : Int32) (hb hby at_72) (by decide) ?_
      show Steps p.tables e below (T27.setTop (mkF m 73 #[.val (.int p1), .val (.ref b1), .val (.int (1 : Int32)), .unset] [(.int (3 : Int32)), (.int (1 : Int32))])) _
      refine XS.icmpYes X27.here hx rfl (pc0 := 73) (pc' := 85) rfl (hb hby at_73) rfl (tlt ((by decide) : (1 : Int32) < (3 : Int32))).1 (by decide) (by decide) ?_
      show Steps p.tables e below (T27.setTop (mkF m 85 #[.val (.int p1), .val (.ref b1), .val (.int (1 : Int32)), .unset] [])) _
      refine XT.iconstV X27.here hx rfl (0 : Int32) (hb hby at_85) (by decide) ?_
      show Steps p.tables e below (T27.setTop (mkF m 86 #[.val (.int p1), .val (.ref b1), .val (.int (1 : Int32)), .unset] [(.int (0 : Int32))])) _
      refine XS.istoreN X27.here hx rfl (hb hby at_86) rfl (l' := #[.val (.int p1), .val (.ref b1), .val (.int (1 : Int32)), .val (.int (0 : Int32))]) rfl ?_
      show Steps p.tables e below (T27.setTop (mkF m 87 #[.val (.int p1), .val (.ref b1), .val (.int (1 : Int32)), .val (.int (0 : Int32))] [])) _
      refine XS.aloadN X27.here hx rfl (hb hby at_87) rfl rfl ?_
      show Steps p.tables e below (T27.setTop (mkF m 88 #[.val (.int p1), .val (.ref b1), .val (.int (1 : Int32)), .val (.int (0 : Int32))] [(.ref b1)])) _
      refine XS.iloadN X27.here hx rfl (hb hby at_88) rfl ?_
      show Steps p.tables e below (T27.setTop (mkF m 89 #[.val (.int p1), .val (.ref b1), .val (.int (1 : Int32)), .val (.int (0 : Int32))] [(.int (1 : Int32)), (.ref b1)])) _
      refine X27.aaload hx (j := (1 : Int32)) (v := (.ref w_LEVEL_SETS)) (by rw [e27]; exact Ar36.1) (State.isArrayOf_alike hZ.alike Ar36.2.1) rfl Ar36.2.2 hin36 hat36 (g := (mkF m 89 #[.val (.int p1), .val (.ref b1), .val (.int (1 : Int32)), .val (.int (0 : Int32))] [(.int (1 : Int32)), (.ref b1)])) rfl rfl (hb hby at_89) _ ?_
      show Steps p.tables e below (T27.setTop (mkF m 90 #[.val (.int p1), .val (.ref b1), .val (.int (1 : Int32)), .val (.int (0 : Int32))] [(.ref w_LEVEL_SETS)])) _
      refine st38.trans ?_
      show Steps p.tables e below (T38.setTop (mkF m 93 #[.val (.int p1), .val (.ref b1), .val (.int (1 : Int32)), .val (.int (0 : Int32))] [(.int (0 : Int32))])) _
      refine XS.iloadN X38.here hx rfl (hb hby at_93) rfl ?_
      show Steps p.tables e below (T38.setTop (mkF m 94 #[.val (.int p1), .val (.ref b1), .val (.int (1 : Int32)), .val (.int (0 : Int32))] [(.int (0 : Int32)), (.int (0 : Int32))])) _
      refine XS.icmpNo X38.here hx rfl (hb hby at_94) rfl (teq (rfl : (0 : Int32) = (0 : Int32))).2 ?_
      show Steps p.tables e below (T38.setTop (mkF m 97 #[.val (.int p1), .val (.ref b1), .val (.int (1 : Int32)), .val (.int (0 : Int32))] [])) _
      refine XT.iconstV X38.here hx rfl (1 : Int32) (hb hby at_97) (by decide) ?_
      show Steps p.tables e below (T38.setTop (mkF m 98 #[.val (.int p1), .val (.ref b1), .val (.int (1 : Int32)), .val (.int (0 : Int32))] [(.int (1 : Int32))])) _
      refine XS.goto X38.here hx rfl (pc0 := 98) (pc' := 102) rfl (hb hby at_98) (by decide) (by decide) ?_
      show Steps p.tables e below (T38.setTop (mkF m 102 #[.val (.int p1), .val (.ref b1), .val (.int (1 : Int32)), .val (.int (0 : Int32))] [(.int (1 : Int32))])) _
      exact retN X38 hx (t := .boolean) Bd.returns (by simp) (hb hby at_102) hr40
    · show Q0 Z _ _ _ _ _ _ _ _ _ _ h0 n0 _ T38.heap _
      rw [e38]
      exact ⟨rfl, N38⟩
  ·
    rw [hv30] at pre29
    obtain ⟨cl41, Ar41, q41, S41, M41, H41, G41⟩ := V28
    have hin41 : ¬ ((2 : Int32) < 0 ∨ cl41.slots.size ≤ ((2 : Int32)).toNatClampNeg) := inb_of S41 ⟨by decide, by decide⟩
    have hat41 : cl41.slots[((2 : Int32)).toNatClampNeg]? = some (.ref w_HIGH_SCORES) := H41.at hin41 rfl
    have V42 : Arv Z h27 b1 k1 (.object "com/example/paddlewick/paddlewick/engine/Screen") (9 : Int32) [(.ref w_MENU), (.ref w_LEVEL_SETS), (.ref w_HIGH_SCORES), (.ref w_COUNTDOWN), (.ref w_PLAYING), (.ref w_PAUSED), (.ref w_GAME_OVER), (.ref w_YOU_WIN), (.ref w_NAME_ENTRY)] .null := ⟨cl41, Ar41, q41, S41, M41, H41, G41⟩
    obtain ⟨cq44, kq44, q44a, q44b, q44c⟩ := isOf hZ e27 (Exa.keep E_HIGH_SCORES K27)
    obtain ⟨_, _, ⟨T43, L43, k43, n43⟩, -, X43, ⟨Lc43, hQ43, l43, y43, z43⟩, st43⟩ := X27.virtualBack hx (y := (⟨"com/example/paddlewick/paddlewick/engine/Screen", "showsLevel", "()Z"⟩ : MethodName)) (z := (⟨"com/example/paddlewick/paddlewick/engine/Screen", "showsLevel", "()Z"⟩ : MethodName)) hown (mvT hZ (hw _ (List.mem_of_getElem? (i := 23) rfl))) (mvT hZ (hw _ (List.mem_of_getElem? (i := 24) rfl))) (notFace_of_selects (args := #[]) (mvT hZ (hw _ (List.mem_of_getElem? (i := 26) rfl)))) (mvT hZ (hw _ (List.mem_of_getElem? (i := 26) rfl))) (mvT hZ (hw _ (List.mem_of_getElem? (i := 25) rfl))) (by decide) (backOf (W := 0) (rm1 l Z a0 hw [] w_HIGH_SCORES w_COUNTDOWN w_PLAYING w_PAUSED (0 : Int32) h27 n0 (Sta.wr W27 (Sta.wr W24 (Sta.wr W21 (Sta.wr W18 (Sta.wr W15 (Sta.wr W12 (Sta.wr W9 (Sta.wr W6 (Sta.wr W3 (Sta.ext E1 S_COUNTDOWN)))))))))) (Sta.wr W27 (Sta.wr W24 (Sta.wr W21 (Sta.wr W18 (Sta.wr W15 (Sta.wr W12 (Sta.wr W9 (Sta.wr W6 (Sta.wr W3 (Sta.ext E1 S_PLAYING)))))))))) (Sta.wr W27 (Sta.wr W24 (Sta.wr W21 (Sta.wr W18 (Sta.wr W15 (Sta.wr W12 (Sta.wr W9 (Sta.wr W6 (Sta.wr W3 (Sta.ext E1 S_PAUSED)))))))))) (by unfold own_shows; rw [if_neg ((Fld.ne O_HIGH_SCORES O_COUNTDOWN (fun q => absurd (Value.int.inj q) (by decide))) : ¬ (w_HIGH_SCORES = w_COUNTDOWN)), if_neg ((Fld.ne O_HIGH_SCORES O_PLAYING (fun q => absurd (Value.int.inj q) (by decide))) : ¬ (w_HIGH_SCORES = w_PLAYING)), if_neg ((Fld.ne O_HIGH_SCORES O_PAUSED (fun q => absurd (Value.int.inj q) (by decide))) : ¬ (w_HIGH_SCORES = w_PAUSED))])) hZ (hw _ (List.mem_of_getElem? (i := 27) rfl)) (hw _ (List.mem_of_getElem? (i := 3) rfl)) (by decide) (by decide)) q44a q44c (g := (mkF m 90 #[.val (.int p1), .val (.ref b1), .val (.int (2 : Int32)), .val (.int (0 : Int32))] [(.ref w_HIGH_SCORES)])) rfl (by rw [hml]; rfl) (Steps.refl _) (argsL := []) (rest := []) (lenOf (show parseMethodDescriptor "()Z" = some ⟨[], some .boolean⟩ by decide +kernel) rfl) rfl (by show 2 * 0 + _ ≤ _; exact Nat.le_of_eq rfl) (hb hby at_90) (fun _ _ => ⟨rfl, e27, (by decide : 1 + 0 ≤ _), (by decide : 9 + 0 ≤ _)⟩)
    dsimp only [Pt.U, Pt.locs, Pt.cells, Pt.slots] at X43 l43 y43 z43 st43 hQ43
    subst l43 y43 z43
    obtain ⟨rfl, Nq43, e43⟩ := hQ43
    have N43 := Fr.app N27 Nq43
    obtain ⟨fs, hr45, hrun, hended, hW, hsame⟩ := X43.leave (v := some (.int (1 : Int32))) (fun h => by rw [Bd.returns] at h; cases h)
    refine ⟨_, _, pre29 _ ?_, hrun, hended, _, _, rfl, ?_, ⟨_, rfl⟩, hW, hsame.mono (by decide) (by decide)⟩
    · show Steps p.tables e below (T27.setTop (mkF m 71 #[.val (.int p1), .val (.ref b1), .val (.int (2 : Int32)), .unset] [])) _
      refine XS.iloadN X27.here hx rfl (hb hby at_71) rfl ?_
      show Steps p.tables e below (T27.setTop (mkF m 72 #[.val (.int p1), .val (.ref b1), .val (.int (2 : Int32)), .unset] [(.int (2 : Int32))])) _
      refine XT.iconstV X27.here hx rfl (3 : Int32) (hb hby at_72) (by decide) ?_
      show Steps p.tables e below (T27.setTop (mkF m 73 #[.val (.int p1), .val (.ref b1), .val (.int (2 : Int32)), .unset] [(.int (3 : Int32)), (.int (2 : Int32))])) _
      refine XS.icmpYes X27.here hx rfl (pc0 := 73) (pc' := 85) rfl (hb hby at_73) rfl (tlt ((by decide) : (2 : Int32) < (3 : Int32))).1 (by decide) (by decide) ?_
      show Steps p.tables e below (T27.setTop (mkF m 85 #[.val (.int p1), .val (.ref b1), .val (.int (2 : Int32)), .unset] [])) _
      refine XT.iconstV X27.here hx rfl (0 : Int32) (hb hby at_85) (by decide) ?_
      show Steps p.tables e below (T27.setTop (mkF m 86 #[.val (.int p1), .val (.ref b1), .val (.int (2 : Int32)), .unset] [(.int (0 : Int32))])) _
      refine XS.istoreN X27.here hx rfl (hb hby at_86) rfl (l' := #[.val (.int p1), .val (.ref b1), .val (.int (2 : Int32)), .val (.int (0 : Int32))]) rfl ?_
      show Steps p.tables e below (T27.setTop (mkF m 87 #[.val (.int p1), .val (.ref b1), .val (.int (2 : Int32)), .val (.int (0 : Int32))] [])) _
      refine XS.aloadN X27.here hx rfl (hb hby at_87) rfl rfl ?_
      show Steps p.tables e below (T27.setTop (mkF m 88 #[.val (.int p1), .val (.ref b1), .val (.int (2 : Int32)), .val (.int (0 : Int32))] [(.ref b1)])) _
      refine XS.iloadN X27.here hx rfl (hb hby at_88) rfl ?_
      show Steps p.tables e below (T27.setTop (mkF m 89 #[.val (.int p1), .val (.ref b1), .val (.int (2 : Int32)), .val (.int (0 : Int32))] [(.int (2 : Int32)), (.ref b1)])) _
      refine X27.aaload hx (j := (2 : Int32)) (v := (.ref w_HIGH_SCORES)) (by rw [e27]; exact Ar41.1) (State.isArrayOf_alike hZ.alike Ar41.2.1) rfl Ar41.2.2 hin41 hat41 (g := (mkF m 89 #[.val (.int p1), .val (.ref b1), .val (.int (2 : Int32)), .val (.int (0 : Int32))] [(.int (2 : Int32)), (.ref b1)])) rfl rfl (hb hby at_89) _ ?_
      show Steps p.tables e below (T27.setTop (mkF m 90 #[.val (.int p1), .val (.ref b1), .val (.int (2 : Int32)), .val (.int (0 : Int32))] [(.ref w_HIGH_SCORES)])) _
      refine st43.trans ?_
      show Steps p.tables e below (T43.setTop (mkF m 93 #[.val (.int p1), .val (.ref b1), .val (.int (2 : Int32)), .val (.int (0 : Int32))] [(.int (0 : Int32))])) _
      refine XS.iloadN X43.here hx rfl (hb hby at_93) rfl ?_
      show Steps p.tables e below (T43.setTop (mkF m 94 #[.val (.int p1), .val (.ref b1), .val (.int (2 : Int32)), .val (.int (0 : Int32))] [(.int (0 : Int32)), (.int (0 : Int32))])) _
      refine XS.icmpNo X43.here hx rfl (hb hby at_94) rfl (teq (rfl : (0 : Int32) = (0 : Int32))).2 ?_
      show Steps p.tables e below (T43.setTop (mkF m 97 #[.val (.int p1), .val (.ref b1), .val (.int (2 : Int32)), .val (.int (0 : Int32))] [])) _
      refine XT.iconstV X43.here hx rfl (1 : Int32) (hb hby at_97) (by decide) ?_
      show Steps p.tables e below (T43.setTop (mkF m 98 #[.val (.int p1), .val (.ref b1), .val (.int (2 : Int32)), .val (.int (0 : Int32))] [(.int (1 : Int32))])) _
      refine XS.goto X43.here hx rfl (pc0 := 98) (pc' := 102) rfl (hb hby at_98) (by decide) (by decide) ?_
      show Steps p.tables e below (T43.setTop (mkF m 102 #[.val (.int p1), .val (.ref b1), .val (.int (2 : Int32)), .val (.int (0 : Int32))] [(.int (1 : Int32))])) _
      exact retN X43 hx (t := .boolean) Bd.returns (by simp) (hb hby at_102) hr45
    · show Q0 Z _ _ _ _ _ _ _ _ _ _ h0 n0 _ T43.heap _
      rw [e43]
      exact ⟨rfl, N43⟩
  ·
    rw [hv30] at pre29
    obtain ⟨cl46, Ar46, q46, S46, M46, H46, G46⟩ := V28
    have hin46 : ¬ ((3 : Int32) < 0 ∨ cl46.slots.size ≤ ((3 : Int32)).toNatClampNeg) := inb_of S46 ⟨by decide, by decide⟩
    have hat46 : cl46.slots[((3 : Int32)).toNatClampNeg]? = some (.ref w_COUNTDOWN) := H46.at hin46 rfl
    have V47 : Arv Z h27 b1 k1 (.object "com/example/paddlewick/paddlewick/engine/Screen") (9 : Int32) [(.ref w_MENU), (.ref w_LEVEL_SETS), (.ref w_HIGH_SCORES), (.ref w_COUNTDOWN), (.ref w_PLAYING), (.ref w_PAUSED), (.ref w_GAME_OVER), (.ref w_YOU_WIN), (.ref w_NAME_ENTRY)] .null := ⟨cl46, Ar46, q46, S46, M46, H46, G46⟩
    obtain ⟨cq49, kq49, q49a, q49b, q49c⟩ := isOf hZ e27 (Exa.keep E_COUNTDOWN K27)
    obtain ⟨_, _, ⟨T48, L48, k48, n48⟩, -, X48, ⟨Lc48, hQ48, l48, y48, z48⟩, st48⟩ := X27.virtualBack hx (y := (⟨"com/example/paddlewick/paddlewick/engine/Screen", "showsLevel", "()Z"⟩ : MethodName)) (z := (⟨"com/example/paddlewick/paddlewick/engine/Screen", "showsLevel", "()Z"⟩ : MethodName)) hown (mvT hZ (hw _ (List.mem_of_getElem? (i := 23) rfl))) (mvT hZ (hw _ (List.mem_of_getElem? (i := 24) rfl))) (notFace_of_selects (args := #[]) (mvT hZ (hw _ (List.mem_of_getElem? (i := 26) rfl)))) (mvT hZ (hw _ (List.mem_of_getElem? (i := 26) rfl))) (mvT hZ (hw _ (List.mem_of_getElem? (i := 25) rfl))) (by decide) (backOf (W := 0) (rm1 l Z a0 hw [] w_COUNTDOWN w_COUNTDOWN w_PLAYING w_PAUSED (1 : Int32) h27 n0 (Sta.wr W27 (Sta.wr W24 (Sta.wr W21 (Sta.wr W18 (Sta.wr W15 (Sta.wr W12 (Sta.wr W9 (Sta.wr W6 (Sta.wr W3 (Sta.ext E1 S_COUNTDOWN)))))))))) (Sta.wr W27 (Sta.wr W24 (Sta.wr W21 (Sta.wr W18 (Sta.wr W15 (Sta.wr W12 (Sta.wr W9 (Sta.wr W6 (Sta.wr W3 (Sta.ext E1 S_PLAYING)))))))))) (Sta.wr W27 (Sta.wr W24 (Sta.wr W21 (Sta.wr W18 (Sta.wr W15 (Sta.wr W12 (Sta.wr W9 (Sta.wr W6 (Sta.wr W3 (Sta.ext E1 S_PAUSED)))))))))) (by unfold own_shows; rw [if_pos (rfl : w_COUNTDOWN = w_COUNTDOWN)])) hZ (hw _ (List.mem_of_getElem? (i := 27) rfl)) (hw _ (List.mem_of_getElem? (i := 3) rfl)) (by decide) (by decide)) q49a q49c (g := (mkF m 90 #[.val (.int p1), .val (.ref b1), .val (.int (3 : Int32)), .val (.int (1 : Int32))] [(.ref w_COUNTDOWN)])) rfl (by rw [hml]; rfl) (Steps.refl _) (argsL := []) (rest := []) (lenOf (show parseMethodDescriptor "()Z" = some ⟨[], some .boolean⟩ by decide +kernel) rfl) rfl (by show 2 * 0 + _ ≤ _; exact Nat.le_of_eq rfl) (hb hby at_90) (fun _ _ => ⟨rfl, e27, (by decide : 1 + 0 ≤ _), (by decide : 9 + 0 ≤ _)⟩)
    dsimp only [Pt.U, Pt.locs, Pt.cells, Pt.slots] at X48 l48 y48 z48 st48 hQ48
    subst l48 y48 z48
    obtain ⟨rfl, Nq48, e48⟩ := hQ48
    have N48 := Fr.app N27 Nq48
    obtain ⟨fs, hr50, hrun, hended, hW, hsame⟩ := X48.leave (v := some (.int (1 : Int32))) (fun h => by rw [Bd.returns] at h; cases h)
    refine ⟨_, _, pre29 _ ?_, hrun, hended, _, _, rfl, ?_, ⟨_, rfl⟩, hW, hsame.mono (by decide) (by decide)⟩
    · show Steps p.tables e below (T27.setTop (mkF m 71 #[.val (.int p1), .val (.ref b1), .val (.int (3 : Int32)), .unset] [])) _
      refine XS.iloadN X27.here hx rfl (hb hby at_71) rfl ?_
      show Steps p.tables e below (T27.setTop (mkF m 72 #[.val (.int p1), .val (.ref b1), .val (.int (3 : Int32)), .unset] [(.int (3 : Int32))])) _
      refine XT.iconstV X27.here hx rfl (3 : Int32) (hb hby at_72) (by decide) ?_
      show Steps p.tables e below (T27.setTop (mkF m 73 #[.val (.int p1), .val (.ref b1), .val (.int (3 : Int32)), .unset] [(.int (3 : Int32)), (.int (3 : Int32))])) _
      refine XS.icmpNo X27.here hx rfl (hb hby at_73) rfl (flt ((by decide) : ¬ ((3 : Int32) < (3 : Int32)))).1 ?_
      show Steps p.tables e below (T27.setTop (mkF m 76 #[.val (.int p1), .val (.ref b1), .val (.int (3 : Int32)), .unset] [])) _
      refine XS.iloadN X27.here hx rfl (hb hby at_76) rfl ?_
      show Steps p.tables e below (T27.setTop (mkF m 77 #[.val (.int p1), .val (.ref b1), .val (.int (3 : Int32)), .unset] [(.int (3 : Int32))])) _
      refine XT.iconstV X27.here hx rfl (5 : Int32) (hb hby at_77) (by decide) ?_
      show Steps p.tables e below (T27.setTop (mkF m 78 #[.val (.int p1), .val (.ref b1), .val (.int (3 : Int32)), .unset] [(.int (5 : Int32)), (.int (3 : Int32))])) _
      refine XS.icmpNo X27.here hx rfl (hb hby at_78) rfl (flt ((by decide) : ¬ ((5 : Int32) < (3 : Int32)))).2.2.1 ?_
      show Steps p.tables e below (T27.setTop (mkF m 81 #[.val (.int p1), .val (.ref b1), .val (.int (3 : Int32)), .unset] [])) _
      refine XT.iconstV X27.here hx rfl (1 : Int32) (hb hby at_81) (by decide) ?_
      show Steps p.tables e below (T27.setTop (mkF m 82 #[.val (.int p1), .val (.ref b1), .val (.int (3 : Int32)), .unset] [(.int (1 : Int32))])) _
      refine XS.goto X27.here hx rfl (pc0 := 82) (pc' := 86) rfl (hb hby at_82) (by decide) (by decide) ?_
      show Steps p.tables e below (T27.setTop (mkF m 86 #[.val (.int p1), .val (.ref b1), .val (.int (3 : Int32)), .unset] [(.int (1 : Int32))])) _
      refine XS.istoreN X27.here hx rfl (hb hby at_86) rfl (l' := #[.val (.int p1), .val (.ref b1), .val (.int (3 : Int32)), .val (.int (1 : Int32))]) rfl ?_
      show Steps p.tables e below (T27.setTop (mkF m 87 #[.val (.int p1), .val (.ref b1), .val (.int (3 : Int32)), .val (.int (1 : Int32))] [])) _
      refine XS.aloadN X27.here hx rfl (hb hby at_87) rfl rfl ?_
      show Steps p.tables e below (T27.setTop (mkF m 88 #[.val (.int p1), .val (.ref b1), .val (.int (3 : Int32)), .val (.int (1 : Int32))] [(.ref b1)])) _
      refine XS.iloadN X27.here hx rfl (hb hby at_88) rfl ?_
      show Steps p.tables e below (T27.setTop (mkF m 89 #[.val (.int p1), .val (.ref b1), .val (.int (3 : Int32)), .val (.int (1 : Int32))] [(.int (3 : Int32)), (.ref b1)])) _
      refine X27.aaload hx (j := (3 : Int32)) (v := (.ref w_COUNTDOWN)) (by rw [e27]; exact Ar46.1) (State.isArrayOf_alike hZ.alike Ar46.2.1) rfl Ar46.2.2 hin46 hat46 (g := (mkF m 89 #[.val (.int p1), .val (.ref b1), .val (.int (3 : Int32)), .val (.int (1 : Int32))] [(.int (3 : Int32)), (.ref b1)])) rfl rfl (hb hby at_89) _ ?_
      show Steps p.tables e below (T27.setTop (mkF m 90 #[.val (.int p1), .val (.ref b1), .val (.int (3 : Int32)), .val (.int (1 : Int32))] [(.ref w_COUNTDOWN)])) _
      refine st48.trans ?_
      show Steps p.tables e below (T48.setTop (mkF m 93 #[.val (.int p1), .val (.ref b1), .val (.int (3 : Int32)), .val (.int (1 : Int32))] [(.int (1 : Int32))])) _
      refine XS.iloadN X48.here hx rfl (hb hby at_93) rfl ?_
      show Steps p.tables e below (T48.setTop (mkF m 94 #[.val (.int p1), .val (.ref b1), .val (.int (3 : Int32)), .val (.int (1 : Int32))] [(.int (1 : Int32)), (.int (1 : Int32))])) _
      refine XS.icmpNo X48.here hx rfl (hb hby at_94) rfl (teq (rfl : (1 : Int32) = (1 : Int32))).2 ?_
      show Steps p.tables e below (T48.setTop (mkF m 97 #[.val (.int p1), .val (.ref b1), .val (.int (3 : Int32)), .val (.int (1 : Int32))] [])) _
      refine XT.iconstV X48.here hx rfl (1 : Int32) (hb hby at_97) (by decide) ?_
      show Steps p.tables e below (T48.setTop (mkF m 98 #[.val (.int p1), .val (.ref b1), .val (.int (3 : Int32)), .val (.int (1 : Int32))] [(.int (1 : Int32))])) _
      refine XS.goto X48.here hx rfl (pc0 := 98) (pc' := 102) rfl (hb hby at_98) (by decide) (by decide) ?_
      show Steps p.tables e below (T48.setTop (mkF m 102 #[.val (.int p1), .val (.ref b1), .val (.int (3 : Int32)), .val (.int (1 : Int32))] [(.int (1 : Int32))])) _
      exact retN X48 hx (t := .boolean) Bd.returns (by simp) (hb hby at_102) hr50
    · show Q0 Z _ _ _ _ _ _ _ _ _ _ h0 n0 _ T48.heap _
      rw [e48]
      exact ⟨rfl, N48⟩
  ·
    rw [hv30] at pre29
    obtain ⟨cl51, Ar51, q51, S51, M51, H51, G51⟩ := V28
    have hin51 : ¬ ((4 : Int32) < 0 ∨ cl51.slots.size ≤ ((4 : Int32)).toNatClampNeg) := inb_of S51 ⟨by decide, by decide⟩
    have hat51 : cl51.slots[((4 : Int32)).toNatClampNeg]? = some (.ref w_PLAYING) := H51.at hin51 rfl
    have V52 : Arv Z h27 b1 k1 (.object "com/example/paddlewick/paddlewick/engine/Screen") (9 : Int32) [(.ref w_MENU), (.ref w_LEVEL_SETS), (.ref w_HIGH_SCORES), (.ref w_COUNTDOWN), (.ref w_PLAYING), (.ref w_PAUSED), (.ref w_GAME_OVER), (.ref w_YOU_WIN), (.ref w_NAME_ENTRY)] .null := ⟨cl51, Ar51, q51, S51, M51, H51, G51⟩
    obtain ⟨cq54, kq54, q54a, q54b, q54c⟩ := isOf hZ e27 (Exa.keep E_PLAYING K27)
    obtain ⟨_, _, ⟨T53, L53, k53, n53⟩, -, X53, ⟨Lc53, hQ53, l53, y53, z53⟩, st53⟩ := X27.virtualBack hx (y := (⟨"com/example/paddlewick/paddlewick/engine/Screen", "showsLevel", "()Z"⟩ : MethodName)) (z := (⟨"com/example/paddlewick/paddlewick/engine/Screen", "showsLevel", "()Z"⟩ : MethodName)) hown (mvT hZ (hw _ (List.mem_of_getElem? (i := 23) rfl))) (mvT hZ (hw _ (List.mem_of_getElem? (i := 24) rfl))) (notFace_of_selects (args := #[]) (mvT hZ (hw _ (List.mem_of_getElem? (i := 26) rfl)))) (mvT hZ (hw _ (List.mem_of_getElem? (i := 26) rfl))) (mvT hZ (hw _ (List.mem_of_getElem? (i := 25) rfl))) (by decide) (backOf (W := 0) (rm1 l Z a0 hw [] w_PLAYING w_COUNTDOWN w_PLAYING w_PAUSED (1 : Int32) h27 n0 (Sta.wr W27 (Sta.wr W24 (Sta.wr W21 (Sta.wr W18 (Sta.wr W15 (Sta.wr W12 (Sta.wr W9 (Sta.wr W6 (Sta.wr W3 (Sta.ext E1 S_COUNTDOWN)))))))))) (Sta.wr W27 (Sta.wr W24 (Sta.wr W21 (Sta.wr W18 (Sta.wr W15 (Sta.wr W12 (Sta.wr W9 (Sta.wr W6 (Sta.wr W3 (Sta.ext E1 S_PLAYING)))))))))) (Sta.wr W27 (Sta.wr W24 (Sta.wr W21 (Sta.wr W18 (Sta.wr W15 (Sta.wr W12 (Sta.wr W9 (Sta.wr W6 (Sta.wr W3 (Sta.ext E1 S_PAUSED)))))))))) (by unfold own_shows; rw [if_neg ((Fld.ne O_PLAYING O_COUNTDOWN (fun q => absurd (Value.int.inj q) (by decide))) : ¬ (w_PLAYING = w_COUNTDOWN)), if_pos (rfl : w_PLAYING = w_PLAYING)])) hZ (hw _ (List.mem_of_getElem? (i := 27) rfl)) (hw _ (List.mem_of_getElem? (i := 3) rfl)) (by decide) (by decide)) q54a q54c (g := (mkF m 90 #[.val (.int p1), .val (.ref b1), .val (.int (4 : Int32)), .val (.int (1 : Int32))] [(.ref w_PLAYING)])) rfl (by rw [hml]; rfl) (Steps.refl _) (argsL := []) (rest := []) (lenOf (show parseMethodDescriptor "()Z" = some ⟨[], some .boolean⟩ by decide +kernel) rfl) rfl (by show 2 * 0 + _ ≤ _; exact Nat.le_of_eq rfl) (hb hby at_90) (fun _ _ => ⟨rfl, e27, (by decide : 1 + 0 ≤ _), (by decide : 9 + 0 ≤ _)⟩)
    dsimp only [Pt.U, Pt.locs, Pt.cells, Pt.slots] at X53 l53 y53 z53 st53 hQ53
    subst l53 y53 z53
    obtain ⟨rfl, Nq53, e53⟩ := hQ53
    have N53 := Fr.app N27 Nq53
    obtain ⟨fs, hr55, hrun, hended, hW, hsame⟩ := X53.leave (v := some (.int (1 : Int32))) (fun h => by rw [Bd.returns] at h; cases h)
    refine ⟨_, _, pre29 _ ?_, hrun, hended, _, _, rfl, ?_, ⟨_, rfl⟩, hW, hsame.mono (by decide) (by decide)⟩
    · show Steps p.tables e below (T27.setTop (mkF m 71 #[.val (.int p1), .val (.ref b1), .val (.int (4 : Int32)), .unset] [])) _
      refine XS.iloadN X27.here hx rfl (hb hby at_71) rfl ?_
      show Steps p.tables e below (T27.setTop (mkF m 72 #[.val (.int p1), .val (.ref b1), .val (.int (4 : Int32)), .unset] [(.int (4 : Int32))])) _
      refine XT.iconstV X27.here hx rfl (3 : Int32) (hb hby at_72) (by decide) ?_
      show Steps p.tables e below (T27.setTop (mkF m 73 #[.val (.int p1), .val (.ref b1), .val (.int (4 : Int32)), .unset] [(.int (3 : Int32)), (.int (4 : Int32))])) _
      refine XS.icmpNo X27.here hx rfl (hb hby at_73) rfl (flt ((by decide) : ¬ ((4 : Int32) < (3 : Int32)))).1 ?_
      show Steps p.tables e below (T27.setTop (mkF m 76 #[.val (.int p1), .val (.ref b1), .val (.int (4 : Int32)), .unset] [])) _
      refine XS.iloadN X27.here hx rfl (hb hby at_76) rfl ?_
      show Steps p.tables e below (T27.setTop (mkF m 77 #[.val (.int p1), .val (.ref b1), .val (.int (4 : Int32)), .unset] [(.int (4 : Int32))])) _
      refine XT.iconstV X27.here hx rfl (5 : Int32) (hb hby at_77) (by decide) ?_
      show Steps p.tables e below (T27.setTop (mkF m 78 #[.val (.int p1), .val (.ref b1), .val (.int (4 : Int32)), .unset] [(.int (5 : Int32)), (.int (4 : Int32))])) _
      refine XS.icmpNo X27.here hx rfl (hb hby at_78) rfl (flt ((by decide) : ¬ ((5 : Int32) < (4 : Int32)))).2.2.1 ?_
      show Steps p.tables e below (T27.setTop (mkF m 81 #[.val (.int p1), .val (.ref b1), .val (.int (4 : Int32)), .unset] [])) _
      refine XT.iconstV X27.here hx rfl (1 : Int32) (hb hby at_81) (by decide) ?_
      show Steps p.tables e below (T27.setTop (mkF m 82 #[.val (.int p1), .val (.ref b1), .val (.int (4 : Int32)), .unset] [(.int (1 : Int32))])) _
      refine XS.goto X27.here hx rfl (pc0 := 82) (pc' := 86) rfl (hb hby at_82) (by decide) (by decide) ?_
      show Steps p.tables e below (T27.setTop (mkF m 86 #[.val (.int p1), .val (.ref b1), .val (.int (4 : Int32)), .unset] [(.int (1 : Int32))])) _
      refine XS.istoreN X27.here hx rfl (hb hby at_86) rfl (l' := #[.val (.int p1), .val (.ref b1), .val (.int (4 : Int32)), .val (.int (1 : Int32))]) rfl ?_
      show Steps p.tables e below (T27.setTop (mkF m 87 #[.val (.int p1), .val (.ref b1), .val (.int (4 : Int32)), .val (.int (1 : Int32))] [])) _
      refine XS.aloadN X27.here hx rfl (hb hby at_87) rfl rfl ?_
      show Steps p.tables e below (T27.setTop (mkF m 88 #[.val (.int p1), .val (.ref b1), .val (.int (4 : Int32)), .val (.int (1 : Int32))] [(.ref b1)])) _
      refine XS.iloadN X27.here hx rfl (hb hby at_88) rfl ?_
      show Steps p.tables e below (T27.setTop (mkF m 89 #[.val (.int p1), .val (.ref b1), .val (.int (4 : Int32)), .val (.int (1 : Int32))] [(.int (4 : Int32)), (.ref b1)])) _
      refine X27.aaload hx (j := (4 : Int32)) (v := (.ref w_PLAYING)) (by rw [e27]; exact Ar51.1) (State.isArrayOf_alike hZ.alike Ar51.2.1) rfl Ar51.2.2 hin51 hat51 (g := (mkF m 89 #[.val (.int p1), .val (.ref b1), .val (.int (4 : Int32)), .val (.int (1 : Int32))] [(.int (4 : Int32)), (.ref b1)])) rfl rfl (hb hby at_89) _ ?_
      show Steps p.tables e below (T27.setTop (mkF m 90 #[.val (.int p1), .val (.ref b1), .val (.int (4 : Int32)), .val (.int (1 : Int32))] [(.ref w_PLAYING)])) _
      refine st53.trans ?_
      show Steps p.tables e below (T53.setTop (mkF m 93 #[.val (.int p1), .val (.ref b1), .val (.int (4 : Int32)), .val (.int (1 : Int32))] [(.int (1 : Int32))])) _
      refine XS.iloadN X53.here hx rfl (hb hby at_93) rfl ?_
      show Steps p.tables e below (T53.setTop (mkF m 94 #[.val (.int p1), .val (.ref b1), .val (.int (4 : Int32)), .val (.int (1 : Int32))] [(.int (1 : Int32)), (.int (1 : Int32))])) _
      refine XS.icmpNo X53.here hx rfl (hb hby at_94) rfl (teq (rfl : (1 : Int32) = (1 : Int32))).2 ?_
      show Steps p.tables e below (T53.setTop (mkF m 97 #[.val (.int p1), .val (.ref b1), .val (.int (4 : Int32)), .val (.int (1 : Int32))] [])) _
      refine XT.iconstV X53.here hx rfl (1 : Int32) (hb hby at_97) (by decide) ?_
      show Steps p.tables e below (T53.setTop (mkF m 98 #[.val (.int p1), .val (.ref b1), .val (.int (4 : Int32)), .val (.int (1 : Int32))] [(.int (1 : Int32))])) _
      refine XS.goto X53.here hx rfl (pc0 := 98) (pc' := 102) rfl (hb hby at_98) (by decide) (by decide) ?_
      show Steps p.tables e below (T53.setTop (mkF m 102 #[.val (.int p1), .val (.ref b1), .val (.int (4 : Int32)), .val (.int (1 : Int32))] [(.int (1 : Int32))])) _
      exact retN X53 hx (t := .boolean) Bd.returns (by simp) (hb hby at_102) hr55
    · show Q0 Z _ _ _ _ _ _ _ _ _ _ h0 n0 _ T53.heap _
      rw [e53]
      exact ⟨rfl, N53⟩
  ·
    rw [hv30] at pre29
    obtain ⟨cl56, Ar56, q56, S56, M56, H56, G56⟩ := V28
    have hin56 : ¬ ((5 : Int32) < 0 ∨ cl56.slots.size ≤ ((5 : Int32)).toNatClampNeg) := inb_of S56 ⟨by decide, by decide⟩
    have hat56 : cl56.slots[((5 : Int32)).toNatClampNeg]? = some (.ref w_PAUSED) := H56.at hin56 rfl
    have V57 : Arv Z h27 b1 k1 (.object "com/example/paddlewick/paddlewick/engine/Screen") (9 : Int32) [(.ref w_MENU), (.ref w_LEVEL_SETS), (.ref w_HIGH_SCORES), (.ref w_COUNTDOWN), (.ref w_PLAYING), (.ref w_PAUSED), (.ref w_GAME_OVER), (.ref w_YOU_WIN), (.ref w_NAME_ENTRY)] .null := ⟨cl56, Ar56, q56, S56, M56, H56, G56⟩
    obtain ⟨cq59, kq59, q59a, q59b, q59c⟩ := isOf hZ e27 (Exa.keep E_PAUSED K27)
    obtain ⟨_, _, ⟨T58, L58, k58, n58⟩, -, X58, ⟨Lc58, hQ58, l58, y58, z58⟩, st58⟩ := X27.virtualBack hx (y := (⟨"com/example/paddlewick/paddlewick/engine/Screen", "showsLevel", "()Z"⟩ : MethodName)) (z := (⟨"com/example/paddlewick/paddlewick/engine/Screen", "showsLevel", "()Z"⟩ : MethodName)) hown (mvT hZ (hw _ (List.mem_of_getElem? (i := 23) rfl))) (mvT hZ (hw _ (List.mem_of_getElem? (i := 24) rfl))) (notFace_of_selects (args := #[]) (mvT hZ (hw _ (List.mem_of_getElem? (i := 26) rfl)))) (mvT hZ (hw _ (List.mem_of_getElem? (i := 26) rfl))) (mvT hZ (hw _ (List.mem_of_getElem? (i := 25) rfl))) (by decide) (backOf (W := 0) (rm1 l Z a0 hw [] w_PAUSED w_COUNTDOWN w_PLAYING w_PAUSED (1 : Int32) h27 n0 (Sta.wr W27 (Sta.wr W24 (Sta.wr W21 (Sta.wr W18 (Sta.wr W15 (Sta.wr W12 (Sta.wr W9 (Sta.wr W6 (Sta.wr W3 (Sta.ext E1 S_COUNTDOWN)))))))))) (Sta.wr W27 (Sta.wr W24 (Sta.wr W21 (Sta.wr W18 (Sta.wr W15 (Sta.wr W12 (Sta.wr W9 (Sta.wr W6 (Sta.wr W3 (Sta.ext E1 S_PLAYING)))))))))) (Sta.wr W27 (Sta.wr W24 (Sta.wr W21 (Sta.wr W18 (Sta.wr W15 (Sta.wr W12 (Sta.wr W9 (Sta.wr W6 (Sta.wr W3 (Sta.ext E1 S_PAUSED)))))))))) (by unfold own_shows; rw [if_neg ((Fld.ne O_PAUSED O_COUNTDOWN (fun q => absurd (Value.int.inj q) (by decide))) : ¬ (w_PAUSED = w_COUNTDOWN)), if_neg ((Fld.ne O_PAUSED O_PLAYING (fun q => absurd (Value.int.inj q) (by decide))) : ¬ (w_PAUSED = w_PLAYING)), if_pos (rfl : w_PAUSED = w_PAUSED)])) hZ (hw _ (List.mem_of_getElem? (i := 27) rfl)) (hw _ (List.mem_of_getElem? (i := 3) rfl)) (by decide) (by decide)) q59a q59c (g := (mkF m 90 #[.val (.int p1), .val (.ref b1), .val (.int (5 : Int32)), .val (.int (1 : Int32))] [(.ref w_PAUSED)])) rfl (by rw [hml]; rfl) (Steps.refl _) (argsL := []) (rest := []) (lenOf (show parseMethodDescriptor "()Z" = some ⟨[], some .boolean⟩ by decide +kernel) rfl) rfl (by show 2 * 0 + _ ≤ _; exact Nat.le_of_eq rfl) (hb hby at_90) (fun _ _ => ⟨rfl, e27, (by decide : 1 + 0 ≤ _), (by decide : 9 + 0 ≤ _)⟩)
    dsimp only [Pt.U, Pt.locs, Pt.cells, Pt.slots] at X58 l58 y58 z58 st58 hQ58
    subst l58 y58 z58
    obtain ⟨rfl, Nq58, e58⟩ := hQ58
    have N58 := Fr.app N27 Nq58
    obtain ⟨fs, hr60, hrun, hended, hW, hsame⟩ := X58.leave (v := some (.int (1 : Int32))) (fun h => by rw [Bd.returns] at h; cases h)
    refine ⟨_, _, pre29 _ ?_, hrun, hended, _, _, rfl, ?_, ⟨_, rfl⟩, hW, hsame.mono (by decide) (by decide)⟩
    · show Steps p.tables e below (T27.setTop (mkF m 71 #[.val (.int p1), .val (.ref b1), .val (.int (5 : Int32)), .unset] [])) _
      refine XS.iloadN X27.here hx rfl (hb hby at_71) rfl ?_
      show Steps p.tables e below (T27.setTop (mkF m 72 #[.val (.int p1), .val (.ref b1), .val (.int (5 : Int32)), .unset] [(.int (5 : Int32))])) _
      refine XT.iconstV X27.here hx rfl (3 : Int32) (hb hby at_72) (by decide) ?_
      show Steps p.tables e below (T27.setTop (mkF m 73 #[.val (.int p1), .val (.ref b1), .val (.int (5 : Int32)), .unset] [(.int (3 : Int32)), (.int (5 : Int32))])) _
      refine XS.icmpNo X27.here hx rfl (hb hby at_73) rfl (flt ((by decide) : ¬ ((5 : Int32) < (3 : Int32)))).1 ?_
      show Steps p.tables e below (T27.setTop (mkF m 76 #[.val (.int p1), .val (.ref b1), .val (.int (5 : Int32)), .unset] [])) _
      refine XS.iloadN X27.here hx rfl (hb hby at_76) rfl ?_
      show Steps p.tables e below (T27.setTop (mkF m 77 #[.val (.int p1), .val (.ref b1), .val (.int (5 : Int32)), .unset] [(.int (5 : Int32))])) _
      refine XT.iconstV X27.here hx rfl (5 : Int32) (hb hby at_77) (by decide) ?_
      show Steps p.tables e below (T27.setTop (mkF m 78 #[.val (.int p1), .val (.ref b1), .val (.int (5 : Int32)), .unset] [(.int (5 : Int32)), (.int (5 : Int32))])) _
      refine XS.icmpNo X27.here hx rfl (hb hby at_78) rfl (flt ((by decide) : ¬ ((5 : Int32) < (5 : Int32)))).2.2.1 ?_
      show Steps p.tables e below (T27.setTop (mkF m 81 #[.val (.int p1), .val (.ref b1), .val (.int (5 : Int32)), .unset] [])) _
      refine XT.iconstV X27.here hx rfl (1 : Int32) (hb hby at_81) (by decide) ?_
      show Steps p.tables e below (T27.setTop (mkF m 82 #[.val (.int p1), .val (.ref b1), .val (.int (5 : Int32)), .unset] [(.int (1 : Int32))])) _
      refine XS.goto X27.here hx rfl (pc0 := 82) (pc' := 86) rfl (hb hby at_82) (by decide) (by decide) ?_
      show Steps p.tables e below (T27.setTop (mkF m 86 #[.val (.int p1), .val (.ref b1), .val (.int (5 : Int32)), .unset] [(.int (1 : Int32))])) _
      refine XS.istoreN X27.here hx rfl (hb hby at_86) rfl (l' := #[.val (.int p1), .val (.ref b1), .val (.int (5 : Int32)), .val (.int (1 : Int32))]) rfl ?_
      show Steps p.tables e below (T27.setTop (mkF m 87 #[.val (.int p1), .val (.ref b1), .val (.int (5 : Int32)), .val (.int (1 : Int32))] [])) _
      refine XS.aloadN X27.here hx rfl (hb hby at_87) rfl rfl ?_
      show Steps p.tables e below (T27.setTop (mkF m 88 #[.val (.int p1), .val (.ref b1), .val (.int (5 : Int32)), .val (.int (1 : Int32))] [(.ref b1)])) _
      refine XS.iloadN X27.here hx rfl (hb hby at_88) rfl ?_
      show Steps p.tables e below (T27.setTop (mkF m 89 #[.val (.int p1), .val (.ref b1), .val (.int (5 : Int32)), .val (.int (1 : Int32))] [(.int (5 : Int32)), (.ref b1)])) _
      refine X27.aaload hx (j := (5 : Int32)) (v := (.ref w_PAUSED)) (by rw [e27]; exact Ar56.1) (State.isArrayOf_alike hZ.alike Ar56.2.1) rfl Ar56.2.2 hin56 hat56 (g := (mkF m 89 #[.val (.int p1), .val (.ref b1), .val (.int (5 : Int32)), .val (.int (1 : Int32))] [(.int (5 : Int32)), (.ref b1)])) rfl rfl (hb hby at_89) _ ?_
      show Steps p.tables e below (T27.setTop (mkF m 90 #[.val (.int p1), .val (.ref b1), .val (.int (5 : Int32)), .val (.int (1 : Int32))] [(.ref w_PAUSED)])) _
      refine st58.trans ?_
      show Steps p.tables e below (T58.setTop (mkF m 93 #[.val (.int p1), .val (.ref b1), .val (.int (5 : Int32)), .val (.int (1 : Int32))] [(.int (1 : Int32))])) _
      refine XS.iloadN X58.here hx rfl (hb hby at_93) rfl ?_
      show Steps p.tables e below (T58.setTop (mkF m 94 #[.val (.int p1), .val (.ref b1), .val (.int (5 : Int32)), .val (.int (1 : Int32))] [(.int (1 : Int32)), (.int (1 : Int32))])) _
      refine XS.icmpNo X58.here hx rfl (hb hby at_94) rfl (teq (rfl : (1 : Int32) = (1 : Int32))).2 ?_
      show Steps p.tables e below (T58.setTop (mkF m 97 #[.val (.int p1), .val (.ref b1), .val (.int (5 : Int32)), .val (.int (1 : Int32))] [])) _
      refine XT.iconstV X58.here hx rfl (1 : Int32) (hb hby at_97) (by decide) ?_
      show Steps p.tables e below (T58.setTop (mkF m 98 #[.val (.int p1), .val (.ref b1), .val (.int (5 : Int32)), .val (.int (1 : Int32))] [(.int (1 : Int32))])) _
      refine XS.goto X58.here hx rfl (pc0 := 98) (pc' := 102) rfl (hb hby at_98) (by decide) (by decide) ?_
      show Steps p.tables e below (T58.setTop (mkF m 102 #[.val (.int p1), .val (.ref b1), .val (.int (5 : Int32)), .val (.int (1 : Int32))] [(.int (1 : Int32))])) _
      exact retN X58 hx (t := .boolean) Bd.returns (by simp) (hb hby at_102) hr60
    · show Q0 Z _ _ _ _ _ _ _ _ _ _ h0 n0 _ T58.heap _
      rw [e58]
      exact ⟨rfl, N58⟩
  ·
    rw [hv30] at pre29
    obtain ⟨cl61, Ar61, q61, S61, M61, H61, G61⟩ := V28
    have hin61 : ¬ ((6 : Int32) < 0 ∨ cl61.slots.size ≤ ((6 : Int32)).toNatClampNeg) := inb_of S61 ⟨by decide, by decide⟩
    have hat61 : cl61.slots[((6 : Int32)).toNatClampNeg]? = some (.ref w_GAME_OVER) := H61.at hin61 rfl
    have V62 : Arv Z h27 b1 k1 (.object "com/example/paddlewick/paddlewick/engine/Screen") (9 : Int32) [(.ref w_MENU), (.ref w_LEVEL_SETS), (.ref w_HIGH_SCORES), (.ref w_COUNTDOWN), (.ref w_PLAYING), (.ref w_PAUSED), (.ref w_GAME_OVER), (.ref w_YOU_WIN), (.ref w_NAME_ENTRY)] .null := ⟨cl61, Ar61, q61, S61, M61, H61, G61⟩
    obtain ⟨cq64, kq64, q64a, q64b, q64c⟩ := isOf hZ e27 (Exa.keep E_GAME_OVER K27)
    obtain ⟨_, _, ⟨T63, L63, k63, n63⟩, -, X63, ⟨Lc63, hQ63, l63, y63, z63⟩, st63⟩ := X27.virtualBack hx (y := (⟨"com/example/paddlewick/paddlewick/engine/Screen", "showsLevel", "()Z"⟩ : MethodName)) (z := (⟨"com/example/paddlewick/paddlewick/engine/Screen", "showsLevel", "()Z"⟩ : MethodName)) hown (mvT hZ (hw _ (List.mem_of_getElem? (i := 23) rfl))) (mvT hZ (hw _ (List.mem_of_getElem? (i := 24) rfl))) (notFace_of_selects (args := #[]) (mvT hZ (hw _ (List.mem_of_getElem? (i := 26) rfl)))) (mvT hZ (hw _ (List.mem_of_getElem? (i := 26) rfl))) (mvT hZ (hw _ (List.mem_of_getElem? (i := 25) rfl))) (by decide) (backOf (W := 0) (rm1 l Z a0 hw [] w_GAME_OVER w_COUNTDOWN w_PLAYING w_PAUSED (0 : Int32) h27 n0 (Sta.wr W27 (Sta.wr W24 (Sta.wr W21 (Sta.wr W18 (Sta.wr W15 (Sta.wr W12 (Sta.wr W9 (Sta.wr W6 (Sta.wr W3 (Sta.ext E1 S_COUNTDOWN)))))))))) (Sta.wr W27 (Sta.wr W24 (Sta.wr W21 (Sta.wr W18 (Sta.wr W15 (Sta.wr W12 (Sta.wr W9 (Sta.wr W6 (Sta.wr W3 (Sta.ext E1 S_PLAYING)))))))))) (Sta.wr W27 (Sta.wr W24 (Sta.wr W21 (Sta.wr W18 (Sta.wr W15 (Sta.wr W12 (Sta.wr W9 (Sta.wr W6 (Sta.wr W3 (Sta.ext E1 S_PAUSED)))))))))) (by unfold own_shows; rw [if_neg ((Fld.ne O_GAME_OVER O_COUNTDOWN (fun q => absurd (Value.int.inj q) (by decide))) : ¬ (w_GAME_OVER = w_COUNTDOWN)), if_neg ((Fld.ne O_GAME_OVER O_PLAYING (fun q => absurd (Value.int.inj q) (by decide))) : ¬ (w_GAME_OVER = w_PLAYING)), if_neg ((Fld.ne O_GAME_OVER O_PAUSED (fun q => absurd (Value.int.inj q) (by decide))) : ¬ (w_GAME_OVER = w_PAUSED))])) hZ (hw _ (List.mem_of_getElem? (i := 27) rfl)) (hw _ (List.mem_of_getElem? (i := 3) rfl)) (by decide) (by decide)) q64a q64c (g := (mkF m 90 #[.val (.int p1), .val (.ref b1), .val (.int (6 : Int32)), .val (.int (0 : Int32))] [(.ref w_GAME_OVER)])) rfl (by rw [hml]; rfl) (Steps.refl _) (argsL := []) (rest := []) (lenOf (show parseMethodDescriptor "()Z" = some ⟨[], some .boolean⟩ by decide +kernel) rfl) rfl (by show 2 * 0 + _ ≤ _; exact Nat.le_of_eq rfl) (hb hby at_90) (fun _ _ => ⟨rfl, e27, (by decide : 1 + 0 ≤ _), (by decide : 9 + 0 ≤ _)⟩)
    dsimp only [Pt.U, Pt.locs, Pt.cells, Pt.slots] at X63 l63 y63 z63 st63 hQ63
    subst l63 y63 z63
    obtain ⟨rfl, Nq63, e63⟩ := hQ63
    have N63 := Fr.app N27 Nq63
    obtain ⟨fs, hr65, hrun, hended, hW, hsame⟩ := X63.leave (v := some (.int (1 : Int32))) (fun h => by rw [Bd.returns] at h; cases h)
    refine ⟨_, _, pre29 _ ?_, hrun, hended, _, _, rfl, ?_, ⟨_, rfl⟩, hW, hsame.mono (by decide) (by decide)⟩
    · show Steps p.tables e below (T27.setTop (mkF m 71 #[.val (.int p1), .val (.ref b1), .val (.int (6 : Int32)), .unset] [])) _
      refine XS.iloadN X27.here hx rfl (hb hby at_71) rfl ?_
      show Steps p.tables e below (T27.setTop (mkF m 72 #[.val (.int p1), .val (.ref b1), .val (.int (6 : Int32)), .unset] [(.int (6 : Int32))])) _
      refine XT.iconstV X27.here hx rfl (3 : Int32) (hb hby at_72) (by decide) ?_
      show Steps p.tables e below (T27.setTop (mkF m 73 #[.val (.int p1), .val (.ref b1), .val (.int (6 : Int32)), .unset] [(.int (3 : Int32)), (.int (6 : Int32))])) _
      refine XS.icmpNo X27.here hx rfl (hb hby at_73) rfl (flt ((by decide) : ¬ ((6 : Int32) < (3 : Int32)))).1 ?_
      show Steps p.tables e below (T27.setTop (mkF m 76 #[.val (.int p1), .val (.ref b1), .val (.int (6 : Int32)), .unset] [])) _
      refine XS.iloadN X27.here hx rfl (hb hby at_76) rfl ?_
      show Steps p.tables e below (T27.setTop (mkF m 77 #[.val (.int p1), .val (.ref b1), .val (.int (6 : Int32)), .unset] [(.int (6 : Int32))])) _
      refine XT.iconstV X27.here hx rfl (5 : Int32) (hb hby at_77) (by decide) ?_
      show Steps p.tables e below (T27.setTop (mkF m 78 #[.val (.int p1), .val (.ref b1), .val (.int (6 : Int32)), .unset] [(.int (5 : Int32)), (.int (6 : Int32))])) _
      refine XS.icmpYes X27.here hx rfl (pc0 := 78) (pc' := 85) rfl (hb hby at_78) rfl (tlt ((by decide) : (5 : Int32) < (6 : Int32))).2.2.1 (by decide) (by decide) ?_
      show Steps p.tables e below (T27.setTop (mkF m 85 #[.val (.int p1), .val (.ref b1), .val (.int (6 : Int32)), .unset] [])) _
      refine XT.iconstV X27.here hx rfl (0 : Int32) (hb hby at_85) (by decide) ?_
      show Steps p.tables e below (T27.setTop (mkF m 86 #[.val (.int p1), .val (.ref b1), .val (.int (6 : Int32)), .unset] [(.int (0 : Int32))])) _
      refine XS.istoreN X27.here hx rfl (hb hby at_86) rfl (l' := #[.val (.int p1), .val (.ref b1), .val (.int (6 : Int32)), .val (.int (0 : Int32))]) rfl ?_
      show Steps p.tables e below (T27.setTop (mkF m 87 #[.val (.int p1), .val (.ref b1), .val (.int (6 : Int32)), .val (.int (0 : Int32))] [])) _
      refine XS.aloadN X27.here hx rfl (hb hby at_87) rfl rfl ?_
      show Steps p.tables e below (T27.setTop (mkF m 88 #[.val (.int p1), .val (.ref b1), .val (.int (6 : Int32)), .val (.int (0 : Int32))] [(.ref b1)])) _
      refine XS.iloadN X27.here hx rfl (hb hby at_88) rfl ?_
      show Steps p.tables e below (T27.setTop (mkF m 89 #[.val (.int p1), .val (.ref b1), .val (.int (6 : Int32)), .val (.int (0 : Int32))] [(.int (6 : Int32)), (.ref b1)])) _
      refine X27.aaload hx (j := (6 : Int32)) (v := (.ref w_GAME_OVER)) (by rw [e27]; exact Ar61.1) (State.isArrayOf_alike hZ.alike Ar61.2.1) rfl Ar61.2.2 hin61 hat61 (g := (mkF m 89 #[.val (.int p1), .val (.ref b1), .val (.int (6 : Int32)), .val (.int (0 : Int32))] [(.int (6 : Int32)), (.ref b1)])) rfl rfl (hb hby at_89) _ ?_
      show Steps p.tables e below (T27.setTop (mkF m 90 #[.val (.int p1), .val (.ref b1), .val (.int (6 : Int32)), .val (.int (0 : Int32))] [(.ref w_GAME_OVER)])) _
      refine st63.trans ?_
      show Steps p.tables e below (T63.setTop (mkF m 93 #[.val (.int p1), .val (.ref b1), .val (.int (6 : Int32)), .val (.int (0 : Int32))] [(.int (0 : Int32))])) _
      refine XS.iloadN X63.here hx rfl (hb hby at_93) rfl ?_
      show Steps p.tables e below (T63.setTop (mkF m 94 #[.val (.int p1), .val (.ref b1), .val (.int (6 : Int32)), .val (.int (0 : Int32))] [(.int (0 : Int32)), (.int (0 : Int32))])) _
      refine XS.icmpNo X63.here hx rfl (hb hby at_94) rfl (teq (rfl : (0 : Int32) = (0 : Int32))).2 ?_
      show Steps p.tables e below (T63.setTop (mkF m 97 #[.val (.int p1), .val (.ref b1), .val (.int (6 : Int32)), .val (.int (0 : Int32))] [])) _
      refine XT.iconstV X63.here hx rfl (1 : Int32) (hb hby at_97) (by decide) ?_
      show Steps p.tables e below (T63.setTop (mkF m 98 #[.val (.int p1), .val (.ref b1), .val (.int (6 : Int32)), .val (.int (0 : Int32))] [(.int (1 : Int32))])) _
      refine XS.goto X63.here hx rfl (pc0 := 98) (pc' := 102) rfl (hb hby at_98) (by decide) (by decide) ?_
      show Steps p.tables e below (T63.setTop (mkF m 102 #[.val (.int p1), .val (.ref b1), .val (.int (6 : Int32)), .val (.int (0 : Int32))] [(.int (1 : Int32))])) _
      exact retN X63 hx (t := .boolean) Bd.returns (by simp) (hb hby at_102) hr65
    · show Q0 Z _ _ _ _ _ _ _ _ _ _ h0 n0 _ T63.heap _
      rw [e63]
      exact ⟨rfl, N63⟩
  ·
    rw [hv30] at pre29
    obtain ⟨cl66, Ar66, q66, S66, M66, H66, G66⟩ := V28
    have hin66 : ¬ ((7 : Int32) < 0 ∨ cl66.slots.size ≤ ((7 : Int32)).toNatClampNeg) := inb_of S66 ⟨by decide, by decide⟩
    have hat66 : cl66.slots[((7 : Int32)).toNatClampNeg]? = some (.ref w_YOU_WIN) := H66.at hin66 rfl
    have V67 : Arv Z h27 b1 k1 (.object "com/example/paddlewick/paddlewick/engine/Screen") (9 : Int32) [(.ref w_MENU), (.ref w_LEVEL_SETS), (.ref w_HIGH_SCORES), (.ref w_COUNTDOWN), (.ref w_PLAYING), (.ref w_PAUSED), (.ref w_GAME_OVER), (.ref w_YOU_WIN), (.ref w_NAME_ENTRY)] .null := ⟨cl66, Ar66, q66, S66, M66, H66, G66⟩
    obtain ⟨cq69, kq69, q69a, q69b, q69c⟩ := isOf hZ e27 (Exa.keep E_YOU_WIN K27)
    obtain ⟨_, _, ⟨T68, L68, k68, n68⟩, -, X68, ⟨Lc68, hQ68, l68, y68, z68⟩, st68⟩ := X27.virtualBack hx (y := (⟨"com/example/paddlewick/paddlewick/engine/Screen", "showsLevel", "()Z"⟩ : MethodName)) (z := (⟨"com/example/paddlewick/paddlewick/engine/Screen", "showsLevel", "()Z"⟩ : MethodName)) hown (mvT hZ (hw _ (List.mem_of_getElem? (i := 23) rfl))) (mvT hZ (hw _ (List.mem_of_getElem? (i := 24) rfl))) (notFace_of_selects (args := #[]) (mvT hZ (hw _ (List.mem_of_getElem? (i := 26) rfl)))) (mvT hZ (hw _ (List.mem_of_getElem? (i := 26) rfl))) (mvT hZ (hw _ (List.mem_of_getElem? (i := 25) rfl))) (by decide) (backOf (W := 0) (rm1 l Z a0 hw [] w_YOU_WIN w_COUNTDOWN w_PLAYING w_PAUSED (0 : Int32) h27 n0 (Sta.wr W27 (Sta.wr W24 (Sta.wr W21 (Sta.wr W18 (Sta.wr W15 (Sta.wr W12 (Sta.wr W9 (Sta.wr W6 (Sta.wr W3 (Sta.ext E1 S_COUNTDOWN)))))))))) (Sta.wr W27 (Sta.wr W24 (Sta.wr W21 (Sta.wr W18 (Sta.wr W15 (Sta.wr W12 (Sta.wr W9 (Sta.wr W6 (Sta.wr W3 (Sta.ext E1 S_PLAYING)))))))))) (Sta.wr W27 (Sta.wr W24 (Sta.wr W21 (Sta.wr W18 (Sta.wr W15 (Sta.wr W12 (Sta.wr W9 (Sta.wr W6 (Sta.wr W3 (Sta.ext E1 S_PAUSED)))))))))) (by unfold own_shows; rw [if_neg ((Fld.ne O_YOU_WIN O_COUNTDOWN (fun q => absurd (Value.int.inj q) (by decide))) : ¬ (w_YOU_WIN = w_COUNTDOWN)), if_neg ((Fld.ne O_YOU_WIN O_PLAYING (fun q => absurd (Value.int.inj q) (by decide))) : ¬ (w_YOU_WIN = w_PLAYING)), if_neg ((Fld.ne O_YOU_WIN O_PAUSED (fun q => absurd (Value.int.inj q) (by decide))) : ¬ (w_YOU_WIN = w_PAUSED))])) hZ (hw _ (List.mem_of_getElem? (i := 27) rfl)) (hw _ (List.mem_of_getElem? (i := 3) rfl)) (by decide) (by decide)) q69a q69c (g := (mkF m 90 #[.val (.int p1), .val (.ref b1), .val (.int (7 : Int32)), .val (.int (0 : Int32))] [(.ref w_YOU_WIN)])) rfl (by rw [hml]; rfl) (Steps.refl _) (argsL := []) (rest := []) (lenOf (show parseMethodDescriptor "()Z" = some ⟨[], some .boolean⟩ by decide +kernel) rfl) rfl (by show 2 * 0 + _ ≤ _; exact Nat.le_of_eq rfl) (hb hby at_90) (fun _ _ => ⟨rfl, e27, (by decide : 1 + 0 ≤ _), (by decide : 9 + 0 ≤ _)⟩)
    dsimp only [Pt.U, Pt.locs, Pt.cells, Pt.slots] at X68 l68 y68 z68 st68 hQ68
    subst l68 y68 z68
    obtain ⟨rfl, Nq68, e68⟩ := hQ68
    have N68 := Fr.app N27 Nq68
    obtain ⟨fs, hr70, hrun, hended, hW, hsame⟩ := X68.leave (v := some (.int (1 : Int32))) (fun h => by rw [Bd.returns] at h; cases h)
    refine ⟨_, _, pre29 _ ?_, hrun, hended, _, _, rfl, ?_, ⟨_, rfl⟩, hW, hsame.mono (by decide) (by decide)⟩
    · show Steps p.tables e below (T27.setTop (mkF m 71 #[.val (.int p1), .val (.ref b1), .val (.int (7 : Int32)), .unset] [])) _
      refine XS.iloadN X27.here hx rfl (hb hby at_71) rfl ?_
      show Steps p.tables e below (T27.setTop (mkF m 72 #[.val (.int p1), .val (.ref b1), .val (.int (7 : Int32)), .unset] [(.int (7 : Int32))])) _
      refine XT.iconstV X27.here hx rfl (3 : Int32) (hb hby at_72) (by decide) ?_
      show Steps p.tables e below (T27.setTop (mkF m 73 #[.val (.int p1), .val (.ref b1), .val (.int (7 : Int32)), .unset] [(.int (3 : Int32)), (.int (7 : Int32))])) _
      refine XS.icmpNo X27.here hx rfl (hb hby at_73) rfl (flt ((by decide) : ¬ ((7 : Int32) < (3 : Int32)))).1 ?_
      show Steps p.tables e below (T27.setTop (mkF m 76 #[.val (.int p1), .val (.ref b1), .val (.int (7 : Int32)), .unset] [])) _
      refine XS.iloadN X27.here hx rfl (hb hby at_76) rfl ?_
      show Steps p.tables e below (T27.setTop (mkF m 77 #[.val (.int p1), .val (.ref b1), .val (.int (7 : Int32)), .unset] [(.int (7 : Int32))])) _
      refine XT.iconstV X27.here hx rfl (5 : Int32) (hb hby at_77) (by decide) ?_
      show Steps p.tables e below (T27.setTop (mkF m 78 #[.val (.int p1), .val (.ref b1), .val (.int (7 : Int32)), .unset] [(.int (5 : Int32)), (.int (7 : Int32))])) _
      refine XS.icmpYes X27.here hx rfl (pc0 := 78) (pc' := 85) rfl (hb hby at_78) rfl (tlt ((by decide) : (5 : Int32) < (7 : Int32))).2.2.1 (by decide) (by decide) ?_
      show Steps p.tables e below (T27.setTop (mkF m 85 #[.val (.int p1), .val (.ref b1), .val (.int (7 : Int32)), .unset] [])) _
      refine XT.iconstV X27.here hx rfl (0 : Int32) (hb hby at_85) (by decide) ?_
      show Steps p.tables e below (T27.setTop (mkF m 86 #[.val (.int p1), .val (.ref b1), .val (.int (7 : Int32)), .unset] [(.int (0 : Int32))])) _
      refine XS.istoreN X27.here hx rfl (hb hby at_86) rfl (l' := #[.val (.int p1), .val (.ref b1), .val (.int (7 : Int32)), .val (.int (0 : Int32))]) rfl ?_
      show Steps p.tables e below (T27.setTop (mkF m 87 #[.val (.int p1), .val (.ref b1), .val (.int (7 : Int32)), .val (.int (0 : Int32))] [])) _
      refine XS.aloadN X27.here hx rfl (hb hby at_87) rfl rfl ?_
      show Steps p.tables e below (T27.setTop (mkF m 88 #[.val (.int p1), .val (.ref b1), .val (.int (7 : Int32)), .val (.int (0 : Int32))] [(.ref b1)])) _
      refine XS.iloadN X27.here hx rfl (hb hby at_88) rfl ?_
      show Steps p.tables e below (T27.setTop (mkF m 89 #[.val (.int p1), .val (.ref b1), .val (.int (7 : Int32)), .val (.int (0 : Int32))] [(.int (7 : Int32)), (.ref b1)])) _
      refine X27.aaload hx (j := (7 : Int32)) (v := (.ref w_YOU_WIN)) (by rw [e27]; exact Ar66.1) (State.isArrayOf_alike hZ.alike Ar66.2.1) rfl Ar66.2.2 hin66 hat66 (g := (mkF m 89 #[.val (.int p1), .val (.ref b1), .val (.int (7 : Int32)), .val (.int (0 : Int32))] [(.int (7 : Int32)), (.ref b1)])) rfl rfl (hb hby at_89) _ ?_
      show Steps p.tables e below (T27.setTop (mkF m 90 #[.val (.int p1), .val (.ref b1), .val (.int (7 : Int32)), .val (.int (0 : Int32))] [(.ref w_YOU_WIN)])) _
      refine st68.trans ?_
      show Steps p.tables e below (T68.setTop (mkF m 93 #[.val (.int p1), .val (.ref b1), .val (.int (7 : Int32)), .val (.int (0 : Int32))] [(.int (0 : Int32))])) _
      refine XS.iloadN X68.here hx rfl (hb hby at_93) rfl ?_
      show Steps p.tables e below (T68.setTop (mkF m 94 #[.val (.int p1), .val (.ref b1), .val (.int (7 : Int32)), .val (.int (0 : Int32))] [(.int (0 : Int32)), (.int (0 : Int32))])) _
      refine XS.icmpNo X68.here hx rfl (hb hby at_94) rfl (teq (rfl : (0 : Int32) = (0 : Int32))).2 ?_
      show Steps p.tables e below (T68.setTop (mkF m 97 #[.val (.int p1), .val (.ref b1), .val (.int (7 : Int32)), .val (.int (0 : Int32))] [])) _
      refine XT.iconstV X68.here hx rfl (1 : Int32) (hb hby at_97) (by decide) ?_
      show Steps p.tables e below (T68.setTop (mkF m 98 #[.val (.int p1), .val (.ref b1), .val (.int (7 : Int32)), .val (.int (0 : Int32))] [(.int (1 : Int32))])) _
      refine XS.goto X68.here hx rfl (pc0 := 98) (pc' := 102) rfl (hb hby at_98) (by decide) (by decide) ?_
      show Steps p.tables e below (T68.setTop (mkF m 102 #[.val (.int p1), .val (.ref b1), .val (.int (7 : Int32)), .val (.int (0 : Int32))] [(.int (1 : Int32))])) _
      exact retN X68 hx (t := .boolean) Bd.returns (by simp) (hb hby at_102) hr70
    · show Q0 Z _ _ _ _ _ _ _ _ _ _ h0 n0 _ T68.heap _
      rw [e68]
      exact ⟨rfl, N68⟩
  ·
    rw [hv30] at pre29
    obtain ⟨cl71, Ar71, q71, S71, M71, H71, G71⟩ := V28
    have hin71 : ¬ ((8 : Int32) < 0 ∨ cl71.slots.size ≤ ((8 : Int32)).toNatClampNeg) := inb_of S71 ⟨by decide, by decide⟩
    have hat71 : cl71.slots[((8 : Int32)).toNatClampNeg]? = some (.ref w_NAME_ENTRY) := H71.at hin71 rfl
    have V72 : Arv Z h27 b1 k1 (.object "com/example/paddlewick/paddlewick/engine/Screen") (9 : Int32) [(.ref w_MENU), (.ref w_LEVEL_SETS), (.ref w_HIGH_SCORES), (.ref w_COUNTDOWN), (.ref w_PLAYING), (.ref w_PAUSED), (.ref w_GAME_OVER), (.ref w_YOU_WIN), (.ref w_NAME_ENTRY)] .null := ⟨cl71, Ar71, q71, S71, M71, H71, G71⟩
    obtain ⟨cq74, kq74, q74a, q74b, q74c⟩ := isOf hZ e27 (Exa.keep E_NAME_ENTRY K27)
    obtain ⟨_, _, ⟨T73, L73, k73, n73⟩, -, X73, ⟨Lc73, hQ73, l73, y73, z73⟩, st73⟩ := X27.virtualBack hx (y := (⟨"com/example/paddlewick/paddlewick/engine/Screen", "showsLevel", "()Z"⟩ : MethodName)) (z := (⟨"com/example/paddlewick/paddlewick/engine/Screen", "showsLevel", "()Z"⟩ : MethodName)) hown (mvT hZ (hw _ (List.mem_of_getElem? (i := 23) rfl))) (mvT hZ (hw _ (List.mem_of_getElem? (i := 24) rfl))) (notFace_of_selects (args := #[]) (mvT hZ (hw _ (List.mem_of_getElem? (i := 26) rfl)))) (mvT hZ (hw _ (List.mem_of_getElem? (i := 26) rfl))) (mvT hZ (hw _ (List.mem_of_getElem? (i := 25) rfl))) (by decide) (backOf (W := 0) (rm1 l Z a0 hw [] w_NAME_ENTRY w_COUNTDOWN w_PLAYING w_PAUSED (0 : Int32) h27 n0 (Sta.wr W27 (Sta.wr W24 (Sta.wr W21 (Sta.wr W18 (Sta.wr W15 (Sta.wr W12 (Sta.wr W9 (Sta.wr W6 (Sta.wr W3 (Sta.ext E1 S_COUNTDOWN)))))))))) (Sta.wr W27 (Sta.wr W24 (Sta.wr W21 (Sta.wr W18 (Sta.wr W15 (Sta.wr W12 (Sta.wr W9 (Sta.wr W6 (Sta.wr W3 (Sta.ext E1 S_PLAYING)))))))))) (Sta.wr W27 (Sta.wr W24 (Sta.wr W21 (Sta.wr W18 (Sta.wr W15 (Sta.wr W12 (Sta.wr W9 (Sta.wr W6 (Sta.wr W3 (Sta.ext E1 S_PAUSED)))))))))) (by unfold own_shows; rw [if_neg ((Fld.ne O_NAME_ENTRY O_COUNTDOWN (fun q => absurd (Value.int.inj q) (by decide))) : ¬ (w_NAME_ENTRY = w_COUNTDOWN)), if_neg ((Fld.ne O_NAME_ENTRY O_PLAYING (fun q => absurd (Value.int.inj q) (by decide))) : ¬ (w_NAME_ENTRY = w_PLAYING)), if_neg ((Fld.ne O_NAME_ENTRY O_PAUSED (fun q => absurd (Value.int.inj q) (by decide))) : ¬ (w_NAME_ENTRY = w_PAUSED))])) hZ (hw _ (List.mem_of_getElem? (i := 27) rfl)) (hw _ (List.mem_of_getElem? (i := 3) rfl)) (by decide) (by decide)) q74a q74c (g := (mkF m 90 #[.val (.int p1), .val (.ref b1), .val (.int (8 : Int32)), .val (.int (0 : Int32))] [(.ref w_NAME_ENTRY)])) rfl (by rw [hml]; rfl) (Steps.refl _) (argsL := []) (rest := []) (lenOf (show parseMethodDescriptor "()Z" = some ⟨[], some .boolean⟩ by decide +kernel) rfl) rfl (by show 2 * 0 + _ ≤ _; exact Nat.le_of_eq rfl) (hb hby at_90) (fun _ _ => ⟨rfl, e27, (by decide : 1 + 0 ≤ _), (by decide : 9 + 0 ≤ _)⟩)
    dsimp only [Pt.U, Pt.locs, Pt.cells, Pt.slots] at X73 l73 y73 z73 st73 hQ73
    subst l73 y73 z73
    obtain ⟨rfl, Nq73, e73⟩ := hQ73
    have N73 := Fr.app N27 Nq73
    obtain ⟨fs, hr75, hrun, hended, hW, hsame⟩ := X73.leave (v := some (.int (1 : Int32))) (fun h => by rw [Bd.returns] at h; cases h)
    refine ⟨_, _, pre29 _ ?_, hrun, hended, _, _, rfl, ?_, ⟨_, rfl⟩, hW, hsame.mono (by decide) (by decide)⟩
    · show Steps p.tables e below (T27.setTop (mkF m 71 #[.val (.int p1), .val (.ref b1), .val (.int (8 : Int32)), .unset] [])) _
      refine XS.iloadN X27.here hx rfl (hb hby at_71) rfl ?_
      show Steps p.tables e below (T27.setTop (mkF m 72 #[.val (.int p1), .val (.ref b1), .val (.int (8 : Int32)), .unset] [(.int (8 : Int32))])) _
      refine XT.iconstV X27.here hx rfl (3 : Int32) (hb hby at_72) (by decide) ?_
      show Steps p.tables e below (T27.setTop (mkF m 73 #[.val (.int p1), .val (.ref b1), .val (.int (8 : Int32)), .unset] [(.int (3 : Int32)), (.int (8 : Int32))])) _
      refine XS.icmpNo X27.here hx rfl (hb hby at_73) rfl (flt ((by decide) : ¬ ((8 : Int32) < (3 : Int32)))).1 ?_
      show Steps p.tables e below (T27.setTop (mkF m 76 #[.val (.int p1), .val (.ref b1), .val (.int (8 : Int32)), .unset] [])) _
      refine XS.iloadN X27.here hx rfl (hb hby at_76) rfl ?_
      show Steps p.tables e below (T27.setTop (mkF m 77 #[.val (.int p1), .val (.ref b1), .val (.int (8 : Int32)), .unset] [(.int (8 : Int32))])) _
      refine XT.iconstV X27.here hx rfl (5 : Int32) (hb hby at_77) (by decide) ?_
      show Steps p.tables e below (T27.setTop (mkF m 78 #[.val (.int p1), .val (.ref b1), .val (.int (8 : Int32)), .unset] [(.int (5 : Int32)), (.int (8 : Int32))])) _
      refine XS.icmpYes X27.here hx rfl (pc0 := 78) (pc' := 85) rfl (hb hby at_78) rfl (tlt ((by decide) : (5 : Int32) < (8 : Int32))).2.2.1 (by decide) (by decide) ?_
      show Steps p.tables e below (T27.setTop (mkF m 85 #[.val (.int p1), .val (.ref b1), .val (.int (8 : Int32)), .unset] [])) _
      refine XT.iconstV X27.here hx rfl (0 : Int32) (hb hby at_85) (by decide) ?_
      show Steps p.tables e below (T27.setTop (mkF m 86 #[.val (.int p1), .val (.ref b1), .val (.int (8 : Int32)), .unset] [(.int (0 : Int32))])) _
      refine XS.istoreN X27.here hx rfl (hb hby at_86) rfl (l' := #[.val (.int p1), .val (.ref b1), .val (.int (8 : Int32)), .val (.int (0 : Int32))]) rfl ?_
      show Steps p.tables e below (T27.setTop (mkF m 87 #[.val (.int p1), .val (.ref b1), .val (.int (8 : Int32)), .val (.int (0 : Int32))] [])) _
      refine XS.aloadN X27.here hx rfl (hb hby at_87) rfl rfl ?_
      show Steps p.tables e below (T27.setTop (mkF m 88 #[.val (.int p1), .val (.ref b1), .val (.int (8 : Int32)), .val (.int (0 : Int32))] [(.ref b1)])) _
      refine XS.iloadN X27.here hx rfl (hb hby at_88) rfl ?_
      show Steps p.tables e below (T27.setTop (mkF m 89 #[.val (.int p1), .val (.ref b1), .val (.int (8 : Int32)), .val (.int (0 : Int32))] [(.int (8 : Int32)), (.ref b1)])) _
      refine X27.aaload hx (j := (8 : Int32)) (v := (.ref w_NAME_ENTRY)) (by rw [e27]; exact Ar71.1) (State.isArrayOf_alike hZ.alike Ar71.2.1) rfl Ar71.2.2 hin71 hat71 (g := (mkF m 89 #[.val (.int p1), .val (.ref b1), .val (.int (8 : Int32)), .val (.int (0 : Int32))] [(.int (8 : Int32)), (.ref b1)])) rfl rfl (hb hby at_89) _ ?_
      show Steps p.tables e below (T27.setTop (mkF m 90 #[.val (.int p1), .val (.ref b1), .val (.int (8 : Int32)), .val (.int (0 : Int32))] [(.ref w_NAME_ENTRY)])) _
      refine st73.trans ?_
      show Steps p.tables e below (T73.setTop (mkF m 93 #[.val (.int p1), .val (.ref b1), .val (.int (8 : Int32)), .val (.int (0 : Int32))] [(.int (0 : Int32))])) _
      refine XS.iloadN X73.here hx rfl (hb hby at_93) rfl ?_
      show Steps p.tables e below (T73.setTop (mkF m 94 #[.val (.int p1), .val (.ref b1), .val (.int (8 : Int32)), .val (.int (0 : Int32))] [(.int (0 : Int32)), (.int (0 : Int32))])) _
      refine XS.icmpNo X73.here hx rfl (hb hby at_94) rfl (teq (rfl : (0 : Int32) = (0 : Int32))).2 ?_
      show Steps p.tables e below (T73.setTop (mkF m 97 #[.val (.int p1), .val (.ref b1), .val (.int (8 : Int32)), .val (.int (0 : Int32))] [])) _
      refine XT.iconstV X73.here hx rfl (1 : Int32) (hb hby at_97) (by decide) ?_
      show Steps p.tables e below (T73.setTop (mkF m 98 #[.val (.int p1), .val (.ref b1), .val (.int (8 : Int32)), .val (.int (0 : Int32))] [(.int (1 : Int32))])) _
      refine XS.goto X73.here hx rfl (pc0 := 98) (pc' := 102) rfl (hb hby at_98) (by decide) (by decide) ?_
      show Steps p.tables e below (T73.setTop (mkF m 102 #[.val (.int p1), .val (.ref b1), .val (.int (8 : Int32)), .val (.int (0 : Int32))] [(.int (1 : Int32))])) _
      exact retN X73 hx (t := .boolean) Bd.returns (by simp) (hb hby at_102) hr75
    · show Q0 Z _ _ _ _ _ _ _ _ _ _ h0 n0 _ T73.heap _
      rw [e73]
      exact ⟨rfl, N73⟩
set_option maxRecDepth 65536 in
set_option maxHeartbeats 40000000 in
theorem comes_1 {Post : Tables → Env → Array Value → State → Outcome → State → Prop} (hpost : ∀ tb e args s v u, (limb_1_1.after args s (.returned v) u = true ∧ limb_1_2.after args s (.returned v) u = true ∧ True) → FrameEnd s (.returned v) u (Jvm.fieldLocs frame_1_writes args s ++ Jvm.arrayLocs frame_1_arrays args s ++ Jvm.staticLocs frame_1_statics s) 16 128 → Post tb e args s (.returned v) u) :
    ArmFor flags0 classFile x code maxLocals ret World_1 tables_1 room_1 Calls_1 rest_1 Pre_1 Post := by
  intro l hfl _ _ p e ha hc hk s m args below hf hA hF happ hP
  obtain ⟨hcalls, hrest, hpre⟩ := hP
  obtain ⟨-, -, -, hnamed, -, -, -, hat⟩ := (Spec.applies_iff hf).mp happ
  obtain ⟨hg, hn⟩ := and_e (Cond.before_iff.mp (show (Jvm.Cond.and given_1 narrow_1).before args s = true from hpre))
  obtain ⟨gc, t0⟩ := and_e hg
  have g0 := t0
  obtain ⟨w0, rfl⟩ : ∃ w0 : Value, args = #[w0] := by
    have hs : args.size = 1 := by simpa [Cond.value, given_1] using gc
    obtain ⟨L⟩ := args
    match L, hs with
    | [w0], _ => exact ⟨w0, rfl⟩
  have hw := fun d (hd : d ∈ tables_1) => atoms_spec (ws := Jvm.Cond.code x code maxLocals ret :: tables_1) hat d (List.mem_cons_of_mem _ hd)
  have hfit : Fit s := fun {y c} hc i hi => by
    obtain ⟨ha, rfl⟩ := Array.getElem?_eq_some_iff.mp hc
    have q := List.all_eq_true.mp ((Array.all_eq_true_iff_forall_mem.mp hF) _ (Array.getElem_mem ha)) i (List.mem_range.mpr hi)
    simpa [Array.getElem?_eq_getElem hi] using q
  obtain ⟨i0, ei0⟩ := is_v g0
  obtain rfl : w0 = (.int i0) := Option.some.inj ei0
  obtain ⟨c0, r0⟩ := and_e hn
  obtain ⟨c1, r1⟩ := and_e r0
  obtain ⟨c2, r2⟩ := and_e r1
  obtain ⟨c3, r3⟩ := and_e r2
  obtain ⟨c4, r4⟩ := and_e r3
  obtain ⟨c5, r5⟩ := and_e r4
  obtain ⟨c6, r6⟩ := and_e r5
  obtain ⟨c7, r7⟩ := and_e r6
  obtain ⟨c8, r8⟩ := and_e r7
  obtain ⟨c9, r9⟩ := and_e r8
  obtain ⟨c10, r10⟩ := and_e r9
  obtain ⟨c11, r11⟩ := and_e r10
  obtain ⟨c12, r12⟩ := and_e r11
  obtain ⟨c13, r13⟩ := and_e r12
  obtain ⟨c14, r14⟩ := and_e r13
  obtain ⟨c15, r15⟩ := and_e r14
  obtain ⟨c16, r16⟩ := and_e r15
  obtain ⟨w_MENU, ev_MENU⟩ := exa_v c0
  have E_MENU := Exa.start ev_MENU c0
  have S_MENU := Sta.start ev_MENU (Or.inr ⟨(hw _ (List.mem_of_getElem? (i := 3) rfl)), (hw _ (List.mem_of_getElem? (i := 4) rfl))⟩)
  obtain ⟨w_LEVEL_SETS, ev_LEVEL_SETS⟩ := exa_v c1
  have E_LEVEL_SETS := Exa.start ev_LEVEL_SETS c1
  have S_LEVEL_SETS := Sta.start ev_LEVEL_SETS (Or.inr ⟨(hw _ (List.mem_of_getElem? (i := 3) rfl)), (hw _ (List.mem_of_getElem? (i := 7) rfl))⟩)
  obtain ⟨w_HIGH_SCORES, ev_HIGH_SCORES⟩ := exa_v c2
  have E_HIGH_SCORES := Exa.start ev_HIGH_SCORES c2
  have S_HIGH_SCORES := Sta.start ev_HIGH_SCORES (Or.inr ⟨(hw _ (List.mem_of_getElem? (i := 3) rfl)), (hw _ (List.mem_of_getElem? (i := 9) rfl))⟩)
  obtain ⟨w_COUNTDOWN, ev_COUNTDOWN⟩ := exa_v c3
  have E_COUNTDOWN := Exa.start ev_COUNTDOWN c3
  have S_COUNTDOWN := Sta.start ev_COUNTDOWN (Or.inr ⟨(hw _ (List.mem_of_getElem? (i := 3) rfl)), (hw _ (List.mem_of_getElem? (i := 11) rfl))⟩)
  obtain ⟨w_PLAYING, ev_PLAYING⟩ := exa_v c4
  have E_PLAYING := Exa.start ev_PLAYING c4
  have S_PLAYING := Sta.start ev_PLAYING (Or.inr ⟨(hw _ (List.mem_of_getElem? (i := 3) rfl)), (hw _ (List.mem_of_getElem? (i := 13) rfl))⟩)
  obtain ⟨w_PAUSED, ev_PAUSED⟩ := exa_v c5
  have E_PAUSED := Exa.start ev_PAUSED c5
  have S_PAUSED := Sta.start ev_PAUSED (Or.inr ⟨(hw _ (List.mem_of_getElem? (i := 3) rfl)), (hw _ (List.mem_of_getElem? (i := 15) rfl))⟩)
  obtain ⟨w_GAME_OVER, ev_GAME_OVER⟩ := exa_v c6
  have E_GAME_OVER := Exa.start ev_GAME_OVER c6
  have S_GAME_OVER := Sta.start ev_GAME_OVER (Or.inr ⟨(hw _ (List.mem_of_getElem? (i := 3) rfl)), (hw _ (List.mem_of_getElem? (i := 17) rfl))⟩)
  obtain ⟨w_YOU_WIN, ev_YOU_WIN⟩ := exa_v c7
  have E_YOU_WIN := Exa.start ev_YOU_WIN c7
  have S_YOU_WIN := Sta.start ev_YOU_WIN (Or.inr ⟨(hw _ (List.mem_of_getElem? (i := 3) rfl)), (hw _ (List.mem_of_getElem? (i := 19) rfl))⟩)
  obtain ⟨w_NAME_ENTRY, ev_NAME_ENTRY⟩ := exa_v c8
  have E_NAME_ENTRY := Exa.start ev_NAME_ENTRY c8
  have S_NAME_ENTRY := Sta.start ev_NAME_ENTRY (Or.inr ⟨(hw _ (List.mem_of_getElem? (i := 3) rfl)), (hw _ (List.mem_of_getElem? (i := 21) rfl))⟩)
  have O_MENU := own_ordinal ev_MENU c9
  have O_COUNTDOWN := own_ordinal ev_COUNTDOWN c10
  have O_PLAYING := own_ordinal ev_PLAYING c11
  have O_PAUSED := own_ordinal ev_PAUSED c12
  have O_HIGH_SCORES := own_ordinal ev_HIGH_SCORES c13
  have O_LEVEL_SETS := own_ordinal ev_LEVEL_SETS c14
  have O_YOU_WIN := own_ordinal ev_YOU_WIN c15
  have O_NAME_ENTRY := own_ordinal ev_NAME_ENTRY c16
  have O_GAME_OVER := own_ordinal ev_GAME_OVER r16
  obtain ⟨n, o, h1, h2, h3, _, L, rfl, ⟨rfl, N⟩, hq⟩ := rm0 l s _ hw tables_1 i0 w_MENU w_LEVEL_SETS w_HIGH_SCORES w_COUNTDOWN w_PLAYING w_PAUSED w_GAME_OVER w_YOU_WIN w_NAME_ENTRY s.heap s.heap.size (Nat.le_refl _) S_MENU S_LEVEL_SETS S_HIGH_SCORES S_COUNTDOWN S_PLAYING S_PAUSED S_GAME_OVER S_YOU_WIN S_NAME_ENTRY E_MENU E_LEVEL_SETS E_HIGH_SCORES E_COUNTDOWN E_PLAYING E_PAUSED E_GAME_OVER E_YOU_WIN E_NAME_ENTRY O_MENU O_LEVEL_SETS O_HIGH_SCORES O_COUNTDOWN O_PLAYING O_PAUSED O_GAME_OVER O_YOU_WIN O_NAME_ENTRY p e ha hc hk s m _ below hf ((Spec.applies_iff_loose hf).mp happ).1 ⟨rfl, State.Warmed39.refl s, rfl⟩ trivial
  refine ⟨n, _, h1, h2, h3, hpost _ _ _ _ _ _ ⟨Cond.after_iff.mpr rfl, Cond.after_iff.mpr (eq_i res_at (Term.int_eval (1)) rfl), trivial⟩ ⟨hq.1, hq.2.1, (hq.2.2.sift fun y hy => Or.inr (N y hy)).mono (by decide) (by decide)⟩⟩
theorem main_1_1 : Claimed_1_1 := comes_1 fun _ _ _ _ _ _ h hF => ⟨h.1, hF⟩
theorem main_1_2 : Claimed_1_2 := comes_1 fun _ _ _ _ _ _ h hF => ⟨h.2.1, hF⟩
end Jvm.Pilot.@@N@@
namespace Jvm.Pilot.@@N@@
open Jvm Jvm.ClassFile Sem Op Lib Jvm.Free Jvm.Stand Jvm.Pilot.@@N@@.Jvm.D
/-! MADE BY PROGRAM (witnessworld.py) out of the Statement's table words and the real class files: 14 classes; the members and pool entries that the words name. The judged class is class 1, her method 1. -/
namespace start1
open Jvm.ClassFile
def u (s : String) : CpInfo := .utf8 (stringToUtf16 s)
/-- a pool by its gaps: so many unusable entries, then the entry; so many at the end -/
def gap : Nat → List CpInfo → List CpInfo
  | 0, r => r
  | n + 1, r => .unusable :: gap n r
def poolList (es : List (Nat × CpInfo)) (last : Nat) : List CpInfo := es.foldr (fun e r => gap e.1 (e.2 :: r)) (gap last [])
def pool (es : List (Nat × CpInfo)) (last : Nat) : Array CpInfo := ⟨poolList es last⟩
def fileOf (pool : Array CpInfo) (this : Nat) (attrs : Array Attribute := #[]) (ms : Array MethodInfo := #[]) (fl : Nat := 33) (sup : Nat := 0) (ifs : Array Nat := #[]) (fds : Array FieldInfo := #[]) : ClassFile where
  minorVersion := 0
  majorVersion := 65
  constantPool := pool
  accessFlags := fl
  thisClass := this
  superClass := sup
  interfaces := ifs
  fields := fds
  methods := ms
  attributes := attrs
def plain (name : String) (sup : Option ClassId) : Class where
  name := name
  kind := .ordinary
  loader := none
  accessFlags := 33
  super := sup
  interfaces := #[]
  cf := none
  fields := #[]
  methods := #[]
  instanceTypes := #[]
  staticTypes := #[]
  resolved := #[]
  callSites := []
  init := .initialized
  statics := none
  mirror := none

def pool0 : Array CpInfo := pool [(5, u "<init>"), (0, u "()V"), (1, .class_ 10), (1, u "java/lang/Object")] 113

def k0m0 : Method := { name := "<init>", desc := "()V", sig := { parameters := [], returnType := none }, accessFlags := 1, code := none }
/-- java/lang/Object -/
def k0 : Class := { plain "java/lang/Object" none with
  accessFlags := 33
  interfaces := #[]
  cf := some (fileOf pool0 8 #[] #[{ accessFlags := 1, nameIndex := 5, descriptorIndex := 6, attributes := #[] }] 33 0 #[] #[])
  fields := #[]
  methods := #[k0m0]
  instanceTypes := #[]
  staticTypes := #[]
  resolved := Array.replicate 124 none
  statics := none }

def pool1 : Array CpInfo := pool [(2, .class_ 4), (1, u "java/lang/Object"), (0, u "<init>"), (0, u "()V"), (0, .class_ 8), (0, u "com/example/paddlewick/paddlewick/engine/Screen"), (0, .fieldref 7 10), (0, .nameAndType 11 12), (0, u "MENU"), (0, u "Lcom/example/paddlewick/paddlewick/engine/Screen;"), (0, .fieldref 7 14), (0, .nameAndType 15 12), (0, u "LEVEL_SETS"), (0, .fieldref 7 17), (0, .nameAndType 18 12), (0, u "HIGH_SCORES"), (0, .fieldref 7 20), (0, .nameAndType 21 12), (0, u "COUNTDOWN"), (0, .fieldref 7 23), (0, .nameAndType 24 12), (0, u "PLAYING"), (0, .fieldref 7 26), (0, .nameAndType 27 12), (0, u "PAUSED"), (0, .fieldref 7 29), (0, .nameAndType 30 12), (0, u "GAME_OVER"), (0, .fieldref 7 32), (0, .nameAndType 33 12), (0, u "YOU_WIN"), (0, .fieldref 7 35), (0, .nameAndType 36 12), (0, u "NAME_ENTRY"), (0, .integer 2147483647), (0, .methodref 7 39), (0, .nameAndType 40 41), (0, u "showsLevel"), (0, u "()Z"), (0, .class_ 43), (0, u "com/example/paddlewick/paddlewick/engine/ScreenShowsLevelPinLaw"), (2, u "law"), (0, u "(I)Z")] 5

def k1m0 : Method := { name := "<init>", desc := "()V", sig := { parameters := [], returnType := none }, accessFlags := 1, code := none }
def k1c1 : Code := { maxStack := 4, maxLocals := 4, code := code, exceptionTable := #[], attributes := #[] }
def k1m1 : Method := { name := "law", desc := "(I)Z", sig := { parameters := [.int], returnType := some .boolean }, accessFlags := 9, code := some k1c1 }
/-- com/example/paddlewick/paddlewick/engine/ScreenShowsLevelPinLaw -/
def k1 : Class := { plain "com/example/paddlewick/paddlewick/engine/ScreenShowsLevelPinLaw" (some 0) with
  accessFlags := 49
  interfaces := #[]
  cf := some (fileOf pool1 42 #[] #[{ accessFlags := 1, nameIndex := 5, descriptorIndex := 6, attributes := #[] }, { accessFlags := 9, nameIndex := 46, descriptorIndex := 47, attributes := #[] }] 49 2 #[] #[])
  fields := #[]
  methods := #[k1m0, k1m1]
  instanceTypes := #[]
  staticTypes := #[]
  resolved := Array.replicate 53 none
  statics := none }

def pool2 : Array CpInfo := pool [(1, .class_ 2), (0, u "java/lang/constant/Constable"), (0, .class_ 4), (0, u "java/lang/Object")] 6

/-- java/lang/constant/Constable -/
def k2 : Class := { plain "java/lang/constant/Constable" (some 0) with
  accessFlags := 1537
  interfaces := #[]
  cf := some (fileOf pool2 1 #[] #[] 1537 3 #[] #[])
  fields := #[]
  methods := #[]
  instanceTypes := #[]
  staticTypes := #[]
  resolved := Array.replicate 11 none
  statics := none }

def pool3 : Array CpInfo := pool [(1, .class_ 2), (0, u "java/lang/Comparable"), (0, .class_ 4), (0, u "java/lang/Object")] 7

/-- java/lang/Comparable -/
def k3 : Class := { plain "java/lang/Comparable" (some 0) with
  accessFlags := 1537
  interfaces := #[]
  cf := some (fileOf pool3 1 #[] #[] 1537 3 #[] #[])
  fields := #[]
  methods := #[]
  instanceTypes := #[]
  staticTypes := #[]
  resolved := Array.replicate 12 none
  statics := none }

def pool4 : Array CpInfo := pool [(1, .class_ 2), (0, u "java/io/Serializable"), (0, .class_ 4), (0, u "java/lang/Object")] 2

/-- java/io/Serializable -/
def k4 : Class := { plain "java/io/Serializable" (some 0) with
  accessFlags := 1537
  interfaces := #[]
  cf := some (fileOf pool4 1 #[] #[] 1537 3 #[] #[])
  fields := #[]
  methods := #[]
  instanceTypes := #[]
  staticTypes := #[]
  resolved := Array.replicate 7 none
  statics := none }

def pool5 : Array CpInfo := pool [(2, .class_ 4), (1, u "java/lang/Enum"), (0, u "name"), (0, u "Ljava/lang/String;"), (2, u "ordinal"), (0, u "I"), (1, .class_ 14), (1, u "java/lang/Object"), (4, u "hash"), (86, .class_ 108), (1, u "java/lang/Enum$EnumDesc"), (2, .class_ 112), (0, u "java/lang/constant/Constable"), (0, .class_ 114), (0, u "java/lang/Comparable"), (0, .class_ 116), (0, u "java/io/Serializable")] 87

/-- java/lang/Enum -/
def k5 : Class := { plain "java/lang/Enum" (some 0) with
  accessFlags := 1057
  interfaces := #[2, 3, 4]
  cf := some (fileOf pool5 2 #[.nestMembers #[106]] #[] 1057 12 #[111, 113, 115] #[{ accessFlags := 18, nameIndex := 5, descriptorIndex := 6, attributes := #[] }, { accessFlags := 18, nameIndex := 9, descriptorIndex := 10, attributes := #[] }, { accessFlags := 2, nameIndex := 19, descriptorIndex := 10, attributes := #[] }])
  fields := #[{ name := "name", type := (.object "java/lang/String"), accessFlags := 18, slot := 0, constantValue := 0 }, { name := "ordinal", type := .int, accessFlags := 18, slot := 1, constantValue := 0 }, { name := "hash", type := .int, accessFlags := 2, slot := 2, constantValue := 0 }]
  methods := #[]
  instanceTypes := #[(.object "java/lang/String"), .int, .int]
  staticTypes := #[]
  resolved := Array.replicate 204 none
  statics := none }

def pool6 : Array CpInfo := pool [(2, .class_ 4), (1, u "com/example/paddlewick/paddlewick/engine/ReportNamed"), (18, .class_ 24), (0, u "java/lang/Object")] 5

/-- com/example/paddlewick/paddlewick/engine/ReportNamed -/
def k6 : Class := { plain "com/example/paddlewick/paddlewick/engine/ReportNamed" (some 0) with
  accessFlags := 1537
  interfaces := #[]
  cf := some (fileOf pool6 2 #[] #[] 1537 23 #[] #[])
  fields := #[]
  methods := #[]
  instanceTypes := #[]
  staticTypes := #[]
  resolved := Array.replicate 30 none
  statics := none }

def pool7 : Array CpInfo := pool [(1, .class_ 2), (0, u "com/example/paddlewick/paddlewick/engine/Screen"), (2, u "MENU"), (0, u "Lcom/example/paddlewick/paddlewick/engine/Screen;"), (2, u "LEVEL_SETS"), (2, u "HIGH_SCORES"), (0, .fieldref 1 14), (0, .nameAndType 15 6), (0, u "COUNTDOWN"), (0, .fieldref 1 17), (0, .nameAndType 18 6), (0, u "PLAYING"), (0, .fieldref 1 20), (0, .nameAndType 21 6), (0, u "PAUSED"), (2, u "GAME_OVER"), (2, u "YOU_WIN"), (2, u "NAME_ENTRY"), (2, u "$VALUES"), (0, u "[Lcom/example/paddlewick/paddlewick/engine/Screen;"), (6, .class_ 43), (1, u "java/lang/Enum"), (20, .class_ 65), (0, u "com/example/paddlewick/paddlewick/engine/ReportNamed"), (7, u "showsLevel"), (0, u "()Z")] 5

def k7c0 : Code := { maxStack := 2, maxLocals := 1, code := prog_34_method_4_code, exceptionTable := #[], attributes := #[] }
def k7m0 : Method := { name := "showsLevel", desc := "()Z", sig := { parameters := [], returnType := some .boolean }, accessFlags := 1, code := some k7c0 }
/-- com/example/paddlewick/paddlewick/engine/Screen -/
def k7 : Class := { plain "com/example/paddlewick/paddlewick/engine/Screen" (some 5) with
  accessFlags := 16433
  interfaces := #[6]
  cf := some (fileOf pool7 1 #[] #[{ accessFlags := 1, nameIndex := 73, descriptorIndex := 74, attributes := #[] }] 16433 41 #[64] #[{ accessFlags := 16409, nameIndex := 5, descriptorIndex := 6, attributes := #[] }, { accessFlags := 16409, nameIndex := 9, descriptorIndex := 6, attributes := #[] }, { accessFlags := 16409, nameIndex := 12, descriptorIndex := 6, attributes := #[] }, { accessFlags := 16409, nameIndex := 15, descriptorIndex := 6, attributes := #[] }, { accessFlags := 16409, nameIndex := 18, descriptorIndex := 6, attributes := #[] }, { accessFlags := 16409, nameIndex := 21, descriptorIndex := 6, attributes := #[] }, { accessFlags := 16409, nameIndex := 24, descriptorIndex := 6, attributes := #[] }, { accessFlags := 16409, nameIndex := 27, descriptorIndex := 6, attributes := #[] }, { accessFlags := 16409, nameIndex := 30, descriptorIndex := 6, attributes := #[] }, { accessFlags := 4122, nameIndex := 33, descriptorIndex := 34, attributes := #[] }])
  fields := #[{ name := "MENU", type := (.object "com/example/paddlewick/paddlewick/engine/Screen"), accessFlags := 16409, slot := 0, constantValue := 0 }, { name := "LEVEL_SETS", type := (.object "com/example/paddlewick/paddlewick/engine/Screen"), accessFlags := 16409, slot := 1, constantValue := 0 }, { name := "HIGH_SCORES", type := (.object "com/example/paddlewick/paddlewick/engine/Screen"), accessFlags := 16409, slot := 2, constantValue := 0 }, { name := "COUNTDOWN", type := (.object "com/example/paddlewick/paddlewick/engine/Screen"), accessFlags := 16409, slot := 3, constantValue := 0 }, { name := "PLAYING", type := (.object "com/example/paddlewick/paddlewick/engine/Screen"), accessFlags := 16409, slot := 4, constantValue := 0 }, { name := "PAUSED", type := (.object "com/example/paddlewick/paddlewick/engine/Screen"), accessFlags := 16409, slot := 5, constantValue := 0 }, { name := "GAME_OVER", type := (.object "com/example/paddlewick/paddlewick/engine/Screen"), accessFlags := 16409, slot := 6, constantValue := 0 }, { name := "YOU_WIN", type := (.object "com/example/paddlewick/paddlewick/engine/Screen"), accessFlags := 16409, slot := 7, constantValue := 0 }, { name := "NAME_ENTRY", type := (.object "com/example/paddlewick/paddlewick/engine/Screen"), accessFlags := 16409, slot := 8, constantValue := 0 }, { name := "$VALUES", type := (.array (.object "com/example/paddlewick/paddlewick/engine/Screen")), accessFlags := 4122, slot := 9, constantValue := 0 }]
  methods := #[k7m0]
  instanceTypes := #[(.object "java/lang/String"), .int, .int]
  staticTypes := #[(.object "com/example/paddlewick/paddlewick/engine/Screen"), (.object "com/example/paddlewick/paddlewick/engine/Screen"), (.object "com/example/paddlewick/paddlewick/engine/Screen"), (.object "com/example/paddlewick/paddlewick/engine/Screen"), (.object "com/example/paddlewick/paddlewick/engine/Screen"), (.object "com/example/paddlewick/paddlewick/engine/Screen"), (.object "com/example/paddlewick/paddlewick/engine/Screen"), (.object "com/example/paddlewick/paddlewick/engine/Screen"), (.object "com/example/paddlewick/paddlewick/engine/Screen"), (.array (.object "com/example/paddlewick/paddlewick/engine/Screen"))]
  resolved := Array.replicate 80 none
  statics := some 0 }

def pool8 : Array CpInfo := pool [(1, u "java/lang/Cloneable"), (0, .class_ 1), (0, u "java/lang/Object"), (0, .class_ 3)] 3

/-- java/lang/Cloneable -/
def k8 : Class := { plain "java/lang/Cloneable" (some 0) with
  accessFlags := 1537
  interfaces := #[]
  cf := some (fileOf pool8 2 #[] #[] 1537 4 #[] #[])
  fields := #[]
  methods := #[]
  instanceTypes := #[]
  staticTypes := #[]
  resolved := Array.replicate 8 none
  statics := none }

/-- the primitive byte -/
def k9 : Class := { plain "byte" none with kind := .primitive 'B', accessFlags := 0x411 }
/-- [B -/
def k10 : Class := { plain "[B" (some 0) with kind := .array 9 .byte, interfaces := #[8, 4], accessFlags := 1041 }

/-- the primitive int -/
def k11 : Class := { plain "int" none with kind := .primitive 'I', accessFlags := 0x411 }
/-- [I -/
def k12 : Class := { plain "[I" (some 0) with kind := .array 11 .int, interfaces := #[8, 4], accessFlags := 1041 }

/-- [Lcom/example/paddlewick/paddlewick/engine/Screen; -/
def k13 : Class := { plain "[Lcom/example/paddlewick/paddlewick/engine/Screen;" (some 0) with kind := .array 7 (.object "com/example/paddlewick/paddlewick/engine/Screen"), interfaces := #[8, 4], accessFlags := 1041 }

def heap : Heap := #[{ cls := 7, slots := #[.ref 1, .ref 2, .ref 3, .ref 4, .ref 5, .ref 6, .ref 7, .ref 8, .ref 9, .null], vm := .statics 7 },
  { cls := 7, slots := #[.null, .int 0, .int 0], vm := .none },
  { cls := 7, slots := #[.null, .int 1, .int 0], vm := .none },
  { cls := 7, slots := #[.null, .int 2, .int 0], vm := .none },
  { cls := 7, slots := #[.null, .int 3, .int 0], vm := .none },
  { cls := 7, slots := #[.null, .int 4, .int 0], vm := .none },
  { cls := 7, slots := #[.null, .int 5, .int 0], vm := .none },
  { cls := 7, slots := #[.null, .int 6, .int 0], vm := .none },
  { cls := 7, slots := #[.null, .int 7, .int 0], vm := .none },
  { cls := 7, slots := #[.null, .int 8, .int 0], vm := .none }]
def classes : Array Class := #[k0, k1, k2, k3, k4, k5, k6, k7, k8, k9, k10, k11, k12, k13]
def interned : List (Array UInt16 × Addr) := []
def slotsUsed : Nat := 37
def theMethod : MethodId := ⟨1, 1⟩
def args0 : Array Value := #[.int 5]
def aboutOver (below : List Frame) : State where
  vm := { classes := classes, interned := interned.toArray }
  heap := heap
  slotsUsed := slotsUsed
  threads := #[{ frames := .invoking theMethod args0 :: below }]
def below0 : List Frame := [.native { method := ⟨0, 0⟩, args := #[] }]
def about1 : State := aboutOver below0
def p0 : Program := .bare "" "" ""
def e0 : Env := launch0.env 0 0 0
theorem w_frames : about1.frames = Frame.invoking theMethod args0 :: below0 := rfl
set_option maxRecDepth 65536 in
theorem w_args : argsFit about1.vm theMethod args0 = true := by decide +kernel
set_option maxRecDepth 65536 in
theorem w_heap : heapFits about1 = true := by decide +kernel
set_option maxRecDepth 65536 in
theorem w_runnable : about1.curStatus? = some .runnable := by decide +kernel
set_option maxRecDepth 65536 in
theorem w_alone : about1.alone = true := by decide +kernel
set_option maxRecDepth 65536 in
theorem w_named : about1.methodNamed? x = some theMethod := by decide +kernel
set_option maxRecDepth 65536 in
theorem w_hears : about1.hears theMethod below0 = true := by decide +kernel
set_option maxRecDepth 65536 in
theorem w_ripe : about1.ripe theMethod args0 below0 = true := by decide +kernel
theorem w_running : about1.status = .running := rfl
set_option maxRecDepth 65536 in
theorem w_room : about1.hasRoom e0.platform room_1 = true :=
  launch0.hasRoom_least _ room_1 (by decide +kernel) (by decide +kernel) (by decide +kernel) (by decide +kernel) (by decide +kernel) (by decide +kernel)
theorem allAtoms_all (ts : List Jvm.Cond) (a : Array Jvm.Value) (st : Jvm.State) : (allAtoms ts).before a st = ts.all (fun c => c.before a st) := by
  induction ts with
  | nil => rfl
  | cons c t ih =>
    show (Jvm.Cond.and c (allAtoms t)).before a st = _
    rw [Jvm.Cond.before_and, ih, List.all_cons]
def words1 : List Jvm.Cond := Jvm.Cond.code x code maxLocals ret :: tables_1
/-- a 'code' word, met by the world's own term for the bytes: nothing is compared byte by byte -/
theorem code_word {y : MethodName} {bytes : ByteArray} {mx : Nat} {rt : Option FieldType} {a : Array Value} {s : State} {m : MethodId} {meth : Method} {c : Code} (h1 : s.methodNamed? y = some m) (h2 : s.vm.method? m = some meth) (h3 : meth.code = some c) (h4 : c.code = bytes)
    (h5 : (c.maxLocals == mx && c.exceptionTable.isEmpty && decide (c.maxStack ≤ mostOperands) && decide (meth.sig.returnType = rt) && !meth.locks && decide (parseMethodDescriptor y.desc = some meth.sig)) = true) : (Jvm.Cond.code y bytes mx rt).before a s = true := by
  simp only [Bool.and_eq_true, beq_iff_eq, Bool.not_eq_true', decide_eq_true_eq] at h5
  obtain ⟨⟨⟨⟨⟨g1, g2⟩, g3⟩, g4⟩, g5⟩, g6⟩ := h5
  simp [Cond.before, Cond.holds, Cond.value, h1, h2, h3, h4, g1, g2, g3, g4, g5, g6]
def isCode : Jvm.Cond → Bool
  | .code _ _ _ _ => true
  | _ => false
theorem all_split {L : List Jvm.Cond} {P : Jvm.Cond → Bool} (h1 : L.all (fun c => isCode c || P c) = true) (h2 : ∀ c ∈ L.filter isCode, P c = true) : L.all P = true := by
  refine List.all_eq_true.mpr fun c hc => ?_
  have h := List.all_eq_true.mp h1 c hc
  rcases Bool.eq_false_or_eq_true (isCode c) with hi | hi
  · exact h2 c (List.mem_filter.mpr ⟨hc, hi⟩)
  · simpa [hi] using h
set_option maxRecDepth 65536 in
theorem w_c0 : (Jvm.Cond.code x code maxLocals ret).before args0 about1 = true := code_word (m := ⟨1, 1⟩) (meth := k1m1) (c := k1c1) (by decide +kernel) rfl rfl rfl (by decide +kernel)
set_option maxRecDepth 65536 in
theorem w_c1 : (Jvm.Cond.code ({ cls := "com/example/paddlewick/paddlewick/engine/Screen", name := "showsLevel", desc := "()Z" } : Jvm.MethodName) prog_34_method_4_code (1 : Nat) (Option.some Jvm.ClassFile.FieldType.boolean)).before args0 about1 = true := code_word (m := ⟨7, 0⟩) (meth := k7m0) (c := k7c0) (by decide +kernel) rfl rfl rfl (by decide +kernel)
def codes1 : List Jvm.Cond := [Jvm.Cond.code x code maxLocals ret, Jvm.Cond.code ({ cls := "com/example/paddlewick/paddlewick/engine/Screen", name := "showsLevel", desc := "()Z" } : Jvm.MethodName) prog_34_method_4_code (1 : Nat) (Option.some Jvm.ClassFile.FieldType.boolean)]
set_option maxRecDepth 65536 in
theorem codes_eq : words1.filter isCode = codes1 := rfl
theorem w_codes : ∀ c ∈ words1.filter isCode, c.before args0 about1 = true := by
  rw [codes_eq]
  intro c hc
  simp only [codes1, List.mem_cons, List.not_mem_nil, or_false] at hc
  rcases hc with rfl | rfl
  · exact w_c0
  · exact w_c1
set_option maxRecDepth 65536 in
theorem w_t1 : (words1.take 24).all (fun c => isCode c || c.before args0 about1) = true := by decide +kernel
set_option maxRecDepth 65536 in
theorem w_t2 : (words1.drop 24).all (fun c => isCode c || c.before args0 about1) = true := by decide +kernel
theorem w_tables : (allAtoms (Jvm.Cond.code x code maxLocals ret :: tables_1)).before args0 about1 = true := by
  rw [allAtoms_all]
  show words1.all (fun c => c.before args0 about1) = true
  refine all_split ?_ w_codes
  rw [← List.take_append_drop 24 words1, List.all_append, w_t1, w_t2]
  rfl
set_option maxRecDepth 65536 in
theorem w_case : (Jvm.Cond.and given_1 narrow_1).before args0 about1 = true := by decide +kernel
theorem w_applies : (headSpec (Jvm.Cond.code x code maxLocals ret :: tables_1) room_1).applies x e0.platform about1 = true :=
  (Spec.applies_iff w_frames).mpr ⟨w_running, w_runnable, w_alone, w_named, w_hears, w_ripe, w_room, w_tables⟩
theorem atStart : AtStart classFile x code maxLocals ret World_1 tables_1 room_1 Calls_1 rest_1 Pre_1 launch0 p0 e0 about1 theMethod args0 below0 :=
  ⟨lists_1, trivial, launch0.admits_env _ _ _, launch0.least_env, fairChoices_fair.cas, fairChoices_fair.clock, w_frames, w_args, w_heap, w_applies, trivial, trivial, w_case⟩
end start1
theorem witness_1 : WitnessClaimed_1 := ⟨start1.p0, start1.e0, start1.about1, start1.theMethod, start1.args0, start1.below0, start1.atStart⟩
end Jvm.Pilot.@@N@@
