import JvmDerived
import JvmDerived.Pilot.@@N@@Statement
import JvmDerived.Pilot.@@N@@Code
set_option linter.unusedVariables false
set_option linter.unusedSimpArgs false
namespace Jvm.Pilot.@@N@@
open Jvm Jvm.ClassFile Sem Op Lib Jvm.Free Jvm.Stand Jvm.LawKit Jvm.RoadKit Bundle Jvm.Pilot.@@N@@.Jvm.D
theorem own_ordinal {args : Array Value} {Z : State} {t : Term} {a : Addr} {C n d : String} {k : Int32} (ev : t.eval args Z none [] Z = some (.ref a)) (h : (Jvm.Cond.eq (Term.field t C n d) (Term.int k)).value args Z none Z [] = some true) : Fld Z Z.heap a C n d (.int k) := by
  apply Fld.start
  obtain ⟨x, y, ex, ey, hk, -⟩ := cmp_v (Or.inl h)
  have hf : Z.fieldOf? a C n d = some x := (fld_at ev).symm.trans ex
  have hy : y = .int k := Option.some.inj (ey.symm.trans (Term.int_eval k))
  subst hy
  cases x <;> simp [Kin, Value.isRef] at hk
  rename_i z
  have q := gotT (Cond.eq_ints ex ey) h
  rw [hf, q]
def own_pick (p : Int32) (w_CLASS : Addr) (w_PROPERTY : Addr) (w_RESOURCE : Addr) (w_VALUE : Addr) (w_LITERAL : Addr) (w_RESOURCES : Addr) (w_PAIRS : Addr) (w_ROWS : Addr) (w_BOOLEAN : Addr) (w_NUMBER : Addr) : Addr := if p = (0 : Int32) then w_CLASS else if p = (1 : Int32) then w_PROPERTY else if p = (2 : Int32) then w_RESOURCE else if p = (3 : Int32) then w_VALUE else if p = (4 : Int32) then w_LITERAL else if p = (5 : Int32) then w_RESOURCES else if p = (6 : Int32) then w_PAIRS else if p = (7 : Int32) then w_ROWS else if p = (8 : Int32) then w_BOOLEAN else w_NUMBER
def own_item (a : Addr) (w_CLASS : Addr) (w_PROPERTY : Addr) (w_RESOURCE : Addr) (w_VALUE : Addr) (w_LITERAL : Addr) : Int32 := if a = w_CLASS then (1 : Int32) else if a = w_PROPERTY then (1 : Int32) else if a = w_RESOURCE then (1 : Int32) else if a = w_VALUE then (1 : Int32) else if a = w_LITERAL then (1 : Int32) else (0 : Int32)
theorem d1_0 : decode method_3_code 0 = .ok (.iload_n 0, 1) := by decide +kernel
theorem d1_1 : decode method_3_code 1 = .ok (.ifCond .ne 7, 3) := by decide +kernel
theorem d1_4 : decode method_3_code 4 = .ok (.getstatic 36, 3) := by decide +kernel
theorem d1_7 : decode method_3_code 7 = .ok (.areturn, 1) := by decide +kernel
theorem d1_8 : decode method_3_code 8 = .ok (.iload_n 0, 1) := by decide +kernel
theorem d1_9 : decode method_3_code 9 = .ok (.iconst 1, 1) := by decide +kernel
theorem d1_10 : decode method_3_code 10 = .ok (.if_icmp .ne 7, 3) := by decide +kernel
theorem d1_13 : decode method_3_code 13 = .ok (.getstatic 39, 3) := by decide +kernel
theorem d1_16 : decode method_3_code 16 = .ok (.areturn, 1) := by decide +kernel
theorem d1_17 : decode method_3_code 17 = .ok (.iload_n 0, 1) := by decide +kernel
theorem d1_18 : decode method_3_code 18 = .ok (.iconst 2, 1) := by decide +kernel
theorem d1_19 : decode method_3_code 19 = .ok (.if_icmp .ne 7, 3) := by decide +kernel
theorem d1_22 : decode method_3_code 22 = .ok (.getstatic 42, 3) := by decide +kernel
theorem d1_25 : decode method_3_code 25 = .ok (.areturn, 1) := by decide +kernel
theorem d1_26 : decode method_3_code 26 = .ok (.iload_n 0, 1) := by decide +kernel
theorem d1_27 : decode method_3_code 27 = .ok (.iconst 3, 1) := by decide +kernel
theorem d1_28 : decode method_3_code 28 = .ok (.if_icmp .ne 7, 3) := by decide +kernel
theorem d1_31 : decode method_3_code 31 = .ok (.getstatic 45, 3) := by decide +kernel
theorem d1_34 : decode method_3_code 34 = .ok (.areturn, 1) := by decide +kernel
theorem d1_35 : decode method_3_code 35 = .ok (.iload_n 0, 1) := by decide +kernel
theorem d1_36 : decode method_3_code 36 = .ok (.iconst 4, 1) := by decide +kernel
theorem d1_37 : decode method_3_code 37 = .ok (.if_icmp .ne 7, 3) := by decide +kernel
theorem d1_40 : decode method_3_code 40 = .ok (.getstatic 48, 3) := by decide +kernel
theorem d1_43 : decode method_3_code 43 = .ok (.areturn, 1) := by decide +kernel
theorem d1_44 : decode method_3_code 44 = .ok (.iload_n 0, 1) := by decide +kernel
theorem d1_45 : decode method_3_code 45 = .ok (.iconst 5, 1) := by decide +kernel
theorem d1_46 : decode method_3_code 46 = .ok (.if_icmp .ne 7, 3) := by decide +kernel
theorem d1_49 : decode method_3_code 49 = .ok (.getstatic 14, 3) := by decide +kernel
theorem d1_52 : decode method_3_code 52 = .ok (.areturn, 1) := by decide +kernel
theorem d1_53 : decode method_3_code 53 = .ok (.iload_n 0, 1) := by decide +kernel
theorem d1_54 : decode method_3_code 54 = .ok (.bipush 6, 2) := by decide +kernel
theorem d1_56 : decode method_3_code 56 = .ok (.if_icmp .ne 7, 3) := by decide +kernel
theorem d1_59 : decode method_3_code 59 = .ok (.getstatic 20, 3) := by decide +kernel
theorem d1_62 : decode method_3_code 62 = .ok (.areturn, 1) := by decide +kernel
theorem d1_63 : decode method_3_code 63 = .ok (.iload_n 0, 1) := by decide +kernel
theorem d1_64 : decode method_3_code 64 = .ok (.bipush 7, 2) := by decide +kernel
theorem d1_66 : decode method_3_code 66 = .ok (.if_icmp .ne 7, 3) := by decide +kernel
theorem d1_69 : decode method_3_code 69 = .ok (.getstatic 23, 3) := by decide +kernel
theorem d1_72 : decode method_3_code 72 = .ok (.areturn, 1) := by decide +kernel
theorem d1_73 : decode method_3_code 73 = .ok (.iload_n 0, 1) := by decide +kernel
theorem d1_74 : decode method_3_code 74 = .ok (.bipush 8, 2) := by decide +kernel
theorem d1_76 : decode method_3_code 76 = .ok (.if_icmp .ne 7, 3) := by decide +kernel
theorem d1_79 : decode method_3_code 79 = .ok (.getstatic 26, 3) := by decide +kernel
theorem d1_82 : decode method_3_code 82 = .ok (.areturn, 1) := by decide +kernel
theorem d1_83 : decode method_3_code 83 = .ok (.getstatic 29, 3) := by decide +kernel
theorem d1_86 : decode method_3_code 86 = .ok (.areturn, 1) := by decide +kernel
theorem pn_1 : plainName "com/example/stratigraph/stratigraph/rql/TypeIsItemPinLaw" = true := by first | (simp [plainName, overriddenIn]; done) | decide +kernel
theorem ef_1 (m : MethodId) (x0 : Int32) : entryFrame m #[(.int x0)] 1 = mkF m 0 #[.val (.int x0)] [] := by first | (simp [entryFrame, mkF, argsToLocals, Value.category]; done) | rfl
def Q1 (Z : State) (p1 : Int32) (w_CLASS : Addr) (w_PROPERTY : Addr) (w_RESOURCE : Addr) (w_VALUE : Addr) (w_LITERAL : Addr) (w_RESOURCES : Addr) (w_PAIRS : Addr) (w_ROWS : Addr) (w_BOOLEAN : Addr) (w_NUMBER : Addr) (r : Addr) (h0 : Heap) (n0 : Nat) (v : Option Value) (h : Heap) (L : List Loc) : Prop := v = some (.ref r) ∧ Fr n0 L ∧ h = h0
set_option maxRecDepth 65536 in
set_option maxHeartbeats 40000000 in
theorem rm1 (l : Launch) (Z : State) (a0 : Array Value) (hw : ∀ d ∈ tables_1, d.before a0 Z = true) (ws : List Jvm.Cond) (p1 : Int32) (w_CLASS : Addr) (w_PROPERTY : Addr) (w_RESOURCE : Addr) (w_VALUE : Addr) (w_LITERAL : Addr) (w_RESOURCES : Addr) (w_PAIRS : Addr) (w_ROWS : Addr) (w_BOOLEAN : Addr) (w_NUMBER : Addr) (r : Addr) (h0 : Heap) (n0 : Nat) (S_CLASS : Sta Z h0 "com/example/stratigraph/stratigraph/rql/Type" "CLASS" "Lcom/example/stratigraph/stratigraph/rql/Type;" (.ref w_CLASS)) (S_PROPERTY : Sta Z h0 "com/example/stratigraph/stratigraph/rql/Type" "PROPERTY" "Lcom/example/stratigraph/stratigraph/rql/Type;" (.ref w_PROPERTY)) (S_RESOURCE : Sta Z h0 "com/example/stratigraph/stratigraph/rql/Type" "RESOURCE" "Lcom/example/stratigraph/stratigraph/rql/Type;" (.ref w_RESOURCE)) (S_VALUE : Sta Z h0 "com/example/stratigraph/stratigraph/rql/Type" "VALUE" "Lcom/example/stratigraph/stratigraph/rql/Type;" (.ref w_VALUE)) (S_LITERAL : Sta Z h0 "com/example/stratigraph/stratigraph/rql/Type" "LITERAL" "Lcom/example/stratigraph/stratigraph/rql/Type;" (.ref w_LITERAL)) (S_RESOURCES : Sta Z h0 "com/example/stratigraph/stratigraph/rql/Type" "RESOURCES" "Lcom/example/stratigraph/stratigraph/rql/Type;" (.ref w_RESOURCES)) (S_PAIRS : Sta Z h0 "com/example/stratigraph/stratigraph/rql/Type" "PAIRS" "Lcom/example/stratigraph/stratigraph/rql/Type;" (.ref w_PAIRS)) (S_ROWS : Sta Z h0 "com/example/stratigraph/stratigraph/rql/Type" "ROWS" "Lcom/example/stratigraph/stratigraph/rql/Type;" (.ref w_ROWS)) (S_BOOLEAN : Sta Z h0 "com/example/stratigraph/stratigraph/rql/Type" "BOOLEAN" "Lcom/example/stratigraph/stratigraph/rql/Type;" (.ref w_BOOLEAN)) (S_NUMBER : Sta Z h0 "com/example/stratigraph/stratigraph/rql/Type" "NUMBER" "Lcom/example/stratigraph/stratigraph/rql/Type;" (.ref w_NUMBER)) (hr : (own_pick p1 w_CLASS w_PROPERTY w_RESOURCE w_VALUE w_LITERAL w_RESOURCES w_PAIRS w_ROWS w_BOOLEAN w_NUMBER) = r) :
    MetFree l (⟨"com/example/stratigraph/stratigraph/rql/TypeIsItemPinLaw", "pick", "(I)Lcom/example/stratigraph/stratigraph/rql/Type;"⟩ : MethodName) (head1 (Jvm.Cond.code (⟨"com/example/stratigraph/stratigraph/rql/TypeIsItemPinLaw", "pick", "(I)Lcom/example/stratigraph/stratigraph/rql/Type;"⟩ : MethodName) method_3_code 1 (some (.object "com/example/stratigraph/stratigraph/rql/Type")) :: ws) ({ frames := 0, cells := 0, slots := 0, locals := 0 } : Room)) (fun ar0 U => ar0 = #[(.int p1)] ∧ Z.Warmed39 U.vm ∧ U.heap = h0) (fun _ _ _ _ _ => True) (fun _ U o U' => ∃ v L, o = .returned v ∧ Q1 Z p1 w_CLASS w_PROPERTY w_RESOURCE w_VALUE w_LITERAL w_RESOURCES w_PAIRS w_ROWS w_BOOLEAN w_NUMBER r h0 n0 v U'.heap L ∧ FrameEnd U o U' L ({ frames := 0, cells := 0, slots := 0, locals := 0 } : Room).cells ({ frames := 0, cells := 0, slots := 0, locals := 0 } : Room).slots) := by
  refine MetFree.of_bodySF (plainFor_of_name pn_1) hisR ?_
  intro p e s m args below meth c s₁ Bd hml0 hP hK
  obtain ⟨rfl, hZ, hh⟩ := hP
  have hx := Bd.exec
  have hby := Bd.bytes
  have hml : c.maxLocals = 1 := hml0
  have hown : s.vm.findClass "com/example/stratigraph/stratigraph/rql/TypeIsItemPinLaw" = some m.cls := findClass_of_methodNamed Bd.named
  have X0 : Stand p l e ({ frames := 0, cells := 0, slots := 0, locals := 0 } : Room) s m #[(.int p1)] below meth c s₁ [] 0 0 := Stand.of_body Bd
  have e0 : s₁.heap = h0 := by rw [← hh, Bd.state]; rfl
  have N0 := Fr.nil n0
  have pre0 : ∀ t, Steps p.tables e below (s₁.setTop (mkF m 0 #[.val (.int p1)] [])) t → Steps p.tables e below (s₁.setTop (entryFrame m #[(.int p1)] 1)) t := fun t k => castTop (ef_1 m p1) k
  have pre1 : ∀ t, Steps p.tables e below (s₁.setTop (mkF m 1 #[.val (.int p1)] [(.int p1)])) t → Steps p.tables e below (s₁.setTop (entryFrame m #[(.int p1)] 1)) t := by
    intro t k
    refine pre0 _ ?_
    show Steps p.tables e below (s₁.setTop (mkF m 0 #[.val (.int p1)] [])) _
    refine XS.iloadN X0.here hx rfl (hb hby d1_0) rfl ?_
    show Steps p.tables e below (s₁.setTop (mkF m 1 #[.val (.int p1)] [(.int p1)])) _
    exact k
  by_cases hc2 : p1 = (0 : Int32)
  ·
    have pre3 : ∀ t, Steps p.tables e below (s₁.setTop (mkF m 4 #[.val (.int p1)] [])) t → Steps p.tables e below (s₁.setTop (entryFrame m #[(.int p1)] 1)) t := by
      intro t k
      refine pre1 _ ?_
      refine XS.ifNo X0.here hx rfl (hb hby d1_1) rfl ((if0 _ _).trans (teq (hc2 : p1 = (0 : Int32))).2) ?_
      exact k
    obtain ⟨T4, X4, e4, st4⟩ := getS2 X0 hx hZ hown (host := "") (Or.inl (hw _ (List.mem_of_getElem? (i := 5) rfl))) Via.refl e0 S_CLASS (g := (mkF m 4 #[.val (.int p1)] [])) rfl (hb hby d1_4)
    have hres : w_CLASS = r := (show (own_pick p1 w_CLASS w_PROPERTY w_RESOURCE w_VALUE w_LITERAL w_RESOURCES w_PAIRS w_ROWS w_BOOLEAN w_NUMBER) = w_CLASS from (by unfold own_pick; rw [if_pos (hc2 : p1 = (0 : Int32))])).symm.trans hr
    obtain ⟨fs, hr5, hrun, hended, hW, hsame⟩ := X4.leave (v := some (.ref w_CLASS)) (fun h => by rw [Bd.returns] at h; cases h)
    refine ⟨_, _, pre3 _ ?_, hrun, hended, _, _, rfl, ?_, ⟨_, rfl⟩, hW, hsame.mono (by decide) (by decide)⟩
    · show Steps p.tables e below (s₁.setTop (mkF m 4 #[.val (.int p1)] [])) _
      refine st4 _ ?_
      show Steps p.tables e below (T4.setTop (mkF m 7 #[.val (.int p1)] [(.ref w_CLASS)])) _
      exact retOut X4 hx Bd.returns rfl (Or.inr (Or.inr (Or.inr (Or.inr ⟨rfl, rfl, rfl⟩)))) (hb hby d1_7) hr5
    · show Q1 Z _ _ _ _ _ _ _ _ _ _ _ _ h0 n0 _ T4.heap _
      rw [e4]
      exact ⟨by rw [hres], N0, rfl⟩
  ·
    have pre6 : ∀ t, Steps p.tables e below (s₁.setTop (mkF m 8 #[.val (.int p1)] [])) t → Steps p.tables e below (s₁.setTop (entryFrame m #[(.int p1)] 1)) t := by
      intro t k
      refine pre1 _ ?_
      refine XS.ifYes X0.here hx rfl (pc0 := 1) (pc' := 8) rfl (hb hby d1_1) rfl ((if0 _ _).trans (feq (hc2 : ¬ (p1 = (0 : Int32)))).2) (by decide) (by decide) ?_
      exact k
    have pre7 : ∀ t, Steps p.tables e below (s₁.setTop (mkF m 10 #[.val (.int p1)] [(.int (1 : Int32)), (.int p1)])) t → Steps p.tables e below (s₁.setTop (entryFrame m #[(.int p1)] 1)) t := by
      intro t k
      refine pre6 _ ?_
      show Steps p.tables e below (s₁.setTop (mkF m 8 #[.val (.int p1)] [])) _
      refine XS.iloadN X0.here hx rfl (hb hby d1_8) rfl ?_
      show Steps p.tables e below (s₁.setTop (mkF m 9 #[.val (.int p1)] [(.int p1)])) _
      refine XT.iconstV X0.here hx rfl (1 : Int32) (hb hby d1_9) (by decide) ?_
      show Steps p.tables e below (s₁.setTop (mkF m 10 #[.val (.int p1)] [(.int (1 : Int32)), (.int p1)])) _
      exact k
    by_cases hc8 : p1 = (1 : Int32)
    ·
      have pre9 : ∀ t, Steps p.tables e below (s₁.setTop (mkF m 13 #[.val (.int p1)] [])) t → Steps p.tables e below (s₁.setTop (entryFrame m #[(.int p1)] 1)) t := by
        intro t k
        refine pre7 _ ?_
        refine XS.icmpNo X0.here hx rfl (hb hby d1_10) rfl (teq (hc8 : p1 = (1 : Int32))).2 ?_
        exact k
      obtain ⟨T10, X10, e10, st10⟩ := getS2 X0 hx hZ hown (host := "") (Or.inl (hw _ (List.mem_of_getElem? (i := 31) rfl))) Via.refl e0 S_PROPERTY (g := (mkF m 13 #[.val (.int p1)] [])) rfl (hb hby d1_13)
      have hres : w_PROPERTY = r := (show (own_pick p1 w_CLASS w_PROPERTY w_RESOURCE w_VALUE w_LITERAL w_RESOURCES w_PAIRS w_ROWS w_BOOLEAN w_NUMBER) = w_PROPERTY from (by unfold own_pick; rw [if_neg (hc2 : ¬ (p1 = (0 : Int32))), if_pos (hc8 : p1 = (1 : Int32))])).symm.trans hr
      obtain ⟨fs, hr11, hrun, hended, hW, hsame⟩ := X10.leave (v := some (.ref w_PROPERTY)) (fun h => by rw [Bd.returns] at h; cases h)
      refine ⟨_, _, pre9 _ ?_, hrun, hended, _, _, rfl, ?_, ⟨_, rfl⟩, hW, hsame.mono (by decide) (by decide)⟩
      · show Steps p.tables e below (s₁.setTop (mkF m 13 #[.val (.int p1)] [])) _
        refine st10 _ ?_
        show Steps p.tables e below (T10.setTop (mkF m 16 #[.val (.int p1)] [(.ref w_PROPERTY)])) _
        exact retOut X10 hx Bd.returns rfl (Or.inr (Or.inr (Or.inr (Or.inr ⟨rfl, rfl, rfl⟩)))) (hb hby d1_16) hr11
      · show Q1 Z _ _ _ _ _ _ _ _ _ _ _ _ h0 n0 _ T10.heap _
        rw [e10]
        exact ⟨by rw [hres], N0, rfl⟩
    ·
      have pre12 : ∀ t, Steps p.tables e below (s₁.setTop (mkF m 17 #[.val (.int p1)] [])) t → Steps p.tables e below (s₁.setTop (entryFrame m #[(.int p1)] 1)) t := by
        intro t k
        refine pre7 _ ?_
        refine XS.icmpYes X0.here hx rfl (pc0 := 10) (pc' := 17) rfl (hb hby d1_10) rfl (feq (hc8 : ¬ (p1 = (1 : Int32)))).2 (by decide) (by decide) ?_
        exact k
      have pre13 : ∀ t, Steps p.tables e below (s₁.setTop (mkF m 19 #[.val (.int p1)] [(.int (2 : Int32)), (.int p1)])) t → Steps p.tables e below (s₁.setTop (entryFrame m #[(.int p1)] 1)) t := by
        intro t k
        refine pre12 _ ?_
        show Steps p.tables e below (s₁.setTop (mkF m 17 #[.val (.int p1)] [])) _
        refine XS.iloadN X0.here hx rfl (hb hby d1_17) rfl ?_
        show Steps p.tables e below (s₁.setTop (mkF m 18 #[.val (.int p1)] [(.int p1)])) _
        refine XT.iconstV X0.here hx rfl (2 : Int32) (hb hby d1_18) (by decide) ?_
        show Steps p.tables e below (s₁.setTop (mkF m 19 #[.val (.int p1)] [(.int (2 : Int32)), (.int p1)])) _
        exact k
      by_cases hc14 : p1 = (2 : Int32)
      ·
        have pre15 : ∀ t, Steps p.tables e below (s₁.setTop (mkF m 22 #[.val (.int p1)] [])) t → Steps p.tables e below (s₁.setTop (entryFrame m #[(.int p1)] 1)) t := by
          intro t k
          refine pre13 _ ?_
          refine XS.icmpNo X0.here hx rfl (hb hby d1_19) rfl (teq (hc14 : p1 = (2 : Int32))).2 ?_
          exact k
        obtain ⟨T16, X16, e16, st16⟩ := getS2 X0 hx hZ hown (host := "") (Or.inl (hw _ (List.mem_of_getElem? (i := 35) rfl))) Via.refl e0 S_RESOURCE (g := (mkF m 22 #[.val (.int p1)] [])) rfl (hb hby d1_22)
        have hres : w_RESOURCE = r := (show (own_pick p1 w_CLASS w_PROPERTY w_RESOURCE w_VALUE w_LITERAL w_RESOURCES w_PAIRS w_ROWS w_BOOLEAN w_NUMBER) = w_RESOURCE from (by unfold own_pick; rw [if_neg (hc2 : ¬ (p1 = (0 : Int32))), if_neg (hc8 : ¬ (p1 = (1 : Int32))), if_pos (hc14 : p1 = (2 : Int32))])).symm.trans hr
        obtain ⟨fs, hr17, hrun, hended, hW, hsame⟩ := X16.leave (v := some (.ref w_RESOURCE)) (fun h => by rw [Bd.returns] at h; cases h)
        refine ⟨_, _, pre15 _ ?_, hrun, hended, _, _, rfl, ?_, ⟨_, rfl⟩, hW, hsame.mono (by decide) (by decide)⟩
        · show Steps p.tables e below (s₁.setTop (mkF m 22 #[.val (.int p1)] [])) _
          refine st16 _ ?_
          show Steps p.tables e below (T16.setTop (mkF m 25 #[.val (.int p1)] [(.ref w_RESOURCE)])) _
          exact retOut X16 hx Bd.returns rfl (Or.inr (Or.inr (Or.inr (Or.inr ⟨rfl, rfl, rfl⟩)))) (hb hby d1_25) hr17
        · show Q1 Z _ _ _ _ _ _ _ _ _ _ _ _ h0 n0 _ T16.heap _
          rw [e16]
          exact ⟨by rw [hres], N0, rfl⟩
      ·
        have pre18 : ∀ t, Steps p.tables e below (s₁.setTop (mkF m 26 #[.val (.int p1)] [])) t → Steps p.tables e below (s₁.setTop (entryFrame m #[(.int p1)] 1)) t := by
          intro t k
          refine pre13 _ ?_
          refine XS.icmpYes X0.here hx rfl (pc0 := 19) (pc' := 26) rfl (hb hby d1_19) rfl (feq (hc14 : ¬ (p1 = (2 : Int32)))).2 (by decide) (by decide) ?_
          exact k
        have pre19 : ∀ t, Steps p.tables e below (s₁.setTop (mkF m 28 #[.val (.int p1)] [(.int (3 : Int32)), (.int p1)])) t → Steps p.tables e below (s₁.setTop (entryFrame m #[(.int p1)] 1)) t := by
          intro t k
          refine pre18 _ ?_
          show Steps p.tables e below (s₁.setTop (mkF m 26 #[.val (.int p1)] [])) _
          refine XS.iloadN X0.here hx rfl (hb hby d1_26) rfl ?_
          show Steps p.tables e below (s₁.setTop (mkF m 27 #[.val (.int p1)] [(.int p1)])) _
          refine XT.iconstV X0.here hx rfl (3 : Int32) (hb hby d1_27) (by decide) ?_
          show Steps p.tables e below (s₁.setTop (mkF m 28 #[.val (.int p1)] [(.int (3 : Int32)), (.int p1)])) _
          exact k
        by_cases hc20 : p1 = (3 : Int32)
        ·
          have pre21 : ∀ t, Steps p.tables e below (s₁.setTop (mkF m 31 #[.val (.int p1)] [])) t → Steps p.tables e below (s₁.setTop (entryFrame m #[(.int p1)] 1)) t := by
            intro t k
            refine pre19 _ ?_
            refine XS.icmpNo X0.here hx rfl (hb hby d1_28) rfl (teq (hc20 : p1 = (3 : Int32))).2 ?_
            exact k
          obtain ⟨T22, X22, e22, st22⟩ := getS2 X0 hx hZ hown (host := "") (Or.inl (hw _ (List.mem_of_getElem? (i := 24) rfl))) Via.refl e0 S_VALUE (g := (mkF m 31 #[.val (.int p1)] [])) rfl (hb hby d1_31)
          have hres : w_VALUE = r := (show (own_pick p1 w_CLASS w_PROPERTY w_RESOURCE w_VALUE w_LITERAL w_RESOURCES w_PAIRS w_ROWS w_BOOLEAN w_NUMBER) = w_VALUE from (by unfold own_pick; rw [if_neg (hc2 : ¬ (p1 = (0 : Int32))), if_neg (hc8 : ¬ (p1 = (1 : Int32))), if_neg (hc14 : ¬ (p1 = (2 : Int32))), if_pos (hc20 : p1 = (3 : Int32))])).symm.trans hr
          obtain ⟨fs, hr23, hrun, hended, hW, hsame⟩ := X22.leave (v := some (.ref w_VALUE)) (fun h => by rw [Bd.returns] at h; cases h)
          refine ⟨_, _, pre21 _ ?_, hrun, hended, _, _, rfl, ?_, ⟨_, rfl⟩, hW, hsame.mono (by decide) (by decide)⟩
          · show Steps p.tables e below (s₁.setTop (mkF m 31 #[.val (.int p1)] [])) _
            refine st22 _ ?_
            show Steps p.tables e below (T22.setTop (mkF m 34 #[.val (.int p1)] [(.ref w_VALUE)])) _
            exact retOut X22 hx Bd.returns rfl (Or.inr (Or.inr (Or.inr (Or.inr ⟨rfl, rfl, rfl⟩)))) (hb hby d1_34) hr23
          · show Q1 Z _ _ _ _ _ _ _ _ _ _ _ _ h0 n0 _ T22.heap _
            rw [e22]
            exact ⟨by rw [hres], N0, rfl⟩
        ·
          have pre24 : ∀ t, Steps p.tables e below (s₁.setTop (mkF m 35 #[.val (.int p1)] [])) t → Steps p.tables e below (s₁.setTop (entryFrame m #[(.int p1)] 1)) t := by
            intro t k
            refine pre19 _ ?_
            refine XS.icmpYes X0.here hx rfl (pc0 := 28) (pc' := 35) rfl (hb hby d1_28) rfl (feq (hc20 : ¬ (p1 = (3 : Int32)))).2 (by decide) (by decide) ?_
            exact k
          have pre25 : ∀ t, Steps p.tables e below (s₁.setTop (mkF m 37 #[.val (.int p1)] [(.int (4 : Int32)), (.int p1)])) t → Steps p.tables e below (s₁.setTop (entryFrame m #[(.int p1)] 1)) t := by
            intro t k
            refine pre24 _ ?_
            show Steps p.tables e below (s₁.setTop (mkF m 35 #[.val (.int p1)] [])) _
            refine XS.iloadN X0.here hx rfl (hb hby d1_35) rfl ?_
            show Steps p.tables e below (s₁.setTop (mkF m 36 #[.val (.int p1)] [(.int p1)])) _
            refine XT.iconstV X0.here hx rfl (4 : Int32) (hb hby d1_36) (by decide) ?_
            show Steps p.tables e below (s₁.setTop (mkF m 37 #[.val (.int p1)] [(.int (4 : Int32)), (.int p1)])) _
            exact k
          by_cases hc26 : p1 = (4 : Int32)
          ·
            have pre27 : ∀ t, Steps p.tables e below (s₁.setTop (mkF m 40 #[.val (.int p1)] [])) t → Steps p.tables e below (s₁.setTop (entryFrame m #[(.int p1)] 1)) t := by
              intro t k
              refine pre25 _ ?_
              refine XS.icmpNo X0.here hx rfl (hb hby d1_37) rfl (teq (hc26 : p1 = (4 : Int32))).2 ?_
              exact k
            obtain ⟨T28, X28, e28, st28⟩ := getS2 X0 hx hZ hown (host := "") (Or.inl (hw _ (List.mem_of_getElem? (i := 32) rfl))) Via.refl e0 S_LITERAL (g := (mkF m 40 #[.val (.int p1)] [])) rfl (hb hby d1_40)
            have hres : w_LITERAL = r := (show (own_pick p1 w_CLASS w_PROPERTY w_RESOURCE w_VALUE w_LITERAL w_RESOURCES w_PAIRS w_ROWS w_BOOLEAN w_NUMBER) = w_LITERAL from (by unfold own_pick; rw [if_neg (hc2 : ¬ (p1 = (0 : Int32))), if_neg (hc8 : ¬ (p1 = (1 : Int32))), if_neg (hc14 : ¬ (p1 = (2 : Int32))), if_neg (hc20 : ¬ (p1 = (3 : Int32))), if_pos (hc26 : p1 = (4 : Int32))])).symm.trans hr
            obtain ⟨fs, hr29, hrun, hended, hW, hsame⟩ := X28.leave (v := some (.ref w_LITERAL)) (fun h => by rw [Bd.returns] at h; cases h)
            refine ⟨_, _, pre27 _ ?_, hrun, hended, _, _, rfl, ?_, ⟨_, rfl⟩, hW, hsame.mono (by decide) (by decide)⟩
            · show Steps p.tables e below (s₁.setTop (mkF m 40 #[.val (.int p1)] [])) _
              refine st28 _ ?_
              show Steps p.tables e below (T28.setTop (mkF m 43 #[.val (.int p1)] [(.ref w_LITERAL)])) _
              exact retOut X28 hx Bd.returns rfl (Or.inr (Or.inr (Or.inr (Or.inr ⟨rfl, rfl, rfl⟩)))) (hb hby d1_43) hr29
            · show Q1 Z _ _ _ _ _ _ _ _ _ _ _ _ h0 n0 _ T28.heap _
              rw [e28]
              exact ⟨by rw [hres], N0, rfl⟩
          ·
            have pre30 : ∀ t, Steps p.tables e below (s₁.setTop (mkF m 44 #[.val (.int p1)] [])) t → Steps p.tables e below (s₁.setTop (entryFrame m #[(.int p1)] 1)) t := by
              intro t k
              refine pre25 _ ?_
              refine XS.icmpYes X0.here hx rfl (pc0 := 37) (pc' := 44) rfl (hb hby d1_37) rfl (feq (hc26 : ¬ (p1 = (4 : Int32)))).2 (by decide) (by decide) ?_
              exact k
            have pre31 : ∀ t, Steps p.tables e below (s₁.setTop (mkF m 46 #[.val (.int p1)] [(.int (5 : Int32)), (.int p1)])) t → Steps p.tables e below (s₁.setTop (entryFrame m #[(.int p1)] 1)) t := by
              intro t k
              refine pre30 _ ?_
              show Steps p.tables e below (s₁.setTop (mkF m 44 #[.val (.int p1)] [])) _
              refine XS.iloadN X0.here hx rfl (hb hby d1_44) rfl ?_
              show Steps p.tables e below (s₁.setTop (mkF m 45 #[.val (.int p1)] [(.int p1)])) _
              refine XT.iconstV X0.here hx rfl (5 : Int32) (hb hby d1_45) (by decide) ?_
              show Steps p.tables e below (s₁.setTop (mkF m 46 #[.val (.int p1)] [(.int (5 : Int32)), (.int p1)])) _
              exact k
            by_cases hc32 : p1 = (5 : Int32)
            ·
              have pre33 : ∀ t, Steps p.tables e below (s₁.setTop (mkF m 49 #[.val (.int p1)] [])) t → Steps p.tables e below (s₁.setTop (entryFrame m #[(.int p1)] 1)) t := by
                intro t k
                refine pre31 _ ?_
                refine XS.icmpNo X0.here hx rfl (hb hby d1_46) rfl (teq (hc32 : p1 = (5 : Int32))).2 ?_
                exact k
              obtain ⟨T34, X34, e34, st34⟩ := getS2 X0 hx hZ hown (host := "") (Or.inl (hw _ (List.mem_of_getElem? (i := 8) rfl))) Via.refl e0 S_RESOURCES (g := (mkF m 49 #[.val (.int p1)] [])) rfl (hb hby d1_49)
              have hres : w_RESOURCES = r := (show (own_pick p1 w_CLASS w_PROPERTY w_RESOURCE w_VALUE w_LITERAL w_RESOURCES w_PAIRS w_ROWS w_BOOLEAN w_NUMBER) = w_RESOURCES from (by unfold own_pick; rw [if_neg (hc2 : ¬ (p1 = (0 : Int32))), if_neg (hc8 : ¬ (p1 = (1 : Int32))), if_neg (hc14 : ¬ (p1 = (2 : Int32))), if_neg (hc20 : ¬ (p1 = (3 : Int32))), if_neg (hc26 : ¬ (p1 = (4 : Int32))), if_pos (hc32 : p1 = (5 : Int32))])).symm.trans hr
              obtain ⟨fs, hr35, hrun, hended, hW, hsame⟩ := X34.leave (v := some (.ref w_RESOURCES)) (fun h => by rw [Bd.returns] at h; cases h)
              refine ⟨_, _, pre33 _ ?_, hrun, hended, _, _, rfl, ?_, ⟨_, rfl⟩, hW, hsame.mono (by decide) (by decide)⟩
              · show Steps p.tables e below (s₁.setTop (mkF m 49 #[.val (.int p1)] [])) _
                refine st34 _ ?_
                show Steps p.tables e below (T34.setTop (mkF m 52 #[.val (.int p1)] [(.ref w_RESOURCES)])) _
                exact retOut X34 hx Bd.returns rfl (Or.inr (Or.inr (Or.inr (Or.inr ⟨rfl, rfl, rfl⟩)))) (hb hby d1_52) hr35
              · show Q1 Z _ _ _ _ _ _ _ _ _ _ _ _ h0 n0 _ T34.heap _
                rw [e34]
                exact ⟨by rw [hres], N0, rfl⟩
            ·
              have pre36 : ∀ t, Steps p.tables e below (s₁.setTop (mkF m 53 #[.val (.int p1)] [])) t → Steps p.tables e below (s₁.setTop (entryFrame m #[(.int p1)] 1)) t := by
                intro t k
                refine pre31 _ ?_
                refine XS.icmpYes X0.here hx rfl (pc0 := 46) (pc' := 53) rfl (hb hby d1_46) rfl (feq (hc32 : ¬ (p1 = (5 : Int32)))).2 (by decide) (by decide) ?_
                exact k
              have pre37 : ∀ t, Steps p.tables e below (s₁.setTop (mkF m 56 #[.val (.int p1)] [(.int (6 : Int32)), (.int p1)])) t → Steps p.tables e below (s₁.setTop (entryFrame m #[(.int p1)] 1)) t := by
                intro t k
                refine pre36 _ ?_
                show Steps p.tables e below (s₁.setTop (mkF m 53 #[.val (.int p1)] [])) _
                refine XS.iloadN X0.here hx rfl (hb hby d1_53) rfl ?_
                show Steps p.tables e below (s₁.setTop (mkF m 54 #[.val (.int p1)] [(.int p1)])) _
                refine XT.bipushV X0.here hx rfl (6 : Int32) (hb hby d1_54) (by decide) ?_
                show Steps p.tables e below (s₁.setTop (mkF m 56 #[.val (.int p1)] [(.int (6 : Int32)), (.int p1)])) _
                exact k
              by_cases hc38 : p1 = (6 : Int32)
              ·
                have pre39 : ∀ t, Steps p.tables e below (s₁.setTop (mkF m 59 #[.val (.int p1)] [])) t → Steps p.tables e below (s₁.setTop (entryFrame m #[(.int p1)] 1)) t := by
                  intro t k
                  refine pre37 _ ?_
                  refine XS.icmpNo X0.here hx rfl (hb hby d1_56) rfl (teq (hc38 : p1 = (6 : Int32))).2 ?_
                  exact k
                obtain ⟨T40, X40, e40, st40⟩ := getS2 X0 hx hZ hown (host := "") (Or.inl (hw _ (List.mem_of_getElem? (i := 10) rfl))) Via.refl e0 S_PAIRS (g := (mkF m 59 #[.val (.int p1)] [])) rfl (hb hby d1_59)
                have hres : w_PAIRS = r := (show (own_pick p1 w_CLASS w_PROPERTY w_RESOURCE w_VALUE w_LITERAL w_RESOURCES w_PAIRS w_ROWS w_BOOLEAN w_NUMBER) = w_PAIRS from (by unfold own_pick; rw [if_neg (hc2 : ¬ (p1 = (0 : Int32))), if_neg (hc8 : ¬ (p1 = (1 : Int32))), if_neg (hc14 : ¬ (p1 = (2 : Int32))), if_neg (hc20 : ¬ (p1 = (3 : Int32))), if_neg (hc26 : ¬ (p1 = (4 : Int32))), if_neg (hc32 : ¬ (p1 = (5 : Int32))), if_pos (hc38 : p1 = (6 : Int32))])).symm.trans hr
                obtain ⟨fs, hr41, hrun, hended, hW, hsame⟩ := X40.leave (v := some (.ref w_PAIRS)) (fun h => by rw [Bd.returns] at h; cases h)
                refine ⟨_, _, pre39 _ ?_, hrun, hended, _, _, rfl, ?_, ⟨_, rfl⟩, hW, hsame.mono (by decide) (by decide)⟩
                · show Steps p.tables e below (s₁.setTop (mkF m 59 #[.val (.int p1)] [])) _
                  refine st40 _ ?_
                  show Steps p.tables e below (T40.setTop (mkF m 62 #[.val (.int p1)] [(.ref w_PAIRS)])) _
                  exact retOut X40 hx Bd.returns rfl (Or.inr (Or.inr (Or.inr (Or.inr ⟨rfl, rfl, rfl⟩)))) (hb hby d1_62) hr41
                · show Q1 Z _ _ _ _ _ _ _ _ _ _ _ _ h0 n0 _ T40.heap _
                  rw [e40]
                  exact ⟨by rw [hres], N0, rfl⟩
              ·
                have pre42 : ∀ t, Steps p.tables e below (s₁.setTop (mkF m 63 #[.val (.int p1)] [])) t → Steps p.tables e below (s₁.setTop (entryFrame m #[(.int p1)] 1)) t := by
                  intro t k
                  refine pre37 _ ?_
                  refine XS.icmpYes X0.here hx rfl (pc0 := 56) (pc' := 63) rfl (hb hby d1_56) rfl (feq (hc38 : ¬ (p1 = (6 : Int32)))).2 (by decide) (by decide) ?_
                  exact k
                have pre43 : ∀ t, Steps p.tables e below (s₁.setTop (mkF m 66 #[.val (.int p1)] [(.int (7 : Int32)), (.int p1)])) t → Steps p.tables e below (s₁.setTop (entryFrame m #[(.int p1)] 1)) t := by
                  intro t k
                  refine pre42 _ ?_
                  show Steps p.tables e below (s₁.setTop (mkF m 63 #[.val (.int p1)] [])) _
                  refine XS.iloadN X0.here hx rfl (hb hby d1_63) rfl ?_
                  show Steps p.tables e below (s₁.setTop (mkF m 64 #[.val (.int p1)] [(.int p1)])) _
                  refine XT.bipushV X0.here hx rfl (7 : Int32) (hb hby d1_64) (by decide) ?_
                  show Steps p.tables e below (s₁.setTop (mkF m 66 #[.val (.int p1)] [(.int (7 : Int32)), (.int p1)])) _
                  exact k
                by_cases hc44 : p1 = (7 : Int32)
                ·
                  have pre45 : ∀ t, Steps p.tables e below (s₁.setTop (mkF m 69 #[.val (.int p1)] [])) t → Steps p.tables e below (s₁.setTop (entryFrame m #[(.int p1)] 1)) t := by
                    intro t k
                    refine pre43 _ ?_
                    refine XS.icmpNo X0.here hx rfl (hb hby d1_66) rfl (teq (hc44 : p1 = (7 : Int32))).2 ?_
                    exact k
                  obtain ⟨T46, X46, e46, st46⟩ := getS2 X0 hx hZ hown (host := "") (Or.inl (hw _ (List.mem_of_getElem? (i := 12) rfl))) Via.refl e0 S_ROWS (g := (mkF m 69 #[.val (.int p1)] [])) rfl (hb hby d1_69)
                  have hres : w_ROWS = r := (show (own_pick p1 w_CLASS w_PROPERTY w_RESOURCE w_VALUE w_LITERAL w_RESOURCES w_PAIRS w_ROWS w_BOOLEAN w_NUMBER) = w_ROWS from (by unfold own_pick; rw [if_neg (hc2 : ¬ (p1 = (0 : Int32))), if_neg (hc8 : ¬ (p1 = (1 : Int32))), if_neg (hc14 : ¬ (p1 = (2 : Int32))), if_neg (hc20 : ¬ (p1 = (3 : Int32))), if_neg (hc26 : ¬ (p1 = (4 : Int32))), if_neg (hc32 : ¬ (p1 = (5 : Int32))), if_neg (hc38 : ¬ (p1 = (6 : Int32))), if_pos (hc44 : p1 = (7 : Int32))])).symm.trans hr
                  obtain ⟨fs, hr47, hrun, hended, hW, hsame⟩ := X46.leave (v := some (.ref w_ROWS)) (fun h => by rw [Bd.returns] at h; cases h)
                  refine ⟨_, _, pre45 _ ?_, hrun, hended, _, _, rfl, ?_, ⟨_, rfl⟩, hW, hsame.mono (by decide) (by decide)⟩
                  · show Steps p.tables e below (s₁.setTop (mkF m 69 #[.val (.int p1)] [])) _
                    refine st46 _ ?_
                    show Steps p.tables e below (T46.setTop (mkF m 72 #[.val (.int p1)] [(.ref w_ROWS)])) _
                    exact retOut X46 hx Bd.returns rfl (Or.inr (Or.inr (Or.inr (Or.inr ⟨rfl, rfl, rfl⟩)))) (hb hby d1_72) hr47
                  · show Q1 Z _ _ _ _ _ _ _ _ _ _ _ _ h0 n0 _ T46.heap _
                    rw [e46]
                    exact ⟨by rw [hres], N0, rfl⟩
                ·
                  have pre48 : ∀ t, Steps p.tables e below (s₁.setTop (mkF m 73 #[.val (.int p1)] [])) t → Steps p.tables e below (s₁.setTop (entryFrame m #[(.int p1)] 1)) t := by
                    intro t k
                    refine pre43 _ ?_
                    refine XS.icmpYes X0.here hx rfl (pc0 := 66) (pc' := 73) rfl (hb hby d1_66) rfl (feq (hc44 : ¬ (p1 = (7 : Int32)))).2 (by decide) (by decide) ?_
                    exact k
                  have pre49 : ∀ t, Steps p.tables e below (s₁.setTop (mkF m 76 #[.val (.int p1)] [(.int (8 : Int32)), (.int p1)])) t → Steps p.tables e below (s₁.setTop (entryFrame m #[(.int p1)] 1)) t := by
                    intro t k
                    refine pre48 _ ?_
                    show Steps p.tables e below (s₁.setTop (mkF m 73 #[.val (.int p1)] [])) _
                    refine XS.iloadN X0.here hx rfl (hb hby d1_73) rfl ?_
                    show Steps p.tables e below (s₁.setTop (mkF m 74 #[.val (.int p1)] [(.int p1)])) _
                    refine XT.bipushV X0.here hx rfl (8 : Int32) (hb hby d1_74) (by decide) ?_
                    show Steps p.tables e below (s₁.setTop (mkF m 76 #[.val (.int p1)] [(.int (8 : Int32)), (.int p1)])) _
                    exact k
                  by_cases hc50 : p1 = (8 : Int32)
                  ·
                    have pre51 : ∀ t, Steps p.tables e below (s₁.setTop (mkF m 79 #[.val (.int p1)] [])) t → Steps p.tables e below (s₁.setTop (entryFrame m #[(.int p1)] 1)) t := by
                      intro t k
                      refine pre49 _ ?_
                      refine XS.icmpNo X0.here hx rfl (hb hby d1_76) rfl (teq (hc50 : p1 = (8 : Int32))).2 ?_
                      exact k
                    obtain ⟨T52, X52, e52, st52⟩ := getS2 X0 hx hZ hown (host := "") (Or.inl (hw _ (List.mem_of_getElem? (i := 14) rfl))) Via.refl e0 S_BOOLEAN (g := (mkF m 79 #[.val (.int p1)] [])) rfl (hb hby d1_79)
                    have hres : w_BOOLEAN = r := (show (own_pick p1 w_CLASS w_PROPERTY w_RESOURCE w_VALUE w_LITERAL w_RESOURCES w_PAIRS w_ROWS w_BOOLEAN w_NUMBER) = w_BOOLEAN from (by unfold own_pick; rw [if_neg (hc2 : ¬ (p1 = (0 : Int32))), if_neg (hc8 : ¬ (p1 = (1 : Int32))), if_neg (hc14 : ¬ (p1 = (2 : Int32))), if_neg (hc20 : ¬ (p1 = (3 : Int32))), if_neg (hc26 : ¬ (p1 = (4 : Int32))), if_neg (hc32 : ¬ (p1 = (5 : Int32))), if_neg (hc38 : ¬ (p1 = (6 : Int32))), if_neg (hc44 : ¬ (p1 = (7 : Int32))), if_pos (hc50 : p1 = (8 : Int32))])).symm.trans hr
                    obtain ⟨fs, hr53, hrun, hended, hW, hsame⟩ := X52.leave (v := some (.ref w_BOOLEAN)) (fun h => by rw [Bd.returns] at h; cases h)
                    refine ⟨_, _, pre51 _ ?_, hrun, hended, _, _, rfl, ?_, ⟨_, rfl⟩, hW, hsame.mono (by decide) (by decide)⟩
                    · show Steps p.tables e below (s₁.setTop (mkF m 79 #[.val (.int p1)] [])) _
                      refine st52 _ ?_
                      show Steps p.tables e below (T52.setTop (mkF m 82 #[.val (.int p1)] [(.ref w_BOOLEAN)])) _
                      exact retOut X52 hx Bd.returns rfl (Or.inr (Or.inr (Or.inr (Or.inr ⟨rfl, rfl, rfl⟩)))) (hb hby d1_82) hr53
                    · show Q1 Z _ _ _ _ _ _ _ _ _ _ _ _ h0 n0 _ T52.heap _
                      rw [e52]
                      exact ⟨by rw [hres], N0, rfl⟩
                  ·
                    have pre54 : ∀ t, Steps p.tables e below (s₁.setTop (mkF m 83 #[.val (.int p1)] [])) t → Steps p.tables e below (s₁.setTop (entryFrame m #[(.int p1)] 1)) t := by
                      intro t k
                      refine pre49 _ ?_
                      refine XS.icmpYes X0.here hx rfl (pc0 := 76) (pc' := 83) rfl (hb hby d1_76) rfl (feq (hc50 : ¬ (p1 = (8 : Int32)))).2 (by decide) (by decide) ?_
                      exact k
                    obtain ⟨T55, X55, e55, st55⟩ := getS2 X0 hx hZ hown (host := "") (Or.inl (hw _ (List.mem_of_getElem? (i := 16) rfl))) Via.refl e0 S_NUMBER (g := (mkF m 83 #[.val (.int p1)] [])) rfl (hb hby d1_83)
                    have hres : w_NUMBER = r := (show (own_pick p1 w_CLASS w_PROPERTY w_RESOURCE w_VALUE w_LITERAL w_RESOURCES w_PAIRS w_ROWS w_BOOLEAN w_NUMBER) = w_NUMBER from (by unfold own_pick; rw [if_neg (hc2 : ¬ (p1 = (0 : Int32))), if_neg (hc8 : ¬ (p1 = (1 : Int32))), if_neg (hc14 : ¬ (p1 = (2 : Int32))), if_neg (hc20 : ¬ (p1 = (3 : Int32))), if_neg (hc26 : ¬ (p1 = (4 : Int32))), if_neg (hc32 : ¬ (p1 = (5 : Int32))), if_neg (hc38 : ¬ (p1 = (6 : Int32))), if_neg (hc44 : ¬ (p1 = (7 : Int32))), if_neg (hc50 : ¬ (p1 = (8 : Int32)))])).symm.trans hr
                    obtain ⟨fs, hr56, hrun, hended, hW, hsame⟩ := X55.leave (v := some (.ref w_NUMBER)) (fun h => by rw [Bd.returns] at h; cases h)
                    refine ⟨_, _, pre54 _ ?_, hrun, hended, _, _, rfl, ?_, ⟨_, rfl⟩, hW, hsame.mono (by decide) (by decide)⟩
                    · show Steps p.tables e below (s₁.setTop (mkF m 83 #[.val (.int p1)] [])) _
                      refine st55 _ ?_
                      show Steps p.tables e below (T55.setTop (mkF m 86 #[.val (.int p1)] [(.ref w_NUMBER)])) _
                      exact retOut X55 hx Bd.returns rfl (Or.inr (Or.inr (Or.inr (Or.inr ⟨rfl, rfl, rfl⟩)))) (hb hby d1_86) hr56
                    · show Q1 Z _ _ _ _ _ _ _ _ _ _ _ _ h0 n0 _ T55.heap _
                      rw [e55]
                      exact ⟨by rw [hres], N0, rfl⟩
theorem d2_0 : decode prog_78_method_6_code 0 = .ok (.aload_n 0, 1) := by decide +kernel
theorem d2_1 : decode prog_78_method_6_code 1 = .ok (.getstatic 3, 3) := by decide +kernel
theorem d2_4 : decode prog_78_method_6_code 4 = .ok (.if_acmp .eq 31, 3) := by decide +kernel
theorem d2_7 : decode prog_78_method_6_code 7 = .ok (.aload_n 0, 1) := by decide +kernel
theorem d2_8 : decode prog_78_method_6_code 8 = .ok (.getstatic 7, 3) := by decide +kernel
theorem d2_11 : decode prog_78_method_6_code 11 = .ok (.if_acmp .eq 24, 3) := by decide +kernel
theorem d2_14 : decode prog_78_method_6_code 14 = .ok (.aload_n 0, 1) := by decide +kernel
theorem d2_15 : decode prog_78_method_6_code 15 = .ok (.getstatic 10, 3) := by decide +kernel
theorem d2_18 : decode prog_78_method_6_code 18 = .ok (.if_acmp .eq 17, 3) := by decide +kernel
theorem d2_21 : decode prog_78_method_6_code 21 = .ok (.aload_n 0, 1) := by decide +kernel
theorem d2_22 : decode prog_78_method_6_code 22 = .ok (.getstatic 13, 3) := by decide +kernel
theorem d2_25 : decode prog_78_method_6_code 25 = .ok (.if_acmp .eq 10, 3) := by decide +kernel
theorem d2_28 : decode prog_78_method_6_code 28 = .ok (.aload_n 0, 1) := by decide +kernel
theorem d2_29 : decode prog_78_method_6_code 29 = .ok (.getstatic 16, 3) := by decide +kernel
theorem d2_32 : decode prog_78_method_6_code 32 = .ok (.if_acmp .ne 7, 3) := by decide +kernel
theorem d2_35 : decode prog_78_method_6_code 35 = .ok (.iconst 1, 1) := by decide +kernel
theorem d2_36 : decode prog_78_method_6_code 36 = .ok (.goto 4, 3) := by decide +kernel
theorem d2_39 : decode prog_78_method_6_code 39 = .ok (.iconst 0, 1) := by decide +kernel
theorem d2_40 : decode prog_78_method_6_code 40 = .ok (.ireturn, 1) := by decide +kernel
theorem pn_2 : plainName "com/example/stratigraph/stratigraph/rql/Type" = true := by first | (simp [plainName, overriddenIn]; done) | decide +kernel
theorem ef_2 (m : MethodId) (x0 : Addr) : entryFrame m #[(.ref x0)] 1 = mkF m 0 #[.val (.ref x0)] [] := by first | (simp [entryFrame, mkF, argsToLocals, Value.category]; done) | rfl
def Q2 (Z : State) (a : Addr) (w_CLASS : Addr) (w_PROPERTY : Addr) (w_RESOURCE : Addr) (w_VALUE : Addr) (w_LITERAL : Addr) (r : Int32) (h0 : Heap) (n0 : Nat) (v : Option Value) (h : Heap) (L : List Loc) : Prop := v = some (.int r) ∧ Fr n0 L ∧ h = h0
set_option maxRecDepth 65536 in
set_option maxHeartbeats 40000000 in
theorem rm2 (l : Launch) (Z : State) (a0 : Array Value) (hw : ∀ d ∈ tables_1, d.before a0 Z = true) (ws : List Jvm.Cond) (a : Addr) (w_CLASS : Addr) (w_PROPERTY : Addr) (w_RESOURCE : Addr) (w_VALUE : Addr) (w_LITERAL : Addr) (r : Int32) (h0 : Heap) (n0 : Nat) (S_CLASS : Sta Z h0 "com/example/stratigraph/stratigraph/rql/Type" "CLASS" "Lcom/example/stratigraph/stratigraph/rql/Type;" (.ref w_CLASS)) (S_PROPERTY : Sta Z h0 "com/example/stratigraph/stratigraph/rql/Type" "PROPERTY" "Lcom/example/stratigraph/stratigraph/rql/Type;" (.ref w_PROPERTY)) (S_RESOURCE : Sta Z h0 "com/example/stratigraph/stratigraph/rql/Type" "RESOURCE" "Lcom/example/stratigraph/stratigraph/rql/Type;" (.ref w_RESOURCE)) (S_VALUE : Sta Z h0 "com/example/stratigraph/stratigraph/rql/Type" "VALUE" "Lcom/example/stratigraph/stratigraph/rql/Type;" (.ref w_VALUE)) (S_LITERAL : Sta Z h0 "com/example/stratigraph/stratigraph/rql/Type" "LITERAL" "Lcom/example/stratigraph/stratigraph/rql/Type;" (.ref w_LITERAL)) (hr : (own_item a w_CLASS w_PROPERTY w_RESOURCE w_VALUE w_LITERAL) = r) :
    MetFree l (⟨"com/example/stratigraph/stratigraph/rql/Type", "isItem", "()Z"⟩ : MethodName) (head1 (Jvm.Cond.code (⟨"com/example/stratigraph/stratigraph/rql/Type", "isItem", "()Z"⟩ : MethodName) prog_78_method_6_code 1 (some .boolean) :: ws) ({ frames := 0, cells := 0, slots := 0, locals := 0 } : Room)) (fun ar0 U => ar0 = #[(.ref a)] ∧ Z.Warmed39 U.vm ∧ U.heap = h0) (fun _ _ _ _ _ => True) (fun _ U o U' => ∃ v L, o = .returned v ∧ Q2 Z a w_CLASS w_PROPERTY w_RESOURCE w_VALUE w_LITERAL r h0 n0 v U'.heap L ∧ FrameEnd U o U' L ({ frames := 0, cells := 0, slots := 0, locals := 0 } : Room).cells ({ frames := 0, cells := 0, slots := 0, locals := 0 } : Room).slots) := by
  refine MetFree.of_bodySF (plainFor_of_name pn_2) hisR ?_
  intro p e s m args below meth c s₁ Bd hml0 hP hK
  obtain ⟨rfl, hZ, hh⟩ := hP
  have hx := Bd.exec
  have hby := Bd.bytes
  have hml : c.maxLocals = 1 := hml0
  have hown : s.vm.findClass "com/example/stratigraph/stratigraph/rql/Type" = some m.cls := findClass_of_methodNamed Bd.named
  have X0 : Stand p l e ({ frames := 0, cells := 0, slots := 0, locals := 0 } : Room) s m #[(.ref a)] below meth c s₁ [] 0 0 := Stand.of_body Bd
  have e0 : s₁.heap = h0 := by rw [← hh, Bd.state]; rfl
  have N0 := Fr.nil n0
  have pre0 : ∀ t, Steps p.tables e below (s₁.setTop (mkF m 0 #[.val (.ref a)] [])) t → Steps p.tables e below (s₁.setTop (entryFrame m #[(.ref a)] 1)) t := fun t k => castTop (ef_2 m a) k
  obtain ⟨T1, X1, e1, st1⟩ := getS2 X0 hx hZ hown (host := "") (Or.inl (hw _ (List.mem_of_getElem? (i := 23) rfl))) Via.refl e0 S_CLASS (g := (mkF m 1 #[.val (.ref a)] [(.ref a)])) rfl (hb hby d2_1)
  have pre2 : ∀ t, Steps p.tables e below (T1.setTop (mkF m 4 #[.val (.ref a)] [(.ref w_CLASS), (.ref a)])) t → Steps p.tables e below (s₁.setTop (entryFrame m #[(.ref a)] 1)) t := by
    intro t k
    refine pre0 _ ?_
    show Steps p.tables e below (s₁.setTop (mkF m 0 #[.val (.ref a)] [])) _
    refine XS.aloadN X0.here hx rfl (hb hby d2_0) rfl rfl ?_
    show Steps p.tables e below (s₁.setTop (mkF m 1 #[.val (.ref a)] [(.ref a)])) _
    refine st1 _ ?_
    show Steps p.tables e below (T1.setTop (mkF m 4 #[.val (.ref a)] [(.ref w_CLASS), (.ref a)])) _
    exact k
  by_cases hc3 : a = w_CLASS
  ·
    have pre4 : ∀ t, Steps p.tables e below (T1.setTop (mkF m 35 #[.val (.ref a)] [])) t → Steps p.tables e below (s₁.setTop (entryFrame m #[(.ref a)] 1)) t := by
      intro t k
      refine pre2 _ ?_
      refine Jvm.RoadKit.acmp (g := (mkF m 4 #[.val (.ref a)] [(.ref w_CLASS), (.ref a)])) X1 hx rfl rfl rfl (pc0 := 4) (pc' := 35) (same := true) rfl (hb hby d2_4) rfl (decide_eq_true (congrArg Value.ref (hc3 : a = w_CLASS))) (by decide) (by decide) ?_
      exact k
    have hres : (1 : Int32) = r := (show (own_item a w_CLASS w_PROPERTY w_RESOURCE w_VALUE w_LITERAL) = (1 : Int32) from (by unfold own_item; rw [if_pos (hc3 : a = w_CLASS)])).symm.trans hr
    obtain ⟨fs, hr5, hrun, hended, hW, hsame⟩ := X1.leave (v := some (.int (1 : Int32))) (fun h => by rw [Bd.returns] at h; cases h)
    refine ⟨_, _, pre4 _ ?_, hrun, hended, _, _, rfl, ?_, ⟨_, rfl⟩, hW, hsame.mono (by decide) (by decide)⟩
    · show Steps p.tables e below (T1.setTop (mkF m 35 #[.val (.ref a)] [])) _
      refine XT.iconstV X1.here hx rfl (1 : Int32) (hb hby d2_35) (by decide) ?_
      show Steps p.tables e below (T1.setTop (mkF m 36 #[.val (.ref a)] [(.int (1 : Int32))])) _
      refine XS.goto X1.here hx rfl (pc0 := 36) (pc' := 40) rfl (hb hby d2_36) (by decide) (by decide) ?_
      show Steps p.tables e below (T1.setTop (mkF m 40 #[.val (.ref a)] [(.int (1 : Int32))])) _
      exact retN X1 hx (t := .boolean) Bd.returns (by simp) (hb hby d2_40) hr5
    · show Q2 Z _ _ _ _ _ _ _ h0 n0 _ T1.heap _
      rw [e1]
      exact ⟨by rw [hres], N0, rfl⟩
  ·
    have pre6 : ∀ t, Steps p.tables e below (T1.setTop (mkF m 7 #[.val (.ref a)] [])) t → Steps p.tables e below (s₁.setTop (entryFrame m #[(.ref a)] 1)) t := by
      intro t k
      refine pre2 _ ?_
      refine Jvm.RoadKit.acmp (g := (mkF m 4 #[.val (.ref a)] [(.ref w_CLASS), (.ref a)])) X1 hx rfl rfl rfl (pc0 := 4) (pc' := 7) (same := false) rfl (hb hby d2_4) rfl (decide_eq_false fun q => (hc3 : ¬ (a = w_CLASS)) (Value.ref.inj q)) (by decide) (by decide) ?_
      exact k
    obtain ⟨T7, X7, e7, st7⟩ := getS2 X1 hx hZ hown (host := "") (Or.inl (hw _ (List.mem_of_getElem? (i := 26) rfl))) Via.refl e1 S_PROPERTY (g := (mkF m 8 #[.val (.ref a)] [(.ref a)])) rfl (hb hby d2_8)
    have pre8 : ∀ t, Steps p.tables e below (T7.setTop (mkF m 11 #[.val (.ref a)] [(.ref w_PROPERTY), (.ref a)])) t → Steps p.tables e below (s₁.setTop (entryFrame m #[(.ref a)] 1)) t := by
      intro t k
      refine pre6 _ ?_
      show Steps p.tables e below (T1.setTop (mkF m 7 #[.val (.ref a)] [])) _
      refine XS.aloadN X1.here hx rfl (hb hby d2_7) rfl rfl ?_
      show Steps p.tables e below (T1.setTop (mkF m 8 #[.val (.ref a)] [(.ref a)])) _
      refine st7 _ ?_
      show Steps p.tables e below (T7.setTop (mkF m 11 #[.val (.ref a)] [(.ref w_PROPERTY), (.ref a)])) _
      exact k
    by_cases hc9 : a = w_PROPERTY
    ·
      have pre10 : ∀ t, Steps p.tables e below (T7.setTop (mkF m 35 #[.val (.ref a)] [])) t → Steps p.tables e below (s₁.setTop (entryFrame m #[(.ref a)] 1)) t := by
        intro t k
        refine pre8 _ ?_
        refine Jvm.RoadKit.acmp (g := (mkF m 11 #[.val (.ref a)] [(.ref w_PROPERTY), (.ref a)])) X7 hx rfl rfl rfl (pc0 := 11) (pc' := 35) (same := true) rfl (hb hby d2_11) rfl (decide_eq_true (congrArg Value.ref (hc9 : a = w_PROPERTY))) (by decide) (by decide) ?_
        exact k
      have hres : (1 : Int32) = r := (show (own_item a w_CLASS w_PROPERTY w_RESOURCE w_VALUE w_LITERAL) = (1 : Int32) from (by unfold own_item; rw [if_neg (hc3 : ¬ (a = w_CLASS)), if_pos (hc9 : a = w_PROPERTY)])).symm.trans hr
      obtain ⟨fs, hr11, hrun, hended, hW, hsame⟩ := X7.leave (v := some (.int (1 : Int32))) (fun h => by rw [Bd.returns] at h; cases h)
      refine ⟨_, _, pre10 _ ?_, hrun, hended, _, _, rfl, ?_, ⟨_, rfl⟩, hW, hsame.mono (by decide) (by decide)⟩
      · show Steps p.tables e below (T7.setTop (mkF m 35 #[.val (.ref a)] [])) _
        refine XT.iconstV X7.here hx rfl (1 : Int32) (hb hby d2_35) (by decide) ?_
        show Steps p.tables e below (T7.setTop (mkF m 36 #[.val (.ref a)] [(.int (1 : Int32))])) _
        refine XS.goto X7.here hx rfl (pc0 := 36) (pc' := 40) rfl (hb hby d2_36) (by decide) (by decide) ?_
        show Steps p.tables e below (T7.setTop (mkF m 40 #[.val (.ref a)] [(.int (1 : Int32))])) _
        exact retN X7 hx (t := .boolean) Bd.returns (by simp) (hb hby d2_40) hr11
      · show Q2 Z _ _ _ _ _ _ _ h0 n0 _ T7.heap _
        rw [e7]
        exact ⟨by rw [hres], N0, rfl⟩
    ·
      have pre12 : ∀ t, Steps p.tables e below (T7.setTop (mkF m 14 #[.val (.ref a)] [])) t → Steps p.tables e below (s₁.setTop (entryFrame m #[(.ref a)] 1)) t := by
        intro t k
        refine pre8 _ ?_
        refine Jvm.RoadKit.acmp (g := (mkF m 11 #[.val (.ref a)] [(.ref w_PROPERTY), (.ref a)])) X7 hx rfl rfl rfl (pc0 := 11) (pc' := 14) (same := false) rfl (hb hby d2_11) rfl (decide_eq_false fun q => (hc9 : ¬ (a = w_PROPERTY)) (Value.ref.inj q)) (by decide) (by decide) ?_
        exact k
      obtain ⟨T13, X13, e13, st13⟩ := getS2 X7 hx hZ hown (host := "") (Or.inl (hw _ (List.mem_of_getElem? (i := 28) rfl))) Via.refl e7 S_RESOURCE (g := (mkF m 15 #[.val (.ref a)] [(.ref a)])) rfl (hb hby d2_15)
      have pre14 : ∀ t, Steps p.tables e below (T13.setTop (mkF m 18 #[.val (.ref a)] [(.ref w_RESOURCE), (.ref a)])) t → Steps p.tables e below (s₁.setTop (entryFrame m #[(.ref a)] 1)) t := by
        intro t k
        refine pre12 _ ?_
        show Steps p.tables e below (T7.setTop (mkF m 14 #[.val (.ref a)] [])) _
        refine XS.aloadN X7.here hx rfl (hb hby d2_14) rfl rfl ?_
        show Steps p.tables e below (T7.setTop (mkF m 15 #[.val (.ref a)] [(.ref a)])) _
        refine st13 _ ?_
        show Steps p.tables e below (T13.setTop (mkF m 18 #[.val (.ref a)] [(.ref w_RESOURCE), (.ref a)])) _
        exact k
      by_cases hc15 : a = w_RESOURCE
      ·
        have pre16 : ∀ t, Steps p.tables e below (T13.setTop (mkF m 35 #[.val (.ref a)] [])) t → Steps p.tables e below (s₁.setTop (entryFrame m #[(.ref a)] 1)) t := by
          intro t k
          refine pre14 _ ?_
          refine Jvm.RoadKit.acmp (g := (mkF m 18 #[.val (.ref a)] [(.ref w_RESOURCE), (.ref a)])) X13 hx rfl rfl rfl (pc0 := 18) (pc' := 35) (same := true) rfl (hb hby d2_18) rfl (decide_eq_true (congrArg Value.ref (hc15 : a = w_RESOURCE))) (by decide) (by decide) ?_
          exact k
        have hres : (1 : Int32) = r := (show (own_item a w_CLASS w_PROPERTY w_RESOURCE w_VALUE w_LITERAL) = (1 : Int32) from (by unfold own_item; rw [if_neg (hc3 : ¬ (a = w_CLASS)), if_neg (hc9 : ¬ (a = w_PROPERTY)), if_pos (hc15 : a = w_RESOURCE)])).symm.trans hr
        obtain ⟨fs, hr17, hrun, hended, hW, hsame⟩ := X13.leave (v := some (.int (1 : Int32))) (fun h => by rw [Bd.returns] at h; cases h)
        refine ⟨_, _, pre16 _ ?_, hrun, hended, _, _, rfl, ?_, ⟨_, rfl⟩, hW, hsame.mono (by decide) (by decide)⟩
        · show Steps p.tables e below (T13.setTop (mkF m 35 #[.val (.ref a)] [])) _
          refine XT.iconstV X13.here hx rfl (1 : Int32) (hb hby d2_35) (by decide) ?_
          show Steps p.tables e below (T13.setTop (mkF m 36 #[.val (.ref a)] [(.int (1 : Int32))])) _
          refine XS.goto X13.here hx rfl (pc0 := 36) (pc' := 40) rfl (hb hby d2_36) (by decide) (by decide) ?_
          show Steps p.tables e below (T13.setTop (mkF m 40 #[.val (.ref a)] [(.int (1 : Int32))])) _
          exact retN X13 hx (t := .boolean) Bd.returns (by simp) (hb hby d2_40) hr17
        · show Q2 Z _ _ _ _ _ _ _ h0 n0 _ T13.heap _
          rw [e13]
          exact ⟨by rw [hres], N0, rfl⟩
      ·
        have pre18 : ∀ t, Steps p.tables e below (T13.setTop (mkF m 21 #[.val (.ref a)] [])) t → Steps p.tables e below (s₁.setTop (entryFrame m #[(.ref a)] 1)) t := by
          intro t k
          refine pre14 _ ?_
          refine Jvm.RoadKit.acmp (g := (mkF m 18 #[.val (.ref a)] [(.ref w_RESOURCE), (.ref a)])) X13 hx rfl rfl rfl (pc0 := 18) (pc' := 21) (same := false) rfl (hb hby d2_18) rfl (decide_eq_false fun q => (hc15 : ¬ (a = w_RESOURCE)) (Value.ref.inj q)) (by decide) (by decide) ?_
          exact k
        obtain ⟨T19, X19, e19, st19⟩ := getS2 X13 hx hZ hown (host := "") (Or.inl (hw _ (List.mem_of_getElem? (i := 30) rfl))) Via.refl e13 S_VALUE (g := (mkF m 22 #[.val (.ref a)] [(.ref a)])) rfl (hb hby d2_22)
        have pre20 : ∀ t, Steps p.tables e below (T19.setTop (mkF m 25 #[.val (.ref a)] [(.ref w_VALUE), (.ref a)])) t → Steps p.tables e below (s₁.setTop (entryFrame m #[(.ref a)] 1)) t := by
          intro t k
          refine pre18 _ ?_
          show Steps p.tables e below (T13.setTop (mkF m 21 #[.val (.ref a)] [])) _
          refine XS.aloadN X13.here hx rfl (hb hby d2_21) rfl rfl ?_
          show Steps p.tables e below (T13.setTop (mkF m 22 #[.val (.ref a)] [(.ref a)])) _
          refine st19 _ ?_
          show Steps p.tables e below (T19.setTop (mkF m 25 #[.val (.ref a)] [(.ref w_VALUE), (.ref a)])) _
          exact k
        by_cases hc21 : a = w_VALUE
        ·
          have pre22 : ∀ t, Steps p.tables e below (T19.setTop (mkF m 35 #[.val (.ref a)] [])) t → Steps p.tables e below (s₁.setTop (entryFrame m #[(.ref a)] 1)) t := by
            intro t k
            refine pre20 _ ?_
            refine Jvm.RoadKit.acmp (g := (mkF m 25 #[.val (.ref a)] [(.ref w_VALUE), (.ref a)])) X19 hx rfl rfl rfl (pc0 := 25) (pc' := 35) (same := true) rfl (hb hby d2_25) rfl (decide_eq_true (congrArg Value.ref (hc21 : a = w_VALUE))) (by decide) (by decide) ?_
            exact k
          have hres : (1 : Int32) = r := (show (own_item a w_CLASS w_PROPERTY w_RESOURCE w_VALUE w_LITERAL) = (1 : Int32) from (by unfold own_item; rw [if_neg (hc3 : ¬ (a = w_CLASS)), if_neg (hc9 : ¬ (a = w_PROPERTY)), if_neg (hc15 : ¬ (a = w_RESOURCE)), if_pos (hc21 : a = w_VALUE)])).symm.trans hr
          obtain ⟨fs, hr23, hrun, hended, hW, hsame⟩ := X19.leave (v := some (.int (1 : Int32))) (fun h => by rw [Bd.returns] at h; cases h)
          refine ⟨_, _, pre22 _ ?_, hrun, hended, _, _, rfl, ?_, ⟨_, rfl⟩, hW, hsame.mono (by decide) (by decide)⟩
          · show Steps p.tables e below (T19.setTop (mkF m 35 #[.val (.ref a)] [])) _
            refine XT.iconstV X19.here hx rfl (1 : Int32) (hb hby d2_35) (by decide) ?_
            show Steps p.tables e below (T19.setTop (mkF m 36 #[.val (.ref a)] [(.int (1 : Int32))])) _
            refine XS.goto X19.here hx rfl (pc0 := 36) (pc' := 40) rfl (hb hby d2_36) (by decide) (by decide) ?_
            show Steps p.tables e below (T19.setTop (mkF m 40 #[.val (.ref a)] [(.int (1 : Int32))])) _
            exact retN X19 hx (t := .boolean) Bd.returns (by simp) (hb hby d2_40) hr23
          · show Q2 Z _ _ _ _ _ _ _ h0 n0 _ T19.heap _
            rw [e19]
            exact ⟨by rw [hres], N0, rfl⟩
        ·
          have pre24 : ∀ t, Steps p.tables e below (T19.setTop (mkF m 28 #[.val (.ref a)] [])) t → Steps p.tables e below (s₁.setTop (entryFrame m #[(.ref a)] 1)) t := by
            intro t k
            refine pre20 _ ?_
            refine Jvm.RoadKit.acmp (g := (mkF m 25 #[.val (.ref a)] [(.ref w_VALUE), (.ref a)])) X19 hx rfl rfl rfl (pc0 := 25) (pc' := 28) (same := false) rfl (hb hby d2_25) rfl (decide_eq_false fun q => (hc21 : ¬ (a = w_VALUE)) (Value.ref.inj q)) (by decide) (by decide) ?_
            exact k
          obtain ⟨T25, X25, e25, st25⟩ := getS2 X19 hx hZ hown (host := "") (Or.inl (hw _ (List.mem_of_getElem? (i := 34) rfl))) Via.refl e19 S_LITERAL (g := (mkF m 29 #[.val (.ref a)] [(.ref a)])) rfl (hb hby d2_29)
          have pre26 : ∀ t, Steps p.tables e below (T25.setTop (mkF m 32 #[.val (.ref a)] [(.ref w_LITERAL), (.ref a)])) t → Steps p.tables e below (s₁.setTop (entryFrame m #[(.ref a)] 1)) t := by
            intro t k
            refine pre24 _ ?_
            show Steps p.tables e below (T19.setTop (mkF m 28 #[.val (.ref a)] [])) _
            refine XS.aloadN X19.here hx rfl (hb hby d2_28) rfl rfl ?_
            show Steps p.tables e below (T19.setTop (mkF m 29 #[.val (.ref a)] [(.ref a)])) _
            refine st25 _ ?_
            show Steps p.tables e below (T25.setTop (mkF m 32 #[.val (.ref a)] [(.ref w_LITERAL), (.ref a)])) _
            exact k
          by_cases hc27 : a = w_LITERAL
          ·
            have pre28 : ∀ t, Steps p.tables e below (T25.setTop (mkF m 35 #[.val (.ref a)] [])) t → Steps p.tables e below (s₁.setTop (entryFrame m #[(.ref a)] 1)) t := by
              intro t k
              refine pre26 _ ?_
              refine Jvm.RoadKit.acmp (g := (mkF m 32 #[.val (.ref a)] [(.ref w_LITERAL), (.ref a)])) X25 hx rfl rfl rfl (pc0 := 32) (pc' := 35) (same := true) rfl (hb hby d2_32) rfl (decide_eq_true (congrArg Value.ref (hc27 : a = w_LITERAL))) (by decide) (by decide) ?_
              exact k
            have hres : (1 : Int32) = r := (show (own_item a w_CLASS w_PROPERTY w_RESOURCE w_VALUE w_LITERAL) = (1 : Int32) from (by unfold own_item; rw [if_neg (hc3 : ¬ (a = w_CLASS)), if_neg (hc9 : ¬ (a = w_PROPERTY)), if_neg (hc15 : ¬ (a = w_RESOURCE)), if_neg (hc21 : ¬ (a = w_VALUE)), if_pos (hc27 : a = w_LITERAL)])).symm.trans hr
            obtain ⟨fs, hr29, hrun, hended, hW, hsame⟩ := X25.leave (v := some (.int (1 : Int32))) (fun h => by rw [Bd.returns] at h; cases h)
            refine ⟨_, _, pre28 _ ?_, hrun, hended, _, _, rfl, ?_, ⟨_, rfl⟩, hW, hsame.mono (by decide) (by decide)⟩
            · show Steps p.tables e below (T25.setTop (mkF m 35 #[.val (.ref a)] [])) _
              refine XT.iconstV X25.here hx rfl (1 : Int32) (hb hby d2_35) (by decide) ?_
              show Steps p.tables e below (T25.setTop (mkF m 36 #[.val (.ref a)] [(.int (1 : Int32))])) _
              refine XS.goto X25.here hx rfl (pc0 := 36) (pc' := 40) rfl (hb hby d2_36) (by decide) (by decide) ?_
              show Steps p.tables e below (T25.setTop (mkF m 40 #[.val (.ref a)] [(.int (1 : Int32))])) _
              exact retN X25 hx (t := .boolean) Bd.returns (by simp) (hb hby d2_40) hr29
            · show Q2 Z _ _ _ _ _ _ _ h0 n0 _ T25.heap _
              rw [e25]
              exact ⟨by rw [hres], N0, rfl⟩
          ·
            have pre30 : ∀ t, Steps p.tables e below (T25.setTop (mkF m 39 #[.val (.ref a)] [])) t → Steps p.tables e below (s₁.setTop (entryFrame m #[(.ref a)] 1)) t := by
              intro t k
              refine pre26 _ ?_
              refine Jvm.RoadKit.acmp (g := (mkF m 32 #[.val (.ref a)] [(.ref w_LITERAL), (.ref a)])) X25 hx rfl rfl rfl (pc0 := 32) (pc' := 39) (same := false) rfl (hb hby d2_32) rfl (decide_eq_false fun q => (hc27 : ¬ (a = w_LITERAL)) (Value.ref.inj q)) (by decide) (by decide) ?_
              exact k
            have hres : (0 : Int32) = r := (show (own_item a w_CLASS w_PROPERTY w_RESOURCE w_VALUE w_LITERAL) = (0 : Int32) from (by unfold own_item; rw [if_neg (hc3 : ¬ (a = w_CLASS)), if_neg (hc9 : ¬ (a = w_PROPERTY)), if_neg (hc15 : ¬ (a = w_RESOURCE)), if_neg (hc21 : ¬ (a = w_VALUE)), if_neg (hc27 : ¬ (a = w_LITERAL))])).symm.trans hr
            obtain ⟨fs, hr31, hrun, hended, hW, hsame⟩ := X25.leave (v := some (.int (0 : Int32))) (fun h => by rw [Bd.returns] at h; cases h)
            refine ⟨_, _, pre30 _ ?_, hrun, hended, _, _, rfl, ?_, ⟨_, rfl⟩, hW, hsame.mono (by decide) (by decide)⟩
            · show Steps p.tables e below (T25.setTop (mkF m 39 #[.val (.ref a)] [])) _
              refine XT.iconstV X25.here hx rfl (0 : Int32) (hb hby d2_39) (by decide) ?_
              show Steps p.tables e below (T25.setTop (mkF m 40 #[.val (.ref a)] [(.int (0 : Int32))])) _
              exact retN X25 hx (t := .boolean) Bd.returns (by simp) (hb hby d2_40) hr31
            · show Q2 Z _ _ _ _ _ _ _ h0 n0 _ T25.heap _
              rw [e25]
              exact ⟨by rw [hres], N0, rfl⟩
theorem pn_0 : plainName "com/example/stratigraph/stratigraph/rql/TypeIsItemPinLaw" = true := by first | (simp [plainName, overriddenIn]; done) | decide +kernel
theorem ef_0 (m : MethodId) (x0 : Int32) : entryFrame m #[(.int x0)] maxLocals = mkF m 0 #[.val (.int x0), .unset, .unset, .unset, .unset, .unset] [] := by first | (simp [entryFrame, mkF, argsToLocals, Value.category, maxLocals]; done) | rfl
def Q0 (Z : State) (p1 : Int32) (w_CLASS : Addr) (w_RESOURCES : Addr) (w_PAIRS : Addr) (w_ROWS : Addr) (w_BOOLEAN : Addr) (w_NUMBER : Addr) (w_VALUE : Addr) (w_PROPERTY : Addr) (w_RESOURCE : Addr) (w_LITERAL : Addr) (h0 : Heap) (n0 : Nat) (v : Option Value) (h : Heap) (L : List Loc) : Prop := v = some (.int (1 : Int32)) ∧ Fr n0 L
set_option maxRecDepth 65536 in
set_option maxHeartbeats 40000000 in
theorem rm0 (l : Launch) (Z : State) (a0 : Array Value) (hw : ∀ d ∈ tables_1, d.before a0 Z = true) (ws : List Jvm.Cond) (p1 : Int32) (w_CLASS : Addr) (w_RESOURCES : Addr) (w_PAIRS : Addr) (w_ROWS : Addr) (w_BOOLEAN : Addr) (w_NUMBER : Addr) (w_VALUE : Addr) (w_PROPERTY : Addr) (w_RESOURCE : Addr) (w_LITERAL : Addr) (h0 : Heap) (n0 : Nat) (S_CLASS : Sta Z h0 "com/example/stratigraph/stratigraph/rql/Type" "CLASS" "Lcom/example/stratigraph/stratigraph/rql/Type;" (.ref w_CLASS)) (S_RESOURCES : Sta Z h0 "com/example/stratigraph/stratigraph/rql/Type" "RESOURCES" "Lcom/example/stratigraph/stratigraph/rql/Type;" (.ref w_RESOURCES)) (S_PAIRS : Sta Z h0 "com/example/stratigraph/stratigraph/rql/Type" "PAIRS" "Lcom/example/stratigraph/stratigraph/rql/Type;" (.ref w_PAIRS)) (S_ROWS : Sta Z h0 "com/example/stratigraph/stratigraph/rql/Type" "ROWS" "Lcom/example/stratigraph/stratigraph/rql/Type;" (.ref w_ROWS)) (S_BOOLEAN : Sta Z h0 "com/example/stratigraph/stratigraph/rql/Type" "BOOLEAN" "Lcom/example/stratigraph/stratigraph/rql/Type;" (.ref w_BOOLEAN)) (S_NUMBER : Sta Z h0 "com/example/stratigraph/stratigraph/rql/Type" "NUMBER" "Lcom/example/stratigraph/stratigraph/rql/Type;" (.ref w_NUMBER)) (S_VALUE : Sta Z h0 "com/example/stratigraph/stratigraph/rql/Type" "VALUE" "Lcom/example/stratigraph/stratigraph/rql/Type;" (.ref w_VALUE)) (S_PROPERTY : Sta Z h0 "com/example/stratigraph/stratigraph/rql/Type" "PROPERTY" "Lcom/example/stratigraph/stratigraph/rql/Type;" (.ref w_PROPERTY)) (S_RESOURCE : Sta Z h0 "com/example/stratigraph/stratigraph/rql/Type" "RESOURCE" "Lcom/example/stratigraph/stratigraph/rql/Type;" (.ref w_RESOURCE)) (S_LITERAL : Sta Z h0 "com/example/stratigraph/stratigraph/rql/Type" "LITERAL" "Lcom/example/stratigraph/stratigraph/rql/Type;" (.ref w_LITERAL)) (E_CLASS : Exa Z h0 w_CLASS "com/example/stratigraph/stratigraph/rql/Type") (E_RESOURCES : Exa Z h0 w_RESOURCES "com/example/stratigraph/stratigraph/rql/Type") (E_PAIRS : Exa Z h0 w_PAIRS "com/example/stratigraph/stratigraph/rql/Type") (E_ROWS : Exa Z h0 w_ROWS "com/example/stratigraph/stratigraph/rql/Type") (E_BOOLEAN : Exa Z h0 w_BOOLEAN "com/example/stratigraph/stratigraph/rql/Type") (E_NUMBER : Exa Z h0 w_NUMBER "com/example/stratigraph/stratigraph/rql/Type") (E_VALUE : Exa Z h0 w_VALUE "com/example/stratigraph/stratigraph/rql/Type") (E_PROPERTY : Exa Z h0 w_PROPERTY "com/example/stratigraph/stratigraph/rql/Type") (E_RESOURCE : Exa Z h0 w_RESOURCE "com/example/stratigraph/stratigraph/rql/Type") (E_LITERAL : Exa Z h0 w_LITERAL "com/example/stratigraph/stratigraph/rql/Type") (O_CLASS : Fld Z h0 w_CLASS "java/lang/Enum" "ordinal" "I" (.int (0 : Int32))) (O_RESOURCES : Fld Z h0 w_RESOURCES "java/lang/Enum" "ordinal" "I" (.int (5 : Int32))) (O_PAIRS : Fld Z h0 w_PAIRS "java/lang/Enum" "ordinal" "I" (.int (6 : Int32))) (O_ROWS : Fld Z h0 w_ROWS "java/lang/Enum" "ordinal" "I" (.int (7 : Int32))) (O_BOOLEAN : Fld Z h0 w_BOOLEAN "java/lang/Enum" "ordinal" "I" (.int (8 : Int32))) (O_NUMBER : Fld Z h0 w_NUMBER "java/lang/Enum" "ordinal" "I" (.int (9 : Int32))) (O_VALUE : Fld Z h0 w_VALUE "java/lang/Enum" "ordinal" "I" (.int (3 : Int32))) (O_PROPERTY : Fld Z h0 w_PROPERTY "java/lang/Enum" "ordinal" "I" (.int (1 : Int32))) (O_RESOURCE : Fld Z h0 w_RESOURCE "java/lang/Enum" "ordinal" "I" (.int (2 : Int32))) (O_LITERAL : Fld Z h0 w_LITERAL "java/lang/Enum" "ordinal" "I" (.int (4 : Int32))) :
    MetFree l x (head1 (Jvm.Cond.code x code maxLocals ret :: ws) room_1) (fun ar0 U => ar0 = #[(.int p1)] ∧ Z.Warmed39 U.vm ∧ U.heap = h0) (fun _ _ _ _ _ => True) (fun _ U o U' => ∃ v L, o = .returned v ∧ Q0 Z p1 w_CLASS w_RESOURCES w_PAIRS w_ROWS w_BOOLEAN w_NUMBER w_VALUE w_PROPERTY w_RESOURCE w_LITERAL h0 n0 v U'.heap L ∧ FrameEnd U o U' L room_1.cells room_1.slots) := by
  refine MetFree.of_bodySF (plainFor_of_name pn_0) hisR ?_
  intro p e s m args below meth c s₁ Bd hml0 hP hK
  obtain ⟨rfl, hZ, hh⟩ := hP
  have hx := Bd.exec
  have hby := Bd.bytes
  have hml : c.maxLocals = 6 := hml0
  have hown : s.vm.findClass "com/example/stratigraph/stratigraph/rql/TypeIsItemPinLaw" = some m.cls := findClass_of_methodNamed Bd.named
  have X0 : Stand p l e room_1 s m #[(.int p1)] below meth c s₁ [] 0 0 := Stand.of_body Bd
  have e0 : s₁.heap = h0 := by rw [← hh, Bd.state]; rfl
  have N0 := Fr.nil n0
  have pre0 : ∀ t, Steps p.tables e below (s₁.setTop (mkF m 0 #[.val (.int p1), .unset, .unset, .unset, .unset, .unset] [])) t → Steps p.tables e below (s₁.setTop (entryFrame m #[(.int p1)] maxLocals)) t := fun t k => castTop (ef_0 m p1) k
  have pre1 : ∀ t, Steps p.tables e below (s₁.setTop (mkF m 8 #[.val (.int p1), .val (.int ((p1 &&& (2147483647 : Int32)) % (10 : Int32))), .unset, .unset, .unset, .unset] [])) t → Steps p.tables e below (s₁.setTop (entryFrame m #[(.int p1)] maxLocals)) t := by
    intro t k
    refine pre0 _ ?_
    show Steps p.tables e below (s₁.setTop (mkF m 0 #[.val (.int p1), .unset, .unset, .unset, .unset, .unset] [])) _
    refine XS.iloadN X0.here hx rfl (hb hby at_0) rfl ?_
    show Steps p.tables e below (s₁.setTop (mkF m 1 #[.val (.int p1), .unset, .unset, .unset, .unset, .unset] [(.int p1)])) _
    refine X0.ldcI hx hown (mvT hZ (hw _ (List.mem_of_getElem? (i := 0) rfl))) rfl (hb hby at_1) ?_
    show Steps p.tables e below (s₁.setTop (mkF m 3 #[.val (.int p1), .unset, .unset, .unset, .unset, .unset] [(.int (2147483647 : Int32)), (.int p1)])) _
    refine XS.iand X0.here hx rfl (hb hby at_3) rfl ?_
    show Steps p.tables e below (s₁.setTop (mkF m 4 #[.val (.int p1), .unset, .unset, .unset, .unset, .unset] [(.int (p1 &&& (2147483647 : Int32)))])) _
    refine XT.bipushV X0.here hx rfl (10 : Int32) (hb hby at_4) (by decide) ?_
    show Steps p.tables e below (s₁.setTop (mkF m 6 #[.val (.int p1), .unset, .unset, .unset, .unset, .unset] [(.int (10 : Int32)), (.int (p1 &&& (2147483647 : Int32)))])) _
    refine iremM X0 hx rfl (hb hby at_6) rfl (by decide) ?_
    show Steps p.tables e below (s₁.setTop (mkF m 7 #[.val (.int p1), .unset, .unset, .unset, .unset, .unset] [(.int ((p1 &&& (2147483647 : Int32)) % (10 : Int32)))])) _
    refine XS.istoreN X0.here hx rfl (hb hby at_7) rfl (l' := #[.val (.int p1), .val (.int ((p1 &&& (2147483647 : Int32)) % (10 : Int32))), .unset, .unset, .unset, .unset]) rfl ?_
    show Steps p.tables e below (s₁.setTop (mkF m 8 #[.val (.int p1), .val (.int ((p1 &&& (2147483647 : Int32)) % (10 : Int32))), .unset, .unset, .unset, .unset] [])) _
    exact k
  by_cases hc2 : ((p1 &&& (2147483647 : Int32)) % (10 : Int32)) = (0 : Int32)
  ·
    obtain ⟨_, _, ⟨T3, L3, k3, n3⟩, -, X3, ⟨Lc3, hQ3, l3, y3, z3⟩, st3⟩ := Jvm.LawKit.callS X0 hx (y := (⟨"com/example/stratigraph/stratigraph/rql/TypeIsItemPinLaw", "pick", "(I)Lcom/example/stratigraph/stratigraph/rql/Type;"⟩ : MethodName)) hown (mvT hZ (hw _ (List.mem_of_getElem? (i := 1) rfl))) (mvT hZ (hw _ (List.mem_of_getElem? (i := 2) rfl))) (mvT hZ (hw _ (List.mem_of_getElem? (i := 3) rfl))) (mvT hZ (hw _ (List.mem_of_getElem? (i := 4) rfl))) (by decide) (backOf (W := 0) (rm1 l Z a0 hw [] ((p1 &&& (2147483647 : Int32)) % (10 : Int32)) w_CLASS w_PROPERTY w_RESOURCE w_VALUE w_LITERAL w_RESOURCES w_PAIRS w_ROWS w_BOOLEAN w_NUMBER w_CLASS h0 n0 S_CLASS S_PROPERTY S_RESOURCE S_VALUE S_LITERAL S_RESOURCES S_PAIRS S_ROWS S_BOOLEAN S_NUMBER (by unfold own_pick; rw [if_pos (hc2 : ((p1 &&& (2147483647 : Int32)) % (10 : Int32)) = (0 : Int32))])) hZ (hw _ (List.mem_of_getElem? (i := 4) rfl)) (hw _ (List.mem_of_getElem? (i := 3) rfl)) (by decide) (by decide)) (g := (mkF m 9 #[.val (.int p1), .val (.int ((p1 &&& (2147483647 : Int32)) % (10 : Int32))), .unset, .unset, .unset, .unset] [(.int ((p1 &&& (2147483647 : Int32)) % (10 : Int32)))])) rfl (by rw [hml]; rfl) (argsL := [(.int ((p1 &&& (2147483647 : Int32)) % (10 : Int32)))]) (rest := []) (lenOf (show parseMethodDescriptor "(I)Lcom/example/stratigraph/stratigraph/rql/Type;" = some ⟨[.int], some (.object "com/example/stratigraph/stratigraph/rql/Type")⟩ by decide +kernel) rfl) rfl (by show 2 * 0 + _ ≤ _; exact Nat.le_of_eq rfl) (hb hby at_9) (fun _ _ => ⟨rfl, e0, (by decide : 0 + 0 ≤ _), (by decide : 0 + 0 ≤ _)⟩)
    dsimp only [Pt.U, Pt.locs, Pt.cells, Pt.slots] at X3 l3 y3 z3 st3 hQ3
    subst l3 y3 z3
    obtain ⟨rfl, Nq3, e3⟩ := hQ3
    have N3 := Fr.app N0 Nq3
    obtain ⟨T4, X4, e4, st4⟩ := getS2 X3 hx hZ hown (host := "") (Or.inl (hw _ (List.mem_of_getElem? (i := 8) rfl))) Via.refl e3 S_RESOURCES (g := (mkF m 14 #[.val (.int p1), .val (.int ((p1 &&& (2147483647 : Int32)) % (10 : Int32))), .val (.ref w_CLASS), .unset, .unset, .unset] [(.ref w_CLASS)])) rfl (hb hby at_14)
    obtain ⟨T5, X5, e5, st5⟩ := getS2 X4 hx hZ hown (host := "") (Or.inl (hw _ (List.mem_of_getElem? (i := 10) rfl))) Via.refl e4 S_PAIRS (g := (mkF m 21 #[.val (.int p1), .val (.int ((p1 &&& (2147483647 : Int32)) % (10 : Int32))), .val (.ref w_CLASS), .unset, .unset, .unset] [(.ref w_CLASS)])) rfl (hb hby at_21)
    obtain ⟨T6, X6, e6, st6⟩ := getS2 X5 hx hZ hown (host := "") (Or.inl (hw _ (List.mem_of_getElem? (i := 12) rfl))) Via.refl e5 S_ROWS (g := (mkF m 28 #[.val (.int p1), .val (.int ((p1 &&& (2147483647 : Int32)) % (10 : Int32))), .val (.ref w_CLASS), .unset, .unset, .unset] [(.ref w_CLASS)])) rfl (hb hby at_28)
    obtain ⟨T7, X7, e7, st7⟩ := getS2 X6 hx hZ hown (host := "") (Or.inl (hw _ (List.mem_of_getElem? (i := 14) rfl))) Via.refl e6 S_BOOLEAN (g := (mkF m 41 #[.val (.int p1), .val (.int ((p1 &&& (2147483647 : Int32)) % (10 : Int32))), .val (.ref w_CLASS), .val (.int (0 : Int32)), .unset, .unset] [(.ref w_CLASS)])) rfl (hb hby at_41)
    obtain ⟨T8, X8, e8, st8⟩ := getS2 X7 hx hZ hown (host := "") (Or.inl (hw _ (List.mem_of_getElem? (i := 16) rfl))) Via.refl e7 S_NUMBER (g := (mkF m 48 #[.val (.int p1), .val (.int ((p1 &&& (2147483647 : Int32)) % (10 : Int32))), .val (.ref w_CLASS), .val (.int (0 : Int32)), .unset, .unset] [(.ref w_CLASS)])) rfl (hb hby at_48)
    obtain ⟨cq10, kq10, q10a, q10b, q10c⟩ := isOf hZ e8 E_CLASS
    obtain ⟨_, _, ⟨T9, L9, k9, n9⟩, -, X9, ⟨Lc9, hQ9, l9, y9, z9⟩, st9⟩ := X8.virtualBack hx (y := (⟨"com/example/stratigraph/stratigraph/rql/Type", "isItem", "()Z"⟩ : MethodName)) (z := (⟨"com/example/stratigraph/stratigraph/rql/Type", "isItem", "()Z"⟩ : MethodName)) hown (mvT hZ (hw _ (List.mem_of_getElem? (i := 18) rfl))) (mvT hZ (hw _ (List.mem_of_getElem? (i := 19) rfl))) (notFace_of_selects (args := #[]) (mvT hZ (hw _ (List.mem_of_getElem? (i := 21) rfl)))) (mvT hZ (hw _ (List.mem_of_getElem? (i := 21) rfl))) (mvT hZ (hw _ (List.mem_of_getElem? (i := 20) rfl))) (by decide) (backOf (W := 0) (rm2 l Z a0 hw [] w_CLASS w_CLASS w_PROPERTY w_RESOURCE w_VALUE w_LITERAL (1 : Int32) h0 n0 S_CLASS S_PROPERTY S_RESOURCE S_VALUE S_LITERAL (by unfold own_item; rw [if_pos (rfl : w_CLASS = w_CLASS)])) hZ (hw _ (List.mem_of_getElem? (i := 22) rfl)) (hw _ (List.mem_of_getElem? (i := 6) rfl)) (by decide) (by decide)) q10a q10c (g := (mkF m 78 #[.val (.int p1), .val (.int ((p1 &&& (2147483647 : Int32)) % (10 : Int32))), .val (.ref w_CLASS), .val (.int (0 : Int32)), .val (.int (0 : Int32)), .val (.int (1 : Int32))] [(.ref w_CLASS)])) rfl (by rw [hml]; rfl) (Steps.refl _) (argsL := []) (rest := []) (lenOf (show parseMethodDescriptor "()Z" = some ⟨[], some .boolean⟩ by decide +kernel) rfl) rfl (by show 2 * 0 + _ ≤ _; exact Nat.le_of_eq rfl) (hb hby at_78) (fun _ _ => ⟨rfl, e8, (by decide : 0 + 0 ≤ _), (by decide : 0 + 0 ≤ _)⟩)
    dsimp only [Pt.U, Pt.locs, Pt.cells, Pt.slots] at X9 l9 y9 z9 st9 hQ9
    subst l9 y9 z9
    obtain ⟨rfl, Nq9, e9⟩ := hQ9
    have N9 := Fr.app N3 Nq9
    obtain ⟨fs, hr11, hrun, hended, hW, hsame⟩ := X9.leave (v := some (.int (1 : Int32))) (fun h => by rw [Bd.returns] at h; cases h)
    refine ⟨_, _, pre1 _ ?_, hrun, hended, _, _, rfl, ?_, ⟨_, rfl⟩, hW, hsame.mono (by decide) (by decide)⟩
    · show Steps p.tables e below (s₁.setTop (mkF m 8 #[.val (.int p1), .val (.int ((p1 &&& (2147483647 : Int32)) % (10 : Int32))), .unset, .unset, .unset, .unset] [])) _
      refine XS.iloadN X0.here hx rfl (hb hby at_8) rfl ?_
      show Steps p.tables e below (s₁.setTop (mkF m 9 #[.val (.int p1), .val (.int ((p1 &&& (2147483647 : Int32)) % (10 : Int32))), .unset, .unset, .unset, .unset] [(.int ((p1 &&& (2147483647 : Int32)) % (10 : Int32)))])) _
      refine st3 _ ?_
      show Steps p.tables e below (T3.setTop (mkF m 12 #[.val (.int p1), .val (.int ((p1 &&& (2147483647 : Int32)) % (10 : Int32))), .unset, .unset, .unset, .unset] [(.ref w_CLASS)])) _
      refine XS.astoreN X3.here hx rfl (hb hby at_12) rfl rfl (l' := #[.val (.int p1), .val (.int ((p1 &&& (2147483647 : Int32)) % (10 : Int32))), .val (.ref w_CLASS), .unset, .unset, .unset]) rfl ?_
      show Steps p.tables e below (T3.setTop (mkF m 13 #[.val (.int p1), .val (.int ((p1 &&& (2147483647 : Int32)) % (10 : Int32))), .val (.ref w_CLASS), .unset, .unset, .unset] [])) _
      refine XS.aloadN X3.here hx rfl (hb hby at_13) rfl rfl ?_
      show Steps p.tables e below (T3.setTop (mkF m 14 #[.val (.int p1), .val (.int ((p1 &&& (2147483647 : Int32)) % (10 : Int32))), .val (.ref w_CLASS), .unset, .unset, .unset] [(.ref w_CLASS)])) _
      refine st4 _ ?_
      show Steps p.tables e below (T4.setTop (mkF m 17 #[.val (.int p1), .val (.int ((p1 &&& (2147483647 : Int32)) % (10 : Int32))), .val (.ref w_CLASS), .unset, .unset, .unset] [(.ref w_RESOURCES), (.ref w_CLASS)])) _
      refine Jvm.RoadKit.acmp (g := (mkF m 17 #[.val (.int p1), .val (.int ((p1 &&& (2147483647 : Int32)) % (10 : Int32))), .val (.ref w_CLASS), .unset, .unset, .unset] [(.ref w_RESOURCES), (.ref w_CLASS)])) X4 hx rfl rfl rfl (pc0 := 17) (pc' := 20) (same := false) rfl (hb hby at_17) rfl (decide_eq_false fun q => ((Fld.ne O_CLASS O_RESOURCES (fun q => absurd (Value.int.inj q) (by decide))) : ¬ (w_CLASS = w_RESOURCES)) (Value.ref.inj q)) (by decide) (by decide) ?_
      show Steps p.tables e below (T4.setTop (mkF m 20 #[.val (.int p1), .val (.int ((p1 &&& (2147483647 : Int32)) % (10 : Int32))), .val (.ref w_CLASS), .unset, .unset, .unset] [])) _
      refine XS.aloadN X4.here hx rfl (hb hby at_20) rfl rfl ?_
      show Steps p.tables e below (T4.setTop (mkF m 21 #[.val (.int p1), .val (.int ((p1 &&& (2147483647 : Int32)) % (10 : Int32))), .val (.ref w_CLASS), .unset, .unset, .unset] [(.ref w_CLASS)])) _
      refine st5 _ ?_
      show Steps p.tables e below (T5.setTop (mkF m 24 #[.val (.int p1), .val (.int ((p1 &&& (2147483647 : Int32)) % (10 : Int32))), .val (.ref w_CLASS), .unset, .unset, .unset] [(.ref w_PAIRS), (.ref w_CLASS)])) _
      refine Jvm.RoadKit.acmp (g := (mkF m 24 #[.val (.int p1), .val (.int ((p1 &&& (2147483647 : Int32)) % (10 : Int32))), .val (.ref w_CLASS), .unset, .unset, .unset] [(.ref w_PAIRS), (.ref w_CLASS)])) X5 hx rfl rfl rfl (pc0 := 24) (pc' := 27) (same := false) rfl (hb hby at_24) rfl (decide_eq_false fun q => ((Fld.ne O_CLASS O_PAIRS (fun q => absurd (Value.int.inj q) (by decide))) : ¬ (w_CLASS = w_PAIRS)) (Value.ref.inj q)) (by decide) (by decide) ?_
      show Steps p.tables e below (T5.setTop (mkF m 27 #[.val (.int p1), .val (.int ((p1 &&& (2147483647 : Int32)) % (10 : Int32))), .val (.ref w_CLASS), .unset, .unset, .unset] [])) _
      refine XS.aloadN X5.here hx rfl (hb hby at_27) rfl rfl ?_
      show Steps p.tables e below (T5.setTop (mkF m 28 #[.val (.int p1), .val (.int ((p1 &&& (2147483647 : Int32)) % (10 : Int32))), .val (.ref w_CLASS), .unset, .unset, .unset] [(.ref w_CLASS)])) _
      refine st6 _ ?_
      show Steps p.tables e below (T6.setTop (mkF m 31 #[.val (.int p1), .val (.int ((p1 &&& (2147483647 : Int32)) % (10 : Int32))), .val (.ref w_CLASS), .unset, .unset, .unset] [(.ref w_ROWS), (.ref w_CLASS)])) _
      refine Jvm.RoadKit.acmp (g := (mkF m 31 #[.val (.int p1), .val (.int ((p1 &&& (2147483647 : Int32)) % (10 : Int32))), .val (.ref w_CLASS), .unset, .unset, .unset] [(.ref w_ROWS), (.ref w_CLASS)])) X6 hx rfl rfl rfl (pc0 := 31) (pc' := 38) (same := false) rfl (hb hby at_31) rfl (decide_eq_false fun q => ((Fld.ne O_CLASS O_ROWS (fun q => absurd (Value.int.inj q) (by decide))) : ¬ (w_CLASS = w_ROWS)) (Value.ref.inj q)) (by decide) (by decide) ?_
      show Steps p.tables e below (T6.setTop (mkF m 38 #[.val (.int p1), .val (.int ((p1 &&& (2147483647 : Int32)) % (10 : Int32))), .val (.ref w_CLASS), .unset, .unset, .unset] [])) _
      refine XT.iconstV X6.here hx rfl (0 : Int32) (hb hby at_38) (by decide) ?_
      show Steps p.tables e below (T6.setTop (mkF m 39 #[.val (.int p1), .val (.int ((p1 &&& (2147483647 : Int32)) % (10 : Int32))), .val (.ref w_CLASS), .unset, .unset, .unset] [(.int (0 : Int32))])) _
      refine XS.istoreN X6.here hx rfl (hb hby at_39) rfl (l' := #[.val (.int p1), .val (.int ((p1 &&& (2147483647 : Int32)) % (10 : Int32))), .val (.ref w_CLASS), .val (.int (0 : Int32)), .unset, .unset]) rfl ?_
      show Steps p.tables e below (T6.setTop (mkF m 40 #[.val (.int p1), .val (.int ((p1 &&& (2147483647 : Int32)) % (10 : Int32))), .val (.ref w_CLASS), .val (.int (0 : Int32)), .unset, .unset] [])) _
      refine XS.aloadN X6.here hx rfl (hb hby at_40) rfl rfl ?_
      show Steps p.tables e below (T6.setTop (mkF m 41 #[.val (.int p1), .val (.int ((p1 &&& (2147483647 : Int32)) % (10 : Int32))), .val (.ref w_CLASS), .val (.int (0 : Int32)), .unset, .unset] [(.ref w_CLASS)])) _
      refine st7 _ ?_
      show Steps p.tables e below (T7.setTop (mkF m 44 #[.val (.int p1), .val (.int ((p1 &&& (2147483647 : Int32)) % (10 : Int32))), .val (.ref w_CLASS), .val (.int (0 : Int32)), .unset, .unset] [(.ref w_BOOLEAN), (.ref w_CLASS)])) _
      refine Jvm.RoadKit.acmp (g := (mkF m 44 #[.val (.int p1), .val (.int ((p1 &&& (2147483647 : Int32)) % (10 : Int32))), .val (.ref w_CLASS), .val (.int (0 : Int32)), .unset, .unset] [(.ref w_BOOLEAN), (.ref w_CLASS)])) X7 hx rfl rfl rfl (pc0 := 44) (pc' := 47) (same := false) rfl (hb hby at_44) rfl (decide_eq_false fun q => ((Fld.ne O_CLASS O_BOOLEAN (fun q => absurd (Value.int.inj q) (by decide))) : ¬ (w_CLASS = w_BOOLEAN)) (Value.ref.inj q)) (by decide) (by decide) ?_
      show Steps p.tables e below (T7.setTop (mkF m 47 #[.val (.int p1), .val (.int ((p1 &&& (2147483647 : Int32)) % (10 : Int32))), .val (.ref w_CLASS), .val (.int (0 : Int32)), .unset, .unset] [])) _
      refine XS.aloadN X7.here hx rfl (hb hby at_47) rfl rfl ?_
      show Steps p.tables e below (T7.setTop (mkF m 48 #[.val (.int p1), .val (.int ((p1 &&& (2147483647 : Int32)) % (10 : Int32))), .val (.ref w_CLASS), .val (.int (0 : Int32)), .unset, .unset] [(.ref w_CLASS)])) _
      refine st8 _ ?_
      show Steps p.tables e below (T8.setTop (mkF m 51 #[.val (.int p1), .val (.int ((p1 &&& (2147483647 : Int32)) % (10 : Int32))), .val (.ref w_CLASS), .val (.int (0 : Int32)), .unset, .unset] [(.ref w_NUMBER), (.ref w_CLASS)])) _
      refine Jvm.RoadKit.acmp (g := (mkF m 51 #[.val (.int p1), .val (.int ((p1 &&& (2147483647 : Int32)) % (10 : Int32))), .val (.ref w_CLASS), .val (.int (0 : Int32)), .unset, .unset] [(.ref w_NUMBER), (.ref w_CLASS)])) X8 hx rfl rfl rfl (pc0 := 51) (pc' := 58) (same := false) rfl (hb hby at_51) rfl (decide_eq_false fun q => ((Fld.ne O_CLASS O_NUMBER (fun q => absurd (Value.int.inj q) (by decide))) : ¬ (w_CLASS = w_NUMBER)) (Value.ref.inj q)) (by decide) (by decide) ?_
      show Steps p.tables e below (T8.setTop (mkF m 58 #[.val (.int p1), .val (.int ((p1 &&& (2147483647 : Int32)) % (10 : Int32))), .val (.ref w_CLASS), .val (.int (0 : Int32)), .unset, .unset] [])) _
      refine XT.iconstV X8.here hx rfl (0 : Int32) (hb hby at_58) (by decide) ?_
      show Steps p.tables e below (T8.setTop (mkF m 59 #[.val (.int p1), .val (.int ((p1 &&& (2147483647 : Int32)) % (10 : Int32))), .val (.ref w_CLASS), .val (.int (0 : Int32)), .unset, .unset] [(.int (0 : Int32))])) _
      refine XS.istore X8.here hx rfl (hb hby at_59) rfl (l' := #[.val (.int p1), .val (.int ((p1 &&& (2147483647 : Int32)) % (10 : Int32))), .val (.ref w_CLASS), .val (.int (0 : Int32)), .val (.int (0 : Int32)), .unset]) rfl ?_
      show Steps p.tables e below (T8.setTop (mkF m 61 #[.val (.int p1), .val (.int ((p1 &&& (2147483647 : Int32)) % (10 : Int32))), .val (.ref w_CLASS), .val (.int (0 : Int32)), .val (.int (0 : Int32)), .unset] [])) _
      refine XS.iloadN X8.here hx rfl (hb hby at_61) rfl ?_
      show Steps p.tables e below (T8.setTop (mkF m 62 #[.val (.int p1), .val (.int ((p1 &&& (2147483647 : Int32)) % (10 : Int32))), .val (.ref w_CLASS), .val (.int (0 : Int32)), .val (.int (0 : Int32)), .unset] [(.int (0 : Int32))])) _
      refine XS.ifNo X8.here hx rfl (hb hby at_62) rfl ((if0 _ _).trans (teq (rfl : (0 : Int32) = (0 : Int32))).2) ?_
      show Steps p.tables e below (T8.setTop (mkF m 65 #[.val (.int p1), .val (.int ((p1 &&& (2147483647 : Int32)) % (10 : Int32))), .val (.ref w_CLASS), .val (.int (0 : Int32)), .val (.int (0 : Int32)), .unset] [])) _
      refine XS.iload X8.here hx rfl (hb hby at_65) rfl ?_
      show Steps p.tables e below (T8.setTop (mkF m 67 #[.val (.int p1), .val (.int ((p1 &&& (2147483647 : Int32)) % (10 : Int32))), .val (.ref w_CLASS), .val (.int (0 : Int32)), .val (.int (0 : Int32)), .unset] [(.int (0 : Int32))])) _
      refine XS.ifNo X8.here hx rfl (hb hby at_67) rfl ((if0 _ _).trans (teq (rfl : (0 : Int32) = (0 : Int32))).2) ?_
      show Steps p.tables e below (T8.setTop (mkF m 70 #[.val (.int p1), .val (.int ((p1 &&& (2147483647 : Int32)) % (10 : Int32))), .val (.ref w_CLASS), .val (.int (0 : Int32)), .val (.int (0 : Int32)), .unset] [])) _
      refine XT.iconstV X8.here hx rfl (1 : Int32) (hb hby at_70) (by decide) ?_
      show Steps p.tables e below (T8.setTop (mkF m 71 #[.val (.int p1), .val (.int ((p1 &&& (2147483647 : Int32)) % (10 : Int32))), .val (.ref w_CLASS), .val (.int (0 : Int32)), .val (.int (0 : Int32)), .unset] [(.int (1 : Int32))])) _
      refine XS.goto X8.here hx rfl (pc0 := 71) (pc' := 75) rfl (hb hby at_71) (by decide) (by decide) ?_
      show Steps p.tables e below (T8.setTop (mkF m 75 #[.val (.int p1), .val (.int ((p1 &&& (2147483647 : Int32)) % (10 : Int32))), .val (.ref w_CLASS), .val (.int (0 : Int32)), .val (.int (0 : Int32)), .unset] [(.int (1 : Int32))])) _
      refine XS.istore X8.here hx rfl (hb hby at_75) rfl (l' := #[.val (.int p1), .val (.int ((p1 &&& (2147483647 : Int32)) % (10 : Int32))), .val (.ref w_CLASS), .val (.int (0 : Int32)), .val (.int (0 : Int32)), .val (.int (1 : Int32))]) rfl ?_
      show Steps p.tables e below (T8.setTop (mkF m 77 #[.val (.int p1), .val (.int ((p1 &&& (2147483647 : Int32)) % (10 : Int32))), .val (.ref w_CLASS), .val (.int (0 : Int32)), .val (.int (0 : Int32)), .val (.int (1 : Int32))] [])) _
      refine XS.aloadN X8.here hx rfl (hb hby at_77) rfl rfl ?_
      show Steps p.tables e below (T8.setTop (mkF m 78 #[.val (.int p1), .val (.int ((p1 &&& (2147483647 : Int32)) % (10 : Int32))), .val (.ref w_CLASS), .val (.int (0 : Int32)), .val (.int (0 : Int32)), .val (.int (1 : Int32))] [(.ref w_CLASS)])) _
      refine st9.trans ?_
      show Steps p.tables e below (T9.setTop (mkF m 81 #[.val (.int p1), .val (.int ((p1 &&& (2147483647 : Int32)) % (10 : Int32))), .val (.ref w_CLASS), .val (.int (0 : Int32)), .val (.int (0 : Int32)), .val (.int (1 : Int32))] [(.int (1 : Int32))])) _
      refine XS.iload X9.here hx rfl (hb hby at_81) rfl ?_
      show Steps p.tables e below (T9.setTop (mkF m 83 #[.val (.int p1), .val (.int ((p1 &&& (2147483647 : Int32)) % (10 : Int32))), .val (.ref w_CLASS), .val (.int (0 : Int32)), .val (.int (0 : Int32)), .val (.int (1 : Int32))] [(.int (1 : Int32)), (.int (1 : Int32))])) _
      refine XS.icmpNo X9.here hx rfl (hb hby at_83) rfl (teq (rfl : (1 : Int32) = (1 : Int32))).2 ?_
      show Steps p.tables e below (T9.setTop (mkF m 86 #[.val (.int p1), .val (.int ((p1 &&& (2147483647 : Int32)) % (10 : Int32))), .val (.ref w_CLASS), .val (.int (0 : Int32)), .val (.int (0 : Int32)), .val (.int (1 : Int32))] [])) _
      refine XT.iconstV X9.here hx rfl (1 : Int32) (hb hby at_86) (by decide) ?_
      show Steps p.tables e below (T9.setTop (mkF m 87 #[.val (.int p1), .val (.int ((p1 &&& (2147483647 : Int32)) % (10 : Int32))), .val (.ref w_CLASS), .val (.int (0 : Int32)), .val (.int (0 : Int32)), .val (.int (1 : Int32))] [(.int (1 : Int32))])) _
      refine XS.goto X9.here hx rfl (pc0 := 87) (pc' := 91) rfl (hb hby at_87) (by decide) (by decide) ?_
      show Steps p.tables e below (T9.setTop (mkF m 91 #[.val (.int p1), .val (.int ((p1 &&& (2147483647 : Int32)) % (10 : Int32))), .val (.ref w_CLASS), .val (.int (0 : Int32)), .val (.int (0 : Int32)), .val (.int (1 : Int32))] [(.int (1 : Int32))])) _
      exact retN X9 hx (t := .boolean) Bd.returns (by simp) (hb hby at_91) hr11
    · show Q0 Z _ _ _ _ _ _ _ _ _ _ _ h0 n0 _ T9.heap _
      rw [e9]
      exact ⟨rfl, N9⟩
  ·
    by_cases hc12 : ((p1 &&& (2147483647 : Int32)) % (10 : Int32)) = (1 : Int32)
    ·
      obtain ⟨_, _, ⟨T13, L13, k13, n13⟩, -, X13, ⟨Lc13, hQ13, l13, y13, z13⟩, st13⟩ := Jvm.LawKit.callS X0 hx (y := (⟨"com/example/stratigraph/stratigraph/rql/TypeIsItemPinLaw", "pick", "(I)Lcom/example/stratigraph/stratigraph/rql/Type;"⟩ : MethodName)) hown (mvT hZ (hw _ (List.mem_of_getElem? (i := 1) rfl))) (mvT hZ (hw _ (List.mem_of_getElem? (i := 2) rfl))) (mvT hZ (hw _ (List.mem_of_getElem? (i := 3) rfl))) (mvT hZ (hw _ (List.mem_of_getElem? (i := 4) rfl))) (by decide) (backOf (W := 0) (rm1 l Z a0 hw [] ((p1 &&& (2147483647 : Int32)) % (10 : Int32)) w_CLASS w_PROPERTY w_RESOURCE w_VALUE w_LITERAL w_RESOURCES w_PAIRS w_ROWS w_BOOLEAN w_NUMBER w_PROPERTY h0 n0 S_CLASS S_PROPERTY S_RESOURCE S_VALUE S_LITERAL S_RESOURCES S_PAIRS S_ROWS S_BOOLEAN S_NUMBER (by unfold own_pick; rw [if_neg (hc2 : ¬ (((p1 &&& (2147483647 : Int32)) % (10 : Int32)) = (0 : Int32))), if_pos (hc12 : ((p1 &&& (2147483647 : Int32)) % (10 : Int32)) = (1 : Int32))])) hZ (hw _ (List.mem_of_getElem? (i := 4) rfl)) (hw _ (List.mem_of_getElem? (i := 3) rfl)) (by decide) (by decide)) (g := (mkF m 9 #[.val (.int p1), .val (.int ((p1 &&& (2147483647 : Int32)) % (10 : Int32))), .unset, .unset, .unset, .unset] [(.int ((p1 &&& (2147483647 : Int32)) % (10 : Int32)))])) rfl (by rw [hml]; rfl) (argsL := [(.int ((p1 &&& (2147483647 : Int32)) % (10 : Int32)))]) (rest := []) (lenOf (show parseMethodDescriptor "(I)Lcom/example/stratigraph/stratigraph/rql/Type;" = some ⟨[.int], some (.object "com/example/stratigraph/stratigraph/rql/Type")⟩ by decide +kernel) rfl) rfl (by show 2 * 0 + _ ≤ _; exact Nat.le_of_eq rfl) (hb hby at_9) (fun _ _ => ⟨rfl, e0, (by decide : 0 + 0 ≤ _), (by decide : 0 + 0 ≤ _)⟩)
      dsimp only [Pt.U, Pt.locs, Pt.cells, Pt.slots] at X13 l13 y13 z13 st13 hQ13
      subst l13 y13 z13
      obtain ⟨rfl, Nq13, e13⟩ := hQ13
      have N13 := Fr.app N0 Nq13
      obtain ⟨T14, X14, e14, st14⟩ := getS2 X13 hx hZ hown (host := "") (Or.inl (hw _ (List.mem_of_getElem? (i := 8) rfl))) Via.refl e13 S_RESOURCES (g := (mkF m 14 #[.val (.int p1), .val (.int ((p1 &&& (2147483647 : Int32)) % (10 : Int32))), .val (.ref w_PROPERTY), .unset, .unset, .unset] [(.ref w_PROPERTY)])) rfl (hb hby at_14)
      obtain ⟨T15, X15, e15, st15⟩ := getS2 X14 hx hZ hown (host := "") (Or.inl (hw _ (List.mem_of_getElem? (i := 10) rfl))) Via.refl e14 S_PAIRS (g := (mkF m 21 #[.val (.int p1), .val (.int ((p1 &&& (2147483647 : Int32)) % (10 : Int32))), .val (.ref w_PROPERTY), .unset, .unset, .unset] [(.ref w_PROPERTY)])) rfl (hb hby at_21)
      obtain ⟨T16, X16, e16, st16⟩ := getS2 X15 hx hZ hown (host := "") (Or.inl (hw _ (List.mem_of_getElem? (i := 12) rfl))) Via.refl e15 S_ROWS (g := (mkF m 28 #[.val (.int p1), .val (.int ((p1 &&& (2147483647 : Int32)) % (10 : Int32))), .val (.ref w_PROPERTY), .unset, .unset, .unset] [(.ref w_PROPERTY)])) rfl (hb hby at_28)
      obtain ⟨T17, X17, e17, st17⟩ := getS2 X16 hx hZ hown (host := "") (Or.inl (hw _ (List.mem_of_getElem? (i := 14) rfl))) Via.refl e16 S_BOOLEAN (g := (mkF m 41 #[.val (.int p1), .val (.int ((p1 &&& (2147483647 : Int32)) % (10 : Int32))), .val (.ref w_PROPERTY), .val (.int (0 : Int32)), .unset, .unset] [(.ref w_PROPERTY)])) rfl (hb hby at_41)
      obtain ⟨T18, X18, e18, st18⟩ := getS2 X17 hx hZ hown (host := "") (Or.inl (hw _ (List.mem_of_getElem? (i := 16) rfl))) Via.refl e17 S_NUMBER (g := (mkF m 48 #[.val (.int p1), .val (.int ((p1 &&& (2147483647 : Int32)) % (10 : Int32))), .val (.ref w_PROPERTY), .val (.int (0 : Int32)), .unset, .unset] [(.ref w_PROPERTY)])) rfl (hb hby at_48)
      obtain ⟨cq20, kq20, q20a, q20b, q20c⟩ := isOf hZ e18 E_PROPERTY
      obtain ⟨_, _, ⟨T19, L19, k19, n19⟩, -, X19, ⟨Lc19, hQ19, l19, y19, z19⟩, st19⟩ := X18.virtualBack hx (y := (⟨"com/example/stratigraph/stratigraph/rql/Type", "isItem", "()Z"⟩ : MethodName)) (z := (⟨"com/example/stratigraph/stratigraph/rql/Type", "isItem", "()Z"⟩ : MethodName)) hown (mvT hZ (hw _ (List.mem_of_getElem? (i := 18) rfl))) (mvT hZ (hw _ (List.mem_of_getElem? (i := 19) rfl))) (notFace_of_selects (args := #[]) (mvT hZ (hw _ (List.mem_of_getElem? (i := 21) rfl)))) (mvT hZ (hw _ (List.mem_of_getElem? (i := 21) rfl))) (mvT hZ (hw _ (List.mem_of_getElem? (i := 20) rfl))) (by decide) (backOf (W := 0) (rm2 l Z a0 hw [] w_PROPERTY w_CLASS w_PROPERTY w_RESOURCE w_VALUE w_LITERAL (1 : Int32) h0 n0 S_CLASS S_PROPERTY S_RESOURCE S_VALUE S_LITERAL (by unfold own_item; rw [if_neg ((Fld.ne O_PROPERTY O_CLASS (fun q => absurd (Value.int.inj q) (by decide))) : ¬ (w_PROPERTY = w_CLASS)), if_pos (rfl : w_PROPERTY = w_PROPERTY)])) hZ (hw _ (List.mem_of_getElem? (i := 22) rfl)) (hw _ (List.mem_of_getElem? (i := 6) rfl)) (by decide) (by decide)) q20a q20c (g := (mkF m 78 #[.val (.int p1), .val (.int ((p1 &&& (2147483647 : Int32)) % (10 : Int32))), .val (.ref w_PROPERTY), .val (.int (0 : Int32)), .val (.int (0 : Int32)), .val (.int (1 : Int32))] [(.ref w_PROPERTY)])) rfl (by rw [hml]; rfl) (Steps.refl _) (argsL := []) (rest := []) (lenOf (show parseMethodDescriptor "()Z" = some ⟨[], some .boolean⟩ by decide +kernel) rfl) rfl (by show 2 * 0 + _ ≤ _; exact Nat.le_of_eq rfl) (hb hby at_78) (fun _ _ => ⟨rfl, e18, (by decide : 0 + 0 ≤ _), (by decide : 0 + 0 ≤ _)⟩)
      dsimp only [Pt.U, Pt.locs, Pt.cells, Pt.slots] at X19 l19 y19 z19 st19 hQ19
      subst l19 y19 z19
      obtain ⟨rfl, Nq19, e19⟩ := hQ19
      have N19 := Fr.app N13 Nq19
      obtain ⟨fs, hr21, hrun, hended, hW, hsame⟩ := X19.leave (v := some (.int (1 : Int32))) (fun h => by rw [Bd.returns] at h; cases h)
      refine ⟨_, _, pre1 _ ?_, hrun, hended, _, _, rfl, ?_, ⟨_, rfl⟩, hW, hsame.mono (by decide) (by decide)⟩
      · show Steps p.tables e below (s₁.setTop (mkF m 8 #[.val (.int p1), .val (.int ((p1 &&& (2147483647 : Int32)) % (10 : Int32))), .unset, .unset, .unset, .unset] [])) _
        refine XS.iloadN X0.here hx rfl (hb hby at_8) rfl ?_
        show Steps p.tables e below (s₁.setTop (mkF m 9 #[.val (.int p1), .val (.int ((p1 &&& (2147483647 : Int32)) % (10 : Int32))), .unset, .unset, .unset, .unset] [(.int ((p1 &&& (2147483647 : Int32)) % (10 : Int32)))])) _
        refine st13 _ ?_
        show Steps p.tables e below (T13.setTop (mkF m 12 #[.val (.int p1), .val (.int ((p1 &&& (2147483647 : Int32)) % (10 : Int32))), .unset, .unset, .unset, .unset] [(.ref w_PROPERTY)])) _
        refine XS.astoreN X13.here hx rfl (hb hby at_12) rfl rfl (l' := #[.val (.int p1), .val (.int ((p1 &&& (2147483647 : Int32)) % (10 : Int32))), .val (.ref w_PROPERTY), .unset, .unset, .unset]) rfl ?_
        show Steps p.tables e below (T13.setTop (mkF m 13 #[.val (.int p1), .val (.int ((p1 &&& (2147483647 : Int32)) % (10 : Int32))), .val (.ref w_PROPERTY), .unset, .unset, .unset] [])) _
        refine XS.aloadN X13.here hx rfl (hb hby at_13) rfl rfl ?_
        show Steps p.tables e below (T13.setTop (mkF m 14 #[.val (.int p1), .val (.int ((p1 &&& (2147483647 : Int32)) % (10 : Int32))), .val (.ref w_PROPERTY), .unset, .unset, .unset] [(.ref w_PROPERTY)])) _
        refine st14 _ ?_
        show Steps p.tables e below (T14.setTop (mkF m 17 #[.val (.int p1), .val (.int ((p1 &&& (2147483647 : Int32)) % (10 : Int32))), .val (.ref w_PROPERTY), .unset, .unset, .unset] [(.ref w_RESOURCES), (.ref w_PROPERTY)])) _
        refine Jvm.RoadKit.acmp (g := (mkF m 17 #[.val (.int p1), .val (.int ((p1 &&& (2147483647 : Int32)) % (10 : Int32))), .val (.ref w_PROPERTY), .unset, .unset, .unset] [(.ref w_RESOURCES), (.ref w_PROPERTY)])) X14 hx rfl rfl rfl (pc0 := 17) (pc' := 20) (same := false) rfl (hb hby at_17) rfl (decide_eq_false fun q => ((Fld.ne O_PROPERTY O_RESOURCES (fun q => absurd (Value.int.inj q) (by decide))) : ¬ (w_PROPERTY = w_RESOURCES)) (Value.ref.inj q)) (by decide) (by decide) ?_
        show Steps p.tables e below (T14.setTop (mkF m 20 #[.val (.int p1), .val (.int ((p1 &&& (2147483647 : Int32)) % (10 : Int32))), .val (.ref w_PROPERTY), .unset, .unset, .unset] [])) _
        refine XS.aloadN X14.here hx rfl (hb hby at_20) rfl rfl ?_
        show Steps p.tables e below (T14.setTop (mkF m 21 #[.val (.int p1), .val (.int ((p1 &&& (2147483647 : Int32)) % (10 : Int32))), .val (.ref w_PROPERTY), .unset, .unset, .unset] [(.ref w_PROPERTY)])) _
        refine st15 _ ?_
        show Steps p.tables e below (T15.setTop (mkF m 24 #[.val (.int p1), .val (.int ((p1 &&& (2147483647 : Int32)) % (10 : Int32))), .val (.ref w_PROPERTY), .unset, .unset, .unset] [(.ref w_PAIRS), (.ref w_PROPERTY)])) _
        refine Jvm.RoadKit.acmp (g := (mkF m 24 #[.val (.int p1), .val (.int ((p1 &&& (2147483647 : Int32)) % (10 : Int32))), .val (.ref w_PROPERTY), .unset, .unset, .unset] [(.ref w_PAIRS), (.ref w_PROPERTY)])) X15 hx rfl rfl rfl (pc0 := 24) (pc' := 27) (same := false) rfl (hb hby at_24) rfl (decide_eq_false fun q => ((Fld.ne O_PROPERTY O_PAIRS (fun q => absurd (Value.int.inj q) (by decide))) : ¬ (w_PROPERTY = w_PAIRS)) (Value.ref.inj q)) (by decide) (by decide) ?_
        show Steps p.tables e below (T15.setTop (mkF m 27 #[.val (.int p1), .val (.int ((p1 &&& (2147483647 : Int32)) % (10 : Int32))), .val (.ref w_PROPERTY), .unset, .unset, .unset] [])) _
        refine XS.aloadN X15.here hx rfl (hb hby at_27) rfl rfl ?_
        show Steps p.tables e below (T15.setTop (mkF m 28 #[.val (.int p1), .val (.int ((p1 &&& (2147483647 : Int32)) % (10 : Int32))), .val (.ref w_PROPERTY), .unset, .unset, .unset] [(.ref w_PROPERTY)])) _
        refine st16 _ ?_
        show Steps p.tables e below (T16.setTop (mkF m 31 #[.val (.int p1), .val (.int ((p1 &&& (2147483647 : Int32)) % (10 : Int32))), .val (.ref w_PROPERTY), .unset, .unset, .unset] [(.ref w_ROWS), (.ref w_PROPERTY)])) _
        refine Jvm.RoadKit.acmp (g := (mkF m 31 #[.val (.int p1), .val (.int ((p1 &&& (2147483647 : Int32)) % (10 : Int32))), .val (.ref w_PROPERTY), .unset, .unset, .unset] [(.ref w_ROWS), (.ref w_PROPERTY)])) X16 hx rfl rfl rfl (pc0 := 31) (pc' := 38) (same := false) rfl (hb hby at_31) rfl (decide_eq_false fun q => ((Fld.ne O_PROPERTY O_ROWS (fun q => absurd (Value.int.inj q) (by decide))) : ¬ (w_PROPERTY = w_ROWS)) (Value.ref.inj q)) (by decide) (by decide) ?_
        show Steps p.tables e below (T16.setTop (mkF m 38 #[.val (.int p1), .val (.int ((p1 &&& (2147483647 : Int32)) % (10 : Int32))), .val (.ref w_PROPERTY), .unset, .unset, .unset] [])) _
        refine XT.iconstV X16.here hx rfl (0 : Int32) (hb hby at_38) (by decide) ?_
        show Steps p.tables e below (T16.setTop (mkF m 39 #[.val (.int p1), .val (.int ((p1 &&& (2147483647 : Int32)) % (10 : Int32))), .val (.ref w_PROPERTY), .unset, .unset, .unset] [(.int (0 : Int32))])) _
        refine XS.istoreN X16.here hx rfl (hb hby at_39) rfl (l' := #[.val (.int p1), .val (.int ((p1 &&& (2147483647 : Int32)) % (10 : Int32))), .val (.ref w_PROPERTY), .val (.int (0 : Int32)), .unset, .unset]) rfl ?_
        show Steps p.tables e below (T16.setTop (mkF m 40 #[.val (.int p1), .val (.int ((p1 &&& (2147483647 : Int32)) % (10 : Int32))), .val (.ref w_PROPERTY), .val (.int (0 : Int32)), .unset, .unset] [])) _
        refine XS.aloadN X16.here hx rfl (hb hby at_40) rfl rfl ?_
        show Steps p.tables e below (T16.setTop (mkF m 41 #[.val (.int p1), .val (.int ((p1 &&& (2147483647 : Int32)) % (10 : Int32))), .val (.ref w_PROPERTY), .val (.int (0 : Int32)), .unset, .unset] [(.ref w_PROPERTY)])) _
        refine st17 _ ?_
        show Steps p.tables e below (T17.setTop (mkF m 44 #[.val (.int p1), .val (.int ((p1 &&& (2147483647 : Int32)) % (10 : Int32))), .val (.ref w_PROPERTY), .val (.int (0 : Int32)), .unset, .unset] [(.ref w_BOOLEAN), (.ref w_PROPERTY)])) _
        refine Jvm.RoadKit.acmp (g := (mkF m 44 #[.val (.int p1), .val (.int ((p1 &&& (2147483647 : Int32)) % (10 : Int32))), .val (.ref w_PROPERTY), .val (.int (0 : Int32)), .unset, .unset] [(.ref w_BOOLEAN), (.ref w_PROPERTY)])) X17 hx rfl rfl rfl (pc0 := 44) (pc' := 47) (same := false) rfl (hb hby at_44) rfl (decide_eq_false fun q => ((Fld.ne O_PROPERTY O_BOOLEAN (fun q => absurd (Value.int.inj q) (by decide))) : ¬ (w_PROPERTY = w_BOOLEAN)) (Value.ref.inj q)) (by decide) (by decide) ?_
        show Steps p.tables e below (T17.setTop (mkF m 47 #[.val (.int p1), .val (.int ((p1 &&& (2147483647 : Int32)) % (10 : Int32))), .val (.ref w_PROPERTY), .val (.int (0 : Int32)), .unset, .unset] [])) _
        refine XS.aloadN X17.here hx rfl (hb hby at_47) rfl rfl ?_
        show Steps p.tables e below (T17.setTop (mkF m 48 #[.val (.int p1), .val (.int ((p1 &&& (2147483647 : Int32)) % (10 : Int32))), .val (.ref w_PROPERTY), .val (.int (0 : Int32)), .unset, .unset] [(.ref w_PROPERTY)])) _
        refine st18 _ ?_
        show Steps p.tables e below (T18.setTop (mkF m 51 #[.val (.int p1), .val (.int ((p1 &&& (2147483647 : Int32)) % (10 : Int32))), .val (.ref w_PROPERTY), .val (.int (0 : Int32)), .unset, .unset] [(.ref w_NUMBER), (.ref w_PROPERTY)])) _
        refine Jvm.RoadKit.acmp (g := (mkF m 51 #[.val (.int p1), .val (.int ((p1 &&& (2147483647 : Int32)) % (10 : Int32))), .val (.ref w_PROPERTY), .val (.int (0 : Int32)), .unset, .unset] [(.ref w_NUMBER), (.ref w_PROPERTY)])) X18 hx rfl rfl rfl (pc0 := 51) (pc' := 58) (same := false) rfl (hb hby at_51) rfl (decide_eq_false fun q => ((Fld.ne O_PROPERTY O_NUMBER (fun q => absurd (Value.int.inj q) (by decide))) : ¬ (w_PROPERTY = w_NUMBER)) (Value.ref.inj q)) (by decide) (by decide) ?_
        show Steps p.tables e below (T18.setTop (mkF m 58 #[.val (.int p1), .val (.int ((p1 &&& (2147483647 : Int32)) % (10 : Int32))), .val (.ref w_PROPERTY), .val (.int (0 : Int32)), .unset, .unset] [])) _
        refine XT.iconstV X18.here hx rfl (0 : Int32) (hb hby at_58) (by decide) ?_
        show Steps p.tables e below (T18.setTop (mkF m 59 #[.val (.int p1), .val (.int ((p1 &&& (2147483647 : Int32)) % (10 : Int32))), .val (.ref w_PROPERTY), .val (.int (0 : Int32)), .unset, .unset] [(.int (0 : Int32))])) _
        refine XS.istore X18.here hx rfl (hb hby at_59) rfl (l' := #[.val (.int p1), .val (.int ((p1 &&& (2147483647 : Int32)) % (10 : Int32))), .val (.ref w_PROPERTY), .val (.int (0 : Int32)), .val (.int (0 : Int32)), .unset]) rfl ?_
        show Steps p.tables e below (T18.setTop (mkF m 61 #[.val (.int p1), .val (.int ((p1 &&& (2147483647 : Int32)) % (10 : Int32))), .val (.ref w_PROPERTY), .val (.int (0 : Int32)), .val (.int (0 : Int32)), .unset] [])) _
        refine XS.iloadN X18.here hx rfl (hb hby at_61) rfl ?_
        show Steps p.tables e below (T18.setTop (mkF m 62 #[.val (.int p1), .val (.int ((p1 &&& (2147483647 : Int32)) % (10 : Int32))), .val (.ref w_PROPERTY), .val (.int (0 : Int32)), .val (.int (0 : Int32)), .unset] [(.int (0 : Int32))])) _
        refine XS.ifNo X18.here hx rfl (hb hby at_62) rfl ((if0 _ _).trans (teq (rfl : (0 : Int32) = (0 : Int32))).2) ?_
        show Steps p.tables e below (T18.setTop (mkF m 65 #[.val (.int p1), .val (.int ((p1 &&& (2147483647 : Int32)) % (10 : Int32))), .val (.ref w_PROPERTY), .val (.int (0 : Int32)), .val (.int (0 : Int32)), .unset] [])) _
        refine XS.iload X18.here hx rfl (hb hby at_65) rfl ?_
        show Steps p.tables e below (T18.setTop (mkF m 67 #[.val (.int p1), .val (.int ((p1 &&& (2147483647 : Int32)) % (10 : Int32))), .val (.ref w_PROPERTY), .val (.int (0 : Int32)), .val (.int (0 : Int32)), .unset] [(.int (0 : Int32))])) _
        refine XS.ifNo X18.here hx rfl (hb hby at_67) rfl ((if0 _ _).trans (teq (rfl : (0 : Int32) = (0 : Int32))).2) ?_
        show Steps p.tables e below (T18.setTop (mkF m 70 #[.val (.int p1), .val (.int ((p1 &&& (2147483647 : Int32)) % (10 : Int32))), .val (.ref w_PROPERTY), .val (.int (0 : Int32)), .val (.int (0 : Int32)), .unset] [])) _
        refine XT.iconstV X18.here hx rfl (1 : Int32) (hb hby at_70) (by decide) ?_
        show Steps p.tables e below (T18.setTop (mkF m 71 #[.val (.int p1), .val (.int ((p1 &&& (2147483647 : Int32)) % (10 : Int32))), .val (.ref w_PROPERTY), .val (.int (0 : Int32)), .val (.int (0 : Int32)), .unset] [(.int (1 : Int32))])) _
        refine XS.goto X18.here hx rfl (pc0 := 71) (pc' := 75) rfl (hb hby at_71) (by decide) (by decide) ?_
        show Steps p.tables e below (T18.setTop (mkF m 75 #[.val (.int p1), .val (.int ((p1 &&& (2147483647 : Int32)) % (10 : Int32))), .val (.ref w_PROPERTY), .val (.int (0 : Int32)), .val (.int (0 : Int32)), .unset] [(.int (1 : Int32))])) _
        refine XS.istore X18.here hx rfl (hb hby at_75) rfl (l' := #[.val (.int p1), .val (.int ((p1 &&& (2147483647 : Int32)) % (10 : Int32))), .val (.ref w_PROPERTY), .val (.int (0 : Int32)), .val (.int (0 : Int32)), .val (.int (1 : Int32))]) rfl ?_
        show Steps p.tables e below (T18.setTop (mkF m 77 #[.val (.int p1), .val (.int ((p1 &&& (2147483647 : Int32)) % (10 : Int32))), .val (.ref w_PROPERTY), .val (.int (0 : Int32)), .val (.int (0 : Int32)), .val (.int (1 : Int32))] [])) _
        refine XS.aloadN X18.here hx rfl (hb hby at_77) rfl rfl ?_
        show Steps p.tables e below (T18.setTop (mkF m 78 #[.val (.int p1), .val (.int ((p1 &&& (2147483647 : Int32)) % (10 : Int32))), .val (.ref w_PROPERTY), .val (.int (0 : Int32)), .val (.int (0 : Int32)), .val (.int (1 : Int32))] [(.ref w_PROPERTY)])) _
        refine st19.trans ?_
        show Steps p.tables e below (T19.setTop (mkF m 81 #[.val (.int p1), .val (.int ((p1 &&& (2147483647 : Int32)) % (10 : Int32))), .val (.ref w_PROPERTY), .val (.int (0 : Int32)), .val (.int (0 : Int32)), .val (.int (1 : Int32))] [(.int (1 : Int32))])) _
        refine XS.iload X19.here hx rfl (hb hby at_81) rfl ?_
        show Steps p.tables e below (T19.setTop (mkF m 83 #[.val (.int p1), .val (.int ((p1 &&& (2147483647 : Int32)) % (10 : Int32))), .val (.ref w_PROPERTY), .val (.int (0 : Int32)), .val (.int (0 : Int32)), .val (.int (1 : Int32))] [(.int (1 : Int32)), (.int (1 : Int32))])) _
        refine XS.icmpNo X19.here hx rfl (hb hby at_83) rfl (teq (rfl : (1 : Int32) = (1 : Int32))).2 ?_
        show Steps p.tables e below (T19.setTop (mkF m 86 #[.val (.int p1), .val (.int ((p1 &&& (2147483647 : Int32)) % (10 : Int32))), .val (.ref w_PROPERTY), .val (.int (0 : Int32)), .val (.int (0 : Int32)), .val (.int (1 : Int32))] [])) _
        refine XT.iconstV X19.here hx rfl (1 : Int32) (hb hby at_86) (by decide) ?_
        show Steps p.tables e below (T19.setTop (mkF m 87 #[.val (.int p1), .val (.int ((p1 &&& (2147483647 : Int32)) % (10 : Int32))), .val (.ref w_PROPERTY), .val (.int (0 : Int32)), .val (.int (0 : Int32)), .val (.int (1 : Int32))] [(.int (1 : Int32))])) _
        refine XS.goto X19.here hx rfl (pc0 := 87) (pc' := 91) rfl (hb hby at_87) (by decide) (by decide) ?_
        show Steps p.tables e below (T19.setTop (mkF m 91 #[.val (.int p1), .val (.int ((p1 &&& (2147483647 : Int32)) % (10 : Int32))), .val (.ref w_PROPERTY), .val (.int (0 : Int32)), .val (.int (0 : Int32)), .val (.int (1 : Int32))] [(.int (1 : Int32))])) _
        exact retN X19 hx (t := .boolean) Bd.returns (by simp) (hb hby at_91) hr21
      · show Q0 Z _ _ _ _ _ _ _ _ _ _ _ h0 n0 _ T19.heap _
        rw [e19]
        exact ⟨rfl, N19⟩
    ·
      by_cases hc22 : ((p1 &&& (2147483647 : Int32)) % (10 : Int32)) = (2 : Int32)
      ·
        obtain ⟨_, _, ⟨T23, L23, k23, n23⟩, -, X23, ⟨Lc23, hQ23, l23, y23, z23⟩, st23⟩ := Jvm.LawKit.callS X0 hx (y := (⟨"com/example/stratigraph/stratigraph/rql/TypeIsItemPinLaw", "pick", "(I)Lcom/example/stratigraph/stratigraph/rql/Type;"⟩ : MethodName)) hown (mvT hZ (hw _ (List.mem_of_getElem? (i := 1) rfl))) (mvT hZ (hw _ (List.mem_of_getElem? (i := 2) rfl))) (mvT hZ (hw _ (List.mem_of_getElem? (i := 3) rfl))) (mvT hZ (hw _ (List.mem_of_getElem? (i := 4) rfl))) (by decide) (backOf (W := 0) (rm1 l Z a0 hw [] ((p1 &&& (2147483647 : Int32)) % (10 : Int32)) w_CLASS w_PROPERTY w_RESOURCE w_VALUE w_LITERAL w_RESOURCES w_PAIRS w_ROWS w_BOOLEAN w_NUMBER w_RESOURCE h0 n0 S_CLASS S_PROPERTY S_RESOURCE S_VALUE S_LITERAL S_RESOURCES S_PAIRS S_ROWS S_BOOLEAN S_NUMBER (by unfold own_pick; rw [if_neg (hc2 : ¬ (((p1 &&& (2147483647 : Int32)) % (10 : Int32)) = (0 : Int32))), if_neg (hc12 : ¬ (((p1 &&& (2147483647 : Int32)) % (10 : Int32)) = (1 : Int32))), if_pos (hc22 : ((p1 &&& (2147483647 : Int32)) % (10 : Int32)) = (2 : Int32))])) hZ (hw _ (List.mem_of_getElem? (i := 4) rfl)) (hw _ (List.mem_of_getElem? (i := 3) rfl)) (by decide) (by decide)) (g := (mkF m 9 #[.val (.int p1), .val (.int ((p1 &&& (2147483647 : Int32)) % (10 : Int32))), .unset, .unset, .unset, .unset] [(.int ((p1 &&& (2147483647 : Int32)) % (10 : Int32)))])) rfl (by rw [hml]; rfl) (argsL := [(.int ((p1 &&& (2147483647 : Int32)) % (10 : Int32)))]) (rest := []) (lenOf (show parseMethodDescriptor "(I)Lcom/example/stratigraph/stratigraph/rql/Type;" = some ⟨[.int], some (.object "com/example/stratigraph/stratigraph/rql/Type")⟩ by decide +kernel) rfl) rfl (by show 2 * 0 + _ ≤ _; exact Nat.le_of_eq rfl) (hb hby at_9) (fun _ _ => ⟨rfl, e0, (by decide : 0 + 0 ≤ _), (by decide : 0 + 0 ≤ _)⟩)
        dsimp only [Pt.U, Pt.locs, Pt.cells, Pt.slots] at X23 l23 y23 z23 st23 hQ23
        subst l23 y23 z23
        obtain ⟨rfl, Nq23, e23⟩ := hQ23
        have N23 := Fr.app N0 Nq23
        obtain ⟨T24, X24, e24, st24⟩ := getS2 X23 hx hZ hown (host := "") (Or.inl (hw _ (List.mem_of_getElem? (i := 8) rfl))) Via.refl e23 S_RESOURCES (g := (mkF m 14 #[.val (.int p1), .val (.int ((p1 &&& (2147483647 : Int32)) % (10 : Int32))), .val (.ref w_RESOURCE), .unset, .unset, .unset] [(.ref w_RESOURCE)])) rfl (hb hby at_14)
        obtain ⟨T25, X25, e25, st25⟩ := getS2 X24 hx hZ hown (host := "") (Or.inl (hw _ (List.mem_of_getElem? (i := 10) rfl))) Via.refl e24 S_PAIRS (g := (mkF m 21 #[.val (.int p1), .val (.int ((p1 &&& (2147483647 : Int32)) % (10 : Int32))), .val (.ref w_RESOURCE), .unset, .unset, .unset] [(.ref w_RESOURCE)])) rfl (hb hby at_21)
        obtain ⟨T26, X26, e26, st26⟩ := getS2 X25 hx hZ hown (host := "") (Or.inl (hw _ (List.mem_of_getElem? (i := 12) rfl))) Via.refl e25 S_ROWS (g := (mkF m 28 #[.val (.int p1), .val (.int ((p1 &&& (2147483647 : Int32)) % (10 : Int32))), .val (.ref w_RESOURCE), .unset, .unset, .unset] [(.ref w_RESOURCE)])) rfl (hb hby at_28)
        obtain ⟨T27, X27, e27, st27⟩ := getS2 X26 hx hZ hown (host := "") (Or.inl (hw _ (List.mem_of_getElem? (i := 14) rfl))) Via.refl e26 S_BOOLEAN (g := (mkF m 41 #[.val (.int p1), .val (.int ((p1 &&& (2147483647 : Int32)) % (10 : Int32))), .val (.ref w_RESOURCE), .val (.int (0 : Int32)), .unset, .unset] [(.ref w_RESOURCE)])) rfl (hb hby at_41)
        obtain ⟨T28, X28, e28, st28⟩ := getS2 X27 hx hZ hown (host := "") (Or.inl (hw _ (List.mem_of_getElem? (i := 16) rfl))) Via.refl e27 S_NUMBER (g := (mkF m 48 #[.val (.int p1), .val (.int ((p1 &&& (2147483647 : Int32)) % (10 : Int32))), .val (.ref w_RESOURCE), .val (.int (0 : Int32)), .unset, .unset] [(.ref w_RESOURCE)])) rfl (hb hby at_48)
        obtain ⟨cq30, kq30, q30a, q30b, q30c⟩ := isOf hZ e28 E_RESOURCE
        obtain ⟨_, _, ⟨T29, L29, k29, n29⟩, -, X29, ⟨Lc29, hQ29, l29, y29, z29⟩, st29⟩ := X28.virtualBack hx (y := (⟨"com/example/stratigraph/stratigraph/rql/Type", "isItem", "()Z"⟩ : MethodName)) (z := (⟨"com/example/stratigraph/stratigraph/rql/Type", "isItem", "()Z"⟩ : MethodName)) hown (mvT hZ (hw _ (List.mem_of_getElem? (i := 18) rfl))) (mvT hZ (hw _ (List.mem_of_getElem? (i := 19) rfl))) (notFace_of_selects (args := #[]) (mvT hZ (hw _ (List.mem_of_getElem? (i := 21) rfl)))) (mvT hZ (hw _ (List.mem_of_getElem? (i := 21) rfl))) (mvT hZ (hw _ (List.mem_of_getElem? (i := 20) rfl))) (by decide) (backOf (W := 0) (rm2 l Z a0 hw [] w_RESOURCE w_CLASS w_PROPERTY w_RESOURCE w_VALUE w_LITERAL (1 : Int32) h0 n0 S_CLASS S_PROPERTY S_RESOURCE S_VALUE S_LITERAL (by unfold own_item; rw [if_neg ((Fld.ne O_RESOURCE O_CLASS (fun q => absurd (Value.int.inj q) (by decide))) : ¬ (w_RESOURCE = w_CLASS)), if_neg ((Fld.ne O_RESOURCE O_PROPERTY (fun q => absurd (Value.int.inj q) (by decide))) : ¬ (w_RESOURCE = w_PROPERTY)), if_pos (rfl : w_RESOURCE = w_RESOURCE)])) hZ (hw _ (List.mem_of_getElem? (i := 22) rfl)) (hw _ (List.mem_of_getElem? (i := 6) rfl)) (by decide) (by decide)) q30a q30c (g := (mkF m 78 #[.val (.int p1), .val (.int ((p1 &&& (2147483647 : Int32)) % (10 : Int32))), .val (.ref w_RESOURCE), .val (.int (0 : Int32)), .val (.int (0 : Int32)), .val (.int (1 : Int32))] [(.ref w_RESOURCE)])) rfl (by rw [hml]; rfl) (Steps.refl _) (argsL := []) (rest := []) (lenOf (show parseMethodDescriptor "()Z" = some ⟨[], some .boolean⟩ by decide +kernel) rfl) rfl (by show 2 * 0 + _ ≤ _; exact Nat.le_of_eq rfl) (hb hby at_78) (fun _ _ => ⟨rfl, e28, (by decide : 0 + 0 ≤ _), (by decide : 0 + 0 ≤ _)⟩)
        dsimp only [Pt.U, Pt.locs, Pt.cells, Pt.slots] at X29 l29 y29 z29 st29 hQ29
        subst l29 y29 z29
        obtain ⟨rfl, Nq29, e29⟩ := hQ29
        have N29 := Fr.app N23 Nq29
        obtain ⟨fs, hr31, hrun, hended, hW, hsame⟩ := X29.leave (v := some (.int (1 : Int32))) (fun h => by rw [Bd.returns] at h; cases h)
        refine ⟨_, _, pre1 _ ?_, hrun, hended, _, _, rfl, ?_, ⟨_, rfl⟩, hW, hsame.mono (by decide) (by decide)⟩
        · show Steps p.tables e below (s₁.setTop (mkF m 8 #[.val (.int p1), .val (.int ((p1 &&& (2147483647 : Int32)) % (10 : Int32))), .unset, .unset, .unset, .unset] [])) _
          refine XS.iloadN X0.here hx rfl (hb hby at_8) rfl ?_
          show Steps p.tables e below (s₁.setTop (mkF m 9 #[.val (.int p1), .val (.int ((p1 &&& (2147483647 : Int32)) % (10 : Int32))), .unset, .unset, .unset, .unset] [(.int ((p1 &&& (2147483647 : Int32)) % (10 : Int32)))])) _
          refine st23 _ ?_
          show Steps p.tables e below (T23.setTop (mkF m 12 #[.val (.int p1), .val (.int ((p1 &&& (2147483647 : Int32)) % (10 : Int32))), .unset, .unset, .unset, .unset] [(.ref w_RESOURCE)])) _
          refine XS.astoreN X23.here hx rfl (hb hby at_12) rfl rfl (l' := #[.val (.int p1), .val (.int ((p1 &&& (2147483647 : Int32)) % (10 : Int32))), .val (.ref w_RESOURCE), .unset, .unset, .unset]) rfl ?_
          show Steps p.tables e below (T23.setTop (mkF m 13 #[.val (.int p1), .val (.int ((p1 &&& (2147483647 : Int32)) % (10 : Int32))), .val (.ref w_RESOURCE), .unset, .unset, .unset] [])) _
          refine XS.aloadN X23.here hx rfl (hb hby at_13) rfl rfl ?_
          show Steps p.tables e below (T23.setTop (mkF m 14 #[.val (.int p1), .val (.int ((p1 &&& (2147483647 : Int32)) % (10 : Int32))), .val (.ref w_RESOURCE), .unset, .unset, .unset] [(.ref w_RESOURCE)])) _
          refine st24 _ ?_
          show Steps p.tables e below (T24.setTop (mkF m 17 #[.val (.int p1), .val (.int ((p1 &&& (2147483647 : Int32)) % (10 : Int32))), .val (.ref w_RESOURCE), .unset, .unset, .unset] [(.ref w_RESOURCES), (.ref w_RESOURCE)])) _
          refine Jvm.RoadKit.acmp (g := (mkF m 17 #[.val (.int p1), .val (.int ((p1 &&& (2147483647 : Int32)) % (10 : Int32))), .val (.ref w_RESOURCE), .unset, .unset, .unset] [(.ref w_RESOURCES), (.ref w_RESOURCE)])) X24 hx rfl rfl rfl (pc0 := 17) (pc' := 20) (same := false) rfl (hb hby at_17) rfl (decide_eq_false fun q => ((Fld.ne O_RESOURCE O_RESOURCES (fun q => absurd (Value.int.inj q) (by decide))) : ¬ (w_RESOURCE = w_RESOURCES)) (Value.ref.inj q)) (by decide) (by decide) ?_
          show Steps p.tables e below (T24.setTop (mkF m 20 #[.val (.int p1), .val (.int ((p1 &&& (2147483647 : Int32)) % (10 : Int32))), .val (.ref w_RESOURCE), .unset, .unset, .unset] [])) _
          refine XS.aloadN X24.here hx rfl (hb hby at_20) rfl rfl ?_
          show Steps p.tables e below (T24.setTop (mkF m 21 #[.val (.int p1), .val (.int ((p1 &&& (2147483647 : Int32)) % (10 : Int32))), .val (.ref w_RESOURCE), .unset, .unset, .unset] [(.ref w_RESOURCE)])) _
          refine st25 _ ?_
          show Steps p.tables e below (T25.setTop (mkF m 24 #[.val (.int p1), .val (.int ((p1 &&& (2147483647 : Int32)) % (10 : Int32))), .val (.ref w_RESOURCE), .unset, .unset, .unset] [(.ref w_PAIRS), (.ref w_RESOURCE)])) _
          refine Jvm.RoadKit.acmp (g := (mkF m 24 #[.val (.int p1), .val (.int ((p1 &&& (2147483647 : Int32)) % (10 : Int32))), .val (.ref w_RESOURCE), .unset, .unset, .unset] [(.ref w_PAIRS), (.ref w_RESOURCE)])) X25 hx rfl rfl rfl (pc0 := 24) (pc' := 27) (same := false) rfl (hb hby at_24) rfl (decide_eq_false fun q => ((Fld.ne O_RESOURCE O_PAIRS (fun q => absurd (Value.int.inj q) (by decide))) : ¬ (w_RESOURCE = w_PAIRS)) (Value.ref.inj q)) (by decide) (by decide) ?_
          show Steps p.tables e below (T25.setTop (mkF m 27 #[.val (.int p1), .val (.int ((p1 &&& (2147483647 : Int32)) % (10 : Int32))), .val (.ref w_RESOURCE), .unset, .unset, .unset] [])) _
          refine XS.aloadN X25.here hx rfl (hb hby at_27) rfl rfl ?_
          show Steps p.tables e below (T25.setTop (mkF m 28 #[.val (.int p1), .val (.int ((p1 &&& (2147483647 : Int32)) % (10 : Int32))), .val (.ref w_RESOURCE), .unset, .unset, .unset] [(.ref w_RESOURCE)])) _
          refine st26 _ ?_
          show Steps p.tables e below (T26.setTop (mkF m 31 #[.val (.int p1), .val (.int ((p1 &&& (2147483647 : Int32)) % (10 : Int32))), .val (.ref w_RESOURCE), .unset, .unset, .unset] [(.ref w_ROWS), (.ref w_RESOURCE)])) _
          refine Jvm.RoadKit.acmp (g := (mkF m 31 #[.val (.int p1), .val (.int ((p1 &&& (2147483647 : Int32)) % (10 : Int32))), .val (.ref w_RESOURCE), .unset, .unset, .unset] [(.ref w_ROWS), (.ref w_RESOURCE)])) X26 hx rfl rfl rfl (pc0 := 31) (pc' := 38) (same := false) rfl (hb hby at_31) rfl (decide_eq_false fun q => ((Fld.ne O_RESOURCE O_ROWS (fun q => absurd (Value.int.inj q) (by decide))) : ¬ (w_RESOURCE = w_ROWS)) (Value.ref.inj q)) (by decide) (by decide) ?_
          show Steps p.tables e below (T26.setTop (mkF m 38 #[.val (.int p1), .val (.int ((p1 &&& (2147483647 : Int32)) % (10 : Int32))), .val (.ref w_RESOURCE), .unset, .unset, .unset] [])) _
          refine XT.iconstV X26.here hx rfl (0 : Int32) (hb hby at_38) (by decide) ?_
          show Steps p.tables e below (T26.setTop (mkF m 39 #[.val (.int p1), .val (.int ((p1 &&& (2147483647 : Int32)) % (10 : Int32))), .val (.ref w_RESOURCE), .unset, .unset, .unset] [(.int (0 : Int32))])) _
          refine XS.istoreN X26.here hx rfl (hb hby at_39) rfl (l' := #[.val (.int p1), .val (.int ((p1 &&& (2147483647 : Int32)) % (10 : Int32))), .val (.ref w_RESOURCE), .val (.int (0 : Int32)), .unset, .unset]) rfl ?_
          show Steps p.tables e below (T26.setTop (mkF m 40 #[.val (.int p1), .val (.int ((p1 &&& (2147483647 : Int32)) % (10 : Int32))), .val (.ref w_RESOURCE), .val (.int (0 : Int32)), .unset, .unset] [])) _
          refine XS.aloadN X26.here hx rfl (hb hby at_40) rfl rfl ?_
          show Steps p.tables e below (T26.setTop (mkF m 41 #[.val (.int p1), .val (.int ((p1 &&& (2147483647 : Int32)) % (10 : Int32))), .val (.ref w_RESOURCE), .val (.int (0 : Int32)), .unset, .unset] [(.ref w_RESOURCE)])) _
          refine st27 _ ?_
          show Steps p.tables e below (T27.setTop (mkF m 44 #[.val (.int p1), .val (.int ((p1 &&& (2147483647 : Int32)) % (10 : Int32))), .val (.ref w_RESOURCE), .val (.int (0 : Int32)), .unset, .unset] [(.ref w_BOOLEAN), (.ref w_RESOURCE)])) _
          refine Jvm.RoadKit.acmp (g := (mkF m 44 #[.val (.int p1), .val (.int ((p1 &&& (2147483647 : Int32)) % (10 : Int32))), .val (.ref w_RESOURCE), .val (.int (0 : Int32)), .unset, .unset] [(.ref w_BOOLEAN), (.ref w_RESOURCE)])) X27 hx rfl rfl rfl (pc0 := 44) (pc' := 47) (same := false) rfl (hb hby at_44) rfl (decide_eq_false fun q => ((Fld.ne O_RESOURCE O_BOOLEAN (fun q => absurd (Value.int.inj q) (by decide))) : ¬ (w_RESOURCE = w_BOOLEAN)) (Value.ref.inj q)) (by decide) (by decide) ?_
          show Steps p.tables e below (T27.setTop (mkF m 47 #[.val (.int p1), .val (.int ((p1 &&& (2147483647 : Int32)) % (10 : Int32))), .val (.ref w_RESOURCE), .val (.int (0 : Int32)), .unset, .unset] [])) _
          refine XS.aloadN X27.here hx rfl (hb hby at_47) rfl rfl ?_
          show Steps p.tables e below (T27.setTop (mkF m 48 #[.val (.int p1), .val (.int ((p1 &&& (2147483647 : Int32)) % (10 : Int32))), .val (.ref w_RESOURCE), .val (.int (0 : Int32)), .unset, .unset] [(.ref w_RESOURCE)])) _
          refine st28 _ ?_
          show Steps p.tables e below (T28.setTop (mkF m 51 #[.val (.int p1), .val (.int ((p1 &&& (2147483647 : Int32)) % (10 : Int32))), .val (.ref w_RESOURCE), .val (.int (0 : Int32)), .unset, .unset] [(.ref w_NUMBER), (.ref w_RESOURCE)])) _
          refine Jvm.RoadKit.acmp (g := (mkF m 51 #[.val (.int p1), .val (.int ((p1 &&& (2147483647 : Int32)) % (10 : Int32))), .val (.ref w_RESOURCE), .val (.int (0 : Int32)), .unset, .unset] [(.ref w_NUMBER), (.ref w_RESOURCE)])) X28 hx rfl rfl rfl (pc0 := 51) (pc' := 58) (same := false) rfl (hb hby at_51) rfl (decide_eq_false fun q => ((Fld.ne O_RESOURCE O_NUMBER (fun q => absurd (Value.int.inj q) (by decide))) : ¬ (w_RESOURCE = w_NUMBER)) (Value.ref.inj q)) (by decide) (by decide) ?_
          show Steps p.tables e below (T28.setTop (mkF m 58 #[.val (.int p1), .val (.int ((p1 &&& (2147483647 : Int32)) % (10 : Int32))), .val (.ref w_RESOURCE), .val (.int (0 : Int32)), .unset, .unset] [])) _
          refine XT.iconstV X28.here hx rfl (0 : Int32) (hb hby at_58) (by decide) ?_
          show Steps p.tables e below (T28.setTop (mkF m 59 #[.val (.int p1), .val (.int ((p1 &&& (2147483647 : Int32)) % (10 : Int32))), .val (.ref w_RESOURCE), .val (.int (0 : Int32)), .unset, .unset] [(.int (0 : Int32))])) _
          refine XS.istore X28.here hx rfl (hb hby at_59) rfl (l' := #[.val (.int p1), .val (.int ((p1 &&& (2147483647 : Int32)) % (10 : Int32))), .val (.ref w_RESOURCE), .val (.int (0 : Int32)), .val (.int (0 : Int32)), .unset]) rfl ?_
          show Steps p.tables e below (T28.setTop (mkF m 61 #[.val (.int p1), .val (.int ((p1 &&& (2147483647 : Int32)) % (10 : Int32))), .val (.ref w_RESOURCE), .val (.int (0 : Int32)), .val (.int (0 : Int32)), .unset] [])) _
          refine XS.iloadN X28.here hx rfl (hb hby at_61) rfl ?_
          show Steps p.tables e below (T28.setTop (mkF m 62 #[.val (.int p1), .val (.int ((p1 &&& (2147483647 : Int32)) % (10 : Int32))), .val (.ref w_RESOURCE), .val (.int (0 : Int32)), .val (.int (0 : Int32)), .unset] [(.int (0 : Int32))])) _
          refine XS.ifNo X28.here hx rfl (hb hby at_62) rfl ((if0 _ _).trans (teq (rfl : (0 : Int32) = (0 : Int32))).2) ?_
          show Steps p.tables e below (T28.setTop (mkF m 65 #[.val (.int p1), .val (.int ((p1 &&& (2147483647 : Int32)) % (10 : Int32))), .val (.ref w_RESOURCE), .val (.int (0 : Int32)), .val (.int (0 : Int32)), .unset] [])) _
          refine XS.iload X28.here hx rfl (hb hby at_65) rfl ?_
          show Steps p.tables e below (T28.setTop (mkF m 67 #[.val (.int p1), .val (.int ((p1 &&& (2147483647 : Int32)) % (10 : Int32))), .val (.ref w_RESOURCE), .val (.int (0 : Int32)), .val (.int (0 : Int32)), .unset] [(.int (0 : Int32))])) _
          refine XS.ifNo X28.here hx rfl (hb hby at_67) rfl ((if0 _ _).trans (teq (rfl : (0 : Int32) = (0 : Int32))).2) ?_
          show Steps p.tables e below (T28.setTop (mkF m 70 #[.val (.int p1), .val (.int ((p1 &&& (2147483647 : Int32)) % (10 : Int32))), .val (.ref w_RESOURCE), .val (.int (0 : Int32)), .val (.int (0 : Int32)), .unset] [])) _
          refine XT.iconstV X28.here hx rfl (1 : Int32) (hb hby at_70) (by decide) ?_
          show Steps p.tables e below (T28.setTop (mkF m 71 #[.val (.int p1), .val (.int ((p1 &&& (2147483647 : Int32)) % (10 : Int32))), .val (.ref w_RESOURCE), .val (.int (0 : Int32)), .val (.int (0 : Int32)), .unset] [(.int (1 : Int32))])) _
          refine XS.goto X28.here hx rfl (pc0 := 71) (pc' := 75) rfl (hb hby at_71) (by decide) (by decide) ?_
          show Steps p.tables e below (T28.setTop (mkF m 75 #[.val (.int p1), .val (.int ((p1 &&& (2147483647 : Int32)) % (10 : Int32))), .val (.ref w_RESOURCE), .val (.int (0 : Int32)), .val (.int (0 : Int32)), .unset] [(.int (1 : Int32))])) _
          refine XS.istore X28.here hx rfl (hb hby at_75) rfl (l' := #[.val (.int p1), .val (.int ((p1 &&& (2147483647 : Int32)) % (10 : Int32))), .val (.ref w_RESOURCE), .val (.int (0 : Int32)), .val (.int (0 : Int32)), .val (.int (1 : Int32))]) rfl ?_
          show Steps p.tables e below (T28.setTop (mkF m 77 #[.val (.int p1), .val (.int ((p1 &&& (2147483647 : Int32)) % (10 : Int32))), .val (.ref w_RESOURCE), .val (.int (0 : Int32)), .val (.int (0 : Int32)), .val (.int (1 : Int32))] [])) _
          refine XS.aloadN X28.here hx rfl (hb hby at_77) rfl rfl ?_
          show Steps p.tables e below (T28.setTop (mkF m 78 #[.val (.int p1), .val (.int ((p1 &&& (2147483647 : Int32)) % (10 : Int32))), .val (.ref w_RESOURCE), .val (.int (0 : Int32)), .val (.int (0 : Int32)), .val (.int (1 : Int32))] [(.ref w_RESOURCE)])) _
          refine st29.trans ?_
          show Steps p.tables e below (T29.setTop (mkF m 81 #[.val (.int p1), .val (.int ((p1 &&& (2147483647 : Int32)) % (10 : Int32))), .val (.ref w_RESOURCE), .val (.int (0 : Int32)), .val (.int (0 : Int32)), .val (.int (1 : Int32))] [(.int (1 : Int32))])) _
          refine XS.iload X29.here hx rfl (hb hby at_81) rfl ?_
          show Steps p.tables e below (T29.setTop (mkF m 83 #[.val (.int p1), .val (.int ((p1 &&& (2147483647 : Int32)) % (10 : Int32))), .val (.ref w_RESOURCE), .val (.int (0 : Int32)), .val (.int (0 : Int32)), .val (.int (1 : Int32))] [(.int (1 : Int32)), (.int (1 : Int32))])) _
          refine XS.icmpNo X29.here hx rfl (hb hby at_83) rfl (teq (rfl : (1 : Int32) = (1 : Int32))).2 ?_
          show Steps p.tables e below (T29.setTop (mkF m 86 #[.val (.int p1), .val (.int ((p1 &&& (2147483647 : Int32)) % (10 : Int32))), .val (.ref w_RESOURCE), .val (.int (0 : Int32)), .val (.int (0 : Int32)), .val (.int (1 : Int32))] [])) _
          refine XT.iconstV X29.here hx rfl (1 : Int32) (hb hby at_86) (by decide) ?_
          show Steps p.tables e below (T29.setTop (mkF m 87 #[.val (.int p1), .val (.int ((p1 &&& (2147483647 : Int32)) % (10 : Int32))), .val (.ref w_RESOURCE), .val (.int (0 : Int32)), .val (.int (0 : Int32)), .val (.int (1 : Int32))] [(.int (1 : Int32))])) _
          refine XS.goto X29.here hx rfl (pc0 := 87) (pc' := 91) rfl (hb hby at_87) (by decide) (by decide) ?_
          show Steps p.tables e below (T29.setTop (mkF m 91 #[.val (.int p1), .val (.int ((p1 &&& (2147483647 : Int32)) % (10 : Int32))), .val (.ref w_RESOURCE), .val (.int (0 : Int32)), .val (.int (0 : Int32)), .val (.int (1 : Int32))] [(.int (1 : Int32))])) _
          exact retN X29 hx (t := .boolean) Bd.returns (by simp) (hb hby at_91) hr31
        · show Q0 Z _ _ _ _ _ _ _ _ _ _ _ h0 n0 _ T29.heap _
          rw [e29]
          exact ⟨rfl, N29⟩
      ·
        by_cases hc32 : ((p1 &&& (2147483647 : Int32)) % (10 : Int32)) = (3 : Int32)
        ·
          obtain ⟨_, _, ⟨T33, L33, k33, n33⟩, -, X33, ⟨Lc33, hQ33, l33, y33, z33⟩, st33⟩ := Jvm.LawKit.callS X0 hx (y := (⟨"com/example/stratigraph/stratigraph/rql/TypeIsItemPinLaw", "pick", "(I)Lcom/example/stratigraph/stratigraph/rql/Type;"⟩ : MethodName)) hown (mvT hZ (hw _ (List.mem_of_getElem? (i := 1) rfl))) (mvT hZ (hw _ (List.mem_of_getElem? (i := 2) rfl))) (mvT hZ (hw _ (List.mem_of_getElem? (i := 3) rfl))) (mvT hZ (hw _ (List.mem_of_getElem? (i := 4) rfl))) (by decide) (backOf (W := 0) (rm1 l Z a0 hw [] ((p1 &&& (2147483647 : Int32)) % (10 : Int32)) w_CLASS w_PROPERTY w_RESOURCE w_VALUE w_LITERAL w_RESOURCES w_PAIRS w_ROWS w_BOOLEAN w_NUMBER w_VALUE h0 n0 S_CLASS S_PROPERTY S_RESOURCE S_VALUE S_LITERAL S_RESOURCES S_PAIRS S_ROWS S_BOOLEAN S_NUMBER (by unfold own_pick; rw [if_neg (hc2 : ¬ (((p1 &&& (2147483647 : Int32)) % (10 : Int32)) = (0 : Int32))), if_neg (hc12 : ¬ (((p1 &&& (2147483647 : Int32)) % (10 : Int32)) = (1 : Int32))), if_neg (hc22 : ¬ (((p1 &&& (2147483647 : Int32)) % (10 : Int32)) = (2 : Int32))), if_pos (hc32 : ((p1 &&& (2147483647 : Int32)) % (10 : Int32)) = (3 : Int32))])) hZ (hw _ (List.mem_of_getElem? (i := 4) rfl)) (hw _ (List.mem_of_getElem? (i := 3) rfl)) (by decide) (by decide)) (g := (mkF m 9 #[.val (.int p1), .val (.int ((p1 &&& (2147483647 : Int32)) % (10 : Int32))), .unset, .unset, .unset, .unset] [(.int ((p1 &&& (2147483647 : Int32)) % (10 : Int32)))])) rfl (by rw [hml]; rfl) (argsL := [(.int ((p1 &&& (2147483647 : Int32)) % (10 : Int32)))]) (rest := []) (lenOf (show parseMethodDescriptor "(I)Lcom/example/stratigraph/stratigraph/rql/Type;" = some ⟨[.int], some (.object "com/example/stratigraph/stratigraph/rql/Type")⟩ by decide +kernel) rfl) rfl (by show 2 * 0 + _ ≤ _; exact Nat.le_of_eq rfl) (hb hby at_9) (fun _ _ => ⟨rfl, e0, (by decide : 0 + 0 ≤ _), (by decide : 0 + 0 ≤ _)⟩)
          dsimp only [Pt.U, Pt.locs, Pt.cells, Pt.slots] at X33 l33 y33 z33 st33 hQ33
          subst l33 y33 z33
          obtain ⟨rfl, Nq33, e33⟩ := hQ33
          have N33 := Fr.app N0 Nq33
          obtain ⟨T34, X34, e34, st34⟩ := getS2 X33 hx hZ hown (host := "") (Or.inl (hw _ (List.mem_of_getElem? (i := 8) rfl))) Via.refl e33 S_RESOURCES (g := (mkF m 14 #[.val (.int p1), .val (.int ((p1 &&& (2147483647 : Int32)) % (10 : Int32))), .val (.ref w_VALUE), .unset, .unset, .unset] [(.ref w_VALUE)])) rfl (hb hby at_14)
          obtain ⟨T35, X35, e35, st35⟩ := getS2 X34 hx hZ hown (host := "") (Or.inl (hw _ (List.mem_of_getElem? (i := 10) rfl))) Via.refl e34 S_PAIRS (g := (mkF m 21 #[.val (.int p1), .val (.int ((p1 &&& (2147483647 : Int32)) % (10 : Int32))), .val (.ref w_VALUE), .unset, .unset, .unset] [(.ref w_VALUE)])) rfl (hb hby at_21)
          obtain ⟨T36, X36, e36, st36⟩ := getS2 X35 hx hZ hown (host := "") (Or.inl (hw _ (List.mem_of_getElem? (i := 12) rfl))) Via.refl e35 S_ROWS (g := (mkF m 28 #[.val (.int p1), .val (.int ((p1 &&& (2147483647 : Int32)) % (10 : Int32))), .val (.ref w_VALUE), .unset, .unset, .unset] [(.ref w_VALUE)])) rfl (hb hby at_28)
          obtain ⟨T37, X37, e37, st37⟩ := getS2 X36 hx hZ hown (host := "") (Or.inl (hw _ (List.mem_of_getElem? (i := 14) rfl))) Via.refl e36 S_BOOLEAN (g := (mkF m 41 #[.val (.int p1), .val (.int ((p1 &&& (2147483647 : Int32)) % (10 : Int32))), .val (.ref w_VALUE), .val (.int (0 : Int32)), .unset, .unset] [(.ref w_VALUE)])) rfl (hb hby at_41)
          obtain ⟨T38, X38, e38, st38⟩ := getS2 X37 hx hZ hown (host := "") (Or.inl (hw _ (List.mem_of_getElem? (i := 16) rfl))) Via.refl e37 S_NUMBER (g := (mkF m 48 #[.val (.int p1), .val (.int ((p1 &&& (2147483647 : Int32)) % (10 : Int32))), .val (.ref w_VALUE), .val (.int (0 : Int32)), .unset, .unset] [(.ref w_VALUE)])) rfl (hb hby at_48)
          obtain ⟨cq40, kq40, q40a, q40b, q40c⟩ := isOf hZ e38 E_VALUE
          obtain ⟨_, _, ⟨T39, L39, k39, n39⟩, -, X39, ⟨Lc39, hQ39, l39, y39, z39⟩, st39⟩ := X38.virtualBack hx (y := (⟨"com/example/stratigraph/stratigraph/rql/Type", "isItem", "()Z"⟩ : MethodName)) (z := (⟨"com/example/stratigraph/stratigraph/rql/Type", "isItem", "()Z"⟩ : MethodName)) hown (mvT hZ (hw _ (List.mem_of_getElem? (i := 18) rfl))) (mvT hZ (hw _ (List.mem_of_getElem? (i := 19) rfl))) (notFace_of_selects (args := #[]) (mvT hZ (hw _ (List.mem_of_getElem? (i := 21) rfl)))) (mvT hZ (hw _ (List.mem_of_getElem? (i := 21) rfl))) (mvT hZ (hw _ (List.mem_of_getElem? (i := 20) rfl))) (by decide) (backOf (W := 0) (rm2 l Z a0 hw [] w_VALUE w_CLASS w_PROPERTY w_RESOURCE w_VALUE w_LITERAL (1 : Int32) h0 n0 S_CLASS S_PROPERTY S_RESOURCE S_VALUE S_LITERAL (by unfold own_item; rw [if_neg ((Fld.ne O_VALUE O_CLASS (fun q => absurd (Value.int.inj q) (by decide))) : ¬ (w_VALUE = w_CLASS)), if_neg ((Fld.ne O_VALUE O_PROPERTY (fun q => absurd (Value.int.inj q) (by decide))) : ¬ (w_VALUE = w_PROPERTY)), if_neg ((Fld.ne O_VALUE O_RESOURCE (fun q => absurd (Value.int.inj q) (by decide))) : ¬ (w_VALUE = w_RESOURCE)), if_pos (rfl : w_VALUE = w_VALUE)])) hZ (hw _ (List.mem_of_getElem? (i := 22) rfl)) (hw _ (List.mem_of_getElem? (i := 6) rfl)) (by decide) (by decide)) q40a q40c (g := (mkF m 78 #[.val (.int p1), .val (.int ((p1 &&& (2147483647 : Int32)) % (10 : Int32))), .val (.ref w_VALUE), .val (.int (0 : Int32)), .val (.int (0 : Int32)), .val (.int (1 : Int32))] [(.ref w_VALUE)])) rfl (by rw [hml]; rfl) (Steps.refl _) (argsL := []) (rest := []) (lenOf (show parseMethodDescriptor "()Z" = some ⟨[], some .boolean⟩ by decide +kernel) rfl) rfl (by show 2 * 0 + _ ≤ _; exact Nat.le_of_eq rfl) (hb hby at_78) (fun _ _ => ⟨rfl, e38, (by decide : 0 + 0 ≤ _), (by decide : 0 + 0 ≤ _)⟩)
          dsimp only [Pt.U, Pt.locs, Pt.cells, Pt.slots] at X39 l39 y39 z39 st39 hQ39
          subst l39 y39 z39
          obtain ⟨rfl, Nq39, e39⟩ := hQ39
          have N39 := Fr.app N33 Nq39
          obtain ⟨fs, hr41, hrun, hended, hW, hsame⟩ := X39.leave (v := some (.int (1 : Int32))) (fun h => by rw [Bd.returns] at h; cases h)
          refine ⟨_, _, pre1 _ ?_, hrun, hended, _, _, rfl, ?_, ⟨_, rfl⟩, hW, hsame.mono (by decide) (by decide)⟩
          · show Steps p.tables e below (s₁.setTop (mkF m 8 #[.val (.int p1), .val (.int ((p1 &&& (2147483647 : Int32)) % (10 : Int32))), .unset, .unset, .unset, .unset] [])) _
            refine XS.iloadN X0.here hx rfl (hb hby at_8) rfl ?_
            show Steps p.tables e below (s₁.setTop (mkF m 9 #[.val (.int p1), .val (.int ((p1 &&& (2147483647 : Int32)) % (10 : Int32))), .unset, .unset, .unset, .unset] [(.int ((p1 &&& (2147483647 : Int32)) % (10 : Int32)))])) _
            refine st33 _ ?_
            show Steps p.tables e below (T33.setTop (mkF m 12 #[.val (.int p1), .val (.int ((p1 &&& (2147483647 : Int32)) % (10 : Int32))), .unset, .unset, .unset, .unset] [(.ref w_VALUE)])) _
            refine XS.astoreN X33.here hx rfl (hb hby at_12) rfl rfl (l' := #[.val (.int p1), .val (.int ((p1 &&& (2147483647 : Int32)) % (10 : Int32))), .val (.ref w_VALUE), .unset, .unset, .unset]) rfl ?_
            show Steps p.tables e below (T33.setTop (mkF m 13 #[.val (.int p1), .val (.int ((p1 &&& (2147483647 : Int32)) % (10 : Int32))), .val (.ref w_VALUE), .unset, .unset, .unset] [])) _
            refine XS.aloadN X33.here hx rfl (hb hby at_13) rfl rfl ?_
            show Steps p.tables e below (T33.setTop (mkF m 14 #[.val (.int p1), .val (.int ((p1 &&& (2147483647 : Int32)) % (10 : Int32))), .val (.ref w_VALUE), .unset, .unset, .unset] [(.ref w_VALUE)])) _
            refine st34 _ ?_
            show Steps p.tables e below (T34.setTop (mkF m 17 #[.val (.int p1), .val (.int ((p1 &&& (2147483647 : Int32)) % (10 : Int32))), .val (.ref w_VALUE), .unset, .unset, .unset] [(.ref w_RESOURCES), (.ref w_VALUE)])) _
            refine Jvm.RoadKit.acmp (g := (mkF m 17 #[.val (.int p1), .val (.int ((p1 &&& (2147483647 : Int32)) % (10 : Int32))), .val (.ref w_VALUE), .unset, .unset, .unset] [(.ref w_RESOURCES), (.ref w_VALUE)])) X34 hx rfl rfl rfl (pc0 := 17) (pc' := 20) (same := false) rfl (hb hby at_17) rfl (decide_eq_false fun q => ((Fld.ne O_VALUE O_RESOURCES (fun q => absurd (Value.int.inj q) (by decide))) : ¬ (w_VALUE = w_RESOURCES)) (Value.ref.inj q)) (by decide) (by decide) ?_
            show Steps p.tables e below (T34.setTop (mkF m 20 #[.val (.int p1), .val (.int ((p1 &&& (2147483647 : Int32)) % (10 : Int32))), .val (.ref w_VALUE), .unset, .unset, .unset] [])) _
            refine XS.aloadN X34.here hx rfl (hb hby at_20) rfl rfl ?_
            show Steps p.tables e below (T34.setTop (mkF m 21 #[.val (.int p1), .val (.int ((p1 &&& (2147483647 : Int32)) % (10 : Int32))), .val (.ref w_VALUE), .unset, .unset, .unset] [(.ref w_VALUE)])) _
            refine st35 _ ?_
            show Steps p.tables e below (T35.setTop (mkF m 24 #[.val (.int p1), .val (.int ((p1 &&& (2147483647 : Int32)) % (10 : Int32))), .val (.ref w_VALUE), .unset, .unset, .unset] [(.ref w_PAIRS), (.ref w_VALUE)])) _
            refine Jvm.RoadKit.acmp (g := (mkF m 24 #[.val (.int p1), .val (.int ((p1 &&& (2147483647 : Int32)) % (10 : Int32))), .val (.ref w_VALUE), .unset, .unset, .unset] [(.ref w_PAIRS), (.ref w_VALUE)])) X35 hx rfl rfl rfl (pc0 := 24) (pc' := 27) (same := false) rfl (hb hby at_24) rfl (decide_eq_false fun q => ((Fld.ne O_VALUE O_PAIRS (fun q => absurd (Value.int.inj q) (by decide))) : ¬ (w_VALUE = w_PAIRS)) (Value.ref.inj q)) (by decide) (by decide) ?_
            show Steps p.tables e below (T35.setTop (mkF m 27 #[.val (.int p1), .val (.int ((p1 &&& (2147483647 : Int32)) % (10 : Int32))), .val (.ref w_VALUE), .unset, .unset, .unset] [])) _
            refine XS.aloadN X35.here hx rfl (hb hby at_27) rfl rfl ?_
            show Steps p.tables e below (T35.setTop (mkF m 28 #[.val (.int p1), .val (.int ((p1 &&& (2147483647 : Int32)) % (10 : Int32))), .val (.ref w_VALUE), .unset, .unset, .unset] [(.ref w_VALUE)])) _
            refine st36 _ ?_
            show Steps p.tables e below (T36.setTop (mkF m 31 #[.val (.int p1), .val (.int ((p1 &&& (2147483647 : Int32)) % (10 : Int32))), .val (.ref w_VALUE), .unset, .unset, .unset] [(.ref w_ROWS), (.ref w_VALUE)])) _
            refine Jvm.RoadKit.acmp (g := (mkF m 31 #[.val (.int p1), .val (.int ((p1 &&& (2147483647 : Int32)) % (10 : Int32))), .val (.ref w_VALUE), .unset, .unset, .unset] [(.ref w_ROWS), (.ref w_VALUE)])) X36 hx rfl rfl rfl (pc0 := 31) (pc' := 38) (same := false) rfl (hb hby at_31) rfl (decide_eq_false fun q => ((Fld.ne O_VALUE O_ROWS (fun q => absurd (Value.int.inj q) (by decide))) : ¬ (w_VALUE = w_ROWS)) (Value.ref.inj q)) (by decide) (by decide) ?_
            show Steps p.tables e below (T36.setTop (mkF m 38 #[.val (.int p1), .val (.int ((p1 &&& (2147483647 : Int32)) % (10 : Int32))), .val (.ref w_VALUE), .unset, .unset, .unset] [])) _
            refine XT.iconstV X36.here hx rfl (0 : Int32) (hb hby at_38) (by decide) ?_
            show Steps p.tables e below (T36.setTop (mkF m 39 #[.val (.int p1), .val (.int ((p1 &&& (2147483647 : Int32)) % (10 : Int32))), .val (.ref w_VALUE), .unset, .unset, .unset] [(.int (0 : Int32))])) _
            refine XS.istoreN X36.here hx rfl (hb hby at_39) rfl (l' := #[.val (.int p1), .val (.int ((p1 &&& (2147483647 : Int32)) % (10 : Int32))), .val (.ref w_VALUE), .val (.int (0 : Int32)), .unset, .unset]) rfl ?_
            show Steps p.tables e below (T36.setTop (mkF m 40 #[.val (.int p1), .val (.int ((p1 &&& (2147483647 : Int32)) % (10 : Int32))), .val (.ref w_VALUE), .val (.int (0 : Int32)), .unset, .unset] [])) _
            refine XS.aloadN X36.here hx rfl (hb hby at_40) rfl rfl ?_
            show Steps p.tables e below (T36.setTop (mkF m 41 #[.val (.int p1), .val (.int ((p1 &&& (2147483647 : Int32)) % (10 : Int32))), .val (.ref w_VALUE), .val (.int (0 : Int32)), .unset, .unset] [(.ref w_VALUE)])) _
            refine st37 _ ?_
            show Steps p.tables e below (T37.setTop (mkF m 44 #[.val (.int p1), .val (.int ((p1 &&& (2147483647 : Int32)) % (10 : Int32))), .val (.ref w_VALUE), .val (.int (0 : Int32)), .unset, .unset] [(.ref w_BOOLEAN), (.ref w_VALUE)])) _
            refine Jvm.RoadKit.acmp (g := (mkF m 44 #[.val (.int p1), .val (.int ((p1 &&& (2147483647 : Int32)) % (10 : Int32))), .val (.ref w_VALUE), .val (.int (0 : Int32)), .unset, .unset] [(.ref w_BOOLEAN), (.ref w_VALUE)])) X37 hx rfl rfl rfl (pc0 := 44) (pc' := 47) (same := false) rfl (hb hby at_44) rfl (decide_eq_false fun q => ((Fld.ne O_VALUE O_BOOLEAN (fun q => absurd (Value.int.inj q) (by decide))) : ¬ (w_VALUE = w_BOOLEAN)) (Value.ref.inj q)) (by decide) (by decide) ?_
            show Steps p.tables e below (T37.setTop (mkF m 47 #[.val (.int p1), .val (.int ((p1 &&& (2147483647 : Int32)) % (10 : Int32))), .val (.ref w_VALUE), .val (.int (0 : Int32)), .unset, .unset] [])) _
            refine XS.aloadN X37.here hx rfl (hb hby at_47) rfl rfl ?_
            show Steps p.tables e below (T37.setTop (mkF m 48 #[.val (.int p1), .val (.int ((p1 &&& (2147483647 : Int32)) % (10 : Int32))), .val (.ref w_VALUE), .val (.int (0 : Int32)), .unset, .unset] [(.ref w_VALUE)])) _
            refine st38 _ ?_
            show Steps p.tables e below (T38.setTop (mkF m 51 #[.val (.int p1), .val (.int ((p1 &&& (2147483647 : Int32)) % (10 : Int32))), .val (.ref w_VALUE), .val (.int (0 : Int32)), .unset, .unset] [(.ref w_NUMBER), (.ref w_VALUE)])) _
            refine Jvm.RoadKit.acmp (g := (mkF m 51 #[.val (.int p1), .val (.int ((p1 &&& (2147483647 : Int32)) % (10 : Int32))), .val (.ref w_VALUE), .val (.int (0 : Int32)), .unset, .unset] [(.ref w_NUMBER), (.ref w_VALUE)])) X38 hx rfl rfl rfl (pc0 := 51) (pc' := 58) (same := false) rfl (hb hby at_51) rfl (decide_eq_false fun q => ((Fld.ne O_VALUE O_NUMBER (fun q => absurd (Value.int.inj q) (by decide))) : ¬ (w_VALUE = w_NUMBER)) (Value.ref.inj q)) (by decide) (by decide) ?_
            show Steps p.tables e below (T38.setTop (mkF m 58 #[.val (.int p1), .val (.int ((p1 &&& (2147483647 : Int32)) % (10 : Int32))), .val (.ref w_VALUE), .val (.int (0 : Int32)), .unset, .unset] [])) _
            refine XT.iconstV X38.here hx rfl (0 : Int32) (hb hby at_58) (by decide) ?_
            show Steps p.tables e below (T38.setTop (mkF m 59 #[.val (.int p1), .val (.int ((p1 &&& (2147483647 : Int32)) % (10 : Int32))), .val (.ref w_VALUE), .val (.int (0 : Int32)), .unset, .unset] [(.int (0 : Int32))])) _
            refine XS.istore X38.here hx rfl (hb hby at_59) rfl (l' := #[.val (.int p1), .val (.int ((p1 &&& (2147483647 : Int32)) % (10 : Int32))), .val (.ref w_VALUE), .val (.int (0 : Int32)), .val (.int (0 : Int32)), .unset]) rfl ?_
            show Steps p.tables e below (T38.setTop (mkF m 61 #[.val (.int p1), .val (.int ((p1 &&& (2147483647 : Int32)) % (10 : Int32))), .val (.ref w_VALUE), .val (.int (0 : Int32)), .val (.int (0 : Int32)), .unset] [])) _
            refine XS.iloadN X38.here hx rfl (hb hby at_61) rfl ?_
            show Steps p.tables e below (T38.setTop (mkF m 62 #[.val (.int p1), .val (.int ((p1 &&& (2147483647 : Int32)) % (10 : Int32))), .val (.ref w_VALUE), .val (.int (0 : Int32)), .val (.int (0 : Int32)), .unset] [(.int (0 : Int32))])) _
            refine XS.ifNo X38.here hx rfl (hb hby at_62) rfl ((if0 _ _).trans (teq (rfl : (0 : Int32) = (0 : Int32))).2) ?_
            show Steps p.tables e below (T38.setTop (mkF m 65 #[.val (.int p1), .val (.int ((p1 &&& (2147483647 : Int32)) % (10 : Int32))), .val (.ref w_VALUE), .val (.int (0 : Int32)), .val (.int (0 : Int32)), .unset] [])) _
            refine XS.iload X38.here hx rfl (hb hby at_65) rfl ?_
            show Steps p.tables e below (T38.setTop (mkF m 67 #[.val (.int p1), .val (.int ((p1 &&& (2147483647 : Int32)) % (10 : Int32))), .val (.ref w_VALUE), .val (.int (0 : Int32)), .val (.int (0 : Int32)), .unset] [(.int (0 : Int32))])) _
            refine XS.ifNo X38.here hx rfl (hb hby at_67) rfl ((if0 _ _).trans (teq (rfl : (0 : Int32) = (0 : Int32))).2) ?_
            show Steps p.tables e below (T38.setTop (mkF m 70 #[.val (.int p1), .val (.int ((p1 &&& (2147483647 : Int32)) % (10 : Int32))), .val (.ref w_VALUE), .val (.int (0 : Int32)), .val (.int (0 : Int32)), .unset] [])) _
            refine XT.iconstV X38.here hx rfl (1 : Int32) (hb hby at_70) (by decide) ?_
            show Steps p.tables e below (T38.setTop (mkF m 71 #[.val (.int p1), .val (.int ((p1 &&& (2147483647 : Int32)) % (10 : Int32))), .val (.ref w_VALUE), .val (.int (0 : Int32)), .val (.int (0 : Int32)), .unset] [(.int (1 : Int32))])) _
            refine XS.goto X38.here hx rfl (pc0 := 71) (pc' := 75) rfl (hb hby at_71) (by decide) (by decide) ?_
            show Steps p.tables e below (T38.setTop (mkF m 75 #[.val (.int p1), .val (.int ((p1 &&& (2147483647 : Int32)) % (10 : Int32))), .val (.ref w_VALUE), .val (.int (0 : Int32)), .val (.int (0 : Int32)), .unset] [(.int (1 : Int32))])) _
            refine XS.istore X38.here hx rfl (hb hby at_75) rfl (l' := #[.val (.int p1), .val (.int ((p1 &&& (2147483647 : Int32)) % (10 : Int32))), .val (.ref w_VALUE), .val (.int (0 : Int32)), .val (.int (0 : Int32)), .val (.int (1 : Int32))]) rfl ?_
            show Steps p.tables e below (T38.setTop (mkF m 77 #[.val (.int p1), .val (.int ((p1 &&& (2147483647 : Int32)) % (10 : Int32))), .val (.ref w_VALUE), .val (.int (0 : Int32)), .val (.int (0 : Int32)), .val (.int (1 : Int32))] [])) _
            refine XS.aloadN X38.here hx rfl (hb hby at_77) rfl rfl ?_
            show Steps p.tables e below (T38.setTop (mkF m 78 #[.val (.int p1), .val (.int ((p1 &&& (2147483647 : Int32)) % (10 : Int32))), .val (.ref w_VALUE), .val (.int (0 : Int32)), .val (.int (0 : Int32)), .val (.int (1 : Int32))] [(.ref w_VALUE)])) _
            refine st39.trans ?_
            show Steps p.tables e below (T39.setTop (mkF m 81 #[.val (.int p1), .val (.int ((p1 &&& (2147483647 : Int32)) % (10 : Int32))), .val (.ref w_VALUE), .val (.int (0 : Int32)), .val (.int (0 : Int32)), .val (.int (1 : Int32))] [(.int (1 : Int32))])) _
            refine XS.iload X39.here hx rfl (hb hby at_81) rfl ?_
            show Steps p.tables e below (T39.setTop (mkF m 83 #[.val (.int p1), .val (.int ((p1 &&& (2147483647 : Int32)) % (10 : Int32))), .val (.ref w_VALUE), .val (.int (0 : Int32)), .val (.int (0 : Int32)), .val (.int (1 : Int32))] [(.int (1 : Int32)), (.int (1 : Int32))])) _
            refine XS.icmpNo X39.here hx rfl (hb hby at_83) rfl (teq (rfl : (1 : Int32) = (1 : Int32))).2 ?_
            show Steps p.tables e below (T39.setTop (mkF m 86 #[.val (.int p1), .val (.int ((p1 &&& (2147483647 : Int32)) % (10 : Int32))), .val (.ref w_VALUE), .val (.int (0 : Int32)), .val (.int (0 : Int32)), .val (.int (1 : Int32))] [])) _
            refine XT.iconstV X39.here hx rfl (1 : Int32) (hb hby at_86) (by decide) ?_
            show Steps p.tables e below (T39.setTop (mkF m 87 #[.val (.int p1), .val (.int ((p1 &&& (2147483647 : Int32)) % (10 : Int32))), .val (.ref w_VALUE), .val (.int (0 : Int32)), .val (.int (0 : Int32)), .val (.int (1 : Int32))] [(.int (1 : Int32))])) _
            refine XS.goto X39.here hx rfl (pc0 := 87) (pc' := 91) rfl (hb hby at_87) (by decide) (by decide) ?_
            show Steps p.tables e below (T39.setTop (mkF m 91 #[.val (.int p1), .val (.int ((p1 &&& (2147483647 : Int32)) % (10 : Int32))), .val (.ref w_VALUE), .val (.int (0 : Int32)), .val (.int (0 : Int32)), .val (.int (1 : Int32))] [(.int (1 : Int32))])) _
            exact retN X39 hx (t := .boolean) Bd.returns (by simp) (hb hby at_91) hr41
          · show Q0 Z _ _ _ _ _ _ _ _ _ _ _ h0 n0 _ T39.heap _
            rw [e39]
            exact ⟨rfl, N39⟩
        ·
          by_cases hc42 : ((p1 &&& (2147483647 : Int32)) % (10 : Int32)) = (4 : Int32)
          ·
            obtain ⟨_, _, ⟨T43, L43, k43, n43⟩, -, X43, ⟨Lc43, hQ43, l43, y43, z43⟩, st43⟩ := Jvm.LawKit.callS X0 hx (y := (⟨"com/example/stratigraph/stratigraph/rql/TypeIsItemPinLaw", "pick", "(I)Lcom/example/stratigraph/stratigraph/rql/Type;"⟩ : MethodName)) hown (mvT hZ (hw _ (List.mem_of_getElem? (i := 1) rfl))) (mvT hZ (hw _ (List.mem_of_getElem? (i := 2) rfl))) (mvT hZ (hw _ (List.mem_of_getElem? (i := 3) rfl))) (mvT hZ (hw _ (List.mem_of_getElem? (i := 4) rfl))) (by decide) (backOf (W := 0) (rm1 l Z a0 hw [] ((p1 &&& (2147483647 : Int32)) % (10 : Int32)) w_CLASS w_PROPERTY w_RESOURCE w_VALUE w_LITERAL w_RESOURCES w_PAIRS w_ROWS w_BOOLEAN w_NUMBER w_LITERAL h0 n0 S_CLASS S_PROPERTY S_RESOURCE S_VALUE S_LITERAL S_RESOURCES S_PAIRS S_ROWS S_BOOLEAN S_NUMBER (by unfold own_pick; rw [if_neg (hc2 : ¬ (((p1 &&& (2147483647 : Int32)) % (10 : Int32)) = (0 : Int32))), if_neg (hc12 : ¬ (((p1 &&& (2147483647 : Int32)) % (10 : Int32)) = (1 : Int32))), if_neg (hc22 : ¬ (((p1 &&& (2147483647 : Int32)) % (10 : Int32)) = (2 : Int32))), if_neg (hc32 : ¬ (((p1 &&& (2147483647 : Int32)) % (10 : Int32)) = (3 : Int32))), if_pos (hc42 : ((p1 &&& (2147483647 : Int32)) % (10 : Int32)) = (4 : Int32))])) hZ (hw _ (List.mem_of_getElem? (i := 4) rfl)) (hw _ (List.mem_of_getElem? (i := 3) rfl)) (by decide) (by decide)) (g := (mkF m 9 #[.val (.int p1), .val (.int ((p1 &&& (2147483647 : Int32)) % (10 : Int32))), .unset, .unset, .unset, .unset] [(.int ((p1 &&& (2147483647 : Int32)) % (10 : Int32)))])) rfl (by rw [hml]; rfl) (argsL := [(.int ((p1 &&& (2147483647 : Int32)) % (10 : Int32)))]) (rest := []) (lenOf (show parseMethodDescriptor "(I)Lcom/example/stratigraph/stratigraph/rql/Type;" = some ⟨[.int], some (.object "com/example/stratigraph/stratigraph/rql/Type")⟩ by decide +kernel) rfl) rfl (by show 2 * 0 + _ ≤ _; exact Nat.le_of_eq rfl) (hb hby at_9) (fun _ _ => ⟨rfl, e0, (by decide : 0 + 0 ≤ _), (by decide : 0 + 0 ≤ _)⟩)
            dsimp only [Pt.U, Pt.locs, Pt.cells, Pt.slots] at X43 l43 y43 z43 st43 hQ43
            subst l43 y43 z43
            obtain ⟨rfl, Nq43, e43⟩ := hQ43
            have N43 := Fr.app N0 Nq43
            obtain ⟨T44, X44, e44, st44⟩ := getS2 X43 hx hZ hown (host := "") (Or.inl (hw _ (List.mem_of_getElem? (i := 8) rfl))) Via.refl e43 S_RESOURCES (g := (mkF m 14 #[.val (.int p1), .val (.int ((p1 &&& (2147483647 : Int32)) % (10 : Int32))), .val (.ref w_LITERAL), .unset, .unset, .unset] [(.ref w_LITERAL)])) rfl (hb hby at_14)
            obtain ⟨T45, X45, e45, st45⟩ := getS2 X44 hx hZ hown (host := "") (Or.inl (hw _ (List.mem_of_getElem? (i := 10) rfl))) Via.refl e44 S_PAIRS (g := (mkF m 21 #[.val (.int p1), .val (.int ((p1 &&& (2147483647 : Int32)) % (10 : Int32))), .val (.ref w_LITERAL), .unset, .unset, .unset] [(.ref w_LITERAL)])) rfl (hb hby at_21)
            obtain ⟨T46, X46, e46, st46⟩ := getS2 X45 hx hZ hown (host := "") (Or.inl (hw _ (List.mem_of_getElem? (i := 12) rfl))) Via.refl e45 S_ROWS (g := (mkF m 28 #[.val (.int p1), .val (.int ((p1 &&& (2147483647 : Int32)) % (10 : Int32))), .val (.ref w_LITERAL), .unset, .unset, .unset] [(.ref w_LITERAL)])) rfl (hb hby at_28)
            obtain ⟨T47, X47, e47, st47⟩ := getS2 X46 hx hZ hown (host := "") (Or.inl (hw _ (List.mem_of_getElem? (i := 14) rfl))) Via.refl e46 S_BOOLEAN (g := (mkF m 41 #[.val (.int p1), .val (.int ((p1 &&& (2147483647 : Int32)) % (10 : Int32))), .val (.ref w_LITERAL), .val (.int (0 : Int32)), .unset, .unset] [(.ref w_LITERAL)])) rfl (hb hby at_41)
            obtain ⟨T48, X48, e48, st48⟩ := getS2 X47 hx hZ hown (host := "") (Or.inl (hw _ (List.mem_of_getElem? (i := 16) rfl))) Via.refl e47 S_NUMBER (g := (mkF m 48 #[.val (.int p1), .val (.int ((p1 &&& (2147483647 : Int32)) % (10 : Int32))), .val (.ref w_LITERAL), .val (.int (0 : Int32)), .unset, .unset] [(.ref w_LITERAL)])) rfl (hb hby at_48)
            obtain ⟨cq50, kq50, q50a, q50b, q50c⟩ := isOf hZ e48 E_LITERAL
            obtain ⟨_, _, ⟨T49, L49, k49, n49⟩, -, X49, ⟨Lc49, hQ49, l49, y49, z49⟩, st49⟩ := X48.virtualBack hx (y := (⟨"com/example/stratigraph/stratigraph/rql/Type", "isItem", "()Z"⟩ : MethodName)) (z := (⟨"com/example/stratigraph/stratigraph/rql/Type", "isItem", "()Z"⟩ : MethodName)) hown (mvT hZ (hw _ (List.mem_of_getElem? (i := 18) rfl))) (mvT hZ (hw _ (List.mem_of_getElem? (i := 19) rfl))) (notFace_of_selects (args := #[]) (mvT hZ (hw _ (List.mem_of_getElem? (i := 21) rfl)))) (mvT hZ (hw _ (List.mem_of_getElem? (i := 21) rfl))) (mvT hZ (hw _ (List.mem_of_getElem? (i := 20) rfl))) (by decide) (backOf (W := 0) (rm2 l Z a0 hw [] w_LITERAL w_CLASS w_PROPERTY w_RESOURCE w_VALUE w_LITERAL (1 : Int32) h0 n0 S_CLASS S_PROPERTY S_RESOURCE S_VALUE S_LITERAL (by unfold own_item; rw [if_neg ((Fld.ne O_LITERAL O_CLASS (fun q => absurd (Value.int.inj q) (by decide))) : ¬ (w_LITERAL = w_CLASS)), if_neg ((Fld.ne O_LITERAL O_PROPERTY (fun q => absurd (Value.int.inj q) (by decide))) : ¬ (w_LITERAL = w_PROPERTY)), if_neg ((Fld.ne O_LITERAL O_RESOURCE (fun q => absurd (Value.int.inj q) (by decide))) : ¬ (w_LITERAL = w_RESOURCE)), if_neg ((Fld.ne O_LITERAL O_VALUE (fun q => absurd (Value.int.inj q) (by decide))) : ¬ (w_LITERAL = w_VALUE)), if_pos (rfl : w_LITERAL = w_LITERAL)])) hZ (hw _ (List.mem_of_getElem? (i := 22) rfl)) (hw _ (List.mem_of_getElem? (i := 6) rfl)) (by decide) (by decide)) q50a q50c (g := (mkF m 78 #[.val (.int p1), .val (.int ((p1 &&& (2147483647 : Int32)) % (10 : Int32))), .val (.ref w_LITERAL), .val (.int (0 : Int32)), .val (.int (0 : Int32)), .val (.int (1 : Int32))] [(.ref w_LITERAL)])) rfl (by rw [hml]; rfl) (Steps.refl _) (argsL := []) (rest := []) (lenOf (show parseMethodDescriptor "()Z" = some ⟨[], some .boolean⟩ by decide +kernel) rfl) rfl (by show 2 * 0 + _ ≤ _; exact Nat.le_of_eq rfl) (hb hby at_78) (fun _ _ => ⟨rfl, e48, (by decide : 0 + 0 ≤ _), (by decide : 0 + 0 ≤ _)⟩)
            dsimp only [Pt.U, Pt.locs, Pt.cells, Pt.slots] at X49 l49 y49 z49 st49 hQ49
            subst l49 y49 z49
            obtain ⟨rfl, Nq49, e49⟩ := hQ49
            have N49 := Fr.app N43 Nq49
            obtain ⟨fs, hr51, hrun, hended, hW, hsame⟩ := X49.leave (v := some (.int (1 : Int32))) (fun h => by rw [Bd.returns] at h; cases h)
            refine ⟨_, _, pre1 _ ?_, hrun, hended, _, _, rfl, ?_, ⟨_, rfl⟩, hW, hsame.mono (by decide) (by decide)⟩
            · show Steps p.tables e below (s₁.setTop (mkF m 8 #[.val (.int p1), .val (.int ((p1 &&& (2147483647 : Int32)) % (10 : Int32))), .unset, .unset, .unset, .unset] [])) _
              refine XS.iloadN X0.here hx rfl (hb hby at_8) rfl ?_
              show Steps p.tables e below (s₁.setTop (mkF m 9 #[.val (.int p1), .val (.int ((p1 &&& (2147483647 : Int32)) % (10 : Int32))), .unset, .unset, .unset, .unset] [(.int ((p1 &&& (2147483647 : Int32)) % (10 : Int32)))])) _
              refine st43 _ ?_
              show Steps p.tables e below (T43.setTop (mkF m 12 #[.val (.int p1), .val (.int ((p1 &&& (2147483647 : Int32)) % (10 : Int32))), .unset, .unset, .unset, .unset] [(.ref w_LITERAL)])) _
              refine XS.astoreN X43.here hx rfl (hb hby at_12) rfl rfl (l' := #[.val (.int p1), .val (.int ((p1 &&& (2147483647 : Int32)) % (10 : Int32))), .val (.ref w_LITERAL), .unset, .unset, .unset]) rfl ?_
              show Steps p.tables e below (T43.setTop (mkF m 13 #[.val (.int p1), .val (.int ((p1 &&& (2147483647 : Int32)) % (10 : Int32))), .val (.ref w_LITERAL), .unset, .unset, .unset] [])) _
              refine XS.aloadN X43.here hx rfl (hb hby at_13) rfl rfl ?_
              show Steps p.tables e below (T43.setTop (mkF m 14 #[.val (.int p1), .val (.int ((p1 &&& (2147483647 : Int32)) % (10 : Int32))), .val (.ref w_LITERAL), .unset, .unset, .unset] [(.ref w_LITERAL)])) _
              refine st44 _ ?_
              show Steps p.tables e below (T44.setTop (mkF m 17 #[.val (.int p1), .val (.int ((p1 &&& (2147483647 : Int32)) % (10 : Int32))), .val (.ref w_LITERAL), .unset, .unset, .unset] [(.ref w_RESOURCES), (.ref w_LITERAL)])) _
              refine Jvm.RoadKit.acmp (g := (mkF m 17 #[.val (.int p1), .val (.int ((p1 &&& (2147483647 : Int32)) % (10 : Int32))), .val (.ref w_LITERAL), .unset, .unset, .unset] [(.ref w_RESOURCES), (.ref w_LITERAL)])) X44 hx rfl rfl rfl (pc0 := 17) (pc' := 20) (same := false) rfl (hb hby at_17) rfl (decide_eq_false fun q => ((Fld.ne O_LITERAL O_RESOURCES (fun q => absurd (Value.int.inj q) (by decide))) : ¬ (w_LITERAL = w_RESOURCES)) (Value.ref.inj q)) (by decide) (by decide) ?_
              show Steps p.tables e below (T44.setTop (mkF m 20 #[.val (.int p1), .val (.int ((p1 &&& (2147483647 : Int32)) % (10 : Int32))), .val (.ref w_LITERAL), .unset, .unset, .unset] [])) _
              refine XS.aloadN X44.here hx rfl (hb hby at_20) rfl rfl ?_
              show Steps p.tables e below (T44.setTop (mkF m 21 #[.val (.int p1), .val (.int ((p1 &&& (2147483647 : Int32)) % (10 : Int32))), .val (.ref w_LITERAL), .unset, .unset, .unset] [(.ref w_LITERAL)])) _
              refine st45 _ ?_
              show Steps p.tables e below (T45.setTop (mkF m 24 #[.val (.int p1), .val (.int ((p1 &&& (2147483647 : Int32)) % (10 : Int32))), .val (.ref w_LITERAL), .unset, .unset, .unset] [(.ref w_PAIRS), (.ref w_LITERAL)])) _
              refine Jvm.RoadKit.acmp (g := (mkF m 24 #[.val (.int p1), .val (.int ((p1 &&& (2147483647 : Int32)) % (10 : Int32))), .val (.ref w_LITERAL), .unset, .unset, .unset] [(.ref w_PAIRS), (.ref w_LITERAL)])) X45 hx rfl rfl rfl (pc0 := 24) (pc' := 27) (same := false) rfl (hb hby at_24) rfl (decide_eq_false fun q => ((Fld.ne O_LITERAL O_PAIRS (fun q => absurd (Value.int.inj q) (by decide))) : ¬ (w_LITERAL = w_PAIRS)) (Value.ref.inj q)) (by decide) (by decide) ?_
              show Steps p.tables e below (T45.setTop (mkF m 27 #[.val (.int p1), .val (.int ((p1 &&& (2147483647 : Int32)) % (10 : Int32))), .val (.ref w_LITERAL), .unset, .unset, .unset] [])) _
              refine XS.aloadN X45.here hx rfl (hb hby at_27) rfl rfl ?_
              show Steps p.tables e below (T45.setTop (mkF m 28 #[.val (.int p1), .val (.int ((p1 &&& (2147483647 : Int32)) % (10 : Int32))), .val (.ref w_LITERAL), .unset, .unset, .unset] [(.ref w_LITERAL)])) _
              refine st46 _ ?_
              show Steps p.tables e below (T46.setTop (mkF m 31 #[.val (.int p1), .val (.int ((p1 &&& (2147483647 : Int32)) % (10 : Int32))), .val (.ref w_LITERAL), .unset, .unset, .unset] [(.ref w_ROWS), (.ref w_LITERAL)])) _
              refine Jvm.RoadKit.acmp (g := (mkF m 31 #[.val (.int p1), .val (.int ((p1 &&& (2147483647 : Int32)) % (10 : Int32))), .val (.ref w_LITERAL), .unset, .unset, .unset] [(.ref w_ROWS), (.ref w_LITERAL)])) X46 hx rfl rfl rfl (pc0 := 31) (pc' := 38) (same := false) rfl (hb hby at_31) rfl (decide_eq_false fun q => ((Fld.ne O_LITERAL O_ROWS (fun q => absurd (Value.int.inj q) (by decide))) : ¬ (w_LITERAL = w_ROWS)) (Value.ref.inj q)) (by decide) (by decide) ?_
              show Steps p.tables e below (T46.setTop (mkF m 38 #[.val (.int p1), .val (.int ((p1 &&& (2147483647 : Int32)) % (10 : Int32))), .val (.ref w_LITERAL), .unset, .unset, .unset] [])) _
              refine XT.iconstV X46.here hx rfl (0 : Int32) (hb hby at_38) (by decide) ?_
              show Steps p.tables e below (T46.setTop (mkF m 39 #[.val (.int p1), .val (.int ((p1 &&& (2147483647 : Int32)) % (10 : Int32))), .val (.ref w_LITERAL), .unset, .unset, .unset] [(.int (0 : Int32))])) _
              refine XS.istoreN X46.here hx rfl (hb hby at_39) rfl (l' := #[.val (.int p1), .val (.int ((p1 &&& (2147483647 : Int32)) % (10 : Int32))), .val (.ref w_LITERAL), .val (.int (0 : Int32)), .unset, .unset]) rfl ?_
              show Steps p.tables e below (T46.setTop (mkF m 40 #[.val (.int p1), .val (.int ((p1 &&& (2147483647 : Int32)) % (10 : Int32))), .val (.ref w_LITERAL), .val (.int (0 : Int32)), .unset, .unset] [])) _
              refine XS.aloadN X46.here hx rfl (hb hby at_40) rfl rfl ?_
              show Steps p.tables e below (T46.setTop (mkF m 41 #[.val (.int p1), .val (.int ((p1 &&& (2147483647 : Int32)) % (10 : Int32))), .val (.ref w_LITERAL), .val (.int (0 : Int32)), .unset, .unset] [(.ref w_LITERAL)])) _
              refine st47 _ ?_
              show Steps p.tables e below (T47.setTop (mkF m 44 #[.val (.int p1), .val (.int ((p1 &&& (2147483647 : Int32)) % (10 : Int32))), .val (.ref w_LITERAL), .val (.int (0 : Int32)), .unset, .unset] [(.ref w_BOOLEAN), (.ref w_LITERAL)])) _
              refine Jvm.RoadKit.acmp (g := (mkF m 44 #[.val (.int p1), .val (.int ((p1 &&& (2147483647 : Int32)) % (10 : Int32))), .val (.ref w_LITERAL), .val (.int (0 : Int32)), .unset, .unset] [(.ref w_BOOLEAN), (.ref w_LITERAL)])) X47 hx rfl rfl rfl (pc0 := 44) (pc' := 47) (same := false) rfl (hb hby at_44) rfl (decide_eq_false fun q => ((Fld.ne O_LITERAL O_BOOLEAN (fun q => absurd (Value.int.inj q) (by decide))) : ¬ (w_LITERAL = w_BOOLEAN)) (Value.ref.inj q)) (by decide) (by decide) ?_
              show Steps p.tables e below (T47.setTop (mkF m 47 #[.val (.int p1), .val (.int ((p1 &&& (2147483647 : Int32)) % (10 : Int32))), .val (.ref w_LITERAL), .val (.int (0 : Int32)), .unset, .unset] [])) _
              refine XS.aloadN X47.here hx rfl (hb hby at_47) rfl rfl ?_
              show Steps p.tables e below (T47.setTop (mkF m 48 #[.val (.int p1), .val (.int ((p1 &&& (2147483647 : Int32)) % (10 : Int32))), .val (.ref w_LITERAL), .val (.int (0 : Int32)), .unset, .unset] [(.ref w_LITERAL)])) _
              refine st48 _ ?_
              show Steps p.tables e below (T48.setTop (mkF m 51 #[.val (.int p1), .val (.int ((p1 &&& (2147483647 : Int32)) % (10 : Int32))), .val (.ref w_LITERAL), .val (.int (0 : Int32)), .unset, .unset] [(.ref w_NUMBER), (.ref w_LITERAL)])) _
              refine Jvm.RoadKit.acmp (g := (mkF m 51 #[.val (.int p1), .val (.int ((p1 &&& (2147483647 : Int32)) % (10 : Int32))), .val (.ref w_LITERAL), .val (.int (0 : Int32)), .unset, .unset] [(.ref w_NUMBER), (.ref w_LITERAL)])) X48 hx rfl rfl rfl (pc0 := 51) (pc' := 58) (same := false) rfl (hb hby at_51) rfl (decide_eq_false fun q => ((Fld.ne O_LITERAL O_NUMBER (fun q => absurd (Value.int.inj q) (by decide))) : ¬ (w_LITERAL = w_NUMBER)) (Value.ref.inj q)) (by decide) (by decide) ?_
              show Steps p.tables e below (T48.setTop (mkF m 58 #[.val (.int p1), .val (.int ((p1 &&& (2147483647 : Int32)) % (10 : Int32))), .val (.ref w_LITERAL), .val (.int (0 : Int32)), .unset, .unset] [])) _
              refine XT.iconstV X48.here hx rfl (0 : Int32) (hb hby at_58) (by decide) ?_
              show Steps p.tables e below (T48.setTop (mkF m 59 #[.val (.int p1), .val (.int ((p1 &&& (2147483647 : Int32)) % (10 : Int32))), .val (.ref w_LITERAL), .val (.int (0 : Int32)), .unset, .unset] [(.int (0 : Int32))])) _
              refine XS.istore X48.here hx rfl (hb hby at_59) rfl (l' := #[.val (.int p1), .val (.int ((p1 &&& (2147483647 : Int32)) % (10 : Int32))), .val (.ref w_LITERAL), .val (.int (0 : Int32)), .val (.int (0 : Int32)), .unset]) rfl ?_
              show Steps p.tables e below (T48.setTop (mkF m 61 #[.val (.int p1), .val (.int ((p1 &&& (2147483647 : Int32)) % (10 : Int32))), .val (.ref w_LITERAL), .val (.int (0 : Int32)), .val (.int (0 : Int32)), .unset] [])) _
              refine XS.iloadN X48.here hx rfl (hb hby at_61) rfl ?_
              show Steps p.tables e below (T48.setTop (mkF m 62 #[.val (.int p1), .val (.int ((p1 &&& (2147483647 : Int32)) % (10 : Int32))), .val (.ref w_LITERAL), .val (.int (0 : Int32)), .val (.int (0 : Int32)), .unset] [(.int (0 : Int32))])) _
              refine XS.ifNo X48.here hx rfl (hb hby at_62) rfl ((if0 _ _).trans (teq (rfl : (0 : Int32) = (0 : Int32))).2) ?_
              show Steps p.tables e below (T48.setTop (mkF m 65 #[.val (.int p1), .val (.int ((p1 &&& (2147483647 : Int32)) % (10 : Int32))), .val (.ref w_LITERAL), .val (.int (0 : Int32)), .val (.int (0 : Int32)), .unset] [])) _
              refine XS.iload X48.here hx rfl (hb hby at_65) rfl ?_
              show Steps p.tables e below (T48.setTop (mkF m 67 #[.val (.int p1), .val (.int ((p1 &&& (2147483647 : Int32)) % (10 : Int32))), .val (.ref w_LITERAL), .val (.int (0 : Int32)), .val (.int (0 : Int32)), .unset] [(.int (0 : Int32))])) _
              refine XS.ifNo X48.here hx rfl (hb hby at_67) rfl ((if0 _ _).trans (teq (rfl : (0 : Int32) = (0 : Int32))).2) ?_
              show Steps p.tables e below (T48.setTop (mkF m 70 #[.val (.int p1), .val (.int ((p1 &&& (2147483647 : Int32)) % (10 : Int32))), .val (.ref w_LITERAL), .val (.int (0 : Int32)), .val (.int (0 : Int32)), .unset] [])) _
              refine XT.iconstV X48.here hx rfl (1 : Int32) (hb hby at_70) (by decide) ?_
              show Steps p.tables e below (T48.setTop (mkF m 71 #[.val (.int p1), .val (.int ((p1 &&& (2147483647 : Int32)) % (10 : Int32))), .val (.ref w_LITERAL), .val (.int (0 : Int32)), .val (.int (0 : Int32)), .unset] [(.int (1 : Int32))])) _
              refine XS.goto X48.here hx rfl (pc0 := 71) (pc' := 75) rfl (hb hby at_71) (by decide) (by decide) ?_
              show Steps p.tables e below (T48.setTop (mkF m 75 #[.val (.int p1), .val (.int ((p1 &&& (2147483647 : Int32)) % (10 : Int32))), .val (.ref w_LITERAL), .val (.int (0 : Int32)), .val (.int (0 : Int32)), .unset] [(.int (1 : Int32))])) _
              refine XS.istore X48.here hx rfl (hb hby at_75) rfl (l' := #[.val (.int p1), .val (.int ((p1 &&& (2147483647 : Int32)) % (10 : Int32))), .val (.ref w_LITERAL), .val (.int (0 : Int32)), .val (.int (0 : Int32)), .val (.int (1 : Int32))]) rfl ?_
              show Steps p.tables e below (T48.setTop (mkF m 77 #[.val (.int p1), .val (.int ((p1 &&& (2147483647 : Int32)) % (10 : Int32))), .val (.ref w_LITERAL), .val (.int (0 : Int32)), .val (.int (0 : Int32)), .val (.int (1 : Int32))] [])) _
              refine XS.aloadN X48.here hx rfl (hb hby at_77) rfl rfl ?_
              show Steps p.tables e below (T48.setTop (mkF m 78 #[.val (.int p1), .val (.int ((p1 &&& (2147483647 : Int32)) % (10 : Int32))), .val (.ref w_LITERAL), .val (.int (0 : Int32)), .val (.int (0 : Int32)), .val (.int (1 : Int32))] [(.ref w_LITERAL)])) _
              refine st49.trans ?_
              show Steps p.tables e below (T49.setTop (mkF m 81 #[.val (.int p1), .val (.int ((p1 &&& (2147483647 : Int32)) % (10 : Int32))), .val (.ref w_LITERAL), .val (.int (0 : Int32)), .val (.int (0 : Int32)), .val (.int (1 : Int32))] [(.int (1 : Int32))])) _
              refine XS.iload X49.here hx rfl (hb hby at_81) rfl ?_
              show Steps p.tables e below (T49.setTop (mkF m 83 #[.val (.int p1), .val (.int ((p1 &&& (2147483647 : Int32)) % (10 : Int32))), .val (.ref w_LITERAL), .val (.int (0 : Int32)), .val (.int (0 : Int32)), .val (.int (1 : Int32))] [(.int (1 : Int32)), (.int (1 : Int32))])) _
              refine XS.icmpNo X49.here hx rfl (hb hby at_83) rfl (teq (rfl : (1 : Int32) = (1 : Int32))).2 ?_
              show Steps p.tables e below (T49.setTop (mkF m 86 #[.val (.int p1), .val (.int ((p1 &&& (2147483647 : Int32)) % (10 : Int32))), .val (.ref w_LITERAL), .val (.int (0 : Int32)), .val (.int (0 : Int32)), .val (.int (1 : Int32))] [])) _
              refine XT.iconstV X49.here hx rfl (1 : Int32) (hb hby at_86) (by decide) ?_
              show Steps p.tables e below (T49.setTop (mkF m 87 #[.val (.int p1), .val (.int ((p1 &&& (2147483647 : Int32)) % (10 : Int32))), .val (.ref w_LITERAL), .val (.int (0 : Int32)), .val (.int (0 : Int32)), .val (.int (1 : Int32))] [(.int (1 : Int32))])) _
              refine XS.goto X49.here hx rfl (pc0 := 87) (pc' := 91) rfl (hb hby at_87) (by decide) (by decide) ?_
              show Steps p.tables e below (T49.setTop (mkF m 91 #[.val (.int p1), .val (.int ((p1 &&& (2147483647 : Int32)) % (10 : Int32))), .val (.ref w_LITERAL), .val (.int (0 : Int32)), .val (.int (0 : Int32)), .val (.int (1 : Int32))] [(.int (1 : Int32))])) _
              exact retN X49 hx (t := .boolean) Bd.returns (by simp) (hb hby at_91) hr51
            · show Q0 Z _ _ _ _ _ _ _ _ _ _ _ h0 n0 _ T49.heap _
              rw [e49]
              exact ⟨rfl, N49⟩
          ·
            by_cases hc52 : ((p1 &&& (2147483647 : Int32)) % (10 : Int32)) = (5 : Int32)
            ·
              obtain ⟨_, _, ⟨T53, L53, k53, n53⟩, -, X53, ⟨Lc53, hQ53, l53, y53, z53⟩, st53⟩ := Jvm.LawKit.callS X0 hx (y := (⟨"com/example/stratigraph/stratigraph/rql/TypeIsItemPinLaw", "pick", "(I)Lcom/example/stratigraph/stratigraph/rql/Type;"⟩ : MethodName)) hown (mvT hZ (hw _ (List.mem_of_getElem? (i := 1) rfl))) (mvT hZ (hw _ (List.mem_of_getElem? (i := 2) rfl))) (mvT hZ (hw _ (List.mem_of_getElem? (i := 3) rfl))) (mvT hZ (hw _ (List.mem_of_getElem? (i := 4) rfl))) (by decide) (backOf (W := 0) (rm1 l Z a0 hw [] ((p1 &&& (2147483647 : Int32)) % (10 : Int32)) w_CLASS w_PROPERTY w_RESOURCE w_VALUE w_LITERAL w_RESOURCES w_PAIRS w_ROWS w_BOOLEAN w_NUMBER w_RESOURCES h0 n0 S_CLASS S_PROPERTY S_RESOURCE S_VALUE S_LITERAL S_RESOURCES S_PAIRS S_ROWS S_BOOLEAN S_NUMBER (by unfold own_pick; rw [if_neg (hc2 : ¬ (((p1 &&& (2147483647 : Int32)) % (10 : Int32)) = (0 : Int32))), if_neg (hc12 : ¬ (((p1 &&& (2147483647 : Int32)) % (10 : Int32)) = (1 : Int32))), if_neg (hc22 : ¬ (((p1 &&& (2147483647 : Int32)) % (10 : Int32)) = (2 : Int32))), if_neg (hc32 : ¬ (((p1 &&& (2147483647 : Int32)) % (10 : Int32)) = (3 : Int32))), if_neg (hc42 : ¬ (((p1 &&& (2147483647 : Int32)) % (10 : Int32)) = (4 : Int32))), if_pos (hc52 : ((p1 &&& (2147483647 : Int32)) % (10 : Int32)) = (5 : Int32))])) hZ (hw _ (List.mem_of_getElem? (i := 4) rfl)) (hw _ (List.mem_of_getElem? (i := 3) rfl)) (by decide) (by decide)) (g := (mkF m 9 #[.val (.int p1), .val (.int ((p1 &&& (2147483647 : Int32)) % (10 : Int32))), .unset, .unset, .unset, .unset] [(.int ((p1 &&& (2147483647 : Int32)) % (10 : Int32)))])) rfl (by rw [hml]; rfl) (argsL := [(.int ((p1 &&& (2147483647 : Int32)) % (10 : Int32)))]) (rest := []) (lenOf (show parseMethodDescriptor "(I)Lcom/example/stratigraph/stratigraph/rql/Type;" = some ⟨[.int], some (.object "com/example/stratigraph/stratigraph/rql/Type")⟩ by decide +kernel) rfl) rfl (by show 2 * 0 + _ ≤ _; exact Nat.le_of_eq rfl) (hb hby at_9) (fun _ _ => ⟨rfl, e0, (by decide : 0 + 0 ≤ _), (by decide : 0 + 0 ≤ _)⟩)
              dsimp only [Pt.U, Pt.locs, Pt.cells, Pt.slots] at X53 l53 y53 z53 st53 hQ53
              subst l53 y53 z53
              obtain ⟨rfl, Nq53, e53⟩ := hQ53
              have N53 := Fr.app N0 Nq53
              obtain ⟨T54, X54, e54, st54⟩ := getS2 X53 hx hZ hown (host := "") (Or.inl (hw _ (List.mem_of_getElem? (i := 8) rfl))) Via.refl e53 S_RESOURCES (g := (mkF m 14 #[.val (.int p1), .val (.int ((p1 &&& (2147483647 : Int32)) % (10 : Int32))), .val (.ref w_RESOURCES), .unset, .unset, .unset] [(.ref w_RESOURCES)])) rfl (hb hby at_14)
              obtain ⟨T55, X55, e55, st55⟩ := getS2 X54 hx hZ hown (host := "") (Or.inl (hw _ (List.mem_of_getElem? (i := 14) rfl))) Via.refl e54 S_BOOLEAN (g := (mkF m 41 #[.val (.int p1), .val (.int ((p1 &&& (2147483647 : Int32)) % (10 : Int32))), .val (.ref w_RESOURCES), .val (.int (1 : Int32)), .unset, .unset] [(.ref w_RESOURCES)])) rfl (hb hby at_41)
              obtain ⟨T56, X56, e56, st56⟩ := getS2 X55 hx hZ hown (host := "") (Or.inl (hw _ (List.mem_of_getElem? (i := 16) rfl))) Via.refl e55 S_NUMBER (g := (mkF m 48 #[.val (.int p1), .val (.int ((p1 &&& (2147483647 : Int32)) % (10 : Int32))), .val (.ref w_RESOURCES), .val (.int (1 : Int32)), .unset, .unset] [(.ref w_RESOURCES)])) rfl (hb hby at_48)
              obtain ⟨cq58, kq58, q58a, q58b, q58c⟩ := isOf hZ e56 E_RESOURCES
              obtain ⟨_, _, ⟨T57, L57, k57, n57⟩, -, X57, ⟨Lc57, hQ57, l57, y57, z57⟩, st57⟩ := X56.virtualBack hx (y := (⟨"com/example/stratigraph/stratigraph/rql/Type", "isItem", "()Z"⟩ : MethodName)) (z := (⟨"com/example/stratigraph/stratigraph/rql/Type", "isItem", "()Z"⟩ : MethodName)) hown (mvT hZ (hw _ (List.mem_of_getElem? (i := 18) rfl))) (mvT hZ (hw _ (List.mem_of_getElem? (i := 19) rfl))) (notFace_of_selects (args := #[]) (mvT hZ (hw _ (List.mem_of_getElem? (i := 21) rfl)))) (mvT hZ (hw _ (List.mem_of_getElem? (i := 21) rfl))) (mvT hZ (hw _ (List.mem_of_getElem? (i := 20) rfl))) (by decide) (backOf (W := 0) (rm2 l Z a0 hw [] w_RESOURCES w_CLASS w_PROPERTY w_RESOURCE w_VALUE w_LITERAL (0 : Int32) h0 n0 S_CLASS S_PROPERTY S_RESOURCE S_VALUE S_LITERAL (by unfold own_item; rw [if_neg ((Fld.ne O_RESOURCES O_CLASS (fun q => absurd (Value.int.inj q) (by decide))) : ¬ (w_RESOURCES = w_CLASS)), if_neg ((Fld.ne O_RESOURCES O_PROPERTY (fun q => absurd (Value.int.inj q) (by decide))) : ¬ (w_RESOURCES = w_PROPERTY)), if_neg ((Fld.ne O_RESOURCES O_RESOURCE (fun q => absurd (Value.int.inj q) (by decide))) : ¬ (w_RESOURCES = w_RESOURCE)), if_neg ((Fld.ne O_RESOURCES O_VALUE (fun q => absurd (Value.int.inj q) (by decide))) : ¬ (w_RESOURCES = w_VALUE)), if_neg ((Fld.ne O_RESOURCES O_LITERAL (fun q => absurd (Value.int.inj q) (by decide))) : ¬ (w_RESOURCES = w_LITERAL))])) hZ (hw _ (List.mem_of_getElem? (i := 22) rfl)) (hw _ (List.mem_of_getElem? (i := 6) rfl)) (by decide) (by decide)) q58a q58c (g := (mkF m 78 #[.val (.int p1), .val (.int ((p1 &&& (2147483647 : Int32)) % (10 : Int32))), .val (.ref w_RESOURCES), .val (.int (1 : Int32)), .val (.int (0 : Int32)), .val (.int (0 : Int32))] [(.ref w_RESOURCES)])) rfl (by rw [hml]; rfl) (Steps.refl _) (argsL := []) (rest := []) (lenOf (show parseMethodDescriptor "()Z" = some ⟨[], some .boolean⟩ by decide +kernel) rfl) rfl (by show 2 * 0 + _ ≤ _; exact Nat.le_of_eq rfl) (hb hby at_78) (fun _ _ => ⟨rfl, e56, (by decide : 0 + 0 ≤ _), (by decide : 0 + 0 ≤ _)⟩)
              dsimp only [Pt.U, Pt.locs, Pt.cells, Pt.slots] at X57 l57 y57 z57 st57 hQ57
              subst l57 y57 z57
              obtain ⟨rfl, Nq57, e57⟩ := hQ57
              have N57 := Fr.app N53 Nq57
              obtain ⟨fs, hr59, hrun, hended, hW, hsame⟩ := X57.leave (v := some (.int (1 : Int32))) (fun h => by rw [Bd.returns] at h; cases h)
              refine ⟨_, _, pre1 _ ?_, hrun, hended, _, _, rfl, ?_, ⟨_, rfl⟩, hW, hsame.mono (by decide) (by decide)⟩
              · show Steps p.tables e below (s₁.setTop (mkF m 8 #[.val (.int p1), .val (.int ((p1 &&& (2147483647 : Int32)) % (10 : Int32))), .unset, .unset, .unset, .unset] [])) _
                refine XS.iloadN X0.here hx rfl (hb hby at_8) rfl ?_
                show Steps p.tables e below (s₁.setTop (mkF m 9 #[.val (.int p1), .val (.int ((p1 &&& (2147483647 : Int32)) % (10 : Int32))), .unset, .unset, .unset, .unset] [(.int ((p1 &&& (2147483647 : Int32)) % (10 : Int32)))])) _
                refine st53 _ ?_
                show Steps p.tables e below (T53.setTop (mkF m 12 #[.val (.int p1), .val (.int ((p1 &&& (2147483647 : Int32)) % (10 : Int32))), .unset, .unset, .unset, .unset] [(.ref w_RESOURCES)])) _
                refine XS.astoreN X53.here hx rfl (hb hby at_12) rfl rfl (l' := #[.val (.int p1), .val (.int ((p1 &&& (2147483647 : Int32)) % (10 : Int32))), .val (.ref w_RESOURCES), .unset, .unset, .unset]) rfl ?_
                show Steps p.tables e below (T53.setTop (mkF m 13 #[.val (.int p1), .val (.int ((p1 &&& (2147483647 : Int32)) % (10 : Int32))), .val (.ref w_RESOURCES), .unset, .unset, .unset] [])) _
                refine XS.aloadN X53.here hx rfl (hb hby at_13) rfl rfl ?_
                show Steps p.tables e below (T53.setTop (mkF m 14 #[.val (.int p1), .val (.int ((p1 &&& (2147483647 : Int32)) % (10 : Int32))), .val (.ref w_RESOURCES), .unset, .unset, .unset] [(.ref w_RESOURCES)])) _
                refine st54 _ ?_
                show Steps p.tables e below (T54.setTop (mkF m 17 #[.val (.int p1), .val (.int ((p1 &&& (2147483647 : Int32)) % (10 : Int32))), .val (.ref w_RESOURCES), .unset, .unset, .unset] [(.ref w_RESOURCES), (.ref w_RESOURCES)])) _
                refine Jvm.RoadKit.acmp (g := (mkF m 17 #[.val (.int p1), .val (.int ((p1 &&& (2147483647 : Int32)) % (10 : Int32))), .val (.ref w_RESOURCES), .unset, .unset, .unset] [(.ref w_RESOURCES), (.ref w_RESOURCES)])) X54 hx rfl rfl rfl (pc0 := 17) (pc' := 34) (same := true) rfl (hb hby at_17) rfl (decide_eq_true (congrArg Value.ref (rfl : w_RESOURCES = w_RESOURCES))) (by decide) (by decide) ?_
                show Steps p.tables e below (T54.setTop (mkF m 34 #[.val (.int p1), .val (.int ((p1 &&& (2147483647 : Int32)) % (10 : Int32))), .val (.ref w_RESOURCES), .unset, .unset, .unset] [])) _
                refine XT.iconstV X54.here hx rfl (1 : Int32) (hb hby at_34) (by decide) ?_
                show Steps p.tables e below (T54.setTop (mkF m 35 #[.val (.int p1), .val (.int ((p1 &&& (2147483647 : Int32)) % (10 : Int32))), .val (.ref w_RESOURCES), .unset, .unset, .unset] [(.int (1 : Int32))])) _
                refine XS.goto X54.here hx rfl (pc0 := 35) (pc' := 39) rfl (hb hby at_35) (by decide) (by decide) ?_
                show Steps p.tables e below (T54.setTop (mkF m 39 #[.val (.int p1), .val (.int ((p1 &&& (2147483647 : Int32)) % (10 : Int32))), .val (.ref w_RESOURCES), .unset, .unset, .unset] [(.int (1 : Int32))])) _
                refine XS.istoreN X54.here hx rfl (hb hby at_39) rfl (l' := #[.val (.int p1), .val (.int ((p1 &&& (2147483647 : Int32)) % (10 : Int32))), .val (.ref w_RESOURCES), .val (.int (1 : Int32)), .unset, .unset]) rfl ?_
                show Steps p.tables e below (T54.setTop (mkF m 40 #[.val (.int p1), .val (.int ((p1 &&& (2147483647 : Int32)) % (10 : Int32))), .val (.ref w_RESOURCES), .val (.int (1 : Int32)), .unset, .unset] [])) _
                refine XS.aloadN X54.here hx rfl (hb hby at_40) rfl rfl ?_
                show Steps p.tables e below (T54.setTop (mkF m 41 #[.val (.int p1), .val (.int ((p1 &&& (2147483647 : Int32)) % (10 : Int32))), .val (.ref w_RESOURCES), .val (.int (1 : Int32)), .unset, .unset] [(.ref w_RESOURCES)])) _
                refine st55 _ ?_
                show Steps p.tables e below (T55.setTop (mkF m 44 #[.val (.int p1), .val (.int ((p1 &&& (2147483647 : Int32)) % (10 : Int32))), .val (.ref w_RESOURCES), .val (.int (1 : Int32)), .unset, .unset] [(.ref w_BOOLEAN), (.ref w_RESOURCES)])) _
                refine Jvm.RoadKit.acmp (g := (mkF m 44 #[.val (.int p1), .val (.int ((p1 &&& (2147483647 : Int32)) % (10 : Int32))), .val (.ref w_RESOURCES), .val (.int (1 : Int32)), .unset, .unset] [(.ref w_BOOLEAN), (.ref w_RESOURCES)])) X55 hx rfl rfl rfl (pc0 := 44) (pc' := 47) (same := false) rfl (hb hby at_44) rfl (decide_eq_false fun q => ((Fld.ne O_RESOURCES O_BOOLEAN (fun q => absurd (Value.int.inj q) (by decide))) : ¬ (w_RESOURCES = w_BOOLEAN)) (Value.ref.inj q)) (by decide) (by decide) ?_
                show Steps p.tables e below (T55.setTop (mkF m 47 #[.val (.int p1), .val (.int ((p1 &&& (2147483647 : Int32)) % (10 : Int32))), .val (.ref w_RESOURCES), .val (.int (1 : Int32)), .unset, .unset] [])) _
                refine XS.aloadN X55.here hx rfl (hb hby at_47) rfl rfl ?_
                show Steps p.tables e below (T55.setTop (mkF m 48 #[.val (.int p1), .val (.int ((p1 &&& (2147483647 : Int32)) % (10 : Int32))), .val (.ref w_RESOURCES), .val (.int (1 : Int32)), .unset, .unset] [(.ref w_RESOURCES)])) _
                refine st56 _ ?_
                show Steps p.tables e below (T56.setTop (mkF m 51 #[.val (.int p1), .val (.int ((p1 &&& (2147483647 : Int32)) % (10 : Int32))), .val (.ref w_RESOURCES), .val (.int (1 : Int32)), .unset, .unset] [(.ref w_NUMBER), (.ref w_RESOURCES)])) _
                refine Jvm.RoadKit.acmp (g := (mkF m 51 #[.val (.int p1), .val (.int ((p1 &&& (2147483647 : Int32)) % (10 : Int32))), .val (.ref w_RESOURCES), .val (.int (1 : Int32)), .unset, .unset] [(.ref w_NUMBER), (.ref w_RESOURCES)])) X56 hx rfl rfl rfl (pc0 := 51) (pc' := 58) (same := false) rfl (hb hby at_51) rfl (decide_eq_false fun q => ((Fld.ne O_RESOURCES O_NUMBER (fun q => absurd (Value.int.inj q) (by decide))) : ¬ (w_RESOURCES = w_NUMBER)) (Value.ref.inj q)) (by decide) (by decide) ?_
                show Steps p.tables e below (T56.setTop (mkF m 58 #[.val (.int p1), .val (.int ((p1 &&& (2147483647 : Int32)) % (10 : Int32))), .val (.ref w_RESOURCES), .val (.int (1 : Int32)), .unset, .unset] [])) _
                refine XT.iconstV X56.here hx rfl (0 : Int32) (hb hby at_58) (by decide) ?_
                show Steps p.tables e below (T56.setTop (mkF m 59 #[.val (.int p1), .val (.int ((p1 &&& (2147483647 : Int32)) % (10 : Int32))), .val (.ref w_RESOURCES), .val (.int (1 : Int32)), .unset, .unset] [(.int (0 : Int32))])) _
                refine XS.istore X56.here hx rfl (hb hby at_59) rfl (l' := #[.val (.int p1), .val (.int ((p1 &&& (2147483647 : Int32)) % (10 : Int32))), .val (.ref w_RESOURCES), .val (.int (1 : Int32)), .val (.int (0 : Int32)), .unset]) rfl ?_
                show Steps p.tables e below (T56.setTop (mkF m 61 #[.val (.int p1), .val (.int ((p1 &&& (2147483647 : Int32)) % (10 : Int32))), .val (.ref w_RESOURCES), .val (.int (1 : Int32)), .val (.int (0 : Int32)), .unset] [])) _
                refine XS.iloadN X56.here hx rfl (hb hby at_61) rfl ?_
                show Steps p.tables e below (T56.setTop (mkF m 62 #[.val (.int p1), .val (.int ((p1 &&& (2147483647 : Int32)) % (10 : Int32))), .val (.ref w_RESOURCES), .val (.int (1 : Int32)), .val (.int (0 : Int32)), .unset] [(.int (1 : Int32))])) _
                refine XS.ifYes X56.here hx rfl (pc0 := 62) (pc' := 74) rfl (hb hby at_62) rfl ((if0 _ _).trans (feq ((by decide) : ¬ ((1 : Int32) = (0 : Int32)))).2) (by decide) (by decide) ?_
                show Steps p.tables e below (T56.setTop (mkF m 74 #[.val (.int p1), .val (.int ((p1 &&& (2147483647 : Int32)) % (10 : Int32))), .val (.ref w_RESOURCES), .val (.int (1 : Int32)), .val (.int (0 : Int32)), .unset] [])) _
                refine XT.iconstV X56.here hx rfl (0 : Int32) (hb hby at_74) (by decide) ?_
                show Steps p.tables e below (T56.setTop (mkF m 75 #[.val (.int p1), .val (.int ((p1 &&& (2147483647 : Int32)) % (10 : Int32))), .val (.ref w_RESOURCES), .val (.int (1 : Int32)), .val (.int (0 : Int32)), .unset] [(.int (0 : Int32))])) _
                refine XS.istore X56.here hx rfl (hb hby at_75) rfl (l' := #[.val (.int p1), .val (.int ((p1 &&& (2147483647 : Int32)) % (10 : Int32))), .val (.ref w_RESOURCES), .val (.int (1 : Int32)), .val (.int (0 : Int32)), .val (.int (0 : Int32))]) rfl ?_
                show Steps p.tables e below (T56.setTop (mkF m 77 #[.val (.int p1), .val (.int ((p1 &&& (2147483647 : Int32)) % (10 : Int32))), .val (.ref w_RESOURCES), .val (.int (1 : Int32)), .val (.int (0 : Int32)), .val (.int (0 : Int32))] [])) _
                refine XS.aloadN X56.here hx rfl (hb hby at_77) rfl rfl ?_
                show Steps p.tables e below (T56.setTop (mkF m 78 #[.val (.int p1), .val (.int ((p1 &&& (2147483647 : Int32)) % (10 : Int32))), .val (.ref w_RESOURCES), .val (.int (1 : Int32)), .val (.int (0 : Int32)), .val (.int (0 : Int32))] [(.ref w_RESOURCES)])) _
                refine st57.trans ?_
                show Steps p.tables e below (T57.setTop (mkF m 81 #[.val (.int p1), .val (.int ((p1 &&& (2147483647 : Int32)) % (10 : Int32))), .val (.ref w_RESOURCES), .val (.int (1 : Int32)), .val (.int (0 : Int32)), .val (.int (0 : Int32))] [(.int (0 : Int32))])) _
                refine XS.iload X57.here hx rfl (hb hby at_81) rfl ?_
                show Steps p.tables e below (T57.setTop (mkF m 83 #[.val (.int p1), .val (.int ((p1 &&& (2147483647 : Int32)) % (10 : Int32))), .val (.ref w_RESOURCES), .val (.int (1 : Int32)), .val (.int (0 : Int32)), .val (.int (0 : Int32))] [(.int (0 : Int32)), (.int (0 : Int32))])) _
                refine XS.icmpNo X57.here hx rfl (hb hby at_83) rfl (teq (rfl : (0 : Int32) = (0 : Int32))).2 ?_
                show Steps p.tables e below (T57.setTop (mkF m 86 #[.val (.int p1), .val (.int ((p1 &&& (2147483647 : Int32)) % (10 : Int32))), .val (.ref w_RESOURCES), .val (.int (1 : Int32)), .val (.int (0 : Int32)), .val (.int (0 : Int32))] [])) _
                refine XT.iconstV X57.here hx rfl (1 : Int32) (hb hby at_86) (by decide) ?_
                show Steps p.tables e below (T57.setTop (mkF m 87 #[.val (.int p1), .val (.int ((p1 &&& (2147483647 : Int32)) % (10 : Int32))), .val (.ref w_RESOURCES), .val (.int (1 : Int32)), .val (.int (0 : Int32)), .val (.int (0 : Int32))] [(.int (1 : Int32))])) _
                refine XS.goto X57.here hx rfl (pc0 := 87) (pc' := 91) rfl (hb hby at_87) (by decide) (by decide) ?_
                show Steps p.tables e below (T57.setTop (mkF m 91 #[.val (.int p1), .val (.int ((p1 &&& (2147483647 : Int32)) % (10 : Int32))), .val (.ref w_RESOURCES), .val (.int (1 : Int32)), .val (.int (0 : Int32)), .val (.int (0 : Int32))] [(.int (1 : Int32))])) _
                exact retN X57 hx (t := .boolean) Bd.returns (by simp) (hb hby at_91) hr59
              · show Q0 Z _ _ _ _ _ _ _ _ _ _ _ h0 n0 _ T57.heap _
                rw [e57]
                exact ⟨rfl, N57⟩
            ·
              by_cases hc60 : ((p1 &&& (2147483647 : Int32)) % (10 : Int32)) = (6 : Int32)
              ·
                obtain ⟨_, _, ⟨T61, L61, k61, n61⟩, -, X61, ⟨Lc61, hQ61, l61, y61, z61⟩, st61⟩ := Jvm.LawKit.callS X0 hx (y := (⟨"com/example/stratigraph/stratigraph/rql/TypeIsItemPinLaw", "pick", "(I)Lcom/example/stratigraph/stratigraph/rql/Type;"⟩ : MethodName)) hown (mvT hZ (hw _ (List.mem_of_getElem? (i := 1) rfl))) (mvT hZ (hw _ (List.mem_of_getElem? (i := 2) rfl))) (mvT hZ (hw _ (List.mem_of_getElem? (i := 3) rfl))) (mvT hZ (hw _ (List.mem_of_getElem? (i := 4) rfl))) (by decide) (backOf (W := 0) (rm1 l Z a0 hw [] ((p1 &&& (2147483647 : Int32)) % (10 : Int32)) w_CLASS w_PROPERTY w_RESOURCE w_VALUE w_LITERAL w_RESOURCES w_PAIRS w_ROWS w_BOOLEAN w_NUMBER w_PAIRS h0 n0 S_CLASS S_PROPERTY S_RESOURCE S_VALUE S_LITERAL S_RESOURCES S_PAIRS S_ROWS S_BOOLEAN S_NUMBER (by unfold own_pick; rw [if_neg (hc2 : ¬ (((p1 &&& (2147483647 : Int32)) % (10 : Int32)) = (0 : Int32))), if_neg (hc12 : ¬ (((p1 &&& (2147483647 : Int32)) % (10 : Int32)) = (1 : Int32))), if_neg (hc22 : ¬ (((p1 &&& (2147483647 : Int32)) % (10 : Int32)) = (2 : Int32))), if_neg (hc32 : ¬ (((p1 &&& (2147483647 : Int32)) % (10 : Int32)) = (3 : Int32))), if_neg (hc42 : ¬ (((p1 &&& (2147483647 : Int32)) % (10 : Int32)) = (4 : Int32))), if_neg (hc52 : ¬ (((p1 &&& (2147483647 : Int32)) % (10 : Int32)) = (5 : Int32))), if_pos (hc60 : ((p1 &&& (2147483647 : Int32)) % (10 : Int32)) = (6 : Int32))])) hZ (hw _ (List.mem_of_getElem? (i := 4) rfl)) (hw _ (List.mem_of_getElem? (i := 3) rfl)) (by decide) (by decide)) (g := (mkF m 9 #[.val (.int p1), .val (.int ((p1 &&& (2147483647 : Int32)) % (10 : Int32))), .unset, .unset, .unset, .unset] [(.int ((p1 &&& (2147483647 : Int32)) % (10 : Int32)))])) rfl (by rw [hml]; rfl) (argsL := [(.int ((p1 &&& (2147483647 : Int32)) % (10 : Int32)))]) (rest := []) (lenOf (show parseMethodDescriptor "(I)Lcom/example/stratigraph/stratigraph/rql/Type;" = some ⟨[.int], some (.object "com/example/stratigraph/stratigraph/rql/Type")⟩ by decide +kernel) rfl) rfl (by show 2 * 0 + _ ≤ _; exact Nat.le_of_eq rfl) (hb hby at_9) (fun _ _ => ⟨rfl, e0, (by decide : 0 + 0 ≤ _), (by decide : 0 + 0 ≤ _)⟩)
                dsimp only [Pt.U, Pt.locs, Pt.cells, Pt.slots] at X61 l61 y61 z61 st61 hQ61
                subst l61 y61 z61
                obtain ⟨rfl, Nq61, e61⟩ := hQ61
                have N61 := Fr.app N0 Nq61
                obtain ⟨T62, X62, e62, st62⟩ := getS2 X61 hx hZ hown (host := "") (Or.inl (hw _ (List.mem_of_getElem? (i := 8) rfl))) Via.refl e61 S_RESOURCES (g := (mkF m 14 #[.val (.int p1), .val (.int ((p1 &&& (2147483647 : Int32)) % (10 : Int32))), .val (.ref w_PAIRS), .unset, .unset, .unset] [(.ref w_PAIRS)])) rfl (hb hby at_14)
                obtain ⟨T63, X63, e63, st63⟩ := getS2 X62 hx hZ hown (host := "") (Or.inl (hw _ (List.mem_of_getElem? (i := 10) rfl))) Via.refl e62 S_PAIRS (g := (mkF m 21 #[.val (.int p1), .val (.int ((p1 &&& (2147483647 : Int32)) % (10 : Int32))), .val (.ref w_PAIRS), .unset, .unset, .unset] [(.ref w_PAIRS)])) rfl (hb hby at_21)
                obtain ⟨T64, X64, e64, st64⟩ := getS2 X63 hx hZ hown (host := "") (Or.inl (hw _ (List.mem_of_getElem? (i := 14) rfl))) Via.refl e63 S_BOOLEAN (g := (mkF m 41 #[.val (.int p1), .val (.int ((p1 &&& (2147483647 : Int32)) % (10 : Int32))), .val (.ref w_PAIRS), .val (.int (1 : Int32)), .unset, .unset] [(.ref w_PAIRS)])) rfl (hb hby at_41)
                obtain ⟨T65, X65, e65, st65⟩ := getS2 X64 hx hZ hown (host := "") (Or.inl (hw _ (List.mem_of_getElem? (i := 16) rfl))) Via.refl e64 S_NUMBER (g := (mkF m 48 #[.val (.int p1), .val (.int ((p1 &&& (2147483647 : Int32)) % (10 : Int32))), .val (.ref w_PAIRS), .val (.int (1 : Int32)), .unset, .unset] [(.ref w_PAIRS)])) rfl (hb hby at_48)
                obtain ⟨cq67, kq67, q67a, q67b, q67c⟩ := isOf hZ e65 E_PAIRS
                obtain ⟨_, _, ⟨T66, L66, k66, n66⟩, -, X66, ⟨Lc66, hQ66, l66, y66, z66⟩, st66⟩ := X65.virtualBack hx (y := (⟨"com/example/stratigraph/stratigraph/rql/Type", "isItem", "()Z"⟩ : MethodName)) (z := (⟨"com/example/stratigraph/stratigraph/rql/Type", "isItem", "()Z"⟩ : MethodName)) hown (mvT hZ (hw _ (List.mem_of_getElem? (i := 18) rfl))) (mvT hZ (hw _ (List.mem_of_getElem? (i := 19) rfl))) (notFace_of_selects (args := #[]) (mvT hZ (hw _ (List.mem_of_getElem? (i := 21) rfl)))) (mvT hZ (hw _ (List.mem_of_getElem? (i := 21) rfl))) (mvT hZ (hw _ (List.mem_of_getElem? (i := 20) rfl))) (by decide) (backOf (W := 0) (rm2 l Z a0 hw [] w_PAIRS w_CLASS w_PROPERTY w_RESOURCE w_VALUE w_LITERAL (0 : Int32) h0 n0 S_CLASS S_PROPERTY S_RESOURCE S_VALUE S_LITERAL (by unfold own_item; rw [if_neg ((Fld.ne O_PAIRS O_CLASS (fun q => absurd (Value.int.inj q) (by decide))) : ¬ (w_PAIRS = w_CLASS)), if_neg ((Fld.ne O_PAIRS O_PROPERTY (fun q => absurd (Value.int.inj q) (by decide))) : ¬ (w_PAIRS = w_PROPERTY)), if_neg ((Fld.ne O_PAIRS O_RESOURCE (fun q => absurd (Value.int.inj q) (by decide))) : ¬ (w_PAIRS = w_RESOURCE)), if_neg ((Fld.ne O_PAIRS O_VALUE (fun q => absurd (Value.int.inj q) (by decide))) : ¬ (w_PAIRS = w_VALUE)), if_neg ((Fld.ne O_PAIRS O_LITERAL (fun q => absurd (Value.int.inj q) (by decide))) : ¬ (w_PAIRS = w_LITERAL))])) hZ (hw _ (List.mem_of_getElem? (i := 22) rfl)) (hw _ (List.mem_of_getElem? (i := 6) rfl)) (by decide) (by decide)) q67a q67c (g := (mkF m 78 #[.val (.int p1), .val (.int ((p1 &&& (2147483647 : Int32)) % (10 : Int32))), .val (.ref w_PAIRS), .val (.int (1 : Int32)), .val (.int (0 : Int32)), .val (.int (0 : Int32))] [(.ref w_PAIRS)])) rfl (by rw [hml]; rfl) (Steps.refl _) (argsL := []) (rest := []) (lenOf (show parseMethodDescriptor "()Z" = some ⟨[], some .boolean⟩ by decide +kernel) rfl) rfl (by show 2 * 0 + _ ≤ _; exact Nat.le_of_eq rfl) (hb hby at_78) (fun _ _ => ⟨rfl, e65, (by decide : 0 + 0 ≤ _), (by decide : 0 + 0 ≤ _)⟩)
                dsimp only [Pt.U, Pt.locs, Pt.cells, Pt.slots] at X66 l66 y66 z66 st66 hQ66
                subst l66 y66 z66
                obtain ⟨rfl, Nq66, e66⟩ := hQ66
                have N66 := Fr.app N61 Nq66
                obtain ⟨fs, hr68, hrun, hended, hW, hsame⟩ := X66.leave (v := some (.int (1 : Int32))) (fun h => by rw [Bd.returns] at h; cases h)
                refine ⟨_, _, pre1 _ ?_, hrun, hended, _, _, rfl, ?_, ⟨_, rfl⟩, hW, hsame.mono (by decide) (by decide)⟩
                · show Steps p.tables e below (s₁.setTop (mkF m 8 #[.val (.int p1), .val (.int ((p1 &&& (2147483647 : Int32)) % (10 : Int32))), .unset, .unset, .unset, .unset] [])) _
                  refine XS.iloadN X0.here hx rfl (hb hby at_8) rfl ?_
                  show Steps p.tables e below (s₁.setTop (mkF m 9 #[.val (.int p1), .val (.int ((p1 &&& (2147483647 : Int32)) % (10 : Int32))), .unset, .unset, .unset, .unset] [(.int ((p1 &&& (2147483647 : Int32)) % (10 : Int32)))])) _
                  refine st61 _ ?_
                  show Steps p.tables e below (T61.setTop (mkF m 12 #[.val (.int p1), .val (.int ((p1 &&& (2147483647 : Int32)) % (10 : Int32))), .unset, .unset, .unset, .unset] [(.ref w_PAIRS)])) _
                  refine XS.astoreN X61.here hx rfl (hb hby at_12) rfl rfl (l' := #[.val (.int p1), .val (.int ((p1 &&& (2147483647 : Int32)) % (10 : Int32))), .val (.ref w_PAIRS), .unset, .unset, .unset]) rfl ?_
                  show Steps p.tables e below (T61.setTop (mkF m 13 #[.val (.int p1), .val (.int ((p1 &&& (2147483647 : Int32)) % (10 : Int32))), .val (.ref w_PAIRS), .unset, .unset, .unset] [])) _
                  refine XS.aloadN X61.here hx rfl (hb hby at_13) rfl rfl ?_
                  show Steps p.tables e below (T61.setTop (mkF m 14 #[.val (.int p1), .val (.int ((p1 &&& (2147483647 : Int32)) % (10 : Int32))), .val (.ref w_PAIRS), .unset, .unset, .unset] [(.ref w_PAIRS)])) _
                  refine st62 _ ?_
                  show Steps p.tables e below (T62.setTop (mkF m 17 #[.val (.int p1), .val (.int ((p1 &&& (2147483647 : Int32)) % (10 : Int32))), .val (.ref w_PAIRS), .unset, .unset, .unset] [(.ref w_RESOURCES), (.ref w_PAIRS)])) _
                  refine Jvm.RoadKit.acmp (g := (mkF m 17 #[.val (.int p1), .val (.int ((p1 &&& (2147483647 : Int32)) % (10 : Int32))), .val (.ref w_PAIRS), .unset, .unset, .unset] [(.ref w_RESOURCES), (.ref w_PAIRS)])) X62 hx rfl rfl rfl (pc0 := 17) (pc' := 20) (same := false) rfl (hb hby at_17) rfl (decide_eq_false fun q => ((Fld.ne O_PAIRS O_RESOURCES (fun q => absurd (Value.int.inj q) (by decide))) : ¬ (w_PAIRS = w_RESOURCES)) (Value.ref.inj q)) (by decide) (by decide) ?_
                  show Steps p.tables e below (T62.setTop (mkF m 20 #[.val (.int p1), .val (.int ((p1 &&& (2147483647 : Int32)) % (10 : Int32))), .val (.ref w_PAIRS), .unset, .unset, .unset] [])) _
                  refine XS.aloadN X62.here hx rfl (hb hby at_20) rfl rfl ?_
                  show Steps p.tables e below (T62.setTop (mkF m 21 #[.val (.int p1), .val (.int ((p1 &&& (2147483647 : Int32)) % (10 : Int32))), .val (.ref w_PAIRS), .unset, .unset, .unset] [(.ref w_PAIRS)])) _
                  refine st63 _ ?_
                  show Steps p.tables e below (T63.setTop (mkF m 24 #[.val (.int p1), .val (.int ((p1 &&& (2147483647 : Int32)) % (10 : Int32))), .val (.ref w_PAIRS), .unset, .unset, .unset] [(.ref w_PAIRS), (.ref w_PAIRS)])) _
                  refine Jvm.RoadKit.acmp (g := (mkF m 24 #[.val (.int p1), .val (.int ((p1 &&& (2147483647 : Int32)) % (10 : Int32))), .val (.ref w_PAIRS), .unset, .unset, .unset] [(.ref w_PAIRS), (.ref w_PAIRS)])) X63 hx rfl rfl rfl (pc0 := 24) (pc' := 34) (same := true) rfl (hb hby at_24) rfl (decide_eq_true (congrArg Value.ref (rfl : w_PAIRS = w_PAIRS))) (by decide) (by decide) ?_
                  show Steps p.tables e below (T63.setTop (mkF m 34 #[.val (.int p1), .val (.int ((p1 &&& (2147483647 : Int32)) % (10 : Int32))), .val (.ref w_PAIRS), .unset, .unset, .unset] [])) _
                  refine XT.iconstV X63.here hx rfl (1 : Int32) (hb hby at_34) (by decide) ?_
                  show Steps p.tables e below (T63.setTop (mkF m 35 #[.val (.int p1), .val (.int ((p1 &&& (2147483647 : Int32)) % (10 : Int32))), .val (.ref w_PAIRS), .unset, .unset, .unset] [(.int (1 : Int32))])) _
                  refine XS.goto X63.here hx rfl (pc0 := 35) (pc' := 39) rfl (hb hby at_35) (by decide) (by decide) ?_
                  show Steps p.tables e below (T63.setTop (mkF m 39 #[.val (.int p1), .val (.int ((p1 &&& (2147483647 : Int32)) % (10 : Int32))), .val (.ref w_PAIRS), .unset, .unset, .unset] [(.int (1 : Int32))])) _
                  refine XS.istoreN X63.here hx rfl (hb hby at_39) rfl (l' := #[.val (.int p1), .val (.int ((p1 &&& (2147483647 : Int32)) % (10 : Int32))), .val (.ref w_PAIRS), .val (.int (1 : Int32)), .unset, .unset]) rfl ?_
                  show Steps p.tables e below (T63.setTop (mkF m 40 #[.val (.int p1), .val (.int ((p1 &&& (2147483647 : Int32)) % (10 : Int32))), .val (.ref w_PAIRS), .val (.int (1 : Int32)), .unset, .unset] [])) _
                  refine XS.aloadN X63.here hx rfl (hb hby at_40) rfl rfl ?_
                  show Steps p.tables e below (T63.setTop (mkF m 41 #[.val (.int p1), .val (.int ((p1 &&& (2147483647 : Int32)) % (10 : Int32))), .val (.ref w_PAIRS), .val (.int (1 : Int32)), .unset, .unset] [(.ref w_PAIRS)])) _
                  refine st64 _ ?_
                  show Steps p.tables e below (T64.setTop (mkF m 44 #[.val (.int p1), .val (.int ((p1 &&& (2147483647 : Int32)) % (10 : Int32))), .val (.ref w_PAIRS), .val (.int (1 : Int32)), .unset, .unset] [(.ref w_BOOLEAN), (.ref w_PAIRS)])) _
                  refine Jvm.RoadKit.acmp (g := (mkF m 44 #[.val (.int p1), .val (.int ((p1 &&& (2147483647 : Int32)) % (10 : Int32))), .val (.ref w_PAIRS), .val (.int (1 : Int32)), .unset, .unset] [(.ref w_BOOLEAN), (.ref w_PAIRS)])) X64 hx rfl rfl rfl (pc0 := 44) (pc' := 47) (same := false) rfl (hb hby at_44) rfl (decide_eq_false fun q => ((Fld.ne O_PAIRS O_BOOLEAN (fun q => absurd (Value.int.inj q) (by decide))) : ¬ (w_PAIRS = w_BOOLEAN)) (Value.ref.inj q)) (by decide) (by decide) ?_
                  show Steps p.tables e below (T64.setTop (mkF m 47 #[.val (.int p1), .val (.int ((p1 &&& (2147483647 : Int32)) % (10 : Int32))), .val (.ref w_PAIRS), .val (.int (1 : Int32)), .unset, .unset] [])) _
                  refine XS.aloadN X64.here hx rfl (hb hby at_47) rfl rfl ?_
                  show Steps p.tables e below (T64.setTop (mkF m 48 #[.val (.int p1), .val (.int ((p1 &&& (2147483647 : Int32)) % (10 : Int32))), .val (.ref w_PAIRS), .val (.int (1 : Int32)), .unset, .unset] [(.ref w_PAIRS)])) _
                  refine st65 _ ?_
                  show Steps p.tables e below (T65.setTop (mkF m 51 #[.val (.int p1), .val (.int ((p1 &&& (2147483647 : Int32)) % (10 : Int32))), .val (.ref w_PAIRS), .val (.int (1 : Int32)), .unset, .unset] [(.ref w_NUMBER), (.ref w_PAIRS)])) _
                  refine Jvm.RoadKit.acmp (g := (mkF m 51 #[.val (.int p1), .val (.int ((p1 &&& (2147483647 : Int32)) % (10 : Int32))), .val (.ref w_PAIRS), .val (.int (1 : Int32)), .unset, .unset] [(.ref w_NUMBER), (.ref w_PAIRS)])) X65 hx rfl rfl rfl (pc0 := 51) (pc' := 58) (same := false) rfl (hb hby at_51) rfl (decide_eq_false fun q => ((Fld.ne O_PAIRS O_NUMBER (fun q => absurd (Value.int.inj q) (by decide))) : ¬ (w_PAIRS = w_NUMBER)) (Value.ref.inj q)) (by decide) (by decide) ?_
                  show Steps p.tables e below (T65.setTop (mkF m 58 #[.val (.int p1), .val (.int ((p1 &&& (2147483647 : Int32)) % (10 : Int32))), .val (.ref w_PAIRS), .val (.int (1 : Int32)), .unset, .unset] [])) _
                  refine XT.iconstV X65.here hx rfl (0 : Int32) (hb hby at_58) (by decide) ?_
                  show Steps p.tables e below (T65.setTop (mkF m 59 #[.val (.int p1), .val (.int ((p1 &&& (2147483647 : Int32)) % (10 : Int32))), .val (.ref w_PAIRS), .val (.int (1 : Int32)), .unset, .unset] [(.int (0 : Int32))])) _
                  refine XS.istore X65.here hx rfl (hb hby at_59) rfl (l' := #[.val (.int p1), .val (.int ((p1 &&& (2147483647 : Int32)) % (10 : Int32))), .val (.ref w_PAIRS), .val (.int (1 : Int32)), .val (.int (0 : Int32)), .unset]) rfl ?_
                  show Steps p.tables e below (T65.setTop (mkF m 61 #[.val (.int p1), .val (.int ((p1 &&& (2147483647 : Int32)) % (10 : Int32))), .val (.ref w_PAIRS), .val (.int (1 : Int32)), .val (.int (0 : Int32)), .unset] [])) _
                  refine XS.iloadN X65.here hx rfl (hb hby at_61) rfl ?_
                  show Steps p.tables e below (T65.setTop (mkF m 62 #[.val (.int p1), .val (.int ((p1 &&& (2147483647 : Int32)) % (10 : Int32))), .val (.ref w_PAIRS), .val (.int (1 : Int32)), .val (.int (0 : Int32)), .unset] [(.int (1 : Int32))])) _
                  refine XS.ifYes X65.here hx rfl (pc0 := 62) (pc' := 74) rfl (hb hby at_62) rfl ((if0 _ _).trans (feq ((by decide) : ¬ ((1 : Int32) = (0 : Int32)))).2) (by decide) (by decide) ?_
                  show Steps p.tables e below (T65.setTop (mkF m 74 #[.val (.int p1), .val (.int ((p1 &&& (2147483647 : Int32)) % (10 : Int32))), .val (.ref w_PAIRS), .val (.int (1 : Int32)), .val (.int (0 : Int32)), .unset] [])) _
                  refine XT.iconstV X65.here hx rfl (0 : Int32) (hb hby at_74) (by decide) ?_
                  show Steps p.tables e below (T65.setTop (mkF m 75 #[.val (.int p1), .val (.int ((p1 &&& (2147483647 : Int32)) % (10 : Int32))), .val (.ref w_PAIRS), .val (.int (1 : Int32)), .val (.int (0 : Int32)), .unset] [(.int (0 : Int32))])) _
                  refine XS.istore X65.here hx rfl (hb hby at_75) rfl (l' := #[.val (.int p1), .val (.int ((p1 &&& (2147483647 : Int32)) % (10 : Int32))), .val (.ref w_PAIRS), .val (.int (1 : Int32)), .val (.int (0 : Int32)), .val (.int (0 : Int32))]) rfl ?_
                  show Steps p.tables e below (T65.setTop (mkF m 77 #[.val (.int p1), .val (.int ((p1 &&& (2147483647 : Int32)) % (10 : Int32))), .val (.ref w_PAIRS), .val (.int (1 : Int32)), .val (.int (0 : Int32)), .val (.int (0 : Int32))] [])) _
                  refine XS.aloadN X65.here hx rfl (hb hby at_77) rfl rfl ?_
                  show Steps p.tables e below (T65.setTop (mkF m 78 #[.val (.int p1), .val (.int ((p1 &&& (2147483647 : Int32)) % (10 : Int32))), .val (.ref w_PAIRS), .val (.int (1 : Int32)), .val (.int (0 : Int32)), .val (.int (0 : Int32))] [(.ref w_PAIRS)])) _
                  refine st66.trans ?_
                  show Steps p.tables e below (T66.setTop (mkF m 81 #[.val (.int p1), .val (.int ((p1 &&& (2147483647 : Int32)) % (10 : Int32))), .val (.ref w_PAIRS), .val (.int (1 : Int32)), .val (.int (0 : Int32)), .val (.int (0 : Int32))] [(.int (0 : Int32))])) _
                  refine XS.iload X66.here hx rfl (hb hby at_81) rfl ?_
                  show Steps p.tables e below (T66.setTop (mkF m 83 #[.val (.int p1), .val (.int ((p1 &&& (2147483647 : Int32)) % (10 : Int32))), .val (.ref w_PAIRS), .val (.int (1 : Int32)), .val (.int (0 : Int32)), .val (.int (0 : Int32))] [(.int (0 : Int32)), (.int (0 : Int32))])) _
                  refine XS.icmpNo X66.here hx rfl (hb hby at_83) rfl (teq (rfl : (0 : Int32) = (0 : Int32))).2 ?_
                  show Steps p.tables e below (T66.setTop (mkF m 86 #[.val (.int p1), .val (.int ((p1 &&& (2147483647 : Int32)) % (10 : Int32))), .val (.ref w_PAIRS), .val (.int (1 : Int32)), .val (.int (0 : Int32)), .val (.int (0 : Int32))] [])) _
                  refine XT.iconstV X66.here hx rfl (1 : Int32) (hb hby at_86) (by decide) ?_
                  show Steps p.tables e below (T66.setTop (mkF m 87 #[.val (.int p1), .val (.int ((p1 &&& (2147483647 : Int32)) % (10 : Int32))), .val (.ref w_PAIRS), .val (.int (1 : Int32)), .val (.int (0 : Int32)), .val (.int (0 : Int32))] [(.int (1 : Int32))])) _
                  refine XS.goto X66.here hx rfl (pc0 := 87) (pc' := 91) rfl (hb hby at_87) (by decide) (by decide) ?_
                  show Steps p.tables e below (T66.setTop (mkF m 91 #[.val (.int p1), .val (.int ((p1 &&& (2147483647 : Int32)) % (10 : Int32))), .val (.ref w_PAIRS), .val (.int (1 : Int32)), .val (.int (0 : Int32)), .val (.int (0 : Int32))] [(.int (1 : Int32))])) _
                  exact retN X66 hx (t := .boolean) Bd.returns (by simp) (hb hby at_91) hr68
                · show Q0 Z _ _ _ _ _ _ _ _ _ _ _ h0 n0 _ T66.heap _
                  rw [e66]
                  exact ⟨rfl, N66⟩
              ·
                by_cases hc69 : ((p1 &&& (2147483647 : Int32)) % (10 : Int32)) = (7 : Int32)
                ·
                  obtain ⟨_, _, ⟨T70, L70, k70, n70⟩, -, X70, ⟨Lc70, hQ70, l70, y70, z70⟩, st70⟩ := Jvm.LawKit.callS X0 hx (y := (⟨"com/example/stratigraph/stratigraph/rql/TypeIsItemPinLaw", "pick", "(I)Lcom/example/stratigraph/stratigraph/rql/Type;"⟩ : MethodName)) hown (mvT hZ (hw _ (List.mem_of_getElem? (i := 1) rfl))) (mvT hZ (hw _ (List.mem_of_getElem? (i := 2) rfl))) (mvT hZ (hw _ (List.mem_of_getElem? (i := 3) rfl))) (mvT hZ (hw _ (List.mem_of_getElem? (i := 4) rfl))) (by decide) (backOf (W := 0) (rm1 l Z a0 hw [] ((p1 &&& (2147483647 : Int32)) % (10 : Int32)) w_CLASS w_PROPERTY w_RESOURCE w_VALUE w_LITERAL w_RESOURCES w_PAIRS w_ROWS w_BOOLEAN w_NUMBER w_ROWS h0 n0 S_CLASS S_PROPERTY S_RESOURCE S_VALUE S_LITERAL S_RESOURCES S_PAIRS S_ROWS S_BOOLEAN S_NUMBER (by unfold own_pick; rw [if_neg (hc2 : ¬ (((p1 &&& (2147483647 : Int32)) % (10 : Int32)) = (0 : Int32))), if_neg (hc12 : ¬ (((p1 &&& (2147483647 : Int32)) % (10 : Int32)) = (1 : Int32))), if_neg (hc22 : ¬ (((p1 &&& (2147483647 : Int32)) % (10 : Int32)) = (2 : Int32))), if_neg (hc32 : ¬ (((p1 &&& (2147483647 : Int32)) % (10 : Int32)) = (3 : Int32))), if_neg (hc42 : ¬ (((p1 &&& (2147483647 : Int32)) % (10 : Int32)) = (4 : Int32))), if_neg (hc52 : ¬ (((p1 &&& (2147483647 : Int32)) % (10 : Int32)) = (5 : Int32))), if_neg (hc60 : ¬ (((p1 &&& (2147483647 : Int32)) % (10 : Int32)) = (6 : Int32))), if_pos (hc69 : ((p1 &&& (2147483647 : Int32)) % (10 : Int32)) = (7 : Int32))])) hZ (hw _ (List.mem_of_getElem? (i := 4) rfl)) (hw _ (List.mem_of_getElem? (i := 3) rfl)) (by decide) (by decide)) (g := (mkF m 9 #[.val (.int p1), .val (.int ((p1 &&& (2147483647 : Int32)) % (10 : Int32))), .unset, .unset, .unset, .unset] [(.int ((p1 &&& (2147483647 : Int32)) % (10 : Int32)))])) rfl (by rw [hml]; rfl) (argsL := [(.int ((p1 &&& (2147483647 : Int32)) % (10 : Int32)))]) (rest := []) (lenOf (show parseMethodDescriptor "(I)Lcom/example/stratigraph/stratigraph/rql/Type;" = some ⟨[.int], some (.object "com/example/stratigraph/stratigraph/rql/Type")⟩ by decide +kernel) rfl) rfl (by show 2 * 0 + _ ≤ _; exact Nat.le_of_eq rfl) (hb hby at_9) (fun _ _ => ⟨rfl, e0, (by decide : 0 + 0 ≤ _), (by decide : 0 + 0 ≤ _)⟩)
                  dsimp only [Pt.U, Pt.locs, Pt.cells, Pt.slots] at X70 l70 y70 z70 st70 hQ70
                  subst l70 y70 z70
                  obtain ⟨rfl, Nq70, e70⟩ := hQ70
                  have N70 := Fr.app N0 Nq70
                  obtain ⟨T71, X71, e71, st71⟩ := getS2 X70 hx hZ hown (host := "") (Or.inl (hw _ (List.mem_of_getElem? (i := 8) rfl))) Via.refl e70 S_RESOURCES (g := (mkF m 14 #[.val (.int p1), .val (.int ((p1 &&& (2147483647 : Int32)) % (10 : Int32))), .val (.ref w_ROWS), .unset, .unset, .unset] [(.ref w_ROWS)])) rfl (hb hby at_14)
                  obtain ⟨T72, X72, e72, st72⟩ := getS2 X71 hx hZ hown (host := "") (Or.inl (hw _ (List.mem_of_getElem? (i := 10) rfl))) Via.refl e71 S_PAIRS (g := (mkF m 21 #[.val (.int p1), .val (.int ((p1 &&& (2147483647 : Int32)) % (10 : Int32))), .val (.ref w_ROWS), .unset, .unset, .unset] [(.ref w_ROWS)])) rfl (hb hby at_21)
                  obtain ⟨T73, X73, e73, st73⟩ := getS2 X72 hx hZ hown (host := "") (Or.inl (hw _ (List.mem_of_getElem? (i := 12) rfl))) Via.refl e72 S_ROWS (g := (mkF m 28 #[.val (.int p1), .val (.int ((p1 &&& (2147483647 : Int32)) % (10 : Int32))), .val (.ref w_ROWS), .unset, .unset, .unset] [(.ref w_ROWS)])) rfl (hb hby at_28)
                  obtain ⟨T74, X74, e74, st74⟩ := getS2 X73 hx hZ hown (host := "") (Or.inl (hw _ (List.mem_of_getElem? (i := 14) rfl))) Via.refl e73 S_BOOLEAN (g := (mkF m 41 #[.val (.int p1), .val (.int ((p1 &&& (2147483647 : Int32)) % (10 : Int32))), .val (.ref w_ROWS), .val (.int (1 : Int32)), .unset, .unset] [(.ref w_ROWS)])) rfl (hb hby at_41)
                  obtain ⟨T75, X75, e75, st75⟩ := getS2 X74 hx hZ hown (host := "") (Or.inl (hw _ (List.mem_of_getElem? (i := 16) rfl))) Via.refl e74 S_NUMBER (g := (mkF m 48 #[.val (.int p1), .val (.int ((p1 &&& (2147483647 : Int32)) % (10 : Int32))), .val (.ref w_ROWS), .val (.int (1 : Int32)), .unset, .unset] [(.ref w_ROWS)])) rfl (hb hby at_48)
                  obtain ⟨cq77, kq77, q77a, q77b, q77c⟩ := isOf hZ e75 E_ROWS
                  obtain ⟨_, _, ⟨T76, L76, k76, n76⟩, -, X76, ⟨Lc76, hQ76, l76, y76, z76⟩, st76⟩ := X75.virtualBack hx (y := (⟨"com/example/stratigraph/stratigraph/rql/Type", "isItem", "()Z"⟩ : MethodName)) (z := (⟨"com/example/stratigraph/stratigraph/rql/Type", "isItem", "()Z"⟩ : MethodName)) hown (mvT hZ (hw _ (List.mem_of_getElem? (i := 18) rfl))) (mvT hZ (hw _ (List.mem_of_getElem? (i := 19) rfl))) (notFace_of_selects (args := #[]) (mvT hZ (hw _ (List.mem_of_getElem? (i := 21) rfl)))) (mvT hZ (hw _ (List.mem_of_getElem? (i := 21) rfl))) (mvT hZ (hw _ (List.mem_of_getElem? (i := 20) rfl))) (by decide) (backOf (W := 0) (rm2 l Z a0 hw [] w_ROWS w_CLASS w_PROPERTY w_RESOURCE w_VALUE w_LITERAL (0 : Int32) h0 n0 S_CLASS S_PROPERTY S_RESOURCE S_VALUE S_LITERAL (by unfold own_item; rw [if_neg ((Fld.ne O_ROWS O_CLASS (fun q => absurd (Value.int.inj q) (by decide))) : ¬ (w_ROWS = w_CLASS)), if_neg ((Fld.ne O_ROWS O_PROPERTY (fun q => absurd (Value.int.inj q) (by decide))) : ¬ (w_ROWS = w_PROPERTY)), if_neg ((Fld.ne O_ROWS O_RESOURCE (fun q => absurd (Value.int.inj q) (by decide))) : ¬ (w_ROWS = w_RESOURCE)), if_neg ((Fld.ne O_ROWS O_VALUE (fun q => absurd (Value.int.inj q) (by decide))) : ¬ (w_ROWS = w_VALUE)), if_neg ((Fld.ne O_ROWS O_LITERAL (fun q => absurd (Value.int.inj q) (by decide))) : ¬ (w_ROWS = w_LITERAL))])) hZ (hw _ (List.mem_of_getElem? (i := 22) rfl)) (hw _ (List.mem_of_getElem? (i := 6) rfl)) (by decide) (by decide)) q77a q77c (g := (mkF m 78 #[.val (.int p1), .val (.int ((p1 &&& (2147483647 : Int32)) % (10 : Int32))), .val (.ref w_ROWS), .val (.int (1 : Int32)), .val (.int (0 : Int32)), .val (.int (0 : Int32))] [(.ref w_ROWS)])) rfl (by rw [hml]; rfl) (Steps.refl _) (argsL := []) (rest := []) (lenOf (show parseMethodDescriptor "()Z" = some ⟨[], some .boolean⟩ by decide +kernel) rfl) rfl (by show 2 * 0 + _ ≤ _; exact Nat.le_of_eq rfl) (hb hby at_78) (fun _ _ => ⟨rfl, e75, (by decide : 0 + 0 ≤ _), (by decide : 0 + 0 ≤ _)⟩)
                  dsimp only [Pt.U, Pt.locs, Pt.cells, Pt.slots] at X76 l76 y76 z76 st76 hQ76
                  subst l76 y76 z76
                  obtain ⟨rfl, Nq76, e76⟩ := hQ76
                  have N76 := Fr.app N70 Nq76
                  obtain ⟨fs, hr78, hrun, hended, hW, hsame⟩ := X76.leave (v := some (.int (1 : Int32))) (fun h => by rw [Bd.returns] at h; cases h)
                  refine ⟨_, _, pre1 _ ?_, hrun, hended, _, _, rfl, ?_, ⟨_, rfl⟩, hW, hsame.mono (by decide) (by decide)⟩
                  · show Steps p.tables e below (s₁.setTop (mkF m 8 #[.val (.int p1), .val (.int ((p1 &&& (2147483647 : Int32)) % (10 : Int32))), .unset, .unset, .unset, .unset] [])) _
                    refine XS.iloadN X0.here hx rfl (hb hby at_8) rfl ?_
                    show Steps p.tables e below (s₁.setTop (mkF m 9 #[.val (.int p1), .val (.int ((p1 &&& (2147483647 : Int32)) % (10 : Int32))), .unset, .unset, .unset, .unset] [(.int ((p1 &&& (2147483647 : Int32)) % (10 : Int32)))])) _
                    refine st70 _ ?_
                    show Steps p.tables e below (T70.setTop (mkF m 12 #[.val (.int p1), .val (.int ((p1 &&& (2147483647 : Int32)) % (10 : Int32))), .unset, .unset, .unset, .unset] [(.ref w_ROWS)])) _
                    refine XS.astoreN X70.here hx rfl (hb hby at_12) rfl rfl (l' := #[.val (.int p1), .val (.int ((p1 &&& (2147483647 : Int32)) % (10 : Int32))), .val (.ref w_ROWS), .unset, .unset, .unset]) rfl ?_
                    show Steps p.tables e below (T70.setTop (mkF m 13 #[.val (.int p1), .val (.int ((p1 &&& (2147483647 : Int32)) % (10 : Int32))), .val (.ref w_ROWS), .unset, .unset, .unset] [])) _
                    refine XS.aloadN X70.here hx rfl (hb hby at_13) rfl rfl ?_
                    show Steps p.tables e below (T70.setTop (mkF m 14 #[.val (.int p1), .val (.int ((p1 &&& (2147483647 : Int32)) % (10 : Int32))), .val (.ref w_ROWS), .unset, .unset, .unset] [(.ref w_ROWS)])) _
                    refine st71 _ ?_
                    show Steps p.tables e below (T71.setTop (mkF m 17 #[.val (.int p1), .val (.int ((p1 &&& (2147483647 : Int32)) % (10 : Int32))), .val (.ref w_ROWS), .unset, .unset, .unset] [(.ref w_RESOURCES), (.ref w_ROWS)])) _
                    refine Jvm.RoadKit.acmp (g := (mkF m 17 #[.val (.int p1), .val (.int ((p1 &&& (2147483647 : Int32)) % (10 : Int32))), .val (.ref w_ROWS), .unset, .unset, .unset] [(.ref w_RESOURCES), (.ref w_ROWS)])) X71 hx rfl rfl rfl (pc0 := 17) (pc' := 20) (same := false) rfl (hb hby at_17) rfl (decide_eq_false fun q => ((Fld.ne O_ROWS O_RESOURCES (fun q => absurd (Value.int.inj q) (by decide))) : ¬ (w_ROWS = w_RESOURCES)) (Value.ref.inj q)) (by decide) (by decide) ?_
                    show Steps p.tables e below (T71.setTop (mkF m 20 #[.val (.int p1), .val (.int ((p1 &&& (2147483647 : Int32)) % (10 : Int32))), .val (.ref w_ROWS), .unset, .unset, .unset] [])) _
                    refine XS.aloadN X71.here hx rfl (hb hby at_20) rfl rfl ?_
                    show Steps p.tables e below (T71.setTop (mkF m 21 #[.val (.int p1), .val (.int ((p1 &&& (2147483647 : Int32)) % (10 : Int32))), .val (.ref w_ROWS), .unset, .unset, .unset] [(.ref w_ROWS)])) _
                    refine st72 _ ?_
                    show Steps p.tables e below (T72.setTop (mkF m 24 #[.val (.int p1), .val (.int ((p1 &&& (2147483647 : Int32)) % (10 : Int32))), .val (.ref w_ROWS), .unset, .unset, .unset] [(.ref w_PAIRS), (.ref w_ROWS)])) _
                    refine Jvm.RoadKit.acmp (g := (mkF m 24 #[.val (.int p1), .val (.int ((p1 &&& (2147483647 : Int32)) % (10 : Int32))), .val (.ref w_ROWS), .unset, .unset, .unset] [(.ref w_PAIRS), (.ref w_ROWS)])) X72 hx rfl rfl rfl (pc0 := 24) (pc' := 27) (same := false) rfl (hb hby at_24) rfl (decide_eq_false fun q => ((Fld.ne O_ROWS O_PAIRS (fun q => absurd (Value.int.inj q) (by decide))) : ¬ (w_ROWS = w_PAIRS)) (Value.ref.inj q)) (by decide) (by decide) ?_
                    show Steps p.tables e below (T72.setTop (mkF m 27 #[.val (.int p1), .val (.int ((p1 &&& (2147483647 : Int32)) % (10 : Int32))), .val (.ref w_ROWS), .unset, .unset, .unset] [])) _
                    refine XS.aloadN X72.here hx rfl (hb hby at_27) rfl rfl ?_
                    show Steps p.tables e below (T72.setTop (mkF m 28 #[.val (.int p1), .val (.int ((p1 &&& (2147483647 : Int32)) % (10 : Int32))), .val (.ref w_ROWS), .unset, .unset, .unset] [(.ref w_ROWS)])) _
                    refine st73 _ ?_
                    show Steps p.tables e below (T73.setTop (mkF m 31 #[.val (.int p1), .val (.int ((p1 &&& (2147483647 : Int32)) % (10 : Int32))), .val (.ref w_ROWS), .unset, .unset, .unset] [(.ref w_ROWS), (.ref w_ROWS)])) _
                    refine Jvm.RoadKit.acmp (g := (mkF m 31 #[.val (.int p1), .val (.int ((p1 &&& (2147483647 : Int32)) % (10 : Int32))), .val (.ref w_ROWS), .unset, .unset, .unset] [(.ref w_ROWS), (.ref w_ROWS)])) X73 hx rfl rfl rfl (pc0 := 31) (pc' := 34) (same := true) rfl (hb hby at_31) rfl (decide_eq_true (congrArg Value.ref (rfl : w_ROWS = w_ROWS))) (by decide) (by decide) ?_
                    show Steps p.tables e below (T73.setTop (mkF m 34 #[.val (.int p1), .val (.int ((p1 &&& (2147483647 : Int32)) % (10 : Int32))), .val (.ref w_ROWS), .unset, .unset, .unset] [])) _
                    refine XT.iconstV X73.here hx rfl (1 : Int32) (hb hby at_34) (by decide) ?_
                    show Steps p.tables e below (T73.setTop (mkF m 35 #[.val (.int p1), .val (.int ((p1 &&& (2147483647 : Int32)) % (10 : Int32))), .val (.ref w_ROWS), .unset, .unset, .unset] [(.int (1 : Int32))])) _
                    refine XS.goto X73.here hx rfl (pc0 := 35) (pc' := 39) rfl (hb hby at_35) (by decide) (by decide) ?_
                    show Steps p.tables e below (T73.setTop (mkF m 39 #[.val (.int p1), .val (.int ((p1 &&& (2147483647 : Int32)) % (10 : Int32))), .val (.ref w_ROWS), .unset, .unset, .unset] [(.int (1 : Int32))])) _
                    refine XS.istoreN X73.here hx rfl (hb hby at_39) rfl (l' := #[.val (.int p1), .val (.int ((p1 &&& (2147483647 : Int32)) % (10 : Int32))), .val (.ref w_ROWS), .val (.int (1 : Int32)), .unset, .unset]) rfl ?_
                    show Steps p.tables e below (T73.setTop (mkF m 40 #[.val (.int p1), .val (.int ((p1 &&& (2147483647 : Int32)) % (10 : Int32))), .val (.ref w_ROWS), .val (.int (1 : Int32)), .unset, .unset] [])) _
                    refine XS.aloadN X73.here hx rfl (hb hby at_40) rfl rfl ?_
                    show Steps p.tables e below (T73.setTop (mkF m 41 #[.val (.int p1), .val (.int ((p1 &&& (2147483647 : Int32)) % (10 : Int32))), .val (.ref w_ROWS), .val (.int (1 : Int32)), .unset, .unset] [(.ref w_ROWS)])) _
                    refine st74 _ ?_
                    show Steps p.tables e below (T74.setTop (mkF m 44 #[.val (.int p1), .val (.int ((p1 &&& (2147483647 : Int32)) % (10 : Int32))), .val (.ref w_ROWS), .val (.int (1 : Int32)), .unset, .unset] [(.ref w_BOOLEAN), (.ref w_ROWS)])) _
                    refine Jvm.RoadKit.acmp (g := (mkF m 44 #[.val (.int p1), .val (.int ((p1 &&& (2147483647 : Int32)) % (10 : Int32))), .val (.ref w_ROWS), .val (.int (1 : Int32)), .unset, .unset] [(.ref w_BOOLEAN), (.ref w_ROWS)])) X74 hx rfl rfl rfl (pc0 := 44) (pc' := 47) (same := false) rfl (hb hby at_44) rfl (decide_eq_false fun q => ((Fld.ne O_ROWS O_BOOLEAN (fun q => absurd (Value.int.inj q) (by decide))) : ¬ (w_ROWS = w_BOOLEAN)) (Value.ref.inj q)) (by decide) (by decide) ?_
                    show Steps p.tables e below (T74.setTop (mkF m 47 #[.val (.int p1), .val (.int ((p1 &&& (2147483647 : Int32)) % (10 : Int32))), .val (.ref w_ROWS), .val (.int (1 : Int32)), .unset, .unset] [])) _
                    refine XS.aloadN X74.here hx rfl (hb hby at_47) rfl rfl ?_
                    show Steps p.tables e below (T74.setTop (mkF m 48 #[.val (.int p1), .val (.int ((p1 &&& (2147483647 : Int32)) % (10 : Int32))), .val (.ref w_ROWS), .val (.int (1 : Int32)), .unset, .unset] [(.ref w_ROWS)])) _
                    refine st75 _ ?_
                    show Steps p.tables e below (T75.setTop (mkF m 51 #[.val (.int p1), .val (.int ((p1 &&& (2147483647 : Int32)) % (10 : Int32))), .val (.ref w_ROWS), .val (.int (1 : Int32)), .unset, .unset] [(.ref w_NUMBER), (.ref w_ROWS)])) _
                    refine Jvm.RoadKit.acmp (g := (mkF m 51 #[.val (.int p1), .val (.int ((p1 &&& (2147483647 : Int32)) % (10 : Int32))), .val (.ref w_ROWS), .val (.int (1 : Int32)), .unset, .unset] [(.ref w_NUMBER), (.ref w_ROWS)])) X75 hx rfl rfl rfl (pc0 := 51) (pc' := 58) (same := false) rfl (hb hby at_51) rfl (decide_eq_false fun q => ((Fld.ne O_ROWS O_NUMBER (fun q => absurd (Value.int.inj q) (by decide))) : ¬ (w_ROWS = w_NUMBER)) (Value.ref.inj q)) (by decide) (by decide) ?_
                    show Steps p.tables e below (T75.setTop (mkF m 58 #[.val (.int p1), .val (.int ((p1 &&& (2147483647 : Int32)) % (10 : Int32))), .val (.ref w_ROWS), .val (.int (1 : Int32)), .unset, .unset] [])) _
                    refine XT.iconstV X75.here hx rfl (0 : Int32) (hb hby at_58) (by decide) ?_
                    show Steps p.tables e below (T75.setTop (mkF m 59 #[.val (.int p1), .val (.int ((p1 &&& (2147483647 : Int32)) % (10 : Int32))), .val (.ref w_ROWS), .val (.int (1 : Int32)), .unset, .unset] [(.int (0 : Int32))])) _
                    refine XS.istore X75.here hx rfl (hb hby at_59) rfl (l' := #[.val (.int p1), .val (.int ((p1 &&& (2147483647 : Int32)) % (10 : Int32))), .val (.ref w_ROWS), .val (.int (1 : Int32)), .val (.int (0 : Int32)), .unset]) rfl ?_
                    show Steps p.tables e below (T75.setTop (mkF m 61 #[.val (.int p1), .val (.int ((p1 &&& (2147483647 : Int32)) % (10 : Int32))), .val (.ref w_ROWS), .val (.int (1 : Int32)), .val (.int (0 : Int32)), .unset] [])) _
                    refine XS.iloadN X75.here hx rfl (hb hby at_61) rfl ?_
                    show Steps p.tables e below (T75.setTop (mkF m 62 #[.val (.int p1), .val (.int ((p1 &&& (2147483647 : Int32)) % (10 : Int32))), .val (.ref w_ROWS), .val (.int (1 : Int32)), .val (.int (0 : Int32)), .unset] [(.int (1 : Int32))])) _
                    refine XS.ifYes X75.here hx rfl (pc0 := 62) (pc' := 74) rfl (hb hby at_62) rfl ((if0 _ _).trans (feq ((by decide) : ¬ ((1 : Int32) = (0 : Int32)))).2) (by decide) (by decide) ?_
                    show Steps p.tables e below (T75.setTop (mkF m 74 #[.val (.int p1), .val (.int ((p1 &&& (2147483647 : Int32)) % (10 : Int32))), .val (.ref w_ROWS), .val (.int (1 : Int32)), .val (.int (0 : Int32)), .unset] [])) _
                    refine XT.iconstV X75.here hx rfl (0 : Int32) (hb hby at_74) (by decide) ?_
                    show Steps p.tables e below (T75.setTop (mkF m 75 #[.val (.int p1), .val (.int ((p1 &&& (2147483647 : Int32)) % (10 : Int32))), .val (.ref w_ROWS), .val (.int (1 : Int32)), .val (.int (0 : Int32)), .unset] [(.int (0 : Int32))])) _
                    refine XS.istore X75.here hx rfl (hb hby at_75) rfl (l' := #[.val (.int p1), .val (.int ((p1 &&& (2147483647 : Int32)) % (10 : Int32))), .val (.ref w_ROWS), .val (.int (1 : Int32)), .val (.int (0 : Int32)), .val (.int (0 : Int32))]) rfl ?_
                    show Steps p.tables e below (T75.setTop (mkF m 77 #[.val (.int p1), .val (.int ((p1 &&& (2147483647 : Int32)) % (10 : Int32))), .val (.ref w_ROWS), .val (.int (1 : Int32)), .val (.int (0 : Int32)), .val (.int (0 : Int32))] [])) _
                    refine XS.aloadN X75.here hx rfl (hb hby at_77) rfl rfl ?_
                    show Steps p.tables e below (T75.setTop (mkF m 78 #[.val (.int p1), .val (.int ((p1 &&& (2147483647 : Int32)) % (10 : Int32))), .val (.ref w_ROWS), .val (.int (1 : Int32)), .val (.int (0 : Int32)), .val (.int (0 : Int32))] [(.ref w_ROWS)])) _
                    refine st76.trans ?_
                    show Steps p.tables e below (T76.setTop (mkF m 81 #[.val (.int p1), .val (.int ((p1 &&& (2147483647 : Int32)) % (10 : Int32))), .val (.ref w_ROWS), .val (.int (1 : Int32)), .val (.int (0 : Int32)), .val (.int (0 : Int32))] [(.int (0 : Int32))])) _
                    refine XS.iload X76.here hx rfl (hb hby at_81) rfl ?_
                    show Steps p.tables e below (T76.setTop (mkF m 83 #[.val (.int p1), .val (.int ((p1 &&& (2147483647 : Int32)) % (10 : Int32))), .val (.ref w_ROWS), .val (.int (1 : Int32)), .val (.int (0 : Int32)), .val (.int (0 : Int32))] [(.int (0 : Int32)), (.int (0 : Int32))])) _
                    refine XS.icmpNo X76.here hx rfl (hb hby at_83) rfl (teq (rfl : (0 : Int32) = (0 : Int32))).2 ?_
                    show Steps p.tables e below (T76.setTop (mkF m 86 #[.val (.int p1), .val (.int ((p1 &&& (2147483647 : Int32)) % (10 : Int32))), .val (.ref w_ROWS), .val (.int (1 : Int32)), .val (.int (0 : Int32)), .val (.int (0 : Int32))] [])) _
                    refine XT.iconstV X76.here hx rfl (1 : Int32) (hb hby at_86) (by decide) ?_
                    show Steps p.tables e below (T76.setTop (mkF m 87 #[.val (.int p1), .val (.int ((p1 &&& (2147483647 : Int32)) % (10 : Int32))), .val (.ref w_ROWS), .val (.int (1 : Int32)), .val (.int (0 : Int32)), .val (.int (0 : Int32))] [(.int (1 : Int32))])) _
                    refine XS.goto X76.here hx rfl (pc0 := 87) (pc' := 91) rfl (hb hby at_87) (by decide) (by decide) ?_
                    show Steps p.tables e below (T76.setTop (mkF m 91 #[.val (.int p1), .val (.int ((p1 &&& (2147483647 : Int32)) % (10 : Int32))), .val (.ref w_ROWS), .val (.int (1 : Int32)), .val (.int (0 : Int32)), .val (.int (0 : Int32))] [(.int (1 : Int32))])) _
                    exact retN X76 hx (t := .boolean) Bd.returns (by simp) (hb hby at_91) hr78
                  · show Q0 Z _ _ _ _ _ _ _ _ _ _ _ h0 n0 _ T76.heap _
                    rw [e76]
                    exact ⟨rfl, N76⟩
                ·
                  by_cases hc79 : ((p1 &&& (2147483647 : Int32)) % (10 : Int32)) = (8 : Int32)
                  ·
                    obtain ⟨_, _, ⟨T80, L80, k80, n80⟩, -, X80, ⟨Lc80, hQ80, l80, y80, z80⟩, st80⟩ := Jvm.LawKit.callS X0 hx (y := (⟨"com/example/stratigraph/stratigraph/rql/TypeIsItemPinLaw", "pick", "(I)Lcom/example/stratigraph/stratigraph/rql/Type;"⟩ : MethodName)) hown (mvT hZ (hw _ (List.mem_of_getElem? (i := 1) rfl))) (mvT hZ (hw _ (List.mem_of_getElem? (i := 2) rfl))) (mvT hZ (hw _ (List.mem_of_getElem? (i := 3) rfl))) (mvT hZ (hw _ (List.mem_of_getElem? (i := 4) rfl))) (by decide) (backOf (W := 0) (rm1 l Z a0 hw [] ((p1 &&& (2147483647 : Int32)) % (10 : Int32)) w_CLASS w_PROPERTY w_RESOURCE w_VALUE w_LITERAL w_RESOURCES w_PAIRS w_ROWS w_BOOLEAN w_NUMBER w_BOOLEAN h0 n0 S_CLASS S_PROPERTY S_RESOURCE S_VALUE S_LITERAL S_RESOURCES S_PAIRS S_ROWS S_BOOLEAN S_NUMBER (by unfold own_pick; rw [if_neg (hc2 : ¬ (((p1 &&& (2147483647 : Int32)) % (10 : Int32)) = (0 : Int32))), if_neg (hc12 : ¬ (((p1 &&& (2147483647 : Int32)) % (10 : Int32)) = (1 : Int32))), if_neg (hc22 : ¬ (((p1 &&& (2147483647 : Int32)) % (10 : Int32)) = (2 : Int32))), if_neg (hc32 : ¬ (((p1 &&& (2147483647 : Int32)) % (10 : Int32)) = (3 : Int32))), if_neg (hc42 : ¬ (((p1 &&& (2147483647 : Int32)) % (10 : Int32)) = (4 : Int32))), if_neg (hc52 : ¬ (((p1 &&& (2147483647 : Int32)) % (10 : Int32)) = (5 : Int32))), if_neg (hc60 : ¬ (((p1 &&& (2147483647 : Int32)) % (10 : Int32)) = (6 : Int32))), if_neg (hc69 : ¬ (((p1 &&& (2147483647 : Int32)) % (10 : Int32)) = (7 : Int32))), if_pos (hc79 : ((p1 &&& (2147483647 : Int32)) % (10 : Int32)) = (8 : Int32))])) hZ (hw _ (List.mem_of_getElem? (i := 4) rfl)) (hw _ (List.mem_of_getElem? (i := 3) rfl)) (by decide) (by decide)) (g := (mkF m 9 #[.val (.int p1), .val (.int ((p1 &&& (2147483647 : Int32)) % (10 : Int32))), .unset, .unset, .unset, .unset] [(.int ((p1 &&& (2147483647 : Int32)) % (10 : Int32)))])) rfl (by rw [hml]; rfl) (argsL := [(.int ((p1 &&& (2147483647 : Int32)) % (10 : Int32)))]) (rest := []) (lenOf (show parseMethodDescriptor "(I)Lcom/example/stratigraph/stratigraph/rql/Type;" = some ⟨[.int], some (.object "com/example/stratigraph/stratigraph/rql/Type")⟩ by decide +kernel) rfl) rfl (by show 2 * 0 + _ ≤ _; exact Nat.le_of_eq rfl) (hb hby at_9) (fun _ _ => ⟨rfl, e0, (by decide : 0 + 0 ≤ _), (by decide : 0 + 0 ≤ _)⟩)
                    dsimp only [Pt.U, Pt.locs, Pt.cells, Pt.slots] at X80 l80 y80 z80 st80 hQ80
                    subst l80 y80 z80
                    obtain ⟨rfl, Nq80, e80⟩ := hQ80
                    have N80 := Fr.app N0 Nq80
                    obtain ⟨T81, X81, e81, st81⟩ := getS2 X80 hx hZ hown (host := "") (Or.inl (hw _ (List.mem_of_getElem? (i := 8) rfl))) Via.refl e80 S_RESOURCES (g := (mkF m 14 #[.val (.int p1), .val (.int ((p1 &&& (2147483647 : Int32)) % (10 : Int32))), .val (.ref w_BOOLEAN), .unset, .unset, .unset] [(.ref w_BOOLEAN)])) rfl (hb hby at_14)
                    obtain ⟨T82, X82, e82, st82⟩ := getS2 X81 hx hZ hown (host := "") (Or.inl (hw _ (List.mem_of_getElem? (i := 10) rfl))) Via.refl e81 S_PAIRS (g := (mkF m 21 #[.val (.int p1), .val (.int ((p1 &&& (2147483647 : Int32)) % (10 : Int32))), .val (.ref w_BOOLEAN), .unset, .unset, .unset] [(.ref w_BOOLEAN)])) rfl (hb hby at_21)
                    obtain ⟨T83, X83, e83, st83⟩ := getS2 X82 hx hZ hown (host := "") (Or.inl (hw _ (List.mem_of_getElem? (i := 12) rfl))) Via.refl e82 S_ROWS (g := (mkF m 28 #[.val (.int p1), .val (.int ((p1 &&& (2147483647 : Int32)) % (10 : Int32))), .val (.ref w_BOOLEAN), .unset, .unset, .unset] [(.ref w_BOOLEAN)])) rfl (hb hby at_28)
                    obtain ⟨T84, X84, e84, st84⟩ := getS2 X83 hx hZ hown (host := "") (Or.inl (hw _ (List.mem_of_getElem? (i := 14) rfl))) Via.refl e83 S_BOOLEAN (g := (mkF m 41 #[.val (.int p1), .val (.int ((p1 &&& (2147483647 : Int32)) % (10 : Int32))), .val (.ref w_BOOLEAN), .val (.int (0 : Int32)), .unset, .unset] [(.ref w_BOOLEAN)])) rfl (hb hby at_41)
                    obtain ⟨cq86, kq86, q86a, q86b, q86c⟩ := isOf hZ e84 E_BOOLEAN
                    obtain ⟨_, _, ⟨T85, L85, k85, n85⟩, -, X85, ⟨Lc85, hQ85, l85, y85, z85⟩, st85⟩ := X84.virtualBack hx (y := (⟨"com/example/stratigraph/stratigraph/rql/Type", "isItem", "()Z"⟩ : MethodName)) (z := (⟨"com/example/stratigraph/stratigraph/rql/Type", "isItem", "()Z"⟩ : MethodName)) hown (mvT hZ (hw _ (List.mem_of_getElem? (i := 18) rfl))) (mvT hZ (hw _ (List.mem_of_getElem? (i := 19) rfl))) (notFace_of_selects (args := #[]) (mvT hZ (hw _ (List.mem_of_getElem? (i := 21) rfl)))) (mvT hZ (hw _ (List.mem_of_getElem? (i := 21) rfl))) (mvT hZ (hw _ (List.mem_of_getElem? (i := 20) rfl))) (by decide) (backOf (W := 0) (rm2 l Z a0 hw [] w_BOOLEAN w_CLASS w_PROPERTY w_RESOURCE w_VALUE w_LITERAL (0 : Int32) h0 n0 S_CLASS S_PROPERTY S_RESOURCE S_VALUE S_LITERAL (by unfold own_item; rw [if_neg ((Fld.ne O_BOOLEAN O_CLASS (fun q => absurd (Value.int.inj q) (by decide))) : ¬ (w_BOOLEAN = w_CLASS)), if_neg ((Fld.ne O_BOOLEAN O_PROPERTY (fun q => absurd (Value.int.inj q) (by decide))) : ¬ (w_BOOLEAN = w_PROPERTY)), if_neg ((Fld.ne O_BOOLEAN O_RESOURCE (fun q => absurd (Value.int.inj q) (by decide))) : ¬ (w_BOOLEAN = w_RESOURCE)), if_neg ((Fld.ne O_BOOLEAN O_VALUE (fun q => absurd (Value.int.inj q) (by decide))) : ¬ (w_BOOLEAN = w_VALUE)), if_neg ((Fld.ne O_BOOLEAN O_LITERAL (fun q => absurd (Value.int.inj q) (by decide))) : ¬ (w_BOOLEAN = w_LITERAL))])) hZ (hw _ (List.mem_of_getElem? (i := 22) rfl)) (hw _ (List.mem_of_getElem? (i := 6) rfl)) (by decide) (by decide)) q86a q86c (g := (mkF m 78 #[.val (.int p1), .val (.int ((p1 &&& (2147483647 : Int32)) % (10 : Int32))), .val (.ref w_BOOLEAN), .val (.int (0 : Int32)), .val (.int (1 : Int32)), .val (.int (0 : Int32))] [(.ref w_BOOLEAN)])) rfl (by rw [hml]; rfl) (Steps.refl _) (argsL := []) (rest := []) (lenOf (show parseMethodDescriptor "()Z" = some ⟨[], some .boolean⟩ by decide +kernel) rfl) rfl (by show 2 * 0 + _ ≤ _; exact Nat.le_of_eq rfl) (hb hby at_78) (fun _ _ => ⟨rfl, e84, (by decide : 0 + 0 ≤ _), (by decide : 0 + 0 ≤ _)⟩)
                    dsimp only [Pt.U, Pt.locs, Pt.cells, Pt.slots] at X85 l85 y85 z85 st85 hQ85
                    subst l85 y85 z85
                    obtain ⟨rfl, Nq85, e85⟩ := hQ85
                    have N85 := Fr.app N80 Nq85
                    obtain ⟨fs, hr87, hrun, hended, hW, hsame⟩ := X85.leave (v := some (.int (1 : Int32))) (fun h => by rw [Bd.returns] at h; cases h)
                    refine ⟨_, _, pre1 _ ?_, hrun, hended, _, _, rfl, ?_, ⟨_, rfl⟩, hW, hsame.mono (by decide) (by decide)⟩
                    · show Steps p.tables e below (s₁.setTop (mkF m 8 #[.val (.int p1), .val (.int ((p1 &&& (2147483647 : Int32)) % (10 : Int32))), .unset, .unset, .unset, .unset] [])) _
                      refine XS.iloadN X0.here hx rfl (hb hby at_8) rfl ?_
                      show Steps p.tables e below (s₁.setTop (mkF m 9 #[.val (.int p1), .val (.int ((p1 &&& (2147483647 : Int32)) % (10 : Int32))), .unset, .unset, .unset, .unset] [(.int ((p1 &&& (2147483647 : Int32)) % (10 : Int32)))])) _
                      refine st80 _ ?_
                      show Steps p.tables e below (T80.setTop (mkF m 12 #[.val (.int p1), .val (.int ((p1 &&& (2147483647 : Int32)) % (10 : Int32))), .unset, .unset, .unset, .unset] [(.ref w_BOOLEAN)])) _
                      refine XS.astoreN X80.here hx rfl (hb hby at_12) rfl rfl (l' := #[.val (.int p1), .val (.int ((p1 &&& (2147483647 : Int32)) % (10 : Int32))), .val (.ref w_BOOLEAN), .unset, .unset, .unset]) rfl ?_
                      show Steps p.tables e below (T80.setTop (mkF m 13 #[.val (.int p1), .val (.int ((p1 &&& (2147483647 : Int32)) % (10 : Int32))), .val (.ref w_BOOLEAN), .unset, .unset, .unset] [])) _
                      refine XS.aloadN X80.here hx rfl (hb hby at_13) rfl rfl ?_
                      show Steps p.tables e below (T80.setTop (mkF m 14 #[.val (.int p1), .val (.int ((p1 &&& (2147483647 : Int32)) % (10 : Int32))), .val (.ref w_BOOLEAN), .unset, .unset, .unset] [(.ref w_BOOLEAN)])) _
                      refine st81 _ ?_
                      show Steps p.tables e below (T81.setTop (mkF m 17 #[.val (.int p1), .val (.int ((p1 &&& (2147483647 : Int32)) % (10 : Int32))), .val (.ref w_BOOLEAN), .unset, .unset, .unset] [(.ref w_RESOURCES), (.ref w_BOOLEAN)])) _
                      refine Jvm.RoadKit.acmp (g := (mkF m 17 #[.val (.int p1), .val (.int ((p1 &&& (2147483647 : Int32)) % (10 : Int32))), .val (.ref w_BOOLEAN), .unset, .unset, .unset] [(.ref w_RESOURCES), (.ref w_BOOLEAN)])) X81 hx rfl rfl rfl (pc0 := 17) (pc' := 20) (same := false) rfl (hb hby at_17) rfl (decide_eq_false fun q => ((Fld.ne O_BOOLEAN O_RESOURCES (fun q => absurd (Value.int.inj q) (by decide))) : ¬ (w_BOOLEAN = w_RESOURCES)) (Value.ref.inj q)) (by decide) (by decide) ?_
                      show Steps p.tables e below (T81.setTop (mkF m 20 #[.val (.int p1), .val (.int ((p1 &&& (2147483647 : Int32)) % (10 : Int32))), .val (.ref w_BOOLEAN), .unset, .unset, .unset] [])) _
                      refine XS.aloadN X81.here hx rfl (hb hby at_20) rfl rfl ?_
                      show Steps p.tables e below (T81.setTop (mkF m 21 #[.val (.int p1), .val (.int ((p1 &&& (2147483647 : Int32)) % (10 : Int32))), .val (.ref w_BOOLEAN), .unset, .unset, .unset] [(.ref w_BOOLEAN)])) _
                      refine st82 _ ?_
                      show Steps p.tables e below (T82.setTop (mkF m 24 #[.val (.int p1), .val (.int ((p1 &&& (2147483647 : Int32)) % (10 : Int32))), .val (.ref w_BOOLEAN), .unset, .unset, .unset] [(.ref w_PAIRS), (.ref w_BOOLEAN)])) _
                      refine Jvm.RoadKit.acmp (g := (mkF m 24 #[.val (.int p1), .val (.int ((p1 &&& (2147483647 : Int32)) % (10 : Int32))), .val (.ref w_BOOLEAN), .unset, .unset, .unset] [(.ref w_PAIRS), (.ref w_BOOLEAN)])) X82 hx rfl rfl rfl (pc0 := 24) (pc' := 27) (same := false) rfl (hb hby at_24) rfl (decide_eq_false fun q => ((Fld.ne O_BOOLEAN O_PAIRS (fun q => absurd (Value.int.inj q) (by decide))) : ¬ (w_BOOLEAN = w_PAIRS)) (Value.ref.inj q)) (by decide) (by decide) ?_
                      show Steps p.tables e below (T82.setTop (mkF m 27 #[.val (.int p1), .val (.int ((p1 &&& (2147483647 : Int32)) % (10 : Int32))), .val (.ref w_BOOLEAN), .unset, .unset, .unset] [])) _
                      refine XS.aloadN X82.here hx rfl (hb hby at_27) rfl rfl ?_
                      show Steps p.tables e below (T82.setTop (mkF m 28 #[.val (.int p1), .val (.int ((p1 &&& (2147483647 : Int32)) % (10 : Int32))), .val (.ref w_BOOLEAN), .unset, .unset, .unset] [(.ref w_BOOLEAN)])) _
                      refine st83 _ ?_
                      show Steps p.tables e below (T83.setTop (mkF m 31 #[.val (.int p1), .val (.int ((p1 &&& (2147483647 : Int32)) % (10 : Int32))), .val (.ref w_BOOLEAN), .unset, .unset, .unset] [(.ref w_ROWS), (.ref w_BOOLEAN)])) _
                      refine Jvm.RoadKit.acmp (g := (mkF m 31 #[.val (.int p1), .val (.int ((p1 &&& (2147483647 : Int32)) % (10 : Int32))), .val (.ref w_BOOLEAN), .unset, .unset, .unset] [(.ref w_ROWS), (.ref w_BOOLEAN)])) X83 hx rfl rfl rfl (pc0 := 31) (pc' := 38) (same := false) rfl (hb hby at_31) rfl (decide_eq_false fun q => ((Fld.ne O_BOOLEAN O_ROWS (fun q => absurd (Value.int.inj q) (by decide))) : ¬ (w_BOOLEAN = w_ROWS)) (Value.ref.inj q)) (by decide) (by decide) ?_
                      show Steps p.tables e below (T83.setTop (mkF m 38 #[.val (.int p1), .val (.int ((p1 &&& (2147483647 : Int32)) % (10 : Int32))), .val (.ref w_BOOLEAN), .unset, .unset, .unset] [])) _
                      refine XT.iconstV X83.here hx rfl (0 : Int32) (hb hby at_38) (by decide) ?_
                      show Steps p.tables e below (T83.setTop (mkF m 39 #[.val (.int p1), .val (.int ((p1 &&& (2147483647 : Int32)) % (10 : Int32))), .val (.ref w_BOOLEAN), .unset, .unset, .unset] [(.int (0 : Int32))])) _
                      refine XS.istoreN X83.here hx rfl (hb hby at_39) rfl (l' := #[.val (.int p1), .val (.int ((p1 &&& (2147483647 : Int32)) % (10 : Int32))), .val (.ref w_BOOLEAN), .val (.int (0 : Int32)), .unset, .unset]) rfl ?_
                      show Steps p.tables e below (T83.setTop (mkF m 40 #[.val (.int p1), .val (.int ((p1 &&& (2147483647 : Int32)) % (10 : Int32))), .val (.ref w_BOOLEAN), .val (.int (0 : Int32)), .unset, .unset] [])) _
                      refine XS.aloadN X83.here hx rfl (hb hby at_40) rfl rfl ?_
                      show Steps p.tables e below (T83.setTop (mkF m 41 #[.val (.int p1), .val (.int ((p1 &&& (2147483647 : Int32)) % (10 : Int32))), .val (.ref w_BOOLEAN), .val (.int (0 : Int32)), .unset, .unset] [(.ref w_BOOLEAN)])) _
                      refine st84 _ ?_
                      show Steps p.tables e below (T84.setTop (mkF m 44 #[.val (.int p1), .val (.int ((p1 &&& (2147483647 : Int32)) % (10 : Int32))), .val (.ref w_BOOLEAN), .val (.int (0 : Int32)), .unset, .unset] [(.ref w_BOOLEAN), (.ref w_BOOLEAN)])) _
                      refine Jvm.RoadKit.acmp (g := (mkF m 44 #[.val (.int p1), .val (.int ((p1 &&& (2147483647 : Int32)) % (10 : Int32))), .val (.ref w_BOOLEAN), .val (.int (0 : Int32)), .unset, .unset] [(.ref w_BOOLEAN), (.ref w_BOOLEAN)])) X84 hx rfl rfl rfl (pc0 := 44) (pc' := 54) (same := true) rfl (hb hby at_44) rfl (decide_eq_true (congrArg Value.ref (rfl : w_BOOLEAN = w_BOOLEAN))) (by decide) (by decide) ?_
                      show Steps p.tables e below (T84.setTop (mkF m 54 #[.val (.int p1), .val (.int ((p1 &&& (2147483647 : Int32)) % (10 : Int32))), .val (.ref w_BOOLEAN), .val (.int (0 : Int32)), .unset, .unset] [])) _
                      refine XT.iconstV X84.here hx rfl (1 : Int32) (hb hby at_54) (by decide) ?_
                      show Steps p.tables e below (T84.setTop (mkF m 55 #[.val (.int p1), .val (.int ((p1 &&& (2147483647 : Int32)) % (10 : Int32))), .val (.ref w_BOOLEAN), .val (.int (0 : Int32)), .unset, .unset] [(.int (1 : Int32))])) _
                      refine XS.goto X84.here hx rfl (pc0 := 55) (pc' := 59) rfl (hb hby at_55) (by decide) (by decide) ?_
                      show Steps p.tables e below (T84.setTop (mkF m 59 #[.val (.int p1), .val (.int ((p1 &&& (2147483647 : Int32)) % (10 : Int32))), .val (.ref w_BOOLEAN), .val (.int (0 : Int32)), .unset, .unset] [(.int (1 : Int32))])) _
                      refine XS.istore X84.here hx rfl (hb hby at_59) rfl (l' := #[.val (.int p1), .val (.int ((p1 &&& (2147483647 : Int32)) % (10 : Int32))), .val (.ref w_BOOLEAN), .val (.int (0 : Int32)), .val (.int (1 : Int32)), .unset]) rfl ?_
                      show Steps p.tables e below (T84.setTop (mkF m 61 #[.val (.int p1), .val (.int ((p1 &&& (2147483647 : Int32)) % (10 : Int32))), .val (.ref w_BOOLEAN), .val (.int (0 : Int32)), .val (.int (1 : Int32)), .unset] [])) _
                      refine XS.iloadN X84.here hx rfl (hb hby at_61) rfl ?_
                      show Steps p.tables e below (T84.setTop (mkF m 62 #[.val (.int p1), .val (.int ((p1 &&& (2147483647 : Int32)) % (10 : Int32))), .val (.ref w_BOOLEAN), .val (.int (0 : Int32)), .val (.int (1 : Int32)), .unset] [(.int (0 : Int32))])) _
                      refine XS.ifNo X84.here hx rfl (hb hby at_62) rfl ((if0 _ _).trans (teq (rfl : (0 : Int32) = (0 : Int32))).2) ?_
                      show Steps p.tables e below (T84.setTop (mkF m 65 #[.val (.int p1), .val (.int ((p1 &&& (2147483647 : Int32)) % (10 : Int32))), .val (.ref w_BOOLEAN), .val (.int (0 : Int32)), .val (.int (1 : Int32)), .unset] [])) _
                      refine XS.iload X84.here hx rfl (hb hby at_65) rfl ?_
                      show Steps p.tables e below (T84.setTop (mkF m 67 #[.val (.int p1), .val (.int ((p1 &&& (2147483647 : Int32)) % (10 : Int32))), .val (.ref w_BOOLEAN), .val (.int (0 : Int32)), .val (.int (1 : Int32)), .unset] [(.int (1 : Int32))])) _
                      refine XS.ifYes X84.here hx rfl (pc0 := 67) (pc' := 74) rfl (hb hby at_67) rfl ((if0 _ _).trans (feq ((by decide) : ¬ ((1 : Int32) = (0 : Int32)))).2) (by decide) (by decide) ?_
                      show Steps p.tables e below (T84.setTop (mkF m 74 #[.val (.int p1), .val (.int ((p1 &&& (2147483647 : Int32)) % (10 : Int32))), .val (.ref w_BOOLEAN), .val (.int (0 : Int32)), .val (.int (1 : Int32)), .unset] [])) _
                      refine XT.iconstV X84.here hx rfl (0 : Int32) (hb hby at_74) (by decide) ?_
                      show Steps p.tables e below (T84.setTop (mkF m 75 #[.val (.int p1), .val (.int ((p1 &&& (2147483647 : Int32)) % (10 : Int32))), .val (.ref w_BOOLEAN), .val (.int (0 : Int32)), .val (.int (1 : Int32)), .unset] [(.int (0 : Int32))])) _
                      refine XS.istore X84.here hx rfl (hb hby at_75) rfl (l' := #[.val (.int p1), .val (.int ((p1 &&& (2147483647 : Int32)) % (10 : Int32))), .val (.ref w_BOOLEAN), .val (.int (0 : Int32)), .val (.int (1 : Int32)), .val (.int (0 : Int32))]) rfl ?_
                      show Steps p.tables e below (T84.setTop (mkF m 77 #[.val (.int p1), .val (.int ((p1 &&& (2147483647 : Int32)) % (10 : Int32))), .val (.ref w_BOOLEAN), .val (.int (0 : Int32)), .val (.int (1 : Int32)), .val (.int (0 : Int32))] [])) _
                      refine XS.aloadN X84.here hx rfl (hb hby at_77) rfl rfl ?_
                      show Steps p.tables e below (T84.setTop (mkF m 78 #[.val (.int p1), .val (.int ((p1 &&& (2147483647 : Int32)) % (10 : Int32))), .val (.ref w_BOOLEAN), .val (.int (0 : Int32)), .val (.int (1 : Int32)), .val (.int (0 : Int32))] [(.ref w_BOOLEAN)])) _
                      refine st85.trans ?_
                      show Steps p.tables e below (T85.setTop (mkF m 81 #[.val (.int p1), .val (.int ((p1 &&& (2147483647 : Int32)) % (10 : Int32))), .val (.ref w_BOOLEAN), .val (.int (0 : Int32)), .val (.int (1 : Int32)), .val (.int (0 : Int32))] [(.int (0 : Int32))])) _
                      refine XS.iload X85.here hx rfl (hb hby at_81) rfl ?_
                      show Steps p.tables e below (T85.setTop (mkF m 83 #[.val (.int p1), .val (.int ((p1 &&& (2147483647 : Int32)) % (10 : Int32))), .val (.ref w_BOOLEAN), .val (.int (0 : Int32)), .val (.int (1 : Int32)), .val (.int (0 : Int32))] [(.int (0 : Int32)), (.int (0 : Int32))])) _
                      refine XS.icmpNo X85.here hx rfl (hb hby at_83) rfl (teq (rfl : (0 : Int32) = (0 : Int32))).2 ?_
                      show Steps p.tables e below (T85.setTop (mkF m 86 #[.val (.int p1), .val (.int ((p1 &&& (2147483647 : Int32)) % (10 : Int32))), .val (.ref w_BOOLEAN), .val (.int (0 : Int32)), .val (.int (1 : Int32)), .val (.int (0 : Int32))] [])) _
                      refine XT.iconstV X85.here hx rfl (1 : Int32) (hb hby at_86) (by decide) ?_
                      show Steps p.tables e below (T85.setTop (mkF m 87 #[.val (.int p1), .val (.int ((p1 &&& (2147483647 : Int32)) % (10 : Int32))), .val (.ref w_BOOLEAN), .val (.int (0 : Int32)), .val (.int (1 : Int32)), .val (.int (0 : Int32))] [(.int (1 : Int32))])) _
                      refine XS.goto X85.here hx rfl (pc0 := 87) (pc' := 91) rfl (hb hby at_87) (by decide) (by decide) ?_
                      show Steps p.tables e below (T85.setTop (mkF m 91 #[.val (.int p1), .val (.int ((p1 &&& (2147483647 : Int32)) % (10 : Int32))), .val (.ref w_BOOLEAN), .val (.int (0 : Int32)), .val (.int (1 : Int32)), .val (.int (0 : Int32))] [(.int (1 : Int32))])) _
                      exact retN X85 hx (t := .boolean) Bd.returns (by simp) (hb hby at_91) hr87
                    · show Q0 Z _ _ _ _ _ _ _ _ _ _ _ h0 n0 _ T85.heap _
                      rw [e85]
                      exact ⟨rfl, N85⟩
                  ·
                    obtain ⟨_, _, ⟨T88, L88, k88, n88⟩, -, X88, ⟨Lc88, hQ88, l88, y88, z88⟩, st88⟩ := Jvm.LawKit.callS X0 hx (y := (⟨"com/example/stratigraph/stratigraph/rql/TypeIsItemPinLaw", "pick", "(I)Lcom/example/stratigraph/stratigraph/rql/Type;"⟩ : MethodName)) hown (mvT hZ (hw _ (List.mem_of_getElem? (i := 1) rfl))) (mvT hZ (hw _ (List.mem_of_getElem? (i := 2) rfl))) (mvT hZ (hw _ (List.mem_of_getElem? (i := 3) rfl))) (mvT hZ (hw _ (List.mem_of_getElem? (i := 4) rfl))) (by decide) (backOf (W := 0) (rm1 l Z a0 hw [] ((p1 &&& (2147483647 : Int32)) % (10 : Int32)) w_CLASS w_PROPERTY w_RESOURCE w_VALUE w_LITERAL w_RESOURCES w_PAIRS w_ROWS w_BOOLEAN w_NUMBER w_NUMBER h0 n0 S_CLASS S_PROPERTY S_RESOURCE S_VALUE S_LITERAL S_RESOURCES S_PAIRS S_ROWS S_BOOLEAN S_NUMBER (by unfold own_pick; rw [if_neg (hc2 : ¬ (((p1 &&& (2147483647 : Int32)) % (10 : Int32)) = (0 : Int32))), if_neg (hc12 : ¬ (((p1 &&& (2147483647 : Int32)) % (10 : Int32)) = (1 : Int32))), if_neg (hc22 : ¬ (((p1 &&& (2147483647 : Int32)) % (10 : Int32)) = (2 : Int32))), if_neg (hc32 : ¬ (((p1 &&& (2147483647 : Int32)) % (10 : Int32)) = (3 : Int32))), if_neg (hc42 : ¬ (((p1 &&& (2147483647 : Int32)) % (10 : Int32)) = (4 : Int32))), if_neg (hc52 : ¬ (((p1 &&& (2147483647 : Int32)) % (10 : Int32)) = (5 : Int32))), if_neg (hc60 : ¬ (((p1 &&& (2147483647 : Int32)) % (10 : Int32)) = (6 : Int32))), if_neg (hc69 : ¬ (((p1 &&& (2147483647 : Int32)) % (10 : Int32)) = (7 : Int32))), if_neg (hc79 : ¬ (((p1 &&& (2147483647 : Int32)) % (10 : Int32)) = (8 : Int32)))])) hZ (hw _ (List.mem_of_getElem? (i := 4) rfl)) (hw _ (List.mem_of_getElem? (i := 3) rfl)) (by decide) (by decide)) (g := (mkF m 9 #[.val (.int p1), .val (.int ((p1 &&& (2147483647 : Int32)) % (10 : Int32))), .unset, .unset, .unset, .unset] [(.int ((p1 &&& (2147483647 : Int32)) % (10 : Int32)))])) rfl (by rw [hml]; rfl) (argsL := [(.int ((p1 &&& (2147483647 : Int32)) % (10 : Int32)))]) (rest := []) (lenOf (show parseMethodDescriptor "(I)Lcom/example/stratigraph/stratigraph/rql/Type;" = some ⟨[.int], some (.object "com/example/stratigraph/stratigraph/rql/Type")⟩ by decide +kernel) rfl) rfl (by show 2 * 0 + _ ≤ _; exact Nat.le_of_eq rfl) (hb hby at_9) (fun _ _ => ⟨rfl, e0, (by decide : 0 + 0 ≤ _), (by decide : 0 + 0 ≤ _)⟩)
                    dsimp only [Pt.U, Pt.locs, Pt.cells, Pt.slots] at X88 l88 y88 z88 st88 hQ88
                    subst l88 y88 z88
                    obtain ⟨rfl, Nq88, e88⟩ := hQ88
                    have N88 := Fr.app N0 Nq88
                    obtain ⟨T89, X89, e89, st89⟩ := getS2 X88 hx hZ hown (host := "") (Or.inl (hw _ (List.mem_of_getElem? (i := 8) rfl))) Via.refl e88 S_RESOURCES (g := (mkF m 14 #[.val (.int p1), .val (.int ((p1 &&& (2147483647 : Int32)) % (10 : Int32))), .val (.ref w_NUMBER), .unset, .unset, .unset] [(.ref w_NUMBER)])) rfl (hb hby at_14)
                    obtain ⟨T90, X90, e90, st90⟩ := getS2 X89 hx hZ hown (host := "") (Or.inl (hw _ (List.mem_of_getElem? (i := 10) rfl))) Via.refl e89 S_PAIRS (g := (mkF m 21 #[.val (.int p1), .val (.int ((p1 &&& (2147483647 : Int32)) % (10 : Int32))), .val (.ref w_NUMBER), .unset, .unset, .unset] [(.ref w_NUMBER)])) rfl (hb hby at_21)
                    obtain ⟨T91, X91, e91, st91⟩ := getS2 X90 hx hZ hown (host := "") (Or.inl (hw _ (List.mem_of_getElem? (i := 12) rfl))) Via.refl e90 S_ROWS (g := (mkF m 28 #[.val (.int p1), .val (.int ((p1 &&& (2147483647 : Int32)) % (10 : Int32))), .val (.ref w_NUMBER), .unset, .unset, .unset] [(.ref w_NUMBER)])) rfl (hb hby at_28)
                    obtain ⟨T92, X92, e92, st92⟩ := getS2 X91 hx hZ hown (host := "") (Or.inl (hw _ (List.mem_of_getElem? (i := 14) rfl))) Via.refl e91 S_BOOLEAN (g := (mkF m 41 #[.val (.int p1), .val (.int ((p1 &&& (2147483647 : Int32)) % (10 : Int32))), .val (.ref w_NUMBER), .val (.int (0 : Int32)), .unset, .unset] [(.ref w_NUMBER)])) rfl (hb hby at_41)
                    obtain ⟨T93, X93, e93, st93⟩ := getS2 X92 hx hZ hown (host := "") (Or.inl (hw _ (List.mem_of_getElem? (i := 16) rfl))) Via.refl e92 S_NUMBER (g := (mkF m 48 #[.val (.int p1), .val (.int ((p1 &&& (2147483647 : Int32)) % (10 : Int32))), .val (.ref w_NUMBER), .val (.int (0 : Int32)), .unset, .unset] [(.ref w_NUMBER)])) rfl (hb hby at_48)
                    obtain ⟨cq95, kq95, q95a, q95b, q95c⟩ := isOf hZ e93 E_NUMBER
                    obtain ⟨_, _, ⟨T94, L94, k94, n94⟩, -, X94, ⟨Lc94, hQ94, l94, y94, z94⟩, st94⟩ := X93.virtualBack hx (y := (⟨"com/example/stratigraph/stratigraph/rql/Type", "isItem", "()Z"⟩ : MethodName)) (z := (⟨"com/example/stratigraph/stratigraph/rql/Type", "isItem", "()Z"⟩ : MethodName)) hown (mvT hZ (hw _ (List.mem_of_getElem? (i := 18) rfl))) (mvT hZ (hw _ (List.mem_of_getElem? (i := 19) rfl))) (notFace_of_selects (args := #[]) (mvT hZ (hw _ (List.mem_of_getElem? (i := 21) rfl)))) (mvT hZ (hw _ (List.mem_of_getElem? (i := 21) rfl))) (mvT hZ (hw _ (List.mem_of_getElem? (i := 20) rfl))) (by decide) (backOf (W := 0) (rm2 l Z a0 hw [] w_NUMBER w_CLASS w_PROPERTY w_RESOURCE w_VALUE w_LITERAL (0 : Int32) h0 n0 S_CLASS S_PROPERTY S_RESOURCE S_VALUE S_LITERAL (by unfold own_item; rw [if_neg ((Fld.ne O_NUMBER O_CLASS (fun q => absurd (Value.int.inj q) (by decide))) : ¬ (w_NUMBER = w_CLASS)), if_neg ((Fld.ne O_NUMBER O_PROPERTY (fun q => absurd (Value.int.inj q) (by decide))) : ¬ (w_NUMBER = w_PROPERTY)), if_neg ((Fld.ne O_NUMBER O_RESOURCE (fun q => absurd (Value.int.inj q) (by decide))) : ¬ (w_NUMBER = w_RESOURCE)), if_neg ((Fld.ne O_NUMBER O_VALUE (fun q => absurd (Value.int.inj q) (by decide))) : ¬ (w_NUMBER = w_VALUE)), if_neg ((Fld.ne O_NUMBER O_LITERAL (fun q => absurd (Value.int.inj q) (by decide))) : ¬ (w_NUMBER = w_LITERAL))])) hZ (hw _ (List.mem_of_getElem? (i := 22) rfl)) (hw _ (List.mem_of_getElem? (i := 6) rfl)) (by decide) (by decide)) q95a q95c (g := (mkF m 78 #[.val (.int p1), .val (.int ((p1 &&& (2147483647 : Int32)) % (10 : Int32))), .val (.ref w_NUMBER), .val (.int (0 : Int32)), .val (.int (1 : Int32)), .val (.int (0 : Int32))] [(.ref w_NUMBER)])) rfl (by rw [hml]; rfl) (Steps.refl _) (argsL := []) (rest := []) (lenOf (show parseMethodDescriptor "()Z" = some ⟨[], some .boolean⟩ by decide +kernel) rfl) rfl (by show 2 * 0 + _ ≤ _; exact Nat.le_of_eq rfl) (hb hby at_78) (fun _ _ => ⟨rfl, e93, (by decide : 0 + 0 ≤ _), (by decide : 0 + 0 ≤ _)⟩)
                    dsimp only [Pt.U, Pt.locs, Pt.cells, Pt.slots] at X94 l94 y94 z94 st94 hQ94
                    subst l94 y94 z94
                    obtain ⟨rfl, Nq94, e94⟩ := hQ94
                    have N94 := Fr.app N88 Nq94
                    obtain ⟨fs, hr96, hrun, hended, hW, hsame⟩ := X94.leave (v := some (.int (1 : Int32))) (fun h => by rw [Bd.returns] at h; cases h)
                    refine ⟨_, _, pre1 _ ?_, hrun, hended, _, _, rfl, ?_, ⟨_, rfl⟩, hW, hsame.mono (by decide) (by decide)⟩
                    · show Steps p.tables e below (s₁.setTop (mkF m 8 #[.val (.int p1), .val (.int ((p1 &&& (2147483647 : Int32)) % (10 : Int32))), .unset, .unset, .unset, .unset] [])) _
                      refine XS.iloadN X0.here hx rfl (hb hby at_8) rfl ?_
                      show Steps p.tables e below (s₁.setTop (mkF m 9 #[.val (.int p1), .val (.int ((p1 &&& (2147483647 : Int32)) % (10 : Int32))), .unset, .unset, .unset, .unset] [(.int ((p1 &&& (2147483647 : Int32)) % (10 : Int32)))])) _
                      refine st88 _ ?_
                      show Steps p.tables e below (T88.setTop (mkF m 12 #[.val (.int p1), .val (.int ((p1 &&& (2147483647 : Int32)) % (10 : Int32))), .unset, .unset, .unset, .unset] [(.ref w_NUMBER)])) _
                      refine XS.astoreN X88.here hx rfl (hb hby at_12) rfl rfl (l' := #[.val (.int p1), .val (.int ((p1 &&& (2147483647 : Int32)) % (10 : Int32))), .val (.ref w_NUMBER), .unset, .unset, .unset]) rfl ?_
                      show Steps p.tables e below (T88.setTop (mkF m 13 #[.val (.int p1), .val (.int ((p1 &&& (2147483647 : Int32)) % (10 : Int32))), .val (.ref w_NUMBER), .unset, .unset, .unset] [])) _
                      refine XS.aloadN X88.here hx rfl (hb hby at_13) rfl rfl ?_
                      show Steps p.tables e below (T88.setTop (mkF m 14 #[.val (.int p1), .val (.int ((p1 &&& (2147483647 : Int32)) % (10 : Int32))), .val (.ref w_NUMBER), .unset, .unset, .unset] [(.ref w_NUMBER)])) _
                      refine st89 _ ?_
                      show Steps p.tables e below (T89.setTop (mkF m 17 #[.val (.int p1), .val (.int ((p1 &&& (2147483647 : Int32)) % (10 : Int32))), .val (.ref w_NUMBER), .unset, .unset, .unset] [(.ref w_RESOURCES), (.ref w_NUMBER)])) _
                      refine Jvm.RoadKit.acmp (g := (mkF m 17 #[.val (.int p1), .val (.int ((p1 &&& (2147483647 : Int32)) % (10 : Int32))), .val (.ref w_NUMBER), .unset, .unset, .unset] [(.ref w_RESOURCES), (.ref w_NUMBER)])) X89 hx rfl rfl rfl (pc0 := 17) (pc' := 20) (same := false) rfl (hb hby at_17) rfl (decide_eq_false fun q => ((Fld.ne O_NUMBER O_RESOURCES (fun q => absurd (Value.int.inj q) (by decide))) : ¬ (w_NUMBER = w_RESOURCES)) (Value.ref.inj q)) (by decide) (by decide) ?_
                      show Steps p.tables e below (T89.setTop (mkF m 20 #[.val (.int p1), .val (.int ((p1 &&& (2147483647 : Int32)) % (10 : Int32))), .val (.ref w_NUMBER), .unset, .unset, .unset] [])) _
                      refine XS.aloadN X89.here hx rfl (hb hby at_20) rfl rfl ?_
                      show Steps p.tables e below (T89.setTop (mkF m 21 #[.val (.int p1), .val (.int ((p1 &&& (2147483647 : Int32)) % (10 : Int32))), .val (.ref w_NUMBER), .unset, .unset, .unset] [(.ref w_NUMBER)])) _
                      refine st90 _ ?_
                      show Steps p.tables e below (T90.setTop (mkF m 24 #[.val (.int p1), .val (.int ((p1 &&& (2147483647 : Int32)) % (10 : Int32))), .val (.ref w_NUMBER), .unset, .unset, .unset] [(.ref w_PAIRS), (.ref w_NUMBER)])) _
                      refine Jvm.RoadKit.acmp (g := (mkF m 24 #[.val (.int p1), .val (.int ((p1 &&& (2147483647 : Int32)) % (10 : Int32))), .val (.ref w_NUMBER), .unset, .unset, .unset] [(.ref w_PAIRS), (.ref w_NUMBER)])) X90 hx rfl rfl rfl (pc0 := 24) (pc' := 27) (same := false) rfl (hb hby at_24) rfl (decide_eq_false fun q => ((Fld.ne O_NUMBER O_PAIRS (fun q => absurd (Value.int.inj q) (by decide))) : ¬ (w_NUMBER = w_PAIRS)) (Value.ref.inj q)) (by decide) (by decide) ?_
                      show Steps p.tables e below (T90.setTop (mkF m 27 #[.val (.int p1), .val (.int ((p1 &&& (2147483647 : Int32)) % (10 : Int32))), .val (.ref w_NUMBER), .unset, .unset, .unset] [])) _
                      refine XS.aloadN X90.here hx rfl (hb hby at_27) rfl rfl ?_
                      show Steps p.tables e below (T90.setTop (mkF m 28 #[.val (.int p1), .val (.int ((p1 &&& (2147483647 : Int32)) % (10 : Int32))), .val (.ref w_NUMBER), .unset, .unset, .unset] [(.ref w_NUMBER)])) _
                      refine st91 _ ?_
                      show Steps p.tables e below (T91.setTop (mkF m 31 #[.val (.int p1), .val (.int ((p1 &&& (2147483647 : Int32)) % (10 : Int32))), .val (.ref w_NUMBER), .unset, .unset, .unset] [(.ref w_ROWS), (.ref w_NUMBER)])) _
                      refine Jvm.RoadKit.acmp (g := (mkF m 31 #[.val (.int p1), .val (.int ((p1 &&& (2147483647 : Int32)) % (10 : Int32))), .val (.ref w_NUMBER), .unset, .unset, .unset] [(.ref w_ROWS), (.ref w_NUMBER)])) X91 hx rfl rfl rfl (pc0 := 31) (pc' := 38) (same := false) rfl (hb hby at_31) rfl (decide_eq_false fun q => ((Fld.ne O_NUMBER O_ROWS (fun q => absurd (Value.int.inj q) (by decide))) : ¬ (w_NUMBER = w_ROWS)) (Value.ref.inj q)) (by decide) (by decide) ?_
                      show Steps p.tables e below (T91.setTop (mkF m 38 #[.val (.int p1), .val (.int ((p1 &&& (2147483647 : Int32)) % (10 : Int32))), .val (.ref w_NUMBER), .unset, .unset, .unset] [])) _
                      refine XT.iconstV X91.here hx rfl (0 : Int32) (hb hby at_38) (by decide) ?_
                      show Steps p.tables e below (T91.setTop (mkF m 39 #[.val (.int p1), .val (.int ((p1 &&& (2147483647 : Int32)) % (10 : Int32))), .val (.ref w_NUMBER), .unset, .unset, .unset] [(.int (0 : Int32))])) _
                      refine XS.istoreN X91.here hx rfl (hb hby at_39) rfl (l' := #[.val (.int p1), .val (.int ((p1 &&& (2147483647 : Int32)) % (10 : Int32))), .val (.ref w_NUMBER), .val (.int (0 : Int32)), .unset, .unset]) rfl ?_
                      show Steps p.tables e below (T91.setTop (mkF m 40 #[.val (.int p1), .val (.int ((p1 &&& (2147483647 : Int32)) % (10 : Int32))), .val (.ref w_NUMBER), .val (.int (0 : Int32)), .unset, .unset] [])) _
                      refine XS.aloadN X91.here hx rfl (hb hby at_40) rfl rfl ?_
                      show Steps p.tables e below (T91.setTop (mkF m 41 #[.val (.int p1), .val (.int ((p1 &&& (2147483647 : Int32)) % (10 : Int32))), .val (.ref w_NUMBER), .val (.int (0 : Int32)), .unset, .unset] [(.ref w_NUMBER)])) _
                      refine st92 _ ?_
                      show Steps p.tables e below (T92.setTop (mkF m 44 #[.val (.int p1), .val (.int ((p1 &&& (2147483647 : Int32)) % (10 : Int32))), .val (.ref w_NUMBER), .val (.int (0 : Int32)), .unset, .unset] [(.ref w_BOOLEAN), (.ref w_NUMBER)])) _
                      refine Jvm.RoadKit.acmp (g := (mkF m 44 #[.val (.int p1), .val (.int ((p1 &&& (2147483647 : Int32)) % (10 : Int32))), .val (.ref w_NUMBER), .val (.int (0 : Int32)), .unset, .unset] [(.ref w_BOOLEAN), (.ref w_NUMBER)])) X92 hx rfl rfl rfl (pc0 := 44) (pc' := 47) (same := false) rfl (hb hby at_44) rfl (decide_eq_false fun q => ((Fld.ne O_NUMBER O_BOOLEAN (fun q => absurd (Value.int.inj q) (by decide))) : ¬ (w_NUMBER = w_BOOLEAN)) (Value.ref.inj q)) (by decide) (by decide) ?_
                      show Steps p.tables e below (T92.setTop (mkF m 47 #[.val (.int p1), .val (.int ((p1 &&& (2147483647 : Int32)) % (10 : Int32))), .val (.ref w_NUMBER), .val (.int (0 : Int32)), .unset, .unset] [])) _
                      refine XS.aloadN X92.here hx rfl (hb hby at_47) rfl rfl ?_
                      show Steps p.tables e below (T92.setTop (mkF m 48 #[.val (.int p1), .val (.int ((p1 &&& (2147483647 : Int32)) % (10 : Int32))), .val (.ref w_NUMBER), .val (.int (0 : Int32)), .unset, .unset] [(.ref w_NUMBER)])) _
                      refine st93 _ ?_
                      show Steps p.tables e below (T93.setTop (mkF m 51 #[.val (.int p1), .val (.int ((p1 &&& (2147483647 : Int32)) % (10 : Int32))), .val (.ref w_NUMBER), .val (.int (0 : Int32)), .unset, .unset] [(.ref w_NUMBER), (.ref w_NUMBER)])) _
                      refine Jvm.RoadKit.acmp (g := (mkF m 51 #[.val (.int p1), .val (.int ((p1 &&& (2147483647 : Int32)) % (10 : Int32))), .val (.ref w_NUMBER), .val (.int (0 : Int32)), .unset, .unset] [(.ref w_NUMBER), (.ref w_NUMBER)])) X93 hx rfl rfl rfl (pc0 := 51) (pc' := 54) (same := true) rfl (hb hby at_51) rfl (decide_eq_true (congrArg Value.ref (rfl : w_NUMBER = w_NUMBER))) (by decide) (by decide) ?_
                      show Steps p.tables e below (T93.setTop (mkF m 54 #[.val (.int p1), .val (.int ((p1 &&& (2147483647 : Int32)) % (10 : Int32))), .val (.ref w_NUMBER), .val (.int (0 : Int32)), .unset, .unset] [])) _
                      refine XT.iconstV X93.here hx rfl (1 : Int32) (hb hby at_54) (by decide) ?_
                      show Steps p.tables e below (T93.setTop (mkF m 55 #[.val (.int p1), .val (.int ((p1 &&& (2147483647 : Int32)) % (10 : Int32))), .val (.ref w_NUMBER), .val (.int (0 : Int32)), .unset, .unset] [(.int (1 : Int32))])) _
                      refine XS.goto X93.here hx rfl (pc0 := 55) (pc' := 59) rfl (hb hby at_55) (by decide) (by decide) ?_
                      show Steps p.tables e below (T93.setTop (mkF m 59 #[.val (.int p1), .val (.int ((p1 &&& (2147483647 : Int32)) % (10 : Int32))), .val (.ref w_NUMBER), .val (.int (0 : Int32)), .unset, .unset] [(.int (1 : Int32))])) _
                      refine XS.istore X93.here hx rfl (hb hby at_59) rfl (l' := #[.val (.int p1), .val (.int ((p1 &&& (2147483647 : Int32)) % (10 : Int32))), .val (.ref w_NUMBER), .val (.int (0 : Int32)), .val (.int (1 : Int32)), .unset]) rfl ?_
                      show Steps p.tables e below (T93.setTop (mkF m 61 #[.val (.int p1), .val (.int ((p1 &&& (2147483647 : Int32)) % (10 : Int32))), .val (.ref w_NUMBER), .val (.int (0 : Int32)), .val (.int (1 : Int32)), .unset] [])) _
                      refine XS.iloadN X93.here hx rfl (hb hby at_61) rfl ?_
                      show Steps p.tables e below (T93.setTop (mkF m 62 #[.val (.int p1), .val (.int ((p1 &&& (2147483647 : Int32)) % (10 : Int32))), .val (.ref w_NUMBER), .val (.int (0 : Int32)), .val (.int (1 : Int32)), .unset] [(.int (0 : Int32))])) _
                      refine XS.ifNo X93.here hx rfl (hb hby at_62) rfl ((if0 _ _).trans (teq (rfl : (0 : Int32) = (0 : Int32))).2) ?_
                      show Steps p.tables e below (T93.setTop (mkF m 65 #[.val (.int p1), .val (.int ((p1 &&& (2147483647 : Int32)) % (10 : Int32))), .val (.ref w_NUMBER), .val (.int (0 : Int32)), .val (.int (1 : Int32)), .unset] [])) _
                      refine XS.iload X93.here hx rfl (hb hby at_65) rfl ?_
                      show Steps p.tables e below (T93.setTop (mkF m 67 #[.val (.int p1), .val (.int ((p1 &&& (2147483647 : Int32)) % (10 : Int32))), .val (.ref w_NUMBER), .val (.int (0 : Int32)), .val (.int (1 : Int32)), .unset] [(.int (1 : Int32))])) _
                      refine XS.ifYes X93.here hx rfl (pc0 := 67) (pc' := 74) rfl (hb hby at_67) rfl ((if0 _ _).trans (feq ((by decide) : ¬ ((1 : Int32) = (0 : Int32)))).2) (by decide) (by decide) ?_
                      show Steps p.tables e below (T93.setTop (mkF m 74 #[.val (.int p1), .val (.int ((p1 &&& (2147483647 : Int32)) % (10 : Int32))), .val (.ref w_NUMBER), .val (.int (0 : Int32)), .val (.int (1 : Int32)), .unset] [])) _
                      refine XT.iconstV X93.here hx rfl (0 : Int32) (hb hby at_74) (by decide) ?_
                      show Steps p.tables e below (T93.setTop (mkF m 75 #[.val (.int p1), .val (.int ((p1 &&& (2147483647 : Int32)) % (10 : Int32))), .val (.ref w_NUMBER), .val (.int (0 : Int32)), .val (.int (1 : Int32)), .unset] [(.int (0 : Int32))])) _
                      refine XS.istore X93.here hx rfl (hb hby at_75) rfl (l' := #[.val (.int p1), .val (.int ((p1 &&& (2147483647 : Int32)) % (10 : Int32))), .val (.ref w_NUMBER), .val (.int (0 : Int32)), .val (.int (1 : Int32)), .val (.int (0 : Int32))]) rfl ?_
                      show Steps p.tables e below (T93.setTop (mkF m 77 #[.val (.int p1), .val (.int ((p1 &&& (2147483647 : Int32)) % (10 : Int32))), .val (.ref w_NUMBER), .val (.int (0 : Int32)), .val (.int (1 : Int32)), .val (.int (0 : Int32))] [])) _
                      refine XS.aloadN X93.here hx rfl (hb hby at_77) rfl rfl ?_
                      show Steps p.tables e below (T93.setTop (mkF m 78 #[.val (.int p1), .val (.int ((p1 &&& (2147483647 : Int32)) % (10 : Int32))), .val (.ref w_NUMBER), .val (.int (0 : Int32)), .val (.int (1 : Int32)), .val (.int (0 : Int32))] [(.ref w_NUMBER)])) _
                      refine st94.trans ?_
                      show Steps p.tables e below (T94.setTop (mkF m 81 #[.val (.int p1), .val (.int ((p1 &&& (2147483647 : Int32)) % (10 : Int32))), .val (.ref w_NUMBER), .val (.int (0 : Int32)), .val (.int (1 : Int32)), .val (.int (0 : Int32))] [(.int (0 : Int32))])) _
                      refine XS.iload X94.here hx rfl (hb hby at_81) rfl ?_
                      show Steps p.tables e below (T94.setTop (mkF m 83 #[.val (.int p1), .val (.int ((p1 &&& (2147483647 : Int32)) % (10 : Int32))), .val (.ref w_NUMBER), .val (.int (0 : Int32)), .val (.int (1 : Int32)), .val (.int (0 : Int32))] [(.int (0 : Int32)), (.int (0 : Int32))])) _
                      refine XS.icmpNo X94.here hx rfl (hb hby at_83) rfl (teq (rfl : (0 : Int32) = (0 : Int32))).2 ?_
                      show Steps p.tables e below (T94.setTop (mkF m 86 #[.val (.int p1), .val (.int ((p1 &&& (2147483647 : Int32)) % (10 : Int32))), .val (.ref w_NUMBER), .val (.int (0 : Int32)), .val (.int (1 : Int32)), .val (.int (0 : Int32))] [])) _
                      refine XT.iconstV X94.here hx rfl (1 : Int32) (hb hby at_86) (by decide) ?_
                      show Steps p.tables e below (T94.setTop (mkF m 87 #[.val (.int p1), .val (.int ((p1 &&& (2147483647 : Int32)) % (10 : Int32))), .val (.ref w_NUMBER), .val (.int (0 : Int32)), .val (.int (1 : Int32)), .val (.int (0 : Int32))] [(.int (1 : Int32))])) _
                      refine XS.goto X94.here hx rfl (pc0 := 87) (pc' := 91) rfl (hb hby at_87) (by decide) (by decide) ?_
                      show Steps p.tables e below (T94.setTop (mkF m 91 #[.val (.int p1), .val (.int ((p1 &&& (2147483647 : Int32)) % (10 : Int32))), .val (.ref w_NUMBER), .val (.int (0 : Int32)), .val (.int (1 : Int32)), .val (.int (0 : Int32))] [(.int (1 : Int32))])) _
                      exact retN X94 hx (t := .boolean) Bd.returns (by simp) (hb hby at_91) hr96
                    · show Q0 Z _ _ _ _ _ _ _ _ _ _ _ h0 n0 _ T94.heap _
                      rw [e94]
                      exact ⟨rfl, N94⟩
set_option maxRecDepth 65536 in
set_option maxHeartbeats 40000000 in
theorem comes_1 {Post : Tables → Env → Array Value → State → Outcome → State → Prop} (hpost : ∀ tb e args s v u, (limb_1_1.after args s (.returned v) u = true ∧ limb_1_2.after args s (.returned v) u = true ∧ True) → FrameEnd s (.returned v) u (Jvm.fieldLocs frame_1_writes args s ++ Jvm.arrayLocs frame_1_arrays args s ++ Jvm.staticLocs frame_1_statics s) 0 0 → Post tb e args s (.returned v) u) :
    ArmFor flags0 classFile x code maxLocals ret World_1 tables_1 room_1 Calls_1 rest_1 Pre_1 Post := by
  intro l hfl _ _ p e ha hc hk s m args below hf hA hF happ hP
  obtain ⟨hcalls, hrest, hpre⟩ := hP
  obtain ⟨-, -, -, hnamed, -, -, -, hat⟩ := (Spec.applies_iff hf).mp happ
  obtain ⟨hg, hn⟩ := and_e (Cond.before_iff.mp (show (Jvm.Cond.and given_1 narrow_1).before args s = true from hpre))
  obtain ⟨gc, t0⟩ := and_e hg
  have g0 := t0
  obtain ⟨w0, rfl⟩ : ∃ w0 : Value, args = #[w0] := by
    have hs : args.size = 1 := by simpa [Cond.value, given_1] using gc
    obtain ⟨L⟩ := args
    match L, hs with
    | [w0], _ => exact ⟨w0, rfl⟩
  have hw := fun d (hd : d ∈ tables_1) => atoms_spec (ws := Jvm.Cond.code x code maxLocals ret :: tables_1) hat d (List.mem_cons_of_mem _ hd)
  have hfit : Fit s := fun {y c} hc i hi => by
    obtain ⟨ha, rfl⟩ := Array.getElem?_eq_some_iff.mp hc
    have q := List.all_eq_true.mp ((Array.all_eq_true_iff_forall_mem.mp hF) _ (Array.getElem_mem ha)) i (List.mem_range.mpr hi)
    simpa [Array.getElem?_eq_getElem hi] using q
  obtain ⟨i0, ei0⟩ := is_v g0
  obtain rfl : w0 = (.int i0) := Option.some.inj ei0
  obtain ⟨c0, r0⟩ := and_e hn
  obtain ⟨c1, r1⟩ := and_e r0
  obtain ⟨c2, r2⟩ := and_e r1
  obtain ⟨c3, r3⟩ := and_e r2
  obtain ⟨c4, r4⟩ := and_e r3
  obtain ⟨c5, r5⟩ := and_e r4
  obtain ⟨c6, r6⟩ := and_e r5
  obtain ⟨c7, r7⟩ := and_e r6
  obtain ⟨c8, r8⟩ := and_e r7
  obtain ⟨c9, r9⟩ := and_e r8
  obtain ⟨c10, r10⟩ := and_e r9
  obtain ⟨c11, r11⟩ := and_e r10
  obtain ⟨c12, r12⟩ := and_e r11
  obtain ⟨c13, r13⟩ := and_e r12
  obtain ⟨c14, r14⟩ := and_e r13
  obtain ⟨c15, r15⟩ := and_e r14
  obtain ⟨c16, r16⟩ := and_e r15
  obtain ⟨c17, r17⟩ := and_e r16
  obtain ⟨c18, r18⟩ := and_e r17
  obtain ⟨w_CLASS, ev_CLASS⟩ := exa_v c0
  have E_CLASS := Exa.start ev_CLASS c0
  have S_CLASS := Sta.start ev_CLASS (Or.inr ⟨(hw _ (List.mem_of_getElem? (i := 6) rfl)), (hw _ (List.mem_of_getElem? (i := 7) rfl))⟩)
  obtain ⟨w_RESOURCES, ev_RESOURCES⟩ := exa_v c1
  have E_RESOURCES := Exa.start ev_RESOURCES c1
  have S_RESOURCES := Sta.start ev_RESOURCES (Or.inr ⟨(hw _ (List.mem_of_getElem? (i := 6) rfl)), (hw _ (List.mem_of_getElem? (i := 9) rfl))⟩)
  have O_CLASS := own_ordinal ev_CLASS c2
  have O_RESOURCES := own_ordinal ev_RESOURCES c3
  obtain ⟨w_PAIRS, ev_PAIRS⟩ := exa_v c4
  have E_PAIRS := Exa.start ev_PAIRS c4
  have S_PAIRS := Sta.start ev_PAIRS (Or.inr ⟨(hw _ (List.mem_of_getElem? (i := 6) rfl)), (hw _ (List.mem_of_getElem? (i := 11) rfl))⟩)
  have O_PAIRS := own_ordinal ev_PAIRS c5
  obtain ⟨w_ROWS, ev_ROWS⟩ := exa_v c6
  have E_ROWS := Exa.start ev_ROWS c6
  have S_ROWS := Sta.start ev_ROWS (Or.inr ⟨(hw _ (List.mem_of_getElem? (i := 6) rfl)), (hw _ (List.mem_of_getElem? (i := 13) rfl))⟩)
  have O_ROWS := own_ordinal ev_ROWS c7
  obtain ⟨w_BOOLEAN, ev_BOOLEAN⟩ := exa_v c8
  have E_BOOLEAN := Exa.start ev_BOOLEAN c8
  have S_BOOLEAN := Sta.start ev_BOOLEAN (Or.inr ⟨(hw _ (List.mem_of_getElem? (i := 6) rfl)), (hw _ (List.mem_of_getElem? (i := 15) rfl))⟩)
  have O_BOOLEAN := own_ordinal ev_BOOLEAN c9
  obtain ⟨w_NUMBER, ev_NUMBER⟩ := exa_v c10
  have E_NUMBER := Exa.start ev_NUMBER c10
  have S_NUMBER := Sta.start ev_NUMBER (Or.inr ⟨(hw _ (List.mem_of_getElem? (i := 6) rfl)), (hw _ (List.mem_of_getElem? (i := 17) rfl))⟩)
  have O_NUMBER := own_ordinal ev_NUMBER c11
  obtain ⟨w_VALUE, ev_VALUE⟩ := exa_v c12
  have E_VALUE := Exa.start ev_VALUE c12
  have S_VALUE := Sta.start ev_VALUE (Or.inr ⟨(hw _ (List.mem_of_getElem? (i := 6) rfl)), (hw _ (List.mem_of_getElem? (i := 25) rfl))⟩)
  have O_VALUE := own_ordinal ev_VALUE c13
  obtain ⟨w_PROPERTY, ev_PROPERTY⟩ := exa_v c14
  have E_PROPERTY := Exa.start ev_PROPERTY c14
  have S_PROPERTY := Sta.start ev_PROPERTY (Or.inr ⟨(hw _ (List.mem_of_getElem? (i := 6) rfl)), (hw _ (List.mem_of_getElem? (i := 27) rfl))⟩)
  have O_PROPERTY := own_ordinal ev_PROPERTY c15
  obtain ⟨w_RESOURCE, ev_RESOURCE⟩ := exa_v c16
  have E_RESOURCE := Exa.start ev_RESOURCE c16
  have S_RESOURCE := Sta.start ev_RESOURCE (Or.inr ⟨(hw _ (List.mem_of_getElem? (i := 6) rfl)), (hw _ (List.mem_of_getElem? (i := 29) rfl))⟩)
  have O_RESOURCE := own_ordinal ev_RESOURCE c17
  obtain ⟨w_LITERAL, ev_LITERAL⟩ := exa_v c18
  have E_LITERAL := Exa.start ev_LITERAL c18
  have S_LITERAL := Sta.start ev_LITERAL (Or.inr ⟨(hw _ (List.mem_of_getElem? (i := 6) rfl)), (hw _ (List.mem_of_getElem? (i := 33) rfl))⟩)
  have O_LITERAL := own_ordinal ev_LITERAL r18
  obtain ⟨n, o, h1, h2, h3, _, L, rfl, ⟨rfl, N⟩, hq⟩ := rm0 l s _ hw tables_1 i0 w_CLASS w_RESOURCES w_PAIRS w_ROWS w_BOOLEAN w_NUMBER w_VALUE w_PROPERTY w_RESOURCE w_LITERAL s.heap s.heap.size S_CLASS S_RESOURCES S_PAIRS S_ROWS S_BOOLEAN S_NUMBER S_VALUE S_PROPERTY S_RESOURCE S_LITERAL E_CLASS E_RESOURCES E_PAIRS E_ROWS E_BOOLEAN E_NUMBER E_VALUE E_PROPERTY E_RESOURCE E_LITERAL O_CLASS O_RESOURCES O_PAIRS O_ROWS O_BOOLEAN O_NUMBER O_VALUE O_PROPERTY O_RESOURCE O_LITERAL p e ha hc hk s m _ below hf ((Spec.applies_iff_loose hf).mp happ).1 ⟨rfl, State.Warmed39.refl s, rfl⟩ trivial
  refine ⟨n, _, h1, h2, h3, hpost _ _ _ _ _ _ ⟨Cond.after_iff.mpr rfl, Cond.after_iff.mpr (eq_i res_at (Term.int_eval (1)) rfl), trivial⟩ ⟨hq.1, hq.2.1, (hq.2.2.sift fun y hy => Or.inr (N y hy)).mono (by decide) (by decide)⟩⟩
theorem main_1_1 : Claimed_1_1 := comes_1 fun _ _ _ _ _ _ h hF => ⟨h.1, hF⟩
theorem main_1_2 : Claimed_1_2 := comes_1 fun _ _ _ _ _ _ h hF => ⟨h.2.1, hF⟩
end Jvm.Pilot.@@N@@
namespace Jvm.Pilot.@@N@@
open Jvm Jvm.ClassFile Sem Op Lib Jvm.Free Jvm.Stand Jvm.Pilot.@@N@@.Jvm.D
/-! MADE BY PROGRAM (witnessworld.py) out of the Statement's table words and the real class files: 12 classes; the members and pool entries that the words name. The judged class is class 1, her method 1. -/
namespace start1
open Jvm.ClassFile
def u (s : String) : CpInfo := .utf8 (stringToUtf16 s)
/-- a pool by its gaps: so many unusable entries, then the entry; so many at the end -/
def gap : Nat → List CpInfo → List CpInfo
  | 0, r => r
  | n + 1, r => .unusable :: gap n r
def poolList (es : List (Nat × CpInfo)) (last : Nat) : List CpInfo := es.foldr (fun e r => gap e.1 (e.2 :: r)) (gap last [])
def pool (es : List (Nat × CpInfo)) (last : Nat) : Array CpInfo := ⟨poolList es last⟩
def fileOf (pool : Array CpInfo) (this : Nat) (attrs : Array Attribute := #[]) (ms : Array MethodInfo := #[]) (fl : Nat := 33) (sup : Nat := 0) (ifs : Array Nat := #[]) (fds : Array FieldInfo := #[]) : ClassFile where
  minorVersion := 0
  majorVersion := 65
  constantPool := pool
  accessFlags := fl
  thisClass := this
  superClass := sup
  interfaces := ifs
  fields := fds
  methods := ms
  attributes := attrs
def plain (name : String) (sup : Option ClassId) : Class where
  name := name
  kind := .ordinary
  loader := none
  accessFlags := 33
  super := sup
  interfaces := #[]
  cf := none
  fields := #[]
  methods := #[]
  instanceTypes := #[]
  staticTypes := #[]
  resolved := #[]
  callSites := []
  init := .initialized
  statics := none
  mirror := none

def pool0 : Array CpInfo := pool [(5, u "<init>"), (0, u "()V"), (1, .class_ 10), (1, u "java/lang/Object")] 113

def k0m0 : Method := { name := "<init>", desc := "()V", sig := { parameters := [], returnType := none }, accessFlags := 1, code := none }
/-- java/lang/Object -/
def k0 : Class := { plain "java/lang/Object" none with
  accessFlags := 33
  interfaces := #[]
  cf := some (fileOf pool0 8 #[] #[{ accessFlags := 1, nameIndex := 5, descriptorIndex := 6, attributes := #[] }] 33 0 #[] #[])
  fields := #[]
  methods := #[k0m0]
  instanceTypes := #[]
  staticTypes := #[]
  resolved := Array.replicate 124 none
  statics := none }

def pool1 : Array CpInfo := pool [(2, .class_ 4), (1, u "java/lang/Object"), (0, u "<init>"), (0, u "()V"), (0, .integer 2147483647), (0, .methodref 9 10), (0, .class_ 11), (0, .nameAndType 12 13), (0, u "com/example/stratigraph/stratigraph/rql/TypeIsItemPinLaw"), (0, u "pick"), (0, u "(I)Lcom/example/stratigraph/stratigraph/rql/Type;"), (0, .fieldref 15 16), (0, .class_ 17), (0, .nameAndType 18 19), (0, u "com/example/stratigraph/stratigraph/rql/Type"), (0, u "RESOURCES"), (0, u "Lcom/example/stratigraph/stratigraph/rql/Type;"), (0, .fieldref 15 21), (0, .nameAndType 22 19), (0, u "PAIRS"), (0, .fieldref 15 24), (0, .nameAndType 25 19), (0, u "ROWS"), (0, .fieldref 15 27), (0, .nameAndType 28 19), (0, u "BOOLEAN"), (0, .fieldref 15 30), (0, .nameAndType 31 19), (0, u "NUMBER"), (0, .methodref 15 33), (0, .nameAndType 34 35), (0, u "isItem"), (0, u "()Z"), (0, .fieldref 15 37), (0, .nameAndType 38 19), (0, u "CLASS"), (0, .fieldref 15 40), (0, .nameAndType 41 19), (0, u "PROPERTY"), (0, .fieldref 15 43), (0, .nameAndType 44 19), (0, u "RESOURCE"), (0, .fieldref 15 46), (0, .nameAndType 47 19), (0, u "VALUE"), (0, .fieldref 15 49), (0, .nameAndType 50 19), (0, u "LITERAL"), (2, u "law"), (0, u "(I)Z")] 3

def k1m0 : Method := { name := "<init>", desc := "()V", sig := { parameters := [], returnType := none }, accessFlags := 1, code := none }
def k1c1 : Code := { maxStack := 2, maxLocals := 6, code := code, exceptionTable := #[], attributes := #[] }
def k1m1 : Method := { name := "law", desc := "(I)Z", sig := { parameters := [.int], returnType := some .boolean }, accessFlags := 9, code := some k1c1 }
def k1c2 : Code := { maxStack := 2, maxLocals := 1, code := method_3_code, exceptionTable := #[], attributes := #[] }
def k1m2 : Method := { name := "pick", desc := "(I)Lcom/example/stratigraph/stratigraph/rql/Type;", sig := { parameters := [.int], returnType := some (.object "com/example/stratigraph/stratigraph/rql/Type") }, accessFlags := 10, code := some k1c2 }
/-- com/example/stratigraph/stratigraph/rql/TypeIsItemPinLaw -/
def k1 : Class := { plain "com/example/stratigraph/stratigraph/rql/TypeIsItemPinLaw" (some 0) with
  accessFlags := 49
  interfaces := #[]
  cf := some (fileOf pool1 9 #[] #[{ accessFlags := 1, nameIndex := 5, descriptorIndex := 6, attributes := #[] }, { accessFlags := 9, nameIndex := 53, descriptorIndex := 54, attributes := #[] }, { accessFlags := 10, nameIndex := 12, descriptorIndex := 13, attributes := #[] }] 49 2 #[] #[])
  fields := #[]
  methods := #[k1m0, k1m1, k1m2]
  instanceTypes := #[]
  staticTypes := #[]
  resolved := Array.replicate 58 none
  statics := none }

def pool2 : Array CpInfo := pool [(1, .class_ 2), (0, u "java/lang/constant/Constable"), (0, .class_ 4), (0, u "java/lang/Object")] 6

/-- java/lang/constant/Constable -/
def k2 : Class := { plain "java/lang/constant/Constable" (some 0) with
  accessFlags := 1537
  interfaces := #[]
  cf := some (fileOf pool2 1 #[] #[] 1537 3 #[] #[])
  fields := #[]
  methods := #[]
  instanceTypes := #[]
  staticTypes := #[]
  resolved := Array.replicate 11 none
  statics := none }

def pool3 : Array CpInfo := pool [(1, .class_ 2), (0, u "java/lang/Comparable"), (0, .class_ 4), (0, u "java/lang/Object")] 7

/-- java/lang/Comparable -/
def k3 : Class := { plain "java/lang/Comparable" (some 0) with
  accessFlags := 1537
  interfaces := #[]
  cf := some (fileOf pool3 1 #[] #[] 1537 3 #[] #[])
  fields := #[]
  methods := #[]
  instanceTypes := #[]
  staticTypes := #[]
  resolved := Array.replicate 12 none
  statics := none }

def pool4 : Array CpInfo := pool [(1, .class_ 2), (0, u "java/io/Serializable"), (0, .class_ 4), (0, u "java/lang/Object")] 2

/-- java/io/Serializable -/
def k4 : Class := { plain "java/io/Serializable" (some 0) with
  accessFlags := 1537
  interfaces := #[]
  cf := some (fileOf pool4 1 #[] #[] 1537 3 #[] #[])
  fields := #[]
  methods := #[]
  instanceTypes := #[]
  staticTypes := #[]
  resolved := Array.replicate 7 none
  statics := none }

def pool5 : Array CpInfo := pool [(2, .class_ 4), (1, u "java/lang/Enum"), (0, u "name"), (0, u "Ljava/lang/String;"), (2, u "ordinal"), (0, u "I"), (1, .class_ 14), (1, u "java/lang/Object"), (4, u "hash"), (86, .class_ 108), (1, u "java/lang/Enum$EnumDesc"), (2, .class_ 112), (0, u "java/lang/constant/Constable"), (0, .class_ 114), (0, u "java/lang/Comparable"), (0, .class_ 116), (0, u "java/io/Serializable")] 87

/-- java/lang/Enum -/
def k5 : Class := { plain "java/lang/Enum" (some 0) with
  accessFlags := 1057
  interfaces := #[2, 3, 4]
  cf := some (fileOf pool5 2 #[.nestMembers #[106]] #[] 1057 12 #[111, 113, 115] #[{ accessFlags := 18, nameIndex := 5, descriptorIndex := 6, attributes := #[] }, { accessFlags := 18, nameIndex := 9, descriptorIndex := 10, attributes := #[] }, { accessFlags := 2, nameIndex := 19, descriptorIndex := 10, attributes := #[] }])
  fields := #[{ name := "name", type := (.object "java/lang/String"), accessFlags := 18, slot := 0, constantValue := 0 }, { name := "ordinal", type := .int, accessFlags := 18, slot := 1, constantValue := 0 }, { name := "hash", type := .int, accessFlags := 2, slot := 2, constantValue := 0 }]
  methods := #[]
  instanceTypes := #[(.object "java/lang/String"), .int, .int]
  staticTypes := #[]
  resolved := Array.replicate 204 none
  statics := none }

def pool6 : Array CpInfo := pool [(1, .class_ 2), (0, u "com/example/stratigraph/stratigraph/rql/Type"), (0, .fieldref 1 4), (0, .nameAndType 5 6), (0, u "CLASS"), (0, u "Lcom/example/stratigraph/stratigraph/rql/Type;"), (0, .fieldref 1 8), (0, .nameAndType 9 6), (0, u "PROPERTY"), (0, .fieldref 1 11), (0, .nameAndType 12 6), (0, u "RESOURCE"), (0, .fieldref 1 14), (0, .nameAndType 15 6), (0, u "VALUE"), (0, .fieldref 1 17), (0, .nameAndType 18 6), (0, u "LITERAL"), (2, u "RESOURCES"), (2, u "PAIRS"), (2, u "ROWS"), (2, u "BOOLEAN"), (2, u "NUMBER"), (2, u "$VALUES"), (0, u "[Lcom/example/stratigraph/stratigraph/rql/Type;"), (6, .class_ 46), (1, u "java/lang/Enum"), (8, u "noun"), (0, u "Ljava/lang/String;"), (50, u "isItem"), (0, u "()Z")] 21

def k6c0 : Code := { maxStack := 2, maxLocals := 1, code := prog_78_method_6_code, exceptionTable := #[], attributes := #[] }
def k6m0 : Method := { name := "isItem", desc := "()Z", sig := { parameters := [], returnType := some .boolean }, accessFlags := 0, code := some k6c0 }
/-- com/example/stratigraph/stratigraph/rql/Type -/
def k6 : Class := { plain "com/example/stratigraph/stratigraph/rql/Type" (some 5) with
  accessFlags := 16432
  interfaces := #[]
  cf := some (fileOf pool6 1 #[] #[{ accessFlags := 0, nameIndex := 107, descriptorIndex := 108, attributes := #[] }] 16432 44 #[] #[{ accessFlags := 16409, nameIndex := 5, descriptorIndex := 6, attributes := #[] }, { accessFlags := 16409, nameIndex := 9, descriptorIndex := 6, attributes := #[] }, { accessFlags := 16409, nameIndex := 12, descriptorIndex := 6, attributes := #[] }, { accessFlags := 16409, nameIndex := 15, descriptorIndex := 6, attributes := #[] }, { accessFlags := 16409, nameIndex := 18, descriptorIndex := 6, attributes := #[] }, { accessFlags := 16409, nameIndex := 21, descriptorIndex := 6, attributes := #[] }, { accessFlags := 16409, nameIndex := 24, descriptorIndex := 6, attributes := #[] }, { accessFlags := 16409, nameIndex := 27, descriptorIndex := 6, attributes := #[] }, { accessFlags := 16409, nameIndex := 30, descriptorIndex := 6, attributes := #[] }, { accessFlags := 16409, nameIndex := 33, descriptorIndex := 6, attributes := #[] }, { accessFlags := 18, nameIndex := 55, descriptorIndex := 56, attributes := #[] }, { accessFlags := 4122, nameIndex := 36, descriptorIndex := 37, attributes := #[] }])
  fields := #[{ name := "CLASS", type := (.object "com/example/stratigraph/stratigraph/rql/Type"), accessFlags := 16409, slot := 0, constantValue := 0 }, { name := "PROPERTY", type := (.object "com/example/stratigraph/stratigraph/rql/Type"), accessFlags := 16409, slot := 1, constantValue := 0 }, { name := "RESOURCE", type := (.object "com/example/stratigraph/stratigraph/rql/Type"), accessFlags := 16409, slot := 2, constantValue := 0 }, { name := "VALUE", type := (.object "com/example/stratigraph/stratigraph/rql/Type"), accessFlags := 16409, slot := 3, constantValue := 0 }, { name := "LITERAL", type := (.object "com/example/stratigraph/stratigraph/rql/Type"), accessFlags := 16409, slot := 4, constantValue := 0 }, { name := "RESOURCES", type := (.object "com/example/stratigraph/stratigraph/rql/Type"), accessFlags := 16409, slot := 5, constantValue := 0 }, { name := "PAIRS", type := (.object "com/example/stratigraph/stratigraph/rql/Type"), accessFlags := 16409, slot := 6, constantValue := 0 }, { name := "ROWS", type := (.object "com/example/stratigraph/stratigraph/rql/Type"), accessFlags := 16409, slot := 7, constantValue := 0 }, { name := "BOOLEAN", type := (.object "com/example/stratigraph/stratigraph/rql/Type"), accessFlags := 16409, slot := 8, constantValue := 0 }, { name := "NUMBER", type := (.object "com/example/stratigraph/stratigraph/rql/Type"), accessFlags := 16409, slot := 9, constantValue := 0 }, { name := "noun", type := (.object "java/lang/String"), accessFlags := 18, slot := 3, constantValue := 0 }, { name := "$VALUES", type := (.array (.object "com/example/stratigraph/stratigraph/rql/Type")), accessFlags := 4122, slot := 10, constantValue := 0 }]
  methods := #[k6m0]
  instanceTypes := #[(.object "java/lang/String"), .int, .int, (.object "java/lang/String")]
  staticTypes := #[(.object "com/example/stratigraph/stratigraph/rql/Type"), (.object "com/example/stratigraph/stratigraph/rql/Type"), (.object "com/example/stratigraph/stratigraph/rql/Type"), (.object "com/example/stratigraph/stratigraph/rql/Type"), (.object "com/example/stratigraph/stratigraph/rql/Type"), (.object "com/example/stratigraph/stratigraph/rql/Type"), (.object "com/example/stratigraph/stratigraph/rql/Type"), (.object "com/example/stratigraph/stratigraph/rql/Type"), (.object "com/example/stratigraph/stratigraph/rql/Type"), (.object "com/example/stratigraph/stratigraph/rql/Type"), (.array (.object "com/example/stratigraph/stratigraph/rql/Type"))]
  resolved := Array.replicate 130 none
  statics := some 0 }

def pool7 : Array CpInfo := pool [(1, u "java/lang/Cloneable"), (0, .class_ 1), (0, u "java/lang/Object"), (0, .class_ 3)] 3

/-- java/lang/Cloneable -/
def k7 : Class := { plain "java/lang/Cloneable" (some 0) with
  accessFlags := 1537
  interfaces := #[]
  cf := some (fileOf pool7 2 #[] #[] 1537 4 #[] #[])
  fields := #[]
  methods := #[]
  instanceTypes := #[]
  staticTypes := #[]
  resolved := Array.replicate 8 none
  statics := none }

/-- the primitive byte -/
def k8 : Class := { plain "byte" none with kind := .primitive 'B', accessFlags := 0x411 }
/-- [B -/
def k9 : Class := { plain "[B" (some 0) with kind := .array 8 .byte, interfaces := #[7, 4], accessFlags := 1041 }

/-- the primitive int -/
def k10 : Class := { plain "int" none with kind := .primitive 'I', accessFlags := 0x411 }
/-- [I -/
def k11 : Class := { plain "[I" (some 0) with kind := .array 10 .int, interfaces := #[7, 4], accessFlags := 1041 }

def heap : Heap := #[{ cls := 6, slots := #[.ref 1, .ref 8, .ref 9, .ref 7, .ref 10, .ref 2, .ref 3, .ref 4, .ref 5, .ref 6, .null], vm := .statics 6 },
  { cls := 6, slots := #[.null, .int 0, .int 0, .null], vm := .none },
  { cls := 6, slots := #[.null, .int 5, .int 0, .null], vm := .none },
  { cls := 6, slots := #[.null, .int 6, .int 0, .null], vm := .none },
  { cls := 6, slots := #[.null, .int 7, .int 0, .null], vm := .none },
  { cls := 6, slots := #[.null, .int 8, .int 0, .null], vm := .none },
  { cls := 6, slots := #[.null, .int 9, .int 0, .null], vm := .none },
  { cls := 6, slots := #[.null, .int 3, .int 0, .null], vm := .none },
  { cls := 6, slots := #[.null, .int 1, .int 0, .null], vm := .none },
  { cls := 6, slots := #[.null, .int 2, .int 0, .null], vm := .none },
  { cls := 6, slots := #[.null, .int 4, .int 0, .null], vm := .none }]
def classes : Array Class := #[k0, k1, k2, k3, k4, k5, k6, k7, k8, k9, k10, k11]
def interned : List (Array UInt16 × Addr) := []
def slotsUsed : Nat := 51
def theMethod : MethodId := ⟨1, 1⟩
def args0 : Array Value := #[.int 5]
def aboutOver (below : List Frame) : State where
  vm := { classes := classes, interned := interned.toArray }
  heap := heap
  slotsUsed := slotsUsed
  threads := #[{ frames := .invoking theMethod args0 :: below }]
def below0 : List Frame := [.native { method := ⟨0, 0⟩, args := #[] }]
def about1 : State := aboutOver below0
def p0 : Program := .bare "" "" ""
def e0 : Env := launch0.env 0 0 0
theorem w_frames : about1.frames = Frame.invoking theMethod args0 :: below0 := rfl
set_option maxRecDepth 65536 in
theorem w_args : argsFit about1.vm theMethod args0 = true := by decide +kernel
set_option maxRecDepth 65536 in
theorem w_heap : heapFits about1 = true := by decide +kernel
set_option maxRecDepth 65536 in
theorem w_runnable : about1.curStatus? = some .runnable := by decide +kernel
set_option maxRecDepth 65536 in
theorem w_alone : about1.alone = true := by decide +kernel
set_option maxRecDepth 65536 in
theorem w_named : about1.methodNamed? x = some theMethod := by decide +kernel
set_option maxRecDepth 65536 in
theorem w_hears : about1.hears theMethod below0 = true := by decide +kernel
set_option maxRecDepth 65536 in
theorem w_ripe : about1.ripe theMethod args0 below0 = true := by decide +kernel
theorem w_running : about1.status = .running := rfl
set_option maxRecDepth 65536 in
theorem w_room : about1.hasRoom e0.platform room_1 = true :=
  launch0.hasRoom_least _ room_1 (by decide +kernel) (by decide +kernel) (by decide +kernel) (by decide +kernel) (by decide +kernel) (by decide +kernel)
theorem allAtoms_all (ts : List Jvm.Cond) (a : Array Jvm.Value) (st : Jvm.State) : (allAtoms ts).before a st = ts.all (fun c => c.before a st) := by
  induction ts with
  | nil => rfl
  | cons c t ih =>
    show (Jvm.Cond.and c (allAtoms t)).before a st = _
    rw [Jvm.Cond.before_and, ih, List.all_cons]
def words1 : List Jvm.Cond := Jvm.Cond.code x code maxLocals ret :: tables_1
/-- a 'code' word, met by the world's own term for the bytes: nothing is compared byte by byte -/
theorem code_word {y : MethodName} {bytes : ByteArray} {mx : Nat} {rt : Option FieldType} {a : Array Value} {s : State} {m : MethodId} {meth : Method} {c : Code} (h1 : s.methodNamed? y = some m) (h2 : s.vm.method? m = some meth) (h3 : meth.code = some c) (h4 : c.code = bytes)
    (h5 : (c.maxLocals == mx && c.exceptionTable.isEmpty && decide (c.maxStack ≤ mostOperands) && decide (meth.sig.returnType = rt) && !meth.locks && decide (parseMethodDescriptor y.desc = some meth.sig)) = true) : (Jvm.Cond.code y bytes mx rt).before a s = true := by
  simp only [Bool.and_eq_true, beq_iff_eq, Bool.not_eq_true', decide_eq_true_eq] at h5
  obtain ⟨⟨⟨⟨⟨g1, g2⟩, g3⟩, g4⟩, g5⟩, g6⟩ := h5
  simp [Cond.before, Cond.holds, Cond.value, h1, h2, h3, h4, g1, g2, g3, g4, g5, g6]
def isCode : Jvm.Cond → Bool
  | .code _ _ _ _ => true
  | _ => false
theorem all_split {L : List Jvm.Cond} {P : Jvm.Cond → Bool} (h1 : L.all (fun c => isCode c || P c) = true) (h2 : ∀ c ∈ L.filter isCode, P c = true) : L.all P = true := by
  refine List.all_eq_true.mpr fun c hc => ?_
  have h := List.all_eq_true.mp h1 c hc
  rcases Bool.eq_false_or_eq_true (isCode c) with hi | hi
  · exact h2 c (List.mem_filter.mpr ⟨hc, hi⟩)
  · simpa [hi] using h
set_option maxRecDepth 65536 in
theorem w_c0 : (Jvm.Cond.code x code maxLocals ret).before args0 about1 = true := code_word (m := ⟨1, 1⟩) (meth := k1m1) (c := k1c1) (by decide +kernel) rfl rfl rfl (by decide +kernel)
set_option maxRecDepth 65536 in
theorem w_c1 : (Jvm.Cond.code ({ cls := "com/example/stratigraph/stratigraph/rql/TypeIsItemPinLaw", name := "pick", desc := "(I)Lcom/example/stratigraph/stratigraph/rql/Type;" } : Jvm.MethodName) method_3_code (1 : Nat) (Option.some (Jvm.ClassFile.FieldType.object "com/example/stratigraph/stratigraph/rql/Type"))).before args0 about1 = true := code_word (m := ⟨1, 2⟩) (meth := k1m2) (c := k1c2) (by decide +kernel) rfl rfl rfl (by decide +kernel)
set_option maxRecDepth 65536 in
theorem w_c2 : (Jvm.Cond.code ({ cls := "com/example/stratigraph/stratigraph/rql/Type", name := "isItem", desc := "()Z" } : Jvm.MethodName) prog_78_method_6_code (1 : Nat) (Option.some Jvm.ClassFile.FieldType.boolean)).before args0 about1 = true := code_word (m := ⟨6, 0⟩) (meth := k6m0) (c := k6c0) (by decide +kernel) rfl rfl rfl (by decide +kernel)
def codes1 : List Jvm.Cond := [Jvm.Cond.code x code maxLocals ret, Jvm.Cond.code ({ cls := "com/example/stratigraph/stratigraph/rql/TypeIsItemPinLaw", name := "pick", desc := "(I)Lcom/example/stratigraph/stratigraph/rql/Type;" } : Jvm.MethodName) method_3_code (1 : Nat) (Option.some (Jvm.ClassFile.FieldType.object "com/example/stratigraph/stratigraph/rql/Type")), Jvm.Cond.code ({ cls := "com/example/stratigraph/stratigraph/rql/Type", name := "isItem", desc := "()Z" } : Jvm.MethodName) prog_78_method_6_code (1 : Nat) (Option.some Jvm.ClassFile.FieldType.boolean)]
set_option maxRecDepth 65536 in
theorem codes_eq : words1.filter isCode = codes1 := rfl
theorem w_codes : ∀ c ∈ words1.filter isCode, c.before args0 about1 = true := by
  rw [codes_eq]
  intro c hc
  simp only [codes1, List.mem_cons, List.not_mem_nil, or_false] at hc
  rcases hc with rfl | rfl | rfl
  · exact w_c0
  · exact w_c1
  · exact w_c2
set_option maxRecDepth 65536 in
theorem w_t1 : (words1.take 24).all (fun c => isCode c || c.before args0 about1) = true := by decide +kernel
set_option maxRecDepth 65536 in
theorem w_t2 : (words1.drop 24).all (fun c => isCode c || c.before args0 about1) = true := by decide +kernel
theorem w_tables : (allAtoms (Jvm.Cond.code x code maxLocals ret :: tables_1)).before args0 about1 = true := by
  rw [allAtoms_all]
  show words1.all (fun c => c.before args0 about1) = true
  refine all_split ?_ w_codes
  rw [← List.take_append_drop 24 words1, List.all_append, w_t1, w_t2]
  rfl
set_option maxRecDepth 65536 in
theorem w_case : (Jvm.Cond.and given_1 narrow_1).before args0 about1 = true := by decide +kernel
theorem w_applies : (headSpec (Jvm.Cond.code x code maxLocals ret :: tables_1) room_1).applies x e0.platform about1 = true :=
  (Spec.applies_iff w_frames).mpr ⟨w_running, w_runnable, w_alone, w_named, w_hears, w_ripe, w_room, w_tables⟩
theorem atStart : AtStart classFile x code maxLocals ret World_1 tables_1 room_1 Calls_1 rest_1 Pre_1 launch0 p0 e0 about1 theMethod args0 below0 :=
  ⟨lists_1, trivial, launch0.admits_env _ _ _, launch0.least_env, fairChoices_fair.cas, fairChoices_fair.clock, w_frames, w_args, w_heap, w_applies, trivial, trivial, w_case⟩
end start1
theorem witness_1 : WitnessClaimed_1 := ⟨start1.p0, start1.e0, start1.about1, start1.theMethod, start1.args0, start1.below0, start1.atStart⟩
end Jvm.Pilot.@@N@@
