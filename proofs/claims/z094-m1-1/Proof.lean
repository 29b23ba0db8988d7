import JvmDerived
import JvmDerived.Pilot.@@N@@Statement
import JvmDerived.Pilot.@@N@@Code
set_option linter.unusedVariables false
set_option linter.unusedSimpArgs false
namespace Jvm.Pilot.@@N@@
open Jvm Jvm.ClassFile Sem Op Lib Jvm.Free Jvm.Stand Jvm.LawKit Jvm.RoadKit Bundle Jvm.Pilot.@@N@@.Jvm.D
def own_code (z : Int32) (w_FAILURE : Addr) (w_CONFLICT : Addr) (w_BAD_REQUEST : Addr) (w_NOT_FOUND : Addr) : Addr := if z = (400 : Int32) then w_BAD_REQUEST else if z = (404 : Int32) then w_NOT_FOUND else if z = (409 : Int32) then w_CONFLICT else w_FAILURE
theorem own_miss {z : Int32} (h1 : ¬ (z = (400 : Int32))) (h2 : ¬ (z = (404 : Int32))) (h3 : ¬ (z = (409 : Int32))) : (#[(400, 35), (404, 41), (409, 47)] : Array (Int × Int)).find? (fun q => q.1 == z.toInt) = none := by
  have g1 : ¬ ((400 : Int) = z.toInt) := fun q => h1 (Int32.toInt_inj.mp q.symm)
  have g2 : ¬ ((404 : Int) = z.toInt) := fun q => h2 (Int32.toInt_inj.mp q.symm)
  have g3 : ¬ ((409 : Int) = z.toInt) := fun q => h3 (Int32.toInt_inj.mp q.symm)
  simp [g1, g2, g3]
theorem d1_0 : decode method_3_code 0 = .ok (.iload_n 0, 1) := by decide +kernel
theorem d1_1 : decode method_3_code 1 = .ok (.iconst 3, 1) := by decide +kernel
theorem d1_2 : decode method_3_code 2 = .ok (.iand, 1) := by decide +kernel
theorem d1_3 : decode method_3_code 3 = .ok (.istore_n 2, 1) := by decide +kernel
theorem d1_4 : decode method_3_code 4 = .ok (.iload_n 2, 1) := by decide +kernel
theorem d1_5 : decode method_3_code 5 = .ok (.ifCond .ne 5, 3) := by decide +kernel
theorem d1_8 : decode method_3_code 8 = .ok (.iload_n 1, 1) := by decide +kernel
theorem d1_9 : decode method_3_code 9 = .ok (.ireturn, 1) := by decide +kernel
theorem d1_10 : decode method_3_code 10 = .ok (.iload_n 2, 1) := by decide +kernel
theorem d1_11 : decode method_3_code 11 = .ok (.iconst 1, 1) := by decide +kernel
theorem d1_12 : decode method_3_code 12 = .ok (.if_icmp .ne 15, 3) := by decide +kernel
theorem d1_15 : decode method_3_code 15 = .ok (.sipush 398, 3) := by decide +kernel
theorem d1_18 : decode method_3_code 18 = .ok (.iload_n 1, 1) := by decide +kernel
theorem d1_19 : decode method_3_code 19 = .ok (.ldc 22, 2) := by decide +kernel
theorem d1_21 : decode method_3_code 21 = .ok (.iand, 1) := by decide +kernel
theorem d1_22 : decode method_3_code 22 = .ok (.bipush 14, 2) := by decide +kernel
theorem d1_24 : decode method_3_code 24 = .ok (.irem, 1) := by decide +kernel
theorem d1_25 : decode method_3_code 25 = .ok (.iadd, 1) := by decide +kernel
theorem d1_26 : decode method_3_code 26 = .ok (.ireturn, 1) := by decide +kernel
theorem d1_27 : decode method_3_code 27 = .ok (.iload_n 0, 1) := by decide +kernel
theorem d1_28 : decode method_3_code 28 = .ok (.iconst 2, 1) := by decide +kernel
theorem d1_29 : decode method_3_code 29 = .ok (.iushr, 1) := by decide +kernel
theorem d1_30 : decode method_3_code 30 = .ok (.iconst 3, 1) := by decide +kernel
theorem d1_31 : decode method_3_code 31 = .ok (.irem, 1) := by decide +kernel
theorem d1_32 : decode method_3_code 32 = .ok (.istore_n 3, 1) := by decide +kernel
theorem d1_33 : decode method_3_code 33 = .ok (.iload_n 3, 1) := by decide +kernel
theorem d1_34 : decode method_3_code 34 = .ok (.ifCond .ne 9, 3) := by decide +kernel
theorem d1_37 : decode method_3_code 37 = .ok (.sipush 400, 3) := by decide +kernel
theorem d1_40 : decode method_3_code 40 = .ok (.goto 17, 3) := by decide +kernel
theorem d1_43 : decode method_3_code 43 = .ok (.iload_n 3, 1) := by decide +kernel
theorem d1_44 : decode method_3_code 44 = .ok (.iconst 1, 1) := by decide +kernel
theorem d1_45 : decode method_3_code 45 = .ok (.if_icmp .ne 9, 3) := by decide +kernel
theorem d1_48 : decode method_3_code 48 = .ok (.sipush 404, 3) := by decide +kernel
theorem d1_51 : decode method_3_code 51 = .ok (.goto 6, 3) := by decide +kernel
theorem d1_54 : decode method_3_code 54 = .ok (.sipush 409, 3) := by decide +kernel
theorem d1_57 : decode method_3_code 57 = .ok (.istore 4, 2) := by decide +kernel
theorem d1_59 : decode method_3_code 59 = .ok (.iload_n 2, 1) := by decide +kernel
theorem d1_60 : decode method_3_code 60 = .ok (.iconst 2, 1) := by decide +kernel
theorem d1_61 : decode method_3_code 61 = .ok (.if_icmp .ne 11, 3) := by decide +kernel
theorem d1_64 : decode method_3_code 64 = .ok (.iload 4, 2) := by decide +kernel
theorem d1_66 : decode method_3_code 66 = .ok (.iload_n 1, 1) := by decide +kernel
theorem d1_67 : decode method_3_code 67 = .ok (.bipush 16, 2) := by decide +kernel
theorem d1_69 : decode method_3_code 69 = .ok (.ishl, 1) := by decide +kernel
theorem d1_70 : decode method_3_code 70 = .ok (.iadd, 1) := by decide +kernel
theorem d1_71 : decode method_3_code 71 = .ok (.ireturn, 1) := by decide +kernel
theorem d1_72 : decode method_3_code 72 = .ok (.iload 4, 2) := by decide +kernel
theorem d1_74 : decode method_3_code 74 = .ok (.ireturn, 1) := by decide +kernel
theorem pn_1 : plainName "com/example/claim/claim/ExitCodeForHttpStatusPinLaw" = true := by first | (simp [plainName, overriddenIn]; done) | decide +kernel
theorem ef_1 (m : MethodId) (x0 : Int32) (x1 : Int32) : entryFrame m #[(.int x0), (.int x1)] 5 = mkF m 0 #[.val (.int x0), .val (.int x1), .unset, .unset, .unset] [] := by first | (simp [entryFrame, mkF, argsToLocals, Value.category]; done) | rfl
def Q1 (Z : State) (p1 : Int32) (p2 : Int32)  (h0 : Heap) (n0 : Nat) (v : Option Value) (h : Heap) (L : List Loc) : Prop := (∃ z : Int32, v = some (.int z)) ∧ Fr n0 L ∧ h = h0
set_option maxRecDepth 65536 in
set_option maxHeartbeats 40000000 in
theorem rm1 (l : Launch) (Z : State) (a0 : Array Value) (hw : ∀ d ∈ tables_1, d.before a0 Z = true) (ws : List Jvm.Cond) (p1 : Int32) (p2 : Int32)  (h0 : Heap) (n0 : Nat)  :
    MetFree l (⟨"com/example/claim/claim/ExitCodeForHttpStatusPinLaw", "status", "(II)I"⟩ : MethodName) (head1 (Jvm.Cond.code (⟨"com/example/claim/claim/ExitCodeForHttpStatusPinLaw", "status", "(II)I"⟩ : MethodName) method_3_code 5 (some .int) :: ws) ({ frames := 0, cells := 0, slots := 0, locals := 0 } : Room)) (fun ar0 U => ar0 = #[(.int p1), (.int p2)] ∧ Z.Warmed39 U.vm ∧ U.heap = h0) (fun _ _ _ _ _ => True) (fun _ U o U' => ∃ v L, o = .returned v ∧ Q1 Z p1 p2  h0 n0 v U'.heap L ∧ FrameEnd U o U' L ({ frames := 0, cells := 0, slots := 0, locals := 0 } : Room).cells ({ frames := 0, cells := 0, slots := 0, locals := 0 } : Room).slots) := by
  refine MetFree.of_bodySF (plainFor_of_name pn_1) hisR ?_
  intro p e s m args below meth c s₁ Bd hml0 hP hK
  obtain ⟨rfl, hZ, hh⟩ := hP
  have hx := Bd.exec
  have hby := Bd.bytes
  have hml : c.maxLocals = 5 := hml0
  have hown : s.vm.findClass "com/example/claim/claim/ExitCodeForHttpStatusPinLaw" = some m.cls := findClass_of_methodNamed Bd.named
  have X0 : Stand p l e ({ frames := 0, cells := 0, slots := 0, locals := 0 } : Room) s m #[(.int p1), (.int p2)] below meth c s₁ [] 0 0 := Stand.of_body Bd
  have e0 : s₁.heap = h0 := by rw [← hh, Bd.state]; rfl
  have N0 := Fr.nil n0
  have pre0 : ∀ t, Steps p.tables e below (s₁.setTop (mkF m 0 #[.val (.int p1), .val (.int p2), .unset, .unset, .unset] [])) t → Steps p.tables e below (s₁.setTop (entryFrame m #[(.int p1), (.int p2)] 5)) t := fun t k => castTop (ef_1 m p1 p2) k
  have pre1 : ∀ t, Steps p.tables e below (s₁.setTop (mkF m 5 #[.val (.int p1), .val (.int p2), .val (.int (p1 &&& (3 : Int32))), .unset, .unset] [(.int (p1 &&& (3 : Int32)))])) t → Steps p.tables e below (s₁.setTop (entryFrame m #[(.int p1), (.int p2)] 5)) t := by
    intro t k
    refine pre0 _ ?_
    show Steps p.tables e below (s₁.setTop (mkF m 0 #[.val (.int p1), .val (.int p2), .unset, .unset, .unset] [])) _
    refine XS.iloadN X0.here hx rfl (hb hby d1_0) rfl ?_
    show Steps p.tables e below (s₁.setTop (mkF m 1 #[.val (.int p1), .val (.int p2), .unset, .unset, .unset] [(.int p1)])) _
    refine XT.iconstV X0.here hx rfl (3 : Int32) (hb hby d1_1) (by decide) ?_
    show Steps p.tables e below (s₁.setTop (mkF m 2 #[.val (.int p1), .val (.int p2), .unset, .unset, .unset] [(.int (3 : Int32)), (.int p1)])) _
    refine XS.iand X0.here hx rfl (hb hby d1_2) rfl ?_
    show Steps p.tables e below (s₁.setTop (mkF m 3 #[.val (.int p1), .val (.int p2), .unset, .unset, .unset] [(.int (p1 &&& (3 : Int32)))])) _
    refine XS.istoreN X0.here hx rfl (hb hby d1_3) rfl (l' := #[.val (.int p1), .val (.int p2), .val (.int (p1 &&& (3 : Int32))), .unset, .unset]) rfl ?_
    show Steps p.tables e below (s₁.setTop (mkF m 4 #[.val (.int p1), .val (.int p2), .val (.int (p1 &&& (3 : Int32))), .unset, .unset] [])) _
    refine XS.iloadN X0.here hx rfl (hb hby d1_4) rfl ?_
    show Steps p.tables e below (s₁.setTop (mkF m 5 #[.val (.int p1), .val (.int p2), .val (.int (p1 &&& (3 : Int32))), .unset, .unset] [(.int (p1 &&& (3 : Int32)))])) _
    exact k
  by_cases hc2 : (p1 &&& (3 : Int32)) = (0 : Int32)
  ·
    have pre3 : ∀ t, Steps p.tables e below (s₁.setTop (mkF m 8 #[.val (.int p1), .val (.int p2), .val (.int (p1 &&& (3 : Int32))), .unset, .unset] [])) t → Steps p.tables e below (s₁.setTop (entryFrame m #[(.int p1), (.int p2)] 5)) t := by
      intro t k
      refine pre1 _ ?_
      refine XS.ifNo X0.here hx rfl (hb hby d1_5) rfl ((if0 _ _).trans (teq (hc2 : (p1 &&& (3 : Int32)) = (0 : Int32))).2) ?_
      exact k
    obtain ⟨fs, hr4, hrun, hended, hW, hsame⟩ := X0.leave (v := some (.int p2)) (fun h => by rw [Bd.returns] at h; cases h)
    refine ⟨_, _, pre3 _ ?_, hrun, hended, _, _, rfl, ?_, ⟨_, rfl⟩, hW, hsame.mono (by decide) (by decide)⟩
    · show Steps p.tables e below (s₁.setTop (mkF m 8 #[.val (.int p1), .val (.int p2), .val (.int (p1 &&& (3 : Int32))), .unset, .unset] [])) _
      refine XS.iloadN X0.here hx rfl (hb hby d1_8) rfl ?_
      show Steps p.tables e below (s₁.setTop (mkF m 9 #[.val (.int p1), .val (.int p2), .val (.int (p1 &&& (3 : Int32))), .unset, .unset] [(.int p2)])) _
      exact retOut X0 hx Bd.returns rfl (Or.inl ⟨rfl, Or.inl rfl, _, rfl⟩) (hb hby d1_9) hr4
    · show Q1 Z _ _ h0 n0 _ s₁.heap _
      rw [e0]
      exact ⟨⟨_, rfl⟩, N0, rfl⟩
  ·
    have pre5 : ∀ t, Steps p.tables e below (s₁.setTop (mkF m 10 #[.val (.int p1), .val (.int p2), .val (.int (p1 &&& (3 : Int32))), .unset, .unset] [])) t → Steps p.tables e below (s₁.setTop (entryFrame m #[(.int p1), (.int p2)] 5)) t := by
      intro t k
      refine pre1 _ ?_
      refine XS.ifYes X0.here hx rfl (pc0 := 5) (pc' := 10) rfl (hb hby d1_5) rfl ((if0 _ _).trans (feq (hc2 : ¬ ((p1 &&& (3 : Int32)) = (0 : Int32)))).2) (by decide) (by decide) ?_
      exact k
    have pre6 : ∀ t, Steps p.tables e below (s₁.setTop (mkF m 12 #[.val (.int p1), .val (.int p2), .val (.int (p1 &&& (3 : Int32))), .unset, .unset] [(.int (1 : Int32)), (.int (p1 &&& (3 : Int32)))])) t → Steps p.tables e below (s₁.setTop (entryFrame m #[(.int p1), (.int p2)] 5)) t := by
      intro t k
      refine pre5 _ ?_
      show Steps p.tables e below (s₁.setTop (mkF m 10 #[.val (.int p1), .val (.int p2), .val (.int (p1 &&& (3 : Int32))), .unset, .unset] [])) _
      refine XS.iloadN X0.here hx rfl (hb hby d1_10) rfl ?_
      show Steps p.tables e below (s₁.setTop (mkF m 11 #[.val (.int p1), .val (.int p2), .val (.int (p1 &&& (3 : Int32))), .unset, .unset] [(.int (p1 &&& (3 : Int32)))])) _
      refine XT.iconstV X0.here hx rfl (1 : Int32) (hb hby d1_11) (by decide) ?_
      show Steps p.tables e below (s₁.setTop (mkF m 12 #[.val (.int p1), .val (.int p2), .val (.int (p1 &&& (3 : Int32))), .unset, .unset] [(.int (1 : Int32)), (.int (p1 &&& (3 : Int32)))])) _
      exact k
    by_cases hc7 : (p1 &&& (3 : Int32)) = (1 : Int32)
    ·
      have pre8 : ∀ t, Steps p.tables e below (s₁.setTop (mkF m 15 #[.val (.int p1), .val (.int p2), .val (.int (p1 &&& (3 : Int32))), .unset, .unset] [])) t → Steps p.tables e below (s₁.setTop (entryFrame m #[(.int p1), (.int p2)] 5)) t := by
        intro t k
        refine pre6 _ ?_
        refine XS.icmpNo X0.here hx rfl (hb hby d1_12) rfl (teq (hc7 : (p1 &&& (3 : Int32)) = (1 : Int32))).2 ?_
        exact k
      obtain ⟨fs, hr9, hrun, hended, hW, hsame⟩ := X0.leave (v := some (.int ((398 : Int32) + ((p2 &&& (2147483647 : Int32)) % (14 : Int32))))) (fun h => by rw [Bd.returns] at h; cases h)
      refine ⟨_, _, pre8 _ ?_, hrun, hended, _, _, rfl, ?_, ⟨_, rfl⟩, hW, hsame.mono (by decide) (by decide)⟩
      · show Steps p.tables e below (s₁.setTop (mkF m 15 #[.val (.int p1), .val (.int p2), .val (.int (p1 &&& (3 : Int32))), .unset, .unset] [])) _
        refine XT.sipushV X0.here hx rfl (398 : Int32) (hb hby d1_15) (by decide) ?_
        show Steps p.tables e below (s₁.setTop (mkF m 18 #[.val (.int p1), .val (.int p2), .val (.int (p1 &&& (3 : Int32))), .unset, .unset] [(.int (398 : Int32))])) _
        refine XS.iloadN X0.here hx rfl (hb hby d1_18) rfl ?_
        show Steps p.tables e below (s₁.setTop (mkF m 19 #[.val (.int p1), .val (.int p2), .val (.int (p1 &&& (3 : Int32))), .unset, .unset] [(.int p2), (.int (398 : Int32))])) _
        refine X0.ldcI hx hown (mvT hZ (hw _ (List.mem_of_getElem? (i := 14) rfl))) rfl (hb hby d1_19) ?_
        show Steps p.tables e below (s₁.setTop (mkF m 21 #[.val (.int p1), .val (.int p2), .val (.int (p1 &&& (3 : Int32))), .unset, .unset] [(.int (2147483647 : Int32)), (.int p2), (.int (398 : Int32))])) _
        refine XS.iand X0.here hx rfl (hb hby d1_21) rfl ?_
        show Steps p.tables e below (s₁.setTop (mkF m 22 #[.val (.int p1), .val (.int p2), .val (.int (p1 &&& (3 : Int32))), .unset, .unset] [(.int (p2 &&& (2147483647 : Int32))), (.int (398 : Int32))])) _
        refine XT.bipushV X0.here hx rfl (14 : Int32) (hb hby d1_22) (by decide) ?_
        show Steps p.tables e below (s₁.setTop (mkF m 24 #[.val (.int p1), .val (.int p2), .val (.int (p1 &&& (3 : Int32))), .unset, .unset] [(.int (14 : Int32)), (.int (p2 &&& (2147483647 : Int32))), (.int (398 : Int32))])) _
        refine iremM X0 hx rfl (hb hby d1_24) rfl (by decide) ?_
        show Steps p.tables e below (s₁.setTop (mkF m 25 #[.val (.int p1), .val (.int p2), .val (.int (p1 &&& (3 : Int32))), .unset, .unset] [(.int ((p2 &&& (2147483647 : Int32)) % (14 : Int32))), (.int (398 : Int32))])) _
        refine XS.iadd X0.here hx rfl (hb hby d1_25) rfl ?_
        show Steps p.tables e below (s₁.setTop (mkF m 26 #[.val (.int p1), .val (.int p2), .val (.int (p1 &&& (3 : Int32))), .unset, .unset] [(.int ((398 : Int32) + ((p2 &&& (2147483647 : Int32)) % (14 : Int32))))])) _
        exact retOut X0 hx Bd.returns rfl (Or.inl ⟨rfl, Or.inl rfl, _, rfl⟩) (hb hby d1_26) hr9
      · show Q1 Z _ _ h0 n0 _ s₁.heap _
        rw [e0]
        exact ⟨⟨_, rfl⟩, N0, rfl⟩
    ·
      have pre10 : ∀ t, Steps p.tables e below (s₁.setTop (mkF m 27 #[.val (.int p1), .val (.int p2), .val (.int (p1 &&& (3 : Int32))), .unset, .unset] [])) t → Steps p.tables e below (s₁.setTop (entryFrame m #[(.int p1), (.int p2)] 5)) t := by
        intro t k
        refine pre6 _ ?_
        refine XS.icmpYes X0.here hx rfl (pc0 := 12) (pc' := 27) rfl (hb hby d1_12) rfl (feq (hc7 : ¬ ((p1 &&& (3 : Int32)) = (1 : Int32)))).2 (by decide) (by decide) ?_
        exact k
      have pre11 : ∀ t, Steps p.tables e below (s₁.setTop (mkF m 34 #[.val (.int p1), .val (.int p2), .val (.int (p1 &&& (3 : Int32))), .val (.int ((XT.ushr p1 (2 : Int32)) % (3 : Int32))), .unset] [(.int ((XT.ushr p1 (2 : Int32)) % (3 : Int32)))])) t → Steps p.tables e below (s₁.setTop (entryFrame m #[(.int p1), (.int p2)] 5)) t := by
        intro t k
        refine pre10 _ ?_
        show Steps p.tables e below (s₁.setTop (mkF m 27 #[.val (.int p1), .val (.int p2), .val (.int (p1 &&& (3 : Int32))), .unset, .unset] [])) _
        refine XS.iloadN X0.here hx rfl (hb hby d1_27) rfl ?_
        show Steps p.tables e below (s₁.setTop (mkF m 28 #[.val (.int p1), .val (.int p2), .val (.int (p1 &&& (3 : Int32))), .unset, .unset] [(.int p1)])) _
        refine XT.iconstV X0.here hx rfl (2 : Int32) (hb hby d1_28) (by decide) ?_
        show Steps p.tables e below (s₁.setTop (mkF m 29 #[.val (.int p1), .val (.int p2), .val (.int (p1 &&& (3 : Int32))), .unset, .unset] [(.int (2 : Int32)), (.int p1)])) _
        refine XT.iushr X0.here hx rfl (hb hby d1_29) rfl ?_
        show Steps p.tables e below (s₁.setTop (mkF m 30 #[.val (.int p1), .val (.int p2), .val (.int (p1 &&& (3 : Int32))), .unset, .unset] [(.int (XT.ushr p1 (2 : Int32)))])) _
        refine XT.iconstV X0.here hx rfl (3 : Int32) (hb hby d1_30) (by decide) ?_
        show Steps p.tables e below (s₁.setTop (mkF m 31 #[.val (.int p1), .val (.int p2), .val (.int (p1 &&& (3 : Int32))), .unset, .unset] [(.int (3 : Int32)), (.int (XT.ushr p1 (2 : Int32)))])) _
        refine iremM X0 hx rfl (hb hby d1_31) rfl (by decide) ?_
        show Steps p.tables e below (s₁.setTop (mkF m 32 #[.val (.int p1), .val (.int p2), .val (.int (p1 &&& (3 : Int32))), .unset, .unset] [(.int ((XT.ushr p1 (2 : Int32)) % (3 : Int32)))])) _
        refine XS.istoreN X0.here hx rfl (hb hby d1_32) rfl (l' := #[.val (.int p1), .val (.int p2), .val (.int (p1 &&& (3 : Int32))), .val (.int ((XT.ushr p1 (2 : Int32)) % (3 : Int32))), .unset]) rfl ?_
        show Steps p.tables e below (s₁.setTop (mkF m 33 #[.val (.int p1), .val (.int p2), .val (.int (p1 &&& (3 : Int32))), .val (.int ((XT.ushr p1 (2 : Int32)) % (3 : Int32))), .unset] [])) _
        refine XS.iloadN X0.here hx rfl (hb hby d1_33) rfl ?_
        show Steps p.tables e below (s₁.setTop (mkF m 34 #[.val (.int p1), .val (.int p2), .val (.int (p1 &&& (3 : Int32))), .val (.int ((XT.ushr p1 (2 : Int32)) % (3 : Int32))), .unset] [(.int ((XT.ushr p1 (2 : Int32)) % (3 : Int32)))])) _
        exact k
      by_cases hc12 : ((XT.ushr p1 (2 : Int32)) % (3 : Int32)) = (0 : Int32)
      ·
        have pre13 : ∀ t, Steps p.tables e below (s₁.setTop (mkF m 37 #[.val (.int p1), .val (.int p2), .val (.int (p1 &&& (3 : Int32))), .val (.int ((XT.ushr p1 (2 : Int32)) % (3 : Int32))), .unset] [])) t → Steps p.tables e below (s₁.setTop (entryFrame m #[(.int p1), (.int p2)] 5)) t := by
          intro t k
          refine pre11 _ ?_
          refine XS.ifNo X0.here hx rfl (hb hby d1_34) rfl ((if0 _ _).trans (teq (hc12 : ((XT.ushr p1 (2 : Int32)) % (3 : Int32)) = (0 : Int32))).2) ?_
          exact k
        have pre14 : ∀ t, Steps p.tables e below (s₁.setTop (mkF m 61 #[.val (.int p1), .val (.int p2), .val (.int (p1 &&& (3 : Int32))), .val (.int ((XT.ushr p1 (2 : Int32)) % (3 : Int32))), .val (.int (400 : Int32))] [(.int (2 : Int32)), (.int (p1 &&& (3 : Int32)))])) t → Steps p.tables e below (s₁.setTop (entryFrame m #[(.int p1), (.int p2)] 5)) t := by
          intro t k
          refine pre13 _ ?_
          show Steps p.tables e below (s₁.setTop (mkF m 37 #[.val (.int p1), .val (.int p2), .val (.int (p1 &&& (3 : Int32))), .val (.int ((XT.ushr p1 (2 : Int32)) % (3 : Int32))), .unset] [])) _
          refine XT.sipushV X0.here hx rfl (400 : Int32) (hb hby d1_37) (by decide) ?_
          show Steps p.tables e below (s₁.setTop (mkF m 40 #[.val (.int p1), .val (.int p2), .val (.int (p1 &&& (3 : Int32))), .val (.int ((XT.ushr p1 (2 : Int32)) % (3 : Int32))), .unset] [(.int (400 : Int32))])) _
          refine XS.goto X0.here hx rfl (pc0 := 40) (pc' := 57) rfl (hb hby d1_40) (by decide) (by decide) ?_
          show Steps p.tables e below (s₁.setTop (mkF m 57 #[.val (.int p1), .val (.int p2), .val (.int (p1 &&& (3 : Int32))), .val (.int ((XT.ushr p1 (2 : Int32)) % (3 : Int32))), .unset] [(.int (400 : Int32))])) _
          refine XS.istore X0.here hx rfl (hb hby d1_57) rfl (l' := #[.val (.int p1), .val (.int p2), .val (.int (p1 &&& (3 : Int32))), .val (.int ((XT.ushr p1 (2 : Int32)) % (3 : Int32))), .val (.int (400 : Int32))]) rfl ?_
          show Steps p.tables e below (s₁.setTop (mkF m 59 #[.val (.int p1), .val (.int p2), .val (.int (p1 &&& (3 : Int32))), .val (.int ((XT.ushr p1 (2 : Int32)) % (3 : Int32))), .val (.int (400 : Int32))] [])) _
          refine XS.iloadN X0.here hx rfl (hb hby d1_59) rfl ?_
          show Steps p.tables e below (s₁.setTop (mkF m 60 #[.val (.int p1), .val (.int p2), .val (.int (p1 &&& (3 : Int32))), .val (.int ((XT.ushr p1 (2 : Int32)) % (3 : Int32))), .val (.int (400 : Int32))] [(.int (p1 &&& (3 : Int32)))])) _
          refine XT.iconstV X0.here hx rfl (2 : Int32) (hb hby d1_60) (by decide) ?_
          show Steps p.tables e below (s₁.setTop (mkF m 61 #[.val (.int p1), .val (.int p2), .val (.int (p1 &&& (3 : Int32))), .val (.int ((XT.ushr p1 (2 : Int32)) % (3 : Int32))), .val (.int (400 : Int32))] [(.int (2 : Int32)), (.int (p1 &&& (3 : Int32)))])) _
          exact k
        by_cases hc15 : (p1 &&& (3 : Int32)) = (2 : Int32)
        ·
          have pre16 : ∀ t, Steps p.tables e below (s₁.setTop (mkF m 64 #[.val (.int p1), .val (.int p2), .val (.int (p1 &&& (3 : Int32))), .val (.int ((XT.ushr p1 (2 : Int32)) % (3 : Int32))), .val (.int (400 : Int32))] [])) t → Steps p.tables e below (s₁.setTop (entryFrame m #[(.int p1), (.int p2)] 5)) t := by
            intro t k
            refine pre14 _ ?_
            refine XS.icmpNo X0.here hx rfl (hb hby d1_61) rfl (teq (hc15 : (p1 &&& (3 : Int32)) = (2 : Int32))).2 ?_
            exact k
          obtain ⟨fs, hr17, hrun, hended, hW, hsame⟩ := X0.leave (v := some (.int ((400 : Int32) + (p2 <<< ((16 : Int32) &&& 31))))) (fun h => by rw [Bd.returns] at h; cases h)
          refine ⟨_, _, pre16 _ ?_, hrun, hended, _, _, rfl, ?_, ⟨_, rfl⟩, hW, hsame.mono (by decide) (by decide)⟩
          · show Steps p.tables e below (s₁.setTop (mkF m 64 #[.val (.int p1), .val (.int p2), .val (.int (p1 &&& (3 : Int32))), .val (.int ((XT.ushr p1 (2 : Int32)) % (3 : Int32))), .val (.int (400 : Int32))] [])) _
            refine XS.iload X0.here hx rfl (hb hby d1_64) rfl ?_
            show Steps p.tables e below (s₁.setTop (mkF m 66 #[.val (.int p1), .val (.int p2), .val (.int (p1 &&& (3 : Int32))), .val (.int ((XT.ushr p1 (2 : Int32)) % (3 : Int32))), .val (.int (400 : Int32))] [(.int (400 : Int32))])) _
            refine XS.iloadN X0.here hx rfl (hb hby d1_66) rfl ?_
            show Steps p.tables e below (s₁.setTop (mkF m 67 #[.val (.int p1), .val (.int p2), .val (.int (p1 &&& (3 : Int32))), .val (.int ((XT.ushr p1 (2 : Int32)) % (3 : Int32))), .val (.int (400 : Int32))] [(.int p2), (.int (400 : Int32))])) _
            refine XT.bipushV X0.here hx rfl (16 : Int32) (hb hby d1_67) (by decide) ?_
            show Steps p.tables e below (s₁.setTop (mkF m 69 #[.val (.int p1), .val (.int p2), .val (.int (p1 &&& (3 : Int32))), .val (.int ((XT.ushr p1 (2 : Int32)) % (3 : Int32))), .val (.int (400 : Int32))] [(.int (16 : Int32)), (.int p2), (.int (400 : Int32))])) _
            refine XT.ishl X0.here hx rfl (hb hby d1_69) rfl ?_
            show Steps p.tables e below (s₁.setTop (mkF m 70 #[.val (.int p1), .val (.int p2), .val (.int (p1 &&& (3 : Int32))), .val (.int ((XT.ushr p1 (2 : Int32)) % (3 : Int32))), .val (.int (400 : Int32))] [(.int (p2 <<< ((16 : Int32) &&& 31))), (.int (400 : Int32))])) _
            refine XS.iadd X0.here hx rfl (hb hby d1_70) rfl ?_
            show Steps p.tables e below (s₁.setTop (mkF m 71 #[.val (.int p1), .val (.int p2), .val (.int (p1 &&& (3 : Int32))), .val (.int ((XT.ushr p1 (2 : Int32)) % (3 : Int32))), .val (.int (400 : Int32))] [(.int ((400 : Int32) + (p2 <<< ((16 : Int32) &&& 31))))])) _
            exact retOut X0 hx Bd.returns rfl (Or.inl ⟨rfl, Or.inl rfl, _, rfl⟩) (hb hby d1_71) hr17
          · show Q1 Z _ _ h0 n0 _ s₁.heap _
            rw [e0]
            exact ⟨⟨_, rfl⟩, N0, rfl⟩
        ·
          have pre18 : ∀ t, Steps p.tables e below (s₁.setTop (mkF m 72 #[.val (.int p1), .val (.int p2), .val (.int (p1 &&& (3 : Int32))), .val (.int ((XT.ushr p1 (2 : Int32)) % (3 : Int32))), .val (.int (400 : Int32))] [])) t → Steps p.tables e below (s₁.setTop (entryFrame m #[(.int p1), (.int p2)] 5)) t := by
            intro t k
            refine pre14 _ ?_
            refine XS.icmpYes X0.here hx rfl (pc0 := 61) (pc' := 72) rfl (hb hby d1_61) rfl (feq (hc15 : ¬ ((p1 &&& (3 : Int32)) = (2 : Int32)))).2 (by decide) (by decide) ?_
            exact k
          obtain ⟨fs, hr19, hrun, hended, hW, hsame⟩ := X0.leave (v := some (.int (400 : Int32))) (fun h => by rw [Bd.returns] at h; cases h)
          refine ⟨_, _, pre18 _ ?_, hrun, hended, _, _, rfl, ?_, ⟨_, rfl⟩, hW, hsame.mono (by decide) (by decide)⟩
          · show Steps p.tables e below (s₁.setTop (mkF m 72 #[.val (.int p1), .val (.int p2), .val (.int (p1 &&& (3 : Int32))), .val (.int ((XT.ushr p1 (2 : Int32)) % (3 : Int32))), .val (.int (400 : Int32))] [])) _
            refine XS.iload X0.here hx rfl (hb hby d1_72) rfl ?_
            show Steps p.tables e below (s₁.setTop (mkF m 74 #[.val (.int p1), .val (.int p2), .val (.int (p1 &&& (3 : Int32))), .val (.int ((XT.ushr p1 (2 : Int32)) % (3 : Int32))), .val (.int (400 : Int32))] [(.int (400 : Int32))])) _
            exact retOut X0 hx Bd.returns rfl (Or.inl ⟨rfl, Or.inl rfl, _, rfl⟩) (hb hby d1_74) hr19
          · show Q1 Z _ _ h0 n0 _ s₁.heap _
            rw [e0]
            exact ⟨⟨_, rfl⟩, N0, rfl⟩
      ·
        have pre20 : ∀ t, Steps p.tables e below (s₁.setTop (mkF m 43 #[.val (.int p1), .val (.int p2), .val (.int (p1 &&& (3 : Int32))), .val (.int ((XT.ushr p1 (2 : Int32)) % (3 : Int32))), .unset] [])) t → Steps p.tables e below (s₁.setTop (entryFrame m #[(.int p1), (.int p2)] 5)) t := by
          intro t k
          refine pre11 _ ?_
          refine XS.ifYes X0.here hx rfl (pc0 := 34) (pc' := 43) rfl (hb hby d1_34) rfl ((if0 _ _).trans (feq (hc12 : ¬ (((XT.ushr p1 (2 : Int32)) % (3 : Int32)) = (0 : Int32)))).2) (by decide) (by decide) ?_
          exact k
        have pre21 : ∀ t, Steps p.tables e below (s₁.setTop (mkF m 45 #[.val (.int p1), .val (.int p2), .val (.int (p1 &&& (3 : Int32))), .val (.int ((XT.ushr p1 (2 : Int32)) % (3 : Int32))), .unset] [(.int (1 : Int32)), (.int ((XT.ushr p1 (2 : Int32)) % (3 : Int32)))])) t → Steps p.tables e below (s₁.setTop (entryFrame m #[(.int p1), (.int p2)] 5)) t := by
          intro t k
          refine pre20 _ ?_
          show Steps p.tables e below (s₁.setTop (mkF m 43 #[.val (.int p1), .val (.int p2), .val (.int (p1 &&& (3 : Int32))), .val (.int ((XT.ushr p1 (2 : Int32)) % (3 : Int32))), .unset] [])) _
          refine XS.iloadN X0.here hx rfl (hb hby d1_43) rfl ?_
          show Steps p.tables e below (s₁.setTop (mkF m 44 #[.val (.int p1), .val (.int p2), .val (.int (p1 &&& (3 : Int32))), .val (.int ((XT.ushr p1 (2 : Int32)) % (3 : Int32))), .unset] [(.int ((XT.ushr p1 (2 : Int32)) % (3 : Int32)))])) _
          refine XT.iconstV X0.here hx rfl (1 : Int32) (hb hby d1_44) (by decide) ?_
          show Steps p.tables e below (s₁.setTop (mkF m 45 #[.val (.int p1), .val (.int p2), .val (.int (p1 &&& (3 : Int32))), .val (.int ((XT.ushr p1 (2 : Int32)) % (3 : Int32))), .unset] [(.int (1 : Int32)), (.int ((XT.ushr p1 (2 : Int32)) % (3 : Int32)))])) _
          exact k
        by_cases hc22 : ((XT.ushr p1 (2 : Int32)) % (3 : Int32)) = (1 : Int32)
        ·
          have pre23 : ∀ t, Steps p.tables e below (s₁.setTop (mkF m 48 #[.val (.int p1), .val (.int p2), .val (.int (p1 &&& (3 : Int32))), .val (.int ((XT.ushr p1 (2 : Int32)) % (3 : Int32))), .unset] [])) t → Steps p.tables e below (s₁.setTop (entryFrame m #[(.int p1), (.int p2)] 5)) t := by
            intro t k
            refine pre21 _ ?_
            refine XS.icmpNo X0.here hx rfl (hb hby d1_45) rfl (teq (hc22 : ((XT.ushr p1 (2 : Int32)) % (3 : Int32)) = (1 : Int32))).2 ?_
            exact k
          have pre24 : ∀ t, Steps p.tables e below (s₁.setTop (mkF m 61 #[.val (.int p1), .val (.int p2), .val (.int (p1 &&& (3 : Int32))), .val (.int ((XT.ushr p1 (2 : Int32)) % (3 : Int32))), .val (.int (404 : Int32))] [(.int (2 : Int32)), (.int (p1 &&& (3 : Int32)))])) t → Steps p.tables e below (s₁.setTop (entryFrame m #[(.int p1), (.int p2)] 5)) t := by
            intro t k
            refine pre23 _ ?_
            show Steps p.tables e below (s₁.setTop (mkF m 48 #[.val (.int p1), .val (.int p2), .val (.int (p1 &&& (3 : Int32))), .val (.int ((XT.ushr p1 (2 : Int32)) % (3 : Int32))), .unset] [])) _
            refine XT.sipushV X0.here hx rfl (404 : Int32) (hb hby d1_48) (by decide) ?_
            show Steps p.tables e below (s₁.setTop (mkF m 51 #[.val (.int p1), .val (.int p2), .val (.int (p1 &&& (3 : Int32))), .val (.int ((XT.ushr p1 (2 : Int32)) % (3 : Int32))), .unset] [(.int (404 : Int32))])) _
            refine XS.goto X0.here hx rfl (pc0 := 51) (pc' := 57) rfl (hb hby d1_51) (by decide) (by decide) ?_
            show Steps p.tables e below (s₁.setTop (mkF m 57 #[.val (.int p1), .val (.int p2), .val (.int (p1 &&& (3 : Int32))), .val (.int ((XT.ushr p1 (2 : Int32)) % (3 : Int32))), .unset] [(.int (404 : Int32))])) _
            refine XS.istore X0.here hx rfl (hb hby d1_57) rfl (l' := #[.val (.int p1), .val (.int p2), .val (.int (p1 &&& (3 : Int32))), .val (.int ((XT.ushr p1 (2 : Int32)) % (3 : Int32))), .val (.int (404 : Int32))]) rfl ?_
            show Steps p.tables e below (s₁.setTop (mkF m 59 #[.val (.int p1), .val (.int p2), .val (.int (p1 &&& (3 : Int32))), .val (.int ((XT.ushr p1 (2 : Int32)) % (3 : Int32))), .val (.int (404 : Int32))] [])) _
            refine XS.iloadN X0.here hx rfl (hb hby d1_59) rfl ?_
            show Steps p.tables e below (s₁.setTop (mkF m 60 #[.val (.int p1), .val (.int p2), .val (.int (p1 &&& (3 : Int32))), .val (.int ((XT.ushr p1 (2 : Int32)) % (3 : Int32))), .val (.int (404 : Int32))] [(.int (p1 &&& (3 : Int32)))])) _
            refine XT.iconstV X0.here hx rfl (2 : Int32) (hb hby d1_60) (by decide) ?_
            show Steps p.tables e below (s₁.setTop (mkF m 61 #[.val (.int p1), .val (.int p2), .val (.int (p1 &&& (3 : Int32))), .val (.int ((XT.ushr p1 (2 : Int32)) % (3 : Int32))), .val (.int (404 : Int32))] [(.int (2 : Int32)), (.int (p1 &&& (3 : Int32)))])) _
            exact k
          by_cases hc25 : (p1 &&& (3 : Int32)) = (2 : Int32)
          ·
            have pre26 : ∀ t, Steps p.tables e below (s₁.setTop (mkF m 64 #[.val (.int p1), .val (.int p2), .val (.int (p1 &&& (3 : Int32))), .val (.int ((XT.ushr p1 (2 : Int32)) % (3 : Int32))), .val (.int (404 : Int32))] [])) t → Steps p.tables e below (s₁.setTop (entryFrame m #[(.int p1), (.int p2)] 5)) t := by
              intro t k
              refine pre24 _ ?_
              refine XS.icmpNo X0.here hx rfl (hb hby d1_61) rfl (teq (hc25 : (p1 &&& (3 : Int32)) = (2 : Int32))).2 ?_
              exact k
            obtain ⟨fs, hr27, hrun, hended, hW, hsame⟩ := X0.leave (v := some (.int ((404 : Int32) + (p2 <<< ((16 : Int32) &&& 31))))) (fun h => by rw [Bd.returns] at h; cases h)
            refine ⟨_, _, pre26 _ ?_, hrun, hended, _, _, rfl, ?_, ⟨_, rfl⟩, hW, hsame.mono (by decide) (by decide)⟩
            · show Steps p.tables e below (s₁.setTop (mkF m 64 #[.val (.int p1), .val (.int p2), .val (.int (p1 &&& (3 : Int32))), .val (.int ((XT.ushr p1 (2 : Int32)) % (3 : Int32))), .val (.int (404 : Int32))] [])) _
              refine XS.iload X0.here hx rfl (hb hby d1_64) rfl ?_
              show Steps p.tables e below (s₁.setTop (mkF m 66 #[.val (.int p1), .val (.int p2), .val (.int (p1 &&& (3 : Int32))), .val (.int ((XT.ushr p1 (2 : Int32)) % (3 : Int32))), .val (.int (404 : Int32))] [(.int (404 : Int32))])) _
              refine XS.iloadN X0.here hx rfl (hb hby d1_66) rfl ?_
              show Steps p.tables e below (s₁.setTop (mkF m 67 #[.val (.int p1), .val (.int p2), .val (.int (p1 &&& (3 : Int32))), .val (.int ((XT.ushr p1 (2 : Int32)) % (3 : Int32))), .val (.int (404 : Int32))] [(.int p2), (.int (404 : Int32))])) _
              refine XT.bipushV X0.here hx rfl (16 : Int32) (hb hby d1_67) (by decide) ?_
              show Steps p.tables e below (s₁.setTop (mkF m 69 #[.val (.int p1), .val (.int p2), .val (.int (p1 &&& (3 : Int32))), .val (.int ((XT.ushr p1 (2 : Int32)) % (3 : Int32))), .val (.int (404 : Int32))] [(.int (16 : Int32)), (.int p2), (.int (404 : Int32))])) _
              refine XT.ishl X0.here hx rfl (hb hby d1_69) rfl ?_
              show Steps p.tables e below (s₁.setTop (mkF m 70 #[.val (.int p1), .val (.int p2), .val (.int (p1 &&& (3 : Int32))), .val (.int ((XT.ushr p1 (2 : Int32)) % (3 : Int32))), .val (.int (404 : Int32))] [(.int (p2 <<< ((16 : Int32) &&& 31))), (.int (404 : Int32))])) _
              refine XS.iadd X0.here hx rfl (hb hby d1_70) rfl ?_
              show Steps p.tables e below (s₁.setTop (mkF m 71 #[.val (.int p1), .val (.int p2), .val (.int (p1 &&& (3 : Int32))), .val (.int ((XT.ushr p1 (2 : Int32)) % (3 : Int32))), .val (.int (404 : Int32))] [(.int ((404 : Int32) + (p2 <<< ((16 : Int32) &&& 31))))])) _
              exact retOut X0 hx Bd.returns rfl (Or.inl ⟨rfl, Or.inl rfl, _, rfl⟩) (hb hby d1_71) hr27
            · show Q1 Z _ _ h0 n0 _ s₁.heap _
              rw [e0]
              exact ⟨⟨_, rfl⟩, N0, rfl⟩
          ·
            have pre28 : ∀ t, Steps p.tables e below (s₁.setTop (mkF m 72 #[.val (.int p1), .val (.int p2), .val (.int (p1 &&& (3 : Int32))), .val (.int ((XT.ushr p1 (2 : Int32)) % (3 : Int32))), .val (.int (404 : Int32))] [])) t → Steps p.tables e below (s₁.setTop (entryFrame m #[(.int p1), (.int p2)] 5)) t := by
              intro t k
              refine pre24 _ ?_
              refine XS.icmpYes X0.here hx rfl (pc0 := 61) (pc' := 72) rfl (hb hby d1_61) rfl (feq (hc25 : ¬ ((p1 &&& (3 : Int32)) = (2 : Int32)))).2 (by decide) (by decide) ?_
              exact k
            obtain ⟨fs, hr29, hrun, hended, hW, hsame⟩ := X0.leave (v := some (.int (404 : Int32))) (fun h => by rw [Bd.returns] at h; cases h)
            refine ⟨_, _, pre28 _ ?_, hrun, hended, _, _, rfl, ?_, ⟨_, rfl⟩, hW, hsame.mono (by decide) (by decide)⟩
            · show Steps p.tables e below (s₁.setTop (mkF m 72 #[.val (.int p1), .val (.int p2), .val (.int (p1 &&& (3 : Int32))), .val (.int ((XT.ushr p1 (2 : Int32)) % (3 : Int32))), .val (.int (404 : Int32))] [])) _
              refine XS.iload X0.here hx rfl (hb hby d1_72) rfl ?_
              show Steps p.tables e below (s₁.setTop (mkF m 74 #[.val (.int p1), .val (.int p2), .val (.int (p1 &&& (3 : Int32))), .val (.int ((XT.ushr p1 (2 : Int32)) % (3 : Int32))), .val (.int (404 : Int32))] [(.int (404 : Int32))])) _
              exact retOut X0 hx Bd.returns rfl (Or.inl ⟨rfl, Or.inl rfl, _, rfl⟩) (hb hby d1_74) hr29
            · show Q1 Z _ _ h0 n0 _ s₁.heap _
              rw [e0]
              exact ⟨⟨_, rfl⟩, N0, rfl⟩
        ·
          have pre30 : ∀ t, Steps p.tables e below (s₁.setTop (mkF m 54 #[.val (.int p1), .val (.int p2), .val (.int (p1 &&& (3 : Int32))), .val (.int ((XT.ushr p1 (2 : Int32)) % (3 : Int32))), .unset] [])) t → Steps p.tables e below (s₁.setTop (entryFrame m #[(.int p1), (.int p2)] 5)) t := by
            intro t k
            refine pre21 _ ?_
            refine XS.icmpYes X0.here hx rfl (pc0 := 45) (pc' := 54) rfl (hb hby d1_45) rfl (feq (hc22 : ¬ (((XT.ushr p1 (2 : Int32)) % (3 : Int32)) = (1 : Int32)))).2 (by decide) (by decide) ?_
            exact k
          have pre31 : ∀ t, Steps p.tables e below (s₁.setTop (mkF m 61 #[.val (.int p1), .val (.int p2), .val (.int (p1 &&& (3 : Int32))), .val (.int ((XT.ushr p1 (2 : Int32)) % (3 : Int32))), .val (.int (409 : Int32))] [(.int (2 : Int32)), (.int (p1 &&& (3 : Int32)))])) t → Steps p.tables e below (s₁.setTop (entryFrame m #[(.int p1), (.int p2)] 5)) t := by
            intro t k
            refine pre30 _ ?_
            show Steps p.tables e below (s₁.setTop (mkF m 54 #[.val (.int p1), .val (.int p2), .val (.int (p1 &&& (3 : Int32))), .val (.int ((XT.ushr p1 (2 : Int32)) % (3 : Int32))), .unset] [])) _
            refine XT.sipushV X0.here hx rfl (409 : Int32) (hb hby d1_54) (by decide) ?_
            show Steps p.tables e below (s₁.setTop (mkF m 57 #[.val (.int p1), .val (.int p2), .val (.int (p1 &&& (3 : Int32))), .val (.int ((XT.ushr p1 (2 : Int32)) % (3 : Int32))), .unset] [(.int (409 : Int32))])) _
            refine XS.istore X0.here hx rfl (hb hby d1_57) rfl (l' := #[.val (.int p1), .val (.int p2), .val (.int (p1 &&& (3 : Int32))), .val (.int ((XT.ushr p1 (2 : Int32)) % (3 : Int32))), .val (.int (409 : Int32))]) rfl ?_
            show Steps p.tables e below (s₁.setTop (mkF m 59 #[.val (.int p1), .val (.int p2), .val (.int (p1 &&& (3 : Int32))), .val (.int ((XT.ushr p1 (2 : Int32)) % (3 : Int32))), .val (.int (409 : Int32))] [])) _
            refine XS.iloadN X0.here hx rfl (hb hby d1_59) rfl ?_
            show Steps p.tables e below (s₁.setTop (mkF m 60 #[.val (.int p1), .val (.int p2), .val (.int (p1 &&& (3 : Int32))), .val (.int ((XT.ushr p1 (2 : Int32)) % (3 : Int32))), .val (.int (409 : Int32))] [(.int (p1 &&& (3 : Int32)))])) _
            refine XT.iconstV X0.here hx rfl (2 : Int32) (hb hby d1_60) (by decide) ?_
            show Steps p.tables e below (s₁.setTop (mkF m 61 #[.val (.int p1), .val (.int p2), .val (.int (p1 &&& (3 : Int32))), .val (.int ((XT.ushr p1 (2 : Int32)) % (3 : Int32))), .val (.int (409 : Int32))] [(.int (2 : Int32)), (.int (p1 &&& (3 : Int32)))])) _
            exact k
          by_cases hc32 : (p1 &&& (3 : Int32)) = (2 : Int32)
          ·
            have pre33 : ∀ t, Steps p.tables e below (s₁.setTop (mkF m 64 #[.val (.int p1), .val (.int p2), .val (.int (p1 &&& (3 : Int32))), .val (.int ((XT.ushr p1 (2 : Int32)) % (3 : Int32))), .val (.int (409 : Int32))] [])) t → Steps p.tables e below (s₁.setTop (entryFrame m #[(.int p1), (.int p2)] 5)) t := by
              intro t k
              refine pre31 _ ?_
              refine XS.icmpNo X0.here hx rfl (hb hby d1_61) rfl (teq (hc32 : (p1 &&& (3 : Int32)) = (2 : Int32))).2 ?_
              exact k
            obtain ⟨fs, hr34, hrun, hended, hW, hsame⟩ := X0.leave (v := some (.int ((409 : Int32) + (p2 <<< ((16 : Int32) &&& 31))))) (fun h => by rw [Bd.returns] at h; cases h)
            refine ⟨_, _, pre33 _ ?_, hrun, hended, _, _, rfl, ?_, ⟨_, rfl⟩, hW, hsame.mono (by decide) (by decide)⟩
            · show Steps p.tables e below (s₁.setTop (mkF m 64 #[.val (.int p1), .val (.int p2), .val (.int (p1 &&& (3 : Int32))), .val (.int ((XT.ushr p1 (2 : Int32)) % (3 : Int32))), .val (.int (409 : Int32))] [])) _
              refine XS.iload X0.here hx rfl (hb hby d1_64) rfl ?_
              show Steps p.tables e below (s₁.setTop (mkF m 66 #[.val (.int p1), .val (.int p2), .val (.int (p1 &&& (3 : Int32))), .val (.int ((XT.ushr p1 (2 : Int32)) % (3 : Int32))), .val (.int (409 : Int32))] [(.int (409 : Int32))])) _
              refine XS.iloadN X0.here hx rfl (hb hby d1_66) rfl ?_
              show Steps p.tables e below (s₁.setTop (mkF m 67 #[.val (.int p1), .val (.int p2), .val (.int (p1 &&& (3 : Int32))), .val (.int ((XT.ushr p1 (2 : Int32)) % (3 : Int32))), .val (.int (409 : Int32))] [(.int p2), (.int (409 : Int32))])) _
              refine XT.bipushV X0.here hx rfl (16 : Int32) (hb hby d1_67) (by decide) ?_
              show Steps p.tables e below (s₁.setTop (mkF m 69 #[.val (.int p1), .val (.int p2), .val (.int (p1 &&& (3 : Int32))), .val (.int ((XT.ushr p1 (2 : Int32)) % (3 : Int32))), .val (.int (409 : Int32))] [(.int (16 : Int32)), (.int p2), (.int (409 : Int32))])) _
              refine XT.ishl X0.here hx rfl (hb hby d1_69) rfl ?_
              show Steps p.tables e below (s₁.setTop (mkF m 70 #[.val (.int p1), .val (.int p2), .val (.int (p1 &&& (3 : Int32))), .val (.int ((XT.ushr p1 (2 : Int32)) % (3 : Int32))), .val (.int (409 : Int32))] [(.int (p2 <<< ((16 : Int32) &&& 31))), (.int (409 : Int32))])) _
              refine XS.iadd X0.here hx rfl (hb hby d1_70) rfl ?_
              show Steps p.tables e below (s₁.setTop (mkF m 71 #[.val (.int p1), .val (.int p2), .val (.int (p1 &&& (3 : Int32))), .val (.int ((XT.ushr p1 (2 : Int32)) % (3 : Int32))), .val (.int (409 : Int32))] [(.int ((409 : Int32) + (p2 <<< ((16 : Int32) &&& 31))))])) _
              exact retOut X0 hx Bd.returns rfl (Or.inl ⟨rfl, Or.inl rfl, _, rfl⟩) (hb hby d1_71) hr34
            · show Q1 Z _ _ h0 n0 _ s₁.heap _
              rw [e0]
              exact ⟨⟨_, rfl⟩, N0, rfl⟩
          ·
            have pre35 : ∀ t, Steps p.tables e below (s₁.setTop (mkF m 72 #[.val (.int p1), .val (.int p2), .val (.int (p1 &&& (3 : Int32))), .val (.int ((XT.ushr p1 (2 : Int32)) % (3 : Int32))), .val (.int (409 : Int32))] [])) t → Steps p.tables e below (s₁.setTop (entryFrame m #[(.int p1), (.int p2)] 5)) t := by
              intro t k
              refine pre31 _ ?_
              refine XS.icmpYes X0.here hx rfl (pc0 := 61) (pc' := 72) rfl (hb hby d1_61) rfl (feq (hc32 : ¬ ((p1 &&& (3 : Int32)) = (2 : Int32)))).2 (by decide) (by decide) ?_
              exact k
            obtain ⟨fs, hr36, hrun, hended, hW, hsame⟩ := X0.leave (v := some (.int (409 : Int32))) (fun h => by rw [Bd.returns] at h; cases h)
            refine ⟨_, _, pre35 _ ?_, hrun, hended, _, _, rfl, ?_, ⟨_, rfl⟩, hW, hsame.mono (by decide) (by decide)⟩
            · show Steps p.tables e below (s₁.setTop (mkF m 72 #[.val (.int p1), .val (.int p2), .val (.int (p1 &&& (3 : Int32))), .val (.int ((XT.ushr p1 (2 : Int32)) % (3 : Int32))), .val (.int (409 : Int32))] [])) _
              refine XS.iload X0.here hx rfl (hb hby d1_72) rfl ?_
              show Steps p.tables e below (s₁.setTop (mkF m 74 #[.val (.int p1), .val (.int p2), .val (.int (p1 &&& (3 : Int32))), .val (.int ((XT.ushr p1 (2 : Int32)) % (3 : Int32))), .val (.int (409 : Int32))] [(.int (409 : Int32))])) _
              exact retOut X0 hx Bd.returns rfl (Or.inl ⟨rfl, Or.inl rfl, _, rfl⟩) (hb hby d1_74) hr36
            · show Q1 Z _ _ h0 n0 _ s₁.heap _
              rw [e0]
              exact ⟨⟨_, rfl⟩, N0, rfl⟩
theorem d2_0 : decode prog_7_method_5_code 0 = .ok (.iload_n 0, 1) := by decide +kernel
theorem d2_1 : decode prog_7_method_5_code 1 = .ok (.lookupswitch 53 #[(400, 35), (404, 41), (409, 47)], 35) := by decide +kernel
theorem d2_36 : decode prog_7_method_5_code 36 = .ok (.getstatic 10, 3) := by decide +kernel
theorem d2_39 : decode prog_7_method_5_code 39 = .ok (.goto 18, 3) := by decide +kernel
theorem d2_42 : decode prog_7_method_5_code 42 = .ok (.getstatic 19, 3) := by decide +kernel
theorem d2_45 : decode prog_7_method_5_code 45 = .ok (.goto 12, 3) := by decide +kernel
theorem d2_48 : decode prog_7_method_5_code 48 = .ok (.getstatic 16, 3) := by decide +kernel
theorem d2_51 : decode prog_7_method_5_code 51 = .ok (.goto 6, 3) := by decide +kernel
theorem d2_54 : decode prog_7_method_5_code 54 = .ok (.getstatic 7, 3) := by decide +kernel
theorem d2_57 : decode prog_7_method_5_code 57 = .ok (.areturn, 1) := by decide +kernel
theorem pn_2 : plainName "com/example/claim/claim/ExitCode" = true := by first | (simp [plainName, overriddenIn]; done) | decide +kernel
theorem ef_2 (m : MethodId) (x0 : Int32) : entryFrame m #[(.int x0)] 1 = mkF m 0 #[.val (.int x0)] [] := by first | (simp [entryFrame, mkF, argsToLocals, Value.category]; done) | rfl
def Q2 (Z : State) (p1 : Int32) (w_FAILURE : Addr) (w_CONFLICT : Addr) (w_BAD_REQUEST : Addr) (w_NOT_FOUND : Addr) (r : Addr) (h0 : Heap) (n0 : Nat) (v : Option Value) (h : Heap) (L : List Loc) : Prop := v = some (.ref r) ∧ Fr n0 L ∧ h = h0
set_option maxRecDepth 65536 in
set_option maxHeartbeats 40000000 in
theorem rm2 (l : Launch) (Z : State) (a0 : Array Value) (hw : ∀ d ∈ tables_1, d.before a0 Z = true) (ws : List Jvm.Cond) (p1 : Int32) (w_FAILURE : Addr) (w_CONFLICT : Addr) (w_BAD_REQUEST : Addr) (w_NOT_FOUND : Addr) (r : Addr) (h0 : Heap) (n0 : Nat) (S_FAILURE : Sta Z h0 "com/example/claim/claim/ExitCode" "FAILURE" "Lcom/example/claim/claim/ExitCode;" (.ref w_FAILURE)) (S_CONFLICT : Sta Z h0 "com/example/claim/claim/ExitCode" "CONFLICT" "Lcom/example/claim/claim/ExitCode;" (.ref w_CONFLICT)) (S_BAD_REQUEST : Sta Z h0 "com/example/claim/claim/ExitCode" "BAD_REQUEST" "Lcom/example/claim/claim/ExitCode;" (.ref w_BAD_REQUEST)) (S_NOT_FOUND : Sta Z h0 "com/example/claim/claim/ExitCode" "NOT_FOUND" "Lcom/example/claim/claim/ExitCode;" (.ref w_NOT_FOUND)) (hr : own_code p1 w_FAILURE w_CONFLICT w_BAD_REQUEST w_NOT_FOUND = r) :
    MetFree l (⟨"com/example/claim/claim/ExitCode", "forHttpStatus", "(I)Lcom/example/claim/claim/ExitCode;"⟩ : MethodName) (head1 (Jvm.Cond.code (⟨"com/example/claim/claim/ExitCode", "forHttpStatus", "(I)Lcom/example/claim/claim/ExitCode;"⟩ : MethodName) prog_7_method_5_code 1 (some (.object "com/example/claim/claim/ExitCode")) :: ws) ({ frames := 0, cells := 0, slots := 0, locals := 0 } : Room)) (fun ar0 U => ar0 = #[(.int p1)] ∧ Z.Warmed39 U.vm ∧ U.heap = h0) (fun _ _ _ _ _ => True) (fun _ U o U' => ∃ v L, o = .returned v ∧ Q2 Z p1 w_FAILURE w_CONFLICT w_BAD_REQUEST w_NOT_FOUND r h0 n0 v U'.heap L ∧ FrameEnd U o U' L ({ frames := 0, cells := 0, slots := 0, locals := 0 } : Room).cells ({ frames := 0, cells := 0, slots := 0, locals := 0 } : Room).slots) := by
  refine MetFree.of_bodySF (plainFor_of_name pn_2) hisR ?_
  intro p e s m args below meth c s₁ Bd hml0 hP hK
  obtain ⟨rfl, hZ, hh⟩ := hP
  have hx := Bd.exec
  have hby := Bd.bytes
  have hml : c.maxLocals = 1 := hml0
  have hown : s.vm.findClass "com/example/claim/claim/ExitCode" = some m.cls := findClass_of_methodNamed Bd.named
  have X0 : Stand p l e ({ frames := 0, cells := 0, slots := 0, locals := 0 } : Room) s m #[(.int p1)] below meth c s₁ [] 0 0 := Stand.of_body Bd
  have e0 : s₁.heap = h0 := by rw [← hh, Bd.state]; rfl
  have N0 := Fr.nil n0
  have pre0 : ∀ t, Steps p.tables e below (s₁.setTop (mkF m 0 #[.val (.int p1)] [])) t → Steps p.tables e below (s₁.setTop (entryFrame m #[(.int p1)] 1)) t := fun t k => castTop (ef_2 m p1) k
  by_cases hc1 : p1 = (400 : Int32)
  ·
    obtain ⟨T2, X2, e2, st2⟩ := getS2 X0 hx hZ hown (host := "") (Or.inl (hw _ (List.mem_of_getElem? (i := 18) rfl))) Via.refl e0 S_BAD_REQUEST (g := (mkF m 36 #[.val (.int p1)] [])) rfl (hb hby d2_36)
    have hres : w_BAD_REQUEST = r := (show (own_code p1 w_FAILURE w_CONFLICT w_BAD_REQUEST w_NOT_FOUND) = w_BAD_REQUEST from (by unfold own_code; rw [if_pos (hc1 : p1 = (400 : Int32))])).symm.trans hr
    obtain ⟨fs, hr3, hrun, hended, hW, hsame⟩ := X2.leave (v := some (.ref w_BAD_REQUEST)) (fun h => by rw [Bd.returns] at h; cases h)
    refine ⟨_, _, pre0 _ ?_, hrun, hended, _, _, rfl, ?_, ⟨_, rfl⟩, hW, hsame.mono (by decide) (by decide)⟩
    · show Steps p.tables e below (s₁.setTop (mkF m 0 #[.val (.int p1)] [])) _
      refine XS.iloadN X0.here hx rfl (hb hby d2_0) rfl ?_
      show Steps p.tables e below (s₁.setTop (mkF m 1 #[.val (.int p1)] [(.int p1)])) _
      refine X0.lookupswitchHit hx (g := (mkF m 1 #[.val (.int p1)] [(.int p1)])) rfl rfl (hb hby d2_1) (by decide) (a := 400) (off := 35) (by rw [(hc1 : p1 = (400 : Int32))]; decide) (by show (0 : Int) ≤ ((1 : Nat) : Int) + 35; decide) _ ?_
      show Steps p.tables e below (s₁.setTop (mkF m 36 #[.val (.int p1)] [])) _
      refine st2 _ ?_
      show Steps p.tables e below (T2.setTop (mkF m 39 #[.val (.int p1)] [(.ref w_BAD_REQUEST)])) _
      refine XS.goto X2.here hx rfl (pc0 := 39) (pc' := 57) rfl (hb hby d2_39) (by decide) (by decide) ?_
      show Steps p.tables e below (T2.setTop (mkF m 57 #[.val (.int p1)] [(.ref w_BAD_REQUEST)])) _
      exact retOut X2 hx Bd.returns rfl (Or.inr (Or.inr (Or.inr (Or.inr ⟨rfl, rfl, rfl⟩)))) (hb hby d2_57) hr3
    · show Q2 Z _ _ _ _ _ _ h0 n0 _ T2.heap _
      rw [e2]
      exact ⟨by rw [hres], N0, rfl⟩
  ·
    by_cases hc4 : p1 = (404 : Int32)
    ·
      obtain ⟨T5, X5, e5, st5⟩ := getS2 X0 hx hZ hown (host := "") (Or.inl (hw _ (List.mem_of_getElem? (i := 21) rfl))) Via.refl e0 S_NOT_FOUND (g := (mkF m 42 #[.val (.int p1)] [])) rfl (hb hby d2_42)
      have hres : w_NOT_FOUND = r := (show (own_code p1 w_FAILURE w_CONFLICT w_BAD_REQUEST w_NOT_FOUND) = w_NOT_FOUND from (by unfold own_code; rw [if_neg (hc1 : ¬ (p1 = (400 : Int32))), if_pos (hc4 : p1 = (404 : Int32))])).symm.trans hr
      obtain ⟨fs, hr6, hrun, hended, hW, hsame⟩ := X5.leave (v := some (.ref w_NOT_FOUND)) (fun h => by rw [Bd.returns] at h; cases h)
      refine ⟨_, _, pre0 _ ?_, hrun, hended, _, _, rfl, ?_, ⟨_, rfl⟩, hW, hsame.mono (by decide) (by decide)⟩
      · show Steps p.tables e below (s₁.setTop (mkF m 0 #[.val (.int p1)] [])) _
        refine XS.iloadN X0.here hx rfl (hb hby d2_0) rfl ?_
        show Steps p.tables e below (s₁.setTop (mkF m 1 #[.val (.int p1)] [(.int p1)])) _
        refine X0.lookupswitchHit hx (g := (mkF m 1 #[.val (.int p1)] [(.int p1)])) rfl rfl (hb hby d2_1) (by decide) (a := 404) (off := 41) (by rw [(hc4 : p1 = (404 : Int32))]; decide) (by show (0 : Int) ≤ ((1 : Nat) : Int) + 41; decide) _ ?_
        show Steps p.tables e below (s₁.setTop (mkF m 42 #[.val (.int p1)] [])) _
        refine st5 _ ?_
        show Steps p.tables e below (T5.setTop (mkF m 45 #[.val (.int p1)] [(.ref w_NOT_FOUND)])) _
        refine XS.goto X5.here hx rfl (pc0 := 45) (pc' := 57) rfl (hb hby d2_45) (by decide) (by decide) ?_
        show Steps p.tables e below (T5.setTop (mkF m 57 #[.val (.int p1)] [(.ref w_NOT_FOUND)])) _
        exact retOut X5 hx Bd.returns rfl (Or.inr (Or.inr (Or.inr (Or.inr ⟨rfl, rfl, rfl⟩)))) (hb hby d2_57) hr6
      · show Q2 Z _ _ _ _ _ _ h0 n0 _ T5.heap _
        rw [e5]
        exact ⟨by rw [hres], N0, rfl⟩
    ·
      by_cases hc7 : p1 = (409 : Int32)
      ·
        obtain ⟨T8, X8, e8, st8⟩ := getS2 X0 hx hZ hown (host := "") (Or.inl (hw _ (List.mem_of_getElem? (i := 15) rfl))) Via.refl e0 S_CONFLICT (g := (mkF m 48 #[.val (.int p1)] [])) rfl (hb hby d2_48)
        have hres : w_CONFLICT = r := (show (own_code p1 w_FAILURE w_CONFLICT w_BAD_REQUEST w_NOT_FOUND) = w_CONFLICT from (by unfold own_code; rw [if_neg (hc1 : ¬ (p1 = (400 : Int32))), if_neg (hc4 : ¬ (p1 = (404 : Int32))), if_pos (hc7 : p1 = (409 : Int32))])).symm.trans hr
        obtain ⟨fs, hr9, hrun, hended, hW, hsame⟩ := X8.leave (v := some (.ref w_CONFLICT)) (fun h => by rw [Bd.returns] at h; cases h)
        refine ⟨_, _, pre0 _ ?_, hrun, hended, _, _, rfl, ?_, ⟨_, rfl⟩, hW, hsame.mono (by decide) (by decide)⟩
        · show Steps p.tables e below (s₁.setTop (mkF m 0 #[.val (.int p1)] [])) _
          refine XS.iloadN X0.here hx rfl (hb hby d2_0) rfl ?_
          show Steps p.tables e below (s₁.setTop (mkF m 1 #[.val (.int p1)] [(.int p1)])) _
          refine X0.lookupswitchHit hx (g := (mkF m 1 #[.val (.int p1)] [(.int p1)])) rfl rfl (hb hby d2_1) (by decide) (a := 409) (off := 47) (by rw [(hc7 : p1 = (409 : Int32))]; decide) (by show (0 : Int) ≤ ((1 : Nat) : Int) + 47; decide) _ ?_
          show Steps p.tables e below (s₁.setTop (mkF m 48 #[.val (.int p1)] [])) _
          refine st8 _ ?_
          show Steps p.tables e below (T8.setTop (mkF m 51 #[.val (.int p1)] [(.ref w_CONFLICT)])) _
          refine XS.goto X8.here hx rfl (pc0 := 51) (pc' := 57) rfl (hb hby d2_51) (by decide) (by decide) ?_
          show Steps p.tables e below (T8.setTop (mkF m 57 #[.val (.int p1)] [(.ref w_CONFLICT)])) _
          exact retOut X8 hx Bd.returns rfl (Or.inr (Or.inr (Or.inr (Or.inr ⟨rfl, rfl, rfl⟩)))) (hb hby d2_57) hr9
        · show Q2 Z _ _ _ _ _ _ h0 n0 _ T8.heap _
          rw [e8]
          exact ⟨by rw [hres], N0, rfl⟩
      ·
        obtain ⟨T10, X10, e10, st10⟩ := getS2 X0 hx hZ hown (host := "") (Or.inl (hw _ (List.mem_of_getElem? (i := 8) rfl))) Via.refl e0 S_FAILURE (g := (mkF m 54 #[.val (.int p1)] [])) rfl (hb hby d2_54)
        have hres : w_FAILURE = r := (show (own_code p1 w_FAILURE w_CONFLICT w_BAD_REQUEST w_NOT_FOUND) = w_FAILURE from (by unfold own_code; rw [if_neg (hc1 : ¬ (p1 = (400 : Int32))), if_neg (hc4 : ¬ (p1 = (404 : Int32))), if_neg (hc7 : ¬ (p1 = (409 : Int32)))])).symm.trans hr
        obtain ⟨fs, hr11, hrun, hended, hW, hsame⟩ := X10.leave (v := some (.ref w_FAILURE)) (fun h => by rw [Bd.returns] at h; cases h)
        refine ⟨_, _, pre0 _ ?_, hrun, hended, _, _, rfl, ?_, ⟨_, rfl⟩, hW, hsame.mono (by decide) (by decide)⟩
        · show Steps p.tables e below (s₁.setTop (mkF m 0 #[.val (.int p1)] [])) _
          refine XS.iloadN X0.here hx rfl (hb hby d2_0) rfl ?_
          show Steps p.tables e below (s₁.setTop (mkF m 1 #[.val (.int p1)] [(.int p1)])) _
          refine X0.lookupswitchMiss hx (g := (mkF m 1 #[.val (.int p1)] [(.int p1)])) rfl rfl (hb hby d2_1) (by decide) (own_miss hc1 hc4 hc7) (by show (0 : Int) ≤ ((1 : Nat) : Int) + 53; decide) _ ?_
          show Steps p.tables e below (s₁.setTop (mkF m 54 #[.val (.int p1)] [])) _
          refine st10 _ ?_
          show Steps p.tables e below (T10.setTop (mkF m 57 #[.val (.int p1)] [(.ref w_FAILURE)])) _
          exact retOut X10 hx Bd.returns rfl (Or.inr (Or.inr (Or.inr (Or.inr ⟨rfl, rfl, rfl⟩)))) (hb hby d2_57) hr11
        · show Q2 Z _ _ _ _ _ _ h0 n0 _ T10.heap _
          rw [e10]
          exact ⟨by rw [hres], N0, rfl⟩
theorem d3_0 : decode method_2_code 0 = .ok (.iload_n 0, 1) := by decide +kernel
theorem d3_1 : decode method_2_code 1 = .ok (.sipush 400, 3) := by decide +kernel
theorem d3_4 : decode method_2_code 4 = .ok (.if_icmp .ne 7, 3) := by decide +kernel
theorem d3_7 : decode method_2_code 7 = .ok (.getstatic 7, 3) := by decide +kernel
theorem d3_10 : decode method_2_code 10 = .ok (.areturn, 1) := by decide +kernel
theorem d3_11 : decode method_2_code 11 = .ok (.iload_n 0, 1) := by decide +kernel
theorem d3_12 : decode method_2_code 12 = .ok (.sipush 404, 3) := by decide +kernel
theorem d3_15 : decode method_2_code 15 = .ok (.if_icmp .ne 7, 3) := by decide +kernel
theorem d3_18 : decode method_2_code 18 = .ok (.getstatic 13, 3) := by decide +kernel
theorem d3_21 : decode method_2_code 21 = .ok (.areturn, 1) := by decide +kernel
theorem d3_22 : decode method_2_code 22 = .ok (.iload_n 0, 1) := by decide +kernel
theorem d3_23 : decode method_2_code 23 = .ok (.sipush 409, 3) := by decide +kernel
theorem d3_26 : decode method_2_code 26 = .ok (.if_icmp .ne 7, 3) := by decide +kernel
theorem d3_29 : decode method_2_code 29 = .ok (.getstatic 16, 3) := by decide +kernel
theorem d3_32 : decode method_2_code 32 = .ok (.areturn, 1) := by decide +kernel
theorem d3_33 : decode method_2_code 33 = .ok (.getstatic 19, 3) := by decide +kernel
theorem d3_36 : decode method_2_code 36 = .ok (.areturn, 1) := by decide +kernel
theorem pn_3 : plainName "com/example/claim/claim/ExitCodeForHttpStatusPinLaw" = true := by first | (simp [plainName, overriddenIn]; done) | decide +kernel
theorem ef_3 (m : MethodId) (x0 : Int32) : entryFrame m #[(.int x0)] 1 = mkF m 0 #[.val (.int x0)] [] := by first | (simp [entryFrame, mkF, argsToLocals, Value.category]; done) | rfl
def Q3 (Z : State) (p1 : Int32) (w_FAILURE : Addr) (w_CONFLICT : Addr) (w_BAD_REQUEST : Addr) (w_NOT_FOUND : Addr) (r : Addr) (h0 : Heap) (n0 : Nat) (v : Option Value) (h : Heap) (L : List Loc) : Prop := v = some (.ref r) ∧ Fr n0 L ∧ h = h0
set_option maxRecDepth 65536 in
set_option maxHeartbeats 40000000 in
theorem rm3 (l : Launch) (Z : State) (a0 : Array Value) (hw : ∀ d ∈ tables_1, d.before a0 Z = true) (ws : List Jvm.Cond) (p1 : Int32) (w_FAILURE : Addr) (w_CONFLICT : Addr) (w_BAD_REQUEST : Addr) (w_NOT_FOUND : Addr) (r : Addr) (h0 : Heap) (n0 : Nat) (S_FAILURE : Sta Z h0 "com/example/claim/claim/ExitCode" "FAILURE" "Lcom/example/claim/claim/ExitCode;" (.ref w_FAILURE)) (S_CONFLICT : Sta Z h0 "com/example/claim/claim/ExitCode" "CONFLICT" "Lcom/example/claim/claim/ExitCode;" (.ref w_CONFLICT)) (S_BAD_REQUEST : Sta Z h0 "com/example/claim/claim/ExitCode" "BAD_REQUEST" "Lcom/example/claim/claim/ExitCode;" (.ref w_BAD_REQUEST)) (S_NOT_FOUND : Sta Z h0 "com/example/claim/claim/ExitCode" "NOT_FOUND" "Lcom/example/claim/claim/ExitCode;" (.ref w_NOT_FOUND)) (hr : own_code p1 w_FAILURE w_CONFLICT w_BAD_REQUEST w_NOT_FOUND = r) :
    MetFree l (⟨"com/example/claim/claim/ExitCodeForHttpStatusPinLaw", "expected", "(I)Lcom/example/claim/claim/ExitCode;"⟩ : MethodName) (head1 (Jvm.Cond.code (⟨"com/example/claim/claim/ExitCodeForHttpStatusPinLaw", "expected", "(I)Lcom/example/claim/claim/ExitCode;"⟩ : MethodName) method_2_code 1 (some (.object "com/example/claim/claim/ExitCode")) :: ws) ({ frames := 0, cells := 0, slots := 0, locals := 0 } : Room)) (fun ar0 U => ar0 = #[(.int p1)] ∧ Z.Warmed39 U.vm ∧ U.heap = h0) (fun _ _ _ _ _ => True) (fun _ U o U' => ∃ v L, o = .returned v ∧ Q3 Z p1 w_FAILURE w_CONFLICT w_BAD_REQUEST w_NOT_FOUND r h0 n0 v U'.heap L ∧ FrameEnd U o U' L ({ frames := 0, cells := 0, slots := 0, locals := 0 } : Room).cells ({ frames := 0, cells := 0, slots := 0, locals := 0 } : Room).slots) := by
  refine MetFree.of_bodySF (plainFor_of_name pn_3) hisR ?_
  intro p e s m args below meth c s₁ Bd hml0 hP hK
  obtain ⟨rfl, hZ, hh⟩ := hP
  have hx := Bd.exec
  have hby := Bd.bytes
  have hml : c.maxLocals = 1 := hml0
  have hown : s.vm.findClass "com/example/claim/claim/ExitCodeForHttpStatusPinLaw" = some m.cls := findClass_of_methodNamed Bd.named
  have X0 : Stand p l e ({ frames := 0, cells := 0, slots := 0, locals := 0 } : Room) s m #[(.int p1)] below meth c s₁ [] 0 0 := Stand.of_body Bd
  have e0 : s₁.heap = h0 := by rw [← hh, Bd.state]; rfl
  have N0 := Fr.nil n0
  have pre0 : ∀ t, Steps p.tables e below (s₁.setTop (mkF m 0 #[.val (.int p1)] [])) t → Steps p.tables e below (s₁.setTop (entryFrame m #[(.int p1)] 1)) t := fun t k => castTop (ef_3 m p1) k
  have pre1 : ∀ t, Steps p.tables e below (s₁.setTop (mkF m 4 #[.val (.int p1)] [(.int (400 : Int32)), (.int p1)])) t → Steps p.tables e below (s₁.setTop (entryFrame m #[(.int p1)] 1)) t := by
    intro t k
    refine pre0 _ ?_
    show Steps p.tables e below (s₁.setTop (mkF m 0 #[.val (.int p1)] [])) _
    refine XS.iloadN X0.here hx rfl (hb hby d3_0) rfl ?_
    show Steps p.tables e below (s₁.setTop (mkF m 1 #[.val (.int p1)] [(.int p1)])) _
    refine XT.sipushV X0.here hx rfl (400 : Int32) (hb hby d3_1) (by decide) ?_
    show Steps p.tables e below (s₁.setTop (mkF m 4 #[.val (.int p1)] [(.int (400 : Int32)), (.int p1)])) _
    exact k
  by_cases hc2 : p1 = (400 : Int32)
  ·
    have pre3 : ∀ t, Steps p.tables e below (s₁.setTop (mkF m 7 #[.val (.int p1)] [])) t → Steps p.tables e below (s₁.setTop (entryFrame m #[(.int p1)] 1)) t := by
      intro t k
      refine pre1 _ ?_
      refine XS.icmpNo X0.here hx rfl (hb hby d3_4) rfl (teq (hc2 : p1 = (400 : Int32))).2 ?_
      exact k
    obtain ⟨T4, X4, e4, st4⟩ := getS2 X0 hx hZ hown (host := "") (Or.inl (hw _ (List.mem_of_getElem? (i := 20) rfl))) Via.refl e0 S_BAD_REQUEST (g := (mkF m 7 #[.val (.int p1)] [])) rfl (hb hby d3_7)
    have hres : w_BAD_REQUEST = r := (show (own_code p1 w_FAILURE w_CONFLICT w_BAD_REQUEST w_NOT_FOUND) = w_BAD_REQUEST from (by unfold own_code; rw [if_pos (hc2 : p1 = (400 : Int32))])).symm.trans hr
    obtain ⟨fs, hr5, hrun, hended, hW, hsame⟩ := X4.leave (v := some (.ref w_BAD_REQUEST)) (fun h => by rw [Bd.returns] at h; cases h)
    refine ⟨_, _, pre3 _ ?_, hrun, hended, _, _, rfl, ?_, ⟨_, rfl⟩, hW, hsame.mono (by decide) (by decide)⟩
    · show Steps p.tables e below (s₁.setTop (mkF m 7 #[.val (.int p1)] [])) _
      refine st4 _ ?_
      show Steps p.tables e below (T4.setTop (mkF m 10 #[.val (.int p1)] [(.ref w_BAD_REQUEST)])) _
      exact retOut X4 hx Bd.returns rfl (Or.inr (Or.inr (Or.inr (Or.inr ⟨rfl, rfl, rfl⟩)))) (hb hby d3_10) hr5
    · show Q3 Z _ _ _ _ _ _ h0 n0 _ T4.heap _
      rw [e4]
      exact ⟨by rw [hres], N0, rfl⟩
  ·
    have pre6 : ∀ t, Steps p.tables e below (s₁.setTop (mkF m 11 #[.val (.int p1)] [])) t → Steps p.tables e below (s₁.setTop (entryFrame m #[(.int p1)] 1)) t := by
      intro t k
      refine pre1 _ ?_
      refine XS.icmpYes X0.here hx rfl (pc0 := 4) (pc' := 11) rfl (hb hby d3_4) rfl (feq (hc2 : ¬ (p1 = (400 : Int32)))).2 (by decide) (by decide) ?_
      exact k
    have pre7 : ∀ t, Steps p.tables e below (s₁.setTop (mkF m 15 #[.val (.int p1)] [(.int (404 : Int32)), (.int p1)])) t → Steps p.tables e below (s₁.setTop (entryFrame m #[(.int p1)] 1)) t := by
      intro t k
      refine pre6 _ ?_
      show Steps p.tables e below (s₁.setTop (mkF m 11 #[.val (.int p1)] [])) _
      refine XS.iloadN X0.here hx rfl (hb hby d3_11) rfl ?_
      show Steps p.tables e below (s₁.setTop (mkF m 12 #[.val (.int p1)] [(.int p1)])) _
      refine XT.sipushV X0.here hx rfl (404 : Int32) (hb hby d3_12) (by decide) ?_
      show Steps p.tables e below (s₁.setTop (mkF m 15 #[.val (.int p1)] [(.int (404 : Int32)), (.int p1)])) _
      exact k
    by_cases hc8 : p1 = (404 : Int32)
    ·
      have pre9 : ∀ t, Steps p.tables e below (s₁.setTop (mkF m 18 #[.val (.int p1)] [])) t → Steps p.tables e below (s₁.setTop (entryFrame m #[(.int p1)] 1)) t := by
        intro t k
        refine pre7 _ ?_
        refine XS.icmpNo X0.here hx rfl (hb hby d3_15) rfl (teq (hc8 : p1 = (404 : Int32))).2 ?_
        exact k
      obtain ⟨T10, X10, e10, st10⟩ := getS2 X0 hx hZ hown (host := "") (Or.inl (hw _ (List.mem_of_getElem? (i := 23) rfl))) Via.refl e0 S_NOT_FOUND (g := (mkF m 18 #[.val (.int p1)] [])) rfl (hb hby d3_18)
      have hres : w_NOT_FOUND = r := (show (own_code p1 w_FAILURE w_CONFLICT w_BAD_REQUEST w_NOT_FOUND) = w_NOT_FOUND from (by unfold own_code; rw [if_neg (hc2 : ¬ (p1 = (400 : Int32))), if_pos (hc8 : p1 = (404 : Int32))])).symm.trans hr
      obtain ⟨fs, hr11, hrun, hended, hW, hsame⟩ := X10.leave (v := some (.ref w_NOT_FOUND)) (fun h => by rw [Bd.returns] at h; cases h)
      refine ⟨_, _, pre9 _ ?_, hrun, hended, _, _, rfl, ?_, ⟨_, rfl⟩, hW, hsame.mono (by decide) (by decide)⟩
      · show Steps p.tables e below (s₁.setTop (mkF m 18 #[.val (.int p1)] [])) _
        refine st10 _ ?_
        show Steps p.tables e below (T10.setTop (mkF m 21 #[.val (.int p1)] [(.ref w_NOT_FOUND)])) _
        exact retOut X10 hx Bd.returns rfl (Or.inr (Or.inr (Or.inr (Or.inr ⟨rfl, rfl, rfl⟩)))) (hb hby d3_21) hr11
      · show Q3 Z _ _ _ _ _ _ h0 n0 _ T10.heap _
        rw [e10]
        exact ⟨by rw [hres], N0, rfl⟩
    ·
      have pre12 : ∀ t, Steps p.tables e below (s₁.setTop (mkF m 22 #[.val (.int p1)] [])) t → Steps p.tables e below (s₁.setTop (entryFrame m #[(.int p1)] 1)) t := by
        intro t k
        refine pre7 _ ?_
        refine XS.icmpYes X0.here hx rfl (pc0 := 15) (pc' := 22) rfl (hb hby d3_15) rfl (feq (hc8 : ¬ (p1 = (404 : Int32)))).2 (by decide) (by decide) ?_
        exact k
      have pre13 : ∀ t, Steps p.tables e below (s₁.setTop (mkF m 26 #[.val (.int p1)] [(.int (409 : Int32)), (.int p1)])) t → Steps p.tables e below (s₁.setTop (entryFrame m #[(.int p1)] 1)) t := by
        intro t k
        refine pre12 _ ?_
        show Steps p.tables e below (s₁.setTop (mkF m 22 #[.val (.int p1)] [])) _
        refine XS.iloadN X0.here hx rfl (hb hby d3_22) rfl ?_
        show Steps p.tables e below (s₁.setTop (mkF m 23 #[.val (.int p1)] [(.int p1)])) _
        refine XT.sipushV X0.here hx rfl (409 : Int32) (hb hby d3_23) (by decide) ?_
        show Steps p.tables e below (s₁.setTop (mkF m 26 #[.val (.int p1)] [(.int (409 : Int32)), (.int p1)])) _
        exact k
      by_cases hc14 : p1 = (409 : Int32)
      ·
        have pre15 : ∀ t, Steps p.tables e below (s₁.setTop (mkF m 29 #[.val (.int p1)] [])) t → Steps p.tables e below (s₁.setTop (entryFrame m #[(.int p1)] 1)) t := by
          intro t k
          refine pre13 _ ?_
          refine XS.icmpNo X0.here hx rfl (hb hby d3_26) rfl (teq (hc14 : p1 = (409 : Int32))).2 ?_
          exact k
        obtain ⟨T16, X16, e16, st16⟩ := getS2 X0 hx hZ hown (host := "") (Or.inl (hw _ (List.mem_of_getElem? (i := 17) rfl))) Via.refl e0 S_CONFLICT (g := (mkF m 29 #[.val (.int p1)] [])) rfl (hb hby d3_29)
        have hres : w_CONFLICT = r := (show (own_code p1 w_FAILURE w_CONFLICT w_BAD_REQUEST w_NOT_FOUND) = w_CONFLICT from (by unfold own_code; rw [if_neg (hc2 : ¬ (p1 = (400 : Int32))), if_neg (hc8 : ¬ (p1 = (404 : Int32))), if_pos (hc14 : p1 = (409 : Int32))])).symm.trans hr
        obtain ⟨fs, hr17, hrun, hended, hW, hsame⟩ := X16.leave (v := some (.ref w_CONFLICT)) (fun h => by rw [Bd.returns] at h; cases h)
        refine ⟨_, _, pre15 _ ?_, hrun, hended, _, _, rfl, ?_, ⟨_, rfl⟩, hW, hsame.mono (by decide) (by decide)⟩
        · show Steps p.tables e below (s₁.setTop (mkF m 29 #[.val (.int p1)] [])) _
          refine st16 _ ?_
          show Steps p.tables e below (T16.setTop (mkF m 32 #[.val (.int p1)] [(.ref w_CONFLICT)])) _
          exact retOut X16 hx Bd.returns rfl (Or.inr (Or.inr (Or.inr (Or.inr ⟨rfl, rfl, rfl⟩)))) (hb hby d3_32) hr17
        · show Q3 Z _ _ _ _ _ _ h0 n0 _ T16.heap _
          rw [e16]
          exact ⟨by rw [hres], N0, rfl⟩
      ·
        have pre18 : ∀ t, Steps p.tables e below (s₁.setTop (mkF m 33 #[.val (.int p1)] [])) t → Steps p.tables e below (s₁.setTop (entryFrame m #[(.int p1)] 1)) t := by
          intro t k
          refine pre13 _ ?_
          refine XS.icmpYes X0.here hx rfl (pc0 := 26) (pc' := 33) rfl (hb hby d3_26) rfl (feq (hc14 : ¬ (p1 = (409 : Int32)))).2 (by decide) (by decide) ?_
          exact k
        obtain ⟨T19, X19, e19, st19⟩ := getS2 X0 hx hZ hown (host := "") (Or.inl (hw _ (List.mem_of_getElem? (i := 13) rfl))) Via.refl e0 S_FAILURE (g := (mkF m 33 #[.val (.int p1)] [])) rfl (hb hby d3_33)
        have hres : w_FAILURE = r := (show (own_code p1 w_FAILURE w_CONFLICT w_BAD_REQUEST w_NOT_FOUND) = w_FAILURE from (by unfold own_code; rw [if_neg (hc2 : ¬ (p1 = (400 : Int32))), if_neg (hc8 : ¬ (p1 = (404 : Int32))), if_neg (hc14 : ¬ (p1 = (409 : Int32)))])).symm.trans hr
        obtain ⟨fs, hr20, hrun, hended, hW, hsame⟩ := X19.leave (v := some (.ref w_FAILURE)) (fun h => by rw [Bd.returns] at h; cases h)
        refine ⟨_, _, pre18 _ ?_, hrun, hended, _, _, rfl, ?_, ⟨_, rfl⟩, hW, hsame.mono (by decide) (by decide)⟩
        · show Steps p.tables e below (s₁.setTop (mkF m 33 #[.val (.int p1)] [])) _
          refine st19 _ ?_
          show Steps p.tables e below (T19.setTop (mkF m 36 #[.val (.int p1)] [(.ref w_FAILURE)])) _
          exact retOut X19 hx Bd.returns rfl (Or.inr (Or.inr (Or.inr (Or.inr ⟨rfl, rfl, rfl⟩)))) (hb hby d3_36) hr20
        · show Q3 Z _ _ _ _ _ _ h0 n0 _ T19.heap _
          rw [e19]
          exact ⟨by rw [hres], N0, rfl⟩
theorem pn_0 : plainName "com/example/claim/claim/ExitCodeForHttpStatusPinLaw" = true := by first | (simp [plainName, overriddenIn]; done) | decide +kernel
theorem ef_0 (m : MethodId) (x0 : Int32) (x1 : Int32) : entryFrame m #[(.int x0), (.int x1)] maxLocals = mkF m 0 #[.val (.int x0), .val (.int x1), .unset, .unset] [] := by first | (simp [entryFrame, mkF, argsToLocals, Value.category, maxLocals]; done) | rfl
def Q0 (Z : State) (p1 : Int32) (p2 : Int32) (w_FAILURE : Addr) (w_CONFLICT : Addr) (w_BAD_REQUEST : Addr) (w_NOT_FOUND : Addr) (h0 : Heap) (n0 : Nat) (v : Option Value) (h : Heap) (L : List Loc) : Prop := v = some (.int (1 : Int32)) ∧ Fr n0 L
set_option maxRecDepth 65536 in
set_option maxHeartbeats 40000000 in
theorem rm0 (l : Launch) (Z : State) (a0 : Array Value) (hw : ∀ d ∈ tables_1, d.before a0 Z = true) (ws : List Jvm.Cond) (p1 : Int32) (p2 : Int32) (w_FAILURE : Addr) (w_CONFLICT : Addr) (w_BAD_REQUEST : Addr) (w_NOT_FOUND : Addr) (h0 : Heap) (n0 : Nat) (S_FAILURE : Sta Z h0 "com/example/claim/claim/ExitCode" "FAILURE" "Lcom/example/claim/claim/ExitCode;" (.ref w_FAILURE)) (S_CONFLICT : Sta Z h0 "com/example/claim/claim/ExitCode" "CONFLICT" "Lcom/example/claim/claim/ExitCode;" (.ref w_CONFLICT)) (S_BAD_REQUEST : Sta Z h0 "com/example/claim/claim/ExitCode" "BAD_REQUEST" "Lcom/example/claim/claim/ExitCode;" (.ref w_BAD_REQUEST)) (S_NOT_FOUND : Sta Z h0 "com/example/claim/claim/ExitCode" "NOT_FOUND" "Lcom/example/claim/claim/ExitCode;" (.ref w_NOT_FOUND)) (E_FAILURE : Exa Z h0 w_FAILURE "com/example/claim/claim/ExitCode") (E_CONFLICT : Exa Z h0 w_CONFLICT "com/example/claim/claim/ExitCode") (E_BAD_REQUEST : Exa Z h0 w_BAD_REQUEST "com/example/claim/claim/ExitCode") (E_NOT_FOUND : Exa Z h0 w_NOT_FOUND "com/example/claim/claim/ExitCode") :
    MetFree l x (head1 (Jvm.Cond.code x code maxLocals ret :: ws) room_1) (fun ar0 U => ar0 = #[(.int p1), (.int p2)] ∧ Z.Warmed39 U.vm ∧ U.heap = h0) (fun _ _ _ _ _ => True) (fun _ U o U' => ∃ v L, o = .returned v ∧ Q0 Z p1 p2 w_FAILURE w_CONFLICT w_BAD_REQUEST w_NOT_FOUND h0 n0 v U'.heap L ∧ FrameEnd U o U' L room_1.cells room_1.slots) := by
  refine MetFree.of_bodySF (plainFor_of_name pn_0) hisR ?_
  intro p e s m args below meth c s₁ Bd hml0 hP hK
  obtain ⟨rfl, hZ, hh⟩ := hP
  have hx := Bd.exec
  have hby := Bd.bytes
  have hml : c.maxLocals = 4 := hml0
  have hown : s.vm.findClass "com/example/claim/claim/ExitCodeForHttpStatusPinLaw" = some m.cls := findClass_of_methodNamed Bd.named
  have X0 : Stand p l e room_1 s m #[(.int p1), (.int p2)] below meth c s₁ [] 0 0 := Stand.of_body Bd
  have e0 : s₁.heap = h0 := by rw [← hh, Bd.state]; rfl
  have N0 := Fr.nil n0
  have pre0 : ∀ t, Steps p.tables e below (s₁.setTop (mkF m 0 #[.val (.int p1), .val (.int p2), .unset, .unset] [])) t → Steps p.tables e below (s₁.setTop (entryFrame m #[(.int p1), (.int p2)] maxLocals)) t := fun t k => castTop (ef_0 m p1 p2) k
  obtain ⟨_, _, ⟨T1, L1, k1, n1⟩, -, X1, ⟨Lc1, hQ1, l1, y1, z1⟩, st1⟩ := Jvm.LawKit.callS X0 hx (y := (⟨"com/example/claim/claim/ExitCodeForHttpStatusPinLaw", "status", "(II)I"⟩ : MethodName)) hown (mvT hZ (hw _ (List.mem_of_getElem? (i := 0) rfl))) (mvT hZ (hw _ (List.mem_of_getElem? (i := 1) rfl))) (mvT hZ (hw _ (List.mem_of_getElem? (i := 2) rfl))) (mvT hZ (hw _ (List.mem_of_getElem? (i := 3) rfl))) (by decide) (backOf (W := 0) (rm1 l Z a0 hw [] p1 p2  h0 n0 ) hZ (hw _ (List.mem_of_getElem? (i := 3) rfl)) (hw _ (List.mem_of_getElem? (i := 2) rfl)) (by decide) (by decide)) (g := (mkF m 2 #[.val (.int p1), .val (.int p2), .unset, .unset] [(.int p2), (.int p1)])) rfl (by rw [hml]; rfl) (argsL := [(.int p1), (.int p2)]) (rest := []) (lenOf (show parseMethodDescriptor "(II)I" = some ⟨[.int, .int], some .int⟩ by decide +kernel) rfl) rfl (by show 2 * 0 + _ ≤ _; exact Nat.le_of_eq rfl) (hb hby at_2) (fun _ _ => ⟨rfl, e0, (by decide : 0 + 0 ≤ _), (by decide : 0 + 0 ≤ _)⟩)
  dsimp only [Pt.U, Pt.locs, Pt.cells, Pt.slots] at X1 l1 y1 z1 st1 hQ1
  subst l1 y1 z1
  obtain ⟨⟨zs1, rfl⟩, Nq1, e1⟩ := hQ1
  have N1 := Fr.app N0 Nq1
  obtain ⟨_, _, ⟨T2, L2, k2, n2⟩, -, X2, ⟨Lc2, hQ2, l2, y2, z2⟩, st2⟩ := Jvm.LawKit.callS X1 hx (y := (⟨"com/example/claim/claim/ExitCode", "forHttpStatus", "(I)Lcom/example/claim/claim/ExitCode;"⟩ : MethodName)) hown (mvT hZ (hw _ (List.mem_of_getElem? (i := 4) rfl))) (mvT hZ (hw _ (List.mem_of_getElem? (i := 5) rfl))) (mvT hZ (hw _ (List.mem_of_getElem? (i := 6) rfl))) (mvT hZ (hw _ (List.mem_of_getElem? (i := 7) rfl))) (by decide) (backOf (W := 0) (rm2 l Z a0 hw [] zs1 w_FAILURE w_CONFLICT w_BAD_REQUEST w_NOT_FOUND (own_code zs1 w_FAILURE w_CONFLICT w_BAD_REQUEST w_NOT_FOUND) h0 n0 S_FAILURE S_CONFLICT S_BAD_REQUEST S_NOT_FOUND rfl) hZ (hw _ (List.mem_of_getElem? (i := 7) rfl)) (hw _ (List.mem_of_getElem? (i := 6) rfl)) (by decide) (by decide)) (g := (mkF m 7 #[.val (.int p1), .val (.int p2), .val (.int zs1), .unset] [(.int zs1)])) rfl (by rw [hml]; rfl) (argsL := [(.int zs1)]) (rest := []) (lenOf (show parseMethodDescriptor "(I)Lcom/example/claim/claim/ExitCode;" = some ⟨[.int], some (.object "com/example/claim/claim/ExitCode")⟩ by decide +kernel) rfl) rfl (by show 2 * 0 + _ ≤ _; exact Nat.le_of_eq rfl) (hb hby at_7) (fun _ _ => ⟨rfl, e1, (by decide : 0 + 0 ≤ _), (by decide : 0 + 0 ≤ _)⟩)
  dsimp only [Pt.U, Pt.locs, Pt.cells, Pt.slots] at X2 l2 y2 z2 st2 hQ2
  subst l2 y2 z2
  obtain ⟨rfl, Nq2, e2⟩ := hQ2
  have N2 := Fr.app N1 Nq2
  obtain ⟨_, _, ⟨T3, L3, k3, n3⟩, -, X3, ⟨Lc3, hQ3, l3, y3, z3⟩, st3⟩ := Jvm.LawKit.callS X2 hx (y := (⟨"com/example/claim/claim/ExitCodeForHttpStatusPinLaw", "expected", "(I)Lcom/example/claim/claim/ExitCode;"⟩ : MethodName)) hown (mvT hZ (hw _ (List.mem_of_getElem? (i := 10) rfl))) (mvT hZ (hw _ (List.mem_of_getElem? (i := 11) rfl))) (mvT hZ (hw _ (List.mem_of_getElem? (i := 2) rfl))) (mvT hZ (hw _ (List.mem_of_getElem? (i := 12) rfl))) (by decide) (backOf (W := 1) (rm3 l Z a0 hw [] zs1 w_FAILURE w_CONFLICT w_BAD_REQUEST w_NOT_FOUND (own_code zs1 w_FAILURE w_CONFLICT w_BAD_REQUEST w_NOT_FOUND) h0 n0 S_FAILURE S_CONFLICT S_BAD_REQUEST S_NOT_FOUND rfl) hZ (hw _ (List.mem_of_getElem? (i := 12) rfl)) (hw _ (List.mem_of_getElem? (i := 2) rfl)) (by decide) (by decide)) (g := (mkF m 13 #[.val (.int p1), .val (.int p2), .val (.int zs1), .val (.ref (own_code zs1 w_FAILURE w_CONFLICT w_BAD_REQUEST w_NOT_FOUND))] [(.int zs1), (.ref (own_code zs1 w_FAILURE w_CONFLICT w_BAD_REQUEST w_NOT_FOUND))])) rfl (by rw [hml]; rfl) (argsL := [(.int zs1)]) (rest := [(.ref (own_code zs1 w_FAILURE w_CONFLICT w_BAD_REQUEST w_NOT_FOUND))]) (lenOf (show parseMethodDescriptor "(I)Lcom/example/claim/claim/ExitCode;" = some ⟨[.int], some (.object "com/example/claim/claim/ExitCode")⟩ by decide +kernel) rfl) rfl (by show 2 * 0 + _ ≤ _; exact Nat.le_of_eq rfl) (hb hby at_13) (fun _ _ => ⟨rfl, e2, (by decide : 0 + 0 ≤ _), (by decide : 0 + 0 ≤ _)⟩)
  dsimp only [Pt.U, Pt.locs, Pt.cells, Pt.slots] at X3 l3 y3 z3 st3 hQ3
  subst l3 y3 z3
  obtain ⟨rfl, Nq3, e3⟩ := hQ3
  have N3 := Fr.app N2 Nq3
  obtain ⟨fs, hr4, hrun, hended, hW, hsame⟩ := X3.leave (v := some (.int (1 : Int32))) (fun h => by rw [Bd.returns] at h; cases h)
  refine ⟨_, _, pre0 _ ?_, hrun, hended, _, _, rfl, ?_, ⟨_, rfl⟩, hW, hsame.mono (by decide) (by decide)⟩
  · show Steps p.tables e below (s₁.setTop (mkF m 0 #[.val (.int p1), .val (.int p2), .unset, .unset] [])) _
    refine XS.iloadN X0.here hx rfl (hb hby at_0) rfl ?_
    show Steps p.tables e below (s₁.setTop (mkF m 1 #[.val (.int p1), .val (.int p2), .unset, .unset] [(.int p1)])) _
    refine XS.iloadN X0.here hx rfl (hb hby at_1) rfl ?_
    show Steps p.tables e below (s₁.setTop (mkF m 2 #[.val (.int p1), .val (.int p2), .unset, .unset] [(.int p2), (.int p1)])) _
    refine st1 _ ?_
    show Steps p.tables e below (T1.setTop (mkF m 5 #[.val (.int p1), .val (.int p2), .unset, .unset] [(.int zs1)])) _
    refine XS.istoreN X1.here hx rfl (hb hby at_5) rfl (l' := #[.val (.int p1), .val (.int p2), .val (.int zs1), .unset]) rfl ?_
    show Steps p.tables e below (T1.setTop (mkF m 6 #[.val (.int p1), .val (.int p2), .val (.int zs1), .unset] [])) _
    refine XS.iloadN X1.here hx rfl (hb hby at_6) rfl ?_
    show Steps p.tables e below (T1.setTop (mkF m 7 #[.val (.int p1), .val (.int p2), .val (.int zs1), .unset] [(.int zs1)])) _
    refine st2 _ ?_
    show Steps p.tables e below (T2.setTop (mkF m 10 #[.val (.int p1), .val (.int p2), .val (.int zs1), .unset] [(.ref (own_code zs1 w_FAILURE w_CONFLICT w_BAD_REQUEST w_NOT_FOUND))])) _
    refine XS.astoreN X2.here hx rfl (hb hby at_10) rfl rfl (l' := #[.val (.int p1), .val (.int p2), .val (.int zs1), .val (.ref (own_code zs1 w_FAILURE w_CONFLICT w_BAD_REQUEST w_NOT_FOUND))]) rfl ?_
    show Steps p.tables e below (T2.setTop (mkF m 11 #[.val (.int p1), .val (.int p2), .val (.int zs1), .val (.ref (own_code zs1 w_FAILURE w_CONFLICT w_BAD_REQUEST w_NOT_FOUND))] [])) _
    refine XS.aloadN X2.here hx rfl (hb hby at_11) rfl rfl ?_
    show Steps p.tables e below (T2.setTop (mkF m 12 #[.val (.int p1), .val (.int p2), .val (.int zs1), .val (.ref (own_code zs1 w_FAILURE w_CONFLICT w_BAD_REQUEST w_NOT_FOUND))] [(.ref (own_code zs1 w_FAILURE w_CONFLICT w_BAD_REQUEST w_NOT_FOUND))])) _
    refine XS.iloadN X2.here hx rfl (hb hby at_12) rfl ?_
    show Steps p.tables e below (T2.setTop (mkF m 13 #[.val (.int p1), .val (.int p2), .val (.int zs1), .val (.ref (own_code zs1 w_FAILURE w_CONFLICT w_BAD_REQUEST w_NOT_FOUND))] [(.int zs1), (.ref (own_code zs1 w_FAILURE w_CONFLICT w_BAD_REQUEST w_NOT_FOUND))])) _
    refine st3 _ ?_
    show Steps p.tables e below (T3.setTop (mkF m 16 #[.val (.int p1), .val (.int p2), .val (.int zs1), .val (.ref (own_code zs1 w_FAILURE w_CONFLICT w_BAD_REQUEST w_NOT_FOUND))] [(.ref (own_code zs1 w_FAILURE w_CONFLICT w_BAD_REQUEST w_NOT_FOUND)), (.ref (own_code zs1 w_FAILURE w_CONFLICT w_BAD_REQUEST w_NOT_FOUND))])) _
    refine Jvm.RoadKit.acmp (g := (mkF m 16 #[.val (.int p1), .val (.int p2), .val (.int zs1), .val (.ref (own_code zs1 w_FAILURE w_CONFLICT w_BAD_REQUEST w_NOT_FOUND))] [(.ref (own_code zs1 w_FAILURE w_CONFLICT w_BAD_REQUEST w_NOT_FOUND)), (.ref (own_code zs1 w_FAILURE w_CONFLICT w_BAD_REQUEST w_NOT_FOUND))])) X3 hx rfl rfl rfl (pc0 := 16) (pc' := 19) (same := true) rfl (hb hby at_16) rfl (decide_eq_true (congrArg Value.ref (rfl : (own_code zs1 w_FAILURE w_CONFLICT w_BAD_REQUEST w_NOT_FOUND) = (own_code zs1 w_FAILURE w_CONFLICT w_BAD_REQUEST w_NOT_FOUND)))) (by decide) (by decide) ?_
    show Steps p.tables e below (T3.setTop (mkF m 19 #[.val (.int p1), .val (.int p2), .val (.int zs1), .val (.ref (own_code zs1 w_FAILURE w_CONFLICT w_BAD_REQUEST w_NOT_FOUND))] [])) _
    refine XT.iconstV X3.here hx rfl (1 : Int32) (hb hby at_19) (by decide) ?_
    show Steps p.tables e below (T3.setTop (mkF m 20 #[.val (.int p1), .val (.int p2), .val (.int zs1), .val (.ref (own_code zs1 w_FAILURE w_CONFLICT w_BAD_REQUEST w_NOT_FOUND))] [(.int (1 : Int32))])) _
    refine XS.goto X3.here hx rfl (pc0 := 20) (pc' := 24) rfl (hb hby at_20) (by decide) (by decide) ?_
    show Steps p.tables e below (T3.setTop (mkF m 24 #[.val (.int p1), .val (.int p2), .val (.int zs1), .val (.ref (own_code zs1 w_FAILURE w_CONFLICT w_BAD_REQUEST w_NOT_FOUND))] [(.int (1 : Int32))])) _
    exact retN X3 hx (t := .boolean) Bd.returns (by simp) (hb hby at_24) hr4
  · show Q0 Z _ _ _ _ _ _ h0 n0 _ T3.heap _
    rw [e3]
    exact ⟨rfl, N3⟩
set_option maxRecDepth 65536 in
set_option maxHeartbeats 40000000 in
theorem comes_1 {Post : Tables → Env → Array Value → State → Outcome → State → Prop} (hpost : ∀ tb e args s v u, (limb_1_1.after args s (.returned v) u = true ∧ limb_1_2.after args s (.returned v) u = true ∧ True) → FrameEnd s (.returned v) u (Jvm.fieldLocs frame_1_writes args s ++ Jvm.arrayLocs frame_1_arrays args s ++ Jvm.staticLocs frame_1_statics s) 0 0 → Post tb e args s (.returned v) u) :
    ArmFor flags0 classFile x code maxLocals ret World_1 tables_1 room_1 Calls_1 rest_1 Pre_1 Post := by
  intro l hfl _ _ p e ha hc hk s m args below hf hA hF happ hP
  obtain ⟨hcalls, hrest, hpre⟩ := hP
  obtain ⟨-, -, -, hnamed, -, -, -, hat⟩ := (Spec.applies_iff hf).mp happ
  obtain ⟨hg, hn⟩ := and_e (Cond.before_iff.mp (show (Jvm.Cond.and given_1 narrow_1).before args s = true from hpre))
  obtain ⟨gc, t0⟩ := and_e hg
  obtain ⟨g0, t1⟩ := and_e t0
  have g1 := t1
  obtain ⟨w0, w1, rfl⟩ : ∃ w0 w1 : Value, args = #[w0, w1] := by
    have hs : args.size = 2 := by simpa [Cond.value, given_1] using gc
    obtain ⟨L⟩ := args
    match L, hs with
    | [w0, w1], _ => exact ⟨w0, w1, rfl⟩
  have hw := fun d (hd : d ∈ tables_1) => atoms_spec (ws := Jvm.Cond.code x code maxLocals ret :: tables_1) hat d (List.mem_cons_of_mem _ hd)
  have hfit : Fit s := fun {y c} hc i hi => by
    obtain ⟨ha, rfl⟩ := Array.getElem?_eq_some_iff.mp hc
    have q := List.all_eq_true.mp ((Array.all_eq_true_iff_forall_mem.mp hF) _ (Array.getElem_mem ha)) i (List.mem_range.mpr hi)
    simpa [Array.getElem?_eq_getElem hi] using q
  obtain ⟨i0, ei0⟩ := is_v g0
  obtain rfl : w0 = (.int i0) := Option.some.inj ei0
  obtain ⟨i1, ei1⟩ := is_v g1
  obtain rfl : w1 = (.int i1) := Option.some.inj ei1
  obtain ⟨c0, r0⟩ := and_e hn
  obtain ⟨c1, r1⟩ := and_e r0
  obtain ⟨c2, r2⟩ := and_e r1
  obtain ⟨w_FAILURE, ev_FAILURE⟩ := exa_v c0
  have E_FAILURE := Exa.start ev_FAILURE c0
  have S_FAILURE := Sta.start ev_FAILURE (Or.inr ⟨(hw _ (List.mem_of_getElem? (i := 6) rfl)), (hw _ (List.mem_of_getElem? (i := 9) rfl))⟩)
  obtain ⟨w_CONFLICT, ev_CONFLICT⟩ := exa_v c1
  have E_CONFLICT := Exa.start ev_CONFLICT c1
  have S_CONFLICT := Sta.start ev_CONFLICT (Or.inr ⟨(hw _ (List.mem_of_getElem? (i := 6) rfl)), (hw _ (List.mem_of_getElem? (i := 16) rfl))⟩)
  obtain ⟨w_BAD_REQUEST, ev_BAD_REQUEST⟩ := exa_v c2
  have E_BAD_REQUEST := Exa.start ev_BAD_REQUEST c2
  have S_BAD_REQUEST := Sta.start ev_BAD_REQUEST (Or.inr ⟨(hw _ (List.mem_of_getElem? (i := 6) rfl)), (hw _ (List.mem_of_getElem? (i := 19) rfl))⟩)
  obtain ⟨w_NOT_FOUND, ev_NOT_FOUND⟩ := exa_v r2
  have E_NOT_FOUND := Exa.start ev_NOT_FOUND r2
  have S_NOT_FOUND := Sta.start ev_NOT_FOUND (Or.inr ⟨(hw _ (List.mem_of_getElem? (i := 6) rfl)), (hw _ (List.mem_of_getElem? (i := 22) rfl))⟩)
  obtain ⟨n, o, h1, h2, h3, _, L, rfl, ⟨rfl, N⟩, hq⟩ := rm0 l s _ hw tables_1 i0 i1 w_FAILURE w_CONFLICT w_BAD_REQUEST w_NOT_FOUND s.heap s.heap.size S_FAILURE S_CONFLICT S_BAD_REQUEST S_NOT_FOUND E_FAILURE E_CONFLICT E_BAD_REQUEST E_NOT_FOUND p e ha hc hk s m _ below hf ((Spec.applies_iff_loose hf).mp happ).1 ⟨rfl, State.Warmed39.refl s, rfl⟩ trivial
  refine ⟨n, _, h1, h2, h3, hpost _ _ _ _ _ _ ⟨Cond.after_iff.mpr rfl, Cond.after_iff.mpr (eq_i res_at (Term.int_eval (1)) rfl), trivial⟩ ⟨hq.1, hq.2.1, (hq.2.2.sift fun y hy => Or.inr (N y hy)).mono (by decide) (by decide)⟩⟩
theorem main_1_1 : Claimed_1_1 := comes_1 fun _ _ _ _ _ _ h hF => ⟨h.1, hF⟩
theorem main_1_2 : Claimed_1_2 := comes_1 fun _ _ _ _ _ _ h hF => ⟨h.2.1, hF⟩
end Jvm.Pilot.@@N@@
namespace Jvm.Pilot.@@N@@
open Jvm Jvm.ClassFile Sem Op Lib Jvm.Free Jvm.Stand Jvm.Pilot.@@N@@.Jvm.D
/-! MADE BY PROGRAM (witnessworld.py) out of the Statement's table words and the real class files: 12 classes; the members and pool entries that the words name. The judged class is class 1, her method 3. -/
namespace start1
open Jvm.ClassFile
def u (s : String) : CpInfo := .utf8 (stringToUtf16 s)
/-- a pool by its gaps: so many unusable entries, then the entry; so many at the end -/
def gap : Nat → List CpInfo → List CpInfo
  | 0, r => r
  | n + 1, r => .unusable :: gap n r
def poolList (es : List (Nat × CpInfo)) (last : Nat) : List CpInfo := es.foldr (fun e r => gap e.1 (e.2 :: r)) (gap last [])
def pool (es : List (Nat × CpInfo)) (last : Nat) : Array CpInfo := ⟨poolList es last⟩
def fileOf (pool : Array CpInfo) (this : Nat) (attrs : Array Attribute := #[]) (ms : Array MethodInfo := #[]) (fl : Nat := 33) (sup : Nat := 0) (ifs : Array Nat := #[]) (fds : Array FieldInfo := #[]) : ClassFile where
  minorVersion := 0
  majorVersion := 65
  constantPool := pool
  accessFlags := fl
  thisClass := this
  superClass := sup
  interfaces := ifs
  fields := fds
  methods := ms
  attributes := attrs
def plain (name : String) (sup : Option ClassId) : Class where
  name := name
  kind := .ordinary
  loader := none
  accessFlags := 33
  super := sup
  interfaces := #[]
  cf := none
  fields := #[]
  methods := #[]
  instanceTypes := #[]
  staticTypes := #[]
  resolved := #[]
  callSites := []
  init := .initialized
  statics := none
  mirror := none

def pool0 : Array CpInfo := pool [(5, u "<init>"), (0, u "()V"), (1, .class_ 10), (1, u "java/lang/Object")] 113

def k0m0 : Method := { name := "<init>", desc := "()V", sig := { parameters := [], returnType := none }, accessFlags := 1, code := none }
/-- java/lang/Object -/
def k0 : Class := { plain "java/lang/Object" none with
  accessFlags := 33
  interfaces := #[]
  cf := some (fileOf pool0 8 #[] #[{ accessFlags := 1, nameIndex := 5, descriptorIndex := 6, attributes := #[] }] 33 0 #[] #[])
  fields := #[]
  methods := #[k0m0]
  instanceTypes := #[]
  staticTypes := #[]
  resolved := Array.replicate 124 none
  statics := none }

def pool1 : Array CpInfo := pool [(2, .class_ 4), (1, u "java/lang/Object"), (0, u "<init>"), (0, u "()V"), (0, .fieldref 8 9), (0, .class_ 10), (0, .nameAndType 11 12), (0, u "com/example/claim/claim/ExitCode"), (0, u "BAD_REQUEST"), (0, u "Lcom/example/claim/claim/ExitCode;"), (0, .fieldref 8 14), (0, .nameAndType 15 12), (0, u "NOT_FOUND"), (0, .fieldref 8 17), (0, .nameAndType 18 12), (0, u "CONFLICT"), (0, .fieldref 8 20), (0, .nameAndType 21 12), (0, u "FAILURE"), (0, .integer 2147483647), (0, .methodref 24 25), (0, .class_ 26), (0, .nameAndType 27 28), (0, u "com/example/claim/claim/ExitCodeForHttpStatusPinLaw"), (0, u "status"), (0, u "(II)I"), (0, .methodref 8 30), (0, .nameAndType 31 32), (0, u "forHttpStatus"), (0, u "(I)Lcom/example/claim/claim/ExitCode;"), (0, .methodref 24 34), (0, .nameAndType 35 32), (0, u "expected"), (3, u "law"), (0, u "(II)Z")] 2

def k1m0 : Method := { name := "<init>", desc := "()V", sig := { parameters := [], returnType := none }, accessFlags := 2, code := none }
def k1c1 : Code := { maxStack := 2, maxLocals := 1, code := method_2_code, exceptionTable := #[], attributes := #[] }
def k1m1 : Method := { name := "expected", desc := "(I)Lcom/example/claim/claim/ExitCode;", sig := { parameters := [.int], returnType := some (.object "com/example/claim/claim/ExitCode") }, accessFlags := 10, code := some k1c1 }
def k1c2 : Code := { maxStack := 3, maxLocals := 5, code := method_3_code, exceptionTable := #[], attributes := #[] }
def k1m2 : Method := { name := "status", desc := "(II)I", sig := { parameters := [.int, .int], returnType := some .int }, accessFlags := 10, code := some k1c2 }
def k1c3 : Code := { maxStack := 2, maxLocals := 4, code := code, exceptionTable := #[], attributes := #[] }
def k1m3 : Method := { name := "law", desc := "(II)Z", sig := { parameters := [.int, .int], returnType := some .boolean }, accessFlags := 9, code := some k1c3 }
/-- com/example/claim/claim/ExitCodeForHttpStatusPinLaw -/
def k1 : Class := { plain "com/example/claim/claim/ExitCodeForHttpStatusPinLaw" (some 0) with
  accessFlags := 49
  interfaces := #[]
  cf := some (fileOf pool1 24 #[] #[{ accessFlags := 2, nameIndex := 5, descriptorIndex := 6, attributes := #[] }, { accessFlags := 10, nameIndex := 35, descriptorIndex := 32, attributes := #[] }, { accessFlags := 10, nameIndex := 27, descriptorIndex := 28, attributes := #[] }, { accessFlags := 9, nameIndex := 39, descriptorIndex := 40, attributes := #[] }] 49 2 #[] #[])
  fields := #[]
  methods := #[k1m0, k1m1, k1m2, k1m3]
  instanceTypes := #[]
  staticTypes := #[]
  resolved := Array.replicate 43 none
  statics := none }

def pool2 : Array CpInfo := pool [(1, .class_ 2), (0, u "java/lang/constant/Constable"), (0, .class_ 4), (0, u "java/lang/Object")] 6

/-- java/lang/constant/Constable -/
def k2 : Class := { plain "java/lang/constant/Constable" (some 0) with
  accessFlags := 1537
  interfaces := #[]
  cf := some (fileOf pool2 1 #[] #[] 1537 3 #[] #[])
  fields := #[]
  methods := #[]
  instanceTypes := #[]
  staticTypes := #[]
  resolved := Array.replicate 11 none
  statics := none }

def pool3 : Array CpInfo := pool [(1, .class_ 2), (0, u "java/lang/Comparable"), (0, .class_ 4), (0, u "java/lang/Object")] 7

/-- java/lang/Comparable -/
def k3 : Class := { plain "java/lang/Comparable" (some 0) with
  accessFlags := 1537
  interfaces := #[]
  cf := some (fileOf pool3 1 #[] #[] 1537 3 #[] #[])
  fields := #[]
  methods := #[]
  instanceTypes := #[]
  staticTypes := #[]
  resolved := Array.replicate 12 none
  statics := none }

def pool4 : Array CpInfo := pool [(1, .class_ 2), (0, u "java/io/Serializable"), (0, .class_ 4), (0, u "java/lang/Object")] 2

/-- java/io/Serializable -/
def k4 : Class := { plain "java/io/Serializable" (some 0) with
  accessFlags := 1537
  interfaces := #[]
  cf := some (fileOf pool4 1 #[] #[] 1537 3 #[] #[])
  fields := #[]
  methods := #[]
  instanceTypes := #[]
  staticTypes := #[]
  resolved := Array.replicate 7 none
  statics := none }

def pool5 : Array CpInfo := pool [(2, .class_ 4), (1, u "java/lang/Enum"), (0, u "name"), (0, u "Ljava/lang/String;"), (2, u "ordinal"), (0, u "I"), (1, .class_ 14), (1, u "java/lang/Object"), (4, u "hash"), (86, .class_ 108), (1, u "java/lang/Enum$EnumDesc"), (2, .class_ 112), (0, u "java/lang/constant/Constable"), (0, .class_ 114), (0, u "java/lang/Comparable"), (0, .class_ 116), (0, u "java/io/Serializable")] 87

/-- java/lang/Enum -/
def k5 : Class := { plain "java/lang/Enum" (some 0) with
  accessFlags := 1057
  interfaces := #[2, 3, 4]
  cf := some (fileOf pool5 2 #[.nestMembers #[106]] #[] 1057 12 #[111, 113, 115] #[{ accessFlags := 18, nameIndex := 5, descriptorIndex := 6, attributes := #[] }, { accessFlags := 18, nameIndex := 9, descriptorIndex := 10, attributes := #[] }, { accessFlags := 2, nameIndex := 19, descriptorIndex := 10, attributes := #[] }])
  fields := #[{ name := "name", type := (.object "java/lang/String"), accessFlags := 18, slot := 0, constantValue := 0 }, { name := "ordinal", type := .int, accessFlags := 18, slot := 1, constantValue := 0 }, { name := "hash", type := .int, accessFlags := 2, slot := 2, constantValue := 0 }]
  methods := #[]
  instanceTypes := #[(.object "java/lang/String"), .int, .int]
  staticTypes := #[]
  resolved := Array.replicate 204 none
  statics := none }

def pool6 : Array CpInfo := pool [(1, .class_ 2), (0, u "com/example/claim/claim/ExitCode"), (2, u "SUCCESS"), (0, u "Lcom/example/claim/claim/ExitCode;"), (0, .fieldref 1 8), (0, .nameAndType 9 6), (0, u "FAILURE"), (0, .fieldref 1 11), (0, .nameAndType 12 6), (0, u "BAD_REQUEST"), (2, u "NOTHING_READY"), (0, .fieldref 1 17), (0, .nameAndType 18 6), (0, u "CONFLICT"), (0, .fieldref 1 20), (0, .nameAndType 21 6), (0, u "NOT_FOUND"), (2, u "$VALUES"), (0, u "[Lcom/example/claim/claim/ExitCode;"), (6, .class_ 34), (1, u "java/lang/Enum"), (8, u "code"), (0, u "I"), (21, u "forHttpStatus"), (0, u "(I)Lcom/example/claim/claim/ExitCode;")] 6

def k6c0 : Code := { maxStack := 1, maxLocals := 1, code := prog_7_method_5_code, exceptionTable := #[], attributes := #[] }
def k6m0 : Method := { name := "forHttpStatus", desc := "(I)Lcom/example/claim/claim/ExitCode;", sig := { parameters := [.int], returnType := some (.object "com/example/claim/claim/ExitCode") }, accessFlags := 8, code := some k6c0 }
/-- com/example/claim/claim/ExitCode -/
def k6 : Class := { plain "com/example/claim/claim/ExitCode" (some 5) with
  accessFlags := 16432
  interfaces := #[]
  cf := some (fileOf pool6 1 #[] #[{ accessFlags := 8, nameIndex := 66, descriptorIndex := 67, attributes := #[] }] 16432 32 #[] #[{ accessFlags := 16409, nameIndex := 5, descriptorIndex := 6, attributes := #[] }, { accessFlags := 16409, nameIndex := 9, descriptorIndex := 6, attributes := #[] }, { accessFlags := 16409, nameIndex := 12, descriptorIndex := 6, attributes := #[] }, { accessFlags := 16409, nameIndex := 15, descriptorIndex := 6, attributes := #[] }, { accessFlags := 16409, nameIndex := 18, descriptorIndex := 6, attributes := #[] }, { accessFlags := 16409, nameIndex := 21, descriptorIndex := 6, attributes := #[] }, { accessFlags := 18, nameIndex := 43, descriptorIndex := 44, attributes := #[] }, { accessFlags := 4122, nameIndex := 24, descriptorIndex := 25, attributes := #[] }])
  fields := #[{ name := "SUCCESS", type := (.object "com/example/claim/claim/ExitCode"), accessFlags := 16409, slot := 0, constantValue := 0 }, { name := "FAILURE", type := (.object "com/example/claim/claim/ExitCode"), accessFlags := 16409, slot := 1, constantValue := 0 }, { name := "BAD_REQUEST", type := (.object "com/example/claim/claim/ExitCode"), accessFlags := 16409, slot := 2, constantValue := 0 }, { name := "NOTHING_READY", type := (.object "com/example/claim/claim/ExitCode"), accessFlags := 16409, slot := 3, constantValue := 0 }, { name := "CONFLICT", type := (.object "com/example/claim/claim/ExitCode"), accessFlags := 16409, slot := 4, constantValue := 0 }, { name := "NOT_FOUND", type := (.object "com/example/claim/claim/ExitCode"), accessFlags := 16409, slot := 5, constantValue := 0 }, { name := "code", type := .int, accessFlags := 18, slot := 3, constantValue := 0 }, { name := "$VALUES", type := (.array (.object "com/example/claim/claim/ExitCode")), accessFlags := 4122, slot := 6, constantValue := 0 }]
  methods := #[k6m0]
  instanceTypes := #[(.object "java/lang/String"), .int, .int, .int]
  staticTypes := #[(.object "com/example/claim/claim/ExitCode"), (.object "com/example/claim/claim/ExitCode"), (.object "com/example/claim/claim/ExitCode"), (.object "com/example/claim/claim/ExitCode"), (.object "com/example/claim/claim/ExitCode"), (.object "com/example/claim/claim/ExitCode"), (.array (.object "com/example/claim/claim/ExitCode"))]
  resolved := Array.replicate 74 none
  statics := some 0 }

def pool7 : Array CpInfo := pool [(1, u "java/lang/Cloneable"), (0, .class_ 1), (0, u "java/lang/Object"), (0, .class_ 3)] 3

/-- java/lang/Cloneable -/
def k7 : Class := { plain "java/lang/Cloneable" (some 0) with
  accessFlags := 1537
  interfaces := #[]
  cf := some (fileOf pool7 2 #[] #[] 1537 4 #[] #[])
  fields := #[]
  methods := #[]
  instanceTypes := #[]
  staticTypes := #[]
  resolved := Array.replicate 8 none
  statics := none }

/-- the primitive byte -/
def k8 : Class := { plain "byte" none with kind := .primitive 'B', accessFlags := 0x411 }
/-- [B -/
def k9 : Class := { plain "[B" (some 0) with kind := .array 8 .byte, interfaces := #[7, 4], accessFlags := 1041 }

/-- the primitive int -/
def k10 : Class := { plain "int" none with kind := .primitive 'I', accessFlags := 0x411 }
/-- [I -/
def k11 : Class := { plain "[I" (some 0) with kind := .array 10 .int, interfaces := #[7, 4], accessFlags := 1041 }

def heap : Heap := #[{ cls := 6, slots := #[.null, .ref 1, .ref 3, .null, .ref 2, .ref 4, .null], vm := .statics 6 },
  { cls := 6, slots := #[.null, .int 0, .int 0, .int 0], vm := .none },
  { cls := 6, slots := #[.null, .int 1, .int 0, .int 0], vm := .none },
  { cls := 6, slots := #[.null, .int 2, .int 0, .int 0], vm := .none },
  { cls := 6, slots := #[.null, .int 3, .int 0, .int 0], vm := .none }]
def classes : Array Class := #[k0, k1, k2, k3, k4, k5, k6, k7, k8, k9, k10, k11]
def interned : List (Array UInt16 × Addr) := []
def slotsUsed : Nat := 23
def theMethod : MethodId := ⟨1, 3⟩
def args0 : Array Value := #[.int 5, .int 300]
def aboutOver (below : List Frame) : State where
  vm := { classes := classes, interned := interned.toArray }
  heap := heap
  slotsUsed := slotsUsed
  threads := #[{ frames := .invoking theMethod args0 :: below }]
def below0 : List Frame := [.native { method := ⟨0, 0⟩, args := #[] }]
def about1 : State := aboutOver below0
def p0 : Program := .bare "" "" ""
def e0 : Env := launch0.env 0 0 0
theorem w_frames : about1.frames = Frame.invoking theMethod args0 :: below0 := rfl
set_option maxRecDepth 65536 in
theorem w_args : argsFit about1.vm theMethod args0 = true := by decide +kernel
set_option maxRecDepth 65536 in
theorem w_heap : heapFits about1 = true := by decide +kernel
set_option maxRecDepth 65536 in
theorem w_runnable : about1.curStatus? = some .runnable := by decide +kernel
set_option maxRecDepth 65536 in
theorem w_alone : about1.alone = true := by decide +kernel
set_option maxRecDepth 65536 in
theorem w_named : about1.methodNamed? x = some theMethod := by decide +kernel
set_option maxRecDepth 65536 in
theorem w_hears : about1.hears theMethod below0 = true := by decide +kernel
set_option maxRecDepth 65536 in
theorem w_ripe : about1.ripe theMethod args0 below0 = true := by decide +kernel
theorem w_running : about1.status = .running := rfl
set_option maxRecDepth 65536 in
theorem w_room : about1.hasRoom e0.platform room_1 = true :=
  launch0.hasRoom_least _ room_1 (by decide +kernel) (by decide +kernel) (by decide +kernel) (by decide +kernel) (by decide +kernel) (by decide +kernel)
theorem allAtoms_all (ts : List Jvm.Cond) (a : Array Jvm.Value) (st : Jvm.State) : (allAtoms ts).before a st = ts.all (fun c => c.before a st) := by
  induction ts with
  | nil => rfl
  | cons c t ih =>
    show (Jvm.Cond.and c (allAtoms t)).before a st = _
    rw [Jvm.Cond.before_and, ih, List.all_cons]
def words1 : List Jvm.Cond := Jvm.Cond.code x code maxLocals ret :: tables_1
/-- a 'code' word, met by the world's own term for the bytes: nothing is compared byte by byte -/
theorem code_word {y : MethodName} {bytes : ByteArray} {mx : Nat} {rt : Option FieldType} {a : Array Value} {s : State} {m : MethodId} {meth : Method} {c : Code} (h1 : s.methodNamed? y = some m) (h2 : s.vm.method? m = some meth) (h3 : meth.code = some c) (h4 : c.code = bytes)
    (h5 : (c.maxLocals == mx && c.exceptionTable.isEmpty && decide (c.maxStack ≤ mostOperands) && decide (meth.sig.returnType = rt) && !meth.locks && decide (parseMethodDescriptor y.desc = some meth.sig)) = true) : (Jvm.Cond.code y bytes mx rt).before a s = true := by
  simp only [Bool.and_eq_true, beq_iff_eq, Bool.not_eq_true', decide_eq_true_eq] at h5
  obtain ⟨⟨⟨⟨⟨g1, g2⟩, g3⟩, g4⟩, g5⟩, g6⟩ := h5
  simp [Cond.before, Cond.holds, Cond.value, h1, h2, h3, h4, g1, g2, g3, g4, g5, g6]
def isCode : Jvm.Cond → Bool
  | .code _ _ _ _ => true
  | _ => false
theorem all_split {L : List Jvm.Cond} {P : Jvm.Cond → Bool} (h1 : L.all (fun c => isCode c || P c) = true) (h2 : ∀ c ∈ L.filter isCode, P c = true) : L.all P = true := by
  refine List.all_eq_true.mpr fun c hc => ?_
  have h := List.all_eq_true.mp h1 c hc
  rcases Bool.eq_false_or_eq_true (isCode c) with hi | hi
  · exact h2 c (List.mem_filter.mpr ⟨hc, hi⟩)
  · simpa [hi] using h
set_option maxRecDepth 65536 in
theorem w_c0 : (Jvm.Cond.code x code maxLocals ret).before args0 about1 = true := code_word (m := ⟨1, 3⟩) (meth := k1m3) (c := k1c3) (by decide +kernel) rfl rfl rfl (by decide +kernel)
set_option maxRecDepth 65536 in
theorem w_c1 : (Jvm.Cond.code ({ cls := "com/example/claim/claim/ExitCodeForHttpStatusPinLaw", name := "status", desc := "(II)I" } : Jvm.MethodName) method_3_code (5 : Nat) (Option.some Jvm.ClassFile.FieldType.int)).before args0 about1 = true := code_word (m := ⟨1, 2⟩) (meth := k1m2) (c := k1c2) (by decide +kernel) rfl rfl rfl (by decide +kernel)
set_option maxRecDepth 65536 in
theorem w_c2 : (Jvm.Cond.code ({ cls := "com/example/claim/claim/ExitCode", name := "forHttpStatus", desc := "(I)Lcom/example/claim/claim/ExitCode;" } : Jvm.MethodName) prog_7_method_5_code (1 : Nat) (Option.some (Jvm.ClassFile.FieldType.object "com/example/claim/claim/ExitCode"))).before args0 about1 = true := code_word (m := ⟨6, 0⟩) (meth := k6m0) (c := k6c0) (by decide +kernel) rfl rfl rfl (by decide +kernel)
set_option maxRecDepth 65536 in
theorem w_c3 : (Jvm.Cond.code ({ cls := "com/example/claim/claim/ExitCodeForHttpStatusPinLaw", name := "expected", desc := "(I)Lcom/example/claim/claim/ExitCode;" } : Jvm.MethodName) method_2_code (1 : Nat) (Option.some (Jvm.ClassFile.FieldType.object "com/example/claim/claim/ExitCode"))).before args0 about1 = true := code_word (m := ⟨1, 1⟩) (meth := k1m1) (c := k1c1) (by decide +kernel) rfl rfl rfl (by decide +kernel)
def codes1 : List Jvm.Cond := [Jvm.Cond.code x code maxLocals ret, Jvm.Cond.code ({ cls := "com/example/claim/claim/ExitCodeForHttpStatusPinLaw", name := "status", desc := "(II)I" } : Jvm.MethodName) method_3_code (5 : Nat) (Option.some Jvm.ClassFile.FieldType.int), Jvm.Cond.code ({ cls := "com/example/claim/claim/ExitCode", name := "forHttpStatus", desc := "(I)Lcom/example/claim/claim/ExitCode;" } : Jvm.MethodName) prog_7_method_5_code (1 : Nat) (Option.some (Jvm.ClassFile.FieldType.object "com/example/claim/claim/ExitCode")), Jvm.Cond.code ({ cls := "com/example/claim/claim/ExitCodeForHttpStatusPinLaw", name := "expected", desc := "(I)Lcom/example/claim/claim/ExitCode;" } : Jvm.MethodName) method_2_code (1 : Nat) (Option.some (Jvm.ClassFile.FieldType.object "com/example/claim/claim/ExitCode"))]
set_option maxRecDepth 65536 in
theorem codes_eq : words1.filter isCode = codes1 := rfl
theorem w_codes : ∀ c ∈ words1.filter isCode, c.before args0 about1 = true := by
  rw [codes_eq]
  intro c hc
  simp only [codes1, List.mem_cons, List.not_mem_nil, or_false] at hc
  rcases hc with rfl | rfl | rfl | rfl
  · exact w_c0
  · exact w_c1
  · exact w_c2
  · exact w_c3
set_option maxRecDepth 65536 in
theorem w_t1 : (words1.take 24).all (fun c => isCode c || c.before args0 about1) = true := by decide +kernel
set_option maxRecDepth 65536 in
theorem w_t2 : (words1.drop 24).all (fun c => isCode c || c.before args0 about1) = true := by decide +kernel
theorem w_tables : (allAtoms (Jvm.Cond.code x code maxLocals ret :: tables_1)).before args0 about1 = true := by
  rw [allAtoms_all]
  show words1.all (fun c => c.before args0 about1) = true
  refine all_split ?_ w_codes
  rw [← List.take_append_drop 24 words1, List.all_append, w_t1, w_t2]
  rfl
set_option maxRecDepth 65536 in
theorem w_case : (Jvm.Cond.and given_1 narrow_1).before args0 about1 = true := by decide +kernel
theorem w_applies : (headSpec (Jvm.Cond.code x code maxLocals ret :: tables_1) room_1).applies x e0.platform about1 = true :=
  (Spec.applies_iff w_frames).mpr ⟨w_running, w_runnable, w_alone, w_named, w_hears, w_ripe, w_room, w_tables⟩
theorem atStart : AtStart classFile x code maxLocals ret World_1 tables_1 room_1 Calls_1 rest_1 Pre_1 launch0 p0 e0 about1 theMethod args0 below0 :=
  ⟨lists_1, trivial, launch0.admits_env _ _ _, launch0.least_env, fairChoices_fair.cas, fairChoices_fair.clock, w_frames, w_args, w_heap, w_applies, trivial, trivial, w_case⟩
end start1
theorem witness_1 : WitnessClaimed_1 := ⟨start1.p0, start1.e0, start1.about1, start1.theMethod, start1.args0, start1.below0, start1.atStart⟩
end Jvm.Pilot.@@N@@
