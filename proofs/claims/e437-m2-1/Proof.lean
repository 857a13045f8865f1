import JvmDerived
import JvmDerived.Pilot.@@N@@Statement
import JvmDerived.Pilot.@@N@@Code
set_option linter.unusedVariables false
set_option linter.unusedSimpArgs false
namespace Jvm.Pilot.@@N@@
open Jvm Jvm.ClassFile Sem Op Lib Jvm.Free Jvm.Stand Jvm.LawKit Jvm.RoadKit Bundle Jvm.Pilot.@@N@@.Jvm.D
/-! comparisons of an int with a constant, by whole numbers -/
theorem own_i_eq_t {c y : Int32} {k : Int} (hy : y.toInt = k) (h : c.toInt = k) : if_icmp.holds .eq c y = true := XT.ii_eq_t (Int32.toInt_inj.mp (h.trans hy.symm))
theorem own_i_eq_f {c y : Int32} {k : Int} (hy : y.toInt = k) (h : ¬ c.toInt = k) : if_icmp.holds .eq c y = false := XT.ii_eq_f fun q => h (by rw [q, hy])
theorem own_i_ne_t {c y : Int32} {k : Int} (hy : y.toInt = k) (h : ¬ c.toInt = k) : if_icmp.holds .ne c y = true := XT.ii_ne_t fun q => h (by rw [q, hy])
theorem own_i_ne_f {c y : Int32} {k : Int} (hy : y.toInt = k) (h : ¬ ¬ c.toInt = k) : if_icmp.holds .ne c y = false := XT.ii_ne_f (Int32.toInt_inj.mp ((Decidable.not_not.mp h).trans hy.symm))
theorem own_i_lt_t {c y : Int32} {k : Int} (hy : y.toInt = k) (h : c.toInt < k) : if_icmp.holds .lt c y = true := XT.ii_lt_t (by rw [Int32.lt_iff_toInt_lt]; omega)
theorem own_i_lt_f {c y : Int32} {k : Int} (hy : y.toInt = k) (h : ¬ c.toInt < k) : if_icmp.holds .lt c y = false := XT.ii_lt_f (by rw [Int32.lt_iff_toInt_lt]; omega)
theorem own_i_ge_t {c y : Int32} {k : Int} (hy : y.toInt = k) (h : k ≤ c.toInt) : if_icmp.holds .ge c y = true := XT.ii_ge_t (by rw [Int32.lt_iff_toInt_lt]; omega)
theorem own_i_ge_f {c y : Int32} {k : Int} (hy : y.toInt = k) (h : ¬ k ≤ c.toInt) : if_icmp.holds .ge c y = false := XT.ii_ge_f (by rw [Int32.lt_iff_toInt_lt]; omega)
theorem own_i_gt_t {c y : Int32} {k : Int} (hy : y.toInt = k) (h : k < c.toInt) : if_icmp.holds .gt c y = true := XT.ii_gt_t (by rw [Int32.lt_iff_toInt_lt]; omega)
theorem own_i_gt_f {c y : Int32} {k : Int} (hy : y.toInt = k) (h : ¬ k < c.toInt) : if_icmp.holds .gt c y = false := XT.ii_gt_f (by rw [Int32.lt_iff_toInt_lt]; omega)
theorem own_i_le_t {c y : Int32} {k : Int} (hy : y.toInt = k) (h : c.toInt ≤ k) : if_icmp.holds .le c y = true := XT.ii_le_t (by rw [Int32.lt_iff_toInt_lt]; omega)
theorem own_i_le_f {c y : Int32} {k : Int} (hy : y.toInt = k) (h : ¬ c.toInt ≤ k) : if_icmp.holds .le c y = false := XT.ii_le_f (by rw [Int32.lt_iff_toInt_lt]; omega)
theorem own_z0 : (0 : Int32).toInt = 0 := rfl
theorem own_z_lt_t {c : Int32} (h : c.toInt < 0) : ifCond.holds .lt c = true := XT.i0_lt_t (by rw [Int32.lt_iff_toInt_lt, own_z0]; omega)
theorem own_z_lt_f {c : Int32} (h : ¬ c.toInt < 0) : ifCond.holds .lt c = false := XT.i0_lt_f (by rw [Int32.lt_iff_toInt_lt, own_z0]; omega)
theorem own_z_ge_t {c : Int32} (h : 0 ≤ c.toInt) : ifCond.holds .ge c = true := XT.i0_ge_t (by rw [Int32.lt_iff_toInt_lt, own_z0]; omega)
theorem own_z_ge_f {c : Int32} (h : ¬ 0 ≤ c.toInt) : ifCond.holds .ge c = false := XT.i0_ge_f (by rw [Int32.lt_iff_toInt_lt, own_z0]; omega)
/-! what a callee leaves: the int z, the heap as it was -/
def own_Q (z : Int32) (h0 : Heap) (n0 : Nat) (v : Option Value) (h : Heap) (L : List Loc) : Prop := v = some (.int z) ∧ Fr n0 L ∧ h = h0
theorem own_d1_0 : decode prog_186_method_2_code 0 = .ok (.iload_n 0, 1) := by decide +kernel
theorem own_d1_1 : decode prog_186_method_2_code 1 = .ok (.bipush 9, 2) := by decide +kernel
theorem own_d1_3 : decode prog_186_method_2_code 3 = .ok (.if_icmp .eq 51, 3) := by decide +kernel
theorem own_d1_6 : decode prog_186_method_2_code 6 = .ok (.iload_n 0, 1) := by decide +kernel
theorem own_d1_7 : decode prog_186_method_2_code 7 = .ok (.bipush 10, 2) := by decide +kernel
theorem own_d1_9 : decode prog_186_method_2_code 9 = .ok (.if_icmp .eq 45, 3) := by decide +kernel
theorem own_d1_12 : decode prog_186_method_2_code 12 = .ok (.iload_n 0, 1) := by decide +kernel
theorem own_d1_13 : decode prog_186_method_2_code 13 = .ok (.bipush 13, 2) := by decide +kernel
theorem own_d1_15 : decode prog_186_method_2_code 15 = .ok (.if_icmp .eq 39, 3) := by decide +kernel
theorem own_d1_18 : decode prog_186_method_2_code 18 = .ok (.iload_n 0, 1) := by decide +kernel
theorem own_d1_19 : decode prog_186_method_2_code 19 = .ok (.bipush 32, 2) := by decide +kernel
theorem own_d1_21 : decode prog_186_method_2_code 21 = .ok (.if_icmp .lt 9, 3) := by decide +kernel
theorem own_d1_24 : decode prog_186_method_2_code 24 = .ok (.iload_n 0, 1) := by decide +kernel
theorem own_d1_25 : decode prog_186_method_2_code 25 = .ok (.ldc 7, 2) := by decide +kernel
theorem own_d1_27 : decode prog_186_method_2_code 27 = .ok (.if_icmp .le 27, 3) := by decide +kernel
theorem own_d1_30 : decode prog_186_method_2_code 30 = .ok (.iload_n 0, 1) := by decide +kernel
theorem own_d1_31 : decode prog_186_method_2_code 31 = .ok (.ldc 8, 2) := by decide +kernel
theorem own_d1_33 : decode prog_186_method_2_code 33 = .ok (.if_icmp .lt 9, 3) := by decide +kernel
theorem own_d1_36 : decode prog_186_method_2_code 36 = .ok (.iload_n 0, 1) := by decide +kernel
theorem own_d1_37 : decode prog_186_method_2_code 37 = .ok (.ldc 9, 2) := by decide +kernel
theorem own_d1_39 : decode prog_186_method_2_code 39 = .ok (.if_icmp .le 15, 3) := by decide +kernel
theorem own_d1_42 : decode prog_186_method_2_code 42 = .ok (.iload_n 0, 1) := by decide +kernel
theorem own_d1_43 : decode prog_186_method_2_code 43 = .ok (.ldc 10, 2) := by decide +kernel
theorem own_d1_45 : decode prog_186_method_2_code 45 = .ok (.if_icmp .lt 13, 3) := by decide +kernel
theorem own_d1_48 : decode prog_186_method_2_code 48 = .ok (.iload_n 0, 1) := by decide +kernel
theorem own_d1_49 : decode prog_186_method_2_code 49 = .ok (.ldc 11, 2) := by decide +kernel
theorem own_d1_51 : decode prog_186_method_2_code 51 = .ok (.if_icmp .gt 7, 3) := by decide +kernel
theorem own_d1_54 : decode prog_186_method_2_code 54 = .ok (.iconst 1, 1) := by decide +kernel
theorem own_d1_55 : decode prog_186_method_2_code 55 = .ok (.goto 4, 3) := by decide +kernel
theorem own_d1_58 : decode prog_186_method_2_code 58 = .ok (.iconst 0, 1) := by decide +kernel
theorem own_d1_59 : decode prog_186_method_2_code 59 = .ok (.ireturn, 1) := by decide +kernel
theorem own_pn1 : plainName "com/example/vraag/vraag/value/XmlChars" = true := by first | (simp [plainName, overriddenIn]; done) | decide +kernel
theorem own_ef1 (m : MethodId) (x0 : Int32) : entryFrame m #[(.int x0)] 1 = mkF m 0 #[.val (.int x0)] [] := by first | (simp [entryFrame, mkF, argsToLocals, Value.category]; done) | rfl
theorem own_pd1 : parseMethodDescriptor "(I)Z" = some ⟨[.int], some .boolean⟩ := by decide +kernel
def own_F1_58 (x : Int) : Int32 := (0 : Int32)
def own_F1_54 (x : Int) : Int32 := (1 : Int32)
def own_F1_48 (x : Int) : Int32 := if 1114111 < x then own_F1_58 x else own_F1_54 x
def own_F1_42 (x : Int) : Int32 := if x < 65536 then own_F1_58 x else own_F1_48 x
def own_F1_36 (x : Int) : Int32 := if x ≤ 65533 then own_F1_54 x else own_F1_42 x
def own_F1_30 (x : Int) : Int32 := if x < 57344 then own_F1_42 x else own_F1_36 x
def own_F1_24 (x : Int) : Int32 := if x ≤ 55295 then own_F1_54 x else own_F1_30 x
def own_F1_18 (x : Int) : Int32 := if x < 32 then own_F1_30 x else own_F1_24 x
def own_F1_12 (x : Int) : Int32 := if x = 13 then own_F1_54 x else own_F1_18 x
def own_F1_6 (x : Int) : Int32 := if x = 10 then own_F1_54 x else own_F1_12 x
def own_F1_0 (x : Int) : Int32 := if x = 9 then own_F1_54 x else own_F1_6 x
set_option maxRecDepth 65536 in
set_option maxHeartbeats 40000000 in
theorem own_rm1 (l : Launch) (Z : State) (a0 : Array Value) (hw : ∀ d ∈ tables_1, d.before a0 Z = true) (ws : List Jvm.Cond) (p1 : Int32) (h0 : Heap) (n0 : Nat) :
    MetFree l (⟨"com/example/vraag/vraag/value/XmlChars", "isChar", "(I)Z"⟩ : MethodName) (head1 (Jvm.Cond.code (⟨"com/example/vraag/vraag/value/XmlChars", "isChar", "(I)Z"⟩ : MethodName) prog_186_method_2_code 1 (some .boolean) :: ws) ({ frames := 0, cells := 0, slots := 0, locals := 0 } : Room)) (fun a U => a = #[(.int p1)] ∧ Z.Warmed39 U.vm ∧ U.heap = h0) (fun _ _ _ _ _ => True) (fun _ U o U' => ∃ v L, o = .returned v ∧ own_Q (own_F1_0 p1.toInt) h0 n0 v U'.heap L ∧ FrameEnd U o U' L ({ frames := 0, cells := 0, slots := 0, locals := 0 } : Room).cells ({ frames := 0, cells := 0, slots := 0, locals := 0 } : Room).slots) := by
  refine MetFree.of_bodySF (plainFor_of_name own_pn1) hisR ?_
  intro p e s m args below meth c s₁ Bd hml0 hP hK
  obtain ⟨rfl, hZ, hh⟩ := hP
  have hx := Bd.exec
  have hby := Bd.bytes
  have hown : s.vm.findClass "com/example/vraag/vraag/value/XmlChars" = some m.cls := findClass_of_methodNamed Bd.named
  have X0 : Stand p l e ({ frames := 0, cells := 0, slots := 0, locals := 0 } : Room) s m #[(.int p1)] below meth c s₁ [] 0 0 := Stand.of_body Bd
  have e0 : s₁.heap = h0 := by rw [← hh, Bd.state]; rfl
  have pre0 : ∀ t, Steps p.tables e below (s₁.setTop (mkF m 0 #[.val (.int p1)] [])) t → Steps p.tables e below (s₁.setTop (entryFrame m #[(.int p1)] 1)) t := fun t k => castTop (own_ef1 m p1) k
  obtain ⟨z, hz0⟩ : ∃ z, own_F1_0 p1.toInt = z := ⟨_, rfl⟩
  obtain ⟨fs, hr, hrun, hended, hW, hsame⟩ := X0.leave (v := some (.int z)) (fun h => by rw [Bd.returns] at h; cases h)
  have b58 : own_F1_58 p1.toInt = z → Steps p.tables e below (s₁.setTop (mkF m 58 #[.val (.int p1)] [])) (s₁.setFrames fs) := by
    intro hz
    show Steps p.tables e below (s₁.setTop (mkF m 58 #[.val (.int p1)] [])) _
    refine XS.iconst X0.here hx rfl (hb hby own_d1_58) ?_
    show Steps p.tables e below (s₁.setTop (mkF m 59 #[.val (.int p1)] [(.int (0 : Int32))])) _
    have hz1 : (0 : Int32) = z := hz
    subst hz1
    exact retN X0 hx (t := .boolean) Bd.returns (by simp) (hb hby own_d1_59) hr
  have b54 : own_F1_54 p1.toInt = z → Steps p.tables e below (s₁.setTop (mkF m 54 #[.val (.int p1)] [])) (s₁.setFrames fs) := by
    intro hz
    show Steps p.tables e below (s₁.setTop (mkF m 54 #[.val (.int p1)] [])) _
    refine XS.iconst X0.here hx rfl (hb hby own_d1_54) ?_
    show Steps p.tables e below (s₁.setTop (mkF m 55 #[.val (.int p1)] [(.int (1 : Int32))])) _
    refine XS.goto X0.here hx rfl (pc0 := 55) (pc' := 59) rfl (hb hby own_d1_55) (by decide) (by decide) ?_
    show Steps p.tables e below (s₁.setTop (mkF m 59 #[.val (.int p1)] [(.int (1 : Int32))])) _
    have hz1 : (1 : Int32) = z := hz
    subst hz1
    exact retN X0 hx (t := .boolean) Bd.returns (by simp) (hb hby own_d1_59) hr
  have b48 : own_F1_48 p1.toInt = z → Steps p.tables e below (s₁.setTop (mkF m 48 #[.val (.int p1)] [])) (s₁.setFrames fs) := by
    intro hz
    show Steps p.tables e below (s₁.setTop (mkF m 48 #[.val (.int p1)] [])) _
    refine XS.iloadN X0.here hx rfl (hb hby own_d1_48) rfl ?_
    show Steps p.tables e below (s₁.setTop (mkF m 49 #[.val (.int p1)] [(.int p1)])) _
    refine X0.ldcI hx hown (mvT hZ (hw _ (List.mem_of_getElem? (i := 25) rfl))) rfl (hb hby own_d1_49) ?_
    show Steps p.tables e below (s₁.setTop (mkF m 51 #[.val (.int p1)] [(.int (1114111 : Int32)), (.int p1)])) _
    by_cases hc : 1114111 < p1.toInt
    · refine XS.icmpYes X0.here hx rfl (pc0 := 51) (pc' := 58) rfl (hb hby own_d1_51) rfl (own_i_gt_t rfl hc) (by decide) (by decide) ?_
      show Steps p.tables e below (s₁.setTop (mkF m 58 #[.val (.int p1)] [])) _
      exact b58 (by rw [own_F1_48, if_pos hc] at hz; exact hz)
    · refine XS.icmpNo X0.here hx rfl (hb hby own_d1_51) rfl (own_i_gt_f rfl hc) ?_
      show Steps p.tables e below (s₁.setTop (mkF m 54 #[.val (.int p1)] [])) _
      exact b54 (by rw [own_F1_48, if_neg hc] at hz; exact hz)
  have b42 : own_F1_42 p1.toInt = z → Steps p.tables e below (s₁.setTop (mkF m 42 #[.val (.int p1)] [])) (s₁.setFrames fs) := by
    intro hz
    show Steps p.tables e below (s₁.setTop (mkF m 42 #[.val (.int p1)] [])) _
    refine XS.iloadN X0.here hx rfl (hb hby own_d1_42) rfl ?_
    show Steps p.tables e below (s₁.setTop (mkF m 43 #[.val (.int p1)] [(.int p1)])) _
    refine X0.ldcI hx hown (mvT hZ (hw _ (List.mem_of_getElem? (i := 18) rfl))) rfl (hb hby own_d1_43) ?_
    show Steps p.tables e below (s₁.setTop (mkF m 45 #[.val (.int p1)] [(.int (65536 : Int32)), (.int p1)])) _
    by_cases hc : p1.toInt < 65536
    · refine XS.icmpYes X0.here hx rfl (pc0 := 45) (pc' := 58) rfl (hb hby own_d1_45) rfl (own_i_lt_t rfl hc) (by decide) (by decide) ?_
      show Steps p.tables e below (s₁.setTop (mkF m 58 #[.val (.int p1)] [])) _
      exact b58 (by rw [own_F1_42, if_pos hc] at hz; exact hz)
    · refine XS.icmpNo X0.here hx rfl (hb hby own_d1_45) rfl (own_i_lt_f rfl hc) ?_
      show Steps p.tables e below (s₁.setTop (mkF m 48 #[.val (.int p1)] [])) _
      exact b48 (by rw [own_F1_42, if_neg hc] at hz; exact hz)
  have b36 : own_F1_36 p1.toInt = z → Steps p.tables e below (s₁.setTop (mkF m 36 #[.val (.int p1)] [])) (s₁.setFrames fs) := by
    intro hz
    show Steps p.tables e below (s₁.setTop (mkF m 36 #[.val (.int p1)] [])) _
    refine XS.iloadN X0.here hx rfl (hb hby own_d1_36) rfl ?_
    show Steps p.tables e below (s₁.setTop (mkF m 37 #[.val (.int p1)] [(.int p1)])) _
    refine X0.ldcI hx hown (mvT hZ (hw _ (List.mem_of_getElem? (i := 24) rfl))) rfl (hb hby own_d1_37) ?_
    show Steps p.tables e below (s₁.setTop (mkF m 39 #[.val (.int p1)] [(.int (65533 : Int32)), (.int p1)])) _
    by_cases hc : p1.toInt ≤ 65533
    · refine XS.icmpYes X0.here hx rfl (pc0 := 39) (pc' := 54) rfl (hb hby own_d1_39) rfl (own_i_le_t rfl hc) (by decide) (by decide) ?_
      show Steps p.tables e below (s₁.setTop (mkF m 54 #[.val (.int p1)] [])) _
      exact b54 (by rw [own_F1_36, if_pos hc] at hz; exact hz)
    · refine XS.icmpNo X0.here hx rfl (hb hby own_d1_39) rfl (own_i_le_f rfl hc) ?_
      show Steps p.tables e below (s₁.setTop (mkF m 42 #[.val (.int p1)] [])) _
      exact b42 (by rw [own_F1_36, if_neg hc] at hz; exact hz)
  have b30 : own_F1_30 p1.toInt = z → Steps p.tables e below (s₁.setTop (mkF m 30 #[.val (.int p1)] [])) (s₁.setFrames fs) := by
    intro hz
    show Steps p.tables e below (s₁.setTop (mkF m 30 #[.val (.int p1)] [])) _
    refine XS.iloadN X0.here hx rfl (hb hby own_d1_30) rfl ?_
    show Steps p.tables e below (s₁.setTop (mkF m 31 #[.val (.int p1)] [(.int p1)])) _
    refine X0.ldcI hx hown (mvT hZ (hw _ (List.mem_of_getElem? (i := 17) rfl))) rfl (hb hby own_d1_31) ?_
    show Steps p.tables e below (s₁.setTop (mkF m 33 #[.val (.int p1)] [(.int (57344 : Int32)), (.int p1)])) _
    by_cases hc : p1.toInt < 57344
    · refine XS.icmpYes X0.here hx rfl (pc0 := 33) (pc' := 42) rfl (hb hby own_d1_33) rfl (own_i_lt_t rfl hc) (by decide) (by decide) ?_
      show Steps p.tables e below (s₁.setTop (mkF m 42 #[.val (.int p1)] [])) _
      exact b42 (by rw [own_F1_30, if_pos hc] at hz; exact hz)
    · refine XS.icmpNo X0.here hx rfl (hb hby own_d1_33) rfl (own_i_lt_f rfl hc) ?_
      show Steps p.tables e below (s₁.setTop (mkF m 36 #[.val (.int p1)] [])) _
      exact b36 (by rw [own_F1_30, if_neg hc] at hz; exact hz)
  have b24 : own_F1_24 p1.toInt = z → Steps p.tables e below (s₁.setTop (mkF m 24 #[.val (.int p1)] [])) (s₁.setFrames fs) := by
    intro hz
    show Steps p.tables e below (s₁.setTop (mkF m 24 #[.val (.int p1)] [])) _
    refine XS.iloadN X0.here hx rfl (hb hby own_d1_24) rfl ?_
    show Steps p.tables e below (s₁.setTop (mkF m 25 #[.val (.int p1)] [(.int p1)])) _
    refine X0.ldcI hx hown (mvT hZ (hw _ (List.mem_of_getElem? (i := 23) rfl))) rfl (hb hby own_d1_25) ?_
    show Steps p.tables e below (s₁.setTop (mkF m 27 #[.val (.int p1)] [(.int (55295 : Int32)), (.int p1)])) _
    by_cases hc : p1.toInt ≤ 55295
    · refine XS.icmpYes X0.here hx rfl (pc0 := 27) (pc' := 54) rfl (hb hby own_d1_27) rfl (own_i_le_t rfl hc) (by decide) (by decide) ?_
      show Steps p.tables e below (s₁.setTop (mkF m 54 #[.val (.int p1)] [])) _
      exact b54 (by rw [own_F1_24, if_pos hc] at hz; exact hz)
    · refine XS.icmpNo X0.here hx rfl (hb hby own_d1_27) rfl (own_i_le_f rfl hc) ?_
      show Steps p.tables e below (s₁.setTop (mkF m 30 #[.val (.int p1)] [])) _
      exact b30 (by rw [own_F1_24, if_neg hc] at hz; exact hz)
  have b18 : own_F1_18 p1.toInt = z → Steps p.tables e below (s₁.setTop (mkF m 18 #[.val (.int p1)] [])) (s₁.setFrames fs) := by
    intro hz
    show Steps p.tables e below (s₁.setTop (mkF m 18 #[.val (.int p1)] [])) _
    refine XS.iloadN X0.here hx rfl (hb hby own_d1_18) rfl ?_
    show Steps p.tables e below (s₁.setTop (mkF m 19 #[.val (.int p1)] [(.int p1)])) _
    refine XS.bipush X0.here hx rfl (hb hby own_d1_19) ?_
    show Steps p.tables e below (s₁.setTop (mkF m 21 #[.val (.int p1)] [(.int (32 : Int32)), (.int p1)])) _
    by_cases hc : p1.toInt < 32
    · refine XS.icmpYes X0.here hx rfl (pc0 := 21) (pc' := 30) rfl (hb hby own_d1_21) rfl (own_i_lt_t rfl hc) (by decide) (by decide) ?_
      show Steps p.tables e below (s₁.setTop (mkF m 30 #[.val (.int p1)] [])) _
      exact b30 (by rw [own_F1_18, if_pos hc] at hz; exact hz)
    · refine XS.icmpNo X0.here hx rfl (hb hby own_d1_21) rfl (own_i_lt_f rfl hc) ?_
      show Steps p.tables e below (s₁.setTop (mkF m 24 #[.val (.int p1)] [])) _
      exact b24 (by rw [own_F1_18, if_neg hc] at hz; exact hz)
  have b12 : own_F1_12 p1.toInt = z → Steps p.tables e below (s₁.setTop (mkF m 12 #[.val (.int p1)] [])) (s₁.setFrames fs) := by
    intro hz
    show Steps p.tables e below (s₁.setTop (mkF m 12 #[.val (.int p1)] [])) _
    refine XS.iloadN X0.here hx rfl (hb hby own_d1_12) rfl ?_
    show Steps p.tables e below (s₁.setTop (mkF m 13 #[.val (.int p1)] [(.int p1)])) _
    refine XS.bipush X0.here hx rfl (hb hby own_d1_13) ?_
    show Steps p.tables e below (s₁.setTop (mkF m 15 #[.val (.int p1)] [(.int (13 : Int32)), (.int p1)])) _
    by_cases hc : p1.toInt = 13
    · refine XS.icmpYes X0.here hx rfl (pc0 := 15) (pc' := 54) rfl (hb hby own_d1_15) rfl (own_i_eq_t rfl hc) (by decide) (by decide) ?_
      show Steps p.tables e below (s₁.setTop (mkF m 54 #[.val (.int p1)] [])) _
      exact b54 (by rw [own_F1_12, if_pos hc] at hz; exact hz)
    · refine XS.icmpNo X0.here hx rfl (hb hby own_d1_15) rfl (own_i_eq_f rfl hc) ?_
      show Steps p.tables e below (s₁.setTop (mkF m 18 #[.val (.int p1)] [])) _
      exact b18 (by rw [own_F1_12, if_neg hc] at hz; exact hz)
  have b6 : own_F1_6 p1.toInt = z → Steps p.tables e below (s₁.setTop (mkF m 6 #[.val (.int p1)] [])) (s₁.setFrames fs) := by
    intro hz
    show Steps p.tables e below (s₁.setTop (mkF m 6 #[.val (.int p1)] [])) _
    refine XS.iloadN X0.here hx rfl (hb hby own_d1_6) rfl ?_
    show Steps p.tables e below (s₁.setTop (mkF m 7 #[.val (.int p1)] [(.int p1)])) _
    refine XS.bipush X0.here hx rfl (hb hby own_d1_7) ?_
    show Steps p.tables e below (s₁.setTop (mkF m 9 #[.val (.int p1)] [(.int (10 : Int32)), (.int p1)])) _
    by_cases hc : p1.toInt = 10
    · refine XS.icmpYes X0.here hx rfl (pc0 := 9) (pc' := 54) rfl (hb hby own_d1_9) rfl (own_i_eq_t rfl hc) (by decide) (by decide) ?_
      show Steps p.tables e below (s₁.setTop (mkF m 54 #[.val (.int p1)] [])) _
      exact b54 (by rw [own_F1_6, if_pos hc] at hz; exact hz)
    · refine XS.icmpNo X0.here hx rfl (hb hby own_d1_9) rfl (own_i_eq_f rfl hc) ?_
      show Steps p.tables e below (s₁.setTop (mkF m 12 #[.val (.int p1)] [])) _
      exact b12 (by rw [own_F1_6, if_neg hc] at hz; exact hz)
  have b0 : own_F1_0 p1.toInt = z → Steps p.tables e below (s₁.setTop (mkF m 0 #[.val (.int p1)] [])) (s₁.setFrames fs) := by
    intro hz
    show Steps p.tables e below (s₁.setTop (mkF m 0 #[.val (.int p1)] [])) _
    refine XS.iloadN X0.here hx rfl (hb hby own_d1_0) rfl ?_
    show Steps p.tables e below (s₁.setTop (mkF m 1 #[.val (.int p1)] [(.int p1)])) _
    refine XS.bipush X0.here hx rfl (hb hby own_d1_1) ?_
    show Steps p.tables e below (s₁.setTop (mkF m 3 #[.val (.int p1)] [(.int (9 : Int32)), (.int p1)])) _
    by_cases hc : p1.toInt = 9
    · refine XS.icmpYes X0.here hx rfl (pc0 := 3) (pc' := 54) rfl (hb hby own_d1_3) rfl (own_i_eq_t rfl hc) (by decide) (by decide) ?_
      show Steps p.tables e below (s₁.setTop (mkF m 54 #[.val (.int p1)] [])) _
      exact b54 (by rw [own_F1_0, if_pos hc] at hz; exact hz)
    · refine XS.icmpNo X0.here hx rfl (hb hby own_d1_3) rfl (own_i_eq_f rfl hc) ?_
      show Steps p.tables e below (s₁.setTop (mkF m 6 #[.val (.int p1)] [])) _
      exact b6 (by rw [own_F1_0, if_neg hc] at hz; exact hz)
  refine ⟨_, _, pre0 _ (b0 hz0), hrun, hended, _, _, rfl, ?_, ⟨_, rfl⟩, hW, hsame.mono (by decide) (by decide)⟩
  show own_Q (own_F1_0 p1.toInt) h0 n0 _ s₁.heap _
  exact ⟨by rw [hz0], Fr.nil n0, e0⟩
theorem own_d2_0 : decode method_2_code 0 = .ok (.iload_n 0, 1) := by decide +kernel
theorem own_d2_1 : decode method_2_code 1 = .ok (.ifCond .ge 5, 3) := by decide +kernel
theorem own_d2_4 : decode method_2_code 4 = .ok (.iconst 1, 1) := by decide +kernel
theorem own_d2_5 : decode method_2_code 5 = .ok (.ireturn, 1) := by decide +kernel
theorem own_d2_6 : decode method_2_code 6 = .ok (.iload_n 0, 1) := by decide +kernel
theorem own_d2_7 : decode method_2_code 7 = .ok (.ldc 7, 2) := by decide +kernel
theorem own_d2_9 : decode method_2_code 9 = .ok (.if_icmp .le 5, 3) := by decide +kernel
theorem own_d2_12 : decode method_2_code 12 = .ok (.iconst 1, 1) := by decide +kernel
theorem own_d2_13 : decode method_2_code 13 = .ok (.ireturn, 1) := by decide +kernel
theorem own_d2_14 : decode method_2_code 14 = .ok (.iload_n 0, 1) := by decide +kernel
theorem own_d2_15 : decode method_2_code 15 = .ok (.bipush 32, 2) := by decide +kernel
theorem own_d2_17 : decode method_2_code 17 = .ok (.if_icmp .ge 27, 3) := by decide +kernel
theorem own_d2_20 : decode method_2_code 20 = .ok (.iload_n 0, 1) := by decide +kernel
theorem own_d2_21 : decode method_2_code 21 = .ok (.bipush 9, 2) := by decide +kernel
theorem own_d2_23 : decode method_2_code 23 = .ok (.if_icmp .eq 19, 3) := by decide +kernel
theorem own_d2_26 : decode method_2_code 26 = .ok (.iload_n 0, 1) := by decide +kernel
theorem own_d2_27 : decode method_2_code 27 = .ok (.bipush 10, 2) := by decide +kernel
theorem own_d2_29 : decode method_2_code 29 = .ok (.if_icmp .eq 13, 3) := by decide +kernel
theorem own_d2_32 : decode method_2_code 32 = .ok (.iload_n 0, 1) := by decide +kernel
theorem own_d2_33 : decode method_2_code 33 = .ok (.bipush 13, 2) := by decide +kernel
theorem own_d2_35 : decode method_2_code 35 = .ok (.if_icmp .eq 7, 3) := by decide +kernel
theorem own_d2_38 : decode method_2_code 38 = .ok (.iconst 1, 1) := by decide +kernel
theorem own_d2_39 : decode method_2_code 39 = .ok (.goto 4, 3) := by decide +kernel
theorem own_d2_42 : decode method_2_code 42 = .ok (.iconst 0, 1) := by decide +kernel
theorem own_d2_43 : decode method_2_code 43 = .ok (.ireturn, 1) := by decide +kernel
theorem own_d2_44 : decode method_2_code 44 = .ok (.iload_n 0, 1) := by decide +kernel
theorem own_d2_45 : decode method_2_code 45 = .ok (.ldc 8, 2) := by decide +kernel
theorem own_d2_47 : decode method_2_code 47 = .ok (.if_icmp .lt 11, 3) := by decide +kernel
theorem own_d2_50 : decode method_2_code 50 = .ok (.iload_n 0, 1) := by decide +kernel
theorem own_d2_51 : decode method_2_code 51 = .ok (.ldc 9, 2) := by decide +kernel
theorem own_d2_53 : decode method_2_code 53 = .ok (.if_icmp .gt 5, 3) := by decide +kernel
theorem own_d2_56 : decode method_2_code 56 = .ok (.iconst 1, 1) := by decide +kernel
theorem own_d2_57 : decode method_2_code 57 = .ok (.ireturn, 1) := by decide +kernel
theorem own_d2_58 : decode method_2_code 58 = .ok (.iload_n 0, 1) := by decide +kernel
theorem own_d2_59 : decode method_2_code 59 = .ok (.ldc 10, 2) := by decide +kernel
theorem own_d2_61 : decode method_2_code 61 = .ok (.if_icmp .eq 9, 3) := by decide +kernel
theorem own_d2_64 : decode method_2_code 64 = .ok (.iload_n 0, 1) := by decide +kernel
theorem own_d2_65 : decode method_2_code 65 = .ok (.ldc 11, 2) := by decide +kernel
theorem own_d2_67 : decode method_2_code 67 = .ok (.if_icmp .ne 7, 3) := by decide +kernel
theorem own_d2_70 : decode method_2_code 70 = .ok (.iconst 1, 1) := by decide +kernel
theorem own_d2_71 : decode method_2_code 71 = .ok (.goto 4, 3) := by decide +kernel
theorem own_d2_74 : decode method_2_code 74 = .ok (.iconst 0, 1) := by decide +kernel
theorem own_d2_75 : decode method_2_code 75 = .ok (.ireturn, 1) := by decide +kernel
theorem own_pn2 : plainName "com/example/vraag/vraag/value/XmlCharsIsCharPinLaw" = true := by first | (simp [plainName, overriddenIn]; done) | decide +kernel
theorem own_ef2 (m : MethodId) (x0 : Int32) : entryFrame m #[(.int x0)] 1 = mkF m 0 #[.val (.int x0)] [] := by first | (simp [entryFrame, mkF, argsToLocals, Value.category]; done) | rfl
theorem own_pd2 : parseMethodDescriptor "(I)Z" = some ⟨[.int], some .boolean⟩ := by decide +kernel
def own_F2_74 (x : Int) : Int32 := (0 : Int32)
def own_F2_70 (x : Int) : Int32 := (1 : Int32)
def own_F2_64 (x : Int) : Int32 := if ¬ x = 65535 then own_F2_74 x else own_F2_70 x
def own_F2_58 (x : Int) : Int32 := if x = 65534 then own_F2_70 x else own_F2_64 x
def own_F2_56 (x : Int) : Int32 := (1 : Int32)
def own_F2_50 (x : Int) : Int32 := if 57343 < x then own_F2_58 x else own_F2_56 x
def own_F2_44 (x : Int) : Int32 := if x < 55296 then own_F2_58 x else own_F2_50 x
def own_F2_42 (x : Int) : Int32 := (0 : Int32)
def own_F2_38 (x : Int) : Int32 := (1 : Int32)
def own_F2_32 (x : Int) : Int32 := if x = 13 then own_F2_42 x else own_F2_38 x
def own_F2_26 (x : Int) : Int32 := if x = 10 then own_F2_42 x else own_F2_32 x
def own_F2_20 (x : Int) : Int32 := if x = 9 then own_F2_42 x else own_F2_26 x
def own_F2_14 (x : Int) : Int32 := if 32 ≤ x then own_F2_44 x else own_F2_20 x
def own_F2_12 (x : Int) : Int32 := (1 : Int32)
def own_F2_6 (x : Int) : Int32 := if x ≤ 1114111 then own_F2_14 x else own_F2_12 x
def own_F2_4 (x : Int) : Int32 := (1 : Int32)
def own_F2_0 (x : Int) : Int32 := if 0 ≤ x then own_F2_6 x else own_F2_4 x
set_option maxRecDepth 65536 in
set_option maxHeartbeats 40000000 in
theorem own_rm2 (l : Launch) (Z : State) (a0 : Array Value) (hw : ∀ d ∈ tables_1, d.before a0 Z = true) (ws : List Jvm.Cond) (p1 : Int32) (h0 : Heap) (n0 : Nat) :
    MetFree l (⟨"com/example/vraag/vraag/value/XmlCharsIsCharPinLaw", "excluded", "(I)Z"⟩ : MethodName) (head1 (Jvm.Cond.code (⟨"com/example/vraag/vraag/value/XmlCharsIsCharPinLaw", "excluded", "(I)Z"⟩ : MethodName) method_2_code 1 (some .boolean) :: ws) ({ frames := 0, cells := 0, slots := 0, locals := 0 } : Room)) (fun a U => a = #[(.int p1)] ∧ Z.Warmed39 U.vm ∧ U.heap = h0) (fun _ _ _ _ _ => True) (fun _ U o U' => ∃ v L, o = .returned v ∧ own_Q (own_F2_0 p1.toInt) h0 n0 v U'.heap L ∧ FrameEnd U o U' L ({ frames := 0, cells := 0, slots := 0, locals := 0 } : Room).cells ({ frames := 0, cells := 0, slots := 0, locals := 0 } : Room).slots) := by
  refine MetFree.of_bodySF (plainFor_of_name own_pn2) hisR ?_
  intro p e s m args below meth c s₁ Bd hml0 hP hK
  obtain ⟨rfl, hZ, hh⟩ := hP
  have hx := Bd.exec
  have hby := Bd.bytes
  have hown : s.vm.findClass "com/example/vraag/vraag/value/XmlCharsIsCharPinLaw" = some m.cls := findClass_of_methodNamed Bd.named
  have X0 : Stand p l e ({ frames := 0, cells := 0, slots := 0, locals := 0 } : Room) s m #[(.int p1)] below meth c s₁ [] 0 0 := Stand.of_body Bd
  have e0 : s₁.heap = h0 := by rw [← hh, Bd.state]; rfl
  have pre0 : ∀ t, Steps p.tables e below (s₁.setTop (mkF m 0 #[.val (.int p1)] [])) t → Steps p.tables e below (s₁.setTop (entryFrame m #[(.int p1)] 1)) t := fun t k => castTop (own_ef2 m p1) k
  obtain ⟨z, hz0⟩ : ∃ z, own_F2_0 p1.toInt = z := ⟨_, rfl⟩
  obtain ⟨fs, hr, hrun, hended, hW, hsame⟩ := X0.leave (v := some (.int z)) (fun h => by rw [Bd.returns] at h; cases h)
  have b74 : own_F2_74 p1.toInt = z → Steps p.tables e below (s₁.setTop (mkF m 74 #[.val (.int p1)] [])) (s₁.setFrames fs) := by
    intro hz
    show Steps p.tables e below (s₁.setTop (mkF m 74 #[.val (.int p1)] [])) _
    refine XS.iconst X0.here hx rfl (hb hby own_d2_74) ?_
    show Steps p.tables e below (s₁.setTop (mkF m 75 #[.val (.int p1)] [(.int (0 : Int32))])) _
    have hz1 : (0 : Int32) = z := hz
    subst hz1
    exact retN X0 hx (t := .boolean) Bd.returns (by simp) (hb hby own_d2_75) hr
  have b70 : own_F2_70 p1.toInt = z → Steps p.tables e below (s₁.setTop (mkF m 70 #[.val (.int p1)] [])) (s₁.setFrames fs) := by
    intro hz
    show Steps p.tables e below (s₁.setTop (mkF m 70 #[.val (.int p1)] [])) _
    refine XS.iconst X0.here hx rfl (hb hby own_d2_70) ?_
    show Steps p.tables e below (s₁.setTop (mkF m 71 #[.val (.int p1)] [(.int (1 : Int32))])) _
    refine XS.goto X0.here hx rfl (pc0 := 71) (pc' := 75) rfl (hb hby own_d2_71) (by decide) (by decide) ?_
    show Steps p.tables e below (s₁.setTop (mkF m 75 #[.val (.int p1)] [(.int (1 : Int32))])) _
    have hz1 : (1 : Int32) = z := hz
    subst hz1
    exact retN X0 hx (t := .boolean) Bd.returns (by simp) (hb hby own_d2_75) hr
  have b64 : own_F2_64 p1.toInt = z → Steps p.tables e below (s₁.setTop (mkF m 64 #[.val (.int p1)] [])) (s₁.setFrames fs) := by
    intro hz
    show Steps p.tables e below (s₁.setTop (mkF m 64 #[.val (.int p1)] [])) _
    refine XS.iloadN X0.here hx rfl (hb hby own_d2_64) rfl ?_
    show Steps p.tables e below (s₁.setTop (mkF m 65 #[.val (.int p1)] [(.int p1)])) _
    refine X0.ldcI hx hown (mvT hZ (hw _ (List.mem_of_getElem? (i := 7) rfl))) rfl (hb hby own_d2_65) ?_
    show Steps p.tables e below (s₁.setTop (mkF m 67 #[.val (.int p1)] [(.int (65535 : Int32)), (.int p1)])) _
    by_cases hc : ¬ p1.toInt = 65535
    · refine XS.icmpYes X0.here hx rfl (pc0 := 67) (pc' := 74) rfl (hb hby own_d2_67) rfl (own_i_ne_t rfl hc) (by decide) (by decide) ?_
      show Steps p.tables e below (s₁.setTop (mkF m 74 #[.val (.int p1)] [])) _
      exact b74 (by rw [own_F2_64, if_pos hc] at hz; exact hz)
    · refine XS.icmpNo X0.here hx rfl (hb hby own_d2_67) rfl (own_i_ne_f rfl hc) ?_
      show Steps p.tables e below (s₁.setTop (mkF m 70 #[.val (.int p1)] [])) _
      exact b70 (by rw [own_F2_64, if_neg hc] at hz; exact hz)
  have b58 : own_F2_58 p1.toInt = z → Steps p.tables e below (s₁.setTop (mkF m 58 #[.val (.int p1)] [])) (s₁.setFrames fs) := by
    intro hz
    show Steps p.tables e below (s₁.setTop (mkF m 58 #[.val (.int p1)] [])) _
    refine XS.iloadN X0.here hx rfl (hb hby own_d2_58) rfl ?_
    show Steps p.tables e below (s₁.setTop (mkF m 59 #[.val (.int p1)] [(.int p1)])) _
    refine X0.ldcI hx hown (mvT hZ (hw _ (List.mem_of_getElem? (i := 6) rfl))) rfl (hb hby own_d2_59) ?_
    show Steps p.tables e below (s₁.setTop (mkF m 61 #[.val (.int p1)] [(.int (65534 : Int32)), (.int p1)])) _
    by_cases hc : p1.toInt = 65534
    · refine XS.icmpYes X0.here hx rfl (pc0 := 61) (pc' := 70) rfl (hb hby own_d2_61) rfl (own_i_eq_t rfl hc) (by decide) (by decide) ?_
      show Steps p.tables e below (s₁.setTop (mkF m 70 #[.val (.int p1)] [])) _
      exact b70 (by rw [own_F2_58, if_pos hc] at hz; exact hz)
    · refine XS.icmpNo X0.here hx rfl (hb hby own_d2_61) rfl (own_i_eq_f rfl hc) ?_
      show Steps p.tables e below (s₁.setTop (mkF m 64 #[.val (.int p1)] [])) _
      exact b64 (by rw [own_F2_58, if_neg hc] at hz; exact hz)
  have b56 : own_F2_56 p1.toInt = z → Steps p.tables e below (s₁.setTop (mkF m 56 #[.val (.int p1)] [])) (s₁.setFrames fs) := by
    intro hz
    show Steps p.tables e below (s₁.setTop (mkF m 56 #[.val (.int p1)] [])) _
    refine XS.iconst X0.here hx rfl (hb hby own_d2_56) ?_
    show Steps p.tables e below (s₁.setTop (mkF m 57 #[.val (.int p1)] [(.int (1 : Int32))])) _
    have hz1 : (1 : Int32) = z := hz
    subst hz1
    exact retN X0 hx (t := .boolean) Bd.returns (by simp) (hb hby own_d2_57) hr
  have b50 : own_F2_50 p1.toInt = z → Steps p.tables e below (s₁.setTop (mkF m 50 #[.val (.int p1)] [])) (s₁.setFrames fs) := by
    intro hz
    show Steps p.tables e below (s₁.setTop (mkF m 50 #[.val (.int p1)] [])) _
    refine XS.iloadN X0.here hx rfl (hb hby own_d2_50) rfl ?_
    show Steps p.tables e below (s₁.setTop (mkF m 51 #[.val (.int p1)] [(.int p1)])) _
    refine X0.ldcI hx hown (mvT hZ (hw _ (List.mem_of_getElem? (i := 3) rfl))) rfl (hb hby own_d2_51) ?_
    show Steps p.tables e below (s₁.setTop (mkF m 53 #[.val (.int p1)] [(.int (57343 : Int32)), (.int p1)])) _
    by_cases hc : 57343 < p1.toInt
    · refine XS.icmpYes X0.here hx rfl (pc0 := 53) (pc' := 58) rfl (hb hby own_d2_53) rfl (own_i_gt_t rfl hc) (by decide) (by decide) ?_
      show Steps p.tables e below (s₁.setTop (mkF m 58 #[.val (.int p1)] [])) _
      exact b58 (by rw [own_F2_50, if_pos hc] at hz; exact hz)
    · refine XS.icmpNo X0.here hx rfl (hb hby own_d2_53) rfl (own_i_gt_f rfl hc) ?_
      show Steps p.tables e below (s₁.setTop (mkF m 56 #[.val (.int p1)] [])) _
      exact b56 (by rw [own_F2_50, if_neg hc] at hz; exact hz)
  have b44 : own_F2_44 p1.toInt = z → Steps p.tables e below (s₁.setTop (mkF m 44 #[.val (.int p1)] [])) (s₁.setFrames fs) := by
    intro hz
    show Steps p.tables e below (s₁.setTop (mkF m 44 #[.val (.int p1)] [])) _
    refine XS.iloadN X0.here hx rfl (hb hby own_d2_44) rfl ?_
    show Steps p.tables e below (s₁.setTop (mkF m 45 #[.val (.int p1)] [(.int p1)])) _
    refine X0.ldcI hx hown (mvT hZ (hw _ (List.mem_of_getElem? (i := 2) rfl))) rfl (hb hby own_d2_45) ?_
    show Steps p.tables e below (s₁.setTop (mkF m 47 #[.val (.int p1)] [(.int (55296 : Int32)), (.int p1)])) _
    by_cases hc : p1.toInt < 55296
    · refine XS.icmpYes X0.here hx rfl (pc0 := 47) (pc' := 58) rfl (hb hby own_d2_47) rfl (own_i_lt_t rfl hc) (by decide) (by decide) ?_
      show Steps p.tables e below (s₁.setTop (mkF m 58 #[.val (.int p1)] [])) _
      exact b58 (by rw [own_F2_44, if_pos hc] at hz; exact hz)
    · refine XS.icmpNo X0.here hx rfl (hb hby own_d2_47) rfl (own_i_lt_f rfl hc) ?_
      show Steps p.tables e below (s₁.setTop (mkF m 50 #[.val (.int p1)] [])) _
      exact b50 (by rw [own_F2_44, if_neg hc] at hz; exact hz)
  have b42 : own_F2_42 p1.toInt = z → Steps p.tables e below (s₁.setTop (mkF m 42 #[.val (.int p1)] [])) (s₁.setFrames fs) := by
    intro hz
    show Steps p.tables e below (s₁.setTop (mkF m 42 #[.val (.int p1)] [])) _
    refine XS.iconst X0.here hx rfl (hb hby own_d2_42) ?_
    show Steps p.tables e below (s₁.setTop (mkF m 43 #[.val (.int p1)] [(.int (0 : Int32))])) _
    have hz1 : (0 : Int32) = z := hz
    subst hz1
    exact retN X0 hx (t := .boolean) Bd.returns (by simp) (hb hby own_d2_43) hr
  have b38 : own_F2_38 p1.toInt = z → Steps p.tables e below (s₁.setTop (mkF m 38 #[.val (.int p1)] [])) (s₁.setFrames fs) := by
    intro hz
    show Steps p.tables e below (s₁.setTop (mkF m 38 #[.val (.int p1)] [])) _
    refine XS.iconst X0.here hx rfl (hb hby own_d2_38) ?_
    show Steps p.tables e below (s₁.setTop (mkF m 39 #[.val (.int p1)] [(.int (1 : Int32))])) _
    refine XS.goto X0.here hx rfl (pc0 := 39) (pc' := 43) rfl (hb hby own_d2_39) (by decide) (by decide) ?_
    show Steps p.tables e below (s₁.setTop (mkF m 43 #[.val (.int p1)] [(.int (1 : Int32))])) _
    have hz1 : (1 : Int32) = z := hz
    subst hz1
    exact retN X0 hx (t := .boolean) Bd.returns (by simp) (hb hby own_d2_43) hr
  have b32 : own_F2_32 p1.toInt = z → Steps p.tables e below (s₁.setTop (mkF m 32 #[.val (.int p1)] [])) (s₁.setFrames fs) := by
    intro hz
    show Steps p.tables e below (s₁.setTop (mkF m 32 #[.val (.int p1)] [])) _
    refine XS.iloadN X0.here hx rfl (hb hby own_d2_32) rfl ?_
    show Steps p.tables e below (s₁.setTop (mkF m 33 #[.val (.int p1)] [(.int p1)])) _
    refine XS.bipush X0.here hx rfl (hb hby own_d2_33) ?_
    show Steps p.tables e below (s₁.setTop (mkF m 35 #[.val (.int p1)] [(.int (13 : Int32)), (.int p1)])) _
    by_cases hc : p1.toInt = 13
    · refine XS.icmpYes X0.here hx rfl (pc0 := 35) (pc' := 42) rfl (hb hby own_d2_35) rfl (own_i_eq_t rfl hc) (by decide) (by decide) ?_
      show Steps p.tables e below (s₁.setTop (mkF m 42 #[.val (.int p1)] [])) _
      exact b42 (by rw [own_F2_32, if_pos hc] at hz; exact hz)
    · refine XS.icmpNo X0.here hx rfl (hb hby own_d2_35) rfl (own_i_eq_f rfl hc) ?_
      show Steps p.tables e below (s₁.setTop (mkF m 38 #[.val (.int p1)] [])) _
      exact b38 (by rw [own_F2_32, if_neg hc] at hz; exact hz)
  have b26 : own_F2_26 p1.toInt = z → Steps p.tables e below (s₁.setTop (mkF m 26 #[.val (.int p1)] [])) (s₁.setFrames fs) := by
    intro hz
    show Steps p.tables e below (s₁.setTop (mkF m 26 #[.val (.int p1)] [])) _
    refine XS.iloadN X0.here hx rfl (hb hby own_d2_26) rfl ?_
    show Steps p.tables e below (s₁.setTop (mkF m 27 #[.val (.int p1)] [(.int p1)])) _
    refine XS.bipush X0.here hx rfl (hb hby own_d2_27) ?_
    show Steps p.tables e below (s₁.setTop (mkF m 29 #[.val (.int p1)] [(.int (10 : Int32)), (.int p1)])) _
    by_cases hc : p1.toInt = 10
    · refine XS.icmpYes X0.here hx rfl (pc0 := 29) (pc' := 42) rfl (hb hby own_d2_29) rfl (own_i_eq_t rfl hc) (by decide) (by decide) ?_
      show Steps p.tables e below (s₁.setTop (mkF m 42 #[.val (.int p1)] [])) _
      exact b42 (by rw [own_F2_26, if_pos hc] at hz; exact hz)
    · refine XS.icmpNo X0.here hx rfl (hb hby own_d2_29) rfl (own_i_eq_f rfl hc) ?_
      show Steps p.tables e below (s₁.setTop (mkF m 32 #[.val (.int p1)] [])) _
      exact b32 (by rw [own_F2_26, if_neg hc] at hz; exact hz)
  have b20 : own_F2_20 p1.toInt = z → Steps p.tables e below (s₁.setTop (mkF m 20 #[.val (.int p1)] [])) (s₁.setFrames fs) := by
    intro hz
    show Steps p.tables e below (s₁.setTop (mkF m 20 #[.val (.int p1)] [])) _
    refine XS.iloadN X0.here hx rfl (hb hby own_d2_20) rfl ?_
    show Steps p.tables e below (s₁.setTop (mkF m 21 #[.val (.int p1)] [(.int p1)])) _
    refine XS.bipush X0.here hx rfl (hb hby own_d2_21) ?_
    show Steps p.tables e below (s₁.setTop (mkF m 23 #[.val (.int p1)] [(.int (9 : Int32)), (.int p1)])) _
    by_cases hc : p1.toInt = 9
    · refine XS.icmpYes X0.here hx rfl (pc0 := 23) (pc' := 42) rfl (hb hby own_d2_23) rfl (own_i_eq_t rfl hc) (by decide) (by decide) ?_
      show Steps p.tables e below (s₁.setTop (mkF m 42 #[.val (.int p1)] [])) _
      exact b42 (by rw [own_F2_20, if_pos hc] at hz; exact hz)
    · refine XS.icmpNo X0.here hx rfl (hb hby own_d2_23) rfl (own_i_eq_f rfl hc) ?_
      show Steps p.tables e below (s₁.setTop (mkF m 26 #[.val (.int p1)] [])) _
      exact b26 (by rw [own_F2_20, if_neg hc] at hz; exact hz)
  have b14 : own_F2_14 p1.toInt = z → Steps p.tables e below (s₁.setTop (mkF m 14 #[.val (.int p1)] [])) (s₁.setFrames fs) := by
    intro hz
    show Steps p.tables e below (s₁.setTop (mkF m 14 #[.val (.int p1)] [])) _
    refine XS.iloadN X0.here hx rfl (hb hby own_d2_14) rfl ?_
    show Steps p.tables e below (s₁.setTop (mkF m 15 #[.val (.int p1)] [(.int p1)])) _
    refine XS.bipush X0.here hx rfl (hb hby own_d2_15) ?_
    show Steps p.tables e below (s₁.setTop (mkF m 17 #[.val (.int p1)] [(.int (32 : Int32)), (.int p1)])) _
    by_cases hc : 32 ≤ p1.toInt
    · refine XS.icmpYes X0.here hx rfl (pc0 := 17) (pc' := 44) rfl (hb hby own_d2_17) rfl (own_i_ge_t rfl hc) (by decide) (by decide) ?_
      show Steps p.tables e below (s₁.setTop (mkF m 44 #[.val (.int p1)] [])) _
      exact b44 (by rw [own_F2_14, if_pos hc] at hz; exact hz)
    · refine XS.icmpNo X0.here hx rfl (hb hby own_d2_17) rfl (own_i_ge_f rfl hc) ?_
      show Steps p.tables e below (s₁.setTop (mkF m 20 #[.val (.int p1)] [])) _
      exact b20 (by rw [own_F2_14, if_neg hc] at hz; exact hz)
  have b12 : own_F2_12 p1.toInt = z → Steps p.tables e below (s₁.setTop (mkF m 12 #[.val (.int p1)] [])) (s₁.setFrames fs) := by
    intro hz
    show Steps p.tables e below (s₁.setTop (mkF m 12 #[.val (.int p1)] [])) _
    refine XS.iconst X0.here hx rfl (hb hby own_d2_12) ?_
    show Steps p.tables e below (s₁.setTop (mkF m 13 #[.val (.int p1)] [(.int (1 : Int32))])) _
    have hz1 : (1 : Int32) = z := hz
    subst hz1
    exact retN X0 hx (t := .boolean) Bd.returns (by simp) (hb hby own_d2_13) hr
  have b6 : own_F2_6 p1.toInt = z → Steps p.tables e below (s₁.setTop (mkF m 6 #[.val (.int p1)] [])) (s₁.setFrames fs) := by
    intro hz
    show Steps p.tables e below (s₁.setTop (mkF m 6 #[.val (.int p1)] [])) _
    refine XS.iloadN X0.here hx rfl (hb hby own_d2_6) rfl ?_
    show Steps p.tables e below (s₁.setTop (mkF m 7 #[.val (.int p1)] [(.int p1)])) _
    refine X0.ldcI hx hown (mvT hZ (hw _ (List.mem_of_getElem? (i := 9) rfl))) rfl (hb hby own_d2_7) ?_
    show Steps p.tables e below (s₁.setTop (mkF m 9 #[.val (.int p1)] [(.int (1114111 : Int32)), (.int p1)])) _
    by_cases hc : p1.toInt ≤ 1114111
    · refine XS.icmpYes X0.here hx rfl (pc0 := 9) (pc' := 14) rfl (hb hby own_d2_9) rfl (own_i_le_t rfl hc) (by decide) (by decide) ?_
      show Steps p.tables e below (s₁.setTop (mkF m 14 #[.val (.int p1)] [])) _
      exact b14 (by rw [own_F2_6, if_pos hc] at hz; exact hz)
    · refine XS.icmpNo X0.here hx rfl (hb hby own_d2_9) rfl (own_i_le_f rfl hc) ?_
      show Steps p.tables e below (s₁.setTop (mkF m 12 #[.val (.int p1)] [])) _
      exact b12 (by rw [own_F2_6, if_neg hc] at hz; exact hz)
  have b4 : own_F2_4 p1.toInt = z → Steps p.tables e below (s₁.setTop (mkF m 4 #[.val (.int p1)] [])) (s₁.setFrames fs) := by
    intro hz
    show Steps p.tables e below (s₁.setTop (mkF m 4 #[.val (.int p1)] [])) _
    refine XS.iconst X0.here hx rfl (hb hby own_d2_4) ?_
    show Steps p.tables e below (s₁.setTop (mkF m 5 #[.val (.int p1)] [(.int (1 : Int32))])) _
    have hz1 : (1 : Int32) = z := hz
    subst hz1
    exact retN X0 hx (t := .boolean) Bd.returns (by simp) (hb hby own_d2_5) hr
  have b0 : own_F2_0 p1.toInt = z → Steps p.tables e below (s₁.setTop (mkF m 0 #[.val (.int p1)] [])) (s₁.setFrames fs) := by
    intro hz
    show Steps p.tables e below (s₁.setTop (mkF m 0 #[.val (.int p1)] [])) _
    refine XS.iloadN X0.here hx rfl (hb hby own_d2_0) rfl ?_
    show Steps p.tables e below (s₁.setTop (mkF m 1 #[.val (.int p1)] [(.int p1)])) _
    by_cases hc : 0 ≤ p1.toInt
    · refine XS.ifYes X0.here hx rfl (pc0 := 1) (pc' := 6) rfl (hb hby own_d2_1) rfl (own_z_ge_t hc) (by decide) (by decide) ?_
      show Steps p.tables e below (s₁.setTop (mkF m 6 #[.val (.int p1)] [])) _
      exact b6 (by rw [own_F2_0, if_pos hc] at hz; exact hz)
    · refine XS.ifNo X0.here hx rfl (hb hby own_d2_1) rfl (own_z_ge_f hc) ?_
      show Steps p.tables e below (s₁.setTop (mkF m 4 #[.val (.int p1)] [])) _
      exact b4 (by rw [own_F2_0, if_neg hc] at hz; exact hz)
  refine ⟨_, _, pre0 _ (b0 hz0), hrun, hended, _, _, rfl, ?_, ⟨_, rfl⟩, hW, hsame.mono (by decide) (by decide)⟩
  show own_Q (own_F2_0 p1.toInt) h0 n0 _ s₁.heap _
  exact ⟨by rw [hz0], Fr.nil n0, e0⟩
theorem own_p0 (x : Int) (h2 : x < 0) : own_F1_0 x = 0 ∧ own_F2_0 x = 1 := by
  constructor
  · rw [own_F1_0, if_neg (by omega), own_F1_6, if_neg (by omega), own_F1_12, if_neg (by omega), own_F1_18, if_pos (by omega), own_F1_30, if_pos (by omega), own_F1_42, if_pos (by omega), own_F1_58]
  · rw [own_F2_0, if_neg (by omega), own_F2_4]
theorem own_p1 (x : Int) (h1 : 0 ≤ x) (h2 : x < 9) : own_F1_0 x = 0 ∧ own_F2_0 x = 1 := by
  constructor
  · rw [own_F1_0, if_neg (by omega), own_F1_6, if_neg (by omega), own_F1_12, if_neg (by omega), own_F1_18, if_pos (by omega), own_F1_30, if_pos (by omega), own_F1_42, if_pos (by omega), own_F1_58]
  · rw [own_F2_0, if_pos (by omega), own_F2_6, if_pos (by omega), own_F2_14, if_neg (by omega), own_F2_20, if_neg (by omega), own_F2_26, if_neg (by omega), own_F2_32, if_neg (by omega), own_F2_38]
theorem own_p2 (x : Int) (h1 : 9 ≤ x) (h2 : x < 10) : own_F1_0 x = 1 ∧ own_F2_0 x = 0 := by
  constructor
  · rw [own_F1_0, if_pos (by omega), own_F1_54]
  · rw [own_F2_0, if_pos (by omega), own_F2_6, if_pos (by omega), own_F2_14, if_neg (by omega), own_F2_20, if_pos (by omega), own_F2_42]
theorem own_p3 (x : Int) (h1 : 10 ≤ x) (h2 : x < 11) : own_F1_0 x = 1 ∧ own_F2_0 x = 0 := by
  constructor
  · rw [own_F1_0, if_neg (by omega), own_F1_6, if_pos (by omega), own_F1_54]
  · rw [own_F2_0, if_pos (by omega), own_F2_6, if_pos (by omega), own_F2_14, if_neg (by omega), own_F2_20, if_neg (by omega), own_F2_26, if_pos (by omega), own_F2_42]
theorem own_p4 (x : Int) (h1 : 11 ≤ x) (h2 : x < 13) : own_F1_0 x = 0 ∧ own_F2_0 x = 1 := by
  constructor
  · rw [own_F1_0, if_neg (by omega), own_F1_6, if_neg (by omega), own_F1_12, if_neg (by omega), own_F1_18, if_pos (by omega), own_F1_30, if_pos (by omega), own_F1_42, if_pos (by omega), own_F1_58]
  · rw [own_F2_0, if_pos (by omega), own_F2_6, if_pos (by omega), own_F2_14, if_neg (by omega), own_F2_20, if_neg (by omega), own_F2_26, if_neg (by omega), own_F2_32, if_neg (by omega), own_F2_38]
theorem own_p5 (x : Int) (h1 : 13 ≤ x) (h2 : x < 14) : own_F1_0 x = 1 ∧ own_F2_0 x = 0 := by
  constructor
  · rw [own_F1_0, if_neg (by omega), own_F1_6, if_neg (by omega), own_F1_12, if_pos (by omega), own_F1_54]
  · rw [own_F2_0, if_pos (by omega), own_F2_6, if_pos (by omega), own_F2_14, if_neg (by omega), own_F2_20, if_neg (by omega), own_F2_26, if_neg (by omega), own_F2_32, if_pos (by omega), own_F2_42]
theorem own_p6 (x : Int) (h1 : 14 ≤ x) (h2 : x < 32) : own_F1_0 x = 0 ∧ own_F2_0 x = 1 := by
  constructor
  · rw [own_F1_0, if_neg (by omega), own_F1_6, if_neg (by omega), own_F1_12, if_neg (by omega), own_F1_18, if_pos (by omega), own_F1_30, if_pos (by omega), own_F1_42, if_pos (by omega), own_F1_58]
  · rw [own_F2_0, if_pos (by omega), own_F2_6, if_pos (by omega), own_F2_14, if_neg (by omega), own_F2_20, if_neg (by omega), own_F2_26, if_neg (by omega), own_F2_32, if_neg (by omega), own_F2_38]
theorem own_p7 (x : Int) (h1 : 32 ≤ x) (h2 : x < 55296) : own_F1_0 x = 1 ∧ own_F2_0 x = 0 := by
  constructor
  · rw [own_F1_0, if_neg (by omega), own_F1_6, if_neg (by omega), own_F1_12, if_neg (by omega), own_F1_18, if_neg (by omega), own_F1_24, if_pos (by omega), own_F1_54]
  · rw [own_F2_0, if_pos (by omega), own_F2_6, if_pos (by omega), own_F2_14, if_pos (by omega), own_F2_44, if_pos (by omega), own_F2_58, if_neg (by omega), own_F2_64, if_pos (by omega), own_F2_74]
theorem own_p8 (x : Int) (h1 : 55296 ≤ x) (h2 : x < 57344) : own_F1_0 x = 0 ∧ own_F2_0 x = 1 := by
  constructor
  · rw [own_F1_0, if_neg (by omega), own_F1_6, if_neg (by omega), own_F1_12, if_neg (by omega), own_F1_18, if_neg (by omega), own_F1_24, if_neg (by omega), own_F1_30, if_pos (by omega), own_F1_42, if_pos (by omega), own_F1_58]
  · rw [own_F2_0, if_pos (by omega), own_F2_6, if_pos (by omega), own_F2_14, if_pos (by omega), own_F2_44, if_neg (by omega), own_F2_50, if_neg (by omega), own_F2_56]
theorem own_p9 (x : Int) (h1 : 57344 ≤ x) (h2 : x < 65534) : own_F1_0 x = 1 ∧ own_F2_0 x = 0 := by
  constructor
  · rw [own_F1_0, if_neg (by omega), own_F1_6, if_neg (by omega), own_F1_12, if_neg (by omega), own_F1_18, if_neg (by omega), own_F1_24, if_neg (by omega), own_F1_30, if_neg (by omega), own_F1_36, if_pos (by omega), own_F1_54]
  · rw [own_F2_0, if_pos (by omega), own_F2_6, if_pos (by omega), own_F2_14, if_pos (by omega), own_F2_44, if_neg (by omega), own_F2_50, if_pos (by omega), own_F2_58, if_neg (by omega), own_F2_64, if_pos (by omega), own_F2_74]
theorem own_p10 (x : Int) (h1 : 65534 ≤ x) (h2 : x < 65535) : own_F1_0 x = 0 ∧ own_F2_0 x = 1 := by
  constructor
  · rw [own_F1_0, if_neg (by omega), own_F1_6, if_neg (by omega), own_F1_12, if_neg (by omega), own_F1_18, if_neg (by omega), own_F1_24, if_neg (by omega), own_F1_30, if_neg (by omega), own_F1_36, if_neg (by omega), own_F1_42, if_pos (by omega), own_F1_58]
  · rw [own_F2_0, if_pos (by omega), own_F2_6, if_pos (by omega), own_F2_14, if_pos (by omega), own_F2_44, if_neg (by omega), own_F2_50, if_pos (by omega), own_F2_58, if_pos (by omega), own_F2_70]
theorem own_p11 (x : Int) (h1 : 65535 ≤ x) (h2 : x < 65536) : own_F1_0 x = 0 ∧ own_F2_0 x = 1 := by
  constructor
  · rw [own_F1_0, if_neg (by omega), own_F1_6, if_neg (by omega), own_F1_12, if_neg (by omega), own_F1_18, if_neg (by omega), own_F1_24, if_neg (by omega), own_F1_30, if_neg (by omega), own_F1_36, if_neg (by omega), own_F1_42, if_pos (by omega), own_F1_58]
  · rw [own_F2_0, if_pos (by omega), own_F2_6, if_pos (by omega), own_F2_14, if_pos (by omega), own_F2_44, if_neg (by omega), own_F2_50, if_pos (by omega), own_F2_58, if_neg (by omega), own_F2_64, if_neg (by omega), own_F2_70]
theorem own_p12 (x : Int) (h1 : 65536 ≤ x) (h2 : x < 1114112) : own_F1_0 x = 1 ∧ own_F2_0 x = 0 := by
  constructor
  · rw [own_F1_0, if_neg (by omega), own_F1_6, if_neg (by omega), own_F1_12, if_neg (by omega), own_F1_18, if_neg (by omega), own_F1_24, if_neg (by omega), own_F1_30, if_neg (by omega), own_F1_36, if_neg (by omega), own_F1_42, if_neg (by omega), own_F1_48, if_neg (by omega), own_F1_54]
  · rw [own_F2_0, if_pos (by omega), own_F2_6, if_pos (by omega), own_F2_14, if_pos (by omega), own_F2_44, if_neg (by omega), own_F2_50, if_pos (by omega), own_F2_58, if_neg (by omega), own_F2_64, if_pos (by omega), own_F2_74]
theorem own_p13 (x : Int) (h1 : 1114112 ≤ x) : own_F1_0 x = 0 ∧ own_F2_0 x = 1 := by
  constructor
  · rw [own_F1_0, if_neg (by omega), own_F1_6, if_neg (by omega), own_F1_12, if_neg (by omega), own_F1_18, if_neg (by omega), own_F1_24, if_neg (by omega), own_F1_30, if_neg (by omega), own_F1_36, if_neg (by omega), own_F1_42, if_neg (by omega), own_F1_48, if_pos (by omega), own_F1_58]
  · rw [own_F2_0, if_pos (by omega), own_F2_6, if_neg (by omega), own_F2_12]
theorem own_plain (x : Int) : (own_F1_0 x = 1 ∧ own_F2_0 x = 0) ∨ (own_F1_0 x = 0 ∧ own_F2_0 x = 1) := by
  rcases Int.lt_or_le x 0 with k0 | g0
  · exact Or.inr (own_p0 x k0)
  rcases Int.lt_or_le x 9 with k1 | g1
  · exact Or.inr (own_p1 x g0 k1)
  clear g0
  rcases Int.lt_or_le x 10 with k2 | g2
  · exact Or.inl (own_p2 x g1 k2)
  clear g1
  rcases Int.lt_or_le x 11 with k3 | g3
  · exact Or.inl (own_p3 x g2 k3)
  clear g2
  rcases Int.lt_or_le x 13 with k4 | g4
  · exact Or.inr (own_p4 x g3 k4)
  clear g3
  rcases Int.lt_or_le x 14 with k5 | g5
  · exact Or.inl (own_p5 x g4 k5)
  clear g4
  rcases Int.lt_or_le x 32 with k6 | g6
  · exact Or.inr (own_p6 x g5 k6)
  clear g5
  rcases Int.lt_or_le x 55296 with k7 | g7
  · exact Or.inl (own_p7 x g6 k7)
  clear g6
  rcases Int.lt_or_le x 57344 with k8 | g8
  · exact Or.inr (own_p8 x g7 k8)
  clear g7
  rcases Int.lt_or_le x 65534 with k9 | g9
  · exact Or.inl (own_p9 x g8 k9)
  clear g8
  rcases Int.lt_or_le x 65535 with k10 | g10
  · exact Or.inr (own_p10 x g9 k10)
  clear g9
  rcases Int.lt_or_le x 65536 with k11 | g11
  · exact Or.inr (own_p11 x g10 k11)
  clear g10
  rcases Int.lt_or_le x 1114112 with k12 | g12
  · exact Or.inl (own_p12 x g11 k12)
  clear g11
  exact Or.inr (own_p13 x g12)
/-! an int array whose places all hold ints: what they hold is not looked at -/
def own_Ar (Z : State) (h : Heap) (a : Addr) (n : Int32) : Prop := ∃ cl : Cell, Arr Z h a cl .int ∧ cl.slots.size = n.toNatClampNeg ∧ ∀ i, i < cl.slots.size → ∃ w : Int32, cl.slots[i]? = some (.int w)
theorem own_new {Z : State} {h : Heap} {a : Addr} {k : ClassId} {n : Int32} (A : Arr Z h a (newA k .int n) .int) : own_Ar Z h a n :=
  ⟨_, A, sz_new _ _ _, fun i hi => ⟨0, by rw [sz_new] at hi; simp [newA, hi, defaultValue]⟩⟩
theorem own_set {Z : State} {h h' : Heap} {a : Addr} {n : Int32} {cl : Cell} {j : Nat} {v : Int32} (A : Arr Z h a cl .int) (S : cl.slots.size = n.toNatClampNeg) (H : ∀ i, i < cl.slots.size → ∃ w : Int32, cl.slots[i]? = some (.int w)) (W : Wr h h' a j (.int v)) : own_Ar Z h' a n := by
  refine ⟨_, A.same W, by rw [sz_set]; exact S, fun i hi => ?_⟩
  rw [sz_set] at hi
  by_cases u : j = i
  · subst u; exact ⟨v, by simp [Cell.setSlot, hi]⟩
  · obtain ⟨w, hw⟩ := H i hi
    exact ⟨w, by simp only [Cell.setSlot]; rw [Array.getElem?_setIfInBounds_ne u]; exact hw⟩
/-- where the walk stands while the array at b is being filled: the array's address alone on the stack -/
def own_At (p : Program) (l : Launch) (e : Env) (s : State) (m : MethodId) (args : Array Value) (below : List Frame) (meth : Method) (c : Code) (s₁ : State) (Z : State) (n0 : Nat) (b : Addr) (Ls : Array Slot) (n : Int32) (k : Nat) (pc : Nat) : Prop :=
  ∃ (T : State) (h : Heap) (L : List Loc), Stand p l e room_1 s m args below meth c T L 1 k ∧ T.heap = h ∧ Fr n0 L ∧ own_Ar Z h b n ∧
    ∀ target, Steps p.tables e below (T.setTop (mkF m pc Ls [(.ref b)])) target → Steps p.tables e below (s₁.setTop (mkF m 0 Ls [])) target
/-- one constant stored: the steps that lay it on the stack are handed in -/
theorem own_store {p : Program} {l : Launch} {e : Env} {s : State} {m : MethodId} {args : Array Value} {below : List Frame} {meth : Method} {c : Code} {s₁ : State} {Z : State} {n0 : Nat} {b : Addr} {Ls : Array Slot} {n : Int32} {k pc : Nat}
    (A : own_At p l e s m args below meth c s₁ Z n0 b Ls n k pc) (hx : p.tables.exec = Jvm.exec) (hZ : Z.Warmed39 s.vm) (gb : n0 ≤ b) (j v : Int32) (pc' : Nat) (hj : ¬ j < 0 ∧ j < n)
    (hpush : ∀ (T : State) (L : List Loc), Stand p l e room_1 s m args below meth c T L 1 k → ∀ target, Steps p.tables e below (T.setTop (mkF m pc' Ls [(.int v), (.int j), (.ref b), (.ref b)])) target → Steps p.tables e below (T.setTop (mkF m pc Ls [(.ref b)])) target)
    (hd : decode c.code pc' = .ok (.iastore, 1)) : own_At p l e s m args below meth c s₁ Z n0 b Ls n k (pc' + 1) := by
  obtain ⟨T, h, L, X, eT, N, ⟨cl, Ar, S, H⟩, st⟩ := A
  obtain ⟨T', h', X', e', W', st'⟩ := stI X hx hZ eT Ar (j := j) (x := v) (inb_of S hj) (g := mkF m pc' Ls [(.int v), (.int j), (.ref b), (.ref b)]) rfl rfl hd
  exact ⟨T', h', _, X', e', Fr.snoc X' N gb, own_set Ar S H W', fun target q => st _ (hpush T L X _ (st' _ q))⟩
/-! the index: the rest of a number that is not negative -/
theorem own_rem {x : Int32} (n : Int32) (k : Nat) (hn : n.toInt = k) (hk : 0 < k) (hx : 0 ≤ x.toInt) : ¬ (x - (x / n) * n) < 0 ∧ (x - (x / n) * n) < n := by
  have b1 := Int32.toInt_lt x
  have b2 := Int32.toInt_lt n
  have q1 : (x / n).toInt = x.toInt / (k : Int) := by
    rw [Int32.toInt_div, hn, Int.tdiv_eq_ediv_of_nonneg hx]
    have h1 : 0 ≤ x.toInt / (k : Int) := Int.ediv_nonneg hx (by omega)
    have h2 : x.toInt / (k : Int) ≤ x.toInt := Int.ediv_le_self _ hx
    exact XT.bmod32 ⟨by omega, by omega⟩
  have h3 : x.toInt / (k : Int) * (k : Int) + x.toInt % (k : Int) = x.toInt := Int.ediv_mul_add_emod _ _
  have h4 : 0 ≤ x.toInt % (k : Int) := Int.emod_nonneg _ (by omega)
  have h5 : x.toInt % (k : Int) < (k : Int) := Int.emod_lt_of_pos _ (by omega)
  have h6 : 0 ≤ x.toInt / (k : Int) * (k : Int) := Int.mul_nonneg (Int.ediv_nonneg hx (by omega)) (by omega)
  have q2 : ((x / n) * n).toInt = x.toInt / (k : Int) * (k : Int) := by
    rw [XT.mul32 (by rw [q1, hn]; exact ⟨by omega, by omega⟩), q1, hn]
  have q3 : (x - (x / n) * n).toInt = x.toInt % (k : Int) := by
    rw [XT.sub32 (by rw [q2]; exact ⟨by omega, by omega⟩), q2]; omega
  rw [Int32.lt_iff_toInt_lt, Int32.lt_iff_toInt_lt, q3, hn, own_z0]
  omega
theorem own_mask (k : Int32) : 0 ≤ (k &&& (2147483647 : Int32)).toInt := by
  have h : ¬ (k &&& (2147483647 : Int32)) < 0 := fun q => absurd ((XT.and_neg32 _ _).mp q).2 (by decide)
  rw [Int32.lt_iff_toInt_lt, own_z0] at h; omega
theorem own_pn0 : plainName "com/example/vraag/vraag/value/XmlCharsIsCharPinLaw" = true := by first | (simp [plainName, overriddenIn]; done) | decide +kernel
theorem own_ef0 (m : MethodId) (x0 : Int32) (x1 : Int32) (x2 : Int32) : entryFrame m #[(.int x0), (.int x1), (.int x2)] maxLocals = mkF m 0 #[.val (.int x0), .val (.int x1), .val (.int x2), .unset, .unset, .unset, .unset] [] := by first | (simp [entryFrame, mkF, argsToLocals, Value.category, maxLocals]; done) | rfl
def own_Q0 (n0 : Nat) (v : Option Value) (h : Heap) (L : List Loc) : Prop := v = some (.int 1) ∧ Fr n0 L
set_option maxRecDepth 65536 in
set_option maxHeartbeats 40000000 in
theorem own_rm0 (l : Launch) (Z : State) (a0 : Array Value) (hw : ∀ d ∈ tables_1, d.before a0 Z = true) (ws : List Jvm.Cond) (p1 : Int32) (p2 : Int32) (p3 : Int32) (h0 : Heap) (n0 : Nat) (Z0 : n0 ≤ h0.size) :
    MetFree l x (head1 (Jvm.Cond.code x code maxLocals ret :: ws) room_1) (fun a U => a = #[(.int p1), (.int p2), (.int p3)] ∧ Z.Warmed39 U.vm ∧ U.heap = h0) (fun _ _ _ _ _ => True) (fun _ U o U' => ∃ v L, o = .returned v ∧ own_Q0 n0 v U'.heap L ∧ FrameEnd U o U' L room_1.cells room_1.slots) := by
  refine MetFree.of_bodySF (plainFor_of_name own_pn0) hisR ?_
  intro p e s m args below meth c s₁ Bd hml0 hP hK
  obtain ⟨rfl, hZ, hh⟩ := hP
  have hx := Bd.exec
  have hby := Bd.bytes
  have hml : c.maxLocals = 7 := hml0
  have hown : s.vm.findClass "com/example/vraag/vraag/value/XmlCharsIsCharPinLaw" = some m.cls := findClass_of_methodNamed Bd.named
  have X0 : Stand p l e room_1 s m #[(.int p1), (.int p2), (.int p3)] below meth c s₁ [] 0 0 := Stand.of_body Bd
  have e0 : s₁.heap = h0 := by rw [← hh, Bd.state]; rfl
  have N0 := Fr.nil n0
  have pre0 : ∀ t, Steps p.tables e below (s₁.setTop (mkF m 0 #[.val (.int p1), .val (.int p2), .val (.int p3), .unset, .unset, .unset, .unset] [])) t → Steps p.tables e below (s₁.setTop (entryFrame m #[(.int p1), (.int p2), (.int p3)] maxLocals)) t := fun t k => castTop (own_ef0 m p1 p2 p3) k
  obtain ⟨T4, h4, k4, X4, e4, E4, A4, st4⟩ := newP X0 hx hZ (hw _ (List.mem_of_getElem? (i := 0) rfl)) e0 (g := (mkF m 2 #[.val (.int p1), .val (.int p2), .val (.int p3), .unset, .unset, .unset, .unset] [(.int (23 : Int32))])) rfl (hb hby at_2) rfl (by decide) (cap := 23) (by decide) (by decide) (by decide) (by decide)
  obtain ⟨b4, g4⟩ : ∃ z, z = h0.size := ⟨_, rfl⟩
  rw [← g4] at A4 st4
  have gb : n0 ≤ b4 := Nat.le_trans Z0 (Nat.le_of_eq g4.symm)
  have S0 : own_At p l e s m #[(.int p1), (.int p2), (.int p3)] below meth c s₁ Z n0 b4 #[.val (.int p1), .val (.int p2), .val (.int p3), .unset, .unset, .unset, .unset] (23 : Int32) 23 4 := by
    refine ⟨T4, h4, _, X4, e4, N0, own_new A4, fun target q => ?_⟩
    show Steps p.tables e below (s₁.setTop (mkF m 0 #[.val (.int p1), .val (.int p2), .val (.int p3), .unset, .unset, .unset, .unset] [])) _
    refine XS.bipush X0.here hx rfl (hb hby at_0) ?_
    show Steps p.tables e below (s₁.setTop (mkF m 2 #[.val (.int p1), .val (.int p2), .val (.int p3), .unset, .unset, .unset, .unset] [(.int (23 : Int32))])) _
    exact st4 _ q
  have S1 : own_At p l e s m #[(.int p1), (.int p2), (.int p3)] below meth c s₁ Z n0 b4 #[.val (.int p1), .val (.int p2), .val (.int p3), .unset, .unset, .unset, .unset] (23 : Int32) 23 8 := own_store S0 hx hZ gb (0 : Int32) (0 : Int32) 7 (by decide) (by
    intro T L X target q
    show Steps p.tables e below (T.setTop (mkF m 4 #[.val (.int p1), .val (.int p2), .val (.int p3), .unset, .unset, .unset, .unset] [(.ref b4)])) _
    refine XS.dup X.here hx rfl (hb hby at_4) rfl rfl ?_
    show Steps p.tables e below (T.setTop (mkF m 5 #[.val (.int p1), .val (.int p2), .val (.int p3), .unset, .unset, .unset, .unset] [(.ref b4), (.ref b4)])) _
    refine XS.iconst X.here hx rfl (hb hby at_5) ?_
    show Steps p.tables e below (T.setTop (mkF m 6 #[.val (.int p1), .val (.int p2), .val (.int p3), .unset, .unset, .unset, .unset] [(.int (0 : Int32)), (.ref b4), (.ref b4)])) _
    refine XS.iconst X.here hx rfl (hb hby at_6) ?_
    show Steps p.tables e below (T.setTop (mkF m 7 #[.val (.int p1), .val (.int p2), .val (.int p3), .unset, .unset, .unset, .unset] [(.int (0 : Int32)), (.int (0 : Int32)), (.ref b4), (.ref b4)])) _
    exact q) (hb hby at_7)
  clear S0
  have S2 : own_At p l e s m #[(.int p1), (.int p2), (.int p3)] below meth c s₁ Z n0 b4 #[.val (.int p1), .val (.int p2), .val (.int p3), .unset, .unset, .unset, .unset] (23 : Int32) 23 13 := own_store S1 hx hZ gb (1 : Int32) (8 : Int32) 12 (by decide) (by
    intro T L X target q
    show Steps p.tables e below (T.setTop (mkF m 8 #[.val (.int p1), .val (.int p2), .val (.int p3), .unset, .unset, .unset, .unset] [(.ref b4)])) _
    refine XS.dup X.here hx rfl (hb hby at_8) rfl rfl ?_
    show Steps p.tables e below (T.setTop (mkF m 9 #[.val (.int p1), .val (.int p2), .val (.int p3), .unset, .unset, .unset, .unset] [(.ref b4), (.ref b4)])) _
    refine XS.iconst X.here hx rfl (hb hby at_9) ?_
    show Steps p.tables e below (T.setTop (mkF m 10 #[.val (.int p1), .val (.int p2), .val (.int p3), .unset, .unset, .unset, .unset] [(.int (1 : Int32)), (.ref b4), (.ref b4)])) _
    refine XS.bipush X.here hx rfl (hb hby at_10) ?_
    show Steps p.tables e below (T.setTop (mkF m 12 #[.val (.int p1), .val (.int p2), .val (.int p3), .unset, .unset, .unset, .unset] [(.int (8 : Int32)), (.int (1 : Int32)), (.ref b4), (.ref b4)])) _
    exact q) (hb hby at_12)
  clear S1
  have S3 : own_At p l e s m #[(.int p1), (.int p2), (.int p3)] below meth c s₁ Z n0 b4 #[.val (.int p1), .val (.int p2), .val (.int p3), .unset, .unset, .unset, .unset] (23 : Int32) 23 18 := own_store S2 hx hZ gb (2 : Int32) (9 : Int32) 17 (by decide) (by
    intro T L X target q
    show Steps p.tables e below (T.setTop (mkF m 13 #[.val (.int p1), .val (.int p2), .val (.int p3), .unset, .unset, .unset, .unset] [(.ref b4)])) _
    refine XS.dup X.here hx rfl (hb hby at_13) rfl rfl ?_
    show Steps p.tables e below (T.setTop (mkF m 14 #[.val (.int p1), .val (.int p2), .val (.int p3), .unset, .unset, .unset, .unset] [(.ref b4), (.ref b4)])) _
    refine XS.iconst X.here hx rfl (hb hby at_14) ?_
    show Steps p.tables e below (T.setTop (mkF m 15 #[.val (.int p1), .val (.int p2), .val (.int p3), .unset, .unset, .unset, .unset] [(.int (2 : Int32)), (.ref b4), (.ref b4)])) _
    refine XS.bipush X.here hx rfl (hb hby at_15) ?_
    show Steps p.tables e below (T.setTop (mkF m 17 #[.val (.int p1), .val (.int p2), .val (.int p3), .unset, .unset, .unset, .unset] [(.int (9 : Int32)), (.int (2 : Int32)), (.ref b4), (.ref b4)])) _
    exact q) (hb hby at_17)
  clear S2
  have S4 : own_At p l e s m #[(.int p1), (.int p2), (.int p3)] below meth c s₁ Z n0 b4 #[.val (.int p1), .val (.int p2), .val (.int p3), .unset, .unset, .unset, .unset] (23 : Int32) 23 23 := own_store S3 hx hZ gb (3 : Int32) (10 : Int32) 22 (by decide) (by
    intro T L X target q
    show Steps p.tables e below (T.setTop (mkF m 18 #[.val (.int p1), .val (.int p2), .val (.int p3), .unset, .unset, .unset, .unset] [(.ref b4)])) _
    refine XS.dup X.here hx rfl (hb hby at_18) rfl rfl ?_
    show Steps p.tables e below (T.setTop (mkF m 19 #[.val (.int p1), .val (.int p2), .val (.int p3), .unset, .unset, .unset, .unset] [(.ref b4), (.ref b4)])) _
    refine XS.iconst X.here hx rfl (hb hby at_19) ?_
    show Steps p.tables e below (T.setTop (mkF m 20 #[.val (.int p1), .val (.int p2), .val (.int p3), .unset, .unset, .unset, .unset] [(.int (3 : Int32)), (.ref b4), (.ref b4)])) _
    refine XS.bipush X.here hx rfl (hb hby at_20) ?_
    show Steps p.tables e below (T.setTop (mkF m 22 #[.val (.int p1), .val (.int p2), .val (.int p3), .unset, .unset, .unset, .unset] [(.int (10 : Int32)), (.int (3 : Int32)), (.ref b4), (.ref b4)])) _
    exact q) (hb hby at_22)
  clear S3
  have S5 : own_At p l e s m #[(.int p1), (.int p2), (.int p3)] below meth c s₁ Z n0 b4 #[.val (.int p1), .val (.int p2), .val (.int p3), .unset, .unset, .unset, .unset] (23 : Int32) 23 28 := own_store S4 hx hZ gb (4 : Int32) (11 : Int32) 27 (by decide) (by
    intro T L X target q
    show Steps p.tables e below (T.setTop (mkF m 23 #[.val (.int p1), .val (.int p2), .val (.int p3), .unset, .unset, .unset, .unset] [(.ref b4)])) _
    refine XS.dup X.here hx rfl (hb hby at_23) rfl rfl ?_
    show Steps p.tables e below (T.setTop (mkF m 24 #[.val (.int p1), .val (.int p2), .val (.int p3), .unset, .unset, .unset, .unset] [(.ref b4), (.ref b4)])) _
    refine XS.iconst X.here hx rfl (hb hby at_24) ?_
    show Steps p.tables e below (T.setTop (mkF m 25 #[.val (.int p1), .val (.int p2), .val (.int p3), .unset, .unset, .unset, .unset] [(.int (4 : Int32)), (.ref b4), (.ref b4)])) _
    refine XS.bipush X.here hx rfl (hb hby at_25) ?_
    show Steps p.tables e below (T.setTop (mkF m 27 #[.val (.int p1), .val (.int p2), .val (.int p3), .unset, .unset, .unset, .unset] [(.int (11 : Int32)), (.int (4 : Int32)), (.ref b4), (.ref b4)])) _
    exact q) (hb hby at_27)
  clear S4
  have S6 : own_At p l e s m #[(.int p1), (.int p2), (.int p3)] below meth c s₁ Z n0 b4 #[.val (.int p1), .val (.int p2), .val (.int p3), .unset, .unset, .unset, .unset] (23 : Int32) 23 33 := own_store S5 hx hZ gb (5 : Int32) (12 : Int32) 32 (by decide) (by
    intro T L X target q
    show Steps p.tables e below (T.setTop (mkF m 28 #[.val (.int p1), .val (.int p2), .val (.int p3), .unset, .unset, .unset, .unset] [(.ref b4)])) _
    refine XS.dup X.here hx rfl (hb hby at_28) rfl rfl ?_
    show Steps p.tables e below (T.setTop (mkF m 29 #[.val (.int p1), .val (.int p2), .val (.int p3), .unset, .unset, .unset, .unset] [(.ref b4), (.ref b4)])) _
    refine XS.iconst X.here hx rfl (hb hby at_29) ?_
    show Steps p.tables e below (T.setTop (mkF m 30 #[.val (.int p1), .val (.int p2), .val (.int p3), .unset, .unset, .unset, .unset] [(.int (5 : Int32)), (.ref b4), (.ref b4)])) _
    refine XS.bipush X.here hx rfl (hb hby at_30) ?_
    show Steps p.tables e below (T.setTop (mkF m 32 #[.val (.int p1), .val (.int p2), .val (.int p3), .unset, .unset, .unset, .unset] [(.int (12 : Int32)), (.int (5 : Int32)), (.ref b4), (.ref b4)])) _
    exact q) (hb hby at_32)
  clear S5
  have S7 : own_At p l e s m #[(.int p1), (.int p2), (.int p3)] below meth c s₁ Z n0 b4 #[.val (.int p1), .val (.int p2), .val (.int p3), .unset, .unset, .unset, .unset] (23 : Int32) 23 39 := own_store S6 hx hZ gb (6 : Int32) (13 : Int32) 38 (by decide) (by
    intro T L X target q
    show Steps p.tables e below (T.setTop (mkF m 33 #[.val (.int p1), .val (.int p2), .val (.int p3), .unset, .unset, .unset, .unset] [(.ref b4)])) _
    refine XS.dup X.here hx rfl (hb hby at_33) rfl rfl ?_
    show Steps p.tables e below (T.setTop (mkF m 34 #[.val (.int p1), .val (.int p2), .val (.int p3), .unset, .unset, .unset, .unset] [(.ref b4), (.ref b4)])) _
    refine XS.bipush X.here hx rfl (hb hby at_34) ?_
    show Steps p.tables e below (T.setTop (mkF m 36 #[.val (.int p1), .val (.int p2), .val (.int p3), .unset, .unset, .unset, .unset] [(.int (6 : Int32)), (.ref b4), (.ref b4)])) _
    refine XS.bipush X.here hx rfl (hb hby at_36) ?_
    show Steps p.tables e below (T.setTop (mkF m 38 #[.val (.int p1), .val (.int p2), .val (.int p3), .unset, .unset, .unset, .unset] [(.int (13 : Int32)), (.int (6 : Int32)), (.ref b4), (.ref b4)])) _
    exact q) (hb hby at_38)
  clear S6
  have S8 : own_At p l e s m #[(.int p1), (.int p2), (.int p3)] below meth c s₁ Z n0 b4 #[.val (.int p1), .val (.int p2), .val (.int p3), .unset, .unset, .unset, .unset] (23 : Int32) 23 45 := own_store S7 hx hZ gb (7 : Int32) (14 : Int32) 44 (by decide) (by
    intro T L X target q
    show Steps p.tables e below (T.setTop (mkF m 39 #[.val (.int p1), .val (.int p2), .val (.int p3), .unset, .unset, .unset, .unset] [(.ref b4)])) _
    refine XS.dup X.here hx rfl (hb hby at_39) rfl rfl ?_
    show Steps p.tables e below (T.setTop (mkF m 40 #[.val (.int p1), .val (.int p2), .val (.int p3), .unset, .unset, .unset, .unset] [(.ref b4), (.ref b4)])) _
    refine XS.bipush X.here hx rfl (hb hby at_40) ?_
    show Steps p.tables e below (T.setTop (mkF m 42 #[.val (.int p1), .val (.int p2), .val (.int p3), .unset, .unset, .unset, .unset] [(.int (7 : Int32)), (.ref b4), (.ref b4)])) _
    refine XS.bipush X.here hx rfl (hb hby at_42) ?_
    show Steps p.tables e below (T.setTop (mkF m 44 #[.val (.int p1), .val (.int p2), .val (.int p3), .unset, .unset, .unset, .unset] [(.int (14 : Int32)), (.int (7 : Int32)), (.ref b4), (.ref b4)])) _
    exact q) (hb hby at_44)
  clear S7
  have S9 : own_At p l e s m #[(.int p1), (.int p2), (.int p3)] below meth c s₁ Z n0 b4 #[.val (.int p1), .val (.int p2), .val (.int p3), .unset, .unset, .unset, .unset] (23 : Int32) 23 51 := own_store S8 hx hZ gb (8 : Int32) (31 : Int32) 50 (by decide) (by
    intro T L X target q
    show Steps p.tables e below (T.setTop (mkF m 45 #[.val (.int p1), .val (.int p2), .val (.int p3), .unset, .unset, .unset, .unset] [(.ref b4)])) _
    refine XS.dup X.here hx rfl (hb hby at_45) rfl rfl ?_
    show Steps p.tables e below (T.setTop (mkF m 46 #[.val (.int p1), .val (.int p2), .val (.int p3), .unset, .unset, .unset, .unset] [(.ref b4), (.ref b4)])) _
    refine XS.bipush X.here hx rfl (hb hby at_46) ?_
    show Steps p.tables e below (T.setTop (mkF m 48 #[.val (.int p1), .val (.int p2), .val (.int p3), .unset, .unset, .unset, .unset] [(.int (8 : Int32)), (.ref b4), (.ref b4)])) _
    refine XS.bipush X.here hx rfl (hb hby at_48) ?_
    show Steps p.tables e below (T.setTop (mkF m 50 #[.val (.int p1), .val (.int p2), .val (.int p3), .unset, .unset, .unset, .unset] [(.int (31 : Int32)), (.int (8 : Int32)), (.ref b4), (.ref b4)])) _
    exact q) (hb hby at_50)
  clear S8
  have S10 : own_At p l e s m #[(.int p1), (.int p2), (.int p3)] below meth c s₁ Z n0 b4 #[.val (.int p1), .val (.int p2), .val (.int p3), .unset, .unset, .unset, .unset] (23 : Int32) 23 57 := own_store S9 hx hZ gb (9 : Int32) (32 : Int32) 56 (by decide) (by
    intro T L X target q
    show Steps p.tables e below (T.setTop (mkF m 51 #[.val (.int p1), .val (.int p2), .val (.int p3), .unset, .unset, .unset, .unset] [(.ref b4)])) _
    refine XS.dup X.here hx rfl (hb hby at_51) rfl rfl ?_
    show Steps p.tables e below (T.setTop (mkF m 52 #[.val (.int p1), .val (.int p2), .val (.int p3), .unset, .unset, .unset, .unset] [(.ref b4), (.ref b4)])) _
    refine XS.bipush X.here hx rfl (hb hby at_52) ?_
    show Steps p.tables e below (T.setTop (mkF m 54 #[.val (.int p1), .val (.int p2), .val (.int p3), .unset, .unset, .unset, .unset] [(.int (9 : Int32)), (.ref b4), (.ref b4)])) _
    refine XS.bipush X.here hx rfl (hb hby at_54) ?_
    show Steps p.tables e below (T.setTop (mkF m 56 #[.val (.int p1), .val (.int p2), .val (.int p3), .unset, .unset, .unset, .unset] [(.int (32 : Int32)), (.int (9 : Int32)), (.ref b4), (.ref b4)])) _
    exact q) (hb hby at_56)
  clear S9
  have S11 : own_At p l e s m #[(.int p1), (.int p2), (.int p3)] below meth c s₁ Z n0 b4 #[.val (.int p1), .val (.int p2), .val (.int p3), .unset, .unset, .unset, .unset] (23 : Int32) 23 63 := own_store S10 hx hZ gb (10 : Int32) (55295 : Int32) 62 (by decide) (by
    intro T L X target q
    show Steps p.tables e below (T.setTop (mkF m 57 #[.val (.int p1), .val (.int p2), .val (.int p3), .unset, .unset, .unset, .unset] [(.ref b4)])) _
    refine XS.dup X.here hx rfl (hb hby at_57) rfl rfl ?_
    show Steps p.tables e below (T.setTop (mkF m 58 #[.val (.int p1), .val (.int p2), .val (.int p3), .unset, .unset, .unset, .unset] [(.ref b4), (.ref b4)])) _
    refine XS.bipush X.here hx rfl (hb hby at_58) ?_
    show Steps p.tables e below (T.setTop (mkF m 60 #[.val (.int p1), .val (.int p2), .val (.int p3), .unset, .unset, .unset, .unset] [(.int (10 : Int32)), (.ref b4), (.ref b4)])) _
    refine X.ldcI hx hown (mvT hZ (hw _ (List.mem_of_getElem? (i := 1) rfl))) rfl (hb hby at_60) ?_
    show Steps p.tables e below (T.setTop (mkF m 62 #[.val (.int p1), .val (.int p2), .val (.int p3), .unset, .unset, .unset, .unset] [(.int (55295 : Int32)), (.int (10 : Int32)), (.ref b4), (.ref b4)])) _
    exact q) (hb hby at_62)
  clear S10
  have S12 : own_At p l e s m #[(.int p1), (.int p2), (.int p3)] below meth c s₁ Z n0 b4 #[.val (.int p1), .val (.int p2), .val (.int p3), .unset, .unset, .unset, .unset] (23 : Int32) 23 69 := own_store S11 hx hZ gb (11 : Int32) (55296 : Int32) 68 (by decide) (by
    intro T L X target q
    show Steps p.tables e below (T.setTop (mkF m 63 #[.val (.int p1), .val (.int p2), .val (.int p3), .unset, .unset, .unset, .unset] [(.ref b4)])) _
    refine XS.dup X.here hx rfl (hb hby at_63) rfl rfl ?_
    show Steps p.tables e below (T.setTop (mkF m 64 #[.val (.int p1), .val (.int p2), .val (.int p3), .unset, .unset, .unset, .unset] [(.ref b4), (.ref b4)])) _
    refine XS.bipush X.here hx rfl (hb hby at_64) ?_
    show Steps p.tables e below (T.setTop (mkF m 66 #[.val (.int p1), .val (.int p2), .val (.int p3), .unset, .unset, .unset, .unset] [(.int (11 : Int32)), (.ref b4), (.ref b4)])) _
    refine X.ldcI hx hown (mvT hZ (hw _ (List.mem_of_getElem? (i := 2) rfl))) rfl (hb hby at_66) ?_
    show Steps p.tables e below (T.setTop (mkF m 68 #[.val (.int p1), .val (.int p2), .val (.int p3), .unset, .unset, .unset, .unset] [(.int (55296 : Int32)), (.int (11 : Int32)), (.ref b4), (.ref b4)])) _
    exact q) (hb hby at_68)
  clear S11
  have S13 : own_At p l e s m #[(.int p1), (.int p2), (.int p3)] below meth c s₁ Z n0 b4 #[.val (.int p1), .val (.int p2), .val (.int p3), .unset, .unset, .unset, .unset] (23 : Int32) 23 75 := own_store S12 hx hZ gb (12 : Int32) (57343 : Int32) 74 (by decide) (by
    intro T L X target q
    show Steps p.tables e below (T.setTop (mkF m 69 #[.val (.int p1), .val (.int p2), .val (.int p3), .unset, .unset, .unset, .unset] [(.ref b4)])) _
    refine XS.dup X.here hx rfl (hb hby at_69) rfl rfl ?_
    show Steps p.tables e below (T.setTop (mkF m 70 #[.val (.int p1), .val (.int p2), .val (.int p3), .unset, .unset, .unset, .unset] [(.ref b4), (.ref b4)])) _
    refine XS.bipush X.here hx rfl (hb hby at_70) ?_
    show Steps p.tables e below (T.setTop (mkF m 72 #[.val (.int p1), .val (.int p2), .val (.int p3), .unset, .unset, .unset, .unset] [(.int (12 : Int32)), (.ref b4), (.ref b4)])) _
    refine X.ldcI hx hown (mvT hZ (hw _ (List.mem_of_getElem? (i := 3) rfl))) rfl (hb hby at_72) ?_
    show Steps p.tables e below (T.setTop (mkF m 74 #[.val (.int p1), .val (.int p2), .val (.int p3), .unset, .unset, .unset, .unset] [(.int (57343 : Int32)), (.int (12 : Int32)), (.ref b4), (.ref b4)])) _
    exact q) (hb hby at_74)
  clear S12
  have S14 : own_At p l e s m #[(.int p1), (.int p2), (.int p3)] below meth c s₁ Z n0 b4 #[.val (.int p1), .val (.int p2), .val (.int p3), .unset, .unset, .unset, .unset] (23 : Int32) 23 81 := own_store S13 hx hZ gb (13 : Int32) (57344 : Int32) 80 (by decide) (by
    intro T L X target q
    show Steps p.tables e below (T.setTop (mkF m 75 #[.val (.int p1), .val (.int p2), .val (.int p3), .unset, .unset, .unset, .unset] [(.ref b4)])) _
    refine XS.dup X.here hx rfl (hb hby at_75) rfl rfl ?_
    show Steps p.tables e below (T.setTop (mkF m 76 #[.val (.int p1), .val (.int p2), .val (.int p3), .unset, .unset, .unset, .unset] [(.ref b4), (.ref b4)])) _
    refine XS.bipush X.here hx rfl (hb hby at_76) ?_
    show Steps p.tables e below (T.setTop (mkF m 78 #[.val (.int p1), .val (.int p2), .val (.int p3), .unset, .unset, .unset, .unset] [(.int (13 : Int32)), (.ref b4), (.ref b4)])) _
    refine X.ldcI hx hown (mvT hZ (hw _ (List.mem_of_getElem? (i := 4) rfl))) rfl (hb hby at_78) ?_
    show Steps p.tables e below (T.setTop (mkF m 80 #[.val (.int p1), .val (.int p2), .val (.int p3), .unset, .unset, .unset, .unset] [(.int (57344 : Int32)), (.int (13 : Int32)), (.ref b4), (.ref b4)])) _
    exact q) (hb hby at_80)
  clear S13
  have S15 : own_At p l e s m #[(.int p1), (.int p2), (.int p3)] below meth c s₁ Z n0 b4 #[.val (.int p1), .val (.int p2), .val (.int p3), .unset, .unset, .unset, .unset] (23 : Int32) 23 87 := own_store S14 hx hZ gb (14 : Int32) (65533 : Int32) 86 (by decide) (by
    intro T L X target q
    show Steps p.tables e below (T.setTop (mkF m 81 #[.val (.int p1), .val (.int p2), .val (.int p3), .unset, .unset, .unset, .unset] [(.ref b4)])) _
    refine XS.dup X.here hx rfl (hb hby at_81) rfl rfl ?_
    show Steps p.tables e below (T.setTop (mkF m 82 #[.val (.int p1), .val (.int p2), .val (.int p3), .unset, .unset, .unset, .unset] [(.ref b4), (.ref b4)])) _
    refine XS.bipush X.here hx rfl (hb hby at_82) ?_
    show Steps p.tables e below (T.setTop (mkF m 84 #[.val (.int p1), .val (.int p2), .val (.int p3), .unset, .unset, .unset, .unset] [(.int (14 : Int32)), (.ref b4), (.ref b4)])) _
    refine X.ldcI hx hown (mvT hZ (hw _ (List.mem_of_getElem? (i := 5) rfl))) rfl (hb hby at_84) ?_
    show Steps p.tables e below (T.setTop (mkF m 86 #[.val (.int p1), .val (.int p2), .val (.int p3), .unset, .unset, .unset, .unset] [(.int (65533 : Int32)), (.int (14 : Int32)), (.ref b4), (.ref b4)])) _
    exact q) (hb hby at_86)
  clear S14
  have S16 : own_At p l e s m #[(.int p1), (.int p2), (.int p3)] below meth c s₁ Z n0 b4 #[.val (.int p1), .val (.int p2), .val (.int p3), .unset, .unset, .unset, .unset] (23 : Int32) 23 93 := own_store S15 hx hZ gb (15 : Int32) (65534 : Int32) 92 (by decide) (by
    intro T L X target q
    show Steps p.tables e below (T.setTop (mkF m 87 #[.val (.int p1), .val (.int p2), .val (.int p3), .unset, .unset, .unset, .unset] [(.ref b4)])) _
    refine XS.dup X.here hx rfl (hb hby at_87) rfl rfl ?_
    show Steps p.tables e below (T.setTop (mkF m 88 #[.val (.int p1), .val (.int p2), .val (.int p3), .unset, .unset, .unset, .unset] [(.ref b4), (.ref b4)])) _
    refine XS.bipush X.here hx rfl (hb hby at_88) ?_
    show Steps p.tables e below (T.setTop (mkF m 90 #[.val (.int p1), .val (.int p2), .val (.int p3), .unset, .unset, .unset, .unset] [(.int (15 : Int32)), (.ref b4), (.ref b4)])) _
    refine X.ldcI hx hown (mvT hZ (hw _ (List.mem_of_getElem? (i := 6) rfl))) rfl (hb hby at_90) ?_
    show Steps p.tables e below (T.setTop (mkF m 92 #[.val (.int p1), .val (.int p2), .val (.int p3), .unset, .unset, .unset, .unset] [(.int (65534 : Int32)), (.int (15 : Int32)), (.ref b4), (.ref b4)])) _
    exact q) (hb hby at_92)
  clear S15
  have S17 : own_At p l e s m #[(.int p1), (.int p2), (.int p3)] below meth c s₁ Z n0 b4 #[.val (.int p1), .val (.int p2), .val (.int p3), .unset, .unset, .unset, .unset] (23 : Int32) 23 99 := own_store S16 hx hZ gb (16 : Int32) (65535 : Int32) 98 (by decide) (by
    intro T L X target q
    show Steps p.tables e below (T.setTop (mkF m 93 #[.val (.int p1), .val (.int p2), .val (.int p3), .unset, .unset, .unset, .unset] [(.ref b4)])) _
    refine XS.dup X.here hx rfl (hb hby at_93) rfl rfl ?_
    show Steps p.tables e below (T.setTop (mkF m 94 #[.val (.int p1), .val (.int p2), .val (.int p3), .unset, .unset, .unset, .unset] [(.ref b4), (.ref b4)])) _
    refine XS.bipush X.here hx rfl (hb hby at_94) ?_
    show Steps p.tables e below (T.setTop (mkF m 96 #[.val (.int p1), .val (.int p2), .val (.int p3), .unset, .unset, .unset, .unset] [(.int (16 : Int32)), (.ref b4), (.ref b4)])) _
    refine X.ldcI hx hown (mvT hZ (hw _ (List.mem_of_getElem? (i := 7) rfl))) rfl (hb hby at_96) ?_
    show Steps p.tables e below (T.setTop (mkF m 98 #[.val (.int p1), .val (.int p2), .val (.int p3), .unset, .unset, .unset, .unset] [(.int (65535 : Int32)), (.int (16 : Int32)), (.ref b4), (.ref b4)])) _
    exact q) (hb hby at_98)
  clear S16
  have S18 : own_At p l e s m #[(.int p1), (.int p2), (.int p3)] below meth c s₁ Z n0 b4 #[.val (.int p1), .val (.int p2), .val (.int p3), .unset, .unset, .unset, .unset] (23 : Int32) 23 105 := own_store S17 hx hZ gb (17 : Int32) (65536 : Int32) 104 (by decide) (by
    intro T L X target q
    show Steps p.tables e below (T.setTop (mkF m 99 #[.val (.int p1), .val (.int p2), .val (.int p3), .unset, .unset, .unset, .unset] [(.ref b4)])) _
    refine XS.dup X.here hx rfl (hb hby at_99) rfl rfl ?_
    show Steps p.tables e below (T.setTop (mkF m 100 #[.val (.int p1), .val (.int p2), .val (.int p3), .unset, .unset, .unset, .unset] [(.ref b4), (.ref b4)])) _
    refine XS.bipush X.here hx rfl (hb hby at_100) ?_
    show Steps p.tables e below (T.setTop (mkF m 102 #[.val (.int p1), .val (.int p2), .val (.int p3), .unset, .unset, .unset, .unset] [(.int (17 : Int32)), (.ref b4), (.ref b4)])) _
    refine X.ldcI hx hown (mvT hZ (hw _ (List.mem_of_getElem? (i := 8) rfl))) rfl (hb hby at_102) ?_
    show Steps p.tables e below (T.setTop (mkF m 104 #[.val (.int p1), .val (.int p2), .val (.int p3), .unset, .unset, .unset, .unset] [(.int (65536 : Int32)), (.int (17 : Int32)), (.ref b4), (.ref b4)])) _
    exact q) (hb hby at_104)
  clear S17
  have S19 : own_At p l e s m #[(.int p1), (.int p2), (.int p3)] below meth c s₁ Z n0 b4 #[.val (.int p1), .val (.int p2), .val (.int p3), .unset, .unset, .unset, .unset] (23 : Int32) 23 111 := own_store S18 hx hZ gb (18 : Int32) (1114111 : Int32) 110 (by decide) (by
    intro T L X target q
    show Steps p.tables e below (T.setTop (mkF m 105 #[.val (.int p1), .val (.int p2), .val (.int p3), .unset, .unset, .unset, .unset] [(.ref b4)])) _
    refine XS.dup X.here hx rfl (hb hby at_105) rfl rfl ?_
    show Steps p.tables e below (T.setTop (mkF m 106 #[.val (.int p1), .val (.int p2), .val (.int p3), .unset, .unset, .unset, .unset] [(.ref b4), (.ref b4)])) _
    refine XS.bipush X.here hx rfl (hb hby at_106) ?_
    show Steps p.tables e below (T.setTop (mkF m 108 #[.val (.int p1), .val (.int p2), .val (.int p3), .unset, .unset, .unset, .unset] [(.int (18 : Int32)), (.ref b4), (.ref b4)])) _
    refine X.ldcI hx hown (mvT hZ (hw _ (List.mem_of_getElem? (i := 9) rfl))) rfl (hb hby at_108) ?_
    show Steps p.tables e below (T.setTop (mkF m 110 #[.val (.int p1), .val (.int p2), .val (.int p3), .unset, .unset, .unset, .unset] [(.int (1114111 : Int32)), (.int (18 : Int32)), (.ref b4), (.ref b4)])) _
    exact q) (hb hby at_110)
  clear S18
  have S20 : own_At p l e s m #[(.int p1), (.int p2), (.int p3)] below meth c s₁ Z n0 b4 #[.val (.int p1), .val (.int p2), .val (.int p3), .unset, .unset, .unset, .unset] (23 : Int32) 23 117 := own_store S19 hx hZ gb (19 : Int32) (1114112 : Int32) 116 (by decide) (by
    intro T L X target q
    show Steps p.tables e below (T.setTop (mkF m 111 #[.val (.int p1), .val (.int p2), .val (.int p3), .unset, .unset, .unset, .unset] [(.ref b4)])) _
    refine XS.dup X.here hx rfl (hb hby at_111) rfl rfl ?_
    show Steps p.tables e below (T.setTop (mkF m 112 #[.val (.int p1), .val (.int p2), .val (.int p3), .unset, .unset, .unset, .unset] [(.ref b4), (.ref b4)])) _
    refine XS.bipush X.here hx rfl (hb hby at_112) ?_
    show Steps p.tables e below (T.setTop (mkF m 114 #[.val (.int p1), .val (.int p2), .val (.int p3), .unset, .unset, .unset, .unset] [(.int (19 : Int32)), (.ref b4), (.ref b4)])) _
    refine X.ldcI hx hown (mvT hZ (hw _ (List.mem_of_getElem? (i := 10) rfl))) rfl (hb hby at_114) ?_
    show Steps p.tables e below (T.setTop (mkF m 116 #[.val (.int p1), .val (.int p2), .val (.int p3), .unset, .unset, .unset, .unset] [(.int (1114112 : Int32)), (.int (19 : Int32)), (.ref b4), (.ref b4)])) _
    exact q) (hb hby at_116)
  clear S19
  have S21 : own_At p l e s m #[(.int p1), (.int p2), (.int p3)] below meth c s₁ Z n0 b4 #[.val (.int p1), .val (.int p2), .val (.int p3), .unset, .unset, .unset, .unset] (23 : Int32) 23 122 := own_store S20 hx hZ gb (20 : Int32) (-1 : Int32) 121 (by decide) (by
    intro T L X target q
    show Steps p.tables e below (T.setTop (mkF m 117 #[.val (.int p1), .val (.int p2), .val (.int p3), .unset, .unset, .unset, .unset] [(.ref b4)])) _
    refine XS.dup X.here hx rfl (hb hby at_117) rfl rfl ?_
    show Steps p.tables e below (T.setTop (mkF m 118 #[.val (.int p1), .val (.int p2), .val (.int p3), .unset, .unset, .unset, .unset] [(.ref b4), (.ref b4)])) _
    refine XS.bipush X.here hx rfl (hb hby at_118) ?_
    show Steps p.tables e below (T.setTop (mkF m 120 #[.val (.int p1), .val (.int p2), .val (.int p3), .unset, .unset, .unset, .unset] [(.int (20 : Int32)), (.ref b4), (.ref b4)])) _
    refine XS.iconst X.here hx rfl (hb hby at_120) ?_
    show Steps p.tables e below (T.setTop (mkF m 121 #[.val (.int p1), .val (.int p2), .val (.int p3), .unset, .unset, .unset, .unset] [(.int (-1 : Int32)), (.int (20 : Int32)), (.ref b4), (.ref b4)])) _
    exact q) (hb hby at_121)
  clear S20
  have S22 : own_At p l e s m #[(.int p1), (.int p2), (.int p3)] below meth c s₁ Z n0 b4 #[.val (.int p1), .val (.int p2), .val (.int p3), .unset, .unset, .unset, .unset] (23 : Int32) 23 128 := own_store S21 hx hZ gb (21 : Int32) (-2147483648 : Int32) 127 (by decide) (by
    intro T L X target q
    show Steps p.tables e below (T.setTop (mkF m 122 #[.val (.int p1), .val (.int p2), .val (.int p3), .unset, .unset, .unset, .unset] [(.ref b4)])) _
    refine XS.dup X.here hx rfl (hb hby at_122) rfl rfl ?_
    show Steps p.tables e below (T.setTop (mkF m 123 #[.val (.int p1), .val (.int p2), .val (.int p3), .unset, .unset, .unset, .unset] [(.ref b4), (.ref b4)])) _
    refine XS.bipush X.here hx rfl (hb hby at_123) ?_
    show Steps p.tables e below (T.setTop (mkF m 125 #[.val (.int p1), .val (.int p2), .val (.int p3), .unset, .unset, .unset, .unset] [(.int (21 : Int32)), (.ref b4), (.ref b4)])) _
    refine X.ldcI hx hown (mvT hZ (hw _ (List.mem_of_getElem? (i := 11) rfl))) rfl (hb hby at_125) ?_
    show Steps p.tables e below (T.setTop (mkF m 127 #[.val (.int p1), .val (.int p2), .val (.int p3), .unset, .unset, .unset, .unset] [(.int (-2147483648 : Int32)), (.int (21 : Int32)), (.ref b4), (.ref b4)])) _
    exact q) (hb hby at_127)
  clear S21
  have S23 : own_At p l e s m #[(.int p1), (.int p2), (.int p3)] below meth c s₁ Z n0 b4 #[.val (.int p1), .val (.int p2), .val (.int p3), .unset, .unset, .unset, .unset] (23 : Int32) 23 134 := own_store S22 hx hZ gb (22 : Int32) (2147483647 : Int32) 133 (by decide) (by
    intro T L X target q
    show Steps p.tables e below (T.setTop (mkF m 128 #[.val (.int p1), .val (.int p2), .val (.int p3), .unset, .unset, .unset, .unset] [(.ref b4)])) _
    refine XS.dup X.here hx rfl (hb hby at_128) rfl rfl ?_
    show Steps p.tables e below (T.setTop (mkF m 129 #[.val (.int p1), .val (.int p2), .val (.int p3), .unset, .unset, .unset, .unset] [(.ref b4), (.ref b4)])) _
    refine XS.bipush X.here hx rfl (hb hby at_129) ?_
    show Steps p.tables e below (T.setTop (mkF m 131 #[.val (.int p1), .val (.int p2), .val (.int p3), .unset, .unset, .unset, .unset] [(.int (22 : Int32)), (.ref b4), (.ref b4)])) _
    refine X.ldcI hx hown (mvT hZ (hw _ (List.mem_of_getElem? (i := 12) rfl))) rfl (hb hby at_131) ?_
    show Steps p.tables e below (T.setTop (mkF m 133 #[.val (.int p1), .val (.int p2), .val (.int p3), .unset, .unset, .unset, .unset] [(.int (2147483647 : Int32)), (.int (22 : Int32)), (.ref b4), (.ref b4)])) _
    exact q) (hb hby at_133)
  clear S22
  obtain ⟨T5, h5, L5, X5, e5, N5, ⟨cl, Ar, Sz, Hv⟩, st5⟩ := S23
  have own_len : cl.slots.size.toInt32 = (23 : Int32) := len_of Sz (by decide)
  have hb1 := own_rem (x := (p2 &&& (2147483647 : Int32))) (23 : Int32) 23 rfl (by decide) (own_mask p2)
  have hin : ¬ (((p2 &&& (2147483647 : Int32)) - ((p2 &&& (2147483647 : Int32)) / (23 : Int32)) * (23 : Int32)) < 0 ∨ cl.slots.size ≤ ((p2 &&& (2147483647 : Int32)) - ((p2 &&& (2147483647 : Int32)) / (23 : Int32)) * (23 : Int32)).toNatClampNeg) := inb_of Sz hb1
  obtain ⟨w0, hat⟩ := Hv ((p2 &&& (2147483647 : Int32)) - ((p2 &&& (2147483647 : Int32)) / (23 : Int32)) * (23 : Int32)).toNatClampNeg (Nat.lt_of_not_le fun q => hin (Or.inr q))
  obtain ⟨v4, seg⟩ : ∃ v4 : Int32, ∀ target, Steps p.tables e below (T5.setTop (mkF m 152 #[.val (.int p1), .val (.int p2), .val (.int p3), .val (.ref b4), .val (.int v4), .unset, .unset] [])) target → Steps p.tables e below (T5.setTop (mkF m 134 #[.val (.int p1), .val (.int p2), .val (.int p3), .unset, .unset, .unset, .unset] [(.ref b4)])) target := by
    refine ⟨(w0 + ((p3 &&& (3 : Int32)) - (1 : Int32))), ?_⟩
    intro target q
    show Steps p.tables e below (T5.setTop (mkF m 134 #[.val (.int p1), .val (.int p2), .val (.int p3), .unset, .unset, .unset, .unset] [(.ref b4)])) _
    refine XS.astoreN X5.here hx rfl (hb hby at_134) rfl rfl (l' := #[.val (.int p1), .val (.int p2), .val (.int p3), .val (.ref b4), .unset, .unset, .unset]) rfl ?_
    show Steps p.tables e below (T5.setTop (mkF m 135 #[.val (.int p1), .val (.int p2), .val (.int p3), .val (.ref b4), .unset, .unset, .unset] [])) _
    refine XS.aloadN X5.here hx rfl (hb hby at_135) rfl rfl ?_
    show Steps p.tables e below (T5.setTop (mkF m 136 #[.val (.int p1), .val (.int p2), .val (.int p3), .val (.ref b4), .unset, .unset, .unset] [(.ref b4)])) _
    refine XS.iloadN X5.here hx rfl (hb hby at_136) rfl ?_
    show Steps p.tables e below (T5.setTop (mkF m 137 #[.val (.int p1), .val (.int p2), .val (.int p3), .val (.ref b4), .unset, .unset, .unset] [(.int p2), (.ref b4)])) _
    refine X5.ldcI hx hown (mvT hZ (hw _ (List.mem_of_getElem? (i := 12) rfl))) rfl (hb hby at_137) ?_
    show Steps p.tables e below (T5.setTop (mkF m 139 #[.val (.int p1), .val (.int p2), .val (.int p3), .val (.ref b4), .unset, .unset, .unset] [(.int (2147483647 : Int32)), (.int p2), (.ref b4)])) _
    refine XS.iand X5.here hx rfl (hb hby at_139) rfl ?_
    show Steps p.tables e below (T5.setTop (mkF m 140 #[.val (.int p1), .val (.int p2), .val (.int p3), .val (.ref b4), .unset, .unset, .unset] [(.int (p2 &&& (2147483647 : Int32))), (.ref b4)])) _
    refine XS.aloadN X5.here hx rfl (hb hby at_140) rfl rfl ?_
    show Steps p.tables e below (T5.setTop (mkF m 141 #[.val (.int p1), .val (.int p2), .val (.int p3), .val (.ref b4), .unset, .unset, .unset] [(.ref b4), (.int (p2 &&& (2147483647 : Int32))), (.ref b4)])) _
    refine X5.arraylength hx (cell := cl) (by rw [e5]; exact Ar.1) (State.isArrayOf_alike hZ.alike Ar.2.1) (g := (mkF m 141 #[.val (.int p1), .val (.int p2), .val (.int p3), .val (.ref b4), .unset, .unset, .unset] [(.ref b4), (.int (p2 &&& (2147483647 : Int32))), (.ref b4)])) rfl (rest := [(.int (p2 &&& (2147483647 : Int32))), (.ref b4)]) rfl (hb hby at_141) _ ?_
    rw [own_len]
    show Steps p.tables e below (T5.setTop (mkF m 142 #[.val (.int p1), .val (.int p2), .val (.int p3), .val (.ref b4), .unset, .unset, .unset] [(.int (23 : Int32)), (.int (p2 &&& (2147483647 : Int32))), (.ref b4)])) _
    refine XS.irem X5.here hx rfl (hb hby at_142) rfl (by decide) ?_
    show Steps p.tables e below (T5.setTop (mkF m 143 #[.val (.int p1), .val (.int p2), .val (.int p3), .val (.ref b4), .unset, .unset, .unset] [(.int ((p2 &&& (2147483647 : Int32)) - ((p2 &&& (2147483647 : Int32)) / (23 : Int32)) * (23 : Int32))), (.ref b4)])) _
    refine X5.iaload hx (j := ((p2 &&& (2147483647 : Int32)) - ((p2 &&& (2147483647 : Int32)) / (23 : Int32)) * (23 : Int32))) (v := (.int w0)) (by rw [e5]; exact Ar.1) (State.isArrayOf_alike hZ.alike Ar.2.1) Ar.2.2 hin hat (g := (mkF m 143 #[.val (.int p1), .val (.int p2), .val (.int p3), .val (.ref b4), .unset, .unset, .unset] [(.int ((p2 &&& (2147483647 : Int32)) - ((p2 &&& (2147483647 : Int32)) / (23 : Int32)) * (23 : Int32))), (.ref b4)])) rfl rfl (hb hby at_143) _ ?_
    show Steps p.tables e below (T5.setTop (mkF m 144 #[.val (.int p1), .val (.int p2), .val (.int p3), .val (.ref b4), .unset, .unset, .unset] [(.int w0)])) _
    refine XS.iloadN X5.here hx rfl (hb hby at_144) rfl ?_
    show Steps p.tables e below (T5.setTop (mkF m 145 #[.val (.int p1), .val (.int p2), .val (.int p3), .val (.ref b4), .unset, .unset, .unset] [(.int p3), (.int w0)])) _
    refine XS.iconst X5.here hx rfl (hb hby at_145) ?_
    show Steps p.tables e below (T5.setTop (mkF m 146 #[.val (.int p1), .val (.int p2), .val (.int p3), .val (.ref b4), .unset, .unset, .unset] [(.int (3 : Int32)), (.int p3), (.int w0)])) _
    refine XS.iand X5.here hx rfl (hb hby at_146) rfl ?_
    show Steps p.tables e below (T5.setTop (mkF m 147 #[.val (.int p1), .val (.int p2), .val (.int p3), .val (.ref b4), .unset, .unset, .unset] [(.int (p3 &&& (3 : Int32))), (.int w0)])) _
    refine XS.iconst X5.here hx rfl (hb hby at_147) ?_
    show Steps p.tables e below (T5.setTop (mkF m 148 #[.val (.int p1), .val (.int p2), .val (.int p3), .val (.ref b4), .unset, .unset, .unset] [(.int (1 : Int32)), (.int (p3 &&& (3 : Int32))), (.int w0)])) _
    refine XS.isub X5.here hx rfl (hb hby at_148) rfl ?_
    show Steps p.tables e below (T5.setTop (mkF m 149 #[.val (.int p1), .val (.int p2), .val (.int p3), .val (.ref b4), .unset, .unset, .unset] [(.int ((p3 &&& (3 : Int32)) - (1 : Int32))), (.int w0)])) _
    refine XS.iadd X5.here hx rfl (hb hby at_149) rfl ?_
    show Steps p.tables e below (T5.setTop (mkF m 150 #[.val (.int p1), .val (.int p2), .val (.int p3), .val (.ref b4), .unset, .unset, .unset] [(.int (w0 + ((p3 &&& (3 : Int32)) - (1 : Int32))))])) _
    refine XS.istore X5.here hx rfl (hb hby at_150) rfl (l' := #[.val (.int p1), .val (.int p2), .val (.int p3), .val (.ref b4), .val (.int (w0 + ((p3 &&& (3 : Int32)) - (1 : Int32)))), .unset, .unset]) rfl ?_
    show Steps p.tables e below (T5.setTop (mkF m 152 #[.val (.int p1), .val (.int p2), .val (.int p3), .val (.ref b4), .val (.int (w0 + ((p3 &&& (3 : Int32)) - (1 : Int32)))), .unset, .unset] [])) _
    exact q
  obtain ⟨_, _, ⟨T6, L6, k6, n6⟩, -, X6, ⟨Lc6, hQ6, l6, y6, z6⟩, st6⟩ := Jvm.LawKit.callS X5 hx (y := (⟨"com/example/vraag/vraag/value/XmlChars", "isChar", "(I)Z"⟩ : MethodName)) hown (mvT hZ (hw _ (List.mem_of_getElem? (i := 13) rfl))) (mvT hZ (hw _ (List.mem_of_getElem? (i := 14) rfl))) (mvT hZ (hw _ (List.mem_of_getElem? (i := 15) rfl))) (mvT hZ (hw _ (List.mem_of_getElem? (i := 16) rfl))) (by decide) (backOf (W := 0) (own_rm1 l Z a0 hw [] p1 h5 n0) hZ (hw _ (List.mem_of_getElem? (i := 16) rfl)) (hw _ (List.mem_of_getElem? (i := 15) rfl)) (by decide) (by decide)) (g := (mkF m 153 #[.val (.int p1), .val (.int p2), .val (.int p3), .val (.ref b4), .val (.int v4), .unset, .unset] [(.int p1)])) rfl (by rw [hml]; rfl) (argsL := [(.int p1)]) (rest := []) (lenOf own_pd1 rfl) rfl (by show 2 * 0 + _ ≤ _; exact Nat.le_of_eq rfl) (hb hby at_153) (fun _ _ => ⟨rfl, e5, (by decide : 1 + 0 ≤ _), (by decide : 23 + 0 ≤ _)⟩)
  dsimp only [Pt.U, Pt.locs, Pt.cells, Pt.slots] at X6 l6 y6 z6 st6 hQ6
  subst l6 y6 z6
  obtain ⟨rfl, M6, e6⟩ := hQ6
  have N6 := Fr.app N5 M6
  obtain ⟨_, _, ⟨T7, L7, k7, n7⟩, -, X7, ⟨Lc7, hQ7, l7, y7, z7⟩, st7⟩ := Jvm.LawKit.callS X6 hx (y := (⟨"com/example/vraag/vraag/value/XmlCharsIsCharPinLaw", "excluded", "(I)Z"⟩ : MethodName)) hown (mvT hZ (hw _ (List.mem_of_getElem? (i := 19) rfl))) (mvT hZ (hw _ (List.mem_of_getElem? (i := 20) rfl))) (mvT hZ (hw _ (List.mem_of_getElem? (i := 21) rfl))) (mvT hZ (hw _ (List.mem_of_getElem? (i := 22) rfl))) (by decide) (backOf (W := 1) (own_rm2 l Z a0 hw [] p1 h5 n0) hZ (hw _ (List.mem_of_getElem? (i := 22) rfl)) (hw _ (List.mem_of_getElem? (i := 21) rfl)) (by decide) (by decide)) (g := (mkF m 157 #[.val (.int p1), .val (.int p2), .val (.int p3), .val (.ref b4), .val (.int v4), .unset, .unset] [(.int p1), (.int (own_F1_0 p1.toInt))])) rfl (by rw [hml]; rfl) (argsL := [(.int p1)]) (rest := [(.int (own_F1_0 p1.toInt))]) (lenOf own_pd2 rfl) rfl (by show 2 * 0 + _ ≤ _; exact Nat.le_of_eq rfl) (hb hby at_157) (fun _ _ => ⟨rfl, e6, (by decide : 1 + 0 ≤ _), (by decide : 23 + 0 ≤ _)⟩)
  dsimp only [Pt.U, Pt.locs, Pt.cells, Pt.slots] at X7 l7 y7 z7 st7 hQ7
  subst l7 y7 z7
  obtain ⟨rfl, M7, e7⟩ := hQ7
  have N7 := Fr.app N6 M7
  have j160 : ∀ target, Steps p.tables e below (T7.setTop (mkF m 176 #[.val (.int p1), .val (.int p2), .val (.int p3), .val (.ref b4), .val (.int v4), .unset, .unset] [(.int (1 : Int32))])) target → Steps p.tables e below (T7.setTop (mkF m 160 #[.val (.int p1), .val (.int p2), .val (.int p3), .val (.ref b4), .val (.int v4), .unset, .unset] [(.int (own_F2_0 p1.toInt)), (.int (own_F1_0 p1.toInt))])) target := by
    intro target q
    rcases own_plain p1.toInt with ⟨u, v⟩ | ⟨u, v⟩
    · rw [u, v]
      show Steps p.tables e below (T7.setTop (mkF m 160 #[.val (.int p1), .val (.int p2), .val (.int p3), .val (.ref b4), .val (.int v4), .unset, .unset] [(.int (0 : Int32)), (.int (1 : Int32))])) _
      refine XS.ifNo X7.here hx rfl (hb hby at_160) rfl (XT.i0_ne_f rfl) ?_
      show Steps p.tables e below (T7.setTop (mkF m 163 #[.val (.int p1), .val (.int p2), .val (.int p3), .val (.ref b4), .val (.int v4), .unset, .unset] [(.int (1 : Int32))])) _
      refine XS.iconst X7.here hx rfl (hb hby at_163) ?_
      show Steps p.tables e below (T7.setTop (mkF m 164 #[.val (.int p1), .val (.int p2), .val (.int p3), .val (.ref b4), .val (.int v4), .unset, .unset] [(.int (1 : Int32)), (.int (1 : Int32))])) _
      refine XS.goto X7.here hx rfl (pc0 := 164) (pc' := 168) rfl (hb hby at_164) (by decide) (by decide) ?_
      show Steps p.tables e below (T7.setTop (mkF m 168 #[.val (.int p1), .val (.int p2), .val (.int p3), .val (.ref b4), .val (.int v4), .unset, .unset] [(.int (1 : Int32)), (.int (1 : Int32))])) _
      refine XS.icmpNo X7.here hx rfl (hb hby at_168) rfl (XT.ii_ne_f rfl) ?_
      show Steps p.tables e below (T7.setTop (mkF m 171 #[.val (.int p1), .val (.int p2), .val (.int p3), .val (.ref b4), .val (.int v4), .unset, .unset] [])) _
      refine XS.iconst X7.here hx rfl (hb hby at_171) ?_
      show Steps p.tables e below (T7.setTop (mkF m 172 #[.val (.int p1), .val (.int p2), .val (.int p3), .val (.ref b4), .val (.int v4), .unset, .unset] [(.int (1 : Int32))])) _
      refine XS.goto X7.here hx rfl (pc0 := 172) (pc' := 176) rfl (hb hby at_172) (by decide) (by decide) ?_
      show Steps p.tables e below (T7.setTop (mkF m 176 #[.val (.int p1), .val (.int p2), .val (.int p3), .val (.ref b4), .val (.int v4), .unset, .unset] [(.int (1 : Int32))])) _
      exact q
    · rw [u, v]
      show Steps p.tables e below (T7.setTop (mkF m 160 #[.val (.int p1), .val (.int p2), .val (.int p3), .val (.ref b4), .val (.int v4), .unset, .unset] [(.int (1 : Int32)), (.int (0 : Int32))])) _
      refine XS.ifYes X7.here hx rfl (pc0 := 160) (pc' := 167) rfl (hb hby at_160) rfl (XT.i0_ne_t (by decide)) (by decide) (by decide) ?_
      show Steps p.tables e below (T7.setTop (mkF m 167 #[.val (.int p1), .val (.int p2), .val (.int p3), .val (.ref b4), .val (.int v4), .unset, .unset] [(.int (0 : Int32))])) _
      refine XS.iconst X7.here hx rfl (hb hby at_167) ?_
      show Steps p.tables e below (T7.setTop (mkF m 168 #[.val (.int p1), .val (.int p2), .val (.int p3), .val (.ref b4), .val (.int v4), .unset, .unset] [(.int (0 : Int32)), (.int (0 : Int32))])) _
      refine XS.icmpNo X7.here hx rfl (hb hby at_168) rfl (XT.ii_ne_f rfl) ?_
      show Steps p.tables e below (T7.setTop (mkF m 171 #[.val (.int p1), .val (.int p2), .val (.int p3), .val (.ref b4), .val (.int v4), .unset, .unset] [])) _
      refine XS.iconst X7.here hx rfl (hb hby at_171) ?_
      show Steps p.tables e below (T7.setTop (mkF m 172 #[.val (.int p1), .val (.int p2), .val (.int p3), .val (.ref b4), .val (.int v4), .unset, .unset] [(.int (1 : Int32))])) _
      refine XS.goto X7.here hx rfl (pc0 := 172) (pc' := 176) rfl (hb hby at_172) (by decide) (by decide) ?_
      show Steps p.tables e below (T7.setTop (mkF m 176 #[.val (.int p1), .val (.int p2), .val (.int p3), .val (.ref b4), .val (.int v4), .unset, .unset] [(.int (1 : Int32))])) _
      exact q
  obtain ⟨_, _, ⟨T8, L8, k8, n8⟩, -, X8, ⟨Lc8, hQ8, l8, y8, z8⟩, st8⟩ := Jvm.LawKit.callS X7 hx (y := (⟨"com/example/vraag/vraag/value/XmlChars", "isChar", "(I)Z"⟩ : MethodName)) hown (mvT hZ (hw _ (List.mem_of_getElem? (i := 13) rfl))) (mvT hZ (hw _ (List.mem_of_getElem? (i := 14) rfl))) (mvT hZ (hw _ (List.mem_of_getElem? (i := 15) rfl))) (mvT hZ (hw _ (List.mem_of_getElem? (i := 16) rfl))) (by decide) (backOf (W := 0) (own_rm1 l Z a0 hw [] v4 h5 n0) hZ (hw _ (List.mem_of_getElem? (i := 16) rfl)) (hw _ (List.mem_of_getElem? (i := 15) rfl)) (by decide) (by decide)) (g := (mkF m 180 #[.val (.int p1), .val (.int p2), .val (.int p3), .val (.ref b4), .val (.int v4), .val (.int (1 : Int32)), .unset] [(.int v4)])) rfl (by rw [hml]; rfl) (argsL := [(.int v4)]) (rest := []) (lenOf own_pd1 rfl) rfl (by show 2 * 0 + _ ≤ _; exact Nat.le_of_eq rfl) (hb hby at_180) (fun _ _ => ⟨rfl, e7, (by decide : 1 + 0 ≤ _), (by decide : 23 + 0 ≤ _)⟩)
  dsimp only [Pt.U, Pt.locs, Pt.cells, Pt.slots] at X8 l8 y8 z8 st8 hQ8
  subst l8 y8 z8
  obtain ⟨rfl, M8, e8⟩ := hQ8
  have N8 := Fr.app N7 M8
  obtain ⟨_, _, ⟨T9, L9, k9, n9⟩, -, X9, ⟨Lc9, hQ9, l9, y9, z9⟩, st9⟩ := Jvm.LawKit.callS X8 hx (y := (⟨"com/example/vraag/vraag/value/XmlCharsIsCharPinLaw", "excluded", "(I)Z"⟩ : MethodName)) hown (mvT hZ (hw _ (List.mem_of_getElem? (i := 19) rfl))) (mvT hZ (hw _ (List.mem_of_getElem? (i := 20) rfl))) (mvT hZ (hw _ (List.mem_of_getElem? (i := 21) rfl))) (mvT hZ (hw _ (List.mem_of_getElem? (i := 22) rfl))) (by decide) (backOf (W := 1) (own_rm2 l Z a0 hw [] v4 h5 n0) hZ (hw _ (List.mem_of_getElem? (i := 22) rfl)) (hw _ (List.mem_of_getElem? (i := 21) rfl)) (by decide) (by decide)) (g := (mkF m 185 #[.val (.int p1), .val (.int p2), .val (.int p3), .val (.ref b4), .val (.int v4), .val (.int (1 : Int32)), .unset] [(.int v4), (.int (own_F1_0 v4.toInt))])) rfl (by rw [hml]; rfl) (argsL := [(.int v4)]) (rest := [(.int (own_F1_0 v4.toInt))]) (lenOf own_pd2 rfl) rfl (by show 2 * 0 + _ ≤ _; exact Nat.le_of_eq rfl) (hb hby at_185) (fun _ _ => ⟨rfl, e8, (by decide : 1 + 0 ≤ _), (by decide : 23 + 0 ≤ _)⟩)
  dsimp only [Pt.U, Pt.locs, Pt.cells, Pt.slots] at X9 l9 y9 z9 st9 hQ9
  subst l9 y9 z9
  obtain ⟨rfl, M9, e9⟩ := hQ9
  have N9 := Fr.app N8 M9
  have j188 : ∀ target, Steps p.tables e below (T9.setTop (mkF m 204 #[.val (.int p1), .val (.int p2), .val (.int p3), .val (.ref b4), .val (.int v4), .val (.int (1 : Int32)), .unset] [(.int (1 : Int32))])) target → Steps p.tables e below (T9.setTop (mkF m 188 #[.val (.int p1), .val (.int p2), .val (.int p3), .val (.ref b4), .val (.int v4), .val (.int (1 : Int32)), .unset] [(.int (own_F2_0 v4.toInt)), (.int (own_F1_0 v4.toInt))])) target := by
    intro target q
    rcases own_plain v4.toInt with ⟨u, v⟩ | ⟨u, v⟩
    · rw [u, v]
      show Steps p.tables e below (T9.setTop (mkF m 188 #[.val (.int p1), .val (.int p2), .val (.int p3), .val (.ref b4), .val (.int v4), .val (.int (1 : Int32)), .unset] [(.int (0 : Int32)), (.int (1 : Int32))])) _
      refine XS.ifNo X9.here hx rfl (hb hby at_188) rfl (XT.i0_ne_f rfl) ?_
      show Steps p.tables e below (T9.setTop (mkF m 191 #[.val (.int p1), .val (.int p2), .val (.int p3), .val (.ref b4), .val (.int v4), .val (.int (1 : Int32)), .unset] [(.int (1 : Int32))])) _
      refine XS.iconst X9.here hx rfl (hb hby at_191) ?_
      show Steps p.tables e below (T9.setTop (mkF m 192 #[.val (.int p1), .val (.int p2), .val (.int p3), .val (.ref b4), .val (.int v4), .val (.int (1 : Int32)), .unset] [(.int (1 : Int32)), (.int (1 : Int32))])) _
      refine XS.goto X9.here hx rfl (pc0 := 192) (pc' := 196) rfl (hb hby at_192) (by decide) (by decide) ?_
      show Steps p.tables e below (T9.setTop (mkF m 196 #[.val (.int p1), .val (.int p2), .val (.int p3), .val (.ref b4), .val (.int v4), .val (.int (1 : Int32)), .unset] [(.int (1 : Int32)), (.int (1 : Int32))])) _
      refine XS.icmpNo X9.here hx rfl (hb hby at_196) rfl (XT.ii_ne_f rfl) ?_
      show Steps p.tables e below (T9.setTop (mkF m 199 #[.val (.int p1), .val (.int p2), .val (.int p3), .val (.ref b4), .val (.int v4), .val (.int (1 : Int32)), .unset] [])) _
      refine XS.iconst X9.here hx rfl (hb hby at_199) ?_
      show Steps p.tables e below (T9.setTop (mkF m 200 #[.val (.int p1), .val (.int p2), .val (.int p3), .val (.ref b4), .val (.int v4), .val (.int (1 : Int32)), .unset] [(.int (1 : Int32))])) _
      refine XS.goto X9.here hx rfl (pc0 := 200) (pc' := 204) rfl (hb hby at_200) (by decide) (by decide) ?_
      show Steps p.tables e below (T9.setTop (mkF m 204 #[.val (.int p1), .val (.int p2), .val (.int p3), .val (.ref b4), .val (.int v4), .val (.int (1 : Int32)), .unset] [(.int (1 : Int32))])) _
      exact q
    · rw [u, v]
      show Steps p.tables e below (T9.setTop (mkF m 188 #[.val (.int p1), .val (.int p2), .val (.int p3), .val (.ref b4), .val (.int v4), .val (.int (1 : Int32)), .unset] [(.int (1 : Int32)), (.int (0 : Int32))])) _
      refine XS.ifYes X9.here hx rfl (pc0 := 188) (pc' := 195) rfl (hb hby at_188) rfl (XT.i0_ne_t (by decide)) (by decide) (by decide) ?_
      show Steps p.tables e below (T9.setTop (mkF m 195 #[.val (.int p1), .val (.int p2), .val (.int p3), .val (.ref b4), .val (.int v4), .val (.int (1 : Int32)), .unset] [(.int (0 : Int32))])) _
      refine XS.iconst X9.here hx rfl (hb hby at_195) ?_
      show Steps p.tables e below (T9.setTop (mkF m 196 #[.val (.int p1), .val (.int p2), .val (.int p3), .val (.ref b4), .val (.int v4), .val (.int (1 : Int32)), .unset] [(.int (0 : Int32)), (.int (0 : Int32))])) _
      refine XS.icmpNo X9.here hx rfl (hb hby at_196) rfl (XT.ii_ne_f rfl) ?_
      show Steps p.tables e below (T9.setTop (mkF m 199 #[.val (.int p1), .val (.int p2), .val (.int p3), .val (.ref b4), .val (.int v4), .val (.int (1 : Int32)), .unset] [])) _
      refine XS.iconst X9.here hx rfl (hb hby at_199) ?_
      show Steps p.tables e below (T9.setTop (mkF m 200 #[.val (.int p1), .val (.int p2), .val (.int p3), .val (.ref b4), .val (.int v4), .val (.int (1 : Int32)), .unset] [(.int (1 : Int32))])) _
      refine XS.goto X9.here hx rfl (pc0 := 200) (pc' := 204) rfl (hb hby at_200) (by decide) (by decide) ?_
      show Steps p.tables e below (T9.setTop (mkF m 204 #[.val (.int p1), .val (.int p2), .val (.int p3), .val (.ref b4), .val (.int v4), .val (.int (1 : Int32)), .unset] [(.int (1 : Int32))])) _
      exact q
  obtain ⟨fs, hr, hrun, hended, hW, hsame⟩ := X9.leave (v := some (.int (1 : Int32))) (fun h => by rw [Bd.returns] at h; cases h)
  refine ⟨_, _, pre0 _ ?_, hrun, hended, _, _, rfl, ?_, ⟨_, rfl⟩, hW, hsame.mono (by decide) (by decide)⟩
  · show Steps p.tables e below (s₁.setTop (mkF m 0 #[.val (.int p1), .val (.int p2), .val (.int p3), .unset, .unset, .unset, .unset] [])) _
    refine st5 _ ?_
    refine seg _ ?_
    show Steps p.tables e below (T5.setTop (mkF m 152 #[.val (.int p1), .val (.int p2), .val (.int p3), .val (.ref b4), .val (.int v4), .unset, .unset] [])) _
    refine XS.iloadN X5.here hx rfl (hb hby at_152) rfl ?_
    show Steps p.tables e below (T5.setTop (mkF m 153 #[.val (.int p1), .val (.int p2), .val (.int p3), .val (.ref b4), .val (.int v4), .unset, .unset] [(.int p1)])) _
    refine st6 _ ?_
    show Steps p.tables e below (T6.setTop (mkF m 156 #[.val (.int p1), .val (.int p2), .val (.int p3), .val (.ref b4), .val (.int v4), .unset, .unset] [(.int (own_F1_0 p1.toInt))])) _
    refine XS.iloadN X6.here hx rfl (hb hby at_156) rfl ?_
    show Steps p.tables e below (T6.setTop (mkF m 157 #[.val (.int p1), .val (.int p2), .val (.int p3), .val (.ref b4), .val (.int v4), .unset, .unset] [(.int p1), (.int (own_F1_0 p1.toInt))])) _
    refine st7 _ ?_
    show Steps p.tables e below (T7.setTop (mkF m 160 #[.val (.int p1), .val (.int p2), .val (.int p3), .val (.ref b4), .val (.int v4), .unset, .unset] [(.int (own_F2_0 p1.toInt)), (.int (own_F1_0 p1.toInt))])) _
    refine j160 _ ?_
    show Steps p.tables e below (T7.setTop (mkF m 176 #[.val (.int p1), .val (.int p2), .val (.int p3), .val (.ref b4), .val (.int v4), .unset, .unset] [(.int (1 : Int32))])) _
    refine XS.istore X7.here hx rfl (hb hby at_176) rfl (l' := #[.val (.int p1), .val (.int p2), .val (.int p3), .val (.ref b4), .val (.int v4), .val (.int (1 : Int32)), .unset]) rfl ?_
    show Steps p.tables e below (T7.setTop (mkF m 178 #[.val (.int p1), .val (.int p2), .val (.int p3), .val (.ref b4), .val (.int v4), .val (.int (1 : Int32)), .unset] [])) _
    refine XS.iload X7.here hx rfl (hb hby at_178) rfl ?_
    show Steps p.tables e below (T7.setTop (mkF m 180 #[.val (.int p1), .val (.int p2), .val (.int p3), .val (.ref b4), .val (.int v4), .val (.int (1 : Int32)), .unset] [(.int v4)])) _
    refine st8 _ ?_
    show Steps p.tables e below (T8.setTop (mkF m 183 #[.val (.int p1), .val (.int p2), .val (.int p3), .val (.ref b4), .val (.int v4), .val (.int (1 : Int32)), .unset] [(.int (own_F1_0 v4.toInt))])) _
    refine XS.iload X8.here hx rfl (hb hby at_183) rfl ?_
    show Steps p.tables e below (T8.setTop (mkF m 185 #[.val (.int p1), .val (.int p2), .val (.int p3), .val (.ref b4), .val (.int v4), .val (.int (1 : Int32)), .unset] [(.int v4), (.int (own_F1_0 v4.toInt))])) _
    refine st9 _ ?_
    show Steps p.tables e below (T9.setTop (mkF m 188 #[.val (.int p1), .val (.int p2), .val (.int p3), .val (.ref b4), .val (.int v4), .val (.int (1 : Int32)), .unset] [(.int (own_F2_0 v4.toInt)), (.int (own_F1_0 v4.toInt))])) _
    refine j188 _ ?_
    show Steps p.tables e below (T9.setTop (mkF m 204 #[.val (.int p1), .val (.int p2), .val (.int p3), .val (.ref b4), .val (.int v4), .val (.int (1 : Int32)), .unset] [(.int (1 : Int32))])) _
    refine XS.istore X9.here hx rfl (hb hby at_204) rfl (l' := #[.val (.int p1), .val (.int p2), .val (.int p3), .val (.ref b4), .val (.int v4), .val (.int (1 : Int32)), .val (.int (1 : Int32))]) rfl ?_
    show Steps p.tables e below (T9.setTop (mkF m 206 #[.val (.int p1), .val (.int p2), .val (.int p3), .val (.ref b4), .val (.int v4), .val (.int (1 : Int32)), .val (.int (1 : Int32))] [])) _
    refine XS.iload X9.here hx rfl (hb hby at_206) rfl ?_
    show Steps p.tables e below (T9.setTop (mkF m 208 #[.val (.int p1), .val (.int p2), .val (.int p3), .val (.ref b4), .val (.int v4), .val (.int (1 : Int32)), .val (.int (1 : Int32))] [(.int (1 : Int32))])) _
    refine XS.ifNo X9.here hx rfl (hb hby at_208) rfl (XT.i0_eq_f (by decide)) ?_
    show Steps p.tables e below (T9.setTop (mkF m 211 #[.val (.int p1), .val (.int p2), .val (.int p3), .val (.ref b4), .val (.int v4), .val (.int (1 : Int32)), .val (.int (1 : Int32))] [])) _
    show Steps p.tables e below (T9.setTop (mkF m 211 #[.val (.int p1), .val (.int p2), .val (.int p3), .val (.ref b4), .val (.int v4), .val (.int (1 : Int32)), .val (.int (1 : Int32))] [])) _
    refine XS.iload X9.here hx rfl (hb hby at_211) rfl ?_
    show Steps p.tables e below (T9.setTop (mkF m 213 #[.val (.int p1), .val (.int p2), .val (.int p3), .val (.ref b4), .val (.int v4), .val (.int (1 : Int32)), .val (.int (1 : Int32))] [(.int (1 : Int32))])) _
    refine XS.ifNo X9.here hx rfl (hb hby at_213) rfl (XT.i0_eq_f (by decide)) ?_
    show Steps p.tables e below (T9.setTop (mkF m 216 #[.val (.int p1), .val (.int p2), .val (.int p3), .val (.ref b4), .val (.int v4), .val (.int (1 : Int32)), .val (.int (1 : Int32))] [])) _
    show Steps p.tables e below (T9.setTop (mkF m 216 #[.val (.int p1), .val (.int p2), .val (.int p3), .val (.ref b4), .val (.int v4), .val (.int (1 : Int32)), .val (.int (1 : Int32))] [])) _
    refine XS.iconst X9.here hx rfl (hb hby at_216) ?_
    show Steps p.tables e below (T9.setTop (mkF m 217 #[.val (.int p1), .val (.int p2), .val (.int p3), .val (.ref b4), .val (.int v4), .val (.int (1 : Int32)), .val (.int (1 : Int32))] [(.int (1 : Int32))])) _
    refine XS.goto X9.here hx rfl (pc0 := 217) (pc' := 221) rfl (hb hby at_217) (by decide) (by decide) ?_
    show Steps p.tables e below (T9.setTop (mkF m 221 #[.val (.int p1), .val (.int p2), .val (.int p3), .val (.ref b4), .val (.int v4), .val (.int (1 : Int32)), .val (.int (1 : Int32))] [(.int (1 : Int32))])) _
    exact retN X9 hx (t := .boolean) Bd.returns (by simp) (hb hby at_221) hr
  · exact ⟨rfl, N9⟩
set_option maxRecDepth 65536 in
set_option maxHeartbeats 40000000 in
theorem own_comes {Post : Tables → Env → Array Value → State → Outcome → State → Prop} (hpost : ∀ tb e args s v u, (limb_1_1.after args s (.returned v) u = true ∧ limb_1_2.after args s (.returned v) u = true ∧ True) → FrameEnd s (.returned v) u (Jvm.fieldLocs frame_1_writes args s ++ Jvm.arrayLocs frame_1_arrays args s ++ Jvm.staticLocs frame_1_statics s) 16 128 → Post tb e args s (.returned v) u) :
    ArmFor flags0 classFile x code maxLocals ret World_1 tables_1 room_1 Calls_1 rest_1 Pre_1 Post := by
  intro l hfl _ _ p e ha hc hk s m args below hf hA hF happ hP
  obtain ⟨hcalls, hrest, hpre⟩ := hP
  obtain ⟨-, -, -, hnamed, -, -, -, hat⟩ := (Spec.applies_iff hf).mp happ
  obtain ⟨hg, hn⟩ := and_e (Cond.before_iff.mp (show (Jvm.Cond.and given_1 narrow_1).before args s = true from hpre))
  obtain ⟨q0, r0⟩ := and_e hg
  obtain ⟨q1, r1⟩ := and_e r0
  obtain ⟨q2, r2⟩ := and_e r1
  obtain ⟨w0, w1, w2, rfl⟩ : ∃ w0 w1 w2 : Value, args = #[w0, w1, w2] := by
    have hs : args.size = 3 := by simpa [Cond.value, given_1] using q0
    obtain ⟨L⟩ := args
    match L, hs with
    | [w0, w1, w2], _ => exact ⟨w0, w1, w2, rfl⟩
  have hw := fun d (hd : d ∈ tables_1) => atoms_spec (ws := Jvm.Cond.code x code maxLocals ret :: tables_1) hat d (List.mem_cons_of_mem _ hd)
  obtain ⟨i0, e0⟩ := is_v q1
  obtain rfl : w0 = (.int i0) := Option.some.inj e0
  obtain ⟨i1, e1⟩ := is_v q2
  obtain rfl : w1 = (.int i1) := Option.some.inj e1
  obtain ⟨i2, e2⟩ := is_v r2
  obtain rfl : w2 = (.int i2) := Option.some.inj e2
  obtain ⟨n, o, h1, h2, h3, _, L, rfl, ⟨rfl, N⟩, hq⟩ := own_rm0 l s _ hw tables_1 i0 i1 i2 s.heap s.heap.size (Nat.le_refl _) p e ha hc hk s m _ below hf ((Spec.applies_iff_loose hf).mp happ).1 ⟨rfl, State.Warmed39.refl s, rfl⟩ trivial
  refine ⟨n, _, h1, h2, h3, hpost _ _ _ _ _ _ ⟨Cond.after_iff.mpr rfl, Cond.after_iff.mpr (eq_i res_at (Term.int_eval (1)) rfl), trivial⟩ ⟨hq.1, hq.2.1, (hq.2.2.sift fun y hy => Or.inr (N y hy)).mono (by decide) (by decide)⟩⟩
theorem main_1_1 : Claimed_1_1 := own_comes fun _ _ _ _ _ _ h hF => ⟨h.1, hF⟩
theorem main_1_2 : Claimed_1_2 := own_comes fun _ _ _ _ _ _ h hF => ⟨h.2.1, hF⟩
end Jvm.Pilot.@@N@@
namespace Jvm.Pilot.@@N@@
open Jvm Jvm.ClassFile Sem Op Lib Jvm.Free Jvm.Stand Jvm.Pilot.@@N@@.Jvm.D
/-! MADE BY PROGRAM (witnessworld.py) out of the Statement's table words and the real class files: 9 classes; the members and pool entries that the words name. The judged class is class 1, her method 2. -/
namespace start1
open Jvm.ClassFile
def u (s : String) : CpInfo := .utf8 (stringToUtf16 s)
/-- a pool by its gaps: so many unusable entries, then the entry; so many at the end -/
def gap : Nat → List CpInfo → List CpInfo
  | 0, r => r
  | n + 1, r => .unusable :: gap n r
def poolList (es : List (Nat × CpInfo)) (last : Nat) : List CpInfo := es.foldr (fun e r => gap e.1 (e.2 :: r)) (gap last [])
def pool (es : List (Nat × CpInfo)) (last : Nat) : Array CpInfo := ⟨poolList es last⟩
def fileOf (pool : Array CpInfo) (this : Nat) (attrs : Array Attribute := #[]) (ms : Array MethodInfo := #[]) (fl : Nat := 33) (sup : Nat := 0) (ifs : Array Nat := #[]) (fds : Array FieldInfo := #[]) : ClassFile where
  minorVersion := 0
  majorVersion := 65
  constantPool := pool
  accessFlags := fl
  thisClass := this
  superClass := sup
  interfaces := ifs
  fields := fds
  methods := ms
  attributes := attrs
def plain (name : String) (sup : Option ClassId) : Class where
  name := name
  kind := .ordinary
  loader := none
  accessFlags := 33
  super := sup
  interfaces := #[]
  cf := none
  fields := #[]
  methods := #[]
  instanceTypes := #[]
  staticTypes := #[]
  resolved := #[]
  callSites := []
  init := .initialized
  statics := none
  mirror := none

def pool0 : Array CpInfo := pool [(5, u "<init>"), (0, u "()V"), (1, .class_ 10), (1, u "java/lang/Object")] 113

def k0m0 : Method := { name := "<init>", desc := "()V", sig := { parameters := [], returnType := none }, accessFlags := 1, code := none }
/-- java/lang/Object -/
def k0 : Class := { plain "java/lang/Object" none with
  accessFlags := 33
  interfaces := #[]
  cf := some (fileOf pool0 8 #[] #[{ accessFlags := 1, nameIndex := 5, descriptorIndex := 6, attributes := #[] }] 33 0 #[] #[])
  fields := #[]
  methods := #[k0m0]
  instanceTypes := #[]
  staticTypes := #[]
  resolved := Array.replicate 124 none
  statics := none }

def pool1 : Array CpInfo := pool [(2, .class_ 4), (1, u "java/lang/Object"), (0, u "<init>"), (0, u "()V"), (0, .integer 1114111), (0, .integer 55296), (0, .integer 57343), (0, .integer 65534), (0, .integer 65535), (0, .integer 55295), (0, .integer 57344), (0, .integer 65533), (0, .integer 65536), (0, .integer 1114112), (2, .integer 2147483648), (0, .integer 2147483647), (0, .methodref 22 23), (0, .class_ 24), (0, .nameAndType 25 26), (0, u "com/example/vraag/vraag/value/XmlChars"), (0, u "isChar"), (0, u "(I)Z"), (0, .methodref 28 29), (0, .class_ 30), (0, .nameAndType 31 26), (0, u "com/example/vraag/vraag/value/XmlCharsIsCharPinLaw"), (0, u "excluded"), (3, u "law"), (0, u "(III)Z")] 4

def k1m0 : Method := { name := "<init>", desc := "()V", sig := { parameters := [], returnType := none }, accessFlags := 2, code := none }
def k1c1 : Code := { maxStack := 2, maxLocals := 1, code := method_2_code, exceptionTable := #[], attributes := #[] }
def k1m1 : Method := { name := "excluded", desc := "(I)Z", sig := { parameters := [.int], returnType := some .boolean }, accessFlags := 10, code := some k1c1 }
def k1c2 : Code := { maxStack := 4, maxLocals := 7, code := code, exceptionTable := #[], attributes := #[] }
def k1m2 : Method := { name := "law", desc := "(III)Z", sig := { parameters := [.int, .int, .int], returnType := some .boolean }, accessFlags := 9, code := some k1c2 }
/-- com/example/vraag/vraag/value/XmlCharsIsCharPinLaw -/
def k1 : Class := { plain "com/example/vraag/vraag/value/XmlCharsIsCharPinLaw" (some 0) with
  accessFlags := 49
  interfaces := #[]
  cf := some (fileOf pool1 28 #[] #[{ accessFlags := 2, nameIndex := 5, descriptorIndex := 6, attributes := #[] }, { accessFlags := 10, nameIndex := 31, descriptorIndex := 26, attributes := #[] }, { accessFlags := 9, nameIndex := 35, descriptorIndex := 36, attributes := #[] }] 49 2 #[] #[])
  fields := #[]
  methods := #[k1m0, k1m1, k1m2]
  instanceTypes := #[]
  staticTypes := #[]
  resolved := Array.replicate 41 none
  statics := none }

def pool2 : Array CpInfo := pool [(2, .class_ 4), (1, u "java/lang/Object"), (0, u "<init>"), (0, u "()V"), (0, .integer 55295), (0, .integer 57344), (0, .integer 65533), (0, .integer 65536), (0, .integer 1114111), (5, .class_ 19), (1, u "com/example/vraag/vraag/value/XmlChars"), (1, u "(I)Z"), (24, u "isChar")] 5

def k2m0 : Method := { name := "<init>", desc := "()V", sig := { parameters := [], returnType := none }, accessFlags := 2, code := none }
def k2c1 : Code := { maxStack := 2, maxLocals := 1, code := prog_186_method_2_code, exceptionTable := #[], attributes := #[] }
def k2m1 : Method := { name := "isChar", desc := "(I)Z", sig := { parameters := [.int], returnType := some .boolean }, accessFlags := 9, code := some k2c1 }
/-- com/example/vraag/vraag/value/XmlChars -/
def k2 : Class := { plain "com/example/vraag/vraag/value/XmlChars" (some 0) with
  accessFlags := 33
  interfaces := #[]
  cf := some (fileOf pool2 17 #[] #[{ accessFlags := 2, nameIndex := 5, descriptorIndex := 6, attributes := #[] }, { accessFlags := 9, nameIndex := 46, descriptorIndex := 21, attributes := #[] }] 33 2 #[] #[])
  fields := #[]
  methods := #[k2m0, k2m1]
  instanceTypes := #[]
  staticTypes := #[]
  resolved := Array.replicate 52 none
  statics := none }

def pool3 : Array CpInfo := pool [(1, u "java/lang/Cloneable"), (0, .class_ 1), (0, u "java/lang/Object"), (0, .class_ 3)] 3

/-- java/lang/Cloneable -/
def k3 : Class := { plain "java/lang/Cloneable" (some 0) with
  accessFlags := 1537
  interfaces := #[]
  cf := some (fileOf pool3 2 #[] #[] 1537 4 #[] #[])
  fields := #[]
  methods := #[]
  instanceTypes := #[]
  staticTypes := #[]
  resolved := Array.replicate 8 none
  statics := none }

def pool4 : Array CpInfo := pool [(1, u "java/io/Serializable"), (0, .class_ 1), (0, u "java/lang/Object"), (0, .class_ 3)] 3

/-- java/io/Serializable -/
def k4 : Class := { plain "java/io/Serializable" (some 0) with
  accessFlags := 1537
  interfaces := #[]
  cf := some (fileOf pool4 2 #[] #[] 1537 4 #[] #[])
  fields := #[]
  methods := #[]
  instanceTypes := #[]
  staticTypes := #[]
  resolved := Array.replicate 8 none
  statics := none }

/-- the primitive byte -/
def k5 : Class := { plain "byte" none with kind := .primitive 'B', accessFlags := 0x411 }
/-- [B -/
def k6 : Class := { plain "[B" (some 0) with kind := .array 5 .byte, interfaces := #[3, 4], accessFlags := 1041 }

/-- the primitive int -/
def k7 : Class := { plain "int" none with kind := .primitive 'I', accessFlags := 0x411 }
/-- [I -/
def k8 : Class := { plain "[I" (some 0) with kind := .array 7 .int, interfaces := #[3, 4], accessFlags := 1041 }

def heap : Heap := #[]
def classes : Array Class := #[k0, k1, k2, k3, k4, k5, k6, k7, k8]
def interned : List (Array UInt16 × Addr) := []
def slotsUsed : Nat := 0
def theMethod : MethodId := ⟨1, 2⟩
def args0 : Array Value := #[.int 65, .int 0, .int 1]
def aboutOver (below : List Frame) : State where
  vm := { classes := classes, interned := interned.toArray }
  heap := heap
  slotsUsed := slotsUsed
  threads := #[{ frames := .invoking theMethod args0 :: below }]
def below0 : List Frame := [.native { method := ⟨0, 0⟩, args := #[] }]
def about1 : State := aboutOver below0
def p0 : Program := .bare "" "" ""
def e0 : Env := launch0.env 0 0 0
theorem w_frames : about1.frames = Frame.invoking theMethod args0 :: below0 := rfl
set_option maxRecDepth 65536 in
theorem w_args : argsFit about1.vm theMethod args0 = true := by decide +kernel
set_option maxRecDepth 65536 in
theorem w_heap : heapFits about1 = true := by decide +kernel
set_option maxRecDepth 65536 in
theorem w_runnable : about1.curStatus? = some .runnable := by decide +kernel
set_option maxRecDepth 65536 in
theorem w_alone : about1.alone = true := by decide +kernel
set_option maxRecDepth 65536 in
theorem w_named : about1.methodNamed? x = some theMethod := by decide +kernel
set_option maxRecDepth 65536 in
theorem w_hears : about1.hears theMethod below0 = true := by decide +kernel
set_option maxRecDepth 65536 in
theorem w_ripe : about1.ripe theMethod args0 below0 = true := by decide +kernel
theorem w_running : about1.status = .running := rfl
set_option maxRecDepth 65536 in
theorem w_room : about1.hasRoom e0.platform room_1 = true :=
  launch0.hasRoom_least _ room_1 (by decide +kernel) (by decide +kernel) (by decide +kernel) (by decide +kernel) (by decide +kernel) (by decide +kernel)
theorem allAtoms_all (ts : List Jvm.Cond) (a : Array Jvm.Value) (st : Jvm.State) : (allAtoms ts).before a st = ts.all (fun c => c.before a st) := by
  induction ts with
  | nil => rfl
  | cons c t ih =>
    show (Jvm.Cond.and c (allAtoms t)).before a st = _
    rw [Jvm.Cond.before_and, ih, List.all_cons]
def words1 : List Jvm.Cond := Jvm.Cond.code x code maxLocals ret :: tables_1
/-- a 'code' word, met by the world's own term for the bytes: nothing is compared byte by byte -/
theorem code_word {y : MethodName} {bytes : ByteArray} {mx : Nat} {rt : Option FieldType} {a : Array Value} {s : State} {m : MethodId} {meth : Method} {c : Code} (h1 : s.methodNamed? y = some m) (h2 : s.vm.method? m = some meth) (h3 : meth.code = some c) (h4 : c.code = bytes)
    (h5 : (c.maxLocals == mx && c.exceptionTable.isEmpty && decide (c.maxStack ≤ mostOperands) && decide (meth.sig.returnType = rt) && !meth.locks && decide (parseMethodDescriptor y.desc = some meth.sig)) = true) : (Jvm.Cond.code y bytes mx rt).before a s = true := by
  simp only [Bool.and_eq_true, beq_iff_eq, Bool.not_eq_true', decide_eq_true_eq] at h5
  obtain ⟨⟨⟨⟨⟨g1, g2⟩, g3⟩, g4⟩, g5⟩, g6⟩ := h5
  simp [Cond.before, Cond.holds, Cond.value, h1, h2, h3, h4, g1, g2, g3, g4, g5, g6]
def isCode : Jvm.Cond → Bool
  | .code _ _ _ _ => true
  | _ => false
theorem all_split {L : List Jvm.Cond} {P : Jvm.Cond → Bool} (h1 : L.all (fun c => isCode c || P c) = true) (h2 : ∀ c ∈ L.filter isCode, P c = true) : L.all P = true := by
  refine List.all_eq_true.mpr fun c hc => ?_
  have h := List.all_eq_true.mp h1 c hc
  rcases Bool.eq_false_or_eq_true (isCode c) with hi | hi
  · exact h2 c (List.mem_filter.mpr ⟨hc, hi⟩)
  · simpa [hi] using h
set_option maxRecDepth 65536 in
theorem w_c0 : (Jvm.Cond.code x code maxLocals ret).before args0 about1 = true := code_word (m := ⟨1, 2⟩) (meth := k1m2) (c := k1c2) (by decide +kernel) rfl rfl rfl (by decide +kernel)
set_option maxRecDepth 65536 in
theorem w_c1 : (Jvm.Cond.code ({ cls := "com/example/vraag/vraag/value/XmlChars", name := "isChar", desc := "(I)Z" } : Jvm.MethodName) prog_186_method_2_code (1 : Nat) (Option.some Jvm.ClassFile.FieldType.boolean)).before args0 about1 = true := code_word (m := ⟨2, 1⟩) (meth := k2m1) (c := k2c1) (by decide +kernel) rfl rfl rfl (by decide +kernel)
set_option maxRecDepth 65536 in
theorem w_c2 : (Jvm.Cond.code ({ cls := "com/example/vraag/vraag/value/XmlCharsIsCharPinLaw", name := "excluded", desc := "(I)Z" } : Jvm.MethodName) method_2_code (1 : Nat) (Option.some Jvm.ClassFile.FieldType.boolean)).before args0 about1 = true := code_word (m := ⟨1, 1⟩) (meth := k1m1) (c := k1c1) (by decide +kernel) rfl rfl rfl (by decide +kernel)
def codes1 : List Jvm.Cond := [Jvm.Cond.code x code maxLocals ret, Jvm.Cond.code ({ cls := "com/example/vraag/vraag/value/XmlChars", name := "isChar", desc := "(I)Z" } : Jvm.MethodName) prog_186_method_2_code (1 : Nat) (Option.some Jvm.ClassFile.FieldType.boolean), Jvm.Cond.code ({ cls := "com/example/vraag/vraag/value/XmlCharsIsCharPinLaw", name := "excluded", desc := "(I)Z" } : Jvm.MethodName) method_2_code (1 : Nat) (Option.some Jvm.ClassFile.FieldType.boolean)]
set_option maxRecDepth 65536 in
theorem codes_eq : words1.filter isCode = codes1 := rfl
theorem w_codes : ∀ c ∈ words1.filter isCode, c.before args0 about1 = true := by
  rw [codes_eq]
  intro c hc
  simp only [codes1, List.mem_cons, List.not_mem_nil, or_false] at hc
  rcases hc with rfl | rfl | rfl
  · exact w_c0
  · exact w_c1
  · exact w_c2
set_option maxRecDepth 65536 in
theorem w_t1 : (words1.take 24).all (fun c => isCode c || c.before args0 about1) = true := by decide +kernel
set_option maxRecDepth 65536 in
theorem w_t2 : (words1.drop 24).all (fun c => isCode c || c.before args0 about1) = true := by decide +kernel
theorem w_tables : (allAtoms (Jvm.Cond.code x code maxLocals ret :: tables_1)).before args0 about1 = true := by
  rw [allAtoms_all]
  show words1.all (fun c => c.before args0 about1) = true
  refine all_split ?_ w_codes
  rw [← List.take_append_drop 24 words1, List.all_append, w_t1, w_t2]
  rfl
set_option maxRecDepth 65536 in
theorem w_case : (Jvm.Cond.and given_1 narrow_1).before args0 about1 = true := by decide +kernel
theorem w_applies : (headSpec (Jvm.Cond.code x code maxLocals ret :: tables_1) room_1).applies x e0.platform about1 = true :=
  (Spec.applies_iff w_frames).mpr ⟨w_running, w_runnable, w_alone, w_named, w_hears, w_ripe, w_room, w_tables⟩
theorem atStart : AtStart classFile x code maxLocals ret World_1 tables_1 room_1 Calls_1 rest_1 Pre_1 launch0 p0 e0 about1 theMethod args0 below0 :=
  ⟨lists_1, trivial, launch0.admits_env _ _ _, launch0.least_env, fairChoices_fair.cas, fairChoices_fair.clock, w_frames, w_args, w_heap, w_applies, trivial, trivial, w_case⟩
end start1
theorem witness_1 : WitnessClaimed_1 := ⟨start1.p0, start1.e0, start1.about1, start1.theMethod, start1.args0, start1.below0, start1.atStart⟩
end Jvm.Pilot.@@N@@
