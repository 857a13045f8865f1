import JvmDerived
import JvmDerived.Pilot.@@N@@Statement
import JvmDerived.Pilot.@@N@@Code
set_option linter.unusedVariables false
set_option linter.unusedSimpArgs false
namespace Jvm.Pilot.@@N@@
open Jvm Jvm.ClassFile Sem Op Lib Jvm.Free Jvm.Stand Jvm.LawKit Jvm.RoadKit Bundle Jvm.Pilot.@@N@@.Jvm.D
/-! comparisons of an int with a constant, by whole numbers -/
theorem own_i_eq_t {c y : Int32} {k : Int} (hy : y.toInt = k) (h : c.toInt = k) : if_icmp.holds .eq c y = true := XT.ii_eq_t (Int32.toInt_inj.mp (h.trans hy.symm))
theorem own_i_eq_f {c y : Int32} {k : Int} (hy : y.toInt = k) (h : ¬ c.toInt = k) : if_icmp.holds .eq c y = false := XT.ii_eq_f fun q => h (by rw [q, hy])
theorem own_i_ne_t {c y : Int32} {k : Int} (hy : y.toInt = k) (h : ¬ c.toInt = k) : if_icmp.holds .ne c y = true := XT.ii_ne_t fun q => h (by rw [q, hy])
theorem own_i_ne_f {c y : Int32} {k : Int} (hy : y.toInt = k) (h : ¬ ¬ c.toInt = k) : if_icmp.holds .ne c y = false := XT.ii_ne_f (Int32.toInt_inj.mp ((Decidable.not_not.mp h).trans hy.symm))
theorem own_i_lt_t {c y : Int32} {k : Int} (hy : y.toInt = k) (h : c.toInt < k) : if_icmp.holds .lt c y = true := XT.ii_lt_t (by rw [Int32.lt_iff_toInt_lt]; omega)
theorem own_i_lt_f {c y : Int32} {k : Int} (hy : y.toInt = k) (h : ¬ c.toInt < k) : if_icmp.holds .lt c y = false := XT.ii_lt_f (by rw [Int32.lt_iff_toInt_lt]; omega)
theorem own_i_ge_t {c y : Int32} {k : Int} (hy : y.toInt = k) (h : k ≤ c.toInt) : if_icmp.holds .ge c y = true := XT.ii_ge_t (by rw [Int32.lt_iff_toInt_lt]; omega)
theorem own_i_ge_f {c y : Int32} {k : Int} (hy : y.toInt = k) (h : ¬ k ≤ c.toInt) : if_icmp.holds .ge c y = false := XT.ii_ge_f (by rw [Int32.lt_iff_toInt_lt]; omega)
theorem own_i_gt_t {c y : Int32} {k : Int} (hy : y.toInt = k) (h : k < c.toInt) : if_icmp.holds .gt c y = true := XT.ii_gt_t (by rw [Int32.lt_iff_toInt_lt]; omega)
theorem own_i_gt_f {c y : Int32} {k : Int} (hy : y.toInt = k) (h : ¬ k < c.toInt) : if_icmp.holds .gt c y = false := XT.ii_gt_f (by rw [Int32.lt_iff_toInt_lt]; omega)
theorem own_i_le_t {c y : Int32} {k : Int} (hy : y.toInt = k) (h : c.toInt ≤ k) : if_icmp.holds .le c y = true := XT.ii_le_t (by rw [Int32.lt_iff_toInt_lt]; omega)
theorem own_i_le_f {c y : Int32} {k : Int} (hy : y.toInt = k) (h : ¬ c.toInt ≤ k) : if_icmp.holds .le c y = false := XT.ii_le_f (by rw [Int32.lt_iff_toInt_lt]; omega)
theorem own_z0 : (0 : Int32).toInt = 0 := rfl
theorem own_z_lt_t {c : Int32} (h : c.toInt < 0) : ifCond.holds .lt c = true := XT.i0_lt_t (by rw [Int32.lt_iff_toInt_lt, own_z0]; omega)
theorem own_z_lt_f {c : Int32} (h : ¬ c.toInt < 0) : ifCond.holds .lt c = false := XT.i0_lt_f (by rw [Int32.lt_iff_toInt_lt, own_z0]; omega)
theorem own_z_ge_t {c : Int32} (h : 0 ≤ c.toInt) : ifCond.holds .ge c = true := XT.i0_ge_t (by rw [Int32.lt_iff_toInt_lt, own_z0]; omega)
theorem own_z_ge_f {c : Int32} (h : ¬ 0 ≤ c.toInt) : ifCond.holds .ge c = false := XT.i0_ge_f (by rw [Int32.lt_iff_toInt_lt, own_z0]; omega)
/-! what a callee leaves: the int z, the heap as it was -/
def own_Q (z : Int32) (h0 : Heap) (n0 : Nat) (v : Option Value) (h : Heap) (L : List Loc) : Prop := v = some (.int z) ∧ Fr n0 L ∧ h = h0
theorem own_d1_0 : decode prog_186_method_3_code 0 = .ok (.iload_n 0, 1) := by decide +kernel
theorem own_d1_1 : decode prog_186_method_3_code 1 = .ok (.bipush 97, 2) := by decide +kernel
theorem own_d1_3 : decode prog_186_method_3_code 3 = .ok (.if_icmp .lt 9, 3) := by decide +kernel
theorem own_d1_6 : decode prog_186_method_3_code 6 = .ok (.iload_n 0, 1) := by decide +kernel
theorem own_d1_7 : decode prog_186_method_3_code 7 = .ok (.bipush 122, 2) := by decide +kernel
theorem own_d1_9 : decode prog_186_method_3_code 9 = .ok (.if_icmp .le 182, 3) := by decide +kernel
theorem own_d1_12 : decode prog_186_method_3_code 12 = .ok (.iload_n 0, 1) := by decide +kernel
theorem own_d1_13 : decode prog_186_method_3_code 13 = .ok (.bipush 65, 2) := by decide +kernel
theorem own_d1_15 : decode prog_186_method_3_code 15 = .ok (.if_icmp .lt 9, 3) := by decide +kernel
theorem own_d1_18 : decode prog_186_method_3_code 18 = .ok (.iload_n 0, 1) := by decide +kernel
theorem own_d1_19 : decode prog_186_method_3_code 19 = .ok (.bipush 90, 2) := by decide +kernel
theorem own_d1_21 : decode prog_186_method_3_code 21 = .ok (.if_icmp .le 170, 3) := by decide +kernel
theorem own_d1_24 : decode prog_186_method_3_code 24 = .ok (.iload_n 0, 1) := by decide +kernel
theorem own_d1_25 : decode prog_186_method_3_code 25 = .ok (.bipush 95, 2) := by decide +kernel
theorem own_d1_27 : decode prog_186_method_3_code 27 = .ok (.if_icmp .eq 164, 3) := by decide +kernel
theorem own_d1_30 : decode prog_186_method_3_code 30 = .ok (.iload_n 0, 1) := by decide +kernel
theorem own_d1_31 : decode prog_186_method_3_code 31 = .ok (.sipush 192, 3) := by decide +kernel
theorem own_d1_34 : decode prog_186_method_3_code 34 = .ok (.if_icmp .lt 10, 3) := by decide +kernel
theorem own_d1_37 : decode prog_186_method_3_code 37 = .ok (.iload_n 0, 1) := by decide +kernel
theorem own_d1_38 : decode prog_186_method_3_code 38 = .ok (.sipush 214, 3) := by decide +kernel
theorem own_d1_41 : decode prog_186_method_3_code 41 = .ok (.if_icmp .le 150, 3) := by decide +kernel
theorem own_d1_44 : decode prog_186_method_3_code 44 = .ok (.iload_n 0, 1) := by decide +kernel
theorem own_d1_45 : decode prog_186_method_3_code 45 = .ok (.sipush 216, 3) := by decide +kernel
theorem own_d1_48 : decode prog_186_method_3_code 48 = .ok (.if_icmp .lt 10, 3) := by decide +kernel
theorem own_d1_51 : decode prog_186_method_3_code 51 = .ok (.iload_n 0, 1) := by decide +kernel
theorem own_d1_52 : decode prog_186_method_3_code 52 = .ok (.sipush 246, 3) := by decide +kernel
theorem own_d1_55 : decode prog_186_method_3_code 55 = .ok (.if_icmp .le 136, 3) := by decide +kernel
theorem own_d1_58 : decode prog_186_method_3_code 58 = .ok (.iload_n 0, 1) := by decide +kernel
theorem own_d1_59 : decode prog_186_method_3_code 59 = .ok (.sipush 248, 3) := by decide +kernel
theorem own_d1_62 : decode prog_186_method_3_code 62 = .ok (.if_icmp .lt 10, 3) := by decide +kernel
theorem own_d1_65 : decode prog_186_method_3_code 65 = .ok (.iload_n 0, 1) := by decide +kernel
theorem own_d1_66 : decode prog_186_method_3_code 66 = .ok (.sipush 767, 3) := by decide +kernel
theorem own_d1_69 : decode prog_186_method_3_code 69 = .ok (.if_icmp .le 122, 3) := by decide +kernel
theorem own_d1_72 : decode prog_186_method_3_code 72 = .ok (.iload_n 0, 1) := by decide +kernel
theorem own_d1_73 : decode prog_186_method_3_code 73 = .ok (.sipush 880, 3) := by decide +kernel
theorem own_d1_76 : decode prog_186_method_3_code 76 = .ok (.if_icmp .lt 10, 3) := by decide +kernel
theorem own_d1_79 : decode prog_186_method_3_code 79 = .ok (.iload_n 0, 1) := by decide +kernel
theorem own_d1_80 : decode prog_186_method_3_code 80 = .ok (.sipush 893, 3) := by decide +kernel
theorem own_d1_83 : decode prog_186_method_3_code 83 = .ok (.if_icmp .le 108, 3) := by decide +kernel
theorem own_d1_86 : decode prog_186_method_3_code 86 = .ok (.iload_n 0, 1) := by decide +kernel
theorem own_d1_87 : decode prog_186_method_3_code 87 = .ok (.sipush 895, 3) := by decide +kernel
theorem own_d1_90 : decode prog_186_method_3_code 90 = .ok (.if_icmp .lt 10, 3) := by decide +kernel
theorem own_d1_93 : decode prog_186_method_3_code 93 = .ok (.iload_n 0, 1) := by decide +kernel
theorem own_d1_94 : decode prog_186_method_3_code 94 = .ok (.sipush 8191, 3) := by decide +kernel
theorem own_d1_97 : decode prog_186_method_3_code 97 = .ok (.if_icmp .le 94, 3) := by decide +kernel
theorem own_d1_100 : decode prog_186_method_3_code 100 = .ok (.iload_n 0, 1) := by decide +kernel
theorem own_d1_101 : decode prog_186_method_3_code 101 = .ok (.sipush 8204, 3) := by decide +kernel
theorem own_d1_104 : decode prog_186_method_3_code 104 = .ok (.if_icmp .lt 10, 3) := by decide +kernel
theorem own_d1_107 : decode prog_186_method_3_code 107 = .ok (.iload_n 0, 1) := by decide +kernel
theorem own_d1_108 : decode prog_186_method_3_code 108 = .ok (.sipush 8205, 3) := by decide +kernel
theorem own_d1_111 : decode prog_186_method_3_code 111 = .ok (.if_icmp .le 80, 3) := by decide +kernel
theorem own_d1_114 : decode prog_186_method_3_code 114 = .ok (.iload_n 0, 1) := by decide +kernel
theorem own_d1_115 : decode prog_186_method_3_code 115 = .ok (.sipush 8304, 3) := by decide +kernel
theorem own_d1_118 : decode prog_186_method_3_code 118 = .ok (.if_icmp .lt 10, 3) := by decide +kernel
theorem own_d1_121 : decode prog_186_method_3_code 121 = .ok (.iload_n 0, 1) := by decide +kernel
theorem own_d1_122 : decode prog_186_method_3_code 122 = .ok (.sipush 8591, 3) := by decide +kernel
theorem own_d1_125 : decode prog_186_method_3_code 125 = .ok (.if_icmp .le 66, 3) := by decide +kernel
theorem own_d1_128 : decode prog_186_method_3_code 128 = .ok (.iload_n 0, 1) := by decide +kernel
theorem own_d1_129 : decode prog_186_method_3_code 129 = .ok (.sipush 11264, 3) := by decide +kernel
theorem own_d1_132 : decode prog_186_method_3_code 132 = .ok (.if_icmp .lt 10, 3) := by decide +kernel
theorem own_d1_135 : decode prog_186_method_3_code 135 = .ok (.iload_n 0, 1) := by decide +kernel
theorem own_d1_136 : decode prog_186_method_3_code 136 = .ok (.sipush 12271, 3) := by decide +kernel
theorem own_d1_139 : decode prog_186_method_3_code 139 = .ok (.if_icmp .le 52, 3) := by decide +kernel
theorem own_d1_142 : decode prog_186_method_3_code 142 = .ok (.iload_n 0, 1) := by decide +kernel
theorem own_d1_143 : decode prog_186_method_3_code 143 = .ok (.sipush 12289, 3) := by decide +kernel
theorem own_d1_146 : decode prog_186_method_3_code 146 = .ok (.if_icmp .lt 9, 3) := by decide +kernel
theorem own_d1_149 : decode prog_186_method_3_code 149 = .ok (.iload_n 0, 1) := by decide +kernel
theorem own_d1_150 : decode prog_186_method_3_code 150 = .ok (.ldc 7, 2) := by decide +kernel
theorem own_d1_152 : decode prog_186_method_3_code 152 = .ok (.if_icmp .le 39, 3) := by decide +kernel
theorem own_d1_155 : decode prog_186_method_3_code 155 = .ok (.iload_n 0, 1) := by decide +kernel
theorem own_d1_156 : decode prog_186_method_3_code 156 = .ok (.ldc 12, 2) := by decide +kernel
theorem own_d1_158 : decode prog_186_method_3_code 158 = .ok (.if_icmp .lt 9, 3) := by decide +kernel
theorem own_d1_161 : decode prog_186_method_3_code 161 = .ok (.iload_n 0, 1) := by decide +kernel
theorem own_d1_162 : decode prog_186_method_3_code 162 = .ok (.ldc 13, 2) := by decide +kernel
theorem own_d1_164 : decode prog_186_method_3_code 164 = .ok (.if_icmp .le 27, 3) := by decide +kernel
theorem own_d1_167 : decode prog_186_method_3_code 167 = .ok (.iload_n 0, 1) := by decide +kernel
theorem own_d1_168 : decode prog_186_method_3_code 168 = .ok (.ldc 14, 2) := by decide +kernel
theorem own_d1_170 : decode prog_186_method_3_code 170 = .ok (.if_icmp .lt 9, 3) := by decide +kernel
theorem own_d1_173 : decode prog_186_method_3_code 173 = .ok (.iload_n 0, 1) := by decide +kernel
theorem own_d1_174 : decode prog_186_method_3_code 174 = .ok (.ldc 9, 2) := by decide +kernel
theorem own_d1_176 : decode prog_186_method_3_code 176 = .ok (.if_icmp .le 15, 3) := by decide +kernel
theorem own_d1_179 : decode prog_186_method_3_code 179 = .ok (.iload_n 0, 1) := by decide +kernel
theorem own_d1_180 : decode prog_186_method_3_code 180 = .ok (.ldc 10, 2) := by decide +kernel
theorem own_d1_182 : decode prog_186_method_3_code 182 = .ok (.if_icmp .lt 13, 3) := by decide +kernel
theorem own_d1_185 : decode prog_186_method_3_code 185 = .ok (.iload_n 0, 1) := by decide +kernel
theorem own_d1_186 : decode prog_186_method_3_code 186 = .ok (.ldc 15, 2) := by decide +kernel
theorem own_d1_188 : decode prog_186_method_3_code 188 = .ok (.if_icmp .gt 7, 3) := by decide +kernel
theorem own_d1_191 : decode prog_186_method_3_code 191 = .ok (.iconst 1, 1) := by decide +kernel
theorem own_d1_192 : decode prog_186_method_3_code 192 = .ok (.goto 4, 3) := by decide +kernel
theorem own_d1_195 : decode prog_186_method_3_code 195 = .ok (.iconst 0, 1) := by decide +kernel
theorem own_d1_196 : decode prog_186_method_3_code 196 = .ok (.ireturn, 1) := by decide +kernel
theorem own_pn1 : plainName "com/example/vraag/vraag/value/XmlChars" = true := by first | (simp [plainName, overriddenIn]; done) | decide +kernel
theorem own_ef1 (m : MethodId) (x0 : Int32) : entryFrame m #[(.int x0)] 1 = mkF m 0 #[.val (.int x0)] [] := by first | (simp [entryFrame, mkF, argsToLocals, Value.category]; done) | rfl
theorem own_pd1 : parseMethodDescriptor "(I)Z" = some ⟨[.int], some .boolean⟩ := by decide +kernel
def own_F1_195 (x : Int) : Int32 := (0 : Int32)
def own_F1_191 (x : Int) : Int32 := (1 : Int32)
def own_F1_185 (x : Int) : Int32 := if 983039 < x then own_F1_195 x else own_F1_191 x
def own_F1_179 (x : Int) : Int32 := if x < 65536 then own_F1_195 x else own_F1_185 x
def own_F1_173 (x : Int) : Int32 := if x ≤ 65533 then own_F1_191 x else own_F1_179 x
def own_F1_167 (x : Int) : Int32 := if x < 65008 then own_F1_179 x else own_F1_173 x
def own_F1_161 (x : Int) : Int32 := if x ≤ 64975 then own_F1_191 x else own_F1_167 x
def own_F1_155 (x : Int) : Int32 := if x < 63744 then own_F1_167 x else own_F1_161 x
def own_F1_149 (x : Int) : Int32 := if x ≤ 55295 then own_F1_191 x else own_F1_155 x
def own_F1_142 (x : Int) : Int32 := if x < 12289 then own_F1_155 x else own_F1_149 x
def own_F1_135 (x : Int) : Int32 := if x ≤ 12271 then own_F1_191 x else own_F1_142 x
def own_F1_128 (x : Int) : Int32 := if x < 11264 then own_F1_142 x else own_F1_135 x
def own_F1_121 (x : Int) : Int32 := if x ≤ 8591 then own_F1_191 x else own_F1_128 x
def own_F1_114 (x : Int) : Int32 := if x < 8304 then own_F1_128 x else own_F1_121 x
def own_F1_107 (x : Int) : Int32 := if x ≤ 8205 then own_F1_191 x else own_F1_114 x
def own_F1_100 (x : Int) : Int32 := if x < 8204 then own_F1_114 x else own_F1_107 x
def own_F1_93 (x : Int) : Int32 := if x ≤ 8191 then own_F1_191 x else own_F1_100 x
def own_F1_86 (x : Int) : Int32 := if x < 895 then own_F1_100 x else own_F1_93 x
def own_F1_79 (x : Int) : Int32 := if x ≤ 893 then own_F1_191 x else own_F1_86 x
def own_F1_72 (x : Int) : Int32 := if x < 880 then own_F1_86 x else own_F1_79 x
def own_F1_65 (x : Int) : Int32 := if x ≤ 767 then own_F1_191 x else own_F1_72 x
def own_F1_58 (x : Int) : Int32 := if x < 248 then own_F1_72 x else own_F1_65 x
def own_F1_51 (x : Int) : Int32 := if x ≤ 246 then own_F1_191 x else own_F1_58 x
def own_F1_44 (x : Int) : Int32 := if x < 216 then own_F1_58 x else own_F1_51 x
def own_F1_37 (x : Int) : Int32 := if x ≤ 214 then own_F1_191 x else own_F1_44 x
def own_F1_30 (x : Int) : Int32 := if x < 192 then own_F1_44 x else own_F1_37 x
def own_F1_24 (x : Int) : Int32 := if x = 95 then own_F1_191 x else own_F1_30 x
def own_F1_18 (x : Int) : Int32 := if x ≤ 90 then own_F1_191 x else own_F1_24 x
def own_F1_12 (x : Int) : Int32 := if x < 65 then own_F1_24 x else own_F1_18 x
def own_F1_6 (x : Int) : Int32 := if x ≤ 122 then own_F1_191 x else own_F1_12 x
def own_F1_0 (x : Int) : Int32 := if x < 97 then own_F1_12 x else own_F1_6 x
set_option maxRecDepth 65536 in
set_option maxHeartbeats 40000000 in
theorem own_rm1 (l : Launch) (Z : State) (a0 : Array Value) (hw : ∀ d ∈ tables_1, d.before a0 Z = true) (ws : List Jvm.Cond) (p1 : Int32) (h0 : Heap) (n0 : Nat) :
    MetFree l (⟨"com/example/vraag/vraag/value/XmlChars", "isNameStartChar", "(I)Z"⟩ : MethodName) (head1 (Jvm.Cond.code (⟨"com/example/vraag/vraag/value/XmlChars", "isNameStartChar", "(I)Z"⟩ : MethodName) prog_186_method_3_code 1 (some .boolean) :: ws) ({ frames := 0, cells := 0, slots := 0, locals := 0 } : Room)) (fun a U => a = #[(.int p1)] ∧ Z.Warmed39 U.vm ∧ U.heap = h0) (fun _ _ _ _ _ => True) (fun _ U o U' => ∃ v L, o = .returned v ∧ own_Q (own_F1_0 p1.toInt) h0 n0 v U'.heap L ∧ FrameEnd U o U' L ({ frames := 0, cells := 0, slots := 0, locals := 0 } : Room).cells ({ frames := 0, cells := 0, slots := 0, locals := 0 } : Room).slots) := by
  refine MetFree.of_bodySF (plainFor_of_name own_pn1) hisR ?_
  intro p e s m args below meth c s₁ Bd hml0 hP hK
  obtain ⟨rfl, hZ, hh⟩ := hP
  have hx := Bd.exec
  have hby := Bd.bytes
  have hown : s.vm.findClass "com/example/vraag/vraag/value/XmlChars" = some m.cls := findClass_of_methodNamed Bd.named
  have X0 : Stand p l e ({ frames := 0, cells := 0, slots := 0, locals := 0 } : Room) s m #[(.int p1)] below meth c s₁ [] 0 0 := Stand.of_body Bd
  have e0 : s₁.heap = h0 := by rw [← hh, Bd.state]; rfl
  have pre0 : ∀ t, Steps p.tables e below (s₁.setTop (mkF m 0 #[.val (.int p1)] [])) t → Steps p.tables e below (s₁.setTop (entryFrame m #[(.int p1)] 1)) t := fun t k => castTop (own_ef1 m p1) k
  obtain ⟨z, hz0⟩ : ∃ z, own_F1_0 p1.toInt = z := ⟨_, rfl⟩
  obtain ⟨fs, hr, hrun, hended, hW, hsame⟩ := X0.leave (v := some (.int z)) (fun h => by rw [Bd.returns] at h; cases h)
  have b195 : own_F1_195 p1.toInt = z → Steps p.tables e below (s₁.setTop (mkF m 195 #[.val (.int p1)] [])) (s₁.setFrames fs) := by
    intro hz
    show Steps p.tables e below (s₁.setTop (mkF m 195 #[.val (.int p1)] [])) _
    refine XS.iconst X0.here hx rfl (hb hby own_d1_195) ?_
    show Steps p.tables e below (s₁.setTop (mkF m 196 #[.val (.int p1)] [(.int (0 : Int32))])) _
    have hz1 : (0 : Int32) = z := hz
    subst hz1
    exact retN X0 hx (t := .boolean) Bd.returns (by simp) (hb hby own_d1_196) hr
  have b191 : own_F1_191 p1.toInt = z → Steps p.tables e below (s₁.setTop (mkF m 191 #[.val (.int p1)] [])) (s₁.setFrames fs) := by
    intro hz
    show Steps p.tables e below (s₁.setTop (mkF m 191 #[.val (.int p1)] [])) _
    refine XS.iconst X0.here hx rfl (hb hby own_d1_191) ?_
    show Steps p.tables e below (s₁.setTop (mkF m 192 #[.val (.int p1)] [(.int (1 : Int32))])) _
    refine XS.goto X0.here hx rfl (pc0 := 192) (pc' := 196) rfl (hb hby own_d1_192) (by decide) (by decide) ?_
    show Steps p.tables e below (s₁.setTop (mkF m 196 #[.val (.int p1)] [(.int (1 : Int32))])) _
    have hz1 : (1 : Int32) = z := hz
    subst hz1
    exact retN X0 hx (t := .boolean) Bd.returns (by simp) (hb hby own_d1_196) hr
  have b185 : own_F1_185 p1.toInt = z → Steps p.tables e below (s₁.setTop (mkF m 185 #[.val (.int p1)] [])) (s₁.setFrames fs) := by
    intro hz
    show Steps p.tables e below (s₁.setTop (mkF m 185 #[.val (.int p1)] [])) _
    refine XS.iloadN X0.here hx rfl (hb hby own_d1_185) rfl ?_
    show Steps p.tables e below (s₁.setTop (mkF m 186 #[.val (.int p1)] [(.int p1)])) _
    refine X0.ldcI hx hown (mvT hZ (hw _ (List.mem_of_getElem? (i := 28) rfl))) rfl (hb hby own_d1_186) ?_
    show Steps p.tables e below (s₁.setTop (mkF m 188 #[.val (.int p1)] [(.int (983039 : Int32)), (.int p1)])) _
    by_cases hc : 983039 < p1.toInt
    · refine XS.icmpYes X0.here hx rfl (pc0 := 188) (pc' := 195) rfl (hb hby own_d1_188) rfl (own_i_gt_t rfl hc) (by decide) (by decide) ?_
      show Steps p.tables e below (s₁.setTop (mkF m 195 #[.val (.int p1)] [])) _
      exact b195 (by rw [own_F1_185, if_pos hc] at hz; exact hz)
    · refine XS.icmpNo X0.here hx rfl (hb hby own_d1_188) rfl (own_i_gt_f rfl hc) ?_
      show Steps p.tables e below (s₁.setTop (mkF m 191 #[.val (.int p1)] [])) _
      exact b191 (by rw [own_F1_185, if_neg hc] at hz; exact hz)
  have b179 : own_F1_179 p1.toInt = z → Steps p.tables e below (s₁.setTop (mkF m 179 #[.val (.int p1)] [])) (s₁.setFrames fs) := by
    intro hz
    show Steps p.tables e below (s₁.setTop (mkF m 179 #[.val (.int p1)] [])) _
    refine XS.iloadN X0.here hx rfl (hb hby own_d1_179) rfl ?_
    show Steps p.tables e below (s₁.setTop (mkF m 180 #[.val (.int p1)] [(.int p1)])) _
    refine X0.ldcI hx hown (mvT hZ (hw _ (List.mem_of_getElem? (i := 17) rfl))) rfl (hb hby own_d1_180) ?_
    show Steps p.tables e below (s₁.setTop (mkF m 182 #[.val (.int p1)] [(.int (65536 : Int32)), (.int p1)])) _
    by_cases hc : p1.toInt < 65536
    · refine XS.icmpYes X0.here hx rfl (pc0 := 182) (pc' := 195) rfl (hb hby own_d1_182) rfl (own_i_lt_t rfl hc) (by decide) (by decide) ?_
      show Steps p.tables e below (s₁.setTop (mkF m 195 #[.val (.int p1)] [])) _
      exact b195 (by rw [own_F1_179, if_pos hc] at hz; exact hz)
    · refine XS.icmpNo X0.here hx rfl (hb hby own_d1_182) rfl (own_i_lt_f rfl hc) ?_
      show Steps p.tables e below (s₁.setTop (mkF m 185 #[.val (.int p1)] [])) _
      exact b185 (by rw [own_F1_179, if_neg hc] at hz; exact hz)
  have b173 : own_F1_173 p1.toInt = z → Steps p.tables e below (s₁.setTop (mkF m 173 #[.val (.int p1)] [])) (s₁.setFrames fs) := by
    intro hz
    show Steps p.tables e below (s₁.setTop (mkF m 173 #[.val (.int p1)] [])) _
    refine XS.iloadN X0.here hx rfl (hb hby own_d1_173) rfl ?_
    show Steps p.tables e below (s₁.setTop (mkF m 174 #[.val (.int p1)] [(.int p1)])) _
    refine X0.ldcI hx hown (mvT hZ (hw _ (List.mem_of_getElem? (i := 27) rfl))) rfl (hb hby own_d1_174) ?_
    show Steps p.tables e below (s₁.setTop (mkF m 176 #[.val (.int p1)] [(.int (65533 : Int32)), (.int p1)])) _
    by_cases hc : p1.toInt ≤ 65533
    · refine XS.icmpYes X0.here hx rfl (pc0 := 176) (pc' := 191) rfl (hb hby own_d1_176) rfl (own_i_le_t rfl hc) (by decide) (by decide) ?_
      show Steps p.tables e below (s₁.setTop (mkF m 191 #[.val (.int p1)] [])) _
      exact b191 (by rw [own_F1_173, if_pos hc] at hz; exact hz)
    · refine XS.icmpNo X0.here hx rfl (hb hby own_d1_176) rfl (own_i_le_f rfl hc) ?_
      show Steps p.tables e below (s₁.setTop (mkF m 179 #[.val (.int p1)] [])) _
      exact b179 (by rw [own_F1_173, if_neg hc] at hz; exact hz)
  have b167 : own_F1_167 p1.toInt = z → Steps p.tables e below (s₁.setTop (mkF m 167 #[.val (.int p1)] [])) (s₁.setFrames fs) := by
    intro hz
    show Steps p.tables e below (s₁.setTop (mkF m 167 #[.val (.int p1)] [])) _
    refine XS.iloadN X0.here hx rfl (hb hby own_d1_167) rfl ?_
    show Steps p.tables e below (s₁.setTop (mkF m 168 #[.val (.int p1)] [(.int p1)])) _
    refine X0.ldcI hx hown (mvT hZ (hw _ (List.mem_of_getElem? (i := 16) rfl))) rfl (hb hby own_d1_168) ?_
    show Steps p.tables e below (s₁.setTop (mkF m 170 #[.val (.int p1)] [(.int (65008 : Int32)), (.int p1)])) _
    by_cases hc : p1.toInt < 65008
    · refine XS.icmpYes X0.here hx rfl (pc0 := 170) (pc' := 179) rfl (hb hby own_d1_170) rfl (own_i_lt_t rfl hc) (by decide) (by decide) ?_
      show Steps p.tables e below (s₁.setTop (mkF m 179 #[.val (.int p1)] [])) _
      exact b179 (by rw [own_F1_167, if_pos hc] at hz; exact hz)
    · refine XS.icmpNo X0.here hx rfl (hb hby own_d1_170) rfl (own_i_lt_f rfl hc) ?_
      show Steps p.tables e below (s₁.setTop (mkF m 173 #[.val (.int p1)] [])) _
      exact b173 (by rw [own_F1_167, if_neg hc] at hz; exact hz)
  have b161 : own_F1_161 p1.toInt = z → Steps p.tables e below (s₁.setTop (mkF m 161 #[.val (.int p1)] [])) (s₁.setFrames fs) := by
    intro hz
    show Steps p.tables e below (s₁.setTop (mkF m 161 #[.val (.int p1)] [])) _
    refine XS.iloadN X0.here hx rfl (hb hby own_d1_161) rfl ?_
    show Steps p.tables e below (s₁.setTop (mkF m 162 #[.val (.int p1)] [(.int p1)])) _
    refine X0.ldcI hx hown (mvT hZ (hw _ (List.mem_of_getElem? (i := 26) rfl))) rfl (hb hby own_d1_162) ?_
    show Steps p.tables e below (s₁.setTop (mkF m 164 #[.val (.int p1)] [(.int (64975 : Int32)), (.int p1)])) _
    by_cases hc : p1.toInt ≤ 64975
    · refine XS.icmpYes X0.here hx rfl (pc0 := 164) (pc' := 191) rfl (hb hby own_d1_164) rfl (own_i_le_t rfl hc) (by decide) (by decide) ?_
      show Steps p.tables e below (s₁.setTop (mkF m 191 #[.val (.int p1)] [])) _
      exact b191 (by rw [own_F1_161, if_pos hc] at hz; exact hz)
    · refine XS.icmpNo X0.here hx rfl (hb hby own_d1_164) rfl (own_i_le_f rfl hc) ?_
      show Steps p.tables e below (s₁.setTop (mkF m 167 #[.val (.int p1)] [])) _
      exact b167 (by rw [own_F1_161, if_neg hc] at hz; exact hz)
  have b155 : own_F1_155 p1.toInt = z → Steps p.tables e below (s₁.setTop (mkF m 155 #[.val (.int p1)] [])) (s₁.setFrames fs) := by
    intro hz
    show Steps p.tables e below (s₁.setTop (mkF m 155 #[.val (.int p1)] [])) _
    refine XS.iloadN X0.here hx rfl (hb hby own_d1_155) rfl ?_
    show Steps p.tables e below (s₁.setTop (mkF m 156 #[.val (.int p1)] [(.int p1)])) _
    refine X0.ldcI hx hown (mvT hZ (hw _ (List.mem_of_getElem? (i := 15) rfl))) rfl (hb hby own_d1_156) ?_
    show Steps p.tables e below (s₁.setTop (mkF m 158 #[.val (.int p1)] [(.int (63744 : Int32)), (.int p1)])) _
    by_cases hc : p1.toInt < 63744
    · refine XS.icmpYes X0.here hx rfl (pc0 := 158) (pc' := 167) rfl (hb hby own_d1_158) rfl (own_i_lt_t rfl hc) (by decide) (by decide) ?_
      show Steps p.tables e below (s₁.setTop (mkF m 167 #[.val (.int p1)] [])) _
      exact b167 (by rw [own_F1_155, if_pos hc] at hz; exact hz)
    · refine XS.icmpNo X0.here hx rfl (hb hby own_d1_158) rfl (own_i_lt_f rfl hc) ?_
      show Steps p.tables e below (s₁.setTop (mkF m 161 #[.val (.int p1)] [])) _
      exact b161 (by rw [own_F1_155, if_neg hc] at hz; exact hz)
  have b149 : own_F1_149 p1.toInt = z → Steps p.tables e below (s₁.setTop (mkF m 149 #[.val (.int p1)] [])) (s₁.setFrames fs) := by
    intro hz
    show Steps p.tables e below (s₁.setTop (mkF m 149 #[.val (.int p1)] [])) _
    refine XS.iloadN X0.here hx rfl (hb hby own_d1_149) rfl ?_
    show Steps p.tables e below (s₁.setTop (mkF m 150 #[.val (.int p1)] [(.int p1)])) _
    refine X0.ldcI hx hown (mvT hZ (hw _ (List.mem_of_getElem? (i := 25) rfl))) rfl (hb hby own_d1_150) ?_
    show Steps p.tables e below (s₁.setTop (mkF m 152 #[.val (.int p1)] [(.int (55295 : Int32)), (.int p1)])) _
    by_cases hc : p1.toInt ≤ 55295
    · refine XS.icmpYes X0.here hx rfl (pc0 := 152) (pc' := 191) rfl (hb hby own_d1_152) rfl (own_i_le_t rfl hc) (by decide) (by decide) ?_
      show Steps p.tables e below (s₁.setTop (mkF m 191 #[.val (.int p1)] [])) _
      exact b191 (by rw [own_F1_149, if_pos hc] at hz; exact hz)
    · refine XS.icmpNo X0.here hx rfl (hb hby own_d1_152) rfl (own_i_le_f rfl hc) ?_
      show Steps p.tables e below (s₁.setTop (mkF m 155 #[.val (.int p1)] [])) _
      exact b155 (by rw [own_F1_149, if_neg hc] at hz; exact hz)
  have b142 : own_F1_142 p1.toInt = z → Steps p.tables e below (s₁.setTop (mkF m 142 #[.val (.int p1)] [])) (s₁.setFrames fs) := by
    intro hz
    show Steps p.tables e below (s₁.setTop (mkF m 142 #[.val (.int p1)] [])) _
    refine XS.iloadN X0.here hx rfl (hb hby own_d1_142) rfl ?_
    show Steps p.tables e below (s₁.setTop (mkF m 143 #[.val (.int p1)] [(.int p1)])) _
    refine XS.sipush X0.here hx rfl (hb hby own_d1_143) ?_
    show Steps p.tables e below (s₁.setTop (mkF m 146 #[.val (.int p1)] [(.int (12289 : Int32)), (.int p1)])) _
    by_cases hc : p1.toInt < 12289
    · refine XS.icmpYes X0.here hx rfl (pc0 := 146) (pc' := 155) rfl (hb hby own_d1_146) rfl (own_i_lt_t rfl hc) (by decide) (by decide) ?_
      show Steps p.tables e below (s₁.setTop (mkF m 155 #[.val (.int p1)] [])) _
      exact b155 (by rw [own_F1_142, if_pos hc] at hz; exact hz)
    · refine XS.icmpNo X0.here hx rfl (hb hby own_d1_146) rfl (own_i_lt_f rfl hc) ?_
      show Steps p.tables e below (s₁.setTop (mkF m 149 #[.val (.int p1)] [])) _
      exact b149 (by rw [own_F1_142, if_neg hc] at hz; exact hz)
  have b135 : own_F1_135 p1.toInt = z → Steps p.tables e below (s₁.setTop (mkF m 135 #[.val (.int p1)] [])) (s₁.setFrames fs) := by
    intro hz
    show Steps p.tables e below (s₁.setTop (mkF m 135 #[.val (.int p1)] [])) _
    refine XS.iloadN X0.here hx rfl (hb hby own_d1_135) rfl ?_
    show Steps p.tables e below (s₁.setTop (mkF m 136 #[.val (.int p1)] [(.int p1)])) _
    refine XS.sipush X0.here hx rfl (hb hby own_d1_136) ?_
    show Steps p.tables e below (s₁.setTop (mkF m 139 #[.val (.int p1)] [(.int (12271 : Int32)), (.int p1)])) _
    by_cases hc : p1.toInt ≤ 12271
    · refine XS.icmpYes X0.here hx rfl (pc0 := 139) (pc' := 191) rfl (hb hby own_d1_139) rfl (own_i_le_t rfl hc) (by decide) (by decide) ?_
      show Steps p.tables e below (s₁.setTop (mkF m 191 #[.val (.int p1)] [])) _
      exact b191 (by rw [own_F1_135, if_pos hc] at hz; exact hz)
    · refine XS.icmpNo X0.here hx rfl (hb hby own_d1_139) rfl (own_i_le_f rfl hc) ?_
      show Steps p.tables e below (s₁.setTop (mkF m 142 #[.val (.int p1)] [])) _
      exact b142 (by rw [own_F1_135, if_neg hc] at hz; exact hz)
  have b128 : own_F1_128 p1.toInt = z → Steps p.tables e below (s₁.setTop (mkF m 128 #[.val (.int p1)] [])) (s₁.setFrames fs) := by
    intro hz
    show Steps p.tables e below (s₁.setTop (mkF m 128 #[.val (.int p1)] [])) _
    refine XS.iloadN X0.here hx rfl (hb hby own_d1_128) rfl ?_
    show Steps p.tables e below (s₁.setTop (mkF m 129 #[.val (.int p1)] [(.int p1)])) _
    refine XS.sipush X0.here hx rfl (hb hby own_d1_129) ?_
    show Steps p.tables e below (s₁.setTop (mkF m 132 #[.val (.int p1)] [(.int (11264 : Int32)), (.int p1)])) _
    by_cases hc : p1.toInt < 11264
    · refine XS.icmpYes X0.here hx rfl (pc0 := 132) (pc' := 142) rfl (hb hby own_d1_132) rfl (own_i_lt_t rfl hc) (by decide) (by decide) ?_
      show Steps p.tables e below (s₁.setTop (mkF m 142 #[.val (.int p1)] [])) _
      exact b142 (by rw [own_F1_128, if_pos hc] at hz; exact hz)
    · refine XS.icmpNo X0.here hx rfl (hb hby own_d1_132) rfl (own_i_lt_f rfl hc) ?_
      show Steps p.tables e below (s₁.setTop (mkF m 135 #[.val (.int p1)] [])) _
      exact b135 (by rw [own_F1_128, if_neg hc] at hz; exact hz)
  have b121 : own_F1_121 p1.toInt = z → Steps p.tables e below (s₁.setTop (mkF m 121 #[.val (.int p1)] [])) (s₁.setFrames fs) := by
    intro hz
    show Steps p.tables e below (s₁.setTop (mkF m 121 #[.val (.int p1)] [])) _
    refine XS.iloadN X0.here hx rfl (hb hby own_d1_121) rfl ?_
    show Steps p.tables e below (s₁.setTop (mkF m 122 #[.val (.int p1)] [(.int p1)])) _
    refine XS.sipush X0.here hx rfl (hb hby own_d1_122) ?_
    show Steps p.tables e below (s₁.setTop (mkF m 125 #[.val (.int p1)] [(.int (8591 : Int32)), (.int p1)])) _
    by_cases hc : p1.toInt ≤ 8591
    · refine XS.icmpYes X0.here hx rfl (pc0 := 125) (pc' := 191) rfl (hb hby own_d1_125) rfl (own_i_le_t rfl hc) (by decide) (by decide) ?_
      show Steps p.tables e below (s₁.setTop (mkF m 191 #[.val (.int p1)] [])) _
      exact b191 (by rw [own_F1_121, if_pos hc] at hz; exact hz)
    · refine XS.icmpNo X0.here hx rfl (hb hby own_d1_125) rfl (own_i_le_f rfl hc) ?_
      show Steps p.tables e below (s₁.setTop (mkF m 128 #[.val (.int p1)] [])) _
      exact b128 (by rw [own_F1_121, if_neg hc] at hz; exact hz)
  have b114 : own_F1_114 p1.toInt = z → Steps p.tables e below (s₁.setTop (mkF m 114 #[.val (.int p1)] [])) (s₁.setFrames fs) := by
    intro hz
    show Steps p.tables e below (s₁.setTop (mkF m 114 #[.val (.int p1)] [])) _
    refine XS.iloadN X0.here hx rfl (hb hby own_d1_114) rfl ?_
    show Steps p.tables e below (s₁.setTop (mkF m 115 #[.val (.int p1)] [(.int p1)])) _
    refine XS.sipush X0.here hx rfl (hb hby own_d1_115) ?_
    show Steps p.tables e below (s₁.setTop (mkF m 118 #[.val (.int p1)] [(.int (8304 : Int32)), (.int p1)])) _
    by_cases hc : p1.toInt < 8304
    · refine XS.icmpYes X0.here hx rfl (pc0 := 118) (pc' := 128) rfl (hb hby own_d1_118) rfl (own_i_lt_t rfl hc) (by decide) (by decide) ?_
      show Steps p.tables e below (s₁.setTop (mkF m 128 #[.val (.int p1)] [])) _
      exact b128 (by rw [own_F1_114, if_pos hc] at hz; exact hz)
    · refine XS.icmpNo X0.here hx rfl (hb hby own_d1_118) rfl (own_i_lt_f rfl hc) ?_
      show Steps p.tables e below (s₁.setTop (mkF m 121 #[.val (.int p1)] [])) _
      exact b121 (by rw [own_F1_114, if_neg hc] at hz; exact hz)
  have b107 : own_F1_107 p1.toInt = z → Steps p.tables e below (s₁.setTop (mkF m 107 #[.val (.int p1)] [])) (s₁.setFrames fs) := by
    intro hz
    show Steps p.tables e below (s₁.setTop (mkF m 107 #[.val (.int p1)] [])) _
    refine XS.iloadN X0.here hx rfl (hb hby own_d1_107) rfl ?_
    show Steps p.tables e below (s₁.setTop (mkF m 108 #[.val (.int p1)] [(.int p1)])) _
    refine XS.sipush X0.here hx rfl (hb hby own_d1_108) ?_
    show Steps p.tables e below (s₁.setTop (mkF m 111 #[.val (.int p1)] [(.int (8205 : Int32)), (.int p1)])) _
    by_cases hc : p1.toInt ≤ 8205
    · refine XS.icmpYes X0.here hx rfl (pc0 := 111) (pc' := 191) rfl (hb hby own_d1_111) rfl (own_i_le_t rfl hc) (by decide) (by decide) ?_
      show Steps p.tables e below (s₁.setTop (mkF m 191 #[.val (.int p1)] [])) _
      exact b191 (by rw [own_F1_107, if_pos hc] at hz; exact hz)
    · refine XS.icmpNo X0.here hx rfl (hb hby own_d1_111) rfl (own_i_le_f rfl hc) ?_
      show Steps p.tables e below (s₁.setTop (mkF m 114 #[.val (.int p1)] [])) _
      exact b114 (by rw [own_F1_107, if_neg hc] at hz; exact hz)
  have b100 : own_F1_100 p1.toInt = z → Steps p.tables e below (s₁.setTop (mkF m 100 #[.val (.int p1)] [])) (s₁.setFrames fs) := by
    intro hz
    show Steps p.tables e below (s₁.setTop (mkF m 100 #[.val (.int p1)] [])) _
    refine XS.iloadN X0.here hx rfl (hb hby own_d1_100) rfl ?_
    show Steps p.tables e below (s₁.setTop (mkF m 101 #[.val (.int p1)] [(.int p1)])) _
    refine XS.sipush X0.here hx rfl (hb hby own_d1_101) ?_
    show Steps p.tables e below (s₁.setTop (mkF m 104 #[.val (.int p1)] [(.int (8204 : Int32)), (.int p1)])) _
    by_cases hc : p1.toInt < 8204
    · refine XS.icmpYes X0.here hx rfl (pc0 := 104) (pc' := 114) rfl (hb hby own_d1_104) rfl (own_i_lt_t rfl hc) (by decide) (by decide) ?_
      show Steps p.tables e below (s₁.setTop (mkF m 114 #[.val (.int p1)] [])) _
      exact b114 (by rw [own_F1_100, if_pos hc] at hz; exact hz)
    · refine XS.icmpNo X0.here hx rfl (hb hby own_d1_104) rfl (own_i_lt_f rfl hc) ?_
      show Steps p.tables e below (s₁.setTop (mkF m 107 #[.val (.int p1)] [])) _
      exact b107 (by rw [own_F1_100, if_neg hc] at hz; exact hz)
  have b93 : own_F1_93 p1.toInt = z → Steps p.tables e below (s₁.setTop (mkF m 93 #[.val (.int p1)] [])) (s₁.setFrames fs) := by
    intro hz
    show Steps p.tables e below (s₁.setTop (mkF m 93 #[.val (.int p1)] [])) _
    refine XS.iloadN X0.here hx rfl (hb hby own_d1_93) rfl ?_
    show Steps p.tables e below (s₁.setTop (mkF m 94 #[.val (.int p1)] [(.int p1)])) _
    refine XS.sipush X0.here hx rfl (hb hby own_d1_94) ?_
    show Steps p.tables e below (s₁.setTop (mkF m 97 #[.val (.int p1)] [(.int (8191 : Int32)), (.int p1)])) _
    by_cases hc : p1.toInt ≤ 8191
    · refine XS.icmpYes X0.here hx rfl (pc0 := 97) (pc' := 191) rfl (hb hby own_d1_97) rfl (own_i_le_t rfl hc) (by decide) (by decide) ?_
      show Steps p.tables e below (s₁.setTop (mkF m 191 #[.val (.int p1)] [])) _
      exact b191 (by rw [own_F1_93, if_pos hc] at hz; exact hz)
    · refine XS.icmpNo X0.here hx rfl (hb hby own_d1_97) rfl (own_i_le_f rfl hc) ?_
      show Steps p.tables e below (s₁.setTop (mkF m 100 #[.val (.int p1)] [])) _
      exact b100 (by rw [own_F1_93, if_neg hc] at hz; exact hz)
  have b86 : own_F1_86 p1.toInt = z → Steps p.tables e below (s₁.setTop (mkF m 86 #[.val (.int p1)] [])) (s₁.setFrames fs) := by
    intro hz
    show Steps p.tables e below (s₁.setTop (mkF m 86 #[.val (.int p1)] [])) _
    refine XS.iloadN X0.here hx rfl (hb hby own_d1_86) rfl ?_
    show Steps p.tables e below (s₁.setTop (mkF m 87 #[.val (.int p1)] [(.int p1)])) _
    refine XS.sipush X0.here hx rfl (hb hby own_d1_87) ?_
    show Steps p.tables e below (s₁.setTop (mkF m 90 #[.val (.int p1)] [(.int (895 : Int32)), (.int p1)])) _
    by_cases hc : p1.toInt < 895
    · refine XS.icmpYes X0.here hx rfl (pc0 := 90) (pc' := 100) rfl (hb hby own_d1_90) rfl (own_i_lt_t rfl hc) (by decide) (by decide) ?_
      show Steps p.tables e below (s₁.setTop (mkF m 100 #[.val (.int p1)] [])) _
      exact b100 (by rw [own_F1_86, if_pos hc] at hz; exact hz)
    · refine XS.icmpNo X0.here hx rfl (hb hby own_d1_90) rfl (own_i_lt_f rfl hc) ?_
      show Steps p.tables e below (s₁.setTop (mkF m 93 #[.val (.int p1)] [])) _
      exact b93 (by rw [own_F1_86, if_neg hc] at hz; exact hz)
  have b79 : own_F1_79 p1.toInt = z → Steps p.tables e below (s₁.setTop (mkF m 79 #[.val (.int p1)] [])) (s₁.setFrames fs) := by
    intro hz
    show Steps p.tables e below (s₁.setTop (mkF m 79 #[.val (.int p1)] [])) _
    refine XS.iloadN X0.here hx rfl (hb hby own_d1_79) rfl ?_
    show Steps p.tables e below (s₁.setTop (mkF m 80 #[.val (.int p1)] [(.int p1)])) _
    refine XS.sipush X0.here hx rfl (hb hby own_d1_80) ?_
    show Steps p.tables e below (s₁.setTop (mkF m 83 #[.val (.int p1)] [(.int (893 : Int32)), (.int p1)])) _
    by_cases hc : p1.toInt ≤ 893
    · refine XS.icmpYes X0.here hx rfl (pc0 := 83) (pc' := 191) rfl (hb hby own_d1_83) rfl (own_i_le_t rfl hc) (by decide) (by decide) ?_
      show Steps p.tables e below (s₁.setTop (mkF m 191 #[.val (.int p1)] [])) _
      exact b191 (by rw [own_F1_79, if_pos hc] at hz; exact hz)
    · refine XS.icmpNo X0.here hx rfl (hb hby own_d1_83) rfl (own_i_le_f rfl hc) ?_
      show Steps p.tables e below (s₁.setTop (mkF m 86 #[.val (.int p1)] [])) _
      exact b86 (by rw [own_F1_79, if_neg hc] at hz; exact hz)
  have b72 : own_F1_72 p1.toInt = z → Steps p.tables e below (s₁.setTop (mkF m 72 #[.val (.int p1)] [])) (s₁.setFrames fs) := by
    intro hz
    show Steps p.tables e below (s₁.setTop (mkF m 72 #[.val (.int p1)] [])) _
    refine XS.iloadN X0.here hx rfl (hb hby own_d1_72) rfl ?_
    show Steps p.tables e below (s₁.setTop (mkF m 73 #[.val (.int p1)] [(.int p1)])) _
    refine XS.sipush X0.here hx rfl (hb hby own_d1_73) ?_
    show Steps p.tables e below (s₁.setTop (mkF m 76 #[.val (.int p1)] [(.int (880 : Int32)), (.int p1)])) _
    by_cases hc : p1.toInt < 880
    · refine XS.icmpYes X0.here hx rfl (pc0 := 76) (pc' := 86) rfl (hb hby own_d1_76) rfl (own_i_lt_t rfl hc) (by decide) (by decide) ?_
      show Steps p.tables e below (s₁.setTop (mkF m 86 #[.val (.int p1)] [])) _
      exact b86 (by rw [own_F1_72, if_pos hc] at hz; exact hz)
    · refine XS.icmpNo X0.here hx rfl (hb hby own_d1_76) rfl (own_i_lt_f rfl hc) ?_
      show Steps p.tables e below (s₁.setTop (mkF m 79 #[.val (.int p1)] [])) _
      exact b79 (by rw [own_F1_72, if_neg hc] at hz; exact hz)
  have b65 : own_F1_65 p1.toInt = z → Steps p.tables e below (s₁.setTop (mkF m 65 #[.val (.int p1)] [])) (s₁.setFrames fs) := by
    intro hz
    show Steps p.tables e below (s₁.setTop (mkF m 65 #[.val (.int p1)] [])) _
    refine XS.iloadN X0.here hx rfl (hb hby own_d1_65) rfl ?_
    show Steps p.tables e below (s₁.setTop (mkF m 66 #[.val (.int p1)] [(.int p1)])) _
    refine XS.sipush X0.here hx rfl (hb hby own_d1_66) ?_
    show Steps p.tables e below (s₁.setTop (mkF m 69 #[.val (.int p1)] [(.int (767 : Int32)), (.int p1)])) _
    by_cases hc : p1.toInt ≤ 767
    · refine XS.icmpYes X0.here hx rfl (pc0 := 69) (pc' := 191) rfl (hb hby own_d1_69) rfl (own_i_le_t rfl hc) (by decide) (by decide) ?_
      show Steps p.tables e below (s₁.setTop (mkF m 191 #[.val (.int p1)] [])) _
      exact b191 (by rw [own_F1_65, if_pos hc] at hz; exact hz)
    · refine XS.icmpNo X0.here hx rfl (hb hby own_d1_69) rfl (own_i_le_f rfl hc) ?_
      show Steps p.tables e below (s₁.setTop (mkF m 72 #[.val (.int p1)] [])) _
      exact b72 (by rw [own_F1_65, if_neg hc] at hz; exact hz)
  have b58 : own_F1_58 p1.toInt = z → Steps p.tables e below (s₁.setTop (mkF m 58 #[.val (.int p1)] [])) (s₁.setFrames fs) := by
    intro hz
    show Steps p.tables e below (s₁.setTop (mkF m 58 #[.val (.int p1)] [])) _
    refine XS.iloadN X0.here hx rfl (hb hby own_d1_58) rfl ?_
    show Steps p.tables e below (s₁.setTop (mkF m 59 #[.val (.int p1)] [(.int p1)])) _
    refine XS.sipush X0.here hx rfl (hb hby own_d1_59) ?_
    show Steps p.tables e below (s₁.setTop (mkF m 62 #[.val (.int p1)] [(.int (248 : Int32)), (.int p1)])) _
    by_cases hc : p1.toInt < 248
    · refine XS.icmpYes X0.here hx rfl (pc0 := 62) (pc' := 72) rfl (hb hby own_d1_62) rfl (own_i_lt_t rfl hc) (by decide) (by decide) ?_
      show Steps p.tables e below (s₁.setTop (mkF m 72 #[.val (.int p1)] [])) _
      exact b72 (by rw [own_F1_58, if_pos hc] at hz; exact hz)
    · refine XS.icmpNo X0.here hx rfl (hb hby own_d1_62) rfl (own_i_lt_f rfl hc) ?_
      show Steps p.tables e below (s₁.setTop (mkF m 65 #[.val (.int p1)] [])) _
      exact b65 (by rw [own_F1_58, if_neg hc] at hz; exact hz)
  have b51 : own_F1_51 p1.toInt = z → Steps p.tables e below (s₁.setTop (mkF m 51 #[.val (.int p1)] [])) (s₁.setFrames fs) := by
    intro hz
    show Steps p.tables e below (s₁.setTop (mkF m 51 #[.val (.int p1)] [])) _
    refine XS.iloadN X0.here hx rfl (hb hby own_d1_51) rfl ?_
    show Steps p.tables e below (s₁.setTop (mkF m 52 #[.val (.int p1)] [(.int p1)])) _
    refine XS.sipush X0.here hx rfl (hb hby own_d1_52) ?_
    show Steps p.tables e below (s₁.setTop (mkF m 55 #[.val (.int p1)] [(.int (246 : Int32)), (.int p1)])) _
    by_cases hc : p1.toInt ≤ 246
    · refine XS.icmpYes X0.here hx rfl (pc0 := 55) (pc' := 191) rfl (hb hby own_d1_55) rfl (own_i_le_t rfl hc) (by decide) (by decide) ?_
      show Steps p.tables e below (s₁.setTop (mkF m 191 #[.val (.int p1)] [])) _
      exact b191 (by rw [own_F1_51, if_pos hc] at hz; exact hz)
    · refine XS.icmpNo X0.here hx rfl (hb hby own_d1_55) rfl (own_i_le_f rfl hc) ?_
      show Steps p.tables e below (s₁.setTop (mkF m 58 #[.val (.int p1)] [])) _
      exact b58 (by rw [own_F1_51, if_neg hc] at hz; exact hz)
  have b44 : own_F1_44 p1.toInt = z → Steps p.tables e below (s₁.setTop (mkF m 44 #[.val (.int p1)] [])) (s₁.setFrames fs) := by
    intro hz
    show Steps p.tables e below (s₁.setTop (mkF m 44 #[.val (.int p1)] [])) _
    refine XS.iloadN X0.here hx rfl (hb hby own_d1_44) rfl ?_
    show Steps p.tables e below (s₁.setTop (mkF m 45 #[.val (.int p1)] [(.int p1)])) _
    refine XS.sipush X0.here hx rfl (hb hby own_d1_45) ?_
    show Steps p.tables e below (s₁.setTop (mkF m 48 #[.val (.int p1)] [(.int (216 : Int32)), (.int p1)])) _
    by_cases hc : p1.toInt < 216
    · refine XS.icmpYes X0.here hx rfl (pc0 := 48) (pc' := 58) rfl (hb hby own_d1_48) rfl (own_i_lt_t rfl hc) (by decide) (by decide) ?_
      show Steps p.tables e below (s₁.setTop (mkF m 58 #[.val (.int p1)] [])) _
      exact b58 (by rw [own_F1_44, if_pos hc] at hz; exact hz)
    · refine XS.icmpNo X0.here hx rfl (hb hby own_d1_48) rfl (own_i_lt_f rfl hc) ?_
      show Steps p.tables e below (s₁.setTop (mkF m 51 #[.val (.int p1)] [])) _
      exact b51 (by rw [own_F1_44, if_neg hc] at hz; exact hz)
  have b37 : own_F1_37 p1.toInt = z → Steps p.tables e below (s₁.setTop (mkF m 37 #[.val (.int p1)] [])) (s₁.setFrames fs) := by
    intro hz
    show Steps p.tables e below (s₁.setTop (mkF m 37 #[.val (.int p1)] [])) _
    refine XS.iloadN X0.here hx rfl (hb hby own_d1_37) rfl ?_
    show Steps p.tables e below (s₁.setTop (mkF m 38 #[.val (.int p1)] [(.int p1)])) _
    refine XS.sipush X0.here hx rfl (hb hby own_d1_38) ?_
    show Steps p.tables e below (s₁.setTop (mkF m 41 #[.val (.int p1)] [(.int (214 : Int32)), (.int p1)])) _
    by_cases hc : p1.toInt ≤ 214
    · refine XS.icmpYes X0.here hx rfl (pc0 := 41) (pc' := 191) rfl (hb hby own_d1_41) rfl (own_i_le_t rfl hc) (by decide) (by decide) ?_
      show Steps p.tables e below (s₁.setTop (mkF m 191 #[.val (.int p1)] [])) _
      exact b191 (by rw [own_F1_37, if_pos hc] at hz; exact hz)
    · refine XS.icmpNo X0.here hx rfl (hb hby own_d1_41) rfl (own_i_le_f rfl hc) ?_
      show Steps p.tables e below (s₁.setTop (mkF m 44 #[.val (.int p1)] [])) _
      exact b44 (by rw [own_F1_37, if_neg hc] at hz; exact hz)
  have b30 : own_F1_30 p1.toInt = z → Steps p.tables e below (s₁.setTop (mkF m 30 #[.val (.int p1)] [])) (s₁.setFrames fs) := by
    intro hz
    show Steps p.tables e below (s₁.setTop (mkF m 30 #[.val (.int p1)] [])) _
    refine XS.iloadN X0.here hx rfl (hb hby own_d1_30) rfl ?_
    show Steps p.tables e below (s₁.setTop (mkF m 31 #[.val (.int p1)] [(.int p1)])) _
    refine XS.sipush X0.here hx rfl (hb hby own_d1_31) ?_
    show Steps p.tables e below (s₁.setTop (mkF m 34 #[.val (.int p1)] [(.int (192 : Int32)), (.int p1)])) _
    by_cases hc : p1.toInt < 192
    · refine XS.icmpYes X0.here hx rfl (pc0 := 34) (pc' := 44) rfl (hb hby own_d1_34) rfl (own_i_lt_t rfl hc) (by decide) (by decide) ?_
      show Steps p.tables e below (s₁.setTop (mkF m 44 #[.val (.int p1)] [])) _
      exact b44 (by rw [own_F1_30, if_pos hc] at hz; exact hz)
    · refine XS.icmpNo X0.here hx rfl (hb hby own_d1_34) rfl (own_i_lt_f rfl hc) ?_
      show Steps p.tables e below (s₁.setTop (mkF m 37 #[.val (.int p1)] [])) _
      exact b37 (by rw [own_F1_30, if_neg hc] at hz; exact hz)
  have b24 : own_F1_24 p1.toInt = z → Steps p.tables e below (s₁.setTop (mkF m 24 #[.val (.int p1)] [])) (s₁.setFrames fs) := by
    intro hz
    show Steps p.tables e below (s₁.setTop (mkF m 24 #[.val (.int p1)] [])) _
    refine XS.iloadN X0.here hx rfl (hb hby own_d1_24) rfl ?_
    show Steps p.tables e below (s₁.setTop (mkF m 25 #[.val (.int p1)] [(.int p1)])) _
    refine XS.bipush X0.here hx rfl (hb hby own_d1_25) ?_
    show Steps p.tables e below (s₁.setTop (mkF m 27 #[.val (.int p1)] [(.int (95 : Int32)), (.int p1)])) _
    by_cases hc : p1.toInt = 95
    · refine XS.icmpYes X0.here hx rfl (pc0 := 27) (pc' := 191) rfl (hb hby own_d1_27) rfl (own_i_eq_t rfl hc) (by decide) (by decide) ?_
      show Steps p.tables e below (s₁.setTop (mkF m 191 #[.val (.int p1)] [])) _
      exact b191 (by rw [own_F1_24, if_pos hc] at hz; exact hz)
    · refine XS.icmpNo X0.here hx rfl (hb hby own_d1_27) rfl (own_i_eq_f rfl hc) ?_
      show Steps p.tables e below (s₁.setTop (mkF m 30 #[.val (.int p1)] [])) _
      exact b30 (by rw [own_F1_24, if_neg hc] at hz; exact hz)
  have b18 : own_F1_18 p1.toInt = z → Steps p.tables e below (s₁.setTop (mkF m 18 #[.val (.int p1)] [])) (s₁.setFrames fs) := by
    intro hz
    show Steps p.tables e below (s₁.setTop (mkF m 18 #[.val (.int p1)] [])) _
    refine XS.iloadN X0.here hx rfl (hb hby own_d1_18) rfl ?_
    show Steps p.tables e below (s₁.setTop (mkF m 19 #[.val (.int p1)] [(.int p1)])) _
    refine XS.bipush X0.here hx rfl (hb hby own_d1_19) ?_
    show Steps p.tables e below (s₁.setTop (mkF m 21 #[.val (.int p1)] [(.int (90 : Int32)), (.int p1)])) _
    by_cases hc : p1.toInt ≤ 90
    · refine XS.icmpYes X0.here hx rfl (pc0 := 21) (pc' := 191) rfl (hb hby own_d1_21) rfl (own_i_le_t rfl hc) (by decide) (by decide) ?_
      show Steps p.tables e below (s₁.setTop (mkF m 191 #[.val (.int p1)] [])) _
      exact b191 (by rw [own_F1_18, if_pos hc] at hz; exact hz)
    · refine XS.icmpNo X0.here hx rfl (hb hby own_d1_21) rfl (own_i_le_f rfl hc) ?_
      show Steps p.tables e below (s₁.setTop (mkF m 24 #[.val (.int p1)] [])) _
      exact b24 (by rw [own_F1_18, if_neg hc] at hz; exact hz)
  have b12 : own_F1_12 p1.toInt = z → Steps p.tables e below (s₁.setTop (mkF m 12 #[.val (.int p1)] [])) (s₁.setFrames fs) := by
    intro hz
    show Steps p.tables e below (s₁.setTop (mkF m 12 #[.val (.int p1)] [])) _
    refine XS.iloadN X0.here hx rfl (hb hby own_d1_12) rfl ?_
    show Steps p.tables e below (s₁.setTop (mkF m 13 #[.val (.int p1)] [(.int p1)])) _
    refine XS.bipush X0.here hx rfl (hb hby own_d1_13) ?_
    show Steps p.tables e below (s₁.setTop (mkF m 15 #[.val (.int p1)] [(.int (65 : Int32)), (.int p1)])) _
    by_cases hc : p1.toInt < 65
    · refine XS.icmpYes X0.here hx rfl (pc0 := 15) (pc' := 24) rfl (hb hby own_d1_15) rfl (own_i_lt_t rfl hc) (by decide) (by decide) ?_
      show Steps p.tables e below (s₁.setTop (mkF m 24 #[.val (.int p1)] [])) _
      exact b24 (by rw [own_F1_12, if_pos hc] at hz; exact hz)
    · refine XS.icmpNo X0.here hx rfl (hb hby own_d1_15) rfl (own_i_lt_f rfl hc) ?_
      show Steps p.tables e below (s₁.setTop (mkF m 18 #[.val (.int p1)] [])) _
      exact b18 (by rw [own_F1_12, if_neg hc] at hz; exact hz)
  have b6 : own_F1_6 p1.toInt = z → Steps p.tables e below (s₁.setTop (mkF m 6 #[.val (.int p1)] [])) (s₁.setFrames fs) := by
    intro hz
    show Steps p.tables e below (s₁.setTop (mkF m 6 #[.val (.int p1)] [])) _
    refine XS.iloadN X0.here hx rfl (hb hby own_d1_6) rfl ?_
    show Steps p.tables e below (s₁.setTop (mkF m 7 #[.val (.int p1)] [(.int p1)])) _
    refine XS.bipush X0.here hx rfl (hb hby own_d1_7) ?_
    show Steps p.tables e below (s₁.setTop (mkF m 9 #[.val (.int p1)] [(.int (122 : Int32)), (.int p1)])) _
    by_cases hc : p1.toInt ≤ 122
    · refine XS.icmpYes X0.here hx rfl (pc0 := 9) (pc' := 191) rfl (hb hby own_d1_9) rfl (own_i_le_t rfl hc) (by decide) (by decide) ?_
      show Steps p.tables e below (s₁.setTop (mkF m 191 #[.val (.int p1)] [])) _
      exact b191 (by rw [own_F1_6, if_pos hc] at hz; exact hz)
    · refine XS.icmpNo X0.here hx rfl (hb hby own_d1_9) rfl (own_i_le_f rfl hc) ?_
      show Steps p.tables e below (s₁.setTop (mkF m 12 #[.val (.int p1)] [])) _
      exact b12 (by rw [own_F1_6, if_neg hc] at hz; exact hz)
  have b0 : own_F1_0 p1.toInt = z → Steps p.tables e below (s₁.setTop (mkF m 0 #[.val (.int p1)] [])) (s₁.setFrames fs) := by
    intro hz
    show Steps p.tables e below (s₁.setTop (mkF m 0 #[.val (.int p1)] [])) _
    refine XS.iloadN X0.here hx rfl (hb hby own_d1_0) rfl ?_
    show Steps p.tables e below (s₁.setTop (mkF m 1 #[.val (.int p1)] [(.int p1)])) _
    refine XS.bipush X0.here hx rfl (hb hby own_d1_1) ?_
    show Steps p.tables e below (s₁.setTop (mkF m 3 #[.val (.int p1)] [(.int (97 : Int32)), (.int p1)])) _
    by_cases hc : p1.toInt < 97
    · refine XS.icmpYes X0.here hx rfl (pc0 := 3) (pc' := 12) rfl (hb hby own_d1_3) rfl (own_i_lt_t rfl hc) (by decide) (by decide) ?_
      show Steps p.tables e below (s₁.setTop (mkF m 12 #[.val (.int p1)] [])) _
      exact b12 (by rw [own_F1_0, if_pos hc] at hz; exact hz)
    · refine XS.icmpNo X0.here hx rfl (hb hby own_d1_3) rfl (own_i_lt_f rfl hc) ?_
      show Steps p.tables e below (s₁.setTop (mkF m 6 #[.val (.int p1)] [])) _
      exact b6 (by rw [own_F1_0, if_neg hc] at hz; exact hz)
  refine ⟨_, _, pre0 _ (b0 hz0), hrun, hended, _, _, rfl, ?_, ⟨_, rfl⟩, hW, hsame.mono (by decide) (by decide)⟩
  show own_Q (own_F1_0 p1.toInt) h0 n0 _ s₁.heap _
  exact ⟨by rw [hz0], Fr.nil n0, e0⟩
theorem own_d2_0 : decode method_2_code 0 = .ok (.iload_n 0, 1) := by decide +kernel
theorem own_d2_1 : decode method_2_code 1 = .ok (.bipush 65, 2) := by decide +kernel
theorem own_d2_3 : decode method_2_code 3 = .ok (.if_icmp .lt 9, 3) := by decide +kernel
theorem own_d2_6 : decode method_2_code 6 = .ok (.iload_n 0, 1) := by decide +kernel
theorem own_d2_7 : decode method_2_code 7 = .ok (.ldc 7, 2) := by decide +kernel
theorem own_d2_9 : decode method_2_code 9 = .ok (.if_icmp .le 5, 3) := by decide +kernel
theorem own_d2_12 : decode method_2_code 12 = .ok (.iconst 0, 1) := by decide +kernel
theorem own_d2_13 : decode method_2_code 13 = .ok (.ireturn, 1) := by decide +kernel
theorem own_d2_14 : decode method_2_code 14 = .ok (.iload_n 0, 1) := by decide +kernel
theorem own_d2_15 : decode method_2_code 15 = .ok (.bipush 91, 2) := by decide +kernel
theorem own_d2_17 : decode method_2_code 17 = .ok (.if_icmp .lt 11, 3) := by decide +kernel
theorem own_d2_20 : decode method_2_code 20 = .ok (.iload_n 0, 1) := by decide +kernel
theorem own_d2_21 : decode method_2_code 21 = .ok (.bipush 94, 2) := by decide +kernel
theorem own_d2_23 : decode method_2_code 23 = .ok (.if_icmp .gt 5, 3) := by decide +kernel
theorem own_d2_26 : decode method_2_code 26 = .ok (.iconst 0, 1) := by decide +kernel
theorem own_d2_27 : decode method_2_code 27 = .ok (.ireturn, 1) := by decide +kernel
theorem own_d2_28 : decode method_2_code 28 = .ok (.iload_n 0, 1) := by decide +kernel
theorem own_d2_29 : decode method_2_code 29 = .ok (.bipush 96, 2) := by decide +kernel
theorem own_d2_31 : decode method_2_code 31 = .ok (.if_icmp .ne 5, 3) := by decide +kernel
theorem own_d2_34 : decode method_2_code 34 = .ok (.iconst 0, 1) := by decide +kernel
theorem own_d2_35 : decode method_2_code 35 = .ok (.ireturn, 1) := by decide +kernel
theorem own_d2_36 : decode method_2_code 36 = .ok (.iload_n 0, 1) := by decide +kernel
theorem own_d2_37 : decode method_2_code 37 = .ok (.bipush 123, 2) := by decide +kernel
theorem own_d2_39 : decode method_2_code 39 = .ok (.if_icmp .lt 12, 3) := by decide +kernel
theorem own_d2_42 : decode method_2_code 42 = .ok (.iload_n 0, 1) := by decide +kernel
theorem own_d2_43 : decode method_2_code 43 = .ok (.sipush 191, 3) := by decide +kernel
theorem own_d2_46 : decode method_2_code 46 = .ok (.if_icmp .gt 5, 3) := by decide +kernel
theorem own_d2_49 : decode method_2_code 49 = .ok (.iconst 0, 1) := by decide +kernel
theorem own_d2_50 : decode method_2_code 50 = .ok (.ireturn, 1) := by decide +kernel
theorem own_d2_51 : decode method_2_code 51 = .ok (.iload_n 0, 1) := by decide +kernel
theorem own_d2_52 : decode method_2_code 52 = .ok (.sipush 215, 3) := by decide +kernel
theorem own_d2_55 : decode method_2_code 55 = .ok (.if_icmp .eq 10, 3) := by decide +kernel
theorem own_d2_58 : decode method_2_code 58 = .ok (.iload_n 0, 1) := by decide +kernel
theorem own_d2_59 : decode method_2_code 59 = .ok (.sipush 247, 3) := by decide +kernel
theorem own_d2_62 : decode method_2_code 62 = .ok (.if_icmp .ne 5, 3) := by decide +kernel
theorem own_d2_65 : decode method_2_code 65 = .ok (.iconst 0, 1) := by decide +kernel
theorem own_d2_66 : decode method_2_code 66 = .ok (.ireturn, 1) := by decide +kernel
theorem own_d2_67 : decode method_2_code 67 = .ok (.iload_n 0, 1) := by decide +kernel
theorem own_d2_68 : decode method_2_code 68 = .ok (.sipush 768, 3) := by decide +kernel
theorem own_d2_71 : decode method_2_code 71 = .ok (.if_icmp .lt 12, 3) := by decide +kernel
theorem own_d2_74 : decode method_2_code 74 = .ok (.iload_n 0, 1) := by decide +kernel
theorem own_d2_75 : decode method_2_code 75 = .ok (.sipush 879, 3) := by decide +kernel
theorem own_d2_78 : decode method_2_code 78 = .ok (.if_icmp .gt 5, 3) := by decide +kernel
theorem own_d2_81 : decode method_2_code 81 = .ok (.iconst 0, 1) := by decide +kernel
theorem own_d2_82 : decode method_2_code 82 = .ok (.ireturn, 1) := by decide +kernel
theorem own_d2_83 : decode method_2_code 83 = .ok (.iload_n 0, 1) := by decide +kernel
theorem own_d2_84 : decode method_2_code 84 = .ok (.sipush 894, 3) := by decide +kernel
theorem own_d2_87 : decode method_2_code 87 = .ok (.if_icmp .ne 5, 3) := by decide +kernel
theorem own_d2_90 : decode method_2_code 90 = .ok (.iconst 0, 1) := by decide +kernel
theorem own_d2_91 : decode method_2_code 91 = .ok (.ireturn, 1) := by decide +kernel
theorem own_d2_92 : decode method_2_code 92 = .ok (.iload_n 0, 1) := by decide +kernel
theorem own_d2_93 : decode method_2_code 93 = .ok (.sipush 8192, 3) := by decide +kernel
theorem own_d2_96 : decode method_2_code 96 = .ok (.if_icmp .lt 12, 3) := by decide +kernel
theorem own_d2_99 : decode method_2_code 99 = .ok (.iload_n 0, 1) := by decide +kernel
theorem own_d2_100 : decode method_2_code 100 = .ok (.sipush 8203, 3) := by decide +kernel
theorem own_d2_103 : decode method_2_code 103 = .ok (.if_icmp .gt 5, 3) := by decide +kernel
theorem own_d2_106 : decode method_2_code 106 = .ok (.iconst 0, 1) := by decide +kernel
theorem own_d2_107 : decode method_2_code 107 = .ok (.ireturn, 1) := by decide +kernel
theorem own_d2_108 : decode method_2_code 108 = .ok (.iload_n 0, 1) := by decide +kernel
theorem own_d2_109 : decode method_2_code 109 = .ok (.sipush 8206, 3) := by decide +kernel
theorem own_d2_112 : decode method_2_code 112 = .ok (.if_icmp .lt 12, 3) := by decide +kernel
theorem own_d2_115 : decode method_2_code 115 = .ok (.iload_n 0, 1) := by decide +kernel
theorem own_d2_116 : decode method_2_code 116 = .ok (.sipush 8303, 3) := by decide +kernel
theorem own_d2_119 : decode method_2_code 119 = .ok (.if_icmp .gt 5, 3) := by decide +kernel
theorem own_d2_122 : decode method_2_code 122 = .ok (.iconst 0, 1) := by decide +kernel
theorem own_d2_123 : decode method_2_code 123 = .ok (.ireturn, 1) := by decide +kernel
theorem own_d2_124 : decode method_2_code 124 = .ok (.iload_n 0, 1) := by decide +kernel
theorem own_d2_125 : decode method_2_code 125 = .ok (.sipush 8592, 3) := by decide +kernel
theorem own_d2_128 : decode method_2_code 128 = .ok (.if_icmp .lt 12, 3) := by decide +kernel
theorem own_d2_131 : decode method_2_code 131 = .ok (.iload_n 0, 1) := by decide +kernel
theorem own_d2_132 : decode method_2_code 132 = .ok (.sipush 11263, 3) := by decide +kernel
theorem own_d2_135 : decode method_2_code 135 = .ok (.if_icmp .gt 5, 3) := by decide +kernel
theorem own_d2_138 : decode method_2_code 138 = .ok (.iconst 0, 1) := by decide +kernel
theorem own_d2_139 : decode method_2_code 139 = .ok (.ireturn, 1) := by decide +kernel
theorem own_d2_140 : decode method_2_code 140 = .ok (.iload_n 0, 1) := by decide +kernel
theorem own_d2_141 : decode method_2_code 141 = .ok (.sipush 12272, 3) := by decide +kernel
theorem own_d2_144 : decode method_2_code 144 = .ok (.if_icmp .lt 12, 3) := by decide +kernel
theorem own_d2_147 : decode method_2_code 147 = .ok (.iload_n 0, 1) := by decide +kernel
theorem own_d2_148 : decode method_2_code 148 = .ok (.sipush 12288, 3) := by decide +kernel
theorem own_d2_151 : decode method_2_code 151 = .ok (.if_icmp .gt 5, 3) := by decide +kernel
theorem own_d2_154 : decode method_2_code 154 = .ok (.iconst 0, 1) := by decide +kernel
theorem own_d2_155 : decode method_2_code 155 = .ok (.ireturn, 1) := by decide +kernel
theorem own_d2_156 : decode method_2_code 156 = .ok (.iload_n 0, 1) := by decide +kernel
theorem own_d2_157 : decode method_2_code 157 = .ok (.ldc 8, 2) := by decide +kernel
theorem own_d2_159 : decode method_2_code 159 = .ok (.if_icmp .lt 11, 3) := by decide +kernel
theorem own_d2_162 : decode method_2_code 162 = .ok (.iload_n 0, 1) := by decide +kernel
theorem own_d2_163 : decode method_2_code 163 = .ok (.ldc 9, 2) := by decide +kernel
theorem own_d2_165 : decode method_2_code 165 = .ok (.if_icmp .gt 5, 3) := by decide +kernel
theorem own_d2_168 : decode method_2_code 168 = .ok (.iconst 0, 1) := by decide +kernel
theorem own_d2_169 : decode method_2_code 169 = .ok (.ireturn, 1) := by decide +kernel
theorem own_d2_170 : decode method_2_code 170 = .ok (.iload_n 0, 1) := by decide +kernel
theorem own_d2_171 : decode method_2_code 171 = .ok (.ldc 10, 2) := by decide +kernel
theorem own_d2_173 : decode method_2_code 173 = .ok (.if_icmp .lt 11, 3) := by decide +kernel
theorem own_d2_176 : decode method_2_code 176 = .ok (.iload_n 0, 1) := by decide +kernel
theorem own_d2_177 : decode method_2_code 177 = .ok (.ldc 11, 2) := by decide +kernel
theorem own_d2_179 : decode method_2_code 179 = .ok (.if_icmp .gt 5, 3) := by decide +kernel
theorem own_d2_182 : decode method_2_code 182 = .ok (.iconst 0, 1) := by decide +kernel
theorem own_d2_183 : decode method_2_code 183 = .ok (.ireturn, 1) := by decide +kernel
theorem own_d2_184 : decode method_2_code 184 = .ok (.iload_n 0, 1) := by decide +kernel
theorem own_d2_185 : decode method_2_code 185 = .ok (.ldc 12, 2) := by decide +kernel
theorem own_d2_187 : decode method_2_code 187 = .ok (.if_icmp .lt 11, 3) := by decide +kernel
theorem own_d2_190 : decode method_2_code 190 = .ok (.iload_n 0, 1) := by decide +kernel
theorem own_d2_191 : decode method_2_code 191 = .ok (.ldc 13, 2) := by decide +kernel
theorem own_d2_193 : decode method_2_code 193 = .ok (.if_icmp .gt 5, 3) := by decide +kernel
theorem own_d2_196 : decode method_2_code 196 = .ok (.iconst 0, 1) := by decide +kernel
theorem own_d2_197 : decode method_2_code 197 = .ok (.ireturn, 1) := by decide +kernel
theorem own_d2_198 : decode method_2_code 198 = .ok (.iconst 1, 1) := by decide +kernel
theorem own_d2_199 : decode method_2_code 199 = .ok (.ireturn, 1) := by decide +kernel
theorem own_pn2 : plainName "com/example/vraag/vraag/value/XmlCharsIsNameStartCharPinLaw" = true := by first | (simp [plainName, overriddenIn]; done) | decide +kernel
theorem own_ef2 (m : MethodId) (x0 : Int32) : entryFrame m #[(.int x0)] 1 = mkF m 0 #[.val (.int x0)] [] := by first | (simp [entryFrame, mkF, argsToLocals, Value.category]; done) | rfl
theorem own_pd2 : parseMethodDescriptor "(I)Z" = some ⟨[.int], some .boolean⟩ := by decide +kernel
def own_F2_198 (x : Int) : Int32 := (1 : Int32)
def own_F2_196 (x : Int) : Int32 := (0 : Int32)
def own_F2_190 (x : Int) : Int32 := if 65535 < x then own_F2_198 x else own_F2_196 x
def own_F2_184 (x : Int) : Int32 := if x < 65534 then own_F2_198 x else own_F2_190 x
def own_F2_182 (x : Int) : Int32 := (0 : Int32)
def own_F2_176 (x : Int) : Int32 := if 65007 < x then own_F2_184 x else own_F2_182 x
def own_F2_170 (x : Int) : Int32 := if x < 64976 then own_F2_184 x else own_F2_176 x
def own_F2_168 (x : Int) : Int32 := (0 : Int32)
def own_F2_162 (x : Int) : Int32 := if 63743 < x then own_F2_170 x else own_F2_168 x
def own_F2_156 (x : Int) : Int32 := if x < 55296 then own_F2_170 x else own_F2_162 x
def own_F2_154 (x : Int) : Int32 := (0 : Int32)
def own_F2_147 (x : Int) : Int32 := if 12288 < x then own_F2_156 x else own_F2_154 x
def own_F2_140 (x : Int) : Int32 := if x < 12272 then own_F2_156 x else own_F2_147 x
def own_F2_138 (x : Int) : Int32 := (0 : Int32)
def own_F2_131 (x : Int) : Int32 := if 11263 < x then own_F2_140 x else own_F2_138 x
def own_F2_124 (x : Int) : Int32 := if x < 8592 then own_F2_140 x else own_F2_131 x
def own_F2_122 (x : Int) : Int32 := (0 : Int32)
def own_F2_115 (x : Int) : Int32 := if 8303 < x then own_F2_124 x else own_F2_122 x
def own_F2_108 (x : Int) : Int32 := if x < 8206 then own_F2_124 x else own_F2_115 x
def own_F2_106 (x : Int) : Int32 := (0 : Int32)
def own_F2_99 (x : Int) : Int32 := if 8203 < x then own_F2_108 x else own_F2_106 x
def own_F2_92 (x : Int) : Int32 := if x < 8192 then own_F2_108 x else own_F2_99 x
def own_F2_90 (x : Int) : Int32 := (0 : Int32)
def own_F2_83 (x : Int) : Int32 := if ¬ x = 894 then own_F2_92 x else own_F2_90 x
def own_F2_81 (x : Int) : Int32 := (0 : Int32)
def own_F2_74 (x : Int) : Int32 := if 879 < x then own_F2_83 x else own_F2_81 x
def own_F2_67 (x : Int) : Int32 := if x < 768 then own_F2_83 x else own_F2_74 x
def own_F2_65 (x : Int) : Int32 := (0 : Int32)
def own_F2_58 (x : Int) : Int32 := if ¬ x = 247 then own_F2_67 x else own_F2_65 x
def own_F2_51 (x : Int) : Int32 := if x = 215 then own_F2_65 x else own_F2_58 x
def own_F2_49 (x : Int) : Int32 := (0 : Int32)
def own_F2_42 (x : Int) : Int32 := if 191 < x then own_F2_51 x else own_F2_49 x
def own_F2_36 (x : Int) : Int32 := if x < 123 then own_F2_51 x else own_F2_42 x
def own_F2_34 (x : Int) : Int32 := (0 : Int32)
def own_F2_28 (x : Int) : Int32 := if ¬ x = 96 then own_F2_36 x else own_F2_34 x
def own_F2_26 (x : Int) : Int32 := (0 : Int32)
def own_F2_20 (x : Int) : Int32 := if 94 < x then own_F2_28 x else own_F2_26 x
def own_F2_14 (x : Int) : Int32 := if x < 91 then own_F2_28 x else own_F2_20 x
def own_F2_12 (x : Int) : Int32 := (0 : Int32)
def own_F2_6 (x : Int) : Int32 := if x ≤ 983039 then own_F2_14 x else own_F2_12 x
def own_F2_0 (x : Int) : Int32 := if x < 65 then own_F2_12 x else own_F2_6 x
set_option maxRecDepth 65536 in
set_option maxHeartbeats 40000000 in
theorem own_rm2 (l : Launch) (Z : State) (a0 : Array Value) (hw : ∀ d ∈ tables_1, d.before a0 Z = true) (ws : List Jvm.Cond) (p1 : Int32) (h0 : Heap) (n0 : Nat) :
    MetFree l (⟨"com/example/vraag/vraag/value/XmlCharsIsNameStartCharPinLaw", "ref", "(I)Z"⟩ : MethodName) (head1 (Jvm.Cond.code (⟨"com/example/vraag/vraag/value/XmlCharsIsNameStartCharPinLaw", "ref", "(I)Z"⟩ : MethodName) method_2_code 1 (some .boolean) :: ws) ({ frames := 0, cells := 0, slots := 0, locals := 0 } : Room)) (fun a U => a = #[(.int p1)] ∧ Z.Warmed39 U.vm ∧ U.heap = h0) (fun _ _ _ _ _ => True) (fun _ U o U' => ∃ v L, o = .returned v ∧ own_Q (own_F2_0 p1.toInt) h0 n0 v U'.heap L ∧ FrameEnd U o U' L ({ frames := 0, cells := 0, slots := 0, locals := 0 } : Room).cells ({ frames := 0, cells := 0, slots := 0, locals := 0 } : Room).slots) := by
  refine MetFree.of_bodySF (plainFor_of_name own_pn2) hisR ?_
  intro p e s m args below meth c s₁ Bd hml0 hP hK
  obtain ⟨rfl, hZ, hh⟩ := hP
  have hx := Bd.exec
  have hby := Bd.bytes
  have hown : s.vm.findClass "com/example/vraag/vraag/value/XmlCharsIsNameStartCharPinLaw" = some m.cls := findClass_of_methodNamed Bd.named
  have X0 : Stand p l e ({ frames := 0, cells := 0, slots := 0, locals := 0 } : Room) s m #[(.int p1)] below meth c s₁ [] 0 0 := Stand.of_body Bd
  have e0 : s₁.heap = h0 := by rw [← hh, Bd.state]; rfl
  have pre0 : ∀ t, Steps p.tables e below (s₁.setTop (mkF m 0 #[.val (.int p1)] [])) t → Steps p.tables e below (s₁.setTop (entryFrame m #[(.int p1)] 1)) t := fun t k => castTop (own_ef2 m p1) k
  obtain ⟨z, hz0⟩ : ∃ z, own_F2_0 p1.toInt = z := ⟨_, rfl⟩
  obtain ⟨fs, hr, hrun, hended, hW, hsame⟩ := X0.leave (v := some (.int z)) (fun h => by rw [Bd.returns] at h; cases h)
  have b198 : own_F2_198 p1.toInt = z → Steps p.tables e below (s₁.setTop (mkF m 198 #[.val (.int p1)] [])) (s₁.setFrames fs) := by
    intro hz
    show Steps p.tables e below (s₁.setTop (mkF m 198 #[.val (.int p1)] [])) _
    refine XS.iconst X0.here hx rfl (hb hby own_d2_198) ?_
    show Steps p.tables e below (s₁.setTop (mkF m 199 #[.val (.int p1)] [(.int (1 : Int32))])) _
    have hz1 : (1 : Int32) = z := hz
    subst hz1
    exact retN X0 hx (t := .boolean) Bd.returns (by simp) (hb hby own_d2_199) hr
  have b196 : own_F2_196 p1.toInt = z → Steps p.tables e below (s₁.setTop (mkF m 196 #[.val (.int p1)] [])) (s₁.setFrames fs) := by
    intro hz
    show Steps p.tables e below (s₁.setTop (mkF m 196 #[.val (.int p1)] [])) _
    refine XS.iconst X0.here hx rfl (hb hby own_d2_196) ?_
    show Steps p.tables e below (s₁.setTop (mkF m 197 #[.val (.int p1)] [(.int (0 : Int32))])) _
    have hz1 : (0 : Int32) = z := hz
    subst hz1
    exact retN X0 hx (t := .boolean) Bd.returns (by simp) (hb hby own_d2_197) hr
  have b190 : own_F2_190 p1.toInt = z → Steps p.tables e below (s₁.setTop (mkF m 190 #[.val (.int p1)] [])) (s₁.setFrames fs) := by
    intro hz
    show Steps p.tables e below (s₁.setTop (mkF m 190 #[.val (.int p1)] [])) _
    refine XS.iloadN X0.here hx rfl (hb hby own_d2_190) rfl ?_
    show Steps p.tables e below (s₁.setTop (mkF m 191 #[.val (.int p1)] [(.int p1)])) _
    refine X0.ldcI hx hown (mvT hZ (hw _ (List.mem_of_getElem? (i := 31) rfl))) rfl (hb hby own_d2_191) ?_
    show Steps p.tables e below (s₁.setTop (mkF m 193 #[.val (.int p1)] [(.int (65535 : Int32)), (.int p1)])) _
    by_cases hc : 65535 < p1.toInt
    · refine XS.icmpYes X0.here hx rfl (pc0 := 193) (pc' := 198) rfl (hb hby own_d2_193) rfl (own_i_gt_t rfl hc) (by decide) (by decide) ?_
      show Steps p.tables e below (s₁.setTop (mkF m 198 #[.val (.int p1)] [])) _
      exact b198 (by rw [own_F2_190, if_pos hc] at hz; exact hz)
    · refine XS.icmpNo X0.here hx rfl (hb hby own_d2_193) rfl (own_i_gt_f rfl hc) ?_
      show Steps p.tables e below (s₁.setTop (mkF m 196 #[.val (.int p1)] [])) _
      exact b196 (by rw [own_F2_190, if_neg hc] at hz; exact hz)
  have b184 : own_F2_184 p1.toInt = z → Steps p.tables e below (s₁.setTop (mkF m 184 #[.val (.int p1)] [])) (s₁.setFrames fs) := by
    intro hz
    show Steps p.tables e below (s₁.setTop (mkF m 184 #[.val (.int p1)] [])) _
    refine XS.iloadN X0.here hx rfl (hb hby own_d2_184) rfl ?_
    show Steps p.tables e below (s₁.setTop (mkF m 185 #[.val (.int p1)] [(.int p1)])) _
    refine X0.ldcI hx hown (mvT hZ (hw _ (List.mem_of_getElem? (i := 24) rfl))) rfl (hb hby own_d2_185) ?_
    show Steps p.tables e below (s₁.setTop (mkF m 187 #[.val (.int p1)] [(.int (65534 : Int32)), (.int p1)])) _
    by_cases hc : p1.toInt < 65534
    · refine XS.icmpYes X0.here hx rfl (pc0 := 187) (pc' := 198) rfl (hb hby own_d2_187) rfl (own_i_lt_t rfl hc) (by decide) (by decide) ?_
      show Steps p.tables e below (s₁.setTop (mkF m 198 #[.val (.int p1)] [])) _
      exact b198 (by rw [own_F2_184, if_pos hc] at hz; exact hz)
    · refine XS.icmpNo X0.here hx rfl (hb hby own_d2_187) rfl (own_i_lt_f rfl hc) ?_
      show Steps p.tables e below (s₁.setTop (mkF m 190 #[.val (.int p1)] [])) _
      exact b190 (by rw [own_F2_184, if_neg hc] at hz; exact hz)
  have b182 : own_F2_182 p1.toInt = z → Steps p.tables e below (s₁.setTop (mkF m 182 #[.val (.int p1)] [])) (s₁.setFrames fs) := by
    intro hz
    show Steps p.tables e below (s₁.setTop (mkF m 182 #[.val (.int p1)] [])) _
    refine XS.iconst X0.here hx rfl (hb hby own_d2_182) ?_
    show Steps p.tables e below (s₁.setTop (mkF m 183 #[.val (.int p1)] [(.int (0 : Int32))])) _
    have hz1 : (0 : Int32) = z := hz
    subst hz1
    exact retN X0 hx (t := .boolean) Bd.returns (by simp) (hb hby own_d2_183) hr
  have b176 : own_F2_176 p1.toInt = z → Steps p.tables e below (s₁.setTop (mkF m 176 #[.val (.int p1)] [])) (s₁.setFrames fs) := by
    intro hz
    show Steps p.tables e below (s₁.setTop (mkF m 176 #[.val (.int p1)] [])) _
    refine XS.iloadN X0.here hx rfl (hb hby own_d2_176) rfl ?_
    show Steps p.tables e below (s₁.setTop (mkF m 177 #[.val (.int p1)] [(.int p1)])) _
    refine X0.ldcI hx hown (mvT hZ (hw _ (List.mem_of_getElem? (i := 30) rfl))) rfl (hb hby own_d2_177) ?_
    show Steps p.tables e below (s₁.setTop (mkF m 179 #[.val (.int p1)] [(.int (65007 : Int32)), (.int p1)])) _
    by_cases hc : 65007 < p1.toInt
    · refine XS.icmpYes X0.here hx rfl (pc0 := 179) (pc' := 184) rfl (hb hby own_d2_179) rfl (own_i_gt_t rfl hc) (by decide) (by decide) ?_
      show Steps p.tables e below (s₁.setTop (mkF m 184 #[.val (.int p1)] [])) _
      exact b184 (by rw [own_F2_176, if_pos hc] at hz; exact hz)
    · refine XS.icmpNo X0.here hx rfl (hb hby own_d2_179) rfl (own_i_gt_f rfl hc) ?_
      show Steps p.tables e below (s₁.setTop (mkF m 182 #[.val (.int p1)] [])) _
      exact b182 (by rw [own_F2_176, if_neg hc] at hz; exact hz)
  have b170 : own_F2_170 p1.toInt = z → Steps p.tables e below (s₁.setTop (mkF m 170 #[.val (.int p1)] [])) (s₁.setFrames fs) := by
    intro hz
    show Steps p.tables e below (s₁.setTop (mkF m 170 #[.val (.int p1)] [])) _
    refine XS.iloadN X0.here hx rfl (hb hby own_d2_170) rfl ?_
    show Steps p.tables e below (s₁.setTop (mkF m 171 #[.val (.int p1)] [(.int p1)])) _
    refine X0.ldcI hx hown (mvT hZ (hw _ (List.mem_of_getElem? (i := 23) rfl))) rfl (hb hby own_d2_171) ?_
    show Steps p.tables e below (s₁.setTop (mkF m 173 #[.val (.int p1)] [(.int (64976 : Int32)), (.int p1)])) _
    by_cases hc : p1.toInt < 64976
    · refine XS.icmpYes X0.here hx rfl (pc0 := 173) (pc' := 184) rfl (hb hby own_d2_173) rfl (own_i_lt_t rfl hc) (by decide) (by decide) ?_
      show Steps p.tables e below (s₁.setTop (mkF m 184 #[.val (.int p1)] [])) _
      exact b184 (by rw [own_F2_170, if_pos hc] at hz; exact hz)
    · refine XS.icmpNo X0.here hx rfl (hb hby own_d2_173) rfl (own_i_lt_f rfl hc) ?_
      show Steps p.tables e below (s₁.setTop (mkF m 176 #[.val (.int p1)] [])) _
      exact b176 (by rw [own_F2_170, if_neg hc] at hz; exact hz)
  have b168 : own_F2_168 p1.toInt = z → Steps p.tables e below (s₁.setTop (mkF m 168 #[.val (.int p1)] [])) (s₁.setFrames fs) := by
    intro hz
    show Steps p.tables e below (s₁.setTop (mkF m 168 #[.val (.int p1)] [])) _
    refine XS.iconst X0.here hx rfl (hb hby own_d2_168) ?_
    show Steps p.tables e below (s₁.setTop (mkF m 169 #[.val (.int p1)] [(.int (0 : Int32))])) _
    have hz1 : (0 : Int32) = z := hz
    subst hz1
    exact retN X0 hx (t := .boolean) Bd.returns (by simp) (hb hby own_d2_169) hr
  have b162 : own_F2_162 p1.toInt = z → Steps p.tables e below (s₁.setTop (mkF m 162 #[.val (.int p1)] [])) (s₁.setFrames fs) := by
    intro hz
    show Steps p.tables e below (s₁.setTop (mkF m 162 #[.val (.int p1)] [])) _
    refine XS.iloadN X0.here hx rfl (hb hby own_d2_162) rfl ?_
    show Steps p.tables e below (s₁.setTop (mkF m 163 #[.val (.int p1)] [(.int p1)])) _
    refine X0.ldcI hx hown (mvT hZ (hw _ (List.mem_of_getElem? (i := 29) rfl))) rfl (hb hby own_d2_163) ?_
    show Steps p.tables e below (s₁.setTop (mkF m 165 #[.val (.int p1)] [(.int (63743 : Int32)), (.int p1)])) _
    by_cases hc : 63743 < p1.toInt
    · refine XS.icmpYes X0.here hx rfl (pc0 := 165) (pc' := 170) rfl (hb hby own_d2_165) rfl (own_i_gt_t rfl hc) (by decide) (by decide) ?_
      show Steps p.tables e below (s₁.setTop (mkF m 170 #[.val (.int p1)] [])) _
      exact b170 (by rw [own_F2_162, if_pos hc] at hz; exact hz)
    · refine XS.icmpNo X0.here hx rfl (hb hby own_d2_165) rfl (own_i_gt_f rfl hc) ?_
      show Steps p.tables e below (s₁.setTop (mkF m 168 #[.val (.int p1)] [])) _
      exact b168 (by rw [own_F2_162, if_neg hc] at hz; exact hz)
  have b156 : own_F2_156 p1.toInt = z → Steps p.tables e below (s₁.setTop (mkF m 156 #[.val (.int p1)] [])) (s₁.setFrames fs) := by
    intro hz
    show Steps p.tables e below (s₁.setTop (mkF m 156 #[.val (.int p1)] [])) _
    refine XS.iloadN X0.here hx rfl (hb hby own_d2_156) rfl ?_
    show Steps p.tables e below (s₁.setTop (mkF m 157 #[.val (.int p1)] [(.int p1)])) _
    refine X0.ldcI hx hown (mvT hZ (hw _ (List.mem_of_getElem? (i := 22) rfl))) rfl (hb hby own_d2_157) ?_
    show Steps p.tables e below (s₁.setTop (mkF m 159 #[.val (.int p1)] [(.int (55296 : Int32)), (.int p1)])) _
    by_cases hc : p1.toInt < 55296
    · refine XS.icmpYes X0.here hx rfl (pc0 := 159) (pc' := 170) rfl (hb hby own_d2_159) rfl (own_i_lt_t rfl hc) (by decide) (by decide) ?_
      show Steps p.tables e below (s₁.setTop (mkF m 170 #[.val (.int p1)] [])) _
      exact b170 (by rw [own_F2_156, if_pos hc] at hz; exact hz)
    · refine XS.icmpNo X0.here hx rfl (hb hby own_d2_159) rfl (own_i_lt_f rfl hc) ?_
      show Steps p.tables e below (s₁.setTop (mkF m 162 #[.val (.int p1)] [])) _
      exact b162 (by rw [own_F2_156, if_neg hc] at hz; exact hz)
  have b154 : own_F2_154 p1.toInt = z → Steps p.tables e below (s₁.setTop (mkF m 154 #[.val (.int p1)] [])) (s₁.setFrames fs) := by
    intro hz
    show Steps p.tables e below (s₁.setTop (mkF m 154 #[.val (.int p1)] [])) _
    refine XS.iconst X0.here hx rfl (hb hby own_d2_154) ?_
    show Steps p.tables e below (s₁.setTop (mkF m 155 #[.val (.int p1)] [(.int (0 : Int32))])) _
    have hz1 : (0 : Int32) = z := hz
    subst hz1
    exact retN X0 hx (t := .boolean) Bd.returns (by simp) (hb hby own_d2_155) hr
  have b147 : own_F2_147 p1.toInt = z → Steps p.tables e below (s₁.setTop (mkF m 147 #[.val (.int p1)] [])) (s₁.setFrames fs) := by
    intro hz
    show Steps p.tables e below (s₁.setTop (mkF m 147 #[.val (.int p1)] [])) _
    refine XS.iloadN X0.here hx rfl (hb hby own_d2_147) rfl ?_
    show Steps p.tables e below (s₁.setTop (mkF m 148 #[.val (.int p1)] [(.int p1)])) _
    refine XS.sipush X0.here hx rfl (hb hby own_d2_148) ?_
    show Steps p.tables e below (s₁.setTop (mkF m 151 #[.val (.int p1)] [(.int (12288 : Int32)), (.int p1)])) _
    by_cases hc : 12288 < p1.toInt
    · refine XS.icmpYes X0.here hx rfl (pc0 := 151) (pc' := 156) rfl (hb hby own_d2_151) rfl (own_i_gt_t rfl hc) (by decide) (by decide) ?_
      show Steps p.tables e below (s₁.setTop (mkF m 156 #[.val (.int p1)] [])) _
      exact b156 (by rw [own_F2_147, if_pos hc] at hz; exact hz)
    · refine XS.icmpNo X0.here hx rfl (hb hby own_d2_151) rfl (own_i_gt_f rfl hc) ?_
      show Steps p.tables e below (s₁.setTop (mkF m 154 #[.val (.int p1)] [])) _
      exact b154 (by rw [own_F2_147, if_neg hc] at hz; exact hz)
  have b140 : own_F2_140 p1.toInt = z → Steps p.tables e below (s₁.setTop (mkF m 140 #[.val (.int p1)] [])) (s₁.setFrames fs) := by
    intro hz
    show Steps p.tables e below (s₁.setTop (mkF m 140 #[.val (.int p1)] [])) _
    refine XS.iloadN X0.here hx rfl (hb hby own_d2_140) rfl ?_
    show Steps p.tables e below (s₁.setTop (mkF m 141 #[.val (.int p1)] [(.int p1)])) _
    refine XS.sipush X0.here hx rfl (hb hby own_d2_141) ?_
    show Steps p.tables e below (s₁.setTop (mkF m 144 #[.val (.int p1)] [(.int (12272 : Int32)), (.int p1)])) _
    by_cases hc : p1.toInt < 12272
    · refine XS.icmpYes X0.here hx rfl (pc0 := 144) (pc' := 156) rfl (hb hby own_d2_144) rfl (own_i_lt_t rfl hc) (by decide) (by decide) ?_
      show Steps p.tables e below (s₁.setTop (mkF m 156 #[.val (.int p1)] [])) _
      exact b156 (by rw [own_F2_140, if_pos hc] at hz; exact hz)
    · refine XS.icmpNo X0.here hx rfl (hb hby own_d2_144) rfl (own_i_lt_f rfl hc) ?_
      show Steps p.tables e below (s₁.setTop (mkF m 147 #[.val (.int p1)] [])) _
      exact b147 (by rw [own_F2_140, if_neg hc] at hz; exact hz)
  have b138 : own_F2_138 p1.toInt = z → Steps p.tables e below (s₁.setTop (mkF m 138 #[.val (.int p1)] [])) (s₁.setFrames fs) := by
    intro hz
    show Steps p.tables e below (s₁.setTop (mkF m 138 #[.val (.int p1)] [])) _
    refine XS.iconst X0.here hx rfl (hb hby own_d2_138) ?_
    show Steps p.tables e below (s₁.setTop (mkF m 139 #[.val (.int p1)] [(.int (0 : Int32))])) _
    have hz1 : (0 : Int32) = z := hz
    subst hz1
    exact retN X0 hx (t := .boolean) Bd.returns (by simp) (hb hby own_d2_139) hr
  have b131 : own_F2_131 p1.toInt = z → Steps p.tables e below (s₁.setTop (mkF m 131 #[.val (.int p1)] [])) (s₁.setFrames fs) := by
    intro hz
    show Steps p.tables e below (s₁.setTop (mkF m 131 #[.val (.int p1)] [])) _
    refine XS.iloadN X0.here hx rfl (hb hby own_d2_131) rfl ?_
    show Steps p.tables e below (s₁.setTop (mkF m 132 #[.val (.int p1)] [(.int p1)])) _
    refine XS.sipush X0.here hx rfl (hb hby own_d2_132) ?_
    show Steps p.tables e below (s₁.setTop (mkF m 135 #[.val (.int p1)] [(.int (11263 : Int32)), (.int p1)])) _
    by_cases hc : 11263 < p1.toInt
    · refine XS.icmpYes X0.here hx rfl (pc0 := 135) (pc' := 140) rfl (hb hby own_d2_135) rfl (own_i_gt_t rfl hc) (by decide) (by decide) ?_
      show Steps p.tables e below (s₁.setTop (mkF m 140 #[.val (.int p1)] [])) _
      exact b140 (by rw [own_F2_131, if_pos hc] at hz; exact hz)
    · refine XS.icmpNo X0.here hx rfl (hb hby own_d2_135) rfl (own_i_gt_f rfl hc) ?_
      show Steps p.tables e below (s₁.setTop (mkF m 138 #[.val (.int p1)] [])) _
      exact b138 (by rw [own_F2_131, if_neg hc] at hz; exact hz)
  have b124 : own_F2_124 p1.toInt = z → Steps p.tables e below (s₁.setTop (mkF m 124 #[.val (.int p1)] [])) (s₁.setFrames fs) := by
    intro hz
    show Steps p.tables e below (s₁.setTop (mkF m 124 #[.val (.int p1)] [])) _
    refine XS.iloadN X0.here hx rfl (hb hby own_d2_124) rfl ?_
    show Steps p.tables e below (s₁.setTop (mkF m 125 #[.val (.int p1)] [(.int p1)])) _
    refine XS.sipush X0.here hx rfl (hb hby own_d2_125) ?_
    show Steps p.tables e below (s₁.setTop (mkF m 128 #[.val (.int p1)] [(.int (8592 : Int32)), (.int p1)])) _
    by_cases hc : p1.toInt < 8592
    · refine XS.icmpYes X0.here hx rfl (pc0 := 128) (pc' := 140) rfl (hb hby own_d2_128) rfl (own_i_lt_t rfl hc) (by decide) (by decide) ?_
      show Steps p.tables e below (s₁.setTop (mkF m 140 #[.val (.int p1)] [])) _
      exact b140 (by rw [own_F2_124, if_pos hc] at hz; exact hz)
    · refine XS.icmpNo X0.here hx rfl (hb hby own_d2_128) rfl (own_i_lt_f rfl hc) ?_
      show Steps p.tables e below (s₁.setTop (mkF m 131 #[.val (.int p1)] [])) _
      exact b131 (by rw [own_F2_124, if_neg hc] at hz; exact hz)
  have b122 : own_F2_122 p1.toInt = z → Steps p.tables e below (s₁.setTop (mkF m 122 #[.val (.int p1)] [])) (s₁.setFrames fs) := by
    intro hz
    show Steps p.tables e below (s₁.setTop (mkF m 122 #[.val (.int p1)] [])) _
    refine XS.iconst X0.here hx rfl (hb hby own_d2_122) ?_
    show Steps p.tables e below (s₁.setTop (mkF m 123 #[.val (.int p1)] [(.int (0 : Int32))])) _
    have hz1 : (0 : Int32) = z := hz
    subst hz1
    exact retN X0 hx (t := .boolean) Bd.returns (by simp) (hb hby own_d2_123) hr
  have b115 : own_F2_115 p1.toInt = z → Steps p.tables e below (s₁.setTop (mkF m 115 #[.val (.int p1)] [])) (s₁.setFrames fs) := by
    intro hz
    show Steps p.tables e below (s₁.setTop (mkF m 115 #[.val (.int p1)] [])) _
    refine XS.iloadN X0.here hx rfl (hb hby own_d2_115) rfl ?_
    show Steps p.tables e below (s₁.setTop (mkF m 116 #[.val (.int p1)] [(.int p1)])) _
    refine XS.sipush X0.here hx rfl (hb hby own_d2_116) ?_
    show Steps p.tables e below (s₁.setTop (mkF m 119 #[.val (.int p1)] [(.int (8303 : Int32)), (.int p1)])) _
    by_cases hc : 8303 < p1.toInt
    · refine XS.icmpYes X0.here hx rfl (pc0 := 119) (pc' := 124) rfl (hb hby own_d2_119) rfl (own_i_gt_t rfl hc) (by decide) (by decide) ?_
      show Steps p.tables e below (s₁.setTop (mkF m 124 #[.val (.int p1)] [])) _
      exact b124 (by rw [own_F2_115, if_pos hc] at hz; exact hz)
    · refine XS.icmpNo X0.here hx rfl (hb hby own_d2_119) rfl (own_i_gt_f rfl hc) ?_
      show Steps p.tables e below (s₁.setTop (mkF m 122 #[.val (.int p1)] [])) _
      exact b122 (by rw [own_F2_115, if_neg hc] at hz; exact hz)
  have b108 : own_F2_108 p1.toInt = z → Steps p.tables e below (s₁.setTop (mkF m 108 #[.val (.int p1)] [])) (s₁.setFrames fs) := by
    intro hz
    show Steps p.tables e below (s₁.setTop (mkF m 108 #[.val (.int p1)] [])) _
    refine XS.iloadN X0.here hx rfl (hb hby own_d2_108) rfl ?_
    show Steps p.tables e below (s₁.setTop (mkF m 109 #[.val (.int p1)] [(.int p1)])) _
    refine XS.sipush X0.here hx rfl (hb hby own_d2_109) ?_
    show Steps p.tables e below (s₁.setTop (mkF m 112 #[.val (.int p1)] [(.int (8206 : Int32)), (.int p1)])) _
    by_cases hc : p1.toInt < 8206
    · refine XS.icmpYes X0.here hx rfl (pc0 := 112) (pc' := 124) rfl (hb hby own_d2_112) rfl (own_i_lt_t rfl hc) (by decide) (by decide) ?_
      show Steps p.tables e below (s₁.setTop (mkF m 124 #[.val (.int p1)] [])) _
      exact b124 (by rw [own_F2_108, if_pos hc] at hz; exact hz)
    · refine XS.icmpNo X0.here hx rfl (hb hby own_d2_112) rfl (own_i_lt_f rfl hc) ?_
      show Steps p.tables e below (s₁.setTop (mkF m 115 #[.val (.int p1)] [])) _
      exact b115 (by rw [own_F2_108, if_neg hc] at hz; exact hz)
  have b106 : own_F2_106 p1.toInt = z → Steps p.tables e below (s₁.setTop (mkF m 106 #[.val (.int p1)] [])) (s₁.setFrames fs) := by
    intro hz
    show Steps p.tables e below (s₁.setTop (mkF m 106 #[.val (.int p1)] [])) _
    refine XS.iconst X0.here hx rfl (hb hby own_d2_106) ?_
    show Steps p.tables e below (s₁.setTop (mkF m 107 #[.val (.int p1)] [(.int (0 : Int32))])) _
    have hz1 : (0 : Int32) = z := hz
    subst hz1
    exact retN X0 hx (t := .boolean) Bd.returns (by simp) (hb hby own_d2_107) hr
  have b99 : own_F2_99 p1.toInt = z → Steps p.tables e below (s₁.setTop (mkF m 99 #[.val (.int p1)] [])) (s₁.setFrames fs) := by
    intro hz
    show Steps p.tables e below (s₁.setTop (mkF m 99 #[.val (.int p1)] [])) _
    refine XS.iloadN X0.here hx rfl (hb hby own_d2_99) rfl ?_
    show Steps p.tables e below (s₁.setTop (mkF m 100 #[.val (.int p1)] [(.int p1)])) _
    refine XS.sipush X0.here hx rfl (hb hby own_d2_100) ?_
    show Steps p.tables e below (s₁.setTop (mkF m 103 #[.val (.int p1)] [(.int (8203 : Int32)), (.int p1)])) _
    by_cases hc : 8203 < p1.toInt
    · refine XS.icmpYes X0.here hx rfl (pc0 := 103) (pc' := 108) rfl (hb hby own_d2_103) rfl (own_i_gt_t rfl hc) (by decide) (by decide) ?_
      show Steps p.tables e below (s₁.setTop (mkF m 108 #[.val (.int p1)] [])) _
      exact b108 (by rw [own_F2_99, if_pos hc] at hz; exact hz)
    · refine XS.icmpNo X0.here hx rfl (hb hby own_d2_103) rfl (own_i_gt_f rfl hc) ?_
      show Steps p.tables e below (s₁.setTop (mkF m 106 #[.val (.int p1)] [])) _
      exact b106 (by rw [own_F2_99, if_neg hc] at hz; exact hz)
  have b92 : own_F2_92 p1.toInt = z → Steps p.tables e below (s₁.setTop (mkF m 92 #[.val (.int p1)] [])) (s₁.setFrames fs) := by
    intro hz
    show Steps p.tables e below (s₁.setTop (mkF m 92 #[.val (.int p1)] [])) _
    refine XS.iloadN X0.here hx rfl (hb hby own_d2_92) rfl ?_
    show Steps p.tables e below (s₁.setTop (mkF m 93 #[.val (.int p1)] [(.int p1)])) _
    refine XS.sipush X0.here hx rfl (hb hby own_d2_93) ?_
    show Steps p.tables e below (s₁.setTop (mkF m 96 #[.val (.int p1)] [(.int (8192 : Int32)), (.int p1)])) _
    by_cases hc : p1.toInt < 8192
    · refine XS.icmpYes X0.here hx rfl (pc0 := 96) (pc' := 108) rfl (hb hby own_d2_96) rfl (own_i_lt_t rfl hc) (by decide) (by decide) ?_
      show Steps p.tables e below (s₁.setTop (mkF m 108 #[.val (.int p1)] [])) _
      exact b108 (by rw [own_F2_92, if_pos hc] at hz; exact hz)
    · refine XS.icmpNo X0.here hx rfl (hb hby own_d2_96) rfl (own_i_lt_f rfl hc) ?_
      show Steps p.tables e below (s₁.setTop (mkF m 99 #[.val (.int p1)] [])) _
      exact b99 (by rw [own_F2_92, if_neg hc] at hz; exact hz)
  have b90 : own_F2_90 p1.toInt = z → Steps p.tables e below (s₁.setTop (mkF m 90 #[.val (.int p1)] [])) (s₁.setFrames fs) := by
    intro hz
    show Steps p.tables e below (s₁.setTop (mkF m 90 #[.val (.int p1)] [])) _
    refine XS.iconst X0.here hx rfl (hb hby own_d2_90) ?_
    show Steps p.tables e below (s₁.setTop (mkF m 91 #[.val (.int p1)] [(.int (0 : Int32))])) _
    have hz1 : (0 : Int32) = z := hz
    subst hz1
    exact retN X0 hx (t := .boolean) Bd.returns (by simp) (hb hby own_d2_91) hr
  have b83 : own_F2_83 p1.toInt = z → Steps p.tables e below (s₁.setTop (mkF m 83 #[.val (.int p1)] [])) (s₁.setFrames fs) := by
    intro hz
    show Steps p.tables e below (s₁.setTop (mkF m 83 #[.val (.int p1)] [])) _
    refine XS.iloadN X0.here hx rfl (hb hby own_d2_83) rfl ?_
    show Steps p.tables e below (s₁.setTop (mkF m 84 #[.val (.int p1)] [(.int p1)])) _
    refine XS.sipush X0.here hx rfl (hb hby own_d2_84) ?_
    show Steps p.tables e below (s₁.setTop (mkF m 87 #[.val (.int p1)] [(.int (894 : Int32)), (.int p1)])) _
    by_cases hc : ¬ p1.toInt = 894
    · refine XS.icmpYes X0.here hx rfl (pc0 := 87) (pc' := 92) rfl (hb hby own_d2_87) rfl (own_i_ne_t rfl hc) (by decide) (by decide) ?_
      show Steps p.tables e below (s₁.setTop (mkF m 92 #[.val (.int p1)] [])) _
      exact b92 (by rw [own_F2_83, if_pos hc] at hz; exact hz)
    · refine XS.icmpNo X0.here hx rfl (hb hby own_d2_87) rfl (own_i_ne_f rfl hc) ?_
      show Steps p.tables e below (s₁.setTop (mkF m 90 #[.val (.int p1)] [])) _
      exact b90 (by rw [own_F2_83, if_neg hc] at hz; exact hz)
  have b81 : own_F2_81 p1.toInt = z → Steps p.tables e below (s₁.setTop (mkF m 81 #[.val (.int p1)] [])) (s₁.setFrames fs) := by
    intro hz
    show Steps p.tables e below (s₁.setTop (mkF m 81 #[.val (.int p1)] [])) _
    refine XS.iconst X0.here hx rfl (hb hby own_d2_81) ?_
    show Steps p.tables e below (s₁.setTop (mkF m 82 #[.val (.int p1)] [(.int (0 : Int32))])) _
    have hz1 : (0 : Int32) = z := hz
    subst hz1
    exact retN X0 hx (t := .boolean) Bd.returns (by simp) (hb hby own_d2_82) hr
  have b74 : own_F2_74 p1.toInt = z → Steps p.tables e below (s₁.setTop (mkF m 74 #[.val (.int p1)] [])) (s₁.setFrames fs) := by
    intro hz
    show Steps p.tables e below (s₁.setTop (mkF m 74 #[.val (.int p1)] [])) _
    refine XS.iloadN X0.here hx rfl (hb hby own_d2_74) rfl ?_
    show Steps p.tables e below (s₁.setTop (mkF m 75 #[.val (.int p1)] [(.int p1)])) _
    refine XS.sipush X0.here hx rfl (hb hby own_d2_75) ?_
    show Steps p.tables e below (s₁.setTop (mkF m 78 #[.val (.int p1)] [(.int (879 : Int32)), (.int p1)])) _
    by_cases hc : 879 < p1.toInt
    · refine XS.icmpYes X0.here hx rfl (pc0 := 78) (pc' := 83) rfl (hb hby own_d2_78) rfl (own_i_gt_t rfl hc) (by decide) (by decide) ?_
      show Steps p.tables e below (s₁.setTop (mkF m 83 #[.val (.int p1)] [])) _
      exact b83 (by rw [own_F2_74, if_pos hc] at hz; exact hz)
    · refine XS.icmpNo X0.here hx rfl (hb hby own_d2_78) rfl (own_i_gt_f rfl hc) ?_
      show Steps p.tables e below (s₁.setTop (mkF m 81 #[.val (.int p1)] [])) _
      exact b81 (by rw [own_F2_74, if_neg hc] at hz; exact hz)
  have b67 : own_F2_67 p1.toInt = z → Steps p.tables e below (s₁.setTop (mkF m 67 #[.val (.int p1)] [])) (s₁.setFrames fs) := by
    intro hz
    show Steps p.tables e below (s₁.setTop (mkF m 67 #[.val (.int p1)] [])) _
    refine XS.iloadN X0.here hx rfl (hb hby own_d2_67) rfl ?_
    show Steps p.tables e below (s₁.setTop (mkF m 68 #[.val (.int p1)] [(.int p1)])) _
    refine XS.sipush X0.here hx rfl (hb hby own_d2_68) ?_
    show Steps p.tables e below (s₁.setTop (mkF m 71 #[.val (.int p1)] [(.int (768 : Int32)), (.int p1)])) _
    by_cases hc : p1.toInt < 768
    · refine XS.icmpYes X0.here hx rfl (pc0 := 71) (pc' := 83) rfl (hb hby own_d2_71) rfl (own_i_lt_t rfl hc) (by decide) (by decide) ?_
      show Steps p.tables e below (s₁.setTop (mkF m 83 #[.val (.int p1)] [])) _
      exact b83 (by rw [own_F2_67, if_pos hc] at hz; exact hz)
    · refine XS.icmpNo X0.here hx rfl (hb hby own_d2_71) rfl (own_i_lt_f rfl hc) ?_
      show Steps p.tables e below (s₁.setTop (mkF m 74 #[.val (.int p1)] [])) _
      exact b74 (by rw [own_F2_67, if_neg hc] at hz; exact hz)
  have b65 : own_F2_65 p1.toInt = z → Steps p.tables e below (s₁.setTop (mkF m 65 #[.val (.int p1)] [])) (s₁.setFrames fs) := by
    intro hz
    show Steps p.tables e below (s₁.setTop (mkF m 65 #[.val (.int p1)] [])) _
    refine XS.iconst X0.here hx rfl (hb hby own_d2_65) ?_
    show Steps p.tables e below (s₁.setTop (mkF m 66 #[.val (.int p1)] [(.int (0 : Int32))])) _
    have hz1 : (0 : Int32) = z := hz
    subst hz1
    exact retN X0 hx (t := .boolean) Bd.returns (by simp) (hb hby own_d2_66) hr
  have b58 : own_F2_58 p1.toInt = z → Steps p.tables e below (s₁.setTop (mkF m 58 #[.val (.int p1)] [])) (s₁.setFrames fs) := by
    intro hz
    show Steps p.tables e below (s₁.setTop (mkF m 58 #[.val (.int p1)] [])) _
    refine XS.iloadN X0.here hx rfl (hb hby own_d2_58) rfl ?_
    show Steps p.tables e below (s₁.setTop (mkF m 59 #[.val (.int p1)] [(.int p1)])) _
    refine XS.sipush X0.here hx rfl (hb hby own_d2_59) ?_
    show Steps p.tables e below (s₁.setTop (mkF m 62 #[.val (.int p1)] [(.int (247 : Int32)), (.int p1)])) _
    by_cases hc : ¬ p1.toInt = 247
    · refine XS.icmpYes X0.here hx rfl (pc0 := 62) (pc' := 67) rfl (hb hby own_d2_62) rfl (own_i_ne_t rfl hc) (by decide) (by decide) ?_
      show Steps p.tables e below (s₁.setTop (mkF m 67 #[.val (.int p1)] [])) _
      exact b67 (by rw [own_F2_58, if_pos hc] at hz; exact hz)
    · refine XS.icmpNo X0.here hx rfl (hb hby own_d2_62) rfl (own_i_ne_f rfl hc) ?_
      show Steps p.tables e below (s₁.setTop (mkF m 65 #[.val (.int p1)] [])) _
      exact b65 (by rw [own_F2_58, if_neg hc] at hz; exact hz)
  have b51 : own_F2_51 p1.toInt = z → Steps p.tables e below (s₁.setTop (mkF m 51 #[.val (.int p1)] [])) (s₁.setFrames fs) := by
    intro hz
    show Steps p.tables e below (s₁.setTop (mkF m 51 #[.val (.int p1)] [])) _
    refine XS.iloadN X0.here hx rfl (hb hby own_d2_51) rfl ?_
    show Steps p.tables e below (s₁.setTop (mkF m 52 #[.val (.int p1)] [(.int p1)])) _
    refine XS.sipush X0.here hx rfl (hb hby own_d2_52) ?_
    show Steps p.tables e below (s₁.setTop (mkF m 55 #[.val (.int p1)] [(.int (215 : Int32)), (.int p1)])) _
    by_cases hc : p1.toInt = 215
    · refine XS.icmpYes X0.here hx rfl (pc0 := 55) (pc' := 65) rfl (hb hby own_d2_55) rfl (own_i_eq_t rfl hc) (by decide) (by decide) ?_
      show Steps p.tables e below (s₁.setTop (mkF m 65 #[.val (.int p1)] [])) _
      exact b65 (by rw [own_F2_51, if_pos hc] at hz; exact hz)
    · refine XS.icmpNo X0.here hx rfl (hb hby own_d2_55) rfl (own_i_eq_f rfl hc) ?_
      show Steps p.tables e below (s₁.setTop (mkF m 58 #[.val (.int p1)] [])) _
      exact b58 (by rw [own_F2_51, if_neg hc] at hz; exact hz)
  have b49 : own_F2_49 p1.toInt = z → Steps p.tables e below (s₁.setTop (mkF m 49 #[.val (.int p1)] [])) (s₁.setFrames fs) := by
    intro hz
    show Steps p.tables e below (s₁.setTop (mkF m 49 #[.val (.int p1)] [])) _
    refine XS.iconst X0.here hx rfl (hb hby own_d2_49) ?_
    show Steps p.tables e below (s₁.setTop (mkF m 50 #[.val (.int p1)] [(.int (0 : Int32))])) _
    have hz1 : (0 : Int32) = z := hz
    subst hz1
    exact retN X0 hx (t := .boolean) Bd.returns (by simp) (hb hby own_d2_50) hr
  have b42 : own_F2_42 p1.toInt = z → Steps p.tables e below (s₁.setTop (mkF m 42 #[.val (.int p1)] [])) (s₁.setFrames fs) := by
    intro hz
    show Steps p.tables e below (s₁.setTop (mkF m 42 #[.val (.int p1)] [])) _
    refine XS.iloadN X0.here hx rfl (hb hby own_d2_42) rfl ?_
    show Steps p.tables e below (s₁.setTop (mkF m 43 #[.val (.int p1)] [(.int p1)])) _
    refine XS.sipush X0.here hx rfl (hb hby own_d2_43) ?_
    show Steps p.tables e below (s₁.setTop (mkF m 46 #[.val (.int p1)] [(.int (191 : Int32)), (.int p1)])) _
    by_cases hc : 191 < p1.toInt
    · refine XS.icmpYes X0.here hx rfl (pc0 := 46) (pc' := 51) rfl (hb hby own_d2_46) rfl (own_i_gt_t rfl hc) (by decide) (by decide) ?_
      show Steps p.tables e below (s₁.setTop (mkF m 51 #[.val (.int p1)] [])) _
      exact b51 (by rw [own_F2_42, if_pos hc] at hz; exact hz)
    · refine XS.icmpNo X0.here hx rfl (hb hby own_d2_46) rfl (own_i_gt_f rfl hc) ?_
      show Steps p.tables e below (s₁.setTop (mkF m 49 #[.val (.int p1)] [])) _
      exact b49 (by rw [own_F2_42, if_neg hc] at hz; exact hz)
  have b36 : own_F2_36 p1.toInt = z → Steps p.tables e below (s₁.setTop (mkF m 36 #[.val (.int p1)] [])) (s₁.setFrames fs) := by
    intro hz
    show Steps p.tables e below (s₁.setTop (mkF m 36 #[.val (.int p1)] [])) _
    refine XS.iloadN X0.here hx rfl (hb hby own_d2_36) rfl ?_
    show Steps p.tables e below (s₁.setTop (mkF m 37 #[.val (.int p1)] [(.int p1)])) _
    refine XS.bipush X0.here hx rfl (hb hby own_d2_37) ?_
    show Steps p.tables e below (s₁.setTop (mkF m 39 #[.val (.int p1)] [(.int (123 : Int32)), (.int p1)])) _
    by_cases hc : p1.toInt < 123
    · refine XS.icmpYes X0.here hx rfl (pc0 := 39) (pc' := 51) rfl (hb hby own_d2_39) rfl (own_i_lt_t rfl hc) (by decide) (by decide) ?_
      show Steps p.tables e below (s₁.setTop (mkF m 51 #[.val (.int p1)] [])) _
      exact b51 (by rw [own_F2_36, if_pos hc] at hz; exact hz)
    · refine XS.icmpNo X0.here hx rfl (hb hby own_d2_39) rfl (own_i_lt_f rfl hc) ?_
      show Steps p.tables e below (s₁.setTop (mkF m 42 #[.val (.int p1)] [])) _
      exact b42 (by rw [own_F2_36, if_neg hc] at hz; exact hz)
  have b34 : own_F2_34 p1.toInt = z → Steps p.tables e below (s₁.setTop (mkF m 34 #[.val (.int p1)] [])) (s₁.setFrames fs) := by
    intro hz
    show Steps p.tables e below (s₁.setTop (mkF m 34 #[.val (.int p1)] [])) _
    refine XS.iconst X0.here hx rfl (hb hby own_d2_34) ?_
    show Steps p.tables e below (s₁.setTop (mkF m 35 #[.val (.int p1)] [(.int (0 : Int32))])) _
    have hz1 : (0 : Int32) = z := hz
    subst hz1
    exact retN X0 hx (t := .boolean) Bd.returns (by simp) (hb hby own_d2_35) hr
  have b28 : own_F2_28 p1.toInt = z → Steps p.tables e below (s₁.setTop (mkF m 28 #[.val (.int p1)] [])) (s₁.setFrames fs) := by
    intro hz
    show Steps p.tables e below (s₁.setTop (mkF m 28 #[.val (.int p1)] [])) _
    refine XS.iloadN X0.here hx rfl (hb hby own_d2_28) rfl ?_
    show Steps p.tables e below (s₁.setTop (mkF m 29 #[.val (.int p1)] [(.int p1)])) _
    refine XS.bipush X0.here hx rfl (hb hby own_d2_29) ?_
    show Steps p.tables e below (s₁.setTop (mkF m 31 #[.val (.int p1)] [(.int (96 : Int32)), (.int p1)])) _
    by_cases hc : ¬ p1.toInt = 96
    · refine XS.icmpYes X0.here hx rfl (pc0 := 31) (pc' := 36) rfl (hb hby own_d2_31) rfl (own_i_ne_t rfl hc) (by decide) (by decide) ?_
      show Steps p.tables e below (s₁.setTop (mkF m 36 #[.val (.int p1)] [])) _
      exact b36 (by rw [own_F2_28, if_pos hc] at hz; exact hz)
    · refine XS.icmpNo X0.here hx rfl (hb hby own_d2_31) rfl (own_i_ne_f rfl hc) ?_
      show Steps p.tables e below (s₁.setTop (mkF m 34 #[.val (.int p1)] [])) _
      exact b34 (by rw [own_F2_28, if_neg hc] at hz; exact hz)
  have b26 : own_F2_26 p1.toInt = z → Steps p.tables e below (s₁.setTop (mkF m 26 #[.val (.int p1)] [])) (s₁.setFrames fs) := by
    intro hz
    show Steps p.tables e below (s₁.setTop (mkF m 26 #[.val (.int p1)] [])) _
    refine XS.iconst X0.here hx rfl (hb hby own_d2_26) ?_
    show Steps p.tables e below (s₁.setTop (mkF m 27 #[.val (.int p1)] [(.int (0 : Int32))])) _
    have hz1 : (0 : Int32) = z := hz
    subst hz1
    exact retN X0 hx (t := .boolean) Bd.returns (by simp) (hb hby own_d2_27) hr
  have b20 : own_F2_20 p1.toInt = z → Steps p.tables e below (s₁.setTop (mkF m 20 #[.val (.int p1)] [])) (s₁.setFrames fs) := by
    intro hz
    show Steps p.tables e below (s₁.setTop (mkF m 20 #[.val (.int p1)] [])) _
    refine XS.iloadN X0.here hx rfl (hb hby own_d2_20) rfl ?_
    show Steps p.tables e below (s₁.setTop (mkF m 21 #[.val (.int p1)] [(.int p1)])) _
    refine XS.bipush X0.here hx rfl (hb hby own_d2_21) ?_
    show Steps p.tables e below (s₁.setTop (mkF m 23 #[.val (.int p1)] [(.int (94 : Int32)), (.int p1)])) _
    by_cases hc : 94 < p1.toInt
    · refine XS.icmpYes X0.here hx rfl (pc0 := 23) (pc' := 28) rfl (hb hby own_d2_23) rfl (own_i_gt_t rfl hc) (by decide) (by decide) ?_
      show Steps p.tables e below (s₁.setTop (mkF m 28 #[.val (.int p1)] [])) _
      exact b28 (by rw [own_F2_20, if_pos hc] at hz; exact hz)
    · refine XS.icmpNo X0.here hx rfl (hb hby own_d2_23) rfl (own_i_gt_f rfl hc) ?_
      show Steps p.tables e below (s₁.setTop (mkF m 26 #[.val (.int p1)] [])) _
      exact b26 (by rw [own_F2_20, if_neg hc] at hz; exact hz)
  have b14 : own_F2_14 p1.toInt = z → Steps p.tables e below (s₁.setTop (mkF m 14 #[.val (.int p1)] [])) (s₁.setFrames fs) := by
    intro hz
    show Steps p.tables e below (s₁.setTop (mkF m 14 #[.val (.int p1)] [])) _
    refine XS.iloadN X0.here hx rfl (hb hby own_d2_14) rfl ?_
    show Steps p.tables e below (s₁.setTop (mkF m 15 #[.val (.int p1)] [(.int p1)])) _
    refine XS.bipush X0.here hx rfl (hb hby own_d2_15) ?_
    show Steps p.tables e below (s₁.setTop (mkF m 17 #[.val (.int p1)] [(.int (91 : Int32)), (.int p1)])) _
    by_cases hc : p1.toInt < 91
    · refine XS.icmpYes X0.here hx rfl (pc0 := 17) (pc' := 28) rfl (hb hby own_d2_17) rfl (own_i_lt_t rfl hc) (by decide) (by decide) ?_
      show Steps p.tables e below (s₁.setTop (mkF m 28 #[.val (.int p1)] [])) _
      exact b28 (by rw [own_F2_14, if_pos hc] at hz; exact hz)
    · refine XS.icmpNo X0.here hx rfl (hb hby own_d2_17) rfl (own_i_lt_f rfl hc) ?_
      show Steps p.tables e below (s₁.setTop (mkF m 20 #[.val (.int p1)] [])) _
      exact b20 (by rw [own_F2_14, if_neg hc] at hz; exact hz)
  have b12 : own_F2_12 p1.toInt = z → Steps p.tables e below (s₁.setTop (mkF m 12 #[.val (.int p1)] [])) (s₁.setFrames fs) := by
    intro hz
    show Steps p.tables e below (s₁.setTop (mkF m 12 #[.val (.int p1)] [])) _
    refine XS.iconst X0.here hx rfl (hb hby own_d2_12) ?_
    show Steps p.tables e below (s₁.setTop (mkF m 13 #[.val (.int p1)] [(.int (0 : Int32))])) _
    have hz1 : (0 : Int32) = z := hz
    subst hz1
    exact retN X0 hx (t := .boolean) Bd.returns (by simp) (hb hby own_d2_13) hr
  have b6 : own_F2_6 p1.toInt = z → Steps p.tables e below (s₁.setTop (mkF m 6 #[.val (.int p1)] [])) (s₁.setFrames fs) := by
    intro hz
    show Steps p.tables e below (s₁.setTop (mkF m 6 #[.val (.int p1)] [])) _
    refine XS.iloadN X0.here hx rfl (hb hby own_d2_6) rfl ?_
    show Steps p.tables e below (s₁.setTop (mkF m 7 #[.val (.int p1)] [(.int p1)])) _
    refine X0.ldcI hx hown (mvT hZ (hw _ (List.mem_of_getElem? (i := 7) rfl))) rfl (hb hby own_d2_7) ?_
    show Steps p.tables e below (s₁.setTop (mkF m 9 #[.val (.int p1)] [(.int (983039 : Int32)), (.int p1)])) _
    by_cases hc : p1.toInt ≤ 983039
    · refine XS.icmpYes X0.here hx rfl (pc0 := 9) (pc' := 14) rfl (hb hby own_d2_9) rfl (own_i_le_t rfl hc) (by decide) (by decide) ?_
      show Steps p.tables e below (s₁.setTop (mkF m 14 #[.val (.int p1)] [])) _
      exact b14 (by rw [own_F2_6, if_pos hc] at hz; exact hz)
    · refine XS.icmpNo X0.here hx rfl (hb hby own_d2_9) rfl (own_i_le_f rfl hc) ?_
      show Steps p.tables e below (s₁.setTop (mkF m 12 #[.val (.int p1)] [])) _
      exact b12 (by rw [own_F2_6, if_neg hc] at hz; exact hz)
  have b0 : own_F2_0 p1.toInt = z → Steps p.tables e below (s₁.setTop (mkF m 0 #[.val (.int p1)] [])) (s₁.setFrames fs) := by
    intro hz
    show Steps p.tables e below (s₁.setTop (mkF m 0 #[.val (.int p1)] [])) _
    refine XS.iloadN X0.here hx rfl (hb hby own_d2_0) rfl ?_
    show Steps p.tables e below (s₁.setTop (mkF m 1 #[.val (.int p1)] [(.int p1)])) _
    refine XS.bipush X0.here hx rfl (hb hby own_d2_1) ?_
    show Steps p.tables e below (s₁.setTop (mkF m 3 #[.val (.int p1)] [(.int (65 : Int32)), (.int p1)])) _
    by_cases hc : p1.toInt < 65
    · refine XS.icmpYes X0.here hx rfl (pc0 := 3) (pc' := 12) rfl (hb hby own_d2_3) rfl (own_i_lt_t rfl hc) (by decide) (by decide) ?_
      show Steps p.tables e below (s₁.setTop (mkF m 12 #[.val (.int p1)] [])) _
      exact b12 (by rw [own_F2_0, if_pos hc] at hz; exact hz)
    · refine XS.icmpNo X0.here hx rfl (hb hby own_d2_3) rfl (own_i_lt_f rfl hc) ?_
      show Steps p.tables e below (s₁.setTop (mkF m 6 #[.val (.int p1)] [])) _
      exact b6 (by rw [own_F2_0, if_neg hc] at hz; exact hz)
  refine ⟨_, _, pre0 _ (b0 hz0), hrun, hended, _, _, rfl, ?_, ⟨_, rfl⟩, hW, hsame.mono (by decide) (by decide)⟩
  show own_Q (own_F2_0 p1.toInt) h0 n0 _ s₁.heap _
  exact ⟨by rw [hz0], Fr.nil n0, e0⟩
theorem own_p0 (x : Int) (h2 : x < 65) : own_F1_0 x = 0 ∧ own_F2_0 x = 0 := by
  constructor
  · rw [own_F1_0, if_pos (by omega), own_F1_12, if_pos (by omega), own_F1_24, if_neg (by omega), own_F1_30, if_pos (by omega), own_F1_44, if_pos (by omega), own_F1_58, if_pos (by omega), own_F1_72, if_pos (by omega), own_F1_86, if_pos (by omega), own_F1_100, if_pos (by omega), own_F1_114, if_pos (by omega), own_F1_128, if_pos (by omega), own_F1_142, if_pos (by omega), own_F1_155, if_pos (by omega), own_F1_167, if_pos (by omega), own_F1_179, if_pos (by omega), own_F1_195]
  · rw [own_F2_0, if_pos (by omega), own_F2_12]
theorem own_p1 (x : Int) (h1 : 65 ≤ x) (h2 : x < 91) : own_F1_0 x = 1 ∧ own_F2_0 x = 1 := by
  constructor
  · rw [own_F1_0, if_pos (by omega), own_F1_12, if_neg (by omega), own_F1_18, if_pos (by omega), own_F1_191]
  · rw [own_F2_0, if_neg (by omega), own_F2_6, if_pos (by omega), own_F2_14, if_pos (by omega), own_F2_28, if_pos (by omega), own_F2_36, if_pos (by omega), own_F2_51, if_neg (by omega), own_F2_58, if_pos (by omega), own_F2_67, if_pos (by omega), own_F2_83, if_pos (by omega), own_F2_92, if_pos (by omega), own_F2_108, if_pos (by omega), own_F2_124, if_pos (by omega), own_F2_140, if_pos (by omega), own_F2_156, if_pos (by omega), own_F2_170, if_pos (by omega), own_F2_184, if_pos (by omega), own_F2_198]
theorem own_p2 (x : Int) (h1 : 91 ≤ x) (h2 : x < 95) : own_F1_0 x = 0 ∧ own_F2_0 x = 0 := by
  constructor
  · rw [own_F1_0, if_pos (by omega), own_F1_12, if_neg (by omega), own_F1_18, if_neg (by omega), own_F1_24, if_neg (by omega), own_F1_30, if_pos (by omega), own_F1_44, if_pos (by omega), own_F1_58, if_pos (by omega), own_F1_72, if_pos (by omega), own_F1_86, if_pos (by omega), own_F1_100, if_pos (by omega), own_F1_114, if_pos (by omega), own_F1_128, if_pos (by omega), own_F1_142, if_pos (by omega), own_F1_155, if_pos (by omega), own_F1_167, if_pos (by omega), own_F1_179, if_pos (by omega), own_F1_195]
  · rw [own_F2_0, if_neg (by omega), own_F2_6, if_pos (by omega), own_F2_14, if_neg (by omega), own_F2_20, if_neg (by omega), own_F2_26]
theorem own_p3 (x : Int) (h1 : 95 ≤ x) (h2 : x < 96) : own_F1_0 x = 1 ∧ own_F2_0 x = 1 := by
  constructor
  · rw [own_F1_0, if_pos (by omega), own_F1_12, if_neg (by omega), own_F1_18, if_neg (by omega), own_F1_24, if_pos (by omega), own_F1_191]
  · rw [own_F2_0, if_neg (by omega), own_F2_6, if_pos (by omega), own_F2_14, if_neg (by omega), own_F2_20, if_pos (by omega), own_F2_28, if_pos (by omega), own_F2_36, if_pos (by omega), own_F2_51, if_neg (by omega), own_F2_58, if_pos (by omega), own_F2_67, if_pos (by omega), own_F2_83, if_pos (by omega), own_F2_92, if_pos (by omega), own_F2_108, if_pos (by omega), own_F2_124, if_pos (by omega), own_F2_140, if_pos (by omega), own_F2_156, if_pos (by omega), own_F2_170, if_pos (by omega), own_F2_184, if_pos (by omega), own_F2_198]
theorem own_p4 (x : Int) (h1 : 96 ≤ x) (h2 : x < 97) : own_F1_0 x = 0 ∧ own_F2_0 x = 0 := by
  constructor
  · rw [own_F1_0, if_pos (by omega), own_F1_12, if_neg (by omega), own_F1_18, if_neg (by omega), own_F1_24, if_neg (by omega), own_F1_30, if_pos (by omega), own_F1_44, if_pos (by omega), own_F1_58, if_pos (by omega), own_F1_72, if_pos (by omega), own_F1_86, if_pos (by omega), own_F1_100, if_pos (by omega), own_F1_114, if_pos (by omega), own_F1_128, if_pos (by omega), own_F1_142, if_pos (by omega), own_F1_155, if_pos (by omega), own_F1_167, if_pos (by omega), own_F1_179, if_pos (by omega), own_F1_195]
  · rw [own_F2_0, if_neg (by omega), own_F2_6, if_pos (by omega), own_F2_14, if_neg (by omega), own_F2_20, if_pos (by omega), own_F2_28, if_neg (by omega), own_F2_34]
theorem own_p5 (x : Int) (h1 : 97 ≤ x) (h2 : x < 123) : own_F1_0 x = 1 ∧ own_F2_0 x = 1 := by
  constructor
  · rw [own_F1_0, if_neg (by omega), own_F1_6, if_pos (by omega), own_F1_191]
  · rw [own_F2_0, if_neg (by omega), own_F2_6, if_pos (by omega), own_F2_14, if_neg (by omega), own_F2_20, if_pos (by omega), own_F2_28, if_pos (by omega), own_F2_36, if_pos (by omega), own_F2_51, if_neg (by omega), own_F2_58, if_pos (by omega), own_F2_67, if_pos (by omega), own_F2_83, if_pos (by omega), own_F2_92, if_pos (by omega), own_F2_108, if_pos (by omega), own_F2_124, if_pos (by omega), own_F2_140, if_pos (by omega), own_F2_156, if_pos (by omega), own_F2_170, if_pos (by omega), own_F2_184, if_pos (by omega), own_F2_198]
theorem own_p6 (x : Int) (h1 : 123 ≤ x) (h2 : x < 192) : own_F1_0 x = 0 ∧ own_F2_0 x = 0 := by
  constructor
  · rw [own_F1_0, if_neg (by omega), own_F1_6, if_neg (by omega), own_F1_12, if_neg (by omega), own_F1_18, if_neg (by omega), own_F1_24, if_neg (by omega), own_F1_30, if_pos (by omega), own_F1_44, if_pos (by omega), own_F1_58, if_pos (by omega), own_F1_72, if_pos (by omega), own_F1_86, if_pos (by omega), own_F1_100, if_pos (by omega), own_F1_114, if_pos (by omega), own_F1_128, if_pos (by omega), own_F1_142, if_pos (by omega), own_F1_155, if_pos (by omega), own_F1_167, if_pos (by omega), own_F1_179, if_pos (by omega), own_F1_195]
  · rw [own_F2_0, if_neg (by omega), own_F2_6, if_pos (by omega), own_F2_14, if_neg (by omega), own_F2_20, if_pos (by omega), own_F2_28, if_pos (by omega), own_F2_36, if_neg (by omega), own_F2_42, if_neg (by omega), own_F2_49]
theorem own_p7 (x : Int) (h1 : 192 ≤ x) (h2 : x < 215) : own_F1_0 x = 1 ∧ own_F2_0 x = 1 := by
  constructor
  · rw [own_F1_0, if_neg (by omega), own_F1_6, if_neg (by omega), own_F1_12, if_neg (by omega), own_F1_18, if_neg (by omega), own_F1_24, if_neg (by omega), own_F1_30, if_neg (by omega), own_F1_37, if_pos (by omega), own_F1_191]
  · rw [own_F2_0, if_neg (by omega), own_F2_6, if_pos (by omega), own_F2_14, if_neg (by omega), own_F2_20, if_pos (by omega), own_F2_28, if_pos (by omega), own_F2_36, if_neg (by omega), own_F2_42, if_pos (by omega), own_F2_51, if_neg (by omega), own_F2_58, if_pos (by omega), own_F2_67, if_pos (by omega), own_F2_83, if_pos (by omega), own_F2_92, if_pos (by omega), own_F2_108, if_pos (by omega), own_F2_124, if_pos (by omega), own_F2_140, if_pos (by omega), own_F2_156, if_pos (by omega), own_F2_170, if_pos (by omega), own_F2_184, if_pos (by omega), own_F2_198]
theorem own_p8 (x : Int) (h1 : 215 ≤ x) (h2 : x < 216) : own_F1_0 x = 0 ∧ own_F2_0 x = 0 := by
  constructor
  · rw [own_F1_0, if_neg (by omega), own_F1_6, if_neg (by omega), own_F1_12, if_neg (by omega), own_F1_18, if_neg (by omega), own_F1_24, if_neg (by omega), own_F1_30, if_neg (by omega), own_F1_37, if_neg (by omega), own_F1_44, if_pos (by omega), own_F1_58, if_pos (by omega), own_F1_72, if_pos (by omega), own_F1_86, if_pos (by omega), own_F1_100, if_pos (by omega), own_F1_114, if_pos (by omega), own_F1_128, if_pos (by omega), own_F1_142, if_pos (by omega), own_F1_155, if_pos (by omega), own_F1_167, if_pos (by omega), own_F1_179, if_pos (by omega), own_F1_195]
  · rw [own_F2_0, if_neg (by omega), own_F2_6, if_pos (by omega), own_F2_14, if_neg (by omega), own_F2_20, if_pos (by omega), own_F2_28, if_pos (by omega), own_F2_36, if_neg (by omega), own_F2_42, if_pos (by omega), own_F2_51, if_pos (by omega), own_F2_65]
theorem own_p9 (x : Int) (h1 : 216 ≤ x) (h2 : x < 247) : own_F1_0 x = 1 ∧ own_F2_0 x = 1 := by
  constructor
  · rw [own_F1_0, if_neg (by omega), own_F1_6, if_neg (by omega), own_F1_12, if_neg (by omega), own_F1_18, if_neg (by omega), own_F1_24, if_neg (by omega), own_F1_30, if_neg (by omega), own_F1_37, if_neg (by omega), own_F1_44, if_neg (by omega), own_F1_51, if_pos (by omega), own_F1_191]
  · rw [own_F2_0, if_neg (by omega), own_F2_6, if_pos (by omega), own_F2_14, if_neg (by omega), own_F2_20, if_pos (by omega), own_F2_28, if_pos (by omega), own_F2_36, if_neg (by omega), own_F2_42, if_pos (by omega), own_F2_51, if_neg (by omega), own_F2_58, if_pos (by omega), own_F2_67, if_pos (by omega), own_F2_83, if_pos (by omega), own_F2_92, if_pos (by omega), own_F2_108, if_pos (by omega), own_F2_124, if_pos (by omega), own_F2_140, if_pos (by omega), own_F2_156, if_pos (by omega), own_F2_170, if_pos (by omega), own_F2_184, if_pos (by omega), own_F2_198]
theorem own_p10 (x : Int) (h1 : 247 ≤ x) (h2 : x < 248) : own_F1_0 x = 0 ∧ own_F2_0 x = 0 := by
  constructor
  · rw [own_F1_0, if_neg (by omega), own_F1_6, if_neg (by omega), own_F1_12, if_neg (by omega), own_F1_18, if_neg (by omega), own_F1_24, if_neg (by omega), own_F1_30, if_neg (by omega), own_F1_37, if_neg (by omega), own_F1_44, if_neg (by omega), own_F1_51, if_neg (by omega), own_F1_58, if_pos (by omega), own_F1_72, if_pos (by omega), own_F1_86, if_pos (by omega), own_F1_100, if_pos (by omega), own_F1_114, if_pos (by omega), own_F1_128, if_pos (by omega), own_F1_142, if_pos (by omega), own_F1_155, if_pos (by omega), own_F1_167, if_pos (by omega), own_F1_179, if_pos (by omega), own_F1_195]
  · rw [own_F2_0, if_neg (by omega), own_F2_6, if_pos (by omega), own_F2_14, if_neg (by omega), own_F2_20, if_pos (by omega), own_F2_28, if_pos (by omega), own_F2_36, if_neg (by omega), own_F2_42, if_pos (by omega), own_F2_51, if_neg (by omega), own_F2_58, if_neg (by omega), own_F2_65]
theorem own_p11 (x : Int) (h1 : 248 ≤ x) (h2 : x < 768) : own_F1_0 x = 1 ∧ own_F2_0 x = 1 := by
  constructor
  · rw [own_F1_0, if_neg (by omega), own_F1_6, if_neg (by omega), own_F1_12, if_neg (by omega), own_F1_18, if_neg (by omega), own_F1_24, if_neg (by omega), own_F1_30, if_neg (by omega), own_F1_37, if_neg (by omega), own_F1_44, if_neg (by omega), own_F1_51, if_neg (by omega), own_F1_58, if_neg (by omega), own_F1_65, if_pos (by omega), own_F1_191]
  · rw [own_F2_0, if_neg (by omega), own_F2_6, if_pos (by omega), own_F2_14, if_neg (by omega), own_F2_20, if_pos (by omega), own_F2_28, if_pos (by omega), own_F2_36, if_neg (by omega), own_F2_42, if_pos (by omega), own_F2_51, if_neg (by omega), own_F2_58, if_pos (by omega), own_F2_67, if_pos (by omega), own_F2_83, if_pos (by omega), own_F2_92, if_pos (by omega), own_F2_108, if_pos (by omega), own_F2_124, if_pos (by omega), own_F2_140, if_pos (by omega), own_F2_156, if_pos (by omega), own_F2_170, if_pos (by omega), own_F2_184, if_pos (by omega), own_F2_198]
theorem own_p12 (x : Int) (h1 : 768 ≤ x) (h2 : x < 880) : own_F1_0 x = 0 ∧ own_F2_0 x = 0 := by
  constructor
  · rw [own_F1_0, if_neg (by omega), own_F1_6, if_neg (by omega), own_F1_12, if_neg (by omega), own_F1_18, if_neg (by omega), own_F1_24, if_neg (by omega), own_F1_30, if_neg (by omega), own_F1_37, if_neg (by omega), own_F1_44, if_neg (by omega), own_F1_51, if_neg (by omega), own_F1_58, if_neg (by omega), own_F1_65, if_neg (by omega), own_F1_72, if_pos (by omega), own_F1_86, if_pos (by omega), own_F1_100, if_pos (by omega), own_F1_114, if_pos (by omega), own_F1_128, if_pos (by omega), own_F1_142, if_pos (by omega), own_F1_155, if_pos (by omega), own_F1_167, if_pos (by omega), own_F1_179, if_pos (by omega), own_F1_195]
  · rw [own_F2_0, if_neg (by omega), own_F2_6, if_pos (by omega), own_F2_14, if_neg (by omega), own_F2_20, if_pos (by omega), own_F2_28, if_pos (by omega), own_F2_36, if_neg (by omega), own_F2_42, if_pos (by omega), own_F2_51, if_neg (by omega), own_F2_58, if_pos (by omega), own_F2_67, if_neg (by omega), own_F2_74, if_neg (by omega), own_F2_81]
theorem own_p13 (x : Int) (h1 : 880 ≤ x) (h2 : x < 894) : own_F1_0 x = 1 ∧ own_F2_0 x = 1 := by
  constructor
  · rw [own_F1_0, if_neg (by omega), own_F1_6, if_neg (by omega), own_F1_12, if_neg (by omega), own_F1_18, if_neg (by omega), own_F1_24, if_neg (by omega), own_F1_30, if_neg (by omega), own_F1_37, if_neg (by omega), own_F1_44, if_neg (by omega), own_F1_51, if_neg (by omega), own_F1_58, if_neg (by omega), own_F1_65, if_neg (by omega), own_F1_72, if_neg (by omega), own_F1_79, if_pos (by omega), own_F1_191]
  · rw [own_F2_0, if_neg (by omega), own_F2_6, if_pos (by omega), own_F2_14, if_neg (by omega), own_F2_20, if_pos (by omega), own_F2_28, if_pos (by omega), own_F2_36, if_neg (by omega), own_F2_42, if_pos (by omega), own_F2_51, if_neg (by omega), own_F2_58, if_pos (by omega), own_F2_67, if_neg (by omega), own_F2_74, if_pos (by omega), own_F2_83, if_pos (by omega), own_F2_92, if_pos (by omega), own_F2_108, if_pos (by omega), own_F2_124, if_pos (by omega), own_F2_140, if_pos (by omega), own_F2_156, if_pos (by omega), own_F2_170, if_pos (by omega), own_F2_184, if_pos (by omega), own_F2_198]
theorem own_p14 (x : Int) (h1 : 894 ≤ x) (h2 : x < 895) : own_F1_0 x = 0 ∧ own_F2_0 x = 0 := by
  constructor
  · rw [own_F1_0, if_neg (by omega), own_F1_6, if_neg (by omega), own_F1_12, if_neg (by omega), own_F1_18, if_neg (by omega), own_F1_24, if_neg (by omega), own_F1_30, if_neg (by omega), own_F1_37, if_neg (by omega), own_F1_44, if_neg (by omega), own_F1_51, if_neg (by omega), own_F1_58, if_neg (by omega), own_F1_65, if_neg (by omega), own_F1_72, if_neg (by omega), own_F1_79, if_neg (by omega), own_F1_86, if_pos (by omega), own_F1_100, if_pos (by omega), own_F1_114, if_pos (by omega), own_F1_128, if_pos (by omega), own_F1_142, if_pos (by omega), own_F1_155, if_pos (by omega), own_F1_167, if_pos (by omega), own_F1_179, if_pos (by omega), own_F1_195]
  · rw [own_F2_0, if_neg (by omega), own_F2_6, if_pos (by omega), own_F2_14, if_neg (by omega), own_F2_20, if_pos (by omega), own_F2_28, if_pos (by omega), own_F2_36, if_neg (by omega), own_F2_42, if_pos (by omega), own_F2_51, if_neg (by omega), own_F2_58, if_pos (by omega), own_F2_67, if_neg (by omega), own_F2_74, if_pos (by omega), own_F2_83, if_neg (by omega), own_F2_90]
theorem own_p15 (x : Int) (h1 : 895 ≤ x) (h2 : x < 8192) : own_F1_0 x = 1 ∧ own_F2_0 x = 1 := by
  constructor
  · rw [own_F1_0, if_neg (by omega), own_F1_6, if_neg (by omega), own_F1_12, if_neg (by omega), own_F1_18, if_neg (by omega), own_F1_24, if_neg (by omega), own_F1_30, if_neg (by omega), own_F1_37, if_neg (by omega), own_F1_44, if_neg (by omega), own_F1_51, if_neg (by omega), own_F1_58, if_neg (by omega), own_F1_65, if_neg (by omega), own_F1_72, if_neg (by omega), own_F1_79, if_neg (by omega), own_F1_86, if_neg (by omega), own_F1_93, if_pos (by omega), own_F1_191]
  · rw [own_F2_0, if_neg (by omega), own_F2_6, if_pos (by omega), own_F2_14, if_neg (by omega), own_F2_20, if_pos (by omega), own_F2_28, if_pos (by omega), own_F2_36, if_neg (by omega), own_F2_42, if_pos (by omega), own_F2_51, if_neg (by omega), own_F2_58, if_pos (by omega), own_F2_67, if_neg (by omega), own_F2_74, if_pos (by omega), own_F2_83, if_pos (by omega), own_F2_92, if_pos (by omega), own_F2_108, if_pos (by omega), own_F2_124, if_pos (by omega), own_F2_140, if_pos (by omega), own_F2_156, if_pos (by omega), own_F2_170, if_pos (by omega), own_F2_184, if_pos (by omega), own_F2_198]
theorem own_p16 (x : Int) (h1 : 8192 ≤ x) (h2 : x < 8204) : own_F1_0 x = 0 ∧ own_F2_0 x = 0 := by
  constructor
  · rw [own_F1_0, if_neg (by omega), own_F1_6, if_neg (by omega), own_F1_12, if_neg (by omega), own_F1_18, if_neg (by omega), own_F1_24, if_neg (by omega), own_F1_30, if_neg (by omega), own_F1_37, if_neg (by omega), own_F1_44, if_neg (by omega), own_F1_51, if_neg (by omega), own_F1_58, if_neg (by omega), own_F1_65, if_neg (by omega), own_F1_72, if_neg (by omega), own_F1_79, if_neg (by omega), own_F1_86, if_neg (by omega), own_F1_93, if_neg (by omega), own_F1_100, if_pos (by omega), own_F1_114, if_pos (by omega), own_F1_128, if_pos (by omega), own_F1_142, if_pos (by omega), own_F1_155, if_pos (by omega), own_F1_167, if_pos (by omega), own_F1_179, if_pos (by omega), own_F1_195]
  · rw [own_F2_0, if_neg (by omega), own_F2_6, if_pos (by omega), own_F2_14, if_neg (by omega), own_F2_20, if_pos (by omega), own_F2_28, if_pos (by omega), own_F2_36, if_neg (by omega), own_F2_42, if_pos (by omega), own_F2_51, if_neg (by omega), own_F2_58, if_pos (by omega), own_F2_67, if_neg (by omega), own_F2_74, if_pos (by omega), own_F2_83, if_pos (by omega), own_F2_92, if_neg (by omega), own_F2_99, if_neg (by omega), own_F2_106]
theorem own_p17 (x : Int) (h1 : 8204 ≤ x) (h2 : x < 8206) : own_F1_0 x = 1 ∧ own_F2_0 x = 1 := by
  constructor
  · rw [own_F1_0, if_neg (by omega), own_F1_6, if_neg (by omega), own_F1_12, if_neg (by omega), own_F1_18, if_neg (by omega), own_F1_24, if_neg (by omega), own_F1_30, if_neg (by omega), own_F1_37, if_neg (by omega), own_F1_44, if_neg (by omega), own_F1_51, if_neg (by omega), own_F1_58, if_neg (by omega), own_F1_65, if_neg (by omega), own_F1_72, if_neg (by omega), own_F1_79, if_neg (by omega), own_F1_86, if_neg (by omega), own_F1_93, if_neg (by omega), own_F1_100, if_neg (by omega), own_F1_107, if_pos (by omega), own_F1_191]
  · rw [own_F2_0, if_neg (by omega), own_F2_6, if_pos (by omega), own_F2_14, if_neg (by omega), own_F2_20, if_pos (by omega), own_F2_28, if_pos (by omega), own_F2_36, if_neg (by omega), own_F2_42, if_pos (by omega), own_F2_51, if_neg (by omega), own_F2_58, if_pos (by omega), own_F2_67, if_neg (by omega), own_F2_74, if_pos (by omega), own_F2_83, if_pos (by omega), own_F2_92, if_neg (by omega), own_F2_99, if_pos (by omega), own_F2_108, if_pos (by omega), own_F2_124, if_pos (by omega), own_F2_140, if_pos (by omega), own_F2_156, if_pos (by omega), own_F2_170, if_pos (by omega), own_F2_184, if_pos (by omega), own_F2_198]
theorem own_p18 (x : Int) (h1 : 8206 ≤ x) (h2 : x < 8304) : own_F1_0 x = 0 ∧ own_F2_0 x = 0 := by
  constructor
  · rw [own_F1_0, if_neg (by omega), own_F1_6, if_neg (by omega), own_F1_12, if_neg (by omega), own_F1_18, if_neg (by omega), own_F1_24, if_neg (by omega), own_F1_30, if_neg (by omega), own_F1_37, if_neg (by omega), own_F1_44, if_neg (by omega), own_F1_51, if_neg (by omega), own_F1_58, if_neg (by omega), own_F1_65, if_neg (by omega), own_F1_72, if_neg (by omega), own_F1_79, if_neg (by omega), own_F1_86, if_neg (by omega), own_F1_93, if_neg (by omega), own_F1_100, if_neg (by omega), own_F1_107, if_neg (by omega), own_F1_114, if_pos (by omega), own_F1_128, if_pos (by omega), own_F1_142, if_pos (by omega), own_F1_155, if_pos (by omega), own_F1_167, if_pos (by omega), own_F1_179, if_pos (by omega), own_F1_195]
  · rw [own_F2_0, if_neg (by omega), own_F2_6, if_pos (by omega), own_F2_14, if_neg (by omega), own_F2_20, if_pos (by omega), own_F2_28, if_pos (by omega), own_F2_36, if_neg (by omega), own_F2_42, if_pos (by omega), own_F2_51, if_neg (by omega), own_F2_58, if_pos (by omega), own_F2_67, if_neg (by omega), own_F2_74, if_pos (by omega), own_F2_83, if_pos (by omega), own_F2_92, if_neg (by omega), own_F2_99, if_pos (by omega), own_F2_108, if_neg (by omega), own_F2_115, if_neg (by omega), own_F2_122]
theorem own_p19 (x : Int) (h1 : 8304 ≤ x) (h2 : x < 8592) : own_F1_0 x = 1 ∧ own_F2_0 x = 1 := by
  constructor
  · rw [own_F1_0, if_neg (by omega), own_F1_6, if_neg (by omega), own_F1_12, if_neg (by omega), own_F1_18, if_neg (by omega), own_F1_24, if_neg (by omega), own_F1_30, if_neg (by omega), own_F1_37, if_neg (by omega), own_F1_44, if_neg (by omega), own_F1_51, if_neg (by omega), own_F1_58, if_neg (by omega), own_F1_65, if_neg (by omega), own_F1_72, if_neg (by omega), own_F1_79, if_neg (by omega), own_F1_86, if_neg (by omega), own_F1_93, if_neg (by omega), own_F1_100, if_neg (by omega), own_F1_107, if_neg (by omega), own_F1_114, if_neg (by omega), own_F1_121, if_pos (by omega), own_F1_191]
  · rw [own_F2_0, if_neg (by omega), own_F2_6, if_pos (by omega), own_F2_14, if_neg (by omega), own_F2_20, if_pos (by omega), own_F2_28, if_pos (by omega), own_F2_36, if_neg (by omega), own_F2_42, if_pos (by omega), own_F2_51, if_neg (by omega), own_F2_58, if_pos (by omega), own_F2_67, if_neg (by omega), own_F2_74, if_pos (by omega), own_F2_83, if_pos (by omega), own_F2_92, if_neg (by omega), own_F2_99, if_pos (by omega), own_F2_108, if_neg (by omega), own_F2_115, if_pos (by omega), own_F2_124, if_pos (by omega), own_F2_140, if_pos (by omega), own_F2_156, if_pos (by omega), own_F2_170, if_pos (by omega), own_F2_184, if_pos (by omega), own_F2_198]
theorem own_p20 (x : Int) (h1 : 8592 ≤ x) (h2 : x < 11264) : own_F1_0 x = 0 ∧ own_F2_0 x = 0 := by
  constructor
  · rw [own_F1_0, if_neg (by omega), own_F1_6, if_neg (by omega), own_F1_12, if_neg (by omega), own_F1_18, if_neg (by omega), own_F1_24, if_neg (by omega), own_F1_30, if_neg (by omega), own_F1_37, if_neg (by omega), own_F1_44, if_neg (by omega), own_F1_51, if_neg (by omega), own_F1_58, if_neg (by omega), own_F1_65, if_neg (by omega), own_F1_72, if_neg (by omega), own_F1_79, if_neg (by omega), own_F1_86, if_neg (by omega), own_F1_93, if_neg (by omega), own_F1_100, if_neg (by omega), own_F1_107, if_neg (by omega), own_F1_114, if_neg (by omega), own_F1_121, if_neg (by omega), own_F1_128, if_pos (by omega), own_F1_142, if_pos (by omega), own_F1_155, if_pos (by omega), own_F1_167, if_pos (by omega), own_F1_179, if_pos (by omega), own_F1_195]
  · rw [own_F2_0, if_neg (by omega), own_F2_6, if_pos (by omega), own_F2_14, if_neg (by omega), own_F2_20, if_pos (by omega), own_F2_28, if_pos (by omega), own_F2_36, if_neg (by omega), own_F2_42, if_pos (by omega), own_F2_51, if_neg (by omega), own_F2_58, if_pos (by omega), own_F2_67, if_neg (by omega), own_F2_74, if_pos (by omega), own_F2_83, if_pos (by omega), own_F2_92, if_neg (by omega), own_F2_99, if_pos (by omega), own_F2_108, if_neg (by omega), own_F2_115, if_pos (by omega), own_F2_124, if_neg (by omega), own_F2_131, if_neg (by omega), own_F2_138]
theorem own_p21 (x : Int) (h1 : 11264 ≤ x) (h2 : x < 12272) : own_F1_0 x = 1 ∧ own_F2_0 x = 1 := by
  constructor
  · rw [own_F1_0, if_neg (by omega), own_F1_6, if_neg (by omega), own_F1_12, if_neg (by omega), own_F1_18, if_neg (by omega), own_F1_24, if_neg (by omega), own_F1_30, if_neg (by omega), own_F1_37, if_neg (by omega), own_F1_44, if_neg (by omega), own_F1_51, if_neg (by omega), own_F1_58, if_neg (by omega), own_F1_65, if_neg (by omega), own_F1_72, if_neg (by omega), own_F1_79, if_neg (by omega), own_F1_86, if_neg (by omega), own_F1_93, if_neg (by omega), own_F1_100, if_neg (by omega), own_F1_107, if_neg (by omega), own_F1_114, if_neg (by omega), own_F1_121, if_neg (by omega), own_F1_128, if_neg (by omega), own_F1_135, if_pos (by omega), own_F1_191]
  · rw [own_F2_0, if_neg (by omega), own_F2_6, if_pos (by omega), own_F2_14, if_neg (by omega), own_F2_20, if_pos (by omega), own_F2_28, if_pos (by omega), own_F2_36, if_neg (by omega), own_F2_42, if_pos (by omega), own_F2_51, if_neg (by omega), own_F2_58, if_pos (by omega), own_F2_67, if_neg (by omega), own_F2_74, if_pos (by omega), own_F2_83, if_pos (by omega), own_F2_92, if_neg (by omega), own_F2_99, if_pos (by omega), own_F2_108, if_neg (by omega), own_F2_115, if_pos (by omega), own_F2_124, if_neg (by omega), own_F2_131, if_pos (by omega), own_F2_140, if_pos (by omega), own_F2_156, if_pos (by omega), own_F2_170, if_pos (by omega), own_F2_184, if_pos (by omega), own_F2_198]
theorem own_p22 (x : Int) (h1 : 12272 ≤ x) (h2 : x < 12289) : own_F1_0 x = 0 ∧ own_F2_0 x = 0 := by
  constructor
  · rw [own_F1_0, if_neg (by omega), own_F1_6, if_neg (by omega), own_F1_12, if_neg (by omega), own_F1_18, if_neg (by omega), own_F1_24, if_neg (by omega), own_F1_30, if_neg (by omega), own_F1_37, if_neg (by omega), own_F1_44, if_neg (by omega), own_F1_51, if_neg (by omega), own_F1_58, if_neg (by omega), own_F1_65, if_neg (by omega), own_F1_72, if_neg (by omega), own_F1_79, if_neg (by omega), own_F1_86, if_neg (by omega), own_F1_93, if_neg (by omega), own_F1_100, if_neg (by omega), own_F1_107, if_neg (by omega), own_F1_114, if_neg (by omega), own_F1_121, if_neg (by omega), own_F1_128, if_neg (by omega), own_F1_135, if_neg (by omega), own_F1_142, if_pos (by omega), own_F1_155, if_pos (by omega), own_F1_167, if_pos (by omega), own_F1_179, if_pos (by omega), own_F1_195]
  · rw [own_F2_0, if_neg (by omega), own_F2_6, if_pos (by omega), own_F2_14, if_neg (by omega), own_F2_20, if_pos (by omega), own_F2_28, if_pos (by omega), own_F2_36, if_neg (by omega), own_F2_42, if_pos (by omega), own_F2_51, if_neg (by omega), own_F2_58, if_pos (by omega), own_F2_67, if_neg (by omega), own_F2_74, if_pos (by omega), own_F2_83, if_pos (by omega), own_F2_92, if_neg (by omega), own_F2_99, if_pos (by omega), own_F2_108, if_neg (by omega), own_F2_115, if_pos (by omega), own_F2_124, if_neg (by omega), own_F2_131, if_pos (by omega), own_F2_140, if_neg (by omega), own_F2_147, if_neg (by omega), own_F2_154]
theorem own_p23 (x : Int) (h1 : 12289 ≤ x) (h2 : x < 55296) : own_F1_0 x = 1 ∧ own_F2_0 x = 1 := by
  constructor
  · rw [own_F1_0, if_neg (by omega), own_F1_6, if_neg (by omega), own_F1_12, if_neg (by omega), own_F1_18, if_neg (by omega), own_F1_24, if_neg (by omega), own_F1_30, if_neg (by omega), own_F1_37, if_neg (by omega), own_F1_44, if_neg (by omega), own_F1_51, if_neg (by omega), own_F1_58, if_neg (by omega), own_F1_65, if_neg (by omega), own_F1_72, if_neg (by omega), own_F1_79, if_neg (by omega), own_F1_86, if_neg (by omega), own_F1_93, if_neg (by omega), own_F1_100, if_neg (by omega), own_F1_107, if_neg (by omega), own_F1_114, if_neg (by omega), own_F1_121, if_neg (by omega), own_F1_128, if_neg (by omega), own_F1_135, if_neg (by omega), own_F1_142, if_neg (by omega), own_F1_149, if_pos (by omega), own_F1_191]
  · rw [own_F2_0, if_neg (by omega), own_F2_6, if_pos (by omega), own_F2_14, if_neg (by omega), own_F2_20, if_pos (by omega), own_F2_28, if_pos (by omega), own_F2_36, if_neg (by omega), own_F2_42, if_pos (by omega), own_F2_51, if_neg (by omega), own_F2_58, if_pos (by omega), own_F2_67, if_neg (by omega), own_F2_74, if_pos (by omega), own_F2_83, if_pos (by omega), own_F2_92, if_neg (by omega), own_F2_99, if_pos (by omega), own_F2_108, if_neg (by omega), own_F2_115, if_pos (by omega), own_F2_124, if_neg (by omega), own_F2_131, if_pos (by omega), own_F2_140, if_neg (by omega), own_F2_147, if_pos (by omega), own_F2_156, if_pos (by omega), own_F2_170, if_pos (by omega), own_F2_184, if_pos (by omega), own_F2_198]
theorem own_p24 (x : Int) (h1 : 55296 ≤ x) (h2 : x < 63744) : own_F1_0 x = 0 ∧ own_F2_0 x = 0 := by
  constructor
  · rw [own_F1_0, if_neg (by omega), own_F1_6, if_neg (by omega), own_F1_12, if_neg (by omega), own_F1_18, if_neg (by omega), own_F1_24, if_neg (by omega), own_F1_30, if_neg (by omega), own_F1_37, if_neg (by omega), own_F1_44, if_neg (by omega), own_F1_51, if_neg (by omega), own_F1_58, if_neg (by omega), own_F1_65, if_neg (by omega), own_F1_72, if_neg (by omega), own_F1_79, if_neg (by omega), own_F1_86, if_neg (by omega), own_F1_93, if_neg (by omega), own_F1_100, if_neg (by omega), own_F1_107, if_neg (by omega), own_F1_114, if_neg (by omega), own_F1_121, if_neg (by omega), own_F1_128, if_neg (by omega), own_F1_135, if_neg (by omega), own_F1_142, if_neg (by omega), own_F1_149, if_neg (by omega), own_F1_155, if_pos (by omega), own_F1_167, if_pos (by omega), own_F1_179, if_pos (by omega), own_F1_195]
  · rw [own_F2_0, if_neg (by omega), own_F2_6, if_pos (by omega), own_F2_14, if_neg (by omega), own_F2_20, if_pos (by omega), own_F2_28, if_pos (by omega), own_F2_36, if_neg (by omega), own_F2_42, if_pos (by omega), own_F2_51, if_neg (by omega), own_F2_58, if_pos (by omega), own_F2_67, if_neg (by omega), own_F2_74, if_pos (by omega), own_F2_83, if_pos (by omega), own_F2_92, if_neg (by omega), own_F2_99, if_pos (by omega), own_F2_108, if_neg (by omega), own_F2_115, if_pos (by omega), own_F2_124, if_neg (by omega), own_F2_131, if_pos (by omega), own_F2_140, if_neg (by omega), own_F2_147, if_pos (by omega), own_F2_156, if_neg (by omega), own_F2_162, if_neg (by omega), own_F2_168]
theorem own_p25 (x : Int) (h1 : 63744 ≤ x) (h2 : x < 64976) : own_F1_0 x = 1 ∧ own_F2_0 x = 1 := by
  constructor
  · rw [own_F1_0, if_neg (by omega), own_F1_6, if_neg (by omega), own_F1_12, if_neg (by omega), own_F1_18, if_neg (by omega), own_F1_24, if_neg (by omega), own_F1_30, if_neg (by omega), own_F1_37, if_neg (by omega), own_F1_44, if_neg (by omega), own_F1_51, if_neg (by omega), own_F1_58, if_neg (by omega), own_F1_65, if_neg (by omega), own_F1_72, if_neg (by omega), own_F1_79, if_neg (by omega), own_F1_86, if_neg (by omega), own_F1_93, if_neg (by omega), own_F1_100, if_neg (by omega), own_F1_107, if_neg (by omega), own_F1_114, if_neg (by omega), own_F1_121, if_neg (by omega), own_F1_128, if_neg (by omega), own_F1_135, if_neg (by omega), own_F1_142, if_neg (by omega), own_F1_149, if_neg (by omega), own_F1_155, if_neg (by omega), own_F1_161, if_pos (by omega), own_F1_191]
  · rw [own_F2_0, if_neg (by omega), own_F2_6, if_pos (by omega), own_F2_14, if_neg (by omega), own_F2_20, if_pos (by omega), own_F2_28, if_pos (by omega), own_F2_36, if_neg (by omega), own_F2_42, if_pos (by omega), own_F2_51, if_neg (by omega), own_F2_58, if_pos (by omega), own_F2_67, if_neg (by omega), own_F2_74, if_pos (by omega), own_F2_83, if_pos (by omega), own_F2_92, if_neg (by omega), own_F2_99, if_pos (by omega), own_F2_108, if_neg (by omega), own_F2_115, if_pos (by omega), own_F2_124, if_neg (by omega), own_F2_131, if_pos (by omega), own_F2_140, if_neg (by omega), own_F2_147, if_pos (by omega), own_F2_156, if_neg (by omega), own_F2_162, if_pos (by omega), own_F2_170, if_pos (by omega), own_F2_184, if_pos (by omega), own_F2_198]
theorem own_p26 (x : Int) (h1 : 64976 ≤ x) (h2 : x < 65008) : own_F1_0 x = 0 ∧ own_F2_0 x = 0 := by
  constructor
  · rw [own_F1_0, if_neg (by omega), own_F1_6, if_neg (by omega), own_F1_12, if_neg (by omega), own_F1_18, if_neg (by omega), own_F1_24, if_neg (by omega), own_F1_30, if_neg (by omega), own_F1_37, if_neg (by omega), own_F1_44, if_neg (by omega), own_F1_51, if_neg (by omega), own_F1_58, if_neg (by omega), own_F1_65, if_neg (by omega), own_F1_72, if_neg (by omega), own_F1_79, if_neg (by omega), own_F1_86, if_neg (by omega), own_F1_93, if_neg (by omega), own_F1_100, if_neg (by omega), own_F1_107, if_neg (by omega), own_F1_114, if_neg (by omega), own_F1_121, if_neg (by omega), own_F1_128, if_neg (by omega), own_F1_135, if_neg (by omega), own_F1_142, if_neg (by omega), own_F1_149, if_neg (by omega), own_F1_155, if_neg (by omega), own_F1_161, if_neg (by omega), own_F1_167, if_pos (by omega), own_F1_179, if_pos (by omega), own_F1_195]
  · rw [own_F2_0, if_neg (by omega), own_F2_6, if_pos (by omega), own_F2_14, if_neg (by omega), own_F2_20, if_pos (by omega), own_F2_28, if_pos (by omega), own_F2_36, if_neg (by omega), own_F2_42, if_pos (by omega), own_F2_51, if_neg (by omega), own_F2_58, if_pos (by omega), own_F2_67, if_neg (by omega), own_F2_74, if_pos (by omega), own_F2_83, if_pos (by omega), own_F2_92, if_neg (by omega), own_F2_99, if_pos (by omega), own_F2_108, if_neg (by omega), own_F2_115, if_pos (by omega), own_F2_124, if_neg (by omega), own_F2_131, if_pos (by omega), own_F2_140, if_neg (by omega), own_F2_147, if_pos (by omega), own_F2_156, if_neg (by omega), own_F2_162, if_pos (by omega), own_F2_170, if_neg (by omega), own_F2_176, if_neg (by omega), own_F2_182]
theorem own_p27 (x : Int) (h1 : 65008 ≤ x) (h2 : x < 65534) : own_F1_0 x = 1 ∧ own_F2_0 x = 1 := by
  constructor
  · rw [own_F1_0, if_neg (by omega), own_F1_6, if_neg (by omega), own_F1_12, if_neg (by omega), own_F1_18, if_neg (by omega), own_F1_24, if_neg (by omega), own_F1_30, if_neg (by omega), own_F1_37, if_neg (by omega), own_F1_44, if_neg (by omega), own_F1_51, if_neg (by omega), own_F1_58, if_neg (by omega), own_F1_65, if_neg (by omega), own_F1_72, if_neg (by omega), own_F1_79, if_neg (by omega), own_F1_86, if_neg (by omega), own_F1_93, if_neg (by omega), own_F1_100, if_neg (by omega), own_F1_107, if_neg (by omega), own_F1_114, if_neg (by omega), own_F1_121, if_neg (by omega), own_F1_128, if_neg (by omega), own_F1_135, if_neg (by omega), own_F1_142, if_neg (by omega), own_F1_149, if_neg (by omega), own_F1_155, if_neg (by omega), own_F1_161, if_neg (by omega), own_F1_167, if_neg (by omega), own_F1_173, if_pos (by omega), own_F1_191]
  · rw [own_F2_0, if_neg (by omega), own_F2_6, if_pos (by omega), own_F2_14, if_neg (by omega), own_F2_20, if_pos (by omega), own_F2_28, if_pos (by omega), own_F2_36, if_neg (by omega), own_F2_42, if_pos (by omega), own_F2_51, if_neg (by omega), own_F2_58, if_pos (by omega), own_F2_67, if_neg (by omega), own_F2_74, if_pos (by omega), own_F2_83, if_pos (by omega), own_F2_92, if_neg (by omega), own_F2_99, if_pos (by omega), own_F2_108, if_neg (by omega), own_F2_115, if_pos (by omega), own_F2_124, if_neg (by omega), own_F2_131, if_pos (by omega), own_F2_140, if_neg (by omega), own_F2_147, if_pos (by omega), own_F2_156, if_neg (by omega), own_F2_162, if_pos (by omega), own_F2_170, if_neg (by omega), own_F2_176, if_pos (by omega), own_F2_184, if_pos (by omega), own_F2_198]
theorem own_p28 (x : Int) (h1 : 65534 ≤ x) (h2 : x < 65536) : own_F1_0 x = 0 ∧ own_F2_0 x = 0 := by
  constructor
  · rw [own_F1_0, if_neg (by omega), own_F1_6, if_neg (by omega), own_F1_12, if_neg (by omega), own_F1_18, if_neg (by omega), own_F1_24, if_neg (by omega), own_F1_30, if_neg (by omega), own_F1_37, if_neg (by omega), own_F1_44, if_neg (by omega), own_F1_51, if_neg (by omega), own_F1_58, if_neg (by omega), own_F1_65, if_neg (by omega), own_F1_72, if_neg (by omega), own_F1_79, if_neg (by omega), own_F1_86, if_neg (by omega), own_F1_93, if_neg (by omega), own_F1_100, if_neg (by omega), own_F1_107, if_neg (by omega), own_F1_114, if_neg (by omega), own_F1_121, if_neg (by omega), own_F1_128, if_neg (by omega), own_F1_135, if_neg (by omega), own_F1_142, if_neg (by omega), own_F1_149, if_neg (by omega), own_F1_155, if_neg (by omega), own_F1_161, if_neg (by omega), own_F1_167, if_neg (by omega), own_F1_173, if_neg (by omega), own_F1_179, if_pos (by omega), own_F1_195]
  · rw [own_F2_0, if_neg (by omega), own_F2_6, if_pos (by omega), own_F2_14, if_neg (by omega), own_F2_20, if_pos (by omega), own_F2_28, if_pos (by omega), own_F2_36, if_neg (by omega), own_F2_42, if_pos (by omega), own_F2_51, if_neg (by omega), own_F2_58, if_pos (by omega), own_F2_67, if_neg (by omega), own_F2_74, if_pos (by omega), own_F2_83, if_pos (by omega), own_F2_92, if_neg (by omega), own_F2_99, if_pos (by omega), own_F2_108, if_neg (by omega), own_F2_115, if_pos (by omega), own_F2_124, if_neg (by omega), own_F2_131, if_pos (by omega), own_F2_140, if_neg (by omega), own_F2_147, if_pos (by omega), own_F2_156, if_neg (by omega), own_F2_162, if_pos (by omega), own_F2_170, if_neg (by omega), own_F2_176, if_pos (by omega), own_F2_184, if_neg (by omega), own_F2_190, if_neg (by omega), own_F2_196]
theorem own_p29 (x : Int) (h1 : 65536 ≤ x) (h2 : x < 983040) : own_F1_0 x = 1 ∧ own_F2_0 x = 1 := by
  constructor
  · rw [own_F1_0, if_neg (by omega), own_F1_6, if_neg (by omega), own_F1_12, if_neg (by omega), own_F1_18, if_neg (by omega), own_F1_24, if_neg (by omega), own_F1_30, if_neg (by omega), own_F1_37, if_neg (by omega), own_F1_44, if_neg (by omega), own_F1_51, if_neg (by omega), own_F1_58, if_neg (by omega), own_F1_65, if_neg (by omega), own_F1_72, if_neg (by omega), own_F1_79, if_neg (by omega), own_F1_86, if_neg (by omega), own_F1_93, if_neg (by omega), own_F1_100, if_neg (by omega), own_F1_107, if_neg (by omega), own_F1_114, if_neg (by omega), own_F1_121, if_neg (by omega), own_F1_128, if_neg (by omega), own_F1_135, if_neg (by omega), own_F1_142, if_neg (by omega), own_F1_149, if_neg (by omega), own_F1_155, if_neg (by omega), own_F1_161, if_neg (by omega), own_F1_167, if_neg (by omega), own_F1_173, if_neg (by omega), own_F1_179, if_neg (by omega), own_F1_185, if_neg (by omega), own_F1_191]
  · rw [own_F2_0, if_neg (by omega), own_F2_6, if_pos (by omega), own_F2_14, if_neg (by omega), own_F2_20, if_pos (by omega), own_F2_28, if_pos (by omega), own_F2_36, if_neg (by omega), own_F2_42, if_pos (by omega), own_F2_51, if_neg (by omega), own_F2_58, if_pos (by omega), own_F2_67, if_neg (by omega), own_F2_74, if_pos (by omega), own_F2_83, if_pos (by omega), own_F2_92, if_neg (by omega), own_F2_99, if_pos (by omega), own_F2_108, if_neg (by omega), own_F2_115, if_pos (by omega), own_F2_124, if_neg (by omega), own_F2_131, if_pos (by omega), own_F2_140, if_neg (by omega), own_F2_147, if_pos (by omega), own_F2_156, if_neg (by omega), own_F2_162, if_pos (by omega), own_F2_170, if_neg (by omega), own_F2_176, if_pos (by omega), own_F2_184, if_neg (by omega), own_F2_190, if_pos (by omega), own_F2_198]
theorem own_p30 (x : Int) (h1 : 983040 ≤ x) : own_F1_0 x = 0 ∧ own_F2_0 x = 0 := by
  constructor
  · rw [own_F1_0, if_neg (by omega), own_F1_6, if_neg (by omega), own_F1_12, if_neg (by omega), own_F1_18, if_neg (by omega), own_F1_24, if_neg (by omega), own_F1_30, if_neg (by omega), own_F1_37, if_neg (by omega), own_F1_44, if_neg (by omega), own_F1_51, if_neg (by omega), own_F1_58, if_neg (by omega), own_F1_65, if_neg (by omega), own_F1_72, if_neg (by omega), own_F1_79, if_neg (by omega), own_F1_86, if_neg (by omega), own_F1_93, if_neg (by omega), own_F1_100, if_neg (by omega), own_F1_107, if_neg (by omega), own_F1_114, if_neg (by omega), own_F1_121, if_neg (by omega), own_F1_128, if_neg (by omega), own_F1_135, if_neg (by omega), own_F1_142, if_neg (by omega), own_F1_149, if_neg (by omega), own_F1_155, if_neg (by omega), own_F1_161, if_neg (by omega), own_F1_167, if_neg (by omega), own_F1_173, if_neg (by omega), own_F1_179, if_neg (by omega), own_F1_185, if_pos (by omega), own_F1_195]
  · rw [own_F2_0, if_neg (by omega), own_F2_6, if_neg (by omega), own_F2_12]
theorem own_plain (x : Int) : (own_F1_0 x = 1 ∧ own_F2_0 x = 1) ∨ (own_F1_0 x = 0 ∧ own_F2_0 x = 0) := by
  rcases Int.lt_or_le x 65 with k0 | g0
  · exact Or.inr (own_p0 x k0)
  rcases Int.lt_or_le x 91 with k1 | g1
  · exact Or.inl (own_p1 x g0 k1)
  clear g0
  rcases Int.lt_or_le x 95 with k2 | g2
  · exact Or.inr (own_p2 x g1 k2)
  clear g1
  rcases Int.lt_or_le x 96 with k3 | g3
  · exact Or.inl (own_p3 x g2 k3)
  clear g2
  rcases Int.lt_or_le x 97 with k4 | g4
  · exact Or.inr (own_p4 x g3 k4)
  clear g3
  rcases Int.lt_or_le x 123 with k5 | g5
  · exact Or.inl (own_p5 x g4 k5)
  clear g4
  rcases Int.lt_or_le x 192 with k6 | g6
  · exact Or.inr (own_p6 x g5 k6)
  clear g5
  rcases Int.lt_or_le x 215 with k7 | g7
  · exact Or.inl (own_p7 x g6 k7)
  clear g6
  rcases Int.lt_or_le x 216 with k8 | g8
  · exact Or.inr (own_p8 x g7 k8)
  clear g7
  rcases Int.lt_or_le x 247 with k9 | g9
  · exact Or.inl (own_p9 x g8 k9)
  clear g8
  rcases Int.lt_or_le x 248 with k10 | g10
  · exact Or.inr (own_p10 x g9 k10)
  clear g9
  rcases Int.lt_or_le x 768 with k11 | g11
  · exact Or.inl (own_p11 x g10 k11)
  clear g10
  rcases Int.lt_or_le x 880 with k12 | g12
  · exact Or.inr (own_p12 x g11 k12)
  clear g11
  rcases Int.lt_or_le x 894 with k13 | g13
  · exact Or.inl (own_p13 x g12 k13)
  clear g12
  rcases Int.lt_or_le x 895 with k14 | g14
  · exact Or.inr (own_p14 x g13 k14)
  clear g13
  rcases Int.lt_or_le x 8192 with k15 | g15
  · exact Or.inl (own_p15 x g14 k15)
  clear g14
  rcases Int.lt_or_le x 8204 with k16 | g16
  · exact Or.inr (own_p16 x g15 k16)
  clear g15
  rcases Int.lt_or_le x 8206 with k17 | g17
  · exact Or.inl (own_p17 x g16 k17)
  clear g16
  rcases Int.lt_or_le x 8304 with k18 | g18
  · exact Or.inr (own_p18 x g17 k18)
  clear g17
  rcases Int.lt_or_le x 8592 with k19 | g19
  · exact Or.inl (own_p19 x g18 k19)
  clear g18
  rcases Int.lt_or_le x 11264 with k20 | g20
  · exact Or.inr (own_p20 x g19 k20)
  clear g19
  rcases Int.lt_or_le x 12272 with k21 | g21
  · exact Or.inl (own_p21 x g20 k21)
  clear g20
  rcases Int.lt_or_le x 12289 with k22 | g22
  · exact Or.inr (own_p22 x g21 k22)
  clear g21
  rcases Int.lt_or_le x 55296 with k23 | g23
  · exact Or.inl (own_p23 x g22 k23)
  clear g22
  rcases Int.lt_or_le x 63744 with k24 | g24
  · exact Or.inr (own_p24 x g23 k24)
  clear g23
  rcases Int.lt_or_le x 64976 with k25 | g25
  · exact Or.inl (own_p25 x g24 k25)
  clear g24
  rcases Int.lt_or_le x 65008 with k26 | g26
  · exact Or.inr (own_p26 x g25 k26)
  clear g25
  rcases Int.lt_or_le x 65534 with k27 | g27
  · exact Or.inl (own_p27 x g26 k27)
  clear g26
  rcases Int.lt_or_le x 65536 with k28 | g28
  · exact Or.inr (own_p28 x g27 k28)
  clear g27
  rcases Int.lt_or_le x 983040 with k29 | g29
  · exact Or.inl (own_p29 x g28 k29)
  clear g28
  exact Or.inr (own_p30 x g29)
/-! an int array whose places all hold ints: what they hold is not looked at -/
def own_Ar (Z : State) (h : Heap) (a : Addr) (n : Int32) : Prop := ∃ cl : Cell, Arr Z h a cl .int ∧ cl.slots.size = n.toNatClampNeg ∧ ∀ i, i < cl.slots.size → ∃ w : Int32, cl.slots[i]? = some (.int w)
theorem own_new {Z : State} {h : Heap} {a : Addr} {k : ClassId} {n : Int32} (A : Arr Z h a (newA k .int n) .int) : own_Ar Z h a n :=
  ⟨_, A, sz_new _ _ _, fun i hi => ⟨0, by rw [sz_new] at hi; simp [newA, hi, defaultValue]⟩⟩
theorem own_set {Z : State} {h h' : Heap} {a : Addr} {n : Int32} {cl : Cell} {j : Nat} {v : Int32} (A : Arr Z h a cl .int) (S : cl.slots.size = n.toNatClampNeg) (H : ∀ i, i < cl.slots.size → ∃ w : Int32, cl.slots[i]? = some (.int w)) (W : Wr h h' a j (.int v)) : own_Ar Z h' a n := by
  refine ⟨_, A.same W, by rw [sz_set]; exact S, fun i hi => ?_⟩
  rw [sz_set] at hi
  by_cases u : j = i
  · subst u; exact ⟨v, by simp [Cell.setSlot, hi]⟩
  · obtain ⟨w, hw⟩ := H i hi
    exact ⟨w, by simp only [Cell.setSlot]; rw [Array.getElem?_setIfInBounds_ne u]; exact hw⟩
/-- where the walk stands while the array at b is being filled: the array's address alone on the stack -/
def own_At (p : Program) (l : Launch) (e : Env) (s : State) (m : MethodId) (args : Array Value) (below : List Frame) (meth : Method) (c : Code) (s₁ : State) (Z : State) (n0 : Nat) (b : Addr) (Ls : Array Slot) (n : Int32) (k : Nat) (pc : Nat) : Prop :=
  ∃ (T : State) (h : Heap) (L : List Loc), Stand p l e room_1 s m args below meth c T L 1 k ∧ T.heap = h ∧ Fr n0 L ∧ own_Ar Z h b n ∧
    ∀ target, Steps p.tables e below (T.setTop (mkF m pc Ls [(.ref b)])) target → Steps p.tables e below (s₁.setTop (mkF m 0 Ls [])) target
/-- one constant stored: the steps that lay it on the stack are handed in -/
theorem own_store {p : Program} {l : Launch} {e : Env} {s : State} {m : MethodId} {args : Array Value} {below : List Frame} {meth : Method} {c : Code} {s₁ : State} {Z : State} {n0 : Nat} {b : Addr} {Ls : Array Slot} {n : Int32} {k pc : Nat}
    (A : own_At p l e s m args below meth c s₁ Z n0 b Ls n k pc) (hx : p.tables.exec = Jvm.exec) (hZ : Z.Warmed39 s.vm) (gb : n0 ≤ b) (j v : Int32) (pc' : Nat) (hj : ¬ j < 0 ∧ j < n)
    (hpush : ∀ (T : State) (L : List Loc), Stand p l e room_1 s m args below meth c T L 1 k → ∀ target, Steps p.tables e below (T.setTop (mkF m pc' Ls [(.int v), (.int j), (.ref b), (.ref b)])) target → Steps p.tables e below (T.setTop (mkF m pc Ls [(.ref b)])) target)
    (hd : decode c.code pc' = .ok (.iastore, 1)) : own_At p l e s m args below meth c s₁ Z n0 b Ls n k (pc' + 1) := by
  obtain ⟨T, h, L, X, eT, N, ⟨cl, Ar, S, H⟩, st⟩ := A
  obtain ⟨T', h', X', e', W', st'⟩ := stI X hx hZ eT Ar (j := j) (x := v) (inb_of S hj) (g := mkF m pc' Ls [(.int v), (.int j), (.ref b), (.ref b)]) rfl rfl hd
  exact ⟨T', h', _, X', e', Fr.snoc X' N gb, own_set Ar S H W', fun target q => st _ (hpush T L X _ (st' _ q))⟩
/-! the index: the rest of a number that is not negative -/
theorem own_rem {x : Int32} (n : Int32) (k : Nat) (hn : n.toInt = k) (hk : 0 < k) (hx : 0 ≤ x.toInt) : ¬ (x - (x / n) * n) < 0 ∧ (x - (x / n) * n) < n := by
  have b1 := Int32.toInt_lt x
  have b2 := Int32.toInt_lt n
  have q1 : (x / n).toInt = x.toInt / (k : Int) := by
    rw [Int32.toInt_div, hn, Int.tdiv_eq_ediv_of_nonneg hx]
    have h1 : 0 ≤ x.toInt / (k : Int) := Int.ediv_nonneg hx (by omega)
    have h2 : x.toInt / (k : Int) ≤ x.toInt := Int.ediv_le_self _ hx
    exact XT.bmod32 ⟨by omega, by omega⟩
  have h3 : x.toInt / (k : Int) * (k : Int) + x.toInt % (k : Int) = x.toInt := Int.ediv_mul_add_emod _ _
  have h4 : 0 ≤ x.toInt % (k : Int) := Int.emod_nonneg _ (by omega)
  have h5 : x.toInt % (k : Int) < (k : Int) := Int.emod_lt_of_pos _ (by omega)
  have h6 : 0 ≤ x.toInt / (k : Int) * (k : Int) := Int.mul_nonneg (Int.ediv_nonneg hx (by omega)) (by omega)
  have q2 : ((x / n) * n).toInt = x.toInt / (k : Int) * (k : Int) := by
    rw [XT.mul32 (by rw [q1, hn]; exact ⟨by omega, by omega⟩), q1, hn]
  have q3 : (x - (x / n) * n).toInt = x.toInt % (k : Int) := by
    rw [XT.sub32 (by rw [q2]; exact ⟨by omega, by omega⟩), q2]; omega
  rw [Int32.lt_iff_toInt_lt, Int32.lt_iff_toInt_lt, q3, hn, own_z0]
  omega
theorem own_mask (k : Int32) : 0 ≤ (k &&& (2147483647 : Int32)).toInt := by
  have h : ¬ (k &&& (2147483647 : Int32)) < 0 := fun q => absurd ((XT.and_neg32 _ _).mp q).2 (by decide)
  rw [Int32.lt_iff_toInt_lt, own_z0] at h; omega
theorem own_pn0 : plainName "com/example/vraag/vraag/value/XmlCharsIsNameStartCharPinLaw" = true := by first | (simp [plainName, overriddenIn]; done) | decide +kernel
theorem own_ef0 (m : MethodId) (x0 : Int32) (x1 : Int32) (x2 : Int32) : entryFrame m #[(.int x0), (.int x1), (.int x2)] maxLocals = mkF m 0 #[.val (.int x0), .val (.int x1), .val (.int x2), .unset, .unset, .unset] [] := by first | (simp [entryFrame, mkF, argsToLocals, Value.category, maxLocals]; done) | rfl
def own_Q0 (n0 : Nat) (v : Option Value) (h : Heap) (L : List Loc) : Prop := v = some (.int 1) ∧ Fr n0 L
set_option maxRecDepth 65536 in
set_option maxHeartbeats 40000000 in
theorem own_rm0 (l : Launch) (Z : State) (a0 : Array Value) (hw : ∀ d ∈ tables_1, d.before a0 Z = true) (ws : List Jvm.Cond) (p1 : Int32) (p2 : Int32) (p3 : Int32) (h0 : Heap) (n0 : Nat) (Z0 : n0 ≤ h0.size) :
    MetFree l x (head1 (Jvm.Cond.code x code maxLocals ret :: ws) room_1) (fun a U => a = #[(.int p1), (.int p2), (.int p3)] ∧ Z.Warmed39 U.vm ∧ U.heap = h0) (fun _ _ _ _ _ => True) (fun _ U o U' => ∃ v L, o = .returned v ∧ own_Q0 n0 v U'.heap L ∧ FrameEnd U o U' L room_1.cells room_1.slots) := by
  refine MetFree.of_bodySF (plainFor_of_name own_pn0) hisR ?_
  intro p e s m args below meth c s₁ Bd hml0 hP hK
  obtain ⟨rfl, hZ, hh⟩ := hP
  have hx := Bd.exec
  have hby := Bd.bytes
  have hml : c.maxLocals = 6 := hml0
  have hown : s.vm.findClass "com/example/vraag/vraag/value/XmlCharsIsNameStartCharPinLaw" = some m.cls := findClass_of_methodNamed Bd.named
  have X0 : Stand p l e room_1 s m #[(.int p1), (.int p2), (.int p3)] below meth c s₁ [] 0 0 := Stand.of_body Bd
  have e0 : s₁.heap = h0 := by rw [← hh, Bd.state]; rfl
  have N0 := Fr.nil n0
  have pre0 : ∀ t, Steps p.tables e below (s₁.setTop (mkF m 0 #[.val (.int p1), .val (.int p2), .val (.int p3), .unset, .unset, .unset] [])) t → Steps p.tables e below (s₁.setTop (entryFrame m #[(.int p1), (.int p2), (.int p3)] maxLocals)) t := fun t k => castTop (own_ef0 m p1 p2 p3) k
  obtain ⟨T4, h4, k4, X4, e4, E4, A4, st4⟩ := newP X0 hx hZ (hw _ (List.mem_of_getElem? (i := 0) rfl)) e0 (g := (mkF m 2 #[.val (.int p1), .val (.int p2), .val (.int p3), .unset, .unset, .unset] [(.int (32 : Int32))])) rfl (hb hby at_2) rfl (by decide) (cap := 32) (by decide) (by decide) (by decide) (by decide)
  obtain ⟨b4, g4⟩ : ∃ z, z = h0.size := ⟨_, rfl⟩
  rw [← g4] at A4 st4
  have gb : n0 ≤ b4 := Nat.le_trans Z0 (Nat.le_of_eq g4.symm)
  have S0 : own_At p l e s m #[(.int p1), (.int p2), (.int p3)] below meth c s₁ Z n0 b4 #[.val (.int p1), .val (.int p2), .val (.int p3), .unset, .unset, .unset] (32 : Int32) 32 4 := by
    refine ⟨T4, h4, _, X4, e4, N0, own_new A4, fun target q => ?_⟩
    show Steps p.tables e below (s₁.setTop (mkF m 0 #[.val (.int p1), .val (.int p2), .val (.int p3), .unset, .unset, .unset] [])) _
    refine XS.bipush X0.here hx rfl (hb hby at_0) ?_
    show Steps p.tables e below (s₁.setTop (mkF m 2 #[.val (.int p1), .val (.int p2), .val (.int p3), .unset, .unset, .unset] [(.int (32 : Int32))])) _
    exact st4 _ q
  have S1 : own_At p l e s m #[(.int p1), (.int p2), (.int p3)] below meth c s₁ Z n0 b4 #[.val (.int p1), .val (.int p2), .val (.int p3), .unset, .unset, .unset] (32 : Int32) 32 9 := own_store S0 hx hZ gb (0 : Int32) (65 : Int32) 8 (by decide) (by
    intro T L X target q
    show Steps p.tables e below (T.setTop (mkF m 4 #[.val (.int p1), .val (.int p2), .val (.int p3), .unset, .unset, .unset] [(.ref b4)])) _
    refine XS.dup X.here hx rfl (hb hby at_4) rfl rfl ?_
    show Steps p.tables e below (T.setTop (mkF m 5 #[.val (.int p1), .val (.int p2), .val (.int p3), .unset, .unset, .unset] [(.ref b4), (.ref b4)])) _
    refine XS.iconst X.here hx rfl (hb hby at_5) ?_
    show Steps p.tables e below (T.setTop (mkF m 6 #[.val (.int p1), .val (.int p2), .val (.int p3), .unset, .unset, .unset] [(.int (0 : Int32)), (.ref b4), (.ref b4)])) _
    refine XS.bipush X.here hx rfl (hb hby at_6) ?_
    show Steps p.tables e below (T.setTop (mkF m 8 #[.val (.int p1), .val (.int p2), .val (.int p3), .unset, .unset, .unset] [(.int (65 : Int32)), (.int (0 : Int32)), (.ref b4), (.ref b4)])) _
    exact q) (hb hby at_8)
  clear S0
  have S2 : own_At p l e s m #[(.int p1), (.int p2), (.int p3)] below meth c s₁ Z n0 b4 #[.val (.int p1), .val (.int p2), .val (.int p3), .unset, .unset, .unset] (32 : Int32) 32 14 := own_store S1 hx hZ gb (1 : Int32) (90 : Int32) 13 (by decide) (by
    intro T L X target q
    show Steps p.tables e below (T.setTop (mkF m 9 #[.val (.int p1), .val (.int p2), .val (.int p3), .unset, .unset, .unset] [(.ref b4)])) _
    refine XS.dup X.here hx rfl (hb hby at_9) rfl rfl ?_
    show Steps p.tables e below (T.setTop (mkF m 10 #[.val (.int p1), .val (.int p2), .val (.int p3), .unset, .unset, .unset] [(.ref b4), (.ref b4)])) _
    refine XS.iconst X.here hx rfl (hb hby at_10) ?_
    show Steps p.tables e below (T.setTop (mkF m 11 #[.val (.int p1), .val (.int p2), .val (.int p3), .unset, .unset, .unset] [(.int (1 : Int32)), (.ref b4), (.ref b4)])) _
    refine XS.bipush X.here hx rfl (hb hby at_11) ?_
    show Steps p.tables e below (T.setTop (mkF m 13 #[.val (.int p1), .val (.int p2), .val (.int p3), .unset, .unset, .unset] [(.int (90 : Int32)), (.int (1 : Int32)), (.ref b4), (.ref b4)])) _
    exact q) (hb hby at_13)
  clear S1
  have S3 : own_At p l e s m #[(.int p1), (.int p2), (.int p3)] below meth c s₁ Z n0 b4 #[.val (.int p1), .val (.int p2), .val (.int p3), .unset, .unset, .unset] (32 : Int32) 32 19 := own_store S2 hx hZ gb (2 : Int32) (95 : Int32) 18 (by decide) (by
    intro T L X target q
    show Steps p.tables e below (T.setTop (mkF m 14 #[.val (.int p1), .val (.int p2), .val (.int p3), .unset, .unset, .unset] [(.ref b4)])) _
    refine XS.dup X.here hx rfl (hb hby at_14) rfl rfl ?_
    show Steps p.tables e below (T.setTop (mkF m 15 #[.val (.int p1), .val (.int p2), .val (.int p3), .unset, .unset, .unset] [(.ref b4), (.ref b4)])) _
    refine XS.iconst X.here hx rfl (hb hby at_15) ?_
    show Steps p.tables e below (T.setTop (mkF m 16 #[.val (.int p1), .val (.int p2), .val (.int p3), .unset, .unset, .unset] [(.int (2 : Int32)), (.ref b4), (.ref b4)])) _
    refine XS.bipush X.here hx rfl (hb hby at_16) ?_
    show Steps p.tables e below (T.setTop (mkF m 18 #[.val (.int p1), .val (.int p2), .val (.int p3), .unset, .unset, .unset] [(.int (95 : Int32)), (.int (2 : Int32)), (.ref b4), (.ref b4)])) _
    exact q) (hb hby at_18)
  clear S2
  have S4 : own_At p l e s m #[(.int p1), (.int p2), (.int p3)] below meth c s₁ Z n0 b4 #[.val (.int p1), .val (.int p2), .val (.int p3), .unset, .unset, .unset] (32 : Int32) 32 24 := own_store S3 hx hZ gb (3 : Int32) (97 : Int32) 23 (by decide) (by
    intro T L X target q
    show Steps p.tables e below (T.setTop (mkF m 19 #[.val (.int p1), .val (.int p2), .val (.int p3), .unset, .unset, .unset] [(.ref b4)])) _
    refine XS.dup X.here hx rfl (hb hby at_19) rfl rfl ?_
    show Steps p.tables e below (T.setTop (mkF m 20 #[.val (.int p1), .val (.int p2), .val (.int p3), .unset, .unset, .unset] [(.ref b4), (.ref b4)])) _
    refine XS.iconst X.here hx rfl (hb hby at_20) ?_
    show Steps p.tables e below (T.setTop (mkF m 21 #[.val (.int p1), .val (.int p2), .val (.int p3), .unset, .unset, .unset] [(.int (3 : Int32)), (.ref b4), (.ref b4)])) _
    refine XS.bipush X.here hx rfl (hb hby at_21) ?_
    show Steps p.tables e below (T.setTop (mkF m 23 #[.val (.int p1), .val (.int p2), .val (.int p3), .unset, .unset, .unset] [(.int (97 : Int32)), (.int (3 : Int32)), (.ref b4), (.ref b4)])) _
    exact q) (hb hby at_23)
  clear S3
  have S5 : own_At p l e s m #[(.int p1), (.int p2), (.int p3)] below meth c s₁ Z n0 b4 #[.val (.int p1), .val (.int p2), .val (.int p3), .unset, .unset, .unset] (32 : Int32) 32 29 := own_store S4 hx hZ gb (4 : Int32) (122 : Int32) 28 (by decide) (by
    intro T L X target q
    show Steps p.tables e below (T.setTop (mkF m 24 #[.val (.int p1), .val (.int p2), .val (.int p3), .unset, .unset, .unset] [(.ref b4)])) _
    refine XS.dup X.here hx rfl (hb hby at_24) rfl rfl ?_
    show Steps p.tables e below (T.setTop (mkF m 25 #[.val (.int p1), .val (.int p2), .val (.int p3), .unset, .unset, .unset] [(.ref b4), (.ref b4)])) _
    refine XS.iconst X.here hx rfl (hb hby at_25) ?_
    show Steps p.tables e below (T.setTop (mkF m 26 #[.val (.int p1), .val (.int p2), .val (.int p3), .unset, .unset, .unset] [(.int (4 : Int32)), (.ref b4), (.ref b4)])) _
    refine XS.bipush X.here hx rfl (hb hby at_26) ?_
    show Steps p.tables e below (T.setTop (mkF m 28 #[.val (.int p1), .val (.int p2), .val (.int p3), .unset, .unset, .unset] [(.int (122 : Int32)), (.int (4 : Int32)), (.ref b4), (.ref b4)])) _
    exact q) (hb hby at_28)
  clear S4
  have S6 : own_At p l e s m #[(.int p1), (.int p2), (.int p3)] below meth c s₁ Z n0 b4 #[.val (.int p1), .val (.int p2), .val (.int p3), .unset, .unset, .unset] (32 : Int32) 32 35 := own_store S5 hx hZ gb (5 : Int32) (192 : Int32) 34 (by decide) (by
    intro T L X target q
    show Steps p.tables e below (T.setTop (mkF m 29 #[.val (.int p1), .val (.int p2), .val (.int p3), .unset, .unset, .unset] [(.ref b4)])) _
    refine XS.dup X.here hx rfl (hb hby at_29) rfl rfl ?_
    show Steps p.tables e below (T.setTop (mkF m 30 #[.val (.int p1), .val (.int p2), .val (.int p3), .unset, .unset, .unset] [(.ref b4), (.ref b4)])) _
    refine XS.iconst X.here hx rfl (hb hby at_30) ?_
    show Steps p.tables e below (T.setTop (mkF m 31 #[.val (.int p1), .val (.int p2), .val (.int p3), .unset, .unset, .unset] [(.int (5 : Int32)), (.ref b4), (.ref b4)])) _
    refine XS.sipush X.here hx rfl (hb hby at_31) ?_
    show Steps p.tables e below (T.setTop (mkF m 34 #[.val (.int p1), .val (.int p2), .val (.int p3), .unset, .unset, .unset] [(.int (192 : Int32)), (.int (5 : Int32)), (.ref b4), (.ref b4)])) _
    exact q) (hb hby at_34)
  clear S5
  have S7 : own_At p l e s m #[(.int p1), (.int p2), (.int p3)] below meth c s₁ Z n0 b4 #[.val (.int p1), .val (.int p2), .val (.int p3), .unset, .unset, .unset] (32 : Int32) 32 42 := own_store S6 hx hZ gb (6 : Int32) (214 : Int32) 41 (by decide) (by
    intro T L X target q
    show Steps p.tables e below (T.setTop (mkF m 35 #[.val (.int p1), .val (.int p2), .val (.int p3), .unset, .unset, .unset] [(.ref b4)])) _
    refine XS.dup X.here hx rfl (hb hby at_35) rfl rfl ?_
    show Steps p.tables e below (T.setTop (mkF m 36 #[.val (.int p1), .val (.int p2), .val (.int p3), .unset, .unset, .unset] [(.ref b4), (.ref b4)])) _
    refine XS.bipush X.here hx rfl (hb hby at_36) ?_
    show Steps p.tables e below (T.setTop (mkF m 38 #[.val (.int p1), .val (.int p2), .val (.int p3), .unset, .unset, .unset] [(.int (6 : Int32)), (.ref b4), (.ref b4)])) _
    refine XS.sipush X.here hx rfl (hb hby at_38) ?_
    show Steps p.tables e below (T.setTop (mkF m 41 #[.val (.int p1), .val (.int p2), .val (.int p3), .unset, .unset, .unset] [(.int (214 : Int32)), (.int (6 : Int32)), (.ref b4), (.ref b4)])) _
    exact q) (hb hby at_41)
  clear S6
  have S8 : own_At p l e s m #[(.int p1), (.int p2), (.int p3)] below meth c s₁ Z n0 b4 #[.val (.int p1), .val (.int p2), .val (.int p3), .unset, .unset, .unset] (32 : Int32) 32 49 := own_store S7 hx hZ gb (7 : Int32) (216 : Int32) 48 (by decide) (by
    intro T L X target q
    show Steps p.tables e below (T.setTop (mkF m 42 #[.val (.int p1), .val (.int p2), .val (.int p3), .unset, .unset, .unset] [(.ref b4)])) _
    refine XS.dup X.here hx rfl (hb hby at_42) rfl rfl ?_
    show Steps p.tables e below (T.setTop (mkF m 43 #[.val (.int p1), .val (.int p2), .val (.int p3), .unset, .unset, .unset] [(.ref b4), (.ref b4)])) _
    refine XS.bipush X.here hx rfl (hb hby at_43) ?_
    show Steps p.tables e below (T.setTop (mkF m 45 #[.val (.int p1), .val (.int p2), .val (.int p3), .unset, .unset, .unset] [(.int (7 : Int32)), (.ref b4), (.ref b4)])) _
    refine XS.sipush X.here hx rfl (hb hby at_45) ?_
    show Steps p.tables e below (T.setTop (mkF m 48 #[.val (.int p1), .val (.int p2), .val (.int p3), .unset, .unset, .unset] [(.int (216 : Int32)), (.int (7 : Int32)), (.ref b4), (.ref b4)])) _
    exact q) (hb hby at_48)
  clear S7
  have S9 : own_At p l e s m #[(.int p1), (.int p2), (.int p3)] below meth c s₁ Z n0 b4 #[.val (.int p1), .val (.int p2), .val (.int p3), .unset, .unset, .unset] (32 : Int32) 32 56 := own_store S8 hx hZ gb (8 : Int32) (246 : Int32) 55 (by decide) (by
    intro T L X target q
    show Steps p.tables e below (T.setTop (mkF m 49 #[.val (.int p1), .val (.int p2), .val (.int p3), .unset, .unset, .unset] [(.ref b4)])) _
    refine XS.dup X.here hx rfl (hb hby at_49) rfl rfl ?_
    show Steps p.tables e below (T.setTop (mkF m 50 #[.val (.int p1), .val (.int p2), .val (.int p3), .unset, .unset, .unset] [(.ref b4), (.ref b4)])) _
    refine XS.bipush X.here hx rfl (hb hby at_50) ?_
    show Steps p.tables e below (T.setTop (mkF m 52 #[.val (.int p1), .val (.int p2), .val (.int p3), .unset, .unset, .unset] [(.int (8 : Int32)), (.ref b4), (.ref b4)])) _
    refine XS.sipush X.here hx rfl (hb hby at_52) ?_
    show Steps p.tables e below (T.setTop (mkF m 55 #[.val (.int p1), .val (.int p2), .val (.int p3), .unset, .unset, .unset] [(.int (246 : Int32)), (.int (8 : Int32)), (.ref b4), (.ref b4)])) _
    exact q) (hb hby at_55)
  clear S8
  have S10 : own_At p l e s m #[(.int p1), (.int p2), (.int p3)] below meth c s₁ Z n0 b4 #[.val (.int p1), .val (.int p2), .val (.int p3), .unset, .unset, .unset] (32 : Int32) 32 63 := own_store S9 hx hZ gb (9 : Int32) (248 : Int32) 62 (by decide) (by
    intro T L X target q
    show Steps p.tables e below (T.setTop (mkF m 56 #[.val (.int p1), .val (.int p2), .val (.int p3), .unset, .unset, .unset] [(.ref b4)])) _
    refine XS.dup X.here hx rfl (hb hby at_56) rfl rfl ?_
    show Steps p.tables e below (T.setTop (mkF m 57 #[.val (.int p1), .val (.int p2), .val (.int p3), .unset, .unset, .unset] [(.ref b4), (.ref b4)])) _
    refine XS.bipush X.here hx rfl (hb hby at_57) ?_
    show Steps p.tables e below (T.setTop (mkF m 59 #[.val (.int p1), .val (.int p2), .val (.int p3), .unset, .unset, .unset] [(.int (9 : Int32)), (.ref b4), (.ref b4)])) _
    refine XS.sipush X.here hx rfl (hb hby at_59) ?_
    show Steps p.tables e below (T.setTop (mkF m 62 #[.val (.int p1), .val (.int p2), .val (.int p3), .unset, .unset, .unset] [(.int (248 : Int32)), (.int (9 : Int32)), (.ref b4), (.ref b4)])) _
    exact q) (hb hby at_62)
  clear S9
  have S11 : own_At p l e s m #[(.int p1), (.int p2), (.int p3)] below meth c s₁ Z n0 b4 #[.val (.int p1), .val (.int p2), .val (.int p3), .unset, .unset, .unset] (32 : Int32) 32 70 := own_store S10 hx hZ gb (10 : Int32) (767 : Int32) 69 (by decide) (by
    intro T L X target q
    show Steps p.tables e below (T.setTop (mkF m 63 #[.val (.int p1), .val (.int p2), .val (.int p3), .unset, .unset, .unset] [(.ref b4)])) _
    refine XS.dup X.here hx rfl (hb hby at_63) rfl rfl ?_
    show Steps p.tables e below (T.setTop (mkF m 64 #[.val (.int p1), .val (.int p2), .val (.int p3), .unset, .unset, .unset] [(.ref b4), (.ref b4)])) _
    refine XS.bipush X.here hx rfl (hb hby at_64) ?_
    show Steps p.tables e below (T.setTop (mkF m 66 #[.val (.int p1), .val (.int p2), .val (.int p3), .unset, .unset, .unset] [(.int (10 : Int32)), (.ref b4), (.ref b4)])) _
    refine XS.sipush X.here hx rfl (hb hby at_66) ?_
    show Steps p.tables e below (T.setTop (mkF m 69 #[.val (.int p1), .val (.int p2), .val (.int p3), .unset, .unset, .unset] [(.int (767 : Int32)), (.int (10 : Int32)), (.ref b4), (.ref b4)])) _
    exact q) (hb hby at_69)
  clear S10
  have S12 : own_At p l e s m #[(.int p1), (.int p2), (.int p3)] below meth c s₁ Z n0 b4 #[.val (.int p1), .val (.int p2), .val (.int p3), .unset, .unset, .unset] (32 : Int32) 32 77 := own_store S11 hx hZ gb (11 : Int32) (880 : Int32) 76 (by decide) (by
    intro T L X target q
    show Steps p.tables e below (T.setTop (mkF m 70 #[.val (.int p1), .val (.int p2), .val (.int p3), .unset, .unset, .unset] [(.ref b4)])) _
    refine XS.dup X.here hx rfl (hb hby at_70) rfl rfl ?_
    show Steps p.tables e below (T.setTop (mkF m 71 #[.val (.int p1), .val (.int p2), .val (.int p3), .unset, .unset, .unset] [(.ref b4), (.ref b4)])) _
    refine XS.bipush X.here hx rfl (hb hby at_71) ?_
    show Steps p.tables e below (T.setTop (mkF m 73 #[.val (.int p1), .val (.int p2), .val (.int p3), .unset, .unset, .unset] [(.int (11 : Int32)), (.ref b4), (.ref b4)])) _
    refine XS.sipush X.here hx rfl (hb hby at_73) ?_
    show Steps p.tables e below (T.setTop (mkF m 76 #[.val (.int p1), .val (.int p2), .val (.int p3), .unset, .unset, .unset] [(.int (880 : Int32)), (.int (11 : Int32)), (.ref b4), (.ref b4)])) _
    exact q) (hb hby at_76)
  clear S11
  have S13 : own_At p l e s m #[(.int p1), (.int p2), (.int p3)] below meth c s₁ Z n0 b4 #[.val (.int p1), .val (.int p2), .val (.int p3), .unset, .unset, .unset] (32 : Int32) 32 84 := own_store S12 hx hZ gb (12 : Int32) (893 : Int32) 83 (by decide) (by
    intro T L X target q
    show Steps p.tables e below (T.setTop (mkF m 77 #[.val (.int p1), .val (.int p2), .val (.int p3), .unset, .unset, .unset] [(.ref b4)])) _
    refine XS.dup X.here hx rfl (hb hby at_77) rfl rfl ?_
    show Steps p.tables e below (T.setTop (mkF m 78 #[.val (.int p1), .val (.int p2), .val (.int p3), .unset, .unset, .unset] [(.ref b4), (.ref b4)])) _
    refine XS.bipush X.here hx rfl (hb hby at_78) ?_
    show Steps p.tables e below (T.setTop (mkF m 80 #[.val (.int p1), .val (.int p2), .val (.int p3), .unset, .unset, .unset] [(.int (12 : Int32)), (.ref b4), (.ref b4)])) _
    refine XS.sipush X.here hx rfl (hb hby at_80) ?_
    show Steps p.tables e below (T.setTop (mkF m 83 #[.val (.int p1), .val (.int p2), .val (.int p3), .unset, .unset, .unset] [(.int (893 : Int32)), (.int (12 : Int32)), (.ref b4), (.ref b4)])) _
    exact q) (hb hby at_83)
  clear S12
  have S14 : own_At p l e s m #[(.int p1), (.int p2), (.int p3)] below meth c s₁ Z n0 b4 #[.val (.int p1), .val (.int p2), .val (.int p3), .unset, .unset, .unset] (32 : Int32) 32 91 := own_store S13 hx hZ gb (13 : Int32) (895 : Int32) 90 (by decide) (by
    intro T L X target q
    show Steps p.tables e below (T.setTop (mkF m 84 #[.val (.int p1), .val (.int p2), .val (.int p3), .unset, .unset, .unset] [(.ref b4)])) _
    refine XS.dup X.here hx rfl (hb hby at_84) rfl rfl ?_
    show Steps p.tables e below (T.setTop (mkF m 85 #[.val (.int p1), .val (.int p2), .val (.int p3), .unset, .unset, .unset] [(.ref b4), (.ref b4)])) _
    refine XS.bipush X.here hx rfl (hb hby at_85) ?_
    show Steps p.tables e below (T.setTop (mkF m 87 #[.val (.int p1), .val (.int p2), .val (.int p3), .unset, .unset, .unset] [(.int (13 : Int32)), (.ref b4), (.ref b4)])) _
    refine XS.sipush X.here hx rfl (hb hby at_87) ?_
    show Steps p.tables e below (T.setTop (mkF m 90 #[.val (.int p1), .val (.int p2), .val (.int p3), .unset, .unset, .unset] [(.int (895 : Int32)), (.int (13 : Int32)), (.ref b4), (.ref b4)])) _
    exact q) (hb hby at_90)
  clear S13
  have S15 : own_At p l e s m #[(.int p1), (.int p2), (.int p3)] below meth c s₁ Z n0 b4 #[.val (.int p1), .val (.int p2), .val (.int p3), .unset, .unset, .unset] (32 : Int32) 32 98 := own_store S14 hx hZ gb (14 : Int32) (8191 : Int32) 97 (by decide) (by
    intro T L X target q
    show Steps p.tables e below (T.setTop (mkF m 91 #[.val (.int p1), .val (.int p2), .val (.int p3), .unset, .unset, .unset] [(.ref b4)])) _
    refine XS.dup X.here hx rfl (hb hby at_91) rfl rfl ?_
    show Steps p.tables e below (T.setTop (mkF m 92 #[.val (.int p1), .val (.int p2), .val (.int p3), .unset, .unset, .unset] [(.ref b4), (.ref b4)])) _
    refine XS.bipush X.here hx rfl (hb hby at_92) ?_
    show Steps p.tables e below (T.setTop (mkF m 94 #[.val (.int p1), .val (.int p2), .val (.int p3), .unset, .unset, .unset] [(.int (14 : Int32)), (.ref b4), (.ref b4)])) _
    refine XS.sipush X.here hx rfl (hb hby at_94) ?_
    show Steps p.tables e below (T.setTop (mkF m 97 #[.val (.int p1), .val (.int p2), .val (.int p3), .unset, .unset, .unset] [(.int (8191 : Int32)), (.int (14 : Int32)), (.ref b4), (.ref b4)])) _
    exact q) (hb hby at_97)
  clear S14
  have S16 : own_At p l e s m #[(.int p1), (.int p2), (.int p3)] below meth c s₁ Z n0 b4 #[.val (.int p1), .val (.int p2), .val (.int p3), .unset, .unset, .unset] (32 : Int32) 32 105 := own_store S15 hx hZ gb (15 : Int32) (8204 : Int32) 104 (by decide) (by
    intro T L X target q
    show Steps p.tables e below (T.setTop (mkF m 98 #[.val (.int p1), .val (.int p2), .val (.int p3), .unset, .unset, .unset] [(.ref b4)])) _
    refine XS.dup X.here hx rfl (hb hby at_98) rfl rfl ?_
    show Steps p.tables e below (T.setTop (mkF m 99 #[.val (.int p1), .val (.int p2), .val (.int p3), .unset, .unset, .unset] [(.ref b4), (.ref b4)])) _
    refine XS.bipush X.here hx rfl (hb hby at_99) ?_
    show Steps p.tables e below (T.setTop (mkF m 101 #[.val (.int p1), .val (.int p2), .val (.int p3), .unset, .unset, .unset] [(.int (15 : Int32)), (.ref b4), (.ref b4)])) _
    refine XS.sipush X.here hx rfl (hb hby at_101) ?_
    show Steps p.tables e below (T.setTop (mkF m 104 #[.val (.int p1), .val (.int p2), .val (.int p3), .unset, .unset, .unset] [(.int (8204 : Int32)), (.int (15 : Int32)), (.ref b4), (.ref b4)])) _
    exact q) (hb hby at_104)
  clear S15
  have S17 : own_At p l e s m #[(.int p1), (.int p2), (.int p3)] below meth c s₁ Z n0 b4 #[.val (.int p1), .val (.int p2), .val (.int p3), .unset, .unset, .unset] (32 : Int32) 32 112 := own_store S16 hx hZ gb (16 : Int32) (8205 : Int32) 111 (by decide) (by
    intro T L X target q
    show Steps p.tables e below (T.setTop (mkF m 105 #[.val (.int p1), .val (.int p2), .val (.int p3), .unset, .unset, .unset] [(.ref b4)])) _
    refine XS.dup X.here hx rfl (hb hby at_105) rfl rfl ?_
    show Steps p.tables e below (T.setTop (mkF m 106 #[.val (.int p1), .val (.int p2), .val (.int p3), .unset, .unset, .unset] [(.ref b4), (.ref b4)])) _
    refine XS.bipush X.here hx rfl (hb hby at_106) ?_
    show Steps p.tables e below (T.setTop (mkF m 108 #[.val (.int p1), .val (.int p2), .val (.int p3), .unset, .unset, .unset] [(.int (16 : Int32)), (.ref b4), (.ref b4)])) _
    refine XS.sipush X.here hx rfl (hb hby at_108) ?_
    show Steps p.tables e below (T.setTop (mkF m 111 #[.val (.int p1), .val (.int p2), .val (.int p3), .unset, .unset, .unset] [(.int (8205 : Int32)), (.int (16 : Int32)), (.ref b4), (.ref b4)])) _
    exact q) (hb hby at_111)
  clear S16
  have S18 : own_At p l e s m #[(.int p1), (.int p2), (.int p3)] below meth c s₁ Z n0 b4 #[.val (.int p1), .val (.int p2), .val (.int p3), .unset, .unset, .unset] (32 : Int32) 32 119 := own_store S17 hx hZ gb (17 : Int32) (8304 : Int32) 118 (by decide) (by
    intro T L X target q
    show Steps p.tables e below (T.setTop (mkF m 112 #[.val (.int p1), .val (.int p2), .val (.int p3), .unset, .unset, .unset] [(.ref b4)])) _
    refine XS.dup X.here hx rfl (hb hby at_112) rfl rfl ?_
    show Steps p.tables e below (T.setTop (mkF m 113 #[.val (.int p1), .val (.int p2), .val (.int p3), .unset, .unset, .unset] [(.ref b4), (.ref b4)])) _
    refine XS.bipush X.here hx rfl (hb hby at_113) ?_
    show Steps p.tables e below (T.setTop (mkF m 115 #[.val (.int p1), .val (.int p2), .val (.int p3), .unset, .unset, .unset] [(.int (17 : Int32)), (.ref b4), (.ref b4)])) _
    refine XS.sipush X.here hx rfl (hb hby at_115) ?_
    show Steps p.tables e below (T.setTop (mkF m 118 #[.val (.int p1), .val (.int p2), .val (.int p3), .unset, .unset, .unset] [(.int (8304 : Int32)), (.int (17 : Int32)), (.ref b4), (.ref b4)])) _
    exact q) (hb hby at_118)
  clear S17
  have S19 : own_At p l e s m #[(.int p1), (.int p2), (.int p3)] below meth c s₁ Z n0 b4 #[.val (.int p1), .val (.int p2), .val (.int p3), .unset, .unset, .unset] (32 : Int32) 32 126 := own_store S18 hx hZ gb (18 : Int32) (8591 : Int32) 125 (by decide) (by
    intro T L X target q
    show Steps p.tables e below (T.setTop (mkF m 119 #[.val (.int p1), .val (.int p2), .val (.int p3), .unset, .unset, .unset] [(.ref b4)])) _
    refine XS.dup X.here hx rfl (hb hby at_119) rfl rfl ?_
    show Steps p.tables e below (T.setTop (mkF m 120 #[.val (.int p1), .val (.int p2), .val (.int p3), .unset, .unset, .unset] [(.ref b4), (.ref b4)])) _
    refine XS.bipush X.here hx rfl (hb hby at_120) ?_
    show Steps p.tables e below (T.setTop (mkF m 122 #[.val (.int p1), .val (.int p2), .val (.int p3), .unset, .unset, .unset] [(.int (18 : Int32)), (.ref b4), (.ref b4)])) _
    refine XS.sipush X.here hx rfl (hb hby at_122) ?_
    show Steps p.tables e below (T.setTop (mkF m 125 #[.val (.int p1), .val (.int p2), .val (.int p3), .unset, .unset, .unset] [(.int (8591 : Int32)), (.int (18 : Int32)), (.ref b4), (.ref b4)])) _
    exact q) (hb hby at_125)
  clear S18
  have S20 : own_At p l e s m #[(.int p1), (.int p2), (.int p3)] below meth c s₁ Z n0 b4 #[.val (.int p1), .val (.int p2), .val (.int p3), .unset, .unset, .unset] (32 : Int32) 32 133 := own_store S19 hx hZ gb (19 : Int32) (11264 : Int32) 132 (by decide) (by
    intro T L X target q
    show Steps p.tables e below (T.setTop (mkF m 126 #[.val (.int p1), .val (.int p2), .val (.int p3), .unset, .unset, .unset] [(.ref b4)])) _
    refine XS.dup X.here hx rfl (hb hby at_126) rfl rfl ?_
    show Steps p.tables e below (T.setTop (mkF m 127 #[.val (.int p1), .val (.int p2), .val (.int p3), .unset, .unset, .unset] [(.ref b4), (.ref b4)])) _
    refine XS.bipush X.here hx rfl (hb hby at_127) ?_
    show Steps p.tables e below (T.setTop (mkF m 129 #[.val (.int p1), .val (.int p2), .val (.int p3), .unset, .unset, .unset] [(.int (19 : Int32)), (.ref b4), (.ref b4)])) _
    refine XS.sipush X.here hx rfl (hb hby at_129) ?_
    show Steps p.tables e below (T.setTop (mkF m 132 #[.val (.int p1), .val (.int p2), .val (.int p3), .unset, .unset, .unset] [(.int (11264 : Int32)), (.int (19 : Int32)), (.ref b4), (.ref b4)])) _
    exact q) (hb hby at_132)
  clear S19
  have S21 : own_At p l e s m #[(.int p1), (.int p2), (.int p3)] below meth c s₁ Z n0 b4 #[.val (.int p1), .val (.int p2), .val (.int p3), .unset, .unset, .unset] (32 : Int32) 32 140 := own_store S20 hx hZ gb (20 : Int32) (12271 : Int32) 139 (by decide) (by
    intro T L X target q
    show Steps p.tables e below (T.setTop (mkF m 133 #[.val (.int p1), .val (.int p2), .val (.int p3), .unset, .unset, .unset] [(.ref b4)])) _
    refine XS.dup X.here hx rfl (hb hby at_133) rfl rfl ?_
    show Steps p.tables e below (T.setTop (mkF m 134 #[.val (.int p1), .val (.int p2), .val (.int p3), .unset, .unset, .unset] [(.ref b4), (.ref b4)])) _
    refine XS.bipush X.here hx rfl (hb hby at_134) ?_
    show Steps p.tables e below (T.setTop (mkF m 136 #[.val (.int p1), .val (.int p2), .val (.int p3), .unset, .unset, .unset] [(.int (20 : Int32)), (.ref b4), (.ref b4)])) _
    refine XS.sipush X.here hx rfl (hb hby at_136) ?_
    show Steps p.tables e below (T.setTop (mkF m 139 #[.val (.int p1), .val (.int p2), .val (.int p3), .unset, .unset, .unset] [(.int (12271 : Int32)), (.int (20 : Int32)), (.ref b4), (.ref b4)])) _
    exact q) (hb hby at_139)
  clear S20
  have S22 : own_At p l e s m #[(.int p1), (.int p2), (.int p3)] below meth c s₁ Z n0 b4 #[.val (.int p1), .val (.int p2), .val (.int p3), .unset, .unset, .unset] (32 : Int32) 32 147 := own_store S21 hx hZ gb (21 : Int32) (12289 : Int32) 146 (by decide) (by
    intro T L X target q
    show Steps p.tables e below (T.setTop (mkF m 140 #[.val (.int p1), .val (.int p2), .val (.int p3), .unset, .unset, .unset] [(.ref b4)])) _
    refine XS.dup X.here hx rfl (hb hby at_140) rfl rfl ?_
    show Steps p.tables e below (T.setTop (mkF m 141 #[.val (.int p1), .val (.int p2), .val (.int p3), .unset, .unset, .unset] [(.ref b4), (.ref b4)])) _
    refine XS.bipush X.here hx rfl (hb hby at_141) ?_
    show Steps p.tables e below (T.setTop (mkF m 143 #[.val (.int p1), .val (.int p2), .val (.int p3), .unset, .unset, .unset] [(.int (21 : Int32)), (.ref b4), (.ref b4)])) _
    refine XS.sipush X.here hx rfl (hb hby at_143) ?_
    show Steps p.tables e below (T.setTop (mkF m 146 #[.val (.int p1), .val (.int p2), .val (.int p3), .unset, .unset, .unset] [(.int (12289 : Int32)), (.int (21 : Int32)), (.ref b4), (.ref b4)])) _
    exact q) (hb hby at_146)
  clear S21
  have S23 : own_At p l e s m #[(.int p1), (.int p2), (.int p3)] below meth c s₁ Z n0 b4 #[.val (.int p1), .val (.int p2), .val (.int p3), .unset, .unset, .unset] (32 : Int32) 32 153 := own_store S22 hx hZ gb (22 : Int32) (55295 : Int32) 152 (by decide) (by
    intro T L X target q
    show Steps p.tables e below (T.setTop (mkF m 147 #[.val (.int p1), .val (.int p2), .val (.int p3), .unset, .unset, .unset] [(.ref b4)])) _
    refine XS.dup X.here hx rfl (hb hby at_147) rfl rfl ?_
    show Steps p.tables e below (T.setTop (mkF m 148 #[.val (.int p1), .val (.int p2), .val (.int p3), .unset, .unset, .unset] [(.ref b4), (.ref b4)])) _
    refine XS.bipush X.here hx rfl (hb hby at_148) ?_
    show Steps p.tables e below (T.setTop (mkF m 150 #[.val (.int p1), .val (.int p2), .val (.int p3), .unset, .unset, .unset] [(.int (22 : Int32)), (.ref b4), (.ref b4)])) _
    refine X.ldcI hx hown (mvT hZ (hw _ (List.mem_of_getElem? (i := 1) rfl))) rfl (hb hby at_150) ?_
    show Steps p.tables e below (T.setTop (mkF m 152 #[.val (.int p1), .val (.int p2), .val (.int p3), .unset, .unset, .unset] [(.int (55295 : Int32)), (.int (22 : Int32)), (.ref b4), (.ref b4)])) _
    exact q) (hb hby at_152)
  clear S22
  have S24 : own_At p l e s m #[(.int p1), (.int p2), (.int p3)] below meth c s₁ Z n0 b4 #[.val (.int p1), .val (.int p2), .val (.int p3), .unset, .unset, .unset] (32 : Int32) 32 159 := own_store S23 hx hZ gb (23 : Int32) (63744 : Int32) 158 (by decide) (by
    intro T L X target q
    show Steps p.tables e below (T.setTop (mkF m 153 #[.val (.int p1), .val (.int p2), .val (.int p3), .unset, .unset, .unset] [(.ref b4)])) _
    refine XS.dup X.here hx rfl (hb hby at_153) rfl rfl ?_
    show Steps p.tables e below (T.setTop (mkF m 154 #[.val (.int p1), .val (.int p2), .val (.int p3), .unset, .unset, .unset] [(.ref b4), (.ref b4)])) _
    refine XS.bipush X.here hx rfl (hb hby at_154) ?_
    show Steps p.tables e below (T.setTop (mkF m 156 #[.val (.int p1), .val (.int p2), .val (.int p3), .unset, .unset, .unset] [(.int (23 : Int32)), (.ref b4), (.ref b4)])) _
    refine X.ldcI hx hown (mvT hZ (hw _ (List.mem_of_getElem? (i := 2) rfl))) rfl (hb hby at_156) ?_
    show Steps p.tables e below (T.setTop (mkF m 158 #[.val (.int p1), .val (.int p2), .val (.int p3), .unset, .unset, .unset] [(.int (63744 : Int32)), (.int (23 : Int32)), (.ref b4), (.ref b4)])) _
    exact q) (hb hby at_158)
  clear S23
  have S25 : own_At p l e s m #[(.int p1), (.int p2), (.int p3)] below meth c s₁ Z n0 b4 #[.val (.int p1), .val (.int p2), .val (.int p3), .unset, .unset, .unset] (32 : Int32) 32 165 := own_store S24 hx hZ gb (24 : Int32) (64975 : Int32) 164 (by decide) (by
    intro T L X target q
    show Steps p.tables e below (T.setTop (mkF m 159 #[.val (.int p1), .val (.int p2), .val (.int p3), .unset, .unset, .unset] [(.ref b4)])) _
    refine XS.dup X.here hx rfl (hb hby at_159) rfl rfl ?_
    show Steps p.tables e below (T.setTop (mkF m 160 #[.val (.int p1), .val (.int p2), .val (.int p3), .unset, .unset, .unset] [(.ref b4), (.ref b4)])) _
    refine XS.bipush X.here hx rfl (hb hby at_160) ?_
    show Steps p.tables e below (T.setTop (mkF m 162 #[.val (.int p1), .val (.int p2), .val (.int p3), .unset, .unset, .unset] [(.int (24 : Int32)), (.ref b4), (.ref b4)])) _
    refine X.ldcI hx hown (mvT hZ (hw _ (List.mem_of_getElem? (i := 3) rfl))) rfl (hb hby at_162) ?_
    show Steps p.tables e below (T.setTop (mkF m 164 #[.val (.int p1), .val (.int p2), .val (.int p3), .unset, .unset, .unset] [(.int (64975 : Int32)), (.int (24 : Int32)), (.ref b4), (.ref b4)])) _
    exact q) (hb hby at_164)
  clear S24
  have S26 : own_At p l e s m #[(.int p1), (.int p2), (.int p3)] below meth c s₁ Z n0 b4 #[.val (.int p1), .val (.int p2), .val (.int p3), .unset, .unset, .unset] (32 : Int32) 32 171 := own_store S25 hx hZ gb (25 : Int32) (65008 : Int32) 170 (by decide) (by
    intro T L X target q
    show Steps p.tables e below (T.setTop (mkF m 165 #[.val (.int p1), .val (.int p2), .val (.int p3), .unset, .unset, .unset] [(.ref b4)])) _
    refine XS.dup X.here hx rfl (hb hby at_165) rfl rfl ?_
    show Steps p.tables e below (T.setTop (mkF m 166 #[.val (.int p1), .val (.int p2), .val (.int p3), .unset, .unset, .unset] [(.ref b4), (.ref b4)])) _
    refine XS.bipush X.here hx rfl (hb hby at_166) ?_
    show Steps p.tables e below (T.setTop (mkF m 168 #[.val (.int p1), .val (.int p2), .val (.int p3), .unset, .unset, .unset] [(.int (25 : Int32)), (.ref b4), (.ref b4)])) _
    refine X.ldcI hx hown (mvT hZ (hw _ (List.mem_of_getElem? (i := 4) rfl))) rfl (hb hby at_168) ?_
    show Steps p.tables e below (T.setTop (mkF m 170 #[.val (.int p1), .val (.int p2), .val (.int p3), .unset, .unset, .unset] [(.int (65008 : Int32)), (.int (25 : Int32)), (.ref b4), (.ref b4)])) _
    exact q) (hb hby at_170)
  clear S25
  have S27 : own_At p l e s m #[(.int p1), (.int p2), (.int p3)] below meth c s₁ Z n0 b4 #[.val (.int p1), .val (.int p2), .val (.int p3), .unset, .unset, .unset] (32 : Int32) 32 177 := own_store S26 hx hZ gb (26 : Int32) (65533 : Int32) 176 (by decide) (by
    intro T L X target q
    show Steps p.tables e below (T.setTop (mkF m 171 #[.val (.int p1), .val (.int p2), .val (.int p3), .unset, .unset, .unset] [(.ref b4)])) _
    refine XS.dup X.here hx rfl (hb hby at_171) rfl rfl ?_
    show Steps p.tables e below (T.setTop (mkF m 172 #[.val (.int p1), .val (.int p2), .val (.int p3), .unset, .unset, .unset] [(.ref b4), (.ref b4)])) _
    refine XS.bipush X.here hx rfl (hb hby at_172) ?_
    show Steps p.tables e below (T.setTop (mkF m 174 #[.val (.int p1), .val (.int p2), .val (.int p3), .unset, .unset, .unset] [(.int (26 : Int32)), (.ref b4), (.ref b4)])) _
    refine X.ldcI hx hown (mvT hZ (hw _ (List.mem_of_getElem? (i := 5) rfl))) rfl (hb hby at_174) ?_
    show Steps p.tables e below (T.setTop (mkF m 176 #[.val (.int p1), .val (.int p2), .val (.int p3), .unset, .unset, .unset] [(.int (65533 : Int32)), (.int (26 : Int32)), (.ref b4), (.ref b4)])) _
    exact q) (hb hby at_176)
  clear S26
  have S28 : own_At p l e s m #[(.int p1), (.int p2), (.int p3)] below meth c s₁ Z n0 b4 #[.val (.int p1), .val (.int p2), .val (.int p3), .unset, .unset, .unset] (32 : Int32) 32 183 := own_store S27 hx hZ gb (27 : Int32) (65536 : Int32) 182 (by decide) (by
    intro T L X target q
    show Steps p.tables e below (T.setTop (mkF m 177 #[.val (.int p1), .val (.int p2), .val (.int p3), .unset, .unset, .unset] [(.ref b4)])) _
    refine XS.dup X.here hx rfl (hb hby at_177) rfl rfl ?_
    show Steps p.tables e below (T.setTop (mkF m 178 #[.val (.int p1), .val (.int p2), .val (.int p3), .unset, .unset, .unset] [(.ref b4), (.ref b4)])) _
    refine XS.bipush X.here hx rfl (hb hby at_178) ?_
    show Steps p.tables e below (T.setTop (mkF m 180 #[.val (.int p1), .val (.int p2), .val (.int p3), .unset, .unset, .unset] [(.int (27 : Int32)), (.ref b4), (.ref b4)])) _
    refine X.ldcI hx hown (mvT hZ (hw _ (List.mem_of_getElem? (i := 6) rfl))) rfl (hb hby at_180) ?_
    show Steps p.tables e below (T.setTop (mkF m 182 #[.val (.int p1), .val (.int p2), .val (.int p3), .unset, .unset, .unset] [(.int (65536 : Int32)), (.int (27 : Int32)), (.ref b4), (.ref b4)])) _
    exact q) (hb hby at_182)
  clear S27
  have S29 : own_At p l e s m #[(.int p1), (.int p2), (.int p3)] below meth c s₁ Z n0 b4 #[.val (.int p1), .val (.int p2), .val (.int p3), .unset, .unset, .unset] (32 : Int32) 32 189 := own_store S28 hx hZ gb (28 : Int32) (983039 : Int32) 188 (by decide) (by
    intro T L X target q
    show Steps p.tables e below (T.setTop (mkF m 183 #[.val (.int p1), .val (.int p2), .val (.int p3), .unset, .unset, .unset] [(.ref b4)])) _
    refine XS.dup X.here hx rfl (hb hby at_183) rfl rfl ?_
    show Steps p.tables e below (T.setTop (mkF m 184 #[.val (.int p1), .val (.int p2), .val (.int p3), .unset, .unset, .unset] [(.ref b4), (.ref b4)])) _
    refine XS.bipush X.here hx rfl (hb hby at_184) ?_
    show Steps p.tables e below (T.setTop (mkF m 186 #[.val (.int p1), .val (.int p2), .val (.int p3), .unset, .unset, .unset] [(.int (28 : Int32)), (.ref b4), (.ref b4)])) _
    refine X.ldcI hx hown (mvT hZ (hw _ (List.mem_of_getElem? (i := 7) rfl))) rfl (hb hby at_186) ?_
    show Steps p.tables e below (T.setTop (mkF m 188 #[.val (.int p1), .val (.int p2), .val (.int p3), .unset, .unset, .unset] [(.int (983039 : Int32)), (.int (28 : Int32)), (.ref b4), (.ref b4)])) _
    exact q) (hb hby at_188)
  clear S28
  have S30 : own_At p l e s m #[(.int p1), (.int p2), (.int p3)] below meth c s₁ Z n0 b4 #[.val (.int p1), .val (.int p2), .val (.int p3), .unset, .unset, .unset] (32 : Int32) 32 194 := own_store S29 hx hZ gb (29 : Int32) (0 : Int32) 193 (by decide) (by
    intro T L X target q
    show Steps p.tables e below (T.setTop (mkF m 189 #[.val (.int p1), .val (.int p2), .val (.int p3), .unset, .unset, .unset] [(.ref b4)])) _
    refine XS.dup X.here hx rfl (hb hby at_189) rfl rfl ?_
    show Steps p.tables e below (T.setTop (mkF m 190 #[.val (.int p1), .val (.int p2), .val (.int p3), .unset, .unset, .unset] [(.ref b4), (.ref b4)])) _
    refine XS.bipush X.here hx rfl (hb hby at_190) ?_
    show Steps p.tables e below (T.setTop (mkF m 192 #[.val (.int p1), .val (.int p2), .val (.int p3), .unset, .unset, .unset] [(.int (29 : Int32)), (.ref b4), (.ref b4)])) _
    refine XS.iconst X.here hx rfl (hb hby at_192) ?_
    show Steps p.tables e below (T.setTop (mkF m 193 #[.val (.int p1), .val (.int p2), .val (.int p3), .unset, .unset, .unset] [(.int (0 : Int32)), (.int (29 : Int32)), (.ref b4), (.ref b4)])) _
    exact q) (hb hby at_193)
  clear S29
  have S31 : own_At p l e s m #[(.int p1), (.int p2), (.int p3)] below meth c s₁ Z n0 b4 #[.val (.int p1), .val (.int p2), .val (.int p3), .unset, .unset, .unset] (32 : Int32) 32 200 := own_store S30 hx hZ gb (30 : Int32) (2147483647 : Int32) 199 (by decide) (by
    intro T L X target q
    show Steps p.tables e below (T.setTop (mkF m 194 #[.val (.int p1), .val (.int p2), .val (.int p3), .unset, .unset, .unset] [(.ref b4)])) _
    refine XS.dup X.here hx rfl (hb hby at_194) rfl rfl ?_
    show Steps p.tables e below (T.setTop (mkF m 195 #[.val (.int p1), .val (.int p2), .val (.int p3), .unset, .unset, .unset] [(.ref b4), (.ref b4)])) _
    refine XS.bipush X.here hx rfl (hb hby at_195) ?_
    show Steps p.tables e below (T.setTop (mkF m 197 #[.val (.int p1), .val (.int p2), .val (.int p3), .unset, .unset, .unset] [(.int (30 : Int32)), (.ref b4), (.ref b4)])) _
    refine X.ldcI hx hown (mvT hZ (hw _ (List.mem_of_getElem? (i := 8) rfl))) rfl (hb hby at_197) ?_
    show Steps p.tables e below (T.setTop (mkF m 199 #[.val (.int p1), .val (.int p2), .val (.int p3), .unset, .unset, .unset] [(.int (2147483647 : Int32)), (.int (30 : Int32)), (.ref b4), (.ref b4)])) _
    exact q) (hb hby at_199)
  clear S30
  have S32 : own_At p l e s m #[(.int p1), (.int p2), (.int p3)] below meth c s₁ Z n0 b4 #[.val (.int p1), .val (.int p2), .val (.int p3), .unset, .unset, .unset] (32 : Int32) 32 206 := own_store S31 hx hZ gb (31 : Int32) (-2147483648 : Int32) 205 (by decide) (by
    intro T L X target q
    show Steps p.tables e below (T.setTop (mkF m 200 #[.val (.int p1), .val (.int p2), .val (.int p3), .unset, .unset, .unset] [(.ref b4)])) _
    refine XS.dup X.here hx rfl (hb hby at_200) rfl rfl ?_
    show Steps p.tables e below (T.setTop (mkF m 201 #[.val (.int p1), .val (.int p2), .val (.int p3), .unset, .unset, .unset] [(.ref b4), (.ref b4)])) _
    refine XS.bipush X.here hx rfl (hb hby at_201) ?_
    show Steps p.tables e below (T.setTop (mkF m 203 #[.val (.int p1), .val (.int p2), .val (.int p3), .unset, .unset, .unset] [(.int (31 : Int32)), (.ref b4), (.ref b4)])) _
    refine X.ldcI hx hown (mvT hZ (hw _ (List.mem_of_getElem? (i := 9) rfl))) rfl (hb hby at_203) ?_
    show Steps p.tables e below (T.setTop (mkF m 205 #[.val (.int p1), .val (.int p2), .val (.int p3), .unset, .unset, .unset] [(.int (-2147483648 : Int32)), (.int (31 : Int32)), (.ref b4), (.ref b4)])) _
    exact q) (hb hby at_205)
  clear S31
  obtain ⟨T5, h5, L5, X5, e5, N5, ⟨cl, Ar, Sz, Hv⟩, st5⟩ := S32
  have own_len : cl.slots.size.toInt32 = (32 : Int32) := len_of Sz (by decide)
  have hb1 := own_rem (x := (p2 &&& (2147483647 : Int32))) (32 : Int32) 32 rfl (by decide) (own_mask p2)
  have hin : ¬ (((p2 &&& (2147483647 : Int32)) - ((p2 &&& (2147483647 : Int32)) / (32 : Int32)) * (32 : Int32)) < 0 ∨ cl.slots.size ≤ ((p2 &&& (2147483647 : Int32)) - ((p2 &&& (2147483647 : Int32)) / (32 : Int32)) * (32 : Int32)).toNatClampNeg) := inb_of Sz hb1
  obtain ⟨w0, hat⟩ := Hv ((p2 &&& (2147483647 : Int32)) - ((p2 &&& (2147483647 : Int32)) / (32 : Int32)) * (32 : Int32)).toNatClampNeg (Nat.lt_of_not_le fun q => hin (Or.inr q))
  obtain ⟨v4, v5, seg⟩ : ∃ v4 v5 : Int32, ∀ target, Steps p.tables e below (T5.setTop (mkF m 230 #[.val (.int p1), .val (.int p2), .val (.int p3), .val (.ref b4), .val (.int v4), .val (.int v5)] [])) target → Steps p.tables e below (T5.setTop (mkF m 206 #[.val (.int p1), .val (.int p2), .val (.int p3), .unset, .unset, .unset] [(.ref b4)])) target := by
    refine ⟨(w0 + ((p3 &&& (3 : Int32)) - (1 : Int32))), (p1 &&& (1048575 : Int32)), ?_⟩
    intro target q
    show Steps p.tables e below (T5.setTop (mkF m 206 #[.val (.int p1), .val (.int p2), .val (.int p3), .unset, .unset, .unset] [(.ref b4)])) _
    refine XS.astoreN X5.here hx rfl (hb hby at_206) rfl rfl (l' := #[.val (.int p1), .val (.int p2), .val (.int p3), .val (.ref b4), .unset, .unset]) rfl ?_
    show Steps p.tables e below (T5.setTop (mkF m 207 #[.val (.int p1), .val (.int p2), .val (.int p3), .val (.ref b4), .unset, .unset] [])) _
    refine XS.aloadN X5.here hx rfl (hb hby at_207) rfl rfl ?_
    show Steps p.tables e below (T5.setTop (mkF m 208 #[.val (.int p1), .val (.int p2), .val (.int p3), .val (.ref b4), .unset, .unset] [(.ref b4)])) _
    refine XS.iloadN X5.here hx rfl (hb hby at_208) rfl ?_
    show Steps p.tables e below (T5.setTop (mkF m 209 #[.val (.int p1), .val (.int p2), .val (.int p3), .val (.ref b4), .unset, .unset] [(.int p2), (.ref b4)])) _
    refine X5.ldcI hx hown (mvT hZ (hw _ (List.mem_of_getElem? (i := 8) rfl))) rfl (hb hby at_209) ?_
    show Steps p.tables e below (T5.setTop (mkF m 211 #[.val (.int p1), .val (.int p2), .val (.int p3), .val (.ref b4), .unset, .unset] [(.int (2147483647 : Int32)), (.int p2), (.ref b4)])) _
    refine XS.iand X5.here hx rfl (hb hby at_211) rfl ?_
    show Steps p.tables e below (T5.setTop (mkF m 212 #[.val (.int p1), .val (.int p2), .val (.int p3), .val (.ref b4), .unset, .unset] [(.int (p2 &&& (2147483647 : Int32))), (.ref b4)])) _
    refine XS.aloadN X5.here hx rfl (hb hby at_212) rfl rfl ?_
    show Steps p.tables e below (T5.setTop (mkF m 213 #[.val (.int p1), .val (.int p2), .val (.int p3), .val (.ref b4), .unset, .unset] [(.ref b4), (.int (p2 &&& (2147483647 : Int32))), (.ref b4)])) _
    refine X5.arraylength hx (cell := cl) (by rw [e5]; exact Ar.1) (State.isArrayOf_alike hZ.alike Ar.2.1) (g := (mkF m 213 #[.val (.int p1), .val (.int p2), .val (.int p3), .val (.ref b4), .unset, .unset] [(.ref b4), (.int (p2 &&& (2147483647 : Int32))), (.ref b4)])) rfl (rest := [(.int (p2 &&& (2147483647 : Int32))), (.ref b4)]) rfl (hb hby at_213) _ ?_
    rw [own_len]
    show Steps p.tables e below (T5.setTop (mkF m 214 #[.val (.int p1), .val (.int p2), .val (.int p3), .val (.ref b4), .unset, .unset] [(.int (32 : Int32)), (.int (p2 &&& (2147483647 : Int32))), (.ref b4)])) _
    refine XS.irem X5.here hx rfl (hb hby at_214) rfl (by decide) ?_
    show Steps p.tables e below (T5.setTop (mkF m 215 #[.val (.int p1), .val (.int p2), .val (.int p3), .val (.ref b4), .unset, .unset] [(.int ((p2 &&& (2147483647 : Int32)) - ((p2 &&& (2147483647 : Int32)) / (32 : Int32)) * (32 : Int32))), (.ref b4)])) _
    refine X5.iaload hx (j := ((p2 &&& (2147483647 : Int32)) - ((p2 &&& (2147483647 : Int32)) / (32 : Int32)) * (32 : Int32))) (v := (.int w0)) (by rw [e5]; exact Ar.1) (State.isArrayOf_alike hZ.alike Ar.2.1) Ar.2.2 hin hat (g := (mkF m 215 #[.val (.int p1), .val (.int p2), .val (.int p3), .val (.ref b4), .unset, .unset] [(.int ((p2 &&& (2147483647 : Int32)) - ((p2 &&& (2147483647 : Int32)) / (32 : Int32)) * (32 : Int32))), (.ref b4)])) rfl rfl (hb hby at_215) _ ?_
    show Steps p.tables e below (T5.setTop (mkF m 216 #[.val (.int p1), .val (.int p2), .val (.int p3), .val (.ref b4), .unset, .unset] [(.int w0)])) _
    refine XS.iloadN X5.here hx rfl (hb hby at_216) rfl ?_
    show Steps p.tables e below (T5.setTop (mkF m 217 #[.val (.int p1), .val (.int p2), .val (.int p3), .val (.ref b4), .unset, .unset] [(.int p3), (.int w0)])) _
    refine XS.iconst X5.here hx rfl (hb hby at_217) ?_
    show Steps p.tables e below (T5.setTop (mkF m 218 #[.val (.int p1), .val (.int p2), .val (.int p3), .val (.ref b4), .unset, .unset] [(.int (3 : Int32)), (.int p3), (.int w0)])) _
    refine XS.iand X5.here hx rfl (hb hby at_218) rfl ?_
    show Steps p.tables e below (T5.setTop (mkF m 219 #[.val (.int p1), .val (.int p2), .val (.int p3), .val (.ref b4), .unset, .unset] [(.int (p3 &&& (3 : Int32))), (.int w0)])) _
    refine XS.iconst X5.here hx rfl (hb hby at_219) ?_
    show Steps p.tables e below (T5.setTop (mkF m 220 #[.val (.int p1), .val (.int p2), .val (.int p3), .val (.ref b4), .unset, .unset] [(.int (1 : Int32)), (.int (p3 &&& (3 : Int32))), (.int w0)])) _
    refine XS.isub X5.here hx rfl (hb hby at_220) rfl ?_
    show Steps p.tables e below (T5.setTop (mkF m 221 #[.val (.int p1), .val (.int p2), .val (.int p3), .val (.ref b4), .unset, .unset] [(.int ((p3 &&& (3 : Int32)) - (1 : Int32))), (.int w0)])) _
    refine XS.iadd X5.here hx rfl (hb hby at_221) rfl ?_
    show Steps p.tables e below (T5.setTop (mkF m 222 #[.val (.int p1), .val (.int p2), .val (.int p3), .val (.ref b4), .unset, .unset] [(.int (w0 + ((p3 &&& (3 : Int32)) - (1 : Int32))))])) _
    refine XS.istore X5.here hx rfl (hb hby at_222) rfl (l' := #[.val (.int p1), .val (.int p2), .val (.int p3), .val (.ref b4), .val (.int (w0 + ((p3 &&& (3 : Int32)) - (1 : Int32)))), .unset]) rfl ?_
    show Steps p.tables e below (T5.setTop (mkF m 224 #[.val (.int p1), .val (.int p2), .val (.int p3), .val (.ref b4), .val (.int (w0 + ((p3 &&& (3 : Int32)) - (1 : Int32)))), .unset] [])) _
    refine XS.iloadN X5.here hx rfl (hb hby at_224) rfl ?_
    show Steps p.tables e below (T5.setTop (mkF m 225 #[.val (.int p1), .val (.int p2), .val (.int p3), .val (.ref b4), .val (.int (w0 + ((p3 &&& (3 : Int32)) - (1 : Int32)))), .unset] [(.int p1)])) _
    refine X5.ldcI hx hown (mvT hZ (hw _ (List.mem_of_getElem? (i := 10) rfl))) rfl (hb hby at_225) ?_
    show Steps p.tables e below (T5.setTop (mkF m 227 #[.val (.int p1), .val (.int p2), .val (.int p3), .val (.ref b4), .val (.int (w0 + ((p3 &&& (3 : Int32)) - (1 : Int32)))), .unset] [(.int (1048575 : Int32)), (.int p1)])) _
    refine XS.iand X5.here hx rfl (hb hby at_227) rfl ?_
    show Steps p.tables e below (T5.setTop (mkF m 228 #[.val (.int p1), .val (.int p2), .val (.int p3), .val (.ref b4), .val (.int (w0 + ((p3 &&& (3 : Int32)) - (1 : Int32)))), .unset] [(.int (p1 &&& (1048575 : Int32)))])) _
    refine XS.istore X5.here hx rfl (hb hby at_228) rfl (l' := #[.val (.int p1), .val (.int p2), .val (.int p3), .val (.ref b4), .val (.int (w0 + ((p3 &&& (3 : Int32)) - (1 : Int32)))), .val (.int (p1 &&& (1048575 : Int32)))]) rfl ?_
    show Steps p.tables e below (T5.setTop (mkF m 230 #[.val (.int p1), .val (.int p2), .val (.int p3), .val (.ref b4), .val (.int (w0 + ((p3 &&& (3 : Int32)) - (1 : Int32)))), .val (.int (p1 &&& (1048575 : Int32)))] [])) _
    exact q
  obtain ⟨_, _, ⟨T6, L6, k6, n6⟩, -, X6, ⟨Lc6, hQ6, l6, y6, z6⟩, st6⟩ := Jvm.LawKit.callS X5 hx (y := (⟨"com/example/vraag/vraag/value/XmlChars", "isNameStartChar", "(I)Z"⟩ : MethodName)) hown (mvT hZ (hw _ (List.mem_of_getElem? (i := 11) rfl))) (mvT hZ (hw _ (List.mem_of_getElem? (i := 12) rfl))) (mvT hZ (hw _ (List.mem_of_getElem? (i := 13) rfl))) (mvT hZ (hw _ (List.mem_of_getElem? (i := 14) rfl))) (by decide) (backOf (W := 0) (own_rm1 l Z a0 hw [] p1 h5 n0) hZ (hw _ (List.mem_of_getElem? (i := 14) rfl)) (hw _ (List.mem_of_getElem? (i := 13) rfl)) (by decide) (by decide)) (g := (mkF m 231 #[.val (.int p1), .val (.int p2), .val (.int p3), .val (.ref b4), .val (.int v4), .val (.int v5)] [(.int p1)])) rfl (by rw [hml]; rfl) (argsL := [(.int p1)]) (rest := []) (lenOf own_pd1 rfl) rfl (by show 2 * 0 + _ ≤ _; exact Nat.le_of_eq rfl) (hb hby at_231) (fun _ _ => ⟨rfl, e5, (by decide : 1 + 0 ≤ _), (by decide : 32 + 0 ≤ _)⟩)
  dsimp only [Pt.U, Pt.locs, Pt.cells, Pt.slots] at X6 l6 y6 z6 st6 hQ6
  subst l6 y6 z6
  obtain ⟨rfl, M6, e6⟩ := hQ6
  have N6 := Fr.app N5 M6
  obtain ⟨_, _, ⟨T7, L7, k7, n7⟩, -, X7, ⟨Lc7, hQ7, l7, y7, z7⟩, st7⟩ := Jvm.LawKit.callS X6 hx (y := (⟨"com/example/vraag/vraag/value/XmlCharsIsNameStartCharPinLaw", "ref", "(I)Z"⟩ : MethodName)) hown (mvT hZ (hw _ (List.mem_of_getElem? (i := 18) rfl))) (mvT hZ (hw _ (List.mem_of_getElem? (i := 19) rfl))) (mvT hZ (hw _ (List.mem_of_getElem? (i := 20) rfl))) (mvT hZ (hw _ (List.mem_of_getElem? (i := 21) rfl))) (by decide) (backOf (W := 1) (own_rm2 l Z a0 hw [] p1 h5 n0) hZ (hw _ (List.mem_of_getElem? (i := 21) rfl)) (hw _ (List.mem_of_getElem? (i := 20) rfl)) (by decide) (by decide)) (g := (mkF m 235 #[.val (.int p1), .val (.int p2), .val (.int p3), .val (.ref b4), .val (.int v4), .val (.int v5)] [(.int p1), (.int (own_F1_0 p1.toInt))])) rfl (by rw [hml]; rfl) (argsL := [(.int p1)]) (rest := [(.int (own_F1_0 p1.toInt))]) (lenOf own_pd2 rfl) rfl (by show 2 * 0 + _ ≤ _; exact Nat.le_of_eq rfl) (hb hby at_235) (fun _ _ => ⟨rfl, e6, (by decide : 1 + 0 ≤ _), (by decide : 32 + 0 ≤ _)⟩)
  dsimp only [Pt.U, Pt.locs, Pt.cells, Pt.slots] at X7 l7 y7 z7 st7 hQ7
  subst l7 y7 z7
  obtain ⟨rfl, M7, e7⟩ := hQ7
  have N7 := Fr.app N6 M7
  have q238 : own_F1_0 p1.toInt = own_F2_0 p1.toInt := by rcases own_plain p1.toInt with ⟨u, v⟩ | ⟨u, v⟩ <;> rw [u, v]
  obtain ⟨_, _, ⟨T8, L8, k8, n8⟩, -, X8, ⟨Lc8, hQ8, l8, y8, z8⟩, st8⟩ := Jvm.LawKit.callS X7 hx (y := (⟨"com/example/vraag/vraag/value/XmlChars", "isNameStartChar", "(I)Z"⟩ : MethodName)) hown (mvT hZ (hw _ (List.mem_of_getElem? (i := 11) rfl))) (mvT hZ (hw _ (List.mem_of_getElem? (i := 12) rfl))) (mvT hZ (hw _ (List.mem_of_getElem? (i := 13) rfl))) (mvT hZ (hw _ (List.mem_of_getElem? (i := 14) rfl))) (by decide) (backOf (W := 0) (own_rm1 l Z a0 hw [] v4 h5 n0) hZ (hw _ (List.mem_of_getElem? (i := 14) rfl)) (hw _ (List.mem_of_getElem? (i := 13) rfl)) (by decide) (by decide)) (g := (mkF m 243 #[.val (.int p1), .val (.int p2), .val (.int p3), .val (.ref b4), .val (.int v4), .val (.int v5)] [(.int v4)])) rfl (by rw [hml]; rfl) (argsL := [(.int v4)]) (rest := []) (lenOf own_pd1 rfl) rfl (by show 2 * 0 + _ ≤ _; exact Nat.le_of_eq rfl) (hb hby at_243) (fun _ _ => ⟨rfl, e7, (by decide : 1 + 0 ≤ _), (by decide : 32 + 0 ≤ _)⟩)
  dsimp only [Pt.U, Pt.locs, Pt.cells, Pt.slots] at X8 l8 y8 z8 st8 hQ8
  subst l8 y8 z8
  obtain ⟨rfl, M8, e8⟩ := hQ8
  have N8 := Fr.app N7 M8
  obtain ⟨_, _, ⟨T9, L9, k9, n9⟩, -, X9, ⟨Lc9, hQ9, l9, y9, z9⟩, st9⟩ := Jvm.LawKit.callS X8 hx (y := (⟨"com/example/vraag/vraag/value/XmlCharsIsNameStartCharPinLaw", "ref", "(I)Z"⟩ : MethodName)) hown (mvT hZ (hw _ (List.mem_of_getElem? (i := 18) rfl))) (mvT hZ (hw _ (List.mem_of_getElem? (i := 19) rfl))) (mvT hZ (hw _ (List.mem_of_getElem? (i := 20) rfl))) (mvT hZ (hw _ (List.mem_of_getElem? (i := 21) rfl))) (by decide) (backOf (W := 1) (own_rm2 l Z a0 hw [] v4 h5 n0) hZ (hw _ (List.mem_of_getElem? (i := 21) rfl)) (hw _ (List.mem_of_getElem? (i := 20) rfl)) (by decide) (by decide)) (g := (mkF m 248 #[.val (.int p1), .val (.int p2), .val (.int p3), .val (.ref b4), .val (.int v4), .val (.int v5)] [(.int v4), (.int (own_F1_0 v4.toInt))])) rfl (by rw [hml]; rfl) (argsL := [(.int v4)]) (rest := [(.int (own_F1_0 v4.toInt))]) (lenOf own_pd2 rfl) rfl (by show 2 * 0 + _ ≤ _; exact Nat.le_of_eq rfl) (hb hby at_248) (fun _ _ => ⟨rfl, e8, (by decide : 1 + 0 ≤ _), (by decide : 32 + 0 ≤ _)⟩)
  dsimp only [Pt.U, Pt.locs, Pt.cells, Pt.slots] at X9 l9 y9 z9 st9 hQ9
  subst l9 y9 z9
  obtain ⟨rfl, M9, e9⟩ := hQ9
  have N9 := Fr.app N8 M9
  have q251 : own_F1_0 v4.toInt = own_F2_0 v4.toInt := by rcases own_plain v4.toInt with ⟨u, v⟩ | ⟨u, v⟩ <;> rw [u, v]
  obtain ⟨_, _, ⟨T10, L10, k10, n10⟩, -, X10, ⟨Lc10, hQ10, l10, y10, z10⟩, st10⟩ := Jvm.LawKit.callS X9 hx (y := (⟨"com/example/vraag/vraag/value/XmlChars", "isNameStartChar", "(I)Z"⟩ : MethodName)) hown (mvT hZ (hw _ (List.mem_of_getElem? (i := 11) rfl))) (mvT hZ (hw _ (List.mem_of_getElem? (i := 12) rfl))) (mvT hZ (hw _ (List.mem_of_getElem? (i := 13) rfl))) (mvT hZ (hw _ (List.mem_of_getElem? (i := 14) rfl))) (by decide) (backOf (W := 0) (own_rm1 l Z a0 hw [] v5 h5 n0) hZ (hw _ (List.mem_of_getElem? (i := 14) rfl)) (hw _ (List.mem_of_getElem? (i := 13) rfl)) (by decide) (by decide)) (g := (mkF m 256 #[.val (.int p1), .val (.int p2), .val (.int p3), .val (.ref b4), .val (.int v4), .val (.int v5)] [(.int v5)])) rfl (by rw [hml]; rfl) (argsL := [(.int v5)]) (rest := []) (lenOf own_pd1 rfl) rfl (by show 2 * 0 + _ ≤ _; exact Nat.le_of_eq rfl) (hb hby at_256) (fun _ _ => ⟨rfl, e9, (by decide : 1 + 0 ≤ _), (by decide : 32 + 0 ≤ _)⟩)
  dsimp only [Pt.U, Pt.locs, Pt.cells, Pt.slots] at X10 l10 y10 z10 st10 hQ10
  subst l10 y10 z10
  obtain ⟨rfl, M10, e10⟩ := hQ10
  have N10 := Fr.app N9 M10
  obtain ⟨_, _, ⟨T11, L11, k11, n11⟩, -, X11, ⟨Lc11, hQ11, l11, y11, z11⟩, st11⟩ := Jvm.LawKit.callS X10 hx (y := (⟨"com/example/vraag/vraag/value/XmlCharsIsNameStartCharPinLaw", "ref", "(I)Z"⟩ : MethodName)) hown (mvT hZ (hw _ (List.mem_of_getElem? (i := 18) rfl))) (mvT hZ (hw _ (List.mem_of_getElem? (i := 19) rfl))) (mvT hZ (hw _ (List.mem_of_getElem? (i := 20) rfl))) (mvT hZ (hw _ (List.mem_of_getElem? (i := 21) rfl))) (by decide) (backOf (W := 1) (own_rm2 l Z a0 hw [] v5 h5 n0) hZ (hw _ (List.mem_of_getElem? (i := 21) rfl)) (hw _ (List.mem_of_getElem? (i := 20) rfl)) (by decide) (by decide)) (g := (mkF m 261 #[.val (.int p1), .val (.int p2), .val (.int p3), .val (.ref b4), .val (.int v4), .val (.int v5)] [(.int v5), (.int (own_F1_0 v5.toInt))])) rfl (by rw [hml]; rfl) (argsL := [(.int v5)]) (rest := [(.int (own_F1_0 v5.toInt))]) (lenOf own_pd2 rfl) rfl (by show 2 * 0 + _ ≤ _; exact Nat.le_of_eq rfl) (hb hby at_261) (fun _ _ => ⟨rfl, e10, (by decide : 1 + 0 ≤ _), (by decide : 32 + 0 ≤ _)⟩)
  dsimp only [Pt.U, Pt.locs, Pt.cells, Pt.slots] at X11 l11 y11 z11 st11 hQ11
  subst l11 y11 z11
  obtain ⟨rfl, M11, e11⟩ := hQ11
  have N11 := Fr.app N10 M11
  have q264 : own_F1_0 v5.toInt = own_F2_0 v5.toInt := by rcases own_plain v5.toInt with ⟨u, v⟩ | ⟨u, v⟩ <;> rw [u, v]
  obtain ⟨fs, hr, hrun, hended, hW, hsame⟩ := X11.leave (v := some (.int (1 : Int32))) (fun h => by rw [Bd.returns] at h; cases h)
  refine ⟨_, _, pre0 _ ?_, hrun, hended, _, _, rfl, ?_, ⟨_, rfl⟩, hW, hsame.mono (by decide) (by decide)⟩
  · show Steps p.tables e below (s₁.setTop (mkF m 0 #[.val (.int p1), .val (.int p2), .val (.int p3), .unset, .unset, .unset] [])) _
    refine st5 _ ?_
    refine seg _ ?_
    show Steps p.tables e below (T5.setTop (mkF m 230 #[.val (.int p1), .val (.int p2), .val (.int p3), .val (.ref b4), .val (.int v4), .val (.int v5)] [])) _
    refine XS.iloadN X5.here hx rfl (hb hby at_230) rfl ?_
    show Steps p.tables e below (T5.setTop (mkF m 231 #[.val (.int p1), .val (.int p2), .val (.int p3), .val (.ref b4), .val (.int v4), .val (.int v5)] [(.int p1)])) _
    refine st6 _ ?_
    show Steps p.tables e below (T6.setTop (mkF m 234 #[.val (.int p1), .val (.int p2), .val (.int p3), .val (.ref b4), .val (.int v4), .val (.int v5)] [(.int (own_F1_0 p1.toInt))])) _
    refine XS.iloadN X6.here hx rfl (hb hby at_234) rfl ?_
    show Steps p.tables e below (T6.setTop (mkF m 235 #[.val (.int p1), .val (.int p2), .val (.int p3), .val (.ref b4), .val (.int v4), .val (.int v5)] [(.int p1), (.int (own_F1_0 p1.toInt))])) _
    refine st7 _ ?_
    show Steps p.tables e below (T7.setTop (mkF m 238 #[.val (.int p1), .val (.int p2), .val (.int p3), .val (.ref b4), .val (.int v4), .val (.int v5)] [(.int (own_F2_0 p1.toInt)), (.int (own_F1_0 p1.toInt))])) _
    refine XS.icmpNo X7.here hx rfl (hb hby at_238) rfl (XT.ii_ne_f q238) ?_
    show Steps p.tables e below (T7.setTop (mkF m 241 #[.val (.int p1), .val (.int p2), .val (.int p3), .val (.ref b4), .val (.int v4), .val (.int v5)] [])) _
    show Steps p.tables e below (T7.setTop (mkF m 241 #[.val (.int p1), .val (.int p2), .val (.int p3), .val (.ref b4), .val (.int v4), .val (.int v5)] [])) _
    refine XS.iload X7.here hx rfl (hb hby at_241) rfl ?_
    show Steps p.tables e below (T7.setTop (mkF m 243 #[.val (.int p1), .val (.int p2), .val (.int p3), .val (.ref b4), .val (.int v4), .val (.int v5)] [(.int v4)])) _
    refine st8 _ ?_
    show Steps p.tables e below (T8.setTop (mkF m 246 #[.val (.int p1), .val (.int p2), .val (.int p3), .val (.ref b4), .val (.int v4), .val (.int v5)] [(.int (own_F1_0 v4.toInt))])) _
    refine XS.iload X8.here hx rfl (hb hby at_246) rfl ?_
    show Steps p.tables e below (T8.setTop (mkF m 248 #[.val (.int p1), .val (.int p2), .val (.int p3), .val (.ref b4), .val (.int v4), .val (.int v5)] [(.int v4), (.int (own_F1_0 v4.toInt))])) _
    refine st9 _ ?_
    show Steps p.tables e below (T9.setTop (mkF m 251 #[.val (.int p1), .val (.int p2), .val (.int p3), .val (.ref b4), .val (.int v4), .val (.int v5)] [(.int (own_F2_0 v4.toInt)), (.int (own_F1_0 v4.toInt))])) _
    refine XS.icmpNo X9.here hx rfl (hb hby at_251) rfl (XT.ii_ne_f q251) ?_
    show Steps p.tables e below (T9.setTop (mkF m 254 #[.val (.int p1), .val (.int p2), .val (.int p3), .val (.ref b4), .val (.int v4), .val (.int v5)] [])) _
    show Steps p.tables e below (T9.setTop (mkF m 254 #[.val (.int p1), .val (.int p2), .val (.int p3), .val (.ref b4), .val (.int v4), .val (.int v5)] [])) _
    refine XS.iload X9.here hx rfl (hb hby at_254) rfl ?_
    show Steps p.tables e below (T9.setTop (mkF m 256 #[.val (.int p1), .val (.int p2), .val (.int p3), .val (.ref b4), .val (.int v4), .val (.int v5)] [(.int v5)])) _
    refine st10 _ ?_
    show Steps p.tables e below (T10.setTop (mkF m 259 #[.val (.int p1), .val (.int p2), .val (.int p3), .val (.ref b4), .val (.int v4), .val (.int v5)] [(.int (own_F1_0 v5.toInt))])) _
    refine XS.iload X10.here hx rfl (hb hby at_259) rfl ?_
    show Steps p.tables e below (T10.setTop (mkF m 261 #[.val (.int p1), .val (.int p2), .val (.int p3), .val (.ref b4), .val (.int v4), .val (.int v5)] [(.int v5), (.int (own_F1_0 v5.toInt))])) _
    refine st11 _ ?_
    show Steps p.tables e below (T11.setTop (mkF m 264 #[.val (.int p1), .val (.int p2), .val (.int p3), .val (.ref b4), .val (.int v4), .val (.int v5)] [(.int (own_F2_0 v5.toInt)), (.int (own_F1_0 v5.toInt))])) _
    refine XS.icmpNo X11.here hx rfl (hb hby at_264) rfl (XT.ii_ne_f q264) ?_
    show Steps p.tables e below (T11.setTop (mkF m 267 #[.val (.int p1), .val (.int p2), .val (.int p3), .val (.ref b4), .val (.int v4), .val (.int v5)] [])) _
    show Steps p.tables e below (T11.setTop (mkF m 267 #[.val (.int p1), .val (.int p2), .val (.int p3), .val (.ref b4), .val (.int v4), .val (.int v5)] [])) _
    refine XS.iconst X11.here hx rfl (hb hby at_267) ?_
    show Steps p.tables e below (T11.setTop (mkF m 268 #[.val (.int p1), .val (.int p2), .val (.int p3), .val (.ref b4), .val (.int v4), .val (.int v5)] [(.int (1 : Int32))])) _
    refine XS.goto X11.here hx rfl (pc0 := 268) (pc' := 272) rfl (hb hby at_268) (by decide) (by decide) ?_
    show Steps p.tables e below (T11.setTop (mkF m 272 #[.val (.int p1), .val (.int p2), .val (.int p3), .val (.ref b4), .val (.int v4), .val (.int v5)] [(.int (1 : Int32))])) _
    exact retN X11 hx (t := .boolean) Bd.returns (by simp) (hb hby at_272) hr
  · exact ⟨rfl, N11⟩
set_option maxRecDepth 65536 in
set_option maxHeartbeats 40000000 in
theorem own_comes {Post : Tables → Env → Array Value → State → Outcome → State → Prop} (hpost : ∀ tb e args s v u, (limb_1_1.after args s (.returned v) u = true ∧ limb_1_2.after args s (.returned v) u = true ∧ True) → FrameEnd s (.returned v) u (Jvm.fieldLocs frame_1_writes args s ++ Jvm.arrayLocs frame_1_arrays args s ++ Jvm.staticLocs frame_1_statics s) 16 128 → Post tb e args s (.returned v) u) :
    ArmFor flags0 classFile x code maxLocals ret World_1 tables_1 room_1 Calls_1 rest_1 Pre_1 Post := by
  intro l hfl _ _ p e ha hc hk s m args below hf hA hF happ hP
  obtain ⟨hcalls, hrest, hpre⟩ := hP
  obtain ⟨-, -, -, hnamed, -, -, -, hat⟩ := (Spec.applies_iff hf).mp happ
  obtain ⟨hg, hn⟩ := and_e (Cond.before_iff.mp (show (Jvm.Cond.and given_1 narrow_1).before args s = true from hpre))
  obtain ⟨q0, r0⟩ := and_e hg
  obtain ⟨q1, r1⟩ := and_e r0
  obtain ⟨q2, r2⟩ := and_e r1
  obtain ⟨w0, w1, w2, rfl⟩ : ∃ w0 w1 w2 : Value, args = #[w0, w1, w2] := by
    have hs : args.size = 3 := by simpa [Cond.value, given_1] using q0
    obtain ⟨L⟩ := args
    match L, hs with
    | [w0, w1, w2], _ => exact ⟨w0, w1, w2, rfl⟩
  have hw := fun d (hd : d ∈ tables_1) => atoms_spec (ws := Jvm.Cond.code x code maxLocals ret :: tables_1) hat d (List.mem_cons_of_mem _ hd)
  obtain ⟨i0, e0⟩ := is_v q1
  obtain rfl : w0 = (.int i0) := Option.some.inj e0
  obtain ⟨i1, e1⟩ := is_v q2
  obtain rfl : w1 = (.int i1) := Option.some.inj e1
  obtain ⟨i2, e2⟩ := is_v r2
  obtain rfl : w2 = (.int i2) := Option.some.inj e2
  obtain ⟨n, o, h1, h2, h3, _, L, rfl, ⟨rfl, N⟩, hq⟩ := own_rm0 l s _ hw tables_1 i0 i1 i2 s.heap s.heap.size (Nat.le_refl _) p e ha hc hk s m _ below hf ((Spec.applies_iff_loose hf).mp happ).1 ⟨rfl, State.Warmed39.refl s, rfl⟩ trivial
  refine ⟨n, _, h1, h2, h3, hpost _ _ _ _ _ _ ⟨Cond.after_iff.mpr rfl, Cond.after_iff.mpr (eq_i res_at (Term.int_eval (1)) rfl), trivial⟩ ⟨hq.1, hq.2.1, (hq.2.2.sift fun y hy => Or.inr (N y hy)).mono (by decide) (by decide)⟩⟩
theorem main_1_1 : Claimed_1_1 := own_comes fun _ _ _ _ _ _ h hF => ⟨h.1, hF⟩
theorem main_1_2 : Claimed_1_2 := own_comes fun _ _ _ _ _ _ h hF => ⟨h.2.1, hF⟩
end Jvm.Pilot.@@N@@
namespace Jvm.Pilot.@@N@@
open Jvm Jvm.ClassFile Sem Op Lib Jvm.Free Jvm.Stand Jvm.Pilot.@@N@@.Jvm.D
/-! MADE BY PROGRAM (witnessworld.py) out of the Statement's table words and the real class files: 9 classes; the members and pool entries that the words name. The judged class is class 1, her method 2. -/
namespace start1
open Jvm.ClassFile
def u (s : String) : CpInfo := .utf8 (stringToUtf16 s)
/-- a pool by its gaps: so many unusable entries, then the entry; so many at the end -/
def gap : Nat → List CpInfo → List CpInfo
  | 0, r => r
  | n + 1, r => .unusable :: gap n r
def poolList (es : List (Nat × CpInfo)) (last : Nat) : List CpInfo := es.foldr (fun e r => gap e.1 (e.2 :: r)) (gap last [])
def pool (es : List (Nat × CpInfo)) (last : Nat) : Array CpInfo := ⟨poolList es last⟩
def fileOf (pool : Array CpInfo) (this : Nat) (attrs : Array Attribute := #[]) (ms : Array MethodInfo := #[]) (fl : Nat := 33) (sup : Nat := 0) (ifs : Array Nat := #[]) (fds : Array FieldInfo := #[]) : ClassFile where
  minorVersion := 0
  majorVersion := 65
  constantPool := pool
  accessFlags := fl
  thisClass := this
  superClass := sup
  interfaces := ifs
  fields := fds
  methods := ms
  attributes := attrs
def plain (name : String) (sup : Option ClassId) : Class where
  name := name
  kind := .ordinary
  loader := none
  accessFlags := 33
  super := sup
  interfaces := #[]
  cf := none
  fields := #[]
  methods := #[]
  instanceTypes := #[]
  staticTypes := #[]
  resolved := #[]
  callSites := []
  init := .initialized
  statics := none
  mirror := none

def pool0 : Array CpInfo := pool [(5, u "<init>"), (0, u "()V"), (1, .class_ 10), (1, u "java/lang/Object")] 113

def k0m0 : Method := { name := "<init>", desc := "()V", sig := { parameters := [], returnType := none }, accessFlags := 1, code := none }
/-- java/lang/Object -/
def k0 : Class := { plain "java/lang/Object" none with
  accessFlags := 33
  interfaces := #[]
  cf := some (fileOf pool0 8 #[] #[{ accessFlags := 1, nameIndex := 5, descriptorIndex := 6, attributes := #[] }] 33 0 #[] #[])
  fields := #[]
  methods := #[k0m0]
  instanceTypes := #[]
  staticTypes := #[]
  resolved := Array.replicate 124 none
  statics := none }

def pool1 : Array CpInfo := pool [(2, .class_ 4), (1, u "java/lang/Object"), (0, u "<init>"), (0, u "()V"), (0, .integer 983039), (0, .integer 55296), (0, .integer 63743), (0, .integer 64976), (0, .integer 65007), (0, .integer 65534), (0, .integer 65535), (0, .integer 55295), (0, .integer 63744), (0, .integer 64975), (0, .integer 65008), (0, .integer 65533), (0, .integer 65536), (0, .integer 2147483647), (0, .integer 2147483648), (0, .integer 1048575), (0, .methodref 24 25), (0, .class_ 26), (0, .nameAndType 27 28), (0, u "com/example/vraag/vraag/value/XmlChars"), (0, u "isNameStartChar"), (0, u "(I)Z"), (0, .methodref 30 31), (0, .class_ 32), (0, .nameAndType 33 28), (0, u "com/example/vraag/vraag/value/XmlCharsIsNameStartCharPinLaw"), (0, u "ref"), (3, u "law"), (0, u "(III)Z")] 4

def k1m0 : Method := { name := "<init>", desc := "()V", sig := { parameters := [], returnType := none }, accessFlags := 2, code := none }
def k1c1 : Code := { maxStack := 2, maxLocals := 1, code := method_2_code, exceptionTable := #[], attributes := #[] }
def k1m1 : Method := { name := "ref", desc := "(I)Z", sig := { parameters := [.int], returnType := some .boolean }, accessFlags := 10, code := some k1c1 }
def k1c2 : Code := { maxStack := 4, maxLocals := 6, code := code, exceptionTable := #[], attributes := #[] }
def k1m2 : Method := { name := "law", desc := "(III)Z", sig := { parameters := [.int, .int, .int], returnType := some .boolean }, accessFlags := 9, code := some k1c2 }
/-- com/example/vraag/vraag/value/XmlCharsIsNameStartCharPinLaw -/
def k1 : Class := { plain "com/example/vraag/vraag/value/XmlCharsIsNameStartCharPinLaw" (some 0) with
  accessFlags := 49
  interfaces := #[]
  cf := some (fileOf pool1 30 #[] #[{ accessFlags := 2, nameIndex := 5, descriptorIndex := 6, attributes := #[] }, { accessFlags := 10, nameIndex := 33, descriptorIndex := 28, attributes := #[] }, { accessFlags := 9, nameIndex := 37, descriptorIndex := 38, attributes := #[] }] 49 2 #[] #[])
  fields := #[]
  methods := #[k1m0, k1m1, k1m2]
  instanceTypes := #[]
  staticTypes := #[]
  resolved := Array.replicate 43 none
  statics := none }

def pool2 : Array CpInfo := pool [(2, .class_ 4), (1, u "java/lang/Object"), (0, u "<init>"), (0, u "()V"), (0, .integer 55295), (1, .integer 65533), (0, .integer 65536), (1, .integer 63744), (0, .integer 64975), (0, .integer 65008), (0, .integer 983039), (1, .class_ 19), (1, u "com/example/vraag/vraag/value/XmlChars"), (0, u "isNameStartChar"), (0, u "(I)Z")] 30

def k2m0 : Method := { name := "<init>", desc := "()V", sig := { parameters := [], returnType := none }, accessFlags := 2, code := none }
def k2c1 : Code := { maxStack := 2, maxLocals := 1, code := prog_186_method_3_code, exceptionTable := #[], attributes := #[] }
def k2m1 : Method := { name := "isNameStartChar", desc := "(I)Z", sig := { parameters := [.int], returnType := some .boolean }, accessFlags := 9, code := some k2c1 }
/-- com/example/vraag/vraag/value/XmlChars -/
def k2 : Class := { plain "com/example/vraag/vraag/value/XmlChars" (some 0) with
  accessFlags := 33
  interfaces := #[]
  cf := some (fileOf pool2 17 #[] #[{ accessFlags := 2, nameIndex := 5, descriptorIndex := 6, attributes := #[] }, { accessFlags := 9, nameIndex := 20, descriptorIndex := 21, attributes := #[] }] 33 2 #[] #[])
  fields := #[]
  methods := #[k2m0, k2m1]
  instanceTypes := #[]
  staticTypes := #[]
  resolved := Array.replicate 52 none
  statics := none }

def pool3 : Array CpInfo := pool [(1, u "java/lang/Cloneable"), (0, .class_ 1), (0, u "java/lang/Object"), (0, .class_ 3)] 3

/-- java/lang/Cloneable -/
def k3 : Class := { plain "java/lang/Cloneable" (some 0) with
  accessFlags := 1537
  interfaces := #[]
  cf := some (fileOf pool3 2 #[] #[] 1537 4 #[] #[])
  fields := #[]
  methods := #[]
  instanceTypes := #[]
  staticTypes := #[]
  resolved := Array.replicate 8 none
  statics := none }

def pool4 : Array CpInfo := pool [(1, u "java/io/Serializable"), (0, .class_ 1), (0, u "java/lang/Object"), (0, .class_ 3)] 3

/-- java/io/Serializable -/
def k4 : Class := { plain "java/io/Serializable" (some 0) with
  accessFlags := 1537
  interfaces := #[]
  cf := some (fileOf pool4 2 #[] #[] 1537 4 #[] #[])
  fields := #[]
  methods := #[]
  instanceTypes := #[]
  staticTypes := #[]
  resolved := Array.replicate 8 none
  statics := none }

/-- the primitive byte -/
def k5 : Class := { plain "byte" none with kind := .primitive 'B', accessFlags := 0x411 }
/-- [B -/
def k6 : Class := { plain "[B" (some 0) with kind := .array 5 .byte, interfaces := #[3, 4], accessFlags := 1041 }

/-- the primitive int -/
def k7 : Class := { plain "int" none with kind := .primitive 'I', accessFlags := 0x411 }
/-- [I -/
def k8 : Class := { plain "[I" (some 0) with kind := .array 7 .int, interfaces := #[3, 4], accessFlags := 1041 }

def heap : Heap := #[]
def classes : Array Class := #[k0, k1, k2, k3, k4, k5, k6, k7, k8]
def interned : List (Array UInt16 × Addr) := []
def slotsUsed : Nat := 0
def theMethod : MethodId := ⟨1, 2⟩
def args0 : Array Value := #[.int 65, .int 0, .int 1]
def aboutOver (below : List Frame) : State where
  vm := { classes := classes, interned := interned.toArray }
  heap := heap
  slotsUsed := slotsUsed
  threads := #[{ frames := .invoking theMethod args0 :: below }]
def below0 : List Frame := [.native { method := ⟨0, 0⟩, args := #[] }]
def about1 : State := aboutOver below0
def p0 : Program := .bare "" "" ""
def e0 : Env := launch0.env 0 0 0
theorem w_frames : about1.frames = Frame.invoking theMethod args0 :: below0 := rfl
set_option maxRecDepth 65536 in
theorem w_args : argsFit about1.vm theMethod args0 = true := by decide +kernel
set_option maxRecDepth 65536 in
theorem w_heap : heapFits about1 = true := by decide +kernel
set_option maxRecDepth 65536 in
theorem w_runnable : about1.curStatus? = some .runnable := by decide +kernel
set_option maxRecDepth 65536 in
theorem w_alone : about1.alone = true := by decide +kernel
set_option maxRecDepth 65536 in
theorem w_named : about1.methodNamed? x = some theMethod := by decide +kernel
set_option maxRecDepth 65536 in
theorem w_hears : about1.hears theMethod below0 = true := by decide +kernel
set_option maxRecDepth 65536 in
theorem w_ripe : about1.ripe theMethod args0 below0 = true := by decide +kernel
theorem w_running : about1.status = .running := rfl
set_option maxRecDepth 65536 in
theorem w_room : about1.hasRoom e0.platform room_1 = true :=
  launch0.hasRoom_least _ room_1 (by decide +kernel) (by decide +kernel) (by decide +kernel) (by decide +kernel) (by decide +kernel) (by decide +kernel)
theorem allAtoms_all (ts : List Jvm.Cond) (a : Array Jvm.Value) (st : Jvm.State) : (allAtoms ts).before a st = ts.all (fun c => c.before a st) := by
  induction ts with
  | nil => rfl
  | cons c t ih =>
    show (Jvm.Cond.and c (allAtoms t)).before a st = _
    rw [Jvm.Cond.before_and, ih, List.all_cons]
def words1 : List Jvm.Cond := Jvm.Cond.code x code maxLocals ret :: tables_1
/-- a 'code' word, met by the world's own term for the bytes: nothing is compared byte by byte -/
theorem code_word {y : MethodName} {bytes : ByteArray} {mx : Nat} {rt : Option FieldType} {a : Array Value} {s : State} {m : MethodId} {meth : Method} {c : Code} (h1 : s.methodNamed? y = some m) (h2 : s.vm.method? m = some meth) (h3 : meth.code = some c) (h4 : c.code = bytes)
    (h5 : (c.maxLocals == mx && c.exceptionTable.isEmpty && decide (c.maxStack ≤ mostOperands) && decide (meth.sig.returnType = rt) && !meth.locks && decide (parseMethodDescriptor y.desc = some meth.sig)) = true) : (Jvm.Cond.code y bytes mx rt).before a s = true := by
  simp only [Bool.and_eq_true, beq_iff_eq, Bool.not_eq_true', decide_eq_true_eq] at h5
  obtain ⟨⟨⟨⟨⟨g1, g2⟩, g3⟩, g4⟩, g5⟩, g6⟩ := h5
  simp [Cond.before, Cond.holds, Cond.value, h1, h2, h3, h4, g1, g2, g3, g4, g5, g6]
def isCode : Jvm.Cond → Bool
  | .code _ _ _ _ => true
  | _ => false
theorem all_split {L : List Jvm.Cond} {P : Jvm.Cond → Bool} (h1 : L.all (fun c => isCode c || P c) = true) (h2 : ∀ c ∈ L.filter isCode, P c = true) : L.all P = true := by
  refine List.all_eq_true.mpr fun c hc => ?_
  have h := List.all_eq_true.mp h1 c hc
  rcases Bool.eq_false_or_eq_true (isCode c) with hi | hi
  · exact h2 c (List.mem_filter.mpr ⟨hc, hi⟩)
  · simpa [hi] using h
set_option maxRecDepth 65536 in
theorem w_c0 : (Jvm.Cond.code x code maxLocals ret).before args0 about1 = true := code_word (m := ⟨1, 2⟩) (meth := k1m2) (c := k1c2) (by decide +kernel) rfl rfl rfl (by decide +kernel)
set_option maxRecDepth 65536 in
theorem w_c1 : (Jvm.Cond.code ({ cls := "com/example/vraag/vraag/value/XmlChars", name := "isNameStartChar", desc := "(I)Z" } : Jvm.MethodName) prog_186_method_3_code (1 : Nat) (Option.some Jvm.ClassFile.FieldType.boolean)).before args0 about1 = true := code_word (m := ⟨2, 1⟩) (meth := k2m1) (c := k2c1) (by decide +kernel) rfl rfl rfl (by decide +kernel)
set_option maxRecDepth 65536 in
theorem w_c2 : (Jvm.Cond.code ({ cls := "com/example/vraag/vraag/value/XmlCharsIsNameStartCharPinLaw", name := "ref", desc := "(I)Z" } : Jvm.MethodName) method_2_code (1 : Nat) (Option.some Jvm.ClassFile.FieldType.boolean)).before args0 about1 = true := code_word (m := ⟨1, 1⟩) (meth := k1m1) (c := k1c1) (by decide +kernel) rfl rfl rfl (by decide +kernel)
def codes1 : List Jvm.Cond := [Jvm.Cond.code x code maxLocals ret, Jvm.Cond.code ({ cls := "com/example/vraag/vraag/value/XmlChars", name := "isNameStartChar", desc := "(I)Z" } : Jvm.MethodName) prog_186_method_3_code (1 : Nat) (Option.some Jvm.ClassFile.FieldType.boolean), Jvm.Cond.code ({ cls := "com/example/vraag/vraag/value/XmlCharsIsNameStartCharPinLaw", name := "ref", desc := "(I)Z" } : Jvm.MethodName) method_2_code (1 : Nat) (Option.some Jvm.ClassFile.FieldType.boolean)]
set_option maxRecDepth 65536 in
theorem codes_eq : words1.filter isCode = codes1 := rfl
theorem w_codes : ∀ c ∈ words1.filter isCode, c.before args0 about1 = true := by
  rw [codes_eq]
  intro c hc
  simp only [codes1, List.mem_cons, List.not_mem_nil, or_false] at hc
  rcases hc with rfl | rfl | rfl
  · exact w_c0
  · exact w_c1
  · exact w_c2
set_option maxRecDepth 65536 in
theorem w_t1 : (words1.take 24).all (fun c => isCode c || c.before args0 about1) = true := by decide +kernel
set_option maxRecDepth 65536 in
theorem w_t2 : (words1.drop 24).all (fun c => isCode c || c.before args0 about1) = true := by decide +kernel
theorem w_tables : (allAtoms (Jvm.Cond.code x code maxLocals ret :: tables_1)).before args0 about1 = true := by
  rw [allAtoms_all]
  show words1.all (fun c => c.before args0 about1) = true
  refine all_split ?_ w_codes
  rw [← List.take_append_drop 24 words1, List.all_append, w_t1, w_t2]
  rfl
set_option maxRecDepth 65536 in
theorem w_case : (Jvm.Cond.and given_1 narrow_1).before args0 about1 = true := by decide +kernel
theorem w_applies : (headSpec (Jvm.Cond.code x code maxLocals ret :: tables_1) room_1).applies x e0.platform about1 = true :=
  (Spec.applies_iff w_frames).mpr ⟨w_running, w_runnable, w_alone, w_named, w_hears, w_ripe, w_room, w_tables⟩
theorem atStart : AtStart classFile x code maxLocals ret World_1 tables_1 room_1 Calls_1 rest_1 Pre_1 launch0 p0 e0 about1 theMethod args0 below0 :=
  ⟨lists_1, trivial, launch0.admits_env _ _ _, launch0.least_env, fairChoices_fair.cas, fairChoices_fair.clock, w_frames, w_args, w_heap, w_applies, trivial, trivial, w_case⟩
end start1
theorem witness_1 : WitnessClaimed_1 := ⟨start1.p0, start1.e0, start1.about1, start1.theMethod, start1.args0, start1.below0, start1.atStart⟩
end Jvm.Pilot.@@N@@
