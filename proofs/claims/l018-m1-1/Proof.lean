import JvmDerived
import JvmDerived.Pilot.@@N@@Statement
import JvmDerived.Pilot.@@N@@Code
set_option linter.unusedVariables false
set_option linter.unusedSimpArgs false
namespace Jvm.RoadKit
open Sem ClassFile Op Lib Jvm.Stand Jvm.Free Jvm.LawKit
section New
variable {p : Program} {l : Launch} {e : Env} {R : Room} {s : State} {m : MethodId} {args : Array Value} {below : List Frame} {meth : Method} {c : Code} {T : State} {locs : List Loc} {cells slots : Nat}
theorem retI (X : Stand p l e R s m args below meth c T locs cells slots) (hx : p.tables.exec = Jvm.exec) {pc : Nat} {Ls : Array Slot} {z : Int32} {rest : List Value} (hret : meth.sig.returnType = some .int) (hd : decode c.code pc = .ok (.ireturn, 1)) {fs : List Frame}
    (hl : ∀ (f : JFrame) (acts : List Action), f.method = m → f.locked = none → f.entered = [] → (doReturn e (T.setTop f) acts (some (.int z))).1 = T.setFrames fs) : Steps p.tables e below (T.setTop (mkF m pc Ls (.int z :: rest))) (T.setFrames fs) := by
  have hm' : T.vm.method? m = some meth := X.method'
  have hn : narrow .int (.int z) = .int z := rfl
  show Steps p.tables e below (T.setTop { method := m, pc := pc, locals := Ls, stack := _ :: rest, locked := none }) _
  jvm_step X.here [X.here.top, hx, hd, hm', hret, hn]
  first | (intro acts; rw [hl _ acts rfl rfl rfl]) | rw [hl _ _ rfl rfl rfl]
  exact Steps.refl _
end New
end Jvm.RoadKit
namespace Jvm.Pilot.@@N@@
open Jvm Jvm.ClassFile Sem Op Lib Jvm.Free Jvm.Stand Jvm.LawKit Jvm.RoadKit Bundle Jvm.Pilot.@@N@@.Jvm.D
theorem own_l0 : (0 : Int32).toInt = 0 := rfl
theorem own_l1 : (1 : Int32).toInt = 1 := rfl
theorem own_l9 : (9 : Int32).toInt = 9 := rfl
theorem own_l10 : (10 : Int32).toInt = 10 := rfl
theorem own_l13 : (13 : Int32).toInt = 13 := rfl
theorem own_l15 : (15 : Int32).toInt = 15 := rfl
theorem own_l16 : (16 : Int32).toInt = 16 := rfl
theorem own_l32 : (32 : Int32).toInt = 32 := rfl
theorem own_l55295 : (55295 : Int32).toInt = 55295 := rfl
theorem own_l55296 : (55296 : Int32).toInt = 55296 := rfl
theorem own_l57343 : (57343 : Int32).toInt = 57343 := rfl
theorem own_l57344 : (57344 : Int32).toInt = 57344 := rfl
theorem own_l65533 : (65533 : Int32).toInt = 65533 := rfl
theorem own_l65534 : (65534 : Int32).toInt = 65534 := rfl
theorem own_l65535 : (65535 : Int32).toInt = 65535 := rfl
theorem own_l65536 : (65536 : Int32).toInt = 65536 := rfl
theorem own_l1114111 : (1114111 : Int32).toInt = 1114111 := rfl

def own_xml (p : Int32) : Int32 := if (p.toInt = 9 ∨ p.toInt = 10 ∨ p.toInt = 13 ∨ (32 ≤ p.toInt ∧ p.toInt ≤ 55295) ∨ (57344 ≤ p.toInt ∧ p.toInt ≤ 65533) ∨ (65536 ≤ p.toInt ∧ p.toInt ≤ 1114111)) then 1 else 0
def own_forb (p : Int32) : Int32 := if (p.toInt < 0 ∨ 1114111 < p.toInt) ∨ (0 ≤ p.toInt ∧ p.toInt < 32 ∧ p.toInt ≠ 9 ∧ p.toInt ≠ 10 ∧ p.toInt ≠ 13) ∨ (55296 ≤ p.toInt ∧ p.toInt ≤ 57343) ∨ (p.toInt = 65534 ∨ p.toInt = 65535) then 1 else 0
theorem own_law (p : Int32) : (own_forb p = 0 → own_xml p = 1) ∧ (¬ own_forb p = 0 → own_xml p = 0) := by
  unfold own_forb own_xml
  by_cases a : (p.toInt < 0 ∨ 1114111 < p.toInt) ∨ (0 ≤ p.toInt ∧ p.toInt < 32 ∧ p.toInt ≠ 9 ∧ p.toInt ≠ 10 ∧ p.toInt ≠ 13) ∨ (55296 ≤ p.toInt ∧ p.toInt ≤ 57343) ∨ (p.toInt = 65534 ∨ p.toInt = 65535)
  · rw [if_pos a, if_neg (by omega)]; decide
  · rw [if_neg a, if_pos (by omega)]; decide

theorem own_if1 {j : Int32} {P : Prop} [Decidable P] (h : j = if P then 1 else 0) (c : ¬ j = 0) : P := by
  by_cases q : P
  · exact q
  · exact absurd (by rw [h, if_neg q]) c
theorem own_if0 {j : Int32} {P : Prop} [Decidable P] (h : j = if P then 1 else 0) (c : j = 0) : ¬ P := fun q => by
  rw [if_pos q] at h; rw [h] at c; exact absurd c (by decide)
theorem own_int (vs : List Int32) (i : Nat) : ∃ z : Int32, (vs.map Value.int).getD i (.int 0) = .int z := by
  induction vs generalizing i with
  | nil => exact ⟨0, rfl⟩
  | cons a t ih => cases i with
    | zero => exact ⟨a, rfl⟩
    | succ k => exact ih k
theorem own_idx (x : Int32) : ¬ (x &&& 15) < 0 ∧ (x &&& 15) < 16 := by
  have h := c_mask x 15 4 (by decide) (by decide)
  simp only [Int32.lt_iff_toInt_lt, own_l0, own_l16, h]
  omega

theorem own_d1_0 : decode method_2_code 0 = .ok (.iload_n 1, 1) := by decide +kernel
theorem own_d1_1 : decode method_2_code 1 = .ok (.iconst 1, 1) := by decide +kernel
theorem own_d1_2 : decode method_2_code 2 = .ok (.iand, 1) := by decide +kernel
theorem own_d1_3 : decode method_2_code 3 = .ok (.ifCond .ne 5, 3) := by decide +kernel
theorem own_d1_6 : decode method_2_code 6 = .ok (.iload_n 0, 1) := by decide +kernel
theorem own_d1_7 : decode method_2_code 7 = .ok (.ireturn, 1) := by decide +kernel
theorem own_d1_8 : decode method_2_code 8 = .ok (.bipush 16, 2) := by decide +kernel
theorem own_d1_10 : decode method_2_code 10 = .ok (.newarray .int, 2) := by decide +kernel
theorem own_d1_12 : decode method_2_code 12 = .ok (.dup, 1) := by decide +kernel
theorem own_d1_13 : decode method_2_code 13 = .ok (.iconst 0, 1) := by decide +kernel
theorem own_d1_14 : decode method_2_code 14 = .ok (.iconst 0, 1) := by decide +kernel
theorem own_d1_15 : decode method_2_code 15 = .ok (.iastore, 1) := by decide +kernel
theorem own_d1_16 : decode method_2_code 16 = .ok (.dup, 1) := by decide +kernel
theorem own_d1_17 : decode method_2_code 17 = .ok (.iconst 1, 1) := by decide +kernel
theorem own_d1_18 : decode method_2_code 18 = .ok (.bipush 9, 2) := by decide +kernel
theorem own_d1_20 : decode method_2_code 20 = .ok (.iastore, 1) := by decide +kernel
theorem own_d1_21 : decode method_2_code 21 = .ok (.dup, 1) := by decide +kernel
theorem own_d1_22 : decode method_2_code 22 = .ok (.iconst 2, 1) := by decide +kernel
theorem own_d1_23 : decode method_2_code 23 = .ok (.bipush 10, 2) := by decide +kernel
theorem own_d1_25 : decode method_2_code 25 = .ok (.iastore, 1) := by decide +kernel
theorem own_d1_26 : decode method_2_code 26 = .ok (.dup, 1) := by decide +kernel
theorem own_d1_27 : decode method_2_code 27 = .ok (.iconst 3, 1) := by decide +kernel
theorem own_d1_28 : decode method_2_code 28 = .ok (.bipush 13, 2) := by decide +kernel
theorem own_d1_30 : decode method_2_code 30 = .ok (.iastore, 1) := by decide +kernel
theorem own_d1_31 : decode method_2_code 31 = .ok (.dup, 1) := by decide +kernel
theorem own_d1_32 : decode method_2_code 32 = .ok (.iconst 4, 1) := by decide +kernel
theorem own_d1_33 : decode method_2_code 33 = .ok (.bipush 32, 2) := by decide +kernel
theorem own_d1_35 : decode method_2_code 35 = .ok (.iastore, 1) := by decide +kernel
theorem own_d1_36 : decode method_2_code 36 = .ok (.dup, 1) := by decide +kernel
theorem own_d1_37 : decode method_2_code 37 = .ok (.iconst 5, 1) := by decide +kernel
theorem own_d1_38 : decode method_2_code 38 = .ok (.ldc 7, 2) := by decide +kernel
theorem own_d1_40 : decode method_2_code 40 = .ok (.iastore, 1) := by decide +kernel
theorem own_d1_41 : decode method_2_code 41 = .ok (.dup, 1) := by decide +kernel
theorem own_d1_42 : decode method_2_code 42 = .ok (.bipush 6, 2) := by decide +kernel
theorem own_d1_44 : decode method_2_code 44 = .ok (.ldc 8, 2) := by decide +kernel
theorem own_d1_46 : decode method_2_code 46 = .ok (.iastore, 1) := by decide +kernel
theorem own_d1_47 : decode method_2_code 47 = .ok (.dup, 1) := by decide +kernel
theorem own_d1_48 : decode method_2_code 48 = .ok (.bipush 7, 2) := by decide +kernel
theorem own_d1_50 : decode method_2_code 50 = .ok (.ldc 9, 2) := by decide +kernel
theorem own_d1_52 : decode method_2_code 52 = .ok (.iastore, 1) := by decide +kernel
theorem own_d1_53 : decode method_2_code 53 = .ok (.dup, 1) := by decide +kernel
theorem own_d1_54 : decode method_2_code 54 = .ok (.bipush 8, 2) := by decide +kernel
theorem own_d1_56 : decode method_2_code 56 = .ok (.ldc 10, 2) := by decide +kernel
theorem own_d1_58 : decode method_2_code 58 = .ok (.iastore, 1) := by decide +kernel
theorem own_d1_59 : decode method_2_code 59 = .ok (.dup, 1) := by decide +kernel
theorem own_d1_60 : decode method_2_code 60 = .ok (.bipush 9, 2) := by decide +kernel
theorem own_d1_62 : decode method_2_code 62 = .ok (.ldc 11, 2) := by decide +kernel
theorem own_d1_64 : decode method_2_code 64 = .ok (.iastore, 1) := by decide +kernel
theorem own_d1_65 : decode method_2_code 65 = .ok (.dup, 1) := by decide +kernel
theorem own_d1_66 : decode method_2_code 66 = .ok (.bipush 10, 2) := by decide +kernel
theorem own_d1_68 : decode method_2_code 68 = .ok (.ldc 12, 2) := by decide +kernel
theorem own_d1_70 : decode method_2_code 70 = .ok (.iastore, 1) := by decide +kernel
theorem own_d1_71 : decode method_2_code 71 = .ok (.dup, 1) := by decide +kernel
theorem own_d1_72 : decode method_2_code 72 = .ok (.bipush 11, 2) := by decide +kernel
theorem own_d1_74 : decode method_2_code 74 = .ok (.ldc 13, 2) := by decide +kernel
theorem own_d1_76 : decode method_2_code 76 = .ok (.iastore, 1) := by decide +kernel
theorem own_d1_77 : decode method_2_code 77 = .ok (.dup, 1) := by decide +kernel
theorem own_d1_78 : decode method_2_code 78 = .ok (.bipush 12, 2) := by decide +kernel
theorem own_d1_80 : decode method_2_code 80 = .ok (.ldc 14, 2) := by decide +kernel
theorem own_d1_82 : decode method_2_code 82 = .ok (.iastore, 1) := by decide +kernel
theorem own_d1_83 : decode method_2_code 83 = .ok (.dup, 1) := by decide +kernel
theorem own_d1_84 : decode method_2_code 84 = .ok (.bipush 13, 2) := by decide +kernel
theorem own_d1_86 : decode method_2_code 86 = .ok (.ldc 15, 2) := by decide +kernel
theorem own_d1_88 : decode method_2_code 88 = .ok (.iastore, 1) := by decide +kernel
theorem own_d1_89 : decode method_2_code 89 = .ok (.dup, 1) := by decide +kernel
theorem own_d1_90 : decode method_2_code 90 = .ok (.bipush 14, 2) := by decide +kernel
theorem own_d1_92 : decode method_2_code 92 = .ok (.ldc 18, 2) := by decide +kernel
theorem own_d1_94 : decode method_2_code 94 = .ok (.iastore, 1) := by decide +kernel
theorem own_d1_95 : decode method_2_code 95 = .ok (.dup, 1) := by decide +kernel
theorem own_d1_96 : decode method_2_code 96 = .ok (.bipush 15, 2) := by decide +kernel
theorem own_d1_98 : decode method_2_code 98 = .ok (.ldc 19, 2) := by decide +kernel
theorem own_d1_100 : decode method_2_code 100 = .ok (.iastore, 1) := by decide +kernel
theorem own_d1_101 : decode method_2_code 101 = .ok (.astore_n 3, 1) := by decide +kernel
theorem own_d1_102 : decode method_2_code 102 = .ok (.aload_n 3, 1) := by decide +kernel
theorem own_d1_103 : decode method_2_code 103 = .ok (.iload_n 1, 1) := by decide +kernel
theorem own_d1_104 : decode method_2_code 104 = .ok (.iconst 1, 1) := by decide +kernel
theorem own_d1_105 : decode method_2_code 105 = .ok (.iushr, 1) := by decide +kernel
theorem own_d1_106 : decode method_2_code 106 = .ok (.bipush 15, 2) := by decide +kernel
theorem own_d1_108 : decode method_2_code 108 = .ok (.iand, 1) := by decide +kernel
theorem own_d1_109 : decode method_2_code 109 = .ok (.iaload, 1) := by decide +kernel
theorem own_d1_110 : decode method_2_code 110 = .ok (.iload_n 2, 1) := by decide +kernel
theorem own_d1_111 : decode method_2_code 111 = .ok (.iconst 3, 1) := by decide +kernel
theorem own_d1_112 : decode method_2_code 112 = .ok (.irem, 1) := by decide +kernel
theorem own_d1_113 : decode method_2_code 113 = .ok (.iadd, 1) := by decide +kernel
theorem own_d1_114 : decode method_2_code 114 = .ok (.ireturn, 1) := by decide +kernel
theorem own_d2_0 : decode prog_51_method_10_code 0 = .ok (.iload_n 0, 1) := by decide +kernel
theorem own_d2_1 : decode prog_51_method_10_code 1 = .ok (.bipush 9, 2) := by decide +kernel
theorem own_d2_3 : decode prog_51_method_10_code 3 = .ok (.if_icmp .eq 56, 3) := by decide +kernel
theorem own_d2_6 : decode prog_51_method_10_code 6 = .ok (.iload_n 0, 1) := by decide +kernel
theorem own_d2_7 : decode prog_51_method_10_code 7 = .ok (.bipush 10, 2) := by decide +kernel
theorem own_d2_9 : decode prog_51_method_10_code 9 = .ok (.if_icmp .eq 50, 3) := by decide +kernel
theorem own_d2_12 : decode prog_51_method_10_code 12 = .ok (.iload_n 0, 1) := by decide +kernel
theorem own_d2_13 : decode prog_51_method_10_code 13 = .ok (.bipush 13, 2) := by decide +kernel
theorem own_d2_15 : decode prog_51_method_10_code 15 = .ok (.if_icmp .eq 44, 3) := by decide +kernel
theorem own_d2_18 : decode prog_51_method_10_code 18 = .ok (.iload_n 0, 1) := by decide +kernel
theorem own_d2_19 : decode prog_51_method_10_code 19 = .ok (.bipush 32, 2) := by decide +kernel
theorem own_d2_21 : decode prog_51_method_10_code 21 = .ok (.if_icmp .lt 10, 3) := by decide +kernel
theorem own_d2_24 : decode prog_51_method_10_code 24 = .ok (.iload_n 0, 1) := by decide +kernel
theorem own_d2_25 : decode prog_51_method_10_code 25 = .ok (.ldc_w 259, 3) := by decide +kernel
theorem own_d2_28 : decode prog_51_method_10_code 28 = .ok (.if_icmp .le 31, 3) := by decide +kernel
theorem own_d2_31 : decode prog_51_method_10_code 31 = .ok (.iload_n 0, 1) := by decide +kernel
theorem own_d2_32 : decode prog_51_method_10_code 32 = .ok (.ldc_w 260, 3) := by decide +kernel
theorem own_d2_35 : decode prog_51_method_10_code 35 = .ok (.if_icmp .lt 10, 3) := by decide +kernel
theorem own_d2_38 : decode prog_51_method_10_code 38 = .ok (.iload_n 0, 1) := by decide +kernel
theorem own_d2_39 : decode prog_51_method_10_code 39 = .ok (.ldc_w 261, 3) := by decide +kernel
theorem own_d2_42 : decode prog_51_method_10_code 42 = .ok (.if_icmp .le 17, 3) := by decide +kernel
theorem own_d2_45 : decode prog_51_method_10_code 45 = .ok (.iload_n 0, 1) := by decide +kernel
theorem own_d2_46 : decode prog_51_method_10_code 46 = .ok (.ldc_w 262, 3) := by decide +kernel
theorem own_d2_49 : decode prog_51_method_10_code 49 = .ok (.if_icmp .lt 14, 3) := by decide +kernel
theorem own_d2_52 : decode prog_51_method_10_code 52 = .ok (.iload_n 0, 1) := by decide +kernel
theorem own_d2_53 : decode prog_51_method_10_code 53 = .ok (.ldc_w 263, 3) := by decide +kernel
theorem own_d2_56 : decode prog_51_method_10_code 56 = .ok (.if_icmp .gt 7, 3) := by decide +kernel
theorem own_d2_59 : decode prog_51_method_10_code 59 = .ok (.iconst 1, 1) := by decide +kernel
theorem own_d2_60 : decode prog_51_method_10_code 60 = .ok (.goto 4, 3) := by decide +kernel
theorem own_d2_63 : decode prog_51_method_10_code 63 = .ok (.iconst 0, 1) := by decide +kernel
theorem own_d2_64 : decode prog_51_method_10_code 64 = .ok (.ireturn, 1) := by decide +kernel
theorem own_d3_0 : decode method_3_code 0 = .ok (.iload_n 0, 1) := by decide +kernel
theorem own_d3_1 : decode method_3_code 1 = .ok (.ifCond .lt 9, 3) := by decide +kernel
theorem own_d3_4 : decode method_3_code 4 = .ok (.iload_n 0, 1) := by decide +kernel
theorem own_d3_5 : decode method_3_code 5 = .ok (.ldc 14, 2) := by decide +kernel
theorem own_d3_7 : decode method_3_code 7 = .ok (.if_icmp .le 7, 3) := by decide +kernel
theorem own_d3_10 : decode method_3_code 10 = .ok (.iconst 1, 1) := by decide +kernel
theorem own_d3_11 : decode method_3_code 11 = .ok (.goto 4, 3) := by decide +kernel
theorem own_d3_14 : decode method_3_code 14 = .ok (.iconst 0, 1) := by decide +kernel
theorem own_d3_15 : decode method_3_code 15 = .ok (.istore_n 1, 1) := by decide +kernel
theorem own_d3_16 : decode method_3_code 16 = .ok (.iload_n 0, 1) := by decide +kernel
theorem own_d3_17 : decode method_3_code 17 = .ok (.ifCond .lt 31, 3) := by decide +kernel
theorem own_d3_20 : decode method_3_code 20 = .ok (.iload_n 0, 1) := by decide +kernel
theorem own_d3_21 : decode method_3_code 21 = .ok (.bipush 32, 2) := by decide +kernel
theorem own_d3_23 : decode method_3_code 23 = .ok (.if_icmp .ge 25, 3) := by decide +kernel
theorem own_d3_26 : decode method_3_code 26 = .ok (.iload_n 0, 1) := by decide +kernel
theorem own_d3_27 : decode method_3_code 27 = .ok (.bipush 9, 2) := by decide +kernel
theorem own_d3_29 : decode method_3_code 29 = .ok (.if_icmp .eq 19, 3) := by decide +kernel
theorem own_d3_32 : decode method_3_code 32 = .ok (.iload_n 0, 1) := by decide +kernel
theorem own_d3_33 : decode method_3_code 33 = .ok (.bipush 10, 2) := by decide +kernel
theorem own_d3_35 : decode method_3_code 35 = .ok (.if_icmp .eq 13, 3) := by decide +kernel
theorem own_d3_38 : decode method_3_code 38 = .ok (.iload_n 0, 1) := by decide +kernel
theorem own_d3_39 : decode method_3_code 39 = .ok (.bipush 13, 2) := by decide +kernel
theorem own_d3_41 : decode method_3_code 41 = .ok (.if_icmp .eq 7, 3) := by decide +kernel
theorem own_d3_44 : decode method_3_code 44 = .ok (.iconst 1, 1) := by decide +kernel
theorem own_d3_45 : decode method_3_code 45 = .ok (.goto 4, 3) := by decide +kernel
theorem own_d3_48 : decode method_3_code 48 = .ok (.iconst 0, 1) := by decide +kernel
theorem own_d3_49 : decode method_3_code 49 = .ok (.istore_n 2, 1) := by decide +kernel
theorem own_d3_50 : decode method_3_code 50 = .ok (.iload_n 0, 1) := by decide +kernel
theorem own_d3_51 : decode method_3_code 51 = .ok (.ldc 8, 2) := by decide +kernel
theorem own_d3_53 : decode method_3_code 53 = .ok (.if_icmp .lt 13, 3) := by decide +kernel
theorem own_d3_56 : decode method_3_code 56 = .ok (.iload_n 0, 1) := by decide +kernel
theorem own_d3_57 : decode method_3_code 57 = .ok (.ldc 9, 2) := by decide +kernel
theorem own_d3_59 : decode method_3_code 59 = .ok (.if_icmp .gt 7, 3) := by decide +kernel
theorem own_d3_62 : decode method_3_code 62 = .ok (.iconst 1, 1) := by decide +kernel
theorem own_d3_63 : decode method_3_code 63 = .ok (.goto 4, 3) := by decide +kernel
theorem own_d3_66 : decode method_3_code 66 = .ok (.iconst 0, 1) := by decide +kernel
theorem own_d3_67 : decode method_3_code 67 = .ok (.istore_n 3, 1) := by decide +kernel
theorem own_d3_68 : decode method_3_code 68 = .ok (.iload_n 0, 1) := by decide +kernel
theorem own_d3_69 : decode method_3_code 69 = .ok (.ldc 12, 2) := by decide +kernel
theorem own_d3_71 : decode method_3_code 71 = .ok (.if_icmp .eq 9, 3) := by decide +kernel
theorem own_d3_74 : decode method_3_code 74 = .ok (.iload_n 0, 1) := by decide +kernel
theorem own_d3_75 : decode method_3_code 75 = .ok (.ldc 20, 2) := by decide +kernel
theorem own_d3_77 : decode method_3_code 77 = .ok (.if_icmp .ne 7, 3) := by decide +kernel
theorem own_d3_80 : decode method_3_code 80 = .ok (.iconst 1, 1) := by decide +kernel
theorem own_d3_81 : decode method_3_code 81 = .ok (.goto 4, 3) := by decide +kernel
theorem own_d3_84 : decode method_3_code 84 = .ok (.iconst 0, 1) := by decide +kernel
theorem own_d3_85 : decode method_3_code 85 = .ok (.istore 4, 2) := by decide +kernel
theorem own_d3_87 : decode method_3_code 87 = .ok (.iload_n 1, 1) := by decide +kernel
theorem own_d3_88 : decode method_3_code 88 = .ok (.ifCond .ne 16, 3) := by decide +kernel
theorem own_d3_91 : decode method_3_code 91 = .ok (.iload_n 2, 1) := by decide +kernel
theorem own_d3_92 : decode method_3_code 92 = .ok (.ifCond .ne 12, 3) := by decide +kernel
theorem own_d3_95 : decode method_3_code 95 = .ok (.iload_n 3, 1) := by decide +kernel
theorem own_d3_96 : decode method_3_code 96 = .ok (.ifCond .ne 8, 3) := by decide +kernel
theorem own_d3_99 : decode method_3_code 99 = .ok (.iload 4, 2) := by decide +kernel
theorem own_d3_101 : decode method_3_code 101 = .ok (.ifCond .eq 7, 3) := by decide +kernel
theorem own_d3_104 : decode method_3_code 104 = .ok (.iconst 1, 1) := by decide +kernel
theorem own_d3_105 : decode method_3_code 105 = .ok (.goto 4, 3) := by decide +kernel
theorem own_d3_108 : decode method_3_code 108 = .ok (.iconst 0, 1) := by decide +kernel
theorem own_d3_109 : decode method_3_code 109 = .ok (.ireturn, 1) := by decide +kernel
theorem own_pn_0 : plainName "com/example/redwing/redwing/core/XmlCheckIsXmlCharacterPinLaw" = true := by first | (simp [plainName, overriddenIn]; done) | decide +kernel
theorem own_ef_0 (m : MethodId) (x0 : Int32) (x1 : Int32) (x2 : Int32) : entryFrame m #[(.int x0), (.int x1), (.int x2)] 4 = mkF m 0 #[.val (.int x0), .val (.int x1), .val (.int x2), .unset] [] := by first | (simp [entryFrame, mkF, argsToLocals, Value.category]; done) | rfl
theorem own_pn_1 : plainName "com/example/redwing/redwing/core/XmlCheck" = true := by first | (simp [plainName, overriddenIn]; done) | decide +kernel
theorem own_ef_1 (m : MethodId) (x0 : Int32) : entryFrame m #[(.int x0)] 1 = mkF m 0 #[.val (.int x0)] [] := by first | (simp [entryFrame, mkF, argsToLocals, Value.category]; done) | rfl
theorem own_ef_2 (m : MethodId) (x0 : Int32) : entryFrame m #[(.int x0)] 5 = mkF m 0 #[.val (.int x0), .unset, .unset, .unset, .unset] [] := by first | (simp [entryFrame, mkF, argsToLocals, Value.category]; done) | rfl
theorem own_ef_3 (m : MethodId) (x0 : Int32) (x1 : Int32) (x2 : Int32) : entryFrame m #[(.int x0), (.int x1), (.int x2)] maxLocals = mkF m 0 #[.val (.int x0), .val (.int x1), .val (.int x2), .unset] [] := by first | (simp [entryFrame, mkF, argsToLocals, Value.category, maxLocals]; done) | rfl
theorem own_pd_0 : parseMethodDescriptor "(III)I" = some ⟨[.int, .int, .int], some .int⟩ := by decide +kernel
theorem own_pd_1 : parseMethodDescriptor "(I)Z" = some ⟨[.int], some .boolean⟩ := by decide +kernel
def Q_rm1 (Z : State) (p0 : Int32) (p1 : Int32) (p2 : Int32) (h0 : Heap) (n0 : Nat) (v : Option Value) (h : Heap) (L : List Loc) : Prop := ∃ z : Int32, v = some (.int z) ∧ Fr n0 L ∧ Keep h0 h []
set_option maxRecDepth 65536 in
set_option maxHeartbeats 40000000 in
theorem rm1 (l : Launch) (Z : State) (a0 : Array Value) (hw : ∀ d ∈ tables_1, d.before a0 Z = true) (ws : List Jvm.Cond) (p0 : Int32) (p1 : Int32) (p2 : Int32) (h0 : Heap) (n0 : Nat) (Z0 : n0 ≤ h0.size) :
    MetFree l (⟨"com/example/redwing/redwing/core/XmlCheckIsXmlCharacterPinLaw", "pick", "(III)I"⟩ : MethodName) (head1 (Jvm.Cond.code (⟨"com/example/redwing/redwing/core/XmlCheckIsXmlCharacterPinLaw", "pick", "(III)I"⟩ : MethodName) method_2_code 4 (some .int) :: ws) ({ frames := 0, cells := 1, slots := 16, locals := 0 } : Room)) (fun a U => a = #[(.int p0), (.int p1), (.int p2)] ∧ Z.Warmed39 U.vm ∧ U.heap = h0) (fun _ _ _ _ _ => True) (fun _ U o U' => ∃ v L, o = .returned v ∧ Q_rm1 Z p0 p1 p2 h0 n0 v U'.heap L ∧ FrameEnd U o U' L ({ frames := 0, cells := 1, slots := 16, locals := 0 } : Room).cells ({ frames := 0, cells := 1, slots := 16, locals := 0 } : Room).slots) := by
  refine MetFree.of_bodySF (plainFor_of_name own_pn_0) hisR ?_
  intro p e s m args below meth c s₁ Bd hml0 hP hK
  obtain ⟨rfl, hZ, hh⟩ := hP
  have hx := Bd.exec
  have hby := Bd.bytes
  have hml : c.maxLocals = 4 := hml0
  have hown : s.vm.findClass "com/example/redwing/redwing/core/XmlCheckIsXmlCharacterPinLaw" = some m.cls := findClass_of_methodNamed Bd.named
  have hnm := (name_of_methodNamed Bd.named Bd.method).1
  have X0 : Stand p l e ({ frames := 0, cells := 1, slots := 16, locals := 0 } : Room) s m #[(.int p0), (.int p1), (.int p2)] below meth c s₁ [] 0 0 := Stand.of_body Bd
  have e0 : s₁.heap = h0 := by rw [← hh, Bd.state]; rfl
  have N0 := Fr.nil n0
  have K0 : Keep h0 h0 [] := Keep.refl h0 _
  have pre0 : ∀ t, Steps p.tables e below (s₁.setTop (mkF m 0 #[.val (.int p0), .val (.int p1), .val (.int p2), .unset] [])) t → Steps p.tables e below (s₁.setTop (entryFrame m #[(.int p0), (.int p1), (.int p2)] 4)) t := fun t k => castTop (own_ef_0 m p0 p1 p2) k
  have k1 : ∀ t, Steps p.tables e below (s₁.setTop (mkF m 3 #[.val (.int p0), .val (.int p1), .val (.int p2), .unset] [(.int (p1 &&& (1 : Int32)))])) t → Steps p.tables e below (s₁.setTop (mkF m 0 #[.val (.int p0), .val (.int p1), .val (.int p2), .unset] [])) t := by
    intro t h
    show Steps p.tables e below (s₁.setTop (mkF m 0 #[.val (.int p0), .val (.int p1), .val (.int p2), .unset] [])) _
    refine XS.iloadN X0.here hx rfl (hb hby own_d1_0) rfl ?_
    show Steps p.tables e below (s₁.setTop (mkF m 1 #[.val (.int p0), .val (.int p1), .val (.int p2), .unset] [(.int p1)])) _
    refine XS.iconst X0.here hx rfl (hb hby own_d1_1) ?_
    show Steps p.tables e below (s₁.setTop (mkF m 2 #[.val (.int p0), .val (.int p1), .val (.int p2), .unset] [(.int (1 : Int32)), (.int p1)])) _
    refine XS.iand X0.here hx rfl (hb hby own_d1_2) rfl ?_
    exact h
  by_cases c3_2 : (p1 &&& (1 : Int32)) = (0 : Int32)
  · skip
    have k3 : ∀ t, Steps p.tables e below (s₁.setTop (mkF m 7 #[.val (.int p0), .val (.int p1), .val (.int p2), .unset] [(.int p0)])) t → Steps p.tables e below (s₁.setTop (mkF m 0 #[.val (.int p0), .val (.int p1), .val (.int p2), .unset] [])) t := by
      intro t h
      refine k1 t ?_
      show Steps p.tables e below (s₁.setTop (mkF m 3 #[.val (.int p0), .val (.int p1), .val (.int p2), .unset] [(.int (p1 &&& (1 : Int32)))])) _
      refine XS.ifNo X0.here hx rfl (hb hby own_d1_3) rfl ((if0 _ _).trans (teq c3_2).2) ?_
      show Steps p.tables e below (s₁.setTop (mkF m 6 #[.val (.int p0), .val (.int p1), .val (.int p2), .unset] [])) _
      refine XS.iloadN X0.here hx rfl (hb hby own_d1_6) rfl ?_
      exact h
    obtain ⟨fs, hr, hrun, hended, hW, hsame⟩ := X0.leave (v := some (.int p0)) (fun h => by rw [Bd.returns] at h; cases h)
    refine ⟨_, _, pre0 _ (k3 _ ?_), hrun, hended, _, _, rfl, ?_, ⟨_, rfl⟩, hW, hsame.mono (by decide) (by decide)⟩
    · exact retI X0 hx Bd.returns (hb hby own_d1_7) hr
    · show Q_rm1 Z _ _ _ h0 n0 _ s₁.heap _
      rw [e0]
      exact ⟨_, rfl, N0, K0⟩
  · skip
    obtain ⟨T4, h4, k4, X4, e4, E4, A4, st4⟩ := newP X0 hx hZ (hw _ (List.mem_of_getElem? (i := 4) rfl)) e0 (g := (mkF m 10 #[.val (.int p0), .val (.int p1), .val (.int p2), .unset] [(.int (16 : Int32))])) rfl (hb hby own_d1_10) rfl (by decide) (cap := 16) (by decide) (by decide) (by decide) (by decide)
    obtain ⟨b4, g4⟩ : ∃ z, z = h0.size := ⟨_, rfl⟩
    rw [← g4] at A4 st4
    have g_b4 : n0 ≤ b4 := Nat.le_trans Z0 (Nat.le_of_eq g4.symm)
    have sz_b4 : h0.size ≤ b4 := Nat.le_trans K0.1 (Nat.le_of_eq g4.symm)
    have Z5 : n0 ≤ h4.size := Nat.le_trans Z0 E4.1
    have K6 := K0.ext E4
    have V_b4 : Arv Z h4 b4 k4 .int (16 : Int32) [(.int (0 : Int32)), (.int (0 : Int32)), (.int (0 : Int32)), (.int (0 : Int32)), (.int (0 : Int32)), (.int (0 : Int32)), (.int (0 : Int32)), (.int (0 : Int32)), (.int (0 : Int32)), (.int (0 : Int32)), (.int (0 : Int32)), (.int (0 : Int32)), (.int (0 : Int32)), (.int (0 : Int32)), (.int (0 : Int32)), (.int (0 : Int32))] (.int (0 : Int32)) := (Arv.new A4 (by decide)).pad (pad_rep [] (.int (0 : Int32)) 16)
    obtain ⟨cl7, Ar7, q7, S7, Ng7, H7, G7⟩ := id V_b4
    have hin7 : ¬ ((0 : Int32) < 0 ∨ cl7.slots.size ≤ ((0 : Int32)).toNatClampNeg) := inb_of S7 ⟨by decide, by decide⟩
    obtain ⟨T7, h7, X7, e7, W7, st7⟩ := stI X4 hx hZ e4 Ar7 (j := (0 : Int32)) hin7 (g := (mkF m 15 #[.val (.int p0), .val (.int p1), .val (.int p2), .unset] [(.int (0 : Int32)), (.int (0 : Int32)), (.ref b4), (.ref b4)])) rfl rfl (hb hby own_d1_15)
    have V7 : Arv Z h7 b4 k4 .int (16 : Int32) [(.int (0 : Int32)), (.int (0 : Int32)), (.int (0 : Int32)), (.int (0 : Int32)), (.int (0 : Int32)), (.int (0 : Int32)), (.int (0 : Int32)), (.int (0 : Int32)), (.int (0 : Int32)), (.int (0 : Int32)), (.int (0 : Int32)), (.int (0 : Int32)), (.int (0 : Int32)), (.int (0 : Int32)), (.int (0 : Int32)), (.int (0 : Int32))] (.int (0 : Int32)) := Arv.set Ar7 q7 S7 Ng7 H7 G7 rfl W7 0 rfl (Nat.le_of_ble_eq_true rfl)
    have Z8 : n0 ≤ h7.size := Nat.le_trans Z5 (Keep.of_wr W7).1
    have K9 := K6.wr W7 (Or.inr sz_b4)
    have N7 := Fr.snoc X7 N0 g_b4
    obtain ⟨cl10, Ar10, q10, S10, Ng10, H10, G10⟩ := id V7
    have hin10 : ¬ ((1 : Int32) < 0 ∨ cl10.slots.size ≤ ((1 : Int32)).toNatClampNeg) := inb_of S10 ⟨by decide, by decide⟩
    obtain ⟨T10, h10, X10, e10, W10, st10⟩ := stI X7 hx hZ e7 Ar10 (j := (1 : Int32)) hin10 (g := (mkF m 20 #[.val (.int p0), .val (.int p1), .val (.int p2), .unset] [(.int (9 : Int32)), (.int (1 : Int32)), (.ref b4), (.ref b4)])) rfl rfl (hb hby own_d1_20)
    have V10 : Arv Z h10 b4 k4 .int (16 : Int32) [(.int (0 : Int32)), (.int (9 : Int32)), (.int (0 : Int32)), (.int (0 : Int32)), (.int (0 : Int32)), (.int (0 : Int32)), (.int (0 : Int32)), (.int (0 : Int32)), (.int (0 : Int32)), (.int (0 : Int32)), (.int (0 : Int32)), (.int (0 : Int32)), (.int (0 : Int32)), (.int (0 : Int32)), (.int (0 : Int32)), (.int (0 : Int32))] (.int (0 : Int32)) := Arv.set Ar10 q10 S10 Ng10 H10 G10 rfl W10 1 rfl (Nat.le_of_ble_eq_true rfl)
    have Z11 : n0 ≤ h10.size := Nat.le_trans Z8 (Keep.of_wr W10).1
    have K12 := K9.wr W10 (Or.inr sz_b4)
    have N10 := Fr.snoc X10 N7 g_b4
    obtain ⟨cl13, Ar13, q13, S13, Ng13, H13, G13⟩ := id V10
    have hin13 : ¬ ((2 : Int32) < 0 ∨ cl13.slots.size ≤ ((2 : Int32)).toNatClampNeg) := inb_of S13 ⟨by decide, by decide⟩
    obtain ⟨T13, h13, X13, e13, W13, st13⟩ := stI X10 hx hZ e10 Ar13 (j := (2 : Int32)) hin13 (g := (mkF m 25 #[.val (.int p0), .val (.int p1), .val (.int p2), .unset] [(.int (10 : Int32)), (.int (2 : Int32)), (.ref b4), (.ref b4)])) rfl rfl (hb hby own_d1_25)
    have V13 : Arv Z h13 b4 k4 .int (16 : Int32) [(.int (0 : Int32)), (.int (9 : Int32)), (.int (10 : Int32)), (.int (0 : Int32)), (.int (0 : Int32)), (.int (0 : Int32)), (.int (0 : Int32)), (.int (0 : Int32)), (.int (0 : Int32)), (.int (0 : Int32)), (.int (0 : Int32)), (.int (0 : Int32)), (.int (0 : Int32)), (.int (0 : Int32)), (.int (0 : Int32)), (.int (0 : Int32))] (.int (0 : Int32)) := Arv.set Ar13 q13 S13 Ng13 H13 G13 rfl W13 2 rfl (Nat.le_of_ble_eq_true rfl)
    have Z14 : n0 ≤ h13.size := Nat.le_trans Z11 (Keep.of_wr W13).1
    have K15 := K12.wr W13 (Or.inr sz_b4)
    have N13 := Fr.snoc X13 N10 g_b4
    obtain ⟨cl16, Ar16, q16, S16, Ng16, H16, G16⟩ := id V13
    have hin16 : ¬ ((3 : Int32) < 0 ∨ cl16.slots.size ≤ ((3 : Int32)).toNatClampNeg) := inb_of S16 ⟨by decide, by decide⟩
    obtain ⟨T16, h16, X16, e16, W16, st16⟩ := stI X13 hx hZ e13 Ar16 (j := (3 : Int32)) hin16 (g := (mkF m 30 #[.val (.int p0), .val (.int p1), .val (.int p2), .unset] [(.int (13 : Int32)), (.int (3 : Int32)), (.ref b4), (.ref b4)])) rfl rfl (hb hby own_d1_30)
    have V16 : Arv Z h16 b4 k4 .int (16 : Int32) [(.int (0 : Int32)), (.int (9 : Int32)), (.int (10 : Int32)), (.int (13 : Int32)), (.int (0 : Int32)), (.int (0 : Int32)), (.int (0 : Int32)), (.int (0 : Int32)), (.int (0 : Int32)), (.int (0 : Int32)), (.int (0 : Int32)), (.int (0 : Int32)), (.int (0 : Int32)), (.int (0 : Int32)), (.int (0 : Int32)), (.int (0 : Int32))] (.int (0 : Int32)) := Arv.set Ar16 q16 S16 Ng16 H16 G16 rfl W16 3 rfl (Nat.le_of_ble_eq_true rfl)
    have Z17 : n0 ≤ h16.size := Nat.le_trans Z14 (Keep.of_wr W16).1
    have K18 := K15.wr W16 (Or.inr sz_b4)
    have N16 := Fr.snoc X16 N13 g_b4
    obtain ⟨cl19, Ar19, q19, S19, Ng19, H19, G19⟩ := id V16
    have hin19 : ¬ ((4 : Int32) < 0 ∨ cl19.slots.size ≤ ((4 : Int32)).toNatClampNeg) := inb_of S19 ⟨by decide, by decide⟩
    obtain ⟨T19, h19, X19, e19, W19, st19⟩ := stI X16 hx hZ e16 Ar19 (j := (4 : Int32)) hin19 (g := (mkF m 35 #[.val (.int p0), .val (.int p1), .val (.int p2), .unset] [(.int (32 : Int32)), (.int (4 : Int32)), (.ref b4), (.ref b4)])) rfl rfl (hb hby own_d1_35)
    have V19 : Arv Z h19 b4 k4 .int (16 : Int32) [(.int (0 : Int32)), (.int (9 : Int32)), (.int (10 : Int32)), (.int (13 : Int32)), (.int (32 : Int32)), (.int (0 : Int32)), (.int (0 : Int32)), (.int (0 : Int32)), (.int (0 : Int32)), (.int (0 : Int32)), (.int (0 : Int32)), (.int (0 : Int32)), (.int (0 : Int32)), (.int (0 : Int32)), (.int (0 : Int32)), (.int (0 : Int32))] (.int (0 : Int32)) := Arv.set Ar19 q19 S19 Ng19 H19 G19 rfl W19 4 rfl (Nat.le_of_ble_eq_true rfl)
    have Z20 : n0 ≤ h19.size := Nat.le_trans Z17 (Keep.of_wr W19).1
    have K21 := K18.wr W19 (Or.inr sz_b4)
    have N19 := Fr.snoc X19 N16 g_b4
    obtain ⟨cl22, Ar22, q22, S22, Ng22, H22, G22⟩ := id V19
    have hin22 : ¬ ((5 : Int32) < 0 ∨ cl22.slots.size ≤ ((5 : Int32)).toNatClampNeg) := inb_of S22 ⟨by decide, by decide⟩
    obtain ⟨T22, h22, X22, e22, W22, st22⟩ := stI X19 hx hZ e19 Ar22 (j := (5 : Int32)) hin22 (g := (mkF m 40 #[.val (.int p0), .val (.int p1), .val (.int p2), .unset] [(.int (55295 : Int32)), (.int (5 : Int32)), (.ref b4), (.ref b4)])) rfl rfl (hb hby own_d1_40)
    have V22 : Arv Z h22 b4 k4 .int (16 : Int32) [(.int (0 : Int32)), (.int (9 : Int32)), (.int (10 : Int32)), (.int (13 : Int32)), (.int (32 : Int32)), (.int (55295 : Int32)), (.int (0 : Int32)), (.int (0 : Int32)), (.int (0 : Int32)), (.int (0 : Int32)), (.int (0 : Int32)), (.int (0 : Int32)), (.int (0 : Int32)), (.int (0 : Int32)), (.int (0 : Int32)), (.int (0 : Int32))] (.int (0 : Int32)) := Arv.set Ar22 q22 S22 Ng22 H22 G22 rfl W22 5 rfl (Nat.le_of_ble_eq_true rfl)
    have Z23 : n0 ≤ h22.size := Nat.le_trans Z20 (Keep.of_wr W22).1
    have K24 := K21.wr W22 (Or.inr sz_b4)
    have N22 := Fr.snoc X22 N19 g_b4
    obtain ⟨cl25, Ar25, q25, S25, Ng25, H25, G25⟩ := id V22
    have hin25 : ¬ ((6 : Int32) < 0 ∨ cl25.slots.size ≤ ((6 : Int32)).toNatClampNeg) := inb_of S25 ⟨by decide, by decide⟩
    obtain ⟨T25, h25, X25, e25, W25, st25⟩ := stI X22 hx hZ e22 Ar25 (j := (6 : Int32)) hin25 (g := (mkF m 46 #[.val (.int p0), .val (.int p1), .val (.int p2), .unset] [(.int (55296 : Int32)), (.int (6 : Int32)), (.ref b4), (.ref b4)])) rfl rfl (hb hby own_d1_46)
    have V25 : Arv Z h25 b4 k4 .int (16 : Int32) [(.int (0 : Int32)), (.int (9 : Int32)), (.int (10 : Int32)), (.int (13 : Int32)), (.int (32 : Int32)), (.int (55295 : Int32)), (.int (55296 : Int32)), (.int (0 : Int32)), (.int (0 : Int32)), (.int (0 : Int32)), (.int (0 : Int32)), (.int (0 : Int32)), (.int (0 : Int32)), (.int (0 : Int32)), (.int (0 : Int32)), (.int (0 : Int32))] (.int (0 : Int32)) := Arv.set Ar25 q25 S25 Ng25 H25 G25 rfl W25 6 rfl (Nat.le_of_ble_eq_true rfl)
    have Z26 : n0 ≤ h25.size := Nat.le_trans Z23 (Keep.of_wr W25).1
    have K27 := K24.wr W25 (Or.inr sz_b4)
    have N25 := Fr.snoc X25 N22 g_b4
    obtain ⟨cl28, Ar28, q28, S28, Ng28, H28, G28⟩ := id V25
    have hin28 : ¬ ((7 : Int32) < 0 ∨ cl28.slots.size ≤ ((7 : Int32)).toNatClampNeg) := inb_of S28 ⟨by decide, by decide⟩
    obtain ⟨T28, h28, X28, e28, W28, st28⟩ := stI X25 hx hZ e25 Ar28 (j := (7 : Int32)) hin28 (g := (mkF m 52 #[.val (.int p0), .val (.int p1), .val (.int p2), .unset] [(.int (57343 : Int32)), (.int (7 : Int32)), (.ref b4), (.ref b4)])) rfl rfl (hb hby own_d1_52)
    have V28 : Arv Z h28 b4 k4 .int (16 : Int32) [(.int (0 : Int32)), (.int (9 : Int32)), (.int (10 : Int32)), (.int (13 : Int32)), (.int (32 : Int32)), (.int (55295 : Int32)), (.int (55296 : Int32)), (.int (57343 : Int32)), (.int (0 : Int32)), (.int (0 : Int32)), (.int (0 : Int32)), (.int (0 : Int32)), (.int (0 : Int32)), (.int (0 : Int32)), (.int (0 : Int32)), (.int (0 : Int32))] (.int (0 : Int32)) := Arv.set Ar28 q28 S28 Ng28 H28 G28 rfl W28 7 rfl (Nat.le_of_ble_eq_true rfl)
    have Z29 : n0 ≤ h28.size := Nat.le_trans Z26 (Keep.of_wr W28).1
    have K30 := K27.wr W28 (Or.inr sz_b4)
    have N28 := Fr.snoc X28 N25 g_b4
    obtain ⟨cl31, Ar31, q31, S31, Ng31, H31, G31⟩ := id V28
    have hin31 : ¬ ((8 : Int32) < 0 ∨ cl31.slots.size ≤ ((8 : Int32)).toNatClampNeg) := inb_of S31 ⟨by decide, by decide⟩
    obtain ⟨T31, h31, X31, e31, W31, st31⟩ := stI X28 hx hZ e28 Ar31 (j := (8 : Int32)) hin31 (g := (mkF m 58 #[.val (.int p0), .val (.int p1), .val (.int p2), .unset] [(.int (57344 : Int32)), (.int (8 : Int32)), (.ref b4), (.ref b4)])) rfl rfl (hb hby own_d1_58)
    have V31 : Arv Z h31 b4 k4 .int (16 : Int32) [(.int (0 : Int32)), (.int (9 : Int32)), (.int (10 : Int32)), (.int (13 : Int32)), (.int (32 : Int32)), (.int (55295 : Int32)), (.int (55296 : Int32)), (.int (57343 : Int32)), (.int (57344 : Int32)), (.int (0 : Int32)), (.int (0 : Int32)), (.int (0 : Int32)), (.int (0 : Int32)), (.int (0 : Int32)), (.int (0 : Int32)), (.int (0 : Int32))] (.int (0 : Int32)) := Arv.set Ar31 q31 S31 Ng31 H31 G31 rfl W31 8 rfl (Nat.le_of_ble_eq_true rfl)
    have Z32 : n0 ≤ h31.size := Nat.le_trans Z29 (Keep.of_wr W31).1
    have K33 := K30.wr W31 (Or.inr sz_b4)
    have N31 := Fr.snoc X31 N28 g_b4
    obtain ⟨cl34, Ar34, q34, S34, Ng34, H34, G34⟩ := id V31
    have hin34 : ¬ ((9 : Int32) < 0 ∨ cl34.slots.size ≤ ((9 : Int32)).toNatClampNeg) := inb_of S34 ⟨by decide, by decide⟩
    obtain ⟨T34, h34, X34, e34, W34, st34⟩ := stI X31 hx hZ e31 Ar34 (j := (9 : Int32)) hin34 (g := (mkF m 64 #[.val (.int p0), .val (.int p1), .val (.int p2), .unset] [(.int (65533 : Int32)), (.int (9 : Int32)), (.ref b4), (.ref b4)])) rfl rfl (hb hby own_d1_64)
    have V34 : Arv Z h34 b4 k4 .int (16 : Int32) [(.int (0 : Int32)), (.int (9 : Int32)), (.int (10 : Int32)), (.int (13 : Int32)), (.int (32 : Int32)), (.int (55295 : Int32)), (.int (55296 : Int32)), (.int (57343 : Int32)), (.int (57344 : Int32)), (.int (65533 : Int32)), (.int (0 : Int32)), (.int (0 : Int32)), (.int (0 : Int32)), (.int (0 : Int32)), (.int (0 : Int32)), (.int (0 : Int32))] (.int (0 : Int32)) := Arv.set Ar34 q34 S34 Ng34 H34 G34 rfl W34 9 rfl (Nat.le_of_ble_eq_true rfl)
    have Z35 : n0 ≤ h34.size := Nat.le_trans Z32 (Keep.of_wr W34).1
    have K36 := K33.wr W34 (Or.inr sz_b4)
    have N34 := Fr.snoc X34 N31 g_b4
    obtain ⟨cl37, Ar37, q37, S37, Ng37, H37, G37⟩ := id V34
    have hin37 : ¬ ((10 : Int32) < 0 ∨ cl37.slots.size ≤ ((10 : Int32)).toNatClampNeg) := inb_of S37 ⟨by decide, by decide⟩
    obtain ⟨T37, h37, X37, e37, W37, st37⟩ := stI X34 hx hZ e34 Ar37 (j := (10 : Int32)) hin37 (g := (mkF m 70 #[.val (.int p0), .val (.int p1), .val (.int p2), .unset] [(.int (65534 : Int32)), (.int (10 : Int32)), (.ref b4), (.ref b4)])) rfl rfl (hb hby own_d1_70)
    have V37 : Arv Z h37 b4 k4 .int (16 : Int32) [(.int (0 : Int32)), (.int (9 : Int32)), (.int (10 : Int32)), (.int (13 : Int32)), (.int (32 : Int32)), (.int (55295 : Int32)), (.int (55296 : Int32)), (.int (57343 : Int32)), (.int (57344 : Int32)), (.int (65533 : Int32)), (.int (65534 : Int32)), (.int (0 : Int32)), (.int (0 : Int32)), (.int (0 : Int32)), (.int (0 : Int32)), (.int (0 : Int32))] (.int (0 : Int32)) := Arv.set Ar37 q37 S37 Ng37 H37 G37 rfl W37 10 rfl (Nat.le_of_ble_eq_true rfl)
    have Z38 : n0 ≤ h37.size := Nat.le_trans Z35 (Keep.of_wr W37).1
    have K39 := K36.wr W37 (Or.inr sz_b4)
    have N37 := Fr.snoc X37 N34 g_b4
    obtain ⟨cl40, Ar40, q40, S40, Ng40, H40, G40⟩ := id V37
    have hin40 : ¬ ((11 : Int32) < 0 ∨ cl40.slots.size ≤ ((11 : Int32)).toNatClampNeg) := inb_of S40 ⟨by decide, by decide⟩
    obtain ⟨T40, h40, X40, e40, W40, st40⟩ := stI X37 hx hZ e37 Ar40 (j := (11 : Int32)) hin40 (g := (mkF m 76 #[.val (.int p0), .val (.int p1), .val (.int p2), .unset] [(.int (65536 : Int32)), (.int (11 : Int32)), (.ref b4), (.ref b4)])) rfl rfl (hb hby own_d1_76)
    have V40 : Arv Z h40 b4 k4 .int (16 : Int32) [(.int (0 : Int32)), (.int (9 : Int32)), (.int (10 : Int32)), (.int (13 : Int32)), (.int (32 : Int32)), (.int (55295 : Int32)), (.int (55296 : Int32)), (.int (57343 : Int32)), (.int (57344 : Int32)), (.int (65533 : Int32)), (.int (65534 : Int32)), (.int (65536 : Int32)), (.int (0 : Int32)), (.int (0 : Int32)), (.int (0 : Int32)), (.int (0 : Int32))] (.int (0 : Int32)) := Arv.set Ar40 q40 S40 Ng40 H40 G40 rfl W40 11 rfl (Nat.le_of_ble_eq_true rfl)
    have Z41 : n0 ≤ h40.size := Nat.le_trans Z38 (Keep.of_wr W40).1
    have K42 := K39.wr W40 (Or.inr sz_b4)
    have N40 := Fr.snoc X40 N37 g_b4
    obtain ⟨cl43, Ar43, q43, S43, Ng43, H43, G43⟩ := id V40
    have hin43 : ¬ ((12 : Int32) < 0 ∨ cl43.slots.size ≤ ((12 : Int32)).toNatClampNeg) := inb_of S43 ⟨by decide, by decide⟩
    obtain ⟨T43, h43, X43, e43, W43, st43⟩ := stI X40 hx hZ e40 Ar43 (j := (12 : Int32)) hin43 (g := (mkF m 82 #[.val (.int p0), .val (.int p1), .val (.int p2), .unset] [(.int (1114111 : Int32)), (.int (12 : Int32)), (.ref b4), (.ref b4)])) rfl rfl (hb hby own_d1_82)
    have V43 : Arv Z h43 b4 k4 .int (16 : Int32) [(.int (0 : Int32)), (.int (9 : Int32)), (.int (10 : Int32)), (.int (13 : Int32)), (.int (32 : Int32)), (.int (55295 : Int32)), (.int (55296 : Int32)), (.int (57343 : Int32)), (.int (57344 : Int32)), (.int (65533 : Int32)), (.int (65534 : Int32)), (.int (65536 : Int32)), (.int (1114111 : Int32)), (.int (0 : Int32)), (.int (0 : Int32)), (.int (0 : Int32))] (.int (0 : Int32)) := Arv.set Ar43 q43 S43 Ng43 H43 G43 rfl W43 12 rfl (Nat.le_of_ble_eq_true rfl)
    have Z44 : n0 ≤ h43.size := Nat.le_trans Z41 (Keep.of_wr W43).1
    have K45 := K42.wr W43 (Or.inr sz_b4)
    have N43 := Fr.snoc X43 N40 g_b4
    obtain ⟨cl46, Ar46, q46, S46, Ng46, H46, G46⟩ := id V43
    have hin46 : ¬ ((13 : Int32) < 0 ∨ cl46.slots.size ≤ ((13 : Int32)).toNatClampNeg) := inb_of S46 ⟨by decide, by decide⟩
    obtain ⟨T46, h46, X46, e46, W46, st46⟩ := stI X43 hx hZ e43 Ar46 (j := (13 : Int32)) hin46 (g := (mkF m 88 #[.val (.int p0), .val (.int p1), .val (.int p2), .unset] [(.int (1114112 : Int32)), (.int (13 : Int32)), (.ref b4), (.ref b4)])) rfl rfl (hb hby own_d1_88)
    have V46 : Arv Z h46 b4 k4 .int (16 : Int32) [(.int (0 : Int32)), (.int (9 : Int32)), (.int (10 : Int32)), (.int (13 : Int32)), (.int (32 : Int32)), (.int (55295 : Int32)), (.int (55296 : Int32)), (.int (57343 : Int32)), (.int (57344 : Int32)), (.int (65533 : Int32)), (.int (65534 : Int32)), (.int (65536 : Int32)), (.int (1114111 : Int32)), (.int (1114112 : Int32)), (.int (0 : Int32)), (.int (0 : Int32))] (.int (0 : Int32)) := Arv.set Ar46 q46 S46 Ng46 H46 G46 rfl W46 13 rfl (Nat.le_of_ble_eq_true rfl)
    have Z47 : n0 ≤ h46.size := Nat.le_trans Z44 (Keep.of_wr W46).1
    have K48 := K45.wr W46 (Or.inr sz_b4)
    have N46 := Fr.snoc X46 N43 g_b4
    obtain ⟨cl49, Ar49, q49, S49, Ng49, H49, G49⟩ := id V46
    have hin49 : ¬ ((14 : Int32) < 0 ∨ cl49.slots.size ≤ ((14 : Int32)).toNatClampNeg) := inb_of S49 ⟨by decide, by decide⟩
    obtain ⟨T49, h49, X49, e49, W49, st49⟩ := stI X46 hx hZ e46 Ar49 (j := (14 : Int32)) hin49 (g := (mkF m 94 #[.val (.int p0), .val (.int p1), .val (.int p2), .unset] [(.int (-2147483648 : Int32)), (.int (14 : Int32)), (.ref b4), (.ref b4)])) rfl rfl (hb hby own_d1_94)
    have V49 : Arv Z h49 b4 k4 .int (16 : Int32) [(.int (0 : Int32)), (.int (9 : Int32)), (.int (10 : Int32)), (.int (13 : Int32)), (.int (32 : Int32)), (.int (55295 : Int32)), (.int (55296 : Int32)), (.int (57343 : Int32)), (.int (57344 : Int32)), (.int (65533 : Int32)), (.int (65534 : Int32)), (.int (65536 : Int32)), (.int (1114111 : Int32)), (.int (1114112 : Int32)), (.int (-2147483648 : Int32)), (.int (0 : Int32))] (.int (0 : Int32)) := Arv.set Ar49 q49 S49 Ng49 H49 G49 rfl W49 14 rfl (Nat.le_of_ble_eq_true rfl)
    have Z50 : n0 ≤ h49.size := Nat.le_trans Z47 (Keep.of_wr W49).1
    have K51 := K48.wr W49 (Or.inr sz_b4)
    have N49 := Fr.snoc X49 N46 g_b4
    obtain ⟨cl52, Ar52, q52, S52, Ng52, H52, G52⟩ := id V49
    have hin52 : ¬ ((15 : Int32) < 0 ∨ cl52.slots.size ≤ ((15 : Int32)).toNatClampNeg) := inb_of S52 ⟨by decide, by decide⟩
    obtain ⟨T52, h52, X52, e52, W52, st52⟩ := stI X49 hx hZ e49 Ar52 (j := (15 : Int32)) hin52 (g := (mkF m 100 #[.val (.int p0), .val (.int p1), .val (.int p2), .unset] [(.int (2147483647 : Int32)), (.int (15 : Int32)), (.ref b4), (.ref b4)])) rfl rfl (hb hby own_d1_100)
    have V52 : Arv Z h52 b4 k4 .int (16 : Int32) [(.int (0 : Int32)), (.int (9 : Int32)), (.int (10 : Int32)), (.int (13 : Int32)), (.int (32 : Int32)), (.int (55295 : Int32)), (.int (55296 : Int32)), (.int (57343 : Int32)), (.int (57344 : Int32)), (.int (65533 : Int32)), (.int (65534 : Int32)), (.int (65536 : Int32)), (.int (1114111 : Int32)), (.int (1114112 : Int32)), (.int (-2147483648 : Int32)), (.int (2147483647 : Int32))] (.int (0 : Int32)) := Arv.set Ar52 q52 S52 Ng52 H52 G52 rfl W52 15 rfl (Nat.le_of_ble_eq_true rfl)
    have Z53 : n0 ≤ h52.size := Nat.le_trans Z50 (Keep.of_wr W52).1
    have K54 := K51.wr W52 (Or.inr sz_b4)
    have N52 := Fr.snoc X52 N49 g_b4
    obtain ⟨zz, hzz⟩ := own_int [0, 9, 10, 13, 32, 55295, 55296, 57343, 57344, 65533, 65534, 65536, 1114111, 1114112, -2147483648, 2147483647] ((((p1.toUInt32 >>> ((1 : Int32) &&& 31).toUInt32).toInt32) &&& (15 : Int32))).toNatClampNeg
    obtain ⟨cl55, Ar55, q55, S55, Ng55, H55, G55⟩ := id V52
    have hin55 : ¬ ((((p1.toUInt32 >>> ((1 : Int32) &&& 31).toUInt32).toInt32) &&& (15 : Int32)) < 0 ∨ cl55.slots.size ≤ ((((p1.toUInt32 >>> ((1 : Int32) &&& 31).toUInt32).toInt32) &&& (15 : Int32))).toNatClampNeg) := inb_of S55 (own_idx _)
    have k56 : ∀ t, Steps p.tables e below (T52.setTop (mkF m 114 #[.val (.int p0), .val (.int p1), .val (.int p2), .val (.ref b4)] [(.int (zz + (p2 % (3 : Int32))))])) t → Steps p.tables e below (s₁.setTop (mkF m 0 #[.val (.int p0), .val (.int p1), .val (.int p2), .unset] [])) t := by
      intro t h
      refine k1 t ?_
      show Steps p.tables e below (s₁.setTop (mkF m 3 #[.val (.int p0), .val (.int p1), .val (.int p2), .unset] [(.int (p1 &&& (1 : Int32)))])) _
      refine XS.ifYes X0.here hx rfl (pc0 := 3) (pc' := 8) rfl (hb hby own_d1_3) rfl ((if0 _ _).trans (feq c3_2).2) (by decide) (by decide) ?_
      show Steps p.tables e below (s₁.setTop (mkF m 8 #[.val (.int p0), .val (.int p1), .val (.int p2), .unset] [])) _
      refine XS.bipush X0.here hx rfl (hb hby own_d1_8) ?_
      show Steps p.tables e below (s₁.setTop (mkF m 10 #[.val (.int p0), .val (.int p1), .val (.int p2), .unset] [(.int (16 : Int32))])) _
      refine st4 _ ?_
      show Steps p.tables e below (T4.setTop (mkF m 12 #[.val (.int p0), .val (.int p1), .val (.int p2), .unset] [(.ref b4)])) _
      refine XS.dup X4.here hx rfl (hb hby own_d1_12) rfl rfl ?_
      show Steps p.tables e below (T4.setTop (mkF m 13 #[.val (.int p0), .val (.int p1), .val (.int p2), .unset] [(.ref b4), (.ref b4)])) _
      refine XS.iconst X4.here hx rfl (hb hby own_d1_13) ?_
      show Steps p.tables e below (T4.setTop (mkF m 14 #[.val (.int p0), .val (.int p1), .val (.int p2), .unset] [(.int (0 : Int32)), (.ref b4), (.ref b4)])) _
      refine XS.iconst X4.here hx rfl (hb hby own_d1_14) ?_
      show Steps p.tables e below (T4.setTop (mkF m 15 #[.val (.int p0), .val (.int p1), .val (.int p2), .unset] [(.int (0 : Int32)), (.int (0 : Int32)), (.ref b4), (.ref b4)])) _
      refine st7 _ ?_
      show Steps p.tables e below (T7.setTop (mkF m 16 #[.val (.int p0), .val (.int p1), .val (.int p2), .unset] [(.ref b4)])) _
      refine XS.dup X7.here hx rfl (hb hby own_d1_16) rfl rfl ?_
      show Steps p.tables e below (T7.setTop (mkF m 17 #[.val (.int p0), .val (.int p1), .val (.int p2), .unset] [(.ref b4), (.ref b4)])) _
      refine XS.iconst X7.here hx rfl (hb hby own_d1_17) ?_
      show Steps p.tables e below (T7.setTop (mkF m 18 #[.val (.int p0), .val (.int p1), .val (.int p2), .unset] [(.int (1 : Int32)), (.ref b4), (.ref b4)])) _
      refine XS.bipush X7.here hx rfl (hb hby own_d1_18) ?_
      show Steps p.tables e below (T7.setTop (mkF m 20 #[.val (.int p0), .val (.int p1), .val (.int p2), .unset] [(.int (9 : Int32)), (.int (1 : Int32)), (.ref b4), (.ref b4)])) _
      refine st10 _ ?_
      show Steps p.tables e below (T10.setTop (mkF m 21 #[.val (.int p0), .val (.int p1), .val (.int p2), .unset] [(.ref b4)])) _
      refine XS.dup X10.here hx rfl (hb hby own_d1_21) rfl rfl ?_
      show Steps p.tables e below (T10.setTop (mkF m 22 #[.val (.int p0), .val (.int p1), .val (.int p2), .unset] [(.ref b4), (.ref b4)])) _
      refine XS.iconst X10.here hx rfl (hb hby own_d1_22) ?_
      show Steps p.tables e below (T10.setTop (mkF m 23 #[.val (.int p0), .val (.int p1), .val (.int p2), .unset] [(.int (2 : Int32)), (.ref b4), (.ref b4)])) _
      refine XS.bipush X10.here hx rfl (hb hby own_d1_23) ?_
      show Steps p.tables e below (T10.setTop (mkF m 25 #[.val (.int p0), .val (.int p1), .val (.int p2), .unset] [(.int (10 : Int32)), (.int (2 : Int32)), (.ref b4), (.ref b4)])) _
      refine st13 _ ?_
      show Steps p.tables e below (T13.setTop (mkF m 26 #[.val (.int p0), .val (.int p1), .val (.int p2), .unset] [(.ref b4)])) _
      refine XS.dup X13.here hx rfl (hb hby own_d1_26) rfl rfl ?_
      show Steps p.tables e below (T13.setTop (mkF m 27 #[.val (.int p0), .val (.int p1), .val (.int p2), .unset] [(.ref b4), (.ref b4)])) _
      refine XS.iconst X13.here hx rfl (hb hby own_d1_27) ?_
      show Steps p.tables e below (T13.setTop (mkF m 28 #[.val (.int p0), .val (.int p1), .val (.int p2), .unset] [(.int (3 : Int32)), (.ref b4), (.ref b4)])) _
      refine XS.bipush X13.here hx rfl (hb hby own_d1_28) ?_
      show Steps p.tables e below (T13.setTop (mkF m 30 #[.val (.int p0), .val (.int p1), .val (.int p2), .unset] [(.int (13 : Int32)), (.int (3 : Int32)), (.ref b4), (.ref b4)])) _
      refine st16 _ ?_
      show Steps p.tables e below (T16.setTop (mkF m 31 #[.val (.int p0), .val (.int p1), .val (.int p2), .unset] [(.ref b4)])) _
      refine XS.dup X16.here hx rfl (hb hby own_d1_31) rfl rfl ?_
      show Steps p.tables e below (T16.setTop (mkF m 32 #[.val (.int p0), .val (.int p1), .val (.int p2), .unset] [(.ref b4), (.ref b4)])) _
      refine XS.iconst X16.here hx rfl (hb hby own_d1_32) ?_
      show Steps p.tables e below (T16.setTop (mkF m 33 #[.val (.int p0), .val (.int p1), .val (.int p2), .unset] [(.int (4 : Int32)), (.ref b4), (.ref b4)])) _
      refine XS.bipush X16.here hx rfl (hb hby own_d1_33) ?_
      show Steps p.tables e below (T16.setTop (mkF m 35 #[.val (.int p0), .val (.int p1), .val (.int p2), .unset] [(.int (32 : Int32)), (.int (4 : Int32)), (.ref b4), (.ref b4)])) _
      refine st19 _ ?_
      show Steps p.tables e below (T19.setTop (mkF m 36 #[.val (.int p0), .val (.int p1), .val (.int p2), .unset] [(.ref b4)])) _
      refine XS.dup X19.here hx rfl (hb hby own_d1_36) rfl rfl ?_
      show Steps p.tables e below (T19.setTop (mkF m 37 #[.val (.int p0), .val (.int p1), .val (.int p2), .unset] [(.ref b4), (.ref b4)])) _
      refine XS.iconst X19.here hx rfl (hb hby own_d1_37) ?_
      show Steps p.tables e below (T19.setTop (mkF m 38 #[.val (.int p0), .val (.int p1), .val (.int p2), .unset] [(.int (5 : Int32)), (.ref b4), (.ref b4)])) _
      refine X19.ldcInt hx hown (mvT hZ (hw _ (List.mem_of_getElem? (i := 5) rfl))) (g := (mkF m 38 #[.val (.int p0), .val (.int p1), .val (.int p2), .unset] [(.int (5 : Int32)), (.ref b4), (.ref b4)])) rfl (hb hby own_d1_38) _ ?_
      show Steps p.tables e below (T19.setTop (mkF m 40 #[.val (.int p0), .val (.int p1), .val (.int p2), .unset] [(.int (55295 : Int32)), (.int (5 : Int32)), (.ref b4), (.ref b4)])) _
      refine st22 _ ?_
      show Steps p.tables e below (T22.setTop (mkF m 41 #[.val (.int p0), .val (.int p1), .val (.int p2), .unset] [(.ref b4)])) _
      refine XS.dup X22.here hx rfl (hb hby own_d1_41) rfl rfl ?_
      show Steps p.tables e below (T22.setTop (mkF m 42 #[.val (.int p0), .val (.int p1), .val (.int p2), .unset] [(.ref b4), (.ref b4)])) _
      refine XS.bipush X22.here hx rfl (hb hby own_d1_42) ?_
      show Steps p.tables e below (T22.setTop (mkF m 44 #[.val (.int p0), .val (.int p1), .val (.int p2), .unset] [(.int (6 : Int32)), (.ref b4), (.ref b4)])) _
      refine X22.ldcInt hx hown (mvT hZ (hw _ (List.mem_of_getElem? (i := 6) rfl))) (g := (mkF m 44 #[.val (.int p0), .val (.int p1), .val (.int p2), .unset] [(.int (6 : Int32)), (.ref b4), (.ref b4)])) rfl (hb hby own_d1_44) _ ?_
      show Steps p.tables e below (T22.setTop (mkF m 46 #[.val (.int p0), .val (.int p1), .val (.int p2), .unset] [(.int (55296 : Int32)), (.int (6 : Int32)), (.ref b4), (.ref b4)])) _
      refine st25 _ ?_
      show Steps p.tables e below (T25.setTop (mkF m 47 #[.val (.int p0), .val (.int p1), .val (.int p2), .unset] [(.ref b4)])) _
      refine XS.dup X25.here hx rfl (hb hby own_d1_47) rfl rfl ?_
      show Steps p.tables e below (T25.setTop (mkF m 48 #[.val (.int p0), .val (.int p1), .val (.int p2), .unset] [(.ref b4), (.ref b4)])) _
      refine XS.bipush X25.here hx rfl (hb hby own_d1_48) ?_
      show Steps p.tables e below (T25.setTop (mkF m 50 #[.val (.int p0), .val (.int p1), .val (.int p2), .unset] [(.int (7 : Int32)), (.ref b4), (.ref b4)])) _
      refine X25.ldcInt hx hown (mvT hZ (hw _ (List.mem_of_getElem? (i := 7) rfl))) (g := (mkF m 50 #[.val (.int p0), .val (.int p1), .val (.int p2), .unset] [(.int (7 : Int32)), (.ref b4), (.ref b4)])) rfl (hb hby own_d1_50) _ ?_
      show Steps p.tables e below (T25.setTop (mkF m 52 #[.val (.int p0), .val (.int p1), .val (.int p2), .unset] [(.int (57343 : Int32)), (.int (7 : Int32)), (.ref b4), (.ref b4)])) _
      refine st28 _ ?_
      show Steps p.tables e below (T28.setTop (mkF m 53 #[.val (.int p0), .val (.int p1), .val (.int p2), .unset] [(.ref b4)])) _
      refine XS.dup X28.here hx rfl (hb hby own_d1_53) rfl rfl ?_
      show Steps p.tables e below (T28.setTop (mkF m 54 #[.val (.int p0), .val (.int p1), .val (.int p2), .unset] [(.ref b4), (.ref b4)])) _
      refine XS.bipush X28.here hx rfl (hb hby own_d1_54) ?_
      show Steps p.tables e below (T28.setTop (mkF m 56 #[.val (.int p0), .val (.int p1), .val (.int p2), .unset] [(.int (8 : Int32)), (.ref b4), (.ref b4)])) _
      refine X28.ldcInt hx hown (mvT hZ (hw _ (List.mem_of_getElem? (i := 8) rfl))) (g := (mkF m 56 #[.val (.int p0), .val (.int p1), .val (.int p2), .unset] [(.int (8 : Int32)), (.ref b4), (.ref b4)])) rfl (hb hby own_d1_56) _ ?_
      show Steps p.tables e below (T28.setTop (mkF m 58 #[.val (.int p0), .val (.int p1), .val (.int p2), .unset] [(.int (57344 : Int32)), (.int (8 : Int32)), (.ref b4), (.ref b4)])) _
      refine st31 _ ?_
      show Steps p.tables e below (T31.setTop (mkF m 59 #[.val (.int p0), .val (.int p1), .val (.int p2), .unset] [(.ref b4)])) _
      refine XS.dup X31.here hx rfl (hb hby own_d1_59) rfl rfl ?_
      show Steps p.tables e below (T31.setTop (mkF m 60 #[.val (.int p0), .val (.int p1), .val (.int p2), .unset] [(.ref b4), (.ref b4)])) _
      refine XS.bipush X31.here hx rfl (hb hby own_d1_60) ?_
      show Steps p.tables e below (T31.setTop (mkF m 62 #[.val (.int p0), .val (.int p1), .val (.int p2), .unset] [(.int (9 : Int32)), (.ref b4), (.ref b4)])) _
      refine X31.ldcInt hx hown (mvT hZ (hw _ (List.mem_of_getElem? (i := 9) rfl))) (g := (mkF m 62 #[.val (.int p0), .val (.int p1), .val (.int p2), .unset] [(.int (9 : Int32)), (.ref b4), (.ref b4)])) rfl (hb hby own_d1_62) _ ?_
      show Steps p.tables e below (T31.setTop (mkF m 64 #[.val (.int p0), .val (.int p1), .val (.int p2), .unset] [(.int (65533 : Int32)), (.int (9 : Int32)), (.ref b4), (.ref b4)])) _
      refine st34 _ ?_
      show Steps p.tables e below (T34.setTop (mkF m 65 #[.val (.int p0), .val (.int p1), .val (.int p2), .unset] [(.ref b4)])) _
      refine XS.dup X34.here hx rfl (hb hby own_d1_65) rfl rfl ?_
      show Steps p.tables e below (T34.setTop (mkF m 66 #[.val (.int p0), .val (.int p1), .val (.int p2), .unset] [(.ref b4), (.ref b4)])) _
      refine XS.bipush X34.here hx rfl (hb hby own_d1_66) ?_
      show Steps p.tables e below (T34.setTop (mkF m 68 #[.val (.int p0), .val (.int p1), .val (.int p2), .unset] [(.int (10 : Int32)), (.ref b4), (.ref b4)])) _
      refine X34.ldcInt hx hown (mvT hZ (hw _ (List.mem_of_getElem? (i := 10) rfl))) (g := (mkF m 68 #[.val (.int p0), .val (.int p1), .val (.int p2), .unset] [(.int (10 : Int32)), (.ref b4), (.ref b4)])) rfl (hb hby own_d1_68) _ ?_
      show Steps p.tables e below (T34.setTop (mkF m 70 #[.val (.int p0), .val (.int p1), .val (.int p2), .unset] [(.int (65534 : Int32)), (.int (10 : Int32)), (.ref b4), (.ref b4)])) _
      refine st37 _ ?_
      show Steps p.tables e below (T37.setTop (mkF m 71 #[.val (.int p0), .val (.int p1), .val (.int p2), .unset] [(.ref b4)])) _
      refine XS.dup X37.here hx rfl (hb hby own_d1_71) rfl rfl ?_
      show Steps p.tables e below (T37.setTop (mkF m 72 #[.val (.int p0), .val (.int p1), .val (.int p2), .unset] [(.ref b4), (.ref b4)])) _
      refine XS.bipush X37.here hx rfl (hb hby own_d1_72) ?_
      show Steps p.tables e below (T37.setTop (mkF m 74 #[.val (.int p0), .val (.int p1), .val (.int p2), .unset] [(.int (11 : Int32)), (.ref b4), (.ref b4)])) _
      refine X37.ldcInt hx hown (mvT hZ (hw _ (List.mem_of_getElem? (i := 11) rfl))) (g := (mkF m 74 #[.val (.int p0), .val (.int p1), .val (.int p2), .unset] [(.int (11 : Int32)), (.ref b4), (.ref b4)])) rfl (hb hby own_d1_74) _ ?_
      show Steps p.tables e below (T37.setTop (mkF m 76 #[.val (.int p0), .val (.int p1), .val (.int p2), .unset] [(.int (65536 : Int32)), (.int (11 : Int32)), (.ref b4), (.ref b4)])) _
      refine st40 _ ?_
      show Steps p.tables e below (T40.setTop (mkF m 77 #[.val (.int p0), .val (.int p1), .val (.int p2), .unset] [(.ref b4)])) _
      refine XS.dup X40.here hx rfl (hb hby own_d1_77) rfl rfl ?_
      show Steps p.tables e below (T40.setTop (mkF m 78 #[.val (.int p0), .val (.int p1), .val (.int p2), .unset] [(.ref b4), (.ref b4)])) _
      refine XS.bipush X40.here hx rfl (hb hby own_d1_78) ?_
      show Steps p.tables e below (T40.setTop (mkF m 80 #[.val (.int p0), .val (.int p1), .val (.int p2), .unset] [(.int (12 : Int32)), (.ref b4), (.ref b4)])) _
      refine X40.ldcInt hx hown (mvT hZ (hw _ (List.mem_of_getElem? (i := 12) rfl))) (g := (mkF m 80 #[.val (.int p0), .val (.int p1), .val (.int p2), .unset] [(.int (12 : Int32)), (.ref b4), (.ref b4)])) rfl (hb hby own_d1_80) _ ?_
      show Steps p.tables e below (T40.setTop (mkF m 82 #[.val (.int p0), .val (.int p1), .val (.int p2), .unset] [(.int (1114111 : Int32)), (.int (12 : Int32)), (.ref b4), (.ref b4)])) _
      refine st43 _ ?_
      show Steps p.tables e below (T43.setTop (mkF m 83 #[.val (.int p0), .val (.int p1), .val (.int p2), .unset] [(.ref b4)])) _
      refine XS.dup X43.here hx rfl (hb hby own_d1_83) rfl rfl ?_
      show Steps p.tables e below (T43.setTop (mkF m 84 #[.val (.int p0), .val (.int p1), .val (.int p2), .unset] [(.ref b4), (.ref b4)])) _
      refine XS.bipush X43.here hx rfl (hb hby own_d1_84) ?_
      show Steps p.tables e below (T43.setTop (mkF m 86 #[.val (.int p0), .val (.int p1), .val (.int p2), .unset] [(.int (13 : Int32)), (.ref b4), (.ref b4)])) _
      refine X43.ldcInt hx hown (mvT hZ (hw _ (List.mem_of_getElem? (i := 13) rfl))) (g := (mkF m 86 #[.val (.int p0), .val (.int p1), .val (.int p2), .unset] [(.int (13 : Int32)), (.ref b4), (.ref b4)])) rfl (hb hby own_d1_86) _ ?_
      show Steps p.tables e below (T43.setTop (mkF m 88 #[.val (.int p0), .val (.int p1), .val (.int p2), .unset] [(.int (1114112 : Int32)), (.int (13 : Int32)), (.ref b4), (.ref b4)])) _
      refine st46 _ ?_
      show Steps p.tables e below (T46.setTop (mkF m 89 #[.val (.int p0), .val (.int p1), .val (.int p2), .unset] [(.ref b4)])) _
      refine XS.dup X46.here hx rfl (hb hby own_d1_89) rfl rfl ?_
      show Steps p.tables e below (T46.setTop (mkF m 90 #[.val (.int p0), .val (.int p1), .val (.int p2), .unset] [(.ref b4), (.ref b4)])) _
      refine XS.bipush X46.here hx rfl (hb hby own_d1_90) ?_
      show Steps p.tables e below (T46.setTop (mkF m 92 #[.val (.int p0), .val (.int p1), .val (.int p2), .unset] [(.int (14 : Int32)), (.ref b4), (.ref b4)])) _
      refine X46.ldcInt hx hown (mvT hZ (hw _ (List.mem_of_getElem? (i := 14) rfl))) (g := (mkF m 92 #[.val (.int p0), .val (.int p1), .val (.int p2), .unset] [(.int (14 : Int32)), (.ref b4), (.ref b4)])) rfl (hb hby own_d1_92) _ ?_
      show Steps p.tables e below (T46.setTop (mkF m 94 #[.val (.int p0), .val (.int p1), .val (.int p2), .unset] [(.int (-2147483648 : Int32)), (.int (14 : Int32)), (.ref b4), (.ref b4)])) _
      refine st49 _ ?_
      show Steps p.tables e below (T49.setTop (mkF m 95 #[.val (.int p0), .val (.int p1), .val (.int p2), .unset] [(.ref b4)])) _
      refine XS.dup X49.here hx rfl (hb hby own_d1_95) rfl rfl ?_
      show Steps p.tables e below (T49.setTop (mkF m 96 #[.val (.int p0), .val (.int p1), .val (.int p2), .unset] [(.ref b4), (.ref b4)])) _
      refine XS.bipush X49.here hx rfl (hb hby own_d1_96) ?_
      show Steps p.tables e below (T49.setTop (mkF m 98 #[.val (.int p0), .val (.int p1), .val (.int p2), .unset] [(.int (15 : Int32)), (.ref b4), (.ref b4)])) _
      refine X49.ldcInt hx hown (mvT hZ (hw _ (List.mem_of_getElem? (i := 15) rfl))) (g := (mkF m 98 #[.val (.int p0), .val (.int p1), .val (.int p2), .unset] [(.int (15 : Int32)), (.ref b4), (.ref b4)])) rfl (hb hby own_d1_98) _ ?_
      show Steps p.tables e below (T49.setTop (mkF m 100 #[.val (.int p0), .val (.int p1), .val (.int p2), .unset] [(.int (2147483647 : Int32)), (.int (15 : Int32)), (.ref b4), (.ref b4)])) _
      refine st52 _ ?_
      show Steps p.tables e below (T52.setTop (mkF m 101 #[.val (.int p0), .val (.int p1), .val (.int p2), .unset] [(.ref b4)])) _
      refine XS.astoreN X52.here hx rfl (hb hby own_d1_101) rfl rfl (l' := #[.val (.int p0), .val (.int p1), .val (.int p2), .val (.ref b4)]) rfl ?_
      show Steps p.tables e below (T52.setTop (mkF m 102 #[.val (.int p0), .val (.int p1), .val (.int p2), .val (.ref b4)] [])) _
      refine XS.aloadN X52.here hx rfl (hb hby own_d1_102) rfl rfl ?_
      show Steps p.tables e below (T52.setTop (mkF m 103 #[.val (.int p0), .val (.int p1), .val (.int p2), .val (.ref b4)] [(.ref b4)])) _
      refine XS.iloadN X52.here hx rfl (hb hby own_d1_103) rfl ?_
      show Steps p.tables e below (T52.setTop (mkF m 104 #[.val (.int p0), .val (.int p1), .val (.int p2), .val (.ref b4)] [(.int p1), (.ref b4)])) _
      refine XS.iconst X52.here hx rfl (hb hby own_d1_104) ?_
      show Steps p.tables e below (T52.setTop (mkF m 105 #[.val (.int p0), .val (.int p1), .val (.int p2), .val (.ref b4)] [(.int (1 : Int32)), (.int p1), (.ref b4)])) _
      refine XS.iushr X52.here hx rfl (hb hby own_d1_105) rfl ?_
      show Steps p.tables e below (T52.setTop (mkF m 106 #[.val (.int p0), .val (.int p1), .val (.int p2), .val (.ref b4)] [(.int ((p1.toUInt32 >>> ((1 : Int32) &&& 31).toUInt32).toInt32)), (.ref b4)])) _
      refine XS.bipush X52.here hx rfl (hb hby own_d1_106) ?_
      show Steps p.tables e below (T52.setTop (mkF m 108 #[.val (.int p0), .val (.int p1), .val (.int p2), .val (.ref b4)] [(.int (15 : Int32)), (.int ((p1.toUInt32 >>> ((1 : Int32) &&& 31).toUInt32).toInt32)), (.ref b4)])) _
      refine XS.iand X52.here hx rfl (hb hby own_d1_108) rfl ?_
      show Steps p.tables e below (T52.setTop (mkF m 109 #[.val (.int p0), .val (.int p1), .val (.int p2), .val (.ref b4)] [(.int (((p1.toUInt32 >>> ((1 : Int32) &&& 31).toUInt32).toInt32) &&& (15 : Int32))), (.ref b4)])) _
      refine X52.iaload hx (j := (((p1.toUInt32 >>> ((1 : Int32) &&& 31).toUInt32).toInt32) &&& (15 : Int32))) (v := (.int zz)) (by rw [e52]; exact Ar55.1) (State.isArrayOf_alike hZ.alike Ar55.2.1) Ar55.2.2 hin55 (H55.at hin55 hzz) (g := (mkF m 109 #[.val (.int p0), .val (.int p1), .val (.int p2), .val (.ref b4)] [(.int (((p1.toUInt32 >>> ((1 : Int32) &&& 31).toUInt32).toInt32) &&& (15 : Int32))), (.ref b4)])) rfl rfl (hb hby own_d1_109) _ ?_
      show Steps p.tables e below (T52.setTop (mkF m 110 #[.val (.int p0), .val (.int p1), .val (.int p2), .val (.ref b4)] [(.int zz)])) _
      refine XS.iloadN X52.here hx rfl (hb hby own_d1_110) rfl ?_
      show Steps p.tables e below (T52.setTop (mkF m 111 #[.val (.int p0), .val (.int p1), .val (.int p2), .val (.ref b4)] [(.int p2), (.int zz)])) _
      refine XS.iconst X52.here hx rfl (hb hby own_d1_111) ?_
      show Steps p.tables e below (T52.setTop (mkF m 112 #[.val (.int p0), .val (.int p1), .val (.int p2), .val (.ref b4)] [(.int (3 : Int32)), (.int p2), (.int zz)])) _
      refine iremM (g := (mkF m 112 #[.val (.int p0), .val (.int p1), .val (.int p2), .val (.ref b4)] [(.int (3 : Int32)), (.int p2), (.int zz)])) X52 hx rfl (hb hby own_d1_112) rfl (by decide) ?_
      show Steps p.tables e below (T52.setTop (mkF m 113 #[.val (.int p0), .val (.int p1), .val (.int p2), .val (.ref b4)] [(.int (p2 % (3 : Int32))), (.int zz)])) _
      refine XS.iadd X52.here hx rfl (hb hby own_d1_113) rfl ?_
      exact h
    obtain ⟨fs, hr, hrun, hended, hW, hsame⟩ := X52.leave (v := some (.int (zz + (p2 % (3 : Int32))))) (fun h => by rw [Bd.returns] at h; cases h)
    refine ⟨_, _, pre0 _ (k56 _ ?_), hrun, hended, _, _, rfl, ?_, ⟨_, rfl⟩, hW, hsame.mono (by decide) (by decide)⟩
    · exact retI X52 hx Bd.returns (hb hby own_d1_114) hr
    · show Q_rm1 Z _ _ _ h0 n0 _ T52.heap _
      rw [e52]
      exact ⟨_, rfl, N52, K54⟩
def Q_rm2 (Z : State) (p0 : Int32) (h0 : Heap) (n0 : Nat) (v : Option Value) (h : Heap) (L : List Loc) : Prop := v = some (.int (own_xml p0)) ∧ Fr n0 L ∧ h = h0
set_option maxRecDepth 65536 in
set_option maxHeartbeats 40000000 in
theorem rm2 (l : Launch) (Z : State) (a0 : Array Value) (hw : ∀ d ∈ tables_1, d.before a0 Z = true) (ws : List Jvm.Cond) (p0 : Int32) (h0 : Heap) (n0 : Nat) (Z0 : n0 ≤ h0.size) :
    MetFree l (⟨"com/example/redwing/redwing/core/XmlCheck", "isXmlCharacter", "(I)Z"⟩ : MethodName) (head1 (Jvm.Cond.code (⟨"com/example/redwing/redwing/core/XmlCheck", "isXmlCharacter", "(I)Z"⟩ : MethodName) prog_51_method_10_code 1 (some .boolean) :: ws) ({ frames := 0, cells := 0, slots := 0, locals := 0 } : Room)) (fun a U => a = #[(.int p0)] ∧ Z.Warmed39 U.vm ∧ U.heap = h0) (fun _ _ _ _ _ => True) (fun _ U o U' => ∃ v L, o = .returned v ∧ Q_rm2 Z p0 h0 n0 v U'.heap L ∧ FrameEnd U o U' L ({ frames := 0, cells := 0, slots := 0, locals := 0 } : Room).cells ({ frames := 0, cells := 0, slots := 0, locals := 0 } : Room).slots) := by
  refine MetFree.of_bodySF (plainFor_of_name own_pn_1) hisR ?_
  intro p e s m args below meth c s₁ Bd hml0 hP hK
  obtain ⟨rfl, hZ, hh⟩ := hP
  have hx := Bd.exec
  have hby := Bd.bytes
  have hml : c.maxLocals = 1 := hml0
  have hown : s.vm.findClass "com/example/redwing/redwing/core/XmlCheck" = some m.cls := findClass_of_methodNamed Bd.named
  have hnm := (name_of_methodNamed Bd.named Bd.method).1
  have X0 : Stand p l e ({ frames := 0, cells := 0, slots := 0, locals := 0 } : Room) s m #[(.int p0)] below meth c s₁ [] 0 0 := Stand.of_body Bd
  have e0 : s₁.heap = h0 := by rw [← hh, Bd.state]; rfl
  have N0 := Fr.nil n0
  have K0 : Keep h0 h0 [] := Keep.refl h0 _
  have pre0 : ∀ t, Steps p.tables e below (s₁.setTop (mkF m 0 #[.val (.int p0)] [])) t → Steps p.tables e below (s₁.setTop (entryFrame m #[(.int p0)] 1)) t := fun t k => castTop (own_ef_1 m p0) k
  have k57 : ∀ t, Steps p.tables e below (s₁.setTop (mkF m 3 #[.val (.int p0)] [(.int (9 : Int32)), (.int p0)])) t → Steps p.tables e below (s₁.setTop (mkF m 0 #[.val (.int p0)] [])) t := by
    intro t h
    show Steps p.tables e below (s₁.setTop (mkF m 0 #[.val (.int p0)] [])) _
    refine XS.iloadN X0.here hx rfl (hb hby own_d2_0) rfl ?_
    show Steps p.tables e below (s₁.setTop (mkF m 1 #[.val (.int p0)] [(.int p0)])) _
    refine XS.bipush X0.here hx rfl (hb hby own_d2_1) ?_
    exact h
  by_cases c3_58 : p0 = (9 : Int32)
  · skip
    have k59 : ∀ t, Steps p.tables e below (s₁.setTop (mkF m 64 #[.val (.int p0)] [(.int (1 : Int32))])) t → Steps p.tables e below (s₁.setTop (mkF m 0 #[.val (.int p0)] [])) t := by
      intro t h
      refine k57 t ?_
      show Steps p.tables e below (s₁.setTop (mkF m 3 #[.val (.int p0)] [(.int (9 : Int32)), (.int p0)])) _
      refine XS.icmpYes X0.here hx rfl (pc0 := 3) (pc' := 59) rfl (hb hby own_d2_3) rfl (teq c3_58).1 (by decide) (by decide) ?_
      show Steps p.tables e below (s₁.setTop (mkF m 59 #[.val (.int p0)] [])) _
      refine XS.iconst X0.here hx rfl (hb hby own_d2_59) ?_
      show Steps p.tables e below (s₁.setTop (mkF m 60 #[.val (.int p0)] [(.int (1 : Int32))])) _
      refine XS.goto X0.here hx rfl (pc0 := 60) (pc' := 64) rfl (hb hby own_d2_60) (by decide) (by decide) ?_
      exact h
    obtain ⟨fs, hr, hrun, hended, hW, hsame⟩ := X0.leave (v := some (.int (1 : Int32))) (fun h => by rw [Bd.returns] at h; cases h)
    refine ⟨_, _, pre0 _ (k59 _ ?_), hrun, hended, _, _, rfl, ?_, ⟨_, rfl⟩, hW, hsame.mono (by decide) (by decide)⟩
    · exact retN X0 hx (t := .boolean) Bd.returns (by simp) (hb hby own_d2_64) hr
    · show Q_rm2 Z _ h0 n0 _ s₁.heap _
      rw [e0]
      exact ⟨congrArg (fun z : Int32 => some (Value.int z)) (by
          simp only [Int32.lt_iff_toInt_lt, ← Int32.toInt_inj, own_l0, own_l1, own_l9, own_l10, own_l13, own_l15, own_l16, own_l32, own_l55295, own_l55296, own_l57343, own_l57344, own_l65533, own_l65534, own_l65535, own_l65536, own_l1114111] at c3_58
          rw [own_xml, if_pos (by omega)]), N0, rfl⟩
  · skip
    have k60 : ∀ t, Steps p.tables e below (s₁.setTop (mkF m 9 #[.val (.int p0)] [(.int (10 : Int32)), (.int p0)])) t → Steps p.tables e below (s₁.setTop (mkF m 0 #[.val (.int p0)] [])) t := by
      intro t h
      refine k57 t ?_
      show Steps p.tables e below (s₁.setTop (mkF m 3 #[.val (.int p0)] [(.int (9 : Int32)), (.int p0)])) _
      refine XS.icmpNo X0.here hx rfl (hb hby own_d2_3) rfl (feq c3_58).1 ?_
      show Steps p.tables e below (s₁.setTop (mkF m 6 #[.val (.int p0)] [])) _
      refine XS.iloadN X0.here hx rfl (hb hby own_d2_6) rfl ?_
      show Steps p.tables e below (s₁.setTop (mkF m 7 #[.val (.int p0)] [(.int p0)])) _
      refine XS.bipush X0.here hx rfl (hb hby own_d2_7) ?_
      exact h
    by_cases c9_61 : p0 = (10 : Int32)
    · skip
      have k62 : ∀ t, Steps p.tables e below (s₁.setTop (mkF m 64 #[.val (.int p0)] [(.int (1 : Int32))])) t → Steps p.tables e below (s₁.setTop (mkF m 0 #[.val (.int p0)] [])) t := by
        intro t h
        refine k60 t ?_
        show Steps p.tables e below (s₁.setTop (mkF m 9 #[.val (.int p0)] [(.int (10 : Int32)), (.int p0)])) _
        refine XS.icmpYes X0.here hx rfl (pc0 := 9) (pc' := 59) rfl (hb hby own_d2_9) rfl (teq c9_61).1 (by decide) (by decide) ?_
        show Steps p.tables e below (s₁.setTop (mkF m 59 #[.val (.int p0)] [])) _
        refine XS.iconst X0.here hx rfl (hb hby own_d2_59) ?_
        show Steps p.tables e below (s₁.setTop (mkF m 60 #[.val (.int p0)] [(.int (1 : Int32))])) _
        refine XS.goto X0.here hx rfl (pc0 := 60) (pc' := 64) rfl (hb hby own_d2_60) (by decide) (by decide) ?_
        exact h
      obtain ⟨fs, hr, hrun, hended, hW, hsame⟩ := X0.leave (v := some (.int (1 : Int32))) (fun h => by rw [Bd.returns] at h; cases h)
      refine ⟨_, _, pre0 _ (k62 _ ?_), hrun, hended, _, _, rfl, ?_, ⟨_, rfl⟩, hW, hsame.mono (by decide) (by decide)⟩
      · exact retN X0 hx (t := .boolean) Bd.returns (by simp) (hb hby own_d2_64) hr
      · show Q_rm2 Z _ h0 n0 _ s₁.heap _
        rw [e0]
        exact ⟨congrArg (fun z : Int32 => some (Value.int z)) (by
            simp only [Int32.lt_iff_toInt_lt, ← Int32.toInt_inj, own_l0, own_l1, own_l9, own_l10, own_l13, own_l15, own_l16, own_l32, own_l55295, own_l55296, own_l57343, own_l57344, own_l65533, own_l65534, own_l65535, own_l65536, own_l1114111] at c3_58 c9_61
            rw [own_xml, if_pos (by omega)]), N0, rfl⟩
    · skip
      have k63 : ∀ t, Steps p.tables e below (s₁.setTop (mkF m 15 #[.val (.int p0)] [(.int (13 : Int32)), (.int p0)])) t → Steps p.tables e below (s₁.setTop (mkF m 0 #[.val (.int p0)] [])) t := by
        intro t h
        refine k60 t ?_
        show Steps p.tables e below (s₁.setTop (mkF m 9 #[.val (.int p0)] [(.int (10 : Int32)), (.int p0)])) _
        refine XS.icmpNo X0.here hx rfl (hb hby own_d2_9) rfl (feq c9_61).1 ?_
        show Steps p.tables e below (s₁.setTop (mkF m 12 #[.val (.int p0)] [])) _
        refine XS.iloadN X0.here hx rfl (hb hby own_d2_12) rfl ?_
        show Steps p.tables e below (s₁.setTop (mkF m 13 #[.val (.int p0)] [(.int p0)])) _
        refine XS.bipush X0.here hx rfl (hb hby own_d2_13) ?_
        exact h
      by_cases c15_64 : p0 = (13 : Int32)
      · skip
        have k65 : ∀ t, Steps p.tables e below (s₁.setTop (mkF m 64 #[.val (.int p0)] [(.int (1 : Int32))])) t → Steps p.tables e below (s₁.setTop (mkF m 0 #[.val (.int p0)] [])) t := by
          intro t h
          refine k63 t ?_
          show Steps p.tables e below (s₁.setTop (mkF m 15 #[.val (.int p0)] [(.int (13 : Int32)), (.int p0)])) _
          refine XS.icmpYes X0.here hx rfl (pc0 := 15) (pc' := 59) rfl (hb hby own_d2_15) rfl (teq c15_64).1 (by decide) (by decide) ?_
          show Steps p.tables e below (s₁.setTop (mkF m 59 #[.val (.int p0)] [])) _
          refine XS.iconst X0.here hx rfl (hb hby own_d2_59) ?_
          show Steps p.tables e below (s₁.setTop (mkF m 60 #[.val (.int p0)] [(.int (1 : Int32))])) _
          refine XS.goto X0.here hx rfl (pc0 := 60) (pc' := 64) rfl (hb hby own_d2_60) (by decide) (by decide) ?_
          exact h
        obtain ⟨fs, hr, hrun, hended, hW, hsame⟩ := X0.leave (v := some (.int (1 : Int32))) (fun h => by rw [Bd.returns] at h; cases h)
        refine ⟨_, _, pre0 _ (k65 _ ?_), hrun, hended, _, _, rfl, ?_, ⟨_, rfl⟩, hW, hsame.mono (by decide) (by decide)⟩
        · exact retN X0 hx (t := .boolean) Bd.returns (by simp) (hb hby own_d2_64) hr
        · show Q_rm2 Z _ h0 n0 _ s₁.heap _
          rw [e0]
          exact ⟨congrArg (fun z : Int32 => some (Value.int z)) (by
              simp only [Int32.lt_iff_toInt_lt, ← Int32.toInt_inj, own_l0, own_l1, own_l9, own_l10, own_l13, own_l15, own_l16, own_l32, own_l55295, own_l55296, own_l57343, own_l57344, own_l65533, own_l65534, own_l65535, own_l65536, own_l1114111] at c3_58 c9_61 c15_64
              rw [own_xml, if_pos (by omega)]), N0, rfl⟩
      · skip
        have k66 : ∀ t, Steps p.tables e below (s₁.setTop (mkF m 21 #[.val (.int p0)] [(.int (32 : Int32)), (.int p0)])) t → Steps p.tables e below (s₁.setTop (mkF m 0 #[.val (.int p0)] [])) t := by
          intro t h
          refine k63 t ?_
          show Steps p.tables e below (s₁.setTop (mkF m 15 #[.val (.int p0)] [(.int (13 : Int32)), (.int p0)])) _
          refine XS.icmpNo X0.here hx rfl (hb hby own_d2_15) rfl (feq c15_64).1 ?_
          show Steps p.tables e below (s₁.setTop (mkF m 18 #[.val (.int p0)] [])) _
          refine XS.iloadN X0.here hx rfl (hb hby own_d2_18) rfl ?_
          show Steps p.tables e below (s₁.setTop (mkF m 19 #[.val (.int p0)] [(.int p0)])) _
          refine XS.bipush X0.here hx rfl (hb hby own_d2_19) ?_
          exact h
        by_cases c21_67 : p0 < (32 : Int32)
        · skip
          have k68 : ∀ t, Steps p.tables e below (s₁.setTop (mkF m 35 #[.val (.int p0)] [(.int (57344 : Int32)), (.int p0)])) t → Steps p.tables e below (s₁.setTop (mkF m 0 #[.val (.int p0)] [])) t := by
            intro t h
            refine k66 t ?_
            show Steps p.tables e below (s₁.setTop (mkF m 21 #[.val (.int p0)] [(.int (32 : Int32)), (.int p0)])) _
            refine XS.icmpYes X0.here hx rfl (pc0 := 21) (pc' := 31) rfl (hb hby own_d2_21) rfl (tlt c21_67).1 (by decide) (by decide) ?_
            show Steps p.tables e below (s₁.setTop (mkF m 31 #[.val (.int p0)] [])) _
            refine XS.iloadN X0.here hx rfl (hb hby own_d2_31) rfl ?_
            show Steps p.tables e below (s₁.setTop (mkF m 32 #[.val (.int p0)] [(.int p0)])) _
            refine X0.ldcwInt hx hown (mvT hZ (hw _ (List.mem_of_getElem? (i := 20) rfl))) (g := (mkF m 32 #[.val (.int p0)] [(.int p0)])) rfl (hb hby own_d2_32) _ ?_
            exact h
          by_cases c35_69 : p0 < (57344 : Int32)
          · skip
            have k70 : ∀ t, Steps p.tables e below (s₁.setTop (mkF m 49 #[.val (.int p0)] [(.int (65536 : Int32)), (.int p0)])) t → Steps p.tables e below (s₁.setTop (mkF m 0 #[.val (.int p0)] [])) t := by
              intro t h
              refine k68 t ?_
              show Steps p.tables e below (s₁.setTop (mkF m 35 #[.val (.int p0)] [(.int (57344 : Int32)), (.int p0)])) _
              refine XS.icmpYes X0.here hx rfl (pc0 := 35) (pc' := 45) rfl (hb hby own_d2_35) rfl (tlt c35_69).1 (by decide) (by decide) ?_
              show Steps p.tables e below (s₁.setTop (mkF m 45 #[.val (.int p0)] [])) _
              refine XS.iloadN X0.here hx rfl (hb hby own_d2_45) rfl ?_
              show Steps p.tables e below (s₁.setTop (mkF m 46 #[.val (.int p0)] [(.int p0)])) _
              refine X0.ldcwInt hx hown (mvT hZ (hw _ (List.mem_of_getElem? (i := 21) rfl))) (g := (mkF m 46 #[.val (.int p0)] [(.int p0)])) rfl (hb hby own_d2_46) _ ?_
              exact h
            by_cases c49_71 : p0 < (65536 : Int32)
            · skip
              have k72 : ∀ t, Steps p.tables e below (s₁.setTop (mkF m 64 #[.val (.int p0)] [(.int (0 : Int32))])) t → Steps p.tables e below (s₁.setTop (mkF m 0 #[.val (.int p0)] [])) t := by
                intro t h
                refine k70 t ?_
                show Steps p.tables e below (s₁.setTop (mkF m 49 #[.val (.int p0)] [(.int (65536 : Int32)), (.int p0)])) _
                refine XS.icmpYes X0.here hx rfl (pc0 := 49) (pc' := 63) rfl (hb hby own_d2_49) rfl (tlt c49_71).1 (by decide) (by decide) ?_
                show Steps p.tables e below (s₁.setTop (mkF m 63 #[.val (.int p0)] [])) _
                refine XS.iconst X0.here hx rfl (hb hby own_d2_63) ?_
                exact h
              obtain ⟨fs, hr, hrun, hended, hW, hsame⟩ := X0.leave (v := some (.int (0 : Int32))) (fun h => by rw [Bd.returns] at h; cases h)
              refine ⟨_, _, pre0 _ (k72 _ ?_), hrun, hended, _, _, rfl, ?_, ⟨_, rfl⟩, hW, hsame.mono (by decide) (by decide)⟩
              · exact retN X0 hx (t := .boolean) Bd.returns (by simp) (hb hby own_d2_64) hr
              · show Q_rm2 Z _ h0 n0 _ s₁.heap _
                rw [e0]
                exact ⟨congrArg (fun z : Int32 => some (Value.int z)) (by
                    simp only [Int32.lt_iff_toInt_lt, ← Int32.toInt_inj, own_l0, own_l1, own_l9, own_l10, own_l13, own_l15, own_l16, own_l32, own_l55295, own_l55296, own_l57343, own_l57344, own_l65533, own_l65534, own_l65535, own_l65536, own_l1114111] at c3_58 c9_61 c15_64 c21_67 c35_69 c49_71
                    rw [own_xml, if_neg (by omega)]), N0, rfl⟩
            · skip
              have k73 : ∀ t, Steps p.tables e below (s₁.setTop (mkF m 56 #[.val (.int p0)] [(.int (1114111 : Int32)), (.int p0)])) t → Steps p.tables e below (s₁.setTop (mkF m 0 #[.val (.int p0)] [])) t := by
                intro t h
                refine k70 t ?_
                show Steps p.tables e below (s₁.setTop (mkF m 49 #[.val (.int p0)] [(.int (65536 : Int32)), (.int p0)])) _
                refine XS.icmpNo X0.here hx rfl (hb hby own_d2_49) rfl (flt c49_71).1 ?_
                show Steps p.tables e below (s₁.setTop (mkF m 52 #[.val (.int p0)] [])) _
                refine XS.iloadN X0.here hx rfl (hb hby own_d2_52) rfl ?_
                show Steps p.tables e below (s₁.setTop (mkF m 53 #[.val (.int p0)] [(.int p0)])) _
                refine X0.ldcwInt hx hown (mvT hZ (hw _ (List.mem_of_getElem? (i := 28) rfl))) (g := (mkF m 53 #[.val (.int p0)] [(.int p0)])) rfl (hb hby own_d2_53) _ ?_
                exact h
              by_cases c56_74 : (1114111 : Int32) < p0
              · skip
                have k75 : ∀ t, Steps p.tables e below (s₁.setTop (mkF m 64 #[.val (.int p0)] [(.int (0 : Int32))])) t → Steps p.tables e below (s₁.setTop (mkF m 0 #[.val (.int p0)] [])) t := by
                  intro t h
                  refine k73 t ?_
                  show Steps p.tables e below (s₁.setTop (mkF m 56 #[.val (.int p0)] [(.int (1114111 : Int32)), (.int p0)])) _
                  refine XS.icmpYes X0.here hx rfl (pc0 := 56) (pc' := 63) rfl (hb hby own_d2_56) rfl (tlt c56_74).2.2.1 (by decide) (by decide) ?_
                  show Steps p.tables e below (s₁.setTop (mkF m 63 #[.val (.int p0)] [])) _
                  refine XS.iconst X0.here hx rfl (hb hby own_d2_63) ?_
                  exact h
                obtain ⟨fs, hr, hrun, hended, hW, hsame⟩ := X0.leave (v := some (.int (0 : Int32))) (fun h => by rw [Bd.returns] at h; cases h)
                refine ⟨_, _, pre0 _ (k75 _ ?_), hrun, hended, _, _, rfl, ?_, ⟨_, rfl⟩, hW, hsame.mono (by decide) (by decide)⟩
                · exact retN X0 hx (t := .boolean) Bd.returns (by simp) (hb hby own_d2_64) hr
                · show Q_rm2 Z _ h0 n0 _ s₁.heap _
                  rw [e0]
                  exact ⟨congrArg (fun z : Int32 => some (Value.int z)) (by
                      simp only [Int32.lt_iff_toInt_lt, ← Int32.toInt_inj, own_l0, own_l1, own_l9, own_l10, own_l13, own_l15, own_l16, own_l32, own_l55295, own_l55296, own_l57343, own_l57344, own_l65533, own_l65534, own_l65535, own_l65536, own_l1114111] at c3_58 c9_61 c15_64 c21_67 c35_69 c49_71 c56_74
                      rw [own_xml, if_neg (by omega)]), N0, rfl⟩
              · skip
                have k76 : ∀ t, Steps p.tables e below (s₁.setTop (mkF m 64 #[.val (.int p0)] [(.int (1 : Int32))])) t → Steps p.tables e below (s₁.setTop (mkF m 0 #[.val (.int p0)] [])) t := by
                  intro t h
                  refine k73 t ?_
                  show Steps p.tables e below (s₁.setTop (mkF m 56 #[.val (.int p0)] [(.int (1114111 : Int32)), (.int p0)])) _
                  refine XS.icmpNo X0.here hx rfl (hb hby own_d2_56) rfl (flt c56_74).2.2.1 ?_
                  show Steps p.tables e below (s₁.setTop (mkF m 59 #[.val (.int p0)] [])) _
                  refine XS.iconst X0.here hx rfl (hb hby own_d2_59) ?_
                  show Steps p.tables e below (s₁.setTop (mkF m 60 #[.val (.int p0)] [(.int (1 : Int32))])) _
                  refine XS.goto X0.here hx rfl (pc0 := 60) (pc' := 64) rfl (hb hby own_d2_60) (by decide) (by decide) ?_
                  exact h
                obtain ⟨fs, hr, hrun, hended, hW, hsame⟩ := X0.leave (v := some (.int (1 : Int32))) (fun h => by rw [Bd.returns] at h; cases h)
                refine ⟨_, _, pre0 _ (k76 _ ?_), hrun, hended, _, _, rfl, ?_, ⟨_, rfl⟩, hW, hsame.mono (by decide) (by decide)⟩
                · exact retN X0 hx (t := .boolean) Bd.returns (by simp) (hb hby own_d2_64) hr
                · show Q_rm2 Z _ h0 n0 _ s₁.heap _
                  rw [e0]
                  exact ⟨congrArg (fun z : Int32 => some (Value.int z)) (by
                      simp only [Int32.lt_iff_toInt_lt, ← Int32.toInt_inj, own_l0, own_l1, own_l9, own_l10, own_l13, own_l15, own_l16, own_l32, own_l55295, own_l55296, own_l57343, own_l57344, own_l65533, own_l65534, own_l65535, own_l65536, own_l1114111] at c3_58 c9_61 c15_64 c21_67 c35_69 c49_71 c56_74
                      rw [own_xml, if_pos (by omega)]), N0, rfl⟩
          · skip
            have k77 : ∀ t, Steps p.tables e below (s₁.setTop (mkF m 42 #[.val (.int p0)] [(.int (65533 : Int32)), (.int p0)])) t → Steps p.tables e below (s₁.setTop (mkF m 0 #[.val (.int p0)] [])) t := by
              intro t h
              refine k68 t ?_
              show Steps p.tables e below (s₁.setTop (mkF m 35 #[.val (.int p0)] [(.int (57344 : Int32)), (.int p0)])) _
              refine XS.icmpNo X0.here hx rfl (hb hby own_d2_35) rfl (flt c35_69).1 ?_
              show Steps p.tables e below (s₁.setTop (mkF m 38 #[.val (.int p0)] [])) _
              refine XS.iloadN X0.here hx rfl (hb hby own_d2_38) rfl ?_
              show Steps p.tables e below (s₁.setTop (mkF m 39 #[.val (.int p0)] [(.int p0)])) _
              refine X0.ldcwInt hx hown (mvT hZ (hw _ (List.mem_of_getElem? (i := 27) rfl))) (g := (mkF m 39 #[.val (.int p0)] [(.int p0)])) rfl (hb hby own_d2_39) _ ?_
              exact h
            by_cases c42_78 : (65533 : Int32) < p0
            · skip
              have k79 : ∀ t, Steps p.tables e below (s₁.setTop (mkF m 49 #[.val (.int p0)] [(.int (65536 : Int32)), (.int p0)])) t → Steps p.tables e below (s₁.setTop (mkF m 0 #[.val (.int p0)] [])) t := by
                intro t h
                refine k77 t ?_
                show Steps p.tables e below (s₁.setTop (mkF m 42 #[.val (.int p0)] [(.int (65533 : Int32)), (.int p0)])) _
                refine XS.icmpNo X0.here hx rfl (hb hby own_d2_42) rfl (tlt c42_78).2.2.2 ?_
                show Steps p.tables e below (s₁.setTop (mkF m 45 #[.val (.int p0)] [])) _
                refine XS.iloadN X0.here hx rfl (hb hby own_d2_45) rfl ?_
                show Steps p.tables e below (s₁.setTop (mkF m 46 #[.val (.int p0)] [(.int p0)])) _
                refine X0.ldcwInt hx hown (mvT hZ (hw _ (List.mem_of_getElem? (i := 21) rfl))) (g := (mkF m 46 #[.val (.int p0)] [(.int p0)])) rfl (hb hby own_d2_46) _ ?_
                exact h
              by_cases c49_80 : p0 < (65536 : Int32)
              · skip
                have k81 : ∀ t, Steps p.tables e below (s₁.setTop (mkF m 64 #[.val (.int p0)] [(.int (0 : Int32))])) t → Steps p.tables e below (s₁.setTop (mkF m 0 #[.val (.int p0)] [])) t := by
                  intro t h
                  refine k79 t ?_
                  show Steps p.tables e below (s₁.setTop (mkF m 49 #[.val (.int p0)] [(.int (65536 : Int32)), (.int p0)])) _
                  refine XS.icmpYes X0.here hx rfl (pc0 := 49) (pc' := 63) rfl (hb hby own_d2_49) rfl (tlt c49_80).1 (by decide) (by decide) ?_
                  show Steps p.tables e below (s₁.setTop (mkF m 63 #[.val (.int p0)] [])) _
                  refine XS.iconst X0.here hx rfl (hb hby own_d2_63) ?_
                  exact h
                obtain ⟨fs, hr, hrun, hended, hW, hsame⟩ := X0.leave (v := some (.int (0 : Int32))) (fun h => by rw [Bd.returns] at h; cases h)
                refine ⟨_, _, pre0 _ (k81 _ ?_), hrun, hended, _, _, rfl, ?_, ⟨_, rfl⟩, hW, hsame.mono (by decide) (by decide)⟩
                · exact retN X0 hx (t := .boolean) Bd.returns (by simp) (hb hby own_d2_64) hr
                · show Q_rm2 Z _ h0 n0 _ s₁.heap _
                  rw [e0]
                  exact ⟨congrArg (fun z : Int32 => some (Value.int z)) (by
                      simp only [Int32.lt_iff_toInt_lt, ← Int32.toInt_inj, own_l0, own_l1, own_l9, own_l10, own_l13, own_l15, own_l16, own_l32, own_l55295, own_l55296, own_l57343, own_l57344, own_l65533, own_l65534, own_l65535, own_l65536, own_l1114111] at c3_58 c9_61 c15_64 c21_67 c35_69 c42_78 c49_80
                      rw [own_xml, if_neg (by omega)]), N0, rfl⟩
              · skip
                have k82 : ∀ t, Steps p.tables e below (s₁.setTop (mkF m 56 #[.val (.int p0)] [(.int (1114111 : Int32)), (.int p0)])) t → Steps p.tables e below (s₁.setTop (mkF m 0 #[.val (.int p0)] [])) t := by
                  intro t h
                  refine k79 t ?_
                  show Steps p.tables e below (s₁.setTop (mkF m 49 #[.val (.int p0)] [(.int (65536 : Int32)), (.int p0)])) _
                  refine XS.icmpNo X0.here hx rfl (hb hby own_d2_49) rfl (flt c49_80).1 ?_
                  show Steps p.tables e below (s₁.setTop (mkF m 52 #[.val (.int p0)] [])) _
                  refine XS.iloadN X0.here hx rfl (hb hby own_d2_52) rfl ?_
                  show Steps p.tables e below (s₁.setTop (mkF m 53 #[.val (.int p0)] [(.int p0)])) _
                  refine X0.ldcwInt hx hown (mvT hZ (hw _ (List.mem_of_getElem? (i := 28) rfl))) (g := (mkF m 53 #[.val (.int p0)] [(.int p0)])) rfl (hb hby own_d2_53) _ ?_
                  exact h
                by_cases c56_83 : (1114111 : Int32) < p0
                · skip
                  have k84 : ∀ t, Steps p.tables e below (s₁.setTop (mkF m 64 #[.val (.int p0)] [(.int (0 : Int32))])) t → Steps p.tables e below (s₁.setTop (mkF m 0 #[.val (.int p0)] [])) t := by
                    intro t h
                    refine k82 t ?_
                    show Steps p.tables e below (s₁.setTop (mkF m 56 #[.val (.int p0)] [(.int (1114111 : Int32)), (.int p0)])) _
                    refine XS.icmpYes X0.here hx rfl (pc0 := 56) (pc' := 63) rfl (hb hby own_d2_56) rfl (tlt c56_83).2.2.1 (by decide) (by decide) ?_
                    show Steps p.tables e below (s₁.setTop (mkF m 63 #[.val (.int p0)] [])) _
                    refine XS.iconst X0.here hx rfl (hb hby own_d2_63) ?_
                    exact h
                  obtain ⟨fs, hr, hrun, hended, hW, hsame⟩ := X0.leave (v := some (.int (0 : Int32))) (fun h => by rw [Bd.returns] at h; cases h)
                  refine ⟨_, _, pre0 _ (k84 _ ?_), hrun, hended, _, _, rfl, ?_, ⟨_, rfl⟩, hW, hsame.mono (by decide) (by decide)⟩
                  · exact retN X0 hx (t := .boolean) Bd.returns (by simp) (hb hby own_d2_64) hr
                  · show Q_rm2 Z _ h0 n0 _ s₁.heap _
                    rw [e0]
                    exact ⟨congrArg (fun z : Int32 => some (Value.int z)) (by
                        simp only [Int32.lt_iff_toInt_lt, ← Int32.toInt_inj, own_l0, own_l1, own_l9, own_l10, own_l13, own_l15, own_l16, own_l32, own_l55295, own_l55296, own_l57343, own_l57344, own_l65533, own_l65534, own_l65535, own_l65536, own_l1114111] at c3_58 c9_61 c15_64 c21_67 c35_69 c42_78 c49_80 c56_83
                        rw [own_xml, if_neg (by omega)]), N0, rfl⟩
                · skip
                  have k85 : ∀ t, Steps p.tables e below (s₁.setTop (mkF m 64 #[.val (.int p0)] [(.int (1 : Int32))])) t → Steps p.tables e below (s₁.setTop (mkF m 0 #[.val (.int p0)] [])) t := by
                    intro t h
                    refine k82 t ?_
                    show Steps p.tables e below (s₁.setTop (mkF m 56 #[.val (.int p0)] [(.int (1114111 : Int32)), (.int p0)])) _
                    refine XS.icmpNo X0.here hx rfl (hb hby own_d2_56) rfl (flt c56_83).2.2.1 ?_
                    show Steps p.tables e below (s₁.setTop (mkF m 59 #[.val (.int p0)] [])) _
                    refine XS.iconst X0.here hx rfl (hb hby own_d2_59) ?_
                    show Steps p.tables e below (s₁.setTop (mkF m 60 #[.val (.int p0)] [(.int (1 : Int32))])) _
                    refine XS.goto X0.here hx rfl (pc0 := 60) (pc' := 64) rfl (hb hby own_d2_60) (by decide) (by decide) ?_
                    exact h
                  obtain ⟨fs, hr, hrun, hended, hW, hsame⟩ := X0.leave (v := some (.int (1 : Int32))) (fun h => by rw [Bd.returns] at h; cases h)
                  refine ⟨_, _, pre0 _ (k85 _ ?_), hrun, hended, _, _, rfl, ?_, ⟨_, rfl⟩, hW, hsame.mono (by decide) (by decide)⟩
                  · exact retN X0 hx (t := .boolean) Bd.returns (by simp) (hb hby own_d2_64) hr
                  · show Q_rm2 Z _ h0 n0 _ s₁.heap _
                    rw [e0]
                    exact ⟨congrArg (fun z : Int32 => some (Value.int z)) (by
                        simp only [Int32.lt_iff_toInt_lt, ← Int32.toInt_inj, own_l0, own_l1, own_l9, own_l10, own_l13, own_l15, own_l16, own_l32, own_l55295, own_l55296, own_l57343, own_l57344, own_l65533, own_l65534, own_l65535, own_l65536, own_l1114111] at c3_58 c9_61 c15_64 c21_67 c35_69 c42_78 c49_80 c56_83
                        rw [own_xml, if_pos (by omega)]), N0, rfl⟩
            · skip
              have k86 : ∀ t, Steps p.tables e below (s₁.setTop (mkF m 64 #[.val (.int p0)] [(.int (1 : Int32))])) t → Steps p.tables e below (s₁.setTop (mkF m 0 #[.val (.int p0)] [])) t := by
                intro t h
                refine k77 t ?_
                show Steps p.tables e below (s₁.setTop (mkF m 42 #[.val (.int p0)] [(.int (65533 : Int32)), (.int p0)])) _
                refine XS.icmpYes X0.here hx rfl (pc0 := 42) (pc' := 59) rfl (hb hby own_d2_42) rfl (flt c42_78).2.2.2 (by decide) (by decide) ?_
                show Steps p.tables e below (s₁.setTop (mkF m 59 #[.val (.int p0)] [])) _
                refine XS.iconst X0.here hx rfl (hb hby own_d2_59) ?_
                show Steps p.tables e below (s₁.setTop (mkF m 60 #[.val (.int p0)] [(.int (1 : Int32))])) _
                refine XS.goto X0.here hx rfl (pc0 := 60) (pc' := 64) rfl (hb hby own_d2_60) (by decide) (by decide) ?_
                exact h
              obtain ⟨fs, hr, hrun, hended, hW, hsame⟩ := X0.leave (v := some (.int (1 : Int32))) (fun h => by rw [Bd.returns] at h; cases h)
              refine ⟨_, _, pre0 _ (k86 _ ?_), hrun, hended, _, _, rfl, ?_, ⟨_, rfl⟩, hW, hsame.mono (by decide) (by decide)⟩
              · exact retN X0 hx (t := .boolean) Bd.returns (by simp) (hb hby own_d2_64) hr
              · show Q_rm2 Z _ h0 n0 _ s₁.heap _
                rw [e0]
                exact ⟨congrArg (fun z : Int32 => some (Value.int z)) (by
                    simp only [Int32.lt_iff_toInt_lt, ← Int32.toInt_inj, own_l0, own_l1, own_l9, own_l10, own_l13, own_l15, own_l16, own_l32, own_l55295, own_l55296, own_l57343, own_l57344, own_l65533, own_l65534, own_l65535, own_l65536, own_l1114111] at c3_58 c9_61 c15_64 c21_67 c35_69 c42_78
                    rw [own_xml, if_pos (by omega)]), N0, rfl⟩
        · skip
          have k87 : ∀ t, Steps p.tables e below (s₁.setTop (mkF m 28 #[.val (.int p0)] [(.int (55295 : Int32)), (.int p0)])) t → Steps p.tables e below (s₁.setTop (mkF m 0 #[.val (.int p0)] [])) t := by
            intro t h
            refine k66 t ?_
            show Steps p.tables e below (s₁.setTop (mkF m 21 #[.val (.int p0)] [(.int (32 : Int32)), (.int p0)])) _
            refine XS.icmpNo X0.here hx rfl (hb hby own_d2_21) rfl (flt c21_67).1 ?_
            show Steps p.tables e below (s₁.setTop (mkF m 24 #[.val (.int p0)] [])) _
            refine XS.iloadN X0.here hx rfl (hb hby own_d2_24) rfl ?_
            show Steps p.tables e below (s₁.setTop (mkF m 25 #[.val (.int p0)] [(.int p0)])) _
            refine X0.ldcwInt hx hown (mvT hZ (hw _ (List.mem_of_getElem? (i := 26) rfl))) (g := (mkF m 25 #[.val (.int p0)] [(.int p0)])) rfl (hb hby own_d2_25) _ ?_
            exact h
          by_cases c28_88 : (55295 : Int32) < p0
          · skip
            have k89 : ∀ t, Steps p.tables e below (s₁.setTop (mkF m 35 #[.val (.int p0)] [(.int (57344 : Int32)), (.int p0)])) t → Steps p.tables e below (s₁.setTop (mkF m 0 #[.val (.int p0)] [])) t := by
              intro t h
              refine k87 t ?_
              show Steps p.tables e below (s₁.setTop (mkF m 28 #[.val (.int p0)] [(.int (55295 : Int32)), (.int p0)])) _
              refine XS.icmpNo X0.here hx rfl (hb hby own_d2_28) rfl (tlt c28_88).2.2.2 ?_
              show Steps p.tables e below (s₁.setTop (mkF m 31 #[.val (.int p0)] [])) _
              refine XS.iloadN X0.here hx rfl (hb hby own_d2_31) rfl ?_
              show Steps p.tables e below (s₁.setTop (mkF m 32 #[.val (.int p0)] [(.int p0)])) _
              refine X0.ldcwInt hx hown (mvT hZ (hw _ (List.mem_of_getElem? (i := 20) rfl))) (g := (mkF m 32 #[.val (.int p0)] [(.int p0)])) rfl (hb hby own_d2_32) _ ?_
              exact h
            by_cases c35_90 : p0 < (57344 : Int32)
            · skip
              have k91 : ∀ t, Steps p.tables e below (s₁.setTop (mkF m 49 #[.val (.int p0)] [(.int (65536 : Int32)), (.int p0)])) t → Steps p.tables e below (s₁.setTop (mkF m 0 #[.val (.int p0)] [])) t := by
                intro t h
                refine k89 t ?_
                show Steps p.tables e below (s₁.setTop (mkF m 35 #[.val (.int p0)] [(.int (57344 : Int32)), (.int p0)])) _
                refine XS.icmpYes X0.here hx rfl (pc0 := 35) (pc' := 45) rfl (hb hby own_d2_35) rfl (tlt c35_90).1 (by decide) (by decide) ?_
                show Steps p.tables e below (s₁.setTop (mkF m 45 #[.val (.int p0)] [])) _
                refine XS.iloadN X0.here hx rfl (hb hby own_d2_45) rfl ?_
                show Steps p.tables e below (s₁.setTop (mkF m 46 #[.val (.int p0)] [(.int p0)])) _
                refine X0.ldcwInt hx hown (mvT hZ (hw _ (List.mem_of_getElem? (i := 21) rfl))) (g := (mkF m 46 #[.val (.int p0)] [(.int p0)])) rfl (hb hby own_d2_46) _ ?_
                exact h
              by_cases c49_92 : p0 < (65536 : Int32)
              · skip
                have k93 : ∀ t, Steps p.tables e below (s₁.setTop (mkF m 64 #[.val (.int p0)] [(.int (0 : Int32))])) t → Steps p.tables e below (s₁.setTop (mkF m 0 #[.val (.int p0)] [])) t := by
                  intro t h
                  refine k91 t ?_
                  show Steps p.tables e below (s₁.setTop (mkF m 49 #[.val (.int p0)] [(.int (65536 : Int32)), (.int p0)])) _
                  refine XS.icmpYes X0.here hx rfl (pc0 := 49) (pc' := 63) rfl (hb hby own_d2_49) rfl (tlt c49_92).1 (by decide) (by decide) ?_
                  show Steps p.tables e below (s₁.setTop (mkF m 63 #[.val (.int p0)] [])) _
                  refine XS.iconst X0.here hx rfl (hb hby own_d2_63) ?_
                  exact h
                obtain ⟨fs, hr, hrun, hended, hW, hsame⟩ := X0.leave (v := some (.int (0 : Int32))) (fun h => by rw [Bd.returns] at h; cases h)
                refine ⟨_, _, pre0 _ (k93 _ ?_), hrun, hended, _, _, rfl, ?_, ⟨_, rfl⟩, hW, hsame.mono (by decide) (by decide)⟩
                · exact retN X0 hx (t := .boolean) Bd.returns (by simp) (hb hby own_d2_64) hr
                · show Q_rm2 Z _ h0 n0 _ s₁.heap _
                  rw [e0]
                  exact ⟨congrArg (fun z : Int32 => some (Value.int z)) (by
                      simp only [Int32.lt_iff_toInt_lt, ← Int32.toInt_inj, own_l0, own_l1, own_l9, own_l10, own_l13, own_l15, own_l16, own_l32, own_l55295, own_l55296, own_l57343, own_l57344, own_l65533, own_l65534, own_l65535, own_l65536, own_l1114111] at c3_58 c9_61 c15_64 c21_67 c28_88 c35_90 c49_92
                      rw [own_xml, if_neg (by omega)]), N0, rfl⟩
              · skip
                have k94 : ∀ t, Steps p.tables e below (s₁.setTop (mkF m 56 #[.val (.int p0)] [(.int (1114111 : Int32)), (.int p0)])) t → Steps p.tables e below (s₁.setTop (mkF m 0 #[.val (.int p0)] [])) t := by
                  intro t h
                  refine k91 t ?_
                  show Steps p.tables e below (s₁.setTop (mkF m 49 #[.val (.int p0)] [(.int (65536 : Int32)), (.int p0)])) _
                  refine XS.icmpNo X0.here hx rfl (hb hby own_d2_49) rfl (flt c49_92).1 ?_
                  show Steps p.tables e below (s₁.setTop (mkF m 52 #[.val (.int p0)] [])) _
                  refine XS.iloadN X0.here hx rfl (hb hby own_d2_52) rfl ?_
                  show Steps p.tables e below (s₁.setTop (mkF m 53 #[.val (.int p0)] [(.int p0)])) _
                  refine X0.ldcwInt hx hown (mvT hZ (hw _ (List.mem_of_getElem? (i := 28) rfl))) (g := (mkF m 53 #[.val (.int p0)] [(.int p0)])) rfl (hb hby own_d2_53) _ ?_
                  exact h
                by_cases c56_95 : (1114111 : Int32) < p0
                · skip
                  have k96 : ∀ t, Steps p.tables e below (s₁.setTop (mkF m 64 #[.val (.int p0)] [(.int (0 : Int32))])) t → Steps p.tables e below (s₁.setTop (mkF m 0 #[.val (.int p0)] [])) t := by
                    intro t h
                    refine k94 t ?_
                    show Steps p.tables e below (s₁.setTop (mkF m 56 #[.val (.int p0)] [(.int (1114111 : Int32)), (.int p0)])) _
                    refine XS.icmpYes X0.here hx rfl (pc0 := 56) (pc' := 63) rfl (hb hby own_d2_56) rfl (tlt c56_95).2.2.1 (by decide) (by decide) ?_
                    show Steps p.tables e below (s₁.setTop (mkF m 63 #[.val (.int p0)] [])) _
                    refine XS.iconst X0.here hx rfl (hb hby own_d2_63) ?_
                    exact h
                  obtain ⟨fs, hr, hrun, hended, hW, hsame⟩ := X0.leave (v := some (.int (0 : Int32))) (fun h => by rw [Bd.returns] at h; cases h)
                  refine ⟨_, _, pre0 _ (k96 _ ?_), hrun, hended, _, _, rfl, ?_, ⟨_, rfl⟩, hW, hsame.mono (by decide) (by decide)⟩
                  · exact retN X0 hx (t := .boolean) Bd.returns (by simp) (hb hby own_d2_64) hr
                  · show Q_rm2 Z _ h0 n0 _ s₁.heap _
                    rw [e0]
                    exact ⟨congrArg (fun z : Int32 => some (Value.int z)) (by
                        simp only [Int32.lt_iff_toInt_lt, ← Int32.toInt_inj, own_l0, own_l1, own_l9, own_l10, own_l13, own_l15, own_l16, own_l32, own_l55295, own_l55296, own_l57343, own_l57344, own_l65533, own_l65534, own_l65535, own_l65536, own_l1114111] at c3_58 c9_61 c15_64 c21_67 c28_88 c35_90 c49_92 c56_95
                        rw [own_xml, if_neg (by omega)]), N0, rfl⟩
                · skip
                  have k97 : ∀ t, Steps p.tables e below (s₁.setTop (mkF m 64 #[.val (.int p0)] [(.int (1 : Int32))])) t → Steps p.tables e below (s₁.setTop (mkF m 0 #[.val (.int p0)] [])) t := by
                    intro t h
                    refine k94 t ?_
                    show Steps p.tables e below (s₁.setTop (mkF m 56 #[.val (.int p0)] [(.int (1114111 : Int32)), (.int p0)])) _
                    refine XS.icmpNo X0.here hx rfl (hb hby own_d2_56) rfl (flt c56_95).2.2.1 ?_
                    show Steps p.tables e below (s₁.setTop (mkF m 59 #[.val (.int p0)] [])) _
                    refine XS.iconst X0.here hx rfl (hb hby own_d2_59) ?_
                    show Steps p.tables e below (s₁.setTop (mkF m 60 #[.val (.int p0)] [(.int (1 : Int32))])) _
                    refine XS.goto X0.here hx rfl (pc0 := 60) (pc' := 64) rfl (hb hby own_d2_60) (by decide) (by decide) ?_
                    exact h
                  obtain ⟨fs, hr, hrun, hended, hW, hsame⟩ := X0.leave (v := some (.int (1 : Int32))) (fun h => by rw [Bd.returns] at h; cases h)
                  refine ⟨_, _, pre0 _ (k97 _ ?_), hrun, hended, _, _, rfl, ?_, ⟨_, rfl⟩, hW, hsame.mono (by decide) (by decide)⟩
                  · exact retN X0 hx (t := .boolean) Bd.returns (by simp) (hb hby own_d2_64) hr
                  · show Q_rm2 Z _ h0 n0 _ s₁.heap _
                    rw [e0]
                    exact ⟨congrArg (fun z : Int32 => some (Value.int z)) (by
                        simp only [Int32.lt_iff_toInt_lt, ← Int32.toInt_inj, own_l0, own_l1, own_l9, own_l10, own_l13, own_l15, own_l16, own_l32, own_l55295, own_l55296, own_l57343, own_l57344, own_l65533, own_l65534, own_l65535, own_l65536, own_l1114111] at c3_58 c9_61 c15_64 c21_67 c28_88 c35_90 c49_92 c56_95
                        rw [own_xml, if_pos (by omega)]), N0, rfl⟩
            · skip
              have k98 : ∀ t, Steps p.tables e below (s₁.setTop (mkF m 42 #[.val (.int p0)] [(.int (65533 : Int32)), (.int p0)])) t → Steps p.tables e below (s₁.setTop (mkF m 0 #[.val (.int p0)] [])) t := by
                intro t h
                refine k89 t ?_
                show Steps p.tables e below (s₁.setTop (mkF m 35 #[.val (.int p0)] [(.int (57344 : Int32)), (.int p0)])) _
                refine XS.icmpNo X0.here hx rfl (hb hby own_d2_35) rfl (flt c35_90).1 ?_
                show Steps p.tables e below (s₁.setTop (mkF m 38 #[.val (.int p0)] [])) _
                refine XS.iloadN X0.here hx rfl (hb hby own_d2_38) rfl ?_
                show Steps p.tables e below (s₁.setTop (mkF m 39 #[.val (.int p0)] [(.int p0)])) _
                refine X0.ldcwInt hx hown (mvT hZ (hw _ (List.mem_of_getElem? (i := 27) rfl))) (g := (mkF m 39 #[.val (.int p0)] [(.int p0)])) rfl (hb hby own_d2_39) _ ?_
                exact h
              by_cases c42_99 : (65533 : Int32) < p0
              · skip
                have k100 : ∀ t, Steps p.tables e below (s₁.setTop (mkF m 49 #[.val (.int p0)] [(.int (65536 : Int32)), (.int p0)])) t → Steps p.tables e below (s₁.setTop (mkF m 0 #[.val (.int p0)] [])) t := by
                  intro t h
                  refine k98 t ?_
                  show Steps p.tables e below (s₁.setTop (mkF m 42 #[.val (.int p0)] [(.int (65533 : Int32)), (.int p0)])) _
                  refine XS.icmpNo X0.here hx rfl (hb hby own_d2_42) rfl (tlt c42_99).2.2.2 ?_
                  show Steps p.tables e below (s₁.setTop (mkF m 45 #[.val (.int p0)] [])) _
                  refine XS.iloadN X0.here hx rfl (hb hby own_d2_45) rfl ?_
                  show Steps p.tables e below (s₁.setTop (mkF m 46 #[.val (.int p0)] [(.int p0)])) _
                  refine X0.ldcwInt hx hown (mvT hZ (hw _ (List.mem_of_getElem? (i := 21) rfl))) (g := (mkF m 46 #[.val (.int p0)] [(.int p0)])) rfl (hb hby own_d2_46) _ ?_
                  exact h
                by_cases c49_101 : p0 < (65536 : Int32)
                · skip
                  have k102 : ∀ t, Steps p.tables e below (s₁.setTop (mkF m 64 #[.val (.int p0)] [(.int (0 : Int32))])) t → Steps p.tables e below (s₁.setTop (mkF m 0 #[.val (.int p0)] [])) t := by
                    intro t h
                    refine k100 t ?_
                    show Steps p.tables e below (s₁.setTop (mkF m 49 #[.val (.int p0)] [(.int (65536 : Int32)), (.int p0)])) _
                    refine XS.icmpYes X0.here hx rfl (pc0 := 49) (pc' := 63) rfl (hb hby own_d2_49) rfl (tlt c49_101).1 (by decide) (by decide) ?_
                    show Steps p.tables e below (s₁.setTop (mkF m 63 #[.val (.int p0)] [])) _
                    refine XS.iconst X0.here hx rfl (hb hby own_d2_63) ?_
                    exact h
                  obtain ⟨fs, hr, hrun, hended, hW, hsame⟩ := X0.leave (v := some (.int (0 : Int32))) (fun h => by rw [Bd.returns] at h; cases h)
                  refine ⟨_, _, pre0 _ (k102 _ ?_), hrun, hended, _, _, rfl, ?_, ⟨_, rfl⟩, hW, hsame.mono (by decide) (by decide)⟩
                  · exact retN X0 hx (t := .boolean) Bd.returns (by simp) (hb hby own_d2_64) hr
                  · show Q_rm2 Z _ h0 n0 _ s₁.heap _
                    rw [e0]
                    exact ⟨congrArg (fun z : Int32 => some (Value.int z)) (by
                        simp only [Int32.lt_iff_toInt_lt, ← Int32.toInt_inj, own_l0, own_l1, own_l9, own_l10, own_l13, own_l15, own_l16, own_l32, own_l55295, own_l55296, own_l57343, own_l57344, own_l65533, own_l65534, own_l65535, own_l65536, own_l1114111] at c3_58 c9_61 c15_64 c21_67 c28_88 c35_90 c42_99 c49_101
                        rw [own_xml, if_neg (by omega)]), N0, rfl⟩
                · skip
                  have k103 : ∀ t, Steps p.tables e below (s₁.setTop (mkF m 56 #[.val (.int p0)] [(.int (1114111 : Int32)), (.int p0)])) t → Steps p.tables e below (s₁.setTop (mkF m 0 #[.val (.int p0)] [])) t := by
                    intro t h
                    refine k100 t ?_
                    show Steps p.tables e below (s₁.setTop (mkF m 49 #[.val (.int p0)] [(.int (65536 : Int32)), (.int p0)])) _
                    refine XS.icmpNo X0.here hx rfl (hb hby own_d2_49) rfl (flt c49_101).1 ?_
                    show Steps p.tables e below (s₁.setTop (mkF m 52 #[.val (.int p0)] [])) _
                    refine XS.iloadN X0.here hx rfl (hb hby own_d2_52) rfl ?_
                    show Steps p.tables e below (s₁.setTop (mkF m 53 #[.val (.int p0)] [(.int p0)])) _
                    refine X0.ldcwInt hx hown (mvT hZ (hw _ (List.mem_of_getElem? (i := 28) rfl))) (g := (mkF m 53 #[.val (.int p0)] [(.int p0)])) rfl (hb hby own_d2_53) _ ?_
                    exact h
                  by_cases c56_104 : (1114111 : Int32) < p0
                  · skip
                    have k105 : ∀ t, Steps p.tables e below (s₁.setTop (mkF m 64 #[.val (.int p0)] [(.int (0 : Int32))])) t → Steps p.tables e below (s₁.setTop (mkF m 0 #[.val (.int p0)] [])) t := by
                      intro t h
                      refine k103 t ?_
                      show Steps p.tables e below (s₁.setTop (mkF m 56 #[.val (.int p0)] [(.int (1114111 : Int32)), (.int p0)])) _
                      refine XS.icmpYes X0.here hx rfl (pc0 := 56) (pc' := 63) rfl (hb hby own_d2_56) rfl (tlt c56_104).2.2.1 (by decide) (by decide) ?_
                      show Steps p.tables e below (s₁.setTop (mkF m 63 #[.val (.int p0)] [])) _
                      refine XS.iconst X0.here hx rfl (hb hby own_d2_63) ?_
                      exact h
                    obtain ⟨fs, hr, hrun, hended, hW, hsame⟩ := X0.leave (v := some (.int (0 : Int32))) (fun h => by rw [Bd.returns] at h; cases h)
                    refine ⟨_, _, pre0 _ (k105 _ ?_), hrun, hended, _, _, rfl, ?_, ⟨_, rfl⟩, hW, hsame.mono (by decide) (by decide)⟩
                    · exact retN X0 hx (t := .boolean) Bd.returns (by simp) (hb hby own_d2_64) hr
                    · show Q_rm2 Z _ h0 n0 _ s₁.heap _
                      rw [e0]
                      exact ⟨congrArg (fun z : Int32 => some (Value.int z)) (by
                          simp only [Int32.lt_iff_toInt_lt, ← Int32.toInt_inj, own_l0, own_l1, own_l9, own_l10, own_l13, own_l15, own_l16, own_l32, own_l55295, own_l55296, own_l57343, own_l57344, own_l65533, own_l65534, own_l65535, own_l65536, own_l1114111] at c3_58 c9_61 c15_64 c21_67 c28_88 c35_90 c42_99 c49_101 c56_104
                          rw [own_xml, if_neg (by omega)]), N0, rfl⟩
                  · skip
                    have k106 : ∀ t, Steps p.tables e below (s₁.setTop (mkF m 64 #[.val (.int p0)] [(.int (1 : Int32))])) t → Steps p.tables e below (s₁.setTop (mkF m 0 #[.val (.int p0)] [])) t := by
                      intro t h
                      refine k103 t ?_
                      show Steps p.tables e below (s₁.setTop (mkF m 56 #[.val (.int p0)] [(.int (1114111 : Int32)), (.int p0)])) _
                      refine XS.icmpNo X0.here hx rfl (hb hby own_d2_56) rfl (flt c56_104).2.2.1 ?_
                      show Steps p.tables e below (s₁.setTop (mkF m 59 #[.val (.int p0)] [])) _
                      refine XS.iconst X0.here hx rfl (hb hby own_d2_59) ?_
                      show Steps p.tables e below (s₁.setTop (mkF m 60 #[.val (.int p0)] [(.int (1 : Int32))])) _
                      refine XS.goto X0.here hx rfl (pc0 := 60) (pc' := 64) rfl (hb hby own_d2_60) (by decide) (by decide) ?_
                      exact h
                    obtain ⟨fs, hr, hrun, hended, hW, hsame⟩ := X0.leave (v := some (.int (1 : Int32))) (fun h => by rw [Bd.returns] at h; cases h)
                    refine ⟨_, _, pre0 _ (k106 _ ?_), hrun, hended, _, _, rfl, ?_, ⟨_, rfl⟩, hW, hsame.mono (by decide) (by decide)⟩
                    · exact retN X0 hx (t := .boolean) Bd.returns (by simp) (hb hby own_d2_64) hr
                    · show Q_rm2 Z _ h0 n0 _ s₁.heap _
                      rw [e0]
                      exact ⟨congrArg (fun z : Int32 => some (Value.int z)) (by
                          simp only [Int32.lt_iff_toInt_lt, ← Int32.toInt_inj, own_l0, own_l1, own_l9, own_l10, own_l13, own_l15, own_l16, own_l32, own_l55295, own_l55296, own_l57343, own_l57344, own_l65533, own_l65534, own_l65535, own_l65536, own_l1114111] at c3_58 c9_61 c15_64 c21_67 c28_88 c35_90 c42_99 c49_101 c56_104
                          rw [own_xml, if_pos (by omega)]), N0, rfl⟩
              · skip
                have k107 : ∀ t, Steps p.tables e below (s₁.setTop (mkF m 64 #[.val (.int p0)] [(.int (1 : Int32))])) t → Steps p.tables e below (s₁.setTop (mkF m 0 #[.val (.int p0)] [])) t := by
                  intro t h
                  refine k98 t ?_
                  show Steps p.tables e below (s₁.setTop (mkF m 42 #[.val (.int p0)] [(.int (65533 : Int32)), (.int p0)])) _
                  refine XS.icmpYes X0.here hx rfl (pc0 := 42) (pc' := 59) rfl (hb hby own_d2_42) rfl (flt c42_99).2.2.2 (by decide) (by decide) ?_
                  show Steps p.tables e below (s₁.setTop (mkF m 59 #[.val (.int p0)] [])) _
                  refine XS.iconst X0.here hx rfl (hb hby own_d2_59) ?_
                  show Steps p.tables e below (s₁.setTop (mkF m 60 #[.val (.int p0)] [(.int (1 : Int32))])) _
                  refine XS.goto X0.here hx rfl (pc0 := 60) (pc' := 64) rfl (hb hby own_d2_60) (by decide) (by decide) ?_
                  exact h
                obtain ⟨fs, hr, hrun, hended, hW, hsame⟩ := X0.leave (v := some (.int (1 : Int32))) (fun h => by rw [Bd.returns] at h; cases h)
                refine ⟨_, _, pre0 _ (k107 _ ?_), hrun, hended, _, _, rfl, ?_, ⟨_, rfl⟩, hW, hsame.mono (by decide) (by decide)⟩
                · exact retN X0 hx (t := .boolean) Bd.returns (by simp) (hb hby own_d2_64) hr
                · show Q_rm2 Z _ h0 n0 _ s₁.heap _
                  rw [e0]
                  exact ⟨congrArg (fun z : Int32 => some (Value.int z)) (by
                      simp only [Int32.lt_iff_toInt_lt, ← Int32.toInt_inj, own_l0, own_l1, own_l9, own_l10, own_l13, own_l15, own_l16, own_l32, own_l55295, own_l55296, own_l57343, own_l57344, own_l65533, own_l65534, own_l65535, own_l65536, own_l1114111] at c3_58 c9_61 c15_64 c21_67 c28_88 c35_90 c42_99
                      rw [own_xml, if_pos (by omega)]), N0, rfl⟩
          · skip
            have k108 : ∀ t, Steps p.tables e below (s₁.setTop (mkF m 64 #[.val (.int p0)] [(.int (1 : Int32))])) t → Steps p.tables e below (s₁.setTop (mkF m 0 #[.val (.int p0)] [])) t := by
              intro t h
              refine k87 t ?_
              show Steps p.tables e below (s₁.setTop (mkF m 28 #[.val (.int p0)] [(.int (55295 : Int32)), (.int p0)])) _
              refine XS.icmpYes X0.here hx rfl (pc0 := 28) (pc' := 59) rfl (hb hby own_d2_28) rfl (flt c28_88).2.2.2 (by decide) (by decide) ?_
              show Steps p.tables e below (s₁.setTop (mkF m 59 #[.val (.int p0)] [])) _
              refine XS.iconst X0.here hx rfl (hb hby own_d2_59) ?_
              show Steps p.tables e below (s₁.setTop (mkF m 60 #[.val (.int p0)] [(.int (1 : Int32))])) _
              refine XS.goto X0.here hx rfl (pc0 := 60) (pc' := 64) rfl (hb hby own_d2_60) (by decide) (by decide) ?_
              exact h
            obtain ⟨fs, hr, hrun, hended, hW, hsame⟩ := X0.leave (v := some (.int (1 : Int32))) (fun h => by rw [Bd.returns] at h; cases h)
            refine ⟨_, _, pre0 _ (k108 _ ?_), hrun, hended, _, _, rfl, ?_, ⟨_, rfl⟩, hW, hsame.mono (by decide) (by decide)⟩
            · exact retN X0 hx (t := .boolean) Bd.returns (by simp) (hb hby own_d2_64) hr
            · show Q_rm2 Z _ h0 n0 _ s₁.heap _
              rw [e0]
              exact ⟨congrArg (fun z : Int32 => some (Value.int z)) (by
                  simp only [Int32.lt_iff_toInt_lt, ← Int32.toInt_inj, own_l0, own_l1, own_l9, own_l10, own_l13, own_l15, own_l16, own_l32, own_l55295, own_l55296, own_l57343, own_l57344, own_l65533, own_l65534, own_l65535, own_l65536, own_l1114111] at c3_58 c9_61 c15_64 c21_67 c28_88
                  rw [own_xml, if_pos (by omega)]), N0, rfl⟩
def Q_rm3 (Z : State) (p0 : Int32) (h0 : Heap) (n0 : Nat) (v : Option Value) (h : Heap) (L : List Loc) : Prop := v = some (.int (own_forb p0)) ∧ Fr n0 L ∧ h = h0
set_option maxRecDepth 65536 in
set_option maxHeartbeats 40000000 in
theorem rm3 (l : Launch) (Z : State) (a0 : Array Value) (hw : ∀ d ∈ tables_1, d.before a0 Z = true) (ws : List Jvm.Cond) (p0 : Int32) (h0 : Heap) (n0 : Nat) (Z0 : n0 ≤ h0.size) :
    MetFree l (⟨"com/example/redwing/redwing/core/XmlCheckIsXmlCharacterPinLaw", "forbidden", "(I)Z"⟩ : MethodName) (head1 (Jvm.Cond.code (⟨"com/example/redwing/redwing/core/XmlCheckIsXmlCharacterPinLaw", "forbidden", "(I)Z"⟩ : MethodName) method_3_code 5 (some .boolean) :: ws) ({ frames := 0, cells := 0, slots := 0, locals := 0 } : Room)) (fun a U => a = #[(.int p0)] ∧ Z.Warmed39 U.vm ∧ U.heap = h0) (fun _ _ _ _ _ => True) (fun _ U o U' => ∃ v L, o = .returned v ∧ Q_rm3 Z p0 h0 n0 v U'.heap L ∧ FrameEnd U o U' L ({ frames := 0, cells := 0, slots := 0, locals := 0 } : Room).cells ({ frames := 0, cells := 0, slots := 0, locals := 0 } : Room).slots) := by
  refine MetFree.of_bodySF (plainFor_of_name own_pn_0) hisR ?_
  intro p e s m args below meth c s₁ Bd hml0 hP hK
  obtain ⟨rfl, hZ, hh⟩ := hP
  have hx := Bd.exec
  have hby := Bd.bytes
  have hml : c.maxLocals = 5 := hml0
  have hown : s.vm.findClass "com/example/redwing/redwing/core/XmlCheckIsXmlCharacterPinLaw" = some m.cls := findClass_of_methodNamed Bd.named
  have hnm := (name_of_methodNamed Bd.named Bd.method).1
  have X0 : Stand p l e ({ frames := 0, cells := 0, slots := 0, locals := 0 } : Room) s m #[(.int p0)] below meth c s₁ [] 0 0 := Stand.of_body Bd
  have e0 : s₁.heap = h0 := by rw [← hh, Bd.state]; rfl
  have N0 := Fr.nil n0
  have K0 : Keep h0 h0 [] := Keep.refl h0 _
  have pre0 : ∀ t, Steps p.tables e below (s₁.setTop (mkF m 0 #[.val (.int p0), .unset, .unset, .unset, .unset] [])) t → Steps p.tables e below (s₁.setTop (entryFrame m #[(.int p0)] 5)) t := fun t k => castTop (own_ef_2 m p0) k
  obtain ⟨j1, hk109, k109⟩ : ∃ (j1 : Int32), (j1 = if (p0.toInt < 0 ∨ 1114111 < p0.toInt) then 1 else 0) ∧ ∀ t, Steps p.tables e below (s₁.setTop (mkF m 15 #[.val (.int p0), .unset, .unset, .unset, .unset] [(.int j1)])) t → Steps p.tables e below (s₁.setTop (mkF m 0 #[.val (.int p0), .unset, .unset, .unset, .unset] [])) t := by
    have k110 : ∀ t, Steps p.tables e below (s₁.setTop (mkF m 1 #[.val (.int p0), .unset, .unset, .unset, .unset] [(.int p0)])) t → Steps p.tables e below (s₁.setTop (mkF m 0 #[.val (.int p0), .unset, .unset, .unset, .unset] [])) t := by
      intro t h
      show Steps p.tables e below (s₁.setTop (mkF m 0 #[.val (.int p0), .unset, .unset, .unset, .unset] [])) _
      refine XS.iloadN X0.here hx rfl (hb hby own_d3_0) rfl ?_
      exact h
    by_cases c1_111 : p0 < (0 : Int32)
    · skip
      have k112 : ∀ t, Steps p.tables e below (s₁.setTop (mkF m 15 #[.val (.int p0), .unset, .unset, .unset, .unset] [(.int (1 : Int32))])) t → Steps p.tables e below (s₁.setTop (mkF m 0 #[.val (.int p0), .unset, .unset, .unset, .unset] [])) t := by
        intro t h
        refine k110 t ?_
        show Steps p.tables e below (s₁.setTop (mkF m 1 #[.val (.int p0), .unset, .unset, .unset, .unset] [(.int p0)])) _
        refine XS.ifYes X0.here hx rfl (pc0 := 1) (pc' := 10) rfl (hb hby own_d3_1) rfl ((if0 _ _).trans (tlt c1_111).1) (by decide) (by decide) ?_
        show Steps p.tables e below (s₁.setTop (mkF m 10 #[.val (.int p0), .unset, .unset, .unset, .unset] [])) _
        refine XS.iconst X0.here hx rfl (hb hby own_d3_10) ?_
        show Steps p.tables e below (s₁.setTop (mkF m 11 #[.val (.int p0), .unset, .unset, .unset, .unset] [(.int (1 : Int32))])) _
        refine XS.goto X0.here hx rfl (pc0 := 11) (pc' := 15) rfl (hb hby own_d3_11) (by decide) (by decide) ?_
        exact h
      exact ⟨(1 : Int32), (by
            simp only [Int32.lt_iff_toInt_lt, ← Int32.toInt_inj, own_l0, own_l1, own_l9, own_l10, own_l13, own_l15, own_l16, own_l32, own_l55295, own_l55296, own_l57343, own_l57344, own_l65533, own_l65534, own_l65535, own_l65536, own_l1114111] at c1_111
            rw [if_pos (by omega)]), k112⟩
    · skip
      have k113 : ∀ t, Steps p.tables e below (s₁.setTop (mkF m 7 #[.val (.int p0), .unset, .unset, .unset, .unset] [(.int (1114111 : Int32)), (.int p0)])) t → Steps p.tables e below (s₁.setTop (mkF m 0 #[.val (.int p0), .unset, .unset, .unset, .unset] [])) t := by
        intro t h
        refine k110 t ?_
        show Steps p.tables e below (s₁.setTop (mkF m 1 #[.val (.int p0), .unset, .unset, .unset, .unset] [(.int p0)])) _
        refine XS.ifNo X0.here hx rfl (hb hby own_d3_1) rfl ((if0 _ _).trans (flt c1_111).1) ?_
        show Steps p.tables e below (s₁.setTop (mkF m 4 #[.val (.int p0), .unset, .unset, .unset, .unset] [])) _
        refine XS.iloadN X0.here hx rfl (hb hby own_d3_4) rfl ?_
        show Steps p.tables e below (s₁.setTop (mkF m 5 #[.val (.int p0), .unset, .unset, .unset, .unset] [(.int p0)])) _
        refine X0.ldcInt hx hown (mvT hZ (hw _ (List.mem_of_getElem? (i := 12) rfl))) (g := (mkF m 5 #[.val (.int p0), .unset, .unset, .unset, .unset] [(.int p0)])) rfl (hb hby own_d3_5) _ ?_
        exact h
      by_cases c7_114 : (1114111 : Int32) < p0
      · skip
        have k115 : ∀ t, Steps p.tables e below (s₁.setTop (mkF m 15 #[.val (.int p0), .unset, .unset, .unset, .unset] [(.int (1 : Int32))])) t → Steps p.tables e below (s₁.setTop (mkF m 0 #[.val (.int p0), .unset, .unset, .unset, .unset] [])) t := by
          intro t h
          refine k113 t ?_
          show Steps p.tables e below (s₁.setTop (mkF m 7 #[.val (.int p0), .unset, .unset, .unset, .unset] [(.int (1114111 : Int32)), (.int p0)])) _
          refine XS.icmpNo X0.here hx rfl (hb hby own_d3_7) rfl (tlt c7_114).2.2.2 ?_
          show Steps p.tables e below (s₁.setTop (mkF m 10 #[.val (.int p0), .unset, .unset, .unset, .unset] [])) _
          refine XS.iconst X0.here hx rfl (hb hby own_d3_10) ?_
          show Steps p.tables e below (s₁.setTop (mkF m 11 #[.val (.int p0), .unset, .unset, .unset, .unset] [(.int (1 : Int32))])) _
          refine XS.goto X0.here hx rfl (pc0 := 11) (pc' := 15) rfl (hb hby own_d3_11) (by decide) (by decide) ?_
          exact h
        exact ⟨(1 : Int32), (by
              simp only [Int32.lt_iff_toInt_lt, ← Int32.toInt_inj, own_l0, own_l1, own_l9, own_l10, own_l13, own_l15, own_l16, own_l32, own_l55295, own_l55296, own_l57343, own_l57344, own_l65533, own_l65534, own_l65535, own_l65536, own_l1114111] at c1_111 c7_114
              rw [if_pos (by omega)]), k115⟩
      · skip
        have k116 : ∀ t, Steps p.tables e below (s₁.setTop (mkF m 15 #[.val (.int p0), .unset, .unset, .unset, .unset] [(.int (0 : Int32))])) t → Steps p.tables e below (s₁.setTop (mkF m 0 #[.val (.int p0), .unset, .unset, .unset, .unset] [])) t := by
          intro t h
          refine k113 t ?_
          show Steps p.tables e below (s₁.setTop (mkF m 7 #[.val (.int p0), .unset, .unset, .unset, .unset] [(.int (1114111 : Int32)), (.int p0)])) _
          refine XS.icmpYes X0.here hx rfl (pc0 := 7) (pc' := 14) rfl (hb hby own_d3_7) rfl (flt c7_114).2.2.2 (by decide) (by decide) ?_
          show Steps p.tables e below (s₁.setTop (mkF m 14 #[.val (.int p0), .unset, .unset, .unset, .unset] [])) _
          refine XS.iconst X0.here hx rfl (hb hby own_d3_14) ?_
          exact h
        exact ⟨(0 : Int32), (by
              simp only [Int32.lt_iff_toInt_lt, ← Int32.toInt_inj, own_l0, own_l1, own_l9, own_l10, own_l13, own_l15, own_l16, own_l32, own_l55295, own_l55296, own_l57343, own_l57344, own_l65533, own_l65534, own_l65535, own_l65536, own_l1114111] at c1_111 c7_114
              rw [if_neg (by omega)]), k116⟩
  have k117 : ∀ t, Steps p.tables e below (s₁.setTop (mkF m 16 #[.val (.int p0), .val (.int j1), .unset, .unset, .unset] [])) t → Steps p.tables e below (s₁.setTop (mkF m 0 #[.val (.int p0), .unset, .unset, .unset, .unset] [])) t := by
    intro t h
    refine k109 t ?_
    show Steps p.tables e below (s₁.setTop (mkF m 15 #[.val (.int p0), .unset, .unset, .unset, .unset] [(.int j1)])) _
    refine XS.istoreN X0.here hx rfl (hb hby own_d3_15) rfl (l' := #[.val (.int p0), .val (.int j1), .unset, .unset, .unset]) rfl ?_
    exact h
  obtain ⟨j2, hk118, k118⟩ : ∃ (j2 : Int32), (j2 = if (0 ≤ p0.toInt ∧ p0.toInt < 32 ∧ p0.toInt ≠ 9 ∧ p0.toInt ≠ 10 ∧ p0.toInt ≠ 13) then 1 else 0) ∧ ∀ t, Steps p.tables e below (s₁.setTop (mkF m 49 #[.val (.int p0), .val (.int j1), .unset, .unset, .unset] [(.int j2)])) t → Steps p.tables e below (s₁.setTop (mkF m 0 #[.val (.int p0), .unset, .unset, .unset, .unset] [])) t := by
    have k119 : ∀ t, Steps p.tables e below (s₁.setTop (mkF m 17 #[.val (.int p0), .val (.int j1), .unset, .unset, .unset] [(.int p0)])) t → Steps p.tables e below (s₁.setTop (mkF m 0 #[.val (.int p0), .unset, .unset, .unset, .unset] [])) t := by
      intro t h
      refine k117 t ?_
      show Steps p.tables e below (s₁.setTop (mkF m 16 #[.val (.int p0), .val (.int j1), .unset, .unset, .unset] [])) _
      refine XS.iloadN X0.here hx rfl (hb hby own_d3_16) rfl ?_
      exact h
    by_cases c17_120 : p0 < (0 : Int32)
    · skip
      have k121 : ∀ t, Steps p.tables e below (s₁.setTop (mkF m 49 #[.val (.int p0), .val (.int j1), .unset, .unset, .unset] [(.int (0 : Int32))])) t → Steps p.tables e below (s₁.setTop (mkF m 0 #[.val (.int p0), .unset, .unset, .unset, .unset] [])) t := by
        intro t h
        refine k119 t ?_
        show Steps p.tables e below (s₁.setTop (mkF m 17 #[.val (.int p0), .val (.int j1), .unset, .unset, .unset] [(.int p0)])) _
        refine XS.ifYes X0.here hx rfl (pc0 := 17) (pc' := 48) rfl (hb hby own_d3_17) rfl ((if0 _ _).trans (tlt c17_120).1) (by decide) (by decide) ?_
        show Steps p.tables e below (s₁.setTop (mkF m 48 #[.val (.int p0), .val (.int j1), .unset, .unset, .unset] [])) _
        refine XS.iconst X0.here hx rfl (hb hby own_d3_48) ?_
        exact h
      exact ⟨(0 : Int32), (by
            simp only [Int32.lt_iff_toInt_lt, ← Int32.toInt_inj, own_l0, own_l1, own_l9, own_l10, own_l13, own_l15, own_l16, own_l32, own_l55295, own_l55296, own_l57343, own_l57344, own_l65533, own_l65534, own_l65535, own_l65536, own_l1114111] at c17_120
            rw [if_neg (by omega)]), k121⟩
    · skip
      have k122 : ∀ t, Steps p.tables e below (s₁.setTop (mkF m 23 #[.val (.int p0), .val (.int j1), .unset, .unset, .unset] [(.int (32 : Int32)), (.int p0)])) t → Steps p.tables e below (s₁.setTop (mkF m 0 #[.val (.int p0), .unset, .unset, .unset, .unset] [])) t := by
        intro t h
        refine k119 t ?_
        show Steps p.tables e below (s₁.setTop (mkF m 17 #[.val (.int p0), .val (.int j1), .unset, .unset, .unset] [(.int p0)])) _
        refine XS.ifNo X0.here hx rfl (hb hby own_d3_17) rfl ((if0 _ _).trans (flt c17_120).1) ?_
        show Steps p.tables e below (s₁.setTop (mkF m 20 #[.val (.int p0), .val (.int j1), .unset, .unset, .unset] [])) _
        refine XS.iloadN X0.here hx rfl (hb hby own_d3_20) rfl ?_
        show Steps p.tables e below (s₁.setTop (mkF m 21 #[.val (.int p0), .val (.int j1), .unset, .unset, .unset] [(.int p0)])) _
        refine XS.bipush X0.here hx rfl (hb hby own_d3_21) ?_
        exact h
      by_cases c23_123 : p0 < (32 : Int32)
      · skip
        have k124 : ∀ t, Steps p.tables e below (s₁.setTop (mkF m 29 #[.val (.int p0), .val (.int j1), .unset, .unset, .unset] [(.int (9 : Int32)), (.int p0)])) t → Steps p.tables e below (s₁.setTop (mkF m 0 #[.val (.int p0), .unset, .unset, .unset, .unset] [])) t := by
          intro t h
          refine k122 t ?_
          show Steps p.tables e below (s₁.setTop (mkF m 23 #[.val (.int p0), .val (.int j1), .unset, .unset, .unset] [(.int (32 : Int32)), (.int p0)])) _
          refine XS.icmpNo X0.here hx rfl (hb hby own_d3_23) rfl (tlt c23_123).2.1 ?_
          show Steps p.tables e below (s₁.setTop (mkF m 26 #[.val (.int p0), .val (.int j1), .unset, .unset, .unset] [])) _
          refine XS.iloadN X0.here hx rfl (hb hby own_d3_26) rfl ?_
          show Steps p.tables e below (s₁.setTop (mkF m 27 #[.val (.int p0), .val (.int j1), .unset, .unset, .unset] [(.int p0)])) _
          refine XS.bipush X0.here hx rfl (hb hby own_d3_27) ?_
          exact h
        by_cases c29_125 : p0 = (9 : Int32)
        · skip
          have k126 : ∀ t, Steps p.tables e below (s₁.setTop (mkF m 49 #[.val (.int p0), .val (.int j1), .unset, .unset, .unset] [(.int (0 : Int32))])) t → Steps p.tables e below (s₁.setTop (mkF m 0 #[.val (.int p0), .unset, .unset, .unset, .unset] [])) t := by
            intro t h
            refine k124 t ?_
            show Steps p.tables e below (s₁.setTop (mkF m 29 #[.val (.int p0), .val (.int j1), .unset, .unset, .unset] [(.int (9 : Int32)), (.int p0)])) _
            refine XS.icmpYes X0.here hx rfl (pc0 := 29) (pc' := 48) rfl (hb hby own_d3_29) rfl (teq c29_125).1 (by decide) (by decide) ?_
            show Steps p.tables e below (s₁.setTop (mkF m 48 #[.val (.int p0), .val (.int j1), .unset, .unset, .unset] [])) _
            refine XS.iconst X0.here hx rfl (hb hby own_d3_48) ?_
            exact h
          exact ⟨(0 : Int32), (by
                simp only [Int32.lt_iff_toInt_lt, ← Int32.toInt_inj, own_l0, own_l1, own_l9, own_l10, own_l13, own_l15, own_l16, own_l32, own_l55295, own_l55296, own_l57343, own_l57344, own_l65533, own_l65534, own_l65535, own_l65536, own_l1114111] at c17_120 c23_123 c29_125
                rw [if_neg (by omega)]), k126⟩
        · skip
          have k127 : ∀ t, Steps p.tables e below (s₁.setTop (mkF m 35 #[.val (.int p0), .val (.int j1), .unset, .unset, .unset] [(.int (10 : Int32)), (.int p0)])) t → Steps p.tables e below (s₁.setTop (mkF m 0 #[.val (.int p0), .unset, .unset, .unset, .unset] [])) t := by
            intro t h
            refine k124 t ?_
            show Steps p.tables e below (s₁.setTop (mkF m 29 #[.val (.int p0), .val (.int j1), .unset, .unset, .unset] [(.int (9 : Int32)), (.int p0)])) _
            refine XS.icmpNo X0.here hx rfl (hb hby own_d3_29) rfl (feq c29_125).1 ?_
            show Steps p.tables e below (s₁.setTop (mkF m 32 #[.val (.int p0), .val (.int j1), .unset, .unset, .unset] [])) _
            refine XS.iloadN X0.here hx rfl (hb hby own_d3_32) rfl ?_
            show Steps p.tables e below (s₁.setTop (mkF m 33 #[.val (.int p0), .val (.int j1), .unset, .unset, .unset] [(.int p0)])) _
            refine XS.bipush X0.here hx rfl (hb hby own_d3_33) ?_
            exact h
          by_cases c35_128 : p0 = (10 : Int32)
          · skip
            have k129 : ∀ t, Steps p.tables e below (s₁.setTop (mkF m 49 #[.val (.int p0), .val (.int j1), .unset, .unset, .unset] [(.int (0 : Int32))])) t → Steps p.tables e below (s₁.setTop (mkF m 0 #[.val (.int p0), .unset, .unset, .unset, .unset] [])) t := by
              intro t h
              refine k127 t ?_
              show Steps p.tables e below (s₁.setTop (mkF m 35 #[.val (.int p0), .val (.int j1), .unset, .unset, .unset] [(.int (10 : Int32)), (.int p0)])) _
              refine XS.icmpYes X0.here hx rfl (pc0 := 35) (pc' := 48) rfl (hb hby own_d3_35) rfl (teq c35_128).1 (by decide) (by decide) ?_
              show Steps p.tables e below (s₁.setTop (mkF m 48 #[.val (.int p0), .val (.int j1), .unset, .unset, .unset] [])) _
              refine XS.iconst X0.here hx rfl (hb hby own_d3_48) ?_
              exact h
            exact ⟨(0 : Int32), (by
                  simp only [Int32.lt_iff_toInt_lt, ← Int32.toInt_inj, own_l0, own_l1, own_l9, own_l10, own_l13, own_l15, own_l16, own_l32, own_l55295, own_l55296, own_l57343, own_l57344, own_l65533, own_l65534, own_l65535, own_l65536, own_l1114111] at c17_120 c23_123 c29_125 c35_128
                  rw [if_neg (by omega)]), k129⟩
          · skip
            have k130 : ∀ t, Steps p.tables e below (s₁.setTop (mkF m 41 #[.val (.int p0), .val (.int j1), .unset, .unset, .unset] [(.int (13 : Int32)), (.int p0)])) t → Steps p.tables e below (s₁.setTop (mkF m 0 #[.val (.int p0), .unset, .unset, .unset, .unset] [])) t := by
              intro t h
              refine k127 t ?_
              show Steps p.tables e below (s₁.setTop (mkF m 35 #[.val (.int p0), .val (.int j1), .unset, .unset, .unset] [(.int (10 : Int32)), (.int p0)])) _
              refine XS.icmpNo X0.here hx rfl (hb hby own_d3_35) rfl (feq c35_128).1 ?_
              show Steps p.tables e below (s₁.setTop (mkF m 38 #[.val (.int p0), .val (.int j1), .unset, .unset, .unset] [])) _
              refine XS.iloadN X0.here hx rfl (hb hby own_d3_38) rfl ?_
              show Steps p.tables e below (s₁.setTop (mkF m 39 #[.val (.int p0), .val (.int j1), .unset, .unset, .unset] [(.int p0)])) _
              refine XS.bipush X0.here hx rfl (hb hby own_d3_39) ?_
              exact h
            by_cases c41_131 : p0 = (13 : Int32)
            · skip
              have k132 : ∀ t, Steps p.tables e below (s₁.setTop (mkF m 49 #[.val (.int p0), .val (.int j1), .unset, .unset, .unset] [(.int (0 : Int32))])) t → Steps p.tables e below (s₁.setTop (mkF m 0 #[.val (.int p0), .unset, .unset, .unset, .unset] [])) t := by
                intro t h
                refine k130 t ?_
                show Steps p.tables e below (s₁.setTop (mkF m 41 #[.val (.int p0), .val (.int j1), .unset, .unset, .unset] [(.int (13 : Int32)), (.int p0)])) _
                refine XS.icmpYes X0.here hx rfl (pc0 := 41) (pc' := 48) rfl (hb hby own_d3_41) rfl (teq c41_131).1 (by decide) (by decide) ?_
                show Steps p.tables e below (s₁.setTop (mkF m 48 #[.val (.int p0), .val (.int j1), .unset, .unset, .unset] [])) _
                refine XS.iconst X0.here hx rfl (hb hby own_d3_48) ?_
                exact h
              exact ⟨(0 : Int32), (by
                    simp only [Int32.lt_iff_toInt_lt, ← Int32.toInt_inj, own_l0, own_l1, own_l9, own_l10, own_l13, own_l15, own_l16, own_l32, own_l55295, own_l55296, own_l57343, own_l57344, own_l65533, own_l65534, own_l65535, own_l65536, own_l1114111] at c17_120 c23_123 c29_125 c35_128 c41_131
                    rw [if_neg (by omega)]), k132⟩
            · skip
              have k133 : ∀ t, Steps p.tables e below (s₁.setTop (mkF m 49 #[.val (.int p0), .val (.int j1), .unset, .unset, .unset] [(.int (1 : Int32))])) t → Steps p.tables e below (s₁.setTop (mkF m 0 #[.val (.int p0), .unset, .unset, .unset, .unset] [])) t := by
                intro t h
                refine k130 t ?_
                show Steps p.tables e below (s₁.setTop (mkF m 41 #[.val (.int p0), .val (.int j1), .unset, .unset, .unset] [(.int (13 : Int32)), (.int p0)])) _
                refine XS.icmpNo X0.here hx rfl (hb hby own_d3_41) rfl (feq c41_131).1 ?_
                show Steps p.tables e below (s₁.setTop (mkF m 44 #[.val (.int p0), .val (.int j1), .unset, .unset, .unset] [])) _
                refine XS.iconst X0.here hx rfl (hb hby own_d3_44) ?_
                show Steps p.tables e below (s₁.setTop (mkF m 45 #[.val (.int p0), .val (.int j1), .unset, .unset, .unset] [(.int (1 : Int32))])) _
                refine XS.goto X0.here hx rfl (pc0 := 45) (pc' := 49) rfl (hb hby own_d3_45) (by decide) (by decide) ?_
                exact h
              exact ⟨(1 : Int32), (by
                    simp only [Int32.lt_iff_toInt_lt, ← Int32.toInt_inj, own_l0, own_l1, own_l9, own_l10, own_l13, own_l15, own_l16, own_l32, own_l55295, own_l55296, own_l57343, own_l57344, own_l65533, own_l65534, own_l65535, own_l65536, own_l1114111] at c17_120 c23_123 c29_125 c35_128 c41_131
                    rw [if_pos (by omega)]), k133⟩
      · skip
        have k134 : ∀ t, Steps p.tables e below (s₁.setTop (mkF m 49 #[.val (.int p0), .val (.int j1), .unset, .unset, .unset] [(.int (0 : Int32))])) t → Steps p.tables e below (s₁.setTop (mkF m 0 #[.val (.int p0), .unset, .unset, .unset, .unset] [])) t := by
          intro t h
          refine k122 t ?_
          show Steps p.tables e below (s₁.setTop (mkF m 23 #[.val (.int p0), .val (.int j1), .unset, .unset, .unset] [(.int (32 : Int32)), (.int p0)])) _
          refine XS.icmpYes X0.here hx rfl (pc0 := 23) (pc' := 48) rfl (hb hby own_d3_23) rfl (flt c23_123).2.1 (by decide) (by decide) ?_
          show Steps p.tables e below (s₁.setTop (mkF m 48 #[.val (.int p0), .val (.int j1), .unset, .unset, .unset] [])) _
          refine XS.iconst X0.here hx rfl (hb hby own_d3_48) ?_
          exact h
        exact ⟨(0 : Int32), (by
              simp only [Int32.lt_iff_toInt_lt, ← Int32.toInt_inj, own_l0, own_l1, own_l9, own_l10, own_l13, own_l15, own_l16, own_l32, own_l55295, own_l55296, own_l57343, own_l57344, own_l65533, own_l65534, own_l65535, own_l65536, own_l1114111] at c17_120 c23_123
              rw [if_neg (by omega)]), k134⟩
  have k135 : ∀ t, Steps p.tables e below (s₁.setTop (mkF m 50 #[.val (.int p0), .val (.int j1), .val (.int j2), .unset, .unset] [])) t → Steps p.tables e below (s₁.setTop (mkF m 0 #[.val (.int p0), .unset, .unset, .unset, .unset] [])) t := by
    intro t h
    refine k118 t ?_
    show Steps p.tables e below (s₁.setTop (mkF m 49 #[.val (.int p0), .val (.int j1), .unset, .unset, .unset] [(.int j2)])) _
    refine XS.istoreN X0.here hx rfl (hb hby own_d3_49) rfl (l' := #[.val (.int p0), .val (.int j1), .val (.int j2), .unset, .unset]) rfl ?_
    exact h
  obtain ⟨j3, hk136, k136⟩ : ∃ (j3 : Int32), (j3 = if (55296 ≤ p0.toInt ∧ p0.toInt ≤ 57343) then 1 else 0) ∧ ∀ t, Steps p.tables e below (s₁.setTop (mkF m 67 #[.val (.int p0), .val (.int j1), .val (.int j2), .unset, .unset] [(.int j3)])) t → Steps p.tables e below (s₁.setTop (mkF m 0 #[.val (.int p0), .unset, .unset, .unset, .unset] [])) t := by
    have k137 : ∀ t, Steps p.tables e below (s₁.setTop (mkF m 53 #[.val (.int p0), .val (.int j1), .val (.int j2), .unset, .unset] [(.int (55296 : Int32)), (.int p0)])) t → Steps p.tables e below (s₁.setTop (mkF m 0 #[.val (.int p0), .unset, .unset, .unset, .unset] [])) t := by
      intro t h
      refine k135 t ?_
      show Steps p.tables e below (s₁.setTop (mkF m 50 #[.val (.int p0), .val (.int j1), .val (.int j2), .unset, .unset] [])) _
      refine XS.iloadN X0.here hx rfl (hb hby own_d3_50) rfl ?_
      show Steps p.tables e below (s₁.setTop (mkF m 51 #[.val (.int p0), .val (.int j1), .val (.int j2), .unset, .unset] [(.int p0)])) _
      refine X0.ldcInt hx hown (mvT hZ (hw _ (List.mem_of_getElem? (i := 6) rfl))) (g := (mkF m 51 #[.val (.int p0), .val (.int j1), .val (.int j2), .unset, .unset] [(.int p0)])) rfl (hb hby own_d3_51) _ ?_
      exact h
    by_cases c53_138 : p0 < (55296 : Int32)
    · skip
      have k139 : ∀ t, Steps p.tables e below (s₁.setTop (mkF m 67 #[.val (.int p0), .val (.int j1), .val (.int j2), .unset, .unset] [(.int (0 : Int32))])) t → Steps p.tables e below (s₁.setTop (mkF m 0 #[.val (.int p0), .unset, .unset, .unset, .unset] [])) t := by
        intro t h
        refine k137 t ?_
        show Steps p.tables e below (s₁.setTop (mkF m 53 #[.val (.int p0), .val (.int j1), .val (.int j2), .unset, .unset] [(.int (55296 : Int32)), (.int p0)])) _
        refine XS.icmpYes X0.here hx rfl (pc0 := 53) (pc' := 66) rfl (hb hby own_d3_53) rfl (tlt c53_138).1 (by decide) (by decide) ?_
        show Steps p.tables e below (s₁.setTop (mkF m 66 #[.val (.int p0), .val (.int j1), .val (.int j2), .unset, .unset] [])) _
        refine XS.iconst X0.here hx rfl (hb hby own_d3_66) ?_
        exact h
      exact ⟨(0 : Int32), (by
            simp only [Int32.lt_iff_toInt_lt, ← Int32.toInt_inj, own_l0, own_l1, own_l9, own_l10, own_l13, own_l15, own_l16, own_l32, own_l55295, own_l55296, own_l57343, own_l57344, own_l65533, own_l65534, own_l65535, own_l65536, own_l1114111] at c53_138
            rw [if_neg (by omega)]), k139⟩
    · skip
      have k140 : ∀ t, Steps p.tables e below (s₁.setTop (mkF m 59 #[.val (.int p0), .val (.int j1), .val (.int j2), .unset, .unset] [(.int (57343 : Int32)), (.int p0)])) t → Steps p.tables e below (s₁.setTop (mkF m 0 #[.val (.int p0), .unset, .unset, .unset, .unset] [])) t := by
        intro t h
        refine k137 t ?_
        show Steps p.tables e below (s₁.setTop (mkF m 53 #[.val (.int p0), .val (.int j1), .val (.int j2), .unset, .unset] [(.int (55296 : Int32)), (.int p0)])) _
        refine XS.icmpNo X0.here hx rfl (hb hby own_d3_53) rfl (flt c53_138).1 ?_
        show Steps p.tables e below (s₁.setTop (mkF m 56 #[.val (.int p0), .val (.int j1), .val (.int j2), .unset, .unset] [])) _
        refine XS.iloadN X0.here hx rfl (hb hby own_d3_56) rfl ?_
        show Steps p.tables e below (s₁.setTop (mkF m 57 #[.val (.int p0), .val (.int j1), .val (.int j2), .unset, .unset] [(.int p0)])) _
        refine X0.ldcInt hx hown (mvT hZ (hw _ (List.mem_of_getElem? (i := 7) rfl))) (g := (mkF m 57 #[.val (.int p0), .val (.int j1), .val (.int j2), .unset, .unset] [(.int p0)])) rfl (hb hby own_d3_57) _ ?_
        exact h
      by_cases c59_141 : (57343 : Int32) < p0
      · skip
        have k142 : ∀ t, Steps p.tables e below (s₁.setTop (mkF m 67 #[.val (.int p0), .val (.int j1), .val (.int j2), .unset, .unset] [(.int (0 : Int32))])) t → Steps p.tables e below (s₁.setTop (mkF m 0 #[.val (.int p0), .unset, .unset, .unset, .unset] [])) t := by
          intro t h
          refine k140 t ?_
          show Steps p.tables e below (s₁.setTop (mkF m 59 #[.val (.int p0), .val (.int j1), .val (.int j2), .unset, .unset] [(.int (57343 : Int32)), (.int p0)])) _
          refine XS.icmpYes X0.here hx rfl (pc0 := 59) (pc' := 66) rfl (hb hby own_d3_59) rfl (tlt c59_141).2.2.1 (by decide) (by decide) ?_
          show Steps p.tables e below (s₁.setTop (mkF m 66 #[.val (.int p0), .val (.int j1), .val (.int j2), .unset, .unset] [])) _
          refine XS.iconst X0.here hx rfl (hb hby own_d3_66) ?_
          exact h
        exact ⟨(0 : Int32), (by
              simp only [Int32.lt_iff_toInt_lt, ← Int32.toInt_inj, own_l0, own_l1, own_l9, own_l10, own_l13, own_l15, own_l16, own_l32, own_l55295, own_l55296, own_l57343, own_l57344, own_l65533, own_l65534, own_l65535, own_l65536, own_l1114111] at c53_138 c59_141
              rw [if_neg (by omega)]), k142⟩
      · skip
        have k143 : ∀ t, Steps p.tables e below (s₁.setTop (mkF m 67 #[.val (.int p0), .val (.int j1), .val (.int j2), .unset, .unset] [(.int (1 : Int32))])) t → Steps p.tables e below (s₁.setTop (mkF m 0 #[.val (.int p0), .unset, .unset, .unset, .unset] [])) t := by
          intro t h
          refine k140 t ?_
          show Steps p.tables e below (s₁.setTop (mkF m 59 #[.val (.int p0), .val (.int j1), .val (.int j2), .unset, .unset] [(.int (57343 : Int32)), (.int p0)])) _
          refine XS.icmpNo X0.here hx rfl (hb hby own_d3_59) rfl (flt c59_141).2.2.1 ?_
          show Steps p.tables e below (s₁.setTop (mkF m 62 #[.val (.int p0), .val (.int j1), .val (.int j2), .unset, .unset] [])) _
          refine XS.iconst X0.here hx rfl (hb hby own_d3_62) ?_
          show Steps p.tables e below (s₁.setTop (mkF m 63 #[.val (.int p0), .val (.int j1), .val (.int j2), .unset, .unset] [(.int (1 : Int32))])) _
          refine XS.goto X0.here hx rfl (pc0 := 63) (pc' := 67) rfl (hb hby own_d3_63) (by decide) (by decide) ?_
          exact h
        exact ⟨(1 : Int32), (by
              simp only [Int32.lt_iff_toInt_lt, ← Int32.toInt_inj, own_l0, own_l1, own_l9, own_l10, own_l13, own_l15, own_l16, own_l32, own_l55295, own_l55296, own_l57343, own_l57344, own_l65533, own_l65534, own_l65535, own_l65536, own_l1114111] at c53_138 c59_141
              rw [if_pos (by omega)]), k143⟩
  have k144 : ∀ t, Steps p.tables e below (s₁.setTop (mkF m 68 #[.val (.int p0), .val (.int j1), .val (.int j2), .val (.int j3), .unset] [])) t → Steps p.tables e below (s₁.setTop (mkF m 0 #[.val (.int p0), .unset, .unset, .unset, .unset] [])) t := by
    intro t h
    refine k136 t ?_
    show Steps p.tables e below (s₁.setTop (mkF m 67 #[.val (.int p0), .val (.int j1), .val (.int j2), .unset, .unset] [(.int j3)])) _
    refine XS.istoreN X0.here hx rfl (hb hby own_d3_67) rfl (l' := #[.val (.int p0), .val (.int j1), .val (.int j2), .val (.int j3), .unset]) rfl ?_
    exact h
  obtain ⟨j4, hk145, k145⟩ : ∃ (j4 : Int32), (j4 = if (p0.toInt = 65534 ∨ p0.toInt = 65535) then 1 else 0) ∧ ∀ t, Steps p.tables e below (s₁.setTop (mkF m 85 #[.val (.int p0), .val (.int j1), .val (.int j2), .val (.int j3), .unset] [(.int j4)])) t → Steps p.tables e below (s₁.setTop (mkF m 0 #[.val (.int p0), .unset, .unset, .unset, .unset] [])) t := by
    have k146 : ∀ t, Steps p.tables e below (s₁.setTop (mkF m 71 #[.val (.int p0), .val (.int j1), .val (.int j2), .val (.int j3), .unset] [(.int (65534 : Int32)), (.int p0)])) t → Steps p.tables e below (s₁.setTop (mkF m 0 #[.val (.int p0), .unset, .unset, .unset, .unset] [])) t := by
      intro t h
      refine k144 t ?_
      show Steps p.tables e below (s₁.setTop (mkF m 68 #[.val (.int p0), .val (.int j1), .val (.int j2), .val (.int j3), .unset] [])) _
      refine XS.iloadN X0.here hx rfl (hb hby own_d3_68) rfl ?_
      show Steps p.tables e below (s₁.setTop (mkF m 69 #[.val (.int p0), .val (.int j1), .val (.int j2), .val (.int j3), .unset] [(.int p0)])) _
      refine X0.ldcInt hx hown (mvT hZ (hw _ (List.mem_of_getElem? (i := 10) rfl))) (g := (mkF m 69 #[.val (.int p0), .val (.int j1), .val (.int j2), .val (.int j3), .unset] [(.int p0)])) rfl (hb hby own_d3_69) _ ?_
      exact h
    by_cases c71_147 : p0 = (65534 : Int32)
    · skip
      have k148 : ∀ t, Steps p.tables e below (s₁.setTop (mkF m 85 #[.val (.int p0), .val (.int j1), .val (.int j2), .val (.int j3), .unset] [(.int (1 : Int32))])) t → Steps p.tables e below (s₁.setTop (mkF m 0 #[.val (.int p0), .unset, .unset, .unset, .unset] [])) t := by
        intro t h
        refine k146 t ?_
        show Steps p.tables e below (s₁.setTop (mkF m 71 #[.val (.int p0), .val (.int j1), .val (.int j2), .val (.int j3), .unset] [(.int (65534 : Int32)), (.int p0)])) _
        refine XS.icmpYes X0.here hx rfl (pc0 := 71) (pc' := 80) rfl (hb hby own_d3_71) rfl (teq c71_147).1 (by decide) (by decide) ?_
        show Steps p.tables e below (s₁.setTop (mkF m 80 #[.val (.int p0), .val (.int j1), .val (.int j2), .val (.int j3), .unset] [])) _
        refine XS.iconst X0.here hx rfl (hb hby own_d3_80) ?_
        show Steps p.tables e below (s₁.setTop (mkF m 81 #[.val (.int p0), .val (.int j1), .val (.int j2), .val (.int j3), .unset] [(.int (1 : Int32))])) _
        refine XS.goto X0.here hx rfl (pc0 := 81) (pc' := 85) rfl (hb hby own_d3_81) (by decide) (by decide) ?_
        exact h
      exact ⟨(1 : Int32), (by
            simp only [Int32.lt_iff_toInt_lt, ← Int32.toInt_inj, own_l0, own_l1, own_l9, own_l10, own_l13, own_l15, own_l16, own_l32, own_l55295, own_l55296, own_l57343, own_l57344, own_l65533, own_l65534, own_l65535, own_l65536, own_l1114111] at c71_147
            rw [if_pos (by omega)]), k148⟩
    · skip
      have k149 : ∀ t, Steps p.tables e below (s₁.setTop (mkF m 77 #[.val (.int p0), .val (.int j1), .val (.int j2), .val (.int j3), .unset] [(.int (65535 : Int32)), (.int p0)])) t → Steps p.tables e below (s₁.setTop (mkF m 0 #[.val (.int p0), .unset, .unset, .unset, .unset] [])) t := by
        intro t h
        refine k146 t ?_
        show Steps p.tables e below (s₁.setTop (mkF m 71 #[.val (.int p0), .val (.int j1), .val (.int j2), .val (.int j3), .unset] [(.int (65534 : Int32)), (.int p0)])) _
        refine XS.icmpNo X0.here hx rfl (hb hby own_d3_71) rfl (feq c71_147).1 ?_
        show Steps p.tables e below (s₁.setTop (mkF m 74 #[.val (.int p0), .val (.int j1), .val (.int j2), .val (.int j3), .unset] [])) _
        refine XS.iloadN X0.here hx rfl (hb hby own_d3_74) rfl ?_
        show Steps p.tables e below (s₁.setTop (mkF m 75 #[.val (.int p0), .val (.int j1), .val (.int j2), .val (.int j3), .unset] [(.int p0)])) _
        refine X0.ldcInt hx hown (mvT hZ (hw _ (List.mem_of_getElem? (i := 25) rfl))) (g := (mkF m 75 #[.val (.int p0), .val (.int j1), .val (.int j2), .val (.int j3), .unset] [(.int p0)])) rfl (hb hby own_d3_75) _ ?_
        exact h
      by_cases c77_150 : p0 = (65535 : Int32)
      · skip
        have k151 : ∀ t, Steps p.tables e below (s₁.setTop (mkF m 85 #[.val (.int p0), .val (.int j1), .val (.int j2), .val (.int j3), .unset] [(.int (1 : Int32))])) t → Steps p.tables e below (s₁.setTop (mkF m 0 #[.val (.int p0), .unset, .unset, .unset, .unset] [])) t := by
          intro t h
          refine k149 t ?_
          show Steps p.tables e below (s₁.setTop (mkF m 77 #[.val (.int p0), .val (.int j1), .val (.int j2), .val (.int j3), .unset] [(.int (65535 : Int32)), (.int p0)])) _
          refine XS.icmpNo X0.here hx rfl (hb hby own_d3_77) rfl (teq c77_150).2 ?_
          show Steps p.tables e below (s₁.setTop (mkF m 80 #[.val (.int p0), .val (.int j1), .val (.int j2), .val (.int j3), .unset] [])) _
          refine XS.iconst X0.here hx rfl (hb hby own_d3_80) ?_
          show Steps p.tables e below (s₁.setTop (mkF m 81 #[.val (.int p0), .val (.int j1), .val (.int j2), .val (.int j3), .unset] [(.int (1 : Int32))])) _
          refine XS.goto X0.here hx rfl (pc0 := 81) (pc' := 85) rfl (hb hby own_d3_81) (by decide) (by decide) ?_
          exact h
        exact ⟨(1 : Int32), (by
              simp only [Int32.lt_iff_toInt_lt, ← Int32.toInt_inj, own_l0, own_l1, own_l9, own_l10, own_l13, own_l15, own_l16, own_l32, own_l55295, own_l55296, own_l57343, own_l57344, own_l65533, own_l65534, own_l65535, own_l65536, own_l1114111] at c71_147 c77_150
              rw [if_pos (by omega)]), k151⟩
      · skip
        have k152 : ∀ t, Steps p.tables e below (s₁.setTop (mkF m 85 #[.val (.int p0), .val (.int j1), .val (.int j2), .val (.int j3), .unset] [(.int (0 : Int32))])) t → Steps p.tables e below (s₁.setTop (mkF m 0 #[.val (.int p0), .unset, .unset, .unset, .unset] [])) t := by
          intro t h
          refine k149 t ?_
          show Steps p.tables e below (s₁.setTop (mkF m 77 #[.val (.int p0), .val (.int j1), .val (.int j2), .val (.int j3), .unset] [(.int (65535 : Int32)), (.int p0)])) _
          refine XS.icmpYes X0.here hx rfl (pc0 := 77) (pc' := 84) rfl (hb hby own_d3_77) rfl (feq c77_150).2 (by decide) (by decide) ?_
          show Steps p.tables e below (s₁.setTop (mkF m 84 #[.val (.int p0), .val (.int j1), .val (.int j2), .val (.int j3), .unset] [])) _
          refine XS.iconst X0.here hx rfl (hb hby own_d3_84) ?_
          exact h
        exact ⟨(0 : Int32), (by
              simp only [Int32.lt_iff_toInt_lt, ← Int32.toInt_inj, own_l0, own_l1, own_l9, own_l10, own_l13, own_l15, own_l16, own_l32, own_l55295, own_l55296, own_l57343, own_l57344, own_l65533, own_l65534, own_l65535, own_l65536, own_l1114111] at c71_147 c77_150
              rw [if_neg (by omega)]), k152⟩
  have k153 : ∀ t, Steps p.tables e below (s₁.setTop (mkF m 88 #[.val (.int p0), .val (.int j1), .val (.int j2), .val (.int j3), .val (.int j4)] [(.int j1)])) t → Steps p.tables e below (s₁.setTop (mkF m 0 #[.val (.int p0), .unset, .unset, .unset, .unset] [])) t := by
    intro t h
    refine k145 t ?_
    show Steps p.tables e below (s₁.setTop (mkF m 85 #[.val (.int p0), .val (.int j1), .val (.int j2), .val (.int j3), .unset] [(.int j4)])) _
    refine XS.istore X0.here hx rfl (hb hby own_d3_85) rfl (l' := #[.val (.int p0), .val (.int j1), .val (.int j2), .val (.int j3), .val (.int j4)]) rfl ?_
    show Steps p.tables e below (s₁.setTop (mkF m 87 #[.val (.int p0), .val (.int j1), .val (.int j2), .val (.int j3), .val (.int j4)] [])) _
    refine XS.iloadN X0.here hx rfl (hb hby own_d3_87) rfl ?_
    exact h
  by_cases c88_154 : j1 = (0 : Int32)
  · skip
    have k155 : ∀ t, Steps p.tables e below (s₁.setTop (mkF m 92 #[.val (.int p0), .val (.int j1), .val (.int j2), .val (.int j3), .val (.int j4)] [(.int j2)])) t → Steps p.tables e below (s₁.setTop (mkF m 0 #[.val (.int p0), .unset, .unset, .unset, .unset] [])) t := by
      intro t h
      refine k153 t ?_
      show Steps p.tables e below (s₁.setTop (mkF m 88 #[.val (.int p0), .val (.int j1), .val (.int j2), .val (.int j3), .val (.int j4)] [(.int j1)])) _
      refine XS.ifNo X0.here hx rfl (hb hby own_d3_88) rfl ((if0 _ _).trans (teq c88_154).2) ?_
      show Steps p.tables e below (s₁.setTop (mkF m 91 #[.val (.int p0), .val (.int j1), .val (.int j2), .val (.int j3), .val (.int j4)] [])) _
      refine XS.iloadN X0.here hx rfl (hb hby own_d3_91) rfl ?_
      exact h
    by_cases c92_156 : j2 = (0 : Int32)
    · skip
      have k157 : ∀ t, Steps p.tables e below (s₁.setTop (mkF m 96 #[.val (.int p0), .val (.int j1), .val (.int j2), .val (.int j3), .val (.int j4)] [(.int j3)])) t → Steps p.tables e below (s₁.setTop (mkF m 0 #[.val (.int p0), .unset, .unset, .unset, .unset] [])) t := by
        intro t h
        refine k155 t ?_
        show Steps p.tables e below (s₁.setTop (mkF m 92 #[.val (.int p0), .val (.int j1), .val (.int j2), .val (.int j3), .val (.int j4)] [(.int j2)])) _
        refine XS.ifNo X0.here hx rfl (hb hby own_d3_92) rfl ((if0 _ _).trans (teq c92_156).2) ?_
        show Steps p.tables e below (s₁.setTop (mkF m 95 #[.val (.int p0), .val (.int j1), .val (.int j2), .val (.int j3), .val (.int j4)] [])) _
        refine XS.iloadN X0.here hx rfl (hb hby own_d3_95) rfl ?_
        exact h
      by_cases c96_158 : j3 = (0 : Int32)
      · skip
        have k159 : ∀ t, Steps p.tables e below (s₁.setTop (mkF m 101 #[.val (.int p0), .val (.int j1), .val (.int j2), .val (.int j3), .val (.int j4)] [(.int j4)])) t → Steps p.tables e below (s₁.setTop (mkF m 0 #[.val (.int p0), .unset, .unset, .unset, .unset] [])) t := by
          intro t h
          refine k157 t ?_
          show Steps p.tables e below (s₁.setTop (mkF m 96 #[.val (.int p0), .val (.int j1), .val (.int j2), .val (.int j3), .val (.int j4)] [(.int j3)])) _
          refine XS.ifNo X0.here hx rfl (hb hby own_d3_96) rfl ((if0 _ _).trans (teq c96_158).2) ?_
          show Steps p.tables e below (s₁.setTop (mkF m 99 #[.val (.int p0), .val (.int j1), .val (.int j2), .val (.int j3), .val (.int j4)] [])) _
          refine XS.iload X0.here hx rfl (hb hby own_d3_99) rfl ?_
          exact h
        by_cases c101_160 : j4 = (0 : Int32)
        · skip
          have k161 : ∀ t, Steps p.tables e below (s₁.setTop (mkF m 109 #[.val (.int p0), .val (.int j1), .val (.int j2), .val (.int j3), .val (.int j4)] [(.int (0 : Int32))])) t → Steps p.tables e below (s₁.setTop (mkF m 0 #[.val (.int p0), .unset, .unset, .unset, .unset] [])) t := by
            intro t h
            refine k159 t ?_
            show Steps p.tables e below (s₁.setTop (mkF m 101 #[.val (.int p0), .val (.int j1), .val (.int j2), .val (.int j3), .val (.int j4)] [(.int j4)])) _
            refine XS.ifYes X0.here hx rfl (pc0 := 101) (pc' := 108) rfl (hb hby own_d3_101) rfl ((if0 _ _).trans (teq c101_160).1) (by decide) (by decide) ?_
            show Steps p.tables e below (s₁.setTop (mkF m 108 #[.val (.int p0), .val (.int j1), .val (.int j2), .val (.int j3), .val (.int j4)] [])) _
            refine XS.iconst X0.here hx rfl (hb hby own_d3_108) ?_
            exact h
          obtain ⟨fs, hr, hrun, hended, hW, hsame⟩ := X0.leave (v := some (.int (0 : Int32))) (fun h => by rw [Bd.returns] at h; cases h)
          refine ⟨_, _, pre0 _ (k161 _ ?_), hrun, hended, _, _, rfl, ?_, ⟨_, rfl⟩, hW, hsame.mono (by decide) (by decide)⟩
          · exact retN X0 hx (t := .boolean) Bd.returns (by simp) (hb hby own_d3_109) hr
          · show Q_rm3 Z _ h0 n0 _ s₁.heap _
            rw [e0]
            exact ⟨congrArg (fun z : Int32 => some (Value.int z)) (by
                have q0 := own_if0 hk109 c88_154
                have q1 := own_if0 hk118 c92_156
                have q2 := own_if0 hk136 c96_158
                have q3 := own_if0 hk145 c101_160
                rw [own_forb, if_neg (by omega)]), N0, rfl⟩
        · skip
          have k162 : ∀ t, Steps p.tables e below (s₁.setTop (mkF m 109 #[.val (.int p0), .val (.int j1), .val (.int j2), .val (.int j3), .val (.int j4)] [(.int (1 : Int32))])) t → Steps p.tables e below (s₁.setTop (mkF m 0 #[.val (.int p0), .unset, .unset, .unset, .unset] [])) t := by
            intro t h
            refine k159 t ?_
            show Steps p.tables e below (s₁.setTop (mkF m 101 #[.val (.int p0), .val (.int j1), .val (.int j2), .val (.int j3), .val (.int j4)] [(.int j4)])) _
            refine XS.ifNo X0.here hx rfl (hb hby own_d3_101) rfl ((if0 _ _).trans (feq c101_160).1) ?_
            show Steps p.tables e below (s₁.setTop (mkF m 104 #[.val (.int p0), .val (.int j1), .val (.int j2), .val (.int j3), .val (.int j4)] [])) _
            refine XS.iconst X0.here hx rfl (hb hby own_d3_104) ?_
            show Steps p.tables e below (s₁.setTop (mkF m 105 #[.val (.int p0), .val (.int j1), .val (.int j2), .val (.int j3), .val (.int j4)] [(.int (1 : Int32))])) _
            refine XS.goto X0.here hx rfl (pc0 := 105) (pc' := 109) rfl (hb hby own_d3_105) (by decide) (by decide) ?_
            exact h
          obtain ⟨fs, hr, hrun, hended, hW, hsame⟩ := X0.leave (v := some (.int (1 : Int32))) (fun h => by rw [Bd.returns] at h; cases h)
          refine ⟨_, _, pre0 _ (k162 _ ?_), hrun, hended, _, _, rfl, ?_, ⟨_, rfl⟩, hW, hsame.mono (by decide) (by decide)⟩
          · exact retN X0 hx (t := .boolean) Bd.returns (by simp) (hb hby own_d3_109) hr
          · show Q_rm3 Z _ h0 n0 _ s₁.heap _
            rw [e0]
            exact ⟨congrArg (fun z : Int32 => some (Value.int z)) (by
                have q0 := own_if0 hk109 c88_154
                have q1 := own_if0 hk118 c92_156
                have q2 := own_if0 hk136 c96_158
                have q3 := own_if1 hk145 c101_160
                rw [own_forb, if_pos (by omega)]), N0, rfl⟩
      · skip
        have k163 : ∀ t, Steps p.tables e below (s₁.setTop (mkF m 109 #[.val (.int p0), .val (.int j1), .val (.int j2), .val (.int j3), .val (.int j4)] [(.int (1 : Int32))])) t → Steps p.tables e below (s₁.setTop (mkF m 0 #[.val (.int p0), .unset, .unset, .unset, .unset] [])) t := by
          intro t h
          refine k157 t ?_
          show Steps p.tables e below (s₁.setTop (mkF m 96 #[.val (.int p0), .val (.int j1), .val (.int j2), .val (.int j3), .val (.int j4)] [(.int j3)])) _
          refine XS.ifYes X0.here hx rfl (pc0 := 96) (pc' := 104) rfl (hb hby own_d3_96) rfl ((if0 _ _).trans (feq c96_158).2) (by decide) (by decide) ?_
          show Steps p.tables e below (s₁.setTop (mkF m 104 #[.val (.int p0), .val (.int j1), .val (.int j2), .val (.int j3), .val (.int j4)] [])) _
          refine XS.iconst X0.here hx rfl (hb hby own_d3_104) ?_
          show Steps p.tables e below (s₁.setTop (mkF m 105 #[.val (.int p0), .val (.int j1), .val (.int j2), .val (.int j3), .val (.int j4)] [(.int (1 : Int32))])) _
          refine XS.goto X0.here hx rfl (pc0 := 105) (pc' := 109) rfl (hb hby own_d3_105) (by decide) (by decide) ?_
          exact h
        obtain ⟨fs, hr, hrun, hended, hW, hsame⟩ := X0.leave (v := some (.int (1 : Int32))) (fun h => by rw [Bd.returns] at h; cases h)
        refine ⟨_, _, pre0 _ (k163 _ ?_), hrun, hended, _, _, rfl, ?_, ⟨_, rfl⟩, hW, hsame.mono (by decide) (by decide)⟩
        · exact retN X0 hx (t := .boolean) Bd.returns (by simp) (hb hby own_d3_109) hr
        · show Q_rm3 Z _ h0 n0 _ s₁.heap _
          rw [e0]
          exact ⟨congrArg (fun z : Int32 => some (Value.int z)) (by
              have q0 := own_if0 hk109 c88_154
              have q1 := own_if0 hk118 c92_156
              have q2 := own_if1 hk136 c96_158
              rw [own_forb, if_pos (by omega)]), N0, rfl⟩
    · skip
      have k164 : ∀ t, Steps p.tables e below (s₁.setTop (mkF m 109 #[.val (.int p0), .val (.int j1), .val (.int j2), .val (.int j3), .val (.int j4)] [(.int (1 : Int32))])) t → Steps p.tables e below (s₁.setTop (mkF m 0 #[.val (.int p0), .unset, .unset, .unset, .unset] [])) t := by
        intro t h
        refine k155 t ?_
        show Steps p.tables e below (s₁.setTop (mkF m 92 #[.val (.int p0), .val (.int j1), .val (.int j2), .val (.int j3), .val (.int j4)] [(.int j2)])) _
        refine XS.ifYes X0.here hx rfl (pc0 := 92) (pc' := 104) rfl (hb hby own_d3_92) rfl ((if0 _ _).trans (feq c92_156).2) (by decide) (by decide) ?_
        show Steps p.tables e below (s₁.setTop (mkF m 104 #[.val (.int p0), .val (.int j1), .val (.int j2), .val (.int j3), .val (.int j4)] [])) _
        refine XS.iconst X0.here hx rfl (hb hby own_d3_104) ?_
        show Steps p.tables e below (s₁.setTop (mkF m 105 #[.val (.int p0), .val (.int j1), .val (.int j2), .val (.int j3), .val (.int j4)] [(.int (1 : Int32))])) _
        refine XS.goto X0.here hx rfl (pc0 := 105) (pc' := 109) rfl (hb hby own_d3_105) (by decide) (by decide) ?_
        exact h
      obtain ⟨fs, hr, hrun, hended, hW, hsame⟩ := X0.leave (v := some (.int (1 : Int32))) (fun h => by rw [Bd.returns] at h; cases h)
      refine ⟨_, _, pre0 _ (k164 _ ?_), hrun, hended, _, _, rfl, ?_, ⟨_, rfl⟩, hW, hsame.mono (by decide) (by decide)⟩
      · exact retN X0 hx (t := .boolean) Bd.returns (by simp) (hb hby own_d3_109) hr
      · show Q_rm3 Z _ h0 n0 _ s₁.heap _
        rw [e0]
        exact ⟨congrArg (fun z : Int32 => some (Value.int z)) (by
            have q0 := own_if0 hk109 c88_154
            have q1 := own_if1 hk118 c92_156
            rw [own_forb, if_pos (by omega)]), N0, rfl⟩
  · skip
    have k165 : ∀ t, Steps p.tables e below (s₁.setTop (mkF m 109 #[.val (.int p0), .val (.int j1), .val (.int j2), .val (.int j3), .val (.int j4)] [(.int (1 : Int32))])) t → Steps p.tables e below (s₁.setTop (mkF m 0 #[.val (.int p0), .unset, .unset, .unset, .unset] [])) t := by
      intro t h
      refine k153 t ?_
      show Steps p.tables e below (s₁.setTop (mkF m 88 #[.val (.int p0), .val (.int j1), .val (.int j2), .val (.int j3), .val (.int j4)] [(.int j1)])) _
      refine XS.ifYes X0.here hx rfl (pc0 := 88) (pc' := 104) rfl (hb hby own_d3_88) rfl ((if0 _ _).trans (feq c88_154).2) (by decide) (by decide) ?_
      show Steps p.tables e below (s₁.setTop (mkF m 104 #[.val (.int p0), .val (.int j1), .val (.int j2), .val (.int j3), .val (.int j4)] [])) _
      refine XS.iconst X0.here hx rfl (hb hby own_d3_104) ?_
      show Steps p.tables e below (s₁.setTop (mkF m 105 #[.val (.int p0), .val (.int j1), .val (.int j2), .val (.int j3), .val (.int j4)] [(.int (1 : Int32))])) _
      refine XS.goto X0.here hx rfl (pc0 := 105) (pc' := 109) rfl (hb hby own_d3_105) (by decide) (by decide) ?_
      exact h
    obtain ⟨fs, hr, hrun, hended, hW, hsame⟩ := X0.leave (v := some (.int (1 : Int32))) (fun h => by rw [Bd.returns] at h; cases h)
    refine ⟨_, _, pre0 _ (k165 _ ?_), hrun, hended, _, _, rfl, ?_, ⟨_, rfl⟩, hW, hsame.mono (by decide) (by decide)⟩
    · exact retN X0 hx (t := .boolean) Bd.returns (by simp) (hb hby own_d3_109) hr
    · show Q_rm3 Z _ h0 n0 _ s₁.heap _
      rw [e0]
      exact ⟨congrArg (fun z : Int32 => some (Value.int z)) (by
          have q0 := own_if1 hk109 c88_154
          rw [own_forb, if_pos (by omega)]), N0, rfl⟩
def Q_rm0 (Z : State) (p0 : Int32) (p1 : Int32) (p2 : Int32) (h0 : Heap) (n0 : Nat) (v : Option Value) (h : Heap) (L : List Loc) : Prop := v = some (.int 1) ∧ Fr n0 L
set_option maxRecDepth 65536 in
set_option maxHeartbeats 40000000 in
theorem rm0 (l : Launch) (Z : State) (a0 : Array Value) (hw : ∀ d ∈ tables_1, d.before a0 Z = true) (ws : List Jvm.Cond) (p0 : Int32) (p1 : Int32) (p2 : Int32) (h0 : Heap) (n0 : Nat) (Z0 : n0 ≤ h0.size) :
    MetFree l x (head1 (Jvm.Cond.code x code maxLocals ret :: ws) room_1) (fun a U => a = #[(.int p0), (.int p1), (.int p2)] ∧ Z.Warmed39 U.vm ∧ U.heap = h0) (fun _ _ _ _ _ => True) (fun _ U o U' => ∃ v L, o = .returned v ∧ Q_rm0 Z p0 p1 p2 h0 n0 v U'.heap L ∧ FrameEnd U o U' L 1 16) := by
  refine MetFree.of_bodySF (plainFor_of_name own_pn_0) hisR ?_
  intro p e s m args below meth c s₁ Bd hml0 hP hK
  obtain ⟨rfl, hZ, hh⟩ := hP
  have hx := Bd.exec
  have hby := Bd.bytes
  have hml : c.maxLocals = 4 := hml0
  have hown : s.vm.findClass "com/example/redwing/redwing/core/XmlCheckIsXmlCharacterPinLaw" = some m.cls := findClass_of_methodNamed Bd.named
  have hnm := (name_of_methodNamed Bd.named Bd.method).1
  have X0 : Stand p l e room_1 s m #[(.int p0), (.int p1), (.int p2)] below meth c s₁ [] 0 0 := Stand.of_body Bd
  have e0 : s₁.heap = h0 := by rw [← hh, Bd.state]; rfl
  have N0 := Fr.nil n0
  have K0 : Keep h0 h0 [] := Keep.refl h0 _
  have pre0 : ∀ t, Steps p.tables e below (s₁.setTop (mkF m 0 #[.val (.int p0), .val (.int p1), .val (.int p2), .unset] [])) t → Steps p.tables e below (s₁.setTop (entryFrame m #[(.int p0), (.int p1), (.int p2)] maxLocals)) t := fun t k => castTop (own_ef_3 m p0 p1 p2) k
  obtain ⟨_, _, ⟨T166, L166, k166, n166⟩, -, X166, ⟨Lc166, hQ166, l166, y166, z166⟩, st166⟩ := Jvm.LawKit.callS X0 hx (y := (⟨"com/example/redwing/redwing/core/XmlCheckIsXmlCharacterPinLaw", "pick", "(III)I"⟩ : MethodName)) hown (mvT hZ (hw _ (List.mem_of_getElem? (i := 0) rfl))) (mvT hZ (hw _ (List.mem_of_getElem? (i := 1) rfl))) (mvT hZ (hw _ (List.mem_of_getElem? (i := 2) rfl))) (mvT hZ (hw _ (List.mem_of_getElem? (i := 3) rfl))) (by decide) (backOf (W := 0) (rm1 l Z a0 hw [] p0 p1 p2  h0 n0 Z0 ) hZ (hw _ (List.mem_of_getElem? (i := 3) rfl)) (hw _ (List.mem_of_getElem? (i := 2) rfl)) (by decide) (by decide)) (g := (mkF m 3 #[.val (.int p0), .val (.int p1), .val (.int p2), .unset] [(.int p2), (.int p1), (.int p0)])) rfl (by rw [hml]; rfl) (argsL := [(.int p0), (.int p1), (.int p2)]) (rest := []) (lenOf own_pd_0 rfl) rfl (by show 2 * 0 + _ ≤ _; exact Nat.le_of_eq rfl) (hb hby at_3) (fun _ _ => ⟨rfl, e0, (by decide : 0 + 1 ≤ _), (by decide : 0 + 16 ≤ _)⟩)
  dsimp only [Pt.U, Pt.locs, Pt.cells, Pt.slots] at X166 l166 y166 z166 st166 hQ166
  subst l166 y166 z166
  obtain ⟨z166, rfl, Nq166, Kq166⟩ := hQ166
  have N166 := Fr.app N0 Nq166
  have Z167 : n0 ≤ T166.heap.size := Nat.le_trans Z0 Kq166.1
  have K168 := K0.trans Kq166 all0
  obtain ⟨_, _, ⟨T169, L169, k169, n169⟩, -, X169, ⟨Lc169, hQ169, l169, y169, z169⟩, st169⟩ := Jvm.LawKit.callS X166 hx (y := (⟨"com/example/redwing/redwing/core/XmlCheck", "isXmlCharacter", "(I)Z"⟩ : MethodName)) hown (mvT hZ (hw _ (List.mem_of_getElem? (i := 16) rfl))) (mvT hZ (hw _ (List.mem_of_getElem? (i := 17) rfl))) (mvT hZ (hw _ (List.mem_of_getElem? (i := 18) rfl))) (mvT hZ (hw _ (List.mem_of_getElem? (i := 19) rfl))) (by decide) (backOf (W := 0) (rm2 l Z a0 hw [] z166  T166.heap n0 Z167 ) hZ (hw _ (List.mem_of_getElem? (i := 19) rfl)) (hw _ (List.mem_of_getElem? (i := 18) rfl)) (by decide) (by decide)) (g := (mkF m 8 #[.val (.int p0), .val (.int p1), .val (.int p2), .val (.int z166)] [(.int z166)])) rfl (by rw [hml]; rfl) (argsL := [(.int z166)]) (rest := []) (lenOf own_pd_1 rfl) rfl (by show 2 * 0 + _ ≤ _; exact Nat.le_of_eq rfl) (hb hby at_8) (fun _ _ => ⟨rfl, rfl, (by decide : 1 + 0 ≤ _), (by decide : 16 + 0 ≤ _)⟩)
  dsimp only [Pt.U, Pt.locs, Pt.cells, Pt.slots] at X169 l169 y169 z169 st169 hQ169
  subst l169 y169 z169
  obtain ⟨rfl, Nq169, eq169⟩ := hQ169
  have N169 := Fr.app N166 Nq169
  obtain ⟨_, _, ⟨T170, L170, k170, n170⟩, -, X170, ⟨Lc170, hQ170, l170, y170, z170⟩, st170⟩ := Jvm.LawKit.callS X169 hx (y := (⟨"com/example/redwing/redwing/core/XmlCheckIsXmlCharacterPinLaw", "forbidden", "(I)Z"⟩ : MethodName)) hown (mvT hZ (hw _ (List.mem_of_getElem? (i := 22) rfl))) (mvT hZ (hw _ (List.mem_of_getElem? (i := 23) rfl))) (mvT hZ (hw _ (List.mem_of_getElem? (i := 2) rfl))) (mvT hZ (hw _ (List.mem_of_getElem? (i := 24) rfl))) (by decide) (backOf (W := 1) (rm3 l Z a0 hw [] z166  T166.heap n0 Z167 ) hZ (hw _ (List.mem_of_getElem? (i := 24) rfl)) (hw _ (List.mem_of_getElem? (i := 2) rfl)) (by decide) (by decide)) (g := (mkF m 12 #[.val (.int p0), .val (.int p1), .val (.int p2), .val (.int z166)] [(.int z166), (.int (own_xml z166))])) rfl (by rw [hml]; rfl) (argsL := [(.int z166)]) (rest := [(.int (own_xml z166))]) (lenOf own_pd_1 rfl) rfl (by show 2 * 0 + _ ≤ _; exact Nat.le_of_eq rfl) (hb hby at_12) (fun _ _ => ⟨rfl, eq169, (by decide : 1 + 0 ≤ _), (by decide : 16 + 0 ≤ _)⟩)
  dsimp only [Pt.U, Pt.locs, Pt.cells, Pt.slots] at X170 l170 y170 z170 st170 hQ170
  subst l170 y170 z170
  obtain ⟨rfl, Nq170, eq170⟩ := hQ170
  have N170 := Fr.app N169 Nq170
  have k171 : ∀ t, Steps p.tables e below (T170.setTop (mkF m 15 #[.val (.int p0), .val (.int p1), .val (.int p2), .val (.int z166)] [(.int (own_forb z166)), (.int (own_xml z166))])) t → Steps p.tables e below (s₁.setTop (mkF m 0 #[.val (.int p0), .val (.int p1), .val (.int p2), .unset] [])) t := by
    intro t h
    show Steps p.tables e below (s₁.setTop (mkF m 0 #[.val (.int p0), .val (.int p1), .val (.int p2), .unset] [])) _
    refine XS.iloadN X0.here hx rfl (hb hby at_0) rfl ?_
    show Steps p.tables e below (s₁.setTop (mkF m 1 #[.val (.int p0), .val (.int p1), .val (.int p2), .unset] [(.int p0)])) _
    refine XS.iloadN X0.here hx rfl (hb hby at_1) rfl ?_
    show Steps p.tables e below (s₁.setTop (mkF m 2 #[.val (.int p0), .val (.int p1), .val (.int p2), .unset] [(.int p1), (.int p0)])) _
    refine XS.iloadN X0.here hx rfl (hb hby at_2) rfl ?_
    show Steps p.tables e below (s₁.setTop (mkF m 3 #[.val (.int p0), .val (.int p1), .val (.int p2), .unset] [(.int p2), (.int p1), (.int p0)])) _
    refine st166 _ ?_
    show Steps p.tables e below (T166.setTop (mkF m 6 #[.val (.int p0), .val (.int p1), .val (.int p2), .unset] [(.int z166)])) _
    refine XS.istoreN X166.here hx rfl (hb hby at_6) rfl (l' := #[.val (.int p0), .val (.int p1), .val (.int p2), .val (.int z166)]) rfl ?_
    show Steps p.tables e below (T166.setTop (mkF m 7 #[.val (.int p0), .val (.int p1), .val (.int p2), .val (.int z166)] [])) _
    refine XS.iloadN X166.here hx rfl (hb hby at_7) rfl ?_
    show Steps p.tables e below (T166.setTop (mkF m 8 #[.val (.int p0), .val (.int p1), .val (.int p2), .val (.int z166)] [(.int z166)])) _
    refine st169 _ ?_
    show Steps p.tables e below (T169.setTop (mkF m 11 #[.val (.int p0), .val (.int p1), .val (.int p2), .val (.int z166)] [(.int (own_xml z166))])) _
    refine XS.iloadN X169.here hx rfl (hb hby at_11) rfl ?_
    show Steps p.tables e below (T169.setTop (mkF m 12 #[.val (.int p0), .val (.int p1), .val (.int p2), .val (.int z166)] [(.int z166), (.int (own_xml z166))])) _
    refine st170 _ ?_
    exact h
  by_cases c15_172 : (own_forb z166) = (0 : Int32)
  · skip
    have k173 : ∀ t, Steps p.tables e below (T170.setTop (mkF m 23 #[.val (.int p0), .val (.int p1), .val (.int p2), .val (.int z166)] [(.int (1 : Int32)), (.int (own_xml z166))])) t → Steps p.tables e below (s₁.setTop (mkF m 0 #[.val (.int p0), .val (.int p1), .val (.int p2), .unset] [])) t := by
      intro t h
      refine k171 t ?_
      show Steps p.tables e below (T170.setTop (mkF m 15 #[.val (.int p0), .val (.int p1), .val (.int p2), .val (.int z166)] [(.int (own_forb z166)), (.int (own_xml z166))])) _
      refine XS.ifNo X170.here hx rfl (hb hby at_15) rfl ((if0 _ _).trans (teq c15_172).2) ?_
      show Steps p.tables e below (T170.setTop (mkF m 18 #[.val (.int p0), .val (.int p1), .val (.int p2), .val (.int z166)] [(.int (own_xml z166))])) _
      refine XS.iconst X170.here hx rfl (hb hby at_18) ?_
      show Steps p.tables e below (T170.setTop (mkF m 19 #[.val (.int p0), .val (.int p1), .val (.int p2), .val (.int z166)] [(.int (1 : Int32)), (.int (own_xml z166))])) _
      refine XS.goto X170.here hx rfl (pc0 := 19) (pc' := 23) rfl (hb hby at_19) (by decide) (by decide) ?_
      exact h
    have b23_174 : (own_xml z166) = (1 : Int32) := (own_law _).1 c15_172
    have k175 : ∀ t, Steps p.tables e below (T170.setTop (mkF m 31 #[.val (.int p0), .val (.int p1), .val (.int p2), .val (.int z166)] [(.int (1 : Int32))])) t → Steps p.tables e below (s₁.setTop (mkF m 0 #[.val (.int p0), .val (.int p1), .val (.int p2), .unset] [])) t := by
      intro t h
      refine k173 t ?_
      show Steps p.tables e below (T170.setTop (mkF m 23 #[.val (.int p0), .val (.int p1), .val (.int p2), .val (.int z166)] [(.int (1 : Int32)), (.int (own_xml z166))])) _
      refine XS.icmpNo X170.here hx rfl (hb hby at_23) rfl (teq b23_174).2 ?_
      show Steps p.tables e below (T170.setTop (mkF m 26 #[.val (.int p0), .val (.int p1), .val (.int p2), .val (.int z166)] [])) _
      refine XS.iconst X170.here hx rfl (hb hby at_26) ?_
      show Steps p.tables e below (T170.setTop (mkF m 27 #[.val (.int p0), .val (.int p1), .val (.int p2), .val (.int z166)] [(.int (1 : Int32))])) _
      refine XS.goto X170.here hx rfl (pc0 := 27) (pc' := 31) rfl (hb hby at_27) (by decide) (by decide) ?_
      exact h
    obtain ⟨fs, hr, hrun, hended, hW, hsame⟩ := X170.leave (v := some (.int (1 : Int32))) (fun h => by rw [Bd.returns] at h; cases h)
    refine ⟨_, _, pre0 _ (k175 _ ?_), hrun, hended, _, _, rfl, ?_, ⟨_, rfl⟩, hW, hsame.mono (by decide) (by decide)⟩
    · exact retN X170 hx (t := .boolean) Bd.returns (by simp) (hb hby at_31) hr
    · show Q_rm0 Z _ _ _ h0 n0 _ T170.heap _
      rw [eq170]
      exact ⟨rfl, N170⟩
  · skip
    have k176 : ∀ t, Steps p.tables e below (T170.setTop (mkF m 23 #[.val (.int p0), .val (.int p1), .val (.int p2), .val (.int z166)] [(.int (0 : Int32)), (.int (own_xml z166))])) t → Steps p.tables e below (s₁.setTop (mkF m 0 #[.val (.int p0), .val (.int p1), .val (.int p2), .unset] [])) t := by
      intro t h
      refine k171 t ?_
      show Steps p.tables e below (T170.setTop (mkF m 15 #[.val (.int p0), .val (.int p1), .val (.int p2), .val (.int z166)] [(.int (own_forb z166)), (.int (own_xml z166))])) _
      refine XS.ifYes X170.here hx rfl (pc0 := 15) (pc' := 22) rfl (hb hby at_15) rfl ((if0 _ _).trans (feq c15_172).2) (by decide) (by decide) ?_
      show Steps p.tables e below (T170.setTop (mkF m 22 #[.val (.int p0), .val (.int p1), .val (.int p2), .val (.int z166)] [(.int (own_xml z166))])) _
      refine XS.iconst X170.here hx rfl (hb hby at_22) ?_
      exact h
    have b23_177 : (own_xml z166) = (0 : Int32) := (own_law _).2 c15_172
    have k178 : ∀ t, Steps p.tables e below (T170.setTop (mkF m 31 #[.val (.int p0), .val (.int p1), .val (.int p2), .val (.int z166)] [(.int (1 : Int32))])) t → Steps p.tables e below (s₁.setTop (mkF m 0 #[.val (.int p0), .val (.int p1), .val (.int p2), .unset] [])) t := by
      intro t h
      refine k176 t ?_
      show Steps p.tables e below (T170.setTop (mkF m 23 #[.val (.int p0), .val (.int p1), .val (.int p2), .val (.int z166)] [(.int (0 : Int32)), (.int (own_xml z166))])) _
      refine XS.icmpNo X170.here hx rfl (hb hby at_23) rfl (teq b23_177).2 ?_
      show Steps p.tables e below (T170.setTop (mkF m 26 #[.val (.int p0), .val (.int p1), .val (.int p2), .val (.int z166)] [])) _
      refine XS.iconst X170.here hx rfl (hb hby at_26) ?_
      show Steps p.tables e below (T170.setTop (mkF m 27 #[.val (.int p0), .val (.int p1), .val (.int p2), .val (.int z166)] [(.int (1 : Int32))])) _
      refine XS.goto X170.here hx rfl (pc0 := 27) (pc' := 31) rfl (hb hby at_27) (by decide) (by decide) ?_
      exact h
    obtain ⟨fs, hr, hrun, hended, hW, hsame⟩ := X170.leave (v := some (.int (1 : Int32))) (fun h => by rw [Bd.returns] at h; cases h)
    refine ⟨_, _, pre0 _ (k178 _ ?_), hrun, hended, _, _, rfl, ?_, ⟨_, rfl⟩, hW, hsame.mono (by decide) (by decide)⟩
    · exact retN X170 hx (t := .boolean) Bd.returns (by simp) (hb hby at_31) hr
    · show Q_rm0 Z _ _ _ h0 n0 _ T170.heap _
      rw [eq170]
      exact ⟨rfl, N170⟩
set_option maxRecDepth 65536 in
set_option maxHeartbeats 40000000 in
theorem comes_1 {Post : Tables → Env → Array Value → State → Outcome → State → Prop} (hpost : ∀ tb e args s v u, (limb_1_1.after args s (.returned v) u = true ∧ limb_1_2.after args s (.returned v) u = true ∧ True) → FrameEnd s (.returned v) u (Jvm.fieldLocs frame_1_writes args s ++ Jvm.arrayLocs frame_1_arrays args s ++ Jvm.staticLocs frame_1_statics s) 16 128 → Post tb e args s (.returned v) u) :
    ArmFor flags0 classFile x code maxLocals ret World_1 tables_1 room_1 Calls_1 rest_1 Pre_1 Post := by
  intro l hfl _ _ p e ha hc hk s m args below hf hA hF happ hP
  obtain ⟨hcalls, hrest, hpre⟩ := hP
  obtain ⟨-, -, -, hnamed, -, -, -, hat⟩ := (Spec.applies_iff hf).mp happ
  obtain ⟨hg, hn⟩ := and_e (Cond.before_iff.mp (show (Jvm.Cond.and given_1 narrow_1).before args s = true from hpre))
  obtain ⟨g1, g2⟩ := and_e hg
  obtain ⟨g3, g4⟩ := and_e g2
  obtain ⟨g5, g6⟩ := and_e g4
  obtain ⟨w0, w1, w2, rfl⟩ : ∃ w0 w1 w2 : Value, args = #[w0, w1, w2] := by
    have hs : args.size = 3 := by simpa [Cond.value, given_1] using g1
    obtain ⟨L⟩ := args
    match L, hs with
    | [w0, w1, w2], _ => exact ⟨w0, w1, w2, rfl⟩
  have hw := fun d (hd : d ∈ tables_1) => atoms_spec (ws := Jvm.Cond.code x code maxLocals ret :: tables_1) hat d (List.mem_cons_of_mem _ hd)
  have hfit : Fit s := fun {y c} hc i hi => by
    obtain ⟨ha, rfl⟩ := Array.getElem?_eq_some_iff.mp hc
    have q := List.all_eq_true.mp ((Array.all_eq_true_iff_forall_mem.mp hF) _ (Array.getElem_mem ha)) i (List.mem_range.mpr hi)
    simpa [Array.getElem?_eq_getElem hi] using q
  obtain ⟨i0, ei0⟩ := is_v g3
  obtain rfl : w0 = (.int i0) := Option.some.inj ei0
  obtain ⟨i1, ei1⟩ := is_v g5
  obtain rfl : w1 = (.int i1) := Option.some.inj ei1
  obtain ⟨i2, ei2⟩ := is_v g6
  obtain rfl : w2 = (.int i2) := Option.some.inj ei2
  obtain ⟨n, o, h1, h2, h3, _, L, rfl, ⟨rfl, N⟩, hq⟩ := rm0 l s _ hw tables_1 i0 i1 i2  s.heap s.heap.size (Nat.le_refl _)  p e ha hc hk s m _ below hf ((Spec.applies_iff_loose hf).mp happ).1 ⟨rfl, State.Warmed39.refl s, rfl⟩ trivial
  refine ⟨n, _, h1, h2, h3, hpost _ _ _ _ _ _ ⟨Cond.after_iff.mpr rfl, Cond.after_iff.mpr (eq_i res_at (Term.int_eval (1)) rfl), trivial⟩ ⟨hq.1, hq.2.1, (hq.2.2.sift fun y hy => Or.inr (N y hy)).mono (by decide) (by decide)⟩⟩
theorem main_1_1 : Claimed_1_1 := comes_1 fun _ _ _ _ _ _ h hF => ⟨h.1, hF⟩
theorem main_1_2 : Claimed_1_2 := comes_1 fun _ _ _ _ _ _ h hF => ⟨h.2.1, hF⟩
end Jvm.Pilot.@@N@@
namespace Jvm.Pilot.@@N@@
open Jvm Jvm.ClassFile Sem Op Lib Jvm.Free Jvm.Stand Jvm.Pilot.@@N@@.Jvm.D
/-! MADE BY PROGRAM (witnessworld.py) out of the Statement's table words and the real class files: 9 classes; the members and pool entries that the words name. The judged class is class 1, her method 3. -/
namespace start1
open Jvm.ClassFile
def u (s : String) : CpInfo := .utf8 (stringToUtf16 s)
/-- a pool by its gaps: so many unusable entries, then the entry; so many at the end -/
def gap : Nat → List CpInfo → List CpInfo
  | 0, r => r
  | n + 1, r => .unusable :: gap n r
def poolList (es : List (Nat × CpInfo)) (last : Nat) : List CpInfo := es.foldr (fun e r => gap e.1 (e.2 :: r)) (gap last [])
def pool (es : List (Nat × CpInfo)) (last : Nat) : Array CpInfo := ⟨poolList es last⟩
def fileOf (pool : Array CpInfo) (this : Nat) (attrs : Array Attribute := #[]) (ms : Array MethodInfo := #[]) (fl : Nat := 33) (sup : Nat := 0) (ifs : Array Nat := #[]) (fds : Array FieldInfo := #[]) : ClassFile where
  minorVersion := 0
  majorVersion := 65
  constantPool := pool
  accessFlags := fl
  thisClass := this
  superClass := sup
  interfaces := ifs
  fields := fds
  methods := ms
  attributes := attrs
def plain (name : String) (sup : Option ClassId) : Class where
  name := name
  kind := .ordinary
  loader := none
  accessFlags := 33
  super := sup
  interfaces := #[]
  cf := none
  fields := #[]
  methods := #[]
  instanceTypes := #[]
  staticTypes := #[]
  resolved := #[]
  callSites := []
  init := .initialized
  statics := none
  mirror := none

def pool0 : Array CpInfo := pool [(5, u "<init>"), (0, u "()V"), (1, .class_ 10), (1, u "java/lang/Object")] 113

def k0m0 : Method := { name := "<init>", desc := "()V", sig := { parameters := [], returnType := none }, accessFlags := 1, code := none }
/-- java/lang/Object -/
def k0 : Class := { plain "java/lang/Object" none with
  accessFlags := 33
  interfaces := #[]
  cf := some (fileOf pool0 8 #[] #[{ accessFlags := 1, nameIndex := 5, descriptorIndex := 6, attributes := #[] }] 33 0 #[] #[])
  fields := #[]
  methods := #[k0m0]
  instanceTypes := #[]
  staticTypes := #[]
  resolved := Array.replicate 124 none
  statics := none }

def pool1 : Array CpInfo := pool [(2, .class_ 4), (1, u "java/lang/Object"), (0, u "<init>"), (0, u "()V"), (0, .integer 55295), (0, .integer 55296), (0, .integer 57343), (0, .integer 57344), (0, .integer 65533), (0, .integer 65534), (0, .integer 65536), (0, .integer 1114111), (0, .integer 1114112), (2, .integer 2147483648), (0, .integer 2147483647), (0, .integer 65535), (0, .methodref 22 23), (0, .class_ 24), (0, .nameAndType 25 26), (0, u "com/example/redwing/redwing/core/XmlCheckIsXmlCharacterPinLaw"), (0, u "pick"), (0, u "(III)I"), (0, .methodref 28 29), (0, .class_ 30), (0, .nameAndType 31 32), (0, u "com/example/redwing/redwing/core/XmlCheck"), (0, u "isXmlCharacter"), (0, u "(I)Z"), (0, .methodref 22 34), (0, .nameAndType 35 32), (0, u "forbidden"), (3, u "law"), (0, u "(III)Z")] 2

def k1m0 : Method := { name := "<init>", desc := "()V", sig := { parameters := [], returnType := none }, accessFlags := 1, code := none }
def k1c1 : Code := { maxStack := 4, maxLocals := 4, code := method_2_code, exceptionTable := #[], attributes := #[] }
def k1m1 : Method := { name := "pick", desc := "(III)I", sig := { parameters := [.int, .int, .int], returnType := some .int }, accessFlags := 10, code := some k1c1 }
def k1c2 : Code := { maxStack := 2, maxLocals := 5, code := method_3_code, exceptionTable := #[], attributes := #[] }
def k1m2 : Method := { name := "forbidden", desc := "(I)Z", sig := { parameters := [.int], returnType := some .boolean }, accessFlags := 10, code := some k1c2 }
def k1c3 : Code := { maxStack := 3, maxLocals := 4, code := code, exceptionTable := #[], attributes := #[] }
def k1m3 : Method := { name := "law", desc := "(III)Z", sig := { parameters := [.int, .int, .int], returnType := some .boolean }, accessFlags := 9, code := some k1c3 }
/-- com/example/redwing/redwing/core/XmlCheckIsXmlCharacterPinLaw -/
def k1 : Class := { plain "com/example/redwing/redwing/core/XmlCheckIsXmlCharacterPinLaw" (some 0) with
  accessFlags := 49
  interfaces := #[]
  cf := some (fileOf pool1 22 #[] #[{ accessFlags := 1, nameIndex := 5, descriptorIndex := 6, attributes := #[] }, { accessFlags := 10, nameIndex := 25, descriptorIndex := 26, attributes := #[] }, { accessFlags := 10, nameIndex := 35, descriptorIndex := 32, attributes := #[] }, { accessFlags := 9, nameIndex := 39, descriptorIndex := 40, attributes := #[] }] 49 2 #[] #[])
  fields := #[]
  methods := #[k1m0, k1m1, k1m2, k1m3]
  instanceTypes := #[]
  staticTypes := #[]
  resolved := Array.replicate 43 none
  statics := none }

def pool2 : Array CpInfo := pool [(2, .class_ 4), (1, u "java/lang/Object"), (2, .class_ 8), (0, u "com/example/redwing/redwing/core/XmlCheck$Parsers"), (7, .class_ 18), (1, u "com/example/redwing/redwing/core/XmlCheck"), (7, u "plain"), (0, u "Lcom/example/redwing/redwing/core/XmlCheck$Parsers;"), (2, u "schemas"), (0, u "Ljava/util/Map;"), (39, u "models"), (2, u "guess"), (0, u "Lcom/example/redwing/redwing/core/XmlCheck$SchemaFile;"), (40, .class_ 118), (1, u "com/example/redwing/redwing/core/XmlCheck$SchemaFile"), (76, .class_ 197), (1, u "com/example/redwing/redwing/core/XmlCheck$Fault$Kind"), (3, .class_ 203), (1, u "com/example/redwing/redwing/core/XmlCheck$Fault"), (17, .class_ 222), (0, u "com/example/redwing/redwing/core/XmlCheck$Root"), (10, .class_ 234), (0, u "com/example/redwing/redwing/core/XmlCheck$RootFound"), (2, u "Ljava/lang/String;"), (8, .class_ 247), (0, u "com/example/redwing/redwing/core/XmlCheck$FirstError"), (11, .integer 55295), (0, .integer 57344), (0, .integer 65533), (0, .integer 65536), (0, .integer 1114111), (0, .class_ 265), (0, u "com/example/redwing/redwing/core/XmlCheck$TargetNamespace"), (136, .class_ 403), (0, u "com/example/redwing/redwing/core/XmlCheck$1"), (20, u "DISALLOW_DOCTYPE"), (1, u "NORMALIZED_VALUE"), (0, u "AUGMENT_PSVI"), (0, u "RESET_SYMBOL_TABLE"), (0, u "FILES_ONLY"), (0, u "KEPT_SIZE"), (0, u "I"), (1, u "KEPT_DOCUMENTS"), (1, u "NAMED_SIZE"), (0, u "J"), (23, u "isXmlCharacter"), (0, u "(I)Z"), (13, .class_ 476), (0, u "com/example/redwing/redwing/core/XmlCheck$Event"), (0, .class_ 478), (0, u "com/example/redwing/redwing/core/XmlCheck$Kept")] 65

def k2c0 : Code := { maxStack := 2, maxLocals := 1, code := prog_51_method_10_code, exceptionTable := #[], attributes := #[] }
def k2m0 : Method := { name := "isXmlCharacter", desc := "(I)Z", sig := { parameters := [.int], returnType := some .boolean }, accessFlags := 9, code := some k2c0 }
/-- com/example/redwing/redwing/core/XmlCheck -/
def k2 : Class := { plain "com/example/redwing/redwing/core/XmlCheck" (some 0) with
  accessFlags := 49
  interfaces := #[]
  cf := some (fileOf pool2 16 #[.nestMembers #[264, 246, 233, 475, 221, 477, 7, 116, 201, 195, 402]] #[{ accessFlags := 9, nameIndex := 460, descriptorIndex := 461, attributes := #[] }] 49 2 #[] #[{ accessFlags := 24, nameIndex := 424, descriptorIndex := 237, attributes := #[] }, { accessFlags := 26, nameIndex := 426, descriptorIndex := 237, attributes := #[] }, { accessFlags := 26, nameIndex := 427, descriptorIndex := 237, attributes := #[] }, { accessFlags := 26, nameIndex := 428, descriptorIndex := 237, attributes := #[] }, { accessFlags := 26, nameIndex := 429, descriptorIndex := 237, attributes := #[] }, { accessFlags := 26, nameIndex := 430, descriptorIndex := 431, attributes := #[] }, { accessFlags := 26, nameIndex := 433, descriptorIndex := 431, attributes := #[] }, { accessFlags := 26, nameIndex := 435, descriptorIndex := 436, attributes := #[] }, { accessFlags := 18, nameIndex := 30, descriptorIndex := 31, attributes := #[] }, { accessFlags := 18, nameIndex := 71, descriptorIndex := 31, attributes := #[] }, { accessFlags := 18, nameIndex := 26, descriptorIndex := 27, attributes := #[] }, { accessFlags := 66, nameIndex := 74, descriptorIndex := 75, attributes := #[] }])
  fields := #[{ name := "DISALLOW_DOCTYPE", type := (.object "java/lang/String"), accessFlags := 24, slot := 0, constantValue := 0 }, { name := "NORMALIZED_VALUE", type := (.object "java/lang/String"), accessFlags := 26, slot := 1, constantValue := 0 }, { name := "AUGMENT_PSVI", type := (.object "java/lang/String"), accessFlags := 26, slot := 2, constantValue := 0 }, { name := "RESET_SYMBOL_TABLE", type := (.object "java/lang/String"), accessFlags := 26, slot := 3, constantValue := 0 }, { name := "FILES_ONLY", type := (.object "java/lang/String"), accessFlags := 26, slot := 4, constantValue := 0 }, { name := "KEPT_SIZE", type := .int, accessFlags := 26, slot := 5, constantValue := 0 }, { name := "KEPT_DOCUMENTS", type := .int, accessFlags := 26, slot := 6, constantValue := 0 }, { name := "NAMED_SIZE", type := .long, accessFlags := 26, slot := 7, constantValue := 0 }, { name := "schemas", type := (.object "java/util/Map"), accessFlags := 18, slot := 0, constantValue := 0 }, { name := "models", type := (.object "java/util/Map"), accessFlags := 18, slot := 1, constantValue := 0 }, { name := "plain", type := (.object "com/example/redwing/redwing/core/XmlCheck$Parsers"), accessFlags := 18, slot := 2, constantValue := 0 }, { name := "guess", type := (.object "com/example/redwing/redwing/core/XmlCheck$SchemaFile"), accessFlags := 66, slot := 3, constantValue := 0 }]
  methods := #[k2m0]
  instanceTypes := #[(.object "java/util/Map"), (.object "java/util/Map"), (.object "com/example/redwing/redwing/core/XmlCheck$Parsers"), (.object "com/example/redwing/redwing/core/XmlCheck$SchemaFile")]
  staticTypes := #[(.object "java/lang/String"), (.object "java/lang/String"), (.object "java/lang/String"), (.object "java/lang/String"), (.object "java/lang/String"), .int, .int, .long]
  resolved := Array.replicate 544 none
  statics := none }

def pool3 : Array CpInfo := pool [(1, u "java/lang/Cloneable"), (0, .class_ 1), (0, u "java/lang/Object"), (0, .class_ 3)] 3

/-- java/lang/Cloneable -/
def k3 : Class := { plain "java/lang/Cloneable" (some 0) with
  accessFlags := 1537
  interfaces := #[]
  cf := some (fileOf pool3 2 #[] #[] 1537 4 #[] #[])
  fields := #[]
  methods := #[]
  instanceTypes := #[]
  staticTypes := #[]
  resolved := Array.replicate 8 none
  statics := none }

def pool4 : Array CpInfo := pool [(1, u "java/io/Serializable"), (0, .class_ 1), (0, u "java/lang/Object"), (0, .class_ 3)] 3

/-- java/io/Serializable -/
def k4 : Class := { plain "java/io/Serializable" (some 0) with
  accessFlags := 1537
  interfaces := #[]
  cf := some (fileOf pool4 2 #[] #[] 1537 4 #[] #[])
  fields := #[]
  methods := #[]
  instanceTypes := #[]
  staticTypes := #[]
  resolved := Array.replicate 8 none
  statics := none }

/-- the primitive byte -/
def k5 : Class := { plain "byte" none with kind := .primitive 'B', accessFlags := 0x411 }
/-- [B -/
def k6 : Class := { plain "[B" (some 0) with kind := .array 5 .byte, interfaces := #[3, 4], accessFlags := 1041 }

/-- the primitive int -/
def k7 : Class := { plain "int" none with kind := .primitive 'I', accessFlags := 0x411 }
/-- [I -/
def k8 : Class := { plain "[I" (some 0) with kind := .array 7 .int, interfaces := #[3, 4], accessFlags := 1041 }

def heap : Heap := #[]
def classes : Array Class := #[k0, k1, k2, k3, k4, k5, k6, k7, k8]
def interned : List (Array UInt16 × Addr) := []
def slotsUsed : Nat := 0
def theMethod : MethodId := ⟨1, 3⟩
def args0 : Array Value := #[.int 5, .int 1, .int 2]
def aboutOver (below : List Frame) : State where
  vm := { classes := classes, interned := interned.toArray }
  heap := heap
  slotsUsed := slotsUsed
  threads := #[{ frames := .invoking theMethod args0 :: below }]
def below0 : List Frame := [.native { method := ⟨0, 0⟩, args := #[] }]
def about1 : State := aboutOver below0
def p0 : Program := .bare "" "" ""
def e0 : Env := launch0.env 0 0 0
theorem w_frames : about1.frames = Frame.invoking theMethod args0 :: below0 := rfl
set_option maxRecDepth 65536 in
theorem w_args : argsFit about1.vm theMethod args0 = true := by decide +kernel
set_option maxRecDepth 65536 in
theorem w_heap : heapFits about1 = true := by decide +kernel
set_option maxRecDepth 65536 in
theorem w_runnable : about1.curStatus? = some .runnable := by decide +kernel
set_option maxRecDepth 65536 in
theorem w_alone : about1.alone = true := by decide +kernel
set_option maxRecDepth 65536 in
theorem w_named : about1.methodNamed? x = some theMethod := by decide +kernel
set_option maxRecDepth 65536 in
theorem w_hears : about1.hears theMethod below0 = true := by decide +kernel
set_option maxRecDepth 65536 in
theorem w_ripe : about1.ripe theMethod args0 below0 = true := by decide +kernel
theorem w_running : about1.status = .running := rfl
set_option maxRecDepth 65536 in
theorem w_room : about1.hasRoom e0.platform room_1 = true :=
  launch0.hasRoom_least _ room_1 (by decide +kernel) (by decide +kernel) (by decide +kernel) (by decide +kernel) (by decide +kernel) (by decide +kernel)
theorem allAtoms_all (ts : List Jvm.Cond) (a : Array Jvm.Value) (st : Jvm.State) : (allAtoms ts).before a st = ts.all (fun c => c.before a st) := by
  induction ts with
  | nil => rfl
  | cons c t ih =>
    show (Jvm.Cond.and c (allAtoms t)).before a st = _
    rw [Jvm.Cond.before_and, ih, List.all_cons]
def words1 : List Jvm.Cond := Jvm.Cond.code x code maxLocals ret :: tables_1
/-- a 'code' word, met by the world's own term for the bytes: nothing is compared byte by byte -/
theorem code_word {y : MethodName} {bytes : ByteArray} {mx : Nat} {rt : Option FieldType} {a : Array Value} {s : State} {m : MethodId} {meth : Method} {c : Code} (h1 : s.methodNamed? y = some m) (h2 : s.vm.method? m = some meth) (h3 : meth.code = some c) (h4 : c.code = bytes)
    (h5 : (c.maxLocals == mx && c.exceptionTable.isEmpty && decide (c.maxStack ≤ mostOperands) && decide (meth.sig.returnType = rt) && !meth.locks && decide (parseMethodDescriptor y.desc = some meth.sig)) = true) : (Jvm.Cond.code y bytes mx rt).before a s = true := by
  simp only [Bool.and_eq_true, beq_iff_eq, Bool.not_eq_true', decide_eq_true_eq] at h5
  obtain ⟨⟨⟨⟨⟨g1, g2⟩, g3⟩, g4⟩, g5⟩, g6⟩ := h5
  simp [Cond.before, Cond.holds, Cond.value, h1, h2, h3, h4, g1, g2, g3, g4, g5, g6]
def isCode : Jvm.Cond → Bool
  | .code _ _ _ _ => true
  | _ => false
theorem all_split {L : List Jvm.Cond} {P : Jvm.Cond → Bool} (h1 : L.all (fun c => isCode c || P c) = true) (h2 : ∀ c ∈ L.filter isCode, P c = true) : L.all P = true := by
  refine List.all_eq_true.mpr fun c hc => ?_
  have h := List.all_eq_true.mp h1 c hc
  rcases Bool.eq_false_or_eq_true (isCode c) with hi | hi
  · exact h2 c (List.mem_filter.mpr ⟨hc, hi⟩)
  · simpa [hi] using h
set_option maxRecDepth 65536 in
theorem w_c0 : (Jvm.Cond.code x code maxLocals ret).before args0 about1 = true := code_word (m := ⟨1, 3⟩) (meth := k1m3) (c := k1c3) (by decide +kernel) rfl rfl rfl (by decide +kernel)
set_option maxRecDepth 65536 in
theorem w_c1 : (Jvm.Cond.code ({ cls := "com/example/redwing/redwing/core/XmlCheckIsXmlCharacterPinLaw", name := "pick", desc := "(III)I" } : Jvm.MethodName) method_2_code (4 : Nat) (Option.some Jvm.ClassFile.FieldType.int)).before args0 about1 = true := code_word (m := ⟨1, 1⟩) (meth := k1m1) (c := k1c1) (by decide +kernel) rfl rfl rfl (by decide +kernel)
set_option maxRecDepth 65536 in
theorem w_c2 : (Jvm.Cond.code ({ cls := "com/example/redwing/redwing/core/XmlCheck", name := "isXmlCharacter", desc := "(I)Z" } : Jvm.MethodName) prog_51_method_10_code (1 : Nat) (Option.some Jvm.ClassFile.FieldType.boolean)).before args0 about1 = true := code_word (m := ⟨2, 0⟩) (meth := k2m0) (c := k2c0) (by decide +kernel) rfl rfl rfl (by decide +kernel)
set_option maxRecDepth 65536 in
theorem w_c3 : (Jvm.Cond.code ({ cls := "com/example/redwing/redwing/core/XmlCheckIsXmlCharacterPinLaw", name := "forbidden", desc := "(I)Z" } : Jvm.MethodName) method_3_code (5 : Nat) (Option.some Jvm.ClassFile.FieldType.boolean)).before args0 about1 = true := code_word (m := ⟨1, 2⟩) (meth := k1m2) (c := k1c2) (by decide +kernel) rfl rfl rfl (by decide +kernel)
def codes1 : List Jvm.Cond := [Jvm.Cond.code x code maxLocals ret, Jvm.Cond.code ({ cls := "com/example/redwing/redwing/core/XmlCheckIsXmlCharacterPinLaw", name := "pick", desc := "(III)I" } : Jvm.MethodName) method_2_code (4 : Nat) (Option.some Jvm.ClassFile.FieldType.int), Jvm.Cond.code ({ cls := "com/example/redwing/redwing/core/XmlCheck", name := "isXmlCharacter", desc := "(I)Z" } : Jvm.MethodName) prog_51_method_10_code (1 : Nat) (Option.some Jvm.ClassFile.FieldType.boolean), Jvm.Cond.code ({ cls := "com/example/redwing/redwing/core/XmlCheckIsXmlCharacterPinLaw", name := "forbidden", desc := "(I)Z" } : Jvm.MethodName) method_3_code (5 : Nat) (Option.some Jvm.ClassFile.FieldType.boolean)]
set_option maxRecDepth 65536 in
theorem codes_eq : words1.filter isCode = codes1 := rfl
theorem w_codes : ∀ c ∈ words1.filter isCode, c.before args0 about1 = true := by
  rw [codes_eq]
  intro c hc
  simp only [codes1, List.mem_cons, List.not_mem_nil, or_false] at hc
  rcases hc with rfl | rfl | rfl | rfl
  · exact w_c0
  · exact w_c1
  · exact w_c2
  · exact w_c3
set_option maxRecDepth 65536 in
theorem w_t1 : (words1.take 24).all (fun c => isCode c || c.before args0 about1) = true := by decide +kernel
set_option maxRecDepth 65536 in
theorem w_t2 : (words1.drop 24).all (fun c => isCode c || c.before args0 about1) = true := by decide +kernel
theorem w_tables : (allAtoms (Jvm.Cond.code x code maxLocals ret :: tables_1)).before args0 about1 = true := by
  rw [allAtoms_all]
  show words1.all (fun c => c.before args0 about1) = true
  refine all_split ?_ w_codes
  rw [← List.take_append_drop 24 words1, List.all_append, w_t1, w_t2]
  rfl
set_option maxRecDepth 65536 in
theorem w_case : (Jvm.Cond.and given_1 narrow_1).before args0 about1 = true := by decide +kernel
theorem w_applies : (headSpec (Jvm.Cond.code x code maxLocals ret :: tables_1) room_1).applies x e0.platform about1 = true :=
  (Spec.applies_iff w_frames).mpr ⟨w_running, w_runnable, w_alone, w_named, w_hears, w_ripe, w_room, w_tables⟩
theorem atStart : AtStart classFile x code maxLocals ret World_1 tables_1 room_1 Calls_1 rest_1 Pre_1 launch0 p0 e0 about1 theMethod args0 below0 :=
  ⟨lists_1, trivial, launch0.admits_env _ _ _, launch0.least_env, fairChoices_fair.cas, fairChoices_fair.clock, w_frames, w_args, w_heap, w_applies, trivial, trivial, w_case⟩
end start1
theorem witness_1 : WitnessClaimed_1 := ⟨start1.p0, start1.e0, start1.about1, start1.theMethod, start1.args0, start1.below0, start1.atStart⟩
end Jvm.Pilot.@@N@@
