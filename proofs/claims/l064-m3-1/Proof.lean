import JvmDerived
import JvmDerived.Pilot.@@N@@Statement
import JvmDerived.Pilot.@@N@@Code
set_option linter.unusedVariables false
set_option linter.unusedSimpArgs false
namespace Jvm.RoadKit
open Sem ClassFile Op Lib Jvm.Stand Jvm.Free Jvm.LawKit
section New
variable {p : Program} {l : Launch} {e : Env} {R : Room} {s : State} {m : MethodId} {args : Array Value} {below : List Frame} {meth : Method} {c : Code} {T : State} {locs : List Loc} {cells slots : Nat}
theorem retI (X : Stand p l e R s m args below meth c T locs cells slots) (hx : p.tables.exec = Jvm.exec) {pc : Nat} {Ls : Array Slot} {z : Int32} {rest : List Value} (hret : meth.sig.returnType = some .int) (hd : decode c.code pc = .ok (.ireturn, 1)) {fs : List Frame}
    (hl : ∀ (f : JFrame) (acts : List Action), f.method = m → f.locked = none → f.entered = [] → (doReturn e (T.setTop f) acts (some (.int z))).1 = T.setFrames fs) : Steps p.tables e below (T.setTop (mkF m pc Ls (.int z :: rest))) (T.setFrames fs) := by
  have hm' : T.vm.method? m = some meth := X.method'
  have hn : narrow .int (.int z) = .int z := rfl
  show Steps p.tables e below (T.setTop { method := m, pc := pc, locals := Ls, stack := _ :: rest, locked := none }) _
  jvm_step X.here [X.here.top, hx, hd, hm', hret, hn]
  first | (intro acts; rw [hl _ acts rfl rfl rfl]) | rw [hl _ _ rfl rfl rfl]
  exact Steps.refl _
end New
end Jvm.RoadKit
namespace Jvm.Pilot.@@N@@
open Jvm Jvm.ClassFile Sem Op Lib Jvm.Free Jvm.Stand Jvm.LawKit Jvm.RoadKit Bundle Jvm.Pilot.@@N@@.Jvm.D

theorem own_xor_nat (x : Nat) (h : x < 2 ^ 64) : x ^^^ 2 ^ 63 = (x + 2 ^ 63) % 2 ^ 64 := by
  apply Nat.eq_of_testBit_eq
  intro i
  rw [Nat.testBit_xor, Nat.testBit_two_pow, Nat.testBit_mod_two_pow, Nat.add_comm]
  by_cases hi : i < 63
  · rw [Nat.testBit_two_pow_add_gt hi]
    have a : decide (63 = i) = false := decide_eq_false (by omega)
    have b : decide (i < 64) = true := decide_eq_true (by omega)
    simp [a, b]
  · by_cases h63 : i = 63
    · subst h63
      rw [Nat.testBit_two_pow_add_eq]
      simp
    · have a : decide (63 = i) = false := decide_eq_false (by omega)
      have b : decide (i < 64) = false := decide_eq_false (by omega)
      have c : x.testBit i = false := Nat.testBit_lt_two_pow (Nat.lt_of_lt_of_le h (Nat.pow_le_pow_right (by decide) (by omega)))
      simp [a, b, c]
theorem own_xor (x : Int64) : x ^^^ (-9223372036854775808 : Int64) = x + (-9223372036854775808 : Int64) := by
  apply Int64.toBitVec_inj.mp
  rw [Int64.toBitVec_xor, Int64.toBitVec_add]
  apply BitVec.eq_of_toNat_eq
  rw [BitVec.toNat_xor, BitVec.toNat_add]
  have e : ((-9223372036854775808 : Int64) : Int64).toBitVec.toNat = 2 ^ 63 := by decide
  rw [e]
  exact own_xor_nat _ x.toBitVec.isLt
def own_cmp (x y : Int64) : Int32 := if lcmpW x y < 0 then -1 else if lcmpW x y = 0 then 0 else 1
def own_cu (x y : Int64) : Int32 := own_cmp (x + (-9223372036854775808 : Int64)) (y + (-9223372036854775808 : Int64))
def own_uo (x y : Int64) : Int32 := if lcmpW (x ^^^ (-9223372036854775808 : Int64)) (y ^^^ (-9223372036854775808 : Int64)) < 0 then -1 else if (0 : Int32) < lcmpW (x ^^^ (-9223372036854775808 : Int64)) (y ^^^ (-9223372036854775808 : Int64)) then 1 else 0
theorem own_same (x y : Int64) : own_uo x y = own_cu x y := by
  unfold own_uo own_cu own_cmp
  rw [own_xor, own_xor]
  generalize x + (-9223372036854775808 : Int64) = a
  generalize y + (-9223372036854775808 : Int64) = b
  by_cases h : lcmpW a b < 0
  · rw [if_pos h, if_pos h]
  · rw [if_neg h, if_neg h]
    by_cases g : lcmpW a b = 0
    · rw [if_pos g, g]; decide
    · rw [if_neg g, if_pos ?_]
      rw [lw_lt] at h
      rw [lw_eq] at g
      rw [lw_gt]
      rw [Int64.lt_iff_toInt_lt] at h ⊢
      rw [← Int64.toInt_inj] at g
      omega
theorem own_cmp0 (x y : Int64) : own_cmp x y = 0 ↔ x = y := by
  unfold own_cmp
  by_cases h : lcmpW x y < 0
  · rw [if_pos h]
    rw [lw_lt] at h
    constructor
    · intro q; exact absurd q (by decide)
    · intro q; rw [q, Int64.lt_iff_toInt_lt] at h; omega
  · rw [if_neg h]
    by_cases g : lcmpW x y = 0
    · rw [if_pos g]; rw [lw_eq] at g; exact ⟨fun _ => g, fun _ => rfl⟩
    · rw [if_neg g]; rw [lw_eq] at g; exact ⟨fun q => absurd q (by decide), fun q => absurd q g⟩
theorem own_cu0 (x y : Int64) : own_cu x y = 0 ↔ x = y := by
  unfold own_cu
  rw [own_cmp0]
  exact ⟨fun h => (Int64.add_left_inj _).mp h, fun h => by rw [h]⟩
def own_ck (a0 a1 a2 c0 c1 c2 : Int64) : Int32 := if own_cu a0 c0 = 0 then (if lcmpW a0 (0 : Int64) < (0 : Int32) then (if own_cu a1 c1 = 0 then own_cu a2 c2 else own_cu a1 c1) else own_cu a0 c0) else own_cu a0 c0

theorem own_ref1 {a0 a1 a2 c0 c1 c2 : Int64} (h : ¬ lcmpW a0 c0 = 0) : own_uo a0 c0 = own_ck a0 a1 a2 c0 c1 c2 := by
  rw [lw_eq] at h
  rw [own_same, own_ck, if_neg (fun q => h ((own_cu0 _ _).mp q))]
theorem own_ref0 {a0 a1 a2 c0 c1 c2 : Int64} (h : lcmpW a0 c0 = 0) (g : ¬ lcmpW a0 (0 : Int64) < 0) : (0 : Int32) = own_ck a0 a1 a2 c0 c1 c2 := by
  rw [lw_eq] at h
  rw [own_ck, if_pos ((own_cu0 _ _).mpr h), if_neg g, (own_cu0 _ _).mpr h]
theorem own_ref2 {a0 a1 a2 c0 c1 c2 : Int64} (h : lcmpW a0 c0 = 0) (g : lcmpW a0 (0 : Int64) < 0) (f : ¬ lcmpW a1 c1 = 0) : own_uo a1 c1 = own_ck a0 a1 a2 c0 c1 c2 := by
  rw [lw_eq] at h f
  rw [own_same, own_ck, if_pos ((own_cu0 _ _).mpr h), if_pos g, if_neg (fun q => f ((own_cu0 _ _).mp q))]
theorem own_ref3 {a0 a1 a2 c0 c1 c2 : Int64} (h : lcmpW a0 c0 = 0) (g : lcmpW a0 (0 : Int64) < 0) (f : lcmpW a1 c1 = 0) : own_uo a2 c2 = own_ck a0 a1 a2 c0 c1 c2 := by
  rw [lw_eq] at h f
  rw [own_same, own_ck, if_pos ((own_cu0 _ _).mpr h), if_pos g, if_pos ((own_cu0 _ _).mpr f)]

theorem own_d1_0 : decode prog_50_method_5_code 0 = .ok (.aload_n 0, 1) := by decide +kernel
theorem own_d1_1 : decode prog_50_method_5_code 1 = .ok (.iload_n 1, 1) := by decide +kernel
theorem own_d1_2 : decode prog_50_method_5_code 2 = .ok (.laload, 1) := by decide +kernel
theorem own_d1_3 : decode prog_50_method_5_code 3 = .ok (.aload_n 2, 1) := by decide +kernel
theorem own_d1_4 : decode prog_50_method_5_code 4 = .ok (.iload_n 3, 1) := by decide +kernel
theorem own_d1_5 : decode prog_50_method_5_code 5 = .ok (.laload, 1) := by decide +kernel
theorem own_d1_6 : decode prog_50_method_5_code 6 = .ok (.invokestatic 95, 3) := by decide +kernel
theorem own_d1_9 : decode prog_50_method_5_code 9 = .ok (.istore 4, 2) := by decide +kernel
theorem own_d1_11 : decode prog_50_method_5_code 11 = .ok (.iload 4, 2) := by decide +kernel
theorem own_d1_13 : decode prog_50_method_5_code 13 = .ok (.ifCond .ne 26, 3) := by decide +kernel
theorem own_d1_16 : decode prog_50_method_5_code 16 = .ok (.aload_n 0, 1) := by decide +kernel
theorem own_d1_17 : decode prog_50_method_5_code 17 = .ok (.iload_n 1, 1) := by decide +kernel
theorem own_d1_18 : decode prog_50_method_5_code 18 = .ok (.laload, 1) := by decide +kernel
theorem own_d1_19 : decode prog_50_method_5_code 19 = .ok (.lconst 0, 1) := by decide +kernel
theorem own_d1_20 : decode prog_50_method_5_code 20 = .ok (.lcmp, 1) := by decide +kernel
theorem own_d1_21 : decode prog_50_method_5_code 21 = .ok (.ifCond .ge 18, 3) := by decide +kernel
theorem own_d1_24 : decode prog_50_method_5_code 24 = .ok (.aload_n 0, 1) := by decide +kernel
theorem own_d1_25 : decode prog_50_method_5_code 25 = .ok (.iload_n 1, 1) := by decide +kernel
theorem own_d1_26 : decode prog_50_method_5_code 26 = .ok (.iconst 1, 1) := by decide +kernel
theorem own_d1_27 : decode prog_50_method_5_code 27 = .ok (.iadd, 1) := by decide +kernel
theorem own_d1_28 : decode prog_50_method_5_code 28 = .ok (.laload, 1) := by decide +kernel
theorem own_d1_29 : decode prog_50_method_5_code 29 = .ok (.aload_n 2, 1) := by decide +kernel
theorem own_d1_30 : decode prog_50_method_5_code 30 = .ok (.iload_n 3, 1) := by decide +kernel
theorem own_d1_31 : decode prog_50_method_5_code 31 = .ok (.iconst 1, 1) := by decide +kernel
theorem own_d1_32 : decode prog_50_method_5_code 32 = .ok (.iadd, 1) := by decide +kernel
theorem own_d1_33 : decode prog_50_method_5_code 33 = .ok (.laload, 1) := by decide +kernel
theorem own_d1_34 : decode prog_50_method_5_code 34 = .ok (.invokestatic 95, 3) := by decide +kernel
theorem own_d1_37 : decode prog_50_method_5_code 37 = .ok (.istore 4, 2) := by decide +kernel
theorem own_d1_39 : decode prog_50_method_5_code 39 = .ok (.iload 4, 2) := by decide +kernel
theorem own_d1_41 : decode prog_50_method_5_code 41 = .ok (.ifCond .ne 26, 3) := by decide +kernel
theorem own_d1_44 : decode prog_50_method_5_code 44 = .ok (.aload_n 0, 1) := by decide +kernel
theorem own_d1_45 : decode prog_50_method_5_code 45 = .ok (.iload_n 1, 1) := by decide +kernel
theorem own_d1_46 : decode prog_50_method_5_code 46 = .ok (.laload, 1) := by decide +kernel
theorem own_d1_47 : decode prog_50_method_5_code 47 = .ok (.lconst 0, 1) := by decide +kernel
theorem own_d1_48 : decode prog_50_method_5_code 48 = .ok (.lcmp, 1) := by decide +kernel
theorem own_d1_49 : decode prog_50_method_5_code 49 = .ok (.ifCond .ge 18, 3) := by decide +kernel
theorem own_d1_52 : decode prog_50_method_5_code 52 = .ok (.aload_n 0, 1) := by decide +kernel
theorem own_d1_53 : decode prog_50_method_5_code 53 = .ok (.iload_n 1, 1) := by decide +kernel
theorem own_d1_54 : decode prog_50_method_5_code 54 = .ok (.iconst 2, 1) := by decide +kernel
theorem own_d1_55 : decode prog_50_method_5_code 55 = .ok (.iadd, 1) := by decide +kernel
theorem own_d1_56 : decode prog_50_method_5_code 56 = .ok (.laload, 1) := by decide +kernel
theorem own_d1_57 : decode prog_50_method_5_code 57 = .ok (.aload_n 2, 1) := by decide +kernel
theorem own_d1_58 : decode prog_50_method_5_code 58 = .ok (.iload_n 3, 1) := by decide +kernel
theorem own_d1_59 : decode prog_50_method_5_code 59 = .ok (.iconst 2, 1) := by decide +kernel
theorem own_d1_60 : decode prog_50_method_5_code 60 = .ok (.iadd, 1) := by decide +kernel
theorem own_d1_61 : decode prog_50_method_5_code 61 = .ok (.laload, 1) := by decide +kernel
theorem own_d1_62 : decode prog_50_method_5_code 62 = .ok (.invokestatic 95, 3) := by decide +kernel
theorem own_d1_65 : decode prog_50_method_5_code 65 = .ok (.istore 4, 2) := by decide +kernel
theorem own_d1_67 : decode prog_50_method_5_code 67 = .ok (.iload 4, 2) := by decide +kernel
theorem own_d1_69 : decode prog_50_method_5_code 69 = .ok (.ireturn, 1) := by decide +kernel
theorem own_d2_0 : decode jdk_35_method_43_code 0 = .ok (.lload_n 0, 1) := by decide +kernel
theorem own_d2_1 : decode jdk_35_method_43_code 1 = .ok (.ldc2_w 168, 3) := by decide +kernel
theorem own_d2_4 : decode jdk_35_method_43_code 4 = .ok (.ladd, 1) := by decide +kernel
theorem own_d2_5 : decode jdk_35_method_43_code 5 = .ok (.lload_n 2, 1) := by decide +kernel
theorem own_d2_6 : decode jdk_35_method_43_code 6 = .ok (.ldc2_w 168, 3) := by decide +kernel
theorem own_d2_9 : decode jdk_35_method_43_code 9 = .ok (.ladd, 1) := by decide +kernel
theorem own_d2_10 : decode jdk_35_method_43_code 10 = .ok (.invokestatic 302, 3) := by decide +kernel
theorem own_d2_13 : decode jdk_35_method_43_code 13 = .ok (.ireturn, 1) := by decide +kernel
theorem own_d3_0 : decode jdk_35_method_42_code 0 = .ok (.lload_n 0, 1) := by decide +kernel
theorem own_d3_1 : decode jdk_35_method_42_code 1 = .ok (.lload_n 2, 1) := by decide +kernel
theorem own_d3_2 : decode jdk_35_method_42_code 2 = .ok (.lcmp, 1) := by decide +kernel
theorem own_d3_3 : decode jdk_35_method_42_code 3 = .ok (.ifCond .ge 7, 3) := by decide +kernel
theorem own_d3_6 : decode jdk_35_method_42_code 6 = .ok (.iconst (-1), 1) := by decide +kernel
theorem own_d3_7 : decode jdk_35_method_42_code 7 = .ok (.goto 14, 3) := by decide +kernel
theorem own_d3_10 : decode jdk_35_method_42_code 10 = .ok (.lload_n 0, 1) := by decide +kernel
theorem own_d3_11 : decode jdk_35_method_42_code 11 = .ok (.lload_n 2, 1) := by decide +kernel
theorem own_d3_12 : decode jdk_35_method_42_code 12 = .ok (.lcmp, 1) := by decide +kernel
theorem own_d3_13 : decode jdk_35_method_42_code 13 = .ok (.ifCond .ne 7, 3) := by decide +kernel
theorem own_d3_16 : decode jdk_35_method_42_code 16 = .ok (.iconst 0, 1) := by decide +kernel
theorem own_d3_17 : decode jdk_35_method_42_code 17 = .ok (.goto 4, 3) := by decide +kernel
theorem own_d3_20 : decode jdk_35_method_42_code 20 = .ok (.iconst 1, 1) := by decide +kernel
theorem own_d3_21 : decode jdk_35_method_42_code 21 = .ok (.ireturn, 1) := by decide +kernel
theorem own_d4_0 : decode method_3_code 0 = .ok (.lload_n 0, 1) := by decide +kernel
theorem own_d4_1 : decode method_3_code 1 = .ok (.ldc2_w 23, 3) := by decide +kernel
theorem own_d4_4 : decode method_3_code 4 = .ok (.lxor, 1) := by decide +kernel
theorem own_d4_5 : decode method_3_code 5 = .ok (.lstore 4, 2) := by decide +kernel
theorem own_d4_7 : decode method_3_code 7 = .ok (.lload_n 2, 1) := by decide +kernel
theorem own_d4_8 : decode method_3_code 8 = .ok (.ldc2_w 23, 3) := by decide +kernel
theorem own_d4_11 : decode method_3_code 11 = .ok (.lxor, 1) := by decide +kernel
theorem own_d4_12 : decode method_3_code 12 = .ok (.lstore 6, 2) := by decide +kernel
theorem own_d4_14 : decode method_3_code 14 = .ok (.lload 4, 2) := by decide +kernel
theorem own_d4_16 : decode method_3_code 16 = .ok (.lload 6, 2) := by decide +kernel
theorem own_d4_18 : decode method_3_code 18 = .ok (.lcmp, 1) := by decide +kernel
theorem own_d4_19 : decode method_3_code 19 = .ok (.ifCond .ge 5, 3) := by decide +kernel
theorem own_d4_22 : decode method_3_code 22 = .ok (.iconst (-1), 1) := by decide +kernel
theorem own_d4_23 : decode method_3_code 23 = .ok (.ireturn, 1) := by decide +kernel
theorem own_d4_24 : decode method_3_code 24 = .ok (.lload 4, 2) := by decide +kernel
theorem own_d4_26 : decode method_3_code 26 = .ok (.lload 6, 2) := by decide +kernel
theorem own_d4_28 : decode method_3_code 28 = .ok (.lcmp, 1) := by decide +kernel
theorem own_d4_29 : decode method_3_code 29 = .ok (.ifCond .le 5, 3) := by decide +kernel
theorem own_d4_32 : decode method_3_code 32 = .ok (.iconst 1, 1) := by decide +kernel
theorem own_d4_33 : decode method_3_code 33 = .ok (.ireturn, 1) := by decide +kernel
theorem own_d4_34 : decode method_3_code 34 = .ok (.iconst 0, 1) := by decide +kernel
theorem own_d4_35 : decode method_3_code 35 = .ok (.ireturn, 1) := by decide +kernel
theorem own_pn_0 : plainName "java/lang/Long" = true := by first | (simp [plainName, overriddenIn]; done) | decide +kernel
theorem own_ef_0 (m : MethodId) (x0 : Int64) (x1 : Int64) : entryFrame m #[(.long x0), (.long x1)] 4 = mkF m 0 #[.val (.long x0), .second, .val (.long x1), .second] [] := by first | (simp [entryFrame, mkF, argsToLocals, Value.category]; done) | rfl
theorem own_pd_0 : parseMethodDescriptor "(JJ)I" = some ⟨[.long, .long], some .int⟩ := by decide +kernel
theorem own_pn_1 : plainName "com/example/mynah/mynah/rpsl/PrefixRangeCompareKeysPinLaw" = true := by first | (simp [plainName, overriddenIn]; done) | decide +kernel
theorem own_ef_1 (m : MethodId) (x0 : Int64) (x1 : Int64) : entryFrame m #[(.long x0), (.long x1)] 8 = mkF m 0 #[.val (.long x0), .second, .val (.long x1), .second, .unset, .unset, .unset, .unset] [] := by first | (simp [entryFrame, mkF, argsToLocals, Value.category]; done) | rfl
theorem own_pn_2 : plainName "com/example/mynah/mynah/rpsl/PrefixRange" = true := by first | (simp [plainName, overriddenIn]; done) | decide +kernel
theorem own_ef_2 (m : MethodId) (x0 : Addr) (x1 : Int32) (x2 : Addr) (x3 : Int32) : entryFrame m #[(.ref x0), (.int x1), (.ref x2), (.int x3)] 5 = mkF m 0 #[.val (.ref x0), .val (.int x1), .val (.ref x2), .val (.int x3), .unset] [] := by first | (simp [entryFrame, mkF, argsToLocals, Value.category]; done) | rfl
theorem own_ef_3 (m : MethodId) (x0 : Int64) (x1 : Int64) (x2 : Int64) (x3 : Int64) (x4 : Int64) (x5 : Int32) : entryFrame m #[(.long x0), (.long x1), (.long x2), (.long x3), (.long x4), (.int x5)] maxLocals = mkF m 0 #[.val (.long x0), .second, .val (.long x1), .second, .val (.long x2), .second, .val (.long x3), .second, .val (.long x4), .second, .val (.int x5), .unset, .unset, .unset, .unset, .unset, .unset, .unset, .unset, .unset, .unset, .unset, .unset] [] := by first | (simp [entryFrame, mkF, argsToLocals, Value.category, maxLocals]; done) | rfl
theorem own_pd_1 : parseMethodDescriptor "([JI[JI)I" = some ⟨[(.array .long), .int, (.array .long), .int], some .int⟩ := by decide +kernel
def Q_rmC (Z : State) (q0 : Int64) (q1 : Int64) (h0 : Heap) (n0 : Nat) (v : Option Value) (h : Heap) (L : List Loc) : Prop := v = some (.int (own_cmp q0 q1)) ∧ Fr n0 L ∧ h = h0
set_option maxRecDepth 65536 in
set_option maxHeartbeats 40000000 in
theorem rmC (l : Launch) (Z : State) (a0 : Array Value) (hw : ∀ d ∈ tables_1, d.before a0 Z = true) (ws : List Jvm.Cond) (q0 : Int64) (q1 : Int64) (h0 : Heap) (n0 : Nat) (Z0 : n0 ≤ h0.size) :
    MetFree l (⟨"java/lang/Long", "compare", "(JJ)I"⟩ : MethodName) (head1 (Jvm.Cond.code (⟨"java/lang/Long", "compare", "(JJ)I"⟩ : MethodName) jdk_35_method_42_code 4 (some .int) :: ws) ({ frames := 0, cells := 0, slots := 0, locals := 0 } : Room)) (fun a U => a = #[(.long q0), (.long q1)] ∧ Z.Warmed39 U.vm ∧ U.heap = h0) (fun _ _ _ _ _ => True) (fun _ U o U' => ∃ v L, o = .returned v ∧ Q_rmC Z q0 q1 h0 n0 v U'.heap L ∧ FrameEnd U o U' L ({ frames := 0, cells := 0, slots := 0, locals := 0 } : Room).cells ({ frames := 0, cells := 0, slots := 0, locals := 0 } : Room).slots) := by
  refine MetFree.of_bodySF (plainFor_of_name own_pn_0) hisR ?_
  intro p e s m args below meth c s₁ Bd hml0 hP hK
  obtain ⟨rfl, hZ, hh⟩ := hP
  have hx := Bd.exec
  have hby := Bd.bytes
  have hml : c.maxLocals = 4 := hml0
  have hown : s.vm.findClass "java/lang/Long" = some m.cls := findClass_of_methodNamed Bd.named
  have hnm := (name_of_methodNamed Bd.named Bd.method).1
  have X0 : Stand p l e ({ frames := 0, cells := 0, slots := 0, locals := 0 } : Room) s m #[(.long q0), (.long q1)] below meth c s₁ [] 0 0 := Stand.of_body Bd
  have e0 : s₁.heap = h0 := by rw [← hh, Bd.state]; rfl
  have N0 := Fr.nil n0
  have K0 : Keep h0 h0 [] := Keep.refl h0 _
  have pre0 : ∀ t, Steps p.tables e below (s₁.setTop (mkF m 0 #[.val (.long q0), .second, .val (.long q1), .second] [])) t → Steps p.tables e below (s₁.setTop (entryFrame m #[(.long q0), (.long q1)] 4)) t := fun t k => castTop (own_ef_0 m q0 q1) k
  have k1 : ∀ t, Steps p.tables e below (s₁.setTop (mkF m 3 #[.val (.long q0), .second, .val (.long q1), .second] [(.int (lcmpW q0 q1))])) t → Steps p.tables e below (s₁.setTop (mkF m 0 #[.val (.long q0), .second, .val (.long q1), .second] [])) t := by
    intro t h
    show Steps p.tables e below (s₁.setTop (mkF m 0 #[.val (.long q0), .second, .val (.long q1), .second] [])) _
    refine XS.lloadN X0.here hx rfl (hb hby own_d3_0) rfl ?_
    show Steps p.tables e below (s₁.setTop (mkF m 1 #[.val (.long q0), .second, .val (.long q1), .second] [(.long q0)])) _
    refine XS.lloadN X0.here hx rfl (hb hby own_d3_1) rfl ?_
    show Steps p.tables e below (s₁.setTop (mkF m 2 #[.val (.long q0), .second, .val (.long q1), .second] [(.long q1), (.long q0)])) _
    refine XS.lcmp X0.here hx rfl (hb hby own_d3_2) rfl ?_
    exact h
  by_cases c3_2 : (lcmpW q0 q1) < (0 : Int32)
  · skip
    have k3 : ∀ t, Steps p.tables e below (s₁.setTop (mkF m 21 #[.val (.long q0), .second, .val (.long q1), .second] [(.int (-1 : Int32))])) t → Steps p.tables e below (s₁.setTop (mkF m 0 #[.val (.long q0), .second, .val (.long q1), .second] [])) t := by
      intro t h
      refine k1 t ?_
      show Steps p.tables e below (s₁.setTop (mkF m 3 #[.val (.long q0), .second, .val (.long q1), .second] [(.int (lcmpW q0 q1))])) _
      refine XS.ifNo X0.here hx rfl (hb hby own_d3_3) rfl ((if0 _ _).trans (tlt c3_2).2.1) ?_
      show Steps p.tables e below (s₁.setTop (mkF m 6 #[.val (.long q0), .second, .val (.long q1), .second] [])) _
      refine XS.iconst X0.here hx rfl (hb hby own_d3_6) ?_
      show Steps p.tables e below (s₁.setTop (mkF m 7 #[.val (.long q0), .second, .val (.long q1), .second] [(.int (-1 : Int32))])) _
      refine XS.goto X0.here hx rfl (pc0 := 7) (pc' := 21) rfl (hb hby own_d3_7) (by decide) (by decide) ?_
      exact h
    obtain ⟨fs, hr, hrun, hended, hW, hsame⟩ := X0.leave (v := some (.int (-1 : Int32))) (fun h => by rw [Bd.returns] at h; cases h) Bd.notSynchronized
    refine ⟨_, _, pre0 _ (k3 _ ?_), hrun, hended, _, _, rfl, ?_, ⟨_, rfl⟩, hW, hsame.mono (by decide) (by decide)⟩
    · exact retI X0 hx Bd.returns (hb hby own_d3_21) hr
    · show Q_rmC Z _ _ h0 n0 _ s₁.heap _
      rw [e0]
      exact ⟨congrArg (fun z : Int32 => some (Value.int z)) (by first | (simp only [own_cmp, c3_2, ↓reduceIte]; done) | (simp [own_cmp, c3_2]; done)), N0, rfl⟩
  · skip
    have k4 : ∀ t, Steps p.tables e below (s₁.setTop (mkF m 13 #[.val (.long q0), .second, .val (.long q1), .second] [(.int (lcmpW q0 q1))])) t → Steps p.tables e below (s₁.setTop (mkF m 0 #[.val (.long q0), .second, .val (.long q1), .second] [])) t := by
      intro t h
      refine k1 t ?_
      show Steps p.tables e below (s₁.setTop (mkF m 3 #[.val (.long q0), .second, .val (.long q1), .second] [(.int (lcmpW q0 q1))])) _
      refine XS.ifYes X0.here hx rfl (pc0 := 3) (pc' := 10) rfl (hb hby own_d3_3) rfl ((if0 _ _).trans (flt c3_2).2.1) (by decide) (by decide) ?_
      show Steps p.tables e below (s₁.setTop (mkF m 10 #[.val (.long q0), .second, .val (.long q1), .second] [])) _
      refine XS.lloadN X0.here hx rfl (hb hby own_d3_10) rfl ?_
      show Steps p.tables e below (s₁.setTop (mkF m 11 #[.val (.long q0), .second, .val (.long q1), .second] [(.long q0)])) _
      refine XS.lloadN X0.here hx rfl (hb hby own_d3_11) rfl ?_
      show Steps p.tables e below (s₁.setTop (mkF m 12 #[.val (.long q0), .second, .val (.long q1), .second] [(.long q1), (.long q0)])) _
      refine XS.lcmp X0.here hx rfl (hb hby own_d3_12) rfl ?_
      exact h
    by_cases c13_5 : (lcmpW q0 q1) = (0 : Int32)
    · skip
      have k6 : ∀ t, Steps p.tables e below (s₁.setTop (mkF m 21 #[.val (.long q0), .second, .val (.long q1), .second] [(.int (0 : Int32))])) t → Steps p.tables e below (s₁.setTop (mkF m 0 #[.val (.long q0), .second, .val (.long q1), .second] [])) t := by
        intro t h
        refine k4 t ?_
        show Steps p.tables e below (s₁.setTop (mkF m 13 #[.val (.long q0), .second, .val (.long q1), .second] [(.int (lcmpW q0 q1))])) _
        refine XS.ifNo X0.here hx rfl (hb hby own_d3_13) rfl ((if0 _ _).trans (teq c13_5).2) ?_
        show Steps p.tables e below (s₁.setTop (mkF m 16 #[.val (.long q0), .second, .val (.long q1), .second] [])) _
        refine XS.iconst X0.here hx rfl (hb hby own_d3_16) ?_
        show Steps p.tables e below (s₁.setTop (mkF m 17 #[.val (.long q0), .second, .val (.long q1), .second] [(.int (0 : Int32))])) _
        refine XS.goto X0.here hx rfl (pc0 := 17) (pc' := 21) rfl (hb hby own_d3_17) (by decide) (by decide) ?_
        exact h
      obtain ⟨fs, hr, hrun, hended, hW, hsame⟩ := X0.leave (v := some (.int (0 : Int32))) (fun h => by rw [Bd.returns] at h; cases h) Bd.notSynchronized
      refine ⟨_, _, pre0 _ (k6 _ ?_), hrun, hended, _, _, rfl, ?_, ⟨_, rfl⟩, hW, hsame.mono (by decide) (by decide)⟩
      · exact retI X0 hx Bd.returns (hb hby own_d3_21) hr
      · show Q_rmC Z _ _ h0 n0 _ s₁.heap _
        rw [e0]
        exact ⟨congrArg (fun z : Int32 => some (Value.int z)) (by first | (simp only [own_cmp, c3_2, c13_5, ↓reduceIte]; done) | (simp [own_cmp, c3_2, c13_5]; done)), N0, rfl⟩
    · skip
      have k7 : ∀ t, Steps p.tables e below (s₁.setTop (mkF m 21 #[.val (.long q0), .second, .val (.long q1), .second] [(.int (1 : Int32))])) t → Steps p.tables e below (s₁.setTop (mkF m 0 #[.val (.long q0), .second, .val (.long q1), .second] [])) t := by
        intro t h
        refine k4 t ?_
        show Steps p.tables e below (s₁.setTop (mkF m 13 #[.val (.long q0), .second, .val (.long q1), .second] [(.int (lcmpW q0 q1))])) _
        refine XS.ifYes X0.here hx rfl (pc0 := 13) (pc' := 20) rfl (hb hby own_d3_13) rfl ((if0 _ _).trans (feq c13_5).2) (by decide) (by decide) ?_
        show Steps p.tables e below (s₁.setTop (mkF m 20 #[.val (.long q0), .second, .val (.long q1), .second] [])) _
        refine XS.iconst X0.here hx rfl (hb hby own_d3_20) ?_
        exact h
      obtain ⟨fs, hr, hrun, hended, hW, hsame⟩ := X0.leave (v := some (.int (1 : Int32))) (fun h => by rw [Bd.returns] at h; cases h) Bd.notSynchronized
      refine ⟨_, _, pre0 _ (k7 _ ?_), hrun, hended, _, _, rfl, ?_, ⟨_, rfl⟩, hW, hsame.mono (by decide) (by decide)⟩
      · exact retI X0 hx Bd.returns (hb hby own_d3_21) hr
      · show Q_rmC Z _ _ h0 n0 _ s₁.heap _
        rw [e0]
        exact ⟨congrArg (fun z : Int32 => some (Value.int z)) (by first | (simp only [own_cmp, c3_2, c13_5, ↓reduceIte]; done) | (simp [own_cmp, c3_2, c13_5]; done)), N0, rfl⟩
def Q_rmU (Z : State) (q0 : Int64) (q1 : Int64) (h0 : Heap) (n0 : Nat) (v : Option Value) (h : Heap) (L : List Loc) : Prop := v = some (.int (own_cu q0 q1)) ∧ Fr n0 L ∧ h = h0
set_option maxRecDepth 65536 in
set_option maxHeartbeats 40000000 in
theorem rmU (l : Launch) (Z : State) (a0 : Array Value) (hw : ∀ d ∈ tables_1, d.before a0 Z = true) (ws : List Jvm.Cond) (q0 : Int64) (q1 : Int64) (h0 : Heap) (n0 : Nat) (Z0 : n0 ≤ h0.size) :
    MetFree l (⟨"java/lang/Long", "compareUnsigned", "(JJ)I"⟩ : MethodName) (head1 (Jvm.Cond.code (⟨"java/lang/Long", "compareUnsigned", "(JJ)I"⟩ : MethodName) jdk_35_method_43_code 4 (some .int) :: ws) ({ frames := 1, cells := 0, slots := 0, locals := 15 } : Room)) (fun a U => a = #[(.long q0), (.long q1)] ∧ Z.Warmed39 U.vm ∧ U.heap = h0) (fun _ _ _ _ _ => True) (fun _ U o U' => ∃ v L, o = .returned v ∧ Q_rmU Z q0 q1 h0 n0 v U'.heap L ∧ FrameEnd U o U' L ({ frames := 1, cells := 0, slots := 0, locals := 15 } : Room).cells ({ frames := 1, cells := 0, slots := 0, locals := 15 } : Room).slots) := by
  refine MetFree.of_bodySF (plainFor_of_name own_pn_0) hisR ?_
  intro p e s m args below meth c s₁ Bd hml0 hP hK
  obtain ⟨rfl, hZ, hh⟩ := hP
  have hx := Bd.exec
  have hby := Bd.bytes
  have hml : c.maxLocals = 4 := hml0
  have hown : s.vm.findClass "java/lang/Long" = some m.cls := findClass_of_methodNamed Bd.named
  have hnm := (name_of_methodNamed Bd.named Bd.method).1
  have X0 : Stand p l e ({ frames := 1, cells := 0, slots := 0, locals := 15 } : Room) s m #[(.long q0), (.long q1)] below meth c s₁ [] 0 0 := Stand.of_body Bd
  have e0 : s₁.heap = h0 := by rw [← hh, Bd.state]; rfl
  have N0 := Fr.nil n0
  have K0 : Keep h0 h0 [] := Keep.refl h0 _
  have pre0 : ∀ t, Steps p.tables e below (s₁.setTop (mkF m 0 #[.val (.long q0), .second, .val (.long q1), .second] [])) t → Steps p.tables e below (s₁.setTop (entryFrame m #[(.long q0), (.long q1)] 4)) t := fun t k => castTop (own_ef_0 m q0 q1) k
  obtain ⟨_, _, ⟨T8, L8, k8, n8⟩, -, X8, ⟨Lc8, hQ8, l8, y8, z8⟩, st8⟩ := Jvm.LawKit.callS X0 hx (y := (⟨"java/lang/Long", "compare", "(JJ)I"⟩ : MethodName)) hown (mvT hZ (hw _ (List.mem_of_getElem? (i := 11) rfl))) (mvT hZ (hw _ (List.mem_of_getElem? (i := 12) rfl))) (mvT hZ (hw _ (List.mem_of_getElem? (i := 8) rfl))) (mvT hZ (hw _ (List.mem_of_getElem? (i := 13) rfl))) (by decide) (backOf (W := 0) (rmC l Z a0 hw [] (q0 + (-9223372036854775808 : Int64)) (q1 + (-9223372036854775808 : Int64))  h0 n0 Z0 ) hZ (hw _ (List.mem_of_getElem? (i := 13) rfl)) (hw _ (List.mem_of_getElem? (i := 8) rfl)) (by decide) (by decide)) (g := (mkF m 10 #[.val (.long q0), .second, .val (.long q1), .second] [(.long (q1 + (-9223372036854775808 : Int64))), (.long (q0 + (-9223372036854775808 : Int64)))])) rfl (by rw [hml]; rfl) (argsL := [(.long (q0 + (-9223372036854775808 : Int64))), (.long (q1 + (-9223372036854775808 : Int64)))]) (rest := []) (lenOf own_pd_0 rfl) rfl (by show 2 * 0 + _ ≤ _; exact Nat.le_of_eq rfl) (hb hby own_d2_10) (fun _ _ => ⟨rfl, e0, (by decide : 0 + 0 ≤ _), (by decide : 0 + 0 ≤ _)⟩)
  dsimp only [Pt.U, Pt.locs, Pt.cells, Pt.slots] at X8 l8 y8 z8 st8 hQ8
  subst l8 y8 z8
  obtain ⟨rfl, Nq8, eq8⟩ := hQ8
  have N8 := Fr.app N0 Nq8
  have k9 : ∀ t, Steps p.tables e below (T8.setTop (mkF m 13 #[.val (.long q0), .second, .val (.long q1), .second] [(.int (own_cmp (q0 + (-9223372036854775808 : Int64)) (q1 + (-9223372036854775808 : Int64))))])) t → Steps p.tables e below (s₁.setTop (mkF m 0 #[.val (.long q0), .second, .val (.long q1), .second] [])) t := by
    intro t h
    show Steps p.tables e below (s₁.setTop (mkF m 0 #[.val (.long q0), .second, .val (.long q1), .second] [])) _
    refine XS.lloadN X0.here hx rfl (hb hby own_d2_0) rfl ?_
    show Steps p.tables e below (s₁.setTop (mkF m 1 #[.val (.long q0), .second, .val (.long q1), .second] [(.long q0)])) _
    refine X0.ldc2Long hx hown (mvT hZ (hw _ (List.mem_of_getElem? (i := 10) rfl))) (g := (mkF m 1 #[.val (.long q0), .second, .val (.long q1), .second] [(.long q0)])) rfl (hb hby own_d2_1) _ ?_
    show Steps p.tables e below (s₁.setTop (mkF m 4 #[.val (.long q0), .second, .val (.long q1), .second] [(.long (-9223372036854775808 : Int64)), (.long q0)])) _
    refine XS.ladd X0.here hx rfl (hb hby own_d2_4) rfl ?_
    show Steps p.tables e below (s₁.setTop (mkF m 5 #[.val (.long q0), .second, .val (.long q1), .second] [(.long (q0 + (-9223372036854775808 : Int64)))])) _
    refine XS.lloadN X0.here hx rfl (hb hby own_d2_5) rfl ?_
    show Steps p.tables e below (s₁.setTop (mkF m 6 #[.val (.long q0), .second, .val (.long q1), .second] [(.long q1), (.long (q0 + (-9223372036854775808 : Int64)))])) _
    refine X0.ldc2Long hx hown (mvT hZ (hw _ (List.mem_of_getElem? (i := 10) rfl))) (g := (mkF m 6 #[.val (.long q0), .second, .val (.long q1), .second] [(.long q1), (.long (q0 + (-9223372036854775808 : Int64)))])) rfl (hb hby own_d2_6) _ ?_
    show Steps p.tables e below (s₁.setTop (mkF m 9 #[.val (.long q0), .second, .val (.long q1), .second] [(.long (-9223372036854775808 : Int64)), (.long q1), (.long (q0 + (-9223372036854775808 : Int64)))])) _
    refine XS.ladd X0.here hx rfl (hb hby own_d2_9) rfl ?_
    show Steps p.tables e below (s₁.setTop (mkF m 10 #[.val (.long q0), .second, .val (.long q1), .second] [(.long (q1 + (-9223372036854775808 : Int64))), (.long (q0 + (-9223372036854775808 : Int64)))])) _
    refine st8 _ ?_
    exact h
  obtain ⟨fs, hr, hrun, hended, hW, hsame⟩ := X8.leave (v := some (.int (own_cmp (q0 + (-9223372036854775808 : Int64)) (q1 + (-9223372036854775808 : Int64))))) (fun h => by rw [Bd.returns] at h; cases h) Bd.notSynchronized
  refine ⟨_, _, pre0 _ (k9 _ ?_), hrun, hended, _, _, rfl, ?_, ⟨_, rfl⟩, hW, hsame.mono (by decide) (by decide)⟩
  · exact retI X8 hx Bd.returns (hb hby own_d2_13) hr
  · show Q_rmU Z _ _ h0 n0 _ T8.heap _
    rw [eq8]
    exact ⟨congrArg (fun z : Int32 => some (Value.int z)) (rfl), N8, rfl⟩
def Q_rmO (Z : State) (q0 : Int64) (q1 : Int64) (h0 : Heap) (n0 : Nat) (v : Option Value) (h : Heap) (L : List Loc) : Prop := v = some (.int (own_uo q0 q1)) ∧ Fr n0 L ∧ h = h0
set_option maxRecDepth 65536 in
set_option maxHeartbeats 40000000 in
theorem rmO (l : Launch) (Z : State) (a0 : Array Value) (hw : ∀ d ∈ tables_1, d.before a0 Z = true) (ws : List Jvm.Cond) (q0 : Int64) (q1 : Int64) (h0 : Heap) (n0 : Nat) (Z0 : n0 ≤ h0.size) :
    MetFree l (⟨"com/example/mynah/mynah/rpsl/PrefixRangeCompareKeysPinLaw", "unsignedOrder", "(JJ)I"⟩ : MethodName) (head1 (Jvm.Cond.code (⟨"com/example/mynah/mynah/rpsl/PrefixRangeCompareKeysPinLaw", "unsignedOrder", "(JJ)I"⟩ : MethodName) method_3_code 8 (some .int) :: ws) ({ frames := 0, cells := 0, slots := 0, locals := 0 } : Room)) (fun a U => a = #[(.long q0), (.long q1)] ∧ Z.Warmed39 U.vm ∧ U.heap = h0) (fun _ _ _ _ _ => True) (fun _ U o U' => ∃ v L, o = .returned v ∧ Q_rmO Z q0 q1 h0 n0 v U'.heap L ∧ FrameEnd U o U' L ({ frames := 0, cells := 0, slots := 0, locals := 0 } : Room).cells ({ frames := 0, cells := 0, slots := 0, locals := 0 } : Room).slots) := by
  refine MetFree.of_bodySF (plainFor_of_name own_pn_1) hisR ?_
  intro p e s m args below meth c s₁ Bd hml0 hP hK
  obtain ⟨rfl, hZ, hh⟩ := hP
  have hx := Bd.exec
  have hby := Bd.bytes
  have hml : c.maxLocals = 8 := hml0
  have hown : s.vm.findClass "com/example/mynah/mynah/rpsl/PrefixRangeCompareKeysPinLaw" = some m.cls := findClass_of_methodNamed Bd.named
  have hnm := (name_of_methodNamed Bd.named Bd.method).1
  have X0 : Stand p l e ({ frames := 0, cells := 0, slots := 0, locals := 0 } : Room) s m #[(.long q0), (.long q1)] below meth c s₁ [] 0 0 := Stand.of_body Bd
  have e0 : s₁.heap = h0 := by rw [← hh, Bd.state]; rfl
  have N0 := Fr.nil n0
  have K0 : Keep h0 h0 [] := Keep.refl h0 _
  have pre0 : ∀ t, Steps p.tables e below (s₁.setTop (mkF m 0 #[.val (.long q0), .second, .val (.long q1), .second, .unset, .unset, .unset, .unset] [])) t → Steps p.tables e below (s₁.setTop (entryFrame m #[(.long q0), (.long q1)] 8)) t := fun t k => castTop (own_ef_1 m q0 q1) k
  have k10 : ∀ t, Steps p.tables e below (s₁.setTop (mkF m 19 #[.val (.long q0), .second, .val (.long q1), .second, .val (.long (q0 ^^^ (-9223372036854775808 : Int64))), .second, .val (.long (q1 ^^^ (-9223372036854775808 : Int64))), .second] [(.int (lcmpW (q0 ^^^ (-9223372036854775808 : Int64)) (q1 ^^^ (-9223372036854775808 : Int64))))])) t → Steps p.tables e below (s₁.setTop (mkF m 0 #[.val (.long q0), .second, .val (.long q1), .second, .unset, .unset, .unset, .unset] [])) t := by
    intro t h
    show Steps p.tables e below (s₁.setTop (mkF m 0 #[.val (.long q0), .second, .val (.long q1), .second, .unset, .unset, .unset, .unset] [])) _
    refine XS.lloadN X0.here hx rfl (hb hby own_d4_0) rfl ?_
    show Steps p.tables e below (s₁.setTop (mkF m 1 #[.val (.long q0), .second, .val (.long q1), .second, .unset, .unset, .unset, .unset] [(.long q0)])) _
    refine X0.ldc2Long hx hown (mvT hZ (hw _ (List.mem_of_getElem? (i := 18) rfl))) (g := (mkF m 1 #[.val (.long q0), .second, .val (.long q1), .second, .unset, .unset, .unset, .unset] [(.long q0)])) rfl (hb hby own_d4_1) _ ?_
    show Steps p.tables e below (s₁.setTop (mkF m 4 #[.val (.long q0), .second, .val (.long q1), .second, .unset, .unset, .unset, .unset] [(.long (-9223372036854775808 : Int64)), (.long q0)])) _
    refine XS.lxor X0.here hx rfl (hb hby own_d4_4) rfl ?_
    show Steps p.tables e below (s₁.setTop (mkF m 5 #[.val (.long q0), .second, .val (.long q1), .second, .unset, .unset, .unset, .unset] [(.long (q0 ^^^ (-9223372036854775808 : Int64)))])) _
    refine XS.lstore X0.here hx rfl (hb hby own_d4_5) rfl (l' := #[.val (.long q0), .second, .val (.long q1), .second, .val (.long (q0 ^^^ (-9223372036854775808 : Int64))), .second, .unset, .unset]) rfl ?_
    show Steps p.tables e below (s₁.setTop (mkF m 7 #[.val (.long q0), .second, .val (.long q1), .second, .val (.long (q0 ^^^ (-9223372036854775808 : Int64))), .second, .unset, .unset] [])) _
    refine XS.lloadN X0.here hx rfl (hb hby own_d4_7) rfl ?_
    show Steps p.tables e below (s₁.setTop (mkF m 8 #[.val (.long q0), .second, .val (.long q1), .second, .val (.long (q0 ^^^ (-9223372036854775808 : Int64))), .second, .unset, .unset] [(.long q1)])) _
    refine X0.ldc2Long hx hown (mvT hZ (hw _ (List.mem_of_getElem? (i := 18) rfl))) (g := (mkF m 8 #[.val (.long q0), .second, .val (.long q1), .second, .val (.long (q0 ^^^ (-9223372036854775808 : Int64))), .second, .unset, .unset] [(.long q1)])) rfl (hb hby own_d4_8) _ ?_
    show Steps p.tables e below (s₁.setTop (mkF m 11 #[.val (.long q0), .second, .val (.long q1), .second, .val (.long (q0 ^^^ (-9223372036854775808 : Int64))), .second, .unset, .unset] [(.long (-9223372036854775808 : Int64)), (.long q1)])) _
    refine XS.lxor X0.here hx rfl (hb hby own_d4_11) rfl ?_
    show Steps p.tables e below (s₁.setTop (mkF m 12 #[.val (.long q0), .second, .val (.long q1), .second, .val (.long (q0 ^^^ (-9223372036854775808 : Int64))), .second, .unset, .unset] [(.long (q1 ^^^ (-9223372036854775808 : Int64)))])) _
    refine XS.lstore X0.here hx rfl (hb hby own_d4_12) rfl (l' := #[.val (.long q0), .second, .val (.long q1), .second, .val (.long (q0 ^^^ (-9223372036854775808 : Int64))), .second, .val (.long (q1 ^^^ (-9223372036854775808 : Int64))), .second]) rfl ?_
    show Steps p.tables e below (s₁.setTop (mkF m 14 #[.val (.long q0), .second, .val (.long q1), .second, .val (.long (q0 ^^^ (-9223372036854775808 : Int64))), .second, .val (.long (q1 ^^^ (-9223372036854775808 : Int64))), .second] [])) _
    refine XS.lload X0.here hx rfl (hb hby own_d4_14) rfl ?_
    show Steps p.tables e below (s₁.setTop (mkF m 16 #[.val (.long q0), .second, .val (.long q1), .second, .val (.long (q0 ^^^ (-9223372036854775808 : Int64))), .second, .val (.long (q1 ^^^ (-9223372036854775808 : Int64))), .second] [(.long (q0 ^^^ (-9223372036854775808 : Int64)))])) _
    refine XS.lload X0.here hx rfl (hb hby own_d4_16) rfl ?_
    show Steps p.tables e below (s₁.setTop (mkF m 18 #[.val (.long q0), .second, .val (.long q1), .second, .val (.long (q0 ^^^ (-9223372036854775808 : Int64))), .second, .val (.long (q1 ^^^ (-9223372036854775808 : Int64))), .second] [(.long (q1 ^^^ (-9223372036854775808 : Int64))), (.long (q0 ^^^ (-9223372036854775808 : Int64)))])) _
    refine XS.lcmp X0.here hx rfl (hb hby own_d4_18) rfl ?_
    exact h
  by_cases c19_11 : (lcmpW (q0 ^^^ (-9223372036854775808 : Int64)) (q1 ^^^ (-9223372036854775808 : Int64))) < (0 : Int32)
  · skip
    have k12 : ∀ t, Steps p.tables e below (s₁.setTop (mkF m 23 #[.val (.long q0), .second, .val (.long q1), .second, .val (.long (q0 ^^^ (-9223372036854775808 : Int64))), .second, .val (.long (q1 ^^^ (-9223372036854775808 : Int64))), .second] [(.int (-1 : Int32))])) t → Steps p.tables e below (s₁.setTop (mkF m 0 #[.val (.long q0), .second, .val (.long q1), .second, .unset, .unset, .unset, .unset] [])) t := by
      intro t h
      refine k10 t ?_
      show Steps p.tables e below (s₁.setTop (mkF m 19 #[.val (.long q0), .second, .val (.long q1), .second, .val (.long (q0 ^^^ (-9223372036854775808 : Int64))), .second, .val (.long (q1 ^^^ (-9223372036854775808 : Int64))), .second] [(.int (lcmpW (q0 ^^^ (-9223372036854775808 : Int64)) (q1 ^^^ (-9223372036854775808 : Int64))))])) _
      refine XS.ifNo X0.here hx rfl (hb hby own_d4_19) rfl ((if0 _ _).trans (tlt c19_11).2.1) ?_
      show Steps p.tables e below (s₁.setTop (mkF m 22 #[.val (.long q0), .second, .val (.long q1), .second, .val (.long (q0 ^^^ (-9223372036854775808 : Int64))), .second, .val (.long (q1 ^^^ (-9223372036854775808 : Int64))), .second] [])) _
      refine XS.iconst X0.here hx rfl (hb hby own_d4_22) ?_
      exact h
    obtain ⟨fs, hr, hrun, hended, hW, hsame⟩ := X0.leave (v := some (.int (-1 : Int32))) (fun h => by rw [Bd.returns] at h; cases h) Bd.notSynchronized
    refine ⟨_, _, pre0 _ (k12 _ ?_), hrun, hended, _, _, rfl, ?_, ⟨_, rfl⟩, hW, hsame.mono (by decide) (by decide)⟩
    · exact retI X0 hx Bd.returns (hb hby own_d4_23) hr
    · show Q_rmO Z _ _ h0 n0 _ s₁.heap _
      rw [e0]
      exact ⟨congrArg (fun z : Int32 => some (Value.int z)) (by first | (simp only [own_uo, c19_11, ↓reduceIte]; done) | (simp [own_uo, c19_11]; done)), N0, rfl⟩
  · skip
    have k13 : ∀ t, Steps p.tables e below (s₁.setTop (mkF m 29 #[.val (.long q0), .second, .val (.long q1), .second, .val (.long (q0 ^^^ (-9223372036854775808 : Int64))), .second, .val (.long (q1 ^^^ (-9223372036854775808 : Int64))), .second] [(.int (lcmpW (q0 ^^^ (-9223372036854775808 : Int64)) (q1 ^^^ (-9223372036854775808 : Int64))))])) t → Steps p.tables e below (s₁.setTop (mkF m 0 #[.val (.long q0), .second, .val (.long q1), .second, .unset, .unset, .unset, .unset] [])) t := by
      intro t h
      refine k10 t ?_
      show Steps p.tables e below (s₁.setTop (mkF m 19 #[.val (.long q0), .second, .val (.long q1), .second, .val (.long (q0 ^^^ (-9223372036854775808 : Int64))), .second, .val (.long (q1 ^^^ (-9223372036854775808 : Int64))), .second] [(.int (lcmpW (q0 ^^^ (-9223372036854775808 : Int64)) (q1 ^^^ (-9223372036854775808 : Int64))))])) _
      refine XS.ifYes X0.here hx rfl (pc0 := 19) (pc' := 24) rfl (hb hby own_d4_19) rfl ((if0 _ _).trans (flt c19_11).2.1) (by decide) (by decide) ?_
      show Steps p.tables e below (s₁.setTop (mkF m 24 #[.val (.long q0), .second, .val (.long q1), .second, .val (.long (q0 ^^^ (-9223372036854775808 : Int64))), .second, .val (.long (q1 ^^^ (-9223372036854775808 : Int64))), .second] [])) _
      refine XS.lload X0.here hx rfl (hb hby own_d4_24) rfl ?_
      show Steps p.tables e below (s₁.setTop (mkF m 26 #[.val (.long q0), .second, .val (.long q1), .second, .val (.long (q0 ^^^ (-9223372036854775808 : Int64))), .second, .val (.long (q1 ^^^ (-9223372036854775808 : Int64))), .second] [(.long (q0 ^^^ (-9223372036854775808 : Int64)))])) _
      refine XS.lload X0.here hx rfl (hb hby own_d4_26) rfl ?_
      show Steps p.tables e below (s₁.setTop (mkF m 28 #[.val (.long q0), .second, .val (.long q1), .second, .val (.long (q0 ^^^ (-9223372036854775808 : Int64))), .second, .val (.long (q1 ^^^ (-9223372036854775808 : Int64))), .second] [(.long (q1 ^^^ (-9223372036854775808 : Int64))), (.long (q0 ^^^ (-9223372036854775808 : Int64)))])) _
      refine XS.lcmp X0.here hx rfl (hb hby own_d4_28) rfl ?_
      exact h
    by_cases c29_14 : (0 : Int32) < (lcmpW (q0 ^^^ (-9223372036854775808 : Int64)) (q1 ^^^ (-9223372036854775808 : Int64)))
    · skip
      have k15 : ∀ t, Steps p.tables e below (s₁.setTop (mkF m 33 #[.val (.long q0), .second, .val (.long q1), .second, .val (.long (q0 ^^^ (-9223372036854775808 : Int64))), .second, .val (.long (q1 ^^^ (-9223372036854775808 : Int64))), .second] [(.int (1 : Int32))])) t → Steps p.tables e below (s₁.setTop (mkF m 0 #[.val (.long q0), .second, .val (.long q1), .second, .unset, .unset, .unset, .unset] [])) t := by
        intro t h
        refine k13 t ?_
        show Steps p.tables e below (s₁.setTop (mkF m 29 #[.val (.long q0), .second, .val (.long q1), .second, .val (.long (q0 ^^^ (-9223372036854775808 : Int64))), .second, .val (.long (q1 ^^^ (-9223372036854775808 : Int64))), .second] [(.int (lcmpW (q0 ^^^ (-9223372036854775808 : Int64)) (q1 ^^^ (-9223372036854775808 : Int64))))])) _
        refine XS.ifNo X0.here hx rfl (hb hby own_d4_29) rfl ((if0 _ _).trans (tlt c29_14).2.2.2) ?_
        show Steps p.tables e below (s₁.setTop (mkF m 32 #[.val (.long q0), .second, .val (.long q1), .second, .val (.long (q0 ^^^ (-9223372036854775808 : Int64))), .second, .val (.long (q1 ^^^ (-9223372036854775808 : Int64))), .second] [])) _
        refine XS.iconst X0.here hx rfl (hb hby own_d4_32) ?_
        exact h
      obtain ⟨fs, hr, hrun, hended, hW, hsame⟩ := X0.leave (v := some (.int (1 : Int32))) (fun h => by rw [Bd.returns] at h; cases h) Bd.notSynchronized
      refine ⟨_, _, pre0 _ (k15 _ ?_), hrun, hended, _, _, rfl, ?_, ⟨_, rfl⟩, hW, hsame.mono (by decide) (by decide)⟩
      · exact retI X0 hx Bd.returns (hb hby own_d4_33) hr
      · show Q_rmO Z _ _ h0 n0 _ s₁.heap _
        rw [e0]
        exact ⟨congrArg (fun z : Int32 => some (Value.int z)) (by first | (simp only [own_uo, c19_11, c29_14, ↓reduceIte]; done) | (simp [own_uo, c19_11, c29_14]; done)), N0, rfl⟩
    · skip
      have k16 : ∀ t, Steps p.tables e below (s₁.setTop (mkF m 35 #[.val (.long q0), .second, .val (.long q1), .second, .val (.long (q0 ^^^ (-9223372036854775808 : Int64))), .second, .val (.long (q1 ^^^ (-9223372036854775808 : Int64))), .second] [(.int (0 : Int32))])) t → Steps p.tables e below (s₁.setTop (mkF m 0 #[.val (.long q0), .second, .val (.long q1), .second, .unset, .unset, .unset, .unset] [])) t := by
        intro t h
        refine k13 t ?_
        show Steps p.tables e below (s₁.setTop (mkF m 29 #[.val (.long q0), .second, .val (.long q1), .second, .val (.long (q0 ^^^ (-9223372036854775808 : Int64))), .second, .val (.long (q1 ^^^ (-9223372036854775808 : Int64))), .second] [(.int (lcmpW (q0 ^^^ (-9223372036854775808 : Int64)) (q1 ^^^ (-9223372036854775808 : Int64))))])) _
        refine XS.ifYes X0.here hx rfl (pc0 := 29) (pc' := 34) rfl (hb hby own_d4_29) rfl ((if0 _ _).trans (flt c29_14).2.2.2) (by decide) (by decide) ?_
        show Steps p.tables e below (s₁.setTop (mkF m 34 #[.val (.long q0), .second, .val (.long q1), .second, .val (.long (q0 ^^^ (-9223372036854775808 : Int64))), .second, .val (.long (q1 ^^^ (-9223372036854775808 : Int64))), .second] [])) _
        refine XS.iconst X0.here hx rfl (hb hby own_d4_34) ?_
        exact h
      obtain ⟨fs, hr, hrun, hended, hW, hsame⟩ := X0.leave (v := some (.int (0 : Int32))) (fun h => by rw [Bd.returns] at h; cases h) Bd.notSynchronized
      refine ⟨_, _, pre0 _ (k16 _ ?_), hrun, hended, _, _, rfl, ?_, ⟨_, rfl⟩, hW, hsame.mono (by decide) (by decide)⟩
      · exact retI X0 hx Bd.returns (hb hby own_d4_35) hr
      · show Q_rmO Z _ _ h0 n0 _ s₁.heap _
        rw [e0]
        exact ⟨congrArg (fun z : Int32 => some (Value.int z)) (by first | (simp only [own_uo, c19_11, c29_14, ↓reduceIte]; done) | (simp [own_uo, c19_11, c29_14]; done)), N0, rfl⟩
def Q_rmK (Z : State) (r0 : Addr) (p1 : Int32) (r2 : Addr) (p3 : Int32) (k1 : ClassId) (k2 : ClassId) (vs1 : List Value) (vs2 : List Value) (aa0 : Int64) (a1 : Int64) (a2 : Int64) (c0 : Int64) (c1 : Int64) (c2 : Int64) (h0 : Heap) (n0 : Nat) (v : Option Value) (h : Heap) (L : List Loc) : Prop := v = some (.int (own_ck aa0 a1 a2 c0 c1 c2)) ∧ Fr n0 L ∧ h = h0
set_option maxRecDepth 65536 in
set_option maxHeartbeats 40000000 in
theorem rmK (l : Launch) (Z : State) (a0 : Array Value) (hw : ∀ d ∈ tables_1, d.before a0 Z = true) (ws : List Jvm.Cond) (r0 : Addr) (p1 : Int32) (r2 : Addr) (p3 : Int32) (k1 : ClassId) (k2 : ClassId) (vs1 : List Value) (vs2 : List Value) (aa0 : Int64) (a1 : Int64) (a2 : Int64) (c0 : Int64) (c1 : Int64) (c2 : Int64) (h0 : Heap) (n0 : Nat) (Z0 : n0 ≤ h0.size) (V1 : Arv Z h0 r0 k1 .long (4 : Int32) vs1 (.long (0 : Int64))) (V2 : Arv Z h0 r2 k2 .long (4 : Int32) vs2 (.long (0 : Int64))) (ia0 : ¬ p1 < 0 ∧ p1 < 4) (ga0 : vs1.getD (p1).toNatClampNeg (.long (0 : Int64)) = .long aa0) (ia1 : ¬ (p1 + (1 : Int32)) < 0 ∧ (p1 + (1 : Int32)) < 4) (ga1 : vs1.getD ((p1 + (1 : Int32))).toNatClampNeg (.long (0 : Int64)) = .long a1) (ia2 : ¬ (p1 + (2 : Int32)) < 0 ∧ (p1 + (2 : Int32)) < 4) (ga2 : vs1.getD ((p1 + (2 : Int32))).toNatClampNeg (.long (0 : Int64)) = .long a2) (ic0 : ¬ p3 < 0 ∧ p3 < 4) (gc0 : vs2.getD (p3).toNatClampNeg (.long (0 : Int64)) = .long c0) (ic1 : ¬ (p3 + (1 : Int32)) < 0 ∧ (p3 + (1 : Int32)) < 4) (gc1 : vs2.getD ((p3 + (1 : Int32))).toNatClampNeg (.long (0 : Int64)) = .long c1) (ic2 : ¬ (p3 + (2 : Int32)) < 0 ∧ (p3 + (2 : Int32)) < 4) (gc2 : vs2.getD ((p3 + (2 : Int32))).toNatClampNeg (.long (0 : Int64)) = .long c2) :
    MetFree l (⟨"com/example/mynah/mynah/rpsl/PrefixRange", "compareKeys", "([JI[JI)I"⟩ : MethodName) (head1 (Jvm.Cond.code (⟨"com/example/mynah/mynah/rpsl/PrefixRange", "compareKeys", "([JI[JI)I"⟩ : MethodName) prog_50_method_5_code 5 (some .int) :: ws) ({ frames := 2, cells := 0, slots := 0, locals := 30 } : Room)) (fun a U => a = #[(.ref r0), (.int p1), (.ref r2), (.int p3)] ∧ Z.Warmed39 U.vm ∧ U.heap = h0) (fun _ _ _ _ _ => True) (fun _ U o U' => ∃ v L, o = .returned v ∧ Q_rmK Z r0 p1 r2 p3 k1 k2 vs1 vs2 aa0 a1 a2 c0 c1 c2 h0 n0 v U'.heap L ∧ FrameEnd U o U' L ({ frames := 2, cells := 0, slots := 0, locals := 30 } : Room).cells ({ frames := 2, cells := 0, slots := 0, locals := 30 } : Room).slots) := by
  refine MetFree.of_bodySF (plainFor_of_name own_pn_2) hisR ?_
  intro p e s m args below meth c s₁ Bd hml0 hP hK
  obtain ⟨rfl, hZ, hh⟩ := hP
  have hx := Bd.exec
  have hby := Bd.bytes
  have hml : c.maxLocals = 5 := hml0
  have hown : s.vm.findClass "com/example/mynah/mynah/rpsl/PrefixRange" = some m.cls := findClass_of_methodNamed Bd.named
  have hnm := (name_of_methodNamed Bd.named Bd.method).1
  have X0 : Stand p l e ({ frames := 2, cells := 0, slots := 0, locals := 30 } : Room) s m #[(.ref r0), (.int p1), (.ref r2), (.int p3)] below meth c s₁ [] 0 0 := Stand.of_body Bd
  have e0 : s₁.heap = h0 := by rw [← hh, Bd.state]; rfl
  have N0 := Fr.nil n0
  have K0 : Keep h0 h0 [] := Keep.refl h0 _
  have pre0 : ∀ t, Steps p.tables e below (s₁.setTop (mkF m 0 #[.val (.ref r0), .val (.int p1), .val (.ref r2), .val (.int p3), .unset] [])) t → Steps p.tables e below (s₁.setTop (entryFrame m #[(.ref r0), (.int p1), (.ref r2), (.int p3)] 5)) t := fun t k => castTop (own_ef_2 m r0 p1 r2 p3) k
  obtain ⟨cl17, Ar17, q17, S17, Ng17, H17, G17⟩ := id V1
  have hin17 : ¬ (p1 < 0 ∨ cl17.slots.size ≤ (p1).toNatClampNeg) := inb_of S17 ia0
  obtain ⟨cl18, Ar18, q18, S18, Ng18, H18, G18⟩ := id V2
  have hin18 : ¬ (p3 < 0 ∨ cl18.slots.size ≤ (p3).toNatClampNeg) := inb_of S18 ic0
  obtain ⟨_, _, ⟨T19, L19, k19, n19⟩, -, X19, ⟨Lc19, hQ19, l19, y19, z19⟩, st19⟩ := Jvm.LawKit.callS X0 hx (y := (⟨"java/lang/Long", "compareUnsigned", "(JJ)I"⟩ : MethodName)) hown (mvT hZ (hw _ (List.mem_of_getElem? (i := 6) rfl))) (mvT hZ (hw _ (List.mem_of_getElem? (i := 7) rfl))) (mvT hZ (hw _ (List.mem_of_getElem? (i := 8) rfl))) (mvT hZ (hw _ (List.mem_of_getElem? (i := 9) rfl))) (by decide) (backOf (W := 0) (rmU l Z a0 hw [] aa0 c0  h0 n0 Z0 ) hZ (hw _ (List.mem_of_getElem? (i := 9) rfl)) (hw _ (List.mem_of_getElem? (i := 8) rfl)) (by decide) (by decide)) (g := (mkF m 6 #[.val (.ref r0), .val (.int p1), .val (.ref r2), .val (.int p3), .unset] [(.long c0), (.long aa0)])) rfl (by rw [hml]; rfl) (argsL := [(.long aa0), (.long c0)]) (rest := []) (lenOf own_pd_0 rfl) rfl (by show 2 * 0 + _ ≤ _; exact Nat.le_of_eq rfl) (hb hby own_d1_6) (fun _ _ => ⟨rfl, e0, (by decide : 0 + 0 ≤ _), (by decide : 0 + 0 ≤ _)⟩)
  dsimp only [Pt.U, Pt.locs, Pt.cells, Pt.slots] at X19 l19 y19 z19 st19 hQ19
  subst l19 y19 z19
  obtain ⟨rfl, Nq19, eq19⟩ := hQ19
  have N19 := Fr.app N0 Nq19
  have k20 : ∀ t, Steps p.tables e below (T19.setTop (mkF m 13 #[.val (.ref r0), .val (.int p1), .val (.ref r2), .val (.int p3), .val (.int (own_cu aa0 c0))] [(.int (own_cu aa0 c0))])) t → Steps p.tables e below (s₁.setTop (mkF m 0 #[.val (.ref r0), .val (.int p1), .val (.ref r2), .val (.int p3), .unset] [])) t := by
    intro t h
    show Steps p.tables e below (s₁.setTop (mkF m 0 #[.val (.ref r0), .val (.int p1), .val (.ref r2), .val (.int p3), .unset] [])) _
    refine XS.aloadN X0.here hx rfl (hb hby own_d1_0) rfl rfl ?_
    show Steps p.tables e below (s₁.setTop (mkF m 1 #[.val (.ref r0), .val (.int p1), .val (.ref r2), .val (.int p3), .unset] [(.ref r0)])) _
    refine XS.iloadN X0.here hx rfl (hb hby own_d1_1) rfl ?_
    show Steps p.tables e below (s₁.setTop (mkF m 2 #[.val (.ref r0), .val (.int p1), .val (.ref r2), .val (.int p3), .unset] [(.int p1), (.ref r0)])) _
    refine X0.laload hx (j := p1) (v := (.long aa0)) (by rw [e0]; exact Ar17.1) (State.isArrayOf_alike hZ.alike Ar17.2.1) Ar17.2.2 hin17 (H17.at hin17 ga0) (g := (mkF m 2 #[.val (.ref r0), .val (.int p1), .val (.ref r2), .val (.int p3), .unset] [(.int p1), (.ref r0)])) rfl rfl (hb hby own_d1_2) _ ?_
    show Steps p.tables e below (s₁.setTop (mkF m 3 #[.val (.ref r0), .val (.int p1), .val (.ref r2), .val (.int p3), .unset] [(.long aa0)])) _
    refine XS.aloadN X0.here hx rfl (hb hby own_d1_3) rfl rfl ?_
    show Steps p.tables e below (s₁.setTop (mkF m 4 #[.val (.ref r0), .val (.int p1), .val (.ref r2), .val (.int p3), .unset] [(.ref r2), (.long aa0)])) _
    refine XS.iloadN X0.here hx rfl (hb hby own_d1_4) rfl ?_
    show Steps p.tables e below (s₁.setTop (mkF m 5 #[.val (.ref r0), .val (.int p1), .val (.ref r2), .val (.int p3), .unset] [(.int p3), (.ref r2), (.long aa0)])) _
    refine X0.laload hx (j := p3) (v := (.long c0)) (by rw [e0]; exact Ar18.1) (State.isArrayOf_alike hZ.alike Ar18.2.1) Ar18.2.2 hin18 (H18.at hin18 gc0) (g := (mkF m 5 #[.val (.ref r0), .val (.int p1), .val (.ref r2), .val (.int p3), .unset] [(.int p3), (.ref r2), (.long aa0)])) rfl rfl (hb hby own_d1_5) _ ?_
    show Steps p.tables e below (s₁.setTop (mkF m 6 #[.val (.ref r0), .val (.int p1), .val (.ref r2), .val (.int p3), .unset] [(.long c0), (.long aa0)])) _
    refine st19 _ ?_
    show Steps p.tables e below (T19.setTop (mkF m 9 #[.val (.ref r0), .val (.int p1), .val (.ref r2), .val (.int p3), .unset] [(.int (own_cu aa0 c0))])) _
    refine XS.istore X19.here hx rfl (hb hby own_d1_9) rfl (l' := #[.val (.ref r0), .val (.int p1), .val (.ref r2), .val (.int p3), .val (.int (own_cu aa0 c0))]) rfl ?_
    show Steps p.tables e below (T19.setTop (mkF m 11 #[.val (.ref r0), .val (.int p1), .val (.ref r2), .val (.int p3), .val (.int (own_cu aa0 c0))] [])) _
    refine XS.iload X19.here hx rfl (hb hby own_d1_11) rfl ?_
    exact h
  by_cases c13_21 : (own_cu aa0 c0) = (0 : Int32)
  · skip
    obtain ⟨cl22, Ar22, q22, S22, Ng22, H22, G22⟩ := id V1
    have hin22 : ¬ (p1 < 0 ∨ cl22.slots.size ≤ (p1).toNatClampNeg) := inb_of S22 ia0
    have k23 : ∀ t, Steps p.tables e below (T19.setTop (mkF m 21 #[.val (.ref r0), .val (.int p1), .val (.ref r2), .val (.int p3), .val (.int (own_cu aa0 c0))] [(.int (lcmpW aa0 (0 : Int64)))])) t → Steps p.tables e below (s₁.setTop (mkF m 0 #[.val (.ref r0), .val (.int p1), .val (.ref r2), .val (.int p3), .unset] [])) t := by
      intro t h
      refine k20 t ?_
      show Steps p.tables e below (T19.setTop (mkF m 13 #[.val (.ref r0), .val (.int p1), .val (.ref r2), .val (.int p3), .val (.int (own_cu aa0 c0))] [(.int (own_cu aa0 c0))])) _
      refine XS.ifNo X19.here hx rfl (hb hby own_d1_13) rfl ((if0 _ _).trans (teq c13_21).2) ?_
      show Steps p.tables e below (T19.setTop (mkF m 16 #[.val (.ref r0), .val (.int p1), .val (.ref r2), .val (.int p3), .val (.int (own_cu aa0 c0))] [])) _
      refine XS.aloadN X19.here hx rfl (hb hby own_d1_16) rfl rfl ?_
      show Steps p.tables e below (T19.setTop (mkF m 17 #[.val (.ref r0), .val (.int p1), .val (.ref r2), .val (.int p3), .val (.int (own_cu aa0 c0))] [(.ref r0)])) _
      refine XS.iloadN X19.here hx rfl (hb hby own_d1_17) rfl ?_
      show Steps p.tables e below (T19.setTop (mkF m 18 #[.val (.ref r0), .val (.int p1), .val (.ref r2), .val (.int p3), .val (.int (own_cu aa0 c0))] [(.int p1), (.ref r0)])) _
      refine X19.laload hx (j := p1) (v := (.long aa0)) (by rw [eq19]; exact Ar22.1) (State.isArrayOf_alike hZ.alike Ar22.2.1) Ar22.2.2 hin22 (H22.at hin22 ga0) (g := (mkF m 18 #[.val (.ref r0), .val (.int p1), .val (.ref r2), .val (.int p3), .val (.int (own_cu aa0 c0))] [(.int p1), (.ref r0)])) rfl rfl (hb hby own_d1_18) _ ?_
      show Steps p.tables e below (T19.setTop (mkF m 19 #[.val (.ref r0), .val (.int p1), .val (.ref r2), .val (.int p3), .val (.int (own_cu aa0 c0))] [(.long aa0)])) _
      refine XS.lconst X19.here hx rfl (hb hby own_d1_19) ?_
      show Steps p.tables e below (T19.setTop (mkF m 20 #[.val (.ref r0), .val (.int p1), .val (.ref r2), .val (.int p3), .val (.int (own_cu aa0 c0))] [(.long (0 : Int64)), (.long aa0)])) _
      refine XS.lcmp X19.here hx rfl (hb hby own_d1_20) rfl ?_
      exact h
    by_cases c21_24 : (lcmpW aa0 (0 : Int64)) < (0 : Int32)
    · skip
      obtain ⟨cl25, Ar25, q25, S25, Ng25, H25, G25⟩ := id V1
      have hin25 : ¬ ((p1 + (1 : Int32)) < 0 ∨ cl25.slots.size ≤ ((p1 + (1 : Int32))).toNatClampNeg) := inb_of S25 ia1
      obtain ⟨cl26, Ar26, q26, S26, Ng26, H26, G26⟩ := id V2
      have hin26 : ¬ ((p3 + (1 : Int32)) < 0 ∨ cl26.slots.size ≤ ((p3 + (1 : Int32))).toNatClampNeg) := inb_of S26 ic1
      obtain ⟨_, _, ⟨T27, L27, k27, n27⟩, -, X27, ⟨Lc27, hQ27, l27, y27, z27⟩, st27⟩ := Jvm.LawKit.callS X19 hx (y := (⟨"java/lang/Long", "compareUnsigned", "(JJ)I"⟩ : MethodName)) hown (mvT hZ (hw _ (List.mem_of_getElem? (i := 6) rfl))) (mvT hZ (hw _ (List.mem_of_getElem? (i := 7) rfl))) (mvT hZ (hw _ (List.mem_of_getElem? (i := 8) rfl))) (mvT hZ (hw _ (List.mem_of_getElem? (i := 9) rfl))) (by decide) (backOf (W := 0) (rmU l Z a0 hw [] a1 c1  h0 n0 Z0 ) hZ (hw _ (List.mem_of_getElem? (i := 9) rfl)) (hw _ (List.mem_of_getElem? (i := 8) rfl)) (by decide) (by decide)) (g := (mkF m 34 #[.val (.ref r0), .val (.int p1), .val (.ref r2), .val (.int p3), .val (.int (own_cu aa0 c0))] [(.long c1), (.long a1)])) rfl (by rw [hml]; rfl) (argsL := [(.long a1), (.long c1)]) (rest := []) (lenOf own_pd_0 rfl) rfl (by show 2 * 0 + _ ≤ _; exact Nat.le_of_eq rfl) (hb hby own_d1_34) (fun _ _ => ⟨rfl, eq19, (by decide : 0 + 0 ≤ _), (by decide : 0 + 0 ≤ _)⟩)
      dsimp only [Pt.U, Pt.locs, Pt.cells, Pt.slots] at X27 l27 y27 z27 st27 hQ27
      subst l27 y27 z27
      obtain ⟨rfl, Nq27, eq27⟩ := hQ27
      have N27 := Fr.app N19 Nq27
      have k28 : ∀ t, Steps p.tables e below (T27.setTop (mkF m 41 #[.val (.ref r0), .val (.int p1), .val (.ref r2), .val (.int p3), .val (.int (own_cu a1 c1))] [(.int (own_cu a1 c1))])) t → Steps p.tables e below (s₁.setTop (mkF m 0 #[.val (.ref r0), .val (.int p1), .val (.ref r2), .val (.int p3), .unset] [])) t := by
        intro t h
        refine k23 t ?_
        show Steps p.tables e below (T19.setTop (mkF m 21 #[.val (.ref r0), .val (.int p1), .val (.ref r2), .val (.int p3), .val (.int (own_cu aa0 c0))] [(.int (lcmpW aa0 (0 : Int64)))])) _
        refine XS.ifNo X19.here hx rfl (hb hby own_d1_21) rfl ((if0 _ _).trans (tlt c21_24).2.1) ?_
        show Steps p.tables e below (T19.setTop (mkF m 24 #[.val (.ref r0), .val (.int p1), .val (.ref r2), .val (.int p3), .val (.int (own_cu aa0 c0))] [])) _
        refine XS.aloadN X19.here hx rfl (hb hby own_d1_24) rfl rfl ?_
        show Steps p.tables e below (T19.setTop (mkF m 25 #[.val (.ref r0), .val (.int p1), .val (.ref r2), .val (.int p3), .val (.int (own_cu aa0 c0))] [(.ref r0)])) _
        refine XS.iloadN X19.here hx rfl (hb hby own_d1_25) rfl ?_
        show Steps p.tables e below (T19.setTop (mkF m 26 #[.val (.ref r0), .val (.int p1), .val (.ref r2), .val (.int p3), .val (.int (own_cu aa0 c0))] [(.int p1), (.ref r0)])) _
        refine XS.iconst X19.here hx rfl (hb hby own_d1_26) ?_
        show Steps p.tables e below (T19.setTop (mkF m 27 #[.val (.ref r0), .val (.int p1), .val (.ref r2), .val (.int p3), .val (.int (own_cu aa0 c0))] [(.int (1 : Int32)), (.int p1), (.ref r0)])) _
        refine XS.iadd X19.here hx rfl (hb hby own_d1_27) rfl ?_
        show Steps p.tables e below (T19.setTop (mkF m 28 #[.val (.ref r0), .val (.int p1), .val (.ref r2), .val (.int p3), .val (.int (own_cu aa0 c0))] [(.int (p1 + (1 : Int32))), (.ref r0)])) _
        refine X19.laload hx (j := (p1 + (1 : Int32))) (v := (.long a1)) (by rw [eq19]; exact Ar25.1) (State.isArrayOf_alike hZ.alike Ar25.2.1) Ar25.2.2 hin25 (H25.at hin25 ga1) (g := (mkF m 28 #[.val (.ref r0), .val (.int p1), .val (.ref r2), .val (.int p3), .val (.int (own_cu aa0 c0))] [(.int (p1 + (1 : Int32))), (.ref r0)])) rfl rfl (hb hby own_d1_28) _ ?_
        show Steps p.tables e below (T19.setTop (mkF m 29 #[.val (.ref r0), .val (.int p1), .val (.ref r2), .val (.int p3), .val (.int (own_cu aa0 c0))] [(.long a1)])) _
        refine XS.aloadN X19.here hx rfl (hb hby own_d1_29) rfl rfl ?_
        show Steps p.tables e below (T19.setTop (mkF m 30 #[.val (.ref r0), .val (.int p1), .val (.ref r2), .val (.int p3), .val (.int (own_cu aa0 c0))] [(.ref r2), (.long a1)])) _
        refine XS.iloadN X19.here hx rfl (hb hby own_d1_30) rfl ?_
        show Steps p.tables e below (T19.setTop (mkF m 31 #[.val (.ref r0), .val (.int p1), .val (.ref r2), .val (.int p3), .val (.int (own_cu aa0 c0))] [(.int p3), (.ref r2), (.long a1)])) _
        refine XS.iconst X19.here hx rfl (hb hby own_d1_31) ?_
        show Steps p.tables e below (T19.setTop (mkF m 32 #[.val (.ref r0), .val (.int p1), .val (.ref r2), .val (.int p3), .val (.int (own_cu aa0 c0))] [(.int (1 : Int32)), (.int p3), (.ref r2), (.long a1)])) _
        refine XS.iadd X19.here hx rfl (hb hby own_d1_32) rfl ?_
        show Steps p.tables e below (T19.setTop (mkF m 33 #[.val (.ref r0), .val (.int p1), .val (.ref r2), .val (.int p3), .val (.int (own_cu aa0 c0))] [(.int (p3 + (1 : Int32))), (.ref r2), (.long a1)])) _
        refine X19.laload hx (j := (p3 + (1 : Int32))) (v := (.long c1)) (by rw [eq19]; exact Ar26.1) (State.isArrayOf_alike hZ.alike Ar26.2.1) Ar26.2.2 hin26 (H26.at hin26 gc1) (g := (mkF m 33 #[.val (.ref r0), .val (.int p1), .val (.ref r2), .val (.int p3), .val (.int (own_cu aa0 c0))] [(.int (p3 + (1 : Int32))), (.ref r2), (.long a1)])) rfl rfl (hb hby own_d1_33) _ ?_
        show Steps p.tables e below (T19.setTop (mkF m 34 #[.val (.ref r0), .val (.int p1), .val (.ref r2), .val (.int p3), .val (.int (own_cu aa0 c0))] [(.long c1), (.long a1)])) _
        refine st27 _ ?_
        show Steps p.tables e below (T27.setTop (mkF m 37 #[.val (.ref r0), .val (.int p1), .val (.ref r2), .val (.int p3), .val (.int (own_cu aa0 c0))] [(.int (own_cu a1 c1))])) _
        refine XS.istore X27.here hx rfl (hb hby own_d1_37) rfl (l' := #[.val (.ref r0), .val (.int p1), .val (.ref r2), .val (.int p3), .val (.int (own_cu a1 c1))]) rfl ?_
        show Steps p.tables e below (T27.setTop (mkF m 39 #[.val (.ref r0), .val (.int p1), .val (.ref r2), .val (.int p3), .val (.int (own_cu a1 c1))] [])) _
        refine XS.iload X27.here hx rfl (hb hby own_d1_39) rfl ?_
        exact h
      by_cases c41_29 : (own_cu a1 c1) = (0 : Int32)
      · skip
        obtain ⟨cl30, Ar30, q30, S30, Ng30, H30, G30⟩ := id V1
        have hin30 : ¬ (p1 < 0 ∨ cl30.slots.size ≤ (p1).toNatClampNeg) := inb_of S30 ia0
        have k31 : ∀ t, Steps p.tables e below (T27.setTop (mkF m 49 #[.val (.ref r0), .val (.int p1), .val (.ref r2), .val (.int p3), .val (.int (own_cu a1 c1))] [(.int (lcmpW aa0 (0 : Int64)))])) t → Steps p.tables e below (s₁.setTop (mkF m 0 #[.val (.ref r0), .val (.int p1), .val (.ref r2), .val (.int p3), .unset] [])) t := by
          intro t h
          refine k28 t ?_
          show Steps p.tables e below (T27.setTop (mkF m 41 #[.val (.ref r0), .val (.int p1), .val (.ref r2), .val (.int p3), .val (.int (own_cu a1 c1))] [(.int (own_cu a1 c1))])) _
          refine XS.ifNo X27.here hx rfl (hb hby own_d1_41) rfl ((if0 _ _).trans (teq c41_29).2) ?_
          show Steps p.tables e below (T27.setTop (mkF m 44 #[.val (.ref r0), .val (.int p1), .val (.ref r2), .val (.int p3), .val (.int (own_cu a1 c1))] [])) _
          refine XS.aloadN X27.here hx rfl (hb hby own_d1_44) rfl rfl ?_
          show Steps p.tables e below (T27.setTop (mkF m 45 #[.val (.ref r0), .val (.int p1), .val (.ref r2), .val (.int p3), .val (.int (own_cu a1 c1))] [(.ref r0)])) _
          refine XS.iloadN X27.here hx rfl (hb hby own_d1_45) rfl ?_
          show Steps p.tables e below (T27.setTop (mkF m 46 #[.val (.ref r0), .val (.int p1), .val (.ref r2), .val (.int p3), .val (.int (own_cu a1 c1))] [(.int p1), (.ref r0)])) _
          refine X27.laload hx (j := p1) (v := (.long aa0)) (by rw [eq27]; exact Ar30.1) (State.isArrayOf_alike hZ.alike Ar30.2.1) Ar30.2.2 hin30 (H30.at hin30 ga0) (g := (mkF m 46 #[.val (.ref r0), .val (.int p1), .val (.ref r2), .val (.int p3), .val (.int (own_cu a1 c1))] [(.int p1), (.ref r0)])) rfl rfl (hb hby own_d1_46) _ ?_
          show Steps p.tables e below (T27.setTop (mkF m 47 #[.val (.ref r0), .val (.int p1), .val (.ref r2), .val (.int p3), .val (.int (own_cu a1 c1))] [(.long aa0)])) _
          refine XS.lconst X27.here hx rfl (hb hby own_d1_47) ?_
          show Steps p.tables e below (T27.setTop (mkF m 48 #[.val (.ref r0), .val (.int p1), .val (.ref r2), .val (.int p3), .val (.int (own_cu a1 c1))] [(.long (0 : Int64)), (.long aa0)])) _
          refine XS.lcmp X27.here hx rfl (hb hby own_d1_48) rfl ?_
          exact h
        obtain ⟨cl32, Ar32, q32, S32, Ng32, H32, G32⟩ := id V1
        have hin32 : ¬ ((p1 + (2 : Int32)) < 0 ∨ cl32.slots.size ≤ ((p1 + (2 : Int32))).toNatClampNeg) := inb_of S32 ia2
        obtain ⟨cl33, Ar33, q33, S33, Ng33, H33, G33⟩ := id V2
        have hin33 : ¬ ((p3 + (2 : Int32)) < 0 ∨ cl33.slots.size ≤ ((p3 + (2 : Int32))).toNatClampNeg) := inb_of S33 ic2
        obtain ⟨_, _, ⟨T34, L34, k34, n34⟩, -, X34, ⟨Lc34, hQ34, l34, y34, z34⟩, st34⟩ := Jvm.LawKit.callS X27 hx (y := (⟨"java/lang/Long", "compareUnsigned", "(JJ)I"⟩ : MethodName)) hown (mvT hZ (hw _ (List.mem_of_getElem? (i := 6) rfl))) (mvT hZ (hw _ (List.mem_of_getElem? (i := 7) rfl))) (mvT hZ (hw _ (List.mem_of_getElem? (i := 8) rfl))) (mvT hZ (hw _ (List.mem_of_getElem? (i := 9) rfl))) (by decide) (backOf (W := 0) (rmU l Z a0 hw [] a2 c2  h0 n0 Z0 ) hZ (hw _ (List.mem_of_getElem? (i := 9) rfl)) (hw _ (List.mem_of_getElem? (i := 8) rfl)) (by decide) (by decide)) (g := (mkF m 62 #[.val (.ref r0), .val (.int p1), .val (.ref r2), .val (.int p3), .val (.int (own_cu a1 c1))] [(.long c2), (.long a2)])) rfl (by rw [hml]; rfl) (argsL := [(.long a2), (.long c2)]) (rest := []) (lenOf own_pd_0 rfl) rfl (by show 2 * 0 + _ ≤ _; exact Nat.le_of_eq rfl) (hb hby own_d1_62) (fun _ _ => ⟨rfl, eq27, (by decide : 0 + 0 ≤ _), (by decide : 0 + 0 ≤ _)⟩)
        dsimp only [Pt.U, Pt.locs, Pt.cells, Pt.slots] at X34 l34 y34 z34 st34 hQ34
        subst l34 y34 z34
        obtain ⟨rfl, Nq34, eq34⟩ := hQ34
        have N34 := Fr.app N27 Nq34
        have k35 : ∀ t, Steps p.tables e below (T34.setTop (mkF m 69 #[.val (.ref r0), .val (.int p1), .val (.ref r2), .val (.int p3), .val (.int (own_cu a2 c2))] [(.int (own_cu a2 c2))])) t → Steps p.tables e below (s₁.setTop (mkF m 0 #[.val (.ref r0), .val (.int p1), .val (.ref r2), .val (.int p3), .unset] [])) t := by
          intro t h
          refine k31 t ?_
          show Steps p.tables e below (T27.setTop (mkF m 49 #[.val (.ref r0), .val (.int p1), .val (.ref r2), .val (.int p3), .val (.int (own_cu a1 c1))] [(.int (lcmpW aa0 (0 : Int64)))])) _
          refine XS.ifNo X27.here hx rfl (hb hby own_d1_49) rfl ((if0 _ _).trans (tlt c21_24).2.1) ?_
          show Steps p.tables e below (T27.setTop (mkF m 52 #[.val (.ref r0), .val (.int p1), .val (.ref r2), .val (.int p3), .val (.int (own_cu a1 c1))] [])) _
          refine XS.aloadN X27.here hx rfl (hb hby own_d1_52) rfl rfl ?_
          show Steps p.tables e below (T27.setTop (mkF m 53 #[.val (.ref r0), .val (.int p1), .val (.ref r2), .val (.int p3), .val (.int (own_cu a1 c1))] [(.ref r0)])) _
          refine XS.iloadN X27.here hx rfl (hb hby own_d1_53) rfl ?_
          show Steps p.tables e below (T27.setTop (mkF m 54 #[.val (.ref r0), .val (.int p1), .val (.ref r2), .val (.int p3), .val (.int (own_cu a1 c1))] [(.int p1), (.ref r0)])) _
          refine XS.iconst X27.here hx rfl (hb hby own_d1_54) ?_
          show Steps p.tables e below (T27.setTop (mkF m 55 #[.val (.ref r0), .val (.int p1), .val (.ref r2), .val (.int p3), .val (.int (own_cu a1 c1))] [(.int (2 : Int32)), (.int p1), (.ref r0)])) _
          refine XS.iadd X27.here hx rfl (hb hby own_d1_55) rfl ?_
          show Steps p.tables e below (T27.setTop (mkF m 56 #[.val (.ref r0), .val (.int p1), .val (.ref r2), .val (.int p3), .val (.int (own_cu a1 c1))] [(.int (p1 + (2 : Int32))), (.ref r0)])) _
          refine X27.laload hx (j := (p1 + (2 : Int32))) (v := (.long a2)) (by rw [eq27]; exact Ar32.1) (State.isArrayOf_alike hZ.alike Ar32.2.1) Ar32.2.2 hin32 (H32.at hin32 ga2) (g := (mkF m 56 #[.val (.ref r0), .val (.int p1), .val (.ref r2), .val (.int p3), .val (.int (own_cu a1 c1))] [(.int (p1 + (2 : Int32))), (.ref r0)])) rfl rfl (hb hby own_d1_56) _ ?_
          show Steps p.tables e below (T27.setTop (mkF m 57 #[.val (.ref r0), .val (.int p1), .val (.ref r2), .val (.int p3), .val (.int (own_cu a1 c1))] [(.long a2)])) _
          refine XS.aloadN X27.here hx rfl (hb hby own_d1_57) rfl rfl ?_
          show Steps p.tables e below (T27.setTop (mkF m 58 #[.val (.ref r0), .val (.int p1), .val (.ref r2), .val (.int p3), .val (.int (own_cu a1 c1))] [(.ref r2), (.long a2)])) _
          refine XS.iloadN X27.here hx rfl (hb hby own_d1_58) rfl ?_
          show Steps p.tables e below (T27.setTop (mkF m 59 #[.val (.ref r0), .val (.int p1), .val (.ref r2), .val (.int p3), .val (.int (own_cu a1 c1))] [(.int p3), (.ref r2), (.long a2)])) _
          refine XS.iconst X27.here hx rfl (hb hby own_d1_59) ?_
          show Steps p.tables e below (T27.setTop (mkF m 60 #[.val (.ref r0), .val (.int p1), .val (.ref r2), .val (.int p3), .val (.int (own_cu a1 c1))] [(.int (2 : Int32)), (.int p3), (.ref r2), (.long a2)])) _
          refine XS.iadd X27.here hx rfl (hb hby own_d1_60) rfl ?_
          show Steps p.tables e below (T27.setTop (mkF m 61 #[.val (.ref r0), .val (.int p1), .val (.ref r2), .val (.int p3), .val (.int (own_cu a1 c1))] [(.int (p3 + (2 : Int32))), (.ref r2), (.long a2)])) _
          refine X27.laload hx (j := (p3 + (2 : Int32))) (v := (.long c2)) (by rw [eq27]; exact Ar33.1) (State.isArrayOf_alike hZ.alike Ar33.2.1) Ar33.2.2 hin33 (H33.at hin33 gc2) (g := (mkF m 61 #[.val (.ref r0), .val (.int p1), .val (.ref r2), .val (.int p3), .val (.int (own_cu a1 c1))] [(.int (p3 + (2 : Int32))), (.ref r2), (.long a2)])) rfl rfl (hb hby own_d1_61) _ ?_
          show Steps p.tables e below (T27.setTop (mkF m 62 #[.val (.ref r0), .val (.int p1), .val (.ref r2), .val (.int p3), .val (.int (own_cu a1 c1))] [(.long c2), (.long a2)])) _
          refine st34 _ ?_
          show Steps p.tables e below (T34.setTop (mkF m 65 #[.val (.ref r0), .val (.int p1), .val (.ref r2), .val (.int p3), .val (.int (own_cu a1 c1))] [(.int (own_cu a2 c2))])) _
          refine XS.istore X34.here hx rfl (hb hby own_d1_65) rfl (l' := #[.val (.ref r0), .val (.int p1), .val (.ref r2), .val (.int p3), .val (.int (own_cu a2 c2))]) rfl ?_
          show Steps p.tables e below (T34.setTop (mkF m 67 #[.val (.ref r0), .val (.int p1), .val (.ref r2), .val (.int p3), .val (.int (own_cu a2 c2))] [])) _
          refine XS.iload X34.here hx rfl (hb hby own_d1_67) rfl ?_
          exact h
        obtain ⟨fs, hr, hrun, hended, hW, hsame⟩ := X34.leave (v := some (.int (own_cu a2 c2))) (fun h => by rw [Bd.returns] at h; cases h) Bd.notSynchronized
        refine ⟨_, _, pre0 _ (k35 _ ?_), hrun, hended, _, _, rfl, ?_, ⟨_, rfl⟩, hW, hsame.mono (by decide) (by decide)⟩
        · exact retI X34 hx Bd.returns (hb hby own_d1_69) hr
        · show Q_rmK Z _ _ _ _ _ _ _ _ _ _ _ _ _ _ h0 n0 _ T34.heap _
          rw [eq34]
          exact ⟨congrArg (fun z : Int32 => some (Value.int z)) (by first | (simp only [own_ck, c13_21, c21_24, c41_29, ↓reduceIte]; done) | (simp [own_ck, c13_21, c21_24, c41_29]; done)), N34, rfl⟩
      · skip
        have k36 : ∀ t, Steps p.tables e below (T27.setTop (mkF m 69 #[.val (.ref r0), .val (.int p1), .val (.ref r2), .val (.int p3), .val (.int (own_cu a1 c1))] [(.int (own_cu a1 c1))])) t → Steps p.tables e below (s₁.setTop (mkF m 0 #[.val (.ref r0), .val (.int p1), .val (.ref r2), .val (.int p3), .unset] [])) t := by
          intro t h
          refine k28 t ?_
          show Steps p.tables e below (T27.setTop (mkF m 41 #[.val (.ref r0), .val (.int p1), .val (.ref r2), .val (.int p3), .val (.int (own_cu a1 c1))] [(.int (own_cu a1 c1))])) _
          refine XS.ifYes X27.here hx rfl (pc0 := 41) (pc' := 67) rfl (hb hby own_d1_41) rfl ((if0 _ _).trans (feq c41_29).2) (by decide) (by decide) ?_
          show Steps p.tables e below (T27.setTop (mkF m 67 #[.val (.ref r0), .val (.int p1), .val (.ref r2), .val (.int p3), .val (.int (own_cu a1 c1))] [])) _
          refine XS.iload X27.here hx rfl (hb hby own_d1_67) rfl ?_
          exact h
        obtain ⟨fs, hr, hrun, hended, hW, hsame⟩ := X27.leave (v := some (.int (own_cu a1 c1))) (fun h => by rw [Bd.returns] at h; cases h) Bd.notSynchronized
        refine ⟨_, _, pre0 _ (k36 _ ?_), hrun, hended, _, _, rfl, ?_, ⟨_, rfl⟩, hW, hsame.mono (by decide) (by decide)⟩
        · exact retI X27 hx Bd.returns (hb hby own_d1_69) hr
        · show Q_rmK Z _ _ _ _ _ _ _ _ _ _ _ _ _ _ h0 n0 _ T27.heap _
          rw [eq27]
          exact ⟨congrArg (fun z : Int32 => some (Value.int z)) (by first | (simp only [own_ck, c13_21, c21_24, c41_29, ↓reduceIte]; done) | (simp [own_ck, c13_21, c21_24, c41_29]; done)), N27, rfl⟩
    · skip
      have k37 : ∀ t, Steps p.tables e below (T19.setTop (mkF m 41 #[.val (.ref r0), .val (.int p1), .val (.ref r2), .val (.int p3), .val (.int (own_cu aa0 c0))] [(.int (own_cu aa0 c0))])) t → Steps p.tables e below (s₁.setTop (mkF m 0 #[.val (.ref r0), .val (.int p1), .val (.ref r2), .val (.int p3), .unset] [])) t := by
        intro t h
        refine k23 t ?_
        show Steps p.tables e below (T19.setTop (mkF m 21 #[.val (.ref r0), .val (.int p1), .val (.ref r2), .val (.int p3), .val (.int (own_cu aa0 c0))] [(.int (lcmpW aa0 (0 : Int64)))])) _
        refine XS.ifYes X19.here hx rfl (pc0 := 21) (pc' := 39) rfl (hb hby own_d1_21) rfl ((if0 _ _).trans (flt c21_24).2.1) (by decide) (by decide) ?_
        show Steps p.tables e below (T19.setTop (mkF m 39 #[.val (.ref r0), .val (.int p1), .val (.ref r2), .val (.int p3), .val (.int (own_cu aa0 c0))] [])) _
        refine XS.iload X19.here hx rfl (hb hby own_d1_39) rfl ?_
        exact h
      obtain ⟨cl38, Ar38, q38, S38, Ng38, H38, G38⟩ := id V1
      have hin38 : ¬ (p1 < 0 ∨ cl38.slots.size ≤ (p1).toNatClampNeg) := inb_of S38 ia0
      have k39 : ∀ t, Steps p.tables e below (T19.setTop (mkF m 49 #[.val (.ref r0), .val (.int p1), .val (.ref r2), .val (.int p3), .val (.int (own_cu aa0 c0))] [(.int (lcmpW aa0 (0 : Int64)))])) t → Steps p.tables e below (s₁.setTop (mkF m 0 #[.val (.ref r0), .val (.int p1), .val (.ref r2), .val (.int p3), .unset] [])) t := by
        intro t h
        refine k37 t ?_
        show Steps p.tables e below (T19.setTop (mkF m 41 #[.val (.ref r0), .val (.int p1), .val (.ref r2), .val (.int p3), .val (.int (own_cu aa0 c0))] [(.int (own_cu aa0 c0))])) _
        refine XS.ifNo X19.here hx rfl (hb hby own_d1_41) rfl ((if0 _ _).trans (teq c13_21).2) ?_
        show Steps p.tables e below (T19.setTop (mkF m 44 #[.val (.ref r0), .val (.int p1), .val (.ref r2), .val (.int p3), .val (.int (own_cu aa0 c0))] [])) _
        refine XS.aloadN X19.here hx rfl (hb hby own_d1_44) rfl rfl ?_
        show Steps p.tables e below (T19.setTop (mkF m 45 #[.val (.ref r0), .val (.int p1), .val (.ref r2), .val (.int p3), .val (.int (own_cu aa0 c0))] [(.ref r0)])) _
        refine XS.iloadN X19.here hx rfl (hb hby own_d1_45) rfl ?_
        show Steps p.tables e below (T19.setTop (mkF m 46 #[.val (.ref r0), .val (.int p1), .val (.ref r2), .val (.int p3), .val (.int (own_cu aa0 c0))] [(.int p1), (.ref r0)])) _
        refine X19.laload hx (j := p1) (v := (.long aa0)) (by rw [eq19]; exact Ar38.1) (State.isArrayOf_alike hZ.alike Ar38.2.1) Ar38.2.2 hin38 (H38.at hin38 ga0) (g := (mkF m 46 #[.val (.ref r0), .val (.int p1), .val (.ref r2), .val (.int p3), .val (.int (own_cu aa0 c0))] [(.int p1), (.ref r0)])) rfl rfl (hb hby own_d1_46) _ ?_
        show Steps p.tables e below (T19.setTop (mkF m 47 #[.val (.ref r0), .val (.int p1), .val (.ref r2), .val (.int p3), .val (.int (own_cu aa0 c0))] [(.long aa0)])) _
        refine XS.lconst X19.here hx rfl (hb hby own_d1_47) ?_
        show Steps p.tables e below (T19.setTop (mkF m 48 #[.val (.ref r0), .val (.int p1), .val (.ref r2), .val (.int p3), .val (.int (own_cu aa0 c0))] [(.long (0 : Int64)), (.long aa0)])) _
        refine XS.lcmp X19.here hx rfl (hb hby own_d1_48) rfl ?_
        exact h
      have k40 : ∀ t, Steps p.tables e below (T19.setTop (mkF m 69 #[.val (.ref r0), .val (.int p1), .val (.ref r2), .val (.int p3), .val (.int (own_cu aa0 c0))] [(.int (own_cu aa0 c0))])) t → Steps p.tables e below (s₁.setTop (mkF m 0 #[.val (.ref r0), .val (.int p1), .val (.ref r2), .val (.int p3), .unset] [])) t := by
        intro t h
        refine k39 t ?_
        show Steps p.tables e below (T19.setTop (mkF m 49 #[.val (.ref r0), .val (.int p1), .val (.ref r2), .val (.int p3), .val (.int (own_cu aa0 c0))] [(.int (lcmpW aa0 (0 : Int64)))])) _
        refine XS.ifYes X19.here hx rfl (pc0 := 49) (pc' := 67) rfl (hb hby own_d1_49) rfl ((if0 _ _).trans (flt c21_24).2.1) (by decide) (by decide) ?_
        show Steps p.tables e below (T19.setTop (mkF m 67 #[.val (.ref r0), .val (.int p1), .val (.ref r2), .val (.int p3), .val (.int (own_cu aa0 c0))] [])) _
        refine XS.iload X19.here hx rfl (hb hby own_d1_67) rfl ?_
        exact h
      obtain ⟨fs, hr, hrun, hended, hW, hsame⟩ := X19.leave (v := some (.int (own_cu aa0 c0))) (fun h => by rw [Bd.returns] at h; cases h) Bd.notSynchronized
      refine ⟨_, _, pre0 _ (k40 _ ?_), hrun, hended, _, _, rfl, ?_, ⟨_, rfl⟩, hW, hsame.mono (by decide) (by decide)⟩
      · exact retI X19 hx Bd.returns (hb hby own_d1_69) hr
      · show Q_rmK Z _ _ _ _ _ _ _ _ _ _ _ _ _ _ h0 n0 _ T19.heap _
        rw [eq19]
        exact ⟨congrArg (fun z : Int32 => some (Value.int z)) (by first | (simp only [own_ck, c13_21, c21_24, ↓reduceIte]; done) | (simp [own_ck, c13_21, c21_24]; done)), N19, rfl⟩
  · skip
    have k41 : ∀ t, Steps p.tables e below (T19.setTop (mkF m 41 #[.val (.ref r0), .val (.int p1), .val (.ref r2), .val (.int p3), .val (.int (own_cu aa0 c0))] [(.int (own_cu aa0 c0))])) t → Steps p.tables e below (s₁.setTop (mkF m 0 #[.val (.ref r0), .val (.int p1), .val (.ref r2), .val (.int p3), .unset] [])) t := by
      intro t h
      refine k20 t ?_
      show Steps p.tables e below (T19.setTop (mkF m 13 #[.val (.ref r0), .val (.int p1), .val (.ref r2), .val (.int p3), .val (.int (own_cu aa0 c0))] [(.int (own_cu aa0 c0))])) _
      refine XS.ifYes X19.here hx rfl (pc0 := 13) (pc' := 39) rfl (hb hby own_d1_13) rfl ((if0 _ _).trans (feq c13_21).2) (by decide) (by decide) ?_
      show Steps p.tables e below (T19.setTop (mkF m 39 #[.val (.ref r0), .val (.int p1), .val (.ref r2), .val (.int p3), .val (.int (own_cu aa0 c0))] [])) _
      refine XS.iload X19.here hx rfl (hb hby own_d1_39) rfl ?_
      exact h
    have k42 : ∀ t, Steps p.tables e below (T19.setTop (mkF m 69 #[.val (.ref r0), .val (.int p1), .val (.ref r2), .val (.int p3), .val (.int (own_cu aa0 c0))] [(.int (own_cu aa0 c0))])) t → Steps p.tables e below (s₁.setTop (mkF m 0 #[.val (.ref r0), .val (.int p1), .val (.ref r2), .val (.int p3), .unset] [])) t := by
      intro t h
      refine k41 t ?_
      show Steps p.tables e below (T19.setTop (mkF m 41 #[.val (.ref r0), .val (.int p1), .val (.ref r2), .val (.int p3), .val (.int (own_cu aa0 c0))] [(.int (own_cu aa0 c0))])) _
      refine XS.ifYes X19.here hx rfl (pc0 := 41) (pc' := 67) rfl (hb hby own_d1_41) rfl ((if0 _ _).trans (feq c13_21).2) (by decide) (by decide) ?_
      show Steps p.tables e below (T19.setTop (mkF m 67 #[.val (.ref r0), .val (.int p1), .val (.ref r2), .val (.int p3), .val (.int (own_cu aa0 c0))] [])) _
      refine XS.iload X19.here hx rfl (hb hby own_d1_67) rfl ?_
      exact h
    obtain ⟨fs, hr, hrun, hended, hW, hsame⟩ := X19.leave (v := some (.int (own_cu aa0 c0))) (fun h => by rw [Bd.returns] at h; cases h) Bd.notSynchronized
    refine ⟨_, _, pre0 _ (k42 _ ?_), hrun, hended, _, _, rfl, ?_, ⟨_, rfl⟩, hW, hsame.mono (by decide) (by decide)⟩
    · exact retI X19 hx Bd.returns (hb hby own_d1_69) hr
    · show Q_rmK Z _ _ _ _ _ _ _ _ _ _ _ _ _ _ h0 n0 _ T19.heap _
      rw [eq19]
      exact ⟨congrArg (fun z : Int32 => some (Value.int z)) (by first | (simp only [own_ck, c13_21, ↓reduceIte]; done) | (simp [own_ck, c13_21]; done)), N19, rfl⟩
def Q_rm0 (Z : State) (q0 : Int64) (q1 : Int64) (q2 : Int64) (q3 : Int64) (q4 : Int64) (p5 : Int32) (h0 : Heap) (n0 : Nat) (v : Option Value) (h : Heap) (L : List Loc) : Prop := v = some (.int 1) ∧ Fr n0 L
set_option maxRecDepth 65536 in
set_option maxHeartbeats 40000000 in
theorem rm0 (l : Launch) (Z : State) (a0 : Array Value) (hw : ∀ d ∈ tables_1, d.before a0 Z = true) (ws : List Jvm.Cond) (q0 : Int64) (q1 : Int64) (q2 : Int64) (q3 : Int64) (q4 : Int64) (p5 : Int32) (h0 : Heap) (n0 : Nat) (Z0 : n0 ≤ h0.size) :
    MetFree l x (head1 (Jvm.Cond.code x code maxLocals ret :: ws) room_1) (fun a U => a = #[(.long q0), (.long q1), (.long q2), (.long q3), (.long q4), (.int p5)] ∧ Z.Warmed39 U.vm ∧ U.heap = h0) (fun _ _ _ _ _ => True) (fun _ U o U' => ∃ v L, o = .returned v ∧ Q_rm0 Z q0 q1 q2 q3 q4 p5 h0 n0 v U'.heap L ∧ FrameEnd U o U' L 2 8) := by
  refine MetFree.of_bodySF (plainFor_of_name own_pn_1) hisR ?_
  intro p e s m args below meth c s₁ Bd hml0 hP hK
  obtain ⟨rfl, hZ, hh⟩ := hP
  have hx := Bd.exec
  have hby := Bd.bytes
  have hml : c.maxLocals = 23 := hml0
  have hown : s.vm.findClass "com/example/mynah/mynah/rpsl/PrefixRangeCompareKeysPinLaw" = some m.cls := findClass_of_methodNamed Bd.named
  have hnm := (name_of_methodNamed Bd.named Bd.method).1
  have X0 : Stand p l e room_1 s m #[(.long q0), (.long q1), (.long q2), (.long q3), (.long q4), (.int p5)] below meth c s₁ [] 0 0 := Stand.of_body Bd
  have e0 : s₁.heap = h0 := by rw [← hh, Bd.state]; rfl
  have N0 := Fr.nil n0
  have K0 : Keep h0 h0 [] := Keep.refl h0 _
  have pre0 : ∀ t, Steps p.tables e below (s₁.setTop (mkF m 0 #[.val (.long q0), .second, .val (.long q1), .second, .val (.long q2), .second, .val (.long q3), .second, .val (.long q4), .second, .val (.int p5), .unset, .unset, .unset, .unset, .unset, .unset, .unset, .unset, .unset, .unset, .unset, .unset] [])) t → Steps p.tables e below (s₁.setTop (entryFrame m #[(.long q0), (.long q1), (.long q2), (.long q3), (.long q4), (.int p5)] maxLocals)) t := fun t k => castTop (own_ef_3 m q0 q1 q2 q3 q4 p5) k
  obtain ⟨c0, hk43, k43⟩ : ∃ (c0 : Int64), (True) ∧ ∀ t, Steps p.tables e below (s₁.setTop (mkF m 13 #[.val (.long q0), .second, .val (.long q1), .second, .val (.long q2), .second, .val (.long q3), .second, .val (.long q4), .second, .val (.int p5), .unset, .unset, .unset, .unset, .unset, .unset, .unset, .unset, .unset, .unset, .unset, .unset] [(.long c0)])) t → Steps p.tables e below (s₁.setTop (mkF m 0 #[.val (.long q0), .second, .val (.long q1), .second, .val (.long q2), .second, .val (.long q3), .second, .val (.long q4), .second, .val (.int p5), .unset, .unset, .unset, .unset, .unset, .unset, .unset, .unset, .unset, .unset, .unset, .unset] [])) t := by
    have k44 : ∀ t, Steps p.tables e below (s₁.setTop (mkF m 4 #[.val (.long q0), .second, .val (.long q1), .second, .val (.long q2), .second, .val (.long q3), .second, .val (.long q4), .second, .val (.int p5), .unset, .unset, .unset, .unset, .unset, .unset, .unset, .unset, .unset, .unset, .unset, .unset] [(.int (p5 &&& (1 : Int32)))])) t → Steps p.tables e below (s₁.setTop (mkF m 0 #[.val (.long q0), .second, .val (.long q1), .second, .val (.long q2), .second, .val (.long q3), .second, .val (.long q4), .second, .val (.int p5), .unset, .unset, .unset, .unset, .unset, .unset, .unset, .unset, .unset, .unset, .unset, .unset] [])) t := by
      intro t h
      refine XS.iload X0.here hx rfl (hb hby at_0) rfl ?_
      refine XS.iconst X0.here hx rfl (hb hby at_2) ?_
      refine XS.iand X0.here hx rfl (hb hby at_3) rfl ?_
      exact h
    by_cases c4_45 : (p5 &&& (1 : Int32)) = (0 : Int32)
    · skip
      have k46 : ∀ t, Steps p.tables e below (s₁.setTop (mkF m 13 #[.val (.long q0), .second, .val (.long q1), .second, .val (.long q2), .second, .val (.long q3), .second, .val (.long q4), .second, .val (.int p5), .unset, .unset, .unset, .unset, .unset, .unset, .unset, .unset, .unset, .unset, .unset, .unset] [(.long q3)])) t → Steps p.tables e below (s₁.setTop (mkF m 0 #[.val (.long q0), .second, .val (.long q1), .second, .val (.long q2), .second, .val (.long q3), .second, .val (.long q4), .second, .val (.int p5), .unset, .unset, .unset, .unset, .unset, .unset, .unset, .unset, .unset, .unset, .unset, .unset] [])) t := by
        intro t h
        refine k44 t ?_
        show Steps p.tables e below (s₁.setTop (mkF m 4 #[.val (.long q0), .second, .val (.long q1), .second, .val (.long q2), .second, .val (.long q3), .second, .val (.long q4), .second, .val (.int p5), .unset, .unset, .unset, .unset, .unset, .unset, .unset, .unset, .unset, .unset, .unset, .unset] [(.int (p5 &&& (1 : Int32)))])) _
        refine XS.ifYes X0.here hx rfl (pc0 := 4) (pc' := 11) rfl (hb hby at_4) rfl ((if0 _ _).trans (teq c4_45).1) (by decide) (by decide) ?_
        refine XS.lload X0.here hx rfl (hb hby at_11) rfl ?_
        exact h
      exact ⟨q3, trivial, k46⟩
    · skip
      have k47 : ∀ t, Steps p.tables e below (s₁.setTop (mkF m 13 #[.val (.long q0), .second, .val (.long q1), .second, .val (.long q2), .second, .val (.long q3), .second, .val (.long q4), .second, .val (.int p5), .unset, .unset, .unset, .unset, .unset, .unset, .unset, .unset, .unset, .unset, .unset, .unset] [(.long q0)])) t → Steps p.tables e below (s₁.setTop (mkF m 0 #[.val (.long q0), .second, .val (.long q1), .second, .val (.long q2), .second, .val (.long q3), .second, .val (.long q4), .second, .val (.int p5), .unset, .unset, .unset, .unset, .unset, .unset, .unset, .unset, .unset, .unset, .unset, .unset] [])) t := by
        intro t h
        refine k44 t ?_
        show Steps p.tables e below (s₁.setTop (mkF m 4 #[.val (.long q0), .second, .val (.long q1), .second, .val (.long q2), .second, .val (.long q3), .second, .val (.long q4), .second, .val (.int p5), .unset, .unset, .unset, .unset, .unset, .unset, .unset, .unset, .unset, .unset, .unset, .unset] [(.int (p5 &&& (1 : Int32)))])) _
        refine XS.ifNo X0.here hx rfl (hb hby at_4) rfl ((if0 _ _).trans (feq c4_45).1) ?_
        refine XS.lloadN X0.here hx rfl (hb hby at_7) rfl ?_
        refine XS.goto X0.here hx rfl (pc0 := 8) (pc' := 13) rfl (hb hby at_8) (by decide) (by decide) ?_
        exact h
      exact ⟨q0, trivial, k47⟩
  have k48 : ∀ t, Steps p.tables e below (s₁.setTop (mkF m 15 #[.val (.long q0), .second, .val (.long q1), .second, .val (.long q2), .second, .val (.long q3), .second, .val (.long q4), .second, .val (.int p5), .val (.long c0), .second, .unset, .unset, .unset, .unset, .unset, .unset, .unset, .unset, .unset, .unset] [])) t → Steps p.tables e below (s₁.setTop (mkF m 0 #[.val (.long q0), .second, .val (.long q1), .second, .val (.long q2), .second, .val (.long q3), .second, .val (.long q4), .second, .val (.int p5), .unset, .unset, .unset, .unset, .unset, .unset, .unset, .unset, .unset, .unset, .unset, .unset] [])) t := by
    intro t h
    refine k43 t ?_
    refine XS.lstore X0.here hx rfl (hb hby at_13) rfl (l' := #[.val (.long q0), .second, .val (.long q1), .second, .val (.long q2), .second, .val (.long q3), .second, .val (.long q4), .second, .val (.int p5), .val (.long c0), .second, .unset, .unset, .unset, .unset, .unset, .unset, .unset, .unset, .unset, .unset]) rfl ?_
    exact h
  obtain ⟨c1, hk49, k49⟩ : ∃ (c1 : Int64), (True) ∧ ∀ t, Steps p.tables e below (s₁.setTop (mkF m 28 #[.val (.long q0), .second, .val (.long q1), .second, .val (.long q2), .second, .val (.long q3), .second, .val (.long q4), .second, .val (.int p5), .val (.long c0), .second, .unset, .unset, .unset, .unset, .unset, .unset, .unset, .unset, .unset, .unset] [(.long c1)])) t → Steps p.tables e below (s₁.setTop (mkF m 0 #[.val (.long q0), .second, .val (.long q1), .second, .val (.long q2), .second, .val (.long q3), .second, .val (.long q4), .second, .val (.int p5), .unset, .unset, .unset, .unset, .unset, .unset, .unset, .unset, .unset, .unset, .unset, .unset] [])) t := by
    have k50 : ∀ t, Steps p.tables e below (s₁.setTop (mkF m 19 #[.val (.long q0), .second, .val (.long q1), .second, .val (.long q2), .second, .val (.long q3), .second, .val (.long q4), .second, .val (.int p5), .val (.long c0), .second, .unset, .unset, .unset, .unset, .unset, .unset, .unset, .unset, .unset, .unset] [(.int (p5 &&& (2 : Int32)))])) t → Steps p.tables e below (s₁.setTop (mkF m 0 #[.val (.long q0), .second, .val (.long q1), .second, .val (.long q2), .second, .val (.long q3), .second, .val (.long q4), .second, .val (.int p5), .unset, .unset, .unset, .unset, .unset, .unset, .unset, .unset, .unset, .unset, .unset, .unset] [])) t := by
      intro t h
      refine k48 t ?_
      refine XS.iload X0.here hx rfl (hb hby at_15) rfl ?_
      refine XS.iconst X0.here hx rfl (hb hby at_17) ?_
      refine XS.iand X0.here hx rfl (hb hby at_18) rfl ?_
      exact h
    by_cases c19_51 : (p5 &&& (2 : Int32)) = (0 : Int32)
    · skip
      have k52 : ∀ t, Steps p.tables e below (s₁.setTop (mkF m 28 #[.val (.long q0), .second, .val (.long q1), .second, .val (.long q2), .second, .val (.long q3), .second, .val (.long q4), .second, .val (.int p5), .val (.long c0), .second, .unset, .unset, .unset, .unset, .unset, .unset, .unset, .unset, .unset, .unset] [(.long q4)])) t → Steps p.tables e below (s₁.setTop (mkF m 0 #[.val (.long q0), .second, .val (.long q1), .second, .val (.long q2), .second, .val (.long q3), .second, .val (.long q4), .second, .val (.int p5), .unset, .unset, .unset, .unset, .unset, .unset, .unset, .unset, .unset, .unset, .unset, .unset] [])) t := by
        intro t h
        refine k50 t ?_
        show Steps p.tables e below (s₁.setTop (mkF m 19 #[.val (.long q0), .second, .val (.long q1), .second, .val (.long q2), .second, .val (.long q3), .second, .val (.long q4), .second, .val (.int p5), .val (.long c0), .second, .unset, .unset, .unset, .unset, .unset, .unset, .unset, .unset, .unset, .unset] [(.int (p5 &&& (2 : Int32)))])) _
        refine XS.ifYes X0.here hx rfl (pc0 := 19) (pc' := 26) rfl (hb hby at_19) rfl ((if0 _ _).trans (teq c19_51).1) (by decide) (by decide) ?_
        refine XS.lload X0.here hx rfl (hb hby at_26) rfl ?_
        exact h
      exact ⟨q4, trivial, k52⟩
    · skip
      have k53 : ∀ t, Steps p.tables e below (s₁.setTop (mkF m 28 #[.val (.long q0), .second, .val (.long q1), .second, .val (.long q2), .second, .val (.long q3), .second, .val (.long q4), .second, .val (.int p5), .val (.long c0), .second, .unset, .unset, .unset, .unset, .unset, .unset, .unset, .unset, .unset, .unset] [(.long q1)])) t → Steps p.tables e below (s₁.setTop (mkF m 0 #[.val (.long q0), .second, .val (.long q1), .second, .val (.long q2), .second, .val (.long q3), .second, .val (.long q4), .second, .val (.int p5), .unset, .unset, .unset, .unset, .unset, .unset, .unset, .unset, .unset, .unset, .unset, .unset] [])) t := by
        intro t h
        refine k50 t ?_
        show Steps p.tables e below (s₁.setTop (mkF m 19 #[.val (.long q0), .second, .val (.long q1), .second, .val (.long q2), .second, .val (.long q3), .second, .val (.long q4), .second, .val (.int p5), .val (.long c0), .second, .unset, .unset, .unset, .unset, .unset, .unset, .unset, .unset, .unset, .unset] [(.int (p5 &&& (2 : Int32)))])) _
        refine XS.ifNo X0.here hx rfl (hb hby at_19) rfl ((if0 _ _).trans (feq c19_51).1) ?_
        refine XS.lloadN X0.here hx rfl (hb hby at_22) rfl ?_
        refine XS.goto X0.here hx rfl (pc0 := 23) (pc' := 28) rfl (hb hby at_23) (by decide) (by decide) ?_
        exact h
      exact ⟨q1, trivial, k53⟩
  have k54 : ∀ t, Steps p.tables e below (s₁.setTop (mkF m 30 #[.val (.long q0), .second, .val (.long q1), .second, .val (.long q2), .second, .val (.long q3), .second, .val (.long q4), .second, .val (.int p5), .val (.long c0), .second, .val (.long c1), .second, .unset, .unset, .unset, .unset, .unset, .unset, .unset, .unset] [])) t → Steps p.tables e below (s₁.setTop (mkF m 0 #[.val (.long q0), .second, .val (.long q1), .second, .val (.long q2), .second, .val (.long q3), .second, .val (.long q4), .second, .val (.int p5), .unset, .unset, .unset, .unset, .unset, .unset, .unset, .unset, .unset, .unset, .unset, .unset] [])) t := by
    intro t h
    refine k49 t ?_
    refine XS.lstore X0.here hx rfl (hb hby at_28) rfl (l' := #[.val (.long q0), .second, .val (.long q1), .second, .val (.long q2), .second, .val (.long q3), .second, .val (.long q4), .second, .val (.int p5), .val (.long c0), .second, .val (.long c1), .second, .unset, .unset, .unset, .unset, .unset, .unset, .unset, .unset]) rfl ?_
    exact h
  obtain ⟨c2, hk55, k55⟩ : ∃ (c2 : Int64), (True) ∧ ∀ t, Steps p.tables e below (s₁.setTop (mkF m 44 #[.val (.long q0), .second, .val (.long q1), .second, .val (.long q2), .second, .val (.long q3), .second, .val (.long q4), .second, .val (.int p5), .val (.long c0), .second, .val (.long c1), .second, .unset, .unset, .unset, .unset, .unset, .unset, .unset, .unset] [(.long c2)])) t → Steps p.tables e below (s₁.setTop (mkF m 0 #[.val (.long q0), .second, .val (.long q1), .second, .val (.long q2), .second, .val (.long q3), .second, .val (.long q4), .second, .val (.int p5), .unset, .unset, .unset, .unset, .unset, .unset, .unset, .unset, .unset, .unset, .unset, .unset] [])) t := by
    have k56 : ∀ t, Steps p.tables e below (s₁.setTop (mkF m 34 #[.val (.long q0), .second, .val (.long q1), .second, .val (.long q2), .second, .val (.long q3), .second, .val (.long q4), .second, .val (.int p5), .val (.long c0), .second, .val (.long c1), .second, .unset, .unset, .unset, .unset, .unset, .unset, .unset, .unset] [(.int (p5 &&& (4 : Int32)))])) t → Steps p.tables e below (s₁.setTop (mkF m 0 #[.val (.long q0), .second, .val (.long q1), .second, .val (.long q2), .second, .val (.long q3), .second, .val (.long q4), .second, .val (.int p5), .unset, .unset, .unset, .unset, .unset, .unset, .unset, .unset, .unset, .unset, .unset, .unset] [])) t := by
      intro t h
      refine k54 t ?_
      refine XS.iload X0.here hx rfl (hb hby at_30) rfl ?_
      refine XS.iconst X0.here hx rfl (hb hby at_32) ?_
      refine XS.iand X0.here hx rfl (hb hby at_33) rfl ?_
      exact h
    by_cases c34_57 : (p5 &&& (4 : Int32)) = (0 : Int32)
    · skip
      have k58 : ∀ t, Steps p.tables e below (s₁.setTop (mkF m 44 #[.val (.long q0), .second, .val (.long q1), .second, .val (.long q2), .second, .val (.long q3), .second, .val (.long q4), .second, .val (.int p5), .val (.long c0), .second, .val (.long c1), .second, .unset, .unset, .unset, .unset, .unset, .unset, .unset, .unset] [(.long q3)])) t → Steps p.tables e below (s₁.setTop (mkF m 0 #[.val (.long q0), .second, .val (.long q1), .second, .val (.long q2), .second, .val (.long q3), .second, .val (.long q4), .second, .val (.int p5), .unset, .unset, .unset, .unset, .unset, .unset, .unset, .unset, .unset, .unset, .unset, .unset] [])) t := by
        intro t h
        refine k56 t ?_
        show Steps p.tables e below (s₁.setTop (mkF m 34 #[.val (.long q0), .second, .val (.long q1), .second, .val (.long q2), .second, .val (.long q3), .second, .val (.long q4), .second, .val (.int p5), .val (.long c0), .second, .val (.long c1), .second, .unset, .unset, .unset, .unset, .unset, .unset, .unset, .unset] [(.int (p5 &&& (4 : Int32)))])) _
        refine XS.ifYes X0.here hx rfl (pc0 := 34) (pc' := 42) rfl (hb hby at_34) rfl ((if0 _ _).trans (teq c34_57).1) (by decide) (by decide) ?_
        refine XS.lload X0.here hx rfl (hb hby at_42) rfl ?_
        exact h
      exact ⟨q3, trivial, k58⟩
    · skip
      have k59 : ∀ t, Steps p.tables e below (s₁.setTop (mkF m 44 #[.val (.long q0), .second, .val (.long q1), .second, .val (.long q2), .second, .val (.long q3), .second, .val (.long q4), .second, .val (.int p5), .val (.long c0), .second, .val (.long c1), .second, .unset, .unset, .unset, .unset, .unset, .unset, .unset, .unset] [(.long q2)])) t → Steps p.tables e below (s₁.setTop (mkF m 0 #[.val (.long q0), .second, .val (.long q1), .second, .val (.long q2), .second, .val (.long q3), .second, .val (.long q4), .second, .val (.int p5), .unset, .unset, .unset, .unset, .unset, .unset, .unset, .unset, .unset, .unset, .unset, .unset] [])) t := by
        intro t h
        refine k56 t ?_
        show Steps p.tables e below (s₁.setTop (mkF m 34 #[.val (.long q0), .second, .val (.long q1), .second, .val (.long q2), .second, .val (.long q3), .second, .val (.long q4), .second, .val (.int p5), .val (.long c0), .second, .val (.long c1), .second, .unset, .unset, .unset, .unset, .unset, .unset, .unset, .unset] [(.int (p5 &&& (4 : Int32)))])) _
        refine XS.ifNo X0.here hx rfl (hb hby at_34) rfl ((if0 _ _).trans (feq c34_57).1) ?_
        refine XS.lload X0.here hx rfl (hb hby at_37) rfl ?_
        refine XS.goto X0.here hx rfl (pc0 := 39) (pc' := 44) rfl (hb hby at_39) (by decide) (by decide) ?_
        exact h
      exact ⟨q2, trivial, k59⟩
  have k60 : ∀ t, Steps p.tables e below (s₁.setTop (mkF m 62 #[.val (.long q0), .second, .val (.long q1), .second, .val (.long q2), .second, .val (.long q3), .second, .val (.long q4), .second, .val (.int p5), .val (.long c0), .second, .val (.long c1), .second, .val (.long c2), .second, .val (.int (((p5.toUInt32 >>> ((3 : Int32) &&& 31).toUInt32).toInt32) &&& (1 : Int32))), .val (.int (((p5.toUInt32 >>> ((4 : Int32) &&& 31).toUInt32).toInt32) &&& (1 : Int32))), .unset, .unset, .unset, .unset] [])) t → Steps p.tables e below (s₁.setTop (mkF m 0 #[.val (.long q0), .second, .val (.long q1), .second, .val (.long q2), .second, .val (.long q3), .second, .val (.long q4), .second, .val (.int p5), .unset, .unset, .unset, .unset, .unset, .unset, .unset, .unset, .unset, .unset, .unset, .unset] [])) t := by
    intro t h
    refine k55 t ?_
    refine XS.lstore X0.here hx rfl (hb hby at_44) rfl (l' := #[.val (.long q0), .second, .val (.long q1), .second, .val (.long q2), .second, .val (.long q3), .second, .val (.long q4), .second, .val (.int p5), .val (.long c0), .second, .val (.long c1), .second, .val (.long c2), .second, .unset, .unset, .unset, .unset, .unset, .unset]) rfl ?_
    refine XS.iload X0.here hx rfl (hb hby at_46) rfl ?_
    refine XS.iconst X0.here hx rfl (hb hby at_48) ?_
    refine XS.iushr X0.here hx rfl (hb hby at_49) rfl ?_
    refine XS.iconst X0.here hx rfl (hb hby at_50) ?_
    refine XS.iand X0.here hx rfl (hb hby at_51) rfl ?_
    refine XS.istore X0.here hx rfl (hb hby at_52) rfl (l' := #[.val (.long q0), .second, .val (.long q1), .second, .val (.long q2), .second, .val (.long q3), .second, .val (.long q4), .second, .val (.int p5), .val (.long c0), .second, .val (.long c1), .second, .val (.long c2), .second, .val (.int (((p5.toUInt32 >>> ((3 : Int32) &&& 31).toUInt32).toInt32) &&& (1 : Int32))), .unset, .unset, .unset, .unset, .unset]) rfl ?_
    refine XS.iload X0.here hx rfl (hb hby at_54) rfl ?_
    refine XS.iconst X0.here hx rfl (hb hby at_56) ?_
    refine XS.iushr X0.here hx rfl (hb hby at_57) rfl ?_
    refine XS.iconst X0.here hx rfl (hb hby at_58) ?_
    refine XS.iand X0.here hx rfl (hb hby at_59) rfl ?_
    refine XS.istore X0.here hx rfl (hb hby at_60) rfl (l' := #[.val (.long q0), .second, .val (.long q1), .second, .val (.long q2), .second, .val (.long q3), .second, .val (.long q4), .second, .val (.int p5), .val (.long c0), .second, .val (.long c1), .second, .val (.long c2), .second, .val (.int (((p5.toUInt32 >>> ((3 : Int32) &&& 31).toUInt32).toInt32) &&& (1 : Int32))), .val (.int (((p5.toUInt32 >>> ((4 : Int32) &&& 31).toUInt32).toInt32) &&& (1 : Int32))), .unset, .unset, .unset, .unset]) rfl ?_
    exact h
  obtain ⟨at17, hat17⟩ : ∃ z : Int32, z = (((p5.toUInt32 >>> ((3 : Int32) &&& 31).toUInt32).toInt32) &&& (1 : Int32)) := ⟨_, rfl⟩
  have k61 : ∀ t, Steps p.tables e below (s₁.setTop (mkF m 62 #[.val (.long q0), .second, .val (.long q1), .second, .val (.long q2), .second, .val (.long q3), .second, .val (.long q4), .second, .val (.int p5), .val (.long c0), .second, .val (.long c1), .second, .val (.long c2), .second, .val (.int at17), .val (.int (((p5.toUInt32 >>> ((4 : Int32) &&& 31).toUInt32).toInt32) &&& (1 : Int32))), .unset, .unset, .unset, .unset] [])) t → Steps p.tables e below (s₁.setTop (mkF m 0 #[.val (.long q0), .second, .val (.long q1), .second, .val (.long q2), .second, .val (.long q3), .second, .val (.long q4), .second, .val (.int p5), .unset, .unset, .unset, .unset, .unset, .unset, .unset, .unset, .unset, .unset, .unset, .unset] [])) t := by rw [hat17]; exact k60
  obtain ⟨oa18, hoa18⟩ : ∃ z : Int32, z = (((p5.toUInt32 >>> ((4 : Int32) &&& 31).toUInt32).toInt32) &&& (1 : Int32)) := ⟨_, rfl⟩
  have k62 : ∀ t, Steps p.tables e below (s₁.setTop (mkF m 62 #[.val (.long q0), .second, .val (.long q1), .second, .val (.long q2), .second, .val (.long q3), .second, .val (.long q4), .second, .val (.int p5), .val (.long c0), .second, .val (.long c1), .second, .val (.long c2), .second, .val (.int at17), .val (.int oa18), .unset, .unset, .unset, .unset] [])) t → Steps p.tables e below (s₁.setTop (mkF m 0 #[.val (.long q0), .second, .val (.long q1), .second, .val (.long q2), .second, .val (.long q3), .second, .val (.long q4), .second, .val (.int p5), .unset, .unset, .unset, .unset, .unset, .unset, .unset, .unset, .unset, .unset, .unset, .unset] [])) t := by rw [hoa18]; exact k61
  have hat0 : at17 = 0 ∨ at17 = 1 := by rw [hat17]; exact and_one _
  have hoa0 : oa18 = 0 ∨ oa18 = 1 := by rw [hoa18]; exact and_one _
  obtain ⟨T63, h63, k63, X63, e63, E63, A63, st63⟩ := newP X0 hx hZ (hw _ (List.mem_of_getElem? (i := 0) rfl)) e0 (g := (mkF m 63 #[.val (.long q0), .second, .val (.long q1), .second, .val (.long q2), .second, .val (.long q3), .second, .val (.long q4), .second, .val (.int p5), .val (.long c0), .second, .val (.long c1), .second, .val (.long c2), .second, .val (.int at17), .val (.int oa18), .unset, .unset, .unset, .unset] [(.int (4 : Int32))])) rfl (hb hby at_63) rfl (by decide) (cap := 4) (by decide) (by decide) (by decide) (by decide)
  obtain ⟨b63, g63⟩ : ∃ z, z = h0.size := ⟨_, rfl⟩
  rw [← g63] at A63 st63
  have g_b63 : n0 ≤ b63 := Nat.le_trans Z0 (Nat.le_of_eq g63.symm)
  have sz_b63 : h0.size ≤ b63 := Nat.le_trans K0.1 (Nat.le_of_eq g63.symm)
  have Z64 : n0 ≤ h63.size := Nat.le_trans Z0 E63.1
  have K65 := K0.ext E63
  have V_b63 : Arv Z h63 b63 k63 .long (4 : Int32) [(.long (0 : Int64)), (.long (0 : Int64)), (.long (0 : Int64)), (.long (0 : Int64))] (.long (0 : Int64)) := (Arv.new A63 (by decide)).pad (pad_rep [] (.long (0 : Int64)) 4)
  obtain ⟨T66, h66, k66, X66, e66, E66, A66, st66⟩ := newP X63 hx hZ (hw _ (List.mem_of_getElem? (i := 0) rfl)) e63 (g := (mkF m 68 #[.val (.long q0), .second, .val (.long q1), .second, .val (.long q2), .second, .val (.long q3), .second, .val (.long q4), .second, .val (.int p5), .val (.long c0), .second, .val (.long c1), .second, .val (.long c2), .second, .val (.int at17), .val (.int oa18), .val (.ref b63), .unset, .unset, .unset] [(.int (4 : Int32))])) rfl (hb hby at_68) rfl (by decide) (cap := 4) (by decide) (by decide) (by decide) (by decide)
  obtain ⟨b66, g66⟩ : ∃ z, z = h63.size := ⟨_, rfl⟩
  rw [← g66] at A66 st66
  have ne_b63_b66 : b63 ≠ b66 := Nat.ne_of_lt (Nat.lt_of_lt_of_le V_b63.lt (Nat.le_of_eq g66.symm))
  have g_b66 : n0 ≤ b66 := Nat.le_trans Z64 (Nat.le_of_eq g66.symm)
  have sz_b66 : h0.size ≤ b66 := Nat.le_trans K65.1 (Nat.le_of_eq g66.symm)
  have f67 := V_b63.ext E66
  have Z68 : n0 ≤ h66.size := Nat.le_trans Z64 E66.1
  have K69 := K65.ext E66
  have V_b66 : Arv Z h66 b66 k66 .long (4 : Int32) [(.long (0 : Int64)), (.long (0 : Int64)), (.long (0 : Int64)), (.long (0 : Int64))] (.long (0 : Int64)) := (Arv.new A66 (by decide)).pad (pad_rep [] (.long (0 : Int64)) 4)
  obtain ⟨cl70, Ar70, q70, S70, Ng70, H70, G70⟩ := id f67
  have hin70 : ¬ ((0 : Int32) < 0 ∨ cl70.slots.size ≤ ((0 : Int32)).toNatClampNeg) := inb_of S70 ⟨by decide, by decide⟩
  obtain ⟨T70, h70, X70, e70, W70, st70⟩ := stJ X66 hx hZ e66 Ar70 (j := (0 : Int32)) hin70 (g := (mkF m 80 #[.val (.long q0), .second, .val (.long q1), .second, .val (.long q2), .second, .val (.long q3), .second, .val (.long q4), .second, .val (.int p5), .val (.long c0), .second, .val (.long c1), .second, .val (.long c2), .second, .val (.int at17), .val (.int oa18), .val (.ref b63), .val (.ref b66), .unset, .unset] [(.long (q0 ^^^ (-1 : Int64))), (.int (0 : Int32)), (.ref b63)])) rfl rfl (hb hby at_80)
  have V70 : Arv Z h70 b63 k63 .long (4 : Int32) [(.long (q0 ^^^ (-1 : Int64))), (.long (0 : Int64)), (.long (0 : Int64)), (.long (0 : Int64))] (.long (0 : Int64)) := Arv.set Ar70 q70 S70 Ng70 H70 G70 rfl W70 0 rfl (Nat.le_of_ble_eq_true rfl)
  have f71 := V_b66.other W70 (Ne.symm ne_b63_b66)
  have Z72 : n0 ≤ h70.size := Nat.le_trans Z68 (Keep.of_wr W70).1
  have K73 := K69.wr W70 (Or.inr sz_b63)
  have N70 := Fr.snoc X70 N0 g_b63
  obtain ⟨cl74, Ar74, q74, S74, Ng74, H74, G74⟩ := id V70
  have hin74 : ¬ ((3 : Int32) < 0 ∨ cl74.slots.size ≤ ((3 : Int32)).toNatClampNeg) := inb_of S74 ⟨by decide, by decide⟩
  obtain ⟨T74, h74, X74, e74, W74, st74⟩ := stJ X70 hx hZ e70 Ar74 (j := (3 : Int32)) hin74 (g := (mkF m 90 #[.val (.long q0), .second, .val (.long q1), .second, .val (.long q2), .second, .val (.long q3), .second, .val (.long q4), .second, .val (.int p5), .val (.long c0), .second, .val (.long c1), .second, .val (.long c2), .second, .val (.int at17), .val (.int oa18), .val (.ref b63), .val (.ref b66), .unset, .unset] [(.long (q2 ^^^ (-1 : Int64))), (.int (3 : Int32)), (.ref b63)])) rfl rfl (hb hby at_90)
  have V74 : Arv Z h74 b63 k63 .long (4 : Int32) [(.long (q0 ^^^ (-1 : Int64))), (.long (0 : Int64)), (.long (0 : Int64)), (.long (q2 ^^^ (-1 : Int64)))] (.long (0 : Int64)) := Arv.set Ar74 q74 S74 Ng74 H74 G74 rfl W74 3 rfl (Nat.le_of_ble_eq_true rfl)
  have f75 := f71.other W74 (Ne.symm ne_b63_b66)
  have Z76 : n0 ≤ h74.size := Nat.le_trans Z72 (Keep.of_wr W74).1
  have K77 := K73.wr W74 (Or.inr sz_b63)
  have N74 := Fr.snoc X74 N70 g_b63
  have k78 : ∀ t, Steps p.tables e below (T74.setTop (mkF m 91 #[.val (.long q0), .second, .val (.long q1), .second, .val (.long q2), .second, .val (.long q3), .second, .val (.long q4), .second, .val (.int p5), .val (.long c0), .second, .val (.long c1), .second, .val (.long c2), .second, .val (.int at17), .val (.int oa18), .val (.ref b63), .val (.ref b66), .unset, .unset] [])) t → Steps p.tables e below (s₁.setTop (mkF m 0 #[.val (.long q0), .second, .val (.long q1), .second, .val (.long q2), .second, .val (.long q3), .second, .val (.long q4), .second, .val (.int p5), .unset, .unset, .unset, .unset, .unset, .unset, .unset, .unset, .unset, .unset, .unset, .unset] [])) t := by
    intro t h
    refine k62 t ?_
    refine XS.iconst X0.here hx rfl (hb hby at_62) ?_
    refine st63 _ ?_
    refine XS.astore X63.here hx rfl (hb hby at_65) rfl rfl (l' := #[.val (.long q0), .second, .val (.long q1), .second, .val (.long q2), .second, .val (.long q3), .second, .val (.long q4), .second, .val (.int p5), .val (.long c0), .second, .val (.long c1), .second, .val (.long c2), .second, .val (.int at17), .val (.int oa18), .val (.ref b63), .unset, .unset, .unset]) rfl ?_
    refine XS.iconst X63.here hx rfl (hb hby at_67) ?_
    refine st66 _ ?_
    refine XS.astore X66.here hx rfl (hb hby at_70) rfl rfl (l' := #[.val (.long q0), .second, .val (.long q1), .second, .val (.long q2), .second, .val (.long q3), .second, .val (.long q4), .second, .val (.int p5), .val (.long c0), .second, .val (.long c1), .second, .val (.long c2), .second, .val (.int at17), .val (.int oa18), .val (.ref b63), .val (.ref b66), .unset, .unset]) rfl ?_
    refine XS.aload X66.here hx rfl (hb hby at_72) rfl rfl ?_
    refine XS.iconst X66.here hx rfl (hb hby at_74) ?_
    refine XS.lloadN X66.here hx rfl (hb hby at_75) rfl ?_
    refine X66.ldc2Long hx hown (mvT hZ (hw _ (List.mem_of_getElem? (i := 1) rfl))) (g := (mkF m 76 #[.val (.long q0), .second, .val (.long q1), .second, .val (.long q2), .second, .val (.long q3), .second, .val (.long q4), .second, .val (.int p5), .val (.long c0), .second, .val (.long c1), .second, .val (.long c2), .second, .val (.int at17), .val (.int oa18), .val (.ref b63), .val (.ref b66), .unset, .unset] [(.long q0), (.int (0 : Int32)), (.ref b63)])) rfl (hb hby at_76) _ ?_
    refine XS.lxor X66.here hx rfl (hb hby at_79) rfl ?_
    refine st70 _ ?_
    refine XS.aload X70.here hx rfl (hb hby at_81) rfl rfl ?_
    refine XS.iconst X70.here hx rfl (hb hby at_83) ?_
    refine XS.lload X70.here hx rfl (hb hby at_84) rfl ?_
    refine X70.ldc2Long hx hown (mvT hZ (hw _ (List.mem_of_getElem? (i := 1) rfl))) (g := (mkF m 86 #[.val (.long q0), .second, .val (.long q1), .second, .val (.long q2), .second, .val (.long q3), .second, .val (.long q4), .second, .val (.int p5), .val (.long c0), .second, .val (.long c1), .second, .val (.long c2), .second, .val (.int at17), .val (.int oa18), .val (.ref b63), .val (.ref b66), .unset, .unset] [(.long q2), (.int (3 : Int32)), (.ref b63)])) rfl (hb hby at_86) _ ?_
    refine XS.lxor X70.here hx rfl (hb hby at_89) rfl ?_
    refine st74 _ ?_
    exact h
  obtain ⟨T79, h79, L79, j17, j18, X79, e79, N79, Z79, K79, h79p, k79⟩ : ∃ (T79 : State) (h79 : Heap) (L79 : List Loc) (j17 : Int32) (j18 : Int32), Stand p l e room_1 s m #[(.long q0), (.long q1), (.long q2), (.long q3), (.long q4), (.int p5)] below meth c T79 L79 2 8 ∧ T79.heap = h79 ∧ Fr n0 L79 ∧ n0 ≤ h79.size ∧ Keep h0 h79 [] ∧ (True) ∧ ∀ t, Steps p.tables e below (T79.setTop (mkF m 172 #[.val (.long q0), .second, .val (.long q1), .second, .val (.long q2), .second, .val (.long q3), .second, .val (.long q4), .second, .val (.int p5), .val (.long c0), .second, .val (.long c1), .second, .val (.long c2), .second, .val (.int j17), .val (.int j18), .val (.ref b63), .val (.ref b66), .val (.int (own_ck q0 q1 q2 c0 c1 c2)), .unset] [])) t → Steps p.tables e below (s₁.setTop (mkF m 0 #[.val (.long q0), .second, .val (.long q1), .second, .val (.long q2), .second, .val (.long q3), .second, .val (.long q4), .second, .val (.int p5), .unset, .unset, .unset, .unset, .unset, .unset, .unset, .unset, .unset, .unset, .unset, .unset] [])) t := by
    have k80 : ∀ t, Steps p.tables e below (T74.setTop (mkF m 93 #[.val (.long q0), .second, .val (.long q1), .second, .val (.long q2), .second, .val (.long q3), .second, .val (.long q4), .second, .val (.int p5), .val (.long c0), .second, .val (.long c1), .second, .val (.long c2), .second, .val (.int at17), .val (.int oa18), .val (.ref b63), .val (.ref b66), .unset, .unset] [(.ref b63)])) t → Steps p.tables e below (s₁.setTop (mkF m 0 #[.val (.long q0), .second, .val (.long q1), .second, .val (.long q2), .second, .val (.long q3), .second, .val (.long q4), .second, .val (.int p5), .unset, .unset, .unset, .unset, .unset, .unset, .unset, .unset, .unset, .unset, .unset, .unset] [])) t := by
      intro t h
      refine k78 t ?_
      refine XS.aload X74.here hx rfl (hb hby at_91) rfl rfl ?_
      exact h
    clear hat17 hoa18
    rcases hat0 with rfl | rfl <;> rcases hoa0 with rfl | rfl
    · skip
      obtain ⟨cl81, Ar81, q81, S81, Ng81, H81, G81⟩ := id V74
      have hin81 : ¬ ((0 : Int32) < 0 ∨ cl81.slots.size ≤ ((0 : Int32)).toNatClampNeg) := inb_of S81 ⟨by decide, by decide⟩
      obtain ⟨T81, h81, X81, e81, W81, st81⟩ := stJ X74 hx hZ e74 Ar81 (j := (0 : Int32)) hin81 (g := (mkF m 96 #[.val (.long q0), .second, .val (.long q1), .second, .val (.long q2), .second, .val (.long q3), .second, .val (.long q4), .second, .val (.int p5), .val (.long c0), .second, .val (.long c1), .second, .val (.long c2), .second, .val (.int (0 : Int32)), .val (.int (0 : Int32)), .val (.ref b63), .val (.ref b66), .unset, .unset] [(.long q0), (.int (0 : Int32)), (.ref b63)])) rfl rfl (hb hby at_96)
      have V81 : Arv Z h81 b63 k63 .long (4 : Int32) [(.long q0), (.long (0 : Int64)), (.long (0 : Int64)), (.long (q2 ^^^ (-1 : Int64)))] (.long (0 : Int64)) := Arv.set Ar81 q81 S81 Ng81 H81 G81 rfl W81 0 rfl (Nat.le_of_ble_eq_true rfl)
      have f82 := f75.other W81 (Ne.symm ne_b63_b66)
      have Z83 : n0 ≤ h81.size := Nat.le_trans Z76 (Keep.of_wr W81).1
      have K84 := K77.wr W81 (Or.inr sz_b63)
      have N81 := Fr.snoc X81 N74 g_b63
      obtain ⟨cl85, Ar85, q85, S85, Ng85, H85, G85⟩ := id V81
      have hin85 : ¬ ((1 : Int32) < 0 ∨ cl85.slots.size ≤ ((1 : Int32)).toNatClampNeg) := inb_of S85 ⟨by decide, by decide⟩
      obtain ⟨T85, h85, X85, e85, W85, st85⟩ := stJ X81 hx hZ e81 Ar85 (j := (1 : Int32)) hin85 (g := (mkF m 104 #[.val (.long q0), .second, .val (.long q1), .second, .val (.long q2), .second, .val (.long q3), .second, .val (.long q4), .second, .val (.int p5), .val (.long c0), .second, .val (.long c1), .second, .val (.long c2), .second, .val (.int (0 : Int32)), .val (.int (0 : Int32)), .val (.ref b63), .val (.ref b66), .unset, .unset] [(.long q1), (.int (1 : Int32)), (.ref b63)])) rfl rfl (hb hby at_104)
      have V85 : Arv Z h85 b63 k63 .long (4 : Int32) [(.long q0), (.long q1), (.long (0 : Int64)), (.long (q2 ^^^ (-1 : Int64)))] (.long (0 : Int64)) := Arv.set Ar85 q85 S85 Ng85 H85 G85 rfl W85 1 rfl (Nat.le_of_ble_eq_true rfl)
      have f86 := f82.other W85 (Ne.symm ne_b63_b66)
      have Z87 : n0 ≤ h85.size := Nat.le_trans Z83 (Keep.of_wr W85).1
      have K88 := K84.wr W85 (Or.inr sz_b63)
      have N85 := Fr.snoc X85 N81 g_b63
      obtain ⟨cl89, Ar89, q89, S89, Ng89, H89, G89⟩ := id V85
      have hin89 : ¬ ((2 : Int32) < 0 ∨ cl89.slots.size ≤ ((2 : Int32)).toNatClampNeg) := inb_of S89 ⟨by decide, by decide⟩
      obtain ⟨T89, h89, X89, e89, W89, st89⟩ := stJ X85 hx hZ e85 Ar89 (j := (2 : Int32)) hin89 (g := (mkF m 113 #[.val (.long q0), .second, .val (.long q1), .second, .val (.long q2), .second, .val (.long q3), .second, .val (.long q4), .second, .val (.int p5), .val (.long c0), .second, .val (.long c1), .second, .val (.long c2), .second, .val (.int (0 : Int32)), .val (.int (0 : Int32)), .val (.ref b63), .val (.ref b66), .unset, .unset] [(.long q2), (.int (2 : Int32)), (.ref b63)])) rfl rfl (hb hby at_113)
      have V89 : Arv Z h89 b63 k63 .long (4 : Int32) [(.long q0), (.long q1), (.long q2), (.long (q2 ^^^ (-1 : Int64)))] (.long (0 : Int64)) := Arv.set Ar89 q89 S89 Ng89 H89 G89 rfl W89 2 rfl (Nat.le_of_ble_eq_true rfl)
      have f90 := f86.other W89 (Ne.symm ne_b63_b66)
      have Z91 : n0 ≤ h89.size := Nat.le_trans Z87 (Keep.of_wr W89).1
      have K92 := K88.wr W89 (Or.inr sz_b63)
      have N89 := Fr.snoc X89 N85 g_b63
      obtain ⟨cl93, Ar93, q93, S93, Ng93, H93, G93⟩ := id f90
      have hin93 : ¬ ((0 : Int32) < 0 ∨ cl93.slots.size ≤ ((0 : Int32)).toNatClampNeg) := inb_of S93 ⟨by decide, by decide⟩
      obtain ⟨T93, h93, X93, e93, W93, st93⟩ := stJ X89 hx hZ e89 Ar93 (j := (0 : Int32)) hin93 (g := (mkF m 123 #[.val (.long q0), .second, .val (.long q1), .second, .val (.long q2), .second, .val (.long q3), .second, .val (.long q4), .second, .val (.int p5), .val (.long c0), .second, .val (.long c1), .second, .val (.long c2), .second, .val (.int (0 : Int32)), .val (.int (0 : Int32)), .val (.ref b63), .val (.ref b66), .unset, .unset] [(.long (c0 ^^^ (-1 : Int64))), (.int (0 : Int32)), (.ref b66)])) rfl rfl (hb hby at_123)
      have V93 : Arv Z h93 b66 k66 .long (4 : Int32) [(.long (c0 ^^^ (-1 : Int64))), (.long (0 : Int64)), (.long (0 : Int64)), (.long (0 : Int64))] (.long (0 : Int64)) := Arv.set Ar93 q93 S93 Ng93 H93 G93 rfl W93 0 rfl (Nat.le_of_ble_eq_true rfl)
      have f94 := V89.other W93 ne_b63_b66
      have Z95 : n0 ≤ h93.size := Nat.le_trans Z91 (Keep.of_wr W93).1
      have K96 := K92.wr W93 (Or.inr sz_b66)
      have N93 := Fr.snoc X93 N89 g_b66
      obtain ⟨cl97, Ar97, q97, S97, Ng97, H97, G97⟩ := id V93
      have hin97 : ¬ ((3 : Int32) < 0 ∨ cl97.slots.size ≤ ((3 : Int32)).toNatClampNeg) := inb_of S97 ⟨by decide, by decide⟩
      obtain ⟨T97, h97, X97, e97, W97, st97⟩ := stJ X93 hx hZ e93 Ar97 (j := (3 : Int32)) hin97 (g := (mkF m 133 #[.val (.long q0), .second, .val (.long q1), .second, .val (.long q2), .second, .val (.long q3), .second, .val (.long q4), .second, .val (.int p5), .val (.long c0), .second, .val (.long c1), .second, .val (.long c2), .second, .val (.int (0 : Int32)), .val (.int (0 : Int32)), .val (.ref b63), .val (.ref b66), .unset, .unset] [(.long (c2 ^^^ (-1 : Int64))), (.int (3 : Int32)), (.ref b66)])) rfl rfl (hb hby at_133)
      have V97 : Arv Z h97 b66 k66 .long (4 : Int32) [(.long (c0 ^^^ (-1 : Int64))), (.long (0 : Int64)), (.long (0 : Int64)), (.long (c2 ^^^ (-1 : Int64)))] (.long (0 : Int64)) := Arv.set Ar97 q97 S97 Ng97 H97 G97 rfl W97 3 rfl (Nat.le_of_ble_eq_true rfl)
      have f98 := f94.other W97 ne_b63_b66
      have Z99 : n0 ≤ h97.size := Nat.le_trans Z95 (Keep.of_wr W97).1
      have K100 := K96.wr W97 (Or.inr sz_b66)
      have N97 := Fr.snoc X97 N93 g_b66
      obtain ⟨cl101, Ar101, q101, S101, Ng101, H101, G101⟩ := id V97
      have hin101 : ¬ ((0 : Int32) < 0 ∨ cl101.slots.size ≤ ((0 : Int32)).toNatClampNeg) := inb_of S101 ⟨by decide, by decide⟩
      obtain ⟨T101, h101, X101, e101, W101, st101⟩ := stJ X97 hx hZ e97 Ar101 (j := (0 : Int32)) hin101 (g := (mkF m 140 #[.val (.long q0), .second, .val (.long q1), .second, .val (.long q2), .second, .val (.long q3), .second, .val (.long q4), .second, .val (.int p5), .val (.long c0), .second, .val (.long c1), .second, .val (.long c2), .second, .val (.int (0 : Int32)), .val (.int (0 : Int32)), .val (.ref b63), .val (.ref b66), .unset, .unset] [(.long c0), (.int (0 : Int32)), (.ref b66)])) rfl rfl (hb hby at_140)
      have V101 : Arv Z h101 b66 k66 .long (4 : Int32) [(.long c0), (.long (0 : Int64)), (.long (0 : Int64)), (.long (c2 ^^^ (-1 : Int64)))] (.long (0 : Int64)) := Arv.set Ar101 q101 S101 Ng101 H101 G101 rfl W101 0 rfl (Nat.le_of_ble_eq_true rfl)
      have f102 := f98.other W101 ne_b63_b66
      have Z103 : n0 ≤ h101.size := Nat.le_trans Z99 (Keep.of_wr W101).1
      have K104 := K100.wr W101 (Or.inr sz_b66)
      have N101 := Fr.snoc X101 N97 g_b66
      obtain ⟨cl105, Ar105, q105, S105, Ng105, H105, G105⟩ := id V101
      have hin105 : ¬ ((1 : Int32) < 0 ∨ cl105.slots.size ≤ ((1 : Int32)).toNatClampNeg) := inb_of S105 ⟨by decide, by decide⟩
      obtain ⟨T105, h105, X105, e105, W105, st105⟩ := stJ X101 hx hZ e101 Ar105 (j := (1 : Int32)) hin105 (g := (mkF m 149 #[.val (.long q0), .second, .val (.long q1), .second, .val (.long q2), .second, .val (.long q3), .second, .val (.long q4), .second, .val (.int p5), .val (.long c0), .second, .val (.long c1), .second, .val (.long c2), .second, .val (.int (0 : Int32)), .val (.int (0 : Int32)), .val (.ref b63), .val (.ref b66), .unset, .unset] [(.long c1), (.int (1 : Int32)), (.ref b66)])) rfl rfl (hb hby at_149)
      have V105 : Arv Z h105 b66 k66 .long (4 : Int32) [(.long c0), (.long c1), (.long (0 : Int64)), (.long (c2 ^^^ (-1 : Int64)))] (.long (0 : Int64)) := Arv.set Ar105 q105 S105 Ng105 H105 G105 rfl W105 1 rfl (Nat.le_of_ble_eq_true rfl)
      have f106 := f102.other W105 ne_b63_b66
      have Z107 : n0 ≤ h105.size := Nat.le_trans Z103 (Keep.of_wr W105).1
      have K108 := K104.wr W105 (Or.inr sz_b66)
      have N105 := Fr.snoc X105 N101 g_b66
      obtain ⟨cl109, Ar109, q109, S109, Ng109, H109, G109⟩ := id V105
      have hin109 : ¬ ((2 : Int32) < 0 ∨ cl109.slots.size ≤ ((2 : Int32)).toNatClampNeg) := inb_of S109 ⟨by decide, by decide⟩
      obtain ⟨T109, h109, X109, e109, W109, st109⟩ := stJ X105 hx hZ e105 Ar109 (j := (2 : Int32)) hin109 (g := (mkF m 158 #[.val (.long q0), .second, .val (.long q1), .second, .val (.long q2), .second, .val (.long q3), .second, .val (.long q4), .second, .val (.int p5), .val (.long c0), .second, .val (.long c1), .second, .val (.long c2), .second, .val (.int (0 : Int32)), .val (.int (0 : Int32)), .val (.ref b63), .val (.ref b66), .unset, .unset] [(.long c2), (.int (2 : Int32)), (.ref b66)])) rfl rfl (hb hby at_158)
      have V109 : Arv Z h109 b66 k66 .long (4 : Int32) [(.long c0), (.long c1), (.long c2), (.long (c2 ^^^ (-1 : Int64)))] (.long (0 : Int64)) := Arv.set Ar109 q109 S109 Ng109 H109 G109 rfl W109 2 rfl (Nat.le_of_ble_eq_true rfl)
      have f110 := f106.other W109 ne_b63_b66
      have Z111 : n0 ≤ h109.size := Nat.le_trans Z107 (Keep.of_wr W109).1
      have K112 := K108.wr W109 (Or.inr sz_b66)
      have N109 := Fr.snoc X109 N105 g_b66
      obtain ⟨_, _, ⟨T113, L113, k113, n113⟩, -, X113, ⟨Lc113, hQ113, l113, y113, z113⟩, st113⟩ := Jvm.LawKit.callS X109 hx (y := (⟨"com/example/mynah/mynah/rpsl/PrefixRange", "compareKeys", "([JI[JI)I"⟩ : MethodName)) hown (mvT hZ (hw _ (List.mem_of_getElem? (i := 2) rfl))) (mvT hZ (hw _ (List.mem_of_getElem? (i := 3) rfl))) (mvT hZ (hw _ (List.mem_of_getElem? (i := 4) rfl))) (mvT hZ (hw _ (List.mem_of_getElem? (i := 5) rfl))) (by decide) (backOf (W := 0) (rmK l Z a0 hw [] b63 (0 : Int32) b66 (0 : Int32) k63 k66 [(.long q0), (.long q1), (.long q2), (.long (q2 ^^^ (-1 : Int64)))] [(.long c0), (.long c1), (.long c2), (.long (c2 ^^^ (-1 : Int64)))] q0 q1 q2 c0 c1 c2 h109 n0 Z111 f110 V109 ⟨by decide, by decide⟩ rfl ⟨by decide, by decide⟩ rfl ⟨by decide, by decide⟩ rfl ⟨by decide, by decide⟩ rfl ⟨by decide, by decide⟩ rfl ⟨by decide, by decide⟩ rfl) hZ (hw _ (List.mem_of_getElem? (i := 5) rfl)) (hw _ (List.mem_of_getElem? (i := 4) rfl)) (by decide) (by decide)) (g := (mkF m 167 #[.val (.long q0), .second, .val (.long q1), .second, .val (.long q2), .second, .val (.long q3), .second, .val (.long q4), .second, .val (.int p5), .val (.long c0), .second, .val (.long c1), .second, .val (.long c2), .second, .val (.int (0 : Int32)), .val (.int (0 : Int32)), .val (.ref b63), .val (.ref b66), .unset, .unset] [(.int (0 : Int32)), (.ref b66), (.int (0 : Int32)), (.ref b63)])) rfl (by rw [hml]; rfl) (argsL := [(.ref b63), (.int (0 : Int32)), (.ref b66), (.int (0 : Int32))]) (rest := []) (lenOf own_pd_1 rfl) rfl (by show 2 * 0 + _ ≤ _; exact Nat.le_of_eq rfl) (hb hby at_167) (fun _ _ => ⟨rfl, e109, (by decide : 2 + 0 ≤ _), (by decide : 8 + 0 ≤ _)⟩)
      dsimp only [Pt.U, Pt.locs, Pt.cells, Pt.slots] at X113 l113 y113 z113 st113 hQ113
      subst l113 y113 z113
      obtain ⟨rfl, Nq113, eq113⟩ := hQ113
      have N113 := Fr.app N109 Nq113
      have k114 : ∀ t, Steps p.tables e below (T113.setTop (mkF m 172 #[.val (.long q0), .second, .val (.long q1), .second, .val (.long q2), .second, .val (.long q3), .second, .val (.long q4), .second, .val (.int p5), .val (.long c0), .second, .val (.long c1), .second, .val (.long c2), .second, .val (.int (0 : Int32)), .val (.int (0 : Int32)), .val (.ref b63), .val (.ref b66), .val (.int (own_ck q0 q1 q2 c0 c1 c2)), .unset] [])) t → Steps p.tables e below (s₁.setTop (mkF m 0 #[.val (.long q0), .second, .val (.long q1), .second, .val (.long q2), .second, .val (.long q3), .second, .val (.long q4), .second, .val (.int p5), .unset, .unset, .unset, .unset, .unset, .unset, .unset, .unset, .unset, .unset, .unset, .unset] [])) t := by
        intro t h
        refine k80 t ?_
        refine XS.iload X74.here hx rfl (hb hby at_93) rfl ?_
        refine XS.lloadN X74.here hx rfl (hb hby at_95) rfl ?_
        refine st81 _ ?_
        refine XS.aload X81.here hx rfl (hb hby at_97) rfl rfl ?_
        refine XS.iload X81.here hx rfl (hb hby at_99) rfl ?_
        refine XS.iconst X81.here hx rfl (hb hby at_101) ?_
        refine XS.iadd X81.here hx rfl (hb hby at_102) rfl ?_
        refine XS.lloadN X81.here hx rfl (hb hby at_103) rfl ?_
        refine st85 _ ?_
        refine XS.aload X85.here hx rfl (hb hby at_105) rfl rfl ?_
        refine XS.iload X85.here hx rfl (hb hby at_107) rfl ?_
        refine XS.iconst X85.here hx rfl (hb hby at_109) ?_
        refine XS.iadd X85.here hx rfl (hb hby at_110) rfl ?_
        refine XS.lload X85.here hx rfl (hb hby at_111) rfl ?_
        refine st89 _ ?_
        refine XS.aload X89.here hx rfl (hb hby at_114) rfl rfl ?_
        refine XS.iconst X89.here hx rfl (hb hby at_116) ?_
        refine XS.lload X89.here hx rfl (hb hby at_117) rfl ?_
        refine X89.ldc2Long hx hown (mvT hZ (hw _ (List.mem_of_getElem? (i := 1) rfl))) (g := (mkF m 119 #[.val (.long q0), .second, .val (.long q1), .second, .val (.long q2), .second, .val (.long q3), .second, .val (.long q4), .second, .val (.int p5), .val (.long c0), .second, .val (.long c1), .second, .val (.long c2), .second, .val (.int (0 : Int32)), .val (.int (0 : Int32)), .val (.ref b63), .val (.ref b66), .unset, .unset] [(.long c0), (.int (0 : Int32)), (.ref b66)])) rfl (hb hby at_119) _ ?_
        refine XS.lxor X89.here hx rfl (hb hby at_122) rfl ?_
        refine st93 _ ?_
        refine XS.aload X93.here hx rfl (hb hby at_124) rfl rfl ?_
        refine XS.iconst X93.here hx rfl (hb hby at_126) ?_
        refine XS.lload X93.here hx rfl (hb hby at_127) rfl ?_
        refine X93.ldc2Long hx hown (mvT hZ (hw _ (List.mem_of_getElem? (i := 1) rfl))) (g := (mkF m 129 #[.val (.long q0), .second, .val (.long q1), .second, .val (.long q2), .second, .val (.long q3), .second, .val (.long q4), .second, .val (.int p5), .val (.long c0), .second, .val (.long c1), .second, .val (.long c2), .second, .val (.int (0 : Int32)), .val (.int (0 : Int32)), .val (.ref b63), .val (.ref b66), .unset, .unset] [(.long c2), (.int (3 : Int32)), (.ref b66)])) rfl (hb hby at_129) _ ?_
        refine XS.lxor X93.here hx rfl (hb hby at_132) rfl ?_
        refine st97 _ ?_
        refine XS.aload X97.here hx rfl (hb hby at_134) rfl rfl ?_
        refine XS.iload X97.here hx rfl (hb hby at_136) rfl ?_
        refine XS.lload X97.here hx rfl (hb hby at_138) rfl ?_
        refine st101 _ ?_
        refine XS.aload X101.here hx rfl (hb hby at_141) rfl rfl ?_
        refine XS.iload X101.here hx rfl (hb hby at_143) rfl ?_
        refine XS.iconst X101.here hx rfl (hb hby at_145) ?_
        refine XS.iadd X101.here hx rfl (hb hby at_146) rfl ?_
        refine XS.lload X101.here hx rfl (hb hby at_147) rfl ?_
        refine st105 _ ?_
        refine XS.aload X105.here hx rfl (hb hby at_150) rfl rfl ?_
        refine XS.iload X105.here hx rfl (hb hby at_152) rfl ?_
        refine XS.iconst X105.here hx rfl (hb hby at_154) ?_
        refine XS.iadd X105.here hx rfl (hb hby at_155) rfl ?_
        refine XS.lload X105.here hx rfl (hb hby at_156) rfl ?_
        refine st109 _ ?_
        refine XS.aload X109.here hx rfl (hb hby at_159) rfl rfl ?_
        refine XS.iload X109.here hx rfl (hb hby at_161) rfl ?_
        refine XS.aload X109.here hx rfl (hb hby at_163) rfl rfl ?_
        refine XS.iload X109.here hx rfl (hb hby at_165) rfl ?_
        refine st113 _ ?_
        refine XS.istore X113.here hx rfl (hb hby at_170) rfl (l' := #[.val (.long q0), .second, .val (.long q1), .second, .val (.long q2), .second, .val (.long q3), .second, .val (.long q4), .second, .val (.int p5), .val (.long c0), .second, .val (.long c1), .second, .val (.long c2), .second, .val (.int (0 : Int32)), .val (.int (0 : Int32)), .val (.ref b63), .val (.ref b66), .val (.int (own_ck q0 q1 q2 c0 c1 c2)), .unset]) rfl ?_
        exact h
      exact ⟨T113, _, _, (0 : Int32), (0 : Int32), X113, eq113, N113, Z111, K112, trivial, k114⟩
    · skip
      obtain ⟨cl115, Ar115, q115, S115, Ng115, H115, G115⟩ := id V74
      have hin115 : ¬ ((0 : Int32) < 0 ∨ cl115.slots.size ≤ ((0 : Int32)).toNatClampNeg) := inb_of S115 ⟨by decide, by decide⟩
      obtain ⟨T115, h115, X115, e115, W115, st115⟩ := stJ X74 hx hZ e74 Ar115 (j := (0 : Int32)) hin115 (g := (mkF m 96 #[.val (.long q0), .second, .val (.long q1), .second, .val (.long q2), .second, .val (.long q3), .second, .val (.long q4), .second, .val (.int p5), .val (.long c0), .second, .val (.long c1), .second, .val (.long c2), .second, .val (.int (0 : Int32)), .val (.int (1 : Int32)), .val (.ref b63), .val (.ref b66), .unset, .unset] [(.long q0), (.int (0 : Int32)), (.ref b63)])) rfl rfl (hb hby at_96)
      have V115 : Arv Z h115 b63 k63 .long (4 : Int32) [(.long q0), (.long (0 : Int64)), (.long (0 : Int64)), (.long (q2 ^^^ (-1 : Int64)))] (.long (0 : Int64)) := Arv.set Ar115 q115 S115 Ng115 H115 G115 rfl W115 0 rfl (Nat.le_of_ble_eq_true rfl)
      have f116 := f75.other W115 (Ne.symm ne_b63_b66)
      have Z117 : n0 ≤ h115.size := Nat.le_trans Z76 (Keep.of_wr W115).1
      have K118 := K77.wr W115 (Or.inr sz_b63)
      have N115 := Fr.snoc X115 N74 g_b63
      obtain ⟨cl119, Ar119, q119, S119, Ng119, H119, G119⟩ := id V115
      have hin119 : ¬ ((1 : Int32) < 0 ∨ cl119.slots.size ≤ ((1 : Int32)).toNatClampNeg) := inb_of S119 ⟨by decide, by decide⟩
      obtain ⟨T119, h119, X119, e119, W119, st119⟩ := stJ X115 hx hZ e115 Ar119 (j := (1 : Int32)) hin119 (g := (mkF m 104 #[.val (.long q0), .second, .val (.long q1), .second, .val (.long q2), .second, .val (.long q3), .second, .val (.long q4), .second, .val (.int p5), .val (.long c0), .second, .val (.long c1), .second, .val (.long c2), .second, .val (.int (0 : Int32)), .val (.int (1 : Int32)), .val (.ref b63), .val (.ref b66), .unset, .unset] [(.long q1), (.int (1 : Int32)), (.ref b63)])) rfl rfl (hb hby at_104)
      have V119 : Arv Z h119 b63 k63 .long (4 : Int32) [(.long q0), (.long q1), (.long (0 : Int64)), (.long (q2 ^^^ (-1 : Int64)))] (.long (0 : Int64)) := Arv.set Ar119 q119 S119 Ng119 H119 G119 rfl W119 1 rfl (Nat.le_of_ble_eq_true rfl)
      have f120 := f116.other W119 (Ne.symm ne_b63_b66)
      have Z121 : n0 ≤ h119.size := Nat.le_trans Z117 (Keep.of_wr W119).1
      have K122 := K118.wr W119 (Or.inr sz_b63)
      have N119 := Fr.snoc X119 N115 g_b63
      obtain ⟨cl123, Ar123, q123, S123, Ng123, H123, G123⟩ := id V119
      have hin123 : ¬ ((2 : Int32) < 0 ∨ cl123.slots.size ≤ ((2 : Int32)).toNatClampNeg) := inb_of S123 ⟨by decide, by decide⟩
      obtain ⟨T123, h123, X123, e123, W123, st123⟩ := stJ X119 hx hZ e119 Ar123 (j := (2 : Int32)) hin123 (g := (mkF m 113 #[.val (.long q0), .second, .val (.long q1), .second, .val (.long q2), .second, .val (.long q3), .second, .val (.long q4), .second, .val (.int p5), .val (.long c0), .second, .val (.long c1), .second, .val (.long c2), .second, .val (.int (0 : Int32)), .val (.int (1 : Int32)), .val (.ref b63), .val (.ref b66), .unset, .unset] [(.long q2), (.int (2 : Int32)), (.ref b63)])) rfl rfl (hb hby at_113)
      have V123 : Arv Z h123 b63 k63 .long (4 : Int32) [(.long q0), (.long q1), (.long q2), (.long (q2 ^^^ (-1 : Int64)))] (.long (0 : Int64)) := Arv.set Ar123 q123 S123 Ng123 H123 G123 rfl W123 2 rfl (Nat.le_of_ble_eq_true rfl)
      have f124 := f120.other W123 (Ne.symm ne_b63_b66)
      have Z125 : n0 ≤ h123.size := Nat.le_trans Z121 (Keep.of_wr W123).1
      have K126 := K122.wr W123 (Or.inr sz_b63)
      have N123 := Fr.snoc X123 N119 g_b63
      obtain ⟨cl127, Ar127, q127, S127, Ng127, H127, G127⟩ := id f124
      have hin127 : ¬ ((0 : Int32) < 0 ∨ cl127.slots.size ≤ ((0 : Int32)).toNatClampNeg) := inb_of S127 ⟨by decide, by decide⟩
      obtain ⟨T127, h127, X127, e127, W127, st127⟩ := stJ X123 hx hZ e123 Ar127 (j := (0 : Int32)) hin127 (g := (mkF m 123 #[.val (.long q0), .second, .val (.long q1), .second, .val (.long q2), .second, .val (.long q3), .second, .val (.long q4), .second, .val (.int p5), .val (.long c0), .second, .val (.long c1), .second, .val (.long c2), .second, .val (.int (0 : Int32)), .val (.int (1 : Int32)), .val (.ref b63), .val (.ref b66), .unset, .unset] [(.long (c0 ^^^ (-1 : Int64))), (.int (0 : Int32)), (.ref b66)])) rfl rfl (hb hby at_123)
      have V127 : Arv Z h127 b66 k66 .long (4 : Int32) [(.long (c0 ^^^ (-1 : Int64))), (.long (0 : Int64)), (.long (0 : Int64)), (.long (0 : Int64))] (.long (0 : Int64)) := Arv.set Ar127 q127 S127 Ng127 H127 G127 rfl W127 0 rfl (Nat.le_of_ble_eq_true rfl)
      have f128 := V123.other W127 ne_b63_b66
      have Z129 : n0 ≤ h127.size := Nat.le_trans Z125 (Keep.of_wr W127).1
      have K130 := K126.wr W127 (Or.inr sz_b66)
      have N127 := Fr.snoc X127 N123 g_b66
      obtain ⟨cl131, Ar131, q131, S131, Ng131, H131, G131⟩ := id V127
      have hin131 : ¬ ((3 : Int32) < 0 ∨ cl131.slots.size ≤ ((3 : Int32)).toNatClampNeg) := inb_of S131 ⟨by decide, by decide⟩
      obtain ⟨T131, h131, X131, e131, W131, st131⟩ := stJ X127 hx hZ e127 Ar131 (j := (3 : Int32)) hin131 (g := (mkF m 133 #[.val (.long q0), .second, .val (.long q1), .second, .val (.long q2), .second, .val (.long q3), .second, .val (.long q4), .second, .val (.int p5), .val (.long c0), .second, .val (.long c1), .second, .val (.long c2), .second, .val (.int (0 : Int32)), .val (.int (1 : Int32)), .val (.ref b63), .val (.ref b66), .unset, .unset] [(.long (c2 ^^^ (-1 : Int64))), (.int (3 : Int32)), (.ref b66)])) rfl rfl (hb hby at_133)
      have V131 : Arv Z h131 b66 k66 .long (4 : Int32) [(.long (c0 ^^^ (-1 : Int64))), (.long (0 : Int64)), (.long (0 : Int64)), (.long (c2 ^^^ (-1 : Int64)))] (.long (0 : Int64)) := Arv.set Ar131 q131 S131 Ng131 H131 G131 rfl W131 3 rfl (Nat.le_of_ble_eq_true rfl)
      have f132 := f128.other W131 ne_b63_b66
      have Z133 : n0 ≤ h131.size := Nat.le_trans Z129 (Keep.of_wr W131).1
      have K134 := K130.wr W131 (Or.inr sz_b66)
      have N131 := Fr.snoc X131 N127 g_b66
      obtain ⟨cl135, Ar135, q135, S135, Ng135, H135, G135⟩ := id V131
      have hin135 : ¬ ((1 : Int32) < 0 ∨ cl135.slots.size ≤ ((1 : Int32)).toNatClampNeg) := inb_of S135 ⟨by decide, by decide⟩
      obtain ⟨T135, h135, X135, e135, W135, st135⟩ := stJ X131 hx hZ e131 Ar135 (j := (1 : Int32)) hin135 (g := (mkF m 140 #[.val (.long q0), .second, .val (.long q1), .second, .val (.long q2), .second, .val (.long q3), .second, .val (.long q4), .second, .val (.int p5), .val (.long c0), .second, .val (.long c1), .second, .val (.long c2), .second, .val (.int (0 : Int32)), .val (.int (1 : Int32)), .val (.ref b63), .val (.ref b66), .unset, .unset] [(.long c0), (.int (1 : Int32)), (.ref b66)])) rfl rfl (hb hby at_140)
      have V135 : Arv Z h135 b66 k66 .long (4 : Int32) [(.long (c0 ^^^ (-1 : Int64))), (.long c0), (.long (0 : Int64)), (.long (c2 ^^^ (-1 : Int64)))] (.long (0 : Int64)) := Arv.set Ar135 q135 S135 Ng135 H135 G135 rfl W135 1 rfl (Nat.le_of_ble_eq_true rfl)
      have f136 := f132.other W135 ne_b63_b66
      have Z137 : n0 ≤ h135.size := Nat.le_trans Z133 (Keep.of_wr W135).1
      have K138 := K134.wr W135 (Or.inr sz_b66)
      have N135 := Fr.snoc X135 N131 g_b66
      obtain ⟨cl139, Ar139, q139, S139, Ng139, H139, G139⟩ := id V135
      have hin139 : ¬ ((2 : Int32) < 0 ∨ cl139.slots.size ≤ ((2 : Int32)).toNatClampNeg) := inb_of S139 ⟨by decide, by decide⟩
      obtain ⟨T139, h139, X139, e139, W139, st139⟩ := stJ X135 hx hZ e135 Ar139 (j := (2 : Int32)) hin139 (g := (mkF m 149 #[.val (.long q0), .second, .val (.long q1), .second, .val (.long q2), .second, .val (.long q3), .second, .val (.long q4), .second, .val (.int p5), .val (.long c0), .second, .val (.long c1), .second, .val (.long c2), .second, .val (.int (0 : Int32)), .val (.int (1 : Int32)), .val (.ref b63), .val (.ref b66), .unset, .unset] [(.long c1), (.int (2 : Int32)), (.ref b66)])) rfl rfl (hb hby at_149)
      have V139 : Arv Z h139 b66 k66 .long (4 : Int32) [(.long (c0 ^^^ (-1 : Int64))), (.long c0), (.long c1), (.long (c2 ^^^ (-1 : Int64)))] (.long (0 : Int64)) := Arv.set Ar139 q139 S139 Ng139 H139 G139 rfl W139 2 rfl (Nat.le_of_ble_eq_true rfl)
      have f140 := f136.other W139 ne_b63_b66
      have Z141 : n0 ≤ h139.size := Nat.le_trans Z137 (Keep.of_wr W139).1
      have K142 := K138.wr W139 (Or.inr sz_b66)
      have N139 := Fr.snoc X139 N135 g_b66
      obtain ⟨cl143, Ar143, q143, S143, Ng143, H143, G143⟩ := id V139
      have hin143 : ¬ ((3 : Int32) < 0 ∨ cl143.slots.size ≤ ((3 : Int32)).toNatClampNeg) := inb_of S143 ⟨by decide, by decide⟩
      obtain ⟨T143, h143, X143, e143, W143, st143⟩ := stJ X139 hx hZ e139 Ar143 (j := (3 : Int32)) hin143 (g := (mkF m 158 #[.val (.long q0), .second, .val (.long q1), .second, .val (.long q2), .second, .val (.long q3), .second, .val (.long q4), .second, .val (.int p5), .val (.long c0), .second, .val (.long c1), .second, .val (.long c2), .second, .val (.int (0 : Int32)), .val (.int (1 : Int32)), .val (.ref b63), .val (.ref b66), .unset, .unset] [(.long c2), (.int (3 : Int32)), (.ref b66)])) rfl rfl (hb hby at_158)
      have V143 : Arv Z h143 b66 k66 .long (4 : Int32) [(.long (c0 ^^^ (-1 : Int64))), (.long c0), (.long c1), (.long c2)] (.long (0 : Int64)) := Arv.set Ar143 q143 S143 Ng143 H143 G143 rfl W143 3 rfl (Nat.le_of_ble_eq_true rfl)
      have f144 := f140.other W143 ne_b63_b66
      have Z145 : n0 ≤ h143.size := Nat.le_trans Z141 (Keep.of_wr W143).1
      have K146 := K142.wr W143 (Or.inr sz_b66)
      have N143 := Fr.snoc X143 N139 g_b66
      obtain ⟨_, _, ⟨T147, L147, k147, n147⟩, -, X147, ⟨Lc147, hQ147, l147, y147, z147⟩, st147⟩ := Jvm.LawKit.callS X143 hx (y := (⟨"com/example/mynah/mynah/rpsl/PrefixRange", "compareKeys", "([JI[JI)I"⟩ : MethodName)) hown (mvT hZ (hw _ (List.mem_of_getElem? (i := 2) rfl))) (mvT hZ (hw _ (List.mem_of_getElem? (i := 3) rfl))) (mvT hZ (hw _ (List.mem_of_getElem? (i := 4) rfl))) (mvT hZ (hw _ (List.mem_of_getElem? (i := 5) rfl))) (by decide) (backOf (W := 0) (rmK l Z a0 hw [] b63 (0 : Int32) b66 (1 : Int32) k63 k66 [(.long q0), (.long q1), (.long q2), (.long (q2 ^^^ (-1 : Int64)))] [(.long (c0 ^^^ (-1 : Int64))), (.long c0), (.long c1), (.long c2)] q0 q1 q2 c0 c1 c2 h143 n0 Z145 f144 V143 ⟨by decide, by decide⟩ rfl ⟨by decide, by decide⟩ rfl ⟨by decide, by decide⟩ rfl ⟨by decide, by decide⟩ rfl ⟨by decide, by decide⟩ rfl ⟨by decide, by decide⟩ rfl) hZ (hw _ (List.mem_of_getElem? (i := 5) rfl)) (hw _ (List.mem_of_getElem? (i := 4) rfl)) (by decide) (by decide)) (g := (mkF m 167 #[.val (.long q0), .second, .val (.long q1), .second, .val (.long q2), .second, .val (.long q3), .second, .val (.long q4), .second, .val (.int p5), .val (.long c0), .second, .val (.long c1), .second, .val (.long c2), .second, .val (.int (0 : Int32)), .val (.int (1 : Int32)), .val (.ref b63), .val (.ref b66), .unset, .unset] [(.int (1 : Int32)), (.ref b66), (.int (0 : Int32)), (.ref b63)])) rfl (by rw [hml]; rfl) (argsL := [(.ref b63), (.int (0 : Int32)), (.ref b66), (.int (1 : Int32))]) (rest := []) (lenOf own_pd_1 rfl) rfl (by show 2 * 0 + _ ≤ _; exact Nat.le_of_eq rfl) (hb hby at_167) (fun _ _ => ⟨rfl, e143, (by decide : 2 + 0 ≤ _), (by decide : 8 + 0 ≤ _)⟩)
      dsimp only [Pt.U, Pt.locs, Pt.cells, Pt.slots] at X147 l147 y147 z147 st147 hQ147
      subst l147 y147 z147
      obtain ⟨rfl, Nq147, eq147⟩ := hQ147
      have N147 := Fr.app N143 Nq147
      have k148 : ∀ t, Steps p.tables e below (T147.setTop (mkF m 172 #[.val (.long q0), .second, .val (.long q1), .second, .val (.long q2), .second, .val (.long q3), .second, .val (.long q4), .second, .val (.int p5), .val (.long c0), .second, .val (.long c1), .second, .val (.long c2), .second, .val (.int (0 : Int32)), .val (.int (1 : Int32)), .val (.ref b63), .val (.ref b66), .val (.int (own_ck q0 q1 q2 c0 c1 c2)), .unset] [])) t → Steps p.tables e below (s₁.setTop (mkF m 0 #[.val (.long q0), .second, .val (.long q1), .second, .val (.long q2), .second, .val (.long q3), .second, .val (.long q4), .second, .val (.int p5), .unset, .unset, .unset, .unset, .unset, .unset, .unset, .unset, .unset, .unset, .unset, .unset] [])) t := by
        intro t h
        refine k80 t ?_
        refine XS.iload X74.here hx rfl (hb hby at_93) rfl ?_
        refine XS.lloadN X74.here hx rfl (hb hby at_95) rfl ?_
        refine st115 _ ?_
        refine XS.aload X115.here hx rfl (hb hby at_97) rfl rfl ?_
        refine XS.iload X115.here hx rfl (hb hby at_99) rfl ?_
        refine XS.iconst X115.here hx rfl (hb hby at_101) ?_
        refine XS.iadd X115.here hx rfl (hb hby at_102) rfl ?_
        refine XS.lloadN X115.here hx rfl (hb hby at_103) rfl ?_
        refine st119 _ ?_
        refine XS.aload X119.here hx rfl (hb hby at_105) rfl rfl ?_
        refine XS.iload X119.here hx rfl (hb hby at_107) rfl ?_
        refine XS.iconst X119.here hx rfl (hb hby at_109) ?_
        refine XS.iadd X119.here hx rfl (hb hby at_110) rfl ?_
        refine XS.lload X119.here hx rfl (hb hby at_111) rfl ?_
        refine st123 _ ?_
        refine XS.aload X123.here hx rfl (hb hby at_114) rfl rfl ?_
        refine XS.iconst X123.here hx rfl (hb hby at_116) ?_
        refine XS.lload X123.here hx rfl (hb hby at_117) rfl ?_
        refine X123.ldc2Long hx hown (mvT hZ (hw _ (List.mem_of_getElem? (i := 1) rfl))) (g := (mkF m 119 #[.val (.long q0), .second, .val (.long q1), .second, .val (.long q2), .second, .val (.long q3), .second, .val (.long q4), .second, .val (.int p5), .val (.long c0), .second, .val (.long c1), .second, .val (.long c2), .second, .val (.int (0 : Int32)), .val (.int (1 : Int32)), .val (.ref b63), .val (.ref b66), .unset, .unset] [(.long c0), (.int (0 : Int32)), (.ref b66)])) rfl (hb hby at_119) _ ?_
        refine XS.lxor X123.here hx rfl (hb hby at_122) rfl ?_
        refine st127 _ ?_
        refine XS.aload X127.here hx rfl (hb hby at_124) rfl rfl ?_
        refine XS.iconst X127.here hx rfl (hb hby at_126) ?_
        refine XS.lload X127.here hx rfl (hb hby at_127) rfl ?_
        refine X127.ldc2Long hx hown (mvT hZ (hw _ (List.mem_of_getElem? (i := 1) rfl))) (g := (mkF m 129 #[.val (.long q0), .second, .val (.long q1), .second, .val (.long q2), .second, .val (.long q3), .second, .val (.long q4), .second, .val (.int p5), .val (.long c0), .second, .val (.long c1), .second, .val (.long c2), .second, .val (.int (0 : Int32)), .val (.int (1 : Int32)), .val (.ref b63), .val (.ref b66), .unset, .unset] [(.long c2), (.int (3 : Int32)), (.ref b66)])) rfl (hb hby at_129) _ ?_
        refine XS.lxor X127.here hx rfl (hb hby at_132) rfl ?_
        refine st131 _ ?_
        refine XS.aload X131.here hx rfl (hb hby at_134) rfl rfl ?_
        refine XS.iload X131.here hx rfl (hb hby at_136) rfl ?_
        refine XS.lload X131.here hx rfl (hb hby at_138) rfl ?_
        refine st135 _ ?_
        refine XS.aload X135.here hx rfl (hb hby at_141) rfl rfl ?_
        refine XS.iload X135.here hx rfl (hb hby at_143) rfl ?_
        refine XS.iconst X135.here hx rfl (hb hby at_145) ?_
        refine XS.iadd X135.here hx rfl (hb hby at_146) rfl ?_
        refine XS.lload X135.here hx rfl (hb hby at_147) rfl ?_
        refine st139 _ ?_
        refine XS.aload X139.here hx rfl (hb hby at_150) rfl rfl ?_
        refine XS.iload X139.here hx rfl (hb hby at_152) rfl ?_
        refine XS.iconst X139.here hx rfl (hb hby at_154) ?_
        refine XS.iadd X139.here hx rfl (hb hby at_155) rfl ?_
        refine XS.lload X139.here hx rfl (hb hby at_156) rfl ?_
        refine st143 _ ?_
        refine XS.aload X143.here hx rfl (hb hby at_159) rfl rfl ?_
        refine XS.iload X143.here hx rfl (hb hby at_161) rfl ?_
        refine XS.aload X143.here hx rfl (hb hby at_163) rfl rfl ?_
        refine XS.iload X143.here hx rfl (hb hby at_165) rfl ?_
        refine st147 _ ?_
        refine XS.istore X147.here hx rfl (hb hby at_170) rfl (l' := #[.val (.long q0), .second, .val (.long q1), .second, .val (.long q2), .second, .val (.long q3), .second, .val (.long q4), .second, .val (.int p5), .val (.long c0), .second, .val (.long c1), .second, .val (.long c2), .second, .val (.int (0 : Int32)), .val (.int (1 : Int32)), .val (.ref b63), .val (.ref b66), .val (.int (own_ck q0 q1 q2 c0 c1 c2)), .unset]) rfl ?_
        exact h
      exact ⟨T147, _, _, (0 : Int32), (1 : Int32), X147, eq147, N147, Z145, K146, trivial, k148⟩
    · skip
      obtain ⟨cl149, Ar149, q149, S149, Ng149, H149, G149⟩ := id V74
      have hin149 : ¬ ((1 : Int32) < 0 ∨ cl149.slots.size ≤ ((1 : Int32)).toNatClampNeg) := inb_of S149 ⟨by decide, by decide⟩
      obtain ⟨T149, h149, X149, e149, W149, st149⟩ := stJ X74 hx hZ e74 Ar149 (j := (1 : Int32)) hin149 (g := (mkF m 96 #[.val (.long q0), .second, .val (.long q1), .second, .val (.long q2), .second, .val (.long q3), .second, .val (.long q4), .second, .val (.int p5), .val (.long c0), .second, .val (.long c1), .second, .val (.long c2), .second, .val (.int (1 : Int32)), .val (.int (0 : Int32)), .val (.ref b63), .val (.ref b66), .unset, .unset] [(.long q0), (.int (1 : Int32)), (.ref b63)])) rfl rfl (hb hby at_96)
      have V149 : Arv Z h149 b63 k63 .long (4 : Int32) [(.long (q0 ^^^ (-1 : Int64))), (.long q0), (.long (0 : Int64)), (.long (q2 ^^^ (-1 : Int64)))] (.long (0 : Int64)) := Arv.set Ar149 q149 S149 Ng149 H149 G149 rfl W149 1 rfl (Nat.le_of_ble_eq_true rfl)
      have f150 := f75.other W149 (Ne.symm ne_b63_b66)
      have Z151 : n0 ≤ h149.size := Nat.le_trans Z76 (Keep.of_wr W149).1
      have K152 := K77.wr W149 (Or.inr sz_b63)
      have N149 := Fr.snoc X149 N74 g_b63
      obtain ⟨cl153, Ar153, q153, S153, Ng153, H153, G153⟩ := id V149
      have hin153 : ¬ ((2 : Int32) < 0 ∨ cl153.slots.size ≤ ((2 : Int32)).toNatClampNeg) := inb_of S153 ⟨by decide, by decide⟩
      obtain ⟨T153, h153, X153, e153, W153, st153⟩ := stJ X149 hx hZ e149 Ar153 (j := (2 : Int32)) hin153 (g := (mkF m 104 #[.val (.long q0), .second, .val (.long q1), .second, .val (.long q2), .second, .val (.long q3), .second, .val (.long q4), .second, .val (.int p5), .val (.long c0), .second, .val (.long c1), .second, .val (.long c2), .second, .val (.int (1 : Int32)), .val (.int (0 : Int32)), .val (.ref b63), .val (.ref b66), .unset, .unset] [(.long q1), (.int (2 : Int32)), (.ref b63)])) rfl rfl (hb hby at_104)
      have V153 : Arv Z h153 b63 k63 .long (4 : Int32) [(.long (q0 ^^^ (-1 : Int64))), (.long q0), (.long q1), (.long (q2 ^^^ (-1 : Int64)))] (.long (0 : Int64)) := Arv.set Ar153 q153 S153 Ng153 H153 G153 rfl W153 2 rfl (Nat.le_of_ble_eq_true rfl)
      have f154 := f150.other W153 (Ne.symm ne_b63_b66)
      have Z155 : n0 ≤ h153.size := Nat.le_trans Z151 (Keep.of_wr W153).1
      have K156 := K152.wr W153 (Or.inr sz_b63)
      have N153 := Fr.snoc X153 N149 g_b63
      obtain ⟨cl157, Ar157, q157, S157, Ng157, H157, G157⟩ := id V153
      have hin157 : ¬ ((3 : Int32) < 0 ∨ cl157.slots.size ≤ ((3 : Int32)).toNatClampNeg) := inb_of S157 ⟨by decide, by decide⟩
      obtain ⟨T157, h157, X157, e157, W157, st157⟩ := stJ X153 hx hZ e153 Ar157 (j := (3 : Int32)) hin157 (g := (mkF m 113 #[.val (.long q0), .second, .val (.long q1), .second, .val (.long q2), .second, .val (.long q3), .second, .val (.long q4), .second, .val (.int p5), .val (.long c0), .second, .val (.long c1), .second, .val (.long c2), .second, .val (.int (1 : Int32)), .val (.int (0 : Int32)), .val (.ref b63), .val (.ref b66), .unset, .unset] [(.long q2), (.int (3 : Int32)), (.ref b63)])) rfl rfl (hb hby at_113)
      have V157 : Arv Z h157 b63 k63 .long (4 : Int32) [(.long (q0 ^^^ (-1 : Int64))), (.long q0), (.long q1), (.long q2)] (.long (0 : Int64)) := Arv.set Ar157 q157 S157 Ng157 H157 G157 rfl W157 3 rfl (Nat.le_of_ble_eq_true rfl)
      have f158 := f154.other W157 (Ne.symm ne_b63_b66)
      have Z159 : n0 ≤ h157.size := Nat.le_trans Z155 (Keep.of_wr W157).1
      have K160 := K156.wr W157 (Or.inr sz_b63)
      have N157 := Fr.snoc X157 N153 g_b63
      obtain ⟨cl161, Ar161, q161, S161, Ng161, H161, G161⟩ := id f158
      have hin161 : ¬ ((0 : Int32) < 0 ∨ cl161.slots.size ≤ ((0 : Int32)).toNatClampNeg) := inb_of S161 ⟨by decide, by decide⟩
      obtain ⟨T161, h161, X161, e161, W161, st161⟩ := stJ X157 hx hZ e157 Ar161 (j := (0 : Int32)) hin161 (g := (mkF m 123 #[.val (.long q0), .second, .val (.long q1), .second, .val (.long q2), .second, .val (.long q3), .second, .val (.long q4), .second, .val (.int p5), .val (.long c0), .second, .val (.long c1), .second, .val (.long c2), .second, .val (.int (1 : Int32)), .val (.int (0 : Int32)), .val (.ref b63), .val (.ref b66), .unset, .unset] [(.long (c0 ^^^ (-1 : Int64))), (.int (0 : Int32)), (.ref b66)])) rfl rfl (hb hby at_123)
      have V161 : Arv Z h161 b66 k66 .long (4 : Int32) [(.long (c0 ^^^ (-1 : Int64))), (.long (0 : Int64)), (.long (0 : Int64)), (.long (0 : Int64))] (.long (0 : Int64)) := Arv.set Ar161 q161 S161 Ng161 H161 G161 rfl W161 0 rfl (Nat.le_of_ble_eq_true rfl)
      have f162 := V157.other W161 ne_b63_b66
      have Z163 : n0 ≤ h161.size := Nat.le_trans Z159 (Keep.of_wr W161).1
      have K164 := K160.wr W161 (Or.inr sz_b66)
      have N161 := Fr.snoc X161 N157 g_b66
      obtain ⟨cl165, Ar165, q165, S165, Ng165, H165, G165⟩ := id V161
      have hin165 : ¬ ((3 : Int32) < 0 ∨ cl165.slots.size ≤ ((3 : Int32)).toNatClampNeg) := inb_of S165 ⟨by decide, by decide⟩
      obtain ⟨T165, h165, X165, e165, W165, st165⟩ := stJ X161 hx hZ e161 Ar165 (j := (3 : Int32)) hin165 (g := (mkF m 133 #[.val (.long q0), .second, .val (.long q1), .second, .val (.long q2), .second, .val (.long q3), .second, .val (.long q4), .second, .val (.int p5), .val (.long c0), .second, .val (.long c1), .second, .val (.long c2), .second, .val (.int (1 : Int32)), .val (.int (0 : Int32)), .val (.ref b63), .val (.ref b66), .unset, .unset] [(.long (c2 ^^^ (-1 : Int64))), (.int (3 : Int32)), (.ref b66)])) rfl rfl (hb hby at_133)
      have V165 : Arv Z h165 b66 k66 .long (4 : Int32) [(.long (c0 ^^^ (-1 : Int64))), (.long (0 : Int64)), (.long (0 : Int64)), (.long (c2 ^^^ (-1 : Int64)))] (.long (0 : Int64)) := Arv.set Ar165 q165 S165 Ng165 H165 G165 rfl W165 3 rfl (Nat.le_of_ble_eq_true rfl)
      have f166 := f162.other W165 ne_b63_b66
      have Z167 : n0 ≤ h165.size := Nat.le_trans Z163 (Keep.of_wr W165).1
      have K168 := K164.wr W165 (Or.inr sz_b66)
      have N165 := Fr.snoc X165 N161 g_b66
      obtain ⟨cl169, Ar169, q169, S169, Ng169, H169, G169⟩ := id V165
      have hin169 : ¬ ((0 : Int32) < 0 ∨ cl169.slots.size ≤ ((0 : Int32)).toNatClampNeg) := inb_of S169 ⟨by decide, by decide⟩
      obtain ⟨T169, h169, X169, e169, W169, st169⟩ := stJ X165 hx hZ e165 Ar169 (j := (0 : Int32)) hin169 (g := (mkF m 140 #[.val (.long q0), .second, .val (.long q1), .second, .val (.long q2), .second, .val (.long q3), .second, .val (.long q4), .second, .val (.int p5), .val (.long c0), .second, .val (.long c1), .second, .val (.long c2), .second, .val (.int (1 : Int32)), .val (.int (0 : Int32)), .val (.ref b63), .val (.ref b66), .unset, .unset] [(.long c0), (.int (0 : Int32)), (.ref b66)])) rfl rfl (hb hby at_140)
      have V169 : Arv Z h169 b66 k66 .long (4 : Int32) [(.long c0), (.long (0 : Int64)), (.long (0 : Int64)), (.long (c2 ^^^ (-1 : Int64)))] (.long (0 : Int64)) := Arv.set Ar169 q169 S169 Ng169 H169 G169 rfl W169 0 rfl (Nat.le_of_ble_eq_true rfl)
      have f170 := f166.other W169 ne_b63_b66
      have Z171 : n0 ≤ h169.size := Nat.le_trans Z167 (Keep.of_wr W169).1
      have K172 := K168.wr W169 (Or.inr sz_b66)
      have N169 := Fr.snoc X169 N165 g_b66
      obtain ⟨cl173, Ar173, q173, S173, Ng173, H173, G173⟩ := id V169
      have hin173 : ¬ ((1 : Int32) < 0 ∨ cl173.slots.size ≤ ((1 : Int32)).toNatClampNeg) := inb_of S173 ⟨by decide, by decide⟩
      obtain ⟨T173, h173, X173, e173, W173, st173⟩ := stJ X169 hx hZ e169 Ar173 (j := (1 : Int32)) hin173 (g := (mkF m 149 #[.val (.long q0), .second, .val (.long q1), .second, .val (.long q2), .second, .val (.long q3), .second, .val (.long q4), .second, .val (.int p5), .val (.long c0), .second, .val (.long c1), .second, .val (.long c2), .second, .val (.int (1 : Int32)), .val (.int (0 : Int32)), .val (.ref b63), .val (.ref b66), .unset, .unset] [(.long c1), (.int (1 : Int32)), (.ref b66)])) rfl rfl (hb hby at_149)
      have V173 : Arv Z h173 b66 k66 .long (4 : Int32) [(.long c0), (.long c1), (.long (0 : Int64)), (.long (c2 ^^^ (-1 : Int64)))] (.long (0 : Int64)) := Arv.set Ar173 q173 S173 Ng173 H173 G173 rfl W173 1 rfl (Nat.le_of_ble_eq_true rfl)
      have f174 := f170.other W173 ne_b63_b66
      have Z175 : n0 ≤ h173.size := Nat.le_trans Z171 (Keep.of_wr W173).1
      have K176 := K172.wr W173 (Or.inr sz_b66)
      have N173 := Fr.snoc X173 N169 g_b66
      obtain ⟨cl177, Ar177, q177, S177, Ng177, H177, G177⟩ := id V173
      have hin177 : ¬ ((2 : Int32) < 0 ∨ cl177.slots.size ≤ ((2 : Int32)).toNatClampNeg) := inb_of S177 ⟨by decide, by decide⟩
      obtain ⟨T177, h177, X177, e177, W177, st177⟩ := stJ X173 hx hZ e173 Ar177 (j := (2 : Int32)) hin177 (g := (mkF m 158 #[.val (.long q0), .second, .val (.long q1), .second, .val (.long q2), .second, .val (.long q3), .second, .val (.long q4), .second, .val (.int p5), .val (.long c0), .second, .val (.long c1), .second, .val (.long c2), .second, .val (.int (1 : Int32)), .val (.int (0 : Int32)), .val (.ref b63), .val (.ref b66), .unset, .unset] [(.long c2), (.int (2 : Int32)), (.ref b66)])) rfl rfl (hb hby at_158)
      have V177 : Arv Z h177 b66 k66 .long (4 : Int32) [(.long c0), (.long c1), (.long c2), (.long (c2 ^^^ (-1 : Int64)))] (.long (0 : Int64)) := Arv.set Ar177 q177 S177 Ng177 H177 G177 rfl W177 2 rfl (Nat.le_of_ble_eq_true rfl)
      have f178 := f174.other W177 ne_b63_b66
      have Z179 : n0 ≤ h177.size := Nat.le_trans Z175 (Keep.of_wr W177).1
      have K180 := K176.wr W177 (Or.inr sz_b66)
      have N177 := Fr.snoc X177 N173 g_b66
      obtain ⟨_, _, ⟨T181, L181, k181, n181⟩, -, X181, ⟨Lc181, hQ181, l181, y181, z181⟩, st181⟩ := Jvm.LawKit.callS X177 hx (y := (⟨"com/example/mynah/mynah/rpsl/PrefixRange", "compareKeys", "([JI[JI)I"⟩ : MethodName)) hown (mvT hZ (hw _ (List.mem_of_getElem? (i := 2) rfl))) (mvT hZ (hw _ (List.mem_of_getElem? (i := 3) rfl))) (mvT hZ (hw _ (List.mem_of_getElem? (i := 4) rfl))) (mvT hZ (hw _ (List.mem_of_getElem? (i := 5) rfl))) (by decide) (backOf (W := 0) (rmK l Z a0 hw [] b63 (1 : Int32) b66 (0 : Int32) k63 k66 [(.long (q0 ^^^ (-1 : Int64))), (.long q0), (.long q1), (.long q2)] [(.long c0), (.long c1), (.long c2), (.long (c2 ^^^ (-1 : Int64)))] q0 q1 q2 c0 c1 c2 h177 n0 Z179 f178 V177 ⟨by decide, by decide⟩ rfl ⟨by decide, by decide⟩ rfl ⟨by decide, by decide⟩ rfl ⟨by decide, by decide⟩ rfl ⟨by decide, by decide⟩ rfl ⟨by decide, by decide⟩ rfl) hZ (hw _ (List.mem_of_getElem? (i := 5) rfl)) (hw _ (List.mem_of_getElem? (i := 4) rfl)) (by decide) (by decide)) (g := (mkF m 167 #[.val (.long q0), .second, .val (.long q1), .second, .val (.long q2), .second, .val (.long q3), .second, .val (.long q4), .second, .val (.int p5), .val (.long c0), .second, .val (.long c1), .second, .val (.long c2), .second, .val (.int (1 : Int32)), .val (.int (0 : Int32)), .val (.ref b63), .val (.ref b66), .unset, .unset] [(.int (0 : Int32)), (.ref b66), (.int (1 : Int32)), (.ref b63)])) rfl (by rw [hml]; rfl) (argsL := [(.ref b63), (.int (1 : Int32)), (.ref b66), (.int (0 : Int32))]) (rest := []) (lenOf own_pd_1 rfl) rfl (by show 2 * 0 + _ ≤ _; exact Nat.le_of_eq rfl) (hb hby at_167) (fun _ _ => ⟨rfl, e177, (by decide : 2 + 0 ≤ _), (by decide : 8 + 0 ≤ _)⟩)
      dsimp only [Pt.U, Pt.locs, Pt.cells, Pt.slots] at X181 l181 y181 z181 st181 hQ181
      subst l181 y181 z181
      obtain ⟨rfl, Nq181, eq181⟩ := hQ181
      have N181 := Fr.app N177 Nq181
      have k182 : ∀ t, Steps p.tables e below (T181.setTop (mkF m 172 #[.val (.long q0), .second, .val (.long q1), .second, .val (.long q2), .second, .val (.long q3), .second, .val (.long q4), .second, .val (.int p5), .val (.long c0), .second, .val (.long c1), .second, .val (.long c2), .second, .val (.int (1 : Int32)), .val (.int (0 : Int32)), .val (.ref b63), .val (.ref b66), .val (.int (own_ck q0 q1 q2 c0 c1 c2)), .unset] [])) t → Steps p.tables e below (s₁.setTop (mkF m 0 #[.val (.long q0), .second, .val (.long q1), .second, .val (.long q2), .second, .val (.long q3), .second, .val (.long q4), .second, .val (.int p5), .unset, .unset, .unset, .unset, .unset, .unset, .unset, .unset, .unset, .unset, .unset, .unset] [])) t := by
        intro t h
        refine k80 t ?_
        refine XS.iload X74.here hx rfl (hb hby at_93) rfl ?_
        refine XS.lloadN X74.here hx rfl (hb hby at_95) rfl ?_
        refine st149 _ ?_
        refine XS.aload X149.here hx rfl (hb hby at_97) rfl rfl ?_
        refine XS.iload X149.here hx rfl (hb hby at_99) rfl ?_
        refine XS.iconst X149.here hx rfl (hb hby at_101) ?_
        refine XS.iadd X149.here hx rfl (hb hby at_102) rfl ?_
        refine XS.lloadN X149.here hx rfl (hb hby at_103) rfl ?_
        refine st153 _ ?_
        refine XS.aload X153.here hx rfl (hb hby at_105) rfl rfl ?_
        refine XS.iload X153.here hx rfl (hb hby at_107) rfl ?_
        refine XS.iconst X153.here hx rfl (hb hby at_109) ?_
        refine XS.iadd X153.here hx rfl (hb hby at_110) rfl ?_
        refine XS.lload X153.here hx rfl (hb hby at_111) rfl ?_
        refine st157 _ ?_
        refine XS.aload X157.here hx rfl (hb hby at_114) rfl rfl ?_
        refine XS.iconst X157.here hx rfl (hb hby at_116) ?_
        refine XS.lload X157.here hx rfl (hb hby at_117) rfl ?_
        refine X157.ldc2Long hx hown (mvT hZ (hw _ (List.mem_of_getElem? (i := 1) rfl))) (g := (mkF m 119 #[.val (.long q0), .second, .val (.long q1), .second, .val (.long q2), .second, .val (.long q3), .second, .val (.long q4), .second, .val (.int p5), .val (.long c0), .second, .val (.long c1), .second, .val (.long c2), .second, .val (.int (1 : Int32)), .val (.int (0 : Int32)), .val (.ref b63), .val (.ref b66), .unset, .unset] [(.long c0), (.int (0 : Int32)), (.ref b66)])) rfl (hb hby at_119) _ ?_
        refine XS.lxor X157.here hx rfl (hb hby at_122) rfl ?_
        refine st161 _ ?_
        refine XS.aload X161.here hx rfl (hb hby at_124) rfl rfl ?_
        refine XS.iconst X161.here hx rfl (hb hby at_126) ?_
        refine XS.lload X161.here hx rfl (hb hby at_127) rfl ?_
        refine X161.ldc2Long hx hown (mvT hZ (hw _ (List.mem_of_getElem? (i := 1) rfl))) (g := (mkF m 129 #[.val (.long q0), .second, .val (.long q1), .second, .val (.long q2), .second, .val (.long q3), .second, .val (.long q4), .second, .val (.int p5), .val (.long c0), .second, .val (.long c1), .second, .val (.long c2), .second, .val (.int (1 : Int32)), .val (.int (0 : Int32)), .val (.ref b63), .val (.ref b66), .unset, .unset] [(.long c2), (.int (3 : Int32)), (.ref b66)])) rfl (hb hby at_129) _ ?_
        refine XS.lxor X161.here hx rfl (hb hby at_132) rfl ?_
        refine st165 _ ?_
        refine XS.aload X165.here hx rfl (hb hby at_134) rfl rfl ?_
        refine XS.iload X165.here hx rfl (hb hby at_136) rfl ?_
        refine XS.lload X165.here hx rfl (hb hby at_138) rfl ?_
        refine st169 _ ?_
        refine XS.aload X169.here hx rfl (hb hby at_141) rfl rfl ?_
        refine XS.iload X169.here hx rfl (hb hby at_143) rfl ?_
        refine XS.iconst X169.here hx rfl (hb hby at_145) ?_
        refine XS.iadd X169.here hx rfl (hb hby at_146) rfl ?_
        refine XS.lload X169.here hx rfl (hb hby at_147) rfl ?_
        refine st173 _ ?_
        refine XS.aload X173.here hx rfl (hb hby at_150) rfl rfl ?_
        refine XS.iload X173.here hx rfl (hb hby at_152) rfl ?_
        refine XS.iconst X173.here hx rfl (hb hby at_154) ?_
        refine XS.iadd X173.here hx rfl (hb hby at_155) rfl ?_
        refine XS.lload X173.here hx rfl (hb hby at_156) rfl ?_
        refine st177 _ ?_
        refine XS.aload X177.here hx rfl (hb hby at_159) rfl rfl ?_
        refine XS.iload X177.here hx rfl (hb hby at_161) rfl ?_
        refine XS.aload X177.here hx rfl (hb hby at_163) rfl rfl ?_
        refine XS.iload X177.here hx rfl (hb hby at_165) rfl ?_
        refine st181 _ ?_
        refine XS.istore X181.here hx rfl (hb hby at_170) rfl (l' := #[.val (.long q0), .second, .val (.long q1), .second, .val (.long q2), .second, .val (.long q3), .second, .val (.long q4), .second, .val (.int p5), .val (.long c0), .second, .val (.long c1), .second, .val (.long c2), .second, .val (.int (1 : Int32)), .val (.int (0 : Int32)), .val (.ref b63), .val (.ref b66), .val (.int (own_ck q0 q1 q2 c0 c1 c2)), .unset]) rfl ?_
        exact h
      exact ⟨T181, _, _, (1 : Int32), (0 : Int32), X181, eq181, N181, Z179, K180, trivial, k182⟩
    · skip
      obtain ⟨cl183, Ar183, q183, S183, Ng183, H183, G183⟩ := id V74
      have hin183 : ¬ ((1 : Int32) < 0 ∨ cl183.slots.size ≤ ((1 : Int32)).toNatClampNeg) := inb_of S183 ⟨by decide, by decide⟩
      obtain ⟨T183, h183, X183, e183, W183, st183⟩ := stJ X74 hx hZ e74 Ar183 (j := (1 : Int32)) hin183 (g := (mkF m 96 #[.val (.long q0), .second, .val (.long q1), .second, .val (.long q2), .second, .val (.long q3), .second, .val (.long q4), .second, .val (.int p5), .val (.long c0), .second, .val (.long c1), .second, .val (.long c2), .second, .val (.int (1 : Int32)), .val (.int (1 : Int32)), .val (.ref b63), .val (.ref b66), .unset, .unset] [(.long q0), (.int (1 : Int32)), (.ref b63)])) rfl rfl (hb hby at_96)
      have V183 : Arv Z h183 b63 k63 .long (4 : Int32) [(.long (q0 ^^^ (-1 : Int64))), (.long q0), (.long (0 : Int64)), (.long (q2 ^^^ (-1 : Int64)))] (.long (0 : Int64)) := Arv.set Ar183 q183 S183 Ng183 H183 G183 rfl W183 1 rfl (Nat.le_of_ble_eq_true rfl)
      have f184 := f75.other W183 (Ne.symm ne_b63_b66)
      have Z185 : n0 ≤ h183.size := Nat.le_trans Z76 (Keep.of_wr W183).1
      have K186 := K77.wr W183 (Or.inr sz_b63)
      have N183 := Fr.snoc X183 N74 g_b63
      obtain ⟨cl187, Ar187, q187, S187, Ng187, H187, G187⟩ := id V183
      have hin187 : ¬ ((2 : Int32) < 0 ∨ cl187.slots.size ≤ ((2 : Int32)).toNatClampNeg) := inb_of S187 ⟨by decide, by decide⟩
      obtain ⟨T187, h187, X187, e187, W187, st187⟩ := stJ X183 hx hZ e183 Ar187 (j := (2 : Int32)) hin187 (g := (mkF m 104 #[.val (.long q0), .second, .val (.long q1), .second, .val (.long q2), .second, .val (.long q3), .second, .val (.long q4), .second, .val (.int p5), .val (.long c0), .second, .val (.long c1), .second, .val (.long c2), .second, .val (.int (1 : Int32)), .val (.int (1 : Int32)), .val (.ref b63), .val (.ref b66), .unset, .unset] [(.long q1), (.int (2 : Int32)), (.ref b63)])) rfl rfl (hb hby at_104)
      have V187 : Arv Z h187 b63 k63 .long (4 : Int32) [(.long (q0 ^^^ (-1 : Int64))), (.long q0), (.long q1), (.long (q2 ^^^ (-1 : Int64)))] (.long (0 : Int64)) := Arv.set Ar187 q187 S187 Ng187 H187 G187 rfl W187 2 rfl (Nat.le_of_ble_eq_true rfl)
      have f188 := f184.other W187 (Ne.symm ne_b63_b66)
      have Z189 : n0 ≤ h187.size := Nat.le_trans Z185 (Keep.of_wr W187).1
      have K190 := K186.wr W187 (Or.inr sz_b63)
      have N187 := Fr.snoc X187 N183 g_b63
      obtain ⟨cl191, Ar191, q191, S191, Ng191, H191, G191⟩ := id V187
      have hin191 : ¬ ((3 : Int32) < 0 ∨ cl191.slots.size ≤ ((3 : Int32)).toNatClampNeg) := inb_of S191 ⟨by decide, by decide⟩
      obtain ⟨T191, h191, X191, e191, W191, st191⟩ := stJ X187 hx hZ e187 Ar191 (j := (3 : Int32)) hin191 (g := (mkF m 113 #[.val (.long q0), .second, .val (.long q1), .second, .val (.long q2), .second, .val (.long q3), .second, .val (.long q4), .second, .val (.int p5), .val (.long c0), .second, .val (.long c1), .second, .val (.long c2), .second, .val (.int (1 : Int32)), .val (.int (1 : Int32)), .val (.ref b63), .val (.ref b66), .unset, .unset] [(.long q2), (.int (3 : Int32)), (.ref b63)])) rfl rfl (hb hby at_113)
      have V191 : Arv Z h191 b63 k63 .long (4 : Int32) [(.long (q0 ^^^ (-1 : Int64))), (.long q0), (.long q1), (.long q2)] (.long (0 : Int64)) := Arv.set Ar191 q191 S191 Ng191 H191 G191 rfl W191 3 rfl (Nat.le_of_ble_eq_true rfl)
      have f192 := f188.other W191 (Ne.symm ne_b63_b66)
      have Z193 : n0 ≤ h191.size := Nat.le_trans Z189 (Keep.of_wr W191).1
      have K194 := K190.wr W191 (Or.inr sz_b63)
      have N191 := Fr.snoc X191 N187 g_b63
      obtain ⟨cl195, Ar195, q195, S195, Ng195, H195, G195⟩ := id f192
      have hin195 : ¬ ((0 : Int32) < 0 ∨ cl195.slots.size ≤ ((0 : Int32)).toNatClampNeg) := inb_of S195 ⟨by decide, by decide⟩
      obtain ⟨T195, h195, X195, e195, W195, st195⟩ := stJ X191 hx hZ e191 Ar195 (j := (0 : Int32)) hin195 (g := (mkF m 123 #[.val (.long q0), .second, .val (.long q1), .second, .val (.long q2), .second, .val (.long q3), .second, .val (.long q4), .second, .val (.int p5), .val (.long c0), .second, .val (.long c1), .second, .val (.long c2), .second, .val (.int (1 : Int32)), .val (.int (1 : Int32)), .val (.ref b63), .val (.ref b66), .unset, .unset] [(.long (c0 ^^^ (-1 : Int64))), (.int (0 : Int32)), (.ref b66)])) rfl rfl (hb hby at_123)
      have V195 : Arv Z h195 b66 k66 .long (4 : Int32) [(.long (c0 ^^^ (-1 : Int64))), (.long (0 : Int64)), (.long (0 : Int64)), (.long (0 : Int64))] (.long (0 : Int64)) := Arv.set Ar195 q195 S195 Ng195 H195 G195 rfl W195 0 rfl (Nat.le_of_ble_eq_true rfl)
      have f196 := V191.other W195 ne_b63_b66
      have Z197 : n0 ≤ h195.size := Nat.le_trans Z193 (Keep.of_wr W195).1
      have K198 := K194.wr W195 (Or.inr sz_b66)
      have N195 := Fr.snoc X195 N191 g_b66
      obtain ⟨cl199, Ar199, q199, S199, Ng199, H199, G199⟩ := id V195
      have hin199 : ¬ ((3 : Int32) < 0 ∨ cl199.slots.size ≤ ((3 : Int32)).toNatClampNeg) := inb_of S199 ⟨by decide, by decide⟩
      obtain ⟨T199, h199, X199, e199, W199, st199⟩ := stJ X195 hx hZ e195 Ar199 (j := (3 : Int32)) hin199 (g := (mkF m 133 #[.val (.long q0), .second, .val (.long q1), .second, .val (.long q2), .second, .val (.long q3), .second, .val (.long q4), .second, .val (.int p5), .val (.long c0), .second, .val (.long c1), .second, .val (.long c2), .second, .val (.int (1 : Int32)), .val (.int (1 : Int32)), .val (.ref b63), .val (.ref b66), .unset, .unset] [(.long (c2 ^^^ (-1 : Int64))), (.int (3 : Int32)), (.ref b66)])) rfl rfl (hb hby at_133)
      have V199 : Arv Z h199 b66 k66 .long (4 : Int32) [(.long (c0 ^^^ (-1 : Int64))), (.long (0 : Int64)), (.long (0 : Int64)), (.long (c2 ^^^ (-1 : Int64)))] (.long (0 : Int64)) := Arv.set Ar199 q199 S199 Ng199 H199 G199 rfl W199 3 rfl (Nat.le_of_ble_eq_true rfl)
      have f200 := f196.other W199 ne_b63_b66
      have Z201 : n0 ≤ h199.size := Nat.le_trans Z197 (Keep.of_wr W199).1
      have K202 := K198.wr W199 (Or.inr sz_b66)
      have N199 := Fr.snoc X199 N195 g_b66
      obtain ⟨cl203, Ar203, q203, S203, Ng203, H203, G203⟩ := id V199
      have hin203 : ¬ ((1 : Int32) < 0 ∨ cl203.slots.size ≤ ((1 : Int32)).toNatClampNeg) := inb_of S203 ⟨by decide, by decide⟩
      obtain ⟨T203, h203, X203, e203, W203, st203⟩ := stJ X199 hx hZ e199 Ar203 (j := (1 : Int32)) hin203 (g := (mkF m 140 #[.val (.long q0), .second, .val (.long q1), .second, .val (.long q2), .second, .val (.long q3), .second, .val (.long q4), .second, .val (.int p5), .val (.long c0), .second, .val (.long c1), .second, .val (.long c2), .second, .val (.int (1 : Int32)), .val (.int (1 : Int32)), .val (.ref b63), .val (.ref b66), .unset, .unset] [(.long c0), (.int (1 : Int32)), (.ref b66)])) rfl rfl (hb hby at_140)
      have V203 : Arv Z h203 b66 k66 .long (4 : Int32) [(.long (c0 ^^^ (-1 : Int64))), (.long c0), (.long (0 : Int64)), (.long (c2 ^^^ (-1 : Int64)))] (.long (0 : Int64)) := Arv.set Ar203 q203 S203 Ng203 H203 G203 rfl W203 1 rfl (Nat.le_of_ble_eq_true rfl)
      have f204 := f200.other W203 ne_b63_b66
      have Z205 : n0 ≤ h203.size := Nat.le_trans Z201 (Keep.of_wr W203).1
      have K206 := K202.wr W203 (Or.inr sz_b66)
      have N203 := Fr.snoc X203 N199 g_b66
      obtain ⟨cl207, Ar207, q207, S207, Ng207, H207, G207⟩ := id V203
      have hin207 : ¬ ((2 : Int32) < 0 ∨ cl207.slots.size ≤ ((2 : Int32)).toNatClampNeg) := inb_of S207 ⟨by decide, by decide⟩
      obtain ⟨T207, h207, X207, e207, W207, st207⟩ := stJ X203 hx hZ e203 Ar207 (j := (2 : Int32)) hin207 (g := (mkF m 149 #[.val (.long q0), .second, .val (.long q1), .second, .val (.long q2), .second, .val (.long q3), .second, .val (.long q4), .second, .val (.int p5), .val (.long c0), .second, .val (.long c1), .second, .val (.long c2), .second, .val (.int (1 : Int32)), .val (.int (1 : Int32)), .val (.ref b63), .val (.ref b66), .unset, .unset] [(.long c1), (.int (2 : Int32)), (.ref b66)])) rfl rfl (hb hby at_149)
      have V207 : Arv Z h207 b66 k66 .long (4 : Int32) [(.long (c0 ^^^ (-1 : Int64))), (.long c0), (.long c1), (.long (c2 ^^^ (-1 : Int64)))] (.long (0 : Int64)) := Arv.set Ar207 q207 S207 Ng207 H207 G207 rfl W207 2 rfl (Nat.le_of_ble_eq_true rfl)
      have f208 := f204.other W207 ne_b63_b66
      have Z209 : n0 ≤ h207.size := Nat.le_trans Z205 (Keep.of_wr W207).1
      have K210 := K206.wr W207 (Or.inr sz_b66)
      have N207 := Fr.snoc X207 N203 g_b66
      obtain ⟨cl211, Ar211, q211, S211, Ng211, H211, G211⟩ := id V207
      have hin211 : ¬ ((3 : Int32) < 0 ∨ cl211.slots.size ≤ ((3 : Int32)).toNatClampNeg) := inb_of S211 ⟨by decide, by decide⟩
      obtain ⟨T211, h211, X211, e211, W211, st211⟩ := stJ X207 hx hZ e207 Ar211 (j := (3 : Int32)) hin211 (g := (mkF m 158 #[.val (.long q0), .second, .val (.long q1), .second, .val (.long q2), .second, .val (.long q3), .second, .val (.long q4), .second, .val (.int p5), .val (.long c0), .second, .val (.long c1), .second, .val (.long c2), .second, .val (.int (1 : Int32)), .val (.int (1 : Int32)), .val (.ref b63), .val (.ref b66), .unset, .unset] [(.long c2), (.int (3 : Int32)), (.ref b66)])) rfl rfl (hb hby at_158)
      have V211 : Arv Z h211 b66 k66 .long (4 : Int32) [(.long (c0 ^^^ (-1 : Int64))), (.long c0), (.long c1), (.long c2)] (.long (0 : Int64)) := Arv.set Ar211 q211 S211 Ng211 H211 G211 rfl W211 3 rfl (Nat.le_of_ble_eq_true rfl)
      have f212 := f208.other W211 ne_b63_b66
      have Z213 : n0 ≤ h211.size := Nat.le_trans Z209 (Keep.of_wr W211).1
      have K214 := K210.wr W211 (Or.inr sz_b66)
      have N211 := Fr.snoc X211 N207 g_b66
      obtain ⟨_, _, ⟨T215, L215, k215, n215⟩, -, X215, ⟨Lc215, hQ215, l215, y215, z215⟩, st215⟩ := Jvm.LawKit.callS X211 hx (y := (⟨"com/example/mynah/mynah/rpsl/PrefixRange", "compareKeys", "([JI[JI)I"⟩ : MethodName)) hown (mvT hZ (hw _ (List.mem_of_getElem? (i := 2) rfl))) (mvT hZ (hw _ (List.mem_of_getElem? (i := 3) rfl))) (mvT hZ (hw _ (List.mem_of_getElem? (i := 4) rfl))) (mvT hZ (hw _ (List.mem_of_getElem? (i := 5) rfl))) (by decide) (backOf (W := 0) (rmK l Z a0 hw [] b63 (1 : Int32) b66 (1 : Int32) k63 k66 [(.long (q0 ^^^ (-1 : Int64))), (.long q0), (.long q1), (.long q2)] [(.long (c0 ^^^ (-1 : Int64))), (.long c0), (.long c1), (.long c2)] q0 q1 q2 c0 c1 c2 h211 n0 Z213 f212 V211 ⟨by decide, by decide⟩ rfl ⟨by decide, by decide⟩ rfl ⟨by decide, by decide⟩ rfl ⟨by decide, by decide⟩ rfl ⟨by decide, by decide⟩ rfl ⟨by decide, by decide⟩ rfl) hZ (hw _ (List.mem_of_getElem? (i := 5) rfl)) (hw _ (List.mem_of_getElem? (i := 4) rfl)) (by decide) (by decide)) (g := (mkF m 167 #[.val (.long q0), .second, .val (.long q1), .second, .val (.long q2), .second, .val (.long q3), .second, .val (.long q4), .second, .val (.int p5), .val (.long c0), .second, .val (.long c1), .second, .val (.long c2), .second, .val (.int (1 : Int32)), .val (.int (1 : Int32)), .val (.ref b63), .val (.ref b66), .unset, .unset] [(.int (1 : Int32)), (.ref b66), (.int (1 : Int32)), (.ref b63)])) rfl (by rw [hml]; rfl) (argsL := [(.ref b63), (.int (1 : Int32)), (.ref b66), (.int (1 : Int32))]) (rest := []) (lenOf own_pd_1 rfl) rfl (by show 2 * 0 + _ ≤ _; exact Nat.le_of_eq rfl) (hb hby at_167) (fun _ _ => ⟨rfl, e211, (by decide : 2 + 0 ≤ _), (by decide : 8 + 0 ≤ _)⟩)
      dsimp only [Pt.U, Pt.locs, Pt.cells, Pt.slots] at X215 l215 y215 z215 st215 hQ215
      subst l215 y215 z215
      obtain ⟨rfl, Nq215, eq215⟩ := hQ215
      have N215 := Fr.app N211 Nq215
      have k216 : ∀ t, Steps p.tables e below (T215.setTop (mkF m 172 #[.val (.long q0), .second, .val (.long q1), .second, .val (.long q2), .second, .val (.long q3), .second, .val (.long q4), .second, .val (.int p5), .val (.long c0), .second, .val (.long c1), .second, .val (.long c2), .second, .val (.int (1 : Int32)), .val (.int (1 : Int32)), .val (.ref b63), .val (.ref b66), .val (.int (own_ck q0 q1 q2 c0 c1 c2)), .unset] [])) t → Steps p.tables e below (s₁.setTop (mkF m 0 #[.val (.long q0), .second, .val (.long q1), .second, .val (.long q2), .second, .val (.long q3), .second, .val (.long q4), .second, .val (.int p5), .unset, .unset, .unset, .unset, .unset, .unset, .unset, .unset, .unset, .unset, .unset, .unset] [])) t := by
        intro t h
        refine k80 t ?_
        refine XS.iload X74.here hx rfl (hb hby at_93) rfl ?_
        refine XS.lloadN X74.here hx rfl (hb hby at_95) rfl ?_
        refine st183 _ ?_
        refine XS.aload X183.here hx rfl (hb hby at_97) rfl rfl ?_
        refine XS.iload X183.here hx rfl (hb hby at_99) rfl ?_
        refine XS.iconst X183.here hx rfl (hb hby at_101) ?_
        refine XS.iadd X183.here hx rfl (hb hby at_102) rfl ?_
        refine XS.lloadN X183.here hx rfl (hb hby at_103) rfl ?_
        refine st187 _ ?_
        refine XS.aload X187.here hx rfl (hb hby at_105) rfl rfl ?_
        refine XS.iload X187.here hx rfl (hb hby at_107) rfl ?_
        refine XS.iconst X187.here hx rfl (hb hby at_109) ?_
        refine XS.iadd X187.here hx rfl (hb hby at_110) rfl ?_
        refine XS.lload X187.here hx rfl (hb hby at_111) rfl ?_
        refine st191 _ ?_
        refine XS.aload X191.here hx rfl (hb hby at_114) rfl rfl ?_
        refine XS.iconst X191.here hx rfl (hb hby at_116) ?_
        refine XS.lload X191.here hx rfl (hb hby at_117) rfl ?_
        refine X191.ldc2Long hx hown (mvT hZ (hw _ (List.mem_of_getElem? (i := 1) rfl))) (g := (mkF m 119 #[.val (.long q0), .second, .val (.long q1), .second, .val (.long q2), .second, .val (.long q3), .second, .val (.long q4), .second, .val (.int p5), .val (.long c0), .second, .val (.long c1), .second, .val (.long c2), .second, .val (.int (1 : Int32)), .val (.int (1 : Int32)), .val (.ref b63), .val (.ref b66), .unset, .unset] [(.long c0), (.int (0 : Int32)), (.ref b66)])) rfl (hb hby at_119) _ ?_
        refine XS.lxor X191.here hx rfl (hb hby at_122) rfl ?_
        refine st195 _ ?_
        refine XS.aload X195.here hx rfl (hb hby at_124) rfl rfl ?_
        refine XS.iconst X195.here hx rfl (hb hby at_126) ?_
        refine XS.lload X195.here hx rfl (hb hby at_127) rfl ?_
        refine X195.ldc2Long hx hown (mvT hZ (hw _ (List.mem_of_getElem? (i := 1) rfl))) (g := (mkF m 129 #[.val (.long q0), .second, .val (.long q1), .second, .val (.long q2), .second, .val (.long q3), .second, .val (.long q4), .second, .val (.int p5), .val (.long c0), .second, .val (.long c1), .second, .val (.long c2), .second, .val (.int (1 : Int32)), .val (.int (1 : Int32)), .val (.ref b63), .val (.ref b66), .unset, .unset] [(.long c2), (.int (3 : Int32)), (.ref b66)])) rfl (hb hby at_129) _ ?_
        refine XS.lxor X195.here hx rfl (hb hby at_132) rfl ?_
        refine st199 _ ?_
        refine XS.aload X199.here hx rfl (hb hby at_134) rfl rfl ?_
        refine XS.iload X199.here hx rfl (hb hby at_136) rfl ?_
        refine XS.lload X199.here hx rfl (hb hby at_138) rfl ?_
        refine st203 _ ?_
        refine XS.aload X203.here hx rfl (hb hby at_141) rfl rfl ?_
        refine XS.iload X203.here hx rfl (hb hby at_143) rfl ?_
        refine XS.iconst X203.here hx rfl (hb hby at_145) ?_
        refine XS.iadd X203.here hx rfl (hb hby at_146) rfl ?_
        refine XS.lload X203.here hx rfl (hb hby at_147) rfl ?_
        refine st207 _ ?_
        refine XS.aload X207.here hx rfl (hb hby at_150) rfl rfl ?_
        refine XS.iload X207.here hx rfl (hb hby at_152) rfl ?_
        refine XS.iconst X207.here hx rfl (hb hby at_154) ?_
        refine XS.iadd X207.here hx rfl (hb hby at_155) rfl ?_
        refine XS.lload X207.here hx rfl (hb hby at_156) rfl ?_
        refine st211 _ ?_
        refine XS.aload X211.here hx rfl (hb hby at_159) rfl rfl ?_
        refine XS.iload X211.here hx rfl (hb hby at_161) rfl ?_
        refine XS.aload X211.here hx rfl (hb hby at_163) rfl rfl ?_
        refine XS.iload X211.here hx rfl (hb hby at_165) rfl ?_
        refine st215 _ ?_
        refine XS.istore X215.here hx rfl (hb hby at_170) rfl (l' := #[.val (.long q0), .second, .val (.long q1), .second, .val (.long q2), .second, .val (.long q3), .second, .val (.long q4), .second, .val (.int p5), .val (.long c0), .second, .val (.long c1), .second, .val (.long c2), .second, .val (.int (1 : Int32)), .val (.int (1 : Int32)), .val (.ref b63), .val (.ref b66), .val (.int (own_ck q0 q1 q2 c0 c1 c2)), .unset]) rfl ?_
        exact h
      exact ⟨T215, _, _, (1 : Int32), (1 : Int32), X215, eq215, N215, Z213, K214, trivial, k216⟩
  obtain ⟨T217, h217, L217, rf, X217, e217, N217, Z217, K217, h217p, k217⟩ : ∃ (T217 : State) (h217 : Heap) (L217 : List Loc) (rf : Int32), Stand p l e room_1 s m #[(.long q0), (.long q1), (.long q2), (.long q3), (.long q4), (.int p5)] below meth c T217 L217 2 8 ∧ T217.heap = h217 ∧ Fr n0 L217 ∧ n0 ≤ h217.size ∧ Keep h0 h217 [] ∧ (rf = own_ck q0 q1 q2 c0 c1 c2) ∧ ∀ t, Steps p.tables e below (T217.setTop (mkF m 229 #[.val (.long q0), .second, .val (.long q1), .second, .val (.long q2), .second, .val (.long q3), .second, .val (.long q4), .second, .val (.int p5), .val (.long c0), .second, .val (.long c1), .second, .val (.long c2), .second, .val (.int j17), .val (.int j18), .val (.ref b63), .val (.ref b66), .val (.int (own_ck q0 q1 q2 c0 c1 c2)), .val (.int rf)] [])) t → Steps p.tables e below (s₁.setTop (mkF m 0 #[.val (.long q0), .second, .val (.long q1), .second, .val (.long q2), .second, .val (.long q3), .second, .val (.long q4), .second, .val (.int p5), .unset, .unset, .unset, .unset, .unset, .unset, .unset, .unset, .unset, .unset, .unset, .unset] [])) t := by
    have k218 : ∀ t, Steps p.tables e below (T79.setTop (mkF m 176 #[.val (.long q0), .second, .val (.long q1), .second, .val (.long q2), .second, .val (.long q3), .second, .val (.long q4), .second, .val (.int p5), .val (.long c0), .second, .val (.long c1), .second, .val (.long c2), .second, .val (.int j17), .val (.int j18), .val (.ref b63), .val (.ref b66), .val (.int (own_ck q0 q1 q2 c0 c1 c2)), .unset] [(.int (lcmpW q0 c0))])) t → Steps p.tables e below (s₁.setTop (mkF m 0 #[.val (.long q0), .second, .val (.long q1), .second, .val (.long q2), .second, .val (.long q3), .second, .val (.long q4), .second, .val (.int p5), .unset, .unset, .unset, .unset, .unset, .unset, .unset, .unset, .unset, .unset, .unset, .unset] [])) t := by
      intro t h
      refine k79 t ?_
      refine XS.lloadN X79.here hx rfl (hb hby at_172) rfl ?_
      refine XS.lload X79.here hx rfl (hb hby at_173) rfl ?_
      refine XS.lcmp X79.here hx rfl (hb hby at_175) rfl ?_
      exact h
    by_cases c176_219 : (lcmpW q0 c0) = (0 : Int32)
    · skip
      have k220 : ∀ t, Steps p.tables e below (T79.setTop (mkF m 193 #[.val (.long q0), .second, .val (.long q1), .second, .val (.long q2), .second, .val (.long q3), .second, .val (.long q4), .second, .val (.int p5), .val (.long c0), .second, .val (.long c1), .second, .val (.long c2), .second, .val (.int j17), .val (.int j18), .val (.ref b63), .val (.ref b66), .val (.int (own_ck q0 q1 q2 c0 c1 c2)), .unset] [(.int (lcmpW q0 (0 : Int64)))])) t → Steps p.tables e below (s₁.setTop (mkF m 0 #[.val (.long q0), .second, .val (.long q1), .second, .val (.long q2), .second, .val (.long q3), .second, .val (.long q4), .second, .val (.int p5), .unset, .unset, .unset, .unset, .unset, .unset, .unset, .unset, .unset, .unset, .unset, .unset] [])) t := by
        intro t h
        refine k218 t ?_
        show Steps p.tables e below (T79.setTop (mkF m 176 #[.val (.long q0), .second, .val (.long q1), .second, .val (.long q2), .second, .val (.long q3), .second, .val (.long q4), .second, .val (.int p5), .val (.long c0), .second, .val (.long c1), .second, .val (.long c2), .second, .val (.int j17), .val (.int j18), .val (.ref b63), .val (.ref b66), .val (.int (own_ck q0 q1 q2 c0 c1 c2)), .unset] [(.int (lcmpW q0 c0))])) _
        refine XS.ifYes X79.here hx rfl (pc0 := 176) (pc' := 190) rfl (hb hby at_176) rfl ((if0 _ _).trans (teq c176_219).1) (by decide) (by decide) ?_
        refine XS.lloadN X79.here hx rfl (hb hby at_190) rfl ?_
        refine XS.lconst X79.here hx rfl (hb hby at_191) ?_
        refine XS.lcmp X79.here hx rfl (hb hby at_192) rfl ?_
        exact h
      by_cases c193_221 : (lcmpW q0 (0 : Int64)) < (0 : Int32)
      · skip
        have k222 : ∀ t, Steps p.tables e below (T79.setTop (mkF m 206 #[.val (.long q0), .second, .val (.long q1), .second, .val (.long q2), .second, .val (.long q3), .second, .val (.long q4), .second, .val (.int p5), .val (.long c0), .second, .val (.long c1), .second, .val (.long c2), .second, .val (.int j17), .val (.int j18), .val (.ref b63), .val (.ref b66), .val (.int (own_ck q0 q1 q2 c0 c1 c2)), .unset] [(.int (lcmpW q1 c1))])) t → Steps p.tables e below (s₁.setTop (mkF m 0 #[.val (.long q0), .second, .val (.long q1), .second, .val (.long q2), .second, .val (.long q3), .second, .val (.long q4), .second, .val (.int p5), .unset, .unset, .unset, .unset, .unset, .unset, .unset, .unset, .unset, .unset, .unset, .unset] [])) t := by
          intro t h
          refine k220 t ?_
          show Steps p.tables e below (T79.setTop (mkF m 193 #[.val (.long q0), .second, .val (.long q1), .second, .val (.long q2), .second, .val (.long q3), .second, .val (.long q4), .second, .val (.int p5), .val (.long c0), .second, .val (.long c1), .second, .val (.long c2), .second, .val (.int j17), .val (.int j18), .val (.ref b63), .val (.ref b66), .val (.int (own_ck q0 q1 q2 c0 c1 c2)), .unset] [(.int (lcmpW q0 (0 : Int64)))])) _
          refine XS.ifYes X79.here hx rfl (pc0 := 193) (pc' := 202) rfl (hb hby at_193) rfl ((if0 _ _).trans (tlt c193_221).1) (by decide) (by decide) ?_
          refine XS.lloadN X79.here hx rfl (hb hby at_202) rfl ?_
          refine XS.lload X79.here hx rfl (hb hby at_203) rfl ?_
          refine XS.lcmp X79.here hx rfl (hb hby at_205) rfl ?_
          exact h
        by_cases c206_223 : (lcmpW q1 c1) = (0 : Int32)
        · skip
          obtain ⟨_, _, ⟨T224, L224, k224, n224⟩, -, X224, ⟨Lc224, hQ224, l224, y224, z224⟩, st224⟩ := Jvm.LawKit.callS X79 hx (y := (⟨"com/example/mynah/mynah/rpsl/PrefixRangeCompareKeysPinLaw", "unsignedOrder", "(JJ)I"⟩ : MethodName)) hown (mvT hZ (hw _ (List.mem_of_getElem? (i := 14) rfl))) (mvT hZ (hw _ (List.mem_of_getElem? (i := 15) rfl))) (mvT hZ (hw _ (List.mem_of_getElem? (i := 16) rfl))) (mvT hZ (hw _ (List.mem_of_getElem? (i := 17) rfl))) (by decide) (backOf (W := 0) (rmO l Z a0 hw [] q2 c2  h79 n0 Z79 ) hZ (hw _ (List.mem_of_getElem? (i := 17) rfl)) (hw _ (List.mem_of_getElem? (i := 16) rfl)) (by decide) (by decide)) (g := (mkF m 224 #[.val (.long q0), .second, .val (.long q1), .second, .val (.long q2), .second, .val (.long q3), .second, .val (.long q4), .second, .val (.int p5), .val (.long c0), .second, .val (.long c1), .second, .val (.long c2), .second, .val (.int j17), .val (.int j18), .val (.ref b63), .val (.ref b66), .val (.int (own_ck q0 q1 q2 c0 c1 c2)), .unset] [(.long c2), (.long q2)])) rfl (by rw [hml]; rfl) (argsL := [(.long q2), (.long c2)]) (rest := []) (lenOf own_pd_0 rfl) rfl (by show 2 * 0 + _ ≤ _; exact Nat.le_of_eq rfl) (hb hby at_224) (fun _ _ => ⟨rfl, e79, (by decide : 2 + 0 ≤ _), (by decide : 8 + 0 ≤ _)⟩)
          dsimp only [Pt.U, Pt.locs, Pt.cells, Pt.slots] at X224 l224 y224 z224 st224 hQ224
          subst l224 y224 z224
          obtain ⟨rfl, Nq224, eq224⟩ := hQ224
          have N224 := Fr.app N79 Nq224
          have k225 : ∀ t, Steps p.tables e below (T224.setTop (mkF m 229 #[.val (.long q0), .second, .val (.long q1), .second, .val (.long q2), .second, .val (.long q3), .second, .val (.long q4), .second, .val (.int p5), .val (.long c0), .second, .val (.long c1), .second, .val (.long c2), .second, .val (.int j17), .val (.int j18), .val (.ref b63), .val (.ref b66), .val (.int (own_ck q0 q1 q2 c0 c1 c2)), .val (.int (own_uo q2 c2))] [])) t → Steps p.tables e below (s₁.setTop (mkF m 0 #[.val (.long q0), .second, .val (.long q1), .second, .val (.long q2), .second, .val (.long q3), .second, .val (.long q4), .second, .val (.int p5), .unset, .unset, .unset, .unset, .unset, .unset, .unset, .unset, .unset, .unset, .unset, .unset] [])) t := by
            intro t h
            refine k222 t ?_
            show Steps p.tables e below (T79.setTop (mkF m 206 #[.val (.long q0), .second, .val (.long q1), .second, .val (.long q2), .second, .val (.long q3), .second, .val (.long q4), .second, .val (.int p5), .val (.long c0), .second, .val (.long c1), .second, .val (.long c2), .second, .val (.int j17), .val (.int j18), .val (.ref b63), .val (.ref b66), .val (.int (own_ck q0 q1 q2 c0 c1 c2)), .unset] [(.int (lcmpW q1 c1))])) _
            refine XS.ifYes X79.here hx rfl (pc0 := 206) (pc' := 220) rfl (hb hby at_206) rfl ((if0 _ _).trans (teq c206_223).1) (by decide) (by decide) ?_
            refine XS.lload X79.here hx rfl (hb hby at_220) rfl ?_
            refine XS.lload X79.here hx rfl (hb hby at_222) rfl ?_
            refine st224 _ ?_
            refine XS.istore X224.here hx rfl (hb hby at_227) rfl (l' := #[.val (.long q0), .second, .val (.long q1), .second, .val (.long q2), .second, .val (.long q3), .second, .val (.long q4), .second, .val (.int p5), .val (.long c0), .second, .val (.long c1), .second, .val (.long c2), .second, .val (.int j17), .val (.int j18), .val (.ref b63), .val (.ref b66), .val (.int (own_ck q0 q1 q2 c0 c1 c2)), .val (.int (own_uo q2 c2))]) rfl ?_
            exact h
          exact ⟨T224, _, _, (own_uo q2 c2), X224, eq224, N224, Z79, K79, own_ref3 c176_219 c193_221 c206_223, k225⟩
        · skip
          obtain ⟨_, _, ⟨T226, L226, k226, n226⟩, -, X226, ⟨Lc226, hQ226, l226, y226, z226⟩, st226⟩ := Jvm.LawKit.callS X79 hx (y := (⟨"com/example/mynah/mynah/rpsl/PrefixRangeCompareKeysPinLaw", "unsignedOrder", "(JJ)I"⟩ : MethodName)) hown (mvT hZ (hw _ (List.mem_of_getElem? (i := 14) rfl))) (mvT hZ (hw _ (List.mem_of_getElem? (i := 15) rfl))) (mvT hZ (hw _ (List.mem_of_getElem? (i := 16) rfl))) (mvT hZ (hw _ (List.mem_of_getElem? (i := 17) rfl))) (by decide) (backOf (W := 0) (rmO l Z a0 hw [] q1 c1  h79 n0 Z79 ) hZ (hw _ (List.mem_of_getElem? (i := 17) rfl)) (hw _ (List.mem_of_getElem? (i := 16) rfl)) (by decide) (by decide)) (g := (mkF m 212 #[.val (.long q0), .second, .val (.long q1), .second, .val (.long q2), .second, .val (.long q3), .second, .val (.long q4), .second, .val (.int p5), .val (.long c0), .second, .val (.long c1), .second, .val (.long c2), .second, .val (.int j17), .val (.int j18), .val (.ref b63), .val (.ref b66), .val (.int (own_ck q0 q1 q2 c0 c1 c2)), .unset] [(.long c1), (.long q1)])) rfl (by rw [hml]; rfl) (argsL := [(.long q1), (.long c1)]) (rest := []) (lenOf own_pd_0 rfl) rfl (by show 2 * 0 + _ ≤ _; exact Nat.le_of_eq rfl) (hb hby at_212) (fun _ _ => ⟨rfl, e79, (by decide : 2 + 0 ≤ _), (by decide : 8 + 0 ≤ _)⟩)
          dsimp only [Pt.U, Pt.locs, Pt.cells, Pt.slots] at X226 l226 y226 z226 st226 hQ226
          subst l226 y226 z226
          obtain ⟨rfl, Nq226, eq226⟩ := hQ226
          have N226 := Fr.app N79 Nq226
          have k227 : ∀ t, Steps p.tables e below (T226.setTop (mkF m 229 #[.val (.long q0), .second, .val (.long q1), .second, .val (.long q2), .second, .val (.long q3), .second, .val (.long q4), .second, .val (.int p5), .val (.long c0), .second, .val (.long c1), .second, .val (.long c2), .second, .val (.int j17), .val (.int j18), .val (.ref b63), .val (.ref b66), .val (.int (own_ck q0 q1 q2 c0 c1 c2)), .val (.int (own_uo q1 c1))] [])) t → Steps p.tables e below (s₁.setTop (mkF m 0 #[.val (.long q0), .second, .val (.long q1), .second, .val (.long q2), .second, .val (.long q3), .second, .val (.long q4), .second, .val (.int p5), .unset, .unset, .unset, .unset, .unset, .unset, .unset, .unset, .unset, .unset, .unset, .unset] [])) t := by
            intro t h
            refine k222 t ?_
            show Steps p.tables e below (T79.setTop (mkF m 206 #[.val (.long q0), .second, .val (.long q1), .second, .val (.long q2), .second, .val (.long q3), .second, .val (.long q4), .second, .val (.int p5), .val (.long c0), .second, .val (.long c1), .second, .val (.long c2), .second, .val (.int j17), .val (.int j18), .val (.ref b63), .val (.ref b66), .val (.int (own_ck q0 q1 q2 c0 c1 c2)), .unset] [(.int (lcmpW q1 c1))])) _
            refine XS.ifNo X79.here hx rfl (hb hby at_206) rfl ((if0 _ _).trans (feq c206_223).1) ?_
            refine XS.lloadN X79.here hx rfl (hb hby at_209) rfl ?_
            refine XS.lload X79.here hx rfl (hb hby at_210) rfl ?_
            refine st226 _ ?_
            refine XS.istore X226.here hx rfl (hb hby at_215) rfl (l' := #[.val (.long q0), .second, .val (.long q1), .second, .val (.long q2), .second, .val (.long q3), .second, .val (.long q4), .second, .val (.int p5), .val (.long c0), .second, .val (.long c1), .second, .val (.long c2), .second, .val (.int j17), .val (.int j18), .val (.ref b63), .val (.ref b66), .val (.int (own_ck q0 q1 q2 c0 c1 c2)), .val (.int (own_uo q1 c1))]) rfl ?_
            refine XS.goto X226.here hx rfl (pc0 := 217) (pc' := 229) rfl (hb hby at_217) (by decide) (by decide) ?_
            exact h
          exact ⟨T226, _, _, (own_uo q1 c1), X226, eq226, N226, Z79, K79, own_ref2 c176_219 c193_221 c206_223, k227⟩
      · skip
        have k228 : ∀ t, Steps p.tables e below (T79.setTop (mkF m 229 #[.val (.long q0), .second, .val (.long q1), .second, .val (.long q2), .second, .val (.long q3), .second, .val (.long q4), .second, .val (.int p5), .val (.long c0), .second, .val (.long c1), .second, .val (.long c2), .second, .val (.int j17), .val (.int j18), .val (.ref b63), .val (.ref b66), .val (.int (own_ck q0 q1 q2 c0 c1 c2)), .val (.int (0 : Int32))] [])) t → Steps p.tables e below (s₁.setTop (mkF m 0 #[.val (.long q0), .second, .val (.long q1), .second, .val (.long q2), .second, .val (.long q3), .second, .val (.long q4), .second, .val (.int p5), .unset, .unset, .unset, .unset, .unset, .unset, .unset, .unset, .unset, .unset, .unset, .unset] [])) t := by
          intro t h
          refine k220 t ?_
          show Steps p.tables e below (T79.setTop (mkF m 193 #[.val (.long q0), .second, .val (.long q1), .second, .val (.long q2), .second, .val (.long q3), .second, .val (.long q4), .second, .val (.int p5), .val (.long c0), .second, .val (.long c1), .second, .val (.long c2), .second, .val (.int j17), .val (.int j18), .val (.ref b63), .val (.ref b66), .val (.int (own_ck q0 q1 q2 c0 c1 c2)), .unset] [(.int (lcmpW q0 (0 : Int64)))])) _
          refine XS.ifNo X79.here hx rfl (hb hby at_193) rfl ((if0 _ _).trans (flt c193_221).1) ?_
          refine XS.iconst X79.here hx rfl (hb hby at_196) ?_
          refine XS.istore X79.here hx rfl (hb hby at_197) rfl (l' := #[.val (.long q0), .second, .val (.long q1), .second, .val (.long q2), .second, .val (.long q3), .second, .val (.long q4), .second, .val (.int p5), .val (.long c0), .second, .val (.long c1), .second, .val (.long c2), .second, .val (.int j17), .val (.int j18), .val (.ref b63), .val (.ref b66), .val (.int (own_ck q0 q1 q2 c0 c1 c2)), .val (.int (0 : Int32))]) rfl ?_
          refine XS.goto X79.here hx rfl (pc0 := 199) (pc' := 229) rfl (hb hby at_199) (by decide) (by decide) ?_
          exact h
        exact ⟨T79, _, _, (0 : Int32), X79, e79, N79, Z79, K79, own_ref0 c176_219 c193_221, k228⟩
    · skip
      obtain ⟨_, _, ⟨T229, L229, k229, n229⟩, -, X229, ⟨Lc229, hQ229, l229, y229, z229⟩, st229⟩ := Jvm.LawKit.callS X79 hx (y := (⟨"com/example/mynah/mynah/rpsl/PrefixRangeCompareKeysPinLaw", "unsignedOrder", "(JJ)I"⟩ : MethodName)) hown (mvT hZ (hw _ (List.mem_of_getElem? (i := 14) rfl))) (mvT hZ (hw _ (List.mem_of_getElem? (i := 15) rfl))) (mvT hZ (hw _ (List.mem_of_getElem? (i := 16) rfl))) (mvT hZ (hw _ (List.mem_of_getElem? (i := 17) rfl))) (by decide) (backOf (W := 0) (rmO l Z a0 hw [] q0 c0  h79 n0 Z79 ) hZ (hw _ (List.mem_of_getElem? (i := 17) rfl)) (hw _ (List.mem_of_getElem? (i := 16) rfl)) (by decide) (by decide)) (g := (mkF m 182 #[.val (.long q0), .second, .val (.long q1), .second, .val (.long q2), .second, .val (.long q3), .second, .val (.long q4), .second, .val (.int p5), .val (.long c0), .second, .val (.long c1), .second, .val (.long c2), .second, .val (.int j17), .val (.int j18), .val (.ref b63), .val (.ref b66), .val (.int (own_ck q0 q1 q2 c0 c1 c2)), .unset] [(.long c0), (.long q0)])) rfl (by rw [hml]; rfl) (argsL := [(.long q0), (.long c0)]) (rest := []) (lenOf own_pd_0 rfl) rfl (by show 2 * 0 + _ ≤ _; exact Nat.le_of_eq rfl) (hb hby at_182) (fun _ _ => ⟨rfl, e79, (by decide : 2 + 0 ≤ _), (by decide : 8 + 0 ≤ _)⟩)
      dsimp only [Pt.U, Pt.locs, Pt.cells, Pt.slots] at X229 l229 y229 z229 st229 hQ229
      subst l229 y229 z229
      obtain ⟨rfl, Nq229, eq229⟩ := hQ229
      have N229 := Fr.app N79 Nq229
      have k230 : ∀ t, Steps p.tables e below (T229.setTop (mkF m 229 #[.val (.long q0), .second, .val (.long q1), .second, .val (.long q2), .second, .val (.long q3), .second, .val (.long q4), .second, .val (.int p5), .val (.long c0), .second, .val (.long c1), .second, .val (.long c2), .second, .val (.int j17), .val (.int j18), .val (.ref b63), .val (.ref b66), .val (.int (own_ck q0 q1 q2 c0 c1 c2)), .val (.int (own_uo q0 c0))] [])) t → Steps p.tables e below (s₁.setTop (mkF m 0 #[.val (.long q0), .second, .val (.long q1), .second, .val (.long q2), .second, .val (.long q3), .second, .val (.long q4), .second, .val (.int p5), .unset, .unset, .unset, .unset, .unset, .unset, .unset, .unset, .unset, .unset, .unset, .unset] [])) t := by
        intro t h
        refine k218 t ?_
        show Steps p.tables e below (T79.setTop (mkF m 176 #[.val (.long q0), .second, .val (.long q1), .second, .val (.long q2), .second, .val (.long q3), .second, .val (.long q4), .second, .val (.int p5), .val (.long c0), .second, .val (.long c1), .second, .val (.long c2), .second, .val (.int j17), .val (.int j18), .val (.ref b63), .val (.ref b66), .val (.int (own_ck q0 q1 q2 c0 c1 c2)), .unset] [(.int (lcmpW q0 c0))])) _
        refine XS.ifNo X79.here hx rfl (hb hby at_176) rfl ((if0 _ _).trans (feq c176_219).1) ?_
        refine XS.lloadN X79.here hx rfl (hb hby at_179) rfl ?_
        refine XS.lload X79.here hx rfl (hb hby at_180) rfl ?_
        refine st229 _ ?_
        refine XS.istore X229.here hx rfl (hb hby at_185) rfl (l' := #[.val (.long q0), .second, .val (.long q1), .second, .val (.long q2), .second, .val (.long q3), .second, .val (.long q4), .second, .val (.int p5), .val (.long c0), .second, .val (.long c1), .second, .val (.long c2), .second, .val (.int j17), .val (.int j18), .val (.ref b63), .val (.ref b66), .val (.int (own_ck q0 q1 q2 c0 c1 c2)), .val (.int (own_uo q0 c0))]) rfl ?_
        refine XS.goto X229.here hx rfl (pc0 := 187) (pc' := 229) rfl (hb hby at_187) (by decide) (by decide) ?_
        exact h
      exact ⟨T229, _, _, (own_uo q0 c0), X229, eq229, N229, Z79, K79, own_ref1 c176_219, k230⟩
  have kq := k217
  rw [h217p] at kq
  have k231 : ∀ t, Steps p.tables e below (T217.setTop (mkF m 231 #[.val (.long q0), .second, .val (.long q1), .second, .val (.long q2), .second, .val (.long q3), .second, .val (.long q4), .second, .val (.int p5), .val (.long c0), .second, .val (.long c1), .second, .val (.long c2), .second, .val (.int j17), .val (.int j18), .val (.ref b63), .val (.ref b66), .val (.int (own_ck q0 q1 q2 c0 c1 c2)), .val (.int (own_ck q0 q1 q2 c0 c1 c2))] [(.int (own_ck q0 q1 q2 c0 c1 c2))])) t → Steps p.tables e below (s₁.setTop (mkF m 0 #[.val (.long q0), .second, .val (.long q1), .second, .val (.long q2), .second, .val (.long q3), .second, .val (.long q4), .second, .val (.int p5), .unset, .unset, .unset, .unset, .unset, .unset, .unset, .unset, .unset, .unset, .unset, .unset] [])) t := by
    intro t h
    refine kq t ?_
    refine XS.iload X217.here hx rfl (hb hby at_229) rfl ?_
    exact h
  by_cases c231_232 : (own_ck q0 q1 q2 c0 c1 c2) < (0 : Int32)
  · skip
    have k233 : ∀ t, Steps p.tables e below (T217.setTop (mkF m 241 #[.val (.long q0), .second, .val (.long q1), .second, .val (.long q2), .second, .val (.long q3), .second, .val (.long q4), .second, .val (.int p5), .val (.long c0), .second, .val (.long c1), .second, .val (.long c2), .second, .val (.int j17), .val (.int j18), .val (.ref b63), .val (.ref b66), .val (.int (own_ck q0 q1 q2 c0 c1 c2)), .val (.int (own_ck q0 q1 q2 c0 c1 c2))] [(.int (own_ck q0 q1 q2 c0 c1 c2)), (.int (1 : Int32))])) t → Steps p.tables e below (s₁.setTop (mkF m 0 #[.val (.long q0), .second, .val (.long q1), .second, .val (.long q2), .second, .val (.long q3), .second, .val (.long q4), .second, .val (.int p5), .unset, .unset, .unset, .unset, .unset, .unset, .unset, .unset, .unset, .unset, .unset, .unset] [])) t := by
      intro t h
      refine k231 t ?_
      show Steps p.tables e below (T217.setTop (mkF m 231 #[.val (.long q0), .second, .val (.long q1), .second, .val (.long q2), .second, .val (.long q3), .second, .val (.long q4), .second, .val (.int p5), .val (.long c0), .second, .val (.long c1), .second, .val (.long c2), .second, .val (.int j17), .val (.int j18), .val (.ref b63), .val (.ref b66), .val (.int (own_ck q0 q1 q2 c0 c1 c2)), .val (.int (own_ck q0 q1 q2 c0 c1 c2))] [(.int (own_ck q0 q1 q2 c0 c1 c2))])) _
      refine XS.ifNo X217.here hx rfl (hb hby at_231) rfl ((if0 _ _).trans (tlt c231_232).2.1) ?_
      refine XS.iconst X217.here hx rfl (hb hby at_234) ?_
      refine XS.goto X217.here hx rfl (pc0 := 235) (pc' := 239) rfl (hb hby at_235) (by decide) (by decide) ?_
      refine XS.iload X217.here hx rfl (hb hby at_239) rfl ?_
      exact h
    have k234 : ∀ t, Steps p.tables e below (T217.setTop (mkF m 249 #[.val (.long q0), .second, .val (.long q1), .second, .val (.long q2), .second, .val (.long q3), .second, .val (.long q4), .second, .val (.int p5), .val (.long c0), .second, .val (.long c1), .second, .val (.long c2), .second, .val (.int j17), .val (.int j18), .val (.ref b63), .val (.ref b66), .val (.int (own_ck q0 q1 q2 c0 c1 c2)), .val (.int (own_ck q0 q1 q2 c0 c1 c2))] [(.int (1 : Int32)), (.int (1 : Int32))])) t → Steps p.tables e below (s₁.setTop (mkF m 0 #[.val (.long q0), .second, .val (.long q1), .second, .val (.long q2), .second, .val (.long q3), .second, .val (.long q4), .second, .val (.int p5), .unset, .unset, .unset, .unset, .unset, .unset, .unset, .unset, .unset, .unset, .unset, .unset] [])) t := by
      intro t h
      refine k233 t ?_
      show Steps p.tables e below (T217.setTop (mkF m 241 #[.val (.long q0), .second, .val (.long q1), .second, .val (.long q2), .second, .val (.long q3), .second, .val (.long q4), .second, .val (.int p5), .val (.long c0), .second, .val (.long c1), .second, .val (.long c2), .second, .val (.int j17), .val (.int j18), .val (.ref b63), .val (.ref b66), .val (.int (own_ck q0 q1 q2 c0 c1 c2)), .val (.int (own_ck q0 q1 q2 c0 c1 c2))] [(.int (own_ck q0 q1 q2 c0 c1 c2)), (.int (1 : Int32))])) _
      refine XS.ifNo X217.here hx rfl (hb hby at_241) rfl ((if0 _ _).trans (tlt c231_232).2.1) ?_
      refine XS.iconst X217.here hx rfl (hb hby at_244) ?_
      refine XS.goto X217.here hx rfl (pc0 := 245) (pc' := 249) rfl (hb hby at_245) (by decide) (by decide) ?_
      exact h
    have k235 : ∀ t, Steps p.tables e below (T217.setTop (mkF m 254 #[.val (.long q0), .second, .val (.long q1), .second, .val (.long q2), .second, .val (.long q3), .second, .val (.long q4), .second, .val (.int p5), .val (.long c0), .second, .val (.long c1), .second, .val (.long c2), .second, .val (.int j17), .val (.int j18), .val (.ref b63), .val (.ref b66), .val (.int (own_ck q0 q1 q2 c0 c1 c2)), .val (.int (own_ck q0 q1 q2 c0 c1 c2))] [(.int (own_ck q0 q1 q2 c0 c1 c2))])) t → Steps p.tables e below (s₁.setTop (mkF m 0 #[.val (.long q0), .second, .val (.long q1), .second, .val (.long q2), .second, .val (.long q3), .second, .val (.long q4), .second, .val (.int p5), .unset, .unset, .unset, .unset, .unset, .unset, .unset, .unset, .unset, .unset, .unset, .unset] [])) t := by
      intro t h
      refine k234 t ?_
      show Steps p.tables e below (T217.setTop (mkF m 249 #[.val (.long q0), .second, .val (.long q1), .second, .val (.long q2), .second, .val (.long q3), .second, .val (.long q4), .second, .val (.int p5), .val (.long c0), .second, .val (.long c1), .second, .val (.long c2), .second, .val (.int j17), .val (.int j18), .val (.ref b63), .val (.ref b66), .val (.int (own_ck q0 q1 q2 c0 c1 c2)), .val (.int (own_ck q0 q1 q2 c0 c1 c2))] [(.int (1 : Int32)), (.int (1 : Int32))])) _
      refine XS.icmpNo X217.here hx rfl (hb hby at_249) rfl (teq (by decide : (1 : Int32) = (1 : Int32))).2 ?_
      refine XS.iload X217.here hx rfl (hb hby at_252) rfl ?_
      exact h
    by_cases c254_236 : (own_ck q0 q1 q2 c0 c1 c2) = (0 : Int32)
    · skip
      have k237 : ∀ t, Steps p.tables e below (T217.setTop (mkF m 264 #[.val (.long q0), .second, .val (.long q1), .second, .val (.long q2), .second, .val (.long q3), .second, .val (.long q4), .second, .val (.int p5), .val (.long c0), .second, .val (.long c1), .second, .val (.long c2), .second, .val (.int j17), .val (.int j18), .val (.ref b63), .val (.ref b66), .val (.int (own_ck q0 q1 q2 c0 c1 c2)), .val (.int (own_ck q0 q1 q2 c0 c1 c2))] [(.int (own_ck q0 q1 q2 c0 c1 c2)), (.int (1 : Int32))])) t → Steps p.tables e below (s₁.setTop (mkF m 0 #[.val (.long q0), .second, .val (.long q1), .second, .val (.long q2), .second, .val (.long q3), .second, .val (.long q4), .second, .val (.int p5), .unset, .unset, .unset, .unset, .unset, .unset, .unset, .unset, .unset, .unset, .unset, .unset] [])) t := by
        intro t h
        refine k235 t ?_
        show Steps p.tables e below (T217.setTop (mkF m 254 #[.val (.long q0), .second, .val (.long q1), .second, .val (.long q2), .second, .val (.long q3), .second, .val (.long q4), .second, .val (.int p5), .val (.long c0), .second, .val (.long c1), .second, .val (.long c2), .second, .val (.int j17), .val (.int j18), .val (.ref b63), .val (.ref b66), .val (.int (own_ck q0 q1 q2 c0 c1 c2)), .val (.int (own_ck q0 q1 q2 c0 c1 c2))] [(.int (own_ck q0 q1 q2 c0 c1 c2))])) _
        refine XS.ifNo X217.here hx rfl (hb hby at_254) rfl ((if0 _ _).trans (teq c254_236).2) ?_
        refine XS.iconst X217.here hx rfl (hb hby at_257) ?_
        refine XS.goto X217.here hx rfl (pc0 := 258) (pc' := 262) rfl (hb hby at_258) (by decide) (by decide) ?_
        refine XS.iload X217.here hx rfl (hb hby at_262) rfl ?_
        exact h
      have k238 : ∀ t, Steps p.tables e below (T217.setTop (mkF m 272 #[.val (.long q0), .second, .val (.long q1), .second, .val (.long q2), .second, .val (.long q3), .second, .val (.long q4), .second, .val (.int p5), .val (.long c0), .second, .val (.long c1), .second, .val (.long c2), .second, .val (.int j17), .val (.int j18), .val (.ref b63), .val (.ref b66), .val (.int (own_ck q0 q1 q2 c0 c1 c2)), .val (.int (own_ck q0 q1 q2 c0 c1 c2))] [(.int (1 : Int32)), (.int (1 : Int32))])) t → Steps p.tables e below (s₁.setTop (mkF m 0 #[.val (.long q0), .second, .val (.long q1), .second, .val (.long q2), .second, .val (.long q3), .second, .val (.long q4), .second, .val (.int p5), .unset, .unset, .unset, .unset, .unset, .unset, .unset, .unset, .unset, .unset, .unset, .unset] [])) t := by
        intro t h
        refine k237 t ?_
        show Steps p.tables e below (T217.setTop (mkF m 264 #[.val (.long q0), .second, .val (.long q1), .second, .val (.long q2), .second, .val (.long q3), .second, .val (.long q4), .second, .val (.int p5), .val (.long c0), .second, .val (.long c1), .second, .val (.long c2), .second, .val (.int j17), .val (.int j18), .val (.ref b63), .val (.ref b66), .val (.int (own_ck q0 q1 q2 c0 c1 c2)), .val (.int (own_ck q0 q1 q2 c0 c1 c2))] [(.int (own_ck q0 q1 q2 c0 c1 c2)), (.int (1 : Int32))])) _
        refine XS.ifNo X217.here hx rfl (hb hby at_264) rfl ((if0 _ _).trans (teq c254_236).2) ?_
        refine XS.iconst X217.here hx rfl (hb hby at_267) ?_
        refine XS.goto X217.here hx rfl (pc0 := 268) (pc' := 272) rfl (hb hby at_268) (by decide) (by decide) ?_
        exact h
      have k239 : ∀ t, Steps p.tables e below (T217.setTop (mkF m 280 #[.val (.long q0), .second, .val (.long q1), .second, .val (.long q2), .second, .val (.long q3), .second, .val (.long q4), .second, .val (.int p5), .val (.long c0), .second, .val (.long c1), .second, .val (.long c2), .second, .val (.int j17), .val (.int j18), .val (.ref b63), .val (.ref b66), .val (.int (own_ck q0 q1 q2 c0 c1 c2)), .val (.int (own_ck q0 q1 q2 c0 c1 c2))] [(.int (1 : Int32))])) t → Steps p.tables e below (s₁.setTop (mkF m 0 #[.val (.long q0), .second, .val (.long q1), .second, .val (.long q2), .second, .val (.long q3), .second, .val (.long q4), .second, .val (.int p5), .unset, .unset, .unset, .unset, .unset, .unset, .unset, .unset, .unset, .unset, .unset, .unset] [])) t := by
        intro t h
        refine k238 t ?_
        show Steps p.tables e below (T217.setTop (mkF m 272 #[.val (.long q0), .second, .val (.long q1), .second, .val (.long q2), .second, .val (.long q3), .second, .val (.long q4), .second, .val (.int p5), .val (.long c0), .second, .val (.long c1), .second, .val (.long c2), .second, .val (.int j17), .val (.int j18), .val (.ref b63), .val (.ref b66), .val (.int (own_ck q0 q1 q2 c0 c1 c2)), .val (.int (own_ck q0 q1 q2 c0 c1 c2))] [(.int (1 : Int32)), (.int (1 : Int32))])) _
        refine XS.icmpNo X217.here hx rfl (hb hby at_272) rfl (teq (by decide : (1 : Int32) = (1 : Int32))).2 ?_
        refine XS.iconst X217.here hx rfl (hb hby at_275) ?_
        refine XS.goto X217.here hx rfl (pc0 := 276) (pc' := 280) rfl (hb hby at_276) (by decide) (by decide) ?_
        exact h
      obtain ⟨fs, hr, hrun, hended, hW, hsame⟩ := X217.leave (v := some (.int (1 : Int32))) (fun h => by rw [Bd.returns] at h; cases h) Bd.notSynchronized
      refine ⟨_, _, pre0 _ (k239 _ ?_), hrun, hended, _, _, rfl, ?_, ⟨_, rfl⟩, hW, hsame.mono (by decide) (by decide)⟩
      · exact retN X217 hx (t := .boolean) Bd.returns (by simp) (hb hby at_280) hr
      · show Q_rm0 Z _ _ _ _ _ _ h0 n0 _ T217.heap _
        rw [e217]
        exact ⟨rfl, N217⟩
    · skip
      have k240 : ∀ t, Steps p.tables e below (T217.setTop (mkF m 264 #[.val (.long q0), .second, .val (.long q1), .second, .val (.long q2), .second, .val (.long q3), .second, .val (.long q4), .second, .val (.int p5), .val (.long c0), .second, .val (.long c1), .second, .val (.long c2), .second, .val (.int j17), .val (.int j18), .val (.ref b63), .val (.ref b66), .val (.int (own_ck q0 q1 q2 c0 c1 c2)), .val (.int (own_ck q0 q1 q2 c0 c1 c2))] [(.int (own_ck q0 q1 q2 c0 c1 c2)), (.int (0 : Int32))])) t → Steps p.tables e below (s₁.setTop (mkF m 0 #[.val (.long q0), .second, .val (.long q1), .second, .val (.long q2), .second, .val (.long q3), .second, .val (.long q4), .second, .val (.int p5), .unset, .unset, .unset, .unset, .unset, .unset, .unset, .unset, .unset, .unset, .unset, .unset] [])) t := by
        intro t h
        refine k235 t ?_
        show Steps p.tables e below (T217.setTop (mkF m 254 #[.val (.long q0), .second, .val (.long q1), .second, .val (.long q2), .second, .val (.long q3), .second, .val (.long q4), .second, .val (.int p5), .val (.long c0), .second, .val (.long c1), .second, .val (.long c2), .second, .val (.int j17), .val (.int j18), .val (.ref b63), .val (.ref b66), .val (.int (own_ck q0 q1 q2 c0 c1 c2)), .val (.int (own_ck q0 q1 q2 c0 c1 c2))] [(.int (own_ck q0 q1 q2 c0 c1 c2))])) _
        refine XS.ifYes X217.here hx rfl (pc0 := 254) (pc' := 261) rfl (hb hby at_254) rfl ((if0 _ _).trans (feq c254_236).2) (by decide) (by decide) ?_
        refine XS.iconst X217.here hx rfl (hb hby at_261) ?_
        refine XS.iload X217.here hx rfl (hb hby at_262) rfl ?_
        exact h
      have k241 : ∀ t, Steps p.tables e below (T217.setTop (mkF m 272 #[.val (.long q0), .second, .val (.long q1), .second, .val (.long q2), .second, .val (.long q3), .second, .val (.long q4), .second, .val (.int p5), .val (.long c0), .second, .val (.long c1), .second, .val (.long c2), .second, .val (.int j17), .val (.int j18), .val (.ref b63), .val (.ref b66), .val (.int (own_ck q0 q1 q2 c0 c1 c2)), .val (.int (own_ck q0 q1 q2 c0 c1 c2))] [(.int (0 : Int32)), (.int (0 : Int32))])) t → Steps p.tables e below (s₁.setTop (mkF m 0 #[.val (.long q0), .second, .val (.long q1), .second, .val (.long q2), .second, .val (.long q3), .second, .val (.long q4), .second, .val (.int p5), .unset, .unset, .unset, .unset, .unset, .unset, .unset, .unset, .unset, .unset, .unset, .unset] [])) t := by
        intro t h
        refine k240 t ?_
        show Steps p.tables e below (T217.setTop (mkF m 264 #[.val (.long q0), .second, .val (.long q1), .second, .val (.long q2), .second, .val (.long q3), .second, .val (.long q4), .second, .val (.int p5), .val (.long c0), .second, .val (.long c1), .second, .val (.long c2), .second, .val (.int j17), .val (.int j18), .val (.ref b63), .val (.ref b66), .val (.int (own_ck q0 q1 q2 c0 c1 c2)), .val (.int (own_ck q0 q1 q2 c0 c1 c2))] [(.int (own_ck q0 q1 q2 c0 c1 c2)), (.int (0 : Int32))])) _
        refine XS.ifYes X217.here hx rfl (pc0 := 264) (pc' := 271) rfl (hb hby at_264) rfl ((if0 _ _).trans (feq c254_236).2) (by decide) (by decide) ?_
        refine XS.iconst X217.here hx rfl (hb hby at_271) ?_
        exact h
      have k242 : ∀ t, Steps p.tables e below (T217.setTop (mkF m 280 #[.val (.long q0), .second, .val (.long q1), .second, .val (.long q2), .second, .val (.long q3), .second, .val (.long q4), .second, .val (.int p5), .val (.long c0), .second, .val (.long c1), .second, .val (.long c2), .second, .val (.int j17), .val (.int j18), .val (.ref b63), .val (.ref b66), .val (.int (own_ck q0 q1 q2 c0 c1 c2)), .val (.int (own_ck q0 q1 q2 c0 c1 c2))] [(.int (1 : Int32))])) t → Steps p.tables e below (s₁.setTop (mkF m 0 #[.val (.long q0), .second, .val (.long q1), .second, .val (.long q2), .second, .val (.long q3), .second, .val (.long q4), .second, .val (.int p5), .unset, .unset, .unset, .unset, .unset, .unset, .unset, .unset, .unset, .unset, .unset, .unset] [])) t := by
        intro t h
        refine k241 t ?_
        show Steps p.tables e below (T217.setTop (mkF m 272 #[.val (.long q0), .second, .val (.long q1), .second, .val (.long q2), .second, .val (.long q3), .second, .val (.long q4), .second, .val (.int p5), .val (.long c0), .second, .val (.long c1), .second, .val (.long c2), .second, .val (.int j17), .val (.int j18), .val (.ref b63), .val (.ref b66), .val (.int (own_ck q0 q1 q2 c0 c1 c2)), .val (.int (own_ck q0 q1 q2 c0 c1 c2))] [(.int (0 : Int32)), (.int (0 : Int32))])) _
        refine XS.icmpNo X217.here hx rfl (hb hby at_272) rfl (teq (by decide : (0 : Int32) = (0 : Int32))).2 ?_
        refine XS.iconst X217.here hx rfl (hb hby at_275) ?_
        refine XS.goto X217.here hx rfl (pc0 := 276) (pc' := 280) rfl (hb hby at_276) (by decide) (by decide) ?_
        exact h
      obtain ⟨fs, hr, hrun, hended, hW, hsame⟩ := X217.leave (v := some (.int (1 : Int32))) (fun h => by rw [Bd.returns] at h; cases h) Bd.notSynchronized
      refine ⟨_, _, pre0 _ (k242 _ ?_), hrun, hended, _, _, rfl, ?_, ⟨_, rfl⟩, hW, hsame.mono (by decide) (by decide)⟩
      · exact retN X217 hx (t := .boolean) Bd.returns (by simp) (hb hby at_280) hr
      · show Q_rm0 Z _ _ _ _ _ _ h0 n0 _ T217.heap _
        rw [e217]
        exact ⟨rfl, N217⟩
  · skip
    have k243 : ∀ t, Steps p.tables e below (T217.setTop (mkF m 241 #[.val (.long q0), .second, .val (.long q1), .second, .val (.long q2), .second, .val (.long q3), .second, .val (.long q4), .second, .val (.int p5), .val (.long c0), .second, .val (.long c1), .second, .val (.long c2), .second, .val (.int j17), .val (.int j18), .val (.ref b63), .val (.ref b66), .val (.int (own_ck q0 q1 q2 c0 c1 c2)), .val (.int (own_ck q0 q1 q2 c0 c1 c2))] [(.int (own_ck q0 q1 q2 c0 c1 c2)), (.int (0 : Int32))])) t → Steps p.tables e below (s₁.setTop (mkF m 0 #[.val (.long q0), .second, .val (.long q1), .second, .val (.long q2), .second, .val (.long q3), .second, .val (.long q4), .second, .val (.int p5), .unset, .unset, .unset, .unset, .unset, .unset, .unset, .unset, .unset, .unset, .unset, .unset] [])) t := by
      intro t h
      refine k231 t ?_
      show Steps p.tables e below (T217.setTop (mkF m 231 #[.val (.long q0), .second, .val (.long q1), .second, .val (.long q2), .second, .val (.long q3), .second, .val (.long q4), .second, .val (.int p5), .val (.long c0), .second, .val (.long c1), .second, .val (.long c2), .second, .val (.int j17), .val (.int j18), .val (.ref b63), .val (.ref b66), .val (.int (own_ck q0 q1 q2 c0 c1 c2)), .val (.int (own_ck q0 q1 q2 c0 c1 c2))] [(.int (own_ck q0 q1 q2 c0 c1 c2))])) _
      refine XS.ifYes X217.here hx rfl (pc0 := 231) (pc' := 238) rfl (hb hby at_231) rfl ((if0 _ _).trans (flt c231_232).2.1) (by decide) (by decide) ?_
      refine XS.iconst X217.here hx rfl (hb hby at_238) ?_
      refine XS.iload X217.here hx rfl (hb hby at_239) rfl ?_
      exact h
    have k244 : ∀ t, Steps p.tables e below (T217.setTop (mkF m 249 #[.val (.long q0), .second, .val (.long q1), .second, .val (.long q2), .second, .val (.long q3), .second, .val (.long q4), .second, .val (.int p5), .val (.long c0), .second, .val (.long c1), .second, .val (.long c2), .second, .val (.int j17), .val (.int j18), .val (.ref b63), .val (.ref b66), .val (.int (own_ck q0 q1 q2 c0 c1 c2)), .val (.int (own_ck q0 q1 q2 c0 c1 c2))] [(.int (0 : Int32)), (.int (0 : Int32))])) t → Steps p.tables e below (s₁.setTop (mkF m 0 #[.val (.long q0), .second, .val (.long q1), .second, .val (.long q2), .second, .val (.long q3), .second, .val (.long q4), .second, .val (.int p5), .unset, .unset, .unset, .unset, .unset, .unset, .unset, .unset, .unset, .unset, .unset, .unset] [])) t := by
      intro t h
      refine k243 t ?_
      show Steps p.tables e below (T217.setTop (mkF m 241 #[.val (.long q0), .second, .val (.long q1), .second, .val (.long q2), .second, .val (.long q3), .second, .val (.long q4), .second, .val (.int p5), .val (.long c0), .second, .val (.long c1), .second, .val (.long c2), .second, .val (.int j17), .val (.int j18), .val (.ref b63), .val (.ref b66), .val (.int (own_ck q0 q1 q2 c0 c1 c2)), .val (.int (own_ck q0 q1 q2 c0 c1 c2))] [(.int (own_ck q0 q1 q2 c0 c1 c2)), (.int (0 : Int32))])) _
      refine XS.ifYes X217.here hx rfl (pc0 := 241) (pc' := 248) rfl (hb hby at_241) rfl ((if0 _ _).trans (flt c231_232).2.1) (by decide) (by decide) ?_
      refine XS.iconst X217.here hx rfl (hb hby at_248) ?_
      exact h
    have k245 : ∀ t, Steps p.tables e below (T217.setTop (mkF m 254 #[.val (.long q0), .second, .val (.long q1), .second, .val (.long q2), .second, .val (.long q3), .second, .val (.long q4), .second, .val (.int p5), .val (.long c0), .second, .val (.long c1), .second, .val (.long c2), .second, .val (.int j17), .val (.int j18), .val (.ref b63), .val (.ref b66), .val (.int (own_ck q0 q1 q2 c0 c1 c2)), .val (.int (own_ck q0 q1 q2 c0 c1 c2))] [(.int (own_ck q0 q1 q2 c0 c1 c2))])) t → Steps p.tables e below (s₁.setTop (mkF m 0 #[.val (.long q0), .second, .val (.long q1), .second, .val (.long q2), .second, .val (.long q3), .second, .val (.long q4), .second, .val (.int p5), .unset, .unset, .unset, .unset, .unset, .unset, .unset, .unset, .unset, .unset, .unset, .unset] [])) t := by
      intro t h
      refine k244 t ?_
      show Steps p.tables e below (T217.setTop (mkF m 249 #[.val (.long q0), .second, .val (.long q1), .second, .val (.long q2), .second, .val (.long q3), .second, .val (.long q4), .second, .val (.int p5), .val (.long c0), .second, .val (.long c1), .second, .val (.long c2), .second, .val (.int j17), .val (.int j18), .val (.ref b63), .val (.ref b66), .val (.int (own_ck q0 q1 q2 c0 c1 c2)), .val (.int (own_ck q0 q1 q2 c0 c1 c2))] [(.int (0 : Int32)), (.int (0 : Int32))])) _
      refine XS.icmpNo X217.here hx rfl (hb hby at_249) rfl (teq (by decide : (0 : Int32) = (0 : Int32))).2 ?_
      refine XS.iload X217.here hx rfl (hb hby at_252) rfl ?_
      exact h
    by_cases c254_246 : (own_ck q0 q1 q2 c0 c1 c2) = (0 : Int32)
    · skip
      have k247 : ∀ t, Steps p.tables e below (T217.setTop (mkF m 264 #[.val (.long q0), .second, .val (.long q1), .second, .val (.long q2), .second, .val (.long q3), .second, .val (.long q4), .second, .val (.int p5), .val (.long c0), .second, .val (.long c1), .second, .val (.long c2), .second, .val (.int j17), .val (.int j18), .val (.ref b63), .val (.ref b66), .val (.int (own_ck q0 q1 q2 c0 c1 c2)), .val (.int (own_ck q0 q1 q2 c0 c1 c2))] [(.int (own_ck q0 q1 q2 c0 c1 c2)), (.int (1 : Int32))])) t → Steps p.tables e below (s₁.setTop (mkF m 0 #[.val (.long q0), .second, .val (.long q1), .second, .val (.long q2), .second, .val (.long q3), .second, .val (.long q4), .second, .val (.int p5), .unset, .unset, .unset, .unset, .unset, .unset, .unset, .unset, .unset, .unset, .unset, .unset] [])) t := by
        intro t h
        refine k245 t ?_
        show Steps p.tables e below (T217.setTop (mkF m 254 #[.val (.long q0), .second, .val (.long q1), .second, .val (.long q2), .second, .val (.long q3), .second, .val (.long q4), .second, .val (.int p5), .val (.long c0), .second, .val (.long c1), .second, .val (.long c2), .second, .val (.int j17), .val (.int j18), .val (.ref b63), .val (.ref b66), .val (.int (own_ck q0 q1 q2 c0 c1 c2)), .val (.int (own_ck q0 q1 q2 c0 c1 c2))] [(.int (own_ck q0 q1 q2 c0 c1 c2))])) _
        refine XS.ifNo X217.here hx rfl (hb hby at_254) rfl ((if0 _ _).trans (teq c254_246).2) ?_
        refine XS.iconst X217.here hx rfl (hb hby at_257) ?_
        refine XS.goto X217.here hx rfl (pc0 := 258) (pc' := 262) rfl (hb hby at_258) (by decide) (by decide) ?_
        refine XS.iload X217.here hx rfl (hb hby at_262) rfl ?_
        exact h
      have k248 : ∀ t, Steps p.tables e below (T217.setTop (mkF m 272 #[.val (.long q0), .second, .val (.long q1), .second, .val (.long q2), .second, .val (.long q3), .second, .val (.long q4), .second, .val (.int p5), .val (.long c0), .second, .val (.long c1), .second, .val (.long c2), .second, .val (.int j17), .val (.int j18), .val (.ref b63), .val (.ref b66), .val (.int (own_ck q0 q1 q2 c0 c1 c2)), .val (.int (own_ck q0 q1 q2 c0 c1 c2))] [(.int (1 : Int32)), (.int (1 : Int32))])) t → Steps p.tables e below (s₁.setTop (mkF m 0 #[.val (.long q0), .second, .val (.long q1), .second, .val (.long q2), .second, .val (.long q3), .second, .val (.long q4), .second, .val (.int p5), .unset, .unset, .unset, .unset, .unset, .unset, .unset, .unset, .unset, .unset, .unset, .unset] [])) t := by
        intro t h
        refine k247 t ?_
        show Steps p.tables e below (T217.setTop (mkF m 264 #[.val (.long q0), .second, .val (.long q1), .second, .val (.long q2), .second, .val (.long q3), .second, .val (.long q4), .second, .val (.int p5), .val (.long c0), .second, .val (.long c1), .second, .val (.long c2), .second, .val (.int j17), .val (.int j18), .val (.ref b63), .val (.ref b66), .val (.int (own_ck q0 q1 q2 c0 c1 c2)), .val (.int (own_ck q0 q1 q2 c0 c1 c2))] [(.int (own_ck q0 q1 q2 c0 c1 c2)), (.int (1 : Int32))])) _
        refine XS.ifNo X217.here hx rfl (hb hby at_264) rfl ((if0 _ _).trans (teq c254_246).2) ?_
        refine XS.iconst X217.here hx rfl (hb hby at_267) ?_
        refine XS.goto X217.here hx rfl (pc0 := 268) (pc' := 272) rfl (hb hby at_268) (by decide) (by decide) ?_
        exact h
      have k249 : ∀ t, Steps p.tables e below (T217.setTop (mkF m 280 #[.val (.long q0), .second, .val (.long q1), .second, .val (.long q2), .second, .val (.long q3), .second, .val (.long q4), .second, .val (.int p5), .val (.long c0), .second, .val (.long c1), .second, .val (.long c2), .second, .val (.int j17), .val (.int j18), .val (.ref b63), .val (.ref b66), .val (.int (own_ck q0 q1 q2 c0 c1 c2)), .val (.int (own_ck q0 q1 q2 c0 c1 c2))] [(.int (1 : Int32))])) t → Steps p.tables e below (s₁.setTop (mkF m 0 #[.val (.long q0), .second, .val (.long q1), .second, .val (.long q2), .second, .val (.long q3), .second, .val (.long q4), .second, .val (.int p5), .unset, .unset, .unset, .unset, .unset, .unset, .unset, .unset, .unset, .unset, .unset, .unset] [])) t := by
        intro t h
        refine k248 t ?_
        show Steps p.tables e below (T217.setTop (mkF m 272 #[.val (.long q0), .second, .val (.long q1), .second, .val (.long q2), .second, .val (.long q3), .second, .val (.long q4), .second, .val (.int p5), .val (.long c0), .second, .val (.long c1), .second, .val (.long c2), .second, .val (.int j17), .val (.int j18), .val (.ref b63), .val (.ref b66), .val (.int (own_ck q0 q1 q2 c0 c1 c2)), .val (.int (own_ck q0 q1 q2 c0 c1 c2))] [(.int (1 : Int32)), (.int (1 : Int32))])) _
        refine XS.icmpNo X217.here hx rfl (hb hby at_272) rfl (teq (by decide : (1 : Int32) = (1 : Int32))).2 ?_
        refine XS.iconst X217.here hx rfl (hb hby at_275) ?_
        refine XS.goto X217.here hx rfl (pc0 := 276) (pc' := 280) rfl (hb hby at_276) (by decide) (by decide) ?_
        exact h
      obtain ⟨fs, hr, hrun, hended, hW, hsame⟩ := X217.leave (v := some (.int (1 : Int32))) (fun h => by rw [Bd.returns] at h; cases h) Bd.notSynchronized
      refine ⟨_, _, pre0 _ (k249 _ ?_), hrun, hended, _, _, rfl, ?_, ⟨_, rfl⟩, hW, hsame.mono (by decide) (by decide)⟩
      · exact retN X217 hx (t := .boolean) Bd.returns (by simp) (hb hby at_280) hr
      · show Q_rm0 Z _ _ _ _ _ _ h0 n0 _ T217.heap _
        rw [e217]
        exact ⟨rfl, N217⟩
    · skip
      have k250 : ∀ t, Steps p.tables e below (T217.setTop (mkF m 264 #[.val (.long q0), .second, .val (.long q1), .second, .val (.long q2), .second, .val (.long q3), .second, .val (.long q4), .second, .val (.int p5), .val (.long c0), .second, .val (.long c1), .second, .val (.long c2), .second, .val (.int j17), .val (.int j18), .val (.ref b63), .val (.ref b66), .val (.int (own_ck q0 q1 q2 c0 c1 c2)), .val (.int (own_ck q0 q1 q2 c0 c1 c2))] [(.int (own_ck q0 q1 q2 c0 c1 c2)), (.int (0 : Int32))])) t → Steps p.tables e below (s₁.setTop (mkF m 0 #[.val (.long q0), .second, .val (.long q1), .second, .val (.long q2), .second, .val (.long q3), .second, .val (.long q4), .second, .val (.int p5), .unset, .unset, .unset, .unset, .unset, .unset, .unset, .unset, .unset, .unset, .unset, .unset] [])) t := by
        intro t h
        refine k245 t ?_
        show Steps p.tables e below (T217.setTop (mkF m 254 #[.val (.long q0), .second, .val (.long q1), .second, .val (.long q2), .second, .val (.long q3), .second, .val (.long q4), .second, .val (.int p5), .val (.long c0), .second, .val (.long c1), .second, .val (.long c2), .second, .val (.int j17), .val (.int j18), .val (.ref b63), .val (.ref b66), .val (.int (own_ck q0 q1 q2 c0 c1 c2)), .val (.int (own_ck q0 q1 q2 c0 c1 c2))] [(.int (own_ck q0 q1 q2 c0 c1 c2))])) _
        refine XS.ifYes X217.here hx rfl (pc0 := 254) (pc' := 261) rfl (hb hby at_254) rfl ((if0 _ _).trans (feq c254_246).2) (by decide) (by decide) ?_
        refine XS.iconst X217.here hx rfl (hb hby at_261) ?_
        refine XS.iload X217.here hx rfl (hb hby at_262) rfl ?_
        exact h
      have k251 : ∀ t, Steps p.tables e below (T217.setTop (mkF m 272 #[.val (.long q0), .second, .val (.long q1), .second, .val (.long q2), .second, .val (.long q3), .second, .val (.long q4), .second, .val (.int p5), .val (.long c0), .second, .val (.long c1), .second, .val (.long c2), .second, .val (.int j17), .val (.int j18), .val (.ref b63), .val (.ref b66), .val (.int (own_ck q0 q1 q2 c0 c1 c2)), .val (.int (own_ck q0 q1 q2 c0 c1 c2))] [(.int (0 : Int32)), (.int (0 : Int32))])) t → Steps p.tables e below (s₁.setTop (mkF m 0 #[.val (.long q0), .second, .val (.long q1), .second, .val (.long q2), .second, .val (.long q3), .second, .val (.long q4), .second, .val (.int p5), .unset, .unset, .unset, .unset, .unset, .unset, .unset, .unset, .unset, .unset, .unset, .unset] [])) t := by
        intro t h
        refine k250 t ?_
        show Steps p.tables e below (T217.setTop (mkF m 264 #[.val (.long q0), .second, .val (.long q1), .second, .val (.long q2), .second, .val (.long q3), .second, .val (.long q4), .second, .val (.int p5), .val (.long c0), .second, .val (.long c1), .second, .val (.long c2), .second, .val (.int j17), .val (.int j18), .val (.ref b63), .val (.ref b66), .val (.int (own_ck q0 q1 q2 c0 c1 c2)), .val (.int (own_ck q0 q1 q2 c0 c1 c2))] [(.int (own_ck q0 q1 q2 c0 c1 c2)), (.int (0 : Int32))])) _
        refine XS.ifYes X217.here hx rfl (pc0 := 264) (pc' := 271) rfl (hb hby at_264) rfl ((if0 _ _).trans (feq c254_246).2) (by decide) (by decide) ?_
        refine XS.iconst X217.here hx rfl (hb hby at_271) ?_
        exact h
      have k252 : ∀ t, Steps p.tables e below (T217.setTop (mkF m 280 #[.val (.long q0), .second, .val (.long q1), .second, .val (.long q2), .second, .val (.long q3), .second, .val (.long q4), .second, .val (.int p5), .val (.long c0), .second, .val (.long c1), .second, .val (.long c2), .second, .val (.int j17), .val (.int j18), .val (.ref b63), .val (.ref b66), .val (.int (own_ck q0 q1 q2 c0 c1 c2)), .val (.int (own_ck q0 q1 q2 c0 c1 c2))] [(.int (1 : Int32))])) t → Steps p.tables e below (s₁.setTop (mkF m 0 #[.val (.long q0), .second, .val (.long q1), .second, .val (.long q2), .second, .val (.long q3), .second, .val (.long q4), .second, .val (.int p5), .unset, .unset, .unset, .unset, .unset, .unset, .unset, .unset, .unset, .unset, .unset, .unset] [])) t := by
        intro t h
        refine k251 t ?_
        show Steps p.tables e below (T217.setTop (mkF m 272 #[.val (.long q0), .second, .val (.long q1), .second, .val (.long q2), .second, .val (.long q3), .second, .val (.long q4), .second, .val (.int p5), .val (.long c0), .second, .val (.long c1), .second, .val (.long c2), .second, .val (.int j17), .val (.int j18), .val (.ref b63), .val (.ref b66), .val (.int (own_ck q0 q1 q2 c0 c1 c2)), .val (.int (own_ck q0 q1 q2 c0 c1 c2))] [(.int (0 : Int32)), (.int (0 : Int32))])) _
        refine XS.icmpNo X217.here hx rfl (hb hby at_272) rfl (teq (by decide : (0 : Int32) = (0 : Int32))).2 ?_
        refine XS.iconst X217.here hx rfl (hb hby at_275) ?_
        refine XS.goto X217.here hx rfl (pc0 := 276) (pc' := 280) rfl (hb hby at_276) (by decide) (by decide) ?_
        exact h
      obtain ⟨fs, hr, hrun, hended, hW, hsame⟩ := X217.leave (v := some (.int (1 : Int32))) (fun h => by rw [Bd.returns] at h; cases h) Bd.notSynchronized
      refine ⟨_, _, pre0 _ (k252 _ ?_), hrun, hended, _, _, rfl, ?_, ⟨_, rfl⟩, hW, hsame.mono (by decide) (by decide)⟩
      · exact retN X217 hx (t := .boolean) Bd.returns (by simp) (hb hby at_280) hr
      · show Q_rm0 Z _ _ _ _ _ _ h0 n0 _ T217.heap _
        rw [e217]
        exact ⟨rfl, N217⟩
set_option maxRecDepth 65536 in
set_option maxHeartbeats 40000000 in
theorem comes_1 {Post : Tables → Env → Array Value → State → Outcome → State → Prop} (hpost : ∀ tb e args s v u, (limb_1_1.after args s (.returned v) u = true ∧ limb_1_2.after args s (.returned v) u = true ∧ True) → FrameEnd s (.returned v) u (Jvm.fieldLocs frame_1_writes args s ++ Jvm.arrayLocs frame_1_arrays args s ++ Jvm.staticLocs frame_1_statics s) 16 128 → Post tb e args s (.returned v) u) :
    ArmFor flags0 classFile x code maxLocals ret World_1 tables_1 room_1 Calls_1 rest_1 Pre_1 Post := by
  intro l hfl _ _ p e ha hc hk s m args below hf hA hF happ hP
  obtain ⟨hcalls, hrest, hpre⟩ := hP
  obtain ⟨-, -, -, hnamed, -, -, -, hat⟩ := (Spec.applies_iff hf).mp happ
  obtain ⟨hg, hn⟩ := and_e (Cond.before_iff.mp (show (Jvm.Cond.and given_1 narrow_1).before args s = true from hpre))
  obtain ⟨g1, g2⟩ := and_e hg
  obtain ⟨g3, g4⟩ := and_e g2
  obtain ⟨g5, g6⟩ := and_e g4
  obtain ⟨g7, g8⟩ := and_e g6
  obtain ⟨g9, g10⟩ := and_e g8
  obtain ⟨g11, g12⟩ := and_e g10
  obtain ⟨w0, w1, w2, w3, w4, w5, rfl⟩ : ∃ w0 w1 w2 w3 w4 w5 : Value, args = #[w0, w1, w2, w3, w4, w5] := by
    have hs : args.size = 6 := by simpa [Cond.value, given_1] using g1
    obtain ⟨L⟩ := args
    match L, hs with
    | [w0, w1, w2, w3, w4, w5], _ => exact ⟨w0, w1, w2, w3, w4, w5, rfl⟩
  have hw := fun d (hd : d ∈ tables_1) => atoms_spec (ws := Jvm.Cond.code x code maxLocals ret :: tables_1) hat d (List.mem_cons_of_mem _ hd)
  have hfit : Fit s := fun {y c} hc i hi => by
    obtain ⟨ha, rfl⟩ := Array.getElem?_eq_some_iff.mp hc
    have q := List.all_eq_true.mp ((Array.all_eq_true_iff_forall_mem.mp hF) _ (Array.getElem_mem ha)) i (List.mem_range.mpr hi)
    simpa [Array.getElem?_eq_getElem hi] using q
  obtain ⟨i0, ei0⟩ := isL_v g3
  obtain rfl : w0 = (.long i0) := Option.some.inj ei0
  obtain ⟨i1, ei1⟩ := isL_v g5
  obtain rfl : w1 = (.long i1) := Option.some.inj ei1
  obtain ⟨i2, ei2⟩ := isL_v g7
  obtain rfl : w2 = (.long i2) := Option.some.inj ei2
  obtain ⟨i3, ei3⟩ := isL_v g9
  obtain rfl : w3 = (.long i3) := Option.some.inj ei3
  obtain ⟨i4, ei4⟩ := isL_v g11
  obtain rfl : w4 = (.long i4) := Option.some.inj ei4
  obtain ⟨i5, ei5⟩ := is_v g12
  obtain rfl : w5 = (.int i5) := Option.some.inj ei5
  obtain ⟨n, o, h1, h2, h3, _, L, rfl, ⟨rfl, N⟩, hq⟩ := rm0 l s _ hw tables_1 i0 i1 i2 i3 i4 i5  s.heap s.heap.size (Nat.le_refl _)  p e ha hc hk s m _ below hf ((Spec.applies_iff_loose hf).mp happ).1 ⟨rfl, State.Warmed39.refl s, rfl⟩ trivial
  refine ⟨n, _, h1, h2, h3, hpost _ _ _ _ _ _ ⟨Cond.after_iff.mpr rfl, Cond.after_iff.mpr (eq_i res_at (Term.int_eval (1)) rfl), trivial⟩ ⟨hq.1, hq.2.1, (hq.2.2.sift fun y hy => Or.inr (N y hy)).mono (by decide) (by decide)⟩⟩
theorem main_1_1 : Claimed_1_1 := comes_1 fun _ _ _ _ _ _ h hF => ⟨h.1, hF⟩
theorem main_1_2 : Claimed_1_2 := comes_1 fun _ _ _ _ _ _ h hF => ⟨h.2.1, hF⟩
end Jvm.Pilot.@@N@@
namespace Jvm.Pilot.@@N@@
open Jvm Jvm.ClassFile Sem Op Lib Jvm.Free Jvm.Stand Jvm.Pilot.@@N@@.Jvm.D
/-! MADE BY PROGRAM (witnessworld.py) out of the Statement's table words and the real class files: 16 classes; the members and pool entries that the words name. The judged class is class 1, her method 1. -/
namespace start1
open Jvm.ClassFile
def u (s : String) : CpInfo := .utf8 (stringToUtf16 s)
/-- a pool by its gaps: so many unusable entries, then the entry; so many at the end -/
def gap : Nat → List CpInfo → List CpInfo
  | 0, r => r
  | n + 1, r => .unusable :: gap n r
def poolList (es : List (Nat × CpInfo)) (last : Nat) : List CpInfo := es.foldr (fun e r => gap e.1 (e.2 :: r)) (gap last [])
def pool (es : List (Nat × CpInfo)) (last : Nat) : Array CpInfo := ⟨poolList es last⟩
def fileOf (pool : Array CpInfo) (this : Nat) (attrs : Array Attribute := #[]) (ms : Array MethodInfo := #[]) (fl : Nat := 33) (sup : Nat := 0) (ifs : Array Nat := #[]) (fds : Array FieldInfo := #[]) : ClassFile where
  minorVersion := 0
  majorVersion := 65
  constantPool := pool
  accessFlags := fl
  thisClass := this
  superClass := sup
  interfaces := ifs
  fields := fds
  methods := ms
  attributes := attrs
def plain (name : String) (sup : Option ClassId) : Class where
  name := name
  kind := .ordinary
  loader := none
  accessFlags := 33
  super := sup
  interfaces := #[]
  cf := none
  fields := #[]
  methods := #[]
  instanceTypes := #[]
  staticTypes := #[]
  resolved := #[]
  callSites := []
  init := .initialized
  statics := none
  mirror := none

def pool0 : Array CpInfo := pool [(5, u "<init>"), (0, u "()V"), (1, .class_ 10), (1, u "java/lang/Object")] 113

def k0m0 : Method := { name := "<init>", desc := "()V", sig := { parameters := [], returnType := none }, accessFlags := 1, code := none }
/-- java/lang/Object -/
def k0 : Class := { plain "java/lang/Object" none with
  accessFlags := 33
  interfaces := #[]
  cf := some (fileOf pool0 8 #[] #[{ accessFlags := 1, nameIndex := 5, descriptorIndex := 6, attributes := #[] }] 33 0 #[] #[])
  fields := #[]
  methods := #[k0m0]
  instanceTypes := #[]
  staticTypes := #[]
  resolved := Array.replicate 124 none
  statics := none }

def pool1 : Array CpInfo := pool [(2, .class_ 4), (1, u "java/lang/Object"), (0, u "<init>"), (0, u "()V"), (0, .long 18446744073709551615), (1, .methodref 10 11), (0, .class_ 12), (0, .nameAndType 13 14), (0, u "com/example/mynah/mynah/rpsl/PrefixRange"), (0, u "compareKeys"), (0, u "([JI[JI)I"), (0, .methodref 16 17), (0, .class_ 18), (0, .nameAndType 19 20), (0, u "com/example/mynah/mynah/rpsl/PrefixRangeCompareKeysPinLaw"), (0, u "unsignedOrder"), (0, u "(JJ)I"), (2, .long 9223372036854775808), (3, u "law"), (0, u "(JJJJJI)Z")] 5

def k1m0 : Method := { name := "<init>", desc := "()V", sig := { parameters := [], returnType := none }, accessFlags := 1, code := none }
def k1c1 : Code := { maxStack := 6, maxLocals := 23, code := code, exceptionTable := #[], attributes := #[] }
def k1m1 : Method := { name := "law", desc := "(JJJJJI)Z", sig := { parameters := [.long, .long, .long, .long, .long, .int], returnType := some .boolean }, accessFlags := 9, code := some k1c1 }
def k1c2 : Code := { maxStack := 4, maxLocals := 8, code := method_3_code, exceptionTable := #[], attributes := #[] }
def k1m2 : Method := { name := "unsignedOrder", desc := "(JJ)I", sig := { parameters := [.long, .long], returnType := some .int }, accessFlags := 10, code := some k1c2 }
/-- com/example/mynah/mynah/rpsl/PrefixRangeCompareKeysPinLaw -/
def k1 : Class := { plain "com/example/mynah/mynah/rpsl/PrefixRangeCompareKeysPinLaw" (some 0) with
  accessFlags := 49
  interfaces := #[]
  cf := some (fileOf pool1 16 #[] #[{ accessFlags := 1, nameIndex := 5, descriptorIndex := 6, attributes := #[] }, { accessFlags := 9, nameIndex := 27, descriptorIndex := 28, attributes := #[] }, { accessFlags := 10, nameIndex := 19, descriptorIndex := 20, attributes := #[] }] 49 2 #[] #[])
  fields := #[]
  methods := #[k1m0, k1m1, k1m2]
  instanceTypes := #[]
  staticTypes := #[]
  resolved := Array.replicate 34 none
  statics := none }

def pool2 : Array CpInfo := pool [(2, .class_ 4), (1, u "java/lang/Object"), (3, .class_ 10), (1, u "com/example/mynah/mynah/rpsl/PrefixRange"), (0, u "address"), (0, u "[B"), (2, u "length"), (0, u "I"), (2, u "least"), (2, u "most"), (68, .class_ 92), (0, u "java/lang/Long"), (2, .methodref 91 96), (0, .nameAndType 97 98), (0, u "compareUnsigned"), (0, u "(JJ)I"), (53, u "IPV4_KEY_LONGS"), (2, u "IPV6_KEY_LONGS"), (1, u "IPV4_LENGTH"), (1, u "IPV6_LENGTH"), (1, u "IPV6_LOWEST_BIT"), (10, u "compareKeys"), (0, u "([JI[JI)I")] 31

def k2c0 : Code := { maxStack := 5, maxLocals := 5, code := prog_50_method_5_code, exceptionTable := #[], attributes := #[] }
def k2m0 : Method := { name := "compareKeys", desc := "([JI[JI)I", sig := { parameters := [(.array .long), .int, (.array .long), .int], returnType := some .int }, accessFlags := 9, code := some k2c0 }
/-- com/example/mynah/mynah/rpsl/PrefixRange -/
def k2 : Class := { plain "com/example/mynah/mynah/rpsl/PrefixRange" (some 0) with
  accessFlags := 33
  interfaces := #[]
  cf := some (fileOf pool2 8 #[] #[{ accessFlags := 9, nameIndex := 172, descriptorIndex := 173, attributes := #[] }] 33 2 #[] #[{ accessFlags := 25, nameIndex := 152, descriptorIndex := 16, attributes := #[] }, { accessFlags := 25, nameIndex := 155, descriptorIndex := 16, attributes := #[] }, { accessFlags := 26, nameIndex := 157, descriptorIndex := 16, attributes := #[] }, { accessFlags := 26, nameIndex := 159, descriptorIndex := 16, attributes := #[] }, { accessFlags := 26, nameIndex := 161, descriptorIndex := 16, attributes := #[] }, { accessFlags := 18, nameIndex := 11, descriptorIndex := 12, attributes := #[] }, { accessFlags := 18, nameIndex := 15, descriptorIndex := 16, attributes := #[] }, { accessFlags := 18, nameIndex := 19, descriptorIndex := 16, attributes := #[] }, { accessFlags := 18, nameIndex := 22, descriptorIndex := 16, attributes := #[] }])
  fields := #[{ name := "IPV4_KEY_LONGS", type := .int, accessFlags := 25, slot := 0, constantValue := 0 }, { name := "IPV6_KEY_LONGS", type := .int, accessFlags := 25, slot := 1, constantValue := 0 }, { name := "IPV4_LENGTH", type := .int, accessFlags := 26, slot := 2, constantValue := 0 }, { name := "IPV6_LENGTH", type := .int, accessFlags := 26, slot := 3, constantValue := 0 }, { name := "IPV6_LOWEST_BIT", type := .int, accessFlags := 26, slot := 4, constantValue := 0 }, { name := "address", type := (.array .byte), accessFlags := 18, slot := 0, constantValue := 0 }, { name := "length", type := .int, accessFlags := 18, slot := 1, constantValue := 0 }, { name := "least", type := .int, accessFlags := 18, slot := 2, constantValue := 0 }, { name := "most", type := .int, accessFlags := 18, slot := 3, constantValue := 0 }]
  methods := #[k2m0]
  instanceTypes := #[(.array .byte), .int, .int, .int]
  staticTypes := #[.int, .int, .int, .int, .int]
  resolved := Array.replicate 205 none
  statics := none }

def pool3 : Array CpInfo := pool [(1, .class_ 2), (0, u "java/io/Serializable"), (0, .class_ 4), (0, u "java/lang/Object")] 2

/-- java/io/Serializable -/
def k3 : Class := { plain "java/io/Serializable" (some 0) with
  accessFlags := 1537
  interfaces := #[]
  cf := some (fileOf pool3 1 #[] #[] 1537 3 #[] #[])
  fields := #[]
  methods := #[]
  instanceTypes := #[]
  staticTypes := #[]
  resolved := Array.replicate 7 none
  statics := none }

def pool4 : Array CpInfo := pool [(2, .class_ 4), (1, u "java/lang/Object"), (0, u "<init>"), (0, u "()V"), (1, .class_ 10), (1, u "java/lang/Number"), (2, .class_ 14), (0, u "java/io/Serializable"), (0, u "serialVersionUID"), (0, u "J")] 20

def k4m0 : Method := { name := "<init>", desc := "()V", sig := { parameters := [], returnType := none }, accessFlags := 1, code := none }
/-- java/lang/Number -/
def k4 : Class := { plain "java/lang/Number" (some 0) with
  accessFlags := 1057
  interfaces := #[3]
  cf := some (fileOf pool4 8 #[] #[{ accessFlags := 1, nameIndex := 5, descriptorIndex := 6, attributes := #[] }] 1057 2 #[13] #[{ accessFlags := 26, nameIndex := 15, descriptorIndex := 16, attributes := #[] }])
  fields := #[{ name := "serialVersionUID", type := .long, accessFlags := 26, slot := 0, constantValue := 0 }]
  methods := #[k4m0]
  instanceTypes := #[]
  staticTypes := #[.long]
  resolved := Array.replicate 37 none
  statics := none }

def pool5 : Array CpInfo := pool [(1, .class_ 2), (0, u "java/lang/Comparable"), (0, .class_ 4), (0, u "java/lang/Object")] 7

/-- java/lang/Comparable -/
def k5 : Class := { plain "java/lang/Comparable" (some 0) with
  accessFlags := 1537
  interfaces := #[]
  cf := some (fileOf pool5 1 #[] #[] 1537 3 #[] #[])
  fields := #[]
  methods := #[]
  instanceTypes := #[]
  staticTypes := #[]
  resolved := Array.replicate 12 none
  statics := none }

def pool6 : Array CpInfo := pool [(1, .class_ 2), (0, u "java/lang/constant/Constable"), (0, .class_ 4), (0, u "java/lang/Object")] 6

/-- java/lang/constant/Constable -/
def k6 : Class := { plain "java/lang/constant/Constable" (some 0) with
  accessFlags := 1537
  interfaces := #[]
  cf := some (fileOf pool6 1 #[] #[] 1537 3 #[] #[])
  fields := #[]
  methods := #[]
  instanceTypes := #[]
  staticTypes := #[]
  resolved := Array.replicate 11 none
  statics := none }

def pool7 : Array CpInfo := pool [(1, .class_ 2), (0, u "java/lang/constant/ConstantDesc"), (0, .class_ 4), (0, u "java/lang/Object")] 32

/-- java/lang/constant/ConstantDesc -/
def k7 : Class := { plain "java/lang/constant/ConstantDesc" (some 0) with
  accessFlags := 1537
  interfaces := #[]
  cf := some (fileOf pool7 1 #[] #[] 1537 3 #[] #[])
  fields := #[]
  methods := #[]
  instanceTypes := #[]
  staticTypes := #[]
  resolved := Array.replicate 37 none
  statics := none }

def pool8 : Array CpInfo := pool [(1, .class_ 2), (0, u "java/lang/Long"), (165, .long 9223372036854775808), (66, .class_ 237), (1, u "java/lang/Long$LongCache"), (33, .class_ 272), (0, u "java/lang/Number"), (2, u "value"), (0, u "J"), (25, .methodref 1 303), (0, .nameAndType 304 305), (0, u "compare"), (0, u "(JJ)I"), (55, u "TYPE"), (0, u "Ljava/lang/Class;"), (0, .class_ 364), (0, u "java/lang/Comparable"), (0, .class_ 366), (0, u "java/lang/constant/Constable"), (0, .class_ 368), (0, u "java/lang/constant/ConstantDesc"), (0, u "MIN_VALUE"), (1, u "MAX_VALUE"), (4, u "SIZE"), (0, u "I"), (1, u "BYTES"), (1, u "serialVersionUID"), (87, u "compareUnsigned")] 54

def k8c0 : Code := { maxStack := 4, maxLocals := 4, code := jdk_35_method_42_code, exceptionTable := #[], attributes := #[] }
def k8m0 : Method := { name := "compare", desc := "(JJ)I", sig := { parameters := [.long, .long], returnType := some .int }, accessFlags := 9, code := some k8c0 }
def k8c1 : Code := { maxStack := 6, maxLocals := 4, code := jdk_35_method_43_code, exceptionTable := #[], attributes := #[] }
def k8m1 : Method := { name := "compareUnsigned", desc := "(JJ)I", sig := { parameters := [.long, .long], returnType := some .int }, accessFlags := 9, code := some k8c1 }
/-- java/lang/Long -/
def k8 : Class := { plain "java/lang/Long" (some 4) with
  accessFlags := 49
  interfaces := #[5, 6, 7]
  cf := some (fileOf pool8 1 #[.nestMembers #[235]] #[{ accessFlags := 9, nameIndex := 304, descriptorIndex := 305, attributes := #[] }, { accessFlags := 9, nameIndex := 469, descriptorIndex := 305, attributes := #[] }] 49 271 #[363, 365, 367] #[{ accessFlags := 25, nameIndex := 369, descriptorIndex := 276, attributes := #[] }, { accessFlags := 25, nameIndex := 371, descriptorIndex := 276, attributes := #[] }, { accessFlags := 25, nameIndex := 361, descriptorIndex := 362, attributes := #[] }, { accessFlags := 18, nameIndex := 275, descriptorIndex := 276, attributes := #[] }, { accessFlags := 25, nameIndex := 376, descriptorIndex := 377, attributes := #[] }, { accessFlags := 25, nameIndex := 379, descriptorIndex := 377, attributes := #[] }, { accessFlags := 26, nameIndex := 381, descriptorIndex := 276, attributes := #[] }])
  fields := #[{ name := "MIN_VALUE", type := .long, accessFlags := 25, slot := 0, constantValue := 0 }, { name := "MAX_VALUE", type := .long, accessFlags := 25, slot := 1, constantValue := 0 }, { name := "TYPE", type := (.object "java/lang/Class"), accessFlags := 25, slot := 2, constantValue := 0 }, { name := "value", type := .long, accessFlags := 18, slot := 0, constantValue := 0 }, { name := "SIZE", type := .int, accessFlags := 25, slot := 3, constantValue := 0 }, { name := "BYTES", type := .int, accessFlags := 25, slot := 4, constantValue := 0 }, { name := "serialVersionUID", type := .long, accessFlags := 26, slot := 5, constantValue := 0 }]
  methods := #[k8m0, k8m1]
  instanceTypes := #[.long]
  staticTypes := #[.long, .long, (.object "java/lang/Class"), .int, .int, .long]
  resolved := Array.replicate 524 none
  statics := none }

def pool9 : Array CpInfo := pool [(1, u "java/lang/Cloneable"), (0, .class_ 1), (0, u "java/lang/Object"), (0, .class_ 3)] 3

/-- java/lang/Cloneable -/
def k9 : Class := { plain "java/lang/Cloneable" (some 0) with
  accessFlags := 1537
  interfaces := #[]
  cf := some (fileOf pool9 2 #[] #[] 1537 4 #[] #[])
  fields := #[]
  methods := #[]
  instanceTypes := #[]
  staticTypes := #[]
  resolved := Array.replicate 8 none
  statics := none }

/-- the primitive byte -/
def k10 : Class := { plain "byte" none with kind := .primitive 'B', accessFlags := 0x411 }
/-- [B -/
def k11 : Class := { plain "[B" (some 0) with kind := .array 10 .byte, interfaces := #[9, 3], accessFlags := 1041 }

/-- the primitive int -/
def k12 : Class := { plain "int" none with kind := .primitive 'I', accessFlags := 0x411 }
/-- [I -/
def k13 : Class := { plain "[I" (some 0) with kind := .array 12 .int, interfaces := #[9, 3], accessFlags := 1041 }

/-- the primitive long -/
def k14 : Class := { plain "long" none with kind := .primitive 'J', accessFlags := 0x411 }
/-- [J -/
def k15 : Class := { plain "[J" (some 0) with kind := .array 14 .long, interfaces := #[9, 3], accessFlags := 1041 }

def heap : Heap := #[]
def classes : Array Class := #[k0, k1, k2, k3, k4, k5, k6, k7, k8, k9, k10, k11, k12, k13, k14, k15]
def interned : List (Array UInt16 × Addr) := []
def slotsUsed : Nat := 0
def theMethod : MethodId := ⟨1, 1⟩
def args0 : Array Value := #[.long 5, .long 5, .long 5, .long 5, .long 5, .int 3]
def aboutOver (below : List Frame) : State where
  vm := { classes := classes, interned := interned.toArray }
  heap := heap
  slotsUsed := slotsUsed
  threads := #[{ frames := .invoking theMethod args0 :: below }]
def below0 : List Frame := [.native { method := ⟨0, 0⟩, args := #[] }]
def about1 : State := aboutOver below0
def p0 : Program := .bare "" "" ""
def e0 : Env := launch0.env 0 0 0
theorem w_frames : about1.frames = Frame.invoking theMethod args0 :: below0 := rfl
set_option maxRecDepth 65536 in
theorem w_args : argsFit about1.vm theMethod args0 = true := by decide +kernel
set_option maxRecDepth 65536 in
theorem w_heap : heapFits about1 = true := by decide +kernel
set_option maxRecDepth 65536 in
theorem w_runnable : about1.curStatus? = some .runnable := by decide +kernel
set_option maxRecDepth 65536 in
theorem w_alone : about1.alone = true := by decide +kernel
set_option maxRecDepth 65536 in
theorem w_named : about1.methodNamed? x = some theMethod := by decide +kernel
set_option maxRecDepth 65536 in
theorem w_hears : about1.hears theMethod below0 = true := by decide +kernel
set_option maxRecDepth 65536 in
theorem w_ripe : about1.ripe theMethod args0 below0 = true := by decide +kernel
theorem w_running : about1.status = .running := rfl
set_option maxRecDepth 65536 in
theorem w_room : about1.hasRoom e0.platform room_1 = true :=
  launch0.hasRoom_least _ room_1 (by decide +kernel) (by decide +kernel) (by decide +kernel) (by decide +kernel) (by decide +kernel) (by decide +kernel)
theorem allAtoms_all (ts : List Jvm.Cond) (a : Array Jvm.Value) (st : Jvm.State) : (allAtoms ts).before a st = ts.all (fun c => c.before a st) := by
  induction ts with
  | nil => rfl
  | cons c t ih =>
    show (Jvm.Cond.and c (allAtoms t)).before a st = _
    rw [Jvm.Cond.before_and, ih, List.all_cons]
def words1 : List Jvm.Cond := Jvm.Cond.code x code maxLocals ret :: tables_1
/-- a 'code' word, met by the world's own term for the bytes: nothing is compared byte by byte -/
theorem code_word {y : MethodName} {bytes : ByteArray} {mx : Nat} {rt : Option FieldType} {a : Array Value} {s : State} {m : MethodId} {meth : Method} {c : Code} (h1 : s.methodNamed? y = some m) (h2 : s.vm.method? m = some meth) (h3 : meth.code = some c) (h4 : c.code = bytes)
    (h5 : (c.maxLocals == mx && c.exceptionTable.isEmpty && decide (c.maxStack ≤ mostOperands) && decide (meth.sig.returnType = rt) && !meth.locks && decide (parseMethodDescriptor y.desc = some meth.sig)) = true) : (Jvm.Cond.code y bytes mx rt).before a s = true := by
  simp only [Bool.and_eq_true, beq_iff_eq, Bool.not_eq_true', decide_eq_true_eq] at h5
  obtain ⟨⟨⟨⟨⟨g1, g2⟩, g3⟩, g4⟩, g5⟩, g6⟩ := h5
  simp [Cond.before, Cond.holds, Cond.value, h1, h2, h3, h4, g1, g2, g3, g4, g5, g6]
def isCode : Jvm.Cond → Bool
  | .code _ _ _ _ => true
  | _ => false
theorem all_split {L : List Jvm.Cond} {P : Jvm.Cond → Bool} (h1 : L.all (fun c => isCode c || P c) = true) (h2 : ∀ c ∈ L.filter isCode, P c = true) : L.all P = true := by
  refine List.all_eq_true.mpr fun c hc => ?_
  have h := List.all_eq_true.mp h1 c hc
  rcases Bool.eq_false_or_eq_true (isCode c) with hi | hi
  · exact h2 c (List.mem_filter.mpr ⟨hc, hi⟩)
  · simpa [hi] using h
set_option maxRecDepth 65536 in
theorem w_c0 : (Jvm.Cond.code x code maxLocals ret).before args0 about1 = true := code_word (m := ⟨1, 1⟩) (meth := k1m1) (c := k1c1) (by decide +kernel) rfl rfl rfl (by decide +kernel)
set_option maxRecDepth 65536 in
theorem w_c1 : (Jvm.Cond.code ({ cls := "com/example/mynah/mynah/rpsl/PrefixRange", name := "compareKeys", desc := "([JI[JI)I" } : Jvm.MethodName) prog_50_method_5_code (5 : Nat) (Option.some Jvm.ClassFile.FieldType.int)).before args0 about1 = true := code_word (m := ⟨2, 0⟩) (meth := k2m0) (c := k2c0) (by decide +kernel) rfl rfl rfl (by decide +kernel)
set_option maxRecDepth 65536 in
theorem w_c2 : (Jvm.Cond.code ({ cls := "java/lang/Long", name := "compareUnsigned", desc := "(JJ)I" } : Jvm.MethodName) jdk_35_method_43_code (4 : Nat) (Option.some Jvm.ClassFile.FieldType.int)).before args0 about1 = true := code_word (m := ⟨8, 1⟩) (meth := k8m1) (c := k8c1) (by decide +kernel) rfl rfl rfl (by decide +kernel)
set_option maxRecDepth 65536 in
theorem w_c3 : (Jvm.Cond.code ({ cls := "java/lang/Long", name := "compare", desc := "(JJ)I" } : Jvm.MethodName) jdk_35_method_42_code (4 : Nat) (Option.some Jvm.ClassFile.FieldType.int)).before args0 about1 = true := code_word (m := ⟨8, 0⟩) (meth := k8m0) (c := k8c0) (by decide +kernel) rfl rfl rfl (by decide +kernel)
set_option maxRecDepth 65536 in
theorem w_c4 : (Jvm.Cond.code ({ cls := "com/example/mynah/mynah/rpsl/PrefixRangeCompareKeysPinLaw", name := "unsignedOrder", desc := "(JJ)I" } : Jvm.MethodName) method_3_code (8 : Nat) (Option.some Jvm.ClassFile.FieldType.int)).before args0 about1 = true := code_word (m := ⟨1, 2⟩) (meth := k1m2) (c := k1c2) (by decide +kernel) rfl rfl rfl (by decide +kernel)
def codes1 : List Jvm.Cond := [Jvm.Cond.code x code maxLocals ret, Jvm.Cond.code ({ cls := "com/example/mynah/mynah/rpsl/PrefixRange", name := "compareKeys", desc := "([JI[JI)I" } : Jvm.MethodName) prog_50_method_5_code (5 : Nat) (Option.some Jvm.ClassFile.FieldType.int), Jvm.Cond.code ({ cls := "java/lang/Long", name := "compareUnsigned", desc := "(JJ)I" } : Jvm.MethodName) jdk_35_method_43_code (4 : Nat) (Option.some Jvm.ClassFile.FieldType.int), Jvm.Cond.code ({ cls := "java/lang/Long", name := "compare", desc := "(JJ)I" } : Jvm.MethodName) jdk_35_method_42_code (4 : Nat) (Option.some Jvm.ClassFile.FieldType.int), Jvm.Cond.code ({ cls := "com/example/mynah/mynah/rpsl/PrefixRangeCompareKeysPinLaw", name := "unsignedOrder", desc := "(JJ)I" } : Jvm.MethodName) method_3_code (8 : Nat) (Option.some Jvm.ClassFile.FieldType.int)]
set_option maxRecDepth 65536 in
theorem codes_eq : words1.filter isCode = codes1 := rfl
theorem w_codes : ∀ c ∈ words1.filter isCode, c.before args0 about1 = true := by
  rw [codes_eq]
  intro c hc
  simp only [codes1, List.mem_cons, List.not_mem_nil, or_false] at hc
  rcases hc with rfl | rfl | rfl | rfl | rfl
  · exact w_c0
  · exact w_c1
  · exact w_c2
  · exact w_c3
  · exact w_c4
set_option maxRecDepth 65536 in
theorem w_t1 : words1.all (fun c => isCode c || c.before args0 about1) = true := by decide +kernel
theorem w_tables : (allAtoms (Jvm.Cond.code x code maxLocals ret :: tables_1)).before args0 about1 = true := by
  rw [allAtoms_all]
  show words1.all (fun c => c.before args0 about1) = true
  refine all_split ?_ w_codes
  rw [w_t1]
set_option maxRecDepth 65536 in
theorem w_case : (Jvm.Cond.and given_1 narrow_1).before args0 about1 = true := by decide +kernel
theorem w_applies : (headSpec (Jvm.Cond.code x code maxLocals ret :: tables_1) room_1).applies x e0.platform about1 = true :=
  (Spec.applies_iff w_frames).mpr ⟨w_running, w_runnable, w_alone, w_named, w_hears, w_ripe, w_room, w_tables⟩
theorem atStart : AtStart classFile x code maxLocals ret World_1 tables_1 room_1 Calls_1 rest_1 Pre_1 launch0 p0 e0 about1 theMethod args0 below0 :=
  ⟨lists_1, trivial, launch0.admits_env _ _ _, launch0.least_env, fairChoices_fair.cas, fairChoices_fair.clock, w_frames, w_args, w_heap, w_applies, trivial, trivial, w_case⟩
end start1
theorem witness_1 : WitnessClaimed_1 := ⟨start1.p0, start1.e0, start1.about1, start1.theMethod, start1.args0, start1.below0, start1.atStart⟩
end Jvm.Pilot.@@N@@
