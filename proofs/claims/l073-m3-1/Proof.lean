import JvmDerived
import JvmDerived.Pilot.@@N@@Statement
import JvmDerived.Pilot.@@N@@Code
set_option linter.unusedVariables false
set_option linter.unusedSimpArgs false
namespace Jvm.RoadKit
open Sem ClassFile Op Lib Jvm.Stand Jvm.Free Jvm.LawKit
section New
variable {p : Program} {l : Launch} {e : Env} {R : Room} {s : State} {m : MethodId} {args : Array Value} {below : List Frame} {meth : Method} {c : Code} {T : State} {locs : List Loc} {cells slots : Nat}
theorem retI (X : Stand p l e R s m args below meth c T locs cells slots) (hx : p.tables.exec = Jvm.exec) {pc : Nat} {Ls : Array Slot} {z : Int32} {rest : List Value} (hret : meth.sig.returnType = some .int) (hd : decode c.code pc = .ok (.ireturn, 1)) {fs : List Frame}
    (hl : ∀ (f : JFrame) (acts : List Action), f.method = m → f.locked = none → f.entered = [] → (doReturn e (T.setTop f) acts (some (.int z))).1 = T.setFrames fs) : Steps p.tables e below (T.setTop (mkF m pc Ls (.int z :: rest))) (T.setFrames fs) := by
  have hm' : T.vm.method? m = some meth := X.method'
  have hn : narrow .int (.int z) = .int z := rfl
  show Steps p.tables e below (T.setTop { method := m, pc := pc, locals := Ls, stack := _ :: rest, locked := none }) _
  jvm_step X.here [X.here.top, hx, hd, hm', hret, hn]
  first | (intro acts; rw [hl _ acts rfl rfl rfl]) | rw [hl _ _ rfl rfl rfl]
  exact Steps.refl _
end New
end Jvm.RoadKit
namespace Jvm.Pilot.@@N@@
open Jvm Jvm.ClassFile Sem Op Lib Jvm.Free Jvm.Stand Jvm.LawKit Jvm.RoadKit Bundle Jvm.Pilot.@@N@@.Jvm.D

theorem own_l0 : (0 : Int32).toInt = 0 := rfl
theorem own_l1 : (1 : Int32).toInt = 1 := rfl
theorem own_lm1 : (-1 : Int32).toInt = -1 := rfl
theorem own_L1 : (1 : Int64).toInt = 1 := rfl
theorem own_L0 : (0 : Int64).toInt = 0 := rfl
theorem own_tok (x : Int32) : 0 ≤ (x &&& 2147483647).toInt := by
  have h := c_mask x 2147483647 31 (by decide) (by decide)
  rw [h]; omega
theorem own_A (t : Int32) (h : 0 ≤ t.toInt) : ¬ (-1 : Int32) < -1 ∧ (-1 : Int32) < t := by
  refine ⟨by decide, ?_⟩
  rw [Int32.lt_iff_toInt_lt, own_lm1]; omega
theorem own_B (t : Int32) (h : 0 ≤ t.toInt) : ¬ (t - 1) < -1 ∧ (t - 1) < t := by
  have h1 := c_isub t 1
  have h2 := rng32 t
  have h3 := rng32 (t - 1)
  rw [own_l1] at h1
  simp only [Int32.lt_iff_toInt_lt, own_lm1]
  omega
theorem own_rg (t : Int32) : (t.toInt64 + 1).toInt = t.toInt + 1 := by
  have h1 := c_ladd t.toInt64 1
  have h2 := rng32 t
  have h3 := rng64 (t.toInt64 + 1)
  rw [c_i2l, own_L1] at h1
  omega
theorem own_nz (t : Int32) (h : 0 ≤ t.toInt) : t.toInt64 + 1 ≠ 0 := fun q => by
  have h1 := own_rg t
  rw [q, own_L0] at h1
  omega
def own_alt (t x : Int32) : Int32 := (((x.toInt64 &&& 4294967295) - (x.toInt64 &&& 4294967295) / (t.toInt64 + 1) * (t.toInt64 + 1)) - 1).toInt32
theorem own_C (t x : Int32) (h : 0 ≤ t.toInt) : ¬ own_alt t x < -1 ∧ own_alt t x < t := by
  unfold own_alt
  have hA := c_maskL x.toInt64 4294967295 32 (by decide) (by decide)
  have hA0 : 0 ≤ (x.toInt64 &&& 4294967295).toInt := by rw [hA]; omega
  have hr := (c_lrem (x.toInt64 &&& 4294967295) (t.toInt64 + 1) (t.toInt + 1) (own_rg t)).1 hA0
  generalize (x.toInt64 &&& 4294967295) - (x.toInt64 &&& 4294967295) / (t.toInt64 + 1) * (t.toInt64 + 1) = r at hr ⊢
  have hb0 := Int.emod_nonneg (x.toInt64 &&& 4294967295).toInt (show t.toInt + 1 ≠ 0 by omega)
  have hb1 := Int.emod_lt_of_pos (x.toInt64 &&& 4294967295).toInt (show 0 < t.toInt + 1 by omega)
  rw [← hr] at hb0 hb1
  have h1 := c_lsub r 1
  have h2 := rng64 (r - 1)
  have h3 := c_l2i (r - 1)
  have h4 := rng32 (r - 1).toInt32
  have h5 := rng32 t
  have h6 := rng64 r
  rw [own_L1] at h1
  simp only [Int32.lt_iff_toInt_lt, own_lm1]
  omega

theorem own_d1_0 : decode prog_1_method_4_code 0 = .ok (.iload_n 0, 1) := by decide +kernel
theorem own_d1_1 : decode prog_1_method_4_code 1 = .ok (.iconst (-1), 1) := by decide +kernel
theorem own_d1_2 : decode prog_1_method_4_code 2 = .ok (.if_icmp .lt 8, 3) := by decide +kernel
theorem own_d1_5 : decode prog_1_method_4_code 5 = .ok (.iload_n 0, 1) := by decide +kernel
theorem own_d1_6 : decode prog_1_method_4_code 6 = .ok (.iload_n 1, 1) := by decide +kernel
theorem own_d1_7 : decode prog_1_method_4_code 7 = .ok (.if_icmp .lt 20, 3) := by decide +kernel
theorem own_d1_27 : decode prog_1_method_4_code 27 = .ok (.return_, 1) := by decide +kernel
theorem own_pn_0 : plainName "com/example/lats/lats/benchmarks/TokenLibrary" = true := by first | (simp [plainName, overriddenIn]; done) | decide +kernel
theorem own_ef_0 (m : MethodId) (x0 : Int32) (x1 : Int32) : entryFrame m #[(.int x0), (.int x1)] 2 = mkF m 0 #[.val (.int x0), .val (.int x1)] [] := by first | (simp [entryFrame, mkF, argsToLocals, Value.category]; done) | rfl
theorem own_pn_1 : plainName "com/example/lats/lats/benchmarks/TokenLibraryRequireAlteredTokenPinLaw" = true := by first | (simp [plainName, overriddenIn]; done) | decide +kernel
theorem own_ef_1 (m : MethodId) (x0 : Int32) (x1 : Int32) (x2 : Int32) : entryFrame m #[(.int x0), (.int x1), (.int x2)] maxLocals = mkF m 0 #[.val (.int x0), .val (.int x1), .val (.int x2), .unset, .unset, .unset, .unset, .unset, .unset, .unset] [] := by first | (simp [entryFrame, mkF, argsToLocals, Value.category, maxLocals]; done) | rfl
theorem own_pd_0 : parseMethodDescriptor "(II)V" = some ⟨[.int, .int], none⟩ := by decide +kernel
def Q_rm1 (Z : State) (p0 : Int32) (p1 : Int32) (h0 : Heap) (n0 : Nat) (v : Option Value) (h : Heap) (L : List Loc) : Prop := v = none ∧ Fr n0 L ∧ h = h0
set_option maxRecDepth 65536 in
set_option maxHeartbeats 40000000 in
theorem rm1 (l : Launch) (Z : State) (a0 : Array Value) (hw : ∀ d ∈ tables_1, d.before a0 Z = true) (ws : List Jvm.Cond) (p0 : Int32) (p1 : Int32) (h0 : Heap) (n0 : Nat) (Z0 : n0 ≤ h0.size) (hc1 : ¬ p0 < (-1 : Int32)) (hc2 : p0 < p1) :
    MetFree l (⟨"com/example/lats/lats/benchmarks/TokenLibrary", "requireAlteredToken", "(II)V"⟩ : MethodName) (head1 (Jvm.Cond.code (⟨"com/example/lats/lats/benchmarks/TokenLibrary", "requireAlteredToken", "(II)V"⟩ : MethodName) prog_1_method_4_code 2 none :: ws) ({ frames := 0, cells := 0, slots := 0, locals := 0 } : Room)) (fun a U => a = #[(.int p0), (.int p1)] ∧ Z.Warmed39 U.vm ∧ U.heap = h0) (fun _ _ _ _ _ => True) (fun _ U o U' => ∃ v L, o = .returned v ∧ Q_rm1 Z p0 p1 h0 n0 v U'.heap L ∧ FrameEnd U o U' L ({ frames := 0, cells := 0, slots := 0, locals := 0 } : Room).cells ({ frames := 0, cells := 0, slots := 0, locals := 0 } : Room).slots) := by
  refine MetFree.of_bodySF (plainFor_of_name own_pn_0) hisR ?_
  intro p e s m args below meth c s₁ Bd hml0 hP hK
  obtain ⟨rfl, hZ, hh⟩ := hP
  have hx := Bd.exec
  have hby := Bd.bytes
  have hml : c.maxLocals = 2 := hml0
  have hown : s.vm.findClass "com/example/lats/lats/benchmarks/TokenLibrary" = some m.cls := findClass_of_methodNamed Bd.named
  have hnm := (name_of_methodNamed Bd.named Bd.method).1
  have X0 : Stand p l e ({ frames := 0, cells := 0, slots := 0, locals := 0 } : Room) s m #[(.int p0), (.int p1)] below meth c s₁ [] 0 0 := Stand.of_body Bd
  have e0 : s₁.heap = h0 := by rw [← hh, Bd.state]; rfl
  have N0 := Fr.nil n0
  have K0 : Keep h0 h0 [] := Keep.refl h0 _
  have pre0 : ∀ t, Steps p.tables e below (s₁.setTop (mkF m 0 #[.val (.int p0), .val (.int p1)] [])) t → Steps p.tables e below (s₁.setTop (entryFrame m #[(.int p0), (.int p1)] 2)) t := fun t k => castTop (own_ef_0 m p0 p1) k
  have k1 : ∀ t, Steps p.tables e below (s₁.setTop (mkF m 2 #[.val (.int p0), .val (.int p1)] [(.int (-1 : Int32)), (.int p0)])) t → Steps p.tables e below (s₁.setTop (mkF m 0 #[.val (.int p0), .val (.int p1)] [])) t := by
    intro t h
    show Steps p.tables e below (s₁.setTop (mkF m 0 #[.val (.int p0), .val (.int p1)] [])) _
    refine XS.iloadN X0.here hx rfl (hb hby own_d1_0) rfl ?_
    show Steps p.tables e below (s₁.setTop (mkF m 1 #[.val (.int p0), .val (.int p1)] [(.int p0)])) _
    refine XS.iconst X0.here hx rfl (hb hby own_d1_1) ?_
    exact h
  have b2_2 : ¬ (p0 < (-1 : Int32)) := hc1
  have k3 : ∀ t, Steps p.tables e below (s₁.setTop (mkF m 7 #[.val (.int p0), .val (.int p1)] [(.int p1), (.int p0)])) t → Steps p.tables e below (s₁.setTop (mkF m 0 #[.val (.int p0), .val (.int p1)] [])) t := by
    intro t h
    refine k1 t ?_
    show Steps p.tables e below (s₁.setTop (mkF m 2 #[.val (.int p0), .val (.int p1)] [(.int (-1 : Int32)), (.int p0)])) _
    refine XS.icmpNo X0.here hx rfl (hb hby own_d1_2) rfl (flt b2_2).1 ?_
    show Steps p.tables e below (s₁.setTop (mkF m 5 #[.val (.int p0), .val (.int p1)] [])) _
    refine XS.iloadN X0.here hx rfl (hb hby own_d1_5) rfl ?_
    show Steps p.tables e below (s₁.setTop (mkF m 6 #[.val (.int p0), .val (.int p1)] [(.int p0)])) _
    refine XS.iloadN X0.here hx rfl (hb hby own_d1_6) rfl ?_
    exact h
  have b7_4 : p0 < p1 := hc2
  have k5 : ∀ t, Steps p.tables e below (s₁.setTop (mkF m 27 #[.val (.int p0), .val (.int p1)] [])) t → Steps p.tables e below (s₁.setTop (mkF m 0 #[.val (.int p0), .val (.int p1)] [])) t := by
    intro t h
    refine k3 t ?_
    show Steps p.tables e below (s₁.setTop (mkF m 7 #[.val (.int p0), .val (.int p1)] [(.int p1), (.int p0)])) _
    refine XS.icmpYes X0.here hx rfl (pc0 := 7) (pc' := 27) rfl (hb hby own_d1_7) rfl (tlt b7_4).1 (by decide) (by decide) ?_
    exact h
  obtain ⟨fs, hr, hrun, hended, hW, hsame⟩ := X0.leave (v := none) (fun _ => rfl)
  refine ⟨_, _, pre0 _ (k5 _ ?_), hrun, hended, _, _, rfl, ?_, ⟨_, rfl⟩, hW, hsame.mono (by decide) (by decide)⟩
  · exact X0.returnOut hx Bd.returns (hb hby own_d1_27) hr
  · show Q_rm1 Z _ _ h0 n0 _ s₁.heap _
    rw [e0]
    exact ⟨rfl, N0, rfl⟩
def Q_rm0 (Z : State) (p0 : Int32) (p1 : Int32) (p2 : Int32) (h0 : Heap) (n0 : Nat) (v : Option Value) (h : Heap) (L : List Loc) : Prop := v = some (.int 1) ∧ Fr n0 L
set_option maxRecDepth 65536 in
set_option maxHeartbeats 40000000 in
theorem rm0 (l : Launch) (Z : State) (a0 : Array Value) (hw : ∀ d ∈ tables_1, d.before a0 Z = true) (ws : List Jvm.Cond) (p0 : Int32) (p1 : Int32) (p2 : Int32) (h0 : Heap) (n0 : Nat) (Z0 : n0 ≤ h0.size) :
    MetFree l x (head1 (Jvm.Cond.code x code maxLocals ret :: ws) room_1) (fun a U => a = #[(.int p0), (.int p1), (.int p2)] ∧ Z.Warmed39 U.vm ∧ U.heap = h0) (fun _ _ _ _ _ => True) (fun _ U o U' => ∃ v L, o = .returned v ∧ Q_rm0 Z p0 p1 p2 h0 n0 v U'.heap L ∧ FrameEnd U o U' L 0 0) := by
  refine MetFree.of_bodySF (plainFor_of_name own_pn_1) hisR ?_
  intro p e s m args below meth c s₁ Bd hml0 hP hK
  obtain ⟨rfl, hZ, hh⟩ := hP
  have hx := Bd.exec
  have hby := Bd.bytes
  have hml : c.maxLocals = 10 := hml0
  have hown : s.vm.findClass "com/example/lats/lats/benchmarks/TokenLibraryRequireAlteredTokenPinLaw" = some m.cls := findClass_of_methodNamed Bd.named
  have hnm := (name_of_methodNamed Bd.named Bd.method).1
  have X0 : Stand p l e room_1 s m #[(.int p0), (.int p1), (.int p2)] below meth c s₁ [] 0 0 := Stand.of_body Bd
  have e0 : s₁.heap = h0 := by rw [← hh, Bd.state]; rfl
  have N0 := Fr.nil n0
  have K0 : Keep h0 h0 [] := Keep.refl h0 _
  have pre0 : ∀ t, Steps p.tables e below (s₁.setTop (mkF m 0 #[.val (.int p0), .val (.int p1), .val (.int p2), .unset, .unset, .unset, .unset, .unset, .unset, .unset] [])) t → Steps p.tables e below (s₁.setTop (entryFrame m #[(.int p0), (.int p1), (.int p2)] maxLocals)) t := fun t k => castTop (own_ef_1 m p0 p1 p2) k
  have k6 : ∀ t, Steps p.tables e below (s₁.setTop (mkF m 12 #[.val (.int p0), .val (.int p1), .val (.int p2), .val (.int (p0 &&& (2147483647 : Int32))), .val (.int (p2 &&& (3 : Int32))), .unset, .unset, .unset, .unset, .unset] [(.int (p2 &&& (3 : Int32)))])) t → Steps p.tables e below (s₁.setTop (mkF m 0 #[.val (.int p0), .val (.int p1), .val (.int p2), .unset, .unset, .unset, .unset, .unset, .unset, .unset] [])) t := by
    intro t h
    show Steps p.tables e below (s₁.setTop (mkF m 0 #[.val (.int p0), .val (.int p1), .val (.int p2), .unset, .unset, .unset, .unset, .unset, .unset, .unset] [])) _
    refine XS.iloadN X0.here hx rfl (hb hby at_0) rfl ?_
    show Steps p.tables e below (s₁.setTop (mkF m 1 #[.val (.int p0), .val (.int p1), .val (.int p2), .unset, .unset, .unset, .unset, .unset, .unset, .unset] [(.int p0)])) _
    refine X0.ldcInt hx hown (mvT hZ (hw _ (List.mem_of_getElem? (i := 0) rfl))) (g := (mkF m 1 #[.val (.int p0), .val (.int p1), .val (.int p2), .unset, .unset, .unset, .unset, .unset, .unset, .unset] [(.int p0)])) rfl (hb hby at_1) _ ?_
    show Steps p.tables e below (s₁.setTop (mkF m 3 #[.val (.int p0), .val (.int p1), .val (.int p2), .unset, .unset, .unset, .unset, .unset, .unset, .unset] [(.int (2147483647 : Int32)), (.int p0)])) _
    refine XS.iand X0.here hx rfl (hb hby at_3) rfl ?_
    show Steps p.tables e below (s₁.setTop (mkF m 4 #[.val (.int p0), .val (.int p1), .val (.int p2), .unset, .unset, .unset, .unset, .unset, .unset, .unset] [(.int (p0 &&& (2147483647 : Int32)))])) _
    refine XS.istoreN X0.here hx rfl (hb hby at_4) rfl (l' := #[.val (.int p0), .val (.int p1), .val (.int p2), .val (.int (p0 &&& (2147483647 : Int32))), .unset, .unset, .unset, .unset, .unset, .unset]) rfl ?_
    show Steps p.tables e below (s₁.setTop (mkF m 5 #[.val (.int p0), .val (.int p1), .val (.int p2), .val (.int (p0 &&& (2147483647 : Int32))), .unset, .unset, .unset, .unset, .unset, .unset] [])) _
    refine XS.iloadN X0.here hx rfl (hb hby at_5) rfl ?_
    show Steps p.tables e below (s₁.setTop (mkF m 6 #[.val (.int p0), .val (.int p1), .val (.int p2), .val (.int (p0 &&& (2147483647 : Int32))), .unset, .unset, .unset, .unset, .unset, .unset] [(.int p2)])) _
    refine XS.iconst X0.here hx rfl (hb hby at_6) ?_
    show Steps p.tables e below (s₁.setTop (mkF m 7 #[.val (.int p0), .val (.int p1), .val (.int p2), .val (.int (p0 &&& (2147483647 : Int32))), .unset, .unset, .unset, .unset, .unset, .unset] [(.int (3 : Int32)), (.int p2)])) _
    refine XS.iand X0.here hx rfl (hb hby at_7) rfl ?_
    show Steps p.tables e below (s₁.setTop (mkF m 8 #[.val (.int p0), .val (.int p1), .val (.int p2), .val (.int (p0 &&& (2147483647 : Int32))), .unset, .unset, .unset, .unset, .unset, .unset] [(.int (p2 &&& (3 : Int32)))])) _
    refine XS.istore X0.here hx rfl (hb hby at_8) rfl (l' := #[.val (.int p0), .val (.int p1), .val (.int p2), .val (.int (p0 &&& (2147483647 : Int32))), .val (.int (p2 &&& (3 : Int32))), .unset, .unset, .unset, .unset, .unset]) rfl ?_
    show Steps p.tables e below (s₁.setTop (mkF m 10 #[.val (.int p0), .val (.int p1), .val (.int p2), .val (.int (p0 &&& (2147483647 : Int32))), .val (.int (p2 &&& (3 : Int32))), .unset, .unset, .unset, .unset, .unset] [])) _
    refine XS.iload X0.here hx rfl (hb hby at_10) rfl ?_
    exact h
  by_cases c12_7 : (p2 &&& (3 : Int32)) = (0 : Int32)
  · skip
    obtain ⟨_, _, ⟨T8, L8, k8, n8⟩, -, X8, ⟨Lc8, hQ8, l8, y8, z8⟩, st8⟩ := Jvm.LawKit.callS X0 hx (y := (⟨"com/example/lats/lats/benchmarks/TokenLibrary", "requireAlteredToken", "(II)V"⟩ : MethodName)) hown (mvT hZ (hw _ (List.mem_of_getElem? (i := 2) rfl))) (mvT hZ (hw _ (List.mem_of_getElem? (i := 3) rfl))) (mvT hZ (hw _ (List.mem_of_getElem? (i := 4) rfl))) (mvT hZ (hw _ (List.mem_of_getElem? (i := 5) rfl))) (by decide) (backOf (W := 0) (rm1 l Z a0 hw [] (-1 : Int32) (p0 &&& (2147483647 : Int32))  h0 n0 Z0 (own_A (p0 &&& 2147483647) (own_tok p0)).1 (own_A (p0 &&& 2147483647) (own_tok p0)).2) hZ (hw _ (List.mem_of_getElem? (i := 5) rfl)) (hw _ (List.mem_of_getElem? (i := 4) rfl)) (by decide) (by decide)) (g := (mkF m 62 #[.val (.int p0), .val (.int p1), .val (.int p2), .val (.int (p0 &&& (2147483647 : Int32))), .val (.int (p2 &&& (3 : Int32))), .val (.int (-1 : Int32)), .unset, .unset, .unset, .unset] [(.int (p0 &&& (2147483647 : Int32))), (.int (-1 : Int32))])) rfl (by rw [hml]; rfl) (argsL := [(.int (-1 : Int32)), (.int (p0 &&& (2147483647 : Int32)))]) (rest := []) (lenOf own_pd_0 rfl) rfl (by show 2 * 0 + _ ≤ _; exact Nat.le_of_eq rfl) (hb hby at_62) (fun _ _ => ⟨rfl, e0, (by decide : 0 + 0 ≤ _), (by decide : 0 + 0 ≤ _)⟩)
    dsimp only [Pt.U, Pt.locs, Pt.cells, Pt.slots] at X8 l8 y8 z8 st8 hQ8
    subst l8 y8 z8
    obtain ⟨rfl, Nq8, eq8⟩ := hQ8
    have N8 := Fr.app N0 Nq8
    have k9 : ∀ t, Steps p.tables e below (T8.setTop (mkF m 66 #[.val (.int p0), .val (.int p1), .val (.int p2), .val (.int (p0 &&& (2147483647 : Int32))), .val (.int (p2 &&& (3 : Int32))), .val (.int (-1 : Int32)), .unset, .unset, .unset, .unset] [(.int (1 : Int32))])) t → Steps p.tables e below (s₁.setTop (mkF m 0 #[.val (.int p0), .val (.int p1), .val (.int p2), .unset, .unset, .unset, .unset, .unset, .unset, .unset] [])) t := by
      intro t h
      refine k6 t ?_
      show Steps p.tables e below (s₁.setTop (mkF m 12 #[.val (.int p0), .val (.int p1), .val (.int p2), .val (.int (p0 &&& (2147483647 : Int32))), .val (.int (p2 &&& (3 : Int32))), .unset, .unset, .unset, .unset, .unset] [(.int (p2 &&& (3 : Int32)))])) _
      refine XS.ifNo X0.here hx rfl (hb hby at_12) rfl ((if0 _ _).trans (teq c12_7).2) ?_
      show Steps p.tables e below (s₁.setTop (mkF m 15 #[.val (.int p0), .val (.int p1), .val (.int p2), .val (.int (p0 &&& (2147483647 : Int32))), .val (.int (p2 &&& (3 : Int32))), .unset, .unset, .unset, .unset, .unset] [])) _
      refine XS.iconst X0.here hx rfl (hb hby at_15) ?_
      show Steps p.tables e below (s₁.setTop (mkF m 16 #[.val (.int p0), .val (.int p1), .val (.int p2), .val (.int (p0 &&& (2147483647 : Int32))), .val (.int (p2 &&& (3 : Int32))), .unset, .unset, .unset, .unset, .unset] [(.int (-1 : Int32))])) _
      refine XS.istore X0.here hx rfl (hb hby at_16) rfl (l' := #[.val (.int p0), .val (.int p1), .val (.int p2), .val (.int (p0 &&& (2147483647 : Int32))), .val (.int (p2 &&& (3 : Int32))), .val (.int (-1 : Int32)), .unset, .unset, .unset, .unset]) rfl ?_
      show Steps p.tables e below (s₁.setTop (mkF m 18 #[.val (.int p0), .val (.int p1), .val (.int p2), .val (.int (p0 &&& (2147483647 : Int32))), .val (.int (p2 &&& (3 : Int32))), .val (.int (-1 : Int32)), .unset, .unset, .unset, .unset] [])) _
      refine XS.goto X0.here hx rfl (pc0 := 18) (pc' := 59) rfl (hb hby at_18) (by decide) (by decide) ?_
      show Steps p.tables e below (s₁.setTop (mkF m 59 #[.val (.int p0), .val (.int p1), .val (.int p2), .val (.int (p0 &&& (2147483647 : Int32))), .val (.int (p2 &&& (3 : Int32))), .val (.int (-1 : Int32)), .unset, .unset, .unset, .unset] [])) _
      refine XS.iload X0.here hx rfl (hb hby at_59) rfl ?_
      show Steps p.tables e below (s₁.setTop (mkF m 61 #[.val (.int p0), .val (.int p1), .val (.int p2), .val (.int (p0 &&& (2147483647 : Int32))), .val (.int (p2 &&& (3 : Int32))), .val (.int (-1 : Int32)), .unset, .unset, .unset, .unset] [(.int (-1 : Int32))])) _
      refine XS.iloadN X0.here hx rfl (hb hby at_61) rfl ?_
      show Steps p.tables e below (s₁.setTop (mkF m 62 #[.val (.int p0), .val (.int p1), .val (.int p2), .val (.int (p0 &&& (2147483647 : Int32))), .val (.int (p2 &&& (3 : Int32))), .val (.int (-1 : Int32)), .unset, .unset, .unset, .unset] [(.int (p0 &&& (2147483647 : Int32))), (.int (-1 : Int32))])) _
      refine st8 _ ?_
      show Steps p.tables e below (T8.setTop (mkF m 65 #[.val (.int p0), .val (.int p1), .val (.int p2), .val (.int (p0 &&& (2147483647 : Int32))), .val (.int (p2 &&& (3 : Int32))), .val (.int (-1 : Int32)), .unset, .unset, .unset, .unset] [])) _
      refine XS.iconst X8.here hx rfl (hb hby at_65) ?_
      exact h
    obtain ⟨fs, hr, hrun, hended, hW, hsame⟩ := X8.leave (v := some (.int (1 : Int32))) (fun h => by rw [Bd.returns] at h; cases h)
    refine ⟨_, _, pre0 _ (k9 _ ?_), hrun, hended, _, _, rfl, ?_, ⟨_, rfl⟩, hW, hsame.mono (by decide) (by decide)⟩
    · exact retN X8 hx (t := .boolean) Bd.returns (by simp) (hb hby at_66) hr
    · show Q_rm0 Z _ _ _ h0 n0 _ T8.heap _
      rw [eq8]
      exact ⟨rfl, N8⟩
  · skip
    have k10 : ∀ t, Steps p.tables e below (s₁.setTop (mkF m 24 #[.val (.int p0), .val (.int p1), .val (.int p2), .val (.int (p0 &&& (2147483647 : Int32))), .val (.int (p2 &&& (3 : Int32))), .unset, .unset, .unset, .unset, .unset] [(.int (1 : Int32)), (.int (p2 &&& (3 : Int32)))])) t → Steps p.tables e below (s₁.setTop (mkF m 0 #[.val (.int p0), .val (.int p1), .val (.int p2), .unset, .unset, .unset, .unset, .unset, .unset, .unset] [])) t := by
      intro t h
      refine k6 t ?_
      show Steps p.tables e below (s₁.setTop (mkF m 12 #[.val (.int p0), .val (.int p1), .val (.int p2), .val (.int (p0 &&& (2147483647 : Int32))), .val (.int (p2 &&& (3 : Int32))), .unset, .unset, .unset, .unset, .unset] [(.int (p2 &&& (3 : Int32)))])) _
      refine XS.ifYes X0.here hx rfl (pc0 := 12) (pc' := 21) rfl (hb hby at_12) rfl ((if0 _ _).trans (feq c12_7).2) (by decide) (by decide) ?_
      show Steps p.tables e below (s₁.setTop (mkF m 21 #[.val (.int p0), .val (.int p1), .val (.int p2), .val (.int (p0 &&& (2147483647 : Int32))), .val (.int (p2 &&& (3 : Int32))), .unset, .unset, .unset, .unset, .unset] [])) _
      refine XS.iload X0.here hx rfl (hb hby at_21) rfl ?_
      show Steps p.tables e below (s₁.setTop (mkF m 23 #[.val (.int p0), .val (.int p1), .val (.int p2), .val (.int (p0 &&& (2147483647 : Int32))), .val (.int (p2 &&& (3 : Int32))), .unset, .unset, .unset, .unset, .unset] [(.int (p2 &&& (3 : Int32)))])) _
      refine XS.iconst X0.here hx rfl (hb hby at_23) ?_
      exact h
    by_cases c24_11 : (p2 &&& (3 : Int32)) = (1 : Int32)
    · skip
      obtain ⟨_, _, ⟨T12, L12, k12, n12⟩, -, X12, ⟨Lc12, hQ12, l12, y12, z12⟩, st12⟩ := Jvm.LawKit.callS X0 hx (y := (⟨"com/example/lats/lats/benchmarks/TokenLibrary", "requireAlteredToken", "(II)V"⟩ : MethodName)) hown (mvT hZ (hw _ (List.mem_of_getElem? (i := 2) rfl))) (mvT hZ (hw _ (List.mem_of_getElem? (i := 3) rfl))) (mvT hZ (hw _ (List.mem_of_getElem? (i := 4) rfl))) (mvT hZ (hw _ (List.mem_of_getElem? (i := 5) rfl))) (by decide) (backOf (W := 0) (rm1 l Z a0 hw [] ((p0 &&& (2147483647 : Int32)) - (1 : Int32)) (p0 &&& (2147483647 : Int32))  h0 n0 Z0 (own_B (p0 &&& 2147483647) (own_tok p0)).1 (own_B (p0 &&& 2147483647) (own_tok p0)).2) hZ (hw _ (List.mem_of_getElem? (i := 5) rfl)) (hw _ (List.mem_of_getElem? (i := 4) rfl)) (by decide) (by decide)) (g := (mkF m 62 #[.val (.int p0), .val (.int p1), .val (.int p2), .val (.int (p0 &&& (2147483647 : Int32))), .val (.int (p2 &&& (3 : Int32))), .val (.int ((p0 &&& (2147483647 : Int32)) - (1 : Int32))), .unset, .unset, .unset, .unset] [(.int (p0 &&& (2147483647 : Int32))), (.int ((p0 &&& (2147483647 : Int32)) - (1 : Int32)))])) rfl (by rw [hml]; rfl) (argsL := [(.int ((p0 &&& (2147483647 : Int32)) - (1 : Int32))), (.int (p0 &&& (2147483647 : Int32)))]) (rest := []) (lenOf own_pd_0 rfl) rfl (by show 2 * 0 + _ ≤ _; exact Nat.le_of_eq rfl) (hb hby at_62) (fun _ _ => ⟨rfl, e0, (by decide : 0 + 0 ≤ _), (by decide : 0 + 0 ≤ _)⟩)
      dsimp only [Pt.U, Pt.locs, Pt.cells, Pt.slots] at X12 l12 y12 z12 st12 hQ12
      subst l12 y12 z12
      obtain ⟨rfl, Nq12, eq12⟩ := hQ12
      have N12 := Fr.app N0 Nq12
      have k13 : ∀ t, Steps p.tables e below (T12.setTop (mkF m 66 #[.val (.int p0), .val (.int p1), .val (.int p2), .val (.int (p0 &&& (2147483647 : Int32))), .val (.int (p2 &&& (3 : Int32))), .val (.int ((p0 &&& (2147483647 : Int32)) - (1 : Int32))), .unset, .unset, .unset, .unset] [(.int (1 : Int32))])) t → Steps p.tables e below (s₁.setTop (mkF m 0 #[.val (.int p0), .val (.int p1), .val (.int p2), .unset, .unset, .unset, .unset, .unset, .unset, .unset] [])) t := by
        intro t h
        refine k10 t ?_
        show Steps p.tables e below (s₁.setTop (mkF m 24 #[.val (.int p0), .val (.int p1), .val (.int p2), .val (.int (p0 &&& (2147483647 : Int32))), .val (.int (p2 &&& (3 : Int32))), .unset, .unset, .unset, .unset, .unset] [(.int (1 : Int32)), (.int (p2 &&& (3 : Int32)))])) _
        refine XS.icmpNo X0.here hx rfl (hb hby at_24) rfl (teq c24_11).2 ?_
        show Steps p.tables e below (s₁.setTop (mkF m 27 #[.val (.int p0), .val (.int p1), .val (.int p2), .val (.int (p0 &&& (2147483647 : Int32))), .val (.int (p2 &&& (3 : Int32))), .unset, .unset, .unset, .unset, .unset] [])) _
        refine XS.iloadN X0.here hx rfl (hb hby at_27) rfl ?_
        show Steps p.tables e below (s₁.setTop (mkF m 28 #[.val (.int p0), .val (.int p1), .val (.int p2), .val (.int (p0 &&& (2147483647 : Int32))), .val (.int (p2 &&& (3 : Int32))), .unset, .unset, .unset, .unset, .unset] [(.int (p0 &&& (2147483647 : Int32)))])) _
        refine XS.iconst X0.here hx rfl (hb hby at_28) ?_
        show Steps p.tables e below (s₁.setTop (mkF m 29 #[.val (.int p0), .val (.int p1), .val (.int p2), .val (.int (p0 &&& (2147483647 : Int32))), .val (.int (p2 &&& (3 : Int32))), .unset, .unset, .unset, .unset, .unset] [(.int (1 : Int32)), (.int (p0 &&& (2147483647 : Int32)))])) _
        refine XS.isub X0.here hx rfl (hb hby at_29) rfl ?_
        show Steps p.tables e below (s₁.setTop (mkF m 30 #[.val (.int p0), .val (.int p1), .val (.int p2), .val (.int (p0 &&& (2147483647 : Int32))), .val (.int (p2 &&& (3 : Int32))), .unset, .unset, .unset, .unset, .unset] [(.int ((p0 &&& (2147483647 : Int32)) - (1 : Int32)))])) _
        refine XS.istore X0.here hx rfl (hb hby at_30) rfl (l' := #[.val (.int p0), .val (.int p1), .val (.int p2), .val (.int (p0 &&& (2147483647 : Int32))), .val (.int (p2 &&& (3 : Int32))), .val (.int ((p0 &&& (2147483647 : Int32)) - (1 : Int32))), .unset, .unset, .unset, .unset]) rfl ?_
        show Steps p.tables e below (s₁.setTop (mkF m 32 #[.val (.int p0), .val (.int p1), .val (.int p2), .val (.int (p0 &&& (2147483647 : Int32))), .val (.int (p2 &&& (3 : Int32))), .val (.int ((p0 &&& (2147483647 : Int32)) - (1 : Int32))), .unset, .unset, .unset, .unset] [])) _
        refine XS.goto X0.here hx rfl (pc0 := 32) (pc' := 59) rfl (hb hby at_32) (by decide) (by decide) ?_
        show Steps p.tables e below (s₁.setTop (mkF m 59 #[.val (.int p0), .val (.int p1), .val (.int p2), .val (.int (p0 &&& (2147483647 : Int32))), .val (.int (p2 &&& (3 : Int32))), .val (.int ((p0 &&& (2147483647 : Int32)) - (1 : Int32))), .unset, .unset, .unset, .unset] [])) _
        refine XS.iload X0.here hx rfl (hb hby at_59) rfl ?_
        show Steps p.tables e below (s₁.setTop (mkF m 61 #[.val (.int p0), .val (.int p1), .val (.int p2), .val (.int (p0 &&& (2147483647 : Int32))), .val (.int (p2 &&& (3 : Int32))), .val (.int ((p0 &&& (2147483647 : Int32)) - (1 : Int32))), .unset, .unset, .unset, .unset] [(.int ((p0 &&& (2147483647 : Int32)) - (1 : Int32)))])) _
        refine XS.iloadN X0.here hx rfl (hb hby at_61) rfl ?_
        show Steps p.tables e below (s₁.setTop (mkF m 62 #[.val (.int p0), .val (.int p1), .val (.int p2), .val (.int (p0 &&& (2147483647 : Int32))), .val (.int (p2 &&& (3 : Int32))), .val (.int ((p0 &&& (2147483647 : Int32)) - (1 : Int32))), .unset, .unset, .unset, .unset] [(.int (p0 &&& (2147483647 : Int32))), (.int ((p0 &&& (2147483647 : Int32)) - (1 : Int32)))])) _
        refine st12 _ ?_
        show Steps p.tables e below (T12.setTop (mkF m 65 #[.val (.int p0), .val (.int p1), .val (.int p2), .val (.int (p0 &&& (2147483647 : Int32))), .val (.int (p2 &&& (3 : Int32))), .val (.int ((p0 &&& (2147483647 : Int32)) - (1 : Int32))), .unset, .unset, .unset, .unset] [])) _
        refine XS.iconst X12.here hx rfl (hb hby at_65) ?_
        exact h
      obtain ⟨fs, hr, hrun, hended, hW, hsame⟩ := X12.leave (v := some (.int (1 : Int32))) (fun h => by rw [Bd.returns] at h; cases h)
      refine ⟨_, _, pre0 _ (k13 _ ?_), hrun, hended, _, _, rfl, ?_, ⟨_, rfl⟩, hW, hsame.mono (by decide) (by decide)⟩
      · exact retN X12 hx (t := .boolean) Bd.returns (by simp) (hb hby at_66) hr
      · show Q_rm0 Z _ _ _ h0 n0 _ T12.heap _
        rw [eq12]
        exact ⟨rfl, N12⟩
    · skip
      obtain ⟨_, _, ⟨T14, L14, k14, n14⟩, -, X14, ⟨Lc14, hQ14, l14, y14, z14⟩, st14⟩ := Jvm.LawKit.callS X0 hx (y := (⟨"com/example/lats/lats/benchmarks/TokenLibrary", "requireAlteredToken", "(II)V"⟩ : MethodName)) hown (mvT hZ (hw _ (List.mem_of_getElem? (i := 2) rfl))) (mvT hZ (hw _ (List.mem_of_getElem? (i := 3) rfl))) (mvT hZ (hw _ (List.mem_of_getElem? (i := 4) rfl))) (mvT hZ (hw _ (List.mem_of_getElem? (i := 5) rfl))) (by decide) (backOf (W := 0) (rm1 l Z a0 hw [] (((((p1.toInt64) &&& (4294967295 : Int64)) - ((p1.toInt64) &&& (4294967295 : Int64)) / (((p0 &&& (2147483647 : Int32)).toInt64) + (1 : Int64)) * (((p0 &&& (2147483647 : Int32)).toInt64) + (1 : Int64))) - (1 : Int64)).toInt32) (p0 &&& (2147483647 : Int32))  h0 n0 Z0 (own_C (p0 &&& 2147483647) p1 (own_tok p0)).1 (own_C (p0 &&& 2147483647) p1 (own_tok p0)).2) hZ (hw _ (List.mem_of_getElem? (i := 5) rfl)) (hw _ (List.mem_of_getElem? (i := 4) rfl)) (by decide) (by decide)) (g := (mkF m 62 #[.val (.int p0), .val (.int p1), .val (.int p2), .val (.int (p0 &&& (2147483647 : Int32))), .val (.int (p2 &&& (3 : Int32))), .val (.int (((((p1.toInt64) &&& (4294967295 : Int64)) - ((p1.toInt64) &&& (4294967295 : Int64)) / (((p0 &&& (2147483647 : Int32)).toInt64) + (1 : Int64)) * (((p0 &&& (2147483647 : Int32)).toInt64) + (1 : Int64))) - (1 : Int64)).toInt32)), .val (.long (((p0 &&& (2147483647 : Int32)).toInt64) + (1 : Int64))), .second, .val (.long (((p1.toInt64) &&& (4294967295 : Int64)) - ((p1.toInt64) &&& (4294967295 : Int64)) / (((p0 &&& (2147483647 : Int32)).toInt64) + (1 : Int64)) * (((p0 &&& (2147483647 : Int32)).toInt64) + (1 : Int64)))), .second] [(.int (p0 &&& (2147483647 : Int32))), (.int (((((p1.toInt64) &&& (4294967295 : Int64)) - ((p1.toInt64) &&& (4294967295 : Int64)) / (((p0 &&& (2147483647 : Int32)).toInt64) + (1 : Int64)) * (((p0 &&& (2147483647 : Int32)).toInt64) + (1 : Int64))) - (1 : Int64)).toInt32))])) rfl (by rw [hml]; rfl) (argsL := [(.int (((((p1.toInt64) &&& (4294967295 : Int64)) - ((p1.toInt64) &&& (4294967295 : Int64)) / (((p0 &&& (2147483647 : Int32)).toInt64) + (1 : Int64)) * (((p0 &&& (2147483647 : Int32)).toInt64) + (1 : Int64))) - (1 : Int64)).toInt32)), (.int (p0 &&& (2147483647 : Int32)))]) (rest := []) (lenOf own_pd_0 rfl) rfl (by show 2 * 0 + _ ≤ _; exact Nat.le_of_eq rfl) (hb hby at_62) (fun _ _ => ⟨rfl, e0, (by decide : 0 + 0 ≤ _), (by decide : 0 + 0 ≤ _)⟩)
      dsimp only [Pt.U, Pt.locs, Pt.cells, Pt.slots] at X14 l14 y14 z14 st14 hQ14
      subst l14 y14 z14
      obtain ⟨rfl, Nq14, eq14⟩ := hQ14
      have N14 := Fr.app N0 Nq14
      have k15 : ∀ t, Steps p.tables e below (T14.setTop (mkF m 66 #[.val (.int p0), .val (.int p1), .val (.int p2), .val (.int (p0 &&& (2147483647 : Int32))), .val (.int (p2 &&& (3 : Int32))), .val (.int (((((p1.toInt64) &&& (4294967295 : Int64)) - ((p1.toInt64) &&& (4294967295 : Int64)) / (((p0 &&& (2147483647 : Int32)).toInt64) + (1 : Int64)) * (((p0 &&& (2147483647 : Int32)).toInt64) + (1 : Int64))) - (1 : Int64)).toInt32)), .val (.long (((p0 &&& (2147483647 : Int32)).toInt64) + (1 : Int64))), .second, .val (.long (((p1.toInt64) &&& (4294967295 : Int64)) - ((p1.toInt64) &&& (4294967295 : Int64)) / (((p0 &&& (2147483647 : Int32)).toInt64) + (1 : Int64)) * (((p0 &&& (2147483647 : Int32)).toInt64) + (1 : Int64)))), .second] [(.int (1 : Int32))])) t → Steps p.tables e below (s₁.setTop (mkF m 0 #[.val (.int p0), .val (.int p1), .val (.int p2), .unset, .unset, .unset, .unset, .unset, .unset, .unset] [])) t := by
        intro t h
        refine k10 t ?_
        show Steps p.tables e below (s₁.setTop (mkF m 24 #[.val (.int p0), .val (.int p1), .val (.int p2), .val (.int (p0 &&& (2147483647 : Int32))), .val (.int (p2 &&& (3 : Int32))), .unset, .unset, .unset, .unset, .unset] [(.int (1 : Int32)), (.int (p2 &&& (3 : Int32)))])) _
        refine XS.icmpYes X0.here hx rfl (pc0 := 24) (pc' := 35) rfl (hb hby at_24) rfl (feq c24_11).2 (by decide) (by decide) ?_
        show Steps p.tables e below (s₁.setTop (mkF m 35 #[.val (.int p0), .val (.int p1), .val (.int p2), .val (.int (p0 &&& (2147483647 : Int32))), .val (.int (p2 &&& (3 : Int32))), .unset, .unset, .unset, .unset, .unset] [])) _
        refine XS.iloadN X0.here hx rfl (hb hby at_35) rfl ?_
        show Steps p.tables e below (s₁.setTop (mkF m 36 #[.val (.int p0), .val (.int p1), .val (.int p2), .val (.int (p0 &&& (2147483647 : Int32))), .val (.int (p2 &&& (3 : Int32))), .unset, .unset, .unset, .unset, .unset] [(.int (p0 &&& (2147483647 : Int32)))])) _
        refine XS.i2l X0.here hx rfl (hb hby at_36) rfl ?_
        show Steps p.tables e below (s₁.setTop (mkF m 37 #[.val (.int p0), .val (.int p1), .val (.int p2), .val (.int (p0 &&& (2147483647 : Int32))), .val (.int (p2 &&& (3 : Int32))), .unset, .unset, .unset, .unset, .unset] [(.long ((p0 &&& (2147483647 : Int32)).toInt64))])) _
        refine XS.lconst X0.here hx rfl (hb hby at_37) ?_
        show Steps p.tables e below (s₁.setTop (mkF m 38 #[.val (.int p0), .val (.int p1), .val (.int p2), .val (.int (p0 &&& (2147483647 : Int32))), .val (.int (p2 &&& (3 : Int32))), .unset, .unset, .unset, .unset, .unset] [(.long (1 : Int64)), (.long ((p0 &&& (2147483647 : Int32)).toInt64))])) _
        refine XS.ladd X0.here hx rfl (hb hby at_38) rfl ?_
        show Steps p.tables e below (s₁.setTop (mkF m 39 #[.val (.int p0), .val (.int p1), .val (.int p2), .val (.int (p0 &&& (2147483647 : Int32))), .val (.int (p2 &&& (3 : Int32))), .unset, .unset, .unset, .unset, .unset] [(.long (((p0 &&& (2147483647 : Int32)).toInt64) + (1 : Int64)))])) _
        refine XS.lstore X0.here hx rfl (hb hby at_39) rfl (l' := #[.val (.int p0), .val (.int p1), .val (.int p2), .val (.int (p0 &&& (2147483647 : Int32))), .val (.int (p2 &&& (3 : Int32))), .unset, .val (.long (((p0 &&& (2147483647 : Int32)).toInt64) + (1 : Int64))), .second, .unset, .unset]) rfl ?_
        show Steps p.tables e below (s₁.setTop (mkF m 41 #[.val (.int p0), .val (.int p1), .val (.int p2), .val (.int (p0 &&& (2147483647 : Int32))), .val (.int (p2 &&& (3 : Int32))), .unset, .val (.long (((p0 &&& (2147483647 : Int32)).toInt64) + (1 : Int64))), .second, .unset, .unset] [])) _
        refine XS.iloadN X0.here hx rfl (hb hby at_41) rfl ?_
        show Steps p.tables e below (s₁.setTop (mkF m 42 #[.val (.int p0), .val (.int p1), .val (.int p2), .val (.int (p0 &&& (2147483647 : Int32))), .val (.int (p2 &&& (3 : Int32))), .unset, .val (.long (((p0 &&& (2147483647 : Int32)).toInt64) + (1 : Int64))), .second, .unset, .unset] [(.int p1)])) _
        refine XS.i2l X0.here hx rfl (hb hby at_42) rfl ?_
        show Steps p.tables e below (s₁.setTop (mkF m 43 #[.val (.int p0), .val (.int p1), .val (.int p2), .val (.int (p0 &&& (2147483647 : Int32))), .val (.int (p2 &&& (3 : Int32))), .unset, .val (.long (((p0 &&& (2147483647 : Int32)).toInt64) + (1 : Int64))), .second, .unset, .unset] [(.long (p1.toInt64))])) _
        refine X0.ldc2Long hx hown (mvT hZ (hw _ (List.mem_of_getElem? (i := 1) rfl))) (g := (mkF m 43 #[.val (.int p0), .val (.int p1), .val (.int p2), .val (.int (p0 &&& (2147483647 : Int32))), .val (.int (p2 &&& (3 : Int32))), .unset, .val (.long (((p0 &&& (2147483647 : Int32)).toInt64) + (1 : Int64))), .second, .unset, .unset] [(.long (p1.toInt64))])) rfl (hb hby at_43) _ ?_
        show Steps p.tables e below (s₁.setTop (mkF m 46 #[.val (.int p0), .val (.int p1), .val (.int p2), .val (.int (p0 &&& (2147483647 : Int32))), .val (.int (p2 &&& (3 : Int32))), .unset, .val (.long (((p0 &&& (2147483647 : Int32)).toInt64) + (1 : Int64))), .second, .unset, .unset] [(.long (4294967295 : Int64)), (.long (p1.toInt64))])) _
        refine XS.land X0.here hx rfl (hb hby at_46) rfl ?_
        show Steps p.tables e below (s₁.setTop (mkF m 47 #[.val (.int p0), .val (.int p1), .val (.int p2), .val (.int (p0 &&& (2147483647 : Int32))), .val (.int (p2 &&& (3 : Int32))), .unset, .val (.long (((p0 &&& (2147483647 : Int32)).toInt64) + (1 : Int64))), .second, .unset, .unset] [(.long ((p1.toInt64) &&& (4294967295 : Int64)))])) _
        refine XS.lload X0.here hx rfl (hb hby at_47) rfl ?_
        show Steps p.tables e below (s₁.setTop (mkF m 49 #[.val (.int p0), .val (.int p1), .val (.int p2), .val (.int (p0 &&& (2147483647 : Int32))), .val (.int (p2 &&& (3 : Int32))), .unset, .val (.long (((p0 &&& (2147483647 : Int32)).toInt64) + (1 : Int64))), .second, .unset, .unset] [(.long (((p0 &&& (2147483647 : Int32)).toInt64) + (1 : Int64))), (.long ((p1.toInt64) &&& (4294967295 : Int64)))])) _
        refine XS.lrem X0.here hx rfl (hb hby at_49) rfl (own_nz (p0 &&& 2147483647) (own_tok p0)) ?_
        show Steps p.tables e below (s₁.setTop (mkF m 50 #[.val (.int p0), .val (.int p1), .val (.int p2), .val (.int (p0 &&& (2147483647 : Int32))), .val (.int (p2 &&& (3 : Int32))), .unset, .val (.long (((p0 &&& (2147483647 : Int32)).toInt64) + (1 : Int64))), .second, .unset, .unset] [(.long (((p1.toInt64) &&& (4294967295 : Int64)) - ((p1.toInt64) &&& (4294967295 : Int64)) / (((p0 &&& (2147483647 : Int32)).toInt64) + (1 : Int64)) * (((p0 &&& (2147483647 : Int32)).toInt64) + (1 : Int64))))])) _
        refine XS.lstore X0.here hx rfl (hb hby at_50) rfl (l' := #[.val (.int p0), .val (.int p1), .val (.int p2), .val (.int (p0 &&& (2147483647 : Int32))), .val (.int (p2 &&& (3 : Int32))), .unset, .val (.long (((p0 &&& (2147483647 : Int32)).toInt64) + (1 : Int64))), .second, .val (.long (((p1.toInt64) &&& (4294967295 : Int64)) - ((p1.toInt64) &&& (4294967295 : Int64)) / (((p0 &&& (2147483647 : Int32)).toInt64) + (1 : Int64)) * (((p0 &&& (2147483647 : Int32)).toInt64) + (1 : Int64)))), .second]) rfl ?_
        show Steps p.tables e below (s₁.setTop (mkF m 52 #[.val (.int p0), .val (.int p1), .val (.int p2), .val (.int (p0 &&& (2147483647 : Int32))), .val (.int (p2 &&& (3 : Int32))), .unset, .val (.long (((p0 &&& (2147483647 : Int32)).toInt64) + (1 : Int64))), .second, .val (.long (((p1.toInt64) &&& (4294967295 : Int64)) - ((p1.toInt64) &&& (4294967295 : Int64)) / (((p0 &&& (2147483647 : Int32)).toInt64) + (1 : Int64)) * (((p0 &&& (2147483647 : Int32)).toInt64) + (1 : Int64)))), .second] [])) _
        refine XS.lload X0.here hx rfl (hb hby at_52) rfl ?_
        show Steps p.tables e below (s₁.setTop (mkF m 54 #[.val (.int p0), .val (.int p1), .val (.int p2), .val (.int (p0 &&& (2147483647 : Int32))), .val (.int (p2 &&& (3 : Int32))), .unset, .val (.long (((p0 &&& (2147483647 : Int32)).toInt64) + (1 : Int64))), .second, .val (.long (((p1.toInt64) &&& (4294967295 : Int64)) - ((p1.toInt64) &&& (4294967295 : Int64)) / (((p0 &&& (2147483647 : Int32)).toInt64) + (1 : Int64)) * (((p0 &&& (2147483647 : Int32)).toInt64) + (1 : Int64)))), .second] [(.long (((p1.toInt64) &&& (4294967295 : Int64)) - ((p1.toInt64) &&& (4294967295 : Int64)) / (((p0 &&& (2147483647 : Int32)).toInt64) + (1 : Int64)) * (((p0 &&& (2147483647 : Int32)).toInt64) + (1 : Int64))))])) _
        refine XS.lconst X0.here hx rfl (hb hby at_54) ?_
        show Steps p.tables e below (s₁.setTop (mkF m 55 #[.val (.int p0), .val (.int p1), .val (.int p2), .val (.int (p0 &&& (2147483647 : Int32))), .val (.int (p2 &&& (3 : Int32))), .unset, .val (.long (((p0 &&& (2147483647 : Int32)).toInt64) + (1 : Int64))), .second, .val (.long (((p1.toInt64) &&& (4294967295 : Int64)) - ((p1.toInt64) &&& (4294967295 : Int64)) / (((p0 &&& (2147483647 : Int32)).toInt64) + (1 : Int64)) * (((p0 &&& (2147483647 : Int32)).toInt64) + (1 : Int64)))), .second] [(.long (1 : Int64)), (.long (((p1.toInt64) &&& (4294967295 : Int64)) - ((p1.toInt64) &&& (4294967295 : Int64)) / (((p0 &&& (2147483647 : Int32)).toInt64) + (1 : Int64)) * (((p0 &&& (2147483647 : Int32)).toInt64) + (1 : Int64))))])) _
        refine XS.lsub X0.here hx rfl (hb hby at_55) rfl ?_
        show Steps p.tables e below (s₁.setTop (mkF m 56 #[.val (.int p0), .val (.int p1), .val (.int p2), .val (.int (p0 &&& (2147483647 : Int32))), .val (.int (p2 &&& (3 : Int32))), .unset, .val (.long (((p0 &&& (2147483647 : Int32)).toInt64) + (1 : Int64))), .second, .val (.long (((p1.toInt64) &&& (4294967295 : Int64)) - ((p1.toInt64) &&& (4294967295 : Int64)) / (((p0 &&& (2147483647 : Int32)).toInt64) + (1 : Int64)) * (((p0 &&& (2147483647 : Int32)).toInt64) + (1 : Int64)))), .second] [(.long ((((p1.toInt64) &&& (4294967295 : Int64)) - ((p1.toInt64) &&& (4294967295 : Int64)) / (((p0 &&& (2147483647 : Int32)).toInt64) + (1 : Int64)) * (((p0 &&& (2147483647 : Int32)).toInt64) + (1 : Int64))) - (1 : Int64)))])) _
        refine XS.l2i X0.here hx rfl (hb hby at_56) rfl ?_
        show Steps p.tables e below (s₁.setTop (mkF m 57 #[.val (.int p0), .val (.int p1), .val (.int p2), .val (.int (p0 &&& (2147483647 : Int32))), .val (.int (p2 &&& (3 : Int32))), .unset, .val (.long (((p0 &&& (2147483647 : Int32)).toInt64) + (1 : Int64))), .second, .val (.long (((p1.toInt64) &&& (4294967295 : Int64)) - ((p1.toInt64) &&& (4294967295 : Int64)) / (((p0 &&& (2147483647 : Int32)).toInt64) + (1 : Int64)) * (((p0 &&& (2147483647 : Int32)).toInt64) + (1 : Int64)))), .second] [(.int (((((p1.toInt64) &&& (4294967295 : Int64)) - ((p1.toInt64) &&& (4294967295 : Int64)) / (((p0 &&& (2147483647 : Int32)).toInt64) + (1 : Int64)) * (((p0 &&& (2147483647 : Int32)).toInt64) + (1 : Int64))) - (1 : Int64)).toInt32))])) _
        refine XS.istore X0.here hx rfl (hb hby at_57) rfl (l' := #[.val (.int p0), .val (.int p1), .val (.int p2), .val (.int (p0 &&& (2147483647 : Int32))), .val (.int (p2 &&& (3 : Int32))), .val (.int (((((p1.toInt64) &&& (4294967295 : Int64)) - ((p1.toInt64) &&& (4294967295 : Int64)) / (((p0 &&& (2147483647 : Int32)).toInt64) + (1 : Int64)) * (((p0 &&& (2147483647 : Int32)).toInt64) + (1 : Int64))) - (1 : Int64)).toInt32)), .val (.long (((p0 &&& (2147483647 : Int32)).toInt64) + (1 : Int64))), .second, .val (.long (((p1.toInt64) &&& (4294967295 : Int64)) - ((p1.toInt64) &&& (4294967295 : Int64)) / (((p0 &&& (2147483647 : Int32)).toInt64) + (1 : Int64)) * (((p0 &&& (2147483647 : Int32)).toInt64) + (1 : Int64)))), .second]) rfl ?_
        show Steps p.tables e below (s₁.setTop (mkF m 59 #[.val (.int p0), .val (.int p1), .val (.int p2), .val (.int (p0 &&& (2147483647 : Int32))), .val (.int (p2 &&& (3 : Int32))), .val (.int (((((p1.toInt64) &&& (4294967295 : Int64)) - ((p1.toInt64) &&& (4294967295 : Int64)) / (((p0 &&& (2147483647 : Int32)).toInt64) + (1 : Int64)) * (((p0 &&& (2147483647 : Int32)).toInt64) + (1 : Int64))) - (1 : Int64)).toInt32)), .val (.long (((p0 &&& (2147483647 : Int32)).toInt64) + (1 : Int64))), .second, .val (.long (((p1.toInt64) &&& (4294967295 : Int64)) - ((p1.toInt64) &&& (4294967295 : Int64)) / (((p0 &&& (2147483647 : Int32)).toInt64) + (1 : Int64)) * (((p0 &&& (2147483647 : Int32)).toInt64) + (1 : Int64)))), .second] [])) _
        refine XS.iload X0.here hx rfl (hb hby at_59) rfl ?_
        show Steps p.tables e below (s₁.setTop (mkF m 61 #[.val (.int p0), .val (.int p1), .val (.int p2), .val (.int (p0 &&& (2147483647 : Int32))), .val (.int (p2 &&& (3 : Int32))), .val (.int (((((p1.toInt64) &&& (4294967295 : Int64)) - ((p1.toInt64) &&& (4294967295 : Int64)) / (((p0 &&& (2147483647 : Int32)).toInt64) + (1 : Int64)) * (((p0 &&& (2147483647 : Int32)).toInt64) + (1 : Int64))) - (1 : Int64)).toInt32)), .val (.long (((p0 &&& (2147483647 : Int32)).toInt64) + (1 : Int64))), .second, .val (.long (((p1.toInt64) &&& (4294967295 : Int64)) - ((p1.toInt64) &&& (4294967295 : Int64)) / (((p0 &&& (2147483647 : Int32)).toInt64) + (1 : Int64)) * (((p0 &&& (2147483647 : Int32)).toInt64) + (1 : Int64)))), .second] [(.int (((((p1.toInt64) &&& (4294967295 : Int64)) - ((p1.toInt64) &&& (4294967295 : Int64)) / (((p0 &&& (2147483647 : Int32)).toInt64) + (1 : Int64)) * (((p0 &&& (2147483647 : Int32)).toInt64) + (1 : Int64))) - (1 : Int64)).toInt32))])) _
        refine XS.iloadN X0.here hx rfl (hb hby at_61) rfl ?_
        show Steps p.tables e below (s₁.setTop (mkF m 62 #[.val (.int p0), .val (.int p1), .val (.int p2), .val (.int (p0 &&& (2147483647 : Int32))), .val (.int (p2 &&& (3 : Int32))), .val (.int (((((p1.toInt64) &&& (4294967295 : Int64)) - ((p1.toInt64) &&& (4294967295 : Int64)) / (((p0 &&& (2147483647 : Int32)).toInt64) + (1 : Int64)) * (((p0 &&& (2147483647 : Int32)).toInt64) + (1 : Int64))) - (1 : Int64)).toInt32)), .val (.long (((p0 &&& (2147483647 : Int32)).toInt64) + (1 : Int64))), .second, .val (.long (((p1.toInt64) &&& (4294967295 : Int64)) - ((p1.toInt64) &&& (4294967295 : Int64)) / (((p0 &&& (2147483647 : Int32)).toInt64) + (1 : Int64)) * (((p0 &&& (2147483647 : Int32)).toInt64) + (1 : Int64)))), .second] [(.int (p0 &&& (2147483647 : Int32))), (.int (((((p1.toInt64) &&& (4294967295 : Int64)) - ((p1.toInt64) &&& (4294967295 : Int64)) / (((p0 &&& (2147483647 : Int32)).toInt64) + (1 : Int64)) * (((p0 &&& (2147483647 : Int32)).toInt64) + (1 : Int64))) - (1 : Int64)).toInt32))])) _
        refine st14 _ ?_
        show Steps p.tables e below (T14.setTop (mkF m 65 #[.val (.int p0), .val (.int p1), .val (.int p2), .val (.int (p0 &&& (2147483647 : Int32))), .val (.int (p2 &&& (3 : Int32))), .val (.int (((((p1.toInt64) &&& (4294967295 : Int64)) - ((p1.toInt64) &&& (4294967295 : Int64)) / (((p0 &&& (2147483647 : Int32)).toInt64) + (1 : Int64)) * (((p0 &&& (2147483647 : Int32)).toInt64) + (1 : Int64))) - (1 : Int64)).toInt32)), .val (.long (((p0 &&& (2147483647 : Int32)).toInt64) + (1 : Int64))), .second, .val (.long (((p1.toInt64) &&& (4294967295 : Int64)) - ((p1.toInt64) &&& (4294967295 : Int64)) / (((p0 &&& (2147483647 : Int32)).toInt64) + (1 : Int64)) * (((p0 &&& (2147483647 : Int32)).toInt64) + (1 : Int64)))), .second] [])) _
        refine XS.iconst X14.here hx rfl (hb hby at_65) ?_
        exact h
      obtain ⟨fs, hr, hrun, hended, hW, hsame⟩ := X14.leave (v := some (.int (1 : Int32))) (fun h => by rw [Bd.returns] at h; cases h)
      refine ⟨_, _, pre0 _ (k15 _ ?_), hrun, hended, _, _, rfl, ?_, ⟨_, rfl⟩, hW, hsame.mono (by decide) (by decide)⟩
      · exact retN X14 hx (t := .boolean) Bd.returns (by simp) (hb hby at_66) hr
      · show Q_rm0 Z _ _ _ h0 n0 _ T14.heap _
        rw [eq14]
        exact ⟨rfl, N14⟩
set_option maxRecDepth 65536 in
set_option maxHeartbeats 40000000 in
theorem comes_1 {Post : Tables → Env → Array Value → State → Outcome → State → Prop} (hpost : ∀ tb e args s v u, (limb_1_1.after args s (.returned v) u = true ∧ limb_1_2.after args s (.returned v) u = true ∧ True) → FrameEnd s (.returned v) u (Jvm.fieldLocs frame_1_writes args s ++ Jvm.arrayLocs frame_1_arrays args s ++ Jvm.staticLocs frame_1_statics s) 0 0 → Post tb e args s (.returned v) u) :
    ArmFor flags0 classFile x code maxLocals ret World_1 tables_1 room_1 Calls_1 rest_1 Pre_1 Post := by
  intro l hfl _ _ p e ha hc hk s m args below hf hA hF happ hP
  obtain ⟨hcalls, hrest, hpre⟩ := hP
  obtain ⟨-, -, -, hnamed, -, -, -, hat⟩ := (Spec.applies_iff hf).mp happ
  obtain ⟨hg, hn⟩ := and_e (Cond.before_iff.mp (show (Jvm.Cond.and given_1 narrow_1).before args s = true from hpre))
  obtain ⟨g1, g2⟩ := and_e hg
  obtain ⟨g3, g4⟩ := and_e g2
  obtain ⟨g5, g6⟩ := and_e g4
  obtain ⟨w0, w1, w2, rfl⟩ : ∃ w0 w1 w2 : Value, args = #[w0, w1, w2] := by
    have hs : args.size = 3 := by simpa [Cond.value, given_1] using g1
    obtain ⟨L⟩ := args
    match L, hs with
    | [w0, w1, w2], _ => exact ⟨w0, w1, w2, rfl⟩
  have hw := fun d (hd : d ∈ tables_1) => atoms_spec (ws := Jvm.Cond.code x code maxLocals ret :: tables_1) hat d (List.mem_cons_of_mem _ hd)
  have hfit : Fit s := fun {y c} hc i hi => by
    obtain ⟨ha, rfl⟩ := Array.getElem?_eq_some_iff.mp hc
    have q := List.all_eq_true.mp ((Array.all_eq_true_iff_forall_mem.mp hF) _ (Array.getElem_mem ha)) i (List.mem_range.mpr hi)
    simpa [Array.getElem?_eq_getElem hi] using q
  obtain ⟨i0, ei0⟩ := is_v g3
  obtain rfl : w0 = (.int i0) := Option.some.inj ei0
  obtain ⟨i1, ei1⟩ := is_v g5
  obtain rfl : w1 = (.int i1) := Option.some.inj ei1
  obtain ⟨i2, ei2⟩ := is_v g6
  obtain rfl : w2 = (.int i2) := Option.some.inj ei2
  obtain ⟨n, o, h1, h2, h3, _, L, rfl, ⟨rfl, N⟩, hq⟩ := rm0 l s _ hw tables_1 i0 i1 i2  s.heap s.heap.size (Nat.le_refl _)  p e ha hc hk s m _ below hf ((Spec.applies_iff_loose hf).mp happ).1 ⟨rfl, State.Warmed39.refl s, rfl⟩ trivial
  refine ⟨n, _, h1, h2, h3, hpost _ _ _ _ _ _ ⟨Cond.after_iff.mpr rfl, Cond.after_iff.mpr (eq_i res_at (Term.int_eval (1)) rfl), trivial⟩ ⟨hq.1, hq.2.1, (hq.2.2.sift fun y hy => Or.inr (N y hy)).mono (by decide) (by decide)⟩⟩
theorem main_1_1 : Claimed_1_1 := comes_1 fun _ _ _ _ _ _ h hF => ⟨h.1, hF⟩
theorem main_1_2 : Claimed_1_2 := comes_1 fun _ _ _ _ _ _ h hF => ⟨h.2.1, hF⟩
end Jvm.Pilot.@@N@@
namespace Jvm.Pilot.@@N@@
open Jvm Jvm.ClassFile Sem Op Lib Jvm.Free Jvm.Stand Jvm.Pilot.@@N@@.Jvm.D
/-! MADE BY PROGRAM (witnessworld.py) out of the Statement's table words and the real class files: 9 classes; the members and pool entries that the words name. The judged class is class 1, her method 1. -/
namespace start1
open Jvm.ClassFile
def u (s : String) : CpInfo := .utf8 (stringToUtf16 s)
/-- a pool by its gaps: so many unusable entries, then the entry; so many at the end -/
def gap : Nat → List CpInfo → List CpInfo
  | 0, r => r
  | n + 1, r => .unusable :: gap n r
def poolList (es : List (Nat × CpInfo)) (last : Nat) : List CpInfo := es.foldr (fun e r => gap e.1 (e.2 :: r)) (gap last [])
def pool (es : List (Nat × CpInfo)) (last : Nat) : Array CpInfo := ⟨poolList es last⟩
def fileOf (pool : Array CpInfo) (this : Nat) (attrs : Array Attribute := #[]) (ms : Array MethodInfo := #[]) (fl : Nat := 33) (sup : Nat := 0) (ifs : Array Nat := #[]) (fds : Array FieldInfo := #[]) : ClassFile where
  minorVersion := 0
  majorVersion := 65
  constantPool := pool
  accessFlags := fl
  thisClass := this
  superClass := sup
  interfaces := ifs
  fields := fds
  methods := ms
  attributes := attrs
def plain (name : String) (sup : Option ClassId) : Class where
  name := name
  kind := .ordinary
  loader := none
  accessFlags := 33
  super := sup
  interfaces := #[]
  cf := none
  fields := #[]
  methods := #[]
  instanceTypes := #[]
  staticTypes := #[]
  resolved := #[]
  callSites := []
  init := .initialized
  statics := none
  mirror := none

def pool0 : Array CpInfo := pool [(5, u "<init>"), (0, u "()V"), (1, .class_ 10), (1, u "java/lang/Object")] 113

def k0m0 : Method := { name := "<init>", desc := "()V", sig := { parameters := [], returnType := none }, accessFlags := 1, code := none }
/-- java/lang/Object -/
def k0 : Class := { plain "java/lang/Object" none with
  accessFlags := 33
  interfaces := #[]
  cf := some (fileOf pool0 8 #[] #[{ accessFlags := 1, nameIndex := 5, descriptorIndex := 6, attributes := #[] }] 33 0 #[] #[])
  fields := #[]
  methods := #[k0m0]
  instanceTypes := #[]
  staticTypes := #[]
  resolved := Array.replicate 124 none
  statics := none }

def pool1 : Array CpInfo := pool [(2, .class_ 4), (1, u "java/lang/Object"), (0, u "<init>"), (0, u "()V"), (0, .integer 2147483647), (0, .long 4294967295), (1, .methodref 11 12), (0, .class_ 13), (0, .nameAndType 14 15), (0, u "com/example/lats/lats/benchmarks/TokenLibrary"), (0, u "requireAlteredToken"), (0, u "(II)V"), (0, .class_ 17), (0, u "com/example/lats/lats/benchmarks/TokenLibraryRequireAlteredTokenPinLaw"), (2, u "law"), (0, u "(III)Z")] 3

def k1m0 : Method := { name := "<init>", desc := "()V", sig := { parameters := [], returnType := none }, accessFlags := 1, code := none }
def k1c1 : Code := { maxStack := 4, maxLocals := 10, code := code, exceptionTable := #[], attributes := #[] }
def k1m1 : Method := { name := "law", desc := "(III)Z", sig := { parameters := [.int, .int, .int], returnType := some .boolean }, accessFlags := 9, code := some k1c1 }
/-- com/example/lats/lats/benchmarks/TokenLibraryRequireAlteredTokenPinLaw -/
def k1 : Class := { plain "com/example/lats/lats/benchmarks/TokenLibraryRequireAlteredTokenPinLaw" (some 0) with
  accessFlags := 49
  interfaces := #[]
  cf := some (fileOf pool1 16 #[] #[{ accessFlags := 1, nameIndex := 5, descriptorIndex := 6, attributes := #[] }, { accessFlags := 9, nameIndex := 20, descriptorIndex := 21, attributes := #[] }] 49 2 #[] #[])
  fields := #[]
  methods := #[k1m0, k1m1]
  instanceTypes := #[]
  staticTypes := #[]
  resolved := Array.replicate 25 none
  statics := none }

def pool2 : Array CpInfo := pool [(2, .class_ 4), (1, u "java/lang/Object"), (0, u "<init>"), (0, u "()V"), (10, .class_ 19), (1, u "com/example/lats/lats/benchmarks/TokenLibrary$Checker"), (13, u "Ljava/time/Duration;"), (1, .class_ 37), (1, u "com/example/lats/lats/benchmarks/TokenLibrary"), (0, u "LIFETIME"), (0, u "OWNER"), (0, u "Ljava/lang/String;"), (9, u "requireAlteredToken"), (0, u "(II)V")] 27

def k2m0 : Method := { name := "<init>", desc := "()V", sig := { parameters := [], returnType := none }, accessFlags := 0, code := none }
def k2c1 : Code := { maxStack := 4, maxLocals := 2, code := prog_1_method_4_code, exceptionTable := #[], attributes := #[] }
def k2m1 : Method := { name := "requireAlteredToken", desc := "(II)V", sig := { parameters := [.int, .int], returnType := none }, accessFlags := 8, code := some k2c1 }
/-- com/example/lats/lats/benchmarks/TokenLibrary -/
def k2 : Class := { plain "com/example/lats/lats/benchmarks/TokenLibrary" (some 0) with
  accessFlags := 1056
  interfaces := #[]
  cf := some (fileOf pool2 35 #[.nestMembers #[17]] #[{ accessFlags := 0, nameIndex := 5, descriptorIndex := 6, attributes := #[] }, { accessFlags := 8, nameIndex := 50, descriptorIndex := 51, attributes := #[] }] 1056 2 #[] #[{ accessFlags := 24, nameIndex := 39, descriptorIndex := 40, attributes := #[] }, { accessFlags := 24, nameIndex := 38, descriptorIndex := 33, attributes := #[] }])
  fields := #[{ name := "OWNER", type := (.object "java/lang/String"), accessFlags := 24, slot := 0, constantValue := 0 }, { name := "LIFETIME", type := (.object "java/time/Duration"), accessFlags := 24, slot := 1, constantValue := 0 }]
  methods := #[k2m0, k2m1]
  instanceTypes := #[]
  staticTypes := #[(.object "java/lang/String"), (.object "java/time/Duration")]
  resolved := Array.replicate 79 none
  statics := none }

def pool3 : Array CpInfo := pool [(1, u "java/lang/Cloneable"), (0, .class_ 1), (0, u "java/lang/Object"), (0, .class_ 3)] 3

/-- java/lang/Cloneable -/
def k3 : Class := { plain "java/lang/Cloneable" (some 0) with
  accessFlags := 1537
  interfaces := #[]
  cf := some (fileOf pool3 2 #[] #[] 1537 4 #[] #[])
  fields := #[]
  methods := #[]
  instanceTypes := #[]
  staticTypes := #[]
  resolved := Array.replicate 8 none
  statics := none }

def pool4 : Array CpInfo := pool [(1, u "java/io/Serializable"), (0, .class_ 1), (0, u "java/lang/Object"), (0, .class_ 3)] 3

/-- java/io/Serializable -/
def k4 : Class := { plain "java/io/Serializable" (some 0) with
  accessFlags := 1537
  interfaces := #[]
  cf := some (fileOf pool4 2 #[] #[] 1537 4 #[] #[])
  fields := #[]
  methods := #[]
  instanceTypes := #[]
  staticTypes := #[]
  resolved := Array.replicate 8 none
  statics := none }

/-- the primitive byte -/
def k5 : Class := { plain "byte" none with kind := .primitive 'B', accessFlags := 0x411 }
/-- [B -/
def k6 : Class := { plain "[B" (some 0) with kind := .array 5 .byte, interfaces := #[3, 4], accessFlags := 1041 }

/-- the primitive int -/
def k7 : Class := { plain "int" none with kind := .primitive 'I', accessFlags := 0x411 }
/-- [I -/
def k8 : Class := { plain "[I" (some 0) with kind := .array 7 .int, interfaces := #[3, 4], accessFlags := 1041 }

def heap : Heap := #[]
def classes : Array Class := #[k0, k1, k2, k3, k4, k5, k6, k7, k8]
def interned : List (Array UInt16 × Addr) := []
def slotsUsed : Nat := 0
def theMethod : MethodId := ⟨1, 1⟩
def args0 : Array Value := #[.int 5, .int 7, .int 2]
def aboutOver (below : List Frame) : State where
  vm := { classes := classes, interned := interned.toArray }
  heap := heap
  slotsUsed := slotsUsed
  threads := #[{ frames := .invoking theMethod args0 :: below }]
def below0 : List Frame := [.native { method := ⟨0, 0⟩, args := #[] }]
def about1 : State := aboutOver below0
def p0 : Program := .bare "" "" ""
def e0 : Env := launch0.env 0 0 0
theorem w_frames : about1.frames = Frame.invoking theMethod args0 :: below0 := rfl
set_option maxRecDepth 65536 in
theorem w_args : argsFit about1.vm theMethod args0 = true := by decide +kernel
set_option maxRecDepth 65536 in
theorem w_heap : heapFits about1 = true := by decide +kernel
set_option maxRecDepth 65536 in
theorem w_runnable : about1.curStatus? = some .runnable := by decide +kernel
set_option maxRecDepth 65536 in
theorem w_alone : about1.alone = true := by decide +kernel
set_option maxRecDepth 65536 in
theorem w_named : about1.methodNamed? x = some theMethod := by decide +kernel
set_option maxRecDepth 65536 in
theorem w_hears : about1.hears theMethod below0 = true := by decide +kernel
set_option maxRecDepth 65536 in
theorem w_ripe : about1.ripe theMethod args0 below0 = true := by decide +kernel
theorem w_running : about1.status = .running := rfl
set_option maxRecDepth 65536 in
theorem w_room : about1.hasRoom e0.platform room_1 = true :=
  launch0.hasRoom_least _ room_1 (by decide +kernel) (by decide +kernel) (by decide +kernel) (by decide +kernel) (by decide +kernel) (by decide +kernel)
theorem allAtoms_all (ts : List Jvm.Cond) (a : Array Jvm.Value) (st : Jvm.State) : (allAtoms ts).before a st = ts.all (fun c => c.before a st) := by
  induction ts with
  | nil => rfl
  | cons c t ih =>
    show (Jvm.Cond.and c (allAtoms t)).before a st = _
    rw [Jvm.Cond.before_and, ih, List.all_cons]
def words1 : List Jvm.Cond := Jvm.Cond.code x code maxLocals ret :: tables_1
/-- a 'code' word, met by the world's own term for the bytes: nothing is compared byte by byte -/
theorem code_word {y : MethodName} {bytes : ByteArray} {mx : Nat} {rt : Option FieldType} {a : Array Value} {s : State} {m : MethodId} {meth : Method} {c : Code} (h1 : s.methodNamed? y = some m) (h2 : s.vm.method? m = some meth) (h3 : meth.code = some c) (h4 : c.code = bytes)
    (h5 : (c.maxLocals == mx && c.exceptionTable.isEmpty && decide (c.maxStack ≤ mostOperands) && decide (meth.sig.returnType = rt) && !meth.locks && decide (parseMethodDescriptor y.desc = some meth.sig)) = true) : (Jvm.Cond.code y bytes mx rt).before a s = true := by
  simp only [Bool.and_eq_true, beq_iff_eq, Bool.not_eq_true', decide_eq_true_eq] at h5
  obtain ⟨⟨⟨⟨⟨g1, g2⟩, g3⟩, g4⟩, g5⟩, g6⟩ := h5
  simp [Cond.before, Cond.holds, Cond.value, h1, h2, h3, h4, g1, g2, g3, g4, g5, g6]
def isCode : Jvm.Cond → Bool
  | .code _ _ _ _ => true
  | _ => false
theorem all_split {L : List Jvm.Cond} {P : Jvm.Cond → Bool} (h1 : L.all (fun c => isCode c || P c) = true) (h2 : ∀ c ∈ L.filter isCode, P c = true) : L.all P = true := by
  refine List.all_eq_true.mpr fun c hc => ?_
  have h := List.all_eq_true.mp h1 c hc
  rcases Bool.eq_false_or_eq_true (isCode c) with hi | hi
  · exact h2 c (List.mem_filter.mpr ⟨hc, hi⟩)
  · simpa [hi] using h
set_option maxRecDepth 65536 in
theorem w_c0 : (Jvm.Cond.code x code maxLocals ret).before args0 about1 = true := code_word (m := ⟨1, 1⟩) (meth := k1m1) (c := k1c1) (by decide +kernel) rfl rfl rfl (by decide +kernel)
set_option maxRecDepth 65536 in
theorem w_c1 : (Jvm.Cond.code ({ cls := "com/example/lats/lats/benchmarks/TokenLibrary", name := "requireAlteredToken", desc := "(II)V" } : Jvm.MethodName) prog_1_method_4_code (2 : Nat) (Option.none : Option Jvm.ClassFile.FieldType)).before args0 about1 = true := code_word (m := ⟨2, 1⟩) (meth := k2m1) (c := k2c1) (by decide +kernel) rfl rfl rfl (by decide +kernel)
def codes1 : List Jvm.Cond := [Jvm.Cond.code x code maxLocals ret, Jvm.Cond.code ({ cls := "com/example/lats/lats/benchmarks/TokenLibrary", name := "requireAlteredToken", desc := "(II)V" } : Jvm.MethodName) prog_1_method_4_code (2 : Nat) (Option.none : Option Jvm.ClassFile.FieldType)]
set_option maxRecDepth 65536 in
theorem codes_eq : words1.filter isCode = codes1 := rfl
theorem w_codes : ∀ c ∈ words1.filter isCode, c.before args0 about1 = true := by
  rw [codes_eq]
  intro c hc
  simp only [codes1, List.mem_cons, List.not_mem_nil, or_false] at hc
  rcases hc with rfl | rfl
  · exact w_c0
  · exact w_c1
set_option maxRecDepth 65536 in
theorem w_t1 : words1.all (fun c => isCode c || c.before args0 about1) = true := by decide +kernel
theorem w_tables : (allAtoms (Jvm.Cond.code x code maxLocals ret :: tables_1)).before args0 about1 = true := by
  rw [allAtoms_all]
  show words1.all (fun c => c.before args0 about1) = true
  refine all_split ?_ w_codes
  rw [w_t1]
set_option maxRecDepth 65536 in
theorem w_case : (Jvm.Cond.and given_1 narrow_1).before args0 about1 = true := by decide +kernel
theorem w_applies : (headSpec (Jvm.Cond.code x code maxLocals ret :: tables_1) room_1).applies x e0.platform about1 = true :=
  (Spec.applies_iff w_frames).mpr ⟨w_running, w_runnable, w_alone, w_named, w_hears, w_ripe, w_room, w_tables⟩
theorem atStart : AtStart classFile x code maxLocals ret World_1 tables_1 room_1 Calls_1 rest_1 Pre_1 launch0 p0 e0 about1 theMethod args0 below0 :=
  ⟨lists_1, trivial, launch0.admits_env _ _ _, launch0.least_env, fairChoices_fair.cas, fairChoices_fair.clock, w_frames, w_args, w_heap, w_applies, trivial, trivial, w_case⟩
end start1
theorem witness_1 : WitnessClaimed_1 := ⟨start1.p0, start1.e0, start1.about1, start1.theMethod, start1.args0, start1.below0, start1.atStart⟩
end Jvm.Pilot.@@N@@
