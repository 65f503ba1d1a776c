import JvmDerived
import JvmDerived.Pilot.@@N@@Statement
import JvmDerived.Pilot.@@N@@Code
set_option linter.unusedVariables false
set_option linter.unusedSimpArgs false
namespace Jvm.RoadKit
open Sem ClassFile Op Lib Jvm.Stand Jvm.Free Jvm.LawKit
section New
variable {p : Program} {l : Launch} {e : Env} {R : Room} {s : State} {m : MethodId} {args : Array Value} {below : List Frame} {meth : Method} {c : Code} {T : State} {locs : List Loc} {cells slots : Nat}
theorem retI (X : Stand p l e R s m args below meth c T locs cells slots) (hx : p.tables.exec = Jvm.exec) {pc : Nat} {Ls : Array Slot} {z : Int32} {rest : List Value} (hret : meth.sig.returnType = some .int) (hd : decode c.code pc = .ok (.ireturn, 1)) {fs : List Frame}
    (hl : ∀ (f : JFrame) (acts : List Action), f.method = m → f.locked = none → f.entered = [] → (doReturn e (T.setTop f) acts (some (.int z))).1 = T.setFrames fs) : Steps p.tables e below (T.setTop (mkF m pc Ls (.int z :: rest))) (T.setFrames fs) := by
  have hm' : T.vm.method? m = some meth := X.method'
  have hn : narrow .int (.int z) = .int z := rfl
  show Steps p.tables e below (T.setTop { method := m, pc := pc, locals := Ls, stack := _ :: rest, locked := none }) _
  jvm_step X.here [X.here.top, hx, hd, hm', hret, hn]
  first | (intro acts; rw [hl _ acts rfl rfl rfl]) | rw [hl _ _ rfl rfl rfl]
  exact Steps.refl _
end New
end Jvm.RoadKit
namespace Jvm.Pilot.@@N@@
open Jvm Jvm.ClassFile Sem Op Lib Jvm.Free Jvm.Stand Jvm.LawKit Jvm.RoadKit Bundle Jvm.Pilot.@@N@@.Jvm.D

theorem own_mask (x m : Int32) (k : Nat) (hk : k ≤ 31) (hm : m.toBitVec.toNat = 2 ^ k - 1) : ∃ n : Nat, n < 2 ^ k ∧ x &&& m = Int32.ofNat n := by
  have h := c_mask x m k hk hm
  have hp : (0 : Int) < ((2 ^ k : Nat) : Int) := by have := Nat.two_pow_pos k; omega
  have h0 := Int.emod_nonneg x.toInt (Int.ne_of_gt hp)
  have h1 := Int.emod_lt_of_pos x.toInt hp
  have h31 : (2 ^ k : Nat) ≤ 2 ^ 31 := Nat.pow_le_pow_right (by decide) hk
  refine ⟨(x.toInt % ((2 ^ k : Nat) : Int)).toNat, by omega, ?_⟩
  apply Int32.toInt_inj.mp
  rw [h, Int32.toInt_ofNat_of_lt (by omega)]
  omega
def own_sticky (w : Int32) : Int32 := if (w &&& 512) = 0 then 0 else 1
theorem own_fin : ∀ n : Fin 1024, ¬ Int32.ofNat n.1 < 0 ∧ ¬ (1023 : Int32) < Int32.ofNat n.1 ∧ (Int32.ofNat n.1 < 512 → own_sticky (Int32.ofNat n.1) = 0) ∧ (¬ Int32.ofNat n.1 < 512 → own_sticky (Int32.ofNat n.1) = 1) := by decide +kernel
theorem own_all (x : Int32) : ¬ (x &&& 1023) < 0 ∧ ¬ (1023 : Int32) < (x &&& 1023) ∧ ((x &&& 1023) < 512 → own_sticky (x &&& 1023) = 0) ∧ (¬ (x &&& 1023) < 512 → own_sticky (x &&& 1023) = 1) := by
  obtain ⟨n, hn, e⟩ := own_mask x 1023 10 (by decide) (by decide)
  rw [e]
  exact own_fin ⟨n, hn⟩

theorem own_d1_0 : decode prog_25_method_1_code 0 = .ok (.aload_n 0, 1) := by decide +kernel
theorem own_d1_1 : decode prog_25_method_1_code 1 = .ok (.invokespecial 1, 3) := by decide +kernel
theorem own_d1_4 : decode prog_25_method_1_code 4 = .ok (.iload_n 1, 1) := by decide +kernel
theorem own_d1_5 : decode prog_25_method_1_code 5 = .ok (.ifCond .ge 17, 3) := by decide +kernel
theorem own_d1_22 : decode prog_25_method_1_code 22 = .ok (.iload_n 1, 1) := by decide +kernel
theorem own_d1_23 : decode prog_25_method_1_code 23 = .ok (.sipush 1023, 3) := by decide +kernel
theorem own_d1_26 : decode prog_25_method_1_code 26 = .ok (.if_icmp .le 20, 3) := by decide +kernel
theorem own_d1_46 : decode prog_25_method_1_code 46 = .ok (.aload_n 0, 1) := by decide +kernel
theorem own_d1_47 : decode prog_25_method_1_code 47 = .ok (.iload_n 1, 1) := by decide +kernel
theorem own_d1_48 : decode prog_25_method_1_code 48 = .ok (.putfield 26, 3) := by decide +kernel
theorem own_d1_51 : decode prog_25_method_1_code 51 = .ok (.return_, 1) := by decide +kernel
theorem own_d3_0 : decode prog_25_method_7_code 0 = .ok (.aload_n 0, 1) := by decide +kernel
theorem own_d3_1 : decode prog_25_method_7_code 1 = .ok (.getfield 26, 3) := by decide +kernel
theorem own_d3_4 : decode prog_25_method_7_code 4 = .ok (.sipush 512, 3) := by decide +kernel
theorem own_d3_7 : decode prog_25_method_7_code 7 = .ok (.iand, 1) := by decide +kernel
theorem own_d3_8 : decode prog_25_method_7_code 8 = .ok (.ifCond .eq 7, 3) := by decide +kernel
theorem own_d3_11 : decode prog_25_method_7_code 11 = .ok (.iconst 1, 1) := by decide +kernel
theorem own_d3_12 : decode prog_25_method_7_code 12 = .ok (.goto 4, 3) := by decide +kernel
theorem own_d3_15 : decode prog_25_method_7_code 15 = .ok (.iconst 0, 1) := by decide +kernel
theorem own_d3_16 : decode prog_25_method_7_code 16 = .ok (.ireturn, 1) := by decide +kernel
theorem own_pn_0 : plainName "com/example/lats/lats/permission/Mode" = true := by first | (simp [plainName, overriddenIn]; done) | decide +kernel
theorem own_ef_0 (m : MethodId) (x0 : Addr) (x1 : Int32) : entryFrame m #[(.ref x0), (.int x1)] 2 = mkF m 0 #[.val (.ref x0), .val (.int x1)] [] := by first | (simp [entryFrame, mkF, argsToLocals, Value.category]; done) | rfl
theorem own_ef_1 (m : MethodId) (x0 : Addr) : entryFrame m #[(.ref x0)] 1 = mkF m 0 #[.val (.ref x0)] [] := by first | (simp [entryFrame, mkF, argsToLocals, Value.category]; done) | rfl
theorem own_pn_1 : plainName "com/example/lats/lats/permission/ModeIsStickyPinLaw" = true := by first | (simp [plainName, overriddenIn]; done) | decide +kernel
theorem own_ef_2 (m : MethodId) (x0 : Int32) : entryFrame m #[(.int x0)] maxLocals = mkF m 0 #[.val (.int x0), .unset, .unset, .unset] [] := by first | (simp [entryFrame, mkF, argsToLocals, Value.category, maxLocals]; done) | rfl
theorem own_pd_0 : parseMethodDescriptor "(I)V" = some ⟨[.int], none⟩ := by decide +kernel
theorem own_pd_1 : parseMethodDescriptor "()Z" = some ⟨[], some .boolean⟩ := by decide +kernel
def Q_rm1 (Z : State) (r0 : Addr) (p1 : Int32) (h0 : Heap) (n0 : Nat) (v : Option Value) (h : Heap) (L : List Loc) : Prop := v = none ∧ Fr n0 L ∧ Keep h0 h [r0] ∧ Exa Z h r0 "com/example/lats/lats/permission/Mode" ∧ Fld Z h r0 "com/example/lats/lats/permission/Mode" "bits" "I" (.int p1)
set_option maxRecDepth 65536 in
set_option maxHeartbeats 40000000 in
theorem rm1 (l : Launch) (Z : State) (a0 : Array Value) (hw : ∀ d ∈ tables_1, d.before a0 Z = true) (ws : List Jvm.Cond) (r0 : Addr) (p1 : Int32) (h0 : Heap) (n0 : Nat) (Z0 : n0 ≤ h0.size) (F1 : Fld Z h0 r0 "com/example/lats/lats/permission/Mode" "bits" "I" (.int 0)) (E1 : Exa Z h0 r0 "com/example/lats/lats/permission/Mode") (g_r0 : n0 ≤ r0) (hc1 : ¬ p1 < 0) (hc2 : ¬ (1023 : Int32) < p1) :
    MetFree l (⟨"com/example/lats/lats/permission/Mode", "<init>", "(I)V"⟩ : MethodName) (head1 (Jvm.Cond.code (⟨"com/example/lats/lats/permission/Mode", "<init>", "(I)V"⟩ : MethodName) prog_25_method_1_code 2 none :: ws) ({ frames := 1, cells := 0, slots := 0, locals := 12 } : Room)) (fun a U => a = #[(.ref r0), (.int p1)] ∧ Z.Warmed39 U.vm ∧ U.heap = h0) (fun _ _ _ _ _ => True) (fun _ U o U' => ∃ v L, o = .returned v ∧ Q_rm1 Z r0 p1 h0 n0 v U'.heap L ∧ FrameEnd U o U' L ({ frames := 1, cells := 0, slots := 0, locals := 12 } : Room).cells ({ frames := 1, cells := 0, slots := 0, locals := 12 } : Room).slots) := by
  refine MetFree.of_bodySF (plainFor_of_name own_pn_0) hisR ?_
  intro p e s m args below meth c s₁ Bd hml0 hP hK
  obtain ⟨rfl, hZ, hh⟩ := hP
  have hx := Bd.exec
  have hby := Bd.bytes
  have hml : c.maxLocals = 2 := hml0
  have hown : s.vm.findClass "com/example/lats/lats/permission/Mode" = some m.cls := findClass_of_methodNamed Bd.named
  have hnm := (name_of_methodNamed Bd.named Bd.method).1
  have X0 : Stand p l e ({ frames := 1, cells := 0, slots := 0, locals := 12 } : Room) s m #[(.ref r0), (.int p1)] below meth c s₁ [] 0 0 := Stand.of_body Bd
  have e0 : s₁.heap = h0 := by rw [← hh, Bd.state]; rfl
  have N0 := Fr.nil n0
  have K0 : Keep h0 h0 [r0] := Keep.refl h0 _
  have pre0 : ∀ t, Steps p.tables e below (s₁.setTop (mkF m 0 #[.val (.ref r0), .val (.int p1)] [])) t → Steps p.tables e below (s₁.setTop (entryFrame m #[(.ref r0), (.int p1)] 2)) t := fun t k => castTop (own_ef_0 m r0 p1) k
  obtain ⟨T1, X1, e1, st1⟩ := initO X0 hx hZ hown (hw _ (List.mem_of_getElem? (i := 6) rfl)) (hw _ (List.mem_of_getElem? (i := 7) rfl)) (hw _ (List.mem_of_getElem? (i := 8) rfl)) e0 (g := (mkF m 1 #[.val (.ref r0), .val (.int p1)] [(.ref r0)])) rfl (by rw [hml]; rfl) rfl (hb hby own_d1_1) (by decide) (W := 0) (by show 2 * 0 + _ ≤ _; exact Nat.le_of_eq rfl) (by decide)
  have k2 : ∀ t, Steps p.tables e below (T1.setTop (mkF m 5 #[.val (.ref r0), .val (.int p1)] [(.int p1)])) t → Steps p.tables e below (s₁.setTop (mkF m 0 #[.val (.ref r0), .val (.int p1)] [])) t := by
    intro t h
    show Steps p.tables e below (s₁.setTop (mkF m 0 #[.val (.ref r0), .val (.int p1)] [])) _
    refine XS.aloadN X0.here hx rfl (hb hby own_d1_0) rfl rfl ?_
    show Steps p.tables e below (s₁.setTop (mkF m 1 #[.val (.ref r0), .val (.int p1)] [(.ref r0)])) _
    refine st1 _ ?_
    show Steps p.tables e below (T1.setTop (mkF m 4 #[.val (.ref r0), .val (.int p1)] [])) _
    refine XS.iloadN X1.here hx rfl (hb hby own_d1_4) rfl ?_
    exact h
  have b5_3 : ¬ (p1 < (0 : Int32)) := hc1
  have k4 : ∀ t, Steps p.tables e below (T1.setTop (mkF m 26 #[.val (.ref r0), .val (.int p1)] [(.int (1023 : Int32)), (.int p1)])) t → Steps p.tables e below (s₁.setTop (mkF m 0 #[.val (.ref r0), .val (.int p1)] [])) t := by
    intro t h
    refine k2 t ?_
    show Steps p.tables e below (T1.setTop (mkF m 5 #[.val (.ref r0), .val (.int p1)] [(.int p1)])) _
    refine XS.ifYes X1.here hx rfl (pc0 := 5) (pc' := 22) rfl (hb hby own_d1_5) rfl ((if0 _ _).trans (flt b5_3).2.1) (by decide) (by decide) ?_
    show Steps p.tables e below (T1.setTop (mkF m 22 #[.val (.ref r0), .val (.int p1)] [])) _
    refine XS.iloadN X1.here hx rfl (hb hby own_d1_22) rfl ?_
    show Steps p.tables e below (T1.setTop (mkF m 23 #[.val (.ref r0), .val (.int p1)] [(.int p1)])) _
    refine XS.sipush X1.here hx rfl (hb hby own_d1_23) ?_
    exact h
  have b26_5 : ¬ ((1023 : Int32) < p1) := hc2
  obtain ⟨T6, h6, X6, e6, W6, st6⟩ := putF X1 hx hZ hown (host := "") (Or.inl (hw _ (List.mem_of_getElem? (i := 9) rfl))) Via.refl e1 F1 E1 (Or.inr ⟨(hw _ (List.mem_of_getElem? (i := 10) rfl)), rfl, hnm⟩) (hw _ (List.mem_of_getElem? (i := 1) rfl)) (ty := .int) (by decide) rfl rfl (g := (mkF m 48 #[.val (.ref r0), .val (.int p1)] [(.int p1), (.ref r0)])) rfl rfl (hb hby own_d1_48)
  have f7 := F1.same W6
  have f8 := E1.wr W6
  have Z9 : n0 ≤ h6.size := Nat.le_trans Z0 (Keep.of_wr W6).1
  have K10 := K0.wr W6 (Or.inl (List.mem_of_getElem? (i := 0) rfl))
  have N6 := Fr.snoc X6 N0 g_r0
  have k11 : ∀ t, Steps p.tables e below (T6.setTop (mkF m 51 #[.val (.ref r0), .val (.int p1)] [])) t → Steps p.tables e below (s₁.setTop (mkF m 0 #[.val (.ref r0), .val (.int p1)] [])) t := by
    intro t h
    refine k4 t ?_
    show Steps p.tables e below (T1.setTop (mkF m 26 #[.val (.ref r0), .val (.int p1)] [(.int (1023 : Int32)), (.int p1)])) _
    refine XS.icmpYes X1.here hx rfl (pc0 := 26) (pc' := 46) rfl (hb hby own_d1_26) rfl (flt b26_5).2.2.2 (by decide) (by decide) ?_
    show Steps p.tables e below (T1.setTop (mkF m 46 #[.val (.ref r0), .val (.int p1)] [])) _
    refine XS.aloadN X1.here hx rfl (hb hby own_d1_46) rfl rfl ?_
    show Steps p.tables e below (T1.setTop (mkF m 47 #[.val (.ref r0), .val (.int p1)] [(.ref r0)])) _
    refine XS.iloadN X1.here hx rfl (hb hby own_d1_47) rfl ?_
    show Steps p.tables e below (T1.setTop (mkF m 48 #[.val (.ref r0), .val (.int p1)] [(.int p1), (.ref r0)])) _
    refine st6 _ ?_
    exact h
  obtain ⟨fs, hr, hrun, hended, hW, hsame⟩ := X6.leave (v := none) (fun _ => rfl)
  refine ⟨_, _, pre0 _ (k11 _ ?_), hrun, hended, _, _, rfl, ?_, ⟨_, rfl⟩, hW, hsame.mono (by decide) (by decide)⟩
  · exact X6.returnOut hx Bd.returns (hb hby own_d1_51) hr
  · show Q_rm1 Z _ _ h0 n0 _ T6.heap _
    rw [e6]
    exact ⟨rfl, N6, K10, f8, f7⟩
def Q_rm3 (Z : State) (r0 : Addr) (w1 : Int32) (h0 : Heap) (n0 : Nat) (v : Option Value) (h : Heap) (L : List Loc) : Prop := v = some (.int (own_sticky w1)) ∧ Fr n0 L ∧ h = h0
set_option maxRecDepth 65536 in
set_option maxHeartbeats 40000000 in
theorem rm3 (l : Launch) (Z : State) (a0 : Array Value) (hw : ∀ d ∈ tables_1, d.before a0 Z = true) (ws : List Jvm.Cond) (r0 : Addr) (w1 : Int32) (h0 : Heap) (n0 : Nat) (Z0 : n0 ≤ h0.size) (F1 : Fld Z h0 r0 "com/example/lats/lats/permission/Mode" "bits" "I" (.int w1)) :
    MetFree l (⟨"com/example/lats/lats/permission/Mode", "isSticky", "()Z"⟩ : MethodName) (head1 (Jvm.Cond.code (⟨"com/example/lats/lats/permission/Mode", "isSticky", "()Z"⟩ : MethodName) prog_25_method_7_code 1 (some .boolean) :: ws) ({ frames := 0, cells := 0, slots := 0, locals := 0 } : Room)) (fun a U => a = #[(.ref r0)] ∧ Z.Warmed39 U.vm ∧ U.heap = h0) (fun _ _ _ _ _ => True) (fun _ U o U' => ∃ v L, o = .returned v ∧ Q_rm3 Z r0 w1 h0 n0 v U'.heap L ∧ FrameEnd U o U' L ({ frames := 0, cells := 0, slots := 0, locals := 0 } : Room).cells ({ frames := 0, cells := 0, slots := 0, locals := 0 } : Room).slots) := by
  refine MetFree.of_bodySF (plainFor_of_name own_pn_0) hisR ?_
  intro p e s m args below meth c s₁ Bd hml0 hP hK
  obtain ⟨rfl, hZ, hh⟩ := hP
  have hx := Bd.exec
  have hby := Bd.bytes
  have hml : c.maxLocals = 1 := hml0
  have hown : s.vm.findClass "com/example/lats/lats/permission/Mode" = some m.cls := findClass_of_methodNamed Bd.named
  have hnm := (name_of_methodNamed Bd.named Bd.method).1
  have X0 : Stand p l e ({ frames := 0, cells := 0, slots := 0, locals := 0 } : Room) s m #[(.ref r0)] below meth c s₁ [] 0 0 := Stand.of_body Bd
  have e0 : s₁.heap = h0 := by rw [← hh, Bd.state]; rfl
  have N0 := Fr.nil n0
  have K0 : Keep h0 h0 [] := Keep.refl h0 _
  have pre0 : ∀ t, Steps p.tables e below (s₁.setTop (mkF m 0 #[.val (.ref r0)] [])) t → Steps p.tables e below (s₁.setTop (entryFrame m #[(.ref r0)] 1)) t := fun t k => castTop (own_ef_1 m r0) k
  obtain ⟨T12, X12, e12, st12⟩ := getF X0 hx hZ hown (host := "") (Or.inl (hw _ (List.mem_of_getElem? (i := 9) rfl))) Via.refl e0 F1 (g := (mkF m 1 #[.val (.ref r0)] [(.ref r0)])) rfl rfl (hb hby own_d3_1)
  have k13 : ∀ t, Steps p.tables e below (T12.setTop (mkF m 8 #[.val (.ref r0)] [(.int (w1 &&& (512 : Int32)))])) t → Steps p.tables e below (s₁.setTop (mkF m 0 #[.val (.ref r0)] [])) t := by
    intro t h
    show Steps p.tables e below (s₁.setTop (mkF m 0 #[.val (.ref r0)] [])) _
    refine XS.aloadN X0.here hx rfl (hb hby own_d3_0) rfl rfl ?_
    show Steps p.tables e below (s₁.setTop (mkF m 1 #[.val (.ref r0)] [(.ref r0)])) _
    refine st12 _ ?_
    show Steps p.tables e below (T12.setTop (mkF m 4 #[.val (.ref r0)] [(.int w1)])) _
    refine XS.sipush X12.here hx rfl (hb hby own_d3_4) ?_
    show Steps p.tables e below (T12.setTop (mkF m 7 #[.val (.ref r0)] [(.int (512 : Int32)), (.int w1)])) _
    refine XS.iand X12.here hx rfl (hb hby own_d3_7) rfl ?_
    exact h
  by_cases c8_14 : (w1 &&& (512 : Int32)) = (0 : Int32)
  · skip
    have k15 : ∀ t, Steps p.tables e below (T12.setTop (mkF m 16 #[.val (.ref r0)] [(.int (0 : Int32))])) t → Steps p.tables e below (s₁.setTop (mkF m 0 #[.val (.ref r0)] [])) t := by
      intro t h
      refine k13 t ?_
      show Steps p.tables e below (T12.setTop (mkF m 8 #[.val (.ref r0)] [(.int (w1 &&& (512 : Int32)))])) _
      refine XS.ifYes X12.here hx rfl (pc0 := 8) (pc' := 15) rfl (hb hby own_d3_8) rfl ((if0 _ _).trans (teq c8_14).1) (by decide) (by decide) ?_
      show Steps p.tables e below (T12.setTop (mkF m 15 #[.val (.ref r0)] [])) _
      refine XS.iconst X12.here hx rfl (hb hby own_d3_15) ?_
      exact h
    obtain ⟨fs, hr, hrun, hended, hW, hsame⟩ := X12.leave (v := some (.int (0 : Int32))) (fun h => by rw [Bd.returns] at h; cases h)
    refine ⟨_, _, pre0 _ (k15 _ ?_), hrun, hended, _, _, rfl, ?_, ⟨_, rfl⟩, hW, hsame.mono (by decide) (by decide)⟩
    · exact retN X12 hx (t := .boolean) Bd.returns (by simp) (hb hby own_d3_16) hr
    · show Q_rm3 Z _ _ h0 n0 _ T12.heap _
      rw [e12]
      exact ⟨congrArg (fun z : Int32 => some (Value.int z)) (by simp [own_sticky, c8_14]), N0, rfl⟩
  · skip
    have k16 : ∀ t, Steps p.tables e below (T12.setTop (mkF m 16 #[.val (.ref r0)] [(.int (1 : Int32))])) t → Steps p.tables e below (s₁.setTop (mkF m 0 #[.val (.ref r0)] [])) t := by
      intro t h
      refine k13 t ?_
      show Steps p.tables e below (T12.setTop (mkF m 8 #[.val (.ref r0)] [(.int (w1 &&& (512 : Int32)))])) _
      refine XS.ifNo X12.here hx rfl (hb hby own_d3_8) rfl ((if0 _ _).trans (feq c8_14).1) ?_
      show Steps p.tables e below (T12.setTop (mkF m 11 #[.val (.ref r0)] [])) _
      refine XS.iconst X12.here hx rfl (hb hby own_d3_11) ?_
      show Steps p.tables e below (T12.setTop (mkF m 12 #[.val (.ref r0)] [(.int (1 : Int32))])) _
      refine XS.goto X12.here hx rfl (pc0 := 12) (pc' := 16) rfl (hb hby own_d3_12) (by decide) (by decide) ?_
      exact h
    obtain ⟨fs, hr, hrun, hended, hW, hsame⟩ := X12.leave (v := some (.int (1 : Int32))) (fun h => by rw [Bd.returns] at h; cases h)
    refine ⟨_, _, pre0 _ (k16 _ ?_), hrun, hended, _, _, rfl, ?_, ⟨_, rfl⟩, hW, hsame.mono (by decide) (by decide)⟩
    · exact retN X12 hx (t := .boolean) Bd.returns (by simp) (hb hby own_d3_16) hr
    · show Q_rm3 Z _ _ h0 n0 _ T12.heap _
      rw [e12]
      exact ⟨congrArg (fun z : Int32 => some (Value.int z)) (by simp [own_sticky, c8_14]), N0, rfl⟩
def Q_rm0 (Z : State) (p0 : Int32) (h0 : Heap) (n0 : Nat) (v : Option Value) (h : Heap) (L : List Loc) : Prop := v = some (.int 1) ∧ Fr n0 L
set_option maxRecDepth 65536 in
set_option maxHeartbeats 40000000 in
theorem rm0 (l : Launch) (Z : State) (a0 : Array Value) (hw : ∀ d ∈ tables_1, d.before a0 Z = true) (ws : List Jvm.Cond) (p0 : Int32) (h0 : Heap) (n0 : Nat) (Z0 : n0 ≤ h0.size) :
    MetFree l x (head1 (Jvm.Cond.code x code maxLocals ret :: ws) room_1) (fun a U => a = #[(.int p0)] ∧ Z.Warmed39 U.vm ∧ U.heap = h0) (fun _ _ _ _ _ => True) (fun _ U o U' => ∃ v L, o = .returned v ∧ Q_rm0 Z p0 h0 n0 v U'.heap L ∧ FrameEnd U o U' L 1 1) := by
  refine MetFree.of_bodySF (plainFor_of_name own_pn_1) hisR ?_
  intro p e s m args below meth c s₁ Bd hml0 hP hK
  obtain ⟨rfl, hZ, hh⟩ := hP
  have hx := Bd.exec
  have hby := Bd.bytes
  have hml : c.maxLocals = 4 := hml0
  have hown : s.vm.findClass "com/example/lats/lats/permission/ModeIsStickyPinLaw" = some m.cls := findClass_of_methodNamed Bd.named
  have hnm := (name_of_methodNamed Bd.named Bd.method).1
  have X0 : Stand p l e room_1 s m #[(.int p0)] below meth c s₁ [] 0 0 := Stand.of_body Bd
  have e0 : s₁.heap = h0 := by rw [← hh, Bd.state]; rfl
  have N0 := Fr.nil n0
  have K0 : Keep h0 h0 [] := Keep.refl h0 _
  have pre0 : ∀ t, Steps p.tables e below (s₁.setTop (mkF m 0 #[.val (.int p0), .unset, .unset, .unset] [])) t → Steps p.tables e below (s₁.setTop (entryFrame m #[(.int p0)] maxLocals)) t := fun t k => castTop (own_ef_2 m p0) k
  obtain ⟨T17, h17, X17, e17, E17, A17, D17, -, st17⟩ := newO X0 hx hZ hown (hw _ (List.mem_of_getElem? (i := 0) rfl)) (hw _ (List.mem_of_getElem? (i := 1) rfl)) (hw _ (List.mem_of_getElem? (i := 2) rfl)) e0 (g := (mkF m 6 #[.val (.int p0), .val (.int (p0 &&& (1023 : Int32))), .unset, .unset] [])) rfl (hb hby at_6) (by decide) (by decide)
  obtain ⟨b17, g17⟩ : ∃ z, z = h0.size := ⟨_, rfl⟩
  rw [← g17] at A17 D17 st17
  have g_b17 : n0 ≤ b17 := Nat.le_trans Z0 (Nat.le_of_eq g17.symm)
  have sz_b17 : h0.size ≤ b17 := Nat.le_trans K0.1 (Nat.le_of_eq g17.symm)
  have Z18 : n0 ≤ h17.size := Nat.le_trans Z0 E17.1
  have K19 := K0.ext E17
  have f20 : Fld Z h17 b17 "com/example/lats/lats/permission/Mode" "bits" "I" (.int (0 : Int32)) := D17 (Or.inr (hw _ (List.mem_of_getElem? (i := 10) rfl))) (ty := .int) (by decide)
  obtain ⟨_, _, ⟨T21, L21, k21, n21⟩, -, X21, ⟨Lc21, hQ21, l21, y21, z21⟩, st21⟩ := X17.specialBack hx (y := (⟨"com/example/lats/lats/permission/Mode", "<init>", "(I)V"⟩ : MethodName)) rfl hown (mvT hZ (hw _ (List.mem_of_getElem? (i := 3) rfl))) (mvT hZ (hw _ (List.mem_of_getElem? (i := 4) rfl))) (mvT hZ (hw _ (List.mem_of_getElem? (i := 5) rfl))) (by decide) (backOf (W := 1) (rm1 l Z a0 hw [] b17 (p0 &&& (1023 : Int32))  h17 n0 Z18 f20 A17 g_b17 (own_all p0).1 (own_all p0).2.1) hZ (hw _ (List.mem_of_getElem? (i := 5) rfl)) (hw _ (List.mem_of_getElem? (i := 2) rfl)) (by decide) (by decide)) (g := (mkF m 11 #[.val (.int p0), .val (.int (p0 &&& (1023 : Int32))), .unset, .unset] [(.int (p0 &&& (1023 : Int32))), (.ref b17), (.ref b17)])) rfl (by rw [hml]; rfl) (Steps.refl _) (a := b17) (argsL := [(.int (p0 &&& (1023 : Int32)))]) (rest := [(.ref b17)]) (lenOf own_pd_0 rfl) rfl (by show 2 * 0 + _ ≤ _; exact Nat.le_of_eq rfl) (hb hby at_11) (fun _ _ => ⟨rfl, e17, (by decide : 1 + 0 ≤ _), (by decide : 1 + 0 ≤ _)⟩)
  dsimp only [Pt.U, Pt.locs, Pt.cells, Pt.slots] at X21 l21 y21 z21 st21 hQ21
  subst l21 y21 z21
  obtain ⟨rfl, Nq21, Kq21, Eq21, Fq21⟩ := hQ21
  have N21 := Fr.app N0 Nq21
  have f22 := A17.keep Kq21
  have Z23 : n0 ≤ T21.heap.size := Nat.le_trans Z18 Kq21.1
  have K24 := K19.trans Kq21 (allS (Or.inr sz_b17) all0)
  have k25 : ∀ t, Steps p.tables e below (T21.setTop (mkF m 19 #[.val (.int p0), .val (.int (p0 &&& (1023 : Int32))), .val (.ref b17), .unset] [(.int (512 : Int32)), (.int (p0 &&& (1023 : Int32)))])) t → Steps p.tables e below (s₁.setTop (mkF m 0 #[.val (.int p0), .unset, .unset, .unset] [])) t := by
    intro t h
    show Steps p.tables e below (s₁.setTop (mkF m 0 #[.val (.int p0), .unset, .unset, .unset] [])) _
    refine XS.iloadN X0.here hx rfl (hb hby at_0) rfl ?_
    show Steps p.tables e below (s₁.setTop (mkF m 1 #[.val (.int p0), .unset, .unset, .unset] [(.int p0)])) _
    refine XS.sipush X0.here hx rfl (hb hby at_1) ?_
    show Steps p.tables e below (s₁.setTop (mkF m 4 #[.val (.int p0), .unset, .unset, .unset] [(.int (1023 : Int32)), (.int p0)])) _
    refine XS.iand X0.here hx rfl (hb hby at_4) rfl ?_
    show Steps p.tables e below (s₁.setTop (mkF m 5 #[.val (.int p0), .unset, .unset, .unset] [(.int (p0 &&& (1023 : Int32)))])) _
    refine XS.istoreN X0.here hx rfl (hb hby at_5) rfl (l' := #[.val (.int p0), .val (.int (p0 &&& (1023 : Int32))), .unset, .unset]) rfl ?_
    show Steps p.tables e below (s₁.setTop (mkF m 6 #[.val (.int p0), .val (.int (p0 &&& (1023 : Int32))), .unset, .unset] [])) _
    refine st17 _ ?_
    show Steps p.tables e below (T17.setTop (mkF m 9 #[.val (.int p0), .val (.int (p0 &&& (1023 : Int32))), .unset, .unset] [(.ref b17)])) _
    refine XS.dup X17.here hx rfl (hb hby at_9) rfl rfl ?_
    show Steps p.tables e below (T17.setTop (mkF m 10 #[.val (.int p0), .val (.int (p0 &&& (1023 : Int32))), .unset, .unset] [(.ref b17), (.ref b17)])) _
    refine XS.iloadN X17.here hx rfl (hb hby at_10) rfl ?_
    show Steps p.tables e below (T17.setTop (mkF m 11 #[.val (.int p0), .val (.int (p0 &&& (1023 : Int32))), .unset, .unset] [(.int (p0 &&& (1023 : Int32))), (.ref b17), (.ref b17)])) _
    refine st21.trans ?_
    show Steps p.tables e below (T21.setTop (mkF m 14 #[.val (.int p0), .val (.int (p0 &&& (1023 : Int32))), .unset, .unset] [(.ref b17)])) _
    refine XS.astoreN X21.here hx rfl (hb hby at_14) rfl rfl (l' := #[.val (.int p0), .val (.int (p0 &&& (1023 : Int32))), .val (.ref b17), .unset]) rfl ?_
    show Steps p.tables e below (T21.setTop (mkF m 15 #[.val (.int p0), .val (.int (p0 &&& (1023 : Int32))), .val (.ref b17), .unset] [])) _
    refine XS.iloadN X21.here hx rfl (hb hby at_15) rfl ?_
    show Steps p.tables e below (T21.setTop (mkF m 16 #[.val (.int p0), .val (.int (p0 &&& (1023 : Int32))), .val (.ref b17), .unset] [(.int (p0 &&& (1023 : Int32)))])) _
    refine XS.sipush X21.here hx rfl (hb hby at_16) ?_
    exact h
  by_cases c19_26 : (p0 &&& (1023 : Int32)) < (512 : Int32)
  · skip
    obtain ⟨cq27, kq27, q27a, q27b, q27c⟩ := isOf hZ rfl f22
    obtain ⟨_, _, ⟨T27, L27, k27, n27⟩, -, X27, ⟨Lc27, hQ27, l27, y27, z27⟩, st27⟩ := X21.virtualBack hx (y := (⟨"com/example/lats/lats/permission/Mode", "isSticky", "()Z"⟩ : MethodName)) (z := (⟨"com/example/lats/lats/permission/Mode", "isSticky", "()Z"⟩ : MethodName)) hown (mvT hZ (hw _ (List.mem_of_getElem? (i := 11) rfl))) (mvT hZ (hw _ (List.mem_of_getElem? (i := 12) rfl))) (notFace_of_selects (args := #[]) (mvT hZ (hw _ (List.mem_of_getElem? (i := 14) rfl)))) (mvT hZ (hw _ (List.mem_of_getElem? (i := 14) rfl))) (mvT hZ (hw _ (List.mem_of_getElem? (i := 13) rfl))) (by decide) (backOf (W := 0) (rm3 l Z a0 hw [] b17 (p0 &&& (1023 : Int32)) T21.heap n0 Z23 Fq21) hZ (hw _ (List.mem_of_getElem? (i := 15) rfl)) (hw _ (List.mem_of_getElem? (i := 2) rfl)) (by decide) (by decide)) q27a q27c (g := (mkF m 29 #[.val (.int p0), .val (.int (p0 &&& (1023 : Int32))), .val (.ref b17), .val (.int (0 : Int32))] [(.ref b17)])) rfl (by rw [hml]; rfl) (Steps.refl _) (argsL := []) (rest := []) (lenOf own_pd_1 rfl) rfl (by show 2 * 0 + _ ≤ _; exact Nat.le_of_eq rfl) (hb hby at_29) (fun _ _ => ⟨rfl, rfl, (by decide : 1 + 0 ≤ _), (by decide : 1 + 0 ≤ _)⟩)
    dsimp only [Pt.U, Pt.locs, Pt.cells, Pt.slots] at X27 l27 y27 z27 st27 hQ27
    subst l27 y27 z27
    obtain ⟨rfl, Nq27, eq27⟩ := hQ27
    have N27 := Fr.app N21 Nq27
    have k28 : ∀ t, Steps p.tables e below (T27.setTop (mkF m 33 #[.val (.int p0), .val (.int (p0 &&& (1023 : Int32))), .val (.ref b17), .val (.int (0 : Int32))] [(.int (0 : Int32)), (.int (own_sticky (p0 &&& (1023 : Int32))))])) t → Steps p.tables e below (s₁.setTop (mkF m 0 #[.val (.int p0), .unset, .unset, .unset] [])) t := by
      intro t h
      refine k25 t ?_
      show Steps p.tables e below (T21.setTop (mkF m 19 #[.val (.int p0), .val (.int (p0 &&& (1023 : Int32))), .val (.ref b17), .unset] [(.int (512 : Int32)), (.int (p0 &&& (1023 : Int32)))])) _
      refine XS.icmpYes X21.here hx rfl (pc0 := 19) (pc' := 26) rfl (hb hby at_19) rfl (tlt c19_26).1 (by decide) (by decide) ?_
      show Steps p.tables e below (T21.setTop (mkF m 26 #[.val (.int p0), .val (.int (p0 &&& (1023 : Int32))), .val (.ref b17), .unset] [])) _
      refine XS.iconst X21.here hx rfl (hb hby at_26) ?_
      show Steps p.tables e below (T21.setTop (mkF m 27 #[.val (.int p0), .val (.int (p0 &&& (1023 : Int32))), .val (.ref b17), .unset] [(.int (0 : Int32))])) _
      refine XS.istoreN X21.here hx rfl (hb hby at_27) rfl (l' := #[.val (.int p0), .val (.int (p0 &&& (1023 : Int32))), .val (.ref b17), .val (.int (0 : Int32))]) rfl ?_
      show Steps p.tables e below (T21.setTop (mkF m 28 #[.val (.int p0), .val (.int (p0 &&& (1023 : Int32))), .val (.ref b17), .val (.int (0 : Int32))] [])) _
      refine XS.aloadN X21.here hx rfl (hb hby at_28) rfl rfl ?_
      show Steps p.tables e below (T21.setTop (mkF m 29 #[.val (.int p0), .val (.int (p0 &&& (1023 : Int32))), .val (.ref b17), .val (.int (0 : Int32))] [(.ref b17)])) _
      refine st27.trans ?_
      show Steps p.tables e below (T27.setTop (mkF m 32 #[.val (.int p0), .val (.int (p0 &&& (1023 : Int32))), .val (.ref b17), .val (.int (0 : Int32))] [(.int (own_sticky (p0 &&& (1023 : Int32))))])) _
      refine XS.iloadN X27.here hx rfl (hb hby at_32) rfl ?_
      exact h
    have b33_29 : (own_sticky (p0 &&& (1023 : Int32))) = (0 : Int32) := (own_all p0).2.2.1 c19_26
    have k30 : ∀ t, Steps p.tables e below (T27.setTop (mkF m 41 #[.val (.int p0), .val (.int (p0 &&& (1023 : Int32))), .val (.ref b17), .val (.int (0 : Int32))] [(.int (1 : Int32))])) t → Steps p.tables e below (s₁.setTop (mkF m 0 #[.val (.int p0), .unset, .unset, .unset] [])) t := by
      intro t h
      refine k28 t ?_
      show Steps p.tables e below (T27.setTop (mkF m 33 #[.val (.int p0), .val (.int (p0 &&& (1023 : Int32))), .val (.ref b17), .val (.int (0 : Int32))] [(.int (0 : Int32)), (.int (own_sticky (p0 &&& (1023 : Int32))))])) _
      refine XS.icmpNo X27.here hx rfl (hb hby at_33) rfl (teq b33_29).2 ?_
      show Steps p.tables e below (T27.setTop (mkF m 36 #[.val (.int p0), .val (.int (p0 &&& (1023 : Int32))), .val (.ref b17), .val (.int (0 : Int32))] [])) _
      refine XS.iconst X27.here hx rfl (hb hby at_36) ?_
      show Steps p.tables e below (T27.setTop (mkF m 37 #[.val (.int p0), .val (.int (p0 &&& (1023 : Int32))), .val (.ref b17), .val (.int (0 : Int32))] [(.int (1 : Int32))])) _
      refine XS.goto X27.here hx rfl (pc0 := 37) (pc' := 41) rfl (hb hby at_37) (by decide) (by decide) ?_
      exact h
    obtain ⟨fs, hr, hrun, hended, hW, hsame⟩ := X27.leave (v := some (.int (1 : Int32))) (fun h => by rw [Bd.returns] at h; cases h)
    refine ⟨_, _, pre0 _ (k30 _ ?_), hrun, hended, _, _, rfl, ?_, ⟨_, rfl⟩, hW, hsame.mono (by decide) (by decide)⟩
    · exact retN X27 hx (t := .boolean) Bd.returns (by simp) (hb hby at_41) hr
    · show Q_rm0 Z _ h0 n0 _ T27.heap _
      rw [eq27]
      exact ⟨rfl, N27⟩
  · skip
    obtain ⟨cq31, kq31, q31a, q31b, q31c⟩ := isOf hZ rfl f22
    obtain ⟨_, _, ⟨T31, L31, k31, n31⟩, -, X31, ⟨Lc31, hQ31, l31, y31, z31⟩, st31⟩ := X21.virtualBack hx (y := (⟨"com/example/lats/lats/permission/Mode", "isSticky", "()Z"⟩ : MethodName)) (z := (⟨"com/example/lats/lats/permission/Mode", "isSticky", "()Z"⟩ : MethodName)) hown (mvT hZ (hw _ (List.mem_of_getElem? (i := 11) rfl))) (mvT hZ (hw _ (List.mem_of_getElem? (i := 12) rfl))) (notFace_of_selects (args := #[]) (mvT hZ (hw _ (List.mem_of_getElem? (i := 14) rfl)))) (mvT hZ (hw _ (List.mem_of_getElem? (i := 14) rfl))) (mvT hZ (hw _ (List.mem_of_getElem? (i := 13) rfl))) (by decide) (backOf (W := 0) (rm3 l Z a0 hw [] b17 (p0 &&& (1023 : Int32)) T21.heap n0 Z23 Fq21) hZ (hw _ (List.mem_of_getElem? (i := 15) rfl)) (hw _ (List.mem_of_getElem? (i := 2) rfl)) (by decide) (by decide)) q31a q31c (g := (mkF m 29 #[.val (.int p0), .val (.int (p0 &&& (1023 : Int32))), .val (.ref b17), .val (.int (1 : Int32))] [(.ref b17)])) rfl (by rw [hml]; rfl) (Steps.refl _) (argsL := []) (rest := []) (lenOf own_pd_1 rfl) rfl (by show 2 * 0 + _ ≤ _; exact Nat.le_of_eq rfl) (hb hby at_29) (fun _ _ => ⟨rfl, rfl, (by decide : 1 + 0 ≤ _), (by decide : 1 + 0 ≤ _)⟩)
    dsimp only [Pt.U, Pt.locs, Pt.cells, Pt.slots] at X31 l31 y31 z31 st31 hQ31
    subst l31 y31 z31
    obtain ⟨rfl, Nq31, eq31⟩ := hQ31
    have N31 := Fr.app N21 Nq31
    have k32 : ∀ t, Steps p.tables e below (T31.setTop (mkF m 33 #[.val (.int p0), .val (.int (p0 &&& (1023 : Int32))), .val (.ref b17), .val (.int (1 : Int32))] [(.int (1 : Int32)), (.int (own_sticky (p0 &&& (1023 : Int32))))])) t → Steps p.tables e below (s₁.setTop (mkF m 0 #[.val (.int p0), .unset, .unset, .unset] [])) t := by
      intro t h
      refine k25 t ?_
      show Steps p.tables e below (T21.setTop (mkF m 19 #[.val (.int p0), .val (.int (p0 &&& (1023 : Int32))), .val (.ref b17), .unset] [(.int (512 : Int32)), (.int (p0 &&& (1023 : Int32)))])) _
      refine XS.icmpNo X21.here hx rfl (hb hby at_19) rfl (flt c19_26).1 ?_
      show Steps p.tables e below (T21.setTop (mkF m 22 #[.val (.int p0), .val (.int (p0 &&& (1023 : Int32))), .val (.ref b17), .unset] [])) _
      refine XS.iconst X21.here hx rfl (hb hby at_22) ?_
      show Steps p.tables e below (T21.setTop (mkF m 23 #[.val (.int p0), .val (.int (p0 &&& (1023 : Int32))), .val (.ref b17), .unset] [(.int (1 : Int32))])) _
      refine XS.goto X21.here hx rfl (pc0 := 23) (pc' := 27) rfl (hb hby at_23) (by decide) (by decide) ?_
      show Steps p.tables e below (T21.setTop (mkF m 27 #[.val (.int p0), .val (.int (p0 &&& (1023 : Int32))), .val (.ref b17), .unset] [(.int (1 : Int32))])) _
      refine XS.istoreN X21.here hx rfl (hb hby at_27) rfl (l' := #[.val (.int p0), .val (.int (p0 &&& (1023 : Int32))), .val (.ref b17), .val (.int (1 : Int32))]) rfl ?_
      show Steps p.tables e below (T21.setTop (mkF m 28 #[.val (.int p0), .val (.int (p0 &&& (1023 : Int32))), .val (.ref b17), .val (.int (1 : Int32))] [])) _
      refine XS.aloadN X21.here hx rfl (hb hby at_28) rfl rfl ?_
      show Steps p.tables e below (T21.setTop (mkF m 29 #[.val (.int p0), .val (.int (p0 &&& (1023 : Int32))), .val (.ref b17), .val (.int (1 : Int32))] [(.ref b17)])) _
      refine st31.trans ?_
      show Steps p.tables e below (T31.setTop (mkF m 32 #[.val (.int p0), .val (.int (p0 &&& (1023 : Int32))), .val (.ref b17), .val (.int (1 : Int32))] [(.int (own_sticky (p0 &&& (1023 : Int32))))])) _
      refine XS.iloadN X31.here hx rfl (hb hby at_32) rfl ?_
      exact h
    have b33_33 : (own_sticky (p0 &&& (1023 : Int32))) = (1 : Int32) := (own_all p0).2.2.2 c19_26
    have k34 : ∀ t, Steps p.tables e below (T31.setTop (mkF m 41 #[.val (.int p0), .val (.int (p0 &&& (1023 : Int32))), .val (.ref b17), .val (.int (1 : Int32))] [(.int (1 : Int32))])) t → Steps p.tables e below (s₁.setTop (mkF m 0 #[.val (.int p0), .unset, .unset, .unset] [])) t := by
      intro t h
      refine k32 t ?_
      show Steps p.tables e below (T31.setTop (mkF m 33 #[.val (.int p0), .val (.int (p0 &&& (1023 : Int32))), .val (.ref b17), .val (.int (1 : Int32))] [(.int (1 : Int32)), (.int (own_sticky (p0 &&& (1023 : Int32))))])) _
      refine XS.icmpNo X31.here hx rfl (hb hby at_33) rfl (teq b33_33).2 ?_
      show Steps p.tables e below (T31.setTop (mkF m 36 #[.val (.int p0), .val (.int (p0 &&& (1023 : Int32))), .val (.ref b17), .val (.int (1 : Int32))] [])) _
      refine XS.iconst X31.here hx rfl (hb hby at_36) ?_
      show Steps p.tables e below (T31.setTop (mkF m 37 #[.val (.int p0), .val (.int (p0 &&& (1023 : Int32))), .val (.ref b17), .val (.int (1 : Int32))] [(.int (1 : Int32))])) _
      refine XS.goto X31.here hx rfl (pc0 := 37) (pc' := 41) rfl (hb hby at_37) (by decide) (by decide) ?_
      exact h
    obtain ⟨fs, hr, hrun, hended, hW, hsame⟩ := X31.leave (v := some (.int (1 : Int32))) (fun h => by rw [Bd.returns] at h; cases h)
    refine ⟨_, _, pre0 _ (k34 _ ?_), hrun, hended, _, _, rfl, ?_, ⟨_, rfl⟩, hW, hsame.mono (by decide) (by decide)⟩
    · exact retN X31 hx (t := .boolean) Bd.returns (by simp) (hb hby at_41) hr
    · show Q_rm0 Z _ h0 n0 _ T31.heap _
      rw [eq31]
      exact ⟨rfl, N31⟩
set_option maxRecDepth 65536 in
set_option maxHeartbeats 40000000 in
theorem comes_1 {Post : Tables → Env → Array Value → State → Outcome → State → Prop} (hpost : ∀ tb e args s v u, (limb_1_1.after args s (.returned v) u = true ∧ limb_1_2.after args s (.returned v) u = true ∧ True) → FrameEnd s (.returned v) u (Jvm.fieldLocs frame_1_writes args s ++ Jvm.arrayLocs frame_1_arrays args s ++ Jvm.staticLocs frame_1_statics s) 16 128 → Post tb e args s (.returned v) u) :
    ArmFor flags0 classFile x code maxLocals ret World_1 tables_1 room_1 Calls_1 rest_1 Pre_1 Post := by
  intro l hfl _ _ p e ha hc hk s m args below hf hA hF happ hP
  obtain ⟨hcalls, hrest, hpre⟩ := hP
  obtain ⟨-, -, -, hnamed, -, -, -, hat⟩ := (Spec.applies_iff hf).mp happ
  obtain ⟨hg, hn⟩ := and_e (Cond.before_iff.mp (show (Jvm.Cond.and given_1 narrow_1).before args s = true from hpre))
  obtain ⟨g1, g2⟩ := and_e hg
  obtain ⟨w0, rfl⟩ : ∃ w0 : Value, args = #[w0] := by
    have hs : args.size = 1 := by simpa [Cond.value, given_1] using g1
    obtain ⟨L⟩ := args
    match L, hs with
    | [w0], _ => exact ⟨w0, rfl⟩
  have hw := fun d (hd : d ∈ tables_1) => atoms_spec (ws := Jvm.Cond.code x code maxLocals ret :: tables_1) hat d (List.mem_cons_of_mem _ hd)
  have hfit : Fit s := fun {y c} hc i hi => by
    obtain ⟨ha, rfl⟩ := Array.getElem?_eq_some_iff.mp hc
    have q := List.all_eq_true.mp ((Array.all_eq_true_iff_forall_mem.mp hF) _ (Array.getElem_mem ha)) i (List.mem_range.mpr hi)
    simpa [Array.getElem?_eq_getElem hi] using q
  obtain ⟨i0, ei0⟩ := is_v g2
  obtain rfl : w0 = (.int i0) := Option.some.inj ei0
  obtain ⟨n, o, h1, h2, h3, _, L, rfl, ⟨rfl, N⟩, hq⟩ := rm0 l s _ hw tables_1 i0  s.heap s.heap.size (Nat.le_refl _)  p e ha hc hk s m _ below hf ((Spec.applies_iff_loose hf).mp happ).1 ⟨rfl, State.Warmed39.refl s, rfl⟩ trivial
  refine ⟨n, _, h1, h2, h3, hpost _ _ _ _ _ _ ⟨Cond.after_iff.mpr rfl, Cond.after_iff.mpr (eq_i res_at (Term.int_eval (1)) rfl), trivial⟩ ⟨hq.1, hq.2.1, (hq.2.2.sift fun y hy => Or.inr (N y hy)).mono (by decide) (by decide)⟩⟩
theorem main_1_1 : Claimed_1_1 := comes_1 fun _ _ _ _ _ _ h hF => ⟨h.1, hF⟩
theorem main_1_2 : Claimed_1_2 := comes_1 fun _ _ _ _ _ _ h hF => ⟨h.2.1, hF⟩
end Jvm.Pilot.@@N@@
namespace Jvm.Pilot.@@N@@
open Jvm Jvm.ClassFile Sem Op Lib Jvm.Free Jvm.Stand Jvm.Pilot.@@N@@.Jvm.D
/-! MADE BY PROGRAM (witnessworld.py) out of the Statement's table words and the real class files: 9 classes; the members and pool entries that the words name. The judged class is class 1, her method 1. -/
namespace start1
open Jvm.ClassFile
def u (s : String) : CpInfo := .utf8 (stringToUtf16 s)
/-- a pool by its gaps: so many unusable entries, then the entry; so many at the end -/
def gap : Nat → List CpInfo → List CpInfo
  | 0, r => r
  | n + 1, r => .unusable :: gap n r
def poolList (es : List (Nat × CpInfo)) (last : Nat) : List CpInfo := es.foldr (fun e r => gap e.1 (e.2 :: r)) (gap last [])
def pool (es : List (Nat × CpInfo)) (last : Nat) : Array CpInfo := ⟨poolList es last⟩
def fileOf (pool : Array CpInfo) (this : Nat) (attrs : Array Attribute := #[]) (ms : Array MethodInfo := #[]) (fl : Nat := 33) (sup : Nat := 0) (ifs : Array Nat := #[]) (fds : Array FieldInfo := #[]) : ClassFile where
  minorVersion := 0
  majorVersion := 65
  constantPool := pool
  accessFlags := fl
  thisClass := this
  superClass := sup
  interfaces := ifs
  fields := fds
  methods := ms
  attributes := attrs
def plain (name : String) (sup : Option ClassId) : Class where
  name := name
  kind := .ordinary
  loader := none
  accessFlags := 33
  super := sup
  interfaces := #[]
  cf := none
  fields := #[]
  methods := #[]
  instanceTypes := #[]
  staticTypes := #[]
  resolved := #[]
  callSites := []
  init := .initialized
  statics := none
  mirror := none

def pool0 : Array CpInfo := pool [(5, u "<init>"), (0, u "()V"), (1, .class_ 10), (1, u "java/lang/Object")] 113

def k0c0 : Code := { maxStack := 0, maxLocals := 1, code := object_method_1_code, exceptionTable := #[], attributes := #[] }
def k0m0 : Method := { name := "<init>", desc := "()V", sig := { parameters := [], returnType := none }, accessFlags := 1, code := some k0c0 }
/-- java/lang/Object -/
def k0 : Class := { plain "java/lang/Object" none with
  accessFlags := 33
  interfaces := #[]
  cf := some (fileOf pool0 8 #[] #[{ accessFlags := 1, nameIndex := 5, descriptorIndex := 6, attributes := #[] }] 33 0 #[] #[])
  fields := #[]
  methods := #[k0m0]
  instanceTypes := #[]
  staticTypes := #[]
  resolved := Array.replicate 124 none
  statics := none }

def pool1 : Array CpInfo := pool [(2, .class_ 4), (1, u "java/lang/Object"), (0, u "<init>"), (0, u "()V"), (0, .class_ 8), (0, u "com/example/lats/lats/permission/Mode"), (0, .methodref 7 10), (0, .nameAndType 5 11), (0, u "(I)V"), (0, .methodref 7 13), (0, .nameAndType 14 15), (0, u "isSticky"), (0, u "()Z"), (0, .class_ 17), (0, u "com/example/lats/lats/permission/ModeIsStickyPinLaw"), (2, u "law"), (0, u "(I)Z")] 3

def k1m0 : Method := { name := "<init>", desc := "()V", sig := { parameters := [], returnType := none }, accessFlags := 1, code := none }
def k1c1 : Code := { maxStack := 3, maxLocals := 4, code := code, exceptionTable := #[], attributes := #[] }
def k1m1 : Method := { name := "law", desc := "(I)Z", sig := { parameters := [.int], returnType := some .boolean }, accessFlags := 9, code := some k1c1 }
/-- com/example/lats/lats/permission/ModeIsStickyPinLaw -/
def k1 : Class := { plain "com/example/lats/lats/permission/ModeIsStickyPinLaw" (some 0) with
  accessFlags := 49
  interfaces := #[]
  cf := some (fileOf pool1 16 #[] #[{ accessFlags := 1, nameIndex := 5, descriptorIndex := 6, attributes := #[] }, { accessFlags := 9, nameIndex := 20, descriptorIndex := 21, attributes := #[] }] 49 2 #[] #[])
  fields := #[]
  methods := #[k1m0, k1m1]
  instanceTypes := #[]
  staticTypes := #[]
  resolved := Array.replicate 25 none
  statics := none }

def pool2 : Array CpInfo := pool [(1, .methodref 2 3), (0, .class_ 4), (0, .nameAndType 5 6), (0, u "java/lang/Object"), (0, u "<init>"), (0, u "()V"), (9, .class_ 17), (0, u "com/example/lats/lats/permission/Mode"), (8, .fieldref 16 27), (0, .nameAndType 28 29), (0, u "bits"), (0, u "I"), (25, u "()Z"), (7, u "(I)V"), (20, u "isSticky"), (3, u "STICKY"), (2, u "ALL_BITS"), (1, u "LETTERS"), (0, u "Ljava/lang/String;")] 37

def k2c0 : Code := { maxStack := 3, maxLocals := 2, code := prog_25_method_1_code, exceptionTable := #[], attributes := #[] }
def k2m0 : Method := { name := "<init>", desc := "(I)V", sig := { parameters := [.int], returnType := none }, accessFlags := 1, code := some k2c0 }
def k2c1 : Code := { maxStack := 2, maxLocals := 1, code := prog_25_method_7_code, exceptionTable := #[], attributes := #[] }
def k2m1 : Method := { name := "isSticky", desc := "()Z", sig := { parameters := [], returnType := some .boolean }, accessFlags := 1, code := some k2c1 }
/-- com/example/lats/lats/permission/Mode -/
def k2 : Class := { plain "com/example/lats/lats/permission/Mode" (some 0) with
  accessFlags := 33
  interfaces := #[]
  cf := some (fileOf pool2 16 #[] #[{ accessFlags := 1, nameIndex := 5, descriptorIndex := 63, attributes := #[] }, { accessFlags := 1, nameIndex := 84, descriptorIndex := 55, attributes := #[] }] 33 2 #[] #[{ accessFlags := 26, nameIndex := 88, descriptorIndex := 29, attributes := #[] }, { accessFlags := 26, nameIndex := 91, descriptorIndex := 29, attributes := #[] }, { accessFlags := 26, nameIndex := 93, descriptorIndex := 94, attributes := #[] }, { accessFlags := 18, nameIndex := 28, descriptorIndex := 29, attributes := #[] }])
  fields := #[{ name := "STICKY", type := .int, accessFlags := 26, slot := 0, constantValue := 0 }, { name := "ALL_BITS", type := .int, accessFlags := 26, slot := 1, constantValue := 0 }, { name := "LETTERS", type := (.object "java/lang/String"), accessFlags := 26, slot := 2, constantValue := 0 }, { name := "bits", type := .int, accessFlags := 18, slot := 0, constantValue := 0 }]
  methods := #[k2m0, k2m1]
  instanceTypes := #[.int]
  staticTypes := #[.int, .int, (.object "java/lang/String")]
  resolved := Array.replicate 132 none
  statics := none }

def pool3 : Array CpInfo := pool [(1, u "java/lang/Cloneable"), (0, .class_ 1), (0, u "java/lang/Object"), (0, .class_ 3)] 3

/-- java/lang/Cloneable -/
def k3 : Class := { plain "java/lang/Cloneable" (some 0) with
  accessFlags := 1537
  interfaces := #[]
  cf := some (fileOf pool3 2 #[] #[] 1537 4 #[] #[])
  fields := #[]
  methods := #[]
  instanceTypes := #[]
  staticTypes := #[]
  resolved := Array.replicate 8 none
  statics := none }

def pool4 : Array CpInfo := pool [(1, u "java/io/Serializable"), (0, .class_ 1), (0, u "java/lang/Object"), (0, .class_ 3)] 3

/-- java/io/Serializable -/
def k4 : Class := { plain "java/io/Serializable" (some 0) with
  accessFlags := 1537
  interfaces := #[]
  cf := some (fileOf pool4 2 #[] #[] 1537 4 #[] #[])
  fields := #[]
  methods := #[]
  instanceTypes := #[]
  staticTypes := #[]
  resolved := Array.replicate 8 none
  statics := none }

/-- the primitive byte -/
def k5 : Class := { plain "byte" none with kind := .primitive 'B', accessFlags := 0x411 }
/-- [B -/
def k6 : Class := { plain "[B" (some 0) with kind := .array 5 .byte, interfaces := #[3, 4], accessFlags := 1041 }

/-- the primitive int -/
def k7 : Class := { plain "int" none with kind := .primitive 'I', accessFlags := 0x411 }
/-- [I -/
def k8 : Class := { plain "[I" (some 0) with kind := .array 7 .int, interfaces := #[3, 4], accessFlags := 1041 }

def heap : Heap := #[]
def classes : Array Class := #[k0, k1, k2, k3, k4, k5, k6, k7, k8]
def interned : List (Array UInt16 × Addr) := []
def slotsUsed : Nat := 0
def theMethod : MethodId := ⟨1, 1⟩
def args0 : Array Value := #[.int 5]
def aboutOver (below : List Frame) : State where
  vm := { classes := classes, interned := interned.toArray }
  heap := heap
  slotsUsed := slotsUsed
  threads := #[{ frames := .invoking theMethod args0 :: below }]
def below0 : List Frame := [.native { method := ⟨0, 0⟩, args := #[] }]
def about1 : State := aboutOver below0
def p0 : Program := .bare "" "" ""
def e0 : Env := launch0.env 0 0 0
theorem w_frames : about1.frames = Frame.invoking theMethod args0 :: below0 := rfl
set_option maxRecDepth 65536 in
theorem w_args : argsFit about1.vm theMethod args0 = true := by decide +kernel
set_option maxRecDepth 65536 in
theorem w_heap : heapFits about1 = true := by decide +kernel
set_option maxRecDepth 65536 in
theorem w_runnable : about1.curStatus? = some .runnable := by decide +kernel
set_option maxRecDepth 65536 in
theorem w_alone : about1.alone = true := by decide +kernel
set_option maxRecDepth 65536 in
theorem w_named : about1.methodNamed? x = some theMethod := by decide +kernel
set_option maxRecDepth 65536 in
theorem w_hears : about1.hears theMethod below0 = true := by decide +kernel
set_option maxRecDepth 65536 in
theorem w_ripe : about1.ripe theMethod args0 below0 = true := by decide +kernel
theorem w_running : about1.status = .running := rfl
set_option maxRecDepth 65536 in
theorem w_room : about1.hasRoom e0.platform room_1 = true :=
  launch0.hasRoom_least _ room_1 (by decide +kernel) (by decide +kernel) (by decide +kernel) (by decide +kernel) (by decide +kernel) (by decide +kernel)
theorem allAtoms_all (ts : List Jvm.Cond) (a : Array Jvm.Value) (st : Jvm.State) : (allAtoms ts).before a st = ts.all (fun c => c.before a st) := by
  induction ts with
  | nil => rfl
  | cons c t ih =>
    show (Jvm.Cond.and c (allAtoms t)).before a st = _
    rw [Jvm.Cond.before_and, ih, List.all_cons]
def words1 : List Jvm.Cond := Jvm.Cond.code x code maxLocals ret :: tables_1
/-- a 'code' word, met by the world's own term for the bytes: nothing is compared byte by byte -/
theorem code_word {y : MethodName} {bytes : ByteArray} {mx : Nat} {rt : Option FieldType} {a : Array Value} {s : State} {m : MethodId} {meth : Method} {c : Code} (h1 : s.methodNamed? y = some m) (h2 : s.vm.method? m = some meth) (h3 : meth.code = some c) (h4 : c.code = bytes)
    (h5 : (c.maxLocals == mx && c.exceptionTable.isEmpty && decide (c.maxStack ≤ mostOperands) && decide (meth.sig.returnType = rt) && !meth.locks && decide (parseMethodDescriptor y.desc = some meth.sig)) = true) : (Jvm.Cond.code y bytes mx rt).before a s = true := by
  simp only [Bool.and_eq_true, beq_iff_eq, Bool.not_eq_true', decide_eq_true_eq] at h5
  obtain ⟨⟨⟨⟨⟨g1, g2⟩, g3⟩, g4⟩, g5⟩, g6⟩ := h5
  simp [Cond.before, Cond.holds, Cond.value, h1, h2, h3, h4, g1, g2, g3, g4, g5, g6]
def isCode : Jvm.Cond → Bool
  | .code _ _ _ _ => true
  | _ => false
theorem all_split {L : List Jvm.Cond} {P : Jvm.Cond → Bool} (h1 : L.all (fun c => isCode c || P c) = true) (h2 : ∀ c ∈ L.filter isCode, P c = true) : L.all P = true := by
  refine List.all_eq_true.mpr fun c hc => ?_
  have h := List.all_eq_true.mp h1 c hc
  rcases Bool.eq_false_or_eq_true (isCode c) with hi | hi
  · exact h2 c (List.mem_filter.mpr ⟨hc, hi⟩)
  · simpa [hi] using h
set_option maxRecDepth 65536 in
theorem w_c0 : (Jvm.Cond.code x code maxLocals ret).before args0 about1 = true := code_word (m := ⟨1, 1⟩) (meth := k1m1) (c := k1c1) (by decide +kernel) rfl rfl rfl (by decide +kernel)
set_option maxRecDepth 65536 in
theorem w_c1 : (Jvm.Cond.code ({ cls := "com/example/lats/lats/permission/Mode", name := "<init>", desc := "(I)V" } : Jvm.MethodName) prog_25_method_1_code (2 : Nat) (Option.none : Option Jvm.ClassFile.FieldType)).before args0 about1 = true := code_word (m := ⟨2, 0⟩) (meth := k2m0) (c := k2c0) (by decide +kernel) rfl rfl rfl (by decide +kernel)
set_option maxRecDepth 65536 in
theorem w_c2 : (Jvm.Cond.code ({ cls := "java/lang/Object", name := "<init>", desc := "()V" } : Jvm.MethodName) object_method_1_code (1 : Nat) (Option.none : Option Jvm.ClassFile.FieldType)).before args0 about1 = true := code_word (m := ⟨0, 0⟩) (meth := k0m0) (c := k0c0) (by decide +kernel) rfl rfl rfl (by decide +kernel)
set_option maxRecDepth 65536 in
theorem w_c3 : (Jvm.Cond.code ({ cls := "com/example/lats/lats/permission/Mode", name := "isSticky", desc := "()Z" } : Jvm.MethodName) prog_25_method_7_code (1 : Nat) (Option.some Jvm.ClassFile.FieldType.boolean)).before args0 about1 = true := code_word (m := ⟨2, 1⟩) (meth := k2m1) (c := k2c1) (by decide +kernel) rfl rfl rfl (by decide +kernel)
def codes1 : List Jvm.Cond := [Jvm.Cond.code x code maxLocals ret, Jvm.Cond.code ({ cls := "com/example/lats/lats/permission/Mode", name := "<init>", desc := "(I)V" } : Jvm.MethodName) prog_25_method_1_code (2 : Nat) (Option.none : Option Jvm.ClassFile.FieldType), Jvm.Cond.code ({ cls := "java/lang/Object", name := "<init>", desc := "()V" } : Jvm.MethodName) object_method_1_code (1 : Nat) (Option.none : Option Jvm.ClassFile.FieldType), Jvm.Cond.code ({ cls := "com/example/lats/lats/permission/Mode", name := "isSticky", desc := "()Z" } : Jvm.MethodName) prog_25_method_7_code (1 : Nat) (Option.some Jvm.ClassFile.FieldType.boolean)]
set_option maxRecDepth 65536 in
theorem codes_eq : words1.filter isCode = codes1 := rfl
theorem w_codes : ∀ c ∈ words1.filter isCode, c.before args0 about1 = true := by
  rw [codes_eq]
  intro c hc
  simp only [codes1, List.mem_cons, List.not_mem_nil, or_false] at hc
  rcases hc with rfl | rfl | rfl | rfl
  · exact w_c0
  · exact w_c1
  · exact w_c2
  · exact w_c3
set_option maxRecDepth 65536 in
theorem w_t1 : words1.all (fun c => isCode c || c.before args0 about1) = true := by decide +kernel
theorem w_tables : (allAtoms (Jvm.Cond.code x code maxLocals ret :: tables_1)).before args0 about1 = true := by
  rw [allAtoms_all]
  show words1.all (fun c => c.before args0 about1) = true
  refine all_split ?_ w_codes
  rw [w_t1]
set_option maxRecDepth 65536 in
theorem w_case : (Jvm.Cond.and given_1 narrow_1).before args0 about1 = true := by decide +kernel
theorem w_applies : (headSpec (Jvm.Cond.code x code maxLocals ret :: tables_1) room_1).applies x e0.platform about1 = true :=
  (Spec.applies_iff w_frames).mpr ⟨w_running, w_runnable, w_alone, w_named, w_hears, w_ripe, w_room, w_tables⟩
theorem atStart : AtStart classFile x code maxLocals ret World_1 tables_1 room_1 Calls_1 rest_1 Pre_1 launch0 p0 e0 about1 theMethod args0 below0 :=
  ⟨lists_1, trivial, launch0.admits_env _ _ _, launch0.least_env, fairChoices_fair.cas, fairChoices_fair.clock, w_frames, w_args, w_heap, w_applies, trivial, trivial, w_case⟩
end start1
theorem witness_1 : WitnessClaimed_1 := ⟨start1.p0, start1.e0, start1.about1, start1.theMethod, start1.args0, start1.below0, start1.atStart⟩
end Jvm.Pilot.@@N@@
