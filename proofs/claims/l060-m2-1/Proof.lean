import JvmDerived
import JvmDerived.Pilot.@@N@@Statement
import JvmDerived.Pilot.@@N@@Code
set_option linter.unusedVariables false
set_option linter.unusedSimpArgs false
namespace Jvm.RoadKit
open Sem ClassFile Op Lib Jvm.Stand Jvm.Free Jvm.LawKit
section New
variable {p : Program} {l : Launch} {e : Env} {R : Room} {s : State} {m : MethodId} {args : Array Value} {below : List Frame} {meth : Method} {c : Code} {T : State} {locs : List Loc} {cells slots : Nat}
theorem retI (X : Stand p l e R s m args below meth c T locs cells slots) (hx : p.tables.exec = Jvm.exec) {pc : Nat} {Ls : Array Slot} {z : Int32} {rest : List Value} (hret : meth.sig.returnType = some .int) (hd : decode c.code pc = .ok (.ireturn, 1)) {fs : List Frame}
    (hl : ∀ (f : JFrame) (acts : List Action), f.method = m → f.locked = none → f.entered = [] → (doReturn e (T.setTop f) acts (some (.int z))).1 = T.setFrames fs) : Steps p.tables e below (T.setTop (mkF m pc Ls (.int z :: rest))) (T.setFrames fs) := by
  have hm' : T.vm.method? m = some meth := X.method'
  have hn : narrow .int (.int z) = .int z := rfl
  show Steps p.tables e below (T.setTop { method := m, pc := pc, locals := Ls, stack := _ :: rest, locked := none }) _
  jvm_step X.here [X.here.top, hx, hd, hm', hret, hn]
  first | (intro acts; rw [hl _ acts rfl rfl rfl]) | rw [hl _ _ rfl rfl rfl]
  exact Steps.refl _
end New
end Jvm.RoadKit
namespace Jvm.Pilot.@@N@@
open Jvm Jvm.ClassFile Sem Op Lib Jvm.Free Jvm.Stand Jvm.LawKit Jvm.RoadKit Bundle Jvm.Pilot.@@N@@.Jvm.D

theorem own_mask (x m : Int32) (k : Nat) (hk : k ≤ 31) (hm : m.toBitVec.toNat = 2 ^ k - 1) : ∃ n : Nat, n < 2 ^ k ∧ x &&& m = Int32.ofNat n := by
  have h := c_mask x m k hk hm
  have hp : (0 : Int) < ((2 ^ k : Nat) : Int) := by have := Nat.two_pow_pos k; omega
  have h0 := Int.emod_nonneg x.toInt (Int.ne_of_gt hp)
  have h1 := Int.emod_lt_of_pos x.toInt hp
  have h31 : (2 ^ k : Nat) ≤ 2 ^ 31 := Nat.pow_le_pow_right (by decide) hk
  refine ⟨(x.toInt % ((2 ^ k : Nat) : Int)).toNat, by omega, ?_⟩
  apply Int32.toInt_inj.mp
  rw [h, Int32.toInt_ofNat_of_lt (by omega)]
  omega

def own_asks (w : Int32) : Int32 := if w = 1 then 1 else if w = 3 then 1 else 0
def own_sup (w : Int32) : Int32 := if w = 2 then 0 else 1
theorem own_fin : ∀ n : Fin 4, let w := Int32.ofNat n.1
    (w &&& 1 = 0 → own_asks w = 0) ∧ (¬ w &&& 1 = 0 → own_asks w = 1) ∧ (¬ w &&& 1 = 0 → own_sup w = 1) ∧ (w &&& 1 = 0 → ¬ w &&& 2 = 0 → own_sup w = 0) ∧ (w &&& 1 = 0 → w &&& 2 = 0 → own_sup w = 1) := by decide +kernel
theorem own_all (x : Int32) : (x &&& 1 = 0 → own_asks (x &&& 3) = 0) ∧ (¬ x &&& 1 = 0 → own_asks (x &&& 3) = 1) ∧ (¬ x &&& 1 = 0 → own_sup (x &&& 3) = 1) ∧ (x &&& 1 = 0 → ¬ x &&& 2 = 0 → own_sup (x &&& 3) = 0) ∧ (x &&& 1 = 0 → x &&& 2 = 0 → own_sup (x &&& 3) = 1) := by
  have a1 : x &&& 1 = (x &&& 3) &&& 1 := by rw [Int32.and_assoc]; rfl
  have a2 : x &&& 2 = (x &&& 3) &&& 2 := by rw [Int32.and_assoc]; rfl
  obtain ⟨n, hn, e⟩ := own_mask x 3 2 (by decide) (by decide)
  rw [a1, a2, e]
  exact own_fin ⟨n, hn⟩

theorem own_d1_0 : decode prog_72_method_1_code 0 = .ok (.aload_n 0, 1) := by decide +kernel
theorem own_d1_1 : decode prog_72_method_1_code 1 = .ok (.invokespecial 1, 3) := by decide +kernel
theorem own_d1_4 : decode prog_72_method_1_code 4 = .ok (.aload_n 0, 1) := by decide +kernel
theorem own_d1_5 : decode prog_72_method_1_code 5 = .ok (.iload_n 1, 1) := by decide +kernel
theorem own_d1_6 : decode prog_72_method_1_code 6 = .ok (.putfield 7, 3) := by decide +kernel
theorem own_d1_9 : decode prog_72_method_1_code 9 = .ok (.return_, 1) := by decide +kernel
theorem own_d2_0 : decode jdk_30_method_1_code 0 = .ok (.aload_n 0, 1) := by decide +kernel
theorem own_d2_1 : decode jdk_30_method_1_code 1 = .ok (.invokespecial 1, 3) := by decide +kernel
theorem own_d2_4 : decode jdk_30_method_1_code 4 = .ok (.return_, 1) := by decide +kernel
theorem own_d4_0 : decode prog_72_method_3_code 0 = .ok (.aload_n 0, 1) := by decide +kernel
theorem own_d4_1 : decode prog_72_method_3_code 1 = .ok (.getfield 7, 3) := by decide +kernel
theorem own_d4_4 : decode prog_72_method_3_code 4 = .ok (.iconst 3, 1) := by decide +kernel
theorem own_d4_5 : decode prog_72_method_3_code 5 = .ok (.iand, 1) := by decide +kernel
theorem own_d4_6 : decode prog_72_method_3_code 6 = .ok (.istore_n 1, 1) := by decide +kernel
theorem own_d4_7 : decode prog_72_method_3_code 7 = .ok (.iload_n 1, 1) := by decide +kernel
theorem own_d4_8 : decode prog_72_method_3_code 8 = .ok (.iconst 1, 1) := by decide +kernel
theorem own_d4_9 : decode prog_72_method_3_code 9 = .ok (.if_icmp .eq 8, 3) := by decide +kernel
theorem own_d4_12 : decode prog_72_method_3_code 12 = .ok (.iload_n 1, 1) := by decide +kernel
theorem own_d4_13 : decode prog_72_method_3_code 13 = .ok (.iconst 3, 1) := by decide +kernel
theorem own_d4_14 : decode prog_72_method_3_code 14 = .ok (.if_icmp .ne 7, 3) := by decide +kernel
theorem own_d4_17 : decode prog_72_method_3_code 17 = .ok (.iconst 1, 1) := by decide +kernel
theorem own_d4_18 : decode prog_72_method_3_code 18 = .ok (.goto 4, 3) := by decide +kernel
theorem own_d4_21 : decode prog_72_method_3_code 21 = .ok (.iconst 0, 1) := by decide +kernel
theorem own_d4_22 : decode prog_72_method_3_code 22 = .ok (.ireturn, 1) := by decide +kernel
theorem own_d5_0 : decode prog_72_method_4_code 0 = .ok (.aload_n 0, 1) := by decide +kernel
theorem own_d5_1 : decode prog_72_method_4_code 1 = .ok (.getfield 7, 3) := by decide +kernel
theorem own_d5_4 : decode prog_72_method_4_code 4 = .ok (.iconst 3, 1) := by decide +kernel
theorem own_d5_5 : decode prog_72_method_4_code 5 = .ok (.iand, 1) := by decide +kernel
theorem own_d5_6 : decode prog_72_method_4_code 6 = .ok (.iconst 2, 1) := by decide +kernel
theorem own_d5_7 : decode prog_72_method_4_code 7 = .ok (.if_icmp .eq 7, 3) := by decide +kernel
theorem own_d5_10 : decode prog_72_method_4_code 10 = .ok (.iconst 1, 1) := by decide +kernel
theorem own_d5_11 : decode prog_72_method_4_code 11 = .ok (.goto 4, 3) := by decide +kernel
theorem own_d5_14 : decode prog_72_method_4_code 14 = .ok (.iconst 0, 1) := by decide +kernel
theorem own_d5_15 : decode prog_72_method_4_code 15 = .ok (.ireturn, 1) := by decide +kernel
theorem own_pn_0 : plainName "java/lang/Record" = true := by first | (simp [plainName, overriddenIn]; done) | decide +kernel
theorem own_ef_0 (m : MethodId) (x0 : Addr) : entryFrame m #[(.ref x0)] 1 = mkF m 0 #[.val (.ref x0)] [] := by first | (simp [entryFrame, mkF, argsToLocals, Value.category]; done) | rfl
theorem own_pn_1 : plainName "com/example/woodrat/woodrat/wire/PreLogin" = true := by first | (simp [plainName, overriddenIn]; done) | decide +kernel
theorem own_ef_1 (m : MethodId) (x0 : Addr) (x1 : Int32) : entryFrame m #[(.ref x0), (.int x1)] 2 = mkF m 0 #[.val (.ref x0), .val (.int x1)] [] := by first | (simp [entryFrame, mkF, argsToLocals, Value.category]; done) | rfl
theorem own_pd_0 : parseMethodDescriptor "()V" = some ⟨[], none⟩ := by decide +kernel
theorem own_ef_2 (m : MethodId) (x0 : Addr) : entryFrame m #[(.ref x0)] 2 = mkF m 0 #[.val (.ref x0), .unset] [] := by first | (simp [entryFrame, mkF, argsToLocals, Value.category]; done) | rfl
theorem own_pn_2 : plainName "com/example/woodrat/woodrat/wire/PreLoginAsksForEncryptionPinLaw" = true := by first | (simp [plainName, overriddenIn]; done) | decide +kernel
theorem own_ef_3 (m : MethodId) (x0 : Int32) : entryFrame m #[(.int x0)] maxLocals = mkF m 0 #[.val (.int x0), .unset, .unset, .unset, .unset] [] := by first | (simp [entryFrame, mkF, argsToLocals, Value.category, maxLocals]; done) | rfl
theorem own_pd_1 : parseMethodDescriptor "(I)V" = some ⟨[.int], none⟩ := by decide +kernel
theorem own_pd_2 : parseMethodDescriptor "()Z" = some ⟨[], some .boolean⟩ := by decide +kernel
def Q_rmR (Z : State) (r0 : Addr) (h0 : Heap) (n0 : Nat) (v : Option Value) (h : Heap) (L : List Loc) : Prop := v = none ∧ Fr n0 L ∧ h = h0
set_option maxRecDepth 65536 in
set_option maxHeartbeats 40000000 in
theorem rmR (l : Launch) (Z : State) (a0 : Array Value) (hw : ∀ d ∈ tables_1, d.before a0 Z = true) (ws : List Jvm.Cond) (r0 : Addr) (h0 : Heap) (n0 : Nat) (Z0 : n0 ≤ h0.size) :
    MetFree l (⟨"java/lang/Record", "<init>", "()V"⟩ : MethodName) (head1 (Jvm.Cond.code (⟨"java/lang/Record", "<init>", "()V"⟩ : MethodName) jdk_30_method_1_code 1 none :: ws) ({ frames := 1, cells := 0, slots := 0, locals := 12 } : Room)) (fun a U => a = #[(.ref r0)] ∧ Z.Warmed39 U.vm ∧ U.heap = h0) (fun _ _ _ _ _ => True) (fun _ U o U' => ∃ v L, o = .returned v ∧ Q_rmR Z r0 h0 n0 v U'.heap L ∧ FrameEnd U o U' L ({ frames := 1, cells := 0, slots := 0, locals := 12 } : Room).cells ({ frames := 1, cells := 0, slots := 0, locals := 12 } : Room).slots) := by
  refine MetFree.of_bodySF (plainFor_of_name own_pn_0) hisR ?_
  intro p e s m args below meth c s₁ Bd hml0 hP hK
  obtain ⟨rfl, hZ, hh⟩ := hP
  have hx := Bd.exec
  have hby := Bd.bytes
  have hml : c.maxLocals = 1 := hml0
  have hown : s.vm.findClass "java/lang/Record" = some m.cls := findClass_of_methodNamed Bd.named
  have hnm := (name_of_methodNamed Bd.named Bd.method).1
  have X0 : Stand p l e ({ frames := 1, cells := 0, slots := 0, locals := 12 } : Room) s m #[(.ref r0)] below meth c s₁ [] 0 0 := Stand.of_body Bd
  have e0 : s₁.heap = h0 := by rw [← hh, Bd.state]; rfl
  have N0 := Fr.nil n0
  have K0 : Keep h0 h0 [] := Keep.refl h0 _
  have pre0 : ∀ t, Steps p.tables e below (s₁.setTop (mkF m 0 #[.val (.ref r0)] [])) t → Steps p.tables e below (s₁.setTop (entryFrame m #[(.ref r0)] 1)) t := fun t k => castTop (own_ef_0 m r0) k
  obtain ⟨T1, X1, e1, st1⟩ := initO X0 hx hZ hown (hw _ (List.mem_of_getElem? (i := 11) rfl)) (hw _ (List.mem_of_getElem? (i := 12) rfl)) (hw _ (List.mem_of_getElem? (i := 13) rfl)) e0 (g := (mkF m 1 #[.val (.ref r0)] [(.ref r0)])) rfl (by rw [hml]; rfl) rfl (hb hby own_d2_1) (by decide) (W := 0) (by show 2 * 0 + _ ≤ _; exact Nat.le_of_eq rfl) (by decide)
  have k2 : ∀ t, Steps p.tables e below (T1.setTop (mkF m 4 #[.val (.ref r0)] [])) t → Steps p.tables e below (s₁.setTop (mkF m 0 #[.val (.ref r0)] [])) t := by
    intro t h
    show Steps p.tables e below (s₁.setTop (mkF m 0 #[.val (.ref r0)] [])) _
    refine XS.aloadN X0.here hx rfl (hb hby own_d2_0) rfl rfl ?_
    show Steps p.tables e below (s₁.setTop (mkF m 1 #[.val (.ref r0)] [(.ref r0)])) _
    refine st1 _ ?_
    exact h
  obtain ⟨fs, hr, hrun, hended, hW, hsame⟩ := X1.leave (v := none) (fun _ => rfl)
  refine ⟨_, _, pre0 _ (k2 _ ?_), hrun, hended, _, _, rfl, ?_, ⟨_, rfl⟩, hW, hsame.mono (by decide) (by decide)⟩
  · exact X1.returnOut hx Bd.returns (hb hby own_d2_4) hr
  · show Q_rmR Z _ h0 n0 _ T1.heap _
    rw [e1]
    exact ⟨rfl, N0, rfl⟩
def Q_rm1 (Z : State) (r0 : Addr) (p1 : Int32) (h0 : Heap) (n0 : Nat) (v : Option Value) (h : Heap) (L : List Loc) : Prop := v = none ∧ Fr n0 L ∧ Keep h0 h [r0] ∧ Exa Z h r0 "com/example/woodrat/woodrat/wire/PreLogin" ∧ Fld Z h r0 "com/example/woodrat/woodrat/wire/PreLogin" "encryption" "I" (.int p1)
set_option maxRecDepth 65536 in
set_option maxHeartbeats 40000000 in
theorem rm1 (l : Launch) (Z : State) (a0 : Array Value) (hw : ∀ d ∈ tables_1, d.before a0 Z = true) (ws : List Jvm.Cond) (r0 : Addr) (p1 : Int32) (h0 : Heap) (n0 : Nat) (Z0 : n0 ≤ h0.size) (F1 : Fld Z h0 r0 "com/example/woodrat/woodrat/wire/PreLogin" "encryption" "I" (.int 0)) (E1 : Exa Z h0 r0 "com/example/woodrat/woodrat/wire/PreLogin") (g_r0 : n0 ≤ r0) :
    MetFree l (⟨"com/example/woodrat/woodrat/wire/PreLogin", "<init>", "(I)V"⟩ : MethodName) (head1 (Jvm.Cond.code (⟨"com/example/woodrat/woodrat/wire/PreLogin", "<init>", "(I)V"⟩ : MethodName) prog_72_method_1_code 2 none :: ws) ({ frames := 2, cells := 0, slots := 0, locals := 24 } : Room)) (fun a U => a = #[(.ref r0), (.int p1)] ∧ Z.Warmed39 U.vm ∧ U.heap = h0) (fun _ _ _ _ _ => True) (fun _ U o U' => ∃ v L, o = .returned v ∧ Q_rm1 Z r0 p1 h0 n0 v U'.heap L ∧ FrameEnd U o U' L ({ frames := 2, cells := 0, slots := 0, locals := 24 } : Room).cells ({ frames := 2, cells := 0, slots := 0, locals := 24 } : Room).slots) := by
  refine MetFree.of_bodySF (plainFor_of_name own_pn_1) hisR ?_
  intro p e s m args below meth c s₁ Bd hml0 hP hK
  obtain ⟨rfl, hZ, hh⟩ := hP
  have hx := Bd.exec
  have hby := Bd.bytes
  have hml : c.maxLocals = 2 := hml0
  have hown : s.vm.findClass "com/example/woodrat/woodrat/wire/PreLogin" = some m.cls := findClass_of_methodNamed Bd.named
  have hnm := (name_of_methodNamed Bd.named Bd.method).1
  have X0 : Stand p l e ({ frames := 2, cells := 0, slots := 0, locals := 24 } : Room) s m #[(.ref r0), (.int p1)] below meth c s₁ [] 0 0 := Stand.of_body Bd
  have e0 : s₁.heap = h0 := by rw [← hh, Bd.state]; rfl
  have N0 := Fr.nil n0
  have K0 : Keep h0 h0 [r0] := Keep.refl h0 _
  have pre0 : ∀ t, Steps p.tables e below (s₁.setTop (mkF m 0 #[.val (.ref r0), .val (.int p1)] [])) t → Steps p.tables e below (s₁.setTop (entryFrame m #[(.ref r0), (.int p1)] 2)) t := fun t k => castTop (own_ef_1 m r0 p1) k
  obtain ⟨_, _, ⟨T3, L3, k3, n3⟩, -, X3, ⟨Lc3, hQ3, l3, y3, z3⟩, st3⟩ := X0.specialBack hx (y := (⟨"java/lang/Record", "<init>", "()V"⟩ : MethodName)) rfl hown (mvT hZ (hw _ (List.mem_of_getElem? (i := 6) rfl))) (mvT hZ (hw _ (List.mem_of_getElem? (i := 7) rfl))) (mvT hZ (hw _ (List.mem_of_getElem? (i := 10) rfl))) (by decide) (backOf (W := 0) (rmR l Z a0 hw [] r0  h0 n0 Z0 ) hZ (hw _ (List.mem_of_getElem? (i := 10) rfl)) (hw _ (List.mem_of_getElem? (i := 9) rfl)) (by decide) (by decide)) (g := (mkF m 1 #[.val (.ref r0), .val (.int p1)] [(.ref r0)])) rfl (by rw [hml]; rfl) (Steps.refl _) (a := r0) (argsL := []) (rest := []) (lenOf own_pd_0 rfl) rfl (by show 2 * 0 + _ ≤ _; exact Nat.le_of_eq rfl) (hb hby own_d1_1) (fun _ _ => ⟨rfl, e0, (by decide : 0 + 0 ≤ _), (by decide : 0 + 0 ≤ _)⟩)
  dsimp only [Pt.U, Pt.locs, Pt.cells, Pt.slots] at X3 l3 y3 z3 st3 hQ3
  subst l3 y3 z3
  obtain ⟨rfl, Nq3, eq3⟩ := hQ3
  have N3 := Fr.app N0 Nq3
  obtain ⟨T4, h4, X4, e4, W4, st4⟩ := putF X3 hx hZ hown (host := "") (Or.inl (hw _ (List.mem_of_getElem? (i := 14) rfl))) Via.refl eq3 F1 E1 (Or.inr ⟨(hw _ (List.mem_of_getElem? (i := 15) rfl)), rfl, hnm⟩) (hw _ (List.mem_of_getElem? (i := 1) rfl)) (ty := .int) (by decide) rfl rfl (g := (mkF m 6 #[.val (.ref r0), .val (.int p1)] [(.int p1), (.ref r0)])) rfl rfl (hb hby own_d1_6)
  have f5 := F1.same W4
  have f6 := E1.wr W4
  have Z7 : n0 ≤ h4.size := Nat.le_trans Z0 (Keep.of_wr W4).1
  have K8 := K0.wr W4 (Or.inl (List.mem_of_getElem? (i := 0) rfl))
  have N4 := Fr.snoc X4 N3 g_r0
  have k9 : ∀ t, Steps p.tables e below (T4.setTop (mkF m 9 #[.val (.ref r0), .val (.int p1)] [])) t → Steps p.tables e below (s₁.setTop (mkF m 0 #[.val (.ref r0), .val (.int p1)] [])) t := by
    intro t h
    show Steps p.tables e below (s₁.setTop (mkF m 0 #[.val (.ref r0), .val (.int p1)] [])) _
    refine XS.aloadN X0.here hx rfl (hb hby own_d1_0) rfl rfl ?_
    show Steps p.tables e below (s₁.setTop (mkF m 1 #[.val (.ref r0), .val (.int p1)] [(.ref r0)])) _
    refine st3.trans ?_
    show Steps p.tables e below (T3.setTop (mkF m 4 #[.val (.ref r0), .val (.int p1)] [])) _
    refine XS.aloadN X3.here hx rfl (hb hby own_d1_4) rfl rfl ?_
    show Steps p.tables e below (T3.setTop (mkF m 5 #[.val (.ref r0), .val (.int p1)] [(.ref r0)])) _
    refine XS.iloadN X3.here hx rfl (hb hby own_d1_5) rfl ?_
    show Steps p.tables e below (T3.setTop (mkF m 6 #[.val (.ref r0), .val (.int p1)] [(.int p1), (.ref r0)])) _
    refine st4 _ ?_
    exact h
  obtain ⟨fs, hr, hrun, hended, hW, hsame⟩ := X4.leave (v := none) (fun _ => rfl)
  refine ⟨_, _, pre0 _ (k9 _ ?_), hrun, hended, _, _, rfl, ?_, ⟨_, rfl⟩, hW, hsame.mono (by decide) (by decide)⟩
  · exact X4.returnOut hx Bd.returns (hb hby own_d1_9) hr
  · show Q_rm1 Z _ _ h0 n0 _ T4.heap _
    rw [e4]
    exact ⟨rfl, N4, K8, f6, f5⟩
def Q_rmA (Z : State) (r0 : Addr) (w1 : Int32) (h0 : Heap) (n0 : Nat) (v : Option Value) (h : Heap) (L : List Loc) : Prop := v = some (.int (own_asks (w1 &&& 3))) ∧ Fr n0 L ∧ h = h0
set_option maxRecDepth 65536 in
set_option maxHeartbeats 40000000 in
theorem rmA (l : Launch) (Z : State) (a0 : Array Value) (hw : ∀ d ∈ tables_1, d.before a0 Z = true) (ws : List Jvm.Cond) (r0 : Addr) (w1 : Int32) (h0 : Heap) (n0 : Nat) (Z0 : n0 ≤ h0.size) (F1 : Fld Z h0 r0 "com/example/woodrat/woodrat/wire/PreLogin" "encryption" "I" (.int w1)) :
    MetFree l (⟨"com/example/woodrat/woodrat/wire/PreLogin", "asksForEncryption", "()Z"⟩ : MethodName) (head1 (Jvm.Cond.code (⟨"com/example/woodrat/woodrat/wire/PreLogin", "asksForEncryption", "()Z"⟩ : MethodName) prog_72_method_3_code 2 (some .boolean) :: ws) ({ frames := 0, cells := 0, slots := 0, locals := 0 } : Room)) (fun a U => a = #[(.ref r0)] ∧ Z.Warmed39 U.vm ∧ U.heap = h0) (fun _ _ _ _ _ => True) (fun _ U o U' => ∃ v L, o = .returned v ∧ Q_rmA Z r0 w1 h0 n0 v U'.heap L ∧ FrameEnd U o U' L ({ frames := 0, cells := 0, slots := 0, locals := 0 } : Room).cells ({ frames := 0, cells := 0, slots := 0, locals := 0 } : Room).slots) := by
  refine MetFree.of_bodySF (plainFor_of_name own_pn_1) hisR ?_
  intro p e s m args below meth c s₁ Bd hml0 hP hK
  obtain ⟨rfl, hZ, hh⟩ := hP
  have hx := Bd.exec
  have hby := Bd.bytes
  have hml : c.maxLocals = 2 := hml0
  have hown : s.vm.findClass "com/example/woodrat/woodrat/wire/PreLogin" = some m.cls := findClass_of_methodNamed Bd.named
  have hnm := (name_of_methodNamed Bd.named Bd.method).1
  have X0 : Stand p l e ({ frames := 0, cells := 0, slots := 0, locals := 0 } : Room) s m #[(.ref r0)] below meth c s₁ [] 0 0 := Stand.of_body Bd
  have e0 : s₁.heap = h0 := by rw [← hh, Bd.state]; rfl
  have N0 := Fr.nil n0
  have K0 : Keep h0 h0 [] := Keep.refl h0 _
  have pre0 : ∀ t, Steps p.tables e below (s₁.setTop (mkF m 0 #[.val (.ref r0), .unset] [])) t → Steps p.tables e below (s₁.setTop (entryFrame m #[(.ref r0)] 2)) t := fun t k => castTop (own_ef_2 m r0) k
  obtain ⟨T10, X10, e10, st10⟩ := getF X0 hx hZ hown (host := "") (Or.inl (hw _ (List.mem_of_getElem? (i := 14) rfl))) Via.refl e0 F1 (g := (mkF m 1 #[.val (.ref r0), .unset] [(.ref r0)])) rfl rfl (hb hby own_d4_1)
  have k11 : ∀ t, Steps p.tables e below (T10.setTop (mkF m 9 #[.val (.ref r0), .val (.int (w1 &&& (3 : Int32)))] [(.int (1 : Int32)), (.int (w1 &&& (3 : Int32)))])) t → Steps p.tables e below (s₁.setTop (mkF m 0 #[.val (.ref r0), .unset] [])) t := by
    intro t h
    show Steps p.tables e below (s₁.setTop (mkF m 0 #[.val (.ref r0), .unset] [])) _
    refine XS.aloadN X0.here hx rfl (hb hby own_d4_0) rfl rfl ?_
    show Steps p.tables e below (s₁.setTop (mkF m 1 #[.val (.ref r0), .unset] [(.ref r0)])) _
    refine st10 _ ?_
    show Steps p.tables e below (T10.setTop (mkF m 4 #[.val (.ref r0), .unset] [(.int w1)])) _
    refine XS.iconst X10.here hx rfl (hb hby own_d4_4) ?_
    show Steps p.tables e below (T10.setTop (mkF m 5 #[.val (.ref r0), .unset] [(.int (3 : Int32)), (.int w1)])) _
    refine XS.iand X10.here hx rfl (hb hby own_d4_5) rfl ?_
    show Steps p.tables e below (T10.setTop (mkF m 6 #[.val (.ref r0), .unset] [(.int (w1 &&& (3 : Int32)))])) _
    refine XS.istoreN X10.here hx rfl (hb hby own_d4_6) rfl (l' := #[.val (.ref r0), .val (.int (w1 &&& (3 : Int32)))]) rfl ?_
    show Steps p.tables e below (T10.setTop (mkF m 7 #[.val (.ref r0), .val (.int (w1 &&& (3 : Int32)))] [])) _
    refine XS.iloadN X10.here hx rfl (hb hby own_d4_7) rfl ?_
    show Steps p.tables e below (T10.setTop (mkF m 8 #[.val (.ref r0), .val (.int (w1 &&& (3 : Int32)))] [(.int (w1 &&& (3 : Int32)))])) _
    refine XS.iconst X10.here hx rfl (hb hby own_d4_8) ?_
    exact h
  by_cases c9_12 : (w1 &&& (3 : Int32)) = (1 : Int32)
  · skip
    have k13 : ∀ t, Steps p.tables e below (T10.setTop (mkF m 22 #[.val (.ref r0), .val (.int (w1 &&& (3 : Int32)))] [(.int (1 : Int32))])) t → Steps p.tables e below (s₁.setTop (mkF m 0 #[.val (.ref r0), .unset] [])) t := by
      intro t h
      refine k11 t ?_
      show Steps p.tables e below (T10.setTop (mkF m 9 #[.val (.ref r0), .val (.int (w1 &&& (3 : Int32)))] [(.int (1 : Int32)), (.int (w1 &&& (3 : Int32)))])) _
      refine XS.icmpYes X10.here hx rfl (pc0 := 9) (pc' := 17) rfl (hb hby own_d4_9) rfl (teq c9_12).1 (by decide) (by decide) ?_
      show Steps p.tables e below (T10.setTop (mkF m 17 #[.val (.ref r0), .val (.int (w1 &&& (3 : Int32)))] [])) _
      refine XS.iconst X10.here hx rfl (hb hby own_d4_17) ?_
      show Steps p.tables e below (T10.setTop (mkF m 18 #[.val (.ref r0), .val (.int (w1 &&& (3 : Int32)))] [(.int (1 : Int32))])) _
      refine XS.goto X10.here hx rfl (pc0 := 18) (pc' := 22) rfl (hb hby own_d4_18) (by decide) (by decide) ?_
      exact h
    obtain ⟨fs, hr, hrun, hended, hW, hsame⟩ := X10.leave (v := some (.int (1 : Int32))) (fun h => by rw [Bd.returns] at h; cases h)
    refine ⟨_, _, pre0 _ (k13 _ ?_), hrun, hended, _, _, rfl, ?_, ⟨_, rfl⟩, hW, hsame.mono (by decide) (by decide)⟩
    · exact retN X10 hx (t := .boolean) Bd.returns (by simp) (hb hby own_d4_22) hr
    · show Q_rmA Z _ _ h0 n0 _ T10.heap _
      rw [e10]
      exact ⟨congrArg (fun z : Int32 => some (Value.int z)) (by simp [own_asks, c9_12]), N0, rfl⟩
  · skip
    have k14 : ∀ t, Steps p.tables e below (T10.setTop (mkF m 14 #[.val (.ref r0), .val (.int (w1 &&& (3 : Int32)))] [(.int (3 : Int32)), (.int (w1 &&& (3 : Int32)))])) t → Steps p.tables e below (s₁.setTop (mkF m 0 #[.val (.ref r0), .unset] [])) t := by
      intro t h
      refine k11 t ?_
      show Steps p.tables e below (T10.setTop (mkF m 9 #[.val (.ref r0), .val (.int (w1 &&& (3 : Int32)))] [(.int (1 : Int32)), (.int (w1 &&& (3 : Int32)))])) _
      refine XS.icmpNo X10.here hx rfl (hb hby own_d4_9) rfl (feq c9_12).1 ?_
      show Steps p.tables e below (T10.setTop (mkF m 12 #[.val (.ref r0), .val (.int (w1 &&& (3 : Int32)))] [])) _
      refine XS.iloadN X10.here hx rfl (hb hby own_d4_12) rfl ?_
      show Steps p.tables e below (T10.setTop (mkF m 13 #[.val (.ref r0), .val (.int (w1 &&& (3 : Int32)))] [(.int (w1 &&& (3 : Int32)))])) _
      refine XS.iconst X10.here hx rfl (hb hby own_d4_13) ?_
      exact h
    by_cases c14_15 : (w1 &&& (3 : Int32)) = (3 : Int32)
    · skip
      have k16 : ∀ t, Steps p.tables e below (T10.setTop (mkF m 22 #[.val (.ref r0), .val (.int (w1 &&& (3 : Int32)))] [(.int (1 : Int32))])) t → Steps p.tables e below (s₁.setTop (mkF m 0 #[.val (.ref r0), .unset] [])) t := by
        intro t h
        refine k14 t ?_
        show Steps p.tables e below (T10.setTop (mkF m 14 #[.val (.ref r0), .val (.int (w1 &&& (3 : Int32)))] [(.int (3 : Int32)), (.int (w1 &&& (3 : Int32)))])) _
        refine XS.icmpNo X10.here hx rfl (hb hby own_d4_14) rfl (teq c14_15).2 ?_
        show Steps p.tables e below (T10.setTop (mkF m 17 #[.val (.ref r0), .val (.int (w1 &&& (3 : Int32)))] [])) _
        refine XS.iconst X10.here hx rfl (hb hby own_d4_17) ?_
        show Steps p.tables e below (T10.setTop (mkF m 18 #[.val (.ref r0), .val (.int (w1 &&& (3 : Int32)))] [(.int (1 : Int32))])) _
        refine XS.goto X10.here hx rfl (pc0 := 18) (pc' := 22) rfl (hb hby own_d4_18) (by decide) (by decide) ?_
        exact h
      obtain ⟨fs, hr, hrun, hended, hW, hsame⟩ := X10.leave (v := some (.int (1 : Int32))) (fun h => by rw [Bd.returns] at h; cases h)
      refine ⟨_, _, pre0 _ (k16 _ ?_), hrun, hended, _, _, rfl, ?_, ⟨_, rfl⟩, hW, hsame.mono (by decide) (by decide)⟩
      · exact retN X10 hx (t := .boolean) Bd.returns (by simp) (hb hby own_d4_22) hr
      · show Q_rmA Z _ _ h0 n0 _ T10.heap _
        rw [e10]
        exact ⟨congrArg (fun z : Int32 => some (Value.int z)) (by simp [own_asks, c9_12, c14_15]), N0, rfl⟩
    · skip
      have k17 : ∀ t, Steps p.tables e below (T10.setTop (mkF m 22 #[.val (.ref r0), .val (.int (w1 &&& (3 : Int32)))] [(.int (0 : Int32))])) t → Steps p.tables e below (s₁.setTop (mkF m 0 #[.val (.ref r0), .unset] [])) t := by
        intro t h
        refine k14 t ?_
        show Steps p.tables e below (T10.setTop (mkF m 14 #[.val (.ref r0), .val (.int (w1 &&& (3 : Int32)))] [(.int (3 : Int32)), (.int (w1 &&& (3 : Int32)))])) _
        refine XS.icmpYes X10.here hx rfl (pc0 := 14) (pc' := 21) rfl (hb hby own_d4_14) rfl (feq c14_15).2 (by decide) (by decide) ?_
        show Steps p.tables e below (T10.setTop (mkF m 21 #[.val (.ref r0), .val (.int (w1 &&& (3 : Int32)))] [])) _
        refine XS.iconst X10.here hx rfl (hb hby own_d4_21) ?_
        exact h
      obtain ⟨fs, hr, hrun, hended, hW, hsame⟩ := X10.leave (v := some (.int (0 : Int32))) (fun h => by rw [Bd.returns] at h; cases h)
      refine ⟨_, _, pre0 _ (k17 _ ?_), hrun, hended, _, _, rfl, ?_, ⟨_, rfl⟩, hW, hsame.mono (by decide) (by decide)⟩
      · exact retN X10 hx (t := .boolean) Bd.returns (by simp) (hb hby own_d4_22) hr
      · show Q_rmA Z _ _ h0 n0 _ T10.heap _
        rw [e10]
        exact ⟨congrArg (fun z : Int32 => some (Value.int z)) (by simp [own_asks, c9_12, c14_15]), N0, rfl⟩
def Q_rmS (Z : State) (r0 : Addr) (w1 : Int32) (h0 : Heap) (n0 : Nat) (v : Option Value) (h : Heap) (L : List Loc) : Prop := v = some (.int (own_sup (w1 &&& 3))) ∧ Fr n0 L ∧ h = h0
set_option maxRecDepth 65536 in
set_option maxHeartbeats 40000000 in
theorem rmS (l : Launch) (Z : State) (a0 : Array Value) (hw : ∀ d ∈ tables_1, d.before a0 Z = true) (ws : List Jvm.Cond) (r0 : Addr) (w1 : Int32) (h0 : Heap) (n0 : Nat) (Z0 : n0 ≤ h0.size) (F1 : Fld Z h0 r0 "com/example/woodrat/woodrat/wire/PreLogin" "encryption" "I" (.int w1)) :
    MetFree l (⟨"com/example/woodrat/woodrat/wire/PreLogin", "supportsEncryption", "()Z"⟩ : MethodName) (head1 (Jvm.Cond.code (⟨"com/example/woodrat/woodrat/wire/PreLogin", "supportsEncryption", "()Z"⟩ : MethodName) prog_72_method_4_code 1 (some .boolean) :: ws) ({ frames := 0, cells := 0, slots := 0, locals := 0 } : Room)) (fun a U => a = #[(.ref r0)] ∧ Z.Warmed39 U.vm ∧ U.heap = h0) (fun _ _ _ _ _ => True) (fun _ U o U' => ∃ v L, o = .returned v ∧ Q_rmS Z r0 w1 h0 n0 v U'.heap L ∧ FrameEnd U o U' L ({ frames := 0, cells := 0, slots := 0, locals := 0 } : Room).cells ({ frames := 0, cells := 0, slots := 0, locals := 0 } : Room).slots) := by
  refine MetFree.of_bodySF (plainFor_of_name own_pn_1) hisR ?_
  intro p e s m args below meth c s₁ Bd hml0 hP hK
  obtain ⟨rfl, hZ, hh⟩ := hP
  have hx := Bd.exec
  have hby := Bd.bytes
  have hml : c.maxLocals = 1 := hml0
  have hown : s.vm.findClass "com/example/woodrat/woodrat/wire/PreLogin" = some m.cls := findClass_of_methodNamed Bd.named
  have hnm := (name_of_methodNamed Bd.named Bd.method).1
  have X0 : Stand p l e ({ frames := 0, cells := 0, slots := 0, locals := 0 } : Room) s m #[(.ref r0)] below meth c s₁ [] 0 0 := Stand.of_body Bd
  have e0 : s₁.heap = h0 := by rw [← hh, Bd.state]; rfl
  have N0 := Fr.nil n0
  have K0 : Keep h0 h0 [] := Keep.refl h0 _
  have pre0 : ∀ t, Steps p.tables e below (s₁.setTop (mkF m 0 #[.val (.ref r0)] [])) t → Steps p.tables e below (s₁.setTop (entryFrame m #[(.ref r0)] 1)) t := fun t k => castTop (own_ef_0 m r0) k
  obtain ⟨T18, X18, e18, st18⟩ := getF X0 hx hZ hown (host := "") (Or.inl (hw _ (List.mem_of_getElem? (i := 14) rfl))) Via.refl e0 F1 (g := (mkF m 1 #[.val (.ref r0)] [(.ref r0)])) rfl rfl (hb hby own_d5_1)
  have k19 : ∀ t, Steps p.tables e below (T18.setTop (mkF m 7 #[.val (.ref r0)] [(.int (2 : Int32)), (.int (w1 &&& (3 : Int32)))])) t → Steps p.tables e below (s₁.setTop (mkF m 0 #[.val (.ref r0)] [])) t := by
    intro t h
    show Steps p.tables e below (s₁.setTop (mkF m 0 #[.val (.ref r0)] [])) _
    refine XS.aloadN X0.here hx rfl (hb hby own_d5_0) rfl rfl ?_
    show Steps p.tables e below (s₁.setTop (mkF m 1 #[.val (.ref r0)] [(.ref r0)])) _
    refine st18 _ ?_
    show Steps p.tables e below (T18.setTop (mkF m 4 #[.val (.ref r0)] [(.int w1)])) _
    refine XS.iconst X18.here hx rfl (hb hby own_d5_4) ?_
    show Steps p.tables e below (T18.setTop (mkF m 5 #[.val (.ref r0)] [(.int (3 : Int32)), (.int w1)])) _
    refine XS.iand X18.here hx rfl (hb hby own_d5_5) rfl ?_
    show Steps p.tables e below (T18.setTop (mkF m 6 #[.val (.ref r0)] [(.int (w1 &&& (3 : Int32)))])) _
    refine XS.iconst X18.here hx rfl (hb hby own_d5_6) ?_
    exact h
  by_cases c7_20 : (w1 &&& (3 : Int32)) = (2 : Int32)
  · skip
    have k21 : ∀ t, Steps p.tables e below (T18.setTop (mkF m 15 #[.val (.ref r0)] [(.int (0 : Int32))])) t → Steps p.tables e below (s₁.setTop (mkF m 0 #[.val (.ref r0)] [])) t := by
      intro t h
      refine k19 t ?_
      show Steps p.tables e below (T18.setTop (mkF m 7 #[.val (.ref r0)] [(.int (2 : Int32)), (.int (w1 &&& (3 : Int32)))])) _
      refine XS.icmpYes X18.here hx rfl (pc0 := 7) (pc' := 14) rfl (hb hby own_d5_7) rfl (teq c7_20).1 (by decide) (by decide) ?_
      show Steps p.tables e below (T18.setTop (mkF m 14 #[.val (.ref r0)] [])) _
      refine XS.iconst X18.here hx rfl (hb hby own_d5_14) ?_
      exact h
    obtain ⟨fs, hr, hrun, hended, hW, hsame⟩ := X18.leave (v := some (.int (0 : Int32))) (fun h => by rw [Bd.returns] at h; cases h)
    refine ⟨_, _, pre0 _ (k21 _ ?_), hrun, hended, _, _, rfl, ?_, ⟨_, rfl⟩, hW, hsame.mono (by decide) (by decide)⟩
    · exact retN X18 hx (t := .boolean) Bd.returns (by simp) (hb hby own_d5_15) hr
    · show Q_rmS Z _ _ h0 n0 _ T18.heap _
      rw [e18]
      exact ⟨congrArg (fun z : Int32 => some (Value.int z)) (by simp [own_sup, c7_20]), N0, rfl⟩
  · skip
    have k22 : ∀ t, Steps p.tables e below (T18.setTop (mkF m 15 #[.val (.ref r0)] [(.int (1 : Int32))])) t → Steps p.tables e below (s₁.setTop (mkF m 0 #[.val (.ref r0)] [])) t := by
      intro t h
      refine k19 t ?_
      show Steps p.tables e below (T18.setTop (mkF m 7 #[.val (.ref r0)] [(.int (2 : Int32)), (.int (w1 &&& (3 : Int32)))])) _
      refine XS.icmpNo X18.here hx rfl (hb hby own_d5_7) rfl (feq c7_20).1 ?_
      show Steps p.tables e below (T18.setTop (mkF m 10 #[.val (.ref r0)] [])) _
      refine XS.iconst X18.here hx rfl (hb hby own_d5_10) ?_
      show Steps p.tables e below (T18.setTop (mkF m 11 #[.val (.ref r0)] [(.int (1 : Int32))])) _
      refine XS.goto X18.here hx rfl (pc0 := 11) (pc' := 15) rfl (hb hby own_d5_11) (by decide) (by decide) ?_
      exact h
    obtain ⟨fs, hr, hrun, hended, hW, hsame⟩ := X18.leave (v := some (.int (1 : Int32))) (fun h => by rw [Bd.returns] at h; cases h)
    refine ⟨_, _, pre0 _ (k22 _ ?_), hrun, hended, _, _, rfl, ?_, ⟨_, rfl⟩, hW, hsame.mono (by decide) (by decide)⟩
    · exact retN X18 hx (t := .boolean) Bd.returns (by simp) (hb hby own_d5_15) hr
    · show Q_rmS Z _ _ h0 n0 _ T18.heap _
      rw [e18]
      exact ⟨congrArg (fun z : Int32 => some (Value.int z)) (by simp [own_sup, c7_20]), N0, rfl⟩
def Q_rm0 (Z : State) (p0 : Int32) (h0 : Heap) (n0 : Nat) (v : Option Value) (h : Heap) (L : List Loc) : Prop := v = some (.int 1) ∧ Fr n0 L
set_option maxRecDepth 65536 in
set_option maxHeartbeats 40000000 in
theorem rm0 (l : Launch) (Z : State) (a0 : Array Value) (hw : ∀ d ∈ tables_1, d.before a0 Z = true) (ws : List Jvm.Cond) (p0 : Int32) (h0 : Heap) (n0 : Nat) (Z0 : n0 ≤ h0.size) :
    MetFree l x (head1 (Jvm.Cond.code x code maxLocals ret :: ws) room_1) (fun a U => a = #[(.int p0)] ∧ Z.Warmed39 U.vm ∧ U.heap = h0) (fun _ _ _ _ _ => True) (fun _ U o U' => ∃ v L, o = .returned v ∧ Q_rm0 Z p0 h0 n0 v U'.heap L ∧ FrameEnd U o U' L 1 1) := by
  refine MetFree.of_bodySF (plainFor_of_name own_pn_2) hisR ?_
  intro p e s m args below meth c s₁ Bd hml0 hP hK
  obtain ⟨rfl, hZ, hh⟩ := hP
  have hx := Bd.exec
  have hby := Bd.bytes
  have hml : c.maxLocals = 5 := hml0
  have hown : s.vm.findClass "com/example/woodrat/woodrat/wire/PreLoginAsksForEncryptionPinLaw" = some m.cls := findClass_of_methodNamed Bd.named
  have hnm := (name_of_methodNamed Bd.named Bd.method).1
  have X0 : Stand p l e room_1 s m #[(.int p0)] below meth c s₁ [] 0 0 := Stand.of_body Bd
  have e0 : s₁.heap = h0 := by rw [← hh, Bd.state]; rfl
  have N0 := Fr.nil n0
  have K0 : Keep h0 h0 [] := Keep.refl h0 _
  have pre0 : ∀ t, Steps p.tables e below (s₁.setTop (mkF m 0 #[.val (.int p0), .unset, .unset, .unset, .unset] [])) t → Steps p.tables e below (s₁.setTop (entryFrame m #[(.int p0)] maxLocals)) t := fun t k => castTop (own_ef_3 m p0) k
  obtain ⟨T23, h23, X23, e23, E23, A23, D23, -, st23⟩ := newO X0 hx hZ hown (hw _ (List.mem_of_getElem? (i := 0) rfl)) (hw _ (List.mem_of_getElem? (i := 1) rfl)) (hw _ (List.mem_of_getElem? (i := 2) rfl)) e0 (g := (mkF m 0 #[.val (.int p0), .unset, .unset, .unset, .unset] [])) rfl (hb hby at_0) (by decide) (by decide)
  obtain ⟨b23, g23⟩ : ∃ z, z = h0.size := ⟨_, rfl⟩
  rw [← g23] at A23 D23 st23
  have g_b23 : n0 ≤ b23 := Nat.le_trans Z0 (Nat.le_of_eq g23.symm)
  have sz_b23 : h0.size ≤ b23 := Nat.le_trans K0.1 (Nat.le_of_eq g23.symm)
  have Z24 : n0 ≤ h23.size := Nat.le_trans Z0 E23.1
  have K25 := K0.ext E23
  have f26 : Fld Z h23 b23 "com/example/woodrat/woodrat/wire/PreLogin" "encryption" "I" (.int (0 : Int32)) := D23 (Or.inr (hw _ (List.mem_of_getElem? (i := 15) rfl))) (ty := .int) (by decide)
  obtain ⟨_, _, ⟨T27, L27, k27, n27⟩, -, X27, ⟨Lc27, hQ27, l27, y27, z27⟩, st27⟩ := X23.specialBack hx (y := (⟨"com/example/woodrat/woodrat/wire/PreLogin", "<init>", "(I)V"⟩ : MethodName)) rfl hown (mvT hZ (hw _ (List.mem_of_getElem? (i := 3) rfl))) (mvT hZ (hw _ (List.mem_of_getElem? (i := 4) rfl))) (mvT hZ (hw _ (List.mem_of_getElem? (i := 5) rfl))) (by decide) (backOf (W := 1) (rm1 l Z a0 hw [] b23 p0  h23 n0 Z24 f26 A23 g_b23) hZ (hw _ (List.mem_of_getElem? (i := 5) rfl)) (hw _ (List.mem_of_getElem? (i := 2) rfl)) (by decide) (by decide)) (g := (mkF m 5 #[.val (.int p0), .unset, .unset, .unset, .unset] [(.int p0), (.ref b23), (.ref b23)])) rfl (by rw [hml]; rfl) (Steps.refl _) (a := b23) (argsL := [(.int p0)]) (rest := [(.ref b23)]) (lenOf own_pd_1 rfl) rfl (by show 2 * 0 + _ ≤ _; exact Nat.le_of_eq rfl) (hb hby at_5) (fun _ _ => ⟨rfl, e23, (by decide : 1 + 0 ≤ _), (by decide : 1 + 0 ≤ _)⟩)
  dsimp only [Pt.U, Pt.locs, Pt.cells, Pt.slots] at X27 l27 y27 z27 st27 hQ27
  subst l27 y27 z27
  obtain ⟨rfl, Nq27, Kq27, Eq27, Fq27⟩ := hQ27
  have N27 := Fr.app N0 Nq27
  have f28 := A23.keep Kq27
  have Z29 : n0 ≤ T27.heap.size := Nat.le_trans Z24 Kq27.1
  have K30 := K25.trans Kq27 (allS (Or.inr sz_b23) all0)
  obtain ⟨cq31, kq31, q31a, q31b, q31c⟩ := isOf hZ rfl f28
  obtain ⟨_, _, ⟨T31, L31, k31, n31⟩, -, X31, ⟨Lc31, hQ31, l31, y31, z31⟩, st31⟩ := X27.virtualBack hx (y := (⟨"com/example/woodrat/woodrat/wire/PreLogin", "asksForEncryption", "()Z"⟩ : MethodName)) (z := (⟨"com/example/woodrat/woodrat/wire/PreLogin", "asksForEncryption", "()Z"⟩ : MethodName)) hown (mvT hZ (hw _ (List.mem_of_getElem? (i := 16) rfl))) (mvT hZ (hw _ (List.mem_of_getElem? (i := 17) rfl))) (notFace_of_selects (args := #[]) (mvT hZ (hw _ (List.mem_of_getElem? (i := 19) rfl)))) (mvT hZ (hw _ (List.mem_of_getElem? (i := 19) rfl))) (mvT hZ (hw _ (List.mem_of_getElem? (i := 18) rfl))) (by decide) (backOf (W := 0) (rmA l Z a0 hw [] b23 p0 T27.heap n0 Z29 Fq27) hZ (hw _ (List.mem_of_getElem? (i := 20) rfl)) (hw _ (List.mem_of_getElem? (i := 2) rfl)) (by decide) (by decide)) q31a q31c (g := (mkF m 10 #[.val (.int p0), .val (.ref b23), .unset, .unset, .unset] [(.ref b23)])) rfl (by rw [hml]; rfl) (Steps.refl _) (argsL := []) (rest := []) (lenOf own_pd_2 rfl) rfl (by show 2 * 0 + _ ≤ _; exact Nat.le_of_eq rfl) (hb hby at_10) (fun _ _ => ⟨rfl, rfl, (by decide : 1 + 0 ≤ _), (by decide : 1 + 0 ≤ _)⟩)
  dsimp only [Pt.U, Pt.locs, Pt.cells, Pt.slots] at X31 l31 y31 z31 st31 hQ31
  subst l31 y31 z31
  obtain ⟨rfl, Nq31, eq31⟩ := hQ31
  have N31 := Fr.app N27 Nq31
  obtain ⟨cq32, kq32, q32a, q32b, q32c⟩ := isOf hZ eq31 f28
  obtain ⟨_, _, ⟨T32, L32, k32, n32⟩, -, X32, ⟨Lc32, hQ32, l32, y32, z32⟩, st32⟩ := X31.virtualBack hx (y := (⟨"com/example/woodrat/woodrat/wire/PreLogin", "supportsEncryption", "()Z"⟩ : MethodName)) (z := (⟨"com/example/woodrat/woodrat/wire/PreLogin", "supportsEncryption", "()Z"⟩ : MethodName)) hown (mvT hZ (hw _ (List.mem_of_getElem? (i := 21) rfl))) (mvT hZ (hw _ (List.mem_of_getElem? (i := 22) rfl))) (notFace_of_selects (args := #[]) (mvT hZ (hw _ (List.mem_of_getElem? (i := 24) rfl)))) (mvT hZ (hw _ (List.mem_of_getElem? (i := 24) rfl))) (mvT hZ (hw _ (List.mem_of_getElem? (i := 23) rfl))) (by decide) (backOf (W := 0) (rmS l Z a0 hw [] b23 p0 T27.heap n0 Z29 Fq27) hZ (hw _ (List.mem_of_getElem? (i := 25) rfl)) (hw _ (List.mem_of_getElem? (i := 2) rfl)) (by decide) (by decide)) q32a q32c (g := (mkF m 15 #[.val (.int p0), .val (.ref b23), .val (.int (own_asks (p0 &&& 3))), .unset, .unset] [(.ref b23)])) rfl (by rw [hml]; rfl) (Steps.refl _) (argsL := []) (rest := []) (lenOf own_pd_2 rfl) rfl (by show 2 * 0 + _ ≤ _; exact Nat.le_of_eq rfl) (hb hby at_15) (fun _ _ => ⟨rfl, eq31, (by decide : 1 + 0 ≤ _), (by decide : 1 + 0 ≤ _)⟩)
  dsimp only [Pt.U, Pt.locs, Pt.cells, Pt.slots] at X32 l32 y32 z32 st32 hQ32
  subst l32 y32 z32
  obtain ⟨rfl, Nq32, eq32⟩ := hQ32
  have N32 := Fr.app N31 Nq32
  have k33 : ∀ t, Steps p.tables e below (T32.setTop (mkF m 22 #[.val (.int p0), .val (.ref b23), .val (.int (own_asks (p0 &&& 3))), .val (.int (own_sup (p0 &&& 3))), .unset] [(.int (p0 &&& (1 : Int32)))])) t → Steps p.tables e below (s₁.setTop (mkF m 0 #[.val (.int p0), .unset, .unset, .unset, .unset] [])) t := by
    intro t h
    show Steps p.tables e below (s₁.setTop (mkF m 0 #[.val (.int p0), .unset, .unset, .unset, .unset] [])) _
    refine st23 _ ?_
    show Steps p.tables e below (T23.setTop (mkF m 3 #[.val (.int p0), .unset, .unset, .unset, .unset] [(.ref b23)])) _
    refine XS.dup X23.here hx rfl (hb hby at_3) rfl rfl ?_
    show Steps p.tables e below (T23.setTop (mkF m 4 #[.val (.int p0), .unset, .unset, .unset, .unset] [(.ref b23), (.ref b23)])) _
    refine XS.iloadN X23.here hx rfl (hb hby at_4) rfl ?_
    show Steps p.tables e below (T23.setTop (mkF m 5 #[.val (.int p0), .unset, .unset, .unset, .unset] [(.int p0), (.ref b23), (.ref b23)])) _
    refine st27.trans ?_
    show Steps p.tables e below (T27.setTop (mkF m 8 #[.val (.int p0), .unset, .unset, .unset, .unset] [(.ref b23)])) _
    refine XS.astoreN X27.here hx rfl (hb hby at_8) rfl rfl (l' := #[.val (.int p0), .val (.ref b23), .unset, .unset, .unset]) rfl ?_
    show Steps p.tables e below (T27.setTop (mkF m 9 #[.val (.int p0), .val (.ref b23), .unset, .unset, .unset] [])) _
    refine XS.aloadN X27.here hx rfl (hb hby at_9) rfl rfl ?_
    show Steps p.tables e below (T27.setTop (mkF m 10 #[.val (.int p0), .val (.ref b23), .unset, .unset, .unset] [(.ref b23)])) _
    refine st31.trans ?_
    show Steps p.tables e below (T31.setTop (mkF m 13 #[.val (.int p0), .val (.ref b23), .unset, .unset, .unset] [(.int (own_asks (p0 &&& 3)))])) _
    refine XS.istoreN X31.here hx rfl (hb hby at_13) rfl (l' := #[.val (.int p0), .val (.ref b23), .val (.int (own_asks (p0 &&& 3))), .unset, .unset]) rfl ?_
    show Steps p.tables e below (T31.setTop (mkF m 14 #[.val (.int p0), .val (.ref b23), .val (.int (own_asks (p0 &&& 3))), .unset, .unset] [])) _
    refine XS.aloadN X31.here hx rfl (hb hby at_14) rfl rfl ?_
    show Steps p.tables e below (T31.setTop (mkF m 15 #[.val (.int p0), .val (.ref b23), .val (.int (own_asks (p0 &&& 3))), .unset, .unset] [(.ref b23)])) _
    refine st32.trans ?_
    show Steps p.tables e below (T32.setTop (mkF m 18 #[.val (.int p0), .val (.ref b23), .val (.int (own_asks (p0 &&& 3))), .unset, .unset] [(.int (own_sup (p0 &&& 3)))])) _
    refine XS.istoreN X32.here hx rfl (hb hby at_18) rfl (l' := #[.val (.int p0), .val (.ref b23), .val (.int (own_asks (p0 &&& 3))), .val (.int (own_sup (p0 &&& 3))), .unset]) rfl ?_
    show Steps p.tables e below (T32.setTop (mkF m 19 #[.val (.int p0), .val (.ref b23), .val (.int (own_asks (p0 &&& 3))), .val (.int (own_sup (p0 &&& 3))), .unset] [])) _
    refine XS.iloadN X32.here hx rfl (hb hby at_19) rfl ?_
    show Steps p.tables e below (T32.setTop (mkF m 20 #[.val (.int p0), .val (.ref b23), .val (.int (own_asks (p0 &&& 3))), .val (.int (own_sup (p0 &&& 3))), .unset] [(.int p0)])) _
    refine XS.iconst X32.here hx rfl (hb hby at_20) ?_
    show Steps p.tables e below (T32.setTop (mkF m 21 #[.val (.int p0), .val (.ref b23), .val (.int (own_asks (p0 &&& 3))), .val (.int (own_sup (p0 &&& 3))), .unset] [(.int (1 : Int32)), (.int p0)])) _
    refine XS.iand X32.here hx rfl (hb hby at_21) rfl ?_
    exact h
  by_cases c22_34 : (p0 &&& (1 : Int32)) = (0 : Int32)
  · skip
    have k35 : ∀ t, Steps p.tables e below (T32.setTop (mkF m 35 #[.val (.int p0), .val (.ref b23), .val (.int (own_asks (p0 &&& 3))), .val (.int (own_sup (p0 &&& 3))), .val (.int (0 : Int32))] [(.int (0 : Int32)), (.int (own_asks (p0 &&& 3)))])) t → Steps p.tables e below (s₁.setTop (mkF m 0 #[.val (.int p0), .unset, .unset, .unset, .unset] [])) t := by
      intro t h
      refine k33 t ?_
      show Steps p.tables e below (T32.setTop (mkF m 22 #[.val (.int p0), .val (.ref b23), .val (.int (own_asks (p0 &&& 3))), .val (.int (own_sup (p0 &&& 3))), .unset] [(.int (p0 &&& (1 : Int32)))])) _
      refine XS.ifYes X32.here hx rfl (pc0 := 22) (pc' := 29) rfl (hb hby at_22) rfl ((if0 _ _).trans (teq c22_34).1) (by decide) (by decide) ?_
      show Steps p.tables e below (T32.setTop (mkF m 29 #[.val (.int p0), .val (.ref b23), .val (.int (own_asks (p0 &&& 3))), .val (.int (own_sup (p0 &&& 3))), .unset] [])) _
      refine XS.iconst X32.here hx rfl (hb hby at_29) ?_
      show Steps p.tables e below (T32.setTop (mkF m 30 #[.val (.int p0), .val (.ref b23), .val (.int (own_asks (p0 &&& 3))), .val (.int (own_sup (p0 &&& 3))), .unset] [(.int (0 : Int32))])) _
      refine XS.istore X32.here hx rfl (hb hby at_30) rfl (l' := #[.val (.int p0), .val (.ref b23), .val (.int (own_asks (p0 &&& 3))), .val (.int (own_sup (p0 &&& 3))), .val (.int (0 : Int32))]) rfl ?_
      show Steps p.tables e below (T32.setTop (mkF m 32 #[.val (.int p0), .val (.ref b23), .val (.int (own_asks (p0 &&& 3))), .val (.int (own_sup (p0 &&& 3))), .val (.int (0 : Int32))] [])) _
      refine XS.iloadN X32.here hx rfl (hb hby at_32) rfl ?_
      show Steps p.tables e below (T32.setTop (mkF m 33 #[.val (.int p0), .val (.ref b23), .val (.int (own_asks (p0 &&& 3))), .val (.int (own_sup (p0 &&& 3))), .val (.int (0 : Int32))] [(.int (own_asks (p0 &&& 3)))])) _
      refine XS.iload X32.here hx rfl (hb hby at_33) rfl ?_
      exact h
    have b35_36 : (own_asks (p0 &&& 3)) = (0 : Int32) := (own_all p0).1 c22_34
    have k37 : ∀ t, Steps p.tables e below (T32.setTop (mkF m 41 #[.val (.int p0), .val (.ref b23), .val (.int (own_asks (p0 &&& 3))), .val (.int (own_sup (p0 &&& 3))), .val (.int (0 : Int32))] [(.int (own_asks (p0 &&& 3)))])) t → Steps p.tables e below (s₁.setTop (mkF m 0 #[.val (.int p0), .unset, .unset, .unset, .unset] [])) t := by
      intro t h
      refine k35 t ?_
      show Steps p.tables e below (T32.setTop (mkF m 35 #[.val (.int p0), .val (.ref b23), .val (.int (own_asks (p0 &&& 3))), .val (.int (own_sup (p0 &&& 3))), .val (.int (0 : Int32))] [(.int (0 : Int32)), (.int (own_asks (p0 &&& 3)))])) _
      refine XS.icmpYes X32.here hx rfl (pc0 := 35) (pc' := 40) rfl (hb hby at_35) rfl (teq b35_36).1 (by decide) (by decide) ?_
      show Steps p.tables e below (T32.setTop (mkF m 40 #[.val (.int p0), .val (.ref b23), .val (.int (own_asks (p0 &&& 3))), .val (.int (own_sup (p0 &&& 3))), .val (.int (0 : Int32))] [])) _
      refine XS.iloadN X32.here hx rfl (hb hby at_40) rfl ?_
      exact h
    have b41_38 : (own_asks (p0 &&& 3)) = (0 : Int32) := (own_all p0).1 c22_34
    have k39 : ∀ t, Steps p.tables e below (T32.setTop (mkF m 51 #[.val (.int p0), .val (.ref b23), .val (.int (own_asks (p0 &&& 3))), .val (.int (own_sup (p0 &&& 3))), .val (.int (0 : Int32))] [(.int (1 : Int32))])) t → Steps p.tables e below (s₁.setTop (mkF m 0 #[.val (.int p0), .unset, .unset, .unset, .unset] [])) t := by
      intro t h
      refine k37 t ?_
      show Steps p.tables e below (T32.setTop (mkF m 41 #[.val (.int p0), .val (.ref b23), .val (.int (own_asks (p0 &&& 3))), .val (.int (own_sup (p0 &&& 3))), .val (.int (0 : Int32))] [(.int (own_asks (p0 &&& 3)))])) _
      refine XS.ifYes X32.here hx rfl (pc0 := 41) (pc' := 50) rfl (hb hby at_41) rfl ((if0 _ _).trans (teq b41_38).1) (by decide) (by decide) ?_
      show Steps p.tables e below (T32.setTop (mkF m 50 #[.val (.int p0), .val (.ref b23), .val (.int (own_asks (p0 &&& 3))), .val (.int (own_sup (p0 &&& 3))), .val (.int (0 : Int32))] [])) _
      refine XS.iconst X32.here hx rfl (hb hby at_50) ?_
      exact h
    obtain ⟨fs, hr, hrun, hended, hW, hsame⟩ := X32.leave (v := some (.int (1 : Int32))) (fun h => by rw [Bd.returns] at h; cases h)
    refine ⟨_, _, pre0 _ (k39 _ ?_), hrun, hended, _, _, rfl, ?_, ⟨_, rfl⟩, hW, hsame.mono (by decide) (by decide)⟩
    · exact retN X32 hx (t := .boolean) Bd.returns (by simp) (hb hby at_51) hr
    · show Q_rm0 Z _ h0 n0 _ T32.heap _
      rw [eq32]
      exact ⟨rfl, N32⟩
  · skip
    have k40 : ∀ t, Steps p.tables e below (T32.setTop (mkF m 35 #[.val (.int p0), .val (.ref b23), .val (.int (own_asks (p0 &&& 3))), .val (.int (own_sup (p0 &&& 3))), .val (.int (1 : Int32))] [(.int (1 : Int32)), (.int (own_asks (p0 &&& 3)))])) t → Steps p.tables e below (s₁.setTop (mkF m 0 #[.val (.int p0), .unset, .unset, .unset, .unset] [])) t := by
      intro t h
      refine k33 t ?_
      show Steps p.tables e below (T32.setTop (mkF m 22 #[.val (.int p0), .val (.ref b23), .val (.int (own_asks (p0 &&& 3))), .val (.int (own_sup (p0 &&& 3))), .unset] [(.int (p0 &&& (1 : Int32)))])) _
      refine XS.ifNo X32.here hx rfl (hb hby at_22) rfl ((if0 _ _).trans (feq c22_34).1) ?_
      show Steps p.tables e below (T32.setTop (mkF m 25 #[.val (.int p0), .val (.ref b23), .val (.int (own_asks (p0 &&& 3))), .val (.int (own_sup (p0 &&& 3))), .unset] [])) _
      refine XS.iconst X32.here hx rfl (hb hby at_25) ?_
      show Steps p.tables e below (T32.setTop (mkF m 26 #[.val (.int p0), .val (.ref b23), .val (.int (own_asks (p0 &&& 3))), .val (.int (own_sup (p0 &&& 3))), .unset] [(.int (1 : Int32))])) _
      refine XS.goto X32.here hx rfl (pc0 := 26) (pc' := 30) rfl (hb hby at_26) (by decide) (by decide) ?_
      show Steps p.tables e below (T32.setTop (mkF m 30 #[.val (.int p0), .val (.ref b23), .val (.int (own_asks (p0 &&& 3))), .val (.int (own_sup (p0 &&& 3))), .unset] [(.int (1 : Int32))])) _
      refine XS.istore X32.here hx rfl (hb hby at_30) rfl (l' := #[.val (.int p0), .val (.ref b23), .val (.int (own_asks (p0 &&& 3))), .val (.int (own_sup (p0 &&& 3))), .val (.int (1 : Int32))]) rfl ?_
      show Steps p.tables e below (T32.setTop (mkF m 32 #[.val (.int p0), .val (.ref b23), .val (.int (own_asks (p0 &&& 3))), .val (.int (own_sup (p0 &&& 3))), .val (.int (1 : Int32))] [])) _
      refine XS.iloadN X32.here hx rfl (hb hby at_32) rfl ?_
      show Steps p.tables e below (T32.setTop (mkF m 33 #[.val (.int p0), .val (.ref b23), .val (.int (own_asks (p0 &&& 3))), .val (.int (own_sup (p0 &&& 3))), .val (.int (1 : Int32))] [(.int (own_asks (p0 &&& 3)))])) _
      refine XS.iload X32.here hx rfl (hb hby at_33) rfl ?_
      exact h
    have b35_41 : (own_asks (p0 &&& 3)) = (1 : Int32) := (own_all p0).2.1 c22_34
    have k42 : ∀ t, Steps p.tables e below (T32.setTop (mkF m 41 #[.val (.int p0), .val (.ref b23), .val (.int (own_asks (p0 &&& 3))), .val (.int (own_sup (p0 &&& 3))), .val (.int (1 : Int32))] [(.int (own_asks (p0 &&& 3)))])) t → Steps p.tables e below (s₁.setTop (mkF m 0 #[.val (.int p0), .unset, .unset, .unset, .unset] [])) t := by
      intro t h
      refine k40 t ?_
      show Steps p.tables e below (T32.setTop (mkF m 35 #[.val (.int p0), .val (.ref b23), .val (.int (own_asks (p0 &&& 3))), .val (.int (own_sup (p0 &&& 3))), .val (.int (1 : Int32))] [(.int (1 : Int32)), (.int (own_asks (p0 &&& 3)))])) _
      refine XS.icmpYes X32.here hx rfl (pc0 := 35) (pc' := 40) rfl (hb hby at_35) rfl (teq b35_41).1 (by decide) (by decide) ?_
      show Steps p.tables e below (T32.setTop (mkF m 40 #[.val (.int p0), .val (.ref b23), .val (.int (own_asks (p0 &&& 3))), .val (.int (own_sup (p0 &&& 3))), .val (.int (1 : Int32))] [])) _
      refine XS.iloadN X32.here hx rfl (hb hby at_40) rfl ?_
      exact h
    have b41_43 : ¬ ((own_asks (p0 &&& 3)) = (0 : Int32)) := by rw [(own_all p0).2.1 c22_34]; decide
    have k44 : ∀ t, Steps p.tables e below (T32.setTop (mkF m 45 #[.val (.int p0), .val (.ref b23), .val (.int (own_asks (p0 &&& 3))), .val (.int (own_sup (p0 &&& 3))), .val (.int (1 : Int32))] [(.int (own_sup (p0 &&& 3)))])) t → Steps p.tables e below (s₁.setTop (mkF m 0 #[.val (.int p0), .unset, .unset, .unset, .unset] [])) t := by
      intro t h
      refine k42 t ?_
      show Steps p.tables e below (T32.setTop (mkF m 41 #[.val (.int p0), .val (.ref b23), .val (.int (own_asks (p0 &&& 3))), .val (.int (own_sup (p0 &&& 3))), .val (.int (1 : Int32))] [(.int (own_asks (p0 &&& 3)))])) _
      refine XS.ifNo X32.here hx rfl (hb hby at_41) rfl ((if0 _ _).trans (feq b41_43).1) ?_
      show Steps p.tables e below (T32.setTop (mkF m 44 #[.val (.int p0), .val (.ref b23), .val (.int (own_asks (p0 &&& 3))), .val (.int (own_sup (p0 &&& 3))), .val (.int (1 : Int32))] [])) _
      refine XS.iloadN X32.here hx rfl (hb hby at_44) rfl ?_
      exact h
    have b45_45 : ¬ ((own_sup (p0 &&& 3)) = (0 : Int32)) := by rw [(own_all p0).2.2.1 c22_34]; decide
    have k46 : ∀ t, Steps p.tables e below (T32.setTop (mkF m 51 #[.val (.int p0), .val (.ref b23), .val (.int (own_asks (p0 &&& 3))), .val (.int (own_sup (p0 &&& 3))), .val (.int (1 : Int32))] [(.int (1 : Int32))])) t → Steps p.tables e below (s₁.setTop (mkF m 0 #[.val (.int p0), .unset, .unset, .unset, .unset] [])) t := by
      intro t h
      refine k44 t ?_
      show Steps p.tables e below (T32.setTop (mkF m 45 #[.val (.int p0), .val (.ref b23), .val (.int (own_asks (p0 &&& 3))), .val (.int (own_sup (p0 &&& 3))), .val (.int (1 : Int32))] [(.int (own_sup (p0 &&& 3)))])) _
      refine XS.ifYes X32.here hx rfl (pc0 := 45) (pc' := 50) rfl (hb hby at_45) rfl ((if0 _ _).trans (feq b45_45).2) (by decide) (by decide) ?_
      show Steps p.tables e below (T32.setTop (mkF m 50 #[.val (.int p0), .val (.ref b23), .val (.int (own_asks (p0 &&& 3))), .val (.int (own_sup (p0 &&& 3))), .val (.int (1 : Int32))] [])) _
      refine XS.iconst X32.here hx rfl (hb hby at_50) ?_
      exact h
    obtain ⟨fs, hr, hrun, hended, hW, hsame⟩ := X32.leave (v := some (.int (1 : Int32))) (fun h => by rw [Bd.returns] at h; cases h)
    refine ⟨_, _, pre0 _ (k46 _ ?_), hrun, hended, _, _, rfl, ?_, ⟨_, rfl⟩, hW, hsame.mono (by decide) (by decide)⟩
    · exact retN X32 hx (t := .boolean) Bd.returns (by simp) (hb hby at_51) hr
    · show Q_rm0 Z _ h0 n0 _ T32.heap _
      rw [eq32]
      exact ⟨rfl, N32⟩
set_option maxRecDepth 65536 in
set_option maxHeartbeats 40000000 in
theorem comes_1 {Post : Tables → Env → Array Value → State → Outcome → State → Prop} (hpost : ∀ tb e args s v u, (limb_1_1.after args s (.returned v) u = true ∧ limb_1_2.after args s (.returned v) u = true ∧ True) → FrameEnd s (.returned v) u (Jvm.fieldLocs frame_1_writes args s ++ Jvm.arrayLocs frame_1_arrays args s ++ Jvm.staticLocs frame_1_statics s) 16 128 → Post tb e args s (.returned v) u) :
    ArmFor flags0 classFile x code maxLocals ret World_1 tables_1 room_1 Calls_1 rest_1 Pre_1 Post := by
  intro l hfl _ _ p e ha hc hk s m args below hf hA hF happ hP
  obtain ⟨hcalls, hrest, hpre⟩ := hP
  obtain ⟨-, -, -, hnamed, -, -, -, hat⟩ := (Spec.applies_iff hf).mp happ
  obtain ⟨hg, hn⟩ := and_e (Cond.before_iff.mp (show (Jvm.Cond.and given_1 narrow_1).before args s = true from hpre))
  obtain ⟨g1, g2⟩ := and_e hg
  obtain ⟨w0, rfl⟩ : ∃ w0 : Value, args = #[w0] := by
    have hs : args.size = 1 := by simpa [Cond.value, given_1] using g1
    obtain ⟨L⟩ := args
    match L, hs with
    | [w0], _ => exact ⟨w0, rfl⟩
  have hw := fun d (hd : d ∈ tables_1) => atoms_spec (ws := Jvm.Cond.code x code maxLocals ret :: tables_1) hat d (List.mem_cons_of_mem _ hd)
  have hfit : Fit s := fun {y c} hc i hi => by
    obtain ⟨ha, rfl⟩ := Array.getElem?_eq_some_iff.mp hc
    have q := List.all_eq_true.mp ((Array.all_eq_true_iff_forall_mem.mp hF) _ (Array.getElem_mem ha)) i (List.mem_range.mpr hi)
    simpa [Array.getElem?_eq_getElem hi] using q
  obtain ⟨i0, ei0⟩ := is_v g2
  obtain rfl : w0 = (.int i0) := Option.some.inj ei0
  obtain ⟨n, o, h1, h2, h3, _, L, rfl, ⟨rfl, N⟩, hq⟩ := rm0 l s _ hw tables_1 i0  s.heap s.heap.size (Nat.le_refl _)  p e ha hc hk s m _ below hf ((Spec.applies_iff_loose hf).mp happ).1 ⟨rfl, State.Warmed39.refl s, rfl⟩ trivial
  refine ⟨n, _, h1, h2, h3, hpost _ _ _ _ _ _ ⟨Cond.after_iff.mpr rfl, Cond.after_iff.mpr (eq_i res_at (Term.int_eval (1)) rfl), trivial⟩ ⟨hq.1, hq.2.1, (hq.2.2.sift fun y hy => Or.inr (N y hy)).mono (by decide) (by decide)⟩⟩
theorem main_1_1 : Claimed_1_1 := comes_1 fun _ _ _ _ _ _ h hF => ⟨h.1, hF⟩
theorem main_1_2 : Claimed_1_2 := comes_1 fun _ _ _ _ _ _ h hF => ⟨h.2.1, hF⟩
end Jvm.Pilot.@@N@@
namespace Jvm.Pilot.@@N@@
open Jvm Jvm.ClassFile Sem Op Lib Jvm.Free Jvm.Stand Jvm.Pilot.@@N@@.Jvm.D
/-! MADE BY PROGRAM (witnessworld.py) out of the Statement's table words and the real class files: 10 classes; the members and pool entries that the words name. The judged class is class 1, her method 1. -/
namespace start1
open Jvm.ClassFile
def u (s : String) : CpInfo := .utf8 (stringToUtf16 s)
/-- a pool by its gaps: so many unusable entries, then the entry; so many at the end -/
def gap : Nat → List CpInfo → List CpInfo
  | 0, r => r
  | n + 1, r => .unusable :: gap n r
def poolList (es : List (Nat × CpInfo)) (last : Nat) : List CpInfo := es.foldr (fun e r => gap e.1 (e.2 :: r)) (gap last [])
def pool (es : List (Nat × CpInfo)) (last : Nat) : Array CpInfo := ⟨poolList es last⟩
def fileOf (pool : Array CpInfo) (this : Nat) (attrs : Array Attribute := #[]) (ms : Array MethodInfo := #[]) (fl : Nat := 33) (sup : Nat := 0) (ifs : Array Nat := #[]) (fds : Array FieldInfo := #[]) : ClassFile where
  minorVersion := 0
  majorVersion := 65
  constantPool := pool
  accessFlags := fl
  thisClass := this
  superClass := sup
  interfaces := ifs
  fields := fds
  methods := ms
  attributes := attrs
def plain (name : String) (sup : Option ClassId) : Class where
  name := name
  kind := .ordinary
  loader := none
  accessFlags := 33
  super := sup
  interfaces := #[]
  cf := none
  fields := #[]
  methods := #[]
  instanceTypes := #[]
  staticTypes := #[]
  resolved := #[]
  callSites := []
  init := .initialized
  statics := none
  mirror := none

def pool0 : Array CpInfo := pool [(5, u "<init>"), (0, u "()V"), (1, .class_ 10), (1, u "java/lang/Object")] 113

def k0c0 : Code := { maxStack := 0, maxLocals := 1, code := object_method_1_code, exceptionTable := #[], attributes := #[] }
def k0m0 : Method := { name := "<init>", desc := "()V", sig := { parameters := [], returnType := none }, accessFlags := 1, code := some k0c0 }
/-- java/lang/Object -/
def k0 : Class := { plain "java/lang/Object" none with
  accessFlags := 33
  interfaces := #[]
  cf := some (fileOf pool0 8 #[] #[{ accessFlags := 1, nameIndex := 5, descriptorIndex := 6, attributes := #[] }] 33 0 #[] #[])
  fields := #[]
  methods := #[k0m0]
  instanceTypes := #[]
  staticTypes := #[]
  resolved := Array.replicate 124 none
  statics := none }

def pool1 : Array CpInfo := pool [(2, .class_ 4), (1, u "java/lang/Object"), (0, u "<init>"), (0, u "()V"), (0, .class_ 8), (0, u "com/example/woodrat/woodrat/wire/PreLogin"), (0, .methodref 7 10), (0, .nameAndType 5 11), (0, u "(I)V"), (0, .methodref 7 13), (0, .nameAndType 14 15), (0, u "asksForEncryption"), (0, u "()Z"), (0, .methodref 7 17), (0, .nameAndType 18 15), (0, u "supportsEncryption"), (0, .class_ 20), (0, u "com/example/woodrat/woodrat/wire/PreLoginAsksForEncryptionPinLaw"), (2, u "law"), (0, u "(I)Z")] 3

def k1m0 : Method := { name := "<init>", desc := "()V", sig := { parameters := [], returnType := none }, accessFlags := 1, code := none }
def k1c1 : Code := { maxStack := 3, maxLocals := 5, code := code, exceptionTable := #[], attributes := #[] }
def k1m1 : Method := { name := "law", desc := "(I)Z", sig := { parameters := [.int], returnType := some .boolean }, accessFlags := 9, code := some k1c1 }
/-- com/example/woodrat/woodrat/wire/PreLoginAsksForEncryptionPinLaw -/
def k1 : Class := { plain "com/example/woodrat/woodrat/wire/PreLoginAsksForEncryptionPinLaw" (some 0) with
  accessFlags := 49
  interfaces := #[]
  cf := some (fileOf pool1 19 #[] #[{ accessFlags := 1, nameIndex := 5, descriptorIndex := 6, attributes := #[] }, { accessFlags := 9, nameIndex := 23, descriptorIndex := 24, attributes := #[] }] 49 2 #[] #[])
  fields := #[]
  methods := #[k1m0, k1m1]
  instanceTypes := #[]
  staticTypes := #[]
  resolved := Array.replicate 28 none
  statics := none }

def pool2 : Array CpInfo := pool [(1, .methodref 2 3), (0, .class_ 4), (0, .nameAndType 5 6), (0, u "java/lang/Object"), (0, u "<init>"), (0, u "()V"), (0, .class_ 8), (0, u "java/lang/Record")] 13

def k2c0 : Code := { maxStack := 1, maxLocals := 1, code := jdk_30_method_1_code, exceptionTable := #[], attributes := #[] }
def k2m0 : Method := { name := "<init>", desc := "()V", sig := { parameters := [], returnType := none }, accessFlags := 4, code := some k2c0 }
/-- java/lang/Record -/
def k2 : Class := { plain "java/lang/Record" (some 0) with
  accessFlags := 1057
  interfaces := #[]
  cf := some (fileOf pool2 7 #[] #[{ accessFlags := 4, nameIndex := 5, descriptorIndex := 6, attributes := #[] }] 1057 2 #[] #[])
  fields := #[]
  methods := #[k2m0]
  instanceTypes := #[]
  staticTypes := #[]
  resolved := Array.replicate 22 none
  statics := none }

def pool3 : Array CpInfo := pool [(1, .methodref 2 3), (0, .class_ 4), (0, .nameAndType 5 6), (0, u "java/lang/Record"), (0, u "<init>"), (0, u "()V"), (0, .fieldref 8 9), (0, .class_ 10), (0, .nameAndType 11 12), (0, u "com/example/woodrat/woodrat/wire/PreLogin"), (0, u "encryption"), (0, u "I"), (15, u "(I)V"), (28, u "ENCRYPT_OFF"), (2, u "ENCRYPT_ON"), (1, u "ENCRYPT_NOT_SUP"), (1, u "ENCRYPT_REQ"), (1, u "ENCRYPT_VALUE"), (0, u "VERSION"), (0, u "ENCRYPTION"), (0, u "INSTOPT"), (0, u "THREADID"), (0, u "MARS"), (1, u "TERMINATOR"), (1, u "ENTRY_LENGTH"), (8, u "asksForEncryption"), (0, u "()Z"), (0, u "supportsEncryption")] 36

def k3c0 : Code := { maxStack := 2, maxLocals := 2, code := prog_72_method_1_code, exceptionTable := #[], attributes := #[] }
def k3m0 : Method := { name := "<init>", desc := "(I)V", sig := { parameters := [.int], returnType := none }, accessFlags := 1, code := some k3c0 }
def k3c1 : Code := { maxStack := 2, maxLocals := 2, code := prog_72_method_3_code, exceptionTable := #[], attributes := #[] }
def k3m1 : Method := { name := "asksForEncryption", desc := "()Z", sig := { parameters := [], returnType := some .boolean }, accessFlags := 1, code := some k3c1 }
def k3c2 : Code := { maxStack := 2, maxLocals := 1, code := prog_72_method_4_code, exceptionTable := #[], attributes := #[] }
def k3m2 : Method := { name := "supportsEncryption", desc := "()Z", sig := { parameters := [], returnType := some .boolean }, accessFlags := 1, code := some k3c2 }
/-- com/example/woodrat/woodrat/wire/PreLogin -/
def k3 : Class := { plain "com/example/woodrat/woodrat/wire/PreLogin" (some 2) with
  accessFlags := 49
  interfaces := #[]
  cf := some (fileOf pool3 8 #[] #[{ accessFlags := 1, nameIndex := 5, descriptorIndex := 28, attributes := #[] }, { accessFlags := 1, nameIndex := 84, descriptorIndex := 85, attributes := #[] }, { accessFlags := 1, nameIndex := 86, descriptorIndex := 85, attributes := #[] }] 49 2 #[] #[{ accessFlags := 18, nameIndex := 11, descriptorIndex := 12, attributes := #[] }, { accessFlags := 25, nameIndex := 57, descriptorIndex := 12, attributes := #[] }, { accessFlags := 25, nameIndex := 60, descriptorIndex := 12, attributes := #[] }, { accessFlags := 25, nameIndex := 62, descriptorIndex := 12, attributes := #[] }, { accessFlags := 25, nameIndex := 64, descriptorIndex := 12, attributes := #[] }, { accessFlags := 26, nameIndex := 66, descriptorIndex := 12, attributes := #[] }, { accessFlags := 26, nameIndex := 67, descriptorIndex := 12, attributes := #[] }, { accessFlags := 26, nameIndex := 68, descriptorIndex := 12, attributes := #[] }, { accessFlags := 26, nameIndex := 69, descriptorIndex := 12, attributes := #[] }, { accessFlags := 26, nameIndex := 70, descriptorIndex := 12, attributes := #[] }, { accessFlags := 26, nameIndex := 71, descriptorIndex := 12, attributes := #[] }, { accessFlags := 26, nameIndex := 73, descriptorIndex := 12, attributes := #[] }, { accessFlags := 26, nameIndex := 75, descriptorIndex := 12, attributes := #[] }])
  fields := #[{ name := "encryption", type := .int, accessFlags := 18, slot := 0, constantValue := 0 }, { name := "ENCRYPT_OFF", type := .int, accessFlags := 25, slot := 0, constantValue := 0 }, { name := "ENCRYPT_ON", type := .int, accessFlags := 25, slot := 1, constantValue := 0 }, { name := "ENCRYPT_NOT_SUP", type := .int, accessFlags := 25, slot := 2, constantValue := 0 }, { name := "ENCRYPT_REQ", type := .int, accessFlags := 25, slot := 3, constantValue := 0 }, { name := "ENCRYPT_VALUE", type := .int, accessFlags := 26, slot := 4, constantValue := 0 }, { name := "VERSION", type := .int, accessFlags := 26, slot := 5, constantValue := 0 }, { name := "ENCRYPTION", type := .int, accessFlags := 26, slot := 6, constantValue := 0 }, { name := "INSTOPT", type := .int, accessFlags := 26, slot := 7, constantValue := 0 }, { name := "THREADID", type := .int, accessFlags := 26, slot := 8, constantValue := 0 }, { name := "MARS", type := .int, accessFlags := 26, slot := 9, constantValue := 0 }, { name := "TERMINATOR", type := .int, accessFlags := 26, slot := 10, constantValue := 0 }, { name := "ENTRY_LENGTH", type := .int, accessFlags := 26, slot := 11, constantValue := 0 }]
  methods := #[k3m0, k3m1, k3m2]
  instanceTypes := #[.int]
  staticTypes := #[.int, .int, .int, .int, .int, .int, .int, .int, .int, .int, .int, .int]
  resolved := Array.replicate 123 none
  statics := none }

def pool4 : Array CpInfo := pool [(1, u "java/lang/Cloneable"), (0, .class_ 1), (0, u "java/lang/Object"), (0, .class_ 3)] 3

/-- java/lang/Cloneable -/
def k4 : Class := { plain "java/lang/Cloneable" (some 0) with
  accessFlags := 1537
  interfaces := #[]
  cf := some (fileOf pool4 2 #[] #[] 1537 4 #[] #[])
  fields := #[]
  methods := #[]
  instanceTypes := #[]
  staticTypes := #[]
  resolved := Array.replicate 8 none
  statics := none }

def pool5 : Array CpInfo := pool [(1, u "java/io/Serializable"), (0, .class_ 1), (0, u "java/lang/Object"), (0, .class_ 3)] 3

/-- java/io/Serializable -/
def k5 : Class := { plain "java/io/Serializable" (some 0) with
  accessFlags := 1537
  interfaces := #[]
  cf := some (fileOf pool5 2 #[] #[] 1537 4 #[] #[])
  fields := #[]
  methods := #[]
  instanceTypes := #[]
  staticTypes := #[]
  resolved := Array.replicate 8 none
  statics := none }

/-- the primitive byte -/
def k6 : Class := { plain "byte" none with kind := .primitive 'B', accessFlags := 0x411 }
/-- [B -/
def k7 : Class := { plain "[B" (some 0) with kind := .array 6 .byte, interfaces := #[4, 5], accessFlags := 1041 }

/-- the primitive int -/
def k8 : Class := { plain "int" none with kind := .primitive 'I', accessFlags := 0x411 }
/-- [I -/
def k9 : Class := { plain "[I" (some 0) with kind := .array 8 .int, interfaces := #[4, 5], accessFlags := 1041 }

def heap : Heap := #[]
def classes : Array Class := #[k0, k1, k2, k3, k4, k5, k6, k7, k8, k9]
def interned : List (Array UInt16 × Addr) := []
def slotsUsed : Nat := 0
def theMethod : MethodId := ⟨1, 1⟩
def args0 : Array Value := #[.int 5]
def aboutOver (below : List Frame) : State where
  vm := { classes := classes, interned := interned.toArray }
  heap := heap
  slotsUsed := slotsUsed
  threads := #[{ frames := .invoking theMethod args0 :: below }]
def below0 : List Frame := [.native { method := ⟨0, 0⟩, args := #[] }]
def about1 : State := aboutOver below0
def p0 : Program := .bare "" "" ""
def e0 : Env := launch0.env 0 0 0
theorem w_frames : about1.frames = Frame.invoking theMethod args0 :: below0 := rfl
set_option maxRecDepth 65536 in
theorem w_args : argsFit about1.vm theMethod args0 = true := by decide +kernel
set_option maxRecDepth 65536 in
theorem w_heap : heapFits about1 = true := by decide +kernel
set_option maxRecDepth 65536 in
theorem w_runnable : about1.curStatus? = some .runnable := by decide +kernel
set_option maxRecDepth 65536 in
theorem w_alone : about1.alone = true := by decide +kernel
set_option maxRecDepth 65536 in
theorem w_named : about1.methodNamed? x = some theMethod := by decide +kernel
set_option maxRecDepth 65536 in
theorem w_hears : about1.hears theMethod below0 = true := by decide +kernel
set_option maxRecDepth 65536 in
theorem w_ripe : about1.ripe theMethod args0 below0 = true := by decide +kernel
theorem w_running : about1.status = .running := rfl
set_option maxRecDepth 65536 in
theorem w_room : about1.hasRoom e0.platform room_1 = true :=
  launch0.hasRoom_least _ room_1 (by decide +kernel) (by decide +kernel) (by decide +kernel) (by decide +kernel) (by decide +kernel) (by decide +kernel)
theorem allAtoms_all (ts : List Jvm.Cond) (a : Array Jvm.Value) (st : Jvm.State) : (allAtoms ts).before a st = ts.all (fun c => c.before a st) := by
  induction ts with
  | nil => rfl
  | cons c t ih =>
    show (Jvm.Cond.and c (allAtoms t)).before a st = _
    rw [Jvm.Cond.before_and, ih, List.all_cons]
def words1 : List Jvm.Cond := Jvm.Cond.code x code maxLocals ret :: tables_1
/-- a 'code' word, met by the world's own term for the bytes: nothing is compared byte by byte -/
theorem code_word {y : MethodName} {bytes : ByteArray} {mx : Nat} {rt : Option FieldType} {a : Array Value} {s : State} {m : MethodId} {meth : Method} {c : Code} (h1 : s.methodNamed? y = some m) (h2 : s.vm.method? m = some meth) (h3 : meth.code = some c) (h4 : c.code = bytes)
    (h5 : (c.maxLocals == mx && c.exceptionTable.isEmpty && decide (c.maxStack ≤ mostOperands) && decide (meth.sig.returnType = rt) && !meth.locks && decide (parseMethodDescriptor y.desc = some meth.sig)) = true) : (Jvm.Cond.code y bytes mx rt).before a s = true := by
  simp only [Bool.and_eq_true, beq_iff_eq, Bool.not_eq_true', decide_eq_true_eq] at h5
  obtain ⟨⟨⟨⟨⟨g1, g2⟩, g3⟩, g4⟩, g5⟩, g6⟩ := h5
  simp [Cond.before, Cond.holds, Cond.value, h1, h2, h3, h4, g1, g2, g3, g4, g5, g6]
def isCode : Jvm.Cond → Bool
  | .code _ _ _ _ => true
  | _ => false
theorem all_split {L : List Jvm.Cond} {P : Jvm.Cond → Bool} (h1 : L.all (fun c => isCode c || P c) = true) (h2 : ∀ c ∈ L.filter isCode, P c = true) : L.all P = true := by
  refine List.all_eq_true.mpr fun c hc => ?_
  have h := List.all_eq_true.mp h1 c hc
  rcases Bool.eq_false_or_eq_true (isCode c) with hi | hi
  · exact h2 c (List.mem_filter.mpr ⟨hc, hi⟩)
  · simpa [hi] using h
set_option maxRecDepth 65536 in
theorem w_c0 : (Jvm.Cond.code x code maxLocals ret).before args0 about1 = true := code_word (m := ⟨1, 1⟩) (meth := k1m1) (c := k1c1) (by decide +kernel) rfl rfl rfl (by decide +kernel)
set_option maxRecDepth 65536 in
theorem w_c1 : (Jvm.Cond.code ({ cls := "com/example/woodrat/woodrat/wire/PreLogin", name := "<init>", desc := "(I)V" } : Jvm.MethodName) prog_72_method_1_code (2 : Nat) (Option.none : Option Jvm.ClassFile.FieldType)).before args0 about1 = true := code_word (m := ⟨3, 0⟩) (meth := k3m0) (c := k3c0) (by decide +kernel) rfl rfl rfl (by decide +kernel)
set_option maxRecDepth 65536 in
theorem w_c2 : (Jvm.Cond.code ({ cls := "java/lang/Record", name := "<init>", desc := "()V" } : Jvm.MethodName) jdk_30_method_1_code (1 : Nat) (Option.none : Option Jvm.ClassFile.FieldType)).before args0 about1 = true := code_word (m := ⟨2, 0⟩) (meth := k2m0) (c := k2c0) (by decide +kernel) rfl rfl rfl (by decide +kernel)
set_option maxRecDepth 65536 in
theorem w_c3 : (Jvm.Cond.code ({ cls := "java/lang/Object", name := "<init>", desc := "()V" } : Jvm.MethodName) object_method_1_code (1 : Nat) (Option.none : Option Jvm.ClassFile.FieldType)).before args0 about1 = true := code_word (m := ⟨0, 0⟩) (meth := k0m0) (c := k0c0) (by decide +kernel) rfl rfl rfl (by decide +kernel)
set_option maxRecDepth 65536 in
theorem w_c4 : (Jvm.Cond.code ({ cls := "com/example/woodrat/woodrat/wire/PreLogin", name := "asksForEncryption", desc := "()Z" } : Jvm.MethodName) prog_72_method_3_code (2 : Nat) (Option.some Jvm.ClassFile.FieldType.boolean)).before args0 about1 = true := code_word (m := ⟨3, 1⟩) (meth := k3m1) (c := k3c1) (by decide +kernel) rfl rfl rfl (by decide +kernel)
set_option maxRecDepth 65536 in
theorem w_c5 : (Jvm.Cond.code ({ cls := "com/example/woodrat/woodrat/wire/PreLogin", name := "supportsEncryption", desc := "()Z" } : Jvm.MethodName) prog_72_method_4_code (1 : Nat) (Option.some Jvm.ClassFile.FieldType.boolean)).before args0 about1 = true := code_word (m := ⟨3, 2⟩) (meth := k3m2) (c := k3c2) (by decide +kernel) rfl rfl rfl (by decide +kernel)
def codes1 : List Jvm.Cond := [Jvm.Cond.code x code maxLocals ret, Jvm.Cond.code ({ cls := "com/example/woodrat/woodrat/wire/PreLogin", name := "<init>", desc := "(I)V" } : Jvm.MethodName) prog_72_method_1_code (2 : Nat) (Option.none : Option Jvm.ClassFile.FieldType), Jvm.Cond.code ({ cls := "java/lang/Record", name := "<init>", desc := "()V" } : Jvm.MethodName) jdk_30_method_1_code (1 : Nat) (Option.none : Option Jvm.ClassFile.FieldType), Jvm.Cond.code ({ cls := "java/lang/Object", name := "<init>", desc := "()V" } : Jvm.MethodName) object_method_1_code (1 : Nat) (Option.none : Option Jvm.ClassFile.FieldType), Jvm.Cond.code ({ cls := "com/example/woodrat/woodrat/wire/PreLogin", name := "asksForEncryption", desc := "()Z" } : Jvm.MethodName) prog_72_method_3_code (2 : Nat) (Option.some Jvm.ClassFile.FieldType.boolean), Jvm.Cond.code ({ cls := "com/example/woodrat/woodrat/wire/PreLogin", name := "supportsEncryption", desc := "()Z" } : Jvm.MethodName) prog_72_method_4_code (1 : Nat) (Option.some Jvm.ClassFile.FieldType.boolean)]
set_option maxRecDepth 65536 in
theorem codes_eq : words1.filter isCode = codes1 := rfl
theorem w_codes : ∀ c ∈ words1.filter isCode, c.before args0 about1 = true := by
  rw [codes_eq]
  intro c hc
  simp only [codes1, List.mem_cons, List.not_mem_nil, or_false] at hc
  rcases hc with rfl | rfl | rfl | rfl | rfl | rfl
  · exact w_c0
  · exact w_c1
  · exact w_c2
  · exact w_c3
  · exact w_c4
  · exact w_c5
set_option maxRecDepth 65536 in
theorem w_t1 : (words1.take 24).all (fun c => isCode c || c.before args0 about1) = true := by decide +kernel
set_option maxRecDepth 65536 in
theorem w_t2 : (words1.drop 24).all (fun c => isCode c || c.before args0 about1) = true := by decide +kernel
theorem w_tables : (allAtoms (Jvm.Cond.code x code maxLocals ret :: tables_1)).before args0 about1 = true := by
  rw [allAtoms_all]
  show words1.all (fun c => c.before args0 about1) = true
  refine all_split ?_ w_codes
  rw [← List.take_append_drop 24 words1, List.all_append, w_t1, w_t2]
  rfl
set_option maxRecDepth 65536 in
theorem w_case : (Jvm.Cond.and given_1 narrow_1).before args0 about1 = true := by decide +kernel
theorem w_applies : (headSpec (Jvm.Cond.code x code maxLocals ret :: tables_1) room_1).applies x e0.platform about1 = true :=
  (Spec.applies_iff w_frames).mpr ⟨w_running, w_runnable, w_alone, w_named, w_hears, w_ripe, w_room, w_tables⟩
theorem atStart : AtStart classFile x code maxLocals ret World_1 tables_1 room_1 Calls_1 rest_1 Pre_1 launch0 p0 e0 about1 theMethod args0 below0 :=
  ⟨lists_1, trivial, launch0.admits_env _ _ _, launch0.least_env, fairChoices_fair.cas, fairChoices_fair.clock, w_frames, w_args, w_heap, w_applies, trivial, trivial, w_case⟩
end start1
theorem witness_1 : WitnessClaimed_1 := ⟨start1.p0, start1.e0, start1.about1, start1.theMethod, start1.args0, start1.below0, start1.atStart⟩
end Jvm.Pilot.@@N@@
