import JvmDerived
import JvmDerived.Pilot.@@N@@Statement
import JvmDerived.Pilot.@@N@@Code
set_option linter.unusedVariables false
set_option linter.unusedSimpArgs false
namespace Jvm.RoadKit
open Sem ClassFile Op Lib Jvm.Stand Jvm.Free Jvm.LawKit
section New
variable {p : Program} {l : Launch} {e : Env} {R : Room} {s : State} {m : MethodId} {args : Array Value} {below : List Frame} {meth : Method} {c : Code} {T : State} {locs : List Loc} {cells slots : Nat}
theorem retI (X : Stand p l e R s m args below meth c T locs cells slots) (hx : p.tables.exec = Jvm.exec) {pc : Nat} {Ls : Array Slot} {z : Int32} {rest : List Value} (hret : meth.sig.returnType = some .int) (hd : decode c.code pc = .ok (.ireturn, 1)) {fs : List Frame}
    (hl : ∀ (f : JFrame) (acts : List Action), f.method = m → f.locked = none → f.entered = [] → (doReturn e (T.setTop f) acts (some (.int z))).1 = T.setFrames fs) : Steps p.tables e below (T.setTop (mkF m pc Ls (.int z :: rest))) (T.setFrames fs) := by
  have hm' : T.vm.method? m = some meth := X.method'
  have hn : narrow .int (.int z) = .int z := rfl
  show Steps p.tables e below (T.setTop { method := m, pc := pc, locals := Ls, stack := _ :: rest, locked := none }) _
  jvm_step X.here [X.here.top, hx, hd, hm', hret, hn]
  first | (intro acts; rw [hl _ acts rfl rfl rfl]) | rw [hl _ _ rfl rfl rfl]
  exact Steps.refl _
end New
end Jvm.RoadKit
namespace Jvm.Pilot.@@N@@
open Jvm Jvm.ClassFile Sem Op Lib Jvm.Free Jvm.Stand Jvm.LawKit Jvm.RoadKit Bundle Jvm.Pilot.@@N@@.Jvm.D

theorem own_mask (x m : Int32) (k : Nat) (hk : k ≤ 31) (hm : m.toBitVec.toNat = 2 ^ k - 1) : ∃ n : Nat, n < 2 ^ k ∧ x &&& m = Int32.ofNat n := by
  have h := c_mask x m k hk hm
  have hp : (0 : Int) < ((2 ^ k : Nat) : Int) := by have := Nat.two_pow_pos k; omega
  have h0 := Int.emod_nonneg x.toInt (Int.ne_of_gt hp)
  have h1 := Int.emod_lt_of_pos x.toInt hp
  have h31 : (2 ^ k : Nat) ≤ 2 ^ 31 := Nat.pow_le_pow_right (by decide) hk
  refine ⟨(x.toInt % ((2 ^ k : Nat) : Int)).toNat, by omega, ?_⟩
  apply Int32.toInt_inj.mp
  rw [h, Int32.toInt_ofNat_of_lt (by omega)]
  omega

def own_asks (w : Int32) : Int32 := if w = 1 then 1 else if w = 3 then 1 else 0
def own_sup (w : Int32) : Int32 := if w = 2 then 0 else 1
theorem own_fin : ∀ n : Fin 4, let w := Int32.ofNat n.1
    (w &&& 1 = 0 → own_asks w = 0) ∧ (¬ w &&& 1 = 0 → own_asks w = 1) ∧ (¬ w &&& 1 = 0 → own_sup w = 1) ∧ (w &&& 1 = 0 → ¬ w &&& 2 = 0 → own_sup w = 0) ∧ (w &&& 1 = 0 → w &&& 2 = 0 → own_sup w = 1) := by decide +kernel
theorem own_all (x : Int32) : (x &&& 1 = 0 → own_asks (x &&& 3) = 0) ∧ (¬ x &&& 1 = 0 → own_asks (x &&& 3) = 1) ∧ (¬ x &&& 1 = 0 → own_sup (x &&& 3) = 1) ∧ (x &&& 1 = 0 → ¬ x &&& 2 = 0 → own_sup (x &&& 3) = 0) ∧ (x &&& 1 = 0 → x &&& 2 = 0 → own_sup (x &&& 3) = 1) := by
  have a1 : x &&& 1 = (x &&& 3) &&& 1 := by rw [Int32.and_assoc]; rfl
  have a2 : x &&& 2 = (x &&& 3) &&& 2 := by rw [Int32.and_assoc]; rfl
  obtain ⟨n, hn, e⟩ := own_mask x 3 2 (by decide) (by decide)
  rw [a1, a2, e]
  exact own_fin ⟨n, hn⟩

theorem own_d1_0 : decode prog_72_method_1_code 0 = .ok (.aload_n 0, 1) := by decide +kernel
theorem own_d1_1 : decode prog_72_method_1_code 1 = .ok (.invokespecial 1, 3) := by decide +kernel
theorem own_d1_4 : decode prog_72_method_1_code 4 = .ok (.aload_n 0, 1) := by decide +kernel
theorem own_d1_5 : decode prog_72_method_1_code 5 = .ok (.iload_n 1, 1) := by decide +kernel
theorem own_d1_6 : decode prog_72_method_1_code 6 = .ok (.putfield 7, 3) := by decide +kernel
theorem own_d1_9 : decode prog_72_method_1_code 9 = .ok (.return_, 1) := by decide +kernel
theorem own_d2_0 : decode jdk_30_method_1_code 0 = .ok (.aload_n 0, 1) := by decide +kernel
theorem own_d2_1 : decode jdk_30_method_1_code 1 = .ok (.invokespecial 1, 3) := by decide +kernel
theorem own_d2_4 : decode jdk_30_method_1_code 4 = .ok (.return_, 1) := by decide +kernel
theorem own_d4_0 : decode prog_72_method_4_code 0 = .ok (.aload_n 0, 1) := by decide +kernel
theorem own_d4_1 : decode prog_72_method_4_code 1 = .ok (.getfield 7, 3) := by decide +kernel
theorem own_d4_4 : decode prog_72_method_4_code 4 = .ok (.iconst 3, 1) := by decide +kernel
theorem own_d4_5 : decode prog_72_method_4_code 5 = .ok (.iand, 1) := by decide +kernel
theorem own_d4_6 : decode prog_72_method_4_code 6 = .ok (.iconst 2, 1) := by decide +kernel
theorem own_d4_7 : decode prog_72_method_4_code 7 = .ok (.if_icmp .eq 7, 3) := by decide +kernel
theorem own_d4_10 : decode prog_72_method_4_code 10 = .ok (.iconst 1, 1) := by decide +kernel
theorem own_d4_11 : decode prog_72_method_4_code 11 = .ok (.goto 4, 3) := by decide +kernel
theorem own_d4_14 : decode prog_72_method_4_code 14 = .ok (.iconst 0, 1) := by decide +kernel
theorem own_d4_15 : decode prog_72_method_4_code 15 = .ok (.ireturn, 1) := by decide +kernel
theorem own_pn_0 : plainName "java/lang/Record" = true := by first | (simp [plainName, overriddenIn]; done) | decide +kernel
theorem own_ef_0 (m : MethodId) (x0 : Addr) : entryFrame m #[(.ref x0)] 1 = mkF m 0 #[.val (.ref x0)] [] := by first | (simp [entryFrame, mkF, argsToLocals, Value.category]; done) | rfl
theorem own_pn_1 : plainName "com/example/woodrat/woodrat/wire/PreLogin" = true := by first | (simp [plainName, overriddenIn]; done) | decide +kernel
theorem own_ef_1 (m : MethodId) (x0 : Addr) (x1 : Int32) : entryFrame m #[(.ref x0), (.int x1)] 2 = mkF m 0 #[.val (.ref x0), .val (.int x1)] [] := by first | (simp [entryFrame, mkF, argsToLocals, Value.category]; done) | rfl
theorem own_pd_0 : parseMethodDescriptor "()V" = some ⟨[], none⟩ := by decide +kernel
theorem own_pn_2 : plainName "com/example/woodrat/woodrat/wire/PreLoginSupportsEncryptionPinLaw" = true := by first | (simp [plainName, overriddenIn]; done) | decide +kernel
theorem own_ef_2 (m : MethodId) (x0 : Int32) : entryFrame m #[(.int x0)] maxLocals = mkF m 0 #[.val (.int x0), .unset, .unset, .unset, .unset] [] := by first | (simp [entryFrame, mkF, argsToLocals, Value.category, maxLocals]; done) | rfl
theorem own_pd_1 : parseMethodDescriptor "(I)V" = some ⟨[.int], none⟩ := by decide +kernel
theorem own_pd_2 : parseMethodDescriptor "()Z" = some ⟨[], some .boolean⟩ := by decide +kernel
def Q_rmR (Z : State) (r0 : Addr) (h0 : Heap) (n0 : Nat) (v : Option Value) (h : Heap) (L : List Loc) : Prop := v = none ∧ Fr n0 L ∧ h = h0
set_option maxRecDepth 65536 in
set_option maxHeartbeats 40000000 in
theorem rmR (l : Launch) (Z : State) (a0 : Array Value) (hw : ∀ d ∈ tables_1, d.before a0 Z = true) (ws : List Jvm.Cond) (r0 : Addr) (h0 : Heap) (n0 : Nat) (Z0 : n0 ≤ h0.size) :
    MetFree l (⟨"java/lang/Record", "<init>", "()V"⟩ : MethodName) (head1 (Jvm.Cond.code (⟨"java/lang/Record", "<init>", "()V"⟩ : MethodName) jdk_30_method_1_code 1 none :: ws) ({ frames := 1, cells := 0, slots := 0, locals := 12 } : Room)) (fun a U => a = #[(.ref r0)] ∧ Z.Warmed39 U.vm ∧ U.heap = h0) (fun _ _ _ _ _ => True) (fun _ U o U' => ∃ v L, o = .returned v ∧ Q_rmR Z r0 h0 n0 v U'.heap L ∧ FrameEnd U o U' L ({ frames := 1, cells := 0, slots := 0, locals := 12 } : Room).cells ({ frames := 1, cells := 0, slots := 0, locals := 12 } : Room).slots) := by
  refine MetFree.of_bodySF (plainFor_of_name own_pn_0) hisR ?_
  intro p e s m args below meth c s₁ Bd hml0 hP hK
  obtain ⟨rfl, hZ, hh⟩ := hP
  have hx := Bd.exec
  have hby := Bd.bytes
  have hml : c.maxLocals = 1 := hml0
  have hown : s.vm.findClass "java/lang/Record" = some m.cls := findClass_of_methodNamed Bd.named
  have hnm := (name_of_methodNamed Bd.named Bd.method).1
  have X0 : Stand p l e ({ frames := 1, cells := 0, slots := 0, locals := 12 } : Room) s m #[(.ref r0)] below meth c s₁ [] 0 0 := Stand.of_body Bd
  have e0 : s₁.heap = h0 := by rw [← hh, Bd.state]; rfl
  have N0 := Fr.nil n0
  have K0 : Keep h0 h0 [] := Keep.refl h0 _
  have pre0 : ∀ t, Steps p.tables e below (s₁.setTop (mkF m 0 #[.val (.ref r0)] [])) t → Steps p.tables e below (s₁.setTop (entryFrame m #[(.ref r0)] 1)) t := fun t k => castTop (own_ef_0 m r0) k
  obtain ⟨T1, X1, e1, st1⟩ := initO X0 hx hZ hown (hw _ (List.mem_of_getElem? (i := 11) rfl)) (hw _ (List.mem_of_getElem? (i := 12) rfl)) (hw _ (List.mem_of_getElem? (i := 13) rfl)) e0 (g := (mkF m 1 #[.val (.ref r0)] [(.ref r0)])) rfl (by rw [hml]; rfl) rfl (hb hby own_d2_1) (by decide) (W := 0) (by show 2 * 0 + _ ≤ _; exact Nat.le_of_eq rfl) (by decide)
  have k2 : ∀ t, Steps p.tables e below (T1.setTop (mkF m 4 #[.val (.ref r0)] [])) t → Steps p.tables e below (s₁.setTop (mkF m 0 #[.val (.ref r0)] [])) t := by
    intro t h
    show Steps p.tables e below (s₁.setTop (mkF m 0 #[.val (.ref r0)] [])) _
    refine XS.aloadN X0.here hx rfl (hb hby own_d2_0) rfl rfl ?_
    show Steps p.tables e below (s₁.setTop (mkF m 1 #[.val (.ref r0)] [(.ref r0)])) _
    refine st1 _ ?_
    exact h
  obtain ⟨fs, hr, hrun, hended, hW, hsame⟩ := X1.leave (v := none) (fun _ => rfl)
  refine ⟨_, _, pre0 _ (k2 _ ?_), hrun, hended, _, _, rfl, ?_, ⟨_, rfl⟩, hW, hsame.mono (by decide) (by decide)⟩
  · exact X1.returnOut hx Bd.returns (hb hby own_d2_4) hr
  · show Q_rmR Z _ h0 n0 _ T1.heap _
    rw [e1]
    exact ⟨rfl, N0, rfl⟩
def Q_rm1 (Z : State) (r0 : Addr) (p1 : Int32) (h0 : Heap) (n0 : Nat) (v : Option Value) (h : Heap) (L : List Loc) : Prop := v = none ∧ Fr n0 L ∧ Keep h0 h [r0] ∧ Exa Z h r0 "com/example/woodrat/woodrat/wire/PreLogin" ∧ Fld Z h r0 "com/example/woodrat/woodrat/wire/PreLogin" "encryption" "I" (.int p1)
set_option maxRecDepth 65536 in
set_option maxHeartbeats 40000000 in
theorem rm1 (l : Launch) (Z : State) (a0 : Array Value) (hw : ∀ d ∈ tables_1, d.before a0 Z = true) (ws : List Jvm.Cond) (r0 : Addr) (p1 : Int32) (h0 : Heap) (n0 : Nat) (Z0 : n0 ≤ h0.size) (F1 : Fld Z h0 r0 "com/example/woodrat/woodrat/wire/PreLogin" "encryption" "I" (.int 0)) (E1 : Exa Z h0 r0 "com/example/woodrat/woodrat/wire/PreLogin") (g_r0 : n0 ≤ r0) :
    MetFree l (⟨"com/example/woodrat/woodrat/wire/PreLogin", "<init>", "(I)V"⟩ : MethodName) (head1 (Jvm.Cond.code (⟨"com/example/woodrat/woodrat/wire/PreLogin", "<init>", "(I)V"⟩ : MethodName) prog_72_method_1_code 2 none :: ws) ({ frames := 2, cells := 0, slots := 0, locals := 24 } : Room)) (fun a U => a = #[(.ref r0), (.int p1)] ∧ Z.Warmed39 U.vm ∧ U.heap = h0) (fun _ _ _ _ _ => True) (fun _ U o U' => ∃ v L, o = .returned v ∧ Q_rm1 Z r0 p1 h0 n0 v U'.heap L ∧ FrameEnd U o U' L ({ frames := 2, cells := 0, slots := 0, locals := 24 } : Room).cells ({ frames := 2, cells := 0, slots := 0, locals := 24 } : Room).slots) := by
  refine MetFree.of_bodySF (plainFor_of_name own_pn_1) hisR ?_
  intro p e s m args below meth c s₁ Bd hml0 hP hK
  obtain ⟨rfl, hZ, hh⟩ := hP
  have hx := Bd.exec
  have hby := Bd.bytes
  have hml : c.maxLocals = 2 := hml0
  have hown : s.vm.findClass "com/example/woodrat/woodrat/wire/PreLogin" = some m.cls := findClass_of_methodNamed Bd.named
  have hnm := (name_of_methodNamed Bd.named Bd.method).1
  have X0 : Stand p l e ({ frames := 2, cells := 0, slots := 0, locals := 24 } : Room) s m #[(.ref r0), (.int p1)] below meth c s₁ [] 0 0 := Stand.of_body Bd
  have e0 : s₁.heap = h0 := by rw [← hh, Bd.state]; rfl
  have N0 := Fr.nil n0
  have K0 : Keep h0 h0 [r0] := Keep.refl h0 _
  have pre0 : ∀ t, Steps p.tables e below (s₁.setTop (mkF m 0 #[.val (.ref r0), .val (.int p1)] [])) t → Steps p.tables e below (s₁.setTop (entryFrame m #[(.ref r0), (.int p1)] 2)) t := fun t k => castTop (own_ef_1 m r0 p1) k
  obtain ⟨_, _, ⟨T3, L3, k3, n3⟩, -, X3, ⟨Lc3, hQ3, l3, y3, z3⟩, st3⟩ := X0.specialBack hx (y := (⟨"java/lang/Record", "<init>", "()V"⟩ : MethodName)) rfl hown (mvT hZ (hw _ (List.mem_of_getElem? (i := 6) rfl))) (mvT hZ (hw _ (List.mem_of_getElem? (i := 7) rfl))) (mvT hZ (hw _ (List.mem_of_getElem? (i := 10) rfl))) (by decide) (backOf (W := 0) (rmR l Z a0 hw [] r0  h0 n0 Z0 ) hZ (hw _ (List.mem_of_getElem? (i := 10) rfl)) (hw _ (List.mem_of_getElem? (i := 9) rfl)) (by decide) (by decide)) (g := (mkF m 1 #[.val (.ref r0), .val (.int p1)] [(.ref r0)])) rfl (by rw [hml]; rfl) (Steps.refl _) (a := r0) (argsL := []) (rest := []) (lenOf own_pd_0 rfl) rfl (by show 2 * 0 + _ ≤ _; exact Nat.le_of_eq rfl) (hb hby own_d1_1) (fun _ _ => ⟨rfl, e0, (by decide : 0 + 0 ≤ _), (by decide : 0 + 0 ≤ _)⟩)
  dsimp only [Pt.U, Pt.locs, Pt.cells, Pt.slots] at X3 l3 y3 z3 st3 hQ3
  subst l3 y3 z3
  obtain ⟨rfl, Nq3, eq3⟩ := hQ3
  have N3 := Fr.app N0 Nq3
  obtain ⟨T4, h4, X4, e4, W4, st4⟩ := putF X3 hx hZ hown (host := "") (Or.inl (hw _ (List.mem_of_getElem? (i := 14) rfl))) Via.refl eq3 F1 E1 (Or.inr ⟨(hw _ (List.mem_of_getElem? (i := 15) rfl)), rfl, hnm⟩) (hw _ (List.mem_of_getElem? (i := 1) rfl)) (ty := .int) (by decide) rfl rfl (g := (mkF m 6 #[.val (.ref r0), .val (.int p1)] [(.int p1), (.ref r0)])) rfl rfl (hb hby own_d1_6)
  have f5 := F1.same W4
  have f6 := E1.wr W4
  have Z7 : n0 ≤ h4.size := Nat.le_trans Z0 (Keep.of_wr W4).1
  have K8 := K0.wr W4 (Or.inl (List.mem_of_getElem? (i := 0) rfl))
  have N4 := Fr.snoc X4 N3 g_r0
  have k9 : ∀ t, Steps p.tables e below (T4.setTop (mkF m 9 #[.val (.ref r0), .val (.int p1)] [])) t → Steps p.tables e below (s₁.setTop (mkF m 0 #[.val (.ref r0), .val (.int p1)] [])) t := by
    intro t h
    show Steps p.tables e below (s₁.setTop (mkF m 0 #[.val (.ref r0), .val (.int p1)] [])) _
    refine XS.aloadN X0.here hx rfl (hb hby own_d1_0) rfl rfl ?_
    show Steps p.tables e below (s₁.setTop (mkF m 1 #[.val (.ref r0), .val (.int p1)] [(.ref r0)])) _
    refine st3.trans ?_
    show Steps p.tables e below (T3.setTop (mkF m 4 #[.val (.ref r0), .val (.int p1)] [])) _
    refine XS.aloadN X3.here hx rfl (hb hby own_d1_4) rfl rfl ?_
    show Steps p.tables e below (T3.setTop (mkF m 5 #[.val (.ref r0), .val (.int p1)] [(.ref r0)])) _
    refine XS.iloadN X3.here hx rfl (hb hby own_d1_5) rfl ?_
    show Steps p.tables e below (T3.setTop (mkF m 6 #[.val (.ref r0), .val (.int p1)] [(.int p1), (.ref r0)])) _
    refine st4 _ ?_
    exact h
  obtain ⟨fs, hr, hrun, hended, hW, hsame⟩ := X4.leave (v := none) (fun _ => rfl)
  refine ⟨_, _, pre0 _ (k9 _ ?_), hrun, hended, _, _, rfl, ?_, ⟨_, rfl⟩, hW, hsame.mono (by decide) (by decide)⟩
  · exact X4.returnOut hx Bd.returns (hb hby own_d1_9) hr
  · show Q_rm1 Z _ _ h0 n0 _ T4.heap _
    rw [e4]
    exact ⟨rfl, N4, K8, f6, f5⟩
def Q_rmS (Z : State) (r0 : Addr) (w1 : Int32) (h0 : Heap) (n0 : Nat) (v : Option Value) (h : Heap) (L : List Loc) : Prop := v = some (.int (own_sup (w1 &&& 3))) ∧ Fr n0 L ∧ h = h0
set_option maxRecDepth 65536 in
set_option maxHeartbeats 40000000 in
theorem rmS (l : Launch) (Z : State) (a0 : Array Value) (hw : ∀ d ∈ tables_1, d.before a0 Z = true) (ws : List Jvm.Cond) (r0 : Addr) (w1 : Int32) (h0 : Heap) (n0 : Nat) (Z0 : n0 ≤ h0.size) (F1 : Fld Z h0 r0 "com/example/woodrat/woodrat/wire/PreLogin" "encryption" "I" (.int w1)) :
    MetFree l (⟨"com/example/woodrat/woodrat/wire/PreLogin", "supportsEncryption", "()Z"⟩ : MethodName) (head1 (Jvm.Cond.code (⟨"com/example/woodrat/woodrat/wire/PreLogin", "supportsEncryption", "()Z"⟩ : MethodName) prog_72_method_4_code 1 (some .boolean) :: ws) ({ frames := 0, cells := 0, slots := 0, locals := 0 } : Room)) (fun a U => a = #[(.ref r0)] ∧ Z.Warmed39 U.vm ∧ U.heap = h0) (fun _ _ _ _ _ => True) (fun _ U o U' => ∃ v L, o = .returned v ∧ Q_rmS Z r0 w1 h0 n0 v U'.heap L ∧ FrameEnd U o U' L ({ frames := 0, cells := 0, slots := 0, locals := 0 } : Room).cells ({ frames := 0, cells := 0, slots := 0, locals := 0 } : Room).slots) := by
  refine MetFree.of_bodySF (plainFor_of_name own_pn_1) hisR ?_
  intro p e s m args below meth c s₁ Bd hml0 hP hK
  obtain ⟨rfl, hZ, hh⟩ := hP
  have hx := Bd.exec
  have hby := Bd.bytes
  have hml : c.maxLocals = 1 := hml0
  have hown : s.vm.findClass "com/example/woodrat/woodrat/wire/PreLogin" = some m.cls := findClass_of_methodNamed Bd.named
  have hnm := (name_of_methodNamed Bd.named Bd.method).1
  have X0 : Stand p l e ({ frames := 0, cells := 0, slots := 0, locals := 0 } : Room) s m #[(.ref r0)] below meth c s₁ [] 0 0 := Stand.of_body Bd
  have e0 : s₁.heap = h0 := by rw [← hh, Bd.state]; rfl
  have N0 := Fr.nil n0
  have K0 : Keep h0 h0 [] := Keep.refl h0 _
  have pre0 : ∀ t, Steps p.tables e below (s₁.setTop (mkF m 0 #[.val (.ref r0)] [])) t → Steps p.tables e below (s₁.setTop (entryFrame m #[(.ref r0)] 1)) t := fun t k => castTop (own_ef_0 m r0) k
  obtain ⟨T10, X10, e10, st10⟩ := getF X0 hx hZ hown (host := "") (Or.inl (hw _ (List.mem_of_getElem? (i := 14) rfl))) Via.refl e0 F1 (g := (mkF m 1 #[.val (.ref r0)] [(.ref r0)])) rfl rfl (hb hby own_d4_1)
  have k11 : ∀ t, Steps p.tables e below (T10.setTop (mkF m 7 #[.val (.ref r0)] [(.int (2 : Int32)), (.int (w1 &&& (3 : Int32)))])) t → Steps p.tables e below (s₁.setTop (mkF m 0 #[.val (.ref r0)] [])) t := by
    intro t h
    show Steps p.tables e below (s₁.setTop (mkF m 0 #[.val (.ref r0)] [])) _
    refine XS.aloadN X0.here hx rfl (hb hby own_d4_0) rfl rfl ?_
    show Steps p.tables e below (s₁.setTop (mkF m 1 #[.val (.ref r0)] [(.ref r0)])) _
    refine st10 _ ?_
    show Steps p.tables e below (T10.setTop (mkF m 4 #[.val (.ref r0)] [(.int w1)])) _
    refine XS.iconst X10.here hx rfl (hb hby own_d4_4) ?_
    show Steps p.tables e below (T10.setTop (mkF m 5 #[.val (.ref r0)] [(.int (3 : Int32)), (.int w1)])) _
    refine XS.iand X10.here hx rfl (hb hby own_d4_5) rfl ?_
    show Steps p.tables e below (T10.setTop (mkF m 6 #[.val (.ref r0)] [(.int (w1 &&& (3 : Int32)))])) _
    refine XS.iconst X10.here hx rfl (hb hby own_d4_6) ?_
    exact h
  by_cases c7_12 : (w1 &&& (3 : Int32)) = (2 : Int32)
  · skip
    have k13 : ∀ t, Steps p.tables e below (T10.setTop (mkF m 15 #[.val (.ref r0)] [(.int (0 : Int32))])) t → Steps p.tables e below (s₁.setTop (mkF m 0 #[.val (.ref r0)] [])) t := by
      intro t h
      refine k11 t ?_
      show Steps p.tables e below (T10.setTop (mkF m 7 #[.val (.ref r0)] [(.int (2 : Int32)), (.int (w1 &&& (3 : Int32)))])) _
      refine XS.icmpYes X10.here hx rfl (pc0 := 7) (pc' := 14) rfl (hb hby own_d4_7) rfl (teq c7_12).1 (by decide) (by decide) ?_
      show Steps p.tables e below (T10.setTop (mkF m 14 #[.val (.ref r0)] [])) _
      refine XS.iconst X10.here hx rfl (hb hby own_d4_14) ?_
      exact h
    obtain ⟨fs, hr, hrun, hended, hW, hsame⟩ := X10.leave (v := some (.int (0 : Int32))) (fun h => by rw [Bd.returns] at h; cases h)
    refine ⟨_, _, pre0 _ (k13 _ ?_), hrun, hended, _, _, rfl, ?_, ⟨_, rfl⟩, hW, hsame.mono (by decide) (by decide)⟩
    · exact retN X10 hx (t := .boolean) Bd.returns (by simp) (hb hby own_d4_15) hr
    · show Q_rmS Z _ _ h0 n0 _ T10.heap _
      rw [e10]
      exact ⟨congrArg (fun z : Int32 => some (Value.int z)) (by first | (simp only [own_sup, c7_12, ↓reduceIte]; done) | (simp [own_sup, c7_12]; done)), N0, rfl⟩
  · skip
    have k14 : ∀ t, Steps p.tables e below (T10.setTop (mkF m 15 #[.val (.ref r0)] [(.int (1 : Int32))])) t → Steps p.tables e below (s₁.setTop (mkF m 0 #[.val (.ref r0)] [])) t := by
      intro t h
      refine k11 t ?_
      show Steps p.tables e below (T10.setTop (mkF m 7 #[.val (.ref r0)] [(.int (2 : Int32)), (.int (w1 &&& (3 : Int32)))])) _
      refine XS.icmpNo X10.here hx rfl (hb hby own_d4_7) rfl (feq c7_12).1 ?_
      show Steps p.tables e below (T10.setTop (mkF m 10 #[.val (.ref r0)] [])) _
      refine XS.iconst X10.here hx rfl (hb hby own_d4_10) ?_
      show Steps p.tables e below (T10.setTop (mkF m 11 #[.val (.ref r0)] [(.int (1 : Int32))])) _
      refine XS.goto X10.here hx rfl (pc0 := 11) (pc' := 15) rfl (hb hby own_d4_11) (by decide) (by decide) ?_
      exact h
    obtain ⟨fs, hr, hrun, hended, hW, hsame⟩ := X10.leave (v := some (.int (1 : Int32))) (fun h => by rw [Bd.returns] at h; cases h)
    refine ⟨_, _, pre0 _ (k14 _ ?_), hrun, hended, _, _, rfl, ?_, ⟨_, rfl⟩, hW, hsame.mono (by decide) (by decide)⟩
    · exact retN X10 hx (t := .boolean) Bd.returns (by simp) (hb hby own_d4_15) hr
    · show Q_rmS Z _ _ h0 n0 _ T10.heap _
      rw [e10]
      exact ⟨congrArg (fun z : Int32 => some (Value.int z)) (by first | (simp only [own_sup, c7_12, ↓reduceIte]; done) | (simp [own_sup, c7_12]; done)), N0, rfl⟩
def Q_rm0 (Z : State) (p0 : Int32) (h0 : Heap) (n0 : Nat) (v : Option Value) (h : Heap) (L : List Loc) : Prop := v = some (.int 1) ∧ Fr n0 L
set_option maxRecDepth 65536 in
set_option maxHeartbeats 40000000 in
theorem rm0 (l : Launch) (Z : State) (a0 : Array Value) (hw : ∀ d ∈ tables_1, d.before a0 Z = true) (ws : List Jvm.Cond) (p0 : Int32) (h0 : Heap) (n0 : Nat) (Z0 : n0 ≤ h0.size) :
    MetFree l x (head1 (Jvm.Cond.code x code maxLocals ret :: ws) room_1) (fun a U => a = #[(.int p0)] ∧ Z.Warmed39 U.vm ∧ U.heap = h0) (fun _ _ _ _ _ => True) (fun _ U o U' => ∃ v L, o = .returned v ∧ Q_rm0 Z p0 h0 n0 v U'.heap L ∧ FrameEnd U o U' L 1 1) := by
  refine MetFree.of_bodySF (plainFor_of_name own_pn_2) hisR ?_
  intro p e s m args below meth c s₁ Bd hml0 hP hK
  obtain ⟨rfl, hZ, hh⟩ := hP
  have hx := Bd.exec
  have hby := Bd.bytes
  have hml : c.maxLocals = 5 := hml0
  have hown : s.vm.findClass "com/example/woodrat/woodrat/wire/PreLoginSupportsEncryptionPinLaw" = some m.cls := findClass_of_methodNamed Bd.named
  have hnm := (name_of_methodNamed Bd.named Bd.method).1
  have X0 : Stand p l e room_1 s m #[(.int p0)] below meth c s₁ [] 0 0 := Stand.of_body Bd
  have e0 : s₁.heap = h0 := by rw [← hh, Bd.state]; rfl
  have N0 := Fr.nil n0
  have K0 : Keep h0 h0 [] := Keep.refl h0 _
  have pre0 : ∀ t, Steps p.tables e below (s₁.setTop (mkF m 0 #[.val (.int p0), .unset, .unset, .unset, .unset] [])) t → Steps p.tables e below (s₁.setTop (entryFrame m #[(.int p0)] maxLocals)) t := fun t k => castTop (own_ef_2 m p0) k
  obtain ⟨T15, h15, X15, e15, E15, A15, D15, -, st15⟩ := newO X0 hx hZ hown (hw _ (List.mem_of_getElem? (i := 0) rfl)) (hw _ (List.mem_of_getElem? (i := 1) rfl)) (hw _ (List.mem_of_getElem? (i := 2) rfl)) e0 (g := (mkF m 0 #[.val (.int p0), .unset, .unset, .unset, .unset] [])) rfl (hb hby at_0) (by decide) (by decide)
  obtain ⟨b15, g15⟩ : ∃ z, z = h0.size := ⟨_, rfl⟩
  rw [← g15] at A15 D15 st15
  have g_b15 : n0 ≤ b15 := Nat.le_trans Z0 (Nat.le_of_eq g15.symm)
  have sz_b15 : h0.size ≤ b15 := Nat.le_trans K0.1 (Nat.le_of_eq g15.symm)
  have Z16 : n0 ≤ h15.size := Nat.le_trans Z0 E15.1
  have K17 := K0.ext E15
  have f18 : Fld Z h15 b15 "com/example/woodrat/woodrat/wire/PreLogin" "encryption" "I" (.int (0 : Int32)) := D15 (Or.inr (hw _ (List.mem_of_getElem? (i := 15) rfl))) (ty := .int) (by decide)
  obtain ⟨_, _, ⟨T19, L19, k19, n19⟩, -, X19, ⟨Lc19, hQ19, l19, y19, z19⟩, st19⟩ := X15.specialBack hx (y := (⟨"com/example/woodrat/woodrat/wire/PreLogin", "<init>", "(I)V"⟩ : MethodName)) rfl hown (mvT hZ (hw _ (List.mem_of_getElem? (i := 3) rfl))) (mvT hZ (hw _ (List.mem_of_getElem? (i := 4) rfl))) (mvT hZ (hw _ (List.mem_of_getElem? (i := 5) rfl))) (by decide) (backOf (W := 1) (rm1 l Z a0 hw [] b15 p0  h15 n0 Z16 f18 A15 g_b15) hZ (hw _ (List.mem_of_getElem? (i := 5) rfl)) (hw _ (List.mem_of_getElem? (i := 2) rfl)) (by decide) (by decide)) (g := (mkF m 5 #[.val (.int p0), .unset, .unset, .unset, .unset] [(.int p0), (.ref b15), (.ref b15)])) rfl (by rw [hml]; rfl) (Steps.refl _) (a := b15) (argsL := [(.int p0)]) (rest := [(.ref b15)]) (lenOf own_pd_1 rfl) rfl (by show 2 * 0 + _ ≤ _; exact Nat.le_of_eq rfl) (hb hby at_5) (fun _ _ => ⟨rfl, e15, (by decide : 1 + 0 ≤ _), (by decide : 1 + 0 ≤ _)⟩)
  dsimp only [Pt.U, Pt.locs, Pt.cells, Pt.slots] at X19 l19 y19 z19 st19 hQ19
  subst l19 y19 z19
  obtain ⟨rfl, Nq19, Kq19, Eq19, Fq19⟩ := hQ19
  have N19 := Fr.app N0 Nq19
  have f20 := A15.keep Kq19
  have Z21 : n0 ≤ T19.heap.size := Nat.le_trans Z16 Kq19.1
  have K22 := K17.trans Kq19 (allS (Or.inr sz_b15) all0)
  have k23 : ∀ t, Steps p.tables e below (T19.setTop (mkF m 12 #[.val (.int p0), .val (.ref b15), .unset, .unset, .unset] [(.int (p0 &&& (1 : Int32)))])) t → Steps p.tables e below (s₁.setTop (mkF m 0 #[.val (.int p0), .unset, .unset, .unset, .unset] [])) t := by
    intro t h
    show Steps p.tables e below (s₁.setTop (mkF m 0 #[.val (.int p0), .unset, .unset, .unset, .unset] [])) _
    refine st15 _ ?_
    show Steps p.tables e below (T15.setTop (mkF m 3 #[.val (.int p0), .unset, .unset, .unset, .unset] [(.ref b15)])) _
    refine XS.dup X15.here hx rfl (hb hby at_3) rfl rfl ?_
    show Steps p.tables e below (T15.setTop (mkF m 4 #[.val (.int p0), .unset, .unset, .unset, .unset] [(.ref b15), (.ref b15)])) _
    refine XS.iloadN X15.here hx rfl (hb hby at_4) rfl ?_
    show Steps p.tables e below (T15.setTop (mkF m 5 #[.val (.int p0), .unset, .unset, .unset, .unset] [(.int p0), (.ref b15), (.ref b15)])) _
    refine st19.trans ?_
    show Steps p.tables e below (T19.setTop (mkF m 8 #[.val (.int p0), .unset, .unset, .unset, .unset] [(.ref b15)])) _
    refine XS.astoreN X19.here hx rfl (hb hby at_8) rfl rfl (l' := #[.val (.int p0), .val (.ref b15), .unset, .unset, .unset]) rfl ?_
    show Steps p.tables e below (T19.setTop (mkF m 9 #[.val (.int p0), .val (.ref b15), .unset, .unset, .unset] [])) _
    refine XS.iloadN X19.here hx rfl (hb hby at_9) rfl ?_
    show Steps p.tables e below (T19.setTop (mkF m 10 #[.val (.int p0), .val (.ref b15), .unset, .unset, .unset] [(.int p0)])) _
    refine XS.iconst X19.here hx rfl (hb hby at_10) ?_
    show Steps p.tables e below (T19.setTop (mkF m 11 #[.val (.int p0), .val (.ref b15), .unset, .unset, .unset] [(.int (1 : Int32)), (.int p0)])) _
    refine XS.iand X19.here hx rfl (hb hby at_11) rfl ?_
    exact h
  by_cases c12_24 : (p0 &&& (1 : Int32)) = (0 : Int32)
  · skip
    have k25 : ∀ t, Steps p.tables e below (T19.setTop (mkF m 24 #[.val (.int p0), .val (.ref b15), .val (.int (0 : Int32)), .unset, .unset] [(.int (p0 &&& (2 : Int32)))])) t → Steps p.tables e below (s₁.setTop (mkF m 0 #[.val (.int p0), .unset, .unset, .unset, .unset] [])) t := by
      intro t h
      refine k23 t ?_
      show Steps p.tables e below (T19.setTop (mkF m 12 #[.val (.int p0), .val (.ref b15), .unset, .unset, .unset] [(.int (p0 &&& (1 : Int32)))])) _
      refine XS.ifYes X19.here hx rfl (pc0 := 12) (pc' := 19) rfl (hb hby at_12) rfl ((if0 _ _).trans (teq c12_24).1) (by decide) (by decide) ?_
      show Steps p.tables e below (T19.setTop (mkF m 19 #[.val (.int p0), .val (.ref b15), .unset, .unset, .unset] [])) _
      refine XS.iconst X19.here hx rfl (hb hby at_19) ?_
      show Steps p.tables e below (T19.setTop (mkF m 20 #[.val (.int p0), .val (.ref b15), .unset, .unset, .unset] [(.int (0 : Int32))])) _
      refine XS.istoreN X19.here hx rfl (hb hby at_20) rfl (l' := #[.val (.int p0), .val (.ref b15), .val (.int (0 : Int32)), .unset, .unset]) rfl ?_
      show Steps p.tables e below (T19.setTop (mkF m 21 #[.val (.int p0), .val (.ref b15), .val (.int (0 : Int32)), .unset, .unset] [])) _
      refine XS.iloadN X19.here hx rfl (hb hby at_21) rfl ?_
      show Steps p.tables e below (T19.setTop (mkF m 22 #[.val (.int p0), .val (.ref b15), .val (.int (0 : Int32)), .unset, .unset] [(.int p0)])) _
      refine XS.iconst X19.here hx rfl (hb hby at_22) ?_
      show Steps p.tables e below (T19.setTop (mkF m 23 #[.val (.int p0), .val (.ref b15), .val (.int (0 : Int32)), .unset, .unset] [(.int (2 : Int32)), (.int p0)])) _
      refine XS.iand X19.here hx rfl (hb hby at_23) rfl ?_
      exact h
    by_cases c24_26 : (p0 &&& (2 : Int32)) = (0 : Int32)
    · skip
      have k27 : ∀ t, Steps p.tables e below (T19.setTop (mkF m 34 #[.val (.int p0), .val (.ref b15), .val (.int (0 : Int32)), .val (.int (0 : Int32)), .unset] [(.int (0 : Int32))])) t → Steps p.tables e below (s₁.setTop (mkF m 0 #[.val (.int p0), .unset, .unset, .unset, .unset] [])) t := by
        intro t h
        refine k25 t ?_
        show Steps p.tables e below (T19.setTop (mkF m 24 #[.val (.int p0), .val (.ref b15), .val (.int (0 : Int32)), .unset, .unset] [(.int (p0 &&& (2 : Int32)))])) _
        refine XS.ifYes X19.here hx rfl (pc0 := 24) (pc' := 31) rfl (hb hby at_24) rfl ((if0 _ _).trans (teq c24_26).1) (by decide) (by decide) ?_
        show Steps p.tables e below (T19.setTop (mkF m 31 #[.val (.int p0), .val (.ref b15), .val (.int (0 : Int32)), .unset, .unset] [])) _
        refine XS.iconst X19.here hx rfl (hb hby at_31) ?_
        show Steps p.tables e below (T19.setTop (mkF m 32 #[.val (.int p0), .val (.ref b15), .val (.int (0 : Int32)), .unset, .unset] [(.int (0 : Int32))])) _
        refine XS.istoreN X19.here hx rfl (hb hby at_32) rfl (l' := #[.val (.int p0), .val (.ref b15), .val (.int (0 : Int32)), .val (.int (0 : Int32)), .unset]) rfl ?_
        show Steps p.tables e below (T19.setTop (mkF m 33 #[.val (.int p0), .val (.ref b15), .val (.int (0 : Int32)), .val (.int (0 : Int32)), .unset] [])) _
        refine XS.iloadN X19.here hx rfl (hb hby at_33) rfl ?_
        exact h
      have k28 : ∀ t, Steps p.tables e below (T19.setTop (mkF m 38 #[.val (.int p0), .val (.ref b15), .val (.int (0 : Int32)), .val (.int (0 : Int32)), .unset] [(.int (0 : Int32))])) t → Steps p.tables e below (s₁.setTop (mkF m 0 #[.val (.int p0), .unset, .unset, .unset, .unset] [])) t := by
        intro t h
        refine k27 t ?_
        show Steps p.tables e below (T19.setTop (mkF m 34 #[.val (.int p0), .val (.ref b15), .val (.int (0 : Int32)), .val (.int (0 : Int32)), .unset] [(.int (0 : Int32))])) _
        refine XS.ifNo X19.here hx rfl (hb hby at_34) rfl ((if0 _ _).trans (teq (by decide : (0 : Int32) = (0 : Int32))).2) ?_
        show Steps p.tables e below (T19.setTop (mkF m 37 #[.val (.int p0), .val (.ref b15), .val (.int (0 : Int32)), .val (.int (0 : Int32)), .unset] [])) _
        refine XS.iloadN X19.here hx rfl (hb hby at_37) rfl ?_
        exact h
      obtain ⟨cq29, kq29, q29a, q29b, q29c⟩ := isOf hZ rfl f20
      obtain ⟨_, _, ⟨T29, L29, k29, n29⟩, -, X29, ⟨Lc29, hQ29, l29, y29, z29⟩, st29⟩ := X19.virtualBack hx (y := (⟨"com/example/woodrat/woodrat/wire/PreLogin", "supportsEncryption", "()Z"⟩ : MethodName)) (z := (⟨"com/example/woodrat/woodrat/wire/PreLogin", "supportsEncryption", "()Z"⟩ : MethodName)) hown (mvT hZ (hw _ (List.mem_of_getElem? (i := 16) rfl))) (mvT hZ (hw _ (List.mem_of_getElem? (i := 17) rfl))) (notFace_of_selects (args := #[]) (mvT hZ (hw _ (List.mem_of_getElem? (i := 19) rfl)))) (mvT hZ (hw _ (List.mem_of_getElem? (i := 19) rfl))) (mvT hZ (hw _ (List.mem_of_getElem? (i := 18) rfl))) (by decide) (backOf (W := 0) (rmS l Z a0 hw [] b15 p0 T19.heap n0 Z21 Fq19) hZ (hw _ (List.mem_of_getElem? (i := 20) rfl)) (hw _ (List.mem_of_getElem? (i := 2) rfl)) (by decide) (by decide)) q29a q29c (g := (mkF m 49 #[.val (.int p0), .val (.ref b15), .val (.int (0 : Int32)), .val (.int (0 : Int32)), .val (.int (1 : Int32))] [(.ref b15)])) rfl (by rw [hml]; rfl) (Steps.refl _) (argsL := []) (rest := []) (lenOf own_pd_2 rfl) rfl (by show 2 * 0 + _ ≤ _; exact Nat.le_of_eq rfl) (hb hby at_49) (fun _ _ => ⟨rfl, rfl, (by decide : 1 + 0 ≤ _), (by decide : 1 + 0 ≤ _)⟩)
      dsimp only [Pt.U, Pt.locs, Pt.cells, Pt.slots] at X29 l29 y29 z29 st29 hQ29
      subst l29 y29 z29
      obtain ⟨rfl, Nq29, eq29⟩ := hQ29
      have N29 := Fr.app N19 Nq29
      have k30 : ∀ t, Steps p.tables e below (T29.setTop (mkF m 54 #[.val (.int p0), .val (.ref b15), .val (.int (0 : Int32)), .val (.int (0 : Int32)), .val (.int (1 : Int32))] [(.int (1 : Int32)), (.int (own_sup (p0 &&& 3)))])) t → Steps p.tables e below (s₁.setTop (mkF m 0 #[.val (.int p0), .unset, .unset, .unset, .unset] [])) t := by
        intro t h
        refine k28 t ?_
        show Steps p.tables e below (T19.setTop (mkF m 38 #[.val (.int p0), .val (.ref b15), .val (.int (0 : Int32)), .val (.int (0 : Int32)), .unset] [(.int (0 : Int32))])) _
        refine XS.ifNo X19.here hx rfl (hb hby at_38) rfl ((if0 _ _).trans (teq (by decide : (0 : Int32) = (0 : Int32))).2) ?_
        show Steps p.tables e below (T19.setTop (mkF m 41 #[.val (.int p0), .val (.ref b15), .val (.int (0 : Int32)), .val (.int (0 : Int32)), .unset] [])) _
        refine XS.iconst X19.here hx rfl (hb hby at_41) ?_
        show Steps p.tables e below (T19.setTop (mkF m 42 #[.val (.int p0), .val (.ref b15), .val (.int (0 : Int32)), .val (.int (0 : Int32)), .unset] [(.int (1 : Int32))])) _
        refine XS.goto X19.here hx rfl (pc0 := 42) (pc' := 46) rfl (hb hby at_42) (by decide) (by decide) ?_
        show Steps p.tables e below (T19.setTop (mkF m 46 #[.val (.int p0), .val (.ref b15), .val (.int (0 : Int32)), .val (.int (0 : Int32)), .unset] [(.int (1 : Int32))])) _
        refine XS.istore X19.here hx rfl (hb hby at_46) rfl (l' := #[.val (.int p0), .val (.ref b15), .val (.int (0 : Int32)), .val (.int (0 : Int32)), .val (.int (1 : Int32))]) rfl ?_
        show Steps p.tables e below (T19.setTop (mkF m 48 #[.val (.int p0), .val (.ref b15), .val (.int (0 : Int32)), .val (.int (0 : Int32)), .val (.int (1 : Int32))] [])) _
        refine XS.aloadN X19.here hx rfl (hb hby at_48) rfl rfl ?_
        show Steps p.tables e below (T19.setTop (mkF m 49 #[.val (.int p0), .val (.ref b15), .val (.int (0 : Int32)), .val (.int (0 : Int32)), .val (.int (1 : Int32))] [(.ref b15)])) _
        refine st29.trans ?_
        show Steps p.tables e below (T29.setTop (mkF m 52 #[.val (.int p0), .val (.ref b15), .val (.int (0 : Int32)), .val (.int (0 : Int32)), .val (.int (1 : Int32))] [(.int (own_sup (p0 &&& 3)))])) _
        refine XS.iload X29.here hx rfl (hb hby at_52) rfl ?_
        exact h
      have b54_31 : (own_sup (p0 &&& 3)) = (1 : Int32) := (own_all p0).2.2.2.2 c12_24 c24_26
      have k32 : ∀ t, Steps p.tables e below (T29.setTop (mkF m 62 #[.val (.int p0), .val (.ref b15), .val (.int (0 : Int32)), .val (.int (0 : Int32)), .val (.int (1 : Int32))] [(.int (1 : Int32))])) t → Steps p.tables e below (s₁.setTop (mkF m 0 #[.val (.int p0), .unset, .unset, .unset, .unset] [])) t := by
        intro t h
        refine k30 t ?_
        show Steps p.tables e below (T29.setTop (mkF m 54 #[.val (.int p0), .val (.ref b15), .val (.int (0 : Int32)), .val (.int (0 : Int32)), .val (.int (1 : Int32))] [(.int (1 : Int32)), (.int (own_sup (p0 &&& 3)))])) _
        refine XS.icmpNo X29.here hx rfl (hb hby at_54) rfl (teq b54_31).2 ?_
        show Steps p.tables e below (T29.setTop (mkF m 57 #[.val (.int p0), .val (.ref b15), .val (.int (0 : Int32)), .val (.int (0 : Int32)), .val (.int (1 : Int32))] [])) _
        refine XS.iconst X29.here hx rfl (hb hby at_57) ?_
        show Steps p.tables e below (T29.setTop (mkF m 58 #[.val (.int p0), .val (.ref b15), .val (.int (0 : Int32)), .val (.int (0 : Int32)), .val (.int (1 : Int32))] [(.int (1 : Int32))])) _
        refine XS.goto X29.here hx rfl (pc0 := 58) (pc' := 62) rfl (hb hby at_58) (by decide) (by decide) ?_
        exact h
      obtain ⟨fs, hr, hrun, hended, hW, hsame⟩ := X29.leave (v := some (.int (1 : Int32))) (fun h => by rw [Bd.returns] at h; cases h)
      refine ⟨_, _, pre0 _ (k32 _ ?_), hrun, hended, _, _, rfl, ?_, ⟨_, rfl⟩, hW, hsame.mono (by decide) (by decide)⟩
      · exact retN X29 hx (t := .boolean) Bd.returns (by simp) (hb hby at_62) hr
      · show Q_rm0 Z _ h0 n0 _ T29.heap _
        rw [eq29]
        exact ⟨rfl, N29⟩
    · skip
      have k33 : ∀ t, Steps p.tables e below (T19.setTop (mkF m 34 #[.val (.int p0), .val (.ref b15), .val (.int (0 : Int32)), .val (.int (1 : Int32)), .unset] [(.int (0 : Int32))])) t → Steps p.tables e below (s₁.setTop (mkF m 0 #[.val (.int p0), .unset, .unset, .unset, .unset] [])) t := by
        intro t h
        refine k25 t ?_
        show Steps p.tables e below (T19.setTop (mkF m 24 #[.val (.int p0), .val (.ref b15), .val (.int (0 : Int32)), .unset, .unset] [(.int (p0 &&& (2 : Int32)))])) _
        refine XS.ifNo X19.here hx rfl (hb hby at_24) rfl ((if0 _ _).trans (feq c24_26).1) ?_
        show Steps p.tables e below (T19.setTop (mkF m 27 #[.val (.int p0), .val (.ref b15), .val (.int (0 : Int32)), .unset, .unset] [])) _
        refine XS.iconst X19.here hx rfl (hb hby at_27) ?_
        show Steps p.tables e below (T19.setTop (mkF m 28 #[.val (.int p0), .val (.ref b15), .val (.int (0 : Int32)), .unset, .unset] [(.int (1 : Int32))])) _
        refine XS.goto X19.here hx rfl (pc0 := 28) (pc' := 32) rfl (hb hby at_28) (by decide) (by decide) ?_
        show Steps p.tables e below (T19.setTop (mkF m 32 #[.val (.int p0), .val (.ref b15), .val (.int (0 : Int32)), .unset, .unset] [(.int (1 : Int32))])) _
        refine XS.istoreN X19.here hx rfl (hb hby at_32) rfl (l' := #[.val (.int p0), .val (.ref b15), .val (.int (0 : Int32)), .val (.int (1 : Int32)), .unset]) rfl ?_
        show Steps p.tables e below (T19.setTop (mkF m 33 #[.val (.int p0), .val (.ref b15), .val (.int (0 : Int32)), .val (.int (1 : Int32)), .unset] [])) _
        refine XS.iloadN X19.here hx rfl (hb hby at_33) rfl ?_
        exact h
      have k34 : ∀ t, Steps p.tables e below (T19.setTop (mkF m 38 #[.val (.int p0), .val (.ref b15), .val (.int (0 : Int32)), .val (.int (1 : Int32)), .unset] [(.int (1 : Int32))])) t → Steps p.tables e below (s₁.setTop (mkF m 0 #[.val (.int p0), .unset, .unset, .unset, .unset] [])) t := by
        intro t h
        refine k33 t ?_
        show Steps p.tables e below (T19.setTop (mkF m 34 #[.val (.int p0), .val (.ref b15), .val (.int (0 : Int32)), .val (.int (1 : Int32)), .unset] [(.int (0 : Int32))])) _
        refine XS.ifNo X19.here hx rfl (hb hby at_34) rfl ((if0 _ _).trans (teq (by decide : (0 : Int32) = (0 : Int32))).2) ?_
        show Steps p.tables e below (T19.setTop (mkF m 37 #[.val (.int p0), .val (.ref b15), .val (.int (0 : Int32)), .val (.int (1 : Int32)), .unset] [])) _
        refine XS.iloadN X19.here hx rfl (hb hby at_37) rfl ?_
        exact h
      obtain ⟨cq35, kq35, q35a, q35b, q35c⟩ := isOf hZ rfl f20
      obtain ⟨_, _, ⟨T35, L35, k35, n35⟩, -, X35, ⟨Lc35, hQ35, l35, y35, z35⟩, st35⟩ := X19.virtualBack hx (y := (⟨"com/example/woodrat/woodrat/wire/PreLogin", "supportsEncryption", "()Z"⟩ : MethodName)) (z := (⟨"com/example/woodrat/woodrat/wire/PreLogin", "supportsEncryption", "()Z"⟩ : MethodName)) hown (mvT hZ (hw _ (List.mem_of_getElem? (i := 16) rfl))) (mvT hZ (hw _ (List.mem_of_getElem? (i := 17) rfl))) (notFace_of_selects (args := #[]) (mvT hZ (hw _ (List.mem_of_getElem? (i := 19) rfl)))) (mvT hZ (hw _ (List.mem_of_getElem? (i := 19) rfl))) (mvT hZ (hw _ (List.mem_of_getElem? (i := 18) rfl))) (by decide) (backOf (W := 0) (rmS l Z a0 hw [] b15 p0 T19.heap n0 Z21 Fq19) hZ (hw _ (List.mem_of_getElem? (i := 20) rfl)) (hw _ (List.mem_of_getElem? (i := 2) rfl)) (by decide) (by decide)) q35a q35c (g := (mkF m 49 #[.val (.int p0), .val (.ref b15), .val (.int (0 : Int32)), .val (.int (1 : Int32)), .val (.int (0 : Int32))] [(.ref b15)])) rfl (by rw [hml]; rfl) (Steps.refl _) (argsL := []) (rest := []) (lenOf own_pd_2 rfl) rfl (by show 2 * 0 + _ ≤ _; exact Nat.le_of_eq rfl) (hb hby at_49) (fun _ _ => ⟨rfl, rfl, (by decide : 1 + 0 ≤ _), (by decide : 1 + 0 ≤ _)⟩)
      dsimp only [Pt.U, Pt.locs, Pt.cells, Pt.slots] at X35 l35 y35 z35 st35 hQ35
      subst l35 y35 z35
      obtain ⟨rfl, Nq35, eq35⟩ := hQ35
      have N35 := Fr.app N19 Nq35
      have k36 : ∀ t, Steps p.tables e below (T35.setTop (mkF m 54 #[.val (.int p0), .val (.ref b15), .val (.int (0 : Int32)), .val (.int (1 : Int32)), .val (.int (0 : Int32))] [(.int (0 : Int32)), (.int (own_sup (p0 &&& 3)))])) t → Steps p.tables e below (s₁.setTop (mkF m 0 #[.val (.int p0), .unset, .unset, .unset, .unset] [])) t := by
        intro t h
        refine k34 t ?_
        show Steps p.tables e below (T19.setTop (mkF m 38 #[.val (.int p0), .val (.ref b15), .val (.int (0 : Int32)), .val (.int (1 : Int32)), .unset] [(.int (1 : Int32))])) _
        refine XS.ifYes X19.here hx rfl (pc0 := 38) (pc' := 45) rfl (hb hby at_38) rfl ((if0 _ _).trans (feq (by decide : ¬ ((1 : Int32) = (0 : Int32)))).2) (by decide) (by decide) ?_
        show Steps p.tables e below (T19.setTop (mkF m 45 #[.val (.int p0), .val (.ref b15), .val (.int (0 : Int32)), .val (.int (1 : Int32)), .unset] [])) _
        refine XS.iconst X19.here hx rfl (hb hby at_45) ?_
        show Steps p.tables e below (T19.setTop (mkF m 46 #[.val (.int p0), .val (.ref b15), .val (.int (0 : Int32)), .val (.int (1 : Int32)), .unset] [(.int (0 : Int32))])) _
        refine XS.istore X19.here hx rfl (hb hby at_46) rfl (l' := #[.val (.int p0), .val (.ref b15), .val (.int (0 : Int32)), .val (.int (1 : Int32)), .val (.int (0 : Int32))]) rfl ?_
        show Steps p.tables e below (T19.setTop (mkF m 48 #[.val (.int p0), .val (.ref b15), .val (.int (0 : Int32)), .val (.int (1 : Int32)), .val (.int (0 : Int32))] [])) _
        refine XS.aloadN X19.here hx rfl (hb hby at_48) rfl rfl ?_
        show Steps p.tables e below (T19.setTop (mkF m 49 #[.val (.int p0), .val (.ref b15), .val (.int (0 : Int32)), .val (.int (1 : Int32)), .val (.int (0 : Int32))] [(.ref b15)])) _
        refine st35.trans ?_
        show Steps p.tables e below (T35.setTop (mkF m 52 #[.val (.int p0), .val (.ref b15), .val (.int (0 : Int32)), .val (.int (1 : Int32)), .val (.int (0 : Int32))] [(.int (own_sup (p0 &&& 3)))])) _
        refine XS.iload X35.here hx rfl (hb hby at_52) rfl ?_
        exact h
      have b54_37 : (own_sup (p0 &&& 3)) = (0 : Int32) := (own_all p0).2.2.2.1 c12_24 c24_26
      have k38 : ∀ t, Steps p.tables e below (T35.setTop (mkF m 62 #[.val (.int p0), .val (.ref b15), .val (.int (0 : Int32)), .val (.int (1 : Int32)), .val (.int (0 : Int32))] [(.int (1 : Int32))])) t → Steps p.tables e below (s₁.setTop (mkF m 0 #[.val (.int p0), .unset, .unset, .unset, .unset] [])) t := by
        intro t h
        refine k36 t ?_
        show Steps p.tables e below (T35.setTop (mkF m 54 #[.val (.int p0), .val (.ref b15), .val (.int (0 : Int32)), .val (.int (1 : Int32)), .val (.int (0 : Int32))] [(.int (0 : Int32)), (.int (own_sup (p0 &&& 3)))])) _
        refine XS.icmpNo X35.here hx rfl (hb hby at_54) rfl (teq b54_37).2 ?_
        show Steps p.tables e below (T35.setTop (mkF m 57 #[.val (.int p0), .val (.ref b15), .val (.int (0 : Int32)), .val (.int (1 : Int32)), .val (.int (0 : Int32))] [])) _
        refine XS.iconst X35.here hx rfl (hb hby at_57) ?_
        show Steps p.tables e below (T35.setTop (mkF m 58 #[.val (.int p0), .val (.ref b15), .val (.int (0 : Int32)), .val (.int (1 : Int32)), .val (.int (0 : Int32))] [(.int (1 : Int32))])) _
        refine XS.goto X35.here hx rfl (pc0 := 58) (pc' := 62) rfl (hb hby at_58) (by decide) (by decide) ?_
        exact h
      obtain ⟨fs, hr, hrun, hended, hW, hsame⟩ := X35.leave (v := some (.int (1 : Int32))) (fun h => by rw [Bd.returns] at h; cases h)
      refine ⟨_, _, pre0 _ (k38 _ ?_), hrun, hended, _, _, rfl, ?_, ⟨_, rfl⟩, hW, hsame.mono (by decide) (by decide)⟩
      · exact retN X35 hx (t := .boolean) Bd.returns (by simp) (hb hby at_62) hr
      · show Q_rm0 Z _ h0 n0 _ T35.heap _
        rw [eq35]
        exact ⟨rfl, N35⟩
  · skip
    have k39 : ∀ t, Steps p.tables e below (T19.setTop (mkF m 24 #[.val (.int p0), .val (.ref b15), .val (.int (1 : Int32)), .unset, .unset] [(.int (p0 &&& (2 : Int32)))])) t → Steps p.tables e below (s₁.setTop (mkF m 0 #[.val (.int p0), .unset, .unset, .unset, .unset] [])) t := by
      intro t h
      refine k23 t ?_
      show Steps p.tables e below (T19.setTop (mkF m 12 #[.val (.int p0), .val (.ref b15), .unset, .unset, .unset] [(.int (p0 &&& (1 : Int32)))])) _
      refine XS.ifNo X19.here hx rfl (hb hby at_12) rfl ((if0 _ _).trans (feq c12_24).1) ?_
      show Steps p.tables e below (T19.setTop (mkF m 15 #[.val (.int p0), .val (.ref b15), .unset, .unset, .unset] [])) _
      refine XS.iconst X19.here hx rfl (hb hby at_15) ?_
      show Steps p.tables e below (T19.setTop (mkF m 16 #[.val (.int p0), .val (.ref b15), .unset, .unset, .unset] [(.int (1 : Int32))])) _
      refine XS.goto X19.here hx rfl (pc0 := 16) (pc' := 20) rfl (hb hby at_16) (by decide) (by decide) ?_
      show Steps p.tables e below (T19.setTop (mkF m 20 #[.val (.int p0), .val (.ref b15), .unset, .unset, .unset] [(.int (1 : Int32))])) _
      refine XS.istoreN X19.here hx rfl (hb hby at_20) rfl (l' := #[.val (.int p0), .val (.ref b15), .val (.int (1 : Int32)), .unset, .unset]) rfl ?_
      show Steps p.tables e below (T19.setTop (mkF m 21 #[.val (.int p0), .val (.ref b15), .val (.int (1 : Int32)), .unset, .unset] [])) _
      refine XS.iloadN X19.here hx rfl (hb hby at_21) rfl ?_
      show Steps p.tables e below (T19.setTop (mkF m 22 #[.val (.int p0), .val (.ref b15), .val (.int (1 : Int32)), .unset, .unset] [(.int p0)])) _
      refine XS.iconst X19.here hx rfl (hb hby at_22) ?_
      show Steps p.tables e below (T19.setTop (mkF m 23 #[.val (.int p0), .val (.ref b15), .val (.int (1 : Int32)), .unset, .unset] [(.int (2 : Int32)), (.int p0)])) _
      refine XS.iand X19.here hx rfl (hb hby at_23) rfl ?_
      exact h
    by_cases c24_40 : (p0 &&& (2 : Int32)) = (0 : Int32)
    · skip
      have k41 : ∀ t, Steps p.tables e below (T19.setTop (mkF m 34 #[.val (.int p0), .val (.ref b15), .val (.int (1 : Int32)), .val (.int (0 : Int32)), .unset] [(.int (1 : Int32))])) t → Steps p.tables e below (s₁.setTop (mkF m 0 #[.val (.int p0), .unset, .unset, .unset, .unset] [])) t := by
        intro t h
        refine k39 t ?_
        show Steps p.tables e below (T19.setTop (mkF m 24 #[.val (.int p0), .val (.ref b15), .val (.int (1 : Int32)), .unset, .unset] [(.int (p0 &&& (2 : Int32)))])) _
        refine XS.ifYes X19.here hx rfl (pc0 := 24) (pc' := 31) rfl (hb hby at_24) rfl ((if0 _ _).trans (teq c24_40).1) (by decide) (by decide) ?_
        show Steps p.tables e below (T19.setTop (mkF m 31 #[.val (.int p0), .val (.ref b15), .val (.int (1 : Int32)), .unset, .unset] [])) _
        refine XS.iconst X19.here hx rfl (hb hby at_31) ?_
        show Steps p.tables e below (T19.setTop (mkF m 32 #[.val (.int p0), .val (.ref b15), .val (.int (1 : Int32)), .unset, .unset] [(.int (0 : Int32))])) _
        refine XS.istoreN X19.here hx rfl (hb hby at_32) rfl (l' := #[.val (.int p0), .val (.ref b15), .val (.int (1 : Int32)), .val (.int (0 : Int32)), .unset]) rfl ?_
        show Steps p.tables e below (T19.setTop (mkF m 33 #[.val (.int p0), .val (.ref b15), .val (.int (1 : Int32)), .val (.int (0 : Int32)), .unset] [])) _
        refine XS.iloadN X19.here hx rfl (hb hby at_33) rfl ?_
        exact h
      obtain ⟨cq42, kq42, q42a, q42b, q42c⟩ := isOf hZ rfl f20
      obtain ⟨_, _, ⟨T42, L42, k42, n42⟩, -, X42, ⟨Lc42, hQ42, l42, y42, z42⟩, st42⟩ := X19.virtualBack hx (y := (⟨"com/example/woodrat/woodrat/wire/PreLogin", "supportsEncryption", "()Z"⟩ : MethodName)) (z := (⟨"com/example/woodrat/woodrat/wire/PreLogin", "supportsEncryption", "()Z"⟩ : MethodName)) hown (mvT hZ (hw _ (List.mem_of_getElem? (i := 16) rfl))) (mvT hZ (hw _ (List.mem_of_getElem? (i := 17) rfl))) (notFace_of_selects (args := #[]) (mvT hZ (hw _ (List.mem_of_getElem? (i := 19) rfl)))) (mvT hZ (hw _ (List.mem_of_getElem? (i := 19) rfl))) (mvT hZ (hw _ (List.mem_of_getElem? (i := 18) rfl))) (by decide) (backOf (W := 0) (rmS l Z a0 hw [] b15 p0 T19.heap n0 Z21 Fq19) hZ (hw _ (List.mem_of_getElem? (i := 20) rfl)) (hw _ (List.mem_of_getElem? (i := 2) rfl)) (by decide) (by decide)) q42a q42c (g := (mkF m 49 #[.val (.int p0), .val (.ref b15), .val (.int (1 : Int32)), .val (.int (0 : Int32)), .val (.int (1 : Int32))] [(.ref b15)])) rfl (by rw [hml]; rfl) (Steps.refl _) (argsL := []) (rest := []) (lenOf own_pd_2 rfl) rfl (by show 2 * 0 + _ ≤ _; exact Nat.le_of_eq rfl) (hb hby at_49) (fun _ _ => ⟨rfl, rfl, (by decide : 1 + 0 ≤ _), (by decide : 1 + 0 ≤ _)⟩)
      dsimp only [Pt.U, Pt.locs, Pt.cells, Pt.slots] at X42 l42 y42 z42 st42 hQ42
      subst l42 y42 z42
      obtain ⟨rfl, Nq42, eq42⟩ := hQ42
      have N42 := Fr.app N19 Nq42
      have k43 : ∀ t, Steps p.tables e below (T42.setTop (mkF m 54 #[.val (.int p0), .val (.ref b15), .val (.int (1 : Int32)), .val (.int (0 : Int32)), .val (.int (1 : Int32))] [(.int (1 : Int32)), (.int (own_sup (p0 &&& 3)))])) t → Steps p.tables e below (s₁.setTop (mkF m 0 #[.val (.int p0), .unset, .unset, .unset, .unset] [])) t := by
        intro t h
        refine k41 t ?_
        show Steps p.tables e below (T19.setTop (mkF m 34 #[.val (.int p0), .val (.ref b15), .val (.int (1 : Int32)), .val (.int (0 : Int32)), .unset] [(.int (1 : Int32))])) _
        refine XS.ifYes X19.here hx rfl (pc0 := 34) (pc' := 41) rfl (hb hby at_34) rfl ((if0 _ _).trans (feq (by decide : ¬ ((1 : Int32) = (0 : Int32)))).2) (by decide) (by decide) ?_
        show Steps p.tables e below (T19.setTop (mkF m 41 #[.val (.int p0), .val (.ref b15), .val (.int (1 : Int32)), .val (.int (0 : Int32)), .unset] [])) _
        refine XS.iconst X19.here hx rfl (hb hby at_41) ?_
        show Steps p.tables e below (T19.setTop (mkF m 42 #[.val (.int p0), .val (.ref b15), .val (.int (1 : Int32)), .val (.int (0 : Int32)), .unset] [(.int (1 : Int32))])) _
        refine XS.goto X19.here hx rfl (pc0 := 42) (pc' := 46) rfl (hb hby at_42) (by decide) (by decide) ?_
        show Steps p.tables e below (T19.setTop (mkF m 46 #[.val (.int p0), .val (.ref b15), .val (.int (1 : Int32)), .val (.int (0 : Int32)), .unset] [(.int (1 : Int32))])) _
        refine XS.istore X19.here hx rfl (hb hby at_46) rfl (l' := #[.val (.int p0), .val (.ref b15), .val (.int (1 : Int32)), .val (.int (0 : Int32)), .val (.int (1 : Int32))]) rfl ?_
        show Steps p.tables e below (T19.setTop (mkF m 48 #[.val (.int p0), .val (.ref b15), .val (.int (1 : Int32)), .val (.int (0 : Int32)), .val (.int (1 : Int32))] [])) _
        refine XS.aloadN X19.here hx rfl (hb hby at_48) rfl rfl ?_
        show Steps p.tables e below (T19.setTop (mkF m 49 #[.val (.int p0), .val (.ref b15), .val (.int (1 : Int32)), .val (.int (0 : Int32)), .val (.int (1 : Int32))] [(.ref b15)])) _
        refine st42.trans ?_
        show Steps p.tables e below (T42.setTop (mkF m 52 #[.val (.int p0), .val (.ref b15), .val (.int (1 : Int32)), .val (.int (0 : Int32)), .val (.int (1 : Int32))] [(.int (own_sup (p0 &&& 3)))])) _
        refine XS.iload X42.here hx rfl (hb hby at_52) rfl ?_
        exact h
      have b54_44 : (own_sup (p0 &&& 3)) = (1 : Int32) := (own_all p0).2.2.1 c12_24
      have k45 : ∀ t, Steps p.tables e below (T42.setTop (mkF m 62 #[.val (.int p0), .val (.ref b15), .val (.int (1 : Int32)), .val (.int (0 : Int32)), .val (.int (1 : Int32))] [(.int (1 : Int32))])) t → Steps p.tables e below (s₁.setTop (mkF m 0 #[.val (.int p0), .unset, .unset, .unset, .unset] [])) t := by
        intro t h
        refine k43 t ?_
        show Steps p.tables e below (T42.setTop (mkF m 54 #[.val (.int p0), .val (.ref b15), .val (.int (1 : Int32)), .val (.int (0 : Int32)), .val (.int (1 : Int32))] [(.int (1 : Int32)), (.int (own_sup (p0 &&& 3)))])) _
        refine XS.icmpNo X42.here hx rfl (hb hby at_54) rfl (teq b54_44).2 ?_
        show Steps p.tables e below (T42.setTop (mkF m 57 #[.val (.int p0), .val (.ref b15), .val (.int (1 : Int32)), .val (.int (0 : Int32)), .val (.int (1 : Int32))] [])) _
        refine XS.iconst X42.here hx rfl (hb hby at_57) ?_
        show Steps p.tables e below (T42.setTop (mkF m 58 #[.val (.int p0), .val (.ref b15), .val (.int (1 : Int32)), .val (.int (0 : Int32)), .val (.int (1 : Int32))] [(.int (1 : Int32))])) _
        refine XS.goto X42.here hx rfl (pc0 := 58) (pc' := 62) rfl (hb hby at_58) (by decide) (by decide) ?_
        exact h
      obtain ⟨fs, hr, hrun, hended, hW, hsame⟩ := X42.leave (v := some (.int (1 : Int32))) (fun h => by rw [Bd.returns] at h; cases h)
      refine ⟨_, _, pre0 _ (k45 _ ?_), hrun, hended, _, _, rfl, ?_, ⟨_, rfl⟩, hW, hsame.mono (by decide) (by decide)⟩
      · exact retN X42 hx (t := .boolean) Bd.returns (by simp) (hb hby at_62) hr
      · show Q_rm0 Z _ h0 n0 _ T42.heap _
        rw [eq42]
        exact ⟨rfl, N42⟩
    · skip
      have k46 : ∀ t, Steps p.tables e below (T19.setTop (mkF m 34 #[.val (.int p0), .val (.ref b15), .val (.int (1 : Int32)), .val (.int (1 : Int32)), .unset] [(.int (1 : Int32))])) t → Steps p.tables e below (s₁.setTop (mkF m 0 #[.val (.int p0), .unset, .unset, .unset, .unset] [])) t := by
        intro t h
        refine k39 t ?_
        show Steps p.tables e below (T19.setTop (mkF m 24 #[.val (.int p0), .val (.ref b15), .val (.int (1 : Int32)), .unset, .unset] [(.int (p0 &&& (2 : Int32)))])) _
        refine XS.ifNo X19.here hx rfl (hb hby at_24) rfl ((if0 _ _).trans (feq c24_40).1) ?_
        show Steps p.tables e below (T19.setTop (mkF m 27 #[.val (.int p0), .val (.ref b15), .val (.int (1 : Int32)), .unset, .unset] [])) _
        refine XS.iconst X19.here hx rfl (hb hby at_27) ?_
        show Steps p.tables e below (T19.setTop (mkF m 28 #[.val (.int p0), .val (.ref b15), .val (.int (1 : Int32)), .unset, .unset] [(.int (1 : Int32))])) _
        refine XS.goto X19.here hx rfl (pc0 := 28) (pc' := 32) rfl (hb hby at_28) (by decide) (by decide) ?_
        show Steps p.tables e below (T19.setTop (mkF m 32 #[.val (.int p0), .val (.ref b15), .val (.int (1 : Int32)), .unset, .unset] [(.int (1 : Int32))])) _
        refine XS.istoreN X19.here hx rfl (hb hby at_32) rfl (l' := #[.val (.int p0), .val (.ref b15), .val (.int (1 : Int32)), .val (.int (1 : Int32)), .unset]) rfl ?_
        show Steps p.tables e below (T19.setTop (mkF m 33 #[.val (.int p0), .val (.ref b15), .val (.int (1 : Int32)), .val (.int (1 : Int32)), .unset] [])) _
        refine XS.iloadN X19.here hx rfl (hb hby at_33) rfl ?_
        exact h
      obtain ⟨cq47, kq47, q47a, q47b, q47c⟩ := isOf hZ rfl f20
      obtain ⟨_, _, ⟨T47, L47, k47, n47⟩, -, X47, ⟨Lc47, hQ47, l47, y47, z47⟩, st47⟩ := X19.virtualBack hx (y := (⟨"com/example/woodrat/woodrat/wire/PreLogin", "supportsEncryption", "()Z"⟩ : MethodName)) (z := (⟨"com/example/woodrat/woodrat/wire/PreLogin", "supportsEncryption", "()Z"⟩ : MethodName)) hown (mvT hZ (hw _ (List.mem_of_getElem? (i := 16) rfl))) (mvT hZ (hw _ (List.mem_of_getElem? (i := 17) rfl))) (notFace_of_selects (args := #[]) (mvT hZ (hw _ (List.mem_of_getElem? (i := 19) rfl)))) (mvT hZ (hw _ (List.mem_of_getElem? (i := 19) rfl))) (mvT hZ (hw _ (List.mem_of_getElem? (i := 18) rfl))) (by decide) (backOf (W := 0) (rmS l Z a0 hw [] b15 p0 T19.heap n0 Z21 Fq19) hZ (hw _ (List.mem_of_getElem? (i := 20) rfl)) (hw _ (List.mem_of_getElem? (i := 2) rfl)) (by decide) (by decide)) q47a q47c (g := (mkF m 49 #[.val (.int p0), .val (.ref b15), .val (.int (1 : Int32)), .val (.int (1 : Int32)), .val (.int (1 : Int32))] [(.ref b15)])) rfl (by rw [hml]; rfl) (Steps.refl _) (argsL := []) (rest := []) (lenOf own_pd_2 rfl) rfl (by show 2 * 0 + _ ≤ _; exact Nat.le_of_eq rfl) (hb hby at_49) (fun _ _ => ⟨rfl, rfl, (by decide : 1 + 0 ≤ _), (by decide : 1 + 0 ≤ _)⟩)
      dsimp only [Pt.U, Pt.locs, Pt.cells, Pt.slots] at X47 l47 y47 z47 st47 hQ47
      subst l47 y47 z47
      obtain ⟨rfl, Nq47, eq47⟩ := hQ47
      have N47 := Fr.app N19 Nq47
      have k48 : ∀ t, Steps p.tables e below (T47.setTop (mkF m 54 #[.val (.int p0), .val (.ref b15), .val (.int (1 : Int32)), .val (.int (1 : Int32)), .val (.int (1 : Int32))] [(.int (1 : Int32)), (.int (own_sup (p0 &&& 3)))])) t → Steps p.tables e below (s₁.setTop (mkF m 0 #[.val (.int p0), .unset, .unset, .unset, .unset] [])) t := by
        intro t h
        refine k46 t ?_
        show Steps p.tables e below (T19.setTop (mkF m 34 #[.val (.int p0), .val (.ref b15), .val (.int (1 : Int32)), .val (.int (1 : Int32)), .unset] [(.int (1 : Int32))])) _
        refine XS.ifYes X19.here hx rfl (pc0 := 34) (pc' := 41) rfl (hb hby at_34) rfl ((if0 _ _).trans (feq (by decide : ¬ ((1 : Int32) = (0 : Int32)))).2) (by decide) (by decide) ?_
        show Steps p.tables e below (T19.setTop (mkF m 41 #[.val (.int p0), .val (.ref b15), .val (.int (1 : Int32)), .val (.int (1 : Int32)), .unset] [])) _
        refine XS.iconst X19.here hx rfl (hb hby at_41) ?_
        show Steps p.tables e below (T19.setTop (mkF m 42 #[.val (.int p0), .val (.ref b15), .val (.int (1 : Int32)), .val (.int (1 : Int32)), .unset] [(.int (1 : Int32))])) _
        refine XS.goto X19.here hx rfl (pc0 := 42) (pc' := 46) rfl (hb hby at_42) (by decide) (by decide) ?_
        show Steps p.tables e below (T19.setTop (mkF m 46 #[.val (.int p0), .val (.ref b15), .val (.int (1 : Int32)), .val (.int (1 : Int32)), .unset] [(.int (1 : Int32))])) _
        refine XS.istore X19.here hx rfl (hb hby at_46) rfl (l' := #[.val (.int p0), .val (.ref b15), .val (.int (1 : Int32)), .val (.int (1 : Int32)), .val (.int (1 : Int32))]) rfl ?_
        show Steps p.tables e below (T19.setTop (mkF m 48 #[.val (.int p0), .val (.ref b15), .val (.int (1 : Int32)), .val (.int (1 : Int32)), .val (.int (1 : Int32))] [])) _
        refine XS.aloadN X19.here hx rfl (hb hby at_48) rfl rfl ?_
        show Steps p.tables e below (T19.setTop (mkF m 49 #[.val (.int p0), .val (.ref b15), .val (.int (1 : Int32)), .val (.int (1 : Int32)), .val (.int (1 : Int32))] [(.ref b15)])) _
        refine st47.trans ?_
        show Steps p.tables e below (T47.setTop (mkF m 52 #[.val (.int p0), .val (.ref b15), .val (.int (1 : Int32)), .val (.int (1 : Int32)), .val (.int (1 : Int32))] [(.int (own_sup (p0 &&& 3)))])) _
        refine XS.iload X47.here hx rfl (hb hby at_52) rfl ?_
        exact h
      have b54_49 : (own_sup (p0 &&& 3)) = (1 : Int32) := (own_all p0).2.2.1 c12_24
      have k50 : ∀ t, Steps p.tables e below (T47.setTop (mkF m 62 #[.val (.int p0), .val (.ref b15), .val (.int (1 : Int32)), .val (.int (1 : Int32)), .val (.int (1 : Int32))] [(.int (1 : Int32))])) t → Steps p.tables e below (s₁.setTop (mkF m 0 #[.val (.int p0), .unset, .unset, .unset, .unset] [])) t := by
        intro t h
        refine k48 t ?_
        show Steps p.tables e below (T47.setTop (mkF m 54 #[.val (.int p0), .val (.ref b15), .val (.int (1 : Int32)), .val (.int (1 : Int32)), .val (.int (1 : Int32))] [(.int (1 : Int32)), (.int (own_sup (p0 &&& 3)))])) _
        refine XS.icmpNo X47.here hx rfl (hb hby at_54) rfl (teq b54_49).2 ?_
        show Steps p.tables e below (T47.setTop (mkF m 57 #[.val (.int p0), .val (.ref b15), .val (.int (1 : Int32)), .val (.int (1 : Int32)), .val (.int (1 : Int32))] [])) _
        refine XS.iconst X47.here hx rfl (hb hby at_57) ?_
        show Steps p.tables e below (T47.setTop (mkF m 58 #[.val (.int p0), .val (.ref b15), .val (.int (1 : Int32)), .val (.int (1 : Int32)), .val (.int (1 : Int32))] [(.int (1 : Int32))])) _
        refine XS.goto X47.here hx rfl (pc0 := 58) (pc' := 62) rfl (hb hby at_58) (by decide) (by decide) ?_
        exact h
      obtain ⟨fs, hr, hrun, hended, hW, hsame⟩ := X47.leave (v := some (.int (1 : Int32))) (fun h => by rw [Bd.returns] at h; cases h)
      refine ⟨_, _, pre0 _ (k50 _ ?_), hrun, hended, _, _, rfl, ?_, ⟨_, rfl⟩, hW, hsame.mono (by decide) (by decide)⟩
      · exact retN X47 hx (t := .boolean) Bd.returns (by simp) (hb hby at_62) hr
      · show Q_rm0 Z _ h0 n0 _ T47.heap _
        rw [eq47]
        exact ⟨rfl, N47⟩
set_option maxRecDepth 65536 in
set_option maxHeartbeats 40000000 in
theorem comes_1 {Post : Tables → Env → Array Value → State → Outcome → State → Prop} (hpost : ∀ tb e args s v u, (limb_1_1.after args s (.returned v) u = true ∧ limb_1_2.after args s (.returned v) u = true ∧ True) → FrameEnd s (.returned v) u (Jvm.fieldLocs frame_1_writes args s ++ Jvm.arrayLocs frame_1_arrays args s ++ Jvm.staticLocs frame_1_statics s) 16 128 → Post tb e args s (.returned v) u) :
    ArmFor flags0 classFile x code maxLocals ret World_1 tables_1 room_1 Calls_1 rest_1 Pre_1 Post := by
  intro l hfl _ _ p e ha hc hk s m args below hf hA hF happ hP
  obtain ⟨hcalls, hrest, hpre⟩ := hP
  obtain ⟨-, -, -, hnamed, -, -, -, hat⟩ := (Spec.applies_iff hf).mp happ
  obtain ⟨hg, hn⟩ := and_e (Cond.before_iff.mp (show (Jvm.Cond.and given_1 narrow_1).before args s = true from hpre))
  obtain ⟨g1, g2⟩ := and_e hg
  obtain ⟨w0, rfl⟩ : ∃ w0 : Value, args = #[w0] := by
    have hs : args.size = 1 := by simpa [Cond.value, given_1] using g1
    obtain ⟨L⟩ := args
    match L, hs with
    | [w0], _ => exact ⟨w0, rfl⟩
  have hw := fun d (hd : d ∈ tables_1) => atoms_spec (ws := Jvm.Cond.code x code maxLocals ret :: tables_1) hat d (List.mem_cons_of_mem _ hd)
  have hfit : Fit s := fun {y c} hc i hi => by
    obtain ⟨ha, rfl⟩ := Array.getElem?_eq_some_iff.mp hc
    have q := List.all_eq_true.mp ((Array.all_eq_true_iff_forall_mem.mp hF) _ (Array.getElem_mem ha)) i (List.mem_range.mpr hi)
    simpa [Array.getElem?_eq_getElem hi] using q
  obtain ⟨i0, ei0⟩ := is_v g2
  obtain rfl : w0 = (.int i0) := Option.some.inj ei0
  obtain ⟨n, o, h1, h2, h3, _, L, rfl, ⟨rfl, N⟩, hq⟩ := rm0 l s _ hw tables_1 i0  s.heap s.heap.size (Nat.le_refl _)  p e ha hc hk s m _ below hf ((Spec.applies_iff_loose hf).mp happ).1 ⟨rfl, State.Warmed39.refl s, rfl⟩ trivial
  refine ⟨n, _, h1, h2, h3, hpost _ _ _ _ _ _ ⟨Cond.after_iff.mpr rfl, Cond.after_iff.mpr (eq_i res_at (Term.int_eval (1)) rfl), trivial⟩ ⟨hq.1, hq.2.1, (hq.2.2.sift fun y hy => Or.inr (N y hy)).mono (by decide) (by decide)⟩⟩
theorem main_1_1 : Claimed_1_1 := comes_1 fun _ _ _ _ _ _ h hF => ⟨h.1, hF⟩
theorem main_1_2 : Claimed_1_2 := comes_1 fun _ _ _ _ _ _ h hF => ⟨h.2.1, hF⟩
end Jvm.Pilot.@@N@@
namespace Jvm.Pilot.@@N@@
open Jvm Jvm.ClassFile Sem Op Lib Jvm.Free Jvm.Stand Jvm.Pilot.@@N@@.Jvm.D
/-! MADE BY PROGRAM (witnessworld.py) out of the Statement's table words and the real class files: 10 classes; the members and pool entries that the words name. The judged class is class 1, her method 1. -/
namespace start1
open Jvm.ClassFile
def u (s : String) : CpInfo := .utf8 (stringToUtf16 s)
/-- a pool by its gaps: so many unusable entries, then the entry; so many at the end -/
def gap : Nat → List CpInfo → List CpInfo
  | 0, r => r
  | n + 1, r => .unusable :: gap n r
def poolList (es : List (Nat × CpInfo)) (last : Nat) : List CpInfo := es.foldr (fun e r => gap e.1 (e.2 :: r)) (gap last [])
def pool (es : List (Nat × CpInfo)) (last : Nat) : Array CpInfo := ⟨poolList es last⟩
def fileOf (pool : Array CpInfo) (this : Nat) (attrs : Array Attribute := #[]) (ms : Array MethodInfo := #[]) (fl : Nat := 33) (sup : Nat := 0) (ifs : Array Nat := #[]) (fds : Array FieldInfo := #[]) : ClassFile where
  minorVersion := 0
  majorVersion := 65
  constantPool := pool
  accessFlags := fl
  thisClass := this
  superClass := sup
  interfaces := ifs
  fields := fds
  methods := ms
  attributes := attrs
def plain (name : String) (sup : Option ClassId) : Class where
  name := name
  kind := .ordinary
  loader := none
  accessFlags := 33
  super := sup
  interfaces := #[]
  cf := none
  fields := #[]
  methods := #[]
  instanceTypes := #[]
  staticTypes := #[]
  resolved := #[]
  callSites := []
  init := .initialized
  statics := none
  mirror := none

def pool0 : Array CpInfo := pool [(5, u "<init>"), (0, u "()V"), (1, .class_ 10), (1, u "java/lang/Object")] 113

def k0c0 : Code := { maxStack := 0, maxLocals := 1, code := object_method_1_code, exceptionTable := #[], attributes := #[] }
def k0m0 : Method := { name := "<init>", desc := "()V", sig := { parameters := [], returnType := none }, accessFlags := 1, code := some k0c0 }
/-- java/lang/Object -/
def k0 : Class := { plain "java/lang/Object" none with
  accessFlags := 33
  interfaces := #[]
  cf := some (fileOf pool0 8 #[] #[{ accessFlags := 1, nameIndex := 5, descriptorIndex := 6, attributes := #[] }] 33 0 #[] #[])
  fields := #[]
  methods := #[k0m0]
  instanceTypes := #[]
  staticTypes := #[]
  resolved := Array.replicate 124 none
  statics := none }

def pool1 : Array CpInfo := pool [(2, .class_ 4), (1, u "java/lang/Object"), (0, u "<init>"), (0, u "()V"), (0, .class_ 8), (0, u "com/example/woodrat/woodrat/wire/PreLogin"), (0, .methodref 7 10), (0, .nameAndType 5 11), (0, u "(I)V"), (0, .methodref 7 13), (0, .nameAndType 14 15), (0, u "supportsEncryption"), (0, u "()Z"), (0, .class_ 17), (0, u "com/example/woodrat/woodrat/wire/PreLoginSupportsEncryptionPinLaw"), (2, u "law"), (0, u "(I)Z")] 3

def k1m0 : Method := { name := "<init>", desc := "()V", sig := { parameters := [], returnType := none }, accessFlags := 2, code := none }
def k1c1 : Code := { maxStack := 3, maxLocals := 5, code := code, exceptionTable := #[], attributes := #[] }
def k1m1 : Method := { name := "law", desc := "(I)Z", sig := { parameters := [.int], returnType := some .boolean }, accessFlags := 9, code := some k1c1 }
/-- com/example/woodrat/woodrat/wire/PreLoginSupportsEncryptionPinLaw -/
def k1 : Class := { plain "com/example/woodrat/woodrat/wire/PreLoginSupportsEncryptionPinLaw" (some 0) with
  accessFlags := 49
  interfaces := #[]
  cf := some (fileOf pool1 16 #[] #[{ accessFlags := 2, nameIndex := 5, descriptorIndex := 6, attributes := #[] }, { accessFlags := 9, nameIndex := 20, descriptorIndex := 21, attributes := #[] }] 49 2 #[] #[])
  fields := #[]
  methods := #[k1m0, k1m1]
  instanceTypes := #[]
  staticTypes := #[]
  resolved := Array.replicate 25 none
  statics := none }

def pool2 : Array CpInfo := pool [(1, .methodref 2 3), (0, .class_ 4), (0, .nameAndType 5 6), (0, u "java/lang/Object"), (0, u "<init>"), (0, u "()V"), (0, .class_ 8), (0, u "java/lang/Record")] 13

def k2c0 : Code := { maxStack := 1, maxLocals := 1, code := jdk_30_method_1_code, exceptionTable := #[], attributes := #[] }
def k2m0 : Method := { name := "<init>", desc := "()V", sig := { parameters := [], returnType := none }, accessFlags := 4, code := some k2c0 }
/-- java/lang/Record -/
def k2 : Class := { plain "java/lang/Record" (some 0) with
  accessFlags := 1057
  interfaces := #[]
  cf := some (fileOf pool2 7 #[] #[{ accessFlags := 4, nameIndex := 5, descriptorIndex := 6, attributes := #[] }] 1057 2 #[] #[])
  fields := #[]
  methods := #[k2m0]
  instanceTypes := #[]
  staticTypes := #[]
  resolved := Array.replicate 22 none
  statics := none }

def pool3 : Array CpInfo := pool [(1, .methodref 2 3), (0, .class_ 4), (0, .nameAndType 5 6), (0, u "java/lang/Record"), (0, u "<init>"), (0, u "()V"), (0, .fieldref 8 9), (0, .class_ 10), (0, .nameAndType 11 12), (0, u "com/example/woodrat/woodrat/wire/PreLogin"), (0, u "encryption"), (0, u "I"), (15, u "(I)V"), (28, u "ENCRYPT_OFF"), (2, u "ENCRYPT_ON"), (1, u "ENCRYPT_NOT_SUP"), (1, u "ENCRYPT_REQ"), (1, u "ENCRYPT_VALUE"), (0, u "VERSION"), (0, u "ENCRYPTION"), (0, u "INSTOPT"), (0, u "THREADID"), (0, u "MARS"), (1, u "TERMINATOR"), (1, u "ENTRY_LENGTH"), (9, u "()Z"), (0, u "supportsEncryption")] 36

def k3c0 : Code := { maxStack := 2, maxLocals := 2, code := prog_72_method_1_code, exceptionTable := #[], attributes := #[] }
def k3m0 : Method := { name := "<init>", desc := "(I)V", sig := { parameters := [.int], returnType := none }, accessFlags := 1, code := some k3c0 }
def k3c1 : Code := { maxStack := 2, maxLocals := 1, code := prog_72_method_4_code, exceptionTable := #[], attributes := #[] }
def k3m1 : Method := { name := "supportsEncryption", desc := "()Z", sig := { parameters := [], returnType := some .boolean }, accessFlags := 1, code := some k3c1 }
/-- com/example/woodrat/woodrat/wire/PreLogin -/
def k3 : Class := { plain "com/example/woodrat/woodrat/wire/PreLogin" (some 2) with
  accessFlags := 49
  interfaces := #[]
  cf := some (fileOf pool3 8 #[] #[{ accessFlags := 1, nameIndex := 5, descriptorIndex := 28, attributes := #[] }, { accessFlags := 1, nameIndex := 86, descriptorIndex := 85, attributes := #[] }] 49 2 #[] #[{ accessFlags := 18, nameIndex := 11, descriptorIndex := 12, attributes := #[] }, { accessFlags := 25, nameIndex := 57, descriptorIndex := 12, attributes := #[] }, { accessFlags := 25, nameIndex := 60, descriptorIndex := 12, attributes := #[] }, { accessFlags := 25, nameIndex := 62, descriptorIndex := 12, attributes := #[] }, { accessFlags := 25, nameIndex := 64, descriptorIndex := 12, attributes := #[] }, { accessFlags := 26, nameIndex := 66, descriptorIndex := 12, attributes := #[] }, { accessFlags := 26, nameIndex := 67, descriptorIndex := 12, attributes := #[] }, { accessFlags := 26, nameIndex := 68, descriptorIndex := 12, attributes := #[] }, { accessFlags := 26, nameIndex := 69, descriptorIndex := 12, attributes := #[] }, { accessFlags := 26, nameIndex := 70, descriptorIndex := 12, attributes := #[] }, { accessFlags := 26, nameIndex := 71, descriptorIndex := 12, attributes := #[] }, { accessFlags := 26, nameIndex := 73, descriptorIndex := 12, attributes := #[] }, { accessFlags := 26, nameIndex := 75, descriptorIndex := 12, attributes := #[] }])
  fields := #[{ name := "encryption", type := .int, accessFlags := 18, slot := 0, constantValue := 0 }, { name := "ENCRYPT_OFF", type := .int, accessFlags := 25, slot := 0, constantValue := 0 }, { name := "ENCRYPT_ON", type := .int, accessFlags := 25, slot := 1, constantValue := 0 }, { name := "ENCRYPT_NOT_SUP", type := .int, accessFlags := 25, slot := 2, constantValue := 0 }, { name := "ENCRYPT_REQ", type := .int, accessFlags := 25, slot := 3, constantValue := 0 }, { name := "ENCRYPT_VALUE", type := .int, accessFlags := 26, slot := 4, constantValue := 0 }, { name := "VERSION", type := .int, accessFlags := 26, slot := 5, constantValue := 0 }, { name := "ENCRYPTION", type := .int, accessFlags := 26, slot := 6, constantValue := 0 }, { name := "INSTOPT", type := .int, accessFlags := 26, slot := 7, constantValue := 0 }, { name := "THREADID", type := .int, accessFlags := 26, slot := 8, constantValue := 0 }, { name := "MARS", type := .int, accessFlags := 26, slot := 9, constantValue := 0 }, { name := "TERMINATOR", type := .int, accessFlags := 26, slot := 10, constantValue := 0 }, { name := "ENTRY_LENGTH", type := .int, accessFlags := 26, slot := 11, constantValue := 0 }]
  methods := #[k3m0, k3m1]
  instanceTypes := #[.int]
  staticTypes := #[.int, .int, .int, .int, .int, .int, .int, .int, .int, .int, .int, .int]
  resolved := Array.replicate 123 none
  statics := none }

def pool4 : Array CpInfo := pool [(1, u "java/lang/Cloneable"), (0, .class_ 1), (0, u "java/lang/Object"), (0, .class_ 3)] 3

/-- java/lang/Cloneable -/
def k4 : Class := { plain "java/lang/Cloneable" (some 0) with
  accessFlags := 1537
  interfaces := #[]
  cf := some (fileOf pool4 2 #[] #[] 1537 4 #[] #[])
  fields := #[]
  methods := #[]
  instanceTypes := #[]
  staticTypes := #[]
  resolved := Array.replicate 8 none
  statics := none }

def pool5 : Array CpInfo := pool [(1, u "java/io/Serializable"), (0, .class_ 1), (0, u "java/lang/Object"), (0, .class_ 3)] 3

/-- java/io/Serializable -/
def k5 : Class := { plain "java/io/Serializable" (some 0) with
  accessFlags := 1537
  interfaces := #[]
  cf := some (fileOf pool5 2 #[] #[] 1537 4 #[] #[])
  fields := #[]
  methods := #[]
  instanceTypes := #[]
  staticTypes := #[]
  resolved := Array.replicate 8 none
  statics := none }

/-- the primitive byte -/
def k6 : Class := { plain "byte" none with kind := .primitive 'B', accessFlags := 0x411 }
/-- [B -/
def k7 : Class := { plain "[B" (some 0) with kind := .array 6 .byte, interfaces := #[4, 5], accessFlags := 1041 }

/-- the primitive int -/
def k8 : Class := { plain "int" none with kind := .primitive 'I', accessFlags := 0x411 }
/-- [I -/
def k9 : Class := { plain "[I" (some 0) with kind := .array 8 .int, interfaces := #[4, 5], accessFlags := 1041 }

def heap : Heap := #[]
def classes : Array Class := #[k0, k1, k2, k3, k4, k5, k6, k7, k8, k9]
def interned : List (Array UInt16 × Addr) := []
def slotsUsed : Nat := 0
def theMethod : MethodId := ⟨1, 1⟩
def args0 : Array Value := #[.int 5]
def aboutOver (below : List Frame) : State where
  vm := { classes := classes, interned := interned.toArray }
  heap := heap
  slotsUsed := slotsUsed
  threads := #[{ frames := .invoking theMethod args0 :: below }]
def below0 : List Frame := [.native { method := ⟨0, 0⟩, args := #[] }]
def about1 : State := aboutOver below0
def p0 : Program := .bare "" "" ""
def e0 : Env := launch0.env 0 0 0
theorem w_frames : about1.frames = Frame.invoking theMethod args0 :: below0 := rfl
set_option maxRecDepth 65536 in
theorem w_args : argsFit about1.vm theMethod args0 = true := by decide +kernel
set_option maxRecDepth 65536 in
theorem w_heap : heapFits about1 = true := by decide +kernel
set_option maxRecDepth 65536 in
theorem w_runnable : about1.curStatus? = some .runnable := by decide +kernel
set_option maxRecDepth 65536 in
theorem w_alone : about1.alone = true := by decide +kernel
set_option maxRecDepth 65536 in
theorem w_named : about1.methodNamed? x = some theMethod := by decide +kernel
set_option maxRecDepth 65536 in
theorem w_hears : about1.hears theMethod below0 = true := by decide +kernel
set_option maxRecDepth 65536 in
theorem w_ripe : about1.ripe theMethod args0 below0 = true := by decide +kernel
theorem w_running : about1.status = .running := rfl
set_option maxRecDepth 65536 in
theorem w_room : about1.hasRoom e0.platform room_1 = true :=
  launch0.hasRoom_least _ room_1 (by decide +kernel) (by decide +kernel) (by decide +kernel) (by decide +kernel) (by decide +kernel) (by decide +kernel)
theorem allAtoms_all (ts : List Jvm.Cond) (a : Array Jvm.Value) (st : Jvm.State) : (allAtoms ts).before a st = ts.all (fun c => c.before a st) := by
  induction ts with
  | nil => rfl
  | cons c t ih =>
    show (Jvm.Cond.and c (allAtoms t)).before a st = _
    rw [Jvm.Cond.before_and, ih, List.all_cons]
def words1 : List Jvm.Cond := Jvm.Cond.code x code maxLocals ret :: tables_1
/-- a 'code' word, met by the world's own term for the bytes: nothing is compared byte by byte -/
theorem code_word {y : MethodName} {bytes : ByteArray} {mx : Nat} {rt : Option FieldType} {a : Array Value} {s : State} {m : MethodId} {meth : Method} {c : Code} (h1 : s.methodNamed? y = some m) (h2 : s.vm.method? m = some meth) (h3 : meth.code = some c) (h4 : c.code = bytes)
    (h5 : (c.maxLocals == mx && c.exceptionTable.isEmpty && decide (c.maxStack ≤ mostOperands) && decide (meth.sig.returnType = rt) && !meth.locks && decide (parseMethodDescriptor y.desc = some meth.sig)) = true) : (Jvm.Cond.code y bytes mx rt).before a s = true := by
  simp only [Bool.and_eq_true, beq_iff_eq, Bool.not_eq_true', decide_eq_true_eq] at h5
  obtain ⟨⟨⟨⟨⟨g1, g2⟩, g3⟩, g4⟩, g5⟩, g6⟩ := h5
  simp [Cond.before, Cond.holds, Cond.value, h1, h2, h3, h4, g1, g2, g3, g4, g5, g6]
def isCode : Jvm.Cond → Bool
  | .code _ _ _ _ => true
  | _ => false
theorem all_split {L : List Jvm.Cond} {P : Jvm.Cond → Bool} (h1 : L.all (fun c => isCode c || P c) = true) (h2 : ∀ c ∈ L.filter isCode, P c = true) : L.all P = true := by
  refine List.all_eq_true.mpr fun c hc => ?_
  have h := List.all_eq_true.mp h1 c hc
  rcases Bool.eq_false_or_eq_true (isCode c) with hi | hi
  · exact h2 c (List.mem_filter.mpr ⟨hc, hi⟩)
  · simpa [hi] using h
set_option maxRecDepth 65536 in
theorem w_c0 : (Jvm.Cond.code x code maxLocals ret).before args0 about1 = true := code_word (m := ⟨1, 1⟩) (meth := k1m1) (c := k1c1) (by decide +kernel) rfl rfl rfl (by decide +kernel)
set_option maxRecDepth 65536 in
theorem w_c1 : (Jvm.Cond.code ({ cls := "com/example/woodrat/woodrat/wire/PreLogin", name := "<init>", desc := "(I)V" } : Jvm.MethodName) prog_72_method_1_code (2 : Nat) (Option.none : Option Jvm.ClassFile.FieldType)).before args0 about1 = true := code_word (m := ⟨3, 0⟩) (meth := k3m0) (c := k3c0) (by decide +kernel) rfl rfl rfl (by decide +kernel)
set_option maxRecDepth 65536 in
theorem w_c2 : (Jvm.Cond.code ({ cls := "java/lang/Record", name := "<init>", desc := "()V" } : Jvm.MethodName) jdk_30_method_1_code (1 : Nat) (Option.none : Option Jvm.ClassFile.FieldType)).before args0 about1 = true := code_word (m := ⟨2, 0⟩) (meth := k2m0) (c := k2c0) (by decide +kernel) rfl rfl rfl (by decide +kernel)
set_option maxRecDepth 65536 in
theorem w_c3 : (Jvm.Cond.code ({ cls := "java/lang/Object", name := "<init>", desc := "()V" } : Jvm.MethodName) object_method_1_code (1 : Nat) (Option.none : Option Jvm.ClassFile.FieldType)).before args0 about1 = true := code_word (m := ⟨0, 0⟩) (meth := k0m0) (c := k0c0) (by decide +kernel) rfl rfl rfl (by decide +kernel)
set_option maxRecDepth 65536 in
theorem w_c4 : (Jvm.Cond.code ({ cls := "com/example/woodrat/woodrat/wire/PreLogin", name := "supportsEncryption", desc := "()Z" } : Jvm.MethodName) prog_72_method_4_code (1 : Nat) (Option.some Jvm.ClassFile.FieldType.boolean)).before args0 about1 = true := code_word (m := ⟨3, 1⟩) (meth := k3m1) (c := k3c1) (by decide +kernel) rfl rfl rfl (by decide +kernel)
def codes1 : List Jvm.Cond := [Jvm.Cond.code x code maxLocals ret, Jvm.Cond.code ({ cls := "com/example/woodrat/woodrat/wire/PreLogin", name := "<init>", desc := "(I)V" } : Jvm.MethodName) prog_72_method_1_code (2 : Nat) (Option.none : Option Jvm.ClassFile.FieldType), Jvm.Cond.code ({ cls := "java/lang/Record", name := "<init>", desc := "()V" } : Jvm.MethodName) jdk_30_method_1_code (1 : Nat) (Option.none : Option Jvm.ClassFile.FieldType), Jvm.Cond.code ({ cls := "java/lang/Object", name := "<init>", desc := "()V" } : Jvm.MethodName) object_method_1_code (1 : Nat) (Option.none : Option Jvm.ClassFile.FieldType), Jvm.Cond.code ({ cls := "com/example/woodrat/woodrat/wire/PreLogin", name := "supportsEncryption", desc := "()Z" } : Jvm.MethodName) prog_72_method_4_code (1 : Nat) (Option.some Jvm.ClassFile.FieldType.boolean)]
set_option maxRecDepth 65536 in
theorem codes_eq : words1.filter isCode = codes1 := rfl
theorem w_codes : ∀ c ∈ words1.filter isCode, c.before args0 about1 = true := by
  rw [codes_eq]
  intro c hc
  simp only [codes1, List.mem_cons, List.not_mem_nil, or_false] at hc
  rcases hc with rfl | rfl | rfl | rfl | rfl
  · exact w_c0
  · exact w_c1
  · exact w_c2
  · exact w_c3
  · exact w_c4
set_option maxRecDepth 65536 in
theorem w_t1 : words1.all (fun c => isCode c || c.before args0 about1) = true := by decide +kernel
theorem w_tables : (allAtoms (Jvm.Cond.code x code maxLocals ret :: tables_1)).before args0 about1 = true := by
  rw [allAtoms_all]
  show words1.all (fun c => c.before args0 about1) = true
  refine all_split ?_ w_codes
  rw [w_t1]
set_option maxRecDepth 65536 in
theorem w_case : (Jvm.Cond.and given_1 narrow_1).before args0 about1 = true := by decide +kernel
theorem w_applies : (headSpec (Jvm.Cond.code x code maxLocals ret :: tables_1) room_1).applies x e0.platform about1 = true :=
  (Spec.applies_iff w_frames).mpr ⟨w_running, w_runnable, w_alone, w_named, w_hears, w_ripe, w_room, w_tables⟩
theorem atStart : AtStart classFile x code maxLocals ret World_1 tables_1 room_1 Calls_1 rest_1 Pre_1 launch0 p0 e0 about1 theMethod args0 below0 :=
  ⟨lists_1, trivial, launch0.admits_env _ _ _, launch0.least_env, fairChoices_fair.cas, fairChoices_fair.clock, w_frames, w_args, w_heap, w_applies, trivial, trivial, w_case⟩
end start1
theorem witness_1 : WitnessClaimed_1 := ⟨start1.p0, start1.e0, start1.about1, start1.theMethod, start1.args0, start1.below0, start1.atStart⟩
end Jvm.Pilot.@@N@@
